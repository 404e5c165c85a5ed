import JvmDerived
import JvmDerived.Pilot.@@N@@Statement
import JvmDerived.Pilot.@@N@@Code
set_option linter.unusedVariables false
set_option linter.unusedSimpArgs false
namespace Jvm.RoadKit
open Sem ClassFile Op Lib Jvm.Stand Jvm.Free Jvm.LawKit
section New
variable {p : Program} {l : Launch} {e : Env} {R : Room} {s : State} {m : MethodId} {args : Array Value} {below : List Frame} {meth : Method} {c : Code} {T : State} {locs : List Loc} {cells slots : Nat}
theorem retI (X : Stand p l e R s m args below meth c T locs cells slots) (hx : p.tables.exec = Jvm.exec) {pc : Nat} {Ls : Array Slot} {z : Int32} {rest : List Value} (hret : meth.sig.returnType = some .int) (hd : decode c.code pc = .ok (.ireturn, 1)) {fs : List Frame}
    (hl : ∀ (f : JFrame) (acts : List Action), f.method = m → f.locked = none → f.entered = [] → (doReturn e (T.setTop f) acts (some (.int z))).1 = T.setFrames fs) : Steps p.tables e below (T.setTop (mkF m pc Ls (.int z :: rest))) (T.setFrames fs) := by
  have hm' : T.vm.method? m = some meth := X.method'
  have hn : narrow .int (.int z) = .int z := rfl
  show Steps p.tables e below (T.setTop { method := m, pc := pc, locals := Ls, stack := _ :: rest, locked := none }) _
  jvm_step X.here [X.here.top, hx, hd, hm', hret, hn]
  first | (intro acts; rw [hl _ acts rfl rfl rfl]) | rw [hl _ _ rfl rfl rfl]
  exact Steps.refl _
end New
end Jvm.RoadKit
namespace Jvm.Pilot.@@N@@
open Jvm Jvm.FP Jvm.Free.Fl Jvm.ClassFile Sem Op Lib Jvm.Free Jvm.Stand Jvm.LawKit Jvm.RoadKit Bundle Jvm.Pilot.@@N@@.Jvm.D
theorem own_w {a0 : Array Value} {Z : State} (hw : ∀ d ∈ tables_1, d.before a0 Z = true) (k : Nat) {d : Jvm.Cond} (h : tables_1[k]? = some d := by rfl) : d.before a0 Z = true := hw _ (List.mem_of_getElem? h)
theorem own_neq {a b : Nat} (h : a < b ∨ b < a) : a ≠ b := by omega
abbrev oI (x : Int32) : Slot := .val (.int x)
abbrev oR (a : Addr) : Slot := .val (.ref a)
abbrev oJ (x : Int64) : Slot := .val (.long x)
abbrev oD (x : UInt64) : Slot := .val (.double x)
/-- from the state A the run comes to an end of which Q holds -/
def own_Go (p : Program) (e : Env) (below : List Frame) (Q : Outcome → State → Prop) (A : State) : Prop := ∃ s₂ o, Steps p.tables e below A s₂ ∧ s₂.status = .running ∧ Ended s₂ below o ∧ Q o s₂
theorem own_via {p : Program} {e : Env} {below : List Frame} {Q : Outcome → State → Prop} {A B : State} (h : ∀ t, Steps p.tables e below B t → Steps p.tables e below A t) (g : own_Go p e below Q B) : own_Go p e below Q A := by
  obtain ⟨s₂, o, h1, h2⟩ := g
  exact ⟨s₂, o, h _ h1, h2⟩
theorem own_tr {p : Program} {e : Env} {below : List Frame} {Q : Outcome → State → Prop} {A B : State} (h : Steps p.tables e below A B) (g : own_Go p e below Q B) : own_Go p e below Q A := by
  obtain ⟨s₂, o, h1, h2⟩ := g
  exact ⟨s₂, o, h.trans h1, h2⟩
/-- from the state A the run comes to a state B of which Φ holds -/
def own_Pc (p : Program) (e : Env) (below : List Frame) (Φ : State → Prop) (A : State) : Prop := ∃ B, (∀ t, Steps p.tables e below B t → Steps p.tables e below A t) ∧ Φ B
theorem own_pvia {p : Program} {e : Env} {below : List Frame} {Φ : State → Prop} {A B : State} (h : ∀ t, Steps p.tables e below B t → Steps p.tables e below A t) (g : own_Pc p e below Φ B) : own_Pc p e below Φ A := by
  obtain ⟨B', h1, h2⟩ := g
  exact ⟨B', fun t k => h t (h1 t k), h2⟩
theorem own_ptr {p : Program} {e : Env} {below : List Frame} {Φ : State → Prop} {A B : State} (h : Steps p.tables e below A B) (g : own_Pc p e below Φ B) : own_Pc p e below Φ A := own_pvia (fun t k => h.trans k) g
theorem own_start {p : Program} {e : Env} {below : List Frame} {Q : Outcome → State → Prop} {A : State} (h : own_Go p e below Q A) : ∃ s₂ o, Steps p.tables e below A s₂ ∧ s₂.status = .running ∧ Ended s₂ below o ∧ Q o s₂ := h
theorem own_dconst0 : FP.dconst0 = FP.l2d (0 : Int64) := by decide +kernel
theorem own_dconst1 : FP.dconst1 = FP.l2d (1 : Int64) := by decide +kernel
theorem own_b53i (x : Int32) : B53 x.toInt64 := by
  have h := rng32 x
  have e := c_i2l x
  constructor <;> omega
def own_bd (k : Int) (x : Int64) : Prop := 0 ≤ x.toInt ∧ x.toInt ≤ k * 1048575
theorem own_bd0 : own_bd 1 (0 : Int64) := by constructor <;> decide
theorem own_bdi {k : Int} {P : Prop} [Decidable P] {a b : Int64} (h1 : own_bd k a) (h2 : own_bd k b) : own_bd k (if P then a else b) := by
  split
  · exact h1
  · exact h2
theorem own_bda {j k : Int} {a b : Int64} (h1 : own_bd j a) (h2 : own_bd k b) (h : j + k ≤ 100) : own_bd (j + k) (a + b) := by
  obtain ⟨a1, a2⟩ := h1
  obtain ⟨b1, b2⟩ := h2
  have q := c_ladd a b
  have r := rng64 (a + b)
  constructor <;> omega
theorem own_b53 {k : Int} {a : Int64} (h1 : own_bd k a) (h : k ≤ 100) : B53 a := by
  obtain ⟨a1, a2⟩ := h1
  constructor <;> omega
def own_e (x q1 q2 q3 : Int32) (A B C : Int64) : Int64 := if q3 = x then C else (if q2 = x then B else (if q1 = x then A else (0 : Int64)))
def own_W1 (Z : State) (h : Heap) (n0 : Nat) (this : Addr) (w0_ : Int64) : Prop := ∃ (arr : Addr) (k : ClassId), (n0 ≤ this ∧ @LT.lt Nat instLTNat this arr) ∧ Exa Z h this "com/example/coupewise/coupewise/WeightedDraw" ∧ Fld Z h this "com/example/coupewise/coupewise/WeightedDraw" "leaves" "I" (.int (1 : Int32)) ∧ Fld Z h this "com/example/coupewise/coupewise/WeightedDraw" "sums" "[D" (.ref arr) ∧ Arv Z h arr k .double (2 : Int32) [(.double (FP.l2d (0 : Int64))), (.double (FP.l2d w0_))] (.double (FP.l2d (0 : Int64)))
theorem own_exa1 {Z : State} {h : Heap} {n0 : Nat} {this : Addr} {w0_ : Int64} (H : own_W1 Z h n0 this w0_) : Exa Z h this "com/example/coupewise/coupewise/WeightedDraw" := by
  obtain ⟨_, _, -, E, -⟩ := H
  exact E
def own_sel1 (p : Int32) (w0_ : Int64) : Int64 := w0_
theorem d1_0 : decode prog_11_method_1_code 0 = .ok (.aload_n 0, 1) := by decide +kernel
theorem d1_1 : decode prog_11_method_1_code 1 = .ok (.invokespecial 1, 3) := by decide +kernel
theorem d1_4 : decode prog_11_method_1_code 4 = .ok (.aload_n 0, 1) := by decide +kernel
theorem d1_5 : decode prog_11_method_1_code 5 = .ok (.iload_n 1, 1) := by decide +kernel
theorem d1_6 : decode prog_11_method_1_code 6 = .ok (.putfield 7, 3) := by decide +kernel
theorem d1_9 : decode prog_11_method_1_code 9 = .ok (.iconst 1, 1) := by decide +kernel
theorem d1_10 : decode prog_11_method_1_code 10 = .ok (.istore_n 2, 1) := by decide +kernel
theorem d1_11 : decode prog_11_method_1_code 11 = .ok (.iload_n 2, 1) := by decide +kernel
theorem d1_12 : decode prog_11_method_1_code 12 = .ok (.iload_n 1, 1) := by decide +kernel
theorem d1_13 : decode prog_11_method_1_code 13 = .ok (.if_icmp .ge 10, 3) := by decide +kernel
theorem d1_23 : decode prog_11_method_1_code 23 = .ok (.aload_n 0, 1) := by decide +kernel
theorem d1_24 : decode prog_11_method_1_code 24 = .ok (.iload_n 2, 1) := by decide +kernel
theorem d1_25 : decode prog_11_method_1_code 25 = .ok (.putfield 13, 3) := by decide +kernel
theorem d1_28 : decode prog_11_method_1_code 28 = .ok (.aload_n 0, 1) := by decide +kernel
theorem d1_29 : decode prog_11_method_1_code 29 = .ok (.iconst 2, 1) := by decide +kernel
theorem d1_30 : decode prog_11_method_1_code 30 = .ok (.iload_n 2, 1) := by decide +kernel
theorem d1_31 : decode prog_11_method_1_code 31 = .ok (.imul, 1) := by decide +kernel
theorem d1_32 : decode prog_11_method_1_code 32 = .ok (.newarray .double, 2) := by decide +kernel
theorem d1_34 : decode prog_11_method_1_code 34 = .ok (.putfield 16, 3) := by decide +kernel
theorem d1_37 : decode prog_11_method_1_code 37 = .ok (.return_, 1) := by decide +kernel
theorem pn_1 : plainName "com/example/coupewise/coupewise/WeightedDraw" = true := by first | (simp [plainName, overriddenIn]; done) | decide +kernel
theorem ef_rm1_1 (m : MethodId) (q0 : Addr) (q1 : Int32) : entryFrame m #[(.ref q0), (.int q1)] 3 = mkF m 0 #[oR q0, oI q1, .unset] [] := by first | (simp [entryFrame, mkF, argsToLocals, Value.category]; done) | rfl
def Q1_1 (Z : State) (this : Addr) (p1 : Int32) (h0 : Heap) (n0 : Nat) (v : Option Value) (h : Heap) (L : List Loc) : Prop := v = none ∧ Fr n0 L ∧ n0 ≤ h.size ∧ own_W1 Z h n0 this 0
set_option maxRecDepth 65536 in
set_option maxHeartbeats 40000000 in
theorem rm1_1 (l : Launch) (Z : State) (a0 : Array Value) (hw : ∀ d ∈ tables_1, d.before a0 Z = true) (ws : List Jvm.Cond) (this : Addr) (p1 : Int32) (h0 : Heap) (n0 : Nat) (Z0 : n0 ≤ h0.size) (g_this : n0 ≤ this) (E_this : Exa Z h0 this "com/example/coupewise/coupewise/WeightedDraw") (F_size : Fld Z h0 this "com/example/coupewise/coupewise/WeightedDraw" "size" "I" (.int (0 : Int32))) (F_leaves : Fld Z h0 this "com/example/coupewise/coupewise/WeightedDraw" "leaves" "I" (.int (0 : Int32))) (F_sums : Fld Z h0 this "com/example/coupewise/coupewise/WeightedDraw" "sums" "[D" .null) (hs : p1 = 1) :
    MetFree l (⟨"com/example/coupewise/coupewise/WeightedDraw", "<init>", "(I)V"⟩ : MethodName) (head1 (Jvm.Cond.code (⟨"com/example/coupewise/coupewise/WeightedDraw", "<init>", "(I)V"⟩ : MethodName) prog_11_method_1_code 3 none :: ws) ({ frames := 1, cells := 1, slots := 2, locals := 12 } : Room)) (fun a U => a = #[(.ref this), (.int p1)] ∧ Z.Warmed39 U.vm ∧ U.heap = h0) (fun _ _ _ _ _ => True) (fun _ U o U' => ∃ v L, o = .returned v ∧ Q1_1 Z this p1 h0 n0 v U'.heap L ∧ FrameEnd U o U' L ({ frames := 1, cells := 1, slots := 2, locals := 12 } : Room).cells ({ frames := 1, cells := 1, slots := 2, locals := 12 } : Room).slots) := by
  refine MetFree.of_bodySF (plainFor_of_name pn_1) hisR ?_
  intro p e s m args below meth c s₁ Bd hml0 hP hK
  obtain ⟨rfl, hZ, hh⟩ := hP
  have hx := Bd.exec
  have hby := Bd.bytes
  have hml : c.maxLocals = 3 := hml0
  have hown : s.vm.findClass "com/example/coupewise/coupewise/WeightedDraw" = some m.cls := findClass_of_methodNamed Bd.named
  have hnm := (name_of_methodNamed Bd.named Bd.method).1
  have X0 : Stand p l e ({ frames := 1, cells := 1, slots := 2, locals := 12 } : Room) s m #[(.ref this), (.int p1)] below meth c s₁ [] 0 0 := Stand.of_body Bd
  have e0 : s₁.heap = h0 := by rw [← hh, Bd.state]; rfl
  have N0 := Fr.nil n0
  refine own_start ?_
  refine own_via (fun t k => castTop (ef_rm1_1 m this p1) k) ?_
  rcases hs with rfl
  · show own_Go p e below _ (s₁.setTop (mkF m 0 #[oR this, oI (1 : Int32), .unset] []))
    refine own_via (fun t kz => XS.aloadN X0.here hx rfl (hb hby d1_0) rfl rfl kz) ?_
    show own_Go p e below _ (s₁.setTop (mkF m 1 #[oR this, oI (1 : Int32), .unset] [(.ref this)]))
    obtain ⟨T1, X1, e1, st1⟩ := initO X0 hx hZ hown (own_w hw 8) (own_w hw 9) (own_w hw 10) e0 (g := (mkF m 1 #[oR this, oI (1 : Int32), .unset] [(.ref this)])) rfl (by rw [hml]; rfl) rfl (hb hby d1_1) (by decide) (W := 0) (by show 2 * 0 + _ ≤ _; exact Nat.le_of_eq rfl) (by decide)
    refine own_via st1 ?_
    refine own_via (fun t kz => XS.aloadN X1.here hx rfl (hb hby d1_4) rfl rfl kz) ?_
    refine own_via (fun t kz => XS.iloadN X1.here hx rfl (hb hby d1_5) rfl kz) ?_
    show own_Go p e below _ (T1.setTop (mkF m 6 #[oR this, oI (1 : Int32), .unset] [(.int (1 : Int32)), (.ref this)]))
    obtain ⟨T2, h2, X2, e2, W2, st2⟩ := putF X1 hx hZ hown (host := "") (Or.inl (own_w hw 11)) Via.refl e1 F_size E_this (Or.inr ⟨(own_w hw 12), rfl, hnm⟩) (own_w hw 3) (ty := .int) (by decide) rfl rfl (g := (mkF m 6 #[oR this, oI (1 : Int32), .unset] [(.int (1 : Int32)), (.ref this)])) rfl rfl (hb hby d1_6)
    refine own_via st2 ?_
    have E3 := E_this.wr W2
    have F4 := F_size.same W2
    have F5 := F_leaves.other W2 (Or.inr (slot_ne (Or.inr (own_w hw 14)) (Or.inr (own_w hw 12)) (by decide) (t := .int) (t' := .int) (by decide) (by decide)))
    have F6 := F_sums.other W2 (Or.inr (slot_ne (Or.inr (own_w hw 17)) (Or.inr (own_w hw 12)) (by decide) (t := (.array .double)) (t' := .int) (by decide) (by decide)))
    have Zs7 : n0 ≤ h2.size := Nat.le_trans Z0 (Keep.of_wr W2).1
    have N8 := Fr.snoc X2 N0 g_this
    refine own_via (fun t kz => XS.iconst X2.here hx rfl (hb hby d1_9) kz) ?_
    refine own_via (fun t kz => XS.istoreN X2.here hx rfl (hb hby d1_10) rfl (l' := #[oR this, oI (1 : Int32), oI (1 : Int32)]) rfl kz) ?_
    refine own_via (fun t kz => XS.iloadN X2.here hx rfl (hb hby d1_11) rfl kz) ?_
    show own_Go p e below _ (T2.setTop (mkF m 12 #[oR this, oI (1 : Int32), oI (1 : Int32)] [(.int (1 : Int32))]))
    refine own_via (fun t kz => XS.iloadN X2.here hx rfl (hb hby d1_12) rfl kz) ?_
    show own_Go p e below _ (T2.setTop (mkF m 13 #[oR this, oI (1 : Int32), oI (1 : Int32)] [(.int (1 : Int32)), (.int (1 : Int32))]))
    refine own_via (fun t kz => XS.icmpYes X2.here hx rfl (pc0 := 13) (pc' := 23) rfl (hb hby d1_13) rfl (flt (by decide : ¬ ((1 : Int32) < (1 : Int32)))).2.1 (by decide) (by decide) kz) ?_
    refine own_via (fun t kz => XS.aloadN X2.here hx rfl (hb hby d1_23) rfl rfl kz) ?_
    refine own_via (fun t kz => XS.iloadN X2.here hx rfl (hb hby d1_24) rfl kz) ?_
    show own_Go p e below _ (T2.setTop (mkF m 25 #[oR this, oI (1 : Int32), oI (1 : Int32)] [(.int (1 : Int32)), (.ref this)]))
    obtain ⟨T9, h9, X9, e9, W9, st9⟩ := putF X2 hx hZ hown (host := "") (Or.inl (own_w hw 13)) Via.refl e2 F5 E3 (Or.inr ⟨(own_w hw 14), rfl, hnm⟩) (own_w hw 3) (ty := .int) (by decide) rfl rfl (g := (mkF m 25 #[oR this, oI (1 : Int32), oI (1 : Int32)] [(.int (1 : Int32)), (.ref this)])) rfl rfl (hb hby d1_25)
    refine own_via st9 ?_
    have E10 := E3.wr W9
    have F11 := F4.other W9 (Or.inr (slot_ne (Or.inr (own_w hw 12)) (Or.inr (own_w hw 14)) (by decide) (t := .int) (t' := .int) (by decide) (by decide)))
    have F12 := F5.same W9
    have F13 := F6.other W9 (Or.inr (slot_ne (Or.inr (own_w hw 17)) (Or.inr (own_w hw 14)) (by decide) (t := (.array .double)) (t' := .int) (by decide) (by decide)))
    have Zs14 : n0 ≤ h9.size := Nat.le_trans Zs7 (Keep.of_wr W9).1
    have N15 := Fr.snoc X9 N8 g_this
    refine own_via (fun t kz => XS.aloadN X9.here hx rfl (hb hby d1_28) rfl rfl kz) ?_
    refine own_via (fun t kz => XS.iconst X9.here hx rfl (hb hby d1_29) kz) ?_
    refine own_via (fun t kz => XS.iloadN X9.here hx rfl (hb hby d1_30) rfl kz) ?_
    show own_Go p e below _ (T9.setTop (mkF m 31 #[oR this, oI (1 : Int32), oI (1 : Int32)] [(.int (1 : Int32)), (.int (2 : Int32)), (.ref this)]))
    refine own_via (fun t kz => XS.imul X9.here hx rfl (hb hby d1_31) rfl kz) ?_
    show own_Go p e below _ (T9.setTop (mkF m 32 #[oR this, oI (1 : Int32), oI (1 : Int32)] [(.int (2 : Int32)), (.ref this)]))
    obtain ⟨T16, h16, k16, X16, e16, E16, A16, st16⟩ := newP X9 hx hZ (aty := .double) (own_w hw 15) e9 (g := (mkF m 32 #[oR this, oI (1 : Int32), oI (1 : Int32)] [(.int (2 : Int32)), (.ref this)])) rfl (hb hby d1_32) rfl (by decide) (cap := 2) (by decide) (by decide) (by decide) (by decide)
    obtain ⟨a16, g16⟩ : ∃ z, z = h9.size := ⟨_, rfl⟩
    rw [← g16] at A16 st16
    refine own_via st16 ?_
    have lt17 : this < a16 := Nat.lt_of_lt_of_le E10.lt (Nat.le_of_eq g16.symm)
    have fr18 : n0 ≤ a16 := Nat.le_trans Zs14 (Nat.le_of_eq g16.symm)
    have E19 := E10.ext E16
    have F20 := F11.ext E16
    have F21 := F12.ext E16
    have F22 := F13.ext E16
    have Zs23 : n0 ≤ h16.size := Nat.le_trans Zs14 E16.1
    have V24 : Arv Z h16 a16 k16 .double (2 : Int32) [(.double (FP.l2d (0 : Int64))), (.double (FP.l2d (0 : Int64)))] (.double (FP.l2d (0 : Int64))) := (Arv.newD A16 (by decide)).pad (pad_rep [] (.double (FP.l2d (0 : Int64))) 2)
    show own_Go p e below _ (T16.setTop (mkF m 34 #[oR this, oI (1 : Int32), oI (1 : Int32)] [(.ref a16), (.ref this)]))
    obtain ⟨T25, h25, X25, e25, W25, st25⟩ := putF X16 hx hZ hown (host := "") (Or.inl (own_w hw 16)) Via.refl e16 F22 E19 (Or.inr ⟨(own_w hw 17), rfl, hnm⟩) (own_w hw 3) (ty := (.array .double)) (by decide) rfl rfl (g := (mkF m 34 #[oR this, oI (1 : Int32), oI (1 : Int32)] [(.ref a16), (.ref this)])) rfl rfl (hb hby d1_34)
    refine own_via st25 ?_
    have E26 := E19.wr W25
    have F27 := F20.other W25 (Or.inr (slot_ne (Or.inr (own_w hw 12)) (Or.inr (own_w hw 17)) (by decide) (t := .int) (t' := (.array .double)) (by decide) (by decide)))
    have F28 := F21.other W25 (Or.inr (slot_ne (Or.inr (own_w hw 14)) (Or.inr (own_w hw 17)) (by decide) (t := .int) (t' := (.array .double)) (by decide) (by decide)))
    have F29 := F22.same W25
    have V30 := V24.other W25 (Ne.symm (Nat.ne_of_lt lt17))
    have Zs31 : n0 ≤ h25.size := Nat.le_trans Zs23 (Keep.of_wr W25).1
    have N32 := Fr.snoc X25 N15 g_this
    show own_Go p e below _ (T25.setTop (mkF m 37 #[oR this, oI (1 : Int32), oI (1 : Int32)] []))
    obtain ⟨fs, hr, hrun, hended, hW, hsame⟩ := X25.leave (v := none) (fun _ => rfl)
    refine ⟨_, _, X25.returnOut hx Bd.returns (hb hby d1_37) hr, hrun, hended, _, _, rfl, ?_, ⟨_, rfl⟩, hW, hsame.mono (by decide) (by decide)⟩
    show Q1_1 Z this (1 : Int32) h0 n0 _ T25.heap _
    rw [e25]
    exact ⟨rfl, N32, Zs31, a16, k16, ⟨g_this, lt17⟩, E26, F28, F29, V30⟩
theorem d3_0 : decode prog_11_method_3_code 0 = .ok (.aload_n 0, 1) := by decide +kernel
theorem d3_1 : decode prog_11_method_3_code 1 = .ok (.getfield 13, 3) := by decide +kernel
theorem d3_4 : decode prog_11_method_3_code 4 = .ok (.iload_n 1, 1) := by decide +kernel
theorem d3_5 : decode prog_11_method_3_code 5 = .ok (.iadd, 1) := by decide +kernel
theorem d3_6 : decode prog_11_method_3_code 6 = .ok (.istore 4, 2) := by decide +kernel
theorem d3_8 : decode prog_11_method_3_code 8 = .ok (.aload_n 0, 1) := by decide +kernel
theorem d3_9 : decode prog_11_method_3_code 9 = .ok (.getfield 16, 3) := by decide +kernel
theorem d3_12 : decode prog_11_method_3_code 12 = .ok (.iload 4, 2) := by decide +kernel
theorem d3_14 : decode prog_11_method_3_code 14 = .ok (.dload_n 2, 1) := by decide +kernel
theorem d3_15 : decode prog_11_method_3_code 15 = .ok (.dastore, 1) := by decide +kernel
theorem d3_16 : decode prog_11_method_3_code 16 = .ok (.iload 4, 2) := by decide +kernel
theorem d3_18 : decode prog_11_method_3_code 18 = .ok (.iconst 2, 1) := by decide +kernel
theorem d3_19 : decode prog_11_method_3_code 19 = .ok (.idiv, 1) := by decide +kernel
theorem d3_20 : decode prog_11_method_3_code 20 = .ok (.istore 4, 2) := by decide +kernel
theorem d3_22 : decode prog_11_method_3_code 22 = .ok (.iload 4, 2) := by decide +kernel
theorem d3_24 : decode prog_11_method_3_code 24 = .ok (.iconst 1, 1) := by decide +kernel
theorem d3_25 : decode prog_11_method_3_code 25 = .ok (.if_icmp .lt 40, 3) := by decide +kernel
theorem d3_65 : decode prog_11_method_3_code 65 = .ok (.return_, 1) := by decide +kernel
theorem ef_rm3_1 (m : MethodId) (q0 : Addr) (q1 : Int32) (q2 : UInt64) : entryFrame m #[(.ref q0), (.int q1), (.double q2)] 5 = mkF m 0 #[oR q0, oI q1, oD q2, .second, .unset] [] := by first | (simp [entryFrame, mkF, argsToLocals, Value.category]; done) | rfl
def Q3_1 (Z : State) (this : Addr) (p1 : Int32) (wv : Int64) (w0_ : Int64) (h0 : Heap) (n0 : Nat) (v : Option Value) (h : Heap) (L : List Loc) : Prop := v = none ∧ Fr n0 L ∧ n0 ≤ h.size ∧ own_W1 Z h n0 this (if p1 = (0 : Int32) then wv else w0_)
set_option maxRecDepth 65536 in
set_option maxHeartbeats 40000000 in
theorem rm3_1 (l : Launch) (Z : State) (a0 : Array Value) (hw : ∀ d ∈ tables_1, d.before a0 Z = true) (ws : List Jvm.Cond) (this : Addr) (p1 : Int32) (wv : Int64) (w0_ : Int64) (h0 : Heap) (n0 : Nat) (Z0 : n0 ≤ h0.size) (TC : own_W1 Z h0 n0 this w0_) (hp : p1 = 0) (hbv : own_bd 1 wv) (hb0 : own_bd 1 w0_) :
    MetFree l (⟨"com/example/coupewise/coupewise/WeightedDraw", "set", "(ID)V"⟩ : MethodName) (head1 (Jvm.Cond.code (⟨"com/example/coupewise/coupewise/WeightedDraw", "set", "(ID)V"⟩ : MethodName) prog_11_method_3_code 5 none :: ws) ({ frames := 0, cells := 0, slots := 0, locals := 0 } : Room)) (fun a U => a = #[(.ref this), (.int p1), (.double (FP.l2d wv))] ∧ Z.Warmed39 U.vm ∧ U.heap = h0) (fun _ _ _ _ _ => True) (fun _ U o U' => ∃ v L, o = .returned v ∧ Q3_1 Z this p1 wv w0_ h0 n0 v U'.heap L ∧ FrameEnd U o U' L ({ frames := 0, cells := 0, slots := 0, locals := 0 } : Room).cells ({ frames := 0, cells := 0, slots := 0, locals := 0 } : Room).slots) := by
  refine MetFree.of_bodySF (plainFor_of_name pn_1) hisR ?_
  intro p e s m args below meth c s₁ Bd hml0 hP hK
  obtain ⟨rfl, hZ, hh⟩ := hP
  have hx := Bd.exec
  have hby := Bd.bytes
  have hml : c.maxLocals = 5 := hml0
  have hown : s.vm.findClass "com/example/coupewise/coupewise/WeightedDraw" = some m.cls := findClass_of_methodNamed Bd.named
  have hnm := (name_of_methodNamed Bd.named Bd.method).1
  have X0 : Stand p l e ({ frames := 0, cells := 0, slots := 0, locals := 0 } : Room) s m #[(.ref this), (.int p1), (.double (FP.l2d wv))] below meth c s₁ [] 0 0 := Stand.of_body Bd
  have e0 : s₁.heap = h0 := by rw [← hh, Bd.state]; rfl
  have N0 := Fr.nil n0
  refine own_start ?_
  refine own_via (fun t k => castTop (ef_rm3_1 m this p1 (FP.l2d wv)) k) ?_
  obtain ⟨arr, kA, ⟨ch0, ch1⟩, Eq, Fq0, Fq1, Vq⟩ := TC
  rcases hp with rfl
  · show own_Go p e below _ (s₁.setTop (mkF m 0 #[oR this, oI (0 : Int32), oD (FP.l2d wv), .second, .unset] []))
    refine own_via (fun t kz => XS.aloadN X0.here hx rfl (hb hby d3_0) rfl rfl kz) ?_
    show own_Go p e below _ (s₁.setTop (mkF m 1 #[oR this, oI (0 : Int32), oD (FP.l2d wv), .second, .unset] [(.ref this)]))
    obtain ⟨T1, X1, e1, st1⟩ := getF X0 hx hZ hown (host := "") (Or.inl (own_w hw 13)) Via.refl e0 Fq0 (g := (mkF m 1 #[oR this, oI (0 : Int32), oD (FP.l2d wv), .second, .unset] [(.ref this)])) rfl rfl (hb hby d3_1)
    refine own_via st1 ?_
    refine own_via (fun t kz => XS.iloadN X1.here hx rfl (hb hby d3_4) rfl kz) ?_
    refine own_via (fun t kz => XS.iadd X1.here hx rfl (hb hby d3_5) rfl kz) ?_
    refine own_via (fun t kz => XS.istore X1.here hx rfl (hb hby d3_6) rfl (l' := #[oR this, oI (0 : Int32), oD (FP.l2d wv), .second, oI (1 : Int32)]) rfl kz) ?_
    show own_Go p e below _ (T1.setTop (mkF m 8 #[oR this, oI (0 : Int32), oD (FP.l2d wv), .second, oI (1 : Int32)] []))
    refine own_via (fun t kz => XS.aloadN X1.here hx rfl (hb hby d3_8) rfl rfl kz) ?_
    show own_Go p e below _ (T1.setTop (mkF m 9 #[oR this, oI (0 : Int32), oD (FP.l2d wv), .second, oI (1 : Int32)] [(.ref this)]))
    obtain ⟨T2, X2, e2, st2⟩ := getF X1 hx hZ hown (host := "") (Or.inl (own_w hw 16)) Via.refl e1 Fq1 (g := (mkF m 9 #[oR this, oI (0 : Int32), oD (FP.l2d wv), .second, oI (1 : Int32)] [(.ref this)])) rfl rfl (hb hby d3_9)
    refine own_via st2 ?_
    refine own_via (fun t kz => XS.iload X2.here hx rfl (hb hby d3_12) rfl kz) ?_
    refine own_via (fun t kz => XS.dloadN X2.here hx rfl (hb hby d3_14) rfl kz) ?_
    show own_Go p e below _ (T2.setTop (mkF m 15 #[oR this, oI (0 : Int32), oD (FP.l2d wv), .second, oI (1 : Int32)] [(.double (FP.l2d wv)), (.int (1 : Int32)), (.ref arr)]))
    obtain ⟨cl3, Ar3, kc3, Sz3, Nn3, Hs3, Gs3⟩ := id Vq
    obtain ⟨T3, h3, X3, e3, W3, st3⟩ := stD X2 hx hZ e2 Ar3 (j := (1 : Int32)) (inb_of Sz3 ⟨by decide, by decide⟩) (g := (mkF m 15 #[oR this, oI (0 : Int32), oD (FP.l2d wv), .second, oI (1 : Int32)] [(.double (FP.l2d wv)), (.int (1 : Int32)), (.ref arr)])) rfl rfl (hb hby d3_15)
    refine own_via st3 ?_
    have E4 := Eq.wr W3
    have F5 := Fq0.other W3 (Or.inl (own_neq (by omega)))
    have F6 := Fq1.other W3 (Or.inl (own_neq (by omega)))
    have Zs7 : n0 ≤ h3.size := Nat.le_trans Z0 (Keep.of_wr W3).1
    have N8 := Fr.snoc X3 N0 (show n0 ≤ arr by omega)
    have V9 : Arv Z h3 arr kA .double (2 : Int32) [(.double (FP.l2d (0 : Int64))), (.double (FP.l2d wv))] (.double (FP.l2d (0 : Int64))) := Arv.set Ar3 kc3 Sz3 Nn3 Hs3 Gs3 rfl W3 1 (by first | decide | (show 1 < 2; decide)) (by first | decide | (show 1 < 2; decide))
    refine own_via (fun t kz => XS.iload X3.here hx rfl (hb hby d3_16) rfl kz) ?_
    refine own_via (fun t kz => XS.iconst X3.here hx rfl (hb hby d3_18) kz) ?_
    refine own_via (fun t kz => XS.idiv X3.here hx rfl (hb hby d3_19) rfl (by decide) kz) ?_
    show own_Go p e below _ (T3.setTop (mkF m 20 #[oR this, oI (0 : Int32), oD (FP.l2d wv), .second, oI (1 : Int32)] [(.int (0 : Int32))]))
    refine own_via (fun t kz => XS.istore X3.here hx rfl (hb hby d3_20) rfl (l' := #[oR this, oI (0 : Int32), oD (FP.l2d wv), .second, oI (0 : Int32)]) rfl kz) ?_
    refine own_via (fun t kz => XS.iload X3.here hx rfl (hb hby d3_22) rfl kz) ?_
    refine own_via (fun t kz => XS.iconst X3.here hx rfl (hb hby d3_24) kz) ?_
    show own_Go p e below _ (T3.setTop (mkF m 25 #[oR this, oI (0 : Int32), oD (FP.l2d wv), .second, oI (0 : Int32)] [(.int (1 : Int32)), (.int (0 : Int32))]))
    refine own_via (fun t kz => XS.icmpYes X3.here hx rfl (pc0 := 25) (pc' := 65) rfl (hb hby d3_25) rfl (tlt (by decide : (0 : Int32) < (1 : Int32))).1 (by decide) (by decide) kz) ?_
    show own_Go p e below _ (T3.setTop (mkF m 65 #[oR this, oI (0 : Int32), oD (FP.l2d wv), .second, oI (0 : Int32)] []))
    have hT : own_W1 Z h3 n0 this wv := ⟨arr, kA, ⟨ch0, ch1⟩, E4, F5, F6, V9⟩
    obtain ⟨fs, hr, hrun, hended, hW, hsame⟩ := X3.leave (v := none) (fun _ => rfl)
    refine ⟨_, _, X3.returnOut hx Bd.returns (hb hby d3_65) hr, hrun, hended, _, _, rfl, ?_, ⟨_, rfl⟩, hW, hsame.mono (by decide) (by decide)⟩
    show Q3_1 Z this (0 : Int32) wv w0_ h0 n0 _ T3.heap _
    rw [e3]
    exact ⟨rfl, N8, Zs7, by rw [if_pos (rfl : (0 : Int32) = (0 : Int32))]; exact hT⟩
theorem d4_0 : decode prog_11_method_4_code 0 = .ok (.aload_n 0, 1) := by decide +kernel
theorem d4_1 : decode prog_11_method_4_code 1 = .ok (.getfield 16, 3) := by decide +kernel
theorem d4_4 : decode prog_11_method_4_code 4 = .ok (.aload_n 0, 1) := by decide +kernel
theorem d4_5 : decode prog_11_method_4_code 5 = .ok (.getfield 13, 3) := by decide +kernel
theorem d4_8 : decode prog_11_method_4_code 8 = .ok (.iload_n 1, 1) := by decide +kernel
theorem d4_9 : decode prog_11_method_4_code 9 = .ok (.iadd, 1) := by decide +kernel
theorem d4_10 : decode prog_11_method_4_code 10 = .ok (.daload, 1) := by decide +kernel
theorem d4_11 : decode prog_11_method_4_code 11 = .ok (.dreturn, 1) := by decide +kernel
theorem ef_rm4_1 (m : MethodId) (q0 : Addr) (q1 : Int32) : entryFrame m #[(.ref q0), (.int q1)] 2 = mkF m 0 #[oR q0, oI q1] [] := by first | (simp [entryFrame, mkF, argsToLocals, Value.category]; done) | rfl
def Q4_1 (Z : State) (this : Addr) (p1 : Int32) (w0_ : Int64) (h0 : Heap) (n0 : Nat) (v : Option Value) (h : Heap) (L : List Loc) : Prop := v = some (.double (FP.l2d (own_sel1 p1 w0_))) ∧ Fr n0 L ∧ h = h0
set_option maxRecDepth 65536 in
set_option maxHeartbeats 40000000 in
theorem rm4_1 (l : Launch) (Z : State) (a0 : Array Value) (hw : ∀ d ∈ tables_1, d.before a0 Z = true) (ws : List Jvm.Cond) (this : Addr) (p1 : Int32) (w0_ : Int64) (h0 : Heap) (n0 : Nat) (Z0 : n0 ≤ h0.size) (TC : own_W1 Z h0 n0 this w0_) (hp : p1 = 0) :
    MetFree l (⟨"com/example/coupewise/coupewise/WeightedDraw", "weight", "(I)D"⟩ : MethodName) (head1 (Jvm.Cond.code (⟨"com/example/coupewise/coupewise/WeightedDraw", "weight", "(I)D"⟩ : MethodName) prog_11_method_4_code 2 (some .double) :: ws) ({ frames := 0, cells := 0, slots := 0, locals := 0 } : Room)) (fun a U => a = #[(.ref this), (.int p1)] ∧ Z.Warmed39 U.vm ∧ U.heap = h0) (fun _ _ _ _ _ => True) (fun _ U o U' => ∃ v L, o = .returned v ∧ Q4_1 Z this p1 w0_ h0 n0 v U'.heap L ∧ FrameEnd U o U' L ({ frames := 0, cells := 0, slots := 0, locals := 0 } : Room).cells ({ frames := 0, cells := 0, slots := 0, locals := 0 } : Room).slots) := by
  refine MetFree.of_bodySF (plainFor_of_name pn_1) hisR ?_
  intro p e s m args below meth c s₁ Bd hml0 hP hK
  obtain ⟨rfl, hZ, hh⟩ := hP
  have hx := Bd.exec
  have hby := Bd.bytes
  have hml : c.maxLocals = 2 := hml0
  have hown : s.vm.findClass "com/example/coupewise/coupewise/WeightedDraw" = some m.cls := findClass_of_methodNamed Bd.named
  have hnm := (name_of_methodNamed Bd.named Bd.method).1
  have X0 : Stand p l e ({ frames := 0, cells := 0, slots := 0, locals := 0 } : Room) s m #[(.ref this), (.int p1)] below meth c s₁ [] 0 0 := Stand.of_body Bd
  have e0 : s₁.heap = h0 := by rw [← hh, Bd.state]; rfl
  have N0 := Fr.nil n0
  refine own_start ?_
  refine own_via (fun t k => castTop (ef_rm4_1 m this p1) k) ?_
  obtain ⟨arr, kA, ⟨ch0, ch1⟩, Eq, Fq0, Fq1, Vq⟩ := TC
  rcases hp with rfl
  · show own_Go p e below _ (s₁.setTop (mkF m 0 #[oR this, oI (0 : Int32)] []))
    refine own_via (fun t kz => XS.aloadN X0.here hx rfl (hb hby d4_0) rfl rfl kz) ?_
    show own_Go p e below _ (s₁.setTop (mkF m 1 #[oR this, oI (0 : Int32)] [(.ref this)]))
    obtain ⟨T1, X1, e1, st1⟩ := getF X0 hx hZ hown (host := "") (Or.inl (own_w hw 16)) Via.refl e0 Fq1 (g := (mkF m 1 #[oR this, oI (0 : Int32)] [(.ref this)])) rfl rfl (hb hby d4_1)
    refine own_via st1 ?_
    refine own_via (fun t kz => XS.aloadN X1.here hx rfl (hb hby d4_4) rfl rfl kz) ?_
    show own_Go p e below _ (T1.setTop (mkF m 5 #[oR this, oI (0 : Int32)] [(.ref this), (.ref arr)]))
    obtain ⟨T2, X2, e2, st2⟩ := getF X1 hx hZ hown (host := "") (Or.inl (own_w hw 13)) Via.refl e1 Fq0 (g := (mkF m 5 #[oR this, oI (0 : Int32)] [(.ref this), (.ref arr)])) rfl rfl (hb hby d4_5)
    refine own_via st2 ?_
    refine own_via (fun t kz => XS.iloadN X2.here hx rfl (hb hby d4_8) rfl kz) ?_
    refine own_via (fun t kz => XS.iadd X2.here hx rfl (hb hby d4_9) rfl kz) ?_
    show own_Go p e below _ (T2.setTop (mkF m 10 #[oR this, oI (0 : Int32)] [(.int (1 : Int32)), (.ref arr)]))
    obtain ⟨cl3, Ar3, kc3, Sz3, Nn3, Hs3, Gs3⟩ := id Vq
    have in3 := inb_of (j := (1 : Int32)) Sz3 ⟨by decide, by decide⟩
    have at3 : cl3.slots[((1 : Int32)).toNatClampNeg]? = some (.double (FP.l2d w0_)) := Hs3.at in3 rfl
    refine own_via (fun t kz => X2.daload hx (j := (1 : Int32)) (v := (.double (FP.l2d w0_))) (by rw [e2]; exact Ar3.1) (State.isArrayOf_alike hZ.alike Ar3.2.1) Ar3.2.2 in3 at3 (g := (mkF m 10 #[oR this, oI (0 : Int32)] [(.int (1 : Int32)), (.ref arr)])) rfl rfl (hb hby d4_10) t kz) ?_
    show own_Go p e below _ (T2.setTop (mkF m 11 #[oR this, oI (0 : Int32)] [(.double (FP.l2d w0_))]))
    obtain ⟨fs, hr, hrun, hended, hW, hsame⟩ := X2.leave (v := some (.double (FP.l2d w0_))) (fun h => by rw [Bd.returns] at h; cases h)
    refine ⟨_, _, retOut X2 hx (i := .dreturn) Bd.returns rfl (Or.inr (Or.inr (Or.inl ⟨rfl, rfl, _, rfl⟩))) (hb hby d4_11) hr, hrun, hended, _, _, rfl, ?_, ⟨_, rfl⟩, hW, hsame.mono (by decide) (by decide)⟩
    show Q4_1 Z this (0 : Int32) w0_ h0 n0 _ T2.heap _
    rw [e2]
    exact ⟨by unfold own_sel1; rfl, N0, rfl⟩
theorem d6_0 : decode prog_11_method_5_code 0 = .ok (.aload_n 0, 1) := by decide +kernel
theorem d6_1 : decode prog_11_method_5_code 1 = .ok (.getfield 16, 3) := by decide +kernel
theorem d6_4 : decode prog_11_method_5_code 4 = .ok (.iconst 1, 1) := by decide +kernel
theorem d6_5 : decode prog_11_method_5_code 5 = .ok (.daload, 1) := by decide +kernel
theorem d6_6 : decode prog_11_method_5_code 6 = .ok (.dreturn, 1) := by decide +kernel
theorem ef_rm6_1 (m : MethodId) (q0 : Addr) : entryFrame m #[(.ref q0)] 1 = mkF m 0 #[oR q0] [] := by first | (simp [entryFrame, mkF, argsToLocals, Value.category]; done) | rfl
def Q6_1 (Z : State) (this : Addr) (w0_ : Int64) (h0 : Heap) (n0 : Nat) (v : Option Value) (h : Heap) (L : List Loc) : Prop := v = some (.double (FP.l2d w0_)) ∧ Fr n0 L ∧ h = h0
set_option maxRecDepth 65536 in
set_option maxHeartbeats 40000000 in
theorem rm6_1 (l : Launch) (Z : State) (a0 : Array Value) (hw : ∀ d ∈ tables_1, d.before a0 Z = true) (ws : List Jvm.Cond) (this : Addr) (w0_ : Int64) (h0 : Heap) (n0 : Nat) (Z0 : n0 ≤ h0.size) (TC : own_W1 Z h0 n0 this w0_) :
    MetFree l (⟨"com/example/coupewise/coupewise/WeightedDraw", "total", "()D"⟩ : MethodName) (head1 (Jvm.Cond.code (⟨"com/example/coupewise/coupewise/WeightedDraw", "total", "()D"⟩ : MethodName) prog_11_method_5_code 1 (some .double) :: ws) ({ frames := 0, cells := 0, slots := 0, locals := 0 } : Room)) (fun a U => a = #[(.ref this)] ∧ Z.Warmed39 U.vm ∧ U.heap = h0) (fun _ _ _ _ _ => True) (fun _ U o U' => ∃ v L, o = .returned v ∧ Q6_1 Z this w0_ h0 n0 v U'.heap L ∧ FrameEnd U o U' L ({ frames := 0, cells := 0, slots := 0, locals := 0 } : Room).cells ({ frames := 0, cells := 0, slots := 0, locals := 0 } : Room).slots) := by
  refine MetFree.of_bodySF (plainFor_of_name pn_1) hisR ?_
  intro p e s m args below meth c s₁ Bd hml0 hP hK
  obtain ⟨rfl, hZ, hh⟩ := hP
  have hx := Bd.exec
  have hby := Bd.bytes
  have hml : c.maxLocals = 1 := hml0
  have hown : s.vm.findClass "com/example/coupewise/coupewise/WeightedDraw" = some m.cls := findClass_of_methodNamed Bd.named
  have hnm := (name_of_methodNamed Bd.named Bd.method).1
  have X0 : Stand p l e ({ frames := 0, cells := 0, slots := 0, locals := 0 } : Room) s m #[(.ref this)] below meth c s₁ [] 0 0 := Stand.of_body Bd
  have e0 : s₁.heap = h0 := by rw [← hh, Bd.state]; rfl
  have N0 := Fr.nil n0
  refine own_start ?_
  refine own_via (fun t k => castTop (ef_rm6_1 m this) k) ?_
  obtain ⟨arr, kA, ⟨ch0, ch1⟩, Eq, Fq0, Fq1, Vq⟩ := TC
  show own_Go p e below _ (s₁.setTop (mkF m 0 #[oR this] []))
  refine own_via (fun t kz => XS.aloadN X0.here hx rfl (hb hby d6_0) rfl rfl kz) ?_
  show own_Go p e below _ (s₁.setTop (mkF m 1 #[oR this] [(.ref this)]))
  obtain ⟨T1, X1, e1, st1⟩ := getF X0 hx hZ hown (host := "") (Or.inl (own_w hw 16)) Via.refl e0 Fq1 (g := (mkF m 1 #[oR this] [(.ref this)])) rfl rfl (hb hby d6_1)
  refine own_via st1 ?_
  refine own_via (fun t kz => XS.iconst X1.here hx rfl (hb hby d6_4) kz) ?_
  show own_Go p e below _ (T1.setTop (mkF m 5 #[oR this] [(.int (1 : Int32)), (.ref arr)]))
  obtain ⟨cl2, Ar2, kc2, Sz2, Nn2, Hs2, Gs2⟩ := id Vq
  have in2 := inb_of (j := (1 : Int32)) Sz2 ⟨by decide, by decide⟩
  have at2 : cl2.slots[((1 : Int32)).toNatClampNeg]? = some (.double (FP.l2d w0_)) := Hs2.at in2 rfl
  refine own_via (fun t kz => X1.daload hx (j := (1 : Int32)) (v := (.double (FP.l2d w0_))) (by rw [e1]; exact Ar2.1) (State.isArrayOf_alike hZ.alike Ar2.2.1) Ar2.2.2 in2 at2 (g := (mkF m 5 #[oR this] [(.int (1 : Int32)), (.ref arr)])) rfl rfl (hb hby d6_5) t kz) ?_
  show own_Go p e below _ (T1.setTop (mkF m 6 #[oR this] [(.double (FP.l2d w0_))]))
  obtain ⟨fs, hr, hrun, hended, hW, hsame⟩ := X1.leave (v := some (.double (FP.l2d w0_))) (fun h => by rw [Bd.returns] at h; cases h)
  refine ⟨_, _, retOut X1 hx (i := .dreturn) Bd.returns rfl (Or.inr (Or.inr (Or.inl ⟨rfl, rfl, _, rfl⟩))) (hb hby d6_6) hr, hrun, hended, _, _, rfl, ?_, ⟨_, rfl⟩, hW, hsame.mono (by decide) (by decide)⟩
  show Q6_1 Z this w0_ h0 n0 _ T1.heap _
  rw [e1]
  exact ⟨rfl, N0, rfl⟩
def own_W2 (Z : State) (h : Heap) (n0 : Nat) (this : Addr) (w0_ w1_ : Int64) : Prop := ∃ (arr : Addr) (k : ClassId), (n0 ≤ this ∧ @LT.lt Nat instLTNat this arr) ∧ Exa Z h this "com/example/coupewise/coupewise/WeightedDraw" ∧ Fld Z h this "com/example/coupewise/coupewise/WeightedDraw" "leaves" "I" (.int (2 : Int32)) ∧ Fld Z h this "com/example/coupewise/coupewise/WeightedDraw" "sums" "[D" (.ref arr) ∧ Arv Z h arr k .double (4 : Int32) [(.double (FP.l2d (0 : Int64))), (.double (FP.l2d (w0_ + w1_))), (.double (FP.l2d w0_)), (.double (FP.l2d w1_))] (.double (FP.l2d (0 : Int64)))
theorem own_exa2 {Z : State} {h : Heap} {n0 : Nat} {this : Addr} {w0_ w1_ : Int64} (H : own_W2 Z h n0 this w0_ w1_) : Exa Z h this "com/example/coupewise/coupewise/WeightedDraw" := by
  obtain ⟨_, _, -, E, -⟩ := H
  exact E
def own_sel2 (p : Int32) (w0_ w1_ : Int64) : Int64 := if p = 0 then w0_ else w1_
theorem d1_16 : decode prog_11_method_1_code 16 = .ok (.iload_n 2, 1) := by decide +kernel
theorem d1_17 : decode prog_11_method_1_code 17 = .ok (.iconst 2, 1) := by decide +kernel
theorem d1_18 : decode prog_11_method_1_code 18 = .ok (.imul, 1) := by decide +kernel
theorem d1_19 : decode prog_11_method_1_code 19 = .ok (.istore_n 2, 1) := by decide +kernel
theorem d1_20 : decode prog_11_method_1_code 20 = .ok (.goto (-9), 3) := by decide +kernel
theorem ef_rm1_2 (m : MethodId) (q0 : Addr) (q1 : Int32) : entryFrame m #[(.ref q0), (.int q1)] 3 = mkF m 0 #[oR q0, oI q1, .unset] [] := by first | (simp [entryFrame, mkF, argsToLocals, Value.category]; done) | rfl
def Q1_2 (Z : State) (this : Addr) (p1 : Int32) (h0 : Heap) (n0 : Nat) (v : Option Value) (h : Heap) (L : List Loc) : Prop := v = none ∧ Fr n0 L ∧ n0 ≤ h.size ∧ own_W2 Z h n0 this 0 0
set_option maxRecDepth 65536 in
set_option maxHeartbeats 40000000 in
theorem rm1_2 (l : Launch) (Z : State) (a0 : Array Value) (hw : ∀ d ∈ tables_1, d.before a0 Z = true) (ws : List Jvm.Cond) (this : Addr) (p1 : Int32) (h0 : Heap) (n0 : Nat) (Z0 : n0 ≤ h0.size) (g_this : n0 ≤ this) (E_this : Exa Z h0 this "com/example/coupewise/coupewise/WeightedDraw") (F_size : Fld Z h0 this "com/example/coupewise/coupewise/WeightedDraw" "size" "I" (.int (0 : Int32))) (F_leaves : Fld Z h0 this "com/example/coupewise/coupewise/WeightedDraw" "leaves" "I" (.int (0 : Int32))) (F_sums : Fld Z h0 this "com/example/coupewise/coupewise/WeightedDraw" "sums" "[D" .null) (hs : p1 = 2) :
    MetFree l (⟨"com/example/coupewise/coupewise/WeightedDraw", "<init>", "(I)V"⟩ : MethodName) (head1 (Jvm.Cond.code (⟨"com/example/coupewise/coupewise/WeightedDraw", "<init>", "(I)V"⟩ : MethodName) prog_11_method_1_code 3 none :: ws) ({ frames := 1, cells := 1, slots := 4, locals := 12 } : Room)) (fun a U => a = #[(.ref this), (.int p1)] ∧ Z.Warmed39 U.vm ∧ U.heap = h0) (fun _ _ _ _ _ => True) (fun _ U o U' => ∃ v L, o = .returned v ∧ Q1_2 Z this p1 h0 n0 v U'.heap L ∧ FrameEnd U o U' L ({ frames := 1, cells := 1, slots := 4, locals := 12 } : Room).cells ({ frames := 1, cells := 1, slots := 4, locals := 12 } : Room).slots) := by
  refine MetFree.of_bodySF (plainFor_of_name pn_1) hisR ?_
  intro p e s m args below meth c s₁ Bd hml0 hP hK
  obtain ⟨rfl, hZ, hh⟩ := hP
  have hx := Bd.exec
  have hby := Bd.bytes
  have hml : c.maxLocals = 3 := hml0
  have hown : s.vm.findClass "com/example/coupewise/coupewise/WeightedDraw" = some m.cls := findClass_of_methodNamed Bd.named
  have hnm := (name_of_methodNamed Bd.named Bd.method).1
  have X0 : Stand p l e ({ frames := 1, cells := 1, slots := 4, locals := 12 } : Room) s m #[(.ref this), (.int p1)] below meth c s₁ [] 0 0 := Stand.of_body Bd
  have e0 : s₁.heap = h0 := by rw [← hh, Bd.state]; rfl
  have N0 := Fr.nil n0
  refine own_start ?_
  refine own_via (fun t k => castTop (ef_rm1_2 m this p1) k) ?_
  rcases hs with rfl
  · show own_Go p e below _ (s₁.setTop (mkF m 0 #[oR this, oI (2 : Int32), .unset] []))
    refine own_via (fun t kz => XS.aloadN X0.here hx rfl (hb hby d1_0) rfl rfl kz) ?_
    show own_Go p e below _ (s₁.setTop (mkF m 1 #[oR this, oI (2 : Int32), .unset] [(.ref this)]))
    obtain ⟨T1, X1, e1, st1⟩ := initO X0 hx hZ hown (own_w hw 8) (own_w hw 9) (own_w hw 10) e0 (g := (mkF m 1 #[oR this, oI (2 : Int32), .unset] [(.ref this)])) rfl (by rw [hml]; rfl) rfl (hb hby d1_1) (by decide) (W := 0) (by show 2 * 0 + _ ≤ _; exact Nat.le_of_eq rfl) (by decide)
    refine own_via st1 ?_
    refine own_via (fun t kz => XS.aloadN X1.here hx rfl (hb hby d1_4) rfl rfl kz) ?_
    refine own_via (fun t kz => XS.iloadN X1.here hx rfl (hb hby d1_5) rfl kz) ?_
    show own_Go p e below _ (T1.setTop (mkF m 6 #[oR this, oI (2 : Int32), .unset] [(.int (2 : Int32)), (.ref this)]))
    obtain ⟨T2, h2, X2, e2, W2, st2⟩ := putF X1 hx hZ hown (host := "") (Or.inl (own_w hw 11)) Via.refl e1 F_size E_this (Or.inr ⟨(own_w hw 12), rfl, hnm⟩) (own_w hw 3) (ty := .int) (by decide) rfl rfl (g := (mkF m 6 #[oR this, oI (2 : Int32), .unset] [(.int (2 : Int32)), (.ref this)])) rfl rfl (hb hby d1_6)
    refine own_via st2 ?_
    have E3 := E_this.wr W2
    have F4 := F_size.same W2
    have F5 := F_leaves.other W2 (Or.inr (slot_ne (Or.inr (own_w hw 14)) (Or.inr (own_w hw 12)) (by decide) (t := .int) (t' := .int) (by decide) (by decide)))
    have F6 := F_sums.other W2 (Or.inr (slot_ne (Or.inr (own_w hw 17)) (Or.inr (own_w hw 12)) (by decide) (t := (.array .double)) (t' := .int) (by decide) (by decide)))
    have Zs7 : n0 ≤ h2.size := Nat.le_trans Z0 (Keep.of_wr W2).1
    have N8 := Fr.snoc X2 N0 g_this
    refine own_via (fun t kz => XS.iconst X2.here hx rfl (hb hby d1_9) kz) ?_
    refine own_via (fun t kz => XS.istoreN X2.here hx rfl (hb hby d1_10) rfl (l' := #[oR this, oI (2 : Int32), oI (1 : Int32)]) rfl kz) ?_
    refine own_via (fun t kz => XS.iloadN X2.here hx rfl (hb hby d1_11) rfl kz) ?_
    show own_Go p e below _ (T2.setTop (mkF m 12 #[oR this, oI (2 : Int32), oI (1 : Int32)] [(.int (1 : Int32))]))
    refine own_via (fun t kz => XS.iloadN X2.here hx rfl (hb hby d1_12) rfl kz) ?_
    show own_Go p e below _ (T2.setTop (mkF m 13 #[oR this, oI (2 : Int32), oI (1 : Int32)] [(.int (2 : Int32)), (.int (1 : Int32))]))
    refine own_via (fun t kz => XS.icmpNo X2.here hx rfl (hb hby d1_13) rfl (tlt (by decide : (1 : Int32) < (2 : Int32))).2.1 kz) ?_
    refine own_via (fun t kz => XS.iloadN X2.here hx rfl (hb hby d1_16) rfl kz) ?_
    refine own_via (fun t kz => XS.iconst X2.here hx rfl (hb hby d1_17) kz) ?_
    refine own_via (fun t kz => XS.imul X2.here hx rfl (hb hby d1_18) rfl kz) ?_
    show own_Go p e below _ (T2.setTop (mkF m 19 #[oR this, oI (2 : Int32), oI (1 : Int32)] [(.int (2 : Int32))]))
    refine own_via (fun t kz => XS.istoreN X2.here hx rfl (hb hby d1_19) rfl (l' := #[oR this, oI (2 : Int32), oI (2 : Int32)]) rfl kz) ?_
    refine own_via (fun t kz => XS.goto X2.here hx rfl (pc0 := 20) (pc' := 11) rfl (hb hby d1_20) (by decide) (by decide) kz) ?_
    refine own_via (fun t kz => XS.iloadN X2.here hx rfl (hb hby d1_11) rfl kz) ?_
    refine own_via (fun t kz => XS.iloadN X2.here hx rfl (hb hby d1_12) rfl kz) ?_
    show own_Go p e below _ (T2.setTop (mkF m 13 #[oR this, oI (2 : Int32), oI (2 : Int32)] [(.int (2 : Int32)), (.int (2 : Int32))]))
    refine own_via (fun t kz => XS.icmpYes X2.here hx rfl (pc0 := 13) (pc' := 23) rfl (hb hby d1_13) rfl (flt (by decide : ¬ ((2 : Int32) < (2 : Int32)))).2.1 (by decide) (by decide) kz) ?_
    refine own_via (fun t kz => XS.aloadN X2.here hx rfl (hb hby d1_23) rfl rfl kz) ?_
    refine own_via (fun t kz => XS.iloadN X2.here hx rfl (hb hby d1_24) rfl kz) ?_
    show own_Go p e below _ (T2.setTop (mkF m 25 #[oR this, oI (2 : Int32), oI (2 : Int32)] [(.int (2 : Int32)), (.ref this)]))
    obtain ⟨T9, h9, X9, e9, W9, st9⟩ := putF X2 hx hZ hown (host := "") (Or.inl (own_w hw 13)) Via.refl e2 F5 E3 (Or.inr ⟨(own_w hw 14), rfl, hnm⟩) (own_w hw 3) (ty := .int) (by decide) rfl rfl (g := (mkF m 25 #[oR this, oI (2 : Int32), oI (2 : Int32)] [(.int (2 : Int32)), (.ref this)])) rfl rfl (hb hby d1_25)
    refine own_via st9 ?_
    have E10 := E3.wr W9
    have F11 := F4.other W9 (Or.inr (slot_ne (Or.inr (own_w hw 12)) (Or.inr (own_w hw 14)) (by decide) (t := .int) (t' := .int) (by decide) (by decide)))
    have F12 := F5.same W9
    have F13 := F6.other W9 (Or.inr (slot_ne (Or.inr (own_w hw 17)) (Or.inr (own_w hw 14)) (by decide) (t := (.array .double)) (t' := .int) (by decide) (by decide)))
    have Zs14 : n0 ≤ h9.size := Nat.le_trans Zs7 (Keep.of_wr W9).1
    have N15 := Fr.snoc X9 N8 g_this
    refine own_via (fun t kz => XS.aloadN X9.here hx rfl (hb hby d1_28) rfl rfl kz) ?_
    refine own_via (fun t kz => XS.iconst X9.here hx rfl (hb hby d1_29) kz) ?_
    refine own_via (fun t kz => XS.iloadN X9.here hx rfl (hb hby d1_30) rfl kz) ?_
    show own_Go p e below _ (T9.setTop (mkF m 31 #[oR this, oI (2 : Int32), oI (2 : Int32)] [(.int (2 : Int32)), (.int (2 : Int32)), (.ref this)]))
    refine own_via (fun t kz => XS.imul X9.here hx rfl (hb hby d1_31) rfl kz) ?_
    show own_Go p e below _ (T9.setTop (mkF m 32 #[oR this, oI (2 : Int32), oI (2 : Int32)] [(.int (4 : Int32)), (.ref this)]))
    obtain ⟨T16, h16, k16, X16, e16, E16, A16, st16⟩ := newP X9 hx hZ (aty := .double) (own_w hw 15) e9 (g := (mkF m 32 #[oR this, oI (2 : Int32), oI (2 : Int32)] [(.int (4 : Int32)), (.ref this)])) rfl (hb hby d1_32) rfl (by decide) (cap := 4) (by decide) (by decide) (by decide) (by decide)
    obtain ⟨a16, g16⟩ : ∃ z, z = h9.size := ⟨_, rfl⟩
    rw [← g16] at A16 st16
    refine own_via st16 ?_
    have lt17 : this < a16 := Nat.lt_of_lt_of_le E10.lt (Nat.le_of_eq g16.symm)
    have fr18 : n0 ≤ a16 := Nat.le_trans Zs14 (Nat.le_of_eq g16.symm)
    have E19 := E10.ext E16
    have F20 := F11.ext E16
    have F21 := F12.ext E16
    have F22 := F13.ext E16
    have Zs23 : n0 ≤ h16.size := Nat.le_trans Zs14 E16.1
    have V24 : Arv Z h16 a16 k16 .double (4 : Int32) [(.double (FP.l2d (0 : Int64))), (.double (FP.l2d (0 : Int64))), (.double (FP.l2d (0 : Int64))), (.double (FP.l2d (0 : Int64)))] (.double (FP.l2d (0 : Int64))) := (Arv.newD A16 (by decide)).pad (pad_rep [] (.double (FP.l2d (0 : Int64))) 4)
    show own_Go p e below _ (T16.setTop (mkF m 34 #[oR this, oI (2 : Int32), oI (2 : Int32)] [(.ref a16), (.ref this)]))
    obtain ⟨T25, h25, X25, e25, W25, st25⟩ := putF X16 hx hZ hown (host := "") (Or.inl (own_w hw 16)) Via.refl e16 F22 E19 (Or.inr ⟨(own_w hw 17), rfl, hnm⟩) (own_w hw 3) (ty := (.array .double)) (by decide) rfl rfl (g := (mkF m 34 #[oR this, oI (2 : Int32), oI (2 : Int32)] [(.ref a16), (.ref this)])) rfl rfl (hb hby d1_34)
    refine own_via st25 ?_
    have E26 := E19.wr W25
    have F27 := F20.other W25 (Or.inr (slot_ne (Or.inr (own_w hw 12)) (Or.inr (own_w hw 17)) (by decide) (t := .int) (t' := (.array .double)) (by decide) (by decide)))
    have F28 := F21.other W25 (Or.inr (slot_ne (Or.inr (own_w hw 14)) (Or.inr (own_w hw 17)) (by decide) (t := .int) (t' := (.array .double)) (by decide) (by decide)))
    have F29 := F22.same W25
    have V30 := V24.other W25 (Ne.symm (Nat.ne_of_lt lt17))
    have Zs31 : n0 ≤ h25.size := Nat.le_trans Zs23 (Keep.of_wr W25).1
    have N32 := Fr.snoc X25 N15 g_this
    show own_Go p e below _ (T25.setTop (mkF m 37 #[oR this, oI (2 : Int32), oI (2 : Int32)] []))
    obtain ⟨fs, hr, hrun, hended, hW, hsame⟩ := X25.leave (v := none) (fun _ => rfl)
    refine ⟨_, _, X25.returnOut hx Bd.returns (hb hby d1_37) hr, hrun, hended, _, _, rfl, ?_, ⟨_, rfl⟩, hW, hsame.mono (by decide) (by decide)⟩
    show Q1_2 Z this (2 : Int32) h0 n0 _ T25.heap _
    rw [e25]
    exact ⟨rfl, N32, Zs31, a16, k16, ⟨g_this, lt17⟩, E26, F28, F29, V30⟩
theorem d3_28 : decode prog_11_method_3_code 28 = .ok (.aload_n 0, 1) := by decide +kernel
theorem d3_29 : decode prog_11_method_3_code 29 = .ok (.getfield 16, 3) := by decide +kernel
theorem d3_32 : decode prog_11_method_3_code 32 = .ok (.iload 4, 2) := by decide +kernel
theorem d3_34 : decode prog_11_method_3_code 34 = .ok (.aload_n 0, 1) := by decide +kernel
theorem d3_35 : decode prog_11_method_3_code 35 = .ok (.getfield 16, 3) := by decide +kernel
theorem d3_38 : decode prog_11_method_3_code 38 = .ok (.iconst 2, 1) := by decide +kernel
theorem d3_39 : decode prog_11_method_3_code 39 = .ok (.iload 4, 2) := by decide +kernel
theorem d3_41 : decode prog_11_method_3_code 41 = .ok (.imul, 1) := by decide +kernel
theorem d3_42 : decode prog_11_method_3_code 42 = .ok (.daload, 1) := by decide +kernel
theorem d3_43 : decode prog_11_method_3_code 43 = .ok (.aload_n 0, 1) := by decide +kernel
theorem d3_44 : decode prog_11_method_3_code 44 = .ok (.getfield 16, 3) := by decide +kernel
theorem d3_47 : decode prog_11_method_3_code 47 = .ok (.iconst 2, 1) := by decide +kernel
theorem d3_48 : decode prog_11_method_3_code 48 = .ok (.iload 4, 2) := by decide +kernel
theorem d3_50 : decode prog_11_method_3_code 50 = .ok (.imul, 1) := by decide +kernel
theorem d3_51 : decode prog_11_method_3_code 51 = .ok (.iconst 1, 1) := by decide +kernel
theorem d3_52 : decode prog_11_method_3_code 52 = .ok (.iadd, 1) := by decide +kernel
theorem d3_53 : decode prog_11_method_3_code 53 = .ok (.daload, 1) := by decide +kernel
theorem d3_54 : decode prog_11_method_3_code 54 = .ok (.dadd, 1) := by decide +kernel
theorem d3_55 : decode prog_11_method_3_code 55 = .ok (.dastore, 1) := by decide +kernel
theorem d3_56 : decode prog_11_method_3_code 56 = .ok (.iload 4, 2) := by decide +kernel
theorem d3_58 : decode prog_11_method_3_code 58 = .ok (.iconst 2, 1) := by decide +kernel
theorem d3_59 : decode prog_11_method_3_code 59 = .ok (.idiv, 1) := by decide +kernel
theorem d3_60 : decode prog_11_method_3_code 60 = .ok (.istore 4, 2) := by decide +kernel
theorem d3_62 : decode prog_11_method_3_code 62 = .ok (.goto (-40), 3) := by decide +kernel
theorem ef_rm3_2 (m : MethodId) (q0 : Addr) (q1 : Int32) (q2 : UInt64) : entryFrame m #[(.ref q0), (.int q1), (.double q2)] 5 = mkF m 0 #[oR q0, oI q1, oD q2, .second, .unset] [] := by first | (simp [entryFrame, mkF, argsToLocals, Value.category]; done) | rfl
def Q3_2 (Z : State) (this : Addr) (p1 : Int32) (wv : Int64) (w0_ : Int64) (w1_ : Int64) (h0 : Heap) (n0 : Nat) (v : Option Value) (h : Heap) (L : List Loc) : Prop := v = none ∧ Fr n0 L ∧ n0 ≤ h.size ∧ own_W2 Z h n0 this (if p1 = (0 : Int32) then wv else w0_) (if p1 = (1 : Int32) then wv else w1_)
set_option maxRecDepth 65536 in
set_option maxHeartbeats 40000000 in
theorem rm3_2 (l : Launch) (Z : State) (a0 : Array Value) (hw : ∀ d ∈ tables_1, d.before a0 Z = true) (ws : List Jvm.Cond) (this : Addr) (p1 : Int32) (wv : Int64) (w0_ : Int64) (w1_ : Int64) (h0 : Heap) (n0 : Nat) (Z0 : n0 ≤ h0.size) (TC : own_W2 Z h0 n0 this w0_ w1_) (hp : p1 = 0 ∨ p1 = 1) (hbv : own_bd 1 wv) (hb0 : own_bd 1 w0_) (hb1 : own_bd 1 w1_) :
    MetFree l (⟨"com/example/coupewise/coupewise/WeightedDraw", "set", "(ID)V"⟩ : MethodName) (head1 (Jvm.Cond.code (⟨"com/example/coupewise/coupewise/WeightedDraw", "set", "(ID)V"⟩ : MethodName) prog_11_method_3_code 5 none :: ws) ({ frames := 0, cells := 0, slots := 0, locals := 0 } : Room)) (fun a U => a = #[(.ref this), (.int p1), (.double (FP.l2d wv))] ∧ Z.Warmed39 U.vm ∧ U.heap = h0) (fun _ _ _ _ _ => True) (fun _ U o U' => ∃ v L, o = .returned v ∧ Q3_2 Z this p1 wv w0_ w1_ h0 n0 v U'.heap L ∧ FrameEnd U o U' L ({ frames := 0, cells := 0, slots := 0, locals := 0 } : Room).cells ({ frames := 0, cells := 0, slots := 0, locals := 0 } : Room).slots) := by
  refine MetFree.of_bodySF (plainFor_of_name pn_1) hisR ?_
  intro p e s m args below meth c s₁ Bd hml0 hP hK
  obtain ⟨rfl, hZ, hh⟩ := hP
  have hx := Bd.exec
  have hby := Bd.bytes
  have hml : c.maxLocals = 5 := hml0
  have hown : s.vm.findClass "com/example/coupewise/coupewise/WeightedDraw" = some m.cls := findClass_of_methodNamed Bd.named
  have hnm := (name_of_methodNamed Bd.named Bd.method).1
  have X0 : Stand p l e ({ frames := 0, cells := 0, slots := 0, locals := 0 } : Room) s m #[(.ref this), (.int p1), (.double (FP.l2d wv))] below meth c s₁ [] 0 0 := Stand.of_body Bd
  have e0 : s₁.heap = h0 := by rw [← hh, Bd.state]; rfl
  have N0 := Fr.nil n0
  refine own_start ?_
  refine own_via (fun t k => castTop (ef_rm3_2 m this p1 (FP.l2d wv)) k) ?_
  obtain ⟨arr, kA, ⟨ch0, ch1⟩, Eq, Fq0, Fq1, Vq⟩ := TC
  rcases hp with rfl | rfl
  · show own_Go p e below _ (s₁.setTop (mkF m 0 #[oR this, oI (0 : Int32), oD (FP.l2d wv), .second, .unset] []))
    refine own_via (fun t kz => XS.aloadN X0.here hx rfl (hb hby d3_0) rfl rfl kz) ?_
    show own_Go p e below _ (s₁.setTop (mkF m 1 #[oR this, oI (0 : Int32), oD (FP.l2d wv), .second, .unset] [(.ref this)]))
    obtain ⟨T1, X1, e1, st1⟩ := getF X0 hx hZ hown (host := "") (Or.inl (own_w hw 13)) Via.refl e0 Fq0 (g := (mkF m 1 #[oR this, oI (0 : Int32), oD (FP.l2d wv), .second, .unset] [(.ref this)])) rfl rfl (hb hby d3_1)
    refine own_via st1 ?_
    refine own_via (fun t kz => XS.iloadN X1.here hx rfl (hb hby d3_4) rfl kz) ?_
    refine own_via (fun t kz => XS.iadd X1.here hx rfl (hb hby d3_5) rfl kz) ?_
    refine own_via (fun t kz => XS.istore X1.here hx rfl (hb hby d3_6) rfl (l' := #[oR this, oI (0 : Int32), oD (FP.l2d wv), .second, oI (2 : Int32)]) rfl kz) ?_
    show own_Go p e below _ (T1.setTop (mkF m 8 #[oR this, oI (0 : Int32), oD (FP.l2d wv), .second, oI (2 : Int32)] []))
    refine own_via (fun t kz => XS.aloadN X1.here hx rfl (hb hby d3_8) rfl rfl kz) ?_
    show own_Go p e below _ (T1.setTop (mkF m 9 #[oR this, oI (0 : Int32), oD (FP.l2d wv), .second, oI (2 : Int32)] [(.ref this)]))
    obtain ⟨T2, X2, e2, st2⟩ := getF X1 hx hZ hown (host := "") (Or.inl (own_w hw 16)) Via.refl e1 Fq1 (g := (mkF m 9 #[oR this, oI (0 : Int32), oD (FP.l2d wv), .second, oI (2 : Int32)] [(.ref this)])) rfl rfl (hb hby d3_9)
    refine own_via st2 ?_
    refine own_via (fun t kz => XS.iload X2.here hx rfl (hb hby d3_12) rfl kz) ?_
    refine own_via (fun t kz => XS.dloadN X2.here hx rfl (hb hby d3_14) rfl kz) ?_
    show own_Go p e below _ (T2.setTop (mkF m 15 #[oR this, oI (0 : Int32), oD (FP.l2d wv), .second, oI (2 : Int32)] [(.double (FP.l2d wv)), (.int (2 : Int32)), (.ref arr)]))
    obtain ⟨cl3, Ar3, kc3, Sz3, Nn3, Hs3, Gs3⟩ := id Vq
    obtain ⟨T3, h3, X3, e3, W3, st3⟩ := stD X2 hx hZ e2 Ar3 (j := (2 : Int32)) (inb_of Sz3 ⟨by decide, by decide⟩) (g := (mkF m 15 #[oR this, oI (0 : Int32), oD (FP.l2d wv), .second, oI (2 : Int32)] [(.double (FP.l2d wv)), (.int (2 : Int32)), (.ref arr)])) rfl rfl (hb hby d3_15)
    refine own_via st3 ?_
    have E4 := Eq.wr W3
    have F5 := Fq0.other W3 (Or.inl (own_neq (by omega)))
    have F6 := Fq1.other W3 (Or.inl (own_neq (by omega)))
    have Zs7 : n0 ≤ h3.size := Nat.le_trans Z0 (Keep.of_wr W3).1
    have N8 := Fr.snoc X3 N0 (show n0 ≤ arr by omega)
    have V9 : Arv Z h3 arr kA .double (4 : Int32) [(.double (FP.l2d (0 : Int64))), (.double (FP.l2d (w0_ + w1_))), (.double (FP.l2d wv)), (.double (FP.l2d w1_))] (.double (FP.l2d (0 : Int64))) := Arv.set Ar3 kc3 Sz3 Nn3 Hs3 Gs3 rfl W3 2 (by first | decide | (show 2 < 4; decide)) (by first | decide | (show 2 < 4; decide))
    refine own_via (fun t kz => XS.iload X3.here hx rfl (hb hby d3_16) rfl kz) ?_
    refine own_via (fun t kz => XS.iconst X3.here hx rfl (hb hby d3_18) kz) ?_
    refine own_via (fun t kz => XS.idiv X3.here hx rfl (hb hby d3_19) rfl (by decide) kz) ?_
    show own_Go p e below _ (T3.setTop (mkF m 20 #[oR this, oI (0 : Int32), oD (FP.l2d wv), .second, oI (2 : Int32)] [(.int (1 : Int32))]))
    refine own_via (fun t kz => XS.istore X3.here hx rfl (hb hby d3_20) rfl (l' := #[oR this, oI (0 : Int32), oD (FP.l2d wv), .second, oI (1 : Int32)]) rfl kz) ?_
    refine own_via (fun t kz => XS.iload X3.here hx rfl (hb hby d3_22) rfl kz) ?_
    refine own_via (fun t kz => XS.iconst X3.here hx rfl (hb hby d3_24) kz) ?_
    show own_Go p e below _ (T3.setTop (mkF m 25 #[oR this, oI (0 : Int32), oD (FP.l2d wv), .second, oI (1 : Int32)] [(.int (1 : Int32)), (.int (1 : Int32))]))
    refine own_via (fun t kz => XS.icmpNo X3.here hx rfl (hb hby d3_25) rfl (flt (by decide : ¬ ((1 : Int32) < (1 : Int32)))).1 kz) ?_
    refine own_via (fun t kz => XS.aloadN X3.here hx rfl (hb hby d3_28) rfl rfl kz) ?_
    show own_Go p e below _ (T3.setTop (mkF m 29 #[oR this, oI (0 : Int32), oD (FP.l2d wv), .second, oI (1 : Int32)] [(.ref this)]))
    obtain ⟨T10, X10, e10, st10⟩ := getF X3 hx hZ hown (host := "") (Or.inl (own_w hw 16)) Via.refl e3 F6 (g := (mkF m 29 #[oR this, oI (0 : Int32), oD (FP.l2d wv), .second, oI (1 : Int32)] [(.ref this)])) rfl rfl (hb hby d3_29)
    refine own_via st10 ?_
    refine own_via (fun t kz => XS.iload X10.here hx rfl (hb hby d3_32) rfl kz) ?_
    refine own_via (fun t kz => XS.aloadN X10.here hx rfl (hb hby d3_34) rfl rfl kz) ?_
    show own_Go p e below _ (T10.setTop (mkF m 35 #[oR this, oI (0 : Int32), oD (FP.l2d wv), .second, oI (1 : Int32)] [(.ref this), (.int (1 : Int32)), (.ref arr)]))
    obtain ⟨T11, X11, e11, st11⟩ := getF X10 hx hZ hown (host := "") (Or.inl (own_w hw 16)) Via.refl e10 F6 (g := (mkF m 35 #[oR this, oI (0 : Int32), oD (FP.l2d wv), .second, oI (1 : Int32)] [(.ref this), (.int (1 : Int32)), (.ref arr)])) rfl rfl (hb hby d3_35)
    refine own_via st11 ?_
    refine own_via (fun t kz => XS.iconst X11.here hx rfl (hb hby d3_38) kz) ?_
    refine own_via (fun t kz => XS.iload X11.here hx rfl (hb hby d3_39) rfl kz) ?_
    refine own_via (fun t kz => XS.imul X11.here hx rfl (hb hby d3_41) rfl kz) ?_
    show own_Go p e below _ (T11.setTop (mkF m 42 #[oR this, oI (0 : Int32), oD (FP.l2d wv), .second, oI (1 : Int32)] [(.int (2 : Int32)), (.ref arr), (.int (1 : Int32)), (.ref arr)]))
    obtain ⟨cl12, Ar12, kc12, Sz12, Nn12, Hs12, Gs12⟩ := id V9
    have in12 := inb_of (j := (2 : Int32)) Sz12 ⟨by decide, by decide⟩
    have at12 : cl12.slots[((2 : Int32)).toNatClampNeg]? = some (.double (FP.l2d wv)) := Hs12.at in12 rfl
    refine own_via (fun t kz => X11.daload hx (j := (2 : Int32)) (v := (.double (FP.l2d wv))) (by rw [e11]; exact Ar12.1) (State.isArrayOf_alike hZ.alike Ar12.2.1) Ar12.2.2 in12 at12 (g := (mkF m 42 #[oR this, oI (0 : Int32), oD (FP.l2d wv), .second, oI (1 : Int32)] [(.int (2 : Int32)), (.ref arr), (.int (1 : Int32)), (.ref arr)])) rfl rfl (hb hby d3_42) t kz) ?_
    refine own_via (fun t kz => XS.aloadN X11.here hx rfl (hb hby d3_43) rfl rfl kz) ?_
    show own_Go p e below _ (T11.setTop (mkF m 44 #[oR this, oI (0 : Int32), oD (FP.l2d wv), .second, oI (1 : Int32)] [(.ref this), (.double (FP.l2d wv)), (.int (1 : Int32)), (.ref arr)]))
    obtain ⟨T13, X13, e13, st13⟩ := getF X11 hx hZ hown (host := "") (Or.inl (own_w hw 16)) Via.refl e11 F6 (g := (mkF m 44 #[oR this, oI (0 : Int32), oD (FP.l2d wv), .second, oI (1 : Int32)] [(.ref this), (.double (FP.l2d wv)), (.int (1 : Int32)), (.ref arr)])) rfl rfl (hb hby d3_44)
    refine own_via st13 ?_
    refine own_via (fun t kz => XS.iconst X13.here hx rfl (hb hby d3_47) kz) ?_
    refine own_via (fun t kz => XS.iload X13.here hx rfl (hb hby d3_48) rfl kz) ?_
    refine own_via (fun t kz => XS.imul X13.here hx rfl (hb hby d3_50) rfl kz) ?_
    show own_Go p e below _ (T13.setTop (mkF m 51 #[oR this, oI (0 : Int32), oD (FP.l2d wv), .second, oI (1 : Int32)] [(.int (2 : Int32)), (.ref arr), (.double (FP.l2d wv)), (.int (1 : Int32)), (.ref arr)]))
    refine own_via (fun t kz => XS.iconst X13.here hx rfl (hb hby d3_51) kz) ?_
    refine own_via (fun t kz => XS.iadd X13.here hx rfl (hb hby d3_52) rfl kz) ?_
    show own_Go p e below _ (T13.setTop (mkF m 53 #[oR this, oI (0 : Int32), oD (FP.l2d wv), .second, oI (1 : Int32)] [(.int (3 : Int32)), (.ref arr), (.double (FP.l2d wv)), (.int (1 : Int32)), (.ref arr)]))
    obtain ⟨cl14, Ar14, kc14, Sz14, Nn14, Hs14, Gs14⟩ := id V9
    have in14 := inb_of (j := (3 : Int32)) Sz14 ⟨by decide, by decide⟩
    have at14 : cl14.slots[((3 : Int32)).toNatClampNeg]? = some (.double (FP.l2d w1_)) := Hs14.at in14 rfl
    refine own_via (fun t kz => X13.daload hx (j := (3 : Int32)) (v := (.double (FP.l2d w1_))) (by rw [e13]; exact Ar14.1) (State.isArrayOf_alike hZ.alike Ar14.2.1) Ar14.2.2 in14 at14 (g := (mkF m 53 #[oR this, oI (0 : Int32), oD (FP.l2d wv), .second, oI (1 : Int32)] [(.int (3 : Int32)), (.ref arr), (.double (FP.l2d wv)), (.int (1 : Int32)), (.ref arr)])) rfl rfl (hb hby d3_53) t kz) ?_
    show own_Go p e below _ (T13.setTop (mkF m 54 #[oR this, oI (0 : Int32), oD (FP.l2d wv), .second, oI (1 : Int32)] [(.double (FP.l2d w1_)), (.double (FP.l2d wv)), (.int (1 : Int32)), (.ref arr)]))
    refine own_via (fun t kz => XS.daddS X13.here hx rfl (hb hby d3_54) rfl (nn_w (dadd_w (own_b53 hbv (by decide)) (own_b53 hb1 (by decide)))) (dadd_w (own_b53 hbv (by decide)) (own_b53 hb1 (by decide))) kz) ?_
    show own_Go p e below _ (T13.setTop (mkF m 55 #[oR this, oI (0 : Int32), oD (FP.l2d wv), .second, oI (1 : Int32)] [(.double (FP.l2d (wv + w1_))), (.int (1 : Int32)), (.ref arr)]))
    obtain ⟨cl15, Ar15, kc15, Sz15, Nn15, Hs15, Gs15⟩ := id V9
    obtain ⟨T15, h15, X15, e15, W15, st15⟩ := stD X13 hx hZ e13 Ar15 (j := (1 : Int32)) (inb_of Sz15 ⟨by decide, by decide⟩) (g := (mkF m 55 #[oR this, oI (0 : Int32), oD (FP.l2d wv), .second, oI (1 : Int32)] [(.double (FP.l2d (wv + w1_))), (.int (1 : Int32)), (.ref arr)])) rfl rfl (hb hby d3_55)
    refine own_via st15 ?_
    have E16 := E4.wr W15
    have F17 := F5.other W15 (Or.inl (own_neq (by omega)))
    have F18 := F6.other W15 (Or.inl (own_neq (by omega)))
    have Zs19 : n0 ≤ h15.size := Nat.le_trans Zs7 (Keep.of_wr W15).1
    have N20 := Fr.snoc X15 N8 (show n0 ≤ arr by omega)
    have V21 : Arv Z h15 arr kA .double (4 : Int32) [(.double (FP.l2d (0 : Int64))), (.double (FP.l2d (wv + w1_))), (.double (FP.l2d wv)), (.double (FP.l2d w1_))] (.double (FP.l2d (0 : Int64))) := Arv.set Ar15 kc15 Sz15 Nn15 Hs15 Gs15 rfl W15 1 (by first | decide | (show 1 < 4; decide)) (by first | decide | (show 1 < 4; decide))
    refine own_via (fun t kz => XS.iload X15.here hx rfl (hb hby d3_56) rfl kz) ?_
    refine own_via (fun t kz => XS.iconst X15.here hx rfl (hb hby d3_58) kz) ?_
    refine own_via (fun t kz => XS.idiv X15.here hx rfl (hb hby d3_59) rfl (by decide) kz) ?_
    show own_Go p e below _ (T15.setTop (mkF m 60 #[oR this, oI (0 : Int32), oD (FP.l2d wv), .second, oI (1 : Int32)] [(.int (0 : Int32))]))
    refine own_via (fun t kz => XS.istore X15.here hx rfl (hb hby d3_60) rfl (l' := #[oR this, oI (0 : Int32), oD (FP.l2d wv), .second, oI (0 : Int32)]) rfl kz) ?_
    refine own_via (fun t kz => XS.goto X15.here hx rfl (pc0 := 62) (pc' := 22) rfl (hb hby d3_62) (by decide) (by decide) kz) ?_
    refine own_via (fun t kz => XS.iload X15.here hx rfl (hb hby d3_22) rfl kz) ?_
    refine own_via (fun t kz => XS.iconst X15.here hx rfl (hb hby d3_24) kz) ?_
    show own_Go p e below _ (T15.setTop (mkF m 25 #[oR this, oI (0 : Int32), oD (FP.l2d wv), .second, oI (0 : Int32)] [(.int (1 : Int32)), (.int (0 : Int32))]))
    refine own_via (fun t kz => XS.icmpYes X15.here hx rfl (pc0 := 25) (pc' := 65) rfl (hb hby d3_25) rfl (tlt (by decide : (0 : Int32) < (1 : Int32))).1 (by decide) (by decide) kz) ?_
    show own_Go p e below _ (T15.setTop (mkF m 65 #[oR this, oI (0 : Int32), oD (FP.l2d wv), .second, oI (0 : Int32)] []))
    have hT : own_W2 Z h15 n0 this wv w1_ := ⟨arr, kA, ⟨ch0, ch1⟩, E16, F17, F18, V21⟩
    obtain ⟨fs, hr, hrun, hended, hW, hsame⟩ := X15.leave (v := none) (fun _ => rfl)
    refine ⟨_, _, X15.returnOut hx Bd.returns (hb hby d3_65) hr, hrun, hended, _, _, rfl, ?_, ⟨_, rfl⟩, hW, hsame.mono (by decide) (by decide)⟩
    show Q3_2 Z this (0 : Int32) wv w0_ w1_ h0 n0 _ T15.heap _
    rw [e15]
    exact ⟨rfl, N20, Zs19, by rw [if_pos (rfl : (0 : Int32) = (0 : Int32)), if_neg (by decide : ¬ (0 : Int32) = (1 : Int32))]; exact hT⟩
  · show own_Go p e below _ (s₁.setTop (mkF m 0 #[oR this, oI (1 : Int32), oD (FP.l2d wv), .second, .unset] []))
    refine own_via (fun t kz => XS.aloadN X0.here hx rfl (hb hby d3_0) rfl rfl kz) ?_
    show own_Go p e below _ (s₁.setTop (mkF m 1 #[oR this, oI (1 : Int32), oD (FP.l2d wv), .second, .unset] [(.ref this)]))
    obtain ⟨T23, X23, e23, st23⟩ := getF X0 hx hZ hown (host := "") (Or.inl (own_w hw 13)) Via.refl e0 Fq0 (g := (mkF m 1 #[oR this, oI (1 : Int32), oD (FP.l2d wv), .second, .unset] [(.ref this)])) rfl rfl (hb hby d3_1)
    refine own_via st23 ?_
    refine own_via (fun t kz => XS.iloadN X23.here hx rfl (hb hby d3_4) rfl kz) ?_
    refine own_via (fun t kz => XS.iadd X23.here hx rfl (hb hby d3_5) rfl kz) ?_
    refine own_via (fun t kz => XS.istore X23.here hx rfl (hb hby d3_6) rfl (l' := #[oR this, oI (1 : Int32), oD (FP.l2d wv), .second, oI (3 : Int32)]) rfl kz) ?_
    show own_Go p e below _ (T23.setTop (mkF m 8 #[oR this, oI (1 : Int32), oD (FP.l2d wv), .second, oI (3 : Int32)] []))
    refine own_via (fun t kz => XS.aloadN X23.here hx rfl (hb hby d3_8) rfl rfl kz) ?_
    show own_Go p e below _ (T23.setTop (mkF m 9 #[oR this, oI (1 : Int32), oD (FP.l2d wv), .second, oI (3 : Int32)] [(.ref this)]))
    obtain ⟨T24, X24, e24, st24⟩ := getF X23 hx hZ hown (host := "") (Or.inl (own_w hw 16)) Via.refl e23 Fq1 (g := (mkF m 9 #[oR this, oI (1 : Int32), oD (FP.l2d wv), .second, oI (3 : Int32)] [(.ref this)])) rfl rfl (hb hby d3_9)
    refine own_via st24 ?_
    refine own_via (fun t kz => XS.iload X24.here hx rfl (hb hby d3_12) rfl kz) ?_
    refine own_via (fun t kz => XS.dloadN X24.here hx rfl (hb hby d3_14) rfl kz) ?_
    show own_Go p e below _ (T24.setTop (mkF m 15 #[oR this, oI (1 : Int32), oD (FP.l2d wv), .second, oI (3 : Int32)] [(.double (FP.l2d wv)), (.int (3 : Int32)), (.ref arr)]))
    obtain ⟨cl25, Ar25, kc25, Sz25, Nn25, Hs25, Gs25⟩ := id Vq
    obtain ⟨T25, h25, X25, e25, W25, st25⟩ := stD X24 hx hZ e24 Ar25 (j := (3 : Int32)) (inb_of Sz25 ⟨by decide, by decide⟩) (g := (mkF m 15 #[oR this, oI (1 : Int32), oD (FP.l2d wv), .second, oI (3 : Int32)] [(.double (FP.l2d wv)), (.int (3 : Int32)), (.ref arr)])) rfl rfl (hb hby d3_15)
    refine own_via st25 ?_
    have E26 := Eq.wr W25
    have F27 := Fq0.other W25 (Or.inl (own_neq (by omega)))
    have F28 := Fq1.other W25 (Or.inl (own_neq (by omega)))
    have Zs29 : n0 ≤ h25.size := Nat.le_trans Z0 (Keep.of_wr W25).1
    have N30 := Fr.snoc X25 N0 (show n0 ≤ arr by omega)
    have V31 : Arv Z h25 arr kA .double (4 : Int32) [(.double (FP.l2d (0 : Int64))), (.double (FP.l2d (w0_ + w1_))), (.double (FP.l2d w0_)), (.double (FP.l2d wv))] (.double (FP.l2d (0 : Int64))) := Arv.set Ar25 kc25 Sz25 Nn25 Hs25 Gs25 rfl W25 3 (by first | decide | (show 3 < 4; decide)) (by first | decide | (show 3 < 4; decide))
    refine own_via (fun t kz => XS.iload X25.here hx rfl (hb hby d3_16) rfl kz) ?_
    refine own_via (fun t kz => XS.iconst X25.here hx rfl (hb hby d3_18) kz) ?_
    refine own_via (fun t kz => XS.idiv X25.here hx rfl (hb hby d3_19) rfl (by decide) kz) ?_
    show own_Go p e below _ (T25.setTop (mkF m 20 #[oR this, oI (1 : Int32), oD (FP.l2d wv), .second, oI (3 : Int32)] [(.int (1 : Int32))]))
    refine own_via (fun t kz => XS.istore X25.here hx rfl (hb hby d3_20) rfl (l' := #[oR this, oI (1 : Int32), oD (FP.l2d wv), .second, oI (1 : Int32)]) rfl kz) ?_
    refine own_via (fun t kz => XS.iload X25.here hx rfl (hb hby d3_22) rfl kz) ?_
    refine own_via (fun t kz => XS.iconst X25.here hx rfl (hb hby d3_24) kz) ?_
    show own_Go p e below _ (T25.setTop (mkF m 25 #[oR this, oI (1 : Int32), oD (FP.l2d wv), .second, oI (1 : Int32)] [(.int (1 : Int32)), (.int (1 : Int32))]))
    refine own_via (fun t kz => XS.icmpNo X25.here hx rfl (hb hby d3_25) rfl (flt (by decide : ¬ ((1 : Int32) < (1 : Int32)))).1 kz) ?_
    refine own_via (fun t kz => XS.aloadN X25.here hx rfl (hb hby d3_28) rfl rfl kz) ?_
    show own_Go p e below _ (T25.setTop (mkF m 29 #[oR this, oI (1 : Int32), oD (FP.l2d wv), .second, oI (1 : Int32)] [(.ref this)]))
    obtain ⟨T32, X32, e32, st32⟩ := getF X25 hx hZ hown (host := "") (Or.inl (own_w hw 16)) Via.refl e25 F28 (g := (mkF m 29 #[oR this, oI (1 : Int32), oD (FP.l2d wv), .second, oI (1 : Int32)] [(.ref this)])) rfl rfl (hb hby d3_29)
    refine own_via st32 ?_
    refine own_via (fun t kz => XS.iload X32.here hx rfl (hb hby d3_32) rfl kz) ?_
    refine own_via (fun t kz => XS.aloadN X32.here hx rfl (hb hby d3_34) rfl rfl kz) ?_
    show own_Go p e below _ (T32.setTop (mkF m 35 #[oR this, oI (1 : Int32), oD (FP.l2d wv), .second, oI (1 : Int32)] [(.ref this), (.int (1 : Int32)), (.ref arr)]))
    obtain ⟨T33, X33, e33, st33⟩ := getF X32 hx hZ hown (host := "") (Or.inl (own_w hw 16)) Via.refl e32 F28 (g := (mkF m 35 #[oR this, oI (1 : Int32), oD (FP.l2d wv), .second, oI (1 : Int32)] [(.ref this), (.int (1 : Int32)), (.ref arr)])) rfl rfl (hb hby d3_35)
    refine own_via st33 ?_
    refine own_via (fun t kz => XS.iconst X33.here hx rfl (hb hby d3_38) kz) ?_
    refine own_via (fun t kz => XS.iload X33.here hx rfl (hb hby d3_39) rfl kz) ?_
    refine own_via (fun t kz => XS.imul X33.here hx rfl (hb hby d3_41) rfl kz) ?_
    show own_Go p e below _ (T33.setTop (mkF m 42 #[oR this, oI (1 : Int32), oD (FP.l2d wv), .second, oI (1 : Int32)] [(.int (2 : Int32)), (.ref arr), (.int (1 : Int32)), (.ref arr)]))
    obtain ⟨cl34, Ar34, kc34, Sz34, Nn34, Hs34, Gs34⟩ := id V31
    have in34 := inb_of (j := (2 : Int32)) Sz34 ⟨by decide, by decide⟩
    have at34 : cl34.slots[((2 : Int32)).toNatClampNeg]? = some (.double (FP.l2d w0_)) := Hs34.at in34 rfl
    refine own_via (fun t kz => X33.daload hx (j := (2 : Int32)) (v := (.double (FP.l2d w0_))) (by rw [e33]; exact Ar34.1) (State.isArrayOf_alike hZ.alike Ar34.2.1) Ar34.2.2 in34 at34 (g := (mkF m 42 #[oR this, oI (1 : Int32), oD (FP.l2d wv), .second, oI (1 : Int32)] [(.int (2 : Int32)), (.ref arr), (.int (1 : Int32)), (.ref arr)])) rfl rfl (hb hby d3_42) t kz) ?_
    refine own_via (fun t kz => XS.aloadN X33.here hx rfl (hb hby d3_43) rfl rfl kz) ?_
    show own_Go p e below _ (T33.setTop (mkF m 44 #[oR this, oI (1 : Int32), oD (FP.l2d wv), .second, oI (1 : Int32)] [(.ref this), (.double (FP.l2d w0_)), (.int (1 : Int32)), (.ref arr)]))
    obtain ⟨T35, X35, e35, st35⟩ := getF X33 hx hZ hown (host := "") (Or.inl (own_w hw 16)) Via.refl e33 F28 (g := (mkF m 44 #[oR this, oI (1 : Int32), oD (FP.l2d wv), .second, oI (1 : Int32)] [(.ref this), (.double (FP.l2d w0_)), (.int (1 : Int32)), (.ref arr)])) rfl rfl (hb hby d3_44)
    refine own_via st35 ?_
    refine own_via (fun t kz => XS.iconst X35.here hx rfl (hb hby d3_47) kz) ?_
    refine own_via (fun t kz => XS.iload X35.here hx rfl (hb hby d3_48) rfl kz) ?_
    refine own_via (fun t kz => XS.imul X35.here hx rfl (hb hby d3_50) rfl kz) ?_
    show own_Go p e below _ (T35.setTop (mkF m 51 #[oR this, oI (1 : Int32), oD (FP.l2d wv), .second, oI (1 : Int32)] [(.int (2 : Int32)), (.ref arr), (.double (FP.l2d w0_)), (.int (1 : Int32)), (.ref arr)]))
    refine own_via (fun t kz => XS.iconst X35.here hx rfl (hb hby d3_51) kz) ?_
    refine own_via (fun t kz => XS.iadd X35.here hx rfl (hb hby d3_52) rfl kz) ?_
    show own_Go p e below _ (T35.setTop (mkF m 53 #[oR this, oI (1 : Int32), oD (FP.l2d wv), .second, oI (1 : Int32)] [(.int (3 : Int32)), (.ref arr), (.double (FP.l2d w0_)), (.int (1 : Int32)), (.ref arr)]))
    obtain ⟨cl36, Ar36, kc36, Sz36, Nn36, Hs36, Gs36⟩ := id V31
    have in36 := inb_of (j := (3 : Int32)) Sz36 ⟨by decide, by decide⟩
    have at36 : cl36.slots[((3 : Int32)).toNatClampNeg]? = some (.double (FP.l2d wv)) := Hs36.at in36 rfl
    refine own_via (fun t kz => X35.daload hx (j := (3 : Int32)) (v := (.double (FP.l2d wv))) (by rw [e35]; exact Ar36.1) (State.isArrayOf_alike hZ.alike Ar36.2.1) Ar36.2.2 in36 at36 (g := (mkF m 53 #[oR this, oI (1 : Int32), oD (FP.l2d wv), .second, oI (1 : Int32)] [(.int (3 : Int32)), (.ref arr), (.double (FP.l2d w0_)), (.int (1 : Int32)), (.ref arr)])) rfl rfl (hb hby d3_53) t kz) ?_
    show own_Go p e below _ (T35.setTop (mkF m 54 #[oR this, oI (1 : Int32), oD (FP.l2d wv), .second, oI (1 : Int32)] [(.double (FP.l2d wv)), (.double (FP.l2d w0_)), (.int (1 : Int32)), (.ref arr)]))
    refine own_via (fun t kz => XS.daddS X35.here hx rfl (hb hby d3_54) rfl (nn_w (dadd_w (own_b53 hb0 (by decide)) (own_b53 hbv (by decide)))) (dadd_w (own_b53 hb0 (by decide)) (own_b53 hbv (by decide))) kz) ?_
    show own_Go p e below _ (T35.setTop (mkF m 55 #[oR this, oI (1 : Int32), oD (FP.l2d wv), .second, oI (1 : Int32)] [(.double (FP.l2d (w0_ + wv))), (.int (1 : Int32)), (.ref arr)]))
    obtain ⟨cl37, Ar37, kc37, Sz37, Nn37, Hs37, Gs37⟩ := id V31
    obtain ⟨T37, h37, X37, e37, W37, st37⟩ := stD X35 hx hZ e35 Ar37 (j := (1 : Int32)) (inb_of Sz37 ⟨by decide, by decide⟩) (g := (mkF m 55 #[oR this, oI (1 : Int32), oD (FP.l2d wv), .second, oI (1 : Int32)] [(.double (FP.l2d (w0_ + wv))), (.int (1 : Int32)), (.ref arr)])) rfl rfl (hb hby d3_55)
    refine own_via st37 ?_
    have E38 := E26.wr W37
    have F39 := F27.other W37 (Or.inl (own_neq (by omega)))
    have F40 := F28.other W37 (Or.inl (own_neq (by omega)))
    have Zs41 : n0 ≤ h37.size := Nat.le_trans Zs29 (Keep.of_wr W37).1
    have N42 := Fr.snoc X37 N30 (show n0 ≤ arr by omega)
    have V43 : Arv Z h37 arr kA .double (4 : Int32) [(.double (FP.l2d (0 : Int64))), (.double (FP.l2d (w0_ + wv))), (.double (FP.l2d w0_)), (.double (FP.l2d wv))] (.double (FP.l2d (0 : Int64))) := Arv.set Ar37 kc37 Sz37 Nn37 Hs37 Gs37 rfl W37 1 (by first | decide | (show 1 < 4; decide)) (by first | decide | (show 1 < 4; decide))
    refine own_via (fun t kz => XS.iload X37.here hx rfl (hb hby d3_56) rfl kz) ?_
    refine own_via (fun t kz => XS.iconst X37.here hx rfl (hb hby d3_58) kz) ?_
    refine own_via (fun t kz => XS.idiv X37.here hx rfl (hb hby d3_59) rfl (by decide) kz) ?_
    show own_Go p e below _ (T37.setTop (mkF m 60 #[oR this, oI (1 : Int32), oD (FP.l2d wv), .second, oI (1 : Int32)] [(.int (0 : Int32))]))
    refine own_via (fun t kz => XS.istore X37.here hx rfl (hb hby d3_60) rfl (l' := #[oR this, oI (1 : Int32), oD (FP.l2d wv), .second, oI (0 : Int32)]) rfl kz) ?_
    refine own_via (fun t kz => XS.goto X37.here hx rfl (pc0 := 62) (pc' := 22) rfl (hb hby d3_62) (by decide) (by decide) kz) ?_
    refine own_via (fun t kz => XS.iload X37.here hx rfl (hb hby d3_22) rfl kz) ?_
    refine own_via (fun t kz => XS.iconst X37.here hx rfl (hb hby d3_24) kz) ?_
    show own_Go p e below _ (T37.setTop (mkF m 25 #[oR this, oI (1 : Int32), oD (FP.l2d wv), .second, oI (0 : Int32)] [(.int (1 : Int32)), (.int (0 : Int32))]))
    refine own_via (fun t kz => XS.icmpYes X37.here hx rfl (pc0 := 25) (pc' := 65) rfl (hb hby d3_25) rfl (tlt (by decide : (0 : Int32) < (1 : Int32))).1 (by decide) (by decide) kz) ?_
    show own_Go p e below _ (T37.setTop (mkF m 65 #[oR this, oI (1 : Int32), oD (FP.l2d wv), .second, oI (0 : Int32)] []))
    have hT : own_W2 Z h37 n0 this w0_ wv := ⟨arr, kA, ⟨ch0, ch1⟩, E38, F39, F40, V43⟩
    obtain ⟨fs, hr, hrun, hended, hW, hsame⟩ := X37.leave (v := none) (fun _ => rfl)
    refine ⟨_, _, X37.returnOut hx Bd.returns (hb hby d3_65) hr, hrun, hended, _, _, rfl, ?_, ⟨_, rfl⟩, hW, hsame.mono (by decide) (by decide)⟩
    show Q3_2 Z this (1 : Int32) wv w0_ w1_ h0 n0 _ T37.heap _
    rw [e37]
    exact ⟨rfl, N42, Zs41, by rw [if_neg (by decide : ¬ (1 : Int32) = (0 : Int32)), if_pos (rfl : (1 : Int32) = (1 : Int32))]; exact hT⟩
theorem ef_rm4_2 (m : MethodId) (q0 : Addr) (q1 : Int32) : entryFrame m #[(.ref q0), (.int q1)] 2 = mkF m 0 #[oR q0, oI q1] [] := by first | (simp [entryFrame, mkF, argsToLocals, Value.category]; done) | rfl
def Q4_2 (Z : State) (this : Addr) (p1 : Int32) (w0_ : Int64) (w1_ : Int64) (h0 : Heap) (n0 : Nat) (v : Option Value) (h : Heap) (L : List Loc) : Prop := v = some (.double (FP.l2d (own_sel2 p1 w0_ w1_))) ∧ Fr n0 L ∧ h = h0
set_option maxRecDepth 65536 in
set_option maxHeartbeats 40000000 in
theorem rm4_2 (l : Launch) (Z : State) (a0 : Array Value) (hw : ∀ d ∈ tables_1, d.before a0 Z = true) (ws : List Jvm.Cond) (this : Addr) (p1 : Int32) (w0_ : Int64) (w1_ : Int64) (h0 : Heap) (n0 : Nat) (Z0 : n0 ≤ h0.size) (TC : own_W2 Z h0 n0 this w0_ w1_) (hp : p1 = 0 ∨ p1 = 1) :
    MetFree l (⟨"com/example/coupewise/coupewise/WeightedDraw", "weight", "(I)D"⟩ : MethodName) (head1 (Jvm.Cond.code (⟨"com/example/coupewise/coupewise/WeightedDraw", "weight", "(I)D"⟩ : MethodName) prog_11_method_4_code 2 (some .double) :: ws) ({ frames := 0, cells := 0, slots := 0, locals := 0 } : Room)) (fun a U => a = #[(.ref this), (.int p1)] ∧ Z.Warmed39 U.vm ∧ U.heap = h0) (fun _ _ _ _ _ => True) (fun _ U o U' => ∃ v L, o = .returned v ∧ Q4_2 Z this p1 w0_ w1_ h0 n0 v U'.heap L ∧ FrameEnd U o U' L ({ frames := 0, cells := 0, slots := 0, locals := 0 } : Room).cells ({ frames := 0, cells := 0, slots := 0, locals := 0 } : Room).slots) := by
  refine MetFree.of_bodySF (plainFor_of_name pn_1) hisR ?_
  intro p e s m args below meth c s₁ Bd hml0 hP hK
  obtain ⟨rfl, hZ, hh⟩ := hP
  have hx := Bd.exec
  have hby := Bd.bytes
  have hml : c.maxLocals = 2 := hml0
  have hown : s.vm.findClass "com/example/coupewise/coupewise/WeightedDraw" = some m.cls := findClass_of_methodNamed Bd.named
  have hnm := (name_of_methodNamed Bd.named Bd.method).1
  have X0 : Stand p l e ({ frames := 0, cells := 0, slots := 0, locals := 0 } : Room) s m #[(.ref this), (.int p1)] below meth c s₁ [] 0 0 := Stand.of_body Bd
  have e0 : s₁.heap = h0 := by rw [← hh, Bd.state]; rfl
  have N0 := Fr.nil n0
  refine own_start ?_
  refine own_via (fun t k => castTop (ef_rm4_2 m this p1) k) ?_
  obtain ⟨arr, kA, ⟨ch0, ch1⟩, Eq, Fq0, Fq1, Vq⟩ := TC
  rcases hp with rfl | rfl
  · show own_Go p e below _ (s₁.setTop (mkF m 0 #[oR this, oI (0 : Int32)] []))
    refine own_via (fun t kz => XS.aloadN X0.here hx rfl (hb hby d4_0) rfl rfl kz) ?_
    show own_Go p e below _ (s₁.setTop (mkF m 1 #[oR this, oI (0 : Int32)] [(.ref this)]))
    obtain ⟨T1, X1, e1, st1⟩ := getF X0 hx hZ hown (host := "") (Or.inl (own_w hw 16)) Via.refl e0 Fq1 (g := (mkF m 1 #[oR this, oI (0 : Int32)] [(.ref this)])) rfl rfl (hb hby d4_1)
    refine own_via st1 ?_
    refine own_via (fun t kz => XS.aloadN X1.here hx rfl (hb hby d4_4) rfl rfl kz) ?_
    show own_Go p e below _ (T1.setTop (mkF m 5 #[oR this, oI (0 : Int32)] [(.ref this), (.ref arr)]))
    obtain ⟨T2, X2, e2, st2⟩ := getF X1 hx hZ hown (host := "") (Or.inl (own_w hw 13)) Via.refl e1 Fq0 (g := (mkF m 5 #[oR this, oI (0 : Int32)] [(.ref this), (.ref arr)])) rfl rfl (hb hby d4_5)
    refine own_via st2 ?_
    refine own_via (fun t kz => XS.iloadN X2.here hx rfl (hb hby d4_8) rfl kz) ?_
    refine own_via (fun t kz => XS.iadd X2.here hx rfl (hb hby d4_9) rfl kz) ?_
    show own_Go p e below _ (T2.setTop (mkF m 10 #[oR this, oI (0 : Int32)] [(.int (2 : Int32)), (.ref arr)]))
    obtain ⟨cl3, Ar3, kc3, Sz3, Nn3, Hs3, Gs3⟩ := id Vq
    have in3 := inb_of (j := (2 : Int32)) Sz3 ⟨by decide, by decide⟩
    have at3 : cl3.slots[((2 : Int32)).toNatClampNeg]? = some (.double (FP.l2d w0_)) := Hs3.at in3 rfl
    refine own_via (fun t kz => X2.daload hx (j := (2 : Int32)) (v := (.double (FP.l2d w0_))) (by rw [e2]; exact Ar3.1) (State.isArrayOf_alike hZ.alike Ar3.2.1) Ar3.2.2 in3 at3 (g := (mkF m 10 #[oR this, oI (0 : Int32)] [(.int (2 : Int32)), (.ref arr)])) rfl rfl (hb hby d4_10) t kz) ?_
    show own_Go p e below _ (T2.setTop (mkF m 11 #[oR this, oI (0 : Int32)] [(.double (FP.l2d w0_))]))
    obtain ⟨fs, hr, hrun, hended, hW, hsame⟩ := X2.leave (v := some (.double (FP.l2d w0_))) (fun h => by rw [Bd.returns] at h; cases h)
    refine ⟨_, _, retOut X2 hx (i := .dreturn) Bd.returns rfl (Or.inr (Or.inr (Or.inl ⟨rfl, rfl, _, rfl⟩))) (hb hby d4_11) hr, hrun, hended, _, _, rfl, ?_, ⟨_, rfl⟩, hW, hsame.mono (by decide) (by decide)⟩
    show Q4_2 Z this (0 : Int32) w0_ w1_ h0 n0 _ T2.heap _
    rw [e2]
    exact ⟨by unfold own_sel2; rw [if_pos (rfl : (0 : Int32) = (0 : Int32))], N0, rfl⟩
  · show own_Go p e below _ (s₁.setTop (mkF m 0 #[oR this, oI (1 : Int32)] []))
    refine own_via (fun t kz => XS.aloadN X0.here hx rfl (hb hby d4_0) rfl rfl kz) ?_
    show own_Go p e below _ (s₁.setTop (mkF m 1 #[oR this, oI (1 : Int32)] [(.ref this)]))
    obtain ⟨T5, X5, e5, st5⟩ := getF X0 hx hZ hown (host := "") (Or.inl (own_w hw 16)) Via.refl e0 Fq1 (g := (mkF m 1 #[oR this, oI (1 : Int32)] [(.ref this)])) rfl rfl (hb hby d4_1)
    refine own_via st5 ?_
    refine own_via (fun t kz => XS.aloadN X5.here hx rfl (hb hby d4_4) rfl rfl kz) ?_
    show own_Go p e below _ (T5.setTop (mkF m 5 #[oR this, oI (1 : Int32)] [(.ref this), (.ref arr)]))
    obtain ⟨T6, X6, e6, st6⟩ := getF X5 hx hZ hown (host := "") (Or.inl (own_w hw 13)) Via.refl e5 Fq0 (g := (mkF m 5 #[oR this, oI (1 : Int32)] [(.ref this), (.ref arr)])) rfl rfl (hb hby d4_5)
    refine own_via st6 ?_
    refine own_via (fun t kz => XS.iloadN X6.here hx rfl (hb hby d4_8) rfl kz) ?_
    refine own_via (fun t kz => XS.iadd X6.here hx rfl (hb hby d4_9) rfl kz) ?_
    show own_Go p e below _ (T6.setTop (mkF m 10 #[oR this, oI (1 : Int32)] [(.int (3 : Int32)), (.ref arr)]))
    obtain ⟨cl7, Ar7, kc7, Sz7, Nn7, Hs7, Gs7⟩ := id Vq
    have in7 := inb_of (j := (3 : Int32)) Sz7 ⟨by decide, by decide⟩
    have at7 : cl7.slots[((3 : Int32)).toNatClampNeg]? = some (.double (FP.l2d w1_)) := Hs7.at in7 rfl
    refine own_via (fun t kz => X6.daload hx (j := (3 : Int32)) (v := (.double (FP.l2d w1_))) (by rw [e6]; exact Ar7.1) (State.isArrayOf_alike hZ.alike Ar7.2.1) Ar7.2.2 in7 at7 (g := (mkF m 10 #[oR this, oI (1 : Int32)] [(.int (3 : Int32)), (.ref arr)])) rfl rfl (hb hby d4_10) t kz) ?_
    show own_Go p e below _ (T6.setTop (mkF m 11 #[oR this, oI (1 : Int32)] [(.double (FP.l2d w1_))]))
    obtain ⟨fs, hr, hrun, hended, hW, hsame⟩ := X6.leave (v := some (.double (FP.l2d w1_))) (fun h => by rw [Bd.returns] at h; cases h)
    refine ⟨_, _, retOut X6 hx (i := .dreturn) Bd.returns rfl (Or.inr (Or.inr (Or.inl ⟨rfl, rfl, _, rfl⟩))) (hb hby d4_11) hr, hrun, hended, _, _, rfl, ?_, ⟨_, rfl⟩, hW, hsame.mono (by decide) (by decide)⟩
    show Q4_2 Z this (1 : Int32) w0_ w1_ h0 n0 _ T6.heap _
    rw [e6]
    exact ⟨by unfold own_sel2; rw [if_neg (by decide : ¬ (1 : Int32) = (0 : Int32))], N0, rfl⟩
theorem ef_rm6_2 (m : MethodId) (q0 : Addr) : entryFrame m #[(.ref q0)] 1 = mkF m 0 #[oR q0] [] := by first | (simp [entryFrame, mkF, argsToLocals, Value.category]; done) | rfl
def Q6_2 (Z : State) (this : Addr) (w0_ : Int64) (w1_ : Int64) (h0 : Heap) (n0 : Nat) (v : Option Value) (h : Heap) (L : List Loc) : Prop := v = some (.double (FP.l2d (w0_ + w1_))) ∧ Fr n0 L ∧ h = h0
set_option maxRecDepth 65536 in
set_option maxHeartbeats 40000000 in
theorem rm6_2 (l : Launch) (Z : State) (a0 : Array Value) (hw : ∀ d ∈ tables_1, d.before a0 Z = true) (ws : List Jvm.Cond) (this : Addr) (w0_ : Int64) (w1_ : Int64) (h0 : Heap) (n0 : Nat) (Z0 : n0 ≤ h0.size) (TC : own_W2 Z h0 n0 this w0_ w1_) :
    MetFree l (⟨"com/example/coupewise/coupewise/WeightedDraw", "total", "()D"⟩ : MethodName) (head1 (Jvm.Cond.code (⟨"com/example/coupewise/coupewise/WeightedDraw", "total", "()D"⟩ : MethodName) prog_11_method_5_code 1 (some .double) :: ws) ({ frames := 0, cells := 0, slots := 0, locals := 0 } : Room)) (fun a U => a = #[(.ref this)] ∧ Z.Warmed39 U.vm ∧ U.heap = h0) (fun _ _ _ _ _ => True) (fun _ U o U' => ∃ v L, o = .returned v ∧ Q6_2 Z this w0_ w1_ h0 n0 v U'.heap L ∧ FrameEnd U o U' L ({ frames := 0, cells := 0, slots := 0, locals := 0 } : Room).cells ({ frames := 0, cells := 0, slots := 0, locals := 0 } : Room).slots) := by
  refine MetFree.of_bodySF (plainFor_of_name pn_1) hisR ?_
  intro p e s m args below meth c s₁ Bd hml0 hP hK
  obtain ⟨rfl, hZ, hh⟩ := hP
  have hx := Bd.exec
  have hby := Bd.bytes
  have hml : c.maxLocals = 1 := hml0
  have hown : s.vm.findClass "com/example/coupewise/coupewise/WeightedDraw" = some m.cls := findClass_of_methodNamed Bd.named
  have hnm := (name_of_methodNamed Bd.named Bd.method).1
  have X0 : Stand p l e ({ frames := 0, cells := 0, slots := 0, locals := 0 } : Room) s m #[(.ref this)] below meth c s₁ [] 0 0 := Stand.of_body Bd
  have e0 : s₁.heap = h0 := by rw [← hh, Bd.state]; rfl
  have N0 := Fr.nil n0
  refine own_start ?_
  refine own_via (fun t k => castTop (ef_rm6_2 m this) k) ?_
  obtain ⟨arr, kA, ⟨ch0, ch1⟩, Eq, Fq0, Fq1, Vq⟩ := TC
  show own_Go p e below _ (s₁.setTop (mkF m 0 #[oR this] []))
  refine own_via (fun t kz => XS.aloadN X0.here hx rfl (hb hby d6_0) rfl rfl kz) ?_
  show own_Go p e below _ (s₁.setTop (mkF m 1 #[oR this] [(.ref this)]))
  obtain ⟨T1, X1, e1, st1⟩ := getF X0 hx hZ hown (host := "") (Or.inl (own_w hw 16)) Via.refl e0 Fq1 (g := (mkF m 1 #[oR this] [(.ref this)])) rfl rfl (hb hby d6_1)
  refine own_via st1 ?_
  refine own_via (fun t kz => XS.iconst X1.here hx rfl (hb hby d6_4) kz) ?_
  show own_Go p e below _ (T1.setTop (mkF m 5 #[oR this] [(.int (1 : Int32)), (.ref arr)]))
  obtain ⟨cl2, Ar2, kc2, Sz2, Nn2, Hs2, Gs2⟩ := id Vq
  have in2 := inb_of (j := (1 : Int32)) Sz2 ⟨by decide, by decide⟩
  have at2 : cl2.slots[((1 : Int32)).toNatClampNeg]? = some (.double (FP.l2d (w0_ + w1_))) := Hs2.at in2 rfl
  refine own_via (fun t kz => X1.daload hx (j := (1 : Int32)) (v := (.double (FP.l2d (w0_ + w1_)))) (by rw [e1]; exact Ar2.1) (State.isArrayOf_alike hZ.alike Ar2.2.1) Ar2.2.2 in2 at2 (g := (mkF m 5 #[oR this] [(.int (1 : Int32)), (.ref arr)])) rfl rfl (hb hby d6_5) t kz) ?_
  show own_Go p e below _ (T1.setTop (mkF m 6 #[oR this] [(.double (FP.l2d (w0_ + w1_)))]))
  obtain ⟨fs, hr, hrun, hended, hW, hsame⟩ := X1.leave (v := some (.double (FP.l2d (w0_ + w1_)))) (fun h => by rw [Bd.returns] at h; cases h)
  refine ⟨_, _, retOut X1 hx (i := .dreturn) Bd.returns rfl (Or.inr (Or.inr (Or.inl ⟨rfl, rfl, _, rfl⟩))) (hb hby d6_6) hr, hrun, hended, _, _, rfl, ?_, ⟨_, rfl⟩, hW, hsame.mono (by decide) (by decide)⟩
  show Q6_2 Z this w0_ w1_ h0 n0 _ T1.heap _
  rw [e1]
  exact ⟨rfl, N0, rfl⟩
def own_W4 (Z : State) (h : Heap) (n0 : Nat) (this : Addr) (w0_ w1_ w2_ w3_ : Int64) : Prop := ∃ (arr : Addr) (k : ClassId), (n0 ≤ this ∧ @LT.lt Nat instLTNat this arr) ∧ Exa Z h this "com/example/coupewise/coupewise/WeightedDraw" ∧ Fld Z h this "com/example/coupewise/coupewise/WeightedDraw" "leaves" "I" (.int (4 : Int32)) ∧ Fld Z h this "com/example/coupewise/coupewise/WeightedDraw" "sums" "[D" (.ref arr) ∧ Arv Z h arr k .double (8 : Int32) [(.double (FP.l2d (0 : Int64))), (.double (FP.l2d ((w0_ + w1_) + (w2_ + w3_)))), (.double (FP.l2d (w0_ + w1_))), (.double (FP.l2d (w2_ + w3_))), (.double (FP.l2d w0_)), (.double (FP.l2d w1_)), (.double (FP.l2d w2_)), (.double (FP.l2d w3_))] (.double (FP.l2d (0 : Int64)))
theorem own_exa4 {Z : State} {h : Heap} {n0 : Nat} {this : Addr} {w0_ w1_ w2_ w3_ : Int64} (H : own_W4 Z h n0 this w0_ w1_ w2_ w3_) : Exa Z h this "com/example/coupewise/coupewise/WeightedDraw" := by
  obtain ⟨_, _, -, E, -⟩ := H
  exact E
def own_sel4 (p : Int32) (w0_ w1_ w2_ w3_ : Int64) : Int64 := if p = 0 then w0_ else if p = 1 then w1_ else if p = 2 then w2_ else w3_
theorem ef_rm1_4 (m : MethodId) (q0 : Addr) (q1 : Int32) : entryFrame m #[(.ref q0), (.int q1)] 3 = mkF m 0 #[oR q0, oI q1, .unset] [] := by first | (simp [entryFrame, mkF, argsToLocals, Value.category]; done) | rfl
def Q1_4 (Z : State) (this : Addr) (p1 : Int32) (h0 : Heap) (n0 : Nat) (v : Option Value) (h : Heap) (L : List Loc) : Prop := v = none ∧ Fr n0 L ∧ n0 ≤ h.size ∧ own_W4 Z h n0 this 0 0 0 0
set_option maxRecDepth 65536 in
set_option maxHeartbeats 40000000 in
theorem rm1_4 (l : Launch) (Z : State) (a0 : Array Value) (hw : ∀ d ∈ tables_1, d.before a0 Z = true) (ws : List Jvm.Cond) (this : Addr) (p1 : Int32) (h0 : Heap) (n0 : Nat) (Z0 : n0 ≤ h0.size) (g_this : n0 ≤ this) (E_this : Exa Z h0 this "com/example/coupewise/coupewise/WeightedDraw") (F_size : Fld Z h0 this "com/example/coupewise/coupewise/WeightedDraw" "size" "I" (.int (0 : Int32))) (F_leaves : Fld Z h0 this "com/example/coupewise/coupewise/WeightedDraw" "leaves" "I" (.int (0 : Int32))) (F_sums : Fld Z h0 this "com/example/coupewise/coupewise/WeightedDraw" "sums" "[D" .null) (hs : p1 = 3 ∨ p1 = 4) :
    MetFree l (⟨"com/example/coupewise/coupewise/WeightedDraw", "<init>", "(I)V"⟩ : MethodName) (head1 (Jvm.Cond.code (⟨"com/example/coupewise/coupewise/WeightedDraw", "<init>", "(I)V"⟩ : MethodName) prog_11_method_1_code 3 none :: ws) ({ frames := 1, cells := 1, slots := 8, locals := 12 } : Room)) (fun a U => a = #[(.ref this), (.int p1)] ∧ Z.Warmed39 U.vm ∧ U.heap = h0) (fun _ _ _ _ _ => True) (fun _ U o U' => ∃ v L, o = .returned v ∧ Q1_4 Z this p1 h0 n0 v U'.heap L ∧ FrameEnd U o U' L ({ frames := 1, cells := 1, slots := 8, locals := 12 } : Room).cells ({ frames := 1, cells := 1, slots := 8, locals := 12 } : Room).slots) := by
  refine MetFree.of_bodySF (plainFor_of_name pn_1) hisR ?_
  intro p e s m args below meth c s₁ Bd hml0 hP hK
  obtain ⟨rfl, hZ, hh⟩ := hP
  have hx := Bd.exec
  have hby := Bd.bytes
  have hml : c.maxLocals = 3 := hml0
  have hown : s.vm.findClass "com/example/coupewise/coupewise/WeightedDraw" = some m.cls := findClass_of_methodNamed Bd.named
  have hnm := (name_of_methodNamed Bd.named Bd.method).1
  have X0 : Stand p l e ({ frames := 1, cells := 1, slots := 8, locals := 12 } : Room) s m #[(.ref this), (.int p1)] below meth c s₁ [] 0 0 := Stand.of_body Bd
  have e0 : s₁.heap = h0 := by rw [← hh, Bd.state]; rfl
  have N0 := Fr.nil n0
  refine own_start ?_
  refine own_via (fun t k => castTop (ef_rm1_4 m this p1) k) ?_
  rcases hs with rfl | rfl
  · show own_Go p e below _ (s₁.setTop (mkF m 0 #[oR this, oI (3 : Int32), .unset] []))
    refine own_via (fun t kz => XS.aloadN X0.here hx rfl (hb hby d1_0) rfl rfl kz) ?_
    show own_Go p e below _ (s₁.setTop (mkF m 1 #[oR this, oI (3 : Int32), .unset] [(.ref this)]))
    obtain ⟨T1, X1, e1, st1⟩ := initO X0 hx hZ hown (own_w hw 8) (own_w hw 9) (own_w hw 10) e0 (g := (mkF m 1 #[oR this, oI (3 : Int32), .unset] [(.ref this)])) rfl (by rw [hml]; rfl) rfl (hb hby d1_1) (by decide) (W := 0) (by show 2 * 0 + _ ≤ _; exact Nat.le_of_eq rfl) (by decide)
    refine own_via st1 ?_
    refine own_via (fun t kz => XS.aloadN X1.here hx rfl (hb hby d1_4) rfl rfl kz) ?_
    refine own_via (fun t kz => XS.iloadN X1.here hx rfl (hb hby d1_5) rfl kz) ?_
    show own_Go p e below _ (T1.setTop (mkF m 6 #[oR this, oI (3 : Int32), .unset] [(.int (3 : Int32)), (.ref this)]))
    obtain ⟨T2, h2, X2, e2, W2, st2⟩ := putF X1 hx hZ hown (host := "") (Or.inl (own_w hw 11)) Via.refl e1 F_size E_this (Or.inr ⟨(own_w hw 12), rfl, hnm⟩) (own_w hw 3) (ty := .int) (by decide) rfl rfl (g := (mkF m 6 #[oR this, oI (3 : Int32), .unset] [(.int (3 : Int32)), (.ref this)])) rfl rfl (hb hby d1_6)
    refine own_via st2 ?_
    have E3 := E_this.wr W2
    have F4 := F_size.same W2
    have F5 := F_leaves.other W2 (Or.inr (slot_ne (Or.inr (own_w hw 14)) (Or.inr (own_w hw 12)) (by decide) (t := .int) (t' := .int) (by decide) (by decide)))
    have F6 := F_sums.other W2 (Or.inr (slot_ne (Or.inr (own_w hw 17)) (Or.inr (own_w hw 12)) (by decide) (t := (.array .double)) (t' := .int) (by decide) (by decide)))
    have Zs7 : n0 ≤ h2.size := Nat.le_trans Z0 (Keep.of_wr W2).1
    have N8 := Fr.snoc X2 N0 g_this
    refine own_via (fun t kz => XS.iconst X2.here hx rfl (hb hby d1_9) kz) ?_
    refine own_via (fun t kz => XS.istoreN X2.here hx rfl (hb hby d1_10) rfl (l' := #[oR this, oI (3 : Int32), oI (1 : Int32)]) rfl kz) ?_
    refine own_via (fun t kz => XS.iloadN X2.here hx rfl (hb hby d1_11) rfl kz) ?_
    show own_Go p e below _ (T2.setTop (mkF m 12 #[oR this, oI (3 : Int32), oI (1 : Int32)] [(.int (1 : Int32))]))
    refine own_via (fun t kz => XS.iloadN X2.here hx rfl (hb hby d1_12) rfl kz) ?_
    show own_Go p e below _ (T2.setTop (mkF m 13 #[oR this, oI (3 : Int32), oI (1 : Int32)] [(.int (3 : Int32)), (.int (1 : Int32))]))
    refine own_via (fun t kz => XS.icmpNo X2.here hx rfl (hb hby d1_13) rfl (tlt (by decide : (1 : Int32) < (3 : Int32))).2.1 kz) ?_
    refine own_via (fun t kz => XS.iloadN X2.here hx rfl (hb hby d1_16) rfl kz) ?_
    refine own_via (fun t kz => XS.iconst X2.here hx rfl (hb hby d1_17) kz) ?_
    refine own_via (fun t kz => XS.imul X2.here hx rfl (hb hby d1_18) rfl kz) ?_
    show own_Go p e below _ (T2.setTop (mkF m 19 #[oR this, oI (3 : Int32), oI (1 : Int32)] [(.int (2 : Int32))]))
    refine own_via (fun t kz => XS.istoreN X2.here hx rfl (hb hby d1_19) rfl (l' := #[oR this, oI (3 : Int32), oI (2 : Int32)]) rfl kz) ?_
    refine own_via (fun t kz => XS.goto X2.here hx rfl (pc0 := 20) (pc' := 11) rfl (hb hby d1_20) (by decide) (by decide) kz) ?_
    refine own_via (fun t kz => XS.iloadN X2.here hx rfl (hb hby d1_11) rfl kz) ?_
    refine own_via (fun t kz => XS.iloadN X2.here hx rfl (hb hby d1_12) rfl kz) ?_
    show own_Go p e below _ (T2.setTop (mkF m 13 #[oR this, oI (3 : Int32), oI (2 : Int32)] [(.int (3 : Int32)), (.int (2 : Int32))]))
    refine own_via (fun t kz => XS.icmpNo X2.here hx rfl (hb hby d1_13) rfl (tlt (by decide : (2 : Int32) < (3 : Int32))).2.1 kz) ?_
    refine own_via (fun t kz => XS.iloadN X2.here hx rfl (hb hby d1_16) rfl kz) ?_
    refine own_via (fun t kz => XS.iconst X2.here hx rfl (hb hby d1_17) kz) ?_
    refine own_via (fun t kz => XS.imul X2.here hx rfl (hb hby d1_18) rfl kz) ?_
    show own_Go p e below _ (T2.setTop (mkF m 19 #[oR this, oI (3 : Int32), oI (2 : Int32)] [(.int (4 : Int32))]))
    refine own_via (fun t kz => XS.istoreN X2.here hx rfl (hb hby d1_19) rfl (l' := #[oR this, oI (3 : Int32), oI (4 : Int32)]) rfl kz) ?_
    refine own_via (fun t kz => XS.goto X2.here hx rfl (pc0 := 20) (pc' := 11) rfl (hb hby d1_20) (by decide) (by decide) kz) ?_
    refine own_via (fun t kz => XS.iloadN X2.here hx rfl (hb hby d1_11) rfl kz) ?_
    refine own_via (fun t kz => XS.iloadN X2.here hx rfl (hb hby d1_12) rfl kz) ?_
    show own_Go p e below _ (T2.setTop (mkF m 13 #[oR this, oI (3 : Int32), oI (4 : Int32)] [(.int (3 : Int32)), (.int (4 : Int32))]))
    refine own_via (fun t kz => XS.icmpYes X2.here hx rfl (pc0 := 13) (pc' := 23) rfl (hb hby d1_13) rfl (flt (by decide : ¬ ((4 : Int32) < (3 : Int32)))).2.1 (by decide) (by decide) kz) ?_
    refine own_via (fun t kz => XS.aloadN X2.here hx rfl (hb hby d1_23) rfl rfl kz) ?_
    refine own_via (fun t kz => XS.iloadN X2.here hx rfl (hb hby d1_24) rfl kz) ?_
    show own_Go p e below _ (T2.setTop (mkF m 25 #[oR this, oI (3 : Int32), oI (4 : Int32)] [(.int (4 : Int32)), (.ref this)]))
    obtain ⟨T9, h9, X9, e9, W9, st9⟩ := putF X2 hx hZ hown (host := "") (Or.inl (own_w hw 13)) Via.refl e2 F5 E3 (Or.inr ⟨(own_w hw 14), rfl, hnm⟩) (own_w hw 3) (ty := .int) (by decide) rfl rfl (g := (mkF m 25 #[oR this, oI (3 : Int32), oI (4 : Int32)] [(.int (4 : Int32)), (.ref this)])) rfl rfl (hb hby d1_25)
    refine own_via st9 ?_
    have E10 := E3.wr W9
    have F11 := F4.other W9 (Or.inr (slot_ne (Or.inr (own_w hw 12)) (Or.inr (own_w hw 14)) (by decide) (t := .int) (t' := .int) (by decide) (by decide)))
    have F12 := F5.same W9
    have F13 := F6.other W9 (Or.inr (slot_ne (Or.inr (own_w hw 17)) (Or.inr (own_w hw 14)) (by decide) (t := (.array .double)) (t' := .int) (by decide) (by decide)))
    have Zs14 : n0 ≤ h9.size := Nat.le_trans Zs7 (Keep.of_wr W9).1
    have N15 := Fr.snoc X9 N8 g_this
    refine own_via (fun t kz => XS.aloadN X9.here hx rfl (hb hby d1_28) rfl rfl kz) ?_
    refine own_via (fun t kz => XS.iconst X9.here hx rfl (hb hby d1_29) kz) ?_
    refine own_via (fun t kz => XS.iloadN X9.here hx rfl (hb hby d1_30) rfl kz) ?_
    show own_Go p e below _ (T9.setTop (mkF m 31 #[oR this, oI (3 : Int32), oI (4 : Int32)] [(.int (4 : Int32)), (.int (2 : Int32)), (.ref this)]))
    refine own_via (fun t kz => XS.imul X9.here hx rfl (hb hby d1_31) rfl kz) ?_
    show own_Go p e below _ (T9.setTop (mkF m 32 #[oR this, oI (3 : Int32), oI (4 : Int32)] [(.int (8 : Int32)), (.ref this)]))
    obtain ⟨T16, h16, k16, X16, e16, E16, A16, st16⟩ := newP X9 hx hZ (aty := .double) (own_w hw 15) e9 (g := (mkF m 32 #[oR this, oI (3 : Int32), oI (4 : Int32)] [(.int (8 : Int32)), (.ref this)])) rfl (hb hby d1_32) rfl (by decide) (cap := 8) (by decide) (by decide) (by decide) (by decide)
    obtain ⟨a16, g16⟩ : ∃ z, z = h9.size := ⟨_, rfl⟩
    rw [← g16] at A16 st16
    refine own_via st16 ?_
    have lt17 : this < a16 := Nat.lt_of_lt_of_le E10.lt (Nat.le_of_eq g16.symm)
    have fr18 : n0 ≤ a16 := Nat.le_trans Zs14 (Nat.le_of_eq g16.symm)
    have E19 := E10.ext E16
    have F20 := F11.ext E16
    have F21 := F12.ext E16
    have F22 := F13.ext E16
    have Zs23 : n0 ≤ h16.size := Nat.le_trans Zs14 E16.1
    have V24 : Arv Z h16 a16 k16 .double (8 : Int32) [(.double (FP.l2d (0 : Int64))), (.double (FP.l2d (0 : Int64))), (.double (FP.l2d (0 : Int64))), (.double (FP.l2d (0 : Int64))), (.double (FP.l2d (0 : Int64))), (.double (FP.l2d (0 : Int64))), (.double (FP.l2d (0 : Int64))), (.double (FP.l2d (0 : Int64)))] (.double (FP.l2d (0 : Int64))) := (Arv.newD A16 (by decide)).pad (pad_rep [] (.double (FP.l2d (0 : Int64))) 8)
    show own_Go p e below _ (T16.setTop (mkF m 34 #[oR this, oI (3 : Int32), oI (4 : Int32)] [(.ref a16), (.ref this)]))
    obtain ⟨T25, h25, X25, e25, W25, st25⟩ := putF X16 hx hZ hown (host := "") (Or.inl (own_w hw 16)) Via.refl e16 F22 E19 (Or.inr ⟨(own_w hw 17), rfl, hnm⟩) (own_w hw 3) (ty := (.array .double)) (by decide) rfl rfl (g := (mkF m 34 #[oR this, oI (3 : Int32), oI (4 : Int32)] [(.ref a16), (.ref this)])) rfl rfl (hb hby d1_34)
    refine own_via st25 ?_
    have E26 := E19.wr W25
    have F27 := F20.other W25 (Or.inr (slot_ne (Or.inr (own_w hw 12)) (Or.inr (own_w hw 17)) (by decide) (t := .int) (t' := (.array .double)) (by decide) (by decide)))
    have F28 := F21.other W25 (Or.inr (slot_ne (Or.inr (own_w hw 14)) (Or.inr (own_w hw 17)) (by decide) (t := .int) (t' := (.array .double)) (by decide) (by decide)))
    have F29 := F22.same W25
    have V30 := V24.other W25 (Ne.symm (Nat.ne_of_lt lt17))
    have Zs31 : n0 ≤ h25.size := Nat.le_trans Zs23 (Keep.of_wr W25).1
    have N32 := Fr.snoc X25 N15 g_this
    show own_Go p e below _ (T25.setTop (mkF m 37 #[oR this, oI (3 : Int32), oI (4 : Int32)] []))
    obtain ⟨fs, hr, hrun, hended, hW, hsame⟩ := X25.leave (v := none) (fun _ => rfl)
    refine ⟨_, _, X25.returnOut hx Bd.returns (hb hby d1_37) hr, hrun, hended, _, _, rfl, ?_, ⟨_, rfl⟩, hW, hsame.mono (by decide) (by decide)⟩
    show Q1_4 Z this (3 : Int32) h0 n0 _ T25.heap _
    rw [e25]
    exact ⟨rfl, N32, Zs31, a16, k16, ⟨g_this, lt17⟩, E26, F28, F29, V30⟩
  · show own_Go p e below _ (s₁.setTop (mkF m 0 #[oR this, oI (4 : Int32), .unset] []))
    refine own_via (fun t kz => XS.aloadN X0.here hx rfl (hb hby d1_0) rfl rfl kz) ?_
    show own_Go p e below _ (s₁.setTop (mkF m 1 #[oR this, oI (4 : Int32), .unset] [(.ref this)]))
    obtain ⟨T34, X34, e34, st34⟩ := initO X0 hx hZ hown (own_w hw 8) (own_w hw 9) (own_w hw 10) e0 (g := (mkF m 1 #[oR this, oI (4 : Int32), .unset] [(.ref this)])) rfl (by rw [hml]; rfl) rfl (hb hby d1_1) (by decide) (W := 0) (by show 2 * 0 + _ ≤ _; exact Nat.le_of_eq rfl) (by decide)
    refine own_via st34 ?_
    refine own_via (fun t kz => XS.aloadN X34.here hx rfl (hb hby d1_4) rfl rfl kz) ?_
    refine own_via (fun t kz => XS.iloadN X34.here hx rfl (hb hby d1_5) rfl kz) ?_
    show own_Go p e below _ (T34.setTop (mkF m 6 #[oR this, oI (4 : Int32), .unset] [(.int (4 : Int32)), (.ref this)]))
    obtain ⟨T35, h35, X35, e35, W35, st35⟩ := putF X34 hx hZ hown (host := "") (Or.inl (own_w hw 11)) Via.refl e34 F_size E_this (Or.inr ⟨(own_w hw 12), rfl, hnm⟩) (own_w hw 3) (ty := .int) (by decide) rfl rfl (g := (mkF m 6 #[oR this, oI (4 : Int32), .unset] [(.int (4 : Int32)), (.ref this)])) rfl rfl (hb hby d1_6)
    refine own_via st35 ?_
    have E36 := E_this.wr W35
    have F37 := F_size.same W35
    have F38 := F_leaves.other W35 (Or.inr (slot_ne (Or.inr (own_w hw 14)) (Or.inr (own_w hw 12)) (by decide) (t := .int) (t' := .int) (by decide) (by decide)))
    have F39 := F_sums.other W35 (Or.inr (slot_ne (Or.inr (own_w hw 17)) (Or.inr (own_w hw 12)) (by decide) (t := (.array .double)) (t' := .int) (by decide) (by decide)))
    have Zs40 : n0 ≤ h35.size := Nat.le_trans Z0 (Keep.of_wr W35).1
    have N41 := Fr.snoc X35 N0 g_this
    refine own_via (fun t kz => XS.iconst X35.here hx rfl (hb hby d1_9) kz) ?_
    refine own_via (fun t kz => XS.istoreN X35.here hx rfl (hb hby d1_10) rfl (l' := #[oR this, oI (4 : Int32), oI (1 : Int32)]) rfl kz) ?_
    refine own_via (fun t kz => XS.iloadN X35.here hx rfl (hb hby d1_11) rfl kz) ?_
    show own_Go p e below _ (T35.setTop (mkF m 12 #[oR this, oI (4 : Int32), oI (1 : Int32)] [(.int (1 : Int32))]))
    refine own_via (fun t kz => XS.iloadN X35.here hx rfl (hb hby d1_12) rfl kz) ?_
    show own_Go p e below _ (T35.setTop (mkF m 13 #[oR this, oI (4 : Int32), oI (1 : Int32)] [(.int (4 : Int32)), (.int (1 : Int32))]))
    refine own_via (fun t kz => XS.icmpNo X35.here hx rfl (hb hby d1_13) rfl (tlt (by decide : (1 : Int32) < (4 : Int32))).2.1 kz) ?_
    refine own_via (fun t kz => XS.iloadN X35.here hx rfl (hb hby d1_16) rfl kz) ?_
    refine own_via (fun t kz => XS.iconst X35.here hx rfl (hb hby d1_17) kz) ?_
    refine own_via (fun t kz => XS.imul X35.here hx rfl (hb hby d1_18) rfl kz) ?_
    show own_Go p e below _ (T35.setTop (mkF m 19 #[oR this, oI (4 : Int32), oI (1 : Int32)] [(.int (2 : Int32))]))
    refine own_via (fun t kz => XS.istoreN X35.here hx rfl (hb hby d1_19) rfl (l' := #[oR this, oI (4 : Int32), oI (2 : Int32)]) rfl kz) ?_
    refine own_via (fun t kz => XS.goto X35.here hx rfl (pc0 := 20) (pc' := 11) rfl (hb hby d1_20) (by decide) (by decide) kz) ?_
    refine own_via (fun t kz => XS.iloadN X35.here hx rfl (hb hby d1_11) rfl kz) ?_
    refine own_via (fun t kz => XS.iloadN X35.here hx rfl (hb hby d1_12) rfl kz) ?_
    show own_Go p e below _ (T35.setTop (mkF m 13 #[oR this, oI (4 : Int32), oI (2 : Int32)] [(.int (4 : Int32)), (.int (2 : Int32))]))
    refine own_via (fun t kz => XS.icmpNo X35.here hx rfl (hb hby d1_13) rfl (tlt (by decide : (2 : Int32) < (4 : Int32))).2.1 kz) ?_
    refine own_via (fun t kz => XS.iloadN X35.here hx rfl (hb hby d1_16) rfl kz) ?_
    refine own_via (fun t kz => XS.iconst X35.here hx rfl (hb hby d1_17) kz) ?_
    refine own_via (fun t kz => XS.imul X35.here hx rfl (hb hby d1_18) rfl kz) ?_
    show own_Go p e below _ (T35.setTop (mkF m 19 #[oR this, oI (4 : Int32), oI (2 : Int32)] [(.int (4 : Int32))]))
    refine own_via (fun t kz => XS.istoreN X35.here hx rfl (hb hby d1_19) rfl (l' := #[oR this, oI (4 : Int32), oI (4 : Int32)]) rfl kz) ?_
    refine own_via (fun t kz => XS.goto X35.here hx rfl (pc0 := 20) (pc' := 11) rfl (hb hby d1_20) (by decide) (by decide) kz) ?_
    refine own_via (fun t kz => XS.iloadN X35.here hx rfl (hb hby d1_11) rfl kz) ?_
    refine own_via (fun t kz => XS.iloadN X35.here hx rfl (hb hby d1_12) rfl kz) ?_
    show own_Go p e below _ (T35.setTop (mkF m 13 #[oR this, oI (4 : Int32), oI (4 : Int32)] [(.int (4 : Int32)), (.int (4 : Int32))]))
    refine own_via (fun t kz => XS.icmpYes X35.here hx rfl (pc0 := 13) (pc' := 23) rfl (hb hby d1_13) rfl (flt (by decide : ¬ ((4 : Int32) < (4 : Int32)))).2.1 (by decide) (by decide) kz) ?_
    refine own_via (fun t kz => XS.aloadN X35.here hx rfl (hb hby d1_23) rfl rfl kz) ?_
    refine own_via (fun t kz => XS.iloadN X35.here hx rfl (hb hby d1_24) rfl kz) ?_
    show own_Go p e below _ (T35.setTop (mkF m 25 #[oR this, oI (4 : Int32), oI (4 : Int32)] [(.int (4 : Int32)), (.ref this)]))
    obtain ⟨T42, h42, X42, e42, W42, st42⟩ := putF X35 hx hZ hown (host := "") (Or.inl (own_w hw 13)) Via.refl e35 F38 E36 (Or.inr ⟨(own_w hw 14), rfl, hnm⟩) (own_w hw 3) (ty := .int) (by decide) rfl rfl (g := (mkF m 25 #[oR this, oI (4 : Int32), oI (4 : Int32)] [(.int (4 : Int32)), (.ref this)])) rfl rfl (hb hby d1_25)
    refine own_via st42 ?_
    have E43 := E36.wr W42
    have F44 := F37.other W42 (Or.inr (slot_ne (Or.inr (own_w hw 12)) (Or.inr (own_w hw 14)) (by decide) (t := .int) (t' := .int) (by decide) (by decide)))
    have F45 := F38.same W42
    have F46 := F39.other W42 (Or.inr (slot_ne (Or.inr (own_w hw 17)) (Or.inr (own_w hw 14)) (by decide) (t := (.array .double)) (t' := .int) (by decide) (by decide)))
    have Zs47 : n0 ≤ h42.size := Nat.le_trans Zs40 (Keep.of_wr W42).1
    have N48 := Fr.snoc X42 N41 g_this
    refine own_via (fun t kz => XS.aloadN X42.here hx rfl (hb hby d1_28) rfl rfl kz) ?_
    refine own_via (fun t kz => XS.iconst X42.here hx rfl (hb hby d1_29) kz) ?_
    refine own_via (fun t kz => XS.iloadN X42.here hx rfl (hb hby d1_30) rfl kz) ?_
    show own_Go p e below _ (T42.setTop (mkF m 31 #[oR this, oI (4 : Int32), oI (4 : Int32)] [(.int (4 : Int32)), (.int (2 : Int32)), (.ref this)]))
    refine own_via (fun t kz => XS.imul X42.here hx rfl (hb hby d1_31) rfl kz) ?_
    show own_Go p e below _ (T42.setTop (mkF m 32 #[oR this, oI (4 : Int32), oI (4 : Int32)] [(.int (8 : Int32)), (.ref this)]))
    obtain ⟨T49, h49, k49, X49, e49, E49, A49, st49⟩ := newP X42 hx hZ (aty := .double) (own_w hw 15) e42 (g := (mkF m 32 #[oR this, oI (4 : Int32), oI (4 : Int32)] [(.int (8 : Int32)), (.ref this)])) rfl (hb hby d1_32) rfl (by decide) (cap := 8) (by decide) (by decide) (by decide) (by decide)
    obtain ⟨a49, g49⟩ : ∃ z, z = h42.size := ⟨_, rfl⟩
    rw [← g49] at A49 st49
    refine own_via st49 ?_
    have lt50 : this < a49 := Nat.lt_of_lt_of_le E43.lt (Nat.le_of_eq g49.symm)
    have fr51 : n0 ≤ a49 := Nat.le_trans Zs47 (Nat.le_of_eq g49.symm)
    have E52 := E43.ext E49
    have F53 := F44.ext E49
    have F54 := F45.ext E49
    have F55 := F46.ext E49
    have Zs56 : n0 ≤ h49.size := Nat.le_trans Zs47 E49.1
    have V57 : Arv Z h49 a49 k49 .double (8 : Int32) [(.double (FP.l2d (0 : Int64))), (.double (FP.l2d (0 : Int64))), (.double (FP.l2d (0 : Int64))), (.double (FP.l2d (0 : Int64))), (.double (FP.l2d (0 : Int64))), (.double (FP.l2d (0 : Int64))), (.double (FP.l2d (0 : Int64))), (.double (FP.l2d (0 : Int64)))] (.double (FP.l2d (0 : Int64))) := (Arv.newD A49 (by decide)).pad (pad_rep [] (.double (FP.l2d (0 : Int64))) 8)
    show own_Go p e below _ (T49.setTop (mkF m 34 #[oR this, oI (4 : Int32), oI (4 : Int32)] [(.ref a49), (.ref this)]))
    obtain ⟨T58, h58, X58, e58, W58, st58⟩ := putF X49 hx hZ hown (host := "") (Or.inl (own_w hw 16)) Via.refl e49 F55 E52 (Or.inr ⟨(own_w hw 17), rfl, hnm⟩) (own_w hw 3) (ty := (.array .double)) (by decide) rfl rfl (g := (mkF m 34 #[oR this, oI (4 : Int32), oI (4 : Int32)] [(.ref a49), (.ref this)])) rfl rfl (hb hby d1_34)
    refine own_via st58 ?_
    have E59 := E52.wr W58
    have F60 := F53.other W58 (Or.inr (slot_ne (Or.inr (own_w hw 12)) (Or.inr (own_w hw 17)) (by decide) (t := .int) (t' := (.array .double)) (by decide) (by decide)))
    have F61 := F54.other W58 (Or.inr (slot_ne (Or.inr (own_w hw 14)) (Or.inr (own_w hw 17)) (by decide) (t := .int) (t' := (.array .double)) (by decide) (by decide)))
    have F62 := F55.same W58
    have V63 := V57.other W58 (Ne.symm (Nat.ne_of_lt lt50))
    have Zs64 : n0 ≤ h58.size := Nat.le_trans Zs56 (Keep.of_wr W58).1
    have N65 := Fr.snoc X58 N48 g_this
    show own_Go p e below _ (T58.setTop (mkF m 37 #[oR this, oI (4 : Int32), oI (4 : Int32)] []))
    obtain ⟨fs, hr, hrun, hended, hW, hsame⟩ := X58.leave (v := none) (fun _ => rfl)
    refine ⟨_, _, X58.returnOut hx Bd.returns (hb hby d1_37) hr, hrun, hended, _, _, rfl, ?_, ⟨_, rfl⟩, hW, hsame.mono (by decide) (by decide)⟩
    show Q1_4 Z this (4 : Int32) h0 n0 _ T58.heap _
    rw [e58]
    exact ⟨rfl, N65, Zs64, a49, k49, ⟨g_this, lt50⟩, E59, F61, F62, V63⟩
theorem ef_rm3_4 (m : MethodId) (q0 : Addr) (q1 : Int32) (q2 : UInt64) : entryFrame m #[(.ref q0), (.int q1), (.double q2)] 5 = mkF m 0 #[oR q0, oI q1, oD q2, .second, .unset] [] := by first | (simp [entryFrame, mkF, argsToLocals, Value.category]; done) | rfl
def Q3_4 (Z : State) (this : Addr) (p1 : Int32) (wv : Int64) (w0_ : Int64) (w1_ : Int64) (w2_ : Int64) (w3_ : Int64) (h0 : Heap) (n0 : Nat) (v : Option Value) (h : Heap) (L : List Loc) : Prop := v = none ∧ Fr n0 L ∧ n0 ≤ h.size ∧ own_W4 Z h n0 this (if p1 = (0 : Int32) then wv else w0_) (if p1 = (1 : Int32) then wv else w1_) (if p1 = (2 : Int32) then wv else w2_) (if p1 = (3 : Int32) then wv else w3_)
set_option maxRecDepth 65536 in
set_option maxHeartbeats 40000000 in
theorem rm3_4 (l : Launch) (Z : State) (a0 : Array Value) (hw : ∀ d ∈ tables_1, d.before a0 Z = true) (ws : List Jvm.Cond) (this : Addr) (p1 : Int32) (wv : Int64) (w0_ : Int64) (w1_ : Int64) (w2_ : Int64) (w3_ : Int64) (h0 : Heap) (n0 : Nat) (Z0 : n0 ≤ h0.size) (TC : own_W4 Z h0 n0 this w0_ w1_ w2_ w3_) (hp : p1 = 0 ∨ p1 = 1 ∨ p1 = 2 ∨ p1 = 3) (hbv : own_bd 1 wv) (hb0 : own_bd 1 w0_) (hb1 : own_bd 1 w1_) (hb2 : own_bd 1 w2_) (hb3 : own_bd 1 w3_) :
    MetFree l (⟨"com/example/coupewise/coupewise/WeightedDraw", "set", "(ID)V"⟩ : MethodName) (head1 (Jvm.Cond.code (⟨"com/example/coupewise/coupewise/WeightedDraw", "set", "(ID)V"⟩ : MethodName) prog_11_method_3_code 5 none :: ws) ({ frames := 0, cells := 0, slots := 0, locals := 0 } : Room)) (fun a U => a = #[(.ref this), (.int p1), (.double (FP.l2d wv))] ∧ Z.Warmed39 U.vm ∧ U.heap = h0) (fun _ _ _ _ _ => True) (fun _ U o U' => ∃ v L, o = .returned v ∧ Q3_4 Z this p1 wv w0_ w1_ w2_ w3_ h0 n0 v U'.heap L ∧ FrameEnd U o U' L ({ frames := 0, cells := 0, slots := 0, locals := 0 } : Room).cells ({ frames := 0, cells := 0, slots := 0, locals := 0 } : Room).slots) := by
  refine MetFree.of_bodySF (plainFor_of_name pn_1) hisR ?_
  intro p e s m args below meth c s₁ Bd hml0 hP hK
  obtain ⟨rfl, hZ, hh⟩ := hP
  have hx := Bd.exec
  have hby := Bd.bytes
  have hml : c.maxLocals = 5 := hml0
  have hown : s.vm.findClass "com/example/coupewise/coupewise/WeightedDraw" = some m.cls := findClass_of_methodNamed Bd.named
  have hnm := (name_of_methodNamed Bd.named Bd.method).1
  have X0 : Stand p l e ({ frames := 0, cells := 0, slots := 0, locals := 0 } : Room) s m #[(.ref this), (.int p1), (.double (FP.l2d wv))] below meth c s₁ [] 0 0 := Stand.of_body Bd
  have e0 : s₁.heap = h0 := by rw [← hh, Bd.state]; rfl
  have N0 := Fr.nil n0
  refine own_start ?_
  refine own_via (fun t k => castTop (ef_rm3_4 m this p1 (FP.l2d wv)) k) ?_
  obtain ⟨arr, kA, ⟨ch0, ch1⟩, Eq, Fq0, Fq1, Vq⟩ := TC
  rcases hp with rfl | rfl | rfl | rfl
  · show own_Go p e below _ (s₁.setTop (mkF m 0 #[oR this, oI (0 : Int32), oD (FP.l2d wv), .second, .unset] []))
    refine own_via (fun t kz => XS.aloadN X0.here hx rfl (hb hby d3_0) rfl rfl kz) ?_
    show own_Go p e below _ (s₁.setTop (mkF m 1 #[oR this, oI (0 : Int32), oD (FP.l2d wv), .second, .unset] [(.ref this)]))
    obtain ⟨T1, X1, e1, st1⟩ := getF X0 hx hZ hown (host := "") (Or.inl (own_w hw 13)) Via.refl e0 Fq0 (g := (mkF m 1 #[oR this, oI (0 : Int32), oD (FP.l2d wv), .second, .unset] [(.ref this)])) rfl rfl (hb hby d3_1)
    refine own_via st1 ?_
    refine own_via (fun t kz => XS.iloadN X1.here hx rfl (hb hby d3_4) rfl kz) ?_
    refine own_via (fun t kz => XS.iadd X1.here hx rfl (hb hby d3_5) rfl kz) ?_
    refine own_via (fun t kz => XS.istore X1.here hx rfl (hb hby d3_6) rfl (l' := #[oR this, oI (0 : Int32), oD (FP.l2d wv), .second, oI (4 : Int32)]) rfl kz) ?_
    show own_Go p e below _ (T1.setTop (mkF m 8 #[oR this, oI (0 : Int32), oD (FP.l2d wv), .second, oI (4 : Int32)] []))
    refine own_via (fun t kz => XS.aloadN X1.here hx rfl (hb hby d3_8) rfl rfl kz) ?_
    show own_Go p e below _ (T1.setTop (mkF m 9 #[oR this, oI (0 : Int32), oD (FP.l2d wv), .second, oI (4 : Int32)] [(.ref this)]))
    obtain ⟨T2, X2, e2, st2⟩ := getF X1 hx hZ hown (host := "") (Or.inl (own_w hw 16)) Via.refl e1 Fq1 (g := (mkF m 9 #[oR this, oI (0 : Int32), oD (FP.l2d wv), .second, oI (4 : Int32)] [(.ref this)])) rfl rfl (hb hby d3_9)
    refine own_via st2 ?_
    refine own_via (fun t kz => XS.iload X2.here hx rfl (hb hby d3_12) rfl kz) ?_
    refine own_via (fun t kz => XS.dloadN X2.here hx rfl (hb hby d3_14) rfl kz) ?_
    show own_Go p e below _ (T2.setTop (mkF m 15 #[oR this, oI (0 : Int32), oD (FP.l2d wv), .second, oI (4 : Int32)] [(.double (FP.l2d wv)), (.int (4 : Int32)), (.ref arr)]))
    obtain ⟨cl3, Ar3, kc3, Sz3, Nn3, Hs3, Gs3⟩ := id Vq
    obtain ⟨T3, h3, X3, e3, W3, st3⟩ := stD X2 hx hZ e2 Ar3 (j := (4 : Int32)) (inb_of Sz3 ⟨by decide, by decide⟩) (g := (mkF m 15 #[oR this, oI (0 : Int32), oD (FP.l2d wv), .second, oI (4 : Int32)] [(.double (FP.l2d wv)), (.int (4 : Int32)), (.ref arr)])) rfl rfl (hb hby d3_15)
    refine own_via st3 ?_
    have E4 := Eq.wr W3
    have F5 := Fq0.other W3 (Or.inl (own_neq (by omega)))
    have F6 := Fq1.other W3 (Or.inl (own_neq (by omega)))
    have Zs7 : n0 ≤ h3.size := Nat.le_trans Z0 (Keep.of_wr W3).1
    have N8 := Fr.snoc X3 N0 (show n0 ≤ arr by omega)
    have V9 : Arv Z h3 arr kA .double (8 : Int32) [(.double (FP.l2d (0 : Int64))), (.double (FP.l2d ((w0_ + w1_) + (w2_ + w3_)))), (.double (FP.l2d (w0_ + w1_))), (.double (FP.l2d (w2_ + w3_))), (.double (FP.l2d wv)), (.double (FP.l2d w1_)), (.double (FP.l2d w2_)), (.double (FP.l2d w3_))] (.double (FP.l2d (0 : Int64))) := Arv.set Ar3 kc3 Sz3 Nn3 Hs3 Gs3 rfl W3 4 (by first | decide | (show 4 < 8; decide)) (by first | decide | (show 4 < 8; decide))
    refine own_via (fun t kz => XS.iload X3.here hx rfl (hb hby d3_16) rfl kz) ?_
    refine own_via (fun t kz => XS.iconst X3.here hx rfl (hb hby d3_18) kz) ?_
    refine own_via (fun t kz => XS.idiv X3.here hx rfl (hb hby d3_19) rfl (by decide) kz) ?_
    show own_Go p e below _ (T3.setTop (mkF m 20 #[oR this, oI (0 : Int32), oD (FP.l2d wv), .second, oI (4 : Int32)] [(.int (2 : Int32))]))
    refine own_via (fun t kz => XS.istore X3.here hx rfl (hb hby d3_20) rfl (l' := #[oR this, oI (0 : Int32), oD (FP.l2d wv), .second, oI (2 : Int32)]) rfl kz) ?_
    refine own_via (fun t kz => XS.iload X3.here hx rfl (hb hby d3_22) rfl kz) ?_
    refine own_via (fun t kz => XS.iconst X3.here hx rfl (hb hby d3_24) kz) ?_
    show own_Go p e below _ (T3.setTop (mkF m 25 #[oR this, oI (0 : Int32), oD (FP.l2d wv), .second, oI (2 : Int32)] [(.int (1 : Int32)), (.int (2 : Int32))]))
    refine own_via (fun t kz => XS.icmpNo X3.here hx rfl (hb hby d3_25) rfl (flt (by decide : ¬ ((2 : Int32) < (1 : Int32)))).1 kz) ?_
    refine own_via (fun t kz => XS.aloadN X3.here hx rfl (hb hby d3_28) rfl rfl kz) ?_
    show own_Go p e below _ (T3.setTop (mkF m 29 #[oR this, oI (0 : Int32), oD (FP.l2d wv), .second, oI (2 : Int32)] [(.ref this)]))
    obtain ⟨T10, X10, e10, st10⟩ := getF X3 hx hZ hown (host := "") (Or.inl (own_w hw 16)) Via.refl e3 F6 (g := (mkF m 29 #[oR this, oI (0 : Int32), oD (FP.l2d wv), .second, oI (2 : Int32)] [(.ref this)])) rfl rfl (hb hby d3_29)
    refine own_via st10 ?_
    refine own_via (fun t kz => XS.iload X10.here hx rfl (hb hby d3_32) rfl kz) ?_
    refine own_via (fun t kz => XS.aloadN X10.here hx rfl (hb hby d3_34) rfl rfl kz) ?_
    show own_Go p e below _ (T10.setTop (mkF m 35 #[oR this, oI (0 : Int32), oD (FP.l2d wv), .second, oI (2 : Int32)] [(.ref this), (.int (2 : Int32)), (.ref arr)]))
    obtain ⟨T11, X11, e11, st11⟩ := getF X10 hx hZ hown (host := "") (Or.inl (own_w hw 16)) Via.refl e10 F6 (g := (mkF m 35 #[oR this, oI (0 : Int32), oD (FP.l2d wv), .second, oI (2 : Int32)] [(.ref this), (.int (2 : Int32)), (.ref arr)])) rfl rfl (hb hby d3_35)
    refine own_via st11 ?_
    refine own_via (fun t kz => XS.iconst X11.here hx rfl (hb hby d3_38) kz) ?_
    refine own_via (fun t kz => XS.iload X11.here hx rfl (hb hby d3_39) rfl kz) ?_
    refine own_via (fun t kz => XS.imul X11.here hx rfl (hb hby d3_41) rfl kz) ?_
    show own_Go p e below _ (T11.setTop (mkF m 42 #[oR this, oI (0 : Int32), oD (FP.l2d wv), .second, oI (2 : Int32)] [(.int (4 : Int32)), (.ref arr), (.int (2 : Int32)), (.ref arr)]))
    obtain ⟨cl12, Ar12, kc12, Sz12, Nn12, Hs12, Gs12⟩ := id V9
    have in12 := inb_of (j := (4 : Int32)) Sz12 ⟨by decide, by decide⟩
    have at12 : cl12.slots[((4 : Int32)).toNatClampNeg]? = some (.double (FP.l2d wv)) := Hs12.at in12 rfl
    refine own_via (fun t kz => X11.daload hx (j := (4 : Int32)) (v := (.double (FP.l2d wv))) (by rw [e11]; exact Ar12.1) (State.isArrayOf_alike hZ.alike Ar12.2.1) Ar12.2.2 in12 at12 (g := (mkF m 42 #[oR this, oI (0 : Int32), oD (FP.l2d wv), .second, oI (2 : Int32)] [(.int (4 : Int32)), (.ref arr), (.int (2 : Int32)), (.ref arr)])) rfl rfl (hb hby d3_42) t kz) ?_
    refine own_via (fun t kz => XS.aloadN X11.here hx rfl (hb hby d3_43) rfl rfl kz) ?_
    show own_Go p e below _ (T11.setTop (mkF m 44 #[oR this, oI (0 : Int32), oD (FP.l2d wv), .second, oI (2 : Int32)] [(.ref this), (.double (FP.l2d wv)), (.int (2 : Int32)), (.ref arr)]))
    obtain ⟨T13, X13, e13, st13⟩ := getF X11 hx hZ hown (host := "") (Or.inl (own_w hw 16)) Via.refl e11 F6 (g := (mkF m 44 #[oR this, oI (0 : Int32), oD (FP.l2d wv), .second, oI (2 : Int32)] [(.ref this), (.double (FP.l2d wv)), (.int (2 : Int32)), (.ref arr)])) rfl rfl (hb hby d3_44)
    refine own_via st13 ?_
    refine own_via (fun t kz => XS.iconst X13.here hx rfl (hb hby d3_47) kz) ?_
    refine own_via (fun t kz => XS.iload X13.here hx rfl (hb hby d3_48) rfl kz) ?_
    refine own_via (fun t kz => XS.imul X13.here hx rfl (hb hby d3_50) rfl kz) ?_
    show own_Go p e below _ (T13.setTop (mkF m 51 #[oR this, oI (0 : Int32), oD (FP.l2d wv), .second, oI (2 : Int32)] [(.int (4 : Int32)), (.ref arr), (.double (FP.l2d wv)), (.int (2 : Int32)), (.ref arr)]))
    refine own_via (fun t kz => XS.iconst X13.here hx rfl (hb hby d3_51) kz) ?_
    refine own_via (fun t kz => XS.iadd X13.here hx rfl (hb hby d3_52) rfl kz) ?_
    show own_Go p e below _ (T13.setTop (mkF m 53 #[oR this, oI (0 : Int32), oD (FP.l2d wv), .second, oI (2 : Int32)] [(.int (5 : Int32)), (.ref arr), (.double (FP.l2d wv)), (.int (2 : Int32)), (.ref arr)]))
    obtain ⟨cl14, Ar14, kc14, Sz14, Nn14, Hs14, Gs14⟩ := id V9
    have in14 := inb_of (j := (5 : Int32)) Sz14 ⟨by decide, by decide⟩
    have at14 : cl14.slots[((5 : Int32)).toNatClampNeg]? = some (.double (FP.l2d w1_)) := Hs14.at in14 rfl
    refine own_via (fun t kz => X13.daload hx (j := (5 : Int32)) (v := (.double (FP.l2d w1_))) (by rw [e13]; exact Ar14.1) (State.isArrayOf_alike hZ.alike Ar14.2.1) Ar14.2.2 in14 at14 (g := (mkF m 53 #[oR this, oI (0 : Int32), oD (FP.l2d wv), .second, oI (2 : Int32)] [(.int (5 : Int32)), (.ref arr), (.double (FP.l2d wv)), (.int (2 : Int32)), (.ref arr)])) rfl rfl (hb hby d3_53) t kz) ?_
    show own_Go p e below _ (T13.setTop (mkF m 54 #[oR this, oI (0 : Int32), oD (FP.l2d wv), .second, oI (2 : Int32)] [(.double (FP.l2d w1_)), (.double (FP.l2d wv)), (.int (2 : Int32)), (.ref arr)]))
    refine own_via (fun t kz => XS.daddS X13.here hx rfl (hb hby d3_54) rfl (nn_w (dadd_w (own_b53 hbv (by decide)) (own_b53 hb1 (by decide)))) (dadd_w (own_b53 hbv (by decide)) (own_b53 hb1 (by decide))) kz) ?_
    show own_Go p e below _ (T13.setTop (mkF m 55 #[oR this, oI (0 : Int32), oD (FP.l2d wv), .second, oI (2 : Int32)] [(.double (FP.l2d (wv + w1_))), (.int (2 : Int32)), (.ref arr)]))
    obtain ⟨cl15, Ar15, kc15, Sz15, Nn15, Hs15, Gs15⟩ := id V9
    obtain ⟨T15, h15, X15, e15, W15, st15⟩ := stD X13 hx hZ e13 Ar15 (j := (2 : Int32)) (inb_of Sz15 ⟨by decide, by decide⟩) (g := (mkF m 55 #[oR this, oI (0 : Int32), oD (FP.l2d wv), .second, oI (2 : Int32)] [(.double (FP.l2d (wv + w1_))), (.int (2 : Int32)), (.ref arr)])) rfl rfl (hb hby d3_55)
    refine own_via st15 ?_
    have E16 := E4.wr W15
    have F17 := F5.other W15 (Or.inl (own_neq (by omega)))
    have F18 := F6.other W15 (Or.inl (own_neq (by omega)))
    have Zs19 : n0 ≤ h15.size := Nat.le_trans Zs7 (Keep.of_wr W15).1
    have N20 := Fr.snoc X15 N8 (show n0 ≤ arr by omega)
    have V21 : Arv Z h15 arr kA .double (8 : Int32) [(.double (FP.l2d (0 : Int64))), (.double (FP.l2d ((w0_ + w1_) + (w2_ + w3_)))), (.double (FP.l2d (wv + w1_))), (.double (FP.l2d (w2_ + w3_))), (.double (FP.l2d wv)), (.double (FP.l2d w1_)), (.double (FP.l2d w2_)), (.double (FP.l2d w3_))] (.double (FP.l2d (0 : Int64))) := Arv.set Ar15 kc15 Sz15 Nn15 Hs15 Gs15 rfl W15 2 (by first | decide | (show 2 < 8; decide)) (by first | decide | (show 2 < 8; decide))
    refine own_via (fun t kz => XS.iload X15.here hx rfl (hb hby d3_56) rfl kz) ?_
    refine own_via (fun t kz => XS.iconst X15.here hx rfl (hb hby d3_58) kz) ?_
    refine own_via (fun t kz => XS.idiv X15.here hx rfl (hb hby d3_59) rfl (by decide) kz) ?_
    show own_Go p e below _ (T15.setTop (mkF m 60 #[oR this, oI (0 : Int32), oD (FP.l2d wv), .second, oI (2 : Int32)] [(.int (1 : Int32))]))
    refine own_via (fun t kz => XS.istore X15.here hx rfl (hb hby d3_60) rfl (l' := #[oR this, oI (0 : Int32), oD (FP.l2d wv), .second, oI (1 : Int32)]) rfl kz) ?_
    refine own_via (fun t kz => XS.goto X15.here hx rfl (pc0 := 62) (pc' := 22) rfl (hb hby d3_62) (by decide) (by decide) kz) ?_
    refine own_via (fun t kz => XS.iload X15.here hx rfl (hb hby d3_22) rfl kz) ?_
    refine own_via (fun t kz => XS.iconst X15.here hx rfl (hb hby d3_24) kz) ?_
    show own_Go p e below _ (T15.setTop (mkF m 25 #[oR this, oI (0 : Int32), oD (FP.l2d wv), .second, oI (1 : Int32)] [(.int (1 : Int32)), (.int (1 : Int32))]))
    refine own_via (fun t kz => XS.icmpNo X15.here hx rfl (hb hby d3_25) rfl (flt (by decide : ¬ ((1 : Int32) < (1 : Int32)))).1 kz) ?_
    refine own_via (fun t kz => XS.aloadN X15.here hx rfl (hb hby d3_28) rfl rfl kz) ?_
    show own_Go p e below _ (T15.setTop (mkF m 29 #[oR this, oI (0 : Int32), oD (FP.l2d wv), .second, oI (1 : Int32)] [(.ref this)]))
    obtain ⟨T22, X22, e22, st22⟩ := getF X15 hx hZ hown (host := "") (Or.inl (own_w hw 16)) Via.refl e15 F18 (g := (mkF m 29 #[oR this, oI (0 : Int32), oD (FP.l2d wv), .second, oI (1 : Int32)] [(.ref this)])) rfl rfl (hb hby d3_29)
    refine own_via st22 ?_
    refine own_via (fun t kz => XS.iload X22.here hx rfl (hb hby d3_32) rfl kz) ?_
    refine own_via (fun t kz => XS.aloadN X22.here hx rfl (hb hby d3_34) rfl rfl kz) ?_
    show own_Go p e below _ (T22.setTop (mkF m 35 #[oR this, oI (0 : Int32), oD (FP.l2d wv), .second, oI (1 : Int32)] [(.ref this), (.int (1 : Int32)), (.ref arr)]))
    obtain ⟨T23, X23, e23, st23⟩ := getF X22 hx hZ hown (host := "") (Or.inl (own_w hw 16)) Via.refl e22 F18 (g := (mkF m 35 #[oR this, oI (0 : Int32), oD (FP.l2d wv), .second, oI (1 : Int32)] [(.ref this), (.int (1 : Int32)), (.ref arr)])) rfl rfl (hb hby d3_35)
    refine own_via st23 ?_
    refine own_via (fun t kz => XS.iconst X23.here hx rfl (hb hby d3_38) kz) ?_
    refine own_via (fun t kz => XS.iload X23.here hx rfl (hb hby d3_39) rfl kz) ?_
    refine own_via (fun t kz => XS.imul X23.here hx rfl (hb hby d3_41) rfl kz) ?_
    show own_Go p e below _ (T23.setTop (mkF m 42 #[oR this, oI (0 : Int32), oD (FP.l2d wv), .second, oI (1 : Int32)] [(.int (2 : Int32)), (.ref arr), (.int (1 : Int32)), (.ref arr)]))
    obtain ⟨cl24, Ar24, kc24, Sz24, Nn24, Hs24, Gs24⟩ := id V21
    have in24 := inb_of (j := (2 : Int32)) Sz24 ⟨by decide, by decide⟩
    have at24 : cl24.slots[((2 : Int32)).toNatClampNeg]? = some (.double (FP.l2d (wv + w1_))) := Hs24.at in24 rfl
    refine own_via (fun t kz => X23.daload hx (j := (2 : Int32)) (v := (.double (FP.l2d (wv + w1_)))) (by rw [e23]; exact Ar24.1) (State.isArrayOf_alike hZ.alike Ar24.2.1) Ar24.2.2 in24 at24 (g := (mkF m 42 #[oR this, oI (0 : Int32), oD (FP.l2d wv), .second, oI (1 : Int32)] [(.int (2 : Int32)), (.ref arr), (.int (1 : Int32)), (.ref arr)])) rfl rfl (hb hby d3_42) t kz) ?_
    refine own_via (fun t kz => XS.aloadN X23.here hx rfl (hb hby d3_43) rfl rfl kz) ?_
    show own_Go p e below _ (T23.setTop (mkF m 44 #[oR this, oI (0 : Int32), oD (FP.l2d wv), .second, oI (1 : Int32)] [(.ref this), (.double (FP.l2d (wv + w1_))), (.int (1 : Int32)), (.ref arr)]))
    obtain ⟨T25, X25, e25, st25⟩ := getF X23 hx hZ hown (host := "") (Or.inl (own_w hw 16)) Via.refl e23 F18 (g := (mkF m 44 #[oR this, oI (0 : Int32), oD (FP.l2d wv), .second, oI (1 : Int32)] [(.ref this), (.double (FP.l2d (wv + w1_))), (.int (1 : Int32)), (.ref arr)])) rfl rfl (hb hby d3_44)
    refine own_via st25 ?_
    refine own_via (fun t kz => XS.iconst X25.here hx rfl (hb hby d3_47) kz) ?_
    refine own_via (fun t kz => XS.iload X25.here hx rfl (hb hby d3_48) rfl kz) ?_
    refine own_via (fun t kz => XS.imul X25.here hx rfl (hb hby d3_50) rfl kz) ?_
    show own_Go p e below _ (T25.setTop (mkF m 51 #[oR this, oI (0 : Int32), oD (FP.l2d wv), .second, oI (1 : Int32)] [(.int (2 : Int32)), (.ref arr), (.double (FP.l2d (wv + w1_))), (.int (1 : Int32)), (.ref arr)]))
    refine own_via (fun t kz => XS.iconst X25.here hx rfl (hb hby d3_51) kz) ?_
    refine own_via (fun t kz => XS.iadd X25.here hx rfl (hb hby d3_52) rfl kz) ?_
    show own_Go p e below _ (T25.setTop (mkF m 53 #[oR this, oI (0 : Int32), oD (FP.l2d wv), .second, oI (1 : Int32)] [(.int (3 : Int32)), (.ref arr), (.double (FP.l2d (wv + w1_))), (.int (1 : Int32)), (.ref arr)]))
    obtain ⟨cl26, Ar26, kc26, Sz26, Nn26, Hs26, Gs26⟩ := id V21
    have in26 := inb_of (j := (3 : Int32)) Sz26 ⟨by decide, by decide⟩
    have at26 : cl26.slots[((3 : Int32)).toNatClampNeg]? = some (.double (FP.l2d (w2_ + w3_))) := Hs26.at in26 rfl
    refine own_via (fun t kz => X25.daload hx (j := (3 : Int32)) (v := (.double (FP.l2d (w2_ + w3_)))) (by rw [e25]; exact Ar26.1) (State.isArrayOf_alike hZ.alike Ar26.2.1) Ar26.2.2 in26 at26 (g := (mkF m 53 #[oR this, oI (0 : Int32), oD (FP.l2d wv), .second, oI (1 : Int32)] [(.int (3 : Int32)), (.ref arr), (.double (FP.l2d (wv + w1_))), (.int (1 : Int32)), (.ref arr)])) rfl rfl (hb hby d3_53) t kz) ?_
    show own_Go p e below _ (T25.setTop (mkF m 54 #[oR this, oI (0 : Int32), oD (FP.l2d wv), .second, oI (1 : Int32)] [(.double (FP.l2d (w2_ + w3_))), (.double (FP.l2d (wv + w1_))), (.int (1 : Int32)), (.ref arr)]))
    refine own_via (fun t kz => XS.daddS X25.here hx rfl (hb hby d3_54) rfl (nn_w (dadd_w (own_b53 (own_bda hbv hb1 (by decide)) (by decide)) (own_b53 (own_bda hb2 hb3 (by decide)) (by decide)))) (dadd_w (own_b53 (own_bda hbv hb1 (by decide)) (by decide)) (own_b53 (own_bda hb2 hb3 (by decide)) (by decide))) kz) ?_
    show own_Go p e below _ (T25.setTop (mkF m 55 #[oR this, oI (0 : Int32), oD (FP.l2d wv), .second, oI (1 : Int32)] [(.double (FP.l2d ((wv + w1_) + (w2_ + w3_)))), (.int (1 : Int32)), (.ref arr)]))
    obtain ⟨cl27, Ar27, kc27, Sz27, Nn27, Hs27, Gs27⟩ := id V21
    obtain ⟨T27, h27, X27, e27, W27, st27⟩ := stD X25 hx hZ e25 Ar27 (j := (1 : Int32)) (inb_of Sz27 ⟨by decide, by decide⟩) (g := (mkF m 55 #[oR this, oI (0 : Int32), oD (FP.l2d wv), .second, oI (1 : Int32)] [(.double (FP.l2d ((wv + w1_) + (w2_ + w3_)))), (.int (1 : Int32)), (.ref arr)])) rfl rfl (hb hby d3_55)
    refine own_via st27 ?_
    have E28 := E16.wr W27
    have F29 := F17.other W27 (Or.inl (own_neq (by omega)))
    have F30 := F18.other W27 (Or.inl (own_neq (by omega)))
    have Zs31 : n0 ≤ h27.size := Nat.le_trans Zs19 (Keep.of_wr W27).1
    have N32 := Fr.snoc X27 N20 (show n0 ≤ arr by omega)
    have V33 : Arv Z h27 arr kA .double (8 : Int32) [(.double (FP.l2d (0 : Int64))), (.double (FP.l2d ((wv + w1_) + (w2_ + w3_)))), (.double (FP.l2d (wv + w1_))), (.double (FP.l2d (w2_ + w3_))), (.double (FP.l2d wv)), (.double (FP.l2d w1_)), (.double (FP.l2d w2_)), (.double (FP.l2d w3_))] (.double (FP.l2d (0 : Int64))) := Arv.set Ar27 kc27 Sz27 Nn27 Hs27 Gs27 rfl W27 1 (by first | decide | (show 1 < 8; decide)) (by first | decide | (show 1 < 8; decide))
    refine own_via (fun t kz => XS.iload X27.here hx rfl (hb hby d3_56) rfl kz) ?_
    refine own_via (fun t kz => XS.iconst X27.here hx rfl (hb hby d3_58) kz) ?_
    refine own_via (fun t kz => XS.idiv X27.here hx rfl (hb hby d3_59) rfl (by decide) kz) ?_
    show own_Go p e below _ (T27.setTop (mkF m 60 #[oR this, oI (0 : Int32), oD (FP.l2d wv), .second, oI (1 : Int32)] [(.int (0 : Int32))]))
    refine own_via (fun t kz => XS.istore X27.here hx rfl (hb hby d3_60) rfl (l' := #[oR this, oI (0 : Int32), oD (FP.l2d wv), .second, oI (0 : Int32)]) rfl kz) ?_
    refine own_via (fun t kz => XS.goto X27.here hx rfl (pc0 := 62) (pc' := 22) rfl (hb hby d3_62) (by decide) (by decide) kz) ?_
    refine own_via (fun t kz => XS.iload X27.here hx rfl (hb hby d3_22) rfl kz) ?_
    refine own_via (fun t kz => XS.iconst X27.here hx rfl (hb hby d3_24) kz) ?_
    show own_Go p e below _ (T27.setTop (mkF m 25 #[oR this, oI (0 : Int32), oD (FP.l2d wv), .second, oI (0 : Int32)] [(.int (1 : Int32)), (.int (0 : Int32))]))
    refine own_via (fun t kz => XS.icmpYes X27.here hx rfl (pc0 := 25) (pc' := 65) rfl (hb hby d3_25) rfl (tlt (by decide : (0 : Int32) < (1 : Int32))).1 (by decide) (by decide) kz) ?_
    show own_Go p e below _ (T27.setTop (mkF m 65 #[oR this, oI (0 : Int32), oD (FP.l2d wv), .second, oI (0 : Int32)] []))
    have hT : own_W4 Z h27 n0 this wv w1_ w2_ w3_ := ⟨arr, kA, ⟨ch0, ch1⟩, E28, F29, F30, V33⟩
    obtain ⟨fs, hr, hrun, hended, hW, hsame⟩ := X27.leave (v := none) (fun _ => rfl)
    refine ⟨_, _, X27.returnOut hx Bd.returns (hb hby d3_65) hr, hrun, hended, _, _, rfl, ?_, ⟨_, rfl⟩, hW, hsame.mono (by decide) (by decide)⟩
    show Q3_4 Z this (0 : Int32) wv w0_ w1_ w2_ w3_ h0 n0 _ T27.heap _
    rw [e27]
    exact ⟨rfl, N32, Zs31, by rw [if_pos (rfl : (0 : Int32) = (0 : Int32)), if_neg (by decide : ¬ (0 : Int32) = (1 : Int32)), if_neg (by decide : ¬ (0 : Int32) = (2 : Int32)), if_neg (by decide : ¬ (0 : Int32) = (3 : Int32))]; exact hT⟩
  · show own_Go p e below _ (s₁.setTop (mkF m 0 #[oR this, oI (1 : Int32), oD (FP.l2d wv), .second, .unset] []))
    refine own_via (fun t kz => XS.aloadN X0.here hx rfl (hb hby d3_0) rfl rfl kz) ?_
    show own_Go p e below _ (s₁.setTop (mkF m 1 #[oR this, oI (1 : Int32), oD (FP.l2d wv), .second, .unset] [(.ref this)]))
    obtain ⟨T35, X35, e35, st35⟩ := getF X0 hx hZ hown (host := "") (Or.inl (own_w hw 13)) Via.refl e0 Fq0 (g := (mkF m 1 #[oR this, oI (1 : Int32), oD (FP.l2d wv), .second, .unset] [(.ref this)])) rfl rfl (hb hby d3_1)
    refine own_via st35 ?_
    refine own_via (fun t kz => XS.iloadN X35.here hx rfl (hb hby d3_4) rfl kz) ?_
    refine own_via (fun t kz => XS.iadd X35.here hx rfl (hb hby d3_5) rfl kz) ?_
    refine own_via (fun t kz => XS.istore X35.here hx rfl (hb hby d3_6) rfl (l' := #[oR this, oI (1 : Int32), oD (FP.l2d wv), .second, oI (5 : Int32)]) rfl kz) ?_
    show own_Go p e below _ (T35.setTop (mkF m 8 #[oR this, oI (1 : Int32), oD (FP.l2d wv), .second, oI (5 : Int32)] []))
    refine own_via (fun t kz => XS.aloadN X35.here hx rfl (hb hby d3_8) rfl rfl kz) ?_
    show own_Go p e below _ (T35.setTop (mkF m 9 #[oR this, oI (1 : Int32), oD (FP.l2d wv), .second, oI (5 : Int32)] [(.ref this)]))
    obtain ⟨T36, X36, e36, st36⟩ := getF X35 hx hZ hown (host := "") (Or.inl (own_w hw 16)) Via.refl e35 Fq1 (g := (mkF m 9 #[oR this, oI (1 : Int32), oD (FP.l2d wv), .second, oI (5 : Int32)] [(.ref this)])) rfl rfl (hb hby d3_9)
    refine own_via st36 ?_
    refine own_via (fun t kz => XS.iload X36.here hx rfl (hb hby d3_12) rfl kz) ?_
    refine own_via (fun t kz => XS.dloadN X36.here hx rfl (hb hby d3_14) rfl kz) ?_
    show own_Go p e below _ (T36.setTop (mkF m 15 #[oR this, oI (1 : Int32), oD (FP.l2d wv), .second, oI (5 : Int32)] [(.double (FP.l2d wv)), (.int (5 : Int32)), (.ref arr)]))
    obtain ⟨cl37, Ar37, kc37, Sz37, Nn37, Hs37, Gs37⟩ := id Vq
    obtain ⟨T37, h37, X37, e37, W37, st37⟩ := stD X36 hx hZ e36 Ar37 (j := (5 : Int32)) (inb_of Sz37 ⟨by decide, by decide⟩) (g := (mkF m 15 #[oR this, oI (1 : Int32), oD (FP.l2d wv), .second, oI (5 : Int32)] [(.double (FP.l2d wv)), (.int (5 : Int32)), (.ref arr)])) rfl rfl (hb hby d3_15)
    refine own_via st37 ?_
    have E38 := Eq.wr W37
    have F39 := Fq0.other W37 (Or.inl (own_neq (by omega)))
    have F40 := Fq1.other W37 (Or.inl (own_neq (by omega)))
    have Zs41 : n0 ≤ h37.size := Nat.le_trans Z0 (Keep.of_wr W37).1
    have N42 := Fr.snoc X37 N0 (show n0 ≤ arr by omega)
    have V43 : Arv Z h37 arr kA .double (8 : Int32) [(.double (FP.l2d (0 : Int64))), (.double (FP.l2d ((w0_ + w1_) + (w2_ + w3_)))), (.double (FP.l2d (w0_ + w1_))), (.double (FP.l2d (w2_ + w3_))), (.double (FP.l2d w0_)), (.double (FP.l2d wv)), (.double (FP.l2d w2_)), (.double (FP.l2d w3_))] (.double (FP.l2d (0 : Int64))) := Arv.set Ar37 kc37 Sz37 Nn37 Hs37 Gs37 rfl W37 5 (by first | decide | (show 5 < 8; decide)) (by first | decide | (show 5 < 8; decide))
    refine own_via (fun t kz => XS.iload X37.here hx rfl (hb hby d3_16) rfl kz) ?_
    refine own_via (fun t kz => XS.iconst X37.here hx rfl (hb hby d3_18) kz) ?_
    refine own_via (fun t kz => XS.idiv X37.here hx rfl (hb hby d3_19) rfl (by decide) kz) ?_
    show own_Go p e below _ (T37.setTop (mkF m 20 #[oR this, oI (1 : Int32), oD (FP.l2d wv), .second, oI (5 : Int32)] [(.int (2 : Int32))]))
    refine own_via (fun t kz => XS.istore X37.here hx rfl (hb hby d3_20) rfl (l' := #[oR this, oI (1 : Int32), oD (FP.l2d wv), .second, oI (2 : Int32)]) rfl kz) ?_
    refine own_via (fun t kz => XS.iload X37.here hx rfl (hb hby d3_22) rfl kz) ?_
    refine own_via (fun t kz => XS.iconst X37.here hx rfl (hb hby d3_24) kz) ?_
    show own_Go p e below _ (T37.setTop (mkF m 25 #[oR this, oI (1 : Int32), oD (FP.l2d wv), .second, oI (2 : Int32)] [(.int (1 : Int32)), (.int (2 : Int32))]))
    refine own_via (fun t kz => XS.icmpNo X37.here hx rfl (hb hby d3_25) rfl (flt (by decide : ¬ ((2 : Int32) < (1 : Int32)))).1 kz) ?_
    refine own_via (fun t kz => XS.aloadN X37.here hx rfl (hb hby d3_28) rfl rfl kz) ?_
    show own_Go p e below _ (T37.setTop (mkF m 29 #[oR this, oI (1 : Int32), oD (FP.l2d wv), .second, oI (2 : Int32)] [(.ref this)]))
    obtain ⟨T44, X44, e44, st44⟩ := getF X37 hx hZ hown (host := "") (Or.inl (own_w hw 16)) Via.refl e37 F40 (g := (mkF m 29 #[oR this, oI (1 : Int32), oD (FP.l2d wv), .second, oI (2 : Int32)] [(.ref this)])) rfl rfl (hb hby d3_29)
    refine own_via st44 ?_
    refine own_via (fun t kz => XS.iload X44.here hx rfl (hb hby d3_32) rfl kz) ?_
    refine own_via (fun t kz => XS.aloadN X44.here hx rfl (hb hby d3_34) rfl rfl kz) ?_
    show own_Go p e below _ (T44.setTop (mkF m 35 #[oR this, oI (1 : Int32), oD (FP.l2d wv), .second, oI (2 : Int32)] [(.ref this), (.int (2 : Int32)), (.ref arr)]))
    obtain ⟨T45, X45, e45, st45⟩ := getF X44 hx hZ hown (host := "") (Or.inl (own_w hw 16)) Via.refl e44 F40 (g := (mkF m 35 #[oR this, oI (1 : Int32), oD (FP.l2d wv), .second, oI (2 : Int32)] [(.ref this), (.int (2 : Int32)), (.ref arr)])) rfl rfl (hb hby d3_35)
    refine own_via st45 ?_
    refine own_via (fun t kz => XS.iconst X45.here hx rfl (hb hby d3_38) kz) ?_
    refine own_via (fun t kz => XS.iload X45.here hx rfl (hb hby d3_39) rfl kz) ?_
    refine own_via (fun t kz => XS.imul X45.here hx rfl (hb hby d3_41) rfl kz) ?_
    show own_Go p e below _ (T45.setTop (mkF m 42 #[oR this, oI (1 : Int32), oD (FP.l2d wv), .second, oI (2 : Int32)] [(.int (4 : Int32)), (.ref arr), (.int (2 : Int32)), (.ref arr)]))
    obtain ⟨cl46, Ar46, kc46, Sz46, Nn46, Hs46, Gs46⟩ := id V43
    have in46 := inb_of (j := (4 : Int32)) Sz46 ⟨by decide, by decide⟩
    have at46 : cl46.slots[((4 : Int32)).toNatClampNeg]? = some (.double (FP.l2d w0_)) := Hs46.at in46 rfl
    refine own_via (fun t kz => X45.daload hx (j := (4 : Int32)) (v := (.double (FP.l2d w0_))) (by rw [e45]; exact Ar46.1) (State.isArrayOf_alike hZ.alike Ar46.2.1) Ar46.2.2 in46 at46 (g := (mkF m 42 #[oR this, oI (1 : Int32), oD (FP.l2d wv), .second, oI (2 : Int32)] [(.int (4 : Int32)), (.ref arr), (.int (2 : Int32)), (.ref arr)])) rfl rfl (hb hby d3_42) t kz) ?_
    refine own_via (fun t kz => XS.aloadN X45.here hx rfl (hb hby d3_43) rfl rfl kz) ?_
    show own_Go p e below _ (T45.setTop (mkF m 44 #[oR this, oI (1 : Int32), oD (FP.l2d wv), .second, oI (2 : Int32)] [(.ref this), (.double (FP.l2d w0_)), (.int (2 : Int32)), (.ref arr)]))
    obtain ⟨T47, X47, e47, st47⟩ := getF X45 hx hZ hown (host := "") (Or.inl (own_w hw 16)) Via.refl e45 F40 (g := (mkF m 44 #[oR this, oI (1 : Int32), oD (FP.l2d wv), .second, oI (2 : Int32)] [(.ref this), (.double (FP.l2d w0_)), (.int (2 : Int32)), (.ref arr)])) rfl rfl (hb hby d3_44)
    refine own_via st47 ?_
    refine own_via (fun t kz => XS.iconst X47.here hx rfl (hb hby d3_47) kz) ?_
    refine own_via (fun t kz => XS.iload X47.here hx rfl (hb hby d3_48) rfl kz) ?_
    refine own_via (fun t kz => XS.imul X47.here hx rfl (hb hby d3_50) rfl kz) ?_
    show own_Go p e below _ (T47.setTop (mkF m 51 #[oR this, oI (1 : Int32), oD (FP.l2d wv), .second, oI (2 : Int32)] [(.int (4 : Int32)), (.ref arr), (.double (FP.l2d w0_)), (.int (2 : Int32)), (.ref arr)]))
    refine own_via (fun t kz => XS.iconst X47.here hx rfl (hb hby d3_51) kz) ?_
    refine own_via (fun t kz => XS.iadd X47.here hx rfl (hb hby d3_52) rfl kz) ?_
    show own_Go p e below _ (T47.setTop (mkF m 53 #[oR this, oI (1 : Int32), oD (FP.l2d wv), .second, oI (2 : Int32)] [(.int (5 : Int32)), (.ref arr), (.double (FP.l2d w0_)), (.int (2 : Int32)), (.ref arr)]))
    obtain ⟨cl48, Ar48, kc48, Sz48, Nn48, Hs48, Gs48⟩ := id V43
    have in48 := inb_of (j := (5 : Int32)) Sz48 ⟨by decide, by decide⟩
    have at48 : cl48.slots[((5 : Int32)).toNatClampNeg]? = some (.double (FP.l2d wv)) := Hs48.at in48 rfl
    refine own_via (fun t kz => X47.daload hx (j := (5 : Int32)) (v := (.double (FP.l2d wv))) (by rw [e47]; exact Ar48.1) (State.isArrayOf_alike hZ.alike Ar48.2.1) Ar48.2.2 in48 at48 (g := (mkF m 53 #[oR this, oI (1 : Int32), oD (FP.l2d wv), .second, oI (2 : Int32)] [(.int (5 : Int32)), (.ref arr), (.double (FP.l2d w0_)), (.int (2 : Int32)), (.ref arr)])) rfl rfl (hb hby d3_53) t kz) ?_
    show own_Go p e below _ (T47.setTop (mkF m 54 #[oR this, oI (1 : Int32), oD (FP.l2d wv), .second, oI (2 : Int32)] [(.double (FP.l2d wv)), (.double (FP.l2d w0_)), (.int (2 : Int32)), (.ref arr)]))
    refine own_via (fun t kz => XS.daddS X47.here hx rfl (hb hby d3_54) rfl (nn_w (dadd_w (own_b53 hb0 (by decide)) (own_b53 hbv (by decide)))) (dadd_w (own_b53 hb0 (by decide)) (own_b53 hbv (by decide))) kz) ?_
    show own_Go p e below _ (T47.setTop (mkF m 55 #[oR this, oI (1 : Int32), oD (FP.l2d wv), .second, oI (2 : Int32)] [(.double (FP.l2d (w0_ + wv))), (.int (2 : Int32)), (.ref arr)]))
    obtain ⟨cl49, Ar49, kc49, Sz49, Nn49, Hs49, Gs49⟩ := id V43
    obtain ⟨T49, h49, X49, e49, W49, st49⟩ := stD X47 hx hZ e47 Ar49 (j := (2 : Int32)) (inb_of Sz49 ⟨by decide, by decide⟩) (g := (mkF m 55 #[oR this, oI (1 : Int32), oD (FP.l2d wv), .second, oI (2 : Int32)] [(.double (FP.l2d (w0_ + wv))), (.int (2 : Int32)), (.ref arr)])) rfl rfl (hb hby d3_55)
    refine own_via st49 ?_
    have E50 := E38.wr W49
    have F51 := F39.other W49 (Or.inl (own_neq (by omega)))
    have F52 := F40.other W49 (Or.inl (own_neq (by omega)))
    have Zs53 : n0 ≤ h49.size := Nat.le_trans Zs41 (Keep.of_wr W49).1
    have N54 := Fr.snoc X49 N42 (show n0 ≤ arr by omega)
    have V55 : Arv Z h49 arr kA .double (8 : Int32) [(.double (FP.l2d (0 : Int64))), (.double (FP.l2d ((w0_ + w1_) + (w2_ + w3_)))), (.double (FP.l2d (w0_ + wv))), (.double (FP.l2d (w2_ + w3_))), (.double (FP.l2d w0_)), (.double (FP.l2d wv)), (.double (FP.l2d w2_)), (.double (FP.l2d w3_))] (.double (FP.l2d (0 : Int64))) := Arv.set Ar49 kc49 Sz49 Nn49 Hs49 Gs49 rfl W49 2 (by first | decide | (show 2 < 8; decide)) (by first | decide | (show 2 < 8; decide))
    refine own_via (fun t kz => XS.iload X49.here hx rfl (hb hby d3_56) rfl kz) ?_
    refine own_via (fun t kz => XS.iconst X49.here hx rfl (hb hby d3_58) kz) ?_
    refine own_via (fun t kz => XS.idiv X49.here hx rfl (hb hby d3_59) rfl (by decide) kz) ?_
    show own_Go p e below _ (T49.setTop (mkF m 60 #[oR this, oI (1 : Int32), oD (FP.l2d wv), .second, oI (2 : Int32)] [(.int (1 : Int32))]))
    refine own_via (fun t kz => XS.istore X49.here hx rfl (hb hby d3_60) rfl (l' := #[oR this, oI (1 : Int32), oD (FP.l2d wv), .second, oI (1 : Int32)]) rfl kz) ?_
    refine own_via (fun t kz => XS.goto X49.here hx rfl (pc0 := 62) (pc' := 22) rfl (hb hby d3_62) (by decide) (by decide) kz) ?_
    refine own_via (fun t kz => XS.iload X49.here hx rfl (hb hby d3_22) rfl kz) ?_
    refine own_via (fun t kz => XS.iconst X49.here hx rfl (hb hby d3_24) kz) ?_
    show own_Go p e below _ (T49.setTop (mkF m 25 #[oR this, oI (1 : Int32), oD (FP.l2d wv), .second, oI (1 : Int32)] [(.int (1 : Int32)), (.int (1 : Int32))]))
    refine own_via (fun t kz => XS.icmpNo X49.here hx rfl (hb hby d3_25) rfl (flt (by decide : ¬ ((1 : Int32) < (1 : Int32)))).1 kz) ?_
    refine own_via (fun t kz => XS.aloadN X49.here hx rfl (hb hby d3_28) rfl rfl kz) ?_
    show own_Go p e below _ (T49.setTop (mkF m 29 #[oR this, oI (1 : Int32), oD (FP.l2d wv), .second, oI (1 : Int32)] [(.ref this)]))
    obtain ⟨T56, X56, e56, st56⟩ := getF X49 hx hZ hown (host := "") (Or.inl (own_w hw 16)) Via.refl e49 F52 (g := (mkF m 29 #[oR this, oI (1 : Int32), oD (FP.l2d wv), .second, oI (1 : Int32)] [(.ref this)])) rfl rfl (hb hby d3_29)
    refine own_via st56 ?_
    refine own_via (fun t kz => XS.iload X56.here hx rfl (hb hby d3_32) rfl kz) ?_
    refine own_via (fun t kz => XS.aloadN X56.here hx rfl (hb hby d3_34) rfl rfl kz) ?_
    show own_Go p e below _ (T56.setTop (mkF m 35 #[oR this, oI (1 : Int32), oD (FP.l2d wv), .second, oI (1 : Int32)] [(.ref this), (.int (1 : Int32)), (.ref arr)]))
    obtain ⟨T57, X57, e57, st57⟩ := getF X56 hx hZ hown (host := "") (Or.inl (own_w hw 16)) Via.refl e56 F52 (g := (mkF m 35 #[oR this, oI (1 : Int32), oD (FP.l2d wv), .second, oI (1 : Int32)] [(.ref this), (.int (1 : Int32)), (.ref arr)])) rfl rfl (hb hby d3_35)
    refine own_via st57 ?_
    refine own_via (fun t kz => XS.iconst X57.here hx rfl (hb hby d3_38) kz) ?_
    refine own_via (fun t kz => XS.iload X57.here hx rfl (hb hby d3_39) rfl kz) ?_
    refine own_via (fun t kz => XS.imul X57.here hx rfl (hb hby d3_41) rfl kz) ?_
    show own_Go p e below _ (T57.setTop (mkF m 42 #[oR this, oI (1 : Int32), oD (FP.l2d wv), .second, oI (1 : Int32)] [(.int (2 : Int32)), (.ref arr), (.int (1 : Int32)), (.ref arr)]))
    obtain ⟨cl58, Ar58, kc58, Sz58, Nn58, Hs58, Gs58⟩ := id V55
    have in58 := inb_of (j := (2 : Int32)) Sz58 ⟨by decide, by decide⟩
    have at58 : cl58.slots[((2 : Int32)).toNatClampNeg]? = some (.double (FP.l2d (w0_ + wv))) := Hs58.at in58 rfl
    refine own_via (fun t kz => X57.daload hx (j := (2 : Int32)) (v := (.double (FP.l2d (w0_ + wv)))) (by rw [e57]; exact Ar58.1) (State.isArrayOf_alike hZ.alike Ar58.2.1) Ar58.2.2 in58 at58 (g := (mkF m 42 #[oR this, oI (1 : Int32), oD (FP.l2d wv), .second, oI (1 : Int32)] [(.int (2 : Int32)), (.ref arr), (.int (1 : Int32)), (.ref arr)])) rfl rfl (hb hby d3_42) t kz) ?_
    refine own_via (fun t kz => XS.aloadN X57.here hx rfl (hb hby d3_43) rfl rfl kz) ?_
    show own_Go p e below _ (T57.setTop (mkF m 44 #[oR this, oI (1 : Int32), oD (FP.l2d wv), .second, oI (1 : Int32)] [(.ref this), (.double (FP.l2d (w0_ + wv))), (.int (1 : Int32)), (.ref arr)]))
    obtain ⟨T59, X59, e59, st59⟩ := getF X57 hx hZ hown (host := "") (Or.inl (own_w hw 16)) Via.refl e57 F52 (g := (mkF m 44 #[oR this, oI (1 : Int32), oD (FP.l2d wv), .second, oI (1 : Int32)] [(.ref this), (.double (FP.l2d (w0_ + wv))), (.int (1 : Int32)), (.ref arr)])) rfl rfl (hb hby d3_44)
    refine own_via st59 ?_
    refine own_via (fun t kz => XS.iconst X59.here hx rfl (hb hby d3_47) kz) ?_
    refine own_via (fun t kz => XS.iload X59.here hx rfl (hb hby d3_48) rfl kz) ?_
    refine own_via (fun t kz => XS.imul X59.here hx rfl (hb hby d3_50) rfl kz) ?_
    show own_Go p e below _ (T59.setTop (mkF m 51 #[oR this, oI (1 : Int32), oD (FP.l2d wv), .second, oI (1 : Int32)] [(.int (2 : Int32)), (.ref arr), (.double (FP.l2d (w0_ + wv))), (.int (1 : Int32)), (.ref arr)]))
    refine own_via (fun t kz => XS.iconst X59.here hx rfl (hb hby d3_51) kz) ?_
    refine own_via (fun t kz => XS.iadd X59.here hx rfl (hb hby d3_52) rfl kz) ?_
    show own_Go p e below _ (T59.setTop (mkF m 53 #[oR this, oI (1 : Int32), oD (FP.l2d wv), .second, oI (1 : Int32)] [(.int (3 : Int32)), (.ref arr), (.double (FP.l2d (w0_ + wv))), (.int (1 : Int32)), (.ref arr)]))
    obtain ⟨cl60, Ar60, kc60, Sz60, Nn60, Hs60, Gs60⟩ := id V55
    have in60 := inb_of (j := (3 : Int32)) Sz60 ⟨by decide, by decide⟩
    have at60 : cl60.slots[((3 : Int32)).toNatClampNeg]? = some (.double (FP.l2d (w2_ + w3_))) := Hs60.at in60 rfl
    refine own_via (fun t kz => X59.daload hx (j := (3 : Int32)) (v := (.double (FP.l2d (w2_ + w3_)))) (by rw [e59]; exact Ar60.1) (State.isArrayOf_alike hZ.alike Ar60.2.1) Ar60.2.2 in60 at60 (g := (mkF m 53 #[oR this, oI (1 : Int32), oD (FP.l2d wv), .second, oI (1 : Int32)] [(.int (3 : Int32)), (.ref arr), (.double (FP.l2d (w0_ + wv))), (.int (1 : Int32)), (.ref arr)])) rfl rfl (hb hby d3_53) t kz) ?_
    show own_Go p e below _ (T59.setTop (mkF m 54 #[oR this, oI (1 : Int32), oD (FP.l2d wv), .second, oI (1 : Int32)] [(.double (FP.l2d (w2_ + w3_))), (.double (FP.l2d (w0_ + wv))), (.int (1 : Int32)), (.ref arr)]))
    refine own_via (fun t kz => XS.daddS X59.here hx rfl (hb hby d3_54) rfl (nn_w (dadd_w (own_b53 (own_bda hb0 hbv (by decide)) (by decide)) (own_b53 (own_bda hb2 hb3 (by decide)) (by decide)))) (dadd_w (own_b53 (own_bda hb0 hbv (by decide)) (by decide)) (own_b53 (own_bda hb2 hb3 (by decide)) (by decide))) kz) ?_
    show own_Go p e below _ (T59.setTop (mkF m 55 #[oR this, oI (1 : Int32), oD (FP.l2d wv), .second, oI (1 : Int32)] [(.double (FP.l2d ((w0_ + wv) + (w2_ + w3_)))), (.int (1 : Int32)), (.ref arr)]))
    obtain ⟨cl61, Ar61, kc61, Sz61, Nn61, Hs61, Gs61⟩ := id V55
    obtain ⟨T61, h61, X61, e61, W61, st61⟩ := stD X59 hx hZ e59 Ar61 (j := (1 : Int32)) (inb_of Sz61 ⟨by decide, by decide⟩) (g := (mkF m 55 #[oR this, oI (1 : Int32), oD (FP.l2d wv), .second, oI (1 : Int32)] [(.double (FP.l2d ((w0_ + wv) + (w2_ + w3_)))), (.int (1 : Int32)), (.ref arr)])) rfl rfl (hb hby d3_55)
    refine own_via st61 ?_
    have E62 := E50.wr W61
    have F63 := F51.other W61 (Or.inl (own_neq (by omega)))
    have F64 := F52.other W61 (Or.inl (own_neq (by omega)))
    have Zs65 : n0 ≤ h61.size := Nat.le_trans Zs53 (Keep.of_wr W61).1
    have N66 := Fr.snoc X61 N54 (show n0 ≤ arr by omega)
    have V67 : Arv Z h61 arr kA .double (8 : Int32) [(.double (FP.l2d (0 : Int64))), (.double (FP.l2d ((w0_ + wv) + (w2_ + w3_)))), (.double (FP.l2d (w0_ + wv))), (.double (FP.l2d (w2_ + w3_))), (.double (FP.l2d w0_)), (.double (FP.l2d wv)), (.double (FP.l2d w2_)), (.double (FP.l2d w3_))] (.double (FP.l2d (0 : Int64))) := Arv.set Ar61 kc61 Sz61 Nn61 Hs61 Gs61 rfl W61 1 (by first | decide | (show 1 < 8; decide)) (by first | decide | (show 1 < 8; decide))
    refine own_via (fun t kz => XS.iload X61.here hx rfl (hb hby d3_56) rfl kz) ?_
    refine own_via (fun t kz => XS.iconst X61.here hx rfl (hb hby d3_58) kz) ?_
    refine own_via (fun t kz => XS.idiv X61.here hx rfl (hb hby d3_59) rfl (by decide) kz) ?_
    show own_Go p e below _ (T61.setTop (mkF m 60 #[oR this, oI (1 : Int32), oD (FP.l2d wv), .second, oI (1 : Int32)] [(.int (0 : Int32))]))
    refine own_via (fun t kz => XS.istore X61.here hx rfl (hb hby d3_60) rfl (l' := #[oR this, oI (1 : Int32), oD (FP.l2d wv), .second, oI (0 : Int32)]) rfl kz) ?_
    refine own_via (fun t kz => XS.goto X61.here hx rfl (pc0 := 62) (pc' := 22) rfl (hb hby d3_62) (by decide) (by decide) kz) ?_
    refine own_via (fun t kz => XS.iload X61.here hx rfl (hb hby d3_22) rfl kz) ?_
    refine own_via (fun t kz => XS.iconst X61.here hx rfl (hb hby d3_24) kz) ?_
    show own_Go p e below _ (T61.setTop (mkF m 25 #[oR this, oI (1 : Int32), oD (FP.l2d wv), .second, oI (0 : Int32)] [(.int (1 : Int32)), (.int (0 : Int32))]))
    refine own_via (fun t kz => XS.icmpYes X61.here hx rfl (pc0 := 25) (pc' := 65) rfl (hb hby d3_25) rfl (tlt (by decide : (0 : Int32) < (1 : Int32))).1 (by decide) (by decide) kz) ?_
    show own_Go p e below _ (T61.setTop (mkF m 65 #[oR this, oI (1 : Int32), oD (FP.l2d wv), .second, oI (0 : Int32)] []))
    have hT : own_W4 Z h61 n0 this w0_ wv w2_ w3_ := ⟨arr, kA, ⟨ch0, ch1⟩, E62, F63, F64, V67⟩
    obtain ⟨fs, hr, hrun, hended, hW, hsame⟩ := X61.leave (v := none) (fun _ => rfl)
    refine ⟨_, _, X61.returnOut hx Bd.returns (hb hby d3_65) hr, hrun, hended, _, _, rfl, ?_, ⟨_, rfl⟩, hW, hsame.mono (by decide) (by decide)⟩
    show Q3_4 Z this (1 : Int32) wv w0_ w1_ w2_ w3_ h0 n0 _ T61.heap _
    rw [e61]
    exact ⟨rfl, N66, Zs65, by rw [if_neg (by decide : ¬ (1 : Int32) = (0 : Int32)), if_pos (rfl : (1 : Int32) = (1 : Int32)), if_neg (by decide : ¬ (1 : Int32) = (2 : Int32)), if_neg (by decide : ¬ (1 : Int32) = (3 : Int32))]; exact hT⟩
  · show own_Go p e below _ (s₁.setTop (mkF m 0 #[oR this, oI (2 : Int32), oD (FP.l2d wv), .second, .unset] []))
    refine own_via (fun t kz => XS.aloadN X0.here hx rfl (hb hby d3_0) rfl rfl kz) ?_
    show own_Go p e below _ (s₁.setTop (mkF m 1 #[oR this, oI (2 : Int32), oD (FP.l2d wv), .second, .unset] [(.ref this)]))
    obtain ⟨T69, X69, e69, st69⟩ := getF X0 hx hZ hown (host := "") (Or.inl (own_w hw 13)) Via.refl e0 Fq0 (g := (mkF m 1 #[oR this, oI (2 : Int32), oD (FP.l2d wv), .second, .unset] [(.ref this)])) rfl rfl (hb hby d3_1)
    refine own_via st69 ?_
    refine own_via (fun t kz => XS.iloadN X69.here hx rfl (hb hby d3_4) rfl kz) ?_
    refine own_via (fun t kz => XS.iadd X69.here hx rfl (hb hby d3_5) rfl kz) ?_
    refine own_via (fun t kz => XS.istore X69.here hx rfl (hb hby d3_6) rfl (l' := #[oR this, oI (2 : Int32), oD (FP.l2d wv), .second, oI (6 : Int32)]) rfl kz) ?_
    show own_Go p e below _ (T69.setTop (mkF m 8 #[oR this, oI (2 : Int32), oD (FP.l2d wv), .second, oI (6 : Int32)] []))
    refine own_via (fun t kz => XS.aloadN X69.here hx rfl (hb hby d3_8) rfl rfl kz) ?_
    show own_Go p e below _ (T69.setTop (mkF m 9 #[oR this, oI (2 : Int32), oD (FP.l2d wv), .second, oI (6 : Int32)] [(.ref this)]))
    obtain ⟨T70, X70, e70, st70⟩ := getF X69 hx hZ hown (host := "") (Or.inl (own_w hw 16)) Via.refl e69 Fq1 (g := (mkF m 9 #[oR this, oI (2 : Int32), oD (FP.l2d wv), .second, oI (6 : Int32)] [(.ref this)])) rfl rfl (hb hby d3_9)
    refine own_via st70 ?_
    refine own_via (fun t kz => XS.iload X70.here hx rfl (hb hby d3_12) rfl kz) ?_
    refine own_via (fun t kz => XS.dloadN X70.here hx rfl (hb hby d3_14) rfl kz) ?_
    show own_Go p e below _ (T70.setTop (mkF m 15 #[oR this, oI (2 : Int32), oD (FP.l2d wv), .second, oI (6 : Int32)] [(.double (FP.l2d wv)), (.int (6 : Int32)), (.ref arr)]))
    obtain ⟨cl71, Ar71, kc71, Sz71, Nn71, Hs71, Gs71⟩ := id Vq
    obtain ⟨T71, h71, X71, e71, W71, st71⟩ := stD X70 hx hZ e70 Ar71 (j := (6 : Int32)) (inb_of Sz71 ⟨by decide, by decide⟩) (g := (mkF m 15 #[oR this, oI (2 : Int32), oD (FP.l2d wv), .second, oI (6 : Int32)] [(.double (FP.l2d wv)), (.int (6 : Int32)), (.ref arr)])) rfl rfl (hb hby d3_15)
    refine own_via st71 ?_
    have E72 := Eq.wr W71
    have F73 := Fq0.other W71 (Or.inl (own_neq (by omega)))
    have F74 := Fq1.other W71 (Or.inl (own_neq (by omega)))
    have Zs75 : n0 ≤ h71.size := Nat.le_trans Z0 (Keep.of_wr W71).1
    have N76 := Fr.snoc X71 N0 (show n0 ≤ arr by omega)
    have V77 : Arv Z h71 arr kA .double (8 : Int32) [(.double (FP.l2d (0 : Int64))), (.double (FP.l2d ((w0_ + w1_) + (w2_ + w3_)))), (.double (FP.l2d (w0_ + w1_))), (.double (FP.l2d (w2_ + w3_))), (.double (FP.l2d w0_)), (.double (FP.l2d w1_)), (.double (FP.l2d wv)), (.double (FP.l2d w3_))] (.double (FP.l2d (0 : Int64))) := Arv.set Ar71 kc71 Sz71 Nn71 Hs71 Gs71 rfl W71 6 (by first | decide | (show 6 < 8; decide)) (by first | decide | (show 6 < 8; decide))
    refine own_via (fun t kz => XS.iload X71.here hx rfl (hb hby d3_16) rfl kz) ?_
    refine own_via (fun t kz => XS.iconst X71.here hx rfl (hb hby d3_18) kz) ?_
    refine own_via (fun t kz => XS.idiv X71.here hx rfl (hb hby d3_19) rfl (by decide) kz) ?_
    show own_Go p e below _ (T71.setTop (mkF m 20 #[oR this, oI (2 : Int32), oD (FP.l2d wv), .second, oI (6 : Int32)] [(.int (3 : Int32))]))
    refine own_via (fun t kz => XS.istore X71.here hx rfl (hb hby d3_20) rfl (l' := #[oR this, oI (2 : Int32), oD (FP.l2d wv), .second, oI (3 : Int32)]) rfl kz) ?_
    refine own_via (fun t kz => XS.iload X71.here hx rfl (hb hby d3_22) rfl kz) ?_
    refine own_via (fun t kz => XS.iconst X71.here hx rfl (hb hby d3_24) kz) ?_
    show own_Go p e below _ (T71.setTop (mkF m 25 #[oR this, oI (2 : Int32), oD (FP.l2d wv), .second, oI (3 : Int32)] [(.int (1 : Int32)), (.int (3 : Int32))]))
    refine own_via (fun t kz => XS.icmpNo X71.here hx rfl (hb hby d3_25) rfl (flt (by decide : ¬ ((3 : Int32) < (1 : Int32)))).1 kz) ?_
    refine own_via (fun t kz => XS.aloadN X71.here hx rfl (hb hby d3_28) rfl rfl kz) ?_
    show own_Go p e below _ (T71.setTop (mkF m 29 #[oR this, oI (2 : Int32), oD (FP.l2d wv), .second, oI (3 : Int32)] [(.ref this)]))
    obtain ⟨T78, X78, e78, st78⟩ := getF X71 hx hZ hown (host := "") (Or.inl (own_w hw 16)) Via.refl e71 F74 (g := (mkF m 29 #[oR this, oI (2 : Int32), oD (FP.l2d wv), .second, oI (3 : Int32)] [(.ref this)])) rfl rfl (hb hby d3_29)
    refine own_via st78 ?_
    refine own_via (fun t kz => XS.iload X78.here hx rfl (hb hby d3_32) rfl kz) ?_
    refine own_via (fun t kz => XS.aloadN X78.here hx rfl (hb hby d3_34) rfl rfl kz) ?_
    show own_Go p e below _ (T78.setTop (mkF m 35 #[oR this, oI (2 : Int32), oD (FP.l2d wv), .second, oI (3 : Int32)] [(.ref this), (.int (3 : Int32)), (.ref arr)]))
    obtain ⟨T79, X79, e79, st79⟩ := getF X78 hx hZ hown (host := "") (Or.inl (own_w hw 16)) Via.refl e78 F74 (g := (mkF m 35 #[oR this, oI (2 : Int32), oD (FP.l2d wv), .second, oI (3 : Int32)] [(.ref this), (.int (3 : Int32)), (.ref arr)])) rfl rfl (hb hby d3_35)
    refine own_via st79 ?_
    refine own_via (fun t kz => XS.iconst X79.here hx rfl (hb hby d3_38) kz) ?_
    refine own_via (fun t kz => XS.iload X79.here hx rfl (hb hby d3_39) rfl kz) ?_
    refine own_via (fun t kz => XS.imul X79.here hx rfl (hb hby d3_41) rfl kz) ?_
    show own_Go p e below _ (T79.setTop (mkF m 42 #[oR this, oI (2 : Int32), oD (FP.l2d wv), .second, oI (3 : Int32)] [(.int (6 : Int32)), (.ref arr), (.int (3 : Int32)), (.ref arr)]))
    obtain ⟨cl80, Ar80, kc80, Sz80, Nn80, Hs80, Gs80⟩ := id V77
    have in80 := inb_of (j := (6 : Int32)) Sz80 ⟨by decide, by decide⟩
    have at80 : cl80.slots[((6 : Int32)).toNatClampNeg]? = some (.double (FP.l2d wv)) := Hs80.at in80 rfl
    refine own_via (fun t kz => X79.daload hx (j := (6 : Int32)) (v := (.double (FP.l2d wv))) (by rw [e79]; exact Ar80.1) (State.isArrayOf_alike hZ.alike Ar80.2.1) Ar80.2.2 in80 at80 (g := (mkF m 42 #[oR this, oI (2 : Int32), oD (FP.l2d wv), .second, oI (3 : Int32)] [(.int (6 : Int32)), (.ref arr), (.int (3 : Int32)), (.ref arr)])) rfl rfl (hb hby d3_42) t kz) ?_
    refine own_via (fun t kz => XS.aloadN X79.here hx rfl (hb hby d3_43) rfl rfl kz) ?_
    show own_Go p e below _ (T79.setTop (mkF m 44 #[oR this, oI (2 : Int32), oD (FP.l2d wv), .second, oI (3 : Int32)] [(.ref this), (.double (FP.l2d wv)), (.int (3 : Int32)), (.ref arr)]))
    obtain ⟨T81, X81, e81, st81⟩ := getF X79 hx hZ hown (host := "") (Or.inl (own_w hw 16)) Via.refl e79 F74 (g := (mkF m 44 #[oR this, oI (2 : Int32), oD (FP.l2d wv), .second, oI (3 : Int32)] [(.ref this), (.double (FP.l2d wv)), (.int (3 : Int32)), (.ref arr)])) rfl rfl (hb hby d3_44)
    refine own_via st81 ?_
    refine own_via (fun t kz => XS.iconst X81.here hx rfl (hb hby d3_47) kz) ?_
    refine own_via (fun t kz => XS.iload X81.here hx rfl (hb hby d3_48) rfl kz) ?_
    refine own_via (fun t kz => XS.imul X81.here hx rfl (hb hby d3_50) rfl kz) ?_
    show own_Go p e below _ (T81.setTop (mkF m 51 #[oR this, oI (2 : Int32), oD (FP.l2d wv), .second, oI (3 : Int32)] [(.int (6 : Int32)), (.ref arr), (.double (FP.l2d wv)), (.int (3 : Int32)), (.ref arr)]))
    refine own_via (fun t kz => XS.iconst X81.here hx rfl (hb hby d3_51) kz) ?_
    refine own_via (fun t kz => XS.iadd X81.here hx rfl (hb hby d3_52) rfl kz) ?_
    show own_Go p e below _ (T81.setTop (mkF m 53 #[oR this, oI (2 : Int32), oD (FP.l2d wv), .second, oI (3 : Int32)] [(.int (7 : Int32)), (.ref arr), (.double (FP.l2d wv)), (.int (3 : Int32)), (.ref arr)]))
    obtain ⟨cl82, Ar82, kc82, Sz82, Nn82, Hs82, Gs82⟩ := id V77
    have in82 := inb_of (j := (7 : Int32)) Sz82 ⟨by decide, by decide⟩
    have at82 : cl82.slots[((7 : Int32)).toNatClampNeg]? = some (.double (FP.l2d w3_)) := Hs82.at in82 rfl
    refine own_via (fun t kz => X81.daload hx (j := (7 : Int32)) (v := (.double (FP.l2d w3_))) (by rw [e81]; exact Ar82.1) (State.isArrayOf_alike hZ.alike Ar82.2.1) Ar82.2.2 in82 at82 (g := (mkF m 53 #[oR this, oI (2 : Int32), oD (FP.l2d wv), .second, oI (3 : Int32)] [(.int (7 : Int32)), (.ref arr), (.double (FP.l2d wv)), (.int (3 : Int32)), (.ref arr)])) rfl rfl (hb hby d3_53) t kz) ?_
    show own_Go p e below _ (T81.setTop (mkF m 54 #[oR this, oI (2 : Int32), oD (FP.l2d wv), .second, oI (3 : Int32)] [(.double (FP.l2d w3_)), (.double (FP.l2d wv)), (.int (3 : Int32)), (.ref arr)]))
    refine own_via (fun t kz => XS.daddS X81.here hx rfl (hb hby d3_54) rfl (nn_w (dadd_w (own_b53 hbv (by decide)) (own_b53 hb3 (by decide)))) (dadd_w (own_b53 hbv (by decide)) (own_b53 hb3 (by decide))) kz) ?_
    show own_Go p e below _ (T81.setTop (mkF m 55 #[oR this, oI (2 : Int32), oD (FP.l2d wv), .second, oI (3 : Int32)] [(.double (FP.l2d (wv + w3_))), (.int (3 : Int32)), (.ref arr)]))
    obtain ⟨cl83, Ar83, kc83, Sz83, Nn83, Hs83, Gs83⟩ := id V77
    obtain ⟨T83, h83, X83, e83, W83, st83⟩ := stD X81 hx hZ e81 Ar83 (j := (3 : Int32)) (inb_of Sz83 ⟨by decide, by decide⟩) (g := (mkF m 55 #[oR this, oI (2 : Int32), oD (FP.l2d wv), .second, oI (3 : Int32)] [(.double (FP.l2d (wv + w3_))), (.int (3 : Int32)), (.ref arr)])) rfl rfl (hb hby d3_55)
    refine own_via st83 ?_
    have E84 := E72.wr W83
    have F85 := F73.other W83 (Or.inl (own_neq (by omega)))
    have F86 := F74.other W83 (Or.inl (own_neq (by omega)))
    have Zs87 : n0 ≤ h83.size := Nat.le_trans Zs75 (Keep.of_wr W83).1
    have N88 := Fr.snoc X83 N76 (show n0 ≤ arr by omega)
    have V89 : Arv Z h83 arr kA .double (8 : Int32) [(.double (FP.l2d (0 : Int64))), (.double (FP.l2d ((w0_ + w1_) + (w2_ + w3_)))), (.double (FP.l2d (w0_ + w1_))), (.double (FP.l2d (wv + w3_))), (.double (FP.l2d w0_)), (.double (FP.l2d w1_)), (.double (FP.l2d wv)), (.double (FP.l2d w3_))] (.double (FP.l2d (0 : Int64))) := Arv.set Ar83 kc83 Sz83 Nn83 Hs83 Gs83 rfl W83 3 (by first | decide | (show 3 < 8; decide)) (by first | decide | (show 3 < 8; decide))
    refine own_via (fun t kz => XS.iload X83.here hx rfl (hb hby d3_56) rfl kz) ?_
    refine own_via (fun t kz => XS.iconst X83.here hx rfl (hb hby d3_58) kz) ?_
    refine own_via (fun t kz => XS.idiv X83.here hx rfl (hb hby d3_59) rfl (by decide) kz) ?_
    show own_Go p e below _ (T83.setTop (mkF m 60 #[oR this, oI (2 : Int32), oD (FP.l2d wv), .second, oI (3 : Int32)] [(.int (1 : Int32))]))
    refine own_via (fun t kz => XS.istore X83.here hx rfl (hb hby d3_60) rfl (l' := #[oR this, oI (2 : Int32), oD (FP.l2d wv), .second, oI (1 : Int32)]) rfl kz) ?_
    refine own_via (fun t kz => XS.goto X83.here hx rfl (pc0 := 62) (pc' := 22) rfl (hb hby d3_62) (by decide) (by decide) kz) ?_
    refine own_via (fun t kz => XS.iload X83.here hx rfl (hb hby d3_22) rfl kz) ?_
    refine own_via (fun t kz => XS.iconst X83.here hx rfl (hb hby d3_24) kz) ?_
    show own_Go p e below _ (T83.setTop (mkF m 25 #[oR this, oI (2 : Int32), oD (FP.l2d wv), .second, oI (1 : Int32)] [(.int (1 : Int32)), (.int (1 : Int32))]))
    refine own_via (fun t kz => XS.icmpNo X83.here hx rfl (hb hby d3_25) rfl (flt (by decide : ¬ ((1 : Int32) < (1 : Int32)))).1 kz) ?_
    refine own_via (fun t kz => XS.aloadN X83.here hx rfl (hb hby d3_28) rfl rfl kz) ?_
    show own_Go p e below _ (T83.setTop (mkF m 29 #[oR this, oI (2 : Int32), oD (FP.l2d wv), .second, oI (1 : Int32)] [(.ref this)]))
    obtain ⟨T90, X90, e90, st90⟩ := getF X83 hx hZ hown (host := "") (Or.inl (own_w hw 16)) Via.refl e83 F86 (g := (mkF m 29 #[oR this, oI (2 : Int32), oD (FP.l2d wv), .second, oI (1 : Int32)] [(.ref this)])) rfl rfl (hb hby d3_29)
    refine own_via st90 ?_
    refine own_via (fun t kz => XS.iload X90.here hx rfl (hb hby d3_32) rfl kz) ?_
    refine own_via (fun t kz => XS.aloadN X90.here hx rfl (hb hby d3_34) rfl rfl kz) ?_
    show own_Go p e below _ (T90.setTop (mkF m 35 #[oR this, oI (2 : Int32), oD (FP.l2d wv), .second, oI (1 : Int32)] [(.ref this), (.int (1 : Int32)), (.ref arr)]))
    obtain ⟨T91, X91, e91, st91⟩ := getF X90 hx hZ hown (host := "") (Or.inl (own_w hw 16)) Via.refl e90 F86 (g := (mkF m 35 #[oR this, oI (2 : Int32), oD (FP.l2d wv), .second, oI (1 : Int32)] [(.ref this), (.int (1 : Int32)), (.ref arr)])) rfl rfl (hb hby d3_35)
    refine own_via st91 ?_
    refine own_via (fun t kz => XS.iconst X91.here hx rfl (hb hby d3_38) kz) ?_
    refine own_via (fun t kz => XS.iload X91.here hx rfl (hb hby d3_39) rfl kz) ?_
    refine own_via (fun t kz => XS.imul X91.here hx rfl (hb hby d3_41) rfl kz) ?_
    show own_Go p e below _ (T91.setTop (mkF m 42 #[oR this, oI (2 : Int32), oD (FP.l2d wv), .second, oI (1 : Int32)] [(.int (2 : Int32)), (.ref arr), (.int (1 : Int32)), (.ref arr)]))
    obtain ⟨cl92, Ar92, kc92, Sz92, Nn92, Hs92, Gs92⟩ := id V89
    have in92 := inb_of (j := (2 : Int32)) Sz92 ⟨by decide, by decide⟩
    have at92 : cl92.slots[((2 : Int32)).toNatClampNeg]? = some (.double (FP.l2d (w0_ + w1_))) := Hs92.at in92 rfl
    refine own_via (fun t kz => X91.daload hx (j := (2 : Int32)) (v := (.double (FP.l2d (w0_ + w1_)))) (by rw [e91]; exact Ar92.1) (State.isArrayOf_alike hZ.alike Ar92.2.1) Ar92.2.2 in92 at92 (g := (mkF m 42 #[oR this, oI (2 : Int32), oD (FP.l2d wv), .second, oI (1 : Int32)] [(.int (2 : Int32)), (.ref arr), (.int (1 : Int32)), (.ref arr)])) rfl rfl (hb hby d3_42) t kz) ?_
    refine own_via (fun t kz => XS.aloadN X91.here hx rfl (hb hby d3_43) rfl rfl kz) ?_
    show own_Go p e below _ (T91.setTop (mkF m 44 #[oR this, oI (2 : Int32), oD (FP.l2d wv), .second, oI (1 : Int32)] [(.ref this), (.double (FP.l2d (w0_ + w1_))), (.int (1 : Int32)), (.ref arr)]))
    obtain ⟨T93, X93, e93, st93⟩ := getF X91 hx hZ hown (host := "") (Or.inl (own_w hw 16)) Via.refl e91 F86 (g := (mkF m 44 #[oR this, oI (2 : Int32), oD (FP.l2d wv), .second, oI (1 : Int32)] [(.ref this), (.double (FP.l2d (w0_ + w1_))), (.int (1 : Int32)), (.ref arr)])) rfl rfl (hb hby d3_44)
    refine own_via st93 ?_
    refine own_via (fun t kz => XS.iconst X93.here hx rfl (hb hby d3_47) kz) ?_
    refine own_via (fun t kz => XS.iload X93.here hx rfl (hb hby d3_48) rfl kz) ?_
    refine own_via (fun t kz => XS.imul X93.here hx rfl (hb hby d3_50) rfl kz) ?_
    show own_Go p e below _ (T93.setTop (mkF m 51 #[oR this, oI (2 : Int32), oD (FP.l2d wv), .second, oI (1 : Int32)] [(.int (2 : Int32)), (.ref arr), (.double (FP.l2d (w0_ + w1_))), (.int (1 : Int32)), (.ref arr)]))
    refine own_via (fun t kz => XS.iconst X93.here hx rfl (hb hby d3_51) kz) ?_
    refine own_via (fun t kz => XS.iadd X93.here hx rfl (hb hby d3_52) rfl kz) ?_
    show own_Go p e below _ (T93.setTop (mkF m 53 #[oR this, oI (2 : Int32), oD (FP.l2d wv), .second, oI (1 : Int32)] [(.int (3 : Int32)), (.ref arr), (.double (FP.l2d (w0_ + w1_))), (.int (1 : Int32)), (.ref arr)]))
    obtain ⟨cl94, Ar94, kc94, Sz94, Nn94, Hs94, Gs94⟩ := id V89
    have in94 := inb_of (j := (3 : Int32)) Sz94 ⟨by decide, by decide⟩
    have at94 : cl94.slots[((3 : Int32)).toNatClampNeg]? = some (.double (FP.l2d (wv + w3_))) := Hs94.at in94 rfl
    refine own_via (fun t kz => X93.daload hx (j := (3 : Int32)) (v := (.double (FP.l2d (wv + w3_)))) (by rw [e93]; exact Ar94.1) (State.isArrayOf_alike hZ.alike Ar94.2.1) Ar94.2.2 in94 at94 (g := (mkF m 53 #[oR this, oI (2 : Int32), oD (FP.l2d wv), .second, oI (1 : Int32)] [(.int (3 : Int32)), (.ref arr), (.double (FP.l2d (w0_ + w1_))), (.int (1 : Int32)), (.ref arr)])) rfl rfl (hb hby d3_53) t kz) ?_
    show own_Go p e below _ (T93.setTop (mkF m 54 #[oR this, oI (2 : Int32), oD (FP.l2d wv), .second, oI (1 : Int32)] [(.double (FP.l2d (wv + w3_))), (.double (FP.l2d (w0_ + w1_))), (.int (1 : Int32)), (.ref arr)]))
    refine own_via (fun t kz => XS.daddS X93.here hx rfl (hb hby d3_54) rfl (nn_w (dadd_w (own_b53 (own_bda hb0 hb1 (by decide)) (by decide)) (own_b53 (own_bda hbv hb3 (by decide)) (by decide)))) (dadd_w (own_b53 (own_bda hb0 hb1 (by decide)) (by decide)) (own_b53 (own_bda hbv hb3 (by decide)) (by decide))) kz) ?_
    show own_Go p e below _ (T93.setTop (mkF m 55 #[oR this, oI (2 : Int32), oD (FP.l2d wv), .second, oI (1 : Int32)] [(.double (FP.l2d ((w0_ + w1_) + (wv + w3_)))), (.int (1 : Int32)), (.ref arr)]))
    obtain ⟨cl95, Ar95, kc95, Sz95, Nn95, Hs95, Gs95⟩ := id V89
    obtain ⟨T95, h95, X95, e95, W95, st95⟩ := stD X93 hx hZ e93 Ar95 (j := (1 : Int32)) (inb_of Sz95 ⟨by decide, by decide⟩) (g := (mkF m 55 #[oR this, oI (2 : Int32), oD (FP.l2d wv), .second, oI (1 : Int32)] [(.double (FP.l2d ((w0_ + w1_) + (wv + w3_)))), (.int (1 : Int32)), (.ref arr)])) rfl rfl (hb hby d3_55)
    refine own_via st95 ?_
    have E96 := E84.wr W95
    have F97 := F85.other W95 (Or.inl (own_neq (by omega)))
    have F98 := F86.other W95 (Or.inl (own_neq (by omega)))
    have Zs99 : n0 ≤ h95.size := Nat.le_trans Zs87 (Keep.of_wr W95).1
    have N100 := Fr.snoc X95 N88 (show n0 ≤ arr by omega)
    have V101 : Arv Z h95 arr kA .double (8 : Int32) [(.double (FP.l2d (0 : Int64))), (.double (FP.l2d ((w0_ + w1_) + (wv + w3_)))), (.double (FP.l2d (w0_ + w1_))), (.double (FP.l2d (wv + w3_))), (.double (FP.l2d w0_)), (.double (FP.l2d w1_)), (.double (FP.l2d wv)), (.double (FP.l2d w3_))] (.double (FP.l2d (0 : Int64))) := Arv.set Ar95 kc95 Sz95 Nn95 Hs95 Gs95 rfl W95 1 (by first | decide | (show 1 < 8; decide)) (by first | decide | (show 1 < 8; decide))
    refine own_via (fun t kz => XS.iload X95.here hx rfl (hb hby d3_56) rfl kz) ?_
    refine own_via (fun t kz => XS.iconst X95.here hx rfl (hb hby d3_58) kz) ?_
    refine own_via (fun t kz => XS.idiv X95.here hx rfl (hb hby d3_59) rfl (by decide) kz) ?_
    show own_Go p e below _ (T95.setTop (mkF m 60 #[oR this, oI (2 : Int32), oD (FP.l2d wv), .second, oI (1 : Int32)] [(.int (0 : Int32))]))
    refine own_via (fun t kz => XS.istore X95.here hx rfl (hb hby d3_60) rfl (l' := #[oR this, oI (2 : Int32), oD (FP.l2d wv), .second, oI (0 : Int32)]) rfl kz) ?_
    refine own_via (fun t kz => XS.goto X95.here hx rfl (pc0 := 62) (pc' := 22) rfl (hb hby d3_62) (by decide) (by decide) kz) ?_
    refine own_via (fun t kz => XS.iload X95.here hx rfl (hb hby d3_22) rfl kz) ?_
    refine own_via (fun t kz => XS.iconst X95.here hx rfl (hb hby d3_24) kz) ?_
    show own_Go p e below _ (T95.setTop (mkF m 25 #[oR this, oI (2 : Int32), oD (FP.l2d wv), .second, oI (0 : Int32)] [(.int (1 : Int32)), (.int (0 : Int32))]))
    refine own_via (fun t kz => XS.icmpYes X95.here hx rfl (pc0 := 25) (pc' := 65) rfl (hb hby d3_25) rfl (tlt (by decide : (0 : Int32) < (1 : Int32))).1 (by decide) (by decide) kz) ?_
    show own_Go p e below _ (T95.setTop (mkF m 65 #[oR this, oI (2 : Int32), oD (FP.l2d wv), .second, oI (0 : Int32)] []))
    have hT : own_W4 Z h95 n0 this w0_ w1_ wv w3_ := ⟨arr, kA, ⟨ch0, ch1⟩, E96, F97, F98, V101⟩
    obtain ⟨fs, hr, hrun, hended, hW, hsame⟩ := X95.leave (v := none) (fun _ => rfl)
    refine ⟨_, _, X95.returnOut hx Bd.returns (hb hby d3_65) hr, hrun, hended, _, _, rfl, ?_, ⟨_, rfl⟩, hW, hsame.mono (by decide) (by decide)⟩
    show Q3_4 Z this (2 : Int32) wv w0_ w1_ w2_ w3_ h0 n0 _ T95.heap _
    rw [e95]
    exact ⟨rfl, N100, Zs99, by rw [if_neg (by decide : ¬ (2 : Int32) = (0 : Int32)), if_neg (by decide : ¬ (2 : Int32) = (1 : Int32)), if_pos (rfl : (2 : Int32) = (2 : Int32)), if_neg (by decide : ¬ (2 : Int32) = (3 : Int32))]; exact hT⟩
  · show own_Go p e below _ (s₁.setTop (mkF m 0 #[oR this, oI (3 : Int32), oD (FP.l2d wv), .second, .unset] []))
    refine own_via (fun t kz => XS.aloadN X0.here hx rfl (hb hby d3_0) rfl rfl kz) ?_
    show own_Go p e below _ (s₁.setTop (mkF m 1 #[oR this, oI (3 : Int32), oD (FP.l2d wv), .second, .unset] [(.ref this)]))
    obtain ⟨T103, X103, e103, st103⟩ := getF X0 hx hZ hown (host := "") (Or.inl (own_w hw 13)) Via.refl e0 Fq0 (g := (mkF m 1 #[oR this, oI (3 : Int32), oD (FP.l2d wv), .second, .unset] [(.ref this)])) rfl rfl (hb hby d3_1)
    refine own_via st103 ?_
    refine own_via (fun t kz => XS.iloadN X103.here hx rfl (hb hby d3_4) rfl kz) ?_
    refine own_via (fun t kz => XS.iadd X103.here hx rfl (hb hby d3_5) rfl kz) ?_
    refine own_via (fun t kz => XS.istore X103.here hx rfl (hb hby d3_6) rfl (l' := #[oR this, oI (3 : Int32), oD (FP.l2d wv), .second, oI (7 : Int32)]) rfl kz) ?_
    show own_Go p e below _ (T103.setTop (mkF m 8 #[oR this, oI (3 : Int32), oD (FP.l2d wv), .second, oI (7 : Int32)] []))
    refine own_via (fun t kz => XS.aloadN X103.here hx rfl (hb hby d3_8) rfl rfl kz) ?_
    show own_Go p e below _ (T103.setTop (mkF m 9 #[oR this, oI (3 : Int32), oD (FP.l2d wv), .second, oI (7 : Int32)] [(.ref this)]))
    obtain ⟨T104, X104, e104, st104⟩ := getF X103 hx hZ hown (host := "") (Or.inl (own_w hw 16)) Via.refl e103 Fq1 (g := (mkF m 9 #[oR this, oI (3 : Int32), oD (FP.l2d wv), .second, oI (7 : Int32)] [(.ref this)])) rfl rfl (hb hby d3_9)
    refine own_via st104 ?_
    refine own_via (fun t kz => XS.iload X104.here hx rfl (hb hby d3_12) rfl kz) ?_
    refine own_via (fun t kz => XS.dloadN X104.here hx rfl (hb hby d3_14) rfl kz) ?_
    show own_Go p e below _ (T104.setTop (mkF m 15 #[oR this, oI (3 : Int32), oD (FP.l2d wv), .second, oI (7 : Int32)] [(.double (FP.l2d wv)), (.int (7 : Int32)), (.ref arr)]))
    obtain ⟨cl105, Ar105, kc105, Sz105, Nn105, Hs105, Gs105⟩ := id Vq
    obtain ⟨T105, h105, X105, e105, W105, st105⟩ := stD X104 hx hZ e104 Ar105 (j := (7 : Int32)) (inb_of Sz105 ⟨by decide, by decide⟩) (g := (mkF m 15 #[oR this, oI (3 : Int32), oD (FP.l2d wv), .second, oI (7 : Int32)] [(.double (FP.l2d wv)), (.int (7 : Int32)), (.ref arr)])) rfl rfl (hb hby d3_15)
    refine own_via st105 ?_
    have E106 := Eq.wr W105
    have F107 := Fq0.other W105 (Or.inl (own_neq (by omega)))
    have F108 := Fq1.other W105 (Or.inl (own_neq (by omega)))
    have Zs109 : n0 ≤ h105.size := Nat.le_trans Z0 (Keep.of_wr W105).1
    have N110 := Fr.snoc X105 N0 (show n0 ≤ arr by omega)
    have V111 : Arv Z h105 arr kA .double (8 : Int32) [(.double (FP.l2d (0 : Int64))), (.double (FP.l2d ((w0_ + w1_) + (w2_ + w3_)))), (.double (FP.l2d (w0_ + w1_))), (.double (FP.l2d (w2_ + w3_))), (.double (FP.l2d w0_)), (.double (FP.l2d w1_)), (.double (FP.l2d w2_)), (.double (FP.l2d wv))] (.double (FP.l2d (0 : Int64))) := Arv.set Ar105 kc105 Sz105 Nn105 Hs105 Gs105 rfl W105 7 (by first | decide | (show 7 < 8; decide)) (by first | decide | (show 7 < 8; decide))
    refine own_via (fun t kz => XS.iload X105.here hx rfl (hb hby d3_16) rfl kz) ?_
    refine own_via (fun t kz => XS.iconst X105.here hx rfl (hb hby d3_18) kz) ?_
    refine own_via (fun t kz => XS.idiv X105.here hx rfl (hb hby d3_19) rfl (by decide) kz) ?_
    show own_Go p e below _ (T105.setTop (mkF m 20 #[oR this, oI (3 : Int32), oD (FP.l2d wv), .second, oI (7 : Int32)] [(.int (3 : Int32))]))
    refine own_via (fun t kz => XS.istore X105.here hx rfl (hb hby d3_20) rfl (l' := #[oR this, oI (3 : Int32), oD (FP.l2d wv), .second, oI (3 : Int32)]) rfl kz) ?_
    refine own_via (fun t kz => XS.iload X105.here hx rfl (hb hby d3_22) rfl kz) ?_
    refine own_via (fun t kz => XS.iconst X105.here hx rfl (hb hby d3_24) kz) ?_
    show own_Go p e below _ (T105.setTop (mkF m 25 #[oR this, oI (3 : Int32), oD (FP.l2d wv), .second, oI (3 : Int32)] [(.int (1 : Int32)), (.int (3 : Int32))]))
    refine own_via (fun t kz => XS.icmpNo X105.here hx rfl (hb hby d3_25) rfl (flt (by decide : ¬ ((3 : Int32) < (1 : Int32)))).1 kz) ?_
    refine own_via (fun t kz => XS.aloadN X105.here hx rfl (hb hby d3_28) rfl rfl kz) ?_
    show own_Go p e below _ (T105.setTop (mkF m 29 #[oR this, oI (3 : Int32), oD (FP.l2d wv), .second, oI (3 : Int32)] [(.ref this)]))
    obtain ⟨T112, X112, e112, st112⟩ := getF X105 hx hZ hown (host := "") (Or.inl (own_w hw 16)) Via.refl e105 F108 (g := (mkF m 29 #[oR this, oI (3 : Int32), oD (FP.l2d wv), .second, oI (3 : Int32)] [(.ref this)])) rfl rfl (hb hby d3_29)
    refine own_via st112 ?_
    refine own_via (fun t kz => XS.iload X112.here hx rfl (hb hby d3_32) rfl kz) ?_
    refine own_via (fun t kz => XS.aloadN X112.here hx rfl (hb hby d3_34) rfl rfl kz) ?_
    show own_Go p e below _ (T112.setTop (mkF m 35 #[oR this, oI (3 : Int32), oD (FP.l2d wv), .second, oI (3 : Int32)] [(.ref this), (.int (3 : Int32)), (.ref arr)]))
    obtain ⟨T113, X113, e113, st113⟩ := getF X112 hx hZ hown (host := "") (Or.inl (own_w hw 16)) Via.refl e112 F108 (g := (mkF m 35 #[oR this, oI (3 : Int32), oD (FP.l2d wv), .second, oI (3 : Int32)] [(.ref this), (.int (3 : Int32)), (.ref arr)])) rfl rfl (hb hby d3_35)
    refine own_via st113 ?_
    refine own_via (fun t kz => XS.iconst X113.here hx rfl (hb hby d3_38) kz) ?_
    refine own_via (fun t kz => XS.iload X113.here hx rfl (hb hby d3_39) rfl kz) ?_
    refine own_via (fun t kz => XS.imul X113.here hx rfl (hb hby d3_41) rfl kz) ?_
    show own_Go p e below _ (T113.setTop (mkF m 42 #[oR this, oI (3 : Int32), oD (FP.l2d wv), .second, oI (3 : Int32)] [(.int (6 : Int32)), (.ref arr), (.int (3 : Int32)), (.ref arr)]))
    obtain ⟨cl114, Ar114, kc114, Sz114, Nn114, Hs114, Gs114⟩ := id V111
    have in114 := inb_of (j := (6 : Int32)) Sz114 ⟨by decide, by decide⟩
    have at114 : cl114.slots[((6 : Int32)).toNatClampNeg]? = some (.double (FP.l2d w2_)) := Hs114.at in114 rfl
    refine own_via (fun t kz => X113.daload hx (j := (6 : Int32)) (v := (.double (FP.l2d w2_))) (by rw [e113]; exact Ar114.1) (State.isArrayOf_alike hZ.alike Ar114.2.1) Ar114.2.2 in114 at114 (g := (mkF m 42 #[oR this, oI (3 : Int32), oD (FP.l2d wv), .second, oI (3 : Int32)] [(.int (6 : Int32)), (.ref arr), (.int (3 : Int32)), (.ref arr)])) rfl rfl (hb hby d3_42) t kz) ?_
    refine own_via (fun t kz => XS.aloadN X113.here hx rfl (hb hby d3_43) rfl rfl kz) ?_
    show own_Go p e below _ (T113.setTop (mkF m 44 #[oR this, oI (3 : Int32), oD (FP.l2d wv), .second, oI (3 : Int32)] [(.ref this), (.double (FP.l2d w2_)), (.int (3 : Int32)), (.ref arr)]))
    obtain ⟨T115, X115, e115, st115⟩ := getF X113 hx hZ hown (host := "") (Or.inl (own_w hw 16)) Via.refl e113 F108 (g := (mkF m 44 #[oR this, oI (3 : Int32), oD (FP.l2d wv), .second, oI (3 : Int32)] [(.ref this), (.double (FP.l2d w2_)), (.int (3 : Int32)), (.ref arr)])) rfl rfl (hb hby d3_44)
    refine own_via st115 ?_
    refine own_via (fun t kz => XS.iconst X115.here hx rfl (hb hby d3_47) kz) ?_
    refine own_via (fun t kz => XS.iload X115.here hx rfl (hb hby d3_48) rfl kz) ?_
    refine own_via (fun t kz => XS.imul X115.here hx rfl (hb hby d3_50) rfl kz) ?_
    show own_Go p e below _ (T115.setTop (mkF m 51 #[oR this, oI (3 : Int32), oD (FP.l2d wv), .second, oI (3 : Int32)] [(.int (6 : Int32)), (.ref arr), (.double (FP.l2d w2_)), (.int (3 : Int32)), (.ref arr)]))
    refine own_via (fun t kz => XS.iconst X115.here hx rfl (hb hby d3_51) kz) ?_
    refine own_via (fun t kz => XS.iadd X115.here hx rfl (hb hby d3_52) rfl kz) ?_
    show own_Go p e below _ (T115.setTop (mkF m 53 #[oR this, oI (3 : Int32), oD (FP.l2d wv), .second, oI (3 : Int32)] [(.int (7 : Int32)), (.ref arr), (.double (FP.l2d w2_)), (.int (3 : Int32)), (.ref arr)]))
    obtain ⟨cl116, Ar116, kc116, Sz116, Nn116, Hs116, Gs116⟩ := id V111
    have in116 := inb_of (j := (7 : Int32)) Sz116 ⟨by decide, by decide⟩
    have at116 : cl116.slots[((7 : Int32)).toNatClampNeg]? = some (.double (FP.l2d wv)) := Hs116.at in116 rfl
    refine own_via (fun t kz => X115.daload hx (j := (7 : Int32)) (v := (.double (FP.l2d wv))) (by rw [e115]; exact Ar116.1) (State.isArrayOf_alike hZ.alike Ar116.2.1) Ar116.2.2 in116 at116 (g := (mkF m 53 #[oR this, oI (3 : Int32), oD (FP.l2d wv), .second, oI (3 : Int32)] [(.int (7 : Int32)), (.ref arr), (.double (FP.l2d w2_)), (.int (3 : Int32)), (.ref arr)])) rfl rfl (hb hby d3_53) t kz) ?_
    show own_Go p e below _ (T115.setTop (mkF m 54 #[oR this, oI (3 : Int32), oD (FP.l2d wv), .second, oI (3 : Int32)] [(.double (FP.l2d wv)), (.double (FP.l2d w2_)), (.int (3 : Int32)), (.ref arr)]))
    refine own_via (fun t kz => XS.daddS X115.here hx rfl (hb hby d3_54) rfl (nn_w (dadd_w (own_b53 hb2 (by decide)) (own_b53 hbv (by decide)))) (dadd_w (own_b53 hb2 (by decide)) (own_b53 hbv (by decide))) kz) ?_
    show own_Go p e below _ (T115.setTop (mkF m 55 #[oR this, oI (3 : Int32), oD (FP.l2d wv), .second, oI (3 : Int32)] [(.double (FP.l2d (w2_ + wv))), (.int (3 : Int32)), (.ref arr)]))
    obtain ⟨cl117, Ar117, kc117, Sz117, Nn117, Hs117, Gs117⟩ := id V111
    obtain ⟨T117, h117, X117, e117, W117, st117⟩ := stD X115 hx hZ e115 Ar117 (j := (3 : Int32)) (inb_of Sz117 ⟨by decide, by decide⟩) (g := (mkF m 55 #[oR this, oI (3 : Int32), oD (FP.l2d wv), .second, oI (3 : Int32)] [(.double (FP.l2d (w2_ + wv))), (.int (3 : Int32)), (.ref arr)])) rfl rfl (hb hby d3_55)
    refine own_via st117 ?_
    have E118 := E106.wr W117
    have F119 := F107.other W117 (Or.inl (own_neq (by omega)))
    have F120 := F108.other W117 (Or.inl (own_neq (by omega)))
    have Zs121 : n0 ≤ h117.size := Nat.le_trans Zs109 (Keep.of_wr W117).1
    have N122 := Fr.snoc X117 N110 (show n0 ≤ arr by omega)
    have V123 : Arv Z h117 arr kA .double (8 : Int32) [(.double (FP.l2d (0 : Int64))), (.double (FP.l2d ((w0_ + w1_) + (w2_ + w3_)))), (.double (FP.l2d (w0_ + w1_))), (.double (FP.l2d (w2_ + wv))), (.double (FP.l2d w0_)), (.double (FP.l2d w1_)), (.double (FP.l2d w2_)), (.double (FP.l2d wv))] (.double (FP.l2d (0 : Int64))) := Arv.set Ar117 kc117 Sz117 Nn117 Hs117 Gs117 rfl W117 3 (by first | decide | (show 3 < 8; decide)) (by first | decide | (show 3 < 8; decide))
    refine own_via (fun t kz => XS.iload X117.here hx rfl (hb hby d3_56) rfl kz) ?_
    refine own_via (fun t kz => XS.iconst X117.here hx rfl (hb hby d3_58) kz) ?_
    refine own_via (fun t kz => XS.idiv X117.here hx rfl (hb hby d3_59) rfl (by decide) kz) ?_
    show own_Go p e below _ (T117.setTop (mkF m 60 #[oR this, oI (3 : Int32), oD (FP.l2d wv), .second, oI (3 : Int32)] [(.int (1 : Int32))]))
    refine own_via (fun t kz => XS.istore X117.here hx rfl (hb hby d3_60) rfl (l' := #[oR this, oI (3 : Int32), oD (FP.l2d wv), .second, oI (1 : Int32)]) rfl kz) ?_
    refine own_via (fun t kz => XS.goto X117.here hx rfl (pc0 := 62) (pc' := 22) rfl (hb hby d3_62) (by decide) (by decide) kz) ?_
    refine own_via (fun t kz => XS.iload X117.here hx rfl (hb hby d3_22) rfl kz) ?_
    refine own_via (fun t kz => XS.iconst X117.here hx rfl (hb hby d3_24) kz) ?_
    show own_Go p e below _ (T117.setTop (mkF m 25 #[oR this, oI (3 : Int32), oD (FP.l2d wv), .second, oI (1 : Int32)] [(.int (1 : Int32)), (.int (1 : Int32))]))
    refine own_via (fun t kz => XS.icmpNo X117.here hx rfl (hb hby d3_25) rfl (flt (by decide : ¬ ((1 : Int32) < (1 : Int32)))).1 kz) ?_
    refine own_via (fun t kz => XS.aloadN X117.here hx rfl (hb hby d3_28) rfl rfl kz) ?_
    show own_Go p e below _ (T117.setTop (mkF m 29 #[oR this, oI (3 : Int32), oD (FP.l2d wv), .second, oI (1 : Int32)] [(.ref this)]))
    obtain ⟨T124, X124, e124, st124⟩ := getF X117 hx hZ hown (host := "") (Or.inl (own_w hw 16)) Via.refl e117 F120 (g := (mkF m 29 #[oR this, oI (3 : Int32), oD (FP.l2d wv), .second, oI (1 : Int32)] [(.ref this)])) rfl rfl (hb hby d3_29)
    refine own_via st124 ?_
    refine own_via (fun t kz => XS.iload X124.here hx rfl (hb hby d3_32) rfl kz) ?_
    refine own_via (fun t kz => XS.aloadN X124.here hx rfl (hb hby d3_34) rfl rfl kz) ?_
    show own_Go p e below _ (T124.setTop (mkF m 35 #[oR this, oI (3 : Int32), oD (FP.l2d wv), .second, oI (1 : Int32)] [(.ref this), (.int (1 : Int32)), (.ref arr)]))
    obtain ⟨T125, X125, e125, st125⟩ := getF X124 hx hZ hown (host := "") (Or.inl (own_w hw 16)) Via.refl e124 F120 (g := (mkF m 35 #[oR this, oI (3 : Int32), oD (FP.l2d wv), .second, oI (1 : Int32)] [(.ref this), (.int (1 : Int32)), (.ref arr)])) rfl rfl (hb hby d3_35)
    refine own_via st125 ?_
    refine own_via (fun t kz => XS.iconst X125.here hx rfl (hb hby d3_38) kz) ?_
    refine own_via (fun t kz => XS.iload X125.here hx rfl (hb hby d3_39) rfl kz) ?_
    refine own_via (fun t kz => XS.imul X125.here hx rfl (hb hby d3_41) rfl kz) ?_
    show own_Go p e below _ (T125.setTop (mkF m 42 #[oR this, oI (3 : Int32), oD (FP.l2d wv), .second, oI (1 : Int32)] [(.int (2 : Int32)), (.ref arr), (.int (1 : Int32)), (.ref arr)]))
    obtain ⟨cl126, Ar126, kc126, Sz126, Nn126, Hs126, Gs126⟩ := id V123
    have in126 := inb_of (j := (2 : Int32)) Sz126 ⟨by decide, by decide⟩
    have at126 : cl126.slots[((2 : Int32)).toNatClampNeg]? = some (.double (FP.l2d (w0_ + w1_))) := Hs126.at in126 rfl
    refine own_via (fun t kz => X125.daload hx (j := (2 : Int32)) (v := (.double (FP.l2d (w0_ + w1_)))) (by rw [e125]; exact Ar126.1) (State.isArrayOf_alike hZ.alike Ar126.2.1) Ar126.2.2 in126 at126 (g := (mkF m 42 #[oR this, oI (3 : Int32), oD (FP.l2d wv), .second, oI (1 : Int32)] [(.int (2 : Int32)), (.ref arr), (.int (1 : Int32)), (.ref arr)])) rfl rfl (hb hby d3_42) t kz) ?_
    refine own_via (fun t kz => XS.aloadN X125.here hx rfl (hb hby d3_43) rfl rfl kz) ?_
    show own_Go p e below _ (T125.setTop (mkF m 44 #[oR this, oI (3 : Int32), oD (FP.l2d wv), .second, oI (1 : Int32)] [(.ref this), (.double (FP.l2d (w0_ + w1_))), (.int (1 : Int32)), (.ref arr)]))
    obtain ⟨T127, X127, e127, st127⟩ := getF X125 hx hZ hown (host := "") (Or.inl (own_w hw 16)) Via.refl e125 F120 (g := (mkF m 44 #[oR this, oI (3 : Int32), oD (FP.l2d wv), .second, oI (1 : Int32)] [(.ref this), (.double (FP.l2d (w0_ + w1_))), (.int (1 : Int32)), (.ref arr)])) rfl rfl (hb hby d3_44)
    refine own_via st127 ?_
    refine own_via (fun t kz => XS.iconst X127.here hx rfl (hb hby d3_47) kz) ?_
    refine own_via (fun t kz => XS.iload X127.here hx rfl (hb hby d3_48) rfl kz) ?_
    refine own_via (fun t kz => XS.imul X127.here hx rfl (hb hby d3_50) rfl kz) ?_
    show own_Go p e below _ (T127.setTop (mkF m 51 #[oR this, oI (3 : Int32), oD (FP.l2d wv), .second, oI (1 : Int32)] [(.int (2 : Int32)), (.ref arr), (.double (FP.l2d (w0_ + w1_))), (.int (1 : Int32)), (.ref arr)]))
    refine own_via (fun t kz => XS.iconst X127.here hx rfl (hb hby d3_51) kz) ?_
    refine own_via (fun t kz => XS.iadd X127.here hx rfl (hb hby d3_52) rfl kz) ?_
    show own_Go p e below _ (T127.setTop (mkF m 53 #[oR this, oI (3 : Int32), oD (FP.l2d wv), .second, oI (1 : Int32)] [(.int (3 : Int32)), (.ref arr), (.double (FP.l2d (w0_ + w1_))), (.int (1 : Int32)), (.ref arr)]))
    obtain ⟨cl128, Ar128, kc128, Sz128, Nn128, Hs128, Gs128⟩ := id V123
    have in128 := inb_of (j := (3 : Int32)) Sz128 ⟨by decide, by decide⟩
    have at128 : cl128.slots[((3 : Int32)).toNatClampNeg]? = some (.double (FP.l2d (w2_ + wv))) := Hs128.at in128 rfl
    refine own_via (fun t kz => X127.daload hx (j := (3 : Int32)) (v := (.double (FP.l2d (w2_ + wv)))) (by rw [e127]; exact Ar128.1) (State.isArrayOf_alike hZ.alike Ar128.2.1) Ar128.2.2 in128 at128 (g := (mkF m 53 #[oR this, oI (3 : Int32), oD (FP.l2d wv), .second, oI (1 : Int32)] [(.int (3 : Int32)), (.ref arr), (.double (FP.l2d (w0_ + w1_))), (.int (1 : Int32)), (.ref arr)])) rfl rfl (hb hby d3_53) t kz) ?_
    show own_Go p e below _ (T127.setTop (mkF m 54 #[oR this, oI (3 : Int32), oD (FP.l2d wv), .second, oI (1 : Int32)] [(.double (FP.l2d (w2_ + wv))), (.double (FP.l2d (w0_ + w1_))), (.int (1 : Int32)), (.ref arr)]))
    refine own_via (fun t kz => XS.daddS X127.here hx rfl (hb hby d3_54) rfl (nn_w (dadd_w (own_b53 (own_bda hb0 hb1 (by decide)) (by decide)) (own_b53 (own_bda hb2 hbv (by decide)) (by decide)))) (dadd_w (own_b53 (own_bda hb0 hb1 (by decide)) (by decide)) (own_b53 (own_bda hb2 hbv (by decide)) (by decide))) kz) ?_
    show own_Go p e below _ (T127.setTop (mkF m 55 #[oR this, oI (3 : Int32), oD (FP.l2d wv), .second, oI (1 : Int32)] [(.double (FP.l2d ((w0_ + w1_) + (w2_ + wv)))), (.int (1 : Int32)), (.ref arr)]))
    obtain ⟨cl129, Ar129, kc129, Sz129, Nn129, Hs129, Gs129⟩ := id V123
    obtain ⟨T129, h129, X129, e129, W129, st129⟩ := stD X127 hx hZ e127 Ar129 (j := (1 : Int32)) (inb_of Sz129 ⟨by decide, by decide⟩) (g := (mkF m 55 #[oR this, oI (3 : Int32), oD (FP.l2d wv), .second, oI (1 : Int32)] [(.double (FP.l2d ((w0_ + w1_) + (w2_ + wv)))), (.int (1 : Int32)), (.ref arr)])) rfl rfl (hb hby d3_55)
    refine own_via st129 ?_
    have E130 := E118.wr W129
    have F131 := F119.other W129 (Or.inl (own_neq (by omega)))
    have F132 := F120.other W129 (Or.inl (own_neq (by omega)))
    have Zs133 : n0 ≤ h129.size := Nat.le_trans Zs121 (Keep.of_wr W129).1
    have N134 := Fr.snoc X129 N122 (show n0 ≤ arr by omega)
    have V135 : Arv Z h129 arr kA .double (8 : Int32) [(.double (FP.l2d (0 : Int64))), (.double (FP.l2d ((w0_ + w1_) + (w2_ + wv)))), (.double (FP.l2d (w0_ + w1_))), (.double (FP.l2d (w2_ + wv))), (.double (FP.l2d w0_)), (.double (FP.l2d w1_)), (.double (FP.l2d w2_)), (.double (FP.l2d wv))] (.double (FP.l2d (0 : Int64))) := Arv.set Ar129 kc129 Sz129 Nn129 Hs129 Gs129 rfl W129 1 (by first | decide | (show 1 < 8; decide)) (by first | decide | (show 1 < 8; decide))
    refine own_via (fun t kz => XS.iload X129.here hx rfl (hb hby d3_56) rfl kz) ?_
    refine own_via (fun t kz => XS.iconst X129.here hx rfl (hb hby d3_58) kz) ?_
    refine own_via (fun t kz => XS.idiv X129.here hx rfl (hb hby d3_59) rfl (by decide) kz) ?_
    show own_Go p e below _ (T129.setTop (mkF m 60 #[oR this, oI (3 : Int32), oD (FP.l2d wv), .second, oI (1 : Int32)] [(.int (0 : Int32))]))
    refine own_via (fun t kz => XS.istore X129.here hx rfl (hb hby d3_60) rfl (l' := #[oR this, oI (3 : Int32), oD (FP.l2d wv), .second, oI (0 : Int32)]) rfl kz) ?_
    refine own_via (fun t kz => XS.goto X129.here hx rfl (pc0 := 62) (pc' := 22) rfl (hb hby d3_62) (by decide) (by decide) kz) ?_
    refine own_via (fun t kz => XS.iload X129.here hx rfl (hb hby d3_22) rfl kz) ?_
    refine own_via (fun t kz => XS.iconst X129.here hx rfl (hb hby d3_24) kz) ?_
    show own_Go p e below _ (T129.setTop (mkF m 25 #[oR this, oI (3 : Int32), oD (FP.l2d wv), .second, oI (0 : Int32)] [(.int (1 : Int32)), (.int (0 : Int32))]))
    refine own_via (fun t kz => XS.icmpYes X129.here hx rfl (pc0 := 25) (pc' := 65) rfl (hb hby d3_25) rfl (tlt (by decide : (0 : Int32) < (1 : Int32))).1 (by decide) (by decide) kz) ?_
    show own_Go p e below _ (T129.setTop (mkF m 65 #[oR this, oI (3 : Int32), oD (FP.l2d wv), .second, oI (0 : Int32)] []))
    have hT : own_W4 Z h129 n0 this w0_ w1_ w2_ wv := ⟨arr, kA, ⟨ch0, ch1⟩, E130, F131, F132, V135⟩
    obtain ⟨fs, hr, hrun, hended, hW, hsame⟩ := X129.leave (v := none) (fun _ => rfl)
    refine ⟨_, _, X129.returnOut hx Bd.returns (hb hby d3_65) hr, hrun, hended, _, _, rfl, ?_, ⟨_, rfl⟩, hW, hsame.mono (by decide) (by decide)⟩
    show Q3_4 Z this (3 : Int32) wv w0_ w1_ w2_ w3_ h0 n0 _ T129.heap _
    rw [e129]
    exact ⟨rfl, N134, Zs133, by rw [if_neg (by decide : ¬ (3 : Int32) = (0 : Int32)), if_neg (by decide : ¬ (3 : Int32) = (1 : Int32)), if_neg (by decide : ¬ (3 : Int32) = (2 : Int32)), if_pos (rfl : (3 : Int32) = (3 : Int32))]; exact hT⟩
theorem ef_rm4_4 (m : MethodId) (q0 : Addr) (q1 : Int32) : entryFrame m #[(.ref q0), (.int q1)] 2 = mkF m 0 #[oR q0, oI q1] [] := by first | (simp [entryFrame, mkF, argsToLocals, Value.category]; done) | rfl
def Q4_4 (Z : State) (this : Addr) (p1 : Int32) (w0_ : Int64) (w1_ : Int64) (w2_ : Int64) (w3_ : Int64) (h0 : Heap) (n0 : Nat) (v : Option Value) (h : Heap) (L : List Loc) : Prop := v = some (.double (FP.l2d (own_sel4 p1 w0_ w1_ w2_ w3_))) ∧ Fr n0 L ∧ h = h0
set_option maxRecDepth 65536 in
set_option maxHeartbeats 40000000 in
theorem rm4_4 (l : Launch) (Z : State) (a0 : Array Value) (hw : ∀ d ∈ tables_1, d.before a0 Z = true) (ws : List Jvm.Cond) (this : Addr) (p1 : Int32) (w0_ : Int64) (w1_ : Int64) (w2_ : Int64) (w3_ : Int64) (h0 : Heap) (n0 : Nat) (Z0 : n0 ≤ h0.size) (TC : own_W4 Z h0 n0 this w0_ w1_ w2_ w3_) (hp : p1 = 0 ∨ p1 = 1 ∨ p1 = 2 ∨ p1 = 3) :
    MetFree l (⟨"com/example/coupewise/coupewise/WeightedDraw", "weight", "(I)D"⟩ : MethodName) (head1 (Jvm.Cond.code (⟨"com/example/coupewise/coupewise/WeightedDraw", "weight", "(I)D"⟩ : MethodName) prog_11_method_4_code 2 (some .double) :: ws) ({ frames := 0, cells := 0, slots := 0, locals := 0 } : Room)) (fun a U => a = #[(.ref this), (.int p1)] ∧ Z.Warmed39 U.vm ∧ U.heap = h0) (fun _ _ _ _ _ => True) (fun _ U o U' => ∃ v L, o = .returned v ∧ Q4_4 Z this p1 w0_ w1_ w2_ w3_ h0 n0 v U'.heap L ∧ FrameEnd U o U' L ({ frames := 0, cells := 0, slots := 0, locals := 0 } : Room).cells ({ frames := 0, cells := 0, slots := 0, locals := 0 } : Room).slots) := by
  refine MetFree.of_bodySF (plainFor_of_name pn_1) hisR ?_
  intro p e s m args below meth c s₁ Bd hml0 hP hK
  obtain ⟨rfl, hZ, hh⟩ := hP
  have hx := Bd.exec
  have hby := Bd.bytes
  have hml : c.maxLocals = 2 := hml0
  have hown : s.vm.findClass "com/example/coupewise/coupewise/WeightedDraw" = some m.cls := findClass_of_methodNamed Bd.named
  have hnm := (name_of_methodNamed Bd.named Bd.method).1
  have X0 : Stand p l e ({ frames := 0, cells := 0, slots := 0, locals := 0 } : Room) s m #[(.ref this), (.int p1)] below meth c s₁ [] 0 0 := Stand.of_body Bd
  have e0 : s₁.heap = h0 := by rw [← hh, Bd.state]; rfl
  have N0 := Fr.nil n0
  refine own_start ?_
  refine own_via (fun t k => castTop (ef_rm4_4 m this p1) k) ?_
  obtain ⟨arr, kA, ⟨ch0, ch1⟩, Eq, Fq0, Fq1, Vq⟩ := TC
  rcases hp with rfl | rfl | rfl | rfl
  · show own_Go p e below _ (s₁.setTop (mkF m 0 #[oR this, oI (0 : Int32)] []))
    refine own_via (fun t kz => XS.aloadN X0.here hx rfl (hb hby d4_0) rfl rfl kz) ?_
    show own_Go p e below _ (s₁.setTop (mkF m 1 #[oR this, oI (0 : Int32)] [(.ref this)]))
    obtain ⟨T1, X1, e1, st1⟩ := getF X0 hx hZ hown (host := "") (Or.inl (own_w hw 16)) Via.refl e0 Fq1 (g := (mkF m 1 #[oR this, oI (0 : Int32)] [(.ref this)])) rfl rfl (hb hby d4_1)
    refine own_via st1 ?_
    refine own_via (fun t kz => XS.aloadN X1.here hx rfl (hb hby d4_4) rfl rfl kz) ?_
    show own_Go p e below _ (T1.setTop (mkF m 5 #[oR this, oI (0 : Int32)] [(.ref this), (.ref arr)]))
    obtain ⟨T2, X2, e2, st2⟩ := getF X1 hx hZ hown (host := "") (Or.inl (own_w hw 13)) Via.refl e1 Fq0 (g := (mkF m 5 #[oR this, oI (0 : Int32)] [(.ref this), (.ref arr)])) rfl rfl (hb hby d4_5)
    refine own_via st2 ?_
    refine own_via (fun t kz => XS.iloadN X2.here hx rfl (hb hby d4_8) rfl kz) ?_
    refine own_via (fun t kz => XS.iadd X2.here hx rfl (hb hby d4_9) rfl kz) ?_
    show own_Go p e below _ (T2.setTop (mkF m 10 #[oR this, oI (0 : Int32)] [(.int (4 : Int32)), (.ref arr)]))
    obtain ⟨cl3, Ar3, kc3, Sz3, Nn3, Hs3, Gs3⟩ := id Vq
    have in3 := inb_of (j := (4 : Int32)) Sz3 ⟨by decide, by decide⟩
    have at3 : cl3.slots[((4 : Int32)).toNatClampNeg]? = some (.double (FP.l2d w0_)) := Hs3.at in3 rfl
    refine own_via (fun t kz => X2.daload hx (j := (4 : Int32)) (v := (.double (FP.l2d w0_))) (by rw [e2]; exact Ar3.1) (State.isArrayOf_alike hZ.alike Ar3.2.1) Ar3.2.2 in3 at3 (g := (mkF m 10 #[oR this, oI (0 : Int32)] [(.int (4 : Int32)), (.ref arr)])) rfl rfl (hb hby d4_10) t kz) ?_
    show own_Go p e below _ (T2.setTop (mkF m 11 #[oR this, oI (0 : Int32)] [(.double (FP.l2d w0_))]))
    obtain ⟨fs, hr, hrun, hended, hW, hsame⟩ := X2.leave (v := some (.double (FP.l2d w0_))) (fun h => by rw [Bd.returns] at h; cases h)
    refine ⟨_, _, retOut X2 hx (i := .dreturn) Bd.returns rfl (Or.inr (Or.inr (Or.inl ⟨rfl, rfl, _, rfl⟩))) (hb hby d4_11) hr, hrun, hended, _, _, rfl, ?_, ⟨_, rfl⟩, hW, hsame.mono (by decide) (by decide)⟩
    show Q4_4 Z this (0 : Int32) w0_ w1_ w2_ w3_ h0 n0 _ T2.heap _
    rw [e2]
    exact ⟨by unfold own_sel4; rw [if_pos (rfl : (0 : Int32) = (0 : Int32))], N0, rfl⟩
  · show own_Go p e below _ (s₁.setTop (mkF m 0 #[oR this, oI (1 : Int32)] []))
    refine own_via (fun t kz => XS.aloadN X0.here hx rfl (hb hby d4_0) rfl rfl kz) ?_
    show own_Go p e below _ (s₁.setTop (mkF m 1 #[oR this, oI (1 : Int32)] [(.ref this)]))
    obtain ⟨T5, X5, e5, st5⟩ := getF X0 hx hZ hown (host := "") (Or.inl (own_w hw 16)) Via.refl e0 Fq1 (g := (mkF m 1 #[oR this, oI (1 : Int32)] [(.ref this)])) rfl rfl (hb hby d4_1)
    refine own_via st5 ?_
    refine own_via (fun t kz => XS.aloadN X5.here hx rfl (hb hby d4_4) rfl rfl kz) ?_
    show own_Go p e below _ (T5.setTop (mkF m 5 #[oR this, oI (1 : Int32)] [(.ref this), (.ref arr)]))
    obtain ⟨T6, X6, e6, st6⟩ := getF X5 hx hZ hown (host := "") (Or.inl (own_w hw 13)) Via.refl e5 Fq0 (g := (mkF m 5 #[oR this, oI (1 : Int32)] [(.ref this), (.ref arr)])) rfl rfl (hb hby d4_5)
    refine own_via st6 ?_
    refine own_via (fun t kz => XS.iloadN X6.here hx rfl (hb hby d4_8) rfl kz) ?_
    refine own_via (fun t kz => XS.iadd X6.here hx rfl (hb hby d4_9) rfl kz) ?_
    show own_Go p e below _ (T6.setTop (mkF m 10 #[oR this, oI (1 : Int32)] [(.int (5 : Int32)), (.ref arr)]))
    obtain ⟨cl7, Ar7, kc7, Sz7, Nn7, Hs7, Gs7⟩ := id Vq
    have in7 := inb_of (j := (5 : Int32)) Sz7 ⟨by decide, by decide⟩
    have at7 : cl7.slots[((5 : Int32)).toNatClampNeg]? = some (.double (FP.l2d w1_)) := Hs7.at in7 rfl
    refine own_via (fun t kz => X6.daload hx (j := (5 : Int32)) (v := (.double (FP.l2d w1_))) (by rw [e6]; exact Ar7.1) (State.isArrayOf_alike hZ.alike Ar7.2.1) Ar7.2.2 in7 at7 (g := (mkF m 10 #[oR this, oI (1 : Int32)] [(.int (5 : Int32)), (.ref arr)])) rfl rfl (hb hby d4_10) t kz) ?_
    show own_Go p e below _ (T6.setTop (mkF m 11 #[oR this, oI (1 : Int32)] [(.double (FP.l2d w1_))]))
    obtain ⟨fs, hr, hrun, hended, hW, hsame⟩ := X6.leave (v := some (.double (FP.l2d w1_))) (fun h => by rw [Bd.returns] at h; cases h)
    refine ⟨_, _, retOut X6 hx (i := .dreturn) Bd.returns rfl (Or.inr (Or.inr (Or.inl ⟨rfl, rfl, _, rfl⟩))) (hb hby d4_11) hr, hrun, hended, _, _, rfl, ?_, ⟨_, rfl⟩, hW, hsame.mono (by decide) (by decide)⟩
    show Q4_4 Z this (1 : Int32) w0_ w1_ w2_ w3_ h0 n0 _ T6.heap _
    rw [e6]
    exact ⟨by unfold own_sel4; rw [if_neg (by decide : ¬ (1 : Int32) = (0 : Int32)), if_pos (rfl : (1 : Int32) = (1 : Int32))], N0, rfl⟩
  · show own_Go p e below _ (s₁.setTop (mkF m 0 #[oR this, oI (2 : Int32)] []))
    refine own_via (fun t kz => XS.aloadN X0.here hx rfl (hb hby d4_0) rfl rfl kz) ?_
    show own_Go p e below _ (s₁.setTop (mkF m 1 #[oR this, oI (2 : Int32)] [(.ref this)]))
    obtain ⟨T9, X9, e9, st9⟩ := getF X0 hx hZ hown (host := "") (Or.inl (own_w hw 16)) Via.refl e0 Fq1 (g := (mkF m 1 #[oR this, oI (2 : Int32)] [(.ref this)])) rfl rfl (hb hby d4_1)
    refine own_via st9 ?_
    refine own_via (fun t kz => XS.aloadN X9.here hx rfl (hb hby d4_4) rfl rfl kz) ?_
    show own_Go p e below _ (T9.setTop (mkF m 5 #[oR this, oI (2 : Int32)] [(.ref this), (.ref arr)]))
    obtain ⟨T10, X10, e10, st10⟩ := getF X9 hx hZ hown (host := "") (Or.inl (own_w hw 13)) Via.refl e9 Fq0 (g := (mkF m 5 #[oR this, oI (2 : Int32)] [(.ref this), (.ref arr)])) rfl rfl (hb hby d4_5)
    refine own_via st10 ?_
    refine own_via (fun t kz => XS.iloadN X10.here hx rfl (hb hby d4_8) rfl kz) ?_
    refine own_via (fun t kz => XS.iadd X10.here hx rfl (hb hby d4_9) rfl kz) ?_
    show own_Go p e below _ (T10.setTop (mkF m 10 #[oR this, oI (2 : Int32)] [(.int (6 : Int32)), (.ref arr)]))
    obtain ⟨cl11, Ar11, kc11, Sz11, Nn11, Hs11, Gs11⟩ := id Vq
    have in11 := inb_of (j := (6 : Int32)) Sz11 ⟨by decide, by decide⟩
    have at11 : cl11.slots[((6 : Int32)).toNatClampNeg]? = some (.double (FP.l2d w2_)) := Hs11.at in11 rfl
    refine own_via (fun t kz => X10.daload hx (j := (6 : Int32)) (v := (.double (FP.l2d w2_))) (by rw [e10]; exact Ar11.1) (State.isArrayOf_alike hZ.alike Ar11.2.1) Ar11.2.2 in11 at11 (g := (mkF m 10 #[oR this, oI (2 : Int32)] [(.int (6 : Int32)), (.ref arr)])) rfl rfl (hb hby d4_10) t kz) ?_
    show own_Go p e below _ (T10.setTop (mkF m 11 #[oR this, oI (2 : Int32)] [(.double (FP.l2d w2_))]))
    obtain ⟨fs, hr, hrun, hended, hW, hsame⟩ := X10.leave (v := some (.double (FP.l2d w2_))) (fun h => by rw [Bd.returns] at h; cases h)
    refine ⟨_, _, retOut X10 hx (i := .dreturn) Bd.returns rfl (Or.inr (Or.inr (Or.inl ⟨rfl, rfl, _, rfl⟩))) (hb hby d4_11) hr, hrun, hended, _, _, rfl, ?_, ⟨_, rfl⟩, hW, hsame.mono (by decide) (by decide)⟩
    show Q4_4 Z this (2 : Int32) w0_ w1_ w2_ w3_ h0 n0 _ T10.heap _
    rw [e10]
    exact ⟨by unfold own_sel4; rw [if_neg (by decide : ¬ (2 : Int32) = (0 : Int32)), if_neg (by decide : ¬ (2 : Int32) = (1 : Int32)), if_pos (rfl : (2 : Int32) = (2 : Int32))], N0, rfl⟩
  · show own_Go p e below _ (s₁.setTop (mkF m 0 #[oR this, oI (3 : Int32)] []))
    refine own_via (fun t kz => XS.aloadN X0.here hx rfl (hb hby d4_0) rfl rfl kz) ?_
    show own_Go p e below _ (s₁.setTop (mkF m 1 #[oR this, oI (3 : Int32)] [(.ref this)]))
    obtain ⟨T13, X13, e13, st13⟩ := getF X0 hx hZ hown (host := "") (Or.inl (own_w hw 16)) Via.refl e0 Fq1 (g := (mkF m 1 #[oR this, oI (3 : Int32)] [(.ref this)])) rfl rfl (hb hby d4_1)
    refine own_via st13 ?_
    refine own_via (fun t kz => XS.aloadN X13.here hx rfl (hb hby d4_4) rfl rfl kz) ?_
    show own_Go p e below _ (T13.setTop (mkF m 5 #[oR this, oI (3 : Int32)] [(.ref this), (.ref arr)]))
    obtain ⟨T14, X14, e14, st14⟩ := getF X13 hx hZ hown (host := "") (Or.inl (own_w hw 13)) Via.refl e13 Fq0 (g := (mkF m 5 #[oR this, oI (3 : Int32)] [(.ref this), (.ref arr)])) rfl rfl (hb hby d4_5)
    refine own_via st14 ?_
    refine own_via (fun t kz => XS.iloadN X14.here hx rfl (hb hby d4_8) rfl kz) ?_
    refine own_via (fun t kz => XS.iadd X14.here hx rfl (hb hby d4_9) rfl kz) ?_
    show own_Go p e below _ (T14.setTop (mkF m 10 #[oR this, oI (3 : Int32)] [(.int (7 : Int32)), (.ref arr)]))
    obtain ⟨cl15, Ar15, kc15, Sz15, Nn15, Hs15, Gs15⟩ := id Vq
    have in15 := inb_of (j := (7 : Int32)) Sz15 ⟨by decide, by decide⟩
    have at15 : cl15.slots[((7 : Int32)).toNatClampNeg]? = some (.double (FP.l2d w3_)) := Hs15.at in15 rfl
    refine own_via (fun t kz => X14.daload hx (j := (7 : Int32)) (v := (.double (FP.l2d w3_))) (by rw [e14]; exact Ar15.1) (State.isArrayOf_alike hZ.alike Ar15.2.1) Ar15.2.2 in15 at15 (g := (mkF m 10 #[oR this, oI (3 : Int32)] [(.int (7 : Int32)), (.ref arr)])) rfl rfl (hb hby d4_10) t kz) ?_
    show own_Go p e below _ (T14.setTop (mkF m 11 #[oR this, oI (3 : Int32)] [(.double (FP.l2d w3_))]))
    obtain ⟨fs, hr, hrun, hended, hW, hsame⟩ := X14.leave (v := some (.double (FP.l2d w3_))) (fun h => by rw [Bd.returns] at h; cases h)
    refine ⟨_, _, retOut X14 hx (i := .dreturn) Bd.returns rfl (Or.inr (Or.inr (Or.inl ⟨rfl, rfl, _, rfl⟩))) (hb hby d4_11) hr, hrun, hended, _, _, rfl, ?_, ⟨_, rfl⟩, hW, hsame.mono (by decide) (by decide)⟩
    show Q4_4 Z this (3 : Int32) w0_ w1_ w2_ w3_ h0 n0 _ T14.heap _
    rw [e14]
    exact ⟨by unfold own_sel4; rw [if_neg (by decide : ¬ (3 : Int32) = (0 : Int32)), if_neg (by decide : ¬ (3 : Int32) = (1 : Int32)), if_neg (by decide : ¬ (3 : Int32) = (2 : Int32))], N0, rfl⟩
theorem ef_rm6_4 (m : MethodId) (q0 : Addr) : entryFrame m #[(.ref q0)] 1 = mkF m 0 #[oR q0] [] := by first | (simp [entryFrame, mkF, argsToLocals, Value.category]; done) | rfl
def Q6_4 (Z : State) (this : Addr) (w0_ : Int64) (w1_ : Int64) (w2_ : Int64) (w3_ : Int64) (h0 : Heap) (n0 : Nat) (v : Option Value) (h : Heap) (L : List Loc) : Prop := v = some (.double (FP.l2d ((w0_ + w1_) + (w2_ + w3_)))) ∧ Fr n0 L ∧ h = h0
set_option maxRecDepth 65536 in
set_option maxHeartbeats 40000000 in
theorem rm6_4 (l : Launch) (Z : State) (a0 : Array Value) (hw : ∀ d ∈ tables_1, d.before a0 Z = true) (ws : List Jvm.Cond) (this : Addr) (w0_ : Int64) (w1_ : Int64) (w2_ : Int64) (w3_ : Int64) (h0 : Heap) (n0 : Nat) (Z0 : n0 ≤ h0.size) (TC : own_W4 Z h0 n0 this w0_ w1_ w2_ w3_) :
    MetFree l (⟨"com/example/coupewise/coupewise/WeightedDraw", "total", "()D"⟩ : MethodName) (head1 (Jvm.Cond.code (⟨"com/example/coupewise/coupewise/WeightedDraw", "total", "()D"⟩ : MethodName) prog_11_method_5_code 1 (some .double) :: ws) ({ frames := 0, cells := 0, slots := 0, locals := 0 } : Room)) (fun a U => a = #[(.ref this)] ∧ Z.Warmed39 U.vm ∧ U.heap = h0) (fun _ _ _ _ _ => True) (fun _ U o U' => ∃ v L, o = .returned v ∧ Q6_4 Z this w0_ w1_ w2_ w3_ h0 n0 v U'.heap L ∧ FrameEnd U o U' L ({ frames := 0, cells := 0, slots := 0, locals := 0 } : Room).cells ({ frames := 0, cells := 0, slots := 0, locals := 0 } : Room).slots) := by
  refine MetFree.of_bodySF (plainFor_of_name pn_1) hisR ?_
  intro p e s m args below meth c s₁ Bd hml0 hP hK
  obtain ⟨rfl, hZ, hh⟩ := hP
  have hx := Bd.exec
  have hby := Bd.bytes
  have hml : c.maxLocals = 1 := hml0
  have hown : s.vm.findClass "com/example/coupewise/coupewise/WeightedDraw" = some m.cls := findClass_of_methodNamed Bd.named
  have hnm := (name_of_methodNamed Bd.named Bd.method).1
  have X0 : Stand p l e ({ frames := 0, cells := 0, slots := 0, locals := 0 } : Room) s m #[(.ref this)] below meth c s₁ [] 0 0 := Stand.of_body Bd
  have e0 : s₁.heap = h0 := by rw [← hh, Bd.state]; rfl
  have N0 := Fr.nil n0
  refine own_start ?_
  refine own_via (fun t k => castTop (ef_rm6_4 m this) k) ?_
  obtain ⟨arr, kA, ⟨ch0, ch1⟩, Eq, Fq0, Fq1, Vq⟩ := TC
  show own_Go p e below _ (s₁.setTop (mkF m 0 #[oR this] []))
  refine own_via (fun t kz => XS.aloadN X0.here hx rfl (hb hby d6_0) rfl rfl kz) ?_
  show own_Go p e below _ (s₁.setTop (mkF m 1 #[oR this] [(.ref this)]))
  obtain ⟨T1, X1, e1, st1⟩ := getF X0 hx hZ hown (host := "") (Or.inl (own_w hw 16)) Via.refl e0 Fq1 (g := (mkF m 1 #[oR this] [(.ref this)])) rfl rfl (hb hby d6_1)
  refine own_via st1 ?_
  refine own_via (fun t kz => XS.iconst X1.here hx rfl (hb hby d6_4) kz) ?_
  show own_Go p e below _ (T1.setTop (mkF m 5 #[oR this] [(.int (1 : Int32)), (.ref arr)]))
  obtain ⟨cl2, Ar2, kc2, Sz2, Nn2, Hs2, Gs2⟩ := id Vq
  have in2 := inb_of (j := (1 : Int32)) Sz2 ⟨by decide, by decide⟩
  have at2 : cl2.slots[((1 : Int32)).toNatClampNeg]? = some (.double (FP.l2d ((w0_ + w1_) + (w2_ + w3_)))) := Hs2.at in2 rfl
  refine own_via (fun t kz => X1.daload hx (j := (1 : Int32)) (v := (.double (FP.l2d ((w0_ + w1_) + (w2_ + w3_))))) (by rw [e1]; exact Ar2.1) (State.isArrayOf_alike hZ.alike Ar2.2.1) Ar2.2.2 in2 at2 (g := (mkF m 5 #[oR this] [(.int (1 : Int32)), (.ref arr)])) rfl rfl (hb hby d6_5) t kz) ?_
  show own_Go p e below _ (T1.setTop (mkF m 6 #[oR this] [(.double (FP.l2d ((w0_ + w1_) + (w2_ + w3_))))]))
  obtain ⟨fs, hr, hrun, hended, hW, hsame⟩ := X1.leave (v := some (.double (FP.l2d ((w0_ + w1_) + (w2_ + w3_))))) (fun h => by rw [Bd.returns] at h; cases h)
  refine ⟨_, _, retOut X1 hx (i := .dreturn) Bd.returns rfl (Or.inr (Or.inr (Or.inl ⟨rfl, rfl, _, rfl⟩))) (hb hby d6_6) hr, hrun, hended, _, _, rfl, ?_, ⟨_, rfl⟩, hW, hsame.mono (by decide) (by decide)⟩
  show Q6_4 Z this w0_ w1_ w2_ w3_ h0 n0 _ T1.heap _
  rw [e1]
  exact ⟨rfl, N0, rfl⟩
def own_W8 (Z : State) (h : Heap) (n0 : Nat) (this : Addr) (w0_ w1_ w2_ w3_ w4_ w5_ w6_ w7_ : Int64) : Prop := ∃ (arr : Addr) (k : ClassId), (n0 ≤ this ∧ @LT.lt Nat instLTNat this arr) ∧ Exa Z h this "com/example/coupewise/coupewise/WeightedDraw" ∧ Fld Z h this "com/example/coupewise/coupewise/WeightedDraw" "leaves" "I" (.int (8 : Int32)) ∧ Fld Z h this "com/example/coupewise/coupewise/WeightedDraw" "sums" "[D" (.ref arr) ∧ Arv Z h arr k .double (16 : Int32) [(.double (FP.l2d (0 : Int64))), (.double (FP.l2d (((w0_ + w1_) + (w2_ + w3_)) + ((w4_ + w5_) + (w6_ + w7_))))), (.double (FP.l2d ((w0_ + w1_) + (w2_ + w3_)))), (.double (FP.l2d ((w4_ + w5_) + (w6_ + w7_)))), (.double (FP.l2d (w0_ + w1_))), (.double (FP.l2d (w2_ + w3_))), (.double (FP.l2d (w4_ + w5_))), (.double (FP.l2d (w6_ + w7_))), (.double (FP.l2d w0_)), (.double (FP.l2d w1_)), (.double (FP.l2d w2_)), (.double (FP.l2d w3_)), (.double (FP.l2d w4_)), (.double (FP.l2d w5_)), (.double (FP.l2d w6_)), (.double (FP.l2d w7_))] (.double (FP.l2d (0 : Int64)))
theorem own_exa8 {Z : State} {h : Heap} {n0 : Nat} {this : Addr} {w0_ w1_ w2_ w3_ w4_ w5_ w6_ w7_ : Int64} (H : own_W8 Z h n0 this w0_ w1_ w2_ w3_ w4_ w5_ w6_ w7_) : Exa Z h this "com/example/coupewise/coupewise/WeightedDraw" := by
  obtain ⟨_, _, -, E, -⟩ := H
  exact E
def own_sel8 (p : Int32) (w0_ w1_ w2_ w3_ w4_ w5_ w6_ w7_ : Int64) : Int64 := if p = 0 then w0_ else if p = 1 then w1_ else if p = 2 then w2_ else if p = 3 then w3_ else if p = 4 then w4_ else if p = 5 then w5_ else if p = 6 then w6_ else w7_
theorem ef_rm1_8 (m : MethodId) (q0 : Addr) (q1 : Int32) : entryFrame m #[(.ref q0), (.int q1)] 3 = mkF m 0 #[oR q0, oI q1, .unset] [] := by first | (simp [entryFrame, mkF, argsToLocals, Value.category]; done) | rfl
def Q1_8 (Z : State) (this : Addr) (p1 : Int32) (h0 : Heap) (n0 : Nat) (v : Option Value) (h : Heap) (L : List Loc) : Prop := v = none ∧ Fr n0 L ∧ n0 ≤ h.size ∧ own_W8 Z h n0 this 0 0 0 0 0 0 0 0
set_option maxRecDepth 65536 in
set_option maxHeartbeats 40000000 in
theorem rm1_8 (l : Launch) (Z : State) (a0 : Array Value) (hw : ∀ d ∈ tables_1, d.before a0 Z = true) (ws : List Jvm.Cond) (this : Addr) (p1 : Int32) (h0 : Heap) (n0 : Nat) (Z0 : n0 ≤ h0.size) (g_this : n0 ≤ this) (E_this : Exa Z h0 this "com/example/coupewise/coupewise/WeightedDraw") (F_size : Fld Z h0 this "com/example/coupewise/coupewise/WeightedDraw" "size" "I" (.int (0 : Int32))) (F_leaves : Fld Z h0 this "com/example/coupewise/coupewise/WeightedDraw" "leaves" "I" (.int (0 : Int32))) (F_sums : Fld Z h0 this "com/example/coupewise/coupewise/WeightedDraw" "sums" "[D" .null) (hs : p1 = 5 ∨ p1 = 6 ∨ p1 = 7 ∨ p1 = 8) :
    MetFree l (⟨"com/example/coupewise/coupewise/WeightedDraw", "<init>", "(I)V"⟩ : MethodName) (head1 (Jvm.Cond.code (⟨"com/example/coupewise/coupewise/WeightedDraw", "<init>", "(I)V"⟩ : MethodName) prog_11_method_1_code 3 none :: ws) ({ frames := 1, cells := 1, slots := 16, locals := 12 } : Room)) (fun a U => a = #[(.ref this), (.int p1)] ∧ Z.Warmed39 U.vm ∧ U.heap = h0) (fun _ _ _ _ _ => True) (fun _ U o U' => ∃ v L, o = .returned v ∧ Q1_8 Z this p1 h0 n0 v U'.heap L ∧ FrameEnd U o U' L ({ frames := 1, cells := 1, slots := 16, locals := 12 } : Room).cells ({ frames := 1, cells := 1, slots := 16, locals := 12 } : Room).slots) := by
  refine MetFree.of_bodySF (plainFor_of_name pn_1) hisR ?_
  intro p e s m args below meth c s₁ Bd hml0 hP hK
  obtain ⟨rfl, hZ, hh⟩ := hP
  have hx := Bd.exec
  have hby := Bd.bytes
  have hml : c.maxLocals = 3 := hml0
  have hown : s.vm.findClass "com/example/coupewise/coupewise/WeightedDraw" = some m.cls := findClass_of_methodNamed Bd.named
  have hnm := (name_of_methodNamed Bd.named Bd.method).1
  have X0 : Stand p l e ({ frames := 1, cells := 1, slots := 16, locals := 12 } : Room) s m #[(.ref this), (.int p1)] below meth c s₁ [] 0 0 := Stand.of_body Bd
  have e0 : s₁.heap = h0 := by rw [← hh, Bd.state]; rfl
  have N0 := Fr.nil n0
  refine own_start ?_
  refine own_via (fun t k => castTop (ef_rm1_8 m this p1) k) ?_
  rcases hs with rfl | rfl | rfl | rfl
  · show own_Go p e below _ (s₁.setTop (mkF m 0 #[oR this, oI (5 : Int32), .unset] []))
    refine own_via (fun t kz => XS.aloadN X0.here hx rfl (hb hby d1_0) rfl rfl kz) ?_
    show own_Go p e below _ (s₁.setTop (mkF m 1 #[oR this, oI (5 : Int32), .unset] [(.ref this)]))
    obtain ⟨T1, X1, e1, st1⟩ := initO X0 hx hZ hown (own_w hw 8) (own_w hw 9) (own_w hw 10) e0 (g := (mkF m 1 #[oR this, oI (5 : Int32), .unset] [(.ref this)])) rfl (by rw [hml]; rfl) rfl (hb hby d1_1) (by decide) (W := 0) (by show 2 * 0 + _ ≤ _; exact Nat.le_of_eq rfl) (by decide)
    refine own_via st1 ?_
    refine own_via (fun t kz => XS.aloadN X1.here hx rfl (hb hby d1_4) rfl rfl kz) ?_
    refine own_via (fun t kz => XS.iloadN X1.here hx rfl (hb hby d1_5) rfl kz) ?_
    show own_Go p e below _ (T1.setTop (mkF m 6 #[oR this, oI (5 : Int32), .unset] [(.int (5 : Int32)), (.ref this)]))
    obtain ⟨T2, h2, X2, e2, W2, st2⟩ := putF X1 hx hZ hown (host := "") (Or.inl (own_w hw 11)) Via.refl e1 F_size E_this (Or.inr ⟨(own_w hw 12), rfl, hnm⟩) (own_w hw 3) (ty := .int) (by decide) rfl rfl (g := (mkF m 6 #[oR this, oI (5 : Int32), .unset] [(.int (5 : Int32)), (.ref this)])) rfl rfl (hb hby d1_6)
    refine own_via st2 ?_
    have E3 := E_this.wr W2
    have F4 := F_size.same W2
    have F5 := F_leaves.other W2 (Or.inr (slot_ne (Or.inr (own_w hw 14)) (Or.inr (own_w hw 12)) (by decide) (t := .int) (t' := .int) (by decide) (by decide)))
    have F6 := F_sums.other W2 (Or.inr (slot_ne (Or.inr (own_w hw 17)) (Or.inr (own_w hw 12)) (by decide) (t := (.array .double)) (t' := .int) (by decide) (by decide)))
    have Zs7 : n0 ≤ h2.size := Nat.le_trans Z0 (Keep.of_wr W2).1
    have N8 := Fr.snoc X2 N0 g_this
    refine own_via (fun t kz => XS.iconst X2.here hx rfl (hb hby d1_9) kz) ?_
    refine own_via (fun t kz => XS.istoreN X2.here hx rfl (hb hby d1_10) rfl (l' := #[oR this, oI (5 : Int32), oI (1 : Int32)]) rfl kz) ?_
    refine own_via (fun t kz => XS.iloadN X2.here hx rfl (hb hby d1_11) rfl kz) ?_
    show own_Go p e below _ (T2.setTop (mkF m 12 #[oR this, oI (5 : Int32), oI (1 : Int32)] [(.int (1 : Int32))]))
    refine own_via (fun t kz => XS.iloadN X2.here hx rfl (hb hby d1_12) rfl kz) ?_
    show own_Go p e below _ (T2.setTop (mkF m 13 #[oR this, oI (5 : Int32), oI (1 : Int32)] [(.int (5 : Int32)), (.int (1 : Int32))]))
    refine own_via (fun t kz => XS.icmpNo X2.here hx rfl (hb hby d1_13) rfl (tlt (by decide : (1 : Int32) < (5 : Int32))).2.1 kz) ?_
    refine own_via (fun t kz => XS.iloadN X2.here hx rfl (hb hby d1_16) rfl kz) ?_
    refine own_via (fun t kz => XS.iconst X2.here hx rfl (hb hby d1_17) kz) ?_
    refine own_via (fun t kz => XS.imul X2.here hx rfl (hb hby d1_18) rfl kz) ?_
    show own_Go p e below _ (T2.setTop (mkF m 19 #[oR this, oI (5 : Int32), oI (1 : Int32)] [(.int (2 : Int32))]))
    refine own_via (fun t kz => XS.istoreN X2.here hx rfl (hb hby d1_19) rfl (l' := #[oR this, oI (5 : Int32), oI (2 : Int32)]) rfl kz) ?_
    refine own_via (fun t kz => XS.goto X2.here hx rfl (pc0 := 20) (pc' := 11) rfl (hb hby d1_20) (by decide) (by decide) kz) ?_
    refine own_via (fun t kz => XS.iloadN X2.here hx rfl (hb hby d1_11) rfl kz) ?_
    refine own_via (fun t kz => XS.iloadN X2.here hx rfl (hb hby d1_12) rfl kz) ?_
    show own_Go p e below _ (T2.setTop (mkF m 13 #[oR this, oI (5 : Int32), oI (2 : Int32)] [(.int (5 : Int32)), (.int (2 : Int32))]))
    refine own_via (fun t kz => XS.icmpNo X2.here hx rfl (hb hby d1_13) rfl (tlt (by decide : (2 : Int32) < (5 : Int32))).2.1 kz) ?_
    refine own_via (fun t kz => XS.iloadN X2.here hx rfl (hb hby d1_16) rfl kz) ?_
    refine own_via (fun t kz => XS.iconst X2.here hx rfl (hb hby d1_17) kz) ?_
    refine own_via (fun t kz => XS.imul X2.here hx rfl (hb hby d1_18) rfl kz) ?_
    show own_Go p e below _ (T2.setTop (mkF m 19 #[oR this, oI (5 : Int32), oI (2 : Int32)] [(.int (4 : Int32))]))
    refine own_via (fun t kz => XS.istoreN X2.here hx rfl (hb hby d1_19) rfl (l' := #[oR this, oI (5 : Int32), oI (4 : Int32)]) rfl kz) ?_
    refine own_via (fun t kz => XS.goto X2.here hx rfl (pc0 := 20) (pc' := 11) rfl (hb hby d1_20) (by decide) (by decide) kz) ?_
    refine own_via (fun t kz => XS.iloadN X2.here hx rfl (hb hby d1_11) rfl kz) ?_
    refine own_via (fun t kz => XS.iloadN X2.here hx rfl (hb hby d1_12) rfl kz) ?_
    show own_Go p e below _ (T2.setTop (mkF m 13 #[oR this, oI (5 : Int32), oI (4 : Int32)] [(.int (5 : Int32)), (.int (4 : Int32))]))
    refine own_via (fun t kz => XS.icmpNo X2.here hx rfl (hb hby d1_13) rfl (tlt (by decide : (4 : Int32) < (5 : Int32))).2.1 kz) ?_
    refine own_via (fun t kz => XS.iloadN X2.here hx rfl (hb hby d1_16) rfl kz) ?_
    refine own_via (fun t kz => XS.iconst X2.here hx rfl (hb hby d1_17) kz) ?_
    refine own_via (fun t kz => XS.imul X2.here hx rfl (hb hby d1_18) rfl kz) ?_
    show own_Go p e below _ (T2.setTop (mkF m 19 #[oR this, oI (5 : Int32), oI (4 : Int32)] [(.int (8 : Int32))]))
    refine own_via (fun t kz => XS.istoreN X2.here hx rfl (hb hby d1_19) rfl (l' := #[oR this, oI (5 : Int32), oI (8 : Int32)]) rfl kz) ?_
    refine own_via (fun t kz => XS.goto X2.here hx rfl (pc0 := 20) (pc' := 11) rfl (hb hby d1_20) (by decide) (by decide) kz) ?_
    refine own_via (fun t kz => XS.iloadN X2.here hx rfl (hb hby d1_11) rfl kz) ?_
    refine own_via (fun t kz => XS.iloadN X2.here hx rfl (hb hby d1_12) rfl kz) ?_
    show own_Go p e below _ (T2.setTop (mkF m 13 #[oR this, oI (5 : Int32), oI (8 : Int32)] [(.int (5 : Int32)), (.int (8 : Int32))]))
    refine own_via (fun t kz => XS.icmpYes X2.here hx rfl (pc0 := 13) (pc' := 23) rfl (hb hby d1_13) rfl (flt (by decide : ¬ ((8 : Int32) < (5 : Int32)))).2.1 (by decide) (by decide) kz) ?_
    refine own_via (fun t kz => XS.aloadN X2.here hx rfl (hb hby d1_23) rfl rfl kz) ?_
    refine own_via (fun t kz => XS.iloadN X2.here hx rfl (hb hby d1_24) rfl kz) ?_
    show own_Go p e below _ (T2.setTop (mkF m 25 #[oR this, oI (5 : Int32), oI (8 : Int32)] [(.int (8 : Int32)), (.ref this)]))
    obtain ⟨T9, h9, X9, e9, W9, st9⟩ := putF X2 hx hZ hown (host := "") (Or.inl (own_w hw 13)) Via.refl e2 F5 E3 (Or.inr ⟨(own_w hw 14), rfl, hnm⟩) (own_w hw 3) (ty := .int) (by decide) rfl rfl (g := (mkF m 25 #[oR this, oI (5 : Int32), oI (8 : Int32)] [(.int (8 : Int32)), (.ref this)])) rfl rfl (hb hby d1_25)
    refine own_via st9 ?_
    have E10 := E3.wr W9
    have F11 := F4.other W9 (Or.inr (slot_ne (Or.inr (own_w hw 12)) (Or.inr (own_w hw 14)) (by decide) (t := .int) (t' := .int) (by decide) (by decide)))
    have F12 := F5.same W9
    have F13 := F6.other W9 (Or.inr (slot_ne (Or.inr (own_w hw 17)) (Or.inr (own_w hw 14)) (by decide) (t := (.array .double)) (t' := .int) (by decide) (by decide)))
    have Zs14 : n0 ≤ h9.size := Nat.le_trans Zs7 (Keep.of_wr W9).1
    have N15 := Fr.snoc X9 N8 g_this
    refine own_via (fun t kz => XS.aloadN X9.here hx rfl (hb hby d1_28) rfl rfl kz) ?_
    refine own_via (fun t kz => XS.iconst X9.here hx rfl (hb hby d1_29) kz) ?_
    refine own_via (fun t kz => XS.iloadN X9.here hx rfl (hb hby d1_30) rfl kz) ?_
    show own_Go p e below _ (T9.setTop (mkF m 31 #[oR this, oI (5 : Int32), oI (8 : Int32)] [(.int (8 : Int32)), (.int (2 : Int32)), (.ref this)]))
    refine own_via (fun t kz => XS.imul X9.here hx rfl (hb hby d1_31) rfl kz) ?_
    show own_Go p e below _ (T9.setTop (mkF m 32 #[oR this, oI (5 : Int32), oI (8 : Int32)] [(.int (16 : Int32)), (.ref this)]))
    obtain ⟨T16, h16, k16, X16, e16, E16, A16, st16⟩ := newP X9 hx hZ (aty := .double) (own_w hw 15) e9 (g := (mkF m 32 #[oR this, oI (5 : Int32), oI (8 : Int32)] [(.int (16 : Int32)), (.ref this)])) rfl (hb hby d1_32) rfl (by decide) (cap := 16) (by decide) (by decide) (by decide) (by decide)
    obtain ⟨a16, g16⟩ : ∃ z, z = h9.size := ⟨_, rfl⟩
    rw [← g16] at A16 st16
    refine own_via st16 ?_
    have lt17 : this < a16 := Nat.lt_of_lt_of_le E10.lt (Nat.le_of_eq g16.symm)
    have fr18 : n0 ≤ a16 := Nat.le_trans Zs14 (Nat.le_of_eq g16.symm)
    have E19 := E10.ext E16
    have F20 := F11.ext E16
    have F21 := F12.ext E16
    have F22 := F13.ext E16
    have Zs23 : n0 ≤ h16.size := Nat.le_trans Zs14 E16.1
    have V24 : Arv Z h16 a16 k16 .double (16 : Int32) [(.double (FP.l2d (0 : Int64))), (.double (FP.l2d (0 : Int64))), (.double (FP.l2d (0 : Int64))), (.double (FP.l2d (0 : Int64))), (.double (FP.l2d (0 : Int64))), (.double (FP.l2d (0 : Int64))), (.double (FP.l2d (0 : Int64))), (.double (FP.l2d (0 : Int64))), (.double (FP.l2d (0 : Int64))), (.double (FP.l2d (0 : Int64))), (.double (FP.l2d (0 : Int64))), (.double (FP.l2d (0 : Int64))), (.double (FP.l2d (0 : Int64))), (.double (FP.l2d (0 : Int64))), (.double (FP.l2d (0 : Int64))), (.double (FP.l2d (0 : Int64)))] (.double (FP.l2d (0 : Int64))) := (Arv.newD A16 (by decide)).pad (pad_rep [] (.double (FP.l2d (0 : Int64))) 16)
    show own_Go p e below _ (T16.setTop (mkF m 34 #[oR this, oI (5 : Int32), oI (8 : Int32)] [(.ref a16), (.ref this)]))
    obtain ⟨T25, h25, X25, e25, W25, st25⟩ := putF X16 hx hZ hown (host := "") (Or.inl (own_w hw 16)) Via.refl e16 F22 E19 (Or.inr ⟨(own_w hw 17), rfl, hnm⟩) (own_w hw 3) (ty := (.array .double)) (by decide) rfl rfl (g := (mkF m 34 #[oR this, oI (5 : Int32), oI (8 : Int32)] [(.ref a16), (.ref this)])) rfl rfl (hb hby d1_34)
    refine own_via st25 ?_
    have E26 := E19.wr W25
    have F27 := F20.other W25 (Or.inr (slot_ne (Or.inr (own_w hw 12)) (Or.inr (own_w hw 17)) (by decide) (t := .int) (t' := (.array .double)) (by decide) (by decide)))
    have F28 := F21.other W25 (Or.inr (slot_ne (Or.inr (own_w hw 14)) (Or.inr (own_w hw 17)) (by decide) (t := .int) (t' := (.array .double)) (by decide) (by decide)))
    have F29 := F22.same W25
    have V30 := V24.other W25 (Ne.symm (Nat.ne_of_lt lt17))
    have Zs31 : n0 ≤ h25.size := Nat.le_trans Zs23 (Keep.of_wr W25).1
    have N32 := Fr.snoc X25 N15 g_this
    show own_Go p e below _ (T25.setTop (mkF m 37 #[oR this, oI (5 : Int32), oI (8 : Int32)] []))
    obtain ⟨fs, hr, hrun, hended, hW, hsame⟩ := X25.leave (v := none) (fun _ => rfl)
    refine ⟨_, _, X25.returnOut hx Bd.returns (hb hby d1_37) hr, hrun, hended, _, _, rfl, ?_, ⟨_, rfl⟩, hW, hsame.mono (by decide) (by decide)⟩
    show Q1_8 Z this (5 : Int32) h0 n0 _ T25.heap _
    rw [e25]
    exact ⟨rfl, N32, Zs31, a16, k16, ⟨g_this, lt17⟩, E26, F28, F29, V30⟩
  · show own_Go p e below _ (s₁.setTop (mkF m 0 #[oR this, oI (6 : Int32), .unset] []))
    refine own_via (fun t kz => XS.aloadN X0.here hx rfl (hb hby d1_0) rfl rfl kz) ?_
    show own_Go p e below _ (s₁.setTop (mkF m 1 #[oR this, oI (6 : Int32), .unset] [(.ref this)]))
    obtain ⟨T34, X34, e34, st34⟩ := initO X0 hx hZ hown (own_w hw 8) (own_w hw 9) (own_w hw 10) e0 (g := (mkF m 1 #[oR this, oI (6 : Int32), .unset] [(.ref this)])) rfl (by rw [hml]; rfl) rfl (hb hby d1_1) (by decide) (W := 0) (by show 2 * 0 + _ ≤ _; exact Nat.le_of_eq rfl) (by decide)
    refine own_via st34 ?_
    refine own_via (fun t kz => XS.aloadN X34.here hx rfl (hb hby d1_4) rfl rfl kz) ?_
    refine own_via (fun t kz => XS.iloadN X34.here hx rfl (hb hby d1_5) rfl kz) ?_
    show own_Go p e below _ (T34.setTop (mkF m 6 #[oR this, oI (6 : Int32), .unset] [(.int (6 : Int32)), (.ref this)]))
    obtain ⟨T35, h35, X35, e35, W35, st35⟩ := putF X34 hx hZ hown (host := "") (Or.inl (own_w hw 11)) Via.refl e34 F_size E_this (Or.inr ⟨(own_w hw 12), rfl, hnm⟩) (own_w hw 3) (ty := .int) (by decide) rfl rfl (g := (mkF m 6 #[oR this, oI (6 : Int32), .unset] [(.int (6 : Int32)), (.ref this)])) rfl rfl (hb hby d1_6)
    refine own_via st35 ?_
    have E36 := E_this.wr W35
    have F37 := F_size.same W35
    have F38 := F_leaves.other W35 (Or.inr (slot_ne (Or.inr (own_w hw 14)) (Or.inr (own_w hw 12)) (by decide) (t := .int) (t' := .int) (by decide) (by decide)))
    have F39 := F_sums.other W35 (Or.inr (slot_ne (Or.inr (own_w hw 17)) (Or.inr (own_w hw 12)) (by decide) (t := (.array .double)) (t' := .int) (by decide) (by decide)))
    have Zs40 : n0 ≤ h35.size := Nat.le_trans Z0 (Keep.of_wr W35).1
    have N41 := Fr.snoc X35 N0 g_this
    refine own_via (fun t kz => XS.iconst X35.here hx rfl (hb hby d1_9) kz) ?_
    refine own_via (fun t kz => XS.istoreN X35.here hx rfl (hb hby d1_10) rfl (l' := #[oR this, oI (6 : Int32), oI (1 : Int32)]) rfl kz) ?_
    refine own_via (fun t kz => XS.iloadN X35.here hx rfl (hb hby d1_11) rfl kz) ?_
    show own_Go p e below _ (T35.setTop (mkF m 12 #[oR this, oI (6 : Int32), oI (1 : Int32)] [(.int (1 : Int32))]))
    refine own_via (fun t kz => XS.iloadN X35.here hx rfl (hb hby d1_12) rfl kz) ?_
    show own_Go p e below _ (T35.setTop (mkF m 13 #[oR this, oI (6 : Int32), oI (1 : Int32)] [(.int (6 : Int32)), (.int (1 : Int32))]))
    refine own_via (fun t kz => XS.icmpNo X35.here hx rfl (hb hby d1_13) rfl (tlt (by decide : (1 : Int32) < (6 : Int32))).2.1 kz) ?_
    refine own_via (fun t kz => XS.iloadN X35.here hx rfl (hb hby d1_16) rfl kz) ?_
    refine own_via (fun t kz => XS.iconst X35.here hx rfl (hb hby d1_17) kz) ?_
    refine own_via (fun t kz => XS.imul X35.here hx rfl (hb hby d1_18) rfl kz) ?_
    show own_Go p e below _ (T35.setTop (mkF m 19 #[oR this, oI (6 : Int32), oI (1 : Int32)] [(.int (2 : Int32))]))
    refine own_via (fun t kz => XS.istoreN X35.here hx rfl (hb hby d1_19) rfl (l' := #[oR this, oI (6 : Int32), oI (2 : Int32)]) rfl kz) ?_
    refine own_via (fun t kz => XS.goto X35.here hx rfl (pc0 := 20) (pc' := 11) rfl (hb hby d1_20) (by decide) (by decide) kz) ?_
    refine own_via (fun t kz => XS.iloadN X35.here hx rfl (hb hby d1_11) rfl kz) ?_
    refine own_via (fun t kz => XS.iloadN X35.here hx rfl (hb hby d1_12) rfl kz) ?_
    show own_Go p e below _ (T35.setTop (mkF m 13 #[oR this, oI (6 : Int32), oI (2 : Int32)] [(.int (6 : Int32)), (.int (2 : Int32))]))
    refine own_via (fun t kz => XS.icmpNo X35.here hx rfl (hb hby d1_13) rfl (tlt (by decide : (2 : Int32) < (6 : Int32))).2.1 kz) ?_
    refine own_via (fun t kz => XS.iloadN X35.here hx rfl (hb hby d1_16) rfl kz) ?_
    refine own_via (fun t kz => XS.iconst X35.here hx rfl (hb hby d1_17) kz) ?_
    refine own_via (fun t kz => XS.imul X35.here hx rfl (hb hby d1_18) rfl kz) ?_
    show own_Go p e below _ (T35.setTop (mkF m 19 #[oR this, oI (6 : Int32), oI (2 : Int32)] [(.int (4 : Int32))]))
    refine own_via (fun t kz => XS.istoreN X35.here hx rfl (hb hby d1_19) rfl (l' := #[oR this, oI (6 : Int32), oI (4 : Int32)]) rfl kz) ?_
    refine own_via (fun t kz => XS.goto X35.here hx rfl (pc0 := 20) (pc' := 11) rfl (hb hby d1_20) (by decide) (by decide) kz) ?_
    refine own_via (fun t kz => XS.iloadN X35.here hx rfl (hb hby d1_11) rfl kz) ?_
    refine own_via (fun t kz => XS.iloadN X35.here hx rfl (hb hby d1_12) rfl kz) ?_
    show own_Go p e below _ (T35.setTop (mkF m 13 #[oR this, oI (6 : Int32), oI (4 : Int32)] [(.int (6 : Int32)), (.int (4 : Int32))]))
    refine own_via (fun t kz => XS.icmpNo X35.here hx rfl (hb hby d1_13) rfl (tlt (by decide : (4 : Int32) < (6 : Int32))).2.1 kz) ?_
    refine own_via (fun t kz => XS.iloadN X35.here hx rfl (hb hby d1_16) rfl kz) ?_
    refine own_via (fun t kz => XS.iconst X35.here hx rfl (hb hby d1_17) kz) ?_
    refine own_via (fun t kz => XS.imul X35.here hx rfl (hb hby d1_18) rfl kz) ?_
    show own_Go p e below _ (T35.setTop (mkF m 19 #[oR this, oI (6 : Int32), oI (4 : Int32)] [(.int (8 : Int32))]))
    refine own_via (fun t kz => XS.istoreN X35.here hx rfl (hb hby d1_19) rfl (l' := #[oR this, oI (6 : Int32), oI (8 : Int32)]) rfl kz) ?_
    refine own_via (fun t kz => XS.goto X35.here hx rfl (pc0 := 20) (pc' := 11) rfl (hb hby d1_20) (by decide) (by decide) kz) ?_
    refine own_via (fun t kz => XS.iloadN X35.here hx rfl (hb hby d1_11) rfl kz) ?_
    refine own_via (fun t kz => XS.iloadN X35.here hx rfl (hb hby d1_12) rfl kz) ?_
    show own_Go p e below _ (T35.setTop (mkF m 13 #[oR this, oI (6 : Int32), oI (8 : Int32)] [(.int (6 : Int32)), (.int (8 : Int32))]))
    refine own_via (fun t kz => XS.icmpYes X35.here hx rfl (pc0 := 13) (pc' := 23) rfl (hb hby d1_13) rfl (flt (by decide : ¬ ((8 : Int32) < (6 : Int32)))).2.1 (by decide) (by decide) kz) ?_
    refine own_via (fun t kz => XS.aloadN X35.here hx rfl (hb hby d1_23) rfl rfl kz) ?_
    refine own_via (fun t kz => XS.iloadN X35.here hx rfl (hb hby d1_24) rfl kz) ?_
    show own_Go p e below _ (T35.setTop (mkF m 25 #[oR this, oI (6 : Int32), oI (8 : Int32)] [(.int (8 : Int32)), (.ref this)]))
    obtain ⟨T42, h42, X42, e42, W42, st42⟩ := putF X35 hx hZ hown (host := "") (Or.inl (own_w hw 13)) Via.refl e35 F38 E36 (Or.inr ⟨(own_w hw 14), rfl, hnm⟩) (own_w hw 3) (ty := .int) (by decide) rfl rfl (g := (mkF m 25 #[oR this, oI (6 : Int32), oI (8 : Int32)] [(.int (8 : Int32)), (.ref this)])) rfl rfl (hb hby d1_25)
    refine own_via st42 ?_
    have E43 := E36.wr W42
    have F44 := F37.other W42 (Or.inr (slot_ne (Or.inr (own_w hw 12)) (Or.inr (own_w hw 14)) (by decide) (t := .int) (t' := .int) (by decide) (by decide)))
    have F45 := F38.same W42
    have F46 := F39.other W42 (Or.inr (slot_ne (Or.inr (own_w hw 17)) (Or.inr (own_w hw 14)) (by decide) (t := (.array .double)) (t' := .int) (by decide) (by decide)))
    have Zs47 : n0 ≤ h42.size := Nat.le_trans Zs40 (Keep.of_wr W42).1
    have N48 := Fr.snoc X42 N41 g_this
    refine own_via (fun t kz => XS.aloadN X42.here hx rfl (hb hby d1_28) rfl rfl kz) ?_
    refine own_via (fun t kz => XS.iconst X42.here hx rfl (hb hby d1_29) kz) ?_
    refine own_via (fun t kz => XS.iloadN X42.here hx rfl (hb hby d1_30) rfl kz) ?_
    show own_Go p e below _ (T42.setTop (mkF m 31 #[oR this, oI (6 : Int32), oI (8 : Int32)] [(.int (8 : Int32)), (.int (2 : Int32)), (.ref this)]))
    refine own_via (fun t kz => XS.imul X42.here hx rfl (hb hby d1_31) rfl kz) ?_
    show own_Go p e below _ (T42.setTop (mkF m 32 #[oR this, oI (6 : Int32), oI (8 : Int32)] [(.int (16 : Int32)), (.ref this)]))
    obtain ⟨T49, h49, k49, X49, e49, E49, A49, st49⟩ := newP X42 hx hZ (aty := .double) (own_w hw 15) e42 (g := (mkF m 32 #[oR this, oI (6 : Int32), oI (8 : Int32)] [(.int (16 : Int32)), (.ref this)])) rfl (hb hby d1_32) rfl (by decide) (cap := 16) (by decide) (by decide) (by decide) (by decide)
    obtain ⟨a49, g49⟩ : ∃ z, z = h42.size := ⟨_, rfl⟩
    rw [← g49] at A49 st49
    refine own_via st49 ?_
    have lt50 : this < a49 := Nat.lt_of_lt_of_le E43.lt (Nat.le_of_eq g49.symm)
    have fr51 : n0 ≤ a49 := Nat.le_trans Zs47 (Nat.le_of_eq g49.symm)
    have E52 := E43.ext E49
    have F53 := F44.ext E49
    have F54 := F45.ext E49
    have F55 := F46.ext E49
    have Zs56 : n0 ≤ h49.size := Nat.le_trans Zs47 E49.1
    have V57 : Arv Z h49 a49 k49 .double (16 : Int32) [(.double (FP.l2d (0 : Int64))), (.double (FP.l2d (0 : Int64))), (.double (FP.l2d (0 : Int64))), (.double (FP.l2d (0 : Int64))), (.double (FP.l2d (0 : Int64))), (.double (FP.l2d (0 : Int64))), (.double (FP.l2d (0 : Int64))), (.double (FP.l2d (0 : Int64))), (.double (FP.l2d (0 : Int64))), (.double (FP.l2d (0 : Int64))), (.double (FP.l2d (0 : Int64))), (.double (FP.l2d (0 : Int64))), (.double (FP.l2d (0 : Int64))), (.double (FP.l2d (0 : Int64))), (.double (FP.l2d (0 : Int64))), (.double (FP.l2d (0 : Int64)))] (.double (FP.l2d (0 : Int64))) := (Arv.newD A49 (by decide)).pad (pad_rep [] (.double (FP.l2d (0 : Int64))) 16)
    show own_Go p e below _ (T49.setTop (mkF m 34 #[oR this, oI (6 : Int32), oI (8 : Int32)] [(.ref a49), (.ref this)]))
    obtain ⟨T58, h58, X58, e58, W58, st58⟩ := putF X49 hx hZ hown (host := "") (Or.inl (own_w hw 16)) Via.refl e49 F55 E52 (Or.inr ⟨(own_w hw 17), rfl, hnm⟩) (own_w hw 3) (ty := (.array .double)) (by decide) rfl rfl (g := (mkF m 34 #[oR this, oI (6 : Int32), oI (8 : Int32)] [(.ref a49), (.ref this)])) rfl rfl (hb hby d1_34)
    refine own_via st58 ?_
    have E59 := E52.wr W58
    have F60 := F53.other W58 (Or.inr (slot_ne (Or.inr (own_w hw 12)) (Or.inr (own_w hw 17)) (by decide) (t := .int) (t' := (.array .double)) (by decide) (by decide)))
    have F61 := F54.other W58 (Or.inr (slot_ne (Or.inr (own_w hw 14)) (Or.inr (own_w hw 17)) (by decide) (t := .int) (t' := (.array .double)) (by decide) (by decide)))
    have F62 := F55.same W58
    have V63 := V57.other W58 (Ne.symm (Nat.ne_of_lt lt50))
    have Zs64 : n0 ≤ h58.size := Nat.le_trans Zs56 (Keep.of_wr W58).1
    have N65 := Fr.snoc X58 N48 g_this
    show own_Go p e below _ (T58.setTop (mkF m 37 #[oR this, oI (6 : Int32), oI (8 : Int32)] []))
    obtain ⟨fs, hr, hrun, hended, hW, hsame⟩ := X58.leave (v := none) (fun _ => rfl)
    refine ⟨_, _, X58.returnOut hx Bd.returns (hb hby d1_37) hr, hrun, hended, _, _, rfl, ?_, ⟨_, rfl⟩, hW, hsame.mono (by decide) (by decide)⟩
    show Q1_8 Z this (6 : Int32) h0 n0 _ T58.heap _
    rw [e58]
    exact ⟨rfl, N65, Zs64, a49, k49, ⟨g_this, lt50⟩, E59, F61, F62, V63⟩
  · show own_Go p e below _ (s₁.setTop (mkF m 0 #[oR this, oI (7 : Int32), .unset] []))
    refine own_via (fun t kz => XS.aloadN X0.here hx rfl (hb hby d1_0) rfl rfl kz) ?_
    show own_Go p e below _ (s₁.setTop (mkF m 1 #[oR this, oI (7 : Int32), .unset] [(.ref this)]))
    obtain ⟨T67, X67, e67, st67⟩ := initO X0 hx hZ hown (own_w hw 8) (own_w hw 9) (own_w hw 10) e0 (g := (mkF m 1 #[oR this, oI (7 : Int32), .unset] [(.ref this)])) rfl (by rw [hml]; rfl) rfl (hb hby d1_1) (by decide) (W := 0) (by show 2 * 0 + _ ≤ _; exact Nat.le_of_eq rfl) (by decide)
    refine own_via st67 ?_
    refine own_via (fun t kz => XS.aloadN X67.here hx rfl (hb hby d1_4) rfl rfl kz) ?_
    refine own_via (fun t kz => XS.iloadN X67.here hx rfl (hb hby d1_5) rfl kz) ?_
    show own_Go p e below _ (T67.setTop (mkF m 6 #[oR this, oI (7 : Int32), .unset] [(.int (7 : Int32)), (.ref this)]))
    obtain ⟨T68, h68, X68, e68, W68, st68⟩ := putF X67 hx hZ hown (host := "") (Or.inl (own_w hw 11)) Via.refl e67 F_size E_this (Or.inr ⟨(own_w hw 12), rfl, hnm⟩) (own_w hw 3) (ty := .int) (by decide) rfl rfl (g := (mkF m 6 #[oR this, oI (7 : Int32), .unset] [(.int (7 : Int32)), (.ref this)])) rfl rfl (hb hby d1_6)
    refine own_via st68 ?_
    have E69 := E_this.wr W68
    have F70 := F_size.same W68
    have F71 := F_leaves.other W68 (Or.inr (slot_ne (Or.inr (own_w hw 14)) (Or.inr (own_w hw 12)) (by decide) (t := .int) (t' := .int) (by decide) (by decide)))
    have F72 := F_sums.other W68 (Or.inr (slot_ne (Or.inr (own_w hw 17)) (Or.inr (own_w hw 12)) (by decide) (t := (.array .double)) (t' := .int) (by decide) (by decide)))
    have Zs73 : n0 ≤ h68.size := Nat.le_trans Z0 (Keep.of_wr W68).1
    have N74 := Fr.snoc X68 N0 g_this
    refine own_via (fun t kz => XS.iconst X68.here hx rfl (hb hby d1_9) kz) ?_
    refine own_via (fun t kz => XS.istoreN X68.here hx rfl (hb hby d1_10) rfl (l' := #[oR this, oI (7 : Int32), oI (1 : Int32)]) rfl kz) ?_
    refine own_via (fun t kz => XS.iloadN X68.here hx rfl (hb hby d1_11) rfl kz) ?_
    show own_Go p e below _ (T68.setTop (mkF m 12 #[oR this, oI (7 : Int32), oI (1 : Int32)] [(.int (1 : Int32))]))
    refine own_via (fun t kz => XS.iloadN X68.here hx rfl (hb hby d1_12) rfl kz) ?_
    show own_Go p e below _ (T68.setTop (mkF m 13 #[oR this, oI (7 : Int32), oI (1 : Int32)] [(.int (7 : Int32)), (.int (1 : Int32))]))
    refine own_via (fun t kz => XS.icmpNo X68.here hx rfl (hb hby d1_13) rfl (tlt (by decide : (1 : Int32) < (7 : Int32))).2.1 kz) ?_
    refine own_via (fun t kz => XS.iloadN X68.here hx rfl (hb hby d1_16) rfl kz) ?_
    refine own_via (fun t kz => XS.iconst X68.here hx rfl (hb hby d1_17) kz) ?_
    refine own_via (fun t kz => XS.imul X68.here hx rfl (hb hby d1_18) rfl kz) ?_
    show own_Go p e below _ (T68.setTop (mkF m 19 #[oR this, oI (7 : Int32), oI (1 : Int32)] [(.int (2 : Int32))]))
    refine own_via (fun t kz => XS.istoreN X68.here hx rfl (hb hby d1_19) rfl (l' := #[oR this, oI (7 : Int32), oI (2 : Int32)]) rfl kz) ?_
    refine own_via (fun t kz => XS.goto X68.here hx rfl (pc0 := 20) (pc' := 11) rfl (hb hby d1_20) (by decide) (by decide) kz) ?_
    refine own_via (fun t kz => XS.iloadN X68.here hx rfl (hb hby d1_11) rfl kz) ?_
    refine own_via (fun t kz => XS.iloadN X68.here hx rfl (hb hby d1_12) rfl kz) ?_
    show own_Go p e below _ (T68.setTop (mkF m 13 #[oR this, oI (7 : Int32), oI (2 : Int32)] [(.int (7 : Int32)), (.int (2 : Int32))]))
    refine own_via (fun t kz => XS.icmpNo X68.here hx rfl (hb hby d1_13) rfl (tlt (by decide : (2 : Int32) < (7 : Int32))).2.1 kz) ?_
    refine own_via (fun t kz => XS.iloadN X68.here hx rfl (hb hby d1_16) rfl kz) ?_
    refine own_via (fun t kz => XS.iconst X68.here hx rfl (hb hby d1_17) kz) ?_
    refine own_via (fun t kz => XS.imul X68.here hx rfl (hb hby d1_18) rfl kz) ?_
    show own_Go p e below _ (T68.setTop (mkF m 19 #[oR this, oI (7 : Int32), oI (2 : Int32)] [(.int (4 : Int32))]))
    refine own_via (fun t kz => XS.istoreN X68.here hx rfl (hb hby d1_19) rfl (l' := #[oR this, oI (7 : Int32), oI (4 : Int32)]) rfl kz) ?_
    refine own_via (fun t kz => XS.goto X68.here hx rfl (pc0 := 20) (pc' := 11) rfl (hb hby d1_20) (by decide) (by decide) kz) ?_
    refine own_via (fun t kz => XS.iloadN X68.here hx rfl (hb hby d1_11) rfl kz) ?_
    refine own_via (fun t kz => XS.iloadN X68.here hx rfl (hb hby d1_12) rfl kz) ?_
    show own_Go p e below _ (T68.setTop (mkF m 13 #[oR this, oI (7 : Int32), oI (4 : Int32)] [(.int (7 : Int32)), (.int (4 : Int32))]))
    refine own_via (fun t kz => XS.icmpNo X68.here hx rfl (hb hby d1_13) rfl (tlt (by decide : (4 : Int32) < (7 : Int32))).2.1 kz) ?_
    refine own_via (fun t kz => XS.iloadN X68.here hx rfl (hb hby d1_16) rfl kz) ?_
    refine own_via (fun t kz => XS.iconst X68.here hx rfl (hb hby d1_17) kz) ?_
    refine own_via (fun t kz => XS.imul X68.here hx rfl (hb hby d1_18) rfl kz) ?_
    show own_Go p e below _ (T68.setTop (mkF m 19 #[oR this, oI (7 : Int32), oI (4 : Int32)] [(.int (8 : Int32))]))
    refine own_via (fun t kz => XS.istoreN X68.here hx rfl (hb hby d1_19) rfl (l' := #[oR this, oI (7 : Int32), oI (8 : Int32)]) rfl kz) ?_
    refine own_via (fun t kz => XS.goto X68.here hx rfl (pc0 := 20) (pc' := 11) rfl (hb hby d1_20) (by decide) (by decide) kz) ?_
    refine own_via (fun t kz => XS.iloadN X68.here hx rfl (hb hby d1_11) rfl kz) ?_
    refine own_via (fun t kz => XS.iloadN X68.here hx rfl (hb hby d1_12) rfl kz) ?_
    show own_Go p e below _ (T68.setTop (mkF m 13 #[oR this, oI (7 : Int32), oI (8 : Int32)] [(.int (7 : Int32)), (.int (8 : Int32))]))
    refine own_via (fun t kz => XS.icmpYes X68.here hx rfl (pc0 := 13) (pc' := 23) rfl (hb hby d1_13) rfl (flt (by decide : ¬ ((8 : Int32) < (7 : Int32)))).2.1 (by decide) (by decide) kz) ?_
    refine own_via (fun t kz => XS.aloadN X68.here hx rfl (hb hby d1_23) rfl rfl kz) ?_
    refine own_via (fun t kz => XS.iloadN X68.here hx rfl (hb hby d1_24) rfl kz) ?_
    show own_Go p e below _ (T68.setTop (mkF m 25 #[oR this, oI (7 : Int32), oI (8 : Int32)] [(.int (8 : Int32)), (.ref this)]))
    obtain ⟨T75, h75, X75, e75, W75, st75⟩ := putF X68 hx hZ hown (host := "") (Or.inl (own_w hw 13)) Via.refl e68 F71 E69 (Or.inr ⟨(own_w hw 14), rfl, hnm⟩) (own_w hw 3) (ty := .int) (by decide) rfl rfl (g := (mkF m 25 #[oR this, oI (7 : Int32), oI (8 : Int32)] [(.int (8 : Int32)), (.ref this)])) rfl rfl (hb hby d1_25)
    refine own_via st75 ?_
    have E76 := E69.wr W75
    have F77 := F70.other W75 (Or.inr (slot_ne (Or.inr (own_w hw 12)) (Or.inr (own_w hw 14)) (by decide) (t := .int) (t' := .int) (by decide) (by decide)))
    have F78 := F71.same W75
    have F79 := F72.other W75 (Or.inr (slot_ne (Or.inr (own_w hw 17)) (Or.inr (own_w hw 14)) (by decide) (t := (.array .double)) (t' := .int) (by decide) (by decide)))
    have Zs80 : n0 ≤ h75.size := Nat.le_trans Zs73 (Keep.of_wr W75).1
    have N81 := Fr.snoc X75 N74 g_this
    refine own_via (fun t kz => XS.aloadN X75.here hx rfl (hb hby d1_28) rfl rfl kz) ?_
    refine own_via (fun t kz => XS.iconst X75.here hx rfl (hb hby d1_29) kz) ?_
    refine own_via (fun t kz => XS.iloadN X75.here hx rfl (hb hby d1_30) rfl kz) ?_
    show own_Go p e below _ (T75.setTop (mkF m 31 #[oR this, oI (7 : Int32), oI (8 : Int32)] [(.int (8 : Int32)), (.int (2 : Int32)), (.ref this)]))
    refine own_via (fun t kz => XS.imul X75.here hx rfl (hb hby d1_31) rfl kz) ?_
    show own_Go p e below _ (T75.setTop (mkF m 32 #[oR this, oI (7 : Int32), oI (8 : Int32)] [(.int (16 : Int32)), (.ref this)]))
    obtain ⟨T82, h82, k82, X82, e82, E82, A82, st82⟩ := newP X75 hx hZ (aty := .double) (own_w hw 15) e75 (g := (mkF m 32 #[oR this, oI (7 : Int32), oI (8 : Int32)] [(.int (16 : Int32)), (.ref this)])) rfl (hb hby d1_32) rfl (by decide) (cap := 16) (by decide) (by decide) (by decide) (by decide)
    obtain ⟨a82, g82⟩ : ∃ z, z = h75.size := ⟨_, rfl⟩
    rw [← g82] at A82 st82
    refine own_via st82 ?_
    have lt83 : this < a82 := Nat.lt_of_lt_of_le E76.lt (Nat.le_of_eq g82.symm)
    have fr84 : n0 ≤ a82 := Nat.le_trans Zs80 (Nat.le_of_eq g82.symm)
    have E85 := E76.ext E82
    have F86 := F77.ext E82
    have F87 := F78.ext E82
    have F88 := F79.ext E82
    have Zs89 : n0 ≤ h82.size := Nat.le_trans Zs80 E82.1
    have V90 : Arv Z h82 a82 k82 .double (16 : Int32) [(.double (FP.l2d (0 : Int64))), (.double (FP.l2d (0 : Int64))), (.double (FP.l2d (0 : Int64))), (.double (FP.l2d (0 : Int64))), (.double (FP.l2d (0 : Int64))), (.double (FP.l2d (0 : Int64))), (.double (FP.l2d (0 : Int64))), (.double (FP.l2d (0 : Int64))), (.double (FP.l2d (0 : Int64))), (.double (FP.l2d (0 : Int64))), (.double (FP.l2d (0 : Int64))), (.double (FP.l2d (0 : Int64))), (.double (FP.l2d (0 : Int64))), (.double (FP.l2d (0 : Int64))), (.double (FP.l2d (0 : Int64))), (.double (FP.l2d (0 : Int64)))] (.double (FP.l2d (0 : Int64))) := (Arv.newD A82 (by decide)).pad (pad_rep [] (.double (FP.l2d (0 : Int64))) 16)
    show own_Go p e below _ (T82.setTop (mkF m 34 #[oR this, oI (7 : Int32), oI (8 : Int32)] [(.ref a82), (.ref this)]))
    obtain ⟨T91, h91, X91, e91, W91, st91⟩ := putF X82 hx hZ hown (host := "") (Or.inl (own_w hw 16)) Via.refl e82 F88 E85 (Or.inr ⟨(own_w hw 17), rfl, hnm⟩) (own_w hw 3) (ty := (.array .double)) (by decide) rfl rfl (g := (mkF m 34 #[oR this, oI (7 : Int32), oI (8 : Int32)] [(.ref a82), (.ref this)])) rfl rfl (hb hby d1_34)
    refine own_via st91 ?_
    have E92 := E85.wr W91
    have F93 := F86.other W91 (Or.inr (slot_ne (Or.inr (own_w hw 12)) (Or.inr (own_w hw 17)) (by decide) (t := .int) (t' := (.array .double)) (by decide) (by decide)))
    have F94 := F87.other W91 (Or.inr (slot_ne (Or.inr (own_w hw 14)) (Or.inr (own_w hw 17)) (by decide) (t := .int) (t' := (.array .double)) (by decide) (by decide)))
    have F95 := F88.same W91
    have V96 := V90.other W91 (Ne.symm (Nat.ne_of_lt lt83))
    have Zs97 : n0 ≤ h91.size := Nat.le_trans Zs89 (Keep.of_wr W91).1
    have N98 := Fr.snoc X91 N81 g_this
    show own_Go p e below _ (T91.setTop (mkF m 37 #[oR this, oI (7 : Int32), oI (8 : Int32)] []))
    obtain ⟨fs, hr, hrun, hended, hW, hsame⟩ := X91.leave (v := none) (fun _ => rfl)
    refine ⟨_, _, X91.returnOut hx Bd.returns (hb hby d1_37) hr, hrun, hended, _, _, rfl, ?_, ⟨_, rfl⟩, hW, hsame.mono (by decide) (by decide)⟩
    show Q1_8 Z this (7 : Int32) h0 n0 _ T91.heap _
    rw [e91]
    exact ⟨rfl, N98, Zs97, a82, k82, ⟨g_this, lt83⟩, E92, F94, F95, V96⟩
  · show own_Go p e below _ (s₁.setTop (mkF m 0 #[oR this, oI (8 : Int32), .unset] []))
    refine own_via (fun t kz => XS.aloadN X0.here hx rfl (hb hby d1_0) rfl rfl kz) ?_
    show own_Go p e below _ (s₁.setTop (mkF m 1 #[oR this, oI (8 : Int32), .unset] [(.ref this)]))
    obtain ⟨T100, X100, e100, st100⟩ := initO X0 hx hZ hown (own_w hw 8) (own_w hw 9) (own_w hw 10) e0 (g := (mkF m 1 #[oR this, oI (8 : Int32), .unset] [(.ref this)])) rfl (by rw [hml]; rfl) rfl (hb hby d1_1) (by decide) (W := 0) (by show 2 * 0 + _ ≤ _; exact Nat.le_of_eq rfl) (by decide)
    refine own_via st100 ?_
    refine own_via (fun t kz => XS.aloadN X100.here hx rfl (hb hby d1_4) rfl rfl kz) ?_
    refine own_via (fun t kz => XS.iloadN X100.here hx rfl (hb hby d1_5) rfl kz) ?_
    show own_Go p e below _ (T100.setTop (mkF m 6 #[oR this, oI (8 : Int32), .unset] [(.int (8 : Int32)), (.ref this)]))
    obtain ⟨T101, h101, X101, e101, W101, st101⟩ := putF X100 hx hZ hown (host := "") (Or.inl (own_w hw 11)) Via.refl e100 F_size E_this (Or.inr ⟨(own_w hw 12), rfl, hnm⟩) (own_w hw 3) (ty := .int) (by decide) rfl rfl (g := (mkF m 6 #[oR this, oI (8 : Int32), .unset] [(.int (8 : Int32)), (.ref this)])) rfl rfl (hb hby d1_6)
    refine own_via st101 ?_
    have E102 := E_this.wr W101
    have F103 := F_size.same W101
    have F104 := F_leaves.other W101 (Or.inr (slot_ne (Or.inr (own_w hw 14)) (Or.inr (own_w hw 12)) (by decide) (t := .int) (t' := .int) (by decide) (by decide)))
    have F105 := F_sums.other W101 (Or.inr (slot_ne (Or.inr (own_w hw 17)) (Or.inr (own_w hw 12)) (by decide) (t := (.array .double)) (t' := .int) (by decide) (by decide)))
    have Zs106 : n0 ≤ h101.size := Nat.le_trans Z0 (Keep.of_wr W101).1
    have N107 := Fr.snoc X101 N0 g_this
    refine own_via (fun t kz => XS.iconst X101.here hx rfl (hb hby d1_9) kz) ?_
    refine own_via (fun t kz => XS.istoreN X101.here hx rfl (hb hby d1_10) rfl (l' := #[oR this, oI (8 : Int32), oI (1 : Int32)]) rfl kz) ?_
    refine own_via (fun t kz => XS.iloadN X101.here hx rfl (hb hby d1_11) rfl kz) ?_
    show own_Go p e below _ (T101.setTop (mkF m 12 #[oR this, oI (8 : Int32), oI (1 : Int32)] [(.int (1 : Int32))]))
    refine own_via (fun t kz => XS.iloadN X101.here hx rfl (hb hby d1_12) rfl kz) ?_
    show own_Go p e below _ (T101.setTop (mkF m 13 #[oR this, oI (8 : Int32), oI (1 : Int32)] [(.int (8 : Int32)), (.int (1 : Int32))]))
    refine own_via (fun t kz => XS.icmpNo X101.here hx rfl (hb hby d1_13) rfl (tlt (by decide : (1 : Int32) < (8 : Int32))).2.1 kz) ?_
    refine own_via (fun t kz => XS.iloadN X101.here hx rfl (hb hby d1_16) rfl kz) ?_
    refine own_via (fun t kz => XS.iconst X101.here hx rfl (hb hby d1_17) kz) ?_
    refine own_via (fun t kz => XS.imul X101.here hx rfl (hb hby d1_18) rfl kz) ?_
    show own_Go p e below _ (T101.setTop (mkF m 19 #[oR this, oI (8 : Int32), oI (1 : Int32)] [(.int (2 : Int32))]))
    refine own_via (fun t kz => XS.istoreN X101.here hx rfl (hb hby d1_19) rfl (l' := #[oR this, oI (8 : Int32), oI (2 : Int32)]) rfl kz) ?_
    refine own_via (fun t kz => XS.goto X101.here hx rfl (pc0 := 20) (pc' := 11) rfl (hb hby d1_20) (by decide) (by decide) kz) ?_
    refine own_via (fun t kz => XS.iloadN X101.here hx rfl (hb hby d1_11) rfl kz) ?_
    refine own_via (fun t kz => XS.iloadN X101.here hx rfl (hb hby d1_12) rfl kz) ?_
    show own_Go p e below _ (T101.setTop (mkF m 13 #[oR this, oI (8 : Int32), oI (2 : Int32)] [(.int (8 : Int32)), (.int (2 : Int32))]))
    refine own_via (fun t kz => XS.icmpNo X101.here hx rfl (hb hby d1_13) rfl (tlt (by decide : (2 : Int32) < (8 : Int32))).2.1 kz) ?_
    refine own_via (fun t kz => XS.iloadN X101.here hx rfl (hb hby d1_16) rfl kz) ?_
    refine own_via (fun t kz => XS.iconst X101.here hx rfl (hb hby d1_17) kz) ?_
    refine own_via (fun t kz => XS.imul X101.here hx rfl (hb hby d1_18) rfl kz) ?_
    show own_Go p e below _ (T101.setTop (mkF m 19 #[oR this, oI (8 : Int32), oI (2 : Int32)] [(.int (4 : Int32))]))
    refine own_via (fun t kz => XS.istoreN X101.here hx rfl (hb hby d1_19) rfl (l' := #[oR this, oI (8 : Int32), oI (4 : Int32)]) rfl kz) ?_
    refine own_via (fun t kz => XS.goto X101.here hx rfl (pc0 := 20) (pc' := 11) rfl (hb hby d1_20) (by decide) (by decide) kz) ?_
    refine own_via (fun t kz => XS.iloadN X101.here hx rfl (hb hby d1_11) rfl kz) ?_
    refine own_via (fun t kz => XS.iloadN X101.here hx rfl (hb hby d1_12) rfl kz) ?_
    show own_Go p e below _ (T101.setTop (mkF m 13 #[oR this, oI (8 : Int32), oI (4 : Int32)] [(.int (8 : Int32)), (.int (4 : Int32))]))
    refine own_via (fun t kz => XS.icmpNo X101.here hx rfl (hb hby d1_13) rfl (tlt (by decide : (4 : Int32) < (8 : Int32))).2.1 kz) ?_
    refine own_via (fun t kz => XS.iloadN X101.here hx rfl (hb hby d1_16) rfl kz) ?_
    refine own_via (fun t kz => XS.iconst X101.here hx rfl (hb hby d1_17) kz) ?_
    refine own_via (fun t kz => XS.imul X101.here hx rfl (hb hby d1_18) rfl kz) ?_
    show own_Go p e below _ (T101.setTop (mkF m 19 #[oR this, oI (8 : Int32), oI (4 : Int32)] [(.int (8 : Int32))]))
    refine own_via (fun t kz => XS.istoreN X101.here hx rfl (hb hby d1_19) rfl (l' := #[oR this, oI (8 : Int32), oI (8 : Int32)]) rfl kz) ?_
    refine own_via (fun t kz => XS.goto X101.here hx rfl (pc0 := 20) (pc' := 11) rfl (hb hby d1_20) (by decide) (by decide) kz) ?_
    refine own_via (fun t kz => XS.iloadN X101.here hx rfl (hb hby d1_11) rfl kz) ?_
    refine own_via (fun t kz => XS.iloadN X101.here hx rfl (hb hby d1_12) rfl kz) ?_
    show own_Go p e below _ (T101.setTop (mkF m 13 #[oR this, oI (8 : Int32), oI (8 : Int32)] [(.int (8 : Int32)), (.int (8 : Int32))]))
    refine own_via (fun t kz => XS.icmpYes X101.here hx rfl (pc0 := 13) (pc' := 23) rfl (hb hby d1_13) rfl (flt (by decide : ¬ ((8 : Int32) < (8 : Int32)))).2.1 (by decide) (by decide) kz) ?_
    refine own_via (fun t kz => XS.aloadN X101.here hx rfl (hb hby d1_23) rfl rfl kz) ?_
    refine own_via (fun t kz => XS.iloadN X101.here hx rfl (hb hby d1_24) rfl kz) ?_
    show own_Go p e below _ (T101.setTop (mkF m 25 #[oR this, oI (8 : Int32), oI (8 : Int32)] [(.int (8 : Int32)), (.ref this)]))
    obtain ⟨T108, h108, X108, e108, W108, st108⟩ := putF X101 hx hZ hown (host := "") (Or.inl (own_w hw 13)) Via.refl e101 F104 E102 (Or.inr ⟨(own_w hw 14), rfl, hnm⟩) (own_w hw 3) (ty := .int) (by decide) rfl rfl (g := (mkF m 25 #[oR this, oI (8 : Int32), oI (8 : Int32)] [(.int (8 : Int32)), (.ref this)])) rfl rfl (hb hby d1_25)
    refine own_via st108 ?_
    have E109 := E102.wr W108
    have F110 := F103.other W108 (Or.inr (slot_ne (Or.inr (own_w hw 12)) (Or.inr (own_w hw 14)) (by decide) (t := .int) (t' := .int) (by decide) (by decide)))
    have F111 := F104.same W108
    have F112 := F105.other W108 (Or.inr (slot_ne (Or.inr (own_w hw 17)) (Or.inr (own_w hw 14)) (by decide) (t := (.array .double)) (t' := .int) (by decide) (by decide)))
    have Zs113 : n0 ≤ h108.size := Nat.le_trans Zs106 (Keep.of_wr W108).1
    have N114 := Fr.snoc X108 N107 g_this
    refine own_via (fun t kz => XS.aloadN X108.here hx rfl (hb hby d1_28) rfl rfl kz) ?_
    refine own_via (fun t kz => XS.iconst X108.here hx rfl (hb hby d1_29) kz) ?_
    refine own_via (fun t kz => XS.iloadN X108.here hx rfl (hb hby d1_30) rfl kz) ?_
    show own_Go p e below _ (T108.setTop (mkF m 31 #[oR this, oI (8 : Int32), oI (8 : Int32)] [(.int (8 : Int32)), (.int (2 : Int32)), (.ref this)]))
    refine own_via (fun t kz => XS.imul X108.here hx rfl (hb hby d1_31) rfl kz) ?_
    show own_Go p e below _ (T108.setTop (mkF m 32 #[oR this, oI (8 : Int32), oI (8 : Int32)] [(.int (16 : Int32)), (.ref this)]))
    obtain ⟨T115, h115, k115, X115, e115, E115, A115, st115⟩ := newP X108 hx hZ (aty := .double) (own_w hw 15) e108 (g := (mkF m 32 #[oR this, oI (8 : Int32), oI (8 : Int32)] [(.int (16 : Int32)), (.ref this)])) rfl (hb hby d1_32) rfl (by decide) (cap := 16) (by decide) (by decide) (by decide) (by decide)
    obtain ⟨a115, g115⟩ : ∃ z, z = h108.size := ⟨_, rfl⟩
    rw [← g115] at A115 st115
    refine own_via st115 ?_
    have lt116 : this < a115 := Nat.lt_of_lt_of_le E109.lt (Nat.le_of_eq g115.symm)
    have fr117 : n0 ≤ a115 := Nat.le_trans Zs113 (Nat.le_of_eq g115.symm)
    have E118 := E109.ext E115
    have F119 := F110.ext E115
    have F120 := F111.ext E115
    have F121 := F112.ext E115
    have Zs122 : n0 ≤ h115.size := Nat.le_trans Zs113 E115.1
    have V123 : Arv Z h115 a115 k115 .double (16 : Int32) [(.double (FP.l2d (0 : Int64))), (.double (FP.l2d (0 : Int64))), (.double (FP.l2d (0 : Int64))), (.double (FP.l2d (0 : Int64))), (.double (FP.l2d (0 : Int64))), (.double (FP.l2d (0 : Int64))), (.double (FP.l2d (0 : Int64))), (.double (FP.l2d (0 : Int64))), (.double (FP.l2d (0 : Int64))), (.double (FP.l2d (0 : Int64))), (.double (FP.l2d (0 : Int64))), (.double (FP.l2d (0 : Int64))), (.double (FP.l2d (0 : Int64))), (.double (FP.l2d (0 : Int64))), (.double (FP.l2d (0 : Int64))), (.double (FP.l2d (0 : Int64)))] (.double (FP.l2d (0 : Int64))) := (Arv.newD A115 (by decide)).pad (pad_rep [] (.double (FP.l2d (0 : Int64))) 16)
    show own_Go p e below _ (T115.setTop (mkF m 34 #[oR this, oI (8 : Int32), oI (8 : Int32)] [(.ref a115), (.ref this)]))
    obtain ⟨T124, h124, X124, e124, W124, st124⟩ := putF X115 hx hZ hown (host := "") (Or.inl (own_w hw 16)) Via.refl e115 F121 E118 (Or.inr ⟨(own_w hw 17), rfl, hnm⟩) (own_w hw 3) (ty := (.array .double)) (by decide) rfl rfl (g := (mkF m 34 #[oR this, oI (8 : Int32), oI (8 : Int32)] [(.ref a115), (.ref this)])) rfl rfl (hb hby d1_34)
    refine own_via st124 ?_
    have E125 := E118.wr W124
    have F126 := F119.other W124 (Or.inr (slot_ne (Or.inr (own_w hw 12)) (Or.inr (own_w hw 17)) (by decide) (t := .int) (t' := (.array .double)) (by decide) (by decide)))
    have F127 := F120.other W124 (Or.inr (slot_ne (Or.inr (own_w hw 14)) (Or.inr (own_w hw 17)) (by decide) (t := .int) (t' := (.array .double)) (by decide) (by decide)))
    have F128 := F121.same W124
    have V129 := V123.other W124 (Ne.symm (Nat.ne_of_lt lt116))
    have Zs130 : n0 ≤ h124.size := Nat.le_trans Zs122 (Keep.of_wr W124).1
    have N131 := Fr.snoc X124 N114 g_this
    show own_Go p e below _ (T124.setTop (mkF m 37 #[oR this, oI (8 : Int32), oI (8 : Int32)] []))
    obtain ⟨fs, hr, hrun, hended, hW, hsame⟩ := X124.leave (v := none) (fun _ => rfl)
    refine ⟨_, _, X124.returnOut hx Bd.returns (hb hby d1_37) hr, hrun, hended, _, _, rfl, ?_, ⟨_, rfl⟩, hW, hsame.mono (by decide) (by decide)⟩
    show Q1_8 Z this (8 : Int32) h0 n0 _ T124.heap _
    rw [e124]
    exact ⟨rfl, N131, Zs130, a115, k115, ⟨g_this, lt116⟩, E125, F127, F128, V129⟩
theorem ef_rm3_8 (m : MethodId) (q0 : Addr) (q1 : Int32) (q2 : UInt64) : entryFrame m #[(.ref q0), (.int q1), (.double q2)] 5 = mkF m 0 #[oR q0, oI q1, oD q2, .second, .unset] [] := by first | (simp [entryFrame, mkF, argsToLocals, Value.category]; done) | rfl
def Q3_8 (Z : State) (this : Addr) (p1 : Int32) (wv : Int64) (w0_ : Int64) (w1_ : Int64) (w2_ : Int64) (w3_ : Int64) (w4_ : Int64) (w5_ : Int64) (w6_ : Int64) (w7_ : Int64) (h0 : Heap) (n0 : Nat) (v : Option Value) (h : Heap) (L : List Loc) : Prop := v = none ∧ Fr n0 L ∧ n0 ≤ h.size ∧ own_W8 Z h n0 this (if p1 = (0 : Int32) then wv else w0_) (if p1 = (1 : Int32) then wv else w1_) (if p1 = (2 : Int32) then wv else w2_) (if p1 = (3 : Int32) then wv else w3_) (if p1 = (4 : Int32) then wv else w4_) (if p1 = (5 : Int32) then wv else w5_) (if p1 = (6 : Int32) then wv else w6_) (if p1 = (7 : Int32) then wv else w7_)
set_option maxRecDepth 65536 in
set_option maxHeartbeats 40000000 in
theorem rm3_8 (l : Launch) (Z : State) (a0 : Array Value) (hw : ∀ d ∈ tables_1, d.before a0 Z = true) (ws : List Jvm.Cond) (this : Addr) (p1 : Int32) (wv : Int64) (w0_ : Int64) (w1_ : Int64) (w2_ : Int64) (w3_ : Int64) (w4_ : Int64) (w5_ : Int64) (w6_ : Int64) (w7_ : Int64) (h0 : Heap) (n0 : Nat) (Z0 : n0 ≤ h0.size) (TC : own_W8 Z h0 n0 this w0_ w1_ w2_ w3_ w4_ w5_ w6_ w7_) (hp : p1 = 0 ∨ p1 = 1 ∨ p1 = 2 ∨ p1 = 3 ∨ p1 = 4 ∨ p1 = 5 ∨ p1 = 6 ∨ p1 = 7) (hbv : own_bd 1 wv) (hb0 : own_bd 1 w0_) (hb1 : own_bd 1 w1_) (hb2 : own_bd 1 w2_) (hb3 : own_bd 1 w3_) (hb4 : own_bd 1 w4_) (hb5 : own_bd 1 w5_) (hb6 : own_bd 1 w6_) (hb7 : own_bd 1 w7_) :
    MetFree l (⟨"com/example/coupewise/coupewise/WeightedDraw", "set", "(ID)V"⟩ : MethodName) (head1 (Jvm.Cond.code (⟨"com/example/coupewise/coupewise/WeightedDraw", "set", "(ID)V"⟩ : MethodName) prog_11_method_3_code 5 none :: ws) ({ frames := 0, cells := 0, slots := 0, locals := 0 } : Room)) (fun a U => a = #[(.ref this), (.int p1), (.double (FP.l2d wv))] ∧ Z.Warmed39 U.vm ∧ U.heap = h0) (fun _ _ _ _ _ => True) (fun _ U o U' => ∃ v L, o = .returned v ∧ Q3_8 Z this p1 wv w0_ w1_ w2_ w3_ w4_ w5_ w6_ w7_ h0 n0 v U'.heap L ∧ FrameEnd U o U' L ({ frames := 0, cells := 0, slots := 0, locals := 0 } : Room).cells ({ frames := 0, cells := 0, slots := 0, locals := 0 } : Room).slots) := by
  refine MetFree.of_bodySF (plainFor_of_name pn_1) hisR ?_
  intro p e s m args below meth c s₁ Bd hml0 hP hK
  obtain ⟨rfl, hZ, hh⟩ := hP
  have hx := Bd.exec
  have hby := Bd.bytes
  have hml : c.maxLocals = 5 := hml0
  have hown : s.vm.findClass "com/example/coupewise/coupewise/WeightedDraw" = some m.cls := findClass_of_methodNamed Bd.named
  have hnm := (name_of_methodNamed Bd.named Bd.method).1
  have X0 : Stand p l e ({ frames := 0, cells := 0, slots := 0, locals := 0 } : Room) s m #[(.ref this), (.int p1), (.double (FP.l2d wv))] below meth c s₁ [] 0 0 := Stand.of_body Bd
  have e0 : s₁.heap = h0 := by rw [← hh, Bd.state]; rfl
  have N0 := Fr.nil n0
  refine own_start ?_
  refine own_via (fun t k => castTop (ef_rm3_8 m this p1 (FP.l2d wv)) k) ?_
  obtain ⟨arr, kA, ⟨ch0, ch1⟩, Eq, Fq0, Fq1, Vq⟩ := TC
  rcases hp with rfl | rfl | rfl | rfl | rfl | rfl | rfl | rfl
  · show own_Go p e below _ (s₁.setTop (mkF m 0 #[oR this, oI (0 : Int32), oD (FP.l2d wv), .second, .unset] []))
    refine own_via (fun t kz => XS.aloadN X0.here hx rfl (hb hby d3_0) rfl rfl kz) ?_
    show own_Go p e below _ (s₁.setTop (mkF m 1 #[oR this, oI (0 : Int32), oD (FP.l2d wv), .second, .unset] [(.ref this)]))
    obtain ⟨T1, X1, e1, st1⟩ := getF X0 hx hZ hown (host := "") (Or.inl (own_w hw 13)) Via.refl e0 Fq0 (g := (mkF m 1 #[oR this, oI (0 : Int32), oD (FP.l2d wv), .second, .unset] [(.ref this)])) rfl rfl (hb hby d3_1)
    refine own_via st1 ?_
    refine own_via (fun t kz => XS.iloadN X1.here hx rfl (hb hby d3_4) rfl kz) ?_
    refine own_via (fun t kz => XS.iadd X1.here hx rfl (hb hby d3_5) rfl kz) ?_
    refine own_via (fun t kz => XS.istore X1.here hx rfl (hb hby d3_6) rfl (l' := #[oR this, oI (0 : Int32), oD (FP.l2d wv), .second, oI (8 : Int32)]) rfl kz) ?_
    show own_Go p e below _ (T1.setTop (mkF m 8 #[oR this, oI (0 : Int32), oD (FP.l2d wv), .second, oI (8 : Int32)] []))
    refine own_via (fun t kz => XS.aloadN X1.here hx rfl (hb hby d3_8) rfl rfl kz) ?_
    show own_Go p e below _ (T1.setTop (mkF m 9 #[oR this, oI (0 : Int32), oD (FP.l2d wv), .second, oI (8 : Int32)] [(.ref this)]))
    obtain ⟨T2, X2, e2, st2⟩ := getF X1 hx hZ hown (host := "") (Or.inl (own_w hw 16)) Via.refl e1 Fq1 (g := (mkF m 9 #[oR this, oI (0 : Int32), oD (FP.l2d wv), .second, oI (8 : Int32)] [(.ref this)])) rfl rfl (hb hby d3_9)
    refine own_via st2 ?_
    refine own_via (fun t kz => XS.iload X2.here hx rfl (hb hby d3_12) rfl kz) ?_
    refine own_via (fun t kz => XS.dloadN X2.here hx rfl (hb hby d3_14) rfl kz) ?_
    show own_Go p e below _ (T2.setTop (mkF m 15 #[oR this, oI (0 : Int32), oD (FP.l2d wv), .second, oI (8 : Int32)] [(.double (FP.l2d wv)), (.int (8 : Int32)), (.ref arr)]))
    obtain ⟨cl3, Ar3, kc3, Sz3, Nn3, Hs3, Gs3⟩ := id Vq
    obtain ⟨T3, h3, X3, e3, W3, st3⟩ := stD X2 hx hZ e2 Ar3 (j := (8 : Int32)) (inb_of Sz3 ⟨by decide, by decide⟩) (g := (mkF m 15 #[oR this, oI (0 : Int32), oD (FP.l2d wv), .second, oI (8 : Int32)] [(.double (FP.l2d wv)), (.int (8 : Int32)), (.ref arr)])) rfl rfl (hb hby d3_15)
    refine own_via st3 ?_
    have E4 := Eq.wr W3
    have F5 := Fq0.other W3 (Or.inl (own_neq (by omega)))
    have F6 := Fq1.other W3 (Or.inl (own_neq (by omega)))
    have Zs7 : n0 ≤ h3.size := Nat.le_trans Z0 (Keep.of_wr W3).1
    have N8 := Fr.snoc X3 N0 (show n0 ≤ arr by omega)
    have V9 : Arv Z h3 arr kA .double (16 : Int32) [(.double (FP.l2d (0 : Int64))), (.double (FP.l2d (((w0_ + w1_) + (w2_ + w3_)) + ((w4_ + w5_) + (w6_ + w7_))))), (.double (FP.l2d ((w0_ + w1_) + (w2_ + w3_)))), (.double (FP.l2d ((w4_ + w5_) + (w6_ + w7_)))), (.double (FP.l2d (w0_ + w1_))), (.double (FP.l2d (w2_ + w3_))), (.double (FP.l2d (w4_ + w5_))), (.double (FP.l2d (w6_ + w7_))), (.double (FP.l2d wv)), (.double (FP.l2d w1_)), (.double (FP.l2d w2_)), (.double (FP.l2d w3_)), (.double (FP.l2d w4_)), (.double (FP.l2d w5_)), (.double (FP.l2d w6_)), (.double (FP.l2d w7_))] (.double (FP.l2d (0 : Int64))) := Arv.set Ar3 kc3 Sz3 Nn3 Hs3 Gs3 rfl W3 8 (by first | decide | (show 8 < 16; decide)) (by first | decide | (show 8 < 16; decide))
    refine own_via (fun t kz => XS.iload X3.here hx rfl (hb hby d3_16) rfl kz) ?_
    refine own_via (fun t kz => XS.iconst X3.here hx rfl (hb hby d3_18) kz) ?_
    refine own_via (fun t kz => XS.idiv X3.here hx rfl (hb hby d3_19) rfl (by decide) kz) ?_
    show own_Go p e below _ (T3.setTop (mkF m 20 #[oR this, oI (0 : Int32), oD (FP.l2d wv), .second, oI (8 : Int32)] [(.int (4 : Int32))]))
    refine own_via (fun t kz => XS.istore X3.here hx rfl (hb hby d3_20) rfl (l' := #[oR this, oI (0 : Int32), oD (FP.l2d wv), .second, oI (4 : Int32)]) rfl kz) ?_
    refine own_via (fun t kz => XS.iload X3.here hx rfl (hb hby d3_22) rfl kz) ?_
    refine own_via (fun t kz => XS.iconst X3.here hx rfl (hb hby d3_24) kz) ?_
    show own_Go p e below _ (T3.setTop (mkF m 25 #[oR this, oI (0 : Int32), oD (FP.l2d wv), .second, oI (4 : Int32)] [(.int (1 : Int32)), (.int (4 : Int32))]))
    refine own_via (fun t kz => XS.icmpNo X3.here hx rfl (hb hby d3_25) rfl (flt (by decide : ¬ ((4 : Int32) < (1 : Int32)))).1 kz) ?_
    refine own_via (fun t kz => XS.aloadN X3.here hx rfl (hb hby d3_28) rfl rfl kz) ?_
    show own_Go p e below _ (T3.setTop (mkF m 29 #[oR this, oI (0 : Int32), oD (FP.l2d wv), .second, oI (4 : Int32)] [(.ref this)]))
    obtain ⟨T10, X10, e10, st10⟩ := getF X3 hx hZ hown (host := "") (Or.inl (own_w hw 16)) Via.refl e3 F6 (g := (mkF m 29 #[oR this, oI (0 : Int32), oD (FP.l2d wv), .second, oI (4 : Int32)] [(.ref this)])) rfl rfl (hb hby d3_29)
    refine own_via st10 ?_
    refine own_via (fun t kz => XS.iload X10.here hx rfl (hb hby d3_32) rfl kz) ?_
    refine own_via (fun t kz => XS.aloadN X10.here hx rfl (hb hby d3_34) rfl rfl kz) ?_
    show own_Go p e below _ (T10.setTop (mkF m 35 #[oR this, oI (0 : Int32), oD (FP.l2d wv), .second, oI (4 : Int32)] [(.ref this), (.int (4 : Int32)), (.ref arr)]))
    obtain ⟨T11, X11, e11, st11⟩ := getF X10 hx hZ hown (host := "") (Or.inl (own_w hw 16)) Via.refl e10 F6 (g := (mkF m 35 #[oR this, oI (0 : Int32), oD (FP.l2d wv), .second, oI (4 : Int32)] [(.ref this), (.int (4 : Int32)), (.ref arr)])) rfl rfl (hb hby d3_35)
    refine own_via st11 ?_
    refine own_via (fun t kz => XS.iconst X11.here hx rfl (hb hby d3_38) kz) ?_
    refine own_via (fun t kz => XS.iload X11.here hx rfl (hb hby d3_39) rfl kz) ?_
    refine own_via (fun t kz => XS.imul X11.here hx rfl (hb hby d3_41) rfl kz) ?_
    show own_Go p e below _ (T11.setTop (mkF m 42 #[oR this, oI (0 : Int32), oD (FP.l2d wv), .second, oI (4 : Int32)] [(.int (8 : Int32)), (.ref arr), (.int (4 : Int32)), (.ref arr)]))
    obtain ⟨cl12, Ar12, kc12, Sz12, Nn12, Hs12, Gs12⟩ := id V9
    have in12 := inb_of (j := (8 : Int32)) Sz12 ⟨by decide, by decide⟩
    have at12 : cl12.slots[((8 : Int32)).toNatClampNeg]? = some (.double (FP.l2d wv)) := Hs12.at in12 rfl
    refine own_via (fun t kz => X11.daload hx (j := (8 : Int32)) (v := (.double (FP.l2d wv))) (by rw [e11]; exact Ar12.1) (State.isArrayOf_alike hZ.alike Ar12.2.1) Ar12.2.2 in12 at12 (g := (mkF m 42 #[oR this, oI (0 : Int32), oD (FP.l2d wv), .second, oI (4 : Int32)] [(.int (8 : Int32)), (.ref arr), (.int (4 : Int32)), (.ref arr)])) rfl rfl (hb hby d3_42) t kz) ?_
    refine own_via (fun t kz => XS.aloadN X11.here hx rfl (hb hby d3_43) rfl rfl kz) ?_
    show own_Go p e below _ (T11.setTop (mkF m 44 #[oR this, oI (0 : Int32), oD (FP.l2d wv), .second, oI (4 : Int32)] [(.ref this), (.double (FP.l2d wv)), (.int (4 : Int32)), (.ref arr)]))
    obtain ⟨T13, X13, e13, st13⟩ := getF X11 hx hZ hown (host := "") (Or.inl (own_w hw 16)) Via.refl e11 F6 (g := (mkF m 44 #[oR this, oI (0 : Int32), oD (FP.l2d wv), .second, oI (4 : Int32)] [(.ref this), (.double (FP.l2d wv)), (.int (4 : Int32)), (.ref arr)])) rfl rfl (hb hby d3_44)
    refine own_via st13 ?_
    refine own_via (fun t kz => XS.iconst X13.here hx rfl (hb hby d3_47) kz) ?_
    refine own_via (fun t kz => XS.iload X13.here hx rfl (hb hby d3_48) rfl kz) ?_
    refine own_via (fun t kz => XS.imul X13.here hx rfl (hb hby d3_50) rfl kz) ?_
    show own_Go p e below _ (T13.setTop (mkF m 51 #[oR this, oI (0 : Int32), oD (FP.l2d wv), .second, oI (4 : Int32)] [(.int (8 : Int32)), (.ref arr), (.double (FP.l2d wv)), (.int (4 : Int32)), (.ref arr)]))
    refine own_via (fun t kz => XS.iconst X13.here hx rfl (hb hby d3_51) kz) ?_
    refine own_via (fun t kz => XS.iadd X13.here hx rfl (hb hby d3_52) rfl kz) ?_
    show own_Go p e below _ (T13.setTop (mkF m 53 #[oR this, oI (0 : Int32), oD (FP.l2d wv), .second, oI (4 : Int32)] [(.int (9 : Int32)), (.ref arr), (.double (FP.l2d wv)), (.int (4 : Int32)), (.ref arr)]))
    obtain ⟨cl14, Ar14, kc14, Sz14, Nn14, Hs14, Gs14⟩ := id V9
    have in14 := inb_of (j := (9 : Int32)) Sz14 ⟨by decide, by decide⟩
    have at14 : cl14.slots[((9 : Int32)).toNatClampNeg]? = some (.double (FP.l2d w1_)) := Hs14.at in14 rfl
    refine own_via (fun t kz => X13.daload hx (j := (9 : Int32)) (v := (.double (FP.l2d w1_))) (by rw [e13]; exact Ar14.1) (State.isArrayOf_alike hZ.alike Ar14.2.1) Ar14.2.2 in14 at14 (g := (mkF m 53 #[oR this, oI (0 : Int32), oD (FP.l2d wv), .second, oI (4 : Int32)] [(.int (9 : Int32)), (.ref arr), (.double (FP.l2d wv)), (.int (4 : Int32)), (.ref arr)])) rfl rfl (hb hby d3_53) t kz) ?_
    show own_Go p e below _ (T13.setTop (mkF m 54 #[oR this, oI (0 : Int32), oD (FP.l2d wv), .second, oI (4 : Int32)] [(.double (FP.l2d w1_)), (.double (FP.l2d wv)), (.int (4 : Int32)), (.ref arr)]))
    refine own_via (fun t kz => XS.daddS X13.here hx rfl (hb hby d3_54) rfl (nn_w (dadd_w (own_b53 hbv (by decide)) (own_b53 hb1 (by decide)))) (dadd_w (own_b53 hbv (by decide)) (own_b53 hb1 (by decide))) kz) ?_
    show own_Go p e below _ (T13.setTop (mkF m 55 #[oR this, oI (0 : Int32), oD (FP.l2d wv), .second, oI (4 : Int32)] [(.double (FP.l2d (wv + w1_))), (.int (4 : Int32)), (.ref arr)]))
    obtain ⟨cl15, Ar15, kc15, Sz15, Nn15, Hs15, Gs15⟩ := id V9
    obtain ⟨T15, h15, X15, e15, W15, st15⟩ := stD X13 hx hZ e13 Ar15 (j := (4 : Int32)) (inb_of Sz15 ⟨by decide, by decide⟩) (g := (mkF m 55 #[oR this, oI (0 : Int32), oD (FP.l2d wv), .second, oI (4 : Int32)] [(.double (FP.l2d (wv + w1_))), (.int (4 : Int32)), (.ref arr)])) rfl rfl (hb hby d3_55)
    refine own_via st15 ?_
    have E16 := E4.wr W15
    have F17 := F5.other W15 (Or.inl (own_neq (by omega)))
    have F18 := F6.other W15 (Or.inl (own_neq (by omega)))
    have Zs19 : n0 ≤ h15.size := Nat.le_trans Zs7 (Keep.of_wr W15).1
    have N20 := Fr.snoc X15 N8 (show n0 ≤ arr by omega)
    have V21 : Arv Z h15 arr kA .double (16 : Int32) [(.double (FP.l2d (0 : Int64))), (.double (FP.l2d (((w0_ + w1_) + (w2_ + w3_)) + ((w4_ + w5_) + (w6_ + w7_))))), (.double (FP.l2d ((w0_ + w1_) + (w2_ + w3_)))), (.double (FP.l2d ((w4_ + w5_) + (w6_ + w7_)))), (.double (FP.l2d (wv + w1_))), (.double (FP.l2d (w2_ + w3_))), (.double (FP.l2d (w4_ + w5_))), (.double (FP.l2d (w6_ + w7_))), (.double (FP.l2d wv)), (.double (FP.l2d w1_)), (.double (FP.l2d w2_)), (.double (FP.l2d w3_)), (.double (FP.l2d w4_)), (.double (FP.l2d w5_)), (.double (FP.l2d w6_)), (.double (FP.l2d w7_))] (.double (FP.l2d (0 : Int64))) := Arv.set Ar15 kc15 Sz15 Nn15 Hs15 Gs15 rfl W15 4 (by first | decide | (show 4 < 16; decide)) (by first | decide | (show 4 < 16; decide))
    refine own_via (fun t kz => XS.iload X15.here hx rfl (hb hby d3_56) rfl kz) ?_
    refine own_via (fun t kz => XS.iconst X15.here hx rfl (hb hby d3_58) kz) ?_
    refine own_via (fun t kz => XS.idiv X15.here hx rfl (hb hby d3_59) rfl (by decide) kz) ?_
    show own_Go p e below _ (T15.setTop (mkF m 60 #[oR this, oI (0 : Int32), oD (FP.l2d wv), .second, oI (4 : Int32)] [(.int (2 : Int32))]))
    refine own_via (fun t kz => XS.istore X15.here hx rfl (hb hby d3_60) rfl (l' := #[oR this, oI (0 : Int32), oD (FP.l2d wv), .second, oI (2 : Int32)]) rfl kz) ?_
    refine own_via (fun t kz => XS.goto X15.here hx rfl (pc0 := 62) (pc' := 22) rfl (hb hby d3_62) (by decide) (by decide) kz) ?_
    refine own_via (fun t kz => XS.iload X15.here hx rfl (hb hby d3_22) rfl kz) ?_
    refine own_via (fun t kz => XS.iconst X15.here hx rfl (hb hby d3_24) kz) ?_
    show own_Go p e below _ (T15.setTop (mkF m 25 #[oR this, oI (0 : Int32), oD (FP.l2d wv), .second, oI (2 : Int32)] [(.int (1 : Int32)), (.int (2 : Int32))]))
    refine own_via (fun t kz => XS.icmpNo X15.here hx rfl (hb hby d3_25) rfl (flt (by decide : ¬ ((2 : Int32) < (1 : Int32)))).1 kz) ?_
    refine own_via (fun t kz => XS.aloadN X15.here hx rfl (hb hby d3_28) rfl rfl kz) ?_
    show own_Go p e below _ (T15.setTop (mkF m 29 #[oR this, oI (0 : Int32), oD (FP.l2d wv), .second, oI (2 : Int32)] [(.ref this)]))
    obtain ⟨T22, X22, e22, st22⟩ := getF X15 hx hZ hown (host := "") (Or.inl (own_w hw 16)) Via.refl e15 F18 (g := (mkF m 29 #[oR this, oI (0 : Int32), oD (FP.l2d wv), .second, oI (2 : Int32)] [(.ref this)])) rfl rfl (hb hby d3_29)
    refine own_via st22 ?_
    refine own_via (fun t kz => XS.iload X22.here hx rfl (hb hby d3_32) rfl kz) ?_
    refine own_via (fun t kz => XS.aloadN X22.here hx rfl (hb hby d3_34) rfl rfl kz) ?_
    show own_Go p e below _ (T22.setTop (mkF m 35 #[oR this, oI (0 : Int32), oD (FP.l2d wv), .second, oI (2 : Int32)] [(.ref this), (.int (2 : Int32)), (.ref arr)]))
    obtain ⟨T23, X23, e23, st23⟩ := getF X22 hx hZ hown (host := "") (Or.inl (own_w hw 16)) Via.refl e22 F18 (g := (mkF m 35 #[oR this, oI (0 : Int32), oD (FP.l2d wv), .second, oI (2 : Int32)] [(.ref this), (.int (2 : Int32)), (.ref arr)])) rfl rfl (hb hby d3_35)
    refine own_via st23 ?_
    refine own_via (fun t kz => XS.iconst X23.here hx rfl (hb hby d3_38) kz) ?_
    refine own_via (fun t kz => XS.iload X23.here hx rfl (hb hby d3_39) rfl kz) ?_
    refine own_via (fun t kz => XS.imul X23.here hx rfl (hb hby d3_41) rfl kz) ?_
    show own_Go p e below _ (T23.setTop (mkF m 42 #[oR this, oI (0 : Int32), oD (FP.l2d wv), .second, oI (2 : Int32)] [(.int (4 : Int32)), (.ref arr), (.int (2 : Int32)), (.ref arr)]))
    obtain ⟨cl24, Ar24, kc24, Sz24, Nn24, Hs24, Gs24⟩ := id V21
    have in24 := inb_of (j := (4 : Int32)) Sz24 ⟨by decide, by decide⟩
    have at24 : cl24.slots[((4 : Int32)).toNatClampNeg]? = some (.double (FP.l2d (wv + w1_))) := Hs24.at in24 rfl
    refine own_via (fun t kz => X23.daload hx (j := (4 : Int32)) (v := (.double (FP.l2d (wv + w1_)))) (by rw [e23]; exact Ar24.1) (State.isArrayOf_alike hZ.alike Ar24.2.1) Ar24.2.2 in24 at24 (g := (mkF m 42 #[oR this, oI (0 : Int32), oD (FP.l2d wv), .second, oI (2 : Int32)] [(.int (4 : Int32)), (.ref arr), (.int (2 : Int32)), (.ref arr)])) rfl rfl (hb hby d3_42) t kz) ?_
    refine own_via (fun t kz => XS.aloadN X23.here hx rfl (hb hby d3_43) rfl rfl kz) ?_
    show own_Go p e below _ (T23.setTop (mkF m 44 #[oR this, oI (0 : Int32), oD (FP.l2d wv), .second, oI (2 : Int32)] [(.ref this), (.double (FP.l2d (wv + w1_))), (.int (2 : Int32)), (.ref arr)]))
    obtain ⟨T25, X25, e25, st25⟩ := getF X23 hx hZ hown (host := "") (Or.inl (own_w hw 16)) Via.refl e23 F18 (g := (mkF m 44 #[oR this, oI (0 : Int32), oD (FP.l2d wv), .second, oI (2 : Int32)] [(.ref this), (.double (FP.l2d (wv + w1_))), (.int (2 : Int32)), (.ref arr)])) rfl rfl (hb hby d3_44)
    refine own_via st25 ?_
    refine own_via (fun t kz => XS.iconst X25.here hx rfl (hb hby d3_47) kz) ?_
    refine own_via (fun t kz => XS.iload X25.here hx rfl (hb hby d3_48) rfl kz) ?_
    refine own_via (fun t kz => XS.imul X25.here hx rfl (hb hby d3_50) rfl kz) ?_
    show own_Go p e below _ (T25.setTop (mkF m 51 #[oR this, oI (0 : Int32), oD (FP.l2d wv), .second, oI (2 : Int32)] [(.int (4 : Int32)), (.ref arr), (.double (FP.l2d (wv + w1_))), (.int (2 : Int32)), (.ref arr)]))
    refine own_via (fun t kz => XS.iconst X25.here hx rfl (hb hby d3_51) kz) ?_
    refine own_via (fun t kz => XS.iadd X25.here hx rfl (hb hby d3_52) rfl kz) ?_
    show own_Go p e below _ (T25.setTop (mkF m 53 #[oR this, oI (0 : Int32), oD (FP.l2d wv), .second, oI (2 : Int32)] [(.int (5 : Int32)), (.ref arr), (.double (FP.l2d (wv + w1_))), (.int (2 : Int32)), (.ref arr)]))
    obtain ⟨cl26, Ar26, kc26, Sz26, Nn26, Hs26, Gs26⟩ := id V21
    have in26 := inb_of (j := (5 : Int32)) Sz26 ⟨by decide, by decide⟩
    have at26 : cl26.slots[((5 : Int32)).toNatClampNeg]? = some (.double (FP.l2d (w2_ + w3_))) := Hs26.at in26 rfl
    refine own_via (fun t kz => X25.daload hx (j := (5 : Int32)) (v := (.double (FP.l2d (w2_ + w3_)))) (by rw [e25]; exact Ar26.1) (State.isArrayOf_alike hZ.alike Ar26.2.1) Ar26.2.2 in26 at26 (g := (mkF m 53 #[oR this, oI (0 : Int32), oD (FP.l2d wv), .second, oI (2 : Int32)] [(.int (5 : Int32)), (.ref arr), (.double (FP.l2d (wv + w1_))), (.int (2 : Int32)), (.ref arr)])) rfl rfl (hb hby d3_53) t kz) ?_
    show own_Go p e below _ (T25.setTop (mkF m 54 #[oR this, oI (0 : Int32), oD (FP.l2d wv), .second, oI (2 : Int32)] [(.double (FP.l2d (w2_ + w3_))), (.double (FP.l2d (wv + w1_))), (.int (2 : Int32)), (.ref arr)]))
    refine own_via (fun t kz => XS.daddS X25.here hx rfl (hb hby d3_54) rfl (nn_w (dadd_w (own_b53 (own_bda hbv hb1 (by decide)) (by decide)) (own_b53 (own_bda hb2 hb3 (by decide)) (by decide)))) (dadd_w (own_b53 (own_bda hbv hb1 (by decide)) (by decide)) (own_b53 (own_bda hb2 hb3 (by decide)) (by decide))) kz) ?_
    show own_Go p e below _ (T25.setTop (mkF m 55 #[oR this, oI (0 : Int32), oD (FP.l2d wv), .second, oI (2 : Int32)] [(.double (FP.l2d ((wv + w1_) + (w2_ + w3_)))), (.int (2 : Int32)), (.ref arr)]))
    obtain ⟨cl27, Ar27, kc27, Sz27, Nn27, Hs27, Gs27⟩ := id V21
    obtain ⟨T27, h27, X27, e27, W27, st27⟩ := stD X25 hx hZ e25 Ar27 (j := (2 : Int32)) (inb_of Sz27 ⟨by decide, by decide⟩) (g := (mkF m 55 #[oR this, oI (0 : Int32), oD (FP.l2d wv), .second, oI (2 : Int32)] [(.double (FP.l2d ((wv + w1_) + (w2_ + w3_)))), (.int (2 : Int32)), (.ref arr)])) rfl rfl (hb hby d3_55)
    refine own_via st27 ?_
    have E28 := E16.wr W27
    have F29 := F17.other W27 (Or.inl (own_neq (by omega)))
    have F30 := F18.other W27 (Or.inl (own_neq (by omega)))
    have Zs31 : n0 ≤ h27.size := Nat.le_trans Zs19 (Keep.of_wr W27).1
    have N32 := Fr.snoc X27 N20 (show n0 ≤ arr by omega)
    have V33 : Arv Z h27 arr kA .double (16 : Int32) [(.double (FP.l2d (0 : Int64))), (.double (FP.l2d (((w0_ + w1_) + (w2_ + w3_)) + ((w4_ + w5_) + (w6_ + w7_))))), (.double (FP.l2d ((wv + w1_) + (w2_ + w3_)))), (.double (FP.l2d ((w4_ + w5_) + (w6_ + w7_)))), (.double (FP.l2d (wv + w1_))), (.double (FP.l2d (w2_ + w3_))), (.double (FP.l2d (w4_ + w5_))), (.double (FP.l2d (w6_ + w7_))), (.double (FP.l2d wv)), (.double (FP.l2d w1_)), (.double (FP.l2d w2_)), (.double (FP.l2d w3_)), (.double (FP.l2d w4_)), (.double (FP.l2d w5_)), (.double (FP.l2d w6_)), (.double (FP.l2d w7_))] (.double (FP.l2d (0 : Int64))) := Arv.set Ar27 kc27 Sz27 Nn27 Hs27 Gs27 rfl W27 2 (by first | decide | (show 2 < 16; decide)) (by first | decide | (show 2 < 16; decide))
    refine own_via (fun t kz => XS.iload X27.here hx rfl (hb hby d3_56) rfl kz) ?_
    refine own_via (fun t kz => XS.iconst X27.here hx rfl (hb hby d3_58) kz) ?_
    refine own_via (fun t kz => XS.idiv X27.here hx rfl (hb hby d3_59) rfl (by decide) kz) ?_
    show own_Go p e below _ (T27.setTop (mkF m 60 #[oR this, oI (0 : Int32), oD (FP.l2d wv), .second, oI (2 : Int32)] [(.int (1 : Int32))]))
    refine own_via (fun t kz => XS.istore X27.here hx rfl (hb hby d3_60) rfl (l' := #[oR this, oI (0 : Int32), oD (FP.l2d wv), .second, oI (1 : Int32)]) rfl kz) ?_
    refine own_via (fun t kz => XS.goto X27.here hx rfl (pc0 := 62) (pc' := 22) rfl (hb hby d3_62) (by decide) (by decide) kz) ?_
    refine own_via (fun t kz => XS.iload X27.here hx rfl (hb hby d3_22) rfl kz) ?_
    refine own_via (fun t kz => XS.iconst X27.here hx rfl (hb hby d3_24) kz) ?_
    show own_Go p e below _ (T27.setTop (mkF m 25 #[oR this, oI (0 : Int32), oD (FP.l2d wv), .second, oI (1 : Int32)] [(.int (1 : Int32)), (.int (1 : Int32))]))
    refine own_via (fun t kz => XS.icmpNo X27.here hx rfl (hb hby d3_25) rfl (flt (by decide : ¬ ((1 : Int32) < (1 : Int32)))).1 kz) ?_
    refine own_via (fun t kz => XS.aloadN X27.here hx rfl (hb hby d3_28) rfl rfl kz) ?_
    show own_Go p e below _ (T27.setTop (mkF m 29 #[oR this, oI (0 : Int32), oD (FP.l2d wv), .second, oI (1 : Int32)] [(.ref this)]))
    obtain ⟨T34, X34, e34, st34⟩ := getF X27 hx hZ hown (host := "") (Or.inl (own_w hw 16)) Via.refl e27 F30 (g := (mkF m 29 #[oR this, oI (0 : Int32), oD (FP.l2d wv), .second, oI (1 : Int32)] [(.ref this)])) rfl rfl (hb hby d3_29)
    refine own_via st34 ?_
    refine own_via (fun t kz => XS.iload X34.here hx rfl (hb hby d3_32) rfl kz) ?_
    refine own_via (fun t kz => XS.aloadN X34.here hx rfl (hb hby d3_34) rfl rfl kz) ?_
    show own_Go p e below _ (T34.setTop (mkF m 35 #[oR this, oI (0 : Int32), oD (FP.l2d wv), .second, oI (1 : Int32)] [(.ref this), (.int (1 : Int32)), (.ref arr)]))
    obtain ⟨T35, X35, e35, st35⟩ := getF X34 hx hZ hown (host := "") (Or.inl (own_w hw 16)) Via.refl e34 F30 (g := (mkF m 35 #[oR this, oI (0 : Int32), oD (FP.l2d wv), .second, oI (1 : Int32)] [(.ref this), (.int (1 : Int32)), (.ref arr)])) rfl rfl (hb hby d3_35)
    refine own_via st35 ?_
    refine own_via (fun t kz => XS.iconst X35.here hx rfl (hb hby d3_38) kz) ?_
    refine own_via (fun t kz => XS.iload X35.here hx rfl (hb hby d3_39) rfl kz) ?_
    refine own_via (fun t kz => XS.imul X35.here hx rfl (hb hby d3_41) rfl kz) ?_
    show own_Go p e below _ (T35.setTop (mkF m 42 #[oR this, oI (0 : Int32), oD (FP.l2d wv), .second, oI (1 : Int32)] [(.int (2 : Int32)), (.ref arr), (.int (1 : Int32)), (.ref arr)]))
    obtain ⟨cl36, Ar36, kc36, Sz36, Nn36, Hs36, Gs36⟩ := id V33
    have in36 := inb_of (j := (2 : Int32)) Sz36 ⟨by decide, by decide⟩
    have at36 : cl36.slots[((2 : Int32)).toNatClampNeg]? = some (.double (FP.l2d ((wv + w1_) + (w2_ + w3_)))) := Hs36.at in36 rfl
    refine own_via (fun t kz => X35.daload hx (j := (2 : Int32)) (v := (.double (FP.l2d ((wv + w1_) + (w2_ + w3_))))) (by rw [e35]; exact Ar36.1) (State.isArrayOf_alike hZ.alike Ar36.2.1) Ar36.2.2 in36 at36 (g := (mkF m 42 #[oR this, oI (0 : Int32), oD (FP.l2d wv), .second, oI (1 : Int32)] [(.int (2 : Int32)), (.ref arr), (.int (1 : Int32)), (.ref arr)])) rfl rfl (hb hby d3_42) t kz) ?_
    refine own_via (fun t kz => XS.aloadN X35.here hx rfl (hb hby d3_43) rfl rfl kz) ?_
    show own_Go p e below _ (T35.setTop (mkF m 44 #[oR this, oI (0 : Int32), oD (FP.l2d wv), .second, oI (1 : Int32)] [(.ref this), (.double (FP.l2d ((wv + w1_) + (w2_ + w3_)))), (.int (1 : Int32)), (.ref arr)]))
    obtain ⟨T37, X37, e37, st37⟩ := getF X35 hx hZ hown (host := "") (Or.inl (own_w hw 16)) Via.refl e35 F30 (g := (mkF m 44 #[oR this, oI (0 : Int32), oD (FP.l2d wv), .second, oI (1 : Int32)] [(.ref this), (.double (FP.l2d ((wv + w1_) + (w2_ + w3_)))), (.int (1 : Int32)), (.ref arr)])) rfl rfl (hb hby d3_44)
    refine own_via st37 ?_
    refine own_via (fun t kz => XS.iconst X37.here hx rfl (hb hby d3_47) kz) ?_
    refine own_via (fun t kz => XS.iload X37.here hx rfl (hb hby d3_48) rfl kz) ?_
    refine own_via (fun t kz => XS.imul X37.here hx rfl (hb hby d3_50) rfl kz) ?_
    show own_Go p e below _ (T37.setTop (mkF m 51 #[oR this, oI (0 : Int32), oD (FP.l2d wv), .second, oI (1 : Int32)] [(.int (2 : Int32)), (.ref arr), (.double (FP.l2d ((wv + w1_) + (w2_ + w3_)))), (.int (1 : Int32)), (.ref arr)]))
    refine own_via (fun t kz => XS.iconst X37.here hx rfl (hb hby d3_51) kz) ?_
    refine own_via (fun t kz => XS.iadd X37.here hx rfl (hb hby d3_52) rfl kz) ?_
    show own_Go p e below _ (T37.setTop (mkF m 53 #[oR this, oI (0 : Int32), oD (FP.l2d wv), .second, oI (1 : Int32)] [(.int (3 : Int32)), (.ref arr), (.double (FP.l2d ((wv + w1_) + (w2_ + w3_)))), (.int (1 : Int32)), (.ref arr)]))
    obtain ⟨cl38, Ar38, kc38, Sz38, Nn38, Hs38, Gs38⟩ := id V33
    have in38 := inb_of (j := (3 : Int32)) Sz38 ⟨by decide, by decide⟩
    have at38 : cl38.slots[((3 : Int32)).toNatClampNeg]? = some (.double (FP.l2d ((w4_ + w5_) + (w6_ + w7_)))) := Hs38.at in38 rfl
    refine own_via (fun t kz => X37.daload hx (j := (3 : Int32)) (v := (.double (FP.l2d ((w4_ + w5_) + (w6_ + w7_))))) (by rw [e37]; exact Ar38.1) (State.isArrayOf_alike hZ.alike Ar38.2.1) Ar38.2.2 in38 at38 (g := (mkF m 53 #[oR this, oI (0 : Int32), oD (FP.l2d wv), .second, oI (1 : Int32)] [(.int (3 : Int32)), (.ref arr), (.double (FP.l2d ((wv + w1_) + (w2_ + w3_)))), (.int (1 : Int32)), (.ref arr)])) rfl rfl (hb hby d3_53) t kz) ?_
    show own_Go p e below _ (T37.setTop (mkF m 54 #[oR this, oI (0 : Int32), oD (FP.l2d wv), .second, oI (1 : Int32)] [(.double (FP.l2d ((w4_ + w5_) + (w6_ + w7_)))), (.double (FP.l2d ((wv + w1_) + (w2_ + w3_)))), (.int (1 : Int32)), (.ref arr)]))
    refine own_via (fun t kz => XS.daddS X37.here hx rfl (hb hby d3_54) rfl (nn_w (dadd_w (own_b53 (own_bda (own_bda hbv hb1 (by decide)) (own_bda hb2 hb3 (by decide)) (by decide)) (by decide)) (own_b53 (own_bda (own_bda hb4 hb5 (by decide)) (own_bda hb6 hb7 (by decide)) (by decide)) (by decide)))) (dadd_w (own_b53 (own_bda (own_bda hbv hb1 (by decide)) (own_bda hb2 hb3 (by decide)) (by decide)) (by decide)) (own_b53 (own_bda (own_bda hb4 hb5 (by decide)) (own_bda hb6 hb7 (by decide)) (by decide)) (by decide))) kz) ?_
    show own_Go p e below _ (T37.setTop (mkF m 55 #[oR this, oI (0 : Int32), oD (FP.l2d wv), .second, oI (1 : Int32)] [(.double (FP.l2d (((wv + w1_) + (w2_ + w3_)) + ((w4_ + w5_) + (w6_ + w7_))))), (.int (1 : Int32)), (.ref arr)]))
    obtain ⟨cl39, Ar39, kc39, Sz39, Nn39, Hs39, Gs39⟩ := id V33
    obtain ⟨T39, h39, X39, e39, W39, st39⟩ := stD X37 hx hZ e37 Ar39 (j := (1 : Int32)) (inb_of Sz39 ⟨by decide, by decide⟩) (g := (mkF m 55 #[oR this, oI (0 : Int32), oD (FP.l2d wv), .second, oI (1 : Int32)] [(.double (FP.l2d (((wv + w1_) + (w2_ + w3_)) + ((w4_ + w5_) + (w6_ + w7_))))), (.int (1 : Int32)), (.ref arr)])) rfl rfl (hb hby d3_55)
    refine own_via st39 ?_
    have E40 := E28.wr W39
    have F41 := F29.other W39 (Or.inl (own_neq (by omega)))
    have F42 := F30.other W39 (Or.inl (own_neq (by omega)))
    have Zs43 : n0 ≤ h39.size := Nat.le_trans Zs31 (Keep.of_wr W39).1
    have N44 := Fr.snoc X39 N32 (show n0 ≤ arr by omega)
    have V45 : Arv Z h39 arr kA .double (16 : Int32) [(.double (FP.l2d (0 : Int64))), (.double (FP.l2d (((wv + w1_) + (w2_ + w3_)) + ((w4_ + w5_) + (w6_ + w7_))))), (.double (FP.l2d ((wv + w1_) + (w2_ + w3_)))), (.double (FP.l2d ((w4_ + w5_) + (w6_ + w7_)))), (.double (FP.l2d (wv + w1_))), (.double (FP.l2d (w2_ + w3_))), (.double (FP.l2d (w4_ + w5_))), (.double (FP.l2d (w6_ + w7_))), (.double (FP.l2d wv)), (.double (FP.l2d w1_)), (.double (FP.l2d w2_)), (.double (FP.l2d w3_)), (.double (FP.l2d w4_)), (.double (FP.l2d w5_)), (.double (FP.l2d w6_)), (.double (FP.l2d w7_))] (.double (FP.l2d (0 : Int64))) := Arv.set Ar39 kc39 Sz39 Nn39 Hs39 Gs39 rfl W39 1 (by first | decide | (show 1 < 16; decide)) (by first | decide | (show 1 < 16; decide))
    refine own_via (fun t kz => XS.iload X39.here hx rfl (hb hby d3_56) rfl kz) ?_
    refine own_via (fun t kz => XS.iconst X39.here hx rfl (hb hby d3_58) kz) ?_
    refine own_via (fun t kz => XS.idiv X39.here hx rfl (hb hby d3_59) rfl (by decide) kz) ?_
    show own_Go p e below _ (T39.setTop (mkF m 60 #[oR this, oI (0 : Int32), oD (FP.l2d wv), .second, oI (1 : Int32)] [(.int (0 : Int32))]))
    refine own_via (fun t kz => XS.istore X39.here hx rfl (hb hby d3_60) rfl (l' := #[oR this, oI (0 : Int32), oD (FP.l2d wv), .second, oI (0 : Int32)]) rfl kz) ?_
    refine own_via (fun t kz => XS.goto X39.here hx rfl (pc0 := 62) (pc' := 22) rfl (hb hby d3_62) (by decide) (by decide) kz) ?_
    refine own_via (fun t kz => XS.iload X39.here hx rfl (hb hby d3_22) rfl kz) ?_
    refine own_via (fun t kz => XS.iconst X39.here hx rfl (hb hby d3_24) kz) ?_
    show own_Go p e below _ (T39.setTop (mkF m 25 #[oR this, oI (0 : Int32), oD (FP.l2d wv), .second, oI (0 : Int32)] [(.int (1 : Int32)), (.int (0 : Int32))]))
    refine own_via (fun t kz => XS.icmpYes X39.here hx rfl (pc0 := 25) (pc' := 65) rfl (hb hby d3_25) rfl (tlt (by decide : (0 : Int32) < (1 : Int32))).1 (by decide) (by decide) kz) ?_
    show own_Go p e below _ (T39.setTop (mkF m 65 #[oR this, oI (0 : Int32), oD (FP.l2d wv), .second, oI (0 : Int32)] []))
    have hT : own_W8 Z h39 n0 this wv w1_ w2_ w3_ w4_ w5_ w6_ w7_ := ⟨arr, kA, ⟨ch0, ch1⟩, E40, F41, F42, V45⟩
    obtain ⟨fs, hr, hrun, hended, hW, hsame⟩ := X39.leave (v := none) (fun _ => rfl)
    refine ⟨_, _, X39.returnOut hx Bd.returns (hb hby d3_65) hr, hrun, hended, _, _, rfl, ?_, ⟨_, rfl⟩, hW, hsame.mono (by decide) (by decide)⟩
    show Q3_8 Z this (0 : Int32) wv w0_ w1_ w2_ w3_ w4_ w5_ w6_ w7_ h0 n0 _ T39.heap _
    rw [e39]
    exact ⟨rfl, N44, Zs43, by rw [if_pos (rfl : (0 : Int32) = (0 : Int32)), if_neg (by decide : ¬ (0 : Int32) = (1 : Int32)), if_neg (by decide : ¬ (0 : Int32) = (2 : Int32)), if_neg (by decide : ¬ (0 : Int32) = (3 : Int32)), if_neg (by decide : ¬ (0 : Int32) = (4 : Int32)), if_neg (by decide : ¬ (0 : Int32) = (5 : Int32)), if_neg (by decide : ¬ (0 : Int32) = (6 : Int32)), if_neg (by decide : ¬ (0 : Int32) = (7 : Int32))]; exact hT⟩
  · show own_Go p e below _ (s₁.setTop (mkF m 0 #[oR this, oI (1 : Int32), oD (FP.l2d wv), .second, .unset] []))
    refine own_via (fun t kz => XS.aloadN X0.here hx rfl (hb hby d3_0) rfl rfl kz) ?_
    show own_Go p e below _ (s₁.setTop (mkF m 1 #[oR this, oI (1 : Int32), oD (FP.l2d wv), .second, .unset] [(.ref this)]))
    obtain ⟨T47, X47, e47, st47⟩ := getF X0 hx hZ hown (host := "") (Or.inl (own_w hw 13)) Via.refl e0 Fq0 (g := (mkF m 1 #[oR this, oI (1 : Int32), oD (FP.l2d wv), .second, .unset] [(.ref this)])) rfl rfl (hb hby d3_1)
    refine own_via st47 ?_
    refine own_via (fun t kz => XS.iloadN X47.here hx rfl (hb hby d3_4) rfl kz) ?_
    refine own_via (fun t kz => XS.iadd X47.here hx rfl (hb hby d3_5) rfl kz) ?_
    refine own_via (fun t kz => XS.istore X47.here hx rfl (hb hby d3_6) rfl (l' := #[oR this, oI (1 : Int32), oD (FP.l2d wv), .second, oI (9 : Int32)]) rfl kz) ?_
    show own_Go p e below _ (T47.setTop (mkF m 8 #[oR this, oI (1 : Int32), oD (FP.l2d wv), .second, oI (9 : Int32)] []))
    refine own_via (fun t kz => XS.aloadN X47.here hx rfl (hb hby d3_8) rfl rfl kz) ?_
    show own_Go p e below _ (T47.setTop (mkF m 9 #[oR this, oI (1 : Int32), oD (FP.l2d wv), .second, oI (9 : Int32)] [(.ref this)]))
    obtain ⟨T48, X48, e48, st48⟩ := getF X47 hx hZ hown (host := "") (Or.inl (own_w hw 16)) Via.refl e47 Fq1 (g := (mkF m 9 #[oR this, oI (1 : Int32), oD (FP.l2d wv), .second, oI (9 : Int32)] [(.ref this)])) rfl rfl (hb hby d3_9)
    refine own_via st48 ?_
    refine own_via (fun t kz => XS.iload X48.here hx rfl (hb hby d3_12) rfl kz) ?_
    refine own_via (fun t kz => XS.dloadN X48.here hx rfl (hb hby d3_14) rfl kz) ?_
    show own_Go p e below _ (T48.setTop (mkF m 15 #[oR this, oI (1 : Int32), oD (FP.l2d wv), .second, oI (9 : Int32)] [(.double (FP.l2d wv)), (.int (9 : Int32)), (.ref arr)]))
    obtain ⟨cl49, Ar49, kc49, Sz49, Nn49, Hs49, Gs49⟩ := id Vq
    obtain ⟨T49, h49, X49, e49, W49, st49⟩ := stD X48 hx hZ e48 Ar49 (j := (9 : Int32)) (inb_of Sz49 ⟨by decide, by decide⟩) (g := (mkF m 15 #[oR this, oI (1 : Int32), oD (FP.l2d wv), .second, oI (9 : Int32)] [(.double (FP.l2d wv)), (.int (9 : Int32)), (.ref arr)])) rfl rfl (hb hby d3_15)
    refine own_via st49 ?_
    have E50 := Eq.wr W49
    have F51 := Fq0.other W49 (Or.inl (own_neq (by omega)))
    have F52 := Fq1.other W49 (Or.inl (own_neq (by omega)))
    have Zs53 : n0 ≤ h49.size := Nat.le_trans Z0 (Keep.of_wr W49).1
    have N54 := Fr.snoc X49 N0 (show n0 ≤ arr by omega)
    have V55 : Arv Z h49 arr kA .double (16 : Int32) [(.double (FP.l2d (0 : Int64))), (.double (FP.l2d (((w0_ + w1_) + (w2_ + w3_)) + ((w4_ + w5_) + (w6_ + w7_))))), (.double (FP.l2d ((w0_ + w1_) + (w2_ + w3_)))), (.double (FP.l2d ((w4_ + w5_) + (w6_ + w7_)))), (.double (FP.l2d (w0_ + w1_))), (.double (FP.l2d (w2_ + w3_))), (.double (FP.l2d (w4_ + w5_))), (.double (FP.l2d (w6_ + w7_))), (.double (FP.l2d w0_)), (.double (FP.l2d wv)), (.double (FP.l2d w2_)), (.double (FP.l2d w3_)), (.double (FP.l2d w4_)), (.double (FP.l2d w5_)), (.double (FP.l2d w6_)), (.double (FP.l2d w7_))] (.double (FP.l2d (0 : Int64))) := Arv.set Ar49 kc49 Sz49 Nn49 Hs49 Gs49 rfl W49 9 (by first | decide | (show 9 < 16; decide)) (by first | decide | (show 9 < 16; decide))
    refine own_via (fun t kz => XS.iload X49.here hx rfl (hb hby d3_16) rfl kz) ?_
    refine own_via (fun t kz => XS.iconst X49.here hx rfl (hb hby d3_18) kz) ?_
    refine own_via (fun t kz => XS.idiv X49.here hx rfl (hb hby d3_19) rfl (by decide) kz) ?_
    show own_Go p e below _ (T49.setTop (mkF m 20 #[oR this, oI (1 : Int32), oD (FP.l2d wv), .second, oI (9 : Int32)] [(.int (4 : Int32))]))
    refine own_via (fun t kz => XS.istore X49.here hx rfl (hb hby d3_20) rfl (l' := #[oR this, oI (1 : Int32), oD (FP.l2d wv), .second, oI (4 : Int32)]) rfl kz) ?_
    refine own_via (fun t kz => XS.iload X49.here hx rfl (hb hby d3_22) rfl kz) ?_
    refine own_via (fun t kz => XS.iconst X49.here hx rfl (hb hby d3_24) kz) ?_
    show own_Go p e below _ (T49.setTop (mkF m 25 #[oR this, oI (1 : Int32), oD (FP.l2d wv), .second, oI (4 : Int32)] [(.int (1 : Int32)), (.int (4 : Int32))]))
    refine own_via (fun t kz => XS.icmpNo X49.here hx rfl (hb hby d3_25) rfl (flt (by decide : ¬ ((4 : Int32) < (1 : Int32)))).1 kz) ?_
    refine own_via (fun t kz => XS.aloadN X49.here hx rfl (hb hby d3_28) rfl rfl kz) ?_
    show own_Go p e below _ (T49.setTop (mkF m 29 #[oR this, oI (1 : Int32), oD (FP.l2d wv), .second, oI (4 : Int32)] [(.ref this)]))
    obtain ⟨T56, X56, e56, st56⟩ := getF X49 hx hZ hown (host := "") (Or.inl (own_w hw 16)) Via.refl e49 F52 (g := (mkF m 29 #[oR this, oI (1 : Int32), oD (FP.l2d wv), .second, oI (4 : Int32)] [(.ref this)])) rfl rfl (hb hby d3_29)
    refine own_via st56 ?_
    refine own_via (fun t kz => XS.iload X56.here hx rfl (hb hby d3_32) rfl kz) ?_
    refine own_via (fun t kz => XS.aloadN X56.here hx rfl (hb hby d3_34) rfl rfl kz) ?_
    show own_Go p e below _ (T56.setTop (mkF m 35 #[oR this, oI (1 : Int32), oD (FP.l2d wv), .second, oI (4 : Int32)] [(.ref this), (.int (4 : Int32)), (.ref arr)]))
    obtain ⟨T57, X57, e57, st57⟩ := getF X56 hx hZ hown (host := "") (Or.inl (own_w hw 16)) Via.refl e56 F52 (g := (mkF m 35 #[oR this, oI (1 : Int32), oD (FP.l2d wv), .second, oI (4 : Int32)] [(.ref this), (.int (4 : Int32)), (.ref arr)])) rfl rfl (hb hby d3_35)
    refine own_via st57 ?_
    refine own_via (fun t kz => XS.iconst X57.here hx rfl (hb hby d3_38) kz) ?_
    refine own_via (fun t kz => XS.iload X57.here hx rfl (hb hby d3_39) rfl kz) ?_
    refine own_via (fun t kz => XS.imul X57.here hx rfl (hb hby d3_41) rfl kz) ?_
    show own_Go p e below _ (T57.setTop (mkF m 42 #[oR this, oI (1 : Int32), oD (FP.l2d wv), .second, oI (4 : Int32)] [(.int (8 : Int32)), (.ref arr), (.int (4 : Int32)), (.ref arr)]))
    obtain ⟨cl58, Ar58, kc58, Sz58, Nn58, Hs58, Gs58⟩ := id V55
    have in58 := inb_of (j := (8 : Int32)) Sz58 ⟨by decide, by decide⟩
    have at58 : cl58.slots[((8 : Int32)).toNatClampNeg]? = some (.double (FP.l2d w0_)) := Hs58.at in58 rfl
    refine own_via (fun t kz => X57.daload hx (j := (8 : Int32)) (v := (.double (FP.l2d w0_))) (by rw [e57]; exact Ar58.1) (State.isArrayOf_alike hZ.alike Ar58.2.1) Ar58.2.2 in58 at58 (g := (mkF m 42 #[oR this, oI (1 : Int32), oD (FP.l2d wv), .second, oI (4 : Int32)] [(.int (8 : Int32)), (.ref arr), (.int (4 : Int32)), (.ref arr)])) rfl rfl (hb hby d3_42) t kz) ?_
    refine own_via (fun t kz => XS.aloadN X57.here hx rfl (hb hby d3_43) rfl rfl kz) ?_
    show own_Go p e below _ (T57.setTop (mkF m 44 #[oR this, oI (1 : Int32), oD (FP.l2d wv), .second, oI (4 : Int32)] [(.ref this), (.double (FP.l2d w0_)), (.int (4 : Int32)), (.ref arr)]))
    obtain ⟨T59, X59, e59, st59⟩ := getF X57 hx hZ hown (host := "") (Or.inl (own_w hw 16)) Via.refl e57 F52 (g := (mkF m 44 #[oR this, oI (1 : Int32), oD (FP.l2d wv), .second, oI (4 : Int32)] [(.ref this), (.double (FP.l2d w0_)), (.int (4 : Int32)), (.ref arr)])) rfl rfl (hb hby d3_44)
    refine own_via st59 ?_
    refine own_via (fun t kz => XS.iconst X59.here hx rfl (hb hby d3_47) kz) ?_
    refine own_via (fun t kz => XS.iload X59.here hx rfl (hb hby d3_48) rfl kz) ?_
    refine own_via (fun t kz => XS.imul X59.here hx rfl (hb hby d3_50) rfl kz) ?_
    show own_Go p e below _ (T59.setTop (mkF m 51 #[oR this, oI (1 : Int32), oD (FP.l2d wv), .second, oI (4 : Int32)] [(.int (8 : Int32)), (.ref arr), (.double (FP.l2d w0_)), (.int (4 : Int32)), (.ref arr)]))
    refine own_via (fun t kz => XS.iconst X59.here hx rfl (hb hby d3_51) kz) ?_
    refine own_via (fun t kz => XS.iadd X59.here hx rfl (hb hby d3_52) rfl kz) ?_
    show own_Go p e below _ (T59.setTop (mkF m 53 #[oR this, oI (1 : Int32), oD (FP.l2d wv), .second, oI (4 : Int32)] [(.int (9 : Int32)), (.ref arr), (.double (FP.l2d w0_)), (.int (4 : Int32)), (.ref arr)]))
    obtain ⟨cl60, Ar60, kc60, Sz60, Nn60, Hs60, Gs60⟩ := id V55
    have in60 := inb_of (j := (9 : Int32)) Sz60 ⟨by decide, by decide⟩
    have at60 : cl60.slots[((9 : Int32)).toNatClampNeg]? = some (.double (FP.l2d wv)) := Hs60.at in60 rfl
    refine own_via (fun t kz => X59.daload hx (j := (9 : Int32)) (v := (.double (FP.l2d wv))) (by rw [e59]; exact Ar60.1) (State.isArrayOf_alike hZ.alike Ar60.2.1) Ar60.2.2 in60 at60 (g := (mkF m 53 #[oR this, oI (1 : Int32), oD (FP.l2d wv), .second, oI (4 : Int32)] [(.int (9 : Int32)), (.ref arr), (.double (FP.l2d w0_)), (.int (4 : Int32)), (.ref arr)])) rfl rfl (hb hby d3_53) t kz) ?_
    show own_Go p e below _ (T59.setTop (mkF m 54 #[oR this, oI (1 : Int32), oD (FP.l2d wv), .second, oI (4 : Int32)] [(.double (FP.l2d wv)), (.double (FP.l2d w0_)), (.int (4 : Int32)), (.ref arr)]))
    refine own_via (fun t kz => XS.daddS X59.here hx rfl (hb hby d3_54) rfl (nn_w (dadd_w (own_b53 hb0 (by decide)) (own_b53 hbv (by decide)))) (dadd_w (own_b53 hb0 (by decide)) (own_b53 hbv (by decide))) kz) ?_
    show own_Go p e below _ (T59.setTop (mkF m 55 #[oR this, oI (1 : Int32), oD (FP.l2d wv), .second, oI (4 : Int32)] [(.double (FP.l2d (w0_ + wv))), (.int (4 : Int32)), (.ref arr)]))
    obtain ⟨cl61, Ar61, kc61, Sz61, Nn61, Hs61, Gs61⟩ := id V55
    obtain ⟨T61, h61, X61, e61, W61, st61⟩ := stD X59 hx hZ e59 Ar61 (j := (4 : Int32)) (inb_of Sz61 ⟨by decide, by decide⟩) (g := (mkF m 55 #[oR this, oI (1 : Int32), oD (FP.l2d wv), .second, oI (4 : Int32)] [(.double (FP.l2d (w0_ + wv))), (.int (4 : Int32)), (.ref arr)])) rfl rfl (hb hby d3_55)
    refine own_via st61 ?_
    have E62 := E50.wr W61
    have F63 := F51.other W61 (Or.inl (own_neq (by omega)))
    have F64 := F52.other W61 (Or.inl (own_neq (by omega)))
    have Zs65 : n0 ≤ h61.size := Nat.le_trans Zs53 (Keep.of_wr W61).1
    have N66 := Fr.snoc X61 N54 (show n0 ≤ arr by omega)
    have V67 : Arv Z h61 arr kA .double (16 : Int32) [(.double (FP.l2d (0 : Int64))), (.double (FP.l2d (((w0_ + w1_) + (w2_ + w3_)) + ((w4_ + w5_) + (w6_ + w7_))))), (.double (FP.l2d ((w0_ + w1_) + (w2_ + w3_)))), (.double (FP.l2d ((w4_ + w5_) + (w6_ + w7_)))), (.double (FP.l2d (w0_ + wv))), (.double (FP.l2d (w2_ + w3_))), (.double (FP.l2d (w4_ + w5_))), (.double (FP.l2d (w6_ + w7_))), (.double (FP.l2d w0_)), (.double (FP.l2d wv)), (.double (FP.l2d w2_)), (.double (FP.l2d w3_)), (.double (FP.l2d w4_)), (.double (FP.l2d w5_)), (.double (FP.l2d w6_)), (.double (FP.l2d w7_))] (.double (FP.l2d (0 : Int64))) := Arv.set Ar61 kc61 Sz61 Nn61 Hs61 Gs61 rfl W61 4 (by first | decide | (show 4 < 16; decide)) (by first | decide | (show 4 < 16; decide))
    refine own_via (fun t kz => XS.iload X61.here hx rfl (hb hby d3_56) rfl kz) ?_
    refine own_via (fun t kz => XS.iconst X61.here hx rfl (hb hby d3_58) kz) ?_
    refine own_via (fun t kz => XS.idiv X61.here hx rfl (hb hby d3_59) rfl (by decide) kz) ?_
    show own_Go p e below _ (T61.setTop (mkF m 60 #[oR this, oI (1 : Int32), oD (FP.l2d wv), .second, oI (4 : Int32)] [(.int (2 : Int32))]))
    refine own_via (fun t kz => XS.istore X61.here hx rfl (hb hby d3_60) rfl (l' := #[oR this, oI (1 : Int32), oD (FP.l2d wv), .second, oI (2 : Int32)]) rfl kz) ?_
    refine own_via (fun t kz => XS.goto X61.here hx rfl (pc0 := 62) (pc' := 22) rfl (hb hby d3_62) (by decide) (by decide) kz) ?_
    refine own_via (fun t kz => XS.iload X61.here hx rfl (hb hby d3_22) rfl kz) ?_
    refine own_via (fun t kz => XS.iconst X61.here hx rfl (hb hby d3_24) kz) ?_
    show own_Go p e below _ (T61.setTop (mkF m 25 #[oR this, oI (1 : Int32), oD (FP.l2d wv), .second, oI (2 : Int32)] [(.int (1 : Int32)), (.int (2 : Int32))]))
    refine own_via (fun t kz => XS.icmpNo X61.here hx rfl (hb hby d3_25) rfl (flt (by decide : ¬ ((2 : Int32) < (1 : Int32)))).1 kz) ?_
    refine own_via (fun t kz => XS.aloadN X61.here hx rfl (hb hby d3_28) rfl rfl kz) ?_
    show own_Go p e below _ (T61.setTop (mkF m 29 #[oR this, oI (1 : Int32), oD (FP.l2d wv), .second, oI (2 : Int32)] [(.ref this)]))
    obtain ⟨T68, X68, e68, st68⟩ := getF X61 hx hZ hown (host := "") (Or.inl (own_w hw 16)) Via.refl e61 F64 (g := (mkF m 29 #[oR this, oI (1 : Int32), oD (FP.l2d wv), .second, oI (2 : Int32)] [(.ref this)])) rfl rfl (hb hby d3_29)
    refine own_via st68 ?_
    refine own_via (fun t kz => XS.iload X68.here hx rfl (hb hby d3_32) rfl kz) ?_
    refine own_via (fun t kz => XS.aloadN X68.here hx rfl (hb hby d3_34) rfl rfl kz) ?_
    show own_Go p e below _ (T68.setTop (mkF m 35 #[oR this, oI (1 : Int32), oD (FP.l2d wv), .second, oI (2 : Int32)] [(.ref this), (.int (2 : Int32)), (.ref arr)]))
    obtain ⟨T69, X69, e69, st69⟩ := getF X68 hx hZ hown (host := "") (Or.inl (own_w hw 16)) Via.refl e68 F64 (g := (mkF m 35 #[oR this, oI (1 : Int32), oD (FP.l2d wv), .second, oI (2 : Int32)] [(.ref this), (.int (2 : Int32)), (.ref arr)])) rfl rfl (hb hby d3_35)
    refine own_via st69 ?_
    refine own_via (fun t kz => XS.iconst X69.here hx rfl (hb hby d3_38) kz) ?_
    refine own_via (fun t kz => XS.iload X69.here hx rfl (hb hby d3_39) rfl kz) ?_
    refine own_via (fun t kz => XS.imul X69.here hx rfl (hb hby d3_41) rfl kz) ?_
    show own_Go p e below _ (T69.setTop (mkF m 42 #[oR this, oI (1 : Int32), oD (FP.l2d wv), .second, oI (2 : Int32)] [(.int (4 : Int32)), (.ref arr), (.int (2 : Int32)), (.ref arr)]))
    obtain ⟨cl70, Ar70, kc70, Sz70, Nn70, Hs70, Gs70⟩ := id V67
    have in70 := inb_of (j := (4 : Int32)) Sz70 ⟨by decide, by decide⟩
    have at70 : cl70.slots[((4 : Int32)).toNatClampNeg]? = some (.double (FP.l2d (w0_ + wv))) := Hs70.at in70 rfl
    refine own_via (fun t kz => X69.daload hx (j := (4 : Int32)) (v := (.double (FP.l2d (w0_ + wv)))) (by rw [e69]; exact Ar70.1) (State.isArrayOf_alike hZ.alike Ar70.2.1) Ar70.2.2 in70 at70 (g := (mkF m 42 #[oR this, oI (1 : Int32), oD (FP.l2d wv), .second, oI (2 : Int32)] [(.int (4 : Int32)), (.ref arr), (.int (2 : Int32)), (.ref arr)])) rfl rfl (hb hby d3_42) t kz) ?_
    refine own_via (fun t kz => XS.aloadN X69.here hx rfl (hb hby d3_43) rfl rfl kz) ?_
    show own_Go p e below _ (T69.setTop (mkF m 44 #[oR this, oI (1 : Int32), oD (FP.l2d wv), .second, oI (2 : Int32)] [(.ref this), (.double (FP.l2d (w0_ + wv))), (.int (2 : Int32)), (.ref arr)]))
    obtain ⟨T71, X71, e71, st71⟩ := getF X69 hx hZ hown (host := "") (Or.inl (own_w hw 16)) Via.refl e69 F64 (g := (mkF m 44 #[oR this, oI (1 : Int32), oD (FP.l2d wv), .second, oI (2 : Int32)] [(.ref this), (.double (FP.l2d (w0_ + wv))), (.int (2 : Int32)), (.ref arr)])) rfl rfl (hb hby d3_44)
    refine own_via st71 ?_
    refine own_via (fun t kz => XS.iconst X71.here hx rfl (hb hby d3_47) kz) ?_
    refine own_via (fun t kz => XS.iload X71.here hx rfl (hb hby d3_48) rfl kz) ?_
    refine own_via (fun t kz => XS.imul X71.here hx rfl (hb hby d3_50) rfl kz) ?_
    show own_Go p e below _ (T71.setTop (mkF m 51 #[oR this, oI (1 : Int32), oD (FP.l2d wv), .second, oI (2 : Int32)] [(.int (4 : Int32)), (.ref arr), (.double (FP.l2d (w0_ + wv))), (.int (2 : Int32)), (.ref arr)]))
    refine own_via (fun t kz => XS.iconst X71.here hx rfl (hb hby d3_51) kz) ?_
    refine own_via (fun t kz => XS.iadd X71.here hx rfl (hb hby d3_52) rfl kz) ?_
    show own_Go p e below _ (T71.setTop (mkF m 53 #[oR this, oI (1 : Int32), oD (FP.l2d wv), .second, oI (2 : Int32)] [(.int (5 : Int32)), (.ref arr), (.double (FP.l2d (w0_ + wv))), (.int (2 : Int32)), (.ref arr)]))
    obtain ⟨cl72, Ar72, kc72, Sz72, Nn72, Hs72, Gs72⟩ := id V67
    have in72 := inb_of (j := (5 : Int32)) Sz72 ⟨by decide, by decide⟩
    have at72 : cl72.slots[((5 : Int32)).toNatClampNeg]? = some (.double (FP.l2d (w2_ + w3_))) := Hs72.at in72 rfl
    refine own_via (fun t kz => X71.daload hx (j := (5 : Int32)) (v := (.double (FP.l2d (w2_ + w3_)))) (by rw [e71]; exact Ar72.1) (State.isArrayOf_alike hZ.alike Ar72.2.1) Ar72.2.2 in72 at72 (g := (mkF m 53 #[oR this, oI (1 : Int32), oD (FP.l2d wv), .second, oI (2 : Int32)] [(.int (5 : Int32)), (.ref arr), (.double (FP.l2d (w0_ + wv))), (.int (2 : Int32)), (.ref arr)])) rfl rfl (hb hby d3_53) t kz) ?_
    show own_Go p e below _ (T71.setTop (mkF m 54 #[oR this, oI (1 : Int32), oD (FP.l2d wv), .second, oI (2 : Int32)] [(.double (FP.l2d (w2_ + w3_))), (.double (FP.l2d (w0_ + wv))), (.int (2 : Int32)), (.ref arr)]))
    refine own_via (fun t kz => XS.daddS X71.here hx rfl (hb hby d3_54) rfl (nn_w (dadd_w (own_b53 (own_bda hb0 hbv (by decide)) (by decide)) (own_b53 (own_bda hb2 hb3 (by decide)) (by decide)))) (dadd_w (own_b53 (own_bda hb0 hbv (by decide)) (by decide)) (own_b53 (own_bda hb2 hb3 (by decide)) (by decide))) kz) ?_
    show own_Go p e below _ (T71.setTop (mkF m 55 #[oR this, oI (1 : Int32), oD (FP.l2d wv), .second, oI (2 : Int32)] [(.double (FP.l2d ((w0_ + wv) + (w2_ + w3_)))), (.int (2 : Int32)), (.ref arr)]))
    obtain ⟨cl73, Ar73, kc73, Sz73, Nn73, Hs73, Gs73⟩ := id V67
    obtain ⟨T73, h73, X73, e73, W73, st73⟩ := stD X71 hx hZ e71 Ar73 (j := (2 : Int32)) (inb_of Sz73 ⟨by decide, by decide⟩) (g := (mkF m 55 #[oR this, oI (1 : Int32), oD (FP.l2d wv), .second, oI (2 : Int32)] [(.double (FP.l2d ((w0_ + wv) + (w2_ + w3_)))), (.int (2 : Int32)), (.ref arr)])) rfl rfl (hb hby d3_55)
    refine own_via st73 ?_
    have E74 := E62.wr W73
    have F75 := F63.other W73 (Or.inl (own_neq (by omega)))
    have F76 := F64.other W73 (Or.inl (own_neq (by omega)))
    have Zs77 : n0 ≤ h73.size := Nat.le_trans Zs65 (Keep.of_wr W73).1
    have N78 := Fr.snoc X73 N66 (show n0 ≤ arr by omega)
    have V79 : Arv Z h73 arr kA .double (16 : Int32) [(.double (FP.l2d (0 : Int64))), (.double (FP.l2d (((w0_ + w1_) + (w2_ + w3_)) + ((w4_ + w5_) + (w6_ + w7_))))), (.double (FP.l2d ((w0_ + wv) + (w2_ + w3_)))), (.double (FP.l2d ((w4_ + w5_) + (w6_ + w7_)))), (.double (FP.l2d (w0_ + wv))), (.double (FP.l2d (w2_ + w3_))), (.double (FP.l2d (w4_ + w5_))), (.double (FP.l2d (w6_ + w7_))), (.double (FP.l2d w0_)), (.double (FP.l2d wv)), (.double (FP.l2d w2_)), (.double (FP.l2d w3_)), (.double (FP.l2d w4_)), (.double (FP.l2d w5_)), (.double (FP.l2d w6_)), (.double (FP.l2d w7_))] (.double (FP.l2d (0 : Int64))) := Arv.set Ar73 kc73 Sz73 Nn73 Hs73 Gs73 rfl W73 2 (by first | decide | (show 2 < 16; decide)) (by first | decide | (show 2 < 16; decide))
    refine own_via (fun t kz => XS.iload X73.here hx rfl (hb hby d3_56) rfl kz) ?_
    refine own_via (fun t kz => XS.iconst X73.here hx rfl (hb hby d3_58) kz) ?_
    refine own_via (fun t kz => XS.idiv X73.here hx rfl (hb hby d3_59) rfl (by decide) kz) ?_
    show own_Go p e below _ (T73.setTop (mkF m 60 #[oR this, oI (1 : Int32), oD (FP.l2d wv), .second, oI (2 : Int32)] [(.int (1 : Int32))]))
    refine own_via (fun t kz => XS.istore X73.here hx rfl (hb hby d3_60) rfl (l' := #[oR this, oI (1 : Int32), oD (FP.l2d wv), .second, oI (1 : Int32)]) rfl kz) ?_
    refine own_via (fun t kz => XS.goto X73.here hx rfl (pc0 := 62) (pc' := 22) rfl (hb hby d3_62) (by decide) (by decide) kz) ?_
    refine own_via (fun t kz => XS.iload X73.here hx rfl (hb hby d3_22) rfl kz) ?_
    refine own_via (fun t kz => XS.iconst X73.here hx rfl (hb hby d3_24) kz) ?_
    show own_Go p e below _ (T73.setTop (mkF m 25 #[oR this, oI (1 : Int32), oD (FP.l2d wv), .second, oI (1 : Int32)] [(.int (1 : Int32)), (.int (1 : Int32))]))
    refine own_via (fun t kz => XS.icmpNo X73.here hx rfl (hb hby d3_25) rfl (flt (by decide : ¬ ((1 : Int32) < (1 : Int32)))).1 kz) ?_
    refine own_via (fun t kz => XS.aloadN X73.here hx rfl (hb hby d3_28) rfl rfl kz) ?_
    show own_Go p e below _ (T73.setTop (mkF m 29 #[oR this, oI (1 : Int32), oD (FP.l2d wv), .second, oI (1 : Int32)] [(.ref this)]))
    obtain ⟨T80, X80, e80, st80⟩ := getF X73 hx hZ hown (host := "") (Or.inl (own_w hw 16)) Via.refl e73 F76 (g := (mkF m 29 #[oR this, oI (1 : Int32), oD (FP.l2d wv), .second, oI (1 : Int32)] [(.ref this)])) rfl rfl (hb hby d3_29)
    refine own_via st80 ?_
    refine own_via (fun t kz => XS.iload X80.here hx rfl (hb hby d3_32) rfl kz) ?_
    refine own_via (fun t kz => XS.aloadN X80.here hx rfl (hb hby d3_34) rfl rfl kz) ?_
    show own_Go p e below _ (T80.setTop (mkF m 35 #[oR this, oI (1 : Int32), oD (FP.l2d wv), .second, oI (1 : Int32)] [(.ref this), (.int (1 : Int32)), (.ref arr)]))
    obtain ⟨T81, X81, e81, st81⟩ := getF X80 hx hZ hown (host := "") (Or.inl (own_w hw 16)) Via.refl e80 F76 (g := (mkF m 35 #[oR this, oI (1 : Int32), oD (FP.l2d wv), .second, oI (1 : Int32)] [(.ref this), (.int (1 : Int32)), (.ref arr)])) rfl rfl (hb hby d3_35)
    refine own_via st81 ?_
    refine own_via (fun t kz => XS.iconst X81.here hx rfl (hb hby d3_38) kz) ?_
    refine own_via (fun t kz => XS.iload X81.here hx rfl (hb hby d3_39) rfl kz) ?_
    refine own_via (fun t kz => XS.imul X81.here hx rfl (hb hby d3_41) rfl kz) ?_
    show own_Go p e below _ (T81.setTop (mkF m 42 #[oR this, oI (1 : Int32), oD (FP.l2d wv), .second, oI (1 : Int32)] [(.int (2 : Int32)), (.ref arr), (.int (1 : Int32)), (.ref arr)]))
    obtain ⟨cl82, Ar82, kc82, Sz82, Nn82, Hs82, Gs82⟩ := id V79
    have in82 := inb_of (j := (2 : Int32)) Sz82 ⟨by decide, by decide⟩
    have at82 : cl82.slots[((2 : Int32)).toNatClampNeg]? = some (.double (FP.l2d ((w0_ + wv) + (w2_ + w3_)))) := Hs82.at in82 rfl
    refine own_via (fun t kz => X81.daload hx (j := (2 : Int32)) (v := (.double (FP.l2d ((w0_ + wv) + (w2_ + w3_))))) (by rw [e81]; exact Ar82.1) (State.isArrayOf_alike hZ.alike Ar82.2.1) Ar82.2.2 in82 at82 (g := (mkF m 42 #[oR this, oI (1 : Int32), oD (FP.l2d wv), .second, oI (1 : Int32)] [(.int (2 : Int32)), (.ref arr), (.int (1 : Int32)), (.ref arr)])) rfl rfl (hb hby d3_42) t kz) ?_
    refine own_via (fun t kz => XS.aloadN X81.here hx rfl (hb hby d3_43) rfl rfl kz) ?_
    show own_Go p e below _ (T81.setTop (mkF m 44 #[oR this, oI (1 : Int32), oD (FP.l2d wv), .second, oI (1 : Int32)] [(.ref this), (.double (FP.l2d ((w0_ + wv) + (w2_ + w3_)))), (.int (1 : Int32)), (.ref arr)]))
    obtain ⟨T83, X83, e83, st83⟩ := getF X81 hx hZ hown (host := "") (Or.inl (own_w hw 16)) Via.refl e81 F76 (g := (mkF m 44 #[oR this, oI (1 : Int32), oD (FP.l2d wv), .second, oI (1 : Int32)] [(.ref this), (.double (FP.l2d ((w0_ + wv) + (w2_ + w3_)))), (.int (1 : Int32)), (.ref arr)])) rfl rfl (hb hby d3_44)
    refine own_via st83 ?_
    refine own_via (fun t kz => XS.iconst X83.here hx rfl (hb hby d3_47) kz) ?_
    refine own_via (fun t kz => XS.iload X83.here hx rfl (hb hby d3_48) rfl kz) ?_
    refine own_via (fun t kz => XS.imul X83.here hx rfl (hb hby d3_50) rfl kz) ?_
    show own_Go p e below _ (T83.setTop (mkF m 51 #[oR this, oI (1 : Int32), oD (FP.l2d wv), .second, oI (1 : Int32)] [(.int (2 : Int32)), (.ref arr), (.double (FP.l2d ((w0_ + wv) + (w2_ + w3_)))), (.int (1 : Int32)), (.ref arr)]))
    refine own_via (fun t kz => XS.iconst X83.here hx rfl (hb hby d3_51) kz) ?_
    refine own_via (fun t kz => XS.iadd X83.here hx rfl (hb hby d3_52) rfl kz) ?_
    show own_Go p e below _ (T83.setTop (mkF m 53 #[oR this, oI (1 : Int32), oD (FP.l2d wv), .second, oI (1 : Int32)] [(.int (3 : Int32)), (.ref arr), (.double (FP.l2d ((w0_ + wv) + (w2_ + w3_)))), (.int (1 : Int32)), (.ref arr)]))
    obtain ⟨cl84, Ar84, kc84, Sz84, Nn84, Hs84, Gs84⟩ := id V79
    have in84 := inb_of (j := (3 : Int32)) Sz84 ⟨by decide, by decide⟩
    have at84 : cl84.slots[((3 : Int32)).toNatClampNeg]? = some (.double (FP.l2d ((w4_ + w5_) + (w6_ + w7_)))) := Hs84.at in84 rfl
    refine own_via (fun t kz => X83.daload hx (j := (3 : Int32)) (v := (.double (FP.l2d ((w4_ + w5_) + (w6_ + w7_))))) (by rw [e83]; exact Ar84.1) (State.isArrayOf_alike hZ.alike Ar84.2.1) Ar84.2.2 in84 at84 (g := (mkF m 53 #[oR this, oI (1 : Int32), oD (FP.l2d wv), .second, oI (1 : Int32)] [(.int (3 : Int32)), (.ref arr), (.double (FP.l2d ((w0_ + wv) + (w2_ + w3_)))), (.int (1 : Int32)), (.ref arr)])) rfl rfl (hb hby d3_53) t kz) ?_
    show own_Go p e below _ (T83.setTop (mkF m 54 #[oR this, oI (1 : Int32), oD (FP.l2d wv), .second, oI (1 : Int32)] [(.double (FP.l2d ((w4_ + w5_) + (w6_ + w7_)))), (.double (FP.l2d ((w0_ + wv) + (w2_ + w3_)))), (.int (1 : Int32)), (.ref arr)]))
    refine own_via (fun t kz => XS.daddS X83.here hx rfl (hb hby d3_54) rfl (nn_w (dadd_w (own_b53 (own_bda (own_bda hb0 hbv (by decide)) (own_bda hb2 hb3 (by decide)) (by decide)) (by decide)) (own_b53 (own_bda (own_bda hb4 hb5 (by decide)) (own_bda hb6 hb7 (by decide)) (by decide)) (by decide)))) (dadd_w (own_b53 (own_bda (own_bda hb0 hbv (by decide)) (own_bda hb2 hb3 (by decide)) (by decide)) (by decide)) (own_b53 (own_bda (own_bda hb4 hb5 (by decide)) (own_bda hb6 hb7 (by decide)) (by decide)) (by decide))) kz) ?_
    show own_Go p e below _ (T83.setTop (mkF m 55 #[oR this, oI (1 : Int32), oD (FP.l2d wv), .second, oI (1 : Int32)] [(.double (FP.l2d (((w0_ + wv) + (w2_ + w3_)) + ((w4_ + w5_) + (w6_ + w7_))))), (.int (1 : Int32)), (.ref arr)]))
    obtain ⟨cl85, Ar85, kc85, Sz85, Nn85, Hs85, Gs85⟩ := id V79
    obtain ⟨T85, h85, X85, e85, W85, st85⟩ := stD X83 hx hZ e83 Ar85 (j := (1 : Int32)) (inb_of Sz85 ⟨by decide, by decide⟩) (g := (mkF m 55 #[oR this, oI (1 : Int32), oD (FP.l2d wv), .second, oI (1 : Int32)] [(.double (FP.l2d (((w0_ + wv) + (w2_ + w3_)) + ((w4_ + w5_) + (w6_ + w7_))))), (.int (1 : Int32)), (.ref arr)])) rfl rfl (hb hby d3_55)
    refine own_via st85 ?_
    have E86 := E74.wr W85
    have F87 := F75.other W85 (Or.inl (own_neq (by omega)))
    have F88 := F76.other W85 (Or.inl (own_neq (by omega)))
    have Zs89 : n0 ≤ h85.size := Nat.le_trans Zs77 (Keep.of_wr W85).1
    have N90 := Fr.snoc X85 N78 (show n0 ≤ arr by omega)
    have V91 : Arv Z h85 arr kA .double (16 : Int32) [(.double (FP.l2d (0 : Int64))), (.double (FP.l2d (((w0_ + wv) + (w2_ + w3_)) + ((w4_ + w5_) + (w6_ + w7_))))), (.double (FP.l2d ((w0_ + wv) + (w2_ + w3_)))), (.double (FP.l2d ((w4_ + w5_) + (w6_ + w7_)))), (.double (FP.l2d (w0_ + wv))), (.double (FP.l2d (w2_ + w3_))), (.double (FP.l2d (w4_ + w5_))), (.double (FP.l2d (w6_ + w7_))), (.double (FP.l2d w0_)), (.double (FP.l2d wv)), (.double (FP.l2d w2_)), (.double (FP.l2d w3_)), (.double (FP.l2d w4_)), (.double (FP.l2d w5_)), (.double (FP.l2d w6_)), (.double (FP.l2d w7_))] (.double (FP.l2d (0 : Int64))) := Arv.set Ar85 kc85 Sz85 Nn85 Hs85 Gs85 rfl W85 1 (by first | decide | (show 1 < 16; decide)) (by first | decide | (show 1 < 16; decide))
    refine own_via (fun t kz => XS.iload X85.here hx rfl (hb hby d3_56) rfl kz) ?_
    refine own_via (fun t kz => XS.iconst X85.here hx rfl (hb hby d3_58) kz) ?_
    refine own_via (fun t kz => XS.idiv X85.here hx rfl (hb hby d3_59) rfl (by decide) kz) ?_
    show own_Go p e below _ (T85.setTop (mkF m 60 #[oR this, oI (1 : Int32), oD (FP.l2d wv), .second, oI (1 : Int32)] [(.int (0 : Int32))]))
    refine own_via (fun t kz => XS.istore X85.here hx rfl (hb hby d3_60) rfl (l' := #[oR this, oI (1 : Int32), oD (FP.l2d wv), .second, oI (0 : Int32)]) rfl kz) ?_
    refine own_via (fun t kz => XS.goto X85.here hx rfl (pc0 := 62) (pc' := 22) rfl (hb hby d3_62) (by decide) (by decide) kz) ?_
    refine own_via (fun t kz => XS.iload X85.here hx rfl (hb hby d3_22) rfl kz) ?_
    refine own_via (fun t kz => XS.iconst X85.here hx rfl (hb hby d3_24) kz) ?_
    show own_Go p e below _ (T85.setTop (mkF m 25 #[oR this, oI (1 : Int32), oD (FP.l2d wv), .second, oI (0 : Int32)] [(.int (1 : Int32)), (.int (0 : Int32))]))
    refine own_via (fun t kz => XS.icmpYes X85.here hx rfl (pc0 := 25) (pc' := 65) rfl (hb hby d3_25) rfl (tlt (by decide : (0 : Int32) < (1 : Int32))).1 (by decide) (by decide) kz) ?_
    show own_Go p e below _ (T85.setTop (mkF m 65 #[oR this, oI (1 : Int32), oD (FP.l2d wv), .second, oI (0 : Int32)] []))
    have hT : own_W8 Z h85 n0 this w0_ wv w2_ w3_ w4_ w5_ w6_ w7_ := ⟨arr, kA, ⟨ch0, ch1⟩, E86, F87, F88, V91⟩
    obtain ⟨fs, hr, hrun, hended, hW, hsame⟩ := X85.leave (v := none) (fun _ => rfl)
    refine ⟨_, _, X85.returnOut hx Bd.returns (hb hby d3_65) hr, hrun, hended, _, _, rfl, ?_, ⟨_, rfl⟩, hW, hsame.mono (by decide) (by decide)⟩
    show Q3_8 Z this (1 : Int32) wv w0_ w1_ w2_ w3_ w4_ w5_ w6_ w7_ h0 n0 _ T85.heap _
    rw [e85]
    exact ⟨rfl, N90, Zs89, by rw [if_neg (by decide : ¬ (1 : Int32) = (0 : Int32)), if_pos (rfl : (1 : Int32) = (1 : Int32)), if_neg (by decide : ¬ (1 : Int32) = (2 : Int32)), if_neg (by decide : ¬ (1 : Int32) = (3 : Int32)), if_neg (by decide : ¬ (1 : Int32) = (4 : Int32)), if_neg (by decide : ¬ (1 : Int32) = (5 : Int32)), if_neg (by decide : ¬ (1 : Int32) = (6 : Int32)), if_neg (by decide : ¬ (1 : Int32) = (7 : Int32))]; exact hT⟩
  · show own_Go p e below _ (s₁.setTop (mkF m 0 #[oR this, oI (2 : Int32), oD (FP.l2d wv), .second, .unset] []))
    refine own_via (fun t kz => XS.aloadN X0.here hx rfl (hb hby d3_0) rfl rfl kz) ?_
    show own_Go p e below _ (s₁.setTop (mkF m 1 #[oR this, oI (2 : Int32), oD (FP.l2d wv), .second, .unset] [(.ref this)]))
    obtain ⟨T93, X93, e93, st93⟩ := getF X0 hx hZ hown (host := "") (Or.inl (own_w hw 13)) Via.refl e0 Fq0 (g := (mkF m 1 #[oR this, oI (2 : Int32), oD (FP.l2d wv), .second, .unset] [(.ref this)])) rfl rfl (hb hby d3_1)
    refine own_via st93 ?_
    refine own_via (fun t kz => XS.iloadN X93.here hx rfl (hb hby d3_4) rfl kz) ?_
    refine own_via (fun t kz => XS.iadd X93.here hx rfl (hb hby d3_5) rfl kz) ?_
    refine own_via (fun t kz => XS.istore X93.here hx rfl (hb hby d3_6) rfl (l' := #[oR this, oI (2 : Int32), oD (FP.l2d wv), .second, oI (10 : Int32)]) rfl kz) ?_
    show own_Go p e below _ (T93.setTop (mkF m 8 #[oR this, oI (2 : Int32), oD (FP.l2d wv), .second, oI (10 : Int32)] []))
    refine own_via (fun t kz => XS.aloadN X93.here hx rfl (hb hby d3_8) rfl rfl kz) ?_
    show own_Go p e below _ (T93.setTop (mkF m 9 #[oR this, oI (2 : Int32), oD (FP.l2d wv), .second, oI (10 : Int32)] [(.ref this)]))
    obtain ⟨T94, X94, e94, st94⟩ := getF X93 hx hZ hown (host := "") (Or.inl (own_w hw 16)) Via.refl e93 Fq1 (g := (mkF m 9 #[oR this, oI (2 : Int32), oD (FP.l2d wv), .second, oI (10 : Int32)] [(.ref this)])) rfl rfl (hb hby d3_9)
    refine own_via st94 ?_
    refine own_via (fun t kz => XS.iload X94.here hx rfl (hb hby d3_12) rfl kz) ?_
    refine own_via (fun t kz => XS.dloadN X94.here hx rfl (hb hby d3_14) rfl kz) ?_
    show own_Go p e below _ (T94.setTop (mkF m 15 #[oR this, oI (2 : Int32), oD (FP.l2d wv), .second, oI (10 : Int32)] [(.double (FP.l2d wv)), (.int (10 : Int32)), (.ref arr)]))
    obtain ⟨cl95, Ar95, kc95, Sz95, Nn95, Hs95, Gs95⟩ := id Vq
    obtain ⟨T95, h95, X95, e95, W95, st95⟩ := stD X94 hx hZ e94 Ar95 (j := (10 : Int32)) (inb_of Sz95 ⟨by decide, by decide⟩) (g := (mkF m 15 #[oR this, oI (2 : Int32), oD (FP.l2d wv), .second, oI (10 : Int32)] [(.double (FP.l2d wv)), (.int (10 : Int32)), (.ref arr)])) rfl rfl (hb hby d3_15)
    refine own_via st95 ?_
    have E96 := Eq.wr W95
    have F97 := Fq0.other W95 (Or.inl (own_neq (by omega)))
    have F98 := Fq1.other W95 (Or.inl (own_neq (by omega)))
    have Zs99 : n0 ≤ h95.size := Nat.le_trans Z0 (Keep.of_wr W95).1
    have N100 := Fr.snoc X95 N0 (show n0 ≤ arr by omega)
    have V101 : Arv Z h95 arr kA .double (16 : Int32) [(.double (FP.l2d (0 : Int64))), (.double (FP.l2d (((w0_ + w1_) + (w2_ + w3_)) + ((w4_ + w5_) + (w6_ + w7_))))), (.double (FP.l2d ((w0_ + w1_) + (w2_ + w3_)))), (.double (FP.l2d ((w4_ + w5_) + (w6_ + w7_)))), (.double (FP.l2d (w0_ + w1_))), (.double (FP.l2d (w2_ + w3_))), (.double (FP.l2d (w4_ + w5_))), (.double (FP.l2d (w6_ + w7_))), (.double (FP.l2d w0_)), (.double (FP.l2d w1_)), (.double (FP.l2d wv)), (.double (FP.l2d w3_)), (.double (FP.l2d w4_)), (.double (FP.l2d w5_)), (.double (FP.l2d w6_)), (.double (FP.l2d w7_))] (.double (FP.l2d (0 : Int64))) := Arv.set Ar95 kc95 Sz95 Nn95 Hs95 Gs95 rfl W95 10 (by first | decide | (show 10 < 16; decide)) (by first | decide | (show 10 < 16; decide))
    refine own_via (fun t kz => XS.iload X95.here hx rfl (hb hby d3_16) rfl kz) ?_
    refine own_via (fun t kz => XS.iconst X95.here hx rfl (hb hby d3_18) kz) ?_
    refine own_via (fun t kz => XS.idiv X95.here hx rfl (hb hby d3_19) rfl (by decide) kz) ?_
    show own_Go p e below _ (T95.setTop (mkF m 20 #[oR this, oI (2 : Int32), oD (FP.l2d wv), .second, oI (10 : Int32)] [(.int (5 : Int32))]))
    refine own_via (fun t kz => XS.istore X95.here hx rfl (hb hby d3_20) rfl (l' := #[oR this, oI (2 : Int32), oD (FP.l2d wv), .second, oI (5 : Int32)]) rfl kz) ?_
    refine own_via (fun t kz => XS.iload X95.here hx rfl (hb hby d3_22) rfl kz) ?_
    refine own_via (fun t kz => XS.iconst X95.here hx rfl (hb hby d3_24) kz) ?_
    show own_Go p e below _ (T95.setTop (mkF m 25 #[oR this, oI (2 : Int32), oD (FP.l2d wv), .second, oI (5 : Int32)] [(.int (1 : Int32)), (.int (5 : Int32))]))
    refine own_via (fun t kz => XS.icmpNo X95.here hx rfl (hb hby d3_25) rfl (flt (by decide : ¬ ((5 : Int32) < (1 : Int32)))).1 kz) ?_
    refine own_via (fun t kz => XS.aloadN X95.here hx rfl (hb hby d3_28) rfl rfl kz) ?_
    show own_Go p e below _ (T95.setTop (mkF m 29 #[oR this, oI (2 : Int32), oD (FP.l2d wv), .second, oI (5 : Int32)] [(.ref this)]))
    obtain ⟨T102, X102, e102, st102⟩ := getF X95 hx hZ hown (host := "") (Or.inl (own_w hw 16)) Via.refl e95 F98 (g := (mkF m 29 #[oR this, oI (2 : Int32), oD (FP.l2d wv), .second, oI (5 : Int32)] [(.ref this)])) rfl rfl (hb hby d3_29)
    refine own_via st102 ?_
    refine own_via (fun t kz => XS.iload X102.here hx rfl (hb hby d3_32) rfl kz) ?_
    refine own_via (fun t kz => XS.aloadN X102.here hx rfl (hb hby d3_34) rfl rfl kz) ?_
    show own_Go p e below _ (T102.setTop (mkF m 35 #[oR this, oI (2 : Int32), oD (FP.l2d wv), .second, oI (5 : Int32)] [(.ref this), (.int (5 : Int32)), (.ref arr)]))
    obtain ⟨T103, X103, e103, st103⟩ := getF X102 hx hZ hown (host := "") (Or.inl (own_w hw 16)) Via.refl e102 F98 (g := (mkF m 35 #[oR this, oI (2 : Int32), oD (FP.l2d wv), .second, oI (5 : Int32)] [(.ref this), (.int (5 : Int32)), (.ref arr)])) rfl rfl (hb hby d3_35)
    refine own_via st103 ?_
    refine own_via (fun t kz => XS.iconst X103.here hx rfl (hb hby d3_38) kz) ?_
    refine own_via (fun t kz => XS.iload X103.here hx rfl (hb hby d3_39) rfl kz) ?_
    refine own_via (fun t kz => XS.imul X103.here hx rfl (hb hby d3_41) rfl kz) ?_
    show own_Go p e below _ (T103.setTop (mkF m 42 #[oR this, oI (2 : Int32), oD (FP.l2d wv), .second, oI (5 : Int32)] [(.int (10 : Int32)), (.ref arr), (.int (5 : Int32)), (.ref arr)]))
    obtain ⟨cl104, Ar104, kc104, Sz104, Nn104, Hs104, Gs104⟩ := id V101
    have in104 := inb_of (j := (10 : Int32)) Sz104 ⟨by decide, by decide⟩
    have at104 : cl104.slots[((10 : Int32)).toNatClampNeg]? = some (.double (FP.l2d wv)) := Hs104.at in104 rfl
    refine own_via (fun t kz => X103.daload hx (j := (10 : Int32)) (v := (.double (FP.l2d wv))) (by rw [e103]; exact Ar104.1) (State.isArrayOf_alike hZ.alike Ar104.2.1) Ar104.2.2 in104 at104 (g := (mkF m 42 #[oR this, oI (2 : Int32), oD (FP.l2d wv), .second, oI (5 : Int32)] [(.int (10 : Int32)), (.ref arr), (.int (5 : Int32)), (.ref arr)])) rfl rfl (hb hby d3_42) t kz) ?_
    refine own_via (fun t kz => XS.aloadN X103.here hx rfl (hb hby d3_43) rfl rfl kz) ?_
    show own_Go p e below _ (T103.setTop (mkF m 44 #[oR this, oI (2 : Int32), oD (FP.l2d wv), .second, oI (5 : Int32)] [(.ref this), (.double (FP.l2d wv)), (.int (5 : Int32)), (.ref arr)]))
    obtain ⟨T105, X105, e105, st105⟩ := getF X103 hx hZ hown (host := "") (Or.inl (own_w hw 16)) Via.refl e103 F98 (g := (mkF m 44 #[oR this, oI (2 : Int32), oD (FP.l2d wv), .second, oI (5 : Int32)] [(.ref this), (.double (FP.l2d wv)), (.int (5 : Int32)), (.ref arr)])) rfl rfl (hb hby d3_44)
    refine own_via st105 ?_
    refine own_via (fun t kz => XS.iconst X105.here hx rfl (hb hby d3_47) kz) ?_
    refine own_via (fun t kz => XS.iload X105.here hx rfl (hb hby d3_48) rfl kz) ?_
    refine own_via (fun t kz => XS.imul X105.here hx rfl (hb hby d3_50) rfl kz) ?_
    show own_Go p e below _ (T105.setTop (mkF m 51 #[oR this, oI (2 : Int32), oD (FP.l2d wv), .second, oI (5 : Int32)] [(.int (10 : Int32)), (.ref arr), (.double (FP.l2d wv)), (.int (5 : Int32)), (.ref arr)]))
    refine own_via (fun t kz => XS.iconst X105.here hx rfl (hb hby d3_51) kz) ?_
    refine own_via (fun t kz => XS.iadd X105.here hx rfl (hb hby d3_52) rfl kz) ?_
    show own_Go p e below _ (T105.setTop (mkF m 53 #[oR this, oI (2 : Int32), oD (FP.l2d wv), .second, oI (5 : Int32)] [(.int (11 : Int32)), (.ref arr), (.double (FP.l2d wv)), (.int (5 : Int32)), (.ref arr)]))
    obtain ⟨cl106, Ar106, kc106, Sz106, Nn106, Hs106, Gs106⟩ := id V101
    have in106 := inb_of (j := (11 : Int32)) Sz106 ⟨by decide, by decide⟩
    have at106 : cl106.slots[((11 : Int32)).toNatClampNeg]? = some (.double (FP.l2d w3_)) := Hs106.at in106 rfl
    refine own_via (fun t kz => X105.daload hx (j := (11 : Int32)) (v := (.double (FP.l2d w3_))) (by rw [e105]; exact Ar106.1) (State.isArrayOf_alike hZ.alike Ar106.2.1) Ar106.2.2 in106 at106 (g := (mkF m 53 #[oR this, oI (2 : Int32), oD (FP.l2d wv), .second, oI (5 : Int32)] [(.int (11 : Int32)), (.ref arr), (.double (FP.l2d wv)), (.int (5 : Int32)), (.ref arr)])) rfl rfl (hb hby d3_53) t kz) ?_
    show own_Go p e below _ (T105.setTop (mkF m 54 #[oR this, oI (2 : Int32), oD (FP.l2d wv), .second, oI (5 : Int32)] [(.double (FP.l2d w3_)), (.double (FP.l2d wv)), (.int (5 : Int32)), (.ref arr)]))
    refine own_via (fun t kz => XS.daddS X105.here hx rfl (hb hby d3_54) rfl (nn_w (dadd_w (own_b53 hbv (by decide)) (own_b53 hb3 (by decide)))) (dadd_w (own_b53 hbv (by decide)) (own_b53 hb3 (by decide))) kz) ?_
    show own_Go p e below _ (T105.setTop (mkF m 55 #[oR this, oI (2 : Int32), oD (FP.l2d wv), .second, oI (5 : Int32)] [(.double (FP.l2d (wv + w3_))), (.int (5 : Int32)), (.ref arr)]))
    obtain ⟨cl107, Ar107, kc107, Sz107, Nn107, Hs107, Gs107⟩ := id V101
    obtain ⟨T107, h107, X107, e107, W107, st107⟩ := stD X105 hx hZ e105 Ar107 (j := (5 : Int32)) (inb_of Sz107 ⟨by decide, by decide⟩) (g := (mkF m 55 #[oR this, oI (2 : Int32), oD (FP.l2d wv), .second, oI (5 : Int32)] [(.double (FP.l2d (wv + w3_))), (.int (5 : Int32)), (.ref arr)])) rfl rfl (hb hby d3_55)
    refine own_via st107 ?_
    have E108 := E96.wr W107
    have F109 := F97.other W107 (Or.inl (own_neq (by omega)))
    have F110 := F98.other W107 (Or.inl (own_neq (by omega)))
    have Zs111 : n0 ≤ h107.size := Nat.le_trans Zs99 (Keep.of_wr W107).1
    have N112 := Fr.snoc X107 N100 (show n0 ≤ arr by omega)
    have V113 : Arv Z h107 arr kA .double (16 : Int32) [(.double (FP.l2d (0 : Int64))), (.double (FP.l2d (((w0_ + w1_) + (w2_ + w3_)) + ((w4_ + w5_) + (w6_ + w7_))))), (.double (FP.l2d ((w0_ + w1_) + (w2_ + w3_)))), (.double (FP.l2d ((w4_ + w5_) + (w6_ + w7_)))), (.double (FP.l2d (w0_ + w1_))), (.double (FP.l2d (wv + w3_))), (.double (FP.l2d (w4_ + w5_))), (.double (FP.l2d (w6_ + w7_))), (.double (FP.l2d w0_)), (.double (FP.l2d w1_)), (.double (FP.l2d wv)), (.double (FP.l2d w3_)), (.double (FP.l2d w4_)), (.double (FP.l2d w5_)), (.double (FP.l2d w6_)), (.double (FP.l2d w7_))] (.double (FP.l2d (0 : Int64))) := Arv.set Ar107 kc107 Sz107 Nn107 Hs107 Gs107 rfl W107 5 (by first | decide | (show 5 < 16; decide)) (by first | decide | (show 5 < 16; decide))
    refine own_via (fun t kz => XS.iload X107.here hx rfl (hb hby d3_56) rfl kz) ?_
    refine own_via (fun t kz => XS.iconst X107.here hx rfl (hb hby d3_58) kz) ?_
    refine own_via (fun t kz => XS.idiv X107.here hx rfl (hb hby d3_59) rfl (by decide) kz) ?_
    show own_Go p e below _ (T107.setTop (mkF m 60 #[oR this, oI (2 : Int32), oD (FP.l2d wv), .second, oI (5 : Int32)] [(.int (2 : Int32))]))
    refine own_via (fun t kz => XS.istore X107.here hx rfl (hb hby d3_60) rfl (l' := #[oR this, oI (2 : Int32), oD (FP.l2d wv), .second, oI (2 : Int32)]) rfl kz) ?_
    refine own_via (fun t kz => XS.goto X107.here hx rfl (pc0 := 62) (pc' := 22) rfl (hb hby d3_62) (by decide) (by decide) kz) ?_
    refine own_via (fun t kz => XS.iload X107.here hx rfl (hb hby d3_22) rfl kz) ?_
    refine own_via (fun t kz => XS.iconst X107.here hx rfl (hb hby d3_24) kz) ?_
    show own_Go p e below _ (T107.setTop (mkF m 25 #[oR this, oI (2 : Int32), oD (FP.l2d wv), .second, oI (2 : Int32)] [(.int (1 : Int32)), (.int (2 : Int32))]))
    refine own_via (fun t kz => XS.icmpNo X107.here hx rfl (hb hby d3_25) rfl (flt (by decide : ¬ ((2 : Int32) < (1 : Int32)))).1 kz) ?_
    refine own_via (fun t kz => XS.aloadN X107.here hx rfl (hb hby d3_28) rfl rfl kz) ?_
    show own_Go p e below _ (T107.setTop (mkF m 29 #[oR this, oI (2 : Int32), oD (FP.l2d wv), .second, oI (2 : Int32)] [(.ref this)]))
    obtain ⟨T114, X114, e114, st114⟩ := getF X107 hx hZ hown (host := "") (Or.inl (own_w hw 16)) Via.refl e107 F110 (g := (mkF m 29 #[oR this, oI (2 : Int32), oD (FP.l2d wv), .second, oI (2 : Int32)] [(.ref this)])) rfl rfl (hb hby d3_29)
    refine own_via st114 ?_
    refine own_via (fun t kz => XS.iload X114.here hx rfl (hb hby d3_32) rfl kz) ?_
    refine own_via (fun t kz => XS.aloadN X114.here hx rfl (hb hby d3_34) rfl rfl kz) ?_
    show own_Go p e below _ (T114.setTop (mkF m 35 #[oR this, oI (2 : Int32), oD (FP.l2d wv), .second, oI (2 : Int32)] [(.ref this), (.int (2 : Int32)), (.ref arr)]))
    obtain ⟨T115, X115, e115, st115⟩ := getF X114 hx hZ hown (host := "") (Or.inl (own_w hw 16)) Via.refl e114 F110 (g := (mkF m 35 #[oR this, oI (2 : Int32), oD (FP.l2d wv), .second, oI (2 : Int32)] [(.ref this), (.int (2 : Int32)), (.ref arr)])) rfl rfl (hb hby d3_35)
    refine own_via st115 ?_
    refine own_via (fun t kz => XS.iconst X115.here hx rfl (hb hby d3_38) kz) ?_
    refine own_via (fun t kz => XS.iload X115.here hx rfl (hb hby d3_39) rfl kz) ?_
    refine own_via (fun t kz => XS.imul X115.here hx rfl (hb hby d3_41) rfl kz) ?_
    show own_Go p e below _ (T115.setTop (mkF m 42 #[oR this, oI (2 : Int32), oD (FP.l2d wv), .second, oI (2 : Int32)] [(.int (4 : Int32)), (.ref arr), (.int (2 : Int32)), (.ref arr)]))
    obtain ⟨cl116, Ar116, kc116, Sz116, Nn116, Hs116, Gs116⟩ := id V113
    have in116 := inb_of (j := (4 : Int32)) Sz116 ⟨by decide, by decide⟩
    have at116 : cl116.slots[((4 : Int32)).toNatClampNeg]? = some (.double (FP.l2d (w0_ + w1_))) := Hs116.at in116 rfl
    refine own_via (fun t kz => X115.daload hx (j := (4 : Int32)) (v := (.double (FP.l2d (w0_ + w1_)))) (by rw [e115]; exact Ar116.1) (State.isArrayOf_alike hZ.alike Ar116.2.1) Ar116.2.2 in116 at116 (g := (mkF m 42 #[oR this, oI (2 : Int32), oD (FP.l2d wv), .second, oI (2 : Int32)] [(.int (4 : Int32)), (.ref arr), (.int (2 : Int32)), (.ref arr)])) rfl rfl (hb hby d3_42) t kz) ?_
    refine own_via (fun t kz => XS.aloadN X115.here hx rfl (hb hby d3_43) rfl rfl kz) ?_
    show own_Go p e below _ (T115.setTop (mkF m 44 #[oR this, oI (2 : Int32), oD (FP.l2d wv), .second, oI (2 : Int32)] [(.ref this), (.double (FP.l2d (w0_ + w1_))), (.int (2 : Int32)), (.ref arr)]))
    obtain ⟨T117, X117, e117, st117⟩ := getF X115 hx hZ hown (host := "") (Or.inl (own_w hw 16)) Via.refl e115 F110 (g := (mkF m 44 #[oR this, oI (2 : Int32), oD (FP.l2d wv), .second, oI (2 : Int32)] [(.ref this), (.double (FP.l2d (w0_ + w1_))), (.int (2 : Int32)), (.ref arr)])) rfl rfl (hb hby d3_44)
    refine own_via st117 ?_
    refine own_via (fun t kz => XS.iconst X117.here hx rfl (hb hby d3_47) kz) ?_
    refine own_via (fun t kz => XS.iload X117.here hx rfl (hb hby d3_48) rfl kz) ?_
    refine own_via (fun t kz => XS.imul X117.here hx rfl (hb hby d3_50) rfl kz) ?_
    show own_Go p e below _ (T117.setTop (mkF m 51 #[oR this, oI (2 : Int32), oD (FP.l2d wv), .second, oI (2 : Int32)] [(.int (4 : Int32)), (.ref arr), (.double (FP.l2d (w0_ + w1_))), (.int (2 : Int32)), (.ref arr)]))
    refine own_via (fun t kz => XS.iconst X117.here hx rfl (hb hby d3_51) kz) ?_
    refine own_via (fun t kz => XS.iadd X117.here hx rfl (hb hby d3_52) rfl kz) ?_
    show own_Go p e below _ (T117.setTop (mkF m 53 #[oR this, oI (2 : Int32), oD (FP.l2d wv), .second, oI (2 : Int32)] [(.int (5 : Int32)), (.ref arr), (.double (FP.l2d (w0_ + w1_))), (.int (2 : Int32)), (.ref arr)]))
    obtain ⟨cl118, Ar118, kc118, Sz118, Nn118, Hs118, Gs118⟩ := id V113
    have in118 := inb_of (j := (5 : Int32)) Sz118 ⟨by decide, by decide⟩
    have at118 : cl118.slots[((5 : Int32)).toNatClampNeg]? = some (.double (FP.l2d (wv + w3_))) := Hs118.at in118 rfl
    refine own_via (fun t kz => X117.daload hx (j := (5 : Int32)) (v := (.double (FP.l2d (wv + w3_)))) (by rw [e117]; exact Ar118.1) (State.isArrayOf_alike hZ.alike Ar118.2.1) Ar118.2.2 in118 at118 (g := (mkF m 53 #[oR this, oI (2 : Int32), oD (FP.l2d wv), .second, oI (2 : Int32)] [(.int (5 : Int32)), (.ref arr), (.double (FP.l2d (w0_ + w1_))), (.int (2 : Int32)), (.ref arr)])) rfl rfl (hb hby d3_53) t kz) ?_
    show own_Go p e below _ (T117.setTop (mkF m 54 #[oR this, oI (2 : Int32), oD (FP.l2d wv), .second, oI (2 : Int32)] [(.double (FP.l2d (wv + w3_))), (.double (FP.l2d (w0_ + w1_))), (.int (2 : Int32)), (.ref arr)]))
    refine own_via (fun t kz => XS.daddS X117.here hx rfl (hb hby d3_54) rfl (nn_w (dadd_w (own_b53 (own_bda hb0 hb1 (by decide)) (by decide)) (own_b53 (own_bda hbv hb3 (by decide)) (by decide)))) (dadd_w (own_b53 (own_bda hb0 hb1 (by decide)) (by decide)) (own_b53 (own_bda hbv hb3 (by decide)) (by decide))) kz) ?_
    show own_Go p e below _ (T117.setTop (mkF m 55 #[oR this, oI (2 : Int32), oD (FP.l2d wv), .second, oI (2 : Int32)] [(.double (FP.l2d ((w0_ + w1_) + (wv + w3_)))), (.int (2 : Int32)), (.ref arr)]))
    obtain ⟨cl119, Ar119, kc119, Sz119, Nn119, Hs119, Gs119⟩ := id V113
    obtain ⟨T119, h119, X119, e119, W119, st119⟩ := stD X117 hx hZ e117 Ar119 (j := (2 : Int32)) (inb_of Sz119 ⟨by decide, by decide⟩) (g := (mkF m 55 #[oR this, oI (2 : Int32), oD (FP.l2d wv), .second, oI (2 : Int32)] [(.double (FP.l2d ((w0_ + w1_) + (wv + w3_)))), (.int (2 : Int32)), (.ref arr)])) rfl rfl (hb hby d3_55)
    refine own_via st119 ?_
    have E120 := E108.wr W119
    have F121 := F109.other W119 (Or.inl (own_neq (by omega)))
    have F122 := F110.other W119 (Or.inl (own_neq (by omega)))
    have Zs123 : n0 ≤ h119.size := Nat.le_trans Zs111 (Keep.of_wr W119).1
    have N124 := Fr.snoc X119 N112 (show n0 ≤ arr by omega)
    have V125 : Arv Z h119 arr kA .double (16 : Int32) [(.double (FP.l2d (0 : Int64))), (.double (FP.l2d (((w0_ + w1_) + (w2_ + w3_)) + ((w4_ + w5_) + (w6_ + w7_))))), (.double (FP.l2d ((w0_ + w1_) + (wv + w3_)))), (.double (FP.l2d ((w4_ + w5_) + (w6_ + w7_)))), (.double (FP.l2d (w0_ + w1_))), (.double (FP.l2d (wv + w3_))), (.double (FP.l2d (w4_ + w5_))), (.double (FP.l2d (w6_ + w7_))), (.double (FP.l2d w0_)), (.double (FP.l2d w1_)), (.double (FP.l2d wv)), (.double (FP.l2d w3_)), (.double (FP.l2d w4_)), (.double (FP.l2d w5_)), (.double (FP.l2d w6_)), (.double (FP.l2d w7_))] (.double (FP.l2d (0 : Int64))) := Arv.set Ar119 kc119 Sz119 Nn119 Hs119 Gs119 rfl W119 2 (by first | decide | (show 2 < 16; decide)) (by first | decide | (show 2 < 16; decide))
    refine own_via (fun t kz => XS.iload X119.here hx rfl (hb hby d3_56) rfl kz) ?_
    refine own_via (fun t kz => XS.iconst X119.here hx rfl (hb hby d3_58) kz) ?_
    refine own_via (fun t kz => XS.idiv X119.here hx rfl (hb hby d3_59) rfl (by decide) kz) ?_
    show own_Go p e below _ (T119.setTop (mkF m 60 #[oR this, oI (2 : Int32), oD (FP.l2d wv), .second, oI (2 : Int32)] [(.int (1 : Int32))]))
    refine own_via (fun t kz => XS.istore X119.here hx rfl (hb hby d3_60) rfl (l' := #[oR this, oI (2 : Int32), oD (FP.l2d wv), .second, oI (1 : Int32)]) rfl kz) ?_
    refine own_via (fun t kz => XS.goto X119.here hx rfl (pc0 := 62) (pc' := 22) rfl (hb hby d3_62) (by decide) (by decide) kz) ?_
    refine own_via (fun t kz => XS.iload X119.here hx rfl (hb hby d3_22) rfl kz) ?_
    refine own_via (fun t kz => XS.iconst X119.here hx rfl (hb hby d3_24) kz) ?_
    show own_Go p e below _ (T119.setTop (mkF m 25 #[oR this, oI (2 : Int32), oD (FP.l2d wv), .second, oI (1 : Int32)] [(.int (1 : Int32)), (.int (1 : Int32))]))
    refine own_via (fun t kz => XS.icmpNo X119.here hx rfl (hb hby d3_25) rfl (flt (by decide : ¬ ((1 : Int32) < (1 : Int32)))).1 kz) ?_
    refine own_via (fun t kz => XS.aloadN X119.here hx rfl (hb hby d3_28) rfl rfl kz) ?_
    show own_Go p e below _ (T119.setTop (mkF m 29 #[oR this, oI (2 : Int32), oD (FP.l2d wv), .second, oI (1 : Int32)] [(.ref this)]))
    obtain ⟨T126, X126, e126, st126⟩ := getF X119 hx hZ hown (host := "") (Or.inl (own_w hw 16)) Via.refl e119 F122 (g := (mkF m 29 #[oR this, oI (2 : Int32), oD (FP.l2d wv), .second, oI (1 : Int32)] [(.ref this)])) rfl rfl (hb hby d3_29)
    refine own_via st126 ?_
    refine own_via (fun t kz => XS.iload X126.here hx rfl (hb hby d3_32) rfl kz) ?_
    refine own_via (fun t kz => XS.aloadN X126.here hx rfl (hb hby d3_34) rfl rfl kz) ?_
    show own_Go p e below _ (T126.setTop (mkF m 35 #[oR this, oI (2 : Int32), oD (FP.l2d wv), .second, oI (1 : Int32)] [(.ref this), (.int (1 : Int32)), (.ref arr)]))
    obtain ⟨T127, X127, e127, st127⟩ := getF X126 hx hZ hown (host := "") (Or.inl (own_w hw 16)) Via.refl e126 F122 (g := (mkF m 35 #[oR this, oI (2 : Int32), oD (FP.l2d wv), .second, oI (1 : Int32)] [(.ref this), (.int (1 : Int32)), (.ref arr)])) rfl rfl (hb hby d3_35)
    refine own_via st127 ?_
    refine own_via (fun t kz => XS.iconst X127.here hx rfl (hb hby d3_38) kz) ?_
    refine own_via (fun t kz => XS.iload X127.here hx rfl (hb hby d3_39) rfl kz) ?_
    refine own_via (fun t kz => XS.imul X127.here hx rfl (hb hby d3_41) rfl kz) ?_
    show own_Go p e below _ (T127.setTop (mkF m 42 #[oR this, oI (2 : Int32), oD (FP.l2d wv), .second, oI (1 : Int32)] [(.int (2 : Int32)), (.ref arr), (.int (1 : Int32)), (.ref arr)]))
    obtain ⟨cl128, Ar128, kc128, Sz128, Nn128, Hs128, Gs128⟩ := id V125
    have in128 := inb_of (j := (2 : Int32)) Sz128 ⟨by decide, by decide⟩
    have at128 : cl128.slots[((2 : Int32)).toNatClampNeg]? = some (.double (FP.l2d ((w0_ + w1_) + (wv + w3_)))) := Hs128.at in128 rfl
    refine own_via (fun t kz => X127.daload hx (j := (2 : Int32)) (v := (.double (FP.l2d ((w0_ + w1_) + (wv + w3_))))) (by rw [e127]; exact Ar128.1) (State.isArrayOf_alike hZ.alike Ar128.2.1) Ar128.2.2 in128 at128 (g := (mkF m 42 #[oR this, oI (2 : Int32), oD (FP.l2d wv), .second, oI (1 : Int32)] [(.int (2 : Int32)), (.ref arr), (.int (1 : Int32)), (.ref arr)])) rfl rfl (hb hby d3_42) t kz) ?_
    refine own_via (fun t kz => XS.aloadN X127.here hx rfl (hb hby d3_43) rfl rfl kz) ?_
    show own_Go p e below _ (T127.setTop (mkF m 44 #[oR this, oI (2 : Int32), oD (FP.l2d wv), .second, oI (1 : Int32)] [(.ref this), (.double (FP.l2d ((w0_ + w1_) + (wv + w3_)))), (.int (1 : Int32)), (.ref arr)]))
    obtain ⟨T129, X129, e129, st129⟩ := getF X127 hx hZ hown (host := "") (Or.inl (own_w hw 16)) Via.refl e127 F122 (g := (mkF m 44 #[oR this, oI (2 : Int32), oD (FP.l2d wv), .second, oI (1 : Int32)] [(.ref this), (.double (FP.l2d ((w0_ + w1_) + (wv + w3_)))), (.int (1 : Int32)), (.ref arr)])) rfl rfl (hb hby d3_44)
    refine own_via st129 ?_
    refine own_via (fun t kz => XS.iconst X129.here hx rfl (hb hby d3_47) kz) ?_
    refine own_via (fun t kz => XS.iload X129.here hx rfl (hb hby d3_48) rfl kz) ?_
    refine own_via (fun t kz => XS.imul X129.here hx rfl (hb hby d3_50) rfl kz) ?_
    show own_Go p e below _ (T129.setTop (mkF m 51 #[oR this, oI (2 : Int32), oD (FP.l2d wv), .second, oI (1 : Int32)] [(.int (2 : Int32)), (.ref arr), (.double (FP.l2d ((w0_ + w1_) + (wv + w3_)))), (.int (1 : Int32)), (.ref arr)]))
    refine own_via (fun t kz => XS.iconst X129.here hx rfl (hb hby d3_51) kz) ?_
    refine own_via (fun t kz => XS.iadd X129.here hx rfl (hb hby d3_52) rfl kz) ?_
    show own_Go p e below _ (T129.setTop (mkF m 53 #[oR this, oI (2 : Int32), oD (FP.l2d wv), .second, oI (1 : Int32)] [(.int (3 : Int32)), (.ref arr), (.double (FP.l2d ((w0_ + w1_) + (wv + w3_)))), (.int (1 : Int32)), (.ref arr)]))
    obtain ⟨cl130, Ar130, kc130, Sz130, Nn130, Hs130, Gs130⟩ := id V125
    have in130 := inb_of (j := (3 : Int32)) Sz130 ⟨by decide, by decide⟩
    have at130 : cl130.slots[((3 : Int32)).toNatClampNeg]? = some (.double (FP.l2d ((w4_ + w5_) + (w6_ + w7_)))) := Hs130.at in130 rfl
    refine own_via (fun t kz => X129.daload hx (j := (3 : Int32)) (v := (.double (FP.l2d ((w4_ + w5_) + (w6_ + w7_))))) (by rw [e129]; exact Ar130.1) (State.isArrayOf_alike hZ.alike Ar130.2.1) Ar130.2.2 in130 at130 (g := (mkF m 53 #[oR this, oI (2 : Int32), oD (FP.l2d wv), .second, oI (1 : Int32)] [(.int (3 : Int32)), (.ref arr), (.double (FP.l2d ((w0_ + w1_) + (wv + w3_)))), (.int (1 : Int32)), (.ref arr)])) rfl rfl (hb hby d3_53) t kz) ?_
    show own_Go p e below _ (T129.setTop (mkF m 54 #[oR this, oI (2 : Int32), oD (FP.l2d wv), .second, oI (1 : Int32)] [(.double (FP.l2d ((w4_ + w5_) + (w6_ + w7_)))), (.double (FP.l2d ((w0_ + w1_) + (wv + w3_)))), (.int (1 : Int32)), (.ref arr)]))
    refine own_via (fun t kz => XS.daddS X129.here hx rfl (hb hby d3_54) rfl (nn_w (dadd_w (own_b53 (own_bda (own_bda hb0 hb1 (by decide)) (own_bda hbv hb3 (by decide)) (by decide)) (by decide)) (own_b53 (own_bda (own_bda hb4 hb5 (by decide)) (own_bda hb6 hb7 (by decide)) (by decide)) (by decide)))) (dadd_w (own_b53 (own_bda (own_bda hb0 hb1 (by decide)) (own_bda hbv hb3 (by decide)) (by decide)) (by decide)) (own_b53 (own_bda (own_bda hb4 hb5 (by decide)) (own_bda hb6 hb7 (by decide)) (by decide)) (by decide))) kz) ?_
    show own_Go p e below _ (T129.setTop (mkF m 55 #[oR this, oI (2 : Int32), oD (FP.l2d wv), .second, oI (1 : Int32)] [(.double (FP.l2d (((w0_ + w1_) + (wv + w3_)) + ((w4_ + w5_) + (w6_ + w7_))))), (.int (1 : Int32)), (.ref arr)]))
    obtain ⟨cl131, Ar131, kc131, Sz131, Nn131, Hs131, Gs131⟩ := id V125
    obtain ⟨T131, h131, X131, e131, W131, st131⟩ := stD X129 hx hZ e129 Ar131 (j := (1 : Int32)) (inb_of Sz131 ⟨by decide, by decide⟩) (g := (mkF m 55 #[oR this, oI (2 : Int32), oD (FP.l2d wv), .second, oI (1 : Int32)] [(.double (FP.l2d (((w0_ + w1_) + (wv + w3_)) + ((w4_ + w5_) + (w6_ + w7_))))), (.int (1 : Int32)), (.ref arr)])) rfl rfl (hb hby d3_55)
    refine own_via st131 ?_
    have E132 := E120.wr W131
    have F133 := F121.other W131 (Or.inl (own_neq (by omega)))
    have F134 := F122.other W131 (Or.inl (own_neq (by omega)))
    have Zs135 : n0 ≤ h131.size := Nat.le_trans Zs123 (Keep.of_wr W131).1
    have N136 := Fr.snoc X131 N124 (show n0 ≤ arr by omega)
    have V137 : Arv Z h131 arr kA .double (16 : Int32) [(.double (FP.l2d (0 : Int64))), (.double (FP.l2d (((w0_ + w1_) + (wv + w3_)) + ((w4_ + w5_) + (w6_ + w7_))))), (.double (FP.l2d ((w0_ + w1_) + (wv + w3_)))), (.double (FP.l2d ((w4_ + w5_) + (w6_ + w7_)))), (.double (FP.l2d (w0_ + w1_))), (.double (FP.l2d (wv + w3_))), (.double (FP.l2d (w4_ + w5_))), (.double (FP.l2d (w6_ + w7_))), (.double (FP.l2d w0_)), (.double (FP.l2d w1_)), (.double (FP.l2d wv)), (.double (FP.l2d w3_)), (.double (FP.l2d w4_)), (.double (FP.l2d w5_)), (.double (FP.l2d w6_)), (.double (FP.l2d w7_))] (.double (FP.l2d (0 : Int64))) := Arv.set Ar131 kc131 Sz131 Nn131 Hs131 Gs131 rfl W131 1 (by first | decide | (show 1 < 16; decide)) (by first | decide | (show 1 < 16; decide))
    refine own_via (fun t kz => XS.iload X131.here hx rfl (hb hby d3_56) rfl kz) ?_
    refine own_via (fun t kz => XS.iconst X131.here hx rfl (hb hby d3_58) kz) ?_
    refine own_via (fun t kz => XS.idiv X131.here hx rfl (hb hby d3_59) rfl (by decide) kz) ?_
    show own_Go p e below _ (T131.setTop (mkF m 60 #[oR this, oI (2 : Int32), oD (FP.l2d wv), .second, oI (1 : Int32)] [(.int (0 : Int32))]))
    refine own_via (fun t kz => XS.istore X131.here hx rfl (hb hby d3_60) rfl (l' := #[oR this, oI (2 : Int32), oD (FP.l2d wv), .second, oI (0 : Int32)]) rfl kz) ?_
    refine own_via (fun t kz => XS.goto X131.here hx rfl (pc0 := 62) (pc' := 22) rfl (hb hby d3_62) (by decide) (by decide) kz) ?_
    refine own_via (fun t kz => XS.iload X131.here hx rfl (hb hby d3_22) rfl kz) ?_
    refine own_via (fun t kz => XS.iconst X131.here hx rfl (hb hby d3_24) kz) ?_
    show own_Go p e below _ (T131.setTop (mkF m 25 #[oR this, oI (2 : Int32), oD (FP.l2d wv), .second, oI (0 : Int32)] [(.int (1 : Int32)), (.int (0 : Int32))]))
    refine own_via (fun t kz => XS.icmpYes X131.here hx rfl (pc0 := 25) (pc' := 65) rfl (hb hby d3_25) rfl (tlt (by decide : (0 : Int32) < (1 : Int32))).1 (by decide) (by decide) kz) ?_
    show own_Go p e below _ (T131.setTop (mkF m 65 #[oR this, oI (2 : Int32), oD (FP.l2d wv), .second, oI (0 : Int32)] []))
    have hT : own_W8 Z h131 n0 this w0_ w1_ wv w3_ w4_ w5_ w6_ w7_ := ⟨arr, kA, ⟨ch0, ch1⟩, E132, F133, F134, V137⟩
    obtain ⟨fs, hr, hrun, hended, hW, hsame⟩ := X131.leave (v := none) (fun _ => rfl)
    refine ⟨_, _, X131.returnOut hx Bd.returns (hb hby d3_65) hr, hrun, hended, _, _, rfl, ?_, ⟨_, rfl⟩, hW, hsame.mono (by decide) (by decide)⟩
    show Q3_8 Z this (2 : Int32) wv w0_ w1_ w2_ w3_ w4_ w5_ w6_ w7_ h0 n0 _ T131.heap _
    rw [e131]
    exact ⟨rfl, N136, Zs135, by rw [if_neg (by decide : ¬ (2 : Int32) = (0 : Int32)), if_neg (by decide : ¬ (2 : Int32) = (1 : Int32)), if_pos (rfl : (2 : Int32) = (2 : Int32)), if_neg (by decide : ¬ (2 : Int32) = (3 : Int32)), if_neg (by decide : ¬ (2 : Int32) = (4 : Int32)), if_neg (by decide : ¬ (2 : Int32) = (5 : Int32)), if_neg (by decide : ¬ (2 : Int32) = (6 : Int32)), if_neg (by decide : ¬ (2 : Int32) = (7 : Int32))]; exact hT⟩
  · show own_Go p e below _ (s₁.setTop (mkF m 0 #[oR this, oI (3 : Int32), oD (FP.l2d wv), .second, .unset] []))
    refine own_via (fun t kz => XS.aloadN X0.here hx rfl (hb hby d3_0) rfl rfl kz) ?_
    show own_Go p e below _ (s₁.setTop (mkF m 1 #[oR this, oI (3 : Int32), oD (FP.l2d wv), .second, .unset] [(.ref this)]))
    obtain ⟨T139, X139, e139, st139⟩ := getF X0 hx hZ hown (host := "") (Or.inl (own_w hw 13)) Via.refl e0 Fq0 (g := (mkF m 1 #[oR this, oI (3 : Int32), oD (FP.l2d wv), .second, .unset] [(.ref this)])) rfl rfl (hb hby d3_1)
    refine own_via st139 ?_
    refine own_via (fun t kz => XS.iloadN X139.here hx rfl (hb hby d3_4) rfl kz) ?_
    refine own_via (fun t kz => XS.iadd X139.here hx rfl (hb hby d3_5) rfl kz) ?_
    refine own_via (fun t kz => XS.istore X139.here hx rfl (hb hby d3_6) rfl (l' := #[oR this, oI (3 : Int32), oD (FP.l2d wv), .second, oI (11 : Int32)]) rfl kz) ?_
    show own_Go p e below _ (T139.setTop (mkF m 8 #[oR this, oI (3 : Int32), oD (FP.l2d wv), .second, oI (11 : Int32)] []))
    refine own_via (fun t kz => XS.aloadN X139.here hx rfl (hb hby d3_8) rfl rfl kz) ?_
    show own_Go p e below _ (T139.setTop (mkF m 9 #[oR this, oI (3 : Int32), oD (FP.l2d wv), .second, oI (11 : Int32)] [(.ref this)]))
    obtain ⟨T140, X140, e140, st140⟩ := getF X139 hx hZ hown (host := "") (Or.inl (own_w hw 16)) Via.refl e139 Fq1 (g := (mkF m 9 #[oR this, oI (3 : Int32), oD (FP.l2d wv), .second, oI (11 : Int32)] [(.ref this)])) rfl rfl (hb hby d3_9)
    refine own_via st140 ?_
    refine own_via (fun t kz => XS.iload X140.here hx rfl (hb hby d3_12) rfl kz) ?_
    refine own_via (fun t kz => XS.dloadN X140.here hx rfl (hb hby d3_14) rfl kz) ?_
    show own_Go p e below _ (T140.setTop (mkF m 15 #[oR this, oI (3 : Int32), oD (FP.l2d wv), .second, oI (11 : Int32)] [(.double (FP.l2d wv)), (.int (11 : Int32)), (.ref arr)]))
    obtain ⟨cl141, Ar141, kc141, Sz141, Nn141, Hs141, Gs141⟩ := id Vq
    obtain ⟨T141, h141, X141, e141, W141, st141⟩ := stD X140 hx hZ e140 Ar141 (j := (11 : Int32)) (inb_of Sz141 ⟨by decide, by decide⟩) (g := (mkF m 15 #[oR this, oI (3 : Int32), oD (FP.l2d wv), .second, oI (11 : Int32)] [(.double (FP.l2d wv)), (.int (11 : Int32)), (.ref arr)])) rfl rfl (hb hby d3_15)
    refine own_via st141 ?_
    have E142 := Eq.wr W141
    have F143 := Fq0.other W141 (Or.inl (own_neq (by omega)))
    have F144 := Fq1.other W141 (Or.inl (own_neq (by omega)))
    have Zs145 : n0 ≤ h141.size := Nat.le_trans Z0 (Keep.of_wr W141).1
    have N146 := Fr.snoc X141 N0 (show n0 ≤ arr by omega)
    have V147 : Arv Z h141 arr kA .double (16 : Int32) [(.double (FP.l2d (0 : Int64))), (.double (FP.l2d (((w0_ + w1_) + (w2_ + w3_)) + ((w4_ + w5_) + (w6_ + w7_))))), (.double (FP.l2d ((w0_ + w1_) + (w2_ + w3_)))), (.double (FP.l2d ((w4_ + w5_) + (w6_ + w7_)))), (.double (FP.l2d (w0_ + w1_))), (.double (FP.l2d (w2_ + w3_))), (.double (FP.l2d (w4_ + w5_))), (.double (FP.l2d (w6_ + w7_))), (.double (FP.l2d w0_)), (.double (FP.l2d w1_)), (.double (FP.l2d w2_)), (.double (FP.l2d wv)), (.double (FP.l2d w4_)), (.double (FP.l2d w5_)), (.double (FP.l2d w6_)), (.double (FP.l2d w7_))] (.double (FP.l2d (0 : Int64))) := Arv.set Ar141 kc141 Sz141 Nn141 Hs141 Gs141 rfl W141 11 (by first | decide | (show 11 < 16; decide)) (by first | decide | (show 11 < 16; decide))
    refine own_via (fun t kz => XS.iload X141.here hx rfl (hb hby d3_16) rfl kz) ?_
    refine own_via (fun t kz => XS.iconst X141.here hx rfl (hb hby d3_18) kz) ?_
    refine own_via (fun t kz => XS.idiv X141.here hx rfl (hb hby d3_19) rfl (by decide) kz) ?_
    show own_Go p e below _ (T141.setTop (mkF m 20 #[oR this, oI (3 : Int32), oD (FP.l2d wv), .second, oI (11 : Int32)] [(.int (5 : Int32))]))
    refine own_via (fun t kz => XS.istore X141.here hx rfl (hb hby d3_20) rfl (l' := #[oR this, oI (3 : Int32), oD (FP.l2d wv), .second, oI (5 : Int32)]) rfl kz) ?_
    refine own_via (fun t kz => XS.iload X141.here hx rfl (hb hby d3_22) rfl kz) ?_
    refine own_via (fun t kz => XS.iconst X141.here hx rfl (hb hby d3_24) kz) ?_
    show own_Go p e below _ (T141.setTop (mkF m 25 #[oR this, oI (3 : Int32), oD (FP.l2d wv), .second, oI (5 : Int32)] [(.int (1 : Int32)), (.int (5 : Int32))]))
    refine own_via (fun t kz => XS.icmpNo X141.here hx rfl (hb hby d3_25) rfl (flt (by decide : ¬ ((5 : Int32) < (1 : Int32)))).1 kz) ?_
    refine own_via (fun t kz => XS.aloadN X141.here hx rfl (hb hby d3_28) rfl rfl kz) ?_
    show own_Go p e below _ (T141.setTop (mkF m 29 #[oR this, oI (3 : Int32), oD (FP.l2d wv), .second, oI (5 : Int32)] [(.ref this)]))
    obtain ⟨T148, X148, e148, st148⟩ := getF X141 hx hZ hown (host := "") (Or.inl (own_w hw 16)) Via.refl e141 F144 (g := (mkF m 29 #[oR this, oI (3 : Int32), oD (FP.l2d wv), .second, oI (5 : Int32)] [(.ref this)])) rfl rfl (hb hby d3_29)
    refine own_via st148 ?_
    refine own_via (fun t kz => XS.iload X148.here hx rfl (hb hby d3_32) rfl kz) ?_
    refine own_via (fun t kz => XS.aloadN X148.here hx rfl (hb hby d3_34) rfl rfl kz) ?_
    show own_Go p e below _ (T148.setTop (mkF m 35 #[oR this, oI (3 : Int32), oD (FP.l2d wv), .second, oI (5 : Int32)] [(.ref this), (.int (5 : Int32)), (.ref arr)]))
    obtain ⟨T149, X149, e149, st149⟩ := getF X148 hx hZ hown (host := "") (Or.inl (own_w hw 16)) Via.refl e148 F144 (g := (mkF m 35 #[oR this, oI (3 : Int32), oD (FP.l2d wv), .second, oI (5 : Int32)] [(.ref this), (.int (5 : Int32)), (.ref arr)])) rfl rfl (hb hby d3_35)
    refine own_via st149 ?_
    refine own_via (fun t kz => XS.iconst X149.here hx rfl (hb hby d3_38) kz) ?_
    refine own_via (fun t kz => XS.iload X149.here hx rfl (hb hby d3_39) rfl kz) ?_
    refine own_via (fun t kz => XS.imul X149.here hx rfl (hb hby d3_41) rfl kz) ?_
    show own_Go p e below _ (T149.setTop (mkF m 42 #[oR this, oI (3 : Int32), oD (FP.l2d wv), .second, oI (5 : Int32)] [(.int (10 : Int32)), (.ref arr), (.int (5 : Int32)), (.ref arr)]))
    obtain ⟨cl150, Ar150, kc150, Sz150, Nn150, Hs150, Gs150⟩ := id V147
    have in150 := inb_of (j := (10 : Int32)) Sz150 ⟨by decide, by decide⟩
    have at150 : cl150.slots[((10 : Int32)).toNatClampNeg]? = some (.double (FP.l2d w2_)) := Hs150.at in150 rfl
    refine own_via (fun t kz => X149.daload hx (j := (10 : Int32)) (v := (.double (FP.l2d w2_))) (by rw [e149]; exact Ar150.1) (State.isArrayOf_alike hZ.alike Ar150.2.1) Ar150.2.2 in150 at150 (g := (mkF m 42 #[oR this, oI (3 : Int32), oD (FP.l2d wv), .second, oI (5 : Int32)] [(.int (10 : Int32)), (.ref arr), (.int (5 : Int32)), (.ref arr)])) rfl rfl (hb hby d3_42) t kz) ?_
    refine own_via (fun t kz => XS.aloadN X149.here hx rfl (hb hby d3_43) rfl rfl kz) ?_
    show own_Go p e below _ (T149.setTop (mkF m 44 #[oR this, oI (3 : Int32), oD (FP.l2d wv), .second, oI (5 : Int32)] [(.ref this), (.double (FP.l2d w2_)), (.int (5 : Int32)), (.ref arr)]))
    obtain ⟨T151, X151, e151, st151⟩ := getF X149 hx hZ hown (host := "") (Or.inl (own_w hw 16)) Via.refl e149 F144 (g := (mkF m 44 #[oR this, oI (3 : Int32), oD (FP.l2d wv), .second, oI (5 : Int32)] [(.ref this), (.double (FP.l2d w2_)), (.int (5 : Int32)), (.ref arr)])) rfl rfl (hb hby d3_44)
    refine own_via st151 ?_
    refine own_via (fun t kz => XS.iconst X151.here hx rfl (hb hby d3_47) kz) ?_
    refine own_via (fun t kz => XS.iload X151.here hx rfl (hb hby d3_48) rfl kz) ?_
    refine own_via (fun t kz => XS.imul X151.here hx rfl (hb hby d3_50) rfl kz) ?_
    show own_Go p e below _ (T151.setTop (mkF m 51 #[oR this, oI (3 : Int32), oD (FP.l2d wv), .second, oI (5 : Int32)] [(.int (10 : Int32)), (.ref arr), (.double (FP.l2d w2_)), (.int (5 : Int32)), (.ref arr)]))
    refine own_via (fun t kz => XS.iconst X151.here hx rfl (hb hby d3_51) kz) ?_
    refine own_via (fun t kz => XS.iadd X151.here hx rfl (hb hby d3_52) rfl kz) ?_
    show own_Go p e below _ (T151.setTop (mkF m 53 #[oR this, oI (3 : Int32), oD (FP.l2d wv), .second, oI (5 : Int32)] [(.int (11 : Int32)), (.ref arr), (.double (FP.l2d w2_)), (.int (5 : Int32)), (.ref arr)]))
    obtain ⟨cl152, Ar152, kc152, Sz152, Nn152, Hs152, Gs152⟩ := id V147
    have in152 := inb_of (j := (11 : Int32)) Sz152 ⟨by decide, by decide⟩
    have at152 : cl152.slots[((11 : Int32)).toNatClampNeg]? = some (.double (FP.l2d wv)) := Hs152.at in152 rfl
    refine own_via (fun t kz => X151.daload hx (j := (11 : Int32)) (v := (.double (FP.l2d wv))) (by rw [e151]; exact Ar152.1) (State.isArrayOf_alike hZ.alike Ar152.2.1) Ar152.2.2 in152 at152 (g := (mkF m 53 #[oR this, oI (3 : Int32), oD (FP.l2d wv), .second, oI (5 : Int32)] [(.int (11 : Int32)), (.ref arr), (.double (FP.l2d w2_)), (.int (5 : Int32)), (.ref arr)])) rfl rfl (hb hby d3_53) t kz) ?_
    show own_Go p e below _ (T151.setTop (mkF m 54 #[oR this, oI (3 : Int32), oD (FP.l2d wv), .second, oI (5 : Int32)] [(.double (FP.l2d wv)), (.double (FP.l2d w2_)), (.int (5 : Int32)), (.ref arr)]))
    refine own_via (fun t kz => XS.daddS X151.here hx rfl (hb hby d3_54) rfl (nn_w (dadd_w (own_b53 hb2 (by decide)) (own_b53 hbv (by decide)))) (dadd_w (own_b53 hb2 (by decide)) (own_b53 hbv (by decide))) kz) ?_
    show own_Go p e below _ (T151.setTop (mkF m 55 #[oR this, oI (3 : Int32), oD (FP.l2d wv), .second, oI (5 : Int32)] [(.double (FP.l2d (w2_ + wv))), (.int (5 : Int32)), (.ref arr)]))
    obtain ⟨cl153, Ar153, kc153, Sz153, Nn153, Hs153, Gs153⟩ := id V147
    obtain ⟨T153, h153, X153, e153, W153, st153⟩ := stD X151 hx hZ e151 Ar153 (j := (5 : Int32)) (inb_of Sz153 ⟨by decide, by decide⟩) (g := (mkF m 55 #[oR this, oI (3 : Int32), oD (FP.l2d wv), .second, oI (5 : Int32)] [(.double (FP.l2d (w2_ + wv))), (.int (5 : Int32)), (.ref arr)])) rfl rfl (hb hby d3_55)
    refine own_via st153 ?_
    have E154 := E142.wr W153
    have F155 := F143.other W153 (Or.inl (own_neq (by omega)))
    have F156 := F144.other W153 (Or.inl (own_neq (by omega)))
    have Zs157 : n0 ≤ h153.size := Nat.le_trans Zs145 (Keep.of_wr W153).1
    have N158 := Fr.snoc X153 N146 (show n0 ≤ arr by omega)
    have V159 : Arv Z h153 arr kA .double (16 : Int32) [(.double (FP.l2d (0 : Int64))), (.double (FP.l2d (((w0_ + w1_) + (w2_ + w3_)) + ((w4_ + w5_) + (w6_ + w7_))))), (.double (FP.l2d ((w0_ + w1_) + (w2_ + w3_)))), (.double (FP.l2d ((w4_ + w5_) + (w6_ + w7_)))), (.double (FP.l2d (w0_ + w1_))), (.double (FP.l2d (w2_ + wv))), (.double (FP.l2d (w4_ + w5_))), (.double (FP.l2d (w6_ + w7_))), (.double (FP.l2d w0_)), (.double (FP.l2d w1_)), (.double (FP.l2d w2_)), (.double (FP.l2d wv)), (.double (FP.l2d w4_)), (.double (FP.l2d w5_)), (.double (FP.l2d w6_)), (.double (FP.l2d w7_))] (.double (FP.l2d (0 : Int64))) := Arv.set Ar153 kc153 Sz153 Nn153 Hs153 Gs153 rfl W153 5 (by first | decide | (show 5 < 16; decide)) (by first | decide | (show 5 < 16; decide))
    refine own_via (fun t kz => XS.iload X153.here hx rfl (hb hby d3_56) rfl kz) ?_
    refine own_via (fun t kz => XS.iconst X153.here hx rfl (hb hby d3_58) kz) ?_
    refine own_via (fun t kz => XS.idiv X153.here hx rfl (hb hby d3_59) rfl (by decide) kz) ?_
    show own_Go p e below _ (T153.setTop (mkF m 60 #[oR this, oI (3 : Int32), oD (FP.l2d wv), .second, oI (5 : Int32)] [(.int (2 : Int32))]))
    refine own_via (fun t kz => XS.istore X153.here hx rfl (hb hby d3_60) rfl (l' := #[oR this, oI (3 : Int32), oD (FP.l2d wv), .second, oI (2 : Int32)]) rfl kz) ?_
    refine own_via (fun t kz => XS.goto X153.here hx rfl (pc0 := 62) (pc' := 22) rfl (hb hby d3_62) (by decide) (by decide) kz) ?_
    refine own_via (fun t kz => XS.iload X153.here hx rfl (hb hby d3_22) rfl kz) ?_
    refine own_via (fun t kz => XS.iconst X153.here hx rfl (hb hby d3_24) kz) ?_
    show own_Go p e below _ (T153.setTop (mkF m 25 #[oR this, oI (3 : Int32), oD (FP.l2d wv), .second, oI (2 : Int32)] [(.int (1 : Int32)), (.int (2 : Int32))]))
    refine own_via (fun t kz => XS.icmpNo X153.here hx rfl (hb hby d3_25) rfl (flt (by decide : ¬ ((2 : Int32) < (1 : Int32)))).1 kz) ?_
    refine own_via (fun t kz => XS.aloadN X153.here hx rfl (hb hby d3_28) rfl rfl kz) ?_
    show own_Go p e below _ (T153.setTop (mkF m 29 #[oR this, oI (3 : Int32), oD (FP.l2d wv), .second, oI (2 : Int32)] [(.ref this)]))
    obtain ⟨T160, X160, e160, st160⟩ := getF X153 hx hZ hown (host := "") (Or.inl (own_w hw 16)) Via.refl e153 F156 (g := (mkF m 29 #[oR this, oI (3 : Int32), oD (FP.l2d wv), .second, oI (2 : Int32)] [(.ref this)])) rfl rfl (hb hby d3_29)
    refine own_via st160 ?_
    refine own_via (fun t kz => XS.iload X160.here hx rfl (hb hby d3_32) rfl kz) ?_
    refine own_via (fun t kz => XS.aloadN X160.here hx rfl (hb hby d3_34) rfl rfl kz) ?_
    show own_Go p e below _ (T160.setTop (mkF m 35 #[oR this, oI (3 : Int32), oD (FP.l2d wv), .second, oI (2 : Int32)] [(.ref this), (.int (2 : Int32)), (.ref arr)]))
    obtain ⟨T161, X161, e161, st161⟩ := getF X160 hx hZ hown (host := "") (Or.inl (own_w hw 16)) Via.refl e160 F156 (g := (mkF m 35 #[oR this, oI (3 : Int32), oD (FP.l2d wv), .second, oI (2 : Int32)] [(.ref this), (.int (2 : Int32)), (.ref arr)])) rfl rfl (hb hby d3_35)
    refine own_via st161 ?_
    refine own_via (fun t kz => XS.iconst X161.here hx rfl (hb hby d3_38) kz) ?_
    refine own_via (fun t kz => XS.iload X161.here hx rfl (hb hby d3_39) rfl kz) ?_
    refine own_via (fun t kz => XS.imul X161.here hx rfl (hb hby d3_41) rfl kz) ?_
    show own_Go p e below _ (T161.setTop (mkF m 42 #[oR this, oI (3 : Int32), oD (FP.l2d wv), .second, oI (2 : Int32)] [(.int (4 : Int32)), (.ref arr), (.int (2 : Int32)), (.ref arr)]))
    obtain ⟨cl162, Ar162, kc162, Sz162, Nn162, Hs162, Gs162⟩ := id V159
    have in162 := inb_of (j := (4 : Int32)) Sz162 ⟨by decide, by decide⟩
    have at162 : cl162.slots[((4 : Int32)).toNatClampNeg]? = some (.double (FP.l2d (w0_ + w1_))) := Hs162.at in162 rfl
    refine own_via (fun t kz => X161.daload hx (j := (4 : Int32)) (v := (.double (FP.l2d (w0_ + w1_)))) (by rw [e161]; exact Ar162.1) (State.isArrayOf_alike hZ.alike Ar162.2.1) Ar162.2.2 in162 at162 (g := (mkF m 42 #[oR this, oI (3 : Int32), oD (FP.l2d wv), .second, oI (2 : Int32)] [(.int (4 : Int32)), (.ref arr), (.int (2 : Int32)), (.ref arr)])) rfl rfl (hb hby d3_42) t kz) ?_
    refine own_via (fun t kz => XS.aloadN X161.here hx rfl (hb hby d3_43) rfl rfl kz) ?_
    show own_Go p e below _ (T161.setTop (mkF m 44 #[oR this, oI (3 : Int32), oD (FP.l2d wv), .second, oI (2 : Int32)] [(.ref this), (.double (FP.l2d (w0_ + w1_))), (.int (2 : Int32)), (.ref arr)]))
    obtain ⟨T163, X163, e163, st163⟩ := getF X161 hx hZ hown (host := "") (Or.inl (own_w hw 16)) Via.refl e161 F156 (g := (mkF m 44 #[oR this, oI (3 : Int32), oD (FP.l2d wv), .second, oI (2 : Int32)] [(.ref this), (.double (FP.l2d (w0_ + w1_))), (.int (2 : Int32)), (.ref arr)])) rfl rfl (hb hby d3_44)
    refine own_via st163 ?_
    refine own_via (fun t kz => XS.iconst X163.here hx rfl (hb hby d3_47) kz) ?_
    refine own_via (fun t kz => XS.iload X163.here hx rfl (hb hby d3_48) rfl kz) ?_
    refine own_via (fun t kz => XS.imul X163.here hx rfl (hb hby d3_50) rfl kz) ?_
    show own_Go p e below _ (T163.setTop (mkF m 51 #[oR this, oI (3 : Int32), oD (FP.l2d wv), .second, oI (2 : Int32)] [(.int (4 : Int32)), (.ref arr), (.double (FP.l2d (w0_ + w1_))), (.int (2 : Int32)), (.ref arr)]))
    refine own_via (fun t kz => XS.iconst X163.here hx rfl (hb hby d3_51) kz) ?_
    refine own_via (fun t kz => XS.iadd X163.here hx rfl (hb hby d3_52) rfl kz) ?_
    show own_Go p e below _ (T163.setTop (mkF m 53 #[oR this, oI (3 : Int32), oD (FP.l2d wv), .second, oI (2 : Int32)] [(.int (5 : Int32)), (.ref arr), (.double (FP.l2d (w0_ + w1_))), (.int (2 : Int32)), (.ref arr)]))
    obtain ⟨cl164, Ar164, kc164, Sz164, Nn164, Hs164, Gs164⟩ := id V159
    have in164 := inb_of (j := (5 : Int32)) Sz164 ⟨by decide, by decide⟩
    have at164 : cl164.slots[((5 : Int32)).toNatClampNeg]? = some (.double (FP.l2d (w2_ + wv))) := Hs164.at in164 rfl
    refine own_via (fun t kz => X163.daload hx (j := (5 : Int32)) (v := (.double (FP.l2d (w2_ + wv)))) (by rw [e163]; exact Ar164.1) (State.isArrayOf_alike hZ.alike Ar164.2.1) Ar164.2.2 in164 at164 (g := (mkF m 53 #[oR this, oI (3 : Int32), oD (FP.l2d wv), .second, oI (2 : Int32)] [(.int (5 : Int32)), (.ref arr), (.double (FP.l2d (w0_ + w1_))), (.int (2 : Int32)), (.ref arr)])) rfl rfl (hb hby d3_53) t kz) ?_
    show own_Go p e below _ (T163.setTop (mkF m 54 #[oR this, oI (3 : Int32), oD (FP.l2d wv), .second, oI (2 : Int32)] [(.double (FP.l2d (w2_ + wv))), (.double (FP.l2d (w0_ + w1_))), (.int (2 : Int32)), (.ref arr)]))
    refine own_via (fun t kz => XS.daddS X163.here hx rfl (hb hby d3_54) rfl (nn_w (dadd_w (own_b53 (own_bda hb0 hb1 (by decide)) (by decide)) (own_b53 (own_bda hb2 hbv (by decide)) (by decide)))) (dadd_w (own_b53 (own_bda hb0 hb1 (by decide)) (by decide)) (own_b53 (own_bda hb2 hbv (by decide)) (by decide))) kz) ?_
    show own_Go p e below _ (T163.setTop (mkF m 55 #[oR this, oI (3 : Int32), oD (FP.l2d wv), .second, oI (2 : Int32)] [(.double (FP.l2d ((w0_ + w1_) + (w2_ + wv)))), (.int (2 : Int32)), (.ref arr)]))
    obtain ⟨cl165, Ar165, kc165, Sz165, Nn165, Hs165, Gs165⟩ := id V159
    obtain ⟨T165, h165, X165, e165, W165, st165⟩ := stD X163 hx hZ e163 Ar165 (j := (2 : Int32)) (inb_of Sz165 ⟨by decide, by decide⟩) (g := (mkF m 55 #[oR this, oI (3 : Int32), oD (FP.l2d wv), .second, oI (2 : Int32)] [(.double (FP.l2d ((w0_ + w1_) + (w2_ + wv)))), (.int (2 : Int32)), (.ref arr)])) rfl rfl (hb hby d3_55)
    refine own_via st165 ?_
    have E166 := E154.wr W165
    have F167 := F155.other W165 (Or.inl (own_neq (by omega)))
    have F168 := F156.other W165 (Or.inl (own_neq (by omega)))
    have Zs169 : n0 ≤ h165.size := Nat.le_trans Zs157 (Keep.of_wr W165).1
    have N170 := Fr.snoc X165 N158 (show n0 ≤ arr by omega)
    have V171 : Arv Z h165 arr kA .double (16 : Int32) [(.double (FP.l2d (0 : Int64))), (.double (FP.l2d (((w0_ + w1_) + (w2_ + w3_)) + ((w4_ + w5_) + (w6_ + w7_))))), (.double (FP.l2d ((w0_ + w1_) + (w2_ + wv)))), (.double (FP.l2d ((w4_ + w5_) + (w6_ + w7_)))), (.double (FP.l2d (w0_ + w1_))), (.double (FP.l2d (w2_ + wv))), (.double (FP.l2d (w4_ + w5_))), (.double (FP.l2d (w6_ + w7_))), (.double (FP.l2d w0_)), (.double (FP.l2d w1_)), (.double (FP.l2d w2_)), (.double (FP.l2d wv)), (.double (FP.l2d w4_)), (.double (FP.l2d w5_)), (.double (FP.l2d w6_)), (.double (FP.l2d w7_))] (.double (FP.l2d (0 : Int64))) := Arv.set Ar165 kc165 Sz165 Nn165 Hs165 Gs165 rfl W165 2 (by first | decide | (show 2 < 16; decide)) (by first | decide | (show 2 < 16; decide))
    refine own_via (fun t kz => XS.iload X165.here hx rfl (hb hby d3_56) rfl kz) ?_
    refine own_via (fun t kz => XS.iconst X165.here hx rfl (hb hby d3_58) kz) ?_
    refine own_via (fun t kz => XS.idiv X165.here hx rfl (hb hby d3_59) rfl (by decide) kz) ?_
    show own_Go p e below _ (T165.setTop (mkF m 60 #[oR this, oI (3 : Int32), oD (FP.l2d wv), .second, oI (2 : Int32)] [(.int (1 : Int32))]))
    refine own_via (fun t kz => XS.istore X165.here hx rfl (hb hby d3_60) rfl (l' := #[oR this, oI (3 : Int32), oD (FP.l2d wv), .second, oI (1 : Int32)]) rfl kz) ?_
    refine own_via (fun t kz => XS.goto X165.here hx rfl (pc0 := 62) (pc' := 22) rfl (hb hby d3_62) (by decide) (by decide) kz) ?_
    refine own_via (fun t kz => XS.iload X165.here hx rfl (hb hby d3_22) rfl kz) ?_
    refine own_via (fun t kz => XS.iconst X165.here hx rfl (hb hby d3_24) kz) ?_
    show own_Go p e below _ (T165.setTop (mkF m 25 #[oR this, oI (3 : Int32), oD (FP.l2d wv), .second, oI (1 : Int32)] [(.int (1 : Int32)), (.int (1 : Int32))]))
    refine own_via (fun t kz => XS.icmpNo X165.here hx rfl (hb hby d3_25) rfl (flt (by decide : ¬ ((1 : Int32) < (1 : Int32)))).1 kz) ?_
    refine own_via (fun t kz => XS.aloadN X165.here hx rfl (hb hby d3_28) rfl rfl kz) ?_
    show own_Go p e below _ (T165.setTop (mkF m 29 #[oR this, oI (3 : Int32), oD (FP.l2d wv), .second, oI (1 : Int32)] [(.ref this)]))
    obtain ⟨T172, X172, e172, st172⟩ := getF X165 hx hZ hown (host := "") (Or.inl (own_w hw 16)) Via.refl e165 F168 (g := (mkF m 29 #[oR this, oI (3 : Int32), oD (FP.l2d wv), .second, oI (1 : Int32)] [(.ref this)])) rfl rfl (hb hby d3_29)
    refine own_via st172 ?_
    refine own_via (fun t kz => XS.iload X172.here hx rfl (hb hby d3_32) rfl kz) ?_
    refine own_via (fun t kz => XS.aloadN X172.here hx rfl (hb hby d3_34) rfl rfl kz) ?_
    show own_Go p e below _ (T172.setTop (mkF m 35 #[oR this, oI (3 : Int32), oD (FP.l2d wv), .second, oI (1 : Int32)] [(.ref this), (.int (1 : Int32)), (.ref arr)]))
    obtain ⟨T173, X173, e173, st173⟩ := getF X172 hx hZ hown (host := "") (Or.inl (own_w hw 16)) Via.refl e172 F168 (g := (mkF m 35 #[oR this, oI (3 : Int32), oD (FP.l2d wv), .second, oI (1 : Int32)] [(.ref this), (.int (1 : Int32)), (.ref arr)])) rfl rfl (hb hby d3_35)
    refine own_via st173 ?_
    refine own_via (fun t kz => XS.iconst X173.here hx rfl (hb hby d3_38) kz) ?_
    refine own_via (fun t kz => XS.iload X173.here hx rfl (hb hby d3_39) rfl kz) ?_
    refine own_via (fun t kz => XS.imul X173.here hx rfl (hb hby d3_41) rfl kz) ?_
    show own_Go p e below _ (T173.setTop (mkF m 42 #[oR this, oI (3 : Int32), oD (FP.l2d wv), .second, oI (1 : Int32)] [(.int (2 : Int32)), (.ref arr), (.int (1 : Int32)), (.ref arr)]))
    obtain ⟨cl174, Ar174, kc174, Sz174, Nn174, Hs174, Gs174⟩ := id V171
    have in174 := inb_of (j := (2 : Int32)) Sz174 ⟨by decide, by decide⟩
    have at174 : cl174.slots[((2 : Int32)).toNatClampNeg]? = some (.double (FP.l2d ((w0_ + w1_) + (w2_ + wv)))) := Hs174.at in174 rfl
    refine own_via (fun t kz => X173.daload hx (j := (2 : Int32)) (v := (.double (FP.l2d ((w0_ + w1_) + (w2_ + wv))))) (by rw [e173]; exact Ar174.1) (State.isArrayOf_alike hZ.alike Ar174.2.1) Ar174.2.2 in174 at174 (g := (mkF m 42 #[oR this, oI (3 : Int32), oD (FP.l2d wv), .second, oI (1 : Int32)] [(.int (2 : Int32)), (.ref arr), (.int (1 : Int32)), (.ref arr)])) rfl rfl (hb hby d3_42) t kz) ?_
    refine own_via (fun t kz => XS.aloadN X173.here hx rfl (hb hby d3_43) rfl rfl kz) ?_
    show own_Go p e below _ (T173.setTop (mkF m 44 #[oR this, oI (3 : Int32), oD (FP.l2d wv), .second, oI (1 : Int32)] [(.ref this), (.double (FP.l2d ((w0_ + w1_) + (w2_ + wv)))), (.int (1 : Int32)), (.ref arr)]))
    obtain ⟨T175, X175, e175, st175⟩ := getF X173 hx hZ hown (host := "") (Or.inl (own_w hw 16)) Via.refl e173 F168 (g := (mkF m 44 #[oR this, oI (3 : Int32), oD (FP.l2d wv), .second, oI (1 : Int32)] [(.ref this), (.double (FP.l2d ((w0_ + w1_) + (w2_ + wv)))), (.int (1 : Int32)), (.ref arr)])) rfl rfl (hb hby d3_44)
    refine own_via st175 ?_
    refine own_via (fun t kz => XS.iconst X175.here hx rfl (hb hby d3_47) kz) ?_
    refine own_via (fun t kz => XS.iload X175.here hx rfl (hb hby d3_48) rfl kz) ?_
    refine own_via (fun t kz => XS.imul X175.here hx rfl (hb hby d3_50) rfl kz) ?_
    show own_Go p e below _ (T175.setTop (mkF m 51 #[oR this, oI (3 : Int32), oD (FP.l2d wv), .second, oI (1 : Int32)] [(.int (2 : Int32)), (.ref arr), (.double (FP.l2d ((w0_ + w1_) + (w2_ + wv)))), (.int (1 : Int32)), (.ref arr)]))
    refine own_via (fun t kz => XS.iconst X175.here hx rfl (hb hby d3_51) kz) ?_
    refine own_via (fun t kz => XS.iadd X175.here hx rfl (hb hby d3_52) rfl kz) ?_
    show own_Go p e below _ (T175.setTop (mkF m 53 #[oR this, oI (3 : Int32), oD (FP.l2d wv), .second, oI (1 : Int32)] [(.int (3 : Int32)), (.ref arr), (.double (FP.l2d ((w0_ + w1_) + (w2_ + wv)))), (.int (1 : Int32)), (.ref arr)]))
    obtain ⟨cl176, Ar176, kc176, Sz176, Nn176, Hs176, Gs176⟩ := id V171
    have in176 := inb_of (j := (3 : Int32)) Sz176 ⟨by decide, by decide⟩
    have at176 : cl176.slots[((3 : Int32)).toNatClampNeg]? = some (.double (FP.l2d ((w4_ + w5_) + (w6_ + w7_)))) := Hs176.at in176 rfl
    refine own_via (fun t kz => X175.daload hx (j := (3 : Int32)) (v := (.double (FP.l2d ((w4_ + w5_) + (w6_ + w7_))))) (by rw [e175]; exact Ar176.1) (State.isArrayOf_alike hZ.alike Ar176.2.1) Ar176.2.2 in176 at176 (g := (mkF m 53 #[oR this, oI (3 : Int32), oD (FP.l2d wv), .second, oI (1 : Int32)] [(.int (3 : Int32)), (.ref arr), (.double (FP.l2d ((w0_ + w1_) + (w2_ + wv)))), (.int (1 : Int32)), (.ref arr)])) rfl rfl (hb hby d3_53) t kz) ?_
    show own_Go p e below _ (T175.setTop (mkF m 54 #[oR this, oI (3 : Int32), oD (FP.l2d wv), .second, oI (1 : Int32)] [(.double (FP.l2d ((w4_ + w5_) + (w6_ + w7_)))), (.double (FP.l2d ((w0_ + w1_) + (w2_ + wv)))), (.int (1 : Int32)), (.ref arr)]))
    refine own_via (fun t kz => XS.daddS X175.here hx rfl (hb hby d3_54) rfl (nn_w (dadd_w (own_b53 (own_bda (own_bda hb0 hb1 (by decide)) (own_bda hb2 hbv (by decide)) (by decide)) (by decide)) (own_b53 (own_bda (own_bda hb4 hb5 (by decide)) (own_bda hb6 hb7 (by decide)) (by decide)) (by decide)))) (dadd_w (own_b53 (own_bda (own_bda hb0 hb1 (by decide)) (own_bda hb2 hbv (by decide)) (by decide)) (by decide)) (own_b53 (own_bda (own_bda hb4 hb5 (by decide)) (own_bda hb6 hb7 (by decide)) (by decide)) (by decide))) kz) ?_
    show own_Go p e below _ (T175.setTop (mkF m 55 #[oR this, oI (3 : Int32), oD (FP.l2d wv), .second, oI (1 : Int32)] [(.double (FP.l2d (((w0_ + w1_) + (w2_ + wv)) + ((w4_ + w5_) + (w6_ + w7_))))), (.int (1 : Int32)), (.ref arr)]))
    obtain ⟨cl177, Ar177, kc177, Sz177, Nn177, Hs177, Gs177⟩ := id V171
    obtain ⟨T177, h177, X177, e177, W177, st177⟩ := stD X175 hx hZ e175 Ar177 (j := (1 : Int32)) (inb_of Sz177 ⟨by decide, by decide⟩) (g := (mkF m 55 #[oR this, oI (3 : Int32), oD (FP.l2d wv), .second, oI (1 : Int32)] [(.double (FP.l2d (((w0_ + w1_) + (w2_ + wv)) + ((w4_ + w5_) + (w6_ + w7_))))), (.int (1 : Int32)), (.ref arr)])) rfl rfl (hb hby d3_55)
    refine own_via st177 ?_
    have E178 := E166.wr W177
    have F179 := F167.other W177 (Or.inl (own_neq (by omega)))
    have F180 := F168.other W177 (Or.inl (own_neq (by omega)))
    have Zs181 : n0 ≤ h177.size := Nat.le_trans Zs169 (Keep.of_wr W177).1
    have N182 := Fr.snoc X177 N170 (show n0 ≤ arr by omega)
    have V183 : Arv Z h177 arr kA .double (16 : Int32) [(.double (FP.l2d (0 : Int64))), (.double (FP.l2d (((w0_ + w1_) + (w2_ + wv)) + ((w4_ + w5_) + (w6_ + w7_))))), (.double (FP.l2d ((w0_ + w1_) + (w2_ + wv)))), (.double (FP.l2d ((w4_ + w5_) + (w6_ + w7_)))), (.double (FP.l2d (w0_ + w1_))), (.double (FP.l2d (w2_ + wv))), (.double (FP.l2d (w4_ + w5_))), (.double (FP.l2d (w6_ + w7_))), (.double (FP.l2d w0_)), (.double (FP.l2d w1_)), (.double (FP.l2d w2_)), (.double (FP.l2d wv)), (.double (FP.l2d w4_)), (.double (FP.l2d w5_)), (.double (FP.l2d w6_)), (.double (FP.l2d w7_))] (.double (FP.l2d (0 : Int64))) := Arv.set Ar177 kc177 Sz177 Nn177 Hs177 Gs177 rfl W177 1 (by first | decide | (show 1 < 16; decide)) (by first | decide | (show 1 < 16; decide))
    refine own_via (fun t kz => XS.iload X177.here hx rfl (hb hby d3_56) rfl kz) ?_
    refine own_via (fun t kz => XS.iconst X177.here hx rfl (hb hby d3_58) kz) ?_
    refine own_via (fun t kz => XS.idiv X177.here hx rfl (hb hby d3_59) rfl (by decide) kz) ?_
    show own_Go p e below _ (T177.setTop (mkF m 60 #[oR this, oI (3 : Int32), oD (FP.l2d wv), .second, oI (1 : Int32)] [(.int (0 : Int32))]))
    refine own_via (fun t kz => XS.istore X177.here hx rfl (hb hby d3_60) rfl (l' := #[oR this, oI (3 : Int32), oD (FP.l2d wv), .second, oI (0 : Int32)]) rfl kz) ?_
    refine own_via (fun t kz => XS.goto X177.here hx rfl (pc0 := 62) (pc' := 22) rfl (hb hby d3_62) (by decide) (by decide) kz) ?_
    refine own_via (fun t kz => XS.iload X177.here hx rfl (hb hby d3_22) rfl kz) ?_
    refine own_via (fun t kz => XS.iconst X177.here hx rfl (hb hby d3_24) kz) ?_
    show own_Go p e below _ (T177.setTop (mkF m 25 #[oR this, oI (3 : Int32), oD (FP.l2d wv), .second, oI (0 : Int32)] [(.int (1 : Int32)), (.int (0 : Int32))]))
    refine own_via (fun t kz => XS.icmpYes X177.here hx rfl (pc0 := 25) (pc' := 65) rfl (hb hby d3_25) rfl (tlt (by decide : (0 : Int32) < (1 : Int32))).1 (by decide) (by decide) kz) ?_
    show own_Go p e below _ (T177.setTop (mkF m 65 #[oR this, oI (3 : Int32), oD (FP.l2d wv), .second, oI (0 : Int32)] []))
    have hT : own_W8 Z h177 n0 this w0_ w1_ w2_ wv w4_ w5_ w6_ w7_ := ⟨arr, kA, ⟨ch0, ch1⟩, E178, F179, F180, V183⟩
    obtain ⟨fs, hr, hrun, hended, hW, hsame⟩ := X177.leave (v := none) (fun _ => rfl)
    refine ⟨_, _, X177.returnOut hx Bd.returns (hb hby d3_65) hr, hrun, hended, _, _, rfl, ?_, ⟨_, rfl⟩, hW, hsame.mono (by decide) (by decide)⟩
    show Q3_8 Z this (3 : Int32) wv w0_ w1_ w2_ w3_ w4_ w5_ w6_ w7_ h0 n0 _ T177.heap _
    rw [e177]
    exact ⟨rfl, N182, Zs181, by rw [if_neg (by decide : ¬ (3 : Int32) = (0 : Int32)), if_neg (by decide : ¬ (3 : Int32) = (1 : Int32)), if_neg (by decide : ¬ (3 : Int32) = (2 : Int32)), if_pos (rfl : (3 : Int32) = (3 : Int32)), if_neg (by decide : ¬ (3 : Int32) = (4 : Int32)), if_neg (by decide : ¬ (3 : Int32) = (5 : Int32)), if_neg (by decide : ¬ (3 : Int32) = (6 : Int32)), if_neg (by decide : ¬ (3 : Int32) = (7 : Int32))]; exact hT⟩
  · show own_Go p e below _ (s₁.setTop (mkF m 0 #[oR this, oI (4 : Int32), oD (FP.l2d wv), .second, .unset] []))
    refine own_via (fun t kz => XS.aloadN X0.here hx rfl (hb hby d3_0) rfl rfl kz) ?_
    show own_Go p e below _ (s₁.setTop (mkF m 1 #[oR this, oI (4 : Int32), oD (FP.l2d wv), .second, .unset] [(.ref this)]))
    obtain ⟨T185, X185, e185, st185⟩ := getF X0 hx hZ hown (host := "") (Or.inl (own_w hw 13)) Via.refl e0 Fq0 (g := (mkF m 1 #[oR this, oI (4 : Int32), oD (FP.l2d wv), .second, .unset] [(.ref this)])) rfl rfl (hb hby d3_1)
    refine own_via st185 ?_
    refine own_via (fun t kz => XS.iloadN X185.here hx rfl (hb hby d3_4) rfl kz) ?_
    refine own_via (fun t kz => XS.iadd X185.here hx rfl (hb hby d3_5) rfl kz) ?_
    refine own_via (fun t kz => XS.istore X185.here hx rfl (hb hby d3_6) rfl (l' := #[oR this, oI (4 : Int32), oD (FP.l2d wv), .second, oI (12 : Int32)]) rfl kz) ?_
    show own_Go p e below _ (T185.setTop (mkF m 8 #[oR this, oI (4 : Int32), oD (FP.l2d wv), .second, oI (12 : Int32)] []))
    refine own_via (fun t kz => XS.aloadN X185.here hx rfl (hb hby d3_8) rfl rfl kz) ?_
    show own_Go p e below _ (T185.setTop (mkF m 9 #[oR this, oI (4 : Int32), oD (FP.l2d wv), .second, oI (12 : Int32)] [(.ref this)]))
    obtain ⟨T186, X186, e186, st186⟩ := getF X185 hx hZ hown (host := "") (Or.inl (own_w hw 16)) Via.refl e185 Fq1 (g := (mkF m 9 #[oR this, oI (4 : Int32), oD (FP.l2d wv), .second, oI (12 : Int32)] [(.ref this)])) rfl rfl (hb hby d3_9)
    refine own_via st186 ?_
    refine own_via (fun t kz => XS.iload X186.here hx rfl (hb hby d3_12) rfl kz) ?_
    refine own_via (fun t kz => XS.dloadN X186.here hx rfl (hb hby d3_14) rfl kz) ?_
    show own_Go p e below _ (T186.setTop (mkF m 15 #[oR this, oI (4 : Int32), oD (FP.l2d wv), .second, oI (12 : Int32)] [(.double (FP.l2d wv)), (.int (12 : Int32)), (.ref arr)]))
    obtain ⟨cl187, Ar187, kc187, Sz187, Nn187, Hs187, Gs187⟩ := id Vq
    obtain ⟨T187, h187, X187, e187, W187, st187⟩ := stD X186 hx hZ e186 Ar187 (j := (12 : Int32)) (inb_of Sz187 ⟨by decide, by decide⟩) (g := (mkF m 15 #[oR this, oI (4 : Int32), oD (FP.l2d wv), .second, oI (12 : Int32)] [(.double (FP.l2d wv)), (.int (12 : Int32)), (.ref arr)])) rfl rfl (hb hby d3_15)
    refine own_via st187 ?_
    have E188 := Eq.wr W187
    have F189 := Fq0.other W187 (Or.inl (own_neq (by omega)))
    have F190 := Fq1.other W187 (Or.inl (own_neq (by omega)))
    have Zs191 : n0 ≤ h187.size := Nat.le_trans Z0 (Keep.of_wr W187).1
    have N192 := Fr.snoc X187 N0 (show n0 ≤ arr by omega)
    have V193 : Arv Z h187 arr kA .double (16 : Int32) [(.double (FP.l2d (0 : Int64))), (.double (FP.l2d (((w0_ + w1_) + (w2_ + w3_)) + ((w4_ + w5_) + (w6_ + w7_))))), (.double (FP.l2d ((w0_ + w1_) + (w2_ + w3_)))), (.double (FP.l2d ((w4_ + w5_) + (w6_ + w7_)))), (.double (FP.l2d (w0_ + w1_))), (.double (FP.l2d (w2_ + w3_))), (.double (FP.l2d (w4_ + w5_))), (.double (FP.l2d (w6_ + w7_))), (.double (FP.l2d w0_)), (.double (FP.l2d w1_)), (.double (FP.l2d w2_)), (.double (FP.l2d w3_)), (.double (FP.l2d wv)), (.double (FP.l2d w5_)), (.double (FP.l2d w6_)), (.double (FP.l2d w7_))] (.double (FP.l2d (0 : Int64))) := Arv.set Ar187 kc187 Sz187 Nn187 Hs187 Gs187 rfl W187 12 (by first | decide | (show 12 < 16; decide)) (by first | decide | (show 12 < 16; decide))
    refine own_via (fun t kz => XS.iload X187.here hx rfl (hb hby d3_16) rfl kz) ?_
    refine own_via (fun t kz => XS.iconst X187.here hx rfl (hb hby d3_18) kz) ?_
    refine own_via (fun t kz => XS.idiv X187.here hx rfl (hb hby d3_19) rfl (by decide) kz) ?_
    show own_Go p e below _ (T187.setTop (mkF m 20 #[oR this, oI (4 : Int32), oD (FP.l2d wv), .second, oI (12 : Int32)] [(.int (6 : Int32))]))
    refine own_via (fun t kz => XS.istore X187.here hx rfl (hb hby d3_20) rfl (l' := #[oR this, oI (4 : Int32), oD (FP.l2d wv), .second, oI (6 : Int32)]) rfl kz) ?_
    refine own_via (fun t kz => XS.iload X187.here hx rfl (hb hby d3_22) rfl kz) ?_
    refine own_via (fun t kz => XS.iconst X187.here hx rfl (hb hby d3_24) kz) ?_
    show own_Go p e below _ (T187.setTop (mkF m 25 #[oR this, oI (4 : Int32), oD (FP.l2d wv), .second, oI (6 : Int32)] [(.int (1 : Int32)), (.int (6 : Int32))]))
    refine own_via (fun t kz => XS.icmpNo X187.here hx rfl (hb hby d3_25) rfl (flt (by decide : ¬ ((6 : Int32) < (1 : Int32)))).1 kz) ?_
    refine own_via (fun t kz => XS.aloadN X187.here hx rfl (hb hby d3_28) rfl rfl kz) ?_
    show own_Go p e below _ (T187.setTop (mkF m 29 #[oR this, oI (4 : Int32), oD (FP.l2d wv), .second, oI (6 : Int32)] [(.ref this)]))
    obtain ⟨T194, X194, e194, st194⟩ := getF X187 hx hZ hown (host := "") (Or.inl (own_w hw 16)) Via.refl e187 F190 (g := (mkF m 29 #[oR this, oI (4 : Int32), oD (FP.l2d wv), .second, oI (6 : Int32)] [(.ref this)])) rfl rfl (hb hby d3_29)
    refine own_via st194 ?_
    refine own_via (fun t kz => XS.iload X194.here hx rfl (hb hby d3_32) rfl kz) ?_
    refine own_via (fun t kz => XS.aloadN X194.here hx rfl (hb hby d3_34) rfl rfl kz) ?_
    show own_Go p e below _ (T194.setTop (mkF m 35 #[oR this, oI (4 : Int32), oD (FP.l2d wv), .second, oI (6 : Int32)] [(.ref this), (.int (6 : Int32)), (.ref arr)]))
    obtain ⟨T195, X195, e195, st195⟩ := getF X194 hx hZ hown (host := "") (Or.inl (own_w hw 16)) Via.refl e194 F190 (g := (mkF m 35 #[oR this, oI (4 : Int32), oD (FP.l2d wv), .second, oI (6 : Int32)] [(.ref this), (.int (6 : Int32)), (.ref arr)])) rfl rfl (hb hby d3_35)
    refine own_via st195 ?_
    refine own_via (fun t kz => XS.iconst X195.here hx rfl (hb hby d3_38) kz) ?_
    refine own_via (fun t kz => XS.iload X195.here hx rfl (hb hby d3_39) rfl kz) ?_
    refine own_via (fun t kz => XS.imul X195.here hx rfl (hb hby d3_41) rfl kz) ?_
    show own_Go p e below _ (T195.setTop (mkF m 42 #[oR this, oI (4 : Int32), oD (FP.l2d wv), .second, oI (6 : Int32)] [(.int (12 : Int32)), (.ref arr), (.int (6 : Int32)), (.ref arr)]))
    obtain ⟨cl196, Ar196, kc196, Sz196, Nn196, Hs196, Gs196⟩ := id V193
    have in196 := inb_of (j := (12 : Int32)) Sz196 ⟨by decide, by decide⟩
    have at196 : cl196.slots[((12 : Int32)).toNatClampNeg]? = some (.double (FP.l2d wv)) := Hs196.at in196 rfl
    refine own_via (fun t kz => X195.daload hx (j := (12 : Int32)) (v := (.double (FP.l2d wv))) (by rw [e195]; exact Ar196.1) (State.isArrayOf_alike hZ.alike Ar196.2.1) Ar196.2.2 in196 at196 (g := (mkF m 42 #[oR this, oI (4 : Int32), oD (FP.l2d wv), .second, oI (6 : Int32)] [(.int (12 : Int32)), (.ref arr), (.int (6 : Int32)), (.ref arr)])) rfl rfl (hb hby d3_42) t kz) ?_
    refine own_via (fun t kz => XS.aloadN X195.here hx rfl (hb hby d3_43) rfl rfl kz) ?_
    show own_Go p e below _ (T195.setTop (mkF m 44 #[oR this, oI (4 : Int32), oD (FP.l2d wv), .second, oI (6 : Int32)] [(.ref this), (.double (FP.l2d wv)), (.int (6 : Int32)), (.ref arr)]))
    obtain ⟨T197, X197, e197, st197⟩ := getF X195 hx hZ hown (host := "") (Or.inl (own_w hw 16)) Via.refl e195 F190 (g := (mkF m 44 #[oR this, oI (4 : Int32), oD (FP.l2d wv), .second, oI (6 : Int32)] [(.ref this), (.double (FP.l2d wv)), (.int (6 : Int32)), (.ref arr)])) rfl rfl (hb hby d3_44)
    refine own_via st197 ?_
    refine own_via (fun t kz => XS.iconst X197.here hx rfl (hb hby d3_47) kz) ?_
    refine own_via (fun t kz => XS.iload X197.here hx rfl (hb hby d3_48) rfl kz) ?_
    refine own_via (fun t kz => XS.imul X197.here hx rfl (hb hby d3_50) rfl kz) ?_
    show own_Go p e below _ (T197.setTop (mkF m 51 #[oR this, oI (4 : Int32), oD (FP.l2d wv), .second, oI (6 : Int32)] [(.int (12 : Int32)), (.ref arr), (.double (FP.l2d wv)), (.int (6 : Int32)), (.ref arr)]))
    refine own_via (fun t kz => XS.iconst X197.here hx rfl (hb hby d3_51) kz) ?_
    refine own_via (fun t kz => XS.iadd X197.here hx rfl (hb hby d3_52) rfl kz) ?_
    show own_Go p e below _ (T197.setTop (mkF m 53 #[oR this, oI (4 : Int32), oD (FP.l2d wv), .second, oI (6 : Int32)] [(.int (13 : Int32)), (.ref arr), (.double (FP.l2d wv)), (.int (6 : Int32)), (.ref arr)]))
    obtain ⟨cl198, Ar198, kc198, Sz198, Nn198, Hs198, Gs198⟩ := id V193
    have in198 := inb_of (j := (13 : Int32)) Sz198 ⟨by decide, by decide⟩
    have at198 : cl198.slots[((13 : Int32)).toNatClampNeg]? = some (.double (FP.l2d w5_)) := Hs198.at in198 rfl
    refine own_via (fun t kz => X197.daload hx (j := (13 : Int32)) (v := (.double (FP.l2d w5_))) (by rw [e197]; exact Ar198.1) (State.isArrayOf_alike hZ.alike Ar198.2.1) Ar198.2.2 in198 at198 (g := (mkF m 53 #[oR this, oI (4 : Int32), oD (FP.l2d wv), .second, oI (6 : Int32)] [(.int (13 : Int32)), (.ref arr), (.double (FP.l2d wv)), (.int (6 : Int32)), (.ref arr)])) rfl rfl (hb hby d3_53) t kz) ?_
    show own_Go p e below _ (T197.setTop (mkF m 54 #[oR this, oI (4 : Int32), oD (FP.l2d wv), .second, oI (6 : Int32)] [(.double (FP.l2d w5_)), (.double (FP.l2d wv)), (.int (6 : Int32)), (.ref arr)]))
    refine own_via (fun t kz => XS.daddS X197.here hx rfl (hb hby d3_54) rfl (nn_w (dadd_w (own_b53 hbv (by decide)) (own_b53 hb5 (by decide)))) (dadd_w (own_b53 hbv (by decide)) (own_b53 hb5 (by decide))) kz) ?_
    show own_Go p e below _ (T197.setTop (mkF m 55 #[oR this, oI (4 : Int32), oD (FP.l2d wv), .second, oI (6 : Int32)] [(.double (FP.l2d (wv + w5_))), (.int (6 : Int32)), (.ref arr)]))
    obtain ⟨cl199, Ar199, kc199, Sz199, Nn199, Hs199, Gs199⟩ := id V193
    obtain ⟨T199, h199, X199, e199, W199, st199⟩ := stD X197 hx hZ e197 Ar199 (j := (6 : Int32)) (inb_of Sz199 ⟨by decide, by decide⟩) (g := (mkF m 55 #[oR this, oI (4 : Int32), oD (FP.l2d wv), .second, oI (6 : Int32)] [(.double (FP.l2d (wv + w5_))), (.int (6 : Int32)), (.ref arr)])) rfl rfl (hb hby d3_55)
    refine own_via st199 ?_
    have E200 := E188.wr W199
    have F201 := F189.other W199 (Or.inl (own_neq (by omega)))
    have F202 := F190.other W199 (Or.inl (own_neq (by omega)))
    have Zs203 : n0 ≤ h199.size := Nat.le_trans Zs191 (Keep.of_wr W199).1
    have N204 := Fr.snoc X199 N192 (show n0 ≤ arr by omega)
    have V205 : Arv Z h199 arr kA .double (16 : Int32) [(.double (FP.l2d (0 : Int64))), (.double (FP.l2d (((w0_ + w1_) + (w2_ + w3_)) + ((w4_ + w5_) + (w6_ + w7_))))), (.double (FP.l2d ((w0_ + w1_) + (w2_ + w3_)))), (.double (FP.l2d ((w4_ + w5_) + (w6_ + w7_)))), (.double (FP.l2d (w0_ + w1_))), (.double (FP.l2d (w2_ + w3_))), (.double (FP.l2d (wv + w5_))), (.double (FP.l2d (w6_ + w7_))), (.double (FP.l2d w0_)), (.double (FP.l2d w1_)), (.double (FP.l2d w2_)), (.double (FP.l2d w3_)), (.double (FP.l2d wv)), (.double (FP.l2d w5_)), (.double (FP.l2d w6_)), (.double (FP.l2d w7_))] (.double (FP.l2d (0 : Int64))) := Arv.set Ar199 kc199 Sz199 Nn199 Hs199 Gs199 rfl W199 6 (by first | decide | (show 6 < 16; decide)) (by first | decide | (show 6 < 16; decide))
    refine own_via (fun t kz => XS.iload X199.here hx rfl (hb hby d3_56) rfl kz) ?_
    refine own_via (fun t kz => XS.iconst X199.here hx rfl (hb hby d3_58) kz) ?_
    refine own_via (fun t kz => XS.idiv X199.here hx rfl (hb hby d3_59) rfl (by decide) kz) ?_
    show own_Go p e below _ (T199.setTop (mkF m 60 #[oR this, oI (4 : Int32), oD (FP.l2d wv), .second, oI (6 : Int32)] [(.int (3 : Int32))]))
    refine own_via (fun t kz => XS.istore X199.here hx rfl (hb hby d3_60) rfl (l' := #[oR this, oI (4 : Int32), oD (FP.l2d wv), .second, oI (3 : Int32)]) rfl kz) ?_
    refine own_via (fun t kz => XS.goto X199.here hx rfl (pc0 := 62) (pc' := 22) rfl (hb hby d3_62) (by decide) (by decide) kz) ?_
    refine own_via (fun t kz => XS.iload X199.here hx rfl (hb hby d3_22) rfl kz) ?_
    refine own_via (fun t kz => XS.iconst X199.here hx rfl (hb hby d3_24) kz) ?_
    show own_Go p e below _ (T199.setTop (mkF m 25 #[oR this, oI (4 : Int32), oD (FP.l2d wv), .second, oI (3 : Int32)] [(.int (1 : Int32)), (.int (3 : Int32))]))
    refine own_via (fun t kz => XS.icmpNo X199.here hx rfl (hb hby d3_25) rfl (flt (by decide : ¬ ((3 : Int32) < (1 : Int32)))).1 kz) ?_
    refine own_via (fun t kz => XS.aloadN X199.here hx rfl (hb hby d3_28) rfl rfl kz) ?_
    show own_Go p e below _ (T199.setTop (mkF m 29 #[oR this, oI (4 : Int32), oD (FP.l2d wv), .second, oI (3 : Int32)] [(.ref this)]))
    obtain ⟨T206, X206, e206, st206⟩ := getF X199 hx hZ hown (host := "") (Or.inl (own_w hw 16)) Via.refl e199 F202 (g := (mkF m 29 #[oR this, oI (4 : Int32), oD (FP.l2d wv), .second, oI (3 : Int32)] [(.ref this)])) rfl rfl (hb hby d3_29)
    refine own_via st206 ?_
    refine own_via (fun t kz => XS.iload X206.here hx rfl (hb hby d3_32) rfl kz) ?_
    refine own_via (fun t kz => XS.aloadN X206.here hx rfl (hb hby d3_34) rfl rfl kz) ?_
    show own_Go p e below _ (T206.setTop (mkF m 35 #[oR this, oI (4 : Int32), oD (FP.l2d wv), .second, oI (3 : Int32)] [(.ref this), (.int (3 : Int32)), (.ref arr)]))
    obtain ⟨T207, X207, e207, st207⟩ := getF X206 hx hZ hown (host := "") (Or.inl (own_w hw 16)) Via.refl e206 F202 (g := (mkF m 35 #[oR this, oI (4 : Int32), oD (FP.l2d wv), .second, oI (3 : Int32)] [(.ref this), (.int (3 : Int32)), (.ref arr)])) rfl rfl (hb hby d3_35)
    refine own_via st207 ?_
    refine own_via (fun t kz => XS.iconst X207.here hx rfl (hb hby d3_38) kz) ?_
    refine own_via (fun t kz => XS.iload X207.here hx rfl (hb hby d3_39) rfl kz) ?_
    refine own_via (fun t kz => XS.imul X207.here hx rfl (hb hby d3_41) rfl kz) ?_
    show own_Go p e below _ (T207.setTop (mkF m 42 #[oR this, oI (4 : Int32), oD (FP.l2d wv), .second, oI (3 : Int32)] [(.int (6 : Int32)), (.ref arr), (.int (3 : Int32)), (.ref arr)]))
    obtain ⟨cl208, Ar208, kc208, Sz208, Nn208, Hs208, Gs208⟩ := id V205
    have in208 := inb_of (j := (6 : Int32)) Sz208 ⟨by decide, by decide⟩
    have at208 : cl208.slots[((6 : Int32)).toNatClampNeg]? = some (.double (FP.l2d (wv + w5_))) := Hs208.at in208 rfl
    refine own_via (fun t kz => X207.daload hx (j := (6 : Int32)) (v := (.double (FP.l2d (wv + w5_)))) (by rw [e207]; exact Ar208.1) (State.isArrayOf_alike hZ.alike Ar208.2.1) Ar208.2.2 in208 at208 (g := (mkF m 42 #[oR this, oI (4 : Int32), oD (FP.l2d wv), .second, oI (3 : Int32)] [(.int (6 : Int32)), (.ref arr), (.int (3 : Int32)), (.ref arr)])) rfl rfl (hb hby d3_42) t kz) ?_
    refine own_via (fun t kz => XS.aloadN X207.here hx rfl (hb hby d3_43) rfl rfl kz) ?_
    show own_Go p e below _ (T207.setTop (mkF m 44 #[oR this, oI (4 : Int32), oD (FP.l2d wv), .second, oI (3 : Int32)] [(.ref this), (.double (FP.l2d (wv + w5_))), (.int (3 : Int32)), (.ref arr)]))
    obtain ⟨T209, X209, e209, st209⟩ := getF X207 hx hZ hown (host := "") (Or.inl (own_w hw 16)) Via.refl e207 F202 (g := (mkF m 44 #[oR this, oI (4 : Int32), oD (FP.l2d wv), .second, oI (3 : Int32)] [(.ref this), (.double (FP.l2d (wv + w5_))), (.int (3 : Int32)), (.ref arr)])) rfl rfl (hb hby d3_44)
    refine own_via st209 ?_
    refine own_via (fun t kz => XS.iconst X209.here hx rfl (hb hby d3_47) kz) ?_
    refine own_via (fun t kz => XS.iload X209.here hx rfl (hb hby d3_48) rfl kz) ?_
    refine own_via (fun t kz => XS.imul X209.here hx rfl (hb hby d3_50) rfl kz) ?_
    show own_Go p e below _ (T209.setTop (mkF m 51 #[oR this, oI (4 : Int32), oD (FP.l2d wv), .second, oI (3 : Int32)] [(.int (6 : Int32)), (.ref arr), (.double (FP.l2d (wv + w5_))), (.int (3 : Int32)), (.ref arr)]))
    refine own_via (fun t kz => XS.iconst X209.here hx rfl (hb hby d3_51) kz) ?_
    refine own_via (fun t kz => XS.iadd X209.here hx rfl (hb hby d3_52) rfl kz) ?_
    show own_Go p e below _ (T209.setTop (mkF m 53 #[oR this, oI (4 : Int32), oD (FP.l2d wv), .second, oI (3 : Int32)] [(.int (7 : Int32)), (.ref arr), (.double (FP.l2d (wv + w5_))), (.int (3 : Int32)), (.ref arr)]))
    obtain ⟨cl210, Ar210, kc210, Sz210, Nn210, Hs210, Gs210⟩ := id V205
    have in210 := inb_of (j := (7 : Int32)) Sz210 ⟨by decide, by decide⟩
    have at210 : cl210.slots[((7 : Int32)).toNatClampNeg]? = some (.double (FP.l2d (w6_ + w7_))) := Hs210.at in210 rfl
    refine own_via (fun t kz => X209.daload hx (j := (7 : Int32)) (v := (.double (FP.l2d (w6_ + w7_)))) (by rw [e209]; exact Ar210.1) (State.isArrayOf_alike hZ.alike Ar210.2.1) Ar210.2.2 in210 at210 (g := (mkF m 53 #[oR this, oI (4 : Int32), oD (FP.l2d wv), .second, oI (3 : Int32)] [(.int (7 : Int32)), (.ref arr), (.double (FP.l2d (wv + w5_))), (.int (3 : Int32)), (.ref arr)])) rfl rfl (hb hby d3_53) t kz) ?_
    show own_Go p e below _ (T209.setTop (mkF m 54 #[oR this, oI (4 : Int32), oD (FP.l2d wv), .second, oI (3 : Int32)] [(.double (FP.l2d (w6_ + w7_))), (.double (FP.l2d (wv + w5_))), (.int (3 : Int32)), (.ref arr)]))
    refine own_via (fun t kz => XS.daddS X209.here hx rfl (hb hby d3_54) rfl (nn_w (dadd_w (own_b53 (own_bda hbv hb5 (by decide)) (by decide)) (own_b53 (own_bda hb6 hb7 (by decide)) (by decide)))) (dadd_w (own_b53 (own_bda hbv hb5 (by decide)) (by decide)) (own_b53 (own_bda hb6 hb7 (by decide)) (by decide))) kz) ?_
    show own_Go p e below _ (T209.setTop (mkF m 55 #[oR this, oI (4 : Int32), oD (FP.l2d wv), .second, oI (3 : Int32)] [(.double (FP.l2d ((wv + w5_) + (w6_ + w7_)))), (.int (3 : Int32)), (.ref arr)]))
    obtain ⟨cl211, Ar211, kc211, Sz211, Nn211, Hs211, Gs211⟩ := id V205
    obtain ⟨T211, h211, X211, e211, W211, st211⟩ := stD X209 hx hZ e209 Ar211 (j := (3 : Int32)) (inb_of Sz211 ⟨by decide, by decide⟩) (g := (mkF m 55 #[oR this, oI (4 : Int32), oD (FP.l2d wv), .second, oI (3 : Int32)] [(.double (FP.l2d ((wv + w5_) + (w6_ + w7_)))), (.int (3 : Int32)), (.ref arr)])) rfl rfl (hb hby d3_55)
    refine own_via st211 ?_
    have E212 := E200.wr W211
    have F213 := F201.other W211 (Or.inl (own_neq (by omega)))
    have F214 := F202.other W211 (Or.inl (own_neq (by omega)))
    have Zs215 : n0 ≤ h211.size := Nat.le_trans Zs203 (Keep.of_wr W211).1
    have N216 := Fr.snoc X211 N204 (show n0 ≤ arr by omega)
    have V217 : Arv Z h211 arr kA .double (16 : Int32) [(.double (FP.l2d (0 : Int64))), (.double (FP.l2d (((w0_ + w1_) + (w2_ + w3_)) + ((w4_ + w5_) + (w6_ + w7_))))), (.double (FP.l2d ((w0_ + w1_) + (w2_ + w3_)))), (.double (FP.l2d ((wv + w5_) + (w6_ + w7_)))), (.double (FP.l2d (w0_ + w1_))), (.double (FP.l2d (w2_ + w3_))), (.double (FP.l2d (wv + w5_))), (.double (FP.l2d (w6_ + w7_))), (.double (FP.l2d w0_)), (.double (FP.l2d w1_)), (.double (FP.l2d w2_)), (.double (FP.l2d w3_)), (.double (FP.l2d wv)), (.double (FP.l2d w5_)), (.double (FP.l2d w6_)), (.double (FP.l2d w7_))] (.double (FP.l2d (0 : Int64))) := Arv.set Ar211 kc211 Sz211 Nn211 Hs211 Gs211 rfl W211 3 (by first | decide | (show 3 < 16; decide)) (by first | decide | (show 3 < 16; decide))
    refine own_via (fun t kz => XS.iload X211.here hx rfl (hb hby d3_56) rfl kz) ?_
    refine own_via (fun t kz => XS.iconst X211.here hx rfl (hb hby d3_58) kz) ?_
    refine own_via (fun t kz => XS.idiv X211.here hx rfl (hb hby d3_59) rfl (by decide) kz) ?_
    show own_Go p e below _ (T211.setTop (mkF m 60 #[oR this, oI (4 : Int32), oD (FP.l2d wv), .second, oI (3 : Int32)] [(.int (1 : Int32))]))
    refine own_via (fun t kz => XS.istore X211.here hx rfl (hb hby d3_60) rfl (l' := #[oR this, oI (4 : Int32), oD (FP.l2d wv), .second, oI (1 : Int32)]) rfl kz) ?_
    refine own_via (fun t kz => XS.goto X211.here hx rfl (pc0 := 62) (pc' := 22) rfl (hb hby d3_62) (by decide) (by decide) kz) ?_
    refine own_via (fun t kz => XS.iload X211.here hx rfl (hb hby d3_22) rfl kz) ?_
    refine own_via (fun t kz => XS.iconst X211.here hx rfl (hb hby d3_24) kz) ?_
    show own_Go p e below _ (T211.setTop (mkF m 25 #[oR this, oI (4 : Int32), oD (FP.l2d wv), .second, oI (1 : Int32)] [(.int (1 : Int32)), (.int (1 : Int32))]))
    refine own_via (fun t kz => XS.icmpNo X211.here hx rfl (hb hby d3_25) rfl (flt (by decide : ¬ ((1 : Int32) < (1 : Int32)))).1 kz) ?_
    refine own_via (fun t kz => XS.aloadN X211.here hx rfl (hb hby d3_28) rfl rfl kz) ?_
    show own_Go p e below _ (T211.setTop (mkF m 29 #[oR this, oI (4 : Int32), oD (FP.l2d wv), .second, oI (1 : Int32)] [(.ref this)]))
    obtain ⟨T218, X218, e218, st218⟩ := getF X211 hx hZ hown (host := "") (Or.inl (own_w hw 16)) Via.refl e211 F214 (g := (mkF m 29 #[oR this, oI (4 : Int32), oD (FP.l2d wv), .second, oI (1 : Int32)] [(.ref this)])) rfl rfl (hb hby d3_29)
    refine own_via st218 ?_
    refine own_via (fun t kz => XS.iload X218.here hx rfl (hb hby d3_32) rfl kz) ?_
    refine own_via (fun t kz => XS.aloadN X218.here hx rfl (hb hby d3_34) rfl rfl kz) ?_
    show own_Go p e below _ (T218.setTop (mkF m 35 #[oR this, oI (4 : Int32), oD (FP.l2d wv), .second, oI (1 : Int32)] [(.ref this), (.int (1 : Int32)), (.ref arr)]))
    obtain ⟨T219, X219, e219, st219⟩ := getF X218 hx hZ hown (host := "") (Or.inl (own_w hw 16)) Via.refl e218 F214 (g := (mkF m 35 #[oR this, oI (4 : Int32), oD (FP.l2d wv), .second, oI (1 : Int32)] [(.ref this), (.int (1 : Int32)), (.ref arr)])) rfl rfl (hb hby d3_35)
    refine own_via st219 ?_
    refine own_via (fun t kz => XS.iconst X219.here hx rfl (hb hby d3_38) kz) ?_
    refine own_via (fun t kz => XS.iload X219.here hx rfl (hb hby d3_39) rfl kz) ?_
    refine own_via (fun t kz => XS.imul X219.here hx rfl (hb hby d3_41) rfl kz) ?_
    show own_Go p e below _ (T219.setTop (mkF m 42 #[oR this, oI (4 : Int32), oD (FP.l2d wv), .second, oI (1 : Int32)] [(.int (2 : Int32)), (.ref arr), (.int (1 : Int32)), (.ref arr)]))
    obtain ⟨cl220, Ar220, kc220, Sz220, Nn220, Hs220, Gs220⟩ := id V217
    have in220 := inb_of (j := (2 : Int32)) Sz220 ⟨by decide, by decide⟩
    have at220 : cl220.slots[((2 : Int32)).toNatClampNeg]? = some (.double (FP.l2d ((w0_ + w1_) + (w2_ + w3_)))) := Hs220.at in220 rfl
    refine own_via (fun t kz => X219.daload hx (j := (2 : Int32)) (v := (.double (FP.l2d ((w0_ + w1_) + (w2_ + w3_))))) (by rw [e219]; exact Ar220.1) (State.isArrayOf_alike hZ.alike Ar220.2.1) Ar220.2.2 in220 at220 (g := (mkF m 42 #[oR this, oI (4 : Int32), oD (FP.l2d wv), .second, oI (1 : Int32)] [(.int (2 : Int32)), (.ref arr), (.int (1 : Int32)), (.ref arr)])) rfl rfl (hb hby d3_42) t kz) ?_
    refine own_via (fun t kz => XS.aloadN X219.here hx rfl (hb hby d3_43) rfl rfl kz) ?_
    show own_Go p e below _ (T219.setTop (mkF m 44 #[oR this, oI (4 : Int32), oD (FP.l2d wv), .second, oI (1 : Int32)] [(.ref this), (.double (FP.l2d ((w0_ + w1_) + (w2_ + w3_)))), (.int (1 : Int32)), (.ref arr)]))
    obtain ⟨T221, X221, e221, st221⟩ := getF X219 hx hZ hown (host := "") (Or.inl (own_w hw 16)) Via.refl e219 F214 (g := (mkF m 44 #[oR this, oI (4 : Int32), oD (FP.l2d wv), .second, oI (1 : Int32)] [(.ref this), (.double (FP.l2d ((w0_ + w1_) + (w2_ + w3_)))), (.int (1 : Int32)), (.ref arr)])) rfl rfl (hb hby d3_44)
    refine own_via st221 ?_
    refine own_via (fun t kz => XS.iconst X221.here hx rfl (hb hby d3_47) kz) ?_
    refine own_via (fun t kz => XS.iload X221.here hx rfl (hb hby d3_48) rfl kz) ?_
    refine own_via (fun t kz => XS.imul X221.here hx rfl (hb hby d3_50) rfl kz) ?_
    show own_Go p e below _ (T221.setTop (mkF m 51 #[oR this, oI (4 : Int32), oD (FP.l2d wv), .second, oI (1 : Int32)] [(.int (2 : Int32)), (.ref arr), (.double (FP.l2d ((w0_ + w1_) + (w2_ + w3_)))), (.int (1 : Int32)), (.ref arr)]))
    refine own_via (fun t kz => XS.iconst X221.here hx rfl (hb hby d3_51) kz) ?_
    refine own_via (fun t kz => XS.iadd X221.here hx rfl (hb hby d3_52) rfl kz) ?_
    show own_Go p e below _ (T221.setTop (mkF m 53 #[oR this, oI (4 : Int32), oD (FP.l2d wv), .second, oI (1 : Int32)] [(.int (3 : Int32)), (.ref arr), (.double (FP.l2d ((w0_ + w1_) + (w2_ + w3_)))), (.int (1 : Int32)), (.ref arr)]))
    obtain ⟨cl222, Ar222, kc222, Sz222, Nn222, Hs222, Gs222⟩ := id V217
    have in222 := inb_of (j := (3 : Int32)) Sz222 ⟨by decide, by decide⟩
    have at222 : cl222.slots[((3 : Int32)).toNatClampNeg]? = some (.double (FP.l2d ((wv + w5_) + (w6_ + w7_)))) := Hs222.at in222 rfl
    refine own_via (fun t kz => X221.daload hx (j := (3 : Int32)) (v := (.double (FP.l2d ((wv + w5_) + (w6_ + w7_))))) (by rw [e221]; exact Ar222.1) (State.isArrayOf_alike hZ.alike Ar222.2.1) Ar222.2.2 in222 at222 (g := (mkF m 53 #[oR this, oI (4 : Int32), oD (FP.l2d wv), .second, oI (1 : Int32)] [(.int (3 : Int32)), (.ref arr), (.double (FP.l2d ((w0_ + w1_) + (w2_ + w3_)))), (.int (1 : Int32)), (.ref arr)])) rfl rfl (hb hby d3_53) t kz) ?_
    show own_Go p e below _ (T221.setTop (mkF m 54 #[oR this, oI (4 : Int32), oD (FP.l2d wv), .second, oI (1 : Int32)] [(.double (FP.l2d ((wv + w5_) + (w6_ + w7_)))), (.double (FP.l2d ((w0_ + w1_) + (w2_ + w3_)))), (.int (1 : Int32)), (.ref arr)]))
    refine own_via (fun t kz => XS.daddS X221.here hx rfl (hb hby d3_54) rfl (nn_w (dadd_w (own_b53 (own_bda (own_bda hb0 hb1 (by decide)) (own_bda hb2 hb3 (by decide)) (by decide)) (by decide)) (own_b53 (own_bda (own_bda hbv hb5 (by decide)) (own_bda hb6 hb7 (by decide)) (by decide)) (by decide)))) (dadd_w (own_b53 (own_bda (own_bda hb0 hb1 (by decide)) (own_bda hb2 hb3 (by decide)) (by decide)) (by decide)) (own_b53 (own_bda (own_bda hbv hb5 (by decide)) (own_bda hb6 hb7 (by decide)) (by decide)) (by decide))) kz) ?_
    show own_Go p e below _ (T221.setTop (mkF m 55 #[oR this, oI (4 : Int32), oD (FP.l2d wv), .second, oI (1 : Int32)] [(.double (FP.l2d (((w0_ + w1_) + (w2_ + w3_)) + ((wv + w5_) + (w6_ + w7_))))), (.int (1 : Int32)), (.ref arr)]))
    obtain ⟨cl223, Ar223, kc223, Sz223, Nn223, Hs223, Gs223⟩ := id V217
    obtain ⟨T223, h223, X223, e223, W223, st223⟩ := stD X221 hx hZ e221 Ar223 (j := (1 : Int32)) (inb_of Sz223 ⟨by decide, by decide⟩) (g := (mkF m 55 #[oR this, oI (4 : Int32), oD (FP.l2d wv), .second, oI (1 : Int32)] [(.double (FP.l2d (((w0_ + w1_) + (w2_ + w3_)) + ((wv + w5_) + (w6_ + w7_))))), (.int (1 : Int32)), (.ref arr)])) rfl rfl (hb hby d3_55)
    refine own_via st223 ?_
    have E224 := E212.wr W223
    have F225 := F213.other W223 (Or.inl (own_neq (by omega)))
    have F226 := F214.other W223 (Or.inl (own_neq (by omega)))
    have Zs227 : n0 ≤ h223.size := Nat.le_trans Zs215 (Keep.of_wr W223).1
    have N228 := Fr.snoc X223 N216 (show n0 ≤ arr by omega)
    have V229 : Arv Z h223 arr kA .double (16 : Int32) [(.double (FP.l2d (0 : Int64))), (.double (FP.l2d (((w0_ + w1_) + (w2_ + w3_)) + ((wv + w5_) + (w6_ + w7_))))), (.double (FP.l2d ((w0_ + w1_) + (w2_ + w3_)))), (.double (FP.l2d ((wv + w5_) + (w6_ + w7_)))), (.double (FP.l2d (w0_ + w1_))), (.double (FP.l2d (w2_ + w3_))), (.double (FP.l2d (wv + w5_))), (.double (FP.l2d (w6_ + w7_))), (.double (FP.l2d w0_)), (.double (FP.l2d w1_)), (.double (FP.l2d w2_)), (.double (FP.l2d w3_)), (.double (FP.l2d wv)), (.double (FP.l2d w5_)), (.double (FP.l2d w6_)), (.double (FP.l2d w7_))] (.double (FP.l2d (0 : Int64))) := Arv.set Ar223 kc223 Sz223 Nn223 Hs223 Gs223 rfl W223 1 (by first | decide | (show 1 < 16; decide)) (by first | decide | (show 1 < 16; decide))
    refine own_via (fun t kz => XS.iload X223.here hx rfl (hb hby d3_56) rfl kz) ?_
    refine own_via (fun t kz => XS.iconst X223.here hx rfl (hb hby d3_58) kz) ?_
    refine own_via (fun t kz => XS.idiv X223.here hx rfl (hb hby d3_59) rfl (by decide) kz) ?_
    show own_Go p e below _ (T223.setTop (mkF m 60 #[oR this, oI (4 : Int32), oD (FP.l2d wv), .second, oI (1 : Int32)] [(.int (0 : Int32))]))
    refine own_via (fun t kz => XS.istore X223.here hx rfl (hb hby d3_60) rfl (l' := #[oR this, oI (4 : Int32), oD (FP.l2d wv), .second, oI (0 : Int32)]) rfl kz) ?_
    refine own_via (fun t kz => XS.goto X223.here hx rfl (pc0 := 62) (pc' := 22) rfl (hb hby d3_62) (by decide) (by decide) kz) ?_
    refine own_via (fun t kz => XS.iload X223.here hx rfl (hb hby d3_22) rfl kz) ?_
    refine own_via (fun t kz => XS.iconst X223.here hx rfl (hb hby d3_24) kz) ?_
    show own_Go p e below _ (T223.setTop (mkF m 25 #[oR this, oI (4 : Int32), oD (FP.l2d wv), .second, oI (0 : Int32)] [(.int (1 : Int32)), (.int (0 : Int32))]))
    refine own_via (fun t kz => XS.icmpYes X223.here hx rfl (pc0 := 25) (pc' := 65) rfl (hb hby d3_25) rfl (tlt (by decide : (0 : Int32) < (1 : Int32))).1 (by decide) (by decide) kz) ?_
    show own_Go p e below _ (T223.setTop (mkF m 65 #[oR this, oI (4 : Int32), oD (FP.l2d wv), .second, oI (0 : Int32)] []))
    have hT : own_W8 Z h223 n0 this w0_ w1_ w2_ w3_ wv w5_ w6_ w7_ := ⟨arr, kA, ⟨ch0, ch1⟩, E224, F225, F226, V229⟩
    obtain ⟨fs, hr, hrun, hended, hW, hsame⟩ := X223.leave (v := none) (fun _ => rfl)
    refine ⟨_, _, X223.returnOut hx Bd.returns (hb hby d3_65) hr, hrun, hended, _, _, rfl, ?_, ⟨_, rfl⟩, hW, hsame.mono (by decide) (by decide)⟩
    show Q3_8 Z this (4 : Int32) wv w0_ w1_ w2_ w3_ w4_ w5_ w6_ w7_ h0 n0 _ T223.heap _
    rw [e223]
    exact ⟨rfl, N228, Zs227, by rw [if_neg (by decide : ¬ (4 : Int32) = (0 : Int32)), if_neg (by decide : ¬ (4 : Int32) = (1 : Int32)), if_neg (by decide : ¬ (4 : Int32) = (2 : Int32)), if_neg (by decide : ¬ (4 : Int32) = (3 : Int32)), if_pos (rfl : (4 : Int32) = (4 : Int32)), if_neg (by decide : ¬ (4 : Int32) = (5 : Int32)), if_neg (by decide : ¬ (4 : Int32) = (6 : Int32)), if_neg (by decide : ¬ (4 : Int32) = (7 : Int32))]; exact hT⟩
  · show own_Go p e below _ (s₁.setTop (mkF m 0 #[oR this, oI (5 : Int32), oD (FP.l2d wv), .second, .unset] []))
    refine own_via (fun t kz => XS.aloadN X0.here hx rfl (hb hby d3_0) rfl rfl kz) ?_
    show own_Go p e below _ (s₁.setTop (mkF m 1 #[oR this, oI (5 : Int32), oD (FP.l2d wv), .second, .unset] [(.ref this)]))
    obtain ⟨T231, X231, e231, st231⟩ := getF X0 hx hZ hown (host := "") (Or.inl (own_w hw 13)) Via.refl e0 Fq0 (g := (mkF m 1 #[oR this, oI (5 : Int32), oD (FP.l2d wv), .second, .unset] [(.ref this)])) rfl rfl (hb hby d3_1)
    refine own_via st231 ?_
    refine own_via (fun t kz => XS.iloadN X231.here hx rfl (hb hby d3_4) rfl kz) ?_
    refine own_via (fun t kz => XS.iadd X231.here hx rfl (hb hby d3_5) rfl kz) ?_
    refine own_via (fun t kz => XS.istore X231.here hx rfl (hb hby d3_6) rfl (l' := #[oR this, oI (5 : Int32), oD (FP.l2d wv), .second, oI (13 : Int32)]) rfl kz) ?_
    show own_Go p e below _ (T231.setTop (mkF m 8 #[oR this, oI (5 : Int32), oD (FP.l2d wv), .second, oI (13 : Int32)] []))
    refine own_via (fun t kz => XS.aloadN X231.here hx rfl (hb hby d3_8) rfl rfl kz) ?_
    show own_Go p e below _ (T231.setTop (mkF m 9 #[oR this, oI (5 : Int32), oD (FP.l2d wv), .second, oI (13 : Int32)] [(.ref this)]))
    obtain ⟨T232, X232, e232, st232⟩ := getF X231 hx hZ hown (host := "") (Or.inl (own_w hw 16)) Via.refl e231 Fq1 (g := (mkF m 9 #[oR this, oI (5 : Int32), oD (FP.l2d wv), .second, oI (13 : Int32)] [(.ref this)])) rfl rfl (hb hby d3_9)
    refine own_via st232 ?_
    refine own_via (fun t kz => XS.iload X232.here hx rfl (hb hby d3_12) rfl kz) ?_
    refine own_via (fun t kz => XS.dloadN X232.here hx rfl (hb hby d3_14) rfl kz) ?_
    show own_Go p e below _ (T232.setTop (mkF m 15 #[oR this, oI (5 : Int32), oD (FP.l2d wv), .second, oI (13 : Int32)] [(.double (FP.l2d wv)), (.int (13 : Int32)), (.ref arr)]))
    obtain ⟨cl233, Ar233, kc233, Sz233, Nn233, Hs233, Gs233⟩ := id Vq
    obtain ⟨T233, h233, X233, e233, W233, st233⟩ := stD X232 hx hZ e232 Ar233 (j := (13 : Int32)) (inb_of Sz233 ⟨by decide, by decide⟩) (g := (mkF m 15 #[oR this, oI (5 : Int32), oD (FP.l2d wv), .second, oI (13 : Int32)] [(.double (FP.l2d wv)), (.int (13 : Int32)), (.ref arr)])) rfl rfl (hb hby d3_15)
    refine own_via st233 ?_
    have E234 := Eq.wr W233
    have F235 := Fq0.other W233 (Or.inl (own_neq (by omega)))
    have F236 := Fq1.other W233 (Or.inl (own_neq (by omega)))
    have Zs237 : n0 ≤ h233.size := Nat.le_trans Z0 (Keep.of_wr W233).1
    have N238 := Fr.snoc X233 N0 (show n0 ≤ arr by omega)
    have V239 : Arv Z h233 arr kA .double (16 : Int32) [(.double (FP.l2d (0 : Int64))), (.double (FP.l2d (((w0_ + w1_) + (w2_ + w3_)) + ((w4_ + w5_) + (w6_ + w7_))))), (.double (FP.l2d ((w0_ + w1_) + (w2_ + w3_)))), (.double (FP.l2d ((w4_ + w5_) + (w6_ + w7_)))), (.double (FP.l2d (w0_ + w1_))), (.double (FP.l2d (w2_ + w3_))), (.double (FP.l2d (w4_ + w5_))), (.double (FP.l2d (w6_ + w7_))), (.double (FP.l2d w0_)), (.double (FP.l2d w1_)), (.double (FP.l2d w2_)), (.double (FP.l2d w3_)), (.double (FP.l2d w4_)), (.double (FP.l2d wv)), (.double (FP.l2d w6_)), (.double (FP.l2d w7_))] (.double (FP.l2d (0 : Int64))) := Arv.set Ar233 kc233 Sz233 Nn233 Hs233 Gs233 rfl W233 13 (by first | decide | (show 13 < 16; decide)) (by first | decide | (show 13 < 16; decide))
    refine own_via (fun t kz => XS.iload X233.here hx rfl (hb hby d3_16) rfl kz) ?_
    refine own_via (fun t kz => XS.iconst X233.here hx rfl (hb hby d3_18) kz) ?_
    refine own_via (fun t kz => XS.idiv X233.here hx rfl (hb hby d3_19) rfl (by decide) kz) ?_
    show own_Go p e below _ (T233.setTop (mkF m 20 #[oR this, oI (5 : Int32), oD (FP.l2d wv), .second, oI (13 : Int32)] [(.int (6 : Int32))]))
    refine own_via (fun t kz => XS.istore X233.here hx rfl (hb hby d3_20) rfl (l' := #[oR this, oI (5 : Int32), oD (FP.l2d wv), .second, oI (6 : Int32)]) rfl kz) ?_
    refine own_via (fun t kz => XS.iload X233.here hx rfl (hb hby d3_22) rfl kz) ?_
    refine own_via (fun t kz => XS.iconst X233.here hx rfl (hb hby d3_24) kz) ?_
    show own_Go p e below _ (T233.setTop (mkF m 25 #[oR this, oI (5 : Int32), oD (FP.l2d wv), .second, oI (6 : Int32)] [(.int (1 : Int32)), (.int (6 : Int32))]))
    refine own_via (fun t kz => XS.icmpNo X233.here hx rfl (hb hby d3_25) rfl (flt (by decide : ¬ ((6 : Int32) < (1 : Int32)))).1 kz) ?_
    refine own_via (fun t kz => XS.aloadN X233.here hx rfl (hb hby d3_28) rfl rfl kz) ?_
    show own_Go p e below _ (T233.setTop (mkF m 29 #[oR this, oI (5 : Int32), oD (FP.l2d wv), .second, oI (6 : Int32)] [(.ref this)]))
    obtain ⟨T240, X240, e240, st240⟩ := getF X233 hx hZ hown (host := "") (Or.inl (own_w hw 16)) Via.refl e233 F236 (g := (mkF m 29 #[oR this, oI (5 : Int32), oD (FP.l2d wv), .second, oI (6 : Int32)] [(.ref this)])) rfl rfl (hb hby d3_29)
    refine own_via st240 ?_
    refine own_via (fun t kz => XS.iload X240.here hx rfl (hb hby d3_32) rfl kz) ?_
    refine own_via (fun t kz => XS.aloadN X240.here hx rfl (hb hby d3_34) rfl rfl kz) ?_
    show own_Go p e below _ (T240.setTop (mkF m 35 #[oR this, oI (5 : Int32), oD (FP.l2d wv), .second, oI (6 : Int32)] [(.ref this), (.int (6 : Int32)), (.ref arr)]))
    obtain ⟨T241, X241, e241, st241⟩ := getF X240 hx hZ hown (host := "") (Or.inl (own_w hw 16)) Via.refl e240 F236 (g := (mkF m 35 #[oR this, oI (5 : Int32), oD (FP.l2d wv), .second, oI (6 : Int32)] [(.ref this), (.int (6 : Int32)), (.ref arr)])) rfl rfl (hb hby d3_35)
    refine own_via st241 ?_
    refine own_via (fun t kz => XS.iconst X241.here hx rfl (hb hby d3_38) kz) ?_
    refine own_via (fun t kz => XS.iload X241.here hx rfl (hb hby d3_39) rfl kz) ?_
    refine own_via (fun t kz => XS.imul X241.here hx rfl (hb hby d3_41) rfl kz) ?_
    show own_Go p e below _ (T241.setTop (mkF m 42 #[oR this, oI (5 : Int32), oD (FP.l2d wv), .second, oI (6 : Int32)] [(.int (12 : Int32)), (.ref arr), (.int (6 : Int32)), (.ref arr)]))
    obtain ⟨cl242, Ar242, kc242, Sz242, Nn242, Hs242, Gs242⟩ := id V239
    have in242 := inb_of (j := (12 : Int32)) Sz242 ⟨by decide, by decide⟩
    have at242 : cl242.slots[((12 : Int32)).toNatClampNeg]? = some (.double (FP.l2d w4_)) := Hs242.at in242 rfl
    refine own_via (fun t kz => X241.daload hx (j := (12 : Int32)) (v := (.double (FP.l2d w4_))) (by rw [e241]; exact Ar242.1) (State.isArrayOf_alike hZ.alike Ar242.2.1) Ar242.2.2 in242 at242 (g := (mkF m 42 #[oR this, oI (5 : Int32), oD (FP.l2d wv), .second, oI (6 : Int32)] [(.int (12 : Int32)), (.ref arr), (.int (6 : Int32)), (.ref arr)])) rfl rfl (hb hby d3_42) t kz) ?_
    refine own_via (fun t kz => XS.aloadN X241.here hx rfl (hb hby d3_43) rfl rfl kz) ?_
    show own_Go p e below _ (T241.setTop (mkF m 44 #[oR this, oI (5 : Int32), oD (FP.l2d wv), .second, oI (6 : Int32)] [(.ref this), (.double (FP.l2d w4_)), (.int (6 : Int32)), (.ref arr)]))
    obtain ⟨T243, X243, e243, st243⟩ := getF X241 hx hZ hown (host := "") (Or.inl (own_w hw 16)) Via.refl e241 F236 (g := (mkF m 44 #[oR this, oI (5 : Int32), oD (FP.l2d wv), .second, oI (6 : Int32)] [(.ref this), (.double (FP.l2d w4_)), (.int (6 : Int32)), (.ref arr)])) rfl rfl (hb hby d3_44)
    refine own_via st243 ?_
    refine own_via (fun t kz => XS.iconst X243.here hx rfl (hb hby d3_47) kz) ?_
    refine own_via (fun t kz => XS.iload X243.here hx rfl (hb hby d3_48) rfl kz) ?_
    refine own_via (fun t kz => XS.imul X243.here hx rfl (hb hby d3_50) rfl kz) ?_
    show own_Go p e below _ (T243.setTop (mkF m 51 #[oR this, oI (5 : Int32), oD (FP.l2d wv), .second, oI (6 : Int32)] [(.int (12 : Int32)), (.ref arr), (.double (FP.l2d w4_)), (.int (6 : Int32)), (.ref arr)]))
    refine own_via (fun t kz => XS.iconst X243.here hx rfl (hb hby d3_51) kz) ?_
    refine own_via (fun t kz => XS.iadd X243.here hx rfl (hb hby d3_52) rfl kz) ?_
    show own_Go p e below _ (T243.setTop (mkF m 53 #[oR this, oI (5 : Int32), oD (FP.l2d wv), .second, oI (6 : Int32)] [(.int (13 : Int32)), (.ref arr), (.double (FP.l2d w4_)), (.int (6 : Int32)), (.ref arr)]))
    obtain ⟨cl244, Ar244, kc244, Sz244, Nn244, Hs244, Gs244⟩ := id V239
    have in244 := inb_of (j := (13 : Int32)) Sz244 ⟨by decide, by decide⟩
    have at244 : cl244.slots[((13 : Int32)).toNatClampNeg]? = some (.double (FP.l2d wv)) := Hs244.at in244 rfl
    refine own_via (fun t kz => X243.daload hx (j := (13 : Int32)) (v := (.double (FP.l2d wv))) (by rw [e243]; exact Ar244.1) (State.isArrayOf_alike hZ.alike Ar244.2.1) Ar244.2.2 in244 at244 (g := (mkF m 53 #[oR this, oI (5 : Int32), oD (FP.l2d wv), .second, oI (6 : Int32)] [(.int (13 : Int32)), (.ref arr), (.double (FP.l2d w4_)), (.int (6 : Int32)), (.ref arr)])) rfl rfl (hb hby d3_53) t kz) ?_
    show own_Go p e below _ (T243.setTop (mkF m 54 #[oR this, oI (5 : Int32), oD (FP.l2d wv), .second, oI (6 : Int32)] [(.double (FP.l2d wv)), (.double (FP.l2d w4_)), (.int (6 : Int32)), (.ref arr)]))
    refine own_via (fun t kz => XS.daddS X243.here hx rfl (hb hby d3_54) rfl (nn_w (dadd_w (own_b53 hb4 (by decide)) (own_b53 hbv (by decide)))) (dadd_w (own_b53 hb4 (by decide)) (own_b53 hbv (by decide))) kz) ?_
    show own_Go p e below _ (T243.setTop (mkF m 55 #[oR this, oI (5 : Int32), oD (FP.l2d wv), .second, oI (6 : Int32)] [(.double (FP.l2d (w4_ + wv))), (.int (6 : Int32)), (.ref arr)]))
    obtain ⟨cl245, Ar245, kc245, Sz245, Nn245, Hs245, Gs245⟩ := id V239
    obtain ⟨T245, h245, X245, e245, W245, st245⟩ := stD X243 hx hZ e243 Ar245 (j := (6 : Int32)) (inb_of Sz245 ⟨by decide, by decide⟩) (g := (mkF m 55 #[oR this, oI (5 : Int32), oD (FP.l2d wv), .second, oI (6 : Int32)] [(.double (FP.l2d (w4_ + wv))), (.int (6 : Int32)), (.ref arr)])) rfl rfl (hb hby d3_55)
    refine own_via st245 ?_
    have E246 := E234.wr W245
    have F247 := F235.other W245 (Or.inl (own_neq (by omega)))
    have F248 := F236.other W245 (Or.inl (own_neq (by omega)))
    have Zs249 : n0 ≤ h245.size := Nat.le_trans Zs237 (Keep.of_wr W245).1
    have N250 := Fr.snoc X245 N238 (show n0 ≤ arr by omega)
    have V251 : Arv Z h245 arr kA .double (16 : Int32) [(.double (FP.l2d (0 : Int64))), (.double (FP.l2d (((w0_ + w1_) + (w2_ + w3_)) + ((w4_ + w5_) + (w6_ + w7_))))), (.double (FP.l2d ((w0_ + w1_) + (w2_ + w3_)))), (.double (FP.l2d ((w4_ + w5_) + (w6_ + w7_)))), (.double (FP.l2d (w0_ + w1_))), (.double (FP.l2d (w2_ + w3_))), (.double (FP.l2d (w4_ + wv))), (.double (FP.l2d (w6_ + w7_))), (.double (FP.l2d w0_)), (.double (FP.l2d w1_)), (.double (FP.l2d w2_)), (.double (FP.l2d w3_)), (.double (FP.l2d w4_)), (.double (FP.l2d wv)), (.double (FP.l2d w6_)), (.double (FP.l2d w7_))] (.double (FP.l2d (0 : Int64))) := Arv.set Ar245 kc245 Sz245 Nn245 Hs245 Gs245 rfl W245 6 (by first | decide | (show 6 < 16; decide)) (by first | decide | (show 6 < 16; decide))
    refine own_via (fun t kz => XS.iload X245.here hx rfl (hb hby d3_56) rfl kz) ?_
    refine own_via (fun t kz => XS.iconst X245.here hx rfl (hb hby d3_58) kz) ?_
    refine own_via (fun t kz => XS.idiv X245.here hx rfl (hb hby d3_59) rfl (by decide) kz) ?_
    show own_Go p e below _ (T245.setTop (mkF m 60 #[oR this, oI (5 : Int32), oD (FP.l2d wv), .second, oI (6 : Int32)] [(.int (3 : Int32))]))
    refine own_via (fun t kz => XS.istore X245.here hx rfl (hb hby d3_60) rfl (l' := #[oR this, oI (5 : Int32), oD (FP.l2d wv), .second, oI (3 : Int32)]) rfl kz) ?_
    refine own_via (fun t kz => XS.goto X245.here hx rfl (pc0 := 62) (pc' := 22) rfl (hb hby d3_62) (by decide) (by decide) kz) ?_
    refine own_via (fun t kz => XS.iload X245.here hx rfl (hb hby d3_22) rfl kz) ?_
    refine own_via (fun t kz => XS.iconst X245.here hx rfl (hb hby d3_24) kz) ?_
    show own_Go p e below _ (T245.setTop (mkF m 25 #[oR this, oI (5 : Int32), oD (FP.l2d wv), .second, oI (3 : Int32)] [(.int (1 : Int32)), (.int (3 : Int32))]))
    refine own_via (fun t kz => XS.icmpNo X245.here hx rfl (hb hby d3_25) rfl (flt (by decide : ¬ ((3 : Int32) < (1 : Int32)))).1 kz) ?_
    refine own_via (fun t kz => XS.aloadN X245.here hx rfl (hb hby d3_28) rfl rfl kz) ?_
    show own_Go p e below _ (T245.setTop (mkF m 29 #[oR this, oI (5 : Int32), oD (FP.l2d wv), .second, oI (3 : Int32)] [(.ref this)]))
    obtain ⟨T252, X252, e252, st252⟩ := getF X245 hx hZ hown (host := "") (Or.inl (own_w hw 16)) Via.refl e245 F248 (g := (mkF m 29 #[oR this, oI (5 : Int32), oD (FP.l2d wv), .second, oI (3 : Int32)] [(.ref this)])) rfl rfl (hb hby d3_29)
    refine own_via st252 ?_
    refine own_via (fun t kz => XS.iload X252.here hx rfl (hb hby d3_32) rfl kz) ?_
    refine own_via (fun t kz => XS.aloadN X252.here hx rfl (hb hby d3_34) rfl rfl kz) ?_
    show own_Go p e below _ (T252.setTop (mkF m 35 #[oR this, oI (5 : Int32), oD (FP.l2d wv), .second, oI (3 : Int32)] [(.ref this), (.int (3 : Int32)), (.ref arr)]))
    obtain ⟨T253, X253, e253, st253⟩ := getF X252 hx hZ hown (host := "") (Or.inl (own_w hw 16)) Via.refl e252 F248 (g := (mkF m 35 #[oR this, oI (5 : Int32), oD (FP.l2d wv), .second, oI (3 : Int32)] [(.ref this), (.int (3 : Int32)), (.ref arr)])) rfl rfl (hb hby d3_35)
    refine own_via st253 ?_
    refine own_via (fun t kz => XS.iconst X253.here hx rfl (hb hby d3_38) kz) ?_
    refine own_via (fun t kz => XS.iload X253.here hx rfl (hb hby d3_39) rfl kz) ?_
    refine own_via (fun t kz => XS.imul X253.here hx rfl (hb hby d3_41) rfl kz) ?_
    show own_Go p e below _ (T253.setTop (mkF m 42 #[oR this, oI (5 : Int32), oD (FP.l2d wv), .second, oI (3 : Int32)] [(.int (6 : Int32)), (.ref arr), (.int (3 : Int32)), (.ref arr)]))
    obtain ⟨cl254, Ar254, kc254, Sz254, Nn254, Hs254, Gs254⟩ := id V251
    have in254 := inb_of (j := (6 : Int32)) Sz254 ⟨by decide, by decide⟩
    have at254 : cl254.slots[((6 : Int32)).toNatClampNeg]? = some (.double (FP.l2d (w4_ + wv))) := Hs254.at in254 rfl
    refine own_via (fun t kz => X253.daload hx (j := (6 : Int32)) (v := (.double (FP.l2d (w4_ + wv)))) (by rw [e253]; exact Ar254.1) (State.isArrayOf_alike hZ.alike Ar254.2.1) Ar254.2.2 in254 at254 (g := (mkF m 42 #[oR this, oI (5 : Int32), oD (FP.l2d wv), .second, oI (3 : Int32)] [(.int (6 : Int32)), (.ref arr), (.int (3 : Int32)), (.ref arr)])) rfl rfl (hb hby d3_42) t kz) ?_
    refine own_via (fun t kz => XS.aloadN X253.here hx rfl (hb hby d3_43) rfl rfl kz) ?_
    show own_Go p e below _ (T253.setTop (mkF m 44 #[oR this, oI (5 : Int32), oD (FP.l2d wv), .second, oI (3 : Int32)] [(.ref this), (.double (FP.l2d (w4_ + wv))), (.int (3 : Int32)), (.ref arr)]))
    obtain ⟨T255, X255, e255, st255⟩ := getF X253 hx hZ hown (host := "") (Or.inl (own_w hw 16)) Via.refl e253 F248 (g := (mkF m 44 #[oR this, oI (5 : Int32), oD (FP.l2d wv), .second, oI (3 : Int32)] [(.ref this), (.double (FP.l2d (w4_ + wv))), (.int (3 : Int32)), (.ref arr)])) rfl rfl (hb hby d3_44)
    refine own_via st255 ?_
    refine own_via (fun t kz => XS.iconst X255.here hx rfl (hb hby d3_47) kz) ?_
    refine own_via (fun t kz => XS.iload X255.here hx rfl (hb hby d3_48) rfl kz) ?_
    refine own_via (fun t kz => XS.imul X255.here hx rfl (hb hby d3_50) rfl kz) ?_
    show own_Go p e below _ (T255.setTop (mkF m 51 #[oR this, oI (5 : Int32), oD (FP.l2d wv), .second, oI (3 : Int32)] [(.int (6 : Int32)), (.ref arr), (.double (FP.l2d (w4_ + wv))), (.int (3 : Int32)), (.ref arr)]))
    refine own_via (fun t kz => XS.iconst X255.here hx rfl (hb hby d3_51) kz) ?_
    refine own_via (fun t kz => XS.iadd X255.here hx rfl (hb hby d3_52) rfl kz) ?_
    show own_Go p e below _ (T255.setTop (mkF m 53 #[oR this, oI (5 : Int32), oD (FP.l2d wv), .second, oI (3 : Int32)] [(.int (7 : Int32)), (.ref arr), (.double (FP.l2d (w4_ + wv))), (.int (3 : Int32)), (.ref arr)]))
    obtain ⟨cl256, Ar256, kc256, Sz256, Nn256, Hs256, Gs256⟩ := id V251
    have in256 := inb_of (j := (7 : Int32)) Sz256 ⟨by decide, by decide⟩
    have at256 : cl256.slots[((7 : Int32)).toNatClampNeg]? = some (.double (FP.l2d (w6_ + w7_))) := Hs256.at in256 rfl
    refine own_via (fun t kz => X255.daload hx (j := (7 : Int32)) (v := (.double (FP.l2d (w6_ + w7_)))) (by rw [e255]; exact Ar256.1) (State.isArrayOf_alike hZ.alike Ar256.2.1) Ar256.2.2 in256 at256 (g := (mkF m 53 #[oR this, oI (5 : Int32), oD (FP.l2d wv), .second, oI (3 : Int32)] [(.int (7 : Int32)), (.ref arr), (.double (FP.l2d (w4_ + wv))), (.int (3 : Int32)), (.ref arr)])) rfl rfl (hb hby d3_53) t kz) ?_
    show own_Go p e below _ (T255.setTop (mkF m 54 #[oR this, oI (5 : Int32), oD (FP.l2d wv), .second, oI (3 : Int32)] [(.double (FP.l2d (w6_ + w7_))), (.double (FP.l2d (w4_ + wv))), (.int (3 : Int32)), (.ref arr)]))
    refine own_via (fun t kz => XS.daddS X255.here hx rfl (hb hby d3_54) rfl (nn_w (dadd_w (own_b53 (own_bda hb4 hbv (by decide)) (by decide)) (own_b53 (own_bda hb6 hb7 (by decide)) (by decide)))) (dadd_w (own_b53 (own_bda hb4 hbv (by decide)) (by decide)) (own_b53 (own_bda hb6 hb7 (by decide)) (by decide))) kz) ?_
    show own_Go p e below _ (T255.setTop (mkF m 55 #[oR this, oI (5 : Int32), oD (FP.l2d wv), .second, oI (3 : Int32)] [(.double (FP.l2d ((w4_ + wv) + (w6_ + w7_)))), (.int (3 : Int32)), (.ref arr)]))
    obtain ⟨cl257, Ar257, kc257, Sz257, Nn257, Hs257, Gs257⟩ := id V251
    obtain ⟨T257, h257, X257, e257, W257, st257⟩ := stD X255 hx hZ e255 Ar257 (j := (3 : Int32)) (inb_of Sz257 ⟨by decide, by decide⟩) (g := (mkF m 55 #[oR this, oI (5 : Int32), oD (FP.l2d wv), .second, oI (3 : Int32)] [(.double (FP.l2d ((w4_ + wv) + (w6_ + w7_)))), (.int (3 : Int32)), (.ref arr)])) rfl rfl (hb hby d3_55)
    refine own_via st257 ?_
    have E258 := E246.wr W257
    have F259 := F247.other W257 (Or.inl (own_neq (by omega)))
    have F260 := F248.other W257 (Or.inl (own_neq (by omega)))
    have Zs261 : n0 ≤ h257.size := Nat.le_trans Zs249 (Keep.of_wr W257).1
    have N262 := Fr.snoc X257 N250 (show n0 ≤ arr by omega)
    have V263 : Arv Z h257 arr kA .double (16 : Int32) [(.double (FP.l2d (0 : Int64))), (.double (FP.l2d (((w0_ + w1_) + (w2_ + w3_)) + ((w4_ + w5_) + (w6_ + w7_))))), (.double (FP.l2d ((w0_ + w1_) + (w2_ + w3_)))), (.double (FP.l2d ((w4_ + wv) + (w6_ + w7_)))), (.double (FP.l2d (w0_ + w1_))), (.double (FP.l2d (w2_ + w3_))), (.double (FP.l2d (w4_ + wv))), (.double (FP.l2d (w6_ + w7_))), (.double (FP.l2d w0_)), (.double (FP.l2d w1_)), (.double (FP.l2d w2_)), (.double (FP.l2d w3_)), (.double (FP.l2d w4_)), (.double (FP.l2d wv)), (.double (FP.l2d w6_)), (.double (FP.l2d w7_))] (.double (FP.l2d (0 : Int64))) := Arv.set Ar257 kc257 Sz257 Nn257 Hs257 Gs257 rfl W257 3 (by first | decide | (show 3 < 16; decide)) (by first | decide | (show 3 < 16; decide))
    refine own_via (fun t kz => XS.iload X257.here hx rfl (hb hby d3_56) rfl kz) ?_
    refine own_via (fun t kz => XS.iconst X257.here hx rfl (hb hby d3_58) kz) ?_
    refine own_via (fun t kz => XS.idiv X257.here hx rfl (hb hby d3_59) rfl (by decide) kz) ?_
    show own_Go p e below _ (T257.setTop (mkF m 60 #[oR this, oI (5 : Int32), oD (FP.l2d wv), .second, oI (3 : Int32)] [(.int (1 : Int32))]))
    refine own_via (fun t kz => XS.istore X257.here hx rfl (hb hby d3_60) rfl (l' := #[oR this, oI (5 : Int32), oD (FP.l2d wv), .second, oI (1 : Int32)]) rfl kz) ?_
    refine own_via (fun t kz => XS.goto X257.here hx rfl (pc0 := 62) (pc' := 22) rfl (hb hby d3_62) (by decide) (by decide) kz) ?_
    refine own_via (fun t kz => XS.iload X257.here hx rfl (hb hby d3_22) rfl kz) ?_
    refine own_via (fun t kz => XS.iconst X257.here hx rfl (hb hby d3_24) kz) ?_
    show own_Go p e below _ (T257.setTop (mkF m 25 #[oR this, oI (5 : Int32), oD (FP.l2d wv), .second, oI (1 : Int32)] [(.int (1 : Int32)), (.int (1 : Int32))]))
    refine own_via (fun t kz => XS.icmpNo X257.here hx rfl (hb hby d3_25) rfl (flt (by decide : ¬ ((1 : Int32) < (1 : Int32)))).1 kz) ?_
    refine own_via (fun t kz => XS.aloadN X257.here hx rfl (hb hby d3_28) rfl rfl kz) ?_
    show own_Go p e below _ (T257.setTop (mkF m 29 #[oR this, oI (5 : Int32), oD (FP.l2d wv), .second, oI (1 : Int32)] [(.ref this)]))
    obtain ⟨T264, X264, e264, st264⟩ := getF X257 hx hZ hown (host := "") (Or.inl (own_w hw 16)) Via.refl e257 F260 (g := (mkF m 29 #[oR this, oI (5 : Int32), oD (FP.l2d wv), .second, oI (1 : Int32)] [(.ref this)])) rfl rfl (hb hby d3_29)
    refine own_via st264 ?_
    refine own_via (fun t kz => XS.iload X264.here hx rfl (hb hby d3_32) rfl kz) ?_
    refine own_via (fun t kz => XS.aloadN X264.here hx rfl (hb hby d3_34) rfl rfl kz) ?_
    show own_Go p e below _ (T264.setTop (mkF m 35 #[oR this, oI (5 : Int32), oD (FP.l2d wv), .second, oI (1 : Int32)] [(.ref this), (.int (1 : Int32)), (.ref arr)]))
    obtain ⟨T265, X265, e265, st265⟩ := getF X264 hx hZ hown (host := "") (Or.inl (own_w hw 16)) Via.refl e264 F260 (g := (mkF m 35 #[oR this, oI (5 : Int32), oD (FP.l2d wv), .second, oI (1 : Int32)] [(.ref this), (.int (1 : Int32)), (.ref arr)])) rfl rfl (hb hby d3_35)
    refine own_via st265 ?_
    refine own_via (fun t kz => XS.iconst X265.here hx rfl (hb hby d3_38) kz) ?_
    refine own_via (fun t kz => XS.iload X265.here hx rfl (hb hby d3_39) rfl kz) ?_
    refine own_via (fun t kz => XS.imul X265.here hx rfl (hb hby d3_41) rfl kz) ?_
    show own_Go p e below _ (T265.setTop (mkF m 42 #[oR this, oI (5 : Int32), oD (FP.l2d wv), .second, oI (1 : Int32)] [(.int (2 : Int32)), (.ref arr), (.int (1 : Int32)), (.ref arr)]))
    obtain ⟨cl266, Ar266, kc266, Sz266, Nn266, Hs266, Gs266⟩ := id V263
    have in266 := inb_of (j := (2 : Int32)) Sz266 ⟨by decide, by decide⟩
    have at266 : cl266.slots[((2 : Int32)).toNatClampNeg]? = some (.double (FP.l2d ((w0_ + w1_) + (w2_ + w3_)))) := Hs266.at in266 rfl
    refine own_via (fun t kz => X265.daload hx (j := (2 : Int32)) (v := (.double (FP.l2d ((w0_ + w1_) + (w2_ + w3_))))) (by rw [e265]; exact Ar266.1) (State.isArrayOf_alike hZ.alike Ar266.2.1) Ar266.2.2 in266 at266 (g := (mkF m 42 #[oR this, oI (5 : Int32), oD (FP.l2d wv), .second, oI (1 : Int32)] [(.int (2 : Int32)), (.ref arr), (.int (1 : Int32)), (.ref arr)])) rfl rfl (hb hby d3_42) t kz) ?_
    refine own_via (fun t kz => XS.aloadN X265.here hx rfl (hb hby d3_43) rfl rfl kz) ?_
    show own_Go p e below _ (T265.setTop (mkF m 44 #[oR this, oI (5 : Int32), oD (FP.l2d wv), .second, oI (1 : Int32)] [(.ref this), (.double (FP.l2d ((w0_ + w1_) + (w2_ + w3_)))), (.int (1 : Int32)), (.ref arr)]))
    obtain ⟨T267, X267, e267, st267⟩ := getF X265 hx hZ hown (host := "") (Or.inl (own_w hw 16)) Via.refl e265 F260 (g := (mkF m 44 #[oR this, oI (5 : Int32), oD (FP.l2d wv), .second, oI (1 : Int32)] [(.ref this), (.double (FP.l2d ((w0_ + w1_) + (w2_ + w3_)))), (.int (1 : Int32)), (.ref arr)])) rfl rfl (hb hby d3_44)
    refine own_via st267 ?_
    refine own_via (fun t kz => XS.iconst X267.here hx rfl (hb hby d3_47) kz) ?_
    refine own_via (fun t kz => XS.iload X267.here hx rfl (hb hby d3_48) rfl kz) ?_
    refine own_via (fun t kz => XS.imul X267.here hx rfl (hb hby d3_50) rfl kz) ?_
    show own_Go p e below _ (T267.setTop (mkF m 51 #[oR this, oI (5 : Int32), oD (FP.l2d wv), .second, oI (1 : Int32)] [(.int (2 : Int32)), (.ref arr), (.double (FP.l2d ((w0_ + w1_) + (w2_ + w3_)))), (.int (1 : Int32)), (.ref arr)]))
    refine own_via (fun t kz => XS.iconst X267.here hx rfl (hb hby d3_51) kz) ?_
    refine own_via (fun t kz => XS.iadd X267.here hx rfl (hb hby d3_52) rfl kz) ?_
    show own_Go p e below _ (T267.setTop (mkF m 53 #[oR this, oI (5 : Int32), oD (FP.l2d wv), .second, oI (1 : Int32)] [(.int (3 : Int32)), (.ref arr), (.double (FP.l2d ((w0_ + w1_) + (w2_ + w3_)))), (.int (1 : Int32)), (.ref arr)]))
    obtain ⟨cl268, Ar268, kc268, Sz268, Nn268, Hs268, Gs268⟩ := id V263
    have in268 := inb_of (j := (3 : Int32)) Sz268 ⟨by decide, by decide⟩
    have at268 : cl268.slots[((3 : Int32)).toNatClampNeg]? = some (.double (FP.l2d ((w4_ + wv) + (w6_ + w7_)))) := Hs268.at in268 rfl
    refine own_via (fun t kz => X267.daload hx (j := (3 : Int32)) (v := (.double (FP.l2d ((w4_ + wv) + (w6_ + w7_))))) (by rw [e267]; exact Ar268.1) (State.isArrayOf_alike hZ.alike Ar268.2.1) Ar268.2.2 in268 at268 (g := (mkF m 53 #[oR this, oI (5 : Int32), oD (FP.l2d wv), .second, oI (1 : Int32)] [(.int (3 : Int32)), (.ref arr), (.double (FP.l2d ((w0_ + w1_) + (w2_ + w3_)))), (.int (1 : Int32)), (.ref arr)])) rfl rfl (hb hby d3_53) t kz) ?_
    show own_Go p e below _ (T267.setTop (mkF m 54 #[oR this, oI (5 : Int32), oD (FP.l2d wv), .second, oI (1 : Int32)] [(.double (FP.l2d ((w4_ + wv) + (w6_ + w7_)))), (.double (FP.l2d ((w0_ + w1_) + (w2_ + w3_)))), (.int (1 : Int32)), (.ref arr)]))
    refine own_via (fun t kz => XS.daddS X267.here hx rfl (hb hby d3_54) rfl (nn_w (dadd_w (own_b53 (own_bda (own_bda hb0 hb1 (by decide)) (own_bda hb2 hb3 (by decide)) (by decide)) (by decide)) (own_b53 (own_bda (own_bda hb4 hbv (by decide)) (own_bda hb6 hb7 (by decide)) (by decide)) (by decide)))) (dadd_w (own_b53 (own_bda (own_bda hb0 hb1 (by decide)) (own_bda hb2 hb3 (by decide)) (by decide)) (by decide)) (own_b53 (own_bda (own_bda hb4 hbv (by decide)) (own_bda hb6 hb7 (by decide)) (by decide)) (by decide))) kz) ?_
    show own_Go p e below _ (T267.setTop (mkF m 55 #[oR this, oI (5 : Int32), oD (FP.l2d wv), .second, oI (1 : Int32)] [(.double (FP.l2d (((w0_ + w1_) + (w2_ + w3_)) + ((w4_ + wv) + (w6_ + w7_))))), (.int (1 : Int32)), (.ref arr)]))
    obtain ⟨cl269, Ar269, kc269, Sz269, Nn269, Hs269, Gs269⟩ := id V263
    obtain ⟨T269, h269, X269, e269, W269, st269⟩ := stD X267 hx hZ e267 Ar269 (j := (1 : Int32)) (inb_of Sz269 ⟨by decide, by decide⟩) (g := (mkF m 55 #[oR this, oI (5 : Int32), oD (FP.l2d wv), .second, oI (1 : Int32)] [(.double (FP.l2d (((w0_ + w1_) + (w2_ + w3_)) + ((w4_ + wv) + (w6_ + w7_))))), (.int (1 : Int32)), (.ref arr)])) rfl rfl (hb hby d3_55)
    refine own_via st269 ?_
    have E270 := E258.wr W269
    have F271 := F259.other W269 (Or.inl (own_neq (by omega)))
    have F272 := F260.other W269 (Or.inl (own_neq (by omega)))
    have Zs273 : n0 ≤ h269.size := Nat.le_trans Zs261 (Keep.of_wr W269).1
    have N274 := Fr.snoc X269 N262 (show n0 ≤ arr by omega)
    have V275 : Arv Z h269 arr kA .double (16 : Int32) [(.double (FP.l2d (0 : Int64))), (.double (FP.l2d (((w0_ + w1_) + (w2_ + w3_)) + ((w4_ + wv) + (w6_ + w7_))))), (.double (FP.l2d ((w0_ + w1_) + (w2_ + w3_)))), (.double (FP.l2d ((w4_ + wv) + (w6_ + w7_)))), (.double (FP.l2d (w0_ + w1_))), (.double (FP.l2d (w2_ + w3_))), (.double (FP.l2d (w4_ + wv))), (.double (FP.l2d (w6_ + w7_))), (.double (FP.l2d w0_)), (.double (FP.l2d w1_)), (.double (FP.l2d w2_)), (.double (FP.l2d w3_)), (.double (FP.l2d w4_)), (.double (FP.l2d wv)), (.double (FP.l2d w6_)), (.double (FP.l2d w7_))] (.double (FP.l2d (0 : Int64))) := Arv.set Ar269 kc269 Sz269 Nn269 Hs269 Gs269 rfl W269 1 (by first | decide | (show 1 < 16; decide)) (by first | decide | (show 1 < 16; decide))
    refine own_via (fun t kz => XS.iload X269.here hx rfl (hb hby d3_56) rfl kz) ?_
    refine own_via (fun t kz => XS.iconst X269.here hx rfl (hb hby d3_58) kz) ?_
    refine own_via (fun t kz => XS.idiv X269.here hx rfl (hb hby d3_59) rfl (by decide) kz) ?_
    show own_Go p e below _ (T269.setTop (mkF m 60 #[oR this, oI (5 : Int32), oD (FP.l2d wv), .second, oI (1 : Int32)] [(.int (0 : Int32))]))
    refine own_via (fun t kz => XS.istore X269.here hx rfl (hb hby d3_60) rfl (l' := #[oR this, oI (5 : Int32), oD (FP.l2d wv), .second, oI (0 : Int32)]) rfl kz) ?_
    refine own_via (fun t kz => XS.goto X269.here hx rfl (pc0 := 62) (pc' := 22) rfl (hb hby d3_62) (by decide) (by decide) kz) ?_
    refine own_via (fun t kz => XS.iload X269.here hx rfl (hb hby d3_22) rfl kz) ?_
    refine own_via (fun t kz => XS.iconst X269.here hx rfl (hb hby d3_24) kz) ?_
    show own_Go p e below _ (T269.setTop (mkF m 25 #[oR this, oI (5 : Int32), oD (FP.l2d wv), .second, oI (0 : Int32)] [(.int (1 : Int32)), (.int (0 : Int32))]))
    refine own_via (fun t kz => XS.icmpYes X269.here hx rfl (pc0 := 25) (pc' := 65) rfl (hb hby d3_25) rfl (tlt (by decide : (0 : Int32) < (1 : Int32))).1 (by decide) (by decide) kz) ?_
    show own_Go p e below _ (T269.setTop (mkF m 65 #[oR this, oI (5 : Int32), oD (FP.l2d wv), .second, oI (0 : Int32)] []))
    have hT : own_W8 Z h269 n0 this w0_ w1_ w2_ w3_ w4_ wv w6_ w7_ := ⟨arr, kA, ⟨ch0, ch1⟩, E270, F271, F272, V275⟩
    obtain ⟨fs, hr, hrun, hended, hW, hsame⟩ := X269.leave (v := none) (fun _ => rfl)
    refine ⟨_, _, X269.returnOut hx Bd.returns (hb hby d3_65) hr, hrun, hended, _, _, rfl, ?_, ⟨_, rfl⟩, hW, hsame.mono (by decide) (by decide)⟩
    show Q3_8 Z this (5 : Int32) wv w0_ w1_ w2_ w3_ w4_ w5_ w6_ w7_ h0 n0 _ T269.heap _
    rw [e269]
    exact ⟨rfl, N274, Zs273, by rw [if_neg (by decide : ¬ (5 : Int32) = (0 : Int32)), if_neg (by decide : ¬ (5 : Int32) = (1 : Int32)), if_neg (by decide : ¬ (5 : Int32) = (2 : Int32)), if_neg (by decide : ¬ (5 : Int32) = (3 : Int32)), if_neg (by decide : ¬ (5 : Int32) = (4 : Int32)), if_pos (rfl : (5 : Int32) = (5 : Int32)), if_neg (by decide : ¬ (5 : Int32) = (6 : Int32)), if_neg (by decide : ¬ (5 : Int32) = (7 : Int32))]; exact hT⟩
  · show own_Go p e below _ (s₁.setTop (mkF m 0 #[oR this, oI (6 : Int32), oD (FP.l2d wv), .second, .unset] []))
    refine own_via (fun t kz => XS.aloadN X0.here hx rfl (hb hby d3_0) rfl rfl kz) ?_
    show own_Go p e below _ (s₁.setTop (mkF m 1 #[oR this, oI (6 : Int32), oD (FP.l2d wv), .second, .unset] [(.ref this)]))
    obtain ⟨T277, X277, e277, st277⟩ := getF X0 hx hZ hown (host := "") (Or.inl (own_w hw 13)) Via.refl e0 Fq0 (g := (mkF m 1 #[oR this, oI (6 : Int32), oD (FP.l2d wv), .second, .unset] [(.ref this)])) rfl rfl (hb hby d3_1)
    refine own_via st277 ?_
    refine own_via (fun t kz => XS.iloadN X277.here hx rfl (hb hby d3_4) rfl kz) ?_
    refine own_via (fun t kz => XS.iadd X277.here hx rfl (hb hby d3_5) rfl kz) ?_
    refine own_via (fun t kz => XS.istore X277.here hx rfl (hb hby d3_6) rfl (l' := #[oR this, oI (6 : Int32), oD (FP.l2d wv), .second, oI (14 : Int32)]) rfl kz) ?_
    show own_Go p e below _ (T277.setTop (mkF m 8 #[oR this, oI (6 : Int32), oD (FP.l2d wv), .second, oI (14 : Int32)] []))
    refine own_via (fun t kz => XS.aloadN X277.here hx rfl (hb hby d3_8) rfl rfl kz) ?_
    show own_Go p e below _ (T277.setTop (mkF m 9 #[oR this, oI (6 : Int32), oD (FP.l2d wv), .second, oI (14 : Int32)] [(.ref this)]))
    obtain ⟨T278, X278, e278, st278⟩ := getF X277 hx hZ hown (host := "") (Or.inl (own_w hw 16)) Via.refl e277 Fq1 (g := (mkF m 9 #[oR this, oI (6 : Int32), oD (FP.l2d wv), .second, oI (14 : Int32)] [(.ref this)])) rfl rfl (hb hby d3_9)
    refine own_via st278 ?_
    refine own_via (fun t kz => XS.iload X278.here hx rfl (hb hby d3_12) rfl kz) ?_
    refine own_via (fun t kz => XS.dloadN X278.here hx rfl (hb hby d3_14) rfl kz) ?_
    show own_Go p e below _ (T278.setTop (mkF m 15 #[oR this, oI (6 : Int32), oD (FP.l2d wv), .second, oI (14 : Int32)] [(.double (FP.l2d wv)), (.int (14 : Int32)), (.ref arr)]))
    obtain ⟨cl279, Ar279, kc279, Sz279, Nn279, Hs279, Gs279⟩ := id Vq
    obtain ⟨T279, h279, X279, e279, W279, st279⟩ := stD X278 hx hZ e278 Ar279 (j := (14 : Int32)) (inb_of Sz279 ⟨by decide, by decide⟩) (g := (mkF m 15 #[oR this, oI (6 : Int32), oD (FP.l2d wv), .second, oI (14 : Int32)] [(.double (FP.l2d wv)), (.int (14 : Int32)), (.ref arr)])) rfl rfl (hb hby d3_15)
    refine own_via st279 ?_
    have E280 := Eq.wr W279
    have F281 := Fq0.other W279 (Or.inl (own_neq (by omega)))
    have F282 := Fq1.other W279 (Or.inl (own_neq (by omega)))
    have Zs283 : n0 ≤ h279.size := Nat.le_trans Z0 (Keep.of_wr W279).1
    have N284 := Fr.snoc X279 N0 (show n0 ≤ arr by omega)
    have V285 : Arv Z h279 arr kA .double (16 : Int32) [(.double (FP.l2d (0 : Int64))), (.double (FP.l2d (((w0_ + w1_) + (w2_ + w3_)) + ((w4_ + w5_) + (w6_ + w7_))))), (.double (FP.l2d ((w0_ + w1_) + (w2_ + w3_)))), (.double (FP.l2d ((w4_ + w5_) + (w6_ + w7_)))), (.double (FP.l2d (w0_ + w1_))), (.double (FP.l2d (w2_ + w3_))), (.double (FP.l2d (w4_ + w5_))), (.double (FP.l2d (w6_ + w7_))), (.double (FP.l2d w0_)), (.double (FP.l2d w1_)), (.double (FP.l2d w2_)), (.double (FP.l2d w3_)), (.double (FP.l2d w4_)), (.double (FP.l2d w5_)), (.double (FP.l2d wv)), (.double (FP.l2d w7_))] (.double (FP.l2d (0 : Int64))) := Arv.set Ar279 kc279 Sz279 Nn279 Hs279 Gs279 rfl W279 14 (by first | decide | (show 14 < 16; decide)) (by first | decide | (show 14 < 16; decide))
    refine own_via (fun t kz => XS.iload X279.here hx rfl (hb hby d3_16) rfl kz) ?_
    refine own_via (fun t kz => XS.iconst X279.here hx rfl (hb hby d3_18) kz) ?_
    refine own_via (fun t kz => XS.idiv X279.here hx rfl (hb hby d3_19) rfl (by decide) kz) ?_
    show own_Go p e below _ (T279.setTop (mkF m 20 #[oR this, oI (6 : Int32), oD (FP.l2d wv), .second, oI (14 : Int32)] [(.int (7 : Int32))]))
    refine own_via (fun t kz => XS.istore X279.here hx rfl (hb hby d3_20) rfl (l' := #[oR this, oI (6 : Int32), oD (FP.l2d wv), .second, oI (7 : Int32)]) rfl kz) ?_
    refine own_via (fun t kz => XS.iload X279.here hx rfl (hb hby d3_22) rfl kz) ?_
    refine own_via (fun t kz => XS.iconst X279.here hx rfl (hb hby d3_24) kz) ?_
    show own_Go p e below _ (T279.setTop (mkF m 25 #[oR this, oI (6 : Int32), oD (FP.l2d wv), .second, oI (7 : Int32)] [(.int (1 : Int32)), (.int (7 : Int32))]))
    refine own_via (fun t kz => XS.icmpNo X279.here hx rfl (hb hby d3_25) rfl (flt (by decide : ¬ ((7 : Int32) < (1 : Int32)))).1 kz) ?_
    refine own_via (fun t kz => XS.aloadN X279.here hx rfl (hb hby d3_28) rfl rfl kz) ?_
    show own_Go p e below _ (T279.setTop (mkF m 29 #[oR this, oI (6 : Int32), oD (FP.l2d wv), .second, oI (7 : Int32)] [(.ref this)]))
    obtain ⟨T286, X286, e286, st286⟩ := getF X279 hx hZ hown (host := "") (Or.inl (own_w hw 16)) Via.refl e279 F282 (g := (mkF m 29 #[oR this, oI (6 : Int32), oD (FP.l2d wv), .second, oI (7 : Int32)] [(.ref this)])) rfl rfl (hb hby d3_29)
    refine own_via st286 ?_
    refine own_via (fun t kz => XS.iload X286.here hx rfl (hb hby d3_32) rfl kz) ?_
    refine own_via (fun t kz => XS.aloadN X286.here hx rfl (hb hby d3_34) rfl rfl kz) ?_
    show own_Go p e below _ (T286.setTop (mkF m 35 #[oR this, oI (6 : Int32), oD (FP.l2d wv), .second, oI (7 : Int32)] [(.ref this), (.int (7 : Int32)), (.ref arr)]))
    obtain ⟨T287, X287, e287, st287⟩ := getF X286 hx hZ hown (host := "") (Or.inl (own_w hw 16)) Via.refl e286 F282 (g := (mkF m 35 #[oR this, oI (6 : Int32), oD (FP.l2d wv), .second, oI (7 : Int32)] [(.ref this), (.int (7 : Int32)), (.ref arr)])) rfl rfl (hb hby d3_35)
    refine own_via st287 ?_
    refine own_via (fun t kz => XS.iconst X287.here hx rfl (hb hby d3_38) kz) ?_
    refine own_via (fun t kz => XS.iload X287.here hx rfl (hb hby d3_39) rfl kz) ?_
    refine own_via (fun t kz => XS.imul X287.here hx rfl (hb hby d3_41) rfl kz) ?_
    show own_Go p e below _ (T287.setTop (mkF m 42 #[oR this, oI (6 : Int32), oD (FP.l2d wv), .second, oI (7 : Int32)] [(.int (14 : Int32)), (.ref arr), (.int (7 : Int32)), (.ref arr)]))
    obtain ⟨cl288, Ar288, kc288, Sz288, Nn288, Hs288, Gs288⟩ := id V285
    have in288 := inb_of (j := (14 : Int32)) Sz288 ⟨by decide, by decide⟩
    have at288 : cl288.slots[((14 : Int32)).toNatClampNeg]? = some (.double (FP.l2d wv)) := Hs288.at in288 rfl
    refine own_via (fun t kz => X287.daload hx (j := (14 : Int32)) (v := (.double (FP.l2d wv))) (by rw [e287]; exact Ar288.1) (State.isArrayOf_alike hZ.alike Ar288.2.1) Ar288.2.2 in288 at288 (g := (mkF m 42 #[oR this, oI (6 : Int32), oD (FP.l2d wv), .second, oI (7 : Int32)] [(.int (14 : Int32)), (.ref arr), (.int (7 : Int32)), (.ref arr)])) rfl rfl (hb hby d3_42) t kz) ?_
    refine own_via (fun t kz => XS.aloadN X287.here hx rfl (hb hby d3_43) rfl rfl kz) ?_
    show own_Go p e below _ (T287.setTop (mkF m 44 #[oR this, oI (6 : Int32), oD (FP.l2d wv), .second, oI (7 : Int32)] [(.ref this), (.double (FP.l2d wv)), (.int (7 : Int32)), (.ref arr)]))
    obtain ⟨T289, X289, e289, st289⟩ := getF X287 hx hZ hown (host := "") (Or.inl (own_w hw 16)) Via.refl e287 F282 (g := (mkF m 44 #[oR this, oI (6 : Int32), oD (FP.l2d wv), .second, oI (7 : Int32)] [(.ref this), (.double (FP.l2d wv)), (.int (7 : Int32)), (.ref arr)])) rfl rfl (hb hby d3_44)
    refine own_via st289 ?_
    refine own_via (fun t kz => XS.iconst X289.here hx rfl (hb hby d3_47) kz) ?_
    refine own_via (fun t kz => XS.iload X289.here hx rfl (hb hby d3_48) rfl kz) ?_
    refine own_via (fun t kz => XS.imul X289.here hx rfl (hb hby d3_50) rfl kz) ?_
    show own_Go p e below _ (T289.setTop (mkF m 51 #[oR this, oI (6 : Int32), oD (FP.l2d wv), .second, oI (7 : Int32)] [(.int (14 : Int32)), (.ref arr), (.double (FP.l2d wv)), (.int (7 : Int32)), (.ref arr)]))
    refine own_via (fun t kz => XS.iconst X289.here hx rfl (hb hby d3_51) kz) ?_
    refine own_via (fun t kz => XS.iadd X289.here hx rfl (hb hby d3_52) rfl kz) ?_
    show own_Go p e below _ (T289.setTop (mkF m 53 #[oR this, oI (6 : Int32), oD (FP.l2d wv), .second, oI (7 : Int32)] [(.int (15 : Int32)), (.ref arr), (.double (FP.l2d wv)), (.int (7 : Int32)), (.ref arr)]))
    obtain ⟨cl290, Ar290, kc290, Sz290, Nn290, Hs290, Gs290⟩ := id V285
    have in290 := inb_of (j := (15 : Int32)) Sz290 ⟨by decide, by decide⟩
    have at290 : cl290.slots[((15 : Int32)).toNatClampNeg]? = some (.double (FP.l2d w7_)) := Hs290.at in290 rfl
    refine own_via (fun t kz => X289.daload hx (j := (15 : Int32)) (v := (.double (FP.l2d w7_))) (by rw [e289]; exact Ar290.1) (State.isArrayOf_alike hZ.alike Ar290.2.1) Ar290.2.2 in290 at290 (g := (mkF m 53 #[oR this, oI (6 : Int32), oD (FP.l2d wv), .second, oI (7 : Int32)] [(.int (15 : Int32)), (.ref arr), (.double (FP.l2d wv)), (.int (7 : Int32)), (.ref arr)])) rfl rfl (hb hby d3_53) t kz) ?_
    show own_Go p e below _ (T289.setTop (mkF m 54 #[oR this, oI (6 : Int32), oD (FP.l2d wv), .second, oI (7 : Int32)] [(.double (FP.l2d w7_)), (.double (FP.l2d wv)), (.int (7 : Int32)), (.ref arr)]))
    refine own_via (fun t kz => XS.daddS X289.here hx rfl (hb hby d3_54) rfl (nn_w (dadd_w (own_b53 hbv (by decide)) (own_b53 hb7 (by decide)))) (dadd_w (own_b53 hbv (by decide)) (own_b53 hb7 (by decide))) kz) ?_
    show own_Go p e below _ (T289.setTop (mkF m 55 #[oR this, oI (6 : Int32), oD (FP.l2d wv), .second, oI (7 : Int32)] [(.double (FP.l2d (wv + w7_))), (.int (7 : Int32)), (.ref arr)]))
    obtain ⟨cl291, Ar291, kc291, Sz291, Nn291, Hs291, Gs291⟩ := id V285
    obtain ⟨T291, h291, X291, e291, W291, st291⟩ := stD X289 hx hZ e289 Ar291 (j := (7 : Int32)) (inb_of Sz291 ⟨by decide, by decide⟩) (g := (mkF m 55 #[oR this, oI (6 : Int32), oD (FP.l2d wv), .second, oI (7 : Int32)] [(.double (FP.l2d (wv + w7_))), (.int (7 : Int32)), (.ref arr)])) rfl rfl (hb hby d3_55)
    refine own_via st291 ?_
    have E292 := E280.wr W291
    have F293 := F281.other W291 (Or.inl (own_neq (by omega)))
    have F294 := F282.other W291 (Or.inl (own_neq (by omega)))
    have Zs295 : n0 ≤ h291.size := Nat.le_trans Zs283 (Keep.of_wr W291).1
    have N296 := Fr.snoc X291 N284 (show n0 ≤ arr by omega)
    have V297 : Arv Z h291 arr kA .double (16 : Int32) [(.double (FP.l2d (0 : Int64))), (.double (FP.l2d (((w0_ + w1_) + (w2_ + w3_)) + ((w4_ + w5_) + (w6_ + w7_))))), (.double (FP.l2d ((w0_ + w1_) + (w2_ + w3_)))), (.double (FP.l2d ((w4_ + w5_) + (w6_ + w7_)))), (.double (FP.l2d (w0_ + w1_))), (.double (FP.l2d (w2_ + w3_))), (.double (FP.l2d (w4_ + w5_))), (.double (FP.l2d (wv + w7_))), (.double (FP.l2d w0_)), (.double (FP.l2d w1_)), (.double (FP.l2d w2_)), (.double (FP.l2d w3_)), (.double (FP.l2d w4_)), (.double (FP.l2d w5_)), (.double (FP.l2d wv)), (.double (FP.l2d w7_))] (.double (FP.l2d (0 : Int64))) := Arv.set Ar291 kc291 Sz291 Nn291 Hs291 Gs291 rfl W291 7 (by first | decide | (show 7 < 16; decide)) (by first | decide | (show 7 < 16; decide))
    refine own_via (fun t kz => XS.iload X291.here hx rfl (hb hby d3_56) rfl kz) ?_
    refine own_via (fun t kz => XS.iconst X291.here hx rfl (hb hby d3_58) kz) ?_
    refine own_via (fun t kz => XS.idiv X291.here hx rfl (hb hby d3_59) rfl (by decide) kz) ?_
    show own_Go p e below _ (T291.setTop (mkF m 60 #[oR this, oI (6 : Int32), oD (FP.l2d wv), .second, oI (7 : Int32)] [(.int (3 : Int32))]))
    refine own_via (fun t kz => XS.istore X291.here hx rfl (hb hby d3_60) rfl (l' := #[oR this, oI (6 : Int32), oD (FP.l2d wv), .second, oI (3 : Int32)]) rfl kz) ?_
    refine own_via (fun t kz => XS.goto X291.here hx rfl (pc0 := 62) (pc' := 22) rfl (hb hby d3_62) (by decide) (by decide) kz) ?_
    refine own_via (fun t kz => XS.iload X291.here hx rfl (hb hby d3_22) rfl kz) ?_
    refine own_via (fun t kz => XS.iconst X291.here hx rfl (hb hby d3_24) kz) ?_
    show own_Go p e below _ (T291.setTop (mkF m 25 #[oR this, oI (6 : Int32), oD (FP.l2d wv), .second, oI (3 : Int32)] [(.int (1 : Int32)), (.int (3 : Int32))]))
    refine own_via (fun t kz => XS.icmpNo X291.here hx rfl (hb hby d3_25) rfl (flt (by decide : ¬ ((3 : Int32) < (1 : Int32)))).1 kz) ?_
    refine own_via (fun t kz => XS.aloadN X291.here hx rfl (hb hby d3_28) rfl rfl kz) ?_
    show own_Go p e below _ (T291.setTop (mkF m 29 #[oR this, oI (6 : Int32), oD (FP.l2d wv), .second, oI (3 : Int32)] [(.ref this)]))
    obtain ⟨T298, X298, e298, st298⟩ := getF X291 hx hZ hown (host := "") (Or.inl (own_w hw 16)) Via.refl e291 F294 (g := (mkF m 29 #[oR this, oI (6 : Int32), oD (FP.l2d wv), .second, oI (3 : Int32)] [(.ref this)])) rfl rfl (hb hby d3_29)
    refine own_via st298 ?_
    refine own_via (fun t kz => XS.iload X298.here hx rfl (hb hby d3_32) rfl kz) ?_
    refine own_via (fun t kz => XS.aloadN X298.here hx rfl (hb hby d3_34) rfl rfl kz) ?_
    show own_Go p e below _ (T298.setTop (mkF m 35 #[oR this, oI (6 : Int32), oD (FP.l2d wv), .second, oI (3 : Int32)] [(.ref this), (.int (3 : Int32)), (.ref arr)]))
    obtain ⟨T299, X299, e299, st299⟩ := getF X298 hx hZ hown (host := "") (Or.inl (own_w hw 16)) Via.refl e298 F294 (g := (mkF m 35 #[oR this, oI (6 : Int32), oD (FP.l2d wv), .second, oI (3 : Int32)] [(.ref this), (.int (3 : Int32)), (.ref arr)])) rfl rfl (hb hby d3_35)
    refine own_via st299 ?_
    refine own_via (fun t kz => XS.iconst X299.here hx rfl (hb hby d3_38) kz) ?_
    refine own_via (fun t kz => XS.iload X299.here hx rfl (hb hby d3_39) rfl kz) ?_
    refine own_via (fun t kz => XS.imul X299.here hx rfl (hb hby d3_41) rfl kz) ?_
    show own_Go p e below _ (T299.setTop (mkF m 42 #[oR this, oI (6 : Int32), oD (FP.l2d wv), .second, oI (3 : Int32)] [(.int (6 : Int32)), (.ref arr), (.int (3 : Int32)), (.ref arr)]))
    obtain ⟨cl300, Ar300, kc300, Sz300, Nn300, Hs300, Gs300⟩ := id V297
    have in300 := inb_of (j := (6 : Int32)) Sz300 ⟨by decide, by decide⟩
    have at300 : cl300.slots[((6 : Int32)).toNatClampNeg]? = some (.double (FP.l2d (w4_ + w5_))) := Hs300.at in300 rfl
    refine own_via (fun t kz => X299.daload hx (j := (6 : Int32)) (v := (.double (FP.l2d (w4_ + w5_)))) (by rw [e299]; exact Ar300.1) (State.isArrayOf_alike hZ.alike Ar300.2.1) Ar300.2.2 in300 at300 (g := (mkF m 42 #[oR this, oI (6 : Int32), oD (FP.l2d wv), .second, oI (3 : Int32)] [(.int (6 : Int32)), (.ref arr), (.int (3 : Int32)), (.ref arr)])) rfl rfl (hb hby d3_42) t kz) ?_
    refine own_via (fun t kz => XS.aloadN X299.here hx rfl (hb hby d3_43) rfl rfl kz) ?_
    show own_Go p e below _ (T299.setTop (mkF m 44 #[oR this, oI (6 : Int32), oD (FP.l2d wv), .second, oI (3 : Int32)] [(.ref this), (.double (FP.l2d (w4_ + w5_))), (.int (3 : Int32)), (.ref arr)]))
    obtain ⟨T301, X301, e301, st301⟩ := getF X299 hx hZ hown (host := "") (Or.inl (own_w hw 16)) Via.refl e299 F294 (g := (mkF m 44 #[oR this, oI (6 : Int32), oD (FP.l2d wv), .second, oI (3 : Int32)] [(.ref this), (.double (FP.l2d (w4_ + w5_))), (.int (3 : Int32)), (.ref arr)])) rfl rfl (hb hby d3_44)
    refine own_via st301 ?_
    refine own_via (fun t kz => XS.iconst X301.here hx rfl (hb hby d3_47) kz) ?_
    refine own_via (fun t kz => XS.iload X301.here hx rfl (hb hby d3_48) rfl kz) ?_
    refine own_via (fun t kz => XS.imul X301.here hx rfl (hb hby d3_50) rfl kz) ?_
    show own_Go p e below _ (T301.setTop (mkF m 51 #[oR this, oI (6 : Int32), oD (FP.l2d wv), .second, oI (3 : Int32)] [(.int (6 : Int32)), (.ref arr), (.double (FP.l2d (w4_ + w5_))), (.int (3 : Int32)), (.ref arr)]))
    refine own_via (fun t kz => XS.iconst X301.here hx rfl (hb hby d3_51) kz) ?_
    refine own_via (fun t kz => XS.iadd X301.here hx rfl (hb hby d3_52) rfl kz) ?_
    show own_Go p e below _ (T301.setTop (mkF m 53 #[oR this, oI (6 : Int32), oD (FP.l2d wv), .second, oI (3 : Int32)] [(.int (7 : Int32)), (.ref arr), (.double (FP.l2d (w4_ + w5_))), (.int (3 : Int32)), (.ref arr)]))
    obtain ⟨cl302, Ar302, kc302, Sz302, Nn302, Hs302, Gs302⟩ := id V297
    have in302 := inb_of (j := (7 : Int32)) Sz302 ⟨by decide, by decide⟩
    have at302 : cl302.slots[((7 : Int32)).toNatClampNeg]? = some (.double (FP.l2d (wv + w7_))) := Hs302.at in302 rfl
    refine own_via (fun t kz => X301.daload hx (j := (7 : Int32)) (v := (.double (FP.l2d (wv + w7_)))) (by rw [e301]; exact Ar302.1) (State.isArrayOf_alike hZ.alike Ar302.2.1) Ar302.2.2 in302 at302 (g := (mkF m 53 #[oR this, oI (6 : Int32), oD (FP.l2d wv), .second, oI (3 : Int32)] [(.int (7 : Int32)), (.ref arr), (.double (FP.l2d (w4_ + w5_))), (.int (3 : Int32)), (.ref arr)])) rfl rfl (hb hby d3_53) t kz) ?_
    show own_Go p e below _ (T301.setTop (mkF m 54 #[oR this, oI (6 : Int32), oD (FP.l2d wv), .second, oI (3 : Int32)] [(.double (FP.l2d (wv + w7_))), (.double (FP.l2d (w4_ + w5_))), (.int (3 : Int32)), (.ref arr)]))
    refine own_via (fun t kz => XS.daddS X301.here hx rfl (hb hby d3_54) rfl (nn_w (dadd_w (own_b53 (own_bda hb4 hb5 (by decide)) (by decide)) (own_b53 (own_bda hbv hb7 (by decide)) (by decide)))) (dadd_w (own_b53 (own_bda hb4 hb5 (by decide)) (by decide)) (own_b53 (own_bda hbv hb7 (by decide)) (by decide))) kz) ?_
    show own_Go p e below _ (T301.setTop (mkF m 55 #[oR this, oI (6 : Int32), oD (FP.l2d wv), .second, oI (3 : Int32)] [(.double (FP.l2d ((w4_ + w5_) + (wv + w7_)))), (.int (3 : Int32)), (.ref arr)]))
    obtain ⟨cl303, Ar303, kc303, Sz303, Nn303, Hs303, Gs303⟩ := id V297
    obtain ⟨T303, h303, X303, e303, W303, st303⟩ := stD X301 hx hZ e301 Ar303 (j := (3 : Int32)) (inb_of Sz303 ⟨by decide, by decide⟩) (g := (mkF m 55 #[oR this, oI (6 : Int32), oD (FP.l2d wv), .second, oI (3 : Int32)] [(.double (FP.l2d ((w4_ + w5_) + (wv + w7_)))), (.int (3 : Int32)), (.ref arr)])) rfl rfl (hb hby d3_55)
    refine own_via st303 ?_
    have E304 := E292.wr W303
    have F305 := F293.other W303 (Or.inl (own_neq (by omega)))
    have F306 := F294.other W303 (Or.inl (own_neq (by omega)))
    have Zs307 : n0 ≤ h303.size := Nat.le_trans Zs295 (Keep.of_wr W303).1
    have N308 := Fr.snoc X303 N296 (show n0 ≤ arr by omega)
    have V309 : Arv Z h303 arr kA .double (16 : Int32) [(.double (FP.l2d (0 : Int64))), (.double (FP.l2d (((w0_ + w1_) + (w2_ + w3_)) + ((w4_ + w5_) + (w6_ + w7_))))), (.double (FP.l2d ((w0_ + w1_) + (w2_ + w3_)))), (.double (FP.l2d ((w4_ + w5_) + (wv + w7_)))), (.double (FP.l2d (w0_ + w1_))), (.double (FP.l2d (w2_ + w3_))), (.double (FP.l2d (w4_ + w5_))), (.double (FP.l2d (wv + w7_))), (.double (FP.l2d w0_)), (.double (FP.l2d w1_)), (.double (FP.l2d w2_)), (.double (FP.l2d w3_)), (.double (FP.l2d w4_)), (.double (FP.l2d w5_)), (.double (FP.l2d wv)), (.double (FP.l2d w7_))] (.double (FP.l2d (0 : Int64))) := Arv.set Ar303 kc303 Sz303 Nn303 Hs303 Gs303 rfl W303 3 (by first | decide | (show 3 < 16; decide)) (by first | decide | (show 3 < 16; decide))
    refine own_via (fun t kz => XS.iload X303.here hx rfl (hb hby d3_56) rfl kz) ?_
    refine own_via (fun t kz => XS.iconst X303.here hx rfl (hb hby d3_58) kz) ?_
    refine own_via (fun t kz => XS.idiv X303.here hx rfl (hb hby d3_59) rfl (by decide) kz) ?_
    show own_Go p e below _ (T303.setTop (mkF m 60 #[oR this, oI (6 : Int32), oD (FP.l2d wv), .second, oI (3 : Int32)] [(.int (1 : Int32))]))
    refine own_via (fun t kz => XS.istore X303.here hx rfl (hb hby d3_60) rfl (l' := #[oR this, oI (6 : Int32), oD (FP.l2d wv), .second, oI (1 : Int32)]) rfl kz) ?_
    refine own_via (fun t kz => XS.goto X303.here hx rfl (pc0 := 62) (pc' := 22) rfl (hb hby d3_62) (by decide) (by decide) kz) ?_
    refine own_via (fun t kz => XS.iload X303.here hx rfl (hb hby d3_22) rfl kz) ?_
    refine own_via (fun t kz => XS.iconst X303.here hx rfl (hb hby d3_24) kz) ?_
    show own_Go p e below _ (T303.setTop (mkF m 25 #[oR this, oI (6 : Int32), oD (FP.l2d wv), .second, oI (1 : Int32)] [(.int (1 : Int32)), (.int (1 : Int32))]))
    refine own_via (fun t kz => XS.icmpNo X303.here hx rfl (hb hby d3_25) rfl (flt (by decide : ¬ ((1 : Int32) < (1 : Int32)))).1 kz) ?_
    refine own_via (fun t kz => XS.aloadN X303.here hx rfl (hb hby d3_28) rfl rfl kz) ?_
    show own_Go p e below _ (T303.setTop (mkF m 29 #[oR this, oI (6 : Int32), oD (FP.l2d wv), .second, oI (1 : Int32)] [(.ref this)]))
    obtain ⟨T310, X310, e310, st310⟩ := getF X303 hx hZ hown (host := "") (Or.inl (own_w hw 16)) Via.refl e303 F306 (g := (mkF m 29 #[oR this, oI (6 : Int32), oD (FP.l2d wv), .second, oI (1 : Int32)] [(.ref this)])) rfl rfl (hb hby d3_29)
    refine own_via st310 ?_
    refine own_via (fun t kz => XS.iload X310.here hx rfl (hb hby d3_32) rfl kz) ?_
    refine own_via (fun t kz => XS.aloadN X310.here hx rfl (hb hby d3_34) rfl rfl kz) ?_
    show own_Go p e below _ (T310.setTop (mkF m 35 #[oR this, oI (6 : Int32), oD (FP.l2d wv), .second, oI (1 : Int32)] [(.ref this), (.int (1 : Int32)), (.ref arr)]))
    obtain ⟨T311, X311, e311, st311⟩ := getF X310 hx hZ hown (host := "") (Or.inl (own_w hw 16)) Via.refl e310 F306 (g := (mkF m 35 #[oR this, oI (6 : Int32), oD (FP.l2d wv), .second, oI (1 : Int32)] [(.ref this), (.int (1 : Int32)), (.ref arr)])) rfl rfl (hb hby d3_35)
    refine own_via st311 ?_
    refine own_via (fun t kz => XS.iconst X311.here hx rfl (hb hby d3_38) kz) ?_
    refine own_via (fun t kz => XS.iload X311.here hx rfl (hb hby d3_39) rfl kz) ?_
    refine own_via (fun t kz => XS.imul X311.here hx rfl (hb hby d3_41) rfl kz) ?_
    show own_Go p e below _ (T311.setTop (mkF m 42 #[oR this, oI (6 : Int32), oD (FP.l2d wv), .second, oI (1 : Int32)] [(.int (2 : Int32)), (.ref arr), (.int (1 : Int32)), (.ref arr)]))
    obtain ⟨cl312, Ar312, kc312, Sz312, Nn312, Hs312, Gs312⟩ := id V309
    have in312 := inb_of (j := (2 : Int32)) Sz312 ⟨by decide, by decide⟩
    have at312 : cl312.slots[((2 : Int32)).toNatClampNeg]? = some (.double (FP.l2d ((w0_ + w1_) + (w2_ + w3_)))) := Hs312.at in312 rfl
    refine own_via (fun t kz => X311.daload hx (j := (2 : Int32)) (v := (.double (FP.l2d ((w0_ + w1_) + (w2_ + w3_))))) (by rw [e311]; exact Ar312.1) (State.isArrayOf_alike hZ.alike Ar312.2.1) Ar312.2.2 in312 at312 (g := (mkF m 42 #[oR this, oI (6 : Int32), oD (FP.l2d wv), .second, oI (1 : Int32)] [(.int (2 : Int32)), (.ref arr), (.int (1 : Int32)), (.ref arr)])) rfl rfl (hb hby d3_42) t kz) ?_
    refine own_via (fun t kz => XS.aloadN X311.here hx rfl (hb hby d3_43) rfl rfl kz) ?_
    show own_Go p e below _ (T311.setTop (mkF m 44 #[oR this, oI (6 : Int32), oD (FP.l2d wv), .second, oI (1 : Int32)] [(.ref this), (.double (FP.l2d ((w0_ + w1_) + (w2_ + w3_)))), (.int (1 : Int32)), (.ref arr)]))
    obtain ⟨T313, X313, e313, st313⟩ := getF X311 hx hZ hown (host := "") (Or.inl (own_w hw 16)) Via.refl e311 F306 (g := (mkF m 44 #[oR this, oI (6 : Int32), oD (FP.l2d wv), .second, oI (1 : Int32)] [(.ref this), (.double (FP.l2d ((w0_ + w1_) + (w2_ + w3_)))), (.int (1 : Int32)), (.ref arr)])) rfl rfl (hb hby d3_44)
    refine own_via st313 ?_
    refine own_via (fun t kz => XS.iconst X313.here hx rfl (hb hby d3_47) kz) ?_
    refine own_via (fun t kz => XS.iload X313.here hx rfl (hb hby d3_48) rfl kz) ?_
    refine own_via (fun t kz => XS.imul X313.here hx rfl (hb hby d3_50) rfl kz) ?_
    show own_Go p e below _ (T313.setTop (mkF m 51 #[oR this, oI (6 : Int32), oD (FP.l2d wv), .second, oI (1 : Int32)] [(.int (2 : Int32)), (.ref arr), (.double (FP.l2d ((w0_ + w1_) + (w2_ + w3_)))), (.int (1 : Int32)), (.ref arr)]))
    refine own_via (fun t kz => XS.iconst X313.here hx rfl (hb hby d3_51) kz) ?_
    refine own_via (fun t kz => XS.iadd X313.here hx rfl (hb hby d3_52) rfl kz) ?_
    show own_Go p e below _ (T313.setTop (mkF m 53 #[oR this, oI (6 : Int32), oD (FP.l2d wv), .second, oI (1 : Int32)] [(.int (3 : Int32)), (.ref arr), (.double (FP.l2d ((w0_ + w1_) + (w2_ + w3_)))), (.int (1 : Int32)), (.ref arr)]))
    obtain ⟨cl314, Ar314, kc314, Sz314, Nn314, Hs314, Gs314⟩ := id V309
    have in314 := inb_of (j := (3 : Int32)) Sz314 ⟨by decide, by decide⟩
    have at314 : cl314.slots[((3 : Int32)).toNatClampNeg]? = some (.double (FP.l2d ((w4_ + w5_) + (wv + w7_)))) := Hs314.at in314 rfl
    refine own_via (fun t kz => X313.daload hx (j := (3 : Int32)) (v := (.double (FP.l2d ((w4_ + w5_) + (wv + w7_))))) (by rw [e313]; exact Ar314.1) (State.isArrayOf_alike hZ.alike Ar314.2.1) Ar314.2.2 in314 at314 (g := (mkF m 53 #[oR this, oI (6 : Int32), oD (FP.l2d wv), .second, oI (1 : Int32)] [(.int (3 : Int32)), (.ref arr), (.double (FP.l2d ((w0_ + w1_) + (w2_ + w3_)))), (.int (1 : Int32)), (.ref arr)])) rfl rfl (hb hby d3_53) t kz) ?_
    show own_Go p e below _ (T313.setTop (mkF m 54 #[oR this, oI (6 : Int32), oD (FP.l2d wv), .second, oI (1 : Int32)] [(.double (FP.l2d ((w4_ + w5_) + (wv + w7_)))), (.double (FP.l2d ((w0_ + w1_) + (w2_ + w3_)))), (.int (1 : Int32)), (.ref arr)]))
    refine own_via (fun t kz => XS.daddS X313.here hx rfl (hb hby d3_54) rfl (nn_w (dadd_w (own_b53 (own_bda (own_bda hb0 hb1 (by decide)) (own_bda hb2 hb3 (by decide)) (by decide)) (by decide)) (own_b53 (own_bda (own_bda hb4 hb5 (by decide)) (own_bda hbv hb7 (by decide)) (by decide)) (by decide)))) (dadd_w (own_b53 (own_bda (own_bda hb0 hb1 (by decide)) (own_bda hb2 hb3 (by decide)) (by decide)) (by decide)) (own_b53 (own_bda (own_bda hb4 hb5 (by decide)) (own_bda hbv hb7 (by decide)) (by decide)) (by decide))) kz) ?_
    show own_Go p e below _ (T313.setTop (mkF m 55 #[oR this, oI (6 : Int32), oD (FP.l2d wv), .second, oI (1 : Int32)] [(.double (FP.l2d (((w0_ + w1_) + (w2_ + w3_)) + ((w4_ + w5_) + (wv + w7_))))), (.int (1 : Int32)), (.ref arr)]))
    obtain ⟨cl315, Ar315, kc315, Sz315, Nn315, Hs315, Gs315⟩ := id V309
    obtain ⟨T315, h315, X315, e315, W315, st315⟩ := stD X313 hx hZ e313 Ar315 (j := (1 : Int32)) (inb_of Sz315 ⟨by decide, by decide⟩) (g := (mkF m 55 #[oR this, oI (6 : Int32), oD (FP.l2d wv), .second, oI (1 : Int32)] [(.double (FP.l2d (((w0_ + w1_) + (w2_ + w3_)) + ((w4_ + w5_) + (wv + w7_))))), (.int (1 : Int32)), (.ref arr)])) rfl rfl (hb hby d3_55)
    refine own_via st315 ?_
    have E316 := E304.wr W315
    have F317 := F305.other W315 (Or.inl (own_neq (by omega)))
    have F318 := F306.other W315 (Or.inl (own_neq (by omega)))
    have Zs319 : n0 ≤ h315.size := Nat.le_trans Zs307 (Keep.of_wr W315).1
    have N320 := Fr.snoc X315 N308 (show n0 ≤ arr by omega)
    have V321 : Arv Z h315 arr kA .double (16 : Int32) [(.double (FP.l2d (0 : Int64))), (.double (FP.l2d (((w0_ + w1_) + (w2_ + w3_)) + ((w4_ + w5_) + (wv + w7_))))), (.double (FP.l2d ((w0_ + w1_) + (w2_ + w3_)))), (.double (FP.l2d ((w4_ + w5_) + (wv + w7_)))), (.double (FP.l2d (w0_ + w1_))), (.double (FP.l2d (w2_ + w3_))), (.double (FP.l2d (w4_ + w5_))), (.double (FP.l2d (wv + w7_))), (.double (FP.l2d w0_)), (.double (FP.l2d w1_)), (.double (FP.l2d w2_)), (.double (FP.l2d w3_)), (.double (FP.l2d w4_)), (.double (FP.l2d w5_)), (.double (FP.l2d wv)), (.double (FP.l2d w7_))] (.double (FP.l2d (0 : Int64))) := Arv.set Ar315 kc315 Sz315 Nn315 Hs315 Gs315 rfl W315 1 (by first | decide | (show 1 < 16; decide)) (by first | decide | (show 1 < 16; decide))
    refine own_via (fun t kz => XS.iload X315.here hx rfl (hb hby d3_56) rfl kz) ?_
    refine own_via (fun t kz => XS.iconst X315.here hx rfl (hb hby d3_58) kz) ?_
    refine own_via (fun t kz => XS.idiv X315.here hx rfl (hb hby d3_59) rfl (by decide) kz) ?_
    show own_Go p e below _ (T315.setTop (mkF m 60 #[oR this, oI (6 : Int32), oD (FP.l2d wv), .second, oI (1 : Int32)] [(.int (0 : Int32))]))
    refine own_via (fun t kz => XS.istore X315.here hx rfl (hb hby d3_60) rfl (l' := #[oR this, oI (6 : Int32), oD (FP.l2d wv), .second, oI (0 : Int32)]) rfl kz) ?_
    refine own_via (fun t kz => XS.goto X315.here hx rfl (pc0 := 62) (pc' := 22) rfl (hb hby d3_62) (by decide) (by decide) kz) ?_
    refine own_via (fun t kz => XS.iload X315.here hx rfl (hb hby d3_22) rfl kz) ?_
    refine own_via (fun t kz => XS.iconst X315.here hx rfl (hb hby d3_24) kz) ?_
    show own_Go p e below _ (T315.setTop (mkF m 25 #[oR this, oI (6 : Int32), oD (FP.l2d wv), .second, oI (0 : Int32)] [(.int (1 : Int32)), (.int (0 : Int32))]))
    refine own_via (fun t kz => XS.icmpYes X315.here hx rfl (pc0 := 25) (pc' := 65) rfl (hb hby d3_25) rfl (tlt (by decide : (0 : Int32) < (1 : Int32))).1 (by decide) (by decide) kz) ?_
    show own_Go p e below _ (T315.setTop (mkF m 65 #[oR this, oI (6 : Int32), oD (FP.l2d wv), .second, oI (0 : Int32)] []))
    have hT : own_W8 Z h315 n0 this w0_ w1_ w2_ w3_ w4_ w5_ wv w7_ := ⟨arr, kA, ⟨ch0, ch1⟩, E316, F317, F318, V321⟩
    obtain ⟨fs, hr, hrun, hended, hW, hsame⟩ := X315.leave (v := none) (fun _ => rfl)
    refine ⟨_, _, X315.returnOut hx Bd.returns (hb hby d3_65) hr, hrun, hended, _, _, rfl, ?_, ⟨_, rfl⟩, hW, hsame.mono (by decide) (by decide)⟩
    show Q3_8 Z this (6 : Int32) wv w0_ w1_ w2_ w3_ w4_ w5_ w6_ w7_ h0 n0 _ T315.heap _
    rw [e315]
    exact ⟨rfl, N320, Zs319, by rw [if_neg (by decide : ¬ (6 : Int32) = (0 : Int32)), if_neg (by decide : ¬ (6 : Int32) = (1 : Int32)), if_neg (by decide : ¬ (6 : Int32) = (2 : Int32)), if_neg (by decide : ¬ (6 : Int32) = (3 : Int32)), if_neg (by decide : ¬ (6 : Int32) = (4 : Int32)), if_neg (by decide : ¬ (6 : Int32) = (5 : Int32)), if_pos (rfl : (6 : Int32) = (6 : Int32)), if_neg (by decide : ¬ (6 : Int32) = (7 : Int32))]; exact hT⟩
  · show own_Go p e below _ (s₁.setTop (mkF m 0 #[oR this, oI (7 : Int32), oD (FP.l2d wv), .second, .unset] []))
    refine own_via (fun t kz => XS.aloadN X0.here hx rfl (hb hby d3_0) rfl rfl kz) ?_
    show own_Go p e below _ (s₁.setTop (mkF m 1 #[oR this, oI (7 : Int32), oD (FP.l2d wv), .second, .unset] [(.ref this)]))
    obtain ⟨T323, X323, e323, st323⟩ := getF X0 hx hZ hown (host := "") (Or.inl (own_w hw 13)) Via.refl e0 Fq0 (g := (mkF m 1 #[oR this, oI (7 : Int32), oD (FP.l2d wv), .second, .unset] [(.ref this)])) rfl rfl (hb hby d3_1)
    refine own_via st323 ?_
    refine own_via (fun t kz => XS.iloadN X323.here hx rfl (hb hby d3_4) rfl kz) ?_
    refine own_via (fun t kz => XS.iadd X323.here hx rfl (hb hby d3_5) rfl kz) ?_
    refine own_via (fun t kz => XS.istore X323.here hx rfl (hb hby d3_6) rfl (l' := #[oR this, oI (7 : Int32), oD (FP.l2d wv), .second, oI (15 : Int32)]) rfl kz) ?_
    show own_Go p e below _ (T323.setTop (mkF m 8 #[oR this, oI (7 : Int32), oD (FP.l2d wv), .second, oI (15 : Int32)] []))
    refine own_via (fun t kz => XS.aloadN X323.here hx rfl (hb hby d3_8) rfl rfl kz) ?_
    show own_Go p e below _ (T323.setTop (mkF m 9 #[oR this, oI (7 : Int32), oD (FP.l2d wv), .second, oI (15 : Int32)] [(.ref this)]))
    obtain ⟨T324, X324, e324, st324⟩ := getF X323 hx hZ hown (host := "") (Or.inl (own_w hw 16)) Via.refl e323 Fq1 (g := (mkF m 9 #[oR this, oI (7 : Int32), oD (FP.l2d wv), .second, oI (15 : Int32)] [(.ref this)])) rfl rfl (hb hby d3_9)
    refine own_via st324 ?_
    refine own_via (fun t kz => XS.iload X324.here hx rfl (hb hby d3_12) rfl kz) ?_
    refine own_via (fun t kz => XS.dloadN X324.here hx rfl (hb hby d3_14) rfl kz) ?_
    show own_Go p e below _ (T324.setTop (mkF m 15 #[oR this, oI (7 : Int32), oD (FP.l2d wv), .second, oI (15 : Int32)] [(.double (FP.l2d wv)), (.int (15 : Int32)), (.ref arr)]))
    obtain ⟨cl325, Ar325, kc325, Sz325, Nn325, Hs325, Gs325⟩ := id Vq
    obtain ⟨T325, h325, X325, e325, W325, st325⟩ := stD X324 hx hZ e324 Ar325 (j := (15 : Int32)) (inb_of Sz325 ⟨by decide, by decide⟩) (g := (mkF m 15 #[oR this, oI (7 : Int32), oD (FP.l2d wv), .second, oI (15 : Int32)] [(.double (FP.l2d wv)), (.int (15 : Int32)), (.ref arr)])) rfl rfl (hb hby d3_15)
    refine own_via st325 ?_
    have E326 := Eq.wr W325
    have F327 := Fq0.other W325 (Or.inl (own_neq (by omega)))
    have F328 := Fq1.other W325 (Or.inl (own_neq (by omega)))
    have Zs329 : n0 ≤ h325.size := Nat.le_trans Z0 (Keep.of_wr W325).1
    have N330 := Fr.snoc X325 N0 (show n0 ≤ arr by omega)
    have V331 : Arv Z h325 arr kA .double (16 : Int32) [(.double (FP.l2d (0 : Int64))), (.double (FP.l2d (((w0_ + w1_) + (w2_ + w3_)) + ((w4_ + w5_) + (w6_ + w7_))))), (.double (FP.l2d ((w0_ + w1_) + (w2_ + w3_)))), (.double (FP.l2d ((w4_ + w5_) + (w6_ + w7_)))), (.double (FP.l2d (w0_ + w1_))), (.double (FP.l2d (w2_ + w3_))), (.double (FP.l2d (w4_ + w5_))), (.double (FP.l2d (w6_ + w7_))), (.double (FP.l2d w0_)), (.double (FP.l2d w1_)), (.double (FP.l2d w2_)), (.double (FP.l2d w3_)), (.double (FP.l2d w4_)), (.double (FP.l2d w5_)), (.double (FP.l2d w6_)), (.double (FP.l2d wv))] (.double (FP.l2d (0 : Int64))) := Arv.set Ar325 kc325 Sz325 Nn325 Hs325 Gs325 rfl W325 15 (by first | decide | (show 15 < 16; decide)) (by first | decide | (show 15 < 16; decide))
    refine own_via (fun t kz => XS.iload X325.here hx rfl (hb hby d3_16) rfl kz) ?_
    refine own_via (fun t kz => XS.iconst X325.here hx rfl (hb hby d3_18) kz) ?_
    refine own_via (fun t kz => XS.idiv X325.here hx rfl (hb hby d3_19) rfl (by decide) kz) ?_
    show own_Go p e below _ (T325.setTop (mkF m 20 #[oR this, oI (7 : Int32), oD (FP.l2d wv), .second, oI (15 : Int32)] [(.int (7 : Int32))]))
    refine own_via (fun t kz => XS.istore X325.here hx rfl (hb hby d3_20) rfl (l' := #[oR this, oI (7 : Int32), oD (FP.l2d wv), .second, oI (7 : Int32)]) rfl kz) ?_
    refine own_via (fun t kz => XS.iload X325.here hx rfl (hb hby d3_22) rfl kz) ?_
    refine own_via (fun t kz => XS.iconst X325.here hx rfl (hb hby d3_24) kz) ?_
    show own_Go p e below _ (T325.setTop (mkF m 25 #[oR this, oI (7 : Int32), oD (FP.l2d wv), .second, oI (7 : Int32)] [(.int (1 : Int32)), (.int (7 : Int32))]))
    refine own_via (fun t kz => XS.icmpNo X325.here hx rfl (hb hby d3_25) rfl (flt (by decide : ¬ ((7 : Int32) < (1 : Int32)))).1 kz) ?_
    refine own_via (fun t kz => XS.aloadN X325.here hx rfl (hb hby d3_28) rfl rfl kz) ?_
    show own_Go p e below _ (T325.setTop (mkF m 29 #[oR this, oI (7 : Int32), oD (FP.l2d wv), .second, oI (7 : Int32)] [(.ref this)]))
    obtain ⟨T332, X332, e332, st332⟩ := getF X325 hx hZ hown (host := "") (Or.inl (own_w hw 16)) Via.refl e325 F328 (g := (mkF m 29 #[oR this, oI (7 : Int32), oD (FP.l2d wv), .second, oI (7 : Int32)] [(.ref this)])) rfl rfl (hb hby d3_29)
    refine own_via st332 ?_
    refine own_via (fun t kz => XS.iload X332.here hx rfl (hb hby d3_32) rfl kz) ?_
    refine own_via (fun t kz => XS.aloadN X332.here hx rfl (hb hby d3_34) rfl rfl kz) ?_
    show own_Go p e below _ (T332.setTop (mkF m 35 #[oR this, oI (7 : Int32), oD (FP.l2d wv), .second, oI (7 : Int32)] [(.ref this), (.int (7 : Int32)), (.ref arr)]))
    obtain ⟨T333, X333, e333, st333⟩ := getF X332 hx hZ hown (host := "") (Or.inl (own_w hw 16)) Via.refl e332 F328 (g := (mkF m 35 #[oR this, oI (7 : Int32), oD (FP.l2d wv), .second, oI (7 : Int32)] [(.ref this), (.int (7 : Int32)), (.ref arr)])) rfl rfl (hb hby d3_35)
    refine own_via st333 ?_
    refine own_via (fun t kz => XS.iconst X333.here hx rfl (hb hby d3_38) kz) ?_
    refine own_via (fun t kz => XS.iload X333.here hx rfl (hb hby d3_39) rfl kz) ?_
    refine own_via (fun t kz => XS.imul X333.here hx rfl (hb hby d3_41) rfl kz) ?_
    show own_Go p e below _ (T333.setTop (mkF m 42 #[oR this, oI (7 : Int32), oD (FP.l2d wv), .second, oI (7 : Int32)] [(.int (14 : Int32)), (.ref arr), (.int (7 : Int32)), (.ref arr)]))
    obtain ⟨cl334, Ar334, kc334, Sz334, Nn334, Hs334, Gs334⟩ := id V331
    have in334 := inb_of (j := (14 : Int32)) Sz334 ⟨by decide, by decide⟩
    have at334 : cl334.slots[((14 : Int32)).toNatClampNeg]? = some (.double (FP.l2d w6_)) := Hs334.at in334 rfl
    refine own_via (fun t kz => X333.daload hx (j := (14 : Int32)) (v := (.double (FP.l2d w6_))) (by rw [e333]; exact Ar334.1) (State.isArrayOf_alike hZ.alike Ar334.2.1) Ar334.2.2 in334 at334 (g := (mkF m 42 #[oR this, oI (7 : Int32), oD (FP.l2d wv), .second, oI (7 : Int32)] [(.int (14 : Int32)), (.ref arr), (.int (7 : Int32)), (.ref arr)])) rfl rfl (hb hby d3_42) t kz) ?_
    refine own_via (fun t kz => XS.aloadN X333.here hx rfl (hb hby d3_43) rfl rfl kz) ?_
    show own_Go p e below _ (T333.setTop (mkF m 44 #[oR this, oI (7 : Int32), oD (FP.l2d wv), .second, oI (7 : Int32)] [(.ref this), (.double (FP.l2d w6_)), (.int (7 : Int32)), (.ref arr)]))
    obtain ⟨T335, X335, e335, st335⟩ := getF X333 hx hZ hown (host := "") (Or.inl (own_w hw 16)) Via.refl e333 F328 (g := (mkF m 44 #[oR this, oI (7 : Int32), oD (FP.l2d wv), .second, oI (7 : Int32)] [(.ref this), (.double (FP.l2d w6_)), (.int (7 : Int32)), (.ref arr)])) rfl rfl (hb hby d3_44)
    refine own_via st335 ?_
    refine own_via (fun t kz => XS.iconst X335.here hx rfl (hb hby d3_47) kz) ?_
    refine own_via (fun t kz => XS.iload X335.here hx rfl (hb hby d3_48) rfl kz) ?_
    refine own_via (fun t kz => XS.imul X335.here hx rfl (hb hby d3_50) rfl kz) ?_
    show own_Go p e below _ (T335.setTop (mkF m 51 #[oR this, oI (7 : Int32), oD (FP.l2d wv), .second, oI (7 : Int32)] [(.int (14 : Int32)), (.ref arr), (.double (FP.l2d w6_)), (.int (7 : Int32)), (.ref arr)]))
    refine own_via (fun t kz => XS.iconst X335.here hx rfl (hb hby d3_51) kz) ?_
    refine own_via (fun t kz => XS.iadd X335.here hx rfl (hb hby d3_52) rfl kz) ?_
    show own_Go p e below _ (T335.setTop (mkF m 53 #[oR this, oI (7 : Int32), oD (FP.l2d wv), .second, oI (7 : Int32)] [(.int (15 : Int32)), (.ref arr), (.double (FP.l2d w6_)), (.int (7 : Int32)), (.ref arr)]))
    obtain ⟨cl336, Ar336, kc336, Sz336, Nn336, Hs336, Gs336⟩ := id V331
    have in336 := inb_of (j := (15 : Int32)) Sz336 ⟨by decide, by decide⟩
    have at336 : cl336.slots[((15 : Int32)).toNatClampNeg]? = some (.double (FP.l2d wv)) := Hs336.at in336 rfl
    refine own_via (fun t kz => X335.daload hx (j := (15 : Int32)) (v := (.double (FP.l2d wv))) (by rw [e335]; exact Ar336.1) (State.isArrayOf_alike hZ.alike Ar336.2.1) Ar336.2.2 in336 at336 (g := (mkF m 53 #[oR this, oI (7 : Int32), oD (FP.l2d wv), .second, oI (7 : Int32)] [(.int (15 : Int32)), (.ref arr), (.double (FP.l2d w6_)), (.int (7 : Int32)), (.ref arr)])) rfl rfl (hb hby d3_53) t kz) ?_
    show own_Go p e below _ (T335.setTop (mkF m 54 #[oR this, oI (7 : Int32), oD (FP.l2d wv), .second, oI (7 : Int32)] [(.double (FP.l2d wv)), (.double (FP.l2d w6_)), (.int (7 : Int32)), (.ref arr)]))
    refine own_via (fun t kz => XS.daddS X335.here hx rfl (hb hby d3_54) rfl (nn_w (dadd_w (own_b53 hb6 (by decide)) (own_b53 hbv (by decide)))) (dadd_w (own_b53 hb6 (by decide)) (own_b53 hbv (by decide))) kz) ?_
    show own_Go p e below _ (T335.setTop (mkF m 55 #[oR this, oI (7 : Int32), oD (FP.l2d wv), .second, oI (7 : Int32)] [(.double (FP.l2d (w6_ + wv))), (.int (7 : Int32)), (.ref arr)]))
    obtain ⟨cl337, Ar337, kc337, Sz337, Nn337, Hs337, Gs337⟩ := id V331
    obtain ⟨T337, h337, X337, e337, W337, st337⟩ := stD X335 hx hZ e335 Ar337 (j := (7 : Int32)) (inb_of Sz337 ⟨by decide, by decide⟩) (g := (mkF m 55 #[oR this, oI (7 : Int32), oD (FP.l2d wv), .second, oI (7 : Int32)] [(.double (FP.l2d (w6_ + wv))), (.int (7 : Int32)), (.ref arr)])) rfl rfl (hb hby d3_55)
    refine own_via st337 ?_
    have E338 := E326.wr W337
    have F339 := F327.other W337 (Or.inl (own_neq (by omega)))
    have F340 := F328.other W337 (Or.inl (own_neq (by omega)))
    have Zs341 : n0 ≤ h337.size := Nat.le_trans Zs329 (Keep.of_wr W337).1
    have N342 := Fr.snoc X337 N330 (show n0 ≤ arr by omega)
    have V343 : Arv Z h337 arr kA .double (16 : Int32) [(.double (FP.l2d (0 : Int64))), (.double (FP.l2d (((w0_ + w1_) + (w2_ + w3_)) + ((w4_ + w5_) + (w6_ + w7_))))), (.double (FP.l2d ((w0_ + w1_) + (w2_ + w3_)))), (.double (FP.l2d ((w4_ + w5_) + (w6_ + w7_)))), (.double (FP.l2d (w0_ + w1_))), (.double (FP.l2d (w2_ + w3_))), (.double (FP.l2d (w4_ + w5_))), (.double (FP.l2d (w6_ + wv))), (.double (FP.l2d w0_)), (.double (FP.l2d w1_)), (.double (FP.l2d w2_)), (.double (FP.l2d w3_)), (.double (FP.l2d w4_)), (.double (FP.l2d w5_)), (.double (FP.l2d w6_)), (.double (FP.l2d wv))] (.double (FP.l2d (0 : Int64))) := Arv.set Ar337 kc337 Sz337 Nn337 Hs337 Gs337 rfl W337 7 (by first | decide | (show 7 < 16; decide)) (by first | decide | (show 7 < 16; decide))
    refine own_via (fun t kz => XS.iload X337.here hx rfl (hb hby d3_56) rfl kz) ?_
    refine own_via (fun t kz => XS.iconst X337.here hx rfl (hb hby d3_58) kz) ?_
    refine own_via (fun t kz => XS.idiv X337.here hx rfl (hb hby d3_59) rfl (by decide) kz) ?_
    show own_Go p e below _ (T337.setTop (mkF m 60 #[oR this, oI (7 : Int32), oD (FP.l2d wv), .second, oI (7 : Int32)] [(.int (3 : Int32))]))
    refine own_via (fun t kz => XS.istore X337.here hx rfl (hb hby d3_60) rfl (l' := #[oR this, oI (7 : Int32), oD (FP.l2d wv), .second, oI (3 : Int32)]) rfl kz) ?_
    refine own_via (fun t kz => XS.goto X337.here hx rfl (pc0 := 62) (pc' := 22) rfl (hb hby d3_62) (by decide) (by decide) kz) ?_
    refine own_via (fun t kz => XS.iload X337.here hx rfl (hb hby d3_22) rfl kz) ?_
    refine own_via (fun t kz => XS.iconst X337.here hx rfl (hb hby d3_24) kz) ?_
    show own_Go p e below _ (T337.setTop (mkF m 25 #[oR this, oI (7 : Int32), oD (FP.l2d wv), .second, oI (3 : Int32)] [(.int (1 : Int32)), (.int (3 : Int32))]))
    refine own_via (fun t kz => XS.icmpNo X337.here hx rfl (hb hby d3_25) rfl (flt (by decide : ¬ ((3 : Int32) < (1 : Int32)))).1 kz) ?_
    refine own_via (fun t kz => XS.aloadN X337.here hx rfl (hb hby d3_28) rfl rfl kz) ?_
    show own_Go p e below _ (T337.setTop (mkF m 29 #[oR this, oI (7 : Int32), oD (FP.l2d wv), .second, oI (3 : Int32)] [(.ref this)]))
    obtain ⟨T344, X344, e344, st344⟩ := getF X337 hx hZ hown (host := "") (Or.inl (own_w hw 16)) Via.refl e337 F340 (g := (mkF m 29 #[oR this, oI (7 : Int32), oD (FP.l2d wv), .second, oI (3 : Int32)] [(.ref this)])) rfl rfl (hb hby d3_29)
    refine own_via st344 ?_
    refine own_via (fun t kz => XS.iload X344.here hx rfl (hb hby d3_32) rfl kz) ?_
    refine own_via (fun t kz => XS.aloadN X344.here hx rfl (hb hby d3_34) rfl rfl kz) ?_
    show own_Go p e below _ (T344.setTop (mkF m 35 #[oR this, oI (7 : Int32), oD (FP.l2d wv), .second, oI (3 : Int32)] [(.ref this), (.int (3 : Int32)), (.ref arr)]))
    obtain ⟨T345, X345, e345, st345⟩ := getF X344 hx hZ hown (host := "") (Or.inl (own_w hw 16)) Via.refl e344 F340 (g := (mkF m 35 #[oR this, oI (7 : Int32), oD (FP.l2d wv), .second, oI (3 : Int32)] [(.ref this), (.int (3 : Int32)), (.ref arr)])) rfl rfl (hb hby d3_35)
    refine own_via st345 ?_
    refine own_via (fun t kz => XS.iconst X345.here hx rfl (hb hby d3_38) kz) ?_
    refine own_via (fun t kz => XS.iload X345.here hx rfl (hb hby d3_39) rfl kz) ?_
    refine own_via (fun t kz => XS.imul X345.here hx rfl (hb hby d3_41) rfl kz) ?_
    show own_Go p e below _ (T345.setTop (mkF m 42 #[oR this, oI (7 : Int32), oD (FP.l2d wv), .second, oI (3 : Int32)] [(.int (6 : Int32)), (.ref arr), (.int (3 : Int32)), (.ref arr)]))
    obtain ⟨cl346, Ar346, kc346, Sz346, Nn346, Hs346, Gs346⟩ := id V343
    have in346 := inb_of (j := (6 : Int32)) Sz346 ⟨by decide, by decide⟩
    have at346 : cl346.slots[((6 : Int32)).toNatClampNeg]? = some (.double (FP.l2d (w4_ + w5_))) := Hs346.at in346 rfl
    refine own_via (fun t kz => X345.daload hx (j := (6 : Int32)) (v := (.double (FP.l2d (w4_ + w5_)))) (by rw [e345]; exact Ar346.1) (State.isArrayOf_alike hZ.alike Ar346.2.1) Ar346.2.2 in346 at346 (g := (mkF m 42 #[oR this, oI (7 : Int32), oD (FP.l2d wv), .second, oI (3 : Int32)] [(.int (6 : Int32)), (.ref arr), (.int (3 : Int32)), (.ref arr)])) rfl rfl (hb hby d3_42) t kz) ?_
    refine own_via (fun t kz => XS.aloadN X345.here hx rfl (hb hby d3_43) rfl rfl kz) ?_
    show own_Go p e below _ (T345.setTop (mkF m 44 #[oR this, oI (7 : Int32), oD (FP.l2d wv), .second, oI (3 : Int32)] [(.ref this), (.double (FP.l2d (w4_ + w5_))), (.int (3 : Int32)), (.ref arr)]))
    obtain ⟨T347, X347, e347, st347⟩ := getF X345 hx hZ hown (host := "") (Or.inl (own_w hw 16)) Via.refl e345 F340 (g := (mkF m 44 #[oR this, oI (7 : Int32), oD (FP.l2d wv), .second, oI (3 : Int32)] [(.ref this), (.double (FP.l2d (w4_ + w5_))), (.int (3 : Int32)), (.ref arr)])) rfl rfl (hb hby d3_44)
    refine own_via st347 ?_
    refine own_via (fun t kz => XS.iconst X347.here hx rfl (hb hby d3_47) kz) ?_
    refine own_via (fun t kz => XS.iload X347.here hx rfl (hb hby d3_48) rfl kz) ?_
    refine own_via (fun t kz => XS.imul X347.here hx rfl (hb hby d3_50) rfl kz) ?_
    show own_Go p e below _ (T347.setTop (mkF m 51 #[oR this, oI (7 : Int32), oD (FP.l2d wv), .second, oI (3 : Int32)] [(.int (6 : Int32)), (.ref arr), (.double (FP.l2d (w4_ + w5_))), (.int (3 : Int32)), (.ref arr)]))
    refine own_via (fun t kz => XS.iconst X347.here hx rfl (hb hby d3_51) kz) ?_
    refine own_via (fun t kz => XS.iadd X347.here hx rfl (hb hby d3_52) rfl kz) ?_
    show own_Go p e below _ (T347.setTop (mkF m 53 #[oR this, oI (7 : Int32), oD (FP.l2d wv), .second, oI (3 : Int32)] [(.int (7 : Int32)), (.ref arr), (.double (FP.l2d (w4_ + w5_))), (.int (3 : Int32)), (.ref arr)]))
    obtain ⟨cl348, Ar348, kc348, Sz348, Nn348, Hs348, Gs348⟩ := id V343
    have in348 := inb_of (j := (7 : Int32)) Sz348 ⟨by decide, by decide⟩
    have at348 : cl348.slots[((7 : Int32)).toNatClampNeg]? = some (.double (FP.l2d (w6_ + wv))) := Hs348.at in348 rfl
    refine own_via (fun t kz => X347.daload hx (j := (7 : Int32)) (v := (.double (FP.l2d (w6_ + wv)))) (by rw [e347]; exact Ar348.1) (State.isArrayOf_alike hZ.alike Ar348.2.1) Ar348.2.2 in348 at348 (g := (mkF m 53 #[oR this, oI (7 : Int32), oD (FP.l2d wv), .second, oI (3 : Int32)] [(.int (7 : Int32)), (.ref arr), (.double (FP.l2d (w4_ + w5_))), (.int (3 : Int32)), (.ref arr)])) rfl rfl (hb hby d3_53) t kz) ?_
    show own_Go p e below _ (T347.setTop (mkF m 54 #[oR this, oI (7 : Int32), oD (FP.l2d wv), .second, oI (3 : Int32)] [(.double (FP.l2d (w6_ + wv))), (.double (FP.l2d (w4_ + w5_))), (.int (3 : Int32)), (.ref arr)]))
    refine own_via (fun t kz => XS.daddS X347.here hx rfl (hb hby d3_54) rfl (nn_w (dadd_w (own_b53 (own_bda hb4 hb5 (by decide)) (by decide)) (own_b53 (own_bda hb6 hbv (by decide)) (by decide)))) (dadd_w (own_b53 (own_bda hb4 hb5 (by decide)) (by decide)) (own_b53 (own_bda hb6 hbv (by decide)) (by decide))) kz) ?_
    show own_Go p e below _ (T347.setTop (mkF m 55 #[oR this, oI (7 : Int32), oD (FP.l2d wv), .second, oI (3 : Int32)] [(.double (FP.l2d ((w4_ + w5_) + (w6_ + wv)))), (.int (3 : Int32)), (.ref arr)]))
    obtain ⟨cl349, Ar349, kc349, Sz349, Nn349, Hs349, Gs349⟩ := id V343
    obtain ⟨T349, h349, X349, e349, W349, st349⟩ := stD X347 hx hZ e347 Ar349 (j := (3 : Int32)) (inb_of Sz349 ⟨by decide, by decide⟩) (g := (mkF m 55 #[oR this, oI (7 : Int32), oD (FP.l2d wv), .second, oI (3 : Int32)] [(.double (FP.l2d ((w4_ + w5_) + (w6_ + wv)))), (.int (3 : Int32)), (.ref arr)])) rfl rfl (hb hby d3_55)
    refine own_via st349 ?_
    have E350 := E338.wr W349
    have F351 := F339.other W349 (Or.inl (own_neq (by omega)))
    have F352 := F340.other W349 (Or.inl (own_neq (by omega)))
    have Zs353 : n0 ≤ h349.size := Nat.le_trans Zs341 (Keep.of_wr W349).1
    have N354 := Fr.snoc X349 N342 (show n0 ≤ arr by omega)
    have V355 : Arv Z h349 arr kA .double (16 : Int32) [(.double (FP.l2d (0 : Int64))), (.double (FP.l2d (((w0_ + w1_) + (w2_ + w3_)) + ((w4_ + w5_) + (w6_ + w7_))))), (.double (FP.l2d ((w0_ + w1_) + (w2_ + w3_)))), (.double (FP.l2d ((w4_ + w5_) + (w6_ + wv)))), (.double (FP.l2d (w0_ + w1_))), (.double (FP.l2d (w2_ + w3_))), (.double (FP.l2d (w4_ + w5_))), (.double (FP.l2d (w6_ + wv))), (.double (FP.l2d w0_)), (.double (FP.l2d w1_)), (.double (FP.l2d w2_)), (.double (FP.l2d w3_)), (.double (FP.l2d w4_)), (.double (FP.l2d w5_)), (.double (FP.l2d w6_)), (.double (FP.l2d wv))] (.double (FP.l2d (0 : Int64))) := Arv.set Ar349 kc349 Sz349 Nn349 Hs349 Gs349 rfl W349 3 (by first | decide | (show 3 < 16; decide)) (by first | decide | (show 3 < 16; decide))
    refine own_via (fun t kz => XS.iload X349.here hx rfl (hb hby d3_56) rfl kz) ?_
    refine own_via (fun t kz => XS.iconst X349.here hx rfl (hb hby d3_58) kz) ?_
    refine own_via (fun t kz => XS.idiv X349.here hx rfl (hb hby d3_59) rfl (by decide) kz) ?_
    show own_Go p e below _ (T349.setTop (mkF m 60 #[oR this, oI (7 : Int32), oD (FP.l2d wv), .second, oI (3 : Int32)] [(.int (1 : Int32))]))
    refine own_via (fun t kz => XS.istore X349.here hx rfl (hb hby d3_60) rfl (l' := #[oR this, oI (7 : Int32), oD (FP.l2d wv), .second, oI (1 : Int32)]) rfl kz) ?_
    refine own_via (fun t kz => XS.goto X349.here hx rfl (pc0 := 62) (pc' := 22) rfl (hb hby d3_62) (by decide) (by decide) kz) ?_
    refine own_via (fun t kz => XS.iload X349.here hx rfl (hb hby d3_22) rfl kz) ?_
    refine own_via (fun t kz => XS.iconst X349.here hx rfl (hb hby d3_24) kz) ?_
    show own_Go p e below _ (T349.setTop (mkF m 25 #[oR this, oI (7 : Int32), oD (FP.l2d wv), .second, oI (1 : Int32)] [(.int (1 : Int32)), (.int (1 : Int32))]))
    refine own_via (fun t kz => XS.icmpNo X349.here hx rfl (hb hby d3_25) rfl (flt (by decide : ¬ ((1 : Int32) < (1 : Int32)))).1 kz) ?_
    refine own_via (fun t kz => XS.aloadN X349.here hx rfl (hb hby d3_28) rfl rfl kz) ?_
    show own_Go p e below _ (T349.setTop (mkF m 29 #[oR this, oI (7 : Int32), oD (FP.l2d wv), .second, oI (1 : Int32)] [(.ref this)]))
    obtain ⟨T356, X356, e356, st356⟩ := getF X349 hx hZ hown (host := "") (Or.inl (own_w hw 16)) Via.refl e349 F352 (g := (mkF m 29 #[oR this, oI (7 : Int32), oD (FP.l2d wv), .second, oI (1 : Int32)] [(.ref this)])) rfl rfl (hb hby d3_29)
    refine own_via st356 ?_
    refine own_via (fun t kz => XS.iload X356.here hx rfl (hb hby d3_32) rfl kz) ?_
    refine own_via (fun t kz => XS.aloadN X356.here hx rfl (hb hby d3_34) rfl rfl kz) ?_
    show own_Go p e below _ (T356.setTop (mkF m 35 #[oR this, oI (7 : Int32), oD (FP.l2d wv), .second, oI (1 : Int32)] [(.ref this), (.int (1 : Int32)), (.ref arr)]))
    obtain ⟨T357, X357, e357, st357⟩ := getF X356 hx hZ hown (host := "") (Or.inl (own_w hw 16)) Via.refl e356 F352 (g := (mkF m 35 #[oR this, oI (7 : Int32), oD (FP.l2d wv), .second, oI (1 : Int32)] [(.ref this), (.int (1 : Int32)), (.ref arr)])) rfl rfl (hb hby d3_35)
    refine own_via st357 ?_
    refine own_via (fun t kz => XS.iconst X357.here hx rfl (hb hby d3_38) kz) ?_
    refine own_via (fun t kz => XS.iload X357.here hx rfl (hb hby d3_39) rfl kz) ?_
    refine own_via (fun t kz => XS.imul X357.here hx rfl (hb hby d3_41) rfl kz) ?_
    show own_Go p e below _ (T357.setTop (mkF m 42 #[oR this, oI (7 : Int32), oD (FP.l2d wv), .second, oI (1 : Int32)] [(.int (2 : Int32)), (.ref arr), (.int (1 : Int32)), (.ref arr)]))
    obtain ⟨cl358, Ar358, kc358, Sz358, Nn358, Hs358, Gs358⟩ := id V355
    have in358 := inb_of (j := (2 : Int32)) Sz358 ⟨by decide, by decide⟩
    have at358 : cl358.slots[((2 : Int32)).toNatClampNeg]? = some (.double (FP.l2d ((w0_ + w1_) + (w2_ + w3_)))) := Hs358.at in358 rfl
    refine own_via (fun t kz => X357.daload hx (j := (2 : Int32)) (v := (.double (FP.l2d ((w0_ + w1_) + (w2_ + w3_))))) (by rw [e357]; exact Ar358.1) (State.isArrayOf_alike hZ.alike Ar358.2.1) Ar358.2.2 in358 at358 (g := (mkF m 42 #[oR this, oI (7 : Int32), oD (FP.l2d wv), .second, oI (1 : Int32)] [(.int (2 : Int32)), (.ref arr), (.int (1 : Int32)), (.ref arr)])) rfl rfl (hb hby d3_42) t kz) ?_
    refine own_via (fun t kz => XS.aloadN X357.here hx rfl (hb hby d3_43) rfl rfl kz) ?_
    show own_Go p e below _ (T357.setTop (mkF m 44 #[oR this, oI (7 : Int32), oD (FP.l2d wv), .second, oI (1 : Int32)] [(.ref this), (.double (FP.l2d ((w0_ + w1_) + (w2_ + w3_)))), (.int (1 : Int32)), (.ref arr)]))
    obtain ⟨T359, X359, e359, st359⟩ := getF X357 hx hZ hown (host := "") (Or.inl (own_w hw 16)) Via.refl e357 F352 (g := (mkF m 44 #[oR this, oI (7 : Int32), oD (FP.l2d wv), .second, oI (1 : Int32)] [(.ref this), (.double (FP.l2d ((w0_ + w1_) + (w2_ + w3_)))), (.int (1 : Int32)), (.ref arr)])) rfl rfl (hb hby d3_44)
    refine own_via st359 ?_
    refine own_via (fun t kz => XS.iconst X359.here hx rfl (hb hby d3_47) kz) ?_
    refine own_via (fun t kz => XS.iload X359.here hx rfl (hb hby d3_48) rfl kz) ?_
    refine own_via (fun t kz => XS.imul X359.here hx rfl (hb hby d3_50) rfl kz) ?_
    show own_Go p e below _ (T359.setTop (mkF m 51 #[oR this, oI (7 : Int32), oD (FP.l2d wv), .second, oI (1 : Int32)] [(.int (2 : Int32)), (.ref arr), (.double (FP.l2d ((w0_ + w1_) + (w2_ + w3_)))), (.int (1 : Int32)), (.ref arr)]))
    refine own_via (fun t kz => XS.iconst X359.here hx rfl (hb hby d3_51) kz) ?_
    refine own_via (fun t kz => XS.iadd X359.here hx rfl (hb hby d3_52) rfl kz) ?_
    show own_Go p e below _ (T359.setTop (mkF m 53 #[oR this, oI (7 : Int32), oD (FP.l2d wv), .second, oI (1 : Int32)] [(.int (3 : Int32)), (.ref arr), (.double (FP.l2d ((w0_ + w1_) + (w2_ + w3_)))), (.int (1 : Int32)), (.ref arr)]))
    obtain ⟨cl360, Ar360, kc360, Sz360, Nn360, Hs360, Gs360⟩ := id V355
    have in360 := inb_of (j := (3 : Int32)) Sz360 ⟨by decide, by decide⟩
    have at360 : cl360.slots[((3 : Int32)).toNatClampNeg]? = some (.double (FP.l2d ((w4_ + w5_) + (w6_ + wv)))) := Hs360.at in360 rfl
    refine own_via (fun t kz => X359.daload hx (j := (3 : Int32)) (v := (.double (FP.l2d ((w4_ + w5_) + (w6_ + wv))))) (by rw [e359]; exact Ar360.1) (State.isArrayOf_alike hZ.alike Ar360.2.1) Ar360.2.2 in360 at360 (g := (mkF m 53 #[oR this, oI (7 : Int32), oD (FP.l2d wv), .second, oI (1 : Int32)] [(.int (3 : Int32)), (.ref arr), (.double (FP.l2d ((w0_ + w1_) + (w2_ + w3_)))), (.int (1 : Int32)), (.ref arr)])) rfl rfl (hb hby d3_53) t kz) ?_
    show own_Go p e below _ (T359.setTop (mkF m 54 #[oR this, oI (7 : Int32), oD (FP.l2d wv), .second, oI (1 : Int32)] [(.double (FP.l2d ((w4_ + w5_) + (w6_ + wv)))), (.double (FP.l2d ((w0_ + w1_) + (w2_ + w3_)))), (.int (1 : Int32)), (.ref arr)]))
    refine own_via (fun t kz => XS.daddS X359.here hx rfl (hb hby d3_54) rfl (nn_w (dadd_w (own_b53 (own_bda (own_bda hb0 hb1 (by decide)) (own_bda hb2 hb3 (by decide)) (by decide)) (by decide)) (own_b53 (own_bda (own_bda hb4 hb5 (by decide)) (own_bda hb6 hbv (by decide)) (by decide)) (by decide)))) (dadd_w (own_b53 (own_bda (own_bda hb0 hb1 (by decide)) (own_bda hb2 hb3 (by decide)) (by decide)) (by decide)) (own_b53 (own_bda (own_bda hb4 hb5 (by decide)) (own_bda hb6 hbv (by decide)) (by decide)) (by decide))) kz) ?_
    show own_Go p e below _ (T359.setTop (mkF m 55 #[oR this, oI (7 : Int32), oD (FP.l2d wv), .second, oI (1 : Int32)] [(.double (FP.l2d (((w0_ + w1_) + (w2_ + w3_)) + ((w4_ + w5_) + (w6_ + wv))))), (.int (1 : Int32)), (.ref arr)]))
    obtain ⟨cl361, Ar361, kc361, Sz361, Nn361, Hs361, Gs361⟩ := id V355
    obtain ⟨T361, h361, X361, e361, W361, st361⟩ := stD X359 hx hZ e359 Ar361 (j := (1 : Int32)) (inb_of Sz361 ⟨by decide, by decide⟩) (g := (mkF m 55 #[oR this, oI (7 : Int32), oD (FP.l2d wv), .second, oI (1 : Int32)] [(.double (FP.l2d (((w0_ + w1_) + (w2_ + w3_)) + ((w4_ + w5_) + (w6_ + wv))))), (.int (1 : Int32)), (.ref arr)])) rfl rfl (hb hby d3_55)
    refine own_via st361 ?_
    have E362 := E350.wr W361
    have F363 := F351.other W361 (Or.inl (own_neq (by omega)))
    have F364 := F352.other W361 (Or.inl (own_neq (by omega)))
    have Zs365 : n0 ≤ h361.size := Nat.le_trans Zs353 (Keep.of_wr W361).1
    have N366 := Fr.snoc X361 N354 (show n0 ≤ arr by omega)
    have V367 : Arv Z h361 arr kA .double (16 : Int32) [(.double (FP.l2d (0 : Int64))), (.double (FP.l2d (((w0_ + w1_) + (w2_ + w3_)) + ((w4_ + w5_) + (w6_ + wv))))), (.double (FP.l2d ((w0_ + w1_) + (w2_ + w3_)))), (.double (FP.l2d ((w4_ + w5_) + (w6_ + wv)))), (.double (FP.l2d (w0_ + w1_))), (.double (FP.l2d (w2_ + w3_))), (.double (FP.l2d (w4_ + w5_))), (.double (FP.l2d (w6_ + wv))), (.double (FP.l2d w0_)), (.double (FP.l2d w1_)), (.double (FP.l2d w2_)), (.double (FP.l2d w3_)), (.double (FP.l2d w4_)), (.double (FP.l2d w5_)), (.double (FP.l2d w6_)), (.double (FP.l2d wv))] (.double (FP.l2d (0 : Int64))) := Arv.set Ar361 kc361 Sz361 Nn361 Hs361 Gs361 rfl W361 1 (by first | decide | (show 1 < 16; decide)) (by first | decide | (show 1 < 16; decide))
    refine own_via (fun t kz => XS.iload X361.here hx rfl (hb hby d3_56) rfl kz) ?_
    refine own_via (fun t kz => XS.iconst X361.here hx rfl (hb hby d3_58) kz) ?_
    refine own_via (fun t kz => XS.idiv X361.here hx rfl (hb hby d3_59) rfl (by decide) kz) ?_
    show own_Go p e below _ (T361.setTop (mkF m 60 #[oR this, oI (7 : Int32), oD (FP.l2d wv), .second, oI (1 : Int32)] [(.int (0 : Int32))]))
    refine own_via (fun t kz => XS.istore X361.here hx rfl (hb hby d3_60) rfl (l' := #[oR this, oI (7 : Int32), oD (FP.l2d wv), .second, oI (0 : Int32)]) rfl kz) ?_
    refine own_via (fun t kz => XS.goto X361.here hx rfl (pc0 := 62) (pc' := 22) rfl (hb hby d3_62) (by decide) (by decide) kz) ?_
    refine own_via (fun t kz => XS.iload X361.here hx rfl (hb hby d3_22) rfl kz) ?_
    refine own_via (fun t kz => XS.iconst X361.here hx rfl (hb hby d3_24) kz) ?_
    show own_Go p e below _ (T361.setTop (mkF m 25 #[oR this, oI (7 : Int32), oD (FP.l2d wv), .second, oI (0 : Int32)] [(.int (1 : Int32)), (.int (0 : Int32))]))
    refine own_via (fun t kz => XS.icmpYes X361.here hx rfl (pc0 := 25) (pc' := 65) rfl (hb hby d3_25) rfl (tlt (by decide : (0 : Int32) < (1 : Int32))).1 (by decide) (by decide) kz) ?_
    show own_Go p e below _ (T361.setTop (mkF m 65 #[oR this, oI (7 : Int32), oD (FP.l2d wv), .second, oI (0 : Int32)] []))
    have hT : own_W8 Z h361 n0 this w0_ w1_ w2_ w3_ w4_ w5_ w6_ wv := ⟨arr, kA, ⟨ch0, ch1⟩, E362, F363, F364, V367⟩
    obtain ⟨fs, hr, hrun, hended, hW, hsame⟩ := X361.leave (v := none) (fun _ => rfl)
    refine ⟨_, _, X361.returnOut hx Bd.returns (hb hby d3_65) hr, hrun, hended, _, _, rfl, ?_, ⟨_, rfl⟩, hW, hsame.mono (by decide) (by decide)⟩
    show Q3_8 Z this (7 : Int32) wv w0_ w1_ w2_ w3_ w4_ w5_ w6_ w7_ h0 n0 _ T361.heap _
    rw [e361]
    exact ⟨rfl, N366, Zs365, by rw [if_neg (by decide : ¬ (7 : Int32) = (0 : Int32)), if_neg (by decide : ¬ (7 : Int32) = (1 : Int32)), if_neg (by decide : ¬ (7 : Int32) = (2 : Int32)), if_neg (by decide : ¬ (7 : Int32) = (3 : Int32)), if_neg (by decide : ¬ (7 : Int32) = (4 : Int32)), if_neg (by decide : ¬ (7 : Int32) = (5 : Int32)), if_neg (by decide : ¬ (7 : Int32) = (6 : Int32)), if_pos (rfl : (7 : Int32) = (7 : Int32))]; exact hT⟩
theorem ef_rm4_8 (m : MethodId) (q0 : Addr) (q1 : Int32) : entryFrame m #[(.ref q0), (.int q1)] 2 = mkF m 0 #[oR q0, oI q1] [] := by first | (simp [entryFrame, mkF, argsToLocals, Value.category]; done) | rfl
def Q4_8 (Z : State) (this : Addr) (p1 : Int32) (w0_ : Int64) (w1_ : Int64) (w2_ : Int64) (w3_ : Int64) (w4_ : Int64) (w5_ : Int64) (w6_ : Int64) (w7_ : Int64) (h0 : Heap) (n0 : Nat) (v : Option Value) (h : Heap) (L : List Loc) : Prop := v = some (.double (FP.l2d (own_sel8 p1 w0_ w1_ w2_ w3_ w4_ w5_ w6_ w7_))) ∧ Fr n0 L ∧ h = h0
set_option maxRecDepth 65536 in
set_option maxHeartbeats 40000000 in
theorem rm4_8 (l : Launch) (Z : State) (a0 : Array Value) (hw : ∀ d ∈ tables_1, d.before a0 Z = true) (ws : List Jvm.Cond) (this : Addr) (p1 : Int32) (w0_ : Int64) (w1_ : Int64) (w2_ : Int64) (w3_ : Int64) (w4_ : Int64) (w5_ : Int64) (w6_ : Int64) (w7_ : Int64) (h0 : Heap) (n0 : Nat) (Z0 : n0 ≤ h0.size) (TC : own_W8 Z h0 n0 this w0_ w1_ w2_ w3_ w4_ w5_ w6_ w7_) (hp : p1 = 0 ∨ p1 = 1 ∨ p1 = 2 ∨ p1 = 3 ∨ p1 = 4 ∨ p1 = 5 ∨ p1 = 6 ∨ p1 = 7) :
    MetFree l (⟨"com/example/coupewise/coupewise/WeightedDraw", "weight", "(I)D"⟩ : MethodName) (head1 (Jvm.Cond.code (⟨"com/example/coupewise/coupewise/WeightedDraw", "weight", "(I)D"⟩ : MethodName) prog_11_method_4_code 2 (some .double) :: ws) ({ frames := 0, cells := 0, slots := 0, locals := 0 } : Room)) (fun a U => a = #[(.ref this), (.int p1)] ∧ Z.Warmed39 U.vm ∧ U.heap = h0) (fun _ _ _ _ _ => True) (fun _ U o U' => ∃ v L, o = .returned v ∧ Q4_8 Z this p1 w0_ w1_ w2_ w3_ w4_ w5_ w6_ w7_ h0 n0 v U'.heap L ∧ FrameEnd U o U' L ({ frames := 0, cells := 0, slots := 0, locals := 0 } : Room).cells ({ frames := 0, cells := 0, slots := 0, locals := 0 } : Room).slots) := by
  refine MetFree.of_bodySF (plainFor_of_name pn_1) hisR ?_
  intro p e s m args below meth c s₁ Bd hml0 hP hK
  obtain ⟨rfl, hZ, hh⟩ := hP
  have hx := Bd.exec
  have hby := Bd.bytes
  have hml : c.maxLocals = 2 := hml0
  have hown : s.vm.findClass "com/example/coupewise/coupewise/WeightedDraw" = some m.cls := findClass_of_methodNamed Bd.named
  have hnm := (name_of_methodNamed Bd.named Bd.method).1
  have X0 : Stand p l e ({ frames := 0, cells := 0, slots := 0, locals := 0 } : Room) s m #[(.ref this), (.int p1)] below meth c s₁ [] 0 0 := Stand.of_body Bd
  have e0 : s₁.heap = h0 := by rw [← hh, Bd.state]; rfl
  have N0 := Fr.nil n0
  refine own_start ?_
  refine own_via (fun t k => castTop (ef_rm4_8 m this p1) k) ?_
  obtain ⟨arr, kA, ⟨ch0, ch1⟩, Eq, Fq0, Fq1, Vq⟩ := TC
  rcases hp with rfl | rfl | rfl | rfl | rfl | rfl | rfl | rfl
  · show own_Go p e below _ (s₁.setTop (mkF m 0 #[oR this, oI (0 : Int32)] []))
    refine own_via (fun t kz => XS.aloadN X0.here hx rfl (hb hby d4_0) rfl rfl kz) ?_
    show own_Go p e below _ (s₁.setTop (mkF m 1 #[oR this, oI (0 : Int32)] [(.ref this)]))
    obtain ⟨T1, X1, e1, st1⟩ := getF X0 hx hZ hown (host := "") (Or.inl (own_w hw 16)) Via.refl e0 Fq1 (g := (mkF m 1 #[oR this, oI (0 : Int32)] [(.ref this)])) rfl rfl (hb hby d4_1)
    refine own_via st1 ?_
    refine own_via (fun t kz => XS.aloadN X1.here hx rfl (hb hby d4_4) rfl rfl kz) ?_
    show own_Go p e below _ (T1.setTop (mkF m 5 #[oR this, oI (0 : Int32)] [(.ref this), (.ref arr)]))
    obtain ⟨T2, X2, e2, st2⟩ := getF X1 hx hZ hown (host := "") (Or.inl (own_w hw 13)) Via.refl e1 Fq0 (g := (mkF m 5 #[oR this, oI (0 : Int32)] [(.ref this), (.ref arr)])) rfl rfl (hb hby d4_5)
    refine own_via st2 ?_
    refine own_via (fun t kz => XS.iloadN X2.here hx rfl (hb hby d4_8) rfl kz) ?_
    refine own_via (fun t kz => XS.iadd X2.here hx rfl (hb hby d4_9) rfl kz) ?_
    show own_Go p e below _ (T2.setTop (mkF m 10 #[oR this, oI (0 : Int32)] [(.int (8 : Int32)), (.ref arr)]))
    obtain ⟨cl3, Ar3, kc3, Sz3, Nn3, Hs3, Gs3⟩ := id Vq
    have in3 := inb_of (j := (8 : Int32)) Sz3 ⟨by decide, by decide⟩
    have at3 : cl3.slots[((8 : Int32)).toNatClampNeg]? = some (.double (FP.l2d w0_)) := Hs3.at in3 rfl
    refine own_via (fun t kz => X2.daload hx (j := (8 : Int32)) (v := (.double (FP.l2d w0_))) (by rw [e2]; exact Ar3.1) (State.isArrayOf_alike hZ.alike Ar3.2.1) Ar3.2.2 in3 at3 (g := (mkF m 10 #[oR this, oI (0 : Int32)] [(.int (8 : Int32)), (.ref arr)])) rfl rfl (hb hby d4_10) t kz) ?_
    show own_Go p e below _ (T2.setTop (mkF m 11 #[oR this, oI (0 : Int32)] [(.double (FP.l2d w0_))]))
    obtain ⟨fs, hr, hrun, hended, hW, hsame⟩ := X2.leave (v := some (.double (FP.l2d w0_))) (fun h => by rw [Bd.returns] at h; cases h)
    refine ⟨_, _, retOut X2 hx (i := .dreturn) Bd.returns rfl (Or.inr (Or.inr (Or.inl ⟨rfl, rfl, _, rfl⟩))) (hb hby d4_11) hr, hrun, hended, _, _, rfl, ?_, ⟨_, rfl⟩, hW, hsame.mono (by decide) (by decide)⟩
    show Q4_8 Z this (0 : Int32) w0_ w1_ w2_ w3_ w4_ w5_ w6_ w7_ h0 n0 _ T2.heap _
    rw [e2]
    exact ⟨by unfold own_sel8; rw [if_pos (rfl : (0 : Int32) = (0 : Int32))], N0, rfl⟩
  · show own_Go p e below _ (s₁.setTop (mkF m 0 #[oR this, oI (1 : Int32)] []))
    refine own_via (fun t kz => XS.aloadN X0.here hx rfl (hb hby d4_0) rfl rfl kz) ?_
    show own_Go p e below _ (s₁.setTop (mkF m 1 #[oR this, oI (1 : Int32)] [(.ref this)]))
    obtain ⟨T5, X5, e5, st5⟩ := getF X0 hx hZ hown (host := "") (Or.inl (own_w hw 16)) Via.refl e0 Fq1 (g := (mkF m 1 #[oR this, oI (1 : Int32)] [(.ref this)])) rfl rfl (hb hby d4_1)
    refine own_via st5 ?_
    refine own_via (fun t kz => XS.aloadN X5.here hx rfl (hb hby d4_4) rfl rfl kz) ?_
    show own_Go p e below _ (T5.setTop (mkF m 5 #[oR this, oI (1 : Int32)] [(.ref this), (.ref arr)]))
    obtain ⟨T6, X6, e6, st6⟩ := getF X5 hx hZ hown (host := "") (Or.inl (own_w hw 13)) Via.refl e5 Fq0 (g := (mkF m 5 #[oR this, oI (1 : Int32)] [(.ref this), (.ref arr)])) rfl rfl (hb hby d4_5)
    refine own_via st6 ?_
    refine own_via (fun t kz => XS.iloadN X6.here hx rfl (hb hby d4_8) rfl kz) ?_
    refine own_via (fun t kz => XS.iadd X6.here hx rfl (hb hby d4_9) rfl kz) ?_
    show own_Go p e below _ (T6.setTop (mkF m 10 #[oR this, oI (1 : Int32)] [(.int (9 : Int32)), (.ref arr)]))
    obtain ⟨cl7, Ar7, kc7, Sz7, Nn7, Hs7, Gs7⟩ := id Vq
    have in7 := inb_of (j := (9 : Int32)) Sz7 ⟨by decide, by decide⟩
    have at7 : cl7.slots[((9 : Int32)).toNatClampNeg]? = some (.double (FP.l2d w1_)) := Hs7.at in7 rfl
    refine own_via (fun t kz => X6.daload hx (j := (9 : Int32)) (v := (.double (FP.l2d w1_))) (by rw [e6]; exact Ar7.1) (State.isArrayOf_alike hZ.alike Ar7.2.1) Ar7.2.2 in7 at7 (g := (mkF m 10 #[oR this, oI (1 : Int32)] [(.int (9 : Int32)), (.ref arr)])) rfl rfl (hb hby d4_10) t kz) ?_
    show own_Go p e below _ (T6.setTop (mkF m 11 #[oR this, oI (1 : Int32)] [(.double (FP.l2d w1_))]))
    obtain ⟨fs, hr, hrun, hended, hW, hsame⟩ := X6.leave (v := some (.double (FP.l2d w1_))) (fun h => by rw [Bd.returns] at h; cases h)
    refine ⟨_, _, retOut X6 hx (i := .dreturn) Bd.returns rfl (Or.inr (Or.inr (Or.inl ⟨rfl, rfl, _, rfl⟩))) (hb hby d4_11) hr, hrun, hended, _, _, rfl, ?_, ⟨_, rfl⟩, hW, hsame.mono (by decide) (by decide)⟩
    show Q4_8 Z this (1 : Int32) w0_ w1_ w2_ w3_ w4_ w5_ w6_ w7_ h0 n0 _ T6.heap _
    rw [e6]
    exact ⟨by unfold own_sel8; rw [if_neg (by decide : ¬ (1 : Int32) = (0 : Int32)), if_pos (rfl : (1 : Int32) = (1 : Int32))], N0, rfl⟩
  · show own_Go p e below _ (s₁.setTop (mkF m 0 #[oR this, oI (2 : Int32)] []))
    refine own_via (fun t kz => XS.aloadN X0.here hx rfl (hb hby d4_0) rfl rfl kz) ?_
    show own_Go p e below _ (s₁.setTop (mkF m 1 #[oR this, oI (2 : Int32)] [(.ref this)]))
    obtain ⟨T9, X9, e9, st9⟩ := getF X0 hx hZ hown (host := "") (Or.inl (own_w hw 16)) Via.refl e0 Fq1 (g := (mkF m 1 #[oR this, oI (2 : Int32)] [(.ref this)])) rfl rfl (hb hby d4_1)
    refine own_via st9 ?_
    refine own_via (fun t kz => XS.aloadN X9.here hx rfl (hb hby d4_4) rfl rfl kz) ?_
    show own_Go p e below _ (T9.setTop (mkF m 5 #[oR this, oI (2 : Int32)] [(.ref this), (.ref arr)]))
    obtain ⟨T10, X10, e10, st10⟩ := getF X9 hx hZ hown (host := "") (Or.inl (own_w hw 13)) Via.refl e9 Fq0 (g := (mkF m 5 #[oR this, oI (2 : Int32)] [(.ref this), (.ref arr)])) rfl rfl (hb hby d4_5)
    refine own_via st10 ?_
    refine own_via (fun t kz => XS.iloadN X10.here hx rfl (hb hby d4_8) rfl kz) ?_
    refine own_via (fun t kz => XS.iadd X10.here hx rfl (hb hby d4_9) rfl kz) ?_
    show own_Go p e below _ (T10.setTop (mkF m 10 #[oR this, oI (2 : Int32)] [(.int (10 : Int32)), (.ref arr)]))
    obtain ⟨cl11, Ar11, kc11, Sz11, Nn11, Hs11, Gs11⟩ := id Vq
    have in11 := inb_of (j := (10 : Int32)) Sz11 ⟨by decide, by decide⟩
    have at11 : cl11.slots[((10 : Int32)).toNatClampNeg]? = some (.double (FP.l2d w2_)) := Hs11.at in11 rfl
    refine own_via (fun t kz => X10.daload hx (j := (10 : Int32)) (v := (.double (FP.l2d w2_))) (by rw [e10]; exact Ar11.1) (State.isArrayOf_alike hZ.alike Ar11.2.1) Ar11.2.2 in11 at11 (g := (mkF m 10 #[oR this, oI (2 : Int32)] [(.int (10 : Int32)), (.ref arr)])) rfl rfl (hb hby d4_10) t kz) ?_
    show own_Go p e below _ (T10.setTop (mkF m 11 #[oR this, oI (2 : Int32)] [(.double (FP.l2d w2_))]))
    obtain ⟨fs, hr, hrun, hended, hW, hsame⟩ := X10.leave (v := some (.double (FP.l2d w2_))) (fun h => by rw [Bd.returns] at h; cases h)
    refine ⟨_, _, retOut X10 hx (i := .dreturn) Bd.returns rfl (Or.inr (Or.inr (Or.inl ⟨rfl, rfl, _, rfl⟩))) (hb hby d4_11) hr, hrun, hended, _, _, rfl, ?_, ⟨_, rfl⟩, hW, hsame.mono (by decide) (by decide)⟩
    show Q4_8 Z this (2 : Int32) w0_ w1_ w2_ w3_ w4_ w5_ w6_ w7_ h0 n0 _ T10.heap _
    rw [e10]
    exact ⟨by unfold own_sel8; rw [if_neg (by decide : ¬ (2 : Int32) = (0 : Int32)), if_neg (by decide : ¬ (2 : Int32) = (1 : Int32)), if_pos (rfl : (2 : Int32) = (2 : Int32))], N0, rfl⟩
  · show own_Go p e below _ (s₁.setTop (mkF m 0 #[oR this, oI (3 : Int32)] []))
    refine own_via (fun t kz => XS.aloadN X0.here hx rfl (hb hby d4_0) rfl rfl kz) ?_
    show own_Go p e below _ (s₁.setTop (mkF m 1 #[oR this, oI (3 : Int32)] [(.ref this)]))
    obtain ⟨T13, X13, e13, st13⟩ := getF X0 hx hZ hown (host := "") (Or.inl (own_w hw 16)) Via.refl e0 Fq1 (g := (mkF m 1 #[oR this, oI (3 : Int32)] [(.ref this)])) rfl rfl (hb hby d4_1)
    refine own_via st13 ?_
    refine own_via (fun t kz => XS.aloadN X13.here hx rfl (hb hby d4_4) rfl rfl kz) ?_
    show own_Go p e below _ (T13.setTop (mkF m 5 #[oR this, oI (3 : Int32)] [(.ref this), (.ref arr)]))
    obtain ⟨T14, X14, e14, st14⟩ := getF X13 hx hZ hown (host := "") (Or.inl (own_w hw 13)) Via.refl e13 Fq0 (g := (mkF m 5 #[oR this, oI (3 : Int32)] [(.ref this), (.ref arr)])) rfl rfl (hb hby d4_5)
    refine own_via st14 ?_
    refine own_via (fun t kz => XS.iloadN X14.here hx rfl (hb hby d4_8) rfl kz) ?_
    refine own_via (fun t kz => XS.iadd X14.here hx rfl (hb hby d4_9) rfl kz) ?_
    show own_Go p e below _ (T14.setTop (mkF m 10 #[oR this, oI (3 : Int32)] [(.int (11 : Int32)), (.ref arr)]))
    obtain ⟨cl15, Ar15, kc15, Sz15, Nn15, Hs15, Gs15⟩ := id Vq
    have in15 := inb_of (j := (11 : Int32)) Sz15 ⟨by decide, by decide⟩
    have at15 : cl15.slots[((11 : Int32)).toNatClampNeg]? = some (.double (FP.l2d w3_)) := Hs15.at in15 rfl
    refine own_via (fun t kz => X14.daload hx (j := (11 : Int32)) (v := (.double (FP.l2d w3_))) (by rw [e14]; exact Ar15.1) (State.isArrayOf_alike hZ.alike Ar15.2.1) Ar15.2.2 in15 at15 (g := (mkF m 10 #[oR this, oI (3 : Int32)] [(.int (11 : Int32)), (.ref arr)])) rfl rfl (hb hby d4_10) t kz) ?_
    show own_Go p e below _ (T14.setTop (mkF m 11 #[oR this, oI (3 : Int32)] [(.double (FP.l2d w3_))]))
    obtain ⟨fs, hr, hrun, hended, hW, hsame⟩ := X14.leave (v := some (.double (FP.l2d w3_))) (fun h => by rw [Bd.returns] at h; cases h)
    refine ⟨_, _, retOut X14 hx (i := .dreturn) Bd.returns rfl (Or.inr (Or.inr (Or.inl ⟨rfl, rfl, _, rfl⟩))) (hb hby d4_11) hr, hrun, hended, _, _, rfl, ?_, ⟨_, rfl⟩, hW, hsame.mono (by decide) (by decide)⟩
    show Q4_8 Z this (3 : Int32) w0_ w1_ w2_ w3_ w4_ w5_ w6_ w7_ h0 n0 _ T14.heap _
    rw [e14]
    exact ⟨by unfold own_sel8; rw [if_neg (by decide : ¬ (3 : Int32) = (0 : Int32)), if_neg (by decide : ¬ (3 : Int32) = (1 : Int32)), if_neg (by decide : ¬ (3 : Int32) = (2 : Int32)), if_pos (rfl : (3 : Int32) = (3 : Int32))], N0, rfl⟩
  · show own_Go p e below _ (s₁.setTop (mkF m 0 #[oR this, oI (4 : Int32)] []))
    refine own_via (fun t kz => XS.aloadN X0.here hx rfl (hb hby d4_0) rfl rfl kz) ?_
    show own_Go p e below _ (s₁.setTop (mkF m 1 #[oR this, oI (4 : Int32)] [(.ref this)]))
    obtain ⟨T17, X17, e17, st17⟩ := getF X0 hx hZ hown (host := "") (Or.inl (own_w hw 16)) Via.refl e0 Fq1 (g := (mkF m 1 #[oR this, oI (4 : Int32)] [(.ref this)])) rfl rfl (hb hby d4_1)
    refine own_via st17 ?_
    refine own_via (fun t kz => XS.aloadN X17.here hx rfl (hb hby d4_4) rfl rfl kz) ?_
    show own_Go p e below _ (T17.setTop (mkF m 5 #[oR this, oI (4 : Int32)] [(.ref this), (.ref arr)]))
    obtain ⟨T18, X18, e18, st18⟩ := getF X17 hx hZ hown (host := "") (Or.inl (own_w hw 13)) Via.refl e17 Fq0 (g := (mkF m 5 #[oR this, oI (4 : Int32)] [(.ref this), (.ref arr)])) rfl rfl (hb hby d4_5)
    refine own_via st18 ?_
    refine own_via (fun t kz => XS.iloadN X18.here hx rfl (hb hby d4_8) rfl kz) ?_
    refine own_via (fun t kz => XS.iadd X18.here hx rfl (hb hby d4_9) rfl kz) ?_
    show own_Go p e below _ (T18.setTop (mkF m 10 #[oR this, oI (4 : Int32)] [(.int (12 : Int32)), (.ref arr)]))
    obtain ⟨cl19, Ar19, kc19, Sz19, Nn19, Hs19, Gs19⟩ := id Vq
    have in19 := inb_of (j := (12 : Int32)) Sz19 ⟨by decide, by decide⟩
    have at19 : cl19.slots[((12 : Int32)).toNatClampNeg]? = some (.double (FP.l2d w4_)) := Hs19.at in19 rfl
    refine own_via (fun t kz => X18.daload hx (j := (12 : Int32)) (v := (.double (FP.l2d w4_))) (by rw [e18]; exact Ar19.1) (State.isArrayOf_alike hZ.alike Ar19.2.1) Ar19.2.2 in19 at19 (g := (mkF m 10 #[oR this, oI (4 : Int32)] [(.int (12 : Int32)), (.ref arr)])) rfl rfl (hb hby d4_10) t kz) ?_
    show own_Go p e below _ (T18.setTop (mkF m 11 #[oR this, oI (4 : Int32)] [(.double (FP.l2d w4_))]))
    obtain ⟨fs, hr, hrun, hended, hW, hsame⟩ := X18.leave (v := some (.double (FP.l2d w4_))) (fun h => by rw [Bd.returns] at h; cases h)
    refine ⟨_, _, retOut X18 hx (i := .dreturn) Bd.returns rfl (Or.inr (Or.inr (Or.inl ⟨rfl, rfl, _, rfl⟩))) (hb hby d4_11) hr, hrun, hended, _, _, rfl, ?_, ⟨_, rfl⟩, hW, hsame.mono (by decide) (by decide)⟩
    show Q4_8 Z this (4 : Int32) w0_ w1_ w2_ w3_ w4_ w5_ w6_ w7_ h0 n0 _ T18.heap _
    rw [e18]
    exact ⟨by unfold own_sel8; rw [if_neg (by decide : ¬ (4 : Int32) = (0 : Int32)), if_neg (by decide : ¬ (4 : Int32) = (1 : Int32)), if_neg (by decide : ¬ (4 : Int32) = (2 : Int32)), if_neg (by decide : ¬ (4 : Int32) = (3 : Int32)), if_pos (rfl : (4 : Int32) = (4 : Int32))], N0, rfl⟩
  · show own_Go p e below _ (s₁.setTop (mkF m 0 #[oR this, oI (5 : Int32)] []))
    refine own_via (fun t kz => XS.aloadN X0.here hx rfl (hb hby d4_0) rfl rfl kz) ?_
    show own_Go p e below _ (s₁.setTop (mkF m 1 #[oR this, oI (5 : Int32)] [(.ref this)]))
    obtain ⟨T21, X21, e21, st21⟩ := getF X0 hx hZ hown (host := "") (Or.inl (own_w hw 16)) Via.refl e0 Fq1 (g := (mkF m 1 #[oR this, oI (5 : Int32)] [(.ref this)])) rfl rfl (hb hby d4_1)
    refine own_via st21 ?_
    refine own_via (fun t kz => XS.aloadN X21.here hx rfl (hb hby d4_4) rfl rfl kz) ?_
    show own_Go p e below _ (T21.setTop (mkF m 5 #[oR this, oI (5 : Int32)] [(.ref this), (.ref arr)]))
    obtain ⟨T22, X22, e22, st22⟩ := getF X21 hx hZ hown (host := "") (Or.inl (own_w hw 13)) Via.refl e21 Fq0 (g := (mkF m 5 #[oR this, oI (5 : Int32)] [(.ref this), (.ref arr)])) rfl rfl (hb hby d4_5)
    refine own_via st22 ?_
    refine own_via (fun t kz => XS.iloadN X22.here hx rfl (hb hby d4_8) rfl kz) ?_
    refine own_via (fun t kz => XS.iadd X22.here hx rfl (hb hby d4_9) rfl kz) ?_
    show own_Go p e below _ (T22.setTop (mkF m 10 #[oR this, oI (5 : Int32)] [(.int (13 : Int32)), (.ref arr)]))
    obtain ⟨cl23, Ar23, kc23, Sz23, Nn23, Hs23, Gs23⟩ := id Vq
    have in23 := inb_of (j := (13 : Int32)) Sz23 ⟨by decide, by decide⟩
    have at23 : cl23.slots[((13 : Int32)).toNatClampNeg]? = some (.double (FP.l2d w5_)) := Hs23.at in23 rfl
    refine own_via (fun t kz => X22.daload hx (j := (13 : Int32)) (v := (.double (FP.l2d w5_))) (by rw [e22]; exact Ar23.1) (State.isArrayOf_alike hZ.alike Ar23.2.1) Ar23.2.2 in23 at23 (g := (mkF m 10 #[oR this, oI (5 : Int32)] [(.int (13 : Int32)), (.ref arr)])) rfl rfl (hb hby d4_10) t kz) ?_
    show own_Go p e below _ (T22.setTop (mkF m 11 #[oR this, oI (5 : Int32)] [(.double (FP.l2d w5_))]))
    obtain ⟨fs, hr, hrun, hended, hW, hsame⟩ := X22.leave (v := some (.double (FP.l2d w5_))) (fun h => by rw [Bd.returns] at h; cases h)
    refine ⟨_, _, retOut X22 hx (i := .dreturn) Bd.returns rfl (Or.inr (Or.inr (Or.inl ⟨rfl, rfl, _, rfl⟩))) (hb hby d4_11) hr, hrun, hended, _, _, rfl, ?_, ⟨_, rfl⟩, hW, hsame.mono (by decide) (by decide)⟩
    show Q4_8 Z this (5 : Int32) w0_ w1_ w2_ w3_ w4_ w5_ w6_ w7_ h0 n0 _ T22.heap _
    rw [e22]
    exact ⟨by unfold own_sel8; rw [if_neg (by decide : ¬ (5 : Int32) = (0 : Int32)), if_neg (by decide : ¬ (5 : Int32) = (1 : Int32)), if_neg (by decide : ¬ (5 : Int32) = (2 : Int32)), if_neg (by decide : ¬ (5 : Int32) = (3 : Int32)), if_neg (by decide : ¬ (5 : Int32) = (4 : Int32)), if_pos (rfl : (5 : Int32) = (5 : Int32))], N0, rfl⟩
  · show own_Go p e below _ (s₁.setTop (mkF m 0 #[oR this, oI (6 : Int32)] []))
    refine own_via (fun t kz => XS.aloadN X0.here hx rfl (hb hby d4_0) rfl rfl kz) ?_
    show own_Go p e below _ (s₁.setTop (mkF m 1 #[oR this, oI (6 : Int32)] [(.ref this)]))
    obtain ⟨T25, X25, e25, st25⟩ := getF X0 hx hZ hown (host := "") (Or.inl (own_w hw 16)) Via.refl e0 Fq1 (g := (mkF m 1 #[oR this, oI (6 : Int32)] [(.ref this)])) rfl rfl (hb hby d4_1)
    refine own_via st25 ?_
    refine own_via (fun t kz => XS.aloadN X25.here hx rfl (hb hby d4_4) rfl rfl kz) ?_
    show own_Go p e below _ (T25.setTop (mkF m 5 #[oR this, oI (6 : Int32)] [(.ref this), (.ref arr)]))
    obtain ⟨T26, X26, e26, st26⟩ := getF X25 hx hZ hown (host := "") (Or.inl (own_w hw 13)) Via.refl e25 Fq0 (g := (mkF m 5 #[oR this, oI (6 : Int32)] [(.ref this), (.ref arr)])) rfl rfl (hb hby d4_5)
    refine own_via st26 ?_
    refine own_via (fun t kz => XS.iloadN X26.here hx rfl (hb hby d4_8) rfl kz) ?_
    refine own_via (fun t kz => XS.iadd X26.here hx rfl (hb hby d4_9) rfl kz) ?_
    show own_Go p e below _ (T26.setTop (mkF m 10 #[oR this, oI (6 : Int32)] [(.int (14 : Int32)), (.ref arr)]))
    obtain ⟨cl27, Ar27, kc27, Sz27, Nn27, Hs27, Gs27⟩ := id Vq
    have in27 := inb_of (j := (14 : Int32)) Sz27 ⟨by decide, by decide⟩
    have at27 : cl27.slots[((14 : Int32)).toNatClampNeg]? = some (.double (FP.l2d w6_)) := Hs27.at in27 rfl
    refine own_via (fun t kz => X26.daload hx (j := (14 : Int32)) (v := (.double (FP.l2d w6_))) (by rw [e26]; exact Ar27.1) (State.isArrayOf_alike hZ.alike Ar27.2.1) Ar27.2.2 in27 at27 (g := (mkF m 10 #[oR this, oI (6 : Int32)] [(.int (14 : Int32)), (.ref arr)])) rfl rfl (hb hby d4_10) t kz) ?_
    show own_Go p e below _ (T26.setTop (mkF m 11 #[oR this, oI (6 : Int32)] [(.double (FP.l2d w6_))]))
    obtain ⟨fs, hr, hrun, hended, hW, hsame⟩ := X26.leave (v := some (.double (FP.l2d w6_))) (fun h => by rw [Bd.returns] at h; cases h)
    refine ⟨_, _, retOut X26 hx (i := .dreturn) Bd.returns rfl (Or.inr (Or.inr (Or.inl ⟨rfl, rfl, _, rfl⟩))) (hb hby d4_11) hr, hrun, hended, _, _, rfl, ?_, ⟨_, rfl⟩, hW, hsame.mono (by decide) (by decide)⟩
    show Q4_8 Z this (6 : Int32) w0_ w1_ w2_ w3_ w4_ w5_ w6_ w7_ h0 n0 _ T26.heap _
    rw [e26]
    exact ⟨by unfold own_sel8; rw [if_neg (by decide : ¬ (6 : Int32) = (0 : Int32)), if_neg (by decide : ¬ (6 : Int32) = (1 : Int32)), if_neg (by decide : ¬ (6 : Int32) = (2 : Int32)), if_neg (by decide : ¬ (6 : Int32) = (3 : Int32)), if_neg (by decide : ¬ (6 : Int32) = (4 : Int32)), if_neg (by decide : ¬ (6 : Int32) = (5 : Int32)), if_pos (rfl : (6 : Int32) = (6 : Int32))], N0, rfl⟩
  · show own_Go p e below _ (s₁.setTop (mkF m 0 #[oR this, oI (7 : Int32)] []))
    refine own_via (fun t kz => XS.aloadN X0.here hx rfl (hb hby d4_0) rfl rfl kz) ?_
    show own_Go p e below _ (s₁.setTop (mkF m 1 #[oR this, oI (7 : Int32)] [(.ref this)]))
    obtain ⟨T29, X29, e29, st29⟩ := getF X0 hx hZ hown (host := "") (Or.inl (own_w hw 16)) Via.refl e0 Fq1 (g := (mkF m 1 #[oR this, oI (7 : Int32)] [(.ref this)])) rfl rfl (hb hby d4_1)
    refine own_via st29 ?_
    refine own_via (fun t kz => XS.aloadN X29.here hx rfl (hb hby d4_4) rfl rfl kz) ?_
    show own_Go p e below _ (T29.setTop (mkF m 5 #[oR this, oI (7 : Int32)] [(.ref this), (.ref arr)]))
    obtain ⟨T30, X30, e30, st30⟩ := getF X29 hx hZ hown (host := "") (Or.inl (own_w hw 13)) Via.refl e29 Fq0 (g := (mkF m 5 #[oR this, oI (7 : Int32)] [(.ref this), (.ref arr)])) rfl rfl (hb hby d4_5)
    refine own_via st30 ?_
    refine own_via (fun t kz => XS.iloadN X30.here hx rfl (hb hby d4_8) rfl kz) ?_
    refine own_via (fun t kz => XS.iadd X30.here hx rfl (hb hby d4_9) rfl kz) ?_
    show own_Go p e below _ (T30.setTop (mkF m 10 #[oR this, oI (7 : Int32)] [(.int (15 : Int32)), (.ref arr)]))
    obtain ⟨cl31, Ar31, kc31, Sz31, Nn31, Hs31, Gs31⟩ := id Vq
    have in31 := inb_of (j := (15 : Int32)) Sz31 ⟨by decide, by decide⟩
    have at31 : cl31.slots[((15 : Int32)).toNatClampNeg]? = some (.double (FP.l2d w7_)) := Hs31.at in31 rfl
    refine own_via (fun t kz => X30.daload hx (j := (15 : Int32)) (v := (.double (FP.l2d w7_))) (by rw [e30]; exact Ar31.1) (State.isArrayOf_alike hZ.alike Ar31.2.1) Ar31.2.2 in31 at31 (g := (mkF m 10 #[oR this, oI (7 : Int32)] [(.int (15 : Int32)), (.ref arr)])) rfl rfl (hb hby d4_10) t kz) ?_
    show own_Go p e below _ (T30.setTop (mkF m 11 #[oR this, oI (7 : Int32)] [(.double (FP.l2d w7_))]))
    obtain ⟨fs, hr, hrun, hended, hW, hsame⟩ := X30.leave (v := some (.double (FP.l2d w7_))) (fun h => by rw [Bd.returns] at h; cases h)
    refine ⟨_, _, retOut X30 hx (i := .dreturn) Bd.returns rfl (Or.inr (Or.inr (Or.inl ⟨rfl, rfl, _, rfl⟩))) (hb hby d4_11) hr, hrun, hended, _, _, rfl, ?_, ⟨_, rfl⟩, hW, hsame.mono (by decide) (by decide)⟩
    show Q4_8 Z this (7 : Int32) w0_ w1_ w2_ w3_ w4_ w5_ w6_ w7_ h0 n0 _ T30.heap _
    rw [e30]
    exact ⟨by unfold own_sel8; rw [if_neg (by decide : ¬ (7 : Int32) = (0 : Int32)), if_neg (by decide : ¬ (7 : Int32) = (1 : Int32)), if_neg (by decide : ¬ (7 : Int32) = (2 : Int32)), if_neg (by decide : ¬ (7 : Int32) = (3 : Int32)), if_neg (by decide : ¬ (7 : Int32) = (4 : Int32)), if_neg (by decide : ¬ (7 : Int32) = (5 : Int32)), if_neg (by decide : ¬ (7 : Int32) = (6 : Int32))], N0, rfl⟩
theorem ef_rm6_8 (m : MethodId) (q0 : Addr) : entryFrame m #[(.ref q0)] 1 = mkF m 0 #[oR q0] [] := by first | (simp [entryFrame, mkF, argsToLocals, Value.category]; done) | rfl
def Q6_8 (Z : State) (this : Addr) (w0_ : Int64) (w1_ : Int64) (w2_ : Int64) (w3_ : Int64) (w4_ : Int64) (w5_ : Int64) (w6_ : Int64) (w7_ : Int64) (h0 : Heap) (n0 : Nat) (v : Option Value) (h : Heap) (L : List Loc) : Prop := v = some (.double (FP.l2d (((w0_ + w1_) + (w2_ + w3_)) + ((w4_ + w5_) + (w6_ + w7_))))) ∧ Fr n0 L ∧ h = h0
set_option maxRecDepth 65536 in
set_option maxHeartbeats 40000000 in
theorem rm6_8 (l : Launch) (Z : State) (a0 : Array Value) (hw : ∀ d ∈ tables_1, d.before a0 Z = true) (ws : List Jvm.Cond) (this : Addr) (w0_ : Int64) (w1_ : Int64) (w2_ : Int64) (w3_ : Int64) (w4_ : Int64) (w5_ : Int64) (w6_ : Int64) (w7_ : Int64) (h0 : Heap) (n0 : Nat) (Z0 : n0 ≤ h0.size) (TC : own_W8 Z h0 n0 this w0_ w1_ w2_ w3_ w4_ w5_ w6_ w7_) :
    MetFree l (⟨"com/example/coupewise/coupewise/WeightedDraw", "total", "()D"⟩ : MethodName) (head1 (Jvm.Cond.code (⟨"com/example/coupewise/coupewise/WeightedDraw", "total", "()D"⟩ : MethodName) prog_11_method_5_code 1 (some .double) :: ws) ({ frames := 0, cells := 0, slots := 0, locals := 0 } : Room)) (fun a U => a = #[(.ref this)] ∧ Z.Warmed39 U.vm ∧ U.heap = h0) (fun _ _ _ _ _ => True) (fun _ U o U' => ∃ v L, o = .returned v ∧ Q6_8 Z this w0_ w1_ w2_ w3_ w4_ w5_ w6_ w7_ h0 n0 v U'.heap L ∧ FrameEnd U o U' L ({ frames := 0, cells := 0, slots := 0, locals := 0 } : Room).cells ({ frames := 0, cells := 0, slots := 0, locals := 0 } : Room).slots) := by
  refine MetFree.of_bodySF (plainFor_of_name pn_1) hisR ?_
  intro p e s m args below meth c s₁ Bd hml0 hP hK
  obtain ⟨rfl, hZ, hh⟩ := hP
  have hx := Bd.exec
  have hby := Bd.bytes
  have hml : c.maxLocals = 1 := hml0
  have hown : s.vm.findClass "com/example/coupewise/coupewise/WeightedDraw" = some m.cls := findClass_of_methodNamed Bd.named
  have hnm := (name_of_methodNamed Bd.named Bd.method).1
  have X0 : Stand p l e ({ frames := 0, cells := 0, slots := 0, locals := 0 } : Room) s m #[(.ref this)] below meth c s₁ [] 0 0 := Stand.of_body Bd
  have e0 : s₁.heap = h0 := by rw [← hh, Bd.state]; rfl
  have N0 := Fr.nil n0
  refine own_start ?_
  refine own_via (fun t k => castTop (ef_rm6_8 m this) k) ?_
  obtain ⟨arr, kA, ⟨ch0, ch1⟩, Eq, Fq0, Fq1, Vq⟩ := TC
  show own_Go p e below _ (s₁.setTop (mkF m 0 #[oR this] []))
  refine own_via (fun t kz => XS.aloadN X0.here hx rfl (hb hby d6_0) rfl rfl kz) ?_
  show own_Go p e below _ (s₁.setTop (mkF m 1 #[oR this] [(.ref this)]))
  obtain ⟨T1, X1, e1, st1⟩ := getF X0 hx hZ hown (host := "") (Or.inl (own_w hw 16)) Via.refl e0 Fq1 (g := (mkF m 1 #[oR this] [(.ref this)])) rfl rfl (hb hby d6_1)
  refine own_via st1 ?_
  refine own_via (fun t kz => XS.iconst X1.here hx rfl (hb hby d6_4) kz) ?_
  show own_Go p e below _ (T1.setTop (mkF m 5 #[oR this] [(.int (1 : Int32)), (.ref arr)]))
  obtain ⟨cl2, Ar2, kc2, Sz2, Nn2, Hs2, Gs2⟩ := id Vq
  have in2 := inb_of (j := (1 : Int32)) Sz2 ⟨by decide, by decide⟩
  have at2 : cl2.slots[((1 : Int32)).toNatClampNeg]? = some (.double (FP.l2d (((w0_ + w1_) + (w2_ + w3_)) + ((w4_ + w5_) + (w6_ + w7_))))) := Hs2.at in2 rfl
  refine own_via (fun t kz => X1.daload hx (j := (1 : Int32)) (v := (.double (FP.l2d (((w0_ + w1_) + (w2_ + w3_)) + ((w4_ + w5_) + (w6_ + w7_)))))) (by rw [e1]; exact Ar2.1) (State.isArrayOf_alike hZ.alike Ar2.2.1) Ar2.2.2 in2 at2 (g := (mkF m 5 #[oR this] [(.int (1 : Int32)), (.ref arr)])) rfl rfl (hb hby d6_5) t kz) ?_
  show own_Go p e below _ (T1.setTop (mkF m 6 #[oR this] [(.double (FP.l2d (((w0_ + w1_) + (w2_ + w3_)) + ((w4_ + w5_) + (w6_ + w7_)))))]))
  obtain ⟨fs, hr, hrun, hended, hW, hsame⟩ := X1.leave (v := some (.double (FP.l2d (((w0_ + w1_) + (w2_ + w3_)) + ((w4_ + w5_) + (w6_ + w7_)))))) (fun h => by rw [Bd.returns] at h; cases h)
  refine ⟨_, _, retOut X1 hx (i := .dreturn) Bd.returns rfl (Or.inr (Or.inr (Or.inl ⟨rfl, rfl, _, rfl⟩))) (hb hby d6_6) hr, hrun, hended, _, _, rfl, ?_, ⟨_, rfl⟩, hW, hsame.mono (by decide) (by decide)⟩
  show Q6_8 Z this w0_ w1_ w2_ w3_ w4_ w5_ w6_ w7_ h0 n0 _ T1.heap _
  rw [e1]
  exact ⟨rfl, N0, rfl⟩
def f5 (p0 : Int32) (p1 : Int32) (p2 : Int32) (p3 : Int32) (p4 : UInt64) (p5 : UInt64) (p6 : UInt64) : UInt64 := (if p0 = p3 then p6 else (if p0 = p2 then p5 else (if p0 = p1 then p4 else (FP.l2d (0 : Int64)))))
theorem d5_0 : decode method_3_code 0 = .ok (.iload_n 0, 1) := by decide +kernel
theorem d5_1 : decode method_3_code 1 = .ok (.iload_n 3, 1) := by decide +kernel
theorem d5_2 : decode method_3_code 2 = .ok (.if_icmp .ne 6, 3) := by decide +kernel
theorem d5_5 : decode method_3_code 5 = .ok (.dload 8, 2) := by decide +kernel
theorem d5_7 : decode method_3_code 7 = .ok (.dreturn, 1) := by decide +kernel
theorem d5_8 : decode method_3_code 8 = .ok (.iload_n 0, 1) := by decide +kernel
theorem d5_9 : decode method_3_code 9 = .ok (.iload_n 2, 1) := by decide +kernel
theorem d5_10 : decode method_3_code 10 = .ok (.if_icmp .ne 6, 3) := by decide +kernel
theorem d5_13 : decode method_3_code 13 = .ok (.dload 6, 2) := by decide +kernel
theorem d5_15 : decode method_3_code 15 = .ok (.dreturn, 1) := by decide +kernel
theorem d5_16 : decode method_3_code 16 = .ok (.iload_n 0, 1) := by decide +kernel
theorem d5_17 : decode method_3_code 17 = .ok (.iload_n 1, 1) := by decide +kernel
theorem d5_18 : decode method_3_code 18 = .ok (.if_icmp .ne 6, 3) := by decide +kernel
theorem d5_21 : decode method_3_code 21 = .ok (.dload 4, 2) := by decide +kernel
theorem d5_23 : decode method_3_code 23 = .ok (.dreturn, 1) := by decide +kernel
theorem d5_24 : decode method_3_code 24 = .ok (.dconst 0, 1) := by decide +kernel
theorem d5_25 : decode method_3_code 25 = .ok (.dreturn, 1) := by decide +kernel
theorem pn_5 : plainName "com/example/coupewise/coupewise/WeightedDrawSetPinLaw" = true := by first | (simp [plainName, overriddenIn]; done) | decide +kernel
theorem ef_rm5 (m : MethodId) (q0 : Int32) (q1 : Int32) (q2 : Int32) (q3 : Int32) (q4 : UInt64) (q5 : UInt64) (q6 : UInt64) : entryFrame m #[(.int q0), (.int q1), (.int q2), (.int q3), (.double q4), (.double q5), (.double q6)] 10 = mkF m 0 #[oI q0, oI q1, oI q2, oI q3, oD q4, .second, oD q5, .second, oD q6, .second] [] := by first | (simp [entryFrame, mkF, argsToLocals, Value.category]; done) | rfl
def Q5 (Z : State) (p0 : Int32) (p1 : Int32) (p2 : Int32) (p3 : Int32) (p4 : UInt64) (p5 : UInt64) (p6 : UInt64) (r : UInt64) (h0 : Heap) (n0 : Nat) (v : Option Value) (h : Heap) (L : List Loc) : Prop := v = some (.double r) ∧ Fr n0 L ∧ h = h0
set_option maxRecDepth 65536 in
set_option maxHeartbeats 40000000 in
theorem rm5 (l : Launch) (Z : State) (a0 : Array Value) (hw : ∀ d ∈ tables_1, d.before a0 Z = true) (ws : List Jvm.Cond) (p0 : Int32) (p1 : Int32) (p2 : Int32) (p3 : Int32) (p4 : UInt64) (p5 : UInt64) (p6 : UInt64) (r : UInt64) (h0 : Heap) (n0 : Nat) (Z0 : n0 ≤ h0.size) (hr0 : (f5 p0 p1 p2 p3 p4 p5 p6) = r) :
    MetFree l (⟨"com/example/coupewise/coupewise/WeightedDrawSetPinLaw", "expected", "(IIIIDDD)D"⟩ : MethodName) (head1 (Jvm.Cond.code (⟨"com/example/coupewise/coupewise/WeightedDrawSetPinLaw", "expected", "(IIIIDDD)D"⟩ : MethodName) method_3_code 10 (some .double) :: ws) ({ frames := 0, cells := 0, slots := 0, locals := 0 } : Room)) (fun a U => a = #[(.int p0), (.int p1), (.int p2), (.int p3), (.double p4), (.double p5), (.double p6)] ∧ Z.Warmed39 U.vm ∧ U.heap = h0) (fun _ _ _ _ _ => True) (fun _ U o U' => ∃ v L, o = .returned v ∧ Q5 Z p0 p1 p2 p3 p4 p5 p6 r h0 n0 v U'.heap L ∧ FrameEnd U o U' L ({ frames := 0, cells := 0, slots := 0, locals := 0 } : Room).cells ({ frames := 0, cells := 0, slots := 0, locals := 0 } : Room).slots) := by
  refine MetFree.of_bodySF (plainFor_of_name pn_5) hisR ?_
  intro p e s m args below meth c s₁ Bd hml0 hP hK
  obtain ⟨rfl, hZ, hh⟩ := hP
  have hx := Bd.exec
  have hby := Bd.bytes
  have hml : c.maxLocals = 10 := hml0
  have hown : s.vm.findClass "com/example/coupewise/coupewise/WeightedDrawSetPinLaw" = some m.cls := findClass_of_methodNamed Bd.named
  have hnm := (name_of_methodNamed Bd.named Bd.method).1
  have X0 : Stand p l e ({ frames := 0, cells := 0, slots := 0, locals := 0 } : Room) s m #[(.int p0), (.int p1), (.int p2), (.int p3), (.double p4), (.double p5), (.double p6)] below meth c s₁ [] 0 0 := Stand.of_body Bd
  have e0 : s₁.heap = h0 := by rw [← hh, Bd.state]; rfl
  have N0 := Fr.nil n0
  refine own_start ?_
  refine own_via (fun t k => castTop (ef_rm5 m p0 p1 p2 p3 p4 p5 p6) k) ?_
  show own_Go p e below _ (s₁.setTop (mkF m 0 #[oI p0, oI p1, oI p2, oI p3, oD p4, .second, oD p5, .second, oD p6, .second] []))
  refine own_via (fun t kz => XS.iloadN X0.here hx rfl (hb hby d5_0) rfl kz) ?_
  refine own_via (fun t kz => XS.iloadN X0.here hx rfl (hb hby d5_1) rfl kz) ?_
  show own_Go p e below _ (s₁.setTop (mkF m 2 #[oI p0, oI p1, oI p2, oI p3, oD p4, .second, oD p5, .second, oD p6, .second] [(.int p3), (.int p0)]))
  by_cases hc2_1 : p0 = p3
  · refine own_via (fun t kz => XS.icmpNo X0.here hx rfl (hb hby d5_2) rfl (teq hc2_1).2 kz) ?_
    refine own_via (fun t kz => XS.dload X0.here hx rfl (hb hby d5_5) rfl kz) ?_
    show own_Go p e below _ (s₁.setTop (mkF m 7 #[oI p0, oI p1, oI p2, oI p3, oD p4, .second, oD p5, .second, oD p6, .second] [(.double p6)]))
    have hv : (f5 p0 p1 p2 p3 p4 p5 p6) = p6 := by unfold f5; rw [if_pos hc2_1]
    obtain ⟨fs, hr, hrun, hended, hW, hsame⟩ := X0.leave (v := some (.double p6)) (fun h => by rw [Bd.returns] at h; cases h)
    refine ⟨_, _, retOut X0 hx (i := .dreturn) Bd.returns rfl (Or.inr (Or.inr (Or.inl ⟨rfl, rfl, _, rfl⟩))) (hb hby d5_7) hr, hrun, hended, _, _, rfl, ?_, ⟨_, rfl⟩, hW, hsame.mono (by decide) (by decide)⟩
    show Q5 Z p0 p1 p2 p3 p4 p5 p6 r h0 n0 _ s₁.heap _
    rw [e0]
    exact ⟨by rw [← hr0, hv], N0, rfl⟩
  · refine own_via (fun t kz => XS.icmpYes X0.here hx rfl (pc0 := 2) (pc' := 8) rfl (hb hby d5_2) rfl (feq hc2_1).2 (by decide) (by decide) kz) ?_
    refine own_via (fun t kz => XS.iloadN X0.here hx rfl (hb hby d5_8) rfl kz) ?_
    refine own_via (fun t kz => XS.iloadN X0.here hx rfl (hb hby d5_9) rfl kz) ?_
    show own_Go p e below _ (s₁.setTop (mkF m 10 #[oI p0, oI p1, oI p2, oI p3, oD p4, .second, oD p5, .second, oD p6, .second] [(.int p2), (.int p0)]))
    by_cases hc10_3 : p0 = p2
    · refine own_via (fun t kz => XS.icmpNo X0.here hx rfl (hb hby d5_10) rfl (teq hc10_3).2 kz) ?_
      refine own_via (fun t kz => XS.dload X0.here hx rfl (hb hby d5_13) rfl kz) ?_
      show own_Go p e below _ (s₁.setTop (mkF m 15 #[oI p0, oI p1, oI p2, oI p3, oD p4, .second, oD p5, .second, oD p6, .second] [(.double p5)]))
      have hv : (f5 p0 p1 p2 p3 p4 p5 p6) = p5 := by unfold f5; rw [if_neg hc2_1, if_pos hc10_3]
      obtain ⟨fs, hr, hrun, hended, hW, hsame⟩ := X0.leave (v := some (.double p5)) (fun h => by rw [Bd.returns] at h; cases h)
      refine ⟨_, _, retOut X0 hx (i := .dreturn) Bd.returns rfl (Or.inr (Or.inr (Or.inl ⟨rfl, rfl, _, rfl⟩))) (hb hby d5_15) hr, hrun, hended, _, _, rfl, ?_, ⟨_, rfl⟩, hW, hsame.mono (by decide) (by decide)⟩
      show Q5 Z p0 p1 p2 p3 p4 p5 p6 r h0 n0 _ s₁.heap _
      rw [e0]
      exact ⟨by rw [← hr0, hv], N0, rfl⟩
    · refine own_via (fun t kz => XS.icmpYes X0.here hx rfl (pc0 := 10) (pc' := 16) rfl (hb hby d5_10) rfl (feq hc10_3).2 (by decide) (by decide) kz) ?_
      refine own_via (fun t kz => XS.iloadN X0.here hx rfl (hb hby d5_16) rfl kz) ?_
      refine own_via (fun t kz => XS.iloadN X0.here hx rfl (hb hby d5_17) rfl kz) ?_
      show own_Go p e below _ (s₁.setTop (mkF m 18 #[oI p0, oI p1, oI p2, oI p3, oD p4, .second, oD p5, .second, oD p6, .second] [(.int p1), (.int p0)]))
      by_cases hc18_5 : p0 = p1
      · refine own_via (fun t kz => XS.icmpNo X0.here hx rfl (hb hby d5_18) rfl (teq hc18_5).2 kz) ?_
        refine own_via (fun t kz => XS.dload X0.here hx rfl (hb hby d5_21) rfl kz) ?_
        show own_Go p e below _ (s₁.setTop (mkF m 23 #[oI p0, oI p1, oI p2, oI p3, oD p4, .second, oD p5, .second, oD p6, .second] [(.double p4)]))
        have hv : (f5 p0 p1 p2 p3 p4 p5 p6) = p4 := by unfold f5; rw [if_neg hc2_1, if_neg hc10_3, if_pos hc18_5]
        obtain ⟨fs, hr, hrun, hended, hW, hsame⟩ := X0.leave (v := some (.double p4)) (fun h => by rw [Bd.returns] at h; cases h)
        refine ⟨_, _, retOut X0 hx (i := .dreturn) Bd.returns rfl (Or.inr (Or.inr (Or.inl ⟨rfl, rfl, _, rfl⟩))) (hb hby d5_23) hr, hrun, hended, _, _, rfl, ?_, ⟨_, rfl⟩, hW, hsame.mono (by decide) (by decide)⟩
        show Q5 Z p0 p1 p2 p3 p4 p5 p6 r h0 n0 _ s₁.heap _
        rw [e0]
        exact ⟨by rw [← hr0, hv], N0, rfl⟩
      · refine own_via (fun t kz => XS.icmpYes X0.here hx rfl (pc0 := 18) (pc' := 24) rfl (hb hby d5_18) rfl (feq hc18_5).2 (by decide) (by decide) kz) ?_
        show own_Go p e below _ (s₁.setTop (mkF m 24 #[oI p0, oI p1, oI p2, oI p3, oD p4, .second, oD p5, .second, oD p6, .second] []))
        refine own_via (fun t kz => XS.dconst0 X0.here hx rfl (hb hby d5_24) (v := (FP.l2d (0 : Int64))) own_dconst0 kz) ?_
        show own_Go p e below _ (s₁.setTop (mkF m 25 #[oI p0, oI p1, oI p2, oI p3, oD p4, .second, oD p5, .second, oD p6, .second] [(.double (FP.l2d (0 : Int64)))]))
        have hv : (f5 p0 p1 p2 p3 p4 p5 p6) = (FP.l2d (0 : Int64)) := by unfold f5; rw [if_neg hc2_1, if_neg hc10_3, if_neg hc18_5]
        obtain ⟨fs, hr, hrun, hended, hW, hsame⟩ := X0.leave (v := some (.double (FP.l2d (0 : Int64)))) (fun h => by rw [Bd.returns] at h; cases h)
        refine ⟨_, _, retOut X0 hx (i := .dreturn) Bd.returns rfl (Or.inr (Or.inr (Or.inl ⟨rfl, rfl, _, rfl⟩))) (hb hby d5_25) hr, hrun, hended, _, _, rfl, ?_, ⟨_, rfl⟩, hW, hsame.mono (by decide) (by decide)⟩
        show Q5 Z p0 p1 p2 p3 p4 p5 p6 r h0 n0 _ s₁.heap _
        rw [e0]
        exact ⟨by rw [← hr0, hv], N0, rfl⟩
theorem own_exp (x q1 q2 q3 : Int32) (A B C : Int64) : f5 x q1 q2 q3 (FP.l2d A) (FP.l2d B) (FP.l2d C) = FP.l2d (own_e x q1 q2 q3 A B C) := by
  unfold f5 own_e
  by_cases h1 : x = q3
  · rw [if_pos h1, if_pos h1.symm]
  · rw [if_neg h1, if_neg (Ne.symm h1)]
    by_cases h2 : x = q2
    · rw [if_pos h2, if_pos h2.symm]
    · rw [if_neg h2, if_neg (Ne.symm h2)]
      by_cases h3 : x = q1
      · rw [if_pos h3, if_pos h3.symm]
      · rw [if_neg h3, if_neg (Ne.symm h3)]
theorem own_bde {x q1 q2 q3 : Int32} {A B C : Int64} (h1 : own_bd 1 A) (h2 : own_bd 1 B) (h3 : own_bd 1 C) : own_bd 1 (own_e x q1 q2 q3 A B C) := by
  unfold own_e
  exact own_bdi h3 (own_bdi h2 (own_bdi h1 own_bd0))
theorem own_bdm (x : Int32) : own_bd 1 ((x &&& (1048575 : Int32)).toInt64) := by
  obtain ⟨a, b⟩ := c_and x 1048575 (by decide)
  have e := c_i2l (x &&& 1048575)
  simp only [Int32.reduceToInt] at b
  constructor <;> omega
theorem own_size (x : Int32) : (((1 : Int32) + (x &&& (7 : Int32))) = 1) ∨ (((1 : Int32) + (x &&& (7 : Int32))) = 2) ∨ (((1 : Int32) + (x &&& (7 : Int32))) = 3 ∨ ((1 : Int32) + (x &&& (7 : Int32))) = 4) ∨ (((1 : Int32) + (x &&& (7 : Int32))) = 5 ∨ ((1 : Int32) + (x &&& (7 : Int32))) = 6 ∨ ((1 : Int32) + (x &&& (7 : Int32))) = 7 ∨ ((1 : Int32) + (x &&& (7 : Int32))) = 8) := by
  obtain ⟨a, b⟩ := c_and x 7 (by decide)
  have q := c_iadd 1 (x &&& 7)
  have r := rng32 (1 + (x &&& 7))
  simp only [← Int32.toInt_inj, Int32.reduceToInt] at *
  omega
theorem own_znz {z : Int32} (h : z = 1 ∨ z = 2 ∨ (z = 3 ∨ z = 4) ∨ (z = 5 ∨ z = 6 ∨ z = 7 ∨ z = 8)) : z ≠ 0 := by
  rcases h with rfl | rfl | (rfl | rfl) | (rfl | rfl | rfl | rfl) <;> decide
theorem own_and7 (x : Int32) : 0 ≤ (x &&& (7 : Int32)).toInt := (c_and x 7 (by decide)).1
theorem own_andm (x : Int32) : 0 ≤ (x &&& (2147483647 : Int32)).toInt := (c_and x 2147483647 (by decide)).1
theorem own_pos (x z : Int32) (h : z = 1 ∨ z = 2 ∨ (z = 3 ∨ z = 4) ∨ (z = 5 ∨ z = 6 ∨ z = 7 ∨ z = 8)) (hx : 0 ≤ x.toInt) : 0 ≤ (x % z).toInt ∧ (x % z).toInt < z.toInt := by
  have hz : 0 < z.toInt := by rcases h with rfl | rfl | (rfl | rfl) | (rfl | rfl | rfl | rfl) <;> decide
  have q := (c_iremV x z).1 hx hz
  exact ⟨q.1, q.2.1⟩
theorem own_in1 {q z : Int32} (h : 0 ≤ q.toInt ∧ q.toInt < z.toInt) (hs : z = 1) : q = 0 := by
  subst hs
  simp only [← Int32.toInt_inj, Int32.reduceToInt] at *
  omega
theorem own_in2 {q z : Int32} (h : 0 ≤ q.toInt ∧ q.toInt < z.toInt) (hs : z = 2) : q = 0 ∨ q = 1 := by
  subst hs
  simp only [← Int32.toInt_inj, Int32.reduceToInt] at *
  omega
theorem own_in4 {q z : Int32} (h : 0 ≤ q.toInt ∧ q.toInt < z.toInt) (hs : z = 3 ∨ z = 4) : q = 0 ∨ q = 1 ∨ q = 2 ∨ q = 3 := by
  rcases hs with rfl | rfl <;> (simp only [← Int32.toInt_inj, Int32.reduceToInt] at *; omega)
theorem own_in8 {q z : Int32} (h : 0 ≤ q.toInt ∧ q.toInt < z.toInt) (hs : z = 5 ∨ z = 6 ∨ z = 7 ∨ z = 8) : q = 0 ∨ q = 1 ∨ q = 2 ∨ q = 3 ∨ q = 4 ∨ q = 5 ∨ q = 6 ∨ q = 7 := by
  rcases hs with rfl | rfl | rfl | rfl <;> (simp only [← Int32.toInt_inj, Int32.reduceToInt] at *; omega)
theorem own_pt (i q1 q2 q3 : Int32) (A B C : Int64) : own_e i q1 q2 q3 A B C = ((if q1 = i then (if q1 = q2 then (0 : Int64) else (if q1 = q3 then (0 : Int64) else A)) else 0) + (if q2 = i then (if q2 = q3 then (0 : Int64) else B) else 0)) + (if q3 = i then C else 0) := by
  unfold own_e
  by_cases h3 : q3 = i
  · subst h3
    by_cases h2 : q2 = q3 <;> by_cases h1 : q1 = q3 <;> simp [h1, h2]
  · have h3' : ¬ i = q3 := fun q => h3 q.symm
    by_cases h2 : q2 = i
    · subst h2
      by_cases h1 : q1 = q2 <;> simp [h1, h3, h3']
    · have h2' : ¬ i = q2 := fun q => h2 q.symm
      by_cases h1 : q1 = i
      · subst h1
        simp [h2, h3, h2', h3']
      · simp [h1, h2, h3]
theorem own_at1 (x q1 q2 q3 : Int32) (A B C : Int64) (h : x = 0) : own_sel1 x (own_e (0 : Int32) q1 q2 q3 A B C) = own_e x q1 q2 q3 A B C := by
  rcases h with rfl
  all_goals rfl
theorem own_s1 (q : Int32) (X : Int64) (h : q = 0) : (if q = (0 : Int32) then X else 0) = X := by
  rcases h with rfl
  all_goals simp
theorem own_tot1 (q1 q2 q3 : Int32) (A B C : Int64) (h1 : q1 = 0) (h2 : q2 = 0) (h3 : q3 = 0) : (own_e (0 : Int32) q1 q2 q3 A B C) = ((C + (if q2 = q3 then (0 : Int64) else B)) + (if q1 = q2 then (0 : Int64) else (if q1 = q3 then (0 : Int64) else A))) := by
  have s1 := own_s1 q1 (if q1 = q2 then (0 : Int64) else (if q1 = q3 then (0 : Int64) else A)) h1
  have s2 := own_s1 q2 (if q2 = q3 then (0 : Int64) else B) h2
  have s3 := own_s1 q3 C h3
  simp only [own_pt]
  generalize (if q1 = q2 then (0 : Int64) else (if q1 = q3 then (0 : Int64) else A)) = A' at *
  generalize (if q2 = q3 then (0 : Int64) else B) = B' at *
  generalize (if q1 = (0 : Int32) then A' else 0) = xq10 at *
  generalize (if q2 = (0 : Int32) then B' else 0) = xq20 at *
  generalize (if q3 = (0 : Int32) then C else 0) = xq30 at *
  rw [← s1, ← s2, ← s3]
  ac_rfl
theorem own_at2 (x q1 q2 q3 : Int32) (A B C : Int64) (h : x = 0 ∨ x = 1) : own_sel2 x (own_e (0 : Int32) q1 q2 q3 A B C) (own_e (1 : Int32) q1 q2 q3 A B C) = own_e x q1 q2 q3 A B C := by
  rcases h with rfl | rfl
  all_goals rfl
theorem own_s2 (q : Int32) (X : Int64) (h : q = 0 ∨ q = 1) : ((if q = (0 : Int32) then X else 0) + (if q = (1 : Int32) then X else 0)) = X := by
  rcases h with rfl | rfl
  all_goals simp
theorem own_tot2 (q1 q2 q3 : Int32) (A B C : Int64) (h1 : q1 = 0 ∨ q1 = 1) (h2 : q2 = 0 ∨ q2 = 1) (h3 : q3 = 0 ∨ q3 = 1) : ((own_e (0 : Int32) q1 q2 q3 A B C) + (own_e (1 : Int32) q1 q2 q3 A B C)) = ((C + (if q2 = q3 then (0 : Int64) else B)) + (if q1 = q2 then (0 : Int64) else (if q1 = q3 then (0 : Int64) else A))) := by
  have s1 := own_s2 q1 (if q1 = q2 then (0 : Int64) else (if q1 = q3 then (0 : Int64) else A)) h1
  have s2 := own_s2 q2 (if q2 = q3 then (0 : Int64) else B) h2
  have s3 := own_s2 q3 C h3
  simp only [own_pt]
  generalize (if q1 = q2 then (0 : Int64) else (if q1 = q3 then (0 : Int64) else A)) = A' at *
  generalize (if q2 = q3 then (0 : Int64) else B) = B' at *
  generalize (if q1 = (0 : Int32) then A' else 0) = xq10 at *
  generalize (if q2 = (0 : Int32) then B' else 0) = xq20 at *
  generalize (if q3 = (0 : Int32) then C else 0) = xq30 at *
  generalize (if q1 = (1 : Int32) then A' else 0) = xq11 at *
  generalize (if q2 = (1 : Int32) then B' else 0) = xq21 at *
  generalize (if q3 = (1 : Int32) then C else 0) = xq31 at *
  rw [← s1, ← s2, ← s3]
  ac_rfl
theorem own_at4 (x q1 q2 q3 : Int32) (A B C : Int64) (h : x = 0 ∨ x = 1 ∨ x = 2 ∨ x = 3) : own_sel4 x (own_e (0 : Int32) q1 q2 q3 A B C) (own_e (1 : Int32) q1 q2 q3 A B C) (own_e (2 : Int32) q1 q2 q3 A B C) (own_e (3 : Int32) q1 q2 q3 A B C) = own_e x q1 q2 q3 A B C := by
  rcases h with rfl | rfl | rfl | rfl
  all_goals rfl
theorem own_s4 (q : Int32) (X : Int64) (h : q = 0 ∨ q = 1 ∨ q = 2 ∨ q = 3) : (((if q = (0 : Int32) then X else 0) + (if q = (1 : Int32) then X else 0)) + ((if q = (2 : Int32) then X else 0) + (if q = (3 : Int32) then X else 0))) = X := by
  rcases h with rfl | rfl | rfl | rfl
  all_goals simp
theorem own_tot4 (q1 q2 q3 : Int32) (A B C : Int64) (h1 : q1 = 0 ∨ q1 = 1 ∨ q1 = 2 ∨ q1 = 3) (h2 : q2 = 0 ∨ q2 = 1 ∨ q2 = 2 ∨ q2 = 3) (h3 : q3 = 0 ∨ q3 = 1 ∨ q3 = 2 ∨ q3 = 3) : (((own_e (0 : Int32) q1 q2 q3 A B C) + (own_e (1 : Int32) q1 q2 q3 A B C)) + ((own_e (2 : Int32) q1 q2 q3 A B C) + (own_e (3 : Int32) q1 q2 q3 A B C))) = ((C + (if q2 = q3 then (0 : Int64) else B)) + (if q1 = q2 then (0 : Int64) else (if q1 = q3 then (0 : Int64) else A))) := by
  have s1 := own_s4 q1 (if q1 = q2 then (0 : Int64) else (if q1 = q3 then (0 : Int64) else A)) h1
  have s2 := own_s4 q2 (if q2 = q3 then (0 : Int64) else B) h2
  have s3 := own_s4 q3 C h3
  simp only [own_pt]
  generalize (if q1 = q2 then (0 : Int64) else (if q1 = q3 then (0 : Int64) else A)) = A' at *
  generalize (if q2 = q3 then (0 : Int64) else B) = B' at *
  generalize (if q1 = (0 : Int32) then A' else 0) = xq10 at *
  generalize (if q2 = (0 : Int32) then B' else 0) = xq20 at *
  generalize (if q3 = (0 : Int32) then C else 0) = xq30 at *
  generalize (if q1 = (1 : Int32) then A' else 0) = xq11 at *
  generalize (if q2 = (1 : Int32) then B' else 0) = xq21 at *
  generalize (if q3 = (1 : Int32) then C else 0) = xq31 at *
  generalize (if q1 = (2 : Int32) then A' else 0) = xq12 at *
  generalize (if q2 = (2 : Int32) then B' else 0) = xq22 at *
  generalize (if q3 = (2 : Int32) then C else 0) = xq32 at *
  generalize (if q1 = (3 : Int32) then A' else 0) = xq13 at *
  generalize (if q2 = (3 : Int32) then B' else 0) = xq23 at *
  generalize (if q3 = (3 : Int32) then C else 0) = xq33 at *
  rw [← s1, ← s2, ← s3]
  ac_rfl
theorem own_at8 (x q1 q2 q3 : Int32) (A B C : Int64) (h : x = 0 ∨ x = 1 ∨ x = 2 ∨ x = 3 ∨ x = 4 ∨ x = 5 ∨ x = 6 ∨ x = 7) : own_sel8 x (own_e (0 : Int32) q1 q2 q3 A B C) (own_e (1 : Int32) q1 q2 q3 A B C) (own_e (2 : Int32) q1 q2 q3 A B C) (own_e (3 : Int32) q1 q2 q3 A B C) (own_e (4 : Int32) q1 q2 q3 A B C) (own_e (5 : Int32) q1 q2 q3 A B C) (own_e (6 : Int32) q1 q2 q3 A B C) (own_e (7 : Int32) q1 q2 q3 A B C) = own_e x q1 q2 q3 A B C := by
  rcases h with rfl | rfl | rfl | rfl | rfl | rfl | rfl | rfl
  all_goals rfl
theorem own_s8 (q : Int32) (X : Int64) (h : q = 0 ∨ q = 1 ∨ q = 2 ∨ q = 3 ∨ q = 4 ∨ q = 5 ∨ q = 6 ∨ q = 7) : ((((if q = (0 : Int32) then X else 0) + (if q = (1 : Int32) then X else 0)) + ((if q = (2 : Int32) then X else 0) + (if q = (3 : Int32) then X else 0))) + (((if q = (4 : Int32) then X else 0) + (if q = (5 : Int32) then X else 0)) + ((if q = (6 : Int32) then X else 0) + (if q = (7 : Int32) then X else 0)))) = X := by
  rcases h with rfl | rfl | rfl | rfl | rfl | rfl | rfl | rfl
  all_goals simp
theorem own_tot8 (q1 q2 q3 : Int32) (A B C : Int64) (h1 : q1 = 0 ∨ q1 = 1 ∨ q1 = 2 ∨ q1 = 3 ∨ q1 = 4 ∨ q1 = 5 ∨ q1 = 6 ∨ q1 = 7) (h2 : q2 = 0 ∨ q2 = 1 ∨ q2 = 2 ∨ q2 = 3 ∨ q2 = 4 ∨ q2 = 5 ∨ q2 = 6 ∨ q2 = 7) (h3 : q3 = 0 ∨ q3 = 1 ∨ q3 = 2 ∨ q3 = 3 ∨ q3 = 4 ∨ q3 = 5 ∨ q3 = 6 ∨ q3 = 7) : ((((own_e (0 : Int32) q1 q2 q3 A B C) + (own_e (1 : Int32) q1 q2 q3 A B C)) + ((own_e (2 : Int32) q1 q2 q3 A B C) + (own_e (3 : Int32) q1 q2 q3 A B C))) + (((own_e (4 : Int32) q1 q2 q3 A B C) + (own_e (5 : Int32) q1 q2 q3 A B C)) + ((own_e (6 : Int32) q1 q2 q3 A B C) + (own_e (7 : Int32) q1 q2 q3 A B C)))) = ((C + (if q2 = q3 then (0 : Int64) else B)) + (if q1 = q2 then (0 : Int64) else (if q1 = q3 then (0 : Int64) else A))) := by
  have s1 := own_s8 q1 (if q1 = q2 then (0 : Int64) else (if q1 = q3 then (0 : Int64) else A)) h1
  have s2 := own_s8 q2 (if q2 = q3 then (0 : Int64) else B) h2
  have s3 := own_s8 q3 C h3
  simp only [own_pt]
  generalize (if q1 = q2 then (0 : Int64) else (if q1 = q3 then (0 : Int64) else A)) = A' at *
  generalize (if q2 = q3 then (0 : Int64) else B) = B' at *
  generalize (if q1 = (0 : Int32) then A' else 0) = xq10 at *
  generalize (if q2 = (0 : Int32) then B' else 0) = xq20 at *
  generalize (if q3 = (0 : Int32) then C else 0) = xq30 at *
  generalize (if q1 = (1 : Int32) then A' else 0) = xq11 at *
  generalize (if q2 = (1 : Int32) then B' else 0) = xq21 at *
  generalize (if q3 = (1 : Int32) then C else 0) = xq31 at *
  generalize (if q1 = (2 : Int32) then A' else 0) = xq12 at *
  generalize (if q2 = (2 : Int32) then B' else 0) = xq22 at *
  generalize (if q3 = (2 : Int32) then C else 0) = xq32 at *
  generalize (if q1 = (3 : Int32) then A' else 0) = xq13 at *
  generalize (if q2 = (3 : Int32) then B' else 0) = xq23 at *
  generalize (if q3 = (3 : Int32) then C else 0) = xq33 at *
  generalize (if q1 = (4 : Int32) then A' else 0) = xq14 at *
  generalize (if q2 = (4 : Int32) then B' else 0) = xq24 at *
  generalize (if q3 = (4 : Int32) then C else 0) = xq34 at *
  generalize (if q1 = (5 : Int32) then A' else 0) = xq15 at *
  generalize (if q2 = (5 : Int32) then B' else 0) = xq25 at *
  generalize (if q3 = (5 : Int32) then C else 0) = xq35 at *
  generalize (if q1 = (6 : Int32) then A' else 0) = xq16 at *
  generalize (if q2 = (6 : Int32) then B' else 0) = xq26 at *
  generalize (if q3 = (6 : Int32) then C else 0) = xq36 at *
  generalize (if q1 = (7 : Int32) then A' else 0) = xq17 at *
  generalize (if q2 = (7 : Int32) then B' else 0) = xq27 at *
  generalize (if q3 = (7 : Int32) then C else 0) = xq37 at *
  rw [← s1, ← s2, ← s3]
  ac_rfl
theorem pd_0_0 : parseMethodDescriptor "(I)V" = some ⟨[.int], none⟩ := by decide +kernel
theorem pd_0_1 : parseMethodDescriptor "(ID)V" = some ⟨[.int, .double], none⟩ := by decide +kernel
theorem pd_0_2 : parseMethodDescriptor "(I)D" = some ⟨[.int], some .double⟩ := by decide +kernel
theorem pd_0_3 : parseMethodDescriptor "(IIIIDDD)D" = some ⟨[.int, .int, .int, .int, .double, .double, .double], some .double⟩ := by decide +kernel
theorem pd_0_4 : parseMethodDescriptor "()D" = some ⟨[], some .double⟩ := by decide +kernel
theorem ef_rm0 (m : MethodId) (q0 : Int32) (q1 : Int32) (q2 : Int32) (q3 : Int32) (q4 : Int32) (q5 : Int32) : entryFrame m #[(.int q0), (.int q1), (.int q2), (.int q3), (.int q4), (.int q5)] maxLocals = mkF m 0 #[oI q0, oI q1, oI q2, oI q3, oI q4, oI q5, .unset, .unset, .unset, .unset, .unset, .unset, .unset, .unset, .unset, .unset, .unset, .unset, .unset, .unset] [] := by first | (simp [entryFrame, mkF, argsToLocals, Value.category, maxLocals]; done) | rfl
def Q0 (Z : State) (p0 : Int32) (p1 : Int32) (p2 : Int32) (p3 : Int32) (p4 : Int32) (p5 : Int32) (h0 : Heap) (n0 : Nat) (v : Option Value) (h : Heap) (L : List Loc) : Prop := v = some (.int (1 : Int32)) ∧ Fr n0 L
set_option maxRecDepth 65536 in
set_option maxHeartbeats 40000000 in
theorem rm0 (l : Launch) (Z : State) (a0 : Array Value) (hw : ∀ d ∈ tables_1, d.before a0 Z = true) (ws : List Jvm.Cond) (p0 : Int32) (p1 : Int32) (p2 : Int32) (p3 : Int32) (p4 : Int32) (p5 : Int32) (h0 : Heap) (n0 : Nat) (Z0 : n0 ≤ h0.size) :
    MetFree l x (head1 (Jvm.Cond.code x code maxLocals ret :: ws) room_1) (fun a U => a = #[(.int p0), (.int p1), (.int p2), (.int p3), (.int p4), (.int p5)] ∧ Z.Warmed39 U.vm ∧ U.heap = h0) (fun _ _ _ _ _ => True) (fun _ U o U' => ∃ v L, o = .returned v ∧ Q0 Z p0 p1 p2 p3 p4 p5 h0 n0 v U'.heap L ∧ FrameEnd U o U' L room_1.cells room_1.slots) := by
  refine MetFree.of_bodySF (plainFor_of_name pn_5) hisR ?_
  intro p e s m args below meth c s₁ Bd hml0 hP hK
  obtain ⟨rfl, hZ, hh⟩ := hP
  have hx := Bd.exec
  have hby := Bd.bytes
  have hml : c.maxLocals = 20 := hml0
  have hown : s.vm.findClass "com/example/coupewise/coupewise/WeightedDrawSetPinLaw" = some m.cls := findClass_of_methodNamed Bd.named
  have hnm := (name_of_methodNamed Bd.named Bd.method).1
  have X0 : Stand p l e room_1 s m #[(.int p0), (.int p1), (.int p2), (.int p3), (.int p4), (.int p5)] below meth c s₁ [] 0 0 := Stand.of_body Bd
  have e0 : s₁.heap = h0 := by rw [← hh, Bd.state]; rfl
  have N0 := Fr.nil n0
  refine own_start ?_
  refine own_via (fun t k => castTop (ef_rm0 m p0 p1 p2 p3 p4 p5) k) ?_
  show own_Go p e below _ (s₁.setTop (mkF m 0 #[oI p0, oI p1, oI p2, oI p3, oI p4, oI p5, .unset, .unset, .unset, .unset, .unset, .unset, .unset, .unset, .unset, .unset, .unset, .unset, .unset, .unset] []))
  refine own_via (fun t kz => XS.iconst X0.here hx rfl (hb hby at_0) kz) ?_
  refine own_via (fun t kz => XS.iloadN X0.here hx rfl (hb hby at_1) rfl kz) ?_
  refine own_via (fun t kz => XS.bipush X0.here hx rfl (hb hby at_2) kz) ?_
  refine own_via (fun t kz => XS.iand X0.here hx rfl (hb hby at_4) rfl kz) ?_
  show own_Go p e below _ (s₁.setTop (mkF m 5 #[oI p0, oI p1, oI p2, oI p3, oI p4, oI p5, .unset, .unset, .unset, .unset, .unset, .unset, .unset, .unset, .unset, .unset, .unset, .unset, .unset, .unset] [(.int (p0 &&& (7 : Int32))), (.int (1 : Int32))]))
  refine own_via (fun t kz => XS.iadd X0.here hx rfl (hb hby at_5) rfl kz) ?_
  refine own_via (fun t kz => XS.istore X0.here hx rfl (hb hby at_6) rfl (l' := #[oI p0, oI p1, oI p2, oI p3, oI p4, oI p5, oI ((1 : Int32) + (p0 &&& (7 : Int32))), .unset, .unset, .unset, .unset, .unset, .unset, .unset, .unset, .unset, .unset, .unset, .unset, .unset]) rfl kz) ?_
  have hsz := own_size p0
  generalize ((1 : Int32) + (p0 &&& (7 : Int32))) = vz at hsz ⊢
  refine own_via (fun t kz => XS.iloadN X0.here hx rfl (hb hby at_8) rfl kz) ?_
  refine own_via (fun t kz => XS.bipush X0.here hx rfl (hb hby at_9) kz) ?_
  show own_Go p e below _ (s₁.setTop (mkF m 11 #[oI p0, oI p1, oI p2, oI p3, oI p4, oI p5, oI vz, .unset, .unset, .unset, .unset, .unset, .unset, .unset, .unset, .unset, .unset, .unset, .unset, .unset] [(.int (7 : Int32)), (.int p1)]))
  refine own_via (fun t kz => XS.iand X0.here hx rfl (hb hby at_11) rfl kz) ?_
  refine own_via (fun t kz => XS.iload X0.here hx rfl (hb hby at_12) rfl kz) ?_
  show own_Go p e below _ (s₁.setTop (mkF m 14 #[oI p0, oI p1, oI p2, oI p3, oI p4, oI p5, oI vz, .unset, .unset, .unset, .unset, .unset, .unset, .unset, .unset, .unset, .unset, .unset, .unset, .unset] [(.int vz), (.int (p1 &&& (7 : Int32)))]))
  refine own_via (fun t kz => iremM X0 hx rfl (hb hby at_14) rfl (own_znz hsz) kz) ?_
  refine own_via (fun t kz => XS.istore X0.here hx rfl (hb hby at_15) rfl (l' := #[oI p0, oI p1, oI p2, oI p3, oI p4, oI p5, oI vz, oI ((p1 &&& (7 : Int32)) % vz), .unset, .unset, .unset, .unset, .unset, .unset, .unset, .unset, .unset, .unset, .unset, .unset]) rfl kz) ?_
  refine own_via (fun t kz => XS.iloadN X0.here hx rfl (hb hby at_17) rfl kz) ?_
  refine own_via (fun t kz => XS.iconst X0.here hx rfl (hb hby at_18) kz) ?_
  show own_Go p e below _ (s₁.setTop (mkF m 19 #[oI p0, oI p1, oI p2, oI p3, oI p4, oI p5, oI vz, oI ((p1 &&& (7 : Int32)) % vz), .unset, .unset, .unset, .unset, .unset, .unset, .unset, .unset, .unset, .unset, .unset, .unset] [(.int (3 : Int32)), (.int p1)]))
  refine own_via (fun t kz => XS.iushr X0.here hx rfl (hb hby at_19) rfl kz) ?_
  refine own_via (fun t kz => XS.bipush X0.here hx rfl (hb hby at_20) kz) ?_
  refine own_via (fun t kz => XS.iand X0.here hx rfl (hb hby at_22) rfl kz) ?_
  refine own_via (fun t kz => XS.iload X0.here hx rfl (hb hby at_23) rfl kz) ?_
  show own_Go p e below _ (s₁.setTop (mkF m 25 #[oI p0, oI p1, oI p2, oI p3, oI p4, oI p5, oI vz, oI ((p1 &&& (7 : Int32)) % vz), .unset, .unset, .unset, .unset, .unset, .unset, .unset, .unset, .unset, .unset, .unset, .unset] [(.int vz), (.int (((p1.toUInt32 >>> ((3 : Int32) &&& 31).toUInt32).toInt32) &&& (7 : Int32)))]))
  refine own_via (fun t kz => iremM X0 hx rfl (hb hby at_25) rfl (own_znz hsz) kz) ?_
  refine own_via (fun t kz => XS.istore X0.here hx rfl (hb hby at_26) rfl (l' := #[oI p0, oI p1, oI p2, oI p3, oI p4, oI p5, oI vz, oI ((p1 &&& (7 : Int32)) % vz), oI ((((p1.toUInt32 >>> ((3 : Int32) &&& 31).toUInt32).toInt32) &&& (7 : Int32)) % vz), .unset, .unset, .unset, .unset, .unset, .unset, .unset, .unset, .unset, .unset, .unset]) rfl kz) ?_
  refine own_via (fun t kz => XS.iloadN X0.here hx rfl (hb hby at_28) rfl kz) ?_
  refine own_via (fun t kz => XS.bipush X0.here hx rfl (hb hby at_29) kz) ?_
  show own_Go p e below _ (s₁.setTop (mkF m 31 #[oI p0, oI p1, oI p2, oI p3, oI p4, oI p5, oI vz, oI ((p1 &&& (7 : Int32)) % vz), oI ((((p1.toUInt32 >>> ((3 : Int32) &&& 31).toUInt32).toInt32) &&& (7 : Int32)) % vz), .unset, .unset, .unset, .unset, .unset, .unset, .unset, .unset, .unset, .unset, .unset] [(.int (6 : Int32)), (.int p1)]))
  refine own_via (fun t kz => XS.iushr X0.here hx rfl (hb hby at_31) rfl kz) ?_
  refine own_via (fun t kz => XS.bipush X0.here hx rfl (hb hby at_32) kz) ?_
  refine own_via (fun t kz => XS.iand X0.here hx rfl (hb hby at_34) rfl kz) ?_
  refine own_via (fun t kz => XS.iload X0.here hx rfl (hb hby at_35) rfl kz) ?_
  show own_Go p e below _ (s₁.setTop (mkF m 37 #[oI p0, oI p1, oI p2, oI p3, oI p4, oI p5, oI vz, oI ((p1 &&& (7 : Int32)) % vz), oI ((((p1.toUInt32 >>> ((3 : Int32) &&& 31).toUInt32).toInt32) &&& (7 : Int32)) % vz), .unset, .unset, .unset, .unset, .unset, .unset, .unset, .unset, .unset, .unset, .unset] [(.int vz), (.int (((p1.toUInt32 >>> ((6 : Int32) &&& 31).toUInt32).toInt32) &&& (7 : Int32)))]))
  refine own_via (fun t kz => iremM X0 hx rfl (hb hby at_37) rfl (own_znz hsz) kz) ?_
  refine own_via (fun t kz => XS.istore X0.here hx rfl (hb hby at_38) rfl (l' := #[oI p0, oI p1, oI p2, oI p3, oI p4, oI p5, oI vz, oI ((p1 &&& (7 : Int32)) % vz), oI ((((p1.toUInt32 >>> ((3 : Int32) &&& 31).toUInt32).toInt32) &&& (7 : Int32)) % vz), oI ((((p1.toUInt32 >>> ((6 : Int32) &&& 31).toUInt32).toInt32) &&& (7 : Int32)) % vz), .unset, .unset, .unset, .unset, .unset, .unset, .unset, .unset, .unset, .unset]) rfl kz) ?_
  refine own_via (fun t kz => XS.iload X0.here hx rfl (hb hby at_40) rfl kz) ?_
  show own_Go p e below _ (s₁.setTop (mkF m 42 #[oI p0, oI p1, oI p2, oI p3, oI p4, oI p5, oI vz, oI ((p1 &&& (7 : Int32)) % vz), oI ((((p1.toUInt32 >>> ((3 : Int32) &&& 31).toUInt32).toInt32) &&& (7 : Int32)) % vz), oI ((((p1.toUInt32 >>> ((6 : Int32) &&& 31).toUInt32).toInt32) &&& (7 : Int32)) % vz), .unset, .unset, .unset, .unset, .unset, .unset, .unset, .unset, .unset, .unset] [(.int p5)]))
  refine own_via (fun t kz => X0.ldcInt hx hown (mvT hZ (own_w hw 0)) (g := (mkF m 42 #[oI p0, oI p1, oI p2, oI p3, oI p4, oI p5, oI vz, oI ((p1 &&& (7 : Int32)) % vz), oI ((((p1.toUInt32 >>> ((3 : Int32) &&& 31).toUInt32).toInt32) &&& (7 : Int32)) % vz), oI ((((p1.toUInt32 >>> ((6 : Int32) &&& 31).toUInt32).toInt32) &&& (7 : Int32)) % vz), .unset, .unset, .unset, .unset, .unset, .unset, .unset, .unset, .unset, .unset] [(.int p5)])) rfl (hb hby at_42) t kz) ?_
  refine own_via (fun t kz => XS.iand X0.here hx rfl (hb hby at_44) rfl kz) ?_
  refine own_via (fun t kz => XS.iload X0.here hx rfl (hb hby at_45) rfl kz) ?_
  show own_Go p e below _ (s₁.setTop (mkF m 47 #[oI p0, oI p1, oI p2, oI p3, oI p4, oI p5, oI vz, oI ((p1 &&& (7 : Int32)) % vz), oI ((((p1.toUInt32 >>> ((3 : Int32) &&& 31).toUInt32).toInt32) &&& (7 : Int32)) % vz), oI ((((p1.toUInt32 >>> ((6 : Int32) &&& 31).toUInt32).toInt32) &&& (7 : Int32)) % vz), .unset, .unset, .unset, .unset, .unset, .unset, .unset, .unset, .unset, .unset] [(.int vz), (.int (p5 &&& (2147483647 : Int32)))]))
  refine own_via (fun t kz => iremM X0 hx rfl (hb hby at_47) rfl (own_znz hsz) kz) ?_
  refine own_via (fun t kz => XS.istore X0.here hx rfl (hb hby at_48) rfl (l' := #[oI p0, oI p1, oI p2, oI p3, oI p4, oI p5, oI vz, oI ((p1 &&& (7 : Int32)) % vz), oI ((((p1.toUInt32 >>> ((3 : Int32) &&& 31).toUInt32).toInt32) &&& (7 : Int32)) % vz), oI ((((p1.toUInt32 >>> ((6 : Int32) &&& 31).toUInt32).toInt32) &&& (7 : Int32)) % vz), oI ((p5 &&& (2147483647 : Int32)) % vz), .unset, .unset, .unset, .unset, .unset, .unset, .unset, .unset, .unset]) rfl kz) ?_
  have hq1 := own_pos (p1 &&& (7 : Int32)) vz hsz (own_and7 _)
  have hq2 := own_pos (((p1.toUInt32 >>> ((3 : Int32) &&& 31).toUInt32).toInt32) &&& (7 : Int32)) vz hsz (own_and7 _)
  have hq3 := own_pos (((p1.toUInt32 >>> ((6 : Int32) &&& 31).toUInt32).toInt32) &&& (7 : Int32)) vz hsz (own_and7 _)
  have hqq := own_pos (p5 &&& (2147483647 : Int32)) vz hsz (own_andm _)
  generalize ((p1 &&& (7 : Int32)) % vz) = q1 at hq1 ⊢
  generalize ((((p1.toUInt32 >>> ((3 : Int32) &&& 31).toUInt32).toInt32) &&& (7 : Int32)) % vz) = q2 at hq2 ⊢
  generalize ((((p1.toUInt32 >>> ((6 : Int32) &&& 31).toUInt32).toInt32) &&& (7 : Int32)) % vz) = q3 at hq3 ⊢
  generalize ((p5 &&& (2147483647 : Int32)) % vz) = qq at hqq ⊢
  refine own_via (fun t kz => XS.iloadN X0.here hx rfl (hb hby at_50) rfl kz) ?_
  show own_Go p e below _ (s₁.setTop (mkF m 51 #[oI p0, oI p1, oI p2, oI p3, oI p4, oI p5, oI vz, oI q1, oI q2, oI q3, oI qq, .unset, .unset, .unset, .unset, .unset, .unset, .unset, .unset, .unset] [(.int p2)]))
  refine own_via (fun t kz => X0.ldcInt hx hown (mvT hZ (own_w hw 1)) (g := (mkF m 51 #[oI p0, oI p1, oI p2, oI p3, oI p4, oI p5, oI vz, oI q1, oI q2, oI q3, oI qq, .unset, .unset, .unset, .unset, .unset, .unset, .unset, .unset, .unset] [(.int p2)])) rfl (hb hby at_51) t kz) ?_
  refine own_via (fun t kz => XS.iand X0.here hx rfl (hb hby at_53) rfl kz) ?_
  show own_Go p e below _ (s₁.setTop (mkF m 54 #[oI p0, oI p1, oI p2, oI p3, oI p4, oI p5, oI vz, oI q1, oI q2, oI q3, oI qq, .unset, .unset, .unset, .unset, .unset, .unset, .unset, .unset, .unset] [(.int (p2 &&& (1048575 : Int32)))]))
  refine own_via (fun t kz => XS.i2dS X0.here hx rfl (hb hby at_54) rfl (i2d_w (p2 &&& (1048575 : Int32))) kz) ?_
  refine own_via (fun t kz => XS.dstore X0.here hx rfl (hb hby at_55) rfl (l' := #[oI p0, oI p1, oI p2, oI p3, oI p4, oI p5, oI vz, oI q1, oI q2, oI q3, oI qq, oD (FP.l2d ((p2 &&& (1048575 : Int32)).toInt64)), .second, .unset, .unset, .unset, .unset, .unset, .unset, .unset]) rfl kz) ?_
  refine own_via (fun t kz => XS.iloadN X0.here hx rfl (hb hby at_57) rfl kz) ?_
  show own_Go p e below _ (s₁.setTop (mkF m 58 #[oI p0, oI p1, oI p2, oI p3, oI p4, oI p5, oI vz, oI q1, oI q2, oI q3, oI qq, oD (FP.l2d ((p2 &&& (1048575 : Int32)).toInt64)), .second, .unset, .unset, .unset, .unset, .unset, .unset, .unset] [(.int p3)]))
  refine own_via (fun t kz => X0.ldcInt hx hown (mvT hZ (own_w hw 1)) (g := (mkF m 58 #[oI p0, oI p1, oI p2, oI p3, oI p4, oI p5, oI vz, oI q1, oI q2, oI q3, oI qq, oD (FP.l2d ((p2 &&& (1048575 : Int32)).toInt64)), .second, .unset, .unset, .unset, .unset, .unset, .unset, .unset] [(.int p3)])) rfl (hb hby at_58) t kz) ?_
  refine own_via (fun t kz => XS.iand X0.here hx rfl (hb hby at_60) rfl kz) ?_
  show own_Go p e below _ (s₁.setTop (mkF m 61 #[oI p0, oI p1, oI p2, oI p3, oI p4, oI p5, oI vz, oI q1, oI q2, oI q3, oI qq, oD (FP.l2d ((p2 &&& (1048575 : Int32)).toInt64)), .second, .unset, .unset, .unset, .unset, .unset, .unset, .unset] [(.int (p3 &&& (1048575 : Int32)))]))
  refine own_via (fun t kz => XS.i2dS X0.here hx rfl (hb hby at_61) rfl (i2d_w (p3 &&& (1048575 : Int32))) kz) ?_
  refine own_via (fun t kz => XS.dstore X0.here hx rfl (hb hby at_62) rfl (l' := #[oI p0, oI p1, oI p2, oI p3, oI p4, oI p5, oI vz, oI q1, oI q2, oI q3, oI qq, oD (FP.l2d ((p2 &&& (1048575 : Int32)).toInt64)), .second, oD (FP.l2d ((p3 &&& (1048575 : Int32)).toInt64)), .second, .unset, .unset, .unset, .unset, .unset]) rfl kz) ?_
  refine own_via (fun t kz => XS.iload X0.here hx rfl (hb hby at_64) rfl kz) ?_
  show own_Go p e below _ (s₁.setTop (mkF m 66 #[oI p0, oI p1, oI p2, oI p3, oI p4, oI p5, oI vz, oI q1, oI q2, oI q3, oI qq, oD (FP.l2d ((p2 &&& (1048575 : Int32)).toInt64)), .second, oD (FP.l2d ((p3 &&& (1048575 : Int32)).toInt64)), .second, .unset, .unset, .unset, .unset, .unset] [(.int p4)]))
  refine own_via (fun t kz => X0.ldcInt hx hown (mvT hZ (own_w hw 1)) (g := (mkF m 66 #[oI p0, oI p1, oI p2, oI p3, oI p4, oI p5, oI vz, oI q1, oI q2, oI q3, oI qq, oD (FP.l2d ((p2 &&& (1048575 : Int32)).toInt64)), .second, oD (FP.l2d ((p3 &&& (1048575 : Int32)).toInt64)), .second, .unset, .unset, .unset, .unset, .unset] [(.int p4)])) rfl (hb hby at_66) t kz) ?_
  refine own_via (fun t kz => XS.iand X0.here hx rfl (hb hby at_68) rfl kz) ?_
  show own_Go p e below _ (s₁.setTop (mkF m 69 #[oI p0, oI p1, oI p2, oI p3, oI p4, oI p5, oI vz, oI q1, oI q2, oI q3, oI qq, oD (FP.l2d ((p2 &&& (1048575 : Int32)).toInt64)), .second, oD (FP.l2d ((p3 &&& (1048575 : Int32)).toInt64)), .second, .unset, .unset, .unset, .unset, .unset] [(.int (p4 &&& (1048575 : Int32)))]))
  refine own_via (fun t kz => XS.i2dS X0.here hx rfl (hb hby at_69) rfl (i2d_w (p4 &&& (1048575 : Int32))) kz) ?_
  refine own_via (fun t kz => XS.dstore X0.here hx rfl (hb hby at_70) rfl (l' := #[oI p0, oI p1, oI p2, oI p3, oI p4, oI p5, oI vz, oI q1, oI q2, oI q3, oI qq, oD (FP.l2d ((p2 &&& (1048575 : Int32)).toInt64)), .second, oD (FP.l2d ((p3 &&& (1048575 : Int32)).toInt64)), .second, oD (FP.l2d ((p4 &&& (1048575 : Int32)).toInt64)), .second, .unset, .unset, .unset]) rfl kz) ?_
  have hbA := own_bdm p2
  generalize ((p2 &&& (1048575 : Int32)).toInt64) = A at hbA ⊢
  have hbB := own_bdm p3
  generalize ((p3 &&& (1048575 : Int32)).toInt64) = B at hbB ⊢
  have hbCc := own_bdm p4
  generalize ((p4 &&& (1048575 : Int32)).toInt64) = Cc at hbCc ⊢
  rcases hsz with hs | hs | hs | hs
  · have hp_q1 := own_in1 hq1 hs
    have hp_q2 := own_in1 hq2 hs
    have hp_q3 := own_in1 hq3 hs
    have hp_qq := own_in1 hqq hs
    show own_Go p e below _ (s₁.setTop (mkF m 72 #[oI p0, oI p1, oI p2, oI p3, oI p4, oI p5, oI vz, oI q1, oI q2, oI q3, oI qq, oD (FP.l2d A), .second, oD (FP.l2d B), .second, oD (FP.l2d Cc), .second, .unset, .unset, .unset] []))
    obtain ⟨T1, h1, X1, e1, E1, A1, D1, -, st1⟩ := newO X0 hx hZ hown (own_w hw 2) (own_w hw 3) (own_w hw 4) e0 (g := (mkF m 72 #[oI p0, oI p1, oI p2, oI p3, oI p4, oI p5, oI vz, oI q1, oI q2, oI q3, oI qq, oD (FP.l2d A), .second, oD (FP.l2d B), .second, oD (FP.l2d Cc), .second, .unset, .unset, .unset] [])) rfl (hb hby at_72) (by decide) (by decide)
    obtain ⟨a1, g1⟩ : ∃ z, z = h0.size := ⟨_, rfl⟩
    rw [← g1] at A1 D1 st1
    refine own_via st1 ?_
    have fr2 : n0 ≤ a1 := Nat.le_trans Z0 (Nat.le_of_eq g1.symm)
    have Zs3 : n0 ≤ h1.size := Nat.le_trans Z0 E1.1
    have F4 : Fld Z h1 a1 "com/example/coupewise/coupewise/WeightedDraw" "size" "I" (.int (0 : Int32)) := D1 (Or.inr (own_w hw 12)) (ty := .int) (by decide)
    have F5 : Fld Z h1 a1 "com/example/coupewise/coupewise/WeightedDraw" "leaves" "I" (.int (0 : Int32)) := D1 (Or.inr (own_w hw 14)) (ty := .int) (by decide)
    have F6 : Fld Z h1 a1 "com/example/coupewise/coupewise/WeightedDraw" "sums" "[D" .null := D1 (Or.inr (own_w hw 17)) (ty := (.array .double)) (by decide)
    refine own_via (fun t kz => XS.dup X1.here hx rfl (hb hby at_75) rfl rfl kz) ?_
    refine own_via (fun t kz => XS.iload X1.here hx rfl (hb hby at_76) rfl kz) ?_
    show own_Go p e below _ (T1.setTop (mkF m 78 #[oI p0, oI p1, oI p2, oI p3, oI p4, oI p5, oI vz, oI q1, oI q2, oI q3, oI qq, oD (FP.l2d A), .second, oD (FP.l2d B), .second, oD (FP.l2d Cc), .second, .unset, .unset, .unset] [(.int vz), (.ref a1), (.ref a1)]))
    obtain ⟨_, _, ⟨T7, L7, k7, n7⟩, -, X7, ⟨Lc7, hQ7, l7, y7, z7⟩, st7⟩ := X1.specialBack hx (y := (⟨"com/example/coupewise/coupewise/WeightedDraw", "<init>", "(I)V"⟩ : MethodName)) rfl hown (mvT hZ (own_w hw 5)) (mvT hZ (own_w hw 6)) (mvT hZ (own_w hw 7)) (by decide) (backOf (W := 1) (rm1_1 l Z a0 hw [] a1 vz h1 n0 Zs3 fr2 A1 F4 F5 F6 hs) hZ (own_w hw 7) (own_w hw 4) (by decide) (by decide)) (g := (mkF m 78 #[oI p0, oI p1, oI p2, oI p3, oI p4, oI p5, oI vz, oI q1, oI q2, oI q3, oI qq, oD (FP.l2d A), .second, oD (FP.l2d B), .second, oD (FP.l2d Cc), .second, .unset, .unset, .unset] [(.int vz), (.ref a1), (.ref a1)])) rfl (by rw [hml]; rfl) (Steps.refl _) (a := a1) (argsL := [(.int vz)]) (rest := [(.ref a1)]) (lenOf pd_0_0 rfl) rfl (by show 2 * 0 + _ ≤ _; exact Nat.le_of_eq rfl) (hb hby at_78) (fun _ _ => ⟨rfl, e1, (by decide : 1 + 1 ≤ _), (by decide : 3 + 2 ≤ _)⟩)
    dsimp only [Pt.U, Pt.locs, Pt.cells, Pt.slots] at X7 l7 y7 z7 st7 hQ7
    subst l7 y7 z7
    obtain ⟨rfl, Nq7, Zq7, TC7⟩ := hQ7
    have N8 := Fr.app N0 Nq7
    refine own_tr st7 ?_
    refine own_via (fun t kz => XS.astore X7.here hx rfl (hb hby at_81) rfl rfl (l' := #[oI p0, oI p1, oI p2, oI p3, oI p4, oI p5, oI vz, oI q1, oI q2, oI q3, oI qq, oD (FP.l2d A), .second, oD (FP.l2d B), .second, oD (FP.l2d Cc), .second, oR a1, .unset, .unset]) rfl kz) ?_
    refine own_via (fun t kz => XS.aload X7.here hx rfl (hb hby at_83) rfl rfl kz) ?_
    refine own_via (fun t kz => XS.iload X7.here hx rfl (hb hby at_85) rfl kz) ?_
    show own_Go p e below _ (T7.setTop (mkF m 87 #[oI p0, oI p1, oI p2, oI p3, oI p4, oI p5, oI vz, oI q1, oI q2, oI q3, oI qq, oD (FP.l2d A), .second, oD (FP.l2d B), .second, oD (FP.l2d Cc), .second, oR a1, .unset, .unset] [(.int q1), (.ref a1)]))
    refine own_via (fun t kz => XS.dload X7.here hx rfl (hb hby at_87) rfl kz) ?_
    show own_Go p e below _ (T7.setTop (mkF m 89 #[oI p0, oI p1, oI p2, oI p3, oI p4, oI p5, oI vz, oI q1, oI q2, oI q3, oI qq, oD (FP.l2d A), .second, oD (FP.l2d B), .second, oD (FP.l2d Cc), .second, oR a1, .unset, .unset] [(.double (FP.l2d A)), (.int q1), (.ref a1)]))
    obtain ⟨cq9, kq9, qa9, qb9, qc9⟩ := isOf hZ rfl (own_exa1 TC7)
    obtain ⟨_, _, ⟨T9, L9, k9, n9⟩, -, X9, ⟨Lc9, hQ9, l9, y9, z9⟩, st9⟩ := X7.virtualBack hx (y := (⟨"com/example/coupewise/coupewise/WeightedDraw", "set", "(ID)V"⟩ : MethodName)) (z := (⟨"com/example/coupewise/coupewise/WeightedDraw", "set", "(ID)V"⟩ : MethodName)) hown (mvT hZ (own_w hw 18)) (mvT hZ (own_w hw 19)) (notFace_of_selects (args := #[]) (mvT hZ (own_w hw 21))) (mvT hZ (own_w hw 21)) (mvT hZ (own_w hw 20)) (by decide) (backOf (W := 0) (rm3_1 l Z a0 hw [] a1 q1 A (0 : Int64) T7.heap n0 Zq7 TC7 hp_q1 hbA own_bd0) hZ (own_w hw 22) (own_w hw 4) (by decide) (by decide)) qa9 qc9 (g := (mkF m 89 #[oI p0, oI p1, oI p2, oI p3, oI p4, oI p5, oI vz, oI q1, oI q2, oI q3, oI qq, oD (FP.l2d A), .second, oD (FP.l2d B), .second, oD (FP.l2d Cc), .second, oR a1, .unset, .unset] [(.double (FP.l2d A)), (.int q1), (.ref a1)])) rfl (by rw [hml]; rfl) (Steps.refl _) (argsL := [(.int q1), (.double (FP.l2d A))]) (rest := []) (lenOf pd_0_1 rfl) rfl (by show 2 * 0 + _ ≤ _; exact Nat.le_of_eq rfl) (hb hby at_89) (fun _ _ => ⟨rfl, rfl, (by decide : 2 + 0 ≤ _), (by decide : 5 + 0 ≤ _)⟩)
    dsimp only [Pt.U, Pt.locs, Pt.cells, Pt.slots] at X9 l9 y9 z9 st9 hQ9
    subst l9 y9 z9
    obtain ⟨rfl, Nq9, Zq9, TC9⟩ := hQ9
    have N10 := Fr.app N8 Nq9
    refine own_tr st9 ?_
    refine own_via (fun t kz => XS.aload X9.here hx rfl (hb hby at_92) rfl rfl kz) ?_
    refine own_via (fun t kz => XS.iload X9.here hx rfl (hb hby at_94) rfl kz) ?_
    refine own_via (fun t kz => XS.dload X9.here hx rfl (hb hby at_96) rfl kz) ?_
    show own_Go p e below _ (T9.setTop (mkF m 98 #[oI p0, oI p1, oI p2, oI p3, oI p4, oI p5, oI vz, oI q1, oI q2, oI q3, oI qq, oD (FP.l2d A), .second, oD (FP.l2d B), .second, oD (FP.l2d Cc), .second, oR a1, .unset, .unset] [(.double (FP.l2d B)), (.int q2), (.ref a1)]))
    obtain ⟨cq11, kq11, qa11, qb11, qc11⟩ := isOf hZ rfl (own_exa1 TC9)
    obtain ⟨_, _, ⟨T11, L11, k11, n11⟩, -, X11, ⟨Lc11, hQ11, l11, y11, z11⟩, st11⟩ := X9.virtualBack hx (y := (⟨"com/example/coupewise/coupewise/WeightedDraw", "set", "(ID)V"⟩ : MethodName)) (z := (⟨"com/example/coupewise/coupewise/WeightedDraw", "set", "(ID)V"⟩ : MethodName)) hown (mvT hZ (own_w hw 18)) (mvT hZ (own_w hw 19)) (notFace_of_selects (args := #[]) (mvT hZ (own_w hw 21))) (mvT hZ (own_w hw 21)) (mvT hZ (own_w hw 20)) (by decide) (backOf (W := 0) (rm3_1 l Z a0 hw [] a1 q2 B (if q1 = (0 : Int32) then A else (0 : Int64)) T9.heap n0 Zq9 TC9 hp_q2 hbB (own_bdi hbA own_bd0)) hZ (own_w hw 22) (own_w hw 4) (by decide) (by decide)) qa11 qc11 (g := (mkF m 98 #[oI p0, oI p1, oI p2, oI p3, oI p4, oI p5, oI vz, oI q1, oI q2, oI q3, oI qq, oD (FP.l2d A), .second, oD (FP.l2d B), .second, oD (FP.l2d Cc), .second, oR a1, .unset, .unset] [(.double (FP.l2d B)), (.int q2), (.ref a1)])) rfl (by rw [hml]; rfl) (Steps.refl _) (argsL := [(.int q2), (.double (FP.l2d B))]) (rest := []) (lenOf pd_0_1 rfl) rfl (by show 2 * 0 + _ ≤ _; exact Nat.le_of_eq rfl) (hb hby at_98) (fun _ _ => ⟨rfl, rfl, (by decide : 2 + 0 ≤ _), (by decide : 5 + 0 ≤ _)⟩)
    dsimp only [Pt.U, Pt.locs, Pt.cells, Pt.slots] at X11 l11 y11 z11 st11 hQ11
    subst l11 y11 z11
    obtain ⟨rfl, Nq11, Zq11, TC11⟩ := hQ11
    have N12 := Fr.app N10 Nq11
    refine own_tr st11 ?_
    refine own_via (fun t kz => XS.aload X11.here hx rfl (hb hby at_101) rfl rfl kz) ?_
    refine own_via (fun t kz => XS.iload X11.here hx rfl (hb hby at_103) rfl kz) ?_
    refine own_via (fun t kz => XS.dload X11.here hx rfl (hb hby at_105) rfl kz) ?_
    show own_Go p e below _ (T11.setTop (mkF m 107 #[oI p0, oI p1, oI p2, oI p3, oI p4, oI p5, oI vz, oI q1, oI q2, oI q3, oI qq, oD (FP.l2d A), .second, oD (FP.l2d B), .second, oD (FP.l2d Cc), .second, oR a1, .unset, .unset] [(.double (FP.l2d Cc)), (.int q3), (.ref a1)]))
    obtain ⟨cq13, kq13, qa13, qb13, qc13⟩ := isOf hZ rfl (own_exa1 TC11)
    obtain ⟨_, _, ⟨T13, L13, k13, n13⟩, -, X13, ⟨Lc13, hQ13, l13, y13, z13⟩, st13⟩ := X11.virtualBack hx (y := (⟨"com/example/coupewise/coupewise/WeightedDraw", "set", "(ID)V"⟩ : MethodName)) (z := (⟨"com/example/coupewise/coupewise/WeightedDraw", "set", "(ID)V"⟩ : MethodName)) hown (mvT hZ (own_w hw 18)) (mvT hZ (own_w hw 19)) (notFace_of_selects (args := #[]) (mvT hZ (own_w hw 21))) (mvT hZ (own_w hw 21)) (mvT hZ (own_w hw 20)) (by decide) (backOf (W := 0) (rm3_1 l Z a0 hw [] a1 q3 Cc (if q2 = (0 : Int32) then B else (if q1 = (0 : Int32) then A else (0 : Int64))) T11.heap n0 Zq11 TC11 hp_q3 hbCc (own_bdi hbB (own_bdi hbA own_bd0))) hZ (own_w hw 22) (own_w hw 4) (by decide) (by decide)) qa13 qc13 (g := (mkF m 107 #[oI p0, oI p1, oI p2, oI p3, oI p4, oI p5, oI vz, oI q1, oI q2, oI q3, oI qq, oD (FP.l2d A), .second, oD (FP.l2d B), .second, oD (FP.l2d Cc), .second, oR a1, .unset, .unset] [(.double (FP.l2d Cc)), (.int q3), (.ref a1)])) rfl (by rw [hml]; rfl) (Steps.refl _) (argsL := [(.int q3), (.double (FP.l2d Cc))]) (rest := []) (lenOf pd_0_1 rfl) rfl (by show 2 * 0 + _ ≤ _; exact Nat.le_of_eq rfl) (hb hby at_107) (fun _ _ => ⟨rfl, rfl, (by decide : 2 + 0 ≤ _), (by decide : 5 + 0 ≤ _)⟩)
    dsimp only [Pt.U, Pt.locs, Pt.cells, Pt.slots] at X13 l13 y13 z13 st13 hQ13
    subst l13 y13 z13
    obtain ⟨rfl, Nq13, Zq13, TC13⟩ := hQ13
    have N14 := Fr.app N12 Nq13
    refine own_tr st13 ?_
    have TD13 : own_W1 Z T13.heap n0 a1 (own_e (0 : Int32) q1 q2 q3 A B Cc) := TC13
    refine own_via (fun t kz => XS.dload X13.here hx rfl (hb hby at_110) rfl kz) ?_
    refine own_via (fun t kz => XS.iload X13.here hx rfl (hb hby at_112) rfl kz) ?_
    refine own_via (fun t kz => XS.iload X13.here hx rfl (hb hby at_114) rfl kz) ?_
    show own_Go p e below _ (T13.setTop (mkF m 116 #[oI p0, oI p1, oI p2, oI p3, oI p4, oI p5, oI vz, oI q1, oI q2, oI q3, oI qq, oD (FP.l2d A), .second, oD (FP.l2d B), .second, oD (FP.l2d Cc), .second, oR a1, .unset, .unset] [(.int q3), (.int q2), (.double (FP.l2d Cc))]))
    have jn16 : ∀ t, Steps p.tables e below (T13.setTop (mkF m 125 #[oI p0, oI p1, oI p2, oI p3, oI p4, oI p5, oI vz, oI q1, oI q2, oI q3, oI qq, oD (FP.l2d A), .second, oD (FP.l2d B), .second, oD (FP.l2d Cc), .second, oR a1, .unset, .unset] [(.double (FP.l2d (if q2 = q3 then (0 : Int64) else B))), (.double (FP.l2d Cc))])) t → Steps p.tables e below (T13.setTop (mkF m 116 #[oI p0, oI p1, oI p2, oI p3, oI p4, oI p5, oI vz, oI q1, oI q2, oI q3, oI qq, oD (FP.l2d A), .second, oD (FP.l2d B), .second, oD (FP.l2d Cc), .second, oR a1, .unset, .unset] [(.int q3), (.int q2), (.double (FP.l2d Cc))])) t := by
      intro t k
      show Steps p.tables e below (T13.setTop (mkF m 116 #[oI p0, oI p1, oI p2, oI p3, oI p4, oI p5, oI vz, oI q1, oI q2, oI q3, oI qq, oD (FP.l2d A), .second, oD (FP.l2d B), .second, oD (FP.l2d Cc), .second, oR a1, .unset, .unset] [(.int q3), (.int q2), (.double (FP.l2d Cc))])) t
      by_cases hc116_15 : q2 = q3
      · refine XS.icmpYes X13.here hx rfl (pc0 := 116) (pc' := 124) rfl (hb hby at_116) rfl (teq hc116_15).1 (by decide) (by decide) ?_
        show Steps p.tables e below (T13.setTop (mkF m 124 #[oI p0, oI p1, oI p2, oI p3, oI p4, oI p5, oI vz, oI q1, oI q2, oI q3, oI qq, oD (FP.l2d A), .second, oD (FP.l2d B), .second, oD (FP.l2d Cc), .second, oR a1, .unset, .unset] [(.double (FP.l2d Cc))])) t
        refine XS.dconst0 X13.here hx rfl (hb hby at_124) (v := (FP.l2d (0 : Int64))) own_dconst0 ?_
        rw [if_pos hc116_15] at k
        exact k
      · refine XS.icmpNo X13.here hx rfl (hb hby at_116) rfl (feq hc116_15).1 ?_
        show Steps p.tables e below (T13.setTop (mkF m 119 #[oI p0, oI p1, oI p2, oI p3, oI p4, oI p5, oI vz, oI q1, oI q2, oI q3, oI qq, oD (FP.l2d A), .second, oD (FP.l2d B), .second, oD (FP.l2d Cc), .second, oR a1, .unset, .unset] [(.double (FP.l2d Cc))])) t
        refine XS.dload X13.here hx rfl (hb hby at_119) rfl ?_
        refine XS.goto X13.here hx rfl (pc0 := 121) (pc' := 125) rfl (hb hby at_121) (by decide) (by decide) ?_
        rw [if_neg hc116_15] at k
        exact k
    refine own_via jn16 ?_
    show own_Go p e below _ (T13.setTop (mkF m 125 #[oI p0, oI p1, oI p2, oI p3, oI p4, oI p5, oI vz, oI q1, oI q2, oI q3, oI qq, oD (FP.l2d A), .second, oD (FP.l2d B), .second, oD (FP.l2d Cc), .second, oR a1, .unset, .unset] [(.double (FP.l2d (if q2 = q3 then (0 : Int64) else B))), (.double (FP.l2d Cc))]))
    refine own_via (fun t kz => XS.daddS X13.here hx rfl (hb hby at_125) rfl (nn_w (dadd_w (own_b53 hbCc (by decide)) (own_b53 (own_bdi own_bd0 hbB) (by decide)))) (dadd_w (own_b53 hbCc (by decide)) (own_b53 (own_bdi own_bd0 hbB) (by decide))) kz) ?_
    refine own_via (fun t kz => XS.iload X13.here hx rfl (hb hby at_126) rfl kz) ?_
    refine own_via (fun t kz => XS.iload X13.here hx rfl (hb hby at_128) rfl kz) ?_
    show own_Go p e below _ (T13.setTop (mkF m 130 #[oI p0, oI p1, oI p2, oI p3, oI p4, oI p5, oI vz, oI q1, oI q2, oI q3, oI qq, oD (FP.l2d A), .second, oD (FP.l2d B), .second, oD (FP.l2d Cc), .second, oR a1, .unset, .unset] [(.int q2), (.int q1), (.double (FP.l2d (Cc + (if q2 = q3 then (0 : Int64) else B))))]))
    have jn19 : ∀ t, Steps p.tables e below (T13.setTop (mkF m 146 #[oI p0, oI p1, oI p2, oI p3, oI p4, oI p5, oI vz, oI q1, oI q2, oI q3, oI qq, oD (FP.l2d A), .second, oD (FP.l2d B), .second, oD (FP.l2d Cc), .second, oR a1, .unset, .unset] [(.double (FP.l2d (if q1 = q2 then (0 : Int64) else (if q1 = q3 then (0 : Int64) else A)))), (.double (FP.l2d (Cc + (if q2 = q3 then (0 : Int64) else B))))])) t → Steps p.tables e below (T13.setTop (mkF m 130 #[oI p0, oI p1, oI p2, oI p3, oI p4, oI p5, oI vz, oI q1, oI q2, oI q3, oI qq, oD (FP.l2d A), .second, oD (FP.l2d B), .second, oD (FP.l2d Cc), .second, oR a1, .unset, .unset] [(.int q2), (.int q1), (.double (FP.l2d (Cc + (if q2 = q3 then (0 : Int64) else B))))])) t := by
      intro t k
      show Steps p.tables e below (T13.setTop (mkF m 130 #[oI p0, oI p1, oI p2, oI p3, oI p4, oI p5, oI vz, oI q1, oI q2, oI q3, oI qq, oD (FP.l2d A), .second, oD (FP.l2d B), .second, oD (FP.l2d Cc), .second, oR a1, .unset, .unset] [(.int q2), (.int q1), (.double (FP.l2d (Cc + (if q2 = q3 then (0 : Int64) else B))))])) t
      by_cases hc130_17 : q1 = q2
      · refine XS.icmpYes X13.here hx rfl (pc0 := 130) (pc' := 145) rfl (hb hby at_130) rfl (teq hc130_17).1 (by decide) (by decide) ?_
        show Steps p.tables e below (T13.setTop (mkF m 145 #[oI p0, oI p1, oI p2, oI p3, oI p4, oI p5, oI vz, oI q1, oI q2, oI q3, oI qq, oD (FP.l2d A), .second, oD (FP.l2d B), .second, oD (FP.l2d Cc), .second, oR a1, .unset, .unset] [(.double (FP.l2d (Cc + (if q2 = q3 then (0 : Int64) else B))))])) t
        refine XS.dconst0 X13.here hx rfl (hb hby at_145) (v := (FP.l2d (0 : Int64))) own_dconst0 ?_
        rw [if_pos hc130_17] at k
        exact k
      · refine XS.icmpNo X13.here hx rfl (hb hby at_130) rfl (feq hc130_17).1 ?_
        refine XS.iload X13.here hx rfl (hb hby at_133) rfl ?_
        show Steps p.tables e below (T13.setTop (mkF m 135 #[oI p0, oI p1, oI p2, oI p3, oI p4, oI p5, oI vz, oI q1, oI q2, oI q3, oI qq, oD (FP.l2d A), .second, oD (FP.l2d B), .second, oD (FP.l2d Cc), .second, oR a1, .unset, .unset] [(.int q1), (.double (FP.l2d (Cc + (if q2 = q3 then (0 : Int64) else B))))])) t
        refine XS.iload X13.here hx rfl (hb hby at_135) rfl ?_
        show Steps p.tables e below (T13.setTop (mkF m 137 #[oI p0, oI p1, oI p2, oI p3, oI p4, oI p5, oI vz, oI q1, oI q2, oI q3, oI qq, oD (FP.l2d A), .second, oD (FP.l2d B), .second, oD (FP.l2d Cc), .second, oR a1, .unset, .unset] [(.int q3), (.int q1), (.double (FP.l2d (Cc + (if q2 = q3 then (0 : Int64) else B))))])) t
        by_cases hc137_18 : q1 = q3
        · refine XS.icmpYes X13.here hx rfl (pc0 := 137) (pc' := 145) rfl (hb hby at_137) rfl (teq hc137_18).1 (by decide) (by decide) ?_
          show Steps p.tables e below (T13.setTop (mkF m 145 #[oI p0, oI p1, oI p2, oI p3, oI p4, oI p5, oI vz, oI q1, oI q2, oI q3, oI qq, oD (FP.l2d A), .second, oD (FP.l2d B), .second, oD (FP.l2d Cc), .second, oR a1, .unset, .unset] [(.double (FP.l2d (Cc + (if q2 = q3 then (0 : Int64) else B))))])) t
          refine XS.dconst0 X13.here hx rfl (hb hby at_145) (v := (FP.l2d (0 : Int64))) own_dconst0 ?_
          rw [if_neg hc130_17, if_pos hc137_18] at k
          exact k
        · refine XS.icmpNo X13.here hx rfl (hb hby at_137) rfl (feq hc137_18).1 ?_
          refine XS.dload X13.here hx rfl (hb hby at_140) rfl ?_
          refine XS.goto X13.here hx rfl (pc0 := 142) (pc' := 146) rfl (hb hby at_142) (by decide) (by decide) ?_
          rw [if_neg hc130_17, if_neg hc137_18] at k
          exact k
    refine own_via jn19 ?_
    show own_Go p e below _ (T13.setTop (mkF m 146 #[oI p0, oI p1, oI p2, oI p3, oI p4, oI p5, oI vz, oI q1, oI q2, oI q3, oI qq, oD (FP.l2d A), .second, oD (FP.l2d B), .second, oD (FP.l2d Cc), .second, oR a1, .unset, .unset] [(.double (FP.l2d (if q1 = q2 then (0 : Int64) else (if q1 = q3 then (0 : Int64) else A)))), (.double (FP.l2d (Cc + (if q2 = q3 then (0 : Int64) else B))))]))
    refine own_via (fun t kz => XS.daddS X13.here hx rfl (hb hby at_146) rfl (nn_w (dadd_w (own_b53 (own_bda hbCc (own_bdi own_bd0 hbB) (by decide)) (by decide)) (own_b53 (own_bdi own_bd0 (own_bdi own_bd0 hbA)) (by decide)))) (dadd_w (own_b53 (own_bda hbCc (own_bdi own_bd0 hbB) (by decide)) (by decide)) (own_b53 (own_bdi own_bd0 (own_bdi own_bd0 hbA)) (by decide))) kz) ?_
    refine own_via (fun t kz => XS.dstore X13.here hx rfl (hb hby at_147) rfl (l' := #[oI p0, oI p1, oI p2, oI p3, oI p4, oI p5, oI vz, oI q1, oI q2, oI q3, oI qq, oD (FP.l2d A), .second, oD (FP.l2d B), .second, oD (FP.l2d Cc), .second, oR a1, oD (FP.l2d ((Cc + (if q2 = q3 then (0 : Int64) else B)) + (if q1 = q2 then (0 : Int64) else (if q1 = q3 then (0 : Int64) else A)))), .second]) rfl kz) ?_
    refine own_via (fun t kz => XS.aload X13.here hx rfl (hb hby at_149) rfl rfl kz) ?_
    refine own_via (fun t kz => XS.iload X13.here hx rfl (hb hby at_151) rfl kz) ?_
    show own_Go p e below _ (T13.setTop (mkF m 153 #[oI p0, oI p1, oI p2, oI p3, oI p4, oI p5, oI vz, oI q1, oI q2, oI q3, oI qq, oD (FP.l2d A), .second, oD (FP.l2d B), .second, oD (FP.l2d Cc), .second, oR a1, oD (FP.l2d ((Cc + (if q2 = q3 then (0 : Int64) else B)) + (if q1 = q2 then (0 : Int64) else (if q1 = q3 then (0 : Int64) else A)))), .second] [(.int q1), (.ref a1)]))
    obtain ⟨cq20, kq20, qa20, qb20, qc20⟩ := isOf hZ rfl (own_exa1 TD13)
    obtain ⟨_, _, ⟨T20, L20, k20, n20⟩, -, X20, ⟨Lc20, hQ20, l20, y20, z20⟩, st20⟩ := X13.virtualBack hx (y := (⟨"com/example/coupewise/coupewise/WeightedDraw", "weight", "(I)D"⟩ : MethodName)) (z := (⟨"com/example/coupewise/coupewise/WeightedDraw", "weight", "(I)D"⟩ : MethodName)) hown (mvT hZ (own_w hw 23)) (mvT hZ (own_w hw 24)) (notFace_of_selects (args := #[]) (mvT hZ (own_w hw 26))) (mvT hZ (own_w hw 26)) (mvT hZ (own_w hw 25)) (by decide) (backOf (W := 0) (rm4_1 l Z a0 hw [] a1 q1 (own_e (0 : Int32) q1 q2 q3 A B Cc) T13.heap n0 Zq13 TD13 hp_q1) hZ (own_w hw 27) (own_w hw 4) (by decide) (by decide)) qa20 qc20 (g := (mkF m 153 #[oI p0, oI p1, oI p2, oI p3, oI p4, oI p5, oI vz, oI q1, oI q2, oI q3, oI qq, oD (FP.l2d A), .second, oD (FP.l2d B), .second, oD (FP.l2d Cc), .second, oR a1, oD (FP.l2d ((Cc + (if q2 = q3 then (0 : Int64) else B)) + (if q1 = q2 then (0 : Int64) else (if q1 = q3 then (0 : Int64) else A)))), .second] [(.int q1), (.ref a1)])) rfl (by rw [hml]; rfl) (Steps.refl _) (argsL := [(.int q1)]) (rest := []) (lenOf pd_0_2 rfl) rfl (by show 2 * 0 + _ ≤ _; exact Nat.le_of_eq rfl) (hb hby at_153) (fun _ _ => ⟨rfl, rfl, (by decide : 2 + 0 ≤ _), (by decide : 5 + 0 ≤ _)⟩)
    dsimp only [Pt.U, Pt.locs, Pt.cells, Pt.slots] at X20 l20 y20 z20 st20 hQ20
    subst l20 y20 z20
    obtain ⟨rfl, Nq20, e20⟩ := hQ20
    have N21 := Fr.app N14 Nq20
    refine own_tr st20 ?_
    refine own_via (fun t kz => XS.iload X20.here hx rfl (hb hby at_156) rfl kz) ?_
    refine own_via (fun t kz => XS.iload X20.here hx rfl (hb hby at_158) rfl kz) ?_
    refine own_via (fun t kz => XS.iload X20.here hx rfl (hb hby at_160) rfl kz) ?_
    show own_Go p e below _ (T20.setTop (mkF m 162 #[oI p0, oI p1, oI p2, oI p3, oI p4, oI p5, oI vz, oI q1, oI q2, oI q3, oI qq, oD (FP.l2d A), .second, oD (FP.l2d B), .second, oD (FP.l2d Cc), .second, oR a1, oD (FP.l2d ((Cc + (if q2 = q3 then (0 : Int64) else B)) + (if q1 = q2 then (0 : Int64) else (if q1 = q3 then (0 : Int64) else A)))), .second] [(.int q2), (.int q1), (.int q1), (.double (FP.l2d (own_sel1 q1 (own_e (0 : Int32) q1 q2 q3 A B Cc))))]))
    refine own_via (fun t kz => XS.iload X20.here hx rfl (hb hby at_162) rfl kz) ?_
    refine own_via (fun t kz => XS.dload X20.here hx rfl (hb hby at_164) rfl kz) ?_
    refine own_via (fun t kz => XS.dload X20.here hx rfl (hb hby at_166) rfl kz) ?_
    refine own_via (fun t kz => XS.dload X20.here hx rfl (hb hby at_168) rfl kz) ?_
    show own_Go p e below _ (T20.setTop (mkF m 170 #[oI p0, oI p1, oI p2, oI p3, oI p4, oI p5, oI vz, oI q1, oI q2, oI q3, oI qq, oD (FP.l2d A), .second, oD (FP.l2d B), .second, oD (FP.l2d Cc), .second, oR a1, oD (FP.l2d ((Cc + (if q2 = q3 then (0 : Int64) else B)) + (if q1 = q2 then (0 : Int64) else (if q1 = q3 then (0 : Int64) else A)))), .second] [(.double (FP.l2d Cc)), (.double (FP.l2d B)), (.double (FP.l2d A)), (.int q3), (.int q2), (.int q1), (.int q1), (.double (FP.l2d (own_sel1 q1 (own_e (0 : Int32) q1 q2 q3 A B Cc))))]))
    obtain ⟨_, _, ⟨T22, L22, k22, n22⟩, -, X22, ⟨Lc22, hQ22, l22, y22, z22⟩, st22⟩ := Jvm.LawKit.callS X20 hx (y := (⟨"com/example/coupewise/coupewise/WeightedDrawSetPinLaw", "expected", "(IIIIDDD)D"⟩ : MethodName)) hown (mvT hZ (own_w hw 28)) (mvT hZ (own_w hw 29)) (mvT hZ (own_w hw 30)) (mvT hZ (own_w hw 31)) (by decide) (backOf (W := 2) (rm5 l Z a0 hw [] q1 q1 q2 q3 (FP.l2d A) (FP.l2d B) (FP.l2d Cc) (FP.l2d (own_e q1 q1 q2 q3 A B Cc)) T13.heap n0 Zq13 (own_exp q1 q1 q2 q3 A B Cc)) hZ (own_w hw 31) (own_w hw 30) (by decide) (by decide)) (g := (mkF m 170 #[oI p0, oI p1, oI p2, oI p3, oI p4, oI p5, oI vz, oI q1, oI q2, oI q3, oI qq, oD (FP.l2d A), .second, oD (FP.l2d B), .second, oD (FP.l2d Cc), .second, oR a1, oD (FP.l2d ((Cc + (if q2 = q3 then (0 : Int64) else B)) + (if q1 = q2 then (0 : Int64) else (if q1 = q3 then (0 : Int64) else A)))), .second] [(.double (FP.l2d Cc)), (.double (FP.l2d B)), (.double (FP.l2d A)), (.int q3), (.int q2), (.int q1), (.int q1), (.double (FP.l2d (own_sel1 q1 (own_e (0 : Int32) q1 q2 q3 A B Cc))))])) rfl (by rw [hml]; rfl) (argsL := [(.int q1), (.int q1), (.int q2), (.int q3), (.double (FP.l2d A)), (.double (FP.l2d B)), (.double (FP.l2d Cc))]) (rest := [(.double (FP.l2d (own_sel1 q1 (own_e (0 : Int32) q1 q2 q3 A B Cc))))]) (lenOf pd_0_3 rfl) rfl (by show 2 * 0 + _ ≤ _; exact Nat.le_of_eq rfl) (hb hby at_170) (fun _ _ => ⟨rfl, e20, (by decide : 2 + 0 ≤ _), (by decide : 5 + 0 ≤ _)⟩)
    dsimp only [Pt.U, Pt.locs, Pt.cells, Pt.slots] at X22 l22 y22 z22 st22 hQ22
    subst l22 y22 z22
    obtain ⟨rfl, Nq22, e22⟩ := hQ22
    have N23 := Fr.app N21 Nq22
    refine own_via st22 ?_
    show own_Go p e below _ (T22.setTop (mkF m 173 #[oI p0, oI p1, oI p2, oI p3, oI p4, oI p5, oI vz, oI q1, oI q2, oI q3, oI qq, oD (FP.l2d A), .second, oD (FP.l2d B), .second, oD (FP.l2d Cc), .second, oR a1, oD (FP.l2d ((Cc + (if q2 = q3 then (0 : Int64) else B)) + (if q1 = q2 then (0 : Int64) else (if q1 = q3 then (0 : Int64) else A)))), .second] [(.double (FP.l2d (own_e q1 q1 q2 q3 A B Cc))), (.double (FP.l2d (own_sel1 q1 (own_e (0 : Int32) q1 q2 q3 A B Cc))))]))
    refine own_via (fun t kz => XS.dcmpS X22.here hx rfl (hb hby at_173) rfl (dcmpV_w (by rw [own_at1 _ _ _ _ _ _ _ hp_q1]; exact own_b53 (own_bde hbA hbB hbCc) (by decide)) (own_b53 (own_bde hbA hbB hbCc) (by decide)) .l) kz) ?_
    show own_Go p e below _ (T22.setTop (mkF m 174 #[oI p0, oI p1, oI p2, oI p3, oI p4, oI p5, oI vz, oI q1, oI q2, oI q3, oI qq, oD (FP.l2d A), .second, oD (FP.l2d B), .second, oD (FP.l2d Cc), .second, oR a1, oD (FP.l2d ((Cc + (if q2 = q3 then (0 : Int64) else B)) + (if q1 = q2 then (0 : Int64) else (if q1 = q3 then (0 : Int64) else A)))), .second] [(.int (lcmpW (own_sel1 q1 (own_e (0 : Int32) q1 q2 q3 A B Cc)) (own_e q1 q1 q2 q3 A B Cc)))]))
    refine own_via (fun t kz => XS.ifNo X22.here hx rfl (hb hby at_174) rfl ((if0 _ _).trans (teq ((lw_eq _ _).mpr (own_at1 q1 q1 q2 q3 A B Cc hp_q1))).2) kz) ?_
    refine own_via (fun t kz => XS.aload X22.here hx rfl (hb hby at_177) rfl rfl kz) ?_
    refine own_via (fun t kz => XS.iload X22.here hx rfl (hb hby at_179) rfl kz) ?_
    show own_Go p e below _ (T22.setTop (mkF m 181 #[oI p0, oI p1, oI p2, oI p3, oI p4, oI p5, oI vz, oI q1, oI q2, oI q3, oI qq, oD (FP.l2d A), .second, oD (FP.l2d B), .second, oD (FP.l2d Cc), .second, oR a1, oD (FP.l2d ((Cc + (if q2 = q3 then (0 : Int64) else B)) + (if q1 = q2 then (0 : Int64) else (if q1 = q3 then (0 : Int64) else A)))), .second] [(.int q2), (.ref a1)]))
    obtain ⟨cq24, kq24, qa24, qb24, qc24⟩ := isOf hZ e22 (own_exa1 TD13)
    obtain ⟨_, _, ⟨T24, L24, k24, n24⟩, -, X24, ⟨Lc24, hQ24, l24, y24, z24⟩, st24⟩ := X22.virtualBack hx (y := (⟨"com/example/coupewise/coupewise/WeightedDraw", "weight", "(I)D"⟩ : MethodName)) (z := (⟨"com/example/coupewise/coupewise/WeightedDraw", "weight", "(I)D"⟩ : MethodName)) hown (mvT hZ (own_w hw 23)) (mvT hZ (own_w hw 24)) (notFace_of_selects (args := #[]) (mvT hZ (own_w hw 26))) (mvT hZ (own_w hw 26)) (mvT hZ (own_w hw 25)) (by decide) (backOf (W := 0) (rm4_1 l Z a0 hw [] a1 q2 (own_e (0 : Int32) q1 q2 q3 A B Cc) T13.heap n0 Zq13 TD13 hp_q2) hZ (own_w hw 27) (own_w hw 4) (by decide) (by decide)) qa24 qc24 (g := (mkF m 181 #[oI p0, oI p1, oI p2, oI p3, oI p4, oI p5, oI vz, oI q1, oI q2, oI q3, oI qq, oD (FP.l2d A), .second, oD (FP.l2d B), .second, oD (FP.l2d Cc), .second, oR a1, oD (FP.l2d ((Cc + (if q2 = q3 then (0 : Int64) else B)) + (if q1 = q2 then (0 : Int64) else (if q1 = q3 then (0 : Int64) else A)))), .second] [(.int q2), (.ref a1)])) rfl (by rw [hml]; rfl) (Steps.refl _) (argsL := [(.int q2)]) (rest := []) (lenOf pd_0_2 rfl) rfl (by show 2 * 0 + _ ≤ _; exact Nat.le_of_eq rfl) (hb hby at_181) (fun _ _ => ⟨rfl, e22, (by decide : 2 + 0 ≤ _), (by decide : 5 + 0 ≤ _)⟩)
    dsimp only [Pt.U, Pt.locs, Pt.cells, Pt.slots] at X24 l24 y24 z24 st24 hQ24
    subst l24 y24 z24
    obtain ⟨rfl, Nq24, e24⟩ := hQ24
    have N25 := Fr.app N23 Nq24
    refine own_tr st24 ?_
    refine own_via (fun t kz => XS.iload X24.here hx rfl (hb hby at_184) rfl kz) ?_
    refine own_via (fun t kz => XS.iload X24.here hx rfl (hb hby at_186) rfl kz) ?_
    refine own_via (fun t kz => XS.iload X24.here hx rfl (hb hby at_188) rfl kz) ?_
    show own_Go p e below _ (T24.setTop (mkF m 190 #[oI p0, oI p1, oI p2, oI p3, oI p4, oI p5, oI vz, oI q1, oI q2, oI q3, oI qq, oD (FP.l2d A), .second, oD (FP.l2d B), .second, oD (FP.l2d Cc), .second, oR a1, oD (FP.l2d ((Cc + (if q2 = q3 then (0 : Int64) else B)) + (if q1 = q2 then (0 : Int64) else (if q1 = q3 then (0 : Int64) else A)))), .second] [(.int q2), (.int q1), (.int q2), (.double (FP.l2d (own_sel1 q2 (own_e (0 : Int32) q1 q2 q3 A B Cc))))]))
    refine own_via (fun t kz => XS.iload X24.here hx rfl (hb hby at_190) rfl kz) ?_
    refine own_via (fun t kz => XS.dload X24.here hx rfl (hb hby at_192) rfl kz) ?_
    refine own_via (fun t kz => XS.dload X24.here hx rfl (hb hby at_194) rfl kz) ?_
    refine own_via (fun t kz => XS.dload X24.here hx rfl (hb hby at_196) rfl kz) ?_
    show own_Go p e below _ (T24.setTop (mkF m 198 #[oI p0, oI p1, oI p2, oI p3, oI p4, oI p5, oI vz, oI q1, oI q2, oI q3, oI qq, oD (FP.l2d A), .second, oD (FP.l2d B), .second, oD (FP.l2d Cc), .second, oR a1, oD (FP.l2d ((Cc + (if q2 = q3 then (0 : Int64) else B)) + (if q1 = q2 then (0 : Int64) else (if q1 = q3 then (0 : Int64) else A)))), .second] [(.double (FP.l2d Cc)), (.double (FP.l2d B)), (.double (FP.l2d A)), (.int q3), (.int q2), (.int q1), (.int q2), (.double (FP.l2d (own_sel1 q2 (own_e (0 : Int32) q1 q2 q3 A B Cc))))]))
    obtain ⟨_, _, ⟨T26, L26, k26, n26⟩, -, X26, ⟨Lc26, hQ26, l26, y26, z26⟩, st26⟩ := Jvm.LawKit.callS X24 hx (y := (⟨"com/example/coupewise/coupewise/WeightedDrawSetPinLaw", "expected", "(IIIIDDD)D"⟩ : MethodName)) hown (mvT hZ (own_w hw 28)) (mvT hZ (own_w hw 29)) (mvT hZ (own_w hw 30)) (mvT hZ (own_w hw 31)) (by decide) (backOf (W := 2) (rm5 l Z a0 hw [] q2 q1 q2 q3 (FP.l2d A) (FP.l2d B) (FP.l2d Cc) (FP.l2d (own_e q2 q1 q2 q3 A B Cc)) T13.heap n0 Zq13 (own_exp q2 q1 q2 q3 A B Cc)) hZ (own_w hw 31) (own_w hw 30) (by decide) (by decide)) (g := (mkF m 198 #[oI p0, oI p1, oI p2, oI p3, oI p4, oI p5, oI vz, oI q1, oI q2, oI q3, oI qq, oD (FP.l2d A), .second, oD (FP.l2d B), .second, oD (FP.l2d Cc), .second, oR a1, oD (FP.l2d ((Cc + (if q2 = q3 then (0 : Int64) else B)) + (if q1 = q2 then (0 : Int64) else (if q1 = q3 then (0 : Int64) else A)))), .second] [(.double (FP.l2d Cc)), (.double (FP.l2d B)), (.double (FP.l2d A)), (.int q3), (.int q2), (.int q1), (.int q2), (.double (FP.l2d (own_sel1 q2 (own_e (0 : Int32) q1 q2 q3 A B Cc))))])) rfl (by rw [hml]; rfl) (argsL := [(.int q2), (.int q1), (.int q2), (.int q3), (.double (FP.l2d A)), (.double (FP.l2d B)), (.double (FP.l2d Cc))]) (rest := [(.double (FP.l2d (own_sel1 q2 (own_e (0 : Int32) q1 q2 q3 A B Cc))))]) (lenOf pd_0_3 rfl) rfl (by show 2 * 0 + _ ≤ _; exact Nat.le_of_eq rfl) (hb hby at_198) (fun _ _ => ⟨rfl, e24, (by decide : 2 + 0 ≤ _), (by decide : 5 + 0 ≤ _)⟩)
    dsimp only [Pt.U, Pt.locs, Pt.cells, Pt.slots] at X26 l26 y26 z26 st26 hQ26
    subst l26 y26 z26
    obtain ⟨rfl, Nq26, e26⟩ := hQ26
    have N27 := Fr.app N25 Nq26
    refine own_via st26 ?_
    show own_Go p e below _ (T26.setTop (mkF m 201 #[oI p0, oI p1, oI p2, oI p3, oI p4, oI p5, oI vz, oI q1, oI q2, oI q3, oI qq, oD (FP.l2d A), .second, oD (FP.l2d B), .second, oD (FP.l2d Cc), .second, oR a1, oD (FP.l2d ((Cc + (if q2 = q3 then (0 : Int64) else B)) + (if q1 = q2 then (0 : Int64) else (if q1 = q3 then (0 : Int64) else A)))), .second] [(.double (FP.l2d (own_e q2 q1 q2 q3 A B Cc))), (.double (FP.l2d (own_sel1 q2 (own_e (0 : Int32) q1 q2 q3 A B Cc))))]))
    refine own_via (fun t kz => XS.dcmpS X26.here hx rfl (hb hby at_201) rfl (dcmpV_w (by rw [own_at1 _ _ _ _ _ _ _ hp_q2]; exact own_b53 (own_bde hbA hbB hbCc) (by decide)) (own_b53 (own_bde hbA hbB hbCc) (by decide)) .l) kz) ?_
    show own_Go p e below _ (T26.setTop (mkF m 202 #[oI p0, oI p1, oI p2, oI p3, oI p4, oI p5, oI vz, oI q1, oI q2, oI q3, oI qq, oD (FP.l2d A), .second, oD (FP.l2d B), .second, oD (FP.l2d Cc), .second, oR a1, oD (FP.l2d ((Cc + (if q2 = q3 then (0 : Int64) else B)) + (if q1 = q2 then (0 : Int64) else (if q1 = q3 then (0 : Int64) else A)))), .second] [(.int (lcmpW (own_sel1 q2 (own_e (0 : Int32) q1 q2 q3 A B Cc)) (own_e q2 q1 q2 q3 A B Cc)))]))
    refine own_via (fun t kz => XS.ifNo X26.here hx rfl (hb hby at_202) rfl ((if0 _ _).trans (teq ((lw_eq _ _).mpr (own_at1 q2 q1 q2 q3 A B Cc hp_q2))).2) kz) ?_
    refine own_via (fun t kz => XS.aload X26.here hx rfl (hb hby at_205) rfl rfl kz) ?_
    refine own_via (fun t kz => XS.iload X26.here hx rfl (hb hby at_207) rfl kz) ?_
    show own_Go p e below _ (T26.setTop (mkF m 209 #[oI p0, oI p1, oI p2, oI p3, oI p4, oI p5, oI vz, oI q1, oI q2, oI q3, oI qq, oD (FP.l2d A), .second, oD (FP.l2d B), .second, oD (FP.l2d Cc), .second, oR a1, oD (FP.l2d ((Cc + (if q2 = q3 then (0 : Int64) else B)) + (if q1 = q2 then (0 : Int64) else (if q1 = q3 then (0 : Int64) else A)))), .second] [(.int q3), (.ref a1)]))
    obtain ⟨cq28, kq28, qa28, qb28, qc28⟩ := isOf hZ e26 (own_exa1 TD13)
    obtain ⟨_, _, ⟨T28, L28, k28, n28⟩, -, X28, ⟨Lc28, hQ28, l28, y28, z28⟩, st28⟩ := X26.virtualBack hx (y := (⟨"com/example/coupewise/coupewise/WeightedDraw", "weight", "(I)D"⟩ : MethodName)) (z := (⟨"com/example/coupewise/coupewise/WeightedDraw", "weight", "(I)D"⟩ : MethodName)) hown (mvT hZ (own_w hw 23)) (mvT hZ (own_w hw 24)) (notFace_of_selects (args := #[]) (mvT hZ (own_w hw 26))) (mvT hZ (own_w hw 26)) (mvT hZ (own_w hw 25)) (by decide) (backOf (W := 0) (rm4_1 l Z a0 hw [] a1 q3 (own_e (0 : Int32) q1 q2 q3 A B Cc) T13.heap n0 Zq13 TD13 hp_q3) hZ (own_w hw 27) (own_w hw 4) (by decide) (by decide)) qa28 qc28 (g := (mkF m 209 #[oI p0, oI p1, oI p2, oI p3, oI p4, oI p5, oI vz, oI q1, oI q2, oI q3, oI qq, oD (FP.l2d A), .second, oD (FP.l2d B), .second, oD (FP.l2d Cc), .second, oR a1, oD (FP.l2d ((Cc + (if q2 = q3 then (0 : Int64) else B)) + (if q1 = q2 then (0 : Int64) else (if q1 = q3 then (0 : Int64) else A)))), .second] [(.int q3), (.ref a1)])) rfl (by rw [hml]; rfl) (Steps.refl _) (argsL := [(.int q3)]) (rest := []) (lenOf pd_0_2 rfl) rfl (by show 2 * 0 + _ ≤ _; exact Nat.le_of_eq rfl) (hb hby at_209) (fun _ _ => ⟨rfl, e26, (by decide : 2 + 0 ≤ _), (by decide : 5 + 0 ≤ _)⟩)
    dsimp only [Pt.U, Pt.locs, Pt.cells, Pt.slots] at X28 l28 y28 z28 st28 hQ28
    subst l28 y28 z28
    obtain ⟨rfl, Nq28, e28⟩ := hQ28
    have N29 := Fr.app N27 Nq28
    refine own_tr st28 ?_
    refine own_via (fun t kz => XS.dload X28.here hx rfl (hb hby at_212) rfl kz) ?_
    show own_Go p e below _ (T28.setTop (mkF m 214 #[oI p0, oI p1, oI p2, oI p3, oI p4, oI p5, oI vz, oI q1, oI q2, oI q3, oI qq, oD (FP.l2d A), .second, oD (FP.l2d B), .second, oD (FP.l2d Cc), .second, oR a1, oD (FP.l2d ((Cc + (if q2 = q3 then (0 : Int64) else B)) + (if q1 = q2 then (0 : Int64) else (if q1 = q3 then (0 : Int64) else A)))), .second] [(.double (FP.l2d Cc)), (.double (FP.l2d (own_sel1 q3 (own_e (0 : Int32) q1 q2 q3 A B Cc))))]))
    refine own_via (fun t kz => XS.dcmpS X28.here hx rfl (hb hby at_214) rfl (dcmpV_w (by rw [own_at1 _ _ _ _ _ _ _ hp_q3]; exact own_b53 (own_bde hbA hbB hbCc) (by decide)) (own_b53 hbCc (by decide)) .l) kz) ?_
    show own_Go p e below _ (T28.setTop (mkF m 215 #[oI p0, oI p1, oI p2, oI p3, oI p4, oI p5, oI vz, oI q1, oI q2, oI q3, oI qq, oD (FP.l2d A), .second, oD (FP.l2d B), .second, oD (FP.l2d Cc), .second, oR a1, oD (FP.l2d ((Cc + (if q2 = q3 then (0 : Int64) else B)) + (if q1 = q2 then (0 : Int64) else (if q1 = q3 then (0 : Int64) else A)))), .second] [(.int (lcmpW (own_sel1 q3 (own_e (0 : Int32) q1 q2 q3 A B Cc)) Cc))]))
    refine own_via (fun t kz => XS.ifNo X28.here hx rfl (hb hby at_215) rfl ((if0 _ _).trans (teq ((lw_eq _ _).mpr ((own_at1 q3 q1 q2 q3 A B Cc hp_q3).trans (if_pos rfl)))).2) kz) ?_
    refine own_via (fun t kz => XS.aload X28.here hx rfl (hb hby at_218) rfl rfl kz) ?_
    refine own_via (fun t kz => XS.iload X28.here hx rfl (hb hby at_220) rfl kz) ?_
    show own_Go p e below _ (T28.setTop (mkF m 222 #[oI p0, oI p1, oI p2, oI p3, oI p4, oI p5, oI vz, oI q1, oI q2, oI q3, oI qq, oD (FP.l2d A), .second, oD (FP.l2d B), .second, oD (FP.l2d Cc), .second, oR a1, oD (FP.l2d ((Cc + (if q2 = q3 then (0 : Int64) else B)) + (if q1 = q2 then (0 : Int64) else (if q1 = q3 then (0 : Int64) else A)))), .second] [(.int qq), (.ref a1)]))
    obtain ⟨cq30, kq30, qa30, qb30, qc30⟩ := isOf hZ e28 (own_exa1 TD13)
    obtain ⟨_, _, ⟨T30, L30, k30, n30⟩, -, X30, ⟨Lc30, hQ30, l30, y30, z30⟩, st30⟩ := X28.virtualBack hx (y := (⟨"com/example/coupewise/coupewise/WeightedDraw", "weight", "(I)D"⟩ : MethodName)) (z := (⟨"com/example/coupewise/coupewise/WeightedDraw", "weight", "(I)D"⟩ : MethodName)) hown (mvT hZ (own_w hw 23)) (mvT hZ (own_w hw 24)) (notFace_of_selects (args := #[]) (mvT hZ (own_w hw 26))) (mvT hZ (own_w hw 26)) (mvT hZ (own_w hw 25)) (by decide) (backOf (W := 0) (rm4_1 l Z a0 hw [] a1 qq (own_e (0 : Int32) q1 q2 q3 A B Cc) T13.heap n0 Zq13 TD13 hp_qq) hZ (own_w hw 27) (own_w hw 4) (by decide) (by decide)) qa30 qc30 (g := (mkF m 222 #[oI p0, oI p1, oI p2, oI p3, oI p4, oI p5, oI vz, oI q1, oI q2, oI q3, oI qq, oD (FP.l2d A), .second, oD (FP.l2d B), .second, oD (FP.l2d Cc), .second, oR a1, oD (FP.l2d ((Cc + (if q2 = q3 then (0 : Int64) else B)) + (if q1 = q2 then (0 : Int64) else (if q1 = q3 then (0 : Int64) else A)))), .second] [(.int qq), (.ref a1)])) rfl (by rw [hml]; rfl) (Steps.refl _) (argsL := [(.int qq)]) (rest := []) (lenOf pd_0_2 rfl) rfl (by show 2 * 0 + _ ≤ _; exact Nat.le_of_eq rfl) (hb hby at_222) (fun _ _ => ⟨rfl, e28, (by decide : 2 + 0 ≤ _), (by decide : 5 + 0 ≤ _)⟩)
    dsimp only [Pt.U, Pt.locs, Pt.cells, Pt.slots] at X30 l30 y30 z30 st30 hQ30
    subst l30 y30 z30
    obtain ⟨rfl, Nq30, e30⟩ := hQ30
    have N31 := Fr.app N29 Nq30
    refine own_tr st30 ?_
    refine own_via (fun t kz => XS.iload X30.here hx rfl (hb hby at_225) rfl kz) ?_
    refine own_via (fun t kz => XS.iload X30.here hx rfl (hb hby at_227) rfl kz) ?_
    refine own_via (fun t kz => XS.iload X30.here hx rfl (hb hby at_229) rfl kz) ?_
    show own_Go p e below _ (T30.setTop (mkF m 231 #[oI p0, oI p1, oI p2, oI p3, oI p4, oI p5, oI vz, oI q1, oI q2, oI q3, oI qq, oD (FP.l2d A), .second, oD (FP.l2d B), .second, oD (FP.l2d Cc), .second, oR a1, oD (FP.l2d ((Cc + (if q2 = q3 then (0 : Int64) else B)) + (if q1 = q2 then (0 : Int64) else (if q1 = q3 then (0 : Int64) else A)))), .second] [(.int q2), (.int q1), (.int qq), (.double (FP.l2d (own_sel1 qq (own_e (0 : Int32) q1 q2 q3 A B Cc))))]))
    refine own_via (fun t kz => XS.iload X30.here hx rfl (hb hby at_231) rfl kz) ?_
    refine own_via (fun t kz => XS.dload X30.here hx rfl (hb hby at_233) rfl kz) ?_
    refine own_via (fun t kz => XS.dload X30.here hx rfl (hb hby at_235) rfl kz) ?_
    refine own_via (fun t kz => XS.dload X30.here hx rfl (hb hby at_237) rfl kz) ?_
    show own_Go p e below _ (T30.setTop (mkF m 239 #[oI p0, oI p1, oI p2, oI p3, oI p4, oI p5, oI vz, oI q1, oI q2, oI q3, oI qq, oD (FP.l2d A), .second, oD (FP.l2d B), .second, oD (FP.l2d Cc), .second, oR a1, oD (FP.l2d ((Cc + (if q2 = q3 then (0 : Int64) else B)) + (if q1 = q2 then (0 : Int64) else (if q1 = q3 then (0 : Int64) else A)))), .second] [(.double (FP.l2d Cc)), (.double (FP.l2d B)), (.double (FP.l2d A)), (.int q3), (.int q2), (.int q1), (.int qq), (.double (FP.l2d (own_sel1 qq (own_e (0 : Int32) q1 q2 q3 A B Cc))))]))
    obtain ⟨_, _, ⟨T32, L32, k32, n32⟩, -, X32, ⟨Lc32, hQ32, l32, y32, z32⟩, st32⟩ := Jvm.LawKit.callS X30 hx (y := (⟨"com/example/coupewise/coupewise/WeightedDrawSetPinLaw", "expected", "(IIIIDDD)D"⟩ : MethodName)) hown (mvT hZ (own_w hw 28)) (mvT hZ (own_w hw 29)) (mvT hZ (own_w hw 30)) (mvT hZ (own_w hw 31)) (by decide) (backOf (W := 2) (rm5 l Z a0 hw [] qq q1 q2 q3 (FP.l2d A) (FP.l2d B) (FP.l2d Cc) (FP.l2d (own_e qq q1 q2 q3 A B Cc)) T13.heap n0 Zq13 (own_exp qq q1 q2 q3 A B Cc)) hZ (own_w hw 31) (own_w hw 30) (by decide) (by decide)) (g := (mkF m 239 #[oI p0, oI p1, oI p2, oI p3, oI p4, oI p5, oI vz, oI q1, oI q2, oI q3, oI qq, oD (FP.l2d A), .second, oD (FP.l2d B), .second, oD (FP.l2d Cc), .second, oR a1, oD (FP.l2d ((Cc + (if q2 = q3 then (0 : Int64) else B)) + (if q1 = q2 then (0 : Int64) else (if q1 = q3 then (0 : Int64) else A)))), .second] [(.double (FP.l2d Cc)), (.double (FP.l2d B)), (.double (FP.l2d A)), (.int q3), (.int q2), (.int q1), (.int qq), (.double (FP.l2d (own_sel1 qq (own_e (0 : Int32) q1 q2 q3 A B Cc))))])) rfl (by rw [hml]; rfl) (argsL := [(.int qq), (.int q1), (.int q2), (.int q3), (.double (FP.l2d A)), (.double (FP.l2d B)), (.double (FP.l2d Cc))]) (rest := [(.double (FP.l2d (own_sel1 qq (own_e (0 : Int32) q1 q2 q3 A B Cc))))]) (lenOf pd_0_3 rfl) rfl (by show 2 * 0 + _ ≤ _; exact Nat.le_of_eq rfl) (hb hby at_239) (fun _ _ => ⟨rfl, e30, (by decide : 2 + 0 ≤ _), (by decide : 5 + 0 ≤ _)⟩)
    dsimp only [Pt.U, Pt.locs, Pt.cells, Pt.slots] at X32 l32 y32 z32 st32 hQ32
    subst l32 y32 z32
    obtain ⟨rfl, Nq32, e32⟩ := hQ32
    have N33 := Fr.app N31 Nq32
    refine own_via st32 ?_
    show own_Go p e below _ (T32.setTop (mkF m 242 #[oI p0, oI p1, oI p2, oI p3, oI p4, oI p5, oI vz, oI q1, oI q2, oI q3, oI qq, oD (FP.l2d A), .second, oD (FP.l2d B), .second, oD (FP.l2d Cc), .second, oR a1, oD (FP.l2d ((Cc + (if q2 = q3 then (0 : Int64) else B)) + (if q1 = q2 then (0 : Int64) else (if q1 = q3 then (0 : Int64) else A)))), .second] [(.double (FP.l2d (own_e qq q1 q2 q3 A B Cc))), (.double (FP.l2d (own_sel1 qq (own_e (0 : Int32) q1 q2 q3 A B Cc))))]))
    refine own_via (fun t kz => XS.dcmpS X32.here hx rfl (hb hby at_242) rfl (dcmpV_w (by rw [own_at1 _ _ _ _ _ _ _ hp_qq]; exact own_b53 (own_bde hbA hbB hbCc) (by decide)) (own_b53 (own_bde hbA hbB hbCc) (by decide)) .l) kz) ?_
    show own_Go p e below _ (T32.setTop (mkF m 243 #[oI p0, oI p1, oI p2, oI p3, oI p4, oI p5, oI vz, oI q1, oI q2, oI q3, oI qq, oD (FP.l2d A), .second, oD (FP.l2d B), .second, oD (FP.l2d Cc), .second, oR a1, oD (FP.l2d ((Cc + (if q2 = q3 then (0 : Int64) else B)) + (if q1 = q2 then (0 : Int64) else (if q1 = q3 then (0 : Int64) else A)))), .second] [(.int (lcmpW (own_sel1 qq (own_e (0 : Int32) q1 q2 q3 A B Cc)) (own_e qq q1 q2 q3 A B Cc)))]))
    refine own_via (fun t kz => XS.ifNo X32.here hx rfl (hb hby at_243) rfl ((if0 _ _).trans (teq ((lw_eq _ _).mpr (own_at1 qq q1 q2 q3 A B Cc hp_qq))).2) kz) ?_
    refine own_via (fun t kz => XS.aload X32.here hx rfl (hb hby at_246) rfl rfl kz) ?_
    show own_Go p e below _ (T32.setTop (mkF m 248 #[oI p0, oI p1, oI p2, oI p3, oI p4, oI p5, oI vz, oI q1, oI q2, oI q3, oI qq, oD (FP.l2d A), .second, oD (FP.l2d B), .second, oD (FP.l2d Cc), .second, oR a1, oD (FP.l2d ((Cc + (if q2 = q3 then (0 : Int64) else B)) + (if q1 = q2 then (0 : Int64) else (if q1 = q3 then (0 : Int64) else A)))), .second] [(.ref a1)]))
    obtain ⟨cq34, kq34, qa34, qb34, qc34⟩ := isOf hZ e32 (own_exa1 TD13)
    obtain ⟨_, _, ⟨T34, L34, k34, n34⟩, -, X34, ⟨Lc34, hQ34, l34, y34, z34⟩, st34⟩ := X32.virtualBack hx (y := (⟨"com/example/coupewise/coupewise/WeightedDraw", "total", "()D"⟩ : MethodName)) (z := (⟨"com/example/coupewise/coupewise/WeightedDraw", "total", "()D"⟩ : MethodName)) hown (mvT hZ (own_w hw 32)) (mvT hZ (own_w hw 33)) (notFace_of_selects (args := #[]) (mvT hZ (own_w hw 35))) (mvT hZ (own_w hw 35)) (mvT hZ (own_w hw 34)) (by decide) (backOf (W := 0) (rm6_1 l Z a0 hw [] a1 (own_e (0 : Int32) q1 q2 q3 A B Cc) T13.heap n0 Zq13 TD13) hZ (own_w hw 36) (own_w hw 4) (by decide) (by decide)) qa34 qc34 (g := (mkF m 248 #[oI p0, oI p1, oI p2, oI p3, oI p4, oI p5, oI vz, oI q1, oI q2, oI q3, oI qq, oD (FP.l2d A), .second, oD (FP.l2d B), .second, oD (FP.l2d Cc), .second, oR a1, oD (FP.l2d ((Cc + (if q2 = q3 then (0 : Int64) else B)) + (if q1 = q2 then (0 : Int64) else (if q1 = q3 then (0 : Int64) else A)))), .second] [(.ref a1)])) rfl (by rw [hml]; rfl) (Steps.refl _) (argsL := []) (rest := []) (lenOf pd_0_4 rfl) rfl (by show 2 * 0 + _ ≤ _; exact Nat.le_of_eq rfl) (hb hby at_248) (fun _ _ => ⟨rfl, e32, (by decide : 2 + 0 ≤ _), (by decide : 5 + 0 ≤ _)⟩)
    dsimp only [Pt.U, Pt.locs, Pt.cells, Pt.slots] at X34 l34 y34 z34 st34 hQ34
    subst l34 y34 z34
    obtain ⟨rfl, Nq34, e34⟩ := hQ34
    have N35 := Fr.app N33 Nq34
    refine own_tr st34 ?_
    refine own_via (fun t kz => XS.dload X34.here hx rfl (hb hby at_251) rfl kz) ?_
    show own_Go p e below _ (T34.setTop (mkF m 253 #[oI p0, oI p1, oI p2, oI p3, oI p4, oI p5, oI vz, oI q1, oI q2, oI q3, oI qq, oD (FP.l2d A), .second, oD (FP.l2d B), .second, oD (FP.l2d Cc), .second, oR a1, oD (FP.l2d ((Cc + (if q2 = q3 then (0 : Int64) else B)) + (if q1 = q2 then (0 : Int64) else (if q1 = q3 then (0 : Int64) else A)))), .second] [(.double (FP.l2d ((Cc + (if q2 = q3 then (0 : Int64) else B)) + (if q1 = q2 then (0 : Int64) else (if q1 = q3 then (0 : Int64) else A))))), (.double (FP.l2d (own_e (0 : Int32) q1 q2 q3 A B Cc)))]))
    refine own_via (fun t kz => XS.dcmpS X34.here hx rfl (hb hby at_253) rfl (dcmpV_w (own_b53 (own_bde hbA hbB hbCc) (by decide)) (own_b53 (own_bda (own_bda hbCc (own_bdi own_bd0 hbB) (by decide)) (own_bdi own_bd0 (own_bdi own_bd0 hbA)) (by decide)) (by decide)) .l) kz) ?_
    show own_Go p e below _ (T34.setTop (mkF m 254 #[oI p0, oI p1, oI p2, oI p3, oI p4, oI p5, oI vz, oI q1, oI q2, oI q3, oI qq, oD (FP.l2d A), .second, oD (FP.l2d B), .second, oD (FP.l2d Cc), .second, oR a1, oD (FP.l2d ((Cc + (if q2 = q3 then (0 : Int64) else B)) + (if q1 = q2 then (0 : Int64) else (if q1 = q3 then (0 : Int64) else A)))), .second] [(.int (lcmpW (own_e (0 : Int32) q1 q2 q3 A B Cc) ((Cc + (if q2 = q3 then (0 : Int64) else B)) + (if q1 = q2 then (0 : Int64) else (if q1 = q3 then (0 : Int64) else A)))))]))
    refine own_via (fun t kz => XS.ifNo X34.here hx rfl (hb hby at_254) rfl ((if0 _ _).trans (teq ((lw_eq _ _).mpr (own_tot1 q1 q2 q3 A B Cc hp_q1 hp_q2 hp_q3))).2) kz) ?_
    refine own_via (fun t kz => XS.iconst X34.here hx rfl (hb hby at_257) kz) ?_
    refine own_via (fun t kz => XS.goto X34.here hx rfl (pc0 := 258) (pc' := 262) rfl (hb hby at_258) (by decide) (by decide) kz) ?_
    show own_Go p e below _ (T34.setTop (mkF m 262 #[oI p0, oI p1, oI p2, oI p3, oI p4, oI p5, oI vz, oI q1, oI q2, oI q3, oI qq, oD (FP.l2d A), .second, oD (FP.l2d B), .second, oD (FP.l2d Cc), .second, oR a1, oD (FP.l2d ((Cc + (if q2 = q3 then (0 : Int64) else B)) + (if q1 = q2 then (0 : Int64) else (if q1 = q3 then (0 : Int64) else A)))), .second] [(.int (1 : Int32))]))
    obtain ⟨fs, hr, hrun, hended, hW, hsame⟩ := X34.leave (v := some (.int (1 : Int32))) (fun h => by rw [Bd.returns] at h; cases h)
    refine ⟨_, _, retN X34 hx (t := .boolean) Bd.returns (by simp) (hb hby at_262) hr, hrun, hended, _, _, rfl, ?_, ⟨_, rfl⟩, hW, hsame.mono (by decide) (by decide)⟩
    show Q0 Z p0 p1 p2 p3 p4 p5 h0 n0 _ T34.heap _
    rw [e34]
    exact ⟨rfl, N35⟩
  · have hp_q1 := own_in2 hq1 hs
    have hp_q2 := own_in2 hq2 hs
    have hp_q3 := own_in2 hq3 hs
    have hp_qq := own_in2 hqq hs
    show own_Go p e below _ (s₁.setTop (mkF m 72 #[oI p0, oI p1, oI p2, oI p3, oI p4, oI p5, oI vz, oI q1, oI q2, oI q3, oI qq, oD (FP.l2d A), .second, oD (FP.l2d B), .second, oD (FP.l2d Cc), .second, .unset, .unset, .unset] []))
    obtain ⟨T37, h37, X37, e37, E37, A37, D37, -, st37⟩ := newO X0 hx hZ hown (own_w hw 2) (own_w hw 3) (own_w hw 4) e0 (g := (mkF m 72 #[oI p0, oI p1, oI p2, oI p3, oI p4, oI p5, oI vz, oI q1, oI q2, oI q3, oI qq, oD (FP.l2d A), .second, oD (FP.l2d B), .second, oD (FP.l2d Cc), .second, .unset, .unset, .unset] [])) rfl (hb hby at_72) (by decide) (by decide)
    obtain ⟨a37, g37⟩ : ∃ z, z = h0.size := ⟨_, rfl⟩
    rw [← g37] at A37 D37 st37
    refine own_via st37 ?_
    have fr38 : n0 ≤ a37 := Nat.le_trans Z0 (Nat.le_of_eq g37.symm)
    have Zs39 : n0 ≤ h37.size := Nat.le_trans Z0 E37.1
    have F40 : Fld Z h37 a37 "com/example/coupewise/coupewise/WeightedDraw" "size" "I" (.int (0 : Int32)) := D37 (Or.inr (own_w hw 12)) (ty := .int) (by decide)
    have F41 : Fld Z h37 a37 "com/example/coupewise/coupewise/WeightedDraw" "leaves" "I" (.int (0 : Int32)) := D37 (Or.inr (own_w hw 14)) (ty := .int) (by decide)
    have F42 : Fld Z h37 a37 "com/example/coupewise/coupewise/WeightedDraw" "sums" "[D" .null := D37 (Or.inr (own_w hw 17)) (ty := (.array .double)) (by decide)
    refine own_via (fun t kz => XS.dup X37.here hx rfl (hb hby at_75) rfl rfl kz) ?_
    refine own_via (fun t kz => XS.iload X37.here hx rfl (hb hby at_76) rfl kz) ?_
    show own_Go p e below _ (T37.setTop (mkF m 78 #[oI p0, oI p1, oI p2, oI p3, oI p4, oI p5, oI vz, oI q1, oI q2, oI q3, oI qq, oD (FP.l2d A), .second, oD (FP.l2d B), .second, oD (FP.l2d Cc), .second, .unset, .unset, .unset] [(.int vz), (.ref a37), (.ref a37)]))
    obtain ⟨_, _, ⟨T43, L43, k43, n43⟩, -, X43, ⟨Lc43, hQ43, l43, y43, z43⟩, st43⟩ := X37.specialBack hx (y := (⟨"com/example/coupewise/coupewise/WeightedDraw", "<init>", "(I)V"⟩ : MethodName)) rfl hown (mvT hZ (own_w hw 5)) (mvT hZ (own_w hw 6)) (mvT hZ (own_w hw 7)) (by decide) (backOf (W := 1) (rm1_2 l Z a0 hw [] a37 vz h37 n0 Zs39 fr38 A37 F40 F41 F42 hs) hZ (own_w hw 7) (own_w hw 4) (by decide) (by decide)) (g := (mkF m 78 #[oI p0, oI p1, oI p2, oI p3, oI p4, oI p5, oI vz, oI q1, oI q2, oI q3, oI qq, oD (FP.l2d A), .second, oD (FP.l2d B), .second, oD (FP.l2d Cc), .second, .unset, .unset, .unset] [(.int vz), (.ref a37), (.ref a37)])) rfl (by rw [hml]; rfl) (Steps.refl _) (a := a37) (argsL := [(.int vz)]) (rest := [(.ref a37)]) (lenOf pd_0_0 rfl) rfl (by show 2 * 0 + _ ≤ _; exact Nat.le_of_eq rfl) (hb hby at_78) (fun _ _ => ⟨rfl, e37, (by decide : 1 + 1 ≤ _), (by decide : 3 + 4 ≤ _)⟩)
    dsimp only [Pt.U, Pt.locs, Pt.cells, Pt.slots] at X43 l43 y43 z43 st43 hQ43
    subst l43 y43 z43
    obtain ⟨rfl, Nq43, Zq43, TC43⟩ := hQ43
    have N44 := Fr.app N0 Nq43
    refine own_tr st43 ?_
    refine own_via (fun t kz => XS.astore X43.here hx rfl (hb hby at_81) rfl rfl (l' := #[oI p0, oI p1, oI p2, oI p3, oI p4, oI p5, oI vz, oI q1, oI q2, oI q3, oI qq, oD (FP.l2d A), .second, oD (FP.l2d B), .second, oD (FP.l2d Cc), .second, oR a37, .unset, .unset]) rfl kz) ?_
    refine own_via (fun t kz => XS.aload X43.here hx rfl (hb hby at_83) rfl rfl kz) ?_
    refine own_via (fun t kz => XS.iload X43.here hx rfl (hb hby at_85) rfl kz) ?_
    show own_Go p e below _ (T43.setTop (mkF m 87 #[oI p0, oI p1, oI p2, oI p3, oI p4, oI p5, oI vz, oI q1, oI q2, oI q3, oI qq, oD (FP.l2d A), .second, oD (FP.l2d B), .second, oD (FP.l2d Cc), .second, oR a37, .unset, .unset] [(.int q1), (.ref a37)]))
    refine own_via (fun t kz => XS.dload X43.here hx rfl (hb hby at_87) rfl kz) ?_
    show own_Go p e below _ (T43.setTop (mkF m 89 #[oI p0, oI p1, oI p2, oI p3, oI p4, oI p5, oI vz, oI q1, oI q2, oI q3, oI qq, oD (FP.l2d A), .second, oD (FP.l2d B), .second, oD (FP.l2d Cc), .second, oR a37, .unset, .unset] [(.double (FP.l2d A)), (.int q1), (.ref a37)]))
    obtain ⟨cq45, kq45, qa45, qb45, qc45⟩ := isOf hZ rfl (own_exa2 TC43)
    obtain ⟨_, _, ⟨T45, L45, k45, n45⟩, -, X45, ⟨Lc45, hQ45, l45, y45, z45⟩, st45⟩ := X43.virtualBack hx (y := (⟨"com/example/coupewise/coupewise/WeightedDraw", "set", "(ID)V"⟩ : MethodName)) (z := (⟨"com/example/coupewise/coupewise/WeightedDraw", "set", "(ID)V"⟩ : MethodName)) hown (mvT hZ (own_w hw 18)) (mvT hZ (own_w hw 19)) (notFace_of_selects (args := #[]) (mvT hZ (own_w hw 21))) (mvT hZ (own_w hw 21)) (mvT hZ (own_w hw 20)) (by decide) (backOf (W := 0) (rm3_2 l Z a0 hw [] a37 q1 A (0 : Int64) (0 : Int64) T43.heap n0 Zq43 TC43 hp_q1 hbA own_bd0 own_bd0) hZ (own_w hw 22) (own_w hw 4) (by decide) (by decide)) qa45 qc45 (g := (mkF m 89 #[oI p0, oI p1, oI p2, oI p3, oI p4, oI p5, oI vz, oI q1, oI q2, oI q3, oI qq, oD (FP.l2d A), .second, oD (FP.l2d B), .second, oD (FP.l2d Cc), .second, oR a37, .unset, .unset] [(.double (FP.l2d A)), (.int q1), (.ref a37)])) rfl (by rw [hml]; rfl) (Steps.refl _) (argsL := [(.int q1), (.double (FP.l2d A))]) (rest := []) (lenOf pd_0_1 rfl) rfl (by show 2 * 0 + _ ≤ _; exact Nat.le_of_eq rfl) (hb hby at_89) (fun _ _ => ⟨rfl, rfl, (by decide : 2 + 0 ≤ _), (by decide : 7 + 0 ≤ _)⟩)
    dsimp only [Pt.U, Pt.locs, Pt.cells, Pt.slots] at X45 l45 y45 z45 st45 hQ45
    subst l45 y45 z45
    obtain ⟨rfl, Nq45, Zq45, TC45⟩ := hQ45
    have N46 := Fr.app N44 Nq45
    refine own_tr st45 ?_
    refine own_via (fun t kz => XS.aload X45.here hx rfl (hb hby at_92) rfl rfl kz) ?_
    refine own_via (fun t kz => XS.iload X45.here hx rfl (hb hby at_94) rfl kz) ?_
    refine own_via (fun t kz => XS.dload X45.here hx rfl (hb hby at_96) rfl kz) ?_
    show own_Go p e below _ (T45.setTop (mkF m 98 #[oI p0, oI p1, oI p2, oI p3, oI p4, oI p5, oI vz, oI q1, oI q2, oI q3, oI qq, oD (FP.l2d A), .second, oD (FP.l2d B), .second, oD (FP.l2d Cc), .second, oR a37, .unset, .unset] [(.double (FP.l2d B)), (.int q2), (.ref a37)]))
    obtain ⟨cq47, kq47, qa47, qb47, qc47⟩ := isOf hZ rfl (own_exa2 TC45)
    obtain ⟨_, _, ⟨T47, L47, k47, n47⟩, -, X47, ⟨Lc47, hQ47, l47, y47, z47⟩, st47⟩ := X45.virtualBack hx (y := (⟨"com/example/coupewise/coupewise/WeightedDraw", "set", "(ID)V"⟩ : MethodName)) (z := (⟨"com/example/coupewise/coupewise/WeightedDraw", "set", "(ID)V"⟩ : MethodName)) hown (mvT hZ (own_w hw 18)) (mvT hZ (own_w hw 19)) (notFace_of_selects (args := #[]) (mvT hZ (own_w hw 21))) (mvT hZ (own_w hw 21)) (mvT hZ (own_w hw 20)) (by decide) (backOf (W := 0) (rm3_2 l Z a0 hw [] a37 q2 B (if q1 = (0 : Int32) then A else (0 : Int64)) (if q1 = (1 : Int32) then A else (0 : Int64)) T45.heap n0 Zq45 TC45 hp_q2 hbB (own_bdi hbA own_bd0) (own_bdi hbA own_bd0)) hZ (own_w hw 22) (own_w hw 4) (by decide) (by decide)) qa47 qc47 (g := (mkF m 98 #[oI p0, oI p1, oI p2, oI p3, oI p4, oI p5, oI vz, oI q1, oI q2, oI q3, oI qq, oD (FP.l2d A), .second, oD (FP.l2d B), .second, oD (FP.l2d Cc), .second, oR a37, .unset, .unset] [(.double (FP.l2d B)), (.int q2), (.ref a37)])) rfl (by rw [hml]; rfl) (Steps.refl _) (argsL := [(.int q2), (.double (FP.l2d B))]) (rest := []) (lenOf pd_0_1 rfl) rfl (by show 2 * 0 + _ ≤ _; exact Nat.le_of_eq rfl) (hb hby at_98) (fun _ _ => ⟨rfl, rfl, (by decide : 2 + 0 ≤ _), (by decide : 7 + 0 ≤ _)⟩)
    dsimp only [Pt.U, Pt.locs, Pt.cells, Pt.slots] at X47 l47 y47 z47 st47 hQ47
    subst l47 y47 z47
    obtain ⟨rfl, Nq47, Zq47, TC47⟩ := hQ47
    have N48 := Fr.app N46 Nq47
    refine own_tr st47 ?_
    refine own_via (fun t kz => XS.aload X47.here hx rfl (hb hby at_101) rfl rfl kz) ?_
    refine own_via (fun t kz => XS.iload X47.here hx rfl (hb hby at_103) rfl kz) ?_
    refine own_via (fun t kz => XS.dload X47.here hx rfl (hb hby at_105) rfl kz) ?_
    show own_Go p e below _ (T47.setTop (mkF m 107 #[oI p0, oI p1, oI p2, oI p3, oI p4, oI p5, oI vz, oI q1, oI q2, oI q3, oI qq, oD (FP.l2d A), .second, oD (FP.l2d B), .second, oD (FP.l2d Cc), .second, oR a37, .unset, .unset] [(.double (FP.l2d Cc)), (.int q3), (.ref a37)]))
    obtain ⟨cq49, kq49, qa49, qb49, qc49⟩ := isOf hZ rfl (own_exa2 TC47)
    obtain ⟨_, _, ⟨T49, L49, k49, n49⟩, -, X49, ⟨Lc49, hQ49, l49, y49, z49⟩, st49⟩ := X47.virtualBack hx (y := (⟨"com/example/coupewise/coupewise/WeightedDraw", "set", "(ID)V"⟩ : MethodName)) (z := (⟨"com/example/coupewise/coupewise/WeightedDraw", "set", "(ID)V"⟩ : MethodName)) hown (mvT hZ (own_w hw 18)) (mvT hZ (own_w hw 19)) (notFace_of_selects (args := #[]) (mvT hZ (own_w hw 21))) (mvT hZ (own_w hw 21)) (mvT hZ (own_w hw 20)) (by decide) (backOf (W := 0) (rm3_2 l Z a0 hw [] a37 q3 Cc (if q2 = (0 : Int32) then B else (if q1 = (0 : Int32) then A else (0 : Int64))) (if q2 = (1 : Int32) then B else (if q1 = (1 : Int32) then A else (0 : Int64))) T47.heap n0 Zq47 TC47 hp_q3 hbCc (own_bdi hbB (own_bdi hbA own_bd0)) (own_bdi hbB (own_bdi hbA own_bd0))) hZ (own_w hw 22) (own_w hw 4) (by decide) (by decide)) qa49 qc49 (g := (mkF m 107 #[oI p0, oI p1, oI p2, oI p3, oI p4, oI p5, oI vz, oI q1, oI q2, oI q3, oI qq, oD (FP.l2d A), .second, oD (FP.l2d B), .second, oD (FP.l2d Cc), .second, oR a37, .unset, .unset] [(.double (FP.l2d Cc)), (.int q3), (.ref a37)])) rfl (by rw [hml]; rfl) (Steps.refl _) (argsL := [(.int q3), (.double (FP.l2d Cc))]) (rest := []) (lenOf pd_0_1 rfl) rfl (by show 2 * 0 + _ ≤ _; exact Nat.le_of_eq rfl) (hb hby at_107) (fun _ _ => ⟨rfl, rfl, (by decide : 2 + 0 ≤ _), (by decide : 7 + 0 ≤ _)⟩)
    dsimp only [Pt.U, Pt.locs, Pt.cells, Pt.slots] at X49 l49 y49 z49 st49 hQ49
    subst l49 y49 z49
    obtain ⟨rfl, Nq49, Zq49, TC49⟩ := hQ49
    have N50 := Fr.app N48 Nq49
    refine own_tr st49 ?_
    have TD49 : own_W2 Z T49.heap n0 a37 (own_e (0 : Int32) q1 q2 q3 A B Cc) (own_e (1 : Int32) q1 q2 q3 A B Cc) := TC49
    refine own_via (fun t kz => XS.dload X49.here hx rfl (hb hby at_110) rfl kz) ?_
    refine own_via (fun t kz => XS.iload X49.here hx rfl (hb hby at_112) rfl kz) ?_
    refine own_via (fun t kz => XS.iload X49.here hx rfl (hb hby at_114) rfl kz) ?_
    show own_Go p e below _ (T49.setTop (mkF m 116 #[oI p0, oI p1, oI p2, oI p3, oI p4, oI p5, oI vz, oI q1, oI q2, oI q3, oI qq, oD (FP.l2d A), .second, oD (FP.l2d B), .second, oD (FP.l2d Cc), .second, oR a37, .unset, .unset] [(.int q3), (.int q2), (.double (FP.l2d Cc))]))
    have jn52 : ∀ t, Steps p.tables e below (T49.setTop (mkF m 125 #[oI p0, oI p1, oI p2, oI p3, oI p4, oI p5, oI vz, oI q1, oI q2, oI q3, oI qq, oD (FP.l2d A), .second, oD (FP.l2d B), .second, oD (FP.l2d Cc), .second, oR a37, .unset, .unset] [(.double (FP.l2d (if q2 = q3 then (0 : Int64) else B))), (.double (FP.l2d Cc))])) t → Steps p.tables e below (T49.setTop (mkF m 116 #[oI p0, oI p1, oI p2, oI p3, oI p4, oI p5, oI vz, oI q1, oI q2, oI q3, oI qq, oD (FP.l2d A), .second, oD (FP.l2d B), .second, oD (FP.l2d Cc), .second, oR a37, .unset, .unset] [(.int q3), (.int q2), (.double (FP.l2d Cc))])) t := by
      intro t k
      show Steps p.tables e below (T49.setTop (mkF m 116 #[oI p0, oI p1, oI p2, oI p3, oI p4, oI p5, oI vz, oI q1, oI q2, oI q3, oI qq, oD (FP.l2d A), .second, oD (FP.l2d B), .second, oD (FP.l2d Cc), .second, oR a37, .unset, .unset] [(.int q3), (.int q2), (.double (FP.l2d Cc))])) t
      by_cases hc116_51 : q2 = q3
      · refine XS.icmpYes X49.here hx rfl (pc0 := 116) (pc' := 124) rfl (hb hby at_116) rfl (teq hc116_51).1 (by decide) (by decide) ?_
        show Steps p.tables e below (T49.setTop (mkF m 124 #[oI p0, oI p1, oI p2, oI p3, oI p4, oI p5, oI vz, oI q1, oI q2, oI q3, oI qq, oD (FP.l2d A), .second, oD (FP.l2d B), .second, oD (FP.l2d Cc), .second, oR a37, .unset, .unset] [(.double (FP.l2d Cc))])) t
        refine XS.dconst0 X49.here hx rfl (hb hby at_124) (v := (FP.l2d (0 : Int64))) own_dconst0 ?_
        rw [if_pos hc116_51] at k
        exact k
      · refine XS.icmpNo X49.here hx rfl (hb hby at_116) rfl (feq hc116_51).1 ?_
        show Steps p.tables e below (T49.setTop (mkF m 119 #[oI p0, oI p1, oI p2, oI p3, oI p4, oI p5, oI vz, oI q1, oI q2, oI q3, oI qq, oD (FP.l2d A), .second, oD (FP.l2d B), .second, oD (FP.l2d Cc), .second, oR a37, .unset, .unset] [(.double (FP.l2d Cc))])) t
        refine XS.dload X49.here hx rfl (hb hby at_119) rfl ?_
        refine XS.goto X49.here hx rfl (pc0 := 121) (pc' := 125) rfl (hb hby at_121) (by decide) (by decide) ?_
        rw [if_neg hc116_51] at k
        exact k
    refine own_via jn52 ?_
    show own_Go p e below _ (T49.setTop (mkF m 125 #[oI p0, oI p1, oI p2, oI p3, oI p4, oI p5, oI vz, oI q1, oI q2, oI q3, oI qq, oD (FP.l2d A), .second, oD (FP.l2d B), .second, oD (FP.l2d Cc), .second, oR a37, .unset, .unset] [(.double (FP.l2d (if q2 = q3 then (0 : Int64) else B))), (.double (FP.l2d Cc))]))
    refine own_via (fun t kz => XS.daddS X49.here hx rfl (hb hby at_125) rfl (nn_w (dadd_w (own_b53 hbCc (by decide)) (own_b53 (own_bdi own_bd0 hbB) (by decide)))) (dadd_w (own_b53 hbCc (by decide)) (own_b53 (own_bdi own_bd0 hbB) (by decide))) kz) ?_
    refine own_via (fun t kz => XS.iload X49.here hx rfl (hb hby at_126) rfl kz) ?_
    refine own_via (fun t kz => XS.iload X49.here hx rfl (hb hby at_128) rfl kz) ?_
    show own_Go p e below _ (T49.setTop (mkF m 130 #[oI p0, oI p1, oI p2, oI p3, oI p4, oI p5, oI vz, oI q1, oI q2, oI q3, oI qq, oD (FP.l2d A), .second, oD (FP.l2d B), .second, oD (FP.l2d Cc), .second, oR a37, .unset, .unset] [(.int q2), (.int q1), (.double (FP.l2d (Cc + (if q2 = q3 then (0 : Int64) else B))))]))
    have jn55 : ∀ t, Steps p.tables e below (T49.setTop (mkF m 146 #[oI p0, oI p1, oI p2, oI p3, oI p4, oI p5, oI vz, oI q1, oI q2, oI q3, oI qq, oD (FP.l2d A), .second, oD (FP.l2d B), .second, oD (FP.l2d Cc), .second, oR a37, .unset, .unset] [(.double (FP.l2d (if q1 = q2 then (0 : Int64) else (if q1 = q3 then (0 : Int64) else A)))), (.double (FP.l2d (Cc + (if q2 = q3 then (0 : Int64) else B))))])) t → Steps p.tables e below (T49.setTop (mkF m 130 #[oI p0, oI p1, oI p2, oI p3, oI p4, oI p5, oI vz, oI q1, oI q2, oI q3, oI qq, oD (FP.l2d A), .second, oD (FP.l2d B), .second, oD (FP.l2d Cc), .second, oR a37, .unset, .unset] [(.int q2), (.int q1), (.double (FP.l2d (Cc + (if q2 = q3 then (0 : Int64) else B))))])) t := by
      intro t k
      show Steps p.tables e below (T49.setTop (mkF m 130 #[oI p0, oI p1, oI p2, oI p3, oI p4, oI p5, oI vz, oI q1, oI q2, oI q3, oI qq, oD (FP.l2d A), .second, oD (FP.l2d B), .second, oD (FP.l2d Cc), .second, oR a37, .unset, .unset] [(.int q2), (.int q1), (.double (FP.l2d (Cc + (if q2 = q3 then (0 : Int64) else B))))])) t
      by_cases hc130_53 : q1 = q2
      · refine XS.icmpYes X49.here hx rfl (pc0 := 130) (pc' := 145) rfl (hb hby at_130) rfl (teq hc130_53).1 (by decide) (by decide) ?_
        show Steps p.tables e below (T49.setTop (mkF m 145 #[oI p0, oI p1, oI p2, oI p3, oI p4, oI p5, oI vz, oI q1, oI q2, oI q3, oI qq, oD (FP.l2d A), .second, oD (FP.l2d B), .second, oD (FP.l2d Cc), .second, oR a37, .unset, .unset] [(.double (FP.l2d (Cc + (if q2 = q3 then (0 : Int64) else B))))])) t
        refine XS.dconst0 X49.here hx rfl (hb hby at_145) (v := (FP.l2d (0 : Int64))) own_dconst0 ?_
        rw [if_pos hc130_53] at k
        exact k
      · refine XS.icmpNo X49.here hx rfl (hb hby at_130) rfl (feq hc130_53).1 ?_
        refine XS.iload X49.here hx rfl (hb hby at_133) rfl ?_
        show Steps p.tables e below (T49.setTop (mkF m 135 #[oI p0, oI p1, oI p2, oI p3, oI p4, oI p5, oI vz, oI q1, oI q2, oI q3, oI qq, oD (FP.l2d A), .second, oD (FP.l2d B), .second, oD (FP.l2d Cc), .second, oR a37, .unset, .unset] [(.int q1), (.double (FP.l2d (Cc + (if q2 = q3 then (0 : Int64) else B))))])) t
        refine XS.iload X49.here hx rfl (hb hby at_135) rfl ?_
        show Steps p.tables e below (T49.setTop (mkF m 137 #[oI p0, oI p1, oI p2, oI p3, oI p4, oI p5, oI vz, oI q1, oI q2, oI q3, oI qq, oD (FP.l2d A), .second, oD (FP.l2d B), .second, oD (FP.l2d Cc), .second, oR a37, .unset, .unset] [(.int q3), (.int q1), (.double (FP.l2d (Cc + (if q2 = q3 then (0 : Int64) else B))))])) t
        by_cases hc137_54 : q1 = q3
        · refine XS.icmpYes X49.here hx rfl (pc0 := 137) (pc' := 145) rfl (hb hby at_137) rfl (teq hc137_54).1 (by decide) (by decide) ?_
          show Steps p.tables e below (T49.setTop (mkF m 145 #[oI p0, oI p1, oI p2, oI p3, oI p4, oI p5, oI vz, oI q1, oI q2, oI q3, oI qq, oD (FP.l2d A), .second, oD (FP.l2d B), .second, oD (FP.l2d Cc), .second, oR a37, .unset, .unset] [(.double (FP.l2d (Cc + (if q2 = q3 then (0 : Int64) else B))))])) t
          refine XS.dconst0 X49.here hx rfl (hb hby at_145) (v := (FP.l2d (0 : Int64))) own_dconst0 ?_
          rw [if_neg hc130_53, if_pos hc137_54] at k
          exact k
        · refine XS.icmpNo X49.here hx rfl (hb hby at_137) rfl (feq hc137_54).1 ?_
          refine XS.dload X49.here hx rfl (hb hby at_140) rfl ?_
          refine XS.goto X49.here hx rfl (pc0 := 142) (pc' := 146) rfl (hb hby at_142) (by decide) (by decide) ?_
          rw [if_neg hc130_53, if_neg hc137_54] at k
          exact k
    refine own_via jn55 ?_
    show own_Go p e below _ (T49.setTop (mkF m 146 #[oI p0, oI p1, oI p2, oI p3, oI p4, oI p5, oI vz, oI q1, oI q2, oI q3, oI qq, oD (FP.l2d A), .second, oD (FP.l2d B), .second, oD (FP.l2d Cc), .second, oR a37, .unset, .unset] [(.double (FP.l2d (if q1 = q2 then (0 : Int64) else (if q1 = q3 then (0 : Int64) else A)))), (.double (FP.l2d (Cc + (if q2 = q3 then (0 : Int64) else B))))]))
    refine own_via (fun t kz => XS.daddS X49.here hx rfl (hb hby at_146) rfl (nn_w (dadd_w (own_b53 (own_bda hbCc (own_bdi own_bd0 hbB) (by decide)) (by decide)) (own_b53 (own_bdi own_bd0 (own_bdi own_bd0 hbA)) (by decide)))) (dadd_w (own_b53 (own_bda hbCc (own_bdi own_bd0 hbB) (by decide)) (by decide)) (own_b53 (own_bdi own_bd0 (own_bdi own_bd0 hbA)) (by decide))) kz) ?_
    refine own_via (fun t kz => XS.dstore X49.here hx rfl (hb hby at_147) rfl (l' := #[oI p0, oI p1, oI p2, oI p3, oI p4, oI p5, oI vz, oI q1, oI q2, oI q3, oI qq, oD (FP.l2d A), .second, oD (FP.l2d B), .second, oD (FP.l2d Cc), .second, oR a37, oD (FP.l2d ((Cc + (if q2 = q3 then (0 : Int64) else B)) + (if q1 = q2 then (0 : Int64) else (if q1 = q3 then (0 : Int64) else A)))), .second]) rfl kz) ?_
    refine own_via (fun t kz => XS.aload X49.here hx rfl (hb hby at_149) rfl rfl kz) ?_
    refine own_via (fun t kz => XS.iload X49.here hx rfl (hb hby at_151) rfl kz) ?_
    show own_Go p e below _ (T49.setTop (mkF m 153 #[oI p0, oI p1, oI p2, oI p3, oI p4, oI p5, oI vz, oI q1, oI q2, oI q3, oI qq, oD (FP.l2d A), .second, oD (FP.l2d B), .second, oD (FP.l2d Cc), .second, oR a37, oD (FP.l2d ((Cc + (if q2 = q3 then (0 : Int64) else B)) + (if q1 = q2 then (0 : Int64) else (if q1 = q3 then (0 : Int64) else A)))), .second] [(.int q1), (.ref a37)]))
    obtain ⟨cq56, kq56, qa56, qb56, qc56⟩ := isOf hZ rfl (own_exa2 TD49)
    obtain ⟨_, _, ⟨T56, L56, k56, n56⟩, -, X56, ⟨Lc56, hQ56, l56, y56, z56⟩, st56⟩ := X49.virtualBack hx (y := (⟨"com/example/coupewise/coupewise/WeightedDraw", "weight", "(I)D"⟩ : MethodName)) (z := (⟨"com/example/coupewise/coupewise/WeightedDraw", "weight", "(I)D"⟩ : MethodName)) hown (mvT hZ (own_w hw 23)) (mvT hZ (own_w hw 24)) (notFace_of_selects (args := #[]) (mvT hZ (own_w hw 26))) (mvT hZ (own_w hw 26)) (mvT hZ (own_w hw 25)) (by decide) (backOf (W := 0) (rm4_2 l Z a0 hw [] a37 q1 (own_e (0 : Int32) q1 q2 q3 A B Cc) (own_e (1 : Int32) q1 q2 q3 A B Cc) T49.heap n0 Zq49 TD49 hp_q1) hZ (own_w hw 27) (own_w hw 4) (by decide) (by decide)) qa56 qc56 (g := (mkF m 153 #[oI p0, oI p1, oI p2, oI p3, oI p4, oI p5, oI vz, oI q1, oI q2, oI q3, oI qq, oD (FP.l2d A), .second, oD (FP.l2d B), .second, oD (FP.l2d Cc), .second, oR a37, oD (FP.l2d ((Cc + (if q2 = q3 then (0 : Int64) else B)) + (if q1 = q2 then (0 : Int64) else (if q1 = q3 then (0 : Int64) else A)))), .second] [(.int q1), (.ref a37)])) rfl (by rw [hml]; rfl) (Steps.refl _) (argsL := [(.int q1)]) (rest := []) (lenOf pd_0_2 rfl) rfl (by show 2 * 0 + _ ≤ _; exact Nat.le_of_eq rfl) (hb hby at_153) (fun _ _ => ⟨rfl, rfl, (by decide : 2 + 0 ≤ _), (by decide : 7 + 0 ≤ _)⟩)
    dsimp only [Pt.U, Pt.locs, Pt.cells, Pt.slots] at X56 l56 y56 z56 st56 hQ56
    subst l56 y56 z56
    obtain ⟨rfl, Nq56, e56⟩ := hQ56
    have N57 := Fr.app N50 Nq56
    refine own_tr st56 ?_
    refine own_via (fun t kz => XS.iload X56.here hx rfl (hb hby at_156) rfl kz) ?_
    refine own_via (fun t kz => XS.iload X56.here hx rfl (hb hby at_158) rfl kz) ?_
    refine own_via (fun t kz => XS.iload X56.here hx rfl (hb hby at_160) rfl kz) ?_
    show own_Go p e below _ (T56.setTop (mkF m 162 #[oI p0, oI p1, oI p2, oI p3, oI p4, oI p5, oI vz, oI q1, oI q2, oI q3, oI qq, oD (FP.l2d A), .second, oD (FP.l2d B), .second, oD (FP.l2d Cc), .second, oR a37, oD (FP.l2d ((Cc + (if q2 = q3 then (0 : Int64) else B)) + (if q1 = q2 then (0 : Int64) else (if q1 = q3 then (0 : Int64) else A)))), .second] [(.int q2), (.int q1), (.int q1), (.double (FP.l2d (own_sel2 q1 (own_e (0 : Int32) q1 q2 q3 A B Cc) (own_e (1 : Int32) q1 q2 q3 A B Cc))))]))
    refine own_via (fun t kz => XS.iload X56.here hx rfl (hb hby at_162) rfl kz) ?_
    refine own_via (fun t kz => XS.dload X56.here hx rfl (hb hby at_164) rfl kz) ?_
    refine own_via (fun t kz => XS.dload X56.here hx rfl (hb hby at_166) rfl kz) ?_
    refine own_via (fun t kz => XS.dload X56.here hx rfl (hb hby at_168) rfl kz) ?_
    show own_Go p e below _ (T56.setTop (mkF m 170 #[oI p0, oI p1, oI p2, oI p3, oI p4, oI p5, oI vz, oI q1, oI q2, oI q3, oI qq, oD (FP.l2d A), .second, oD (FP.l2d B), .second, oD (FP.l2d Cc), .second, oR a37, oD (FP.l2d ((Cc + (if q2 = q3 then (0 : Int64) else B)) + (if q1 = q2 then (0 : Int64) else (if q1 = q3 then (0 : Int64) else A)))), .second] [(.double (FP.l2d Cc)), (.double (FP.l2d B)), (.double (FP.l2d A)), (.int q3), (.int q2), (.int q1), (.int q1), (.double (FP.l2d (own_sel2 q1 (own_e (0 : Int32) q1 q2 q3 A B Cc) (own_e (1 : Int32) q1 q2 q3 A B Cc))))]))
    obtain ⟨_, _, ⟨T58, L58, k58, n58⟩, -, X58, ⟨Lc58, hQ58, l58, y58, z58⟩, st58⟩ := Jvm.LawKit.callS X56 hx (y := (⟨"com/example/coupewise/coupewise/WeightedDrawSetPinLaw", "expected", "(IIIIDDD)D"⟩ : MethodName)) hown (mvT hZ (own_w hw 28)) (mvT hZ (own_w hw 29)) (mvT hZ (own_w hw 30)) (mvT hZ (own_w hw 31)) (by decide) (backOf (W := 2) (rm5 l Z a0 hw [] q1 q1 q2 q3 (FP.l2d A) (FP.l2d B) (FP.l2d Cc) (FP.l2d (own_e q1 q1 q2 q3 A B Cc)) T49.heap n0 Zq49 (own_exp q1 q1 q2 q3 A B Cc)) hZ (own_w hw 31) (own_w hw 30) (by decide) (by decide)) (g := (mkF m 170 #[oI p0, oI p1, oI p2, oI p3, oI p4, oI p5, oI vz, oI q1, oI q2, oI q3, oI qq, oD (FP.l2d A), .second, oD (FP.l2d B), .second, oD (FP.l2d Cc), .second, oR a37, oD (FP.l2d ((Cc + (if q2 = q3 then (0 : Int64) else B)) + (if q1 = q2 then (0 : Int64) else (if q1 = q3 then (0 : Int64) else A)))), .second] [(.double (FP.l2d Cc)), (.double (FP.l2d B)), (.double (FP.l2d A)), (.int q3), (.int q2), (.int q1), (.int q1), (.double (FP.l2d (own_sel2 q1 (own_e (0 : Int32) q1 q2 q3 A B Cc) (own_e (1 : Int32) q1 q2 q3 A B Cc))))])) rfl (by rw [hml]; rfl) (argsL := [(.int q1), (.int q1), (.int q2), (.int q3), (.double (FP.l2d A)), (.double (FP.l2d B)), (.double (FP.l2d Cc))]) (rest := [(.double (FP.l2d (own_sel2 q1 (own_e (0 : Int32) q1 q2 q3 A B Cc) (own_e (1 : Int32) q1 q2 q3 A B Cc))))]) (lenOf pd_0_3 rfl) rfl (by show 2 * 0 + _ ≤ _; exact Nat.le_of_eq rfl) (hb hby at_170) (fun _ _ => ⟨rfl, e56, (by decide : 2 + 0 ≤ _), (by decide : 7 + 0 ≤ _)⟩)
    dsimp only [Pt.U, Pt.locs, Pt.cells, Pt.slots] at X58 l58 y58 z58 st58 hQ58
    subst l58 y58 z58
    obtain ⟨rfl, Nq58, e58⟩ := hQ58
    have N59 := Fr.app N57 Nq58
    refine own_via st58 ?_
    show own_Go p e below _ (T58.setTop (mkF m 173 #[oI p0, oI p1, oI p2, oI p3, oI p4, oI p5, oI vz, oI q1, oI q2, oI q3, oI qq, oD (FP.l2d A), .second, oD (FP.l2d B), .second, oD (FP.l2d Cc), .second, oR a37, oD (FP.l2d ((Cc + (if q2 = q3 then (0 : Int64) else B)) + (if q1 = q2 then (0 : Int64) else (if q1 = q3 then (0 : Int64) else A)))), .second] [(.double (FP.l2d (own_e q1 q1 q2 q3 A B Cc))), (.double (FP.l2d (own_sel2 q1 (own_e (0 : Int32) q1 q2 q3 A B Cc) (own_e (1 : Int32) q1 q2 q3 A B Cc))))]))
    refine own_via (fun t kz => XS.dcmpS X58.here hx rfl (hb hby at_173) rfl (dcmpV_w (by rw [own_at2 _ _ _ _ _ _ _ hp_q1]; exact own_b53 (own_bde hbA hbB hbCc) (by decide)) (own_b53 (own_bde hbA hbB hbCc) (by decide)) .l) kz) ?_
    show own_Go p e below _ (T58.setTop (mkF m 174 #[oI p0, oI p1, oI p2, oI p3, oI p4, oI p5, oI vz, oI q1, oI q2, oI q3, oI qq, oD (FP.l2d A), .second, oD (FP.l2d B), .second, oD (FP.l2d Cc), .second, oR a37, oD (FP.l2d ((Cc + (if q2 = q3 then (0 : Int64) else B)) + (if q1 = q2 then (0 : Int64) else (if q1 = q3 then (0 : Int64) else A)))), .second] [(.int (lcmpW (own_sel2 q1 (own_e (0 : Int32) q1 q2 q3 A B Cc) (own_e (1 : Int32) q1 q2 q3 A B Cc)) (own_e q1 q1 q2 q3 A B Cc)))]))
    refine own_via (fun t kz => XS.ifNo X58.here hx rfl (hb hby at_174) rfl ((if0 _ _).trans (teq ((lw_eq _ _).mpr (own_at2 q1 q1 q2 q3 A B Cc hp_q1))).2) kz) ?_
    refine own_via (fun t kz => XS.aload X58.here hx rfl (hb hby at_177) rfl rfl kz) ?_
    refine own_via (fun t kz => XS.iload X58.here hx rfl (hb hby at_179) rfl kz) ?_
    show own_Go p e below _ (T58.setTop (mkF m 181 #[oI p0, oI p1, oI p2, oI p3, oI p4, oI p5, oI vz, oI q1, oI q2, oI q3, oI qq, oD (FP.l2d A), .second, oD (FP.l2d B), .second, oD (FP.l2d Cc), .second, oR a37, oD (FP.l2d ((Cc + (if q2 = q3 then (0 : Int64) else B)) + (if q1 = q2 then (0 : Int64) else (if q1 = q3 then (0 : Int64) else A)))), .second] [(.int q2), (.ref a37)]))
    obtain ⟨cq60, kq60, qa60, qb60, qc60⟩ := isOf hZ e58 (own_exa2 TD49)
    obtain ⟨_, _, ⟨T60, L60, k60, n60⟩, -, X60, ⟨Lc60, hQ60, l60, y60, z60⟩, st60⟩ := X58.virtualBack hx (y := (⟨"com/example/coupewise/coupewise/WeightedDraw", "weight", "(I)D"⟩ : MethodName)) (z := (⟨"com/example/coupewise/coupewise/WeightedDraw", "weight", "(I)D"⟩ : MethodName)) hown (mvT hZ (own_w hw 23)) (mvT hZ (own_w hw 24)) (notFace_of_selects (args := #[]) (mvT hZ (own_w hw 26))) (mvT hZ (own_w hw 26)) (mvT hZ (own_w hw 25)) (by decide) (backOf (W := 0) (rm4_2 l Z a0 hw [] a37 q2 (own_e (0 : Int32) q1 q2 q3 A B Cc) (own_e (1 : Int32) q1 q2 q3 A B Cc) T49.heap n0 Zq49 TD49 hp_q2) hZ (own_w hw 27) (own_w hw 4) (by decide) (by decide)) qa60 qc60 (g := (mkF m 181 #[oI p0, oI p1, oI p2, oI p3, oI p4, oI p5, oI vz, oI q1, oI q2, oI q3, oI qq, oD (FP.l2d A), .second, oD (FP.l2d B), .second, oD (FP.l2d Cc), .second, oR a37, oD (FP.l2d ((Cc + (if q2 = q3 then (0 : Int64) else B)) + (if q1 = q2 then (0 : Int64) else (if q1 = q3 then (0 : Int64) else A)))), .second] [(.int q2), (.ref a37)])) rfl (by rw [hml]; rfl) (Steps.refl _) (argsL := [(.int q2)]) (rest := []) (lenOf pd_0_2 rfl) rfl (by show 2 * 0 + _ ≤ _; exact Nat.le_of_eq rfl) (hb hby at_181) (fun _ _ => ⟨rfl, e58, (by decide : 2 + 0 ≤ _), (by decide : 7 + 0 ≤ _)⟩)
    dsimp only [Pt.U, Pt.locs, Pt.cells, Pt.slots] at X60 l60 y60 z60 st60 hQ60
    subst l60 y60 z60
    obtain ⟨rfl, Nq60, e60⟩ := hQ60
    have N61 := Fr.app N59 Nq60
    refine own_tr st60 ?_
    refine own_via (fun t kz => XS.iload X60.here hx rfl (hb hby at_184) rfl kz) ?_
    refine own_via (fun t kz => XS.iload X60.here hx rfl (hb hby at_186) rfl kz) ?_
    refine own_via (fun t kz => XS.iload X60.here hx rfl (hb hby at_188) rfl kz) ?_
    show own_Go p e below _ (T60.setTop (mkF m 190 #[oI p0, oI p1, oI p2, oI p3, oI p4, oI p5, oI vz, oI q1, oI q2, oI q3, oI qq, oD (FP.l2d A), .second, oD (FP.l2d B), .second, oD (FP.l2d Cc), .second, oR a37, oD (FP.l2d ((Cc + (if q2 = q3 then (0 : Int64) else B)) + (if q1 = q2 then (0 : Int64) else (if q1 = q3 then (0 : Int64) else A)))), .second] [(.int q2), (.int q1), (.int q2), (.double (FP.l2d (own_sel2 q2 (own_e (0 : Int32) q1 q2 q3 A B Cc) (own_e (1 : Int32) q1 q2 q3 A B Cc))))]))
    refine own_via (fun t kz => XS.iload X60.here hx rfl (hb hby at_190) rfl kz) ?_
    refine own_via (fun t kz => XS.dload X60.here hx rfl (hb hby at_192) rfl kz) ?_
    refine own_via (fun t kz => XS.dload X60.here hx rfl (hb hby at_194) rfl kz) ?_
    refine own_via (fun t kz => XS.dload X60.here hx rfl (hb hby at_196) rfl kz) ?_
    show own_Go p e below _ (T60.setTop (mkF m 198 #[oI p0, oI p1, oI p2, oI p3, oI p4, oI p5, oI vz, oI q1, oI q2, oI q3, oI qq, oD (FP.l2d A), .second, oD (FP.l2d B), .second, oD (FP.l2d Cc), .second, oR a37, oD (FP.l2d ((Cc + (if q2 = q3 then (0 : Int64) else B)) + (if q1 = q2 then (0 : Int64) else (if q1 = q3 then (0 : Int64) else A)))), .second] [(.double (FP.l2d Cc)), (.double (FP.l2d B)), (.double (FP.l2d A)), (.int q3), (.int q2), (.int q1), (.int q2), (.double (FP.l2d (own_sel2 q2 (own_e (0 : Int32) q1 q2 q3 A B Cc) (own_e (1 : Int32) q1 q2 q3 A B Cc))))]))
    obtain ⟨_, _, ⟨T62, L62, k62, n62⟩, -, X62, ⟨Lc62, hQ62, l62, y62, z62⟩, st62⟩ := Jvm.LawKit.callS X60 hx (y := (⟨"com/example/coupewise/coupewise/WeightedDrawSetPinLaw", "expected", "(IIIIDDD)D"⟩ : MethodName)) hown (mvT hZ (own_w hw 28)) (mvT hZ (own_w hw 29)) (mvT hZ (own_w hw 30)) (mvT hZ (own_w hw 31)) (by decide) (backOf (W := 2) (rm5 l Z a0 hw [] q2 q1 q2 q3 (FP.l2d A) (FP.l2d B) (FP.l2d Cc) (FP.l2d (own_e q2 q1 q2 q3 A B Cc)) T49.heap n0 Zq49 (own_exp q2 q1 q2 q3 A B Cc)) hZ (own_w hw 31) (own_w hw 30) (by decide) (by decide)) (g := (mkF m 198 #[oI p0, oI p1, oI p2, oI p3, oI p4, oI p5, oI vz, oI q1, oI q2, oI q3, oI qq, oD (FP.l2d A), .second, oD (FP.l2d B), .second, oD (FP.l2d Cc), .second, oR a37, oD (FP.l2d ((Cc + (if q2 = q3 then (0 : Int64) else B)) + (if q1 = q2 then (0 : Int64) else (if q1 = q3 then (0 : Int64) else A)))), .second] [(.double (FP.l2d Cc)), (.double (FP.l2d B)), (.double (FP.l2d A)), (.int q3), (.int q2), (.int q1), (.int q2), (.double (FP.l2d (own_sel2 q2 (own_e (0 : Int32) q1 q2 q3 A B Cc) (own_e (1 : Int32) q1 q2 q3 A B Cc))))])) rfl (by rw [hml]; rfl) (argsL := [(.int q2), (.int q1), (.int q2), (.int q3), (.double (FP.l2d A)), (.double (FP.l2d B)), (.double (FP.l2d Cc))]) (rest := [(.double (FP.l2d (own_sel2 q2 (own_e (0 : Int32) q1 q2 q3 A B Cc) (own_e (1 : Int32) q1 q2 q3 A B Cc))))]) (lenOf pd_0_3 rfl) rfl (by show 2 * 0 + _ ≤ _; exact Nat.le_of_eq rfl) (hb hby at_198) (fun _ _ => ⟨rfl, e60, (by decide : 2 + 0 ≤ _), (by decide : 7 + 0 ≤ _)⟩)
    dsimp only [Pt.U, Pt.locs, Pt.cells, Pt.slots] at X62 l62 y62 z62 st62 hQ62
    subst l62 y62 z62
    obtain ⟨rfl, Nq62, e62⟩ := hQ62
    have N63 := Fr.app N61 Nq62
    refine own_via st62 ?_
    show own_Go p e below _ (T62.setTop (mkF m 201 #[oI p0, oI p1, oI p2, oI p3, oI p4, oI p5, oI vz, oI q1, oI q2, oI q3, oI qq, oD (FP.l2d A), .second, oD (FP.l2d B), .second, oD (FP.l2d Cc), .second, oR a37, oD (FP.l2d ((Cc + (if q2 = q3 then (0 : Int64) else B)) + (if q1 = q2 then (0 : Int64) else (if q1 = q3 then (0 : Int64) else A)))), .second] [(.double (FP.l2d (own_e q2 q1 q2 q3 A B Cc))), (.double (FP.l2d (own_sel2 q2 (own_e (0 : Int32) q1 q2 q3 A B Cc) (own_e (1 : Int32) q1 q2 q3 A B Cc))))]))
    refine own_via (fun t kz => XS.dcmpS X62.here hx rfl (hb hby at_201) rfl (dcmpV_w (by rw [own_at2 _ _ _ _ _ _ _ hp_q2]; exact own_b53 (own_bde hbA hbB hbCc) (by decide)) (own_b53 (own_bde hbA hbB hbCc) (by decide)) .l) kz) ?_
    show own_Go p e below _ (T62.setTop (mkF m 202 #[oI p0, oI p1, oI p2, oI p3, oI p4, oI p5, oI vz, oI q1, oI q2, oI q3, oI qq, oD (FP.l2d A), .second, oD (FP.l2d B), .second, oD (FP.l2d Cc), .second, oR a37, oD (FP.l2d ((Cc + (if q2 = q3 then (0 : Int64) else B)) + (if q1 = q2 then (0 : Int64) else (if q1 = q3 then (0 : Int64) else A)))), .second] [(.int (lcmpW (own_sel2 q2 (own_e (0 : Int32) q1 q2 q3 A B Cc) (own_e (1 : Int32) q1 q2 q3 A B Cc)) (own_e q2 q1 q2 q3 A B Cc)))]))
    refine own_via (fun t kz => XS.ifNo X62.here hx rfl (hb hby at_202) rfl ((if0 _ _).trans (teq ((lw_eq _ _).mpr (own_at2 q2 q1 q2 q3 A B Cc hp_q2))).2) kz) ?_
    refine own_via (fun t kz => XS.aload X62.here hx rfl (hb hby at_205) rfl rfl kz) ?_
    refine own_via (fun t kz => XS.iload X62.here hx rfl (hb hby at_207) rfl kz) ?_
    show own_Go p e below _ (T62.setTop (mkF m 209 #[oI p0, oI p1, oI p2, oI p3, oI p4, oI p5, oI vz, oI q1, oI q2, oI q3, oI qq, oD (FP.l2d A), .second, oD (FP.l2d B), .second, oD (FP.l2d Cc), .second, oR a37, oD (FP.l2d ((Cc + (if q2 = q3 then (0 : Int64) else B)) + (if q1 = q2 then (0 : Int64) else (if q1 = q3 then (0 : Int64) else A)))), .second] [(.int q3), (.ref a37)]))
    obtain ⟨cq64, kq64, qa64, qb64, qc64⟩ := isOf hZ e62 (own_exa2 TD49)
    obtain ⟨_, _, ⟨T64, L64, k64, n64⟩, -, X64, ⟨Lc64, hQ64, l64, y64, z64⟩, st64⟩ := X62.virtualBack hx (y := (⟨"com/example/coupewise/coupewise/WeightedDraw", "weight", "(I)D"⟩ : MethodName)) (z := (⟨"com/example/coupewise/coupewise/WeightedDraw", "weight", "(I)D"⟩ : MethodName)) hown (mvT hZ (own_w hw 23)) (mvT hZ (own_w hw 24)) (notFace_of_selects (args := #[]) (mvT hZ (own_w hw 26))) (mvT hZ (own_w hw 26)) (mvT hZ (own_w hw 25)) (by decide) (backOf (W := 0) (rm4_2 l Z a0 hw [] a37 q3 (own_e (0 : Int32) q1 q2 q3 A B Cc) (own_e (1 : Int32) q1 q2 q3 A B Cc) T49.heap n0 Zq49 TD49 hp_q3) hZ (own_w hw 27) (own_w hw 4) (by decide) (by decide)) qa64 qc64 (g := (mkF m 209 #[oI p0, oI p1, oI p2, oI p3, oI p4, oI p5, oI vz, oI q1, oI q2, oI q3, oI qq, oD (FP.l2d A), .second, oD (FP.l2d B), .second, oD (FP.l2d Cc), .second, oR a37, oD (FP.l2d ((Cc + (if q2 = q3 then (0 : Int64) else B)) + (if q1 = q2 then (0 : Int64) else (if q1 = q3 then (0 : Int64) else A)))), .second] [(.int q3), (.ref a37)])) rfl (by rw [hml]; rfl) (Steps.refl _) (argsL := [(.int q3)]) (rest := []) (lenOf pd_0_2 rfl) rfl (by show 2 * 0 + _ ≤ _; exact Nat.le_of_eq rfl) (hb hby at_209) (fun _ _ => ⟨rfl, e62, (by decide : 2 + 0 ≤ _), (by decide : 7 + 0 ≤ _)⟩)
    dsimp only [Pt.U, Pt.locs, Pt.cells, Pt.slots] at X64 l64 y64 z64 st64 hQ64
    subst l64 y64 z64
    obtain ⟨rfl, Nq64, e64⟩ := hQ64
    have N65 := Fr.app N63 Nq64
    refine own_tr st64 ?_
    refine own_via (fun t kz => XS.dload X64.here hx rfl (hb hby at_212) rfl kz) ?_
    show own_Go p e below _ (T64.setTop (mkF m 214 #[oI p0, oI p1, oI p2, oI p3, oI p4, oI p5, oI vz, oI q1, oI q2, oI q3, oI qq, oD (FP.l2d A), .second, oD (FP.l2d B), .second, oD (FP.l2d Cc), .second, oR a37, oD (FP.l2d ((Cc + (if q2 = q3 then (0 : Int64) else B)) + (if q1 = q2 then (0 : Int64) else (if q1 = q3 then (0 : Int64) else A)))), .second] [(.double (FP.l2d Cc)), (.double (FP.l2d (own_sel2 q3 (own_e (0 : Int32) q1 q2 q3 A B Cc) (own_e (1 : Int32) q1 q2 q3 A B Cc))))]))
    refine own_via (fun t kz => XS.dcmpS X64.here hx rfl (hb hby at_214) rfl (dcmpV_w (by rw [own_at2 _ _ _ _ _ _ _ hp_q3]; exact own_b53 (own_bde hbA hbB hbCc) (by decide)) (own_b53 hbCc (by decide)) .l) kz) ?_
    show own_Go p e below _ (T64.setTop (mkF m 215 #[oI p0, oI p1, oI p2, oI p3, oI p4, oI p5, oI vz, oI q1, oI q2, oI q3, oI qq, oD (FP.l2d A), .second, oD (FP.l2d B), .second, oD (FP.l2d Cc), .second, oR a37, oD (FP.l2d ((Cc + (if q2 = q3 then (0 : Int64) else B)) + (if q1 = q2 then (0 : Int64) else (if q1 = q3 then (0 : Int64) else A)))), .second] [(.int (lcmpW (own_sel2 q3 (own_e (0 : Int32) q1 q2 q3 A B Cc) (own_e (1 : Int32) q1 q2 q3 A B Cc)) Cc))]))
    refine own_via (fun t kz => XS.ifNo X64.here hx rfl (hb hby at_215) rfl ((if0 _ _).trans (teq ((lw_eq _ _).mpr ((own_at2 q3 q1 q2 q3 A B Cc hp_q3).trans (if_pos rfl)))).2) kz) ?_
    refine own_via (fun t kz => XS.aload X64.here hx rfl (hb hby at_218) rfl rfl kz) ?_
    refine own_via (fun t kz => XS.iload X64.here hx rfl (hb hby at_220) rfl kz) ?_
    show own_Go p e below _ (T64.setTop (mkF m 222 #[oI p0, oI p1, oI p2, oI p3, oI p4, oI p5, oI vz, oI q1, oI q2, oI q3, oI qq, oD (FP.l2d A), .second, oD (FP.l2d B), .second, oD (FP.l2d Cc), .second, oR a37, oD (FP.l2d ((Cc + (if q2 = q3 then (0 : Int64) else B)) + (if q1 = q2 then (0 : Int64) else (if q1 = q3 then (0 : Int64) else A)))), .second] [(.int qq), (.ref a37)]))
    obtain ⟨cq66, kq66, qa66, qb66, qc66⟩ := isOf hZ e64 (own_exa2 TD49)
    obtain ⟨_, _, ⟨T66, L66, k66, n66⟩, -, X66, ⟨Lc66, hQ66, l66, y66, z66⟩, st66⟩ := X64.virtualBack hx (y := (⟨"com/example/coupewise/coupewise/WeightedDraw", "weight", "(I)D"⟩ : MethodName)) (z := (⟨"com/example/coupewise/coupewise/WeightedDraw", "weight", "(I)D"⟩ : MethodName)) hown (mvT hZ (own_w hw 23)) (mvT hZ (own_w hw 24)) (notFace_of_selects (args := #[]) (mvT hZ (own_w hw 26))) (mvT hZ (own_w hw 26)) (mvT hZ (own_w hw 25)) (by decide) (backOf (W := 0) (rm4_2 l Z a0 hw [] a37 qq (own_e (0 : Int32) q1 q2 q3 A B Cc) (own_e (1 : Int32) q1 q2 q3 A B Cc) T49.heap n0 Zq49 TD49 hp_qq) hZ (own_w hw 27) (own_w hw 4) (by decide) (by decide)) qa66 qc66 (g := (mkF m 222 #[oI p0, oI p1, oI p2, oI p3, oI p4, oI p5, oI vz, oI q1, oI q2, oI q3, oI qq, oD (FP.l2d A), .second, oD (FP.l2d B), .second, oD (FP.l2d Cc), .second, oR a37, oD (FP.l2d ((Cc + (if q2 = q3 then (0 : Int64) else B)) + (if q1 = q2 then (0 : Int64) else (if q1 = q3 then (0 : Int64) else A)))), .second] [(.int qq), (.ref a37)])) rfl (by rw [hml]; rfl) (Steps.refl _) (argsL := [(.int qq)]) (rest := []) (lenOf pd_0_2 rfl) rfl (by show 2 * 0 + _ ≤ _; exact Nat.le_of_eq rfl) (hb hby at_222) (fun _ _ => ⟨rfl, e64, (by decide : 2 + 0 ≤ _), (by decide : 7 + 0 ≤ _)⟩)
    dsimp only [Pt.U, Pt.locs, Pt.cells, Pt.slots] at X66 l66 y66 z66 st66 hQ66
    subst l66 y66 z66
    obtain ⟨rfl, Nq66, e66⟩ := hQ66
    have N67 := Fr.app N65 Nq66
    refine own_tr st66 ?_
    refine own_via (fun t kz => XS.iload X66.here hx rfl (hb hby at_225) rfl kz) ?_
    refine own_via (fun t kz => XS.iload X66.here hx rfl (hb hby at_227) rfl kz) ?_
    refine own_via (fun t kz => XS.iload X66.here hx rfl (hb hby at_229) rfl kz) ?_
    show own_Go p e below _ (T66.setTop (mkF m 231 #[oI p0, oI p1, oI p2, oI p3, oI p4, oI p5, oI vz, oI q1, oI q2, oI q3, oI qq, oD (FP.l2d A), .second, oD (FP.l2d B), .second, oD (FP.l2d Cc), .second, oR a37, oD (FP.l2d ((Cc + (if q2 = q3 then (0 : Int64) else B)) + (if q1 = q2 then (0 : Int64) else (if q1 = q3 then (0 : Int64) else A)))), .second] [(.int q2), (.int q1), (.int qq), (.double (FP.l2d (own_sel2 qq (own_e (0 : Int32) q1 q2 q3 A B Cc) (own_e (1 : Int32) q1 q2 q3 A B Cc))))]))
    refine own_via (fun t kz => XS.iload X66.here hx rfl (hb hby at_231) rfl kz) ?_
    refine own_via (fun t kz => XS.dload X66.here hx rfl (hb hby at_233) rfl kz) ?_
    refine own_via (fun t kz => XS.dload X66.here hx rfl (hb hby at_235) rfl kz) ?_
    refine own_via (fun t kz => XS.dload X66.here hx rfl (hb hby at_237) rfl kz) ?_
    show own_Go p e below _ (T66.setTop (mkF m 239 #[oI p0, oI p1, oI p2, oI p3, oI p4, oI p5, oI vz, oI q1, oI q2, oI q3, oI qq, oD (FP.l2d A), .second, oD (FP.l2d B), .second, oD (FP.l2d Cc), .second, oR a37, oD (FP.l2d ((Cc + (if q2 = q3 then (0 : Int64) else B)) + (if q1 = q2 then (0 : Int64) else (if q1 = q3 then (0 : Int64) else A)))), .second] [(.double (FP.l2d Cc)), (.double (FP.l2d B)), (.double (FP.l2d A)), (.int q3), (.int q2), (.int q1), (.int qq), (.double (FP.l2d (own_sel2 qq (own_e (0 : Int32) q1 q2 q3 A B Cc) (own_e (1 : Int32) q1 q2 q3 A B Cc))))]))
    obtain ⟨_, _, ⟨T68, L68, k68, n68⟩, -, X68, ⟨Lc68, hQ68, l68, y68, z68⟩, st68⟩ := Jvm.LawKit.callS X66 hx (y := (⟨"com/example/coupewise/coupewise/WeightedDrawSetPinLaw", "expected", "(IIIIDDD)D"⟩ : MethodName)) hown (mvT hZ (own_w hw 28)) (mvT hZ (own_w hw 29)) (mvT hZ (own_w hw 30)) (mvT hZ (own_w hw 31)) (by decide) (backOf (W := 2) (rm5 l Z a0 hw [] qq q1 q2 q3 (FP.l2d A) (FP.l2d B) (FP.l2d Cc) (FP.l2d (own_e qq q1 q2 q3 A B Cc)) T49.heap n0 Zq49 (own_exp qq q1 q2 q3 A B Cc)) hZ (own_w hw 31) (own_w hw 30) (by decide) (by decide)) (g := (mkF m 239 #[oI p0, oI p1, oI p2, oI p3, oI p4, oI p5, oI vz, oI q1, oI q2, oI q3, oI qq, oD (FP.l2d A), .second, oD (FP.l2d B), .second, oD (FP.l2d Cc), .second, oR a37, oD (FP.l2d ((Cc + (if q2 = q3 then (0 : Int64) else B)) + (if q1 = q2 then (0 : Int64) else (if q1 = q3 then (0 : Int64) else A)))), .second] [(.double (FP.l2d Cc)), (.double (FP.l2d B)), (.double (FP.l2d A)), (.int q3), (.int q2), (.int q1), (.int qq), (.double (FP.l2d (own_sel2 qq (own_e (0 : Int32) q1 q2 q3 A B Cc) (own_e (1 : Int32) q1 q2 q3 A B Cc))))])) rfl (by rw [hml]; rfl) (argsL := [(.int qq), (.int q1), (.int q2), (.int q3), (.double (FP.l2d A)), (.double (FP.l2d B)), (.double (FP.l2d Cc))]) (rest := [(.double (FP.l2d (own_sel2 qq (own_e (0 : Int32) q1 q2 q3 A B Cc) (own_e (1 : Int32) q1 q2 q3 A B Cc))))]) (lenOf pd_0_3 rfl) rfl (by show 2 * 0 + _ ≤ _; exact Nat.le_of_eq rfl) (hb hby at_239) (fun _ _ => ⟨rfl, e66, (by decide : 2 + 0 ≤ _), (by decide : 7 + 0 ≤ _)⟩)
    dsimp only [Pt.U, Pt.locs, Pt.cells, Pt.slots] at X68 l68 y68 z68 st68 hQ68
    subst l68 y68 z68
    obtain ⟨rfl, Nq68, e68⟩ := hQ68
    have N69 := Fr.app N67 Nq68
    refine own_via st68 ?_
    show own_Go p e below _ (T68.setTop (mkF m 242 #[oI p0, oI p1, oI p2, oI p3, oI p4, oI p5, oI vz, oI q1, oI q2, oI q3, oI qq, oD (FP.l2d A), .second, oD (FP.l2d B), .second, oD (FP.l2d Cc), .second, oR a37, oD (FP.l2d ((Cc + (if q2 = q3 then (0 : Int64) else B)) + (if q1 = q2 then (0 : Int64) else (if q1 = q3 then (0 : Int64) else A)))), .second] [(.double (FP.l2d (own_e qq q1 q2 q3 A B Cc))), (.double (FP.l2d (own_sel2 qq (own_e (0 : Int32) q1 q2 q3 A B Cc) (own_e (1 : Int32) q1 q2 q3 A B Cc))))]))
    refine own_via (fun t kz => XS.dcmpS X68.here hx rfl (hb hby at_242) rfl (dcmpV_w (by rw [own_at2 _ _ _ _ _ _ _ hp_qq]; exact own_b53 (own_bde hbA hbB hbCc) (by decide)) (own_b53 (own_bde hbA hbB hbCc) (by decide)) .l) kz) ?_
    show own_Go p e below _ (T68.setTop (mkF m 243 #[oI p0, oI p1, oI p2, oI p3, oI p4, oI p5, oI vz, oI q1, oI q2, oI q3, oI qq, oD (FP.l2d A), .second, oD (FP.l2d B), .second, oD (FP.l2d Cc), .second, oR a37, oD (FP.l2d ((Cc + (if q2 = q3 then (0 : Int64) else B)) + (if q1 = q2 then (0 : Int64) else (if q1 = q3 then (0 : Int64) else A)))), .second] [(.int (lcmpW (own_sel2 qq (own_e (0 : Int32) q1 q2 q3 A B Cc) (own_e (1 : Int32) q1 q2 q3 A B Cc)) (own_e qq q1 q2 q3 A B Cc)))]))
    refine own_via (fun t kz => XS.ifNo X68.here hx rfl (hb hby at_243) rfl ((if0 _ _).trans (teq ((lw_eq _ _).mpr (own_at2 qq q1 q2 q3 A B Cc hp_qq))).2) kz) ?_
    refine own_via (fun t kz => XS.aload X68.here hx rfl (hb hby at_246) rfl rfl kz) ?_
    show own_Go p e below _ (T68.setTop (mkF m 248 #[oI p0, oI p1, oI p2, oI p3, oI p4, oI p5, oI vz, oI q1, oI q2, oI q3, oI qq, oD (FP.l2d A), .second, oD (FP.l2d B), .second, oD (FP.l2d Cc), .second, oR a37, oD (FP.l2d ((Cc + (if q2 = q3 then (0 : Int64) else B)) + (if q1 = q2 then (0 : Int64) else (if q1 = q3 then (0 : Int64) else A)))), .second] [(.ref a37)]))
    obtain ⟨cq70, kq70, qa70, qb70, qc70⟩ := isOf hZ e68 (own_exa2 TD49)
    obtain ⟨_, _, ⟨T70, L70, k70, n70⟩, -, X70, ⟨Lc70, hQ70, l70, y70, z70⟩, st70⟩ := X68.virtualBack hx (y := (⟨"com/example/coupewise/coupewise/WeightedDraw", "total", "()D"⟩ : MethodName)) (z := (⟨"com/example/coupewise/coupewise/WeightedDraw", "total", "()D"⟩ : MethodName)) hown (mvT hZ (own_w hw 32)) (mvT hZ (own_w hw 33)) (notFace_of_selects (args := #[]) (mvT hZ (own_w hw 35))) (mvT hZ (own_w hw 35)) (mvT hZ (own_w hw 34)) (by decide) (backOf (W := 0) (rm6_2 l Z a0 hw [] a37 (own_e (0 : Int32) q1 q2 q3 A B Cc) (own_e (1 : Int32) q1 q2 q3 A B Cc) T49.heap n0 Zq49 TD49) hZ (own_w hw 36) (own_w hw 4) (by decide) (by decide)) qa70 qc70 (g := (mkF m 248 #[oI p0, oI p1, oI p2, oI p3, oI p4, oI p5, oI vz, oI q1, oI q2, oI q3, oI qq, oD (FP.l2d A), .second, oD (FP.l2d B), .second, oD (FP.l2d Cc), .second, oR a37, oD (FP.l2d ((Cc + (if q2 = q3 then (0 : Int64) else B)) + (if q1 = q2 then (0 : Int64) else (if q1 = q3 then (0 : Int64) else A)))), .second] [(.ref a37)])) rfl (by rw [hml]; rfl) (Steps.refl _) (argsL := []) (rest := []) (lenOf pd_0_4 rfl) rfl (by show 2 * 0 + _ ≤ _; exact Nat.le_of_eq rfl) (hb hby at_248) (fun _ _ => ⟨rfl, e68, (by decide : 2 + 0 ≤ _), (by decide : 7 + 0 ≤ _)⟩)
    dsimp only [Pt.U, Pt.locs, Pt.cells, Pt.slots] at X70 l70 y70 z70 st70 hQ70
    subst l70 y70 z70
    obtain ⟨rfl, Nq70, e70⟩ := hQ70
    have N71 := Fr.app N69 Nq70
    refine own_tr st70 ?_
    refine own_via (fun t kz => XS.dload X70.here hx rfl (hb hby at_251) rfl kz) ?_
    show own_Go p e below _ (T70.setTop (mkF m 253 #[oI p0, oI p1, oI p2, oI p3, oI p4, oI p5, oI vz, oI q1, oI q2, oI q3, oI qq, oD (FP.l2d A), .second, oD (FP.l2d B), .second, oD (FP.l2d Cc), .second, oR a37, oD (FP.l2d ((Cc + (if q2 = q3 then (0 : Int64) else B)) + (if q1 = q2 then (0 : Int64) else (if q1 = q3 then (0 : Int64) else A)))), .second] [(.double (FP.l2d ((Cc + (if q2 = q3 then (0 : Int64) else B)) + (if q1 = q2 then (0 : Int64) else (if q1 = q3 then (0 : Int64) else A))))), (.double (FP.l2d ((own_e (0 : Int32) q1 q2 q3 A B Cc) + (own_e (1 : Int32) q1 q2 q3 A B Cc))))]))
    refine own_via (fun t kz => XS.dcmpS X70.here hx rfl (hb hby at_253) rfl (dcmpV_w (own_b53 (own_bda (own_bde hbA hbB hbCc) (own_bde hbA hbB hbCc) (by decide)) (by decide)) (own_b53 (own_bda (own_bda hbCc (own_bdi own_bd0 hbB) (by decide)) (own_bdi own_bd0 (own_bdi own_bd0 hbA)) (by decide)) (by decide)) .l) kz) ?_
    show own_Go p e below _ (T70.setTop (mkF m 254 #[oI p0, oI p1, oI p2, oI p3, oI p4, oI p5, oI vz, oI q1, oI q2, oI q3, oI qq, oD (FP.l2d A), .second, oD (FP.l2d B), .second, oD (FP.l2d Cc), .second, oR a37, oD (FP.l2d ((Cc + (if q2 = q3 then (0 : Int64) else B)) + (if q1 = q2 then (0 : Int64) else (if q1 = q3 then (0 : Int64) else A)))), .second] [(.int (lcmpW ((own_e (0 : Int32) q1 q2 q3 A B Cc) + (own_e (1 : Int32) q1 q2 q3 A B Cc)) ((Cc + (if q2 = q3 then (0 : Int64) else B)) + (if q1 = q2 then (0 : Int64) else (if q1 = q3 then (0 : Int64) else A)))))]))
    refine own_via (fun t kz => XS.ifNo X70.here hx rfl (hb hby at_254) rfl ((if0 _ _).trans (teq ((lw_eq _ _).mpr (own_tot2 q1 q2 q3 A B Cc hp_q1 hp_q2 hp_q3))).2) kz) ?_
    refine own_via (fun t kz => XS.iconst X70.here hx rfl (hb hby at_257) kz) ?_
    refine own_via (fun t kz => XS.goto X70.here hx rfl (pc0 := 258) (pc' := 262) rfl (hb hby at_258) (by decide) (by decide) kz) ?_
    show own_Go p e below _ (T70.setTop (mkF m 262 #[oI p0, oI p1, oI p2, oI p3, oI p4, oI p5, oI vz, oI q1, oI q2, oI q3, oI qq, oD (FP.l2d A), .second, oD (FP.l2d B), .second, oD (FP.l2d Cc), .second, oR a37, oD (FP.l2d ((Cc + (if q2 = q3 then (0 : Int64) else B)) + (if q1 = q2 then (0 : Int64) else (if q1 = q3 then (0 : Int64) else A)))), .second] [(.int (1 : Int32))]))
    obtain ⟨fs, hr, hrun, hended, hW, hsame⟩ := X70.leave (v := some (.int (1 : Int32))) (fun h => by rw [Bd.returns] at h; cases h)
    refine ⟨_, _, retN X70 hx (t := .boolean) Bd.returns (by simp) (hb hby at_262) hr, hrun, hended, _, _, rfl, ?_, ⟨_, rfl⟩, hW, hsame.mono (by decide) (by decide)⟩
    show Q0 Z p0 p1 p2 p3 p4 p5 h0 n0 _ T70.heap _
    rw [e70]
    exact ⟨rfl, N71⟩
  · have hp_q1 := own_in4 hq1 hs
    have hp_q2 := own_in4 hq2 hs
    have hp_q3 := own_in4 hq3 hs
    have hp_qq := own_in4 hqq hs
    show own_Go p e below _ (s₁.setTop (mkF m 72 #[oI p0, oI p1, oI p2, oI p3, oI p4, oI p5, oI vz, oI q1, oI q2, oI q3, oI qq, oD (FP.l2d A), .second, oD (FP.l2d B), .second, oD (FP.l2d Cc), .second, .unset, .unset, .unset] []))
    obtain ⟨T73, h73, X73, e73, E73, A73, D73, -, st73⟩ := newO X0 hx hZ hown (own_w hw 2) (own_w hw 3) (own_w hw 4) e0 (g := (mkF m 72 #[oI p0, oI p1, oI p2, oI p3, oI p4, oI p5, oI vz, oI q1, oI q2, oI q3, oI qq, oD (FP.l2d A), .second, oD (FP.l2d B), .second, oD (FP.l2d Cc), .second, .unset, .unset, .unset] [])) rfl (hb hby at_72) (by decide) (by decide)
    obtain ⟨a73, g73⟩ : ∃ z, z = h0.size := ⟨_, rfl⟩
    rw [← g73] at A73 D73 st73
    refine own_via st73 ?_
    have fr74 : n0 ≤ a73 := Nat.le_trans Z0 (Nat.le_of_eq g73.symm)
    have Zs75 : n0 ≤ h73.size := Nat.le_trans Z0 E73.1
    have F76 : Fld Z h73 a73 "com/example/coupewise/coupewise/WeightedDraw" "size" "I" (.int (0 : Int32)) := D73 (Or.inr (own_w hw 12)) (ty := .int) (by decide)
    have F77 : Fld Z h73 a73 "com/example/coupewise/coupewise/WeightedDraw" "leaves" "I" (.int (0 : Int32)) := D73 (Or.inr (own_w hw 14)) (ty := .int) (by decide)
    have F78 : Fld Z h73 a73 "com/example/coupewise/coupewise/WeightedDraw" "sums" "[D" .null := D73 (Or.inr (own_w hw 17)) (ty := (.array .double)) (by decide)
    refine own_via (fun t kz => XS.dup X73.here hx rfl (hb hby at_75) rfl rfl kz) ?_
    refine own_via (fun t kz => XS.iload X73.here hx rfl (hb hby at_76) rfl kz) ?_
    show own_Go p e below _ (T73.setTop (mkF m 78 #[oI p0, oI p1, oI p2, oI p3, oI p4, oI p5, oI vz, oI q1, oI q2, oI q3, oI qq, oD (FP.l2d A), .second, oD (FP.l2d B), .second, oD (FP.l2d Cc), .second, .unset, .unset, .unset] [(.int vz), (.ref a73), (.ref a73)]))
    obtain ⟨_, _, ⟨T79, L79, k79, n79⟩, -, X79, ⟨Lc79, hQ79, l79, y79, z79⟩, st79⟩ := X73.specialBack hx (y := (⟨"com/example/coupewise/coupewise/WeightedDraw", "<init>", "(I)V"⟩ : MethodName)) rfl hown (mvT hZ (own_w hw 5)) (mvT hZ (own_w hw 6)) (mvT hZ (own_w hw 7)) (by decide) (backOf (W := 1) (rm1_4 l Z a0 hw [] a73 vz h73 n0 Zs75 fr74 A73 F76 F77 F78 hs) hZ (own_w hw 7) (own_w hw 4) (by decide) (by decide)) (g := (mkF m 78 #[oI p0, oI p1, oI p2, oI p3, oI p4, oI p5, oI vz, oI q1, oI q2, oI q3, oI qq, oD (FP.l2d A), .second, oD (FP.l2d B), .second, oD (FP.l2d Cc), .second, .unset, .unset, .unset] [(.int vz), (.ref a73), (.ref a73)])) rfl (by rw [hml]; rfl) (Steps.refl _) (a := a73) (argsL := [(.int vz)]) (rest := [(.ref a73)]) (lenOf pd_0_0 rfl) rfl (by show 2 * 0 + _ ≤ _; exact Nat.le_of_eq rfl) (hb hby at_78) (fun _ _ => ⟨rfl, e73, (by decide : 1 + 1 ≤ _), (by decide : 3 + 8 ≤ _)⟩)
    dsimp only [Pt.U, Pt.locs, Pt.cells, Pt.slots] at X79 l79 y79 z79 st79 hQ79
    subst l79 y79 z79
    obtain ⟨rfl, Nq79, Zq79, TC79⟩ := hQ79
    have N80 := Fr.app N0 Nq79
    refine own_tr st79 ?_
    refine own_via (fun t kz => XS.astore X79.here hx rfl (hb hby at_81) rfl rfl (l' := #[oI p0, oI p1, oI p2, oI p3, oI p4, oI p5, oI vz, oI q1, oI q2, oI q3, oI qq, oD (FP.l2d A), .second, oD (FP.l2d B), .second, oD (FP.l2d Cc), .second, oR a73, .unset, .unset]) rfl kz) ?_
    refine own_via (fun t kz => XS.aload X79.here hx rfl (hb hby at_83) rfl rfl kz) ?_
    refine own_via (fun t kz => XS.iload X79.here hx rfl (hb hby at_85) rfl kz) ?_
    show own_Go p e below _ (T79.setTop (mkF m 87 #[oI p0, oI p1, oI p2, oI p3, oI p4, oI p5, oI vz, oI q1, oI q2, oI q3, oI qq, oD (FP.l2d A), .second, oD (FP.l2d B), .second, oD (FP.l2d Cc), .second, oR a73, .unset, .unset] [(.int q1), (.ref a73)]))
    refine own_via (fun t kz => XS.dload X79.here hx rfl (hb hby at_87) rfl kz) ?_
    show own_Go p e below _ (T79.setTop (mkF m 89 #[oI p0, oI p1, oI p2, oI p3, oI p4, oI p5, oI vz, oI q1, oI q2, oI q3, oI qq, oD (FP.l2d A), .second, oD (FP.l2d B), .second, oD (FP.l2d Cc), .second, oR a73, .unset, .unset] [(.double (FP.l2d A)), (.int q1), (.ref a73)]))
    obtain ⟨cq81, kq81, qa81, qb81, qc81⟩ := isOf hZ rfl (own_exa4 TC79)
    obtain ⟨_, _, ⟨T81, L81, k81, n81⟩, -, X81, ⟨Lc81, hQ81, l81, y81, z81⟩, st81⟩ := X79.virtualBack hx (y := (⟨"com/example/coupewise/coupewise/WeightedDraw", "set", "(ID)V"⟩ : MethodName)) (z := (⟨"com/example/coupewise/coupewise/WeightedDraw", "set", "(ID)V"⟩ : MethodName)) hown (mvT hZ (own_w hw 18)) (mvT hZ (own_w hw 19)) (notFace_of_selects (args := #[]) (mvT hZ (own_w hw 21))) (mvT hZ (own_w hw 21)) (mvT hZ (own_w hw 20)) (by decide) (backOf (W := 0) (rm3_4 l Z a0 hw [] a73 q1 A (0 : Int64) (0 : Int64) (0 : Int64) (0 : Int64) T79.heap n0 Zq79 TC79 hp_q1 hbA own_bd0 own_bd0 own_bd0 own_bd0) hZ (own_w hw 22) (own_w hw 4) (by decide) (by decide)) qa81 qc81 (g := (mkF m 89 #[oI p0, oI p1, oI p2, oI p3, oI p4, oI p5, oI vz, oI q1, oI q2, oI q3, oI qq, oD (FP.l2d A), .second, oD (FP.l2d B), .second, oD (FP.l2d Cc), .second, oR a73, .unset, .unset] [(.double (FP.l2d A)), (.int q1), (.ref a73)])) rfl (by rw [hml]; rfl) (Steps.refl _) (argsL := [(.int q1), (.double (FP.l2d A))]) (rest := []) (lenOf pd_0_1 rfl) rfl (by show 2 * 0 + _ ≤ _; exact Nat.le_of_eq rfl) (hb hby at_89) (fun _ _ => ⟨rfl, rfl, (by decide : 2 + 0 ≤ _), (by decide : 11 + 0 ≤ _)⟩)
    dsimp only [Pt.U, Pt.locs, Pt.cells, Pt.slots] at X81 l81 y81 z81 st81 hQ81
    subst l81 y81 z81
    obtain ⟨rfl, Nq81, Zq81, TC81⟩ := hQ81
    have N82 := Fr.app N80 Nq81
    refine own_tr st81 ?_
    refine own_via (fun t kz => XS.aload X81.here hx rfl (hb hby at_92) rfl rfl kz) ?_
    refine own_via (fun t kz => XS.iload X81.here hx rfl (hb hby at_94) rfl kz) ?_
    refine own_via (fun t kz => XS.dload X81.here hx rfl (hb hby at_96) rfl kz) ?_
    show own_Go p e below _ (T81.setTop (mkF m 98 #[oI p0, oI p1, oI p2, oI p3, oI p4, oI p5, oI vz, oI q1, oI q2, oI q3, oI qq, oD (FP.l2d A), .second, oD (FP.l2d B), .second, oD (FP.l2d Cc), .second, oR a73, .unset, .unset] [(.double (FP.l2d B)), (.int q2), (.ref a73)]))
    obtain ⟨cq83, kq83, qa83, qb83, qc83⟩ := isOf hZ rfl (own_exa4 TC81)
    obtain ⟨_, _, ⟨T83, L83, k83, n83⟩, -, X83, ⟨Lc83, hQ83, l83, y83, z83⟩, st83⟩ := X81.virtualBack hx (y := (⟨"com/example/coupewise/coupewise/WeightedDraw", "set", "(ID)V"⟩ : MethodName)) (z := (⟨"com/example/coupewise/coupewise/WeightedDraw", "set", "(ID)V"⟩ : MethodName)) hown (mvT hZ (own_w hw 18)) (mvT hZ (own_w hw 19)) (notFace_of_selects (args := #[]) (mvT hZ (own_w hw 21))) (mvT hZ (own_w hw 21)) (mvT hZ (own_w hw 20)) (by decide) (backOf (W := 0) (rm3_4 l Z a0 hw [] a73 q2 B (if q1 = (0 : Int32) then A else (0 : Int64)) (if q1 = (1 : Int32) then A else (0 : Int64)) (if q1 = (2 : Int32) then A else (0 : Int64)) (if q1 = (3 : Int32) then A else (0 : Int64)) T81.heap n0 Zq81 TC81 hp_q2 hbB (own_bdi hbA own_bd0) (own_bdi hbA own_bd0) (own_bdi hbA own_bd0) (own_bdi hbA own_bd0)) hZ (own_w hw 22) (own_w hw 4) (by decide) (by decide)) qa83 qc83 (g := (mkF m 98 #[oI p0, oI p1, oI p2, oI p3, oI p4, oI p5, oI vz, oI q1, oI q2, oI q3, oI qq, oD (FP.l2d A), .second, oD (FP.l2d B), .second, oD (FP.l2d Cc), .second, oR a73, .unset, .unset] [(.double (FP.l2d B)), (.int q2), (.ref a73)])) rfl (by rw [hml]; rfl) (Steps.refl _) (argsL := [(.int q2), (.double (FP.l2d B))]) (rest := []) (lenOf pd_0_1 rfl) rfl (by show 2 * 0 + _ ≤ _; exact Nat.le_of_eq rfl) (hb hby at_98) (fun _ _ => ⟨rfl, rfl, (by decide : 2 + 0 ≤ _), (by decide : 11 + 0 ≤ _)⟩)
    dsimp only [Pt.U, Pt.locs, Pt.cells, Pt.slots] at X83 l83 y83 z83 st83 hQ83
    subst l83 y83 z83
    obtain ⟨rfl, Nq83, Zq83, TC83⟩ := hQ83
    have N84 := Fr.app N82 Nq83
    refine own_tr st83 ?_
    refine own_via (fun t kz => XS.aload X83.here hx rfl (hb hby at_101) rfl rfl kz) ?_
    refine own_via (fun t kz => XS.iload X83.here hx rfl (hb hby at_103) rfl kz) ?_
    refine own_via (fun t kz => XS.dload X83.here hx rfl (hb hby at_105) rfl kz) ?_
    show own_Go p e below _ (T83.setTop (mkF m 107 #[oI p0, oI p1, oI p2, oI p3, oI p4, oI p5, oI vz, oI q1, oI q2, oI q3, oI qq, oD (FP.l2d A), .second, oD (FP.l2d B), .second, oD (FP.l2d Cc), .second, oR a73, .unset, .unset] [(.double (FP.l2d Cc)), (.int q3), (.ref a73)]))
    obtain ⟨cq85, kq85, qa85, qb85, qc85⟩ := isOf hZ rfl (own_exa4 TC83)
    obtain ⟨_, _, ⟨T85, L85, k85, n85⟩, -, X85, ⟨Lc85, hQ85, l85, y85, z85⟩, st85⟩ := X83.virtualBack hx (y := (⟨"com/example/coupewise/coupewise/WeightedDraw", "set", "(ID)V"⟩ : MethodName)) (z := (⟨"com/example/coupewise/coupewise/WeightedDraw", "set", "(ID)V"⟩ : MethodName)) hown (mvT hZ (own_w hw 18)) (mvT hZ (own_w hw 19)) (notFace_of_selects (args := #[]) (mvT hZ (own_w hw 21))) (mvT hZ (own_w hw 21)) (mvT hZ (own_w hw 20)) (by decide) (backOf (W := 0) (rm3_4 l Z a0 hw [] a73 q3 Cc (if q2 = (0 : Int32) then B else (if q1 = (0 : Int32) then A else (0 : Int64))) (if q2 = (1 : Int32) then B else (if q1 = (1 : Int32) then A else (0 : Int64))) (if q2 = (2 : Int32) then B else (if q1 = (2 : Int32) then A else (0 : Int64))) (if q2 = (3 : Int32) then B else (if q1 = (3 : Int32) then A else (0 : Int64))) T83.heap n0 Zq83 TC83 hp_q3 hbCc (own_bdi hbB (own_bdi hbA own_bd0)) (own_bdi hbB (own_bdi hbA own_bd0)) (own_bdi hbB (own_bdi hbA own_bd0)) (own_bdi hbB (own_bdi hbA own_bd0))) hZ (own_w hw 22) (own_w hw 4) (by decide) (by decide)) qa85 qc85 (g := (mkF m 107 #[oI p0, oI p1, oI p2, oI p3, oI p4, oI p5, oI vz, oI q1, oI q2, oI q3, oI qq, oD (FP.l2d A), .second, oD (FP.l2d B), .second, oD (FP.l2d Cc), .second, oR a73, .unset, .unset] [(.double (FP.l2d Cc)), (.int q3), (.ref a73)])) rfl (by rw [hml]; rfl) (Steps.refl _) (argsL := [(.int q3), (.double (FP.l2d Cc))]) (rest := []) (lenOf pd_0_1 rfl) rfl (by show 2 * 0 + _ ≤ _; exact Nat.le_of_eq rfl) (hb hby at_107) (fun _ _ => ⟨rfl, rfl, (by decide : 2 + 0 ≤ _), (by decide : 11 + 0 ≤ _)⟩)
    dsimp only [Pt.U, Pt.locs, Pt.cells, Pt.slots] at X85 l85 y85 z85 st85 hQ85
    subst l85 y85 z85
    obtain ⟨rfl, Nq85, Zq85, TC85⟩ := hQ85
    have N86 := Fr.app N84 Nq85
    refine own_tr st85 ?_
    have TD85 : own_W4 Z T85.heap n0 a73 (own_e (0 : Int32) q1 q2 q3 A B Cc) (own_e (1 : Int32) q1 q2 q3 A B Cc) (own_e (2 : Int32) q1 q2 q3 A B Cc) (own_e (3 : Int32) q1 q2 q3 A B Cc) := TC85
    refine own_via (fun t kz => XS.dload X85.here hx rfl (hb hby at_110) rfl kz) ?_
    refine own_via (fun t kz => XS.iload X85.here hx rfl (hb hby at_112) rfl kz) ?_
    refine own_via (fun t kz => XS.iload X85.here hx rfl (hb hby at_114) rfl kz) ?_
    show own_Go p e below _ (T85.setTop (mkF m 116 #[oI p0, oI p1, oI p2, oI p3, oI p4, oI p5, oI vz, oI q1, oI q2, oI q3, oI qq, oD (FP.l2d A), .second, oD (FP.l2d B), .second, oD (FP.l2d Cc), .second, oR a73, .unset, .unset] [(.int q3), (.int q2), (.double (FP.l2d Cc))]))
    have jn88 : ∀ t, Steps p.tables e below (T85.setTop (mkF m 125 #[oI p0, oI p1, oI p2, oI p3, oI p4, oI p5, oI vz, oI q1, oI q2, oI q3, oI qq, oD (FP.l2d A), .second, oD (FP.l2d B), .second, oD (FP.l2d Cc), .second, oR a73, .unset, .unset] [(.double (FP.l2d (if q2 = q3 then (0 : Int64) else B))), (.double (FP.l2d Cc))])) t → Steps p.tables e below (T85.setTop (mkF m 116 #[oI p0, oI p1, oI p2, oI p3, oI p4, oI p5, oI vz, oI q1, oI q2, oI q3, oI qq, oD (FP.l2d A), .second, oD (FP.l2d B), .second, oD (FP.l2d Cc), .second, oR a73, .unset, .unset] [(.int q3), (.int q2), (.double (FP.l2d Cc))])) t := by
      intro t k
      show Steps p.tables e below (T85.setTop (mkF m 116 #[oI p0, oI p1, oI p2, oI p3, oI p4, oI p5, oI vz, oI q1, oI q2, oI q3, oI qq, oD (FP.l2d A), .second, oD (FP.l2d B), .second, oD (FP.l2d Cc), .second, oR a73, .unset, .unset] [(.int q3), (.int q2), (.double (FP.l2d Cc))])) t
      by_cases hc116_87 : q2 = q3
      · refine XS.icmpYes X85.here hx rfl (pc0 := 116) (pc' := 124) rfl (hb hby at_116) rfl (teq hc116_87).1 (by decide) (by decide) ?_
        show Steps p.tables e below (T85.setTop (mkF m 124 #[oI p0, oI p1, oI p2, oI p3, oI p4, oI p5, oI vz, oI q1, oI q2, oI q3, oI qq, oD (FP.l2d A), .second, oD (FP.l2d B), .second, oD (FP.l2d Cc), .second, oR a73, .unset, .unset] [(.double (FP.l2d Cc))])) t
        refine XS.dconst0 X85.here hx rfl (hb hby at_124) (v := (FP.l2d (0 : Int64))) own_dconst0 ?_
        rw [if_pos hc116_87] at k
        exact k
      · refine XS.icmpNo X85.here hx rfl (hb hby at_116) rfl (feq hc116_87).1 ?_
        show Steps p.tables e below (T85.setTop (mkF m 119 #[oI p0, oI p1, oI p2, oI p3, oI p4, oI p5, oI vz, oI q1, oI q2, oI q3, oI qq, oD (FP.l2d A), .second, oD (FP.l2d B), .second, oD (FP.l2d Cc), .second, oR a73, .unset, .unset] [(.double (FP.l2d Cc))])) t
        refine XS.dload X85.here hx rfl (hb hby at_119) rfl ?_
        refine XS.goto X85.here hx rfl (pc0 := 121) (pc' := 125) rfl (hb hby at_121) (by decide) (by decide) ?_
        rw [if_neg hc116_87] at k
        exact k
    refine own_via jn88 ?_
    show own_Go p e below _ (T85.setTop (mkF m 125 #[oI p0, oI p1, oI p2, oI p3, oI p4, oI p5, oI vz, oI q1, oI q2, oI q3, oI qq, oD (FP.l2d A), .second, oD (FP.l2d B), .second, oD (FP.l2d Cc), .second, oR a73, .unset, .unset] [(.double (FP.l2d (if q2 = q3 then (0 : Int64) else B))), (.double (FP.l2d Cc))]))
    refine own_via (fun t kz => XS.daddS X85.here hx rfl (hb hby at_125) rfl (nn_w (dadd_w (own_b53 hbCc (by decide)) (own_b53 (own_bdi own_bd0 hbB) (by decide)))) (dadd_w (own_b53 hbCc (by decide)) (own_b53 (own_bdi own_bd0 hbB) (by decide))) kz) ?_
    refine own_via (fun t kz => XS.iload X85.here hx rfl (hb hby at_126) rfl kz) ?_
    refine own_via (fun t kz => XS.iload X85.here hx rfl (hb hby at_128) rfl kz) ?_
    show own_Go p e below _ (T85.setTop (mkF m 130 #[oI p0, oI p1, oI p2, oI p3, oI p4, oI p5, oI vz, oI q1, oI q2, oI q3, oI qq, oD (FP.l2d A), .second, oD (FP.l2d B), .second, oD (FP.l2d Cc), .second, oR a73, .unset, .unset] [(.int q2), (.int q1), (.double (FP.l2d (Cc + (if q2 = q3 then (0 : Int64) else B))))]))
    have jn91 : ∀ t, Steps p.tables e below (T85.setTop (mkF m 146 #[oI p0, oI p1, oI p2, oI p3, oI p4, oI p5, oI vz, oI q1, oI q2, oI q3, oI qq, oD (FP.l2d A), .second, oD (FP.l2d B), .second, oD (FP.l2d Cc), .second, oR a73, .unset, .unset] [(.double (FP.l2d (if q1 = q2 then (0 : Int64) else (if q1 = q3 then (0 : Int64) else A)))), (.double (FP.l2d (Cc + (if q2 = q3 then (0 : Int64) else B))))])) t → Steps p.tables e below (T85.setTop (mkF m 130 #[oI p0, oI p1, oI p2, oI p3, oI p4, oI p5, oI vz, oI q1, oI q2, oI q3, oI qq, oD (FP.l2d A), .second, oD (FP.l2d B), .second, oD (FP.l2d Cc), .second, oR a73, .unset, .unset] [(.int q2), (.int q1), (.double (FP.l2d (Cc + (if q2 = q3 then (0 : Int64) else B))))])) t := by
      intro t k
      show Steps p.tables e below (T85.setTop (mkF m 130 #[oI p0, oI p1, oI p2, oI p3, oI p4, oI p5, oI vz, oI q1, oI q2, oI q3, oI qq, oD (FP.l2d A), .second, oD (FP.l2d B), .second, oD (FP.l2d Cc), .second, oR a73, .unset, .unset] [(.int q2), (.int q1), (.double (FP.l2d (Cc + (if q2 = q3 then (0 : Int64) else B))))])) t
      by_cases hc130_89 : q1 = q2
      · refine XS.icmpYes X85.here hx rfl (pc0 := 130) (pc' := 145) rfl (hb hby at_130) rfl (teq hc130_89).1 (by decide) (by decide) ?_
        show Steps p.tables e below (T85.setTop (mkF m 145 #[oI p0, oI p1, oI p2, oI p3, oI p4, oI p5, oI vz, oI q1, oI q2, oI q3, oI qq, oD (FP.l2d A), .second, oD (FP.l2d B), .second, oD (FP.l2d Cc), .second, oR a73, .unset, .unset] [(.double (FP.l2d (Cc + (if q2 = q3 then (0 : Int64) else B))))])) t
        refine XS.dconst0 X85.here hx rfl (hb hby at_145) (v := (FP.l2d (0 : Int64))) own_dconst0 ?_
        rw [if_pos hc130_89] at k
        exact k
      · refine XS.icmpNo X85.here hx rfl (hb hby at_130) rfl (feq hc130_89).1 ?_
        refine XS.iload X85.here hx rfl (hb hby at_133) rfl ?_
        show Steps p.tables e below (T85.setTop (mkF m 135 #[oI p0, oI p1, oI p2, oI p3, oI p4, oI p5, oI vz, oI q1, oI q2, oI q3, oI qq, oD (FP.l2d A), .second, oD (FP.l2d B), .second, oD (FP.l2d Cc), .second, oR a73, .unset, .unset] [(.int q1), (.double (FP.l2d (Cc + (if q2 = q3 then (0 : Int64) else B))))])) t
        refine XS.iload X85.here hx rfl (hb hby at_135) rfl ?_
        show Steps p.tables e below (T85.setTop (mkF m 137 #[oI p0, oI p1, oI p2, oI p3, oI p4, oI p5, oI vz, oI q1, oI q2, oI q3, oI qq, oD (FP.l2d A), .second, oD (FP.l2d B), .second, oD (FP.l2d Cc), .second, oR a73, .unset, .unset] [(.int q3), (.int q1), (.double (FP.l2d (Cc + (if q2 = q3 then (0 : Int64) else B))))])) t
        by_cases hc137_90 : q1 = q3
        · refine XS.icmpYes X85.here hx rfl (pc0 := 137) (pc' := 145) rfl (hb hby at_137) rfl (teq hc137_90).1 (by decide) (by decide) ?_
          show Steps p.tables e below (T85.setTop (mkF m 145 #[oI p0, oI p1, oI p2, oI p3, oI p4, oI p5, oI vz, oI q1, oI q2, oI q3, oI qq, oD (FP.l2d A), .second, oD (FP.l2d B), .second, oD (FP.l2d Cc), .second, oR a73, .unset, .unset] [(.double (FP.l2d (Cc + (if q2 = q3 then (0 : Int64) else B))))])) t
          refine XS.dconst0 X85.here hx rfl (hb hby at_145) (v := (FP.l2d (0 : Int64))) own_dconst0 ?_
          rw [if_neg hc130_89, if_pos hc137_90] at k
          exact k
        · refine XS.icmpNo X85.here hx rfl (hb hby at_137) rfl (feq hc137_90).1 ?_
          refine XS.dload X85.here hx rfl (hb hby at_140) rfl ?_
          refine XS.goto X85.here hx rfl (pc0 := 142) (pc' := 146) rfl (hb hby at_142) (by decide) (by decide) ?_
          rw [if_neg hc130_89, if_neg hc137_90] at k
          exact k
    refine own_via jn91 ?_
    show own_Go p e below _ (T85.setTop (mkF m 146 #[oI p0, oI p1, oI p2, oI p3, oI p4, oI p5, oI vz, oI q1, oI q2, oI q3, oI qq, oD (FP.l2d A), .second, oD (FP.l2d B), .second, oD (FP.l2d Cc), .second, oR a73, .unset, .unset] [(.double (FP.l2d (if q1 = q2 then (0 : Int64) else (if q1 = q3 then (0 : Int64) else A)))), (.double (FP.l2d (Cc + (if q2 = q3 then (0 : Int64) else B))))]))
    refine own_via (fun t kz => XS.daddS X85.here hx rfl (hb hby at_146) rfl (nn_w (dadd_w (own_b53 (own_bda hbCc (own_bdi own_bd0 hbB) (by decide)) (by decide)) (own_b53 (own_bdi own_bd0 (own_bdi own_bd0 hbA)) (by decide)))) (dadd_w (own_b53 (own_bda hbCc (own_bdi own_bd0 hbB) (by decide)) (by decide)) (own_b53 (own_bdi own_bd0 (own_bdi own_bd0 hbA)) (by decide))) kz) ?_
    refine own_via (fun t kz => XS.dstore X85.here hx rfl (hb hby at_147) rfl (l' := #[oI p0, oI p1, oI p2, oI p3, oI p4, oI p5, oI vz, oI q1, oI q2, oI q3, oI qq, oD (FP.l2d A), .second, oD (FP.l2d B), .second, oD (FP.l2d Cc), .second, oR a73, oD (FP.l2d ((Cc + (if q2 = q3 then (0 : Int64) else B)) + (if q1 = q2 then (0 : Int64) else (if q1 = q3 then (0 : Int64) else A)))), .second]) rfl kz) ?_
    refine own_via (fun t kz => XS.aload X85.here hx rfl (hb hby at_149) rfl rfl kz) ?_
    refine own_via (fun t kz => XS.iload X85.here hx rfl (hb hby at_151) rfl kz) ?_
    show own_Go p e below _ (T85.setTop (mkF m 153 #[oI p0, oI p1, oI p2, oI p3, oI p4, oI p5, oI vz, oI q1, oI q2, oI q3, oI qq, oD (FP.l2d A), .second, oD (FP.l2d B), .second, oD (FP.l2d Cc), .second, oR a73, oD (FP.l2d ((Cc + (if q2 = q3 then (0 : Int64) else B)) + (if q1 = q2 then (0 : Int64) else (if q1 = q3 then (0 : Int64) else A)))), .second] [(.int q1), (.ref a73)]))
    obtain ⟨cq92, kq92, qa92, qb92, qc92⟩ := isOf hZ rfl (own_exa4 TD85)
    obtain ⟨_, _, ⟨T92, L92, k92, n92⟩, -, X92, ⟨Lc92, hQ92, l92, y92, z92⟩, st92⟩ := X85.virtualBack hx (y := (⟨"com/example/coupewise/coupewise/WeightedDraw", "weight", "(I)D"⟩ : MethodName)) (z := (⟨"com/example/coupewise/coupewise/WeightedDraw", "weight", "(I)D"⟩ : MethodName)) hown (mvT hZ (own_w hw 23)) (mvT hZ (own_w hw 24)) (notFace_of_selects (args := #[]) (mvT hZ (own_w hw 26))) (mvT hZ (own_w hw 26)) (mvT hZ (own_w hw 25)) (by decide) (backOf (W := 0) (rm4_4 l Z a0 hw [] a73 q1 (own_e (0 : Int32) q1 q2 q3 A B Cc) (own_e (1 : Int32) q1 q2 q3 A B Cc) (own_e (2 : Int32) q1 q2 q3 A B Cc) (own_e (3 : Int32) q1 q2 q3 A B Cc) T85.heap n0 Zq85 TD85 hp_q1) hZ (own_w hw 27) (own_w hw 4) (by decide) (by decide)) qa92 qc92 (g := (mkF m 153 #[oI p0, oI p1, oI p2, oI p3, oI p4, oI p5, oI vz, oI q1, oI q2, oI q3, oI qq, oD (FP.l2d A), .second, oD (FP.l2d B), .second, oD (FP.l2d Cc), .second, oR a73, oD (FP.l2d ((Cc + (if q2 = q3 then (0 : Int64) else B)) + (if q1 = q2 then (0 : Int64) else (if q1 = q3 then (0 : Int64) else A)))), .second] [(.int q1), (.ref a73)])) rfl (by rw [hml]; rfl) (Steps.refl _) (argsL := [(.int q1)]) (rest := []) (lenOf pd_0_2 rfl) rfl (by show 2 * 0 + _ ≤ _; exact Nat.le_of_eq rfl) (hb hby at_153) (fun _ _ => ⟨rfl, rfl, (by decide : 2 + 0 ≤ _), (by decide : 11 + 0 ≤ _)⟩)
    dsimp only [Pt.U, Pt.locs, Pt.cells, Pt.slots] at X92 l92 y92 z92 st92 hQ92
    subst l92 y92 z92
    obtain ⟨rfl, Nq92, e92⟩ := hQ92
    have N93 := Fr.app N86 Nq92
    refine own_tr st92 ?_
    refine own_via (fun t kz => XS.iload X92.here hx rfl (hb hby at_156) rfl kz) ?_
    refine own_via (fun t kz => XS.iload X92.here hx rfl (hb hby at_158) rfl kz) ?_
    refine own_via (fun t kz => XS.iload X92.here hx rfl (hb hby at_160) rfl kz) ?_
    show own_Go p e below _ (T92.setTop (mkF m 162 #[oI p0, oI p1, oI p2, oI p3, oI p4, oI p5, oI vz, oI q1, oI q2, oI q3, oI qq, oD (FP.l2d A), .second, oD (FP.l2d B), .second, oD (FP.l2d Cc), .second, oR a73, oD (FP.l2d ((Cc + (if q2 = q3 then (0 : Int64) else B)) + (if q1 = q2 then (0 : Int64) else (if q1 = q3 then (0 : Int64) else A)))), .second] [(.int q2), (.int q1), (.int q1), (.double (FP.l2d (own_sel4 q1 (own_e (0 : Int32) q1 q2 q3 A B Cc) (own_e (1 : Int32) q1 q2 q3 A B Cc) (own_e (2 : Int32) q1 q2 q3 A B Cc) (own_e (3 : Int32) q1 q2 q3 A B Cc))))]))
    refine own_via (fun t kz => XS.iload X92.here hx rfl (hb hby at_162) rfl kz) ?_
    refine own_via (fun t kz => XS.dload X92.here hx rfl (hb hby at_164) rfl kz) ?_
    refine own_via (fun t kz => XS.dload X92.here hx rfl (hb hby at_166) rfl kz) ?_
    refine own_via (fun t kz => XS.dload X92.here hx rfl (hb hby at_168) rfl kz) ?_
    show own_Go p e below _ (T92.setTop (mkF m 170 #[oI p0, oI p1, oI p2, oI p3, oI p4, oI p5, oI vz, oI q1, oI q2, oI q3, oI qq, oD (FP.l2d A), .second, oD (FP.l2d B), .second, oD (FP.l2d Cc), .second, oR a73, oD (FP.l2d ((Cc + (if q2 = q3 then (0 : Int64) else B)) + (if q1 = q2 then (0 : Int64) else (if q1 = q3 then (0 : Int64) else A)))), .second] [(.double (FP.l2d Cc)), (.double (FP.l2d B)), (.double (FP.l2d A)), (.int q3), (.int q2), (.int q1), (.int q1), (.double (FP.l2d (own_sel4 q1 (own_e (0 : Int32) q1 q2 q3 A B Cc) (own_e (1 : Int32) q1 q2 q3 A B Cc) (own_e (2 : Int32) q1 q2 q3 A B Cc) (own_e (3 : Int32) q1 q2 q3 A B Cc))))]))
    obtain ⟨_, _, ⟨T94, L94, k94, n94⟩, -, X94, ⟨Lc94, hQ94, l94, y94, z94⟩, st94⟩ := Jvm.LawKit.callS X92 hx (y := (⟨"com/example/coupewise/coupewise/WeightedDrawSetPinLaw", "expected", "(IIIIDDD)D"⟩ : MethodName)) hown (mvT hZ (own_w hw 28)) (mvT hZ (own_w hw 29)) (mvT hZ (own_w hw 30)) (mvT hZ (own_w hw 31)) (by decide) (backOf (W := 2) (rm5 l Z a0 hw [] q1 q1 q2 q3 (FP.l2d A) (FP.l2d B) (FP.l2d Cc) (FP.l2d (own_e q1 q1 q2 q3 A B Cc)) T85.heap n0 Zq85 (own_exp q1 q1 q2 q3 A B Cc)) hZ (own_w hw 31) (own_w hw 30) (by decide) (by decide)) (g := (mkF m 170 #[oI p0, oI p1, oI p2, oI p3, oI p4, oI p5, oI vz, oI q1, oI q2, oI q3, oI qq, oD (FP.l2d A), .second, oD (FP.l2d B), .second, oD (FP.l2d Cc), .second, oR a73, oD (FP.l2d ((Cc + (if q2 = q3 then (0 : Int64) else B)) + (if q1 = q2 then (0 : Int64) else (if q1 = q3 then (0 : Int64) else A)))), .second] [(.double (FP.l2d Cc)), (.double (FP.l2d B)), (.double (FP.l2d A)), (.int q3), (.int q2), (.int q1), (.int q1), (.double (FP.l2d (own_sel4 q1 (own_e (0 : Int32) q1 q2 q3 A B Cc) (own_e (1 : Int32) q1 q2 q3 A B Cc) (own_e (2 : Int32) q1 q2 q3 A B Cc) (own_e (3 : Int32) q1 q2 q3 A B Cc))))])) rfl (by rw [hml]; rfl) (argsL := [(.int q1), (.int q1), (.int q2), (.int q3), (.double (FP.l2d A)), (.double (FP.l2d B)), (.double (FP.l2d Cc))]) (rest := [(.double (FP.l2d (own_sel4 q1 (own_e (0 : Int32) q1 q2 q3 A B Cc) (own_e (1 : Int32) q1 q2 q3 A B Cc) (own_e (2 : Int32) q1 q2 q3 A B Cc) (own_e (3 : Int32) q1 q2 q3 A B Cc))))]) (lenOf pd_0_3 rfl) rfl (by show 2 * 0 + _ ≤ _; exact Nat.le_of_eq rfl) (hb hby at_170) (fun _ _ => ⟨rfl, e92, (by decide : 2 + 0 ≤ _), (by decide : 11 + 0 ≤ _)⟩)
    dsimp only [Pt.U, Pt.locs, Pt.cells, Pt.slots] at X94 l94 y94 z94 st94 hQ94
    subst l94 y94 z94
    obtain ⟨rfl, Nq94, e94⟩ := hQ94
    have N95 := Fr.app N93 Nq94
    refine own_via st94 ?_
    show own_Go p e below _ (T94.setTop (mkF m 173 #[oI p0, oI p1, oI p2, oI p3, oI p4, oI p5, oI vz, oI q1, oI q2, oI q3, oI qq, oD (FP.l2d A), .second, oD (FP.l2d B), .second, oD (FP.l2d Cc), .second, oR a73, oD (FP.l2d ((Cc + (if q2 = q3 then (0 : Int64) else B)) + (if q1 = q2 then (0 : Int64) else (if q1 = q3 then (0 : Int64) else A)))), .second] [(.double (FP.l2d (own_e q1 q1 q2 q3 A B Cc))), (.double (FP.l2d (own_sel4 q1 (own_e (0 : Int32) q1 q2 q3 A B Cc) (own_e (1 : Int32) q1 q2 q3 A B Cc) (own_e (2 : Int32) q1 q2 q3 A B Cc) (own_e (3 : Int32) q1 q2 q3 A B Cc))))]))
    refine own_via (fun t kz => XS.dcmpS X94.here hx rfl (hb hby at_173) rfl (dcmpV_w (by rw [own_at4 _ _ _ _ _ _ _ hp_q1]; exact own_b53 (own_bde hbA hbB hbCc) (by decide)) (own_b53 (own_bde hbA hbB hbCc) (by decide)) .l) kz) ?_
    show own_Go p e below _ (T94.setTop (mkF m 174 #[oI p0, oI p1, oI p2, oI p3, oI p4, oI p5, oI vz, oI q1, oI q2, oI q3, oI qq, oD (FP.l2d A), .second, oD (FP.l2d B), .second, oD (FP.l2d Cc), .second, oR a73, oD (FP.l2d ((Cc + (if q2 = q3 then (0 : Int64) else B)) + (if q1 = q2 then (0 : Int64) else (if q1 = q3 then (0 : Int64) else A)))), .second] [(.int (lcmpW (own_sel4 q1 (own_e (0 : Int32) q1 q2 q3 A B Cc) (own_e (1 : Int32) q1 q2 q3 A B Cc) (own_e (2 : Int32) q1 q2 q3 A B Cc) (own_e (3 : Int32) q1 q2 q3 A B Cc)) (own_e q1 q1 q2 q3 A B Cc)))]))
    refine own_via (fun t kz => XS.ifNo X94.here hx rfl (hb hby at_174) rfl ((if0 _ _).trans (teq ((lw_eq _ _).mpr (own_at4 q1 q1 q2 q3 A B Cc hp_q1))).2) kz) ?_
    refine own_via (fun t kz => XS.aload X94.here hx rfl (hb hby at_177) rfl rfl kz) ?_
    refine own_via (fun t kz => XS.iload X94.here hx rfl (hb hby at_179) rfl kz) ?_
    show own_Go p e below _ (T94.setTop (mkF m 181 #[oI p0, oI p1, oI p2, oI p3, oI p4, oI p5, oI vz, oI q1, oI q2, oI q3, oI qq, oD (FP.l2d A), .second, oD (FP.l2d B), .second, oD (FP.l2d Cc), .second, oR a73, oD (FP.l2d ((Cc + (if q2 = q3 then (0 : Int64) else B)) + (if q1 = q2 then (0 : Int64) else (if q1 = q3 then (0 : Int64) else A)))), .second] [(.int q2), (.ref a73)]))
    obtain ⟨cq96, kq96, qa96, qb96, qc96⟩ := isOf hZ e94 (own_exa4 TD85)
    obtain ⟨_, _, ⟨T96, L96, k96, n96⟩, -, X96, ⟨Lc96, hQ96, l96, y96, z96⟩, st96⟩ := X94.virtualBack hx (y := (⟨"com/example/coupewise/coupewise/WeightedDraw", "weight", "(I)D"⟩ : MethodName)) (z := (⟨"com/example/coupewise/coupewise/WeightedDraw", "weight", "(I)D"⟩ : MethodName)) hown (mvT hZ (own_w hw 23)) (mvT hZ (own_w hw 24)) (notFace_of_selects (args := #[]) (mvT hZ (own_w hw 26))) (mvT hZ (own_w hw 26)) (mvT hZ (own_w hw 25)) (by decide) (backOf (W := 0) (rm4_4 l Z a0 hw [] a73 q2 (own_e (0 : Int32) q1 q2 q3 A B Cc) (own_e (1 : Int32) q1 q2 q3 A B Cc) (own_e (2 : Int32) q1 q2 q3 A B Cc) (own_e (3 : Int32) q1 q2 q3 A B Cc) T85.heap n0 Zq85 TD85 hp_q2) hZ (own_w hw 27) (own_w hw 4) (by decide) (by decide)) qa96 qc96 (g := (mkF m 181 #[oI p0, oI p1, oI p2, oI p3, oI p4, oI p5, oI vz, oI q1, oI q2, oI q3, oI qq, oD (FP.l2d A), .second, oD (FP.l2d B), .second, oD (FP.l2d Cc), .second, oR a73, oD (FP.l2d ((Cc + (if q2 = q3 then (0 : Int64) else B)) + (if q1 = q2 then (0 : Int64) else (if q1 = q3 then (0 : Int64) else A)))), .second] [(.int q2), (.ref a73)])) rfl (by rw [hml]; rfl) (Steps.refl _) (argsL := [(.int q2)]) (rest := []) (lenOf pd_0_2 rfl) rfl (by show 2 * 0 + _ ≤ _; exact Nat.le_of_eq rfl) (hb hby at_181) (fun _ _ => ⟨rfl, e94, (by decide : 2 + 0 ≤ _), (by decide : 11 + 0 ≤ _)⟩)
    dsimp only [Pt.U, Pt.locs, Pt.cells, Pt.slots] at X96 l96 y96 z96 st96 hQ96
    subst l96 y96 z96
    obtain ⟨rfl, Nq96, e96⟩ := hQ96
    have N97 := Fr.app N95 Nq96
    refine own_tr st96 ?_
    refine own_via (fun t kz => XS.iload X96.here hx rfl (hb hby at_184) rfl kz) ?_
    refine own_via (fun t kz => XS.iload X96.here hx rfl (hb hby at_186) rfl kz) ?_
    refine own_via (fun t kz => XS.iload X96.here hx rfl (hb hby at_188) rfl kz) ?_
    show own_Go p e below _ (T96.setTop (mkF m 190 #[oI p0, oI p1, oI p2, oI p3, oI p4, oI p5, oI vz, oI q1, oI q2, oI q3, oI qq, oD (FP.l2d A), .second, oD (FP.l2d B), .second, oD (FP.l2d Cc), .second, oR a73, oD (FP.l2d ((Cc + (if q2 = q3 then (0 : Int64) else B)) + (if q1 = q2 then (0 : Int64) else (if q1 = q3 then (0 : Int64) else A)))), .second] [(.int q2), (.int q1), (.int q2), (.double (FP.l2d (own_sel4 q2 (own_e (0 : Int32) q1 q2 q3 A B Cc) (own_e (1 : Int32) q1 q2 q3 A B Cc) (own_e (2 : Int32) q1 q2 q3 A B Cc) (own_e (3 : Int32) q1 q2 q3 A B Cc))))]))
    refine own_via (fun t kz => XS.iload X96.here hx rfl (hb hby at_190) rfl kz) ?_
    refine own_via (fun t kz => XS.dload X96.here hx rfl (hb hby at_192) rfl kz) ?_
    refine own_via (fun t kz => XS.dload X96.here hx rfl (hb hby at_194) rfl kz) ?_
    refine own_via (fun t kz => XS.dload X96.here hx rfl (hb hby at_196) rfl kz) ?_
    show own_Go p e below _ (T96.setTop (mkF m 198 #[oI p0, oI p1, oI p2, oI p3, oI p4, oI p5, oI vz, oI q1, oI q2, oI q3, oI qq, oD (FP.l2d A), .second, oD (FP.l2d B), .second, oD (FP.l2d Cc), .second, oR a73, oD (FP.l2d ((Cc + (if q2 = q3 then (0 : Int64) else B)) + (if q1 = q2 then (0 : Int64) else (if q1 = q3 then (0 : Int64) else A)))), .second] [(.double (FP.l2d Cc)), (.double (FP.l2d B)), (.double (FP.l2d A)), (.int q3), (.int q2), (.int q1), (.int q2), (.double (FP.l2d (own_sel4 q2 (own_e (0 : Int32) q1 q2 q3 A B Cc) (own_e (1 : Int32) q1 q2 q3 A B Cc) (own_e (2 : Int32) q1 q2 q3 A B Cc) (own_e (3 : Int32) q1 q2 q3 A B Cc))))]))
    obtain ⟨_, _, ⟨T98, L98, k98, n98⟩, -, X98, ⟨Lc98, hQ98, l98, y98, z98⟩, st98⟩ := Jvm.LawKit.callS X96 hx (y := (⟨"com/example/coupewise/coupewise/WeightedDrawSetPinLaw", "expected", "(IIIIDDD)D"⟩ : MethodName)) hown (mvT hZ (own_w hw 28)) (mvT hZ (own_w hw 29)) (mvT hZ (own_w hw 30)) (mvT hZ (own_w hw 31)) (by decide) (backOf (W := 2) (rm5 l Z a0 hw [] q2 q1 q2 q3 (FP.l2d A) (FP.l2d B) (FP.l2d Cc) (FP.l2d (own_e q2 q1 q2 q3 A B Cc)) T85.heap n0 Zq85 (own_exp q2 q1 q2 q3 A B Cc)) hZ (own_w hw 31) (own_w hw 30) (by decide) (by decide)) (g := (mkF m 198 #[oI p0, oI p1, oI p2, oI p3, oI p4, oI p5, oI vz, oI q1, oI q2, oI q3, oI qq, oD (FP.l2d A), .second, oD (FP.l2d B), .second, oD (FP.l2d Cc), .second, oR a73, oD (FP.l2d ((Cc + (if q2 = q3 then (0 : Int64) else B)) + (if q1 = q2 then (0 : Int64) else (if q1 = q3 then (0 : Int64) else A)))), .second] [(.double (FP.l2d Cc)), (.double (FP.l2d B)), (.double (FP.l2d A)), (.int q3), (.int q2), (.int q1), (.int q2), (.double (FP.l2d (own_sel4 q2 (own_e (0 : Int32) q1 q2 q3 A B Cc) (own_e (1 : Int32) q1 q2 q3 A B Cc) (own_e (2 : Int32) q1 q2 q3 A B Cc) (own_e (3 : Int32) q1 q2 q3 A B Cc))))])) rfl (by rw [hml]; rfl) (argsL := [(.int q2), (.int q1), (.int q2), (.int q3), (.double (FP.l2d A)), (.double (FP.l2d B)), (.double (FP.l2d Cc))]) (rest := [(.double (FP.l2d (own_sel4 q2 (own_e (0 : Int32) q1 q2 q3 A B Cc) (own_e (1 : Int32) q1 q2 q3 A B Cc) (own_e (2 : Int32) q1 q2 q3 A B Cc) (own_e (3 : Int32) q1 q2 q3 A B Cc))))]) (lenOf pd_0_3 rfl) rfl (by show 2 * 0 + _ ≤ _; exact Nat.le_of_eq rfl) (hb hby at_198) (fun _ _ => ⟨rfl, e96, (by decide : 2 + 0 ≤ _), (by decide : 11 + 0 ≤ _)⟩)
    dsimp only [Pt.U, Pt.locs, Pt.cells, Pt.slots] at X98 l98 y98 z98 st98 hQ98
    subst l98 y98 z98
    obtain ⟨rfl, Nq98, e98⟩ := hQ98
    have N99 := Fr.app N97 Nq98
    refine own_via st98 ?_
    show own_Go p e below _ (T98.setTop (mkF m 201 #[oI p0, oI p1, oI p2, oI p3, oI p4, oI p5, oI vz, oI q1, oI q2, oI q3, oI qq, oD (FP.l2d A), .second, oD (FP.l2d B), .second, oD (FP.l2d Cc), .second, oR a73, oD (FP.l2d ((Cc + (if q2 = q3 then (0 : Int64) else B)) + (if q1 = q2 then (0 : Int64) else (if q1 = q3 then (0 : Int64) else A)))), .second] [(.double (FP.l2d (own_e q2 q1 q2 q3 A B Cc))), (.double (FP.l2d (own_sel4 q2 (own_e (0 : Int32) q1 q2 q3 A B Cc) (own_e (1 : Int32) q1 q2 q3 A B Cc) (own_e (2 : Int32) q1 q2 q3 A B Cc) (own_e (3 : Int32) q1 q2 q3 A B Cc))))]))
    refine own_via (fun t kz => XS.dcmpS X98.here hx rfl (hb hby at_201) rfl (dcmpV_w (by rw [own_at4 _ _ _ _ _ _ _ hp_q2]; exact own_b53 (own_bde hbA hbB hbCc) (by decide)) (own_b53 (own_bde hbA hbB hbCc) (by decide)) .l) kz) ?_
    show own_Go p e below _ (T98.setTop (mkF m 202 #[oI p0, oI p1, oI p2, oI p3, oI p4, oI p5, oI vz, oI q1, oI q2, oI q3, oI qq, oD (FP.l2d A), .second, oD (FP.l2d B), .second, oD (FP.l2d Cc), .second, oR a73, oD (FP.l2d ((Cc + (if q2 = q3 then (0 : Int64) else B)) + (if q1 = q2 then (0 : Int64) else (if q1 = q3 then (0 : Int64) else A)))), .second] [(.int (lcmpW (own_sel4 q2 (own_e (0 : Int32) q1 q2 q3 A B Cc) (own_e (1 : Int32) q1 q2 q3 A B Cc) (own_e (2 : Int32) q1 q2 q3 A B Cc) (own_e (3 : Int32) q1 q2 q3 A B Cc)) (own_e q2 q1 q2 q3 A B Cc)))]))
    refine own_via (fun t kz => XS.ifNo X98.here hx rfl (hb hby at_202) rfl ((if0 _ _).trans (teq ((lw_eq _ _).mpr (own_at4 q2 q1 q2 q3 A B Cc hp_q2))).2) kz) ?_
    refine own_via (fun t kz => XS.aload X98.here hx rfl (hb hby at_205) rfl rfl kz) ?_
    refine own_via (fun t kz => XS.iload X98.here hx rfl (hb hby at_207) rfl kz) ?_
    show own_Go p e below _ (T98.setTop (mkF m 209 #[oI p0, oI p1, oI p2, oI p3, oI p4, oI p5, oI vz, oI q1, oI q2, oI q3, oI qq, oD (FP.l2d A), .second, oD (FP.l2d B), .second, oD (FP.l2d Cc), .second, oR a73, oD (FP.l2d ((Cc + (if q2 = q3 then (0 : Int64) else B)) + (if q1 = q2 then (0 : Int64) else (if q1 = q3 then (0 : Int64) else A)))), .second] [(.int q3), (.ref a73)]))
    obtain ⟨cq100, kq100, qa100, qb100, qc100⟩ := isOf hZ e98 (own_exa4 TD85)
    obtain ⟨_, _, ⟨T100, L100, k100, n100⟩, -, X100, ⟨Lc100, hQ100, l100, y100, z100⟩, st100⟩ := X98.virtualBack hx (y := (⟨"com/example/coupewise/coupewise/WeightedDraw", "weight", "(I)D"⟩ : MethodName)) (z := (⟨"com/example/coupewise/coupewise/WeightedDraw", "weight", "(I)D"⟩ : MethodName)) hown (mvT hZ (own_w hw 23)) (mvT hZ (own_w hw 24)) (notFace_of_selects (args := #[]) (mvT hZ (own_w hw 26))) (mvT hZ (own_w hw 26)) (mvT hZ (own_w hw 25)) (by decide) (backOf (W := 0) (rm4_4 l Z a0 hw [] a73 q3 (own_e (0 : Int32) q1 q2 q3 A B Cc) (own_e (1 : Int32) q1 q2 q3 A B Cc) (own_e (2 : Int32) q1 q2 q3 A B Cc) (own_e (3 : Int32) q1 q2 q3 A B Cc) T85.heap n0 Zq85 TD85 hp_q3) hZ (own_w hw 27) (own_w hw 4) (by decide) (by decide)) qa100 qc100 (g := (mkF m 209 #[oI p0, oI p1, oI p2, oI p3, oI p4, oI p5, oI vz, oI q1, oI q2, oI q3, oI qq, oD (FP.l2d A), .second, oD (FP.l2d B), .second, oD (FP.l2d Cc), .second, oR a73, oD (FP.l2d ((Cc + (if q2 = q3 then (0 : Int64) else B)) + (if q1 = q2 then (0 : Int64) else (if q1 = q3 then (0 : Int64) else A)))), .second] [(.int q3), (.ref a73)])) rfl (by rw [hml]; rfl) (Steps.refl _) (argsL := [(.int q3)]) (rest := []) (lenOf pd_0_2 rfl) rfl (by show 2 * 0 + _ ≤ _; exact Nat.le_of_eq rfl) (hb hby at_209) (fun _ _ => ⟨rfl, e98, (by decide : 2 + 0 ≤ _), (by decide : 11 + 0 ≤ _)⟩)
    dsimp only [Pt.U, Pt.locs, Pt.cells, Pt.slots] at X100 l100 y100 z100 st100 hQ100
    subst l100 y100 z100
    obtain ⟨rfl, Nq100, e100⟩ := hQ100
    have N101 := Fr.app N99 Nq100
    refine own_tr st100 ?_
    refine own_via (fun t kz => XS.dload X100.here hx rfl (hb hby at_212) rfl kz) ?_
    show own_Go p e below _ (T100.setTop (mkF m 214 #[oI p0, oI p1, oI p2, oI p3, oI p4, oI p5, oI vz, oI q1, oI q2, oI q3, oI qq, oD (FP.l2d A), .second, oD (FP.l2d B), .second, oD (FP.l2d Cc), .second, oR a73, oD (FP.l2d ((Cc + (if q2 = q3 then (0 : Int64) else B)) + (if q1 = q2 then (0 : Int64) else (if q1 = q3 then (0 : Int64) else A)))), .second] [(.double (FP.l2d Cc)), (.double (FP.l2d (own_sel4 q3 (own_e (0 : Int32) q1 q2 q3 A B Cc) (own_e (1 : Int32) q1 q2 q3 A B Cc) (own_e (2 : Int32) q1 q2 q3 A B Cc) (own_e (3 : Int32) q1 q2 q3 A B Cc))))]))
    refine own_via (fun t kz => XS.dcmpS X100.here hx rfl (hb hby at_214) rfl (dcmpV_w (by rw [own_at4 _ _ _ _ _ _ _ hp_q3]; exact own_b53 (own_bde hbA hbB hbCc) (by decide)) (own_b53 hbCc (by decide)) .l) kz) ?_
    show own_Go p e below _ (T100.setTop (mkF m 215 #[oI p0, oI p1, oI p2, oI p3, oI p4, oI p5, oI vz, oI q1, oI q2, oI q3, oI qq, oD (FP.l2d A), .second, oD (FP.l2d B), .second, oD (FP.l2d Cc), .second, oR a73, oD (FP.l2d ((Cc + (if q2 = q3 then (0 : Int64) else B)) + (if q1 = q2 then (0 : Int64) else (if q1 = q3 then (0 : Int64) else A)))), .second] [(.int (lcmpW (own_sel4 q3 (own_e (0 : Int32) q1 q2 q3 A B Cc) (own_e (1 : Int32) q1 q2 q3 A B Cc) (own_e (2 : Int32) q1 q2 q3 A B Cc) (own_e (3 : Int32) q1 q2 q3 A B Cc)) Cc))]))
    refine own_via (fun t kz => XS.ifNo X100.here hx rfl (hb hby at_215) rfl ((if0 _ _).trans (teq ((lw_eq _ _).mpr ((own_at4 q3 q1 q2 q3 A B Cc hp_q3).trans (if_pos rfl)))).2) kz) ?_
    refine own_via (fun t kz => XS.aload X100.here hx rfl (hb hby at_218) rfl rfl kz) ?_
    refine own_via (fun t kz => XS.iload X100.here hx rfl (hb hby at_220) rfl kz) ?_
    show own_Go p e below _ (T100.setTop (mkF m 222 #[oI p0, oI p1, oI p2, oI p3, oI p4, oI p5, oI vz, oI q1, oI q2, oI q3, oI qq, oD (FP.l2d A), .second, oD (FP.l2d B), .second, oD (FP.l2d Cc), .second, oR a73, oD (FP.l2d ((Cc + (if q2 = q3 then (0 : Int64) else B)) + (if q1 = q2 then (0 : Int64) else (if q1 = q3 then (0 : Int64) else A)))), .second] [(.int qq), (.ref a73)]))
    obtain ⟨cq102, kq102, qa102, qb102, qc102⟩ := isOf hZ e100 (own_exa4 TD85)
    obtain ⟨_, _, ⟨T102, L102, k102, n102⟩, -, X102, ⟨Lc102, hQ102, l102, y102, z102⟩, st102⟩ := X100.virtualBack hx (y := (⟨"com/example/coupewise/coupewise/WeightedDraw", "weight", "(I)D"⟩ : MethodName)) (z := (⟨"com/example/coupewise/coupewise/WeightedDraw", "weight", "(I)D"⟩ : MethodName)) hown (mvT hZ (own_w hw 23)) (mvT hZ (own_w hw 24)) (notFace_of_selects (args := #[]) (mvT hZ (own_w hw 26))) (mvT hZ (own_w hw 26)) (mvT hZ (own_w hw 25)) (by decide) (backOf (W := 0) (rm4_4 l Z a0 hw [] a73 qq (own_e (0 : Int32) q1 q2 q3 A B Cc) (own_e (1 : Int32) q1 q2 q3 A B Cc) (own_e (2 : Int32) q1 q2 q3 A B Cc) (own_e (3 : Int32) q1 q2 q3 A B Cc) T85.heap n0 Zq85 TD85 hp_qq) hZ (own_w hw 27) (own_w hw 4) (by decide) (by decide)) qa102 qc102 (g := (mkF m 222 #[oI p0, oI p1, oI p2, oI p3, oI p4, oI p5, oI vz, oI q1, oI q2, oI q3, oI qq, oD (FP.l2d A), .second, oD (FP.l2d B), .second, oD (FP.l2d Cc), .second, oR a73, oD (FP.l2d ((Cc + (if q2 = q3 then (0 : Int64) else B)) + (if q1 = q2 then (0 : Int64) else (if q1 = q3 then (0 : Int64) else A)))), .second] [(.int qq), (.ref a73)])) rfl (by rw [hml]; rfl) (Steps.refl _) (argsL := [(.int qq)]) (rest := []) (lenOf pd_0_2 rfl) rfl (by show 2 * 0 + _ ≤ _; exact Nat.le_of_eq rfl) (hb hby at_222) (fun _ _ => ⟨rfl, e100, (by decide : 2 + 0 ≤ _), (by decide : 11 + 0 ≤ _)⟩)
    dsimp only [Pt.U, Pt.locs, Pt.cells, Pt.slots] at X102 l102 y102 z102 st102 hQ102
    subst l102 y102 z102
    obtain ⟨rfl, Nq102, e102⟩ := hQ102
    have N103 := Fr.app N101 Nq102
    refine own_tr st102 ?_
    refine own_via (fun t kz => XS.iload X102.here hx rfl (hb hby at_225) rfl kz) ?_
    refine own_via (fun t kz => XS.iload X102.here hx rfl (hb hby at_227) rfl kz) ?_
    refine own_via (fun t kz => XS.iload X102.here hx rfl (hb hby at_229) rfl kz) ?_
    show own_Go p e below _ (T102.setTop (mkF m 231 #[oI p0, oI p1, oI p2, oI p3, oI p4, oI p5, oI vz, oI q1, oI q2, oI q3, oI qq, oD (FP.l2d A), .second, oD (FP.l2d B), .second, oD (FP.l2d Cc), .second, oR a73, oD (FP.l2d ((Cc + (if q2 = q3 then (0 : Int64) else B)) + (if q1 = q2 then (0 : Int64) else (if q1 = q3 then (0 : Int64) else A)))), .second] [(.int q2), (.int q1), (.int qq), (.double (FP.l2d (own_sel4 qq (own_e (0 : Int32) q1 q2 q3 A B Cc) (own_e (1 : Int32) q1 q2 q3 A B Cc) (own_e (2 : Int32) q1 q2 q3 A B Cc) (own_e (3 : Int32) q1 q2 q3 A B Cc))))]))
    refine own_via (fun t kz => XS.iload X102.here hx rfl (hb hby at_231) rfl kz) ?_
    refine own_via (fun t kz => XS.dload X102.here hx rfl (hb hby at_233) rfl kz) ?_
    refine own_via (fun t kz => XS.dload X102.here hx rfl (hb hby at_235) rfl kz) ?_
    refine own_via (fun t kz => XS.dload X102.here hx rfl (hb hby at_237) rfl kz) ?_
    show own_Go p e below _ (T102.setTop (mkF m 239 #[oI p0, oI p1, oI p2, oI p3, oI p4, oI p5, oI vz, oI q1, oI q2, oI q3, oI qq, oD (FP.l2d A), .second, oD (FP.l2d B), .second, oD (FP.l2d Cc), .second, oR a73, oD (FP.l2d ((Cc + (if q2 = q3 then (0 : Int64) else B)) + (if q1 = q2 then (0 : Int64) else (if q1 = q3 then (0 : Int64) else A)))), .second] [(.double (FP.l2d Cc)), (.double (FP.l2d B)), (.double (FP.l2d A)), (.int q3), (.int q2), (.int q1), (.int qq), (.double (FP.l2d (own_sel4 qq (own_e (0 : Int32) q1 q2 q3 A B Cc) (own_e (1 : Int32) q1 q2 q3 A B Cc) (own_e (2 : Int32) q1 q2 q3 A B Cc) (own_e (3 : Int32) q1 q2 q3 A B Cc))))]))
    obtain ⟨_, _, ⟨T104, L104, k104, n104⟩, -, X104, ⟨Lc104, hQ104, l104, y104, z104⟩, st104⟩ := Jvm.LawKit.callS X102 hx (y := (⟨"com/example/coupewise/coupewise/WeightedDrawSetPinLaw", "expected", "(IIIIDDD)D"⟩ : MethodName)) hown (mvT hZ (own_w hw 28)) (mvT hZ (own_w hw 29)) (mvT hZ (own_w hw 30)) (mvT hZ (own_w hw 31)) (by decide) (backOf (W := 2) (rm5 l Z a0 hw [] qq q1 q2 q3 (FP.l2d A) (FP.l2d B) (FP.l2d Cc) (FP.l2d (own_e qq q1 q2 q3 A B Cc)) T85.heap n0 Zq85 (own_exp qq q1 q2 q3 A B Cc)) hZ (own_w hw 31) (own_w hw 30) (by decide) (by decide)) (g := (mkF m 239 #[oI p0, oI p1, oI p2, oI p3, oI p4, oI p5, oI vz, oI q1, oI q2, oI q3, oI qq, oD (FP.l2d A), .second, oD (FP.l2d B), .second, oD (FP.l2d Cc), .second, oR a73, oD (FP.l2d ((Cc + (if q2 = q3 then (0 : Int64) else B)) + (if q1 = q2 then (0 : Int64) else (if q1 = q3 then (0 : Int64) else A)))), .second] [(.double (FP.l2d Cc)), (.double (FP.l2d B)), (.double (FP.l2d A)), (.int q3), (.int q2), (.int q1), (.int qq), (.double (FP.l2d (own_sel4 qq (own_e (0 : Int32) q1 q2 q3 A B Cc) (own_e (1 : Int32) q1 q2 q3 A B Cc) (own_e (2 : Int32) q1 q2 q3 A B Cc) (own_e (3 : Int32) q1 q2 q3 A B Cc))))])) rfl (by rw [hml]; rfl) (argsL := [(.int qq), (.int q1), (.int q2), (.int q3), (.double (FP.l2d A)), (.double (FP.l2d B)), (.double (FP.l2d Cc))]) (rest := [(.double (FP.l2d (own_sel4 qq (own_e (0 : Int32) q1 q2 q3 A B Cc) (own_e (1 : Int32) q1 q2 q3 A B Cc) (own_e (2 : Int32) q1 q2 q3 A B Cc) (own_e (3 : Int32) q1 q2 q3 A B Cc))))]) (lenOf pd_0_3 rfl) rfl (by show 2 * 0 + _ ≤ _; exact Nat.le_of_eq rfl) (hb hby at_239) (fun _ _ => ⟨rfl, e102, (by decide : 2 + 0 ≤ _), (by decide : 11 + 0 ≤ _)⟩)
    dsimp only [Pt.U, Pt.locs, Pt.cells, Pt.slots] at X104 l104 y104 z104 st104 hQ104
    subst l104 y104 z104
    obtain ⟨rfl, Nq104, e104⟩ := hQ104
    have N105 := Fr.app N103 Nq104
    refine own_via st104 ?_
    show own_Go p e below _ (T104.setTop (mkF m 242 #[oI p0, oI p1, oI p2, oI p3, oI p4, oI p5, oI vz, oI q1, oI q2, oI q3, oI qq, oD (FP.l2d A), .second, oD (FP.l2d B), .second, oD (FP.l2d Cc), .second, oR a73, oD (FP.l2d ((Cc + (if q2 = q3 then (0 : Int64) else B)) + (if q1 = q2 then (0 : Int64) else (if q1 = q3 then (0 : Int64) else A)))), .second] [(.double (FP.l2d (own_e qq q1 q2 q3 A B Cc))), (.double (FP.l2d (own_sel4 qq (own_e (0 : Int32) q1 q2 q3 A B Cc) (own_e (1 : Int32) q1 q2 q3 A B Cc) (own_e (2 : Int32) q1 q2 q3 A B Cc) (own_e (3 : Int32) q1 q2 q3 A B Cc))))]))
    refine own_via (fun t kz => XS.dcmpS X104.here hx rfl (hb hby at_242) rfl (dcmpV_w (by rw [own_at4 _ _ _ _ _ _ _ hp_qq]; exact own_b53 (own_bde hbA hbB hbCc) (by decide)) (own_b53 (own_bde hbA hbB hbCc) (by decide)) .l) kz) ?_
    show own_Go p e below _ (T104.setTop (mkF m 243 #[oI p0, oI p1, oI p2, oI p3, oI p4, oI p5, oI vz, oI q1, oI q2, oI q3, oI qq, oD (FP.l2d A), .second, oD (FP.l2d B), .second, oD (FP.l2d Cc), .second, oR a73, oD (FP.l2d ((Cc + (if q2 = q3 then (0 : Int64) else B)) + (if q1 = q2 then (0 : Int64) else (if q1 = q3 then (0 : Int64) else A)))), .second] [(.int (lcmpW (own_sel4 qq (own_e (0 : Int32) q1 q2 q3 A B Cc) (own_e (1 : Int32) q1 q2 q3 A B Cc) (own_e (2 : Int32) q1 q2 q3 A B Cc) (own_e (3 : Int32) q1 q2 q3 A B Cc)) (own_e qq q1 q2 q3 A B Cc)))]))
    refine own_via (fun t kz => XS.ifNo X104.here hx rfl (hb hby at_243) rfl ((if0 _ _).trans (teq ((lw_eq _ _).mpr (own_at4 qq q1 q2 q3 A B Cc hp_qq))).2) kz) ?_
    refine own_via (fun t kz => XS.aload X104.here hx rfl (hb hby at_246) rfl rfl kz) ?_
    show own_Go p e below _ (T104.setTop (mkF m 248 #[oI p0, oI p1, oI p2, oI p3, oI p4, oI p5, oI vz, oI q1, oI q2, oI q3, oI qq, oD (FP.l2d A), .second, oD (FP.l2d B), .second, oD (FP.l2d Cc), .second, oR a73, oD (FP.l2d ((Cc + (if q2 = q3 then (0 : Int64) else B)) + (if q1 = q2 then (0 : Int64) else (if q1 = q3 then (0 : Int64) else A)))), .second] [(.ref a73)]))
    obtain ⟨cq106, kq106, qa106, qb106, qc106⟩ := isOf hZ e104 (own_exa4 TD85)
    obtain ⟨_, _, ⟨T106, L106, k106, n106⟩, -, X106, ⟨Lc106, hQ106, l106, y106, z106⟩, st106⟩ := X104.virtualBack hx (y := (⟨"com/example/coupewise/coupewise/WeightedDraw", "total", "()D"⟩ : MethodName)) (z := (⟨"com/example/coupewise/coupewise/WeightedDraw", "total", "()D"⟩ : MethodName)) hown (mvT hZ (own_w hw 32)) (mvT hZ (own_w hw 33)) (notFace_of_selects (args := #[]) (mvT hZ (own_w hw 35))) (mvT hZ (own_w hw 35)) (mvT hZ (own_w hw 34)) (by decide) (backOf (W := 0) (rm6_4 l Z a0 hw [] a73 (own_e (0 : Int32) q1 q2 q3 A B Cc) (own_e (1 : Int32) q1 q2 q3 A B Cc) (own_e (2 : Int32) q1 q2 q3 A B Cc) (own_e (3 : Int32) q1 q2 q3 A B Cc) T85.heap n0 Zq85 TD85) hZ (own_w hw 36) (own_w hw 4) (by decide) (by decide)) qa106 qc106 (g := (mkF m 248 #[oI p0, oI p1, oI p2, oI p3, oI p4, oI p5, oI vz, oI q1, oI q2, oI q3, oI qq, oD (FP.l2d A), .second, oD (FP.l2d B), .second, oD (FP.l2d Cc), .second, oR a73, oD (FP.l2d ((Cc + (if q2 = q3 then (0 : Int64) else B)) + (if q1 = q2 then (0 : Int64) else (if q1 = q3 then (0 : Int64) else A)))), .second] [(.ref a73)])) rfl (by rw [hml]; rfl) (Steps.refl _) (argsL := []) (rest := []) (lenOf pd_0_4 rfl) rfl (by show 2 * 0 + _ ≤ _; exact Nat.le_of_eq rfl) (hb hby at_248) (fun _ _ => ⟨rfl, e104, (by decide : 2 + 0 ≤ _), (by decide : 11 + 0 ≤ _)⟩)
    dsimp only [Pt.U, Pt.locs, Pt.cells, Pt.slots] at X106 l106 y106 z106 st106 hQ106
    subst l106 y106 z106
    obtain ⟨rfl, Nq106, e106⟩ := hQ106
    have N107 := Fr.app N105 Nq106
    refine own_tr st106 ?_
    refine own_via (fun t kz => XS.dload X106.here hx rfl (hb hby at_251) rfl kz) ?_
    show own_Go p e below _ (T106.setTop (mkF m 253 #[oI p0, oI p1, oI p2, oI p3, oI p4, oI p5, oI vz, oI q1, oI q2, oI q3, oI qq, oD (FP.l2d A), .second, oD (FP.l2d B), .second, oD (FP.l2d Cc), .second, oR a73, oD (FP.l2d ((Cc + (if q2 = q3 then (0 : Int64) else B)) + (if q1 = q2 then (0 : Int64) else (if q1 = q3 then (0 : Int64) else A)))), .second] [(.double (FP.l2d ((Cc + (if q2 = q3 then (0 : Int64) else B)) + (if q1 = q2 then (0 : Int64) else (if q1 = q3 then (0 : Int64) else A))))), (.double (FP.l2d (((own_e (0 : Int32) q1 q2 q3 A B Cc) + (own_e (1 : Int32) q1 q2 q3 A B Cc)) + ((own_e (2 : Int32) q1 q2 q3 A B Cc) + (own_e (3 : Int32) q1 q2 q3 A B Cc)))))]))
    refine own_via (fun t kz => XS.dcmpS X106.here hx rfl (hb hby at_253) rfl (dcmpV_w (own_b53 (own_bda (own_bda (own_bde hbA hbB hbCc) (own_bde hbA hbB hbCc) (by decide)) (own_bda (own_bde hbA hbB hbCc) (own_bde hbA hbB hbCc) (by decide)) (by decide)) (by decide)) (own_b53 (own_bda (own_bda hbCc (own_bdi own_bd0 hbB) (by decide)) (own_bdi own_bd0 (own_bdi own_bd0 hbA)) (by decide)) (by decide)) .l) kz) ?_
    show own_Go p e below _ (T106.setTop (mkF m 254 #[oI p0, oI p1, oI p2, oI p3, oI p4, oI p5, oI vz, oI q1, oI q2, oI q3, oI qq, oD (FP.l2d A), .second, oD (FP.l2d B), .second, oD (FP.l2d Cc), .second, oR a73, oD (FP.l2d ((Cc + (if q2 = q3 then (0 : Int64) else B)) + (if q1 = q2 then (0 : Int64) else (if q1 = q3 then (0 : Int64) else A)))), .second] [(.int (lcmpW (((own_e (0 : Int32) q1 q2 q3 A B Cc) + (own_e (1 : Int32) q1 q2 q3 A B Cc)) + ((own_e (2 : Int32) q1 q2 q3 A B Cc) + (own_e (3 : Int32) q1 q2 q3 A B Cc))) ((Cc + (if q2 = q3 then (0 : Int64) else B)) + (if q1 = q2 then (0 : Int64) else (if q1 = q3 then (0 : Int64) else A)))))]))
    refine own_via (fun t kz => XS.ifNo X106.here hx rfl (hb hby at_254) rfl ((if0 _ _).trans (teq ((lw_eq _ _).mpr (own_tot4 q1 q2 q3 A B Cc hp_q1 hp_q2 hp_q3))).2) kz) ?_
    refine own_via (fun t kz => XS.iconst X106.here hx rfl (hb hby at_257) kz) ?_
    refine own_via (fun t kz => XS.goto X106.here hx rfl (pc0 := 258) (pc' := 262) rfl (hb hby at_258) (by decide) (by decide) kz) ?_
    show own_Go p e below _ (T106.setTop (mkF m 262 #[oI p0, oI p1, oI p2, oI p3, oI p4, oI p5, oI vz, oI q1, oI q2, oI q3, oI qq, oD (FP.l2d A), .second, oD (FP.l2d B), .second, oD (FP.l2d Cc), .second, oR a73, oD (FP.l2d ((Cc + (if q2 = q3 then (0 : Int64) else B)) + (if q1 = q2 then (0 : Int64) else (if q1 = q3 then (0 : Int64) else A)))), .second] [(.int (1 : Int32))]))
    obtain ⟨fs, hr, hrun, hended, hW, hsame⟩ := X106.leave (v := some (.int (1 : Int32))) (fun h => by rw [Bd.returns] at h; cases h)
    refine ⟨_, _, retN X106 hx (t := .boolean) Bd.returns (by simp) (hb hby at_262) hr, hrun, hended, _, _, rfl, ?_, ⟨_, rfl⟩, hW, hsame.mono (by decide) (by decide)⟩
    show Q0 Z p0 p1 p2 p3 p4 p5 h0 n0 _ T106.heap _
    rw [e106]
    exact ⟨rfl, N107⟩
  · have hp_q1 := own_in8 hq1 hs
    have hp_q2 := own_in8 hq2 hs
    have hp_q3 := own_in8 hq3 hs
    have hp_qq := own_in8 hqq hs
    show own_Go p e below _ (s₁.setTop (mkF m 72 #[oI p0, oI p1, oI p2, oI p3, oI p4, oI p5, oI vz, oI q1, oI q2, oI q3, oI qq, oD (FP.l2d A), .second, oD (FP.l2d B), .second, oD (FP.l2d Cc), .second, .unset, .unset, .unset] []))
    obtain ⟨T109, h109, X109, e109, E109, A109, D109, -, st109⟩ := newO X0 hx hZ hown (own_w hw 2) (own_w hw 3) (own_w hw 4) e0 (g := (mkF m 72 #[oI p0, oI p1, oI p2, oI p3, oI p4, oI p5, oI vz, oI q1, oI q2, oI q3, oI qq, oD (FP.l2d A), .second, oD (FP.l2d B), .second, oD (FP.l2d Cc), .second, .unset, .unset, .unset] [])) rfl (hb hby at_72) (by decide) (by decide)
    obtain ⟨a109, g109⟩ : ∃ z, z = h0.size := ⟨_, rfl⟩
    rw [← g109] at A109 D109 st109
    refine own_via st109 ?_
    have fr110 : n0 ≤ a109 := Nat.le_trans Z0 (Nat.le_of_eq g109.symm)
    have Zs111 : n0 ≤ h109.size := Nat.le_trans Z0 E109.1
    have F112 : Fld Z h109 a109 "com/example/coupewise/coupewise/WeightedDraw" "size" "I" (.int (0 : Int32)) := D109 (Or.inr (own_w hw 12)) (ty := .int) (by decide)
    have F113 : Fld Z h109 a109 "com/example/coupewise/coupewise/WeightedDraw" "leaves" "I" (.int (0 : Int32)) := D109 (Or.inr (own_w hw 14)) (ty := .int) (by decide)
    have F114 : Fld Z h109 a109 "com/example/coupewise/coupewise/WeightedDraw" "sums" "[D" .null := D109 (Or.inr (own_w hw 17)) (ty := (.array .double)) (by decide)
    refine own_via (fun t kz => XS.dup X109.here hx rfl (hb hby at_75) rfl rfl kz) ?_
    refine own_via (fun t kz => XS.iload X109.here hx rfl (hb hby at_76) rfl kz) ?_
    show own_Go p e below _ (T109.setTop (mkF m 78 #[oI p0, oI p1, oI p2, oI p3, oI p4, oI p5, oI vz, oI q1, oI q2, oI q3, oI qq, oD (FP.l2d A), .second, oD (FP.l2d B), .second, oD (FP.l2d Cc), .second, .unset, .unset, .unset] [(.int vz), (.ref a109), (.ref a109)]))
    obtain ⟨_, _, ⟨T115, L115, k115, n115⟩, -, X115, ⟨Lc115, hQ115, l115, y115, z115⟩, st115⟩ := X109.specialBack hx (y := (⟨"com/example/coupewise/coupewise/WeightedDraw", "<init>", "(I)V"⟩ : MethodName)) rfl hown (mvT hZ (own_w hw 5)) (mvT hZ (own_w hw 6)) (mvT hZ (own_w hw 7)) (by decide) (backOf (W := 1) (rm1_8 l Z a0 hw [] a109 vz h109 n0 Zs111 fr110 A109 F112 F113 F114 hs) hZ (own_w hw 7) (own_w hw 4) (by decide) (by decide)) (g := (mkF m 78 #[oI p0, oI p1, oI p2, oI p3, oI p4, oI p5, oI vz, oI q1, oI q2, oI q3, oI qq, oD (FP.l2d A), .second, oD (FP.l2d B), .second, oD (FP.l2d Cc), .second, .unset, .unset, .unset] [(.int vz), (.ref a109), (.ref a109)])) rfl (by rw [hml]; rfl) (Steps.refl _) (a := a109) (argsL := [(.int vz)]) (rest := [(.ref a109)]) (lenOf pd_0_0 rfl) rfl (by show 2 * 0 + _ ≤ _; exact Nat.le_of_eq rfl) (hb hby at_78) (fun _ _ => ⟨rfl, e109, (by decide : 1 + 1 ≤ _), (by decide : 3 + 16 ≤ _)⟩)
    dsimp only [Pt.U, Pt.locs, Pt.cells, Pt.slots] at X115 l115 y115 z115 st115 hQ115
    subst l115 y115 z115
    obtain ⟨rfl, Nq115, Zq115, TC115⟩ := hQ115
    have N116 := Fr.app N0 Nq115
    refine own_tr st115 ?_
    refine own_via (fun t kz => XS.astore X115.here hx rfl (hb hby at_81) rfl rfl (l' := #[oI p0, oI p1, oI p2, oI p3, oI p4, oI p5, oI vz, oI q1, oI q2, oI q3, oI qq, oD (FP.l2d A), .second, oD (FP.l2d B), .second, oD (FP.l2d Cc), .second, oR a109, .unset, .unset]) rfl kz) ?_
    refine own_via (fun t kz => XS.aload X115.here hx rfl (hb hby at_83) rfl rfl kz) ?_
    refine own_via (fun t kz => XS.iload X115.here hx rfl (hb hby at_85) rfl kz) ?_
    show own_Go p e below _ (T115.setTop (mkF m 87 #[oI p0, oI p1, oI p2, oI p3, oI p4, oI p5, oI vz, oI q1, oI q2, oI q3, oI qq, oD (FP.l2d A), .second, oD (FP.l2d B), .second, oD (FP.l2d Cc), .second, oR a109, .unset, .unset] [(.int q1), (.ref a109)]))
    refine own_via (fun t kz => XS.dload X115.here hx rfl (hb hby at_87) rfl kz) ?_
    show own_Go p e below _ (T115.setTop (mkF m 89 #[oI p0, oI p1, oI p2, oI p3, oI p4, oI p5, oI vz, oI q1, oI q2, oI q3, oI qq, oD (FP.l2d A), .second, oD (FP.l2d B), .second, oD (FP.l2d Cc), .second, oR a109, .unset, .unset] [(.double (FP.l2d A)), (.int q1), (.ref a109)]))
    obtain ⟨cq117, kq117, qa117, qb117, qc117⟩ := isOf hZ rfl (own_exa8 TC115)
    obtain ⟨_, _, ⟨T117, L117, k117, n117⟩, -, X117, ⟨Lc117, hQ117, l117, y117, z117⟩, st117⟩ := X115.virtualBack hx (y := (⟨"com/example/coupewise/coupewise/WeightedDraw", "set", "(ID)V"⟩ : MethodName)) (z := (⟨"com/example/coupewise/coupewise/WeightedDraw", "set", "(ID)V"⟩ : MethodName)) hown (mvT hZ (own_w hw 18)) (mvT hZ (own_w hw 19)) (notFace_of_selects (args := #[]) (mvT hZ (own_w hw 21))) (mvT hZ (own_w hw 21)) (mvT hZ (own_w hw 20)) (by decide) (backOf (W := 0) (rm3_8 l Z a0 hw [] a109 q1 A (0 : Int64) (0 : Int64) (0 : Int64) (0 : Int64) (0 : Int64) (0 : Int64) (0 : Int64) (0 : Int64) T115.heap n0 Zq115 TC115 hp_q1 hbA own_bd0 own_bd0 own_bd0 own_bd0 own_bd0 own_bd0 own_bd0 own_bd0) hZ (own_w hw 22) (own_w hw 4) (by decide) (by decide)) qa117 qc117 (g := (mkF m 89 #[oI p0, oI p1, oI p2, oI p3, oI p4, oI p5, oI vz, oI q1, oI q2, oI q3, oI qq, oD (FP.l2d A), .second, oD (FP.l2d B), .second, oD (FP.l2d Cc), .second, oR a109, .unset, .unset] [(.double (FP.l2d A)), (.int q1), (.ref a109)])) rfl (by rw [hml]; rfl) (Steps.refl _) (argsL := [(.int q1), (.double (FP.l2d A))]) (rest := []) (lenOf pd_0_1 rfl) rfl (by show 2 * 0 + _ ≤ _; exact Nat.le_of_eq rfl) (hb hby at_89) (fun _ _ => ⟨rfl, rfl, (by decide : 2 + 0 ≤ _), (by decide : 19 + 0 ≤ _)⟩)
    dsimp only [Pt.U, Pt.locs, Pt.cells, Pt.slots] at X117 l117 y117 z117 st117 hQ117
    subst l117 y117 z117
    obtain ⟨rfl, Nq117, Zq117, TC117⟩ := hQ117
    have N118 := Fr.app N116 Nq117
    refine own_tr st117 ?_
    refine own_via (fun t kz => XS.aload X117.here hx rfl (hb hby at_92) rfl rfl kz) ?_
    refine own_via (fun t kz => XS.iload X117.here hx rfl (hb hby at_94) rfl kz) ?_
    refine own_via (fun t kz => XS.dload X117.here hx rfl (hb hby at_96) rfl kz) ?_
    show own_Go p e below _ (T117.setTop (mkF m 98 #[oI p0, oI p1, oI p2, oI p3, oI p4, oI p5, oI vz, oI q1, oI q2, oI q3, oI qq, oD (FP.l2d A), .second, oD (FP.l2d B), .second, oD (FP.l2d Cc), .second, oR a109, .unset, .unset] [(.double (FP.l2d B)), (.int q2), (.ref a109)]))
    obtain ⟨cq119, kq119, qa119, qb119, qc119⟩ := isOf hZ rfl (own_exa8 TC117)
    obtain ⟨_, _, ⟨T119, L119, k119, n119⟩, -, X119, ⟨Lc119, hQ119, l119, y119, z119⟩, st119⟩ := X117.virtualBack hx (y := (⟨"com/example/coupewise/coupewise/WeightedDraw", "set", "(ID)V"⟩ : MethodName)) (z := (⟨"com/example/coupewise/coupewise/WeightedDraw", "set", "(ID)V"⟩ : MethodName)) hown (mvT hZ (own_w hw 18)) (mvT hZ (own_w hw 19)) (notFace_of_selects (args := #[]) (mvT hZ (own_w hw 21))) (mvT hZ (own_w hw 21)) (mvT hZ (own_w hw 20)) (by decide) (backOf (W := 0) (rm3_8 l Z a0 hw [] a109 q2 B (if q1 = (0 : Int32) then A else (0 : Int64)) (if q1 = (1 : Int32) then A else (0 : Int64)) (if q1 = (2 : Int32) then A else (0 : Int64)) (if q1 = (3 : Int32) then A else (0 : Int64)) (if q1 = (4 : Int32) then A else (0 : Int64)) (if q1 = (5 : Int32) then A else (0 : Int64)) (if q1 = (6 : Int32) then A else (0 : Int64)) (if q1 = (7 : Int32) then A else (0 : Int64)) T117.heap n0 Zq117 TC117 hp_q2 hbB (own_bdi hbA own_bd0) (own_bdi hbA own_bd0) (own_bdi hbA own_bd0) (own_bdi hbA own_bd0) (own_bdi hbA own_bd0) (own_bdi hbA own_bd0) (own_bdi hbA own_bd0) (own_bdi hbA own_bd0)) hZ (own_w hw 22) (own_w hw 4) (by decide) (by decide)) qa119 qc119 (g := (mkF m 98 #[oI p0, oI p1, oI p2, oI p3, oI p4, oI p5, oI vz, oI q1, oI q2, oI q3, oI qq, oD (FP.l2d A), .second, oD (FP.l2d B), .second, oD (FP.l2d Cc), .second, oR a109, .unset, .unset] [(.double (FP.l2d B)), (.int q2), (.ref a109)])) rfl (by rw [hml]; rfl) (Steps.refl _) (argsL := [(.int q2), (.double (FP.l2d B))]) (rest := []) (lenOf pd_0_1 rfl) rfl (by show 2 * 0 + _ ≤ _; exact Nat.le_of_eq rfl) (hb hby at_98) (fun _ _ => ⟨rfl, rfl, (by decide : 2 + 0 ≤ _), (by decide : 19 + 0 ≤ _)⟩)
    dsimp only [Pt.U, Pt.locs, Pt.cells, Pt.slots] at X119 l119 y119 z119 st119 hQ119
    subst l119 y119 z119
    obtain ⟨rfl, Nq119, Zq119, TC119⟩ := hQ119
    have N120 := Fr.app N118 Nq119
    refine own_tr st119 ?_
    refine own_via (fun t kz => XS.aload X119.here hx rfl (hb hby at_101) rfl rfl kz) ?_
    refine own_via (fun t kz => XS.iload X119.here hx rfl (hb hby at_103) rfl kz) ?_
    refine own_via (fun t kz => XS.dload X119.here hx rfl (hb hby at_105) rfl kz) ?_
    show own_Go p e below _ (T119.setTop (mkF m 107 #[oI p0, oI p1, oI p2, oI p3, oI p4, oI p5, oI vz, oI q1, oI q2, oI q3, oI qq, oD (FP.l2d A), .second, oD (FP.l2d B), .second, oD (FP.l2d Cc), .second, oR a109, .unset, .unset] [(.double (FP.l2d Cc)), (.int q3), (.ref a109)]))
    obtain ⟨cq121, kq121, qa121, qb121, qc121⟩ := isOf hZ rfl (own_exa8 TC119)
    obtain ⟨_, _, ⟨T121, L121, k121, n121⟩, -, X121, ⟨Lc121, hQ121, l121, y121, z121⟩, st121⟩ := X119.virtualBack hx (y := (⟨"com/example/coupewise/coupewise/WeightedDraw", "set", "(ID)V"⟩ : MethodName)) (z := (⟨"com/example/coupewise/coupewise/WeightedDraw", "set", "(ID)V"⟩ : MethodName)) hown (mvT hZ (own_w hw 18)) (mvT hZ (own_w hw 19)) (notFace_of_selects (args := #[]) (mvT hZ (own_w hw 21))) (mvT hZ (own_w hw 21)) (mvT hZ (own_w hw 20)) (by decide) (backOf (W := 0) (rm3_8 l Z a0 hw [] a109 q3 Cc (if q2 = (0 : Int32) then B else (if q1 = (0 : Int32) then A else (0 : Int64))) (if q2 = (1 : Int32) then B else (if q1 = (1 : Int32) then A else (0 : Int64))) (if q2 = (2 : Int32) then B else (if q1 = (2 : Int32) then A else (0 : Int64))) (if q2 = (3 : Int32) then B else (if q1 = (3 : Int32) then A else (0 : Int64))) (if q2 = (4 : Int32) then B else (if q1 = (4 : Int32) then A else (0 : Int64))) (if q2 = (5 : Int32) then B else (if q1 = (5 : Int32) then A else (0 : Int64))) (if q2 = (6 : Int32) then B else (if q1 = (6 : Int32) then A else (0 : Int64))) (if q2 = (7 : Int32) then B else (if q1 = (7 : Int32) then A else (0 : Int64))) T119.heap n0 Zq119 TC119 hp_q3 hbCc (own_bdi hbB (own_bdi hbA own_bd0)) (own_bdi hbB (own_bdi hbA own_bd0)) (own_bdi hbB (own_bdi hbA own_bd0)) (own_bdi hbB (own_bdi hbA own_bd0)) (own_bdi hbB (own_bdi hbA own_bd0)) (own_bdi hbB (own_bdi hbA own_bd0)) (own_bdi hbB (own_bdi hbA own_bd0)) (own_bdi hbB (own_bdi hbA own_bd0))) hZ (own_w hw 22) (own_w hw 4) (by decide) (by decide)) qa121 qc121 (g := (mkF m 107 #[oI p0, oI p1, oI p2, oI p3, oI p4, oI p5, oI vz, oI q1, oI q2, oI q3, oI qq, oD (FP.l2d A), .second, oD (FP.l2d B), .second, oD (FP.l2d Cc), .second, oR a109, .unset, .unset] [(.double (FP.l2d Cc)), (.int q3), (.ref a109)])) rfl (by rw [hml]; rfl) (Steps.refl _) (argsL := [(.int q3), (.double (FP.l2d Cc))]) (rest := []) (lenOf pd_0_1 rfl) rfl (by show 2 * 0 + _ ≤ _; exact Nat.le_of_eq rfl) (hb hby at_107) (fun _ _ => ⟨rfl, rfl, (by decide : 2 + 0 ≤ _), (by decide : 19 + 0 ≤ _)⟩)
    dsimp only [Pt.U, Pt.locs, Pt.cells, Pt.slots] at X121 l121 y121 z121 st121 hQ121
    subst l121 y121 z121
    obtain ⟨rfl, Nq121, Zq121, TC121⟩ := hQ121
    have N122 := Fr.app N120 Nq121
    refine own_tr st121 ?_
    have TD121 : own_W8 Z T121.heap n0 a109 (own_e (0 : Int32) q1 q2 q3 A B Cc) (own_e (1 : Int32) q1 q2 q3 A B Cc) (own_e (2 : Int32) q1 q2 q3 A B Cc) (own_e (3 : Int32) q1 q2 q3 A B Cc) (own_e (4 : Int32) q1 q2 q3 A B Cc) (own_e (5 : Int32) q1 q2 q3 A B Cc) (own_e (6 : Int32) q1 q2 q3 A B Cc) (own_e (7 : Int32) q1 q2 q3 A B Cc) := TC121
    refine own_via (fun t kz => XS.dload X121.here hx rfl (hb hby at_110) rfl kz) ?_
    refine own_via (fun t kz => XS.iload X121.here hx rfl (hb hby at_112) rfl kz) ?_
    refine own_via (fun t kz => XS.iload X121.here hx rfl (hb hby at_114) rfl kz) ?_
    show own_Go p e below _ (T121.setTop (mkF m 116 #[oI p0, oI p1, oI p2, oI p3, oI p4, oI p5, oI vz, oI q1, oI q2, oI q3, oI qq, oD (FP.l2d A), .second, oD (FP.l2d B), .second, oD (FP.l2d Cc), .second, oR a109, .unset, .unset] [(.int q3), (.int q2), (.double (FP.l2d Cc))]))
    have jn124 : ∀ t, Steps p.tables e below (T121.setTop (mkF m 125 #[oI p0, oI p1, oI p2, oI p3, oI p4, oI p5, oI vz, oI q1, oI q2, oI q3, oI qq, oD (FP.l2d A), .second, oD (FP.l2d B), .second, oD (FP.l2d Cc), .second, oR a109, .unset, .unset] [(.double (FP.l2d (if q2 = q3 then (0 : Int64) else B))), (.double (FP.l2d Cc))])) t → Steps p.tables e below (T121.setTop (mkF m 116 #[oI p0, oI p1, oI p2, oI p3, oI p4, oI p5, oI vz, oI q1, oI q2, oI q3, oI qq, oD (FP.l2d A), .second, oD (FP.l2d B), .second, oD (FP.l2d Cc), .second, oR a109, .unset, .unset] [(.int q3), (.int q2), (.double (FP.l2d Cc))])) t := by
      intro t k
      show Steps p.tables e below (T121.setTop (mkF m 116 #[oI p0, oI p1, oI p2, oI p3, oI p4, oI p5, oI vz, oI q1, oI q2, oI q3, oI qq, oD (FP.l2d A), .second, oD (FP.l2d B), .second, oD (FP.l2d Cc), .second, oR a109, .unset, .unset] [(.int q3), (.int q2), (.double (FP.l2d Cc))])) t
      by_cases hc116_123 : q2 = q3
      · refine XS.icmpYes X121.here hx rfl (pc0 := 116) (pc' := 124) rfl (hb hby at_116) rfl (teq hc116_123).1 (by decide) (by decide) ?_
        show Steps p.tables e below (T121.setTop (mkF m 124 #[oI p0, oI p1, oI p2, oI p3, oI p4, oI p5, oI vz, oI q1, oI q2, oI q3, oI qq, oD (FP.l2d A), .second, oD (FP.l2d B), .second, oD (FP.l2d Cc), .second, oR a109, .unset, .unset] [(.double (FP.l2d Cc))])) t
        refine XS.dconst0 X121.here hx rfl (hb hby at_124) (v := (FP.l2d (0 : Int64))) own_dconst0 ?_
        rw [if_pos hc116_123] at k
        exact k
      · refine XS.icmpNo X121.here hx rfl (hb hby at_116) rfl (feq hc116_123).1 ?_
        show Steps p.tables e below (T121.setTop (mkF m 119 #[oI p0, oI p1, oI p2, oI p3, oI p4, oI p5, oI vz, oI q1, oI q2, oI q3, oI qq, oD (FP.l2d A), .second, oD (FP.l2d B), .second, oD (FP.l2d Cc), .second, oR a109, .unset, .unset] [(.double (FP.l2d Cc))])) t
        refine XS.dload X121.here hx rfl (hb hby at_119) rfl ?_
        refine XS.goto X121.here hx rfl (pc0 := 121) (pc' := 125) rfl (hb hby at_121) (by decide) (by decide) ?_
        rw [if_neg hc116_123] at k
        exact k
    refine own_via jn124 ?_
    show own_Go p e below _ (T121.setTop (mkF m 125 #[oI p0, oI p1, oI p2, oI p3, oI p4, oI p5, oI vz, oI q1, oI q2, oI q3, oI qq, oD (FP.l2d A), .second, oD (FP.l2d B), .second, oD (FP.l2d Cc), .second, oR a109, .unset, .unset] [(.double (FP.l2d (if q2 = q3 then (0 : Int64) else B))), (.double (FP.l2d Cc))]))
    refine own_via (fun t kz => XS.daddS X121.here hx rfl (hb hby at_125) rfl (nn_w (dadd_w (own_b53 hbCc (by decide)) (own_b53 (own_bdi own_bd0 hbB) (by decide)))) (dadd_w (own_b53 hbCc (by decide)) (own_b53 (own_bdi own_bd0 hbB) (by decide))) kz) ?_
    refine own_via (fun t kz => XS.iload X121.here hx rfl (hb hby at_126) rfl kz) ?_
    refine own_via (fun t kz => XS.iload X121.here hx rfl (hb hby at_128) rfl kz) ?_
    show own_Go p e below _ (T121.setTop (mkF m 130 #[oI p0, oI p1, oI p2, oI p3, oI p4, oI p5, oI vz, oI q1, oI q2, oI q3, oI qq, oD (FP.l2d A), .second, oD (FP.l2d B), .second, oD (FP.l2d Cc), .second, oR a109, .unset, .unset] [(.int q2), (.int q1), (.double (FP.l2d (Cc + (if q2 = q3 then (0 : Int64) else B))))]))
    have jn127 : ∀ t, Steps p.tables e below (T121.setTop (mkF m 146 #[oI p0, oI p1, oI p2, oI p3, oI p4, oI p5, oI vz, oI q1, oI q2, oI q3, oI qq, oD (FP.l2d A), .second, oD (FP.l2d B), .second, oD (FP.l2d Cc), .second, oR a109, .unset, .unset] [(.double (FP.l2d (if q1 = q2 then (0 : Int64) else (if q1 = q3 then (0 : Int64) else A)))), (.double (FP.l2d (Cc + (if q2 = q3 then (0 : Int64) else B))))])) t → Steps p.tables e below (T121.setTop (mkF m 130 #[oI p0, oI p1, oI p2, oI p3, oI p4, oI p5, oI vz, oI q1, oI q2, oI q3, oI qq, oD (FP.l2d A), .second, oD (FP.l2d B), .second, oD (FP.l2d Cc), .second, oR a109, .unset, .unset] [(.int q2), (.int q1), (.double (FP.l2d (Cc + (if q2 = q3 then (0 : Int64) else B))))])) t := by
      intro t k
      show Steps p.tables e below (T121.setTop (mkF m 130 #[oI p0, oI p1, oI p2, oI p3, oI p4, oI p5, oI vz, oI q1, oI q2, oI q3, oI qq, oD (FP.l2d A), .second, oD (FP.l2d B), .second, oD (FP.l2d Cc), .second, oR a109, .unset, .unset] [(.int q2), (.int q1), (.double (FP.l2d (Cc + (if q2 = q3 then (0 : Int64) else B))))])) t
      by_cases hc130_125 : q1 = q2
      · refine XS.icmpYes X121.here hx rfl (pc0 := 130) (pc' := 145) rfl (hb hby at_130) rfl (teq hc130_125).1 (by decide) (by decide) ?_
        show Steps p.tables e below (T121.setTop (mkF m 145 #[oI p0, oI p1, oI p2, oI p3, oI p4, oI p5, oI vz, oI q1, oI q2, oI q3, oI qq, oD (FP.l2d A), .second, oD (FP.l2d B), .second, oD (FP.l2d Cc), .second, oR a109, .unset, .unset] [(.double (FP.l2d (Cc + (if q2 = q3 then (0 : Int64) else B))))])) t
        refine XS.dconst0 X121.here hx rfl (hb hby at_145) (v := (FP.l2d (0 : Int64))) own_dconst0 ?_
        rw [if_pos hc130_125] at k
        exact k
      · refine XS.icmpNo X121.here hx rfl (hb hby at_130) rfl (feq hc130_125).1 ?_
        refine XS.iload X121.here hx rfl (hb hby at_133) rfl ?_
        show Steps p.tables e below (T121.setTop (mkF m 135 #[oI p0, oI p1, oI p2, oI p3, oI p4, oI p5, oI vz, oI q1, oI q2, oI q3, oI qq, oD (FP.l2d A), .second, oD (FP.l2d B), .second, oD (FP.l2d Cc), .second, oR a109, .unset, .unset] [(.int q1), (.double (FP.l2d (Cc + (if q2 = q3 then (0 : Int64) else B))))])) t
        refine XS.iload X121.here hx rfl (hb hby at_135) rfl ?_
        show Steps p.tables e below (T121.setTop (mkF m 137 #[oI p0, oI p1, oI p2, oI p3, oI p4, oI p5, oI vz, oI q1, oI q2, oI q3, oI qq, oD (FP.l2d A), .second, oD (FP.l2d B), .second, oD (FP.l2d Cc), .second, oR a109, .unset, .unset] [(.int q3), (.int q1), (.double (FP.l2d (Cc + (if q2 = q3 then (0 : Int64) else B))))])) t
        by_cases hc137_126 : q1 = q3
        · refine XS.icmpYes X121.here hx rfl (pc0 := 137) (pc' := 145) rfl (hb hby at_137) rfl (teq hc137_126).1 (by decide) (by decide) ?_
          show Steps p.tables e below (T121.setTop (mkF m 145 #[oI p0, oI p1, oI p2, oI p3, oI p4, oI p5, oI vz, oI q1, oI q2, oI q3, oI qq, oD (FP.l2d A), .second, oD (FP.l2d B), .second, oD (FP.l2d Cc), .second, oR a109, .unset, .unset] [(.double (FP.l2d (Cc + (if q2 = q3 then (0 : Int64) else B))))])) t
          refine XS.dconst0 X121.here hx rfl (hb hby at_145) (v := (FP.l2d (0 : Int64))) own_dconst0 ?_
          rw [if_neg hc130_125, if_pos hc137_126] at k
          exact k
        · refine XS.icmpNo X121.here hx rfl (hb hby at_137) rfl (feq hc137_126).1 ?_
          refine XS.dload X121.here hx rfl (hb hby at_140) rfl ?_
          refine XS.goto X121.here hx rfl (pc0 := 142) (pc' := 146) rfl (hb hby at_142) (by decide) (by decide) ?_
          rw [if_neg hc130_125, if_neg hc137_126] at k
          exact k
    refine own_via jn127 ?_
    show own_Go p e below _ (T121.setTop (mkF m 146 #[oI p0, oI p1, oI p2, oI p3, oI p4, oI p5, oI vz, oI q1, oI q2, oI q3, oI qq, oD (FP.l2d A), .second, oD (FP.l2d B), .second, oD (FP.l2d Cc), .second, oR a109, .unset, .unset] [(.double (FP.l2d (if q1 = q2 then (0 : Int64) else (if q1 = q3 then (0 : Int64) else A)))), (.double (FP.l2d (Cc + (if q2 = q3 then (0 : Int64) else B))))]))
    refine own_via (fun t kz => XS.daddS X121.here hx rfl (hb hby at_146) rfl (nn_w (dadd_w (own_b53 (own_bda hbCc (own_bdi own_bd0 hbB) (by decide)) (by decide)) (own_b53 (own_bdi own_bd0 (own_bdi own_bd0 hbA)) (by decide)))) (dadd_w (own_b53 (own_bda hbCc (own_bdi own_bd0 hbB) (by decide)) (by decide)) (own_b53 (own_bdi own_bd0 (own_bdi own_bd0 hbA)) (by decide))) kz) ?_
    refine own_via (fun t kz => XS.dstore X121.here hx rfl (hb hby at_147) rfl (l' := #[oI p0, oI p1, oI p2, oI p3, oI p4, oI p5, oI vz, oI q1, oI q2, oI q3, oI qq, oD (FP.l2d A), .second, oD (FP.l2d B), .second, oD (FP.l2d Cc), .second, oR a109, oD (FP.l2d ((Cc + (if q2 = q3 then (0 : Int64) else B)) + (if q1 = q2 then (0 : Int64) else (if q1 = q3 then (0 : Int64) else A)))), .second]) rfl kz) ?_
    refine own_via (fun t kz => XS.aload X121.here hx rfl (hb hby at_149) rfl rfl kz) ?_
    refine own_via (fun t kz => XS.iload X121.here hx rfl (hb hby at_151) rfl kz) ?_
    show own_Go p e below _ (T121.setTop (mkF m 153 #[oI p0, oI p1, oI p2, oI p3, oI p4, oI p5, oI vz, oI q1, oI q2, oI q3, oI qq, oD (FP.l2d A), .second, oD (FP.l2d B), .second, oD (FP.l2d Cc), .second, oR a109, oD (FP.l2d ((Cc + (if q2 = q3 then (0 : Int64) else B)) + (if q1 = q2 then (0 : Int64) else (if q1 = q3 then (0 : Int64) else A)))), .second] [(.int q1), (.ref a109)]))
    obtain ⟨cq128, kq128, qa128, qb128, qc128⟩ := isOf hZ rfl (own_exa8 TD121)
    obtain ⟨_, _, ⟨T128, L128, k128, n128⟩, -, X128, ⟨Lc128, hQ128, l128, y128, z128⟩, st128⟩ := X121.virtualBack hx (y := (⟨"com/example/coupewise/coupewise/WeightedDraw", "weight", "(I)D"⟩ : MethodName)) (z := (⟨"com/example/coupewise/coupewise/WeightedDraw", "weight", "(I)D"⟩ : MethodName)) hown (mvT hZ (own_w hw 23)) (mvT hZ (own_w hw 24)) (notFace_of_selects (args := #[]) (mvT hZ (own_w hw 26))) (mvT hZ (own_w hw 26)) (mvT hZ (own_w hw 25)) (by decide) (backOf (W := 0) (rm4_8 l Z a0 hw [] a109 q1 (own_e (0 : Int32) q1 q2 q3 A B Cc) (own_e (1 : Int32) q1 q2 q3 A B Cc) (own_e (2 : Int32) q1 q2 q3 A B Cc) (own_e (3 : Int32) q1 q2 q3 A B Cc) (own_e (4 : Int32) q1 q2 q3 A B Cc) (own_e (5 : Int32) q1 q2 q3 A B Cc) (own_e (6 : Int32) q1 q2 q3 A B Cc) (own_e (7 : Int32) q1 q2 q3 A B Cc) T121.heap n0 Zq121 TD121 hp_q1) hZ (own_w hw 27) (own_w hw 4) (by decide) (by decide)) qa128 qc128 (g := (mkF m 153 #[oI p0, oI p1, oI p2, oI p3, oI p4, oI p5, oI vz, oI q1, oI q2, oI q3, oI qq, oD (FP.l2d A), .second, oD (FP.l2d B), .second, oD (FP.l2d Cc), .second, oR a109, oD (FP.l2d ((Cc + (if q2 = q3 then (0 : Int64) else B)) + (if q1 = q2 then (0 : Int64) else (if q1 = q3 then (0 : Int64) else A)))), .second] [(.int q1), (.ref a109)])) rfl (by rw [hml]; rfl) (Steps.refl _) (argsL := [(.int q1)]) (rest := []) (lenOf pd_0_2 rfl) rfl (by show 2 * 0 + _ ≤ _; exact Nat.le_of_eq rfl) (hb hby at_153) (fun _ _ => ⟨rfl, rfl, (by decide : 2 + 0 ≤ _), (by decide : 19 + 0 ≤ _)⟩)
    dsimp only [Pt.U, Pt.locs, Pt.cells, Pt.slots] at X128 l128 y128 z128 st128 hQ128
    subst l128 y128 z128
    obtain ⟨rfl, Nq128, e128⟩ := hQ128
    have N129 := Fr.app N122 Nq128
    refine own_tr st128 ?_
    refine own_via (fun t kz => XS.iload X128.here hx rfl (hb hby at_156) rfl kz) ?_
    refine own_via (fun t kz => XS.iload X128.here hx rfl (hb hby at_158) rfl kz) ?_
    refine own_via (fun t kz => XS.iload X128.here hx rfl (hb hby at_160) rfl kz) ?_
    show own_Go p e below _ (T128.setTop (mkF m 162 #[oI p0, oI p1, oI p2, oI p3, oI p4, oI p5, oI vz, oI q1, oI q2, oI q3, oI qq, oD (FP.l2d A), .second, oD (FP.l2d B), .second, oD (FP.l2d Cc), .second, oR a109, oD (FP.l2d ((Cc + (if q2 = q3 then (0 : Int64) else B)) + (if q1 = q2 then (0 : Int64) else (if q1 = q3 then (0 : Int64) else A)))), .second] [(.int q2), (.int q1), (.int q1), (.double (FP.l2d (own_sel8 q1 (own_e (0 : Int32) q1 q2 q3 A B Cc) (own_e (1 : Int32) q1 q2 q3 A B Cc) (own_e (2 : Int32) q1 q2 q3 A B Cc) (own_e (3 : Int32) q1 q2 q3 A B Cc) (own_e (4 : Int32) q1 q2 q3 A B Cc) (own_e (5 : Int32) q1 q2 q3 A B Cc) (own_e (6 : Int32) q1 q2 q3 A B Cc) (own_e (7 : Int32) q1 q2 q3 A B Cc))))]))
    refine own_via (fun t kz => XS.iload X128.here hx rfl (hb hby at_162) rfl kz) ?_
    refine own_via (fun t kz => XS.dload X128.here hx rfl (hb hby at_164) rfl kz) ?_
    refine own_via (fun t kz => XS.dload X128.here hx rfl (hb hby at_166) rfl kz) ?_
    refine own_via (fun t kz => XS.dload X128.here hx rfl (hb hby at_168) rfl kz) ?_
    show own_Go p e below _ (T128.setTop (mkF m 170 #[oI p0, oI p1, oI p2, oI p3, oI p4, oI p5, oI vz, oI q1, oI q2, oI q3, oI qq, oD (FP.l2d A), .second, oD (FP.l2d B), .second, oD (FP.l2d Cc), .second, oR a109, oD (FP.l2d ((Cc + (if q2 = q3 then (0 : Int64) else B)) + (if q1 = q2 then (0 : Int64) else (if q1 = q3 then (0 : Int64) else A)))), .second] [(.double (FP.l2d Cc)), (.double (FP.l2d B)), (.double (FP.l2d A)), (.int q3), (.int q2), (.int q1), (.int q1), (.double (FP.l2d (own_sel8 q1 (own_e (0 : Int32) q1 q2 q3 A B Cc) (own_e (1 : Int32) q1 q2 q3 A B Cc) (own_e (2 : Int32) q1 q2 q3 A B Cc) (own_e (3 : Int32) q1 q2 q3 A B Cc) (own_e (4 : Int32) q1 q2 q3 A B Cc) (own_e (5 : Int32) q1 q2 q3 A B Cc) (own_e (6 : Int32) q1 q2 q3 A B Cc) (own_e (7 : Int32) q1 q2 q3 A B Cc))))]))
    obtain ⟨_, _, ⟨T130, L130, k130, n130⟩, -, X130, ⟨Lc130, hQ130, l130, y130, z130⟩, st130⟩ := Jvm.LawKit.callS X128 hx (y := (⟨"com/example/coupewise/coupewise/WeightedDrawSetPinLaw", "expected", "(IIIIDDD)D"⟩ : MethodName)) hown (mvT hZ (own_w hw 28)) (mvT hZ (own_w hw 29)) (mvT hZ (own_w hw 30)) (mvT hZ (own_w hw 31)) (by decide) (backOf (W := 2) (rm5 l Z a0 hw [] q1 q1 q2 q3 (FP.l2d A) (FP.l2d B) (FP.l2d Cc) (FP.l2d (own_e q1 q1 q2 q3 A B Cc)) T121.heap n0 Zq121 (own_exp q1 q1 q2 q3 A B Cc)) hZ (own_w hw 31) (own_w hw 30) (by decide) (by decide)) (g := (mkF m 170 #[oI p0, oI p1, oI p2, oI p3, oI p4, oI p5, oI vz, oI q1, oI q2, oI q3, oI qq, oD (FP.l2d A), .second, oD (FP.l2d B), .second, oD (FP.l2d Cc), .second, oR a109, oD (FP.l2d ((Cc + (if q2 = q3 then (0 : Int64) else B)) + (if q1 = q2 then (0 : Int64) else (if q1 = q3 then (0 : Int64) else A)))), .second] [(.double (FP.l2d Cc)), (.double (FP.l2d B)), (.double (FP.l2d A)), (.int q3), (.int q2), (.int q1), (.int q1), (.double (FP.l2d (own_sel8 q1 (own_e (0 : Int32) q1 q2 q3 A B Cc) (own_e (1 : Int32) q1 q2 q3 A B Cc) (own_e (2 : Int32) q1 q2 q3 A B Cc) (own_e (3 : Int32) q1 q2 q3 A B Cc) (own_e (4 : Int32) q1 q2 q3 A B Cc) (own_e (5 : Int32) q1 q2 q3 A B Cc) (own_e (6 : Int32) q1 q2 q3 A B Cc) (own_e (7 : Int32) q1 q2 q3 A B Cc))))])) rfl (by rw [hml]; rfl) (argsL := [(.int q1), (.int q1), (.int q2), (.int q3), (.double (FP.l2d A)), (.double (FP.l2d B)), (.double (FP.l2d Cc))]) (rest := [(.double (FP.l2d (own_sel8 q1 (own_e (0 : Int32) q1 q2 q3 A B Cc) (own_e (1 : Int32) q1 q2 q3 A B Cc) (own_e (2 : Int32) q1 q2 q3 A B Cc) (own_e (3 : Int32) q1 q2 q3 A B Cc) (own_e (4 : Int32) q1 q2 q3 A B Cc) (own_e (5 : Int32) q1 q2 q3 A B Cc) (own_e (6 : Int32) q1 q2 q3 A B Cc) (own_e (7 : Int32) q1 q2 q3 A B Cc))))]) (lenOf pd_0_3 rfl) rfl (by show 2 * 0 + _ ≤ _; exact Nat.le_of_eq rfl) (hb hby at_170) (fun _ _ => ⟨rfl, e128, (by decide : 2 + 0 ≤ _), (by decide : 19 + 0 ≤ _)⟩)
    dsimp only [Pt.U, Pt.locs, Pt.cells, Pt.slots] at X130 l130 y130 z130 st130 hQ130
    subst l130 y130 z130
    obtain ⟨rfl, Nq130, e130⟩ := hQ130
    have N131 := Fr.app N129 Nq130
    refine own_via st130 ?_
    show own_Go p e below _ (T130.setTop (mkF m 173 #[oI p0, oI p1, oI p2, oI p3, oI p4, oI p5, oI vz, oI q1, oI q2, oI q3, oI qq, oD (FP.l2d A), .second, oD (FP.l2d B), .second, oD (FP.l2d Cc), .second, oR a109, oD (FP.l2d ((Cc + (if q2 = q3 then (0 : Int64) else B)) + (if q1 = q2 then (0 : Int64) else (if q1 = q3 then (0 : Int64) else A)))), .second] [(.double (FP.l2d (own_e q1 q1 q2 q3 A B Cc))), (.double (FP.l2d (own_sel8 q1 (own_e (0 : Int32) q1 q2 q3 A B Cc) (own_e (1 : Int32) q1 q2 q3 A B Cc) (own_e (2 : Int32) q1 q2 q3 A B Cc) (own_e (3 : Int32) q1 q2 q3 A B Cc) (own_e (4 : Int32) q1 q2 q3 A B Cc) (own_e (5 : Int32) q1 q2 q3 A B Cc) (own_e (6 : Int32) q1 q2 q3 A B Cc) (own_e (7 : Int32) q1 q2 q3 A B Cc))))]))
    refine own_via (fun t kz => XS.dcmpS X130.here hx rfl (hb hby at_173) rfl (dcmpV_w (by rw [own_at8 _ _ _ _ _ _ _ hp_q1]; exact own_b53 (own_bde hbA hbB hbCc) (by decide)) (own_b53 (own_bde hbA hbB hbCc) (by decide)) .l) kz) ?_
    show own_Go p e below _ (T130.setTop (mkF m 174 #[oI p0, oI p1, oI p2, oI p3, oI p4, oI p5, oI vz, oI q1, oI q2, oI q3, oI qq, oD (FP.l2d A), .second, oD (FP.l2d B), .second, oD (FP.l2d Cc), .second, oR a109, oD (FP.l2d ((Cc + (if q2 = q3 then (0 : Int64) else B)) + (if q1 = q2 then (0 : Int64) else (if q1 = q3 then (0 : Int64) else A)))), .second] [(.int (lcmpW (own_sel8 q1 (own_e (0 : Int32) q1 q2 q3 A B Cc) (own_e (1 : Int32) q1 q2 q3 A B Cc) (own_e (2 : Int32) q1 q2 q3 A B Cc) (own_e (3 : Int32) q1 q2 q3 A B Cc) (own_e (4 : Int32) q1 q2 q3 A B Cc) (own_e (5 : Int32) q1 q2 q3 A B Cc) (own_e (6 : Int32) q1 q2 q3 A B Cc) (own_e (7 : Int32) q1 q2 q3 A B Cc)) (own_e q1 q1 q2 q3 A B Cc)))]))
    refine own_via (fun t kz => XS.ifNo X130.here hx rfl (hb hby at_174) rfl ((if0 _ _).trans (teq ((lw_eq _ _).mpr (own_at8 q1 q1 q2 q3 A B Cc hp_q1))).2) kz) ?_
    refine own_via (fun t kz => XS.aload X130.here hx rfl (hb hby at_177) rfl rfl kz) ?_
    refine own_via (fun t kz => XS.iload X130.here hx rfl (hb hby at_179) rfl kz) ?_
    show own_Go p e below _ (T130.setTop (mkF m 181 #[oI p0, oI p1, oI p2, oI p3, oI p4, oI p5, oI vz, oI q1, oI q2, oI q3, oI qq, oD (FP.l2d A), .second, oD (FP.l2d B), .second, oD (FP.l2d Cc), .second, oR a109, oD (FP.l2d ((Cc + (if q2 = q3 then (0 : Int64) else B)) + (if q1 = q2 then (0 : Int64) else (if q1 = q3 then (0 : Int64) else A)))), .second] [(.int q2), (.ref a109)]))
    obtain ⟨cq132, kq132, qa132, qb132, qc132⟩ := isOf hZ e130 (own_exa8 TD121)
    obtain ⟨_, _, ⟨T132, L132, k132, n132⟩, -, X132, ⟨Lc132, hQ132, l132, y132, z132⟩, st132⟩ := X130.virtualBack hx (y := (⟨"com/example/coupewise/coupewise/WeightedDraw", "weight", "(I)D"⟩ : MethodName)) (z := (⟨"com/example/coupewise/coupewise/WeightedDraw", "weight", "(I)D"⟩ : MethodName)) hown (mvT hZ (own_w hw 23)) (mvT hZ (own_w hw 24)) (notFace_of_selects (args := #[]) (mvT hZ (own_w hw 26))) (mvT hZ (own_w hw 26)) (mvT hZ (own_w hw 25)) (by decide) (backOf (W := 0) (rm4_8 l Z a0 hw [] a109 q2 (own_e (0 : Int32) q1 q2 q3 A B Cc) (own_e (1 : Int32) q1 q2 q3 A B Cc) (own_e (2 : Int32) q1 q2 q3 A B Cc) (own_e (3 : Int32) q1 q2 q3 A B Cc) (own_e (4 : Int32) q1 q2 q3 A B Cc) (own_e (5 : Int32) q1 q2 q3 A B Cc) (own_e (6 : Int32) q1 q2 q3 A B Cc) (own_e (7 : Int32) q1 q2 q3 A B Cc) T121.heap n0 Zq121 TD121 hp_q2) hZ (own_w hw 27) (own_w hw 4) (by decide) (by decide)) qa132 qc132 (g := (mkF m 181 #[oI p0, oI p1, oI p2, oI p3, oI p4, oI p5, oI vz, oI q1, oI q2, oI q3, oI qq, oD (FP.l2d A), .second, oD (FP.l2d B), .second, oD (FP.l2d Cc), .second, oR a109, oD (FP.l2d ((Cc + (if q2 = q3 then (0 : Int64) else B)) + (if q1 = q2 then (0 : Int64) else (if q1 = q3 then (0 : Int64) else A)))), .second] [(.int q2), (.ref a109)])) rfl (by rw [hml]; rfl) (Steps.refl _) (argsL := [(.int q2)]) (rest := []) (lenOf pd_0_2 rfl) rfl (by show 2 * 0 + _ ≤ _; exact Nat.le_of_eq rfl) (hb hby at_181) (fun _ _ => ⟨rfl, e130, (by decide : 2 + 0 ≤ _), (by decide : 19 + 0 ≤ _)⟩)
    dsimp only [Pt.U, Pt.locs, Pt.cells, Pt.slots] at X132 l132 y132 z132 st132 hQ132
    subst l132 y132 z132
    obtain ⟨rfl, Nq132, e132⟩ := hQ132
    have N133 := Fr.app N131 Nq132
    refine own_tr st132 ?_
    refine own_via (fun t kz => XS.iload X132.here hx rfl (hb hby at_184) rfl kz) ?_
    refine own_via (fun t kz => XS.iload X132.here hx rfl (hb hby at_186) rfl kz) ?_
    refine own_via (fun t kz => XS.iload X132.here hx rfl (hb hby at_188) rfl kz) ?_
    show own_Go p e below _ (T132.setTop (mkF m 190 #[oI p0, oI p1, oI p2, oI p3, oI p4, oI p5, oI vz, oI q1, oI q2, oI q3, oI qq, oD (FP.l2d A), .second, oD (FP.l2d B), .second, oD (FP.l2d Cc), .second, oR a109, oD (FP.l2d ((Cc + (if q2 = q3 then (0 : Int64) else B)) + (if q1 = q2 then (0 : Int64) else (if q1 = q3 then (0 : Int64) else A)))), .second] [(.int q2), (.int q1), (.int q2), (.double (FP.l2d (own_sel8 q2 (own_e (0 : Int32) q1 q2 q3 A B Cc) (own_e (1 : Int32) q1 q2 q3 A B Cc) (own_e (2 : Int32) q1 q2 q3 A B Cc) (own_e (3 : Int32) q1 q2 q3 A B Cc) (own_e (4 : Int32) q1 q2 q3 A B Cc) (own_e (5 : Int32) q1 q2 q3 A B Cc) (own_e (6 : Int32) q1 q2 q3 A B Cc) (own_e (7 : Int32) q1 q2 q3 A B Cc))))]))
    refine own_via (fun t kz => XS.iload X132.here hx rfl (hb hby at_190) rfl kz) ?_
    refine own_via (fun t kz => XS.dload X132.here hx rfl (hb hby at_192) rfl kz) ?_
    refine own_via (fun t kz => XS.dload X132.here hx rfl (hb hby at_194) rfl kz) ?_
    refine own_via (fun t kz => XS.dload X132.here hx rfl (hb hby at_196) rfl kz) ?_
    show own_Go p e below _ (T132.setTop (mkF m 198 #[oI p0, oI p1, oI p2, oI p3, oI p4, oI p5, oI vz, oI q1, oI q2, oI q3, oI qq, oD (FP.l2d A), .second, oD (FP.l2d B), .second, oD (FP.l2d Cc), .second, oR a109, oD (FP.l2d ((Cc + (if q2 = q3 then (0 : Int64) else B)) + (if q1 = q2 then (0 : Int64) else (if q1 = q3 then (0 : Int64) else A)))), .second] [(.double (FP.l2d Cc)), (.double (FP.l2d B)), (.double (FP.l2d A)), (.int q3), (.int q2), (.int q1), (.int q2), (.double (FP.l2d (own_sel8 q2 (own_e (0 : Int32) q1 q2 q3 A B Cc) (own_e (1 : Int32) q1 q2 q3 A B Cc) (own_e (2 : Int32) q1 q2 q3 A B Cc) (own_e (3 : Int32) q1 q2 q3 A B Cc) (own_e (4 : Int32) q1 q2 q3 A B Cc) (own_e (5 : Int32) q1 q2 q3 A B Cc) (own_e (6 : Int32) q1 q2 q3 A B Cc) (own_e (7 : Int32) q1 q2 q3 A B Cc))))]))
    obtain ⟨_, _, ⟨T134, L134, k134, n134⟩, -, X134, ⟨Lc134, hQ134, l134, y134, z134⟩, st134⟩ := Jvm.LawKit.callS X132 hx (y := (⟨"com/example/coupewise/coupewise/WeightedDrawSetPinLaw", "expected", "(IIIIDDD)D"⟩ : MethodName)) hown (mvT hZ (own_w hw 28)) (mvT hZ (own_w hw 29)) (mvT hZ (own_w hw 30)) (mvT hZ (own_w hw 31)) (by decide) (backOf (W := 2) (rm5 l Z a0 hw [] q2 q1 q2 q3 (FP.l2d A) (FP.l2d B) (FP.l2d Cc) (FP.l2d (own_e q2 q1 q2 q3 A B Cc)) T121.heap n0 Zq121 (own_exp q2 q1 q2 q3 A B Cc)) hZ (own_w hw 31) (own_w hw 30) (by decide) (by decide)) (g := (mkF m 198 #[oI p0, oI p1, oI p2, oI p3, oI p4, oI p5, oI vz, oI q1, oI q2, oI q3, oI qq, oD (FP.l2d A), .second, oD (FP.l2d B), .second, oD (FP.l2d Cc), .second, oR a109, oD (FP.l2d ((Cc + (if q2 = q3 then (0 : Int64) else B)) + (if q1 = q2 then (0 : Int64) else (if q1 = q3 then (0 : Int64) else A)))), .second] [(.double (FP.l2d Cc)), (.double (FP.l2d B)), (.double (FP.l2d A)), (.int q3), (.int q2), (.int q1), (.int q2), (.double (FP.l2d (own_sel8 q2 (own_e (0 : Int32) q1 q2 q3 A B Cc) (own_e (1 : Int32) q1 q2 q3 A B Cc) (own_e (2 : Int32) q1 q2 q3 A B Cc) (own_e (3 : Int32) q1 q2 q3 A B Cc) (own_e (4 : Int32) q1 q2 q3 A B Cc) (own_e (5 : Int32) q1 q2 q3 A B Cc) (own_e (6 : Int32) q1 q2 q3 A B Cc) (own_e (7 : Int32) q1 q2 q3 A B Cc))))])) rfl (by rw [hml]; rfl) (argsL := [(.int q2), (.int q1), (.int q2), (.int q3), (.double (FP.l2d A)), (.double (FP.l2d B)), (.double (FP.l2d Cc))]) (rest := [(.double (FP.l2d (own_sel8 q2 (own_e (0 : Int32) q1 q2 q3 A B Cc) (own_e (1 : Int32) q1 q2 q3 A B Cc) (own_e (2 : Int32) q1 q2 q3 A B Cc) (own_e (3 : Int32) q1 q2 q3 A B Cc) (own_e (4 : Int32) q1 q2 q3 A B Cc) (own_e (5 : Int32) q1 q2 q3 A B Cc) (own_e (6 : Int32) q1 q2 q3 A B Cc) (own_e (7 : Int32) q1 q2 q3 A B Cc))))]) (lenOf pd_0_3 rfl) rfl (by show 2 * 0 + _ ≤ _; exact Nat.le_of_eq rfl) (hb hby at_198) (fun _ _ => ⟨rfl, e132, (by decide : 2 + 0 ≤ _), (by decide : 19 + 0 ≤ _)⟩)
    dsimp only [Pt.U, Pt.locs, Pt.cells, Pt.slots] at X134 l134 y134 z134 st134 hQ134
    subst l134 y134 z134
    obtain ⟨rfl, Nq134, e134⟩ := hQ134
    have N135 := Fr.app N133 Nq134
    refine own_via st134 ?_
    show own_Go p e below _ (T134.setTop (mkF m 201 #[oI p0, oI p1, oI p2, oI p3, oI p4, oI p5, oI vz, oI q1, oI q2, oI q3, oI qq, oD (FP.l2d A), .second, oD (FP.l2d B), .second, oD (FP.l2d Cc), .second, oR a109, oD (FP.l2d ((Cc + (if q2 = q3 then (0 : Int64) else B)) + (if q1 = q2 then (0 : Int64) else (if q1 = q3 then (0 : Int64) else A)))), .second] [(.double (FP.l2d (own_e q2 q1 q2 q3 A B Cc))), (.double (FP.l2d (own_sel8 q2 (own_e (0 : Int32) q1 q2 q3 A B Cc) (own_e (1 : Int32) q1 q2 q3 A B Cc) (own_e (2 : Int32) q1 q2 q3 A B Cc) (own_e (3 : Int32) q1 q2 q3 A B Cc) (own_e (4 : Int32) q1 q2 q3 A B Cc) (own_e (5 : Int32) q1 q2 q3 A B Cc) (own_e (6 : Int32) q1 q2 q3 A B Cc) (own_e (7 : Int32) q1 q2 q3 A B Cc))))]))
    refine own_via (fun t kz => XS.dcmpS X134.here hx rfl (hb hby at_201) rfl (dcmpV_w (by rw [own_at8 _ _ _ _ _ _ _ hp_q2]; exact own_b53 (own_bde hbA hbB hbCc) (by decide)) (own_b53 (own_bde hbA hbB hbCc) (by decide)) .l) kz) ?_
    show own_Go p e below _ (T134.setTop (mkF m 202 #[oI p0, oI p1, oI p2, oI p3, oI p4, oI p5, oI vz, oI q1, oI q2, oI q3, oI qq, oD (FP.l2d A), .second, oD (FP.l2d B), .second, oD (FP.l2d Cc), .second, oR a109, oD (FP.l2d ((Cc + (if q2 = q3 then (0 : Int64) else B)) + (if q1 = q2 then (0 : Int64) else (if q1 = q3 then (0 : Int64) else A)))), .second] [(.int (lcmpW (own_sel8 q2 (own_e (0 : Int32) q1 q2 q3 A B Cc) (own_e (1 : Int32) q1 q2 q3 A B Cc) (own_e (2 : Int32) q1 q2 q3 A B Cc) (own_e (3 : Int32) q1 q2 q3 A B Cc) (own_e (4 : Int32) q1 q2 q3 A B Cc) (own_e (5 : Int32) q1 q2 q3 A B Cc) (own_e (6 : Int32) q1 q2 q3 A B Cc) (own_e (7 : Int32) q1 q2 q3 A B Cc)) (own_e q2 q1 q2 q3 A B Cc)))]))
    refine own_via (fun t kz => XS.ifNo X134.here hx rfl (hb hby at_202) rfl ((if0 _ _).trans (teq ((lw_eq _ _).mpr (own_at8 q2 q1 q2 q3 A B Cc hp_q2))).2) kz) ?_
    refine own_via (fun t kz => XS.aload X134.here hx rfl (hb hby at_205) rfl rfl kz) ?_
    refine own_via (fun t kz => XS.iload X134.here hx rfl (hb hby at_207) rfl kz) ?_
    show own_Go p e below _ (T134.setTop (mkF m 209 #[oI p0, oI p1, oI p2, oI p3, oI p4, oI p5, oI vz, oI q1, oI q2, oI q3, oI qq, oD (FP.l2d A), .second, oD (FP.l2d B), .second, oD (FP.l2d Cc), .second, oR a109, oD (FP.l2d ((Cc + (if q2 = q3 then (0 : Int64) else B)) + (if q1 = q2 then (0 : Int64) else (if q1 = q3 then (0 : Int64) else A)))), .second] [(.int q3), (.ref a109)]))
    obtain ⟨cq136, kq136, qa136, qb136, qc136⟩ := isOf hZ e134 (own_exa8 TD121)
    obtain ⟨_, _, ⟨T136, L136, k136, n136⟩, -, X136, ⟨Lc136, hQ136, l136, y136, z136⟩, st136⟩ := X134.virtualBack hx (y := (⟨"com/example/coupewise/coupewise/WeightedDraw", "weight", "(I)D"⟩ : MethodName)) (z := (⟨"com/example/coupewise/coupewise/WeightedDraw", "weight", "(I)D"⟩ : MethodName)) hown (mvT hZ (own_w hw 23)) (mvT hZ (own_w hw 24)) (notFace_of_selects (args := #[]) (mvT hZ (own_w hw 26))) (mvT hZ (own_w hw 26)) (mvT hZ (own_w hw 25)) (by decide) (backOf (W := 0) (rm4_8 l Z a0 hw [] a109 q3 (own_e (0 : Int32) q1 q2 q3 A B Cc) (own_e (1 : Int32) q1 q2 q3 A B Cc) (own_e (2 : Int32) q1 q2 q3 A B Cc) (own_e (3 : Int32) q1 q2 q3 A B Cc) (own_e (4 : Int32) q1 q2 q3 A B Cc) (own_e (5 : Int32) q1 q2 q3 A B Cc) (own_e (6 : Int32) q1 q2 q3 A B Cc) (own_e (7 : Int32) q1 q2 q3 A B Cc) T121.heap n0 Zq121 TD121 hp_q3) hZ (own_w hw 27) (own_w hw 4) (by decide) (by decide)) qa136 qc136 (g := (mkF m 209 #[oI p0, oI p1, oI p2, oI p3, oI p4, oI p5, oI vz, oI q1, oI q2, oI q3, oI qq, oD (FP.l2d A), .second, oD (FP.l2d B), .second, oD (FP.l2d Cc), .second, oR a109, oD (FP.l2d ((Cc + (if q2 = q3 then (0 : Int64) else B)) + (if q1 = q2 then (0 : Int64) else (if q1 = q3 then (0 : Int64) else A)))), .second] [(.int q3), (.ref a109)])) rfl (by rw [hml]; rfl) (Steps.refl _) (argsL := [(.int q3)]) (rest := []) (lenOf pd_0_2 rfl) rfl (by show 2 * 0 + _ ≤ _; exact Nat.le_of_eq rfl) (hb hby at_209) (fun _ _ => ⟨rfl, e134, (by decide : 2 + 0 ≤ _), (by decide : 19 + 0 ≤ _)⟩)
    dsimp only [Pt.U, Pt.locs, Pt.cells, Pt.slots] at X136 l136 y136 z136 st136 hQ136
    subst l136 y136 z136
    obtain ⟨rfl, Nq136, e136⟩ := hQ136
    have N137 := Fr.app N135 Nq136
    refine own_tr st136 ?_
    refine own_via (fun t kz => XS.dload X136.here hx rfl (hb hby at_212) rfl kz) ?_
    show own_Go p e below _ (T136.setTop (mkF m 214 #[oI p0, oI p1, oI p2, oI p3, oI p4, oI p5, oI vz, oI q1, oI q2, oI q3, oI qq, oD (FP.l2d A), .second, oD (FP.l2d B), .second, oD (FP.l2d Cc), .second, oR a109, oD (FP.l2d ((Cc + (if q2 = q3 then (0 : Int64) else B)) + (if q1 = q2 then (0 : Int64) else (if q1 = q3 then (0 : Int64) else A)))), .second] [(.double (FP.l2d Cc)), (.double (FP.l2d (own_sel8 q3 (own_e (0 : Int32) q1 q2 q3 A B Cc) (own_e (1 : Int32) q1 q2 q3 A B Cc) (own_e (2 : Int32) q1 q2 q3 A B Cc) (own_e (3 : Int32) q1 q2 q3 A B Cc) (own_e (4 : Int32) q1 q2 q3 A B Cc) (own_e (5 : Int32) q1 q2 q3 A B Cc) (own_e (6 : Int32) q1 q2 q3 A B Cc) (own_e (7 : Int32) q1 q2 q3 A B Cc))))]))
    refine own_via (fun t kz => XS.dcmpS X136.here hx rfl (hb hby at_214) rfl (dcmpV_w (by rw [own_at8 _ _ _ _ _ _ _ hp_q3]; exact own_b53 (own_bde hbA hbB hbCc) (by decide)) (own_b53 hbCc (by decide)) .l) kz) ?_
    show own_Go p e below _ (T136.setTop (mkF m 215 #[oI p0, oI p1, oI p2, oI p3, oI p4, oI p5, oI vz, oI q1, oI q2, oI q3, oI qq, oD (FP.l2d A), .second, oD (FP.l2d B), .second, oD (FP.l2d Cc), .second, oR a109, oD (FP.l2d ((Cc + (if q2 = q3 then (0 : Int64) else B)) + (if q1 = q2 then (0 : Int64) else (if q1 = q3 then (0 : Int64) else A)))), .second] [(.int (lcmpW (own_sel8 q3 (own_e (0 : Int32) q1 q2 q3 A B Cc) (own_e (1 : Int32) q1 q2 q3 A B Cc) (own_e (2 : Int32) q1 q2 q3 A B Cc) (own_e (3 : Int32) q1 q2 q3 A B Cc) (own_e (4 : Int32) q1 q2 q3 A B Cc) (own_e (5 : Int32) q1 q2 q3 A B Cc) (own_e (6 : Int32) q1 q2 q3 A B Cc) (own_e (7 : Int32) q1 q2 q3 A B Cc)) Cc))]))
    refine own_via (fun t kz => XS.ifNo X136.here hx rfl (hb hby at_215) rfl ((if0 _ _).trans (teq ((lw_eq _ _).mpr ((own_at8 q3 q1 q2 q3 A B Cc hp_q3).trans (if_pos rfl)))).2) kz) ?_
    refine own_via (fun t kz => XS.aload X136.here hx rfl (hb hby at_218) rfl rfl kz) ?_
    refine own_via (fun t kz => XS.iload X136.here hx rfl (hb hby at_220) rfl kz) ?_
    show own_Go p e below _ (T136.setTop (mkF m 222 #[oI p0, oI p1, oI p2, oI p3, oI p4, oI p5, oI vz, oI q1, oI q2, oI q3, oI qq, oD (FP.l2d A), .second, oD (FP.l2d B), .second, oD (FP.l2d Cc), .second, oR a109, oD (FP.l2d ((Cc + (if q2 = q3 then (0 : Int64) else B)) + (if q1 = q2 then (0 : Int64) else (if q1 = q3 then (0 : Int64) else A)))), .second] [(.int qq), (.ref a109)]))
    obtain ⟨cq138, kq138, qa138, qb138, qc138⟩ := isOf hZ e136 (own_exa8 TD121)
    obtain ⟨_, _, ⟨T138, L138, k138, n138⟩, -, X138, ⟨Lc138, hQ138, l138, y138, z138⟩, st138⟩ := X136.virtualBack hx (y := (⟨"com/example/coupewise/coupewise/WeightedDraw", "weight", "(I)D"⟩ : MethodName)) (z := (⟨"com/example/coupewise/coupewise/WeightedDraw", "weight", "(I)D"⟩ : MethodName)) hown (mvT hZ (own_w hw 23)) (mvT hZ (own_w hw 24)) (notFace_of_selects (args := #[]) (mvT hZ (own_w hw 26))) (mvT hZ (own_w hw 26)) (mvT hZ (own_w hw 25)) (by decide) (backOf (W := 0) (rm4_8 l Z a0 hw [] a109 qq (own_e (0 : Int32) q1 q2 q3 A B Cc) (own_e (1 : Int32) q1 q2 q3 A B Cc) (own_e (2 : Int32) q1 q2 q3 A B Cc) (own_e (3 : Int32) q1 q2 q3 A B Cc) (own_e (4 : Int32) q1 q2 q3 A B Cc) (own_e (5 : Int32) q1 q2 q3 A B Cc) (own_e (6 : Int32) q1 q2 q3 A B Cc) (own_e (7 : Int32) q1 q2 q3 A B Cc) T121.heap n0 Zq121 TD121 hp_qq) hZ (own_w hw 27) (own_w hw 4) (by decide) (by decide)) qa138 qc138 (g := (mkF m 222 #[oI p0, oI p1, oI p2, oI p3, oI p4, oI p5, oI vz, oI q1, oI q2, oI q3, oI qq, oD (FP.l2d A), .second, oD (FP.l2d B), .second, oD (FP.l2d Cc), .second, oR a109, oD (FP.l2d ((Cc + (if q2 = q3 then (0 : Int64) else B)) + (if q1 = q2 then (0 : Int64) else (if q1 = q3 then (0 : Int64) else A)))), .second] [(.int qq), (.ref a109)])) rfl (by rw [hml]; rfl) (Steps.refl _) (argsL := [(.int qq)]) (rest := []) (lenOf pd_0_2 rfl) rfl (by show 2 * 0 + _ ≤ _; exact Nat.le_of_eq rfl) (hb hby at_222) (fun _ _ => ⟨rfl, e136, (by decide : 2 + 0 ≤ _), (by decide : 19 + 0 ≤ _)⟩)
    dsimp only [Pt.U, Pt.locs, Pt.cells, Pt.slots] at X138 l138 y138 z138 st138 hQ138
    subst l138 y138 z138
    obtain ⟨rfl, Nq138, e138⟩ := hQ138
    have N139 := Fr.app N137 Nq138
    refine own_tr st138 ?_
    refine own_via (fun t kz => XS.iload X138.here hx rfl (hb hby at_225) rfl kz) ?_
    refine own_via (fun t kz => XS.iload X138.here hx rfl (hb hby at_227) rfl kz) ?_
    refine own_via (fun t kz => XS.iload X138.here hx rfl (hb hby at_229) rfl kz) ?_
    show own_Go p e below _ (T138.setTop (mkF m 231 #[oI p0, oI p1, oI p2, oI p3, oI p4, oI p5, oI vz, oI q1, oI q2, oI q3, oI qq, oD (FP.l2d A), .second, oD (FP.l2d B), .second, oD (FP.l2d Cc), .second, oR a109, oD (FP.l2d ((Cc + (if q2 = q3 then (0 : Int64) else B)) + (if q1 = q2 then (0 : Int64) else (if q1 = q3 then (0 : Int64) else A)))), .second] [(.int q2), (.int q1), (.int qq), (.double (FP.l2d (own_sel8 qq (own_e (0 : Int32) q1 q2 q3 A B Cc) (own_e (1 : Int32) q1 q2 q3 A B Cc) (own_e (2 : Int32) q1 q2 q3 A B Cc) (own_e (3 : Int32) q1 q2 q3 A B Cc) (own_e (4 : Int32) q1 q2 q3 A B Cc) (own_e (5 : Int32) q1 q2 q3 A B Cc) (own_e (6 : Int32) q1 q2 q3 A B Cc) (own_e (7 : Int32) q1 q2 q3 A B Cc))))]))
    refine own_via (fun t kz => XS.iload X138.here hx rfl (hb hby at_231) rfl kz) ?_
    refine own_via (fun t kz => XS.dload X138.here hx rfl (hb hby at_233) rfl kz) ?_
    refine own_via (fun t kz => XS.dload X138.here hx rfl (hb hby at_235) rfl kz) ?_
    refine own_via (fun t kz => XS.dload X138.here hx rfl (hb hby at_237) rfl kz) ?_
    show own_Go p e below _ (T138.setTop (mkF m 239 #[oI p0, oI p1, oI p2, oI p3, oI p4, oI p5, oI vz, oI q1, oI q2, oI q3, oI qq, oD (FP.l2d A), .second, oD (FP.l2d B), .second, oD (FP.l2d Cc), .second, oR a109, oD (FP.l2d ((Cc + (if q2 = q3 then (0 : Int64) else B)) + (if q1 = q2 then (0 : Int64) else (if q1 = q3 then (0 : Int64) else A)))), .second] [(.double (FP.l2d Cc)), (.double (FP.l2d B)), (.double (FP.l2d A)), (.int q3), (.int q2), (.int q1), (.int qq), (.double (FP.l2d (own_sel8 qq (own_e (0 : Int32) q1 q2 q3 A B Cc) (own_e (1 : Int32) q1 q2 q3 A B Cc) (own_e (2 : Int32) q1 q2 q3 A B Cc) (own_e (3 : Int32) q1 q2 q3 A B Cc) (own_e (4 : Int32) q1 q2 q3 A B Cc) (own_e (5 : Int32) q1 q2 q3 A B Cc) (own_e (6 : Int32) q1 q2 q3 A B Cc) (own_e (7 : Int32) q1 q2 q3 A B Cc))))]))
    obtain ⟨_, _, ⟨T140, L140, k140, n140⟩, -, X140, ⟨Lc140, hQ140, l140, y140, z140⟩, st140⟩ := Jvm.LawKit.callS X138 hx (y := (⟨"com/example/coupewise/coupewise/WeightedDrawSetPinLaw", "expected", "(IIIIDDD)D"⟩ : MethodName)) hown (mvT hZ (own_w hw 28)) (mvT hZ (own_w hw 29)) (mvT hZ (own_w hw 30)) (mvT hZ (own_w hw 31)) (by decide) (backOf (W := 2) (rm5 l Z a0 hw [] qq q1 q2 q3 (FP.l2d A) (FP.l2d B) (FP.l2d Cc) (FP.l2d (own_e qq q1 q2 q3 A B Cc)) T121.heap n0 Zq121 (own_exp qq q1 q2 q3 A B Cc)) hZ (own_w hw 31) (own_w hw 30) (by decide) (by decide)) (g := (mkF m 239 #[oI p0, oI p1, oI p2, oI p3, oI p4, oI p5, oI vz, oI q1, oI q2, oI q3, oI qq, oD (FP.l2d A), .second, oD (FP.l2d B), .second, oD (FP.l2d Cc), .second, oR a109, oD (FP.l2d ((Cc + (if q2 = q3 then (0 : Int64) else B)) + (if q1 = q2 then (0 : Int64) else (if q1 = q3 then (0 : Int64) else A)))), .second] [(.double (FP.l2d Cc)), (.double (FP.l2d B)), (.double (FP.l2d A)), (.int q3), (.int q2), (.int q1), (.int qq), (.double (FP.l2d (own_sel8 qq (own_e (0 : Int32) q1 q2 q3 A B Cc) (own_e (1 : Int32) q1 q2 q3 A B Cc) (own_e (2 : Int32) q1 q2 q3 A B Cc) (own_e (3 : Int32) q1 q2 q3 A B Cc) (own_e (4 : Int32) q1 q2 q3 A B Cc) (own_e (5 : Int32) q1 q2 q3 A B Cc) (own_e (6 : Int32) q1 q2 q3 A B Cc) (own_e (7 : Int32) q1 q2 q3 A B Cc))))])) rfl (by rw [hml]; rfl) (argsL := [(.int qq), (.int q1), (.int q2), (.int q3), (.double (FP.l2d A)), (.double (FP.l2d B)), (.double (FP.l2d Cc))]) (rest := [(.double (FP.l2d (own_sel8 qq (own_e (0 : Int32) q1 q2 q3 A B Cc) (own_e (1 : Int32) q1 q2 q3 A B Cc) (own_e (2 : Int32) q1 q2 q3 A B Cc) (own_e (3 : Int32) q1 q2 q3 A B Cc) (own_e (4 : Int32) q1 q2 q3 A B Cc) (own_e (5 : Int32) q1 q2 q3 A B Cc) (own_e (6 : Int32) q1 q2 q3 A B Cc) (own_e (7 : Int32) q1 q2 q3 A B Cc))))]) (lenOf pd_0_3 rfl) rfl (by show 2 * 0 + _ ≤ _; exact Nat.le_of_eq rfl) (hb hby at_239) (fun _ _ => ⟨rfl, e138, (by decide : 2 + 0 ≤ _), (by decide : 19 + 0 ≤ _)⟩)
    dsimp only [Pt.U, Pt.locs, Pt.cells, Pt.slots] at X140 l140 y140 z140 st140 hQ140
    subst l140 y140 z140
    obtain ⟨rfl, Nq140, e140⟩ := hQ140
    have N141 := Fr.app N139 Nq140
    refine own_via st140 ?_
    show own_Go p e below _ (T140.setTop (mkF m 242 #[oI p0, oI p1, oI p2, oI p3, oI p4, oI p5, oI vz, oI q1, oI q2, oI q3, oI qq, oD (FP.l2d A), .second, oD (FP.l2d B), .second, oD (FP.l2d Cc), .second, oR a109, oD (FP.l2d ((Cc + (if q2 = q3 then (0 : Int64) else B)) + (if q1 = q2 then (0 : Int64) else (if q1 = q3 then (0 : Int64) else A)))), .second] [(.double (FP.l2d (own_e qq q1 q2 q3 A B Cc))), (.double (FP.l2d (own_sel8 qq (own_e (0 : Int32) q1 q2 q3 A B Cc) (own_e (1 : Int32) q1 q2 q3 A B Cc) (own_e (2 : Int32) q1 q2 q3 A B Cc) (own_e (3 : Int32) q1 q2 q3 A B Cc) (own_e (4 : Int32) q1 q2 q3 A B Cc) (own_e (5 : Int32) q1 q2 q3 A B Cc) (own_e (6 : Int32) q1 q2 q3 A B Cc) (own_e (7 : Int32) q1 q2 q3 A B Cc))))]))
    refine own_via (fun t kz => XS.dcmpS X140.here hx rfl (hb hby at_242) rfl (dcmpV_w (by rw [own_at8 _ _ _ _ _ _ _ hp_qq]; exact own_b53 (own_bde hbA hbB hbCc) (by decide)) (own_b53 (own_bde hbA hbB hbCc) (by decide)) .l) kz) ?_
    show own_Go p e below _ (T140.setTop (mkF m 243 #[oI p0, oI p1, oI p2, oI p3, oI p4, oI p5, oI vz, oI q1, oI q2, oI q3, oI qq, oD (FP.l2d A), .second, oD (FP.l2d B), .second, oD (FP.l2d Cc), .second, oR a109, oD (FP.l2d ((Cc + (if q2 = q3 then (0 : Int64) else B)) + (if q1 = q2 then (0 : Int64) else (if q1 = q3 then (0 : Int64) else A)))), .second] [(.int (lcmpW (own_sel8 qq (own_e (0 : Int32) q1 q2 q3 A B Cc) (own_e (1 : Int32) q1 q2 q3 A B Cc) (own_e (2 : Int32) q1 q2 q3 A B Cc) (own_e (3 : Int32) q1 q2 q3 A B Cc) (own_e (4 : Int32) q1 q2 q3 A B Cc) (own_e (5 : Int32) q1 q2 q3 A B Cc) (own_e (6 : Int32) q1 q2 q3 A B Cc) (own_e (7 : Int32) q1 q2 q3 A B Cc)) (own_e qq q1 q2 q3 A B Cc)))]))
    refine own_via (fun t kz => XS.ifNo X140.here hx rfl (hb hby at_243) rfl ((if0 _ _).trans (teq ((lw_eq _ _).mpr (own_at8 qq q1 q2 q3 A B Cc hp_qq))).2) kz) ?_
    refine own_via (fun t kz => XS.aload X140.here hx rfl (hb hby at_246) rfl rfl kz) ?_
    show own_Go p e below _ (T140.setTop (mkF m 248 #[oI p0, oI p1, oI p2, oI p3, oI p4, oI p5, oI vz, oI q1, oI q2, oI q3, oI qq, oD (FP.l2d A), .second, oD (FP.l2d B), .second, oD (FP.l2d Cc), .second, oR a109, oD (FP.l2d ((Cc + (if q2 = q3 then (0 : Int64) else B)) + (if q1 = q2 then (0 : Int64) else (if q1 = q3 then (0 : Int64) else A)))), .second] [(.ref a109)]))
    obtain ⟨cq142, kq142, qa142, qb142, qc142⟩ := isOf hZ e140 (own_exa8 TD121)
    obtain ⟨_, _, ⟨T142, L142, k142, n142⟩, -, X142, ⟨Lc142, hQ142, l142, y142, z142⟩, st142⟩ := X140.virtualBack hx (y := (⟨"com/example/coupewise/coupewise/WeightedDraw", "total", "()D"⟩ : MethodName)) (z := (⟨"com/example/coupewise/coupewise/WeightedDraw", "total", "()D"⟩ : MethodName)) hown (mvT hZ (own_w hw 32)) (mvT hZ (own_w hw 33)) (notFace_of_selects (args := #[]) (mvT hZ (own_w hw 35))) (mvT hZ (own_w hw 35)) (mvT hZ (own_w hw 34)) (by decide) (backOf (W := 0) (rm6_8 l Z a0 hw [] a109 (own_e (0 : Int32) q1 q2 q3 A B Cc) (own_e (1 : Int32) q1 q2 q3 A B Cc) (own_e (2 : Int32) q1 q2 q3 A B Cc) (own_e (3 : Int32) q1 q2 q3 A B Cc) (own_e (4 : Int32) q1 q2 q3 A B Cc) (own_e (5 : Int32) q1 q2 q3 A B Cc) (own_e (6 : Int32) q1 q2 q3 A B Cc) (own_e (7 : Int32) q1 q2 q3 A B Cc) T121.heap n0 Zq121 TD121) hZ (own_w hw 36) (own_w hw 4) (by decide) (by decide)) qa142 qc142 (g := (mkF m 248 #[oI p0, oI p1, oI p2, oI p3, oI p4, oI p5, oI vz, oI q1, oI q2, oI q3, oI qq, oD (FP.l2d A), .second, oD (FP.l2d B), .second, oD (FP.l2d Cc), .second, oR a109, oD (FP.l2d ((Cc + (if q2 = q3 then (0 : Int64) else B)) + (if q1 = q2 then (0 : Int64) else (if q1 = q3 then (0 : Int64) else A)))), .second] [(.ref a109)])) rfl (by rw [hml]; rfl) (Steps.refl _) (argsL := []) (rest := []) (lenOf pd_0_4 rfl) rfl (by show 2 * 0 + _ ≤ _; exact Nat.le_of_eq rfl) (hb hby at_248) (fun _ _ => ⟨rfl, e140, (by decide : 2 + 0 ≤ _), (by decide : 19 + 0 ≤ _)⟩)
    dsimp only [Pt.U, Pt.locs, Pt.cells, Pt.slots] at X142 l142 y142 z142 st142 hQ142
    subst l142 y142 z142
    obtain ⟨rfl, Nq142, e142⟩ := hQ142
    have N143 := Fr.app N141 Nq142
    refine own_tr st142 ?_
    refine own_via (fun t kz => XS.dload X142.here hx rfl (hb hby at_251) rfl kz) ?_
    show own_Go p e below _ (T142.setTop (mkF m 253 #[oI p0, oI p1, oI p2, oI p3, oI p4, oI p5, oI vz, oI q1, oI q2, oI q3, oI qq, oD (FP.l2d A), .second, oD (FP.l2d B), .second, oD (FP.l2d Cc), .second, oR a109, oD (FP.l2d ((Cc + (if q2 = q3 then (0 : Int64) else B)) + (if q1 = q2 then (0 : Int64) else (if q1 = q3 then (0 : Int64) else A)))), .second] [(.double (FP.l2d ((Cc + (if q2 = q3 then (0 : Int64) else B)) + (if q1 = q2 then (0 : Int64) else (if q1 = q3 then (0 : Int64) else A))))), (.double (FP.l2d ((((own_e (0 : Int32) q1 q2 q3 A B Cc) + (own_e (1 : Int32) q1 q2 q3 A B Cc)) + ((own_e (2 : Int32) q1 q2 q3 A B Cc) + (own_e (3 : Int32) q1 q2 q3 A B Cc))) + (((own_e (4 : Int32) q1 q2 q3 A B Cc) + (own_e (5 : Int32) q1 q2 q3 A B Cc)) + ((own_e (6 : Int32) q1 q2 q3 A B Cc) + (own_e (7 : Int32) q1 q2 q3 A B Cc))))))]))
    refine own_via (fun t kz => XS.dcmpS X142.here hx rfl (hb hby at_253) rfl (dcmpV_w (own_b53 (own_bda (own_bda (own_bda (own_bde hbA hbB hbCc) (own_bde hbA hbB hbCc) (by decide)) (own_bda (own_bde hbA hbB hbCc) (own_bde hbA hbB hbCc) (by decide)) (by decide)) (own_bda (own_bda (own_bde hbA hbB hbCc) (own_bde hbA hbB hbCc) (by decide)) (own_bda (own_bde hbA hbB hbCc) (own_bde hbA hbB hbCc) (by decide)) (by decide)) (by decide)) (by decide)) (own_b53 (own_bda (own_bda hbCc (own_bdi own_bd0 hbB) (by decide)) (own_bdi own_bd0 (own_bdi own_bd0 hbA)) (by decide)) (by decide)) .l) kz) ?_
    show own_Go p e below _ (T142.setTop (mkF m 254 #[oI p0, oI p1, oI p2, oI p3, oI p4, oI p5, oI vz, oI q1, oI q2, oI q3, oI qq, oD (FP.l2d A), .second, oD (FP.l2d B), .second, oD (FP.l2d Cc), .second, oR a109, oD (FP.l2d ((Cc + (if q2 = q3 then (0 : Int64) else B)) + (if q1 = q2 then (0 : Int64) else (if q1 = q3 then (0 : Int64) else A)))), .second] [(.int (lcmpW ((((own_e (0 : Int32) q1 q2 q3 A B Cc) + (own_e (1 : Int32) q1 q2 q3 A B Cc)) + ((own_e (2 : Int32) q1 q2 q3 A B Cc) + (own_e (3 : Int32) q1 q2 q3 A B Cc))) + (((own_e (4 : Int32) q1 q2 q3 A B Cc) + (own_e (5 : Int32) q1 q2 q3 A B Cc)) + ((own_e (6 : Int32) q1 q2 q3 A B Cc) + (own_e (7 : Int32) q1 q2 q3 A B Cc)))) ((Cc + (if q2 = q3 then (0 : Int64) else B)) + (if q1 = q2 then (0 : Int64) else (if q1 = q3 then (0 : Int64) else A)))))]))
    refine own_via (fun t kz => XS.ifNo X142.here hx rfl (hb hby at_254) rfl ((if0 _ _).trans (teq ((lw_eq _ _).mpr (own_tot8 q1 q2 q3 A B Cc hp_q1 hp_q2 hp_q3))).2) kz) ?_
    refine own_via (fun t kz => XS.iconst X142.here hx rfl (hb hby at_257) kz) ?_
    refine own_via (fun t kz => XS.goto X142.here hx rfl (pc0 := 258) (pc' := 262) rfl (hb hby at_258) (by decide) (by decide) kz) ?_
    show own_Go p e below _ (T142.setTop (mkF m 262 #[oI p0, oI p1, oI p2, oI p3, oI p4, oI p5, oI vz, oI q1, oI q2, oI q3, oI qq, oD (FP.l2d A), .second, oD (FP.l2d B), .second, oD (FP.l2d Cc), .second, oR a109, oD (FP.l2d ((Cc + (if q2 = q3 then (0 : Int64) else B)) + (if q1 = q2 then (0 : Int64) else (if q1 = q3 then (0 : Int64) else A)))), .second] [(.int (1 : Int32))]))
    obtain ⟨fs, hr, hrun, hended, hW, hsame⟩ := X142.leave (v := some (.int (1 : Int32))) (fun h => by rw [Bd.returns] at h; cases h)
    refine ⟨_, _, retN X142 hx (t := .boolean) Bd.returns (by simp) (hb hby at_262) hr, hrun, hended, _, _, rfl, ?_, ⟨_, rfl⟩, hW, hsame.mono (by decide) (by decide)⟩
    show Q0 Z p0 p1 p2 p3 p4 p5 h0 n0 _ T142.heap _
    rw [e142]
    exact ⟨rfl, N143⟩
set_option maxRecDepth 65536 in
set_option maxHeartbeats 40000000 in
theorem comes_1 {Post : Tables → Env → Array Value → State → Outcome → State → Prop} (hpost : ∀ tb e args s v u, (limb_1_1.after args s (.returned v) u = true ∧ limb_1_2.after args s (.returned v) u = true ∧ True) → FrameEnd s (.returned v) u (Jvm.fieldLocs frame_1_writes args s ++ Jvm.arrayLocs frame_1_arrays args s ++ Jvm.staticLocs frame_1_statics s) 16 128 → Post tb e args s (.returned v) u) :
    ArmFor flags0 classFile x code maxLocals ret World_1 tables_1 room_1 Calls_1 rest_1 Pre_1 Post := by
  intro l hfl _ _ p e ha hc hk s m args below hf hA hF happ hP
  obtain ⟨hcalls, hrest, hpre⟩ := hP
  obtain ⟨-, -, -, hnamed, -, -, -, hat⟩ := (Spec.applies_iff hf).mp happ
  obtain ⟨hg, hn⟩ := and_e (Cond.before_iff.mp (show (Jvm.Cond.and given_1 narrow_1).before args s = true from hpre))
  obtain ⟨g1, g2⟩ := and_e hg
  obtain ⟨g3, g4⟩ := and_e g2
  obtain ⟨g5, g6⟩ := and_e g4
  obtain ⟨g7, g8⟩ := and_e g6
  obtain ⟨g9, g10⟩ := and_e g8
  obtain ⟨g11, g12⟩ := and_e g10
  obtain ⟨w0, w1, w2, w3, w4, w5, rfl⟩ : ∃ w0 w1 w2 w3 w4 w5 : Value, args = #[w0, w1, w2, w3, w4, w5] := by
    have hs : args.size = 6 := by simpa [Cond.value, given_1] using g1
    obtain ⟨L⟩ := args
    match L, hs with
    | [w0, w1, w2, w3, w4, w5], _ => exact ⟨w0, w1, w2, w3, w4, w5, rfl⟩
  have hw := fun d (hd : d ∈ tables_1) => atoms_spec (ws := Jvm.Cond.code x code maxLocals ret :: tables_1) hat d (List.mem_cons_of_mem _ hd)
  obtain ⟨i0, ei0⟩ := is_v g3
  obtain rfl : w0 = (.int i0) := Option.some.inj ei0
  obtain ⟨i1, ei1⟩ := is_v g5
  obtain rfl : w1 = (.int i1) := Option.some.inj ei1
  obtain ⟨i2, ei2⟩ := is_v g7
  obtain rfl : w2 = (.int i2) := Option.some.inj ei2
  obtain ⟨i3, ei3⟩ := is_v g9
  obtain rfl : w3 = (.int i3) := Option.some.inj ei3
  obtain ⟨i4, ei4⟩ := is_v g11
  obtain rfl : w4 = (.int i4) := Option.some.inj ei4
  obtain ⟨i5, ei5⟩ := is_v g12
  obtain rfl : w5 = (.int i5) := Option.some.inj ei5
  obtain ⟨n, o, h1, h2, h3, _, L, rfl, ⟨rfl, N⟩, hq⟩ := rm0 l s _ hw tables_1 i0 i1 i2 i3 i4 i5 s.heap s.heap.size (Nat.le_refl _)  p e ha hc hk s m _ below hf ((Spec.applies_iff_loose hf).mp happ).1 ⟨rfl, State.Warmed39.refl s, rfl⟩ trivial
  refine ⟨n, _, h1, h2, h3, hpost _ _ _ _ _ _ ⟨Cond.after_iff.mpr rfl, Cond.after_iff.mpr (eq_i res_at (Term.int_eval (1)) rfl), trivial⟩ ⟨hq.1, hq.2.1, (hq.2.2.sift fun y hy => Or.inr (N y hy)).mono (by decide) (by decide)⟩⟩
theorem main_1_1 : Claimed_1_1 := comes_1 fun _ _ _ _ _ _ h hF => ⟨h.1, hF⟩
theorem main_1_2 : Claimed_1_2 := comes_1 fun _ _ _ _ _ _ h hF => ⟨h.2.1, hF⟩
end Jvm.Pilot.@@N@@
namespace Jvm.Pilot.@@N@@
open Jvm Jvm.ClassFile Sem Op Lib Jvm.Free Jvm.Stand Jvm.Pilot.@@N@@.Jvm.D
/-! MADE BY PROGRAM (witnessworld.py) out of the Statement's table words and the real class files: 11 classes; the members and pool entries that the words name. The judged class is class 1, her method 1. -/
namespace start1
open Jvm.ClassFile
def u (s : String) : CpInfo := .utf8 (stringToUtf16 s)
/-- a pool by its gaps: so many unusable entries, then the entry; so many at the end -/
def gap : Nat → List CpInfo → List CpInfo
  | 0, r => r
  | n + 1, r => .unusable :: gap n r
def poolList (es : List (Nat × CpInfo)) (last : Nat) : List CpInfo := es.foldr (fun e r => gap e.1 (e.2 :: r)) (gap last [])
def pool (es : List (Nat × CpInfo)) (last : Nat) : Array CpInfo := ⟨poolList es last⟩
def fileOf (pool : Array CpInfo) (this : Nat) (attrs : Array Attribute := #[]) (ms : Array MethodInfo := #[]) (fl : Nat := 33) (sup : Nat := 0) (ifs : Array Nat := #[]) (fds : Array FieldInfo := #[]) : ClassFile where
  minorVersion := 0
  majorVersion := 65
  constantPool := pool
  accessFlags := fl
  thisClass := this
  superClass := sup
  interfaces := ifs
  fields := fds
  methods := ms
  attributes := attrs
def plain (name : String) (sup : Option ClassId) : Class where
  name := name
  kind := .ordinary
  loader := none
  accessFlags := 33
  super := sup
  interfaces := #[]
  cf := none
  fields := #[]
  methods := #[]
  instanceTypes := #[]
  staticTypes := #[]
  resolved := #[]
  callSites := []
  init := .initialized
  statics := none
  mirror := none

def pool0 : Array CpInfo := pool [(5, u "<init>"), (0, u "()V"), (1, .class_ 10), (1, u "java/lang/Object")] 113

def k0c0 : Code := { maxStack := 0, maxLocals := 1, code := object_method_1_code, exceptionTable := #[], attributes := #[] }
def k0m0 : Method := { name := "<init>", desc := "()V", sig := { parameters := [], returnType := none }, accessFlags := 1, code := some k0c0 }
/-- java/lang/Object -/
def k0 : Class := { plain "java/lang/Object" none with
  accessFlags := 33
  interfaces := #[]
  cf := some (fileOf pool0 8 #[] #[{ accessFlags := 1, nameIndex := 5, descriptorIndex := 6, attributes := #[] }] 33 0 #[] #[])
  fields := #[]
  methods := #[k0m0]
  instanceTypes := #[]
  staticTypes := #[]
  resolved := Array.replicate 124 none
  statics := none }

def pool1 : Array CpInfo := pool [(2, .class_ 4), (1, u "java/lang/Object"), (0, u "<init>"), (0, u "()V"), (0, .integer 2147483647), (0, .integer 1048575), (0, .class_ 10), (0, u "com/example/coupewise/coupewise/WeightedDraw"), (0, .methodref 9 12), (0, .nameAndType 5 13), (0, u "(I)V"), (0, .methodref 9 15), (0, .nameAndType 16 17), (0, u "set"), (0, u "(ID)V"), (0, .methodref 9 19), (0, .nameAndType 20 21), (0, u "weight"), (0, u "(I)D"), (0, .methodref 23 24), (0, .class_ 25), (0, .nameAndType 26 27), (0, u "com/example/coupewise/coupewise/WeightedDrawSetPinLaw"), (0, u "expected"), (0, u "(IIIIDDD)D"), (0, .methodref 9 29), (0, .nameAndType 30 31), (0, u "total"), (0, u "()D"), (2, u "law"), (0, u "(IIIIII)Z")] 3

def k1m0 : Method := { name := "<init>", desc := "()V", sig := { parameters := [], returnType := none }, accessFlags := 1, code := none }
def k1c1 : Code := { maxStack := 12, maxLocals := 20, code := code, exceptionTable := #[], attributes := #[] }
def k1m1 : Method := { name := "law", desc := "(IIIIII)Z", sig := { parameters := [.int, .int, .int, .int, .int, .int], returnType := some .boolean }, accessFlags := 9, code := some k1c1 }
def k1c2 : Code := { maxStack := 2, maxLocals := 10, code := method_3_code, exceptionTable := #[], attributes := #[] }
def k1m2 : Method := { name := "expected", desc := "(IIIIDDD)D", sig := { parameters := [.int, .int, .int, .int, .double, .double, .double], returnType := some .double }, accessFlags := 10, code := some k1c2 }
/-- com/example/coupewise/coupewise/WeightedDrawSetPinLaw -/
def k1 : Class := { plain "com/example/coupewise/coupewise/WeightedDrawSetPinLaw" (some 0) with
  accessFlags := 49
  interfaces := #[]
  cf := some (fileOf pool1 23 #[] #[{ accessFlags := 1, nameIndex := 5, descriptorIndex := 6, attributes := #[] }, { accessFlags := 9, nameIndex := 34, descriptorIndex := 35, attributes := #[] }, { accessFlags := 10, nameIndex := 26, descriptorIndex := 27, attributes := #[] }] 49 2 #[] #[])
  fields := #[]
  methods := #[k1m0, k1m1, k1m2]
  instanceTypes := #[]
  staticTypes := #[]
  resolved := Array.replicate 39 none
  statics := none }

def pool2 : Array CpInfo := pool [(1, .methodref 2 3), (0, .class_ 4), (0, .nameAndType 5 6), (0, u "java/lang/Object"), (0, u "<init>"), (0, u "()V"), (0, .fieldref 8 9), (0, .class_ 10), (0, .nameAndType 11 12), (0, u "com/example/coupewise/coupewise/WeightedDraw"), (0, u "size"), (0, u "I"), (0, .fieldref 8 14), (0, .nameAndType 15 12), (0, u "leaves"), (0, .fieldref 8 17), (0, .nameAndType 18 19), (0, u "sums"), (0, u "[D"), (11, u "(I)D"), (5, u "()D"), (2, u "total"), (0, u "(I)V"), (5, u "set"), (0, u "(ID)V"), (0, u "weight")] 4

def k2c0 : Code := { maxStack := 3, maxLocals := 3, code := prog_11_method_1_code, exceptionTable := #[], attributes := #[] }
def k2m0 : Method := { name := "<init>", desc := "(I)V", sig := { parameters := [.int], returnType := none }, accessFlags := 0, code := some k2c0 }
def k2c1 : Code := { maxStack := 7, maxLocals := 5, code := prog_11_method_3_code, exceptionTable := #[], attributes := #[] }
def k2m1 : Method := { name := "set", desc := "(ID)V", sig := { parameters := [.int, .double], returnType := none }, accessFlags := 0, code := some k2c1 }
def k2c2 : Code := { maxStack := 3, maxLocals := 2, code := prog_11_method_4_code, exceptionTable := #[], attributes := #[] }
def k2m2 : Method := { name := "weight", desc := "(I)D", sig := { parameters := [.int], returnType := some .double }, accessFlags := 0, code := some k2c2 }
def k2c3 : Code := { maxStack := 2, maxLocals := 1, code := prog_11_method_5_code, exceptionTable := #[], attributes := #[] }
def k2m3 : Method := { name := "total", desc := "()D", sig := { parameters := [], returnType := some .double }, accessFlags := 0, code := some k2c3 }
/-- com/example/coupewise/coupewise/WeightedDraw -/
def k2 : Class := { plain "com/example/coupewise/coupewise/WeightedDraw" (some 0) with
  accessFlags := 48
  interfaces := #[]
  cf := some (fileOf pool2 8 #[] #[{ accessFlags := 0, nameIndex := 5, descriptorIndex := 41, attributes := #[] }, { accessFlags := 0, nameIndex := 47, descriptorIndex := 48, attributes := #[] }, { accessFlags := 0, nameIndex := 49, descriptorIndex := 31, attributes := #[] }, { accessFlags := 0, nameIndex := 40, descriptorIndex := 37, attributes := #[] }] 48 2 #[] #[{ accessFlags := 18, nameIndex := 18, descriptorIndex := 19, attributes := #[] }, { accessFlags := 18, nameIndex := 15, descriptorIndex := 12, attributes := #[] }, { accessFlags := 18, nameIndex := 11, descriptorIndex := 12, attributes := #[] }])
  fields := #[{ name := "sums", type := (.array .double), accessFlags := 18, slot := 0, constantValue := 0 }, { name := "leaves", type := .int, accessFlags := 18, slot := 1, constantValue := 0 }, { name := "size", type := .int, accessFlags := 18, slot := 2, constantValue := 0 }]
  methods := #[k2m0, k2m1, k2m2, k2m3]
  instanceTypes := #[(.array .double), .int, .int]
  staticTypes := #[]
  resolved := Array.replicate 54 none
  statics := none }

def pool3 : Array CpInfo := pool [(1, u "java/lang/Cloneable"), (0, .class_ 1), (0, u "java/lang/Object"), (0, .class_ 3)] 3

/-- java/lang/Cloneable -/
def k3 : Class := { plain "java/lang/Cloneable" (some 0) with
  accessFlags := 1537
  interfaces := #[]
  cf := some (fileOf pool3 2 #[] #[] 1537 4 #[] #[])
  fields := #[]
  methods := #[]
  instanceTypes := #[]
  staticTypes := #[]
  resolved := Array.replicate 8 none
  statics := none }

def pool4 : Array CpInfo := pool [(1, u "java/io/Serializable"), (0, .class_ 1), (0, u "java/lang/Object"), (0, .class_ 3)] 3

/-- java/io/Serializable -/
def k4 : Class := { plain "java/io/Serializable" (some 0) with
  accessFlags := 1537
  interfaces := #[]
  cf := some (fileOf pool4 2 #[] #[] 1537 4 #[] #[])
  fields := #[]
  methods := #[]
  instanceTypes := #[]
  staticTypes := #[]
  resolved := Array.replicate 8 none
  statics := none }

/-- the primitive byte -/
def k5 : Class := { plain "byte" none with kind := .primitive 'B', accessFlags := 0x411 }
/-- [B -/
def k6 : Class := { plain "[B" (some 0) with kind := .array 5 .byte, interfaces := #[3, 4], accessFlags := 1041 }

/-- the primitive double -/
def k7 : Class := { plain "double" none with kind := .primitive 'D', accessFlags := 0x411 }
/-- [D -/
def k8 : Class := { plain "[D" (some 0) with kind := .array 7 .double, interfaces := #[3, 4], accessFlags := 1041 }

/-- the primitive int -/
def k9 : Class := { plain "int" none with kind := .primitive 'I', accessFlags := 0x411 }
/-- [I -/
def k10 : Class := { plain "[I" (some 0) with kind := .array 9 .int, interfaces := #[3, 4], accessFlags := 1041 }

def heap : Heap := #[]
def classes : Array Class := #[k0, k1, k2, k3, k4, k5, k6, k7, k8, k9, k10]
def interned : List (Array UInt16 × Addr) := []
def slotsUsed : Nat := 0
def theMethod : MethodId := ⟨1, 1⟩
def args0 : Array Value := #[.int 5, .int 3, .int 2, .int 65, .int 16, .int 4]
def aboutOver (below : List Frame) : State where
  vm := { classes := classes, interned := interned.toArray }
  heap := heap
  slotsUsed := slotsUsed
  threads := #[{ frames := .invoking theMethod args0 :: below }]
def below0 : List Frame := [.native { method := ⟨0, 0⟩, args := #[] }]
def about1 : State := aboutOver below0
def p0 : Program := .bare "" "" ""
def e0 : Env := launch0.env 0 0 0
theorem w_frames : about1.frames = Frame.invoking theMethod args0 :: below0 := rfl
set_option maxRecDepth 65536 in
theorem w_args : argsFit about1.vm theMethod args0 = true := by decide +kernel
set_option maxRecDepth 65536 in
theorem w_heap : heapFits about1 = true := by decide +kernel
set_option maxRecDepth 65536 in
theorem w_runnable : about1.curStatus? = some .runnable := by decide +kernel
set_option maxRecDepth 65536 in
theorem w_alone : about1.alone = true := by decide +kernel
set_option maxRecDepth 65536 in
theorem w_named : about1.methodNamed? x = some theMethod := by decide +kernel
set_option maxRecDepth 65536 in
theorem w_hears : about1.hears theMethod below0 = true := by decide +kernel
set_option maxRecDepth 65536 in
theorem w_ripe : about1.ripe theMethod args0 below0 = true := by decide +kernel
theorem w_running : about1.status = .running := rfl
set_option maxRecDepth 65536 in
theorem w_room : about1.hasRoom e0.platform room_1 = true :=
  launch0.hasRoom_least _ room_1 (by decide +kernel) (by decide +kernel) (by decide +kernel) (by decide +kernel) (by decide +kernel) (by decide +kernel)
theorem allAtoms_all (ts : List Jvm.Cond) (a : Array Jvm.Value) (st : Jvm.State) : (allAtoms ts).before a st = ts.all (fun c => c.before a st) := by
  induction ts with
  | nil => rfl
  | cons c t ih =>
    show (Jvm.Cond.and c (allAtoms t)).before a st = _
    rw [Jvm.Cond.before_and, ih, List.all_cons]
def words1 : List Jvm.Cond := Jvm.Cond.code x code maxLocals ret :: tables_1
/-- a 'code' word, met by the world's own term for the bytes: nothing is compared byte by byte -/
theorem code_word {y : MethodName} {bytes : ByteArray} {mx : Nat} {rt : Option FieldType} {a : Array Value} {s : State} {m : MethodId} {meth : Method} {c : Code} (h1 : s.methodNamed? y = some m) (h2 : s.vm.method? m = some meth) (h3 : meth.code = some c) (h4 : c.code = bytes)
    (h5 : (c.maxLocals == mx && c.exceptionTable.isEmpty && decide (c.maxStack ≤ mostOperands) && decide (meth.sig.returnType = rt) && !meth.locks && decide (parseMethodDescriptor y.desc = some meth.sig)) = true) : (Jvm.Cond.code y bytes mx rt).before a s = true := by
  simp only [Bool.and_eq_true, beq_iff_eq, Bool.not_eq_true', decide_eq_true_eq] at h5
  obtain ⟨⟨⟨⟨⟨g1, g2⟩, g3⟩, g4⟩, g5⟩, g6⟩ := h5
  simp [Cond.before, Cond.holds, Cond.value, h1, h2, h3, h4, g1, g2, g3, g4, g5, g6]
def isCode : Jvm.Cond → Bool
  | .code _ _ _ _ => true
  | _ => false
theorem all_split {L : List Jvm.Cond} {P : Jvm.Cond → Bool} (h1 : L.all (fun c => isCode c || P c) = true) (h2 : ∀ c ∈ L.filter isCode, P c = true) : L.all P = true := by
  refine List.all_eq_true.mpr fun c hc => ?_
  have h := List.all_eq_true.mp h1 c hc
  rcases Bool.eq_false_or_eq_true (isCode c) with hi | hi
  · exact h2 c (List.mem_filter.mpr ⟨hc, hi⟩)
  · simpa [hi] using h
set_option maxRecDepth 65536 in
theorem w_c0 : (Jvm.Cond.code x code maxLocals ret).before args0 about1 = true := code_word (m := ⟨1, 1⟩) (meth := k1m1) (c := k1c1) (by decide +kernel) rfl rfl rfl (by decide +kernel)
set_option maxRecDepth 65536 in
theorem w_c1 : (Jvm.Cond.code ({ cls := "com/example/coupewise/coupewise/WeightedDraw", name := "<init>", desc := "(I)V" } : Jvm.MethodName) prog_11_method_1_code (3 : Nat) (Option.none : Option Jvm.ClassFile.FieldType)).before args0 about1 = true := code_word (m := ⟨2, 0⟩) (meth := k2m0) (c := k2c0) (by decide +kernel) rfl rfl rfl (by decide +kernel)
set_option maxRecDepth 65536 in
theorem w_c2 : (Jvm.Cond.code ({ cls := "java/lang/Object", name := "<init>", desc := "()V" } : Jvm.MethodName) object_method_1_code (1 : Nat) (Option.none : Option Jvm.ClassFile.FieldType)).before args0 about1 = true := code_word (m := ⟨0, 0⟩) (meth := k0m0) (c := k0c0) (by decide +kernel) rfl rfl rfl (by decide +kernel)
set_option maxRecDepth 65536 in
theorem w_c3 : (Jvm.Cond.code ({ cls := "com/example/coupewise/coupewise/WeightedDraw", name := "set", desc := "(ID)V" } : Jvm.MethodName) prog_11_method_3_code (5 : Nat) (Option.none : Option Jvm.ClassFile.FieldType)).before args0 about1 = true := code_word (m := ⟨2, 1⟩) (meth := k2m1) (c := k2c1) (by decide +kernel) rfl rfl rfl (by decide +kernel)
set_option maxRecDepth 65536 in
theorem w_c4 : (Jvm.Cond.code ({ cls := "com/example/coupewise/coupewise/WeightedDraw", name := "weight", desc := "(I)D" } : Jvm.MethodName) prog_11_method_4_code (2 : Nat) (Option.some Jvm.ClassFile.FieldType.double)).before args0 about1 = true := code_word (m := ⟨2, 2⟩) (meth := k2m2) (c := k2c2) (by decide +kernel) rfl rfl rfl (by decide +kernel)
set_option maxRecDepth 65536 in
theorem w_c5 : (Jvm.Cond.code ({ cls := "com/example/coupewise/coupewise/WeightedDrawSetPinLaw", name := "expected", desc := "(IIIIDDD)D" } : Jvm.MethodName) method_3_code (10 : Nat) (Option.some Jvm.ClassFile.FieldType.double)).before args0 about1 = true := code_word (m := ⟨1, 2⟩) (meth := k1m2) (c := k1c2) (by decide +kernel) rfl rfl rfl (by decide +kernel)
set_option maxRecDepth 65536 in
theorem w_c6 : (Jvm.Cond.code ({ cls := "com/example/coupewise/coupewise/WeightedDraw", name := "total", desc := "()D" } : Jvm.MethodName) prog_11_method_5_code (1 : Nat) (Option.some Jvm.ClassFile.FieldType.double)).before args0 about1 = true := code_word (m := ⟨2, 3⟩) (meth := k2m3) (c := k2c3) (by decide +kernel) rfl rfl rfl (by decide +kernel)
def codes1 : List Jvm.Cond := [Jvm.Cond.code x code maxLocals ret, Jvm.Cond.code ({ cls := "com/example/coupewise/coupewise/WeightedDraw", name := "<init>", desc := "(I)V" } : Jvm.MethodName) prog_11_method_1_code (3 : Nat) (Option.none : Option Jvm.ClassFile.FieldType), Jvm.Cond.code ({ cls := "java/lang/Object", name := "<init>", desc := "()V" } : Jvm.MethodName) object_method_1_code (1 : Nat) (Option.none : Option Jvm.ClassFile.FieldType), Jvm.Cond.code ({ cls := "com/example/coupewise/coupewise/WeightedDraw", name := "set", desc := "(ID)V" } : Jvm.MethodName) prog_11_method_3_code (5 : Nat) (Option.none : Option Jvm.ClassFile.FieldType), Jvm.Cond.code ({ cls := "com/example/coupewise/coupewise/WeightedDraw", name := "weight", desc := "(I)D" } : Jvm.MethodName) prog_11_method_4_code (2 : Nat) (Option.some Jvm.ClassFile.FieldType.double), Jvm.Cond.code ({ cls := "com/example/coupewise/coupewise/WeightedDrawSetPinLaw", name := "expected", desc := "(IIIIDDD)D" } : Jvm.MethodName) method_3_code (10 : Nat) (Option.some Jvm.ClassFile.FieldType.double), Jvm.Cond.code ({ cls := "com/example/coupewise/coupewise/WeightedDraw", name := "total", desc := "()D" } : Jvm.MethodName) prog_11_method_5_code (1 : Nat) (Option.some Jvm.ClassFile.FieldType.double)]
set_option maxRecDepth 65536 in
theorem codes_eq : words1.filter isCode = codes1 := rfl
theorem w_codes : ∀ c ∈ words1.filter isCode, c.before args0 about1 = true := by
  rw [codes_eq]
  intro c hc
  simp only [codes1, List.mem_cons, List.not_mem_nil, or_false] at hc
  rcases hc with rfl | rfl | rfl | rfl | rfl | rfl | rfl
  · exact w_c0
  · exact w_c1
  · exact w_c2
  · exact w_c3
  · exact w_c4
  · exact w_c5
  · exact w_c6
set_option maxRecDepth 65536 in
theorem w_t1 : (words1.take 24).all (fun c => isCode c || c.before args0 about1) = true := by decide +kernel
set_option maxRecDepth 65536 in
theorem w_t2 : (words1.drop 24).all (fun c => isCode c || c.before args0 about1) = true := by decide +kernel
theorem w_tables : (allAtoms (Jvm.Cond.code x code maxLocals ret :: tables_1)).before args0 about1 = true := by
  rw [allAtoms_all]
  show words1.all (fun c => c.before args0 about1) = true
  refine all_split ?_ w_codes
  rw [← List.take_append_drop 24 words1, List.all_append, w_t1, w_t2]
  rfl
set_option maxRecDepth 65536 in
theorem w_case : (Jvm.Cond.and given_1 narrow_1).before args0 about1 = true := by decide +kernel
theorem w_applies : (headSpec (Jvm.Cond.code x code maxLocals ret :: tables_1) room_1).applies x e0.platform about1 = true :=
  (Spec.applies_iff w_frames).mpr ⟨w_running, w_runnable, w_alone, w_named, w_hears, w_ripe, w_room, w_tables⟩
theorem atStart : AtStart classFile x code maxLocals ret World_1 tables_1 room_1 Calls_1 rest_1 Pre_1 launch0 p0 e0 about1 theMethod args0 below0 :=
  ⟨lists_1, trivial, launch0.admits_env _ _ _, launch0.least_env, fairChoices_fair.cas, fairChoices_fair.clock, w_frames, w_args, w_heap, w_applies, trivial, trivial, w_case⟩
end start1
theorem witness_1 : WitnessClaimed_1 := ⟨start1.p0, start1.e0, start1.about1, start1.theMethod, start1.args0, start1.below0, start1.atStart⟩
end Jvm.Pilot.@@N@@
