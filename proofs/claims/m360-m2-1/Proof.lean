import JvmDerived
import JvmDerived.Pilot.@@N@@Statement
import JvmDerived.Pilot.@@N@@Code
set_option linter.unusedVariables false
set_option linter.unusedSimpArgs false
namespace Jvm.RoadKit
open Sem ClassFile Op Lib Jvm.Stand Jvm.Free Jvm.LawKit
section New
variable {p : Program} {l : Launch} {e : Env} {R : Room} {s : State} {m : MethodId} {args : Array Value} {below : List Frame} {meth : Method} {c : Code} {T : State} {locs : List Loc} {cells slots : Nat}
theorem retI (X : Stand p l e R s m args below meth c T locs cells slots) (hx : p.tables.exec = Jvm.exec) {pc : Nat} {Ls : Array Slot} {z : Int32} {rest : List Value} (hret : meth.sig.returnType = some .int) (hd : decode c.code pc = .ok (.ireturn, 1)) {fs : List Frame}
    (hl : ∀ (f : JFrame) (acts : List Action), f.method = m → f.locked = none → f.entered = [] → (doReturn e (T.setTop f) acts (some (.int z))).1 = T.setFrames fs) : Steps p.tables e below (T.setTop (mkF m pc Ls (.int z :: rest))) (T.setFrames fs) := by
  have hm' : T.vm.method? m = some meth := X.method'
  have hn : narrow .int (.int z) = .int z := rfl
  show Steps p.tables e below (T.setTop { method := m, pc := pc, locals := Ls, stack := _ :: rest, locked := none }) _
  jvm_step X.here [X.here.top, hx, hd, hm', hret, hn]
  first | (intro acts; rw [hl _ acts rfl rfl rfl]) | rw [hl _ _ rfl rfl rfl]
  exact Steps.refl _
end New
end Jvm.RoadKit
namespace Jvm.Pilot.@@N@@
open Jvm Jvm.FP Jvm.Free.Fl Jvm.ClassFile Sem Op Lib Jvm.Free Jvm.Stand Jvm.LawKit Jvm.RoadKit Bundle Jvm.Pilot.@@N@@.Jvm.D
theorem own_w {a0 : Array Value} {Z : State} (hw : ∀ d ∈ tables_1, d.before a0 Z = true) (k : Nat) {d : Jvm.Cond} (h : tables_1[k]? = some d := by rfl) : d.before a0 Z = true := hw _ (List.mem_of_getElem? h)
abbrev oI (x : Int32) : Slot := .val (.int x)
abbrev oR (a : Addr) : Slot := .val (.ref a)
abbrev oJ (x : Int64) : Slot := .val (.long x)
abbrev oD (x : UInt64) : Slot := .val (.double x)
/-- from the state A the run comes to an end of which Q holds -/
def own_Go (p : Program) (e : Env) (below : List Frame) (Q : Outcome → State → Prop) (A : State) : Prop := ∃ s₂ o, Steps p.tables e below A s₂ ∧ s₂.status = .running ∧ Ended s₂ below o ∧ Q o s₂
theorem own_via {p : Program} {e : Env} {below : List Frame} {Q : Outcome → State → Prop} {A B : State} (h : ∀ t, Steps p.tables e below B t → Steps p.tables e below A t) (g : own_Go p e below Q B) : own_Go p e below Q A := by
  obtain ⟨s₂, o, h1, h2⟩ := g
  exact ⟨s₂, o, h _ h1, h2⟩
theorem own_tr {p : Program} {e : Env} {below : List Frame} {Q : Outcome → State → Prop} {A B : State} (h : Steps p.tables e below A B) (g : own_Go p e below Q B) : own_Go p e below Q A := by
  obtain ⟨s₂, o, h1, h2⟩ := g
  exact ⟨s₂, o, h.trans h1, h2⟩
/-- from the state A the run comes to a state B of which Φ holds -/
def own_Pc (p : Program) (e : Env) (below : List Frame) (Φ : State → Prop) (A : State) : Prop := ∃ B, (∀ t, Steps p.tables e below B t → Steps p.tables e below A t) ∧ Φ B
theorem own_pvia {p : Program} {e : Env} {below : List Frame} {Φ : State → Prop} {A B : State} (h : ∀ t, Steps p.tables e below B t → Steps p.tables e below A t) (g : own_Pc p e below Φ B) : own_Pc p e below Φ A := by
  obtain ⟨B', h1, h2⟩ := g
  exact ⟨B', fun t k => h t (h1 t k), h2⟩
theorem own_ptr {p : Program} {e : Env} {below : List Frame} {Φ : State → Prop} {A B : State} (h : Steps p.tables e below A B) (g : own_Pc p e below Φ B) : own_Pc p e below Φ A := own_pvia (fun t k => h.trans k) g
theorem own_start {p : Program} {e : Env} {below : List Frame} {Q : Outcome → State → Prop} {A : State} (h : own_Go p e below Q A) : ∃ s₂ o, Steps p.tables e below A s₂ ∧ s₂.status = .running ∧ Ended s₂ below o ∧ Q o s₂ := h
theorem own_fld {args : Array Value} {s : State} {C f dd O n d : String} {k : Int32} {a : Addr} (ev : (Term.static C f dd).eval args s none [] s = some (.ref a)) (h : (Jvm.Cond.eq (Term.field (Term.static C f dd) O n d) (Term.int k)).value args s none s [] = some true) : Fld s s.heap a O n d (.int k) := by
  have e1 : (Term.field (Term.static C f dd) O n d).eval args s none [] s = s.fieldOf? a O n d := fld_at ev
  have e2 : (Term.int k).eval args s none [] s = some (.int k) := rfl
  refine Fld.start ?_
  cases q : s.fieldOf? a O n d with
  | none => simp [Cond.value, e1, q] at h
  | some v => cases v <;> simp [Cond.value, e1, e2, q] at h ⊢; exact h
theorem own_int_ne {x y : Int32} (h : x ≠ y) : (Value.int x) ≠ .int y := fun q => h (Value.int.inj q)
theorem own_dconst0 : FP.dconst0 = FP.l2d (0 : Int64) := by decide +kernel
theorem own_dconst1 : FP.dconst1 = FP.l2d (1 : Int64) := by decide +kernel
theorem own_b53i (x : Int32) : B53 x.toInt64 := by
  have h := rng32 x
  have e := c_i2l x
  constructor <;> omega
theorem own_u (x : Int32) : 1 ≤ ((((1 : Int32) + (x &&& (65535 : Int32))).toInt64)).toInt ∧ ((((1 : Int32) + (x &&& (65535 : Int32))).toInt64)).toInt ≤ 65536 ∧ ((((1 : Int32) + ((x &&& (65535 : Int32)) + (1 : Int32))).toInt64)).toInt = ((((1 : Int32) + (x &&& (65535 : Int32))).toInt64)).toInt + 1 := by
  have h := c_and x 65535 (by decide)
  generalize x &&& 65535 = u at *
  have e1 := c_i2l (1 + u)
  have e2 := c_i2l (1 + (u + 1))
  have q1 := c_iadd 1 u
  have q2 := c_iadd u 1
  have q3 := c_iadd 1 (u + 1)
  have r1 := rng32 (1 + u)
  have r2 := rng32 (u + 1)
  have r3 := rng32 (1 + (u + 1))
  simp only [Int32.reduceToInt] at *
  refine ⟨?_, ?_, ?_⟩ <;> omega
theorem own_nz (x : Int32) : ((((1 : Int32) + (x &&& (65535 : Int32))).toInt64)) ≠ (0 : Int64) ∧ ((((1 : Int32) + ((x &&& (65535 : Int32)) + (1 : Int32))).toInt64)) ≠ (0 : Int64) := by
  obtain ⟨h1, h2, h3⟩ := own_u x
  constructor
  · intro h
    rw [h] at h1
    exact absurd h1 (by decide)
  · intro h
    rw [h] at h3
    have : (0 : Int64).toInt = 0 := rfl
    omega
theorem own_div {a b : Int64} (h : b ≠ 0) : NoNaN64 (FP.ddiv (FP.l2d a) (FP.l2d b)) := ddiv_out (l2d_fin a).noNaN (l2d_fin b) (l2d_nz h)
theorem own_quo {v a : Int64} {s : Bool} {c : Nat} {q : Int} (hv : Core.val64 (Core.l2d v) = .fin s c q) (h1 : 1 ≤ a.toInt) (h2 : a.toInt ≤ 65538) :
    Core.val64 (Core.ddiv (Core.l2d v) (Core.l2d a)) = Core.roundRatio Core.b64 s c a.toInt.natAbs q := by
  obtain ⟨d, r, hw⟩ := Core.l2d_shape a
  have w : Core.Whole a.toInt (Core.val64 (Core.l2d a)) := Core.l2d_int (by omega)
  have ht : decide (a.toInt < 0) = false := decide_eq_false (by omega)
  rw [ht] at hw
  rw [hw] at w
  have w2 : ((d * 2 ^ r.toNat : Nat) : Int) = a.toInt * ((2 ^ (-r).toNat : Nat) : Int) := w
  obtain ⟨A, hA⟩ : ∃ A : Nat, a.toInt = (A : Int) := ⟨a.toInt.toNat, by omega⟩
  have hn : a.toInt.natAbs = A := by omega
  rw [hA, ← Int.natCast_mul] at w2
  have w3 : d * 2 ^ r.toNat = A * 2 ^ (-r).toNat := Int.ofNat.inj w2
  have hd : d ≠ 0 := by
    intro z
    rw [z, Nat.zero_mul] at w3
    have := Nat.mul_pos (show 0 < A by omega) (Nat.two_pow_pos (-r).toNat)
    omega
  rw [Core.val64_ddiv, hv, hw, hn]
  show (if d = 0 then (if c = 0 then Core.Datum.nan else .inf (s != false)) else Core.roundRatio Core.b64 (s != false) c d (q - r)) = _
  rw [if_neg hd, show (s != false) = s by cases s <;> rfl]
  refine Core.roundRatio_congr (by omega) (by omega) ?_
  rw [show q - r - q = -r by omega, show q - (q - r) = r by omega, Nat.mul_assoc, Nat.mul_assoc, w3]
theorem own_one {v : Int64} {s : Bool} {c : Nat} {q e0 : Int} (hv : Core.val64 (Core.l2d v) = .fin s c q) (h0 : v.toInt ≠ 0) (h : e0 ≤ Core.b64.qmin) : 2 ^ (-e0).toNat ≤ Core.inUnits c q e0 := by
  have h1 : Core.roundRatio Core.b64 (decide (v.toInt < 0)) v.toInt.natAbs 1 0 = .fin s c q := (Core.val64_l2d v).symm.trans hv
  have hq : Core.b64.qmin = -1074 := by decide
  have n := Core.roundRatio_nearest Core.good_b64 (c' := 1) (q' := 0) (e0 := e0) (by decide) h1 (by decide) (by decide) h (by omega)
  unfold Core.distance Core.inUnits at n
  unfold Core.inUnits
  rw [show (0 - e0) = -e0 by omega] at n
  obtain ⟨A, hA⟩ : ∃ A, v.toInt.natAbs = A + 1 := ⟨v.toInt.natAbs - 1, by omega⟩
  rw [hA, Nat.add_mul, Nat.one_mul, show ((1 : Nat) : Int) = 1 from rfl, Int.mul_one, Int.mul_one] at n
  generalize 2 ^ (-e0).toNat = P at *
  generalize c * 2 ^ (q - e0).toNat = D at *
  generalize A * P = M at *
  omega
theorem own_core {X c u A : Nat} (hc : 1 ≤ c) (hu : 0 < u) (hA : 0 < A)
    (n1 : ((X : Int) - ((c * u : Nat) : Int) * (A : Int)).natAbs ≤ ((X : Int) - (((c / 2 + 1) * (2 * u) : Nat) : Int) * (A : Int)).natAbs)
    (n2 : ((X : Int) - ((c * u : Nat) : Int) * ((A + 1 : Nat) : Int)).natAbs ≤ ((X : Int) - (((c - 1) * u : Nat) : Int) * ((A + 1 : Nat) : Int)).natAbs) :
    2 * c ≤ 3 * A + 1 ∧ X ≤ (c + 1) * (u * A) := by
  obtain ⟨j, rfl⟩ : ∃ j, c = j + 1 := ⟨c - 1, by omega⟩
  rw [Nat.add_sub_cancel] at n2
  rw [← Int.natCast_mul, ← Int.natCast_mul] at n1 n2
  have b1 : (j + 1) * u * A = j * u * A + u * A := by rw [Nat.add_mul, Nat.one_mul, Nat.add_mul]
  have b2 : (j + 1) * u * (A + 1) = j * u * A + u * A + (j * u + u) := by rw [Nat.mul_add, Nat.mul_one, b1, Nat.add_mul, Nat.one_mul]
  have b3 : j * u * (A + 1) = j * u * A + j * u := by rw [Nat.mul_add, Nat.mul_one]
  have b4 : ((j + 1) / 2 + 1) * (2 * u) * A = j * u * A + 2 * (u * A) ∨ ((j + 1) / 2 + 1) * (2 * u) * A = j * u * A + 3 * (u * A) := by
    have t : ((j + 1) / 2 + 1) * 2 = j + 2 ∨ ((j + 1) / 2 + 1) * 2 = j + 3 := by omega
    rcases t with t | t
    · left
      rw [← Nat.mul_assoc ((j + 1) / 2 + 1) 2 u, t, Nat.add_mul, Nat.add_mul, Nat.mul_assoc 2 u A]
    · right
      rw [← Nat.mul_assoc ((j + 1) / 2 + 1) 2 u, t, Nat.add_mul, Nat.add_mul, Nat.mul_assoc 3 u A]
  rw [b1] at n1
  rw [b2, b3] at n2
  have g1 : j * u * A = j * (u * A) := Nat.mul_assoc ..
  have g2 := Nat.mul_pos hu hA
  have f1 : X ≤ j * u * A + 2 * (u * A) := by
    generalize j * u * A = JA at *
    generalize u * A = w at *
    rcases b4 with b4 | b4 <;> rw [b4] at n1 <;> omega
  have f2 : 2 * (j * u) + u ≤ 3 * (u * A) := by
    generalize j * u * A = JA at *
    generalize u * A = w at *
    generalize j * u = J at *
    omega
  constructor
  · have t : (2 * j + 1) * u ≤ (3 * A) * u := by
      rw [Nat.add_mul, Nat.one_mul, Nat.mul_assoc, Nat.mul_assoc, Nat.mul_comm A u]
      exact f2
    have := Nat.le_of_mul_le_mul_right t hu
    omega
  · rw [g1] at f1
    rw [Nat.add_mul, Nat.add_mul, Nat.one_mul]
    omega
theorem own_big : 200000 * 65537 < 2 ^ 1074 := Nat.lt_of_lt_of_le (show 200000 * 65537 < 2 ^ 40 by decide) (Nat.pow_le_pow_right (by decide) (by decide))
theorem own_dfin {v a : Int64} (ha : a.toInt ≠ 0) : Core.DFin (Core.ddiv (Core.l2d v) (Core.l2d a)) := by
  have h := Core.ddiv_mag (K := 1088) (L := 1023) (Core.l2d_mag v) (Core.l2d_big ha).1 (Core.l2d_big ha).2 (by decide) (by decide)
  rw [Core.fin_bits]
  omega
theorem own_ne {v a b : Int64} (hv : v.toInt ≠ 0) (h1 : 1 ≤ a.toInt) (h2 : a.toInt ≤ 65537) (hb : b.toInt = a.toInt + 1) :
    Core.dcmp (Core.ddiv (Core.l2d v) (Core.l2d a)) (Core.ddiv (Core.l2d v) (Core.l2d b)) ≠ some .eq := by
  intro h
  obtain ⟨c, q, hx⟩ := Core.l2d_shape v
  have p1 := own_quo (a := a) hx h1 (by omega)
  have p2 := own_quo (a := b) hx (by omega) (by omega)
  obtain ⟨s1, c1, q1, r1⟩ := own_dfin (v := v) (a := a) (by omega)
  obtain ⟨s2, c2, q2, r2⟩ := own_dfin (v := v) (a := b) (by omega)
  have ft := Core.val64_fits (Core.ddiv (Core.l2d v) (Core.l2d a))
  have ft2 := Core.val64_fits (Core.ddiv (Core.l2d v) (Core.l2d b))
  have hh : Core.order (Core.val64 (Core.ddiv (Core.l2d v) (Core.l2d a))) (Core.val64 (Core.ddiv (Core.l2d v) (Core.l2d b))) = some .eq := h
  rw [r1] at ft p1 hh
  rw [r2] at ft2 p2 hh
  obtain ⟨t1, t2, -, t4⟩ := ft
  obtain ⟨-, t6, -, -⟩ := ft2
  have z := (Core.compare_eq_iff _ _).mp (Option.some.inj hh)
  have z2 := congrArg Int.natAbs z
  rw [Core.natAbs_signed, Core.natAbs_signed] at z2
  have hqm : Core.b64.qmin = -1074 := by decide
  obtain ⟨e0, he⟩ : ∃ e0 : Int, e0 = min q (-1074) := ⟨_, rfl⟩
  have e1 : e0 ≤ q := by omega
  have e2 : e0 ≤ Core.b64.qmin := by omega
  have hD : Core.inUnits c2 q2 e0 = Core.inUnits c1 q1 e0 := by
    rw [Core.inUnits_move c1 (q := q1) (e := e0) (r := min q1 q2) (by omega) (by omega), Core.inUnits_move c2 (q := q2) (e := e0) (r := min q1 q2) (by omega) (by omega)]
    unfold Core.inUnits at z2 ⊢
    rw [z2]
  have x1 := own_one hx hv e2
  obtain ⟨A, hA⟩ : ∃ A : Nat, a.toInt = (A : Int) := ⟨a.toInt.toNat, by omega⟩
  have hn : a.toInt.natAbs = A := by omega
  have hm : b.toInt.natAbs = A + 1 := by omega
  rw [hn] at p1
  rw [hm] at p2
  have hp : (2 : Nat) ^ Core.b64.p = 9007199254740992 := by decide
  have ht : Core.b64.tails = 4503599627370496 := by decide
  have pu := Nat.two_pow_pos (q1 - e0).toNat
  have pP := Nat.two_pow_pos (-e0).toNat
  have k1 := Core.roundRatio_nearest Core.good_b64 (c' := c1 / 2 + 1) (q' := q1 + 1) (e0 := e0) (show 0 < A by omega) p1.symm (by omega) (by omega) e2 e1
  have k2 := Core.roundRatio_nearest Core.good_b64 (c' := c1 - 1) (q' := q1) (e0 := e0) (show 0 < A + 1 by omega) p2.symm (by omega) (by omega) e2 e1
  unfold Core.distance at k1 k2
  rw [hD] at k2
  have u2 : 2 ^ (q1 + 1 - e0).toNat = 2 * 2 ^ (q1 - e0).toNat := by
    rw [show (q1 + 1 - e0).toNat = (q1 - e0).toNat + 1 by omega, Nat.pow_succ, Nat.mul_comm]
  have v1 : Core.inUnits (c1 / 2 + 1) (q1 + 1) e0 = (c1 / 2 + 1) * (2 * 2 ^ (q1 - e0).toNat) := by
    unfold Core.inUnits
    rw [u2]
  rw [v1] at k1
  have c0 : 1 ≤ c1 := by
    rcases Nat.eq_zero_or_pos c1 with c0 | c0
    · exfalso
      subst c0
      have j1 : Core.inUnits 0 q1 e0 = 0 := Nat.zero_mul _
      rw [j1] at k1
      have : (2 : Nat) ^ (-e0).toNat = 2 ^ 1074 * 2 ^ (-1074 - e0).toNat := by
        rw [← Nat.pow_add]
        congr 1
        omega
      have j2 : q1 = -1074 := by
        rcases t4 with t4 | t4
        · omega
        · omega
      subst j2
      rw [this] at x1
      generalize (2 : Nat) ^ (-1074 - e0).toNat = u at *
      rw [show (0 / 2 + 1) * (2 * u) = 2 * u by omega, ← Int.natCast_mul, ← Int.natCast_mul, Nat.zero_mul] at k1
      have j3 : 2 * u * A ≤ 2 * u * 65537 := Nat.mul_le_mul_left _ (by omega)
      have j6 : 0 < 2 * u * A := Nat.mul_pos (by omega) (by omega)
      generalize 2 * u * A = w at *
      generalize Core.inUnits c q e0 = X at *
      have j4 : 200000 * 65537 * u < 2 ^ 1074 * u := Nat.mul_lt_mul_of_pos_right own_big pu
      generalize 2 ^ 1074 * u = Y at *
      omega
    · exact c0
  obtain ⟨m1, m2⟩ := own_core (X := Core.inUnits c q e0) (c := c1) (u := 2 ^ (q1 - e0).toNat) (A := A) c0 pu (by omega) k1 k2
  have j2 : q1 = -1074 := by
    rcases t4 with t4 | t4
    · omega
    · omega
  subst j2
  have this : (2 : Nat) ^ (-e0).toNat = 2 ^ 1074 * 2 ^ (-1074 - e0).toNat := by
    rw [← Nat.pow_add]
    congr 1
    omega
  rw [this] at x1
  have j3 : (c1 + 1) * (2 ^ (-1074 - e0).toNat * A) ≤ 200000 * (2 ^ (-1074 - e0).toNat * 65537) := Nat.mul_le_mul (by omega) (Nat.mul_le_mul_left _ (by omega))
  have j4 : 200000 * 65537 * 2 ^ (-1074 - e0).toNat < 2 ^ 1074 * 2 ^ (-1074 - e0).toNat := Nat.mul_lt_mul_of_pos_right own_big pu
  have j5 : 200000 * (2 ^ (-1074 - e0).toNat * 65537) = 200000 * 65537 * 2 ^ (-1074 - e0).toNat := by
    rw [Nat.mul_comm (2 ^ (-1074 - e0).toNat) 65537, Nat.mul_assoc]
  exact absurd (Nat.lt_of_lt_of_le j4 (Nat.le_trans x1 (Nat.le_trans m2 (Nat.le_trans j3 (Nat.le_of_eq j5))))) (Nat.lt_irrefl _)
theorem own_cmp {v : Int64} (hv : v.toInt ≠ 0) (x : Int32) : ¬ (cmpValue (FP.dcmp (FP.ddiv (FP.l2d v) (FP.l2d (((1 : Int32) + (x &&& (65535 : Int32))).toInt64))) (FP.ddiv (FP.l2d v) (FP.l2d (((1 : Int32) + ((x &&& (65535 : Int32)) + (1 : Int32))).toInt64)))) .l = (0 : Int32)) := by
  obtain ⟨h1, h2, h3⟩ := own_u x
  have h := own_ne hv h1 (by omega) h3
  intro k
  revert h k
  show Core.dcmp _ _ ≠ some .eq → cmpValue (Core.dcmp _ _) .l = 0 → False
  generalize Core.dcmp _ _ = z
  intro h k
  cases z with
  | none => exact absurd k (by decide)
  | some y =>
    cases y with
    | lt => exact absurd k (by decide)
    | eq => exact h rfl
    | gt => exact absurd k (by decide)
def f1 (p0 : Int32) (aNONE : Addr) (aVOLUME : Addr) (aNEIGHBOURS : Addr) (aBOTH : Addr) : Addr := (if (p0 &&& (3 : Int32)) = (0 : Int32) then aNONE else (if (p0 &&& (3 : Int32)) = (1 : Int32) then aVOLUME else (if (p0 &&& (3 : Int32)) = (2 : Int32) then aNEIGHBOURS else aBOTH)))
theorem d1_0 : decode method_2_code 0 = .ok (.iload_n 0, 1) := by decide +kernel
theorem d1_1 : decode method_2_code 1 = .ok (.iconst 3, 1) := by decide +kernel
theorem d1_2 : decode method_2_code 2 = .ok (.iand, 1) := by decide +kernel
theorem d1_3 : decode method_2_code 3 = .ok (.istore_n 1, 1) := by decide +kernel
theorem d1_4 : decode method_2_code 4 = .ok (.iload_n 1, 1) := by decide +kernel
theorem d1_5 : decode method_2_code 5 = .ok (.ifCond .ne 7, 3) := by decide +kernel
theorem d1_8 : decode method_2_code 8 = .ok (.getstatic 7, 3) := by decide +kernel
theorem d1_11 : decode method_2_code 11 = .ok (.areturn, 1) := by decide +kernel
theorem d1_12 : decode method_2_code 12 = .ok (.iload_n 1, 1) := by decide +kernel
theorem d1_13 : decode method_2_code 13 = .ok (.iconst 1, 1) := by decide +kernel
theorem d1_14 : decode method_2_code 14 = .ok (.if_icmp .ne 7, 3) := by decide +kernel
theorem d1_17 : decode method_2_code 17 = .ok (.getstatic 13, 3) := by decide +kernel
theorem d1_20 : decode method_2_code 20 = .ok (.areturn, 1) := by decide +kernel
theorem d1_21 : decode method_2_code 21 = .ok (.iload_n 1, 1) := by decide +kernel
theorem d1_22 : decode method_2_code 22 = .ok (.iconst 2, 1) := by decide +kernel
theorem d1_23 : decode method_2_code 23 = .ok (.if_icmp .ne 7, 3) := by decide +kernel
theorem d1_26 : decode method_2_code 26 = .ok (.getstatic 16, 3) := by decide +kernel
theorem d1_29 : decode method_2_code 29 = .ok (.areturn, 1) := by decide +kernel
theorem d1_30 : decode method_2_code 30 = .ok (.getstatic 19, 3) := by decide +kernel
theorem d1_33 : decode method_2_code 33 = .ok (.areturn, 1) := by decide +kernel
theorem pn_1 : plainName "com/example/coupewise/coupewise/BiasCountsNeighboursPinLaw" = true := by first | (simp [plainName, overriddenIn]; done) | decide +kernel
theorem ef_rm1 (m : MethodId) (q0 : Int32) : entryFrame m #[(.int q0)] 2 = mkF m 0 #[oI q0, .unset] [] := by first | (simp [entryFrame, mkF, argsToLocals, Value.category]; done) | rfl
def Q1 (Z : State) (p0 : Int32) (aNONE : Addr) (aVOLUME : Addr) (aNEIGHBOURS : Addr) (aBOTH : Addr) (r : Addr) (h0 : Heap) (n0 : Nat) (v : Option Value) (h : Heap) (L : List Loc) : Prop := v = some (.ref r) ∧ Fr n0 L ∧ h = h0
set_option maxRecDepth 65536 in
set_option maxHeartbeats 40000000 in
theorem rm1 (l : Launch) (Z : State) (a0 : Array Value) (hw : ∀ d ∈ tables_1, d.before a0 Z = true) (ws : List Jvm.Cond) (p0 : Int32) (aNONE : Addr) (aVOLUME : Addr) (aNEIGHBOURS : Addr) (aBOTH : Addr) (r : Addr) (h0 : Heap) (n0 : Nat) (Z0 : n0 ≤ h0.size) (S_aNONE : Sta Z h0 "com/example/coupewise/coupewise/Bias" "NONE" "Lcom/example/coupewise/coupewise/Bias;" (.ref aNONE)) (S_aVOLUME : Sta Z h0 "com/example/coupewise/coupewise/Bias" "VOLUME" "Lcom/example/coupewise/coupewise/Bias;" (.ref aVOLUME)) (S_aNEIGHBOURS : Sta Z h0 "com/example/coupewise/coupewise/Bias" "NEIGHBOURS" "Lcom/example/coupewise/coupewise/Bias;" (.ref aNEIGHBOURS)) (S_aBOTH : Sta Z h0 "com/example/coupewise/coupewise/Bias" "BOTH" "Lcom/example/coupewise/coupewise/Bias;" (.ref aBOTH)) (hr0 : (f1 p0 aNONE aVOLUME aNEIGHBOURS aBOTH) = r) :
    MetFree l (⟨"com/example/coupewise/coupewise/BiasCountsNeighboursPinLaw", "pick", "(I)Lcom/example/coupewise/coupewise/Bias;"⟩ : MethodName) (head1 (Jvm.Cond.code (⟨"com/example/coupewise/coupewise/BiasCountsNeighboursPinLaw", "pick", "(I)Lcom/example/coupewise/coupewise/Bias;"⟩ : MethodName) method_2_code 2 (some (.object "com/example/coupewise/coupewise/Bias")) :: ws) ({ frames := 0, cells := 0, slots := 0, locals := 0 } : Room)) (fun a U => a = #[(.int p0)] ∧ Z.Warmed39 U.vm ∧ U.heap = h0) (fun _ _ _ _ _ => True) (fun _ U o U' => ∃ v L, o = .returned v ∧ Q1 Z p0 aNONE aVOLUME aNEIGHBOURS aBOTH r h0 n0 v U'.heap L ∧ FrameEnd U o U' L ({ frames := 0, cells := 0, slots := 0, locals := 0 } : Room).cells ({ frames := 0, cells := 0, slots := 0, locals := 0 } : Room).slots) := by
  refine MetFree.of_bodySF (plainFor_of_name pn_1) hisR ?_
  intro p e s m args below meth c s₁ Bd hml0 hP hK
  obtain ⟨rfl, hZ, hh⟩ := hP
  have hx := Bd.exec
  have hby := Bd.bytes
  have hml : c.maxLocals = 2 := hml0
  have hown : s.vm.findClass "com/example/coupewise/coupewise/BiasCountsNeighboursPinLaw" = some m.cls := findClass_of_methodNamed Bd.named
  have hnm := (name_of_methodNamed Bd.named Bd.method).1
  have X0 : Stand p l e ({ frames := 0, cells := 0, slots := 0, locals := 0 } : Room) s m #[(.int p0)] below meth c s₁ [] 0 0 := Stand.of_body Bd
  have e0 : s₁.heap = h0 := by rw [← hh, Bd.state]; rfl
  have N0 := Fr.nil n0
  refine own_start ?_
  refine own_via (fun t k => castTop (ef_rm1 m p0) k) ?_
  show own_Go p e below _ (s₁.setTop (mkF m 0 #[oI p0, .unset] []))
  refine own_via (fun t kz => XS.iloadN X0.here hx rfl (hb hby d1_0) rfl kz) ?_
  show own_Go p e below _ (s₁.setTop (mkF m 1 #[oI p0, .unset] [(.int p0)]))
  refine own_via (fun t kz => XS.iconst X0.here hx rfl (hb hby d1_1) kz) ?_
  show own_Go p e below _ (s₁.setTop (mkF m 2 #[oI p0, .unset] [(.int (3 : Int32)), (.int p0)]))
  refine own_via (fun t kz => XS.iand X0.here hx rfl (hb hby d1_2) rfl kz) ?_
  show own_Go p e below _ (s₁.setTop (mkF m 3 #[oI p0, .unset] [(.int (p0 &&& (3 : Int32)))]))
  refine own_via (fun t kz => XS.istoreN X0.here hx rfl (hb hby d1_3) rfl (l' := #[oI p0, oI (p0 &&& (3 : Int32))]) rfl kz) ?_
  show own_Go p e below _ (s₁.setTop (mkF m 4 #[oI p0, oI (p0 &&& (3 : Int32))] []))
  refine own_via (fun t kz => XS.iloadN X0.here hx rfl (hb hby d1_4) rfl kz) ?_
  show own_Go p e below _ (s₁.setTop (mkF m 5 #[oI p0, oI (p0 &&& (3 : Int32))] [(.int (p0 &&& (3 : Int32)))]))
  by_cases hc5_1 : (p0 &&& (3 : Int32)) = (0 : Int32)
  · refine own_via (fun t kz => XS.ifNo X0.here hx rfl (hb hby d1_5) rfl ((if0 _ _).trans (teq hc5_1).2) kz) ?_
    show own_Go p e below _ (s₁.setTop (mkF m 8 #[oI p0, oI (p0 &&& (3 : Int32))] []))
    obtain ⟨T2, X2, e2, st2⟩ := getS2 X0 hx hZ hown (host := "") (Or.inl (own_w hw 4)) Via.refl e0 S_aNONE (g := (mkF m 8 #[oI p0, oI (p0 &&& (3 : Int32))] [])) rfl (hb hby d1_8)
    refine own_via st2 ?_
    show own_Go p e below _ (T2.setTop (mkF m 11 #[oI p0, oI (p0 &&& (3 : Int32))] [(.ref aNONE)]))
    have hv : (f1 p0 aNONE aVOLUME aNEIGHBOURS aBOTH) = aNONE := by unfold f1; rw [if_pos hc5_1]
    obtain ⟨fs, hr, hrun, hended, hW, hsame⟩ := X2.leave (v := some (.ref aNONE)) (fun h => by rw [Bd.returns] at h; cases h)
    refine ⟨_, _, retOut X2 hx (i := .areturn) Bd.returns rfl (Or.inr (Or.inr (Or.inr (Or.inr ⟨rfl, rfl, rfl⟩)))) (hb hby d1_11) hr, hrun, hended, _, _, rfl, ?_, ⟨_, rfl⟩, hW, hsame.mono (by decide) (by decide)⟩
    show Q1 Z p0 aNONE aVOLUME aNEIGHBOURS aBOTH r h0 n0 _ T2.heap _
    rw [e2]
    exact ⟨by rw [← hr0, hv], N0, rfl⟩
  · refine own_via (fun t kz => XS.ifYes X0.here hx rfl (pc0 := 5) (pc' := 12) rfl (hb hby d1_5) rfl ((if0 _ _).trans (feq hc5_1).2) (by decide) (by decide) kz) ?_
    show own_Go p e below _ (s₁.setTop (mkF m 12 #[oI p0, oI (p0 &&& (3 : Int32))] []))
    refine own_via (fun t kz => XS.iloadN X0.here hx rfl (hb hby d1_12) rfl kz) ?_
    show own_Go p e below _ (s₁.setTop (mkF m 13 #[oI p0, oI (p0 &&& (3 : Int32))] [(.int (p0 &&& (3 : Int32)))]))
    refine own_via (fun t kz => XS.iconst X0.here hx rfl (hb hby d1_13) kz) ?_
    show own_Go p e below _ (s₁.setTop (mkF m 14 #[oI p0, oI (p0 &&& (3 : Int32))] [(.int (1 : Int32)), (.int (p0 &&& (3 : Int32)))]))
    by_cases hc14_4 : (p0 &&& (3 : Int32)) = (1 : Int32)
    · refine own_via (fun t kz => XS.icmpNo X0.here hx rfl (hb hby d1_14) rfl (teq hc14_4).2 kz) ?_
      show own_Go p e below _ (s₁.setTop (mkF m 17 #[oI p0, oI (p0 &&& (3 : Int32))] []))
      obtain ⟨T5, X5, e5, st5⟩ := getS2 X0 hx hZ hown (host := "") (Or.inl (own_w hw 33)) Via.refl e0 S_aVOLUME (g := (mkF m 17 #[oI p0, oI (p0 &&& (3 : Int32))] [])) rfl (hb hby d1_17)
      refine own_via st5 ?_
      show own_Go p e below _ (T5.setTop (mkF m 20 #[oI p0, oI (p0 &&& (3 : Int32))] [(.ref aVOLUME)]))
      have hv : (f1 p0 aNONE aVOLUME aNEIGHBOURS aBOTH) = aVOLUME := by unfold f1; rw [if_neg hc5_1, if_pos hc14_4]
      obtain ⟨fs, hr, hrun, hended, hW, hsame⟩ := X5.leave (v := some (.ref aVOLUME)) (fun h => by rw [Bd.returns] at h; cases h)
      refine ⟨_, _, retOut X5 hx (i := .areturn) Bd.returns rfl (Or.inr (Or.inr (Or.inr (Or.inr ⟨rfl, rfl, rfl⟩)))) (hb hby d1_20) hr, hrun, hended, _, _, rfl, ?_, ⟨_, rfl⟩, hW, hsame.mono (by decide) (by decide)⟩
      show Q1 Z p0 aNONE aVOLUME aNEIGHBOURS aBOTH r h0 n0 _ T5.heap _
      rw [e5]
      exact ⟨by rw [← hr0, hv], N0, rfl⟩
    · refine own_via (fun t kz => XS.icmpYes X0.here hx rfl (pc0 := 14) (pc' := 21) rfl (hb hby d1_14) rfl (feq hc14_4).2 (by decide) (by decide) kz) ?_
      show own_Go p e below _ (s₁.setTop (mkF m 21 #[oI p0, oI (p0 &&& (3 : Int32))] []))
      refine own_via (fun t kz => XS.iloadN X0.here hx rfl (hb hby d1_21) rfl kz) ?_
      show own_Go p e below _ (s₁.setTop (mkF m 22 #[oI p0, oI (p0 &&& (3 : Int32))] [(.int (p0 &&& (3 : Int32)))]))
      refine own_via (fun t kz => XS.iconst X0.here hx rfl (hb hby d1_22) kz) ?_
      show own_Go p e below _ (s₁.setTop (mkF m 23 #[oI p0, oI (p0 &&& (3 : Int32))] [(.int (2 : Int32)), (.int (p0 &&& (3 : Int32)))]))
      by_cases hc23_7 : (p0 &&& (3 : Int32)) = (2 : Int32)
      · refine own_via (fun t kz => XS.icmpNo X0.here hx rfl (hb hby d1_23) rfl (teq hc23_7).2 kz) ?_
        show own_Go p e below _ (s₁.setTop (mkF m 26 #[oI p0, oI (p0 &&& (3 : Int32))] []))
        obtain ⟨T8, X8, e8, st8⟩ := getS2 X0 hx hZ hown (host := "") (Or.inl (own_w hw 32)) Via.refl e0 S_aNEIGHBOURS (g := (mkF m 26 #[oI p0, oI (p0 &&& (3 : Int32))] [])) rfl (hb hby d1_26)
        refine own_via st8 ?_
        show own_Go p e below _ (T8.setTop (mkF m 29 #[oI p0, oI (p0 &&& (3 : Int32))] [(.ref aNEIGHBOURS)]))
        have hv : (f1 p0 aNONE aVOLUME aNEIGHBOURS aBOTH) = aNEIGHBOURS := by unfold f1; rw [if_neg hc5_1, if_neg hc14_4, if_pos hc23_7]
        obtain ⟨fs, hr, hrun, hended, hW, hsame⟩ := X8.leave (v := some (.ref aNEIGHBOURS)) (fun h => by rw [Bd.returns] at h; cases h)
        refine ⟨_, _, retOut X8 hx (i := .areturn) Bd.returns rfl (Or.inr (Or.inr (Or.inr (Or.inr ⟨rfl, rfl, rfl⟩)))) (hb hby d1_29) hr, hrun, hended, _, _, rfl, ?_, ⟨_, rfl⟩, hW, hsame.mono (by decide) (by decide)⟩
        show Q1 Z p0 aNONE aVOLUME aNEIGHBOURS aBOTH r h0 n0 _ T8.heap _
        rw [e8]
        exact ⟨by rw [← hr0, hv], N0, rfl⟩
      · refine own_via (fun t kz => XS.icmpYes X0.here hx rfl (pc0 := 23) (pc' := 30) rfl (hb hby d1_23) rfl (feq hc23_7).2 (by decide) (by decide) kz) ?_
        show own_Go p e below _ (s₁.setTop (mkF m 30 #[oI p0, oI (p0 &&& (3 : Int32))] []))
        obtain ⟨T10, X10, e10, st10⟩ := getS2 X0 hx hZ hown (host := "") (Or.inl (own_w hw 31)) Via.refl e0 S_aBOTH (g := (mkF m 30 #[oI p0, oI (p0 &&& (3 : Int32))] [])) rfl (hb hby d1_30)
        refine own_via st10 ?_
        show own_Go p e below _ (T10.setTop (mkF m 33 #[oI p0, oI (p0 &&& (3 : Int32))] [(.ref aBOTH)]))
        have hv : (f1 p0 aNONE aVOLUME aNEIGHBOURS aBOTH) = aBOTH := by unfold f1; rw [if_neg hc5_1, if_neg hc14_4, if_neg hc23_7]
        obtain ⟨fs, hr, hrun, hended, hW, hsame⟩ := X10.leave (v := some (.ref aBOTH)) (fun h => by rw [Bd.returns] at h; cases h)
        refine ⟨_, _, retOut X10 hx (i := .areturn) Bd.returns rfl (Or.inr (Or.inr (Or.inr (Or.inr ⟨rfl, rfl, rfl⟩)))) (hb hby d1_33) hr, hrun, hended, _, _, rfl, ?_, ⟨_, rfl⟩, hW, hsame.mono (by decide) (by decide)⟩
        show Q1 Z p0 aNONE aVOLUME aNEIGHBOURS aBOTH r h0 n0 _ T10.heap _
        rw [e10]
        exact ⟨by rw [← hr0, hv], N0, rfl⟩
def f3 (wo : Int32) : Int32 := wo
theorem d3_0 : decode jdk_37_method_2_code 0 = .ok (.aload_n 0, 1) := by decide +kernel
theorem d3_1 : decode jdk_37_method_2_code 1 = .ok (.getfield 7, 3) := by decide +kernel
theorem d3_4 : decode jdk_37_method_2_code 4 = .ok (.ireturn, 1) := by decide +kernel
theorem pn_3 : plainName "java/lang/Enum" = true := by first | (simp [plainName, overriddenIn]; done) | decide +kernel
theorem ef_rm3 (m : MethodId) (q0 : Addr) : entryFrame m #[(.ref q0)] 1 = mkF m 0 #[oR q0] [] := by first | (simp [entryFrame, mkF, argsToLocals, Value.category]; done) | rfl
def Q3 (Z : State) (this : Addr) (wo : Int32) (r : Int32) (h0 : Heap) (n0 : Nat) (v : Option Value) (h : Heap) (L : List Loc) : Prop := v = some (.int r) ∧ Fr n0 L ∧ h = h0
set_option maxRecDepth 65536 in
set_option maxHeartbeats 40000000 in
theorem rm3 (l : Launch) (Z : State) (a0 : Array Value) (hw : ∀ d ∈ tables_1, d.before a0 Z = true) (ws : List Jvm.Cond) (this : Addr) (wo : Int32) (r : Int32) (h0 : Heap) (n0 : Nat) (Z0 : n0 ≤ h0.size) (F_wo : Fld Z h0 this "java/lang/Enum" "ordinal" "I" (.int wo)) (hr0 : (f3 wo) = r) :
    MetFree l (⟨"java/lang/Enum", "ordinal", "()I"⟩ : MethodName) (head1 (Jvm.Cond.code (⟨"java/lang/Enum", "ordinal", "()I"⟩ : MethodName) jdk_37_method_2_code 1 (some .int) :: ws) ({ frames := 0, cells := 0, slots := 0, locals := 0 } : Room)) (fun a U => a = #[(.ref this)] ∧ Z.Warmed39 U.vm ∧ U.heap = h0) (fun _ _ _ _ _ => True) (fun _ U o U' => ∃ v L, o = .returned v ∧ Q3 Z this wo r h0 n0 v U'.heap L ∧ FrameEnd U o U' L ({ frames := 0, cells := 0, slots := 0, locals := 0 } : Room).cells ({ frames := 0, cells := 0, slots := 0, locals := 0 } : Room).slots) := by
  refine MetFree.of_bodySF (plainFor_of_name pn_3) hisR ?_
  intro p e s m args below meth c s₁ Bd hml0 hP hK
  obtain ⟨rfl, hZ, hh⟩ := hP
  have hx := Bd.exec
  have hby := Bd.bytes
  have hml : c.maxLocals = 1 := hml0
  have hown : s.vm.findClass "java/lang/Enum" = some m.cls := findClass_of_methodNamed Bd.named
  have hnm := (name_of_methodNamed Bd.named Bd.method).1
  have X0 : Stand p l e ({ frames := 0, cells := 0, slots := 0, locals := 0 } : Room) s m #[(.ref this)] below meth c s₁ [] 0 0 := Stand.of_body Bd
  have e0 : s₁.heap = h0 := by rw [← hh, Bd.state]; rfl
  have N0 := Fr.nil n0
  refine own_start ?_
  refine own_via (fun t k => castTop (ef_rm3 m this) k) ?_
  show own_Go p e below _ (s₁.setTop (mkF m 0 #[oR this] []))
  refine own_via (fun t kz => XS.aloadN X0.here hx rfl (hb hby d3_0) rfl rfl kz) ?_
  show own_Go p e below _ (s₁.setTop (mkF m 1 #[oR this] [(.ref this)]))
  obtain ⟨T1, X1, e1, st1⟩ := getF X0 hx hZ hown (host := "") (Or.inl (own_w hw 20)) Via.refl e0 F_wo (g := (mkF m 1 #[oR this] [(.ref this)])) rfl rfl (hb hby d3_1)
  refine own_via st1 ?_
  show own_Go p e below _ (T1.setTop (mkF m 4 #[oR this] [(.int wo)]))
  have hv : (f3 wo) = wo := by unfold f3; rfl
  obtain ⟨fs, hr, hrun, hended, hW, hsame⟩ := X1.leave (v := some (.int wo)) (fun h => by rw [Bd.returns] at h; cases h)
  refine ⟨_, _, retI X1 hx Bd.returns (hb hby d3_4) hr, hrun, hended, _, _, rfl, ?_, ⟨_, rfl⟩, hW, hsame.mono (by decide) (by decide)⟩
  show Q3 Z this wo r h0 n0 _ T1.heap _
  rw [e1]
  exact ⟨by rw [← hr0, hv], N0, rfl⟩
def f2_0  : UInt64 := (FP.l2d (1 : Int64))
theorem d2_0 : decode prog_1_method_4_code 0 = .ok (.aload_n 0, 1) := by decide +kernel
theorem d2_1 : decode prog_1_method_4_code 1 = .ok (.invokevirtual 35, 3) := by decide +kernel
theorem d2_4 : decode prog_1_method_4_code 4 = .ok (.tableswitch 32 0 3 #[42, 46, 51, 60], 32) := by decide +kernel
theorem d2_46 : decode prog_1_method_4_code 46 = .ok (.dconst 1, 1) := by decide +kernel
theorem d2_47 : decode prog_1_method_4_code 47 = .ok (.goto 24, 3) := by decide +kernel
theorem d2_71 : decode prog_1_method_4_code 71 = .ok (.dreturn, 1) := by decide +kernel
theorem pn_2 : plainName "com/example/coupewise/coupewise/Bias" = true := by first | (simp [plainName, overriddenIn]; done) | decide +kernel
theorem pd_2_0 : parseMethodDescriptor "()I" = some ⟨[], some .int⟩ := by decide +kernel
theorem ef_rm2_0 (m : MethodId) (q0 : Addr) (q1 : Int64) (q2 : Int32) : entryFrame m #[(.ref q0), (.long q1), (.int q2)] 4 = mkF m 0 #[oR q0, oJ q1, .second, oI q2] [] := by first | (simp [entryFrame, mkF, argsToLocals, Value.category]; done) | rfl
def Q2_0 (Z : State) (this : Addr) (p1 : Int64) (p2 : Int32) (r : UInt64) (h0 : Heap) (n0 : Nat) (v : Option Value) (h : Heap) (L : List Loc) : Prop := v = some (.double r) ∧ Fr n0 L ∧ h = h0
set_option maxRecDepth 65536 in
set_option maxHeartbeats 40000000 in
theorem rm2_0 (l : Launch) (Z : State) (a0 : Array Value) (hw : ∀ d ∈ tables_1, d.before a0 Z = true) (ws : List Jvm.Cond) (this : Addr) (p1 : Int64) (p2 : Int32) (r : UInt64) (h0 : Heap) (n0 : Nat) (Z0 : n0 ≤ h0.size) (E_t : Exa Z h0 this "com/example/coupewise/coupewise/Bias") (F_o : Fld Z h0 this "java/lang/Enum" "ordinal" "I" (.int (0 : Int32))) (hr0 : f2_0 = r) :
    MetFree l (⟨"com/example/coupewise/coupewise/Bias", "weight", "(JI)D"⟩ : MethodName) (head1 (Jvm.Cond.code (⟨"com/example/coupewise/coupewise/Bias", "weight", "(JI)D"⟩ : MethodName) prog_1_method_4_code 4 (some .double) :: ws) ({ frames := 1, cells := 0, slots := 0, locals := 12 } : Room)) (fun a U => a = #[(.ref this), (.long p1), (.int p2)] ∧ Z.Warmed39 U.vm ∧ U.heap = h0) (fun _ _ _ _ _ => True) (fun _ U o U' => ∃ v L, o = .returned v ∧ Q2_0 Z this p1 p2 r h0 n0 v U'.heap L ∧ FrameEnd U o U' L ({ frames := 1, cells := 0, slots := 0, locals := 12 } : Room).cells ({ frames := 1, cells := 0, slots := 0, locals := 12 } : Room).slots) := by
  refine MetFree.of_bodySF (plainFor_of_name pn_2) hisR ?_
  intro p e s m args below meth c s₁ Bd hml0 hP hK
  obtain ⟨rfl, hZ, hh⟩ := hP
  have hx := Bd.exec
  have hby := Bd.bytes
  have hml : c.maxLocals = 4 := hml0
  have hown : s.vm.findClass "com/example/coupewise/coupewise/Bias" = some m.cls := findClass_of_methodNamed Bd.named
  have hnm := (name_of_methodNamed Bd.named Bd.method).1
  have X0 : Stand p l e ({ frames := 1, cells := 0, slots := 0, locals := 12 } : Room) s m #[(.ref this), (.long p1), (.int p2)] below meth c s₁ [] 0 0 := Stand.of_body Bd
  have e0 : s₁.heap = h0 := by rw [← hh, Bd.state]; rfl
  have N0 := Fr.nil n0
  refine own_start ?_
  refine own_via (fun t k => castTop (ef_rm2_0 m this p1 p2) k) ?_
  show own_Go p e below _ (s₁.setTop (mkF m 0 #[oR this, oJ p1, .second, oI p2] []))
  refine own_via (fun t kz => XS.aloadN X0.here hx rfl (hb hby d2_0) rfl rfl kz) ?_
  show own_Go p e below _ (s₁.setTop (mkF m 1 #[oR this, oJ p1, .second, oI p2] [(.ref this)]))
  obtain ⟨cq1, kq1, qa1, qb1, qc1⟩ := isOf hZ e0 E_t
  obtain ⟨_, _, ⟨T1, L1, k1, n1⟩, -, X1, ⟨Lc1, hQ1, l1, y1, z1⟩, st1⟩ := X0.virtualBackUp hx (owner := "java/lang/Enum") (x := (⟨"com/example/coupewise/coupewise/Bias", "ordinal", "()I"⟩ : MethodName)) (y := (⟨"java/lang/Enum", "ordinal", "()I"⟩ : MethodName)) hown (mvT hZ (own_w hw 13)) (mvT hZ (own_w hw 14)) (mvT hZ (own_w hw 15)) (by decide) (mvT hZ (own_w hw 17)) (mvT hZ (own_w hw 16)) (backOf (W := 0) (rm3 l Z a0 hw [] this (0 : Int32) (0 : Int32) h0 n0 Z0 F_o (by unfold f3; rfl)) hZ (own_w hw 19) (own_w hw 18) (by decide) (by decide)) qa1 qc1 (g := (mkF m 1 #[oR this, oJ p1, .second, oI p2] [(.ref this)])) rfl (by rw [hml]; rfl) (Steps.refl _) (argsL := []) (rest := []) (lenOf pd_2_0 rfl) rfl (by show 2 * 0 + _ ≤ _; exact Nat.le_of_eq rfl) (hb hby d2_1) (fun _ _ => ⟨rfl, e0, (by decide : 0 + 0 ≤ _), (by decide : 0 + 0 ≤ _)⟩)
  dsimp only [Pt.U, Pt.locs, Pt.cells, Pt.slots] at X1 l1 y1 z1 st1 hQ1
  subst l1 y1 z1
  obtain ⟨rfl, Nq1, e1⟩ := hQ1
  have N2 := Fr.app N0 Nq1
  refine own_tr st1 ?_
  show own_Go p e below _ (T1.setTop (mkF m 4 #[oR this, oJ p1, .second, oI p2] [(.int (0 : Int32))]))
  refine own_via (fun t kz => XS.tswIn X1.here hx rfl (o := 42) (pc0 := 4) (pc' := 46) rfl (hb hby d2_4) (i := (0 : Int32)) rfl (by decide) rfl (by decide) (by decide) kz) ?_
  show own_Go p e below _ (T1.setTop (mkF m 46 #[oR this, oJ p1, .second, oI p2] []))
  refine own_via (fun t kz => XS.dconst1 X1.here hx rfl (hb hby d2_46) (v := (FP.l2d (1 : Int64))) own_dconst1 kz) ?_
  show own_Go p e below _ (T1.setTop (mkF m 47 #[oR this, oJ p1, .second, oI p2] [(.double (FP.l2d (1 : Int64)))]))
  refine own_via (fun t kz => XS.goto X1.here hx rfl (pc0 := 47) (pc' := 71) rfl (hb hby d2_47) (by decide) (by decide) kz) ?_
  show own_Go p e below _ (T1.setTop (mkF m 71 #[oR this, oJ p1, .second, oI p2] [(.double (FP.l2d (1 : Int64)))]))
  have hv : f2_0 = (FP.l2d (1 : Int64)) := by unfold f2_0; rfl
  obtain ⟨fs, hr, hrun, hended, hW, hsame⟩ := X1.leave (v := some (.double (FP.l2d (1 : Int64)))) (fun h => by rw [Bd.returns] at h; cases h)
  refine ⟨_, _, retOut X1 hx (i := .dreturn) Bd.returns rfl (Or.inr (Or.inr (Or.inl ⟨rfl, rfl, _, rfl⟩))) (hb hby d2_71) hr, hrun, hended, _, _, rfl, ?_, ⟨_, rfl⟩, hW, hsame.mono (by decide) (by decide)⟩
  show Q2_0 Z this p1 p2 r h0 n0 _ T1.heap _
  rw [e1]
  exact ⟨by rw [← hr0, hv], N2, rfl⟩
def f2_1 (p1 : Int64) : UInt64 := (FP.l2d p1)
theorem d2_50 : decode prog_1_method_4_code 50 = .ok (.lload_n 1, 1) := by decide +kernel
theorem d2_51 : decode prog_1_method_4_code 51 = .ok (.l2d, 1) := by decide +kernel
theorem d2_52 : decode prog_1_method_4_code 52 = .ok (.goto 19, 3) := by decide +kernel
theorem ef_rm2_1 (m : MethodId) (q0 : Addr) (q1 : Int64) (q2 : Int32) : entryFrame m #[(.ref q0), (.long q1), (.int q2)] 4 = mkF m 0 #[oR q0, oJ q1, .second, oI q2] [] := by first | (simp [entryFrame, mkF, argsToLocals, Value.category]; done) | rfl
def Q2_1 (Z : State) (this : Addr) (p1 : Int64) (p2 : Int32) (r : UInt64) (h0 : Heap) (n0 : Nat) (v : Option Value) (h : Heap) (L : List Loc) : Prop := v = some (.double r) ∧ Fr n0 L ∧ h = h0
set_option maxRecDepth 65536 in
set_option maxHeartbeats 40000000 in
theorem rm2_1 (l : Launch) (Z : State) (a0 : Array Value) (hw : ∀ d ∈ tables_1, d.before a0 Z = true) (ws : List Jvm.Cond) (this : Addr) (p1 : Int64) (p2 : Int32) (r : UInt64) (h0 : Heap) (n0 : Nat) (Z0 : n0 ≤ h0.size) (E_t : Exa Z h0 this "com/example/coupewise/coupewise/Bias") (F_o : Fld Z h0 this "java/lang/Enum" "ordinal" "I" (.int (1 : Int32))) (hr0 : (f2_1 p1) = r) :
    MetFree l (⟨"com/example/coupewise/coupewise/Bias", "weight", "(JI)D"⟩ : MethodName) (head1 (Jvm.Cond.code (⟨"com/example/coupewise/coupewise/Bias", "weight", "(JI)D"⟩ : MethodName) prog_1_method_4_code 4 (some .double) :: ws) ({ frames := 1, cells := 0, slots := 0, locals := 12 } : Room)) (fun a U => a = #[(.ref this), (.long p1), (.int p2)] ∧ Z.Warmed39 U.vm ∧ U.heap = h0) (fun _ _ _ _ _ => True) (fun _ U o U' => ∃ v L, o = .returned v ∧ Q2_1 Z this p1 p2 r h0 n0 v U'.heap L ∧ FrameEnd U o U' L ({ frames := 1, cells := 0, slots := 0, locals := 12 } : Room).cells ({ frames := 1, cells := 0, slots := 0, locals := 12 } : Room).slots) := by
  refine MetFree.of_bodySF (plainFor_of_name pn_2) hisR ?_
  intro p e s m args below meth c s₁ Bd hml0 hP hK
  obtain ⟨rfl, hZ, hh⟩ := hP
  have hx := Bd.exec
  have hby := Bd.bytes
  have hml : c.maxLocals = 4 := hml0
  have hown : s.vm.findClass "com/example/coupewise/coupewise/Bias" = some m.cls := findClass_of_methodNamed Bd.named
  have hnm := (name_of_methodNamed Bd.named Bd.method).1
  have X0 : Stand p l e ({ frames := 1, cells := 0, slots := 0, locals := 12 } : Room) s m #[(.ref this), (.long p1), (.int p2)] below meth c s₁ [] 0 0 := Stand.of_body Bd
  have e0 : s₁.heap = h0 := by rw [← hh, Bd.state]; rfl
  have N0 := Fr.nil n0
  refine own_start ?_
  refine own_via (fun t k => castTop (ef_rm2_1 m this p1 p2) k) ?_
  show own_Go p e below _ (s₁.setTop (mkF m 0 #[oR this, oJ p1, .second, oI p2] []))
  refine own_via (fun t kz => XS.aloadN X0.here hx rfl (hb hby d2_0) rfl rfl kz) ?_
  show own_Go p e below _ (s₁.setTop (mkF m 1 #[oR this, oJ p1, .second, oI p2] [(.ref this)]))
  obtain ⟨cq1, kq1, qa1, qb1, qc1⟩ := isOf hZ e0 E_t
  obtain ⟨_, _, ⟨T1, L1, k1, n1⟩, -, X1, ⟨Lc1, hQ1, l1, y1, z1⟩, st1⟩ := X0.virtualBackUp hx (owner := "java/lang/Enum") (x := (⟨"com/example/coupewise/coupewise/Bias", "ordinal", "()I"⟩ : MethodName)) (y := (⟨"java/lang/Enum", "ordinal", "()I"⟩ : MethodName)) hown (mvT hZ (own_w hw 13)) (mvT hZ (own_w hw 14)) (mvT hZ (own_w hw 15)) (by decide) (mvT hZ (own_w hw 17)) (mvT hZ (own_w hw 16)) (backOf (W := 0) (rm3 l Z a0 hw [] this (1 : Int32) (1 : Int32) h0 n0 Z0 F_o (by unfold f3; rfl)) hZ (own_w hw 19) (own_w hw 18) (by decide) (by decide)) qa1 qc1 (g := (mkF m 1 #[oR this, oJ p1, .second, oI p2] [(.ref this)])) rfl (by rw [hml]; rfl) (Steps.refl _) (argsL := []) (rest := []) (lenOf pd_2_0 rfl) rfl (by show 2 * 0 + _ ≤ _; exact Nat.le_of_eq rfl) (hb hby d2_1) (fun _ _ => ⟨rfl, e0, (by decide : 0 + 0 ≤ _), (by decide : 0 + 0 ≤ _)⟩)
  dsimp only [Pt.U, Pt.locs, Pt.cells, Pt.slots] at X1 l1 y1 z1 st1 hQ1
  subst l1 y1 z1
  obtain ⟨rfl, Nq1, e1⟩ := hQ1
  have N2 := Fr.app N0 Nq1
  refine own_tr st1 ?_
  show own_Go p e below _ (T1.setTop (mkF m 4 #[oR this, oJ p1, .second, oI p2] [(.int (1 : Int32))]))
  refine own_via (fun t kz => XS.tswIn X1.here hx rfl (o := 46) (pc0 := 4) (pc' := 50) rfl (hb hby d2_4) (i := (1 : Int32)) rfl (by decide) rfl (by decide) (by decide) kz) ?_
  show own_Go p e below _ (T1.setTop (mkF m 50 #[oR this, oJ p1, .second, oI p2] []))
  refine own_via (fun t kz => XS.lloadN X1.here hx rfl (hb hby d2_50) rfl kz) ?_
  show own_Go p e below _ (T1.setTop (mkF m 51 #[oR this, oJ p1, .second, oI p2] [(.long p1)]))
  refine own_via (fun t kz => XS.l2dS X1.here hx rfl (hb hby d2_51) rfl rfl kz) ?_
  show own_Go p e below _ (T1.setTop (mkF m 52 #[oR this, oJ p1, .second, oI p2] [(.double (FP.l2d p1))]))
  refine own_via (fun t kz => XS.goto X1.here hx rfl (pc0 := 52) (pc' := 71) rfl (hb hby d2_52) (by decide) (by decide) kz) ?_
  show own_Go p e below _ (T1.setTop (mkF m 71 #[oR this, oJ p1, .second, oI p2] [(.double (FP.l2d p1))]))
  have hv : (f2_1 p1) = (FP.l2d p1) := by unfold f2_1; rfl
  obtain ⟨fs, hr, hrun, hended, hW, hsame⟩ := X1.leave (v := some (.double (FP.l2d p1))) (fun h => by rw [Bd.returns] at h; cases h)
  refine ⟨_, _, retOut X1 hx (i := .dreturn) Bd.returns rfl (Or.inr (Or.inr (Or.inl ⟨rfl, rfl, _, rfl⟩))) (hb hby d2_71) hr, hrun, hended, _, _, rfl, ?_, ⟨_, rfl⟩, hW, hsame.mono (by decide) (by decide)⟩
  show Q2_1 Z this p1 p2 r h0 n0 _ T1.heap _
  rw [e1]
  exact ⟨by rw [← hr0, hv], N2, rfl⟩
def f2_2 (p2 : Int32) : UInt64 := (FP.ddiv (FP.l2d (1 : Int64)) (FP.l2d (((1 : Int32) + p2).toInt64)))
theorem d2_55 : decode prog_1_method_4_code 55 = .ok (.dconst 1, 1) := by decide +kernel
theorem d2_56 : decode prog_1_method_4_code 56 = .ok (.iconst 1, 1) := by decide +kernel
theorem d2_57 : decode prog_1_method_4_code 57 = .ok (.iload_n 3, 1) := by decide +kernel
theorem d2_58 : decode prog_1_method_4_code 58 = .ok (.iadd, 1) := by decide +kernel
theorem d2_59 : decode prog_1_method_4_code 59 = .ok (.i2d, 1) := by decide +kernel
theorem d2_60 : decode prog_1_method_4_code 60 = .ok (.ddiv, 1) := by decide +kernel
theorem d2_61 : decode prog_1_method_4_code 61 = .ok (.goto 10, 3) := by decide +kernel
theorem ef_rm2_2 (m : MethodId) (q0 : Addr) (q1 : Int64) (q2 : Int32) : entryFrame m #[(.ref q0), (.long q1), (.int q2)] 4 = mkF m 0 #[oR q0, oJ q1, .second, oI q2] [] := by first | (simp [entryFrame, mkF, argsToLocals, Value.category]; done) | rfl
def Q2_2 (Z : State) (this : Addr) (p1 : Int64) (p2 : Int32) (r : UInt64) (h0 : Heap) (n0 : Nat) (v : Option Value) (h : Heap) (L : List Loc) : Prop := v = some (.double r) ∧ Fr n0 L ∧ h = h0
set_option maxRecDepth 65536 in
set_option maxHeartbeats 40000000 in
theorem rm2_2 (l : Launch) (Z : State) (a0 : Array Value) (hw : ∀ d ∈ tables_1, d.before a0 Z = true) (ws : List Jvm.Cond) (this : Addr) (p1 : Int64) (p2 : Int32) (r : UInt64) (h0 : Heap) (n0 : Nat) (Z0 : n0 ≤ h0.size) (E_t : Exa Z h0 this "com/example/coupewise/coupewise/Bias") (F_o : Fld Z h0 this "java/lang/Enum" "ordinal" "I" (.int (2 : Int32))) (hnz : (((1 : Int32) + p2).toInt64) ≠ (0 : Int64)) (hr0 : (f2_2 p2) = r) :
    MetFree l (⟨"com/example/coupewise/coupewise/Bias", "weight", "(JI)D"⟩ : MethodName) (head1 (Jvm.Cond.code (⟨"com/example/coupewise/coupewise/Bias", "weight", "(JI)D"⟩ : MethodName) prog_1_method_4_code 4 (some .double) :: ws) ({ frames := 1, cells := 0, slots := 0, locals := 12 } : Room)) (fun a U => a = #[(.ref this), (.long p1), (.int p2)] ∧ Z.Warmed39 U.vm ∧ U.heap = h0) (fun _ _ _ _ _ => True) (fun _ U o U' => ∃ v L, o = .returned v ∧ Q2_2 Z this p1 p2 r h0 n0 v U'.heap L ∧ FrameEnd U o U' L ({ frames := 1, cells := 0, slots := 0, locals := 12 } : Room).cells ({ frames := 1, cells := 0, slots := 0, locals := 12 } : Room).slots) := by
  refine MetFree.of_bodySF (plainFor_of_name pn_2) hisR ?_
  intro p e s m args below meth c s₁ Bd hml0 hP hK
  obtain ⟨rfl, hZ, hh⟩ := hP
  have hx := Bd.exec
  have hby := Bd.bytes
  have hml : c.maxLocals = 4 := hml0
  have hown : s.vm.findClass "com/example/coupewise/coupewise/Bias" = some m.cls := findClass_of_methodNamed Bd.named
  have hnm := (name_of_methodNamed Bd.named Bd.method).1
  have X0 : Stand p l e ({ frames := 1, cells := 0, slots := 0, locals := 12 } : Room) s m #[(.ref this), (.long p1), (.int p2)] below meth c s₁ [] 0 0 := Stand.of_body Bd
  have e0 : s₁.heap = h0 := by rw [← hh, Bd.state]; rfl
  have N0 := Fr.nil n0
  refine own_start ?_
  refine own_via (fun t k => castTop (ef_rm2_2 m this p1 p2) k) ?_
  show own_Go p e below _ (s₁.setTop (mkF m 0 #[oR this, oJ p1, .second, oI p2] []))
  refine own_via (fun t kz => XS.aloadN X0.here hx rfl (hb hby d2_0) rfl rfl kz) ?_
  show own_Go p e below _ (s₁.setTop (mkF m 1 #[oR this, oJ p1, .second, oI p2] [(.ref this)]))
  obtain ⟨cq1, kq1, qa1, qb1, qc1⟩ := isOf hZ e0 E_t
  obtain ⟨_, _, ⟨T1, L1, k1, n1⟩, -, X1, ⟨Lc1, hQ1, l1, y1, z1⟩, st1⟩ := X0.virtualBackUp hx (owner := "java/lang/Enum") (x := (⟨"com/example/coupewise/coupewise/Bias", "ordinal", "()I"⟩ : MethodName)) (y := (⟨"java/lang/Enum", "ordinal", "()I"⟩ : MethodName)) hown (mvT hZ (own_w hw 13)) (mvT hZ (own_w hw 14)) (mvT hZ (own_w hw 15)) (by decide) (mvT hZ (own_w hw 17)) (mvT hZ (own_w hw 16)) (backOf (W := 0) (rm3 l Z a0 hw [] this (2 : Int32) (2 : Int32) h0 n0 Z0 F_o (by unfold f3; rfl)) hZ (own_w hw 19) (own_w hw 18) (by decide) (by decide)) qa1 qc1 (g := (mkF m 1 #[oR this, oJ p1, .second, oI p2] [(.ref this)])) rfl (by rw [hml]; rfl) (Steps.refl _) (argsL := []) (rest := []) (lenOf pd_2_0 rfl) rfl (by show 2 * 0 + _ ≤ _; exact Nat.le_of_eq rfl) (hb hby d2_1) (fun _ _ => ⟨rfl, e0, (by decide : 0 + 0 ≤ _), (by decide : 0 + 0 ≤ _)⟩)
  dsimp only [Pt.U, Pt.locs, Pt.cells, Pt.slots] at X1 l1 y1 z1 st1 hQ1
  subst l1 y1 z1
  obtain ⟨rfl, Nq1, e1⟩ := hQ1
  have N2 := Fr.app N0 Nq1
  refine own_tr st1 ?_
  show own_Go p e below _ (T1.setTop (mkF m 4 #[oR this, oJ p1, .second, oI p2] [(.int (2 : Int32))]))
  refine own_via (fun t kz => XS.tswIn X1.here hx rfl (o := 51) (pc0 := 4) (pc' := 55) rfl (hb hby d2_4) (i := (2 : Int32)) rfl (by decide) rfl (by decide) (by decide) kz) ?_
  show own_Go p e below _ (T1.setTop (mkF m 55 #[oR this, oJ p1, .second, oI p2] []))
  refine own_via (fun t kz => XS.dconst1 X1.here hx rfl (hb hby d2_55) (v := (FP.l2d (1 : Int64))) own_dconst1 kz) ?_
  show own_Go p e below _ (T1.setTop (mkF m 56 #[oR this, oJ p1, .second, oI p2] [(.double (FP.l2d (1 : Int64)))]))
  refine own_via (fun t kz => XS.iconst X1.here hx rfl (hb hby d2_56) kz) ?_
  show own_Go p e below _ (T1.setTop (mkF m 57 #[oR this, oJ p1, .second, oI p2] [(.int (1 : Int32)), (.double (FP.l2d (1 : Int64)))]))
  refine own_via (fun t kz => XS.iloadN X1.here hx rfl (hb hby d2_57) rfl kz) ?_
  show own_Go p e below _ (T1.setTop (mkF m 58 #[oR this, oJ p1, .second, oI p2] [(.int p2), (.int (1 : Int32)), (.double (FP.l2d (1 : Int64)))]))
  refine own_via (fun t kz => XS.iadd X1.here hx rfl (hb hby d2_58) rfl kz) ?_
  show own_Go p e below _ (T1.setTop (mkF m 59 #[oR this, oJ p1, .second, oI p2] [(.int ((1 : Int32) + p2)), (.double (FP.l2d (1 : Int64)))]))
  refine own_via (fun t kz => XS.i2dS X1.here hx rfl (hb hby d2_59) rfl (i2d_w ((1 : Int32) + p2)) kz) ?_
  show own_Go p e below _ (T1.setTop (mkF m 60 #[oR this, oJ p1, .second, oI p2] [(.double (FP.l2d (((1 : Int32) + p2).toInt64))), (.double (FP.l2d (1 : Int64)))]))
  refine own_via (fun t kz => XS.ddivS X1.here hx rfl (hb hby d2_60) rfl (own_div hnz) rfl kz) ?_
  show own_Go p e below _ (T1.setTop (mkF m 61 #[oR this, oJ p1, .second, oI p2] [(.double (FP.ddiv (FP.l2d (1 : Int64)) (FP.l2d (((1 : Int32) + p2).toInt64))))]))
  refine own_via (fun t kz => XS.goto X1.here hx rfl (pc0 := 61) (pc' := 71) rfl (hb hby d2_61) (by decide) (by decide) kz) ?_
  show own_Go p e below _ (T1.setTop (mkF m 71 #[oR this, oJ p1, .second, oI p2] [(.double (FP.ddiv (FP.l2d (1 : Int64)) (FP.l2d (((1 : Int32) + p2).toInt64))))]))
  have hv : (f2_2 p2) = (FP.ddiv (FP.l2d (1 : Int64)) (FP.l2d (((1 : Int32) + p2).toInt64))) := by unfold f2_2; rfl
  obtain ⟨fs, hr, hrun, hended, hW, hsame⟩ := X1.leave (v := some (.double (FP.ddiv (FP.l2d (1 : Int64)) (FP.l2d (((1 : Int32) + p2).toInt64))))) (fun h => by rw [Bd.returns] at h; cases h)
  refine ⟨_, _, retOut X1 hx (i := .dreturn) Bd.returns rfl (Or.inr (Or.inr (Or.inl ⟨rfl, rfl, _, rfl⟩))) (hb hby d2_71) hr, hrun, hended, _, _, rfl, ?_, ⟨_, rfl⟩, hW, hsame.mono (by decide) (by decide)⟩
  show Q2_2 Z this p1 p2 r h0 n0 _ T1.heap _
  rw [e1]
  exact ⟨by rw [← hr0, hv], N2, rfl⟩
def f2_3 (p1 : Int64) (p2 : Int32) : UInt64 := (FP.ddiv (FP.l2d p1) (FP.l2d (((1 : Int32) + p2).toInt64)))
theorem d2_64 : decode prog_1_method_4_code 64 = .ok (.lload_n 1, 1) := by decide +kernel
theorem d2_65 : decode prog_1_method_4_code 65 = .ok (.l2d, 1) := by decide +kernel
theorem d2_66 : decode prog_1_method_4_code 66 = .ok (.iconst 1, 1) := by decide +kernel
theorem d2_67 : decode prog_1_method_4_code 67 = .ok (.iload_n 3, 1) := by decide +kernel
theorem d2_68 : decode prog_1_method_4_code 68 = .ok (.iadd, 1) := by decide +kernel
theorem d2_69 : decode prog_1_method_4_code 69 = .ok (.i2d, 1) := by decide +kernel
theorem d2_70 : decode prog_1_method_4_code 70 = .ok (.ddiv, 1) := by decide +kernel
theorem ef_rm2_3 (m : MethodId) (q0 : Addr) (q1 : Int64) (q2 : Int32) : entryFrame m #[(.ref q0), (.long q1), (.int q2)] 4 = mkF m 0 #[oR q0, oJ q1, .second, oI q2] [] := by first | (simp [entryFrame, mkF, argsToLocals, Value.category]; done) | rfl
def Q2_3 (Z : State) (this : Addr) (p1 : Int64) (p2 : Int32) (r : UInt64) (h0 : Heap) (n0 : Nat) (v : Option Value) (h : Heap) (L : List Loc) : Prop := v = some (.double r) ∧ Fr n0 L ∧ h = h0
set_option maxRecDepth 65536 in
set_option maxHeartbeats 40000000 in
theorem rm2_3 (l : Launch) (Z : State) (a0 : Array Value) (hw : ∀ d ∈ tables_1, d.before a0 Z = true) (ws : List Jvm.Cond) (this : Addr) (p1 : Int64) (p2 : Int32) (r : UInt64) (h0 : Heap) (n0 : Nat) (Z0 : n0 ≤ h0.size) (E_t : Exa Z h0 this "com/example/coupewise/coupewise/Bias") (F_o : Fld Z h0 this "java/lang/Enum" "ordinal" "I" (.int (3 : Int32))) (hnz : (((1 : Int32) + p2).toInt64) ≠ (0 : Int64)) (hr0 : (f2_3 p1 p2) = r) :
    MetFree l (⟨"com/example/coupewise/coupewise/Bias", "weight", "(JI)D"⟩ : MethodName) (head1 (Jvm.Cond.code (⟨"com/example/coupewise/coupewise/Bias", "weight", "(JI)D"⟩ : MethodName) prog_1_method_4_code 4 (some .double) :: ws) ({ frames := 1, cells := 0, slots := 0, locals := 12 } : Room)) (fun a U => a = #[(.ref this), (.long p1), (.int p2)] ∧ Z.Warmed39 U.vm ∧ U.heap = h0) (fun _ _ _ _ _ => True) (fun _ U o U' => ∃ v L, o = .returned v ∧ Q2_3 Z this p1 p2 r h0 n0 v U'.heap L ∧ FrameEnd U o U' L ({ frames := 1, cells := 0, slots := 0, locals := 12 } : Room).cells ({ frames := 1, cells := 0, slots := 0, locals := 12 } : Room).slots) := by
  refine MetFree.of_bodySF (plainFor_of_name pn_2) hisR ?_
  intro p e s m args below meth c s₁ Bd hml0 hP hK
  obtain ⟨rfl, hZ, hh⟩ := hP
  have hx := Bd.exec
  have hby := Bd.bytes
  have hml : c.maxLocals = 4 := hml0
  have hown : s.vm.findClass "com/example/coupewise/coupewise/Bias" = some m.cls := findClass_of_methodNamed Bd.named
  have hnm := (name_of_methodNamed Bd.named Bd.method).1
  have X0 : Stand p l e ({ frames := 1, cells := 0, slots := 0, locals := 12 } : Room) s m #[(.ref this), (.long p1), (.int p2)] below meth c s₁ [] 0 0 := Stand.of_body Bd
  have e0 : s₁.heap = h0 := by rw [← hh, Bd.state]; rfl
  have N0 := Fr.nil n0
  refine own_start ?_
  refine own_via (fun t k => castTop (ef_rm2_3 m this p1 p2) k) ?_
  show own_Go p e below _ (s₁.setTop (mkF m 0 #[oR this, oJ p1, .second, oI p2] []))
  refine own_via (fun t kz => XS.aloadN X0.here hx rfl (hb hby d2_0) rfl rfl kz) ?_
  show own_Go p e below _ (s₁.setTop (mkF m 1 #[oR this, oJ p1, .second, oI p2] [(.ref this)]))
  obtain ⟨cq1, kq1, qa1, qb1, qc1⟩ := isOf hZ e0 E_t
  obtain ⟨_, _, ⟨T1, L1, k1, n1⟩, -, X1, ⟨Lc1, hQ1, l1, y1, z1⟩, st1⟩ := X0.virtualBackUp hx (owner := "java/lang/Enum") (x := (⟨"com/example/coupewise/coupewise/Bias", "ordinal", "()I"⟩ : MethodName)) (y := (⟨"java/lang/Enum", "ordinal", "()I"⟩ : MethodName)) hown (mvT hZ (own_w hw 13)) (mvT hZ (own_w hw 14)) (mvT hZ (own_w hw 15)) (by decide) (mvT hZ (own_w hw 17)) (mvT hZ (own_w hw 16)) (backOf (W := 0) (rm3 l Z a0 hw [] this (3 : Int32) (3 : Int32) h0 n0 Z0 F_o (by unfold f3; rfl)) hZ (own_w hw 19) (own_w hw 18) (by decide) (by decide)) qa1 qc1 (g := (mkF m 1 #[oR this, oJ p1, .second, oI p2] [(.ref this)])) rfl (by rw [hml]; rfl) (Steps.refl _) (argsL := []) (rest := []) (lenOf pd_2_0 rfl) rfl (by show 2 * 0 + _ ≤ _; exact Nat.le_of_eq rfl) (hb hby d2_1) (fun _ _ => ⟨rfl, e0, (by decide : 0 + 0 ≤ _), (by decide : 0 + 0 ≤ _)⟩)
  dsimp only [Pt.U, Pt.locs, Pt.cells, Pt.slots] at X1 l1 y1 z1 st1 hQ1
  subst l1 y1 z1
  obtain ⟨rfl, Nq1, e1⟩ := hQ1
  have N2 := Fr.app N0 Nq1
  refine own_tr st1 ?_
  show own_Go p e below _ (T1.setTop (mkF m 4 #[oR this, oJ p1, .second, oI p2] [(.int (3 : Int32))]))
  refine own_via (fun t kz => XS.tswIn X1.here hx rfl (o := 60) (pc0 := 4) (pc' := 64) rfl (hb hby d2_4) (i := (3 : Int32)) rfl (by decide) rfl (by decide) (by decide) kz) ?_
  show own_Go p e below _ (T1.setTop (mkF m 64 #[oR this, oJ p1, .second, oI p2] []))
  refine own_via (fun t kz => XS.lloadN X1.here hx rfl (hb hby d2_64) rfl kz) ?_
  show own_Go p e below _ (T1.setTop (mkF m 65 #[oR this, oJ p1, .second, oI p2] [(.long p1)]))
  refine own_via (fun t kz => XS.l2dS X1.here hx rfl (hb hby d2_65) rfl rfl kz) ?_
  show own_Go p e below _ (T1.setTop (mkF m 66 #[oR this, oJ p1, .second, oI p2] [(.double (FP.l2d p1))]))
  refine own_via (fun t kz => XS.iconst X1.here hx rfl (hb hby d2_66) kz) ?_
  show own_Go p e below _ (T1.setTop (mkF m 67 #[oR this, oJ p1, .second, oI p2] [(.int (1 : Int32)), (.double (FP.l2d p1))]))
  refine own_via (fun t kz => XS.iloadN X1.here hx rfl (hb hby d2_67) rfl kz) ?_
  show own_Go p e below _ (T1.setTop (mkF m 68 #[oR this, oJ p1, .second, oI p2] [(.int p2), (.int (1 : Int32)), (.double (FP.l2d p1))]))
  refine own_via (fun t kz => XS.iadd X1.here hx rfl (hb hby d2_68) rfl kz) ?_
  show own_Go p e below _ (T1.setTop (mkF m 69 #[oR this, oJ p1, .second, oI p2] [(.int ((1 : Int32) + p2)), (.double (FP.l2d p1))]))
  refine own_via (fun t kz => XS.i2dS X1.here hx rfl (hb hby d2_69) rfl (i2d_w ((1 : Int32) + p2)) kz) ?_
  show own_Go p e below _ (T1.setTop (mkF m 70 #[oR this, oJ p1, .second, oI p2] [(.double (FP.l2d (((1 : Int32) + p2).toInt64))), (.double (FP.l2d p1))]))
  refine own_via (fun t kz => XS.ddivS X1.here hx rfl (hb hby d2_70) rfl (own_div hnz) rfl kz) ?_
  show own_Go p e below _ (T1.setTop (mkF m 71 #[oR this, oJ p1, .second, oI p2] [(.double (FP.ddiv (FP.l2d p1) (FP.l2d (((1 : Int32) + p2).toInt64))))]))
  have hv : (f2_3 p1 p2) = (FP.ddiv (FP.l2d p1) (FP.l2d (((1 : Int32) + p2).toInt64))) := by unfold f2_3; rfl
  obtain ⟨fs, hr, hrun, hended, hW, hsame⟩ := X1.leave (v := some (.double (FP.ddiv (FP.l2d p1) (FP.l2d (((1 : Int32) + p2).toInt64))))) (fun h => by rw [Bd.returns] at h; cases h)
  refine ⟨_, _, retOut X1 hx (i := .dreturn) Bd.returns rfl (Or.inr (Or.inr (Or.inl ⟨rfl, rfl, _, rfl⟩))) (hb hby d2_71) hr, hrun, hended, _, _, rfl, ?_, ⟨_, rfl⟩, hW, hsame.mono (by decide) (by decide)⟩
  show Q2_3 Z this p1 p2 r h0 n0 _ T1.heap _
  rw [e1]
  exact ⟨by rw [← hr0, hv], N2, rfl⟩
def f4 (this : Addr) (aNEIGHBOURS : Addr) (aBOTH : Addr) : Int32 := (if this = aNEIGHBOURS then (1 : Int32) else (if this = aBOTH then (1 : Int32) else (0 : Int32)))
theorem d4_0 : decode prog_1_method_5_code 0 = .ok (.aload_n 0, 1) := by decide +kernel
theorem d4_1 : decode prog_1_method_5_code 1 = .ok (.getstatic 10, 3) := by decide +kernel
theorem d4_4 : decode prog_1_method_5_code 4 = .ok (.if_acmp .eq 10, 3) := by decide +kernel
theorem d4_7 : decode prog_1_method_5_code 7 = .ok (.aload_n 0, 1) := by decide +kernel
theorem d4_8 : decode prog_1_method_5_code 8 = .ok (.getstatic 13, 3) := by decide +kernel
theorem d4_11 : decode prog_1_method_5_code 11 = .ok (.if_acmp .ne 7, 3) := by decide +kernel
theorem d4_14 : decode prog_1_method_5_code 14 = .ok (.iconst 1, 1) := by decide +kernel
theorem d4_15 : decode prog_1_method_5_code 15 = .ok (.goto 4, 3) := by decide +kernel
theorem d4_18 : decode prog_1_method_5_code 18 = .ok (.iconst 0, 1) := by decide +kernel
theorem d4_19 : decode prog_1_method_5_code 19 = .ok (.ireturn, 1) := by decide +kernel
theorem ef_rm4 (m : MethodId) (q0 : Addr) : entryFrame m #[(.ref q0)] 1 = mkF m 0 #[oR q0] [] := by first | (simp [entryFrame, mkF, argsToLocals, Value.category]; done) | rfl
def Q4 (Z : State) (this : Addr) (aNEIGHBOURS : Addr) (aBOTH : Addr) (r : Int32) (h0 : Heap) (n0 : Nat) (v : Option Value) (h : Heap) (L : List Loc) : Prop := v = some (.int r) ∧ Fr n0 L ∧ h = h0
set_option maxRecDepth 65536 in
set_option maxHeartbeats 40000000 in
theorem rm4 (l : Launch) (Z : State) (a0 : Array Value) (hw : ∀ d ∈ tables_1, d.before a0 Z = true) (ws : List Jvm.Cond) (this : Addr) (aNEIGHBOURS : Addr) (aBOTH : Addr) (r : Int32) (h0 : Heap) (n0 : Nat) (Z0 : n0 ≤ h0.size) (S_aNEIGHBOURS : Sta Z h0 "com/example/coupewise/coupewise/Bias" "NEIGHBOURS" "Lcom/example/coupewise/coupewise/Bias;" (.ref aNEIGHBOURS)) (S_aBOTH : Sta Z h0 "com/example/coupewise/coupewise/Bias" "BOTH" "Lcom/example/coupewise/coupewise/Bias;" (.ref aBOTH)) (hr0 : (f4 this aNEIGHBOURS aBOTH) = r) :
    MetFree l (⟨"com/example/coupewise/coupewise/Bias", "countsNeighbours", "()Z"⟩ : MethodName) (head1 (Jvm.Cond.code (⟨"com/example/coupewise/coupewise/Bias", "countsNeighbours", "()Z"⟩ : MethodName) prog_1_method_5_code 1 (some .boolean) :: ws) ({ frames := 0, cells := 0, slots := 0, locals := 0 } : Room)) (fun a U => a = #[(.ref this)] ∧ Z.Warmed39 U.vm ∧ U.heap = h0) (fun _ _ _ _ _ => True) (fun _ U o U' => ∃ v L, o = .returned v ∧ Q4 Z this aNEIGHBOURS aBOTH r h0 n0 v U'.heap L ∧ FrameEnd U o U' L ({ frames := 0, cells := 0, slots := 0, locals := 0 } : Room).cells ({ frames := 0, cells := 0, slots := 0, locals := 0 } : Room).slots) := by
  refine MetFree.of_bodySF (plainFor_of_name pn_2) hisR ?_
  intro p e s m args below meth c s₁ Bd hml0 hP hK
  obtain ⟨rfl, hZ, hh⟩ := hP
  have hx := Bd.exec
  have hby := Bd.bytes
  have hml : c.maxLocals = 1 := hml0
  have hown : s.vm.findClass "com/example/coupewise/coupewise/Bias" = some m.cls := findClass_of_methodNamed Bd.named
  have hnm := (name_of_methodNamed Bd.named Bd.method).1
  have X0 : Stand p l e ({ frames := 0, cells := 0, slots := 0, locals := 0 } : Room) s m #[(.ref this)] below meth c s₁ [] 0 0 := Stand.of_body Bd
  have e0 : s₁.heap = h0 := by rw [← hh, Bd.state]; rfl
  have N0 := Fr.nil n0
  refine own_start ?_
  refine own_via (fun t k => castTop (ef_rm4 m this) k) ?_
  show own_Go p e below _ (s₁.setTop (mkF m 0 #[oR this] []))
  refine own_via (fun t kz => XS.aloadN X0.here hx rfl (hb hby d4_0) rfl rfl kz) ?_
  show own_Go p e below _ (s₁.setTop (mkF m 1 #[oR this] [(.ref this)]))
  obtain ⟨T1, X1, e1, st1⟩ := getS2 X0 hx hZ hown (host := "") (Or.inl (own_w hw 27)) Via.refl e0 S_aNEIGHBOURS (g := (mkF m 1 #[oR this] [(.ref this)])) rfl (hb hby d4_1)
  refine own_via st1 ?_
  show own_Go p e below _ (T1.setTop (mkF m 4 #[oR this] [(.ref aNEIGHBOURS), (.ref this)]))
  by_cases hc4_2 : this = aNEIGHBOURS
  · refine own_via (fun t kz => Jvm.RoadKit.acmp (g := (mkF m 4 #[oR this] [(.ref aNEIGHBOURS), (.ref this)])) X1 hx rfl rfl rfl (pc0 := 4) (pc' := 14) (same := true) rfl (hb hby d4_4) rfl (decide_eq_true (congrArg Value.ref hc4_2)) (by decide) (by decide) kz) ?_
    show own_Go p e below _ (T1.setTop (mkF m 14 #[oR this] []))
    refine own_via (fun t kz => XS.iconst X1.here hx rfl (hb hby d4_14) kz) ?_
    show own_Go p e below _ (T1.setTop (mkF m 15 #[oR this] [(.int (1 : Int32))]))
    refine own_via (fun t kz => XS.goto X1.here hx rfl (pc0 := 15) (pc' := 19) rfl (hb hby d4_15) (by decide) (by decide) kz) ?_
    show own_Go p e below _ (T1.setTop (mkF m 19 #[oR this] [(.int (1 : Int32))]))
    have hv : (f4 this aNEIGHBOURS aBOTH) = (1 : Int32) := by unfold f4; rw [if_pos hc4_2]
    obtain ⟨fs, hr, hrun, hended, hW, hsame⟩ := X1.leave (v := some (.int (1 : Int32))) (fun h => by rw [Bd.returns] at h; cases h)
    refine ⟨_, _, retN X1 hx (t := .boolean) Bd.returns (by simp) (hb hby d4_19) hr, hrun, hended, _, _, rfl, ?_, ⟨_, rfl⟩, hW, hsame.mono (by decide) (by decide)⟩
    show Q4 Z this aNEIGHBOURS aBOTH r h0 n0 _ T1.heap _
    rw [e1]
    exact ⟨by rw [← hr0, hv], N0, rfl⟩
  · refine own_via (fun t kz => Jvm.RoadKit.acmp (g := (mkF m 4 #[oR this] [(.ref aNEIGHBOURS), (.ref this)])) X1 hx rfl rfl rfl (pc0 := 4) (pc' := 7) (same := false) rfl (hb hby d4_4) rfl (decide_eq_false fun q => hc4_2 (Value.ref.inj q)) (by decide) (by decide) kz) ?_
    show own_Go p e below _ (T1.setTop (mkF m 7 #[oR this] []))
    refine own_via (fun t kz => XS.aloadN X1.here hx rfl (hb hby d4_7) rfl rfl kz) ?_
    show own_Go p e below _ (T1.setTop (mkF m 8 #[oR this] [(.ref this)]))
    obtain ⟨T4, X4, e4, st4⟩ := getS2 X1 hx hZ hown (host := "") (Or.inl (own_w hw 29)) Via.refl e1 S_aBOTH (g := (mkF m 8 #[oR this] [(.ref this)])) rfl (hb hby d4_8)
    refine own_via st4 ?_
    show own_Go p e below _ (T4.setTop (mkF m 11 #[oR this] [(.ref aBOTH), (.ref this)]))
    by_cases hc11_5 : this = aBOTH
    · refine own_via (fun t kz => Jvm.RoadKit.acmp (g := (mkF m 11 #[oR this] [(.ref aBOTH), (.ref this)])) X4 hx rfl rfl rfl (pc0 := 11) (pc' := 14) (same := true) rfl (hb hby d4_11) rfl (decide_eq_true (congrArg Value.ref hc11_5)) (by decide) (by decide) kz) ?_
      show own_Go p e below _ (T4.setTop (mkF m 14 #[oR this] []))
      refine own_via (fun t kz => XS.iconst X4.here hx rfl (hb hby d4_14) kz) ?_
      show own_Go p e below _ (T4.setTop (mkF m 15 #[oR this] [(.int (1 : Int32))]))
      refine own_via (fun t kz => XS.goto X4.here hx rfl (pc0 := 15) (pc' := 19) rfl (hb hby d4_15) (by decide) (by decide) kz) ?_
      show own_Go p e below _ (T4.setTop (mkF m 19 #[oR this] [(.int (1 : Int32))]))
      have hv : (f4 this aNEIGHBOURS aBOTH) = (1 : Int32) := by unfold f4; rw [if_neg hc4_2, if_pos hc11_5]
      obtain ⟨fs, hr, hrun, hended, hW, hsame⟩ := X4.leave (v := some (.int (1 : Int32))) (fun h => by rw [Bd.returns] at h; cases h)
      refine ⟨_, _, retN X4 hx (t := .boolean) Bd.returns (by simp) (hb hby d4_19) hr, hrun, hended, _, _, rfl, ?_, ⟨_, rfl⟩, hW, hsame.mono (by decide) (by decide)⟩
      show Q4 Z this aNEIGHBOURS aBOTH r h0 n0 _ T4.heap _
      rw [e4]
      exact ⟨by rw [← hr0, hv], N0, rfl⟩
    · refine own_via (fun t kz => Jvm.RoadKit.acmp (g := (mkF m 11 #[oR this] [(.ref aBOTH), (.ref this)])) X4 hx rfl rfl rfl (pc0 := 11) (pc' := 18) (same := false) rfl (hb hby d4_11) rfl (decide_eq_false fun q => hc11_5 (Value.ref.inj q)) (by decide) (by decide) kz) ?_
      show own_Go p e below _ (T4.setTop (mkF m 18 #[oR this] []))
      refine own_via (fun t kz => XS.iconst X4.here hx rfl (hb hby d4_18) kz) ?_
      show own_Go p e below _ (T4.setTop (mkF m 19 #[oR this] [(.int (0 : Int32))]))
      have hv : (f4 this aNEIGHBOURS aBOTH) = (0 : Int32) := by unfold f4; rw [if_neg hc4_2, if_neg hc11_5]
      obtain ⟨fs, hr, hrun, hended, hW, hsame⟩ := X4.leave (v := some (.int (0 : Int32))) (fun h => by rw [Bd.returns] at h; cases h)
      refine ⟨_, _, retN X4 hx (t := .boolean) Bd.returns (by simp) (hb hby d4_19) hr, hrun, hended, _, _, rfl, ?_, ⟨_, rfl⟩, hW, hsame.mono (by decide) (by decide)⟩
      show Q4 Z this aNEIGHBOURS aBOTH r h0 n0 _ T4.heap _
      rw [e4]
      exact ⟨by rw [← hr0, hv], N0, rfl⟩
theorem pd_0_0 : parseMethodDescriptor "(I)Lcom/example/coupewise/coupewise/Bias;" = some ⟨[.int], some (.object "com/example/coupewise/coupewise/Bias")⟩ := by decide +kernel
theorem pd_0_1 : parseMethodDescriptor "(JI)D" = some ⟨[.long, .int], some .double⟩ := by decide +kernel
theorem pd_0_2 : parseMethodDescriptor "()Z" = some ⟨[], some .boolean⟩ := by decide +kernel
theorem ef_rm0 (m : MethodId) (q0 : Int32) (q1 : Int64) (q2 : Int32) : entryFrame m #[(.int q0), (.long q1), (.int q2)] maxLocals = mkF m 0 #[oI q0, oJ q1, .second, oI q2, .unset, .unset, .unset, .unset, .unset, .unset, .unset, .unset, .unset] [] := by first | (simp [entryFrame, mkF, argsToLocals, Value.category, maxLocals]; done) | rfl
def Q0 (Z : State) (p0 : Int32) (p1 : Int64) (p2 : Int32) (aNONE : Addr) (aNEIGHBOURS : Addr) (aBOTH : Addr) (aVOLUME : Addr) (h0 : Heap) (n0 : Nat) (v : Option Value) (h : Heap) (L : List Loc) : Prop := v = some (.int (1 : Int32)) ∧ Fr n0 L
set_option maxRecDepth 65536 in
set_option maxHeartbeats 40000000 in
theorem rm0 (l : Launch) (Z : State) (a0 : Array Value) (hw : ∀ d ∈ tables_1, d.before a0 Z = true) (ws : List Jvm.Cond) (p0 : Int32) (p1 : Int64) (p2 : Int32) (aNONE : Addr) (aNEIGHBOURS : Addr) (aBOTH : Addr) (aVOLUME : Addr) (h0 : Heap) (n0 : Nat) (Z0 : n0 ≤ h0.size) (E_NONE : Exa Z h0 aNONE "com/example/coupewise/coupewise/Bias") (S_NONE : Sta Z h0 "com/example/coupewise/coupewise/Bias" "NONE" "Lcom/example/coupewise/coupewise/Bias;" (.ref aNONE)) (E_NEIGHBOURS : Exa Z h0 aNEIGHBOURS "com/example/coupewise/coupewise/Bias") (S_NEIGHBOURS : Sta Z h0 "com/example/coupewise/coupewise/Bias" "NEIGHBOURS" "Lcom/example/coupewise/coupewise/Bias;" (.ref aNEIGHBOURS)) (E_BOTH : Exa Z h0 aBOTH "com/example/coupewise/coupewise/Bias") (S_BOTH : Sta Z h0 "com/example/coupewise/coupewise/Bias" "BOTH" "Lcom/example/coupewise/coupewise/Bias;" (.ref aBOTH)) (E_VOLUME : Exa Z h0 aVOLUME "com/example/coupewise/coupewise/Bias") (S_VOLUME : Sta Z h0 "com/example/coupewise/coupewise/Bias" "VOLUME" "Lcom/example/coupewise/coupewise/Bias;" (.ref aVOLUME)) (F_NONE_ordinal : Fld Z h0 aNONE "java/lang/Enum" "ordinal" "I" (.int (0 : Int32))) (F_NEIGHBOURS_ordinal : Fld Z h0 aNEIGHBOURS "java/lang/Enum" "ordinal" "I" (.int (2 : Int32))) (F_BOTH_ordinal : Fld Z h0 aBOTH "java/lang/Enum" "ordinal" "I" (.int (3 : Int32))) (F_VOLUME_ordinal : Fld Z h0 aVOLUME "java/lang/Enum" "ordinal" "I" (.int (1 : Int32))) (ne_NONE_NEIGHBOURS : aNONE ≠ aNEIGHBOURS) (ne_NONE_BOTH : aNONE ≠ aBOTH) (ne_NONE_VOLUME : aNONE ≠ aVOLUME) (ne_NEIGHBOURS_BOTH : aNEIGHBOURS ≠ aBOTH) (ne_NEIGHBOURS_VOLUME : aNEIGHBOURS ≠ aVOLUME) (ne_BOTH_VOLUME : aBOTH ≠ aVOLUME) :
    MetFree l x (head1 (Jvm.Cond.code x code maxLocals ret :: ws) room_1) (fun a U => a = #[(.int p0), (.long p1), (.int p2)] ∧ Z.Warmed39 U.vm ∧ U.heap = h0) (fun _ _ _ _ _ => True) (fun _ U o U' => ∃ v L, o = .returned v ∧ Q0 Z p0 p1 p2 aNONE aNEIGHBOURS aBOTH aVOLUME h0 n0 v U'.heap L ∧ FrameEnd U o U' L room_1.cells room_1.slots) := by
  refine MetFree.of_bodySF (plainFor_of_name pn_1) hisR ?_
  intro p e s m args below meth c s₁ Bd hml0 hP hK
  obtain ⟨rfl, hZ, hh⟩ := hP
  have hx := Bd.exec
  have hby := Bd.bytes
  have hml : c.maxLocals = 13 := hml0
  have hown : s.vm.findClass "com/example/coupewise/coupewise/BiasCountsNeighboursPinLaw" = some m.cls := findClass_of_methodNamed Bd.named
  have hnm := (name_of_methodNamed Bd.named Bd.method).1
  have X0 : Stand p l e room_1 s m #[(.int p0), (.long p1), (.int p2)] below meth c s₁ [] 0 0 := Stand.of_body Bd
  have e0 : s₁.heap = h0 := by rw [← hh, Bd.state]; rfl
  have N0 := Fr.nil n0
  refine own_start ?_
  refine own_via (fun t k => castTop (ef_rm0 m p0 p1 p2) k) ?_
  show own_Go p e below _ (s₁.setTop (mkF m 0 #[oI p0, oJ p1, .second, oI p2, .unset, .unset, .unset, .unset, .unset, .unset, .unset, .unset, .unset] []))
  refine own_via (fun t kz => XS.iloadN X0.here hx rfl (hb hby at_0) rfl kz) ?_
  show own_Go p e below _ (s₁.setTop (mkF m 1 #[oI p0, oJ p1, .second, oI p2, .unset, .unset, .unset, .unset, .unset, .unset, .unset, .unset, .unset] [(.int p0)]))
  by_cases hc1_1 : (p0 &&& (3 : Int32)) = (0 : Int32)
  · obtain ⟨_, _, ⟨T2, L2, k2, n2⟩, -, X2, ⟨Lc2, hQ2, l2, y2, z2⟩, st2⟩ := Jvm.LawKit.callS X0 hx (y := (⟨"com/example/coupewise/coupewise/BiasCountsNeighboursPinLaw", "pick", "(I)Lcom/example/coupewise/coupewise/Bias;"⟩ : MethodName)) hown (mvT hZ (own_w hw 0)) (mvT hZ (own_w hw 1)) (mvT hZ (own_w hw 2)) (mvT hZ (own_w hw 3)) (by decide) (backOf (W := 0) (rm1 l Z a0 hw [] p0 aNONE aVOLUME aNEIGHBOURS aBOTH aNONE h0 n0 Z0 S_NONE S_VOLUME S_NEIGHBOURS S_BOTH (by unfold f1; rw [if_pos hc1_1])) hZ (own_w hw 3) (own_w hw 2) (by decide) (by decide)) (g := (mkF m 1 #[oI p0, oJ p1, .second, oI p2, .unset, .unset, .unset, .unset, .unset, .unset, .unset, .unset, .unset] [(.int p0)])) rfl (by rw [hml]; rfl) (argsL := [(.int p0)]) (rest := []) (lenOf pd_0_0 rfl) rfl (by show 2 * 0 + _ ≤ _; exact Nat.le_of_eq rfl) (hb hby at_1) (fun _ _ => ⟨rfl, e0, (by decide : 0 + 0 ≤ _), (by decide : 0 + 0 ≤ _)⟩)
    dsimp only [Pt.U, Pt.locs, Pt.cells, Pt.slots] at X2 l2 y2 z2 st2 hQ2
    subst l2 y2 z2
    obtain ⟨rfl, Nq2, e2⟩ := hQ2
    have N3 := Fr.app N0 Nq2
    refine own_via st2 ?_
    show own_Go p e below _ (T2.setTop (mkF m 4 #[oI p0, oJ p1, .second, oI p2, .unset, .unset, .unset, .unset, .unset, .unset, .unset, .unset, .unset] [(.ref aNONE)]))
    refine own_via (fun t kz => XS.astore X2.here hx rfl (hb hby at_4) rfl rfl (l' := #[oI p0, oJ p1, .second, oI p2, oR aNONE, .unset, .unset, .unset, .unset, .unset, .unset, .unset, .unset]) rfl kz) ?_
    show own_Go p e below _ (T2.setTop (mkF m 6 #[oI p0, oJ p1, .second, oI p2, oR aNONE, .unset, .unset, .unset, .unset, .unset, .unset, .unset, .unset] []))
    refine own_via (fun t kz => XS.lloadN X2.here hx rfl (hb hby at_6) rfl kz) ?_
    show own_Go p e below _ (T2.setTop (mkF m 7 #[oI p0, oJ p1, .second, oI p2, oR aNONE, .unset, .unset, .unset, .unset, .unset, .unset, .unset, .unset] [(.long p1)]))
    refine own_via (fun t kz => XS.lstore X2.here hx rfl (hb hby at_7) rfl (l' := #[oI p0, oJ p1, .second, oI p2, oR aNONE, oJ p1, .second, .unset, .unset, .unset, .unset, .unset, .unset]) rfl kz) ?_
    show own_Go p e below _ (T2.setTop (mkF m 9 #[oI p0, oJ p1, .second, oI p2, oR aNONE, oJ p1, .second, .unset, .unset, .unset, .unset, .unset, .unset] []))
    refine own_via (fun t kz => XS.lload X2.here hx rfl (hb hby at_9) rfl kz) ?_
    show own_Go p e below _ (T2.setTop (mkF m 11 #[oI p0, oJ p1, .second, oI p2, oR aNONE, oJ p1, .second, .unset, .unset, .unset, .unset, .unset, .unset] [(.long p1)]))
    refine own_via (fun t kz => XS.lconst X2.here hx rfl (hb hby at_11) kz) ?_
    show own_Go p e below _ (T2.setTop (mkF m 12 #[oI p0, oJ p1, .second, oI p2, oR aNONE, oJ p1, .second, .unset, .unset, .unset, .unset, .unset, .unset] [(.long (0 : Int64)), (.long p1)]))
    refine own_via (fun t kz => XS.lcmp X2.here hx rfl (hb hby at_12) rfl kz) ?_
    show own_Go p e below _ (T2.setTop (mkF m 13 #[oI p0, oJ p1, .second, oI p2, oR aNONE, oJ p1, .second, .unset, .unset, .unset, .unset, .unset, .unset] [(.int (lcmpW p1 (0 : Int64)))]))
    by_cases hc13_4 : p1 = (0 : Int64)
    · refine own_via (fun t kz => XS.ifNo X2.here hx rfl (hb hby at_13) rfl ((if0 _ _).trans (teq ((lw_eq _ _).mpr hc13_4)).2) kz) ?_
      show own_Go p e below _ (T2.setTop (mkF m 16 #[oI p0, oJ p1, .second, oI p2, oR aNONE, oJ p1, .second, .unset, .unset, .unset, .unset, .unset, .unset] []))
      refine own_via (fun t kz => XS.lconst X2.here hx rfl (hb hby at_16) kz) ?_
      show own_Go p e below _ (T2.setTop (mkF m 17 #[oI p0, oJ p1, .second, oI p2, oR aNONE, oJ p1, .second, .unset, .unset, .unset, .unset, .unset, .unset] [(.long (1 : Int64))]))
      refine own_via (fun t kz => XS.lstore X2.here hx rfl (hb hby at_17) rfl (l' := #[oI p0, oJ p1, .second, oI p2, oR aNONE, oJ (1 : Int64), .second, .unset, .unset, .unset, .unset, .unset, .unset]) rfl kz) ?_
      show own_Go p e below _ (T2.setTop (mkF m 19 #[oI p0, oJ p1, .second, oI p2, oR aNONE, oJ (1 : Int64), .second, .unset, .unset, .unset, .unset, .unset, .unset] []))
      refine own_via (fun t kz => XS.iloadN X2.here hx rfl (hb hby at_19) rfl kz) ?_
      show own_Go p e below _ (T2.setTop (mkF m 20 #[oI p0, oJ p1, .second, oI p2, oR aNONE, oJ (1 : Int64), .second, .unset, .unset, .unset, .unset, .unset, .unset] [(.int p2)]))
      refine own_via (fun t kz => X2.ldcInt hx hown (mvT hZ (own_w hw 7)) (g := (mkF m 20 #[oI p0, oJ p1, .second, oI p2, oR aNONE, oJ (1 : Int64), .second, .unset, .unset, .unset, .unset, .unset, .unset] [(.int p2)])) rfl (hb hby at_20) t kz) ?_
      show own_Go p e below _ (T2.setTop (mkF m 22 #[oI p0, oJ p1, .second, oI p2, oR aNONE, oJ (1 : Int64), .second, .unset, .unset, .unset, .unset, .unset, .unset] [(.int (65535 : Int32)), (.int p2)]))
      refine own_via (fun t kz => XS.iand X2.here hx rfl (hb hby at_22) rfl kz) ?_
      show own_Go p e below _ (T2.setTop (mkF m 23 #[oI p0, oJ p1, .second, oI p2, oR aNONE, oJ (1 : Int64), .second, .unset, .unset, .unset, .unset, .unset, .unset] [(.int (p2 &&& (65535 : Int32)))]))
      refine own_via (fun t kz => XS.istore X2.here hx rfl (hb hby at_23) rfl (l' := #[oI p0, oJ p1, .second, oI p2, oR aNONE, oJ (1 : Int64), .second, oI (p2 &&& (65535 : Int32)), .unset, .unset, .unset, .unset, .unset]) rfl kz) ?_
      show own_Go p e below _ (T2.setTop (mkF m 25 #[oI p0, oJ p1, .second, oI p2, oR aNONE, oJ (1 : Int64), .second, oI (p2 &&& (65535 : Int32)), .unset, .unset, .unset, .unset, .unset] []))
      refine own_via (fun t kz => XS.aload X2.here hx rfl (hb hby at_25) rfl rfl kz) ?_
      show own_Go p e below _ (T2.setTop (mkF m 27 #[oI p0, oJ p1, .second, oI p2, oR aNONE, oJ (1 : Int64), .second, oI (p2 &&& (65535 : Int32)), .unset, .unset, .unset, .unset, .unset] [(.ref aNONE)]))
      refine own_via (fun t kz => XS.lload X2.here hx rfl (hb hby at_27) rfl kz) ?_
      show own_Go p e below _ (T2.setTop (mkF m 29 #[oI p0, oJ p1, .second, oI p2, oR aNONE, oJ (1 : Int64), .second, oI (p2 &&& (65535 : Int32)), .unset, .unset, .unset, .unset, .unset] [(.long (1 : Int64)), (.ref aNONE)]))
      refine own_via (fun t kz => XS.iload X2.here hx rfl (hb hby at_29) rfl kz) ?_
      show own_Go p e below _ (T2.setTop (mkF m 31 #[oI p0, oJ p1, .second, oI p2, oR aNONE, oJ (1 : Int64), .second, oI (p2 &&& (65535 : Int32)), .unset, .unset, .unset, .unset, .unset] [(.int (p2 &&& (65535 : Int32))), (.long (1 : Int64)), (.ref aNONE)]))
      obtain ⟨cq5, kq5, qa5, qb5, qc5⟩ := isOf hZ e2 E_NONE
      obtain ⟨_, _, ⟨T5, L5, k5, n5⟩, -, X5, ⟨Lc5, hQ5, l5, y5, z5⟩, st5⟩ := X2.virtualBack hx (y := (⟨"com/example/coupewise/coupewise/Bias", "weight", "(JI)D"⟩ : MethodName)) (z := (⟨"com/example/coupewise/coupewise/Bias", "weight", "(JI)D"⟩ : MethodName)) hown (mvT hZ (own_w hw 8)) (mvT hZ (own_w hw 9)) (notFace_of_selects (args := #[]) (mvT hZ (own_w hw 11))) (mvT hZ (own_w hw 11)) (mvT hZ (own_w hw 10)) (by decide) (backOf (W := 0) (rm2_0 l Z a0 hw [] aNONE (1 : Int64) (p2 &&& (65535 : Int32)) (FP.l2d (1 : Int64)) h0 n0 Z0 E_NONE F_NONE_ordinal (by unfold f2_0; rfl)) hZ (own_w hw 12) (own_w hw 5) (by decide) (by decide)) qa5 qc5 (g := (mkF m 31 #[oI p0, oJ p1, .second, oI p2, oR aNONE, oJ (1 : Int64), .second, oI (p2 &&& (65535 : Int32)), .unset, .unset, .unset, .unset, .unset] [(.int (p2 &&& (65535 : Int32))), (.long (1 : Int64)), (.ref aNONE)])) rfl (by rw [hml]; rfl) (Steps.refl _) (argsL := [(.long (1 : Int64)), (.int (p2 &&& (65535 : Int32)))]) (rest := []) (lenOf pd_0_1 rfl) rfl (by show 2 * 0 + _ ≤ _; exact Nat.le_of_eq rfl) (hb hby at_31) (fun _ _ => ⟨rfl, e2, (by decide : 0 + 0 ≤ _), (by decide : 0 + 0 ≤ _)⟩)
      dsimp only [Pt.U, Pt.locs, Pt.cells, Pt.slots] at X5 l5 y5 z5 st5 hQ5
      subst l5 y5 z5
      obtain ⟨rfl, Nq5, e5⟩ := hQ5
      have N6 := Fr.app N3 Nq5
      refine own_tr st5 ?_
      show own_Go p e below _ (T5.setTop (mkF m 34 #[oI p0, oJ p1, .second, oI p2, oR aNONE, oJ (1 : Int64), .second, oI (p2 &&& (65535 : Int32)), .unset, .unset, .unset, .unset, .unset] [(.double (FP.l2d (1 : Int64)))]))
      refine own_via (fun t kz => XS.dstore X5.here hx rfl (hb hby at_34) rfl (l' := #[oI p0, oJ p1, .second, oI p2, oR aNONE, oJ (1 : Int64), .second, oI (p2 &&& (65535 : Int32)), oD (FP.l2d (1 : Int64)), .second, .unset, .unset, .unset]) rfl kz) ?_
      show own_Go p e below _ (T5.setTop (mkF m 36 #[oI p0, oJ p1, .second, oI p2, oR aNONE, oJ (1 : Int64), .second, oI (p2 &&& (65535 : Int32)), oD (FP.l2d (1 : Int64)), .second, .unset, .unset, .unset] []))
      refine own_via (fun t kz => XS.aload X5.here hx rfl (hb hby at_36) rfl rfl kz) ?_
      show own_Go p e below _ (T5.setTop (mkF m 38 #[oI p0, oJ p1, .second, oI p2, oR aNONE, oJ (1 : Int64), .second, oI (p2 &&& (65535 : Int32)), oD (FP.l2d (1 : Int64)), .second, .unset, .unset, .unset] [(.ref aNONE)]))
      refine own_via (fun t kz => XS.lload X5.here hx rfl (hb hby at_38) rfl kz) ?_
      show own_Go p e below _ (T5.setTop (mkF m 40 #[oI p0, oJ p1, .second, oI p2, oR aNONE, oJ (1 : Int64), .second, oI (p2 &&& (65535 : Int32)), oD (FP.l2d (1 : Int64)), .second, .unset, .unset, .unset] [(.long (1 : Int64)), (.ref aNONE)]))
      refine own_via (fun t kz => XS.iload X5.here hx rfl (hb hby at_40) rfl kz) ?_
      show own_Go p e below _ (T5.setTop (mkF m 42 #[oI p0, oJ p1, .second, oI p2, oR aNONE, oJ (1 : Int64), .second, oI (p2 &&& (65535 : Int32)), oD (FP.l2d (1 : Int64)), .second, .unset, .unset, .unset] [(.int (p2 &&& (65535 : Int32))), (.long (1 : Int64)), (.ref aNONE)]))
      refine own_via (fun t kz => XS.iconst X5.here hx rfl (hb hby at_42) kz) ?_
      show own_Go p e below _ (T5.setTop (mkF m 43 #[oI p0, oJ p1, .second, oI p2, oR aNONE, oJ (1 : Int64), .second, oI (p2 &&& (65535 : Int32)), oD (FP.l2d (1 : Int64)), .second, .unset, .unset, .unset] [(.int (1 : Int32)), (.int (p2 &&& (65535 : Int32))), (.long (1 : Int64)), (.ref aNONE)]))
      refine own_via (fun t kz => XS.iadd X5.here hx rfl (hb hby at_43) rfl kz) ?_
      show own_Go p e below _ (T5.setTop (mkF m 44 #[oI p0, oJ p1, .second, oI p2, oR aNONE, oJ (1 : Int64), .second, oI (p2 &&& (65535 : Int32)), oD (FP.l2d (1 : Int64)), .second, .unset, .unset, .unset] [(.int ((p2 &&& (65535 : Int32)) + (1 : Int32))), (.long (1 : Int64)), (.ref aNONE)]))
      obtain ⟨cq7, kq7, qa7, qb7, qc7⟩ := isOf hZ e5 E_NONE
      obtain ⟨_, _, ⟨T7, L7, k7, n7⟩, -, X7, ⟨Lc7, hQ7, l7, y7, z7⟩, st7⟩ := X5.virtualBack hx (y := (⟨"com/example/coupewise/coupewise/Bias", "weight", "(JI)D"⟩ : MethodName)) (z := (⟨"com/example/coupewise/coupewise/Bias", "weight", "(JI)D"⟩ : MethodName)) hown (mvT hZ (own_w hw 8)) (mvT hZ (own_w hw 9)) (notFace_of_selects (args := #[]) (mvT hZ (own_w hw 11))) (mvT hZ (own_w hw 11)) (mvT hZ (own_w hw 10)) (by decide) (backOf (W := 0) (rm2_0 l Z a0 hw [] aNONE (1 : Int64) ((p2 &&& (65535 : Int32)) + (1 : Int32)) (FP.l2d (1 : Int64)) h0 n0 Z0 E_NONE F_NONE_ordinal (by unfold f2_0; rfl)) hZ (own_w hw 12) (own_w hw 5) (by decide) (by decide)) qa7 qc7 (g := (mkF m 44 #[oI p0, oJ p1, .second, oI p2, oR aNONE, oJ (1 : Int64), .second, oI (p2 &&& (65535 : Int32)), oD (FP.l2d (1 : Int64)), .second, .unset, .unset, .unset] [(.int ((p2 &&& (65535 : Int32)) + (1 : Int32))), (.long (1 : Int64)), (.ref aNONE)])) rfl (by rw [hml]; rfl) (Steps.refl _) (argsL := [(.long (1 : Int64)), (.int ((p2 &&& (65535 : Int32)) + (1 : Int32)))]) (rest := []) (lenOf pd_0_1 rfl) rfl (by show 2 * 0 + _ ≤ _; exact Nat.le_of_eq rfl) (hb hby at_44) (fun _ _ => ⟨rfl, e5, (by decide : 0 + 0 ≤ _), (by decide : 0 + 0 ≤ _)⟩)
      dsimp only [Pt.U, Pt.locs, Pt.cells, Pt.slots] at X7 l7 y7 z7 st7 hQ7
      subst l7 y7 z7
      obtain ⟨rfl, Nq7, e7⟩ := hQ7
      have N8 := Fr.app N6 Nq7
      refine own_tr st7 ?_
      show own_Go p e below _ (T7.setTop (mkF m 47 #[oI p0, oJ p1, .second, oI p2, oR aNONE, oJ (1 : Int64), .second, oI (p2 &&& (65535 : Int32)), oD (FP.l2d (1 : Int64)), .second, .unset, .unset, .unset] [(.double (FP.l2d (1 : Int64)))]))
      refine own_via (fun t kz => XS.dstore X7.here hx rfl (hb hby at_47) rfl (l' := #[oI p0, oJ p1, .second, oI p2, oR aNONE, oJ (1 : Int64), .second, oI (p2 &&& (65535 : Int32)), oD (FP.l2d (1 : Int64)), .second, oD (FP.l2d (1 : Int64)), .second, .unset]) rfl kz) ?_
      show own_Go p e below _ (T7.setTop (mkF m 49 #[oI p0, oJ p1, .second, oI p2, oR aNONE, oJ (1 : Int64), .second, oI (p2 &&& (65535 : Int32)), oD (FP.l2d (1 : Int64)), .second, oD (FP.l2d (1 : Int64)), .second, .unset] []))
      refine own_via (fun t kz => XS.dload X7.here hx rfl (hb hby at_49) rfl kz) ?_
      show own_Go p e below _ (T7.setTop (mkF m 51 #[oI p0, oJ p1, .second, oI p2, oR aNONE, oJ (1 : Int64), .second, oI (p2 &&& (65535 : Int32)), oD (FP.l2d (1 : Int64)), .second, oD (FP.l2d (1 : Int64)), .second, .unset] [(.double (FP.l2d (1 : Int64)))]))
      refine own_via (fun t kz => XS.dload X7.here hx rfl (hb hby at_51) rfl kz) ?_
      show own_Go p e below _ (T7.setTop (mkF m 53 #[oI p0, oJ p1, .second, oI p2, oR aNONE, oJ (1 : Int64), .second, oI (p2 &&& (65535 : Int32)), oD (FP.l2d (1 : Int64)), .second, oD (FP.l2d (1 : Int64)), .second, .unset] [(.double (FP.l2d (1 : Int64))), (.double (FP.l2d (1 : Int64)))]))
      refine own_via (fun t kz => XS.dcmpS X7.here hx rfl (hb hby at_53) rfl (dcmpV_self (l2d_fin _).noNaN .l) kz) ?_
      show own_Go p e below _ (T7.setTop (mkF m 54 #[oI p0, oJ p1, .second, oI p2, oR aNONE, oJ (1 : Int64), .second, oI (p2 &&& (65535 : Int32)), oD (FP.l2d (1 : Int64)), .second, oD (FP.l2d (1 : Int64)), .second, .unset] [(.int (0 : Int32))]))
      refine own_via (fun t kz => XS.ifYes X7.here hx rfl (pc0 := 54) (pc' := 61) rfl (hb hby at_54) rfl ((if0 _ _).trans (teq (by decide : (0 : Int32) = (0 : Int32))).1) (by decide) (by decide) kz) ?_
      show own_Go p e below _ (T7.setTop (mkF m 61 #[oI p0, oJ p1, .second, oI p2, oR aNONE, oJ (1 : Int64), .second, oI (p2 &&& (65535 : Int32)), oD (FP.l2d (1 : Int64)), .second, oD (FP.l2d (1 : Int64)), .second, .unset] []))
      refine own_via (fun t kz => XS.iconst X7.here hx rfl (hb hby at_61) kz) ?_
      show own_Go p e below _ (T7.setTop (mkF m 62 #[oI p0, oJ p1, .second, oI p2, oR aNONE, oJ (1 : Int64), .second, oI (p2 &&& (65535 : Int32)), oD (FP.l2d (1 : Int64)), .second, oD (FP.l2d (1 : Int64)), .second, .unset] [(.int (0 : Int32))]))
      refine own_via (fun t kz => XS.istore X7.here hx rfl (hb hby at_62) rfl (l' := #[oI p0, oJ p1, .second, oI p2, oR aNONE, oJ (1 : Int64), .second, oI (p2 &&& (65535 : Int32)), oD (FP.l2d (1 : Int64)), .second, oD (FP.l2d (1 : Int64)), .second, oI (0 : Int32)]) rfl kz) ?_
      show own_Go p e below _ (T7.setTop (mkF m 64 #[oI p0, oJ p1, .second, oI p2, oR aNONE, oJ (1 : Int64), .second, oI (p2 &&& (65535 : Int32)), oD (FP.l2d (1 : Int64)), .second, oD (FP.l2d (1 : Int64)), .second, oI (0 : Int32)] []))
      refine own_via (fun t kz => XS.aload X7.here hx rfl (hb hby at_64) rfl rfl kz) ?_
      show own_Go p e below _ (T7.setTop (mkF m 66 #[oI p0, oJ p1, .second, oI p2, oR aNONE, oJ (1 : Int64), .second, oI (p2 &&& (65535 : Int32)), oD (FP.l2d (1 : Int64)), .second, oD (FP.l2d (1 : Int64)), .second, oI (0 : Int32)] [(.ref aNONE)]))
      obtain ⟨cq9, kq9, qa9, qb9, qc9⟩ := isOf hZ e7 E_NONE
      obtain ⟨_, _, ⟨T9, L9, k9, n9⟩, -, X9, ⟨Lc9, hQ9, l9, y9, z9⟩, st9⟩ := X7.virtualBack hx (y := (⟨"com/example/coupewise/coupewise/Bias", "countsNeighbours", "()Z"⟩ : MethodName)) (z := (⟨"com/example/coupewise/coupewise/Bias", "countsNeighbours", "()Z"⟩ : MethodName)) hown (mvT hZ (own_w hw 22)) (mvT hZ (own_w hw 23)) (notFace_of_selects (args := #[]) (mvT hZ (own_w hw 25))) (mvT hZ (own_w hw 25)) (mvT hZ (own_w hw 24)) (by decide) (backOf (W := 0) (rm4 l Z a0 hw [] aNONE aNEIGHBOURS aBOTH (0 : Int32) h0 n0 Z0 S_NEIGHBOURS S_BOTH (by unfold f4; rw [if_neg ne_NONE_NEIGHBOURS, if_neg ne_NONE_BOTH])) hZ (own_w hw 26) (own_w hw 5) (by decide) (by decide)) qa9 qc9 (g := (mkF m 66 #[oI p0, oJ p1, .second, oI p2, oR aNONE, oJ (1 : Int64), .second, oI (p2 &&& (65535 : Int32)), oD (FP.l2d (1 : Int64)), .second, oD (FP.l2d (1 : Int64)), .second, oI (0 : Int32)] [(.ref aNONE)])) rfl (by rw [hml]; rfl) (Steps.refl _) (argsL := []) (rest := []) (lenOf pd_0_2 rfl) rfl (by show 2 * 0 + _ ≤ _; exact Nat.le_of_eq rfl) (hb hby at_66) (fun _ _ => ⟨rfl, e7, (by decide : 0 + 0 ≤ _), (by decide : 0 + 0 ≤ _)⟩)
      dsimp only [Pt.U, Pt.locs, Pt.cells, Pt.slots] at X9 l9 y9 z9 st9 hQ9
      subst l9 y9 z9
      obtain ⟨rfl, Nq9, e9⟩ := hQ9
      have N10 := Fr.app N8 Nq9
      refine own_tr st9 ?_
      show own_Go p e below _ (T9.setTop (mkF m 69 #[oI p0, oJ p1, .second, oI p2, oR aNONE, oJ (1 : Int64), .second, oI (p2 &&& (65535 : Int32)), oD (FP.l2d (1 : Int64)), .second, oD (FP.l2d (1 : Int64)), .second, oI (0 : Int32)] [(.int (0 : Int32))]))
      refine own_via (fun t kz => XS.iload X9.here hx rfl (hb hby at_69) rfl kz) ?_
      show own_Go p e below _ (T9.setTop (mkF m 71 #[oI p0, oJ p1, .second, oI p2, oR aNONE, oJ (1 : Int64), .second, oI (p2 &&& (65535 : Int32)), oD (FP.l2d (1 : Int64)), .second, oD (FP.l2d (1 : Int64)), .second, oI (0 : Int32)] [(.int (0 : Int32)), (.int (0 : Int32))]))
      refine own_via (fun t kz => XS.icmpNo X9.here hx rfl (hb hby at_71) rfl (teq (by decide : (0 : Int32) = (0 : Int32))).2 kz) ?_
      show own_Go p e below _ (T9.setTop (mkF m 74 #[oI p0, oJ p1, .second, oI p2, oR aNONE, oJ (1 : Int64), .second, oI (p2 &&& (65535 : Int32)), oD (FP.l2d (1 : Int64)), .second, oD (FP.l2d (1 : Int64)), .second, oI (0 : Int32)] []))
      refine own_via (fun t kz => XS.iconst X9.here hx rfl (hb hby at_74) kz) ?_
      show own_Go p e below _ (T9.setTop (mkF m 75 #[oI p0, oJ p1, .second, oI p2, oR aNONE, oJ (1 : Int64), .second, oI (p2 &&& (65535 : Int32)), oD (FP.l2d (1 : Int64)), .second, oD (FP.l2d (1 : Int64)), .second, oI (0 : Int32)] [(.int (1 : Int32))]))
      refine own_via (fun t kz => XS.goto X9.here hx rfl (pc0 := 75) (pc' := 79) rfl (hb hby at_75) (by decide) (by decide) kz) ?_
      show own_Go p e below _ (T9.setTop (mkF m 79 #[oI p0, oJ p1, .second, oI p2, oR aNONE, oJ (1 : Int64), .second, oI (p2 &&& (65535 : Int32)), oD (FP.l2d (1 : Int64)), .second, oD (FP.l2d (1 : Int64)), .second, oI (0 : Int32)] [(.int (1 : Int32))]))
      obtain ⟨fs, hr, hrun, hended, hW, hsame⟩ := X9.leave (v := some (.int (1 : Int32))) (fun h => by rw [Bd.returns] at h; cases h)
      refine ⟨_, _, retN X9 hx (t := .boolean) Bd.returns (by simp) (hb hby at_79) hr, hrun, hended, _, _, rfl, ?_, ⟨_, rfl⟩, hW, hsame.mono (by decide) (by decide)⟩
      show Q0 Z p0 p1 p2 aNONE aNEIGHBOURS aBOTH aVOLUME h0 n0 _ T9.heap _
      rw [e9]
      exact ⟨rfl, N10⟩
    · refine own_via (fun t kz => XS.ifYes X2.here hx rfl (pc0 := 13) (pc' := 19) rfl (hb hby at_13) rfl ((if0 _ _).trans (feq (fun q => hc13_4 ((lw_eq _ _).mp q))).2) (by decide) (by decide) kz) ?_
      show own_Go p e below _ (T2.setTop (mkF m 19 #[oI p0, oJ p1, .second, oI p2, oR aNONE, oJ p1, .second, .unset, .unset, .unset, .unset, .unset, .unset] []))
      refine own_via (fun t kz => XS.iloadN X2.here hx rfl (hb hby at_19) rfl kz) ?_
      show own_Go p e below _ (T2.setTop (mkF m 20 #[oI p0, oJ p1, .second, oI p2, oR aNONE, oJ p1, .second, .unset, .unset, .unset, .unset, .unset, .unset] [(.int p2)]))
      refine own_via (fun t kz => X2.ldcInt hx hown (mvT hZ (own_w hw 7)) (g := (mkF m 20 #[oI p0, oJ p1, .second, oI p2, oR aNONE, oJ p1, .second, .unset, .unset, .unset, .unset, .unset, .unset] [(.int p2)])) rfl (hb hby at_20) t kz) ?_
      show own_Go p e below _ (T2.setTop (mkF m 22 #[oI p0, oJ p1, .second, oI p2, oR aNONE, oJ p1, .second, .unset, .unset, .unset, .unset, .unset, .unset] [(.int (65535 : Int32)), (.int p2)]))
      refine own_via (fun t kz => XS.iand X2.here hx rfl (hb hby at_22) rfl kz) ?_
      show own_Go p e below _ (T2.setTop (mkF m 23 #[oI p0, oJ p1, .second, oI p2, oR aNONE, oJ p1, .second, .unset, .unset, .unset, .unset, .unset, .unset] [(.int (p2 &&& (65535 : Int32)))]))
      refine own_via (fun t kz => XS.istore X2.here hx rfl (hb hby at_23) rfl (l' := #[oI p0, oJ p1, .second, oI p2, oR aNONE, oJ p1, .second, oI (p2 &&& (65535 : Int32)), .unset, .unset, .unset, .unset, .unset]) rfl kz) ?_
      show own_Go p e below _ (T2.setTop (mkF m 25 #[oI p0, oJ p1, .second, oI p2, oR aNONE, oJ p1, .second, oI (p2 &&& (65535 : Int32)), .unset, .unset, .unset, .unset, .unset] []))
      refine own_via (fun t kz => XS.aload X2.here hx rfl (hb hby at_25) rfl rfl kz) ?_
      show own_Go p e below _ (T2.setTop (mkF m 27 #[oI p0, oJ p1, .second, oI p2, oR aNONE, oJ p1, .second, oI (p2 &&& (65535 : Int32)), .unset, .unset, .unset, .unset, .unset] [(.ref aNONE)]))
      refine own_via (fun t kz => XS.lload X2.here hx rfl (hb hby at_27) rfl kz) ?_
      show own_Go p e below _ (T2.setTop (mkF m 29 #[oI p0, oJ p1, .second, oI p2, oR aNONE, oJ p1, .second, oI (p2 &&& (65535 : Int32)), .unset, .unset, .unset, .unset, .unset] [(.long p1), (.ref aNONE)]))
      refine own_via (fun t kz => XS.iload X2.here hx rfl (hb hby at_29) rfl kz) ?_
      show own_Go p e below _ (T2.setTop (mkF m 31 #[oI p0, oJ p1, .second, oI p2, oR aNONE, oJ p1, .second, oI (p2 &&& (65535 : Int32)), .unset, .unset, .unset, .unset, .unset] [(.int (p2 &&& (65535 : Int32))), (.long p1), (.ref aNONE)]))
      obtain ⟨cq12, kq12, qa12, qb12, qc12⟩ := isOf hZ e2 E_NONE
      obtain ⟨_, _, ⟨T12, L12, k12, n12⟩, -, X12, ⟨Lc12, hQ12, l12, y12, z12⟩, st12⟩ := X2.virtualBack hx (y := (⟨"com/example/coupewise/coupewise/Bias", "weight", "(JI)D"⟩ : MethodName)) (z := (⟨"com/example/coupewise/coupewise/Bias", "weight", "(JI)D"⟩ : MethodName)) hown (mvT hZ (own_w hw 8)) (mvT hZ (own_w hw 9)) (notFace_of_selects (args := #[]) (mvT hZ (own_w hw 11))) (mvT hZ (own_w hw 11)) (mvT hZ (own_w hw 10)) (by decide) (backOf (W := 0) (rm2_0 l Z a0 hw [] aNONE p1 (p2 &&& (65535 : Int32)) (FP.l2d (1 : Int64)) h0 n0 Z0 E_NONE F_NONE_ordinal (by unfold f2_0; rfl)) hZ (own_w hw 12) (own_w hw 5) (by decide) (by decide)) qa12 qc12 (g := (mkF m 31 #[oI p0, oJ p1, .second, oI p2, oR aNONE, oJ p1, .second, oI (p2 &&& (65535 : Int32)), .unset, .unset, .unset, .unset, .unset] [(.int (p2 &&& (65535 : Int32))), (.long p1), (.ref aNONE)])) rfl (by rw [hml]; rfl) (Steps.refl _) (argsL := [(.long p1), (.int (p2 &&& (65535 : Int32)))]) (rest := []) (lenOf pd_0_1 rfl) rfl (by show 2 * 0 + _ ≤ _; exact Nat.le_of_eq rfl) (hb hby at_31) (fun _ _ => ⟨rfl, e2, (by decide : 0 + 0 ≤ _), (by decide : 0 + 0 ≤ _)⟩)
      dsimp only [Pt.U, Pt.locs, Pt.cells, Pt.slots] at X12 l12 y12 z12 st12 hQ12
      subst l12 y12 z12
      obtain ⟨rfl, Nq12, e12⟩ := hQ12
      have N13 := Fr.app N3 Nq12
      refine own_tr st12 ?_
      show own_Go p e below _ (T12.setTop (mkF m 34 #[oI p0, oJ p1, .second, oI p2, oR aNONE, oJ p1, .second, oI (p2 &&& (65535 : Int32)), .unset, .unset, .unset, .unset, .unset] [(.double (FP.l2d (1 : Int64)))]))
      refine own_via (fun t kz => XS.dstore X12.here hx rfl (hb hby at_34) rfl (l' := #[oI p0, oJ p1, .second, oI p2, oR aNONE, oJ p1, .second, oI (p2 &&& (65535 : Int32)), oD (FP.l2d (1 : Int64)), .second, .unset, .unset, .unset]) rfl kz) ?_
      show own_Go p e below _ (T12.setTop (mkF m 36 #[oI p0, oJ p1, .second, oI p2, oR aNONE, oJ p1, .second, oI (p2 &&& (65535 : Int32)), oD (FP.l2d (1 : Int64)), .second, .unset, .unset, .unset] []))
      refine own_via (fun t kz => XS.aload X12.here hx rfl (hb hby at_36) rfl rfl kz) ?_
      show own_Go p e below _ (T12.setTop (mkF m 38 #[oI p0, oJ p1, .second, oI p2, oR aNONE, oJ p1, .second, oI (p2 &&& (65535 : Int32)), oD (FP.l2d (1 : Int64)), .second, .unset, .unset, .unset] [(.ref aNONE)]))
      refine own_via (fun t kz => XS.lload X12.here hx rfl (hb hby at_38) rfl kz) ?_
      show own_Go p e below _ (T12.setTop (mkF m 40 #[oI p0, oJ p1, .second, oI p2, oR aNONE, oJ p1, .second, oI (p2 &&& (65535 : Int32)), oD (FP.l2d (1 : Int64)), .second, .unset, .unset, .unset] [(.long p1), (.ref aNONE)]))
      refine own_via (fun t kz => XS.iload X12.here hx rfl (hb hby at_40) rfl kz) ?_
      show own_Go p e below _ (T12.setTop (mkF m 42 #[oI p0, oJ p1, .second, oI p2, oR aNONE, oJ p1, .second, oI (p2 &&& (65535 : Int32)), oD (FP.l2d (1 : Int64)), .second, .unset, .unset, .unset] [(.int (p2 &&& (65535 : Int32))), (.long p1), (.ref aNONE)]))
      refine own_via (fun t kz => XS.iconst X12.here hx rfl (hb hby at_42) kz) ?_
      show own_Go p e below _ (T12.setTop (mkF m 43 #[oI p0, oJ p1, .second, oI p2, oR aNONE, oJ p1, .second, oI (p2 &&& (65535 : Int32)), oD (FP.l2d (1 : Int64)), .second, .unset, .unset, .unset] [(.int (1 : Int32)), (.int (p2 &&& (65535 : Int32))), (.long p1), (.ref aNONE)]))
      refine own_via (fun t kz => XS.iadd X12.here hx rfl (hb hby at_43) rfl kz) ?_
      show own_Go p e below _ (T12.setTop (mkF m 44 #[oI p0, oJ p1, .second, oI p2, oR aNONE, oJ p1, .second, oI (p2 &&& (65535 : Int32)), oD (FP.l2d (1 : Int64)), .second, .unset, .unset, .unset] [(.int ((p2 &&& (65535 : Int32)) + (1 : Int32))), (.long p1), (.ref aNONE)]))
      obtain ⟨cq14, kq14, qa14, qb14, qc14⟩ := isOf hZ e12 E_NONE
      obtain ⟨_, _, ⟨T14, L14, k14, n14⟩, -, X14, ⟨Lc14, hQ14, l14, y14, z14⟩, st14⟩ := X12.virtualBack hx (y := (⟨"com/example/coupewise/coupewise/Bias", "weight", "(JI)D"⟩ : MethodName)) (z := (⟨"com/example/coupewise/coupewise/Bias", "weight", "(JI)D"⟩ : MethodName)) hown (mvT hZ (own_w hw 8)) (mvT hZ (own_w hw 9)) (notFace_of_selects (args := #[]) (mvT hZ (own_w hw 11))) (mvT hZ (own_w hw 11)) (mvT hZ (own_w hw 10)) (by decide) (backOf (W := 0) (rm2_0 l Z a0 hw [] aNONE p1 ((p2 &&& (65535 : Int32)) + (1 : Int32)) (FP.l2d (1 : Int64)) h0 n0 Z0 E_NONE F_NONE_ordinal (by unfold f2_0; rfl)) hZ (own_w hw 12) (own_w hw 5) (by decide) (by decide)) qa14 qc14 (g := (mkF m 44 #[oI p0, oJ p1, .second, oI p2, oR aNONE, oJ p1, .second, oI (p2 &&& (65535 : Int32)), oD (FP.l2d (1 : Int64)), .second, .unset, .unset, .unset] [(.int ((p2 &&& (65535 : Int32)) + (1 : Int32))), (.long p1), (.ref aNONE)])) rfl (by rw [hml]; rfl) (Steps.refl _) (argsL := [(.long p1), (.int ((p2 &&& (65535 : Int32)) + (1 : Int32)))]) (rest := []) (lenOf pd_0_1 rfl) rfl (by show 2 * 0 + _ ≤ _; exact Nat.le_of_eq rfl) (hb hby at_44) (fun _ _ => ⟨rfl, e12, (by decide : 0 + 0 ≤ _), (by decide : 0 + 0 ≤ _)⟩)
      dsimp only [Pt.U, Pt.locs, Pt.cells, Pt.slots] at X14 l14 y14 z14 st14 hQ14
      subst l14 y14 z14
      obtain ⟨rfl, Nq14, e14⟩ := hQ14
      have N15 := Fr.app N13 Nq14
      refine own_tr st14 ?_
      show own_Go p e below _ (T14.setTop (mkF m 47 #[oI p0, oJ p1, .second, oI p2, oR aNONE, oJ p1, .second, oI (p2 &&& (65535 : Int32)), oD (FP.l2d (1 : Int64)), .second, .unset, .unset, .unset] [(.double (FP.l2d (1 : Int64)))]))
      refine own_via (fun t kz => XS.dstore X14.here hx rfl (hb hby at_47) rfl (l' := #[oI p0, oJ p1, .second, oI p2, oR aNONE, oJ p1, .second, oI (p2 &&& (65535 : Int32)), oD (FP.l2d (1 : Int64)), .second, oD (FP.l2d (1 : Int64)), .second, .unset]) rfl kz) ?_
      show own_Go p e below _ (T14.setTop (mkF m 49 #[oI p0, oJ p1, .second, oI p2, oR aNONE, oJ p1, .second, oI (p2 &&& (65535 : Int32)), oD (FP.l2d (1 : Int64)), .second, oD (FP.l2d (1 : Int64)), .second, .unset] []))
      refine own_via (fun t kz => XS.dload X14.here hx rfl (hb hby at_49) rfl kz) ?_
      show own_Go p e below _ (T14.setTop (mkF m 51 #[oI p0, oJ p1, .second, oI p2, oR aNONE, oJ p1, .second, oI (p2 &&& (65535 : Int32)), oD (FP.l2d (1 : Int64)), .second, oD (FP.l2d (1 : Int64)), .second, .unset] [(.double (FP.l2d (1 : Int64)))]))
      refine own_via (fun t kz => XS.dload X14.here hx rfl (hb hby at_51) rfl kz) ?_
      show own_Go p e below _ (T14.setTop (mkF m 53 #[oI p0, oJ p1, .second, oI p2, oR aNONE, oJ p1, .second, oI (p2 &&& (65535 : Int32)), oD (FP.l2d (1 : Int64)), .second, oD (FP.l2d (1 : Int64)), .second, .unset] [(.double (FP.l2d (1 : Int64))), (.double (FP.l2d (1 : Int64)))]))
      refine own_via (fun t kz => XS.dcmpS X14.here hx rfl (hb hby at_53) rfl (dcmpV_self (l2d_fin _).noNaN .l) kz) ?_
      show own_Go p e below _ (T14.setTop (mkF m 54 #[oI p0, oJ p1, .second, oI p2, oR aNONE, oJ p1, .second, oI (p2 &&& (65535 : Int32)), oD (FP.l2d (1 : Int64)), .second, oD (FP.l2d (1 : Int64)), .second, .unset] [(.int (0 : Int32))]))
      refine own_via (fun t kz => XS.ifYes X14.here hx rfl (pc0 := 54) (pc' := 61) rfl (hb hby at_54) rfl ((if0 _ _).trans (teq (by decide : (0 : Int32) = (0 : Int32))).1) (by decide) (by decide) kz) ?_
      show own_Go p e below _ (T14.setTop (mkF m 61 #[oI p0, oJ p1, .second, oI p2, oR aNONE, oJ p1, .second, oI (p2 &&& (65535 : Int32)), oD (FP.l2d (1 : Int64)), .second, oD (FP.l2d (1 : Int64)), .second, .unset] []))
      refine own_via (fun t kz => XS.iconst X14.here hx rfl (hb hby at_61) kz) ?_
      show own_Go p e below _ (T14.setTop (mkF m 62 #[oI p0, oJ p1, .second, oI p2, oR aNONE, oJ p1, .second, oI (p2 &&& (65535 : Int32)), oD (FP.l2d (1 : Int64)), .second, oD (FP.l2d (1 : Int64)), .second, .unset] [(.int (0 : Int32))]))
      refine own_via (fun t kz => XS.istore X14.here hx rfl (hb hby at_62) rfl (l' := #[oI p0, oJ p1, .second, oI p2, oR aNONE, oJ p1, .second, oI (p2 &&& (65535 : Int32)), oD (FP.l2d (1 : Int64)), .second, oD (FP.l2d (1 : Int64)), .second, oI (0 : Int32)]) rfl kz) ?_
      show own_Go p e below _ (T14.setTop (mkF m 64 #[oI p0, oJ p1, .second, oI p2, oR aNONE, oJ p1, .second, oI (p2 &&& (65535 : Int32)), oD (FP.l2d (1 : Int64)), .second, oD (FP.l2d (1 : Int64)), .second, oI (0 : Int32)] []))
      refine own_via (fun t kz => XS.aload X14.here hx rfl (hb hby at_64) rfl rfl kz) ?_
      show own_Go p e below _ (T14.setTop (mkF m 66 #[oI p0, oJ p1, .second, oI p2, oR aNONE, oJ p1, .second, oI (p2 &&& (65535 : Int32)), oD (FP.l2d (1 : Int64)), .second, oD (FP.l2d (1 : Int64)), .second, oI (0 : Int32)] [(.ref aNONE)]))
      obtain ⟨cq16, kq16, qa16, qb16, qc16⟩ := isOf hZ e14 E_NONE
      obtain ⟨_, _, ⟨T16, L16, k16, n16⟩, -, X16, ⟨Lc16, hQ16, l16, y16, z16⟩, st16⟩ := X14.virtualBack hx (y := (⟨"com/example/coupewise/coupewise/Bias", "countsNeighbours", "()Z"⟩ : MethodName)) (z := (⟨"com/example/coupewise/coupewise/Bias", "countsNeighbours", "()Z"⟩ : MethodName)) hown (mvT hZ (own_w hw 22)) (mvT hZ (own_w hw 23)) (notFace_of_selects (args := #[]) (mvT hZ (own_w hw 25))) (mvT hZ (own_w hw 25)) (mvT hZ (own_w hw 24)) (by decide) (backOf (W := 0) (rm4 l Z a0 hw [] aNONE aNEIGHBOURS aBOTH (0 : Int32) h0 n0 Z0 S_NEIGHBOURS S_BOTH (by unfold f4; rw [if_neg ne_NONE_NEIGHBOURS, if_neg ne_NONE_BOTH])) hZ (own_w hw 26) (own_w hw 5) (by decide) (by decide)) qa16 qc16 (g := (mkF m 66 #[oI p0, oJ p1, .second, oI p2, oR aNONE, oJ p1, .second, oI (p2 &&& (65535 : Int32)), oD (FP.l2d (1 : Int64)), .second, oD (FP.l2d (1 : Int64)), .second, oI (0 : Int32)] [(.ref aNONE)])) rfl (by rw [hml]; rfl) (Steps.refl _) (argsL := []) (rest := []) (lenOf pd_0_2 rfl) rfl (by show 2 * 0 + _ ≤ _; exact Nat.le_of_eq rfl) (hb hby at_66) (fun _ _ => ⟨rfl, e14, (by decide : 0 + 0 ≤ _), (by decide : 0 + 0 ≤ _)⟩)
      dsimp only [Pt.U, Pt.locs, Pt.cells, Pt.slots] at X16 l16 y16 z16 st16 hQ16
      subst l16 y16 z16
      obtain ⟨rfl, Nq16, e16⟩ := hQ16
      have N17 := Fr.app N15 Nq16
      refine own_tr st16 ?_
      show own_Go p e below _ (T16.setTop (mkF m 69 #[oI p0, oJ p1, .second, oI p2, oR aNONE, oJ p1, .second, oI (p2 &&& (65535 : Int32)), oD (FP.l2d (1 : Int64)), .second, oD (FP.l2d (1 : Int64)), .second, oI (0 : Int32)] [(.int (0 : Int32))]))
      refine own_via (fun t kz => XS.iload X16.here hx rfl (hb hby at_69) rfl kz) ?_
      show own_Go p e below _ (T16.setTop (mkF m 71 #[oI p0, oJ p1, .second, oI p2, oR aNONE, oJ p1, .second, oI (p2 &&& (65535 : Int32)), oD (FP.l2d (1 : Int64)), .second, oD (FP.l2d (1 : Int64)), .second, oI (0 : Int32)] [(.int (0 : Int32)), (.int (0 : Int32))]))
      refine own_via (fun t kz => XS.icmpNo X16.here hx rfl (hb hby at_71) rfl (teq (by decide : (0 : Int32) = (0 : Int32))).2 kz) ?_
      show own_Go p e below _ (T16.setTop (mkF m 74 #[oI p0, oJ p1, .second, oI p2, oR aNONE, oJ p1, .second, oI (p2 &&& (65535 : Int32)), oD (FP.l2d (1 : Int64)), .second, oD (FP.l2d (1 : Int64)), .second, oI (0 : Int32)] []))
      refine own_via (fun t kz => XS.iconst X16.here hx rfl (hb hby at_74) kz) ?_
      show own_Go p e below _ (T16.setTop (mkF m 75 #[oI p0, oJ p1, .second, oI p2, oR aNONE, oJ p1, .second, oI (p2 &&& (65535 : Int32)), oD (FP.l2d (1 : Int64)), .second, oD (FP.l2d (1 : Int64)), .second, oI (0 : Int32)] [(.int (1 : Int32))]))
      refine own_via (fun t kz => XS.goto X16.here hx rfl (pc0 := 75) (pc' := 79) rfl (hb hby at_75) (by decide) (by decide) kz) ?_
      show own_Go p e below _ (T16.setTop (mkF m 79 #[oI p0, oJ p1, .second, oI p2, oR aNONE, oJ p1, .second, oI (p2 &&& (65535 : Int32)), oD (FP.l2d (1 : Int64)), .second, oD (FP.l2d (1 : Int64)), .second, oI (0 : Int32)] [(.int (1 : Int32))]))
      obtain ⟨fs, hr, hrun, hended, hW, hsame⟩ := X16.leave (v := some (.int (1 : Int32))) (fun h => by rw [Bd.returns] at h; cases h)
      refine ⟨_, _, retN X16 hx (t := .boolean) Bd.returns (by simp) (hb hby at_79) hr, hrun, hended, _, _, rfl, ?_, ⟨_, rfl⟩, hW, hsame.mono (by decide) (by decide)⟩
      show Q0 Z p0 p1 p2 aNONE aNEIGHBOURS aBOTH aVOLUME h0 n0 _ T16.heap _
      rw [e16]
      exact ⟨rfl, N17⟩
  · by_cases hc1_19 : (p0 &&& (3 : Int32)) = (1 : Int32)
    · obtain ⟨_, _, ⟨T20, L20, k20, n20⟩, -, X20, ⟨Lc20, hQ20, l20, y20, z20⟩, st20⟩ := Jvm.LawKit.callS X0 hx (y := (⟨"com/example/coupewise/coupewise/BiasCountsNeighboursPinLaw", "pick", "(I)Lcom/example/coupewise/coupewise/Bias;"⟩ : MethodName)) hown (mvT hZ (own_w hw 0)) (mvT hZ (own_w hw 1)) (mvT hZ (own_w hw 2)) (mvT hZ (own_w hw 3)) (by decide) (backOf (W := 0) (rm1 l Z a0 hw [] p0 aNONE aVOLUME aNEIGHBOURS aBOTH aVOLUME h0 n0 Z0 S_NONE S_VOLUME S_NEIGHBOURS S_BOTH (by unfold f1; rw [if_neg hc1_1, if_pos hc1_19])) hZ (own_w hw 3) (own_w hw 2) (by decide) (by decide)) (g := (mkF m 1 #[oI p0, oJ p1, .second, oI p2, .unset, .unset, .unset, .unset, .unset, .unset, .unset, .unset, .unset] [(.int p0)])) rfl (by rw [hml]; rfl) (argsL := [(.int p0)]) (rest := []) (lenOf pd_0_0 rfl) rfl (by show 2 * 0 + _ ≤ _; exact Nat.le_of_eq rfl) (hb hby at_1) (fun _ _ => ⟨rfl, e0, (by decide : 0 + 0 ≤ _), (by decide : 0 + 0 ≤ _)⟩)
      dsimp only [Pt.U, Pt.locs, Pt.cells, Pt.slots] at X20 l20 y20 z20 st20 hQ20
      subst l20 y20 z20
      obtain ⟨rfl, Nq20, e20⟩ := hQ20
      have N21 := Fr.app N0 Nq20
      refine own_via st20 ?_
      show own_Go p e below _ (T20.setTop (mkF m 4 #[oI p0, oJ p1, .second, oI p2, .unset, .unset, .unset, .unset, .unset, .unset, .unset, .unset, .unset] [(.ref aVOLUME)]))
      refine own_via (fun t kz => XS.astore X20.here hx rfl (hb hby at_4) rfl rfl (l' := #[oI p0, oJ p1, .second, oI p2, oR aVOLUME, .unset, .unset, .unset, .unset, .unset, .unset, .unset, .unset]) rfl kz) ?_
      show own_Go p e below _ (T20.setTop (mkF m 6 #[oI p0, oJ p1, .second, oI p2, oR aVOLUME, .unset, .unset, .unset, .unset, .unset, .unset, .unset, .unset] []))
      refine own_via (fun t kz => XS.lloadN X20.here hx rfl (hb hby at_6) rfl kz) ?_
      show own_Go p e below _ (T20.setTop (mkF m 7 #[oI p0, oJ p1, .second, oI p2, oR aVOLUME, .unset, .unset, .unset, .unset, .unset, .unset, .unset, .unset] [(.long p1)]))
      refine own_via (fun t kz => XS.lstore X20.here hx rfl (hb hby at_7) rfl (l' := #[oI p0, oJ p1, .second, oI p2, oR aVOLUME, oJ p1, .second, .unset, .unset, .unset, .unset, .unset, .unset]) rfl kz) ?_
      show own_Go p e below _ (T20.setTop (mkF m 9 #[oI p0, oJ p1, .second, oI p2, oR aVOLUME, oJ p1, .second, .unset, .unset, .unset, .unset, .unset, .unset] []))
      refine own_via (fun t kz => XS.lload X20.here hx rfl (hb hby at_9) rfl kz) ?_
      show own_Go p e below _ (T20.setTop (mkF m 11 #[oI p0, oJ p1, .second, oI p2, oR aVOLUME, oJ p1, .second, .unset, .unset, .unset, .unset, .unset, .unset] [(.long p1)]))
      refine own_via (fun t kz => XS.lconst X20.here hx rfl (hb hby at_11) kz) ?_
      show own_Go p e below _ (T20.setTop (mkF m 12 #[oI p0, oJ p1, .second, oI p2, oR aVOLUME, oJ p1, .second, .unset, .unset, .unset, .unset, .unset, .unset] [(.long (0 : Int64)), (.long p1)]))
      refine own_via (fun t kz => XS.lcmp X20.here hx rfl (hb hby at_12) rfl kz) ?_
      show own_Go p e below _ (T20.setTop (mkF m 13 #[oI p0, oJ p1, .second, oI p2, oR aVOLUME, oJ p1, .second, .unset, .unset, .unset, .unset, .unset, .unset] [(.int (lcmpW p1 (0 : Int64)))]))
      by_cases hc13_22 : p1 = (0 : Int64)
      · refine own_via (fun t kz => XS.ifNo X20.here hx rfl (hb hby at_13) rfl ((if0 _ _).trans (teq ((lw_eq _ _).mpr hc13_22)).2) kz) ?_
        show own_Go p e below _ (T20.setTop (mkF m 16 #[oI p0, oJ p1, .second, oI p2, oR aVOLUME, oJ p1, .second, .unset, .unset, .unset, .unset, .unset, .unset] []))
        refine own_via (fun t kz => XS.lconst X20.here hx rfl (hb hby at_16) kz) ?_
        show own_Go p e below _ (T20.setTop (mkF m 17 #[oI p0, oJ p1, .second, oI p2, oR aVOLUME, oJ p1, .second, .unset, .unset, .unset, .unset, .unset, .unset] [(.long (1 : Int64))]))
        refine own_via (fun t kz => XS.lstore X20.here hx rfl (hb hby at_17) rfl (l' := #[oI p0, oJ p1, .second, oI p2, oR aVOLUME, oJ (1 : Int64), .second, .unset, .unset, .unset, .unset, .unset, .unset]) rfl kz) ?_
        show own_Go p e below _ (T20.setTop (mkF m 19 #[oI p0, oJ p1, .second, oI p2, oR aVOLUME, oJ (1 : Int64), .second, .unset, .unset, .unset, .unset, .unset, .unset] []))
        refine own_via (fun t kz => XS.iloadN X20.here hx rfl (hb hby at_19) rfl kz) ?_
        show own_Go p e below _ (T20.setTop (mkF m 20 #[oI p0, oJ p1, .second, oI p2, oR aVOLUME, oJ (1 : Int64), .second, .unset, .unset, .unset, .unset, .unset, .unset] [(.int p2)]))
        refine own_via (fun t kz => X20.ldcInt hx hown (mvT hZ (own_w hw 7)) (g := (mkF m 20 #[oI p0, oJ p1, .second, oI p2, oR aVOLUME, oJ (1 : Int64), .second, .unset, .unset, .unset, .unset, .unset, .unset] [(.int p2)])) rfl (hb hby at_20) t kz) ?_
        show own_Go p e below _ (T20.setTop (mkF m 22 #[oI p0, oJ p1, .second, oI p2, oR aVOLUME, oJ (1 : Int64), .second, .unset, .unset, .unset, .unset, .unset, .unset] [(.int (65535 : Int32)), (.int p2)]))
        refine own_via (fun t kz => XS.iand X20.here hx rfl (hb hby at_22) rfl kz) ?_
        show own_Go p e below _ (T20.setTop (mkF m 23 #[oI p0, oJ p1, .second, oI p2, oR aVOLUME, oJ (1 : Int64), .second, .unset, .unset, .unset, .unset, .unset, .unset] [(.int (p2 &&& (65535 : Int32)))]))
        refine own_via (fun t kz => XS.istore X20.here hx rfl (hb hby at_23) rfl (l' := #[oI p0, oJ p1, .second, oI p2, oR aVOLUME, oJ (1 : Int64), .second, oI (p2 &&& (65535 : Int32)), .unset, .unset, .unset, .unset, .unset]) rfl kz) ?_
        show own_Go p e below _ (T20.setTop (mkF m 25 #[oI p0, oJ p1, .second, oI p2, oR aVOLUME, oJ (1 : Int64), .second, oI (p2 &&& (65535 : Int32)), .unset, .unset, .unset, .unset, .unset] []))
        refine own_via (fun t kz => XS.aload X20.here hx rfl (hb hby at_25) rfl rfl kz) ?_
        show own_Go p e below _ (T20.setTop (mkF m 27 #[oI p0, oJ p1, .second, oI p2, oR aVOLUME, oJ (1 : Int64), .second, oI (p2 &&& (65535 : Int32)), .unset, .unset, .unset, .unset, .unset] [(.ref aVOLUME)]))
        refine own_via (fun t kz => XS.lload X20.here hx rfl (hb hby at_27) rfl kz) ?_
        show own_Go p e below _ (T20.setTop (mkF m 29 #[oI p0, oJ p1, .second, oI p2, oR aVOLUME, oJ (1 : Int64), .second, oI (p2 &&& (65535 : Int32)), .unset, .unset, .unset, .unset, .unset] [(.long (1 : Int64)), (.ref aVOLUME)]))
        refine own_via (fun t kz => XS.iload X20.here hx rfl (hb hby at_29) rfl kz) ?_
        show own_Go p e below _ (T20.setTop (mkF m 31 #[oI p0, oJ p1, .second, oI p2, oR aVOLUME, oJ (1 : Int64), .second, oI (p2 &&& (65535 : Int32)), .unset, .unset, .unset, .unset, .unset] [(.int (p2 &&& (65535 : Int32))), (.long (1 : Int64)), (.ref aVOLUME)]))
        obtain ⟨cq23, kq23, qa23, qb23, qc23⟩ := isOf hZ e20 E_VOLUME
        obtain ⟨_, _, ⟨T23, L23, k23, n23⟩, -, X23, ⟨Lc23, hQ23, l23, y23, z23⟩, st23⟩ := X20.virtualBack hx (y := (⟨"com/example/coupewise/coupewise/Bias", "weight", "(JI)D"⟩ : MethodName)) (z := (⟨"com/example/coupewise/coupewise/Bias", "weight", "(JI)D"⟩ : MethodName)) hown (mvT hZ (own_w hw 8)) (mvT hZ (own_w hw 9)) (notFace_of_selects (args := #[]) (mvT hZ (own_w hw 11))) (mvT hZ (own_w hw 11)) (mvT hZ (own_w hw 10)) (by decide) (backOf (W := 0) (rm2_1 l Z a0 hw [] aVOLUME (1 : Int64) (p2 &&& (65535 : Int32)) (FP.l2d (1 : Int64)) h0 n0 Z0 E_VOLUME F_VOLUME_ordinal (by unfold f2_1; rfl)) hZ (own_w hw 12) (own_w hw 5) (by decide) (by decide)) qa23 qc23 (g := (mkF m 31 #[oI p0, oJ p1, .second, oI p2, oR aVOLUME, oJ (1 : Int64), .second, oI (p2 &&& (65535 : Int32)), .unset, .unset, .unset, .unset, .unset] [(.int (p2 &&& (65535 : Int32))), (.long (1 : Int64)), (.ref aVOLUME)])) rfl (by rw [hml]; rfl) (Steps.refl _) (argsL := [(.long (1 : Int64)), (.int (p2 &&& (65535 : Int32)))]) (rest := []) (lenOf pd_0_1 rfl) rfl (by show 2 * 0 + _ ≤ _; exact Nat.le_of_eq rfl) (hb hby at_31) (fun _ _ => ⟨rfl, e20, (by decide : 0 + 0 ≤ _), (by decide : 0 + 0 ≤ _)⟩)
        dsimp only [Pt.U, Pt.locs, Pt.cells, Pt.slots] at X23 l23 y23 z23 st23 hQ23
        subst l23 y23 z23
        obtain ⟨rfl, Nq23, e23⟩ := hQ23
        have N24 := Fr.app N21 Nq23
        refine own_tr st23 ?_
        show own_Go p e below _ (T23.setTop (mkF m 34 #[oI p0, oJ p1, .second, oI p2, oR aVOLUME, oJ (1 : Int64), .second, oI (p2 &&& (65535 : Int32)), .unset, .unset, .unset, .unset, .unset] [(.double (FP.l2d (1 : Int64)))]))
        refine own_via (fun t kz => XS.dstore X23.here hx rfl (hb hby at_34) rfl (l' := #[oI p0, oJ p1, .second, oI p2, oR aVOLUME, oJ (1 : Int64), .second, oI (p2 &&& (65535 : Int32)), oD (FP.l2d (1 : Int64)), .second, .unset, .unset, .unset]) rfl kz) ?_
        show own_Go p e below _ (T23.setTop (mkF m 36 #[oI p0, oJ p1, .second, oI p2, oR aVOLUME, oJ (1 : Int64), .second, oI (p2 &&& (65535 : Int32)), oD (FP.l2d (1 : Int64)), .second, .unset, .unset, .unset] []))
        refine own_via (fun t kz => XS.aload X23.here hx rfl (hb hby at_36) rfl rfl kz) ?_
        show own_Go p e below _ (T23.setTop (mkF m 38 #[oI p0, oJ p1, .second, oI p2, oR aVOLUME, oJ (1 : Int64), .second, oI (p2 &&& (65535 : Int32)), oD (FP.l2d (1 : Int64)), .second, .unset, .unset, .unset] [(.ref aVOLUME)]))
        refine own_via (fun t kz => XS.lload X23.here hx rfl (hb hby at_38) rfl kz) ?_
        show own_Go p e below _ (T23.setTop (mkF m 40 #[oI p0, oJ p1, .second, oI p2, oR aVOLUME, oJ (1 : Int64), .second, oI (p2 &&& (65535 : Int32)), oD (FP.l2d (1 : Int64)), .second, .unset, .unset, .unset] [(.long (1 : Int64)), (.ref aVOLUME)]))
        refine own_via (fun t kz => XS.iload X23.here hx rfl (hb hby at_40) rfl kz) ?_
        show own_Go p e below _ (T23.setTop (mkF m 42 #[oI p0, oJ p1, .second, oI p2, oR aVOLUME, oJ (1 : Int64), .second, oI (p2 &&& (65535 : Int32)), oD (FP.l2d (1 : Int64)), .second, .unset, .unset, .unset] [(.int (p2 &&& (65535 : Int32))), (.long (1 : Int64)), (.ref aVOLUME)]))
        refine own_via (fun t kz => XS.iconst X23.here hx rfl (hb hby at_42) kz) ?_
        show own_Go p e below _ (T23.setTop (mkF m 43 #[oI p0, oJ p1, .second, oI p2, oR aVOLUME, oJ (1 : Int64), .second, oI (p2 &&& (65535 : Int32)), oD (FP.l2d (1 : Int64)), .second, .unset, .unset, .unset] [(.int (1 : Int32)), (.int (p2 &&& (65535 : Int32))), (.long (1 : Int64)), (.ref aVOLUME)]))
        refine own_via (fun t kz => XS.iadd X23.here hx rfl (hb hby at_43) rfl kz) ?_
        show own_Go p e below _ (T23.setTop (mkF m 44 #[oI p0, oJ p1, .second, oI p2, oR aVOLUME, oJ (1 : Int64), .second, oI (p2 &&& (65535 : Int32)), oD (FP.l2d (1 : Int64)), .second, .unset, .unset, .unset] [(.int ((p2 &&& (65535 : Int32)) + (1 : Int32))), (.long (1 : Int64)), (.ref aVOLUME)]))
        obtain ⟨cq25, kq25, qa25, qb25, qc25⟩ := isOf hZ e23 E_VOLUME
        obtain ⟨_, _, ⟨T25, L25, k25, n25⟩, -, X25, ⟨Lc25, hQ25, l25, y25, z25⟩, st25⟩ := X23.virtualBack hx (y := (⟨"com/example/coupewise/coupewise/Bias", "weight", "(JI)D"⟩ : MethodName)) (z := (⟨"com/example/coupewise/coupewise/Bias", "weight", "(JI)D"⟩ : MethodName)) hown (mvT hZ (own_w hw 8)) (mvT hZ (own_w hw 9)) (notFace_of_selects (args := #[]) (mvT hZ (own_w hw 11))) (mvT hZ (own_w hw 11)) (mvT hZ (own_w hw 10)) (by decide) (backOf (W := 0) (rm2_1 l Z a0 hw [] aVOLUME (1 : Int64) ((p2 &&& (65535 : Int32)) + (1 : Int32)) (FP.l2d (1 : Int64)) h0 n0 Z0 E_VOLUME F_VOLUME_ordinal (by unfold f2_1; rfl)) hZ (own_w hw 12) (own_w hw 5) (by decide) (by decide)) qa25 qc25 (g := (mkF m 44 #[oI p0, oJ p1, .second, oI p2, oR aVOLUME, oJ (1 : Int64), .second, oI (p2 &&& (65535 : Int32)), oD (FP.l2d (1 : Int64)), .second, .unset, .unset, .unset] [(.int ((p2 &&& (65535 : Int32)) + (1 : Int32))), (.long (1 : Int64)), (.ref aVOLUME)])) rfl (by rw [hml]; rfl) (Steps.refl _) (argsL := [(.long (1 : Int64)), (.int ((p2 &&& (65535 : Int32)) + (1 : Int32)))]) (rest := []) (lenOf pd_0_1 rfl) rfl (by show 2 * 0 + _ ≤ _; exact Nat.le_of_eq rfl) (hb hby at_44) (fun _ _ => ⟨rfl, e23, (by decide : 0 + 0 ≤ _), (by decide : 0 + 0 ≤ _)⟩)
        dsimp only [Pt.U, Pt.locs, Pt.cells, Pt.slots] at X25 l25 y25 z25 st25 hQ25
        subst l25 y25 z25
        obtain ⟨rfl, Nq25, e25⟩ := hQ25
        have N26 := Fr.app N24 Nq25
        refine own_tr st25 ?_
        show own_Go p e below _ (T25.setTop (mkF m 47 #[oI p0, oJ p1, .second, oI p2, oR aVOLUME, oJ (1 : Int64), .second, oI (p2 &&& (65535 : Int32)), oD (FP.l2d (1 : Int64)), .second, .unset, .unset, .unset] [(.double (FP.l2d (1 : Int64)))]))
        refine own_via (fun t kz => XS.dstore X25.here hx rfl (hb hby at_47) rfl (l' := #[oI p0, oJ p1, .second, oI p2, oR aVOLUME, oJ (1 : Int64), .second, oI (p2 &&& (65535 : Int32)), oD (FP.l2d (1 : Int64)), .second, oD (FP.l2d (1 : Int64)), .second, .unset]) rfl kz) ?_
        show own_Go p e below _ (T25.setTop (mkF m 49 #[oI p0, oJ p1, .second, oI p2, oR aVOLUME, oJ (1 : Int64), .second, oI (p2 &&& (65535 : Int32)), oD (FP.l2d (1 : Int64)), .second, oD (FP.l2d (1 : Int64)), .second, .unset] []))
        refine own_via (fun t kz => XS.dload X25.here hx rfl (hb hby at_49) rfl kz) ?_
        show own_Go p e below _ (T25.setTop (mkF m 51 #[oI p0, oJ p1, .second, oI p2, oR aVOLUME, oJ (1 : Int64), .second, oI (p2 &&& (65535 : Int32)), oD (FP.l2d (1 : Int64)), .second, oD (FP.l2d (1 : Int64)), .second, .unset] [(.double (FP.l2d (1 : Int64)))]))
        refine own_via (fun t kz => XS.dload X25.here hx rfl (hb hby at_51) rfl kz) ?_
        show own_Go p e below _ (T25.setTop (mkF m 53 #[oI p0, oJ p1, .second, oI p2, oR aVOLUME, oJ (1 : Int64), .second, oI (p2 &&& (65535 : Int32)), oD (FP.l2d (1 : Int64)), .second, oD (FP.l2d (1 : Int64)), .second, .unset] [(.double (FP.l2d (1 : Int64))), (.double (FP.l2d (1 : Int64)))]))
        refine own_via (fun t kz => XS.dcmpS X25.here hx rfl (hb hby at_53) rfl (dcmpV_self (l2d_fin _).noNaN .l) kz) ?_
        show own_Go p e below _ (T25.setTop (mkF m 54 #[oI p0, oJ p1, .second, oI p2, oR aVOLUME, oJ (1 : Int64), .second, oI (p2 &&& (65535 : Int32)), oD (FP.l2d (1 : Int64)), .second, oD (FP.l2d (1 : Int64)), .second, .unset] [(.int (0 : Int32))]))
        refine own_via (fun t kz => XS.ifYes X25.here hx rfl (pc0 := 54) (pc' := 61) rfl (hb hby at_54) rfl ((if0 _ _).trans (teq (by decide : (0 : Int32) = (0 : Int32))).1) (by decide) (by decide) kz) ?_
        show own_Go p e below _ (T25.setTop (mkF m 61 #[oI p0, oJ p1, .second, oI p2, oR aVOLUME, oJ (1 : Int64), .second, oI (p2 &&& (65535 : Int32)), oD (FP.l2d (1 : Int64)), .second, oD (FP.l2d (1 : Int64)), .second, .unset] []))
        refine own_via (fun t kz => XS.iconst X25.here hx rfl (hb hby at_61) kz) ?_
        show own_Go p e below _ (T25.setTop (mkF m 62 #[oI p0, oJ p1, .second, oI p2, oR aVOLUME, oJ (1 : Int64), .second, oI (p2 &&& (65535 : Int32)), oD (FP.l2d (1 : Int64)), .second, oD (FP.l2d (1 : Int64)), .second, .unset] [(.int (0 : Int32))]))
        refine own_via (fun t kz => XS.istore X25.here hx rfl (hb hby at_62) rfl (l' := #[oI p0, oJ p1, .second, oI p2, oR aVOLUME, oJ (1 : Int64), .second, oI (p2 &&& (65535 : Int32)), oD (FP.l2d (1 : Int64)), .second, oD (FP.l2d (1 : Int64)), .second, oI (0 : Int32)]) rfl kz) ?_
        show own_Go p e below _ (T25.setTop (mkF m 64 #[oI p0, oJ p1, .second, oI p2, oR aVOLUME, oJ (1 : Int64), .second, oI (p2 &&& (65535 : Int32)), oD (FP.l2d (1 : Int64)), .second, oD (FP.l2d (1 : Int64)), .second, oI (0 : Int32)] []))
        refine own_via (fun t kz => XS.aload X25.here hx rfl (hb hby at_64) rfl rfl kz) ?_
        show own_Go p e below _ (T25.setTop (mkF m 66 #[oI p0, oJ p1, .second, oI p2, oR aVOLUME, oJ (1 : Int64), .second, oI (p2 &&& (65535 : Int32)), oD (FP.l2d (1 : Int64)), .second, oD (FP.l2d (1 : Int64)), .second, oI (0 : Int32)] [(.ref aVOLUME)]))
        obtain ⟨cq27, kq27, qa27, qb27, qc27⟩ := isOf hZ e25 E_VOLUME
        obtain ⟨_, _, ⟨T27, L27, k27, n27⟩, -, X27, ⟨Lc27, hQ27, l27, y27, z27⟩, st27⟩ := X25.virtualBack hx (y := (⟨"com/example/coupewise/coupewise/Bias", "countsNeighbours", "()Z"⟩ : MethodName)) (z := (⟨"com/example/coupewise/coupewise/Bias", "countsNeighbours", "()Z"⟩ : MethodName)) hown (mvT hZ (own_w hw 22)) (mvT hZ (own_w hw 23)) (notFace_of_selects (args := #[]) (mvT hZ (own_w hw 25))) (mvT hZ (own_w hw 25)) (mvT hZ (own_w hw 24)) (by decide) (backOf (W := 0) (rm4 l Z a0 hw [] aVOLUME aNEIGHBOURS aBOTH (0 : Int32) h0 n0 Z0 S_NEIGHBOURS S_BOTH (by unfold f4; rw [if_neg (Ne.symm ne_NEIGHBOURS_VOLUME), if_neg (Ne.symm ne_BOTH_VOLUME)])) hZ (own_w hw 26) (own_w hw 5) (by decide) (by decide)) qa27 qc27 (g := (mkF m 66 #[oI p0, oJ p1, .second, oI p2, oR aVOLUME, oJ (1 : Int64), .second, oI (p2 &&& (65535 : Int32)), oD (FP.l2d (1 : Int64)), .second, oD (FP.l2d (1 : Int64)), .second, oI (0 : Int32)] [(.ref aVOLUME)])) rfl (by rw [hml]; rfl) (Steps.refl _) (argsL := []) (rest := []) (lenOf pd_0_2 rfl) rfl (by show 2 * 0 + _ ≤ _; exact Nat.le_of_eq rfl) (hb hby at_66) (fun _ _ => ⟨rfl, e25, (by decide : 0 + 0 ≤ _), (by decide : 0 + 0 ≤ _)⟩)
        dsimp only [Pt.U, Pt.locs, Pt.cells, Pt.slots] at X27 l27 y27 z27 st27 hQ27
        subst l27 y27 z27
        obtain ⟨rfl, Nq27, e27⟩ := hQ27
        have N28 := Fr.app N26 Nq27
        refine own_tr st27 ?_
        show own_Go p e below _ (T27.setTop (mkF m 69 #[oI p0, oJ p1, .second, oI p2, oR aVOLUME, oJ (1 : Int64), .second, oI (p2 &&& (65535 : Int32)), oD (FP.l2d (1 : Int64)), .second, oD (FP.l2d (1 : Int64)), .second, oI (0 : Int32)] [(.int (0 : Int32))]))
        refine own_via (fun t kz => XS.iload X27.here hx rfl (hb hby at_69) rfl kz) ?_
        show own_Go p e below _ (T27.setTop (mkF m 71 #[oI p0, oJ p1, .second, oI p2, oR aVOLUME, oJ (1 : Int64), .second, oI (p2 &&& (65535 : Int32)), oD (FP.l2d (1 : Int64)), .second, oD (FP.l2d (1 : Int64)), .second, oI (0 : Int32)] [(.int (0 : Int32)), (.int (0 : Int32))]))
        refine own_via (fun t kz => XS.icmpNo X27.here hx rfl (hb hby at_71) rfl (teq (by decide : (0 : Int32) = (0 : Int32))).2 kz) ?_
        show own_Go p e below _ (T27.setTop (mkF m 74 #[oI p0, oJ p1, .second, oI p2, oR aVOLUME, oJ (1 : Int64), .second, oI (p2 &&& (65535 : Int32)), oD (FP.l2d (1 : Int64)), .second, oD (FP.l2d (1 : Int64)), .second, oI (0 : Int32)] []))
        refine own_via (fun t kz => XS.iconst X27.here hx rfl (hb hby at_74) kz) ?_
        show own_Go p e below _ (T27.setTop (mkF m 75 #[oI p0, oJ p1, .second, oI p2, oR aVOLUME, oJ (1 : Int64), .second, oI (p2 &&& (65535 : Int32)), oD (FP.l2d (1 : Int64)), .second, oD (FP.l2d (1 : Int64)), .second, oI (0 : Int32)] [(.int (1 : Int32))]))
        refine own_via (fun t kz => XS.goto X27.here hx rfl (pc0 := 75) (pc' := 79) rfl (hb hby at_75) (by decide) (by decide) kz) ?_
        show own_Go p e below _ (T27.setTop (mkF m 79 #[oI p0, oJ p1, .second, oI p2, oR aVOLUME, oJ (1 : Int64), .second, oI (p2 &&& (65535 : Int32)), oD (FP.l2d (1 : Int64)), .second, oD (FP.l2d (1 : Int64)), .second, oI (0 : Int32)] [(.int (1 : Int32))]))
        obtain ⟨fs, hr, hrun, hended, hW, hsame⟩ := X27.leave (v := some (.int (1 : Int32))) (fun h => by rw [Bd.returns] at h; cases h)
        refine ⟨_, _, retN X27 hx (t := .boolean) Bd.returns (by simp) (hb hby at_79) hr, hrun, hended, _, _, rfl, ?_, ⟨_, rfl⟩, hW, hsame.mono (by decide) (by decide)⟩
        show Q0 Z p0 p1 p2 aNONE aNEIGHBOURS aBOTH aVOLUME h0 n0 _ T27.heap _
        rw [e27]
        exact ⟨rfl, N28⟩
      · refine own_via (fun t kz => XS.ifYes X20.here hx rfl (pc0 := 13) (pc' := 19) rfl (hb hby at_13) rfl ((if0 _ _).trans (feq (fun q => hc13_22 ((lw_eq _ _).mp q))).2) (by decide) (by decide) kz) ?_
        show own_Go p e below _ (T20.setTop (mkF m 19 #[oI p0, oJ p1, .second, oI p2, oR aVOLUME, oJ p1, .second, .unset, .unset, .unset, .unset, .unset, .unset] []))
        refine own_via (fun t kz => XS.iloadN X20.here hx rfl (hb hby at_19) rfl kz) ?_
        show own_Go p e below _ (T20.setTop (mkF m 20 #[oI p0, oJ p1, .second, oI p2, oR aVOLUME, oJ p1, .second, .unset, .unset, .unset, .unset, .unset, .unset] [(.int p2)]))
        refine own_via (fun t kz => X20.ldcInt hx hown (mvT hZ (own_w hw 7)) (g := (mkF m 20 #[oI p0, oJ p1, .second, oI p2, oR aVOLUME, oJ p1, .second, .unset, .unset, .unset, .unset, .unset, .unset] [(.int p2)])) rfl (hb hby at_20) t kz) ?_
        show own_Go p e below _ (T20.setTop (mkF m 22 #[oI p0, oJ p1, .second, oI p2, oR aVOLUME, oJ p1, .second, .unset, .unset, .unset, .unset, .unset, .unset] [(.int (65535 : Int32)), (.int p2)]))
        refine own_via (fun t kz => XS.iand X20.here hx rfl (hb hby at_22) rfl kz) ?_
        show own_Go p e below _ (T20.setTop (mkF m 23 #[oI p0, oJ p1, .second, oI p2, oR aVOLUME, oJ p1, .second, .unset, .unset, .unset, .unset, .unset, .unset] [(.int (p2 &&& (65535 : Int32)))]))
        refine own_via (fun t kz => XS.istore X20.here hx rfl (hb hby at_23) rfl (l' := #[oI p0, oJ p1, .second, oI p2, oR aVOLUME, oJ p1, .second, oI (p2 &&& (65535 : Int32)), .unset, .unset, .unset, .unset, .unset]) rfl kz) ?_
        show own_Go p e below _ (T20.setTop (mkF m 25 #[oI p0, oJ p1, .second, oI p2, oR aVOLUME, oJ p1, .second, oI (p2 &&& (65535 : Int32)), .unset, .unset, .unset, .unset, .unset] []))
        refine own_via (fun t kz => XS.aload X20.here hx rfl (hb hby at_25) rfl rfl kz) ?_
        show own_Go p e below _ (T20.setTop (mkF m 27 #[oI p0, oJ p1, .second, oI p2, oR aVOLUME, oJ p1, .second, oI (p2 &&& (65535 : Int32)), .unset, .unset, .unset, .unset, .unset] [(.ref aVOLUME)]))
        refine own_via (fun t kz => XS.lload X20.here hx rfl (hb hby at_27) rfl kz) ?_
        show own_Go p e below _ (T20.setTop (mkF m 29 #[oI p0, oJ p1, .second, oI p2, oR aVOLUME, oJ p1, .second, oI (p2 &&& (65535 : Int32)), .unset, .unset, .unset, .unset, .unset] [(.long p1), (.ref aVOLUME)]))
        refine own_via (fun t kz => XS.iload X20.here hx rfl (hb hby at_29) rfl kz) ?_
        show own_Go p e below _ (T20.setTop (mkF m 31 #[oI p0, oJ p1, .second, oI p2, oR aVOLUME, oJ p1, .second, oI (p2 &&& (65535 : Int32)), .unset, .unset, .unset, .unset, .unset] [(.int (p2 &&& (65535 : Int32))), (.long p1), (.ref aVOLUME)]))
        obtain ⟨cq30, kq30, qa30, qb30, qc30⟩ := isOf hZ e20 E_VOLUME
        obtain ⟨_, _, ⟨T30, L30, k30, n30⟩, -, X30, ⟨Lc30, hQ30, l30, y30, z30⟩, st30⟩ := X20.virtualBack hx (y := (⟨"com/example/coupewise/coupewise/Bias", "weight", "(JI)D"⟩ : MethodName)) (z := (⟨"com/example/coupewise/coupewise/Bias", "weight", "(JI)D"⟩ : MethodName)) hown (mvT hZ (own_w hw 8)) (mvT hZ (own_w hw 9)) (notFace_of_selects (args := #[]) (mvT hZ (own_w hw 11))) (mvT hZ (own_w hw 11)) (mvT hZ (own_w hw 10)) (by decide) (backOf (W := 0) (rm2_1 l Z a0 hw [] aVOLUME p1 (p2 &&& (65535 : Int32)) (FP.l2d p1) h0 n0 Z0 E_VOLUME F_VOLUME_ordinal (by unfold f2_1; rfl)) hZ (own_w hw 12) (own_w hw 5) (by decide) (by decide)) qa30 qc30 (g := (mkF m 31 #[oI p0, oJ p1, .second, oI p2, oR aVOLUME, oJ p1, .second, oI (p2 &&& (65535 : Int32)), .unset, .unset, .unset, .unset, .unset] [(.int (p2 &&& (65535 : Int32))), (.long p1), (.ref aVOLUME)])) rfl (by rw [hml]; rfl) (Steps.refl _) (argsL := [(.long p1), (.int (p2 &&& (65535 : Int32)))]) (rest := []) (lenOf pd_0_1 rfl) rfl (by show 2 * 0 + _ ≤ _; exact Nat.le_of_eq rfl) (hb hby at_31) (fun _ _ => ⟨rfl, e20, (by decide : 0 + 0 ≤ _), (by decide : 0 + 0 ≤ _)⟩)
        dsimp only [Pt.U, Pt.locs, Pt.cells, Pt.slots] at X30 l30 y30 z30 st30 hQ30
        subst l30 y30 z30
        obtain ⟨rfl, Nq30, e30⟩ := hQ30
        have N31 := Fr.app N21 Nq30
        refine own_tr st30 ?_
        show own_Go p e below _ (T30.setTop (mkF m 34 #[oI p0, oJ p1, .second, oI p2, oR aVOLUME, oJ p1, .second, oI (p2 &&& (65535 : Int32)), .unset, .unset, .unset, .unset, .unset] [(.double (FP.l2d p1))]))
        refine own_via (fun t kz => XS.dstore X30.here hx rfl (hb hby at_34) rfl (l' := #[oI p0, oJ p1, .second, oI p2, oR aVOLUME, oJ p1, .second, oI (p2 &&& (65535 : Int32)), oD (FP.l2d p1), .second, .unset, .unset, .unset]) rfl kz) ?_
        show own_Go p e below _ (T30.setTop (mkF m 36 #[oI p0, oJ p1, .second, oI p2, oR aVOLUME, oJ p1, .second, oI (p2 &&& (65535 : Int32)), oD (FP.l2d p1), .second, .unset, .unset, .unset] []))
        refine own_via (fun t kz => XS.aload X30.here hx rfl (hb hby at_36) rfl rfl kz) ?_
        show own_Go p e below _ (T30.setTop (mkF m 38 #[oI p0, oJ p1, .second, oI p2, oR aVOLUME, oJ p1, .second, oI (p2 &&& (65535 : Int32)), oD (FP.l2d p1), .second, .unset, .unset, .unset] [(.ref aVOLUME)]))
        refine own_via (fun t kz => XS.lload X30.here hx rfl (hb hby at_38) rfl kz) ?_
        show own_Go p e below _ (T30.setTop (mkF m 40 #[oI p0, oJ p1, .second, oI p2, oR aVOLUME, oJ p1, .second, oI (p2 &&& (65535 : Int32)), oD (FP.l2d p1), .second, .unset, .unset, .unset] [(.long p1), (.ref aVOLUME)]))
        refine own_via (fun t kz => XS.iload X30.here hx rfl (hb hby at_40) rfl kz) ?_
        show own_Go p e below _ (T30.setTop (mkF m 42 #[oI p0, oJ p1, .second, oI p2, oR aVOLUME, oJ p1, .second, oI (p2 &&& (65535 : Int32)), oD (FP.l2d p1), .second, .unset, .unset, .unset] [(.int (p2 &&& (65535 : Int32))), (.long p1), (.ref aVOLUME)]))
        refine own_via (fun t kz => XS.iconst X30.here hx rfl (hb hby at_42) kz) ?_
        show own_Go p e below _ (T30.setTop (mkF m 43 #[oI p0, oJ p1, .second, oI p2, oR aVOLUME, oJ p1, .second, oI (p2 &&& (65535 : Int32)), oD (FP.l2d p1), .second, .unset, .unset, .unset] [(.int (1 : Int32)), (.int (p2 &&& (65535 : Int32))), (.long p1), (.ref aVOLUME)]))
        refine own_via (fun t kz => XS.iadd X30.here hx rfl (hb hby at_43) rfl kz) ?_
        show own_Go p e below _ (T30.setTop (mkF m 44 #[oI p0, oJ p1, .second, oI p2, oR aVOLUME, oJ p1, .second, oI (p2 &&& (65535 : Int32)), oD (FP.l2d p1), .second, .unset, .unset, .unset] [(.int ((p2 &&& (65535 : Int32)) + (1 : Int32))), (.long p1), (.ref aVOLUME)]))
        obtain ⟨cq32, kq32, qa32, qb32, qc32⟩ := isOf hZ e30 E_VOLUME
        obtain ⟨_, _, ⟨T32, L32, k32, n32⟩, -, X32, ⟨Lc32, hQ32, l32, y32, z32⟩, st32⟩ := X30.virtualBack hx (y := (⟨"com/example/coupewise/coupewise/Bias", "weight", "(JI)D"⟩ : MethodName)) (z := (⟨"com/example/coupewise/coupewise/Bias", "weight", "(JI)D"⟩ : MethodName)) hown (mvT hZ (own_w hw 8)) (mvT hZ (own_w hw 9)) (notFace_of_selects (args := #[]) (mvT hZ (own_w hw 11))) (mvT hZ (own_w hw 11)) (mvT hZ (own_w hw 10)) (by decide) (backOf (W := 0) (rm2_1 l Z a0 hw [] aVOLUME p1 ((p2 &&& (65535 : Int32)) + (1 : Int32)) (FP.l2d p1) h0 n0 Z0 E_VOLUME F_VOLUME_ordinal (by unfold f2_1; rfl)) hZ (own_w hw 12) (own_w hw 5) (by decide) (by decide)) qa32 qc32 (g := (mkF m 44 #[oI p0, oJ p1, .second, oI p2, oR aVOLUME, oJ p1, .second, oI (p2 &&& (65535 : Int32)), oD (FP.l2d p1), .second, .unset, .unset, .unset] [(.int ((p2 &&& (65535 : Int32)) + (1 : Int32))), (.long p1), (.ref aVOLUME)])) rfl (by rw [hml]; rfl) (Steps.refl _) (argsL := [(.long p1), (.int ((p2 &&& (65535 : Int32)) + (1 : Int32)))]) (rest := []) (lenOf pd_0_1 rfl) rfl (by show 2 * 0 + _ ≤ _; exact Nat.le_of_eq rfl) (hb hby at_44) (fun _ _ => ⟨rfl, e30, (by decide : 0 + 0 ≤ _), (by decide : 0 + 0 ≤ _)⟩)
        dsimp only [Pt.U, Pt.locs, Pt.cells, Pt.slots] at X32 l32 y32 z32 st32 hQ32
        subst l32 y32 z32
        obtain ⟨rfl, Nq32, e32⟩ := hQ32
        have N33 := Fr.app N31 Nq32
        refine own_tr st32 ?_
        show own_Go p e below _ (T32.setTop (mkF m 47 #[oI p0, oJ p1, .second, oI p2, oR aVOLUME, oJ p1, .second, oI (p2 &&& (65535 : Int32)), oD (FP.l2d p1), .second, .unset, .unset, .unset] [(.double (FP.l2d p1))]))
        refine own_via (fun t kz => XS.dstore X32.here hx rfl (hb hby at_47) rfl (l' := #[oI p0, oJ p1, .second, oI p2, oR aVOLUME, oJ p1, .second, oI (p2 &&& (65535 : Int32)), oD (FP.l2d p1), .second, oD (FP.l2d p1), .second, .unset]) rfl kz) ?_
        show own_Go p e below _ (T32.setTop (mkF m 49 #[oI p0, oJ p1, .second, oI p2, oR aVOLUME, oJ p1, .second, oI (p2 &&& (65535 : Int32)), oD (FP.l2d p1), .second, oD (FP.l2d p1), .second, .unset] []))
        refine own_via (fun t kz => XS.dload X32.here hx rfl (hb hby at_49) rfl kz) ?_
        show own_Go p e below _ (T32.setTop (mkF m 51 #[oI p0, oJ p1, .second, oI p2, oR aVOLUME, oJ p1, .second, oI (p2 &&& (65535 : Int32)), oD (FP.l2d p1), .second, oD (FP.l2d p1), .second, .unset] [(.double (FP.l2d p1))]))
        refine own_via (fun t kz => XS.dload X32.here hx rfl (hb hby at_51) rfl kz) ?_
        show own_Go p e below _ (T32.setTop (mkF m 53 #[oI p0, oJ p1, .second, oI p2, oR aVOLUME, oJ p1, .second, oI (p2 &&& (65535 : Int32)), oD (FP.l2d p1), .second, oD (FP.l2d p1), .second, .unset] [(.double (FP.l2d p1)), (.double (FP.l2d p1))]))
        refine own_via (fun t kz => XS.dcmpS X32.here hx rfl (hb hby at_53) rfl (dcmpV_self (l2d_fin _).noNaN .l) kz) ?_
        show own_Go p e below _ (T32.setTop (mkF m 54 #[oI p0, oJ p1, .second, oI p2, oR aVOLUME, oJ p1, .second, oI (p2 &&& (65535 : Int32)), oD (FP.l2d p1), .second, oD (FP.l2d p1), .second, .unset] [(.int (0 : Int32))]))
        refine own_via (fun t kz => XS.ifYes X32.here hx rfl (pc0 := 54) (pc' := 61) rfl (hb hby at_54) rfl ((if0 _ _).trans (teq (by decide : (0 : Int32) = (0 : Int32))).1) (by decide) (by decide) kz) ?_
        show own_Go p e below _ (T32.setTop (mkF m 61 #[oI p0, oJ p1, .second, oI p2, oR aVOLUME, oJ p1, .second, oI (p2 &&& (65535 : Int32)), oD (FP.l2d p1), .second, oD (FP.l2d p1), .second, .unset] []))
        refine own_via (fun t kz => XS.iconst X32.here hx rfl (hb hby at_61) kz) ?_
        show own_Go p e below _ (T32.setTop (mkF m 62 #[oI p0, oJ p1, .second, oI p2, oR aVOLUME, oJ p1, .second, oI (p2 &&& (65535 : Int32)), oD (FP.l2d p1), .second, oD (FP.l2d p1), .second, .unset] [(.int (0 : Int32))]))
        refine own_via (fun t kz => XS.istore X32.here hx rfl (hb hby at_62) rfl (l' := #[oI p0, oJ p1, .second, oI p2, oR aVOLUME, oJ p1, .second, oI (p2 &&& (65535 : Int32)), oD (FP.l2d p1), .second, oD (FP.l2d p1), .second, oI (0 : Int32)]) rfl kz) ?_
        show own_Go p e below _ (T32.setTop (mkF m 64 #[oI p0, oJ p1, .second, oI p2, oR aVOLUME, oJ p1, .second, oI (p2 &&& (65535 : Int32)), oD (FP.l2d p1), .second, oD (FP.l2d p1), .second, oI (0 : Int32)] []))
        refine own_via (fun t kz => XS.aload X32.here hx rfl (hb hby at_64) rfl rfl kz) ?_
        show own_Go p e below _ (T32.setTop (mkF m 66 #[oI p0, oJ p1, .second, oI p2, oR aVOLUME, oJ p1, .second, oI (p2 &&& (65535 : Int32)), oD (FP.l2d p1), .second, oD (FP.l2d p1), .second, oI (0 : Int32)] [(.ref aVOLUME)]))
        obtain ⟨cq34, kq34, qa34, qb34, qc34⟩ := isOf hZ e32 E_VOLUME
        obtain ⟨_, _, ⟨T34, L34, k34, n34⟩, -, X34, ⟨Lc34, hQ34, l34, y34, z34⟩, st34⟩ := X32.virtualBack hx (y := (⟨"com/example/coupewise/coupewise/Bias", "countsNeighbours", "()Z"⟩ : MethodName)) (z := (⟨"com/example/coupewise/coupewise/Bias", "countsNeighbours", "()Z"⟩ : MethodName)) hown (mvT hZ (own_w hw 22)) (mvT hZ (own_w hw 23)) (notFace_of_selects (args := #[]) (mvT hZ (own_w hw 25))) (mvT hZ (own_w hw 25)) (mvT hZ (own_w hw 24)) (by decide) (backOf (W := 0) (rm4 l Z a0 hw [] aVOLUME aNEIGHBOURS aBOTH (0 : Int32) h0 n0 Z0 S_NEIGHBOURS S_BOTH (by unfold f4; rw [if_neg (Ne.symm ne_NEIGHBOURS_VOLUME), if_neg (Ne.symm ne_BOTH_VOLUME)])) hZ (own_w hw 26) (own_w hw 5) (by decide) (by decide)) qa34 qc34 (g := (mkF m 66 #[oI p0, oJ p1, .second, oI p2, oR aVOLUME, oJ p1, .second, oI (p2 &&& (65535 : Int32)), oD (FP.l2d p1), .second, oD (FP.l2d p1), .second, oI (0 : Int32)] [(.ref aVOLUME)])) rfl (by rw [hml]; rfl) (Steps.refl _) (argsL := []) (rest := []) (lenOf pd_0_2 rfl) rfl (by show 2 * 0 + _ ≤ _; exact Nat.le_of_eq rfl) (hb hby at_66) (fun _ _ => ⟨rfl, e32, (by decide : 0 + 0 ≤ _), (by decide : 0 + 0 ≤ _)⟩)
        dsimp only [Pt.U, Pt.locs, Pt.cells, Pt.slots] at X34 l34 y34 z34 st34 hQ34
        subst l34 y34 z34
        obtain ⟨rfl, Nq34, e34⟩ := hQ34
        have N35 := Fr.app N33 Nq34
        refine own_tr st34 ?_
        show own_Go p e below _ (T34.setTop (mkF m 69 #[oI p0, oJ p1, .second, oI p2, oR aVOLUME, oJ p1, .second, oI (p2 &&& (65535 : Int32)), oD (FP.l2d p1), .second, oD (FP.l2d p1), .second, oI (0 : Int32)] [(.int (0 : Int32))]))
        refine own_via (fun t kz => XS.iload X34.here hx rfl (hb hby at_69) rfl kz) ?_
        show own_Go p e below _ (T34.setTop (mkF m 71 #[oI p0, oJ p1, .second, oI p2, oR aVOLUME, oJ p1, .second, oI (p2 &&& (65535 : Int32)), oD (FP.l2d p1), .second, oD (FP.l2d p1), .second, oI (0 : Int32)] [(.int (0 : Int32)), (.int (0 : Int32))]))
        refine own_via (fun t kz => XS.icmpNo X34.here hx rfl (hb hby at_71) rfl (teq (by decide : (0 : Int32) = (0 : Int32))).2 kz) ?_
        show own_Go p e below _ (T34.setTop (mkF m 74 #[oI p0, oJ p1, .second, oI p2, oR aVOLUME, oJ p1, .second, oI (p2 &&& (65535 : Int32)), oD (FP.l2d p1), .second, oD (FP.l2d p1), .second, oI (0 : Int32)] []))
        refine own_via (fun t kz => XS.iconst X34.here hx rfl (hb hby at_74) kz) ?_
        show own_Go p e below _ (T34.setTop (mkF m 75 #[oI p0, oJ p1, .second, oI p2, oR aVOLUME, oJ p1, .second, oI (p2 &&& (65535 : Int32)), oD (FP.l2d p1), .second, oD (FP.l2d p1), .second, oI (0 : Int32)] [(.int (1 : Int32))]))
        refine own_via (fun t kz => XS.goto X34.here hx rfl (pc0 := 75) (pc' := 79) rfl (hb hby at_75) (by decide) (by decide) kz) ?_
        show own_Go p e below _ (T34.setTop (mkF m 79 #[oI p0, oJ p1, .second, oI p2, oR aVOLUME, oJ p1, .second, oI (p2 &&& (65535 : Int32)), oD (FP.l2d p1), .second, oD (FP.l2d p1), .second, oI (0 : Int32)] [(.int (1 : Int32))]))
        obtain ⟨fs, hr, hrun, hended, hW, hsame⟩ := X34.leave (v := some (.int (1 : Int32))) (fun h => by rw [Bd.returns] at h; cases h)
        refine ⟨_, _, retN X34 hx (t := .boolean) Bd.returns (by simp) (hb hby at_79) hr, hrun, hended, _, _, rfl, ?_, ⟨_, rfl⟩, hW, hsame.mono (by decide) (by decide)⟩
        show Q0 Z p0 p1 p2 aNONE aNEIGHBOURS aBOTH aVOLUME h0 n0 _ T34.heap _
        rw [e34]
        exact ⟨rfl, N35⟩
    · by_cases hc1_37 : (p0 &&& (3 : Int32)) = (2 : Int32)
      · obtain ⟨_, _, ⟨T38, L38, k38, n38⟩, -, X38, ⟨Lc38, hQ38, l38, y38, z38⟩, st38⟩ := Jvm.LawKit.callS X0 hx (y := (⟨"com/example/coupewise/coupewise/BiasCountsNeighboursPinLaw", "pick", "(I)Lcom/example/coupewise/coupewise/Bias;"⟩ : MethodName)) hown (mvT hZ (own_w hw 0)) (mvT hZ (own_w hw 1)) (mvT hZ (own_w hw 2)) (mvT hZ (own_w hw 3)) (by decide) (backOf (W := 0) (rm1 l Z a0 hw [] p0 aNONE aVOLUME aNEIGHBOURS aBOTH aNEIGHBOURS h0 n0 Z0 S_NONE S_VOLUME S_NEIGHBOURS S_BOTH (by unfold f1; rw [if_neg hc1_1, if_neg hc1_19, if_pos hc1_37])) hZ (own_w hw 3) (own_w hw 2) (by decide) (by decide)) (g := (mkF m 1 #[oI p0, oJ p1, .second, oI p2, .unset, .unset, .unset, .unset, .unset, .unset, .unset, .unset, .unset] [(.int p0)])) rfl (by rw [hml]; rfl) (argsL := [(.int p0)]) (rest := []) (lenOf pd_0_0 rfl) rfl (by show 2 * 0 + _ ≤ _; exact Nat.le_of_eq rfl) (hb hby at_1) (fun _ _ => ⟨rfl, e0, (by decide : 0 + 0 ≤ _), (by decide : 0 + 0 ≤ _)⟩)
        dsimp only [Pt.U, Pt.locs, Pt.cells, Pt.slots] at X38 l38 y38 z38 st38 hQ38
        subst l38 y38 z38
        obtain ⟨rfl, Nq38, e38⟩ := hQ38
        have N39 := Fr.app N0 Nq38
        refine own_via st38 ?_
        show own_Go p e below _ (T38.setTop (mkF m 4 #[oI p0, oJ p1, .second, oI p2, .unset, .unset, .unset, .unset, .unset, .unset, .unset, .unset, .unset] [(.ref aNEIGHBOURS)]))
        refine own_via (fun t kz => XS.astore X38.here hx rfl (hb hby at_4) rfl rfl (l' := #[oI p0, oJ p1, .second, oI p2, oR aNEIGHBOURS, .unset, .unset, .unset, .unset, .unset, .unset, .unset, .unset]) rfl kz) ?_
        show own_Go p e below _ (T38.setTop (mkF m 6 #[oI p0, oJ p1, .second, oI p2, oR aNEIGHBOURS, .unset, .unset, .unset, .unset, .unset, .unset, .unset, .unset] []))
        refine own_via (fun t kz => XS.lloadN X38.here hx rfl (hb hby at_6) rfl kz) ?_
        show own_Go p e below _ (T38.setTop (mkF m 7 #[oI p0, oJ p1, .second, oI p2, oR aNEIGHBOURS, .unset, .unset, .unset, .unset, .unset, .unset, .unset, .unset] [(.long p1)]))
        refine own_via (fun t kz => XS.lstore X38.here hx rfl (hb hby at_7) rfl (l' := #[oI p0, oJ p1, .second, oI p2, oR aNEIGHBOURS, oJ p1, .second, .unset, .unset, .unset, .unset, .unset, .unset]) rfl kz) ?_
        show own_Go p e below _ (T38.setTop (mkF m 9 #[oI p0, oJ p1, .second, oI p2, oR aNEIGHBOURS, oJ p1, .second, .unset, .unset, .unset, .unset, .unset, .unset] []))
        refine own_via (fun t kz => XS.lload X38.here hx rfl (hb hby at_9) rfl kz) ?_
        show own_Go p e below _ (T38.setTop (mkF m 11 #[oI p0, oJ p1, .second, oI p2, oR aNEIGHBOURS, oJ p1, .second, .unset, .unset, .unset, .unset, .unset, .unset] [(.long p1)]))
        refine own_via (fun t kz => XS.lconst X38.here hx rfl (hb hby at_11) kz) ?_
        show own_Go p e below _ (T38.setTop (mkF m 12 #[oI p0, oJ p1, .second, oI p2, oR aNEIGHBOURS, oJ p1, .second, .unset, .unset, .unset, .unset, .unset, .unset] [(.long (0 : Int64)), (.long p1)]))
        refine own_via (fun t kz => XS.lcmp X38.here hx rfl (hb hby at_12) rfl kz) ?_
        show own_Go p e below _ (T38.setTop (mkF m 13 #[oI p0, oJ p1, .second, oI p2, oR aNEIGHBOURS, oJ p1, .second, .unset, .unset, .unset, .unset, .unset, .unset] [(.int (lcmpW p1 (0 : Int64)))]))
        by_cases hc13_40 : p1 = (0 : Int64)
        · refine own_via (fun t kz => XS.ifNo X38.here hx rfl (hb hby at_13) rfl ((if0 _ _).trans (teq ((lw_eq _ _).mpr hc13_40)).2) kz) ?_
          show own_Go p e below _ (T38.setTop (mkF m 16 #[oI p0, oJ p1, .second, oI p2, oR aNEIGHBOURS, oJ p1, .second, .unset, .unset, .unset, .unset, .unset, .unset] []))
          refine own_via (fun t kz => XS.lconst X38.here hx rfl (hb hby at_16) kz) ?_
          show own_Go p e below _ (T38.setTop (mkF m 17 #[oI p0, oJ p1, .second, oI p2, oR aNEIGHBOURS, oJ p1, .second, .unset, .unset, .unset, .unset, .unset, .unset] [(.long (1 : Int64))]))
          refine own_via (fun t kz => XS.lstore X38.here hx rfl (hb hby at_17) rfl (l' := #[oI p0, oJ p1, .second, oI p2, oR aNEIGHBOURS, oJ (1 : Int64), .second, .unset, .unset, .unset, .unset, .unset, .unset]) rfl kz) ?_
          show own_Go p e below _ (T38.setTop (mkF m 19 #[oI p0, oJ p1, .second, oI p2, oR aNEIGHBOURS, oJ (1 : Int64), .second, .unset, .unset, .unset, .unset, .unset, .unset] []))
          refine own_via (fun t kz => XS.iloadN X38.here hx rfl (hb hby at_19) rfl kz) ?_
          show own_Go p e below _ (T38.setTop (mkF m 20 #[oI p0, oJ p1, .second, oI p2, oR aNEIGHBOURS, oJ (1 : Int64), .second, .unset, .unset, .unset, .unset, .unset, .unset] [(.int p2)]))
          refine own_via (fun t kz => X38.ldcInt hx hown (mvT hZ (own_w hw 7)) (g := (mkF m 20 #[oI p0, oJ p1, .second, oI p2, oR aNEIGHBOURS, oJ (1 : Int64), .second, .unset, .unset, .unset, .unset, .unset, .unset] [(.int p2)])) rfl (hb hby at_20) t kz) ?_
          show own_Go p e below _ (T38.setTop (mkF m 22 #[oI p0, oJ p1, .second, oI p2, oR aNEIGHBOURS, oJ (1 : Int64), .second, .unset, .unset, .unset, .unset, .unset, .unset] [(.int (65535 : Int32)), (.int p2)]))
          refine own_via (fun t kz => XS.iand X38.here hx rfl (hb hby at_22) rfl kz) ?_
          show own_Go p e below _ (T38.setTop (mkF m 23 #[oI p0, oJ p1, .second, oI p2, oR aNEIGHBOURS, oJ (1 : Int64), .second, .unset, .unset, .unset, .unset, .unset, .unset] [(.int (p2 &&& (65535 : Int32)))]))
          refine own_via (fun t kz => XS.istore X38.here hx rfl (hb hby at_23) rfl (l' := #[oI p0, oJ p1, .second, oI p2, oR aNEIGHBOURS, oJ (1 : Int64), .second, oI (p2 &&& (65535 : Int32)), .unset, .unset, .unset, .unset, .unset]) rfl kz) ?_
          show own_Go p e below _ (T38.setTop (mkF m 25 #[oI p0, oJ p1, .second, oI p2, oR aNEIGHBOURS, oJ (1 : Int64), .second, oI (p2 &&& (65535 : Int32)), .unset, .unset, .unset, .unset, .unset] []))
          refine own_via (fun t kz => XS.aload X38.here hx rfl (hb hby at_25) rfl rfl kz) ?_
          show own_Go p e below _ (T38.setTop (mkF m 27 #[oI p0, oJ p1, .second, oI p2, oR aNEIGHBOURS, oJ (1 : Int64), .second, oI (p2 &&& (65535 : Int32)), .unset, .unset, .unset, .unset, .unset] [(.ref aNEIGHBOURS)]))
          refine own_via (fun t kz => XS.lload X38.here hx rfl (hb hby at_27) rfl kz) ?_
          show own_Go p e below _ (T38.setTop (mkF m 29 #[oI p0, oJ p1, .second, oI p2, oR aNEIGHBOURS, oJ (1 : Int64), .second, oI (p2 &&& (65535 : Int32)), .unset, .unset, .unset, .unset, .unset] [(.long (1 : Int64)), (.ref aNEIGHBOURS)]))
          refine own_via (fun t kz => XS.iload X38.here hx rfl (hb hby at_29) rfl kz) ?_
          show own_Go p e below _ (T38.setTop (mkF m 31 #[oI p0, oJ p1, .second, oI p2, oR aNEIGHBOURS, oJ (1 : Int64), .second, oI (p2 &&& (65535 : Int32)), .unset, .unset, .unset, .unset, .unset] [(.int (p2 &&& (65535 : Int32))), (.long (1 : Int64)), (.ref aNEIGHBOURS)]))
          obtain ⟨cq41, kq41, qa41, qb41, qc41⟩ := isOf hZ e38 E_NEIGHBOURS
          obtain ⟨_, _, ⟨T41, L41, k41, n41⟩, -, X41, ⟨Lc41, hQ41, l41, y41, z41⟩, st41⟩ := X38.virtualBack hx (y := (⟨"com/example/coupewise/coupewise/Bias", "weight", "(JI)D"⟩ : MethodName)) (z := (⟨"com/example/coupewise/coupewise/Bias", "weight", "(JI)D"⟩ : MethodName)) hown (mvT hZ (own_w hw 8)) (mvT hZ (own_w hw 9)) (notFace_of_selects (args := #[]) (mvT hZ (own_w hw 11))) (mvT hZ (own_w hw 11)) (mvT hZ (own_w hw 10)) (by decide) (backOf (W := 0) (rm2_2 l Z a0 hw [] aNEIGHBOURS (1 : Int64) (p2 &&& (65535 : Int32)) (FP.ddiv (FP.l2d (1 : Int64)) (FP.l2d (((1 : Int32) + (p2 &&& (65535 : Int32))).toInt64))) h0 n0 Z0 E_NEIGHBOURS F_NEIGHBOURS_ordinal (own_nz p2).1 (by unfold f2_2; rfl)) hZ (own_w hw 12) (own_w hw 5) (by decide) (by decide)) qa41 qc41 (g := (mkF m 31 #[oI p0, oJ p1, .second, oI p2, oR aNEIGHBOURS, oJ (1 : Int64), .second, oI (p2 &&& (65535 : Int32)), .unset, .unset, .unset, .unset, .unset] [(.int (p2 &&& (65535 : Int32))), (.long (1 : Int64)), (.ref aNEIGHBOURS)])) rfl (by rw [hml]; rfl) (Steps.refl _) (argsL := [(.long (1 : Int64)), (.int (p2 &&& (65535 : Int32)))]) (rest := []) (lenOf pd_0_1 rfl) rfl (by show 2 * 0 + _ ≤ _; exact Nat.le_of_eq rfl) (hb hby at_31) (fun _ _ => ⟨rfl, e38, (by decide : 0 + 0 ≤ _), (by decide : 0 + 0 ≤ _)⟩)
          dsimp only [Pt.U, Pt.locs, Pt.cells, Pt.slots] at X41 l41 y41 z41 st41 hQ41
          subst l41 y41 z41
          obtain ⟨rfl, Nq41, e41⟩ := hQ41
          have N42 := Fr.app N39 Nq41
          refine own_tr st41 ?_
          show own_Go p e below _ (T41.setTop (mkF m 34 #[oI p0, oJ p1, .second, oI p2, oR aNEIGHBOURS, oJ (1 : Int64), .second, oI (p2 &&& (65535 : Int32)), .unset, .unset, .unset, .unset, .unset] [(.double (FP.ddiv (FP.l2d (1 : Int64)) (FP.l2d (((1 : Int32) + (p2 &&& (65535 : Int32))).toInt64))))]))
          refine own_via (fun t kz => XS.dstore X41.here hx rfl (hb hby at_34) rfl (l' := #[oI p0, oJ p1, .second, oI p2, oR aNEIGHBOURS, oJ (1 : Int64), .second, oI (p2 &&& (65535 : Int32)), oD (FP.ddiv (FP.l2d (1 : Int64)) (FP.l2d (((1 : Int32) + (p2 &&& (65535 : Int32))).toInt64))), .second, .unset, .unset, .unset]) rfl kz) ?_
          show own_Go p e below _ (T41.setTop (mkF m 36 #[oI p0, oJ p1, .second, oI p2, oR aNEIGHBOURS, oJ (1 : Int64), .second, oI (p2 &&& (65535 : Int32)), oD (FP.ddiv (FP.l2d (1 : Int64)) (FP.l2d (((1 : Int32) + (p2 &&& (65535 : Int32))).toInt64))), .second, .unset, .unset, .unset] []))
          refine own_via (fun t kz => XS.aload X41.here hx rfl (hb hby at_36) rfl rfl kz) ?_
          show own_Go p e below _ (T41.setTop (mkF m 38 #[oI p0, oJ p1, .second, oI p2, oR aNEIGHBOURS, oJ (1 : Int64), .second, oI (p2 &&& (65535 : Int32)), oD (FP.ddiv (FP.l2d (1 : Int64)) (FP.l2d (((1 : Int32) + (p2 &&& (65535 : Int32))).toInt64))), .second, .unset, .unset, .unset] [(.ref aNEIGHBOURS)]))
          refine own_via (fun t kz => XS.lload X41.here hx rfl (hb hby at_38) rfl kz) ?_
          show own_Go p e below _ (T41.setTop (mkF m 40 #[oI p0, oJ p1, .second, oI p2, oR aNEIGHBOURS, oJ (1 : Int64), .second, oI (p2 &&& (65535 : Int32)), oD (FP.ddiv (FP.l2d (1 : Int64)) (FP.l2d (((1 : Int32) + (p2 &&& (65535 : Int32))).toInt64))), .second, .unset, .unset, .unset] [(.long (1 : Int64)), (.ref aNEIGHBOURS)]))
          refine own_via (fun t kz => XS.iload X41.here hx rfl (hb hby at_40) rfl kz) ?_
          show own_Go p e below _ (T41.setTop (mkF m 42 #[oI p0, oJ p1, .second, oI p2, oR aNEIGHBOURS, oJ (1 : Int64), .second, oI (p2 &&& (65535 : Int32)), oD (FP.ddiv (FP.l2d (1 : Int64)) (FP.l2d (((1 : Int32) + (p2 &&& (65535 : Int32))).toInt64))), .second, .unset, .unset, .unset] [(.int (p2 &&& (65535 : Int32))), (.long (1 : Int64)), (.ref aNEIGHBOURS)]))
          refine own_via (fun t kz => XS.iconst X41.here hx rfl (hb hby at_42) kz) ?_
          show own_Go p e below _ (T41.setTop (mkF m 43 #[oI p0, oJ p1, .second, oI p2, oR aNEIGHBOURS, oJ (1 : Int64), .second, oI (p2 &&& (65535 : Int32)), oD (FP.ddiv (FP.l2d (1 : Int64)) (FP.l2d (((1 : Int32) + (p2 &&& (65535 : Int32))).toInt64))), .second, .unset, .unset, .unset] [(.int (1 : Int32)), (.int (p2 &&& (65535 : Int32))), (.long (1 : Int64)), (.ref aNEIGHBOURS)]))
          refine own_via (fun t kz => XS.iadd X41.here hx rfl (hb hby at_43) rfl kz) ?_
          show own_Go p e below _ (T41.setTop (mkF m 44 #[oI p0, oJ p1, .second, oI p2, oR aNEIGHBOURS, oJ (1 : Int64), .second, oI (p2 &&& (65535 : Int32)), oD (FP.ddiv (FP.l2d (1 : Int64)) (FP.l2d (((1 : Int32) + (p2 &&& (65535 : Int32))).toInt64))), .second, .unset, .unset, .unset] [(.int ((p2 &&& (65535 : Int32)) + (1 : Int32))), (.long (1 : Int64)), (.ref aNEIGHBOURS)]))
          obtain ⟨cq43, kq43, qa43, qb43, qc43⟩ := isOf hZ e41 E_NEIGHBOURS
          obtain ⟨_, _, ⟨T43, L43, k43, n43⟩, -, X43, ⟨Lc43, hQ43, l43, y43, z43⟩, st43⟩ := X41.virtualBack hx (y := (⟨"com/example/coupewise/coupewise/Bias", "weight", "(JI)D"⟩ : MethodName)) (z := (⟨"com/example/coupewise/coupewise/Bias", "weight", "(JI)D"⟩ : MethodName)) hown (mvT hZ (own_w hw 8)) (mvT hZ (own_w hw 9)) (notFace_of_selects (args := #[]) (mvT hZ (own_w hw 11))) (mvT hZ (own_w hw 11)) (mvT hZ (own_w hw 10)) (by decide) (backOf (W := 0) (rm2_2 l Z a0 hw [] aNEIGHBOURS (1 : Int64) ((p2 &&& (65535 : Int32)) + (1 : Int32)) (FP.ddiv (FP.l2d (1 : Int64)) (FP.l2d (((1 : Int32) + ((p2 &&& (65535 : Int32)) + (1 : Int32))).toInt64))) h0 n0 Z0 E_NEIGHBOURS F_NEIGHBOURS_ordinal (own_nz p2).2 (by unfold f2_2; rfl)) hZ (own_w hw 12) (own_w hw 5) (by decide) (by decide)) qa43 qc43 (g := (mkF m 44 #[oI p0, oJ p1, .second, oI p2, oR aNEIGHBOURS, oJ (1 : Int64), .second, oI (p2 &&& (65535 : Int32)), oD (FP.ddiv (FP.l2d (1 : Int64)) (FP.l2d (((1 : Int32) + (p2 &&& (65535 : Int32))).toInt64))), .second, .unset, .unset, .unset] [(.int ((p2 &&& (65535 : Int32)) + (1 : Int32))), (.long (1 : Int64)), (.ref aNEIGHBOURS)])) rfl (by rw [hml]; rfl) (Steps.refl _) (argsL := [(.long (1 : Int64)), (.int ((p2 &&& (65535 : Int32)) + (1 : Int32)))]) (rest := []) (lenOf pd_0_1 rfl) rfl (by show 2 * 0 + _ ≤ _; exact Nat.le_of_eq rfl) (hb hby at_44) (fun _ _ => ⟨rfl, e41, (by decide : 0 + 0 ≤ _), (by decide : 0 + 0 ≤ _)⟩)
          dsimp only [Pt.U, Pt.locs, Pt.cells, Pt.slots] at X43 l43 y43 z43 st43 hQ43
          subst l43 y43 z43
          obtain ⟨rfl, Nq43, e43⟩ := hQ43
          have N44 := Fr.app N42 Nq43
          refine own_tr st43 ?_
          show own_Go p e below _ (T43.setTop (mkF m 47 #[oI p0, oJ p1, .second, oI p2, oR aNEIGHBOURS, oJ (1 : Int64), .second, oI (p2 &&& (65535 : Int32)), oD (FP.ddiv (FP.l2d (1 : Int64)) (FP.l2d (((1 : Int32) + (p2 &&& (65535 : Int32))).toInt64))), .second, .unset, .unset, .unset] [(.double (FP.ddiv (FP.l2d (1 : Int64)) (FP.l2d (((1 : Int32) + ((p2 &&& (65535 : Int32)) + (1 : Int32))).toInt64))))]))
          refine own_via (fun t kz => XS.dstore X43.here hx rfl (hb hby at_47) rfl (l' := #[oI p0, oJ p1, .second, oI p2, oR aNEIGHBOURS, oJ (1 : Int64), .second, oI (p2 &&& (65535 : Int32)), oD (FP.ddiv (FP.l2d (1 : Int64)) (FP.l2d (((1 : Int32) + (p2 &&& (65535 : Int32))).toInt64))), .second, oD (FP.ddiv (FP.l2d (1 : Int64)) (FP.l2d (((1 : Int32) + ((p2 &&& (65535 : Int32)) + (1 : Int32))).toInt64))), .second, .unset]) rfl kz) ?_
          show own_Go p e below _ (T43.setTop (mkF m 49 #[oI p0, oJ p1, .second, oI p2, oR aNEIGHBOURS, oJ (1 : Int64), .second, oI (p2 &&& (65535 : Int32)), oD (FP.ddiv (FP.l2d (1 : Int64)) (FP.l2d (((1 : Int32) + (p2 &&& (65535 : Int32))).toInt64))), .second, oD (FP.ddiv (FP.l2d (1 : Int64)) (FP.l2d (((1 : Int32) + ((p2 &&& (65535 : Int32)) + (1 : Int32))).toInt64))), .second, .unset] []))
          refine own_via (fun t kz => XS.dload X43.here hx rfl (hb hby at_49) rfl kz) ?_
          show own_Go p e below _ (T43.setTop (mkF m 51 #[oI p0, oJ p1, .second, oI p2, oR aNEIGHBOURS, oJ (1 : Int64), .second, oI (p2 &&& (65535 : Int32)), oD (FP.ddiv (FP.l2d (1 : Int64)) (FP.l2d (((1 : Int32) + (p2 &&& (65535 : Int32))).toInt64))), .second, oD (FP.ddiv (FP.l2d (1 : Int64)) (FP.l2d (((1 : Int32) + ((p2 &&& (65535 : Int32)) + (1 : Int32))).toInt64))), .second, .unset] [(.double (FP.ddiv (FP.l2d (1 : Int64)) (FP.l2d (((1 : Int32) + (p2 &&& (65535 : Int32))).toInt64))))]))
          refine own_via (fun t kz => XS.dload X43.here hx rfl (hb hby at_51) rfl kz) ?_
          show own_Go p e below _ (T43.setTop (mkF m 53 #[oI p0, oJ p1, .second, oI p2, oR aNEIGHBOURS, oJ (1 : Int64), .second, oI (p2 &&& (65535 : Int32)), oD (FP.ddiv (FP.l2d (1 : Int64)) (FP.l2d (((1 : Int32) + (p2 &&& (65535 : Int32))).toInt64))), .second, oD (FP.ddiv (FP.l2d (1 : Int64)) (FP.l2d (((1 : Int32) + ((p2 &&& (65535 : Int32)) + (1 : Int32))).toInt64))), .second, .unset] [(.double (FP.ddiv (FP.l2d (1 : Int64)) (FP.l2d (((1 : Int32) + ((p2 &&& (65535 : Int32)) + (1 : Int32))).toInt64)))), (.double (FP.ddiv (FP.l2d (1 : Int64)) (FP.l2d (((1 : Int32) + (p2 &&& (65535 : Int32))).toInt64))))]))
          obtain ⟨t53, ht53, hn53⟩ : ∃ t, cmpValue (FP.dcmp (FP.ddiv (FP.l2d (1 : Int64)) (FP.l2d (((1 : Int32) + (p2 &&& (65535 : Int32))).toInt64))) (FP.ddiv (FP.l2d (1 : Int64)) (FP.l2d (((1 : Int32) + ((p2 &&& (65535 : Int32)) + (1 : Int32))).toInt64)))) .l = t ∧ ¬ (t = (0 : Int32)) := ⟨_, rfl, own_cmp (by decide) p2⟩
          refine own_via (fun t kz => XS.dcmpS X43.here hx rfl (hb hby at_53) rfl ht53 kz) ?_
          show own_Go p e below _ (T43.setTop (mkF m 54 #[oI p0, oJ p1, .second, oI p2, oR aNEIGHBOURS, oJ (1 : Int64), .second, oI (p2 &&& (65535 : Int32)), oD (FP.ddiv (FP.l2d (1 : Int64)) (FP.l2d (((1 : Int32) + (p2 &&& (65535 : Int32))).toInt64))), .second, oD (FP.ddiv (FP.l2d (1 : Int64)) (FP.l2d (((1 : Int32) + ((p2 &&& (65535 : Int32)) + (1 : Int32))).toInt64))), .second, .unset] [(.int t53)]))
          refine own_via (fun t kz => XS.ifNo X43.here hx rfl (hb hby at_54) rfl ((if0 _ _).trans (feq hn53).1) kz) ?_
          show own_Go p e below _ (T43.setTop (mkF m 57 #[oI p0, oJ p1, .second, oI p2, oR aNEIGHBOURS, oJ (1 : Int64), .second, oI (p2 &&& (65535 : Int32)), oD (FP.ddiv (FP.l2d (1 : Int64)) (FP.l2d (((1 : Int32) + (p2 &&& (65535 : Int32))).toInt64))), .second, oD (FP.ddiv (FP.l2d (1 : Int64)) (FP.l2d (((1 : Int32) + ((p2 &&& (65535 : Int32)) + (1 : Int32))).toInt64))), .second, .unset] []))
          refine own_via (fun t kz => XS.iconst X43.here hx rfl (hb hby at_57) kz) ?_
          show own_Go p e below _ (T43.setTop (mkF m 58 #[oI p0, oJ p1, .second, oI p2, oR aNEIGHBOURS, oJ (1 : Int64), .second, oI (p2 &&& (65535 : Int32)), oD (FP.ddiv (FP.l2d (1 : Int64)) (FP.l2d (((1 : Int32) + (p2 &&& (65535 : Int32))).toInt64))), .second, oD (FP.ddiv (FP.l2d (1 : Int64)) (FP.l2d (((1 : Int32) + ((p2 &&& (65535 : Int32)) + (1 : Int32))).toInt64))), .second, .unset] [(.int (1 : Int32))]))
          refine own_via (fun t kz => XS.goto X43.here hx rfl (pc0 := 58) (pc' := 62) rfl (hb hby at_58) (by decide) (by decide) kz) ?_
          show own_Go p e below _ (T43.setTop (mkF m 62 #[oI p0, oJ p1, .second, oI p2, oR aNEIGHBOURS, oJ (1 : Int64), .second, oI (p2 &&& (65535 : Int32)), oD (FP.ddiv (FP.l2d (1 : Int64)) (FP.l2d (((1 : Int32) + (p2 &&& (65535 : Int32))).toInt64))), .second, oD (FP.ddiv (FP.l2d (1 : Int64)) (FP.l2d (((1 : Int32) + ((p2 &&& (65535 : Int32)) + (1 : Int32))).toInt64))), .second, .unset] [(.int (1 : Int32))]))
          refine own_via (fun t kz => XS.istore X43.here hx rfl (hb hby at_62) rfl (l' := #[oI p0, oJ p1, .second, oI p2, oR aNEIGHBOURS, oJ (1 : Int64), .second, oI (p2 &&& (65535 : Int32)), oD (FP.ddiv (FP.l2d (1 : Int64)) (FP.l2d (((1 : Int32) + (p2 &&& (65535 : Int32))).toInt64))), .second, oD (FP.ddiv (FP.l2d (1 : Int64)) (FP.l2d (((1 : Int32) + ((p2 &&& (65535 : Int32)) + (1 : Int32))).toInt64))), .second, oI (1 : Int32)]) rfl kz) ?_
          show own_Go p e below _ (T43.setTop (mkF m 64 #[oI p0, oJ p1, .second, oI p2, oR aNEIGHBOURS, oJ (1 : Int64), .second, oI (p2 &&& (65535 : Int32)), oD (FP.ddiv (FP.l2d (1 : Int64)) (FP.l2d (((1 : Int32) + (p2 &&& (65535 : Int32))).toInt64))), .second, oD (FP.ddiv (FP.l2d (1 : Int64)) (FP.l2d (((1 : Int32) + ((p2 &&& (65535 : Int32)) + (1 : Int32))).toInt64))), .second, oI (1 : Int32)] []))
          refine own_via (fun t kz => XS.aload X43.here hx rfl (hb hby at_64) rfl rfl kz) ?_
          show own_Go p e below _ (T43.setTop (mkF m 66 #[oI p0, oJ p1, .second, oI p2, oR aNEIGHBOURS, oJ (1 : Int64), .second, oI (p2 &&& (65535 : Int32)), oD (FP.ddiv (FP.l2d (1 : Int64)) (FP.l2d (((1 : Int32) + (p2 &&& (65535 : Int32))).toInt64))), .second, oD (FP.ddiv (FP.l2d (1 : Int64)) (FP.l2d (((1 : Int32) + ((p2 &&& (65535 : Int32)) + (1 : Int32))).toInt64))), .second, oI (1 : Int32)] [(.ref aNEIGHBOURS)]))
          obtain ⟨cq45, kq45, qa45, qb45, qc45⟩ := isOf hZ e43 E_NEIGHBOURS
          obtain ⟨_, _, ⟨T45, L45, k45, n45⟩, -, X45, ⟨Lc45, hQ45, l45, y45, z45⟩, st45⟩ := X43.virtualBack hx (y := (⟨"com/example/coupewise/coupewise/Bias", "countsNeighbours", "()Z"⟩ : MethodName)) (z := (⟨"com/example/coupewise/coupewise/Bias", "countsNeighbours", "()Z"⟩ : MethodName)) hown (mvT hZ (own_w hw 22)) (mvT hZ (own_w hw 23)) (notFace_of_selects (args := #[]) (mvT hZ (own_w hw 25))) (mvT hZ (own_w hw 25)) (mvT hZ (own_w hw 24)) (by decide) (backOf (W := 0) (rm4 l Z a0 hw [] aNEIGHBOURS aNEIGHBOURS aBOTH (1 : Int32) h0 n0 Z0 S_NEIGHBOURS S_BOTH (by unfold f4; rw [if_pos (rfl : aNEIGHBOURS = aNEIGHBOURS)])) hZ (own_w hw 26) (own_w hw 5) (by decide) (by decide)) qa45 qc45 (g := (mkF m 66 #[oI p0, oJ p1, .second, oI p2, oR aNEIGHBOURS, oJ (1 : Int64), .second, oI (p2 &&& (65535 : Int32)), oD (FP.ddiv (FP.l2d (1 : Int64)) (FP.l2d (((1 : Int32) + (p2 &&& (65535 : Int32))).toInt64))), .second, oD (FP.ddiv (FP.l2d (1 : Int64)) (FP.l2d (((1 : Int32) + ((p2 &&& (65535 : Int32)) + (1 : Int32))).toInt64))), .second, oI (1 : Int32)] [(.ref aNEIGHBOURS)])) rfl (by rw [hml]; rfl) (Steps.refl _) (argsL := []) (rest := []) (lenOf pd_0_2 rfl) rfl (by show 2 * 0 + _ ≤ _; exact Nat.le_of_eq rfl) (hb hby at_66) (fun _ _ => ⟨rfl, e43, (by decide : 0 + 0 ≤ _), (by decide : 0 + 0 ≤ _)⟩)
          dsimp only [Pt.U, Pt.locs, Pt.cells, Pt.slots] at X45 l45 y45 z45 st45 hQ45
          subst l45 y45 z45
          obtain ⟨rfl, Nq45, e45⟩ := hQ45
          have N46 := Fr.app N44 Nq45
          refine own_tr st45 ?_
          show own_Go p e below _ (T45.setTop (mkF m 69 #[oI p0, oJ p1, .second, oI p2, oR aNEIGHBOURS, oJ (1 : Int64), .second, oI (p2 &&& (65535 : Int32)), oD (FP.ddiv (FP.l2d (1 : Int64)) (FP.l2d (((1 : Int32) + (p2 &&& (65535 : Int32))).toInt64))), .second, oD (FP.ddiv (FP.l2d (1 : Int64)) (FP.l2d (((1 : Int32) + ((p2 &&& (65535 : Int32)) + (1 : Int32))).toInt64))), .second, oI (1 : Int32)] [(.int (1 : Int32))]))
          refine own_via (fun t kz => XS.iload X45.here hx rfl (hb hby at_69) rfl kz) ?_
          show own_Go p e below _ (T45.setTop (mkF m 71 #[oI p0, oJ p1, .second, oI p2, oR aNEIGHBOURS, oJ (1 : Int64), .second, oI (p2 &&& (65535 : Int32)), oD (FP.ddiv (FP.l2d (1 : Int64)) (FP.l2d (((1 : Int32) + (p2 &&& (65535 : Int32))).toInt64))), .second, oD (FP.ddiv (FP.l2d (1 : Int64)) (FP.l2d (((1 : Int32) + ((p2 &&& (65535 : Int32)) + (1 : Int32))).toInt64))), .second, oI (1 : Int32)] [(.int (1 : Int32)), (.int (1 : Int32))]))
          refine own_via (fun t kz => XS.icmpNo X45.here hx rfl (hb hby at_71) rfl (teq (by decide : (1 : Int32) = (1 : Int32))).2 kz) ?_
          show own_Go p e below _ (T45.setTop (mkF m 74 #[oI p0, oJ p1, .second, oI p2, oR aNEIGHBOURS, oJ (1 : Int64), .second, oI (p2 &&& (65535 : Int32)), oD (FP.ddiv (FP.l2d (1 : Int64)) (FP.l2d (((1 : Int32) + (p2 &&& (65535 : Int32))).toInt64))), .second, oD (FP.ddiv (FP.l2d (1 : Int64)) (FP.l2d (((1 : Int32) + ((p2 &&& (65535 : Int32)) + (1 : Int32))).toInt64))), .second, oI (1 : Int32)] []))
          refine own_via (fun t kz => XS.iconst X45.here hx rfl (hb hby at_74) kz) ?_
          show own_Go p e below _ (T45.setTop (mkF m 75 #[oI p0, oJ p1, .second, oI p2, oR aNEIGHBOURS, oJ (1 : Int64), .second, oI (p2 &&& (65535 : Int32)), oD (FP.ddiv (FP.l2d (1 : Int64)) (FP.l2d (((1 : Int32) + (p2 &&& (65535 : Int32))).toInt64))), .second, oD (FP.ddiv (FP.l2d (1 : Int64)) (FP.l2d (((1 : Int32) + ((p2 &&& (65535 : Int32)) + (1 : Int32))).toInt64))), .second, oI (1 : Int32)] [(.int (1 : Int32))]))
          refine own_via (fun t kz => XS.goto X45.here hx rfl (pc0 := 75) (pc' := 79) rfl (hb hby at_75) (by decide) (by decide) kz) ?_
          show own_Go p e below _ (T45.setTop (mkF m 79 #[oI p0, oJ p1, .second, oI p2, oR aNEIGHBOURS, oJ (1 : Int64), .second, oI (p2 &&& (65535 : Int32)), oD (FP.ddiv (FP.l2d (1 : Int64)) (FP.l2d (((1 : Int32) + (p2 &&& (65535 : Int32))).toInt64))), .second, oD (FP.ddiv (FP.l2d (1 : Int64)) (FP.l2d (((1 : Int32) + ((p2 &&& (65535 : Int32)) + (1 : Int32))).toInt64))), .second, oI (1 : Int32)] [(.int (1 : Int32))]))
          obtain ⟨fs, hr, hrun, hended, hW, hsame⟩ := X45.leave (v := some (.int (1 : Int32))) (fun h => by rw [Bd.returns] at h; cases h)
          refine ⟨_, _, retN X45 hx (t := .boolean) Bd.returns (by simp) (hb hby at_79) hr, hrun, hended, _, _, rfl, ?_, ⟨_, rfl⟩, hW, hsame.mono (by decide) (by decide)⟩
          show Q0 Z p0 p1 p2 aNONE aNEIGHBOURS aBOTH aVOLUME h0 n0 _ T45.heap _
          rw [e45]
          exact ⟨rfl, N46⟩
        · refine own_via (fun t kz => XS.ifYes X38.here hx rfl (pc0 := 13) (pc' := 19) rfl (hb hby at_13) rfl ((if0 _ _).trans (feq (fun q => hc13_40 ((lw_eq _ _).mp q))).2) (by decide) (by decide) kz) ?_
          show own_Go p e below _ (T38.setTop (mkF m 19 #[oI p0, oJ p1, .second, oI p2, oR aNEIGHBOURS, oJ p1, .second, .unset, .unset, .unset, .unset, .unset, .unset] []))
          refine own_via (fun t kz => XS.iloadN X38.here hx rfl (hb hby at_19) rfl kz) ?_
          show own_Go p e below _ (T38.setTop (mkF m 20 #[oI p0, oJ p1, .second, oI p2, oR aNEIGHBOURS, oJ p1, .second, .unset, .unset, .unset, .unset, .unset, .unset] [(.int p2)]))
          refine own_via (fun t kz => X38.ldcInt hx hown (mvT hZ (own_w hw 7)) (g := (mkF m 20 #[oI p0, oJ p1, .second, oI p2, oR aNEIGHBOURS, oJ p1, .second, .unset, .unset, .unset, .unset, .unset, .unset] [(.int p2)])) rfl (hb hby at_20) t kz) ?_
          show own_Go p e below _ (T38.setTop (mkF m 22 #[oI p0, oJ p1, .second, oI p2, oR aNEIGHBOURS, oJ p1, .second, .unset, .unset, .unset, .unset, .unset, .unset] [(.int (65535 : Int32)), (.int p2)]))
          refine own_via (fun t kz => XS.iand X38.here hx rfl (hb hby at_22) rfl kz) ?_
          show own_Go p e below _ (T38.setTop (mkF m 23 #[oI p0, oJ p1, .second, oI p2, oR aNEIGHBOURS, oJ p1, .second, .unset, .unset, .unset, .unset, .unset, .unset] [(.int (p2 &&& (65535 : Int32)))]))
          refine own_via (fun t kz => XS.istore X38.here hx rfl (hb hby at_23) rfl (l' := #[oI p0, oJ p1, .second, oI p2, oR aNEIGHBOURS, oJ p1, .second, oI (p2 &&& (65535 : Int32)), .unset, .unset, .unset, .unset, .unset]) rfl kz) ?_
          show own_Go p e below _ (T38.setTop (mkF m 25 #[oI p0, oJ p1, .second, oI p2, oR aNEIGHBOURS, oJ p1, .second, oI (p2 &&& (65535 : Int32)), .unset, .unset, .unset, .unset, .unset] []))
          refine own_via (fun t kz => XS.aload X38.here hx rfl (hb hby at_25) rfl rfl kz) ?_
          show own_Go p e below _ (T38.setTop (mkF m 27 #[oI p0, oJ p1, .second, oI p2, oR aNEIGHBOURS, oJ p1, .second, oI (p2 &&& (65535 : Int32)), .unset, .unset, .unset, .unset, .unset] [(.ref aNEIGHBOURS)]))
          refine own_via (fun t kz => XS.lload X38.here hx rfl (hb hby at_27) rfl kz) ?_
          show own_Go p e below _ (T38.setTop (mkF m 29 #[oI p0, oJ p1, .second, oI p2, oR aNEIGHBOURS, oJ p1, .second, oI (p2 &&& (65535 : Int32)), .unset, .unset, .unset, .unset, .unset] [(.long p1), (.ref aNEIGHBOURS)]))
          refine own_via (fun t kz => XS.iload X38.here hx rfl (hb hby at_29) rfl kz) ?_
          show own_Go p e below _ (T38.setTop (mkF m 31 #[oI p0, oJ p1, .second, oI p2, oR aNEIGHBOURS, oJ p1, .second, oI (p2 &&& (65535 : Int32)), .unset, .unset, .unset, .unset, .unset] [(.int (p2 &&& (65535 : Int32))), (.long p1), (.ref aNEIGHBOURS)]))
          obtain ⟨cq48, kq48, qa48, qb48, qc48⟩ := isOf hZ e38 E_NEIGHBOURS
          obtain ⟨_, _, ⟨T48, L48, k48, n48⟩, -, X48, ⟨Lc48, hQ48, l48, y48, z48⟩, st48⟩ := X38.virtualBack hx (y := (⟨"com/example/coupewise/coupewise/Bias", "weight", "(JI)D"⟩ : MethodName)) (z := (⟨"com/example/coupewise/coupewise/Bias", "weight", "(JI)D"⟩ : MethodName)) hown (mvT hZ (own_w hw 8)) (mvT hZ (own_w hw 9)) (notFace_of_selects (args := #[]) (mvT hZ (own_w hw 11))) (mvT hZ (own_w hw 11)) (mvT hZ (own_w hw 10)) (by decide) (backOf (W := 0) (rm2_2 l Z a0 hw [] aNEIGHBOURS p1 (p2 &&& (65535 : Int32)) (FP.ddiv (FP.l2d (1 : Int64)) (FP.l2d (((1 : Int32) + (p2 &&& (65535 : Int32))).toInt64))) h0 n0 Z0 E_NEIGHBOURS F_NEIGHBOURS_ordinal (own_nz p2).1 (by unfold f2_2; rfl)) hZ (own_w hw 12) (own_w hw 5) (by decide) (by decide)) qa48 qc48 (g := (mkF m 31 #[oI p0, oJ p1, .second, oI p2, oR aNEIGHBOURS, oJ p1, .second, oI (p2 &&& (65535 : Int32)), .unset, .unset, .unset, .unset, .unset] [(.int (p2 &&& (65535 : Int32))), (.long p1), (.ref aNEIGHBOURS)])) rfl (by rw [hml]; rfl) (Steps.refl _) (argsL := [(.long p1), (.int (p2 &&& (65535 : Int32)))]) (rest := []) (lenOf pd_0_1 rfl) rfl (by show 2 * 0 + _ ≤ _; exact Nat.le_of_eq rfl) (hb hby at_31) (fun _ _ => ⟨rfl, e38, (by decide : 0 + 0 ≤ _), (by decide : 0 + 0 ≤ _)⟩)
          dsimp only [Pt.U, Pt.locs, Pt.cells, Pt.slots] at X48 l48 y48 z48 st48 hQ48
          subst l48 y48 z48
          obtain ⟨rfl, Nq48, e48⟩ := hQ48
          have N49 := Fr.app N39 Nq48
          refine own_tr st48 ?_
          show own_Go p e below _ (T48.setTop (mkF m 34 #[oI p0, oJ p1, .second, oI p2, oR aNEIGHBOURS, oJ p1, .second, oI (p2 &&& (65535 : Int32)), .unset, .unset, .unset, .unset, .unset] [(.double (FP.ddiv (FP.l2d (1 : Int64)) (FP.l2d (((1 : Int32) + (p2 &&& (65535 : Int32))).toInt64))))]))
          refine own_via (fun t kz => XS.dstore X48.here hx rfl (hb hby at_34) rfl (l' := #[oI p0, oJ p1, .second, oI p2, oR aNEIGHBOURS, oJ p1, .second, oI (p2 &&& (65535 : Int32)), oD (FP.ddiv (FP.l2d (1 : Int64)) (FP.l2d (((1 : Int32) + (p2 &&& (65535 : Int32))).toInt64))), .second, .unset, .unset, .unset]) rfl kz) ?_
          show own_Go p e below _ (T48.setTop (mkF m 36 #[oI p0, oJ p1, .second, oI p2, oR aNEIGHBOURS, oJ p1, .second, oI (p2 &&& (65535 : Int32)), oD (FP.ddiv (FP.l2d (1 : Int64)) (FP.l2d (((1 : Int32) + (p2 &&& (65535 : Int32))).toInt64))), .second, .unset, .unset, .unset] []))
          refine own_via (fun t kz => XS.aload X48.here hx rfl (hb hby at_36) rfl rfl kz) ?_
          show own_Go p e below _ (T48.setTop (mkF m 38 #[oI p0, oJ p1, .second, oI p2, oR aNEIGHBOURS, oJ p1, .second, oI (p2 &&& (65535 : Int32)), oD (FP.ddiv (FP.l2d (1 : Int64)) (FP.l2d (((1 : Int32) + (p2 &&& (65535 : Int32))).toInt64))), .second, .unset, .unset, .unset] [(.ref aNEIGHBOURS)]))
          refine own_via (fun t kz => XS.lload X48.here hx rfl (hb hby at_38) rfl kz) ?_
          show own_Go p e below _ (T48.setTop (mkF m 40 #[oI p0, oJ p1, .second, oI p2, oR aNEIGHBOURS, oJ p1, .second, oI (p2 &&& (65535 : Int32)), oD (FP.ddiv (FP.l2d (1 : Int64)) (FP.l2d (((1 : Int32) + (p2 &&& (65535 : Int32))).toInt64))), .second, .unset, .unset, .unset] [(.long p1), (.ref aNEIGHBOURS)]))
          refine own_via (fun t kz => XS.iload X48.here hx rfl (hb hby at_40) rfl kz) ?_
          show own_Go p e below _ (T48.setTop (mkF m 42 #[oI p0, oJ p1, .second, oI p2, oR aNEIGHBOURS, oJ p1, .second, oI (p2 &&& (65535 : Int32)), oD (FP.ddiv (FP.l2d (1 : Int64)) (FP.l2d (((1 : Int32) + (p2 &&& (65535 : Int32))).toInt64))), .second, .unset, .unset, .unset] [(.int (p2 &&& (65535 : Int32))), (.long p1), (.ref aNEIGHBOURS)]))
          refine own_via (fun t kz => XS.iconst X48.here hx rfl (hb hby at_42) kz) ?_
          show own_Go p e below _ (T48.setTop (mkF m 43 #[oI p0, oJ p1, .second, oI p2, oR aNEIGHBOURS, oJ p1, .second, oI (p2 &&& (65535 : Int32)), oD (FP.ddiv (FP.l2d (1 : Int64)) (FP.l2d (((1 : Int32) + (p2 &&& (65535 : Int32))).toInt64))), .second, .unset, .unset, .unset] [(.int (1 : Int32)), (.int (p2 &&& (65535 : Int32))), (.long p1), (.ref aNEIGHBOURS)]))
          refine own_via (fun t kz => XS.iadd X48.here hx rfl (hb hby at_43) rfl kz) ?_
          show own_Go p e below _ (T48.setTop (mkF m 44 #[oI p0, oJ p1, .second, oI p2, oR aNEIGHBOURS, oJ p1, .second, oI (p2 &&& (65535 : Int32)), oD (FP.ddiv (FP.l2d (1 : Int64)) (FP.l2d (((1 : Int32) + (p2 &&& (65535 : Int32))).toInt64))), .second, .unset, .unset, .unset] [(.int ((p2 &&& (65535 : Int32)) + (1 : Int32))), (.long p1), (.ref aNEIGHBOURS)]))
          obtain ⟨cq50, kq50, qa50, qb50, qc50⟩ := isOf hZ e48 E_NEIGHBOURS
          obtain ⟨_, _, ⟨T50, L50, k50, n50⟩, -, X50, ⟨Lc50, hQ50, l50, y50, z50⟩, st50⟩ := X48.virtualBack hx (y := (⟨"com/example/coupewise/coupewise/Bias", "weight", "(JI)D"⟩ : MethodName)) (z := (⟨"com/example/coupewise/coupewise/Bias", "weight", "(JI)D"⟩ : MethodName)) hown (mvT hZ (own_w hw 8)) (mvT hZ (own_w hw 9)) (notFace_of_selects (args := #[]) (mvT hZ (own_w hw 11))) (mvT hZ (own_w hw 11)) (mvT hZ (own_w hw 10)) (by decide) (backOf (W := 0) (rm2_2 l Z a0 hw [] aNEIGHBOURS p1 ((p2 &&& (65535 : Int32)) + (1 : Int32)) (FP.ddiv (FP.l2d (1 : Int64)) (FP.l2d (((1 : Int32) + ((p2 &&& (65535 : Int32)) + (1 : Int32))).toInt64))) h0 n0 Z0 E_NEIGHBOURS F_NEIGHBOURS_ordinal (own_nz p2).2 (by unfold f2_2; rfl)) hZ (own_w hw 12) (own_w hw 5) (by decide) (by decide)) qa50 qc50 (g := (mkF m 44 #[oI p0, oJ p1, .second, oI p2, oR aNEIGHBOURS, oJ p1, .second, oI (p2 &&& (65535 : Int32)), oD (FP.ddiv (FP.l2d (1 : Int64)) (FP.l2d (((1 : Int32) + (p2 &&& (65535 : Int32))).toInt64))), .second, .unset, .unset, .unset] [(.int ((p2 &&& (65535 : Int32)) + (1 : Int32))), (.long p1), (.ref aNEIGHBOURS)])) rfl (by rw [hml]; rfl) (Steps.refl _) (argsL := [(.long p1), (.int ((p2 &&& (65535 : Int32)) + (1 : Int32)))]) (rest := []) (lenOf pd_0_1 rfl) rfl (by show 2 * 0 + _ ≤ _; exact Nat.le_of_eq rfl) (hb hby at_44) (fun _ _ => ⟨rfl, e48, (by decide : 0 + 0 ≤ _), (by decide : 0 + 0 ≤ _)⟩)
          dsimp only [Pt.U, Pt.locs, Pt.cells, Pt.slots] at X50 l50 y50 z50 st50 hQ50
          subst l50 y50 z50
          obtain ⟨rfl, Nq50, e50⟩ := hQ50
          have N51 := Fr.app N49 Nq50
          refine own_tr st50 ?_
          show own_Go p e below _ (T50.setTop (mkF m 47 #[oI p0, oJ p1, .second, oI p2, oR aNEIGHBOURS, oJ p1, .second, oI (p2 &&& (65535 : Int32)), oD (FP.ddiv (FP.l2d (1 : Int64)) (FP.l2d (((1 : Int32) + (p2 &&& (65535 : Int32))).toInt64))), .second, .unset, .unset, .unset] [(.double (FP.ddiv (FP.l2d (1 : Int64)) (FP.l2d (((1 : Int32) + ((p2 &&& (65535 : Int32)) + (1 : Int32))).toInt64))))]))
          refine own_via (fun t kz => XS.dstore X50.here hx rfl (hb hby at_47) rfl (l' := #[oI p0, oJ p1, .second, oI p2, oR aNEIGHBOURS, oJ p1, .second, oI (p2 &&& (65535 : Int32)), oD (FP.ddiv (FP.l2d (1 : Int64)) (FP.l2d (((1 : Int32) + (p2 &&& (65535 : Int32))).toInt64))), .second, oD (FP.ddiv (FP.l2d (1 : Int64)) (FP.l2d (((1 : Int32) + ((p2 &&& (65535 : Int32)) + (1 : Int32))).toInt64))), .second, .unset]) rfl kz) ?_
          show own_Go p e below _ (T50.setTop (mkF m 49 #[oI p0, oJ p1, .second, oI p2, oR aNEIGHBOURS, oJ p1, .second, oI (p2 &&& (65535 : Int32)), oD (FP.ddiv (FP.l2d (1 : Int64)) (FP.l2d (((1 : Int32) + (p2 &&& (65535 : Int32))).toInt64))), .second, oD (FP.ddiv (FP.l2d (1 : Int64)) (FP.l2d (((1 : Int32) + ((p2 &&& (65535 : Int32)) + (1 : Int32))).toInt64))), .second, .unset] []))
          refine own_via (fun t kz => XS.dload X50.here hx rfl (hb hby at_49) rfl kz) ?_
          show own_Go p e below _ (T50.setTop (mkF m 51 #[oI p0, oJ p1, .second, oI p2, oR aNEIGHBOURS, oJ p1, .second, oI (p2 &&& (65535 : Int32)), oD (FP.ddiv (FP.l2d (1 : Int64)) (FP.l2d (((1 : Int32) + (p2 &&& (65535 : Int32))).toInt64))), .second, oD (FP.ddiv (FP.l2d (1 : Int64)) (FP.l2d (((1 : Int32) + ((p2 &&& (65535 : Int32)) + (1 : Int32))).toInt64))), .second, .unset] [(.double (FP.ddiv (FP.l2d (1 : Int64)) (FP.l2d (((1 : Int32) + (p2 &&& (65535 : Int32))).toInt64))))]))
          refine own_via (fun t kz => XS.dload X50.here hx rfl (hb hby at_51) rfl kz) ?_
          show own_Go p e below _ (T50.setTop (mkF m 53 #[oI p0, oJ p1, .second, oI p2, oR aNEIGHBOURS, oJ p1, .second, oI (p2 &&& (65535 : Int32)), oD (FP.ddiv (FP.l2d (1 : Int64)) (FP.l2d (((1 : Int32) + (p2 &&& (65535 : Int32))).toInt64))), .second, oD (FP.ddiv (FP.l2d (1 : Int64)) (FP.l2d (((1 : Int32) + ((p2 &&& (65535 : Int32)) + (1 : Int32))).toInt64))), .second, .unset] [(.double (FP.ddiv (FP.l2d (1 : Int64)) (FP.l2d (((1 : Int32) + ((p2 &&& (65535 : Int32)) + (1 : Int32))).toInt64)))), (.double (FP.ddiv (FP.l2d (1 : Int64)) (FP.l2d (((1 : Int32) + (p2 &&& (65535 : Int32))).toInt64))))]))
          obtain ⟨t53, ht53, hn53⟩ : ∃ t, cmpValue (FP.dcmp (FP.ddiv (FP.l2d (1 : Int64)) (FP.l2d (((1 : Int32) + (p2 &&& (65535 : Int32))).toInt64))) (FP.ddiv (FP.l2d (1 : Int64)) (FP.l2d (((1 : Int32) + ((p2 &&& (65535 : Int32)) + (1 : Int32))).toInt64)))) .l = t ∧ ¬ (t = (0 : Int32)) := ⟨_, rfl, own_cmp (by decide) p2⟩
          refine own_via (fun t kz => XS.dcmpS X50.here hx rfl (hb hby at_53) rfl ht53 kz) ?_
          show own_Go p e below _ (T50.setTop (mkF m 54 #[oI p0, oJ p1, .second, oI p2, oR aNEIGHBOURS, oJ p1, .second, oI (p2 &&& (65535 : Int32)), oD (FP.ddiv (FP.l2d (1 : Int64)) (FP.l2d (((1 : Int32) + (p2 &&& (65535 : Int32))).toInt64))), .second, oD (FP.ddiv (FP.l2d (1 : Int64)) (FP.l2d (((1 : Int32) + ((p2 &&& (65535 : Int32)) + (1 : Int32))).toInt64))), .second, .unset] [(.int t53)]))
          refine own_via (fun t kz => XS.ifNo X50.here hx rfl (hb hby at_54) rfl ((if0 _ _).trans (feq hn53).1) kz) ?_
          show own_Go p e below _ (T50.setTop (mkF m 57 #[oI p0, oJ p1, .second, oI p2, oR aNEIGHBOURS, oJ p1, .second, oI (p2 &&& (65535 : Int32)), oD (FP.ddiv (FP.l2d (1 : Int64)) (FP.l2d (((1 : Int32) + (p2 &&& (65535 : Int32))).toInt64))), .second, oD (FP.ddiv (FP.l2d (1 : Int64)) (FP.l2d (((1 : Int32) + ((p2 &&& (65535 : Int32)) + (1 : Int32))).toInt64))), .second, .unset] []))
          refine own_via (fun t kz => XS.iconst X50.here hx rfl (hb hby at_57) kz) ?_
          show own_Go p e below _ (T50.setTop (mkF m 58 #[oI p0, oJ p1, .second, oI p2, oR aNEIGHBOURS, oJ p1, .second, oI (p2 &&& (65535 : Int32)), oD (FP.ddiv (FP.l2d (1 : Int64)) (FP.l2d (((1 : Int32) + (p2 &&& (65535 : Int32))).toInt64))), .second, oD (FP.ddiv (FP.l2d (1 : Int64)) (FP.l2d (((1 : Int32) + ((p2 &&& (65535 : Int32)) + (1 : Int32))).toInt64))), .second, .unset] [(.int (1 : Int32))]))
          refine own_via (fun t kz => XS.goto X50.here hx rfl (pc0 := 58) (pc' := 62) rfl (hb hby at_58) (by decide) (by decide) kz) ?_
          show own_Go p e below _ (T50.setTop (mkF m 62 #[oI p0, oJ p1, .second, oI p2, oR aNEIGHBOURS, oJ p1, .second, oI (p2 &&& (65535 : Int32)), oD (FP.ddiv (FP.l2d (1 : Int64)) (FP.l2d (((1 : Int32) + (p2 &&& (65535 : Int32))).toInt64))), .second, oD (FP.ddiv (FP.l2d (1 : Int64)) (FP.l2d (((1 : Int32) + ((p2 &&& (65535 : Int32)) + (1 : Int32))).toInt64))), .second, .unset] [(.int (1 : Int32))]))
          refine own_via (fun t kz => XS.istore X50.here hx rfl (hb hby at_62) rfl (l' := #[oI p0, oJ p1, .second, oI p2, oR aNEIGHBOURS, oJ p1, .second, oI (p2 &&& (65535 : Int32)), oD (FP.ddiv (FP.l2d (1 : Int64)) (FP.l2d (((1 : Int32) + (p2 &&& (65535 : Int32))).toInt64))), .second, oD (FP.ddiv (FP.l2d (1 : Int64)) (FP.l2d (((1 : Int32) + ((p2 &&& (65535 : Int32)) + (1 : Int32))).toInt64))), .second, oI (1 : Int32)]) rfl kz) ?_
          show own_Go p e below _ (T50.setTop (mkF m 64 #[oI p0, oJ p1, .second, oI p2, oR aNEIGHBOURS, oJ p1, .second, oI (p2 &&& (65535 : Int32)), oD (FP.ddiv (FP.l2d (1 : Int64)) (FP.l2d (((1 : Int32) + (p2 &&& (65535 : Int32))).toInt64))), .second, oD (FP.ddiv (FP.l2d (1 : Int64)) (FP.l2d (((1 : Int32) + ((p2 &&& (65535 : Int32)) + (1 : Int32))).toInt64))), .second, oI (1 : Int32)] []))
          refine own_via (fun t kz => XS.aload X50.here hx rfl (hb hby at_64) rfl rfl kz) ?_
          show own_Go p e below _ (T50.setTop (mkF m 66 #[oI p0, oJ p1, .second, oI p2, oR aNEIGHBOURS, oJ p1, .second, oI (p2 &&& (65535 : Int32)), oD (FP.ddiv (FP.l2d (1 : Int64)) (FP.l2d (((1 : Int32) + (p2 &&& (65535 : Int32))).toInt64))), .second, oD (FP.ddiv (FP.l2d (1 : Int64)) (FP.l2d (((1 : Int32) + ((p2 &&& (65535 : Int32)) + (1 : Int32))).toInt64))), .second, oI (1 : Int32)] [(.ref aNEIGHBOURS)]))
          obtain ⟨cq52, kq52, qa52, qb52, qc52⟩ := isOf hZ e50 E_NEIGHBOURS
          obtain ⟨_, _, ⟨T52, L52, k52, n52⟩, -, X52, ⟨Lc52, hQ52, l52, y52, z52⟩, st52⟩ := X50.virtualBack hx (y := (⟨"com/example/coupewise/coupewise/Bias", "countsNeighbours", "()Z"⟩ : MethodName)) (z := (⟨"com/example/coupewise/coupewise/Bias", "countsNeighbours", "()Z"⟩ : MethodName)) hown (mvT hZ (own_w hw 22)) (mvT hZ (own_w hw 23)) (notFace_of_selects (args := #[]) (mvT hZ (own_w hw 25))) (mvT hZ (own_w hw 25)) (mvT hZ (own_w hw 24)) (by decide) (backOf (W := 0) (rm4 l Z a0 hw [] aNEIGHBOURS aNEIGHBOURS aBOTH (1 : Int32) h0 n0 Z0 S_NEIGHBOURS S_BOTH (by unfold f4; rw [if_pos (rfl : aNEIGHBOURS = aNEIGHBOURS)])) hZ (own_w hw 26) (own_w hw 5) (by decide) (by decide)) qa52 qc52 (g := (mkF m 66 #[oI p0, oJ p1, .second, oI p2, oR aNEIGHBOURS, oJ p1, .second, oI (p2 &&& (65535 : Int32)), oD (FP.ddiv (FP.l2d (1 : Int64)) (FP.l2d (((1 : Int32) + (p2 &&& (65535 : Int32))).toInt64))), .second, oD (FP.ddiv (FP.l2d (1 : Int64)) (FP.l2d (((1 : Int32) + ((p2 &&& (65535 : Int32)) + (1 : Int32))).toInt64))), .second, oI (1 : Int32)] [(.ref aNEIGHBOURS)])) rfl (by rw [hml]; rfl) (Steps.refl _) (argsL := []) (rest := []) (lenOf pd_0_2 rfl) rfl (by show 2 * 0 + _ ≤ _; exact Nat.le_of_eq rfl) (hb hby at_66) (fun _ _ => ⟨rfl, e50, (by decide : 0 + 0 ≤ _), (by decide : 0 + 0 ≤ _)⟩)
          dsimp only [Pt.U, Pt.locs, Pt.cells, Pt.slots] at X52 l52 y52 z52 st52 hQ52
          subst l52 y52 z52
          obtain ⟨rfl, Nq52, e52⟩ := hQ52
          have N53 := Fr.app N51 Nq52
          refine own_tr st52 ?_
          show own_Go p e below _ (T52.setTop (mkF m 69 #[oI p0, oJ p1, .second, oI p2, oR aNEIGHBOURS, oJ p1, .second, oI (p2 &&& (65535 : Int32)), oD (FP.ddiv (FP.l2d (1 : Int64)) (FP.l2d (((1 : Int32) + (p2 &&& (65535 : Int32))).toInt64))), .second, oD (FP.ddiv (FP.l2d (1 : Int64)) (FP.l2d (((1 : Int32) + ((p2 &&& (65535 : Int32)) + (1 : Int32))).toInt64))), .second, oI (1 : Int32)] [(.int (1 : Int32))]))
          refine own_via (fun t kz => XS.iload X52.here hx rfl (hb hby at_69) rfl kz) ?_
          show own_Go p e below _ (T52.setTop (mkF m 71 #[oI p0, oJ p1, .second, oI p2, oR aNEIGHBOURS, oJ p1, .second, oI (p2 &&& (65535 : Int32)), oD (FP.ddiv (FP.l2d (1 : Int64)) (FP.l2d (((1 : Int32) + (p2 &&& (65535 : Int32))).toInt64))), .second, oD (FP.ddiv (FP.l2d (1 : Int64)) (FP.l2d (((1 : Int32) + ((p2 &&& (65535 : Int32)) + (1 : Int32))).toInt64))), .second, oI (1 : Int32)] [(.int (1 : Int32)), (.int (1 : Int32))]))
          refine own_via (fun t kz => XS.icmpNo X52.here hx rfl (hb hby at_71) rfl (teq (by decide : (1 : Int32) = (1 : Int32))).2 kz) ?_
          show own_Go p e below _ (T52.setTop (mkF m 74 #[oI p0, oJ p1, .second, oI p2, oR aNEIGHBOURS, oJ p1, .second, oI (p2 &&& (65535 : Int32)), oD (FP.ddiv (FP.l2d (1 : Int64)) (FP.l2d (((1 : Int32) + (p2 &&& (65535 : Int32))).toInt64))), .second, oD (FP.ddiv (FP.l2d (1 : Int64)) (FP.l2d (((1 : Int32) + ((p2 &&& (65535 : Int32)) + (1 : Int32))).toInt64))), .second, oI (1 : Int32)] []))
          refine own_via (fun t kz => XS.iconst X52.here hx rfl (hb hby at_74) kz) ?_
          show own_Go p e below _ (T52.setTop (mkF m 75 #[oI p0, oJ p1, .second, oI p2, oR aNEIGHBOURS, oJ p1, .second, oI (p2 &&& (65535 : Int32)), oD (FP.ddiv (FP.l2d (1 : Int64)) (FP.l2d (((1 : Int32) + (p2 &&& (65535 : Int32))).toInt64))), .second, oD (FP.ddiv (FP.l2d (1 : Int64)) (FP.l2d (((1 : Int32) + ((p2 &&& (65535 : Int32)) + (1 : Int32))).toInt64))), .second, oI (1 : Int32)] [(.int (1 : Int32))]))
          refine own_via (fun t kz => XS.goto X52.here hx rfl (pc0 := 75) (pc' := 79) rfl (hb hby at_75) (by decide) (by decide) kz) ?_
          show own_Go p e below _ (T52.setTop (mkF m 79 #[oI p0, oJ p1, .second, oI p2, oR aNEIGHBOURS, oJ p1, .second, oI (p2 &&& (65535 : Int32)), oD (FP.ddiv (FP.l2d (1 : Int64)) (FP.l2d (((1 : Int32) + (p2 &&& (65535 : Int32))).toInt64))), .second, oD (FP.ddiv (FP.l2d (1 : Int64)) (FP.l2d (((1 : Int32) + ((p2 &&& (65535 : Int32)) + (1 : Int32))).toInt64))), .second, oI (1 : Int32)] [(.int (1 : Int32))]))
          obtain ⟨fs, hr, hrun, hended, hW, hsame⟩ := X52.leave (v := some (.int (1 : Int32))) (fun h => by rw [Bd.returns] at h; cases h)
          refine ⟨_, _, retN X52 hx (t := .boolean) Bd.returns (by simp) (hb hby at_79) hr, hrun, hended, _, _, rfl, ?_, ⟨_, rfl⟩, hW, hsame.mono (by decide) (by decide)⟩
          show Q0 Z p0 p1 p2 aNONE aNEIGHBOURS aBOTH aVOLUME h0 n0 _ T52.heap _
          rw [e52]
          exact ⟨rfl, N53⟩
      · obtain ⟨_, _, ⟨T55, L55, k55, n55⟩, -, X55, ⟨Lc55, hQ55, l55, y55, z55⟩, st55⟩ := Jvm.LawKit.callS X0 hx (y := (⟨"com/example/coupewise/coupewise/BiasCountsNeighboursPinLaw", "pick", "(I)Lcom/example/coupewise/coupewise/Bias;"⟩ : MethodName)) hown (mvT hZ (own_w hw 0)) (mvT hZ (own_w hw 1)) (mvT hZ (own_w hw 2)) (mvT hZ (own_w hw 3)) (by decide) (backOf (W := 0) (rm1 l Z a0 hw [] p0 aNONE aVOLUME aNEIGHBOURS aBOTH aBOTH h0 n0 Z0 S_NONE S_VOLUME S_NEIGHBOURS S_BOTH (by unfold f1; rw [if_neg hc1_1, if_neg hc1_19, if_neg hc1_37])) hZ (own_w hw 3) (own_w hw 2) (by decide) (by decide)) (g := (mkF m 1 #[oI p0, oJ p1, .second, oI p2, .unset, .unset, .unset, .unset, .unset, .unset, .unset, .unset, .unset] [(.int p0)])) rfl (by rw [hml]; rfl) (argsL := [(.int p0)]) (rest := []) (lenOf pd_0_0 rfl) rfl (by show 2 * 0 + _ ≤ _; exact Nat.le_of_eq rfl) (hb hby at_1) (fun _ _ => ⟨rfl, e0, (by decide : 0 + 0 ≤ _), (by decide : 0 + 0 ≤ _)⟩)
        dsimp only [Pt.U, Pt.locs, Pt.cells, Pt.slots] at X55 l55 y55 z55 st55 hQ55
        subst l55 y55 z55
        obtain ⟨rfl, Nq55, e55⟩ := hQ55
        have N56 := Fr.app N0 Nq55
        refine own_via st55 ?_
        show own_Go p e below _ (T55.setTop (mkF m 4 #[oI p0, oJ p1, .second, oI p2, .unset, .unset, .unset, .unset, .unset, .unset, .unset, .unset, .unset] [(.ref aBOTH)]))
        refine own_via (fun t kz => XS.astore X55.here hx rfl (hb hby at_4) rfl rfl (l' := #[oI p0, oJ p1, .second, oI p2, oR aBOTH, .unset, .unset, .unset, .unset, .unset, .unset, .unset, .unset]) rfl kz) ?_
        show own_Go p e below _ (T55.setTop (mkF m 6 #[oI p0, oJ p1, .second, oI p2, oR aBOTH, .unset, .unset, .unset, .unset, .unset, .unset, .unset, .unset] []))
        refine own_via (fun t kz => XS.lloadN X55.here hx rfl (hb hby at_6) rfl kz) ?_
        show own_Go p e below _ (T55.setTop (mkF m 7 #[oI p0, oJ p1, .second, oI p2, oR aBOTH, .unset, .unset, .unset, .unset, .unset, .unset, .unset, .unset] [(.long p1)]))
        refine own_via (fun t kz => XS.lstore X55.here hx rfl (hb hby at_7) rfl (l' := #[oI p0, oJ p1, .second, oI p2, oR aBOTH, oJ p1, .second, .unset, .unset, .unset, .unset, .unset, .unset]) rfl kz) ?_
        show own_Go p e below _ (T55.setTop (mkF m 9 #[oI p0, oJ p1, .second, oI p2, oR aBOTH, oJ p1, .second, .unset, .unset, .unset, .unset, .unset, .unset] []))
        refine own_via (fun t kz => XS.lload X55.here hx rfl (hb hby at_9) rfl kz) ?_
        show own_Go p e below _ (T55.setTop (mkF m 11 #[oI p0, oJ p1, .second, oI p2, oR aBOTH, oJ p1, .second, .unset, .unset, .unset, .unset, .unset, .unset] [(.long p1)]))
        refine own_via (fun t kz => XS.lconst X55.here hx rfl (hb hby at_11) kz) ?_
        show own_Go p e below _ (T55.setTop (mkF m 12 #[oI p0, oJ p1, .second, oI p2, oR aBOTH, oJ p1, .second, .unset, .unset, .unset, .unset, .unset, .unset] [(.long (0 : Int64)), (.long p1)]))
        refine own_via (fun t kz => XS.lcmp X55.here hx rfl (hb hby at_12) rfl kz) ?_
        show own_Go p e below _ (T55.setTop (mkF m 13 #[oI p0, oJ p1, .second, oI p2, oR aBOTH, oJ p1, .second, .unset, .unset, .unset, .unset, .unset, .unset] [(.int (lcmpW p1 (0 : Int64)))]))
        by_cases hc13_57 : p1 = (0 : Int64)
        · refine own_via (fun t kz => XS.ifNo X55.here hx rfl (hb hby at_13) rfl ((if0 _ _).trans (teq ((lw_eq _ _).mpr hc13_57)).2) kz) ?_
          show own_Go p e below _ (T55.setTop (mkF m 16 #[oI p0, oJ p1, .second, oI p2, oR aBOTH, oJ p1, .second, .unset, .unset, .unset, .unset, .unset, .unset] []))
          refine own_via (fun t kz => XS.lconst X55.here hx rfl (hb hby at_16) kz) ?_
          show own_Go p e below _ (T55.setTop (mkF m 17 #[oI p0, oJ p1, .second, oI p2, oR aBOTH, oJ p1, .second, .unset, .unset, .unset, .unset, .unset, .unset] [(.long (1 : Int64))]))
          refine own_via (fun t kz => XS.lstore X55.here hx rfl (hb hby at_17) rfl (l' := #[oI p0, oJ p1, .second, oI p2, oR aBOTH, oJ (1 : Int64), .second, .unset, .unset, .unset, .unset, .unset, .unset]) rfl kz) ?_
          show own_Go p e below _ (T55.setTop (mkF m 19 #[oI p0, oJ p1, .second, oI p2, oR aBOTH, oJ (1 : Int64), .second, .unset, .unset, .unset, .unset, .unset, .unset] []))
          refine own_via (fun t kz => XS.iloadN X55.here hx rfl (hb hby at_19) rfl kz) ?_
          show own_Go p e below _ (T55.setTop (mkF m 20 #[oI p0, oJ p1, .second, oI p2, oR aBOTH, oJ (1 : Int64), .second, .unset, .unset, .unset, .unset, .unset, .unset] [(.int p2)]))
          refine own_via (fun t kz => X55.ldcInt hx hown (mvT hZ (own_w hw 7)) (g := (mkF m 20 #[oI p0, oJ p1, .second, oI p2, oR aBOTH, oJ (1 : Int64), .second, .unset, .unset, .unset, .unset, .unset, .unset] [(.int p2)])) rfl (hb hby at_20) t kz) ?_
          show own_Go p e below _ (T55.setTop (mkF m 22 #[oI p0, oJ p1, .second, oI p2, oR aBOTH, oJ (1 : Int64), .second, .unset, .unset, .unset, .unset, .unset, .unset] [(.int (65535 : Int32)), (.int p2)]))
          refine own_via (fun t kz => XS.iand X55.here hx rfl (hb hby at_22) rfl kz) ?_
          show own_Go p e below _ (T55.setTop (mkF m 23 #[oI p0, oJ p1, .second, oI p2, oR aBOTH, oJ (1 : Int64), .second, .unset, .unset, .unset, .unset, .unset, .unset] [(.int (p2 &&& (65535 : Int32)))]))
          refine own_via (fun t kz => XS.istore X55.here hx rfl (hb hby at_23) rfl (l' := #[oI p0, oJ p1, .second, oI p2, oR aBOTH, oJ (1 : Int64), .second, oI (p2 &&& (65535 : Int32)), .unset, .unset, .unset, .unset, .unset]) rfl kz) ?_
          show own_Go p e below _ (T55.setTop (mkF m 25 #[oI p0, oJ p1, .second, oI p2, oR aBOTH, oJ (1 : Int64), .second, oI (p2 &&& (65535 : Int32)), .unset, .unset, .unset, .unset, .unset] []))
          refine own_via (fun t kz => XS.aload X55.here hx rfl (hb hby at_25) rfl rfl kz) ?_
          show own_Go p e below _ (T55.setTop (mkF m 27 #[oI p0, oJ p1, .second, oI p2, oR aBOTH, oJ (1 : Int64), .second, oI (p2 &&& (65535 : Int32)), .unset, .unset, .unset, .unset, .unset] [(.ref aBOTH)]))
          refine own_via (fun t kz => XS.lload X55.here hx rfl (hb hby at_27) rfl kz) ?_
          show own_Go p e below _ (T55.setTop (mkF m 29 #[oI p0, oJ p1, .second, oI p2, oR aBOTH, oJ (1 : Int64), .second, oI (p2 &&& (65535 : Int32)), .unset, .unset, .unset, .unset, .unset] [(.long (1 : Int64)), (.ref aBOTH)]))
          refine own_via (fun t kz => XS.iload X55.here hx rfl (hb hby at_29) rfl kz) ?_
          show own_Go p e below _ (T55.setTop (mkF m 31 #[oI p0, oJ p1, .second, oI p2, oR aBOTH, oJ (1 : Int64), .second, oI (p2 &&& (65535 : Int32)), .unset, .unset, .unset, .unset, .unset] [(.int (p2 &&& (65535 : Int32))), (.long (1 : Int64)), (.ref aBOTH)]))
          obtain ⟨cq58, kq58, qa58, qb58, qc58⟩ := isOf hZ e55 E_BOTH
          obtain ⟨_, _, ⟨T58, L58, k58, n58⟩, -, X58, ⟨Lc58, hQ58, l58, y58, z58⟩, st58⟩ := X55.virtualBack hx (y := (⟨"com/example/coupewise/coupewise/Bias", "weight", "(JI)D"⟩ : MethodName)) (z := (⟨"com/example/coupewise/coupewise/Bias", "weight", "(JI)D"⟩ : MethodName)) hown (mvT hZ (own_w hw 8)) (mvT hZ (own_w hw 9)) (notFace_of_selects (args := #[]) (mvT hZ (own_w hw 11))) (mvT hZ (own_w hw 11)) (mvT hZ (own_w hw 10)) (by decide) (backOf (W := 0) (rm2_3 l Z a0 hw [] aBOTH (1 : Int64) (p2 &&& (65535 : Int32)) (FP.ddiv (FP.l2d (1 : Int64)) (FP.l2d (((1 : Int32) + (p2 &&& (65535 : Int32))).toInt64))) h0 n0 Z0 E_BOTH F_BOTH_ordinal (own_nz p2).1 (by unfold f2_3; rfl)) hZ (own_w hw 12) (own_w hw 5) (by decide) (by decide)) qa58 qc58 (g := (mkF m 31 #[oI p0, oJ p1, .second, oI p2, oR aBOTH, oJ (1 : Int64), .second, oI (p2 &&& (65535 : Int32)), .unset, .unset, .unset, .unset, .unset] [(.int (p2 &&& (65535 : Int32))), (.long (1 : Int64)), (.ref aBOTH)])) rfl (by rw [hml]; rfl) (Steps.refl _) (argsL := [(.long (1 : Int64)), (.int (p2 &&& (65535 : Int32)))]) (rest := []) (lenOf pd_0_1 rfl) rfl (by show 2 * 0 + _ ≤ _; exact Nat.le_of_eq rfl) (hb hby at_31) (fun _ _ => ⟨rfl, e55, (by decide : 0 + 0 ≤ _), (by decide : 0 + 0 ≤ _)⟩)
          dsimp only [Pt.U, Pt.locs, Pt.cells, Pt.slots] at X58 l58 y58 z58 st58 hQ58
          subst l58 y58 z58
          obtain ⟨rfl, Nq58, e58⟩ := hQ58
          have N59 := Fr.app N56 Nq58
          refine own_tr st58 ?_
          show own_Go p e below _ (T58.setTop (mkF m 34 #[oI p0, oJ p1, .second, oI p2, oR aBOTH, oJ (1 : Int64), .second, oI (p2 &&& (65535 : Int32)), .unset, .unset, .unset, .unset, .unset] [(.double (FP.ddiv (FP.l2d (1 : Int64)) (FP.l2d (((1 : Int32) + (p2 &&& (65535 : Int32))).toInt64))))]))
          refine own_via (fun t kz => XS.dstore X58.here hx rfl (hb hby at_34) rfl (l' := #[oI p0, oJ p1, .second, oI p2, oR aBOTH, oJ (1 : Int64), .second, oI (p2 &&& (65535 : Int32)), oD (FP.ddiv (FP.l2d (1 : Int64)) (FP.l2d (((1 : Int32) + (p2 &&& (65535 : Int32))).toInt64))), .second, .unset, .unset, .unset]) rfl kz) ?_
          show own_Go p e below _ (T58.setTop (mkF m 36 #[oI p0, oJ p1, .second, oI p2, oR aBOTH, oJ (1 : Int64), .second, oI (p2 &&& (65535 : Int32)), oD (FP.ddiv (FP.l2d (1 : Int64)) (FP.l2d (((1 : Int32) + (p2 &&& (65535 : Int32))).toInt64))), .second, .unset, .unset, .unset] []))
          refine own_via (fun t kz => XS.aload X58.here hx rfl (hb hby at_36) rfl rfl kz) ?_
          show own_Go p e below _ (T58.setTop (mkF m 38 #[oI p0, oJ p1, .second, oI p2, oR aBOTH, oJ (1 : Int64), .second, oI (p2 &&& (65535 : Int32)), oD (FP.ddiv (FP.l2d (1 : Int64)) (FP.l2d (((1 : Int32) + (p2 &&& (65535 : Int32))).toInt64))), .second, .unset, .unset, .unset] [(.ref aBOTH)]))
          refine own_via (fun t kz => XS.lload X58.here hx rfl (hb hby at_38) rfl kz) ?_
          show own_Go p e below _ (T58.setTop (mkF m 40 #[oI p0, oJ p1, .second, oI p2, oR aBOTH, oJ (1 : Int64), .second, oI (p2 &&& (65535 : Int32)), oD (FP.ddiv (FP.l2d (1 : Int64)) (FP.l2d (((1 : Int32) + (p2 &&& (65535 : Int32))).toInt64))), .second, .unset, .unset, .unset] [(.long (1 : Int64)), (.ref aBOTH)]))
          refine own_via (fun t kz => XS.iload X58.here hx rfl (hb hby at_40) rfl kz) ?_
          show own_Go p e below _ (T58.setTop (mkF m 42 #[oI p0, oJ p1, .second, oI p2, oR aBOTH, oJ (1 : Int64), .second, oI (p2 &&& (65535 : Int32)), oD (FP.ddiv (FP.l2d (1 : Int64)) (FP.l2d (((1 : Int32) + (p2 &&& (65535 : Int32))).toInt64))), .second, .unset, .unset, .unset] [(.int (p2 &&& (65535 : Int32))), (.long (1 : Int64)), (.ref aBOTH)]))
          refine own_via (fun t kz => XS.iconst X58.here hx rfl (hb hby at_42) kz) ?_
          show own_Go p e below _ (T58.setTop (mkF m 43 #[oI p0, oJ p1, .second, oI p2, oR aBOTH, oJ (1 : Int64), .second, oI (p2 &&& (65535 : Int32)), oD (FP.ddiv (FP.l2d (1 : Int64)) (FP.l2d (((1 : Int32) + (p2 &&& (65535 : Int32))).toInt64))), .second, .unset, .unset, .unset] [(.int (1 : Int32)), (.int (p2 &&& (65535 : Int32))), (.long (1 : Int64)), (.ref aBOTH)]))
          refine own_via (fun t kz => XS.iadd X58.here hx rfl (hb hby at_43) rfl kz) ?_
          show own_Go p e below _ (T58.setTop (mkF m 44 #[oI p0, oJ p1, .second, oI p2, oR aBOTH, oJ (1 : Int64), .second, oI (p2 &&& (65535 : Int32)), oD (FP.ddiv (FP.l2d (1 : Int64)) (FP.l2d (((1 : Int32) + (p2 &&& (65535 : Int32))).toInt64))), .second, .unset, .unset, .unset] [(.int ((p2 &&& (65535 : Int32)) + (1 : Int32))), (.long (1 : Int64)), (.ref aBOTH)]))
          obtain ⟨cq60, kq60, qa60, qb60, qc60⟩ := isOf hZ e58 E_BOTH
          obtain ⟨_, _, ⟨T60, L60, k60, n60⟩, -, X60, ⟨Lc60, hQ60, l60, y60, z60⟩, st60⟩ := X58.virtualBack hx (y := (⟨"com/example/coupewise/coupewise/Bias", "weight", "(JI)D"⟩ : MethodName)) (z := (⟨"com/example/coupewise/coupewise/Bias", "weight", "(JI)D"⟩ : MethodName)) hown (mvT hZ (own_w hw 8)) (mvT hZ (own_w hw 9)) (notFace_of_selects (args := #[]) (mvT hZ (own_w hw 11))) (mvT hZ (own_w hw 11)) (mvT hZ (own_w hw 10)) (by decide) (backOf (W := 0) (rm2_3 l Z a0 hw [] aBOTH (1 : Int64) ((p2 &&& (65535 : Int32)) + (1 : Int32)) (FP.ddiv (FP.l2d (1 : Int64)) (FP.l2d (((1 : Int32) + ((p2 &&& (65535 : Int32)) + (1 : Int32))).toInt64))) h0 n0 Z0 E_BOTH F_BOTH_ordinal (own_nz p2).2 (by unfold f2_3; rfl)) hZ (own_w hw 12) (own_w hw 5) (by decide) (by decide)) qa60 qc60 (g := (mkF m 44 #[oI p0, oJ p1, .second, oI p2, oR aBOTH, oJ (1 : Int64), .second, oI (p2 &&& (65535 : Int32)), oD (FP.ddiv (FP.l2d (1 : Int64)) (FP.l2d (((1 : Int32) + (p2 &&& (65535 : Int32))).toInt64))), .second, .unset, .unset, .unset] [(.int ((p2 &&& (65535 : Int32)) + (1 : Int32))), (.long (1 : Int64)), (.ref aBOTH)])) rfl (by rw [hml]; rfl) (Steps.refl _) (argsL := [(.long (1 : Int64)), (.int ((p2 &&& (65535 : Int32)) + (1 : Int32)))]) (rest := []) (lenOf pd_0_1 rfl) rfl (by show 2 * 0 + _ ≤ _; exact Nat.le_of_eq rfl) (hb hby at_44) (fun _ _ => ⟨rfl, e58, (by decide : 0 + 0 ≤ _), (by decide : 0 + 0 ≤ _)⟩)
          dsimp only [Pt.U, Pt.locs, Pt.cells, Pt.slots] at X60 l60 y60 z60 st60 hQ60
          subst l60 y60 z60
          obtain ⟨rfl, Nq60, e60⟩ := hQ60
          have N61 := Fr.app N59 Nq60
          refine own_tr st60 ?_
          show own_Go p e below _ (T60.setTop (mkF m 47 #[oI p0, oJ p1, .second, oI p2, oR aBOTH, oJ (1 : Int64), .second, oI (p2 &&& (65535 : Int32)), oD (FP.ddiv (FP.l2d (1 : Int64)) (FP.l2d (((1 : Int32) + (p2 &&& (65535 : Int32))).toInt64))), .second, .unset, .unset, .unset] [(.double (FP.ddiv (FP.l2d (1 : Int64)) (FP.l2d (((1 : Int32) + ((p2 &&& (65535 : Int32)) + (1 : Int32))).toInt64))))]))
          refine own_via (fun t kz => XS.dstore X60.here hx rfl (hb hby at_47) rfl (l' := #[oI p0, oJ p1, .second, oI p2, oR aBOTH, oJ (1 : Int64), .second, oI (p2 &&& (65535 : Int32)), oD (FP.ddiv (FP.l2d (1 : Int64)) (FP.l2d (((1 : Int32) + (p2 &&& (65535 : Int32))).toInt64))), .second, oD (FP.ddiv (FP.l2d (1 : Int64)) (FP.l2d (((1 : Int32) + ((p2 &&& (65535 : Int32)) + (1 : Int32))).toInt64))), .second, .unset]) rfl kz) ?_
          show own_Go p e below _ (T60.setTop (mkF m 49 #[oI p0, oJ p1, .second, oI p2, oR aBOTH, oJ (1 : Int64), .second, oI (p2 &&& (65535 : Int32)), oD (FP.ddiv (FP.l2d (1 : Int64)) (FP.l2d (((1 : Int32) + (p2 &&& (65535 : Int32))).toInt64))), .second, oD (FP.ddiv (FP.l2d (1 : Int64)) (FP.l2d (((1 : Int32) + ((p2 &&& (65535 : Int32)) + (1 : Int32))).toInt64))), .second, .unset] []))
          refine own_via (fun t kz => XS.dload X60.here hx rfl (hb hby at_49) rfl kz) ?_
          show own_Go p e below _ (T60.setTop (mkF m 51 #[oI p0, oJ p1, .second, oI p2, oR aBOTH, oJ (1 : Int64), .second, oI (p2 &&& (65535 : Int32)), oD (FP.ddiv (FP.l2d (1 : Int64)) (FP.l2d (((1 : Int32) + (p2 &&& (65535 : Int32))).toInt64))), .second, oD (FP.ddiv (FP.l2d (1 : Int64)) (FP.l2d (((1 : Int32) + ((p2 &&& (65535 : Int32)) + (1 : Int32))).toInt64))), .second, .unset] [(.double (FP.ddiv (FP.l2d (1 : Int64)) (FP.l2d (((1 : Int32) + (p2 &&& (65535 : Int32))).toInt64))))]))
          refine own_via (fun t kz => XS.dload X60.here hx rfl (hb hby at_51) rfl kz) ?_
          show own_Go p e below _ (T60.setTop (mkF m 53 #[oI p0, oJ p1, .second, oI p2, oR aBOTH, oJ (1 : Int64), .second, oI (p2 &&& (65535 : Int32)), oD (FP.ddiv (FP.l2d (1 : Int64)) (FP.l2d (((1 : Int32) + (p2 &&& (65535 : Int32))).toInt64))), .second, oD (FP.ddiv (FP.l2d (1 : Int64)) (FP.l2d (((1 : Int32) + ((p2 &&& (65535 : Int32)) + (1 : Int32))).toInt64))), .second, .unset] [(.double (FP.ddiv (FP.l2d (1 : Int64)) (FP.l2d (((1 : Int32) + ((p2 &&& (65535 : Int32)) + (1 : Int32))).toInt64)))), (.double (FP.ddiv (FP.l2d (1 : Int64)) (FP.l2d (((1 : Int32) + (p2 &&& (65535 : Int32))).toInt64))))]))
          obtain ⟨t53, ht53, hn53⟩ : ∃ t, cmpValue (FP.dcmp (FP.ddiv (FP.l2d (1 : Int64)) (FP.l2d (((1 : Int32) + (p2 &&& (65535 : Int32))).toInt64))) (FP.ddiv (FP.l2d (1 : Int64)) (FP.l2d (((1 : Int32) + ((p2 &&& (65535 : Int32)) + (1 : Int32))).toInt64)))) .l = t ∧ ¬ (t = (0 : Int32)) := ⟨_, rfl, own_cmp (by decide) p2⟩
          refine own_via (fun t kz => XS.dcmpS X60.here hx rfl (hb hby at_53) rfl ht53 kz) ?_
          show own_Go p e below _ (T60.setTop (mkF m 54 #[oI p0, oJ p1, .second, oI p2, oR aBOTH, oJ (1 : Int64), .second, oI (p2 &&& (65535 : Int32)), oD (FP.ddiv (FP.l2d (1 : Int64)) (FP.l2d (((1 : Int32) + (p2 &&& (65535 : Int32))).toInt64))), .second, oD (FP.ddiv (FP.l2d (1 : Int64)) (FP.l2d (((1 : Int32) + ((p2 &&& (65535 : Int32)) + (1 : Int32))).toInt64))), .second, .unset] [(.int t53)]))
          refine own_via (fun t kz => XS.ifNo X60.here hx rfl (hb hby at_54) rfl ((if0 _ _).trans (feq hn53).1) kz) ?_
          show own_Go p e below _ (T60.setTop (mkF m 57 #[oI p0, oJ p1, .second, oI p2, oR aBOTH, oJ (1 : Int64), .second, oI (p2 &&& (65535 : Int32)), oD (FP.ddiv (FP.l2d (1 : Int64)) (FP.l2d (((1 : Int32) + (p2 &&& (65535 : Int32))).toInt64))), .second, oD (FP.ddiv (FP.l2d (1 : Int64)) (FP.l2d (((1 : Int32) + ((p2 &&& (65535 : Int32)) + (1 : Int32))).toInt64))), .second, .unset] []))
          refine own_via (fun t kz => XS.iconst X60.here hx rfl (hb hby at_57) kz) ?_
          show own_Go p e below _ (T60.setTop (mkF m 58 #[oI p0, oJ p1, .second, oI p2, oR aBOTH, oJ (1 : Int64), .second, oI (p2 &&& (65535 : Int32)), oD (FP.ddiv (FP.l2d (1 : Int64)) (FP.l2d (((1 : Int32) + (p2 &&& (65535 : Int32))).toInt64))), .second, oD (FP.ddiv (FP.l2d (1 : Int64)) (FP.l2d (((1 : Int32) + ((p2 &&& (65535 : Int32)) + (1 : Int32))).toInt64))), .second, .unset] [(.int (1 : Int32))]))
          refine own_via (fun t kz => XS.goto X60.here hx rfl (pc0 := 58) (pc' := 62) rfl (hb hby at_58) (by decide) (by decide) kz) ?_
          show own_Go p e below _ (T60.setTop (mkF m 62 #[oI p0, oJ p1, .second, oI p2, oR aBOTH, oJ (1 : Int64), .second, oI (p2 &&& (65535 : Int32)), oD (FP.ddiv (FP.l2d (1 : Int64)) (FP.l2d (((1 : Int32) + (p2 &&& (65535 : Int32))).toInt64))), .second, oD (FP.ddiv (FP.l2d (1 : Int64)) (FP.l2d (((1 : Int32) + ((p2 &&& (65535 : Int32)) + (1 : Int32))).toInt64))), .second, .unset] [(.int (1 : Int32))]))
          refine own_via (fun t kz => XS.istore X60.here hx rfl (hb hby at_62) rfl (l' := #[oI p0, oJ p1, .second, oI p2, oR aBOTH, oJ (1 : Int64), .second, oI (p2 &&& (65535 : Int32)), oD (FP.ddiv (FP.l2d (1 : Int64)) (FP.l2d (((1 : Int32) + (p2 &&& (65535 : Int32))).toInt64))), .second, oD (FP.ddiv (FP.l2d (1 : Int64)) (FP.l2d (((1 : Int32) + ((p2 &&& (65535 : Int32)) + (1 : Int32))).toInt64))), .second, oI (1 : Int32)]) rfl kz) ?_
          show own_Go p e below _ (T60.setTop (mkF m 64 #[oI p0, oJ p1, .second, oI p2, oR aBOTH, oJ (1 : Int64), .second, oI (p2 &&& (65535 : Int32)), oD (FP.ddiv (FP.l2d (1 : Int64)) (FP.l2d (((1 : Int32) + (p2 &&& (65535 : Int32))).toInt64))), .second, oD (FP.ddiv (FP.l2d (1 : Int64)) (FP.l2d (((1 : Int32) + ((p2 &&& (65535 : Int32)) + (1 : Int32))).toInt64))), .second, oI (1 : Int32)] []))
          refine own_via (fun t kz => XS.aload X60.here hx rfl (hb hby at_64) rfl rfl kz) ?_
          show own_Go p e below _ (T60.setTop (mkF m 66 #[oI p0, oJ p1, .second, oI p2, oR aBOTH, oJ (1 : Int64), .second, oI (p2 &&& (65535 : Int32)), oD (FP.ddiv (FP.l2d (1 : Int64)) (FP.l2d (((1 : Int32) + (p2 &&& (65535 : Int32))).toInt64))), .second, oD (FP.ddiv (FP.l2d (1 : Int64)) (FP.l2d (((1 : Int32) + ((p2 &&& (65535 : Int32)) + (1 : Int32))).toInt64))), .second, oI (1 : Int32)] [(.ref aBOTH)]))
          obtain ⟨cq62, kq62, qa62, qb62, qc62⟩ := isOf hZ e60 E_BOTH
          obtain ⟨_, _, ⟨T62, L62, k62, n62⟩, -, X62, ⟨Lc62, hQ62, l62, y62, z62⟩, st62⟩ := X60.virtualBack hx (y := (⟨"com/example/coupewise/coupewise/Bias", "countsNeighbours", "()Z"⟩ : MethodName)) (z := (⟨"com/example/coupewise/coupewise/Bias", "countsNeighbours", "()Z"⟩ : MethodName)) hown (mvT hZ (own_w hw 22)) (mvT hZ (own_w hw 23)) (notFace_of_selects (args := #[]) (mvT hZ (own_w hw 25))) (mvT hZ (own_w hw 25)) (mvT hZ (own_w hw 24)) (by decide) (backOf (W := 0) (rm4 l Z a0 hw [] aBOTH aNEIGHBOURS aBOTH (1 : Int32) h0 n0 Z0 S_NEIGHBOURS S_BOTH (by unfold f4; rw [if_neg (Ne.symm ne_NEIGHBOURS_BOTH), if_pos (rfl : aBOTH = aBOTH)])) hZ (own_w hw 26) (own_w hw 5) (by decide) (by decide)) qa62 qc62 (g := (mkF m 66 #[oI p0, oJ p1, .second, oI p2, oR aBOTH, oJ (1 : Int64), .second, oI (p2 &&& (65535 : Int32)), oD (FP.ddiv (FP.l2d (1 : Int64)) (FP.l2d (((1 : Int32) + (p2 &&& (65535 : Int32))).toInt64))), .second, oD (FP.ddiv (FP.l2d (1 : Int64)) (FP.l2d (((1 : Int32) + ((p2 &&& (65535 : Int32)) + (1 : Int32))).toInt64))), .second, oI (1 : Int32)] [(.ref aBOTH)])) rfl (by rw [hml]; rfl) (Steps.refl _) (argsL := []) (rest := []) (lenOf pd_0_2 rfl) rfl (by show 2 * 0 + _ ≤ _; exact Nat.le_of_eq rfl) (hb hby at_66) (fun _ _ => ⟨rfl, e60, (by decide : 0 + 0 ≤ _), (by decide : 0 + 0 ≤ _)⟩)
          dsimp only [Pt.U, Pt.locs, Pt.cells, Pt.slots] at X62 l62 y62 z62 st62 hQ62
          subst l62 y62 z62
          obtain ⟨rfl, Nq62, e62⟩ := hQ62
          have N63 := Fr.app N61 Nq62
          refine own_tr st62 ?_
          show own_Go p e below _ (T62.setTop (mkF m 69 #[oI p0, oJ p1, .second, oI p2, oR aBOTH, oJ (1 : Int64), .second, oI (p2 &&& (65535 : Int32)), oD (FP.ddiv (FP.l2d (1 : Int64)) (FP.l2d (((1 : Int32) + (p2 &&& (65535 : Int32))).toInt64))), .second, oD (FP.ddiv (FP.l2d (1 : Int64)) (FP.l2d (((1 : Int32) + ((p2 &&& (65535 : Int32)) + (1 : Int32))).toInt64))), .second, oI (1 : Int32)] [(.int (1 : Int32))]))
          refine own_via (fun t kz => XS.iload X62.here hx rfl (hb hby at_69) rfl kz) ?_
          show own_Go p e below _ (T62.setTop (mkF m 71 #[oI p0, oJ p1, .second, oI p2, oR aBOTH, oJ (1 : Int64), .second, oI (p2 &&& (65535 : Int32)), oD (FP.ddiv (FP.l2d (1 : Int64)) (FP.l2d (((1 : Int32) + (p2 &&& (65535 : Int32))).toInt64))), .second, oD (FP.ddiv (FP.l2d (1 : Int64)) (FP.l2d (((1 : Int32) + ((p2 &&& (65535 : Int32)) + (1 : Int32))).toInt64))), .second, oI (1 : Int32)] [(.int (1 : Int32)), (.int (1 : Int32))]))
          refine own_via (fun t kz => XS.icmpNo X62.here hx rfl (hb hby at_71) rfl (teq (by decide : (1 : Int32) = (1 : Int32))).2 kz) ?_
          show own_Go p e below _ (T62.setTop (mkF m 74 #[oI p0, oJ p1, .second, oI p2, oR aBOTH, oJ (1 : Int64), .second, oI (p2 &&& (65535 : Int32)), oD (FP.ddiv (FP.l2d (1 : Int64)) (FP.l2d (((1 : Int32) + (p2 &&& (65535 : Int32))).toInt64))), .second, oD (FP.ddiv (FP.l2d (1 : Int64)) (FP.l2d (((1 : Int32) + ((p2 &&& (65535 : Int32)) + (1 : Int32))).toInt64))), .second, oI (1 : Int32)] []))
          refine own_via (fun t kz => XS.iconst X62.here hx rfl (hb hby at_74) kz) ?_
          show own_Go p e below _ (T62.setTop (mkF m 75 #[oI p0, oJ p1, .second, oI p2, oR aBOTH, oJ (1 : Int64), .second, oI (p2 &&& (65535 : Int32)), oD (FP.ddiv (FP.l2d (1 : Int64)) (FP.l2d (((1 : Int32) + (p2 &&& (65535 : Int32))).toInt64))), .second, oD (FP.ddiv (FP.l2d (1 : Int64)) (FP.l2d (((1 : Int32) + ((p2 &&& (65535 : Int32)) + (1 : Int32))).toInt64))), .second, oI (1 : Int32)] [(.int (1 : Int32))]))
          refine own_via (fun t kz => XS.goto X62.here hx rfl (pc0 := 75) (pc' := 79) rfl (hb hby at_75) (by decide) (by decide) kz) ?_
          show own_Go p e below _ (T62.setTop (mkF m 79 #[oI p0, oJ p1, .second, oI p2, oR aBOTH, oJ (1 : Int64), .second, oI (p2 &&& (65535 : Int32)), oD (FP.ddiv (FP.l2d (1 : Int64)) (FP.l2d (((1 : Int32) + (p2 &&& (65535 : Int32))).toInt64))), .second, oD (FP.ddiv (FP.l2d (1 : Int64)) (FP.l2d (((1 : Int32) + ((p2 &&& (65535 : Int32)) + (1 : Int32))).toInt64))), .second, oI (1 : Int32)] [(.int (1 : Int32))]))
          obtain ⟨fs, hr, hrun, hended, hW, hsame⟩ := X62.leave (v := some (.int (1 : Int32))) (fun h => by rw [Bd.returns] at h; cases h)
          refine ⟨_, _, retN X62 hx (t := .boolean) Bd.returns (by simp) (hb hby at_79) hr, hrun, hended, _, _, rfl, ?_, ⟨_, rfl⟩, hW, hsame.mono (by decide) (by decide)⟩
          show Q0 Z p0 p1 p2 aNONE aNEIGHBOURS aBOTH aVOLUME h0 n0 _ T62.heap _
          rw [e62]
          exact ⟨rfl, N63⟩
        · refine own_via (fun t kz => XS.ifYes X55.here hx rfl (pc0 := 13) (pc' := 19) rfl (hb hby at_13) rfl ((if0 _ _).trans (feq (fun q => hc13_57 ((lw_eq _ _).mp q))).2) (by decide) (by decide) kz) ?_
          show own_Go p e below _ (T55.setTop (mkF m 19 #[oI p0, oJ p1, .second, oI p2, oR aBOTH, oJ p1, .second, .unset, .unset, .unset, .unset, .unset, .unset] []))
          refine own_via (fun t kz => XS.iloadN X55.here hx rfl (hb hby at_19) rfl kz) ?_
          show own_Go p e below _ (T55.setTop (mkF m 20 #[oI p0, oJ p1, .second, oI p2, oR aBOTH, oJ p1, .second, .unset, .unset, .unset, .unset, .unset, .unset] [(.int p2)]))
          refine own_via (fun t kz => X55.ldcInt hx hown (mvT hZ (own_w hw 7)) (g := (mkF m 20 #[oI p0, oJ p1, .second, oI p2, oR aBOTH, oJ p1, .second, .unset, .unset, .unset, .unset, .unset, .unset] [(.int p2)])) rfl (hb hby at_20) t kz) ?_
          show own_Go p e below _ (T55.setTop (mkF m 22 #[oI p0, oJ p1, .second, oI p2, oR aBOTH, oJ p1, .second, .unset, .unset, .unset, .unset, .unset, .unset] [(.int (65535 : Int32)), (.int p2)]))
          refine own_via (fun t kz => XS.iand X55.here hx rfl (hb hby at_22) rfl kz) ?_
          show own_Go p e below _ (T55.setTop (mkF m 23 #[oI p0, oJ p1, .second, oI p2, oR aBOTH, oJ p1, .second, .unset, .unset, .unset, .unset, .unset, .unset] [(.int (p2 &&& (65535 : Int32)))]))
          refine own_via (fun t kz => XS.istore X55.here hx rfl (hb hby at_23) rfl (l' := #[oI p0, oJ p1, .second, oI p2, oR aBOTH, oJ p1, .second, oI (p2 &&& (65535 : Int32)), .unset, .unset, .unset, .unset, .unset]) rfl kz) ?_
          show own_Go p e below _ (T55.setTop (mkF m 25 #[oI p0, oJ p1, .second, oI p2, oR aBOTH, oJ p1, .second, oI (p2 &&& (65535 : Int32)), .unset, .unset, .unset, .unset, .unset] []))
          refine own_via (fun t kz => XS.aload X55.here hx rfl (hb hby at_25) rfl rfl kz) ?_
          show own_Go p e below _ (T55.setTop (mkF m 27 #[oI p0, oJ p1, .second, oI p2, oR aBOTH, oJ p1, .second, oI (p2 &&& (65535 : Int32)), .unset, .unset, .unset, .unset, .unset] [(.ref aBOTH)]))
          refine own_via (fun t kz => XS.lload X55.here hx rfl (hb hby at_27) rfl kz) ?_
          show own_Go p e below _ (T55.setTop (mkF m 29 #[oI p0, oJ p1, .second, oI p2, oR aBOTH, oJ p1, .second, oI (p2 &&& (65535 : Int32)), .unset, .unset, .unset, .unset, .unset] [(.long p1), (.ref aBOTH)]))
          refine own_via (fun t kz => XS.iload X55.here hx rfl (hb hby at_29) rfl kz) ?_
          show own_Go p e below _ (T55.setTop (mkF m 31 #[oI p0, oJ p1, .second, oI p2, oR aBOTH, oJ p1, .second, oI (p2 &&& (65535 : Int32)), .unset, .unset, .unset, .unset, .unset] [(.int (p2 &&& (65535 : Int32))), (.long p1), (.ref aBOTH)]))
          obtain ⟨cq65, kq65, qa65, qb65, qc65⟩ := isOf hZ e55 E_BOTH
          obtain ⟨_, _, ⟨T65, L65, k65, n65⟩, -, X65, ⟨Lc65, hQ65, l65, y65, z65⟩, st65⟩ := X55.virtualBack hx (y := (⟨"com/example/coupewise/coupewise/Bias", "weight", "(JI)D"⟩ : MethodName)) (z := (⟨"com/example/coupewise/coupewise/Bias", "weight", "(JI)D"⟩ : MethodName)) hown (mvT hZ (own_w hw 8)) (mvT hZ (own_w hw 9)) (notFace_of_selects (args := #[]) (mvT hZ (own_w hw 11))) (mvT hZ (own_w hw 11)) (mvT hZ (own_w hw 10)) (by decide) (backOf (W := 0) (rm2_3 l Z a0 hw [] aBOTH p1 (p2 &&& (65535 : Int32)) (FP.ddiv (FP.l2d p1) (FP.l2d (((1 : Int32) + (p2 &&& (65535 : Int32))).toInt64))) h0 n0 Z0 E_BOTH F_BOTH_ordinal (own_nz p2).1 (by unfold f2_3; rfl)) hZ (own_w hw 12) (own_w hw 5) (by decide) (by decide)) qa65 qc65 (g := (mkF m 31 #[oI p0, oJ p1, .second, oI p2, oR aBOTH, oJ p1, .second, oI (p2 &&& (65535 : Int32)), .unset, .unset, .unset, .unset, .unset] [(.int (p2 &&& (65535 : Int32))), (.long p1), (.ref aBOTH)])) rfl (by rw [hml]; rfl) (Steps.refl _) (argsL := [(.long p1), (.int (p2 &&& (65535 : Int32)))]) (rest := []) (lenOf pd_0_1 rfl) rfl (by show 2 * 0 + _ ≤ _; exact Nat.le_of_eq rfl) (hb hby at_31) (fun _ _ => ⟨rfl, e55, (by decide : 0 + 0 ≤ _), (by decide : 0 + 0 ≤ _)⟩)
          dsimp only [Pt.U, Pt.locs, Pt.cells, Pt.slots] at X65 l65 y65 z65 st65 hQ65
          subst l65 y65 z65
          obtain ⟨rfl, Nq65, e65⟩ := hQ65
          have N66 := Fr.app N56 Nq65
          refine own_tr st65 ?_
          show own_Go p e below _ (T65.setTop (mkF m 34 #[oI p0, oJ p1, .second, oI p2, oR aBOTH, oJ p1, .second, oI (p2 &&& (65535 : Int32)), .unset, .unset, .unset, .unset, .unset] [(.double (FP.ddiv (FP.l2d p1) (FP.l2d (((1 : Int32) + (p2 &&& (65535 : Int32))).toInt64))))]))
          refine own_via (fun t kz => XS.dstore X65.here hx rfl (hb hby at_34) rfl (l' := #[oI p0, oJ p1, .second, oI p2, oR aBOTH, oJ p1, .second, oI (p2 &&& (65535 : Int32)), oD (FP.ddiv (FP.l2d p1) (FP.l2d (((1 : Int32) + (p2 &&& (65535 : Int32))).toInt64))), .second, .unset, .unset, .unset]) rfl kz) ?_
          show own_Go p e below _ (T65.setTop (mkF m 36 #[oI p0, oJ p1, .second, oI p2, oR aBOTH, oJ p1, .second, oI (p2 &&& (65535 : Int32)), oD (FP.ddiv (FP.l2d p1) (FP.l2d (((1 : Int32) + (p2 &&& (65535 : Int32))).toInt64))), .second, .unset, .unset, .unset] []))
          refine own_via (fun t kz => XS.aload X65.here hx rfl (hb hby at_36) rfl rfl kz) ?_
          show own_Go p e below _ (T65.setTop (mkF m 38 #[oI p0, oJ p1, .second, oI p2, oR aBOTH, oJ p1, .second, oI (p2 &&& (65535 : Int32)), oD (FP.ddiv (FP.l2d p1) (FP.l2d (((1 : Int32) + (p2 &&& (65535 : Int32))).toInt64))), .second, .unset, .unset, .unset] [(.ref aBOTH)]))
          refine own_via (fun t kz => XS.lload X65.here hx rfl (hb hby at_38) rfl kz) ?_
          show own_Go p e below _ (T65.setTop (mkF m 40 #[oI p0, oJ p1, .second, oI p2, oR aBOTH, oJ p1, .second, oI (p2 &&& (65535 : Int32)), oD (FP.ddiv (FP.l2d p1) (FP.l2d (((1 : Int32) + (p2 &&& (65535 : Int32))).toInt64))), .second, .unset, .unset, .unset] [(.long p1), (.ref aBOTH)]))
          refine own_via (fun t kz => XS.iload X65.here hx rfl (hb hby at_40) rfl kz) ?_
          show own_Go p e below _ (T65.setTop (mkF m 42 #[oI p0, oJ p1, .second, oI p2, oR aBOTH, oJ p1, .second, oI (p2 &&& (65535 : Int32)), oD (FP.ddiv (FP.l2d p1) (FP.l2d (((1 : Int32) + (p2 &&& (65535 : Int32))).toInt64))), .second, .unset, .unset, .unset] [(.int (p2 &&& (65535 : Int32))), (.long p1), (.ref aBOTH)]))
          refine own_via (fun t kz => XS.iconst X65.here hx rfl (hb hby at_42) kz) ?_
          show own_Go p e below _ (T65.setTop (mkF m 43 #[oI p0, oJ p1, .second, oI p2, oR aBOTH, oJ p1, .second, oI (p2 &&& (65535 : Int32)), oD (FP.ddiv (FP.l2d p1) (FP.l2d (((1 : Int32) + (p2 &&& (65535 : Int32))).toInt64))), .second, .unset, .unset, .unset] [(.int (1 : Int32)), (.int (p2 &&& (65535 : Int32))), (.long p1), (.ref aBOTH)]))
          refine own_via (fun t kz => XS.iadd X65.here hx rfl (hb hby at_43) rfl kz) ?_
          show own_Go p e below _ (T65.setTop (mkF m 44 #[oI p0, oJ p1, .second, oI p2, oR aBOTH, oJ p1, .second, oI (p2 &&& (65535 : Int32)), oD (FP.ddiv (FP.l2d p1) (FP.l2d (((1 : Int32) + (p2 &&& (65535 : Int32))).toInt64))), .second, .unset, .unset, .unset] [(.int ((p2 &&& (65535 : Int32)) + (1 : Int32))), (.long p1), (.ref aBOTH)]))
          obtain ⟨cq67, kq67, qa67, qb67, qc67⟩ := isOf hZ e65 E_BOTH
          obtain ⟨_, _, ⟨T67, L67, k67, n67⟩, -, X67, ⟨Lc67, hQ67, l67, y67, z67⟩, st67⟩ := X65.virtualBack hx (y := (⟨"com/example/coupewise/coupewise/Bias", "weight", "(JI)D"⟩ : MethodName)) (z := (⟨"com/example/coupewise/coupewise/Bias", "weight", "(JI)D"⟩ : MethodName)) hown (mvT hZ (own_w hw 8)) (mvT hZ (own_w hw 9)) (notFace_of_selects (args := #[]) (mvT hZ (own_w hw 11))) (mvT hZ (own_w hw 11)) (mvT hZ (own_w hw 10)) (by decide) (backOf (W := 0) (rm2_3 l Z a0 hw [] aBOTH p1 ((p2 &&& (65535 : Int32)) + (1 : Int32)) (FP.ddiv (FP.l2d p1) (FP.l2d (((1 : Int32) + ((p2 &&& (65535 : Int32)) + (1 : Int32))).toInt64))) h0 n0 Z0 E_BOTH F_BOTH_ordinal (own_nz p2).2 (by unfold f2_3; rfl)) hZ (own_w hw 12) (own_w hw 5) (by decide) (by decide)) qa67 qc67 (g := (mkF m 44 #[oI p0, oJ p1, .second, oI p2, oR aBOTH, oJ p1, .second, oI (p2 &&& (65535 : Int32)), oD (FP.ddiv (FP.l2d p1) (FP.l2d (((1 : Int32) + (p2 &&& (65535 : Int32))).toInt64))), .second, .unset, .unset, .unset] [(.int ((p2 &&& (65535 : Int32)) + (1 : Int32))), (.long p1), (.ref aBOTH)])) rfl (by rw [hml]; rfl) (Steps.refl _) (argsL := [(.long p1), (.int ((p2 &&& (65535 : Int32)) + (1 : Int32)))]) (rest := []) (lenOf pd_0_1 rfl) rfl (by show 2 * 0 + _ ≤ _; exact Nat.le_of_eq rfl) (hb hby at_44) (fun _ _ => ⟨rfl, e65, (by decide : 0 + 0 ≤ _), (by decide : 0 + 0 ≤ _)⟩)
          dsimp only [Pt.U, Pt.locs, Pt.cells, Pt.slots] at X67 l67 y67 z67 st67 hQ67
          subst l67 y67 z67
          obtain ⟨rfl, Nq67, e67⟩ := hQ67
          have N68 := Fr.app N66 Nq67
          refine own_tr st67 ?_
          show own_Go p e below _ (T67.setTop (mkF m 47 #[oI p0, oJ p1, .second, oI p2, oR aBOTH, oJ p1, .second, oI (p2 &&& (65535 : Int32)), oD (FP.ddiv (FP.l2d p1) (FP.l2d (((1 : Int32) + (p2 &&& (65535 : Int32))).toInt64))), .second, .unset, .unset, .unset] [(.double (FP.ddiv (FP.l2d p1) (FP.l2d (((1 : Int32) + ((p2 &&& (65535 : Int32)) + (1 : Int32))).toInt64))))]))
          refine own_via (fun t kz => XS.dstore X67.here hx rfl (hb hby at_47) rfl (l' := #[oI p0, oJ p1, .second, oI p2, oR aBOTH, oJ p1, .second, oI (p2 &&& (65535 : Int32)), oD (FP.ddiv (FP.l2d p1) (FP.l2d (((1 : Int32) + (p2 &&& (65535 : Int32))).toInt64))), .second, oD (FP.ddiv (FP.l2d p1) (FP.l2d (((1 : Int32) + ((p2 &&& (65535 : Int32)) + (1 : Int32))).toInt64))), .second, .unset]) rfl kz) ?_
          show own_Go p e below _ (T67.setTop (mkF m 49 #[oI p0, oJ p1, .second, oI p2, oR aBOTH, oJ p1, .second, oI (p2 &&& (65535 : Int32)), oD (FP.ddiv (FP.l2d p1) (FP.l2d (((1 : Int32) + (p2 &&& (65535 : Int32))).toInt64))), .second, oD (FP.ddiv (FP.l2d p1) (FP.l2d (((1 : Int32) + ((p2 &&& (65535 : Int32)) + (1 : Int32))).toInt64))), .second, .unset] []))
          refine own_via (fun t kz => XS.dload X67.here hx rfl (hb hby at_49) rfl kz) ?_
          show own_Go p e below _ (T67.setTop (mkF m 51 #[oI p0, oJ p1, .second, oI p2, oR aBOTH, oJ p1, .second, oI (p2 &&& (65535 : Int32)), oD (FP.ddiv (FP.l2d p1) (FP.l2d (((1 : Int32) + (p2 &&& (65535 : Int32))).toInt64))), .second, oD (FP.ddiv (FP.l2d p1) (FP.l2d (((1 : Int32) + ((p2 &&& (65535 : Int32)) + (1 : Int32))).toInt64))), .second, .unset] [(.double (FP.ddiv (FP.l2d p1) (FP.l2d (((1 : Int32) + (p2 &&& (65535 : Int32))).toInt64))))]))
          refine own_via (fun t kz => XS.dload X67.here hx rfl (hb hby at_51) rfl kz) ?_
          show own_Go p e below _ (T67.setTop (mkF m 53 #[oI p0, oJ p1, .second, oI p2, oR aBOTH, oJ p1, .second, oI (p2 &&& (65535 : Int32)), oD (FP.ddiv (FP.l2d p1) (FP.l2d (((1 : Int32) + (p2 &&& (65535 : Int32))).toInt64))), .second, oD (FP.ddiv (FP.l2d p1) (FP.l2d (((1 : Int32) + ((p2 &&& (65535 : Int32)) + (1 : Int32))).toInt64))), .second, .unset] [(.double (FP.ddiv (FP.l2d p1) (FP.l2d (((1 : Int32) + ((p2 &&& (65535 : Int32)) + (1 : Int32))).toInt64)))), (.double (FP.ddiv (FP.l2d p1) (FP.l2d (((1 : Int32) + (p2 &&& (65535 : Int32))).toInt64))))]))
          obtain ⟨t53, ht53, hn53⟩ : ∃ t, cmpValue (FP.dcmp (FP.ddiv (FP.l2d p1) (FP.l2d (((1 : Int32) + (p2 &&& (65535 : Int32))).toInt64))) (FP.ddiv (FP.l2d p1) (FP.l2d (((1 : Int32) + ((p2 &&& (65535 : Int32)) + (1 : Int32))).toInt64)))) .l = t ∧ ¬ (t = (0 : Int32)) := ⟨_, rfl, own_cmp (Core.int64_ne hc13_57) p2⟩
          refine own_via (fun t kz => XS.dcmpS X67.here hx rfl (hb hby at_53) rfl ht53 kz) ?_
          show own_Go p e below _ (T67.setTop (mkF m 54 #[oI p0, oJ p1, .second, oI p2, oR aBOTH, oJ p1, .second, oI (p2 &&& (65535 : Int32)), oD (FP.ddiv (FP.l2d p1) (FP.l2d (((1 : Int32) + (p2 &&& (65535 : Int32))).toInt64))), .second, oD (FP.ddiv (FP.l2d p1) (FP.l2d (((1 : Int32) + ((p2 &&& (65535 : Int32)) + (1 : Int32))).toInt64))), .second, .unset] [(.int t53)]))
          refine own_via (fun t kz => XS.ifNo X67.here hx rfl (hb hby at_54) rfl ((if0 _ _).trans (feq hn53).1) kz) ?_
          show own_Go p e below _ (T67.setTop (mkF m 57 #[oI p0, oJ p1, .second, oI p2, oR aBOTH, oJ p1, .second, oI (p2 &&& (65535 : Int32)), oD (FP.ddiv (FP.l2d p1) (FP.l2d (((1 : Int32) + (p2 &&& (65535 : Int32))).toInt64))), .second, oD (FP.ddiv (FP.l2d p1) (FP.l2d (((1 : Int32) + ((p2 &&& (65535 : Int32)) + (1 : Int32))).toInt64))), .second, .unset] []))
          refine own_via (fun t kz => XS.iconst X67.here hx rfl (hb hby at_57) kz) ?_
          show own_Go p e below _ (T67.setTop (mkF m 58 #[oI p0, oJ p1, .second, oI p2, oR aBOTH, oJ p1, .second, oI (p2 &&& (65535 : Int32)), oD (FP.ddiv (FP.l2d p1) (FP.l2d (((1 : Int32) + (p2 &&& (65535 : Int32))).toInt64))), .second, oD (FP.ddiv (FP.l2d p1) (FP.l2d (((1 : Int32) + ((p2 &&& (65535 : Int32)) + (1 : Int32))).toInt64))), .second, .unset] [(.int (1 : Int32))]))
          refine own_via (fun t kz => XS.goto X67.here hx rfl (pc0 := 58) (pc' := 62) rfl (hb hby at_58) (by decide) (by decide) kz) ?_
          show own_Go p e below _ (T67.setTop (mkF m 62 #[oI p0, oJ p1, .second, oI p2, oR aBOTH, oJ p1, .second, oI (p2 &&& (65535 : Int32)), oD (FP.ddiv (FP.l2d p1) (FP.l2d (((1 : Int32) + (p2 &&& (65535 : Int32))).toInt64))), .second, oD (FP.ddiv (FP.l2d p1) (FP.l2d (((1 : Int32) + ((p2 &&& (65535 : Int32)) + (1 : Int32))).toInt64))), .second, .unset] [(.int (1 : Int32))]))
          refine own_via (fun t kz => XS.istore X67.here hx rfl (hb hby at_62) rfl (l' := #[oI p0, oJ p1, .second, oI p2, oR aBOTH, oJ p1, .second, oI (p2 &&& (65535 : Int32)), oD (FP.ddiv (FP.l2d p1) (FP.l2d (((1 : Int32) + (p2 &&& (65535 : Int32))).toInt64))), .second, oD (FP.ddiv (FP.l2d p1) (FP.l2d (((1 : Int32) + ((p2 &&& (65535 : Int32)) + (1 : Int32))).toInt64))), .second, oI (1 : Int32)]) rfl kz) ?_
          show own_Go p e below _ (T67.setTop (mkF m 64 #[oI p0, oJ p1, .second, oI p2, oR aBOTH, oJ p1, .second, oI (p2 &&& (65535 : Int32)), oD (FP.ddiv (FP.l2d p1) (FP.l2d (((1 : Int32) + (p2 &&& (65535 : Int32))).toInt64))), .second, oD (FP.ddiv (FP.l2d p1) (FP.l2d (((1 : Int32) + ((p2 &&& (65535 : Int32)) + (1 : Int32))).toInt64))), .second, oI (1 : Int32)] []))
          refine own_via (fun t kz => XS.aload X67.here hx rfl (hb hby at_64) rfl rfl kz) ?_
          show own_Go p e below _ (T67.setTop (mkF m 66 #[oI p0, oJ p1, .second, oI p2, oR aBOTH, oJ p1, .second, oI (p2 &&& (65535 : Int32)), oD (FP.ddiv (FP.l2d p1) (FP.l2d (((1 : Int32) + (p2 &&& (65535 : Int32))).toInt64))), .second, oD (FP.ddiv (FP.l2d p1) (FP.l2d (((1 : Int32) + ((p2 &&& (65535 : Int32)) + (1 : Int32))).toInt64))), .second, oI (1 : Int32)] [(.ref aBOTH)]))
          obtain ⟨cq69, kq69, qa69, qb69, qc69⟩ := isOf hZ e67 E_BOTH
          obtain ⟨_, _, ⟨T69, L69, k69, n69⟩, -, X69, ⟨Lc69, hQ69, l69, y69, z69⟩, st69⟩ := X67.virtualBack hx (y := (⟨"com/example/coupewise/coupewise/Bias", "countsNeighbours", "()Z"⟩ : MethodName)) (z := (⟨"com/example/coupewise/coupewise/Bias", "countsNeighbours", "()Z"⟩ : MethodName)) hown (mvT hZ (own_w hw 22)) (mvT hZ (own_w hw 23)) (notFace_of_selects (args := #[]) (mvT hZ (own_w hw 25))) (mvT hZ (own_w hw 25)) (mvT hZ (own_w hw 24)) (by decide) (backOf (W := 0) (rm4 l Z a0 hw [] aBOTH aNEIGHBOURS aBOTH (1 : Int32) h0 n0 Z0 S_NEIGHBOURS S_BOTH (by unfold f4; rw [if_neg (Ne.symm ne_NEIGHBOURS_BOTH), if_pos (rfl : aBOTH = aBOTH)])) hZ (own_w hw 26) (own_w hw 5) (by decide) (by decide)) qa69 qc69 (g := (mkF m 66 #[oI p0, oJ p1, .second, oI p2, oR aBOTH, oJ p1, .second, oI (p2 &&& (65535 : Int32)), oD (FP.ddiv (FP.l2d p1) (FP.l2d (((1 : Int32) + (p2 &&& (65535 : Int32))).toInt64))), .second, oD (FP.ddiv (FP.l2d p1) (FP.l2d (((1 : Int32) + ((p2 &&& (65535 : Int32)) + (1 : Int32))).toInt64))), .second, oI (1 : Int32)] [(.ref aBOTH)])) rfl (by rw [hml]; rfl) (Steps.refl _) (argsL := []) (rest := []) (lenOf pd_0_2 rfl) rfl (by show 2 * 0 + _ ≤ _; exact Nat.le_of_eq rfl) (hb hby at_66) (fun _ _ => ⟨rfl, e67, (by decide : 0 + 0 ≤ _), (by decide : 0 + 0 ≤ _)⟩)
          dsimp only [Pt.U, Pt.locs, Pt.cells, Pt.slots] at X69 l69 y69 z69 st69 hQ69
          subst l69 y69 z69
          obtain ⟨rfl, Nq69, e69⟩ := hQ69
          have N70 := Fr.app N68 Nq69
          refine own_tr st69 ?_
          show own_Go p e below _ (T69.setTop (mkF m 69 #[oI p0, oJ p1, .second, oI p2, oR aBOTH, oJ p1, .second, oI (p2 &&& (65535 : Int32)), oD (FP.ddiv (FP.l2d p1) (FP.l2d (((1 : Int32) + (p2 &&& (65535 : Int32))).toInt64))), .second, oD (FP.ddiv (FP.l2d p1) (FP.l2d (((1 : Int32) + ((p2 &&& (65535 : Int32)) + (1 : Int32))).toInt64))), .second, oI (1 : Int32)] [(.int (1 : Int32))]))
          refine own_via (fun t kz => XS.iload X69.here hx rfl (hb hby at_69) rfl kz) ?_
          show own_Go p e below _ (T69.setTop (mkF m 71 #[oI p0, oJ p1, .second, oI p2, oR aBOTH, oJ p1, .second, oI (p2 &&& (65535 : Int32)), oD (FP.ddiv (FP.l2d p1) (FP.l2d (((1 : Int32) + (p2 &&& (65535 : Int32))).toInt64))), .second, oD (FP.ddiv (FP.l2d p1) (FP.l2d (((1 : Int32) + ((p2 &&& (65535 : Int32)) + (1 : Int32))).toInt64))), .second, oI (1 : Int32)] [(.int (1 : Int32)), (.int (1 : Int32))]))
          refine own_via (fun t kz => XS.icmpNo X69.here hx rfl (hb hby at_71) rfl (teq (by decide : (1 : Int32) = (1 : Int32))).2 kz) ?_
          show own_Go p e below _ (T69.setTop (mkF m 74 #[oI p0, oJ p1, .second, oI p2, oR aBOTH, oJ p1, .second, oI (p2 &&& (65535 : Int32)), oD (FP.ddiv (FP.l2d p1) (FP.l2d (((1 : Int32) + (p2 &&& (65535 : Int32))).toInt64))), .second, oD (FP.ddiv (FP.l2d p1) (FP.l2d (((1 : Int32) + ((p2 &&& (65535 : Int32)) + (1 : Int32))).toInt64))), .second, oI (1 : Int32)] []))
          refine own_via (fun t kz => XS.iconst X69.here hx rfl (hb hby at_74) kz) ?_
          show own_Go p e below _ (T69.setTop (mkF m 75 #[oI p0, oJ p1, .second, oI p2, oR aBOTH, oJ p1, .second, oI (p2 &&& (65535 : Int32)), oD (FP.ddiv (FP.l2d p1) (FP.l2d (((1 : Int32) + (p2 &&& (65535 : Int32))).toInt64))), .second, oD (FP.ddiv (FP.l2d p1) (FP.l2d (((1 : Int32) + ((p2 &&& (65535 : Int32)) + (1 : Int32))).toInt64))), .second, oI (1 : Int32)] [(.int (1 : Int32))]))
          refine own_via (fun t kz => XS.goto X69.here hx rfl (pc0 := 75) (pc' := 79) rfl (hb hby at_75) (by decide) (by decide) kz) ?_
          show own_Go p e below _ (T69.setTop (mkF m 79 #[oI p0, oJ p1, .second, oI p2, oR aBOTH, oJ p1, .second, oI (p2 &&& (65535 : Int32)), oD (FP.ddiv (FP.l2d p1) (FP.l2d (((1 : Int32) + (p2 &&& (65535 : Int32))).toInt64))), .second, oD (FP.ddiv (FP.l2d p1) (FP.l2d (((1 : Int32) + ((p2 &&& (65535 : Int32)) + (1 : Int32))).toInt64))), .second, oI (1 : Int32)] [(.int (1 : Int32))]))
          obtain ⟨fs, hr, hrun, hended, hW, hsame⟩ := X69.leave (v := some (.int (1 : Int32))) (fun h => by rw [Bd.returns] at h; cases h)
          refine ⟨_, _, retN X69 hx (t := .boolean) Bd.returns (by simp) (hb hby at_79) hr, hrun, hended, _, _, rfl, ?_, ⟨_, rfl⟩, hW, hsame.mono (by decide) (by decide)⟩
          show Q0 Z p0 p1 p2 aNONE aNEIGHBOURS aBOTH aVOLUME h0 n0 _ T69.heap _
          rw [e69]
          exact ⟨rfl, N70⟩
set_option maxRecDepth 65536 in
set_option maxHeartbeats 40000000 in
theorem comes_1 {Post : Tables → Env → Array Value → State → Outcome → State → Prop} (hpost : ∀ tb e args s v u, (limb_1_1.after args s (.returned v) u = true ∧ limb_1_2.after args s (.returned v) u = true ∧ True) → FrameEnd s (.returned v) u (Jvm.fieldLocs frame_1_writes args s ++ Jvm.arrayLocs frame_1_arrays args s ++ Jvm.staticLocs frame_1_statics s) 0 0 → Post tb e args s (.returned v) u) :
    ArmFor flags0 classFile x code maxLocals ret World_1 tables_1 room_1 Calls_1 rest_1 Pre_1 Post := by
  intro l hfl _ _ p e ha hc hk s m args below hf hA hF happ hP
  obtain ⟨hcalls, hrest, hpre⟩ := hP
  obtain ⟨-, -, -, hnamed, -, -, -, hat⟩ := (Spec.applies_iff hf).mp happ
  obtain ⟨hg, hn⟩ := and_e (Cond.before_iff.mp (show (Jvm.Cond.and given_1 narrow_1).before args s = true from hpre))
  obtain ⟨g1, g2⟩ := and_e hg
  obtain ⟨g3, g4⟩ := and_e g2
  obtain ⟨g5, g6⟩ := and_e g4
  obtain ⟨w0, w1, w2, rfl⟩ : ∃ w0 w1 w2 : Value, args = #[w0, w1, w2] := by
    have hs : args.size = 3 := by simpa [Cond.value, given_1] using g1
    obtain ⟨L⟩ := args
    match L, hs with
    | [w0, w1, w2], _ => exact ⟨w0, w1, w2, rfl⟩
  have hw := fun d (hd : d ∈ tables_1) => atoms_spec (ws := Jvm.Cond.code x code maxLocals ret :: tables_1) hat d (List.mem_cons_of_mem _ hd)
  obtain ⟨i0, ei0⟩ := is_v g3
  obtain rfl : w0 = (.int i0) := Option.some.inj ei0
  obtain ⟨i1, ei1⟩ := isL_v g5
  obtain rfl : w1 = (.long i1) := Option.some.inj ei1
  obtain ⟨i2, ei2⟩ := is_v g6
  obtain rfl : w2 = (.int i2) := Option.some.inj ei2
  obtain ⟨nr1, nr2⟩ := and_e hn
  obtain ⟨nr3, nr4⟩ := and_e nr2
  obtain ⟨nr5, nr6⟩ := and_e nr4
  obtain ⟨nr7, nr8⟩ := and_e nr6
  obtain ⟨nr9, nr10⟩ := and_e nr8
  obtain ⟨nr11, nr12⟩ := and_e nr10
  obtain ⟨nr13, nr14⟩ := and_e nr12
  obtain ⟨aNONE, evNONE⟩ := exa_v nr1
  have E_NONE := Exa.start evNONE nr1
  have S_NONE := Sta.start evNONE (Or.inr ⟨(own_w hw 5), (own_w hw 6)⟩)
  obtain ⟨aNEIGHBOURS, evNEIGHBOURS⟩ := exa_v nr5
  have E_NEIGHBOURS := Exa.start evNEIGHBOURS nr5
  have S_NEIGHBOURS := Sta.start evNEIGHBOURS (Or.inr ⟨(own_w hw 5), (own_w hw 28)⟩)
  obtain ⟨aBOTH, evBOTH⟩ := exa_v nr9
  have E_BOTH := Exa.start evBOTH nr9
  have S_BOTH := Sta.start evBOTH (Or.inr ⟨(own_w hw 5), (own_w hw 30)⟩)
  obtain ⟨aVOLUME, evVOLUME⟩ := exa_v nr13
  have E_VOLUME := Exa.start evVOLUME nr13
  have S_VOLUME := Sta.start evVOLUME (Or.inr ⟨(own_w hw 5), (own_w hw 34)⟩)
  have F_NONE_ordinal := own_fld evNONE nr3
  have F_NEIGHBOURS_ordinal := own_fld evNEIGHBOURS nr7
  have F_BOTH_ordinal := own_fld evBOTH nr11
  have F_VOLUME_ordinal := own_fld evVOLUME nr14
  obtain ⟨n, o, h1, h2, h3, _, L, rfl, ⟨rfl, N⟩, hq⟩ := rm0 l s _ hw tables_1 i0 i1 i2 aNONE aNEIGHBOURS aBOTH aVOLUME s.heap s.heap.size (Nat.le_refl _) E_NONE S_NONE E_NEIGHBOURS S_NEIGHBOURS E_BOTH S_BOTH E_VOLUME S_VOLUME F_NONE_ordinal F_NEIGHBOURS_ordinal F_BOTH_ordinal F_VOLUME_ordinal (Fld.ne F_NONE_ordinal F_NEIGHBOURS_ordinal (own_int_ne (by decide))) (Fld.ne F_NONE_ordinal F_BOTH_ordinal (own_int_ne (by decide))) (Fld.ne F_NONE_ordinal F_VOLUME_ordinal (own_int_ne (by decide))) (Fld.ne F_NEIGHBOURS_ordinal F_BOTH_ordinal (own_int_ne (by decide))) (Fld.ne F_NEIGHBOURS_ordinal F_VOLUME_ordinal (own_int_ne (by decide))) (Fld.ne F_BOTH_ordinal F_VOLUME_ordinal (own_int_ne (by decide))) p e ha hc hk s m _ below hf ((Spec.applies_iff_loose hf).mp happ).1 ⟨rfl, State.Warmed39.refl s, rfl⟩ trivial
  refine ⟨n, _, h1, h2, h3, hpost _ _ _ _ _ _ ⟨Cond.after_iff.mpr rfl, Cond.after_iff.mpr (eq_i res_at (Term.int_eval (1)) rfl), trivial⟩ ⟨hq.1, hq.2.1, (hq.2.2.sift fun y hy => Or.inr (N y hy)).mono (by decide) (by decide)⟩⟩
theorem main_1_1 : Claimed_1_1 := comes_1 fun _ _ _ _ _ _ h hF => ⟨h.1, hF⟩
theorem main_1_2 : Claimed_1_2 := comes_1 fun _ _ _ _ _ _ h hF => ⟨h.2.1, hF⟩
end Jvm.Pilot.@@N@@
namespace Jvm.Pilot.@@N@@
open Jvm Jvm.ClassFile Sem Op Lib Jvm.Free Jvm.Stand Jvm.Pilot.@@N@@.Jvm.D
/-! MADE BY PROGRAM (witnessworld.py) out of the Statement's table words and the real class files: 12 classes; the members and pool entries that the words name. The judged class is class 1, her method 2. -/
namespace start1
open Jvm.ClassFile
def u (s : String) : CpInfo := .utf8 (stringToUtf16 s)
/-- a pool by its gaps: so many unusable entries, then the entry; so many at the end -/
def gap : Nat → List CpInfo → List CpInfo
  | 0, r => r
  | n + 1, r => .unusable :: gap n r
def poolList (es : List (Nat × CpInfo)) (last : Nat) : List CpInfo := es.foldr (fun e r => gap e.1 (e.2 :: r)) (gap last [])
def pool (es : List (Nat × CpInfo)) (last : Nat) : Array CpInfo := ⟨poolList es last⟩
def fileOf (pool : Array CpInfo) (this : Nat) (attrs : Array Attribute := #[]) (ms : Array MethodInfo := #[]) (fl : Nat := 33) (sup : Nat := 0) (ifs : Array Nat := #[]) (fds : Array FieldInfo := #[]) : ClassFile where
  minorVersion := 0
  majorVersion := 65
  constantPool := pool
  accessFlags := fl
  thisClass := this
  superClass := sup
  interfaces := ifs
  fields := fds
  methods := ms
  attributes := attrs
def plain (name : String) (sup : Option ClassId) : Class where
  name := name
  kind := .ordinary
  loader := none
  accessFlags := 33
  super := sup
  interfaces := #[]
  cf := none
  fields := #[]
  methods := #[]
  instanceTypes := #[]
  staticTypes := #[]
  resolved := #[]
  callSites := []
  init := .initialized
  statics := none
  mirror := none

def pool0 : Array CpInfo := pool [(5, u "<init>"), (0, u "()V"), (1, .class_ 10), (1, u "java/lang/Object")] 113

def k0m0 : Method := { name := "<init>", desc := "()V", sig := { parameters := [], returnType := none }, accessFlags := 1, code := none }
/-- java/lang/Object -/
def k0 : Class := { plain "java/lang/Object" none with
  accessFlags := 33
  interfaces := #[]
  cf := some (fileOf pool0 8 #[] #[{ accessFlags := 1, nameIndex := 5, descriptorIndex := 6, attributes := #[] }] 33 0 #[] #[])
  fields := #[]
  methods := #[k0m0]
  instanceTypes := #[]
  staticTypes := #[]
  resolved := Array.replicate 124 none
  statics := none }

def pool1 : Array CpInfo := pool [(2, .class_ 4), (1, u "java/lang/Object"), (0, u "<init>"), (0, u "()V"), (0, .fieldref 8 9), (0, .class_ 10), (0, .nameAndType 11 12), (0, u "com/example/coupewise/coupewise/Bias"), (0, u "NONE"), (0, u "Lcom/example/coupewise/coupewise/Bias;"), (0, .fieldref 8 14), (0, .nameAndType 15 12), (0, u "VOLUME"), (0, .fieldref 8 17), (0, .nameAndType 18 12), (0, u "NEIGHBOURS"), (0, .fieldref 8 20), (0, .nameAndType 21 12), (0, u "BOTH"), (0, .methodref 23 24), (0, .class_ 25), (0, .nameAndType 26 27), (0, u "com/example/coupewise/coupewise/BiasCountsNeighboursPinLaw"), (0, u "pick"), (0, u "(I)Lcom/example/coupewise/coupewise/Bias;"), (0, .integer 65535), (0, .methodref 8 30), (0, .nameAndType 31 32), (0, u "weight"), (0, u "(JI)D"), (0, .methodref 8 34), (0, .nameAndType 35 36), (0, u "countsNeighbours"), (0, u "()Z"), (3, u "law"), (0, u "(IJI)Z")] 2

def k1m0 : Method := { name := "<init>", desc := "()V", sig := { parameters := [], returnType := none }, accessFlags := 1, code := none }
def k1c1 : Code := { maxStack := 2, maxLocals := 2, code := method_2_code, exceptionTable := #[], attributes := #[] }
def k1m1 : Method := { name := "pick", desc := "(I)Lcom/example/coupewise/coupewise/Bias;", sig := { parameters := [.int], returnType := some (.object "com/example/coupewise/coupewise/Bias") }, accessFlags := 10, code := some k1c1 }
def k1c2 : Code := { maxStack := 5, maxLocals := 13, code := code, exceptionTable := #[], attributes := #[] }
def k1m2 : Method := { name := "law", desc := "(IJI)Z", sig := { parameters := [.int, .long, .int], returnType := some .boolean }, accessFlags := 9, code := some k1c2 }
/-- com/example/coupewise/coupewise/BiasCountsNeighboursPinLaw -/
def k1 : Class := { plain "com/example/coupewise/coupewise/BiasCountsNeighboursPinLaw" (some 0) with
  accessFlags := 49
  interfaces := #[]
  cf := some (fileOf pool1 23 #[] #[{ accessFlags := 1, nameIndex := 5, descriptorIndex := 6, attributes := #[] }, { accessFlags := 10, nameIndex := 26, descriptorIndex := 27, attributes := #[] }, { accessFlags := 9, nameIndex := 40, descriptorIndex := 41, attributes := #[] }] 49 2 #[] #[])
  fields := #[]
  methods := #[k1m0, k1m1, k1m2]
  instanceTypes := #[]
  staticTypes := #[]
  resolved := Array.replicate 44 none
  statics := none }

def pool2 : Array CpInfo := pool [(1, .class_ 2), (0, u "java/lang/constant/Constable"), (0, .class_ 4), (0, u "java/lang/Object")] 6

/-- java/lang/constant/Constable -/
def k2 : Class := { plain "java/lang/constant/Constable" (some 0) with
  accessFlags := 1537
  interfaces := #[]
  cf := some (fileOf pool2 1 #[] #[] 1537 3 #[] #[])
  fields := #[]
  methods := #[]
  instanceTypes := #[]
  staticTypes := #[]
  resolved := Array.replicate 11 none
  statics := none }

def pool3 : Array CpInfo := pool [(1, .class_ 2), (0, u "java/lang/Comparable"), (0, .class_ 4), (0, u "java/lang/Object")] 7

/-- java/lang/Comparable -/
def k3 : Class := { plain "java/lang/Comparable" (some 0) with
  accessFlags := 1537
  interfaces := #[]
  cf := some (fileOf pool3 1 #[] #[] 1537 3 #[] #[])
  fields := #[]
  methods := #[]
  instanceTypes := #[]
  staticTypes := #[]
  resolved := Array.replicate 12 none
  statics := none }

def pool4 : Array CpInfo := pool [(1, .class_ 2), (0, u "java/io/Serializable"), (0, .class_ 4), (0, u "java/lang/Object")] 2

/-- java/io/Serializable -/
def k4 : Class := { plain "java/io/Serializable" (some 0) with
  accessFlags := 1537
  interfaces := #[]
  cf := some (fileOf pool4 1 #[] #[] 1537 3 #[] #[])
  fields := #[]
  methods := #[]
  instanceTypes := #[]
  staticTypes := #[]
  resolved := Array.replicate 7 none
  statics := none }

def pool5 : Array CpInfo := pool [(2, .class_ 4), (1, u "java/lang/Enum"), (0, u "name"), (0, u "Ljava/lang/String;"), (0, .fieldref 2 8), (0, .nameAndType 9 10), (0, u "ordinal"), (0, u "I"), (1, .class_ 14), (1, u "java/lang/Object"), (4, u "hash"), (86, .class_ 108), (1, u "java/lang/Enum$EnumDesc"), (2, .class_ 112), (0, u "java/lang/constant/Constable"), (0, .class_ 114), (0, u "java/lang/Comparable"), (0, .class_ 116), (0, u "java/io/Serializable"), (9, u "()I")] 77

def k5c0 : Code := { maxStack := 1, maxLocals := 1, code := jdk_37_method_2_code, exceptionTable := #[], attributes := #[] }
def k5m0 : Method := { name := "ordinal", desc := "()I", sig := { parameters := [], returnType := some .int }, accessFlags := 17, code := some k5c0 }
/-- java/lang/Enum -/
def k5 : Class := { plain "java/lang/Enum" (some 0) with
  accessFlags := 1057
  interfaces := #[2, 3, 4]
  cf := some (fileOf pool5 2 #[.nestMembers #[106]] #[{ accessFlags := 17, nameIndex := 9, descriptorIndex := 126, attributes := #[] }] 1057 12 #[111, 113, 115] #[{ accessFlags := 18, nameIndex := 5, descriptorIndex := 6, attributes := #[] }, { accessFlags := 18, nameIndex := 9, descriptorIndex := 10, attributes := #[] }, { accessFlags := 2, nameIndex := 19, descriptorIndex := 10, attributes := #[] }])
  fields := #[{ name := "name", type := (.object "java/lang/String"), accessFlags := 18, slot := 0, constantValue := 0 }, { name := "ordinal", type := .int, accessFlags := 18, slot := 1, constantValue := 0 }, { name := "hash", type := .int, accessFlags := 2, slot := 2, constantValue := 0 }]
  methods := #[k5m0]
  instanceTypes := #[(.object "java/lang/String"), .int, .int]
  staticTypes := #[]
  resolved := Array.replicate 204 none
  statics := none }

def pool6 : Array CpInfo := pool [(1, .class_ 2), (0, u "com/example/coupewise/coupewise/Bias"), (2, u "NONE"), (0, u "Lcom/example/coupewise/coupewise/Bias;"), (2, u "VOLUME"), (0, .fieldref 1 11), (0, .nameAndType 12 6), (0, u "NEIGHBOURS"), (0, .fieldref 1 14), (0, .nameAndType 15 6), (0, u "BOTH"), (2, u "$VALUES"), (0, u "[Lcom/example/coupewise/coupewise/Bias;"), (6, .class_ 28), (1, u "java/lang/Enum"), (6, .methodref 1 36), (0, .nameAndType 37 38), (0, u "ordinal"), (0, u "()I"), (21, u "weight"), (0, u "(JI)D"), (1, u "countsNeighbours"), (0, u "()Z")] 4

def k6c0 : Code := { maxStack := 4, maxLocals := 4, code := prog_1_method_4_code, exceptionTable := #[], attributes := #[] }
def k6m0 : Method := { name := "weight", desc := "(JI)D", sig := { parameters := [.long, .int], returnType := some .double }, accessFlags := 0, code := some k6c0 }
def k6c1 : Code := { maxStack := 2, maxLocals := 1, code := prog_1_method_5_code, exceptionTable := #[], attributes := #[] }
def k6m1 : Method := { name := "countsNeighbours", desc := "()Z", sig := { parameters := [], returnType := some .boolean }, accessFlags := 0, code := some k6c1 }
/-- com/example/coupewise/coupewise/Bias -/
def k6 : Class := { plain "com/example/coupewise/coupewise/Bias" (some 5) with
  accessFlags := 16433
  interfaces := #[]
  cf := some (fileOf pool6 1 #[] #[{ accessFlags := 0, nameIndex := 60, descriptorIndex := 61, attributes := #[] }, { accessFlags := 0, nameIndex := 63, descriptorIndex := 64, attributes := #[] }] 16433 26 #[] #[{ accessFlags := 16409, nameIndex := 5, descriptorIndex := 6, attributes := #[] }, { accessFlags := 16409, nameIndex := 9, descriptorIndex := 6, attributes := #[] }, { accessFlags := 16409, nameIndex := 12, descriptorIndex := 6, attributes := #[] }, { accessFlags := 16409, nameIndex := 15, descriptorIndex := 6, attributes := #[] }, { accessFlags := 4122, nameIndex := 18, descriptorIndex := 19, attributes := #[] }])
  fields := #[{ name := "NONE", type := (.object "com/example/coupewise/coupewise/Bias"), accessFlags := 16409, slot := 0, constantValue := 0 }, { name := "VOLUME", type := (.object "com/example/coupewise/coupewise/Bias"), accessFlags := 16409, slot := 1, constantValue := 0 }, { name := "NEIGHBOURS", type := (.object "com/example/coupewise/coupewise/Bias"), accessFlags := 16409, slot := 2, constantValue := 0 }, { name := "BOTH", type := (.object "com/example/coupewise/coupewise/Bias"), accessFlags := 16409, slot := 3, constantValue := 0 }, { name := "$VALUES", type := (.array (.object "com/example/coupewise/coupewise/Bias")), accessFlags := 4122, slot := 4, constantValue := 0 }]
  methods := #[k6m0, k6m1]
  instanceTypes := #[(.object "java/lang/String"), .int, .int]
  staticTypes := #[(.object "com/example/coupewise/coupewise/Bias"), (.object "com/example/coupewise/coupewise/Bias"), (.object "com/example/coupewise/coupewise/Bias"), (.object "com/example/coupewise/coupewise/Bias"), (.array (.object "com/example/coupewise/coupewise/Bias"))]
  resolved := Array.replicate 69 none
  statics := some 0 }

def pool7 : Array CpInfo := pool [(1, u "java/lang/Cloneable"), (0, .class_ 1), (0, u "java/lang/Object"), (0, .class_ 3)] 3

/-- java/lang/Cloneable -/
def k7 : Class := { plain "java/lang/Cloneable" (some 0) with
  accessFlags := 1537
  interfaces := #[]
  cf := some (fileOf pool7 2 #[] #[] 1537 4 #[] #[])
  fields := #[]
  methods := #[]
  instanceTypes := #[]
  staticTypes := #[]
  resolved := Array.replicate 8 none
  statics := none }

/-- the primitive byte -/
def k8 : Class := { plain "byte" none with kind := .primitive 'B', accessFlags := 0x411 }
/-- [B -/
def k9 : Class := { plain "[B" (some 0) with kind := .array 8 .byte, interfaces := #[7, 4], accessFlags := 1041 }

/-- the primitive int -/
def k10 : Class := { plain "int" none with kind := .primitive 'I', accessFlags := 0x411 }
/-- [I -/
def k11 : Class := { plain "[I" (some 0) with kind := .array 10 .int, interfaces := #[7, 4], accessFlags := 1041 }

def heap : Heap := #[{ cls := 6, slots := #[.ref 1, .ref 4, .ref 2, .ref 3, .null], vm := .statics 6 },
  { cls := 6, slots := #[.null, .int 0, .int 0], vm := .none },
  { cls := 6, slots := #[.null, .int 2, .int 0], vm := .none },
  { cls := 6, slots := #[.null, .int 3, .int 0], vm := .none },
  { cls := 6, slots := #[.null, .int 1, .int 0], vm := .none }]
def classes : Array Class := #[k0, k1, k2, k3, k4, k5, k6, k7, k8, k9, k10, k11]
def interned : List (Array UInt16 × Addr) := []
def slotsUsed : Nat := 17
def theMethod : MethodId := ⟨1, 2⟩
def args0 : Array Value := #[.int 5, .long 7, .int 3]
def aboutOver (below : List Frame) : State where
  vm := { classes := classes, interned := interned.toArray }
  heap := heap
  slotsUsed := slotsUsed
  threads := #[{ frames := .invoking theMethod args0 :: below }]
def below0 : List Frame := [.native { method := ⟨0, 0⟩, args := #[] }]
def about1 : State := aboutOver below0
def p0 : Program := .bare "" "" ""
def e0 : Env := launch0.env 0 0 0
theorem w_frames : about1.frames = Frame.invoking theMethod args0 :: below0 := rfl
set_option maxRecDepth 65536 in
theorem w_args : argsFit about1.vm theMethod args0 = true := by decide +kernel
set_option maxRecDepth 65536 in
theorem w_heap : heapFits about1 = true := by decide +kernel
set_option maxRecDepth 65536 in
theorem w_runnable : about1.curStatus? = some .runnable := by decide +kernel
set_option maxRecDepth 65536 in
theorem w_alone : about1.alone = true := by decide +kernel
set_option maxRecDepth 65536 in
theorem w_named : about1.methodNamed? x = some theMethod := by decide +kernel
set_option maxRecDepth 65536 in
theorem w_hears : about1.hears theMethod below0 = true := by decide +kernel
set_option maxRecDepth 65536 in
theorem w_ripe : about1.ripe theMethod args0 below0 = true := by decide +kernel
theorem w_running : about1.status = .running := rfl
set_option maxRecDepth 65536 in
theorem w_room : about1.hasRoom e0.platform room_1 = true :=
  launch0.hasRoom_least _ room_1 (by decide +kernel) (by decide +kernel) (by decide +kernel) (by decide +kernel) (by decide +kernel) (by decide +kernel)
theorem allAtoms_all (ts : List Jvm.Cond) (a : Array Jvm.Value) (st : Jvm.State) : (allAtoms ts).before a st = ts.all (fun c => c.before a st) := by
  induction ts with
  | nil => rfl
  | cons c t ih =>
    show (Jvm.Cond.and c (allAtoms t)).before a st = _
    rw [Jvm.Cond.before_and, ih, List.all_cons]
def words1 : List Jvm.Cond := Jvm.Cond.code x code maxLocals ret :: tables_1
/-- a 'code' word, met by the world's own term for the bytes: nothing is compared byte by byte -/
theorem code_word {y : MethodName} {bytes : ByteArray} {mx : Nat} {rt : Option FieldType} {a : Array Value} {s : State} {m : MethodId} {meth : Method} {c : Code} (h1 : s.methodNamed? y = some m) (h2 : s.vm.method? m = some meth) (h3 : meth.code = some c) (h4 : c.code = bytes)
    (h5 : (c.maxLocals == mx && c.exceptionTable.isEmpty && decide (c.maxStack ≤ mostOperands) && decide (meth.sig.returnType = rt) && !meth.locks && decide (parseMethodDescriptor y.desc = some meth.sig)) = true) : (Jvm.Cond.code y bytes mx rt).before a s = true := by
  simp only [Bool.and_eq_true, beq_iff_eq, Bool.not_eq_true', decide_eq_true_eq] at h5
  obtain ⟨⟨⟨⟨⟨g1, g2⟩, g3⟩, g4⟩, g5⟩, g6⟩ := h5
  simp [Cond.before, Cond.holds, Cond.value, h1, h2, h3, h4, g1, g2, g3, g4, g5, g6]
def isCode : Jvm.Cond → Bool
  | .code _ _ _ _ => true
  | _ => false
theorem all_split {L : List Jvm.Cond} {P : Jvm.Cond → Bool} (h1 : L.all (fun c => isCode c || P c) = true) (h2 : ∀ c ∈ L.filter isCode, P c = true) : L.all P = true := by
  refine List.all_eq_true.mpr fun c hc => ?_
  have h := List.all_eq_true.mp h1 c hc
  rcases Bool.eq_false_or_eq_true (isCode c) with hi | hi
  · exact h2 c (List.mem_filter.mpr ⟨hc, hi⟩)
  · simpa [hi] using h
set_option maxRecDepth 65536 in
theorem w_c0 : (Jvm.Cond.code x code maxLocals ret).before args0 about1 = true := code_word (m := ⟨1, 2⟩) (meth := k1m2) (c := k1c2) (by decide +kernel) rfl rfl rfl (by decide +kernel)
set_option maxRecDepth 65536 in
theorem w_c1 : (Jvm.Cond.code ({ cls := "com/example/coupewise/coupewise/BiasCountsNeighboursPinLaw", name := "pick", desc := "(I)Lcom/example/coupewise/coupewise/Bias;" } : Jvm.MethodName) method_2_code (2 : Nat) (Option.some (Jvm.ClassFile.FieldType.object "com/example/coupewise/coupewise/Bias"))).before args0 about1 = true := code_word (m := ⟨1, 1⟩) (meth := k1m1) (c := k1c1) (by decide +kernel) rfl rfl rfl (by decide +kernel)
set_option maxRecDepth 65536 in
theorem w_c2 : (Jvm.Cond.code ({ cls := "com/example/coupewise/coupewise/Bias", name := "weight", desc := "(JI)D" } : Jvm.MethodName) prog_1_method_4_code (4 : Nat) (Option.some Jvm.ClassFile.FieldType.double)).before args0 about1 = true := code_word (m := ⟨6, 0⟩) (meth := k6m0) (c := k6c0) (by decide +kernel) rfl rfl rfl (by decide +kernel)
set_option maxRecDepth 65536 in
theorem w_c3 : (Jvm.Cond.code ({ cls := "java/lang/Enum", name := "ordinal", desc := "()I" } : Jvm.MethodName) jdk_37_method_2_code (1 : Nat) (Option.some Jvm.ClassFile.FieldType.int)).before args0 about1 = true := code_word (m := ⟨5, 0⟩) (meth := k5m0) (c := k5c0) (by decide +kernel) rfl rfl rfl (by decide +kernel)
set_option maxRecDepth 65536 in
theorem w_c4 : (Jvm.Cond.code ({ cls := "com/example/coupewise/coupewise/Bias", name := "countsNeighbours", desc := "()Z" } : Jvm.MethodName) prog_1_method_5_code (1 : Nat) (Option.some Jvm.ClassFile.FieldType.boolean)).before args0 about1 = true := code_word (m := ⟨6, 1⟩) (meth := k6m1) (c := k6c1) (by decide +kernel) rfl rfl rfl (by decide +kernel)
def codes1 : List Jvm.Cond := [Jvm.Cond.code x code maxLocals ret, Jvm.Cond.code ({ cls := "com/example/coupewise/coupewise/BiasCountsNeighboursPinLaw", name := "pick", desc := "(I)Lcom/example/coupewise/coupewise/Bias;" } : Jvm.MethodName) method_2_code (2 : Nat) (Option.some (Jvm.ClassFile.FieldType.object "com/example/coupewise/coupewise/Bias")), Jvm.Cond.code ({ cls := "com/example/coupewise/coupewise/Bias", name := "weight", desc := "(JI)D" } : Jvm.MethodName) prog_1_method_4_code (4 : Nat) (Option.some Jvm.ClassFile.FieldType.double), Jvm.Cond.code ({ cls := "java/lang/Enum", name := "ordinal", desc := "()I" } : Jvm.MethodName) jdk_37_method_2_code (1 : Nat) (Option.some Jvm.ClassFile.FieldType.int), Jvm.Cond.code ({ cls := "com/example/coupewise/coupewise/Bias", name := "countsNeighbours", desc := "()Z" } : Jvm.MethodName) prog_1_method_5_code (1 : Nat) (Option.some Jvm.ClassFile.FieldType.boolean)]
set_option maxRecDepth 65536 in
theorem codes_eq : words1.filter isCode = codes1 := rfl
theorem w_codes : ∀ c ∈ words1.filter isCode, c.before args0 about1 = true := by
  rw [codes_eq]
  intro c hc
  simp only [codes1, List.mem_cons, List.not_mem_nil, or_false] at hc
  rcases hc with rfl | rfl | rfl | rfl | rfl
  · exact w_c0
  · exact w_c1
  · exact w_c2
  · exact w_c3
  · exact w_c4
set_option maxRecDepth 65536 in
theorem w_t1 : (words1.take 24).all (fun c => isCode c || c.before args0 about1) = true := by decide +kernel
set_option maxRecDepth 65536 in
theorem w_t2 : (words1.drop 24).all (fun c => isCode c || c.before args0 about1) = true := by decide +kernel
theorem w_tables : (allAtoms (Jvm.Cond.code x code maxLocals ret :: tables_1)).before args0 about1 = true := by
  rw [allAtoms_all]
  show words1.all (fun c => c.before args0 about1) = true
  refine all_split ?_ w_codes
  rw [← List.take_append_drop 24 words1, List.all_append, w_t1, w_t2]
  rfl
set_option maxRecDepth 65536 in
theorem w_case : (Jvm.Cond.and given_1 narrow_1).before args0 about1 = true := by decide +kernel
theorem w_applies : (headSpec (Jvm.Cond.code x code maxLocals ret :: tables_1) room_1).applies x e0.platform about1 = true :=
  (Spec.applies_iff w_frames).mpr ⟨w_running, w_runnable, w_alone, w_named, w_hears, w_ripe, w_room, w_tables⟩
theorem atStart : AtStart classFile x code maxLocals ret World_1 tables_1 room_1 Calls_1 rest_1 Pre_1 launch0 p0 e0 about1 theMethod args0 below0 :=
  ⟨lists_1, trivial, launch0.admits_env _ _ _, launch0.least_env, fairChoices_fair.cas, fairChoices_fair.clock, w_frames, w_args, w_heap, w_applies, trivial, trivial, w_case⟩
end start1
theorem witness_1 : WitnessClaimed_1 := ⟨start1.p0, start1.e0, start1.about1, start1.theMethod, start1.args0, start1.below0, start1.atStart⟩
end Jvm.Pilot.@@N@@
