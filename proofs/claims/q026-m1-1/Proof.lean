import JvmDerived
import JvmDerived.Pilot.@@N@@Statement
import JvmDerived.Pilot.@@N@@Code
set_option linter.unusedVariables false
set_option linter.unusedSimpArgs false

namespace Jvm.RoadKit
open Sem ClassFile Op Lib Jvm.Stand Jvm.Free Jvm.LawKit
section New
variable {p : Program} {l : Launch} {e : Env} {R : Room} {s : State} {m : MethodId} {args : Array Value} {below : List Frame} {meth : Method} {c : Code} {T : State} {locs : List Loc} {cells slots : Nat}
theorem retI (X : Stand p l e R s m args below meth c T locs cells slots) (hx : p.tables.exec = Jvm.exec) {pc : Nat} {Ls : Array Slot} {z : Int32} {rest : List Value} (hret : meth.sig.returnType = some .int) (hd : decode c.code pc = .ok (.ireturn, 1)) {fs : List Frame}
    (hl : ∀ (f : JFrame) (acts : List Action), f.method = m → f.locked = none → f.entered = [] → (doReturn e (T.setTop f) acts (some (.int z))).1 = T.setFrames fs) : Steps p.tables e below (T.setTop (mkF m pc Ls (.int z :: rest))) (T.setFrames fs) := by
  have hm' : T.vm.method? m = some meth := X.method'
  have hn : narrow .int (.int z) = .int z := rfl
  show Steps p.tables e below (T.setTop { method := m, pc := pc, locals := Ls, stack := _ :: rest, locked := none }) _
  jvm_step X.here [X.here.top, hx, hd, hm', hret, hn]
  first | (intro acts; rw [hl _ acts rfl rfl rfl]) | rw [hl _ _ rfl rfl rfl]
  exact Steps.refl _
theorem retD (X : Stand p l e R s m args below meth c T locs cells slots) (hx : p.tables.exec = Jvm.exec) {pc : Nat} {Ls : Array Slot} {z : UInt64} {rest : List Value} (hret : meth.sig.returnType = some .double) (hd : decode c.code pc = .ok (.dreturn, 1)) {fs : List Frame}
    (hl : ∀ (f : JFrame) (acts : List Action), f.method = m → f.locked = none → f.entered = [] → (doReturn e (T.setTop f) acts (some (.double z))).1 = T.setFrames fs) : Steps p.tables e below (T.setTop (mkF m pc Ls (.double z :: rest))) (T.setFrames fs) := by
  have hm' : T.vm.method? m = some meth := X.method'
  have hn : narrow .double (.double z) = .double z := rfl
  show Steps p.tables e below (T.setTop { method := m, pc := pc, locals := Ls, stack := _ :: rest, locked := none }) _
  jvm_step X.here [X.here.top, hx, hd, hm', hret, hn]
  first | (intro acts; rw [hl _ acts rfl rfl rfl]) | rw [hl _ _ rfl rfl rfl]
  exact Steps.refl _
end New
end Jvm.RoadKit

namespace Jvm.Pilot.@@N@@
section OwnFloat
open Jvm.FP Jvm.FP.Core
/-- a double's value in units of 2^-1074 -/
def own_z (a : UInt64) : Int := zval b64 (val64 a)
def own_u : Int := ((2 ^ 1074 : Nat) : Int)
theorem own_ac1 (s l u : Int) : s * l * u * u = s * u * (l * u) := by ac_rfl
theorem own_ac2 (l u d : Int) : l * u * (d * u) = l * d * (u * u) := by ac_rfl
theorem own_ac3 (n u p : Int) : n * u * u * p = n * p * (u * u) := by ac_rfl
theorem own_u_pos : 0 < own_u := Int.natCast_pos.mpr (Nat.two_pow_pos _)
theorem own_p_pos (k : Nat) : (0 : Int) < 2 ^ k := Int.pow_pos (by decide)
/-- a is finite and lo ≤ a * 2^k ≤ hi -/
def own_In (k : Nat) (lo hi : Int) (a : UInt64) : Prop := DFin a ∧ lo * own_u ≤ own_z a * 2 ^ k ∧ own_z a * 2 ^ k ≤ hi * own_u
theorem own_rep {k : Nat} (hk : k ≤ 1000) {i : Int} (hi : i.natAbs < 2 ^ 53) : ∃ V, Core.fits b64 V ∧ V ≠ .nan ∧ (∃ s c q, V = .fin s c q) ∧ zval b64 V * 2 ^ k = i * own_u := by
  obtain ⟨c', q', h1, h2⟩ := round_exact good_b64 (decide (i < 0)) (c := i.natAbs) (q := -(k : Int)) hi (by rw [qmin_b64]; omega) (Int.le_trans (by omega) (show (0 : Int) ≤ b64.qmax from by decide))
  refine ⟨round b64 (.fin (decide (i < 0)) i.natAbs (-(k : Int))), round_fits good_b64 _, by rw [h1]; exact Datum.noConfusion, ⟨_, _, _, h1⟩, ?_⟩
  rw [h1]
  show signed (decide (i < 0)) (inUnits c' q' b64.qmin) * 2 ^ k = i * own_u
  rw [h2]
  unfold inUnits
  rw [signed_mul, show signed (decide (i < 0)) i.natAbs = i from by unfold signed; by_cases h : i < 0 <;> simp [h] <;> omega, qmin_b64, show (-(k : Int) - (-1074)).toNat = 1074 - k by omega, Int.mul_assoc]
  have e : (2 : Nat) ^ 1074 = 2 ^ (1074 - k) * 2 ^ k := by rw [← Nat.pow_add]; congr 1; omega
  unfold own_u
  rw [e, Int.natCast_mul, Int.natCast_pow 2 k]
  rfl
theorem own_fin_of {d V W : Datum} (hd : Core.fits b64 d) (hn : d ≠ .nan) (hV : Core.fits b64 V) (fV : ∃ s c q, V = .fin s c q) (hW : Core.fits b64 W) (fW : ∃ s c q, W = .fin s c q) (h1 : zval b64 V ≤ zval b64 d) (h2 : zval b64 d ≤ zval b64 W) : ∃ s c q, d = .fin s c q := by
  obtain ⟨s1, c1, q1, rfl⟩ := fV
  obtain ⟨s2, c2, q2, rfl⟩ := fW
  have t1 : zmag b64 (.fin s1 c1 q1) < b64.tails * 2 ^ (b64.exps - 2) := zmag_lt_top good_b64 hV
  have t2 : zmag b64 (.fin s2 c2 q2) < b64.tails * 2 ^ (b64.exps - 2) := zmag_lt_top good_b64 hW
  cases d with
  | nan => exact absurd rfl hn
  | fin s c q => exact ⟨s, c, q, rfl⟩
  | inf s =>
    exfalso
    have e : zval b64 (.inf s) = signed s (b64.tails * 2 ^ (b64.exps - 2)) := rfl
    rw [e] at h1 h2
    unfold zval at h1 h2
    generalize b64.tails * 2 ^ (b64.exps - 2) = top at *
    generalize zmag b64 (.fin s1 c1 q1) = z1 at *
    generalize zmag b64 (.fin s2 c2 q2) = z2 at *
    generalize sgn (.fin s1 c1 q1) = g1 at *
    generalize sgn (.fin s2 c2 q2) = g2 at *
    cases s <;> cases g1 <;> cases g2 <;> simp [signed] at h1 h2 <;> omega
/-- d is the rounding of num / den -/
def own_Mono (d : Datum) (num den : Int) : Prop := ∀ V, Core.fits b64 V → V ≠ .nan → (num ≤ zval b64 V * den → zval b64 d ≤ zval b64 V) ∧ (zval b64 V * den ≤ num → zval b64 V ≤ zval b64 d)
theorem own_mk {a : UInt64} {num den : Int} (hn : val64 a ≠ .nan) (M : own_Mono (val64 a) num den) (hden : 0 < den) {k : Nat} (hk : k ≤ 1000) {lo hi : Int} (bl : lo.natAbs < 2 ^ 53) (bh : hi.natAbs < 2 ^ 53) (h1 : lo * own_u * den ≤ num * 2 ^ k) (h2 : num * 2 ^ k ≤ hi * own_u * den) : own_In k lo hi a := by
  obtain ⟨V, fV, nV, gV, eV⟩ := own_rep hk bl
  obtain ⟨W, fW, nW, gW, eW⟩ := own_rep hk bh
  have pk := own_p_pos k
  have a1 : zval b64 V ≤ zval b64 (val64 a) := (M V fV nV).2 (by
    refine Int.le_of_mul_le_mul_right ?_ pk
    rw [Int.mul_right_comm, eV]; exact h1)
  have a2 : zval b64 (val64 a) ≤ zval b64 W := (M W fW nW).1 (by
    refine Int.le_of_mul_le_mul_right ?_ pk
    rw [Int.mul_right_comm (zval b64 W), eW]; exact h2)
  refine ⟨own_fin_of (val64_fits a) hn fV gV fW gW a1 a2, ?_, ?_⟩
  · rw [← eV]; exact Int.mul_le_mul_of_nonneg_right a1 (Int.le_of_lt pk)
  · rw [← eW]; exact Int.mul_le_mul_of_nonneg_right a2 (Int.le_of_lt pk)
theorem own_add_mono {a b : UInt64} (ha : DFin a) (hb : DFin b) : own_Mono (val64 (Core.dadd a b)) (own_z a + own_z b) 1 := by
  intro V hV nV
  rw [val64_dadd]
  have fa := val64_fits a
  have fb := val64_fits b
  unfold own_z
  obtain ⟨s, c, q, ea⟩ := ha
  obtain ⟨t, d, r, eb⟩ := hb
  rw [ea] at fa ⊢
  rw [eb] at fb ⊢
  obtain ⟨sg, n, e, e1, e2, e3⟩ := sum_units fa fb
  rw [e1]
  have z : (b64.qmin - b64.qmin).toNat = 0 := by omega
  constructor
  · intro h
    exact zval_round_le good_b64 hV nV (Int.le_refl _) e2 (by rw [e3, z]; simpa using h)
  · intro h
    exact zval_round_ge good_b64 hV nV (Int.le_refl _) e2 (by rw [e3, z]; simpa using h)
theorem own_mul_mono {a b : UInt64} (ha : DFin a) (hb : DFin b) : own_Mono (val64 (Core.dmul a b)) (own_z a * own_z b) own_u := by
  intro V hV nV
  rw [val64_dmul]
  have fa := val64_fits a
  have fb := val64_fits b
  unfold own_z
  obtain ⟨s, c, q, ea⟩ := ha
  obtain ⟨t, d, r, eb⟩ := hb
  rw [ea] at fa ⊢
  rw [eb] at fb ⊢
  obtain ⟨e1, e2, e3⟩ := product_units fa fb
  rw [e1]
  have e4 : signed (s != t) (inUnits (c * d) (q + r) (2 * b64.qmin)) = zval b64 (.fin s c q) * zval b64 (.fin t d r) := by
    rw [e3, signed_xor]; rfl
  have z : (b64.qmin - 2 * b64.qmin).toNat = 1074 := by rw [qmin_b64]; decide
  have z2 : 2 * b64.qmin ≤ b64.qmin := by rw [qmin_b64]; decide
  constructor
  · intro h
    exact zval_round_le good_b64 hV nV z2 e2 (by rw [e4, z]; exact h)
  · intro h
    exact zval_round_ge good_b64 hV nV z2 e2 (by rw [e4, z]; exact h)
theorem own_div_eq {c d : Nat} {q r : Int} (h1 : b64.qmin ≤ q) (h2 : b64.qmin ≤ r) (h3 : r ≤ b64.qmax) {V : Nat} :
    inUnits c (q - r) (-2200) * 2 ^ (r - b64.qmin).toNat = inUnits c q b64.qmin * 2 ^ 2200 ∧ (V * 2 ^ (b64.qmin - (-2200)).toNat * d) * 2 ^ (r - b64.qmin).toNat = V * inUnits d r b64.qmin * 2 ^ 1126 := by
  have e : b64.qmax = 971 := by decide
  rw [qmin_b64] at *
  unfold inUnits
  constructor
  · rw [Nat.mul_assoc, ← Nat.pow_add, Nat.mul_assoc, ← Nat.pow_add]
    congr 2; omega
  · rw [show ((-1074 : Int) - (-2200)).toNat = 1126 from by decide]
    generalize (2 : Nat) ^ 1126 = A
    generalize 2 ^ (r - -1074).toNat = B
    rw [Nat.mul_assoc (V * A), Nat.mul_right_comm]
theorem own_div_mag_le {σ s t u : Bool} {c d c' : Nat} {q r q' : Int} {V : Datum} (hx : Core.fits b64 (.fin s c q)) (hy : Core.fits b64 (.fin t d r)) (hd : 0 < d) (hV : Core.fits b64 V) (hn : V ≠ .nan)
    (h : zmag b64 (.fin s c q) * 2 ^ 1074 ≤ zmag b64 V * zmag b64 (.fin t d r)) : zmag b64 (roundRatio b64 σ c d (q - r)) ≤ zmag b64 V := by
  have e : b64.qmax = 971 := by decide
  have q1 := hx.2.1
  have r1 := hy.2.1
  have r2 := hy.2.2.1
  have m := qmin_b64
  refine zmag_roundRatio_le good_b64 hd hV hn (e0 := -2200) (by omega) (by omega) ?_
  obtain ⟨e1, e2⟩ := own_div_eq (c := c) (d := d) (V := zmag b64 V) q1 r1 r2
  refine Nat.le_of_mul_le_mul_right ?_ (Nat.two_pow_pos (r - b64.qmin).toNat)
  rw [e1, e2]
  have h' : inUnits c q b64.qmin * 2 ^ 1074 ≤ zmag b64 V * inUnits d r b64.qmin := h
  have h'' := Nat.mul_le_mul_right (2 ^ 1126) h'
  rw [Nat.mul_assoc (inUnits c q b64.qmin), ← Nat.pow_add] at h''
  exact h''
theorem own_div_mag_ge {σ s t u : Bool} {c d c' : Nat} {q r q' : Int} {V : Datum} (hx : Core.fits b64 (.fin s c q)) (hy : Core.fits b64 (.fin t d r)) (hd : 0 < d) (hV : Core.fits b64 V)
    (h : zmag b64 V * zmag b64 (.fin t d r) ≤ zmag b64 (.fin s c q) * 2 ^ 1074) : zmag b64 V ≤ zmag b64 (roundRatio b64 σ c d (q - r)) := by
  have e : b64.qmax = 971 := by decide
  have q1 := hx.2.1
  have r1 := hy.2.1
  have r2 := hy.2.2.1
  have m := qmin_b64
  refine zmag_roundRatio_ge good_b64 hd hV (e0 := -2200) (by omega) (by omega) ?_
  obtain ⟨e1, e2⟩ := own_div_eq (c := c) (d := d) (V := zmag b64 V) q1 r1 r2
  refine Nat.le_of_mul_le_mul_right ?_ (Nat.two_pow_pos (r - b64.qmin).toNat)
  rw [e1, e2]
  have h' : zmag b64 V * inUnits d r b64.qmin ≤ inUnits c q b64.qmin * 2 ^ 1074 := h
  have h'' := Nat.mul_le_mul_right (2 ^ 1126) h'
  rw [Nat.mul_assoc (inUnits c q b64.qmin), ← Nat.pow_add] at h''
  exact h''
theorem own_div_mono {a b : UInt64} (ha : DFin a) (hb : DFin b) (hp : 0 < own_z b) : own_Mono (val64 (Core.ddiv a b)) (own_z a * own_u) (own_z b) := by
  intro V hV nV
  rw [val64_ddiv]
  have fa := val64_fits a
  have fb := val64_fits b
  unfold own_z at hp ⊢
  obtain ⟨s, c, q, ea⟩ := ha
  obtain ⟨t, d, r, eb⟩ := hb
  rw [ea] at fa ⊢
  rw [eb] at fb hp ⊢
  have ht : t = false := by
    cases t with
    | false => rfl
    | true => exfalso; unfold zval at hp; simp [sgn, signed] at hp; omega
  subst ht
  have hd : 0 < d := by
    rcases Nat.eq_zero_or_pos d with h | h
    · subst h; exfalso; unfold zval zmag at hp; simp [inUnits, signed, sgn] at hp
    · exact h
  have eq : quotient b64 (.fin s c q) (.fin false d r) = roundRatio b64 (s != false) c d (q - r) := by
    show (if d = 0 then _ else _) = _
    rw [if_neg (by omega)]
  rw [eq]
  have hs : (s != false) = s := by cases s <;> rfl
  rw [hs]
  have le := own_div_mag_le (σ := s) (u := s) (c' := c) (q' := q) fa fb hd hV nV
  have ge := own_div_mag_ge (σ := s) (u := s) (c' := c) (q' := q) fa fb hd hV
  have zb : zval b64 (.fin false d r) = ((zmag b64 (.fin false d r) : Nat) : Int) := rfl
  have zb0 : 0 < zmag b64 (.fin false d r) := by rw [zb] at hp; omega
  have zr : zval b64 (roundRatio b64 s c d (q - r)) = signed s (zmag b64 (roundRatio b64 s c d (q - r))) := by unfold zval; rw [sgn_roundRatio]
  have za : zval b64 (.fin s c q) = signed s (zmag b64 (.fin s c q)) := rfl
  have zv : zval b64 V = signed (sgn V) (zmag b64 V) := rfl
  rw [zr, za, zv, zb]
  unfold own_u
  rw [← signed_mul, ← signed_mul]
  have hz1 : zmag b64 V * zmag b64 (.fin false d r) = 0 → zmag b64 V = 0 := fun h => by rcases Nat.mul_eq_zero.mp h with h | h <;> omega
  have hz2 : zmag b64 (.fin s c q) * 2 ^ 1074 = 0 → zmag b64 (roundRatio b64 s c d (q - r)) = 0 := fun h => by
    have := own_div_mag_le (σ := s) (u := s) (c' := c) (q' := q) (V := .fin false 0 b64.qmin) fa fb hd (zero_fits good_b64 false) Datum.noConfusion (by rw [h]; exact Nat.zero_le _)
    have e0 : zmag b64 (.fin false 0 b64.qmin) = 0 := by unfold zmag inUnits; simp
    omega
  generalize zmag b64 V * zmag b64 (.fin false d r) = vP at *
  generalize zmag b64 (.fin s c q) * 2 ^ 1074 = xP at *
  generalize zmag b64 (roundRatio b64 s c d (q - r)) = R at *
  generalize zmag b64 V = v at *
  generalize sgn V = g at *
  constructor
  · intro h
    cases s <;> cases g <;> simp only [signed, if_true, Bool.false_eq_true, if_false] at h ⊢
    · have := le (by omega); omega
    · have := hz1 (by omega); have := hz2 (by omega); omega
    · omega
    · have := ge (by omega); omega
  · intro h
    cases s <;> cases g <;> simp only [signed, if_true, Bool.false_eq_true, if_false] at h ⊢
    · have := ge (by omega); omega
    · omega
    · have := hz1 (by omega); have := hz2 (by omega); omega
    · have := le (by omega); omega
theorem own_In.fin {k : Nat} {lo hi : Int} {a : UInt64} (h : own_In k lo hi a) : DFin a := h.1
theorem own_In.nn {k : Nat} {lo hi : Int} {a : UInt64} (h : own_In k lo hi a) : Jvm.Free.Fl.NoNaN64 a := Jvm.Free.Fl.val64_no.mpr h.1.ne_nan
theorem own_In.z0 {lo hi : Int} {a : UInt64} (h : own_In 0 lo hi a) : lo * own_u ≤ own_z a ∧ own_z a ≤ hi * own_u := by
  obtain ⟨-, h1, h2⟩ := h
  rw [Int.pow_zero, Int.mul_one] at h1 h2
  exact ⟨h1, h2⟩
theorem own_In.zz {i : Int} {a : UInt64} (h : own_In 0 i i a) : own_z a = i * own_u := by
  have := h.z0; omega
theorem own_In.of_int {i : Int} {a : UInt64} (h : DInt i a) : own_In 0 i i a := by
  unfold DInt at h
  have fa := val64_fits a
  cases e : val64 a with
  | nan => rw [e] at h; exact h.elim
  | inf s => rw [e] at h; exact h.elim
  | fin s c q =>
    rw [e] at h fa
    have q1 := fa.2.1
    rw [qmin_b64] at q1
    have hz : own_z a = i * own_u := by
      unfold own_z own_u
      rw [e]
      show signed s (inUnits c q b64.qmin) = _
      have h' : signed s (c * 2 ^ q.toNat) = i * ((2 ^ (-q).toNat : Nat) : Int) := h
      have e1 : inUnits c q b64.qmin * 2 ^ (-q).toNat = c * 2 ^ q.toNat * 2 ^ 1074 := by
        rw [qmin_b64]
        unfold inUnits
        rw [Nat.mul_assoc, ← Nat.pow_add, Nat.mul_assoc, ← Nat.pow_add]
        congr 2; omega
      have e2 : signed s (inUnits c q b64.qmin) * ((2 ^ (-q).toNat : Nat) : Int) = i * ((2 ^ 1074 : Nat) : Int) * ((2 ^ (-q).toNat : Nat) : Int) := by
        rw [← signed_mul, e1, signed_mul, h', Int.mul_right_comm]
      exact Int.eq_of_mul_eq_mul_right (by have := Nat.two_pow_pos (-q).toNat; omega) e2
    refine ⟨⟨s, c, q, e⟩, ?_, ?_⟩ <;> rw [hz, Int.pow_zero, Int.mul_one] <;> exact Int.le_refl _
theorem own_In.l2d {a : Int64} (h : a.toInt.natAbs ≤ 2 ^ 53) : own_In 0 a.toInt a.toInt (Jvm.FP.l2d a) := own_In.of_int (l2d_int h)
theorem own_In.i2d (a : Int32) : own_In 0 a.toInt a.toInt (Jvm.FP.i2d a) := own_In.of_int (i2d_int a)
theorem own_In.scale {k : Nat} {lo hi : Int} {a : UInt64} (j : Nat) (h : own_In k lo hi a) : own_In (k + j) (lo * 2 ^ j) (hi * 2 ^ j) a := by
  obtain ⟨f, h1, h2⟩ := h
  have p := Int.le_of_lt (own_p_pos j)
  refine ⟨f, ?_, ?_⟩
  · rw [Int.pow_add, ← Int.mul_assoc, Int.mul_right_comm lo]; exact Int.mul_le_mul_of_nonneg_right h1 p
  · rw [Int.pow_add, ← Int.mul_assoc, Int.mul_right_comm hi]; exact Int.mul_le_mul_of_nonneg_right h2 p
theorem own_In.wide {k : Nat} {lo hi lo' hi' : Int} {a : UInt64} (h : own_In k lo hi a) (h1 : lo' ≤ lo) (h2 : hi ≤ hi') : own_In k lo' hi' a := by
  obtain ⟨f, a1, a2⟩ := h
  have p := Int.le_of_lt own_u_pos
  exact ⟨f, Int.le_trans (Int.mul_le_mul_of_nonneg_right h1 p) a1, Int.le_trans a2 (Int.mul_le_mul_of_nonneg_right h2 p)⟩
theorem own_ne_of_fin {a b : UInt64} (ha : DFin a) (hb : DFin b) : val64 (Core.dadd a b) ≠ .nan := (notNaN_iff _).mp (dadd_out ha.notNaN hb)
theorem own_In.add {k : Nat} {l1 h1 l2 h2 : Int} {a b : UInt64} (ha : own_In k l1 h1 a) (hb : own_In k l2 h2 b) (hk : k ≤ 1000) (bl : (l1 + l2).natAbs < 2 ^ 53) (bh : (h1 + h2).natAbs < 2 ^ 53) : own_In k (l1 + l2) (h1 + h2) (Jvm.FP.dadd a b) := by
  refine own_mk (own_ne_of_fin ha.1 hb.1) (own_add_mono ha.1 hb.1) (by decide) hk bl bh ?_ ?_
  · rw [Int.mul_one, Int.add_mul, Int.add_mul]; exact Int.add_le_add ha.2.1 hb.2.1
  · rw [Int.mul_one, Int.add_mul, Int.add_mul]; exact Int.add_le_add ha.2.2 hb.2.2
theorem own_In.mul {k : Nat} {s l h : Int} {a b : UInt64} (ha : own_In 0 s s a) (hs : 0 ≤ s) (hb : own_In k l h b) (hk : k ≤ 1000) (bl : (s * l).natAbs < 2 ^ 53) (bh : (s * h).natAbs < 2 ^ 53) : own_In k (s * l) (s * h) (Jvm.FP.dmul a b) := by
  have e : own_z a * own_z b * 2 ^ k = s * own_u * (own_z b * 2 ^ k) := by rw [ha.zz, Int.mul_assoc]
  have p : 0 ≤ s * own_u := Int.mul_nonneg hs (Int.le_of_lt own_u_pos)
  refine own_mk ((notNaN_iff _).mp (dmul_out ha.1 hb.1)) (own_mul_mono ha.1 hb.1) own_u_pos hk bl bh ?_ ?_
  · rw [e, own_ac1 s l]; exact Int.mul_le_mul_of_nonneg_left hb.2.1 p
  · rw [e, own_ac1 s h]; exact Int.mul_le_mul_of_nonneg_left hb.2.2 p
theorem own_z_nz {d : Int} {b : UInt64} (hb : own_In 0 d d b) (hd : 0 < d) : 0 < own_z b := by rw [hb.zz]; exact Int.mul_pos hd own_u_pos
theorem own_nz {b : UInt64} (h : 0 < own_z b) : ¬ DZero b := by
  rintro ⟨s, q, e⟩
  unfold own_z at h
  rw [e] at h
  unfold zval zmag at h
  simp [inUnits, sgn, signed_zero] at h
theorem own_In.div {k : Nat} {n d l h : Int} {a b : UInt64} (ha : own_In 0 n n a) (hb : own_In 0 d d b) (hd : 0 < d) (hk : k ≤ 1000) (bl : l.natAbs < 2 ^ 53) (bh : h.natAbs < 2 ^ 53) (h1 : l * d ≤ n * 2 ^ k) (h2 : n * 2 ^ k ≤ h * d) : own_In k l h (Jvm.FP.ddiv a b) := by
  have zb := own_z_nz hb hd
  have p : 0 ≤ own_u * own_u := Int.mul_nonneg (Int.le_of_lt own_u_pos) (Int.le_of_lt own_u_pos)
  refine own_mk ((notNaN_iff _).mp (ddiv_out ha.1.notNaN hb.1 (own_nz zb))) (own_div_mono ha.1 hb.1 zb) zb hk bl bh ?_ ?_
  · rw [ha.zz, hb.zz, own_ac2 l, own_ac3 n]
    exact Int.mul_le_mul_of_nonneg_right h1 p
  · rw [ha.zz, hb.zz, own_ac2 h, own_ac3 n]
    exact Int.mul_le_mul_of_nonneg_right h2 p
theorem own_cmpN {a b : UInt64} (ha : val64 a ≠ .nan) (hb : val64 b ≠ .nan) : Jvm.FP.dcmp a b = some (compare (own_z a) (own_z b)) := order_zval good_b64 (val64_fits a) (val64_fits b) ha hb
theorem own_cmp {a b : UInt64} (ha : DFin a) (hb : DFin b) : Jvm.FP.dcmp a b = some (compare (own_z a) (own_z b)) := own_cmpN ha.ne_nan hb.ne_nan
theorem own_ltZ {a b : UInt64} (ha : val64 a ≠ .nan) (hb : val64 b ≠ .nan) (q : own_z a < own_z b) (o : ClassFile.CmpOp) : Op.cmpValue (Jvm.FP.dcmp a b) o = -1 := by
  rw [own_cmpN ha hb, show compare (own_z a) (own_z b) = .lt from by simp [compare, compareOfLessAndEq, q]]; rfl
theorem own_gtZ {a b : UInt64} (ha : val64 a ≠ .nan) (hb : val64 b ≠ .nan) (q : own_z b < own_z a) (o : ClassFile.CmpOp) : Op.cmpValue (Jvm.FP.dcmp a b) o = 1 := by
  have q1 : ¬ own_z a < own_z b := by omega
  have q2 : ¬ own_z a = own_z b := by omega
  rw [own_cmpN ha hb, show compare (own_z a) (own_z b) = .gt from by simp [compare, compareOfLessAndEq, q1, q2]]; rfl
theorem own_eqZ {a b : UInt64} (ha : val64 a ≠ .nan) (hb : val64 b ≠ .nan) (q : own_z a = own_z b) (o : ClassFile.CmpOp) : Op.cmpValue (Jvm.FP.dcmp a b) o = 0 := by
  rw [own_cmpN ha hb, q, compare_self_int]; rfl
theorem own_geZ {a b : UInt64} (ha : val64 a ≠ .nan) (hb : val64 b ≠ .nan) (q : own_z b ≤ own_z a) (o : ClassFile.CmpOp) : ¬ Op.cmpValue (Jvm.FP.dcmp a b) o < 0 := by
  by_cases h : own_z a = own_z b
  · rw [own_eqZ ha hb h]; decide
  · rw [own_gtZ ha hb (by omega)]; decide
theorem own_leZ {a b : UInt64} (ha : val64 a ≠ .nan) (hb : val64 b ≠ .nan) (q : own_z a ≤ own_z b) (o : ClassFile.CmpOp) : ¬ (0 : Int32) < Op.cmpValue (Jvm.FP.dcmp a b) o := by
  by_cases h : own_z a = own_z b
  · rw [own_eqZ ha hb h]; decide
  · rw [own_ltZ ha hb (by omega)]; decide
theorem own_neg_z (a : UInt64) : own_z (Jvm.FP.dneg a) = -own_z a := by
  unfold own_z
  rw [Jvm.FP.val64_dneg, zval_negate]
theorem own_neg_ne {a : UInt64} (h : val64 a ≠ .nan) : val64 (Jvm.FP.dneg a) ≠ .nan := by
  rw [Jvm.FP.val64_dneg]; exact negate_ne_nan h
theorem own_lit {a : UInt64} {i : Int} {c : Nat} {q : Int} (h : val64 a = .fin false c q) (h2 : ((c * 2 ^ q.toNat : Nat) : Int) = i * ((2 ^ (-q).toNat : Nat) : Int)) : own_In 0 i i a := own_In.of_int (show Whole i (val64 a) from by rw [h]; exact h2)
theorem own_In0 : own_In 0 0 0 (0 : UInt64) := own_lit (c := 0) (q := -1074) (by decide +kernel) (by simp)
theorem own_In1 : own_In 0 1 1 (4607182418800017408 : UInt64) := own_lit (c := 4503599627370496) (q := -52) (by decide +kernel) (by decide)
/-- |y| ≤ Double.MAX_VALUE for a finite y -/
theorem own_absle {y : UInt64} (h : Jvm.Free.Fl.Fin64 y) (o : ClassFile.CmpOp) : ¬ (0 : Int32) < Op.cmpValue (Jvm.FP.dcmp (y &&& 0x7fffffffffffffff) 9218868437227405311) o := by
  have hn := Jvm.Free.Fl.abs_toNat y
  have hf := (Jvm.Free.Fl.fin64_iff y).mp h
  have h1 : val64 (y &&& 0x7fffffffffffffff) ≠ .nan := (ne_nan _).mpr (by omega)
  have h2 : val64 (9218868437227405311 : UInt64) ≠ .nan := by decide +kernel
  have k : Jvm.FP.dcmp (y &&& 0x7fffffffffffffff) 9218868437227405311 = some (compare (key b64 (y &&& 0x7fffffffffffffff).toNat) (key b64 (9218868437227405311 : UInt64).toNat)) := cmp_key good_b64 (lt_full64 _) (lt_full64 _) h1 h2
  have e2 : key b64 (9218868437227405311 : UInt64).toNat = 9218868437227405311 := by decide +kernel
  have e1 : key b64 (y &&& 0x7fffffffffffffff).toNat = ((y.toNat % 9223372036854775808 : Nat) : Int) := by
    unfold key mag
    rw [half_b64, hn]
    have : ¬ 2 ^ 63 ≤ y.toNat % 9223372036854775808 := by omega
    rw [show y.toNat % 9223372036854775808 % 2 ^ 63 = y.toNat % 9223372036854775808 from Nat.mod_eq_of_lt (by omega)]
    simp [this, signed]
  rw [k, e1, e2]
  by_cases q1 : ((y.toNat % 9223372036854775808 : Nat) : Int) < 9218868437227405311
  · rw [show compare ((y.toNat % 9223372036854775808 : Nat) : Int) 9218868437227405311 = .lt from by simp only [compare, compareOfLessAndEq, q1, if_true]]; cases o <;> decide
  · have q2 : ((y.toNat % 9223372036854775808 : Nat) : Int) = 9218868437227405311 := by omega
    rw [q2, compare_self_int]; cases o <;> decide
theorem own_In.lt {k : Nat} {l1 h1 l2 h2 : Int} {a b : UInt64} (ha : own_In k l1 h1 a) (hb : own_In k l2 h2 b) (h : h1 < l2) (o : ClassFile.CmpOp) : Op.cmpValue (Jvm.FP.dcmp a b) o = -1 := by
  have q : own_z a < own_z b := by
    refine Int.lt_of_mul_lt_mul_right ?_ (Int.le_of_lt (own_p_pos k))
    exact Int.lt_of_le_of_lt ha.2.2 (Int.lt_of_lt_of_le (Int.mul_lt_mul_of_pos_right h own_u_pos) hb.2.1)
  rw [own_cmp ha.1 hb.1, show compare (own_z a) (own_z b) = .lt from by simp [compare, compareOfLessAndEq, q]]; rfl
theorem own_In.gt {k : Nat} {l1 h1 l2 h2 : Int} {a b : UInt64} (ha : own_In k l1 h1 a) (hb : own_In k l2 h2 b) (h : h2 < l1) (o : ClassFile.CmpOp) : Op.cmpValue (Jvm.FP.dcmp a b) o = 1 := by
  have q : own_z b < own_z a := by
    refine Int.lt_of_mul_lt_mul_right ?_ (Int.le_of_lt (own_p_pos k))
    exact Int.lt_of_le_of_lt hb.2.2 (Int.lt_of_lt_of_le (Int.mul_lt_mul_of_pos_right h own_u_pos) ha.2.1)
  rw [own_cmp ha.1 hb.1, show compare (own_z a) (own_z b) = .gt from by simp [compare, compareOfLessAndEq, (show ¬ own_z a < own_z b by omega), (show ¬ own_z a = own_z b by omega)]]; rfl
theorem own_In.eq {k : Nat} {i : Int} {a b : UInt64} (ha : own_In k i i a) (hb : own_In k i i b) (o : ClassFile.CmpOp) : Op.cmpValue (Jvm.FP.dcmp a b) o = 0 := by
  have q : own_z a = own_z b := by
    refine Int.eq_of_mul_eq_mul_right (Int.ne_of_gt (own_p_pos k)) ?_
    have := ha.2.1; have := ha.2.2; have := hb.2.1; have := hb.2.2
    omega
  rw [own_cmp ha.1 hb.1, q, compare_self_int]; rfl
theorem own_In.le {k : Nat} {l1 h1 l2 h2 : Int} {a b : UInt64} (ha : own_In k l1 h1 a) (hb : own_In k l2 h2 b) (h : h1 ≤ l2) (o : ClassFile.CmpOp) : ¬ (0 : Int32) < Op.cmpValue (Jvm.FP.dcmp a b) o := by
  have q : own_z a ≤ own_z b := by
    refine Int.le_of_mul_le_mul_right ?_ (own_p_pos k)
    exact Int.le_trans ha.2.2 (Int.le_trans (Int.mul_le_mul_of_nonneg_right h (Int.le_of_lt own_u_pos)) hb.2.1)
  rw [own_cmp ha.1 hb.1]
  by_cases q1 : own_z a < own_z b
  · rw [show compare (own_z a) (own_z b) = .lt from by simp [compare, compareOfLessAndEq, q1]]; cases o <;> decide
  · have q2 : own_z a = own_z b := by omega
    rw [q2, compare_self_int]; cases o <;> decide
end OwnFloat
end Jvm.Pilot.@@N@@
namespace Jvm.Pilot.@@N@@
open Jvm Jvm.ClassFile Sem Op Lib Jvm.Free Jvm.Stand Jvm.LawKit Jvm.RoadKit Bundle Jvm.Pilot.@@N@@.Jvm.D

def own_S : UInt64 := 3110860544497550640
def own_L : UInt64 := 6103021453049119613
open Jvm.FP.Core in
theorem own_Sn : val64 (3110860544497550640 : UInt64) ≠ .nan := by decide +kernel
open Jvm.FP.Core in
theorem own_Ln : val64 (6103021453049119613 : UInt64) ≠ .nan := by decide +kernel
open Jvm.FP.Core in
theorem own_Sf : DFin (3110860544497550640 : UInt64) := (fin_bits _).mpr (by decide)
open Jvm.FP.Core in
theorem own_Lf : DFin (6103021453049119613 : UInt64) := (fin_bits _).mpr (by decide)
theorem own_S0 : 0 < own_z 3110860544497550640 := by decide +kernel
theorem own_SL : own_z 3110860544497550640 * 4294967296 < own_z 6103021453049119613 := by decide +kernel
theorem own_Sh : own_z (3110860544497550640 - 4503599627370496) * 2 = own_z 3110860544497550640 := by decide +kernel
theorem own_L2 : own_z (6103021453049119613 + 4503599627370496) = 2 * own_z 6103021453049119613 := by decide +kernel
theorem own_U : own_z 4607182418800017408 = own_u := by decide +kernel
/-- what admits answers -/
def own_adm (x : UInt64) (r : Int32) : Prop := (cmpValue (FP.dcmp x 3110860544497550640) .l < 0 ∧ r = 0) ∨ (¬ cmpValue (FP.dcmp x 3110860544497550640) .l < 0 ∧ (0 : Int32) < cmpValue (FP.dcmp x 6103021453049119613) .g ∧ r = 0) ∨ (¬ cmpValue (FP.dcmp x 3110860544497550640) .l < 0 ∧ ¬ (0 : Int32) < cmpValue (FP.dcmp x 6103021453049119613) .g ∧ r = 1)
open Jvm.FP.Core in
theorem own_low {x : UInt64} (h : val64 x ≠ .nan) (q : own_z x < own_z 3110860544497550640) : own_adm x 0 := Or.inl ⟨by rw [own_ltZ h own_Sn q]; decide, rfl⟩
open Jvm.FP.Core in
theorem own_high {x : UInt64} (h : val64 x ≠ .nan) (q : own_z 6103021453049119613 < own_z x) : own_adm x 0 := Or.inr (Or.inl ⟨own_geZ h own_Sn (by have := own_SL; have := own_S0; omega) _, by rw [own_gtZ h own_Ln q]; decide, rfl⟩)
open Jvm.FP.Core in
theorem own_mid {x : UInt64} (h : val64 x ≠ .nan) (q1 : own_z 3110860544497550640 ≤ own_z x) (q2 : own_z x ≤ own_z 6103021453049119613) : own_adm x 1 := Or.inr (Or.inr ⟨own_geZ h own_Sn q1 _, own_leZ h own_Ln q2 _, rfl⟩)
theorem own_u_S : own_z 3110860544497550640 < own_u ∧ own_u * 4294967296 < own_z 6103021453049119613 := by rw [← own_U]; decide +kernel
/-- n as a double -/
theorem own_c0 (n : Int32) : own_adm (FP.i2d n) (if n < 1 then 0 else 1) := by
  have I := own_In.i2d n
  have z := I.zz
  have ⟨k1, k2⟩ := own_u_S
  have u0 := own_u_pos
  have s0 := own_S0
  have r := rng32 n
  by_cases h : n < 1
  · rw [if_pos h]
    rw [Int32.lt_iff_toInt_lt] at h
    have h' : n.toInt ≤ 0 := by have e : (1 : Int32).toInt = 1 := rfl; omega
    refine own_low I.1.ne_nan ?_
    have := Int.mul_nonneg (show 0 ≤ -n.toInt by omega) (Int.le_of_lt u0)
    rw [Int.neg_mul] at this
    omega
  · rw [if_neg h]
    rw [Int32.lt_iff_toInt_lt] at h
    have h' : 1 ≤ n.toInt := by have e : (1 : Int32).toInt = 1 := rfl; omega
    have b1 := Int.mul_le_mul_of_nonneg_right h' (Int.le_of_lt u0)
    have b2 := Int.mul_le_mul_of_nonneg_right (show n.toInt ≤ 4294967296 by omega) (Int.le_of_lt u0)
    refine own_mid I.1.ne_nan ?_ ?_ <;> omega
open Jvm.FP.Core in
/-- n * c -/
theorem own_mulc (n : Int32) {c : UInt64} (hc : DFin c) : val64 (FP.dmul (FP.i2d n) c) ≠ .nan ∧ ∀ V, FP.Core.fits b64 V → V ≠ .nan → (n.toInt * own_z c ≤ zval b64 V → own_z (FP.dmul (FP.i2d n) c) ≤ zval b64 V) ∧ (zval b64 V ≤ n.toInt * own_z c → zval b64 V ≤ own_z (FP.dmul (FP.i2d n) c)) := by
  have I := own_In.i2d n
  refine ⟨(notNaN_iff _).mp (dmul_out I.1 hc), fun V hV nV => ?_⟩
  obtain ⟨m1, m2⟩ := own_mul_mono I.1 hc V hV nV
  rw [I.zz, Int.mul_right_comm] at m1 m2
  have u0 := Int.le_of_lt own_u_pos
  exact ⟨fun h => m1 (Int.mul_le_mul_of_nonneg_right h u0), fun h => m2 (Int.mul_le_mul_of_nonneg_right h u0)⟩
theorem own_c1 (n : Int32) : own_adm (FP.dmul (FP.i2d n) 3110860544497550640) (if n < 1 then 0 else 1) := by
  obtain ⟨nn, M⟩ := own_mulc n own_Sf
  have s0 := own_S0
  have sl := own_SL
  have r := rng32 n
  by_cases h : n < 1
  · rw [if_pos h]
    rw [Int32.lt_iff_toInt_lt] at h
    have h' : n.toInt ≤ 0 := by have e : (1 : Int32).toInt = 1 := rfl; omega
    refine own_low nn ?_
    have z0 : own_z 0 = 0 := by decide +kernel
    have := (M (FP.Core.val64 0) (FP.Core.val64_fits 0) (by decide +kernel)).1 (by
      show _ ≤ own_z 0
      rw [z0]
      have := Int.mul_nonneg (show 0 ≤ -n.toInt by omega) (Int.le_of_lt s0)
      rw [Int.neg_mul] at this
      omega)
    have this' : own_z (FP.dmul (FP.i2d n) 3110860544497550640) ≤ own_z 0 := this
    omega
  · rw [if_neg h]
    rw [Int32.lt_iff_toInt_lt] at h
    have h' : 1 ≤ n.toInt := by have e : (1 : Int32).toInt = 1 := rfl; omega
    have b1 := Int.mul_le_mul_of_nonneg_right h' (Int.le_of_lt s0)
    have b2 := Int.mul_le_mul_of_nonneg_right (show n.toInt ≤ 4294967296 by omega) (Int.le_of_lt s0)
    refine own_mid nn ?_ ?_
    · exact (M (FP.Core.val64 3110860544497550640) (FP.Core.val64_fits _) own_Sn).2 (by show own_z _ ≤ _; omega)
    · exact (M (FP.Core.val64 6103021453049119613) (FP.Core.val64_fits _) own_Ln).1 (by show _ ≤ own_z _; omega)
theorem own_c4 (n : Int32) : own_adm (FP.dmul (FP.i2d n) 6103021453049119613) (if n = 1 then 1 else 0) := by
  obtain ⟨nn, M⟩ := own_mulc n own_Lf
  have s0 := own_S0
  have sl := own_SL
  have l2 := own_L2
  have r := rng32 n
  have l0 : 0 < own_z 6103021453049119613 := by omega
  by_cases h : n = 1
  · rw [if_pos h]
    have h' : n.toInt = 1 := by rw [h]; rfl
    rw [h', Int.one_mul] at M
    refine own_mid nn ?_ ?_
    · exact (M (FP.Core.val64 3110860544497550640) (FP.Core.val64_fits _) own_Sn).2 (by show own_z _ ≤ _; omega)
    · exact (M (FP.Core.val64 6103021453049119613) (FP.Core.val64_fits _) own_Ln).1 (Int.le_refl _)
  · rw [if_neg h]
    have h' : n.toInt ≠ 1 := fun q => h (Int32.toInt_inj.mp q)
    by_cases h0 : n.toInt ≤ 0
    · refine own_low nn ?_
      have z0 : own_z 0 = 0 := by decide +kernel
      have this' : own_z (FP.dmul (FP.i2d n) 6103021453049119613) ≤ own_z 0 := (M (FP.Core.val64 0) (FP.Core.val64_fits 0) (by decide +kernel)).1 (by
        show _ ≤ own_z 0
        rw [z0]
        have := Int.mul_nonneg (show 0 ≤ -n.toInt by omega) (Int.le_of_lt l0)
        rw [Int.neg_mul] at this
        omega)
      omega
    · refine own_high nn ?_
      have b1 := Int.mul_le_mul_of_nonneg_right (show 2 ≤ n.toInt by omega) (Int.le_of_lt l0)
      have : own_z (6103021453049119613 + 4503599627370496) ≤ own_z (FP.dmul (FP.i2d n) 6103021453049119613) := (M (FP.Core.val64 (6103021453049119613 + 4503599627370496)) (FP.Core.val64_fits _) (by decide +kernel)).2 (by show own_z _ ≤ _; omega)
      omega
open Jvm.FP.Core in
/-- c / d -/
theorem own_divc {c : UInt64} (hc : DFin c) {d : Int64} (h1 : 1 ≤ d.toInt) (h2 : d.toInt ≤ 4294967296) : val64 (FP.ddiv c (FP.l2d d)) ≠ .nan ∧ ∀ V, FP.Core.fits b64 V → V ≠ .nan → (own_z c ≤ zval b64 V * d.toInt → own_z (FP.ddiv c (FP.l2d d)) ≤ zval b64 V) ∧ (zval b64 V * d.toInt ≤ own_z c → zval b64 V ≤ own_z (FP.ddiv c (FP.l2d d))) := by
  have I := own_In.l2d (a := d) (by omega)
  have zb := own_z_nz I (by omega)
  refine ⟨(notNaN_iff _).mp (ddiv_out hc.notNaN I.1 (own_nz zb)), fun V hV nV => ?_⟩
  obtain ⟨m1, m2⟩ := own_div_mono hc I.1 zb V hV nV
  rw [I.zz, ← Int.mul_assoc] at m1 m2
  have u0 := Int.le_of_lt own_u_pos
  exact ⟨fun h => m1 (Int.mul_le_mul_of_nonneg_right h u0), fun h => m2 (Int.mul_le_mul_of_nonneg_right h u0)⟩
theorem own_c2 {d : Int64} (h1 : 2 ≤ d.toInt) (h2 : d.toInt ≤ 4294967296) : own_adm (FP.ddiv 3110860544497550640 (FP.l2d d)) 0 := by
  obtain ⟨nn, M⟩ := own_divc own_Sf (d := d) (by omega) h2
  have s0 := own_S0
  have sh := own_Sh
  have b1 := Int.mul_le_mul_of_nonneg_left h1 (show 0 ≤ own_z (3110860544497550640 - 4503599627370496) by omega)
  have : own_z (FP.ddiv 3110860544497550640 (FP.l2d d)) ≤ own_z (3110860544497550640 - 4503599627370496) := (M (FP.Core.val64 (3110860544497550640 - 4503599627370496)) (FP.Core.val64_fits _) (by decide +kernel)).1 (by show _ ≤ own_z _ * _; omega)
  exact own_low nn (by omega)
theorem own_c3 {d : Int64} (h1 : 1 ≤ d.toInt) (h2 : d.toInt ≤ 4294967296) : FP.Core.val64 (FP.ddiv 6103021453049119613 (FP.l2d d)) ≠ .nan ∧ own_z 3110860544497550640 ≤ own_z (FP.ddiv 6103021453049119613 (FP.l2d d)) ∧ own_adm (FP.ddiv 6103021453049119613 (FP.l2d d)) 1 := by
  obtain ⟨nn, M⟩ := own_divc own_Lf (d := d) h1 h2
  have s0 := own_S0
  have sl := own_SL
  have b1 := Int.mul_le_mul_of_nonneg_left h1 (show 0 ≤ own_z 6103021453049119613 by omega)
  have b2 := Int.mul_le_mul_of_nonneg_left h2 (Int.le_of_lt s0)
  have q1 : own_z 3110860544497550640 ≤ own_z (FP.ddiv 6103021453049119613 (FP.l2d d)) := (M (FP.Core.val64 3110860544497550640) (FP.Core.val64_fits _) own_Sn).2 (by show own_z _ * _ ≤ _; omega)
  have q2 : own_z (FP.ddiv 6103021453049119613 (FP.l2d d)) ≤ own_z 6103021453049119613 := (M (FP.Core.val64 6103021453049119613) (FP.Core.val64_fits _) own_Ln).1 (by show _ ≤ own_z _ * _; omega)
  exact ⟨nn, q1, own_mid nn q1 q2⟩
theorem own_c5 {d : Int64} (h1 : 1 ≤ d.toInt) (h2 : d.toInt ≤ 4294967296) : own_adm (FP.dneg (FP.ddiv 6103021453049119613 (FP.l2d d))) 0 := by
  obtain ⟨nn, q, -⟩ := own_c3 h1 h2
  have s0 := own_S0
  exact own_low (own_neg_ne nn) (by rw [own_neg_z]; omega)
theorem own_c6 : own_adm 7598952565167317594 0 ∧ own_adm (FP.dneg 7598952565167317594) 0 := by
  have h : FP.Core.val64 7598952565167317594 ≠ .nan := by decide +kernel
  have s0 := own_S0
  have sl := own_SL
  have q : own_z 6103021453049119613 < own_z 7598952565167317594 := by decide +kernel
  exact ⟨own_high h q, own_low (own_neg_ne h) (by rw [own_neg_z]; omega)⟩
theorem own_c7 : own_adm 9223372036854775808 0 ∧ own_adm 12334232581352326448 0 := ⟨own_low (by decide +kernel) (by decide +kernel), own_low (by decide +kernel) (by decide +kernel)⟩
theorem own_d (n : Int32) (k : Int64) (hk : 1 ≤ k.toInt ∧ k.toInt ≤ 2) : ((n &&& (2147483647 : Int32)).toInt64 + k).toInt = (n &&& (2147483647 : Int32)).toInt + k.toInt ∧ k.toInt ≤ ((n &&& (2147483647 : Int32)).toInt64 + k).toInt ∧ ((n &&& (2147483647 : Int32)).toInt64 + k).toInt ≤ 4294967296 := by
  have h := c_mask n 2147483647 31 (by decide) (by decide)
  have a := c_ladd (n &&& 2147483647).toInt64 k
  have r := rng64 ((n &&& 2147483647).toInt64 + k)
  rw [c_i2l] at a
  have : n.toInt % ((2 ^ 31 : Nat) : Int) = n.toInt % 2147483648 := rfl
  omega
theorem d1_0 : decode prog_34_method_2_code 0 = .ok (.dload_n 0, 1) := by decide +kernel
theorem d1_1 : decode prog_34_method_2_code 1 = .ok (.ldc2_w 9, 3) := by decide +kernel
theorem d1_4 : decode prog_34_method_2_code 4 = .ok (.dcmp .l, 1) := by decide +kernel
theorem d1_5 : decode prog_34_method_2_code 5 = .ok (.ifCond .lt 15, 3) := by decide +kernel
theorem d1_8 : decode prog_34_method_2_code 8 = .ok (.dload_n 0, 1) := by decide +kernel
theorem d1_9 : decode prog_34_method_2_code 9 = .ok (.ldc2_w 11, 3) := by decide +kernel
theorem d1_12 : decode prog_34_method_2_code 12 = .ok (.dcmp .g, 1) := by decide +kernel
theorem d1_13 : decode prog_34_method_2_code 13 = .ok (.ifCond .gt 7, 3) := by decide +kernel
theorem d1_16 : decode prog_34_method_2_code 16 = .ok (.iconst 1, 1) := by decide +kernel
theorem d1_17 : decode prog_34_method_2_code 17 = .ok (.goto 4, 3) := by decide +kernel
theorem d1_20 : decode prog_34_method_2_code 20 = .ok (.iconst 0, 1) := by decide +kernel
theorem d1_21 : decode prog_34_method_2_code 21 = .ok (.ireturn, 1) := by decide +kernel
theorem pn_1 : plainName "com/example/outpost/outpost/network/Magnitudes" = true := by first | (simp [plainName, overriddenIn]; done) | decide +kernel
theorem pn_law : plainName "com/example/outpost/outpost/network/MagnitudesAdmitsPinLaw" = true := by first | (simp [plainName, overriddenIn]; done) | decide +kernel
theorem pd__D_Z : parseMethodDescriptor "(D)Z" = some ⟨[.double], some .boolean⟩ := by decide +kernel
def Q1 (r : Int32) (h0 : Heap) (n0 : Nat) (v : Option Value) (h : Heap) (L : List Loc) : Prop := v = some (.int r) ∧ Fr n0 L ∧ h = h0
set_option maxRecDepth 65536 in
set_option maxHeartbeats 40000000 in
theorem rm1 (l : Launch) (Z : State) (a0 : Array Value) (hw : ∀ d ∈ tables_1, d.before a0 Z = true) (ws : List Jvm.Cond) (y : UInt64) (r : Int32) (h0 : Heap) (n0 : Nat) (Z0 : n0 ≤ h0.size) (hr : own_adm y r) :
    MetFree l (⟨"com/example/outpost/outpost/network/Magnitudes", "admits", "(D)Z"⟩ : MethodName) (head1 (Jvm.Cond.code (⟨"com/example/outpost/outpost/network/Magnitudes", "admits", "(D)Z"⟩ : MethodName) prog_34_method_2_code 2 (some .boolean) :: ws) ({ frames := 0, cells := 0, slots := 0, locals := 0 } : Room)) (fun a U => a = #[(.double y)] ∧ Z.Warmed39 U.vm ∧ U.heap = h0) (fun _ _ _ _ _ => True) (fun _ U o U' => ∃ v L, o = .returned v ∧ Q1 r h0 n0 v U'.heap L ∧ FrameEnd U o U' L ({ frames := 0, cells := 0, slots := 0, locals := 0 } : Room).cells ({ frames := 0, cells := 0, slots := 0, locals := 0 } : Room).slots) := by
  refine MetFree.of_bodySF (plainFor_of_name pn_1) hisR ?_
  intro p e s m args below meth c s₁ Bd hml0 hP hK
  obtain ⟨rfl, hZ, hh⟩ := hP
  have hx := Bd.exec
  have hby := Bd.bytes
  have hml : c.maxLocals = 2 := hml0
  have hown : s.vm.findClass "com/example/outpost/outpost/network/Magnitudes" = some m.cls := findClass_of_methodNamed Bd.named
  have hnm := (name_of_methodNamed Bd.named Bd.method).1
  have X0 : Stand p l e ({ frames := 0, cells := 0, slots := 0, locals := 0 } : Room) s m #[(.double y)] below meth c s₁ [] 0 0 := Stand.of_body Bd
  have e0 : s₁.heap = h0 := by rw [← hh, Bd.state]; rfl
  have N0 := Fr.nil n0
  have c0 : Steps p.tables e below (s₁.setTop (entryFrame m #[(.double y)] 2)) (s₁.setTop (mkF m 0 #[.val (.double y), .second] [])) := XT.entry rfl
  have cc1 : Steps p.tables e below (s₁.setTop (entryFrame m #[(.double y)] 2)) (s₁.setTop (mkF m 5 #[.val (.double y), .second] [(.int (cmpValue (FP.dcmp y (3110860544497550640 : UInt64)) .l))])) := c0.trans (by
    refine XS.dloadN X0.here hx rfl (hb hby d1_0) rfl ?_
    refine Stand.ldc2DoubleC X0 hx hown (b := (3110860544497550640 : UInt64)) (mvT hZ (hw _ (List.mem_of_getElem? (i := 6) rfl))) (g := (mkF m 1 #[.val (.double y), .second] [(.double y)])) rfl (hb hby d1_1) _ ?_
    refine XS.dcmpS X0.here hx rfl (hb hby d1_4) rfl rfl ?_
    exact Steps.refl _)
  rcases hr with ⟨h1, rfl⟩ | ⟨h1, h2, rfl⟩ | ⟨h1, h2, rfl⟩
  ·
    have cc2 : Steps p.tables e below (s₁.setTop (entryFrame m #[(.double y)] 2)) (s₁.setTop (mkF m 21 #[.val (.double y), .second] [(.int (0 : Int32))])) := cc1.trans (by
      refine XS.ifYes X0.here hx rfl (pc0 := 5) (pc' := 20) rfl (hb hby d1_5) rfl (XT.i0_lt_t h1) (by decide) (by decide) ?_
      refine XT.iconstV X0.here hx rfl ((0 : Int32)) (hb hby d1_20) (by decide) ?_
      exact Steps.refl _)
    obtain ⟨fs, hr, hrun, hended, hW, hsame⟩ := X0.leave (v := some (.int (0 : Int32))) (fun h => by rw [Bd.returns] at h; cases h)
    refine ⟨_, _, cc2.trans ?_, hrun, hended, _, _, rfl, ?_, ⟨_, rfl⟩, hW, hsame.mono (by decide) (by decide)⟩
    · exact retN X0 hx (t := .boolean) Bd.returns (by simp) (hb hby d1_21) hr
    · show Q1 0 h0 n0 _ s₁.heap _
      rw [e0]
      exact ⟨rfl, N0, rfl⟩
  ·
    have cc2 : Steps p.tables e below (s₁.setTop (entryFrame m #[(.double y)] 2)) (s₁.setTop (mkF m 21 #[.val (.double y), .second] [(.int (0 : Int32))])) := cc1.trans (by
      refine XS.ifNo X0.here hx rfl (hb hby d1_5) rfl (XT.i0_lt_f h1) ?_
      refine XS.dloadN X0.here hx rfl (hb hby d1_8) rfl ?_
      refine Stand.ldc2DoubleC X0 hx hown (b := (6103021453049119613 : UInt64)) (mvT hZ (hw _ (List.mem_of_getElem? (i := 7) rfl))) (g := (mkF m 9 #[.val (.double y), .second] [(.double y)])) rfl (hb hby d1_9) _ ?_
      refine XS.dcmpS X0.here hx rfl (hb hby d1_12) rfl rfl ?_
      refine XS.ifYes X0.here hx rfl (pc0 := 13) (pc' := 20) rfl (hb hby d1_13) rfl (XT.i0_gt_t h2) (by decide) (by decide) ?_
      refine XT.iconstV X0.here hx rfl ((0 : Int32)) (hb hby d1_20) (by decide) ?_
      exact Steps.refl _)
    obtain ⟨fs, hr, hrun, hended, hW, hsame⟩ := X0.leave (v := some (.int (0 : Int32))) (fun h => by rw [Bd.returns] at h; cases h)
    refine ⟨_, _, cc2.trans ?_, hrun, hended, _, _, rfl, ?_, ⟨_, rfl⟩, hW, hsame.mono (by decide) (by decide)⟩
    · exact retN X0 hx (t := .boolean) Bd.returns (by simp) (hb hby d1_21) hr
    · show Q1 0 h0 n0 _ s₁.heap _
      rw [e0]
      exact ⟨rfl, N0, rfl⟩
  ·
    have cc2 : Steps p.tables e below (s₁.setTop (entryFrame m #[(.double y)] 2)) (s₁.setTop (mkF m 21 #[.val (.double y), .second] [(.int (1 : Int32))])) := cc1.trans (by
      refine XS.ifNo X0.here hx rfl (hb hby d1_5) rfl (XT.i0_lt_f h1) ?_
      refine XS.dloadN X0.here hx rfl (hb hby d1_8) rfl ?_
      refine Stand.ldc2DoubleC X0 hx hown (b := (6103021453049119613 : UInt64)) (mvT hZ (hw _ (List.mem_of_getElem? (i := 7) rfl))) (g := (mkF m 9 #[.val (.double y), .second] [(.double y)])) rfl (hb hby d1_9) _ ?_
      refine XS.dcmpS X0.here hx rfl (hb hby d1_12) rfl rfl ?_
      refine XS.ifNo X0.here hx rfl (hb hby d1_13) rfl (XT.i0_gt_f h2) ?_
      refine XT.iconstV X0.here hx rfl ((1 : Int32)) (hb hby d1_16) (by decide) ?_
      refine XS.goto X0.here hx rfl (pc0 := 17) (pc' := 21) rfl (hb hby d1_17) (by decide) (by decide) ?_
      exact Steps.refl _)
    obtain ⟨fs, hr, hrun, hended, hW, hsame⟩ := X0.leave (v := some (.int (1 : Int32))) (fun h => by rw [Bd.returns] at h; cases h)
    refine ⟨_, _, cc2.trans ?_, hrun, hended, _, _, rfl, ?_, ⟨_, rfl⟩, hW, hsame.mono (by decide) (by decide)⟩
    · exact retN X0 hx (t := .boolean) Bd.returns (by simp) (hb hby d1_21) hr
    · show Q1 1 h0 n0 _ s₁.heap _
      rw [e0]
      exact ⟨rfl, N0, rfl⟩
def Q0 (h0 : Heap) (n0 : Nat) (v : Option Value) (h : Heap) (L : List Loc) : Prop := v = some (.int 1) ∧ Fr n0 L
set_option maxRecDepth 65536 in
set_option maxHeartbeats 40000000 in
theorem rm0 (l : Launch) (Z : State) (a0 : Array Value) (hw : ∀ d ∈ tables_1, d.before a0 Z = true) (ws : List Jvm.Cond) (p1 : Int32) (p2 : Int32) (h0 : Heap) (n0 : Nat) (Z0 : n0 ≤ h0.size)  :
    MetFree l x (head1 (Jvm.Cond.code x code maxLocals ret :: ws) room_1) (fun a U => a = #[(.int p1), (.int p2)] ∧ Z.Warmed39 U.vm ∧ U.heap = h0) (fun _ _ _ _ _ => True) (fun _ U o U' => ∃ v L, o = .returned v ∧ Q0 h0 n0 v U'.heap L ∧ FrameEnd U o U' L room_1.cells room_1.slots) := by
  refine MetFree.of_bodySF (plainFor_of_name pn_law) hisR ?_
  intro p e s m args below meth c s₁ Bd hml0 hP hK
  obtain ⟨rfl, hZ, hh⟩ := hP
  have hx := Bd.exec
  have hby := Bd.bytes
  have hml : c.maxLocals = 12 := hml0
  have hown : s.vm.findClass "com/example/outpost/outpost/network/MagnitudesAdmitsPinLaw" = some m.cls := findClass_of_methodNamed Bd.named
  have hnm := (name_of_methodNamed Bd.named Bd.method).1
  have X0 : Stand p l e room_1 s m #[(.int p1), (.int p2)] below meth c s₁ [] 0 0 := Stand.of_body Bd
  have e0 : s₁.heap = h0 := by rw [← hh, Bd.state]; rfl
  have N0 := Fr.nil n0
  have c0 : Steps p.tables e below (s₁.setTop (entryFrame m #[(.int p1), (.int p2)] maxLocals)) (s₁.setTop (mkF m 0 #[.val (.int p1), .val (.int p2), .unset, .unset, .unset, .unset, .unset, .unset, .unset, .unset, .unset, .unset] [])) := XT.entry rfl
  obtain ⟨cc, hcc⟩ : ∃ z, z = (p1 &&& (7 : Int32)) := ⟨_, rfl⟩
  have cc1 : Steps p.tables e below (s₁.setTop (entryFrame m #[(.int p1), (.int p2)] maxLocals)) (s₁.setTop (mkF m 25 #[.val (.int p1), .val (.int p2), .val (.int cc), .val (.long (((p2 &&& (2147483647 : Int32)).toInt64) + (1 : Int64))), .second, .val (.long (((p2 &&& (2147483647 : Int32)).toInt64) + (2 : Int64))), .second, .unset, .unset, .unset, .unset, .unset] [(.int cc)])) := c0.trans (by
    refine XS.iloadN X0.here hx rfl (hb hby at_0) rfl ?_
    refine XT.bipushV X0.here hx rfl ((7 : Int32)) (hb hby at_1) (by decide) ?_
    refine XS.iand X0.here hx rfl (hb hby at_3) rfl ?_
    show Steps p.tables e below (s₁.setTop (mkF m 4 #[.val (.int p1), .val (.int p2), .unset, .unset, .unset, .unset, .unset, .unset, .unset, .unset, .unset, .unset] [(.int (p1 &&& (7 : Int32)))])) _
    rw [← hcc]
    refine XS.istoreN X0.here hx rfl (hb hby at_4) rfl (l' := #[.val (.int p1), .val (.int p2), .val (.int cc), .unset, .unset, .unset, .unset, .unset, .unset, .unset, .unset, .unset]) rfl ?_
    refine XS.iloadN X0.here hx rfl (hb hby at_5) rfl ?_
    refine Stand.ldcI X0 hx hown (v := (2147483647 : Int32)) (mvT hZ (hw _ (List.mem_of_getElem? (i := 0) rfl))) rfl (hb hby at_6) ?_
    refine XS.iand X0.here hx rfl (hb hby at_8) rfl ?_
    refine XT.i2l X0.here hx rfl (hb hby at_9) rfl ?_
    refine XT.lconstV X0.here hx rfl ((1 : Int64)) (hb hby at_10) (by decide) ?_
    refine XT.ladd X0.here hx rfl (hb hby at_11) rfl ?_
    refine XT.lstoreN X0.here hx rfl (hb hby at_12) rfl (l' := #[.val (.int p1), .val (.int p2), .val (.int cc), .val (.long (((p2 &&& (2147483647 : Int32)).toInt64) + (1 : Int64))), .second, .unset, .unset, .unset, .unset, .unset, .unset, .unset]) rfl ?_
    refine XS.iloadN X0.here hx rfl (hb hby at_13) rfl ?_
    refine Stand.ldcI X0 hx hown (v := (2147483647 : Int32)) (mvT hZ (hw _ (List.mem_of_getElem? (i := 0) rfl))) rfl (hb hby at_14) ?_
    refine XS.iand X0.here hx rfl (hb hby at_16) rfl ?_
    refine XT.i2l X0.here hx rfl (hb hby at_17) rfl ?_
    refine Stand.ldc2J X0 hx hown (v := (2 : Int64)) (mvT hZ (hw _ (List.mem_of_getElem? (i := 1) rfl))) rfl (hb hby at_18) ?_
    refine XT.ladd X0.here hx rfl (hb hby at_21) rfl ?_
    refine XT.lstore X0.here hx rfl (hb hby at_22) rfl (l' := #[.val (.int p1), .val (.int p2), .val (.int cc), .val (.long (((p2 &&& (2147483647 : Int32)).toInt64) + (1 : Int64))), .second, .val (.long (((p2 &&& (2147483647 : Int32)).toInt64) + (2 : Int64))), .second, .unset, .unset, .unset, .unset, .unset]) rfl ?_
    refine XS.iloadN X0.here hx rfl (hb hby at_24) rfl ?_
    exact Steps.refl _)
  have d1 := own_d p2 1 (by decide)
  have d2 := own_d p2 2 (by decide)
  have e12 : (1 : Int64).toInt = 1 ∧ (2 : Int64).toInt = 2 := ⟨rfl, rfl⟩
  by_cases k0 : cc = (0 : Int32)
  ·
    have cc2 : Steps p.tables e below (s₁.setTop (entryFrame m #[(.int p1), (.int p2)] maxLocals)) (s₁.setTop (mkF m 34 #[.val (.int p1), .val (.int p2), .val (.int cc), .val (.long (((p2 &&& (2147483647 : Int32)).toInt64) + (1 : Int64))), .second, .val (.long (((p2 &&& (2147483647 : Int32)).toInt64) + (2 : Int64))), .second, .val (.double (FP.i2d p2)), .second, .unset, .unset, .unset] [(.int (1 : Int32)), (.int p2)])) := cc1.trans (by
      refine XS.ifNo X0.here hx rfl (hb hby at_25) rfl (XT.i0_ne_f k0) ?_
      refine XS.iloadN X0.here hx rfl (hb hby at_28) rfl ?_
      refine XS.i2dS X0.here hx rfl (hb hby at_29) rfl rfl ?_
      refine XS.dstore X0.here hx rfl (hb hby at_30) rfl (l' := #[.val (.int p1), .val (.int p2), .val (.int cc), .val (.long (((p2 &&& (2147483647 : Int32)).toInt64) + (1 : Int64))), .second, .val (.long (((p2 &&& (2147483647 : Int32)).toInt64) + (2 : Int64))), .second, .val (.double (FP.i2d p2)), .second, .unset, .unset, .unset]) rfl ?_
      refine XS.iloadN X0.here hx rfl (hb hby at_32) rfl ?_
      refine XT.iconstV X0.here hx rfl ((1 : Int32)) (hb hby at_33) (by decide) ?_
      exact Steps.refl _)
    by_cases hn : p2 < (1 : Int32)
    ·
      obtain ⟨_, _, ⟨T1, L1, k1, n1⟩, -, X1, ⟨Lc1, hQ1, l1, y1, z1⟩, st1⟩ := Jvm.LawKit.callS X0 hx (y := (⟨"com/example/outpost/outpost/network/Magnitudes", "admits", "(D)Z"⟩ : MethodName)) hown (mvT hZ (hw _ (List.mem_of_getElem? (i := 2) rfl))) (mvT hZ (hw _ (List.mem_of_getElem? (i := 3) rfl))) (mvT hZ (hw _ (List.mem_of_getElem? (i := 4) rfl))) (mvT hZ (hw _ (List.mem_of_getElem? (i := 5) rfl))) (by decide) (backOf (W := 0) (rm1 l Z a0 hw [] (FP.i2d p2) 0 h0 n0 Z0 ((by have q := own_c0 p2; rw [if_pos hn] at q; exact q))) hZ (hw _ (List.mem_of_getElem? (i := 5) rfl)) (hw _ (List.mem_of_getElem? (i := 4) rfl)) (by decide) (by decide)) (g := (mkF m 217 #[.val (.int p1), .val (.int p2), .val (.int cc), .val (.long (((p2 &&& (2147483647 : Int32)).toInt64) + (1 : Int64))), .second, .val (.long (((p2 &&& (2147483647 : Int32)).toInt64) + (2 : Int64))), .second, .val (.double (FP.i2d p2)), .second, .val (.int (0 : Int32)), .unset, .unset] [(.double (FP.i2d p2))])) rfl (by rw [hml]; rfl) (argsL := [(.double (FP.i2d p2))]) (rest := []) (lenOf pd__D_Z rfl) rfl (by show 2 * 0 + _ ≤ _; exact Nat.le_of_eq rfl) (hb hby at_217) (fun _ _ => ⟨rfl, e0, (by decide : 0 + 0 ≤ _), (by decide : 0 + 0 ≤ _)⟩)
      dsimp only [Pt.U, Pt.locs, Pt.cells, Pt.slots] at X1 l1 y1 z1 st1 hQ1
      subst l1 y1 z1
      obtain ⟨rfl, N1, e1⟩ := hQ1
      have NN1 := Fr.app N0 N1
      have cc3 : Steps p.tables e below (s₁.setTop (entryFrame m #[(.int p1), (.int p2)] maxLocals)) (T1.setTop (mkF m 230 #[.val (.int p1), .val (.int p2), .val (.int cc), .val (.long (((p2 &&& (2147483647 : Int32)).toInt64) + (1 : Int64))), .second, .val (.long (((p2 &&& (2147483647 : Int32)).toInt64) + (2 : Int64))), .second, .val (.double (FP.i2d p2)), .second, .val (.int (0 : Int32)), .unset, .unset] [(.int (1 : Int32))])) := cc2.trans (by
        refine XS.icmpYes X0.here hx rfl (pc0 := 34) (pc' := 41) rfl (hb hby at_34) rfl (XT.ii_lt_t hn) (by decide) (by decide) ?_
        refine XT.iconstV X0.here hx rfl ((0 : Int32)) (hb hby at_41) (by decide) ?_
        refine XS.istore X0.here hx rfl (hb hby at_42) rfl (l' := #[.val (.int p1), .val (.int p2), .val (.int cc), .val (.long (((p2 &&& (2147483647 : Int32)).toInt64) + (1 : Int64))), .second, .val (.long (((p2 &&& (2147483647 : Int32)).toInt64) + (2 : Int64))), .second, .val (.double (FP.i2d p2)), .second, .val (.int (0 : Int32)), .unset, .unset]) rfl ?_
        refine XS.goto X0.here hx rfl (pc0 := 44) (pc' := 215) rfl (hb hby at_44) (by decide) (by decide) ?_
        refine XS.dload X0.here hx rfl (hb hby at_215) rfl ?_
        refine st1 _ ?_
        show Steps p.tables e below (T1.setTop (mkF m 220 #[.val (.int p1), .val (.int p2), .val (.int cc), .val (.long (((p2 &&& (2147483647 : Int32)).toInt64) + (1 : Int64))), .second, .val (.long (((p2 &&& (2147483647 : Int32)).toInt64) + (2 : Int64))), .second, .val (.double (FP.i2d p2)), .second, .val (.int (0 : Int32)), .unset, .unset] [(.int (0 : Int32))])) _
        refine XS.iload X1.here hx rfl (hb hby at_220) rfl ?_
        refine XS.icmpNo X1.here hx rfl (hb hby at_222) rfl (XT.ii_ne_f rfl) ?_
        refine XT.iconstV X1.here hx rfl ((1 : Int32)) (hb hby at_225) (by decide) ?_
        refine XS.goto X1.here hx rfl (pc0 := 226) (pc' := 230) rfl (hb hby at_226) (by decide) (by decide) ?_
        exact Steps.refl _)
      obtain ⟨fs, hr, hrun, hended, hW, hsame⟩ := X1.leave (v := some (.int (1 : Int32))) (fun h => by rw [Bd.returns] at h; cases h)
      refine ⟨_, _, cc3.trans ?_, hrun, hended, _, _, rfl, ?_, ⟨_, rfl⟩, hW, hsame.mono (by decide) (by decide)⟩
      · exact retN X1 hx (t := .boolean) Bd.returns (by simp) (hb hby at_230) hr
      · show Q0 h0 n0 _ T1.heap _
        exact ⟨rfl, NN1⟩
    ·
      obtain ⟨_, _, ⟨T2, L2, k2, n2⟩, -, X2, ⟨Lc2, hQ2, l2, y2, z2⟩, st2⟩ := Jvm.LawKit.callS X0 hx (y := (⟨"com/example/outpost/outpost/network/Magnitudes", "admits", "(D)Z"⟩ : MethodName)) hown (mvT hZ (hw _ (List.mem_of_getElem? (i := 2) rfl))) (mvT hZ (hw _ (List.mem_of_getElem? (i := 3) rfl))) (mvT hZ (hw _ (List.mem_of_getElem? (i := 4) rfl))) (mvT hZ (hw _ (List.mem_of_getElem? (i := 5) rfl))) (by decide) (backOf (W := 0) (rm1 l Z a0 hw [] (FP.i2d p2) 1 h0 n0 Z0 ((by have q := own_c0 p2; rw [if_neg hn] at q; exact q))) hZ (hw _ (List.mem_of_getElem? (i := 5) rfl)) (hw _ (List.mem_of_getElem? (i := 4) rfl)) (by decide) (by decide)) (g := (mkF m 217 #[.val (.int p1), .val (.int p2), .val (.int cc), .val (.long (((p2 &&& (2147483647 : Int32)).toInt64) + (1 : Int64))), .second, .val (.long (((p2 &&& (2147483647 : Int32)).toInt64) + (2 : Int64))), .second, .val (.double (FP.i2d p2)), .second, .val (.int (1 : Int32)), .unset, .unset] [(.double (FP.i2d p2))])) rfl (by rw [hml]; rfl) (argsL := [(.double (FP.i2d p2))]) (rest := []) (lenOf pd__D_Z rfl) rfl (by show 2 * 0 + _ ≤ _; exact Nat.le_of_eq rfl) (hb hby at_217) (fun _ _ => ⟨rfl, e0, (by decide : 0 + 0 ≤ _), (by decide : 0 + 0 ≤ _)⟩)
      dsimp only [Pt.U, Pt.locs, Pt.cells, Pt.slots] at X2 l2 y2 z2 st2 hQ2
      subst l2 y2 z2
      obtain ⟨rfl, N2, e2⟩ := hQ2
      have NN2 := Fr.app N0 N2
      have cc3 : Steps p.tables e below (s₁.setTop (entryFrame m #[(.int p1), (.int p2)] maxLocals)) (T2.setTop (mkF m 230 #[.val (.int p1), .val (.int p2), .val (.int cc), .val (.long (((p2 &&& (2147483647 : Int32)).toInt64) + (1 : Int64))), .second, .val (.long (((p2 &&& (2147483647 : Int32)).toInt64) + (2 : Int64))), .second, .val (.double (FP.i2d p2)), .second, .val (.int (1 : Int32)), .unset, .unset] [(.int (1 : Int32))])) := cc2.trans (by
        refine XS.icmpNo X0.here hx rfl (hb hby at_34) rfl (XT.ii_lt_f hn) ?_
        refine XT.iconstV X0.here hx rfl ((1 : Int32)) (hb hby at_37) (by decide) ?_
        refine XS.goto X0.here hx rfl (pc0 := 38) (pc' := 42) rfl (hb hby at_38) (by decide) (by decide) ?_
        refine XS.istore X0.here hx rfl (hb hby at_42) rfl (l' := #[.val (.int p1), .val (.int p2), .val (.int cc), .val (.long (((p2 &&& (2147483647 : Int32)).toInt64) + (1 : Int64))), .second, .val (.long (((p2 &&& (2147483647 : Int32)).toInt64) + (2 : Int64))), .second, .val (.double (FP.i2d p2)), .second, .val (.int (1 : Int32)), .unset, .unset]) rfl ?_
        refine XS.goto X0.here hx rfl (pc0 := 44) (pc' := 215) rfl (hb hby at_44) (by decide) (by decide) ?_
        refine XS.dload X0.here hx rfl (hb hby at_215) rfl ?_
        refine st2 _ ?_
        show Steps p.tables e below (T2.setTop (mkF m 220 #[.val (.int p1), .val (.int p2), .val (.int cc), .val (.long (((p2 &&& (2147483647 : Int32)).toInt64) + (1 : Int64))), .second, .val (.long (((p2 &&& (2147483647 : Int32)).toInt64) + (2 : Int64))), .second, .val (.double (FP.i2d p2)), .second, .val (.int (1 : Int32)), .unset, .unset] [(.int (1 : Int32))])) _
        refine XS.iload X2.here hx rfl (hb hby at_220) rfl ?_
        refine XS.icmpNo X2.here hx rfl (hb hby at_222) rfl (XT.ii_ne_f rfl) ?_
        refine XT.iconstV X2.here hx rfl ((1 : Int32)) (hb hby at_225) (by decide) ?_
        refine XS.goto X2.here hx rfl (pc0 := 226) (pc' := 230) rfl (hb hby at_226) (by decide) (by decide) ?_
        exact Steps.refl _)
      obtain ⟨fs, hr, hrun, hended, hW, hsame⟩ := X2.leave (v := some (.int (1 : Int32))) (fun h => by rw [Bd.returns] at h; cases h)
      refine ⟨_, _, cc3.trans ?_, hrun, hended, _, _, rfl, ?_, ⟨_, rfl⟩, hW, hsame.mono (by decide) (by decide)⟩
      · exact retN X2 hx (t := .boolean) Bd.returns (by simp) (hb hby at_230) hr
      · show Q0 h0 n0 _ T2.heap _
        exact ⟨rfl, NN2⟩
  ·
    have cc2 : Steps p.tables e below (s₁.setTop (entryFrame m #[(.int p1), (.int p2)] maxLocals)) (s₁.setTop (mkF m 49 #[.val (.int p1), .val (.int p2), .val (.int cc), .val (.long (((p2 &&& (2147483647 : Int32)).toInt64) + (1 : Int64))), .second, .val (.long (((p2 &&& (2147483647 : Int32)).toInt64) + (2 : Int64))), .second, .unset, .unset, .unset, .unset, .unset] [(.int (1 : Int32)), (.int cc)])) := cc1.trans (by
      refine XS.ifYes X0.here hx rfl (pc0 := 25) (pc' := 47) rfl (hb hby at_25) rfl (XT.i0_ne_t k0) (by decide) (by decide) ?_
      refine XS.iloadN X0.here hx rfl (hb hby at_47) rfl ?_
      refine XT.iconstV X0.here hx rfl ((1 : Int32)) (hb hby at_48) (by decide) ?_
      exact Steps.refl _)
    by_cases k1 : cc = (1 : Int32)
    ·
      have cc3 : Steps p.tables e below (s₁.setTop (entryFrame m #[(.int p1), (.int p2)] maxLocals)) (s₁.setTop (mkF m 62 #[.val (.int p1), .val (.int p2), .val (.int cc), .val (.long (((p2 &&& (2147483647 : Int32)).toInt64) + (1 : Int64))), .second, .val (.long (((p2 &&& (2147483647 : Int32)).toInt64) + (2 : Int64))), .second, .val (.double (FP.dmul (FP.i2d p2) (3110860544497550640 : UInt64))), .second, .unset, .unset, .unset] [(.int (1 : Int32)), (.int p2)])) := cc2.trans (by
        refine XS.icmpNo X0.here hx rfl (hb hby at_49) rfl (XT.ii_ne_f k1) ?_
        refine XS.iloadN X0.here hx rfl (hb hby at_52) rfl ?_
        refine XS.i2dS X0.here hx rfl (hb hby at_53) rfl rfl ?_
        refine Stand.ldc2DoubleC X0 hx hown (b := (3110860544497550640 : UInt64)) (mvT hZ (hw _ (List.mem_of_getElem? (i := 12) rfl))) (g := (mkF m 54 #[.val (.int p1), .val (.int p2), .val (.int cc), .val (.long (((p2 &&& (2147483647 : Int32)).toInt64) + (1 : Int64))), .second, .val (.long (((p2 &&& (2147483647 : Int32)).toInt64) + (2 : Int64))), .second, .unset, .unset, .unset, .unset, .unset] [(.double (FP.i2d p2))])) rfl (hb hby at_54) _ ?_
        refine XS.dmulS X0.here hx rfl (hb hby at_57) rfl (Fl.val64_no.mpr (own_mulc p2 own_Sf).1) rfl ?_
        refine XS.dstore X0.here hx rfl (hb hby at_58) rfl (l' := #[.val (.int p1), .val (.int p2), .val (.int cc), .val (.long (((p2 &&& (2147483647 : Int32)).toInt64) + (1 : Int64))), .second, .val (.long (((p2 &&& (2147483647 : Int32)).toInt64) + (2 : Int64))), .second, .val (.double (FP.dmul (FP.i2d p2) (3110860544497550640 : UInt64))), .second, .unset, .unset, .unset]) rfl ?_
        refine XS.iloadN X0.here hx rfl (hb hby at_60) rfl ?_
        refine XT.iconstV X0.here hx rfl ((1 : Int32)) (hb hby at_61) (by decide) ?_
        exact Steps.refl _)
      by_cases hn : p2 < (1 : Int32)
      ·
        obtain ⟨_, _, ⟨T3, L3, k3, n3⟩, -, X3, ⟨Lc3, hQ3, l3, y3, z3⟩, st3⟩ := Jvm.LawKit.callS X0 hx (y := (⟨"com/example/outpost/outpost/network/Magnitudes", "admits", "(D)Z"⟩ : MethodName)) hown (mvT hZ (hw _ (List.mem_of_getElem? (i := 2) rfl))) (mvT hZ (hw _ (List.mem_of_getElem? (i := 3) rfl))) (mvT hZ (hw _ (List.mem_of_getElem? (i := 4) rfl))) (mvT hZ (hw _ (List.mem_of_getElem? (i := 5) rfl))) (by decide) (backOf (W := 0) (rm1 l Z a0 hw [] (FP.dmul (FP.i2d p2) (3110860544497550640 : UInt64)) 0 h0 n0 Z0 ((by have q := own_c1 p2; rw [if_pos hn] at q; exact q))) hZ (hw _ (List.mem_of_getElem? (i := 5) rfl)) (hw _ (List.mem_of_getElem? (i := 4) rfl)) (by decide) (by decide)) (g := (mkF m 217 #[.val (.int p1), .val (.int p2), .val (.int cc), .val (.long (((p2 &&& (2147483647 : Int32)).toInt64) + (1 : Int64))), .second, .val (.long (((p2 &&& (2147483647 : Int32)).toInt64) + (2 : Int64))), .second, .val (.double (FP.dmul (FP.i2d p2) (3110860544497550640 : UInt64))), .second, .val (.int (0 : Int32)), .unset, .unset] [(.double (FP.dmul (FP.i2d p2) (3110860544497550640 : UInt64)))])) rfl (by rw [hml]; rfl) (argsL := [(.double (FP.dmul (FP.i2d p2) (3110860544497550640 : UInt64)))]) (rest := []) (lenOf pd__D_Z rfl) rfl (by show 2 * 0 + _ ≤ _; exact Nat.le_of_eq rfl) (hb hby at_217) (fun _ _ => ⟨rfl, e0, (by decide : 0 + 0 ≤ _), (by decide : 0 + 0 ≤ _)⟩)
        dsimp only [Pt.U, Pt.locs, Pt.cells, Pt.slots] at X3 l3 y3 z3 st3 hQ3
        subst l3 y3 z3
        obtain ⟨rfl, N3, e3⟩ := hQ3
        have NN3 := Fr.app N0 N3
        have cc4 : Steps p.tables e below (s₁.setTop (entryFrame m #[(.int p1), (.int p2)] maxLocals)) (T3.setTop (mkF m 230 #[.val (.int p1), .val (.int p2), .val (.int cc), .val (.long (((p2 &&& (2147483647 : Int32)).toInt64) + (1 : Int64))), .second, .val (.long (((p2 &&& (2147483647 : Int32)).toInt64) + (2 : Int64))), .second, .val (.double (FP.dmul (FP.i2d p2) (3110860544497550640 : UInt64))), .second, .val (.int (0 : Int32)), .unset, .unset] [(.int (1 : Int32))])) := cc3.trans (by
          refine XS.icmpYes X0.here hx rfl (pc0 := 62) (pc' := 69) rfl (hb hby at_62) rfl (XT.ii_lt_t hn) (by decide) (by decide) ?_
          refine XT.iconstV X0.here hx rfl ((0 : Int32)) (hb hby at_69) (by decide) ?_
          refine XS.istore X0.here hx rfl (hb hby at_70) rfl (l' := #[.val (.int p1), .val (.int p2), .val (.int cc), .val (.long (((p2 &&& (2147483647 : Int32)).toInt64) + (1 : Int64))), .second, .val (.long (((p2 &&& (2147483647 : Int32)).toInt64) + (2 : Int64))), .second, .val (.double (FP.dmul (FP.i2d p2) (3110860544497550640 : UInt64))), .second, .val (.int (0 : Int32)), .unset, .unset]) rfl ?_
          refine XS.goto X0.here hx rfl (pc0 := 72) (pc' := 215) rfl (hb hby at_72) (by decide) (by decide) ?_
          refine XS.dload X0.here hx rfl (hb hby at_215) rfl ?_
          refine st3 _ ?_
          show Steps p.tables e below (T3.setTop (mkF m 220 #[.val (.int p1), .val (.int p2), .val (.int cc), .val (.long (((p2 &&& (2147483647 : Int32)).toInt64) + (1 : Int64))), .second, .val (.long (((p2 &&& (2147483647 : Int32)).toInt64) + (2 : Int64))), .second, .val (.double (FP.dmul (FP.i2d p2) (3110860544497550640 : UInt64))), .second, .val (.int (0 : Int32)), .unset, .unset] [(.int (0 : Int32))])) _
          refine XS.iload X3.here hx rfl (hb hby at_220) rfl ?_
          refine XS.icmpNo X3.here hx rfl (hb hby at_222) rfl (XT.ii_ne_f rfl) ?_
          refine XT.iconstV X3.here hx rfl ((1 : Int32)) (hb hby at_225) (by decide) ?_
          refine XS.goto X3.here hx rfl (pc0 := 226) (pc' := 230) rfl (hb hby at_226) (by decide) (by decide) ?_
          exact Steps.refl _)
        obtain ⟨fs, hr, hrun, hended, hW, hsame⟩ := X3.leave (v := some (.int (1 : Int32))) (fun h => by rw [Bd.returns] at h; cases h)
        refine ⟨_, _, cc4.trans ?_, hrun, hended, _, _, rfl, ?_, ⟨_, rfl⟩, hW, hsame.mono (by decide) (by decide)⟩
        · exact retN X3 hx (t := .boolean) Bd.returns (by simp) (hb hby at_230) hr
        · show Q0 h0 n0 _ T3.heap _
          exact ⟨rfl, NN3⟩
      ·
        obtain ⟨_, _, ⟨T4, L4, k4, n4⟩, -, X4, ⟨Lc4, hQ4, l4, y4, z4⟩, st4⟩ := Jvm.LawKit.callS X0 hx (y := (⟨"com/example/outpost/outpost/network/Magnitudes", "admits", "(D)Z"⟩ : MethodName)) hown (mvT hZ (hw _ (List.mem_of_getElem? (i := 2) rfl))) (mvT hZ (hw _ (List.mem_of_getElem? (i := 3) rfl))) (mvT hZ (hw _ (List.mem_of_getElem? (i := 4) rfl))) (mvT hZ (hw _ (List.mem_of_getElem? (i := 5) rfl))) (by decide) (backOf (W := 0) (rm1 l Z a0 hw [] (FP.dmul (FP.i2d p2) (3110860544497550640 : UInt64)) 1 h0 n0 Z0 ((by have q := own_c1 p2; rw [if_neg hn] at q; exact q))) hZ (hw _ (List.mem_of_getElem? (i := 5) rfl)) (hw _ (List.mem_of_getElem? (i := 4) rfl)) (by decide) (by decide)) (g := (mkF m 217 #[.val (.int p1), .val (.int p2), .val (.int cc), .val (.long (((p2 &&& (2147483647 : Int32)).toInt64) + (1 : Int64))), .second, .val (.long (((p2 &&& (2147483647 : Int32)).toInt64) + (2 : Int64))), .second, .val (.double (FP.dmul (FP.i2d p2) (3110860544497550640 : UInt64))), .second, .val (.int (1 : Int32)), .unset, .unset] [(.double (FP.dmul (FP.i2d p2) (3110860544497550640 : UInt64)))])) rfl (by rw [hml]; rfl) (argsL := [(.double (FP.dmul (FP.i2d p2) (3110860544497550640 : UInt64)))]) (rest := []) (lenOf pd__D_Z rfl) rfl (by show 2 * 0 + _ ≤ _; exact Nat.le_of_eq rfl) (hb hby at_217) (fun _ _ => ⟨rfl, e0, (by decide : 0 + 0 ≤ _), (by decide : 0 + 0 ≤ _)⟩)
        dsimp only [Pt.U, Pt.locs, Pt.cells, Pt.slots] at X4 l4 y4 z4 st4 hQ4
        subst l4 y4 z4
        obtain ⟨rfl, N4, e4⟩ := hQ4
        have NN4 := Fr.app N0 N4
        have cc4 : Steps p.tables e below (s₁.setTop (entryFrame m #[(.int p1), (.int p2)] maxLocals)) (T4.setTop (mkF m 230 #[.val (.int p1), .val (.int p2), .val (.int cc), .val (.long (((p2 &&& (2147483647 : Int32)).toInt64) + (1 : Int64))), .second, .val (.long (((p2 &&& (2147483647 : Int32)).toInt64) + (2 : Int64))), .second, .val (.double (FP.dmul (FP.i2d p2) (3110860544497550640 : UInt64))), .second, .val (.int (1 : Int32)), .unset, .unset] [(.int (1 : Int32))])) := cc3.trans (by
          refine XS.icmpNo X0.here hx rfl (hb hby at_62) rfl (XT.ii_lt_f hn) ?_
          refine XT.iconstV X0.here hx rfl ((1 : Int32)) (hb hby at_65) (by decide) ?_
          refine XS.goto X0.here hx rfl (pc0 := 66) (pc' := 70) rfl (hb hby at_66) (by decide) (by decide) ?_
          refine XS.istore X0.here hx rfl (hb hby at_70) rfl (l' := #[.val (.int p1), .val (.int p2), .val (.int cc), .val (.long (((p2 &&& (2147483647 : Int32)).toInt64) + (1 : Int64))), .second, .val (.long (((p2 &&& (2147483647 : Int32)).toInt64) + (2 : Int64))), .second, .val (.double (FP.dmul (FP.i2d p2) (3110860544497550640 : UInt64))), .second, .val (.int (1 : Int32)), .unset, .unset]) rfl ?_
          refine XS.goto X0.here hx rfl (pc0 := 72) (pc' := 215) rfl (hb hby at_72) (by decide) (by decide) ?_
          refine XS.dload X0.here hx rfl (hb hby at_215) rfl ?_
          refine st4 _ ?_
          show Steps p.tables e below (T4.setTop (mkF m 220 #[.val (.int p1), .val (.int p2), .val (.int cc), .val (.long (((p2 &&& (2147483647 : Int32)).toInt64) + (1 : Int64))), .second, .val (.long (((p2 &&& (2147483647 : Int32)).toInt64) + (2 : Int64))), .second, .val (.double (FP.dmul (FP.i2d p2) (3110860544497550640 : UInt64))), .second, .val (.int (1 : Int32)), .unset, .unset] [(.int (1 : Int32))])) _
          refine XS.iload X4.here hx rfl (hb hby at_220) rfl ?_
          refine XS.icmpNo X4.here hx rfl (hb hby at_222) rfl (XT.ii_ne_f rfl) ?_
          refine XT.iconstV X4.here hx rfl ((1 : Int32)) (hb hby at_225) (by decide) ?_
          refine XS.goto X4.here hx rfl (pc0 := 226) (pc' := 230) rfl (hb hby at_226) (by decide) (by decide) ?_
          exact Steps.refl _)
        obtain ⟨fs, hr, hrun, hended, hW, hsame⟩ := X4.leave (v := some (.int (1 : Int32))) (fun h => by rw [Bd.returns] at h; cases h)
        refine ⟨_, _, cc4.trans ?_, hrun, hended, _, _, rfl, ?_, ⟨_, rfl⟩, hW, hsame.mono (by decide) (by decide)⟩
        · exact retN X4 hx (t := .boolean) Bd.returns (by simp) (hb hby at_230) hr
        · show Q0 h0 n0 _ T4.heap _
          exact ⟨rfl, NN4⟩
    ·
      have cc3 : Steps p.tables e below (s₁.setTop (entryFrame m #[(.int p1), (.int p2)] maxLocals)) (s₁.setTop (mkF m 77 #[.val (.int p1), .val (.int p2), .val (.int cc), .val (.long (((p2 &&& (2147483647 : Int32)).toInt64) + (1 : Int64))), .second, .val (.long (((p2 &&& (2147483647 : Int32)).toInt64) + (2 : Int64))), .second, .unset, .unset, .unset, .unset, .unset] [(.int (2 : Int32)), (.int cc)])) := cc2.trans (by
        refine XS.icmpYes X0.here hx rfl (pc0 := 49) (pc' := 75) rfl (hb hby at_49) rfl (XT.ii_ne_t k1) (by decide) (by decide) ?_
        refine XS.iloadN X0.here hx rfl (hb hby at_75) rfl ?_
        refine XT.iconstV X0.here hx rfl ((2 : Int32)) (hb hby at_76) (by decide) ?_
        exact Steps.refl _)
      by_cases k2 : cc = (2 : Int32)
      ·
        obtain ⟨_, _, ⟨T5, L5, k5, n5⟩, -, X5, ⟨Lc5, hQ5, l5, y5, z5⟩, st5⟩ := Jvm.LawKit.callS X0 hx (y := (⟨"com/example/outpost/outpost/network/Magnitudes", "admits", "(D)Z"⟩ : MethodName)) hown (mvT hZ (hw _ (List.mem_of_getElem? (i := 2) rfl))) (mvT hZ (hw _ (List.mem_of_getElem? (i := 3) rfl))) (mvT hZ (hw _ (List.mem_of_getElem? (i := 4) rfl))) (mvT hZ (hw _ (List.mem_of_getElem? (i := 5) rfl))) (by decide) (backOf (W := 0) (rm1 l Z a0 hw [] (FP.ddiv (3110860544497550640 : UInt64) (FP.l2d (((p2 &&& (2147483647 : Int32)).toInt64) + (2 : Int64)))) 0 h0 n0 Z0 (own_c2 (by omega) (by omega))) hZ (hw _ (List.mem_of_getElem? (i := 5) rfl)) (hw _ (List.mem_of_getElem? (i := 4) rfl)) (by decide) (by decide)) (g := (mkF m 217 #[.val (.int p1), .val (.int p2), .val (.int cc), .val (.long (((p2 &&& (2147483647 : Int32)).toInt64) + (1 : Int64))), .second, .val (.long (((p2 &&& (2147483647 : Int32)).toInt64) + (2 : Int64))), .second, .val (.double (FP.ddiv (3110860544497550640 : UInt64) (FP.l2d (((p2 &&& (2147483647 : Int32)).toInt64) + (2 : Int64))))), .second, .val (.int (0 : Int32)), .unset, .unset] [(.double (FP.ddiv (3110860544497550640 : UInt64) (FP.l2d (((p2 &&& (2147483647 : Int32)).toInt64) + (2 : Int64)))))])) rfl (by rw [hml]; rfl) (argsL := [(.double (FP.ddiv (3110860544497550640 : UInt64) (FP.l2d (((p2 &&& (2147483647 : Int32)).toInt64) + (2 : Int64)))))]) (rest := []) (lenOf pd__D_Z rfl) rfl (by show 2 * 0 + _ ≤ _; exact Nat.le_of_eq rfl) (hb hby at_217) (fun _ _ => ⟨rfl, e0, (by decide : 0 + 0 ≤ _), (by decide : 0 + 0 ≤ _)⟩)
        dsimp only [Pt.U, Pt.locs, Pt.cells, Pt.slots] at X5 l5 y5 z5 st5 hQ5
        subst l5 y5 z5
        obtain ⟨rfl, N5, e5⟩ := hQ5
        have NN5 := Fr.app N0 N5
        have cc4 : Steps p.tables e below (s₁.setTop (entryFrame m #[(.int p1), (.int p2)] maxLocals)) (T5.setTop (mkF m 230 #[.val (.int p1), .val (.int p2), .val (.int cc), .val (.long (((p2 &&& (2147483647 : Int32)).toInt64) + (1 : Int64))), .second, .val (.long (((p2 &&& (2147483647 : Int32)).toInt64) + (2 : Int64))), .second, .val (.double (FP.ddiv (3110860544497550640 : UInt64) (FP.l2d (((p2 &&& (2147483647 : Int32)).toInt64) + (2 : Int64))))), .second, .val (.int (0 : Int32)), .unset, .unset] [(.int (1 : Int32))])) := cc3.trans (by
          refine XS.icmpNo X0.here hx rfl (hb hby at_77) rfl (XT.ii_ne_f k2) ?_
          refine Stand.ldc2DoubleC X0 hx hown (b := (3110860544497550640 : UInt64)) (mvT hZ (hw _ (List.mem_of_getElem? (i := 12) rfl))) (g := (mkF m 80 #[.val (.int p1), .val (.int p2), .val (.int cc), .val (.long (((p2 &&& (2147483647 : Int32)).toInt64) + (1 : Int64))), .second, .val (.long (((p2 &&& (2147483647 : Int32)).toInt64) + (2 : Int64))), .second, .unset, .unset, .unset, .unset, .unset] [])) rfl (hb hby at_80) _ ?_
          refine XT.lload X0.here hx rfl (hb hby at_83) rfl ?_
          refine XS.l2dS X0.here hx rfl (hb hby at_85) rfl rfl ?_
          refine XS.ddivS X0.here hx rfl (hb hby at_86) rfl (Fl.val64_no.mpr (own_divc own_Sf (by omega) (by omega)).1) rfl ?_
          refine XS.dstore X0.here hx rfl (hb hby at_87) rfl (l' := #[.val (.int p1), .val (.int p2), .val (.int cc), .val (.long (((p2 &&& (2147483647 : Int32)).toInt64) + (1 : Int64))), .second, .val (.long (((p2 &&& (2147483647 : Int32)).toInt64) + (2 : Int64))), .second, .val (.double (FP.ddiv (3110860544497550640 : UInt64) (FP.l2d (((p2 &&& (2147483647 : Int32)).toInt64) + (2 : Int64))))), .second, .unset, .unset, .unset]) rfl ?_
          refine XT.iconstV X0.here hx rfl ((0 : Int32)) (hb hby at_89) (by decide) ?_
          refine XS.istore X0.here hx rfl (hb hby at_90) rfl (l' := #[.val (.int p1), .val (.int p2), .val (.int cc), .val (.long (((p2 &&& (2147483647 : Int32)).toInt64) + (1 : Int64))), .second, .val (.long (((p2 &&& (2147483647 : Int32)).toInt64) + (2 : Int64))), .second, .val (.double (FP.ddiv (3110860544497550640 : UInt64) (FP.l2d (((p2 &&& (2147483647 : Int32)).toInt64) + (2 : Int64))))), .second, .val (.int (0 : Int32)), .unset, .unset]) rfl ?_
          refine XS.goto X0.here hx rfl (pc0 := 92) (pc' := 215) rfl (hb hby at_92) (by decide) (by decide) ?_
          refine XS.dload X0.here hx rfl (hb hby at_215) rfl ?_
          refine st5 _ ?_
          show Steps p.tables e below (T5.setTop (mkF m 220 #[.val (.int p1), .val (.int p2), .val (.int cc), .val (.long (((p2 &&& (2147483647 : Int32)).toInt64) + (1 : Int64))), .second, .val (.long (((p2 &&& (2147483647 : Int32)).toInt64) + (2 : Int64))), .second, .val (.double (FP.ddiv (3110860544497550640 : UInt64) (FP.l2d (((p2 &&& (2147483647 : Int32)).toInt64) + (2 : Int64))))), .second, .val (.int (0 : Int32)), .unset, .unset] [(.int (0 : Int32))])) _
          refine XS.iload X5.here hx rfl (hb hby at_220) rfl ?_
          refine XS.icmpNo X5.here hx rfl (hb hby at_222) rfl (XT.ii_ne_f rfl) ?_
          refine XT.iconstV X5.here hx rfl ((1 : Int32)) (hb hby at_225) (by decide) ?_
          refine XS.goto X5.here hx rfl (pc0 := 226) (pc' := 230) rfl (hb hby at_226) (by decide) (by decide) ?_
          exact Steps.refl _)
        obtain ⟨fs, hr, hrun, hended, hW, hsame⟩ := X5.leave (v := some (.int (1 : Int32))) (fun h => by rw [Bd.returns] at h; cases h)
        refine ⟨_, _, cc4.trans ?_, hrun, hended, _, _, rfl, ?_, ⟨_, rfl⟩, hW, hsame.mono (by decide) (by decide)⟩
        · exact retN X5 hx (t := .boolean) Bd.returns (by simp) (hb hby at_230) hr
        · show Q0 h0 n0 _ T5.heap _
          exact ⟨rfl, NN5⟩
      ·
        have cc4 : Steps p.tables e below (s₁.setTop (entryFrame m #[(.int p1), (.int p2)] maxLocals)) (s₁.setTop (mkF m 97 #[.val (.int p1), .val (.int p2), .val (.int cc), .val (.long (((p2 &&& (2147483647 : Int32)).toInt64) + (1 : Int64))), .second, .val (.long (((p2 &&& (2147483647 : Int32)).toInt64) + (2 : Int64))), .second, .unset, .unset, .unset, .unset, .unset] [(.int (3 : Int32)), (.int cc)])) := cc3.trans (by
          refine XS.icmpYes X0.here hx rfl (pc0 := 77) (pc' := 95) rfl (hb hby at_77) rfl (XT.ii_ne_t k2) (by decide) (by decide) ?_
          refine XS.iloadN X0.here hx rfl (hb hby at_95) rfl ?_
          refine XT.iconstV X0.here hx rfl ((3 : Int32)) (hb hby at_96) (by decide) ?_
          exact Steps.refl _)
        by_cases k3 : cc = (3 : Int32)
        ·
          obtain ⟨_, _, ⟨T6, L6, k6, n6⟩, -, X6, ⟨Lc6, hQ6, l6, y6, z6⟩, st6⟩ := Jvm.LawKit.callS X0 hx (y := (⟨"com/example/outpost/outpost/network/Magnitudes", "admits", "(D)Z"⟩ : MethodName)) hown (mvT hZ (hw _ (List.mem_of_getElem? (i := 2) rfl))) (mvT hZ (hw _ (List.mem_of_getElem? (i := 3) rfl))) (mvT hZ (hw _ (List.mem_of_getElem? (i := 4) rfl))) (mvT hZ (hw _ (List.mem_of_getElem? (i := 5) rfl))) (by decide) (backOf (W := 0) (rm1 l Z a0 hw [] (FP.ddiv (6103021453049119613 : UInt64) (FP.l2d (((p2 &&& (2147483647 : Int32)).toInt64) + (1 : Int64)))) 1 h0 n0 Z0 ((own_c3 (by omega) (by omega)).2.2)) hZ (hw _ (List.mem_of_getElem? (i := 5) rfl)) (hw _ (List.mem_of_getElem? (i := 4) rfl)) (by decide) (by decide)) (g := (mkF m 217 #[.val (.int p1), .val (.int p2), .val (.int cc), .val (.long (((p2 &&& (2147483647 : Int32)).toInt64) + (1 : Int64))), .second, .val (.long (((p2 &&& (2147483647 : Int32)).toInt64) + (2 : Int64))), .second, .val (.double (FP.ddiv (6103021453049119613 : UInt64) (FP.l2d (((p2 &&& (2147483647 : Int32)).toInt64) + (1 : Int64))))), .second, .val (.int (1 : Int32)), .unset, .unset] [(.double (FP.ddiv (6103021453049119613 : UInt64) (FP.l2d (((p2 &&& (2147483647 : Int32)).toInt64) + (1 : Int64)))))])) rfl (by rw [hml]; rfl) (argsL := [(.double (FP.ddiv (6103021453049119613 : UInt64) (FP.l2d (((p2 &&& (2147483647 : Int32)).toInt64) + (1 : Int64)))))]) (rest := []) (lenOf pd__D_Z rfl) rfl (by show 2 * 0 + _ ≤ _; exact Nat.le_of_eq rfl) (hb hby at_217) (fun _ _ => ⟨rfl, e0, (by decide : 0 + 0 ≤ _), (by decide : 0 + 0 ≤ _)⟩)
          dsimp only [Pt.U, Pt.locs, Pt.cells, Pt.slots] at X6 l6 y6 z6 st6 hQ6
          subst l6 y6 z6
          obtain ⟨rfl, N6, e6⟩ := hQ6
          have NN6 := Fr.app N0 N6
          have cc5 : Steps p.tables e below (s₁.setTop (entryFrame m #[(.int p1), (.int p2)] maxLocals)) (T6.setTop (mkF m 230 #[.val (.int p1), .val (.int p2), .val (.int cc), .val (.long (((p2 &&& (2147483647 : Int32)).toInt64) + (1 : Int64))), .second, .val (.long (((p2 &&& (2147483647 : Int32)).toInt64) + (2 : Int64))), .second, .val (.double (FP.ddiv (6103021453049119613 : UInt64) (FP.l2d (((p2 &&& (2147483647 : Int32)).toInt64) + (1 : Int64))))), .second, .val (.int (1 : Int32)), .unset, .unset] [(.int (1 : Int32))])) := cc4.trans (by
            refine XS.icmpNo X0.here hx rfl (hb hby at_97) rfl (XT.ii_ne_f k3) ?_
            refine Stand.ldc2DoubleC X0 hx hown (b := (6103021453049119613 : UInt64)) (mvT hZ (hw _ (List.mem_of_getElem? (i := 9) rfl))) (g := (mkF m 100 #[.val (.int p1), .val (.int p2), .val (.int cc), .val (.long (((p2 &&& (2147483647 : Int32)).toInt64) + (1 : Int64))), .second, .val (.long (((p2 &&& (2147483647 : Int32)).toInt64) + (2 : Int64))), .second, .unset, .unset, .unset, .unset, .unset] [])) rfl (hb hby at_100) _ ?_
            refine XT.lloadN X0.here hx rfl (hb hby at_103) rfl ?_
            refine XS.l2dS X0.here hx rfl (hb hby at_104) rfl rfl ?_
            refine XS.ddivS X0.here hx rfl (hb hby at_105) rfl (Fl.val64_no.mpr (own_divc own_Lf (by omega) (by omega)).1) rfl ?_
            refine XS.dstore X0.here hx rfl (hb hby at_106) rfl (l' := #[.val (.int p1), .val (.int p2), .val (.int cc), .val (.long (((p2 &&& (2147483647 : Int32)).toInt64) + (1 : Int64))), .second, .val (.long (((p2 &&& (2147483647 : Int32)).toInt64) + (2 : Int64))), .second, .val (.double (FP.ddiv (6103021453049119613 : UInt64) (FP.l2d (((p2 &&& (2147483647 : Int32)).toInt64) + (1 : Int64))))), .second, .unset, .unset, .unset]) rfl ?_
            refine XT.iconstV X0.here hx rfl ((1 : Int32)) (hb hby at_108) (by decide) ?_
            refine XS.istore X0.here hx rfl (hb hby at_109) rfl (l' := #[.val (.int p1), .val (.int p2), .val (.int cc), .val (.long (((p2 &&& (2147483647 : Int32)).toInt64) + (1 : Int64))), .second, .val (.long (((p2 &&& (2147483647 : Int32)).toInt64) + (2 : Int64))), .second, .val (.double (FP.ddiv (6103021453049119613 : UInt64) (FP.l2d (((p2 &&& (2147483647 : Int32)).toInt64) + (1 : Int64))))), .second, .val (.int (1 : Int32)), .unset, .unset]) rfl ?_
            refine XS.goto X0.here hx rfl (pc0 := 111) (pc' := 215) rfl (hb hby at_111) (by decide) (by decide) ?_
            refine XS.dload X0.here hx rfl (hb hby at_215) rfl ?_
            refine st6 _ ?_
            show Steps p.tables e below (T6.setTop (mkF m 220 #[.val (.int p1), .val (.int p2), .val (.int cc), .val (.long (((p2 &&& (2147483647 : Int32)).toInt64) + (1 : Int64))), .second, .val (.long (((p2 &&& (2147483647 : Int32)).toInt64) + (2 : Int64))), .second, .val (.double (FP.ddiv (6103021453049119613 : UInt64) (FP.l2d (((p2 &&& (2147483647 : Int32)).toInt64) + (1 : Int64))))), .second, .val (.int (1 : Int32)), .unset, .unset] [(.int (1 : Int32))])) _
            refine XS.iload X6.here hx rfl (hb hby at_220) rfl ?_
            refine XS.icmpNo X6.here hx rfl (hb hby at_222) rfl (XT.ii_ne_f rfl) ?_
            refine XT.iconstV X6.here hx rfl ((1 : Int32)) (hb hby at_225) (by decide) ?_
            refine XS.goto X6.here hx rfl (pc0 := 226) (pc' := 230) rfl (hb hby at_226) (by decide) (by decide) ?_
            exact Steps.refl _)
          obtain ⟨fs, hr, hrun, hended, hW, hsame⟩ := X6.leave (v := some (.int (1 : Int32))) (fun h => by rw [Bd.returns] at h; cases h)
          refine ⟨_, _, cc5.trans ?_, hrun, hended, _, _, rfl, ?_, ⟨_, rfl⟩, hW, hsame.mono (by decide) (by decide)⟩
          · exact retN X6 hx (t := .boolean) Bd.returns (by simp) (hb hby at_230) hr
          · show Q0 h0 n0 _ T6.heap _
            exact ⟨rfl, NN6⟩
        ·
          have cc5 : Steps p.tables e below (s₁.setTop (entryFrame m #[(.int p1), (.int p2)] maxLocals)) (s₁.setTop (mkF m 116 #[.val (.int p1), .val (.int p2), .val (.int cc), .val (.long (((p2 &&& (2147483647 : Int32)).toInt64) + (1 : Int64))), .second, .val (.long (((p2 &&& (2147483647 : Int32)).toInt64) + (2 : Int64))), .second, .unset, .unset, .unset, .unset, .unset] [(.int (4 : Int32)), (.int cc)])) := cc4.trans (by
            refine XS.icmpYes X0.here hx rfl (pc0 := 97) (pc' := 114) rfl (hb hby at_97) rfl (XT.ii_ne_t k3) (by decide) (by decide) ?_
            refine XS.iloadN X0.here hx rfl (hb hby at_114) rfl ?_
            refine XT.iconstV X0.here hx rfl ((4 : Int32)) (hb hby at_115) (by decide) ?_
            exact Steps.refl _)
          by_cases k4 : cc = (4 : Int32)
          ·
            have cc6 : Steps p.tables e below (s₁.setTop (entryFrame m #[(.int p1), (.int p2)] maxLocals)) (s₁.setTop (mkF m 129 #[.val (.int p1), .val (.int p2), .val (.int cc), .val (.long (((p2 &&& (2147483647 : Int32)).toInt64) + (1 : Int64))), .second, .val (.long (((p2 &&& (2147483647 : Int32)).toInt64) + (2 : Int64))), .second, .val (.double (FP.dmul (FP.i2d p2) (6103021453049119613 : UInt64))), .second, .unset, .unset, .unset] [(.int (1 : Int32)), (.int p2)])) := cc5.trans (by
              refine XS.icmpNo X0.here hx rfl (hb hby at_116) rfl (XT.ii_ne_f k4) ?_
              refine XS.iloadN X0.here hx rfl (hb hby at_119) rfl ?_
              refine XS.i2dS X0.here hx rfl (hb hby at_120) rfl rfl ?_
              refine Stand.ldc2DoubleC X0 hx hown (b := (6103021453049119613 : UInt64)) (mvT hZ (hw _ (List.mem_of_getElem? (i := 9) rfl))) (g := (mkF m 121 #[.val (.int p1), .val (.int p2), .val (.int cc), .val (.long (((p2 &&& (2147483647 : Int32)).toInt64) + (1 : Int64))), .second, .val (.long (((p2 &&& (2147483647 : Int32)).toInt64) + (2 : Int64))), .second, .unset, .unset, .unset, .unset, .unset] [(.double (FP.i2d p2))])) rfl (hb hby at_121) _ ?_
              refine XS.dmulS X0.here hx rfl (hb hby at_124) rfl (Fl.val64_no.mpr (own_mulc p2 own_Lf).1) rfl ?_
              refine XS.dstore X0.here hx rfl (hb hby at_125) rfl (l' := #[.val (.int p1), .val (.int p2), .val (.int cc), .val (.long (((p2 &&& (2147483647 : Int32)).toInt64) + (1 : Int64))), .second, .val (.long (((p2 &&& (2147483647 : Int32)).toInt64) + (2 : Int64))), .second, .val (.double (FP.dmul (FP.i2d p2) (6103021453049119613 : UInt64))), .second, .unset, .unset, .unset]) rfl ?_
              refine XS.iloadN X0.here hx rfl (hb hby at_127) rfl ?_
              refine XT.iconstV X0.here hx rfl ((1 : Int32)) (hb hby at_128) (by decide) ?_
              exact Steps.refl _)
            by_cases hn : p2 = (1 : Int32)
            ·
              obtain ⟨_, _, ⟨T7, L7, k7, n7⟩, -, X7, ⟨Lc7, hQ7, l7, y7, z7⟩, st7⟩ := Jvm.LawKit.callS X0 hx (y := (⟨"com/example/outpost/outpost/network/Magnitudes", "admits", "(D)Z"⟩ : MethodName)) hown (mvT hZ (hw _ (List.mem_of_getElem? (i := 2) rfl))) (mvT hZ (hw _ (List.mem_of_getElem? (i := 3) rfl))) (mvT hZ (hw _ (List.mem_of_getElem? (i := 4) rfl))) (mvT hZ (hw _ (List.mem_of_getElem? (i := 5) rfl))) (by decide) (backOf (W := 0) (rm1 l Z a0 hw [] (FP.dmul (FP.i2d p2) (6103021453049119613 : UInt64)) 1 h0 n0 Z0 ((by have q := own_c4 p2; rw [if_pos hn] at q; exact q))) hZ (hw _ (List.mem_of_getElem? (i := 5) rfl)) (hw _ (List.mem_of_getElem? (i := 4) rfl)) (by decide) (by decide)) (g := (mkF m 217 #[.val (.int p1), .val (.int p2), .val (.int cc), .val (.long (((p2 &&& (2147483647 : Int32)).toInt64) + (1 : Int64))), .second, .val (.long (((p2 &&& (2147483647 : Int32)).toInt64) + (2 : Int64))), .second, .val (.double (FP.dmul (FP.i2d p2) (6103021453049119613 : UInt64))), .second, .val (.int (1 : Int32)), .unset, .unset] [(.double (FP.dmul (FP.i2d p2) (6103021453049119613 : UInt64)))])) rfl (by rw [hml]; rfl) (argsL := [(.double (FP.dmul (FP.i2d p2) (6103021453049119613 : UInt64)))]) (rest := []) (lenOf pd__D_Z rfl) rfl (by show 2 * 0 + _ ≤ _; exact Nat.le_of_eq rfl) (hb hby at_217) (fun _ _ => ⟨rfl, e0, (by decide : 0 + 0 ≤ _), (by decide : 0 + 0 ≤ _)⟩)
              dsimp only [Pt.U, Pt.locs, Pt.cells, Pt.slots] at X7 l7 y7 z7 st7 hQ7
              subst l7 y7 z7
              obtain ⟨rfl, N7, e7⟩ := hQ7
              have NN7 := Fr.app N0 N7
              have cc7 : Steps p.tables e below (s₁.setTop (entryFrame m #[(.int p1), (.int p2)] maxLocals)) (T7.setTop (mkF m 230 #[.val (.int p1), .val (.int p2), .val (.int cc), .val (.long (((p2 &&& (2147483647 : Int32)).toInt64) + (1 : Int64))), .second, .val (.long (((p2 &&& (2147483647 : Int32)).toInt64) + (2 : Int64))), .second, .val (.double (FP.dmul (FP.i2d p2) (6103021453049119613 : UInt64))), .second, .val (.int (1 : Int32)), .unset, .unset] [(.int (1 : Int32))])) := cc6.trans (by
                refine XS.icmpNo X0.here hx rfl (hb hby at_129) rfl (XT.ii_ne_f hn) ?_
                refine XT.iconstV X0.here hx rfl ((1 : Int32)) (hb hby at_132) (by decide) ?_
                refine XS.goto X0.here hx rfl (pc0 := 133) (pc' := 137) rfl (hb hby at_133) (by decide) (by decide) ?_
                refine XS.istore X0.here hx rfl (hb hby at_137) rfl (l' := #[.val (.int p1), .val (.int p2), .val (.int cc), .val (.long (((p2 &&& (2147483647 : Int32)).toInt64) + (1 : Int64))), .second, .val (.long (((p2 &&& (2147483647 : Int32)).toInt64) + (2 : Int64))), .second, .val (.double (FP.dmul (FP.i2d p2) (6103021453049119613 : UInt64))), .second, .val (.int (1 : Int32)), .unset, .unset]) rfl ?_
                refine XS.goto X0.here hx rfl (pc0 := 139) (pc' := 215) rfl (hb hby at_139) (by decide) (by decide) ?_
                refine XS.dload X0.here hx rfl (hb hby at_215) rfl ?_
                refine st7 _ ?_
                show Steps p.tables e below (T7.setTop (mkF m 220 #[.val (.int p1), .val (.int p2), .val (.int cc), .val (.long (((p2 &&& (2147483647 : Int32)).toInt64) + (1 : Int64))), .second, .val (.long (((p2 &&& (2147483647 : Int32)).toInt64) + (2 : Int64))), .second, .val (.double (FP.dmul (FP.i2d p2) (6103021453049119613 : UInt64))), .second, .val (.int (1 : Int32)), .unset, .unset] [(.int (1 : Int32))])) _
                refine XS.iload X7.here hx rfl (hb hby at_220) rfl ?_
                refine XS.icmpNo X7.here hx rfl (hb hby at_222) rfl (XT.ii_ne_f rfl) ?_
                refine XT.iconstV X7.here hx rfl ((1 : Int32)) (hb hby at_225) (by decide) ?_
                refine XS.goto X7.here hx rfl (pc0 := 226) (pc' := 230) rfl (hb hby at_226) (by decide) (by decide) ?_
                exact Steps.refl _)
              obtain ⟨fs, hr, hrun, hended, hW, hsame⟩ := X7.leave (v := some (.int (1 : Int32))) (fun h => by rw [Bd.returns] at h; cases h)
              refine ⟨_, _, cc7.trans ?_, hrun, hended, _, _, rfl, ?_, ⟨_, rfl⟩, hW, hsame.mono (by decide) (by decide)⟩
              · exact retN X7 hx (t := .boolean) Bd.returns (by simp) (hb hby at_230) hr
              · show Q0 h0 n0 _ T7.heap _
                exact ⟨rfl, NN7⟩
            ·
              obtain ⟨_, _, ⟨T8, L8, k8, n8⟩, -, X8, ⟨Lc8, hQ8, l8, y8, z8⟩, st8⟩ := Jvm.LawKit.callS X0 hx (y := (⟨"com/example/outpost/outpost/network/Magnitudes", "admits", "(D)Z"⟩ : MethodName)) hown (mvT hZ (hw _ (List.mem_of_getElem? (i := 2) rfl))) (mvT hZ (hw _ (List.mem_of_getElem? (i := 3) rfl))) (mvT hZ (hw _ (List.mem_of_getElem? (i := 4) rfl))) (mvT hZ (hw _ (List.mem_of_getElem? (i := 5) rfl))) (by decide) (backOf (W := 0) (rm1 l Z a0 hw [] (FP.dmul (FP.i2d p2) (6103021453049119613 : UInt64)) 0 h0 n0 Z0 ((by have q := own_c4 p2; rw [if_neg hn] at q; exact q))) hZ (hw _ (List.mem_of_getElem? (i := 5) rfl)) (hw _ (List.mem_of_getElem? (i := 4) rfl)) (by decide) (by decide)) (g := (mkF m 217 #[.val (.int p1), .val (.int p2), .val (.int cc), .val (.long (((p2 &&& (2147483647 : Int32)).toInt64) + (1 : Int64))), .second, .val (.long (((p2 &&& (2147483647 : Int32)).toInt64) + (2 : Int64))), .second, .val (.double (FP.dmul (FP.i2d p2) (6103021453049119613 : UInt64))), .second, .val (.int (0 : Int32)), .unset, .unset] [(.double (FP.dmul (FP.i2d p2) (6103021453049119613 : UInt64)))])) rfl (by rw [hml]; rfl) (argsL := [(.double (FP.dmul (FP.i2d p2) (6103021453049119613 : UInt64)))]) (rest := []) (lenOf pd__D_Z rfl) rfl (by show 2 * 0 + _ ≤ _; exact Nat.le_of_eq rfl) (hb hby at_217) (fun _ _ => ⟨rfl, e0, (by decide : 0 + 0 ≤ _), (by decide : 0 + 0 ≤ _)⟩)
              dsimp only [Pt.U, Pt.locs, Pt.cells, Pt.slots] at X8 l8 y8 z8 st8 hQ8
              subst l8 y8 z8
              obtain ⟨rfl, N8, e8⟩ := hQ8
              have NN8 := Fr.app N0 N8
              have cc7 : Steps p.tables e below (s₁.setTop (entryFrame m #[(.int p1), (.int p2)] maxLocals)) (T8.setTop (mkF m 230 #[.val (.int p1), .val (.int p2), .val (.int cc), .val (.long (((p2 &&& (2147483647 : Int32)).toInt64) + (1 : Int64))), .second, .val (.long (((p2 &&& (2147483647 : Int32)).toInt64) + (2 : Int64))), .second, .val (.double (FP.dmul (FP.i2d p2) (6103021453049119613 : UInt64))), .second, .val (.int (0 : Int32)), .unset, .unset] [(.int (1 : Int32))])) := cc6.trans (by
                refine XS.icmpYes X0.here hx rfl (pc0 := 129) (pc' := 136) rfl (hb hby at_129) rfl (XT.ii_ne_t hn) (by decide) (by decide) ?_
                refine XT.iconstV X0.here hx rfl ((0 : Int32)) (hb hby at_136) (by decide) ?_
                refine XS.istore X0.here hx rfl (hb hby at_137) rfl (l' := #[.val (.int p1), .val (.int p2), .val (.int cc), .val (.long (((p2 &&& (2147483647 : Int32)).toInt64) + (1 : Int64))), .second, .val (.long (((p2 &&& (2147483647 : Int32)).toInt64) + (2 : Int64))), .second, .val (.double (FP.dmul (FP.i2d p2) (6103021453049119613 : UInt64))), .second, .val (.int (0 : Int32)), .unset, .unset]) rfl ?_
                refine XS.goto X0.here hx rfl (pc0 := 139) (pc' := 215) rfl (hb hby at_139) (by decide) (by decide) ?_
                refine XS.dload X0.here hx rfl (hb hby at_215) rfl ?_
                refine st8 _ ?_
                show Steps p.tables e below (T8.setTop (mkF m 220 #[.val (.int p1), .val (.int p2), .val (.int cc), .val (.long (((p2 &&& (2147483647 : Int32)).toInt64) + (1 : Int64))), .second, .val (.long (((p2 &&& (2147483647 : Int32)).toInt64) + (2 : Int64))), .second, .val (.double (FP.dmul (FP.i2d p2) (6103021453049119613 : UInt64))), .second, .val (.int (0 : Int32)), .unset, .unset] [(.int (0 : Int32))])) _
                refine XS.iload X8.here hx rfl (hb hby at_220) rfl ?_
                refine XS.icmpNo X8.here hx rfl (hb hby at_222) rfl (XT.ii_ne_f rfl) ?_
                refine XT.iconstV X8.here hx rfl ((1 : Int32)) (hb hby at_225) (by decide) ?_
                refine XS.goto X8.here hx rfl (pc0 := 226) (pc' := 230) rfl (hb hby at_226) (by decide) (by decide) ?_
                exact Steps.refl _)
              obtain ⟨fs, hr, hrun, hended, hW, hsame⟩ := X8.leave (v := some (.int (1 : Int32))) (fun h => by rw [Bd.returns] at h; cases h)
              refine ⟨_, _, cc7.trans ?_, hrun, hended, _, _, rfl, ?_, ⟨_, rfl⟩, hW, hsame.mono (by decide) (by decide)⟩
              · exact retN X8 hx (t := .boolean) Bd.returns (by simp) (hb hby at_230) hr
              · show Q0 h0 n0 _ T8.heap _
                exact ⟨rfl, NN8⟩
          ·
            have cc6 : Steps p.tables e below (s₁.setTop (entryFrame m #[(.int p1), (.int p2)] maxLocals)) (s₁.setTop (mkF m 144 #[.val (.int p1), .val (.int p2), .val (.int cc), .val (.long (((p2 &&& (2147483647 : Int32)).toInt64) + (1 : Int64))), .second, .val (.long (((p2 &&& (2147483647 : Int32)).toInt64) + (2 : Int64))), .second, .unset, .unset, .unset, .unset, .unset] [(.int (5 : Int32)), (.int cc)])) := cc5.trans (by
              refine XS.icmpYes X0.here hx rfl (pc0 := 116) (pc' := 142) rfl (hb hby at_116) rfl (XT.ii_ne_t k4) (by decide) (by decide) ?_
              refine XS.iloadN X0.here hx rfl (hb hby at_142) rfl ?_
              refine XT.iconstV X0.here hx rfl ((5 : Int32)) (hb hby at_143) (by decide) ?_
              exact Steps.refl _)
            by_cases k5 : cc = (5 : Int32)
            ·
              obtain ⟨_, _, ⟨T9, L9, k9, n9⟩, -, X9, ⟨Lc9, hQ9, l9, y9, z9⟩, st9⟩ := Jvm.LawKit.callS X0 hx (y := (⟨"com/example/outpost/outpost/network/Magnitudes", "admits", "(D)Z"⟩ : MethodName)) hown (mvT hZ (hw _ (List.mem_of_getElem? (i := 2) rfl))) (mvT hZ (hw _ (List.mem_of_getElem? (i := 3) rfl))) (mvT hZ (hw _ (List.mem_of_getElem? (i := 4) rfl))) (mvT hZ (hw _ (List.mem_of_getElem? (i := 5) rfl))) (by decide) (backOf (W := 0) (rm1 l Z a0 hw [] (FP.dneg (FP.ddiv (6103021453049119613 : UInt64) (FP.l2d (((p2 &&& (2147483647 : Int32)).toInt64) + (1 : Int64))))) 0 h0 n0 Z0 (own_c5 (by omega) (by omega))) hZ (hw _ (List.mem_of_getElem? (i := 5) rfl)) (hw _ (List.mem_of_getElem? (i := 4) rfl)) (by decide) (by decide)) (g := (mkF m 217 #[.val (.int p1), .val (.int p2), .val (.int cc), .val (.long (((p2 &&& (2147483647 : Int32)).toInt64) + (1 : Int64))), .second, .val (.long (((p2 &&& (2147483647 : Int32)).toInt64) + (2 : Int64))), .second, .val (.double (FP.dneg (FP.ddiv (6103021453049119613 : UInt64) (FP.l2d (((p2 &&& (2147483647 : Int32)).toInt64) + (1 : Int64)))))), .second, .val (.int (0 : Int32)), .unset, .unset] [(.double (FP.dneg (FP.ddiv (6103021453049119613 : UInt64) (FP.l2d (((p2 &&& (2147483647 : Int32)).toInt64) + (1 : Int64))))))])) rfl (by rw [hml]; rfl) (argsL := [(.double (FP.dneg (FP.ddiv (6103021453049119613 : UInt64) (FP.l2d (((p2 &&& (2147483647 : Int32)).toInt64) + (1 : Int64))))))]) (rest := []) (lenOf pd__D_Z rfl) rfl (by show 2 * 0 + _ ≤ _; exact Nat.le_of_eq rfl) (hb hby at_217) (fun _ _ => ⟨rfl, e0, (by decide : 0 + 0 ≤ _), (by decide : 0 + 0 ≤ _)⟩)
              dsimp only [Pt.U, Pt.locs, Pt.cells, Pt.slots] at X9 l9 y9 z9 st9 hQ9
              subst l9 y9 z9
              obtain ⟨rfl, N9, e9⟩ := hQ9
              have NN9 := Fr.app N0 N9
              have cc7 : Steps p.tables e below (s₁.setTop (entryFrame m #[(.int p1), (.int p2)] maxLocals)) (T9.setTop (mkF m 230 #[.val (.int p1), .val (.int p2), .val (.int cc), .val (.long (((p2 &&& (2147483647 : Int32)).toInt64) + (1 : Int64))), .second, .val (.long (((p2 &&& (2147483647 : Int32)).toInt64) + (2 : Int64))), .second, .val (.double (FP.dneg (FP.ddiv (6103021453049119613 : UInt64) (FP.l2d (((p2 &&& (2147483647 : Int32)).toInt64) + (1 : Int64)))))), .second, .val (.int (0 : Int32)), .unset, .unset] [(.int (1 : Int32))])) := cc6.trans (by
                refine XS.icmpNo X0.here hx rfl (hb hby at_144) rfl (XT.ii_ne_f k5) ?_
                refine Stand.ldc2DoubleC X0 hx hown (b := (6103021453049119613 : UInt64)) (mvT hZ (hw _ (List.mem_of_getElem? (i := 9) rfl))) (g := (mkF m 147 #[.val (.int p1), .val (.int p2), .val (.int cc), .val (.long (((p2 &&& (2147483647 : Int32)).toInt64) + (1 : Int64))), .second, .val (.long (((p2 &&& (2147483647 : Int32)).toInt64) + (2 : Int64))), .second, .unset, .unset, .unset, .unset, .unset] [])) rfl (hb hby at_147) _ ?_
                refine XT.lloadN X0.here hx rfl (hb hby at_150) rfl ?_
                refine XS.l2dS X0.here hx rfl (hb hby at_151) rfl rfl ?_
                refine XS.ddivS X0.here hx rfl (hb hby at_152) rfl (Fl.val64_no.mpr (own_divc own_Lf (by omega) (by omega)).1) rfl ?_
                refine XS.dnegS X0.here hx rfl (hb hby at_153) rfl rfl ?_
                refine XS.dstore X0.here hx rfl (hb hby at_154) rfl (l' := #[.val (.int p1), .val (.int p2), .val (.int cc), .val (.long (((p2 &&& (2147483647 : Int32)).toInt64) + (1 : Int64))), .second, .val (.long (((p2 &&& (2147483647 : Int32)).toInt64) + (2 : Int64))), .second, .val (.double (FP.dneg (FP.ddiv (6103021453049119613 : UInt64) (FP.l2d (((p2 &&& (2147483647 : Int32)).toInt64) + (1 : Int64)))))), .second, .unset, .unset, .unset]) rfl ?_
                refine XT.iconstV X0.here hx rfl ((0 : Int32)) (hb hby at_156) (by decide) ?_
                refine XS.istore X0.here hx rfl (hb hby at_157) rfl (l' := #[.val (.int p1), .val (.int p2), .val (.int cc), .val (.long (((p2 &&& (2147483647 : Int32)).toInt64) + (1 : Int64))), .second, .val (.long (((p2 &&& (2147483647 : Int32)).toInt64) + (2 : Int64))), .second, .val (.double (FP.dneg (FP.ddiv (6103021453049119613 : UInt64) (FP.l2d (((p2 &&& (2147483647 : Int32)).toInt64) + (1 : Int64)))))), .second, .val (.int (0 : Int32)), .unset, .unset]) rfl ?_
                refine XS.goto X0.here hx rfl (pc0 := 159) (pc' := 215) rfl (hb hby at_159) (by decide) (by decide) ?_
                refine XS.dload X0.here hx rfl (hb hby at_215) rfl ?_
                refine st9 _ ?_
                show Steps p.tables e below (T9.setTop (mkF m 220 #[.val (.int p1), .val (.int p2), .val (.int cc), .val (.long (((p2 &&& (2147483647 : Int32)).toInt64) + (1 : Int64))), .second, .val (.long (((p2 &&& (2147483647 : Int32)).toInt64) + (2 : Int64))), .second, .val (.double (FP.dneg (FP.ddiv (6103021453049119613 : UInt64) (FP.l2d (((p2 &&& (2147483647 : Int32)).toInt64) + (1 : Int64)))))), .second, .val (.int (0 : Int32)), .unset, .unset] [(.int (0 : Int32))])) _
                refine XS.iload X9.here hx rfl (hb hby at_220) rfl ?_
                refine XS.icmpNo X9.here hx rfl (hb hby at_222) rfl (XT.ii_ne_f rfl) ?_
                refine XT.iconstV X9.here hx rfl ((1 : Int32)) (hb hby at_225) (by decide) ?_
                refine XS.goto X9.here hx rfl (pc0 := 226) (pc' := 230) rfl (hb hby at_226) (by decide) (by decide) ?_
                exact Steps.refl _)
              obtain ⟨fs, hr, hrun, hended, hW, hsame⟩ := X9.leave (v := some (.int (1 : Int32))) (fun h => by rw [Bd.returns] at h; cases h)
              refine ⟨_, _, cc7.trans ?_, hrun, hended, _, _, rfl, ?_, ⟨_, rfl⟩, hW, hsame.mono (by decide) (by decide)⟩
              · exact retN X9 hx (t := .boolean) Bd.returns (by simp) (hb hby at_230) hr
              · show Q0 h0 n0 _ T9.heap _
                exact ⟨rfl, NN9⟩
            ·
              have cc7 : Steps p.tables e below (s₁.setTop (entryFrame m #[(.int p1), (.int p2)] maxLocals)) (s₁.setTop (mkF m 165 #[.val (.int p1), .val (.int p2), .val (.int cc), .val (.long (((p2 &&& (2147483647 : Int32)).toInt64) + (1 : Int64))), .second, .val (.long (((p2 &&& (2147483647 : Int32)).toInt64) + (2 : Int64))), .second, .unset, .unset, .unset, .unset, .unset] [(.int (6 : Int32)), (.int cc)])) := cc6.trans (by
                refine XS.icmpYes X0.here hx rfl (pc0 := 144) (pc' := 162) rfl (hb hby at_144) rfl (XT.ii_ne_t k5) (by decide) (by decide) ?_
                refine XS.iloadN X0.here hx rfl (hb hby at_162) rfl ?_
                refine XT.bipushV X0.here hx rfl ((6 : Int32)) (hb hby at_163) (by decide) ?_
                exact Steps.refl _)
              by_cases k6 : cc = (6 : Int32)
              ·
                have cc8 : Steps p.tables e below (s₁.setTop (entryFrame m #[(.int p1), (.int p2)] maxLocals)) (s₁.setTop (mkF m 176 #[.val (.int p1), .val (.int p2), .val (.int cc), .val (.long (((p2 &&& (2147483647 : Int32)).toInt64) + (1 : Int64))), .second, .val (.long (((p2 &&& (2147483647 : Int32)).toInt64) + (2 : Int64))), .second, .unset, .unset, .unset, .val (.double (7598952565167317594 : UInt64)), .second] [(.int (p2 &&& (1 : Int32)))])) := cc7.trans (by
                  refine XS.icmpNo X0.here hx rfl (hb hby at_165) rfl (XT.ii_ne_f k6) ?_
                  refine Stand.ldc2DoubleC X0 hx hown (b := (7598952565167317594 : UInt64)) (mvT hZ (hw _ (List.mem_of_getElem? (i := 8) rfl))) (g := (mkF m 168 #[.val (.int p1), .val (.int p2), .val (.int cc), .val (.long (((p2 &&& (2147483647 : Int32)).toInt64) + (1 : Int64))), .second, .val (.long (((p2 &&& (2147483647 : Int32)).toInt64) + (2 : Int64))), .second, .unset, .unset, .unset, .unset, .unset] [])) rfl (hb hby at_168) _ ?_
                  refine XS.dstore X0.here hx rfl (hb hby at_171) rfl (l' := #[.val (.int p1), .val (.int p2), .val (.int cc), .val (.long (((p2 &&& (2147483647 : Int32)).toInt64) + (1 : Int64))), .second, .val (.long (((p2 &&& (2147483647 : Int32)).toInt64) + (2 : Int64))), .second, .unset, .unset, .unset, .val (.double (7598952565167317594 : UInt64)), .second]) rfl ?_
                  refine XS.iloadN X0.here hx rfl (hb hby at_173) rfl ?_
                  refine XT.iconstV X0.here hx rfl ((1 : Int32)) (hb hby at_174) (by decide) ?_
                  refine XS.iand X0.here hx rfl (hb hby at_175) rfl ?_
                  exact Steps.refl _)
                by_cases hn : (p2 &&& (1 : Int32)) = 0
                ·
                  obtain ⟨_, _, ⟨T10, L10, k10, n10⟩, -, X10, ⟨Lc10, hQ10, l10, y10, z10⟩, st10⟩ := Jvm.LawKit.callS X0 hx (y := (⟨"com/example/outpost/outpost/network/Magnitudes", "admits", "(D)Z"⟩ : MethodName)) hown (mvT hZ (hw _ (List.mem_of_getElem? (i := 2) rfl))) (mvT hZ (hw _ (List.mem_of_getElem? (i := 3) rfl))) (mvT hZ (hw _ (List.mem_of_getElem? (i := 4) rfl))) (mvT hZ (hw _ (List.mem_of_getElem? (i := 5) rfl))) (by decide) (backOf (W := 0) (rm1 l Z a0 hw [] (7598952565167317594 : UInt64) 0 h0 n0 Z0 (own_c6.1)) hZ (hw _ (List.mem_of_getElem? (i := 5) rfl)) (hw _ (List.mem_of_getElem? (i := 4) rfl)) (by decide) (by decide)) (g := (mkF m 217 #[.val (.int p1), .val (.int p2), .val (.int cc), .val (.long (((p2 &&& (2147483647 : Int32)).toInt64) + (1 : Int64))), .second, .val (.long (((p2 &&& (2147483647 : Int32)).toInt64) + (2 : Int64))), .second, .val (.double (7598952565167317594 : UInt64)), .second, .val (.int (0 : Int32)), .val (.double (7598952565167317594 : UInt64)), .second] [(.double (7598952565167317594 : UInt64))])) rfl (by rw [hml]; rfl) (argsL := [(.double (7598952565167317594 : UInt64))]) (rest := []) (lenOf pd__D_Z rfl) rfl (by show 2 * 0 + _ ≤ _; exact Nat.le_of_eq rfl) (hb hby at_217) (fun _ _ => ⟨rfl, e0, (by decide : 0 + 0 ≤ _), (by decide : 0 + 0 ≤ _)⟩)
                  dsimp only [Pt.U, Pt.locs, Pt.cells, Pt.slots] at X10 l10 y10 z10 st10 hQ10
                  subst l10 y10 z10
                  obtain ⟨rfl, N10, e10⟩ := hQ10
                  have NN10 := Fr.app N0 N10
                  have cc9 : Steps p.tables e below (s₁.setTop (entryFrame m #[(.int p1), (.int p2)] maxLocals)) (T10.setTop (mkF m 230 #[.val (.int p1), .val (.int p2), .val (.int cc), .val (.long (((p2 &&& (2147483647 : Int32)).toInt64) + (1 : Int64))), .second, .val (.long (((p2 &&& (2147483647 : Int32)).toInt64) + (2 : Int64))), .second, .val (.double (7598952565167317594 : UInt64)), .second, .val (.int (0 : Int32)), .val (.double (7598952565167317594 : UInt64)), .second] [(.int (1 : Int32))])) := cc8.trans (by
                    refine XS.ifNo X0.here hx rfl (hb hby at_176) rfl (XT.i0_ne_f hn) ?_
                    refine XS.dload X0.here hx rfl (hb hby at_179) rfl ?_
                    refine XS.goto X0.here hx rfl (pc0 := 181) (pc' := 187) rfl (hb hby at_181) (by decide) (by decide) ?_
                    refine XS.dstore X0.here hx rfl (hb hby at_187) rfl (l' := #[.val (.int p1), .val (.int p2), .val (.int cc), .val (.long (((p2 &&& (2147483647 : Int32)).toInt64) + (1 : Int64))), .second, .val (.long (((p2 &&& (2147483647 : Int32)).toInt64) + (2 : Int64))), .second, .val (.double (7598952565167317594 : UInt64)), .second, .unset, .val (.double (7598952565167317594 : UInt64)), .second]) rfl ?_
                    refine XT.iconstV X0.here hx rfl ((0 : Int32)) (hb hby at_189) (by decide) ?_
                    refine XS.istore X0.here hx rfl (hb hby at_190) rfl (l' := #[.val (.int p1), .val (.int p2), .val (.int cc), .val (.long (((p2 &&& (2147483647 : Int32)).toInt64) + (1 : Int64))), .second, .val (.long (((p2 &&& (2147483647 : Int32)).toInt64) + (2 : Int64))), .second, .val (.double (7598952565167317594 : UInt64)), .second, .val (.int (0 : Int32)), .val (.double (7598952565167317594 : UInt64)), .second]) rfl ?_
                    refine XS.goto X0.here hx rfl (pc0 := 192) (pc' := 215) rfl (hb hby at_192) (by decide) (by decide) ?_
                    refine XS.dload X0.here hx rfl (hb hby at_215) rfl ?_
                    refine st10 _ ?_
                    show Steps p.tables e below (T10.setTop (mkF m 220 #[.val (.int p1), .val (.int p2), .val (.int cc), .val (.long (((p2 &&& (2147483647 : Int32)).toInt64) + (1 : Int64))), .second, .val (.long (((p2 &&& (2147483647 : Int32)).toInt64) + (2 : Int64))), .second, .val (.double (7598952565167317594 : UInt64)), .second, .val (.int (0 : Int32)), .val (.double (7598952565167317594 : UInt64)), .second] [(.int (0 : Int32))])) _
                    refine XS.iload X10.here hx rfl (hb hby at_220) rfl ?_
                    refine XS.icmpNo X10.here hx rfl (hb hby at_222) rfl (XT.ii_ne_f rfl) ?_
                    refine XT.iconstV X10.here hx rfl ((1 : Int32)) (hb hby at_225) (by decide) ?_
                    refine XS.goto X10.here hx rfl (pc0 := 226) (pc' := 230) rfl (hb hby at_226) (by decide) (by decide) ?_
                    exact Steps.refl _)
                  obtain ⟨fs, hr, hrun, hended, hW, hsame⟩ := X10.leave (v := some (.int (1 : Int32))) (fun h => by rw [Bd.returns] at h; cases h)
                  refine ⟨_, _, cc9.trans ?_, hrun, hended, _, _, rfl, ?_, ⟨_, rfl⟩, hW, hsame.mono (by decide) (by decide)⟩
                  · exact retN X10 hx (t := .boolean) Bd.returns (by simp) (hb hby at_230) hr
                  · show Q0 h0 n0 _ T10.heap _
                    exact ⟨rfl, NN10⟩
                ·
                  obtain ⟨_, _, ⟨T11, L11, k11, n11⟩, -, X11, ⟨Lc11, hQ11, l11, y11, z11⟩, st11⟩ := Jvm.LawKit.callS X0 hx (y := (⟨"com/example/outpost/outpost/network/Magnitudes", "admits", "(D)Z"⟩ : MethodName)) hown (mvT hZ (hw _ (List.mem_of_getElem? (i := 2) rfl))) (mvT hZ (hw _ (List.mem_of_getElem? (i := 3) rfl))) (mvT hZ (hw _ (List.mem_of_getElem? (i := 4) rfl))) (mvT hZ (hw _ (List.mem_of_getElem? (i := 5) rfl))) (by decide) (backOf (W := 0) (rm1 l Z a0 hw [] (FP.dneg (7598952565167317594 : UInt64)) 0 h0 n0 Z0 (own_c6.2)) hZ (hw _ (List.mem_of_getElem? (i := 5) rfl)) (hw _ (List.mem_of_getElem? (i := 4) rfl)) (by decide) (by decide)) (g := (mkF m 217 #[.val (.int p1), .val (.int p2), .val (.int cc), .val (.long (((p2 &&& (2147483647 : Int32)).toInt64) + (1 : Int64))), .second, .val (.long (((p2 &&& (2147483647 : Int32)).toInt64) + (2 : Int64))), .second, .val (.double (FP.dneg (7598952565167317594 : UInt64))), .second, .val (.int (0 : Int32)), .val (.double (7598952565167317594 : UInt64)), .second] [(.double (FP.dneg (7598952565167317594 : UInt64)))])) rfl (by rw [hml]; rfl) (argsL := [(.double (FP.dneg (7598952565167317594 : UInt64)))]) (rest := []) (lenOf pd__D_Z rfl) rfl (by show 2 * 0 + _ ≤ _; exact Nat.le_of_eq rfl) (hb hby at_217) (fun _ _ => ⟨rfl, e0, (by decide : 0 + 0 ≤ _), (by decide : 0 + 0 ≤ _)⟩)
                  dsimp only [Pt.U, Pt.locs, Pt.cells, Pt.slots] at X11 l11 y11 z11 st11 hQ11
                  subst l11 y11 z11
                  obtain ⟨rfl, N11, e11⟩ := hQ11
                  have NN11 := Fr.app N0 N11
                  have cc9 : Steps p.tables e below (s₁.setTop (entryFrame m #[(.int p1), (.int p2)] maxLocals)) (T11.setTop (mkF m 230 #[.val (.int p1), .val (.int p2), .val (.int cc), .val (.long (((p2 &&& (2147483647 : Int32)).toInt64) + (1 : Int64))), .second, .val (.long (((p2 &&& (2147483647 : Int32)).toInt64) + (2 : Int64))), .second, .val (.double (FP.dneg (7598952565167317594 : UInt64))), .second, .val (.int (0 : Int32)), .val (.double (7598952565167317594 : UInt64)), .second] [(.int (1 : Int32))])) := cc8.trans (by
                    refine XS.ifYes X0.here hx rfl (pc0 := 176) (pc' := 184) rfl (hb hby at_176) rfl (XT.i0_ne_t hn) (by decide) (by decide) ?_
                    refine XS.dload X0.here hx rfl (hb hby at_184) rfl ?_
                    refine XS.dnegS X0.here hx rfl (hb hby at_186) rfl rfl ?_
                    refine XS.dstore X0.here hx rfl (hb hby at_187) rfl (l' := #[.val (.int p1), .val (.int p2), .val (.int cc), .val (.long (((p2 &&& (2147483647 : Int32)).toInt64) + (1 : Int64))), .second, .val (.long (((p2 &&& (2147483647 : Int32)).toInt64) + (2 : Int64))), .second, .val (.double (FP.dneg (7598952565167317594 : UInt64))), .second, .unset, .val (.double (7598952565167317594 : UInt64)), .second]) rfl ?_
                    refine XT.iconstV X0.here hx rfl ((0 : Int32)) (hb hby at_189) (by decide) ?_
                    refine XS.istore X0.here hx rfl (hb hby at_190) rfl (l' := #[.val (.int p1), .val (.int p2), .val (.int cc), .val (.long (((p2 &&& (2147483647 : Int32)).toInt64) + (1 : Int64))), .second, .val (.long (((p2 &&& (2147483647 : Int32)).toInt64) + (2 : Int64))), .second, .val (.double (FP.dneg (7598952565167317594 : UInt64))), .second, .val (.int (0 : Int32)), .val (.double (7598952565167317594 : UInt64)), .second]) rfl ?_
                    refine XS.goto X0.here hx rfl (pc0 := 192) (pc' := 215) rfl (hb hby at_192) (by decide) (by decide) ?_
                    refine XS.dload X0.here hx rfl (hb hby at_215) rfl ?_
                    refine st11 _ ?_
                    show Steps p.tables e below (T11.setTop (mkF m 220 #[.val (.int p1), .val (.int p2), .val (.int cc), .val (.long (((p2 &&& (2147483647 : Int32)).toInt64) + (1 : Int64))), .second, .val (.long (((p2 &&& (2147483647 : Int32)).toInt64) + (2 : Int64))), .second, .val (.double (FP.dneg (7598952565167317594 : UInt64))), .second, .val (.int (0 : Int32)), .val (.double (7598952565167317594 : UInt64)), .second] [(.int (0 : Int32))])) _
                    refine XS.iload X11.here hx rfl (hb hby at_220) rfl ?_
                    refine XS.icmpNo X11.here hx rfl (hb hby at_222) rfl (XT.ii_ne_f rfl) ?_
                    refine XT.iconstV X11.here hx rfl ((1 : Int32)) (hb hby at_225) (by decide) ?_
                    refine XS.goto X11.here hx rfl (pc0 := 226) (pc' := 230) rfl (hb hby at_226) (by decide) (by decide) ?_
                    exact Steps.refl _)
                  obtain ⟨fs, hr, hrun, hended, hW, hsame⟩ := X11.leave (v := some (.int (1 : Int32))) (fun h => by rw [Bd.returns] at h; cases h)
                  refine ⟨_, _, cc9.trans ?_, hrun, hended, _, _, rfl, ?_, ⟨_, rfl⟩, hW, hsame.mono (by decide) (by decide)⟩
                  · exact retN X11 hx (t := .boolean) Bd.returns (by simp) (hb hby at_230) hr
                  · show Q0 h0 n0 _ T11.heap _
                    exact ⟨rfl, NN11⟩
              ·
                have cc8 : Steps p.tables e below (s₁.setTop (entryFrame m #[(.int p1), (.int p2)] maxLocals)) (s₁.setTop (mkF m 198 #[.val (.int p1), .val (.int p2), .val (.int cc), .val (.long (((p2 &&& (2147483647 : Int32)).toInt64) + (1 : Int64))), .second, .val (.long (((p2 &&& (2147483647 : Int32)).toInt64) + (2 : Int64))), .second, .unset, .unset, .unset, .unset, .unset] [(.int (p2 &&& (1 : Int32)))])) := cc7.trans (by
                  refine XS.icmpYes X0.here hx rfl (pc0 := 165) (pc' := 195) rfl (hb hby at_165) rfl (XT.ii_ne_t k6) (by decide) (by decide) ?_
                  refine XS.iloadN X0.here hx rfl (hb hby at_195) rfl ?_
                  refine XT.iconstV X0.here hx rfl ((1 : Int32)) (hb hby at_196) (by decide) ?_
                  refine XS.iand X0.here hx rfl (hb hby at_197) rfl ?_
                  exact Steps.refl _)
                by_cases hn : (p2 &&& (1 : Int32)) = 0
                ·
                  obtain ⟨_, _, ⟨T12, L12, k12, n12⟩, -, X12, ⟨Lc12, hQ12, l12, y12, z12⟩, st12⟩ := Jvm.LawKit.callS X0 hx (y := (⟨"com/example/outpost/outpost/network/Magnitudes", "admits", "(D)Z"⟩ : MethodName)) hown (mvT hZ (hw _ (List.mem_of_getElem? (i := 2) rfl))) (mvT hZ (hw _ (List.mem_of_getElem? (i := 3) rfl))) (mvT hZ (hw _ (List.mem_of_getElem? (i := 4) rfl))) (mvT hZ (hw _ (List.mem_of_getElem? (i := 5) rfl))) (by decide) (backOf (W := 0) (rm1 l Z a0 hw [] (9223372036854775808 : UInt64) 0 h0 n0 Z0 (own_c7.1)) hZ (hw _ (List.mem_of_getElem? (i := 5) rfl)) (hw _ (List.mem_of_getElem? (i := 4) rfl)) (by decide) (by decide)) (g := (mkF m 217 #[.val (.int p1), .val (.int p2), .val (.int cc), .val (.long (((p2 &&& (2147483647 : Int32)).toInt64) + (1 : Int64))), .second, .val (.long (((p2 &&& (2147483647 : Int32)).toInt64) + (2 : Int64))), .second, .val (.double (9223372036854775808 : UInt64)), .second, .val (.int (0 : Int32)), .unset, .unset] [(.double (9223372036854775808 : UInt64))])) rfl (by rw [hml]; rfl) (argsL := [(.double (9223372036854775808 : UInt64))]) (rest := []) (lenOf pd__D_Z rfl) rfl (by show 2 * 0 + _ ≤ _; exact Nat.le_of_eq rfl) (hb hby at_217) (fun _ _ => ⟨rfl, e0, (by decide : 0 + 0 ≤ _), (by decide : 0 + 0 ≤ _)⟩)
                  dsimp only [Pt.U, Pt.locs, Pt.cells, Pt.slots] at X12 l12 y12 z12 st12 hQ12
                  subst l12 y12 z12
                  obtain ⟨rfl, N12, e12⟩ := hQ12
                  have NN12 := Fr.app N0 N12
                  have cc9 : Steps p.tables e below (s₁.setTop (entryFrame m #[(.int p1), (.int p2)] maxLocals)) (T12.setTop (mkF m 230 #[.val (.int p1), .val (.int p2), .val (.int cc), .val (.long (((p2 &&& (2147483647 : Int32)).toInt64) + (1 : Int64))), .second, .val (.long (((p2 &&& (2147483647 : Int32)).toInt64) + (2 : Int64))), .second, .val (.double (9223372036854775808 : UInt64)), .second, .val (.int (0 : Int32)), .unset, .unset] [(.int (1 : Int32))])) := cc8.trans (by
                    refine XS.ifNo X0.here hx rfl (hb hby at_198) rfl (XT.i0_ne_f hn) ?_
                    refine Stand.ldc2DoubleC X0 hx hown (b := (9223372036854775808 : UInt64)) (mvT hZ (hw _ (List.mem_of_getElem? (i := 10) rfl))) (g := (mkF m 201 #[.val (.int p1), .val (.int p2), .val (.int cc), .val (.long (((p2 &&& (2147483647 : Int32)).toInt64) + (1 : Int64))), .second, .val (.long (((p2 &&& (2147483647 : Int32)).toInt64) + (2 : Int64))), .second, .unset, .unset, .unset, .unset, .unset] [])) rfl (hb hby at_201) _ ?_
                    refine XS.goto X0.here hx rfl (pc0 := 204) (pc' := 210) rfl (hb hby at_204) (by decide) (by decide) ?_
                    refine XS.dstore X0.here hx rfl (hb hby at_210) rfl (l' := #[.val (.int p1), .val (.int p2), .val (.int cc), .val (.long (((p2 &&& (2147483647 : Int32)).toInt64) + (1 : Int64))), .second, .val (.long (((p2 &&& (2147483647 : Int32)).toInt64) + (2 : Int64))), .second, .val (.double (9223372036854775808 : UInt64)), .second, .unset, .unset, .unset]) rfl ?_
                    refine XT.iconstV X0.here hx rfl ((0 : Int32)) (hb hby at_212) (by decide) ?_
                    refine XS.istore X0.here hx rfl (hb hby at_213) rfl (l' := #[.val (.int p1), .val (.int p2), .val (.int cc), .val (.long (((p2 &&& (2147483647 : Int32)).toInt64) + (1 : Int64))), .second, .val (.long (((p2 &&& (2147483647 : Int32)).toInt64) + (2 : Int64))), .second, .val (.double (9223372036854775808 : UInt64)), .second, .val (.int (0 : Int32)), .unset, .unset]) rfl ?_
                    refine XS.dload X0.here hx rfl (hb hby at_215) rfl ?_
                    refine st12 _ ?_
                    show Steps p.tables e below (T12.setTop (mkF m 220 #[.val (.int p1), .val (.int p2), .val (.int cc), .val (.long (((p2 &&& (2147483647 : Int32)).toInt64) + (1 : Int64))), .second, .val (.long (((p2 &&& (2147483647 : Int32)).toInt64) + (2 : Int64))), .second, .val (.double (9223372036854775808 : UInt64)), .second, .val (.int (0 : Int32)), .unset, .unset] [(.int (0 : Int32))])) _
                    refine XS.iload X12.here hx rfl (hb hby at_220) rfl ?_
                    refine XS.icmpNo X12.here hx rfl (hb hby at_222) rfl (XT.ii_ne_f rfl) ?_
                    refine XT.iconstV X12.here hx rfl ((1 : Int32)) (hb hby at_225) (by decide) ?_
                    refine XS.goto X12.here hx rfl (pc0 := 226) (pc' := 230) rfl (hb hby at_226) (by decide) (by decide) ?_
                    exact Steps.refl _)
                  obtain ⟨fs, hr, hrun, hended, hW, hsame⟩ := X12.leave (v := some (.int (1 : Int32))) (fun h => by rw [Bd.returns] at h; cases h)
                  refine ⟨_, _, cc9.trans ?_, hrun, hended, _, _, rfl, ?_, ⟨_, rfl⟩, hW, hsame.mono (by decide) (by decide)⟩
                  · exact retN X12 hx (t := .boolean) Bd.returns (by simp) (hb hby at_230) hr
                  · show Q0 h0 n0 _ T12.heap _
                    exact ⟨rfl, NN12⟩
                ·
                  obtain ⟨_, _, ⟨T13, L13, k13, n13⟩, -, X13, ⟨Lc13, hQ13, l13, y13, z13⟩, st13⟩ := Jvm.LawKit.callS X0 hx (y := (⟨"com/example/outpost/outpost/network/Magnitudes", "admits", "(D)Z"⟩ : MethodName)) hown (mvT hZ (hw _ (List.mem_of_getElem? (i := 2) rfl))) (mvT hZ (hw _ (List.mem_of_getElem? (i := 3) rfl))) (mvT hZ (hw _ (List.mem_of_getElem? (i := 4) rfl))) (mvT hZ (hw _ (List.mem_of_getElem? (i := 5) rfl))) (by decide) (backOf (W := 0) (rm1 l Z a0 hw [] (12334232581352326448 : UInt64) 0 h0 n0 Z0 (own_c7.2)) hZ (hw _ (List.mem_of_getElem? (i := 5) rfl)) (hw _ (List.mem_of_getElem? (i := 4) rfl)) (by decide) (by decide)) (g := (mkF m 217 #[.val (.int p1), .val (.int p2), .val (.int cc), .val (.long (((p2 &&& (2147483647 : Int32)).toInt64) + (1 : Int64))), .second, .val (.long (((p2 &&& (2147483647 : Int32)).toInt64) + (2 : Int64))), .second, .val (.double (12334232581352326448 : UInt64)), .second, .val (.int (0 : Int32)), .unset, .unset] [(.double (12334232581352326448 : UInt64))])) rfl (by rw [hml]; rfl) (argsL := [(.double (12334232581352326448 : UInt64))]) (rest := []) (lenOf pd__D_Z rfl) rfl (by show 2 * 0 + _ ≤ _; exact Nat.le_of_eq rfl) (hb hby at_217) (fun _ _ => ⟨rfl, e0, (by decide : 0 + 0 ≤ _), (by decide : 0 + 0 ≤ _)⟩)
                  dsimp only [Pt.U, Pt.locs, Pt.cells, Pt.slots] at X13 l13 y13 z13 st13 hQ13
                  subst l13 y13 z13
                  obtain ⟨rfl, N13, e13⟩ := hQ13
                  have NN13 := Fr.app N0 N13
                  have cc9 : Steps p.tables e below (s₁.setTop (entryFrame m #[(.int p1), (.int p2)] maxLocals)) (T13.setTop (mkF m 230 #[.val (.int p1), .val (.int p2), .val (.int cc), .val (.long (((p2 &&& (2147483647 : Int32)).toInt64) + (1 : Int64))), .second, .val (.long (((p2 &&& (2147483647 : Int32)).toInt64) + (2 : Int64))), .second, .val (.double (12334232581352326448 : UInt64)), .second, .val (.int (0 : Int32)), .unset, .unset] [(.int (1 : Int32))])) := cc8.trans (by
                    refine XS.ifYes X0.here hx rfl (pc0 := 198) (pc' := 207) rfl (hb hby at_198) rfl (XT.i0_ne_t hn) (by decide) (by decide) ?_
                    refine Stand.ldc2DoubleC X0 hx hown (b := (12334232581352326448 : UInt64)) (mvT hZ (hw _ (List.mem_of_getElem? (i := 11) rfl))) (g := (mkF m 207 #[.val (.int p1), .val (.int p2), .val (.int cc), .val (.long (((p2 &&& (2147483647 : Int32)).toInt64) + (1 : Int64))), .second, .val (.long (((p2 &&& (2147483647 : Int32)).toInt64) + (2 : Int64))), .second, .unset, .unset, .unset, .unset, .unset] [])) rfl (hb hby at_207) _ ?_
                    refine XS.dstore X0.here hx rfl (hb hby at_210) rfl (l' := #[.val (.int p1), .val (.int p2), .val (.int cc), .val (.long (((p2 &&& (2147483647 : Int32)).toInt64) + (1 : Int64))), .second, .val (.long (((p2 &&& (2147483647 : Int32)).toInt64) + (2 : Int64))), .second, .val (.double (12334232581352326448 : UInt64)), .second, .unset, .unset, .unset]) rfl ?_
                    refine XT.iconstV X0.here hx rfl ((0 : Int32)) (hb hby at_212) (by decide) ?_
                    refine XS.istore X0.here hx rfl (hb hby at_213) rfl (l' := #[.val (.int p1), .val (.int p2), .val (.int cc), .val (.long (((p2 &&& (2147483647 : Int32)).toInt64) + (1 : Int64))), .second, .val (.long (((p2 &&& (2147483647 : Int32)).toInt64) + (2 : Int64))), .second, .val (.double (12334232581352326448 : UInt64)), .second, .val (.int (0 : Int32)), .unset, .unset]) rfl ?_
                    refine XS.dload X0.here hx rfl (hb hby at_215) rfl ?_
                    refine st13 _ ?_
                    show Steps p.tables e below (T13.setTop (mkF m 220 #[.val (.int p1), .val (.int p2), .val (.int cc), .val (.long (((p2 &&& (2147483647 : Int32)).toInt64) + (1 : Int64))), .second, .val (.long (((p2 &&& (2147483647 : Int32)).toInt64) + (2 : Int64))), .second, .val (.double (12334232581352326448 : UInt64)), .second, .val (.int (0 : Int32)), .unset, .unset] [(.int (0 : Int32))])) _
                    refine XS.iload X13.here hx rfl (hb hby at_220) rfl ?_
                    refine XS.icmpNo X13.here hx rfl (hb hby at_222) rfl (XT.ii_ne_f rfl) ?_
                    refine XT.iconstV X13.here hx rfl ((1 : Int32)) (hb hby at_225) (by decide) ?_
                    refine XS.goto X13.here hx rfl (pc0 := 226) (pc' := 230) rfl (hb hby at_226) (by decide) (by decide) ?_
                    exact Steps.refl _)
                  obtain ⟨fs, hr, hrun, hended, hW, hsame⟩ := X13.leave (v := some (.int (1 : Int32))) (fun h => by rw [Bd.returns] at h; cases h)
                  refine ⟨_, _, cc9.trans ?_, hrun, hended, _, _, rfl, ?_, ⟨_, rfl⟩, hW, hsame.mono (by decide) (by decide)⟩
                  · exact retN X13 hx (t := .boolean) Bd.returns (by simp) (hb hby at_230) hr
                  · show Q0 h0 n0 _ T13.heap _
                    exact ⟨rfl, NN13⟩
set_option maxRecDepth 65536 in
set_option maxHeartbeats 40000000 in
theorem comes_1 {Post : Tables → Env → Array Value → State → Outcome → State → Prop} (hpost : ∀ tb e args s v u, (limb_1_1.after args s (.returned v) u = true ∧ limb_1_2.after args s (.returned v) u = true ∧ True) → FrameEnd s (.returned v) u (Jvm.fieldLocs frame_1_writes args s ++ Jvm.arrayLocs frame_1_arrays args s ++ Jvm.staticLocs frame_1_statics s) 0 0 → Post tb e args s (.returned v) u) :
    ArmFor flags0 classFile x code maxLocals ret World_1 tables_1 room_1 Calls_1 rest_1 Pre_1 Post := by
  intro l hfl _ _ p e ha hc hk s m args below hf hA hF happ hP
  obtain ⟨hcalls, hrest, hpre⟩ := hP
  obtain ⟨-, -, -, hnamed, -, -, -, hat⟩ := (Spec.applies_iff hf).mp happ
  obtain ⟨hg, hn⟩ := and_e (Cond.before_iff.mp (show (Jvm.Cond.and given_1 narrow_1).before args s = true from hpre))
  obtain ⟨h1, hA0⟩ := and_e hg
  obtain ⟨hI0, hA1⟩ := and_e hA0
  obtain ⟨w0, w1, rfl⟩ : ∃ w0 w1 : Value, args = #[w0, w1] := by
    have hs : args.size = 2 := by simpa [Cond.value, given_1] using h1
    obtain ⟨L⟩ := args
    match L, hs with
    | [w0, w1], _ => exact ⟨w0, w1, rfl⟩
  have hw := fun d (hd : d ∈ tables_1) => atoms_spec (ws := Jvm.Cond.code x code maxLocals ret :: tables_1) hat d (List.mem_cons_of_mem _ hd)
  have hfit : Fit s := fun {y c} hc i hi => by
    obtain ⟨ha, rfl⟩ := Array.getElem?_eq_some_iff.mp hc
    have q := List.all_eq_true.mp ((Array.all_eq_true_iff_forall_mem.mp hF) _ (Array.getElem_mem ha)) i (List.mem_range.mpr hi)
    simpa [Array.getElem?_eq_getElem hi] using q
  obtain ⟨i0, ei0⟩ := is_v hI0
  obtain rfl : w0 = (.int i0) := Option.some.inj ei0
  obtain ⟨i1, ei1⟩ := is_v hA1
  obtain rfl : w1 = (.int i1) := Option.some.inj ei1
  obtain ⟨n, o, h1, h2, h3, _, L, rfl, ⟨rfl, N⟩, hq⟩ := rm0 l s _ hw tables_1 i0 i1  s.heap s.heap.size (Nat.le_refl _)  p e ha hc hk s m _ below hf ((Spec.applies_iff_loose hf).mp happ).1 ⟨rfl, State.Warmed39.refl s, rfl⟩ trivial
  refine ⟨n, _, h1, h2, h3, hpost _ _ _ _ _ _ ⟨Cond.after_iff.mpr rfl, Cond.after_iff.mpr (eq_i res_at (Term.int_eval (1)) rfl), trivial⟩ ⟨hq.1, hq.2.1, (hq.2.2.sift fun y hy => Or.inr (N y hy)).mono (by decide) (by decide)⟩⟩
theorem main_1_1 : Claimed_1_1 := comes_1 fun _ _ _ _ _ _ h hF => ⟨h.1, hF⟩
theorem main_1_2 : Claimed_1_2 := comes_1 fun _ _ _ _ _ _ h hF => ⟨h.2.1, hF⟩
end Jvm.Pilot.@@N@@
namespace Jvm.Pilot.@@N@@
open Jvm Jvm.ClassFile Sem Op Lib Jvm.Free Jvm.Stand Jvm.Pilot.@@N@@.Jvm.D
/-! MADE BY PROGRAM (witnessworld.py) out of the Statement's table words and the real class files: 9 classes; the members and pool entries that the words name. The judged class is class 1, her method 1. -/
namespace start1
open Jvm.ClassFile
def u (s : String) : CpInfo := .utf8 (stringToUtf16 s)
/-- a pool by its gaps: so many unusable entries, then the entry; so many at the end -/
def gap : Nat → List CpInfo → List CpInfo
  | 0, r => r
  | n + 1, r => .unusable :: gap n r
def poolList (es : List (Nat × CpInfo)) (last : Nat) : List CpInfo := es.foldr (fun e r => gap e.1 (e.2 :: r)) (gap last [])
def pool (es : List (Nat × CpInfo)) (last : Nat) : Array CpInfo := ⟨poolList es last⟩
def fileOf (pool : Array CpInfo) (this : Nat) (attrs : Array Attribute := #[]) (ms : Array MethodInfo := #[]) (fl : Nat := 33) (sup : Nat := 0) (ifs : Array Nat := #[]) (fds : Array FieldInfo := #[]) : ClassFile where
  minorVersion := 0
  majorVersion := 65
  constantPool := pool
  accessFlags := fl
  thisClass := this
  superClass := sup
  interfaces := ifs
  fields := fds
  methods := ms
  attributes := attrs
def plain (name : String) (sup : Option ClassId) : Class where
  name := name
  kind := .ordinary
  loader := none
  accessFlags := 33
  super := sup
  interfaces := #[]
  cf := none
  fields := #[]
  methods := #[]
  instanceTypes := #[]
  staticTypes := #[]
  resolved := #[]
  callSites := []
  init := .initialized
  statics := none
  mirror := none

def pool0 : Array CpInfo := pool [(5, u "<init>"), (0, u "()V"), (1, .class_ 10), (1, u "java/lang/Object")] 113

def k0m0 : Method := { name := "<init>", desc := "()V", sig := { parameters := [], returnType := none }, accessFlags := 1, code := none }
/-- java/lang/Object -/
def k0 : Class := { plain "java/lang/Object" none with
  accessFlags := 33
  interfaces := #[]
  cf := some (fileOf pool0 8 #[] #[{ accessFlags := 1, nameIndex := 5, descriptorIndex := 6, attributes := #[] }] 33 0 #[] #[])
  fields := #[]
  methods := #[k0m0]
  instanceTypes := #[]
  staticTypes := #[]
  resolved := Array.replicate 124 none
  statics := none }

def pool1 : Array CpInfo := pool [(2, .class_ 4), (1, u "java/lang/Object"), (0, u "<init>"), (0, u "()V"), (0, .integer 2147483647), (0, .long 2), (1, .class_ 11), (0, u "com/example/outpost/outpost/network/Magnitudes"), (0, .double 3110860544497550640), (1, .double 6103021453049119613), (1, .double 7598952565167317594), (1, .double 9223372036854775808), (1, .double 12334232581352326448), (1, .methodref 10 23), (0, .nameAndType 24 25), (0, u "admits"), (0, u "(D)Z"), (0, .class_ 27), (0, u "com/example/outpost/outpost/network/MagnitudesAdmitsPinLaw"), (2, u "law"), (0, u "(II)Z")] 3

def k1m0 : Method := { name := "<init>", desc := "()V", sig := { parameters := [], returnType := none }, accessFlags := 2, code := none }
def k1c1 : Code := { maxStack := 4, maxLocals := 12, code := code, exceptionTable := #[], attributes := #[] }
def k1m1 : Method := { name := "law", desc := "(II)Z", sig := { parameters := [.int, .int], returnType := some .boolean }, accessFlags := 9, code := some k1c1 }
/-- com/example/outpost/outpost/network/MagnitudesAdmitsPinLaw -/
def k1 : Class := { plain "com/example/outpost/outpost/network/MagnitudesAdmitsPinLaw" (some 0) with
  accessFlags := 49
  interfaces := #[]
  cf := some (fileOf pool1 26 #[] #[{ accessFlags := 2, nameIndex := 5, descriptorIndex := 6, attributes := #[] }, { accessFlags := 9, nameIndex := 30, descriptorIndex := 31, attributes := #[] }] 49 2 #[] #[])
  fields := #[]
  methods := #[k1m0, k1m1]
  instanceTypes := #[]
  staticTypes := #[]
  resolved := Array.replicate 35 none
  statics := none }

def pool2 : Array CpInfo := pool [(2, .class_ 4), (1, u "java/lang/Object"), (0, u "<init>"), (0, u "()V"), (0, .class_ 8), (0, u "com/example/outpost/outpost/network/Magnitudes"), (0, .double 3110860544497550640), (1, .double 6103021453049119613), (1, u "SMALLEST"), (0, u "D"), (1, u "LARGEST"), (2, u "admits"), (0, u "(D)Z")] 3

def k2m0 : Method := { name := "<init>", desc := "()V", sig := { parameters := [], returnType := none }, accessFlags := 2, code := none }
def k2c1 : Code := { maxStack := 4, maxLocals := 2, code := prog_34_method_2_code, exceptionTable := #[], attributes := #[] }
def k2m1 : Method := { name := "admits", desc := "(D)Z", sig := { parameters := [.double], returnType := some .boolean }, accessFlags := 9, code := some k2c1 }
/-- com/example/outpost/outpost/network/Magnitudes -/
def k2 : Class := { plain "com/example/outpost/outpost/network/Magnitudes" (some 0) with
  accessFlags := 49
  interfaces := #[]
  cf := some (fileOf pool2 7 #[] #[{ accessFlags := 2, nameIndex := 5, descriptorIndex := 6, attributes := #[] }, { accessFlags := 9, nameIndex := 19, descriptorIndex := 20, attributes := #[] }] 49 2 #[] #[{ accessFlags := 25, nameIndex := 13, descriptorIndex := 14, attributes := #[] }, { accessFlags := 25, nameIndex := 16, descriptorIndex := 14, attributes := #[] }])
  fields := #[{ name := "SMALLEST", type := .double, accessFlags := 25, slot := 0, constantValue := 0 }, { name := "LARGEST", type := .double, accessFlags := 25, slot := 1, constantValue := 0 }]
  methods := #[k2m0, k2m1]
  instanceTypes := #[]
  staticTypes := #[.double, .double]
  resolved := Array.replicate 24 none
  statics := none }

def pool3 : Array CpInfo := pool [(1, u "java/lang/Cloneable"), (0, .class_ 1), (0, u "java/lang/Object"), (0, .class_ 3)] 3

/-- java/lang/Cloneable -/
def k3 : Class := { plain "java/lang/Cloneable" (some 0) with
  accessFlags := 1537
  interfaces := #[]
  cf := some (fileOf pool3 2 #[] #[] 1537 4 #[] #[])
  fields := #[]
  methods := #[]
  instanceTypes := #[]
  staticTypes := #[]
  resolved := Array.replicate 8 none
  statics := none }

def pool4 : Array CpInfo := pool [(1, u "java/io/Serializable"), (0, .class_ 1), (0, u "java/lang/Object"), (0, .class_ 3)] 3

/-- java/io/Serializable -/
def k4 : Class := { plain "java/io/Serializable" (some 0) with
  accessFlags := 1537
  interfaces := #[]
  cf := some (fileOf pool4 2 #[] #[] 1537 4 #[] #[])
  fields := #[]
  methods := #[]
  instanceTypes := #[]
  staticTypes := #[]
  resolved := Array.replicate 8 none
  statics := none }

/-- the primitive byte -/
def k5 : Class := { plain "byte" none with kind := .primitive 'B', accessFlags := 0x411 }
/-- [B -/
def k6 : Class := { plain "[B" (some 0) with kind := .array 5 .byte, interfaces := #[3, 4], accessFlags := 1041 }

/-- the primitive int -/
def k7 : Class := { plain "int" none with kind := .primitive 'I', accessFlags := 0x411 }
/-- [I -/
def k8 : Class := { plain "[I" (some 0) with kind := .array 7 .int, interfaces := #[3, 4], accessFlags := 1041 }

def heap : Heap := #[]
def classes : Array Class := #[k0, k1, k2, k3, k4, k5, k6, k7, k8]
def interned : List (Array UInt16 × Addr) := []
def slotsUsed : Nat := 0
def theMethod : MethodId := ⟨1, 1⟩
def args0 : Array Value := #[.int 5, .int 7]
def aboutOver (below : List Frame) : State where
  vm := { classes := classes, interned := interned.toArray }
  heap := heap
  slotsUsed := slotsUsed
  threads := #[{ frames := .invoking theMethod args0 :: below }]
def below0 : List Frame := [.native { method := ⟨0, 0⟩, args := #[] }]
def about1 : State := aboutOver below0
def p0 : Program := .bare "" "" ""
def e0 : Env := launch0.env 0 0 0
theorem w_frames : about1.frames = Frame.invoking theMethod args0 :: below0 := rfl
set_option maxRecDepth 65536 in
theorem w_args : argsFit about1.vm theMethod args0 = true := by decide +kernel
set_option maxRecDepth 65536 in
theorem w_heap : heapFits about1 = true := by decide +kernel
set_option maxRecDepth 65536 in
theorem w_runnable : about1.curStatus? = some .runnable := by decide +kernel
set_option maxRecDepth 65536 in
theorem w_alone : about1.alone = true := by decide +kernel
set_option maxRecDepth 65536 in
theorem w_named : about1.methodNamed? x = some theMethod := by decide +kernel
set_option maxRecDepth 65536 in
theorem w_hears : about1.hears theMethod below0 = true := by decide +kernel
set_option maxRecDepth 65536 in
theorem w_ripe : about1.ripe theMethod args0 below0 = true := by decide +kernel
theorem w_running : about1.status = .running := rfl
set_option maxRecDepth 65536 in
theorem w_room : about1.hasRoom e0.platform room_1 = true :=
  launch0.hasRoom_least _ room_1 (by decide +kernel) (by decide +kernel) (by decide +kernel) (by decide +kernel) (by decide +kernel) (by decide +kernel)
theorem allAtoms_all (ts : List Jvm.Cond) (a : Array Jvm.Value) (st : Jvm.State) : (allAtoms ts).before a st = ts.all (fun c => c.before a st) := by
  induction ts with
  | nil => rfl
  | cons c t ih =>
    show (Jvm.Cond.and c (allAtoms t)).before a st = _
    rw [Jvm.Cond.before_and, ih, List.all_cons]
def words1 : List Jvm.Cond := Jvm.Cond.code x code maxLocals ret :: tables_1
/-- a 'code' word, met by the world's own term for the bytes: nothing is compared byte by byte -/
theorem code_word {y : MethodName} {bytes : ByteArray} {mx : Nat} {rt : Option FieldType} {a : Array Value} {s : State} {m : MethodId} {meth : Method} {c : Code} (h1 : s.methodNamed? y = some m) (h2 : s.vm.method? m = some meth) (h3 : meth.code = some c) (h4 : c.code = bytes)
    (h5 : (c.maxLocals == mx && c.exceptionTable.isEmpty && decide (c.maxStack ≤ mostOperands) && decide (meth.sig.returnType = rt) && !meth.locks && decide (parseMethodDescriptor y.desc = some meth.sig)) = true) : (Jvm.Cond.code y bytes mx rt).before a s = true := by
  simp only [Bool.and_eq_true, beq_iff_eq, Bool.not_eq_true', decide_eq_true_eq] at h5
  obtain ⟨⟨⟨⟨⟨g1, g2⟩, g3⟩, g4⟩, g5⟩, g6⟩ := h5
  simp [Cond.before, Cond.holds, Cond.value, h1, h2, h3, h4, g1, g2, g3, g4, g5, g6]
def isCode : Jvm.Cond → Bool
  | .code _ _ _ _ => true
  | _ => false
theorem all_split {L : List Jvm.Cond} {P : Jvm.Cond → Bool} (h1 : L.all (fun c => isCode c || P c) = true) (h2 : ∀ c ∈ L.filter isCode, P c = true) : L.all P = true := by
  refine List.all_eq_true.mpr fun c hc => ?_
  have h := List.all_eq_true.mp h1 c hc
  rcases Bool.eq_false_or_eq_true (isCode c) with hi | hi
  · exact h2 c (List.mem_filter.mpr ⟨hc, hi⟩)
  · simpa [hi] using h
set_option maxRecDepth 65536 in
theorem w_c0 : (Jvm.Cond.code x code maxLocals ret).before args0 about1 = true := code_word (m := ⟨1, 1⟩) (meth := k1m1) (c := k1c1) (by decide +kernel) rfl rfl rfl (by decide +kernel)
set_option maxRecDepth 65536 in
theorem w_c1 : (Jvm.Cond.code ({ cls := "com/example/outpost/outpost/network/Magnitudes", name := "admits", desc := "(D)Z" } : Jvm.MethodName) prog_34_method_2_code (2 : Nat) (Option.some Jvm.ClassFile.FieldType.boolean)).before args0 about1 = true := code_word (m := ⟨2, 1⟩) (meth := k2m1) (c := k2c1) (by decide +kernel) rfl rfl rfl (by decide +kernel)
def codes1 : List Jvm.Cond := [Jvm.Cond.code x code maxLocals ret, Jvm.Cond.code ({ cls := "com/example/outpost/outpost/network/Magnitudes", name := "admits", desc := "(D)Z" } : Jvm.MethodName) prog_34_method_2_code (2 : Nat) (Option.some Jvm.ClassFile.FieldType.boolean)]
set_option maxRecDepth 65536 in
theorem codes_eq : words1.filter isCode = codes1 := rfl
theorem w_codes : ∀ c ∈ words1.filter isCode, c.before args0 about1 = true := by
  rw [codes_eq]
  intro c hc
  simp only [codes1, List.mem_cons, List.not_mem_nil, or_false] at hc
  rcases hc with rfl | rfl
  · exact w_c0
  · exact w_c1
set_option maxRecDepth 65536 in
theorem w_t1 : words1.all (fun c => isCode c || c.before args0 about1) = true := by decide +kernel
theorem w_tables : (allAtoms (Jvm.Cond.code x code maxLocals ret :: tables_1)).before args0 about1 = true := by
  rw [allAtoms_all]
  show words1.all (fun c => c.before args0 about1) = true
  refine all_split ?_ w_codes
  rw [w_t1]
set_option maxRecDepth 65536 in
theorem w_case : (Jvm.Cond.and given_1 narrow_1).before args0 about1 = true := by decide +kernel
theorem w_applies : (headSpec (Jvm.Cond.code x code maxLocals ret :: tables_1) room_1).applies x e0.platform about1 = true :=
  (Spec.applies_iff w_frames).mpr ⟨w_running, w_runnable, w_alone, w_named, w_hears, w_ripe, w_room, w_tables⟩
theorem atStart : AtStart classFile x code maxLocals ret World_1 tables_1 room_1 Calls_1 rest_1 Pre_1 launch0 p0 e0 about1 theMethod args0 below0 :=
  ⟨lists_1, trivial, launch0.admits_env _ _ _, launch0.least_env, fairChoices_fair.cas, fairChoices_fair.clock, w_frames, w_args, w_heap, w_applies, trivial, trivial, w_case⟩
end start1
theorem witness_1 : WitnessClaimed_1 := ⟨start1.p0, start1.e0, start1.about1, start1.theMethod, start1.args0, start1.below0, start1.atStart⟩
end Jvm.Pilot.@@N@@
