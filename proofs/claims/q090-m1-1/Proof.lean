import JvmDerived
import JvmDerived.Pilot.@@N@@Statement
import JvmDerived.Pilot.@@N@@Code
set_option linter.unusedVariables false
set_option linter.unusedSimpArgs false

namespace Jvm.RoadKit
open Sem ClassFile Op Lib Jvm.Stand Jvm.Free Jvm.LawKit
section New
variable {p : Program} {l : Launch} {e : Env} {R : Room} {s : State} {m : MethodId} {args : Array Value} {below : List Frame} {meth : Method} {c : Code} {T : State} {locs : List Loc} {cells slots : Nat}
theorem retI (X : Stand p l e R s m args below meth c T locs cells slots) (hx : p.tables.exec = Jvm.exec) {pc : Nat} {Ls : Array Slot} {z : Int32} {rest : List Value} (hret : meth.sig.returnType = some .int) (hd : decode c.code pc = .ok (.ireturn, 1)) {fs : List Frame}
    (hl : ∀ (f : JFrame) (acts : List Action), f.method = m → f.locked = none → f.entered = [] → (doReturn e (T.setTop f) acts (some (.int z))).1 = T.setFrames fs) : Steps p.tables e below (T.setTop (mkF m pc Ls (.int z :: rest))) (T.setFrames fs) := by
  have hm' : T.vm.method? m = some meth := X.method'
  have hn : narrow .int (.int z) = .int z := rfl
  show Steps p.tables e below (T.setTop { method := m, pc := pc, locals := Ls, stack := _ :: rest, locked := none }) _
  jvm_step X.here [X.here.top, hx, hd, hm', hret, hn]
  first | (intro acts; rw [hl _ acts rfl rfl rfl]) | rw [hl _ _ rfl rfl rfl]
  exact Steps.refl _
theorem retD (X : Stand p l e R s m args below meth c T locs cells slots) (hx : p.tables.exec = Jvm.exec) {pc : Nat} {Ls : Array Slot} {z : UInt64} {rest : List Value} (hret : meth.sig.returnType = some .double) (hd : decode c.code pc = .ok (.dreturn, 1)) {fs : List Frame}
    (hl : ∀ (f : JFrame) (acts : List Action), f.method = m → f.locked = none → f.entered = [] → (doReturn e (T.setTop f) acts (some (.double z))).1 = T.setFrames fs) : Steps p.tables e below (T.setTop (mkF m pc Ls (.double z :: rest))) (T.setFrames fs) := by
  have hm' : T.vm.method? m = some meth := X.method'
  have hn : narrow .double (.double z) = .double z := rfl
  show Steps p.tables e below (T.setTop { method := m, pc := pc, locals := Ls, stack := _ :: rest, locked := none }) _
  jvm_step X.here [X.here.top, hx, hd, hm', hret, hn]
  first | (intro acts; rw [hl _ acts rfl rfl rfl]) | rw [hl _ _ rfl rfl rfl]
  exact Steps.refl _
end New
end Jvm.RoadKit

namespace Jvm.Pilot.@@N@@
section OwnFloat
open Jvm.FP Jvm.FP.Core
/-- a double's value in units of 2^-1074 -/
def own_z (a : UInt64) : Int := zval b64 (val64 a)
def own_u : Int := ((2 ^ 1074 : Nat) : Int)
theorem own_ac1 (s l u : Int) : s * l * u * u = s * u * (l * u) := by ac_rfl
theorem own_ac2 (l u d : Int) : l * u * (d * u) = l * d * (u * u) := by ac_rfl
theorem own_ac3 (n u p : Int) : n * u * u * p = n * p * (u * u) := by ac_rfl
theorem own_u_pos : 0 < own_u := Int.natCast_pos.mpr (Nat.two_pow_pos _)
theorem own_p_pos (k : Nat) : (0 : Int) < 2 ^ k := Int.pow_pos (by decide)
/-- a is finite and lo ≤ a * 2^k ≤ hi -/
def own_In (k : Nat) (lo hi : Int) (a : UInt64) : Prop := DFin a ∧ lo * own_u ≤ own_z a * 2 ^ k ∧ own_z a * 2 ^ k ≤ hi * own_u
theorem own_rep {k : Nat} (hk : k ≤ 1000) {i : Int} (hi : i.natAbs < 2 ^ 53) : ∃ V, Core.fits b64 V ∧ V ≠ .nan ∧ (∃ s c q, V = .fin s c q) ∧ zval b64 V * 2 ^ k = i * own_u := by
  obtain ⟨c', q', h1, h2⟩ := round_exact good_b64 (decide (i < 0)) (c := i.natAbs) (q := -(k : Int)) hi (by rw [qmin_b64]; omega) (Int.le_trans (by omega) (show (0 : Int) ≤ b64.qmax from by decide))
  refine ⟨round b64 (.fin (decide (i < 0)) i.natAbs (-(k : Int))), round_fits good_b64 _, by rw [h1]; exact Datum.noConfusion, ⟨_, _, _, h1⟩, ?_⟩
  rw [h1]
  show signed (decide (i < 0)) (inUnits c' q' b64.qmin) * 2 ^ k = i * own_u
  rw [h2]
  unfold inUnits
  rw [signed_mul, show signed (decide (i < 0)) i.natAbs = i from by unfold signed; by_cases h : i < 0 <;> simp [h] <;> omega, qmin_b64, show (-(k : Int) - (-1074)).toNat = 1074 - k by omega, Int.mul_assoc]
  have e : (2 : Nat) ^ 1074 = 2 ^ (1074 - k) * 2 ^ k := by rw [← Nat.pow_add]; congr 1; omega
  unfold own_u
  rw [e, Int.natCast_mul, Int.natCast_pow 2 k]
  rfl
theorem own_fin_of {d V W : Datum} (hd : Core.fits b64 d) (hn : d ≠ .nan) (hV : Core.fits b64 V) (fV : ∃ s c q, V = .fin s c q) (hW : Core.fits b64 W) (fW : ∃ s c q, W = .fin s c q) (h1 : zval b64 V ≤ zval b64 d) (h2 : zval b64 d ≤ zval b64 W) : ∃ s c q, d = .fin s c q := by
  obtain ⟨s1, c1, q1, rfl⟩ := fV
  obtain ⟨s2, c2, q2, rfl⟩ := fW
  have t1 : zmag b64 (.fin s1 c1 q1) < b64.tails * 2 ^ (b64.exps - 2) := zmag_lt_top good_b64 hV
  have t2 : zmag b64 (.fin s2 c2 q2) < b64.tails * 2 ^ (b64.exps - 2) := zmag_lt_top good_b64 hW
  cases d with
  | nan => exact absurd rfl hn
  | fin s c q => exact ⟨s, c, q, rfl⟩
  | inf s =>
    exfalso
    have e : zval b64 (.inf s) = signed s (b64.tails * 2 ^ (b64.exps - 2)) := rfl
    rw [e] at h1 h2
    unfold zval at h1 h2
    generalize b64.tails * 2 ^ (b64.exps - 2) = top at *
    generalize zmag b64 (.fin s1 c1 q1) = z1 at *
    generalize zmag b64 (.fin s2 c2 q2) = z2 at *
    generalize sgn (.fin s1 c1 q1) = g1 at *
    generalize sgn (.fin s2 c2 q2) = g2 at *
    cases s <;> cases g1 <;> cases g2 <;> simp [signed] at h1 h2 <;> omega
/-- d is the rounding of num / den -/
def own_Mono (d : Datum) (num den : Int) : Prop := ∀ V, Core.fits b64 V → V ≠ .nan → (num ≤ zval b64 V * den → zval b64 d ≤ zval b64 V) ∧ (zval b64 V * den ≤ num → zval b64 V ≤ zval b64 d)
theorem own_mk {a : UInt64} {num den : Int} (hn : val64 a ≠ .nan) (M : own_Mono (val64 a) num den) (hden : 0 < den) {k : Nat} (hk : k ≤ 1000) {lo hi : Int} (bl : lo.natAbs < 2 ^ 53) (bh : hi.natAbs < 2 ^ 53) (h1 : lo * own_u * den ≤ num * 2 ^ k) (h2 : num * 2 ^ k ≤ hi * own_u * den) : own_In k lo hi a := by
  obtain ⟨V, fV, nV, gV, eV⟩ := own_rep hk bl
  obtain ⟨W, fW, nW, gW, eW⟩ := own_rep hk bh
  have pk := own_p_pos k
  have a1 : zval b64 V ≤ zval b64 (val64 a) := (M V fV nV).2 (by
    refine Int.le_of_mul_le_mul_right ?_ pk
    rw [Int.mul_right_comm, eV]; exact h1)
  have a2 : zval b64 (val64 a) ≤ zval b64 W := (M W fW nW).1 (by
    refine Int.le_of_mul_le_mul_right ?_ pk
    rw [Int.mul_right_comm (zval b64 W), eW]; exact h2)
  refine ⟨own_fin_of (val64_fits a) hn fV gV fW gW a1 a2, ?_, ?_⟩
  · rw [← eV]; exact Int.mul_le_mul_of_nonneg_right a1 (Int.le_of_lt pk)
  · rw [← eW]; exact Int.mul_le_mul_of_nonneg_right a2 (Int.le_of_lt pk)
theorem own_add_mono {a b : UInt64} (ha : DFin a) (hb : DFin b) : own_Mono (val64 (Core.dadd a b)) (own_z a + own_z b) 1 := by
  intro V hV nV
  rw [val64_dadd]
  have fa := val64_fits a
  have fb := val64_fits b
  unfold own_z
  obtain ⟨s, c, q, ea⟩ := ha
  obtain ⟨t, d, r, eb⟩ := hb
  rw [ea] at fa ⊢
  rw [eb] at fb ⊢
  obtain ⟨sg, n, e, e1, e2, e3⟩ := sum_units fa fb
  rw [e1]
  have z : (b64.qmin - b64.qmin).toNat = 0 := by omega
  constructor
  · intro h
    exact zval_round_le good_b64 hV nV (Int.le_refl _) e2 (by rw [e3, z]; simpa using h)
  · intro h
    exact zval_round_ge good_b64 hV nV (Int.le_refl _) e2 (by rw [e3, z]; simpa using h)
theorem own_mul_mono {a b : UInt64} (ha : DFin a) (hb : DFin b) : own_Mono (val64 (Core.dmul a b)) (own_z a * own_z b) own_u := by
  intro V hV nV
  rw [val64_dmul]
  have fa := val64_fits a
  have fb := val64_fits b
  unfold own_z
  obtain ⟨s, c, q, ea⟩ := ha
  obtain ⟨t, d, r, eb⟩ := hb
  rw [ea] at fa ⊢
  rw [eb] at fb ⊢
  obtain ⟨e1, e2, e3⟩ := product_units fa fb
  rw [e1]
  have e4 : signed (s != t) (inUnits (c * d) (q + r) (2 * b64.qmin)) = zval b64 (.fin s c q) * zval b64 (.fin t d r) := by
    rw [e3, signed_xor]; rfl
  have z : (b64.qmin - 2 * b64.qmin).toNat = 1074 := by rw [qmin_b64]; decide
  have z2 : 2 * b64.qmin ≤ b64.qmin := by rw [qmin_b64]; decide
  constructor
  · intro h
    exact zval_round_le good_b64 hV nV z2 e2 (by rw [e4, z]; exact h)
  · intro h
    exact zval_round_ge good_b64 hV nV z2 e2 (by rw [e4, z]; exact h)
theorem own_div_eq {c d : Nat} {q r : Int} (h1 : b64.qmin ≤ q) (h2 : b64.qmin ≤ r) (h3 : r ≤ b64.qmax) {V : Nat} :
    inUnits c (q - r) (-2200) * 2 ^ (r - b64.qmin).toNat = inUnits c q b64.qmin * 2 ^ 2200 ∧ (V * 2 ^ (b64.qmin - (-2200)).toNat * d) * 2 ^ (r - b64.qmin).toNat = V * inUnits d r b64.qmin * 2 ^ 1126 := by
  have e : b64.qmax = 971 := by decide
  rw [qmin_b64] at *
  unfold inUnits
  constructor
  · rw [Nat.mul_assoc, ← Nat.pow_add, Nat.mul_assoc, ← Nat.pow_add]
    congr 2; omega
  · rw [show ((-1074 : Int) - (-2200)).toNat = 1126 from by decide]
    generalize (2 : Nat) ^ 1126 = A
    generalize 2 ^ (r - -1074).toNat = B
    rw [Nat.mul_assoc (V * A), Nat.mul_right_comm]
theorem own_div_mag_le {σ s t u : Bool} {c d c' : Nat} {q r q' : Int} {V : Datum} (hx : Core.fits b64 (.fin s c q)) (hy : Core.fits b64 (.fin t d r)) (hd : 0 < d) (hV : Core.fits b64 V) (hn : V ≠ .nan)
    (h : zmag b64 (.fin s c q) * 2 ^ 1074 ≤ zmag b64 V * zmag b64 (.fin t d r)) : zmag b64 (roundRatio b64 σ c d (q - r)) ≤ zmag b64 V := by
  have e : b64.qmax = 971 := by decide
  have q1 := hx.2.1
  have r1 := hy.2.1
  have r2 := hy.2.2.1
  have m := qmin_b64
  refine zmag_roundRatio_le good_b64 hd hV hn (e0 := -2200) (by omega) (by omega) ?_
  obtain ⟨e1, e2⟩ := own_div_eq (c := c) (d := d) (V := zmag b64 V) q1 r1 r2
  refine Nat.le_of_mul_le_mul_right ?_ (Nat.two_pow_pos (r - b64.qmin).toNat)
  rw [e1, e2]
  have h' : inUnits c q b64.qmin * 2 ^ 1074 ≤ zmag b64 V * inUnits d r b64.qmin := h
  have h'' := Nat.mul_le_mul_right (2 ^ 1126) h'
  rw [Nat.mul_assoc (inUnits c q b64.qmin), ← Nat.pow_add] at h''
  exact h''
theorem own_div_mag_ge {σ s t u : Bool} {c d c' : Nat} {q r q' : Int} {V : Datum} (hx : Core.fits b64 (.fin s c q)) (hy : Core.fits b64 (.fin t d r)) (hd : 0 < d) (hV : Core.fits b64 V)
    (h : zmag b64 V * zmag b64 (.fin t d r) ≤ zmag b64 (.fin s c q) * 2 ^ 1074) : zmag b64 V ≤ zmag b64 (roundRatio b64 σ c d (q - r)) := by
  have e : b64.qmax = 971 := by decide
  have q1 := hx.2.1
  have r1 := hy.2.1
  have r2 := hy.2.2.1
  have m := qmin_b64
  refine zmag_roundRatio_ge good_b64 hd hV (e0 := -2200) (by omega) (by omega) ?_
  obtain ⟨e1, e2⟩ := own_div_eq (c := c) (d := d) (V := zmag b64 V) q1 r1 r2
  refine Nat.le_of_mul_le_mul_right ?_ (Nat.two_pow_pos (r - b64.qmin).toNat)
  rw [e1, e2]
  have h' : zmag b64 V * inUnits d r b64.qmin ≤ inUnits c q b64.qmin * 2 ^ 1074 := h
  have h'' := Nat.mul_le_mul_right (2 ^ 1126) h'
  rw [Nat.mul_assoc (inUnits c q b64.qmin), ← Nat.pow_add] at h''
  exact h''
theorem own_div_mono {a b : UInt64} (ha : DFin a) (hb : DFin b) (hp : 0 < own_z b) : own_Mono (val64 (Core.ddiv a b)) (own_z a * own_u) (own_z b) := by
  intro V hV nV
  rw [val64_ddiv]
  have fa := val64_fits a
  have fb := val64_fits b
  unfold own_z at hp ⊢
  obtain ⟨s, c, q, ea⟩ := ha
  obtain ⟨t, d, r, eb⟩ := hb
  rw [ea] at fa ⊢
  rw [eb] at fb hp ⊢
  have ht : t = false := by
    cases t with
    | false => rfl
    | true => exfalso; unfold zval at hp; simp [sgn, signed] at hp; omega
  subst ht
  have hd : 0 < d := by
    rcases Nat.eq_zero_or_pos d with h | h
    · subst h; exfalso; unfold zval zmag at hp; simp [inUnits, signed, sgn] at hp
    · exact h
  have eq : quotient b64 (.fin s c q) (.fin false d r) = roundRatio b64 (s != false) c d (q - r) := by
    show (if d = 0 then _ else _) = _
    rw [if_neg (by omega)]
  rw [eq]
  have hs : (s != false) = s := by cases s <;> rfl
  rw [hs]
  have le := own_div_mag_le (σ := s) (u := s) (c' := c) (q' := q) fa fb hd hV nV
  have ge := own_div_mag_ge (σ := s) (u := s) (c' := c) (q' := q) fa fb hd hV
  have zb : zval b64 (.fin false d r) = ((zmag b64 (.fin false d r) : Nat) : Int) := rfl
  have zb0 : 0 < zmag b64 (.fin false d r) := by rw [zb] at hp; omega
  have zr : zval b64 (roundRatio b64 s c d (q - r)) = signed s (zmag b64 (roundRatio b64 s c d (q - r))) := by unfold zval; rw [sgn_roundRatio]
  have za : zval b64 (.fin s c q) = signed s (zmag b64 (.fin s c q)) := rfl
  have zv : zval b64 V = signed (sgn V) (zmag b64 V) := rfl
  rw [zr, za, zv, zb]
  unfold own_u
  rw [← signed_mul, ← signed_mul]
  have hz1 : zmag b64 V * zmag b64 (.fin false d r) = 0 → zmag b64 V = 0 := fun h => by rcases Nat.mul_eq_zero.mp h with h | h <;> omega
  have hz2 : zmag b64 (.fin s c q) * 2 ^ 1074 = 0 → zmag b64 (roundRatio b64 s c d (q - r)) = 0 := fun h => by
    have := own_div_mag_le (σ := s) (u := s) (c' := c) (q' := q) (V := .fin false 0 b64.qmin) fa fb hd (zero_fits good_b64 false) Datum.noConfusion (by rw [h]; exact Nat.zero_le _)
    have e0 : zmag b64 (.fin false 0 b64.qmin) = 0 := by unfold zmag inUnits; simp
    omega
  generalize zmag b64 V * zmag b64 (.fin false d r) = vP at *
  generalize zmag b64 (.fin s c q) * 2 ^ 1074 = xP at *
  generalize zmag b64 (roundRatio b64 s c d (q - r)) = R at *
  generalize zmag b64 V = v at *
  generalize sgn V = g at *
  constructor
  · intro h
    cases s <;> cases g <;> simp only [signed, if_true, Bool.false_eq_true, if_false] at h ⊢
    · have := le (by omega); omega
    · have := hz1 (by omega); have := hz2 (by omega); omega
    · omega
    · have := ge (by omega); omega
  · intro h
    cases s <;> cases g <;> simp only [signed, if_true, Bool.false_eq_true, if_false] at h ⊢
    · have := ge (by omega); omega
    · omega
    · have := hz1 (by omega); have := hz2 (by omega); omega
    · have := le (by omega); omega
theorem own_In.fin {k : Nat} {lo hi : Int} {a : UInt64} (h : own_In k lo hi a) : DFin a := h.1
theorem own_In.nn {k : Nat} {lo hi : Int} {a : UInt64} (h : own_In k lo hi a) : Jvm.Free.Fl.NoNaN64 a := Jvm.Free.Fl.val64_no.mpr h.1.ne_nan
theorem own_In.z0 {lo hi : Int} {a : UInt64} (h : own_In 0 lo hi a) : lo * own_u ≤ own_z a ∧ own_z a ≤ hi * own_u := by
  obtain ⟨-, h1, h2⟩ := h
  rw [Int.pow_zero, Int.mul_one] at h1 h2
  exact ⟨h1, h2⟩
theorem own_In.zz {i : Int} {a : UInt64} (h : own_In 0 i i a) : own_z a = i * own_u := by
  have := h.z0; omega
theorem own_In.of_int {i : Int} {a : UInt64} (h : DInt i a) : own_In 0 i i a := by
  unfold DInt at h
  have fa := val64_fits a
  cases e : val64 a with
  | nan => rw [e] at h; exact h.elim
  | inf s => rw [e] at h; exact h.elim
  | fin s c q =>
    rw [e] at h fa
    have q1 := fa.2.1
    rw [qmin_b64] at q1
    have hz : own_z a = i * own_u := by
      unfold own_z own_u
      rw [e]
      show signed s (inUnits c q b64.qmin) = _
      have h' : signed s (c * 2 ^ q.toNat) = i * ((2 ^ (-q).toNat : Nat) : Int) := h
      have e1 : inUnits c q b64.qmin * 2 ^ (-q).toNat = c * 2 ^ q.toNat * 2 ^ 1074 := by
        rw [qmin_b64]
        unfold inUnits
        rw [Nat.mul_assoc, ← Nat.pow_add, Nat.mul_assoc, ← Nat.pow_add]
        congr 2; omega
      have e2 : signed s (inUnits c q b64.qmin) * ((2 ^ (-q).toNat : Nat) : Int) = i * ((2 ^ 1074 : Nat) : Int) * ((2 ^ (-q).toNat : Nat) : Int) := by
        rw [← signed_mul, e1, signed_mul, h', Int.mul_right_comm]
      exact Int.eq_of_mul_eq_mul_right (by have := Nat.two_pow_pos (-q).toNat; omega) e2
    refine ⟨⟨s, c, q, e⟩, ?_, ?_⟩ <;> rw [hz, Int.pow_zero, Int.mul_one] <;> exact Int.le_refl _
theorem own_In.l2d {a : Int64} (h : a.toInt.natAbs ≤ 2 ^ 53) : own_In 0 a.toInt a.toInt (Jvm.FP.l2d a) := own_In.of_int (l2d_int h)
theorem own_In.i2d (a : Int32) : own_In 0 a.toInt a.toInt (Jvm.FP.i2d a) := own_In.of_int (i2d_int a)
theorem own_In.scale {k : Nat} {lo hi : Int} {a : UInt64} (j : Nat) (h : own_In k lo hi a) : own_In (k + j) (lo * 2 ^ j) (hi * 2 ^ j) a := by
  obtain ⟨f, h1, h2⟩ := h
  have p := Int.le_of_lt (own_p_pos j)
  refine ⟨f, ?_, ?_⟩
  · rw [Int.pow_add, ← Int.mul_assoc, Int.mul_right_comm lo]; exact Int.mul_le_mul_of_nonneg_right h1 p
  · rw [Int.pow_add, ← Int.mul_assoc, Int.mul_right_comm hi]; exact Int.mul_le_mul_of_nonneg_right h2 p
theorem own_In.wide {k : Nat} {lo hi lo' hi' : Int} {a : UInt64} (h : own_In k lo hi a) (h1 : lo' ≤ lo) (h2 : hi ≤ hi') : own_In k lo' hi' a := by
  obtain ⟨f, a1, a2⟩ := h
  have p := Int.le_of_lt own_u_pos
  exact ⟨f, Int.le_trans (Int.mul_le_mul_of_nonneg_right h1 p) a1, Int.le_trans a2 (Int.mul_le_mul_of_nonneg_right h2 p)⟩
theorem own_ne_of_fin {a b : UInt64} (ha : DFin a) (hb : DFin b) : val64 (Core.dadd a b) ≠ .nan := (notNaN_iff _).mp (dadd_out ha.notNaN hb)
theorem own_In.add {k : Nat} {l1 h1 l2 h2 : Int} {a b : UInt64} (ha : own_In k l1 h1 a) (hb : own_In k l2 h2 b) (hk : k ≤ 1000) (bl : (l1 + l2).natAbs < 2 ^ 53) (bh : (h1 + h2).natAbs < 2 ^ 53) : own_In k (l1 + l2) (h1 + h2) (Jvm.FP.dadd a b) := by
  refine own_mk (own_ne_of_fin ha.1 hb.1) (own_add_mono ha.1 hb.1) (by decide) hk bl bh ?_ ?_
  · rw [Int.mul_one, Int.add_mul, Int.add_mul]; exact Int.add_le_add ha.2.1 hb.2.1
  · rw [Int.mul_one, Int.add_mul, Int.add_mul]; exact Int.add_le_add ha.2.2 hb.2.2
theorem own_In.mul {k : Nat} {s l h : Int} {a b : UInt64} (ha : own_In 0 s s a) (hs : 0 ≤ s) (hb : own_In k l h b) (hk : k ≤ 1000) (bl : (s * l).natAbs < 2 ^ 53) (bh : (s * h).natAbs < 2 ^ 53) : own_In k (s * l) (s * h) (Jvm.FP.dmul a b) := by
  have e : own_z a * own_z b * 2 ^ k = s * own_u * (own_z b * 2 ^ k) := by rw [ha.zz, Int.mul_assoc]
  have p : 0 ≤ s * own_u := Int.mul_nonneg hs (Int.le_of_lt own_u_pos)
  refine own_mk ((notNaN_iff _).mp (dmul_out ha.1 hb.1)) (own_mul_mono ha.1 hb.1) own_u_pos hk bl bh ?_ ?_
  · rw [e, own_ac1 s l]; exact Int.mul_le_mul_of_nonneg_left hb.2.1 p
  · rw [e, own_ac1 s h]; exact Int.mul_le_mul_of_nonneg_left hb.2.2 p
theorem own_z_nz {d : Int} {b : UInt64} (hb : own_In 0 d d b) (hd : 0 < d) : 0 < own_z b := by rw [hb.zz]; exact Int.mul_pos hd own_u_pos
theorem own_nz {b : UInt64} (h : 0 < own_z b) : ¬ DZero b := by
  rintro ⟨s, q, e⟩
  unfold own_z at h
  rw [e] at h
  unfold zval zmag at h
  simp [inUnits, sgn, signed_zero] at h
theorem own_In.div {k : Nat} {n d l h : Int} {a b : UInt64} (ha : own_In 0 n n a) (hb : own_In 0 d d b) (hd : 0 < d) (hk : k ≤ 1000) (bl : l.natAbs < 2 ^ 53) (bh : h.natAbs < 2 ^ 53) (h1 : l * d ≤ n * 2 ^ k) (h2 : n * 2 ^ k ≤ h * d) : own_In k l h (Jvm.FP.ddiv a b) := by
  have zb := own_z_nz hb hd
  have p : 0 ≤ own_u * own_u := Int.mul_nonneg (Int.le_of_lt own_u_pos) (Int.le_of_lt own_u_pos)
  refine own_mk ((notNaN_iff _).mp (ddiv_out ha.1.notNaN hb.1 (own_nz zb))) (own_div_mono ha.1 hb.1 zb) zb hk bl bh ?_ ?_
  · rw [ha.zz, hb.zz, own_ac2 l, own_ac3 n]
    exact Int.mul_le_mul_of_nonneg_right h1 p
  · rw [ha.zz, hb.zz, own_ac2 h, own_ac3 n]
    exact Int.mul_le_mul_of_nonneg_right h2 p
theorem own_cmpN {a b : UInt64} (ha : val64 a ≠ .nan) (hb : val64 b ≠ .nan) : Jvm.FP.dcmp a b = some (compare (own_z a) (own_z b)) := order_zval good_b64 (val64_fits a) (val64_fits b) ha hb
theorem own_cmp {a b : UInt64} (ha : DFin a) (hb : DFin b) : Jvm.FP.dcmp a b = some (compare (own_z a) (own_z b)) := own_cmpN ha.ne_nan hb.ne_nan
theorem own_ltZ {a b : UInt64} (ha : val64 a ≠ .nan) (hb : val64 b ≠ .nan) (q : own_z a < own_z b) (o : ClassFile.CmpOp) : Op.cmpValue (Jvm.FP.dcmp a b) o = -1 := by
  rw [own_cmpN ha hb, show compare (own_z a) (own_z b) = .lt from by simp [compare, compareOfLessAndEq, q]]; rfl
theorem own_gtZ {a b : UInt64} (ha : val64 a ≠ .nan) (hb : val64 b ≠ .nan) (q : own_z b < own_z a) (o : ClassFile.CmpOp) : Op.cmpValue (Jvm.FP.dcmp a b) o = 1 := by
  have q1 : ¬ own_z a < own_z b := by omega
  have q2 : ¬ own_z a = own_z b := by omega
  rw [own_cmpN ha hb, show compare (own_z a) (own_z b) = .gt from by simp [compare, compareOfLessAndEq, q1, q2]]; rfl
theorem own_eqZ {a b : UInt64} (ha : val64 a ≠ .nan) (hb : val64 b ≠ .nan) (q : own_z a = own_z b) (o : ClassFile.CmpOp) : Op.cmpValue (Jvm.FP.dcmp a b) o = 0 := by
  rw [own_cmpN ha hb, q, compare_self_int]; rfl
theorem own_geZ {a b : UInt64} (ha : val64 a ≠ .nan) (hb : val64 b ≠ .nan) (q : own_z b ≤ own_z a) (o : ClassFile.CmpOp) : ¬ Op.cmpValue (Jvm.FP.dcmp a b) o < 0 := by
  by_cases h : own_z a = own_z b
  · rw [own_eqZ ha hb h]; decide
  · rw [own_gtZ ha hb (by omega)]; decide
theorem own_leZ {a b : UInt64} (ha : val64 a ≠ .nan) (hb : val64 b ≠ .nan) (q : own_z a ≤ own_z b) (o : ClassFile.CmpOp) : ¬ (0 : Int32) < Op.cmpValue (Jvm.FP.dcmp a b) o := by
  by_cases h : own_z a = own_z b
  · rw [own_eqZ ha hb h]; decide
  · rw [own_ltZ ha hb (by omega)]; decide
theorem own_neg_z (a : UInt64) : own_z (Jvm.FP.dneg a) = -own_z a := by
  unfold own_z
  rw [Jvm.FP.val64_dneg, zval_negate]
theorem own_neg_ne {a : UInt64} (h : val64 a ≠ .nan) : val64 (Jvm.FP.dneg a) ≠ .nan := by
  rw [Jvm.FP.val64_dneg]; exact negate_ne_nan h
theorem own_lit {a : UInt64} {i : Int} {c : Nat} {q : Int} (h : val64 a = .fin false c q) (h2 : ((c * 2 ^ q.toNat : Nat) : Int) = i * ((2 ^ (-q).toNat : Nat) : Int)) : own_In 0 i i a := own_In.of_int (show Whole i (val64 a) from by rw [h]; exact h2)
theorem own_In0 : own_In 0 0 0 (0 : UInt64) := own_lit (c := 0) (q := -1074) (by decide +kernel) (by simp)
theorem own_In1 : own_In 0 1 1 (4607182418800017408 : UInt64) := own_lit (c := 4503599627370496) (q := -52) (by decide +kernel) (by decide)
/-- |y| ≤ Double.MAX_VALUE for a finite y -/
theorem own_absle {y : UInt64} (h : Jvm.Free.Fl.Fin64 y) (o : ClassFile.CmpOp) : ¬ (0 : Int32) < Op.cmpValue (Jvm.FP.dcmp (y &&& 0x7fffffffffffffff) 9218868437227405311) o := by
  have hn := Jvm.Free.Fl.abs_toNat y
  have hf := (Jvm.Free.Fl.fin64_iff y).mp h
  have h1 : val64 (y &&& 0x7fffffffffffffff) ≠ .nan := (ne_nan _).mpr (by omega)
  have h2 : val64 (9218868437227405311 : UInt64) ≠ .nan := by decide +kernel
  have k : Jvm.FP.dcmp (y &&& 0x7fffffffffffffff) 9218868437227405311 = some (compare (key b64 (y &&& 0x7fffffffffffffff).toNat) (key b64 (9218868437227405311 : UInt64).toNat)) := cmp_key good_b64 (lt_full64 _) (lt_full64 _) h1 h2
  have e2 : key b64 (9218868437227405311 : UInt64).toNat = 9218868437227405311 := by decide +kernel
  have e1 : key b64 (y &&& 0x7fffffffffffffff).toNat = ((y.toNat % 9223372036854775808 : Nat) : Int) := by
    unfold key mag
    rw [half_b64, hn]
    have : ¬ 2 ^ 63 ≤ y.toNat % 9223372036854775808 := by omega
    rw [show y.toNat % 9223372036854775808 % 2 ^ 63 = y.toNat % 9223372036854775808 from Nat.mod_eq_of_lt (by omega)]
    simp [this, signed]
  rw [k, e1, e2]
  by_cases q1 : ((y.toNat % 9223372036854775808 : Nat) : Int) < 9218868437227405311
  · rw [show compare ((y.toNat % 9223372036854775808 : Nat) : Int) 9218868437227405311 = .lt from by simp only [compare, compareOfLessAndEq, q1, if_true]]; cases o <;> decide
  · have q2 : ((y.toNat % 9223372036854775808 : Nat) : Int) = 9218868437227405311 := by omega
    rw [q2, compare_self_int]; cases o <;> decide
theorem own_In.lt {k : Nat} {l1 h1 l2 h2 : Int} {a b : UInt64} (ha : own_In k l1 h1 a) (hb : own_In k l2 h2 b) (h : h1 < l2) (o : ClassFile.CmpOp) : Op.cmpValue (Jvm.FP.dcmp a b) o = -1 := by
  have q : own_z a < own_z b := by
    refine Int.lt_of_mul_lt_mul_right ?_ (Int.le_of_lt (own_p_pos k))
    exact Int.lt_of_le_of_lt ha.2.2 (Int.lt_of_lt_of_le (Int.mul_lt_mul_of_pos_right h own_u_pos) hb.2.1)
  rw [own_cmp ha.1 hb.1, show compare (own_z a) (own_z b) = .lt from by simp [compare, compareOfLessAndEq, q]]; rfl
theorem own_In.gt {k : Nat} {l1 h1 l2 h2 : Int} {a b : UInt64} (ha : own_In k l1 h1 a) (hb : own_In k l2 h2 b) (h : h2 < l1) (o : ClassFile.CmpOp) : Op.cmpValue (Jvm.FP.dcmp a b) o = 1 := by
  have q : own_z b < own_z a := by
    refine Int.lt_of_mul_lt_mul_right ?_ (Int.le_of_lt (own_p_pos k))
    exact Int.lt_of_le_of_lt hb.2.2 (Int.lt_of_lt_of_le (Int.mul_lt_mul_of_pos_right h own_u_pos) ha.2.1)
  rw [own_cmp ha.1 hb.1, show compare (own_z a) (own_z b) = .gt from by simp [compare, compareOfLessAndEq, (show ¬ own_z a < own_z b by omega), (show ¬ own_z a = own_z b by omega)]]; rfl
theorem own_In.eq {k : Nat} {i : Int} {a b : UInt64} (ha : own_In k i i a) (hb : own_In k i i b) (o : ClassFile.CmpOp) : Op.cmpValue (Jvm.FP.dcmp a b) o = 0 := by
  have q : own_z a = own_z b := by
    refine Int.eq_of_mul_eq_mul_right (Int.ne_of_gt (own_p_pos k)) ?_
    have := ha.2.1; have := ha.2.2; have := hb.2.1; have := hb.2.2
    omega
  rw [own_cmp ha.1 hb.1, q, compare_self_int]; rfl
theorem own_In.le {k : Nat} {l1 h1 l2 h2 : Int} {a b : UInt64} (ha : own_In k l1 h1 a) (hb : own_In k l2 h2 b) (h : h1 ≤ l2) (o : ClassFile.CmpOp) : ¬ (0 : Int32) < Op.cmpValue (Jvm.FP.dcmp a b) o := by
  have q : own_z a ≤ own_z b := by
    refine Int.le_of_mul_le_mul_right ?_ (own_p_pos k)
    exact Int.le_trans ha.2.2 (Int.le_trans (Int.mul_le_mul_of_nonneg_right h (Int.le_of_lt own_u_pos)) hb.2.1)
  rw [own_cmp ha.1 hb.1]
  by_cases q1 : own_z a < own_z b
  · rw [show compare (own_z a) (own_z b) = .lt from by simp [compare, compareOfLessAndEq, q1]]; cases o <;> decide
  · have q2 : own_z a = own_z b := by omega
    rw [q2, compare_self_int]; cases o <;> decide
end OwnFloat
end Jvm.Pilot.@@N@@
namespace Jvm.Pilot.@@N@@
open Jvm Jvm.ClassFile Sem Op Lib Jvm.Free Jvm.Stand Jvm.LawKit Jvm.RoadKit Bundle Jvm.Pilot.@@N@@.Jvm.D

theorem pd__II_I : parseMethodDescriptor "(II)I" = some ⟨[.int, .int], some .int⟩ := by decide +kernel
theorem d1_0 : decode jdk_29_method_69_code 0 = .ok (.iload_n 0, 1) := by decide +kernel
theorem d1_1 : decode jdk_29_method_69_code 1 = .ok (.iload_n 1, 1) := by decide +kernel
theorem d1_2 : decode jdk_29_method_69_code 2 = .ok (.if_icmp .gt 7, 3) := by decide +kernel
theorem d1_5 : decode jdk_29_method_69_code 5 = .ok (.iload_n 0, 1) := by decide +kernel
theorem d1_6 : decode jdk_29_method_69_code 6 = .ok (.goto 4, 3) := by decide +kernel
theorem d1_9 : decode jdk_29_method_69_code 9 = .ok (.iload_n 1, 1) := by decide +kernel
theorem d1_10 : decode jdk_29_method_69_code 10 = .ok (.ireturn, 1) := by decide +kernel
def QMmin (r : Int32) (h0 : Heap) (n0 : Nat) (v : Option Value) (h : Heap) (L : List Loc) : Prop := v = some (.int r) ∧ Fr n0 L ∧ h = h0
set_option maxRecDepth 65536 in
set_option maxHeartbeats 40000000 in
theorem rm_min (l : Launch) (Z : State) (a0 : Array Value) (hw : ∀ d ∈ tables_1, d.before a0 Z = true) (ws : List Jvm.Cond) (x1 : Int32) (x2 : Int32) (r : Int32) (h0 : Heap) (n0 : Nat) (Z0 : n0 ≤ h0.size) (hr : (x2 < x1 ∧ r = x2) ∨ (¬ x2 < x1 ∧ r = x1)) :
    MetFree l (⟨"java/lang/Math", "min", "(II)I"⟩ : MethodName) (head1 (Jvm.Cond.code (⟨"java/lang/Math", "min", "(II)I"⟩ : MethodName) jdk_29_method_69_code 2 (some .int) :: ws) ({ frames := 0, cells := 0, slots := 0, locals := 0 } : Room)) (fun a U => a = #[(.int x1), (.int x2)] ∧ Z.Warmed39 U.vm ∧ U.heap = h0) (fun _ _ _ _ _ => True) (fun _ U o U' => ∃ v L, o = .returned v ∧ QMmin r h0 n0 v U'.heap L ∧ FrameEnd U o U' L ({ frames := 0, cells := 0, slots := 0, locals := 0 } : Room).cells ({ frames := 0, cells := 0, slots := 0, locals := 0 } : Room).slots) := by
  refine MetFree.of_bodySF (JP.mathPlain rfl (by decide +kernel)) hisR ?_
  intro p e s m args below meth c s₁ Bd hml0 hP hK
  obtain ⟨rfl, hZ, hh⟩ := hP
  have hx := Bd.exec
  have hby := Bd.bytes
  have hml : c.maxLocals = 2 := hml0
  have hown : s.vm.findClass "java/lang/Math" = some m.cls := findClass_of_methodNamed Bd.named
  have hnm := (name_of_methodNamed Bd.named Bd.method).1
  have X0 : Stand p l e ({ frames := 0, cells := 0, slots := 0, locals := 0 } : Room) s m #[(.int x1), (.int x2)] below meth c s₁ [] 0 0 := Stand.of_body Bd
  have e0 : s₁.heap = h0 := by rw [← hh, Bd.state]; rfl
  have N0 := Fr.nil n0
  have c0 : Steps p.tables e below (s₁.setTop (entryFrame m #[(.int x1), (.int x2)] 2)) (s₁.setTop (mkF m 0 #[.val (.int x1), .val (.int x2)] [])) := XT.entry rfl
  have cc1 : Steps p.tables e below (s₁.setTop (entryFrame m #[(.int x1), (.int x2)] 2)) (s₁.setTop (mkF m 2 #[.val (.int x1), .val (.int x2)] [(.int x2), (.int x1)])) := c0.trans (by
    refine XS.iloadN X0.here hx rfl (hb hby d1_0) rfl ?_
    refine XS.iloadN X0.here hx rfl (hb hby d1_1) rfl ?_
    exact Steps.refl _)
  rcases hr with ⟨h1, h2⟩ | ⟨h1, h2⟩
  ·
    have cc2 : Steps p.tables e below (s₁.setTop (entryFrame m #[(.int x1), (.int x2)] 2)) (s₁.setTop (mkF m 10 #[.val (.int x1), .val (.int x2)] [(.int x2)])) := cc1.trans (by
      refine XS.icmpYes X0.here hx rfl (pc0 := 2) (pc' := 9) rfl (hb hby d1_2) rfl (XT.ii_gt_t h1) (by decide) (by decide) ?_
      refine XS.iloadN X0.here hx rfl (hb hby d1_9) rfl ?_
      exact Steps.refl _)
    obtain ⟨fs, hr, hrun, hended, hW, hsame⟩ := X0.leave (v := some (.int x2)) (fun h => by rw [Bd.returns] at h; cases h)
    refine ⟨_, _, cc2.trans ?_, hrun, hended, _, _, rfl, ?_, ⟨_, rfl⟩, hW, hsame.mono (by decide) (by decide)⟩
    · exact retI X0 hx Bd.returns (hb hby d1_10) hr
    · show QMmin r h0 n0 _ s₁.heap _
      rw [e0]
      exact ⟨by rw [h2], N0, rfl⟩
  ·
    have cc2 : Steps p.tables e below (s₁.setTop (entryFrame m #[(.int x1), (.int x2)] 2)) (s₁.setTop (mkF m 10 #[.val (.int x1), .val (.int x2)] [(.int x1)])) := cc1.trans (by
      refine XS.icmpNo X0.here hx rfl (hb hby d1_2) rfl (XT.ii_gt_f h1) ?_
      refine XS.iloadN X0.here hx rfl (hb hby d1_5) rfl ?_
      refine XS.goto X0.here hx rfl (pc0 := 6) (pc' := 10) rfl (hb hby d1_6) (by decide) (by decide) ?_
      exact Steps.refl _)
    obtain ⟨fs, hr, hrun, hended, hW, hsame⟩ := X0.leave (v := some (.int x1)) (fun h => by rw [Bd.returns] at h; cases h)
    refine ⟨_, _, cc2.trans ?_, hrun, hended, _, _, rfl, ?_, ⟨_, rfl⟩, hW, hsame.mono (by decide) (by decide)⟩
    · exact retI X0 hx Bd.returns (hb hby d1_10) hr
    · show QMmin r h0 n0 _ s₁.heap _
      rw [e0]
      exact ⟨by rw [h2], N0, rfl⟩
theorem d2_0 : decode jdk_29_method_65_code 0 = .ok (.iload_n 0, 1) := by decide +kernel
theorem d2_1 : decode jdk_29_method_65_code 1 = .ok (.iload_n 1, 1) := by decide +kernel
theorem d2_2 : decode jdk_29_method_65_code 2 = .ok (.if_icmp .lt 7, 3) := by decide +kernel
theorem d2_5 : decode jdk_29_method_65_code 5 = .ok (.iload_n 0, 1) := by decide +kernel
theorem d2_6 : decode jdk_29_method_65_code 6 = .ok (.goto 4, 3) := by decide +kernel
theorem d2_9 : decode jdk_29_method_65_code 9 = .ok (.iload_n 1, 1) := by decide +kernel
theorem d2_10 : decode jdk_29_method_65_code 10 = .ok (.ireturn, 1) := by decide +kernel
def QMmax (r : Int32) (h0 : Heap) (n0 : Nat) (v : Option Value) (h : Heap) (L : List Loc) : Prop := v = some (.int r) ∧ Fr n0 L ∧ h = h0
set_option maxRecDepth 65536 in
set_option maxHeartbeats 40000000 in
theorem rm_max (l : Launch) (Z : State) (a0 : Array Value) (hw : ∀ d ∈ tables_1, d.before a0 Z = true) (ws : List Jvm.Cond) (x1 : Int32) (x2 : Int32) (r : Int32) (h0 : Heap) (n0 : Nat) (Z0 : n0 ≤ h0.size) (hr : (x1 < x2 ∧ r = x2) ∨ (¬ x1 < x2 ∧ r = x1)) :
    MetFree l (⟨"java/lang/Math", "max", "(II)I"⟩ : MethodName) (head1 (Jvm.Cond.code (⟨"java/lang/Math", "max", "(II)I"⟩ : MethodName) jdk_29_method_65_code 2 (some .int) :: ws) ({ frames := 0, cells := 0, slots := 0, locals := 0 } : Room)) (fun a U => a = #[(.int x1), (.int x2)] ∧ Z.Warmed39 U.vm ∧ U.heap = h0) (fun _ _ _ _ _ => True) (fun _ U o U' => ∃ v L, o = .returned v ∧ QMmax r h0 n0 v U'.heap L ∧ FrameEnd U o U' L ({ frames := 0, cells := 0, slots := 0, locals := 0 } : Room).cells ({ frames := 0, cells := 0, slots := 0, locals := 0 } : Room).slots) := by
  refine MetFree.of_bodySF (JP.mathPlain rfl (by decide +kernel)) hisR ?_
  intro p e s m args below meth c s₁ Bd hml0 hP hK
  obtain ⟨rfl, hZ, hh⟩ := hP
  have hx := Bd.exec
  have hby := Bd.bytes
  have hml : c.maxLocals = 2 := hml0
  have hown : s.vm.findClass "java/lang/Math" = some m.cls := findClass_of_methodNamed Bd.named
  have hnm := (name_of_methodNamed Bd.named Bd.method).1
  have X0 : Stand p l e ({ frames := 0, cells := 0, slots := 0, locals := 0 } : Room) s m #[(.int x1), (.int x2)] below meth c s₁ [] 0 0 := Stand.of_body Bd
  have e0 : s₁.heap = h0 := by rw [← hh, Bd.state]; rfl
  have N0 := Fr.nil n0
  have c0 : Steps p.tables e below (s₁.setTop (entryFrame m #[(.int x1), (.int x2)] 2)) (s₁.setTop (mkF m 0 #[.val (.int x1), .val (.int x2)] [])) := XT.entry rfl
  have cc1 : Steps p.tables e below (s₁.setTop (entryFrame m #[(.int x1), (.int x2)] 2)) (s₁.setTop (mkF m 2 #[.val (.int x1), .val (.int x2)] [(.int x2), (.int x1)])) := c0.trans (by
    refine XS.iloadN X0.here hx rfl (hb hby d2_0) rfl ?_
    refine XS.iloadN X0.here hx rfl (hb hby d2_1) rfl ?_
    exact Steps.refl _)
  rcases hr with ⟨h1, h2⟩ | ⟨h1, h2⟩
  ·
    have cc2 : Steps p.tables e below (s₁.setTop (entryFrame m #[(.int x1), (.int x2)] 2)) (s₁.setTop (mkF m 10 #[.val (.int x1), .val (.int x2)] [(.int x2)])) := cc1.trans (by
      refine XS.icmpYes X0.here hx rfl (pc0 := 2) (pc' := 9) rfl (hb hby d2_2) rfl (XT.ii_lt_t h1) (by decide) (by decide) ?_
      refine XS.iloadN X0.here hx rfl (hb hby d2_9) rfl ?_
      exact Steps.refl _)
    obtain ⟨fs, hr, hrun, hended, hW, hsame⟩ := X0.leave (v := some (.int x2)) (fun h => by rw [Bd.returns] at h; cases h)
    refine ⟨_, _, cc2.trans ?_, hrun, hended, _, _, rfl, ?_, ⟨_, rfl⟩, hW, hsame.mono (by decide) (by decide)⟩
    · exact retI X0 hx Bd.returns (hb hby d2_10) hr
    · show QMmax r h0 n0 _ s₁.heap _
      rw [e0]
      exact ⟨by rw [h2], N0, rfl⟩
  ·
    have cc2 : Steps p.tables e below (s₁.setTop (entryFrame m #[(.int x1), (.int x2)] 2)) (s₁.setTop (mkF m 10 #[.val (.int x1), .val (.int x2)] [(.int x1)])) := cc1.trans (by
      refine XS.icmpNo X0.here hx rfl (hb hby d2_2) rfl (XT.ii_lt_f h1) ?_
      refine XS.iloadN X0.here hx rfl (hb hby d2_5) rfl ?_
      refine XS.goto X0.here hx rfl (pc0 := 6) (pc' := 10) rfl (hb hby d2_6) (by decide) (by decide) ?_
      exact Steps.refl _)
    obtain ⟨fs, hr, hrun, hended, hW, hsame⟩ := X0.leave (v := some (.int x1)) (fun h => by rw [Bd.returns] at h; cases h)
    refine ⟨_, _, cc2.trans ?_, hrun, hended, _, _, rfl, ?_, ⟨_, rfl⟩, hW, hsame.mono (by decide) (by decide)⟩
    · exact retI X0 hx Bd.returns (hb hby d2_10) hr
    · show QMmax r h0 n0 _ s₁.heap _
      rw [e0]
      exact ⟨by rw [h2], N0, rfl⟩
theorem d4_0 : decode jdk_43_method_3_code 0 = .ok (.iload_n 0, 1) := by decide +kernel
theorem d4_1 : decode jdk_43_method_3_code 1 = .ok (.sipush 255, 3) := by decide +kernel
theorem d4_4 : decode jdk_43_method_3_code 4 = .ok (.if_icmp .gt 7, 3) := by decide +kernel
theorem d4_7 : decode jdk_43_method_3_code 7 = .ok (.iconst 1, 1) := by decide +kernel
theorem d4_8 : decode jdk_43_method_3_code 8 = .ok (.goto 4, 3) := by decide +kernel
theorem d4_11 : decode jdk_43_method_3_code 11 = .ok (.iconst 0, 1) := by decide +kernel
theorem d4_12 : decode jdk_43_method_3_code 12 = .ok (.ireturn, 1) := by decide +kernel
theorem pn_4 : plainName "java/lang/StringLatin1" = true := by first | (simp [plainName, overriddenIn]; done) | decide +kernel
theorem d5_0 : decode jdk_43_method_46_code 0 = .ok (.iconst 1, 1) := by decide +kernel
theorem d5_1 : decode jdk_43_method_46_code 1 = .ok (.newarray .byte, 2) := by decide +kernel
theorem d5_3 : decode jdk_43_method_46_code 3 = .ok (.dup, 1) := by decide +kernel
theorem d5_4 : decode jdk_43_method_46_code 4 = .ok (.iconst 0, 1) := by decide +kernel
theorem d5_5 : decode jdk_43_method_46_code 5 = .ok (.iload_n 0, 1) := by decide +kernel
theorem d5_6 : decode jdk_43_method_46_code 6 = .ok (.i2b, 1) := by decide +kernel
theorem d5_7 : decode jdk_43_method_46_code 7 = .ok (.bastore, 1) := by decide +kernel
theorem d5_8 : decode jdk_43_method_46_code 8 = .ok (.areturn, 1) := by decide +kernel
theorem pn_5 : plainName "java/lang/StringLatin1" = true := by first | (simp [plainName, overriddenIn]; done) | decide +kernel
theorem d6_0 : decode jdk_42_method_151_code 0 = .ok (.aload_n 0, 1) := by decide +kernel
theorem d6_1 : decode jdk_42_method_151_code 1 = .ok (.invokespecial 1, 3) := by decide +kernel
theorem d6_4 : decode jdk_42_method_151_code 4 = .ok (.aload_n 0, 1) := by decide +kernel
theorem d6_5 : decode jdk_42_method_151_code 5 = .ok (.aload_n 1, 1) := by decide +kernel
theorem d6_6 : decode jdk_42_method_151_code 6 = .ok (.putfield 9, 3) := by decide +kernel
theorem d6_9 : decode jdk_42_method_151_code 9 = .ok (.aload_n 0, 1) := by decide +kernel
theorem d6_10 : decode jdk_42_method_151_code 10 = .ok (.iload_n 2, 1) := by decide +kernel
theorem d6_11 : decode jdk_42_method_151_code 11 = .ok (.putfield 15, 3) := by decide +kernel
theorem d6_14 : decode jdk_42_method_151_code 14 = .ok (.return_, 1) := by decide +kernel
theorem pn_6 : plainName "java/lang/String" = true := by first | (simp [plainName, overriddenIn]; done) | decide +kernel
theorem d3_0 : decode jdk_42_method_139_code 0 = .ok (.getstatic 38, 3) := by decide +kernel
theorem d3_3 : decode jdk_42_method_139_code 3 = .ok (.ifCond .eq 23, 3) := by decide +kernel
theorem d3_6 : decode jdk_42_method_139_code 6 = .ok (.iload_n 0, 1) := by decide +kernel
theorem d3_7 : decode jdk_42_method_139_code 7 = .ok (.invokestatic 1015, 3) := by decide +kernel
theorem d3_10 : decode jdk_42_method_139_code 10 = .ok (.ifCond .eq 16, 3) := by decide +kernel
theorem d3_13 : decode jdk_42_method_139_code 13 = .ok (.new 10, 3) := by decide +kernel
theorem d3_16 : decode jdk_42_method_139_code 16 = .ok (.dup, 1) := by decide +kernel
theorem d3_17 : decode jdk_42_method_139_code 17 = .ok (.iload_n 0, 1) := by decide +kernel
theorem d3_18 : decode jdk_42_method_139_code 18 = .ok (.invokestatic 1018, 3) := by decide +kernel
theorem d3_21 : decode jdk_42_method_139_code 21 = .ok (.iconst 0, 1) := by decide +kernel
theorem d3_22 : decode jdk_42_method_139_code 22 = .ok (.invokespecial 209, 3) := by decide +kernel
theorem d3_25 : decode jdk_42_method_139_code 25 = .ok (.areturn, 1) := by decide +kernel
theorem pn_3 : plainName "java/lang/String" = true := by first | (simp [plainName, overriddenIn]; done) | decide +kernel
theorem pd__C_Z : parseMethodDescriptor "(C)Z" = some ⟨[.char], some .boolean⟩ := by decide +kernel
theorem pd__C__B : parseMethodDescriptor "(C)[B" = some ⟨[.char], some (.array .byte)⟩ := by decide +kernel
theorem pd___BB_V : parseMethodDescriptor "([BB)V" = some ⟨[(.array .byte), .byte], none⟩ := by decide +kernel
theorem pd__C_Ljava_lang_String_ : parseMethodDescriptor "(C)Ljava/lang/String;" = some ⟨[.char], some (.object "java/lang/String")⟩ := by decide +kernel
def QCE (h0 : Heap) (n0 : Nat) (v : Option Value) (h : Heap) (L : List Loc) : Prop := v = some (.int 1) ∧ Fr n0 L ∧ h = h0
set_option maxRecDepth 65536 in
set_option maxHeartbeats 40000000 in
theorem rmCE (l : Launch) (Z : State) (a0 : Array Value) (hw : ∀ d ∈ tables_1, d.before a0 Z = true) (ws : List Jvm.Cond) (ch1 : Int32) (h0 : Heap) (n0 : Nat) (Z0 : n0 ≤ h0.size) (hc : ¬ ch1 < 0 ∧ ¬ (255 : Int32) < ch1) :
    MetFree l (⟨"java/lang/StringLatin1", "canEncode", "(C)Z"⟩ : MethodName) (head1 (Jvm.Cond.code (⟨"java/lang/StringLatin1", "canEncode", "(C)Z"⟩ : MethodName) jdk_43_method_3_code 1 (some .boolean) :: ws) ({ frames := 0, cells := 0, slots := 0, locals := 0 } : Room)) (fun a U => a = #[(.int ch1)] ∧ Z.Warmed39 U.vm ∧ U.heap = h0) (fun _ _ _ _ _ => True) (fun _ U o U' => ∃ v L, o = .returned v ∧ QCE h0 n0 v U'.heap L ∧ FrameEnd U o U' L ({ frames := 0, cells := 0, slots := 0, locals := 0 } : Room).cells ({ frames := 0, cells := 0, slots := 0, locals := 0 } : Room).slots) := by
  refine MetFree.of_bodySF (plainFor_of_name pn_4) hisR ?_
  intro p e s m args below meth c s₁ Bd hml0 hP hK
  obtain ⟨rfl, hZ, hh⟩ := hP
  have hx := Bd.exec
  have hby := Bd.bytes
  have hml : c.maxLocals = 1 := hml0
  have hown : s.vm.findClass "java/lang/StringLatin1" = some m.cls := findClass_of_methodNamed Bd.named
  have hnm := (name_of_methodNamed Bd.named Bd.method).1
  have X0 : Stand p l e ({ frames := 0, cells := 0, slots := 0, locals := 0 } : Room) s m #[(.int ch1)] below meth c s₁ [] 0 0 := Stand.of_body Bd
  have e0 : s₁.heap = h0 := by rw [← hh, Bd.state]; rfl
  have N0 := Fr.nil n0
  have c0 : Steps p.tables e below (s₁.setTop (entryFrame m #[(.int ch1)] 1)) (s₁.setTop (mkF m 0 #[.val (.int ch1)] [])) := XT.entry rfl
  have cc1 : Steps p.tables e below (s₁.setTop (entryFrame m #[(.int ch1)] 1)) (s₁.setTop (mkF m 12 #[.val (.int ch1)] [(.int (1 : Int32))])) := c0.trans (by
    refine XS.iloadN X0.here hx rfl (hb hby d4_0) rfl ?_
    refine XT.sipushV X0.here hx rfl ((255 : Int32)) (hb hby d4_1) (by decide) ?_
    refine XS.icmpNo X0.here hx rfl (hb hby d4_4) rfl (XT.ii_gt_f hc.2) ?_
    refine XT.iconstV X0.here hx rfl ((1 : Int32)) (hb hby d4_7) (by decide) ?_
    refine XS.goto X0.here hx rfl (pc0 := 8) (pc' := 12) rfl (hb hby d4_8) (by decide) (by decide) ?_
    exact Steps.refl _)
  obtain ⟨fs, hr, hrun, hended, hW, hsame⟩ := X0.leave (v := some (.int (1 : Int32))) (fun h => by rw [Bd.returns] at h; cases h)
  refine ⟨_, _, cc1.trans ?_, hrun, hended, _, _, rfl, ?_, ⟨_, rfl⟩, hW, hsame.mono (by decide) (by decide)⟩
  · exact retN X0 hx (t := .boolean) Bd.returns (by simp) (hb hby d4_12) hr
  · show QCE h0 n0 _ s₁.heap _
    rw [e0]
    exact ⟨rfl, N0, rfl⟩
def QTB (Z : State) (ch1 : Int32) (h0 : Heap) (n0 : Nat) (v : Option Value) (h : Heap) (L : List Loc) : Prop := ∃ aB kB, v = some (.ref aB) ∧ Fr n0 L ∧ Keep h0 h [] ∧ aB = h0.size ∧ Arv Z h aB kB .byte (1 : Int32) [(.int (nar .byte ch1.toInt8.toInt32))] (.int (0 : Int32))
set_option maxRecDepth 65536 in
set_option maxHeartbeats 40000000 in
theorem rmTB (l : Launch) (Z : State) (a0 : Array Value) (hw : ∀ d ∈ tables_1, d.before a0 Z = true) (ws : List Jvm.Cond) (ch1 : Int32) (h0 : Heap) (n0 : Nat) (Z0 : n0 ≤ h0.size)  :
    MetFree l (⟨"java/lang/StringLatin1", "toBytes", "(C)[B"⟩ : MethodName) (head1 (Jvm.Cond.code (⟨"java/lang/StringLatin1", "toBytes", "(C)[B"⟩ : MethodName) jdk_43_method_46_code 1 (some (.array .byte)) :: ws) ({ frames := 0, cells := 1, slots := 1, locals := 0 } : Room)) (fun a U => a = #[(.int ch1)] ∧ Z.Warmed39 U.vm ∧ U.heap = h0) (fun _ _ _ _ _ => True) (fun _ U o U' => ∃ v L, o = .returned v ∧ QTB Z ch1 h0 n0 v U'.heap L ∧ FrameEnd U o U' L ({ frames := 0, cells := 1, slots := 1, locals := 0 } : Room).cells ({ frames := 0, cells := 1, slots := 1, locals := 0 } : Room).slots) := by
  refine MetFree.of_bodySF (plainFor_of_name pn_5) hisR ?_
  intro p e s m args below meth c s₁ Bd hml0 hP hK
  obtain ⟨rfl, hZ, hh⟩ := hP
  have hx := Bd.exec
  have hby := Bd.bytes
  have hml : c.maxLocals = 1 := hml0
  have hown : s.vm.findClass "java/lang/StringLatin1" = some m.cls := findClass_of_methodNamed Bd.named
  have hnm := (name_of_methodNamed Bd.named Bd.method).1
  have X0 : Stand p l e ({ frames := 0, cells := 1, slots := 1, locals := 0 } : Room) s m #[(.int ch1)] below meth c s₁ [] 0 0 := Stand.of_body Bd
  have e0 : s₁.heap = h0 := by rw [← hh, Bd.state]; rfl
  have N0 := Fr.nil n0
  have c0 : Steps p.tables e below (s₁.setTop (entryFrame m #[(.int ch1)] 1)) (s₁.setTop (mkF m 0 #[.val (.int ch1)] [])) := XT.entry rfl
  obtain ⟨T1, h1, kA1, X1, e1, E1, A1, st1⟩ := newP X0 hx hZ (hw _ (List.mem_of_getElem? (i := 23) rfl)) e0 (g := (mkF m 1 #[.val (.int ch1)] [(.int (1 : Int32))])) rfl (hb hby d5_1) rfl (by decide : ¬ ((1 : Int32) < (0 : Int32))) (cap := 1) (by decide : (1 : Int32).toNatClampNeg ≤ 1) (by decide) (by decide) (by decide)
  obtain ⟨a1, g1⟩ : ∃ z, z = h0.size := ⟨_, rfl⟩
  rw [← g1] at A1 st1
  have Zs1 : n0 ≤ h1.size := Nat.le_trans Z0 E1.1
  have gn1 : n0 ≤ a1 := Nat.le_trans Z0 (Nat.le_of_eq g1.symm)
  have V1 : Arv Z h1 a1 kA1 .byte (1 : Int32) [] (.int (0 : Int32)) := Arv.new A1 (by decide)
  have V2p : Arv Z h1 a1 kA1 .byte (1 : Int32) [(.int (0 : Int32))] (.int (0 : Int32)) := V1.pad (pad_rep [] (.int (0 : Int32)) 1)
  obtain ⟨c2, A2, q2, S2, M2, H2, U2⟩ := id V2p
  obtain ⟨T2, h2, X2, e2, W2, st2⟩ := stB X1 hx hZ e1 A2 (j := (0 : Int32)) (inb_of S2 ⟨(by decide : ¬ ((0 : Int32) < (0 : Int32))), (by decide : (0 : Int32) < (1 : Int32))⟩) (g := (mkF m 7 #[.val (.int ch1)] [(.int ch1.toInt8.toInt32), (.int (0 : Int32)), (.ref a1), (.ref a1)])) rfl rfl (hb hby d5_7)
  have N2 := Fr.snoc X2 N0 gn1
  have Zs2 : n0 ≤ h2.size := Nat.le_trans Zs1 (Keep.of_wr W2).1
  have V2 : Arv Z h2 a1 kA1 .byte (1 : Int32) [(.int (nar .byte ch1.toInt8.toInt32))] (.int (0 : Int32)) := Arv.set A2 q2 S2 M2 H2 U2 (fits_nar_byte _) W2 0 rfl (Nat.le_of_ble_eq_true rfl)
  have K2 : Keep h0 h2 [] := (((Keep.refl _ _).ext E1).wr W2 (Or.inr (Nat.le_of_eq g1.symm)))
  have cc1 : Steps p.tables e below (s₁.setTop (entryFrame m #[(.int ch1)] 1)) (T2.setTop (mkF m 8 #[.val (.int ch1)] [(.ref a1)])) := c0.trans (by
    refine XT.iconstV X0.here hx rfl ((1 : Int32)) (hb hby d5_0) (by decide) ?_
    refine st1 _ ?_
    refine XS.dup X1.here hx rfl (hb hby d5_3) rfl rfl ?_
    refine XT.iconstV X1.here hx rfl ((0 : Int32)) (hb hby d5_4) (by decide) ?_
    refine XS.iloadN X1.here hx rfl (hb hby d5_5) rfl ?_
    refine XT.i2b X1.here hx rfl (hb hby d5_6) rfl ?_
    refine st2 _ ?_
    exact Steps.refl _)
  obtain ⟨fs, hr, hrun, hended, hW, hsame⟩ := X2.leave (v := some (.ref a1)) (fun h => by rw [Bd.returns] at h; cases h)
  refine ⟨_, _, cc1.trans ?_, hrun, hended, _, _, rfl, ?_, ⟨_, rfl⟩, hW, hsame.mono (by decide) (by decide)⟩
  · exact retOut X2 hx (i := .areturn) Bd.returns rfl (Or.inr (Or.inr (Or.inr (Or.inr ⟨rfl, rfl, rfl⟩)))) (hb hby d5_8) hr
  · show QTB Z ch1 h0 n0 _ T2.heap _
    rw [e2]
    exact ⟨_, _, rfl, N2, K2, g1, V2⟩
def QSI (Z : State) (a1 b1 : Addr) (h0 : Heap) (n0 : Nat) (v : Option Value) (h : Heap) (L : List Loc) : Prop := v = none ∧ Fr n0 L ∧ Keep h0 h [a1] ∧ Fld Z h a1 "java/lang/String" "value" "[B" (.ref b1) ∧ Fld Z h a1 "java/lang/String" "coder" "B" (.int (0 : Int32))
set_option maxRecDepth 65536 in
set_option maxHeartbeats 40000000 in
theorem rmSI (l : Launch) (Z : State) (a0 : Array Value) (hw : ∀ d ∈ tables_1, d.before a0 Z = true) (ws : List Jvm.Cond) (a1 : Addr) (b1 : Addr) (h0 : Heap) (n0 : Nat) (Z0 : n0 ≤ h0.size) (Ea : Exa Z h0 a1 "java/lang/String") (F1 : Fld Z h0 a1 "java/lang/String" "value" "[B" .null) (F2 : Fld Z h0 a1 "java/lang/String" "coder" "B" (.int (0 : Int32))) (ge : n0 ≤ a1) :
    MetFree l (⟨"java/lang/String", "<init>", "([BB)V"⟩ : MethodName) (head1 (Jvm.Cond.code (⟨"java/lang/String", "<init>", "([BB)V"⟩ : MethodName) jdk_42_method_151_code 3 none :: ws) ({ frames := 1, cells := 0, slots := 0, locals := 12 } : Room)) (fun a U => a = #[(.ref a1), (.ref b1), (.int (0 : Int32))] ∧ Z.Warmed39 U.vm ∧ U.heap = h0) (fun _ _ _ _ _ => True) (fun _ U o U' => ∃ v L, o = .returned v ∧ QSI Z a1 b1 h0 n0 v U'.heap L ∧ FrameEnd U o U' L ({ frames := 1, cells := 0, slots := 0, locals := 12 } : Room).cells ({ frames := 1, cells := 0, slots := 0, locals := 12 } : Room).slots) := by
  refine MetFree.of_bodySF (plainFor_of_name pn_6) hisR ?_
  intro p e s m args below meth c s₁ Bd hml0 hP hK
  obtain ⟨rfl, hZ, hh⟩ := hP
  have hx := Bd.exec
  have hby := Bd.bytes
  have hml : c.maxLocals = 3 := hml0
  have hown : s.vm.findClass "java/lang/String" = some m.cls := findClass_of_methodNamed Bd.named
  have hnm := (name_of_methodNamed Bd.named Bd.method).1
  have X0 : Stand p l e ({ frames := 1, cells := 0, slots := 0, locals := 12 } : Room) s m #[(.ref a1), (.ref b1), (.int (0 : Int32))] below meth c s₁ [] 0 0 := Stand.of_body Bd
  have e0 : s₁.heap = h0 := by rw [← hh, Bd.state]; rfl
  have N0 := Fr.nil n0
  have c0 : Steps p.tables e below (s₁.setTop (entryFrame m #[(.ref a1), (.ref b1), (.int (0 : Int32))] 3)) (s₁.setTop (mkF m 0 #[.val (.ref a1), .val (.ref b1), .val (.int (0 : Int32))] [])) := XT.entry rfl
  obtain ⟨T3, X3, e3, st3⟩ := initO X0 hx hZ hown (hw _ (List.mem_of_getElem? (i := 28) rfl)) (hw _ (List.mem_of_getElem? (i := 29) rfl)) (hw _ (List.mem_of_getElem? (i := 30) rfl)) e0 (g := (mkF m 1 #[.val (.ref a1), .val (.ref b1), .val (.int (0 : Int32))] [(.ref a1)])) rfl (by rw [hml]; rfl) rfl (hb hby d6_1) (by decide) (W := 0) (by show 2 * 0 + _ ≤ _; exact Nat.le_of_eq rfl) (by decide)
  obtain ⟨T4, h4, X4, e4, W4, st4⟩ := putF X3 hx hZ hown (host := "") (Or.inl (hw _ (List.mem_of_getElem? (i := 31) rfl))) Via.refl e3 F1 Ea (Or.inr ⟨(hw _ (List.mem_of_getElem? (i := 32) rfl)), rfl, hnm⟩) (hw _ (List.mem_of_getElem? (i := 19) rfl)) (ty := (.array .byte)) (by decide) rfl rfl (g := (mkF m 6 #[.val (.ref a1), .val (.ref b1), .val (.int (0 : Int32))] [(.ref b1), (.ref a1)])) rfl rfl (hb hby d6_6)
  have N4 := Fr.snoc X4 N0 ge
  have Zs4 : n0 ≤ h4.size := Nat.le_trans Z0 (Keep.of_wr W4).1
  have Ea1 : Exa Z h4 a1 "java/lang/String" := Ea.wr W4
  have V1 := F1.same W4
  have C1 := F2.other W4 (Or.inr (slot_ne (Or.inr (hw _ (List.mem_of_getElem? (i := 34) rfl))) (Or.inr (hw _ (List.mem_of_getElem? (i := 32) rfl))) (by decide) (t := .byte) (t' := (.array .byte)) (by decide) (by decide)))
  obtain ⟨T5, h5, X5, e5, W5, st5⟩ := putF X4 hx hZ hown (host := "") (Or.inl (hw _ (List.mem_of_getElem? (i := 33) rfl))) Via.refl e4 C1 Ea1 (Or.inr ⟨(hw _ (List.mem_of_getElem? (i := 34) rfl)), rfl, hnm⟩) (hw _ (List.mem_of_getElem? (i := 19) rfl)) (ty := .byte) (by decide) rfl rfl (g := (mkF m 11 #[.val (.ref a1), .val (.ref b1), .val (.int (0 : Int32))] [(.int (0 : Int32)), (.ref a1)])) rfl rfl (hb hby d6_11)
  have N5 := Fr.snoc X5 N4 ge
  have Zs5 : n0 ≤ h5.size := Nat.le_trans Zs4 (Keep.of_wr W5).1
  have V2 := V1.other W5 (Or.inr (slot_ne (Or.inr (hw _ (List.mem_of_getElem? (i := 32) rfl))) (Or.inr (hw _ (List.mem_of_getElem? (i := 34) rfl))) (by decide) (t := (.array .byte)) (t' := .byte) (by decide) (by decide)))
  have C2 := C1.same W5
  have K2 : Keep h0 h5 [a1] := (((Keep.refl _ _).wr W4 (Or.inl (List.mem_of_getElem? (i := 0) rfl))).wr W5 (Or.inl (List.mem_of_getElem? (i := 0) rfl)))
  have cc1 : Steps p.tables e below (s₁.setTop (entryFrame m #[(.ref a1), (.ref b1), (.int (0 : Int32))] 3)) (T5.setTop (mkF m 14 #[.val (.ref a1), .val (.ref b1), .val (.int (0 : Int32))] [])) := c0.trans (by
    refine XS.aloadN X0.here hx rfl (hb hby d6_0) rfl rfl ?_
    refine st3 _ ?_
    refine XS.aloadN X3.here hx rfl (hb hby d6_4) rfl rfl ?_
    refine XS.aloadN X3.here hx rfl (hb hby d6_5) rfl rfl ?_
    refine st4 _ ?_
    refine XS.aloadN X4.here hx rfl (hb hby d6_9) rfl rfl ?_
    refine XS.iloadN X4.here hx rfl (hb hby d6_10) rfl ?_
    refine st5 _ ?_
    exact Steps.refl _)
  obtain ⟨fs, hr, hrun, hended, hW, hsame⟩ := X5.leave (v := none) (fun _ => rfl)
  refine ⟨_, _, cc1.trans ?_, hrun, hended, _, _, rfl, ?_, ⟨_, rfl⟩, hW, hsame.mono (by decide) (by decide)⟩
  · exact X5.returnOut hx Bd.returns (hb hby d6_14) hr
  · show QSI Z a1 b1 h0 n0 _ T5.heap _
    rw [e5]
    exact ⟨rfl, N5, K2, V2, C2⟩
def QV (Z : State) (ch1 : Int32) (h0 : Heap) (n0 : Nat) (v : Option Value) (h : Heap) (L : List Loc) : Prop := ∃ aS aB kB, v = some (.ref aS) ∧ Fr n0 L ∧ Keep h0 h [] ∧ h0.size ≤ aS ∧ h0.size ≤ aB ∧ Exa Z h aS "java/lang/String" ∧ Fld Z h aS "java/lang/String" "value" "[B" (.ref aB) ∧ Fld Z h aS "java/lang/String" "coder" "B" (.int (0 : Int32)) ∧ Arv Z h aB kB .byte (1 : Int32) [(.int (nar .byte ch1.toInt8.toInt32))] (.int (0 : Int32))
set_option maxRecDepth 65536 in
set_option maxHeartbeats 40000000 in
theorem rmV (l : Launch) (Z : State) (a0 : Array Value) (hw : ∀ d ∈ tables_1, d.before a0 Z = true) (ws : List Jvm.Cond) (ch1 : Int32) (G1 : Int32) (h0 : Heap) (n0 : Nat) (Z0 : n0 ≤ h0.size) (hc : ¬ ch1 < 0 ∧ ¬ (255 : Int32) < ch1) (O2 : Sta Z Z.heap "java/lang/String" "COMPACT_STRINGS" "Z" (.int G1)) (P5 : ¬ (G1 = (0 : Int32))) (X00 : Old Z n0 h0) :
    MetFree l (⟨"java/lang/String", "valueOf", "(C)Ljava/lang/String;"⟩ : MethodName) (head1 (Jvm.Cond.code (⟨"java/lang/String", "valueOf", "(C)Ljava/lang/String;"⟩ : MethodName) jdk_42_method_139_code 1 (some (.object "java/lang/String")) :: ws) ({ frames := 2, cells := 2, slots := 5, locals := 27 } : Room)) (fun a U => a = #[(.int ch1)] ∧ Z.Warmed39 U.vm ∧ U.heap = h0) (fun _ _ _ _ _ => True) (fun _ U o U' => ∃ v L, o = .returned v ∧ QV Z ch1 h0 n0 v U'.heap L ∧ FrameEnd U o U' L ({ frames := 2, cells := 2, slots := 5, locals := 27 } : Room).cells ({ frames := 2, cells := 2, slots := 5, locals := 27 } : Room).slots) := by
  refine MetFree.of_bodySF (plainFor_of_name pn_3) hisR ?_
  intro p e s m args below meth c s₁ Bd hml0 hP hK
  obtain ⟨rfl, hZ, hh⟩ := hP
  have hx := Bd.exec
  have hby := Bd.bytes
  have hml : c.maxLocals = 1 := hml0
  have hown : s.vm.findClass "java/lang/String" = some m.cls := findClass_of_methodNamed Bd.named
  have hnm := (name_of_methodNamed Bd.named Bd.method).1
  have X0 : Stand p l e ({ frames := 2, cells := 2, slots := 5, locals := 27 } : Room) s m #[(.int ch1)] below meth c s₁ [] 0 0 := Stand.of_body Bd
  have e0 : s₁.heap = h0 := by rw [← hh, Bd.state]; rfl
  have N0 := Fr.nil n0
  have c0 : Steps p.tables e below (s₁.setTop (entryFrame m #[(.int ch1)] 1)) (s₁.setTop (mkF m 0 #[.val (.int ch1)] [])) := XT.entry rfl
  obtain ⟨T6, X6, e6, st6⟩ := getS X0 hx hZ hown (host := "") (hw _ (List.mem_of_getElem? (i := 13) rfl)) Via.refl e0 (O2.ext X00.2) (g := (mkF m 0 #[.val (.int ch1)] [])) rfl (hb hby d3_0)
  obtain ⟨_, _, ⟨T7, L7, k7, n7⟩, -, X7, ⟨Lc7, hQ7, l7, y7, z7⟩, st7⟩ := Jvm.LawKit.callS X6 hx (y := (⟨"java/lang/StringLatin1", "canEncode", "(C)Z"⟩ : MethodName)) hown (mvT hZ (hw _ (List.mem_of_getElem? (i := 14) rfl))) (mvT hZ (hw _ (List.mem_of_getElem? (i := 15) rfl))) (mvT hZ (hw _ (List.mem_of_getElem? (i := 16) rfl))) (mvT hZ (hw _ (List.mem_of_getElem? (i := 17) rfl))) (by decide) (backOf (W := 0) (rmCE l Z a0 hw [] ch1 h0 n0 Z0 hc) hZ (hw _ (List.mem_of_getElem? (i := 17) rfl)) (hw _ (List.mem_of_getElem? (i := 16) rfl)) (by decide) (by decide)) (g := (mkF m 7 #[.val (.int ch1)] [(.int ch1)])) rfl (by rw [hml]; rfl) (argsL := [(.int ch1)]) (rest := []) (lenOf pd__C_Z rfl) rfl (by show 2 * 0 + _ ≤ _; exact Nat.le_of_eq rfl) (hb hby d3_7) (fun _ _ => ⟨rfl, e6, (by decide : 0 + 0 ≤ _), (by decide : 0 + 0 ≤ _)⟩)
  dsimp only [Pt.U, Pt.locs, Pt.cells, Pt.slots] at X7 l7 y7 z7 st7 hQ7
  subst l7 y7 z7
  obtain ⟨rfl, N7, e7⟩ := hQ7
  have NN7 := Fr.app N0 N7
  obtain ⟨T8, h8, X8, e8, E8, A8, D8, -, st8⟩ := newO X7 hx hZ hown (hw _ (List.mem_of_getElem? (i := 18) rfl)) (hw _ (List.mem_of_getElem? (i := 19) rfl)) (hw _ (List.mem_of_getElem? (i := 11) rfl)) e7 (g := (mkF m 13 #[.val (.int ch1)] [])) rfl (hb hby d3_13) (by decide) (by decide)
  obtain ⟨a8, g8⟩ : ∃ z, z = h0.size := ⟨_, rfl⟩
  rw [← g8] at A8 D8 st8
  have Zs8 : n0 ≤ h8.size := Nat.le_trans Z0 E8.1
  have gn8 : n0 ≤ a8 := Nat.le_trans Z0 (Nat.le_of_eq g8.symm)
  obtain ⟨_, _, ⟨T9, L9, k9, n9⟩, -, X9, ⟨Lc9, hQ9, l9, y9, z9⟩, st9⟩ := Jvm.LawKit.callS X8 hx (y := (⟨"java/lang/StringLatin1", "toBytes", "(C)[B"⟩ : MethodName)) hown (mvT hZ (hw _ (List.mem_of_getElem? (i := 20) rfl))) (mvT hZ (hw _ (List.mem_of_getElem? (i := 21) rfl))) (mvT hZ (hw _ (List.mem_of_getElem? (i := 16) rfl))) (mvT hZ (hw _ (List.mem_of_getElem? (i := 22) rfl))) (by decide) (backOf (W := 2) (rmTB l Z a0 hw [] ch1 h8 n0 Zs8) hZ (hw _ (List.mem_of_getElem? (i := 22) rfl)) (hw _ (List.mem_of_getElem? (i := 16) rfl)) (by decide) (by decide)) (g := (mkF m 18 #[.val (.int ch1)] [(.int ch1), (.ref a8), (.ref a8)])) rfl (by rw [hml]; rfl) (argsL := [(.int ch1)]) (rest := [(.ref a8), (.ref a8)]) (lenOf pd__C__B rfl) rfl (by show 2 * 0 + _ ≤ _; exact Nat.le_of_eq rfl) (hb hby d3_18) (fun _ _ => ⟨rfl, e8, (by decide : 1 + 1 ≤ _), (by decide : 4 + 1 ≤ _)⟩)
  dsimp only [Pt.U, Pt.locs, Pt.cells, Pt.slots] at X9 l9 y9 z9 st9 hQ9
  subst l9 y9 z9
  obtain ⟨aB, kB, rfl, N9, K9, gB, VB⟩ := hQ9
  have NN9 := Fr.app NN7 N9
  have Zt : n0 ≤ T9.heap.size := Nat.le_trans Zs8 K9.1
  have Ea : Exa Z T9.heap a8 "java/lang/String" := A8.keep K9
  have F1 : Fld Z T9.heap a8 "java/lang/String" "value" "[B" .null := (D8 (Or.inr (hw _ (List.mem_of_getElem? (i := 32) rfl))) (ty := (.array .byte)) (by decide)).keep K9 nin0
  have F2 : Fld Z T9.heap a8 "java/lang/String" "coder" "B" (.int (0 : Int32)) := (D8 (Or.inr (hw _ (List.mem_of_getElem? (i := 34) rfl))) (ty := .byte) (by decide)).keep K9 nin0
  obtain ⟨ht, e_t⟩ : ∃ z, T9.heap = z := ⟨_, rfl⟩
  rw [e_t] at Zt Ea F1 F2 VB K9
  obtain ⟨_, _, ⟨T10, L10, k10, n10⟩, -, X10, ⟨Lc10, hQ10, l10, y10, z10⟩, st10⟩ := X9.specialBack hx (y := (⟨"java/lang/String", "<init>", "([BB)V"⟩ : MethodName)) rfl hown (mvT hZ (hw _ (List.mem_of_getElem? (i := 24) rfl))) (mvT hZ (hw _ (List.mem_of_getElem? (i := 25) rfl))) (mvT hZ (hw _ (List.mem_of_getElem? (i := 27) rfl))) (by decide) (backOf (W := 1) (rmSI l Z a0 hw [] a8 aB ht n0 Zt Ea F1 F2 gn8) hZ (hw _ (List.mem_of_getElem? (i := 27) rfl)) (hw _ (List.mem_of_getElem? (i := 11) rfl)) (by decide) (by decide)) (g := (mkF m 22 #[.val (.int ch1)] [(.int (0 : Int32)), (.ref aB), (.ref a8), (.ref a8)])) rfl (by rw [hml]; rfl) (Steps.refl _) (a := a8) (argsL := [(.ref aB), (.int (0 : Int32))]) (rest := [(.ref a8)]) (lenOf pd___BB_V rfl) rfl (by show 2 * 0 + _ ≤ _; exact Nat.le_of_eq rfl) (hb hby d3_22) (fun _ _ => ⟨rfl, e_t, (by decide : 2 + 0 ≤ _), (by decide : 5 + 0 ≤ _)⟩)
  dsimp only [Pt.U, Pt.locs, Pt.cells, Pt.slots] at X10 l10 y10 z10 st10 hQ10
  subst l10 y10 z10
  obtain ⟨rfl, N10, K10, V2, C2⟩ := hQ10
  have NN10 := Fr.app NN9 N10
  have lt : a8 < h8.size := A8.lt
  have ne : aB ≠ a8 := by rw [gB]; exact Nat.ne_of_gt lt
  have V3 := VB.keep K10 (ninS ne nin0)
  have E3 := Ea.keep K10
  have K3 : Keep h0 T10.heap [] := (((Keep.refl _ _).ext E8).trans K9 (fun x q => nomatch q)).trans K10 (fun x q => Or.inr (by cases List.mem_singleton.mp q; exact Nat.le_of_eq g8.symm))
  have cc1 : Steps p.tables e below (s₁.setTop (entryFrame m #[(.int ch1)] 1)) (T10.setTop (mkF m 25 #[.val (.int ch1)] [(.ref a8)])) := c0.trans (by
    refine st6 _ ?_
    refine XS.ifNo X6.here hx rfl (hb hby d3_3) rfl (XT.i0_eq_f P5) ?_
    refine XS.iloadN X6.here hx rfl (hb hby d3_6) rfl ?_
    refine st7 _ ?_
    show Steps p.tables e below (T7.setTop (mkF m 10 #[.val (.int ch1)] [(.int (1 : Int32))])) _
    refine XS.ifNo X7.here hx rfl (hb hby d3_10) rfl (XT.i0_eq_f (by decide)) ?_
    refine st8 _ ?_
    refine XS.dup X8.here hx rfl (hb hby d3_16) rfl rfl ?_
    refine XS.iloadN X8.here hx rfl (hb hby d3_17) rfl ?_
    refine st9 _ ?_
    show Steps p.tables e below (T9.setTop (mkF m 21 #[.val (.int ch1)] [(.ref aB), (.ref a8), (.ref a8)])) _
    refine XT.iconstV X9.here hx rfl ((0 : Int32)) (hb hby d3_21) (by decide) ?_
    refine st10.trans ?_
    show Steps p.tables e below (T10.setTop (mkF m 25 #[.val (.int ch1)] [(.ref a8)])) _
    exact Steps.refl _)
  obtain ⟨fs, hr, hrun, hended, hW, hsame⟩ := X10.leave (v := some (.ref a8)) (fun h => by rw [Bd.returns] at h; cases h)
  refine ⟨_, _, cc1.trans ?_, hrun, hended, _, _, rfl, ?_, ⟨_, rfl⟩, hW, hsame.mono (by decide) (by decide)⟩
  · exact retOut X10 hx (i := .areturn) Bd.returns rfl (Or.inr (Or.inr (Or.inr (Or.inr ⟨rfl, rfl, rfl⟩)))) (hb hby d3_25) hr
  · show QV Z ch1 h0 n0 _ T10.heap _
    exact ⟨_, _, _, rfl, NN10, K3, Nat.le_of_eq g8.symm, (by rw [gB]; exact E8.1), E3, V2, C2, V3⟩
theorem d8_0 : decode prog_2_method_4_code 0 = .ok (.dload_n 1, 1) := by decide +kernel
theorem d8_1 : decode prog_2_method_4_code 1 = .ok (.iload_n 3, 1) := by decide +kernel
theorem d8_2 : decode prog_2_method_4_code 2 = .ok (.i2d, 1) := by decide +kernel
theorem d8_3 : decode prog_2_method_4_code 3 = .ok (.dcmp .l, 1) := by decide +kernel
theorem d8_4 : decode prog_2_method_4_code 4 = .ok (.ifCond .le 11, 3) := by decide +kernel
theorem d8_7 : decode prog_2_method_4_code 7 = .ok (.dload_n 1, 1) := by decide +kernel
theorem d8_8 : decode prog_2_method_4_code 8 = .ok (.iload 4, 2) := by decide +kernel
theorem d8_10 : decode prog_2_method_4_code 10 = .ok (.i2d, 1) := by decide +kernel
theorem d8_11 : decode prog_2_method_4_code 11 = .ok (.dcmp .g, 1) := by decide +kernel
theorem d8_12 : decode prog_2_method_4_code 12 = .ok (.ifCond .lt 21, 3) := by decide +kernel
theorem d8_33 : decode prog_2_method_4_code 33 = .ok (.return_, 1) := by decide +kernel
theorem pn_8 : plainName "com/example/pricewise/pricewise/Parameters" = true := by first | (simp [plainName, overriddenIn]; done) | decide +kernel
theorem pn_law : plainName "com/example/pricewise/pricewise/ParametersRequireStrictlyBetweenPinLaw" = true := by first | (simp [plainName, overriddenIn]; done) | decide +kernel
theorem pd__Ljava_lang_String_DII_V : parseMethodDescriptor "(Ljava/lang/String;DII)V" = some ⟨[(.object "java/lang/String"), .double, .int, .int], none⟩ := by decide +kernel
def QB (h0 : Heap) (n0 : Nat) (v : Option Value) (h : Heap) (L : List Loc) : Prop := v = none ∧ Fr n0 L ∧ h = h0
set_option maxRecDepth 65536 in
set_option maxHeartbeats 40000000 in
theorem rmB (l : Launch) (Z : State) (a0 : Array Value) (hw : ∀ d ∈ tables_1, d.before a0 Z = true) (ws : List Jvm.Cond) (a1 : Addr) (y : UInt64) (lo : Int32) (hi : Int32) (h0 : Heap) (n0 : Nat) (Z0 : n0 ≤ h0.size) (k1 : cmpValue (FP.dcmp y (FP.i2d lo)) .l = 1) (k2 : cmpValue (FP.dcmp y (FP.i2d hi)) .g = -1) :
    MetFree l (⟨"com/example/pricewise/pricewise/Parameters", "requireStrictlyBetween", "(Ljava/lang/String;DII)V"⟩ : MethodName) (head1 (Jvm.Cond.code (⟨"com/example/pricewise/pricewise/Parameters", "requireStrictlyBetween", "(Ljava/lang/String;DII)V"⟩ : MethodName) prog_2_method_4_code 5 none :: ws) ({ frames := 0, cells := 0, slots := 0, locals := 0 } : Room)) (fun a U => a = #[(.ref a1), (.double y), (.int lo), (.int hi)] ∧ Z.Warmed39 U.vm ∧ U.heap = h0) (fun _ _ _ _ _ => True) (fun _ U o U' => ∃ v L, o = .returned v ∧ QB h0 n0 v U'.heap L ∧ FrameEnd U o U' L ({ frames := 0, cells := 0, slots := 0, locals := 0 } : Room).cells ({ frames := 0, cells := 0, slots := 0, locals := 0 } : Room).slots) := by
  refine MetFree.of_bodySF (plainFor_of_name pn_8) hisR ?_
  intro p e s m args below meth c s₁ Bd hml0 hP hK
  obtain ⟨rfl, hZ, hh⟩ := hP
  have hx := Bd.exec
  have hby := Bd.bytes
  have hml : c.maxLocals = 5 := hml0
  have hown : s.vm.findClass "com/example/pricewise/pricewise/Parameters" = some m.cls := findClass_of_methodNamed Bd.named
  have hnm := (name_of_methodNamed Bd.named Bd.method).1
  have X0 : Stand p l e ({ frames := 0, cells := 0, slots := 0, locals := 0 } : Room) s m #[(.ref a1), (.double y), (.int lo), (.int hi)] below meth c s₁ [] 0 0 := Stand.of_body Bd
  have e0 : s₁.heap = h0 := by rw [← hh, Bd.state]; rfl
  have N0 := Fr.nil n0
  have c0 : Steps p.tables e below (s₁.setTop (entryFrame m #[(.ref a1), (.double y), (.int lo), (.int hi)] 5)) (s₁.setTop (mkF m 0 #[.val (.ref a1), .val (.double y), .second, .val (.int lo), .val (.int hi)] [])) := XT.entry rfl
  have cc1 : Steps p.tables e below (s₁.setTop (entryFrame m #[(.ref a1), (.double y), (.int lo), (.int hi)] 5)) (s₁.setTop (mkF m 33 #[.val (.ref a1), .val (.double y), .second, .val (.int lo), .val (.int hi)] [])) := c0.trans (by
    refine XS.dloadN X0.here hx rfl (hb hby d8_0) rfl ?_
    refine XS.iloadN X0.here hx rfl (hb hby d8_1) rfl ?_
    refine XS.i2dS X0.here hx rfl (hb hby d8_2) rfl rfl ?_
    refine XS.dcmpS X0.here hx rfl (hb hby d8_3) rfl k1 ?_
    refine XS.ifNo X0.here hx rfl (hb hby d8_4) rfl (XT.i0_le_f (by decide)) ?_
    refine XS.dloadN X0.here hx rfl (hb hby d8_7) rfl ?_
    refine XS.iload X0.here hx rfl (hb hby d8_8) rfl ?_
    refine XS.i2dS X0.here hx rfl (hb hby d8_10) rfl rfl ?_
    refine XS.dcmpS X0.here hx rfl (hb hby d8_11) rfl k2 ?_
    refine XS.ifYes X0.here hx rfl (pc0 := 12) (pc' := 33) rfl (hb hby d8_12) rfl (XT.i0_lt_t (by decide)) (by decide) (by decide) ?_
    exact Steps.refl _)
  obtain ⟨fs, hr, hrun, hended, hW, hsame⟩ := X0.leave (v := none) (fun _ => rfl)
  refine ⟨_, _, cc1.trans ?_, hrun, hended, _, _, rfl, ?_, ⟨_, rfl⟩, hW, hsame.mono (by decide) (by decide)⟩
  · exact X0.returnOut hx Bd.returns (hb hby d8_33) hr
  · show QB h0 n0 _ s₁.heap _
    rw [e0]
    exact ⟨rfl, N0, rfl⟩
theorem own_half : own_In 1 1 1 (4602678819172646912 : UInt64) := by
  refine ⟨(FP.Core.fin_bits _).mpr (by decide), ?_, ?_⟩
  · decide +kernel
  · decide +kernel
theorem own_char (x : Int32) : ¬ ((x &&& (255 : Int32)).toUInt32.toUInt16.toUInt32.toInt32) < 0 ∧ ¬ (255 : Int32) < ((x &&& (255 : Int32)).toUInt32.toUInt16.toUInt32.toInt32) := by
  rw [i2c_mask]
  have h := c_and x 255 (by decide)
  rw [Int32.lt_iff_toInt_lt, Int32.lt_iff_toInt_lt]
  have a : (0 : Int32).toInt = 0 := rfl
  have b : (255 : Int32).toInt = 255 := rfl
  omega
/-- the two ends, and how far they are apart -/
theorem own_span {lo hi : Int32} (h : lo < hi) : (hi.toInt64 - lo.toInt64).toInt = hi.toInt - lo.toInt ∧ lo.toInt < hi.toInt := by
  rw [Int32.lt_iff_toInt_lt] at h
  have r1 := rng32 lo
  have r2 := rng32 hi
  have a := c_lsub hi.toInt64 lo.toInt64
  have r := rng64 (hi.toInt64 - lo.toInt64)
  rw [c_i2l, c_i2l] at a
  omega
theorem own_pick (d : Int64) : 0 ≤ (d &&& (9223372036854775807 : Int64)).toInt := by
  have h := c_maskL d 9223372036854775807 63 (by decide) (by decide)
  rw [h]
  have : ((2 ^ 63 : Nat) : Int) = 9223372036854775808 := by decide
  rw [this]
  omega
theorem own_rem {x y : Int64} (h0 : 0 ≤ x.toInt) (h1 : 0 < y.toInt) : 0 ≤ (x - (x / y) * y).toInt ∧ (x - (x / y) * y).toInt < y.toInt := by
  obtain ⟨h, -⟩ := c_lrem x y y.toInt rfl
  rw [h h0]
  exact ⟨Int.emod_nonneg _ (by omega), Int.emod_lt_of_pos _ h1⟩
/-- a whole number strictly between -/
theorem own_in1 {lo hi : Int32} {r : Int64} (h : lo < hi) (h0 : 0 ≤ r.toInt) (h1 : r.toInt < hi.toInt - lo.toInt - 1) : cmpValue (FP.dcmp (FP.l2d ((lo.toInt64 + 1) + r)) (FP.i2d lo)) .l = 1 ∧ cmpValue (FP.dcmp (FP.l2d ((lo.toInt64 + 1) + r)) (FP.i2d hi)) .g = -1 := by
  rw [Int32.lt_iff_toInt_lt] at h
  have r1 := rng32 lo
  have r2 := rng32 hi
  have e : ((lo.toInt64 + 1) + r).toInt = lo.toInt + 1 + r.toInt := by
    have a := c_ladd (lo.toInt64 + 1) r
    have b := c_ladd lo.toInt64 1
    have r3 := rng64 ((lo.toInt64 + 1) + r)
    have r4 := rng64 (lo.toInt64 + 1)
    have e1 : (1 : Int64).toInt = 1 := rfl
    rw [c_i2l] at b
    omega
  have I := own_In.l2d (a := (lo.toInt64 + 1) + r) (by omega)
  exact ⟨I.gt (own_In.i2d lo) (by omega) _, I.lt (own_In.i2d hi) (by omega) _⟩
/-- a half strictly between -/
theorem own_in2 {lo hi : Int32} {r : Int64} (h : lo < hi) (h0 : 0 ≤ r.toInt) (h1 : r.toInt < hi.toInt - lo.toInt) : Fl.NoNaN64 (FP.dadd (FP.l2d (lo.toInt64 + r)) 4602678819172646912) ∧ cmpValue (FP.dcmp (FP.dadd (FP.l2d (lo.toInt64 + r)) 4602678819172646912) (FP.i2d lo)) .l = 1 ∧ cmpValue (FP.dcmp (FP.dadd (FP.l2d (lo.toInt64 + r)) 4602678819172646912) (FP.i2d hi)) .g = -1 := by
  rw [Int32.lt_iff_toInt_lt] at h
  have r1 := rng32 lo
  have r2 := rng32 hi
  have e : (lo.toInt64 + r).toInt = lo.toInt + r.toInt := by
    have a := c_ladd lo.toInt64 r
    have r3 := rng64 (lo.toInt64 + r)
    rw [c_i2l] at a
    omega
  have I0 := (own_In.l2d (a := lo.toInt64 + r) (by omega)).scale 1
  have I : own_In 1 ((lo.toInt64 + r).toInt * 2 ^ 1 + 1) ((lo.toInt64 + r).toInt * 2 ^ 1 + 1) (FP.dadd (FP.l2d (lo.toInt64 + r)) 4602678819172646912) := own_In.add I0 own_half (by decide) (by omega) (by omega)
  exact ⟨I.nn, I.gt ((own_In.i2d lo).scale 1) (by omega) _, I.lt ((own_In.i2d hi).scale 1) (by omega) _⟩
theorem own_mm {a b : Int32} (h : ¬ (if b < a then b else a) = (if a < b then b else a)) : (if b < a then b else a) < (if a < b then b else a) := by
  by_cases h1 : a < b
  · have h2 : ¬ b < a := by rw [Int32.lt_iff_toInt_lt] at h1 ⊢; omega
    rw [if_neg h2, if_pos h1]; exact h1
  · by_cases h2 : b < a
    · rw [if_pos h2, if_neg h1]; exact h2
    · rw [if_neg h2, if_neg h1] at h; exact absurd rfl h
def Q0 (h0 : Heap) (n0 : Nat) (v : Option Value) (h : Heap) (L : List Loc) : Prop := v = some (.int 1) ∧ Fr n0 L
set_option maxRecDepth 65536 in
set_option maxHeartbeats 40000000 in
theorem rm0 (l : Launch) (Z : State) (a0 : Array Value) (hw : ∀ d ∈ tables_1, d.before a0 Z = true) (ws : List Jvm.Cond) (p1 : Int32) (p2 : Int32) (p3 : Int64) (p4 : Int32) (p5 : Int32) (G1 : Int32) (h0 : Heap) (n0 : Nat) (Z0 : n0 ≤ h0.size) (O2 : Sta Z Z.heap "java/lang/String" "COMPACT_STRINGS" "Z" (.int G1)) (P5 : ¬ (G1 = (0 : Int32))) (X00 : Old Z n0 h0) :
    MetFree l x (head1 (Jvm.Cond.code x code maxLocals ret :: ws) room_1) (fun a U => a = #[(.int p1), (.int p2), (.long p3), (.int p4), (.int p5)] ∧ Z.Warmed39 U.vm ∧ U.heap = h0) (fun _ _ _ _ _ => True) (fun _ U o U' => ∃ v L, o = .returned v ∧ Q0 h0 n0 v U'.heap L ∧ FrameEnd U o U' L room_1.cells room_1.slots) := by
  refine MetFree.of_bodySF (plainFor_of_name pn_law) hisR ?_
  intro p e s m args below meth c s₁ Bd hml0 hP hK
  obtain ⟨rfl, hZ, hh⟩ := hP
  have hx := Bd.exec
  have hby := Bd.bytes
  have hml : c.maxLocals = 16 := hml0
  have hown : s.vm.findClass "com/example/pricewise/pricewise/ParametersRequireStrictlyBetweenPinLaw" = some m.cls := findClass_of_methodNamed Bd.named
  have hnm := (name_of_methodNamed Bd.named Bd.method).1
  have X0 : Stand p l e room_1 s m #[(.int p1), (.int p2), (.long p3), (.int p4), (.int p5)] below meth c s₁ [] 0 0 := Stand.of_body Bd
  have e0 : s₁.heap = h0 := by rw [← hh, Bd.state]; rfl
  have N0 := Fr.nil n0
  have c0 : Steps p.tables e below (s₁.setTop (entryFrame m #[(.int p1), (.int p2), (.long p3), (.int p4), (.int p5)] maxLocals)) (s₁.setTop (mkF m 0 #[.val (.int p1), .val (.int p2), .val (.long p3), .second, .val (.int p4), .val (.int p5), .unset, .unset, .unset, .unset, .unset, .unset, .unset, .unset, .unset, .unset] [])) := XT.entry rfl
  have mm := own_mm (a := p1) (b := p2)
  obtain ⟨lo, hlo⟩ : ∃ z, z = (if p2 < p1 then p2 else p1) := ⟨_, rfl⟩
  obtain ⟨hi, hhi⟩ : ∃ z, z = (if p1 < p2 then p2 else p1) := ⟨_, rfl⟩
  rw [← hlo, ← hhi] at mm
  obtain ⟨_, _, ⟨T11, L11, k11, n11⟩, -, X11, ⟨Lc11, hQ11, l11, y11, z11⟩, st11⟩ := Jvm.LawKit.callS X0 hx (y := (⟨"java/lang/Math", "min", "(II)I"⟩ : MethodName)) hown (mvT hZ (hw _ (List.mem_of_getElem? (i := 0) rfl))) (mvT hZ (hw _ (List.mem_of_getElem? (i := 1) rfl))) (mvT hZ (hw _ (List.mem_of_getElem? (i := 2) rfl))) (mvT hZ (hw _ (List.mem_of_getElem? (i := 3) rfl))) (by decide) (backOf (W := 0) (rm_min l Z a0 hw [] p1 p2 lo h0 n0 Z0 (by rw [hlo]; split; exact Or.inl ⟨by assumption, rfl⟩; exact Or.inr ⟨by assumption, rfl⟩)) hZ (hw _ (List.mem_of_getElem? (i := 3) rfl)) (hw _ (List.mem_of_getElem? (i := 2) rfl)) (by decide) (by decide)) (g := (mkF m 2 #[.val (.int p1), .val (.int p2), .val (.long p3), .second, .val (.int p4), .val (.int p5), .unset, .unset, .unset, .unset, .unset, .unset, .unset, .unset, .unset, .unset] [(.int p2), (.int p1)])) rfl (by rw [hml]; rfl) (argsL := [(.int p1), (.int p2)]) (rest := []) (lenOf pd__II_I rfl) rfl (by show 2 * 0 + _ ≤ _; exact Nat.le_of_eq rfl) (hb hby at_2) (fun _ _ => ⟨rfl, e0, (by decide : 0 + 0 ≤ _), (by decide : 0 + 0 ≤ _)⟩)
  dsimp only [Pt.U, Pt.locs, Pt.cells, Pt.slots] at X11 l11 y11 z11 st11 hQ11
  subst l11 y11 z11
  obtain ⟨rfl, N11, e11⟩ := hQ11
  have NN11 := Fr.app N0 N11
  obtain ⟨_, _, ⟨T12, L12, k12, n12⟩, -, X12, ⟨Lc12, hQ12, l12, y12, z12⟩, st12⟩ := Jvm.LawKit.callS X11 hx (y := (⟨"java/lang/Math", "max", "(II)I"⟩ : MethodName)) hown (mvT hZ (hw _ (List.mem_of_getElem? (i := 4) rfl))) (mvT hZ (hw _ (List.mem_of_getElem? (i := 5) rfl))) (mvT hZ (hw _ (List.mem_of_getElem? (i := 2) rfl))) (mvT hZ (hw _ (List.mem_of_getElem? (i := 6) rfl))) (by decide) (backOf (W := 0) (rm_max l Z a0 hw [] p1 p2 hi h0 n0 Z0 (by rw [hhi]; split; exact Or.inl ⟨by assumption, rfl⟩; exact Or.inr ⟨by assumption, rfl⟩)) hZ (hw _ (List.mem_of_getElem? (i := 6) rfl)) (hw _ (List.mem_of_getElem? (i := 2) rfl)) (by decide) (by decide)) (g := (mkF m 9 #[.val (.int p1), .val (.int p2), .val (.long p3), .second, .val (.int p4), .val (.int p5), .val (.int lo), .unset, .unset, .unset, .unset, .unset, .unset, .unset, .unset, .unset] [(.int p2), (.int p1)])) rfl (by rw [hml]; rfl) (argsL := [(.int p1), (.int p2)]) (rest := []) (lenOf pd__II_I rfl) rfl (by show 2 * 0 + _ ≤ _; exact Nat.le_of_eq rfl) (hb hby at_9) (fun _ _ => ⟨rfl, e11, (by decide : 0 + 0 ≤ _), (by decide : 0 + 0 ≤ _)⟩)
  dsimp only [Pt.U, Pt.locs, Pt.cells, Pt.slots] at X12 l12 y12 z12 st12 hQ12
  subst l12 y12 z12
  obtain ⟨rfl, N12, e12⟩ := hQ12
  have NN12 := Fr.app NN11 N12
  have cc1 : Steps p.tables e below (s₁.setTop (entryFrame m #[(.int p1), (.int p2), (.long p3), (.int p4), (.int p5)] maxLocals)) (T12.setTop (mkF m 18 #[.val (.int p1), .val (.int p2), .val (.long p3), .second, .val (.int p4), .val (.int p5), .val (.int lo), .val (.int hi), .unset, .unset, .unset, .unset, .unset, .unset, .unset, .unset] [(.int hi), (.int lo)])) := c0.trans (by
    refine XS.iloadN X0.here hx rfl (hb hby at_0) rfl ?_
    refine XS.iloadN X0.here hx rfl (hb hby at_1) rfl ?_
    refine st11 _ ?_
    show Steps p.tables e below (T11.setTop (mkF m 5 #[.val (.int p1), .val (.int p2), .val (.long p3), .second, .val (.int p4), .val (.int p5), .unset, .unset, .unset, .unset, .unset, .unset, .unset, .unset, .unset, .unset] [(.int lo)])) _
    refine XS.istore X11.here hx rfl (hb hby at_5) rfl (l' := #[.val (.int p1), .val (.int p2), .val (.long p3), .second, .val (.int p4), .val (.int p5), .val (.int lo), .unset, .unset, .unset, .unset, .unset, .unset, .unset, .unset, .unset]) rfl ?_
    refine XS.iloadN X11.here hx rfl (hb hby at_7) rfl ?_
    refine XS.iloadN X11.here hx rfl (hb hby at_8) rfl ?_
    refine st12 _ ?_
    show Steps p.tables e below (T12.setTop (mkF m 12 #[.val (.int p1), .val (.int p2), .val (.long p3), .second, .val (.int p4), .val (.int p5), .val (.int lo), .unset, .unset, .unset, .unset, .unset, .unset, .unset, .unset, .unset] [(.int hi)])) _
    refine XS.istore X12.here hx rfl (hb hby at_12) rfl (l' := #[.val (.int p1), .val (.int p2), .val (.long p3), .second, .val (.int p4), .val (.int p5), .val (.int lo), .val (.int hi), .unset, .unset, .unset, .unset, .unset, .unset, .unset, .unset]) rfl ?_
    refine XS.iload X12.here hx rfl (hb hby at_14) rfl ?_
    refine XS.iload X12.here hx rfl (hb hby at_16) rfl ?_
    exact Steps.refl _)
  by_cases heq : lo = hi
  ·
    have cu2 : Steps p.tables e below (s₁.setTop (entryFrame m #[(.int p1), (.int p2), (.long p3), (.int p4), (.int p5)] maxLocals)) (T12.setTop (mkF m 22 #[.val (.int p1), .val (.int p2), .val (.long p3), .second, .val (.int p4), .val (.int p5), .val (.int lo), .val (.int hi), .unset, .unset, .unset, .unset, .unset, .unset, .unset, .unset] [(.int (1 : Int32))])) := cc1.trans (by
      refine XS.icmpNo X12.here hx rfl (hb hby at_18) rfl (XT.ii_ne_f heq) ?_
      refine XT.iconstV X12.here hx rfl ((1 : Int32)) (hb hby at_21) (by decide) ?_
      exact Steps.refl _)
    obtain ⟨fs, hr, hrun, hended, hW, hsame⟩ := X12.leave (v := some (.int (1 : Int32))) (fun h => by rw [Bd.returns] at h; cases h)
    refine ⟨_, _, cu2.trans ?_, hrun, hended, _, _, rfl, ?_, ⟨_, rfl⟩, hW, hsame.mono (by decide) (by decide)⟩
    · exact retN X12 hx (t := .boolean) Bd.returns (by simp) (hb hby at_22) hr
    · show Q0 h0 n0 _ T12.heap _
      exact ⟨rfl, NN12⟩
  ·
    have cu2 : Steps p.tables e below (s₁.setTop (entryFrame m #[(.int p1), (.int p2), (.long p3), (.int p4), (.int p5)] maxLocals)) (T12.setTop (mkF m 43 #[.val (.int p1), .val (.int p2), .val (.long p3), .second, .val (.int p4), .val (.int p5), .val (.int lo), .val (.int hi), .val (.long (hi.toInt64 - lo.toInt64)), .second, .val (.long (p3 &&& (9223372036854775807 : Int64))), .second, .unset, .unset, .unset, .unset] [(.int (p4 &&& (1 : Int32)))])) := cc1.trans (by
      refine XS.icmpYes X12.here hx rfl (pc0 := 18) (pc' := 23) rfl (hb hby at_18) rfl (XT.ii_ne_t heq) (by decide) (by decide) ?_
      refine XS.iload X12.here hx rfl (hb hby at_23) rfl ?_
      refine XT.i2l X12.here hx rfl (hb hby at_25) rfl ?_
      refine XS.iload X12.here hx rfl (hb hby at_26) rfl ?_
      refine XT.i2l X12.here hx rfl (hb hby at_28) rfl ?_
      refine XT.lsub X12.here hx rfl (hb hby at_29) rfl ?_
      refine XT.lstore X12.here hx rfl (hb hby at_30) rfl (l' := #[.val (.int p1), .val (.int p2), .val (.long p3), .second, .val (.int p4), .val (.int p5), .val (.int lo), .val (.int hi), .val (.long (hi.toInt64 - lo.toInt64)), .second, .unset, .unset, .unset, .unset, .unset, .unset]) rfl ?_
      refine XT.lloadN X12.here hx rfl (hb hby at_32) rfl ?_
      refine Stand.ldc2J X12 hx hown (v := (9223372036854775807 : Int64)) (mvT hZ (hw _ (List.mem_of_getElem? (i := 7) rfl))) rfl (hb hby at_33) ?_
      refine XT.land X12.here hx rfl (hb hby at_36) rfl ?_
      refine XT.lstore X12.here hx rfl (hb hby at_37) rfl (l' := #[.val (.int p1), .val (.int p2), .val (.long p3), .second, .val (.int p4), .val (.int p5), .val (.int lo), .val (.int hi), .val (.long (hi.toInt64 - lo.toInt64)), .second, .val (.long (p3 &&& (9223372036854775807 : Int64))), .second, .unset, .unset, .unset, .unset]) rfl ?_
      refine XS.iload X12.here hx rfl (hb hby at_39) rfl ?_
      refine XT.iconstV X12.here hx rfl ((1 : Int32)) (hb hby at_41) (by decide) ?_
      refine XS.iand X12.here hx rfl (hb hby at_42) rfl ?_
      exact Steps.refl _)
    have lt := mm heq
    have sp := own_span lt
    have pk := own_pick p3
    have cJ : ∃ (vv : UInt64) (rr : Int64), cmpValue (FP.dcmp vv (FP.i2d lo)) .l = 1 ∧ cmpValue (FP.dcmp vv (FP.i2d hi)) .g = -1 ∧ Steps p.tables e below (s₁.setTop (entryFrame m #[(.int p1), (.int p2), (.long p3), (.int p4), (.int p5)] maxLocals)) (T12.setTop (mkF m 98 #[.val (.int p1), .val (.int p2), .val (.long p3), .second, .val (.int p4), .val (.int p5), .val (.int lo), .val (.int hi), .val (.long (hi.toInt64 - lo.toInt64)), .second, .val (.long (p3 &&& (9223372036854775807 : Int64))), .second, .val (.double vv), .second, .val (.long rr), .second] [])) := by
      by_cases h1 : (p4 &&& (1 : Int32)) = 0
      ·
        have rm_ := own_rem pk (y := hi.toInt64 - lo.toInt64) (by omega)
        have i2 := own_in2 lt rm_.1 (by omega)
        have cx3 : Steps p.tables e below (s₁.setTop (entryFrame m #[(.int p1), (.int p2), (.long p3), (.int p4), (.int p5)] maxLocals)) (T12.setTop (mkF m 98 #[.val (.int p1), .val (.int p2), .val (.long p3), .second, .val (.int p4), .val (.int p5), .val (.int lo), .val (.int hi), .val (.long (hi.toInt64 - lo.toInt64)), .second, .val (.long (p3 &&& (9223372036854775807 : Int64))), .second, .val (.double (FP.dadd (FP.l2d (lo.toInt64 + ((p3 &&& (9223372036854775807 : Int64)) - ((p3 &&& (9223372036854775807 : Int64)) / (hi.toInt64 - lo.toInt64)) * (hi.toInt64 - lo.toInt64)))) (4602678819172646912 : UInt64))), .second, .val (.long ((p3 &&& (9223372036854775807 : Int64)) - ((p3 &&& (9223372036854775807 : Int64)) / (hi.toInt64 - lo.toInt64)) * (hi.toInt64 - lo.toInt64))), .second] [])) := cu2.trans (by
          refine XS.ifYes X12.here hx rfl (pc0 := 43) (pc' := 78) rfl (hb hby at_43) rfl (XT.i0_eq_t h1) (by decide) (by decide) ?_
          refine XT.lload X12.here hx rfl (hb hby at_78) rfl ?_
          refine XT.lload X12.here hx rfl (hb hby at_80) rfl ?_
          refine XT.lrem X12.here hx rfl (hb hby at_82) rfl (fun q => by have := congrArg Int64.toInt q; have e0 : (0 : Int64).toInt = 0 := rfl; omega) ?_
          refine XT.lstore X12.here hx rfl (hb hby at_83) rfl (l' := #[.val (.int p1), .val (.int p2), .val (.long p3), .second, .val (.int p4), .val (.int p5), .val (.int lo), .val (.int hi), .val (.long (hi.toInt64 - lo.toInt64)), .second, .val (.long (p3 &&& (9223372036854775807 : Int64))), .second, .unset, .unset, .val (.long ((p3 &&& (9223372036854775807 : Int64)) - ((p3 &&& (9223372036854775807 : Int64)) / (hi.toInt64 - lo.toInt64)) * (hi.toInt64 - lo.toInt64))), .second]) rfl ?_
          refine XS.iload X12.here hx rfl (hb hby at_85) rfl ?_
          refine XT.i2l X12.here hx rfl (hb hby at_87) rfl ?_
          refine XT.lload X12.here hx rfl (hb hby at_88) rfl ?_
          refine XT.ladd X12.here hx rfl (hb hby at_90) rfl ?_
          refine XS.l2dS X12.here hx rfl (hb hby at_91) rfl rfl ?_
          refine Stand.ldc2DoubleC X12 hx hown (b := (4602678819172646912 : UInt64)) (mvT hZ (hw _ (List.mem_of_getElem? (i := 8) rfl))) (g := (mkF m 92 #[.val (.int p1), .val (.int p2), .val (.long p3), .second, .val (.int p4), .val (.int p5), .val (.int lo), .val (.int hi), .val (.long (hi.toInt64 - lo.toInt64)), .second, .val (.long (p3 &&& (9223372036854775807 : Int64))), .second, .unset, .unset, .val (.long ((p3 &&& (9223372036854775807 : Int64)) - ((p3 &&& (9223372036854775807 : Int64)) / (hi.toInt64 - lo.toInt64)) * (hi.toInt64 - lo.toInt64))), .second] [(.double (FP.l2d (lo.toInt64 + ((p3 &&& (9223372036854775807 : Int64)) - ((p3 &&& (9223372036854775807 : Int64)) / (hi.toInt64 - lo.toInt64)) * (hi.toInt64 - lo.toInt64)))))])) rfl (hb hby at_92) _ ?_
          refine XS.daddS X12.here hx rfl (hb hby at_95) rfl i2.1 rfl ?_
          refine XS.dstore X12.here hx rfl (hb hby at_96) rfl (l' := #[.val (.int p1), .val (.int p2), .val (.long p3), .second, .val (.int p4), .val (.int p5), .val (.int lo), .val (.int hi), .val (.long (hi.toInt64 - lo.toInt64)), .second, .val (.long (p3 &&& (9223372036854775807 : Int64))), .second, .val (.double (FP.dadd (FP.l2d (lo.toInt64 + ((p3 &&& (9223372036854775807 : Int64)) - ((p3 &&& (9223372036854775807 : Int64)) / (hi.toInt64 - lo.toInt64)) * (hi.toInt64 - lo.toInt64)))) (4602678819172646912 : UInt64))), .second, .val (.long ((p3 &&& (9223372036854775807 : Int64)) - ((p3 &&& (9223372036854775807 : Int64)) / (hi.toInt64 - lo.toInt64)) * (hi.toInt64 - lo.toInt64))), .second]) rfl ?_
          exact Steps.refl _)
        exact ⟨_, _, i2.2.1, i2.2.2, cx3⟩
      · by_cases h2 : (hi.toInt64 - lo.toInt64) < (2 : Int64)
        ·
          have rm_ := own_rem pk (y := hi.toInt64 - lo.toInt64) (by omega)
          have i2 := own_in2 lt rm_.1 (by omega)
          have cx3 : Steps p.tables e below (s₁.setTop (entryFrame m #[(.int p1), (.int p2), (.long p3), (.int p4), (.int p5)] maxLocals)) (T12.setTop (mkF m 98 #[.val (.int p1), .val (.int p2), .val (.long p3), .second, .val (.int p4), .val (.int p5), .val (.int lo), .val (.int hi), .val (.long (hi.toInt64 - lo.toInt64)), .second, .val (.long (p3 &&& (9223372036854775807 : Int64))), .second, .val (.double (FP.dadd (FP.l2d (lo.toInt64 + ((p3 &&& (9223372036854775807 : Int64)) - ((p3 &&& (9223372036854775807 : Int64)) / (hi.toInt64 - lo.toInt64)) * (hi.toInt64 - lo.toInt64)))) (4602678819172646912 : UInt64))), .second, .val (.long ((p3 &&& (9223372036854775807 : Int64)) - ((p3 &&& (9223372036854775807 : Int64)) / (hi.toInt64 - lo.toInt64)) * (hi.toInt64 - lo.toInt64))), .second] [])) := cu2.trans (by
            refine XS.ifNo X12.here hx rfl (hb hby at_43) rfl (XT.i0_eq_f h1) ?_
            refine XT.lload X12.here hx rfl (hb hby at_46) rfl ?_
            refine Stand.ldc2J X12 hx hown (v := (2 : Int64)) (mvT hZ (hw _ (List.mem_of_getElem? (i := 39) rfl))) rfl (hb hby at_48) ?_
            refine XT.lcmp X12.here hx rfl (hb hby at_51) rfl ?_
            refine XS.ifYes X12.here hx rfl (pc0 := 52) (pc' := 78) rfl (hb hby at_52) rfl (XT.ll_lt_t h2) (by decide) (by decide) ?_
            refine XT.lload X12.here hx rfl (hb hby at_78) rfl ?_
            refine XT.lload X12.here hx rfl (hb hby at_80) rfl ?_
            refine XT.lrem X12.here hx rfl (hb hby at_82) rfl (fun q => by have := congrArg Int64.toInt q; have e0 : (0 : Int64).toInt = 0 := rfl; omega) ?_
            refine XT.lstore X12.here hx rfl (hb hby at_83) rfl (l' := #[.val (.int p1), .val (.int p2), .val (.long p3), .second, .val (.int p4), .val (.int p5), .val (.int lo), .val (.int hi), .val (.long (hi.toInt64 - lo.toInt64)), .second, .val (.long (p3 &&& (9223372036854775807 : Int64))), .second, .unset, .unset, .val (.long ((p3 &&& (9223372036854775807 : Int64)) - ((p3 &&& (9223372036854775807 : Int64)) / (hi.toInt64 - lo.toInt64)) * (hi.toInt64 - lo.toInt64))), .second]) rfl ?_
            refine XS.iload X12.here hx rfl (hb hby at_85) rfl ?_
            refine XT.i2l X12.here hx rfl (hb hby at_87) rfl ?_
            refine XT.lload X12.here hx rfl (hb hby at_88) rfl ?_
            refine XT.ladd X12.here hx rfl (hb hby at_90) rfl ?_
            refine XS.l2dS X12.here hx rfl (hb hby at_91) rfl rfl ?_
            refine Stand.ldc2DoubleC X12 hx hown (b := (4602678819172646912 : UInt64)) (mvT hZ (hw _ (List.mem_of_getElem? (i := 8) rfl))) (g := (mkF m 92 #[.val (.int p1), .val (.int p2), .val (.long p3), .second, .val (.int p4), .val (.int p5), .val (.int lo), .val (.int hi), .val (.long (hi.toInt64 - lo.toInt64)), .second, .val (.long (p3 &&& (9223372036854775807 : Int64))), .second, .unset, .unset, .val (.long ((p3 &&& (9223372036854775807 : Int64)) - ((p3 &&& (9223372036854775807 : Int64)) / (hi.toInt64 - lo.toInt64)) * (hi.toInt64 - lo.toInt64))), .second] [(.double (FP.l2d (lo.toInt64 + ((p3 &&& (9223372036854775807 : Int64)) - ((p3 &&& (9223372036854775807 : Int64)) / (hi.toInt64 - lo.toInt64)) * (hi.toInt64 - lo.toInt64)))))])) rfl (hb hby at_92) _ ?_
            refine XS.daddS X12.here hx rfl (hb hby at_95) rfl i2.1 rfl ?_
            refine XS.dstore X12.here hx rfl (hb hby at_96) rfl (l' := #[.val (.int p1), .val (.int p2), .val (.long p3), .second, .val (.int p4), .val (.int p5), .val (.int lo), .val (.int hi), .val (.long (hi.toInt64 - lo.toInt64)), .second, .val (.long (p3 &&& (9223372036854775807 : Int64))), .second, .val (.double (FP.dadd (FP.l2d (lo.toInt64 + ((p3 &&& (9223372036854775807 : Int64)) - ((p3 &&& (9223372036854775807 : Int64)) / (hi.toInt64 - lo.toInt64)) * (hi.toInt64 - lo.toInt64)))) (4602678819172646912 : UInt64))), .second, .val (.long ((p3 &&& (9223372036854775807 : Int64)) - ((p3 &&& (9223372036854775807 : Int64)) / (hi.toInt64 - lo.toInt64)) * (hi.toInt64 - lo.toInt64))), .second]) rfl ?_
            exact Steps.refl _)
          exact ⟨_, _, i2.2.1, i2.2.2, cx3⟩
        ·
          have e1 : ((hi.toInt64 - lo.toInt64) - 1).toInt = hi.toInt - lo.toInt - 1 := by
            have a := c_lsub (hi.toInt64 - lo.toInt64) 1
            have r := rng64 ((hi.toInt64 - lo.toInt64) - 1)
            have e1 : (1 : Int64).toInt = 1 := rfl
            have r1 := rng32 lo
            have r2 := rng32 hi
            omega
          have g2 : 2 ≤ hi.toInt - lo.toInt := by have h := h2; rw [Int64.lt_iff_toInt_lt] at h; have e2 : (2 : Int64).toInt = 2 := rfl; omega
          have rm_ := own_rem pk (y := (hi.toInt64 - lo.toInt64) - 1) (by omega)
          have i1 := own_in1 lt rm_.1 (by omega)
          have cx3 : Steps p.tables e below (s₁.setTop (entryFrame m #[(.int p1), (.int p2), (.long p3), (.int p4), (.int p5)] maxLocals)) (T12.setTop (mkF m 98 #[.val (.int p1), .val (.int p2), .val (.long p3), .second, .val (.int p4), .val (.int p5), .val (.int lo), .val (.int hi), .val (.long (hi.toInt64 - lo.toInt64)), .second, .val (.long (p3 &&& (9223372036854775807 : Int64))), .second, .val (.double (FP.l2d ((lo.toInt64 + (1 : Int64)) + ((p3 &&& (9223372036854775807 : Int64)) - ((p3 &&& (9223372036854775807 : Int64)) / ((hi.toInt64 - lo.toInt64) - (1 : Int64))) * ((hi.toInt64 - lo.toInt64) - (1 : Int64)))))), .second, .val (.long ((p3 &&& (9223372036854775807 : Int64)) - ((p3 &&& (9223372036854775807 : Int64)) / ((hi.toInt64 - lo.toInt64) - (1 : Int64))) * ((hi.toInt64 - lo.toInt64) - (1 : Int64)))), .second] [])) := cu2.trans (by
            refine XS.ifNo X12.here hx rfl (hb hby at_43) rfl (XT.i0_eq_f h1) ?_
            refine XT.lload X12.here hx rfl (hb hby at_46) rfl ?_
            refine Stand.ldc2J X12 hx hown (v := (2 : Int64)) (mvT hZ (hw _ (List.mem_of_getElem? (i := 39) rfl))) rfl (hb hby at_48) ?_
            refine XT.lcmp X12.here hx rfl (hb hby at_51) rfl ?_
            refine XS.ifNo X12.here hx rfl (hb hby at_52) rfl (XT.ll_lt_f h2) ?_
            refine XT.lload X12.here hx rfl (hb hby at_55) rfl ?_
            refine XT.lload X12.here hx rfl (hb hby at_57) rfl ?_
            refine XT.lconstV X12.here hx rfl ((1 : Int64)) (hb hby at_59) (by decide) ?_
            refine XT.lsub X12.here hx rfl (hb hby at_60) rfl ?_
            refine XT.lrem X12.here hx rfl (hb hby at_61) rfl (fun q => by have := congrArg Int64.toInt q; have e0 : (0 : Int64).toInt = 0 := rfl; omega) ?_
            refine XT.lstore X12.here hx rfl (hb hby at_62) rfl (l' := #[.val (.int p1), .val (.int p2), .val (.long p3), .second, .val (.int p4), .val (.int p5), .val (.int lo), .val (.int hi), .val (.long (hi.toInt64 - lo.toInt64)), .second, .val (.long (p3 &&& (9223372036854775807 : Int64))), .second, .unset, .unset, .val (.long ((p3 &&& (9223372036854775807 : Int64)) - ((p3 &&& (9223372036854775807 : Int64)) / ((hi.toInt64 - lo.toInt64) - (1 : Int64))) * ((hi.toInt64 - lo.toInt64) - (1 : Int64)))), .second]) rfl ?_
            refine XS.iload X12.here hx rfl (hb hby at_64) rfl ?_
            refine XT.i2l X12.here hx rfl (hb hby at_66) rfl ?_
            refine XT.lconstV X12.here hx rfl ((1 : Int64)) (hb hby at_67) (by decide) ?_
            refine XT.ladd X12.here hx rfl (hb hby at_68) rfl ?_
            refine XT.lload X12.here hx rfl (hb hby at_69) rfl ?_
            refine XT.ladd X12.here hx rfl (hb hby at_71) rfl ?_
            refine XS.l2dS X12.here hx rfl (hb hby at_72) rfl rfl ?_
            refine XS.dstore X12.here hx rfl (hb hby at_73) rfl (l' := #[.val (.int p1), .val (.int p2), .val (.long p3), .second, .val (.int p4), .val (.int p5), .val (.int lo), .val (.int hi), .val (.long (hi.toInt64 - lo.toInt64)), .second, .val (.long (p3 &&& (9223372036854775807 : Int64))), .second, .val (.double (FP.l2d ((lo.toInt64 + (1 : Int64)) + ((p3 &&& (9223372036854775807 : Int64)) - ((p3 &&& (9223372036854775807 : Int64)) / ((hi.toInt64 - lo.toInt64) - (1 : Int64))) * ((hi.toInt64 - lo.toInt64) - (1 : Int64)))))), .second, .val (.long ((p3 &&& (9223372036854775807 : Int64)) - ((p3 &&& (9223372036854775807 : Int64)) / ((hi.toInt64 - lo.toInt64) - (1 : Int64))) * ((hi.toInt64 - lo.toInt64) - (1 : Int64)))), .second]) rfl ?_
            refine XS.goto X12.here hx rfl (pc0 := 75) (pc' := 98) rfl (hb hby at_75) (by decide) (by decide) ?_
            exact Steps.refl _)
          exact ⟨_, _, i1.1, i1.2, cx3⟩
    obtain ⟨vv, rr, k1, k2, cK⟩ := cJ
    obtain ⟨ch, hch⟩ : ∃ z, z = ((p5 &&& (255 : Int32)).toUInt32.toUInt16.toUInt32.toInt32) := ⟨_, rfl⟩
    have hch1 : ¬ ch < 0 ∧ ¬ (255 : Int32) < ch := by rw [hch]; exact own_char p5
    obtain ⟨_, _, ⟨T13, L13, k13, n13⟩, -, X13, ⟨Lc13, hQ13, l13, y13, z13⟩, st13⟩ := Jvm.LawKit.callS X12 hx (y := (⟨"java/lang/String", "valueOf", "(C)Ljava/lang/String;"⟩ : MethodName)) hown (mvT hZ (hw _ (List.mem_of_getElem? (i := 9) rfl))) (mvT hZ (hw _ (List.mem_of_getElem? (i := 10) rfl))) (mvT hZ (hw _ (List.mem_of_getElem? (i := 11) rfl))) (mvT hZ (hw _ (List.mem_of_getElem? (i := 12) rfl))) (by decide) (backOf (W := 0) (rmV l Z a0 hw [] ch G1 h0 n0 Z0 hch1 O2 P5 X00) hZ (hw _ (List.mem_of_getElem? (i := 12) rfl)) (hw _ (List.mem_of_getElem? (i := 11) rfl)) (by decide) (by decide)) (g := (mkF m 105 #[.val (.int p1), .val (.int p2), .val (.long p3), .second, .val (.int p4), .val (.int p5), .val (.int lo), .val (.int hi), .val (.long (hi.toInt64 - lo.toInt64)), .second, .val (.long (p3 &&& (9223372036854775807 : Int64))), .second, .val (.double vv), .second, .val (.long rr), .second] [(.int ch)])) rfl (by rw [hml]; rfl) (argsL := [(.int ch)]) (rest := []) (lenOf pd__C_Ljava_lang_String_ rfl) rfl (by show 2 * 0 + _ ≤ _; exact Nat.le_of_eq rfl) (hb hby at_105) (fun _ _ => ⟨rfl, e12, (by decide : 0 + 2 ≤ _), (by decide : 0 + 5 ≤ _)⟩)
    dsimp only [Pt.U, Pt.locs, Pt.cells, Pt.slots] at X13 l13 y13 z13 st13 hQ13
    subst l13 y13 z13
    obtain ⟨aS, aB, kB, rfl, N13, K13, -⟩ := hQ13
    have NN13 := Fr.app NN12 N13
    have Zc : n0 ≤ T13.heap.size := Nat.le_trans Z0 K13.1
    obtain ⟨hq, e_q⟩ : ∃ z, T13.heap = z := ⟨_, rfl⟩
    rw [e_q] at Zc
    obtain ⟨_, _, ⟨T14, L14, k14, n14⟩, -, X14, ⟨Lc14, hQ14, l14, y14, z14⟩, st14⟩ := Jvm.LawKit.callS X13 hx (y := (⟨"com/example/pricewise/pricewise/Parameters", "requireStrictlyBetween", "(Ljava/lang/String;DII)V"⟩ : MethodName)) hown (mvT hZ (hw _ (List.mem_of_getElem? (i := 35) rfl))) (mvT hZ (hw _ (List.mem_of_getElem? (i := 36) rfl))) (mvT hZ (hw _ (List.mem_of_getElem? (i := 37) rfl))) (mvT hZ (hw _ (List.mem_of_getElem? (i := 38) rfl))) (by decide) (backOf (W := 0) (rmB l Z a0 hw [] aS vv lo hi hq n0 Zc k1 k2) hZ (hw _ (List.mem_of_getElem? (i := 38) rfl)) (hw _ (List.mem_of_getElem? (i := 37) rfl)) (by decide) (by decide)) (g := (mkF m 118 #[.val (.int p1), .val (.int p2), .val (.long p3), .second, .val (.int p4), .val (.int p5), .val (.int lo), .val (.int hi), .val (.long (hi.toInt64 - lo.toInt64)), .second, .val (.long (p3 &&& (9223372036854775807 : Int64))), .second, .val (.double vv), .second, .val (.ref aS), .unset] [(.int hi), (.int lo), (.double vv), (.ref aS)])) rfl (by rw [hml]; rfl) (argsL := [(.ref aS), (.double vv), (.int lo), (.int hi)]) (rest := []) (lenOf pd__Ljava_lang_String_DII_V rfl) rfl (by show 2 * 0 + _ ≤ _; exact Nat.le_of_eq rfl) (hb hby at_118) (fun _ _ => ⟨rfl, e_q, (by decide : 2 + 0 ≤ _), (by decide : 5 + 0 ≤ _)⟩)
    dsimp only [Pt.U, Pt.locs, Pt.cells, Pt.slots] at X14 l14 y14 z14 st14 hQ14
    subst l14 y14 z14
    obtain ⟨rfl, N14, e14⟩ := hQ14
    have NN14 := Fr.app NN13 N14
    have cu3 : Steps p.tables e below (s₁.setTop (entryFrame m #[(.int p1), (.int p2), (.long p3), (.int p4), (.int p5)] maxLocals)) (T14.setTop (mkF m 122 #[.val (.int p1), .val (.int p2), .val (.long p3), .second, .val (.int p4), .val (.int p5), .val (.int lo), .val (.int hi), .val (.long (hi.toInt64 - lo.toInt64)), .second, .val (.long (p3 &&& (9223372036854775807 : Int64))), .second, .val (.double vv), .second, .val (.ref aS), .unset] [(.int (1 : Int32))])) := cK.trans (by
      refine XS.iload X12.here hx rfl (hb hby at_98) rfl ?_
      refine XT.sipushV X12.here hx rfl ((255 : Int32)) (hb hby at_100) (by decide) ?_
      refine XS.iand X12.here hx rfl (hb hby at_103) rfl ?_
      refine XT.i2c X12.here hx rfl (hb hby at_104) rfl ?_
      show Steps p.tables e below (T12.setTop (mkF m 105 #[.val (.int p1), .val (.int p2), .val (.long p3), .second, .val (.int p4), .val (.int p5), .val (.int lo), .val (.int hi), .val (.long (hi.toInt64 - lo.toInt64)), .second, .val (.long (p3 &&& (9223372036854775807 : Int64))), .second, .val (.double vv), .second, .val (.long rr), .second] [(.int ((p5 &&& (255 : Int32)).toUInt32.toUInt16.toUInt32.toInt32))])) _
      rw [← hch]
      refine st13 _ ?_
      show Steps p.tables e below (T13.setTop (mkF m 108 #[.val (.int p1), .val (.int p2), .val (.long p3), .second, .val (.int p4), .val (.int p5), .val (.int lo), .val (.int hi), .val (.long (hi.toInt64 - lo.toInt64)), .second, .val (.long (p3 &&& (9223372036854775807 : Int64))), .second, .val (.double vv), .second, .val (.long rr), .second] [(.ref aS)])) _
      refine XS.astore X13.here hx rfl (hb hby at_108) rfl rfl (l' := #[.val (.int p1), .val (.int p2), .val (.long p3), .second, .val (.int p4), .val (.int p5), .val (.int lo), .val (.int hi), .val (.long (hi.toInt64 - lo.toInt64)), .second, .val (.long (p3 &&& (9223372036854775807 : Int64))), .second, .val (.double vv), .second, .val (.ref aS), .unset]) rfl ?_
      refine XS.aload X13.here hx rfl (hb hby at_110) rfl rfl ?_
      refine XS.dload X13.here hx rfl (hb hby at_112) rfl ?_
      refine XS.iload X13.here hx rfl (hb hby at_114) rfl ?_
      refine XS.iload X13.here hx rfl (hb hby at_116) rfl ?_
      refine st14 _ ?_
      show Steps p.tables e below (T14.setTop (mkF m 121 #[.val (.int p1), .val (.int p2), .val (.long p3), .second, .val (.int p4), .val (.int p5), .val (.int lo), .val (.int hi), .val (.long (hi.toInt64 - lo.toInt64)), .second, .val (.long (p3 &&& (9223372036854775807 : Int64))), .second, .val (.double vv), .second, .val (.ref aS), .unset] [])) _
      refine XT.iconstV X14.here hx rfl ((1 : Int32)) (hb hby at_121) (by decide) ?_
      exact Steps.refl _)
    obtain ⟨fs, hr, hrun, hended, hW, hsame⟩ := X14.leave (v := some (.int (1 : Int32))) (fun h => by rw [Bd.returns] at h; cases h)
    refine ⟨_, _, cu3.trans ?_, hrun, hended, _, _, rfl, ?_, ⟨_, rfl⟩, hW, hsame.mono (by decide) (by decide)⟩
    · exact retN X14 hx (t := .boolean) Bd.returns (by simp) (hb hby at_122) hr
    · show Q0 h0 n0 _ T14.heap _
      exact ⟨rfl, NN14⟩
set_option maxRecDepth 65536 in
set_option maxHeartbeats 40000000 in
theorem comes_1 {Post : Tables → Env → Array Value → State → Outcome → State → Prop} (hpost : ∀ tb e args s v u, (limb_1_1.after args s (.returned v) u = true ∧ limb_1_2.after args s (.returned v) u = true ∧ True) → FrameEnd s (.returned v) u (Jvm.fieldLocs frame_1_writes args s ++ Jvm.arrayLocs frame_1_arrays args s ++ Jvm.staticLocs frame_1_statics s) 16 128 → Post tb e args s (.returned v) u) :
    ArmFor flags0 classFile x code maxLocals ret World_1 tables_1 room_1 Calls_1 rest_1 Pre_1 Post := by
  intro l hfl _ _ p e ha hc hk s m args below hf hA hF happ hP
  obtain ⟨hcalls, hrest, hpre⟩ := hP
  obtain ⟨-, -, -, hnamed, -, -, -, hat⟩ := (Spec.applies_iff hf).mp happ
  obtain ⟨hg, hn⟩ := and_e (Cond.before_iff.mp (show (Jvm.Cond.and given_1 narrow_1).before args s = true from hpre))
  obtain ⟨h1, hA0⟩ := and_e hg
  obtain ⟨hI0, hA1⟩ := and_e hA0
  obtain ⟨hI1, hA2⟩ := and_e hA1
  obtain ⟨hI2, hA3⟩ := and_e hA2
  obtain ⟨hI3, hA4⟩ := and_e hA3
  obtain ⟨w0, w1, w2, w3, w4, rfl⟩ : ∃ w0 w1 w2 w3 w4 : Value, args = #[w0, w1, w2, w3, w4] := by
    have hs : args.size = 5 := by simpa [Cond.value, given_1] using h1
    obtain ⟨L⟩ := args
    match L, hs with
    | [w0, w1, w2, w3, w4], _ => exact ⟨w0, w1, w2, w3, w4, rfl⟩
  have hw := fun d (hd : d ∈ tables_1) => atoms_spec (ws := Jvm.Cond.code x code maxLocals ret :: tables_1) hat d (List.mem_cons_of_mem _ hd)
  have hfit : Fit s := fun {y c} hc i hi => by
    obtain ⟨ha, rfl⟩ := Array.getElem?_eq_some_iff.mp hc
    have q := List.all_eq_true.mp ((Array.all_eq_true_iff_forall_mem.mp hF) _ (Array.getElem_mem ha)) i (List.mem_range.mpr hi)
    simpa [Array.getElem?_eq_getElem hi] using q
  obtain ⟨i0, ei0⟩ := is_v hI0
  obtain rfl : w0 = (.int i0) := Option.some.inj ei0
  obtain ⟨i1, ei1⟩ := is_v hI1
  obtain rfl : w1 = (.int i1) := Option.some.inj ei1
  obtain ⟨i2, ei2⟩ := isL_v hI2
  obtain rfl : w2 = (.long i2) := Option.some.inj ei2
  obtain ⟨i3, ei3⟩ := is_v hI3
  obtain rfl : w3 = (.int i3) := Option.some.inj ei3
  obtain ⟨i4, ei4⟩ := is_v hA4
  obtain rfl : w4 = (.int i4) := Option.some.inj ei4
  obtain ⟨hsets, hown0⟩ := atoms_of _ (rest_1_c_eq ▸ (show rest_1_c.before _ s = true from hrest))
  have n5 := not_v (Cond.before_iff.mp (hsets _ (List.mem_of_getElem? (i := 2) rfl)))
  obtain ⟨iC, eC⟩ := is_v (Cond.before_iff.mp (hsets _ (List.mem_of_getElem? (i := 1) rfl)))
  have SC : Sta s s.heap "java/lang/String" "COMPACT_STRINGS" "Z" (.int iC) := Sta.start eC (Or.inl (hsets _ (List.mem_of_getElem? (i := 0) rfl)))
  have cC : ¬ (iC = (0 : Int32)) := gotF (Cond.eq_ints eC (Term.int_eval (0))) n5
  obtain ⟨n, o, h1, h2, h3, _, L, rfl, ⟨rfl, N⟩, hq⟩ := rm0 l s _ hw tables_1 i0 i1 i2 i3 i4 iC s.heap s.heap.size (Nat.le_refl _) SC cC (Old.start s) p e ha hc hk s m _ below hf ((Spec.applies_iff_loose hf).mp happ).1 ⟨rfl, State.Warmed39.refl s, rfl⟩ trivial
  refine ⟨n, _, h1, h2, h3, hpost _ _ _ _ _ _ ⟨Cond.after_iff.mpr rfl, Cond.after_iff.mpr (eq_i res_at (Term.int_eval (1)) rfl), trivial⟩ ⟨hq.1, hq.2.1, (hq.2.2.sift fun y hy => Or.inr (N y hy)).mono (by decide) (by decide)⟩⟩
theorem main_1_1 : Claimed_1_1 := comes_1 fun _ _ _ _ _ _ h hF => ⟨h.1, hF⟩
theorem main_1_2 : Claimed_1_2 := comes_1 fun _ _ _ _ _ _ h hF => ⟨h.2.1, hF⟩
end Jvm.Pilot.@@N@@
namespace Jvm.Pilot.@@N@@
open Jvm Jvm.ClassFile Sem Op Lib Jvm.Free Jvm.Stand Jvm.Pilot.@@N@@.Jvm.D
/-! MADE BY PROGRAM (witnessworld.py) out of the Statement's table words and the real class files: 18 classes; the members and pool entries that the words name. The judged class is class 1, her method 1. -/
namespace start1
open Jvm.ClassFile
def u (s : String) : CpInfo := .utf8 (stringToUtf16 s)
/-- a pool by its gaps: so many unusable entries, then the entry; so many at the end -/
def gap : Nat → List CpInfo → List CpInfo
  | 0, r => r
  | n + 1, r => .unusable :: gap n r
def poolList (es : List (Nat × CpInfo)) (last : Nat) : List CpInfo := es.foldr (fun e r => gap e.1 (e.2 :: r)) (gap last [])
def pool (es : List (Nat × CpInfo)) (last : Nat) : Array CpInfo := ⟨poolList es last⟩
def fileOf (pool : Array CpInfo) (this : Nat) (attrs : Array Attribute := #[]) (ms : Array MethodInfo := #[]) (fl : Nat := 33) (sup : Nat := 0) (ifs : Array Nat := #[]) (fds : Array FieldInfo := #[]) : ClassFile where
  minorVersion := 0
  majorVersion := 65
  constantPool := pool
  accessFlags := fl
  thisClass := this
  superClass := sup
  interfaces := ifs
  fields := fds
  methods := ms
  attributes := attrs
def plain (name : String) (sup : Option ClassId) : Class where
  name := name
  kind := .ordinary
  loader := none
  accessFlags := 33
  super := sup
  interfaces := #[]
  cf := none
  fields := #[]
  methods := #[]
  instanceTypes := #[]
  staticTypes := #[]
  resolved := #[]
  callSites := []
  init := .initialized
  statics := none
  mirror := none

def pool0 : Array CpInfo := pool [(5, u "<init>"), (0, u "()V"), (1, .class_ 10), (1, u "java/lang/Object")] 113

def k0c0 : Code := { maxStack := 0, maxLocals := 1, code := object_method_1_code, exceptionTable := #[], attributes := #[] }
def k0m0 : Method := { name := "<init>", desc := "()V", sig := { parameters := [], returnType := none }, accessFlags := 1, code := some k0c0 }
/-- java/lang/Object -/
def k0 : Class := { plain "java/lang/Object" none with
  accessFlags := 33
  interfaces := #[]
  cf := some (fileOf pool0 8 #[] #[{ accessFlags := 1, nameIndex := 5, descriptorIndex := 6, attributes := #[] }] 33 0 #[] #[])
  fields := #[]
  methods := #[k0m0]
  instanceTypes := #[]
  staticTypes := #[]
  resolved := Array.replicate 124 none
  statics := none }

def pool1 : Array CpInfo := pool [(2, .class_ 4), (1, u "java/lang/Object"), (0, u "<init>"), (0, u "()V"), (0, .methodref 8 9), (0, .class_ 10), (0, .nameAndType 11 12), (0, u "java/lang/Math"), (0, u "min"), (0, u "(II)I"), (0, .methodref 8 14), (0, .nameAndType 15 12), (0, u "max"), (0, .long 9223372036854775807), (1, .long 2), (1, .double 4602678819172646912), (1, .methodref 23 24), (0, .class_ 25), (0, .nameAndType 26 27), (0, u "java/lang/String"), (0, u "valueOf"), (0, u "(C)Ljava/lang/String;"), (0, .methodref 29 30), (0, .class_ 31), (0, .nameAndType 32 33), (0, u "com/example/pricewise/pricewise/Parameters"), (0, u "requireStrictlyBetween"), (0, u "(Ljava/lang/String;DII)V"), (0, .class_ 35), (0, u "com/example/pricewise/pricewise/ParametersRequireStrictlyBetweenPinLaw"), (2, u "law"), (0, u "(IIJII)Z")] 3

def k1m0 : Method := { name := "<init>", desc := "()V", sig := { parameters := [], returnType := none }, accessFlags := 2, code := none }
def k1c1 : Code := { maxStack := 6, maxLocals := 16, code := code, exceptionTable := #[], attributes := #[] }
def k1m1 : Method := { name := "law", desc := "(IIJII)Z", sig := { parameters := [.int, .int, .long, .int, .int], returnType := some .boolean }, accessFlags := 9, code := some k1c1 }
/-- com/example/pricewise/pricewise/ParametersRequireStrictlyBetweenPinLaw -/
def k1 : Class := { plain "com/example/pricewise/pricewise/ParametersRequireStrictlyBetweenPinLaw" (some 0) with
  accessFlags := 49
  interfaces := #[]
  cf := some (fileOf pool1 34 #[] #[{ accessFlags := 2, nameIndex := 5, descriptorIndex := 6, attributes := #[] }, { accessFlags := 9, nameIndex := 38, descriptorIndex := 39, attributes := #[] }] 49 2 #[] #[])
  fields := #[]
  methods := #[k1m0, k1m1]
  instanceTypes := #[]
  staticTypes := #[]
  resolved := Array.replicate 43 none
  statics := none }

def pool2 : Array CpInfo := pool [(1, .class_ 2), (0, u "java/lang/Math"), (1, .class_ 6), (1, u "java/lang/Object"), (0, u "<init>"), (0, u "()V"), (89, .class_ 100), (1, u "java/lang/Math$RandomNumberGeneratorHolder"), (71, u "negativeZeroFloatBits"), (0, u "J"), (2, u "negativeZeroDoubleBits"), (21, u "max"), (2, u "min"), (43, u "$assertionsDisabled"), (0, u "Z"), (88, u "(II)I"), (2, u "twoToTheDoubleScaleDown"), (0, u "D"), (4, u "twoToTheDoubleScaleUp"), (9, u "E"), (3, u "PI"), (2, u "TAU"), (2, u "DEGREES_TO_RADIANS"), (0, u "RADIANS_TO_DEGREES")] 94

def k2m0 : Method := { name := "<init>", desc := "()V", sig := { parameters := [], returnType := none }, accessFlags := 2, code := none }
def k2c1 : Code := { maxStack := 2, maxLocals := 2, code := jdk_29_method_65_code, exceptionTable := #[], attributes := #[] }
def k2m1 : Method := { name := "max", desc := "(II)I", sig := { parameters := [.int, .int], returnType := some .int }, accessFlags := 9, code := some k2c1 }
def k2c2 : Code := { maxStack := 2, maxLocals := 2, code := jdk_29_method_69_code, exceptionTable := #[], attributes := #[] }
def k2m2 : Method := { name := "min", desc := "(II)I", sig := { parameters := [.int, .int], returnType := some .int }, accessFlags := 9, code := some k2c2 }
/-- java/lang/Math -/
def k2 : Class := { plain "java/lang/Math" (some 0) with
  accessFlags := 49
  interfaces := #[]
  cf := some (fileOf pool2 1 #[.nestMembers #[98]] #[{ accessFlags := 2, nameIndex := 7, descriptorIndex := 8, attributes := #[] }, { accessFlags := 9, nameIndex := 198, descriptorIndex := 335, attributes := #[] }, { accessFlags := 9, nameIndex := 201, descriptorIndex := 335, attributes := #[] }] 49 4 #[] #[{ accessFlags := 25, nameIndex := 354, descriptorIndex := 339, attributes := #[] }, { accessFlags := 25, nameIndex := 358, descriptorIndex := 339, attributes := #[] }, { accessFlags := 25, nameIndex := 361, descriptorIndex := 339, attributes := #[] }, { accessFlags := 26, nameIndex := 364, descriptorIndex := 339, attributes := #[] }, { accessFlags := 26, nameIndex := 365, descriptorIndex := 339, attributes := #[] }, { accessFlags := 26, nameIndex := 172, descriptorIndex := 173, attributes := #[] }, { accessFlags := 26, nameIndex := 176, descriptorIndex := 173, attributes := #[] }, { accessFlags := 8, nameIndex := 344, descriptorIndex := 339, attributes := #[] }, { accessFlags := 8, nameIndex := 338, descriptorIndex := 339, attributes := #[] }, { accessFlags := 4120, nameIndex := 245, descriptorIndex := 246, attributes := #[] }])
  fields := #[{ name := "E", type := .double, accessFlags := 25, slot := 0, constantValue := 0 }, { name := "PI", type := .double, accessFlags := 25, slot := 1, constantValue := 0 }, { name := "TAU", type := .double, accessFlags := 25, slot := 2, constantValue := 0 }, { name := "DEGREES_TO_RADIANS", type := .double, accessFlags := 26, slot := 3, constantValue := 0 }, { name := "RADIANS_TO_DEGREES", type := .double, accessFlags := 26, slot := 4, constantValue := 0 }, { name := "negativeZeroFloatBits", type := .long, accessFlags := 26, slot := 5, constantValue := 0 }, { name := "negativeZeroDoubleBits", type := .long, accessFlags := 26, slot := 6, constantValue := 0 }, { name := "twoToTheDoubleScaleUp", type := .double, accessFlags := 8, slot := 7, constantValue := 0 }, { name := "twoToTheDoubleScaleDown", type := .double, accessFlags := 8, slot := 8, constantValue := 0 }, { name := "$assertionsDisabled", type := .boolean, accessFlags := 4120, slot := 9, constantValue := 0 }]
  methods := #[k2m0, k2m1, k2m2]
  instanceTypes := #[]
  staticTypes := #[.double, .double, .double, .double, .double, .long, .long, .double, .double, .boolean]
  resolved := Array.replicate 460 none
  statics := none }

def pool3 : Array CpInfo := pool [(1, .class_ 2), (0, u "java/io/Serializable"), (0, .class_ 4), (0, u "java/lang/Object")] 2

/-- java/io/Serializable -/
def k3 : Class := { plain "java/io/Serializable" (some 0) with
  accessFlags := 1537
  interfaces := #[]
  cf := some (fileOf pool3 1 #[] #[] 1537 3 #[] #[])
  fields := #[]
  methods := #[]
  instanceTypes := #[]
  staticTypes := #[]
  resolved := Array.replicate 7 none
  statics := none }

def pool4 : Array CpInfo := pool [(1, .class_ 2), (0, u "java/lang/Comparable"), (0, .class_ 4), (0, u "java/lang/Object")] 7

/-- java/lang/Comparable -/
def k4 : Class := { plain "java/lang/Comparable" (some 0) with
  accessFlags := 1537
  interfaces := #[]
  cf := some (fileOf pool4 1 #[] #[] 1537 3 #[] #[])
  fields := #[]
  methods := #[]
  instanceTypes := #[]
  staticTypes := #[]
  resolved := Array.replicate 12 none
  statics := none }

def pool5 : Array CpInfo := pool [(2, .class_ 4), (1, u "java/lang/CharSequence"), (42, .class_ 48), (0, u "java/lang/CharSequence$1CodePointIterator"), (10, .class_ 60), (0, u "java/lang/CharSequence$1CharIterator"), (5, .class_ 67), (0, u "java/lang/Object")] 63

/-- java/lang/CharSequence -/
def k5 : Class := { plain "java/lang/CharSequence" (some 0) with
  accessFlags := 1537
  interfaces := #[]
  cf := some (fileOf pool5 2 #[.nestMembers #[47, 59]] #[] 1537 66 #[] #[])
  fields := #[]
  methods := #[]
  instanceTypes := #[]
  staticTypes := #[]
  resolved := Array.replicate 131 none
  statics := none }

def pool6 : Array CpInfo := pool [(1, .class_ 2), (0, u "java/lang/constant/Constable"), (0, .class_ 4), (0, u "java/lang/Object")] 6

/-- java/lang/constant/Constable -/
def k6 : Class := { plain "java/lang/constant/Constable" (some 0) with
  accessFlags := 1537
  interfaces := #[]
  cf := some (fileOf pool6 1 #[] #[] 1537 3 #[] #[])
  fields := #[]
  methods := #[]
  instanceTypes := #[]
  staticTypes := #[]
  resolved := Array.replicate 11 none
  statics := none }

def pool7 : Array CpInfo := pool [(1, .class_ 2), (0, u "java/lang/constant/ConstantDesc"), (0, .class_ 4), (0, u "java/lang/Object")] 32

/-- java/lang/constant/ConstantDesc -/
def k7 : Class := { plain "java/lang/constant/ConstantDesc" (some 0) with
  accessFlags := 1537
  interfaces := #[]
  cf := some (fileOf pool7 1 #[] #[] 1537 3 #[] #[])
  fields := #[]
  methods := #[]
  instanceTypes := #[]
  staticTypes := #[]
  resolved := Array.replicate 37 none
  statics := none }

def pool8 : Array CpInfo := pool [(1, .methodref 2 3), (0, .class_ 4), (0, .nameAndType 5 6), (0, u "java/lang/Object"), (0, u "<init>"), (0, u "()V"), (2, .fieldref 10 11), (0, .class_ 12), (0, .nameAndType 13 14), (0, u "java/lang/String"), (0, u "value"), (0, u "[B"), (0, .fieldref 10 16), (0, .nameAndType 17 18), (0, u "coder"), (0, u "B"), (2, u "hash"), (0, u "I"), (2, u "hashIsZero"), (0, u "Z"), (11, .fieldref 10 39), (0, .nameAndType 40 26), (0, u "COMPACT_STRINGS"), (12, u "toBytes"), (53, .class_ 109), (1, u "java/lang/StringLatin1"), (99, .methodref 10 210), (0, .nameAndType 5 211), (0, u "([BB)V"), (157, u "(C)Z"), (205, .class_ 576), (0, u "java/lang/CharSequence"), (22, u "CASE_INSENSITIVE_ORDER"), (0, u "Ljava/util/Comparator;"), (181, u "valueOf"), (0, u "(C)Ljava/lang/String;"), (231, .methodref 107 1016), (0, .nameAndType 1017 369), (0, u "canEncode"), (0, .methodref 107 1019), (0, .nameAndType 53 1020), (0, u "(C)[B"), (80, u "serialPersistentFields"), (0, u "[Ljava/io/ObjectStreamField;"), (0, .class_ 1104), (0, u "java/lang/String$CaseInsensitiveComparator"), (1, .class_ 1107), (0, u "java/io/Serializable"), (0, .class_ 1109), (0, u "java/lang/Comparable"), (0, .class_ 1111), (0, u "java/lang/constant/Constable"), (0, .class_ 1113), (0, u "java/lang/constant/ConstantDesc"), (2, u "serialVersionUID"), (0, u "J"), (3, u "REPL"), (0, u "C"), (2, u "LATIN1"), (1, u "UTF16")] 323

def k8m0 : Method := { name := "<init>", desc := "()V", sig := { parameters := [], returnType := none }, accessFlags := 1, code := none }
def k8c1 : Code := { maxStack := 4, maxLocals := 1, code := jdk_42_method_139_code, exceptionTable := #[], attributes := #[] }
def k8m1 : Method := { name := "valueOf", desc := "(C)Ljava/lang/String;", sig := { parameters := [.char], returnType := some (.object "java/lang/String") }, accessFlags := 9, code := some k8c1 }
def k8c2 : Code := { maxStack := 2, maxLocals := 3, code := jdk_42_method_151_code, exceptionTable := #[], attributes := #[] }
def k8m2 : Method := { name := "<init>", desc := "([BB)V", sig := { parameters := [(.array .byte), .byte], returnType := none }, accessFlags := 0, code := some k8c2 }
/-- java/lang/String -/
def k8 : Class := { plain "java/lang/String" (some 0) with
  accessFlags := 49
  interfaces := #[3, 4, 5, 6, 7]
  cf := some (fileOf pool8 10 #[.nestMembers #[1103]] #[{ accessFlags := 1, nameIndex := 5, descriptorIndex := 6, attributes := #[] }, { accessFlags := 9, nameIndex := 782, descriptorIndex := 783, attributes := #[] }, { accessFlags := 0, nameIndex := 5, descriptorIndex := 211, attributes := #[] }] 49 2 #[1106, 1108, 575, 1110, 1112] #[{ accessFlags := 18, nameIndex := 13, descriptorIndex := 14, attributes := #[] }, { accessFlags := 18, nameIndex := 17, descriptorIndex := 18, attributes := #[] }, { accessFlags := 2, nameIndex := 21, descriptorIndex := 22, attributes := #[] }, { accessFlags := 2, nameIndex := 25, descriptorIndex := 26, attributes := #[] }, { accessFlags := 26, nameIndex := 1116, descriptorIndex := 1117, attributes := #[] }, { accessFlags := 24, nameIndex := 40, descriptorIndex := 26, attributes := #[] }, { accessFlags := 26, nameIndex := 1101, descriptorIndex := 1102, attributes := #[] }, { accessFlags := 26, nameIndex := 1121, descriptorIndex := 1122, attributes := #[] }, { accessFlags := 25, nameIndex := 599, descriptorIndex := 600, attributes := #[] }, { accessFlags := 24, nameIndex := 1125, descriptorIndex := 18, attributes := #[] }, { accessFlags := 24, nameIndex := 1127, descriptorIndex := 18, attributes := #[] }])
  fields := #[{ name := "value", type := (.array .byte), accessFlags := 18, slot := 0, constantValue := 0 }, { name := "coder", type := .byte, accessFlags := 18, slot := 1, constantValue := 0 }, { name := "hash", type := .int, accessFlags := 2, slot := 2, constantValue := 0 }, { name := "hashIsZero", type := .boolean, accessFlags := 2, slot := 3, constantValue := 0 }, { name := "serialVersionUID", type := .long, accessFlags := 26, slot := 0, constantValue := 0 }, { name := "COMPACT_STRINGS", type := .boolean, accessFlags := 24, slot := 1, constantValue := 0 }, { name := "serialPersistentFields", type := (.array (.object "java/io/ObjectStreamField")), accessFlags := 26, slot := 2, constantValue := 0 }, { name := "REPL", type := .char, accessFlags := 26, slot := 3, constantValue := 0 }, { name := "CASE_INSENSITIVE_ORDER", type := (.object "java/util/Comparator"), accessFlags := 25, slot := 4, constantValue := 0 }, { name := "LATIN1", type := .byte, accessFlags := 24, slot := 5, constantValue := 0 }, { name := "UTF16", type := .byte, accessFlags := 24, slot := 6, constantValue := 0 }]
  methods := #[k8m0, k8m1, k8m2]
  instanceTypes := #[(.array .byte), .byte, .int, .boolean]
  staticTypes := #[.long, .boolean, (.array (.object "java/io/ObjectStreamField")), .char, (.object "java/util/Comparator"), .byte, .byte]
  resolved := Array.replicate 1451 none
  statics := some 0 }

def pool9 : Array CpInfo := pool [(4, .class_ 6), (1, u "java/lang/Object"), (0, u "<init>"), (0, u "()V"), (5, .class_ 16), (1, u "java/lang/StringLatin1"), (73, u "canEncode"), (14, u "(C)Z"), (15, u "$assertionsDisabled"), (0, u "Z"), (98, .class_ 223), (1, u "java/lang/StringLatin1$LinesSpliterator"), (156, u "toBytes"), (1, u "(C)[B"), (7, .class_ 391), (0, u "java/lang/StringLatin1$CharsSpliterator")] 3

def k9m0 : Method := { name := "<init>", desc := "()V", sig := { parameters := [], returnType := none }, accessFlags := 0, code := none }
def k9c1 : Code := { maxStack := 2, maxLocals := 1, code := jdk_43_method_3_code, exceptionTable := #[], attributes := #[] }
def k9m1 : Method := { name := "canEncode", desc := "(C)Z", sig := { parameters := [.char], returnType := some .boolean }, accessFlags := 9, code := some k9c1 }
def k9c2 : Code := { maxStack := 4, maxLocals := 1, code := jdk_43_method_46_code, exceptionTable := #[], attributes := #[] }
def k9m2 : Method := { name := "toBytes", desc := "(C)[B", sig := { parameters := [.char], returnType := some (.array .byte) }, accessFlags := 9, code := some k9c2 }
/-- java/lang/StringLatin1 -/
def k9 : Class := { plain "java/lang/StringLatin1" (some 0) with
  accessFlags := 48
  interfaces := #[]
  cf := some (fileOf pool9 14 #[.nestMembers #[390, 221]] #[{ accessFlags := 0, nameIndex := 7, descriptorIndex := 8, attributes := #[] }, { accessFlags := 9, nameIndex := 90, descriptorIndex := 105, attributes := #[] }, { accessFlags := 9, nameIndex := 380, descriptorIndex := 382, attributes := #[] }] 48 4 #[] #[{ accessFlags := 4120, nameIndex := 121, descriptorIndex := 122, attributes := #[] }])
  fields := #[{ name := "$assertionsDisabled", type := .boolean, accessFlags := 4120, slot := 0, constantValue := 0 }]
  methods := #[k9m0, k9m1, k9m2]
  instanceTypes := #[]
  staticTypes := #[.boolean]
  resolved := Array.replicate 395 none
  statics := none }

def pool10 : Array CpInfo := pool [(2, .class_ 4), (1, u "java/lang/Object"), (0, u "<init>"), (0, u "()V"), (28, .class_ 36), (0, u "com/example/pricewise/pricewise/Parameters"), (6, u "requireStrictlyBetween"), (0, u "(Ljava/lang/String;DII)V")] 28

def k10m0 : Method := { name := "<init>", desc := "()V", sig := { parameters := [], returnType := none }, accessFlags := 2, code := none }
def k10c1 : Code := { maxStack := 7, maxLocals := 5, code := prog_2_method_4_code, exceptionTable := #[], attributes := #[] }
def k10m1 : Method := { name := "requireStrictlyBetween", desc := "(Ljava/lang/String;DII)V", sig := { parameters := [(.object "java/lang/String"), .double, .int, .int], returnType := none }, accessFlags := 8, code := some k10c1 }
/-- com/example/pricewise/pricewise/Parameters -/
def k10 : Class := { plain "com/example/pricewise/pricewise/Parameters" (some 0) with
  accessFlags := 48
  interfaces := #[]
  cf := some (fileOf pool10 35 #[] #[{ accessFlags := 2, nameIndex := 5, descriptorIndex := 6, attributes := #[] }, { accessFlags := 8, nameIndex := 43, descriptorIndex := 44, attributes := #[] }] 48 2 #[] #[])
  fields := #[]
  methods := #[k10m0, k10m1]
  instanceTypes := #[]
  staticTypes := #[]
  resolved := Array.replicate 73 none
  statics := none }

def pool11 : Array CpInfo := pool [(2, .class_ 4), (1, u "java/lang/Object"), (0, u "<init>"), (0, u "()V"), (17, .class_ 26), (1, u "jdk/internal/util/Preconditions"), (28, .class_ 56), (0, u "jdk/internal/util/Preconditions$4"), (57, .class_ 115), (0, u "jdk/internal/util/Preconditions$1"), (7, u "SIOOBE_FORMATTER"), (0, u "Ljava/util/function/BiFunction;"), (0, .class_ 126), (0, u "jdk/internal/util/Preconditions$2"), (3, u "AIOOBE_FORMATTER"), (0, .class_ 132), (0, u "jdk/internal/util/Preconditions$3"), (3, u "IOOBE_FORMATTER")] 57

def k11m0 : Method := { name := "<init>", desc := "()V", sig := { parameters := [], returnType := none }, accessFlags := 1, code := none }
/-- jdk/internal/util/Preconditions -/
def k11 : Class := { plain "jdk/internal/util/Preconditions" (some 0) with
  accessFlags := 33
  interfaces := #[]
  cf := some (fileOf pool11 24 #[.nestMembers #[55, 131, 125, 114]] #[{ accessFlags := 1, nameIndex := 5, descriptorIndex := 6, attributes := #[] }] 33 2 #[] #[{ accessFlags := 25, nameIndex := 123, descriptorIndex := 124, attributes := #[] }, { accessFlags := 25, nameIndex := 130, descriptorIndex := 124, attributes := #[] }, { accessFlags := 25, nameIndex := 136, descriptorIndex := 124, attributes := #[] }])
  fields := #[{ name := "SIOOBE_FORMATTER", type := (.object "java/util/function/BiFunction"), accessFlags := 25, slot := 0, constantValue := 0 }, { name := "AIOOBE_FORMATTER", type := (.object "java/util/function/BiFunction"), accessFlags := 25, slot := 1, constantValue := 0 }, { name := "IOOBE_FORMATTER", type := (.object "java/util/function/BiFunction"), accessFlags := 25, slot := 2, constantValue := 0 }]
  methods := #[k11m0]
  instanceTypes := #[]
  staticTypes := #[(.object "java/util/function/BiFunction"), (.object "java/util/function/BiFunction"), (.object "java/util/function/BiFunction")]
  resolved := Array.replicate 194 none
  statics := some 1 }

def pool12 : Array CpInfo := pool [(9, u "<init>"), (6, .class_ 18), (1, u "java/lang/Object"), (0, u "()V"), (1, .class_ 23), (1, u "jdk/internal/util/ArraysSupport"), (0, u "LOG2_ARRAY_LONG_INDEX_SCALE"), (0, u "I"), (2, u "U"), (0, u "Ljdk/internal/misc/Unsafe;"), (8, u "BIG_ENDIAN"), (0, u "Z"), (8, u "LOG2_BYTE_BIT_SIZE"), (4, u "LOG2_ARRAY_INT_INDEX_SCALE"), (54, u "JLA"), (0, u "Ljdk/internal/access/JavaLangAccess;"), (11, u "LOG2_ARRAY_BOOLEAN_INDEX_SCALE"), (9, u "LOG2_ARRAY_BYTE_INDEX_SCALE"), (5, u "LOG2_ARRAY_CHAR_INDEX_SCALE"), (5, u "LOG2_ARRAY_SHORT_INDEX_SCALE"), (18, u "LOG2_ARRAY_FLOAT_INDEX_SCALE"), (24, u "LOG2_ARRAY_DOUBLE_INDEX_SCALE"), (89, u "T_BOOLEAN"), (2, u "T_CHAR"), (1, u "T_FLOAT"), (1, u "T_DOUBLE"), (1, u "T_BYTE"), (1, u "T_SHORT"), (1, u "T_INT"), (1, u "T_LONG"), (1, u "SOFT_MAX_ARRAY_LENGTH")] 83

def k12m0 : Method := { name := "<init>", desc := "()V", sig := { parameters := [], returnType := none }, accessFlags := 2, code := none }
/-- jdk/internal/util/ArraysSupport -/
def k12 : Class := { plain "jdk/internal/util/ArraysSupport" (some 0) with
  accessFlags := 33
  interfaces := #[]
  cf := some (fileOf pool12 21 #[] #[{ accessFlags := 2, nameIndex := 9, descriptorIndex := 19, attributes := #[] }] 33 16 #[] #[{ accessFlags := 24, nameIndex := 28, descriptorIndex := 29, attributes := #[] }, { accessFlags := 26, nameIndex := 38, descriptorIndex := 39, attributes := #[] }, { accessFlags := 25, nameIndex := 121, descriptorIndex := 25, attributes := #[] }, { accessFlags := 25, nameIndex := 131, descriptorIndex := 25, attributes := #[] }, { accessFlags := 25, nameIndex := 137, descriptorIndex := 25, attributes := #[] }, { accessFlags := 25, nameIndex := 143, descriptorIndex := 25, attributes := #[] }, { accessFlags := 25, nameIndex := 53, descriptorIndex := 25, attributes := #[] }, { accessFlags := 25, nameIndex := 24, descriptorIndex := 25, attributes := #[] }, { accessFlags := 25, nameIndex := 162, descriptorIndex := 25, attributes := #[] }, { accessFlags := 25, nameIndex := 187, descriptorIndex := 25, attributes := #[] }, { accessFlags := 26, nameIndex := 48, descriptorIndex := 25, attributes := #[] }, { accessFlags := 25, nameIndex := 277, descriptorIndex := 25, attributes := #[] }, { accessFlags := 25, nameIndex := 280, descriptorIndex := 25, attributes := #[] }, { accessFlags := 25, nameIndex := 282, descriptorIndex := 25, attributes := #[] }, { accessFlags := 25, nameIndex := 284, descriptorIndex := 25, attributes := #[] }, { accessFlags := 25, nameIndex := 286, descriptorIndex := 25, attributes := #[] }, { accessFlags := 25, nameIndex := 288, descriptorIndex := 25, attributes := #[] }, { accessFlags := 25, nameIndex := 290, descriptorIndex := 25, attributes := #[] }, { accessFlags := 25, nameIndex := 292, descriptorIndex := 25, attributes := #[] }, { accessFlags := 26, nameIndex := 108, descriptorIndex := 109, attributes := #[] }, { accessFlags := 25, nameIndex := 294, descriptorIndex := 25, attributes := #[] }])
  fields := #[{ name := "U", type := (.object "jdk/internal/misc/Unsafe"), accessFlags := 24, slot := 0, constantValue := 0 }, { name := "BIG_ENDIAN", type := .boolean, accessFlags := 26, slot := 1, constantValue := 0 }, { name := "LOG2_ARRAY_BOOLEAN_INDEX_SCALE", type := .int, accessFlags := 25, slot := 2, constantValue := 0 }, { name := "LOG2_ARRAY_BYTE_INDEX_SCALE", type := .int, accessFlags := 25, slot := 3, constantValue := 0 }, { name := "LOG2_ARRAY_CHAR_INDEX_SCALE", type := .int, accessFlags := 25, slot := 4, constantValue := 0 }, { name := "LOG2_ARRAY_SHORT_INDEX_SCALE", type := .int, accessFlags := 25, slot := 5, constantValue := 0 }, { name := "LOG2_ARRAY_INT_INDEX_SCALE", type := .int, accessFlags := 25, slot := 6, constantValue := 0 }, { name := "LOG2_ARRAY_LONG_INDEX_SCALE", type := .int, accessFlags := 25, slot := 7, constantValue := 0 }, { name := "LOG2_ARRAY_FLOAT_INDEX_SCALE", type := .int, accessFlags := 25, slot := 8, constantValue := 0 }, { name := "LOG2_ARRAY_DOUBLE_INDEX_SCALE", type := .int, accessFlags := 25, slot := 9, constantValue := 0 }, { name := "LOG2_BYTE_BIT_SIZE", type := .int, accessFlags := 26, slot := 10, constantValue := 0 }, { name := "T_BOOLEAN", type := .int, accessFlags := 25, slot := 11, constantValue := 0 }, { name := "T_CHAR", type := .int, accessFlags := 25, slot := 12, constantValue := 0 }, { name := "T_FLOAT", type := .int, accessFlags := 25, slot := 13, constantValue := 0 }, { name := "T_DOUBLE", type := .int, accessFlags := 25, slot := 14, constantValue := 0 }, { name := "T_BYTE", type := .int, accessFlags := 25, slot := 15, constantValue := 0 }, { name := "T_SHORT", type := .int, accessFlags := 25, slot := 16, constantValue := 0 }, { name := "T_INT", type := .int, accessFlags := 25, slot := 17, constantValue := 0 }, { name := "T_LONG", type := .int, accessFlags := 25, slot := 18, constantValue := 0 }, { name := "JLA", type := (.object "jdk/internal/access/JavaLangAccess"), accessFlags := 26, slot := 19, constantValue := 0 }, { name := "SOFT_MAX_ARRAY_LENGTH", type := .int, accessFlags := 25, slot := 20, constantValue := 0 }]
  methods := #[k12m0]
  instanceTypes := #[]
  staticTypes := #[(.object "jdk/internal/misc/Unsafe"), .boolean, .int, .int, .int, .int, .int, .int, .int, .int, .int, .int, .int, .int, .int, .int, .int, .int, .int, (.object "jdk/internal/access/JavaLangAccess"), .int]
  resolved := Array.replicate 378 none
  statics := none }

def pool13 : Array CpInfo := pool [(1, u "java/lang/Cloneable"), (0, .class_ 1), (0, u "java/lang/Object"), (0, .class_ 3)] 3

/-- java/lang/Cloneable -/
def k13 : Class := { plain "java/lang/Cloneable" (some 0) with
  accessFlags := 1537
  interfaces := #[]
  cf := some (fileOf pool13 2 #[] #[] 1537 4 #[] #[])
  fields := #[]
  methods := #[]
  instanceTypes := #[]
  staticTypes := #[]
  resolved := Array.replicate 8 none
  statics := none }

/-- the primitive byte -/
def k14 : Class := { plain "byte" none with kind := .primitive 'B', accessFlags := 0x411 }
/-- [B -/
def k15 : Class := { plain "[B" (some 0) with kind := .array 14 .byte, interfaces := #[13, 3], accessFlags := 1041 }

/-- the primitive int -/
def k16 : Class := { plain "int" none with kind := .primitive 'I', accessFlags := 0x411 }
/-- [I -/
def k17 : Class := { plain "[I" (some 0) with kind := .array 16 .int, interfaces := #[13, 3], accessFlags := 1041 }

def heap : Heap := #[{ cls := 8, slots := #[.long 0, .int 1, .null, .int 0, .null, .int 0, .int 0], vm := .statics 8 },
  { cls := 11, slots := #[.null, .null, .null], vm := .statics 11 }]
def classes : Array Class := #[k0, k1, k2, k3, k4, k5, k6, k7, k8, k9, k10, k11, k12, k13, k14, k15, k16, k17]
def interned : List (Array UInt16 × Addr) := []
def slotsUsed : Nat := 10
def theMethod : MethodId := ⟨1, 1⟩
def args0 : Array Value := #[.int 5, .int 9, .long 3, .int 1, .int 65]
def aboutOver (below : List Frame) : State where
  vm := { classes := classes, interned := interned.toArray }
  heap := heap
  slotsUsed := slotsUsed
  threads := #[{ frames := .invoking theMethod args0 :: below }]
def below0 : List Frame := [.native { method := ⟨0, 0⟩, args := #[] }]
def about1 : State := aboutOver below0
def p0 : Program := .bare "" "" ""
def e0 : Env := launch0.env 0 0 0
theorem w_frames : about1.frames = Frame.invoking theMethod args0 :: below0 := rfl
set_option maxRecDepth 65536 in
theorem w_args : argsFit about1.vm theMethod args0 = true := by decide +kernel
set_option maxRecDepth 65536 in
theorem w_heap : heapFits about1 = true := by decide +kernel
set_option maxRecDepth 65536 in
theorem w_runnable : about1.curStatus? = some .runnable := by decide +kernel
set_option maxRecDepth 65536 in
theorem w_alone : about1.alone = true := by decide +kernel
set_option maxRecDepth 65536 in
theorem w_named : about1.methodNamed? x = some theMethod := by decide +kernel
set_option maxRecDepth 65536 in
theorem w_hears : about1.hears theMethod below0 = true := by decide +kernel
set_option maxRecDepth 65536 in
theorem w_ripe : about1.ripe theMethod args0 below0 = true := by decide +kernel
theorem w_running : about1.status = .running := rfl
set_option maxRecDepth 65536 in
theorem w_room : about1.hasRoom e0.platform room_1 = true :=
  launch0.hasRoom_least _ room_1 (by decide +kernel) (by decide +kernel) (by decide +kernel) (by decide +kernel) (by decide +kernel) (by decide +kernel)
theorem allAtoms_all (ts : List Jvm.Cond) (a : Array Jvm.Value) (st : Jvm.State) : (allAtoms ts).before a st = ts.all (fun c => c.before a st) := by
  induction ts with
  | nil => rfl
  | cons c t ih =>
    show (Jvm.Cond.and c (allAtoms t)).before a st = _
    rw [Jvm.Cond.before_and, ih, List.all_cons]
def words1 : List Jvm.Cond := Jvm.Cond.code x code maxLocals ret :: tables_1
/-- a 'code' word, met by the world's own term for the bytes: nothing is compared byte by byte -/
theorem code_word {y : MethodName} {bytes : ByteArray} {mx : Nat} {rt : Option FieldType} {a : Array Value} {s : State} {m : MethodId} {meth : Method} {c : Code} (h1 : s.methodNamed? y = some m) (h2 : s.vm.method? m = some meth) (h3 : meth.code = some c) (h4 : c.code = bytes)
    (h5 : (c.maxLocals == mx && c.exceptionTable.isEmpty && decide (c.maxStack ≤ mostOperands) && decide (meth.sig.returnType = rt) && !meth.locks && decide (parseMethodDescriptor y.desc = some meth.sig)) = true) : (Jvm.Cond.code y bytes mx rt).before a s = true := by
  simp only [Bool.and_eq_true, beq_iff_eq, Bool.not_eq_true', decide_eq_true_eq] at h5
  obtain ⟨⟨⟨⟨⟨g1, g2⟩, g3⟩, g4⟩, g5⟩, g6⟩ := h5
  simp [Cond.before, Cond.holds, Cond.value, h1, h2, h3, h4, g1, g2, g3, g4, g5, g6]
def isCode : Jvm.Cond → Bool
  | .code _ _ _ _ => true
  | _ => false
theorem all_split {L : List Jvm.Cond} {P : Jvm.Cond → Bool} (h1 : L.all (fun c => isCode c || P c) = true) (h2 : ∀ c ∈ L.filter isCode, P c = true) : L.all P = true := by
  refine List.all_eq_true.mpr fun c hc => ?_
  have h := List.all_eq_true.mp h1 c hc
  rcases Bool.eq_false_or_eq_true (isCode c) with hi | hi
  · exact h2 c (List.mem_filter.mpr ⟨hc, hi⟩)
  · simpa [hi] using h
set_option maxRecDepth 65536 in
theorem w_c0 : (Jvm.Cond.code x code maxLocals ret).before args0 about1 = true := code_word (m := ⟨1, 1⟩) (meth := k1m1) (c := k1c1) (by decide +kernel) rfl rfl rfl (by decide +kernel)
set_option maxRecDepth 65536 in
theorem w_c1 : (Jvm.Cond.code ({ cls := "java/lang/Math", name := "min", desc := "(II)I" } : Jvm.MethodName) jdk_29_method_69_code (2 : Nat) (Option.some Jvm.ClassFile.FieldType.int)).before args0 about1 = true := code_word (m := ⟨2, 2⟩) (meth := k2m2) (c := k2c2) (by decide +kernel) rfl rfl rfl (by decide +kernel)
set_option maxRecDepth 65536 in
theorem w_c2 : (Jvm.Cond.code ({ cls := "java/lang/Math", name := "max", desc := "(II)I" } : Jvm.MethodName) jdk_29_method_65_code (2 : Nat) (Option.some Jvm.ClassFile.FieldType.int)).before args0 about1 = true := code_word (m := ⟨2, 1⟩) (meth := k2m1) (c := k2c1) (by decide +kernel) rfl rfl rfl (by decide +kernel)
set_option maxRecDepth 65536 in
theorem w_c3 : (Jvm.Cond.code ({ cls := "java/lang/String", name := "valueOf", desc := "(C)Ljava/lang/String;" } : Jvm.MethodName) jdk_42_method_139_code (1 : Nat) (Option.some (Jvm.ClassFile.FieldType.object "java/lang/String"))).before args0 about1 = true := code_word (m := ⟨8, 1⟩) (meth := k8m1) (c := k8c1) (by decide +kernel) rfl rfl rfl (by decide +kernel)
set_option maxRecDepth 65536 in
theorem w_c4 : (Jvm.Cond.code ({ cls := "java/lang/StringLatin1", name := "canEncode", desc := "(C)Z" } : Jvm.MethodName) jdk_43_method_3_code (1 : Nat) (Option.some Jvm.ClassFile.FieldType.boolean)).before args0 about1 = true := code_word (m := ⟨9, 1⟩) (meth := k9m1) (c := k9c1) (by decide +kernel) rfl rfl rfl (by decide +kernel)
set_option maxRecDepth 65536 in
theorem w_c5 : (Jvm.Cond.code ({ cls := "java/lang/StringLatin1", name := "toBytes", desc := "(C)[B" } : Jvm.MethodName) jdk_43_method_46_code (1 : Nat) (Option.some (Jvm.ClassFile.FieldType.array Jvm.ClassFile.FieldType.byte))).before args0 about1 = true := code_word (m := ⟨9, 2⟩) (meth := k9m2) (c := k9c2) (by decide +kernel) rfl rfl rfl (by decide +kernel)
set_option maxRecDepth 65536 in
theorem w_c6 : (Jvm.Cond.code ({ cls := "java/lang/String", name := "<init>", desc := "([BB)V" } : Jvm.MethodName) jdk_42_method_151_code (3 : Nat) (Option.none : Option Jvm.ClassFile.FieldType)).before args0 about1 = true := code_word (m := ⟨8, 2⟩) (meth := k8m2) (c := k8c2) (by decide +kernel) rfl rfl rfl (by decide +kernel)
set_option maxRecDepth 65536 in
theorem w_c7 : (Jvm.Cond.code ({ cls := "java/lang/Object", name := "<init>", desc := "()V" } : Jvm.MethodName) object_method_1_code (1 : Nat) (Option.none : Option Jvm.ClassFile.FieldType)).before args0 about1 = true := code_word (m := ⟨0, 0⟩) (meth := k0m0) (c := k0c0) (by decide +kernel) rfl rfl rfl (by decide +kernel)
set_option maxRecDepth 65536 in
theorem w_c8 : (Jvm.Cond.code ({ cls := "com/example/pricewise/pricewise/Parameters", name := "requireStrictlyBetween", desc := "(Ljava/lang/String;DII)V" } : Jvm.MethodName) prog_2_method_4_code (5 : Nat) (Option.none : Option Jvm.ClassFile.FieldType)).before args0 about1 = true := code_word (m := ⟨10, 1⟩) (meth := k10m1) (c := k10c1) (by decide +kernel) rfl rfl rfl (by decide +kernel)
def codes1 : List Jvm.Cond := [Jvm.Cond.code x code maxLocals ret, Jvm.Cond.code ({ cls := "java/lang/Math", name := "min", desc := "(II)I" } : Jvm.MethodName) jdk_29_method_69_code (2 : Nat) (Option.some Jvm.ClassFile.FieldType.int), Jvm.Cond.code ({ cls := "java/lang/Math", name := "max", desc := "(II)I" } : Jvm.MethodName) jdk_29_method_65_code (2 : Nat) (Option.some Jvm.ClassFile.FieldType.int), Jvm.Cond.code ({ cls := "java/lang/String", name := "valueOf", desc := "(C)Ljava/lang/String;" } : Jvm.MethodName) jdk_42_method_139_code (1 : Nat) (Option.some (Jvm.ClassFile.FieldType.object "java/lang/String")), Jvm.Cond.code ({ cls := "java/lang/StringLatin1", name := "canEncode", desc := "(C)Z" } : Jvm.MethodName) jdk_43_method_3_code (1 : Nat) (Option.some Jvm.ClassFile.FieldType.boolean), Jvm.Cond.code ({ cls := "java/lang/StringLatin1", name := "toBytes", desc := "(C)[B" } : Jvm.MethodName) jdk_43_method_46_code (1 : Nat) (Option.some (Jvm.ClassFile.FieldType.array Jvm.ClassFile.FieldType.byte)), Jvm.Cond.code ({ cls := "java/lang/String", name := "<init>", desc := "([BB)V" } : Jvm.MethodName) jdk_42_method_151_code (3 : Nat) (Option.none : Option Jvm.ClassFile.FieldType), Jvm.Cond.code ({ cls := "java/lang/Object", name := "<init>", desc := "()V" } : Jvm.MethodName) object_method_1_code (1 : Nat) (Option.none : Option Jvm.ClassFile.FieldType), Jvm.Cond.code ({ cls := "com/example/pricewise/pricewise/Parameters", name := "requireStrictlyBetween", desc := "(Ljava/lang/String;DII)V" } : Jvm.MethodName) prog_2_method_4_code (5 : Nat) (Option.none : Option Jvm.ClassFile.FieldType)]
set_option maxRecDepth 65536 in
theorem codes_eq : words1.filter isCode = codes1 := rfl
theorem w_codes : ∀ c ∈ words1.filter isCode, c.before args0 about1 = true := by
  rw [codes_eq]
  intro c hc
  simp only [codes1, List.mem_cons, List.not_mem_nil, or_false] at hc
  rcases hc with rfl | rfl | rfl | rfl | rfl | rfl | rfl | rfl | rfl
  · exact w_c0
  · exact w_c1
  · exact w_c2
  · exact w_c3
  · exact w_c4
  · exact w_c5
  · exact w_c6
  · exact w_c7
  · exact w_c8
set_option maxRecDepth 65536 in
theorem w_t1 : (words1.take 24).all (fun c => isCode c || c.before args0 about1) = true := by decide +kernel
set_option maxRecDepth 65536 in
theorem w_t2 : (words1.drop 24).all (fun c => isCode c || c.before args0 about1) = true := by decide +kernel
theorem w_tables : (allAtoms (Jvm.Cond.code x code maxLocals ret :: tables_1)).before args0 about1 = true := by
  rw [allAtoms_all]
  show words1.all (fun c => c.before args0 about1) = true
  refine all_split ?_ w_codes
  rw [← List.take_append_drop 24 words1, List.all_append, w_t1, w_t2]
  rfl
set_option maxRecDepth 65536 in
theorem w_rest : rest_1_c.before args0 about1 = true := by decide +kernel
set_option maxRecDepth 65536 in
theorem w_case : (Jvm.Cond.and given_1 narrow_1).before args0 about1 = true := by decide +kernel
theorem w_applies : (headSpec (Jvm.Cond.code x code maxLocals ret :: tables_1) room_1).applies x e0.platform about1 = true :=
  (Spec.applies_iff w_frames).mpr ⟨w_running, w_runnable, w_alone, w_named, w_hears, w_ripe, w_room, w_tables⟩
theorem atStart : AtStart classFile x code maxLocals ret World_1 tables_1 room_1 Calls_1 rest_1 Pre_1 launch0 p0 e0 about1 theMethod args0 below0 :=
  ⟨lists_1, trivial, launch0.admits_env _ _ _, launch0.least_env, fairChoices_fair.cas, fairChoices_fair.clock, w_frames, w_args, w_heap, w_applies, trivial, w_rest, w_case⟩
end start1
theorem witness_1 : WitnessClaimed_1 := ⟨start1.p0, start1.e0, start1.about1, start1.theMethod, start1.args0, start1.below0, start1.atStart⟩
end Jvm.Pilot.@@N@@
