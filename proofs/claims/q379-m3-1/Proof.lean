import JvmDerived
import JvmDerived.Pilot.@@N@@Statement
import JvmDerived.Pilot.@@N@@Code
set_option linter.unusedVariables false
set_option linter.unusedSimpArgs false

namespace Jvm.RoadKit
open Sem ClassFile Op Lib Jvm.Stand Jvm.Free Jvm.LawKit
section New
variable {p : Program} {l : Launch} {e : Env} {R : Room} {s : State} {m : MethodId} {args : Array Value} {below : List Frame} {meth : Method} {c : Code} {T : State} {locs : List Loc} {cells slots : Nat}
theorem retI (X : Stand p l e R s m args below meth c T locs cells slots) (hx : p.tables.exec = Jvm.exec) {pc : Nat} {Ls : Array Slot} {z : Int32} {rest : List Value} (hret : meth.sig.returnType = some .int) (hd : decode c.code pc = .ok (.ireturn, 1)) {fs : List Frame}
    (hl : ∀ (f : JFrame) (acts : List Action), f.method = m → f.locked = none → f.entered = [] → (doReturn e (T.setTop f) acts (some (.int z))).1 = T.setFrames fs) : Steps p.tables e below (T.setTop (mkF m pc Ls (.int z :: rest))) (T.setFrames fs) := by
  have hm' : T.vm.method? m = some meth := X.method'
  have hn : narrow .int (.int z) = .int z := rfl
  show Steps p.tables e below (T.setTop { method := m, pc := pc, locals := Ls, stack := _ :: rest, locked := none }) _
  jvm_step X.here [X.here.top, hx, hd, hm', hret, hn]
  first | (intro acts; rw [hl _ acts rfl rfl rfl]) | rw [hl _ _ rfl rfl rfl]
  exact Steps.refl _
theorem retD (X : Stand p l e R s m args below meth c T locs cells slots) (hx : p.tables.exec = Jvm.exec) {pc : Nat} {Ls : Array Slot} {z : UInt64} {rest : List Value} (hret : meth.sig.returnType = some .double) (hd : decode c.code pc = .ok (.dreturn, 1)) {fs : List Frame}
    (hl : ∀ (f : JFrame) (acts : List Action), f.method = m → f.locked = none → f.entered = [] → (doReturn e (T.setTop f) acts (some (.double z))).1 = T.setFrames fs) : Steps p.tables e below (T.setTop (mkF m pc Ls (.double z :: rest))) (T.setFrames fs) := by
  have hm' : T.vm.method? m = some meth := X.method'
  have hn : narrow .double (.double z) = .double z := rfl
  show Steps p.tables e below (T.setTop { method := m, pc := pc, locals := Ls, stack := _ :: rest, locked := none }) _
  jvm_step X.here [X.here.top, hx, hd, hm', hret, hn]
  first | (intro acts; rw [hl _ acts rfl rfl rfl]) | rw [hl _ _ rfl rfl rfl]
  exact Steps.refl _
end New
end Jvm.RoadKit

namespace Jvm.Pilot.@@N@@
section OwnFloat
open Jvm.FP Jvm.FP.Core
/-- a double's value in units of 2^-1074 -/
def own_z (a : UInt64) : Int := zval b64 (val64 a)
def own_u : Int := ((2 ^ 1074 : Nat) : Int)
theorem own_ac1 (s l u : Int) : s * l * u * u = s * u * (l * u) := by ac_rfl
theorem own_ac2 (l u d : Int) : l * u * (d * u) = l * d * (u * u) := by ac_rfl
theorem own_ac3 (n u p : Int) : n * u * u * p = n * p * (u * u) := by ac_rfl
theorem own_u_pos : 0 < own_u := Int.natCast_pos.mpr (Nat.two_pow_pos _)
theorem own_p_pos (k : Nat) : (0 : Int) < 2 ^ k := Int.pow_pos (by decide)
/-- a is finite and lo ≤ a * 2^k ≤ hi -/
def own_In (k : Nat) (lo hi : Int) (a : UInt64) : Prop := DFin a ∧ lo * own_u ≤ own_z a * 2 ^ k ∧ own_z a * 2 ^ k ≤ hi * own_u
theorem own_rep {k : Nat} (hk : k ≤ 1000) {i : Int} (hi : i.natAbs < 2 ^ 53) : ∃ V, Core.fits b64 V ∧ V ≠ .nan ∧ (∃ s c q, V = .fin s c q) ∧ zval b64 V * 2 ^ k = i * own_u := by
  obtain ⟨c', q', h1, h2⟩ := round_exact good_b64 (decide (i < 0)) (c := i.natAbs) (q := -(k : Int)) hi (by rw [qmin_b64]; omega) (Int.le_trans (by omega) (show (0 : Int) ≤ b64.qmax from by decide))
  refine ⟨round b64 (.fin (decide (i < 0)) i.natAbs (-(k : Int))), round_fits good_b64 _, by rw [h1]; exact Datum.noConfusion, ⟨_, _, _, h1⟩, ?_⟩
  rw [h1]
  show signed (decide (i < 0)) (inUnits c' q' b64.qmin) * 2 ^ k = i * own_u
  rw [h2]
  unfold inUnits
  rw [signed_mul, show signed (decide (i < 0)) i.natAbs = i from by unfold signed; by_cases h : i < 0 <;> simp [h] <;> omega, qmin_b64, show (-(k : Int) - (-1074)).toNat = 1074 - k by omega, Int.mul_assoc]
  have e : (2 : Nat) ^ 1074 = 2 ^ (1074 - k) * 2 ^ k := by rw [← Nat.pow_add]; congr 1; omega
  unfold own_u
  rw [e, Int.natCast_mul, Int.natCast_pow 2 k]
  rfl
theorem own_fin_of {d V W : Datum} (hd : Core.fits b64 d) (hn : d ≠ .nan) (hV : Core.fits b64 V) (fV : ∃ s c q, V = .fin s c q) (hW : Core.fits b64 W) (fW : ∃ s c q, W = .fin s c q) (h1 : zval b64 V ≤ zval b64 d) (h2 : zval b64 d ≤ zval b64 W) : ∃ s c q, d = .fin s c q := by
  obtain ⟨s1, c1, q1, rfl⟩ := fV
  obtain ⟨s2, c2, q2, rfl⟩ := fW
  have t1 : zmag b64 (.fin s1 c1 q1) < b64.tails * 2 ^ (b64.exps - 2) := zmag_lt_top good_b64 hV
  have t2 : zmag b64 (.fin s2 c2 q2) < b64.tails * 2 ^ (b64.exps - 2) := zmag_lt_top good_b64 hW
  cases d with
  | nan => exact absurd rfl hn
  | fin s c q => exact ⟨s, c, q, rfl⟩
  | inf s =>
    exfalso
    have e : zval b64 (.inf s) = signed s (b64.tails * 2 ^ (b64.exps - 2)) := rfl
    rw [e] at h1 h2
    unfold zval at h1 h2
    generalize b64.tails * 2 ^ (b64.exps - 2) = top at *
    generalize zmag b64 (.fin s1 c1 q1) = z1 at *
    generalize zmag b64 (.fin s2 c2 q2) = z2 at *
    generalize sgn (.fin s1 c1 q1) = g1 at *
    generalize sgn (.fin s2 c2 q2) = g2 at *
    cases s <;> cases g1 <;> cases g2 <;> simp [signed] at h1 h2 <;> omega
/-- d is the rounding of num / den -/
def own_Mono (d : Datum) (num den : Int) : Prop := ∀ V, Core.fits b64 V → V ≠ .nan → (num ≤ zval b64 V * den → zval b64 d ≤ zval b64 V) ∧ (zval b64 V * den ≤ num → zval b64 V ≤ zval b64 d)
theorem own_mk {a : UInt64} {num den : Int} (hn : val64 a ≠ .nan) (M : own_Mono (val64 a) num den) (hden : 0 < den) {k : Nat} (hk : k ≤ 1000) {lo hi : Int} (bl : lo.natAbs < 2 ^ 53) (bh : hi.natAbs < 2 ^ 53) (h1 : lo * own_u * den ≤ num * 2 ^ k) (h2 : num * 2 ^ k ≤ hi * own_u * den) : own_In k lo hi a := by
  obtain ⟨V, fV, nV, gV, eV⟩ := own_rep hk bl
  obtain ⟨W, fW, nW, gW, eW⟩ := own_rep hk bh
  have pk := own_p_pos k
  have a1 : zval b64 V ≤ zval b64 (val64 a) := (M V fV nV).2 (by
    refine Int.le_of_mul_le_mul_right ?_ pk
    rw [Int.mul_right_comm, eV]; exact h1)
  have a2 : zval b64 (val64 a) ≤ zval b64 W := (M W fW nW).1 (by
    refine Int.le_of_mul_le_mul_right ?_ pk
    rw [Int.mul_right_comm (zval b64 W), eW]; exact h2)
  refine ⟨own_fin_of (val64_fits a) hn fV gV fW gW a1 a2, ?_, ?_⟩
  · rw [← eV]; exact Int.mul_le_mul_of_nonneg_right a1 (Int.le_of_lt pk)
  · rw [← eW]; exact Int.mul_le_mul_of_nonneg_right a2 (Int.le_of_lt pk)
theorem own_add_mono {a b : UInt64} (ha : DFin a) (hb : DFin b) : own_Mono (val64 (Core.dadd a b)) (own_z a + own_z b) 1 := by
  intro V hV nV
  rw [val64_dadd]
  have fa := val64_fits a
  have fb := val64_fits b
  unfold own_z
  obtain ⟨s, c, q, ea⟩ := ha
  obtain ⟨t, d, r, eb⟩ := hb
  rw [ea] at fa ⊢
  rw [eb] at fb ⊢
  obtain ⟨sg, n, e, e1, e2, e3⟩ := sum_units fa fb
  rw [e1]
  have z : (b64.qmin - b64.qmin).toNat = 0 := by omega
  constructor
  · intro h
    exact zval_round_le good_b64 hV nV (Int.le_refl _) e2 (by rw [e3, z]; simpa using h)
  · intro h
    exact zval_round_ge good_b64 hV nV (Int.le_refl _) e2 (by rw [e3, z]; simpa using h)
theorem own_mul_mono {a b : UInt64} (ha : DFin a) (hb : DFin b) : own_Mono (val64 (Core.dmul a b)) (own_z a * own_z b) own_u := by
  intro V hV nV
  rw [val64_dmul]
  have fa := val64_fits a
  have fb := val64_fits b
  unfold own_z
  obtain ⟨s, c, q, ea⟩ := ha
  obtain ⟨t, d, r, eb⟩ := hb
  rw [ea] at fa ⊢
  rw [eb] at fb ⊢
  obtain ⟨e1, e2, e3⟩ := product_units fa fb
  rw [e1]
  have e4 : signed (s != t) (inUnits (c * d) (q + r) (2 * b64.qmin)) = zval b64 (.fin s c q) * zval b64 (.fin t d r) := by
    rw [e3, signed_xor]; rfl
  have z : (b64.qmin - 2 * b64.qmin).toNat = 1074 := by rw [qmin_b64]; decide
  have z2 : 2 * b64.qmin ≤ b64.qmin := by rw [qmin_b64]; decide
  constructor
  · intro h
    exact zval_round_le good_b64 hV nV z2 e2 (by rw [e4, z]; exact h)
  · intro h
    exact zval_round_ge good_b64 hV nV z2 e2 (by rw [e4, z]; exact h)
theorem own_div_eq {c d : Nat} {q r : Int} (h1 : b64.qmin ≤ q) (h2 : b64.qmin ≤ r) (h3 : r ≤ b64.qmax) {V : Nat} :
    inUnits c (q - r) (-2200) * 2 ^ (r - b64.qmin).toNat = inUnits c q b64.qmin * 2 ^ 2200 ∧ (V * 2 ^ (b64.qmin - (-2200)).toNat * d) * 2 ^ (r - b64.qmin).toNat = V * inUnits d r b64.qmin * 2 ^ 1126 := by
  have e : b64.qmax = 971 := by decide
  rw [qmin_b64] at *
  unfold inUnits
  constructor
  · rw [Nat.mul_assoc, ← Nat.pow_add, Nat.mul_assoc, ← Nat.pow_add]
    congr 2; omega
  · rw [show ((-1074 : Int) - (-2200)).toNat = 1126 from by decide]
    generalize (2 : Nat) ^ 1126 = A
    generalize 2 ^ (r - -1074).toNat = B
    rw [Nat.mul_assoc (V * A), Nat.mul_right_comm]
theorem own_div_mag_le {σ s t u : Bool} {c d c' : Nat} {q r q' : Int} {V : Datum} (hx : Core.fits b64 (.fin s c q)) (hy : Core.fits b64 (.fin t d r)) (hd : 0 < d) (hV : Core.fits b64 V) (hn : V ≠ .nan)
    (h : zmag b64 (.fin s c q) * 2 ^ 1074 ≤ zmag b64 V * zmag b64 (.fin t d r)) : zmag b64 (roundRatio b64 σ c d (q - r)) ≤ zmag b64 V := by
  have e : b64.qmax = 971 := by decide
  have q1 := hx.2.1
  have r1 := hy.2.1
  have r2 := hy.2.2.1
  have m := qmin_b64
  refine zmag_roundRatio_le good_b64 hd hV hn (e0 := -2200) (by omega) (by omega) ?_
  obtain ⟨e1, e2⟩ := own_div_eq (c := c) (d := d) (V := zmag b64 V) q1 r1 r2
  refine Nat.le_of_mul_le_mul_right ?_ (Nat.two_pow_pos (r - b64.qmin).toNat)
  rw [e1, e2]
  have h' : inUnits c q b64.qmin * 2 ^ 1074 ≤ zmag b64 V * inUnits d r b64.qmin := h
  have h'' := Nat.mul_le_mul_right (2 ^ 1126) h'
  rw [Nat.mul_assoc (inUnits c q b64.qmin), ← Nat.pow_add] at h''
  exact h''
theorem own_div_mag_ge {σ s t u : Bool} {c d c' : Nat} {q r q' : Int} {V : Datum} (hx : Core.fits b64 (.fin s c q)) (hy : Core.fits b64 (.fin t d r)) (hd : 0 < d) (hV : Core.fits b64 V)
    (h : zmag b64 V * zmag b64 (.fin t d r) ≤ zmag b64 (.fin s c q) * 2 ^ 1074) : zmag b64 V ≤ zmag b64 (roundRatio b64 σ c d (q - r)) := by
  have e : b64.qmax = 971 := by decide
  have q1 := hx.2.1
  have r1 := hy.2.1
  have r2 := hy.2.2.1
  have m := qmin_b64
  refine zmag_roundRatio_ge good_b64 hd hV (e0 := -2200) (by omega) (by omega) ?_
  obtain ⟨e1, e2⟩ := own_div_eq (c := c) (d := d) (V := zmag b64 V) q1 r1 r2
  refine Nat.le_of_mul_le_mul_right ?_ (Nat.two_pow_pos (r - b64.qmin).toNat)
  rw [e1, e2]
  have h' : zmag b64 V * inUnits d r b64.qmin ≤ inUnits c q b64.qmin * 2 ^ 1074 := h
  have h'' := Nat.mul_le_mul_right (2 ^ 1126) h'
  rw [Nat.mul_assoc (inUnits c q b64.qmin), ← Nat.pow_add] at h''
  exact h''
theorem own_div_mono {a b : UInt64} (ha : DFin a) (hb : DFin b) (hp : 0 < own_z b) : own_Mono (val64 (Core.ddiv a b)) (own_z a * own_u) (own_z b) := by
  intro V hV nV
  rw [val64_ddiv]
  have fa := val64_fits a
  have fb := val64_fits b
  unfold own_z at hp ⊢
  obtain ⟨s, c, q, ea⟩ := ha
  obtain ⟨t, d, r, eb⟩ := hb
  rw [ea] at fa ⊢
  rw [eb] at fb hp ⊢
  have ht : t = false := by
    cases t with
    | false => rfl
    | true => exfalso; unfold zval at hp; simp [sgn, signed] at hp; omega
  subst ht
  have hd : 0 < d := by
    rcases Nat.eq_zero_or_pos d with h | h
    · subst h; exfalso; unfold zval zmag at hp; simp [inUnits, signed, sgn] at hp
    · exact h
  have eq : quotient b64 (.fin s c q) (.fin false d r) = roundRatio b64 (s != false) c d (q - r) := by
    show (if d = 0 then _ else _) = _
    rw [if_neg (by omega)]
  rw [eq]
  have hs : (s != false) = s := by cases s <;> rfl
  rw [hs]
  have le := own_div_mag_le (σ := s) (u := s) (c' := c) (q' := q) fa fb hd hV nV
  have ge := own_div_mag_ge (σ := s) (u := s) (c' := c) (q' := q) fa fb hd hV
  have zb : zval b64 (.fin false d r) = ((zmag b64 (.fin false d r) : Nat) : Int) := rfl
  have zb0 : 0 < zmag b64 (.fin false d r) := by rw [zb] at hp; omega
  have zr : zval b64 (roundRatio b64 s c d (q - r)) = signed s (zmag b64 (roundRatio b64 s c d (q - r))) := by unfold zval; rw [sgn_roundRatio]
  have za : zval b64 (.fin s c q) = signed s (zmag b64 (.fin s c q)) := rfl
  have zv : zval b64 V = signed (sgn V) (zmag b64 V) := rfl
  rw [zr, za, zv, zb]
  unfold own_u
  rw [← signed_mul, ← signed_mul]
  have hz1 : zmag b64 V * zmag b64 (.fin false d r) = 0 → zmag b64 V = 0 := fun h => by rcases Nat.mul_eq_zero.mp h with h | h <;> omega
  have hz2 : zmag b64 (.fin s c q) * 2 ^ 1074 = 0 → zmag b64 (roundRatio b64 s c d (q - r)) = 0 := fun h => by
    have := own_div_mag_le (σ := s) (u := s) (c' := c) (q' := q) (V := .fin false 0 b64.qmin) fa fb hd (zero_fits good_b64 false) Datum.noConfusion (by rw [h]; exact Nat.zero_le _)
    have e0 : zmag b64 (.fin false 0 b64.qmin) = 0 := by unfold zmag inUnits; simp
    omega
  generalize zmag b64 V * zmag b64 (.fin false d r) = vP at *
  generalize zmag b64 (.fin s c q) * 2 ^ 1074 = xP at *
  generalize zmag b64 (roundRatio b64 s c d (q - r)) = R at *
  generalize zmag b64 V = v at *
  generalize sgn V = g at *
  constructor
  · intro h
    cases s <;> cases g <;> simp only [signed, if_true, Bool.false_eq_true, if_false] at h ⊢
    · have := le (by omega); omega
    · have := hz1 (by omega); have := hz2 (by omega); omega
    · omega
    · have := ge (by omega); omega
  · intro h
    cases s <;> cases g <;> simp only [signed, if_true, Bool.false_eq_true, if_false] at h ⊢
    · have := ge (by omega); omega
    · omega
    · have := hz1 (by omega); have := hz2 (by omega); omega
    · have := le (by omega); omega
theorem own_In.fin {k : Nat} {lo hi : Int} {a : UInt64} (h : own_In k lo hi a) : DFin a := h.1
theorem own_In.nn {k : Nat} {lo hi : Int} {a : UInt64} (h : own_In k lo hi a) : Jvm.Free.Fl.NoNaN64 a := Jvm.Free.Fl.val64_no.mpr h.1.ne_nan
theorem own_In.z0 {lo hi : Int} {a : UInt64} (h : own_In 0 lo hi a) : lo * own_u ≤ own_z a ∧ own_z a ≤ hi * own_u := by
  obtain ⟨-, h1, h2⟩ := h
  rw [Int.pow_zero, Int.mul_one] at h1 h2
  exact ⟨h1, h2⟩
theorem own_In.zz {i : Int} {a : UInt64} (h : own_In 0 i i a) : own_z a = i * own_u := by
  have := h.z0; omega
theorem own_In.of_int {i : Int} {a : UInt64} (h : DInt i a) : own_In 0 i i a := by
  unfold DInt at h
  have fa := val64_fits a
  cases e : val64 a with
  | nan => rw [e] at h; exact h.elim
  | inf s => rw [e] at h; exact h.elim
  | fin s c q =>
    rw [e] at h fa
    have q1 := fa.2.1
    rw [qmin_b64] at q1
    have hz : own_z a = i * own_u := by
      unfold own_z own_u
      rw [e]
      show signed s (inUnits c q b64.qmin) = _
      have h' : signed s (c * 2 ^ q.toNat) = i * ((2 ^ (-q).toNat : Nat) : Int) := h
      have e1 : inUnits c q b64.qmin * 2 ^ (-q).toNat = c * 2 ^ q.toNat * 2 ^ 1074 := by
        rw [qmin_b64]
        unfold inUnits
        rw [Nat.mul_assoc, ← Nat.pow_add, Nat.mul_assoc, ← Nat.pow_add]
        congr 2; omega
      have e2 : signed s (inUnits c q b64.qmin) * ((2 ^ (-q).toNat : Nat) : Int) = i * ((2 ^ 1074 : Nat) : Int) * ((2 ^ (-q).toNat : Nat) : Int) := by
        rw [← signed_mul, e1, signed_mul, h', Int.mul_right_comm]
      exact Int.eq_of_mul_eq_mul_right (by have := Nat.two_pow_pos (-q).toNat; omega) e2
    refine ⟨⟨s, c, q, e⟩, ?_, ?_⟩ <;> rw [hz, Int.pow_zero, Int.mul_one] <;> exact Int.le_refl _
theorem own_In.l2d {a : Int64} (h : a.toInt.natAbs ≤ 2 ^ 53) : own_In 0 a.toInt a.toInt (Jvm.FP.l2d a) := own_In.of_int (l2d_int h)
theorem own_In.i2d (a : Int32) : own_In 0 a.toInt a.toInt (Jvm.FP.i2d a) := own_In.of_int (i2d_int a)
theorem own_In.scale {k : Nat} {lo hi : Int} {a : UInt64} (j : Nat) (h : own_In k lo hi a) : own_In (k + j) (lo * 2 ^ j) (hi * 2 ^ j) a := by
  obtain ⟨f, h1, h2⟩ := h
  have p := Int.le_of_lt (own_p_pos j)
  refine ⟨f, ?_, ?_⟩
  · rw [Int.pow_add, ← Int.mul_assoc, Int.mul_right_comm lo]; exact Int.mul_le_mul_of_nonneg_right h1 p
  · rw [Int.pow_add, ← Int.mul_assoc, Int.mul_right_comm hi]; exact Int.mul_le_mul_of_nonneg_right h2 p
theorem own_In.wide {k : Nat} {lo hi lo' hi' : Int} {a : UInt64} (h : own_In k lo hi a) (h1 : lo' ≤ lo) (h2 : hi ≤ hi') : own_In k lo' hi' a := by
  obtain ⟨f, a1, a2⟩ := h
  have p := Int.le_of_lt own_u_pos
  exact ⟨f, Int.le_trans (Int.mul_le_mul_of_nonneg_right h1 p) a1, Int.le_trans a2 (Int.mul_le_mul_of_nonneg_right h2 p)⟩
theorem own_ne_of_fin {a b : UInt64} (ha : DFin a) (hb : DFin b) : val64 (Core.dadd a b) ≠ .nan := (notNaN_iff _).mp (dadd_out ha.notNaN hb)
theorem own_In.add {k : Nat} {l1 h1 l2 h2 : Int} {a b : UInt64} (ha : own_In k l1 h1 a) (hb : own_In k l2 h2 b) (hk : k ≤ 1000) (bl : (l1 + l2).natAbs < 2 ^ 53) (bh : (h1 + h2).natAbs < 2 ^ 53) : own_In k (l1 + l2) (h1 + h2) (Jvm.FP.dadd a b) := by
  refine own_mk (own_ne_of_fin ha.1 hb.1) (own_add_mono ha.1 hb.1) (by decide) hk bl bh ?_ ?_
  · rw [Int.mul_one, Int.add_mul, Int.add_mul]; exact Int.add_le_add ha.2.1 hb.2.1
  · rw [Int.mul_one, Int.add_mul, Int.add_mul]; exact Int.add_le_add ha.2.2 hb.2.2
theorem own_In.mul {k : Nat} {s l h : Int} {a b : UInt64} (ha : own_In 0 s s a) (hs : 0 ≤ s) (hb : own_In k l h b) (hk : k ≤ 1000) (bl : (s * l).natAbs < 2 ^ 53) (bh : (s * h).natAbs < 2 ^ 53) : own_In k (s * l) (s * h) (Jvm.FP.dmul a b) := by
  have e : own_z a * own_z b * 2 ^ k = s * own_u * (own_z b * 2 ^ k) := by rw [ha.zz, Int.mul_assoc]
  have p : 0 ≤ s * own_u := Int.mul_nonneg hs (Int.le_of_lt own_u_pos)
  refine own_mk ((notNaN_iff _).mp (dmul_out ha.1 hb.1)) (own_mul_mono ha.1 hb.1) own_u_pos hk bl bh ?_ ?_
  · rw [e, own_ac1 s l]; exact Int.mul_le_mul_of_nonneg_left hb.2.1 p
  · rw [e, own_ac1 s h]; exact Int.mul_le_mul_of_nonneg_left hb.2.2 p
theorem own_z_nz {d : Int} {b : UInt64} (hb : own_In 0 d d b) (hd : 0 < d) : 0 < own_z b := by rw [hb.zz]; exact Int.mul_pos hd own_u_pos
theorem own_nz {b : UInt64} (h : 0 < own_z b) : ¬ DZero b := by
  rintro ⟨s, q, e⟩
  unfold own_z at h
  rw [e] at h
  unfold zval zmag at h
  simp [inUnits, sgn, signed_zero] at h
theorem own_In.div {k : Nat} {n d l h : Int} {a b : UInt64} (ha : own_In 0 n n a) (hb : own_In 0 d d b) (hd : 0 < d) (hk : k ≤ 1000) (bl : l.natAbs < 2 ^ 53) (bh : h.natAbs < 2 ^ 53) (h1 : l * d ≤ n * 2 ^ k) (h2 : n * 2 ^ k ≤ h * d) : own_In k l h (Jvm.FP.ddiv a b) := by
  have zb := own_z_nz hb hd
  have p : 0 ≤ own_u * own_u := Int.mul_nonneg (Int.le_of_lt own_u_pos) (Int.le_of_lt own_u_pos)
  refine own_mk ((notNaN_iff _).mp (ddiv_out ha.1.notNaN hb.1 (own_nz zb))) (own_div_mono ha.1 hb.1 zb) zb hk bl bh ?_ ?_
  · rw [ha.zz, hb.zz, own_ac2 l, own_ac3 n]
    exact Int.mul_le_mul_of_nonneg_right h1 p
  · rw [ha.zz, hb.zz, own_ac2 h, own_ac3 n]
    exact Int.mul_le_mul_of_nonneg_right h2 p
theorem own_cmpN {a b : UInt64} (ha : val64 a ≠ .nan) (hb : val64 b ≠ .nan) : Jvm.FP.dcmp a b = some (compare (own_z a) (own_z b)) := order_zval good_b64 (val64_fits a) (val64_fits b) ha hb
theorem own_cmp {a b : UInt64} (ha : DFin a) (hb : DFin b) : Jvm.FP.dcmp a b = some (compare (own_z a) (own_z b)) := own_cmpN ha.ne_nan hb.ne_nan
theorem own_ltZ {a b : UInt64} (ha : val64 a ≠ .nan) (hb : val64 b ≠ .nan) (q : own_z a < own_z b) (o : ClassFile.CmpOp) : Op.cmpValue (Jvm.FP.dcmp a b) o = -1 := by
  rw [own_cmpN ha hb, show compare (own_z a) (own_z b) = .lt from by simp [compare, compareOfLessAndEq, q]]; rfl
theorem own_gtZ {a b : UInt64} (ha : val64 a ≠ .nan) (hb : val64 b ≠ .nan) (q : own_z b < own_z a) (o : ClassFile.CmpOp) : Op.cmpValue (Jvm.FP.dcmp a b) o = 1 := by
  have q1 : ¬ own_z a < own_z b := by omega
  have q2 : ¬ own_z a = own_z b := by omega
  rw [own_cmpN ha hb, show compare (own_z a) (own_z b) = .gt from by simp [compare, compareOfLessAndEq, q1, q2]]; rfl
theorem own_eqZ {a b : UInt64} (ha : val64 a ≠ .nan) (hb : val64 b ≠ .nan) (q : own_z a = own_z b) (o : ClassFile.CmpOp) : Op.cmpValue (Jvm.FP.dcmp a b) o = 0 := by
  rw [own_cmpN ha hb, q, compare_self_int]; rfl
theorem own_geZ {a b : UInt64} (ha : val64 a ≠ .nan) (hb : val64 b ≠ .nan) (q : own_z b ≤ own_z a) (o : ClassFile.CmpOp) : ¬ Op.cmpValue (Jvm.FP.dcmp a b) o < 0 := by
  by_cases h : own_z a = own_z b
  · rw [own_eqZ ha hb h]; decide
  · rw [own_gtZ ha hb (by omega)]; decide
theorem own_leZ {a b : UInt64} (ha : val64 a ≠ .nan) (hb : val64 b ≠ .nan) (q : own_z a ≤ own_z b) (o : ClassFile.CmpOp) : ¬ (0 : Int32) < Op.cmpValue (Jvm.FP.dcmp a b) o := by
  by_cases h : own_z a = own_z b
  · rw [own_eqZ ha hb h]; decide
  · rw [own_ltZ ha hb (by omega)]; decide
theorem own_neg_z (a : UInt64) : own_z (Jvm.FP.dneg a) = -own_z a := by
  unfold own_z
  rw [Jvm.FP.val64_dneg, zval_negate]
theorem own_neg_ne {a : UInt64} (h : val64 a ≠ .nan) : val64 (Jvm.FP.dneg a) ≠ .nan := by
  rw [Jvm.FP.val64_dneg]; exact negate_ne_nan h
theorem own_lit {a : UInt64} {i : Int} {c : Nat} {q : Int} (h : val64 a = .fin false c q) (h2 : ((c * 2 ^ q.toNat : Nat) : Int) = i * ((2 ^ (-q).toNat : Nat) : Int)) : own_In 0 i i a := own_In.of_int (show Whole i (val64 a) from by rw [h]; exact h2)
theorem own_In0 : own_In 0 0 0 (0 : UInt64) := own_lit (c := 0) (q := -1074) (by decide +kernel) (by simp)
theorem own_In1 : own_In 0 1 1 (4607182418800017408 : UInt64) := own_lit (c := 4503599627370496) (q := -52) (by decide +kernel) (by decide)
/-- |y| ≤ Double.MAX_VALUE for a finite y -/
theorem own_absle {y : UInt64} (h : Jvm.Free.Fl.Fin64 y) (o : ClassFile.CmpOp) : ¬ (0 : Int32) < Op.cmpValue (Jvm.FP.dcmp (y &&& 0x7fffffffffffffff) 9218868437227405311) o := by
  have hn := Jvm.Free.Fl.abs_toNat y
  have hf := (Jvm.Free.Fl.fin64_iff y).mp h
  have h1 : val64 (y &&& 0x7fffffffffffffff) ≠ .nan := (ne_nan _).mpr (by omega)
  have h2 : val64 (9218868437227405311 : UInt64) ≠ .nan := by decide +kernel
  have k : Jvm.FP.dcmp (y &&& 0x7fffffffffffffff) 9218868437227405311 = some (compare (key b64 (y &&& 0x7fffffffffffffff).toNat) (key b64 (9218868437227405311 : UInt64).toNat)) := cmp_key good_b64 (lt_full64 _) (lt_full64 _) h1 h2
  have e2 : key b64 (9218868437227405311 : UInt64).toNat = 9218868437227405311 := by decide +kernel
  have e1 : key b64 (y &&& 0x7fffffffffffffff).toNat = ((y.toNat % 9223372036854775808 : Nat) : Int) := by
    unfold key mag
    rw [half_b64, hn]
    have : ¬ 2 ^ 63 ≤ y.toNat % 9223372036854775808 := by omega
    rw [show y.toNat % 9223372036854775808 % 2 ^ 63 = y.toNat % 9223372036854775808 from Nat.mod_eq_of_lt (by omega)]
    simp [this, signed]
  rw [k, e1, e2]
  by_cases q1 : ((y.toNat % 9223372036854775808 : Nat) : Int) < 9218868437227405311
  · rw [show compare ((y.toNat % 9223372036854775808 : Nat) : Int) 9218868437227405311 = .lt from by simp only [compare, compareOfLessAndEq, q1, if_true]]; cases o <;> decide
  · have q2 : ((y.toNat % 9223372036854775808 : Nat) : Int) = 9218868437227405311 := by omega
    rw [q2, compare_self_int]; cases o <;> decide
theorem own_In.lt {k : Nat} {l1 h1 l2 h2 : Int} {a b : UInt64} (ha : own_In k l1 h1 a) (hb : own_In k l2 h2 b) (h : h1 < l2) (o : ClassFile.CmpOp) : Op.cmpValue (Jvm.FP.dcmp a b) o = -1 := by
  have q : own_z a < own_z b := by
    refine Int.lt_of_mul_lt_mul_right ?_ (Int.le_of_lt (own_p_pos k))
    exact Int.lt_of_le_of_lt ha.2.2 (Int.lt_of_lt_of_le (Int.mul_lt_mul_of_pos_right h own_u_pos) hb.2.1)
  rw [own_cmp ha.1 hb.1, show compare (own_z a) (own_z b) = .lt from by simp [compare, compareOfLessAndEq, q]]; rfl
theorem own_In.gt {k : Nat} {l1 h1 l2 h2 : Int} {a b : UInt64} (ha : own_In k l1 h1 a) (hb : own_In k l2 h2 b) (h : h2 < l1) (o : ClassFile.CmpOp) : Op.cmpValue (Jvm.FP.dcmp a b) o = 1 := by
  have q : own_z b < own_z a := by
    refine Int.lt_of_mul_lt_mul_right ?_ (Int.le_of_lt (own_p_pos k))
    exact Int.lt_of_le_of_lt hb.2.2 (Int.lt_of_lt_of_le (Int.mul_lt_mul_of_pos_right h own_u_pos) ha.2.1)
  rw [own_cmp ha.1 hb.1, show compare (own_z a) (own_z b) = .gt from by simp [compare, compareOfLessAndEq, (show ¬ own_z a < own_z b by omega), (show ¬ own_z a = own_z b by omega)]]; rfl
theorem own_In.eq {k : Nat} {i : Int} {a b : UInt64} (ha : own_In k i i a) (hb : own_In k i i b) (o : ClassFile.CmpOp) : Op.cmpValue (Jvm.FP.dcmp a b) o = 0 := by
  have q : own_z a = own_z b := by
    refine Int.eq_of_mul_eq_mul_right (Int.ne_of_gt (own_p_pos k)) ?_
    have := ha.2.1; have := ha.2.2; have := hb.2.1; have := hb.2.2
    omega
  rw [own_cmp ha.1 hb.1, q, compare_self_int]; rfl
theorem own_In.le {k : Nat} {l1 h1 l2 h2 : Int} {a b : UInt64} (ha : own_In k l1 h1 a) (hb : own_In k l2 h2 b) (h : h1 ≤ l2) (o : ClassFile.CmpOp) : ¬ (0 : Int32) < Op.cmpValue (Jvm.FP.dcmp a b) o := by
  have q : own_z a ≤ own_z b := by
    refine Int.le_of_mul_le_mul_right ?_ (own_p_pos k)
    exact Int.le_trans ha.2.2 (Int.le_trans (Int.mul_le_mul_of_nonneg_right h (Int.le_of_lt own_u_pos)) hb.2.1)
  rw [own_cmp ha.1 hb.1]
  by_cases q1 : own_z a < own_z b
  · rw [show compare (own_z a) (own_z b) = .lt from by simp [compare, compareOfLessAndEq, q1]]; cases o <;> decide
  · have q2 : own_z a = own_z b := by omega
    rw [q2, compare_self_int]; cases o <;> decide
end OwnFloat
end Jvm.Pilot.@@N@@
/- laws to paste: Road.backV (cut by pick.py; bodies as the Statement names them) -/
namespace Jvm.Pilot.@@N@@
namespace StrChars
open Jvm Sem ClassFile Op Lib Jvm.Stand Jvm.Free.XT Jvm.Free.ALB Jvm.Free.JM Jvm.Free
open Jvm.Lib.Cold (StaticIs)
/-- a char array whose places are chars -/
def Ch (a : Addr) (A : Cell) (U : State) : Prop := Arr .char a A U ∧ Typed .char A
theorem Ch.mv {a : Addr} {A : Cell} {U U' : State} (h : Ch a A U) (hal : U.vm.Alike U'.vm) (hh : U'.heap = U.heap) : Ch a A U' := ⟨h.1.mv hal hh, h.2⟩
theorem Ch.keep {a : Addr} {A : Cell} {U U' : State} (h : Ch a A U) (hal : U.vm.Alike U'.vm) (hk : U'.heap[a]? = some A) : Ch a A U' := ⟨h.1.keep hal hk, h.2⟩
/-- what place i of a char[]'s cell holds -/
def cv (A : Cell) (i : Nat) : Int32 := match A.slots[i]? with | some (.int x) => x | _ => 0
theorem Ch.get {a : Addr} {A : Cell} {U : State} (h : Ch a A U) {i : Nat} (hi : i < A.slots.size) : A.slots[i]? = some (.int (cv A i)) := by
  have e := Array.getElem?_eq_getElem hi
  have f := h.2 i _ e
  unfold cv; rw [e]
  generalize A.slots[i] = v at f
  cases v <;> simp [fits] at f ⊢
/-- the byte that i2b leaves of a char -/
def lo8 (x : Int32) : Int32 := x.toInt8.toInt32
theorem fits_lo8 (y : Int32) : fits .byte (.int (lo8 y)) = true := by
  have h1 := y.toInt8.le_toInt
  have h2 := y.toInt8.toInt_lt
  simp only [lo8, fits, Bool.and_eq_true, decide_eq_true_eq, Int32.le_iff_toInt_le, Int8.toInt_toInt32, show (-128 : Int32).toInt = -128 from by decide, show (127 : Int32).toInt = 127 from by decide]
  omega
/-- A' is A but that each place j of lo .. hi - 1 holds f j -/
def Laid (A A' : Cell) (lo hi : Nat) (f : Nat → Value) : Prop := A'.cls = A.cls ∧ A'.vm = A.vm ∧ A'.slots.size = A.slots.size ∧ ∀ i, A'.slots[i]? = if lo ≤ i ∧ i < hi then some (f i) else A.slots[i]?
theorem Laid.zero (A : Cell) (lo : Nat) (f : Nat → Value) : Laid A A lo (lo + 0) f := ⟨rfl, rfl, rfl, fun i => by rw [if_neg (by omega)]⟩
theorem Laid.step {A Ak : Cell} {lo k : Nat} {f : Nat → Value} {v : Value} (h : Laid A Ak lo k f) (hlo : lo ≤ k) (hk : k < Ak.slots.size) (hv : v = f k) : Laid A (Ak.setSlot k v) lo (k + 1) f := by
  refine ⟨h.1, h.2.1, by simpa [Cell.setSlot] using h.2.2.1, fun i => ?_⟩
  by_cases e : k = i
  · subst e; rw [Cell.slots_setSlot_self v hk, if_pos (by omega), hv]
  · rw [Cell.slots_setSlot_ne v e, h.2.2.2 i]
    by_cases q : lo ≤ i ∧ i < k
    · rw [if_pos q, if_pos (by omega)]
    · rw [if_neg q, if_neg (by omega)]
def U16 : String := "java/lang/StringUTF16"
namespace Cmp5
def yN : MethodName := ⟨"java/lang/StringUTF16", "compress", "([CI[BII)I"⟩
abbrev yB : ByteArray := jdk_52_method_21_code
theorem d0 : decode yB 0 = .ok (.iconst 0, 1) := by decide +kernel
theorem d1 : decode yB 1 = .ok (.istore 5, 2) := by decide +kernel
theorem d3 : decode yB 3 = .ok (.iload 5, 2) := by decide +kernel
theorem d5 : decode yB 5 = .ok (.iload 4, 2) := by decide +kernel
theorem d7 : decode yB 7 = .ok (.if_icmp (.ge) 37, 3) := by decide +kernel
theorem d10 : decode yB 10 = .ok (.aload_n 0, 1) := by decide +kernel
theorem d11 : decode yB 11 = .ok (.iload_n 1, 1) := by decide +kernel
theorem d12 : decode yB 12 = .ok (.caload, 1) := by decide +kernel
theorem d13 : decode yB 13 = .ok (.istore 6, 2) := by decide +kernel
theorem d15 : decode yB 15 = .ok (.iload 6, 2) := by decide +kernel
theorem d17 : decode yB 17 = .ok (.sipush 255, 3) := by decide +kernel
theorem d20 : decode yB 20 = .ok (.if_icmp (.le) 6, 3) := by decide +kernel
theorem d26 : decode yB 26 = .ok (.aload_n 2, 1) := by decide +kernel
theorem d27 : decode yB 27 = .ok (.iload_n 3, 1) := by decide +kernel
theorem d28 : decode yB 28 = .ok (.iload 6, 2) := by decide +kernel
theorem d30 : decode yB 30 = .ok (.i2b, 1) := by decide +kernel
theorem d31 : decode yB 31 = .ok (.bastore, 1) := by decide +kernel
theorem d32 : decode yB 32 = .ok (.iinc 1 1, 3) := by decide +kernel
theorem d35 : decode yB 35 = .ok (.iinc 3 1, 3) := by decide +kernel
theorem d38 : decode yB 38 = .ok (.iinc 5 1, 3) := by decide +kernel
theorem d41 : decode yB 41 = .ok (.goto (-38), 3) := by decide +kernel
theorem d44 : decode yB 44 = .ok (.iload 4, 2) := by decide +kernel
theorem d46 : decode yB 46 = .ok (.ireturn, 1) := by decide +kernel
def site : List Cond := []
def tab : Cond := tabOf yN yB 7 (some .int) site
def P (b : Addr) (A : Cell) (d : Addr) (B : Cell) (o q len : Nat) (args : Array Value) (s : State) : Prop := args = #[.ref b, .int (Int32.ofNat o), .ref d, .int (Int32.ofNat q), .int (Int32.ofNat len)] ∧ Ch b A s ∧ Arr .byte d B s ∧ b ≠ d ∧ o + len ≤ A.slots.size ∧ q + len ≤ B.slots.size ∧ ∀ i, i < len → ¬ 255 < cv A (o + i)
def E (b : Addr) (A : Cell) (d : Addr) (B : Cell) (o q len : Nat) (r : Option Value) (s u : State) : Prop := r = some (.int (Int32.ofNat len)) ∧ ∃ B', Put d B' s u ∧ Laid B B' q (q + len) (fun j => Value.int (lo8 (cv A (o + (j - q)))))
/-- no char of the range above 255: len; the places written hold each char's low byte -/
theorem law (l : Launch) (b : Addr) (A : Cell) (d : Addr) (B : Cell) (o q len : Nat) : Law l yN 5 5 0 0 yB 7 (some .int) site (P b A d B o q len) (E b A d B o q len) (copyLocs d q len) 0 0 := by
  refine Law.of_walk (plainFor_of_name (by decide +kernel)) (by decide +kernel) (by decide +kernel) (by decide) (fun _ _ h => by rw [h.1]; rfl) (fun _ U U' hal hh h => ⟨h.1, h.2.1.mv hal hh, h.2.2.1.mv hal hh, h.2.2.2⟩) (fun r U U' V V' h1 hal h2 h => ⟨h.1, h.2.elim fun B' q => ⟨B', q.1.mv h1 h2, q.2⟩⟩) ?_
  intro p e s m args below meth c s₁ X0 hexec hbytes hml hret hlk hnm hown hh0 W hP
  obtain ⟨rfl, hA, hB, hne, l1, l2, hp⟩ := hP
  have c1 : Steps p.tables e below (s₁.setTop (entryFrame m #[.ref b, .int (Int32.ofNat o), .ref d, .int (Int32.ofNat q), .int (Int32.ofNat len)] 7)) (s₁.setTop (mkF m 0 #[.val (.ref b), .val (.int (Int32.ofNat o)), .val (.ref d), .val (.int (Int32.ofNat q)), .val (.int (Int32.ofNat len)), .unset, .unset] [])) := entry rfl
  have hA0 := hA.1.mv X0.warmed.alike hh0
  have hB0 := hB.mv X0.warmed.alike hh0
  have a31 := hA.1.2.2.2
  have c2 : Steps p.tables e below (s₁.setTop (entryFrame m #[.ref b, .int (Int32.ofNat o), .ref d, .int (Int32.ofNat q), .int (Int32.ofNat len)] 7)) (s₁.setTop (mkF m 3 #[.val (.ref b), .val (.int (Int32.ofNat o)), .val (.ref d), .val (.int (Int32.ofNat q)), .val (.int (Int32.ofNat len)), .val (.int 0), .unset] [])) := c1.trans (by
    refine iconstV X0.here hexec rfl 0 (hb hbytes d0) (by decide) ?_
    refine XS.istore X0.here hexec rfl (hb hbytes d1) rfl rfl ?_
    exact Steps.refl _)
  have loop : ∀ (r i : Nat), i + r = len → ∀ (z : Slot), (z = .unset ∨ ∃ w, z = .val w ∧ w.category = 1) → ∀ (Tl : State) (Bk : Cell), Stand p l e { frames := 0, locals := 0, cells := 0, slots := 0 } s m #[.ref b, .int (Int32.ofNat o), .ref d, .int (Int32.ofNat q), .int (Int32.ofNat len)] below meth c Tl ([] ++ copyLocs d q i) 0 0 → Put d Bk s₁ Tl → Laid B Bk q (q + i) (fun j => Value.int (lo8 (cv A (o + (j - q))))) →
      Steps p.tables e below (s₁.setTop (entryFrame m #[.ref b, .int (Int32.ofNat o), .ref d, .int (Int32.ofNat q), .int (Int32.ofNat len)] 7)) (Tl.setTop (mkF m 3 #[.val (.ref b), .val (.int (Int32.ofNat (o + i))), .val (.ref d), .val (.int (Int32.ofNat (q + i))), .val (.int (Int32.ofNat len)), .val (.int (Int32.ofNat i)), z] [])) → ∃ (T' : State) (B' : Cell) (z' : Slot), Stand p l e { frames := 0, locals := 0, cells := 0, slots := 0 } s m #[.ref b, .int (Int32.ofNat o), .ref d, .int (Int32.ofNat q), .int (Int32.ofNat len)] below meth c T' ([] ++ copyLocs d q len) 0 0 ∧ Put d B' s₁ T' ∧ Laid B B' q (q + len) (fun j => Value.int (lo8 (cv A (o + (j - q))))) ∧
      Steps p.tables e below (s₁.setTop (entryFrame m #[.ref b, .int (Int32.ofNat o), .ref d, .int (Int32.ofNat q), .int (Int32.ofNat len)] 7)) (T'.setTop (mkF m 3 #[.val (.ref b), .val (.int (Int32.ofNat (o + len))), .val (.ref d), .val (.int (Int32.ofNat (q + len))), .val (.int (Int32.ofNat len)), .val (.int (Int32.ofNat len)), z'] [])) := by
    intro r
    induction r with
    | zero =>
      intro i hi z hz Tl Bk Xl pl fl cl
      have hil : i = len := by omega
      rw [hil] at Xl fl cl
      exact ⟨Tl, Bk, z, Xl, pl, fl, cl⟩
    | succ r ih =>
      intro i hi z hz Tl Bk Xl pl fl cl
      have all := X0.warmed.alike.symm.trans Xl.warmed.alike
      have hAl := hA0.keep all (pl.other hne hA0.1)
      have hBk := hB0.like all pl.1 fl.1 fl.2.1 fl.2.2.1
      have hlt : q + i < Bk.slots.size := by rw [fl.2.2.1]; omega
      have c3 : Steps p.tables e below (s₁.setTop (entryFrame m #[.ref b, .int (Int32.ofNat o), .ref d, .int (Int32.ofNat q), .int (Int32.ofNat len)] 7)) (Tl.setTop (mkF m 12 #[.val (.ref b), .val (.int (Int32.ofNat (o + i))), .val (.ref d), .val (.int (Int32.ofNat (q + i))), .val (.int (Int32.ofNat len)), .val (.int (Int32.ofNat i)), z] [.int (Int32.ofNat (o + i)), .ref b])) := cl.trans (by
        refine XS.iload Xl.here hexec rfl (hb hbytes d3) rfl ?_
        refine XS.iload Xl.here hexec rfl (hb hbytes d5) rfl ?_
        refine XS.icmpNo Xl.here hexec rfl (hb hbytes d7) rfl (ii_ge_f (lt32 (by omega) (by omega))) ?_
        refine XS.aloadN Xl.here hexec rfl (hb hbytes d10) rfl rfl ?_
        refine XS.iloadN Xl.here hexec rfl (hb hbytes d11) rfl ?_
        exact Steps.refl _)
      have c4 : Steps p.tables e below (s₁.setTop (entryFrame m #[.ref b, .int (Int32.ofNat o), .ref d, .int (Int32.ofNat q), .int (Int32.ofNat len)] 7)) (Tl.setTop (mkF m 13 #[.val (.ref b), .val (.int (Int32.ofNat (o + i))), .val (.ref d), .val (.int (Int32.ofNat (q + i))), .val (.int (Int32.ofNat len)), .val (.int (Int32.ofNat i)), z] [.int (cv A (o + i))])) := c3.trans (by
        refine Xl.aget hexec hAl rfl (hA.get (i := o + i) (by omega)) rfl rfl (hb hbytes d12) ?_
        exact Steps.refl _)
      have c5 : Steps p.tables e below (s₁.setTop (entryFrame m #[.ref b, .int (Int32.ofNat o), .ref d, .int (Int32.ofNat q), .int (Int32.ofNat len)] 7)) (Tl.setTop (mkF m 15 #[.val (.ref b), .val (.int (Int32.ofNat (o + i))), .val (.ref d), .val (.int (Int32.ofNat (q + i))), .val (.int (Int32.ofNat len)), .val (.int (Int32.ofNat i)), .val (.int (cv A (o + i)))] [])) := c4.trans (by
        refine XS.istoreS Xl.here hexec rfl (hb hbytes d13) rfl rfl hz ?_
        exact Steps.refl _)
      have c6 : Steps p.tables e below (s₁.setTop (entryFrame m #[.ref b, .int (Int32.ofNat o), .ref d, .int (Int32.ofNat q), .int (Int32.ofNat len)] 7)) (Tl.setTop (mkF m 31 #[.val (.ref b), .val (.int (Int32.ofNat (o + i))), .val (.ref d), .val (.int (Int32.ofNat (q + i))), .val (.int (Int32.ofNat len)), .val (.int (Int32.ofNat i)), .val (.int (cv A (o + i)))] [.int (lo8 (cv A (o + i))), .int (Int32.ofNat (q + i)), .ref d])) := c5.trans (by
        refine XS.iload Xl.here hexec rfl (hb hbytes d15) rfl ?_
        refine sipushV Xl.here hexec rfl 255 (hb hbytes d17) (by decide) ?_
        refine XS.icmpYes Xl.here hexec rfl (pc0 := 20) rfl (hb hbytes d20) rfl (ii_le_t (hp i (by omega))) (by decide) rfl ?_
        refine XS.aloadN Xl.here hexec rfl (hb hbytes d26) rfl rfl ?_
        refine XS.iloadN Xl.here hexec rfl (hb hbytes d27) rfl ?_
        refine XS.iload Xl.here hexec rfl (hb hbytes d28) rfl ?_
        refine i2b Xl.here hexec rfl (hb hbytes d30) rfl ?_
        exact Steps.refl _)
      obtain ⟨T7, X7, p7, st7⟩ := Xl.aput hexec hBk rfl hlt rfl (fits_lo8 (cv A (o + i))) (g := (mkF m 31 #[.val (.ref b), .val (.int (Int32.ofNat (o + i))), .val (.ref d), .val (.int (Int32.ofNat (q + i))), .val (.int (Int32.ofNat len)), .val (.int (Int32.ofNat i)), .val (.int (cv A (o + i)))] [.int (lo8 (cv A (o + i))), .int (Int32.ofNat (q + i)), .ref d])) rfl (rest := []) rfl (hb hbytes d31)
      have c8 : Steps p.tables e below (s₁.setTop (entryFrame m #[.ref b, .int (Int32.ofNat o), .ref d, .int (Int32.ofNat q), .int (Int32.ofNat len)] 7)) (T7.setTop (mkF m 32 #[.val (.ref b), .val (.int (Int32.ofNat (o + i))), .val (.ref d), .val (.int (Int32.ofNat (q + i))), .val (.int (Int32.ofNat len)), .val (.int (Int32.ofNat i)), .val (.int (cv A (o + i)))] [])) := c6.trans (st7 _ (Steps.refl _))
      have c9 : Steps p.tables e below (s₁.setTop (entryFrame m #[.ref b, .int (Int32.ofNat o), .ref d, .int (Int32.ofNat q), .int (Int32.ofNat len)] 7)) (T7.setTop (mkF m 3 #[.val (.ref b), .val (.int (Int32.ofNat (o + i) + 1)), .val (.ref d), .val (.int (Int32.ofNat (q + i) + 1)), .val (.int (Int32.ofNat len)), .val (.int (Int32.ofNat i + 1)), .val (.int (cv A (o + i)))] [])) := c8.trans (by
        refine iincV X7.here hexec rfl 1 (hb hbytes d32) (by decide) rfl rfl ?_
        refine iincV X7.here hexec rfl 1 (hb hbytes d35) (by decide) rfl rfl ?_
        refine iincV X7.here hexec rfl 1 (hb hbytes d38) (by decide) rfl rfl ?_
        refine XS.goto X7.here hexec rfl (pc0 := 41) rfl (hb hbytes d41) (by decide) rfl ?_
        exact Steps.refl _)
      have c10 : Steps p.tables e below (s₁.setTop (entryFrame m #[.ref b, .int (Int32.ofNat o), .ref d, .int (Int32.ofNat q), .int (Int32.ofNat len)] 7)) (T7.setTop (mkF m 3 #[.val (.ref b), .val (.int (Int32.ofNat (o + (i + 1)))), .val (.ref d), .val (.int (Int32.ofNat (q + (i + 1)))), .val (.int (Int32.ofNat len)), .val (.int (Int32.ofNat (i + 1))), .val (.int (cv A (o + i)))] [])) := by
        have := c9
        rw [succ32, succ32, succ32] at this
        exact this
      exact ih (i + 1) (by omega) _ (Or.inr ⟨_, rfl, rfl⟩) T7 _ (by rw [copyLocs_step, ← List.append_assoc]; exact X7) (pl.trans p7) (fl.step (by omega) hlt (by simp)) c10
  obtain ⟨T9, B9, z9, X9, p9, f9, g9⟩ := loop len 0 (by omega) .unset (Or.inl rfl) s₁ B (by simpa [copyLocs] using X0) ⟨hB0.1, fun _ _ => rfl, rfl⟩ (Laid.zero _ _ _) c2
  have c11 : Steps p.tables e below (s₁.setTop (entryFrame m #[.ref b, .int (Int32.ofNat o), .ref d, .int (Int32.ofNat q), .int (Int32.ofNat len)] 7)) (T9.setTop (mkF m 46 #[.val (.ref b), .val (.int (Int32.ofNat (o + len))), .val (.ref d), .val (.int (Int32.ofNat (q + len))), .val (.int (Int32.ofNat len)), .val (.int (Int32.ofNat len)), z9] [.int (Int32.ofNat len)])) := g9.trans (by
    refine XS.iload X9.here hexec rfl (hb hbytes d3) rfl ?_
    refine XS.iload X9.here hexec rfl (hb hbytes d5) rfl ?_
    refine XS.icmpYes X9.here hexec rfl (pc0 := 7) rfl (hb hbytes d7) rfl (ii_ge_t (nlt32 (by omega) (Nat.le_refl _))) (by decide) rfl ?_
    refine XS.iload X9.here hexec rfl (hb hbytes d44) rfl ?_
    exact Steps.refl _)
  exact ⟨T9, some (.int (Int32.ofNat len)), _, _, _, X9, by simp, rfl, rfl, (fun h => by cases h), ⟨rfl, B9, p9.from hh0, f9⟩, fun fs hl => c11.trans (X9.ireturnOut hexec hret rfl (Or.inl rfl) (hb hbytes d46) hl)⟩
end Cmp5
namespace Cmp3
def yN : MethodName := ⟨"java/lang/StringUTF16", "compress", "([CII)[B"⟩
abbrev yB : ByteArray := jdk_52_method_16_code
theorem d0 : decode yB 0 = .ok (.iload_n 2, 1) := by decide +kernel
theorem d1 : decode yB 1 = .ok (.newarray .byte, 2) := by decide +kernel
theorem d3 : decode yB 3 = .ok (.astore_n 3, 1) := by decide +kernel
theorem d4 : decode yB 4 = .ok (.aload_n 0, 1) := by decide +kernel
theorem d5 : decode yB 5 = .ok (.iload_n 1, 1) := by decide +kernel
theorem d6 : decode yB 6 = .ok (.aload_n 3, 1) := by decide +kernel
theorem d7 : decode yB 7 = .ok (.iconst 0, 1) := by decide +kernel
theorem d8 : decode yB 8 = .ok (.iload_n 2, 1) := by decide +kernel
theorem d9 : decode yB 9 = .ok (.invokestatic 115, 3) := by decide +kernel
theorem d12 : decode yB 12 = .ok (.istore 4, 2) := by decide +kernel
theorem d14 : decode yB 14 = .ok (.iload 4, 2) := by decide +kernel
theorem d16 : decode yB 16 = .ok (.iload_n 2, 1) := by decide +kernel
theorem d17 : decode yB 17 = .ok (.if_icmp (.eq) 40, 3) := by decide +kernel
theorem d57 : decode yB 57 = .ok (.aload_n 3, 1) := by decide +kernel
theorem d58 : decode yB 58 = .ok (.areturn, 1) := by decide +kernel
def site : List Cond := [.arrayClass .byte, Cmp5.tab] ++ staticW U16 115 Cmp5.yN
def tab : Cond := tabOf yN yB 6 (some (.array .byte)) site
def P (b : Addr) (A : Cell) (o len : Nat) (args : Array Value) (s : State) : Prop := args = #[.ref b, .int (Int32.ofNat o), .int (Int32.ofNat len)] ∧ Ch b A s ∧ o + len ≤ A.slots.size ∧ len ≤ 536870912 ∧ ∀ i, i < len → ¬ 255 < cv A (o + i)
def E (b : Addr) (A : Cell) (o len : Nat) (r : Option Value) (s u : State) : Prop := NewArr .byte "[B" len (fun j => .int (lo8 (cv A (o + j)))) r s u ∧ u.heap.size = s.heap.size + 1
/-- no char of the range above 255: a new byte[] of their low bytes -/
theorem law (l : Launch) (b : Addr) (A : Cell) (o len : Nat) : Law l yN 3 3 1 18 yB 6 (some (.array .byte)) site (P b A o len) (E b A o len) [] 1 len := by
  refine Law.of_walk (plainFor_of_name (by decide +kernel)) (by decide +kernel) (by decide +kernel) (by decide) (fun _ _ h => by rw [h.1]; rfl) (fun _ U U' hal hh h => ⟨h.1, h.2.1.mv hal hh, h.2.2⟩) (fun r U U' V V' h1 hal h2 h => ⟨NewArr.mv r U U' V V' h1 hal h2 h.1, by rw [h1, h2]; exact h.2⟩) ?_
  intro p e s m args below meth c s₁ X0 hexec hbytes hml hret hlk hnm hown hh0 W hP
  obtain ⟨rfl, hA, l1, l2, hp⟩ := hP
  have a31 := hA.1.2.2.2
  have c1 : Steps p.tables e below (s₁.setTop (entryFrame m #[.ref b, .int (Int32.ofNat o), .int (Int32.ofNat len)] 6)) (s₁.setTop (mkF m 0 #[.val (.ref b), .val (.int (Int32.ofNat o)), .val (.int (Int32.ofNat len)), .unset, .unset, .unset] [])) := entry rfl
  have c2 : Steps p.tables e below (s₁.setTop (entryFrame m #[.ref b, .int (Int32.ofNat o), .int (Int32.ofNat len)] 6)) (s₁.setTop (mkF m 1 #[.val (.ref b), .val (.int (Int32.ofNat o)), .val (.int (Int32.ofNat len)), .unset, .unset, .unset] [.int (Int32.ofNat len)])) := c1.trans (by
    refine XS.iloadN X0.here hexec rfl (hb hbytes d0) rfl ?_
    exact Steps.refl _)
  obtain ⟨T3, B3, X3, ba3, bs3, bv3, bh3, bf3, st3⟩ := X0.anew hexec (atype := .byte) (wk W (.arrayClass .byte)) rfl (by show len * 1 ≤ _; omega) (by omega) (g := (mkF m 1 #[.val (.ref b), .val (.int (Int32.ofNat o)), .val (.int (Int32.ofNat len)), .unset, .unset, .unset] [.int (Int32.ofNat len)])) rfl (hb hbytes d1) (rest := []) rfl (Nat.le_refl _) (by show 0 + len ≤ len; omega)
  rw [hh0] at ba3 st3
  have kp3 : XT.Kept s T3 := (XT.Kept.of_eq hh0).push bh3
  have hA3 := hA.keep X3.warmed.alike (kp3 _ _ hA.1.1)
  have hne : b ≠ s.heap.size := hA.1.ne
  have c4 : Steps p.tables e below (s₁.setTop (entryFrame m #[.ref b, .int (Int32.ofNat o), .int (Int32.ofNat len)] 6)) (T3.setTop (mkF m 3 #[.val (.ref b), .val (.int (Int32.ofNat o)), .val (.int (Int32.ofNat len)), .unset, .unset, .unset] [.ref s.heap.size])) := c2.trans (st3 _ (Steps.refl _))
  have c5 : Steps p.tables e below (s₁.setTop (entryFrame m #[.ref b, .int (Int32.ofNat o), .int (Int32.ofNat len)] 6)) (T3.setTop (mkF m 9 #[.val (.ref b), .val (.int (Int32.ofNat o)), .val (.int (Int32.ofNat len)), .val (.ref s.heap.size), .unset, .unset] [.int (Int32.ofNat len), .int 0, .ref s.heap.size, .int (Int32.ofNat o), .ref b])) := c4.trans (by
    refine XS.astoreN X3.here hexec rfl (hb hbytes d3) rfl rfl rfl ?_
    refine XS.aloadN X3.here hexec rfl (hb hbytes d4) rfl rfl ?_
    refine XS.iloadN X3.here hexec rfl (hb hbytes d5) rfl ?_
    refine XS.aloadN X3.here hexec rfl (hb hbytes d6) rfl rfl ?_
    refine iconstV X3.here hexec rfl 0 (hb hbytes d7) (by decide) ?_
    refine XS.iloadN X3.here hexec rfl (hb hbytes d8) rfl ?_
    exact Steps.refl _)
  obtain ⟨v6, T6, X6, E6, g6⟩ := X3.callS hexec (Cmp5.law l b A s.heap.size B3 o 0 len) hown (wks W (staticW U16 115 Cmp5.yN)) (wk W Cmp5.tab) (W := 0) (Nat.le_of_ble_eq_true rfl) (Nat.le_of_ble_eq_true rfl) (Nat.le_refl _) (by show 0 + len + 0 ≤ len; omega) (g := (mkF m 9 #[.val (.ref b), .val (.int (Int32.ofNat o)), .val (.int (Int32.ofNat len)), .val (.ref s.heap.size), .unset, .unset] [.int (Int32.ofNat len), .int (Int32.ofNat 0), .ref s.heap.size, .int (Int32.ofNat o), .ref b])) rfl (by rw [hml]; rfl) c5 (argsL := [.ref b, .int (Int32.ofNat o), .ref s.heap.size, .int (Int32.ofNat 0), .int (Int32.ofNat len)]) (rest := []) rfl rfl (by show 2 * 0 + 0 ≤ _; decide) (hb hbytes d9) (⟨rfl, hA3, ba3, hne, l1, by rw [bs3]; simp, hp⟩)
  obtain ⟨rfl, B6, p6, f6⟩ := E6
  have c7 : Steps p.tables e below (s₁.setTop (entryFrame m #[.ref b, .int (Int32.ofNat o), .int (Int32.ofNat len)] 6)) (T6.setTop (mkF m 12 #[.val (.ref b), .val (.int (Int32.ofNat o)), .val (.int (Int32.ofNat len)), .val (.ref s.heap.size), .unset, .unset] [.int (Int32.ofNat len)])) := g6
  have c8 : Steps p.tables e below (s₁.setTop (entryFrame m #[.ref b, .int (Int32.ofNat o), .int (Int32.ofNat len)] 6)) (T6.setTop (mkF m 58 #[.val (.ref b), .val (.int (Int32.ofNat o)), .val (.int (Int32.ofNat len)), .val (.ref s.heap.size), .val (.int (Int32.ofNat len)), .unset] [.ref s.heap.size])) := c7.trans (by
    refine XS.istore X6.here hexec rfl (hb hbytes d12) rfl rfl ?_
    refine XS.iload X6.here hexec rfl (hb hbytes d14) rfl ?_
    refine XS.iloadN X6.here hexec rfl (hb hbytes d16) rfl ?_
    refine XS.icmpYes X6.here hexec rfl (pc0 := 17) rfl (hb hbytes d17) rfl (ii_eq_t rfl) (by decide) rfl ?_
    refine XS.aloadN X6.here hexec rfl (hb hbytes d57) rfl rfl ?_
    exact Steps.refl _)
  have X8 := X6.wide (L' := []) (cells' := 1) (slots' := len) (fun x hx hlt => by
    simp only [List.nil_append, copyLocs, List.mem_map, List.mem_range] at hx
    obtain ⟨i, -, rfl⟩ := hx
    exact absurd hlt (Nat.lt_irrefl _)) (Nat.le_refl _) (by omega)
  exact ⟨T6, some (.ref s.heap.size), _, _, _, X8, rfl, rfl, rfl, (fun h => by cases h), ⟨⟨rfl, B6, ba3.like (X3.warmed.alike.symm.trans X6.warmed.alike) p6.1 f6.1 f6.2.1 f6.2.2.1, f6.2.1.trans bv3, by rw [X6.warmed.alike.findClass, f6.1]; exact bf3, by rw [f6.2.2.1, bs3]; simp, fun j hj => by rw [f6.2.2.2 j, if_pos (by omega)]; rfl, kp3.put p6 (Nat.le_refl _)⟩, by rw [p6.2.2, bh3, hh0]; simp⟩, fun fs hl => c8.trans (X8.areturnOut hexec rfl hret rfl (hb hbytes d58) hl)⟩
end Cmp3
namespace CodL
def yN : MethodName := ⟨"java/lang/StringUTF16", "coderFromArrayLen", "([BI)B"⟩
abbrev yB : ByteArray := jdk_52_method_15_code
theorem d0 : decode yB 0 = .ok (.iload_n 1, 1) := by decide +kernel
theorem d1 : decode yB 1 = .ok (.aload_n 0, 1) := by decide +kernel
theorem d2 : decode yB 2 = .ok (.arraylength, 1) := by decide +kernel
theorem d3 : decode yB 3 = .ok (.isub, 1) := by decide +kernel
theorem d4 : decode yB 4 = .ok (.bipush 31, 2) := by decide +kernel
theorem d6 : decode yB 6 = .ok (.iushr, 1) := by decide +kernel
theorem d7 : decode yB 7 = .ok (.i2b, 1) := by decide +kernel
theorem d8 : decode yB 8 = .ok (.ireturn, 1) := by decide +kernel
def site : List Cond := []
def tab : Cond := tabOf yN yB 2 (some .byte) site
def P (d : Addr) (B : Cell) (args : Array Value) (s : State) : Prop := args = #[.ref d, .int (Int32.ofNat B.slots.size)] ∧ Arr .byte d B s
def E (r : Option Value) (s u : State) : Prop := XT.PureE (some (.int 0)) r s u
/-- an array as long as the number of chars: LATIN1 -/
theorem law (l : Launch) (d : Addr) (B : Cell) : Law l yN 2 2 0 0 yB 2 (some .byte) site (P d B) E [] 0 0 := by
  refine Law.of_walk (plainFor_of_name (by decide +kernel)) (by decide +kernel) (by decide +kernel) (by decide) (fun _ _ h => by rw [h.1]; rfl) (fun _ U U' hal hh h => ⟨h.1, h.2.mv hal hh⟩) (fun r U U' V V' h1 hal h2 h => XT.PureE.mv r U U' V V' h1 hal h2 h) ?_
  intro p e s m args below meth c s₁ X0 hexec hbytes hml hret hlk hnm hown hh0 W hP
  obtain ⟨rfl, hB⟩ := hP
  have hB0 := hB.mv X0.warmed.alike hh0
  have c1 : Steps p.tables e below (s₁.setTop (entryFrame m #[.ref d, .int (Int32.ofNat B.slots.size)] 2)) (s₁.setTop (mkF m 0 #[.val (.ref d), .val (.int (Int32.ofNat B.slots.size))] [])) := entry rfl
  have c2 : Steps p.tables e below (s₁.setTop (entryFrame m #[.ref d, .int (Int32.ofNat B.slots.size)] 2)) (s₁.setTop (mkF m 2 #[.val (.ref d), .val (.int (Int32.ofNat B.slots.size))] [.ref d, .int (Int32.ofNat B.slots.size)])) := c1.trans (by
    refine XS.iloadN X0.here hexec rfl (hb hbytes d0) rfl ?_
    refine XS.aloadN X0.here hexec rfl (hb hbytes d1) rfl rfl ?_
    exact Steps.refl _)
  have c3 : Steps p.tables e below (s₁.setTop (entryFrame m #[.ref d, .int (Int32.ofNat B.slots.size)] 2)) (s₁.setTop (mkF m 8 #[.val (.ref d), .val (.int (Int32.ofNat B.slots.size))] [.int (lo8 (ushr (Int32.ofNat B.slots.size - Int32.ofNat B.slots.size) 31))])) := c2.trans (by
    refine X0.alen hexec hB0 rfl rfl (hb hbytes d2) ?_
    refine XS.isub X0.here hexec rfl (hb hbytes d3) rfl ?_
    refine bipushV X0.here hexec rfl 31 (hb hbytes d4) (by decide) ?_
    refine iushr X0.here hexec rfl (hb hbytes d6) rfl ?_
    refine i2b X0.here hexec rfl (hb hbytes d7) rfl ?_
    exact Steps.refl _)
  have e0 : lo8 (ushr (Int32.ofNat B.slots.size - Int32.ofNat B.slots.size) 31) = 0 := by rw [Int32.sub_self]; decide
  rw [e0] at c3
  exact ⟨s₁, some (.int 0), _, _, _, X0, rfl, rfl, rfl, (fun h => by cases h), ⟨rfl, hh0⟩, fun fs hl => c3.trans (X0.ireturnOut hexec hret rfl (Or.inr (Or.inr (Or.inl rfl))) (hb hbytes d8) hl)⟩
end CodL
/-- the String at a is Latin-1 over a new byte[] (the heap's one new cell): the low bytes of the len chars of A from o on; every cell but a is kept -/
def Got (a : Addr) (D : Cell) (fV fC : Field) (A : Cell) (o len : Nat) (r : Option Value) (s u : State) : Prop := r = none ∧ ∃ D' V : Cell, Blank "java/lang/String" a D' u ∧ Same D D' [fV.slot, fC.slot] ∧ D'.slots[fV.slot]? = some (.ref s.heap.size) ∧ D'.slots[fC.slot]? = some (.int 0) ∧ Arr .byte s.heap.size V u ∧ V.vm = .none ∧ u.vm.findClass "[B" = some V.cls ∧ V.slots.size = len ∧ (∀ j, j < len → V.slots[j]? = some (.int (lo8 (cv A (o + j))))) ∧ (∀ (y : Addr) (c : Cell), y ≠ a → s.heap[y]? = some c → u.heap[y]? = some c) ∧ u.heap.size = s.heap.size + 1
theorem Got.mv {a : Addr} {D A : Cell} {fV fC : Field} {o len : Nat} : ∀ r (U U' V V' : State), U'.heap = U.heap → V.vm.Alike V'.vm → V'.heap = V.heap → Got a D fV fC A o len r U V → Got a D fV fC A o len r U' V' :=
  fun r U U' V V' h1 hal h2 ⟨e0, D', X, a1, a2, a3, a4, a5, a6, a7, a8, a9, a10, a11⟩ => ⟨e0, D', X, a1.mv hal h2, a2, by rw [h1]; exact a3, a4, by rw [h1]; exact a5.mv hal h2, a6, by rw [hal.findClass]; exact a7, a8, a9, by rw [h1, h2]; exact a10, by rw [h1, h2]; exact a11⟩
namespace New4
def yN : MethodName := ⟨"java/lang/String", "<init>", "([CIILjava/lang/Void;)V"⟩
abbrev yB : ByteArray := jdk_42_method_149_code
theorem d0 : decode yB 0 = .ok (.aload_n 0, 1) := by decide +kernel
theorem d1 : decode yB 1 = .ok (.invokespecial 1, 3) := by decide +kernel
theorem d4 : decode yB 4 = .ok (.iload_n 3, 1) := by decide +kernel
theorem d5 : decode yB 5 = .ok (.ifCond (.ne) 22, 3) := by decide +kernel
theorem d27 : decode yB 27 = .ok (.getstatic 38, 3) := by decide +kernel
theorem d30 : decode yB 30 = .ok (.ifCond (.eq) 28, 3) := by decide +kernel
theorem d33 : decode yB 33 = .ok (.aload_n 1, 1) := by decide +kernel
theorem d34 : decode yB 34 = .ok (.iload_n 2, 1) := by decide +kernel
theorem d35 : decode yB 35 = .ok (.iload_n 3, 1) := by decide +kernel
theorem d36 : decode yB 36 = .ok (.invokestatic 177, 3) := by decide +kernel
theorem d39 : decode yB 39 = .ok (.astore 5, 2) := by decide +kernel
theorem d41 : decode yB 41 = .ok (.aload_n 0, 1) := by decide +kernel
theorem d42 : decode yB 42 = .ok (.aload 5, 2) := by decide +kernel
theorem d44 : decode yB 44 = .ok (.iload_n 3, 1) := by decide +kernel
theorem d45 : decode yB 45 = .ok (.invokestatic 47, 3) := by decide +kernel
theorem d48 : decode yB 48 = .ok (.putfield 15, 3) := by decide +kernel
theorem d51 : decode yB 51 = .ok (.aload_n 0, 1) := by decide +kernel
theorem d52 : decode yB 52 = .ok (.aload 5, 2) := by decide +kernel
theorem d54 : decode yB 54 = .ok (.putfield 9, 3) := by decide +kernel
theorem d57 : decode yB 57 = .ok (.return_, 1) := by decide +kernel
def site : List Cond := [.fieldLink "java/lang/String" 38 "java/lang/String" "COMPACT_STRINGS" "Z", Cmp3.tab, CodL.tab, .laysFinal "java/lang/String" "java/lang/String" "value" "[B", .fieldLink "java/lang/String" 9 "java/lang/String" "value" "[B", .laysFinal "java/lang/String" "java/lang/String" "coder" "B", .fieldLink "java/lang/String" 15 "java/lang/String" "coder" "B"] ++ objW "java/lang/String" 1 ++ staticW "java/lang/String" 177 Cmp3.yN ++ staticW "java/lang/String" 47 CodL.yN
def tab : Cond := tabOf yN yB 6 none site
def P (a : Addr) (D : Cell) (fV fC : Field) (b : Addr) (A : Cell) (z : Int32) (o len : Nat) (args : Array Value) (s : State) : Prop := args = #[.ref a, .ref b, .int (Int32.ofNat o), .int (Int32.ofNat len), .null] ∧ Blank "java/lang/String" a D s ∧ Found "java/lang/String" "value" "[B" fV s ∧ Found "java/lang/String" "coder" "B" fC s ∧ Ch b A s ∧ StaticIs s "java/lang/String" "COMPACT_STRINGS" "Z" (.int z) ∧ ¬ z = 0 ∧ 0 < len ∧ o + len ≤ A.slots.size ∧ len ≤ 536870912 ∧ ∀ i, i < len → ¬ 255 < cv A (o + i)
def E (a : Addr) (D : Cell) (fV fC : Field) (A : Cell) (o len : Nat) (r : Option Value) (s u : State) : Prop := Got a D fV fC A o len r s u
/-- len > 0, no char of the range above 255: a Latin-1 String of their low bytes -/
theorem law (l : Launch) (a : Addr) (D : Cell) (fV fC : Field) (b : Addr) (A : Cell) (z : Int32) (o len : Nat) : Law l yN 5 4 2 35 yB 6 none site (P a D fV fC b A z o len) (E a D fV fC A o len) [⟨a, fC.slot⟩, ⟨a, fV.slot⟩] 1 len := by
  refine Law.of_walk (plainFor_of_name (by decide +kernel)) (by decide +kernel) (by decide +kernel) (by decide) (fun _ _ h => by rw [h.1]; rfl) (fun _ U U' hal hh h => ⟨h.1, h.2.1.mv hal hh, h.2.2.1.al hal, h.2.2.2.1.al hal, h.2.2.2.2.1.mv hal hh, h.2.2.2.2.2.1.there hal hh, h.2.2.2.2.2.2⟩) (fun r U U' V V' h1 hal h2 h => Got.mv r U U' V V' h1 hal h2 h) ?_
  intro p e s m args below meth c s₁ X0 hexec hbytes hml hret hlk hnm hown hh0 W hP
  obtain ⟨rfl, hB, f1, f2, hA, s1, hz, l0, l1, l2, hp⟩ := hP
  have a31 := hA.1.2.2.2
  have c1 : Steps p.tables e below (s₁.setTop (entryFrame m #[.ref a, .ref b, .int (Int32.ofNat o), .int (Int32.ofNat len), .null] 6)) (s₁.setTop (mkF m 0 #[.val (.ref a), .val (.ref b), .val (.int (Int32.ofNat o)), .val (.int (Int32.ofNat len)), .val .null, .unset] [])) := entry rfl
  have c2 : Steps p.tables e below (s₁.setTop (entryFrame m #[.ref a, .ref b, .int (Int32.ofNat o), .int (Int32.ofNat len), .null] 6)) (s₁.setTop (mkF m 1 #[.val (.ref a), .val (.ref b), .val (.int (Int32.ofNat o)), .val (.int (Int32.ofNat len)), .val .null, .unset] [.ref a])) := c1.trans (by
    refine XS.aloadN X0.here hexec rfl (hb hbytes d0) rfl rfl ?_
    exact Steps.refl _)
  obtain ⟨T3, X3, q3, st3⟩ := X0.oinit hexec hown (wks W (objW "java/lang/String" 1)) (g := (mkF m 1 #[.val (.ref a), .val (.ref b), .val (.int (Int32.ofNat o)), .val (.int (Int32.ofNat len)), .val .null, .unset] [.ref a])) rfl (by rw [hml]; rfl) (rest := []) rfl (hb hbytes d1) (W := 0) (by show 2 * 0 + 0 ≤ _; decide) (Nat.le_of_ble_eq_true rfl) (Nat.le_of_ble_eq_true rfl)
  have hh3 := q3.trans hh0
  have c4 : Steps p.tables e below (s₁.setTop (entryFrame m #[.ref a, .ref b, .int (Int32.ofNat o), .int (Int32.ofNat len), .null] 6)) (T3.setTop (mkF m 27 #[.val (.ref a), .val (.ref b), .val (.int (Int32.ofNat o)), .val (.int (Int32.ofNat len)), .val .null, .unset] [])) := (c2.trans (st3 _ (Steps.refl _))).trans (by
    refine XS.iloadN X3.here hexec rfl (hb hbytes d4) rfl ?_
    refine XS.ifYes X3.here hexec rfl (pc0 := 5) rfl (hb hbytes d5) rfl (i0_ne_t (nz32 (by omega) l0)) (by decide) rfl ?_
    exact Steps.refl _)
  obtain ⟨T5, X5, q5, st5⟩ := X3.sget hexec hown (wk W (.fieldLink "java/lang/String" 38 "java/lang/String" "COMPACT_STRINGS" "Z")) s1 (fun _ _ h => by rw [hh3]; exact h) (g := (mkF m 27 #[.val (.ref a), .val (.ref b), .val (.int (Int32.ofNat o)), .val (.int (Int32.ofNat len)), .val .null, .unset] [])) rfl (hb hbytes d27)
  have hh5 := q5.trans hh3
  have c6 : Steps p.tables e below (s₁.setTop (entryFrame m #[.ref a, .ref b, .int (Int32.ofNat o), .int (Int32.ofNat len), .null] 6)) (T5.setTop (mkF m 30 #[.val (.ref a), .val (.ref b), .val (.int (Int32.ofNat o)), .val (.int (Int32.ofNat len)), .val .null, .unset] [.int z])) := c4.trans (st5 _ (Steps.refl _))
  have c7 : Steps p.tables e below (s₁.setTop (entryFrame m #[.ref a, .ref b, .int (Int32.ofNat o), .int (Int32.ofNat len), .null] 6)) (T5.setTop (mkF m 36 #[.val (.ref a), .val (.ref b), .val (.int (Int32.ofNat o)), .val (.int (Int32.ofNat len)), .val .null, .unset] [.int (Int32.ofNat len), .int (Int32.ofNat o), .ref b])) := c6.trans (by
    refine XS.ifNo X5.here hexec rfl (hb hbytes d30) rfl (i0_eq_f hz) ?_
    refine XS.aloadN X5.here hexec rfl (hb hbytes d33) rfl rfl ?_
    refine XS.iloadN X5.here hexec rfl (hb hbytes d34) rfl ?_
    refine XS.iloadN X5.here hexec rfl (hb hbytes d35) rfl ?_
    exact Steps.refl _)
  obtain ⟨v8, T8, X8, E8, g8⟩ := X5.callS hexec (Cmp3.law l b A o len) hown (wks W (staticW "java/lang/String" 177 Cmp3.yN)) (wk W Cmp3.tab) (W := 0) (Nat.le_of_ble_eq_true rfl) (Nat.le_of_ble_eq_true rfl) (Nat.le_refl _) (by show 0 + len ≤ len; omega) (g := (mkF m 36 #[.val (.ref a), .val (.ref b), .val (.int (Int32.ofNat o)), .val (.int (Int32.ofNat len)), .val .null, .unset] [.int (Int32.ofNat len), .int (Int32.ofNat o), .ref b])) rfl (by rw [hml]; rfl) c7 (argsL := [.ref b, .int (Int32.ofNat o), .int (Int32.ofNat len)]) (rest := []) rfl rfl (by show 2 * 0 + 0 ≤ _; decide) (hb hbytes d36) (⟨rfl, hA.mv X5.warmed.alike hh5, l1, l2, hp⟩)
  obtain ⟨e8, z8⟩ := E8
  obtain ⟨rfl, N, n1, n2, n3, n4, n5, n6⟩ := NewArr.mv _ T5 s _ _ hh5.symm (Vm.Alike.refl _) rfl e8
  rw [hh5] at z8
  have hB1 := hB.keep X8.warmed.alike (n6 _ _ hB.1)
  have hne : s.heap.size ≠ a := (Nat.ne_of_lt (Array.getElem?_eq_some_iff.mp hB.1).1).symm
  have c9 : Steps p.tables e below (s₁.setTop (entryFrame m #[.ref a, .ref b, .int (Int32.ofNat o), .int (Int32.ofNat len), .null] 6)) (T8.setTop (mkF m 39 #[.val (.ref a), .val (.ref b), .val (.int (Int32.ofNat o)), .val (.int (Int32.ofNat len)), .val .null, .unset] [.ref s.heap.size])) := g8
  have c10 : Steps p.tables e below (s₁.setTop (entryFrame m #[.ref a, .ref b, .int (Int32.ofNat o), .int (Int32.ofNat len), .null] 6)) (T8.setTop (mkF m 45 #[.val (.ref a), .val (.ref b), .val (.int (Int32.ofNat o)), .val (.int (Int32.ofNat len)), .val .null, .val (.ref s.heap.size)] [.int (Int32.ofNat N.slots.size), .ref s.heap.size, .ref a])) := by
    have hc : Steps p.tables e below (s₁.setTop (entryFrame m #[.ref a, .ref b, .int (Int32.ofNat o), .int (Int32.ofNat len), .null] 6)) (T8.setTop (mkF m 45 #[.val (.ref a), .val (.ref b), .val (.int (Int32.ofNat o)), .val (.int (Int32.ofNat len)), .val .null, .val (.ref s.heap.size)] [.int (Int32.ofNat len), .ref s.heap.size, .ref a])) := c9.trans (by
      refine XS.astore X8.here hexec rfl (hb hbytes d39) rfl rfl rfl ?_
      refine XS.aloadN X8.here hexec rfl (hb hbytes d41) rfl rfl ?_
      refine XS.aload X8.here hexec rfl (hb hbytes d42) rfl rfl ?_
      refine XS.iloadN X8.here hexec rfl (hb hbytes d44) rfl ?_
      exact Steps.refl _)
    rw [n4]; exact hc
  obtain ⟨v11, T11, X11, E11, g11⟩ := X8.callS hexec (CodL.law l s.heap.size N) hown (wks W (staticW "java/lang/String" 47 CodL.yN)) (wk W CodL.tab) (W := 1) (Nat.le_of_ble_eq_true rfl) (Nat.le_of_ble_eq_true rfl) (Nat.le_refl _) (by show 0 + len + 0 ≤ len; omega) (g := (mkF m 45 #[.val (.ref a), .val (.ref b), .val (.int (Int32.ofNat o)), .val (.int (Int32.ofNat len)), .val .null, .val (.ref s.heap.size)] [.int (Int32.ofNat N.slots.size), .ref s.heap.size, .ref a])) rfl (by rw [hml]; rfl) c10 (argsL := [.ref s.heap.size, .int (Int32.ofNat N.slots.size)]) (rest := [.ref a]) rfl rfl (by show 2 * 0 + (1 + 0) ≤ _; decide) (hb hbytes d45) (⟨rfl, n1⟩)
  obtain ⟨rfl, q11⟩ := E11
  have hB11 := hB1.mv (X8.warmed.alike.symm.trans X11.warmed.alike) q11
  have c12 : Steps p.tables e below (s₁.setTop (entryFrame m #[.ref a, .ref b, .int (Int32.ofNat o), .int (Int32.ofNat len), .null] 6)) (T11.setTop (mkF m 48 #[.val (.ref a), .val (.ref b), .val (.int (Int32.ofNat o)), .val (.int (Int32.ofNat len)), .val .null, .val (.ref s.heap.size)] [.int 0, .ref a])) := g11
  obtain ⟨T13, X13, p13, bl13, sl13, st13⟩ := X11.finit hexec hown (wk W (.fieldLink "java/lang/String" 15 "java/lang/String" "coder" "B")) (Or.inr ⟨_, (wk W (.laysFinal "java/lang/String" "java/lang/String" "coder" "B"))⟩) (Or.inl ⟨rfl, hnm⟩) f2 (Or.inl rfl) hB11 (t := .byte) (by decide +kernel) rfl (g := (mkF m 48 #[.val (.ref a), .val (.ref b), .val (.int (Int32.ofNat o)), .val (.int (Int32.ofNat len)), .val .null, .val (.ref s.heap.size)] [.int 0, .ref a])) rfl (rest := []) rfl (hb hbytes d48)
  have c14 : Steps p.tables e below (s₁.setTop (entryFrame m #[.ref a, .ref b, .int (Int32.ofNat o), .int (Int32.ofNat len), .null] 6)) (T13.setTop (mkF m 54 #[.val (.ref a), .val (.ref b), .val (.int (Int32.ofNat o)), .val (.int (Int32.ofNat len)), .val .null, .val (.ref s.heap.size)] [.ref s.heap.size, .ref a])) := (c12.trans (st13 _ (Steps.refl _))).trans (by
    refine XS.aloadN X13.here hexec rfl (hb hbytes d51) rfl rfl ?_
    refine XS.aload X13.here hexec rfl (hb hbytes d52) rfl rfl ?_
    exact Steps.refl _)
  obtain ⟨T15, X15, p15, bl15, sl15, st15⟩ := X13.finit hexec hown (wk W (.fieldLink "java/lang/String" 9 "java/lang/String" "value" "[B")) (Or.inr ⟨_, (wk W (.laysFinal "java/lang/String" "java/lang/String" "value" "[B"))⟩) (Or.inl ⟨rfl, hnm⟩) f1 (Or.inl rfl) bl13 (t := (.array .byte)) (by decide +kernel) rfl (g := (mkF m 54 #[.val (.ref a), .val (.ref b), .val (.int (Int32.ofNat o)), .val (.int (Int32.ofNat len)), .val .null, .val (.ref s.heap.size)] [.ref s.heap.size, .ref a])) rfl (rest := []) rfl (hb hbytes d54)
  have c16 : Steps p.tables e below (s₁.setTop (entryFrame m #[.ref a, .ref b, .int (Int32.ofNat o), .int (Int32.ofNat len), .null] 6)) (T15.setTop (mkF m 57 #[.val (.ref a), .val (.ref b), .val (.int (Int32.ofNat o)), .val (.int (Int32.ofNat len)), .val .null, .val (.ref s.heap.size)] [])) := c14.trans (st15 _ (Steps.refl _))
  have ap := apart (Or.inr ⟨_, (wk W (.laysFinal "java/lang/String" "java/lang/String" "value" "[B"))⟩) (Or.inr ⟨_, (wk W (.laysFinal "java/lang/String" "java/lang/String" "coder" "B"))⟩) f1 f2 (t₁ := .array .byte) (t₂ := .byte) (by decide +kernel) (by decide +kernel) (by decide)
  have al := X8.warmed.alike.symm.trans X15.warmed.alike
  have n7 : T11.heap[s.heap.size]? = some N := by rw [q11]; exact n1.1
  exact ⟨T15, none, _, _, _, X15, by simp, rfl, by omega, (fun _ => rfl), ⟨rfl, _, N, bl15, ((Same.refl D _).set _ (by simp)).set _ (by simp), sl15, (Cell.slots_setSlot_ne _ ap).trans sl13, n1.keep al (p15.other hne (p13.other hne n7)), n2, by rw [al.findClass]; exact n3, n4, n5, fun y c h1 h2 => p15.other h1 (p13.other h1 (by rw [q11]; exact n6 y c h2)), by rw [p15.2.2, p13.2.2, q11]; exact z8⟩, fun fs hl => c16.trans (X15.returnOut hexec hret (hb hbytes d57) hl)⟩
end New4
namespace New1
def yN : MethodName := ⟨"java/lang/String", "<init>", "([C)V"⟩
abbrev yB : ByteArray := jdk_42_method_3_code
theorem d0 : decode yB 0 = .ok (.aload_n 0, 1) := by decide +kernel
theorem d1 : decode yB 1 = .ok (.aload_n 1, 1) := by decide +kernel
theorem d2 : decode yB 2 = .ok (.iconst 0, 1) := by decide +kernel
theorem d3 : decode yB 3 = .ok (.aload_n 1, 1) := by decide +kernel
theorem d4 : decode yB 4 = .ok (.arraylength, 1) := by decide +kernel
theorem d5 : decode yB 5 = .ok (.aconst_null, 1) := by decide +kernel
theorem d6 : decode yB 6 = .ok (.invokespecial 27, 3) := by decide +kernel
theorem d9 : decode yB 9 = .ok (.return_, 1) := by decide +kernel
def site : List Cond := [New4.tab] ++ initW "java/lang/String" 27 New4.yN
def tab : Cond := tabOf yN yB 2 none site
def P (a : Addr) (D : Cell) (fV fC : Field) (b : Addr) (A : Cell) (z : Int32) (args : Array Value) (s : State) : Prop := args = #[.ref a, .ref b] ∧ Blank "java/lang/String" a D s ∧ Found "java/lang/String" "value" "[B" fV s ∧ Found "java/lang/String" "coder" "B" fC s ∧ Ch b A s ∧ StaticIs s "java/lang/String" "COMPACT_STRINGS" "Z" (.int z) ∧ ¬ z = 0 ∧ 0 < A.slots.size ∧ A.slots.size ≤ 536870912 ∧ ∀ i, i < A.slots.size → ¬ 255 < cv A i
def E (a : Addr) (D : Cell) (fV fC : Field) (A : Cell) (r : Option Value) (s u : State) : Prop := Got a D fV fC A 0 A.slots.size r s u
/-- new String(chars), not empty, no char above 255: a Latin-1 String of their low bytes -/
theorem law (l : Launch) (a : Addr) (D : Cell) (fV fC : Field) (b : Addr) (A : Cell) (z : Int32) : Law l yN 2 1 3 52 yB 2 none site (P a D fV fC b A z) (E a D fV fC A) [⟨a, fC.slot⟩, ⟨a, fV.slot⟩] 1 A.slots.size := by
  refine Law.of_walk (plainFor_of_name (by decide +kernel)) (by decide +kernel) (by decide +kernel) (by decide) (fun _ _ h => by rw [h.1]; rfl) (fun _ U U' hal hh h => ⟨h.1, h.2.1.mv hal hh, h.2.2.1.al hal, h.2.2.2.1.al hal, h.2.2.2.2.1.mv hal hh, h.2.2.2.2.2.1.there hal hh, h.2.2.2.2.2.2⟩) (fun r U U' V V' h1 hal h2 h => Got.mv r U U' V V' h1 hal h2 h) ?_
  intro p e s m args below meth c s₁ X0 hexec hbytes hml hret hlk hnm hown hh0 W hP
  obtain ⟨rfl, hB, f1, f2, hA, s1, hz, l0, l2, hp⟩ := hP
  have c1 : Steps p.tables e below (s₁.setTop (entryFrame m #[.ref a, .ref b] 2)) (s₁.setTop (mkF m 0 #[.val (.ref a), .val (.ref b)] [])) := entry rfl
  have c2 : Steps p.tables e below (s₁.setTop (entryFrame m #[.ref a, .ref b] 2)) (s₁.setTop (mkF m 6 #[.val (.ref a), .val (.ref b)] [.null, .int (Int32.ofNat A.slots.size), .int 0, .ref b, .ref a])) := c1.trans (by
    refine XS.aloadN X0.here hexec rfl (hb hbytes d0) rfl rfl ?_
    refine XS.aloadN X0.here hexec rfl (hb hbytes d1) rfl rfl ?_
    refine iconstV X0.here hexec rfl 0 (hb hbytes d2) (by decide) ?_
    refine XS.aloadN X0.here hexec rfl (hb hbytes d3) rfl rfl ?_
    refine X0.alen hexec (hA.1.mv X0.warmed.alike hh0) rfl rfl (hb hbytes d4) ?_
    refine XS.aconstNull X0.here hexec rfl (hb hbytes d5) ?_
    exact Steps.refl _)
  obtain ⟨v3, T3, X3, E3, g3⟩ := X0.callN hexec (New4.law l a D fV fC b A z 0 A.slots.size) rfl hown (wks W (initW "java/lang/String" 27 New4.yN)) (W New4.tab (by simp only [site, List.mem_cons, List.mem_append, true_or, or_true])) (W := 0) (Nat.le_of_ble_eq_true rfl) (Nat.le_of_ble_eq_true rfl) (Nat.le_refl _) (by show 0 + A.slots.size ≤ A.slots.size; omega) (g := (mkF m 6 #[.val (.ref a), .val (.ref b)] [.null, .int (Int32.ofNat A.slots.size), .int (Int32.ofNat 0), .ref b, .ref a])) rfl (by rw [hml]; rfl) c2 (argsL := [.ref b, .int (Int32.ofNat 0), .int (Int32.ofNat A.slots.size), .null]) (rest := []) rfl rfl (by show 2 * 0 + 0 ≤ _; decide) (hb hbytes d6) (⟨rfl, hB.mv X0.warmed.alike hh0, f1.al X0.warmed.alike, f2.al X0.warmed.alike, hA.mv X0.warmed.alike hh0, s1.there X0.warmed.alike hh0, hz, l0, by omega, l2, fun i hi => by rw [Nat.zero_add]; exact hp i hi⟩)
  have e0 := Got.mv _ s₁ s _ _ hh0.symm (Vm.Alike.refl _) rfl E3
  obtain rfl := e0.1
  have c4 : Steps p.tables e below (s₁.setTop (entryFrame m #[.ref a, .ref b] 2)) (T3.setTop (mkF m 9 #[.val (.ref a), .val (.ref b)] [])) := g3
  exact ⟨T3, none, _, _, _, X3, by simp, rfl, by omega, (fun _ => rfl), e0, fun fs hl => c4.trans (X3.returnOut hexec hret (hb hbytes d9) hl)⟩
theorem pays {l : Launch} {R : Room} {p : Program} {e : Env} {below : List Frame} {s : State} {sargs : Array Value} {len W : Nat} (a : Addr) (D : Cell) (fV fC : Field) (b : Addr) (A : Cell) (z : Int32) (htab : tab.before sargs s = true) (hfr : 4 ≤ R.frames) (hlo : W + 65 ≤ R.locals) :
    Back l R p e below s sargs yN len W (fun A₁ a₁ => A₁.cells + 1 ≤ R.cells ∧ A₁.slots + A.slots.size ≤ R.slots ∧ P a D fV fC b A z a₁ A₁.U) (fun A₁ _ v₁ B₁ => E a D fV fC A v₁ A₁.U B₁.U ∧ B₁.locs = A₁.locs ++ [⟨a, fC.slot⟩, ⟨a, fV.slot⟩] ∧ B₁.cells = A₁.cells + 1 ∧ B₁.slots = A₁.slots + A.slots.size) :=
  (law l a D fV fC b A z).pays htab hfr (by omega)
end New1
end StrChars
namespace StrChars.Road
open Jvm Sem ClassFile Op Lib Jvm.Stand Jvm.Free Jvm.Free.XT
open Jvm.Lib.Cold (StaticIs)
abbrev ST : String := "java/lang/String"
/-- every table word that New1's law asks, flat -/
abbrev words : List Jvm.Cond := [.code New1.yN New1.yB 2 none, .initialized ST, .methodLink ST 27 New4.yN, .instanceMethod New4.yN,
  .code New4.yN New4.yB 6 none, .fieldLink ST 38 ST "COMPACT_STRINGS" "Z", .laysFinal ST ST "value" "[B", .fieldLink ST 9 ST "value" "[B", .laysFinal ST ST "coder" "B", .fieldLink ST 15 ST "coder" "B",
  .methodLink ST 1 Lib.objectInit, .instanceMethod Lib.objectInit, .code Lib.objectInit ⟨#[0xb1]⟩ 1 none, .methodLink ST 177 Cmp3.yN, .static Cmp3.yN, .methodLink ST 47 CodL.yN, .static CodL.yN,
  .code Cmp3.yN Cmp3.yB 6 (some (.array .byte)), .initialized U16, .arrayClass .byte, .methodLink U16 115 Cmp5.yN, .static Cmp5.yN, .code Cmp5.yN Cmp5.yB 7 (some .int), .code CodL.yN CodL.yB 2 (some .byte)]
theorem tab_of {a : Array Value} {s : State} (h : ∀ w ∈ words, w.before a s = true) : New1.tab.before a s = true := by
  have h5 : Cmp5.tab.before a s = true := unparts (wk h (.code Cmp5.yN Cmp5.yB 7 (some .int))) (wks h (.initialized Cmp5.yN.cls :: Cmp5.site))
  have hc : CodL.tab.before a s = true := unparts (wk h (.code CodL.yN CodL.yB 2 (some .byte))) (wks h (.initialized CodL.yN.cls :: CodL.site))
  have q5 : ∀ w ∈ Cmp5.tab :: words, w.before a s = true := fun w hw => (List.mem_cons.mp hw).elim (fun e => e ▸ h5) (h w)
  have h3 : Cmp3.tab.before a s = true := unparts (wk q5 (.code Cmp3.yN Cmp3.yB 6 (some (.array .byte)))) (wks q5 (.initialized Cmp3.yN.cls :: Cmp3.site))
  have q3 : ∀ w ∈ Cmp3.tab :: CodL.tab :: words, w.before a s = true := fun w hw => (List.mem_cons.mp hw).elim (fun e => e ▸ h3) fun hw => (List.mem_cons.mp hw).elim (fun e => e ▸ hc) (h w)
  have h4 : New4.tab.before a s = true := unparts (wk q3 (.code New4.yN New4.yB 6 none)) (wks q3 (.initialized New4.yN.cls :: New4.site))
  have q4 : ∀ w ∈ New4.tab :: words, w.before a s = true := fun w hw => (List.mem_cons.mp hw).elim (fun e => e ▸ h4) (h w)
  exact unparts (wk q4 (.code New1.yN New1.yB 2 none)) (wks q4 (.initialized New1.yN.cls :: New1.site))
/-- the words ride from the start Z to the walk's own state -/
theorem moved {Z s : State} {a0 args : Array Value} (hZ : Z.Warmed39 s.vm) (hw : ∀ d ∈ words, d.before a0 Z = true) : ∀ d ∈ words, d.before args s = true := fun d hd => by
  have q := hw d hd
  have t : ∀ d ∈ words, d = .arrayClass .byte ∨ (d.onTables && d.keepsFace) = true := by decide +kernel
  rcases t d hd with rfl | t
  · exact RoadKit.mvA hZ q
  · exact RoadKit.mv hZ q t
/-- WHAT COMES BACK, over the tables of the start Z: h the heap at the call, h' behind it -/
def Q (Z : State) (x : Addr) (A : Cell) (h : Heap) (v : Option Value) (h' : Heap) (L : List Loc) : Prop := v = none ∧ (∀ y ∈ L, y.base = x) ∧ RoadKit.Keep h h' [x] ∧ h'.size = h.size + 1 ∧ RoadKit.Exa Z h' x ST ∧ RoadKit.Fld Z h' x ST "value" "[B" (.ref h.size) ∧ RoadKit.Fld Z h' x ST "coder" "B" (.int 0) ∧
  (∃ V : Cell, RoadKit.Arr Z h' h.size V .byte ∧ V.vm = .none ∧ Z.vm.findClass "[B" = some V.cls ∧ V.slots.size = A.slots.size ∧ ∀ j, j < A.slots.size → V.slots[j]? = some (.int (lo8 (cv A j)))) ∧
  ∀ (O n d : String) (w : Value), RoadKit.Fld Z h x O n d w → RoadKit.slotOf Z O n d ≠ RoadKit.slotOf Z ST "value" "[B" → RoadKit.slotOf Z O n d ≠ RoadKit.slotOf Z ST "coder" "B" → RoadKit.Fld Z h' x O n d w
/-- **new String(chars) AT A CALL, IN THE ROAD'S FORM**: for specialBack behind newO: x the fresh String, b the char[] with the cell A -/
theorem back {p : Program} {l : Launch} {e : Env} {R : Room} {s : State} {args : Array Value} {below : List Frame} {len W : Nat} {Z : State} {a0 : Array Value} {h : Heap} (hZ : Z.Warmed39 s.vm) (hw : ∀ d ∈ words, d.before a0 Z = true) {kI : Nat} (wi : (Jvm.Cond.instantiable ST kI).before a0 Z = true)
    {x b : Addr} {A : Cell} {z : Int32} {v0 c0 : Value} (E : RoadKit.Exa Z h x ST) (V : RoadKit.Fld Z h x ST "value" "[B" v0) (C : RoadKit.Fld Z h x ST "coder" "B" c0) (K : RoadKit.Arr Z h b A .char) (hty : Typed .char A) (S : RoadKit.Sta Z h ST "COMPACT_STRINGS" "Z" (.int z)) (hz : ¬ z = 0)
    (l0 : 0 < A.slots.size) (l2 : A.slots.size ≤ 536870912) (hp : ∀ i, i < A.slots.size → ¬ 255 < cv A i) (hfr : 4 ≤ R.frames) (hlo : W + 65 ≤ R.locals) :
    Back l R p e below s args New1.yN len W (fun P a => a = #[.ref x, .ref b] ∧ P.U.heap = h ∧ P.cells + 1 ≤ R.cells ∧ P.slots + A.slots.size ≤ R.slots)
      (fun P _ v B => ∃ L, Q Z x A h v B.U.heap L ∧ B.locs = P.locs ++ L ∧ B.cells = P.cells + 1 ∧ B.slots = P.slots + A.slots.size) := by
  intro m meth c P g ig mk a X hg hsize hdg hW hn hp'
  obtain ⟨rfl, rfl, r1, r2⟩ := hp'
  have al : Z.vm.Alike P.U.vm := hZ.alike.trans X.warmed.alike
  obtain ⟨D, cfV, kV, iV, fV, hD, gV, stV, knV, obV, asV, slV⟩ := id V
  obtain ⟨D', cfC, kC, iC, fC, hD', gC, stC, -, -, asC, slC⟩ := id C
  cases hD.symm.trans hD'
  obtain ⟨D2, kD, e1, e2, e3, e4, e5⟩ := id E
  cases hD.symm.trans e1
  obtain ⟨c2, k2, i1, i2, i3, -⟩ := Cond.instantiable_spec wi
  cases e2.symm.trans i1
  cases e3.symm.trans i2
  obtain ⟨kU, u1, u2⟩ := al.2.2 _ _ e3
  have hB : Blank ST x D P.U := ⟨hD, ⟨knV, fun q hq => by rw [hq] at obV; cases obV⟩, by rw [al.findClass]; exact e2, kU, u1, by rw [u2]; exact i3, by rw [u2]; exact e5 i3⟩
  have F1 : Found ST "value" "[B" fV P.U := ⟨SBG.found_only al ⟨cfV, kV, iV, gV⟩, stV⟩
  have F2 : Found ST "coder" "B" fC P.U := ⟨SBG.found_only al ⟨cfC, kC, iC, gC⟩, stC⟩
  have hA : Ch b A P.U := ⟨⟨K.1, State.isArrayOf_alike al K.2.1, K.2.2, by omega⟩, hty⟩
  have hS : StaticIs P.U ST "COMPACT_STRINGS" "Z" (.int z) := by
    obtain ⟨cfS, iS, kS, fS, st, cS, t1, t2, t3, t4, t5, t6, t7⟩ := S
    exact StaticIs.there (s := { Z with heap := P.U.heap }) ⟨cfS, iS, kS, fS, st, cS, t1, t2, t3, t4, t5, (fun q => by rw [q] at t6; cases t6), t7⟩ al rfl
  obtain ⟨v, B, X', ⟨⟨hv, E', V', q1, q2, q3, q4, q5, q6, q7, q8, q9, q10, q11⟩, hl, hc, hs⟩, st⟩ := New1.pays x D fV fC b A z (tab_of (moved hZ hw)) hfr hlo m meth c P g ig mk _ X hg hsize hdg hW hn ⟨r1, r2, rfl, hB, F1, F2, hA, hS, hz, l0, l2, hp⟩
  have al' : Z.vm.Alike B.U.vm := hZ.alike.trans X'.warmed.alike
  have hsz : E'.slots.size = D.slots.size := by
    obtain ⟨-, -, -, kB, w1, w2, w3⟩ := q1
    obtain ⟨kB', y1, y2⟩ := al'.2.2 _ _ e3
    rw [q2.2.1] at w1
    cases w1.symm.trans y1
    rw [w3, e5 i3, y2]
  refine ⟨v, B, X', ⟨_, ⟨hv, ?_, ⟨by omega, fun y cy hy hn' => q10 y cy (by simpa using hn') hy, fun y cy hy => ?_⟩, q11, ⟨E', _, q1.1, by rw [q2.2.1]; exact e2, by rw [q2.2.1]; exact e3, by rw [q2.1]; exact obV, fun _ => by rw [hsz]; exact e5 i3⟩,
    ⟨E', cfV, kV, iV, fV, q1.1, gV, stV, by rw [q2.1]; exact knV, by rw [q2.1]; exact obV, by rw [q2.2.1]; exact asV, q3⟩, ⟨E', cfC, kC, iC, fC, q1.1, gC, stC, by rw [q2.1]; exact knV, by rw [q2.1]; exact obV, by rw [q2.2.1]; exact asC, q4⟩,
    ⟨V', ⟨q5.1, State.isArrayOf_alike al'.symm q5.2.1, q5.2.2.1⟩, q6, by rw [← al'.findClass]; exact q7, q8, fun j hj => by have := q9 j hj; rwa [Nat.zero_add] at this⟩, fun O n d w F n1 n2 => ?_⟩, hl, hc, hs⟩, st⟩
  · intro y hy
    simp only [List.mem_cons, List.not_mem_nil, or_false] at hy
    rcases hy with rfl | rfl <;> rfl
  · by_cases q : y = x
    · subst q
      cases hD.symm.trans hy
      exact ⟨E', q1.1, q2.2.1, q2.1, hsz⟩
    · exact ⟨cy, q10 y cy q hy, rfl, rfl, rfl⟩
  · obtain ⟨D3, cf, k, i, f, g1, g2, g3, g4, g5, g6, g7⟩ := F
    cases hD.symm.trans g1
    simp only [RoadKit.slotOf, g2, gV, gC, Option.map_some, Option.getD_some] at n1 n2
    exact ⟨E', cf, k, i, f, q1.1, g2, g3, by rw [q2.1]; exact g4, by rw [q2.1]; exact g5, by rw [q2.2.1]; exact g6, by rw [q2.2.2 f.slot (by simp [n1, n2])]; exact g7⟩
end StrChars.Road
namespace StrChars.Road
open Jvm Sem ClassFile Op Lib Jvm.Stand Jvm.Free Jvm.Free.XT
/-- WHAT COMES BACK, the byte[] as a list of values -/
def QA (Z : State) (x : Addr) (zn : Int32) (cs : List Int32) (h : Heap) (v : Option Value) (h' : Heap) (L : List Loc) : Prop := v = none ∧ (∀ y ∈ L, y.base = x) ∧ RoadKit.Keep h h' [x] ∧ h'.size = h.size + 1 ∧ RoadKit.Exa Z h' x ST ∧ RoadKit.Fld Z h' x ST "value" "[B" (.ref h.size) ∧ RoadKit.Fld Z h' x ST "coder" "B" (.int 0) ∧
  (∃ kb, Z.vm.findClass "[B" = some kb ∧ RoadKit.Arv Z h' h.size kb .byte zn (cs.map fun c => .int (lo8 c)) (.int 0)) ∧
  ∀ (O n d : String) (w : Value), RoadKit.Fld Z h x O n d w → RoadKit.slotOf Z O n d ≠ RoadKit.slotOf Z ST "value" "[B" → RoadKit.slotOf Z O n d ≠ RoadKit.slotOf Z ST "coder" "B" → RoadKit.Fld Z h' x O n d w
/-- **new String(chars) AT A CALL, THE ARRAYS AS LISTS**: the char[] at b holds cs, not empty, no char above 255 -/
theorem backArv {p : Program} {l : Launch} {e : Env} {R : Room} {s : State} {args : Array Value} {below : List Frame} {len W : Nat} {Z : State} {a0 : Array Value} {h : Heap} (hZ : Z.Warmed39 s.vm) (hw : ∀ d ∈ words, d.before a0 Z = true) {kI : Nat} (wi : (Jvm.Cond.instantiable ST kI).before a0 Z = true)
    {x b : Addr} {k : ClassId} {zn z : Int32} {cs : List Int32} {dv v0 c0 : Value} (E : RoadKit.Exa Z h x ST) (V : RoadKit.Fld Z h x ST "value" "[B" v0) (C : RoadKit.Fld Z h x ST "coder" "B" c0) (K : RoadKit.Arv Z h b k .char zn (cs.map Value.int) dv) (S : RoadKit.Sta Z h ST "COMPACT_STRINGS" "Z" (.int z)) (hz : ¬ z = 0)
    (hlen : zn.toNatClampNeg = cs.length) (h0 : 0 < cs.length) (hbig : cs.length ≤ 536870912) (hall : ∀ c ∈ cs, ¬ 255 < c) (hfr : 4 ≤ R.frames) (hlo : W + 65 ≤ R.locals) :
    Back l R p e below s args New1.yN len W (fun P a => a = #[.ref x, .ref b] ∧ P.U.heap = h ∧ P.cells + 1 ≤ R.cells ∧ P.slots + cs.length ≤ R.slots)
      (fun P _ v B => ∃ L, QA Z x zn cs h v B.U.heap L ∧ B.locs = P.locs ++ L ∧ B.cells = P.cells + 1 ∧ B.slots = P.slots + cs.length) := by
  obtain ⟨A, K1, K2, K3, K4, K5, K6⟩ := K
  have e : A.slots.size = cs.length := K3.trans hlen
  have hat : ∀ (i : Nat) (hi : i < cs.length), A.slots[i]? = some (.int cs[i]) := fun i hi => by rw [K5 i (by omega)]; simp [List.getD_eq_getElem?_getD, hi]
  have hcv : ∀ (i : Nat) (hi : i < cs.length), cv A i = cs[i] := fun i hi => by unfold cv; rw [hat i hi]
  have hty : Typed .char A := fun i v hv => by
    have hi : i < A.slots.size := (Array.getElem?_eq_some_iff.mp hv).1
    have q := K5 i hi
    rw [hv] at q
    rw [Option.some.inj q]
    exact K6 i hi
  refine Back.mono (back hZ hw wi E V C K1 hty S hz (by omega) (by omega) (fun i hi => by rw [hcv i (by omega)]; exact hall _ (List.getElem_mem _)) hfr hlo) (fun P a hp => ⟨hp.1, hp.2.1, hp.2.2.1, by rw [e]; exact hp.2.2.2⟩) (fun P a v B hp hq => ?_)
  obtain ⟨L, ⟨q1, q2, q3, q4, q5, q6, q7, ⟨V', v1, v2, v3, v4, v5⟩, q9⟩, hl, hc, hs⟩ := hq
  refine ⟨L, ⟨q1, q2, q3, q4, q5, q6, q7, ⟨V'.cls, v3, V', v1, rfl, by rw [v4, e, hlen], K4, fun i hi => ?_, fun i hi => ?_⟩, q9⟩, hl, hc, by rw [hs, e]⟩
  · have hi' : i < cs.length := by omega
    rw [v5 i (by omega), hcv i hi']; simp [List.getD_eq_getElem?_getD, hi']
  · have hi' : i < cs.length := by omega
    simp only [List.getD_eq_getElem?_getD, List.getElem?_map, List.getElem?_eq_getElem hi', Option.map_some, Option.getD_some]
    exact fits_lo8 _
end StrChars.Road
namespace StrChars.Road
open Jvm Sem ClassFile Op Lib Jvm.Stand Jvm.Free Jvm.Free.XT
/-- WHAT COMES BACK, in the writer's own shape -/
def QV (Z : State) (x : Addr) (N : Int32) (bs : List Int32) (h : Heap) (n0 : Nat) (v : Option Value) (h' : Heap) (L : List Loc) : Prop := v = none ∧ RoadKit.Fr n0 L ∧ RoadKit.Keep h h' [x] ∧ RoadKit.Exa Z h' x ST ∧ RoadKit.Fld Z h' x ST "coder" "B" (.int 0) ∧
  ∃ (t : Addr) (kb : ClassId), n0 ≤ t ∧ h.size ≤ t ∧ ¬ t = x ∧ RoadKit.Fld Z h' x ST "value" "[B" (.ref t) ∧ RoadKit.Arv Z h' t kb .byte N (bs.map Value.int) (.int 0)
/-- **new String(chars) AT A CALL, FOR THE WRITER**: a char[] of n known ints, each 0 to 255 -/
theorem backV {p : Program} {l : Launch} {e : Env} {R : Room} {s : State} {args : Array Value} {below : List Frame} {len W : Nat} {Z : State} {a0 : Array Value} {h : Heap} (hZ : Z.Warmed39 s.vm) (hw : ∀ d ∈ words, d.before a0 Z = true) {kI : Nat} (wi : (Jvm.Cond.instantiable ST kI).before a0 Z = true)
    {x b : Addr} {kC : ClassId} {cs bs : List Int32} {d v0 c0 : Value} {z N : Int32} {n n0 : Nat} (hx0 : n0 ≤ x) (hh0 : n0 ≤ h.size) (E : RoadKit.Exa Z h x ST) (V : RoadKit.Fld Z h x ST "value" "[B" v0) (C : RoadKit.Fld Z h x ST "coder" "B" c0) (K : RoadKit.Arv Z h b kC .char N (cs.map Value.int) d) (S : RoadKit.Sta Z h ST "COMPACT_STRINGS" "Z" (.int z)) (hz : ¬ z = 0)
    (hn : cs.length = n) (hN : N = Int32.ofNat n) (l0 : 0 < n) (l2 : n ≤ 4000) (hp : ∀ c ∈ cs, ¬ c < 0 ∧ ¬ (255 : Int32) < c) (hb : bs = cs.map (fun c => c.toInt8.toInt32)) (hfr : 4 ≤ R.frames) (hlo : W + 65 ≤ R.locals) :
    Back l R p e below s args (⟨"java/lang/String", "<init>", "([C)V"⟩ : MethodName) len W (fun P a => a = #[.ref x, .ref b] ∧ P.U.heap = h ∧ P.cells + 1 ≤ R.cells ∧ P.slots + n ≤ R.slots)
      (fun P _ v B => ∃ L, QV Z x N bs h n0 v B.U.heap L ∧ B.locs = P.locs ++ L ∧ B.cells = P.cells + 1 ∧ B.slots = P.slots + n) := by
  subst hn hN hb
  refine Back.mono (backArv hZ hw wi E V C K S hz (n32 (by omega)) l0 (by omega) (fun c hc => (hp c hc).2) hfr hlo) (fun P a hp => hp) (fun P a v B hp hq => ?_)
  obtain ⟨L, ⟨q1, q2, q3, q4, q5, q6, q7, ⟨kb, v1, v2⟩, q9⟩, hl, hc, hs⟩ := hq
  exact ⟨L, ⟨q1, fun y hy => by rw [q2 y hy]; exact hx0, q3, q5, q7, h.size, kb, hh0, Nat.le_refl _, Nat.ne_of_gt E.lt, q6, by rw [List.map_map]; exact v2⟩, hl, hc, hs⟩
end StrChars.Road
end Jvm.Pilot.@@N@@
namespace Jvm.Pilot.@@N@@
open Jvm Jvm.ClassFile Sem Op Lib Jvm.Free Jvm.Stand Jvm.LawKit Jvm.RoadKit Bundle Jvm.Pilot.@@N@@.Jvm.D

theorem own_and255 (x : Int32) : ¬ nar .char ((x &&& (255 : Int32)).toUInt32.toUInt16.toUInt32.toInt32) < 0 ∧ ¬ (255 : Int32) < nar .char ((x &&& (255 : Int32)).toUInt32.toUInt16.toUInt32.toInt32) := by
  have t : ∀ k : Fin 256, ¬ nar .char ((Int32.ofNat k.val).toUInt32.toUInt16.toUInt32.toInt32) < 0 ∧ ¬ (255 : Int32) < nar .char ((Int32.ofNat k.val).toUInt32.toUInt16.toUInt32.toInt32) := by decide +kernel
  have h : (x &&& 255).toBitVec.toNat < 256 := by
    simp only [Int32.toBitVec_and, BitVec.toNat_and]
    exact Nat.lt_succ_of_le Nat.and_le_right
  have e : (x &&& 255) = Int32.ofNat (x &&& 255).toBitVec.toNat := by
    apply Int32.toBitVec_inj.mp
    show _ = BitVec.ofNat 32 _
    rw [BitVec.ofNat_toNat]; simp
  rw [e]
  exact t ⟨_, h⟩
section OwnAbs
open Jvm.FP.Core
/-- a finite double that is not below zero (-0.0 among them) -/
def own_nneg (v : UInt64) : Prop := DFin v ∧ 0 ≤ own_z v
theorem own_z_bits {a : UInt64} (h : val64 a ≠ .nan) : own_z a = signed (decide (2 ^ 63 ≤ a.toNat)) (unitsOf b64 (a.toNat % 2 ^ 63)) := by
  have q := zval_decode good_b64 (n := a.toNat) (lt_full64 a) h
  unfold own_z val64
  rw [q, half_b64, mag_toNat64]
theorem own_absz {v : UInt64} (h : own_nneg v) : own_z (v &&& 0x7fffffffffffffff) = own_z v ∧ DFin (v &&& 0x7fffffffffffffff) ∧ (own_z (v &&& 0x7fffffffffffffff) = 0 → (v &&& 0x7fffffffffffffff) = 0) := by
  obtain ⟨hf, h0⟩ := h
  have hn := Jvm.Free.Fl.abs_toNat v
  have hb := (fin_bits v).mp hf
  have f2 : DFin (v &&& 0x7fffffffffffffff) := (fin_bits _).mpr (by rw [hn]; omega)
  have z1 := own_z_bits hf.ne_nan
  have z2 := own_z_bits f2.ne_nan
  have e1 : ¬ 2 ^ 63 ≤ (v &&& 0x7fffffffffffffff).toNat := by rw [hn]; omega
  have e2 : (v &&& 0x7fffffffffffffff).toNat % 2 ^ 63 = v.toNat % 2 ^ 63 := by rw [hn]; omega
  rw [e2] at z2
  simp only [e1, decide_false, signed, Bool.false_eq_true, if_false] at z2
  refine ⟨?_, f2, ?_⟩
  · by_cases s : 2 ^ 63 ≤ v.toNat
    · simp only [s, decide_true, signed, if_true] at z1
      omega
    · simp only [s, decide_false, signed, Bool.false_eq_true, if_false] at z1
      omega
  · intro hz
    rw [z2] at hz
    have u : unitsOf b64 (v.toNat % 2 ^ 63) = 0 := by omega
    have m := unitsOf_eq_zero.mp u
    apply UInt64.toNat_inj.mp
    rw [hn]
    show _ = 0
    omega
theorem own_nn {v : UInt64} (h : own_nneg v) : Jvm.Free.Fl.NoNaN64 v := Jvm.Free.Fl.val64_no.mpr h.1.ne_nan
theorem own_z0 : own_z 0 = 0 := by decide +kernel
theorem own_n0 : val64 (0 : UInt64) ≠ .nan := by decide +kernel
theorem own_f0 : ∃ s c q, val64 (0 : UInt64) = .fin s c q := (fin_bits 0).mpr (by decide)
theorem own_sq {d b c : UInt64} (h : own_nneg d) (hb : own_z d ≤ own_z b) (hc : DFin c) (hbc : own_z b * own_z b ≤ own_z c * own_u) : own_nneg (Jvm.FP.dmul d d) ∧ own_z (Jvm.FP.dmul d d) ≤ own_z c := by
  have M := own_mul_mono h.1 h.1
  have nn : val64 (FP.Core.dmul d d) ≠ .nan := (notNaN_iff _).mp (dmul_out h.1 h.1)
  have lo := (M (val64 0) (val64_fits 0) own_n0).2 (by
    show own_z 0 * own_u ≤ _
    rw [own_z0, Int.zero_mul]; exact Int.mul_nonneg h.2 h.2)
  have hi := (M (val64 c) (val64_fits c) hc.ne_nan).1 (by
    refine Int.le_trans ?_ hbc
    exact Int.mul_le_mul hb hb h.2 (Int.le_trans h.2 hb))
  have lo' : own_z 0 ≤ own_z (Jvm.FP.dmul d d) := lo
  rw [own_z0] at lo'
  exact ⟨⟨own_fin_of (val64_fits _) nn (val64_fits 0) own_f0 (val64_fits c) hc lo hi, lo'⟩, hi⟩
theorem own_l2d_mono (a : Int64) : own_Mono (val64 (FP.Core.l2d a)) (a.toInt * own_u) 1 := by
  intro V hV nV
  rw [val64_l2d]
  unfold ofInt
  have z : (b64.qmin - b64.qmin).toNat = 0 := by omega
  have q0 : b64.qmin ≤ 0 := by rw [qmin_b64]; decide
  have e : signed (decide (a.toInt < 0)) (inUnits a.toInt.natAbs 0 b64.qmin) = a.toInt * own_u := by
    unfold inUnits own_u
    rw [signed_mul, qmin_b64, show signed (decide (a.toInt < 0)) a.toInt.natAbs = a.toInt from by unfold signed; by_cases h : a.toInt < 0 <;> simp [h] <;> omega]
    rfl
  constructor
  · intro h
    exact zval_round_le good_b64 hV nV (Int.le_refl _) q0 (by rw [e, z]; simpa using h)
  · intro h
    exact zval_round_ge good_b64 hV nV (Int.le_refl _) q0 (by rw [e, z]; simpa using h)
theorem own_l {a : Int64} (h : 0 ≤ a.toInt) : own_nneg (Jvm.FP.l2d a) ∧ own_z (Jvm.FP.l2d a) ≤ own_z 4890909195324358656 := by
  have r := rng64 a
  have M := own_l2d_mono a
  have lo : own_z 0 ≤ own_z (Jvm.FP.l2d a) := (M (val64 0) (val64_fits 0) own_n0).2 (by
    show own_z 0 * 1 ≤ _
    rw [own_z0]; exact Int.mul_nonneg h (Int.le_of_lt own_u_pos))
  have e : own_z 4890909195324358656 = 9223372036854775808 * own_u := by decide +kernel
  have hi : own_z (Jvm.FP.l2d a) ≤ own_z 4890909195324358656 := (M (val64 4890909195324358656) (val64_fits _) (by decide +kernel)).1 (by
    show _ ≤ own_z 4890909195324358656 * 1
    rw [Int.mul_one, e]; exact Int.mul_le_mul_of_nonneg_right (by omega) (Int.le_of_lt own_u_pos))
  rw [own_z0] at lo
  exact ⟨⟨l2d_fin a, lo⟩, hi⟩
theorem own_l1 {a : Int64} (h : 0 ≤ a.toInt) : own_nneg (Jvm.FP.dadd (Jvm.FP.l2d a) 4607182418800017408) ∧ own_z (Jvm.FP.dadd (Jvm.FP.l2d a) 4607182418800017408) ≤ own_z 4890909195324358657 := by
  obtain ⟨⟨f, h0⟩, h1⟩ := own_l h
  have M := own_add_mono f own_In1.1
  have nn := own_ne_of_fin f own_In1.1
  have o1 : 0 ≤ own_z 4607182418800017408 := by decide +kernel
  have hb : own_z 4890909195324358656 + own_z 4607182418800017408 ≤ own_z 4890909195324358657 := by decide +kernel
  have lo := (M (val64 0) (val64_fits 0) own_n0).2 (by
    show own_z 0 * 1 ≤ _
    rw [own_z0]; omega)
  have hi := (M (val64 4890909195324358657) (val64_fits _) (by decide +kernel)).1 (by
    show _ ≤ own_z 4890909195324358657 * 1
    omega)
  have lo' : own_z 0 ≤ own_z (Jvm.FP.dadd (Jvm.FP.l2d a) 4607182418800017408) := lo
  rw [own_z0] at lo'
  exact ⟨⟨own_fin_of (val64_fits _) nn (val64_fits 0) own_f0 (val64_fits 4890909195324358657) ((fin_bits _).mpr (by decide)) lo hi, lo'⟩, hi⟩
theorem own_sq0 {d : UInt64} (h : own_nneg d ∧ own_z d ≤ own_z 4890909195324358657) : own_nneg (Jvm.FP.dmul d d) ∧ own_z (Jvm.FP.dmul d d) ≤ own_z 5174635971848699908 := own_sq h.1 h.2 ((fin_bits _).mpr (by decide)) (by decide +kernel)
theorem own_sq1 {d : UInt64} (h : own_nneg d ∧ own_z d ≤ own_z 5174635971848699908) : own_nneg (Jvm.FP.dmul d d) ∧ own_z (Jvm.FP.dmul d d) ≤ own_z 5742089524897382416 := own_sq h.1 h.2 ((fin_bits _).mpr (by decide)) (by decide +kernel)
theorem own_sq2 {d : UInt64} (h : own_nneg d ∧ own_z d ≤ own_z 5742089524897382416) : own_nneg (Jvm.FP.dmul d d) ∧ own_z (Jvm.FP.dmul d d) ≤ own_z 6876996630994747456 := own_sq h.1 h.2 ((fin_bits _).mpr (by decide)) (by decide +kernel)
theorem own_sq3 {d : UInt64} (h : own_nneg d ∧ own_z d ≤ own_z 6876996630994747456) : own_nneg (Jvm.FP.dmul d d) ∧ own_z (Jvm.FP.dmul d d) ≤ own_z 9146810843189477632 := own_sq h.1 h.2 ((fin_bits _).mpr (by decide)) (by decide +kernel)
theorem own_mz : own_nneg 9223372036854775808 := ⟨(fin_bits _).mpr (by decide), by decide +kernel⟩
theorem own_quo {a b : Int32} (h0 : 0 ≤ a.toInt) (h1 : 1 ≤ b.toInt ∧ b.toInt ≤ 65536) : own_nneg (Jvm.FP.ddiv (Jvm.FP.i2d a) (Jvm.FP.i2d b)) := by
  have r := rng32 a
  have I : own_In 0 0 2147483648 (Jvm.FP.ddiv (Jvm.FP.i2d a) (Jvm.FP.i2d b)) := own_In.div (own_In.i2d a) (own_In.i2d b) (by omega) (by decide) (by decide) (by decide) (by omega) (by omega)
  have z := I.z0
  exact ⟨I.1, by omega⟩
end OwnAbs
theorem own_maskI (a : Int32) : 0 ≤ (a &&& (2147483647 : Int32)).toInt := (c_and a 2147483647 (by decide)).1
theorem own_maskJ (d : Int64) : 0 ≤ (d &&& (9223372036854775807 : Int64)).toInt := by
  have h := c_maskL d 9223372036854775807 63 (by decide) (by decide)
  rw [h]
  have : ((2 ^ 63 : Nat) : Int) = 9223372036854775808 := by decide
  rw [this]
  omega
theorem own_pq (x : Int32) : 1 ≤ ((x &&& (65535 : Int32)) + (1 : Int32)).toInt ∧ ((x &&& (65535 : Int32)) + (1 : Int32)).toInt ≤ 65536 := by
  have h := c_mask x 65535 16 (by decide) (by decide)
  have a := c_iadd (x &&& 65535) 1
  have r := rng32 ((x &&& 65535) + 1)
  have e1 : (1 : Int32).toInt = 1 := rfl
  have : x.toInt % ((2 ^ 16 : Nat) : Int) = x.toInt % 65536 := rfl
  omega
theorem d7_0 : decode prog_41_method_2_code 0 = .ok (.dload_n 1, 1) := by decide +kernel
theorem d7_1 : decode prog_41_method_2_code 1 = .ok (.dconst 0, 1) := by decide +kernel
theorem d7_2 : decode prog_41_method_2_code 2 = .ok (.dcmp .l, 1) := by decide +kernel
theorem d7_3 : decode prog_41_method_2_code 3 = .ok (.ifCond .lt 11, 3) := by decide +kernel
theorem d7_6 : decode prog_41_method_2_code 6 = .ok (.dload_n 1, 1) := by decide +kernel
theorem d7_7 : decode prog_41_method_2_code 7 = .ok (.ldc2_w 9, 3) := by decide +kernel
theorem d7_10 : decode prog_41_method_2_code 10 = .ok (.dcmp .g, 1) := by decide +kernel
theorem d7_11 : decode prog_41_method_2_code 11 = .ok (.ifCond .lt 18, 3) := by decide +kernel
theorem d7_29 : decode prog_41_method_2_code 29 = .ok (.dload_n 1, 1) := by decide +kernel
theorem d7_30 : decode prog_41_method_2_code 30 = .ok (.invokestatic 20, 3) := by decide +kernel
theorem d7_33 : decode prog_41_method_2_code 33 = .ok (.dreturn, 1) := by decide +kernel
theorem pn_7 : plainName "com/example/bound/bound/curve/Parameters" = true := by first | (simp [plainName, overriddenIn]; done) | decide +kernel
theorem pn_law : plainName "com/example/bound/bound/curve/ParametersNonNegativePinLaw" = true := by first | (simp [plainName, overriddenIn]; done) | decide +kernel
theorem pd__Ljava_lang_String_D_D : parseMethodDescriptor "(Ljava/lang/String;D)D" = some ⟨[(.object "java/lang/String"), .double], some .double⟩ := by decide +kernel
theorem pd___C_V : parseMethodDescriptor "([C)V" = some ⟨[(.array .char)], none⟩ := by decide +kernel
theorem pd__D_D : parseMethodDescriptor "(D)D" = some ⟨[.double], some .double⟩ := by decide +kernel
def Q7 (r : UInt64) (h0 : Heap) (n0 : Nat) (v : Option Value) (h : Heap) (L : List Loc) : Prop := v = some (.double r) ∧ Fr n0 L ∧ h = h0
set_option maxRecDepth 65536 in
set_option maxHeartbeats 40000000 in
theorem rm7 (l : Launch) (Z : State) (a0 : Array Value) (hw : ∀ d ∈ tables_1, d.before a0 Z = true) (ws : List Jvm.Cond) (a1 : Addr) (y : UInt64) (h0 : Heap) (n0 : Nat) (Z0 : n0 ≤ h0.size) (hy : own_nneg y) :
    MetFree l (⟨"com/example/bound/bound/curve/Parameters", "nonNegative", "(Ljava/lang/String;D)D"⟩ : MethodName) (head1 (Jvm.Cond.code (⟨"com/example/bound/bound/curve/Parameters", "nonNegative", "(Ljava/lang/String;D)D"⟩ : MethodName) prog_41_method_2_code 3 (some .double) :: ws) ({ frames := 1, cells := 0, slots := 0, locals := 13 } : Room)) (fun a U => a = #[(.ref a1), (.double y)] ∧ Z.Warmed39 U.vm ∧ U.heap = h0) (fun _ _ _ _ _ => True) (fun _ U o U' => ∃ v L, o = .returned v ∧ Q7 (y &&& 0x7fffffffffffffff) h0 n0 v U'.heap L ∧ FrameEnd U o U' L ({ frames := 1, cells := 0, slots := 0, locals := 13 } : Room).cells ({ frames := 1, cells := 0, slots := 0, locals := 13 } : Room).slots) := by
  refine MetFree.of_bodySF (plainFor_of_name pn_7) hisR ?_
  intro p e s m args below meth c s₁ Bd hml0 hP hK
  obtain ⟨rfl, hZ, hh⟩ := hP
  have hx := Bd.exec
  have hby := Bd.bytes
  have hml : c.maxLocals = 3 := hml0
  have hown : s.vm.findClass "com/example/bound/bound/curve/Parameters" = some m.cls := findClass_of_methodNamed Bd.named
  have hnm := (name_of_methodNamed Bd.named Bd.method).1
  have X0 : Stand p l e ({ frames := 1, cells := 0, slots := 0, locals := 13 } : Room) s m #[(.ref a1), (.double y)] below meth c s₁ [] 0 0 := Stand.of_body Bd
  have e0 : s₁.heap = h0 := by rw [← hh, Bd.state]; rfl
  have N0 := Fr.nil n0
  have c0 : Steps p.tables e below (s₁.setTop (entryFrame m #[(.ref a1), (.double y)] 3)) (s₁.setTop (mkF m 0 #[.val (.ref a1), .val (.double y), .second] [])) := XT.entry rfl
  have k1 : ¬ cmpValue (FP.dcmp y 0) .l < 0 := own_geZ hy.1.ne_nan own_n0 (by rw [own_z0]; exact hy.2) _
  have k2 : cmpValue (FP.dcmp y 9218868437227405312) .g = -1 := dcmp_pinf (Fl.fin64_core.mpr hy.1) _
  obtain ⟨T1, X1, e1, st1⟩ := natS X0 hx hZ hown (hw _ (List.mem_of_getElem? (i := 37) rfl)) (hw _ (List.mem_of_getElem? (i := 38) rfl)) (hw _ (List.mem_of_getElem? (i := 39) rfl)) (y := Fl.Abs.absDN) (by0 := Fl.Abs.absDCode) (ml := 2) (rt := some .double) (hw _ (List.mem_of_getElem? (i := 40) rfl)) (by decide) e0 (W := 0) (F := fun a' => a' = #[.double y] ∧ Fl.NoNaN64 y) (fun hc => Fl.Abs.absD_pays y hc (by decide) (by decide)) (g := (mkF m 30 #[.val (.ref a1), .val (.double y), .second] [(.double y)])) rfl (by rw [hml]; rfl) (argsL := [(.double y)]) (rest := []) (lenOf pd__D_D rfl) rfl (by show 2 * 0 + _ ≤ _; exact Nat.le_of_eq rfl) (hb hby d7_30) (by decide) (by decide) ⟨rfl, (own_nn hy)⟩ rfl
  have cc1 : Steps p.tables e below (s₁.setTop (entryFrame m #[(.ref a1), (.double y)] 3)) (T1.setTop (mkF m 33 #[.val (.ref a1), .val (.double y), .second] [(.double (y &&& 0x7fffffffffffffff))])) := c0.trans (by
    refine XS.dloadN X0.here hx rfl (hb hby d7_0) rfl ?_
    refine XS.dconst0 X0.here hx rfl (v := (0 : UInt64)) (hb hby d7_1) rfl ?_
    refine XS.dcmpS X0.here hx rfl (hb hby d7_2) rfl rfl ?_
    refine XS.ifNo X0.here hx rfl (hb hby d7_3) rfl (XT.i0_lt_f k1) ?_
    refine XS.dloadN X0.here hx rfl (hb hby d7_6) rfl ?_
    refine Stand.ldc2DoubleC X0 hx hown (b := (9218868437227405312 : UInt64)) (mvT hZ (hw _ (List.mem_of_getElem? (i := 36) rfl))) (g := (mkF m 7 #[.val (.ref a1), .val (.double y), .second] [(.double y)])) rfl (hb hby d7_7) _ ?_
    refine XS.dcmpS X0.here hx rfl (hb hby d7_10) rfl k2 ?_
    refine XS.ifYes X0.here hx rfl (pc0 := 11) (pc' := 29) rfl (hb hby d7_11) rfl (XT.i0_lt_t (by decide)) (by decide) (by decide) ?_
    refine XS.dloadN X0.here hx rfl (hb hby d7_29) rfl ?_
    refine st1 _ ?_
    exact Steps.refl _)
  obtain ⟨fs, hr, hrun, hended, hW, hsame⟩ := X1.leave (v := some (.double (y &&& 0x7fffffffffffffff))) (fun h => by rw [Bd.returns] at h; cases h)
  refine ⟨_, _, cc1.trans ?_, hrun, hended, _, _, rfl, ?_, ⟨_, rfl⟩, hW, hsame.mono (by decide) (by decide)⟩
  · exact retD X1 hx Bd.returns (hb hby d7_33) hr
  · show Q7 (y &&& 0x7fffffffffffffff) h0 n0 _ T1.heap _
    rw [e1]
    exact ⟨rfl, N0, rfl⟩
def Q0 (h0 : Heap) (n0 : Nat) (v : Option Value) (h : Heap) (L : List Loc) : Prop := v = some (.int 1) ∧ Fr n0 L
set_option maxRecDepth 65536 in
set_option maxHeartbeats 40000000 in
theorem rm0 (l : Launch) (Z : State) (a0 : Array Value) (hw : ∀ d ∈ tables_1, d.before a0 Z = true) (ws : List Jvm.Cond) (p1 : Int32) (p2 : Int32) (p3 : Int64) (p4 : Int32) (p5 : Int32) (G1 : Int32) (h0 : Heap) (n0 : Nat) (Z0 : n0 ≤ h0.size) (O2 : Sta Z Z.heap "java/lang/String" "COMPACT_STRINGS" "Z" (.int G1)) (P5 : ¬ (G1 = (0 : Int32))) (X00 : Old Z n0 h0) :
    MetFree l x (head1 (Jvm.Cond.code x code maxLocals ret :: ws) room_1) (fun a U => a = #[(.int p1), (.int p2), (.long p3), (.int p4), (.int p5)] ∧ Z.Warmed39 U.vm ∧ U.heap = h0) (fun _ _ _ _ _ => True) (fun _ U o U' => ∃ v L, o = .returned v ∧ Q0 h0 n0 v U'.heap L ∧ FrameEnd U o U' L room_1.cells room_1.slots) := by
  refine MetFree.of_bodySF (plainFor_of_name pn_law) hisR ?_
  intro p e s m args below meth c s₁ Bd hml0 hP hK
  obtain ⟨rfl, hZ, hh⟩ := hP
  have hx := Bd.exec
  have hby := Bd.bytes
  have hml : c.maxLocals = 13 := hml0
  have hown : s.vm.findClass "com/example/bound/bound/curve/ParametersNonNegativePinLaw" = some m.cls := findClass_of_methodNamed Bd.named
  have hnm := (name_of_methodNamed Bd.named Bd.method).1
  have X0 : Stand p l e room_1 s m #[(.int p1), (.int p2), (.long p3), (.int p4), (.int p5)] below meth c s₁ [] 0 0 := Stand.of_body Bd
  have e0 : s₁.heap = h0 := by rw [← hh, Bd.state]; rfl
  have N0 := Fr.nil n0
  have c0 : Steps p.tables e below (s₁.setTop (entryFrame m #[(.int p1), (.int p2), (.long p3), (.int p4), (.int p5)] maxLocals)) (s₁.setTop (mkF m 0 #[.val (.int p1), .val (.int p2), .val (.long p3), .second, .val (.int p4), .val (.int p5), .unset, .unset, .unset, .unset, .unset, .unset, .unset] [])) := XT.entry rfl
  obtain ⟨T2, h2, kA2, X2, e2, E2, A2, st2⟩ := newP X0 hx hZ (hw _ (List.mem_of_getElem? (i := 0) rfl)) e0 (g := (mkF m 1 #[.val (.int p1), .val (.int p2), .val (.long p3), .second, .val (.int p4), .val (.int p5), .unset, .unset, .unset, .unset, .unset, .unset, .unset] [(.int (2 : Int32))])) rfl (hb hby at_1) rfl (by decide : ¬ ((2 : Int32) < (0 : Int32))) (cap := 2) (by decide : (2 : Int32).toNatClampNeg ≤ 2) (by decide) (by decide) (by decide)
  obtain ⟨a2, g2⟩ : ∃ z, z = h0.size := ⟨_, rfl⟩
  rw [← g2] at A2 st2
  have Zs2 : n0 ≤ h2.size := Nat.le_trans Z0 E2.1
  have gn2 : n0 ≤ a2 := Nat.le_trans Z0 (Nat.le_of_eq g2.symm)
  have V2 : Arv Z h2 a2 kA2 .char (2 : Int32) [] (.int (0 : Int32)) := Arv.new A2 (by decide)
  have V3p : Arv Z h2 a2 kA2 .char (2 : Int32) [(.int (0 : Int32))] (.int (0 : Int32)) := V2.pad (pad_rep [] (.int (0 : Int32)) 1)
  obtain ⟨c3, A3, q3, S3, M3, H3, U3⟩ := id V3p
  obtain ⟨T3, h3, X3, e3, W3, st3⟩ := stC X2 hx hZ e2 A3 (j := (0 : Int32)) (inb_of S3 ⟨(by decide : ¬ ((0 : Int32) < (0 : Int32))), (by decide : (0 : Int32) < (2 : Int32))⟩) (g := (mkF m 12 #[.val (.int p1), .val (.int p2), .val (.long p3), .second, .val (.int p4), .val (.int p5), .unset, .unset, .unset, .unset, .unset, .unset, .unset] [(.int ((p5 &&& (255 : Int32)).toUInt32.toUInt16.toUInt32.toInt32)), (.int (0 : Int32)), (.ref a2), (.ref a2)])) rfl rfl (hb hby at_12)
  have N3 := Fr.snoc X3 N0 gn2
  have Zs3 : n0 ≤ h3.size := Nat.le_trans Zs2 (Keep.of_wr W3).1
  have V3 : Arv Z h3 a2 kA2 .char (2 : Int32) [(.int (nar .char ((p5 &&& (255 : Int32)).toUInt32.toUInt16.toUInt32.toInt32)))] (.int (0 : Int32)) := Arv.set A3 q3 S3 M3 H3 U3 (fits_nar_char _) W3 0 rfl (Nat.le_of_ble_eq_true rfl)
  have V4p : Arv Z h3 a2 kA2 .char (2 : Int32) [(.int (nar .char ((p5 &&& (255 : Int32)).toUInt32.toUInt16.toUInt32.toInt32))), (.int (0 : Int32))] (.int (0 : Int32)) := V3.pad (pad_rep [(.int (nar .char ((p5 &&& (255 : Int32)).toUInt32.toUInt16.toUInt32.toInt32)))] (.int (0 : Int32)) 1)
  obtain ⟨c4, A4, q4, S4, M4, H4, U4⟩ := id V4p
  obtain ⟨T4, h4, X4, e4, W4, st4⟩ := stC X3 hx hZ e3 A4 (j := (1 : Int32)) (inb_of S4 ⟨(by decide : ¬ ((1 : Int32) < (0 : Int32))), (by decide : (1 : Int32) < (2 : Int32))⟩) (g := (mkF m 25 #[.val (.int p1), .val (.int p2), .val (.long p3), .second, .val (.int p4), .val (.int p5), .unset, .unset, .unset, .unset, .unset, .unset, .unset] [(.int (((XT.ushr p5 (8 : Int32)) &&& (255 : Int32)).toUInt32.toUInt16.toUInt32.toInt32)), (.int (1 : Int32)), (.ref a2), (.ref a2)])) rfl rfl (hb hby at_25)
  have N4 := Fr.snoc X4 N3 gn2
  have Zs4 : n0 ≤ h4.size := Nat.le_trans Zs3 (Keep.of_wr W4).1
  have V4 : Arv Z h4 a2 kA2 .char (2 : Int32) [(.int (nar .char ((p5 &&& (255 : Int32)).toUInt32.toUInt16.toUInt32.toInt32))), (.int (nar .char (((XT.ushr p5 (8 : Int32)) &&& (255 : Int32)).toUInt32.toUInt16.toUInt32.toInt32)))] (.int (0 : Int32)) := Arv.set A4 q4 S4 M4 H4 U4 (fits_nar_char _) W4 1 rfl (Nat.le_of_ble_eq_true rfl)
  obtain ⟨T5, h5, X5, e5, E5, A5, D5, -, st5⟩ := newO X4 hx hZ hown (hw _ (List.mem_of_getElem? (i := 1) rfl)) (hw _ (List.mem_of_getElem? (i := 2) rfl)) (hw _ (List.mem_of_getElem? (i := 3) rfl)) e4 (g := (mkF m 28 #[.val (.int p1), .val (.int p2), .val (.long p3), .second, .val (.int p4), .val (.int p5), .val (.ref a2), .unset, .unset, .unset, .unset, .unset, .unset] [])) rfl (hb hby at_28) (by decide) (by decide)
  obtain ⟨a5, g5⟩ : ∃ z, z = h4.size := ⟨_, rfl⟩
  rw [← g5] at A5 D5 st5
  have Zs5 : n0 ≤ h5.size := Nat.le_trans Zs4 E5.1
  have gn5 : n0 ≤ a5 := Nat.le_trans Zs4 (Nat.le_of_eq g5.symm)
  have Vn : Arv Z h5 a2 kA2 .char (2 : Int32) [(.int (nar .char ((p5 &&& (255 : Int32)).toUInt32.toUInt16.toUInt32.toInt32))), (.int (nar .char (((XT.ushr p5 (8 : Int32)) &&& (255 : Int32)).toUInt32.toUInt16.toUInt32.toInt32)))] (.int (0 : Int32)) := V4.ext E5
  have XO : Old Z n0 h5 := ((((X00.ext E2).wr W3 gn2).wr W4 gn2).ext E5)
  have hws : ∀ d ∈ StrChars.Road.words, d.before a0 Z = true := fun d hd => hw d ((by decide +kernel : ∀ d ∈ StrChars.Road.words, d ∈ tables_1) d hd)
  have hp : ∀ c ∈ ([(nar .char ((p5 &&& (255 : Int32)).toUInt32.toUInt16.toUInt32.toInt32)), (nar .char (((XT.ushr p5 (8 : Int32)) &&& (255 : Int32)).toUInt32.toUInt16.toUInt32.toInt32))] : List Int32), ¬ c < 0 ∧ ¬ (255 : Int32) < c := by
    intro c hc
    simp only [List.mem_cons, List.not_mem_nil, or_false] at hc
    rcases hc with rfl | rfl
    · exact own_and255 _
    · exact own_and255 _
  obtain ⟨_, _, ⟨T6, L6, k6, n6⟩, -, X6, ⟨Lc6, hQ6, l6, y6, z6⟩, st6⟩ := X5.specialBack hx (y := (⟨"java/lang/String", "<init>", "([C)V"⟩ : MethodName)) rfl hown (mvT hZ (hw _ (List.mem_of_getElem? (i := 4) rfl))) (mvT hZ (hw _ (List.mem_of_getElem? (i := 5) rfl))) (mvT hZ (hw _ (List.mem_of_getElem? (i := 6) rfl))) (by decide) (StrChars.Road.backV (W := 1) hZ hws (kI := 4) (hw _ (List.mem_of_getElem? (i := 2) rfl)) (cs := ([(nar .char ((p5 &&& (255 : Int32)).toUInt32.toUInt16.toUInt32.toInt32)), (nar .char (((XT.ushr p5 (8 : Int32)) &&& (255 : Int32)).toUInt32.toUInt16.toUInt32.toInt32))] : List Int32)) (bs := ([(nar .char ((p5 &&& (255 : Int32)).toUInt32.toUInt16.toUInt32.toInt32)), (nar .char (((XT.ushr p5 (8 : Int32)) &&& (255 : Int32)).toUInt32.toUInt16.toUInt32.toInt32))] : List Int32).map (fun c => c.toInt8.toInt32)) (n := 2) gn5 Zs5 A5 (D5 (Or.inr (hw _ (List.mem_of_getElem? (i := 29) rfl))) (ty := (.array .byte)) (by decide)) (D5 (Or.inr (hw _ (List.mem_of_getElem? (i := 27) rfl))) (ty := .byte) (by decide)) Vn (O2.ext XO.2) P5 rfl rfl (by decide) (by decide) hp rfl (by decide) (by decide)) (g := (mkF m 34 #[.val (.int p1), .val (.int p2), .val (.long p3), .second, .val (.int p4), .val (.int p5), .val (.ref a2), .unset, .unset, .unset, .unset, .unset, .unset] [(.ref a2), (.ref a5), (.ref a5)])) rfl (by rw [hml]; rfl) (Steps.refl _) (a := a5) (argsL := [(.ref a2)]) (rest := [(.ref a5)]) (lenOf pd___C_V rfl) rfl (by show 2 * 0 + _ ≤ _; exact Nat.le_of_eq rfl) (hb hby at_34) (fun _ _ => ⟨rfl, e5, (by decide : 2 + 1 ≤ _), (by decide : 6 + 2 ≤ _)⟩)
  dsimp only [Pt.U, Pt.locs, Pt.cells, Pt.slots] at X6 l6 y6 z6 st6 hQ6
  subst l6 y6 z6
  obtain ⟨rfl, N6, K6, gE6, gC6, aB6, kB6, uB6, vB6, wB6, gV6, gK6⟩ := hQ6
  have NN6 := Fr.app N4 N6
  have Zc : n0 ≤ T6.heap.size := Nat.le_trans Zs5 K6.1
  obtain ⟨hq, e_q⟩ : ∃ z, T6.heap = z := ⟨_, rfl⟩
  rw [e_q] at Zc
  obtain ⟨mo, hmo⟩ : ∃ z, z = (p4 &&& (3 : Int32)) := ⟨_, rfl⟩
  have cc1 : Steps p.tables e below (s₁.setTop (entryFrame m #[(.int p1), (.int p2), (.long p3), (.int p4), (.int p5)] maxLocals)) (T6.setTop (mkF m 47 #[.val (.int p1), .val (.int p2), .val (.long p3), .second, .val (.int p4), .val (.int p5), .val (.ref a2), .val (.ref a5), .val (.int mo), .unset, .unset, .unset, .unset] [(.int mo)])) := c0.trans (by
    refine XT.iconstV X0.here hx rfl ((2 : Int32)) (hb hby at_0) (by decide) ?_
    refine st2 _ ?_
    refine XS.dup X2.here hx rfl (hb hby at_3) rfl rfl ?_
    refine XT.iconstV X2.here hx rfl ((0 : Int32)) (hb hby at_4) (by decide) ?_
    refine XS.iload X2.here hx rfl (hb hby at_5) rfl ?_
    refine XT.sipushV X2.here hx rfl ((255 : Int32)) (hb hby at_7) (by decide) ?_
    refine XS.iand X2.here hx rfl (hb hby at_10) rfl ?_
    refine XT.i2c X2.here hx rfl (hb hby at_11) rfl ?_
    refine st3 _ ?_
    refine XS.dup X3.here hx rfl (hb hby at_13) rfl rfl ?_
    refine XT.iconstV X3.here hx rfl ((1 : Int32)) (hb hby at_14) (by decide) ?_
    refine XS.iload X3.here hx rfl (hb hby at_15) rfl ?_
    refine XT.bipushV X3.here hx rfl ((8 : Int32)) (hb hby at_17) (by decide) ?_
    refine XT.iushr X3.here hx rfl (hb hby at_19) rfl ?_
    refine XT.sipushV X3.here hx rfl ((255 : Int32)) (hb hby at_20) (by decide) ?_
    refine XS.iand X3.here hx rfl (hb hby at_23) rfl ?_
    refine XT.i2c X3.here hx rfl (hb hby at_24) rfl ?_
    refine st4 _ ?_
    refine XS.astore X4.here hx rfl (hb hby at_26) rfl rfl (l' := #[.val (.int p1), .val (.int p2), .val (.long p3), .second, .val (.int p4), .val (.int p5), .val (.ref a2), .unset, .unset, .unset, .unset, .unset, .unset]) rfl ?_
    refine st5 _ ?_
    refine XS.dup X5.here hx rfl (hb hby at_31) rfl rfl ?_
    refine XS.aload X5.here hx rfl (hb hby at_32) rfl rfl ?_
    refine st6.trans ?_
    show Steps p.tables e below (T6.setTop (mkF m 37 #[.val (.int p1), .val (.int p2), .val (.long p3), .second, .val (.int p4), .val (.int p5), .val (.ref a2), .unset, .unset, .unset, .unset, .unset, .unset] [(.ref a5)])) _
    refine XS.astore X6.here hx rfl (hb hby at_37) rfl rfl (l' := #[.val (.int p1), .val (.int p2), .val (.long p3), .second, .val (.int p4), .val (.int p5), .val (.ref a2), .val (.ref a5), .unset, .unset, .unset, .unset, .unset]) rfl ?_
    refine XS.iload X6.here hx rfl (hb hby at_39) rfl ?_
    refine XT.iconstV X6.here hx rfl ((3 : Int32)) (hb hby at_41) (by decide) ?_
    refine XS.iand X6.here hx rfl (hb hby at_42) rfl ?_
    show Steps p.tables e below (T6.setTop (mkF m 43 #[.val (.int p1), .val (.int p2), .val (.long p3), .second, .val (.int p4), .val (.int p5), .val (.ref a2), .val (.ref a5), .unset, .unset, .unset, .unset, .unset] [(.int (p4 &&& (3 : Int32)))])) _
    rw [← hmo]
    refine XS.istore X6.here hx rfl (hb hby at_43) rfl (l' := #[.val (.int p1), .val (.int p2), .val (.long p3), .second, .val (.int p4), .val (.int p5), .val (.ref a2), .val (.ref a5), .val (.int mo), .unset, .unset, .unset, .unset]) rfl ?_
    refine XS.iload X6.here hx rfl (hb hby at_45) rfl ?_
    exact Steps.refl _)
  by_cases m0 : mo = (0 : Int32)
  ·
    have qv := own_quo (own_maskI p1) (own_pq p2)
    obtain ⟨vv, hvv⟩ : ∃ z, (FP.ddiv (FP.i2d (p1 &&& (2147483647 : Int32))) (FP.i2d ((p2 &&& (65535 : Int32)) + (1 : Int32)))) = z := ⟨_, rfl⟩
    have hy : own_nneg vv := hvv ▸ qv
    obtain ⟨za, fa, z0⟩ := own_absz hy
    obtain ⟨rr, hrr⟩ : ∃ z, (vv &&& 0x7fffffffffffffff) = z := ⟨_, rfl⟩
    obtain ⟨_, _, ⟨T7, L7, k7, n7⟩, -, X7, ⟨Lc7, hQ7, l7, y7, z7⟩, st7⟩ := Jvm.LawKit.callS X6 hx (y := (⟨"com/example/bound/bound/curve/Parameters", "nonNegative", "(Ljava/lang/String;D)D"⟩ : MethodName)) hown (mvT hZ (hw _ (List.mem_of_getElem? (i := 32) rfl))) (mvT hZ (hw _ (List.mem_of_getElem? (i := 33) rfl))) (mvT hZ (hw _ (List.mem_of_getElem? (i := 34) rfl))) (mvT hZ (hw _ (List.mem_of_getElem? (i := 35) rfl))) (by decide) (backOf (W := 0) (rm7 l Z a0 hw [] a5 vv hq n0 Zc hy) hZ (hw _ (List.mem_of_getElem? (i := 35) rfl)) (hw _ (List.mem_of_getElem? (i := 34) rfl)) (by decide) (by decide)) (g := (mkF m 145 #[.val (.int p1), .val (.int p2), .val (.long p3), .second, .val (.int p4), .val (.int p5), .val (.ref a2), .val (.ref a5), .val (.int mo), .val (.double vv), .second, .unset, .unset] [(.double vv), (.ref a5)])) rfl (by rw [hml]; rfl) (argsL := [(.ref a5), (.double vv)]) (rest := []) (lenOf pd__Ljava_lang_String_D_D rfl) rfl (by show 2 * 0 + _ ≤ _; exact Nat.le_of_eq rfl) (hb hby at_145) (fun _ _ => ⟨rfl, e_q, (by decide : 3 + 0 ≤ _), (by decide : 8 + 0 ≤ _)⟩)
    dsimp only [Pt.U, Pt.locs, Pt.cells, Pt.slots] at X7 l7 y7 z7 st7 hQ7
    subst l7 y7 z7
    obtain ⟨rfl, N7, e7⟩ := hQ7
    have NN7 := Fr.app NN6 N7
    rw [hrr] at za fa z0
    have ca2 : Steps p.tables e below (s₁.setTop (entryFrame m #[(.int p1), (.int p2), (.long p3), (.int p4), (.int p5)] maxLocals)) (T7.setTop (mkF m 162 #[.val (.int p1), .val (.int p2), .val (.long p3), .second, .val (.int p4), .val (.int p5), .val (.ref a2), .val (.ref a5), .val (.int mo), .val (.double vv), .second, .val (.double rr), .second] [(.int (cmpValue (FP.dcmp rr (0 : UInt64)) .l))])) := cc1.trans (by
      refine XS.ifNo X6.here hx rfl (hb hby at_47) rfl (XT.i0_ne_f m0) ?_
      refine XS.iloadN X6.here hx rfl (hb hby at_50) rfl ?_
      refine Stand.ldcI X6 hx hown (v := (2147483647 : Int32)) (mvT hZ (hw _ (List.mem_of_getElem? (i := 30) rfl))) rfl (hb hby at_51) ?_
      refine XS.iand X6.here hx rfl (hb hby at_53) rfl ?_
      refine XS.i2dS X6.here hx rfl (hb hby at_54) rfl rfl ?_
      refine XS.iloadN X6.here hx rfl (hb hby at_55) rfl ?_
      refine Stand.ldcI X6 hx hown (v := (65535 : Int32)) (mvT hZ (hw _ (List.mem_of_getElem? (i := 31) rfl))) rfl (hb hby at_56) ?_
      refine XS.iand X6.here hx rfl (hb hby at_58) rfl ?_
      refine XT.iconstV X6.here hx rfl ((1 : Int32)) (hb hby at_59) (by decide) ?_
      refine XS.iadd X6.here hx rfl (hb hby at_60) rfl ?_
      refine XS.i2dS X6.here hx rfl (hb hby at_61) rfl rfl ?_
      refine XS.ddivS X6.here hx rfl (hb hby at_62) rfl (own_nn qv) rfl ?_
      refine XS.dstore X6.here hx rfl (hb hby at_63) rfl (l' := #[.val (.int p1), .val (.int p2), .val (.long p3), .second, .val (.int p4), .val (.int p5), .val (.ref a2), .val (.ref a5), .val (.int mo), .val (.double (FP.ddiv (FP.i2d (p1 &&& (2147483647 : Int32))) (FP.i2d ((p2 &&& (65535 : Int32)) + (1 : Int32))))), .second, .unset, .unset]) rfl ?_
      refine XS.goto X6.here hx rfl (pc0 := 65) (pc' := 141) rfl (hb hby at_65) (by decide) (by decide) ?_
      show Steps p.tables e below (T6.setTop (mkF m 141 #[.val (.int p1), .val (.int p2), .val (.long p3), .second, .val (.int p4), .val (.int p5), .val (.ref a2), .val (.ref a5), .val (.int mo), .val (.double (FP.ddiv (FP.i2d (p1 &&& (2147483647 : Int32))) (FP.i2d ((p2 &&& (65535 : Int32)) + (1 : Int32))))), .second, .unset, .unset] [])) _
      rw [hvv]
      refine XS.aload X6.here hx rfl (hb hby at_141) rfl rfl ?_
      refine XS.dload X6.here hx rfl (hb hby at_143) rfl ?_
      refine st7 _ ?_
      show Steps p.tables e below (T7.setTop (mkF m 148 #[.val (.int p1), .val (.int p2), .val (.long p3), .second, .val (.int p4), .val (.int p5), .val (.ref a2), .val (.ref a5), .val (.int mo), .val (.double vv), .second, .unset, .unset] [(.double (vv &&& 0x7fffffffffffffff))])) _
      rw [hrr]
      refine XS.dstore X7.here hx rfl (hb hby at_148) rfl (l' := #[.val (.int p1), .val (.int p2), .val (.long p3), .second, .val (.int p4), .val (.int p5), .val (.ref a2), .val (.ref a5), .val (.int mo), .val (.double vv), .second, .val (.double rr), .second]) rfl ?_
      refine XS.dload X7.here hx rfl (hb hby at_150) rfl ?_
      refine XS.dload X7.here hx rfl (hb hby at_152) rfl ?_
      refine XS.dcmpS X7.here hx rfl (hb hby at_154) rfl (own_eqZ fa.ne_nan hy.1.ne_nan za _) ?_
      refine XS.ifNo X7.here hx rfl (hb hby at_155) rfl (XT.i0_ne_f rfl) ?_
      refine XS.dload X7.here hx rfl (hb hby at_158) rfl ?_
      refine XS.dconst0 X7.here hx rfl (v := (0 : UInt64)) (hb hby at_160) rfl ?_
      refine XS.dcmpS X7.here hx rfl (hb hby at_161) rfl rfl ?_
      exact Steps.refl _)
    by_cases hz : own_z rr = 0
    ·
      have hr0 := z0 hz
      subst hr0
      have cz3 : Steps p.tables e below (s₁.setTop (entryFrame m #[(.int p1), (.int p2), (.long p3), (.int p4), (.int p5)] maxLocals)) (T7.setTop (mkF m 179 #[.val (.int p1), .val (.int p2), .val (.long p3), .second, .val (.int p4), .val (.int p5), .val (.ref a2), .val (.ref a5), .val (.int mo), .val (.double vv), .second, .val (.double (0 : UInt64)), .second] [(.int (1 : Int32))])) := ca2.trans (by
        refine XS.ifNo X7.here hx rfl (hb hby at_162) rfl (XT.i0_ne_f (by decide +kernel)) ?_
        refine XS.dconst1 X7.here hx rfl (v := (4607182418800017408 : UInt64)) (hb hby at_165) rfl ?_
        refine XS.dload X7.here hx rfl (hb hby at_166) rfl ?_
        refine XS.ddivS X7.here hx rfl (hb hby at_168) rfl (by unfold Fl.NoNaN64; decide +kernel) rfl ?_
        refine XS.dconst0 X7.here hx rfl (v := (0 : UInt64)) (hb hby at_169) rfl ?_
        refine XS.dcmpS X7.here hx rfl (hb hby at_170) rfl rfl ?_
        refine XS.ifNo X7.here hx rfl (hb hby at_171) rfl (XT.i0_le_f (by decide +kernel)) ?_
        refine XT.iconstV X7.here hx rfl ((1 : Int32)) (hb hby at_174) (by decide) ?_
        refine XS.goto X7.here hx rfl (pc0 := 175) (pc' := 179) rfl (hb hby at_175) (by decide) (by decide) ?_
        exact Steps.refl _)
      obtain ⟨fs, hr, hrun, hended, hW, hsame⟩ := X7.leave (v := some (.int (1 : Int32))) (fun h => by rw [Bd.returns] at h; cases h)
      refine ⟨_, _, cz3.trans ?_, hrun, hended, _, _, rfl, ?_, ⟨_, rfl⟩, hW, hsame.mono (by decide) (by decide)⟩
      · exact retN X7 hx (t := .boolean) Bd.returns (by simp) (hb hby at_179) hr
      · show Q0 h0 n0 _ T7.heap _
        exact ⟨rfl, NN7⟩
    ·
      have ne : ¬ cmpValue (FP.dcmp rr 0) .l = 0 := by
        have g := own_gtZ fa.ne_nan own_n0 (show own_z 0 < own_z rr by have := hy.2; rw [own_z0]; omega) .l
        rw [g]; decide
      have cz3 : Steps p.tables e below (s₁.setTop (entryFrame m #[(.int p1), (.int p2), (.long p3), (.int p4), (.int p5)] maxLocals)) (T7.setTop (mkF m 179 #[.val (.int p1), .val (.int p2), .val (.long p3), .second, .val (.int p4), .val (.int p5), .val (.ref a2), .val (.ref a5), .val (.int mo), .val (.double vv), .second, .val (.double rr), .second] [(.int (1 : Int32))])) := ca2.trans (by
        refine XS.ifYes X7.here hx rfl (pc0 := 162) (pc' := 174) rfl (hb hby at_162) rfl (XT.i0_ne_t ne) (by decide) (by decide) ?_
        refine XT.iconstV X7.here hx rfl ((1 : Int32)) (hb hby at_174) (by decide) ?_
        refine XS.goto X7.here hx rfl (pc0 := 175) (pc' := 179) rfl (hb hby at_175) (by decide) (by decide) ?_
        exact Steps.refl _)
      obtain ⟨fs, hr, hrun, hended, hW, hsame⟩ := X7.leave (v := some (.int (1 : Int32))) (fun h => by rw [Bd.returns] at h; cases h)
      refine ⟨_, _, cz3.trans ?_, hrun, hended, _, _, rfl, ?_, ⟨_, rfl⟩, hW, hsame.mono (by decide) (by decide)⟩
      · exact retN X7 hx (t := .boolean) Bd.returns (by simp) (hb hby at_179) hr
      · show Q0 h0 n0 _ T7.heap _
        exact ⟨rfl, NN7⟩
  · by_cases m1 : mo = (1 : Int32)
    ·
      obtain ⟨vv, hvv⟩ : ∃ z, (9223372036854775808 : UInt64) = z := ⟨_, rfl⟩
      have hy : own_nneg vv := hvv ▸ own_mz
      obtain ⟨za, fa, z0⟩ := own_absz hy
      obtain ⟨rr, hrr⟩ : ∃ z, (vv &&& 0x7fffffffffffffff) = z := ⟨_, rfl⟩
      obtain ⟨_, _, ⟨T8, L8, k8, n8⟩, -, X8, ⟨Lc8, hQ8, l8, y8, z8⟩, st8⟩ := Jvm.LawKit.callS X6 hx (y := (⟨"com/example/bound/bound/curve/Parameters", "nonNegative", "(Ljava/lang/String;D)D"⟩ : MethodName)) hown (mvT hZ (hw _ (List.mem_of_getElem? (i := 32) rfl))) (mvT hZ (hw _ (List.mem_of_getElem? (i := 33) rfl))) (mvT hZ (hw _ (List.mem_of_getElem? (i := 34) rfl))) (mvT hZ (hw _ (List.mem_of_getElem? (i := 35) rfl))) (by decide) (backOf (W := 0) (rm7 l Z a0 hw [] a5 vv hq n0 Zc hy) hZ (hw _ (List.mem_of_getElem? (i := 35) rfl)) (hw _ (List.mem_of_getElem? (i := 34) rfl)) (by decide) (by decide)) (g := (mkF m 145 #[.val (.int p1), .val (.int p2), .val (.long p3), .second, .val (.int p4), .val (.int p5), .val (.ref a2), .val (.ref a5), .val (.int mo), .val (.double vv), .second, .unset, .unset] [(.double vv), (.ref a5)])) rfl (by rw [hml]; rfl) (argsL := [(.ref a5), (.double vv)]) (rest := []) (lenOf pd__Ljava_lang_String_D_D rfl) rfl (by show 2 * 0 + _ ≤ _; exact Nat.le_of_eq rfl) (hb hby at_145) (fun _ _ => ⟨rfl, e_q, (by decide : 3 + 0 ≤ _), (by decide : 8 + 0 ≤ _)⟩)
      dsimp only [Pt.U, Pt.locs, Pt.cells, Pt.slots] at X8 l8 y8 z8 st8 hQ8
      subst l8 y8 z8
      obtain ⟨rfl, N8, e8⟩ := hQ8
      have NN8 := Fr.app NN6 N8
      rw [hrr] at za fa z0
      have ca2 : Steps p.tables e below (s₁.setTop (entryFrame m #[(.int p1), (.int p2), (.long p3), (.int p4), (.int p5)] maxLocals)) (T8.setTop (mkF m 162 #[.val (.int p1), .val (.int p2), .val (.long p3), .second, .val (.int p4), .val (.int p5), .val (.ref a2), .val (.ref a5), .val (.int mo), .val (.double vv), .second, .val (.double rr), .second] [(.int (cmpValue (FP.dcmp rr (0 : UInt64)) .l))])) := cc1.trans (by
        refine XS.ifYes X6.here hx rfl (pc0 := 47) (pc' := 68) rfl (hb hby at_47) rfl (XT.i0_ne_t m0) (by decide) (by decide) ?_
        refine XS.iload X6.here hx rfl (hb hby at_68) rfl ?_
        refine XT.iconstV X6.here hx rfl ((1 : Int32)) (hb hby at_70) (by decide) ?_
        refine XS.icmpNo X6.here hx rfl (hb hby at_71) rfl (XT.ii_ne_f m1) ?_
        refine Stand.ldc2DoubleC X6 hx hown (b := (9223372036854775808 : UInt64)) (mvT hZ (hw _ (List.mem_of_getElem? (i := 41) rfl))) (g := (mkF m 74 #[.val (.int p1), .val (.int p2), .val (.long p3), .second, .val (.int p4), .val (.int p5), .val (.ref a2), .val (.ref a5), .val (.int mo), .unset, .unset, .unset, .unset] [])) rfl (hb hby at_74) _ ?_
        refine XS.dstore X6.here hx rfl (hb hby at_77) rfl (l' := #[.val (.int p1), .val (.int p2), .val (.long p3), .second, .val (.int p4), .val (.int p5), .val (.ref a2), .val (.ref a5), .val (.int mo), .val (.double (9223372036854775808 : UInt64)), .second, .unset, .unset]) rfl ?_
        refine XS.goto X6.here hx rfl (pc0 := 79) (pc' := 141) rfl (hb hby at_79) (by decide) (by decide) ?_
        show Steps p.tables e below (T6.setTop (mkF m 141 #[.val (.int p1), .val (.int p2), .val (.long p3), .second, .val (.int p4), .val (.int p5), .val (.ref a2), .val (.ref a5), .val (.int mo), .val (.double (9223372036854775808 : UInt64)), .second, .unset, .unset] [])) _
        rw [hvv]
        refine XS.aload X6.here hx rfl (hb hby at_141) rfl rfl ?_
        refine XS.dload X6.here hx rfl (hb hby at_143) rfl ?_
        refine st8 _ ?_
        show Steps p.tables e below (T8.setTop (mkF m 148 #[.val (.int p1), .val (.int p2), .val (.long p3), .second, .val (.int p4), .val (.int p5), .val (.ref a2), .val (.ref a5), .val (.int mo), .val (.double vv), .second, .unset, .unset] [(.double (vv &&& 0x7fffffffffffffff))])) _
        rw [hrr]
        refine XS.dstore X8.here hx rfl (hb hby at_148) rfl (l' := #[.val (.int p1), .val (.int p2), .val (.long p3), .second, .val (.int p4), .val (.int p5), .val (.ref a2), .val (.ref a5), .val (.int mo), .val (.double vv), .second, .val (.double rr), .second]) rfl ?_
        refine XS.dload X8.here hx rfl (hb hby at_150) rfl ?_
        refine XS.dload X8.here hx rfl (hb hby at_152) rfl ?_
        refine XS.dcmpS X8.here hx rfl (hb hby at_154) rfl (own_eqZ fa.ne_nan hy.1.ne_nan za _) ?_
        refine XS.ifNo X8.here hx rfl (hb hby at_155) rfl (XT.i0_ne_f rfl) ?_
        refine XS.dload X8.here hx rfl (hb hby at_158) rfl ?_
        refine XS.dconst0 X8.here hx rfl (v := (0 : UInt64)) (hb hby at_160) rfl ?_
        refine XS.dcmpS X8.here hx rfl (hb hby at_161) rfl rfl ?_
        exact Steps.refl _)
      by_cases hz : own_z rr = 0
      ·
        have hr0 := z0 hz
        subst hr0
        have cz3 : Steps p.tables e below (s₁.setTop (entryFrame m #[(.int p1), (.int p2), (.long p3), (.int p4), (.int p5)] maxLocals)) (T8.setTop (mkF m 179 #[.val (.int p1), .val (.int p2), .val (.long p3), .second, .val (.int p4), .val (.int p5), .val (.ref a2), .val (.ref a5), .val (.int mo), .val (.double vv), .second, .val (.double (0 : UInt64)), .second] [(.int (1 : Int32))])) := ca2.trans (by
          refine XS.ifNo X8.here hx rfl (hb hby at_162) rfl (XT.i0_ne_f (by decide +kernel)) ?_
          refine XS.dconst1 X8.here hx rfl (v := (4607182418800017408 : UInt64)) (hb hby at_165) rfl ?_
          refine XS.dload X8.here hx rfl (hb hby at_166) rfl ?_
          refine XS.ddivS X8.here hx rfl (hb hby at_168) rfl (by unfold Fl.NoNaN64; decide +kernel) rfl ?_
          refine XS.dconst0 X8.here hx rfl (v := (0 : UInt64)) (hb hby at_169) rfl ?_
          refine XS.dcmpS X8.here hx rfl (hb hby at_170) rfl rfl ?_
          refine XS.ifNo X8.here hx rfl (hb hby at_171) rfl (XT.i0_le_f (by decide +kernel)) ?_
          refine XT.iconstV X8.here hx rfl ((1 : Int32)) (hb hby at_174) (by decide) ?_
          refine XS.goto X8.here hx rfl (pc0 := 175) (pc' := 179) rfl (hb hby at_175) (by decide) (by decide) ?_
          exact Steps.refl _)
        obtain ⟨fs, hr, hrun, hended, hW, hsame⟩ := X8.leave (v := some (.int (1 : Int32))) (fun h => by rw [Bd.returns] at h; cases h)
        refine ⟨_, _, cz3.trans ?_, hrun, hended, _, _, rfl, ?_, ⟨_, rfl⟩, hW, hsame.mono (by decide) (by decide)⟩
        · exact retN X8 hx (t := .boolean) Bd.returns (by simp) (hb hby at_179) hr
        · show Q0 h0 n0 _ T8.heap _
          exact ⟨rfl, NN8⟩
      ·
        have ne : ¬ cmpValue (FP.dcmp rr 0) .l = 0 := by
          have g := own_gtZ fa.ne_nan own_n0 (show own_z 0 < own_z rr by have := hy.2; rw [own_z0]; omega) .l
          rw [g]; decide
        have cz3 : Steps p.tables e below (s₁.setTop (entryFrame m #[(.int p1), (.int p2), (.long p3), (.int p4), (.int p5)] maxLocals)) (T8.setTop (mkF m 179 #[.val (.int p1), .val (.int p2), .val (.long p3), .second, .val (.int p4), .val (.int p5), .val (.ref a2), .val (.ref a5), .val (.int mo), .val (.double vv), .second, .val (.double rr), .second] [(.int (1 : Int32))])) := ca2.trans (by
          refine XS.ifYes X8.here hx rfl (pc0 := 162) (pc' := 174) rfl (hb hby at_162) rfl (XT.i0_ne_t ne) (by decide) (by decide) ?_
          refine XT.iconstV X8.here hx rfl ((1 : Int32)) (hb hby at_174) (by decide) ?_
          refine XS.goto X8.here hx rfl (pc0 := 175) (pc' := 179) rfl (hb hby at_175) (by decide) (by decide) ?_
          exact Steps.refl _)
        obtain ⟨fs, hr, hrun, hended, hW, hsame⟩ := X8.leave (v := some (.int (1 : Int32))) (fun h => by rw [Bd.returns] at h; cases h)
        refine ⟨_, _, cz3.trans ?_, hrun, hended, _, _, rfl, ?_, ⟨_, rfl⟩, hW, hsame.mono (by decide) (by decide)⟩
        · exact retN X8 hx (t := .boolean) Bd.returns (by simp) (hb hby at_179) hr
        · show Q0 h0 n0 _ T8.heap _
          exact ⟨rfl, NN8⟩
    · by_cases m2 : mo = (2 : Int32)
      ·
        obtain ⟨vv, hvv⟩ : ∃ z, (FP.l2d (p3 &&& (9223372036854775807 : Int64))) = z := ⟨_, rfl⟩
        have hy : own_nneg vv := hvv ▸ ((own_l (own_maskJ p3)).1)
        obtain ⟨za, fa, z0⟩ := own_absz hy
        obtain ⟨rr, hrr⟩ : ∃ z, (vv &&& 0x7fffffffffffffff) = z := ⟨_, rfl⟩
        obtain ⟨_, _, ⟨T9, L9, k9, n9⟩, -, X9, ⟨Lc9, hQ9, l9, y9, z9⟩, st9⟩ := Jvm.LawKit.callS X6 hx (y := (⟨"com/example/bound/bound/curve/Parameters", "nonNegative", "(Ljava/lang/String;D)D"⟩ : MethodName)) hown (mvT hZ (hw _ (List.mem_of_getElem? (i := 32) rfl))) (mvT hZ (hw _ (List.mem_of_getElem? (i := 33) rfl))) (mvT hZ (hw _ (List.mem_of_getElem? (i := 34) rfl))) (mvT hZ (hw _ (List.mem_of_getElem? (i := 35) rfl))) (by decide) (backOf (W := 0) (rm7 l Z a0 hw [] a5 vv hq n0 Zc hy) hZ (hw _ (List.mem_of_getElem? (i := 35) rfl)) (hw _ (List.mem_of_getElem? (i := 34) rfl)) (by decide) (by decide)) (g := (mkF m 145 #[.val (.int p1), .val (.int p2), .val (.long p3), .second, .val (.int p4), .val (.int p5), .val (.ref a2), .val (.ref a5), .val (.int mo), .val (.double vv), .second, .unset, .unset] [(.double vv), (.ref a5)])) rfl (by rw [hml]; rfl) (argsL := [(.ref a5), (.double vv)]) (rest := []) (lenOf pd__Ljava_lang_String_D_D rfl) rfl (by show 2 * 0 + _ ≤ _; exact Nat.le_of_eq rfl) (hb hby at_145) (fun _ _ => ⟨rfl, e_q, (by decide : 3 + 0 ≤ _), (by decide : 8 + 0 ≤ _)⟩)
        dsimp only [Pt.U, Pt.locs, Pt.cells, Pt.slots] at X9 l9 y9 z9 st9 hQ9
        subst l9 y9 z9
        obtain ⟨rfl, N9, e9⟩ := hQ9
        have NN9 := Fr.app NN6 N9
        rw [hrr] at za fa z0
        have ca2 : Steps p.tables e below (s₁.setTop (entryFrame m #[(.int p1), (.int p2), (.long p3), (.int p4), (.int p5)] maxLocals)) (T9.setTop (mkF m 162 #[.val (.int p1), .val (.int p2), .val (.long p3), .second, .val (.int p4), .val (.int p5), .val (.ref a2), .val (.ref a5), .val (.int mo), .val (.double vv), .second, .val (.double rr), .second] [(.int (cmpValue (FP.dcmp rr (0 : UInt64)) .l))])) := cc1.trans (by
          refine XS.ifYes X6.here hx rfl (pc0 := 47) (pc' := 68) rfl (hb hby at_47) rfl (XT.i0_ne_t m0) (by decide) (by decide) ?_
          refine XS.iload X6.here hx rfl (hb hby at_68) rfl ?_
          refine XT.iconstV X6.here hx rfl ((1 : Int32)) (hb hby at_70) (by decide) ?_
          refine XS.icmpYes X6.here hx rfl (pc0 := 71) (pc' := 82) rfl (hb hby at_71) rfl (XT.ii_ne_t m1) (by decide) (by decide) ?_
          refine XS.iload X6.here hx rfl (hb hby at_82) rfl ?_
          refine XT.iconstV X6.here hx rfl ((2 : Int32)) (hb hby at_84) (by decide) ?_
          refine XS.icmpNo X6.here hx rfl (hb hby at_85) rfl (XT.ii_ne_f m2) ?_
          refine XT.lloadN X6.here hx rfl (hb hby at_88) rfl ?_
          refine Stand.ldc2J X6 hx hown (v := (9223372036854775807 : Int64)) (mvT hZ (hw _ (List.mem_of_getElem? (i := 42) rfl))) rfl (hb hby at_89) ?_
          refine XT.land X6.here hx rfl (hb hby at_92) rfl ?_
          refine XS.l2dS X6.here hx rfl (hb hby at_93) rfl rfl ?_
          refine XS.dstore X6.here hx rfl (hb hby at_94) rfl (l' := #[.val (.int p1), .val (.int p2), .val (.long p3), .second, .val (.int p4), .val (.int p5), .val (.ref a2), .val (.ref a5), .val (.int mo), .val (.double (FP.l2d (p3 &&& (9223372036854775807 : Int64)))), .second, .unset, .unset]) rfl ?_
          refine XS.goto X6.here hx rfl (pc0 := 96) (pc' := 141) rfl (hb hby at_96) (by decide) (by decide) ?_
          show Steps p.tables e below (T6.setTop (mkF m 141 #[.val (.int p1), .val (.int p2), .val (.long p3), .second, .val (.int p4), .val (.int p5), .val (.ref a2), .val (.ref a5), .val (.int mo), .val (.double (FP.l2d (p3 &&& (9223372036854775807 : Int64)))), .second, .unset, .unset] [])) _
          rw [hvv]
          refine XS.aload X6.here hx rfl (hb hby at_141) rfl rfl ?_
          refine XS.dload X6.here hx rfl (hb hby at_143) rfl ?_
          refine st9 _ ?_
          show Steps p.tables e below (T9.setTop (mkF m 148 #[.val (.int p1), .val (.int p2), .val (.long p3), .second, .val (.int p4), .val (.int p5), .val (.ref a2), .val (.ref a5), .val (.int mo), .val (.double vv), .second, .unset, .unset] [(.double (vv &&& 0x7fffffffffffffff))])) _
          rw [hrr]
          refine XS.dstore X9.here hx rfl (hb hby at_148) rfl (l' := #[.val (.int p1), .val (.int p2), .val (.long p3), .second, .val (.int p4), .val (.int p5), .val (.ref a2), .val (.ref a5), .val (.int mo), .val (.double vv), .second, .val (.double rr), .second]) rfl ?_
          refine XS.dload X9.here hx rfl (hb hby at_150) rfl ?_
          refine XS.dload X9.here hx rfl (hb hby at_152) rfl ?_
          refine XS.dcmpS X9.here hx rfl (hb hby at_154) rfl (own_eqZ fa.ne_nan hy.1.ne_nan za _) ?_
          refine XS.ifNo X9.here hx rfl (hb hby at_155) rfl (XT.i0_ne_f rfl) ?_
          refine XS.dload X9.here hx rfl (hb hby at_158) rfl ?_
          refine XS.dconst0 X9.here hx rfl (v := (0 : UInt64)) (hb hby at_160) rfl ?_
          refine XS.dcmpS X9.here hx rfl (hb hby at_161) rfl rfl ?_
          exact Steps.refl _)
        by_cases hz : own_z rr = 0
        ·
          have hr0 := z0 hz
          subst hr0
          have cz3 : Steps p.tables e below (s₁.setTop (entryFrame m #[(.int p1), (.int p2), (.long p3), (.int p4), (.int p5)] maxLocals)) (T9.setTop (mkF m 179 #[.val (.int p1), .val (.int p2), .val (.long p3), .second, .val (.int p4), .val (.int p5), .val (.ref a2), .val (.ref a5), .val (.int mo), .val (.double vv), .second, .val (.double (0 : UInt64)), .second] [(.int (1 : Int32))])) := ca2.trans (by
            refine XS.ifNo X9.here hx rfl (hb hby at_162) rfl (XT.i0_ne_f (by decide +kernel)) ?_
            refine XS.dconst1 X9.here hx rfl (v := (4607182418800017408 : UInt64)) (hb hby at_165) rfl ?_
            refine XS.dload X9.here hx rfl (hb hby at_166) rfl ?_
            refine XS.ddivS X9.here hx rfl (hb hby at_168) rfl (by unfold Fl.NoNaN64; decide +kernel) rfl ?_
            refine XS.dconst0 X9.here hx rfl (v := (0 : UInt64)) (hb hby at_169) rfl ?_
            refine XS.dcmpS X9.here hx rfl (hb hby at_170) rfl rfl ?_
            refine XS.ifNo X9.here hx rfl (hb hby at_171) rfl (XT.i0_le_f (by decide +kernel)) ?_
            refine XT.iconstV X9.here hx rfl ((1 : Int32)) (hb hby at_174) (by decide) ?_
            refine XS.goto X9.here hx rfl (pc0 := 175) (pc' := 179) rfl (hb hby at_175) (by decide) (by decide) ?_
            exact Steps.refl _)
          obtain ⟨fs, hr, hrun, hended, hW, hsame⟩ := X9.leave (v := some (.int (1 : Int32))) (fun h => by rw [Bd.returns] at h; cases h)
          refine ⟨_, _, cz3.trans ?_, hrun, hended, _, _, rfl, ?_, ⟨_, rfl⟩, hW, hsame.mono (by decide) (by decide)⟩
          · exact retN X9 hx (t := .boolean) Bd.returns (by simp) (hb hby at_179) hr
          · show Q0 h0 n0 _ T9.heap _
            exact ⟨rfl, NN9⟩
        ·
          have ne : ¬ cmpValue (FP.dcmp rr 0) .l = 0 := by
            have g := own_gtZ fa.ne_nan own_n0 (show own_z 0 < own_z rr by have := hy.2; rw [own_z0]; omega) .l
            rw [g]; decide
          have cz3 : Steps p.tables e below (s₁.setTop (entryFrame m #[(.int p1), (.int p2), (.long p3), (.int p4), (.int p5)] maxLocals)) (T9.setTop (mkF m 179 #[.val (.int p1), .val (.int p2), .val (.long p3), .second, .val (.int p4), .val (.int p5), .val (.ref a2), .val (.ref a5), .val (.int mo), .val (.double vv), .second, .val (.double rr), .second] [(.int (1 : Int32))])) := ca2.trans (by
            refine XS.ifYes X9.here hx rfl (pc0 := 162) (pc' := 174) rfl (hb hby at_162) rfl (XT.i0_ne_t ne) (by decide) (by decide) ?_
            refine XT.iconstV X9.here hx rfl ((1 : Int32)) (hb hby at_174) (by decide) ?_
            refine XS.goto X9.here hx rfl (pc0 := 175) (pc' := 179) rfl (hb hby at_175) (by decide) (by decide) ?_
            exact Steps.refl _)
          obtain ⟨fs, hr, hrun, hended, hW, hsame⟩ := X9.leave (v := some (.int (1 : Int32))) (fun h => by rw [Bd.returns] at h; cases h)
          refine ⟨_, _, cz3.trans ?_, hrun, hended, _, _, rfl, ?_, ⟨_, rfl⟩, hW, hsame.mono (by decide) (by decide)⟩
          · exact retN X9 hx (t := .boolean) Bd.returns (by simp) (hb hby at_179) hr
          · show Q0 h0 n0 _ T9.heap _
            exact ⟨rfl, NN9⟩
      ·
        have s0 := own_l1 (own_maskJ p3)
        have s1 := own_sq0 s0
        have s2 := own_sq1 s1
        have s3 := own_sq2 s2
        have s4 := own_sq3 s3
        obtain ⟨d0, hd0⟩ : ∃ z, FP.dadd (FP.l2d (p3 &&& (9223372036854775807 : Int64))) 4607182418800017408 = z := ⟨_, rfl⟩
        rw [hd0] at s0 s1 s2 s3 s4
        obtain ⟨d1, hd1⟩ : ∃ z, FP.dmul d0 d0 = z := ⟨_, rfl⟩
        rw [hd1] at s1 s2 s3 s4
        obtain ⟨d2, hd2⟩ : ∃ z, FP.dmul d1 d1 = z := ⟨_, rfl⟩
        rw [hd2] at s2 s3 s4
        obtain ⟨d3, hd3⟩ : ∃ z, FP.dmul d2 d2 = z := ⟨_, rfl⟩
        rw [hd3] at s3 s4
        obtain ⟨d4, hd4⟩ : ∃ z, FP.dmul d3 d3 = z := ⟨_, rfl⟩
        rw [hd4] at s4
        obtain ⟨vv, hvv⟩ : ∃ z, d4 = z := ⟨_, rfl⟩
        have hy : own_nneg vv := hvv ▸ s4.1
        obtain ⟨za, fa, z0⟩ := own_absz hy
        obtain ⟨rr, hrr⟩ : ∃ z, (vv &&& 0x7fffffffffffffff) = z := ⟨_, rfl⟩
        obtain ⟨_, _, ⟨T10, L10, k10, n10⟩, -, X10, ⟨Lc10, hQ10, l10, y10, z10⟩, st10⟩ := Jvm.LawKit.callS X6 hx (y := (⟨"com/example/bound/bound/curve/Parameters", "nonNegative", "(Ljava/lang/String;D)D"⟩ : MethodName)) hown (mvT hZ (hw _ (List.mem_of_getElem? (i := 32) rfl))) (mvT hZ (hw _ (List.mem_of_getElem? (i := 33) rfl))) (mvT hZ (hw _ (List.mem_of_getElem? (i := 34) rfl))) (mvT hZ (hw _ (List.mem_of_getElem? (i := 35) rfl))) (by decide) (backOf (W := 0) (rm7 l Z a0 hw [] a5 vv hq n0 Zc hy) hZ (hw _ (List.mem_of_getElem? (i := 35) rfl)) (hw _ (List.mem_of_getElem? (i := 34) rfl)) (by decide) (by decide)) (g := (mkF m 145 #[.val (.int p1), .val (.int p2), .val (.long p3), .second, .val (.int p4), .val (.int p5), .val (.ref a2), .val (.ref a5), .val (.int mo), .val (.double vv), .second, .val (.double vv), .second] [(.double vv), (.ref a5)])) rfl (by rw [hml]; rfl) (argsL := [(.ref a5), (.double vv)]) (rest := []) (lenOf pd__Ljava_lang_String_D_D rfl) rfl (by show 2 * 0 + _ ≤ _; exact Nat.le_of_eq rfl) (hb hby at_145) (fun _ _ => ⟨rfl, e_q, (by decide : 3 + 0 ≤ _), (by decide : 8 + 0 ≤ _)⟩)
        dsimp only [Pt.U, Pt.locs, Pt.cells, Pt.slots] at X10 l10 y10 z10 st10 hQ10
        subst l10 y10 z10
        obtain ⟨rfl, N10, e10⟩ := hQ10
        have NN10 := Fr.app NN6 N10
        rw [hrr] at za fa z0
        have ca2 : Steps p.tables e below (s₁.setTop (entryFrame m #[(.int p1), (.int p2), (.long p3), (.int p4), (.int p5)] maxLocals)) (T10.setTop (mkF m 162 #[.val (.int p1), .val (.int p2), .val (.long p3), .second, .val (.int p4), .val (.int p5), .val (.ref a2), .val (.ref a5), .val (.int mo), .val (.double vv), .second, .val (.double rr), .second] [(.int (cmpValue (FP.dcmp rr (0 : UInt64)) .l))])) := cc1.trans (by
          refine XS.ifYes X6.here hx rfl (pc0 := 47) (pc' := 68) rfl (hb hby at_47) rfl (XT.i0_ne_t m0) (by decide) (by decide) ?_
          refine XS.iload X6.here hx rfl (hb hby at_68) rfl ?_
          refine XT.iconstV X6.here hx rfl ((1 : Int32)) (hb hby at_70) (by decide) ?_
          refine XS.icmpYes X6.here hx rfl (pc0 := 71) (pc' := 82) rfl (hb hby at_71) rfl (XT.ii_ne_t m1) (by decide) (by decide) ?_
          refine XS.iload X6.here hx rfl (hb hby at_82) rfl ?_
          refine XT.iconstV X6.here hx rfl ((2 : Int32)) (hb hby at_84) (by decide) ?_
          refine XS.icmpYes X6.here hx rfl (pc0 := 85) (pc' := 99) rfl (hb hby at_85) rfl (XT.ii_ne_t m2) (by decide) (by decide) ?_
          refine XT.lloadN X6.here hx rfl (hb hby at_99) rfl ?_
          refine Stand.ldc2J X6 hx hown (v := (9223372036854775807 : Int64)) (mvT hZ (hw _ (List.mem_of_getElem? (i := 42) rfl))) rfl (hb hby at_100) ?_
          refine XT.land X6.here hx rfl (hb hby at_103) rfl ?_
          refine XS.l2dS X6.here hx rfl (hb hby at_104) rfl rfl ?_
          refine XS.dconst1 X6.here hx rfl (v := (4607182418800017408 : UInt64)) (hb hby at_105) rfl ?_
          refine XS.daddS X6.here hx rfl (hb hby at_106) rfl (hd0 ▸ own_nn s0.1) hd0 ?_
          refine XS.dstore X6.here hx rfl (hb hby at_107) rfl (l' := #[.val (.int p1), .val (.int p2), .val (.long p3), .second, .val (.int p4), .val (.int p5), .val (.ref a2), .val (.ref a5), .val (.int mo), .unset, .unset, .val (.double d0), .second]) rfl ?_
          refine XS.dload X6.here hx rfl (hb hby at_109) rfl ?_
          refine XS.dload X6.here hx rfl (hb hby at_111) rfl ?_
          refine XS.dmulS X6.here hx rfl (hb hby at_113) rfl (hd1 ▸ own_nn s1.1) hd1 ?_
          refine XS.dstore X6.here hx rfl (hb hby at_114) rfl (l' := #[.val (.int p1), .val (.int p2), .val (.long p3), .second, .val (.int p4), .val (.int p5), .val (.ref a2), .val (.ref a5), .val (.int mo), .unset, .unset, .val (.double d1), .second]) rfl ?_
          refine XS.dload X6.here hx rfl (hb hby at_116) rfl ?_
          refine XS.dload X6.here hx rfl (hb hby at_118) rfl ?_
          refine XS.dmulS X6.here hx rfl (hb hby at_120) rfl (hd2 ▸ own_nn s2.1) hd2 ?_
          refine XS.dstore X6.here hx rfl (hb hby at_121) rfl (l' := #[.val (.int p1), .val (.int p2), .val (.long p3), .second, .val (.int p4), .val (.int p5), .val (.ref a2), .val (.ref a5), .val (.int mo), .unset, .unset, .val (.double d2), .second]) rfl ?_
          refine XS.dload X6.here hx rfl (hb hby at_123) rfl ?_
          refine XS.dload X6.here hx rfl (hb hby at_125) rfl ?_
          refine XS.dmulS X6.here hx rfl (hb hby at_127) rfl (hd3 ▸ own_nn s3.1) hd3 ?_
          refine XS.dstore X6.here hx rfl (hb hby at_128) rfl (l' := #[.val (.int p1), .val (.int p2), .val (.long p3), .second, .val (.int p4), .val (.int p5), .val (.ref a2), .val (.ref a5), .val (.int mo), .unset, .unset, .val (.double d3), .second]) rfl ?_
          refine XS.dload X6.here hx rfl (hb hby at_130) rfl ?_
          refine XS.dload X6.here hx rfl (hb hby at_132) rfl ?_
          refine XS.dmulS X6.here hx rfl (hb hby at_134) rfl (hd4 ▸ own_nn s4.1) hd4 ?_
          refine XS.dstore X6.here hx rfl (hb hby at_135) rfl (l' := #[.val (.int p1), .val (.int p2), .val (.long p3), .second, .val (.int p4), .val (.int p5), .val (.ref a2), .val (.ref a5), .val (.int mo), .unset, .unset, .val (.double d4), .second]) rfl ?_
          refine XS.dload X6.here hx rfl (hb hby at_137) rfl ?_
          refine XS.dstore X6.here hx rfl (hb hby at_139) rfl (l' := #[.val (.int p1), .val (.int p2), .val (.long p3), .second, .val (.int p4), .val (.int p5), .val (.ref a2), .val (.ref a5), .val (.int mo), .val (.double d4), .second, .val (.double d4), .second]) rfl ?_
          show Steps p.tables e below (T6.setTop (mkF m 141 #[.val (.int p1), .val (.int p2), .val (.long p3), .second, .val (.int p4), .val (.int p5), .val (.ref a2), .val (.ref a5), .val (.int mo), .val (.double d4), .second, .val (.double d4), .second] [])) _
          rw [hvv]
          refine XS.aload X6.here hx rfl (hb hby at_141) rfl rfl ?_
          refine XS.dload X6.here hx rfl (hb hby at_143) rfl ?_
          refine st10 _ ?_
          show Steps p.tables e below (T10.setTop (mkF m 148 #[.val (.int p1), .val (.int p2), .val (.long p3), .second, .val (.int p4), .val (.int p5), .val (.ref a2), .val (.ref a5), .val (.int mo), .val (.double vv), .second, .val (.double vv), .second] [(.double (vv &&& 0x7fffffffffffffff))])) _
          rw [hrr]
          refine XS.dstore X10.here hx rfl (hb hby at_148) rfl (l' := #[.val (.int p1), .val (.int p2), .val (.long p3), .second, .val (.int p4), .val (.int p5), .val (.ref a2), .val (.ref a5), .val (.int mo), .val (.double vv), .second, .val (.double rr), .second]) rfl ?_
          refine XS.dload X10.here hx rfl (hb hby at_150) rfl ?_
          refine XS.dload X10.here hx rfl (hb hby at_152) rfl ?_
          refine XS.dcmpS X10.here hx rfl (hb hby at_154) rfl (own_eqZ fa.ne_nan hy.1.ne_nan za _) ?_
          refine XS.ifNo X10.here hx rfl (hb hby at_155) rfl (XT.i0_ne_f rfl) ?_
          refine XS.dload X10.here hx rfl (hb hby at_158) rfl ?_
          refine XS.dconst0 X10.here hx rfl (v := (0 : UInt64)) (hb hby at_160) rfl ?_
          refine XS.dcmpS X10.here hx rfl (hb hby at_161) rfl rfl ?_
          exact Steps.refl _)
        by_cases hz : own_z rr = 0
        ·
          have hr0 := z0 hz
          subst hr0
          have cz3 : Steps p.tables e below (s₁.setTop (entryFrame m #[(.int p1), (.int p2), (.long p3), (.int p4), (.int p5)] maxLocals)) (T10.setTop (mkF m 179 #[.val (.int p1), .val (.int p2), .val (.long p3), .second, .val (.int p4), .val (.int p5), .val (.ref a2), .val (.ref a5), .val (.int mo), .val (.double vv), .second, .val (.double (0 : UInt64)), .second] [(.int (1 : Int32))])) := ca2.trans (by
            refine XS.ifNo X10.here hx rfl (hb hby at_162) rfl (XT.i0_ne_f (by decide +kernel)) ?_
            refine XS.dconst1 X10.here hx rfl (v := (4607182418800017408 : UInt64)) (hb hby at_165) rfl ?_
            refine XS.dload X10.here hx rfl (hb hby at_166) rfl ?_
            refine XS.ddivS X10.here hx rfl (hb hby at_168) rfl (by unfold Fl.NoNaN64; decide +kernel) rfl ?_
            refine XS.dconst0 X10.here hx rfl (v := (0 : UInt64)) (hb hby at_169) rfl ?_
            refine XS.dcmpS X10.here hx rfl (hb hby at_170) rfl rfl ?_
            refine XS.ifNo X10.here hx rfl (hb hby at_171) rfl (XT.i0_le_f (by decide +kernel)) ?_
            refine XT.iconstV X10.here hx rfl ((1 : Int32)) (hb hby at_174) (by decide) ?_
            refine XS.goto X10.here hx rfl (pc0 := 175) (pc' := 179) rfl (hb hby at_175) (by decide) (by decide) ?_
            exact Steps.refl _)
          obtain ⟨fs, hr, hrun, hended, hW, hsame⟩ := X10.leave (v := some (.int (1 : Int32))) (fun h => by rw [Bd.returns] at h; cases h)
          refine ⟨_, _, cz3.trans ?_, hrun, hended, _, _, rfl, ?_, ⟨_, rfl⟩, hW, hsame.mono (by decide) (by decide)⟩
          · exact retN X10 hx (t := .boolean) Bd.returns (by simp) (hb hby at_179) hr
          · show Q0 h0 n0 _ T10.heap _
            exact ⟨rfl, NN10⟩
        ·
          have ne : ¬ cmpValue (FP.dcmp rr 0) .l = 0 := by
            have g := own_gtZ fa.ne_nan own_n0 (show own_z 0 < own_z rr by have := hy.2; rw [own_z0]; omega) .l
            rw [g]; decide
          have cz3 : Steps p.tables e below (s₁.setTop (entryFrame m #[(.int p1), (.int p2), (.long p3), (.int p4), (.int p5)] maxLocals)) (T10.setTop (mkF m 179 #[.val (.int p1), .val (.int p2), .val (.long p3), .second, .val (.int p4), .val (.int p5), .val (.ref a2), .val (.ref a5), .val (.int mo), .val (.double vv), .second, .val (.double rr), .second] [(.int (1 : Int32))])) := ca2.trans (by
            refine XS.ifYes X10.here hx rfl (pc0 := 162) (pc' := 174) rfl (hb hby at_162) rfl (XT.i0_ne_t ne) (by decide) (by decide) ?_
            refine XT.iconstV X10.here hx rfl ((1 : Int32)) (hb hby at_174) (by decide) ?_
            refine XS.goto X10.here hx rfl (pc0 := 175) (pc' := 179) rfl (hb hby at_175) (by decide) (by decide) ?_
            exact Steps.refl _)
          obtain ⟨fs, hr, hrun, hended, hW, hsame⟩ := X10.leave (v := some (.int (1 : Int32))) (fun h => by rw [Bd.returns] at h; cases h)
          refine ⟨_, _, cz3.trans ?_, hrun, hended, _, _, rfl, ?_, ⟨_, rfl⟩, hW, hsame.mono (by decide) (by decide)⟩
          · exact retN X10 hx (t := .boolean) Bd.returns (by simp) (hb hby at_179) hr
          · show Q0 h0 n0 _ T10.heap _
            exact ⟨rfl, NN10⟩
set_option maxRecDepth 65536 in
set_option maxHeartbeats 40000000 in
theorem comes_1 {Post : Tables → Env → Array Value → State → Outcome → State → Prop} (hpost : ∀ tb e args s v u, (limb_1_1.after args s (.returned v) u = true ∧ limb_1_2.after args s (.returned v) u = true ∧ True) → FrameEnd s (.returned v) u (Jvm.fieldLocs frame_1_writes args s ++ Jvm.arrayLocs frame_1_arrays args s ++ Jvm.staticLocs frame_1_statics s) 16 128 → Post tb e args s (.returned v) u) :
    ArmFor flags0 classFile x code maxLocals ret World_1 tables_1 room_1 Calls_1 rest_1 Pre_1 Post := by
  intro l hfl _ _ p e ha hc hk s m args below hf hA hF happ hP
  obtain ⟨hcalls, hrest, hpre⟩ := hP
  obtain ⟨-, -, -, hnamed, -, -, -, hat⟩ := (Spec.applies_iff hf).mp happ
  obtain ⟨hg, hn⟩ := and_e (Cond.before_iff.mp (show (Jvm.Cond.and given_1 narrow_1).before args s = true from hpre))
  obtain ⟨h1, hA0⟩ := and_e hg
  obtain ⟨hI0, hA1⟩ := and_e hA0
  obtain ⟨hI1, hA2⟩ := and_e hA1
  obtain ⟨hI2, hA3⟩ := and_e hA2
  obtain ⟨hI3, hA4⟩ := and_e hA3
  obtain ⟨w0, w1, w2, w3, w4, rfl⟩ : ∃ w0 w1 w2 w3 w4 : Value, args = #[w0, w1, w2, w3, w4] := by
    have hs : args.size = 5 := by simpa [Cond.value, given_1] using h1
    obtain ⟨L⟩ := args
    match L, hs with
    | [w0, w1, w2, w3, w4], _ => exact ⟨w0, w1, w2, w3, w4, rfl⟩
  have hw := fun d (hd : d ∈ tables_1) => atoms_spec (ws := Jvm.Cond.code x code maxLocals ret :: tables_1) hat d (List.mem_cons_of_mem _ hd)
  have hfit : Fit s := fun {y c} hc i hi => by
    obtain ⟨ha, rfl⟩ := Array.getElem?_eq_some_iff.mp hc
    have q := List.all_eq_true.mp ((Array.all_eq_true_iff_forall_mem.mp hF) _ (Array.getElem_mem ha)) i (List.mem_range.mpr hi)
    simpa [Array.getElem?_eq_getElem hi] using q
  obtain ⟨i0, ei0⟩ := is_v hI0
  obtain rfl : w0 = (.int i0) := Option.some.inj ei0
  obtain ⟨i1, ei1⟩ := is_v hI1
  obtain rfl : w1 = (.int i1) := Option.some.inj ei1
  obtain ⟨i2, ei2⟩ := isL_v hI2
  obtain rfl : w2 = (.long i2) := Option.some.inj ei2
  obtain ⟨i3, ei3⟩ := is_v hI3
  obtain rfl : w3 = (.int i3) := Option.some.inj ei3
  obtain ⟨i4, ei4⟩ := is_v hA4
  obtain rfl : w4 = (.int i4) := Option.some.inj ei4
  obtain ⟨hsets, hown0⟩ := atoms_of _ (rest_1_c_eq ▸ (show rest_1_c.before _ s = true from hrest))
  have n5 := not_v (Cond.before_iff.mp (hsets _ (List.mem_of_getElem? (i := 2) rfl)))
  obtain ⟨iC, eC⟩ := is_v (Cond.before_iff.mp (hsets _ (List.mem_of_getElem? (i := 1) rfl)))
  have SC : Sta s s.heap "java/lang/String" "COMPACT_STRINGS" "Z" (.int iC) := Sta.start eC (Or.inl (hsets _ (List.mem_of_getElem? (i := 0) rfl)))
  have cC : ¬ (iC = (0 : Int32)) := gotF (Cond.eq_ints eC (Term.int_eval (0))) n5
  obtain ⟨n, o, h1, h2, h3, _, L, rfl, ⟨rfl, N⟩, hq⟩ := rm0 l s _ hw tables_1 i0 i1 i2 i3 i4 iC s.heap s.heap.size (Nat.le_refl _) SC cC (Old.start s) p e ha hc hk s m _ below hf ((Spec.applies_iff_loose hf).mp happ).1 ⟨rfl, State.Warmed39.refl s, rfl⟩ trivial
  refine ⟨n, _, h1, h2, h3, hpost _ _ _ _ _ _ ⟨Cond.after_iff.mpr rfl, Cond.after_iff.mpr (eq_i res_at (Term.int_eval (1)) rfl), trivial⟩ ⟨hq.1, hq.2.1, (hq.2.2.sift fun y hy => Or.inr (N y hy)).mono (by decide) (by decide)⟩⟩
theorem main_1_1 : Claimed_1_1 := comes_1 fun _ _ _ _ _ _ h hF => ⟨h.1, hF⟩
theorem main_1_2 : Claimed_1_2 := comes_1 fun _ _ _ _ _ _ h hF => ⟨h.2.1, hF⟩
end Jvm.Pilot.@@N@@
namespace Jvm.Pilot.@@N@@
open Jvm Jvm.ClassFile Sem Op Lib Jvm.Free Jvm.Stand Jvm.Pilot.@@N@@.Jvm.D
/-! MADE BY PROGRAM (witnessworld.py) out of the Statement's table words and the real class files: 21 classes; the members and pool entries that the words name. The judged class is class 1, her method 1. -/
namespace start1
open Jvm.ClassFile
def u (s : String) : CpInfo := .utf8 (stringToUtf16 s)
/-- a pool by its gaps: so many unusable entries, then the entry; so many at the end -/
def gap : Nat → List CpInfo → List CpInfo
  | 0, r => r
  | n + 1, r => .unusable :: gap n r
def poolList (es : List (Nat × CpInfo)) (last : Nat) : List CpInfo := es.foldr (fun e r => gap e.1 (e.2 :: r)) (gap last [])
def pool (es : List (Nat × CpInfo)) (last : Nat) : Array CpInfo := ⟨poolList es last⟩
def fileOf (pool : Array CpInfo) (this : Nat) (attrs : Array Attribute := #[]) (ms : Array MethodInfo := #[]) (fl : Nat := 33) (sup : Nat := 0) (ifs : Array Nat := #[]) (fds : Array FieldInfo := #[]) : ClassFile where
  minorVersion := 0
  majorVersion := 65
  constantPool := pool
  accessFlags := fl
  thisClass := this
  superClass := sup
  interfaces := ifs
  fields := fds
  methods := ms
  attributes := attrs
def plain (name : String) (sup : Option ClassId) : Class where
  name := name
  kind := .ordinary
  loader := none
  accessFlags := 33
  super := sup
  interfaces := #[]
  cf := none
  fields := #[]
  methods := #[]
  instanceTypes := #[]
  staticTypes := #[]
  resolved := #[]
  callSites := []
  init := .initialized
  statics := none
  mirror := none

def pool0 : Array CpInfo := pool [(5, u "<init>"), (0, u "()V"), (1, .class_ 10), (1, u "java/lang/Object")] 113

def k0c0 : Code := { maxStack := 0, maxLocals := 1, code := object_method_1_code, exceptionTable := #[], attributes := #[] }
def k0m0 : Method := { name := "<init>", desc := "()V", sig := { parameters := [], returnType := none }, accessFlags := 1, code := some k0c0 }
/-- java/lang/Object -/
def k0 : Class := { plain "java/lang/Object" none with
  accessFlags := 33
  interfaces := #[]
  cf := some (fileOf pool0 8 #[] #[{ accessFlags := 1, nameIndex := 5, descriptorIndex := 6, attributes := #[] }] 33 0 #[] #[])
  fields := #[]
  methods := #[k0m0]
  instanceTypes := #[]
  staticTypes := #[]
  resolved := Array.replicate 124 none
  statics := none }

def pool1 : Array CpInfo := pool [(2, .class_ 4), (1, u "java/lang/Object"), (0, u "<init>"), (0, u "()V"), (0, .class_ 8), (0, u "java/lang/String"), (0, .methodref 7 10), (0, .nameAndType 5 11), (0, u "([C)V"), (0, .integer 2147483647), (0, .integer 65535), (0, .double 9223372036854775808), (3, .long 9223372036854775807), (1, .methodref 21 22), (0, .class_ 23), (0, .nameAndType 24 25), (0, u "com/example/bound/bound/curve/Parameters"), (0, u "nonNegative"), (0, u "(Ljava/lang/String;D)D"), (0, .class_ 27), (0, u "com/example/bound/bound/curve/ParametersNonNegativePinLaw"), (2, u "law"), (0, u "(IIJII)Z")] 5

def k1m0 : Method := { name := "<init>", desc := "()V", sig := { parameters := [], returnType := none }, accessFlags := 2, code := none }
def k1c1 : Code := { maxStack := 5, maxLocals := 13, code := code, exceptionTable := #[], attributes := #[] }
def k1m1 : Method := { name := "law", desc := "(IIJII)Z", sig := { parameters := [.int, .int, .long, .int, .int], returnType := some .boolean }, accessFlags := 9, code := some k1c1 }
/-- com/example/bound/bound/curve/ParametersNonNegativePinLaw -/
def k1 : Class := { plain "com/example/bound/bound/curve/ParametersNonNegativePinLaw" (some 0) with
  accessFlags := 49
  interfaces := #[]
  cf := some (fileOf pool1 26 #[] #[{ accessFlags := 2, nameIndex := 5, descriptorIndex := 6, attributes := #[] }, { accessFlags := 9, nameIndex := 30, descriptorIndex := 31, attributes := #[] }] 49 2 #[] #[])
  fields := #[]
  methods := #[k1m0, k1m1]
  instanceTypes := #[]
  staticTypes := #[]
  resolved := Array.replicate 37 none
  statics := none }

def pool2 : Array CpInfo := pool [(1, .class_ 2), (0, u "java/io/Serializable"), (0, .class_ 4), (0, u "java/lang/Object")] 2

/-- java/io/Serializable -/
def k2 : Class := { plain "java/io/Serializable" (some 0) with
  accessFlags := 1537
  interfaces := #[]
  cf := some (fileOf pool2 1 #[] #[] 1537 3 #[] #[])
  fields := #[]
  methods := #[]
  instanceTypes := #[]
  staticTypes := #[]
  resolved := Array.replicate 7 none
  statics := none }

def pool3 : Array CpInfo := pool [(1, .class_ 2), (0, u "java/lang/Comparable"), (0, .class_ 4), (0, u "java/lang/Object")] 7

/-- java/lang/Comparable -/
def k3 : Class := { plain "java/lang/Comparable" (some 0) with
  accessFlags := 1537
  interfaces := #[]
  cf := some (fileOf pool3 1 #[] #[] 1537 3 #[] #[])
  fields := #[]
  methods := #[]
  instanceTypes := #[]
  staticTypes := #[]
  resolved := Array.replicate 12 none
  statics := none }

def pool4 : Array CpInfo := pool [(2, .class_ 4), (1, u "java/lang/CharSequence"), (42, .class_ 48), (0, u "java/lang/CharSequence$1CodePointIterator"), (10, .class_ 60), (0, u "java/lang/CharSequence$1CharIterator"), (5, .class_ 67), (0, u "java/lang/Object")] 63

/-- java/lang/CharSequence -/
def k4 : Class := { plain "java/lang/CharSequence" (some 0) with
  accessFlags := 1537
  interfaces := #[]
  cf := some (fileOf pool4 2 #[.nestMembers #[47, 59]] #[] 1537 66 #[] #[])
  fields := #[]
  methods := #[]
  instanceTypes := #[]
  staticTypes := #[]
  resolved := Array.replicate 131 none
  statics := none }

def pool5 : Array CpInfo := pool [(1, .class_ 2), (0, u "java/lang/constant/Constable"), (0, .class_ 4), (0, u "java/lang/Object")] 6

/-- java/lang/constant/Constable -/
def k5 : Class := { plain "java/lang/constant/Constable" (some 0) with
  accessFlags := 1537
  interfaces := #[]
  cf := some (fileOf pool5 1 #[] #[] 1537 3 #[] #[])
  fields := #[]
  methods := #[]
  instanceTypes := #[]
  staticTypes := #[]
  resolved := Array.replicate 11 none
  statics := none }

def pool6 : Array CpInfo := pool [(1, .class_ 2), (0, u "java/lang/constant/ConstantDesc"), (0, .class_ 4), (0, u "java/lang/Object")] 32

/-- java/lang/constant/ConstantDesc -/
def k6 : Class := { plain "java/lang/constant/ConstantDesc" (some 0) with
  accessFlags := 1537
  interfaces := #[]
  cf := some (fileOf pool6 1 #[] #[] 1537 3 #[] #[])
  fields := #[]
  methods := #[]
  instanceTypes := #[]
  staticTypes := #[]
  resolved := Array.replicate 37 none
  statics := none }

def pool7 : Array CpInfo := pool [(1, .methodref 2 3), (0, .class_ 4), (0, .nameAndType 5 6), (0, u "java/lang/Object"), (0, u "<init>"), (0, u "()V"), (2, .fieldref 10 11), (0, .class_ 12), (0, .nameAndType 13 14), (0, u "java/lang/String"), (0, u "value"), (0, u "[B"), (0, .fieldref 10 16), (0, .nameAndType 17 18), (0, u "coder"), (0, u "B"), (2, u "hash"), (0, u "I"), (2, u "hashIsZero"), (0, u "Z"), (0, .methodref 10 28), (0, .nameAndType 5 29), (0, u "([CIILjava/lang/Void;)V"), (8, .fieldref 10 39), (0, .nameAndType 40 26), (0, u "COMPACT_STRINGS"), (1, .class_ 44), (1, u "java/lang/StringUTF16"), (0, u "compress"), (1, .methodref 42 48), (0, .nameAndType 49 50), (0, u "coderFromArrayLen"), (0, u "([BI)B"), (126, .methodref 42 178), (0, .nameAndType 45 179), (0, u "([CII)[B"), (395, .class_ 576), (0, u "java/lang/CharSequence"), (22, u "CASE_INSENSITIVE_ORDER"), (0, u "Ljava/util/Comparator;"), (409, u "([C)V"), (90, u "serialPersistentFields"), (0, u "[Ljava/io/ObjectStreamField;"), (0, .class_ 1104), (0, u "java/lang/String$CaseInsensitiveComparator"), (1, .class_ 1107), (0, u "java/io/Serializable"), (0, .class_ 1109), (0, u "java/lang/Comparable"), (0, .class_ 1111), (0, u "java/lang/constant/Constable"), (0, .class_ 1113), (0, u "java/lang/constant/ConstantDesc"), (2, u "serialVersionUID"), (0, u "J"), (3, u "REPL"), (0, u "C"), (2, u "LATIN1"), (1, u "UTF16")] 323

def k7m0 : Method := { name := "<init>", desc := "()V", sig := { parameters := [], returnType := none }, accessFlags := 1, code := none }
def k7c1 : Code := { maxStack := 5, maxLocals := 2, code := jdk_42_method_3_code, exceptionTable := #[], attributes := #[] }
def k7m1 : Method := { name := "<init>", desc := "([C)V", sig := { parameters := [(.array .char)], returnType := none }, accessFlags := 1, code := some k7c1 }
def k7c2 : Code := { maxStack := 4, maxLocals := 6, code := jdk_42_method_149_code, exceptionTable := #[], attributes := #[] }
def k7m2 : Method := { name := "<init>", desc := "([CIILjava/lang/Void;)V", sig := { parameters := [(.array .char), .int, .int, (.object "java/lang/Void")], returnType := none }, accessFlags := 2, code := some k7c2 }
/-- java/lang/String -/
def k7 : Class := { plain "java/lang/String" (some 0) with
  accessFlags := 49
  interfaces := #[2, 3, 4, 5, 6]
  cf := some (fileOf pool7 10 #[.nestMembers #[1103]] #[{ accessFlags := 1, nameIndex := 5, descriptorIndex := 6, attributes := #[] }, { accessFlags := 1, nameIndex := 5, descriptorIndex := 1010, attributes := #[] }, { accessFlags := 2, nameIndex := 5, descriptorIndex := 29, attributes := #[] }] 49 2 #[1106, 1108, 575, 1110, 1112] #[{ accessFlags := 18, nameIndex := 13, descriptorIndex := 14, attributes := #[] }, { accessFlags := 18, nameIndex := 17, descriptorIndex := 18, attributes := #[] }, { accessFlags := 2, nameIndex := 21, descriptorIndex := 22, attributes := #[] }, { accessFlags := 2, nameIndex := 25, descriptorIndex := 26, attributes := #[] }, { accessFlags := 26, nameIndex := 1116, descriptorIndex := 1117, attributes := #[] }, { accessFlags := 24, nameIndex := 40, descriptorIndex := 26, attributes := #[] }, { accessFlags := 26, nameIndex := 1101, descriptorIndex := 1102, attributes := #[] }, { accessFlags := 26, nameIndex := 1121, descriptorIndex := 1122, attributes := #[] }, { accessFlags := 25, nameIndex := 599, descriptorIndex := 600, attributes := #[] }, { accessFlags := 24, nameIndex := 1125, descriptorIndex := 18, attributes := #[] }, { accessFlags := 24, nameIndex := 1127, descriptorIndex := 18, attributes := #[] }])
  fields := #[{ name := "value", type := (.array .byte), accessFlags := 18, slot := 0, constantValue := 0 }, { name := "coder", type := .byte, accessFlags := 18, slot := 1, constantValue := 0 }, { name := "hash", type := .int, accessFlags := 2, slot := 2, constantValue := 0 }, { name := "hashIsZero", type := .boolean, accessFlags := 2, slot := 3, constantValue := 0 }, { name := "serialVersionUID", type := .long, accessFlags := 26, slot := 0, constantValue := 0 }, { name := "COMPACT_STRINGS", type := .boolean, accessFlags := 24, slot := 1, constantValue := 0 }, { name := "serialPersistentFields", type := (.array (.object "java/io/ObjectStreamField")), accessFlags := 26, slot := 2, constantValue := 0 }, { name := "REPL", type := .char, accessFlags := 26, slot := 3, constantValue := 0 }, { name := "CASE_INSENSITIVE_ORDER", type := (.object "java/util/Comparator"), accessFlags := 25, slot := 4, constantValue := 0 }, { name := "LATIN1", type := .byte, accessFlags := 24, slot := 5, constantValue := 0 }, { name := "UTF16", type := .byte, accessFlags := 24, slot := 6, constantValue := 0 }]
  methods := #[k7m0, k7m1, k7m2]
  instanceTypes := #[(.array .byte), .byte, .int, .boolean]
  staticTypes := #[.long, .boolean, (.array (.object "java/io/ObjectStreamField")), .char, (.object "java/util/Comparator"), .byte, .byte]
  resolved := Array.replicate 1451 none
  statics := some 0 }

def pool8 : Array CpInfo := pool [(6, .class_ 8), (1, u "java/lang/Object"), (0, u "<init>"), (0, u "()V"), (1, .class_ 14), (1, u "java/lang/StringUTF16"), (31, u "$assertionsDisabled"), (0, u "Z"), (13, u "HI_BYTE_SHIFT"), (0, u "I"), (2, u "LO_BYTE_SHIFT"), (49, .methodref 12 116), (0, .nameAndType 117 118), (0, u "compress"), (0, u "([CI[BII)I"), (3, u "([CII)[B"), (138, u "coderFromArrayLen"), (0, u "([BI)B"), (106, .class_ 371), (1, u "java/lang/StringUTF16$LinesSpliterator"), (58, u "MAX_LENGTH"), (196, .class_ 628), (0, u "java/lang/StringUTF16$CodePointsSpliterator"), (0, .class_ 630), (0, u "java/lang/StringUTF16$CharsSpliterator")] 4

def k8m0 : Method := { name := "<init>", desc := "()V", sig := { parameters := [], returnType := none }, accessFlags := 0, code := none }
def k8c1 : Code := { maxStack := 2, maxLocals := 2, code := jdk_52_method_15_code, exceptionTable := #[], attributes := #[] }
def k8m1 : Method := { name := "coderFromArrayLen", desc := "([BI)B", sig := { parameters := [(.array .byte), .int], returnType := some .byte }, accessFlags := 8, code := some k8c1 }
def k8c2 : Code := { maxStack := 5, maxLocals := 6, code := jdk_52_method_16_code, exceptionTable := #[], attributes := #[] }
def k8m2 : Method := { name := "compress", desc := "([CII)[B", sig := { parameters := [(.array .char), .int, .int], returnType := some (.array .byte) }, accessFlags := 9, code := some k8c2 }
def k8c3 : Code := { maxStack := 3, maxLocals := 7, code := jdk_52_method_21_code, exceptionTable := #[], attributes := #[] }
def k8m3 : Method := { name := "compress", desc := "([CI[BII)I", sig := { parameters := [(.array .char), .int, (.array .byte), .int, .int], returnType := some .int }, accessFlags := 9, code := some k8c3 }
/-- java/lang/StringUTF16 -/
def k8 : Class := { plain "java/lang/StringUTF16" (some 0) with
  accessFlags := 48
  interfaces := #[]
  cf := some (fileOf pool8 12 #[.nestMembers #[627, 629, 369]] #[{ accessFlags := 0, nameIndex := 9, descriptorIndex := 10, attributes := #[] }, { accessFlags := 8, nameIndex := 261, descriptorIndex := 262, attributes := #[] }, { accessFlags := 9, nameIndex := 117, descriptorIndex := 122, attributes := #[] }, { accessFlags := 9, nameIndex := 117, descriptorIndex := 118, attributes := #[] }] 48 6 #[] #[{ accessFlags := 26, nameIndex := 61, descriptorIndex := 62, attributes := #[] }, { accessFlags := 26, nameIndex := 65, descriptorIndex := 62, attributes := #[] }, { accessFlags := 24, nameIndex := 430, descriptorIndex := 62, attributes := #[] }, { accessFlags := 4120, nameIndex := 46, descriptorIndex := 47, attributes := #[] }])
  fields := #[{ name := "HI_BYTE_SHIFT", type := .int, accessFlags := 26, slot := 0, constantValue := 0 }, { name := "LO_BYTE_SHIFT", type := .int, accessFlags := 26, slot := 1, constantValue := 0 }, { name := "MAX_LENGTH", type := .int, accessFlags := 24, slot := 2, constantValue := 0 }, { name := "$assertionsDisabled", type := .boolean, accessFlags := 4120, slot := 3, constantValue := 0 }]
  methods := #[k8m0, k8m1, k8m2, k8m3]
  instanceTypes := #[]
  staticTypes := #[.int, .int, .int, .boolean]
  resolved := Array.replicate 635 none
  statics := none }

def pool9 : Array CpInfo := pool [(2, .class_ 4), (1, u "java/lang/Object"), (0, u "<init>"), (0, u "()V"), (2, .double 9218868437227405312), (10, .methodref 21 22), (0, .class_ 23), (0, .nameAndType 24 25), (0, u "java/lang/Math"), (0, u "abs"), (0, u "(D)D"), (1, .class_ 28), (0, u "com/example/bound/bound/curve/Parameters"), (2, u "nonNegative"), (0, u "(Ljava/lang/String;D)D")] 21

def k9m0 : Method := { name := "<init>", desc := "()V", sig := { parameters := [], returnType := none }, accessFlags := 2, code := none }
def k9c1 : Code := { maxStack := 5, maxLocals := 3, code := prog_41_method_2_code, exceptionTable := #[], attributes := #[] }
def k9m1 : Method := { name := "nonNegative", desc := "(Ljava/lang/String;D)D", sig := { parameters := [(.object "java/lang/String"), .double], returnType := some .double }, accessFlags := 8, code := some k9c1 }
/-- com/example/bound/bound/curve/Parameters -/
def k9 : Class := { plain "com/example/bound/bound/curve/Parameters" (some 0) with
  accessFlags := 48
  interfaces := #[]
  cf := some (fileOf pool9 27 #[] #[{ accessFlags := 2, nameIndex := 5, descriptorIndex := 6, attributes := #[] }, { accessFlags := 8, nameIndex := 31, descriptorIndex := 32, attributes := #[] }] 48 2 #[] #[])
  fields := #[]
  methods := #[k9m0, k9m1]
  instanceTypes := #[]
  staticTypes := #[]
  resolved := Array.replicate 54 none
  statics := none }

def pool10 : Array CpInfo := pool [(1, .class_ 2), (0, u "java/lang/Math"), (1, .class_ 6), (1, u "java/lang/Object"), (0, u "<init>"), (0, u "()V"), (5, u "(D)D"), (83, .class_ 100), (1, u "java/lang/Math$RandomNumberGeneratorHolder"), (23, u "abs"), (47, u "negativeZeroFloatBits"), (0, u "J"), (2, u "negativeZeroDoubleBits"), (68, u "$assertionsDisabled"), (0, u "Z"), (91, u "twoToTheDoubleScaleDown"), (0, u "D"), (4, u "twoToTheDoubleScaleUp"), (9, u "E"), (3, u "PI"), (2, u "TAU"), (2, u "DEGREES_TO_RADIANS"), (0, u "RADIANS_TO_DEGREES")] 94

def k10m0 : Method := { name := "<init>", desc := "()V", sig := { parameters := [], returnType := none }, accessFlags := 2, code := none }
def k10c1 : Code := { maxStack := 4, maxLocals := 2, code := jdk_29_method_64_code, exceptionTable := #[], attributes := #[] }
def k10m1 : Method := { name := "abs", desc := "(D)D", sig := { parameters := [.double], returnType := some .double }, accessFlags := 9, code := some k10c1 }
/-- java/lang/Math -/
def k10 : Class := { plain "java/lang/Math" (some 0) with
  accessFlags := 49
  interfaces := #[]
  cf := some (fileOf pool10 1 #[.nestMembers #[98]] #[{ accessFlags := 2, nameIndex := 7, descriptorIndex := 8, attributes := #[] }, { accessFlags := 9, nameIndex := 124, descriptorIndex := 14, attributes := #[] }] 49 4 #[] #[{ accessFlags := 25, nameIndex := 354, descriptorIndex := 339, attributes := #[] }, { accessFlags := 25, nameIndex := 358, descriptorIndex := 339, attributes := #[] }, { accessFlags := 25, nameIndex := 361, descriptorIndex := 339, attributes := #[] }, { accessFlags := 26, nameIndex := 364, descriptorIndex := 339, attributes := #[] }, { accessFlags := 26, nameIndex := 365, descriptorIndex := 339, attributes := #[] }, { accessFlags := 26, nameIndex := 172, descriptorIndex := 173, attributes := #[] }, { accessFlags := 26, nameIndex := 176, descriptorIndex := 173, attributes := #[] }, { accessFlags := 8, nameIndex := 344, descriptorIndex := 339, attributes := #[] }, { accessFlags := 8, nameIndex := 338, descriptorIndex := 339, attributes := #[] }, { accessFlags := 4120, nameIndex := 245, descriptorIndex := 246, attributes := #[] }])
  fields := #[{ name := "E", type := .double, accessFlags := 25, slot := 0, constantValue := 0 }, { name := "PI", type := .double, accessFlags := 25, slot := 1, constantValue := 0 }, { name := "TAU", type := .double, accessFlags := 25, slot := 2, constantValue := 0 }, { name := "DEGREES_TO_RADIANS", type := .double, accessFlags := 26, slot := 3, constantValue := 0 }, { name := "RADIANS_TO_DEGREES", type := .double, accessFlags := 26, slot := 4, constantValue := 0 }, { name := "negativeZeroFloatBits", type := .long, accessFlags := 26, slot := 5, constantValue := 0 }, { name := "negativeZeroDoubleBits", type := .long, accessFlags := 26, slot := 6, constantValue := 0 }, { name := "twoToTheDoubleScaleUp", type := .double, accessFlags := 8, slot := 7, constantValue := 0 }, { name := "twoToTheDoubleScaleDown", type := .double, accessFlags := 8, slot := 8, constantValue := 0 }, { name := "$assertionsDisabled", type := .boolean, accessFlags := 4120, slot := 9, constantValue := 0 }]
  methods := #[k10m0, k10m1]
  instanceTypes := #[]
  staticTypes := #[.double, .double, .double, .double, .double, .long, .long, .double, .double, .boolean]
  resolved := Array.replicate 460 none
  statics := none }

def pool11 : Array CpInfo := pool [(4, .class_ 6), (1, u "java/lang/Object"), (0, u "<init>"), (0, u "()V"), (5, .class_ 16), (1, u "java/lang/StringLatin1"), (104, u "$assertionsDisabled"), (0, u "Z"), (98, .class_ 223), (1, u "java/lang/StringLatin1$LinesSpliterator"), (166, .class_ 391), (0, u "java/lang/StringLatin1$CharsSpliterator")] 3

def k11m0 : Method := { name := "<init>", desc := "()V", sig := { parameters := [], returnType := none }, accessFlags := 0, code := none }
/-- java/lang/StringLatin1 -/
def k11 : Class := { plain "java/lang/StringLatin1" (some 0) with
  accessFlags := 48
  interfaces := #[]
  cf := some (fileOf pool11 14 #[.nestMembers #[390, 221]] #[{ accessFlags := 0, nameIndex := 7, descriptorIndex := 8, attributes := #[] }] 48 4 #[] #[{ accessFlags := 4120, nameIndex := 121, descriptorIndex := 122, attributes := #[] }])
  fields := #[{ name := "$assertionsDisabled", type := .boolean, accessFlags := 4120, slot := 0, constantValue := 0 }]
  methods := #[k11m0]
  instanceTypes := #[]
  staticTypes := #[.boolean]
  resolved := Array.replicate 395 none
  statics := none }

def pool12 : Array CpInfo := pool [(2, .class_ 4), (1, u "java/lang/Object"), (0, u "<init>"), (0, u "()V"), (17, .class_ 26), (1, u "jdk/internal/util/Preconditions"), (28, .class_ 56), (0, u "jdk/internal/util/Preconditions$4"), (57, .class_ 115), (0, u "jdk/internal/util/Preconditions$1"), (7, u "SIOOBE_FORMATTER"), (0, u "Ljava/util/function/BiFunction;"), (0, .class_ 126), (0, u "jdk/internal/util/Preconditions$2"), (3, u "AIOOBE_FORMATTER"), (0, .class_ 132), (0, u "jdk/internal/util/Preconditions$3"), (3, u "IOOBE_FORMATTER")] 57

def k12m0 : Method := { name := "<init>", desc := "()V", sig := { parameters := [], returnType := none }, accessFlags := 1, code := none }
/-- jdk/internal/util/Preconditions -/
def k12 : Class := { plain "jdk/internal/util/Preconditions" (some 0) with
  accessFlags := 33
  interfaces := #[]
  cf := some (fileOf pool12 24 #[.nestMembers #[55, 131, 125, 114]] #[{ accessFlags := 1, nameIndex := 5, descriptorIndex := 6, attributes := #[] }] 33 2 #[] #[{ accessFlags := 25, nameIndex := 123, descriptorIndex := 124, attributes := #[] }, { accessFlags := 25, nameIndex := 130, descriptorIndex := 124, attributes := #[] }, { accessFlags := 25, nameIndex := 136, descriptorIndex := 124, attributes := #[] }])
  fields := #[{ name := "SIOOBE_FORMATTER", type := (.object "java/util/function/BiFunction"), accessFlags := 25, slot := 0, constantValue := 0 }, { name := "AIOOBE_FORMATTER", type := (.object "java/util/function/BiFunction"), accessFlags := 25, slot := 1, constantValue := 0 }, { name := "IOOBE_FORMATTER", type := (.object "java/util/function/BiFunction"), accessFlags := 25, slot := 2, constantValue := 0 }]
  methods := #[k12m0]
  instanceTypes := #[]
  staticTypes := #[(.object "java/util/function/BiFunction"), (.object "java/util/function/BiFunction"), (.object "java/util/function/BiFunction")]
  resolved := Array.replicate 194 none
  statics := some 1 }

def pool13 : Array CpInfo := pool [(9, u "<init>"), (6, .class_ 18), (1, u "java/lang/Object"), (0, u "()V"), (1, .class_ 23), (1, u "jdk/internal/util/ArraysSupport"), (0, u "LOG2_ARRAY_LONG_INDEX_SCALE"), (0, u "I"), (2, u "U"), (0, u "Ljdk/internal/misc/Unsafe;"), (8, u "BIG_ENDIAN"), (0, u "Z"), (8, u "LOG2_BYTE_BIT_SIZE"), (4, u "LOG2_ARRAY_INT_INDEX_SCALE"), (54, u "JLA"), (0, u "Ljdk/internal/access/JavaLangAccess;"), (11, u "LOG2_ARRAY_BOOLEAN_INDEX_SCALE"), (9, u "LOG2_ARRAY_BYTE_INDEX_SCALE"), (5, u "LOG2_ARRAY_CHAR_INDEX_SCALE"), (5, u "LOG2_ARRAY_SHORT_INDEX_SCALE"), (18, u "LOG2_ARRAY_FLOAT_INDEX_SCALE"), (24, u "LOG2_ARRAY_DOUBLE_INDEX_SCALE"), (89, u "T_BOOLEAN"), (2, u "T_CHAR"), (1, u "T_FLOAT"), (1, u "T_DOUBLE"), (1, u "T_BYTE"), (1, u "T_SHORT"), (1, u "T_INT"), (1, u "T_LONG"), (1, u "SOFT_MAX_ARRAY_LENGTH")] 83

def k13m0 : Method := { name := "<init>", desc := "()V", sig := { parameters := [], returnType := none }, accessFlags := 2, code := none }
/-- jdk/internal/util/ArraysSupport -/
def k13 : Class := { plain "jdk/internal/util/ArraysSupport" (some 0) with
  accessFlags := 33
  interfaces := #[]
  cf := some (fileOf pool13 21 #[] #[{ accessFlags := 2, nameIndex := 9, descriptorIndex := 19, attributes := #[] }] 33 16 #[] #[{ accessFlags := 24, nameIndex := 28, descriptorIndex := 29, attributes := #[] }, { accessFlags := 26, nameIndex := 38, descriptorIndex := 39, attributes := #[] }, { accessFlags := 25, nameIndex := 121, descriptorIndex := 25, attributes := #[] }, { accessFlags := 25, nameIndex := 131, descriptorIndex := 25, attributes := #[] }, { accessFlags := 25, nameIndex := 137, descriptorIndex := 25, attributes := #[] }, { accessFlags := 25, nameIndex := 143, descriptorIndex := 25, attributes := #[] }, { accessFlags := 25, nameIndex := 53, descriptorIndex := 25, attributes := #[] }, { accessFlags := 25, nameIndex := 24, descriptorIndex := 25, attributes := #[] }, { accessFlags := 25, nameIndex := 162, descriptorIndex := 25, attributes := #[] }, { accessFlags := 25, nameIndex := 187, descriptorIndex := 25, attributes := #[] }, { accessFlags := 26, nameIndex := 48, descriptorIndex := 25, attributes := #[] }, { accessFlags := 25, nameIndex := 277, descriptorIndex := 25, attributes := #[] }, { accessFlags := 25, nameIndex := 280, descriptorIndex := 25, attributes := #[] }, { accessFlags := 25, nameIndex := 282, descriptorIndex := 25, attributes := #[] }, { accessFlags := 25, nameIndex := 284, descriptorIndex := 25, attributes := #[] }, { accessFlags := 25, nameIndex := 286, descriptorIndex := 25, attributes := #[] }, { accessFlags := 25, nameIndex := 288, descriptorIndex := 25, attributes := #[] }, { accessFlags := 25, nameIndex := 290, descriptorIndex := 25, attributes := #[] }, { accessFlags := 25, nameIndex := 292, descriptorIndex := 25, attributes := #[] }, { accessFlags := 26, nameIndex := 108, descriptorIndex := 109, attributes := #[] }, { accessFlags := 25, nameIndex := 294, descriptorIndex := 25, attributes := #[] }])
  fields := #[{ name := "U", type := (.object "jdk/internal/misc/Unsafe"), accessFlags := 24, slot := 0, constantValue := 0 }, { name := "BIG_ENDIAN", type := .boolean, accessFlags := 26, slot := 1, constantValue := 0 }, { name := "LOG2_ARRAY_BOOLEAN_INDEX_SCALE", type := .int, accessFlags := 25, slot := 2, constantValue := 0 }, { name := "LOG2_ARRAY_BYTE_INDEX_SCALE", type := .int, accessFlags := 25, slot := 3, constantValue := 0 }, { name := "LOG2_ARRAY_CHAR_INDEX_SCALE", type := .int, accessFlags := 25, slot := 4, constantValue := 0 }, { name := "LOG2_ARRAY_SHORT_INDEX_SCALE", type := .int, accessFlags := 25, slot := 5, constantValue := 0 }, { name := "LOG2_ARRAY_INT_INDEX_SCALE", type := .int, accessFlags := 25, slot := 6, constantValue := 0 }, { name := "LOG2_ARRAY_LONG_INDEX_SCALE", type := .int, accessFlags := 25, slot := 7, constantValue := 0 }, { name := "LOG2_ARRAY_FLOAT_INDEX_SCALE", type := .int, accessFlags := 25, slot := 8, constantValue := 0 }, { name := "LOG2_ARRAY_DOUBLE_INDEX_SCALE", type := .int, accessFlags := 25, slot := 9, constantValue := 0 }, { name := "LOG2_BYTE_BIT_SIZE", type := .int, accessFlags := 26, slot := 10, constantValue := 0 }, { name := "T_BOOLEAN", type := .int, accessFlags := 25, slot := 11, constantValue := 0 }, { name := "T_CHAR", type := .int, accessFlags := 25, slot := 12, constantValue := 0 }, { name := "T_FLOAT", type := .int, accessFlags := 25, slot := 13, constantValue := 0 }, { name := "T_DOUBLE", type := .int, accessFlags := 25, slot := 14, constantValue := 0 }, { name := "T_BYTE", type := .int, accessFlags := 25, slot := 15, constantValue := 0 }, { name := "T_SHORT", type := .int, accessFlags := 25, slot := 16, constantValue := 0 }, { name := "T_INT", type := .int, accessFlags := 25, slot := 17, constantValue := 0 }, { name := "T_LONG", type := .int, accessFlags := 25, slot := 18, constantValue := 0 }, { name := "JLA", type := (.object "jdk/internal/access/JavaLangAccess"), accessFlags := 26, slot := 19, constantValue := 0 }, { name := "SOFT_MAX_ARRAY_LENGTH", type := .int, accessFlags := 25, slot := 20, constantValue := 0 }]
  methods := #[k13m0]
  instanceTypes := #[]
  staticTypes := #[(.object "jdk/internal/misc/Unsafe"), .boolean, .int, .int, .int, .int, .int, .int, .int, .int, .int, .int, .int, .int, .int, .int, .int, .int, .int, (.object "jdk/internal/access/JavaLangAccess"), .int]
  resolved := Array.replicate 378 none
  statics := none }

def pool14 : Array CpInfo := pool [(1, u "java/lang/Cloneable"), (0, .class_ 1), (0, u "java/lang/Object"), (0, .class_ 3)] 3

/-- java/lang/Cloneable -/
def k14 : Class := { plain "java/lang/Cloneable" (some 0) with
  accessFlags := 1537
  interfaces := #[]
  cf := some (fileOf pool14 2 #[] #[] 1537 4 #[] #[])
  fields := #[]
  methods := #[]
  instanceTypes := #[]
  staticTypes := #[]
  resolved := Array.replicate 8 none
  statics := none }

/-- the primitive byte -/
def k15 : Class := { plain "byte" none with kind := .primitive 'B', accessFlags := 0x411 }
/-- [B -/
def k16 : Class := { plain "[B" (some 0) with kind := .array 15 .byte, interfaces := #[14, 2], accessFlags := 1041 }

/-- the primitive char -/
def k17 : Class := { plain "char" none with kind := .primitive 'C', accessFlags := 0x411 }
/-- [C -/
def k18 : Class := { plain "[C" (some 0) with kind := .array 17 .char, interfaces := #[14, 2], accessFlags := 1041 }

/-- the primitive int -/
def k19 : Class := { plain "int" none with kind := .primitive 'I', accessFlags := 0x411 }
/-- [I -/
def k20 : Class := { plain "[I" (some 0) with kind := .array 19 .int, interfaces := #[14, 2], accessFlags := 1041 }

def heap : Heap := #[{ cls := 7, slots := #[.long 0, .int 1, .null, .int 0, .null, .int 0, .int 0], vm := .statics 7 },
  { cls := 12, slots := #[.null, .null, .null], vm := .statics 12 }]
def classes : Array Class := #[k0, k1, k2, k3, k4, k5, k6, k7, k8, k9, k10, k11, k12, k13, k14, k15, k16, k17, k18, k19, k20]
def interned : List (Array UInt16 × Addr) := []
def slotsUsed : Nat := 10
def theMethod : MethodId := ⟨1, 1⟩
def args0 : Array Value := #[.int 5, .int 9, .long 3, .int 1, .int 65]
def aboutOver (below : List Frame) : State where
  vm := { classes := classes, interned := interned.toArray }
  heap := heap
  slotsUsed := slotsUsed
  threads := #[{ frames := .invoking theMethod args0 :: below }]
def below0 : List Frame := [.native { method := ⟨0, 0⟩, args := #[] }]
def about1 : State := aboutOver below0
def p0 : Program := .bare "" "" ""
def e0 : Env := launch0.env 0 0 0
theorem w_frames : about1.frames = Frame.invoking theMethod args0 :: below0 := rfl
set_option maxRecDepth 65536 in
theorem w_args : argsFit about1.vm theMethod args0 = true := by decide +kernel
set_option maxRecDepth 65536 in
theorem w_heap : heapFits about1 = true := by decide +kernel
set_option maxRecDepth 65536 in
theorem w_runnable : about1.curStatus? = some .runnable := by decide +kernel
set_option maxRecDepth 65536 in
theorem w_alone : about1.alone = true := by decide +kernel
set_option maxRecDepth 65536 in
theorem w_named : about1.methodNamed? x = some theMethod := by decide +kernel
set_option maxRecDepth 65536 in
theorem w_hears : about1.hears theMethod below0 = true := by decide +kernel
set_option maxRecDepth 65536 in
theorem w_ripe : about1.ripe theMethod args0 below0 = true := by decide +kernel
theorem w_running : about1.status = .running := rfl
set_option maxRecDepth 65536 in
theorem w_room : about1.hasRoom e0.platform room_1 = true :=
  launch0.hasRoom_least _ room_1 (by decide +kernel) (by decide +kernel) (by decide +kernel) (by decide +kernel) (by decide +kernel) (by decide +kernel)
theorem allAtoms_all (ts : List Jvm.Cond) (a : Array Jvm.Value) (st : Jvm.State) : (allAtoms ts).before a st = ts.all (fun c => c.before a st) := by
  induction ts with
  | nil => rfl
  | cons c t ih =>
    show (Jvm.Cond.and c (allAtoms t)).before a st = _
    rw [Jvm.Cond.before_and, ih, List.all_cons]
def words1 : List Jvm.Cond := Jvm.Cond.code x code maxLocals ret :: tables_1
/-- a 'code' word, met by the world's own term for the bytes: nothing is compared byte by byte -/
theorem code_word {y : MethodName} {bytes : ByteArray} {mx : Nat} {rt : Option FieldType} {a : Array Value} {s : State} {m : MethodId} {meth : Method} {c : Code} (h1 : s.methodNamed? y = some m) (h2 : s.vm.method? m = some meth) (h3 : meth.code = some c) (h4 : c.code = bytes)
    (h5 : (c.maxLocals == mx && c.exceptionTable.isEmpty && decide (c.maxStack ≤ mostOperands) && decide (meth.sig.returnType = rt) && !meth.locks && decide (parseMethodDescriptor y.desc = some meth.sig)) = true) : (Jvm.Cond.code y bytes mx rt).before a s = true := by
  simp only [Bool.and_eq_true, beq_iff_eq, Bool.not_eq_true', decide_eq_true_eq] at h5
  obtain ⟨⟨⟨⟨⟨g1, g2⟩, g3⟩, g4⟩, g5⟩, g6⟩ := h5
  simp [Cond.before, Cond.holds, Cond.value, h1, h2, h3, h4, g1, g2, g3, g4, g5, g6]
def isCode : Jvm.Cond → Bool
  | .code _ _ _ _ => true
  | _ => false
theorem all_split {L : List Jvm.Cond} {P : Jvm.Cond → Bool} (h1 : L.all (fun c => isCode c || P c) = true) (h2 : ∀ c ∈ L.filter isCode, P c = true) : L.all P = true := by
  refine List.all_eq_true.mpr fun c hc => ?_
  have h := List.all_eq_true.mp h1 c hc
  rcases Bool.eq_false_or_eq_true (isCode c) with hi | hi
  · exact h2 c (List.mem_filter.mpr ⟨hc, hi⟩)
  · simpa [hi] using h
set_option maxRecDepth 65536 in
theorem w_c0 : (Jvm.Cond.code x code maxLocals ret).before args0 about1 = true := code_word (m := ⟨1, 1⟩) (meth := k1m1) (c := k1c1) (by decide +kernel) rfl rfl rfl (by decide +kernel)
set_option maxRecDepth 65536 in
theorem w_c1 : (Jvm.Cond.code ({ cls := "java/lang/String", name := "<init>", desc := "([C)V" } : Jvm.MethodName) jdk_42_method_3_code (2 : Nat) (Option.none : Option Jvm.ClassFile.FieldType)).before args0 about1 = true := code_word (m := ⟨7, 1⟩) (meth := k7m1) (c := k7c1) (by decide +kernel) rfl rfl rfl (by decide +kernel)
set_option maxRecDepth 65536 in
theorem w_c2 : (Jvm.Cond.code ({ cls := "java/lang/String", name := "<init>", desc := "([CIILjava/lang/Void;)V" } : Jvm.MethodName) jdk_42_method_149_code (6 : Nat) (Option.none : Option Jvm.ClassFile.FieldType)).before args0 about1 = true := code_word (m := ⟨7, 2⟩) (meth := k7m2) (c := k7c2) (by decide +kernel) rfl rfl rfl (by decide +kernel)
set_option maxRecDepth 65536 in
theorem w_c3 : (Jvm.Cond.code ({ cls := "java/lang/Object", name := "<init>", desc := "()V" } : Jvm.MethodName) object_method_1_code (1 : Nat) (Option.none : Option Jvm.ClassFile.FieldType)).before args0 about1 = true := code_word (m := ⟨0, 0⟩) (meth := k0m0) (c := k0c0) (by decide +kernel) rfl rfl rfl (by decide +kernel)
set_option maxRecDepth 65536 in
theorem w_c4 : (Jvm.Cond.code ({ cls := "java/lang/StringUTF16", name := "compress", desc := "([CII)[B" } : Jvm.MethodName) jdk_52_method_16_code (6 : Nat) (Option.some (Jvm.ClassFile.FieldType.array Jvm.ClassFile.FieldType.byte))).before args0 about1 = true := code_word (m := ⟨8, 2⟩) (meth := k8m2) (c := k8c2) (by decide +kernel) rfl rfl rfl (by decide +kernel)
set_option maxRecDepth 65536 in
theorem w_c5 : (Jvm.Cond.code ({ cls := "java/lang/StringUTF16", name := "compress", desc := "([CI[BII)I" } : Jvm.MethodName) jdk_52_method_21_code (7 : Nat) (Option.some Jvm.ClassFile.FieldType.int)).before args0 about1 = true := code_word (m := ⟨8, 3⟩) (meth := k8m3) (c := k8c3) (by decide +kernel) rfl rfl rfl (by decide +kernel)
set_option maxRecDepth 65536 in
theorem w_c6 : (Jvm.Cond.code ({ cls := "java/lang/StringUTF16", name := "coderFromArrayLen", desc := "([BI)B" } : Jvm.MethodName) jdk_52_method_15_code (2 : Nat) (Option.some Jvm.ClassFile.FieldType.byte)).before args0 about1 = true := code_word (m := ⟨8, 1⟩) (meth := k8m1) (c := k8c1) (by decide +kernel) rfl rfl rfl (by decide +kernel)
set_option maxRecDepth 65536 in
theorem w_c7 : (Jvm.Cond.code ({ cls := "com/example/bound/bound/curve/Parameters", name := "nonNegative", desc := "(Ljava/lang/String;D)D" } : Jvm.MethodName) prog_41_method_2_code (3 : Nat) (Option.some Jvm.ClassFile.FieldType.double)).before args0 about1 = true := code_word (m := ⟨9, 1⟩) (meth := k9m1) (c := k9c1) (by decide +kernel) rfl rfl rfl (by decide +kernel)
set_option maxRecDepth 65536 in
theorem w_c8 : (Jvm.Cond.code ({ cls := "java/lang/Math", name := "abs", desc := "(D)D" } : Jvm.MethodName) jdk_29_method_64_code (2 : Nat) (Option.some Jvm.ClassFile.FieldType.double)).before args0 about1 = true := code_word (m := ⟨10, 1⟩) (meth := k10m1) (c := k10c1) (by decide +kernel) rfl rfl rfl (by decide +kernel)
def codes1 : List Jvm.Cond := [Jvm.Cond.code x code maxLocals ret, Jvm.Cond.code ({ cls := "java/lang/String", name := "<init>", desc := "([C)V" } : Jvm.MethodName) jdk_42_method_3_code (2 : Nat) (Option.none : Option Jvm.ClassFile.FieldType), Jvm.Cond.code ({ cls := "java/lang/String", name := "<init>", desc := "([CIILjava/lang/Void;)V" } : Jvm.MethodName) jdk_42_method_149_code (6 : Nat) (Option.none : Option Jvm.ClassFile.FieldType), Jvm.Cond.code ({ cls := "java/lang/Object", name := "<init>", desc := "()V" } : Jvm.MethodName) object_method_1_code (1 : Nat) (Option.none : Option Jvm.ClassFile.FieldType), Jvm.Cond.code ({ cls := "java/lang/StringUTF16", name := "compress", desc := "([CII)[B" } : Jvm.MethodName) jdk_52_method_16_code (6 : Nat) (Option.some (Jvm.ClassFile.FieldType.array Jvm.ClassFile.FieldType.byte)), Jvm.Cond.code ({ cls := "java/lang/StringUTF16", name := "compress", desc := "([CI[BII)I" } : Jvm.MethodName) jdk_52_method_21_code (7 : Nat) (Option.some Jvm.ClassFile.FieldType.int), Jvm.Cond.code ({ cls := "java/lang/StringUTF16", name := "coderFromArrayLen", desc := "([BI)B" } : Jvm.MethodName) jdk_52_method_15_code (2 : Nat) (Option.some Jvm.ClassFile.FieldType.byte), Jvm.Cond.code ({ cls := "com/example/bound/bound/curve/Parameters", name := "nonNegative", desc := "(Ljava/lang/String;D)D" } : Jvm.MethodName) prog_41_method_2_code (3 : Nat) (Option.some Jvm.ClassFile.FieldType.double), Jvm.Cond.code ({ cls := "java/lang/Math", name := "abs", desc := "(D)D" } : Jvm.MethodName) jdk_29_method_64_code (2 : Nat) (Option.some Jvm.ClassFile.FieldType.double)]
set_option maxRecDepth 65536 in
theorem codes_eq : words1.filter isCode = codes1 := rfl
theorem w_codes : ∀ c ∈ words1.filter isCode, c.before args0 about1 = true := by
  rw [codes_eq]
  intro c hc
  simp only [codes1, List.mem_cons, List.not_mem_nil, or_false] at hc
  rcases hc with rfl | rfl | rfl | rfl | rfl | rfl | rfl | rfl | rfl
  · exact w_c0
  · exact w_c1
  · exact w_c2
  · exact w_c3
  · exact w_c4
  · exact w_c5
  · exact w_c6
  · exact w_c7
  · exact w_c8
set_option maxRecDepth 65536 in
theorem w_t1 : (words1.take 24).all (fun c => isCode c || c.before args0 about1) = true := by decide +kernel
set_option maxRecDepth 65536 in
theorem w_t2 : (words1.drop 24).all (fun c => isCode c || c.before args0 about1) = true := by decide +kernel
theorem w_tables : (allAtoms (Jvm.Cond.code x code maxLocals ret :: tables_1)).before args0 about1 = true := by
  rw [allAtoms_all]
  show words1.all (fun c => c.before args0 about1) = true
  refine all_split ?_ w_codes
  rw [← List.take_append_drop 24 words1, List.all_append, w_t1, w_t2]
  rfl
set_option maxRecDepth 65536 in
theorem w_rest : rest_1_c.before args0 about1 = true := by decide +kernel
set_option maxRecDepth 65536 in
theorem w_case : (Jvm.Cond.and given_1 narrow_1).before args0 about1 = true := by decide +kernel
theorem w_applies : (headSpec (Jvm.Cond.code x code maxLocals ret :: tables_1) room_1).applies x e0.platform about1 = true :=
  (Spec.applies_iff w_frames).mpr ⟨w_running, w_runnable, w_alone, w_named, w_hears, w_ripe, w_room, w_tables⟩
theorem atStart : AtStart classFile x code maxLocals ret World_1 tables_1 room_1 Calls_1 rest_1 Pre_1 launch0 p0 e0 about1 theMethod args0 below0 :=
  ⟨lists_1, trivial, launch0.admits_env _ _ _, launch0.least_env, fairChoices_fair.cas, fairChoices_fair.clock, w_frames, w_args, w_heap, w_applies, trivial, w_rest, w_case⟩
end start1
theorem witness_1 : WitnessClaimed_1 := ⟨start1.p0, start1.e0, start1.about1, start1.theMethod, start1.args0, start1.below0, start1.atStart⟩
end Jvm.Pilot.@@N@@
