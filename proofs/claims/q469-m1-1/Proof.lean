import JvmDerived
import JvmDerived.Pilot.@@N@@Statement
import JvmDerived.Pilot.@@N@@Code
set_option linter.unusedVariables false
set_option linter.unusedSimpArgs false

namespace Jvm.RoadKit
open Sem ClassFile Op Lib Jvm.Stand Jvm.Free Jvm.LawKit
section New
variable {p : Program} {l : Launch} {e : Env} {R : Room} {s : State} {m : MethodId} {args : Array Value} {below : List Frame} {meth : Method} {c : Code} {T : State} {locs : List Loc} {cells slots : Nat}
theorem retI (X : Stand p l e R s m args below meth c T locs cells slots) (hx : p.tables.exec = Jvm.exec) {pc : Nat} {Ls : Array Slot} {z : Int32} {rest : List Value} (hret : meth.sig.returnType = some .int) (hd : decode c.code pc = .ok (.ireturn, 1)) {fs : List Frame}
    (hl : ∀ (f : JFrame) (acts : List Action), f.method = m → f.locked = none → f.entered = [] → (doReturn e (T.setTop f) acts (some (.int z))).1 = T.setFrames fs) : Steps p.tables e below (T.setTop (mkF m pc Ls (.int z :: rest))) (T.setFrames fs) := by
  have hm' : T.vm.method? m = some meth := X.method'
  have hn : narrow .int (.int z) = .int z := rfl
  show Steps p.tables e below (T.setTop { method := m, pc := pc, locals := Ls, stack := _ :: rest, locked := none }) _
  jvm_step X.here [X.here.top, hx, hd, hm', hret, hn]
  first | (intro acts; rw [hl _ acts rfl rfl rfl]) | rw [hl _ _ rfl rfl rfl]
  exact Steps.refl _
theorem retD (X : Stand p l e R s m args below meth c T locs cells slots) (hx : p.tables.exec = Jvm.exec) {pc : Nat} {Ls : Array Slot} {z : UInt64} {rest : List Value} (hret : meth.sig.returnType = some .double) (hd : decode c.code pc = .ok (.dreturn, 1)) {fs : List Frame}
    (hl : ∀ (f : JFrame) (acts : List Action), f.method = m → f.locked = none → f.entered = [] → (doReturn e (T.setTop f) acts (some (.double z))).1 = T.setFrames fs) : Steps p.tables e below (T.setTop (mkF m pc Ls (.double z :: rest))) (T.setFrames fs) := by
  have hm' : T.vm.method? m = some meth := X.method'
  have hn : narrow .double (.double z) = .double z := rfl
  show Steps p.tables e below (T.setTop { method := m, pc := pc, locals := Ls, stack := _ :: rest, locked := none }) _
  jvm_step X.here [X.here.top, hx, hd, hm', hret, hn]
  first | (intro acts; rw [hl _ acts rfl rfl rfl]) | rw [hl _ _ rfl rfl rfl]
  exact Steps.refl _
end New
end Jvm.RoadKit

namespace Jvm.Pilot.@@N@@
section OwnFloat
open Jvm.FP Jvm.FP.Core
/-- a double's value in units of 2^-1074 -/
def own_z (a : UInt64) : Int := zval b64 (val64 a)
def own_u : Int := ((2 ^ 1074 : Nat) : Int)
theorem own_ac1 (s l u : Int) : s * l * u * u = s * u * (l * u) := by ac_rfl
theorem own_ac2 (l u d : Int) : l * u * (d * u) = l * d * (u * u) := by ac_rfl
theorem own_ac3 (n u p : Int) : n * u * u * p = n * p * (u * u) := by ac_rfl
theorem own_u_pos : 0 < own_u := Int.natCast_pos.mpr (Nat.two_pow_pos _)
theorem own_p_pos (k : Nat) : (0 : Int) < 2 ^ k := Int.pow_pos (by decide)
/-- a is finite and lo ≤ a * 2^k ≤ hi -/
def own_In (k : Nat) (lo hi : Int) (a : UInt64) : Prop := DFin a ∧ lo * own_u ≤ own_z a * 2 ^ k ∧ own_z a * 2 ^ k ≤ hi * own_u
theorem own_rep {k : Nat} (hk : k ≤ 1000) {i : Int} (hi : i.natAbs < 2 ^ 53) : ∃ V, Core.fits b64 V ∧ V ≠ .nan ∧ (∃ s c q, V = .fin s c q) ∧ zval b64 V * 2 ^ k = i * own_u := by
  obtain ⟨c', q', h1, h2⟩ := round_exact good_b64 (decide (i < 0)) (c := i.natAbs) (q := -(k : Int)) hi (by rw [qmin_b64]; omega) (Int.le_trans (by omega) (show (0 : Int) ≤ b64.qmax from by decide))
  refine ⟨round b64 (.fin (decide (i < 0)) i.natAbs (-(k : Int))), round_fits good_b64 _, by rw [h1]; exact Datum.noConfusion, ⟨_, _, _, h1⟩, ?_⟩
  rw [h1]
  show signed (decide (i < 0)) (inUnits c' q' b64.qmin) * 2 ^ k = i * own_u
  rw [h2]
  unfold inUnits
  rw [signed_mul, show signed (decide (i < 0)) i.natAbs = i from by unfold signed; by_cases h : i < 0 <;> simp [h] <;> omega, qmin_b64, show (-(k : Int) - (-1074)).toNat = 1074 - k by omega, Int.mul_assoc]
  have e : (2 : Nat) ^ 1074 = 2 ^ (1074 - k) * 2 ^ k := by rw [← Nat.pow_add]; congr 1; omega
  unfold own_u
  rw [e, Int.natCast_mul, Int.natCast_pow 2 k]
  rfl
theorem own_fin_of {d V W : Datum} (hd : Core.fits b64 d) (hn : d ≠ .nan) (hV : Core.fits b64 V) (fV : ∃ s c q, V = .fin s c q) (hW : Core.fits b64 W) (fW : ∃ s c q, W = .fin s c q) (h1 : zval b64 V ≤ zval b64 d) (h2 : zval b64 d ≤ zval b64 W) : ∃ s c q, d = .fin s c q := by
  obtain ⟨s1, c1, q1, rfl⟩ := fV
  obtain ⟨s2, c2, q2, rfl⟩ := fW
  have t1 : zmag b64 (.fin s1 c1 q1) < b64.tails * 2 ^ (b64.exps - 2) := zmag_lt_top good_b64 hV
  have t2 : zmag b64 (.fin s2 c2 q2) < b64.tails * 2 ^ (b64.exps - 2) := zmag_lt_top good_b64 hW
  cases d with
  | nan => exact absurd rfl hn
  | fin s c q => exact ⟨s, c, q, rfl⟩
  | inf s =>
    exfalso
    have e : zval b64 (.inf s) = signed s (b64.tails * 2 ^ (b64.exps - 2)) := rfl
    rw [e] at h1 h2
    unfold zval at h1 h2
    generalize b64.tails * 2 ^ (b64.exps - 2) = top at *
    generalize zmag b64 (.fin s1 c1 q1) = z1 at *
    generalize zmag b64 (.fin s2 c2 q2) = z2 at *
    generalize sgn (.fin s1 c1 q1) = g1 at *
    generalize sgn (.fin s2 c2 q2) = g2 at *
    cases s <;> cases g1 <;> cases g2 <;> simp [signed] at h1 h2 <;> omega
/-- d is the rounding of num / den -/
def own_Mono (d : Datum) (num den : Int) : Prop := ∀ V, Core.fits b64 V → V ≠ .nan → (num ≤ zval b64 V * den → zval b64 d ≤ zval b64 V) ∧ (zval b64 V * den ≤ num → zval b64 V ≤ zval b64 d)
theorem own_mk {a : UInt64} {num den : Int} (hn : val64 a ≠ .nan) (M : own_Mono (val64 a) num den) (hden : 0 < den) {k : Nat} (hk : k ≤ 1000) {lo hi : Int} (bl : lo.natAbs < 2 ^ 53) (bh : hi.natAbs < 2 ^ 53) (h1 : lo * own_u * den ≤ num * 2 ^ k) (h2 : num * 2 ^ k ≤ hi * own_u * den) : own_In k lo hi a := by
  obtain ⟨V, fV, nV, gV, eV⟩ := own_rep hk bl
  obtain ⟨W, fW, nW, gW, eW⟩ := own_rep hk bh
  have pk := own_p_pos k
  have a1 : zval b64 V ≤ zval b64 (val64 a) := (M V fV nV).2 (by
    refine Int.le_of_mul_le_mul_right ?_ pk
    rw [Int.mul_right_comm, eV]; exact h1)
  have a2 : zval b64 (val64 a) ≤ zval b64 W := (M W fW nW).1 (by
    refine Int.le_of_mul_le_mul_right ?_ pk
    rw [Int.mul_right_comm (zval b64 W), eW]; exact h2)
  refine ⟨own_fin_of (val64_fits a) hn fV gV fW gW a1 a2, ?_, ?_⟩
  · rw [← eV]; exact Int.mul_le_mul_of_nonneg_right a1 (Int.le_of_lt pk)
  · rw [← eW]; exact Int.mul_le_mul_of_nonneg_right a2 (Int.le_of_lt pk)
theorem own_add_mono {a b : UInt64} (ha : DFin a) (hb : DFin b) : own_Mono (val64 (Core.dadd a b)) (own_z a + own_z b) 1 := by
  intro V hV nV
  rw [val64_dadd]
  have fa := val64_fits a
  have fb := val64_fits b
  unfold own_z
  obtain ⟨s, c, q, ea⟩ := ha
  obtain ⟨t, d, r, eb⟩ := hb
  rw [ea] at fa ⊢
  rw [eb] at fb ⊢
  obtain ⟨sg, n, e, e1, e2, e3⟩ := sum_units fa fb
  rw [e1]
  have z : (b64.qmin - b64.qmin).toNat = 0 := by omega
  constructor
  · intro h
    exact zval_round_le good_b64 hV nV (Int.le_refl _) e2 (by rw [e3, z]; simpa using h)
  · intro h
    exact zval_round_ge good_b64 hV nV (Int.le_refl _) e2 (by rw [e3, z]; simpa using h)
theorem own_mul_mono {a b : UInt64} (ha : DFin a) (hb : DFin b) : own_Mono (val64 (Core.dmul a b)) (own_z a * own_z b) own_u := by
  intro V hV nV
  rw [val64_dmul]
  have fa := val64_fits a
  have fb := val64_fits b
  unfold own_z
  obtain ⟨s, c, q, ea⟩ := ha
  obtain ⟨t, d, r, eb⟩ := hb
  rw [ea] at fa ⊢
  rw [eb] at fb ⊢
  obtain ⟨e1, e2, e3⟩ := product_units fa fb
  rw [e1]
  have e4 : signed (s != t) (inUnits (c * d) (q + r) (2 * b64.qmin)) = zval b64 (.fin s c q) * zval b64 (.fin t d r) := by
    rw [e3, signed_xor]; rfl
  have z : (b64.qmin - 2 * b64.qmin).toNat = 1074 := by rw [qmin_b64]; decide
  have z2 : 2 * b64.qmin ≤ b64.qmin := by rw [qmin_b64]; decide
  constructor
  · intro h
    exact zval_round_le good_b64 hV nV z2 e2 (by rw [e4, z]; exact h)
  · intro h
    exact zval_round_ge good_b64 hV nV z2 e2 (by rw [e4, z]; exact h)
theorem own_div_eq {c d : Nat} {q r : Int} (h1 : b64.qmin ≤ q) (h2 : b64.qmin ≤ r) (h3 : r ≤ b64.qmax) {V : Nat} :
    inUnits c (q - r) (-2200) * 2 ^ (r - b64.qmin).toNat = inUnits c q b64.qmin * 2 ^ 2200 ∧ (V * 2 ^ (b64.qmin - (-2200)).toNat * d) * 2 ^ (r - b64.qmin).toNat = V * inUnits d r b64.qmin * 2 ^ 1126 := by
  have e : b64.qmax = 971 := by decide
  rw [qmin_b64] at *
  unfold inUnits
  constructor
  · rw [Nat.mul_assoc, ← Nat.pow_add, Nat.mul_assoc, ← Nat.pow_add]
    congr 2; omega
  · rw [show ((-1074 : Int) - (-2200)).toNat = 1126 from by decide]
    generalize (2 : Nat) ^ 1126 = A
    generalize 2 ^ (r - -1074).toNat = B
    rw [Nat.mul_assoc (V * A), Nat.mul_right_comm]
theorem own_div_mag_le {σ s t u : Bool} {c d c' : Nat} {q r q' : Int} {V : Datum} (hx : Core.fits b64 (.fin s c q)) (hy : Core.fits b64 (.fin t d r)) (hd : 0 < d) (hV : Core.fits b64 V) (hn : V ≠ .nan)
    (h : zmag b64 (.fin s c q) * 2 ^ 1074 ≤ zmag b64 V * zmag b64 (.fin t d r)) : zmag b64 (roundRatio b64 σ c d (q - r)) ≤ zmag b64 V := by
  have e : b64.qmax = 971 := by decide
  have q1 := hx.2.1
  have r1 := hy.2.1
  have r2 := hy.2.2.1
  have m := qmin_b64
  refine zmag_roundRatio_le good_b64 hd hV hn (e0 := -2200) (by omega) (by omega) ?_
  obtain ⟨e1, e2⟩ := own_div_eq (c := c) (d := d) (V := zmag b64 V) q1 r1 r2
  refine Nat.le_of_mul_le_mul_right ?_ (Nat.two_pow_pos (r - b64.qmin).toNat)
  rw [e1, e2]
  have h' : inUnits c q b64.qmin * 2 ^ 1074 ≤ zmag b64 V * inUnits d r b64.qmin := h
  have h'' := Nat.mul_le_mul_right (2 ^ 1126) h'
  rw [Nat.mul_assoc (inUnits c q b64.qmin), ← Nat.pow_add] at h''
  exact h''
theorem own_div_mag_ge {σ s t u : Bool} {c d c' : Nat} {q r q' : Int} {V : Datum} (hx : Core.fits b64 (.fin s c q)) (hy : Core.fits b64 (.fin t d r)) (hd : 0 < d) (hV : Core.fits b64 V)
    (h : zmag b64 V * zmag b64 (.fin t d r) ≤ zmag b64 (.fin s c q) * 2 ^ 1074) : zmag b64 V ≤ zmag b64 (roundRatio b64 σ c d (q - r)) := by
  have e : b64.qmax = 971 := by decide
  have q1 := hx.2.1
  have r1 := hy.2.1
  have r2 := hy.2.2.1
  have m := qmin_b64
  refine zmag_roundRatio_ge good_b64 hd hV (e0 := -2200) (by omega) (by omega) ?_
  obtain ⟨e1, e2⟩ := own_div_eq (c := c) (d := d) (V := zmag b64 V) q1 r1 r2
  refine Nat.le_of_mul_le_mul_right ?_ (Nat.two_pow_pos (r - b64.qmin).toNat)
  rw [e1, e2]
  have h' : zmag b64 V * inUnits d r b64.qmin ≤ inUnits c q b64.qmin * 2 ^ 1074 := h
  have h'' := Nat.mul_le_mul_right (2 ^ 1126) h'
  rw [Nat.mul_assoc (inUnits c q b64.qmin), ← Nat.pow_add] at h''
  exact h''
theorem own_div_mono {a b : UInt64} (ha : DFin a) (hb : DFin b) (hp : 0 < own_z b) : own_Mono (val64 (Core.ddiv a b)) (own_z a * own_u) (own_z b) := by
  intro V hV nV
  rw [val64_ddiv]
  have fa := val64_fits a
  have fb := val64_fits b
  unfold own_z at hp ⊢
  obtain ⟨s, c, q, ea⟩ := ha
  obtain ⟨t, d, r, eb⟩ := hb
  rw [ea] at fa ⊢
  rw [eb] at fb hp ⊢
  have ht : t = false := by
    cases t with
    | false => rfl
    | true => exfalso; unfold zval at hp; simp [sgn, signed] at hp; omega
  subst ht
  have hd : 0 < d := by
    rcases Nat.eq_zero_or_pos d with h | h
    · subst h; exfalso; unfold zval zmag at hp; simp [inUnits, signed, sgn] at hp
    · exact h
  have eq : quotient b64 (.fin s c q) (.fin false d r) = roundRatio b64 (s != false) c d (q - r) := by
    show (if d = 0 then _ else _) = _
    rw [if_neg (by omega)]
  rw [eq]
  have hs : (s != false) = s := by cases s <;> rfl
  rw [hs]
  have le := own_div_mag_le (σ := s) (u := s) (c' := c) (q' := q) fa fb hd hV nV
  have ge := own_div_mag_ge (σ := s) (u := s) (c' := c) (q' := q) fa fb hd hV
  have zb : zval b64 (.fin false d r) = ((zmag b64 (.fin false d r) : Nat) : Int) := rfl
  have zb0 : 0 < zmag b64 (.fin false d r) := by rw [zb] at hp; omega
  have zr : zval b64 (roundRatio b64 s c d (q - r)) = signed s (zmag b64 (roundRatio b64 s c d (q - r))) := by unfold zval; rw [sgn_roundRatio]
  have za : zval b64 (.fin s c q) = signed s (zmag b64 (.fin s c q)) := rfl
  have zv : zval b64 V = signed (sgn V) (zmag b64 V) := rfl
  rw [zr, za, zv, zb]
  unfold own_u
  rw [← signed_mul, ← signed_mul]
  have hz1 : zmag b64 V * zmag b64 (.fin false d r) = 0 → zmag b64 V = 0 := fun h => by rcases Nat.mul_eq_zero.mp h with h | h <;> omega
  have hz2 : zmag b64 (.fin s c q) * 2 ^ 1074 = 0 → zmag b64 (roundRatio b64 s c d (q - r)) = 0 := fun h => by
    have := own_div_mag_le (σ := s) (u := s) (c' := c) (q' := q) (V := .fin false 0 b64.qmin) fa fb hd (zero_fits good_b64 false) Datum.noConfusion (by rw [h]; exact Nat.zero_le _)
    have e0 : zmag b64 (.fin false 0 b64.qmin) = 0 := by unfold zmag inUnits; simp
    omega
  generalize zmag b64 V * zmag b64 (.fin false d r) = vP at *
  generalize zmag b64 (.fin s c q) * 2 ^ 1074 = xP at *
  generalize zmag b64 (roundRatio b64 s c d (q - r)) = R at *
  generalize zmag b64 V = v at *
  generalize sgn V = g at *
  constructor
  · intro h
    cases s <;> cases g <;> simp only [signed, if_true, Bool.false_eq_true, if_false] at h ⊢
    · have := le (by omega); omega
    · have := hz1 (by omega); have := hz2 (by omega); omega
    · omega
    · have := ge (by omega); omega
  · intro h
    cases s <;> cases g <;> simp only [signed, if_true, Bool.false_eq_true, if_false] at h ⊢
    · have := ge (by omega); omega
    · omega
    · have := hz1 (by omega); have := hz2 (by omega); omega
    · have := le (by omega); omega
theorem own_In.fin {k : Nat} {lo hi : Int} {a : UInt64} (h : own_In k lo hi a) : DFin a := h.1
theorem own_In.nn {k : Nat} {lo hi : Int} {a : UInt64} (h : own_In k lo hi a) : Jvm.Free.Fl.NoNaN64 a := Jvm.Free.Fl.val64_no.mpr h.1.ne_nan
theorem own_In.z0 {lo hi : Int} {a : UInt64} (h : own_In 0 lo hi a) : lo * own_u ≤ own_z a ∧ own_z a ≤ hi * own_u := by
  obtain ⟨-, h1, h2⟩ := h
  rw [Int.pow_zero, Int.mul_one] at h1 h2
  exact ⟨h1, h2⟩
theorem own_In.zz {i : Int} {a : UInt64} (h : own_In 0 i i a) : own_z a = i * own_u := by
  have := h.z0; omega
theorem own_In.of_int {i : Int} {a : UInt64} (h : DInt i a) : own_In 0 i i a := by
  unfold DInt at h
  have fa := val64_fits a
  cases e : val64 a with
  | nan => rw [e] at h; exact h.elim
  | inf s => rw [e] at h; exact h.elim
  | fin s c q =>
    rw [e] at h fa
    have q1 := fa.2.1
    rw [qmin_b64] at q1
    have hz : own_z a = i * own_u := by
      unfold own_z own_u
      rw [e]
      show signed s (inUnits c q b64.qmin) = _
      have h' : signed s (c * 2 ^ q.toNat) = i * ((2 ^ (-q).toNat : Nat) : Int) := h
      have e1 : inUnits c q b64.qmin * 2 ^ (-q).toNat = c * 2 ^ q.toNat * 2 ^ 1074 := by
        rw [qmin_b64]
        unfold inUnits
        rw [Nat.mul_assoc, ← Nat.pow_add, Nat.mul_assoc, ← Nat.pow_add]
        congr 2; omega
      have e2 : signed s (inUnits c q b64.qmin) * ((2 ^ (-q).toNat : Nat) : Int) = i * ((2 ^ 1074 : Nat) : Int) * ((2 ^ (-q).toNat : Nat) : Int) := by
        rw [← signed_mul, e1, signed_mul, h', Int.mul_right_comm]
      exact Int.eq_of_mul_eq_mul_right (by have := Nat.two_pow_pos (-q).toNat; omega) e2
    refine ⟨⟨s, c, q, e⟩, ?_, ?_⟩ <;> rw [hz, Int.pow_zero, Int.mul_one] <;> exact Int.le_refl _
theorem own_In.l2d {a : Int64} (h : a.toInt.natAbs ≤ 2 ^ 53) : own_In 0 a.toInt a.toInt (Jvm.FP.l2d a) := own_In.of_int (l2d_int h)
theorem own_In.i2d (a : Int32) : own_In 0 a.toInt a.toInt (Jvm.FP.i2d a) := own_In.of_int (i2d_int a)
theorem own_In.scale {k : Nat} {lo hi : Int} {a : UInt64} (j : Nat) (h : own_In k lo hi a) : own_In (k + j) (lo * 2 ^ j) (hi * 2 ^ j) a := by
  obtain ⟨f, h1, h2⟩ := h
  have p := Int.le_of_lt (own_p_pos j)
  refine ⟨f, ?_, ?_⟩
  · rw [Int.pow_add, ← Int.mul_assoc, Int.mul_right_comm lo]; exact Int.mul_le_mul_of_nonneg_right h1 p
  · rw [Int.pow_add, ← Int.mul_assoc, Int.mul_right_comm hi]; exact Int.mul_le_mul_of_nonneg_right h2 p
theorem own_In.wide {k : Nat} {lo hi lo' hi' : Int} {a : UInt64} (h : own_In k lo hi a) (h1 : lo' ≤ lo) (h2 : hi ≤ hi') : own_In k lo' hi' a := by
  obtain ⟨f, a1, a2⟩ := h
  have p := Int.le_of_lt own_u_pos
  exact ⟨f, Int.le_trans (Int.mul_le_mul_of_nonneg_right h1 p) a1, Int.le_trans a2 (Int.mul_le_mul_of_nonneg_right h2 p)⟩
theorem own_ne_of_fin {a b : UInt64} (ha : DFin a) (hb : DFin b) : val64 (Core.dadd a b) ≠ .nan := (notNaN_iff _).mp (dadd_out ha.notNaN hb)
theorem own_In.add {k : Nat} {l1 h1 l2 h2 : Int} {a b : UInt64} (ha : own_In k l1 h1 a) (hb : own_In k l2 h2 b) (hk : k ≤ 1000) (bl : (l1 + l2).natAbs < 2 ^ 53) (bh : (h1 + h2).natAbs < 2 ^ 53) : own_In k (l1 + l2) (h1 + h2) (Jvm.FP.dadd a b) := by
  refine own_mk (own_ne_of_fin ha.1 hb.1) (own_add_mono ha.1 hb.1) (by decide) hk bl bh ?_ ?_
  · rw [Int.mul_one, Int.add_mul, Int.add_mul]; exact Int.add_le_add ha.2.1 hb.2.1
  · rw [Int.mul_one, Int.add_mul, Int.add_mul]; exact Int.add_le_add ha.2.2 hb.2.2
theorem own_In.mul {k : Nat} {s l h : Int} {a b : UInt64} (ha : own_In 0 s s a) (hs : 0 ≤ s) (hb : own_In k l h b) (hk : k ≤ 1000) (bl : (s * l).natAbs < 2 ^ 53) (bh : (s * h).natAbs < 2 ^ 53) : own_In k (s * l) (s * h) (Jvm.FP.dmul a b) := by
  have e : own_z a * own_z b * 2 ^ k = s * own_u * (own_z b * 2 ^ k) := by rw [ha.zz, Int.mul_assoc]
  have p : 0 ≤ s * own_u := Int.mul_nonneg hs (Int.le_of_lt own_u_pos)
  refine own_mk ((notNaN_iff _).mp (dmul_out ha.1 hb.1)) (own_mul_mono ha.1 hb.1) own_u_pos hk bl bh ?_ ?_
  · rw [e, own_ac1 s l]; exact Int.mul_le_mul_of_nonneg_left hb.2.1 p
  · rw [e, own_ac1 s h]; exact Int.mul_le_mul_of_nonneg_left hb.2.2 p
theorem own_z_nz {d : Int} {b : UInt64} (hb : own_In 0 d d b) (hd : 0 < d) : 0 < own_z b := by rw [hb.zz]; exact Int.mul_pos hd own_u_pos
theorem own_nz {b : UInt64} (h : 0 < own_z b) : ¬ DZero b := by
  rintro ⟨s, q, e⟩
  unfold own_z at h
  rw [e] at h
  unfold zval zmag at h
  simp [inUnits, sgn, signed_zero] at h
theorem own_In.div {k : Nat} {n d l h : Int} {a b : UInt64} (ha : own_In 0 n n a) (hb : own_In 0 d d b) (hd : 0 < d) (hk : k ≤ 1000) (bl : l.natAbs < 2 ^ 53) (bh : h.natAbs < 2 ^ 53) (h1 : l * d ≤ n * 2 ^ k) (h2 : n * 2 ^ k ≤ h * d) : own_In k l h (Jvm.FP.ddiv a b) := by
  have zb := own_z_nz hb hd
  have p : 0 ≤ own_u * own_u := Int.mul_nonneg (Int.le_of_lt own_u_pos) (Int.le_of_lt own_u_pos)
  refine own_mk ((notNaN_iff _).mp (ddiv_out ha.1.notNaN hb.1 (own_nz zb))) (own_div_mono ha.1 hb.1 zb) zb hk bl bh ?_ ?_
  · rw [ha.zz, hb.zz, own_ac2 l, own_ac3 n]
    exact Int.mul_le_mul_of_nonneg_right h1 p
  · rw [ha.zz, hb.zz, own_ac2 h, own_ac3 n]
    exact Int.mul_le_mul_of_nonneg_right h2 p
theorem own_cmpN {a b : UInt64} (ha : val64 a ≠ .nan) (hb : val64 b ≠ .nan) : Jvm.FP.dcmp a b = some (compare (own_z a) (own_z b)) := order_zval good_b64 (val64_fits a) (val64_fits b) ha hb
theorem own_cmp {a b : UInt64} (ha : DFin a) (hb : DFin b) : Jvm.FP.dcmp a b = some (compare (own_z a) (own_z b)) := own_cmpN ha.ne_nan hb.ne_nan
theorem own_ltZ {a b : UInt64} (ha : val64 a ≠ .nan) (hb : val64 b ≠ .nan) (q : own_z a < own_z b) (o : ClassFile.CmpOp) : Op.cmpValue (Jvm.FP.dcmp a b) o = -1 := by
  rw [own_cmpN ha hb, show compare (own_z a) (own_z b) = .lt from by simp [compare, compareOfLessAndEq, q]]; rfl
theorem own_gtZ {a b : UInt64} (ha : val64 a ≠ .nan) (hb : val64 b ≠ .nan) (q : own_z b < own_z a) (o : ClassFile.CmpOp) : Op.cmpValue (Jvm.FP.dcmp a b) o = 1 := by
  have q1 : ¬ own_z a < own_z b := by omega
  have q2 : ¬ own_z a = own_z b := by omega
  rw [own_cmpN ha hb, show compare (own_z a) (own_z b) = .gt from by simp [compare, compareOfLessAndEq, q1, q2]]; rfl
theorem own_eqZ {a b : UInt64} (ha : val64 a ≠ .nan) (hb : val64 b ≠ .nan) (q : own_z a = own_z b) (o : ClassFile.CmpOp) : Op.cmpValue (Jvm.FP.dcmp a b) o = 0 := by
  rw [own_cmpN ha hb, q, compare_self_int]; rfl
theorem own_geZ {a b : UInt64} (ha : val64 a ≠ .nan) (hb : val64 b ≠ .nan) (q : own_z b ≤ own_z a) (o : ClassFile.CmpOp) : ¬ Op.cmpValue (Jvm.FP.dcmp a b) o < 0 := by
  by_cases h : own_z a = own_z b
  · rw [own_eqZ ha hb h]; decide
  · rw [own_gtZ ha hb (by omega)]; decide
theorem own_leZ {a b : UInt64} (ha : val64 a ≠ .nan) (hb : val64 b ≠ .nan) (q : own_z a ≤ own_z b) (o : ClassFile.CmpOp) : ¬ (0 : Int32) < Op.cmpValue (Jvm.FP.dcmp a b) o := by
  by_cases h : own_z a = own_z b
  · rw [own_eqZ ha hb h]; decide
  · rw [own_ltZ ha hb (by omega)]; decide
theorem own_neg_z (a : UInt64) : own_z (Jvm.FP.dneg a) = -own_z a := by
  unfold own_z
  rw [Jvm.FP.val64_dneg, zval_negate]
theorem own_neg_ne {a : UInt64} (h : val64 a ≠ .nan) : val64 (Jvm.FP.dneg a) ≠ .nan := by
  rw [Jvm.FP.val64_dneg]; exact negate_ne_nan h
theorem own_lit {a : UInt64} {i : Int} {c : Nat} {q : Int} (h : val64 a = .fin false c q) (h2 : ((c * 2 ^ q.toNat : Nat) : Int) = i * ((2 ^ (-q).toNat : Nat) : Int)) : own_In 0 i i a := own_In.of_int (show Whole i (val64 a) from by rw [h]; exact h2)
theorem own_In0 : own_In 0 0 0 (0 : UInt64) := own_lit (c := 0) (q := -1074) (by decide +kernel) (by simp)
theorem own_In1 : own_In 0 1 1 (4607182418800017408 : UInt64) := own_lit (c := 4503599627370496) (q := -52) (by decide +kernel) (by decide)
/-- |y| ≤ Double.MAX_VALUE for a finite y -/
theorem own_absle {y : UInt64} (h : Jvm.Free.Fl.Fin64 y) (o : ClassFile.CmpOp) : ¬ (0 : Int32) < Op.cmpValue (Jvm.FP.dcmp (y &&& 0x7fffffffffffffff) 9218868437227405311) o := by
  have hn := Jvm.Free.Fl.abs_toNat y
  have hf := (Jvm.Free.Fl.fin64_iff y).mp h
  have h1 : val64 (y &&& 0x7fffffffffffffff) ≠ .nan := (ne_nan _).mpr (by omega)
  have h2 : val64 (9218868437227405311 : UInt64) ≠ .nan := by decide +kernel
  have k : Jvm.FP.dcmp (y &&& 0x7fffffffffffffff) 9218868437227405311 = some (compare (key b64 (y &&& 0x7fffffffffffffff).toNat) (key b64 (9218868437227405311 : UInt64).toNat)) := cmp_key good_b64 (lt_full64 _) (lt_full64 _) h1 h2
  have e2 : key b64 (9218868437227405311 : UInt64).toNat = 9218868437227405311 := by decide +kernel
  have e1 : key b64 (y &&& 0x7fffffffffffffff).toNat = ((y.toNat % 9223372036854775808 : Nat) : Int) := by
    unfold key mag
    rw [half_b64, hn]
    have : ¬ 2 ^ 63 ≤ y.toNat % 9223372036854775808 := by omega
    rw [show y.toNat % 9223372036854775808 % 2 ^ 63 = y.toNat % 9223372036854775808 from Nat.mod_eq_of_lt (by omega)]
    simp [this, signed]
  rw [k, e1, e2]
  by_cases q1 : ((y.toNat % 9223372036854775808 : Nat) : Int) < 9218868437227405311
  · rw [show compare ((y.toNat % 9223372036854775808 : Nat) : Int) 9218868437227405311 = .lt from by simp only [compare, compareOfLessAndEq, q1, if_true]]; cases o <;> decide
  · have q2 : ((y.toNat % 9223372036854775808 : Nat) : Int) = 9218868437227405311 := by omega
    rw [q2, compare_self_int]; cases o <;> decide
theorem own_In.lt {k : Nat} {l1 h1 l2 h2 : Int} {a b : UInt64} (ha : own_In k l1 h1 a) (hb : own_In k l2 h2 b) (h : h1 < l2) (o : ClassFile.CmpOp) : Op.cmpValue (Jvm.FP.dcmp a b) o = -1 := by
  have q : own_z a < own_z b := by
    refine Int.lt_of_mul_lt_mul_right ?_ (Int.le_of_lt (own_p_pos k))
    exact Int.lt_of_le_of_lt ha.2.2 (Int.lt_of_lt_of_le (Int.mul_lt_mul_of_pos_right h own_u_pos) hb.2.1)
  rw [own_cmp ha.1 hb.1, show compare (own_z a) (own_z b) = .lt from by simp [compare, compareOfLessAndEq, q]]; rfl
theorem own_In.gt {k : Nat} {l1 h1 l2 h2 : Int} {a b : UInt64} (ha : own_In k l1 h1 a) (hb : own_In k l2 h2 b) (h : h2 < l1) (o : ClassFile.CmpOp) : Op.cmpValue (Jvm.FP.dcmp a b) o = 1 := by
  have q : own_z b < own_z a := by
    refine Int.lt_of_mul_lt_mul_right ?_ (Int.le_of_lt (own_p_pos k))
    exact Int.lt_of_le_of_lt hb.2.2 (Int.lt_of_lt_of_le (Int.mul_lt_mul_of_pos_right h own_u_pos) ha.2.1)
  rw [own_cmp ha.1 hb.1, show compare (own_z a) (own_z b) = .gt from by simp [compare, compareOfLessAndEq, (show ¬ own_z a < own_z b by omega), (show ¬ own_z a = own_z b by omega)]]; rfl
theorem own_In.eq {k : Nat} {i : Int} {a b : UInt64} (ha : own_In k i i a) (hb : own_In k i i b) (o : ClassFile.CmpOp) : Op.cmpValue (Jvm.FP.dcmp a b) o = 0 := by
  have q : own_z a = own_z b := by
    refine Int.eq_of_mul_eq_mul_right (Int.ne_of_gt (own_p_pos k)) ?_
    have := ha.2.1; have := ha.2.2; have := hb.2.1; have := hb.2.2
    omega
  rw [own_cmp ha.1 hb.1, q, compare_self_int]; rfl
theorem own_In.le {k : Nat} {l1 h1 l2 h2 : Int} {a b : UInt64} (ha : own_In k l1 h1 a) (hb : own_In k l2 h2 b) (h : h1 ≤ l2) (o : ClassFile.CmpOp) : ¬ (0 : Int32) < Op.cmpValue (Jvm.FP.dcmp a b) o := by
  have q : own_z a ≤ own_z b := by
    refine Int.le_of_mul_le_mul_right ?_ (own_p_pos k)
    exact Int.le_trans ha.2.2 (Int.le_trans (Int.mul_le_mul_of_nonneg_right h (Int.le_of_lt own_u_pos)) hb.2.1)
  rw [own_cmp ha.1 hb.1]
  by_cases q1 : own_z a < own_z b
  · rw [show compare (own_z a) (own_z b) = .lt from by simp [compare, compareOfLessAndEq, q1]]; cases o <;> decide
  · have q2 : own_z a = own_z b := by omega
    rw [q2, compare_self_int]; cases o <;> decide
end OwnFloat
end Jvm.Pilot.@@N@@
namespace Jvm.Pilot.@@N@@
section OwnPrice
open Jvm.FP Jvm.FP.Core
theorem own_sub_mono {a b : UInt64} (ha : DFin a) (hb : DFin b) : own_Mono (val64 (Core.dsub a b)) (own_z a - own_z b) 1 := by
  intro V hV nV
  rw [val64_dsub]
  have fa := val64_fits a
  have fb := val64_fits b
  unfold own_z
  obtain ⟨s, c, q, ea⟩ := ha
  obtain ⟨t, d, r, eb⟩ := hb
  rw [ea] at fa ⊢
  rw [eb] at fb ⊢
  have zn := zval_negate b64 (.fin t d r)
  have fn := negate_fits fb
  have en : negate (.fin t d r) = .fin (!t) d r := rfl
  rw [en] at zn fn ⊢
  obtain ⟨sg, n, e, e1, e2, e3⟩ := sum_units fa fn
  rw [zn] at e3
  rw [e1]
  have z : (b64.qmin - b64.qmin).toNat = 0 := by omega
  constructor
  · intro h
    exact zval_round_le good_b64 hV nV (Int.le_refl _) e2 (by rw [e3, z]; simp only [Nat.pow_zero, Int.natCast_one, Int.mul_one] at h ⊢; omega)
  · intro h
    exact zval_round_ge good_b64 hV nV (Int.le_refl _) e2 (by rw [e3, z]; simp only [Nat.pow_zero, Int.natCast_one, Int.mul_one] at h ⊢; omega)
theorem own_In.sub {k : Nat} {l1 h1 l2 h2 : Int} {a b : UInt64} (ha : own_In k l1 h1 a) (hb : own_In k l2 h2 b) (hk : k ≤ 1000) (bl : (l1 - h2).natAbs < 2 ^ 53) (bh : (h1 - l2).natAbs < 2 ^ 53) : own_In k (l1 - h2) (h1 - l2) (Jvm.FP.dsub a b) := by
  refine own_mk ((notNaN_iff _).mp (dsub_out ha.1.notNaN hb.1)) (own_sub_mono ha.1 hb.1) (by decide) hk bl bh ?_ ?_
  · rw [Int.mul_one, Int.sub_mul, Int.sub_mul]; exact Int.sub_le_sub ha.2.1 hb.2.2
  · rw [Int.mul_one, Int.sub_mul, Int.sub_mul]; exact Int.sub_le_sub ha.2.2 hb.2.1
theorem own_In.unscale {k : Nat} {l h : Int} {a : UInt64} (j : Nat) (q : own_In (k + j) (l * 2 ^ j) (h * 2 ^ j) a) : own_In k l h a := by
  obtain ⟨f, h1, h2⟩ := q
  have p := own_p_pos j
  rw [Int.pow_add, ← Int.mul_assoc] at h1 h2
  refine ⟨f, ?_, ?_⟩
  · refine Int.le_of_mul_le_mul_right ?_ p
    rw [Int.mul_right_comm]; exact h1
  · refine Int.le_of_mul_le_mul_right ?_ p
    rw [Int.mul_right_comm h]; exact h2
/-- x / 2^p times 2^p -/
theorem own_In.mulpow {p : Nat} {x : Int} {a b : UInt64} (ha : own_In p x x a) (hb : own_In 0 (2 ^ p) (2 ^ p) b) (bx : x.natAbs < 2 ^ 53) : own_In 0 x x (Jvm.FP.dmul a b) := by
  have e : own_z a * own_z b * 2 ^ 0 = x * own_u * own_u := by
    have e1 : own_z a * 2 ^ p = x * own_u := by have := ha.2.1; have := ha.2.2; omega
    rw [Int.pow_zero, Int.mul_one, hb.zz, ← Int.mul_assoc, e1]
  exact own_mk ((notNaN_iff _).mp (dmul_out ha.1 hb.1)) (own_mul_mono ha.1 hb.1) own_u_pos (by decide) bx bx (by rw [e]; exact Int.le_refl _) (by rw [e]; exact Int.le_refl _)
theorem own_In2 : own_In 0 2 2 (4611686018427387904 : UInt64) := own_lit (c := 4503599627370496) (q := -51) (by decide +kernel) (by decide)
/-- price(y) -/
def own_pr (u v : UInt64) (b : Int32) (y : UInt64) : UInt64 := Jvm.FP.dadd u (Jvm.FP.dmul v (Jvm.FP.ddiv (Jvm.FP.dsub (Jvm.FP.i2d (b - 1)) (Jvm.FP.dmul 4611686018427387904 y)) (Jvm.FP.dadd (Jvm.FP.i2d b) 4607182418800017408)))
def own_prN (u v : UInt64) (b : Int32) (y : UInt64) : Prop := Jvm.Free.Fl.NoNaN64 (Jvm.FP.dmul 4611686018427387904 y) ∧ Jvm.Free.Fl.NoNaN64 (Jvm.FP.dsub (Jvm.FP.i2d (b - 1)) (Jvm.FP.dmul 4611686018427387904 y)) ∧ Jvm.Free.Fl.NoNaN64 (Jvm.FP.dadd (Jvm.FP.i2d b) 4607182418800017408) ∧ Jvm.Free.Fl.NoNaN64 (Jvm.FP.ddiv (Jvm.FP.dsub (Jvm.FP.i2d (b - 1)) (Jvm.FP.dmul 4611686018427387904 y)) (Jvm.FP.dadd (Jvm.FP.i2d b) 4607182418800017408)) ∧ Jvm.Free.Fl.NoNaN64 (Jvm.FP.dmul v (Jvm.FP.ddiv (Jvm.FP.dsub (Jvm.FP.i2d (b - 1)) (Jvm.FP.dmul 4611686018427387904 y)) (Jvm.FP.dadd (Jvm.FP.i2d b) 4607182418800017408))) ∧ Jvm.Free.Fl.NoNaN64 (own_pr u v b y)
theorem own_mb {x y A B : Int} (hx : -A ≤ x ∧ x ≤ A) (hy : -B ≤ y ∧ y ≤ B) : -(A * B) ≤ x * y ∧ x * y ≤ A * B := by
  have h1 : (x * y).natAbs ≤ (A * B).natAbs := by
    rw [Int.natAbs_mul, Int.natAbs_mul]; exact Nat.mul_le_mul (by omega) (by omega)
  have h2 : 0 ≤ A * B := Int.mul_nonneg (by omega) (by omega)
  omega
theorem own_prIn {b me sp : Int32} (hb : 1 ≤ b.toInt ∧ b.toInt ≤ 1048576) (hm : 1 ≤ me.toInt ∧ me.toInt ≤ 131072) (hs : 1 ≤ sp.toInt ∧ sp.toInt ≤ 65536) {y : UInt64} {M : Int} (hy : own_In 0 M M (Jvm.FP.dmul 4611686018427387904 y)) (hM : -4194304 ≤ M ∧ M ≤ 4194304)
    {k : Nat} {l h : Int} (hk : k ≤ 22) (bl : -4194304 ≤ l ∧ l ≤ 4194304) (bh : -4194304 ≤ h ∧ h ≤ 4194304) (h1 : l * (b.toInt + 1) ≤ (b.toInt - 1 - M) * 2 ^ k) (h2 : (b.toInt - 1 - M) * 2 ^ k ≤ h * (b.toInt + 1)) :
    own_prN (Jvm.FP.i2d me) (Jvm.FP.i2d sp) b y ∧ own_In k (me.toInt * 2 ^ k + sp.toInt * l) (me.toInt * 2 ^ k + sp.toInt * h) (own_pr (Jvm.FP.i2d me) (Jvm.FP.i2d sp) b y) := by
  have eb : (b - 1).toInt = b.toInt - 1 := by
    have a := Jvm.RoadKit.c_isub b 1
    have r := Jvm.RoadKit.rng32 (b - 1)
    have e : (1 : Int32).toInt = 1 := rfl
    omega
  have I1 := own_In.sub (own_In.i2d (b - 1)) hy (by decide) (by omega) (by omega)
  rw [eb] at I1
  have I2 := own_In.add (own_In.i2d b) own_In1 (by decide) (by omega) (by omega)
  have I3 := own_In.div I1 I2 (by omega) (show k ≤ 1000 by omega) (show l.natAbs < 2 ^ 53 by omega) (show h.natAbs < 2 ^ 53 by omega) h1 h2
  have q1 := own_mb (x := sp.toInt) (y := l) (A := 65536) (B := 4194304) (by omega) bl
  have q2 := own_mb (x := sp.toInt) (y := h) (A := 65536) (B := 4194304) (by omega) bh
  have I4 := own_In.mul (own_In.i2d sp) (by omega) I3 (show k ≤ 1000 by omega) (by omega) (by omega)
  have p1 : (2 : Int) ^ k ≤ 4194304 := by
    have := Nat.pow_le_pow_right (show 0 < 2 by decide) hk
    have e : ((2 ^ k : Nat) : Int) = (2 : Int) ^ k := Int.natCast_pow 2 k
    have e2 : (2 : Nat) ^ 22 = 4194304 := by decide
    omega
  have p0 := own_p_pos k
  have q3 := own_mb (x := me.toInt) (y := 2 ^ k) (A := 131072) (B := 4194304) (by omega) (by omega)
  have Is : own_In k (me.toInt * 2 ^ k) (me.toInt * 2 ^ k) (Jvm.FP.i2d me) := by have q := (own_In.i2d me).scale k; rw [Nat.zero_add] at q; exact q
  have I5 := own_In.add Is I4 (show k ≤ 1000 by omega) (by omega) (by omega)
  exact ⟨⟨hy.nn, I1.nn, I2.nn, I3.nn, I4.nn, I5.nn⟩, I5⟩
/-- the numerator's place among the fractions of 2^22: l = floor(n * 2^22 / d) -/
theorem own_fl (n d : Int) (hd : 0 < d) : ∃ l : Int, l * d ≤ n * 2 ^ 22 ∧ n * 2 ^ 22 < (l + 1) * d := by
  refine ⟨n * 2 ^ 22 / d, Int.ediv_mul_le _ (by omega), ?_⟩
  exact Int.lt_ediv_add_one_mul_self _ hd
theorem own_lo {l n d : Int} (hd : 0 < d) (h2 : n * 2 ^ 22 < (l + 1) * d) {c : Int} (hc : c * d ≤ n * 2 ^ 22) : c ≤ l := by
  have : c * d < (l + 1) * d := by omega
  have := Int.lt_of_mul_lt_mul_right this (by omega)
  omega
theorem own_hi {l n d : Int} (hd : 0 < d) (h1 : l * d ≤ n * 2 ^ 22) {c : Int} (hc : n * 2 ^ 22 < c * d) : l < c := by
  have : l * d < c * d := by omega
  exact Int.lt_of_mul_lt_mul_right this (by omega)
/-- a lot of k units -/
theorem own_k {b me sp k : Int32} (hb : 1 ≤ b.toInt ∧ b.toInt ≤ 1048576) (hm : 1 ≤ me.toInt ∧ me.toInt ≤ 131072) (hs : 1 ≤ sp.toInt ∧ sp.toInt ≤ 65536) (hk : 1 ≤ k.toInt ∧ k.toInt ≤ b.toInt) :
    ∃ l : Int, (b.toInt - 1 - 2 * k.toInt) * 2 ^ 22 < (l + 1) * (b.toInt + 1) ∧ l * (b.toInt + 1) ≤ (b.toInt - 1 - 2 * k.toInt) * 2 ^ 22 ∧ -4194304 ≤ l ∧ l + 1 < 4194304 ∧ (k.toInt < b.toInt → -4194304 < l) ∧ own_prN (Jvm.FP.i2d me) (Jvm.FP.i2d sp) b (Jvm.FP.i2d k) ∧ own_In 22 (me.toInt * 2 ^ 22 + sp.toInt * l) (me.toInt * 2 ^ 22 + sp.toInt * (l + 1)) (own_pr (Jvm.FP.i2d me) (Jvm.FP.i2d sp) b (Jvm.FP.i2d k)) := by
  obtain ⟨l, h1, h2⟩ := own_fl (b.toInt - 1 - 2 * k.toInt) (b.toInt + 1) (by omega)
  have hy := own_In.mul own_In2 (by decide) (own_In.i2d k) (by decide) (by omega) (by omega)
  have c1 : -4194304 ≤ l := own_lo (by omega) h2 (by omega)
  have c2 : l < 4194303 := own_hi (by omega) h1 (by omega)
  have c3 : k.toInt < b.toInt → -4194303 ≤ l := fun q => own_lo (by omega) h2 (by omega)
  obtain ⟨n, I⟩ := own_prIn hb hm hs hy (by omega) (k := 22) (l := l) (h := l + 1) (by decide) (by omega) (by omega) h1 (Int.le_of_lt h2)
  exact ⟨l, h2, h1, c1, by omega, fun q => by have := c3 q; omega, n, I⟩
theorem own_kb {b me sp : Int32} (hb : 1 ≤ b.toInt ∧ b.toInt ≤ 1048576) (hm : 1 ≤ me.toInt ∧ me.toInt ≤ 131072) (hs : 1 ≤ sp.toInt ∧ sp.toInt ≤ 65536) :
    own_prN (Jvm.FP.i2d me) (Jvm.FP.i2d sp) b (Jvm.FP.i2d b) ∧ own_In 22 (me.toInt * 2 ^ 22 + sp.toInt * -4194304) (me.toInt * 2 ^ 22 + sp.toInt * -4194304) (own_pr (Jvm.FP.i2d me) (Jvm.FP.i2d sp) b (Jvm.FP.i2d b)) :=
  own_prIn hb hm hs (own_In.mul own_In2 (by decide) (own_In.i2d b) (by decide) (by omega) (by omega)) (by omega) (k := 22) (by decide) (by decide) (by decide) (by omega) (by omega)
/-- strictly falling -/
theorem own_fall {b me sp : Int32} {k k2 l l2 : Int} (hb : 1 ≤ b.toInt ∧ b.toInt ≤ 1048576) (h : k < k2) (g2 : (b.toInt - 1 - 2 * k) * 2 ^ 22 < (l + 1) * (b.toInt + 1)) (g1 : l2 * (b.toInt + 1) ≤ (b.toInt - 1 - 2 * k2) * 2 ^ 22) (hs : 1 ≤ sp.toInt) : me.toInt * 2 ^ 22 + sp.toInt * (l2 + 1) < me.toInt * 2 ^ 22 + sp.toInt * l := by
  have q : l2 + 2 ≤ l := own_lo (d := b.toInt + 1) (by omega) g2 (by rw [Int.add_mul]; omega)
  have := Int.mul_lt_mul_of_pos_left (show l2 + 1 < l by omega) (show 0 < sp.toInt by omega)
  omega
theorem own_mid {b me sp : Int32} (hb : 1 ≤ b.toInt ∧ b.toInt ≤ 1048576) (hm : 1 ≤ me.toInt ∧ me.toInt ≤ 131072) (hs : 1 ≤ sp.toInt ∧ sp.toInt ≤ 65536) :
    Jvm.Free.Fl.NoNaN64 (Jvm.FP.ddiv (Jvm.FP.i2d (b - 1)) 4611686018427387904) ∧ own_prN (Jvm.FP.i2d me) (Jvm.FP.i2d sp) b (Jvm.FP.ddiv (Jvm.FP.i2d (b - 1)) 4611686018427387904) ∧ own_In 0 (me.toInt) (me.toInt) (own_pr (Jvm.FP.i2d me) (Jvm.FP.i2d sp) b (Jvm.FP.ddiv (Jvm.FP.i2d (b - 1)) 4611686018427387904)) := by
  have eb : (b - 1).toInt = b.toInt - 1 := by
    have a := Jvm.RoadKit.c_isub b 1
    have r := Jvm.RoadKit.rng32 (b - 1)
    have e : (1 : Int32).toInt = 1 := rfl
    omega
  have I1 := own_In.i2d (b - 1)
  rw [eb] at I1
  have I2 : own_In 1 (b.toInt - 1) (b.toInt - 1) (Jvm.FP.ddiv (Jvm.FP.i2d (b - 1)) 4611686018427387904) := own_In.div I1 own_In2 (by decide) (by decide) (by omega) (by omega) (by omega) (by omega)
  have I3 := own_In.mul own_In2 (by decide) I2 (by decide) (by omega) (by omega)
  have I4 : own_In 0 (b.toInt - 1) (b.toInt - 1) (Jvm.FP.dmul 4611686018427387904 (Jvm.FP.ddiv (Jvm.FP.i2d (b - 1)) 4611686018427387904)) := own_In.unscale 1 (by
    have e : (b.toInt - 1) * 2 ^ 1 = 2 * (b.toInt - 1) := by omega
    rw [e]; exact I3)
  obtain ⟨n, I⟩ := own_prIn hb hm hs I4 (by omega) (k := 0) (l := 0) (h := 0) (by decide) (by decide) (by decide) (by omega) (by omega)
  rw [Int.pow_zero, Int.mul_one, Int.mul_zero, Int.add_zero] at I
  exact ⟨I2.nn, n, I⟩
/-- where bidders + 1 is 2^p -/
theorem own_pow {b me sp k : Int32} {p : Nat} (hp : p ≤ 20) (hb : 1 ≤ b.toInt ∧ b.toInt ≤ 1048576) (eb : b.toInt + 1 = 2 ^ p) (hm : 1 ≤ me.toInt ∧ me.toInt ≤ 131072) (hs : 1 ≤ sp.toInt ∧ sp.toInt ≤ 65536) (hk : 1 ≤ k.toInt ∧ k.toInt ≤ b.toInt) :
    own_prN (Jvm.FP.i2d me) (Jvm.FP.i2d sp) b (Jvm.FP.i2d k) ∧ Jvm.Free.Fl.NoNaN64 (Jvm.FP.dadd (Jvm.FP.i2d b) 4607182418800017408) ∧ own_In 0 (me.toInt * (b.toInt + 1) + sp.toInt * (b.toInt - 1 - 2 * k.toInt)) (me.toInt * (b.toInt + 1) + sp.toInt * (b.toInt - 1 - 2 * k.toInt)) (Jvm.FP.dmul (own_pr (Jvm.FP.i2d me) (Jvm.FP.i2d sp) b (Jvm.FP.i2d k)) (Jvm.FP.dadd (Jvm.FP.i2d b) 4607182418800017408)) := by
  have hy := own_In.mul own_In2 (by decide) (own_In.i2d k) (by decide) (by omega) (by omega)
  obtain ⟨n, I⟩ := own_prIn hb hm hs hy (by omega) (k := p) (l := b.toInt - 1 - 2 * k.toInt) (h := b.toInt - 1 - 2 * k.toInt) (by omega) (by omega) (by omega) (by rw [eb]; exact Int.le_refl _) (by rw [eb]; exact Int.le_refl _)
  have I2 := own_In.add (own_In.i2d b) own_In1 (by decide) (by omega) (by omega)
  rw [eb] at I2
  have q1 := own_mb (x := sp.toInt) (y := b.toInt - 1 - 2 * k.toInt) (A := 65536) (B := 4194304) (by omega) (by omega)
  have q3 := own_mb (x := me.toInt) (y := b.toInt + 1) (A := 131072) (B := 4194304) (by omega) (by omega)
  refine ⟨n, I2.nn, ?_⟩
  rw [← eb] at I
  exact own_In.mulpow I I2 (by omega)
end OwnPrice
end Jvm.Pilot.@@N@@
namespace Jvm.Pilot.@@N@@
open Jvm Jvm.ClassFile Sem Op Lib Jvm.Free Jvm.Stand Jvm.LawKit Jvm.RoadKit Bundle Jvm.Pilot.@@N@@.Jvm.D

theorem d2_0 : decode jdk_30_method_1_code 0 = .ok (.aload_n 0, 1) := by decide +kernel
theorem d2_1 : decode jdk_30_method_1_code 1 = .ok (.invokespecial 1, 3) := by decide +kernel
theorem d2_4 : decode jdk_30_method_1_code 4 = .ok (.return_, 1) := by decide +kernel
theorem pn_2 : plainName "java/lang/Record" = true := by first | (simp [plainName, overriddenIn]; done) | decide +kernel
def QR (a1 : Addr) (h0 : Heap) (n0 : Nat) (v : Option Value) (h : Heap) (L : List Loc) : Prop := v = none ∧ Fr n0 L ∧ h = h0
set_option maxRecDepth 65536 in
set_option maxHeartbeats 40000000 in
theorem rmR (l : Launch) (Z : State) (a0 : Array Value) (hw : ∀ d ∈ tables_1, d.before a0 Z = true) (ws : List Jvm.Cond) (a1 : Addr) (h0 : Heap) (n0 : Nat) (Z0 : n0 ≤ h0.size)  :
    MetFree l (⟨"java/lang/Record", "<init>", "()V"⟩ : MethodName) (head1 (Jvm.Cond.code (⟨"java/lang/Record", "<init>", "()V"⟩ : MethodName) jdk_30_method_1_code 1 none :: ws) ({ frames := 1, cells := 0, slots := 0, locals := 12 } : Room)) (fun a U => a = #[(.ref a1)] ∧ Z.Warmed39 U.vm ∧ U.heap = h0) (fun _ _ _ _ _ => True) (fun _ U o U' => ∃ v L, o = .returned v ∧ QR a1 h0 n0 v U'.heap L ∧ FrameEnd U o U' L ({ frames := 1, cells := 0, slots := 0, locals := 12 } : Room).cells ({ frames := 1, cells := 0, slots := 0, locals := 12 } : Room).slots) := by
  refine MetFree.of_bodySF (plainFor_of_name pn_2) hisR ?_
  intro p e s m args below meth c s₁ Bd hml0 hP hK
  obtain ⟨rfl, hZ, hh⟩ := hP
  have hx := Bd.exec
  have hby := Bd.bytes
  have hml : c.maxLocals = 1 := hml0
  have hown : s.vm.findClass "java/lang/Record" = some m.cls := findClass_of_methodNamed Bd.named
  have hnm := (name_of_methodNamed Bd.named Bd.method).1
  have X0 : Stand p l e ({ frames := 1, cells := 0, slots := 0, locals := 12 } : Room) s m #[(.ref a1)] below meth c s₁ [] 0 0 := Stand.of_body Bd
  have e0 : s₁.heap = h0 := by rw [← hh, Bd.state]; rfl
  have N0 := Fr.nil n0
  have c0 : Steps p.tables e below (s₁.setTop (entryFrame m #[(.ref a1)] 1)) (s₁.setTop (mkF m 0 #[.val (.ref a1)] [])) := XT.entry rfl
  obtain ⟨T1, X1, e1, st1⟩ := initO X0 hx hZ hown (hw _ (List.mem_of_getElem? (i := 14) rfl)) (hw _ (List.mem_of_getElem? (i := 15) rfl)) (hw _ (List.mem_of_getElem? (i := 16) rfl)) e0 (g := (mkF m 1 #[.val (.ref a1)] [(.ref a1)])) rfl (by rw [hml]; rfl) rfl (hb hby d2_1) (by decide) (W := 0) (by show 2 * 0 + _ ≤ _; exact Nat.le_of_eq rfl) (by decide)
  have cc1 : Steps p.tables e below (s₁.setTop (entryFrame m #[(.ref a1)] 1)) (T1.setTop (mkF m 4 #[.val (.ref a1)] [])) := c0.trans (by
    refine XS.aloadN X0.here hx rfl (hb hby d2_0) rfl rfl ?_
    refine st1 _ ?_
    exact Steps.refl _)
  obtain ⟨fs, hr, hrun, hended, hW, hsame⟩ := X1.leave (v := none) (fun _ => rfl)
  refine ⟨_, _, cc1.trans ?_, hrun, hended, _, _, rfl, ?_, ⟨_, rfl⟩, hW, hsame.mono (by decide) (by decide)⟩
  · exact X1.returnOut hx Bd.returns (hb hby d2_4) hr
  · show QR a1 h0 n0 _ T1.heap _
    rw [e1]
    exact ⟨rfl, N0, rfl⟩
theorem d4_0 : decode jdk_117_method_8_code 0 = .ok (.dload_n 0, 1) := by decide +kernel
theorem d4_1 : decode jdk_117_method_8_code 1 = .ok (.invokestatic 38, 3) := by decide +kernel
theorem d4_4 : decode jdk_117_method_8_code 4 = .ok (.ldc2_w 111, 3) := by decide +kernel
theorem d4_7 : decode jdk_117_method_8_code 7 = .ok (.dcmp .g, 1) := by decide +kernel
theorem d4_8 : decode jdk_117_method_8_code 8 = .ok (.ifCond .gt 7, 3) := by decide +kernel
theorem d4_11 : decode jdk_117_method_8_code 11 = .ok (.iconst 1, 1) := by decide +kernel
theorem d4_12 : decode jdk_117_method_8_code 12 = .ok (.goto 4, 3) := by decide +kernel
theorem d4_15 : decode jdk_117_method_8_code 15 = .ok (.iconst 0, 1) := by decide +kernel
theorem d4_16 : decode jdk_117_method_8_code 16 = .ok (.ireturn, 1) := by decide +kernel
theorem pn_4 : plainName "java/lang/Double" = true := by first | (simp [plainName, overriddenIn]; done) | decide +kernel
theorem pd__D_D : parseMethodDescriptor "(D)D" = some ⟨[.double], some .double⟩ := by decide +kernel
theorem pd__D_Z : parseMethodDescriptor "(D)Z" = some ⟨[.double], some .boolean⟩ := by decide +kernel
theorem pd___V : parseMethodDescriptor "()V" = some ⟨[], none⟩ := by decide +kernel
theorem pd__IDD_V : parseMethodDescriptor "(IDD)V" = some ⟨[.int, .double, .double], none⟩ := by decide +kernel
def QF (h0 : Heap) (n0 : Nat) (v : Option Value) (h : Heap) (L : List Loc) : Prop := v = some (.int 1) ∧ Fr n0 L ∧ h = h0
set_option maxRecDepth 65536 in
set_option maxHeartbeats 40000000 in
theorem rmF (l : Launch) (Z : State) (a0 : Array Value) (hw : ∀ d ∈ tables_1, d.before a0 Z = true) (ws : List Jvm.Cond) (y : UInt64) (h0 : Heap) (n0 : Nat) (Z0 : n0 ≤ h0.size) (hf : Fl.Fin64 y) :
    MetFree l (⟨"java/lang/Double", "isFinite", "(D)Z"⟩ : MethodName) (head1 (Jvm.Cond.code (⟨"java/lang/Double", "isFinite", "(D)Z"⟩ : MethodName) jdk_117_method_8_code 2 (some .boolean) :: ws) ({ frames := 1, cells := 0, slots := 0, locals := 13 } : Room)) (fun a U => a = #[(.double y)] ∧ Z.Warmed39 U.vm ∧ U.heap = h0) (fun _ _ _ _ _ => True) (fun _ U o U' => ∃ v L, o = .returned v ∧ QF h0 n0 v U'.heap L ∧ FrameEnd U o U' L ({ frames := 1, cells := 0, slots := 0, locals := 13 } : Room).cells ({ frames := 1, cells := 0, slots := 0, locals := 13 } : Room).slots) := by
  refine MetFree.of_bodySF (plainFor_of_name pn_4) hisR ?_
  intro p e s m args below meth c s₁ Bd hml0 hP hK
  obtain ⟨rfl, hZ, hh⟩ := hP
  have hx := Bd.exec
  have hby := Bd.bytes
  have hml : c.maxLocals = 2 := hml0
  have hown : s.vm.findClass "java/lang/Double" = some m.cls := findClass_of_methodNamed Bd.named
  have hnm := (name_of_methodNamed Bd.named Bd.method).1
  have X0 : Stand p l e ({ frames := 1, cells := 0, slots := 0, locals := 13 } : Room) s m #[(.double y)] below meth c s₁ [] 0 0 := Stand.of_body Bd
  have e0 : s₁.heap = h0 := by rw [← hh, Bd.state]; rfl
  have N0 := Fr.nil n0
  have c0 : Steps p.tables e below (s₁.setTop (entryFrame m #[(.double y)] 2)) (s₁.setTop (mkF m 0 #[.val (.double y), .second] [])) := XT.entry rfl
  obtain ⟨T2, X2, e2, st2⟩ := natS X0 hx hZ hown (hw _ (List.mem_of_getElem? (i := 21) rfl)) (hw _ (List.mem_of_getElem? (i := 22) rfl)) (hw _ (List.mem_of_getElem? (i := 23) rfl)) (y := Fl.Abs.absDN) (by0 := Fl.Abs.absDCode) (ml := 2) (rt := some .double) (hw _ (List.mem_of_getElem? (i := 24) rfl)) (by decide) e0 (W := 0) (F := fun a' => a' = #[.double y] ∧ Fl.NoNaN64 y) (fun hc => Fl.Abs.absD_pays y hc (by decide) (by decide)) (g := (mkF m 1 #[.val (.double y), .second] [(.double y)])) rfl (by rw [hml]; rfl) (argsL := [(.double y)]) (rest := []) (lenOf pd__D_D rfl) rfl (by show 2 * 0 + _ ≤ _; exact Nat.le_of_eq rfl) (hb hby d4_1) (by decide) (by decide) ⟨rfl, hf.noNaN⟩ rfl
  have cc1 : Steps p.tables e below (s₁.setTop (entryFrame m #[(.double y)] 2)) (T2.setTop (mkF m 16 #[.val (.double y), .second] [(.int (1 : Int32))])) := c0.trans (by
    refine XS.dloadN X0.here hx rfl (hb hby d4_0) rfl ?_
    refine st2 _ ?_
    refine Stand.ldc2DoubleC X2 hx hown (b := (9218868437227405311 : UInt64)) (mvT hZ (hw _ (List.mem_of_getElem? (i := 25) rfl))) (g := (mkF m 4 #[.val (.double y), .second] [(.double (y &&& 0x7fffffffffffffff))])) rfl (hb hby d4_4) _ ?_
    refine XS.dcmpS X2.here hx rfl (hb hby d4_7) rfl rfl ?_
    refine XS.ifNo X2.here hx rfl (hb hby d4_8) rfl (XT.i0_gt_f (own_absle hf _)) ?_
    refine XT.iconstV X2.here hx rfl ((1 : Int32)) (hb hby d4_11) (by decide) ?_
    refine XS.goto X2.here hx rfl (pc0 := 12) (pc' := 16) rfl (hb hby d4_12) (by decide) (by decide) ?_
    exact Steps.refl _)
  obtain ⟨fs, hr, hrun, hended, hW, hsame⟩ := X2.leave (v := some (.int (1 : Int32))) (fun h => by rw [Bd.returns] at h; cases h)
  refine ⟨_, _, cc1.trans ?_, hrun, hended, _, _, rfl, ?_, ⟨_, rfl⟩, hW, hsame.mono (by decide) (by decide)⟩
  · exact retN X2 hx (t := .boolean) Bd.returns (by simp) (hb hby d4_16) hr
  · show QF h0 n0 _ T2.heap _
    rw [e2]
    exact ⟨rfl, N0, rfl⟩
theorem d1_0 : decode prog_12_method_1_code 0 = .ok (.aload_n 0, 1) := by decide +kernel
theorem d1_1 : decode prog_12_method_1_code 1 = .ok (.invokespecial 1, 3) := by decide +kernel
theorem d1_4 : decode prog_12_method_1_code 4 = .ok (.iload_n 1, 1) := by decide +kernel
theorem d1_5 : decode prog_12_method_1_code 5 = .ok (.iconst 1, 1) := by decide +kernel
theorem d1_6 : decode prog_12_method_1_code 6 = .ok (.if_icmp .ge 17, 3) := by decide +kernel
theorem d1_23 : decode prog_12_method_1_code 23 = .ok (.dload 4, 2) := by decide +kernel
theorem d1_25 : decode prog_12_method_1_code 25 = .ok (.dconst 0, 1) := by decide +kernel
theorem d1_26 : decode prog_12_method_1_code 26 = .ok (.dcmp .l, 1) := by decide +kernel
theorem d1_27 : decode prog_12_method_1_code 27 = .ok (.ifCond .le 10, 3) := by decide +kernel
theorem d1_30 : decode prog_12_method_1_code 30 = .ok (.dload 4, 2) := by decide +kernel
theorem d1_32 : decode prog_12_method_1_code 32 = .ok (.dload_n 2, 1) := by decide +kernel
theorem d1_33 : decode prog_12_method_1_code 33 = .ok (.dcmp .l, 1) := by decide +kernel
theorem d1_34 : decode prog_12_method_1_code 34 = .ok (.ifCond .le 19, 3) := by decide +kernel
theorem d1_53 : decode prog_12_method_1_code 53 = .ok (.dload_n 2, 1) := by decide +kernel
theorem d1_54 : decode prog_12_method_1_code 54 = .ok (.dload 4, 2) := by decide +kernel
theorem d1_56 : decode prog_12_method_1_code 56 = .ok (.dadd, 1) := by decide +kernel
theorem d1_57 : decode prog_12_method_1_code 57 = .ok (.invokestatic 19, 3) := by decide +kernel
theorem d1_60 : decode prog_12_method_1_code 60 = .ok (.ifCond .ne 19, 3) := by decide +kernel
theorem d1_79 : decode prog_12_method_1_code 79 = .ok (.aload_n 0, 1) := by decide +kernel
theorem d1_80 : decode prog_12_method_1_code 80 = .ok (.iload_n 1, 1) := by decide +kernel
theorem d1_81 : decode prog_12_method_1_code 81 = .ok (.putfield 26, 3) := by decide +kernel
theorem d1_84 : decode prog_12_method_1_code 84 = .ok (.aload_n 0, 1) := by decide +kernel
theorem d1_85 : decode prog_12_method_1_code 85 = .ok (.dload_n 2, 1) := by decide +kernel
theorem d1_86 : decode prog_12_method_1_code 86 = .ok (.putfield 32, 3) := by decide +kernel
theorem d1_89 : decode prog_12_method_1_code 89 = .ok (.aload_n 0, 1) := by decide +kernel
theorem d1_90 : decode prog_12_method_1_code 90 = .ok (.dload 4, 2) := by decide +kernel
theorem d1_92 : decode prog_12_method_1_code 92 = .ok (.putfield 36, 3) := by decide +kernel
theorem d1_95 : decode prog_12_method_1_code 95 = .ok (.return_, 1) := by decide +kernel
theorem pn_1 : plainName "com/example/lotwise/lotwise/model/LotMarket" = true := by first | (simp [plainName, overriddenIn]; done) | decide +kernel
def QI (Z : State) (a1 : Addr) (b : Int32) (u v1 : UInt64) (h0 : Heap) (n0 : Nat) (v : Option Value) (h : Heap) (L : List Loc) : Prop := v = none ∧ Fr n0 L ∧ Keep h0 h [a1] ∧ Fld Z h a1 "com/example/lotwise/lotwise/model/LotMarket" "bidders" "I" (.int b) ∧ Fld Z h a1 "com/example/lotwise/lotwise/model/LotMarket" "mean" "D" (.double u) ∧ Fld Z h a1 "com/example/lotwise/lotwise/model/LotMarket" "spread" "D" (.double v1)
set_option maxRecDepth 65536 in
set_option maxHeartbeats 40000000 in
theorem rmI (l : Launch) (Z : State) (a0 : Array Value) (hw : ∀ d ∈ tables_1, d.before a0 Z = true) (ws : List Jvm.Cond) (a1 : Addr) (b : Int32) (u : UInt64) (v1 : UInt64) (h0 : Heap) (n0 : Nat) (Z0 : n0 ≤ h0.size) (Ea : Exa Z h0 a1 "com/example/lotwise/lotwise/model/LotMarket") (F1 : Fld Z h0 a1 "com/example/lotwise/lotwise/model/LotMarket" "bidders" "I" (.int (0 : Int32))) (F2 : Fld Z h0 a1 "com/example/lotwise/lotwise/model/LotMarket" "mean" "D" (.double 0)) (F3 : Fld Z h0 a1 "com/example/lotwise/lotwise/model/LotMarket" "spread" "D" (.double 0)) (ge : n0 ≤ a1) (b1 : ¬ b < (1 : Int32)) (k1 : cmpValue (FP.dcmp v1 0) .l = 1) (k2 : ¬ (0 : Int32) < cmpValue (FP.dcmp v1 u) .l) (hf : Fl.Fin64 (FP.dadd u v1)) :
    MetFree l (⟨"com/example/lotwise/lotwise/model/LotMarket", "<init>", "(IDD)V"⟩ : MethodName) (head1 (Jvm.Cond.code (⟨"com/example/lotwise/lotwise/model/LotMarket", "<init>", "(IDD)V"⟩ : MethodName) prog_12_method_1_code 6 none :: ws) ({ frames := 2, cells := 0, slots := 0, locals := 26 } : Room)) (fun a U => a = #[(.ref a1), (.int b), (.double u), (.double v1)] ∧ Z.Warmed39 U.vm ∧ U.heap = h0) (fun _ _ _ _ _ => True) (fun _ U o U' => ∃ v L, o = .returned v ∧ QI Z a1 b u v1 h0 n0 v U'.heap L ∧ FrameEnd U o U' L ({ frames := 2, cells := 0, slots := 0, locals := 26 } : Room).cells ({ frames := 2, cells := 0, slots := 0, locals := 26 } : Room).slots) := by
  refine MetFree.of_bodySF (plainFor_of_name pn_1) hisR ?_
  intro p e s m args below meth c s₁ Bd hml0 hP hK
  obtain ⟨rfl, hZ, hh⟩ := hP
  have hx := Bd.exec
  have hby := Bd.bytes
  have hml : c.maxLocals = 6 := hml0
  have hown : s.vm.findClass "com/example/lotwise/lotwise/model/LotMarket" = some m.cls := findClass_of_methodNamed Bd.named
  have hnm := (name_of_methodNamed Bd.named Bd.method).1
  have X0 : Stand p l e ({ frames := 2, cells := 0, slots := 0, locals := 26 } : Room) s m #[(.ref a1), (.int b), (.double u), (.double v1)] below meth c s₁ [] 0 0 := Stand.of_body Bd
  have e0 : s₁.heap = h0 := by rw [← hh, Bd.state]; rfl
  have N0 := Fr.nil n0
  have c0 : Steps p.tables e below (s₁.setTop (entryFrame m #[(.ref a1), (.int b), (.double u), (.double v1)] 6)) (s₁.setTop (mkF m 0 #[.val (.ref a1), .val (.int b), .val (.double u), .second, .val (.double v1), .second] [])) := XT.entry rfl
  obtain ⟨_, _, ⟨T3, L3, k3, n3⟩, -, X3, ⟨Lc3, hQ3, l3, y3, z3⟩, st3⟩ := X0.specialBack hx (y := (⟨"java/lang/Record", "<init>", "()V"⟩ : MethodName)) rfl hown (mvT hZ (hw _ (List.mem_of_getElem? (i := 9) rfl))) (mvT hZ (hw _ (List.mem_of_getElem? (i := 10) rfl))) (mvT hZ (hw _ (List.mem_of_getElem? (i := 13) rfl))) (by decide) (backOf (W := 0) (rmR l Z a0 hw [] a1 h0 n0 Z0) hZ (hw _ (List.mem_of_getElem? (i := 13) rfl)) (hw _ (List.mem_of_getElem? (i := 12) rfl)) (by decide) (by decide)) (g := (mkF m 1 #[.val (.ref a1), .val (.int b), .val (.double u), .second, .val (.double v1), .second] [(.ref a1)])) rfl (by rw [hml]; rfl) (Steps.refl _) (a := a1) (argsL := []) (rest := []) (lenOf pd___V rfl) rfl (by show 2 * 0 + _ ≤ _; exact Nat.le_of_eq rfl) (hb hby d1_1) (fun _ _ => ⟨rfl, e0, (by decide : 0 + 0 ≤ _), (by decide : 0 + 0 ≤ _)⟩)
  dsimp only [Pt.U, Pt.locs, Pt.cells, Pt.slots] at X3 l3 y3 z3 st3 hQ3
  subst l3 y3 z3
  obtain ⟨rfl, N3, e3⟩ := hQ3
  have NN3 := Fr.app N0 N3
  obtain ⟨_, _, ⟨T4, L4, k4, n4⟩, -, X4, ⟨Lc4, hQ4, l4, y4, z4⟩, st4⟩ := Jvm.LawKit.callS X3 hx (y := (⟨"java/lang/Double", "isFinite", "(D)Z"⟩ : MethodName)) hown (mvT hZ (hw _ (List.mem_of_getElem? (i := 17) rfl))) (mvT hZ (hw _ (List.mem_of_getElem? (i := 18) rfl))) (mvT hZ (hw _ (List.mem_of_getElem? (i := 19) rfl))) (mvT hZ (hw _ (List.mem_of_getElem? (i := 20) rfl))) (by decide) (backOf (W := 0) (rmF l Z a0 hw [] (FP.dadd u v1) h0 n0 Z0 hf) hZ (hw _ (List.mem_of_getElem? (i := 20) rfl)) (hw _ (List.mem_of_getElem? (i := 19) rfl)) (by decide) (by decide)) (g := (mkF m 57 #[.val (.ref a1), .val (.int b), .val (.double u), .second, .val (.double v1), .second] [(.double (FP.dadd u v1))])) rfl (by rw [hml]; rfl) (argsL := [(.double (FP.dadd u v1))]) (rest := []) (lenOf pd__D_Z rfl) rfl (by show 2 * 0 + _ ≤ _; exact Nat.le_of_eq rfl) (hb hby d1_57) (fun _ _ => ⟨rfl, e3, (by decide : 0 + 0 ≤ _), (by decide : 0 + 0 ≤ _)⟩)
  dsimp only [Pt.U, Pt.locs, Pt.cells, Pt.slots] at X4 l4 y4 z4 st4 hQ4
  subst l4 y4 z4
  obtain ⟨rfl, N4, e4⟩ := hQ4
  have NN4 := Fr.app NN3 N4
  obtain ⟨T5, h5, X5, e5, W5, st5⟩ := putF X4 hx hZ hown (host := "") (Or.inl (hw _ (List.mem_of_getElem? (i := 26) rfl))) Via.refl e4 F1 Ea (Or.inr ⟨(hw _ (List.mem_of_getElem? (i := 27) rfl)), rfl, hnm⟩) (hw _ (List.mem_of_getElem? (i := 4) rfl)) (ty := .int) (by decide) rfl rfl (g := (mkF m 81 #[.val (.ref a1), .val (.int b), .val (.double u), .second, .val (.double v1), .second] [(.int b), (.ref a1)])) rfl rfl (hb hby d1_81)
  have N5 := Fr.snoc X5 NN4 ge
  have Zs5 : n0 ≤ h5.size := Nat.le_trans Z0 (Keep.of_wr W5).1
  have Ea1 : Exa Z h5 a1 "com/example/lotwise/lotwise/model/LotMarket" := Ea.wr W5
  have B1 := F1.same W5
  have M1 := F2.other W5 (Or.inr (slot_ne (Or.inr (hw _ (List.mem_of_getElem? (i := 29) rfl))) (Or.inr (hw _ (List.mem_of_getElem? (i := 27) rfl))) (by decide) (t := .double) (t' := .int) (by decide) (by decide)))
  have S1 := F3.other W5 (Or.inr (slot_ne (Or.inr (hw _ (List.mem_of_getElem? (i := 31) rfl))) (Or.inr (hw _ (List.mem_of_getElem? (i := 27) rfl))) (by decide) (t := .double) (t' := .int) (by decide) (by decide)))
  obtain ⟨T6, h6, X6, e6, W6, st6⟩ := putF X5 hx hZ hown (host := "") (Or.inl (hw _ (List.mem_of_getElem? (i := 28) rfl))) Via.refl e5 M1 Ea1 (Or.inr ⟨(hw _ (List.mem_of_getElem? (i := 29) rfl)), rfl, hnm⟩) (hw _ (List.mem_of_getElem? (i := 4) rfl)) (ty := .double) (by decide) rfl rfl (g := (mkF m 86 #[.val (.ref a1), .val (.int b), .val (.double u), .second, .val (.double v1), .second] [(.double u), (.ref a1)])) rfl rfl (hb hby d1_86)
  have N6 := Fr.snoc X6 N5 ge
  have Zs6 : n0 ≤ h6.size := Nat.le_trans Zs5 (Keep.of_wr W6).1
  have Ea2 : Exa Z h6 a1 "com/example/lotwise/lotwise/model/LotMarket" := Ea1.wr W6
  have B2 := B1.other W6 (Or.inr (slot_ne (Or.inr (hw _ (List.mem_of_getElem? (i := 27) rfl))) (Or.inr (hw _ (List.mem_of_getElem? (i := 29) rfl))) (by decide) (t := .int) (t' := .double) (by decide) (by decide)))
  have M2 := M1.same W6
  have S2 := S1.other W6 (Or.inr (slot_ne (Or.inr (hw _ (List.mem_of_getElem? (i := 31) rfl))) (Or.inr (hw _ (List.mem_of_getElem? (i := 29) rfl))) (by decide) (t := .double) (t' := .double) (by decide) (by decide)))
  obtain ⟨T7, h7, X7, e7, W7, st7⟩ := putF X6 hx hZ hown (host := "") (Or.inl (hw _ (List.mem_of_getElem? (i := 30) rfl))) Via.refl e6 S2 Ea2 (Or.inr ⟨(hw _ (List.mem_of_getElem? (i := 31) rfl)), rfl, hnm⟩) (hw _ (List.mem_of_getElem? (i := 4) rfl)) (ty := .double) (by decide) rfl rfl (g := (mkF m 92 #[.val (.ref a1), .val (.int b), .val (.double u), .second, .val (.double v1), .second] [(.double v1), (.ref a1)])) rfl rfl (hb hby d1_92)
  have N7 := Fr.snoc X7 N6 ge
  have Zs7 : n0 ≤ h7.size := Nat.le_trans Zs6 (Keep.of_wr W7).1
  have B3 := B2.other W7 (Or.inr (slot_ne (Or.inr (hw _ (List.mem_of_getElem? (i := 27) rfl))) (Or.inr (hw _ (List.mem_of_getElem? (i := 31) rfl))) (by decide) (t := .int) (t' := .double) (by decide) (by decide)))
  have M3 := M2.other W7 (Or.inr (slot_ne (Or.inr (hw _ (List.mem_of_getElem? (i := 29) rfl))) (Or.inr (hw _ (List.mem_of_getElem? (i := 31) rfl))) (by decide) (t := .double) (t' := .double) (by decide) (by decide)))
  have S3 := S2.same W7
  have K3 : Keep h0 h7 [a1] := ((((Keep.refl _ _).wr W5 (Or.inl (List.mem_of_getElem? (i := 0) rfl))).wr W6 (Or.inl (List.mem_of_getElem? (i := 0) rfl))).wr W7 (Or.inl (List.mem_of_getElem? (i := 0) rfl)))
  have cc1 : Steps p.tables e below (s₁.setTop (entryFrame m #[(.ref a1), (.int b), (.double u), (.double v1)] 6)) (T7.setTop (mkF m 95 #[.val (.ref a1), .val (.int b), .val (.double u), .second, .val (.double v1), .second] [])) := c0.trans (by
    refine XS.aloadN X0.here hx rfl (hb hby d1_0) rfl rfl ?_
    refine st3.trans ?_
    show Steps p.tables e below (T3.setTop (mkF m 4 #[.val (.ref a1), .val (.int b), .val (.double u), .second, .val (.double v1), .second] [])) _
    refine XS.iloadN X3.here hx rfl (hb hby d1_4) rfl ?_
    refine XT.iconstV X3.here hx rfl ((1 : Int32)) (hb hby d1_5) (by decide) ?_
    refine XS.icmpYes X3.here hx rfl (pc0 := 6) (pc' := 23) rfl (hb hby d1_6) rfl (XT.ii_ge_t b1) (by decide) (by decide) ?_
    refine XS.dload X3.here hx rfl (hb hby d1_23) rfl ?_
    refine XS.dconst0 X3.here hx rfl (v := (0 : UInt64)) (hb hby d1_25) rfl ?_
    refine XS.dcmpS X3.here hx rfl (hb hby d1_26) rfl k1 ?_
    refine XS.ifNo X3.here hx rfl (hb hby d1_27) rfl (XT.i0_le_f (by decide)) ?_
    refine XS.dload X3.here hx rfl (hb hby d1_30) rfl ?_
    refine XS.dloadN X3.here hx rfl (hb hby d1_32) rfl ?_
    refine XS.dcmpS X3.here hx rfl (hb hby d1_33) rfl rfl ?_
    refine XS.ifYes X3.here hx rfl (pc0 := 34) (pc' := 53) rfl (hb hby d1_34) rfl (XT.i0_le_t k2) (by decide) (by decide) ?_
    refine XS.dloadN X3.here hx rfl (hb hby d1_53) rfl ?_
    refine XS.dload X3.here hx rfl (hb hby d1_54) rfl ?_
    refine XS.daddS X3.here hx rfl (hb hby d1_56) rfl hf.noNaN rfl ?_
    refine st4 _ ?_
    show Steps p.tables e below (T4.setTop (mkF m 60 #[.val (.ref a1), .val (.int b), .val (.double u), .second, .val (.double v1), .second] [(.int (1 : Int32))])) _
    refine XS.ifYes X4.here hx rfl (pc0 := 60) (pc' := 79) rfl (hb hby d1_60) rfl (XT.i0_ne_t (by decide)) (by decide) (by decide) ?_
    refine XS.aloadN X4.here hx rfl (hb hby d1_79) rfl rfl ?_
    refine XS.iloadN X4.here hx rfl (hb hby d1_80) rfl ?_
    refine st5 _ ?_
    refine XS.aloadN X5.here hx rfl (hb hby d1_84) rfl rfl ?_
    refine XS.dloadN X5.here hx rfl (hb hby d1_85) rfl ?_
    refine st6 _ ?_
    refine XS.aloadN X6.here hx rfl (hb hby d1_89) rfl rfl ?_
    refine XS.dload X6.here hx rfl (hb hby d1_90) rfl ?_
    refine st7 _ ?_
    exact Steps.refl _)
  obtain ⟨fs, hr, hrun, hended, hW, hsame⟩ := X7.leave (v := none) (fun _ => rfl)
  refine ⟨_, _, cc1.trans ?_, hrun, hended, _, _, rfl, ?_, ⟨_, rfl⟩, hW, hsame.mono (by decide) (by decide)⟩
  · exact X7.returnOut hx Bd.returns (hb hby d1_95) hr
  · show QI Z a1 b u v1 h0 n0 _ T7.heap _
    rw [e7]
    exact ⟨rfl, N7, K3, B3, M3, S3⟩
theorem d6_0 : decode prog_12_method_3_code 0 = .ok (.aload_n 0, 1) := by decide +kernel
theorem d6_1 : decode prog_12_method_3_code 1 = .ok (.getfield 32, 3) := by decide +kernel
theorem d6_4 : decode prog_12_method_3_code 4 = .ok (.aload_n 0, 1) := by decide +kernel
theorem d6_5 : decode prog_12_method_3_code 5 = .ok (.getfield 36, 3) := by decide +kernel
theorem d6_8 : decode prog_12_method_3_code 8 = .ok (.aload_n 0, 1) := by decide +kernel
theorem d6_9 : decode prog_12_method_3_code 9 = .ok (.getfield 26, 3) := by decide +kernel
theorem d6_12 : decode prog_12_method_3_code 12 = .ok (.iconst 1, 1) := by decide +kernel
theorem d6_13 : decode prog_12_method_3_code 13 = .ok (.isub, 1) := by decide +kernel
theorem d6_14 : decode prog_12_method_3_code 14 = .ok (.i2d, 1) := by decide +kernel
theorem d6_15 : decode prog_12_method_3_code 15 = .ok (.ldc2_w 39, 3) := by decide +kernel
theorem d6_18 : decode prog_12_method_3_code 18 = .ok (.dload_n 1, 1) := by decide +kernel
theorem d6_19 : decode prog_12_method_3_code 19 = .ok (.dmul, 1) := by decide +kernel
theorem d6_20 : decode prog_12_method_3_code 20 = .ok (.dsub, 1) := by decide +kernel
theorem d6_21 : decode prog_12_method_3_code 21 = .ok (.aload_n 0, 1) := by decide +kernel
theorem d6_22 : decode prog_12_method_3_code 22 = .ok (.getfield 26, 3) := by decide +kernel
theorem d6_25 : decode prog_12_method_3_code 25 = .ok (.i2d, 1) := by decide +kernel
theorem d6_26 : decode prog_12_method_3_code 26 = .ok (.dconst 1, 1) := by decide +kernel
theorem d6_27 : decode prog_12_method_3_code 27 = .ok (.dadd, 1) := by decide +kernel
theorem d6_28 : decode prog_12_method_3_code 28 = .ok (.ddiv, 1) := by decide +kernel
theorem d6_29 : decode prog_12_method_3_code 29 = .ok (.dmul, 1) := by decide +kernel
theorem d6_30 : decode prog_12_method_3_code 30 = .ok (.dadd, 1) := by decide +kernel
theorem d6_31 : decode prog_12_method_3_code 31 = .ok (.dreturn, 1) := by decide +kernel
theorem pn_6 : plainName "com/example/lotwise/lotwise/model/LotMarket" = true := by first | (simp [plainName, overriddenIn]; done) | decide +kernel
theorem pn_law : plainName "com/example/lotwise/lotwise/model/LotMarketPricePinLaw" = true := by first | (simp [plainName, overriddenIn]; done) | decide +kernel
def QP (r : UInt64) (h0 : Heap) (n0 : Nat) (v : Option Value) (h : Heap) (L : List Loc) : Prop := v = some (.double r) ∧ Fr n0 L ∧ h = h0
set_option maxRecDepth 65536 in
set_option maxHeartbeats 40000000 in
theorem rmP (l : Launch) (Z : State) (a0 : Array Value) (hw : ∀ d ∈ tables_1, d.before a0 Z = true) (ws : List Jvm.Cond) (a1 : Addr) (u : UInt64) (v1 : UInt64) (b : Int32) (y : UInt64) (h0 : Heap) (n0 : Nat) (Z0 : n0 ≤ h0.size) (F1 : Fld Z h0 a1 "com/example/lotwise/lotwise/model/LotMarket" "bidders" "I" (.int b)) (F2 : Fld Z h0 a1 "com/example/lotwise/lotwise/model/LotMarket" "mean" "D" (.double u)) (F3 : Fld Z h0 a1 "com/example/lotwise/lotwise/model/LotMarket" "spread" "D" (.double v1)) (hn : own_prN u v1 b y) :
    MetFree l (⟨"com/example/lotwise/lotwise/model/LotMarket", "price", "(D)D"⟩ : MethodName) (head1 (Jvm.Cond.code (⟨"com/example/lotwise/lotwise/model/LotMarket", "price", "(D)D"⟩ : MethodName) prog_12_method_3_code 3 (some .double) :: ws) ({ frames := 0, cells := 0, slots := 0, locals := 0 } : Room)) (fun a U => a = #[(.ref a1), (.double y)] ∧ Z.Warmed39 U.vm ∧ U.heap = h0) (fun _ _ _ _ _ => True) (fun _ U o U' => ∃ v L, o = .returned v ∧ QP (own_pr u v1 b y) h0 n0 v U'.heap L ∧ FrameEnd U o U' L ({ frames := 0, cells := 0, slots := 0, locals := 0 } : Room).cells ({ frames := 0, cells := 0, slots := 0, locals := 0 } : Room).slots) := by
  refine MetFree.of_bodySF (plainFor_of_name pn_6) hisR ?_
  intro p e s m args below meth c s₁ Bd hml0 hP hK
  obtain ⟨rfl, hZ, hh⟩ := hP
  have hx := Bd.exec
  have hby := Bd.bytes
  have hml : c.maxLocals = 3 := hml0
  have hown : s.vm.findClass "com/example/lotwise/lotwise/model/LotMarket" = some m.cls := findClass_of_methodNamed Bd.named
  have hnm := (name_of_methodNamed Bd.named Bd.method).1
  have X0 : Stand p l e ({ frames := 0, cells := 0, slots := 0, locals := 0 } : Room) s m #[(.ref a1), (.double y)] below meth c s₁ [] 0 0 := Stand.of_body Bd
  have e0 : s₁.heap = h0 := by rw [← hh, Bd.state]; rfl
  have N0 := Fr.nil n0
  have c0 : Steps p.tables e below (s₁.setTop (entryFrame m #[(.ref a1), (.double y)] 3)) (s₁.setTop (mkF m 0 #[.val (.ref a1), .val (.double y), .second] [])) := XT.entry rfl
  obtain ⟨m1, m2, m3, m4, m5, m6⟩ := hn
  obtain ⟨T8, X8, e8, st8⟩ := getF X0 hx hZ hown (host := "") (Or.inl (hw _ (List.mem_of_getElem? (i := 28) rfl))) Via.refl e0 F2 (g := (mkF m 1 #[.val (.ref a1), .val (.double y), .second] [(.ref a1)])) rfl rfl (hb hby d6_1)
  obtain ⟨T9, X9, e9, st9⟩ := getF X8 hx hZ hown (host := "") (Or.inl (hw _ (List.mem_of_getElem? (i := 30) rfl))) Via.refl e8 F3 (g := (mkF m 5 #[.val (.ref a1), .val (.double y), .second] [(.ref a1), (.double u)])) rfl rfl (hb hby d6_5)
  obtain ⟨T10, X10, e10, st10⟩ := getF X9 hx hZ hown (host := "") (Or.inl (hw _ (List.mem_of_getElem? (i := 26) rfl))) Via.refl e9 F1 (g := (mkF m 9 #[.val (.ref a1), .val (.double y), .second] [(.ref a1), (.double v1), (.double u)])) rfl rfl (hb hby d6_9)
  obtain ⟨T11, X11, e11, st11⟩ := getF X10 hx hZ hown (host := "") (Or.inl (hw _ (List.mem_of_getElem? (i := 26) rfl))) Via.refl e10 F1 (g := (mkF m 22 #[.val (.ref a1), .val (.double y), .second] [(.ref a1), (.double (FP.dsub (FP.i2d (b - (1 : Int32))) (FP.dmul (4611686018427387904 : UInt64) y))), (.double v1), (.double u)])) rfl rfl (hb hby d6_22)
  have cc1 : Steps p.tables e below (s₁.setTop (entryFrame m #[(.ref a1), (.double y)] 3)) (T11.setTop (mkF m 31 #[.val (.ref a1), .val (.double y), .second] [(.double (FP.dadd u (FP.dmul v1 (FP.ddiv (FP.dsub (FP.i2d (b - (1 : Int32))) (FP.dmul (4611686018427387904 : UInt64) y)) (FP.dadd (FP.i2d b) (4607182418800017408 : UInt64))))))])) := c0.trans (by
    refine XS.aloadN X0.here hx rfl (hb hby d6_0) rfl rfl ?_
    refine st8 _ ?_
    refine XS.aloadN X8.here hx rfl (hb hby d6_4) rfl rfl ?_
    refine st9 _ ?_
    refine XS.aloadN X9.here hx rfl (hb hby d6_8) rfl rfl ?_
    refine st10 _ ?_
    refine XT.iconstV X10.here hx rfl ((1 : Int32)) (hb hby d6_12) (by decide) ?_
    refine XS.isub X10.here hx rfl (hb hby d6_13) rfl ?_
    refine XS.i2dS X10.here hx rfl (hb hby d6_14) rfl rfl ?_
    refine Stand.ldc2DoubleC X10 hx hown (b := (4611686018427387904 : UInt64)) (mvT hZ (hw _ (List.mem_of_getElem? (i := 37) rfl))) (g := (mkF m 15 #[.val (.ref a1), .val (.double y), .second] [(.double (FP.i2d (b - (1 : Int32)))), (.double v1), (.double u)])) rfl (hb hby d6_15) _ ?_
    refine XS.dloadN X10.here hx rfl (hb hby d6_18) rfl ?_
    refine XS.dmulS X10.here hx rfl (hb hby d6_19) rfl m1 rfl ?_
    refine XS.dsubS X10.here hx rfl (hb hby d6_20) rfl m2 rfl ?_
    refine XS.aloadN X10.here hx rfl (hb hby d6_21) rfl rfl ?_
    refine st11 _ ?_
    refine XS.i2dS X11.here hx rfl (hb hby d6_25) rfl rfl ?_
    refine XS.dconst1 X11.here hx rfl (v := (4607182418800017408 : UInt64)) (hb hby d6_26) rfl ?_
    refine XS.daddS X11.here hx rfl (hb hby d6_27) rfl m3 rfl ?_
    refine XS.ddivS X11.here hx rfl (hb hby d6_28) rfl m4 rfl ?_
    refine XS.dmulS X11.here hx rfl (hb hby d6_29) rfl m5 rfl ?_
    refine XS.daddS X11.here hx rfl (hb hby d6_30) rfl m6 rfl ?_
    exact Steps.refl _)
  obtain ⟨fs, hr, hrun, hended, hW, hsame⟩ := X11.leave (v := some (.double (own_pr u v1 b y))) (fun h => by rw [Bd.returns] at h; cases h)
  refine ⟨_, _, cc1.trans ?_, hrun, hended, _, _, rfl, ?_, ⟨_, rfl⟩, hW, hsame.mono (by decide) (by decide)⟩
  · exact retD X11 hx Bd.returns (hb hby d6_31) hr
  · show QP (own_pr u v1 b y) h0 n0 _ T11.heap _
    rw [e11]
    exact ⟨rfl, N0, rfl⟩
theorem own_a1 (x m : Int32) (k : Nat) (hk : k ≤ 20) (hm : m.toBitVec.toNat = 2 ^ k - 1) : ((1 : Int32) + (x &&& m)).toInt = 1 + x.toInt % (2 ^ k : Nat) := by
  have h := c_mask x m k (by omega) hm
  have a := c_iadd 1 (x &&& m)
  have r := rng32 (1 + (x &&& m))
  have e1 : (1 : Int32).toInt = 1 := rfl
  have p : (2 ^ k : Nat) ≤ 1048576 := by
    have := Nat.pow_le_pow_right (show 0 < 2 by decide) hk
    have e2 : (2 : Nat) ^ 20 = 1048576 := by decide
    omega
  have p0 := Nat.two_pow_pos k
  have q1 := Int.emod_nonneg x.toInt (show ((2 ^ k : Nat) : Int) ≠ 0 by omega)
  have q2 := Int.emod_lt_of_pos x.toInt (show (0 : Int) < ((2 ^ k : Nat) : Int) by omega)
  omega
theorem own_sp (x : Int32) : 1 ≤ ((1 : Int32) + (x &&& (65535 : Int32))).toInt ∧ ((1 : Int32) + (x &&& (65535 : Int32))).toInt ≤ 65536 := by
  have h := own_a1 x 65535 16 (by decide) (by decide)
  have : ((2 ^ 16 : Nat) : Int) = 65536 := by decide
  rw [this] at h
  omega
theorem own_bb (x : Int32) : 1 ≤ ((1 : Int32) + (x &&& (1048575 : Int32))).toInt ∧ ((1 : Int32) + (x &&& (1048575 : Int32))).toInt ≤ 1048576 := by
  have h := own_a1 x 1048575 20 (by decide) (by decide)
  have : ((2 ^ 20 : Nat) : Int) = 1048576 := by decide
  rw [this] at h
  omega
theorem own_me {s : Int32} (x : Int32) (hs : 1 ≤ s.toInt ∧ s.toInt ≤ 65536) : s.toInt ≤ (s + (x &&& (65535 : Int32))).toInt ∧ (s + (x &&& (65535 : Int32))).toInt ≤ 131072 := by
  have h := c_and x 65535 (by decide)
  have e1 : (65535 : Int32).toInt = 65535 := rfl
  have a := c_iadd s (x &&& 65535)
  have r := rng32 (s + (x &&& 65535))
  omega
theorem own_p (x : Int32) : 1 ≤ ((1 : Int32) + (XT.ushr x 20 - (XT.ushr x 20 / (20 : Int32)) * (20 : Int32))).toInt ∧ ((1 : Int32) + (XT.ushr x 20 - (XT.ushr x 20 / (20 : Int32)) * (20 : Int32))).toInt ≤ 20 := by
  have u : (XT.ushr x 20).toInt = (x.toInt % 4294967296) / (2 ^ 20 : Nat) := c_iushr x 20 20 (by decide) (by decide)
  rw [irem_eq_mod]
  have h := c_irem (XT.ushr x 20) 20 20 rfl
  have p : ((2 ^ 20 : Nat) : Int) = 1048576 := by decide
  rw [p] at u
  have a := c_iadd 1 (XT.ushr x 20 % 20)
  have r := rng32 (1 + XT.ushr x 20 % 20)
  have e1 : (1 : Int32).toInt = 1 := rfl
  omega
theorem own_bp {p : Int32} (h : 1 ≤ p.toInt ∧ p.toInt ≤ 20) : ∃ k : Nat, k ≤ 20 ∧ (((1 : Int32) <<< (p &&& 31)) - (1 : Int32)).toInt + 1 = 2 ^ k ∧ 1 ≤ (((1 : Int32) <<< (p &&& 31)) - (1 : Int32)).toInt ∧ (((1 : Int32) <<< (p &&& 31)) - (1 : Int32)).toInt ≤ 1048576 := by
  have t : ∀ k : Fin 21, 1 ≤ k.val → (((1 : Int32) <<< ((Int32.ofNat k.val) &&& 31)) - (1 : Int32)).toInt + 1 = 2 ^ k.val ∧ 1 ≤ (((1 : Int32) <<< ((Int32.ofNat k.val) &&& 31)) - (1 : Int32)).toInt ∧ (((1 : Int32) <<< ((Int32.ofNat k.val) &&& 31)) - (1 : Int32)).toInt ≤ 1048576 := by decide +kernel
  have e : p = Int32.ofNat p.toInt.toNat := by
    apply Int32.toInt_inj.mp
    rw [Int32.toInt_ofNat', show Int32.size = 4294967296 from rfl]
    rw [Int.bmod_eq_of_le] <;> omega
  have q := t ⟨p.toInt.toNat, by omega⟩ (by show 1 ≤ p.toInt.toNat; omega)
  rw [e]
  refine ⟨p.toInt.toNat, by omega, ?_⟩
  exact q
theorem own_kk {b : Int32} (x : Int32) (hb : 1 ≤ b.toInt) : 1 ≤ ((1 : Int32) + ((x &&& (2147483647 : Int32)) - ((x &&& (2147483647 : Int32)) / b) * b)).toInt ∧ ((1 : Int32) + ((x &&& (2147483647 : Int32)) - ((x &&& (2147483647 : Int32)) / b) * b)).toInt ≤ b.toInt := by
  rw [irem_eq_mod]
  have h := c_and x 2147483647 (by decide)
  have q := (c_iremV (x &&& 2147483647) b).1 h.1 (by omega)
  have a := c_iadd 1 ((x &&& 2147483647) % b)
  have r := rng32 (1 + (x &&& 2147483647) % b)
  have rb := rng32 b
  have e1 : (1 : Int32).toInt = 1 := rfl
  omega
theorem own_ne0 {b : Int32} (hb : 1 ≤ b.toInt) : b ≠ 0 := fun q => by rw [q] at hb; exact absurd hb (by decide)
/-- the long of the law's last equation -/
theorem own_long {me sp b k : Int32} (hm : 1 ≤ me.toInt ∧ me.toInt ≤ 131072) (hs : 1 ≤ sp.toInt ∧ sp.toInt ≤ 65536) (hb : 1 ≤ b.toInt ∧ b.toInt ≤ 1048576) (hk : 1 ≤ k.toInt ∧ k.toInt ≤ b.toInt) :
    (((me.toInt64 + sp.toInt64) * (b + (1 : Int32)).toInt64) - (((2 : Int64) * sp.toInt64) * (k + (1 : Int32)).toInt64)).toInt = me.toInt * (b.toInt + 1) + sp.toInt * (b.toInt - 1 - 2 * k.toInt) ∧ (me.toInt * (b.toInt + 1) + sp.toInt * (b.toInt - 1 - 2 * k.toInt)).natAbs < 1099511627776 := by
  have eb : (b + 1).toInt = b.toInt + 1 := by
    have a := c_iadd b 1
    have r := rng32 (b + 1)
    have e : (1 : Int32).toInt = 1 := rfl
    omega
  have ek : (k + 1).toInt = k.toInt + 1 := by
    have a := c_iadd k 1
    have r := rng32 (k + 1)
    have e : (1 : Int32).toInt = 1 := rfl
    omega
  have e1 : (me.toInt64 + sp.toInt64).toInt = me.toInt + sp.toInt := by
    rw [XT.add64] <;> rw [c_i2l, c_i2l]
    constructor <;> omega
  have q1 := own_mb (x := me.toInt + sp.toInt) (y := b.toInt + 1) (A := 262144) (B := 2097152) (by omega) (by omega)
  have e2 : ((me.toInt64 + sp.toInt64) * (b + (1 : Int32)).toInt64).toInt = (me.toInt + sp.toInt) * (b.toInt + 1) := by
    rw [XT.mul64] <;> rw [e1, c_i2l, eb]
    constructor <;> omega
  have e3 : ((2 : Int64) * sp.toInt64).toInt = 2 * sp.toInt := by
    rw [XT.mul64] <;> rw [c_i2l]
    · rfl
    · show XT.fits64 (2 * sp.toInt); constructor <;> omega
  have q2 := own_mb (x := 2 * sp.toInt) (y := k.toInt + 1) (A := 131072) (B := 2097152) (by omega) (by omega)
  have e4 : (((2 : Int64) * sp.toInt64) * (k + (1 : Int32)).toInt64).toInt = (2 * sp.toInt) * (k.toInt + 1) := by
    rw [XT.mul64] <;> rw [e3, c_i2l, ek]
    constructor <;> omega
  have e5 : (me.toInt + sp.toInt) * (b.toInt + 1) - (2 * sp.toInt) * (k.toInt + 1) = me.toInt * (b.toInt + 1) + sp.toInt * (b.toInt - 1 - 2 * k.toInt) := by grind
  rw [← e5]
  constructor
  · rw [XT.sub64] <;> rw [e2, e4]
    constructor <;> omega
  · omega
def Q0 (h0 : Heap) (n0 : Nat) (v : Option Value) (h : Heap) (L : List Loc) : Prop := v = some (.int 1) ∧ Fr n0 L
set_option maxRecDepth 65536 in
set_option maxHeartbeats 40000000 in
theorem rm0 (l : Launch) (Z : State) (a0 : Array Value) (hw : ∀ d ∈ tables_1, d.before a0 Z = true) (ws : List Jvm.Cond) (p1 : Int32) (p2 : Int32) (p3 : Int32) (p4 : Int32) (p5 : Int32) (h0 : Heap) (n0 : Nat) (Z0 : n0 ≤ h0.size)  :
    MetFree l x (head1 (Jvm.Cond.code x code maxLocals ret :: ws) room_1) (fun a U => a = #[(.int p1), (.int p2), (.int p3), (.int p4), (.int p5)] ∧ Z.Warmed39 U.vm ∧ U.heap = h0) (fun _ _ _ _ _ => True) (fun _ U o U' => ∃ v L, o = .returned v ∧ Q0 h0 n0 v U'.heap L ∧ FrameEnd U o U' L room_1.cells room_1.slots) := by
  refine MetFree.of_bodySF (plainFor_of_name pn_law) hisR ?_
  intro p e s m args below meth c s₁ Bd hml0 hP hK
  obtain ⟨rfl, hZ, hh⟩ := hP
  have hx := Bd.exec
  have hby := Bd.bytes
  have hml : c.maxLocals = 28 := hml0
  have hown : s.vm.findClass "com/example/lotwise/lotwise/model/LotMarketPricePinLaw" = some m.cls := findClass_of_methodNamed Bd.named
  have hnm := (name_of_methodNamed Bd.named Bd.method).1
  have X0 : Stand p l e room_1 s m #[(.int p1), (.int p2), (.int p3), (.int p4), (.int p5)] below meth c s₁ [] 0 0 := Stand.of_body Bd
  have e0 : s₁.heap = h0 := by rw [← hh, Bd.state]; rfl
  have N0 := Fr.nil n0
  have c0 : Steps p.tables e below (s₁.setTop (entryFrame m #[(.int p1), (.int p2), (.int p3), (.int p4), (.int p5)] maxLocals)) (s₁.setTop (mkF m 0 #[.val (.int p1), .val (.int p2), .val (.int p3), .val (.int p4), .val (.int p5), .unset, .unset, .unset, .unset, .unset, .unset, .unset, .unset, .unset, .unset, .unset, .unset, .unset, .unset, .unset, .unset, .unset, .unset, .unset, .unset, .unset, .unset, .unset] [])) := XT.entry rfl
  obtain ⟨sp, hsp⟩ : ∃ z, z = ((1 : Int32) + (p5 &&& (65535 : Int32))) := ⟨_, rfl⟩
  have hs : 1 ≤ sp.toInt ∧ sp.toInt ≤ 65536 := by rw [hsp]; exact own_sp p5
  obtain ⟨me, hme⟩ : ∃ z, z = (sp + (p4 &&& (65535 : Int32))) := ⟨_, rfl⟩
  have hm0 : sp.toInt ≤ me.toInt ∧ me.toInt ≤ 131072 := by rw [hme]; exact own_me p4 hs
  have hm : 1 ≤ me.toInt ∧ me.toInt ≤ 131072 := by omega
  obtain ⟨bb, hbb⟩ : ∃ z, z = ((1 : Int32) + (p1 &&& (1048575 : Int32))) := ⟨_, rfl⟩
  have hB : 1 ≤ bb.toInt ∧ bb.toInt ≤ 1048576 := by rw [hbb]; exact own_bb p1
  obtain ⟨pp, hpp⟩ : ∃ z, z = ((1 : Int32) + ((XT.ushr p1 (20 : Int32)) - ((XT.ushr p1 (20 : Int32)) / (20 : Int32)) * (20 : Int32))) := ⟨_, rfl⟩
  have hp : 1 ≤ pp.toInt ∧ pp.toInt ≤ 20 := by rw [hpp]; exact own_p p1
  obtain ⟨bp, hbp⟩ : ∃ z, z = (((1 : Int32) <<< (pp &&& 31)) - (1 : Int32)) := ⟨_, rfl⟩
  obtain ⟨ex, hex, hex2, hq⟩ : ∃ k : Nat, k ≤ 20 ∧ bp.toInt + 1 = 2 ^ k ∧ (1 ≤ bp.toInt ∧ bp.toInt ≤ 1048576) := by rw [hbp]; exact own_bp hp
  obtain ⟨kk, hkk⟩ : ∃ z, z = ((1 : Int32) + ((p2 &&& (2147483647 : Int32)) - ((p2 &&& (2147483647 : Int32)) / bb) * bb)) := ⟨_, rfl⟩
  have hk : 1 ≤ kk.toInt ∧ kk.toInt ≤ bb.toInt := by rw [hkk]; exact own_kk p2 hB.1
  obtain ⟨k2, hk2⟩ : ∃ z, z = ((1 : Int32) + ((p3 &&& (2147483647 : Int32)) - ((p3 &&& (2147483647 : Int32)) / bb) * bb)) := ⟨_, rfl⟩
  have hk2b : 1 ≤ k2.toInt ∧ k2.toInt ≤ bb.toInt := by rw [hk2]; exact own_kk p3 hB.1
  obtain ⟨kp, hkp⟩ : ∃ z, z = ((1 : Int32) + ((p2 &&& (2147483647 : Int32)) - ((p2 &&& (2147483647 : Int32)) / bp) * bp)) := ⟨_, rfl⟩
  have hkpb : 1 ≤ kp.toInt ∧ kp.toInt ≤ bp.toInt := by rw [hkp]; exact own_kk p2 hq.1
  have Im := own_In.i2d me
  have Is := own_In.i2d sp
  have c1 : cmpValue (FP.dcmp (FP.i2d sp) 0) .l = 1 := Is.gt own_In0 (by omega) _
  have c2 : ¬ (0 : Int32) < cmpValue (FP.dcmp (FP.i2d sp) (FP.i2d me)) .l := Is.le Im (by omega) _
  have hf : Fl.Fin64 (FP.dadd (FP.i2d me) (FP.i2d sp)) := Fl.fin64_core.mpr (Im.add Is (by decide) (by omega) (by omega)).1
  have bl1 : ¬ bb < (1 : Int32) := by rw [Int32.lt_iff_toInt_lt]; have e : (1 : Int32).toInt = 1 := rfl; omega
  have bl2 : ¬ bp < (1 : Int32) := by rw [Int32.lt_iff_toInt_lt]; have e : (1 : Int32).toInt = 1 := rfl; omega
  obtain ⟨T12, h12, X12, e12, E12, A12, D12, -, st12⟩ := newO X0 hx hZ hown (hw _ (List.mem_of_getElem? (i := 3) rfl)) (hw _ (List.mem_of_getElem? (i := 4) rfl)) (hw _ (List.mem_of_getElem? (i := 5) rfl)) e0 (g := (mkF m 78 #[.val (.int p1), .val (.int p2), .val (.int p3), .val (.int p4), .val (.int p5), .val (.int sp), .val (.int me), .val (.int bb), .val (.int pp), .val (.int bp), .val (.int kk), .val (.int k2), .val (.int kp), .unset, .unset, .unset, .unset, .unset, .unset, .unset, .unset, .unset, .unset, .unset, .unset, .unset, .unset, .unset] [])) rfl (hb hby at_78) (by decide) (by decide)
  obtain ⟨a12, g12⟩ : ∃ z, z = h0.size := ⟨_, rfl⟩
  rw [← g12] at A12 D12 st12
  have Zs12 : n0 ≤ h12.size := Nat.le_trans Z0 E12.1
  have gn12 : n0 ≤ a12 := Nat.le_trans Z0 (Nat.le_of_eq g12.symm)
  obtain ⟨_, _, ⟨T13, L13, k13, n13⟩, -, X13, ⟨Lc13, hQ13, l13, y13, z13⟩, st13⟩ := X12.specialBack hx (y := (⟨"com/example/lotwise/lotwise/model/LotMarket", "<init>", "(IDD)V"⟩ : MethodName)) rfl hown (mvT hZ (hw _ (List.mem_of_getElem? (i := 6) rfl))) (mvT hZ (hw _ (List.mem_of_getElem? (i := 7) rfl))) (mvT hZ (hw _ (List.mem_of_getElem? (i := 8) rfl))) (by decide) (backOf (W := 1) (rmI l Z a0 hw [] a12 bb (FP.i2d me) (FP.i2d sp) h12 n0 Zs12 A12 (D12 (Or.inr (hw _ (List.mem_of_getElem? (i := 27) rfl))) (ty := .int) (by decide)) (D12 (Or.inr (hw _ (List.mem_of_getElem? (i := 29) rfl))) (ty := .double) (by decide)) (D12 (Or.inr (hw _ (List.mem_of_getElem? (i := 31) rfl))) (ty := .double) (by decide)) gn12 bl1 c1 c2 hf) hZ (hw _ (List.mem_of_getElem? (i := 8) rfl)) (hw _ (List.mem_of_getElem? (i := 5) rfl)) (by decide) (by decide)) (g := (mkF m 90 #[.val (.int p1), .val (.int p2), .val (.int p3), .val (.int p4), .val (.int p5), .val (.int sp), .val (.int me), .val (.int bb), .val (.int pp), .val (.int bp), .val (.int kk), .val (.int k2), .val (.int kp), .unset, .unset, .unset, .unset, .unset, .unset, .unset, .unset, .unset, .unset, .unset, .unset, .unset, .unset, .unset] [(.double (FP.i2d sp)), (.double (FP.i2d me)), (.int bb), (.ref a12), (.ref a12)])) rfl (by rw [hml]; rfl) (Steps.refl _) (a := a12) (argsL := [(.int bb), (.double (FP.i2d me)), (.double (FP.i2d sp))]) (rest := [(.ref a12)]) (lenOf pd__IDD_V rfl) rfl (by show 2 * 0 + _ ≤ _; exact Nat.le_of_eq rfl) (hb hby at_90) (fun _ _ => ⟨rfl, e12, (by decide : 1 + 0 ≤ _), (by decide : 3 + 0 ≤ _)⟩)
  dsimp only [Pt.U, Pt.locs, Pt.cells, Pt.slots] at X13 l13 y13 z13 st13 hQ13
  subst l13 y13 z13
  obtain ⟨rfl, N13, K13, FBA, FMA, FSA⟩ := hQ13
  have NN13 := Fr.app N0 N13
  have EcA : Exa Z T13.heap a12 "com/example/lotwise/lotwise/model/LotMarket" := A12.keep K13
  have ZcA : n0 ≤ T13.heap.size := Nat.le_trans Zs12 K13.1
  obtain ⟨hqA, e_qA⟩ : ∃ z, T13.heap = z := ⟨_, rfl⟩
  rw [e_qA] at EcA ZcA FBA FMA FSA K13
  obtain ⟨T14, h14, X14, e14, E14, A14, D14, -, st14⟩ := newO X13 hx hZ hown (hw _ (List.mem_of_getElem? (i := 3) rfl)) (hw _ (List.mem_of_getElem? (i := 4) rfl)) (hw _ (List.mem_of_getElem? (i := 5) rfl)) e_qA (g := (mkF m 95 #[.val (.int p1), .val (.int p2), .val (.int p3), .val (.int p4), .val (.int p5), .val (.int sp), .val (.int me), .val (.int bb), .val (.int pp), .val (.int bp), .val (.int kk), .val (.int k2), .val (.int kp), .val (.ref a12), .unset, .unset, .unset, .unset, .unset, .unset, .unset, .unset, .unset, .unset, .unset, .unset, .unset, .unset] [])) rfl (hb hby at_95) (by decide) (by decide)
  obtain ⟨a14, g14⟩ : ∃ z, z = hqA.size := ⟨_, rfl⟩
  rw [← g14] at A14 D14 st14
  have Zs14 : n0 ≤ h14.size := Nat.le_trans ZcA E14.1
  have gn14 : n0 ≤ a14 := Nat.le_trans ZcA (Nat.le_of_eq g14.symm)
  have FBA1 := FBA.ext E14
  have FMA1 := FMA.ext E14
  have FSA1 := FSA.ext E14
  have EcA1 := EcA.ext E14
  have neA : a12 ≠ a14 := Nat.ne_of_lt (Nat.lt_of_lt_of_le EcA.lt (Nat.le_of_eq g14.symm))
  obtain ⟨_, _, ⟨T15, L15, k15, n15⟩, -, X15, ⟨Lc15, hQ15, l15, y15, z15⟩, st15⟩ := X14.specialBack hx (y := (⟨"com/example/lotwise/lotwise/model/LotMarket", "<init>", "(IDD)V"⟩ : MethodName)) rfl hown (mvT hZ (hw _ (List.mem_of_getElem? (i := 6) rfl))) (mvT hZ (hw _ (List.mem_of_getElem? (i := 7) rfl))) (mvT hZ (hw _ (List.mem_of_getElem? (i := 8) rfl))) (by decide) (backOf (W := 1) (rmI l Z a0 hw [] a14 bp (FP.i2d me) (FP.i2d sp) h14 n0 Zs14 A14 (D14 (Or.inr (hw _ (List.mem_of_getElem? (i := 27) rfl))) (ty := .int) (by decide)) (D14 (Or.inr (hw _ (List.mem_of_getElem? (i := 29) rfl))) (ty := .double) (by decide)) (D14 (Or.inr (hw _ (List.mem_of_getElem? (i := 31) rfl))) (ty := .double) (by decide)) gn14 bl2 c1 c2 hf) hZ (hw _ (List.mem_of_getElem? (i := 8) rfl)) (hw _ (List.mem_of_getElem? (i := 5) rfl)) (by decide) (by decide)) (g := (mkF m 107 #[.val (.int p1), .val (.int p2), .val (.int p3), .val (.int p4), .val (.int p5), .val (.int sp), .val (.int me), .val (.int bb), .val (.int pp), .val (.int bp), .val (.int kk), .val (.int k2), .val (.int kp), .val (.ref a12), .unset, .unset, .unset, .unset, .unset, .unset, .unset, .unset, .unset, .unset, .unset, .unset, .unset, .unset] [(.double (FP.i2d sp)), (.double (FP.i2d me)), (.int bp), (.ref a14), (.ref a14)])) rfl (by rw [hml]; rfl) (Steps.refl _) (a := a14) (argsL := [(.int bp), (.double (FP.i2d me)), (.double (FP.i2d sp))]) (rest := [(.ref a14)]) (lenOf pd__IDD_V rfl) rfl (by show 2 * 0 + _ ≤ _; exact Nat.le_of_eq rfl) (hb hby at_107) (fun _ _ => ⟨rfl, e14, (by decide : 2 + 0 ≤ _), (by decide : 6 + 0 ≤ _)⟩)
  dsimp only [Pt.U, Pt.locs, Pt.cells, Pt.slots] at X15 l15 y15 z15 st15 hQ15
  subst l15 y15 z15
  obtain ⟨rfl, N15, K15, FBB, FMB, FSB⟩ := hQ15
  have NN15 := Fr.app NN13 N15
  have EcB : Exa Z T15.heap a14 "com/example/lotwise/lotwise/model/LotMarket" := A14.keep K15
  have ZcB : n0 ≤ T15.heap.size := Nat.le_trans Zs14 K15.1
  obtain ⟨hqB, e_qB⟩ : ∃ z, T15.heap = z := ⟨_, rfl⟩
  rw [e_qB] at EcB ZcB FBB FMB FSB K15
  have FBA2 := FBA1.keep K15 (ninS neA nin0)
  have FMA2 := FMA1.keep K15 (ninS neA nin0)
  have FSA2 := FSA1.keep K15 (ninS neA nin0)
  have EcA2 := EcA1.keep K15
  obtain ⟨l1, g2, g1, gl, gh, gs, gn, IK⟩ := own_k hB hm hs hk
  obtain ⟨l2, f2, f1, fl, fh, fs2, fn, IK2⟩ := own_k hB hm hs hk2b
  obtain ⟨gnb, IB⟩ := own_kb hB hm hs
  obtain ⟨pk, e_pk⟩ : ∃ z, (own_pr (FP.i2d me) (FP.i2d sp) bb (FP.i2d kk)) = z := ⟨_, rfl⟩
  obtain ⟨cq16, kq16, q16a, q16b, q16c⟩ := isOf hZ e_qB EcA2
  obtain ⟨_, _, ⟨T16, L16, k16, n16⟩, -, X16, ⟨Lc16, hQ16, l16, y16, z16⟩, st16⟩ := X15.virtualBack hx (y := (⟨"com/example/lotwise/lotwise/model/LotMarket", "price", "(D)D"⟩ : MethodName)) (z := (⟨"com/example/lotwise/lotwise/model/LotMarket", "price", "(D)D"⟩ : MethodName)) hown (mvT hZ (hw _ (List.mem_of_getElem? (i := 32) rfl))) (mvT hZ (hw _ (List.mem_of_getElem? (i := 33) rfl))) (notFace_of_selects (args := #[]) (mvT hZ (hw _ (List.mem_of_getElem? (i := 35) rfl)))) (mvT hZ (hw _ (List.mem_of_getElem? (i := 35) rfl))) (mvT hZ (hw _ (List.mem_of_getElem? (i := 34) rfl))) (by decide) (backOf (W := 0) (rmP l Z a0 hw [] a12 (FP.i2d me) (FP.i2d sp) bb (FP.i2d kk) hqB n0 ZcB FBA2 FMA2 FSA2 gn) hZ (hw _ (List.mem_of_getElem? (i := 36) rfl)) (hw _ (List.mem_of_getElem? (i := 5) rfl)) (by decide) (by decide)) q16a q16c (g := (mkF m 133 #[.val (.int p1), .val (.int p2), .val (.int p3), .val (.int p4), .val (.int p5), .val (.int sp), .val (.int me), .val (.int bb), .val (.int pp), .val (.int bp), .val (.int kk), .val (.int k2), .val (.int kp), .val (.ref a12), .val (.ref a14), .val (.double (FP.i2d (me - sp))), .second, .val (.double (FP.i2d (me + sp))), .second, .unset, .unset, .unset, .unset, .unset, .unset, .unset, .unset, .unset] [(.double (FP.i2d kk)), (.ref a12)])) rfl (by rw [hml]; rfl) (Steps.refl _) (argsL := [(.double (FP.i2d kk))]) (rest := []) (lenOf pd__D_D rfl) rfl (by show 2 * 0 + _ ≤ _; exact Nat.le_of_eq rfl) (hb hby at_133) (fun _ _ => ⟨rfl, e_qB, (by decide : 2 + 0 ≤ _), (by decide : 6 + 0 ≤ _)⟩)
  dsimp only [Pt.U, Pt.locs, Pt.cells, Pt.slots] at X16 l16 y16 z16 st16 hQ16
  subst l16 y16 z16
  obtain ⟨rfl, N16, e16⟩ := hQ16
  have NN16 := Fr.app NN15 N16
  rw [e_pk] at IK
  obtain ⟨pk2, e_pk2⟩ : ∃ z, (own_pr (FP.i2d me) (FP.i2d sp) bb (FP.i2d k2)) = z := ⟨_, rfl⟩
  obtain ⟨cq17, kq17, q17a, q17b, q17c⟩ := isOf hZ e16 EcA2
  obtain ⟨_, _, ⟨T17, L17, k17, n17⟩, -, X17, ⟨Lc17, hQ17, l17, y17, z17⟩, st17⟩ := X16.virtualBack hx (y := (⟨"com/example/lotwise/lotwise/model/LotMarket", "price", "(D)D"⟩ : MethodName)) (z := (⟨"com/example/lotwise/lotwise/model/LotMarket", "price", "(D)D"⟩ : MethodName)) hown (mvT hZ (hw _ (List.mem_of_getElem? (i := 32) rfl))) (mvT hZ (hw _ (List.mem_of_getElem? (i := 33) rfl))) (notFace_of_selects (args := #[]) (mvT hZ (hw _ (List.mem_of_getElem? (i := 35) rfl)))) (mvT hZ (hw _ (List.mem_of_getElem? (i := 35) rfl))) (mvT hZ (hw _ (List.mem_of_getElem? (i := 34) rfl))) (by decide) (backOf (W := 0) (rmP l Z a0 hw [] a12 (FP.i2d me) (FP.i2d sp) bb (FP.i2d k2) hqB n0 ZcB FBA2 FMA2 FSA2 fn) hZ (hw _ (List.mem_of_getElem? (i := 36) rfl)) (hw _ (List.mem_of_getElem? (i := 5) rfl)) (by decide) (by decide)) q17a q17c (g := (mkF m 143 #[.val (.int p1), .val (.int p2), .val (.int p3), .val (.int p4), .val (.int p5), .val (.int sp), .val (.int me), .val (.int bb), .val (.int pp), .val (.int bp), .val (.int kk), .val (.int k2), .val (.int kp), .val (.ref a12), .val (.ref a14), .val (.double (FP.i2d (me - sp))), .second, .val (.double (FP.i2d (me + sp))), .second, .val (.double pk), .second, .unset, .unset, .unset, .unset, .unset, .unset, .unset] [(.double (FP.i2d k2)), (.ref a12)])) rfl (by rw [hml]; rfl) (Steps.refl _) (argsL := [(.double (FP.i2d k2))]) (rest := []) (lenOf pd__D_D rfl) rfl (by show 2 * 0 + _ ≤ _; exact Nat.le_of_eq rfl) (hb hby at_143) (fun _ _ => ⟨rfl, e16, (by decide : 2 + 0 ≤ _), (by decide : 6 + 0 ≤ _)⟩)
  dsimp only [Pt.U, Pt.locs, Pt.cells, Pt.slots] at X17 l17 y17 z17 st17 hQ17
  subst l17 y17 z17
  obtain ⟨rfl, N17, e17⟩ := hQ17
  have NN17 := Fr.app NN16 N17
  rw [e_pk2] at IK2
  obtain ⟨pb, e_pb⟩ : ∃ z, (own_pr (FP.i2d me) (FP.i2d sp) bb (FP.i2d bb)) = z := ⟨_, rfl⟩
  obtain ⟨cq18, kq18, q18a, q18b, q18c⟩ := isOf hZ e17 EcA2
  obtain ⟨_, _, ⟨T18, L18, k18, n18⟩, -, X18, ⟨Lc18, hQ18, l18, y18, z18⟩, st18⟩ := X17.virtualBack hx (y := (⟨"com/example/lotwise/lotwise/model/LotMarket", "price", "(D)D"⟩ : MethodName)) (z := (⟨"com/example/lotwise/lotwise/model/LotMarket", "price", "(D)D"⟩ : MethodName)) hown (mvT hZ (hw _ (List.mem_of_getElem? (i := 32) rfl))) (mvT hZ (hw _ (List.mem_of_getElem? (i := 33) rfl))) (notFace_of_selects (args := #[]) (mvT hZ (hw _ (List.mem_of_getElem? (i := 35) rfl)))) (mvT hZ (hw _ (List.mem_of_getElem? (i := 35) rfl))) (mvT hZ (hw _ (List.mem_of_getElem? (i := 34) rfl))) (by decide) (backOf (W := 0) (rmP l Z a0 hw [] a12 (FP.i2d me) (FP.i2d sp) bb (FP.i2d bb) hqB n0 ZcB FBA2 FMA2 FSA2 gnb) hZ (hw _ (List.mem_of_getElem? (i := 36) rfl)) (hw _ (List.mem_of_getElem? (i := 5) rfl)) (by decide) (by decide)) q18a q18c (g := (mkF m 153 #[.val (.int p1), .val (.int p2), .val (.int p3), .val (.int p4), .val (.int p5), .val (.int sp), .val (.int me), .val (.int bb), .val (.int pp), .val (.int bp), .val (.int kk), .val (.int k2), .val (.int kp), .val (.ref a12), .val (.ref a14), .val (.double (FP.i2d (me - sp))), .second, .val (.double (FP.i2d (me + sp))), .second, .val (.double pk), .second, .val (.double pk2), .second, .unset, .unset, .unset, .unset, .unset] [(.double (FP.i2d bb)), (.ref a12)])) rfl (by rw [hml]; rfl) (Steps.refl _) (argsL := [(.double (FP.i2d bb))]) (rest := []) (lenOf pd__D_D rfl) rfl (by show 2 * 0 + _ ≤ _; exact Nat.le_of_eq rfl) (hb hby at_153) (fun _ _ => ⟨rfl, e17, (by decide : 2 + 0 ≤ _), (by decide : 6 + 0 ≤ _)⟩)
  dsimp only [Pt.U, Pt.locs, Pt.cells, Pt.slots] at X18 l18 y18 z18 st18 hQ18
  subst l18 y18 z18
  obtain ⟨rfl, N18, e18⟩ := hQ18
  have NN18 := Fr.app NN17 N18
  rw [e_pb] at IB
  have elo : (me - sp).toInt = me.toInt - sp.toInt := XT.sub32 (by constructor <;> omega)
  have ehi : (me + sp).toInt = me.toInt + sp.toInt := XT.add32 (by constructor <;> omega)
  have ILo : own_In 22 ((me.toInt - sp.toInt) * 2 ^ 22) ((me.toInt - sp.toInt) * 2 ^ 22) (FP.i2d (me - sp)) := by have q := (own_In.i2d (me - sp)).scale 22; rw [elo] at q; exact q
  have IHi : own_In 22 ((me.toInt + sp.toInt) * 2 ^ 22) ((me.toInt + sp.toInt) * 2 ^ 22) (FP.i2d (me + sp)) := by have q := (own_In.i2d (me + sp)).scale 22; rw [ehi] at q; exact q
  have eB : me.toInt * 2 ^ 22 + sp.toInt * -4194304 = (me.toInt - sp.toInt) * 2 ^ 22 := by omega
  rw [eB] at IB
  have s1 := Int.mul_le_mul_of_nonneg_left gl (show 0 ≤ sp.toInt by omega)
  have s2 := Int.mul_lt_mul_of_pos_left gh (show 0 < sp.toInt by omega)
  have d1 : ¬ (0 : Int32) < cmpValue (FP.dcmp (FP.i2d (me - sp)) pk) .g := ILo.le IK (by omega) _
  have d2 : cmpValue (FP.dcmp pk (FP.i2d (me + sp))) .g = -1 := IK.lt IHi (by omega) _
  have cc1 : Steps p.tables e below (s₁.setTop (entryFrame m #[(.int p1), (.int p2), (.int p3), (.int p4), (.int p5)] maxLocals)) (T18.setTop (mkF m 205 #[.val (.int p1), .val (.int p2), .val (.int p3), .val (.int p4), .val (.int p5), .val (.int sp), .val (.int me), .val (.int bb), .val (.int pp), .val (.int bp), .val (.int kk), .val (.int k2), .val (.int kp), .val (.ref a12), .val (.ref a14), .val (.double (FP.i2d (me - sp))), .second, .val (.double (FP.i2d (me + sp))), .second, .val (.double pk), .second, .val (.double pk2), .second, .val (.double pb), .second, .val (.int (1 : Int32)), .unset, .unset] [(.int bb), (.int kk)])) := c0.trans (by
    refine XT.iconstV X0.here hx rfl ((1 : Int32)) (hb hby at_0) (by decide) ?_
    refine XS.iload X0.here hx rfl (hb hby at_1) rfl ?_
    refine Stand.ldcI X0 hx hown (v := (65535 : Int32)) (mvT hZ (hw _ (List.mem_of_getElem? (i := 0) rfl))) rfl (hb hby at_3) ?_
    refine XS.iand X0.here hx rfl (hb hby at_5) rfl ?_
    refine XS.iadd X0.here hx rfl (hb hby at_6) rfl ?_
    show Steps p.tables e below (s₁.setTop (mkF m 7 #[.val (.int p1), .val (.int p2), .val (.int p3), .val (.int p4), .val (.int p5), .unset, .unset, .unset, .unset, .unset, .unset, .unset, .unset, .unset, .unset, .unset, .unset, .unset, .unset, .unset, .unset, .unset, .unset, .unset, .unset, .unset, .unset, .unset] [(.int ((1 : Int32) + (p5 &&& (65535 : Int32))))])) _
    rw [← hsp]
    refine XS.istore X0.here hx rfl (hb hby at_7) rfl (l' := #[.val (.int p1), .val (.int p2), .val (.int p3), .val (.int p4), .val (.int p5), .val (.int sp), .unset, .unset, .unset, .unset, .unset, .unset, .unset, .unset, .unset, .unset, .unset, .unset, .unset, .unset, .unset, .unset, .unset, .unset, .unset, .unset, .unset, .unset]) rfl ?_
    refine XS.iload X0.here hx rfl (hb hby at_9) rfl ?_
    refine XS.iloadN X0.here hx rfl (hb hby at_11) rfl ?_
    refine Stand.ldcI X0 hx hown (v := (65535 : Int32)) (mvT hZ (hw _ (List.mem_of_getElem? (i := 0) rfl))) rfl (hb hby at_12) ?_
    refine XS.iand X0.here hx rfl (hb hby at_14) rfl ?_
    refine XS.iadd X0.here hx rfl (hb hby at_15) rfl ?_
    show Steps p.tables e below (s₁.setTop (mkF m 16 #[.val (.int p1), .val (.int p2), .val (.int p3), .val (.int p4), .val (.int p5), .val (.int sp), .unset, .unset, .unset, .unset, .unset, .unset, .unset, .unset, .unset, .unset, .unset, .unset, .unset, .unset, .unset, .unset, .unset, .unset, .unset, .unset, .unset, .unset] [(.int (sp + (p4 &&& (65535 : Int32))))])) _
    rw [← hme]
    refine XS.istore X0.here hx rfl (hb hby at_16) rfl (l' := #[.val (.int p1), .val (.int p2), .val (.int p3), .val (.int p4), .val (.int p5), .val (.int sp), .val (.int me), .unset, .unset, .unset, .unset, .unset, .unset, .unset, .unset, .unset, .unset, .unset, .unset, .unset, .unset, .unset, .unset, .unset, .unset, .unset, .unset, .unset]) rfl ?_
    refine XT.iconstV X0.here hx rfl ((1 : Int32)) (hb hby at_18) (by decide) ?_
    refine XS.iloadN X0.here hx rfl (hb hby at_19) rfl ?_
    refine Stand.ldcI X0 hx hown (v := (1048575 : Int32)) (mvT hZ (hw _ (List.mem_of_getElem? (i := 1) rfl))) rfl (hb hby at_20) ?_
    refine XS.iand X0.here hx rfl (hb hby at_22) rfl ?_
    refine XS.iadd X0.here hx rfl (hb hby at_23) rfl ?_
    show Steps p.tables e below (s₁.setTop (mkF m 24 #[.val (.int p1), .val (.int p2), .val (.int p3), .val (.int p4), .val (.int p5), .val (.int sp), .val (.int me), .unset, .unset, .unset, .unset, .unset, .unset, .unset, .unset, .unset, .unset, .unset, .unset, .unset, .unset, .unset, .unset, .unset, .unset, .unset, .unset, .unset] [(.int ((1 : Int32) + (p1 &&& (1048575 : Int32))))])) _
    rw [← hbb]
    refine XS.istore X0.here hx rfl (hb hby at_24) rfl (l' := #[.val (.int p1), .val (.int p2), .val (.int p3), .val (.int p4), .val (.int p5), .val (.int sp), .val (.int me), .val (.int bb), .unset, .unset, .unset, .unset, .unset, .unset, .unset, .unset, .unset, .unset, .unset, .unset, .unset, .unset, .unset, .unset, .unset, .unset, .unset, .unset]) rfl ?_
    refine XT.iconstV X0.here hx rfl ((1 : Int32)) (hb hby at_26) (by decide) ?_
    refine XS.iloadN X0.here hx rfl (hb hby at_27) rfl ?_
    refine XT.bipushV X0.here hx rfl ((20 : Int32)) (hb hby at_28) (by decide) ?_
    refine XT.iushr X0.here hx rfl (hb hby at_30) rfl ?_
    refine XT.bipushV X0.here hx rfl ((20 : Int32)) (hb hby at_31) (by decide) ?_
    refine XS.irem X0.here hx rfl (hb hby at_33) rfl (by decide) ?_
    refine XS.iadd X0.here hx rfl (hb hby at_34) rfl ?_
    show Steps p.tables e below (s₁.setTop (mkF m 35 #[.val (.int p1), .val (.int p2), .val (.int p3), .val (.int p4), .val (.int p5), .val (.int sp), .val (.int me), .val (.int bb), .unset, .unset, .unset, .unset, .unset, .unset, .unset, .unset, .unset, .unset, .unset, .unset, .unset, .unset, .unset, .unset, .unset, .unset, .unset, .unset] [(.int ((1 : Int32) + ((XT.ushr p1 (20 : Int32)) - ((XT.ushr p1 (20 : Int32)) / (20 : Int32)) * (20 : Int32))))])) _
    rw [← hpp]
    refine XS.istore X0.here hx rfl (hb hby at_35) rfl (l' := #[.val (.int p1), .val (.int p2), .val (.int p3), .val (.int p4), .val (.int p5), .val (.int sp), .val (.int me), .val (.int bb), .val (.int pp), .unset, .unset, .unset, .unset, .unset, .unset, .unset, .unset, .unset, .unset, .unset, .unset, .unset, .unset, .unset, .unset, .unset, .unset, .unset]) rfl ?_
    refine XT.iconstV X0.here hx rfl ((1 : Int32)) (hb hby at_37) (by decide) ?_
    refine XS.iload X0.here hx rfl (hb hby at_38) rfl ?_
    refine XT.ishl X0.here hx rfl (hb hby at_40) rfl ?_
    refine XT.iconstV X0.here hx rfl ((1 : Int32)) (hb hby at_41) (by decide) ?_
    refine XS.isub X0.here hx rfl (hb hby at_42) rfl ?_
    show Steps p.tables e below (s₁.setTop (mkF m 43 #[.val (.int p1), .val (.int p2), .val (.int p3), .val (.int p4), .val (.int p5), .val (.int sp), .val (.int me), .val (.int bb), .val (.int pp), .unset, .unset, .unset, .unset, .unset, .unset, .unset, .unset, .unset, .unset, .unset, .unset, .unset, .unset, .unset, .unset, .unset, .unset, .unset] [(.int (((1 : Int32) <<< (pp &&& 31)) - (1 : Int32)))])) _
    rw [← hbp]
    refine XS.istore X0.here hx rfl (hb hby at_43) rfl (l' := #[.val (.int p1), .val (.int p2), .val (.int p3), .val (.int p4), .val (.int p5), .val (.int sp), .val (.int me), .val (.int bb), .val (.int pp), .val (.int bp), .unset, .unset, .unset, .unset, .unset, .unset, .unset, .unset, .unset, .unset, .unset, .unset, .unset, .unset, .unset, .unset, .unset, .unset]) rfl ?_
    refine XT.iconstV X0.here hx rfl ((1 : Int32)) (hb hby at_45) (by decide) ?_
    refine XS.iloadN X0.here hx rfl (hb hby at_46) rfl ?_
    refine Stand.ldcI X0 hx hown (v := (2147483647 : Int32)) (mvT hZ (hw _ (List.mem_of_getElem? (i := 2) rfl))) rfl (hb hby at_47) ?_
    refine XS.iand X0.here hx rfl (hb hby at_49) rfl ?_
    refine XS.iload X0.here hx rfl (hb hby at_50) rfl ?_
    refine XS.irem X0.here hx rfl (hb hby at_52) rfl (own_ne0 hB.1) ?_
    refine XS.iadd X0.here hx rfl (hb hby at_53) rfl ?_
    show Steps p.tables e below (s₁.setTop (mkF m 54 #[.val (.int p1), .val (.int p2), .val (.int p3), .val (.int p4), .val (.int p5), .val (.int sp), .val (.int me), .val (.int bb), .val (.int pp), .val (.int bp), .unset, .unset, .unset, .unset, .unset, .unset, .unset, .unset, .unset, .unset, .unset, .unset, .unset, .unset, .unset, .unset, .unset, .unset] [(.int ((1 : Int32) + ((p2 &&& (2147483647 : Int32)) - ((p2 &&& (2147483647 : Int32)) / bb) * bb)))])) _
    rw [← hkk]
    refine XS.istore X0.here hx rfl (hb hby at_54) rfl (l' := #[.val (.int p1), .val (.int p2), .val (.int p3), .val (.int p4), .val (.int p5), .val (.int sp), .val (.int me), .val (.int bb), .val (.int pp), .val (.int bp), .val (.int kk), .unset, .unset, .unset, .unset, .unset, .unset, .unset, .unset, .unset, .unset, .unset, .unset, .unset, .unset, .unset, .unset, .unset]) rfl ?_
    refine XT.iconstV X0.here hx rfl ((1 : Int32)) (hb hby at_56) (by decide) ?_
    refine XS.iloadN X0.here hx rfl (hb hby at_57) rfl ?_
    refine Stand.ldcI X0 hx hown (v := (2147483647 : Int32)) (mvT hZ (hw _ (List.mem_of_getElem? (i := 2) rfl))) rfl (hb hby at_58) ?_
    refine XS.iand X0.here hx rfl (hb hby at_60) rfl ?_
    refine XS.iload X0.here hx rfl (hb hby at_61) rfl ?_
    refine XS.irem X0.here hx rfl (hb hby at_63) rfl (own_ne0 hB.1) ?_
    refine XS.iadd X0.here hx rfl (hb hby at_64) rfl ?_
    show Steps p.tables e below (s₁.setTop (mkF m 65 #[.val (.int p1), .val (.int p2), .val (.int p3), .val (.int p4), .val (.int p5), .val (.int sp), .val (.int me), .val (.int bb), .val (.int pp), .val (.int bp), .val (.int kk), .unset, .unset, .unset, .unset, .unset, .unset, .unset, .unset, .unset, .unset, .unset, .unset, .unset, .unset, .unset, .unset, .unset] [(.int ((1 : Int32) + ((p3 &&& (2147483647 : Int32)) - ((p3 &&& (2147483647 : Int32)) / bb) * bb)))])) _
    rw [← hk2]
    refine XS.istore X0.here hx rfl (hb hby at_65) rfl (l' := #[.val (.int p1), .val (.int p2), .val (.int p3), .val (.int p4), .val (.int p5), .val (.int sp), .val (.int me), .val (.int bb), .val (.int pp), .val (.int bp), .val (.int kk), .val (.int k2), .unset, .unset, .unset, .unset, .unset, .unset, .unset, .unset, .unset, .unset, .unset, .unset, .unset, .unset, .unset, .unset]) rfl ?_
    refine XT.iconstV X0.here hx rfl ((1 : Int32)) (hb hby at_67) (by decide) ?_
    refine XS.iloadN X0.here hx rfl (hb hby at_68) rfl ?_
    refine Stand.ldcI X0 hx hown (v := (2147483647 : Int32)) (mvT hZ (hw _ (List.mem_of_getElem? (i := 2) rfl))) rfl (hb hby at_69) ?_
    refine XS.iand X0.here hx rfl (hb hby at_71) rfl ?_
    refine XS.iload X0.here hx rfl (hb hby at_72) rfl ?_
    refine XS.irem X0.here hx rfl (hb hby at_74) rfl (own_ne0 hq.1) ?_
    refine XS.iadd X0.here hx rfl (hb hby at_75) rfl ?_
    show Steps p.tables e below (s₁.setTop (mkF m 76 #[.val (.int p1), .val (.int p2), .val (.int p3), .val (.int p4), .val (.int p5), .val (.int sp), .val (.int me), .val (.int bb), .val (.int pp), .val (.int bp), .val (.int kk), .val (.int k2), .unset, .unset, .unset, .unset, .unset, .unset, .unset, .unset, .unset, .unset, .unset, .unset, .unset, .unset, .unset, .unset] [(.int ((1 : Int32) + ((p2 &&& (2147483647 : Int32)) - ((p2 &&& (2147483647 : Int32)) / bp) * bp)))])) _
    rw [← hkp]
    refine XS.istore X0.here hx rfl (hb hby at_76) rfl (l' := #[.val (.int p1), .val (.int p2), .val (.int p3), .val (.int p4), .val (.int p5), .val (.int sp), .val (.int me), .val (.int bb), .val (.int pp), .val (.int bp), .val (.int kk), .val (.int k2), .val (.int kp), .unset, .unset, .unset, .unset, .unset, .unset, .unset, .unset, .unset, .unset, .unset, .unset, .unset, .unset, .unset]) rfl ?_
    refine st12 _ ?_
    refine XS.dup X12.here hx rfl (hb hby at_81) rfl rfl ?_
    refine XS.iload X12.here hx rfl (hb hby at_82) rfl ?_
    refine XS.iload X12.here hx rfl (hb hby at_84) rfl ?_
    refine XS.i2dS X12.here hx rfl (hb hby at_86) rfl rfl ?_
    refine XS.iload X12.here hx rfl (hb hby at_87) rfl ?_
    refine XS.i2dS X12.here hx rfl (hb hby at_89) rfl rfl ?_
    refine st13.trans ?_
    show Steps p.tables e below (T13.setTop (mkF m 93 #[.val (.int p1), .val (.int p2), .val (.int p3), .val (.int p4), .val (.int p5), .val (.int sp), .val (.int me), .val (.int bb), .val (.int pp), .val (.int bp), .val (.int kk), .val (.int k2), .val (.int kp), .unset, .unset, .unset, .unset, .unset, .unset, .unset, .unset, .unset, .unset, .unset, .unset, .unset, .unset, .unset] [(.ref a12)])) _
    refine XS.astore X13.here hx rfl (hb hby at_93) rfl rfl (l' := #[.val (.int p1), .val (.int p2), .val (.int p3), .val (.int p4), .val (.int p5), .val (.int sp), .val (.int me), .val (.int bb), .val (.int pp), .val (.int bp), .val (.int kk), .val (.int k2), .val (.int kp), .val (.ref a12), .unset, .unset, .unset, .unset, .unset, .unset, .unset, .unset, .unset, .unset, .unset, .unset, .unset, .unset]) rfl ?_
    refine st14 _ ?_
    refine XS.dup X14.here hx rfl (hb hby at_98) rfl rfl ?_
    refine XS.iload X14.here hx rfl (hb hby at_99) rfl ?_
    refine XS.iload X14.here hx rfl (hb hby at_101) rfl ?_
    refine XS.i2dS X14.here hx rfl (hb hby at_103) rfl rfl ?_
    refine XS.iload X14.here hx rfl (hb hby at_104) rfl ?_
    refine XS.i2dS X14.here hx rfl (hb hby at_106) rfl rfl ?_
    refine st15.trans ?_
    show Steps p.tables e below (T15.setTop (mkF m 110 #[.val (.int p1), .val (.int p2), .val (.int p3), .val (.int p4), .val (.int p5), .val (.int sp), .val (.int me), .val (.int bb), .val (.int pp), .val (.int bp), .val (.int kk), .val (.int k2), .val (.int kp), .val (.ref a12), .unset, .unset, .unset, .unset, .unset, .unset, .unset, .unset, .unset, .unset, .unset, .unset, .unset, .unset] [(.ref a14)])) _
    refine XS.astore X15.here hx rfl (hb hby at_110) rfl rfl (l' := #[.val (.int p1), .val (.int p2), .val (.int p3), .val (.int p4), .val (.int p5), .val (.int sp), .val (.int me), .val (.int bb), .val (.int pp), .val (.int bp), .val (.int kk), .val (.int k2), .val (.int kp), .val (.ref a12), .val (.ref a14), .unset, .unset, .unset, .unset, .unset, .unset, .unset, .unset, .unset, .unset, .unset, .unset, .unset]) rfl ?_
    refine XS.iload X15.here hx rfl (hb hby at_112) rfl ?_
    refine XS.iload X15.here hx rfl (hb hby at_114) rfl ?_
    refine XS.isub X15.here hx rfl (hb hby at_116) rfl ?_
    refine XS.i2dS X15.here hx rfl (hb hby at_117) rfl rfl ?_
    refine XS.dstore X15.here hx rfl (hb hby at_118) rfl (l' := #[.val (.int p1), .val (.int p2), .val (.int p3), .val (.int p4), .val (.int p5), .val (.int sp), .val (.int me), .val (.int bb), .val (.int pp), .val (.int bp), .val (.int kk), .val (.int k2), .val (.int kp), .val (.ref a12), .val (.ref a14), .val (.double (FP.i2d (me - sp))), .second, .unset, .unset, .unset, .unset, .unset, .unset, .unset, .unset, .unset, .unset, .unset]) rfl ?_
    refine XS.iload X15.here hx rfl (hb hby at_120) rfl ?_
    refine XS.iload X15.here hx rfl (hb hby at_122) rfl ?_
    refine XS.iadd X15.here hx rfl (hb hby at_124) rfl ?_
    refine XS.i2dS X15.here hx rfl (hb hby at_125) rfl rfl ?_
    refine XS.dstore X15.here hx rfl (hb hby at_126) rfl (l' := #[.val (.int p1), .val (.int p2), .val (.int p3), .val (.int p4), .val (.int p5), .val (.int sp), .val (.int me), .val (.int bb), .val (.int pp), .val (.int bp), .val (.int kk), .val (.int k2), .val (.int kp), .val (.ref a12), .val (.ref a14), .val (.double (FP.i2d (me - sp))), .second, .val (.double (FP.i2d (me + sp))), .second, .unset, .unset, .unset, .unset, .unset, .unset, .unset, .unset, .unset]) rfl ?_
    refine XS.aload X15.here hx rfl (hb hby at_128) rfl rfl ?_
    refine XS.iload X15.here hx rfl (hb hby at_130) rfl ?_
    refine XS.i2dS X15.here hx rfl (hb hby at_132) rfl rfl ?_
    refine st16.trans ?_
    show Steps p.tables e below (T16.setTop (mkF m 136 #[.val (.int p1), .val (.int p2), .val (.int p3), .val (.int p4), .val (.int p5), .val (.int sp), .val (.int me), .val (.int bb), .val (.int pp), .val (.int bp), .val (.int kk), .val (.int k2), .val (.int kp), .val (.ref a12), .val (.ref a14), .val (.double (FP.i2d (me - sp))), .second, .val (.double (FP.i2d (me + sp))), .second, .unset, .unset, .unset, .unset, .unset, .unset, .unset, .unset, .unset] [(.double (own_pr (FP.i2d me) (FP.i2d sp) bb (FP.i2d kk)))])) _
    rw [e_pk]
    refine XS.dstore X16.here hx rfl (hb hby at_136) rfl (l' := #[.val (.int p1), .val (.int p2), .val (.int p3), .val (.int p4), .val (.int p5), .val (.int sp), .val (.int me), .val (.int bb), .val (.int pp), .val (.int bp), .val (.int kk), .val (.int k2), .val (.int kp), .val (.ref a12), .val (.ref a14), .val (.double (FP.i2d (me - sp))), .second, .val (.double (FP.i2d (me + sp))), .second, .val (.double pk), .second, .unset, .unset, .unset, .unset, .unset, .unset, .unset]) rfl ?_
    refine XS.aload X16.here hx rfl (hb hby at_138) rfl rfl ?_
    refine XS.iload X16.here hx rfl (hb hby at_140) rfl ?_
    refine XS.i2dS X16.here hx rfl (hb hby at_142) rfl rfl ?_
    refine st17.trans ?_
    show Steps p.tables e below (T17.setTop (mkF m 146 #[.val (.int p1), .val (.int p2), .val (.int p3), .val (.int p4), .val (.int p5), .val (.int sp), .val (.int me), .val (.int bb), .val (.int pp), .val (.int bp), .val (.int kk), .val (.int k2), .val (.int kp), .val (.ref a12), .val (.ref a14), .val (.double (FP.i2d (me - sp))), .second, .val (.double (FP.i2d (me + sp))), .second, .val (.double pk), .second, .unset, .unset, .unset, .unset, .unset, .unset, .unset] [(.double (own_pr (FP.i2d me) (FP.i2d sp) bb (FP.i2d k2)))])) _
    rw [e_pk2]
    refine XS.dstore X17.here hx rfl (hb hby at_146) rfl (l' := #[.val (.int p1), .val (.int p2), .val (.int p3), .val (.int p4), .val (.int p5), .val (.int sp), .val (.int me), .val (.int bb), .val (.int pp), .val (.int bp), .val (.int kk), .val (.int k2), .val (.int kp), .val (.ref a12), .val (.ref a14), .val (.double (FP.i2d (me - sp))), .second, .val (.double (FP.i2d (me + sp))), .second, .val (.double pk), .second, .val (.double pk2), .second, .unset, .unset, .unset, .unset, .unset]) rfl ?_
    refine XS.aload X17.here hx rfl (hb hby at_148) rfl rfl ?_
    refine XS.iload X17.here hx rfl (hb hby at_150) rfl ?_
    refine XS.i2dS X17.here hx rfl (hb hby at_152) rfl rfl ?_
    refine st18.trans ?_
    show Steps p.tables e below (T18.setTop (mkF m 156 #[.val (.int p1), .val (.int p2), .val (.int p3), .val (.int p4), .val (.int p5), .val (.int sp), .val (.int me), .val (.int bb), .val (.int pp), .val (.int bp), .val (.int kk), .val (.int k2), .val (.int kp), .val (.ref a12), .val (.ref a14), .val (.double (FP.i2d (me - sp))), .second, .val (.double (FP.i2d (me + sp))), .second, .val (.double pk), .second, .val (.double pk2), .second, .unset, .unset, .unset, .unset, .unset] [(.double (own_pr (FP.i2d me) (FP.i2d sp) bb (FP.i2d bb)))])) _
    rw [e_pb]
    refine XS.dstore X18.here hx rfl (hb hby at_156) rfl (l' := #[.val (.int p1), .val (.int p2), .val (.int p3), .val (.int p4), .val (.int p5), .val (.int sp), .val (.int me), .val (.int bb), .val (.int pp), .val (.int bp), .val (.int kk), .val (.int k2), .val (.int kp), .val (.ref a12), .val (.ref a14), .val (.double (FP.i2d (me - sp))), .second, .val (.double (FP.i2d (me + sp))), .second, .val (.double pk), .second, .val (.double pk2), .second, .val (.double pb), .second, .unset, .unset, .unset]) rfl ?_
    refine XS.dload X18.here hx rfl (hb hby at_158) rfl ?_
    refine XS.dload X18.here hx rfl (hb hby at_160) rfl ?_
    refine XS.dcmpS X18.here hx rfl (hb hby at_162) rfl (IB.eq ILo _) ?_
    refine XS.ifNo X18.here hx rfl (hb hby at_163) rfl (XT.i0_ne_f rfl) ?_
    refine XT.iconstV X18.here hx rfl ((1 : Int32)) (hb hby at_166) (by decide) ?_
    refine XS.goto X18.here hx rfl (pc0 := 167) (pc' := 171) rfl (hb hby at_167) (by decide) (by decide) ?_
    refine XS.istore X18.here hx rfl (hb hby at_171) rfl (l' := #[.val (.int p1), .val (.int p2), .val (.int p3), .val (.int p4), .val (.int p5), .val (.int sp), .val (.int me), .val (.int bb), .val (.int pp), .val (.int bp), .val (.int kk), .val (.int k2), .val (.int kp), .val (.ref a12), .val (.ref a14), .val (.double (FP.i2d (me - sp))), .second, .val (.double (FP.i2d (me + sp))), .second, .val (.double pk), .second, .val (.double pk2), .second, .val (.double pb), .second, .val (.int (1 : Int32)), .unset, .unset]) rfl ?_
    refine XS.iload X18.here hx rfl (hb hby at_173) rfl ?_
    refine XS.ifNo X18.here hx rfl (hb hby at_175) rfl (XT.i0_eq_f (by decide)) ?_
    refine XS.dload X18.here hx rfl (hb hby at_178) rfl ?_
    refine XS.dload X18.here hx rfl (hb hby at_180) rfl ?_
    refine XS.dcmpS X18.here hx rfl (hb hby at_182) rfl rfl ?_
    refine XS.ifNo X18.here hx rfl (hb hby at_183) rfl (XT.i0_gt_f d1) ?_
    refine XS.dload X18.here hx rfl (hb hby at_186) rfl ?_
    refine XS.dload X18.here hx rfl (hb hby at_188) rfl ?_
    refine XS.dcmpS X18.here hx rfl (hb hby at_190) rfl d2 ?_
    refine XS.ifNo X18.here hx rfl (hb hby at_191) rfl (XT.i0_ge_f (by decide)) ?_
    refine XT.iconstV X18.here hx rfl ((1 : Int32)) (hb hby at_194) (by decide) ?_
    refine XS.goto X18.here hx rfl (pc0 := 195) (pc' := 199) rfl (hb hby at_195) (by decide) (by decide) ?_
    refine XS.istore X18.here hx rfl (hb hby at_199) rfl (l' := #[.val (.int p1), .val (.int p2), .val (.int p3), .val (.int p4), .val (.int p5), .val (.int sp), .val (.int me), .val (.int bb), .val (.int pp), .val (.int bp), .val (.int kk), .val (.int k2), .val (.int kp), .val (.ref a12), .val (.ref a14), .val (.double (FP.i2d (me - sp))), .second, .val (.double (FP.i2d (me + sp))), .second, .val (.double pk), .second, .val (.double pk2), .second, .val (.double pb), .second, .val (.int (1 : Int32)), .unset, .unset]) rfl ?_
    refine XS.iload X18.here hx rfl (hb hby at_201) rfl ?_
    refine XS.iload X18.here hx rfl (hb hby at_203) rfl ?_
    exact Steps.refl _)
  have LT : ∀ {x y : Int32}, x < y → x.toInt < y.toInt := fun h => by rwa [Int32.lt_iff_toInt_lt] at h
  have cJ1 : Steps p.tables e below (s₁.setTop (entryFrame m #[(.int p1), (.int p2), (.int p3), (.int p4), (.int p5)] maxLocals)) (T18.setTop (mkF m 228 #[.val (.int p1), .val (.int p2), .val (.int p3), .val (.int p4), .val (.int p5), .val (.int sp), .val (.int me), .val (.int bb), .val (.int pp), .val (.int bp), .val (.int kk), .val (.int k2), .val (.int kp), .val (.ref a12), .val (.ref a14), .val (.double (FP.i2d (me - sp))), .second, .val (.double (FP.i2d (me + sp))), .second, .val (.double pk), .second, .val (.double pk2), .second, .val (.double pb), .second, .val (.int (1 : Int32)), .unset, .unset] [])) := by
    by_cases q1 : kk < bb
    ·
      have s3 := Int.mul_lt_mul_of_pos_left (gs (LT q1)) (show 0 < sp.toInt by omega)
      have cJ1r2 : Steps p.tables e below (s₁.setTop (entryFrame m #[(.int p1), (.int p2), (.int p3), (.int p4), (.int p5)] maxLocals)) (T18.setTop (mkF m 228 #[.val (.int p1), .val (.int p2), .val (.int p3), .val (.int p4), .val (.int p5), .val (.int sp), .val (.int me), .val (.int bb), .val (.int pp), .val (.int bp), .val (.int kk), .val (.int k2), .val (.int kp), .val (.ref a12), .val (.ref a14), .val (.double (FP.i2d (me - sp))), .second, .val (.double (FP.i2d (me + sp))), .second, .val (.double pk), .second, .val (.double pk2), .second, .val (.double pb), .second, .val (.int (1 : Int32)), .unset, .unset] [])) := cc1.trans (by
        refine XS.icmpNo X18.here hx rfl (hb hby at_205) rfl (XT.ii_ge_f q1) ?_
        refine XS.iload X18.here hx rfl (hb hby at_208) rfl ?_
        refine XS.ifNo X18.here hx rfl (hb hby at_210) rfl (XT.i0_eq_f (by decide)) ?_
        refine XS.dload X18.here hx rfl (hb hby at_213) rfl ?_
        refine XS.dload X18.here hx rfl (hb hby at_215) rfl ?_
        refine XS.dcmpS X18.here hx rfl (hb hby at_217) rfl (IK.gt ILo (by omega) _) ?_
        refine XS.ifNo X18.here hx rfl (hb hby at_218) rfl (XT.i0_le_f (by decide)) ?_
        refine XT.iconstV X18.here hx rfl ((1 : Int32)) (hb hby at_221) (by decide) ?_
        refine XS.goto X18.here hx rfl (pc0 := 222) (pc' := 226) rfl (hb hby at_222) (by decide) (by decide) ?_
        refine XS.istore X18.here hx rfl (hb hby at_226) rfl (l' := #[.val (.int p1), .val (.int p2), .val (.int p3), .val (.int p4), .val (.int p5), .val (.int sp), .val (.int me), .val (.int bb), .val (.int pp), .val (.int bp), .val (.int kk), .val (.int k2), .val (.int kp), .val (.ref a12), .val (.ref a14), .val (.double (FP.i2d (me - sp))), .second, .val (.double (FP.i2d (me + sp))), .second, .val (.double pk), .second, .val (.double pk2), .second, .val (.double pb), .second, .val (.int (1 : Int32)), .unset, .unset]) rfl ?_
        exact Steps.refl _)
      exact cJ1r2
    ·
      have cJ1r2 : Steps p.tables e below (s₁.setTop (entryFrame m #[(.int p1), (.int p2), (.int p3), (.int p4), (.int p5)] maxLocals)) (T18.setTop (mkF m 228 #[.val (.int p1), .val (.int p2), .val (.int p3), .val (.int p4), .val (.int p5), .val (.int sp), .val (.int me), .val (.int bb), .val (.int pp), .val (.int bp), .val (.int kk), .val (.int k2), .val (.int kp), .val (.ref a12), .val (.ref a14), .val (.double (FP.i2d (me - sp))), .second, .val (.double (FP.i2d (me + sp))), .second, .val (.double pk), .second, .val (.double pk2), .second, .val (.double pb), .second, .val (.int (1 : Int32)), .unset, .unset] [])) := cc1.trans (by
        refine XS.icmpYes X18.here hx rfl (pc0 := 205) (pc' := 228) rfl (hb hby at_205) rfl (XT.ii_ge_t q1) (by decide) (by decide) ?_
        exact Steps.refl _)
      exact cJ1r2
  have cc2 : Steps p.tables e below (s₁.setTop (entryFrame m #[(.int p1), (.int p2), (.int p3), (.int p4), (.int p5)] maxLocals)) (T18.setTop (mkF m 232 #[.val (.int p1), .val (.int p2), .val (.int p3), .val (.int p4), .val (.int p5), .val (.int sp), .val (.int me), .val (.int bb), .val (.int pp), .val (.int bp), .val (.int kk), .val (.int k2), .val (.int kp), .val (.ref a12), .val (.ref a14), .val (.double (FP.i2d (me - sp))), .second, .val (.double (FP.i2d (me + sp))), .second, .val (.double pk), .second, .val (.double pk2), .second, .val (.double pb), .second, .val (.int (1 : Int32)), .unset, .unset] [(.int k2), (.int kk)])) := cJ1.trans (by
    refine XS.iload X18.here hx rfl (hb hby at_228) rfl ?_
    refine XS.iload X18.here hx rfl (hb hby at_230) rfl ?_
    exact Steps.refl _)
  have cJ2 : Steps p.tables e below (s₁.setTop (entryFrame m #[(.int p1), (.int p2), (.int p3), (.int p4), (.int p5)] maxLocals)) (T18.setTop (mkF m 308 #[.val (.int p1), .val (.int p2), .val (.int p3), .val (.int p4), .val (.int p5), .val (.int sp), .val (.int me), .val (.int bb), .val (.int pp), .val (.int bp), .val (.int kk), .val (.int k2), .val (.int kp), .val (.ref a12), .val (.ref a14), .val (.double (FP.i2d (me - sp))), .second, .val (.double (FP.i2d (me + sp))), .second, .val (.double pk), .second, .val (.double pk2), .second, .val (.double pb), .second, .val (.int (1 : Int32)), .unset, .unset] [])) := by
    by_cases q2 : kk < k2
    ·
      have s4 := own_fall (me := me) hB (LT q2) g2 f1 hs.1
      have cJ2r3 : Steps p.tables e below (s₁.setTop (entryFrame m #[(.int p1), (.int p2), (.int p3), (.int p4), (.int p5)] maxLocals)) (T18.setTop (mkF m 308 #[.val (.int p1), .val (.int p2), .val (.int p3), .val (.int p4), .val (.int p5), .val (.int sp), .val (.int me), .val (.int bb), .val (.int pp), .val (.int bp), .val (.int kk), .val (.int k2), .val (.int kp), .val (.ref a12), .val (.ref a14), .val (.double (FP.i2d (me - sp))), .second, .val (.double (FP.i2d (me + sp))), .second, .val (.double pk), .second, .val (.double pk2), .second, .val (.double pb), .second, .val (.int (1 : Int32)), .unset, .unset] [])) := cc2.trans (by
        refine XS.icmpNo X18.here hx rfl (hb hby at_232) rfl (XT.ii_ge_f q2) ?_
        refine XS.iload X18.here hx rfl (hb hby at_235) rfl ?_
        refine XS.ifNo X18.here hx rfl (hb hby at_237) rfl (XT.i0_eq_f (by decide)) ?_
        refine XS.dload X18.here hx rfl (hb hby at_240) rfl ?_
        refine XS.dload X18.here hx rfl (hb hby at_242) rfl ?_
        refine XS.dcmpS X18.here hx rfl (hb hby at_244) rfl (IK.gt IK2 s4 _) ?_
        refine XS.ifNo X18.here hx rfl (hb hby at_245) rfl (XT.i0_le_f (by decide)) ?_
        refine XT.iconstV X18.here hx rfl ((1 : Int32)) (hb hby at_248) (by decide) ?_
        refine XS.goto X18.here hx rfl (pc0 := 249) (pc' := 253) rfl (hb hby at_249) (by decide) (by decide) ?_
        refine XS.istore X18.here hx rfl (hb hby at_253) rfl (l' := #[.val (.int p1), .val (.int p2), .val (.int p3), .val (.int p4), .val (.int p5), .val (.int sp), .val (.int me), .val (.int bb), .val (.int pp), .val (.int bp), .val (.int kk), .val (.int k2), .val (.int kp), .val (.ref a12), .val (.ref a14), .val (.double (FP.i2d (me - sp))), .second, .val (.double (FP.i2d (me + sp))), .second, .val (.double pk), .second, .val (.double pk2), .second, .val (.double pb), .second, .val (.int (1 : Int32)), .unset, .unset]) rfl ?_
        refine XS.goto X18.here hx rfl (pc0 := 255) (pc' := 308) rfl (hb hby at_255) (by decide) (by decide) ?_
        exact Steps.refl _)
      exact cJ2r3
    · by_cases q3 : k2 < kk
      ·
        have s4 := own_fall (me := me) hB (LT q3) f2 g1 hs.1
        have cJ2r3 : Steps p.tables e below (s₁.setTop (entryFrame m #[(.int p1), (.int p2), (.int p3), (.int p4), (.int p5)] maxLocals)) (T18.setTop (mkF m 308 #[.val (.int p1), .val (.int p2), .val (.int p3), .val (.int p4), .val (.int p5), .val (.int sp), .val (.int me), .val (.int bb), .val (.int pp), .val (.int bp), .val (.int kk), .val (.int k2), .val (.int kp), .val (.ref a12), .val (.ref a14), .val (.double (FP.i2d (me - sp))), .second, .val (.double (FP.i2d (me + sp))), .second, .val (.double pk), .second, .val (.double pk2), .second, .val (.double pb), .second, .val (.int (1 : Int32)), .unset, .unset] [])) := cc2.trans (by
          refine XS.icmpYes X18.here hx rfl (pc0 := 232) (pc' := 258) rfl (hb hby at_232) rfl (XT.ii_ge_t q2) (by decide) (by decide) ?_
          refine XS.iload X18.here hx rfl (hb hby at_258) rfl ?_
          refine XS.iload X18.here hx rfl (hb hby at_260) rfl ?_
          refine XS.icmpNo X18.here hx rfl (hb hby at_262) rfl (XT.ii_le_f q3) ?_
          refine XS.iload X18.here hx rfl (hb hby at_265) rfl ?_
          refine XS.ifNo X18.here hx rfl (hb hby at_267) rfl (XT.i0_eq_f (by decide)) ?_
          refine XS.dload X18.here hx rfl (hb hby at_270) rfl ?_
          refine XS.dload X18.here hx rfl (hb hby at_272) rfl ?_
          refine XS.dcmpS X18.here hx rfl (hb hby at_274) rfl (IK.lt IK2 s4 _) ?_
          refine XS.ifNo X18.here hx rfl (hb hby at_275) rfl (XT.i0_ge_f (by decide)) ?_
          refine XT.iconstV X18.here hx rfl ((1 : Int32)) (hb hby at_278) (by decide) ?_
          refine XS.goto X18.here hx rfl (pc0 := 279) (pc' := 283) rfl (hb hby at_279) (by decide) (by decide) ?_
          refine XS.istore X18.here hx rfl (hb hby at_283) rfl (l' := #[.val (.int p1), .val (.int p2), .val (.int p3), .val (.int p4), .val (.int p5), .val (.int sp), .val (.int me), .val (.int bb), .val (.int pp), .val (.int bp), .val (.int kk), .val (.int k2), .val (.int kp), .val (.ref a12), .val (.ref a14), .val (.double (FP.i2d (me - sp))), .second, .val (.double (FP.i2d (me + sp))), .second, .val (.double pk), .second, .val (.double pk2), .second, .val (.double pb), .second, .val (.int (1 : Int32)), .unset, .unset]) rfl ?_
          refine XS.goto X18.here hx rfl (pc0 := 285) (pc' := 308) rfl (hb hby at_285) (by decide) (by decide) ?_
          exact Steps.refl _)
        exact cJ2r3
      ·
        have ek : kk = k2 := Int32.toInt_inj.mp (by rw [Int32.lt_iff_toInt_lt] at q2 q3; omega)
        have epk : pk = pk2 := by rw [← e_pk, ← e_pk2, ek]
        have cJ2r3 : Steps p.tables e below (s₁.setTop (entryFrame m #[(.int p1), (.int p2), (.int p3), (.int p4), (.int p5)] maxLocals)) (T18.setTop (mkF m 308 #[.val (.int p1), .val (.int p2), .val (.int p3), .val (.int p4), .val (.int p5), .val (.int sp), .val (.int me), .val (.int bb), .val (.int pp), .val (.int bp), .val (.int kk), .val (.int k2), .val (.int kp), .val (.ref a12), .val (.ref a14), .val (.double (FP.i2d (me - sp))), .second, .val (.double (FP.i2d (me + sp))), .second, .val (.double pk), .second, .val (.double pk2), .second, .val (.double pb), .second, .val (.int (1 : Int32)), .unset, .unset] [])) := cc2.trans (by
          refine XS.icmpYes X18.here hx rfl (pc0 := 232) (pc' := 258) rfl (hb hby at_232) rfl (XT.ii_ge_t q2) (by decide) (by decide) ?_
          refine XS.iload X18.here hx rfl (hb hby at_258) rfl ?_
          refine XS.iload X18.here hx rfl (hb hby at_260) rfl ?_
          refine XS.icmpYes X18.here hx rfl (pc0 := 262) (pc' := 288) rfl (hb hby at_262) rfl (XT.ii_le_t q3) (by decide) (by decide) ?_
          refine XS.iload X18.here hx rfl (hb hby at_288) rfl ?_
          refine XS.ifNo X18.here hx rfl (hb hby at_290) rfl (XT.i0_eq_f (by decide)) ?_
          refine XS.dload X18.here hx rfl (hb hby at_293) rfl ?_
          refine XS.dload X18.here hx rfl (hb hby at_295) rfl ?_
          refine XS.dcmpS X18.here hx rfl (hb hby at_297) rfl (dcmpV_eq epk IK.nn _) ?_
          refine XS.ifNo X18.here hx rfl (hb hby at_298) rfl (XT.i0_ne_f rfl) ?_
          refine XT.iconstV X18.here hx rfl ((1 : Int32)) (hb hby at_301) (by decide) ?_
          refine XS.goto X18.here hx rfl (pc0 := 302) (pc' := 306) rfl (hb hby at_302) (by decide) (by decide) ?_
          refine XS.istore X18.here hx rfl (hb hby at_306) rfl (l' := #[.val (.int p1), .val (.int p2), .val (.int p3), .val (.int p4), .val (.int p5), .val (.int sp), .val (.int me), .val (.int bb), .val (.int pp), .val (.int bp), .val (.int kk), .val (.int k2), .val (.int kp), .val (.ref a12), .val (.ref a14), .val (.double (FP.i2d (me - sp))), .second, .val (.double (FP.i2d (me + sp))), .second, .val (.double pk), .second, .val (.double pk2), .second, .val (.double pb), .second, .val (.int (1 : Int32)), .unset, .unset]) rfl ?_
          exact Steps.refl _)
        exact cJ2r3
  have cc3 : Steps p.tables e below (s₁.setTop (entryFrame m #[(.int p1), (.int p2), (.int p3), (.int p4), (.int p5)] maxLocals)) (T18.setTop (mkF m 311 #[.val (.int p1), .val (.int p2), .val (.int p3), .val (.int p4), .val (.int p5), .val (.int sp), .val (.int me), .val (.int bb), .val (.int pp), .val (.int bp), .val (.int kk), .val (.int k2), .val (.int kp), .val (.ref a12), .val (.ref a14), .val (.double (FP.i2d (me - sp))), .second, .val (.double (FP.i2d (me + sp))), .second, .val (.double pk), .second, .val (.double pk2), .second, .val (.double pb), .second, .val (.int (1 : Int32)), .unset, .unset] [(.int (3 : Int32)), (.int bb)])) := cJ2.trans (by
    refine XS.iload X18.here hx rfl (hb hby at_308) rfl ?_
    refine XT.iconstV X18.here hx rfl ((3 : Int32)) (hb hby at_310) (by decide) ?_
    exact Steps.refl _)
  obtain ⟨gnm, gnM, IM⟩ := own_mid hB hm hs
  obtain ⟨gnp, gnD, IP⟩ := own_pow hex hq hex2 hm hs hkpb
  obtain ⟨eL, bL⟩ := own_long hm hs hq hkpb
  by_cases q4 : bb < (3 : Int32)
  ·
    have IL := own_In.l2d (a := (((me.toInt64 + sp.toInt64) * ((bp + (1 : Int32)).toInt64)) - (((2 : Int64) * sp.toInt64) * ((kp + (1 : Int32)).toInt64)))) (by rw [eL]; omega)
    rw [eL] at IL
    obtain ⟨cq19, kq19, q19a, q19b, q19c⟩ := isOf hZ e18 EcB
    obtain ⟨_, _, ⟨T19, L19, k19, n19⟩, -, X19, ⟨Lc19, hQ19, l19, y19, z19⟩, st19⟩ := X18.virtualBack hx (y := (⟨"com/example/lotwise/lotwise/model/LotMarket", "price", "(D)D"⟩ : MethodName)) (z := (⟨"com/example/lotwise/lotwise/model/LotMarket", "price", "(D)D"⟩ : MethodName)) hown (mvT hZ (hw _ (List.mem_of_getElem? (i := 32) rfl))) (mvT hZ (hw _ (List.mem_of_getElem? (i := 33) rfl))) (notFace_of_selects (args := #[]) (mvT hZ (hw _ (List.mem_of_getElem? (i := 35) rfl)))) (mvT hZ (hw _ (List.mem_of_getElem? (i := 35) rfl))) (mvT hZ (hw _ (List.mem_of_getElem? (i := 34) rfl))) (by decide) (backOf (W := 0) (rmP l Z a0 hw [] a14 (FP.i2d me) (FP.i2d sp) bp (FP.i2d kp) hqB n0 ZcB FBB FMB FSB gnp) hZ (hw _ (List.mem_of_getElem? (i := 36) rfl)) (hw _ (List.mem_of_getElem? (i := 5) rfl)) (by decide) (by decide)) q19a q19c (g := (mkF m 386 #[.val (.int p1), .val (.int p2), .val (.int p3), .val (.int p4), .val (.int p5), .val (.int sp), .val (.int me), .val (.int bb), .val (.int pp), .val (.int bp), .val (.int kk), .val (.int k2), .val (.int kp), .val (.ref a12), .val (.ref a14), .val (.double (FP.i2d (me - sp))), .second, .val (.double (FP.i2d (me + sp))), .second, .val (.double pk), .second, .val (.double pk2), .second, .val (.double pb), .second, .val (.int (1 : Int32)), .val (.long (((me.toInt64 + sp.toInt64) * ((bp + (1 : Int32)).toInt64)) - (((2 : Int64) * sp.toInt64) * ((kp + (1 : Int32)).toInt64)))), .second] [(.double (FP.i2d kp)), (.ref a14)])) rfl (by rw [hml]; rfl) (Steps.refl _) (argsL := [(.double (FP.i2d kp))]) (rest := []) (lenOf pd__D_D rfl) rfl (by show 2 * 0 + _ ≤ _; exact Nat.le_of_eq rfl) (hb hby at_386) (fun _ _ => ⟨rfl, e18, (by decide : 2 + 0 ≤ _), (by decide : 6 + 0 ≤ _)⟩)
    dsimp only [Pt.U, Pt.locs, Pt.cells, Pt.slots] at X19 l19 y19 z19 st19 hQ19
    subst l19 y19 z19
    obtain ⟨rfl, N19, e19⟩ := hQ19
    have NN19 := Fr.app NN18 N19
    have ct4 : Steps p.tables e below (s₁.setTop (entryFrame m #[(.int p1), (.int p2), (.int p3), (.int p4), (.int p5)] maxLocals)) (T19.setTop (mkF m 411 #[.val (.int p1), .val (.int p2), .val (.int p3), .val (.int p4), .val (.int p5), .val (.int sp), .val (.int me), .val (.int bb), .val (.int pp), .val (.int bp), .val (.int kk), .val (.int k2), .val (.int kp), .val (.ref a12), .val (.ref a14), .val (.double (FP.i2d (me - sp))), .second, .val (.double (FP.i2d (me + sp))), .second, .val (.double pk), .second, .val (.double pk2), .second, .val (.double pb), .second, .val (.int (1 : Int32)), .val (.long (((me.toInt64 + sp.toInt64) * ((bp + (1 : Int32)).toInt64)) - (((2 : Int64) * sp.toInt64) * ((kp + (1 : Int32)).toInt64)))), .second] [(.int (1 : Int32))])) := cc3.trans (by
      refine XS.icmpYes X18.here hx rfl (pc0 := 311) (pc' := 347) rfl (hb hby at_311) rfl (XT.ii_lt_t q4) (by decide) (by decide) ?_
      refine XS.iload X18.here hx rfl (hb hby at_347) rfl ?_
      refine XT.i2l X18.here hx rfl (hb hby at_349) rfl ?_
      refine XS.iload X18.here hx rfl (hb hby at_350) rfl ?_
      refine XT.i2l X18.here hx rfl (hb hby at_352) rfl ?_
      refine XT.ladd X18.here hx rfl (hb hby at_353) rfl ?_
      refine XS.iload X18.here hx rfl (hb hby at_354) rfl ?_
      refine XT.iconstV X18.here hx rfl ((1 : Int32)) (hb hby at_356) (by decide) ?_
      refine XS.iadd X18.here hx rfl (hb hby at_357) rfl ?_
      refine XT.i2l X18.here hx rfl (hb hby at_358) rfl ?_
      refine XT.lmul X18.here hx rfl (hb hby at_359) rfl ?_
      refine Stand.ldc2J X18 hx hown (v := (2 : Int64)) (mvT hZ (hw _ (List.mem_of_getElem? (i := 38) rfl))) rfl (hb hby at_360) ?_
      refine XS.iload X18.here hx rfl (hb hby at_363) rfl ?_
      refine XT.i2l X18.here hx rfl (hb hby at_365) rfl ?_
      refine XT.lmul X18.here hx rfl (hb hby at_366) rfl ?_
      refine XS.iload X18.here hx rfl (hb hby at_367) rfl ?_
      refine XT.iconstV X18.here hx rfl ((1 : Int32)) (hb hby at_369) (by decide) ?_
      refine XS.iadd X18.here hx rfl (hb hby at_370) rfl ?_
      refine XT.i2l X18.here hx rfl (hb hby at_371) rfl ?_
      refine XT.lmul X18.here hx rfl (hb hby at_372) rfl ?_
      refine XT.lsub X18.here hx rfl (hb hby at_373) rfl ?_
      refine XT.lstore X18.here hx rfl (hb hby at_374) rfl (l' := #[.val (.int p1), .val (.int p2), .val (.int p3), .val (.int p4), .val (.int p5), .val (.int sp), .val (.int me), .val (.int bb), .val (.int pp), .val (.int bp), .val (.int kk), .val (.int k2), .val (.int kp), .val (.ref a12), .val (.ref a14), .val (.double (FP.i2d (me - sp))), .second, .val (.double (FP.i2d (me + sp))), .second, .val (.double pk), .second, .val (.double pk2), .second, .val (.double pb), .second, .val (.int (1 : Int32)), .val (.long (((me.toInt64 + sp.toInt64) * ((bp + (1 : Int32)).toInt64)) - (((2 : Int64) * sp.toInt64) * ((kp + (1 : Int32)).toInt64)))), .second]) rfl ?_
      refine XS.iload X18.here hx rfl (hb hby at_376) rfl ?_
      refine XS.ifNo X18.here hx rfl (hb hby at_378) rfl (XT.i0_eq_f (by decide)) ?_
      refine XS.aload X18.here hx rfl (hb hby at_381) rfl rfl ?_
      refine XS.iload X18.here hx rfl (hb hby at_383) rfl ?_
      refine XS.i2dS X18.here hx rfl (hb hby at_385) rfl rfl ?_
      refine st19.trans ?_
      show Steps p.tables e below (T19.setTop (mkF m 389 #[.val (.int p1), .val (.int p2), .val (.int p3), .val (.int p4), .val (.int p5), .val (.int sp), .val (.int me), .val (.int bb), .val (.int pp), .val (.int bp), .val (.int kk), .val (.int k2), .val (.int kp), .val (.ref a12), .val (.ref a14), .val (.double (FP.i2d (me - sp))), .second, .val (.double (FP.i2d (me + sp))), .second, .val (.double pk), .second, .val (.double pk2), .second, .val (.double pb), .second, .val (.int (1 : Int32)), .val (.long (((me.toInt64 + sp.toInt64) * ((bp + (1 : Int32)).toInt64)) - (((2 : Int64) * sp.toInt64) * ((kp + (1 : Int32)).toInt64)))), .second] [(.double (own_pr (FP.i2d me) (FP.i2d sp) bp (FP.i2d kp)))])) _
      refine XS.iload X19.here hx rfl (hb hby at_389) rfl ?_
      refine XS.i2dS X19.here hx rfl (hb hby at_391) rfl rfl ?_
      refine XS.dconst1 X19.here hx rfl (v := (4607182418800017408 : UInt64)) (hb hby at_392) rfl ?_
      refine XS.daddS X19.here hx rfl (hb hby at_393) rfl gnD rfl ?_
      refine XS.dmulS X19.here hx rfl (hb hby at_394) rfl IP.nn rfl ?_
      refine XT.lload X19.here hx rfl (hb hby at_395) rfl ?_
      refine XS.l2dS X19.here hx rfl (hb hby at_397) rfl rfl ?_
      refine XS.dcmpS X19.here hx rfl (hb hby at_398) rfl (IP.eq IL _) ?_
      refine XS.ifNo X19.here hx rfl (hb hby at_399) rfl (XT.i0_ne_f rfl) ?_
      refine XT.iconstV X19.here hx rfl ((1 : Int32)) (hb hby at_402) (by decide) ?_
      refine XS.goto X19.here hx rfl (pc0 := 403) (pc' := 407) rfl (hb hby at_403) (by decide) (by decide) ?_
      refine XS.istore X19.here hx rfl (hb hby at_407) rfl (l' := #[.val (.int p1), .val (.int p2), .val (.int p3), .val (.int p4), .val (.int p5), .val (.int sp), .val (.int me), .val (.int bb), .val (.int pp), .val (.int bp), .val (.int kk), .val (.int k2), .val (.int kp), .val (.ref a12), .val (.ref a14), .val (.double (FP.i2d (me - sp))), .second, .val (.double (FP.i2d (me + sp))), .second, .val (.double pk), .second, .val (.double pk2), .second, .val (.double pb), .second, .val (.int (1 : Int32)), .val (.long (((me.toInt64 + sp.toInt64) * ((bp + (1 : Int32)).toInt64)) - (((2 : Int64) * sp.toInt64) * ((kp + (1 : Int32)).toInt64)))), .second]) rfl ?_
      refine XS.iload X19.here hx rfl (hb hby at_409) rfl ?_
      exact Steps.refl _)
    obtain ⟨fs, hr, hrun, hended, hW, hsame⟩ := X19.leave (v := some (.int (1 : Int32))) (fun h => by rw [Bd.returns] at h; cases h)
    refine ⟨_, _, ct4.trans ?_, hrun, hended, _, _, rfl, ?_, ⟨_, rfl⟩, hW, hsame.mono (by decide) (by decide)⟩
    · exact retN X19 hx (t := .boolean) Bd.returns (by simp) (hb hby at_411) hr
    · show Q0 h0 n0 _ T19.heap _
      exact ⟨rfl, NN19⟩
  ·
    obtain ⟨pm, e_pm⟩ : ∃ z, (own_pr (FP.i2d me) (FP.i2d sp) bb (FP.ddiv (FP.i2d (bb - (1 : Int32))) (4611686018427387904 : UInt64))) = z := ⟨_, rfl⟩
    obtain ⟨cq20, kq20, q20a, q20b, q20c⟩ := isOf hZ e18 EcA2
    obtain ⟨_, _, ⟨T20, L20, k20, n20⟩, -, X20, ⟨Lc20, hQ20, l20, y20, z20⟩, st20⟩ := X18.virtualBack hx (y := (⟨"com/example/lotwise/lotwise/model/LotMarket", "price", "(D)D"⟩ : MethodName)) (z := (⟨"com/example/lotwise/lotwise/model/LotMarket", "price", "(D)D"⟩ : MethodName)) hown (mvT hZ (hw _ (List.mem_of_getElem? (i := 32) rfl))) (mvT hZ (hw _ (List.mem_of_getElem? (i := 33) rfl))) (notFace_of_selects (args := #[]) (mvT hZ (hw _ (List.mem_of_getElem? (i := 35) rfl)))) (mvT hZ (hw _ (List.mem_of_getElem? (i := 35) rfl))) (mvT hZ (hw _ (List.mem_of_getElem? (i := 34) rfl))) (by decide) (backOf (W := 0) (rmP l Z a0 hw [] a12 (FP.i2d me) (FP.i2d sp) bb (FP.ddiv (FP.i2d (bb - (1 : Int32))) (4611686018427387904 : UInt64)) hqB n0 ZcB FBA2 FMA2 FSA2 gnM) hZ (hw _ (List.mem_of_getElem? (i := 36) rfl)) (hw _ (List.mem_of_getElem? (i := 5) rfl)) (by decide) (by decide)) q20a q20c (g := (mkF m 330 #[.val (.int p1), .val (.int p2), .val (.int p3), .val (.int p4), .val (.int p5), .val (.int sp), .val (.int me), .val (.int bb), .val (.int pp), .val (.int bp), .val (.int kk), .val (.int k2), .val (.int kp), .val (.ref a12), .val (.ref a14), .val (.double (FP.i2d (me - sp))), .second, .val (.double (FP.i2d (me + sp))), .second, .val (.double pk), .second, .val (.double pk2), .second, .val (.double pb), .second, .val (.int (1 : Int32)), .unset, .unset] [(.double (FP.ddiv (FP.i2d (bb - (1 : Int32))) (4611686018427387904 : UInt64))), (.ref a12)])) rfl (by rw [hml]; rfl) (Steps.refl _) (argsL := [(.double (FP.ddiv (FP.i2d (bb - (1 : Int32))) (4611686018427387904 : UInt64)))]) (rest := []) (lenOf pd__D_D rfl) rfl (by show 2 * 0 + _ ≤ _; exact Nat.le_of_eq rfl) (hb hby at_330) (fun _ _ => ⟨rfl, e18, (by decide : 2 + 0 ≤ _), (by decide : 6 + 0 ≤ _)⟩)
    dsimp only [Pt.U, Pt.locs, Pt.cells, Pt.slots] at X20 l20 y20 z20 st20 hQ20
    subst l20 y20 z20
    obtain ⟨rfl, N20, e20⟩ := hQ20
    have NN20 := Fr.app NN18 N20
    rw [e_pm] at IM
    have IL := own_In.l2d (a := (((me.toInt64 + sp.toInt64) * ((bp + (1 : Int32)).toInt64)) - (((2 : Int64) * sp.toInt64) * ((kp + (1 : Int32)).toInt64)))) (by rw [eL]; omega)
    rw [eL] at IL
    obtain ⟨cq21, kq21, q21a, q21b, q21c⟩ := isOf hZ e20 EcB
    obtain ⟨_, _, ⟨T21, L21, k21, n21⟩, -, X21, ⟨Lc21, hQ21, l21, y21, z21⟩, st21⟩ := X20.virtualBack hx (y := (⟨"com/example/lotwise/lotwise/model/LotMarket", "price", "(D)D"⟩ : MethodName)) (z := (⟨"com/example/lotwise/lotwise/model/LotMarket", "price", "(D)D"⟩ : MethodName)) hown (mvT hZ (hw _ (List.mem_of_getElem? (i := 32) rfl))) (mvT hZ (hw _ (List.mem_of_getElem? (i := 33) rfl))) (notFace_of_selects (args := #[]) (mvT hZ (hw _ (List.mem_of_getElem? (i := 35) rfl)))) (mvT hZ (hw _ (List.mem_of_getElem? (i := 35) rfl))) (mvT hZ (hw _ (List.mem_of_getElem? (i := 34) rfl))) (by decide) (backOf (W := 0) (rmP l Z a0 hw [] a14 (FP.i2d me) (FP.i2d sp) bp (FP.i2d kp) hqB n0 ZcB FBB FMB FSB gnp) hZ (hw _ (List.mem_of_getElem? (i := 36) rfl)) (hw _ (List.mem_of_getElem? (i := 5) rfl)) (by decide) (by decide)) q21a q21c (g := (mkF m 386 #[.val (.int p1), .val (.int p2), .val (.int p3), .val (.int p4), .val (.int p5), .val (.int sp), .val (.int me), .val (.int bb), .val (.int pp), .val (.int bp), .val (.int kk), .val (.int k2), .val (.int kp), .val (.ref a12), .val (.ref a14), .val (.double (FP.i2d (me - sp))), .second, .val (.double (FP.i2d (me + sp))), .second, .val (.double pk), .second, .val (.double pk2), .second, .val (.double pb), .second, .val (.int (1 : Int32)), .val (.long (((me.toInt64 + sp.toInt64) * ((bp + (1 : Int32)).toInt64)) - (((2 : Int64) * sp.toInt64) * ((kp + (1 : Int32)).toInt64)))), .second] [(.double (FP.i2d kp)), (.ref a14)])) rfl (by rw [hml]; rfl) (Steps.refl _) (argsL := [(.double (FP.i2d kp))]) (rest := []) (lenOf pd__D_D rfl) rfl (by show 2 * 0 + _ ≤ _; exact Nat.le_of_eq rfl) (hb hby at_386) (fun _ _ => ⟨rfl, e20, (by decide : 2 + 0 ≤ _), (by decide : 6 + 0 ≤ _)⟩)
    dsimp only [Pt.U, Pt.locs, Pt.cells, Pt.slots] at X21 l21 y21 z21 st21 hQ21
    subst l21 y21 z21
    obtain ⟨rfl, N21, e21⟩ := hQ21
    have NN21 := Fr.app NN20 N21
    have ct4 : Steps p.tables e below (s₁.setTop (entryFrame m #[(.int p1), (.int p2), (.int p3), (.int p4), (.int p5)] maxLocals)) (T21.setTop (mkF m 411 #[.val (.int p1), .val (.int p2), .val (.int p3), .val (.int p4), .val (.int p5), .val (.int sp), .val (.int me), .val (.int bb), .val (.int pp), .val (.int bp), .val (.int kk), .val (.int k2), .val (.int kp), .val (.ref a12), .val (.ref a14), .val (.double (FP.i2d (me - sp))), .second, .val (.double (FP.i2d (me + sp))), .second, .val (.double pk), .second, .val (.double pk2), .second, .val (.double pb), .second, .val (.int (1 : Int32)), .val (.long (((me.toInt64 + sp.toInt64) * ((bp + (1 : Int32)).toInt64)) - (((2 : Int64) * sp.toInt64) * ((kp + (1 : Int32)).toInt64)))), .second] [(.int (1 : Int32))])) := cc3.trans (by
      refine XS.icmpNo X18.here hx rfl (hb hby at_311) rfl (XT.ii_lt_f q4) ?_
      refine XS.iload X18.here hx rfl (hb hby at_314) rfl ?_
      refine XS.ifNo X18.here hx rfl (hb hby at_316) rfl (XT.i0_eq_f (by decide)) ?_
      refine XS.aload X18.here hx rfl (hb hby at_319) rfl rfl ?_
      refine XS.iload X18.here hx rfl (hb hby at_321) rfl ?_
      refine XT.iconstV X18.here hx rfl ((1 : Int32)) (hb hby at_323) (by decide) ?_
      refine XS.isub X18.here hx rfl (hb hby at_324) rfl ?_
      refine XS.i2dS X18.here hx rfl (hb hby at_325) rfl rfl ?_
      refine Stand.ldc2DoubleC X18 hx hown (b := (4611686018427387904 : UInt64)) (mvT hZ (hw _ (List.mem_of_getElem? (i := 39) rfl))) (g := (mkF m 326 #[.val (.int p1), .val (.int p2), .val (.int p3), .val (.int p4), .val (.int p5), .val (.int sp), .val (.int me), .val (.int bb), .val (.int pp), .val (.int bp), .val (.int kk), .val (.int k2), .val (.int kp), .val (.ref a12), .val (.ref a14), .val (.double (FP.i2d (me - sp))), .second, .val (.double (FP.i2d (me + sp))), .second, .val (.double pk), .second, .val (.double pk2), .second, .val (.double pb), .second, .val (.int (1 : Int32)), .unset, .unset] [(.double (FP.i2d (bb - (1 : Int32)))), (.ref a12)])) rfl (hb hby at_326) _ ?_
      refine XS.ddivS X18.here hx rfl (hb hby at_329) rfl gnm rfl ?_
      refine st20.trans ?_
      show Steps p.tables e below (T20.setTop (mkF m 333 #[.val (.int p1), .val (.int p2), .val (.int p3), .val (.int p4), .val (.int p5), .val (.int sp), .val (.int me), .val (.int bb), .val (.int pp), .val (.int bp), .val (.int kk), .val (.int k2), .val (.int kp), .val (.ref a12), .val (.ref a14), .val (.double (FP.i2d (me - sp))), .second, .val (.double (FP.i2d (me + sp))), .second, .val (.double pk), .second, .val (.double pk2), .second, .val (.double pb), .second, .val (.int (1 : Int32)), .unset, .unset] [(.double (own_pr (FP.i2d me) (FP.i2d sp) bb (FP.ddiv (FP.i2d (bb - (1 : Int32))) (4611686018427387904 : UInt64))))])) _
      rw [e_pm]
      refine XS.iload X20.here hx rfl (hb hby at_333) rfl ?_
      refine XS.i2dS X20.here hx rfl (hb hby at_335) rfl rfl ?_
      refine XS.dcmpS X20.here hx rfl (hb hby at_336) rfl (IM.eq Im _) ?_
      refine XS.ifNo X20.here hx rfl (hb hby at_337) rfl (XT.i0_ne_f rfl) ?_
      refine XT.iconstV X20.here hx rfl ((1 : Int32)) (hb hby at_340) (by decide) ?_
      refine XS.goto X20.here hx rfl (pc0 := 341) (pc' := 345) rfl (hb hby at_341) (by decide) (by decide) ?_
      refine XS.istore X20.here hx rfl (hb hby at_345) rfl (l' := #[.val (.int p1), .val (.int p2), .val (.int p3), .val (.int p4), .val (.int p5), .val (.int sp), .val (.int me), .val (.int bb), .val (.int pp), .val (.int bp), .val (.int kk), .val (.int k2), .val (.int kp), .val (.ref a12), .val (.ref a14), .val (.double (FP.i2d (me - sp))), .second, .val (.double (FP.i2d (me + sp))), .second, .val (.double pk), .second, .val (.double pk2), .second, .val (.double pb), .second, .val (.int (1 : Int32)), .unset, .unset]) rfl ?_
      refine XS.iload X20.here hx rfl (hb hby at_347) rfl ?_
      refine XT.i2l X20.here hx rfl (hb hby at_349) rfl ?_
      refine XS.iload X20.here hx rfl (hb hby at_350) rfl ?_
      refine XT.i2l X20.here hx rfl (hb hby at_352) rfl ?_
      refine XT.ladd X20.here hx rfl (hb hby at_353) rfl ?_
      refine XS.iload X20.here hx rfl (hb hby at_354) rfl ?_
      refine XT.iconstV X20.here hx rfl ((1 : Int32)) (hb hby at_356) (by decide) ?_
      refine XS.iadd X20.here hx rfl (hb hby at_357) rfl ?_
      refine XT.i2l X20.here hx rfl (hb hby at_358) rfl ?_
      refine XT.lmul X20.here hx rfl (hb hby at_359) rfl ?_
      refine Stand.ldc2J X20 hx hown (v := (2 : Int64)) (mvT hZ (hw _ (List.mem_of_getElem? (i := 38) rfl))) rfl (hb hby at_360) ?_
      refine XS.iload X20.here hx rfl (hb hby at_363) rfl ?_
      refine XT.i2l X20.here hx rfl (hb hby at_365) rfl ?_
      refine XT.lmul X20.here hx rfl (hb hby at_366) rfl ?_
      refine XS.iload X20.here hx rfl (hb hby at_367) rfl ?_
      refine XT.iconstV X20.here hx rfl ((1 : Int32)) (hb hby at_369) (by decide) ?_
      refine XS.iadd X20.here hx rfl (hb hby at_370) rfl ?_
      refine XT.i2l X20.here hx rfl (hb hby at_371) rfl ?_
      refine XT.lmul X20.here hx rfl (hb hby at_372) rfl ?_
      refine XT.lsub X20.here hx rfl (hb hby at_373) rfl ?_
      refine XT.lstore X20.here hx rfl (hb hby at_374) rfl (l' := #[.val (.int p1), .val (.int p2), .val (.int p3), .val (.int p4), .val (.int p5), .val (.int sp), .val (.int me), .val (.int bb), .val (.int pp), .val (.int bp), .val (.int kk), .val (.int k2), .val (.int kp), .val (.ref a12), .val (.ref a14), .val (.double (FP.i2d (me - sp))), .second, .val (.double (FP.i2d (me + sp))), .second, .val (.double pk), .second, .val (.double pk2), .second, .val (.double pb), .second, .val (.int (1 : Int32)), .val (.long (((me.toInt64 + sp.toInt64) * ((bp + (1 : Int32)).toInt64)) - (((2 : Int64) * sp.toInt64) * ((kp + (1 : Int32)).toInt64)))), .second]) rfl ?_
      refine XS.iload X20.here hx rfl (hb hby at_376) rfl ?_
      refine XS.ifNo X20.here hx rfl (hb hby at_378) rfl (XT.i0_eq_f (by decide)) ?_
      refine XS.aload X20.here hx rfl (hb hby at_381) rfl rfl ?_
      refine XS.iload X20.here hx rfl (hb hby at_383) rfl ?_
      refine XS.i2dS X20.here hx rfl (hb hby at_385) rfl rfl ?_
      refine st21.trans ?_
      show Steps p.tables e below (T21.setTop (mkF m 389 #[.val (.int p1), .val (.int p2), .val (.int p3), .val (.int p4), .val (.int p5), .val (.int sp), .val (.int me), .val (.int bb), .val (.int pp), .val (.int bp), .val (.int kk), .val (.int k2), .val (.int kp), .val (.ref a12), .val (.ref a14), .val (.double (FP.i2d (me - sp))), .second, .val (.double (FP.i2d (me + sp))), .second, .val (.double pk), .second, .val (.double pk2), .second, .val (.double pb), .second, .val (.int (1 : Int32)), .val (.long (((me.toInt64 + sp.toInt64) * ((bp + (1 : Int32)).toInt64)) - (((2 : Int64) * sp.toInt64) * ((kp + (1 : Int32)).toInt64)))), .second] [(.double (own_pr (FP.i2d me) (FP.i2d sp) bp (FP.i2d kp)))])) _
      refine XS.iload X21.here hx rfl (hb hby at_389) rfl ?_
      refine XS.i2dS X21.here hx rfl (hb hby at_391) rfl rfl ?_
      refine XS.dconst1 X21.here hx rfl (v := (4607182418800017408 : UInt64)) (hb hby at_392) rfl ?_
      refine XS.daddS X21.here hx rfl (hb hby at_393) rfl gnD rfl ?_
      refine XS.dmulS X21.here hx rfl (hb hby at_394) rfl IP.nn rfl ?_
      refine XT.lload X21.here hx rfl (hb hby at_395) rfl ?_
      refine XS.l2dS X21.here hx rfl (hb hby at_397) rfl rfl ?_
      refine XS.dcmpS X21.here hx rfl (hb hby at_398) rfl (IP.eq IL _) ?_
      refine XS.ifNo X21.here hx rfl (hb hby at_399) rfl (XT.i0_ne_f rfl) ?_
      refine XT.iconstV X21.here hx rfl ((1 : Int32)) (hb hby at_402) (by decide) ?_
      refine XS.goto X21.here hx rfl (pc0 := 403) (pc' := 407) rfl (hb hby at_403) (by decide) (by decide) ?_
      refine XS.istore X21.here hx rfl (hb hby at_407) rfl (l' := #[.val (.int p1), .val (.int p2), .val (.int p3), .val (.int p4), .val (.int p5), .val (.int sp), .val (.int me), .val (.int bb), .val (.int pp), .val (.int bp), .val (.int kk), .val (.int k2), .val (.int kp), .val (.ref a12), .val (.ref a14), .val (.double (FP.i2d (me - sp))), .second, .val (.double (FP.i2d (me + sp))), .second, .val (.double pk), .second, .val (.double pk2), .second, .val (.double pb), .second, .val (.int (1 : Int32)), .val (.long (((me.toInt64 + sp.toInt64) * ((bp + (1 : Int32)).toInt64)) - (((2 : Int64) * sp.toInt64) * ((kp + (1 : Int32)).toInt64)))), .second]) rfl ?_
      refine XS.iload X21.here hx rfl (hb hby at_409) rfl ?_
      exact Steps.refl _)
    obtain ⟨fs, hr, hrun, hended, hW, hsame⟩ := X21.leave (v := some (.int (1 : Int32))) (fun h => by rw [Bd.returns] at h; cases h)
    refine ⟨_, _, ct4.trans ?_, hrun, hended, _, _, rfl, ?_, ⟨_, rfl⟩, hW, hsame.mono (by decide) (by decide)⟩
    · exact retN X21 hx (t := .boolean) Bd.returns (by simp) (hb hby at_411) hr
    · show Q0 h0 n0 _ T21.heap _
      exact ⟨rfl, NN21⟩
set_option maxRecDepth 65536 in
set_option maxHeartbeats 40000000 in
theorem comes_1 {Post : Tables → Env → Array Value → State → Outcome → State → Prop} (hpost : ∀ tb e args s v u, (limb_1_1.after args s (.returned v) u = true ∧ limb_1_2.after args s (.returned v) u = true ∧ True) → FrameEnd s (.returned v) u (Jvm.fieldLocs frame_1_writes args s ++ Jvm.arrayLocs frame_1_arrays args s ++ Jvm.staticLocs frame_1_statics s) 16 128 → Post tb e args s (.returned v) u) :
    ArmFor flags0 classFile x code maxLocals ret World_1 tables_1 room_1 Calls_1 rest_1 Pre_1 Post := by
  intro l hfl _ _ p e ha hc hk s m args below hf hA hF happ hP
  obtain ⟨hcalls, hrest, hpre⟩ := hP
  obtain ⟨-, -, -, hnamed, -, -, -, hat⟩ := (Spec.applies_iff hf).mp happ
  obtain ⟨hg, hn⟩ := and_e (Cond.before_iff.mp (show (Jvm.Cond.and given_1 narrow_1).before args s = true from hpre))
  obtain ⟨h1, hA0⟩ := and_e hg
  obtain ⟨hI0, hA1⟩ := and_e hA0
  obtain ⟨hI1, hA2⟩ := and_e hA1
  obtain ⟨hI2, hA3⟩ := and_e hA2
  obtain ⟨hI3, hA4⟩ := and_e hA3
  obtain ⟨w0, w1, w2, w3, w4, rfl⟩ : ∃ w0 w1 w2 w3 w4 : Value, args = #[w0, w1, w2, w3, w4] := by
    have hs : args.size = 5 := by simpa [Cond.value, given_1] using h1
    obtain ⟨L⟩ := args
    match L, hs with
    | [w0, w1, w2, w3, w4], _ => exact ⟨w0, w1, w2, w3, w4, rfl⟩
  have hw := fun d (hd : d ∈ tables_1) => atoms_spec (ws := Jvm.Cond.code x code maxLocals ret :: tables_1) hat d (List.mem_cons_of_mem _ hd)
  have hfit : Fit s := fun {y c} hc i hi => by
    obtain ⟨ha, rfl⟩ := Array.getElem?_eq_some_iff.mp hc
    have q := List.all_eq_true.mp ((Array.all_eq_true_iff_forall_mem.mp hF) _ (Array.getElem_mem ha)) i (List.mem_range.mpr hi)
    simpa [Array.getElem?_eq_getElem hi] using q
  obtain ⟨i0, ei0⟩ := is_v hI0
  obtain rfl : w0 = (.int i0) := Option.some.inj ei0
  obtain ⟨i1, ei1⟩ := is_v hI1
  obtain rfl : w1 = (.int i1) := Option.some.inj ei1
  obtain ⟨i2, ei2⟩ := is_v hI2
  obtain rfl : w2 = (.int i2) := Option.some.inj ei2
  obtain ⟨i3, ei3⟩ := is_v hI3
  obtain rfl : w3 = (.int i3) := Option.some.inj ei3
  obtain ⟨i4, ei4⟩ := is_v hA4
  obtain rfl : w4 = (.int i4) := Option.some.inj ei4
  obtain ⟨n, o, h1, h2, h3, _, L, rfl, ⟨rfl, N⟩, hq⟩ := rm0 l s _ hw tables_1 i0 i1 i2 i3 i4  s.heap s.heap.size (Nat.le_refl _)  p e ha hc hk s m _ below hf ((Spec.applies_iff_loose hf).mp happ).1 ⟨rfl, State.Warmed39.refl s, rfl⟩ trivial
  refine ⟨n, _, h1, h2, h3, hpost _ _ _ _ _ _ ⟨Cond.after_iff.mpr rfl, Cond.after_iff.mpr (eq_i res_at (Term.int_eval (1)) rfl), trivial⟩ ⟨hq.1, hq.2.1, (hq.2.2.sift fun y hy => Or.inr (N y hy)).mono (by decide) (by decide)⟩⟩
theorem main_1_1 : Claimed_1_1 := comes_1 fun _ _ _ _ _ _ h hF => ⟨h.1, hF⟩
theorem main_1_2 : Claimed_1_2 := comes_1 fun _ _ _ _ _ _ h hF => ⟨h.2.1, hF⟩
end Jvm.Pilot.@@N@@
namespace Jvm.Pilot.@@N@@
open Jvm Jvm.ClassFile Sem Op Lib Jvm.Free Jvm.Stand Jvm.Pilot.@@N@@.Jvm.D
/-! MADE BY PROGRAM (witnessworld.py) out of the Statement's table words and the real class files: 16 classes; the members and pool entries that the words name. The judged class is class 1, her method 1. -/
namespace start1
open Jvm.ClassFile
def u (s : String) : CpInfo := .utf8 (stringToUtf16 s)
/-- a pool by its gaps: so many unusable entries, then the entry; so many at the end -/
def gap : Nat → List CpInfo → List CpInfo
  | 0, r => r
  | n + 1, r => .unusable :: gap n r
def poolList (es : List (Nat × CpInfo)) (last : Nat) : List CpInfo := es.foldr (fun e r => gap e.1 (e.2 :: r)) (gap last [])
def pool (es : List (Nat × CpInfo)) (last : Nat) : Array CpInfo := ⟨poolList es last⟩
def fileOf (pool : Array CpInfo) (this : Nat) (attrs : Array Attribute := #[]) (ms : Array MethodInfo := #[]) (fl : Nat := 33) (sup : Nat := 0) (ifs : Array Nat := #[]) (fds : Array FieldInfo := #[]) : ClassFile where
  minorVersion := 0
  majorVersion := 65
  constantPool := pool
  accessFlags := fl
  thisClass := this
  superClass := sup
  interfaces := ifs
  fields := fds
  methods := ms
  attributes := attrs
def plain (name : String) (sup : Option ClassId) : Class where
  name := name
  kind := .ordinary
  loader := none
  accessFlags := 33
  super := sup
  interfaces := #[]
  cf := none
  fields := #[]
  methods := #[]
  instanceTypes := #[]
  staticTypes := #[]
  resolved := #[]
  callSites := []
  init := .initialized
  statics := none
  mirror := none

def pool0 : Array CpInfo := pool [(5, u "<init>"), (0, u "()V"), (1, .class_ 10), (1, u "java/lang/Object")] 113

def k0c0 : Code := { maxStack := 0, maxLocals := 1, code := object_method_1_code, exceptionTable := #[], attributes := #[] }
def k0m0 : Method := { name := "<init>", desc := "()V", sig := { parameters := [], returnType := none }, accessFlags := 1, code := some k0c0 }
/-- java/lang/Object -/
def k0 : Class := { plain "java/lang/Object" none with
  accessFlags := 33
  interfaces := #[]
  cf := some (fileOf pool0 8 #[] #[{ accessFlags := 1, nameIndex := 5, descriptorIndex := 6, attributes := #[] }] 33 0 #[] #[])
  fields := #[]
  methods := #[k0m0]
  instanceTypes := #[]
  staticTypes := #[]
  resolved := Array.replicate 124 none
  statics := none }

def pool1 : Array CpInfo := pool [(2, .class_ 4), (1, u "java/lang/Object"), (0, u "<init>"), (0, u "()V"), (0, .integer 65535), (0, .integer 1048575), (0, .integer 2147483647), (0, .class_ 11), (0, u "com/example/lotwise/lotwise/model/LotMarket"), (0, .methodref 10 13), (0, .nameAndType 5 14), (0, u "(IDD)V"), (0, .methodref 10 16), (0, .nameAndType 17 18), (0, u "price"), (0, u "(D)D"), (0, .double 4611686018427387904), (1, .long 2), (1, .class_ 24), (0, u "com/example/lotwise/lotwise/model/LotMarketPricePinLaw"), (2, u "law"), (0, u "(IIIII)Z")] 3

def k1m0 : Method := { name := "<init>", desc := "()V", sig := { parameters := [], returnType := none }, accessFlags := 1, code := none }
def k1c1 : Code := { maxStack := 7, maxLocals := 28, code := code, exceptionTable := #[], attributes := #[] }
def k1m1 : Method := { name := "law", desc := "(IIIII)Z", sig := { parameters := [.int, .int, .int, .int, .int], returnType := some .boolean }, accessFlags := 9, code := some k1c1 }
/-- com/example/lotwise/lotwise/model/LotMarketPricePinLaw -/
def k1 : Class := { plain "com/example/lotwise/lotwise/model/LotMarketPricePinLaw" (some 0) with
  accessFlags := 49
  interfaces := #[]
  cf := some (fileOf pool1 23 #[] #[{ accessFlags := 1, nameIndex := 5, descriptorIndex := 6, attributes := #[] }, { accessFlags := 9, nameIndex := 27, descriptorIndex := 28, attributes := #[] }] 49 2 #[] #[])
  fields := #[]
  methods := #[k1m0, k1m1]
  instanceTypes := #[]
  staticTypes := #[]
  resolved := Array.replicate 32 none
  statics := none }

def pool2 : Array CpInfo := pool [(1, .methodref 2 3), (0, .class_ 4), (0, .nameAndType 5 6), (0, u "java/lang/Object"), (0, u "<init>"), (0, u "()V"), (0, .class_ 8), (0, u "java/lang/Record")] 13

def k2c0 : Code := { maxStack := 1, maxLocals := 1, code := jdk_30_method_1_code, exceptionTable := #[], attributes := #[] }
def k2m0 : Method := { name := "<init>", desc := "()V", sig := { parameters := [], returnType := none }, accessFlags := 4, code := some k2c0 }
/-- java/lang/Record -/
def k2 : Class := { plain "java/lang/Record" (some 0) with
  accessFlags := 1057
  interfaces := #[]
  cf := some (fileOf pool2 7 #[] #[{ accessFlags := 4, nameIndex := 5, descriptorIndex := 6, attributes := #[] }] 1057 2 #[] #[])
  fields := #[]
  methods := #[k2m0]
  instanceTypes := #[]
  staticTypes := #[]
  resolved := Array.replicate 22 none
  statics := none }

def pool3 : Array CpInfo := pool [(1, .methodref 2 3), (0, .class_ 4), (0, .nameAndType 5 6), (0, u "java/lang/Record"), (0, u "<init>"), (0, u "()V"), (12, .methodref 20 21), (0, .class_ 22), (0, .nameAndType 23 24), (0, u "java/lang/Double"), (0, u "isFinite"), (0, u "(D)Z"), (1, .fieldref 27 28), (0, .class_ 29), (0, .nameAndType 30 31), (0, u "com/example/lotwise/lotwise/model/LotMarket"), (0, u "bidders"), (0, u "I"), (0, .fieldref 27 33), (0, .nameAndType 34 35), (0, u "mean"), (0, u "D"), (0, .fieldref 27 37), (0, .nameAndType 38 35), (0, u "spread"), (0, .double 4611686018427387904), (13, u "(IDD)V"), (5, u "price"), (0, u "(D)D")] 38

def k3c0 : Code := { maxStack := 6, maxLocals := 6, code := prog_12_method_1_code, exceptionTable := #[], attributes := #[] }
def k3m0 : Method := { name := "<init>", desc := "(IDD)V", sig := { parameters := [.int, .double, .double], returnType := none }, accessFlags := 1, code := some k3c0 }
def k3c1 : Code := { maxStack := 10, maxLocals := 3, code := prog_12_method_3_code, exceptionTable := #[], attributes := #[] }
def k3m1 : Method := { name := "price", desc := "(D)D", sig := { parameters := [.double], returnType := some .double }, accessFlags := 1, code := some k3c1 }
/-- com/example/lotwise/lotwise/model/LotMarket -/
def k3 : Class := { plain "com/example/lotwise/lotwise/model/LotMarket" (some 2) with
  accessFlags := 49
  interfaces := #[]
  cf := some (fileOf pool3 27 #[] #[{ accessFlags := 1, nameIndex := 5, descriptorIndex := 53, attributes := #[] }, { accessFlags := 1, nameIndex := 59, descriptorIndex := 60, attributes := #[] }] 49 2 #[] #[{ accessFlags := 18, nameIndex := 30, descriptorIndex := 31, attributes := #[] }, { accessFlags := 18, nameIndex := 34, descriptorIndex := 35, attributes := #[] }, { accessFlags := 18, nameIndex := 38, descriptorIndex := 35, attributes := #[] }])
  fields := #[{ name := "bidders", type := .int, accessFlags := 18, slot := 0, constantValue := 0 }, { name := "mean", type := .double, accessFlags := 18, slot := 1, constantValue := 0 }, { name := "spread", type := .double, accessFlags := 18, slot := 2, constantValue := 0 }]
  methods := #[k3m0, k3m1]
  instanceTypes := #[.int, .double, .double]
  staticTypes := #[]
  resolved := Array.replicate 99 none
  statics := none }

def pool4 : Array CpInfo := pool [(1, .class_ 2), (0, u "java/io/Serializable"), (0, .class_ 4), (0, u "java/lang/Object")] 2

/-- java/io/Serializable -/
def k4 : Class := { plain "java/io/Serializable" (some 0) with
  accessFlags := 1537
  interfaces := #[]
  cf := some (fileOf pool4 1 #[] #[] 1537 3 #[] #[])
  fields := #[]
  methods := #[]
  instanceTypes := #[]
  staticTypes := #[]
  resolved := Array.replicate 7 none
  statics := none }

def pool5 : Array CpInfo := pool [(2, .class_ 4), (1, u "java/lang/Object"), (0, u "<init>"), (0, u "()V"), (1, .class_ 10), (1, u "java/lang/Number"), (2, .class_ 14), (0, u "java/io/Serializable"), (0, u "serialVersionUID"), (0, u "J")] 20

def k5m0 : Method := { name := "<init>", desc := "()V", sig := { parameters := [], returnType := none }, accessFlags := 1, code := none }
/-- java/lang/Number -/
def k5 : Class := { plain "java/lang/Number" (some 0) with
  accessFlags := 1057
  interfaces := #[4]
  cf := some (fileOf pool5 8 #[] #[{ accessFlags := 1, nameIndex := 5, descriptorIndex := 6, attributes := #[] }] 1057 2 #[13] #[{ accessFlags := 26, nameIndex := 15, descriptorIndex := 16, attributes := #[] }])
  fields := #[{ name := "serialVersionUID", type := .long, accessFlags := 26, slot := 0, constantValue := 0 }]
  methods := #[k5m0]
  instanceTypes := #[]
  staticTypes := #[.long]
  resolved := Array.replicate 37 none
  statics := none }

def pool6 : Array CpInfo := pool [(1, .class_ 2), (0, u "java/lang/Comparable"), (0, .class_ 4), (0, u "java/lang/Object")] 7

/-- java/lang/Comparable -/
def k6 : Class := { plain "java/lang/Comparable" (some 0) with
  accessFlags := 1537
  interfaces := #[]
  cf := some (fileOf pool6 1 #[] #[] 1537 3 #[] #[])
  fields := #[]
  methods := #[]
  instanceTypes := #[]
  staticTypes := #[]
  resolved := Array.replicate 12 none
  statics := none }

def pool7 : Array CpInfo := pool [(1, .class_ 2), (0, u "java/lang/constant/Constable"), (0, .class_ 4), (0, u "java/lang/Object")] 6

/-- java/lang/constant/Constable -/
def k7 : Class := { plain "java/lang/constant/Constable" (some 0) with
  accessFlags := 1537
  interfaces := #[]
  cf := some (fileOf pool7 1 #[] #[] 1537 3 #[] #[])
  fields := #[]
  methods := #[]
  instanceTypes := #[]
  staticTypes := #[]
  resolved := Array.replicate 11 none
  statics := none }

def pool8 : Array CpInfo := pool [(1, .class_ 2), (0, u "java/lang/constant/ConstantDesc"), (0, .class_ 4), (0, u "java/lang/Object")] 32

/-- java/lang/constant/ConstantDesc -/
def k8 : Class := { plain "java/lang/constant/ConstantDesc" (some 0) with
  accessFlags := 1537
  interfaces := #[]
  cf := some (fileOf pool8 1 #[] #[] 1537 3 #[] #[])
  fields := #[]
  methods := #[]
  instanceTypes := #[]
  staticTypes := #[]
  resolved := Array.replicate 37 none
  statics := none }

def pool9 : Array CpInfo := pool [(1, .class_ 2), (0, u "java/lang/Double"), (10, u "isFinite"), (0, u "(D)Z"), (8, .class_ 25), (1, u "java/lang/Math"), (12, .methodref 23 39), (0, .nameAndType 40 41), (0, u "abs"), (0, u "(D)D"), (69, .double 9218868437227405311), (2, .class_ 116), (1, u "java/lang/Number"), (3, u "value"), (0, u "D"), (51, u "TYPE"), (0, u "Ljava/lang/Class;"), (0, .class_ 176), (0, u "java/lang/Comparable"), (0, .class_ 178), (0, u "java/lang/constant/Constable"), (0, .class_ 180), (0, u "java/lang/constant/ConstantDesc"), (0, u "POSITIVE_INFINITY"), (3, u "NEGATIVE_INFINITY"), (2, u "NaN"), (2, u "MAX_VALUE"), (0, u "MIN_NORMAL"), (0, u "MIN_VALUE"), (2, u "SIZE"), (0, u "I"), (1, u "PRECISION"), (1, u "MAX_EXPONENT"), (1, u "MIN_EXPONENT"), (1, u "BYTES"), (3, u "serialVersionUID"), (0, u "J")] 79

def k9c0 : Code := { maxStack := 4, maxLocals := 2, code := jdk_117_method_8_code, exceptionTable := #[], attributes := #[] }
def k9m0 : Method := { name := "isFinite", desc := "(D)Z", sig := { parameters := [.double], returnType := some .boolean }, accessFlags := 9, code := some k9c0 }
/-- java/lang/Double -/
def k9 : Class := { plain "java/lang/Double" (some 5) with
  accessFlags := 49
  interfaces := #[6, 7, 8]
  cf := some (fileOf pool9 1 #[] #[{ accessFlags := 9, nameIndex := 13, descriptorIndex := 14, attributes := #[] }] 49 114 #[175, 177, 179] #[{ accessFlags := 25, nameIndex := 181, descriptorIndex := 121, attributes := #[] }, { accessFlags := 25, nameIndex := 185, descriptorIndex := 121, attributes := #[] }, { accessFlags := 25, nameIndex := 188, descriptorIndex := 121, attributes := #[] }, { accessFlags := 25, nameIndex := 191, descriptorIndex := 121, attributes := #[] }, { accessFlags := 25, nameIndex := 192, descriptorIndex := 121, attributes := #[] }, { accessFlags := 25, nameIndex := 193, descriptorIndex := 121, attributes := #[] }, { accessFlags := 25, nameIndex := 196, descriptorIndex := 197, attributes := #[] }, { accessFlags := 25, nameIndex := 199, descriptorIndex := 197, attributes := #[] }, { accessFlags := 25, nameIndex := 201, descriptorIndex := 197, attributes := #[] }, { accessFlags := 25, nameIndex := 203, descriptorIndex := 197, attributes := #[] }, { accessFlags := 25, nameIndex := 205, descriptorIndex := 197, attributes := #[] }, { accessFlags := 25, nameIndex := 173, descriptorIndex := 174, attributes := #[] }, { accessFlags := 18, nameIndex := 120, descriptorIndex := 121, attributes := #[] }, { accessFlags := 26, nameIndex := 209, descriptorIndex := 210, attributes := #[] }])
  fields := #[{ name := "POSITIVE_INFINITY", type := .double, accessFlags := 25, slot := 0, constantValue := 0 }, { name := "NEGATIVE_INFINITY", type := .double, accessFlags := 25, slot := 1, constantValue := 0 }, { name := "NaN", type := .double, accessFlags := 25, slot := 2, constantValue := 0 }, { name := "MAX_VALUE", type := .double, accessFlags := 25, slot := 3, constantValue := 0 }, { name := "MIN_NORMAL", type := .double, accessFlags := 25, slot := 4, constantValue := 0 }, { name := "MIN_VALUE", type := .double, accessFlags := 25, slot := 5, constantValue := 0 }, { name := "SIZE", type := .int, accessFlags := 25, slot := 6, constantValue := 0 }, { name := "PRECISION", type := .int, accessFlags := 25, slot := 7, constantValue := 0 }, { name := "MAX_EXPONENT", type := .int, accessFlags := 25, slot := 8, constantValue := 0 }, { name := "MIN_EXPONENT", type := .int, accessFlags := 25, slot := 9, constantValue := 0 }, { name := "BYTES", type := .int, accessFlags := 25, slot := 10, constantValue := 0 }, { name := "TYPE", type := (.object "java/lang/Class"), accessFlags := 25, slot := 11, constantValue := 0 }, { name := "value", type := .double, accessFlags := 18, slot := 0, constantValue := 0 }, { name := "serialVersionUID", type := .long, accessFlags := 26, slot := 12, constantValue := 0 }]
  methods := #[k9m0]
  instanceTypes := #[.double]
  staticTypes := #[.double, .double, .double, .double, .double, .double, .int, .int, .int, .int, .int, (.object "java/lang/Class"), .long]
  resolved := Array.replicate 290 none
  statics := none }

def pool10 : Array CpInfo := pool [(1, .class_ 2), (0, u "java/lang/Math"), (1, .class_ 6), (1, u "java/lang/Object"), (0, u "<init>"), (0, u "()V"), (5, u "(D)D"), (83, .class_ 100), (1, u "java/lang/Math$RandomNumberGeneratorHolder"), (23, u "abs"), (47, u "negativeZeroFloatBits"), (0, u "J"), (2, u "negativeZeroDoubleBits"), (68, u "$assertionsDisabled"), (0, u "Z"), (91, u "twoToTheDoubleScaleDown"), (0, u "D"), (4, u "twoToTheDoubleScaleUp"), (9, u "E"), (3, u "PI"), (2, u "TAU"), (2, u "DEGREES_TO_RADIANS"), (0, u "RADIANS_TO_DEGREES")] 94

def k10m0 : Method := { name := "<init>", desc := "()V", sig := { parameters := [], returnType := none }, accessFlags := 2, code := none }
def k10c1 : Code := { maxStack := 4, maxLocals := 2, code := jdk_29_method_64_code, exceptionTable := #[], attributes := #[] }
def k10m1 : Method := { name := "abs", desc := "(D)D", sig := { parameters := [.double], returnType := some .double }, accessFlags := 9, code := some k10c1 }
/-- java/lang/Math -/
def k10 : Class := { plain "java/lang/Math" (some 0) with
  accessFlags := 49
  interfaces := #[]
  cf := some (fileOf pool10 1 #[.nestMembers #[98]] #[{ accessFlags := 2, nameIndex := 7, descriptorIndex := 8, attributes := #[] }, { accessFlags := 9, nameIndex := 124, descriptorIndex := 14, attributes := #[] }] 49 4 #[] #[{ accessFlags := 25, nameIndex := 354, descriptorIndex := 339, attributes := #[] }, { accessFlags := 25, nameIndex := 358, descriptorIndex := 339, attributes := #[] }, { accessFlags := 25, nameIndex := 361, descriptorIndex := 339, attributes := #[] }, { accessFlags := 26, nameIndex := 364, descriptorIndex := 339, attributes := #[] }, { accessFlags := 26, nameIndex := 365, descriptorIndex := 339, attributes := #[] }, { accessFlags := 26, nameIndex := 172, descriptorIndex := 173, attributes := #[] }, { accessFlags := 26, nameIndex := 176, descriptorIndex := 173, attributes := #[] }, { accessFlags := 8, nameIndex := 344, descriptorIndex := 339, attributes := #[] }, { accessFlags := 8, nameIndex := 338, descriptorIndex := 339, attributes := #[] }, { accessFlags := 4120, nameIndex := 245, descriptorIndex := 246, attributes := #[] }])
  fields := #[{ name := "E", type := .double, accessFlags := 25, slot := 0, constantValue := 0 }, { name := "PI", type := .double, accessFlags := 25, slot := 1, constantValue := 0 }, { name := "TAU", type := .double, accessFlags := 25, slot := 2, constantValue := 0 }, { name := "DEGREES_TO_RADIANS", type := .double, accessFlags := 26, slot := 3, constantValue := 0 }, { name := "RADIANS_TO_DEGREES", type := .double, accessFlags := 26, slot := 4, constantValue := 0 }, { name := "negativeZeroFloatBits", type := .long, accessFlags := 26, slot := 5, constantValue := 0 }, { name := "negativeZeroDoubleBits", type := .long, accessFlags := 26, slot := 6, constantValue := 0 }, { name := "twoToTheDoubleScaleUp", type := .double, accessFlags := 8, slot := 7, constantValue := 0 }, { name := "twoToTheDoubleScaleDown", type := .double, accessFlags := 8, slot := 8, constantValue := 0 }, { name := "$assertionsDisabled", type := .boolean, accessFlags := 4120, slot := 9, constantValue := 0 }]
  methods := #[k10m0, k10m1]
  instanceTypes := #[]
  staticTypes := #[.double, .double, .double, .double, .double, .long, .long, .double, .double, .boolean]
  resolved := Array.replicate 460 none
  statics := none }

def pool11 : Array CpInfo := pool [(1, u "java/lang/Cloneable"), (0, .class_ 1), (0, u "java/lang/Object"), (0, .class_ 3)] 3

/-- java/lang/Cloneable -/
def k11 : Class := { plain "java/lang/Cloneable" (some 0) with
  accessFlags := 1537
  interfaces := #[]
  cf := some (fileOf pool11 2 #[] #[] 1537 4 #[] #[])
  fields := #[]
  methods := #[]
  instanceTypes := #[]
  staticTypes := #[]
  resolved := Array.replicate 8 none
  statics := none }

/-- the primitive byte -/
def k12 : Class := { plain "byte" none with kind := .primitive 'B', accessFlags := 0x411 }
/-- [B -/
def k13 : Class := { plain "[B" (some 0) with kind := .array 12 .byte, interfaces := #[11, 4], accessFlags := 1041 }

/-- the primitive int -/
def k14 : Class := { plain "int" none with kind := .primitive 'I', accessFlags := 0x411 }
/-- [I -/
def k15 : Class := { plain "[I" (some 0) with kind := .array 14 .int, interfaces := #[11, 4], accessFlags := 1041 }

def heap : Heap := #[]
def classes : Array Class := #[k0, k1, k2, k3, k4, k5, k6, k7, k8, k9, k10, k11, k12, k13, k14, k15]
def interned : List (Array UInt16 × Addr) := []
def slotsUsed : Nat := 0
def theMethod : MethodId := ⟨1, 1⟩
def args0 : Array Value := #[.int 5, .int 9, .int 1, .int 65, .int 3]
def aboutOver (below : List Frame) : State where
  vm := { classes := classes, interned := interned.toArray }
  heap := heap
  slotsUsed := slotsUsed
  threads := #[{ frames := .invoking theMethod args0 :: below }]
def below0 : List Frame := [.native { method := ⟨0, 0⟩, args := #[] }]
def about1 : State := aboutOver below0
def p0 : Program := .bare "" "" ""
def e0 : Env := launch0.env 0 0 0
theorem w_frames : about1.frames = Frame.invoking theMethod args0 :: below0 := rfl
set_option maxRecDepth 65536 in
theorem w_args : argsFit about1.vm theMethod args0 = true := by decide +kernel
set_option maxRecDepth 65536 in
theorem w_heap : heapFits about1 = true := by decide +kernel
set_option maxRecDepth 65536 in
theorem w_runnable : about1.curStatus? = some .runnable := by decide +kernel
set_option maxRecDepth 65536 in
theorem w_alone : about1.alone = true := by decide +kernel
set_option maxRecDepth 65536 in
theorem w_named : about1.methodNamed? x = some theMethod := by decide +kernel
set_option maxRecDepth 65536 in
theorem w_hears : about1.hears theMethod below0 = true := by decide +kernel
set_option maxRecDepth 65536 in
theorem w_ripe : about1.ripe theMethod args0 below0 = true := by decide +kernel
theorem w_running : about1.status = .running := rfl
set_option maxRecDepth 65536 in
theorem w_room : about1.hasRoom e0.platform room_1 = true :=
  launch0.hasRoom_least _ room_1 (by decide +kernel) (by decide +kernel) (by decide +kernel) (by decide +kernel) (by decide +kernel) (by decide +kernel)
theorem allAtoms_all (ts : List Jvm.Cond) (a : Array Jvm.Value) (st : Jvm.State) : (allAtoms ts).before a st = ts.all (fun c => c.before a st) := by
  induction ts with
  | nil => rfl
  | cons c t ih =>
    show (Jvm.Cond.and c (allAtoms t)).before a st = _
    rw [Jvm.Cond.before_and, ih, List.all_cons]
def words1 : List Jvm.Cond := Jvm.Cond.code x code maxLocals ret :: tables_1
/-- a 'code' word, met by the world's own term for the bytes: nothing is compared byte by byte -/
theorem code_word {y : MethodName} {bytes : ByteArray} {mx : Nat} {rt : Option FieldType} {a : Array Value} {s : State} {m : MethodId} {meth : Method} {c : Code} (h1 : s.methodNamed? y = some m) (h2 : s.vm.method? m = some meth) (h3 : meth.code = some c) (h4 : c.code = bytes)
    (h5 : (c.maxLocals == mx && c.exceptionTable.isEmpty && decide (c.maxStack ≤ mostOperands) && decide (meth.sig.returnType = rt) && !meth.locks && decide (parseMethodDescriptor y.desc = some meth.sig)) = true) : (Jvm.Cond.code y bytes mx rt).before a s = true := by
  simp only [Bool.and_eq_true, beq_iff_eq, Bool.not_eq_true', decide_eq_true_eq] at h5
  obtain ⟨⟨⟨⟨⟨g1, g2⟩, g3⟩, g4⟩, g5⟩, g6⟩ := h5
  simp [Cond.before, Cond.holds, Cond.value, h1, h2, h3, h4, g1, g2, g3, g4, g5, g6]
def isCode : Jvm.Cond → Bool
  | .code _ _ _ _ => true
  | _ => false
theorem all_split {L : List Jvm.Cond} {P : Jvm.Cond → Bool} (h1 : L.all (fun c => isCode c || P c) = true) (h2 : ∀ c ∈ L.filter isCode, P c = true) : L.all P = true := by
  refine List.all_eq_true.mpr fun c hc => ?_
  have h := List.all_eq_true.mp h1 c hc
  rcases Bool.eq_false_or_eq_true (isCode c) with hi | hi
  · exact h2 c (List.mem_filter.mpr ⟨hc, hi⟩)
  · simpa [hi] using h
set_option maxRecDepth 65536 in
theorem w_c0 : (Jvm.Cond.code x code maxLocals ret).before args0 about1 = true := code_word (m := ⟨1, 1⟩) (meth := k1m1) (c := k1c1) (by decide +kernel) rfl rfl rfl (by decide +kernel)
set_option maxRecDepth 65536 in
theorem w_c1 : (Jvm.Cond.code ({ cls := "com/example/lotwise/lotwise/model/LotMarket", name := "<init>", desc := "(IDD)V" } : Jvm.MethodName) prog_12_method_1_code (6 : Nat) (Option.none : Option Jvm.ClassFile.FieldType)).before args0 about1 = true := code_word (m := ⟨3, 0⟩) (meth := k3m0) (c := k3c0) (by decide +kernel) rfl rfl rfl (by decide +kernel)
set_option maxRecDepth 65536 in
theorem w_c2 : (Jvm.Cond.code ({ cls := "java/lang/Record", name := "<init>", desc := "()V" } : Jvm.MethodName) jdk_30_method_1_code (1 : Nat) (Option.none : Option Jvm.ClassFile.FieldType)).before args0 about1 = true := code_word (m := ⟨2, 0⟩) (meth := k2m0) (c := k2c0) (by decide +kernel) rfl rfl rfl (by decide +kernel)
set_option maxRecDepth 65536 in
theorem w_c3 : (Jvm.Cond.code ({ cls := "java/lang/Object", name := "<init>", desc := "()V" } : Jvm.MethodName) object_method_1_code (1 : Nat) (Option.none : Option Jvm.ClassFile.FieldType)).before args0 about1 = true := code_word (m := ⟨0, 0⟩) (meth := k0m0) (c := k0c0) (by decide +kernel) rfl rfl rfl (by decide +kernel)
set_option maxRecDepth 65536 in
theorem w_c4 : (Jvm.Cond.code ({ cls := "java/lang/Double", name := "isFinite", desc := "(D)Z" } : Jvm.MethodName) jdk_117_method_8_code (2 : Nat) (Option.some Jvm.ClassFile.FieldType.boolean)).before args0 about1 = true := code_word (m := ⟨9, 0⟩) (meth := k9m0) (c := k9c0) (by decide +kernel) rfl rfl rfl (by decide +kernel)
set_option maxRecDepth 65536 in
theorem w_c5 : (Jvm.Cond.code ({ cls := "java/lang/Math", name := "abs", desc := "(D)D" } : Jvm.MethodName) jdk_29_method_64_code (2 : Nat) (Option.some Jvm.ClassFile.FieldType.double)).before args0 about1 = true := code_word (m := ⟨10, 1⟩) (meth := k10m1) (c := k10c1) (by decide +kernel) rfl rfl rfl (by decide +kernel)
set_option maxRecDepth 65536 in
theorem w_c6 : (Jvm.Cond.code ({ cls := "com/example/lotwise/lotwise/model/LotMarket", name := "price", desc := "(D)D" } : Jvm.MethodName) prog_12_method_3_code (3 : Nat) (Option.some Jvm.ClassFile.FieldType.double)).before args0 about1 = true := code_word (m := ⟨3, 1⟩) (meth := k3m1) (c := k3c1) (by decide +kernel) rfl rfl rfl (by decide +kernel)
def codes1 : List Jvm.Cond := [Jvm.Cond.code x code maxLocals ret, Jvm.Cond.code ({ cls := "com/example/lotwise/lotwise/model/LotMarket", name := "<init>", desc := "(IDD)V" } : Jvm.MethodName) prog_12_method_1_code (6 : Nat) (Option.none : Option Jvm.ClassFile.FieldType), Jvm.Cond.code ({ cls := "java/lang/Record", name := "<init>", desc := "()V" } : Jvm.MethodName) jdk_30_method_1_code (1 : Nat) (Option.none : Option Jvm.ClassFile.FieldType), Jvm.Cond.code ({ cls := "java/lang/Object", name := "<init>", desc := "()V" } : Jvm.MethodName) object_method_1_code (1 : Nat) (Option.none : Option Jvm.ClassFile.FieldType), Jvm.Cond.code ({ cls := "java/lang/Double", name := "isFinite", desc := "(D)Z" } : Jvm.MethodName) jdk_117_method_8_code (2 : Nat) (Option.some Jvm.ClassFile.FieldType.boolean), Jvm.Cond.code ({ cls := "java/lang/Math", name := "abs", desc := "(D)D" } : Jvm.MethodName) jdk_29_method_64_code (2 : Nat) (Option.some Jvm.ClassFile.FieldType.double), Jvm.Cond.code ({ cls := "com/example/lotwise/lotwise/model/LotMarket", name := "price", desc := "(D)D" } : Jvm.MethodName) prog_12_method_3_code (3 : Nat) (Option.some Jvm.ClassFile.FieldType.double)]
set_option maxRecDepth 65536 in
theorem codes_eq : words1.filter isCode = codes1 := rfl
theorem w_codes : ∀ c ∈ words1.filter isCode, c.before args0 about1 = true := by
  rw [codes_eq]
  intro c hc
  simp only [codes1, List.mem_cons, List.not_mem_nil, or_false] at hc
  rcases hc with rfl | rfl | rfl | rfl | rfl | rfl | rfl
  · exact w_c0
  · exact w_c1
  · exact w_c2
  · exact w_c3
  · exact w_c4
  · exact w_c5
  · exact w_c6
set_option maxRecDepth 65536 in
theorem w_t1 : (words1.take 24).all (fun c => isCode c || c.before args0 about1) = true := by decide +kernel
set_option maxRecDepth 65536 in
theorem w_t2 : (words1.drop 24).all (fun c => isCode c || c.before args0 about1) = true := by decide +kernel
theorem w_tables : (allAtoms (Jvm.Cond.code x code maxLocals ret :: tables_1)).before args0 about1 = true := by
  rw [allAtoms_all]
  show words1.all (fun c => c.before args0 about1) = true
  refine all_split ?_ w_codes
  rw [← List.take_append_drop 24 words1, List.all_append, w_t1, w_t2]
  rfl
set_option maxRecDepth 65536 in
theorem w_case : (Jvm.Cond.and given_1 narrow_1).before args0 about1 = true := by decide +kernel
theorem w_applies : (headSpec (Jvm.Cond.code x code maxLocals ret :: tables_1) room_1).applies x e0.platform about1 = true :=
  (Spec.applies_iff w_frames).mpr ⟨w_running, w_runnable, w_alone, w_named, w_hears, w_ripe, w_room, w_tables⟩
theorem atStart : AtStart classFile x code maxLocals ret World_1 tables_1 room_1 Calls_1 rest_1 Pre_1 launch0 p0 e0 about1 theMethod args0 below0 :=
  ⟨lists_1, trivial, launch0.admits_env _ _ _, launch0.least_env, fairChoices_fair.cas, fairChoices_fair.clock, w_frames, w_args, w_heap, w_applies, trivial, trivial, w_case⟩
end start1
theorem witness_1 : WitnessClaimed_1 := ⟨start1.p0, start1.e0, start1.about1, start1.theMethod, start1.args0, start1.below0, start1.atStart⟩
end Jvm.Pilot.@@N@@
