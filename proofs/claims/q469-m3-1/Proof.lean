import JvmDerived
import JvmDerived.Pilot.@@N@@Statement
import JvmDerived.Pilot.@@N@@Code
set_option linter.unusedVariables false
set_option linter.unusedSimpArgs false

namespace Jvm.RoadKit
open Sem ClassFile Op Lib Jvm.Stand Jvm.Free Jvm.LawKit
section New
variable {p : Program} {l : Launch} {e : Env} {R : Room} {s : State} {m : MethodId} {args : Array Value} {below : List Frame} {meth : Method} {c : Code} {T : State} {locs : List Loc} {cells slots : Nat}
theorem retI (X : Stand p l e R s m args below meth c T locs cells slots) (hx : p.tables.exec = Jvm.exec) {pc : Nat} {Ls : Array Slot} {z : Int32} {rest : List Value} (hret : meth.sig.returnType = some .int) (hd : decode c.code pc = .ok (.ireturn, 1)) {fs : List Frame}
    (hl : ∀ (f : JFrame) (acts : List Action), f.method = m → f.locked = none → f.entered = [] → (doReturn e (T.setTop f) acts (some (.int z))).1 = T.setFrames fs) : Steps p.tables e below (T.setTop (mkF m pc Ls (.int z :: rest))) (T.setFrames fs) := by
  have hm' : T.vm.method? m = some meth := X.method'
  have hn : narrow .int (.int z) = .int z := rfl
  show Steps p.tables e below (T.setTop { method := m, pc := pc, locals := Ls, stack := _ :: rest, locked := none }) _
  jvm_step X.here [X.here.top, hx, hd, hm', hret, hn]
  first | (intro acts; rw [hl _ acts rfl rfl rfl]) | rw [hl _ _ rfl rfl rfl]
  exact Steps.refl _
theorem retD (X : Stand p l e R s m args below meth c T locs cells slots) (hx : p.tables.exec = Jvm.exec) {pc : Nat} {Ls : Array Slot} {z : UInt64} {rest : List Value} (hret : meth.sig.returnType = some .double) (hd : decode c.code pc = .ok (.dreturn, 1)) {fs : List Frame}
    (hl : ∀ (f : JFrame) (acts : List Action), f.method = m → f.locked = none → f.entered = [] → (doReturn e (T.setTop f) acts (some (.double z))).1 = T.setFrames fs) : Steps p.tables e below (T.setTop (mkF m pc Ls (.double z :: rest))) (T.setFrames fs) := by
  have hm' : T.vm.method? m = some meth := X.method'
  have hn : narrow .double (.double z) = .double z := rfl
  show Steps p.tables e below (T.setTop { method := m, pc := pc, locals := Ls, stack := _ :: rest, locked := none }) _
  jvm_step X.here [X.here.top, hx, hd, hm', hret, hn]
  first | (intro acts; rw [hl _ acts rfl rfl rfl]) | rw [hl _ _ rfl rfl rfl]
  exact Steps.refl _
end New
end Jvm.RoadKit

namespace Jvm.Pilot.@@N@@
section OwnFloat
open Jvm.FP Jvm.FP.Core
/-- a double's value in units of 2^-1074 -/
def own_z (a : UInt64) : Int := zval b64 (val64 a)
def own_u : Int := ((2 ^ 1074 : Nat) : Int)
theorem own_ac1 (s l u : Int) : s * l * u * u = s * u * (l * u) := by ac_rfl
theorem own_ac2 (l u d : Int) : l * u * (d * u) = l * d * (u * u) := by ac_rfl
theorem own_ac3 (n u p : Int) : n * u * u * p = n * p * (u * u) := by ac_rfl
theorem own_u_pos : 0 < own_u := Int.natCast_pos.mpr (Nat.two_pow_pos _)
theorem own_p_pos (k : Nat) : (0 : Int) < 2 ^ k := Int.pow_pos (by decide)
/-- a is finite and lo ≤ a * 2^k ≤ hi -/
def own_In (k : Nat) (lo hi : Int) (a : UInt64) : Prop := DFin a ∧ lo * own_u ≤ own_z a * 2 ^ k ∧ own_z a * 2 ^ k ≤ hi * own_u
theorem own_rep {k : Nat} (hk : k ≤ 1000) {i : Int} (hi : i.natAbs < 2 ^ 53) : ∃ V, Core.fits b64 V ∧ V ≠ .nan ∧ (∃ s c q, V = .fin s c q) ∧ zval b64 V * 2 ^ k = i * own_u := by
  obtain ⟨c', q', h1, h2⟩ := round_exact good_b64 (decide (i < 0)) (c := i.natAbs) (q := -(k : Int)) hi (by rw [qmin_b64]; omega) (Int.le_trans (by omega) (show (0 : Int) ≤ b64.qmax from by decide))
  refine ⟨round b64 (.fin (decide (i < 0)) i.natAbs (-(k : Int))), round_fits good_b64 _, by rw [h1]; exact Datum.noConfusion, ⟨_, _, _, h1⟩, ?_⟩
  rw [h1]
  show signed (decide (i < 0)) (inUnits c' q' b64.qmin) * 2 ^ k = i * own_u
  rw [h2]
  unfold inUnits
  rw [signed_mul, show signed (decide (i < 0)) i.natAbs = i from by unfold signed; by_cases h : i < 0 <;> simp [h] <;> omega, qmin_b64, show (-(k : Int) - (-1074)).toNat = 1074 - k by omega, Int.mul_assoc]
  have e : (2 : Nat) ^ 1074 = 2 ^ (1074 - k) * 2 ^ k := by rw [← Nat.pow_add]; congr 1; omega
  unfold own_u
  rw [e, Int.natCast_mul, Int.natCast_pow 2 k]
  rfl
theorem own_fin_of {d V W : Datum} (hd : Core.fits b64 d) (hn : d ≠ .nan) (hV : Core.fits b64 V) (fV : ∃ s c q, V = .fin s c q) (hW : Core.fits b64 W) (fW : ∃ s c q, W = .fin s c q) (h1 : zval b64 V ≤ zval b64 d) (h2 : zval b64 d ≤ zval b64 W) : ∃ s c q, d = .fin s c q := by
  obtain ⟨s1, c1, q1, rfl⟩ := fV
  obtain ⟨s2, c2, q2, rfl⟩ := fW
  have t1 : zmag b64 (.fin s1 c1 q1) < b64.tails * 2 ^ (b64.exps - 2) := zmag_lt_top good_b64 hV
  have t2 : zmag b64 (.fin s2 c2 q2) < b64.tails * 2 ^ (b64.exps - 2) := zmag_lt_top good_b64 hW
  cases d with
  | nan => exact absurd rfl hn
  | fin s c q => exact ⟨s, c, q, rfl⟩
  | inf s =>
    exfalso
    have e : zval b64 (.inf s) = signed s (b64.tails * 2 ^ (b64.exps - 2)) := rfl
    rw [e] at h1 h2
    unfold zval at h1 h2
    generalize b64.tails * 2 ^ (b64.exps - 2) = top at *
    generalize zmag b64 (.fin s1 c1 q1) = z1 at *
    generalize zmag b64 (.fin s2 c2 q2) = z2 at *
    generalize sgn (.fin s1 c1 q1) = g1 at *
    generalize sgn (.fin s2 c2 q2) = g2 at *
    cases s <;> cases g1 <;> cases g2 <;> simp [signed] at h1 h2 <;> omega
/-- d is the rounding of num / den -/
def own_Mono (d : Datum) (num den : Int) : Prop := ∀ V, Core.fits b64 V → V ≠ .nan → (num ≤ zval b64 V * den → zval b64 d ≤ zval b64 V) ∧ (zval b64 V * den ≤ num → zval b64 V ≤ zval b64 d)
theorem own_mk {a : UInt64} {num den : Int} (hn : val64 a ≠ .nan) (M : own_Mono (val64 a) num den) (hden : 0 < den) {k : Nat} (hk : k ≤ 1000) {lo hi : Int} (bl : lo.natAbs < 2 ^ 53) (bh : hi.natAbs < 2 ^ 53) (h1 : lo * own_u * den ≤ num * 2 ^ k) (h2 : num * 2 ^ k ≤ hi * own_u * den) : own_In k lo hi a := by
  obtain ⟨V, fV, nV, gV, eV⟩ := own_rep hk bl
  obtain ⟨W, fW, nW, gW, eW⟩ := own_rep hk bh
  have pk := own_p_pos k
  have a1 : zval b64 V ≤ zval b64 (val64 a) := (M V fV nV).2 (by
    refine Int.le_of_mul_le_mul_right ?_ pk
    rw [Int.mul_right_comm, eV]; exact h1)
  have a2 : zval b64 (val64 a) ≤ zval b64 W := (M W fW nW).1 (by
    refine Int.le_of_mul_le_mul_right ?_ pk
    rw [Int.mul_right_comm (zval b64 W), eW]; exact h2)
  refine ⟨own_fin_of (val64_fits a) hn fV gV fW gW a1 a2, ?_, ?_⟩
  · rw [← eV]; exact Int.mul_le_mul_of_nonneg_right a1 (Int.le_of_lt pk)
  · rw [← eW]; exact Int.mul_le_mul_of_nonneg_right a2 (Int.le_of_lt pk)
theorem own_add_mono {a b : UInt64} (ha : DFin a) (hb : DFin b) : own_Mono (val64 (Core.dadd a b)) (own_z a + own_z b) 1 := by
  intro V hV nV
  rw [val64_dadd]
  have fa := val64_fits a
  have fb := val64_fits b
  unfold own_z
  obtain ⟨s, c, q, ea⟩ := ha
  obtain ⟨t, d, r, eb⟩ := hb
  rw [ea] at fa ⊢
  rw [eb] at fb ⊢
  obtain ⟨sg, n, e, e1, e2, e3⟩ := sum_units fa fb
  rw [e1]
  have z : (b64.qmin - b64.qmin).toNat = 0 := by omega
  constructor
  · intro h
    exact zval_round_le good_b64 hV nV (Int.le_refl _) e2 (by rw [e3, z]; simpa using h)
  · intro h
    exact zval_round_ge good_b64 hV nV (Int.le_refl _) e2 (by rw [e3, z]; simpa using h)
theorem own_mul_mono {a b : UInt64} (ha : DFin a) (hb : DFin b) : own_Mono (val64 (Core.dmul a b)) (own_z a * own_z b) own_u := by
  intro V hV nV
  rw [val64_dmul]
  have fa := val64_fits a
  have fb := val64_fits b
  unfold own_z
  obtain ⟨s, c, q, ea⟩ := ha
  obtain ⟨t, d, r, eb⟩ := hb
  rw [ea] at fa ⊢
  rw [eb] at fb ⊢
  obtain ⟨e1, e2, e3⟩ := product_units fa fb
  rw [e1]
  have e4 : signed (s != t) (inUnits (c * d) (q + r) (2 * b64.qmin)) = zval b64 (.fin s c q) * zval b64 (.fin t d r) := by
    rw [e3, signed_xor]; rfl
  have z : (b64.qmin - 2 * b64.qmin).toNat = 1074 := by rw [qmin_b64]; decide
  have z2 : 2 * b64.qmin ≤ b64.qmin := by rw [qmin_b64]; decide
  constructor
  · intro h
    exact zval_round_le good_b64 hV nV z2 e2 (by rw [e4, z]; exact h)
  · intro h
    exact zval_round_ge good_b64 hV nV z2 e2 (by rw [e4, z]; exact h)
theorem own_div_eq {c d : Nat} {q r : Int} (h1 : b64.qmin ≤ q) (h2 : b64.qmin ≤ r) (h3 : r ≤ b64.qmax) {V : Nat} :
    inUnits c (q - r) (-2200) * 2 ^ (r - b64.qmin).toNat = inUnits c q b64.qmin * 2 ^ 2200 ∧ (V * 2 ^ (b64.qmin - (-2200)).toNat * d) * 2 ^ (r - b64.qmin).toNat = V * inUnits d r b64.qmin * 2 ^ 1126 := by
  have e : b64.qmax = 971 := by decide
  rw [qmin_b64] at *
  unfold inUnits
  constructor
  · rw [Nat.mul_assoc, ← Nat.pow_add, Nat.mul_assoc, ← Nat.pow_add]
    congr 2; omega
  · rw [show ((-1074 : Int) - (-2200)).toNat = 1126 from by decide]
    generalize (2 : Nat) ^ 1126 = A
    generalize 2 ^ (r - -1074).toNat = B
    rw [Nat.mul_assoc (V * A), Nat.mul_right_comm]
theorem own_div_mag_le {σ s t u : Bool} {c d c' : Nat} {q r q' : Int} {V : Datum} (hx : Core.fits b64 (.fin s c q)) (hy : Core.fits b64 (.fin t d r)) (hd : 0 < d) (hV : Core.fits b64 V) (hn : V ≠ .nan)
    (h : zmag b64 (.fin s c q) * 2 ^ 1074 ≤ zmag b64 V * zmag b64 (.fin t d r)) : zmag b64 (roundRatio b64 σ c d (q - r)) ≤ zmag b64 V := by
  have e : b64.qmax = 971 := by decide
  have q1 := hx.2.1
  have r1 := hy.2.1
  have r2 := hy.2.2.1
  have m := qmin_b64
  refine zmag_roundRatio_le good_b64 hd hV hn (e0 := -2200) (by omega) (by omega) ?_
  obtain ⟨e1, e2⟩ := own_div_eq (c := c) (d := d) (V := zmag b64 V) q1 r1 r2
  refine Nat.le_of_mul_le_mul_right ?_ (Nat.two_pow_pos (r - b64.qmin).toNat)
  rw [e1, e2]
  have h' : inUnits c q b64.qmin * 2 ^ 1074 ≤ zmag b64 V * inUnits d r b64.qmin := h
  have h'' := Nat.mul_le_mul_right (2 ^ 1126) h'
  rw [Nat.mul_assoc (inUnits c q b64.qmin), ← Nat.pow_add] at h''
  exact h''
theorem own_div_mag_ge {σ s t u : Bool} {c d c' : Nat} {q r q' : Int} {V : Datum} (hx : Core.fits b64 (.fin s c q)) (hy : Core.fits b64 (.fin t d r)) (hd : 0 < d) (hV : Core.fits b64 V)
    (h : zmag b64 V * zmag b64 (.fin t d r) ≤ zmag b64 (.fin s c q) * 2 ^ 1074) : zmag b64 V ≤ zmag b64 (roundRatio b64 σ c d (q - r)) := by
  have e : b64.qmax = 971 := by decide
  have q1 := hx.2.1
  have r1 := hy.2.1
  have r2 := hy.2.2.1
  have m := qmin_b64
  refine zmag_roundRatio_ge good_b64 hd hV (e0 := -2200) (by omega) (by omega) ?_
  obtain ⟨e1, e2⟩ := own_div_eq (c := c) (d := d) (V := zmag b64 V) q1 r1 r2
  refine Nat.le_of_mul_le_mul_right ?_ (Nat.two_pow_pos (r - b64.qmin).toNat)
  rw [e1, e2]
  have h' : zmag b64 V * inUnits d r b64.qmin ≤ inUnits c q b64.qmin * 2 ^ 1074 := h
  have h'' := Nat.mul_le_mul_right (2 ^ 1126) h'
  rw [Nat.mul_assoc (inUnits c q b64.qmin), ← Nat.pow_add] at h''
  exact h''
theorem own_div_mono {a b : UInt64} (ha : DFin a) (hb : DFin b) (hp : 0 < own_z b) : own_Mono (val64 (Core.ddiv a b)) (own_z a * own_u) (own_z b) := by
  intro V hV nV
  rw [val64_ddiv]
  have fa := val64_fits a
  have fb := val64_fits b
  unfold own_z at hp ⊢
  obtain ⟨s, c, q, ea⟩ := ha
  obtain ⟨t, d, r, eb⟩ := hb
  rw [ea] at fa ⊢
  rw [eb] at fb hp ⊢
  have ht : t = false := by
    cases t with
    | false => rfl
    | true => exfalso; unfold zval at hp; simp [sgn, signed] at hp; omega
  subst ht
  have hd : 0 < d := by
    rcases Nat.eq_zero_or_pos d with h | h
    · subst h; exfalso; unfold zval zmag at hp; simp [inUnits, signed, sgn] at hp
    · exact h
  have eq : quotient b64 (.fin s c q) (.fin false d r) = roundRatio b64 (s != false) c d (q - r) := by
    show (if d = 0 then _ else _) = _
    rw [if_neg (by omega)]
  rw [eq]
  have hs : (s != false) = s := by cases s <;> rfl
  rw [hs]
  have le := own_div_mag_le (σ := s) (u := s) (c' := c) (q' := q) fa fb hd hV nV
  have ge := own_div_mag_ge (σ := s) (u := s) (c' := c) (q' := q) fa fb hd hV
  have zb : zval b64 (.fin false d r) = ((zmag b64 (.fin false d r) : Nat) : Int) := rfl
  have zb0 : 0 < zmag b64 (.fin false d r) := by rw [zb] at hp; omega
  have zr : zval b64 (roundRatio b64 s c d (q - r)) = signed s (zmag b64 (roundRatio b64 s c d (q - r))) := by unfold zval; rw [sgn_roundRatio]
  have za : zval b64 (.fin s c q) = signed s (zmag b64 (.fin s c q)) := rfl
  have zv : zval b64 V = signed (sgn V) (zmag b64 V) := rfl
  rw [zr, za, zv, zb]
  unfold own_u
  rw [← signed_mul, ← signed_mul]
  have hz1 : zmag b64 V * zmag b64 (.fin false d r) = 0 → zmag b64 V = 0 := fun h => by rcases Nat.mul_eq_zero.mp h with h | h <;> omega
  have hz2 : zmag b64 (.fin s c q) * 2 ^ 1074 = 0 → zmag b64 (roundRatio b64 s c d (q - r)) = 0 := fun h => by
    have := own_div_mag_le (σ := s) (u := s) (c' := c) (q' := q) (V := .fin false 0 b64.qmin) fa fb hd (zero_fits good_b64 false) Datum.noConfusion (by rw [h]; exact Nat.zero_le _)
    have e0 : zmag b64 (.fin false 0 b64.qmin) = 0 := by unfold zmag inUnits; simp
    omega
  generalize zmag b64 V * zmag b64 (.fin false d r) = vP at *
  generalize zmag b64 (.fin s c q) * 2 ^ 1074 = xP at *
  generalize zmag b64 (roundRatio b64 s c d (q - r)) = R at *
  generalize zmag b64 V = v at *
  generalize sgn V = g at *
  constructor
  · intro h
    cases s <;> cases g <;> simp only [signed, if_true, Bool.false_eq_true, if_false] at h ⊢
    · have := le (by omega); omega
    · have := hz1 (by omega); have := hz2 (by omega); omega
    · omega
    · have := ge (by omega); omega
  · intro h
    cases s <;> cases g <;> simp only [signed, if_true, Bool.false_eq_true, if_false] at h ⊢
    · have := ge (by omega); omega
    · omega
    · have := hz1 (by omega); have := hz2 (by omega); omega
    · have := le (by omega); omega
theorem own_In.fin {k : Nat} {lo hi : Int} {a : UInt64} (h : own_In k lo hi a) : DFin a := h.1
theorem own_In.nn {k : Nat} {lo hi : Int} {a : UInt64} (h : own_In k lo hi a) : Jvm.Free.Fl.NoNaN64 a := Jvm.Free.Fl.val64_no.mpr h.1.ne_nan
theorem own_In.z0 {lo hi : Int} {a : UInt64} (h : own_In 0 lo hi a) : lo * own_u ≤ own_z a ∧ own_z a ≤ hi * own_u := by
  obtain ⟨-, h1, h2⟩ := h
  rw [Int.pow_zero, Int.mul_one] at h1 h2
  exact ⟨h1, h2⟩
theorem own_In.zz {i : Int} {a : UInt64} (h : own_In 0 i i a) : own_z a = i * own_u := by
  have := h.z0; omega
theorem own_In.of_int {i : Int} {a : UInt64} (h : DInt i a) : own_In 0 i i a := by
  unfold DInt at h
  have fa := val64_fits a
  cases e : val64 a with
  | nan => rw [e] at h; exact h.elim
  | inf s => rw [e] at h; exact h.elim
  | fin s c q =>
    rw [e] at h fa
    have q1 := fa.2.1
    rw [qmin_b64] at q1
    have hz : own_z a = i * own_u := by
      unfold own_z own_u
      rw [e]
      show signed s (inUnits c q b64.qmin) = _
      have h' : signed s (c * 2 ^ q.toNat) = i * ((2 ^ (-q).toNat : Nat) : Int) := h
      have e1 : inUnits c q b64.qmin * 2 ^ (-q).toNat = c * 2 ^ q.toNat * 2 ^ 1074 := by
        rw [qmin_b64]
        unfold inUnits
        rw [Nat.mul_assoc, ← Nat.pow_add, Nat.mul_assoc, ← Nat.pow_add]
        congr 2; omega
      have e2 : signed s (inUnits c q b64.qmin) * ((2 ^ (-q).toNat : Nat) : Int) = i * ((2 ^ 1074 : Nat) : Int) * ((2 ^ (-q).toNat : Nat) : Int) := by
        rw [← signed_mul, e1, signed_mul, h', Int.mul_right_comm]
      exact Int.eq_of_mul_eq_mul_right (by have := Nat.two_pow_pos (-q).toNat; omega) e2
    refine ⟨⟨s, c, q, e⟩, ?_, ?_⟩ <;> rw [hz, Int.pow_zero, Int.mul_one] <;> exact Int.le_refl _
theorem own_In.l2d {a : Int64} (h : a.toInt.natAbs ≤ 2 ^ 53) : own_In 0 a.toInt a.toInt (Jvm.FP.l2d a) := own_In.of_int (l2d_int h)
theorem own_In.i2d (a : Int32) : own_In 0 a.toInt a.toInt (Jvm.FP.i2d a) := own_In.of_int (i2d_int a)
theorem own_In.scale {k : Nat} {lo hi : Int} {a : UInt64} (j : Nat) (h : own_In k lo hi a) : own_In (k + j) (lo * 2 ^ j) (hi * 2 ^ j) a := by
  obtain ⟨f, h1, h2⟩ := h
  have p := Int.le_of_lt (own_p_pos j)
  refine ⟨f, ?_, ?_⟩
  · rw [Int.pow_add, ← Int.mul_assoc, Int.mul_right_comm lo]; exact Int.mul_le_mul_of_nonneg_right h1 p
  · rw [Int.pow_add, ← Int.mul_assoc, Int.mul_right_comm hi]; exact Int.mul_le_mul_of_nonneg_right h2 p
theorem own_In.wide {k : Nat} {lo hi lo' hi' : Int} {a : UInt64} (h : own_In k lo hi a) (h1 : lo' ≤ lo) (h2 : hi ≤ hi') : own_In k lo' hi' a := by
  obtain ⟨f, a1, a2⟩ := h
  have p := Int.le_of_lt own_u_pos
  exact ⟨f, Int.le_trans (Int.mul_le_mul_of_nonneg_right h1 p) a1, Int.le_trans a2 (Int.mul_le_mul_of_nonneg_right h2 p)⟩
theorem own_ne_of_fin {a b : UInt64} (ha : DFin a) (hb : DFin b) : val64 (Core.dadd a b) ≠ .nan := (notNaN_iff _).mp (dadd_out ha.notNaN hb)
theorem own_In.add {k : Nat} {l1 h1 l2 h2 : Int} {a b : UInt64} (ha : own_In k l1 h1 a) (hb : own_In k l2 h2 b) (hk : k ≤ 1000) (bl : (l1 + l2).natAbs < 2 ^ 53) (bh : (h1 + h2).natAbs < 2 ^ 53) : own_In k (l1 + l2) (h1 + h2) (Jvm.FP.dadd a b) := by
  refine own_mk (own_ne_of_fin ha.1 hb.1) (own_add_mono ha.1 hb.1) (by decide) hk bl bh ?_ ?_
  · rw [Int.mul_one, Int.add_mul, Int.add_mul]; exact Int.add_le_add ha.2.1 hb.2.1
  · rw [Int.mul_one, Int.add_mul, Int.add_mul]; exact Int.add_le_add ha.2.2 hb.2.2
theorem own_In.mul {k : Nat} {s l h : Int} {a b : UInt64} (ha : own_In 0 s s a) (hs : 0 ≤ s) (hb : own_In k l h b) (hk : k ≤ 1000) (bl : (s * l).natAbs < 2 ^ 53) (bh : (s * h).natAbs < 2 ^ 53) : own_In k (s * l) (s * h) (Jvm.FP.dmul a b) := by
  have e : own_z a * own_z b * 2 ^ k = s * own_u * (own_z b * 2 ^ k) := by rw [ha.zz, Int.mul_assoc]
  have p : 0 ≤ s * own_u := Int.mul_nonneg hs (Int.le_of_lt own_u_pos)
  refine own_mk ((notNaN_iff _).mp (dmul_out ha.1 hb.1)) (own_mul_mono ha.1 hb.1) own_u_pos hk bl bh ?_ ?_
  · rw [e, own_ac1 s l]; exact Int.mul_le_mul_of_nonneg_left hb.2.1 p
  · rw [e, own_ac1 s h]; exact Int.mul_le_mul_of_nonneg_left hb.2.2 p
theorem own_z_nz {d : Int} {b : UInt64} (hb : own_In 0 d d b) (hd : 0 < d) : 0 < own_z b := by rw [hb.zz]; exact Int.mul_pos hd own_u_pos
theorem own_nz {b : UInt64} (h : 0 < own_z b) : ¬ DZero b := by
  rintro ⟨s, q, e⟩
  unfold own_z at h
  rw [e] at h
  unfold zval zmag at h
  simp [inUnits, sgn, signed_zero] at h
theorem own_In.div {k : Nat} {n d l h : Int} {a b : UInt64} (ha : own_In 0 n n a) (hb : own_In 0 d d b) (hd : 0 < d) (hk : k ≤ 1000) (bl : l.natAbs < 2 ^ 53) (bh : h.natAbs < 2 ^ 53) (h1 : l * d ≤ n * 2 ^ k) (h2 : n * 2 ^ k ≤ h * d) : own_In k l h (Jvm.FP.ddiv a b) := by
  have zb := own_z_nz hb hd
  have p : 0 ≤ own_u * own_u := Int.mul_nonneg (Int.le_of_lt own_u_pos) (Int.le_of_lt own_u_pos)
  refine own_mk ((notNaN_iff _).mp (ddiv_out ha.1.notNaN hb.1 (own_nz zb))) (own_div_mono ha.1 hb.1 zb) zb hk bl bh ?_ ?_
  · rw [ha.zz, hb.zz, own_ac2 l, own_ac3 n]
    exact Int.mul_le_mul_of_nonneg_right h1 p
  · rw [ha.zz, hb.zz, own_ac2 h, own_ac3 n]
    exact Int.mul_le_mul_of_nonneg_right h2 p
theorem own_cmpN {a b : UInt64} (ha : val64 a ≠ .nan) (hb : val64 b ≠ .nan) : Jvm.FP.dcmp a b = some (compare (own_z a) (own_z b)) := order_zval good_b64 (val64_fits a) (val64_fits b) ha hb
theorem own_cmp {a b : UInt64} (ha : DFin a) (hb : DFin b) : Jvm.FP.dcmp a b = some (compare (own_z a) (own_z b)) := own_cmpN ha.ne_nan hb.ne_nan
theorem own_ltZ {a b : UInt64} (ha : val64 a ≠ .nan) (hb : val64 b ≠ .nan) (q : own_z a < own_z b) (o : ClassFile.CmpOp) : Op.cmpValue (Jvm.FP.dcmp a b) o = -1 := by
  rw [own_cmpN ha hb, show compare (own_z a) (own_z b) = .lt from by simp [compare, compareOfLessAndEq, q]]; rfl
theorem own_gtZ {a b : UInt64} (ha : val64 a ≠ .nan) (hb : val64 b ≠ .nan) (q : own_z b < own_z a) (o : ClassFile.CmpOp) : Op.cmpValue (Jvm.FP.dcmp a b) o = 1 := by
  have q1 : ¬ own_z a < own_z b := by omega
  have q2 : ¬ own_z a = own_z b := by omega
  rw [own_cmpN ha hb, show compare (own_z a) (own_z b) = .gt from by simp [compare, compareOfLessAndEq, q1, q2]]; rfl
theorem own_eqZ {a b : UInt64} (ha : val64 a ≠ .nan) (hb : val64 b ≠ .nan) (q : own_z a = own_z b) (o : ClassFile.CmpOp) : Op.cmpValue (Jvm.FP.dcmp a b) o = 0 := by
  rw [own_cmpN ha hb, q, compare_self_int]; rfl
theorem own_geZ {a b : UInt64} (ha : val64 a ≠ .nan) (hb : val64 b ≠ .nan) (q : own_z b ≤ own_z a) (o : ClassFile.CmpOp) : ¬ Op.cmpValue (Jvm.FP.dcmp a b) o < 0 := by
  by_cases h : own_z a = own_z b
  · rw [own_eqZ ha hb h]; decide
  · rw [own_gtZ ha hb (by omega)]; decide
theorem own_leZ {a b : UInt64} (ha : val64 a ≠ .nan) (hb : val64 b ≠ .nan) (q : own_z a ≤ own_z b) (o : ClassFile.CmpOp) : ¬ (0 : Int32) < Op.cmpValue (Jvm.FP.dcmp a b) o := by
  by_cases h : own_z a = own_z b
  · rw [own_eqZ ha hb h]; decide
  · rw [own_ltZ ha hb (by omega)]; decide
theorem own_neg_z (a : UInt64) : own_z (Jvm.FP.dneg a) = -own_z a := by
  unfold own_z
  rw [Jvm.FP.val64_dneg, zval_negate]
theorem own_neg_ne {a : UInt64} (h : val64 a ≠ .nan) : val64 (Jvm.FP.dneg a) ≠ .nan := by
  rw [Jvm.FP.val64_dneg]; exact negate_ne_nan h
theorem own_lit {a : UInt64} {i : Int} {c : Nat} {q : Int} (h : val64 a = .fin false c q) (h2 : ((c * 2 ^ q.toNat : Nat) : Int) = i * ((2 ^ (-q).toNat : Nat) : Int)) : own_In 0 i i a := own_In.of_int (show Whole i (val64 a) from by rw [h]; exact h2)
theorem own_In0 : own_In 0 0 0 (0 : UInt64) := own_lit (c := 0) (q := -1074) (by decide +kernel) (by simp)
theorem own_In1 : own_In 0 1 1 (4607182418800017408 : UInt64) := own_lit (c := 4503599627370496) (q := -52) (by decide +kernel) (by decide)
/-- |y| ≤ Double.MAX_VALUE for a finite y -/
theorem own_absle {y : UInt64} (h : Jvm.Free.Fl.Fin64 y) (o : ClassFile.CmpOp) : ¬ (0 : Int32) < Op.cmpValue (Jvm.FP.dcmp (y &&& 0x7fffffffffffffff) 9218868437227405311) o := by
  have hn := Jvm.Free.Fl.abs_toNat y
  have hf := (Jvm.Free.Fl.fin64_iff y).mp h
  have h1 : val64 (y &&& 0x7fffffffffffffff) ≠ .nan := (ne_nan _).mpr (by omega)
  have h2 : val64 (9218868437227405311 : UInt64) ≠ .nan := by decide +kernel
  have k : Jvm.FP.dcmp (y &&& 0x7fffffffffffffff) 9218868437227405311 = some (compare (key b64 (y &&& 0x7fffffffffffffff).toNat) (key b64 (9218868437227405311 : UInt64).toNat)) := cmp_key good_b64 (lt_full64 _) (lt_full64 _) h1 h2
  have e2 : key b64 (9218868437227405311 : UInt64).toNat = 9218868437227405311 := by decide +kernel
  have e1 : key b64 (y &&& 0x7fffffffffffffff).toNat = ((y.toNat % 9223372036854775808 : Nat) : Int) := by
    unfold key mag
    rw [half_b64, hn]
    have : ¬ 2 ^ 63 ≤ y.toNat % 9223372036854775808 := by omega
    rw [show y.toNat % 9223372036854775808 % 2 ^ 63 = y.toNat % 9223372036854775808 from Nat.mod_eq_of_lt (by omega)]
    simp [this, signed]
  rw [k, e1, e2]
  by_cases q1 : ((y.toNat % 9223372036854775808 : Nat) : Int) < 9218868437227405311
  · rw [show compare ((y.toNat % 9223372036854775808 : Nat) : Int) 9218868437227405311 = .lt from by simp only [compare, compareOfLessAndEq, q1, if_true]]; cases o <;> decide
  · have q2 : ((y.toNat % 9223372036854775808 : Nat) : Int) = 9218868437227405311 := by omega
    rw [q2, compare_self_int]; cases o <;> decide
theorem own_In.lt {k : Nat} {l1 h1 l2 h2 : Int} {a b : UInt64} (ha : own_In k l1 h1 a) (hb : own_In k l2 h2 b) (h : h1 < l2) (o : ClassFile.CmpOp) : Op.cmpValue (Jvm.FP.dcmp a b) o = -1 := by
  have q : own_z a < own_z b := by
    refine Int.lt_of_mul_lt_mul_right ?_ (Int.le_of_lt (own_p_pos k))
    exact Int.lt_of_le_of_lt ha.2.2 (Int.lt_of_lt_of_le (Int.mul_lt_mul_of_pos_right h own_u_pos) hb.2.1)
  rw [own_cmp ha.1 hb.1, show compare (own_z a) (own_z b) = .lt from by simp [compare, compareOfLessAndEq, q]]; rfl
theorem own_In.gt {k : Nat} {l1 h1 l2 h2 : Int} {a b : UInt64} (ha : own_In k l1 h1 a) (hb : own_In k l2 h2 b) (h : h2 < l1) (o : ClassFile.CmpOp) : Op.cmpValue (Jvm.FP.dcmp a b) o = 1 := by
  have q : own_z b < own_z a := by
    refine Int.lt_of_mul_lt_mul_right ?_ (Int.le_of_lt (own_p_pos k))
    exact Int.lt_of_le_of_lt hb.2.2 (Int.lt_of_lt_of_le (Int.mul_lt_mul_of_pos_right h own_u_pos) ha.2.1)
  rw [own_cmp ha.1 hb.1, show compare (own_z a) (own_z b) = .gt from by simp [compare, compareOfLessAndEq, (show ¬ own_z a < own_z b by omega), (show ¬ own_z a = own_z b by omega)]]; rfl
theorem own_In.eq {k : Nat} {i : Int} {a b : UInt64} (ha : own_In k i i a) (hb : own_In k i i b) (o : ClassFile.CmpOp) : Op.cmpValue (Jvm.FP.dcmp a b) o = 0 := by
  have q : own_z a = own_z b := by
    refine Int.eq_of_mul_eq_mul_right (Int.ne_of_gt (own_p_pos k)) ?_
    have := ha.2.1; have := ha.2.2; have := hb.2.1; have := hb.2.2
    omega
  rw [own_cmp ha.1 hb.1, q, compare_self_int]; rfl
theorem own_In.le {k : Nat} {l1 h1 l2 h2 : Int} {a b : UInt64} (ha : own_In k l1 h1 a) (hb : own_In k l2 h2 b) (h : h1 ≤ l2) (o : ClassFile.CmpOp) : ¬ (0 : Int32) < Op.cmpValue (Jvm.FP.dcmp a b) o := by
  have q : own_z a ≤ own_z b := by
    refine Int.le_of_mul_le_mul_right ?_ (own_p_pos k)
    exact Int.le_trans ha.2.2 (Int.le_trans (Int.mul_le_mul_of_nonneg_right h (Int.le_of_lt own_u_pos)) hb.2.1)
  rw [own_cmp ha.1 hb.1]
  by_cases q1 : own_z a < own_z b
  · rw [show compare (own_z a) (own_z b) = .lt from by simp [compare, compareOfLessAndEq, q1]]; cases o <;> decide
  · have q2 : own_z a = own_z b := by omega
    rw [q2, compare_self_int]; cases o <;> decide
end OwnFloat
end Jvm.Pilot.@@N@@
namespace Jvm.Pilot.@@N@@
open Jvm Jvm.ClassFile Sem Op Lib Jvm.Free Jvm.Stand Jvm.LawKit Jvm.RoadKit Bundle Jvm.Pilot.@@N@@.Jvm.D

theorem d3_0 : decode jdk_30_method_1_code 0 = .ok (.aload_n 0, 1) := by decide +kernel
theorem d3_1 : decode jdk_30_method_1_code 1 = .ok (.invokespecial 1, 3) := by decide +kernel
theorem d3_4 : decode jdk_30_method_1_code 4 = .ok (.return_, 1) := by decide +kernel
theorem pn_3 : plainName "java/lang/Record" = true := by first | (simp [plainName, overriddenIn]; done) | decide +kernel
def QR (a1 : Addr) (h0 : Heap) (n0 : Nat) (v : Option Value) (h : Heap) (L : List Loc) : Prop := v = none ∧ Fr n0 L ∧ h = h0
set_option maxRecDepth 65536 in
set_option maxHeartbeats 40000000 in
theorem rmR (l : Launch) (Z : State) (a0 : Array Value) (hw : ∀ d ∈ tables_1, d.before a0 Z = true) (ws : List Jvm.Cond) (a1 : Addr) (h0 : Heap) (n0 : Nat) (Z0 : n0 ≤ h0.size)  :
    MetFree l (⟨"java/lang/Record", "<init>", "()V"⟩ : MethodName) (head1 (Jvm.Cond.code (⟨"java/lang/Record", "<init>", "()V"⟩ : MethodName) jdk_30_method_1_code 1 none :: ws) ({ frames := 1, cells := 0, slots := 0, locals := 12 } : Room)) (fun a U => a = #[(.ref a1)] ∧ Z.Warmed39 U.vm ∧ U.heap = h0) (fun _ _ _ _ _ => True) (fun _ U o U' => ∃ v L, o = .returned v ∧ QR a1 h0 n0 v U'.heap L ∧ FrameEnd U o U' L ({ frames := 1, cells := 0, slots := 0, locals := 12 } : Room).cells ({ frames := 1, cells := 0, slots := 0, locals := 12 } : Room).slots) := by
  refine MetFree.of_bodySF (plainFor_of_name pn_3) hisR ?_
  intro p e s m args below meth c s₁ Bd hml0 hP hK
  obtain ⟨rfl, hZ, hh⟩ := hP
  have hx := Bd.exec
  have hby := Bd.bytes
  have hml : c.maxLocals = 1 := hml0
  have hown : s.vm.findClass "java/lang/Record" = some m.cls := findClass_of_methodNamed Bd.named
  have hnm := (name_of_methodNamed Bd.named Bd.method).1
  have X0 : Stand p l e ({ frames := 1, cells := 0, slots := 0, locals := 12 } : Room) s m #[(.ref a1)] below meth c s₁ [] 0 0 := Stand.of_body Bd
  have e0 : s₁.heap = h0 := by rw [← hh, Bd.state]; rfl
  have N0 := Fr.nil n0
  have c0 : Steps p.tables e below (s₁.setTop (entryFrame m #[(.ref a1)] 1)) (s₁.setTop (mkF m 0 #[.val (.ref a1)] [])) := XT.entry rfl
  obtain ⟨T1, X1, e1, st1⟩ := initO X0 hx hZ hown (hw _ (List.mem_of_getElem? (i := 17) rfl)) (hw _ (List.mem_of_getElem? (i := 18) rfl)) (hw _ (List.mem_of_getElem? (i := 19) rfl)) e0 (g := (mkF m 1 #[.val (.ref a1)] [(.ref a1)])) rfl (by rw [hml]; rfl) rfl (hb hby d3_1) (by decide) (W := 0) (by show 2 * 0 + _ ≤ _; exact Nat.le_of_eq rfl) (by decide)
  have cc1 : Steps p.tables e below (s₁.setTop (entryFrame m #[(.ref a1)] 1)) (T1.setTop (mkF m 4 #[.val (.ref a1)] [])) := c0.trans (by
    refine XS.aloadN X0.here hx rfl (hb hby d3_0) rfl rfl ?_
    refine st1 _ ?_
    exact Steps.refl _)
  obtain ⟨fs, hr, hrun, hended, hW, hsame⟩ := X1.leave (v := none) (fun _ => rfl)
  refine ⟨_, _, cc1.trans ?_, hrun, hended, _, _, rfl, ?_, ⟨_, rfl⟩, hW, hsame.mono (by decide) (by decide)⟩
  · exact X1.returnOut hx Bd.returns (hb hby d3_4) hr
  · show QR a1 h0 n0 _ T1.heap _
    rw [e1]
    exact ⟨rfl, N0, rfl⟩
theorem d5_0 : decode jdk_117_method_8_code 0 = .ok (.dload_n 0, 1) := by decide +kernel
theorem d5_1 : decode jdk_117_method_8_code 1 = .ok (.invokestatic 38, 3) := by decide +kernel
theorem d5_4 : decode jdk_117_method_8_code 4 = .ok (.ldc2_w 111, 3) := by decide +kernel
theorem d5_7 : decode jdk_117_method_8_code 7 = .ok (.dcmp .g, 1) := by decide +kernel
theorem d5_8 : decode jdk_117_method_8_code 8 = .ok (.ifCond .gt 7, 3) := by decide +kernel
theorem d5_11 : decode jdk_117_method_8_code 11 = .ok (.iconst 1, 1) := by decide +kernel
theorem d5_12 : decode jdk_117_method_8_code 12 = .ok (.goto 4, 3) := by decide +kernel
theorem d5_15 : decode jdk_117_method_8_code 15 = .ok (.iconst 0, 1) := by decide +kernel
theorem d5_16 : decode jdk_117_method_8_code 16 = .ok (.ireturn, 1) := by decide +kernel
theorem pn_5 : plainName "java/lang/Double" = true := by first | (simp [plainName, overriddenIn]; done) | decide +kernel
theorem pd__D_D : parseMethodDescriptor "(D)D" = some ⟨[.double], some .double⟩ := by decide +kernel
theorem pd__D_Z : parseMethodDescriptor "(D)Z" = some ⟨[.double], some .boolean⟩ := by decide +kernel
theorem pd___V : parseMethodDescriptor "()V" = some ⟨[], none⟩ := by decide +kernel
theorem pd__IDD_V : parseMethodDescriptor "(IDD)V" = some ⟨[.int, .double, .double], none⟩ := by decide +kernel
def QF (h0 : Heap) (n0 : Nat) (v : Option Value) (h : Heap) (L : List Loc) : Prop := v = some (.int 1) ∧ Fr n0 L ∧ h = h0
set_option maxRecDepth 65536 in
set_option maxHeartbeats 40000000 in
theorem rmF (l : Launch) (Z : State) (a0 : Array Value) (hw : ∀ d ∈ tables_1, d.before a0 Z = true) (ws : List Jvm.Cond) (y : UInt64) (h0 : Heap) (n0 : Nat) (Z0 : n0 ≤ h0.size) (hf : Fl.Fin64 y) :
    MetFree l (⟨"java/lang/Double", "isFinite", "(D)Z"⟩ : MethodName) (head1 (Jvm.Cond.code (⟨"java/lang/Double", "isFinite", "(D)Z"⟩ : MethodName) jdk_117_method_8_code 2 (some .boolean) :: ws) ({ frames := 1, cells := 0, slots := 0, locals := 13 } : Room)) (fun a U => a = #[(.double y)] ∧ Z.Warmed39 U.vm ∧ U.heap = h0) (fun _ _ _ _ _ => True) (fun _ U o U' => ∃ v L, o = .returned v ∧ QF h0 n0 v U'.heap L ∧ FrameEnd U o U' L ({ frames := 1, cells := 0, slots := 0, locals := 13 } : Room).cells ({ frames := 1, cells := 0, slots := 0, locals := 13 } : Room).slots) := by
  refine MetFree.of_bodySF (plainFor_of_name pn_5) hisR ?_
  intro p e s m args below meth c s₁ Bd hml0 hP hK
  obtain ⟨rfl, hZ, hh⟩ := hP
  have hx := Bd.exec
  have hby := Bd.bytes
  have hml : c.maxLocals = 2 := hml0
  have hown : s.vm.findClass "java/lang/Double" = some m.cls := findClass_of_methodNamed Bd.named
  have hnm := (name_of_methodNamed Bd.named Bd.method).1
  have X0 : Stand p l e ({ frames := 1, cells := 0, slots := 0, locals := 13 } : Room) s m #[(.double y)] below meth c s₁ [] 0 0 := Stand.of_body Bd
  have e0 : s₁.heap = h0 := by rw [← hh, Bd.state]; rfl
  have N0 := Fr.nil n0
  have c0 : Steps p.tables e below (s₁.setTop (entryFrame m #[(.double y)] 2)) (s₁.setTop (mkF m 0 #[.val (.double y), .second] [])) := XT.entry rfl
  obtain ⟨T2, X2, e2, st2⟩ := natS X0 hx hZ hown (hw _ (List.mem_of_getElem? (i := 24) rfl)) (hw _ (List.mem_of_getElem? (i := 25) rfl)) (hw _ (List.mem_of_getElem? (i := 3) rfl)) (y := Fl.Abs.absDN) (by0 := Fl.Abs.absDCode) (ml := 2) (rt := some .double) (hw _ (List.mem_of_getElem? (i := 26) rfl)) (by decide) e0 (W := 0) (F := fun a' => a' = #[.double y] ∧ Fl.NoNaN64 y) (fun hc => Fl.Abs.absD_pays y hc (by decide) (by decide)) (g := (mkF m 1 #[.val (.double y), .second] [(.double y)])) rfl (by rw [hml]; rfl) (argsL := [(.double y)]) (rest := []) (lenOf pd__D_D rfl) rfl (by show 2 * 0 + _ ≤ _; exact Nat.le_of_eq rfl) (hb hby d5_1) (by decide) (by decide) ⟨rfl, hf.noNaN⟩ rfl
  have cc1 : Steps p.tables e below (s₁.setTop (entryFrame m #[(.double y)] 2)) (T2.setTop (mkF m 16 #[.val (.double y), .second] [(.int (1 : Int32))])) := c0.trans (by
    refine XS.dloadN X0.here hx rfl (hb hby d5_0) rfl ?_
    refine st2 _ ?_
    refine Stand.ldc2DoubleC X2 hx hown (b := (9218868437227405311 : UInt64)) (mvT hZ (hw _ (List.mem_of_getElem? (i := 27) rfl))) (g := (mkF m 4 #[.val (.double y), .second] [(.double (y &&& 0x7fffffffffffffff))])) rfl (hb hby d5_4) _ ?_
    refine XS.dcmpS X2.here hx rfl (hb hby d5_7) rfl rfl ?_
    refine XS.ifNo X2.here hx rfl (hb hby d5_8) rfl (XT.i0_gt_f (own_absle hf _)) ?_
    refine XT.iconstV X2.here hx rfl ((1 : Int32)) (hb hby d5_11) (by decide) ?_
    refine XS.goto X2.here hx rfl (pc0 := 12) (pc' := 16) rfl (hb hby d5_12) (by decide) (by decide) ?_
    exact Steps.refl _)
  obtain ⟨fs, hr, hrun, hended, hW, hsame⟩ := X2.leave (v := some (.int (1 : Int32))) (fun h => by rw [Bd.returns] at h; cases h)
  refine ⟨_, _, cc1.trans ?_, hrun, hended, _, _, rfl, ?_, ⟨_, rfl⟩, hW, hsame.mono (by decide) (by decide)⟩
  · exact retN X2 hx (t := .boolean) Bd.returns (by simp) (hb hby d5_16) hr
  · show QF h0 n0 _ T2.heap _
    rw [e2]
    exact ⟨rfl, N0, rfl⟩
theorem d2_0 : decode prog_12_method_1_code 0 = .ok (.aload_n 0, 1) := by decide +kernel
theorem d2_1 : decode prog_12_method_1_code 1 = .ok (.invokespecial 1, 3) := by decide +kernel
theorem d2_4 : decode prog_12_method_1_code 4 = .ok (.iload_n 1, 1) := by decide +kernel
theorem d2_5 : decode prog_12_method_1_code 5 = .ok (.iconst 1, 1) := by decide +kernel
theorem d2_6 : decode prog_12_method_1_code 6 = .ok (.if_icmp .ge 17, 3) := by decide +kernel
theorem d2_23 : decode prog_12_method_1_code 23 = .ok (.dload 4, 2) := by decide +kernel
theorem d2_25 : decode prog_12_method_1_code 25 = .ok (.dconst 0, 1) := by decide +kernel
theorem d2_26 : decode prog_12_method_1_code 26 = .ok (.dcmp .l, 1) := by decide +kernel
theorem d2_27 : decode prog_12_method_1_code 27 = .ok (.ifCond .le 10, 3) := by decide +kernel
theorem d2_30 : decode prog_12_method_1_code 30 = .ok (.dload 4, 2) := by decide +kernel
theorem d2_32 : decode prog_12_method_1_code 32 = .ok (.dload_n 2, 1) := by decide +kernel
theorem d2_33 : decode prog_12_method_1_code 33 = .ok (.dcmp .l, 1) := by decide +kernel
theorem d2_34 : decode prog_12_method_1_code 34 = .ok (.ifCond .le 19, 3) := by decide +kernel
theorem d2_53 : decode prog_12_method_1_code 53 = .ok (.dload_n 2, 1) := by decide +kernel
theorem d2_54 : decode prog_12_method_1_code 54 = .ok (.dload 4, 2) := by decide +kernel
theorem d2_56 : decode prog_12_method_1_code 56 = .ok (.dadd, 1) := by decide +kernel
theorem d2_57 : decode prog_12_method_1_code 57 = .ok (.invokestatic 19, 3) := by decide +kernel
theorem d2_60 : decode prog_12_method_1_code 60 = .ok (.ifCond .ne 19, 3) := by decide +kernel
theorem d2_79 : decode prog_12_method_1_code 79 = .ok (.aload_n 0, 1) := by decide +kernel
theorem d2_80 : decode prog_12_method_1_code 80 = .ok (.iload_n 1, 1) := by decide +kernel
theorem d2_81 : decode prog_12_method_1_code 81 = .ok (.putfield 26, 3) := by decide +kernel
theorem d2_84 : decode prog_12_method_1_code 84 = .ok (.aload_n 0, 1) := by decide +kernel
theorem d2_85 : decode prog_12_method_1_code 85 = .ok (.dload_n 2, 1) := by decide +kernel
theorem d2_86 : decode prog_12_method_1_code 86 = .ok (.putfield 32, 3) := by decide +kernel
theorem d2_89 : decode prog_12_method_1_code 89 = .ok (.aload_n 0, 1) := by decide +kernel
theorem d2_90 : decode prog_12_method_1_code 90 = .ok (.dload 4, 2) := by decide +kernel
theorem d2_92 : decode prog_12_method_1_code 92 = .ok (.putfield 36, 3) := by decide +kernel
theorem d2_95 : decode prog_12_method_1_code 95 = .ok (.return_, 1) := by decide +kernel
theorem pn_2 : plainName "com/example/lotwise/lotwise/model/LotMarket" = true := by first | (simp [plainName, overriddenIn]; done) | decide +kernel
def QI (Z : State) (a1 : Addr) (b : Int32) (u v1 : UInt64) (h0 : Heap) (n0 : Nat) (v : Option Value) (h : Heap) (L : List Loc) : Prop := v = none ∧ Fr n0 L ∧ Keep h0 h [a1] ∧ Fld Z h a1 "com/example/lotwise/lotwise/model/LotMarket" "bidders" "I" (.int b) ∧ Fld Z h a1 "com/example/lotwise/lotwise/model/LotMarket" "mean" "D" (.double u) ∧ Fld Z h a1 "com/example/lotwise/lotwise/model/LotMarket" "spread" "D" (.double v1)
set_option maxRecDepth 65536 in
set_option maxHeartbeats 40000000 in
theorem rmI (l : Launch) (Z : State) (a0 : Array Value) (hw : ∀ d ∈ tables_1, d.before a0 Z = true) (ws : List Jvm.Cond) (a1 : Addr) (b : Int32) (u : UInt64) (v1 : UInt64) (h0 : Heap) (n0 : Nat) (Z0 : n0 ≤ h0.size) (Ea : Exa Z h0 a1 "com/example/lotwise/lotwise/model/LotMarket") (F1 : Fld Z h0 a1 "com/example/lotwise/lotwise/model/LotMarket" "bidders" "I" (.int (0 : Int32))) (F2 : Fld Z h0 a1 "com/example/lotwise/lotwise/model/LotMarket" "mean" "D" (.double 0)) (F3 : Fld Z h0 a1 "com/example/lotwise/lotwise/model/LotMarket" "spread" "D" (.double 0)) (ge : n0 ≤ a1) (b1 : ¬ b < (1 : Int32)) (k1 : cmpValue (FP.dcmp v1 0) .l = 1) (k2 : ¬ (0 : Int32) < cmpValue (FP.dcmp v1 u) .l) (hf : Fl.Fin64 (FP.dadd u v1)) :
    MetFree l (⟨"com/example/lotwise/lotwise/model/LotMarket", "<init>", "(IDD)V"⟩ : MethodName) (head1 (Jvm.Cond.code (⟨"com/example/lotwise/lotwise/model/LotMarket", "<init>", "(IDD)V"⟩ : MethodName) prog_12_method_1_code 6 none :: ws) ({ frames := 2, cells := 0, slots := 0, locals := 26 } : Room)) (fun a U => a = #[(.ref a1), (.int b), (.double u), (.double v1)] ∧ Z.Warmed39 U.vm ∧ U.heap = h0) (fun _ _ _ _ _ => True) (fun _ U o U' => ∃ v L, o = .returned v ∧ QI Z a1 b u v1 h0 n0 v U'.heap L ∧ FrameEnd U o U' L ({ frames := 2, cells := 0, slots := 0, locals := 26 } : Room).cells ({ frames := 2, cells := 0, slots := 0, locals := 26 } : Room).slots) := by
  refine MetFree.of_bodySF (plainFor_of_name pn_2) hisR ?_
  intro p e s m args below meth c s₁ Bd hml0 hP hK
  obtain ⟨rfl, hZ, hh⟩ := hP
  have hx := Bd.exec
  have hby := Bd.bytes
  have hml : c.maxLocals = 6 := hml0
  have hown : s.vm.findClass "com/example/lotwise/lotwise/model/LotMarket" = some m.cls := findClass_of_methodNamed Bd.named
  have hnm := (name_of_methodNamed Bd.named Bd.method).1
  have X0 : Stand p l e ({ frames := 2, cells := 0, slots := 0, locals := 26 } : Room) s m #[(.ref a1), (.int b), (.double u), (.double v1)] below meth c s₁ [] 0 0 := Stand.of_body Bd
  have e0 : s₁.heap = h0 := by rw [← hh, Bd.state]; rfl
  have N0 := Fr.nil n0
  have c0 : Steps p.tables e below (s₁.setTop (entryFrame m #[(.ref a1), (.int b), (.double u), (.double v1)] 6)) (s₁.setTop (mkF m 0 #[.val (.ref a1), .val (.int b), .val (.double u), .second, .val (.double v1), .second] [])) := XT.entry rfl
  obtain ⟨_, _, ⟨T3, L3, k3, n3⟩, -, X3, ⟨Lc3, hQ3, l3, y3, z3⟩, st3⟩ := X0.specialBack hx (y := (⟨"java/lang/Record", "<init>", "()V"⟩ : MethodName)) rfl hown (mvT hZ (hw _ (List.mem_of_getElem? (i := 12) rfl))) (mvT hZ (hw _ (List.mem_of_getElem? (i := 13) rfl))) (mvT hZ (hw _ (List.mem_of_getElem? (i := 16) rfl))) (by decide) (backOf (W := 0) (rmR l Z a0 hw [] a1 h0 n0 Z0) hZ (hw _ (List.mem_of_getElem? (i := 16) rfl)) (hw _ (List.mem_of_getElem? (i := 15) rfl)) (by decide) (by decide)) (g := (mkF m 1 #[.val (.ref a1), .val (.int b), .val (.double u), .second, .val (.double v1), .second] [(.ref a1)])) rfl (by rw [hml]; rfl) (Steps.refl _) (a := a1) (argsL := []) (rest := []) (lenOf pd___V rfl) rfl (by show 2 * 0 + _ ≤ _; exact Nat.le_of_eq rfl) (hb hby d2_1) (fun _ _ => ⟨rfl, e0, (by decide : 0 + 0 ≤ _), (by decide : 0 + 0 ≤ _)⟩)
  dsimp only [Pt.U, Pt.locs, Pt.cells, Pt.slots] at X3 l3 y3 z3 st3 hQ3
  subst l3 y3 z3
  obtain ⟨rfl, N3, e3⟩ := hQ3
  have NN3 := Fr.app N0 N3
  obtain ⟨_, _, ⟨T4, L4, k4, n4⟩, -, X4, ⟨Lc4, hQ4, l4, y4, z4⟩, st4⟩ := Jvm.LawKit.callS X3 hx (y := (⟨"java/lang/Double", "isFinite", "(D)Z"⟩ : MethodName)) hown (mvT hZ (hw _ (List.mem_of_getElem? (i := 20) rfl))) (mvT hZ (hw _ (List.mem_of_getElem? (i := 21) rfl))) (mvT hZ (hw _ (List.mem_of_getElem? (i := 22) rfl))) (mvT hZ (hw _ (List.mem_of_getElem? (i := 23) rfl))) (by decide) (backOf (W := 0) (rmF l Z a0 hw [] (FP.dadd u v1) h0 n0 Z0 hf) hZ (hw _ (List.mem_of_getElem? (i := 23) rfl)) (hw _ (List.mem_of_getElem? (i := 22) rfl)) (by decide) (by decide)) (g := (mkF m 57 #[.val (.ref a1), .val (.int b), .val (.double u), .second, .val (.double v1), .second] [(.double (FP.dadd u v1))])) rfl (by rw [hml]; rfl) (argsL := [(.double (FP.dadd u v1))]) (rest := []) (lenOf pd__D_Z rfl) rfl (by show 2 * 0 + _ ≤ _; exact Nat.le_of_eq rfl) (hb hby d2_57) (fun _ _ => ⟨rfl, e3, (by decide : 0 + 0 ≤ _), (by decide : 0 + 0 ≤ _)⟩)
  dsimp only [Pt.U, Pt.locs, Pt.cells, Pt.slots] at X4 l4 y4 z4 st4 hQ4
  subst l4 y4 z4
  obtain ⟨rfl, N4, e4⟩ := hQ4
  have NN4 := Fr.app NN3 N4
  obtain ⟨T5, h5, X5, e5, W5, st5⟩ := putF X4 hx hZ hown (host := "") (Or.inl (hw _ (List.mem_of_getElem? (i := 28) rfl))) Via.refl e4 F1 Ea (Or.inr ⟨(hw _ (List.mem_of_getElem? (i := 29) rfl)), rfl, hnm⟩) (hw _ (List.mem_of_getElem? (i := 7) rfl)) (ty := .int) (by decide) rfl rfl (g := (mkF m 81 #[.val (.ref a1), .val (.int b), .val (.double u), .second, .val (.double v1), .second] [(.int b), (.ref a1)])) rfl rfl (hb hby d2_81)
  have N5 := Fr.snoc X5 NN4 ge
  have Zs5 : n0 ≤ h5.size := Nat.le_trans Z0 (Keep.of_wr W5).1
  have Ea1 : Exa Z h5 a1 "com/example/lotwise/lotwise/model/LotMarket" := Ea.wr W5
  have B1 := F1.same W5
  have M1 := F2.other W5 (Or.inr (slot_ne (Or.inr (hw _ (List.mem_of_getElem? (i := 31) rfl))) (Or.inr (hw _ (List.mem_of_getElem? (i := 29) rfl))) (by decide) (t := .double) (t' := .int) (by decide) (by decide)))
  have S1 := F3.other W5 (Or.inr (slot_ne (Or.inr (hw _ (List.mem_of_getElem? (i := 33) rfl))) (Or.inr (hw _ (List.mem_of_getElem? (i := 29) rfl))) (by decide) (t := .double) (t' := .int) (by decide) (by decide)))
  obtain ⟨T6, h6, X6, e6, W6, st6⟩ := putF X5 hx hZ hown (host := "") (Or.inl (hw _ (List.mem_of_getElem? (i := 30) rfl))) Via.refl e5 M1 Ea1 (Or.inr ⟨(hw _ (List.mem_of_getElem? (i := 31) rfl)), rfl, hnm⟩) (hw _ (List.mem_of_getElem? (i := 7) rfl)) (ty := .double) (by decide) rfl rfl (g := (mkF m 86 #[.val (.ref a1), .val (.int b), .val (.double u), .second, .val (.double v1), .second] [(.double u), (.ref a1)])) rfl rfl (hb hby d2_86)
  have N6 := Fr.snoc X6 N5 ge
  have Zs6 : n0 ≤ h6.size := Nat.le_trans Zs5 (Keep.of_wr W6).1
  have Ea2 : Exa Z h6 a1 "com/example/lotwise/lotwise/model/LotMarket" := Ea1.wr W6
  have B2 := B1.other W6 (Or.inr (slot_ne (Or.inr (hw _ (List.mem_of_getElem? (i := 29) rfl))) (Or.inr (hw _ (List.mem_of_getElem? (i := 31) rfl))) (by decide) (t := .int) (t' := .double) (by decide) (by decide)))
  have M2 := M1.same W6
  have S2 := S1.other W6 (Or.inr (slot_ne (Or.inr (hw _ (List.mem_of_getElem? (i := 33) rfl))) (Or.inr (hw _ (List.mem_of_getElem? (i := 31) rfl))) (by decide) (t := .double) (t' := .double) (by decide) (by decide)))
  obtain ⟨T7, h7, X7, e7, W7, st7⟩ := putF X6 hx hZ hown (host := "") (Or.inl (hw _ (List.mem_of_getElem? (i := 32) rfl))) Via.refl e6 S2 Ea2 (Or.inr ⟨(hw _ (List.mem_of_getElem? (i := 33) rfl)), rfl, hnm⟩) (hw _ (List.mem_of_getElem? (i := 7) rfl)) (ty := .double) (by decide) rfl rfl (g := (mkF m 92 #[.val (.ref a1), .val (.int b), .val (.double u), .second, .val (.double v1), .second] [(.double v1), (.ref a1)])) rfl rfl (hb hby d2_92)
  have N7 := Fr.snoc X7 N6 ge
  have Zs7 : n0 ≤ h7.size := Nat.le_trans Zs6 (Keep.of_wr W7).1
  have B3 := B2.other W7 (Or.inr (slot_ne (Or.inr (hw _ (List.mem_of_getElem? (i := 29) rfl))) (Or.inr (hw _ (List.mem_of_getElem? (i := 33) rfl))) (by decide) (t := .int) (t' := .double) (by decide) (by decide)))
  have M3 := M2.other W7 (Or.inr (slot_ne (Or.inr (hw _ (List.mem_of_getElem? (i := 31) rfl))) (Or.inr (hw _ (List.mem_of_getElem? (i := 33) rfl))) (by decide) (t := .double) (t' := .double) (by decide) (by decide)))
  have S3 := S2.same W7
  have K3 : Keep h0 h7 [a1] := ((((Keep.refl _ _).wr W5 (Or.inl (List.mem_of_getElem? (i := 0) rfl))).wr W6 (Or.inl (List.mem_of_getElem? (i := 0) rfl))).wr W7 (Or.inl (List.mem_of_getElem? (i := 0) rfl)))
  have cc1 : Steps p.tables e below (s₁.setTop (entryFrame m #[(.ref a1), (.int b), (.double u), (.double v1)] 6)) (T7.setTop (mkF m 95 #[.val (.ref a1), .val (.int b), .val (.double u), .second, .val (.double v1), .second] [])) := c0.trans (by
    refine XS.aloadN X0.here hx rfl (hb hby d2_0) rfl rfl ?_
    refine st3.trans ?_
    show Steps p.tables e below (T3.setTop (mkF m 4 #[.val (.ref a1), .val (.int b), .val (.double u), .second, .val (.double v1), .second] [])) _
    refine XS.iloadN X3.here hx rfl (hb hby d2_4) rfl ?_
    refine XT.iconstV X3.here hx rfl ((1 : Int32)) (hb hby d2_5) (by decide) ?_
    refine XS.icmpYes X3.here hx rfl (pc0 := 6) (pc' := 23) rfl (hb hby d2_6) rfl (XT.ii_ge_t b1) (by decide) (by decide) ?_
    refine XS.dload X3.here hx rfl (hb hby d2_23) rfl ?_
    refine XS.dconst0 X3.here hx rfl (v := (0 : UInt64)) (hb hby d2_25) rfl ?_
    refine XS.dcmpS X3.here hx rfl (hb hby d2_26) rfl k1 ?_
    refine XS.ifNo X3.here hx rfl (hb hby d2_27) rfl (XT.i0_le_f (by decide)) ?_
    refine XS.dload X3.here hx rfl (hb hby d2_30) rfl ?_
    refine XS.dloadN X3.here hx rfl (hb hby d2_32) rfl ?_
    refine XS.dcmpS X3.here hx rfl (hb hby d2_33) rfl rfl ?_
    refine XS.ifYes X3.here hx rfl (pc0 := 34) (pc' := 53) rfl (hb hby d2_34) rfl (XT.i0_le_t k2) (by decide) (by decide) ?_
    refine XS.dloadN X3.here hx rfl (hb hby d2_53) rfl ?_
    refine XS.dload X3.here hx rfl (hb hby d2_54) rfl ?_
    refine XS.daddS X3.here hx rfl (hb hby d2_56) rfl hf.noNaN rfl ?_
    refine st4 _ ?_
    show Steps p.tables e below (T4.setTop (mkF m 60 #[.val (.ref a1), .val (.int b), .val (.double u), .second, .val (.double v1), .second] [(.int (1 : Int32))])) _
    refine XS.ifYes X4.here hx rfl (pc0 := 60) (pc' := 79) rfl (hb hby d2_60) rfl (XT.i0_ne_t (by decide)) (by decide) (by decide) ?_
    refine XS.aloadN X4.here hx rfl (hb hby d2_79) rfl rfl ?_
    refine XS.iloadN X4.here hx rfl (hb hby d2_80) rfl ?_
    refine st5 _ ?_
    refine XS.aloadN X5.here hx rfl (hb hby d2_84) rfl rfl ?_
    refine XS.dloadN X5.here hx rfl (hb hby d2_85) rfl ?_
    refine st6 _ ?_
    refine XS.aloadN X6.here hx rfl (hb hby d2_89) rfl rfl ?_
    refine XS.dload X6.here hx rfl (hb hby d2_90) rfl ?_
    refine st7 _ ?_
    exact Steps.refl _)
  obtain ⟨fs, hr, hrun, hended, hW, hsame⟩ := X7.leave (v := none) (fun _ => rfl)
  refine ⟨_, _, cc1.trans ?_, hrun, hended, _, _, rfl, ?_, ⟨_, rfl⟩, hW, hsame.mono (by decide) (by decide)⟩
  · exact X7.returnOut hx Bd.returns (hb hby d2_95) hr
  · show QI Z a1 b u v1 h0 n0 _ T7.heap _
    rw [e7]
    exact ⟨rfl, N7, K3, B3, M3, S3⟩
theorem pd__II_I : parseMethodDescriptor "(II)I" = some ⟨[.int, .int], some .int⟩ := by decide +kernel
theorem d1_0 : decode jdk_29_method_65_code 0 = .ok (.iload_n 0, 1) := by decide +kernel
theorem d1_1 : decode jdk_29_method_65_code 1 = .ok (.iload_n 1, 1) := by decide +kernel
theorem d1_2 : decode jdk_29_method_65_code 2 = .ok (.if_icmp .lt 7, 3) := by decide +kernel
theorem d1_5 : decode jdk_29_method_65_code 5 = .ok (.iload_n 0, 1) := by decide +kernel
theorem d1_6 : decode jdk_29_method_65_code 6 = .ok (.goto 4, 3) := by decide +kernel
theorem d1_9 : decode jdk_29_method_65_code 9 = .ok (.iload_n 1, 1) := by decide +kernel
theorem d1_10 : decode jdk_29_method_65_code 10 = .ok (.ireturn, 1) := by decide +kernel
def QMmax (r : Int32) (h0 : Heap) (n0 : Nat) (v : Option Value) (h : Heap) (L : List Loc) : Prop := v = some (.int r) ∧ Fr n0 L ∧ h = h0
set_option maxRecDepth 65536 in
set_option maxHeartbeats 40000000 in
theorem rm_max (l : Launch) (Z : State) (a0 : Array Value) (hw : ∀ d ∈ tables_1, d.before a0 Z = true) (ws : List Jvm.Cond) (x1 : Int32) (x2 : Int32) (r : Int32) (h0 : Heap) (n0 : Nat) (Z0 : n0 ≤ h0.size) (hr : (x1 < x2 ∧ r = x2) ∨ (¬ x1 < x2 ∧ r = x1)) :
    MetFree l (⟨"java/lang/Math", "max", "(II)I"⟩ : MethodName) (head1 (Jvm.Cond.code (⟨"java/lang/Math", "max", "(II)I"⟩ : MethodName) jdk_29_method_65_code 2 (some .int) :: ws) ({ frames := 0, cells := 0, slots := 0, locals := 0 } : Room)) (fun a U => a = #[(.int x1), (.int x2)] ∧ Z.Warmed39 U.vm ∧ U.heap = h0) (fun _ _ _ _ _ => True) (fun _ U o U' => ∃ v L, o = .returned v ∧ QMmax r h0 n0 v U'.heap L ∧ FrameEnd U o U' L ({ frames := 0, cells := 0, slots := 0, locals := 0 } : Room).cells ({ frames := 0, cells := 0, slots := 0, locals := 0 } : Room).slots) := by
  refine MetFree.of_bodySF (JP.mathPlain rfl (by decide +kernel)) hisR ?_
  intro p e s m args below meth c s₁ Bd hml0 hP hK
  obtain ⟨rfl, hZ, hh⟩ := hP
  have hx := Bd.exec
  have hby := Bd.bytes
  have hml : c.maxLocals = 2 := hml0
  have hown : s.vm.findClass "java/lang/Math" = some m.cls := findClass_of_methodNamed Bd.named
  have hnm := (name_of_methodNamed Bd.named Bd.method).1
  have X0 : Stand p l e ({ frames := 0, cells := 0, slots := 0, locals := 0 } : Room) s m #[(.int x1), (.int x2)] below meth c s₁ [] 0 0 := Stand.of_body Bd
  have e0 : s₁.heap = h0 := by rw [← hh, Bd.state]; rfl
  have N0 := Fr.nil n0
  have c0 : Steps p.tables e below (s₁.setTop (entryFrame m #[(.int x1), (.int x2)] 2)) (s₁.setTop (mkF m 0 #[.val (.int x1), .val (.int x2)] [])) := XT.entry rfl
  have cc1 : Steps p.tables e below (s₁.setTop (entryFrame m #[(.int x1), (.int x2)] 2)) (s₁.setTop (mkF m 2 #[.val (.int x1), .val (.int x2)] [(.int x2), (.int x1)])) := c0.trans (by
    refine XS.iloadN X0.here hx rfl (hb hby d1_0) rfl ?_
    refine XS.iloadN X0.here hx rfl (hb hby d1_1) rfl ?_
    exact Steps.refl _)
  rcases hr with ⟨h1, h2⟩ | ⟨h1, h2⟩
  ·
    have cc2 : Steps p.tables e below (s₁.setTop (entryFrame m #[(.int x1), (.int x2)] 2)) (s₁.setTop (mkF m 10 #[.val (.int x1), .val (.int x2)] [(.int x2)])) := cc1.trans (by
      refine XS.icmpYes X0.here hx rfl (pc0 := 2) (pc' := 9) rfl (hb hby d1_2) rfl (XT.ii_lt_t h1) (by decide) (by decide) ?_
      refine XS.iloadN X0.here hx rfl (hb hby d1_9) rfl ?_
      exact Steps.refl _)
    obtain ⟨fs, hr, hrun, hended, hW, hsame⟩ := X0.leave (v := some (.int x2)) (fun h => by rw [Bd.returns] at h; cases h)
    refine ⟨_, _, cc2.trans ?_, hrun, hended, _, _, rfl, ?_, ⟨_, rfl⟩, hW, hsame.mono (by decide) (by decide)⟩
    · exact retI X0 hx Bd.returns (hb hby d1_10) hr
    · show QMmax r h0 n0 _ s₁.heap _
      rw [e0]
      exact ⟨by rw [h2], N0, rfl⟩
  ·
    have cc2 : Steps p.tables e below (s₁.setTop (entryFrame m #[(.int x1), (.int x2)] 2)) (s₁.setTop (mkF m 10 #[.val (.int x1), .val (.int x2)] [(.int x1)])) := cc1.trans (by
      refine XS.icmpNo X0.here hx rfl (hb hby d1_2) rfl (XT.ii_lt_f h1) ?_
      refine XS.iloadN X0.here hx rfl (hb hby d1_5) rfl ?_
      refine XS.goto X0.here hx rfl (pc0 := 6) (pc' := 10) rfl (hb hby d1_6) (by decide) (by decide) ?_
      exact Steps.refl _)
    obtain ⟨fs, hr, hrun, hended, hW, hsame⟩ := X0.leave (v := some (.int x1)) (fun h => by rw [Bd.returns] at h; cases h)
    refine ⟨_, _, cc2.trans ?_, hrun, hended, _, _, rfl, ?_, ⟨_, rfl⟩, hW, hsame.mono (by decide) (by decide)⟩
    · exact retI X0 hx Bd.returns (hb hby d1_10) hr
    · show QMmax r h0 n0 _ s₁.heap _
      rw [e0]
      exact ⟨by rw [h2], N0, rfl⟩
theorem d7_0 : decode prog_12_method_2_code 0 = .ok (.dload_n 1, 1) := by decide +kernel
theorem d7_1 : decode prog_12_method_2_code 1 = .ok (.dconst 1, 1) := by decide +kernel
theorem d7_2 : decode prog_12_method_2_code 2 = .ok (.dcmp .l, 1) := by decide +kernel
theorem d7_3 : decode prog_12_method_2_code 3 = .ok (.ifCond .lt 17, 3) := by decide +kernel
theorem d7_6 : decode prog_12_method_2_code 6 = .ok (.dload_n 1, 1) := by decide +kernel
theorem d7_7 : decode prog_12_method_2_code 7 = .ok (.aload_n 0, 1) := by decide +kernel
theorem d7_8 : decode prog_12_method_2_code 8 = .ok (.getfield 26, 3) := by decide +kernel
theorem d7_11 : decode prog_12_method_2_code 11 = .ok (.i2d, 1) := by decide +kernel
theorem d7_12 : decode prog_12_method_2_code 12 = .ok (.dcmp .g, 1) := by decide +kernel
theorem d7_13 : decode prog_12_method_2_code 13 = .ok (.ifCond .gt 7, 3) := by decide +kernel
theorem d7_16 : decode prog_12_method_2_code 16 = .ok (.iconst 1, 1) := by decide +kernel
theorem d7_17 : decode prog_12_method_2_code 17 = .ok (.goto 4, 3) := by decide +kernel
theorem d7_20 : decode prog_12_method_2_code 20 = .ok (.iconst 0, 1) := by decide +kernel
theorem d7_21 : decode prog_12_method_2_code 21 = .ok (.ireturn, 1) := by decide +kernel
theorem pn_7 : plainName "com/example/lotwise/lotwise/model/LotMarket" = true := by first | (simp [plainName, overriddenIn]; done) | decide +kernel
theorem pn_law : plainName "com/example/lotwise/lotwise/model/LotMarketSellsPinLaw" = true := by first | (simp [plainName, overriddenIn]; done) | decide +kernel
def own_sells (y : UInt64) (b r : Int32) : Prop := (cmpValue (FP.dcmp y 4607182418800017408) .l < 0 ∧ r = 0) ∨ (¬ cmpValue (FP.dcmp y 4607182418800017408) .l < 0 ∧ (0 : Int32) < cmpValue (FP.dcmp y (FP.i2d b)) .g ∧ r = 0) ∨ (¬ cmpValue (FP.dcmp y 4607182418800017408) .l < 0 ∧ ¬ (0 : Int32) < cmpValue (FP.dcmp y (FP.i2d b)) .g ∧ r = 1)
theorem own_In4 : own_In 0 4 4 (4616189618054758400 : UInt64) := own_lit (c := 4503599627370496) (q := -50) (by decide +kernel) (by decide)
theorem own_lot {q : Int64} (h : q.toInt.natAbs < 1099511627776) : own_In 2 q.toInt q.toInt (FP.ddiv (FP.l2d q) 4616189618054758400) :=
  own_In.div (own_In.l2d (a := q) (by omega)) own_In4 (by decide) (by decide) (by omega) (by omega) (by omega) (by omega)
theorem own_s1 {q : Int64} {b : Int32} (h : q.toInt.natAbs < 1099511627776) (h1 : q < 4) : own_sells (FP.ddiv (FP.l2d q) 4616189618054758400) b 0 := by
  rw [Int64.lt_iff_toInt_lt] at h1
  exact Or.inl ⟨by rw [(own_lot h).lt (own_In1.scale 2) (show q.toInt < 4 from h1)]; decide, rfl⟩
theorem own_ge1 {q : Int64} (h : q.toInt.natAbs < 1099511627776) (h1 : ¬ q < 4) : ¬ cmpValue (FP.dcmp (FP.ddiv (FP.l2d q) 4616189618054758400) 4607182418800017408) .l < 0 := by
  rw [Int64.lt_iff_toInt_lt] at h1
  have h1' : (4 : Int) ≤ q.toInt := by have e : (4 : Int64).toInt = 4 := rfl; omega
  exact own_geZ (own_lot h).1.ne_nan own_In1.1.ne_nan (by
    have a := (own_lot h).2.1
    have b := (own_In1.scale 2).2.2
    have c := Int.mul_le_mul_of_nonneg_right h1' (Int.le_of_lt own_u_pos)
    have b' : own_z 4607182418800017408 * 2 ^ 2 ≤ 4 * own_u := b
    omega) _
theorem own_s2 {q : Int64} {b : Int32} (h : q.toInt.natAbs < 1099511627776) (h1 : ¬ q < 4) (h2 : b.toInt * 4 < q.toInt) : own_sells (FP.ddiv (FP.l2d q) 4616189618054758400) b 0 :=
  Or.inr (Or.inl ⟨own_ge1 h h1, by rw [(own_lot h).gt ((own_In.i2d b).scale 2) (show b.toInt * 4 < q.toInt from h2)]; decide, rfl⟩)
theorem own_s3 {q : Int64} {b : Int32} (h : q.toInt.natAbs < 1099511627776) (h1 : ¬ q < 4) (h2 : q.toInt ≤ b.toInt * 4) : own_sells (FP.ddiv (FP.l2d q) 4616189618054758400) b 1 :=
  Or.inr (Or.inr ⟨own_ge1 h h1, (own_lot h).le ((own_In.i2d b).scale 2) (show q.toInt ≤ b.toInt * 4 from h2) _, rfl⟩)
theorem own_m9 (a : Int32) : -9 < (a - (a / (9 : Int32)) * (9 : Int32)).toInt ∧ (a - (a / (9 : Int32)) * (9 : Int32)).toInt < 9 := by
  rw [irem_eq_mod]
  have h := c_irem a 9 9 rfl
  omega
theorem own_4 (x : Int32) : ((4 : Int64) * x.toInt64).toInt = 4 * x.toInt := by
  have r := rng32 x
  rw [XT.mul64] <;> rw [c_i2l]
  · rfl
  · show XT.fits64 (4 * x.toInt); constructor <;> omega
theorem own_addL (x y : Int64) (h : (x.toInt + y.toInt).natAbs < 1099511627776) : (x + y).toInt = x.toInt + y.toInt := XT.add64 (by constructor <;> omega)
theorem own_mx (b : Int32) : 1 ≤ (if (1 : Int32) < (b &&& (2147483647 : Int32)) then (b &&& (2147483647 : Int32)) else 1).toInt := by
  split
  · rename_i h; rw [Int32.lt_iff_toInt_lt] at h; have e : (1 : Int32).toInt = 1 := rfl; omega
  · decide
theorem own_mean (x : Int32) : 1 ≤ ((x &&& (65535 : Int32)) + (1 : Int32)).toInt ∧ ((x &&& (65535 : Int32)) + (1 : Int32)).toInt ≤ 65536 := by
  have h := c_mask x 65535 16 (by decide) (by decide)
  have a := c_iadd (x &&& 65535) 1
  have r := rng32 ((x &&& 65535) + 1)
  have e1 : (1 : Int32).toInt = 1 := rfl
  have : x.toInt % ((2 ^ 16 : Nat) : Int) = x.toInt % 65536 := rfl
  omega
def QS (r : Int32) (h0 : Heap) (n0 : Nat) (v : Option Value) (h : Heap) (L : List Loc) : Prop := v = some (.int r) ∧ Fr n0 L ∧ h = h0
set_option maxRecDepth 65536 in
set_option maxHeartbeats 40000000 in
theorem rmS (l : Launch) (Z : State) (a0 : Array Value) (hw : ∀ d ∈ tables_1, d.before a0 Z = true) (ws : List Jvm.Cond) (a1 : Addr) (y : UInt64) (b : Int32) (r : Int32) (h0 : Heap) (n0 : Nat) (Z0 : n0 ≤ h0.size) (F1 : Fld Z h0 a1 "com/example/lotwise/lotwise/model/LotMarket" "bidders" "I" (.int b)) (hr : own_sells y b r) :
    MetFree l (⟨"com/example/lotwise/lotwise/model/LotMarket", "sells", "(D)Z"⟩ : MethodName) (head1 (Jvm.Cond.code (⟨"com/example/lotwise/lotwise/model/LotMarket", "sells", "(D)Z"⟩ : MethodName) prog_12_method_2_code 3 (some .boolean) :: ws) ({ frames := 0, cells := 0, slots := 0, locals := 0 } : Room)) (fun a U => a = #[(.ref a1), (.double y)] ∧ Z.Warmed39 U.vm ∧ U.heap = h0) (fun _ _ _ _ _ => True) (fun _ U o U' => ∃ v L, o = .returned v ∧ QS r h0 n0 v U'.heap L ∧ FrameEnd U o U' L ({ frames := 0, cells := 0, slots := 0, locals := 0 } : Room).cells ({ frames := 0, cells := 0, slots := 0, locals := 0 } : Room).slots) := by
  refine MetFree.of_bodySF (plainFor_of_name pn_7) hisR ?_
  intro p e s m args below meth c s₁ Bd hml0 hP hK
  obtain ⟨rfl, hZ, hh⟩ := hP
  have hx := Bd.exec
  have hby := Bd.bytes
  have hml : c.maxLocals = 3 := hml0
  have hown : s.vm.findClass "com/example/lotwise/lotwise/model/LotMarket" = some m.cls := findClass_of_methodNamed Bd.named
  have hnm := (name_of_methodNamed Bd.named Bd.method).1
  have X0 : Stand p l e ({ frames := 0, cells := 0, slots := 0, locals := 0 } : Room) s m #[(.ref a1), (.double y)] below meth c s₁ [] 0 0 := Stand.of_body Bd
  have e0 : s₁.heap = h0 := by rw [← hh, Bd.state]; rfl
  have N0 := Fr.nil n0
  have c0 : Steps p.tables e below (s₁.setTop (entryFrame m #[(.ref a1), (.double y)] 3)) (s₁.setTop (mkF m 0 #[.val (.ref a1), .val (.double y), .second] [])) := XT.entry rfl
  have cc1 : Steps p.tables e below (s₁.setTop (entryFrame m #[(.ref a1), (.double y)] 3)) (s₁.setTop (mkF m 3 #[.val (.ref a1), .val (.double y), .second] [(.int (cmpValue (FP.dcmp y (4607182418800017408 : UInt64)) .l))])) := c0.trans (by
    refine XS.dloadN X0.here hx rfl (hb hby d7_0) rfl ?_
    refine XS.dconst1 X0.here hx rfl (v := (4607182418800017408 : UInt64)) (hb hby d7_1) rfl ?_
    refine XS.dcmpS X0.here hx rfl (hb hby d7_2) rfl rfl ?_
    exact Steps.refl _)
  rcases hr with ⟨h1, rfl⟩ | ⟨h1, h2, rfl⟩ | ⟨h1, h2, rfl⟩
  ·
    have cc2 : Steps p.tables e below (s₁.setTop (entryFrame m #[(.ref a1), (.double y)] 3)) (s₁.setTop (mkF m 21 #[.val (.ref a1), .val (.double y), .second] [(.int (0 : Int32))])) := cc1.trans (by
      refine XS.ifYes X0.here hx rfl (pc0 := 3) (pc' := 20) rfl (hb hby d7_3) rfl (XT.i0_lt_t h1) (by decide) (by decide) ?_
      refine XT.iconstV X0.here hx rfl ((0 : Int32)) (hb hby d7_20) (by decide) ?_
      exact Steps.refl _)
    obtain ⟨fs, hr, hrun, hended, hW, hsame⟩ := X0.leave (v := some (.int (0 : Int32))) (fun h => by rw [Bd.returns] at h; cases h)
    refine ⟨_, _, cc2.trans ?_, hrun, hended, _, _, rfl, ?_, ⟨_, rfl⟩, hW, hsame.mono (by decide) (by decide)⟩
    · exact retN X0 hx (t := .boolean) Bd.returns (by simp) (hb hby d7_21) hr
    · show QS 0 h0 n0 _ s₁.heap _
      rw [e0]
      exact ⟨rfl, N0, rfl⟩
  ·
    obtain ⟨T8, X8, e8, st8⟩ := getF X0 hx hZ hown (host := "") (Or.inl (hw _ (List.mem_of_getElem? (i := 28) rfl))) Via.refl e0 F1 (g := (mkF m 8 #[.val (.ref a1), .val (.double y), .second] [(.ref a1), (.double y)])) rfl rfl (hb hby d7_8)
    have cc2 : Steps p.tables e below (s₁.setTop (entryFrame m #[(.ref a1), (.double y)] 3)) (T8.setTop (mkF m 21 #[.val (.ref a1), .val (.double y), .second] [(.int (0 : Int32))])) := cc1.trans (by
      refine XS.ifNo X0.here hx rfl (hb hby d7_3) rfl (XT.i0_lt_f h1) ?_
      refine XS.dloadN X0.here hx rfl (hb hby d7_6) rfl ?_
      refine XS.aloadN X0.here hx rfl (hb hby d7_7) rfl rfl ?_
      refine st8 _ ?_
      refine XS.i2dS X8.here hx rfl (hb hby d7_11) rfl rfl ?_
      refine XS.dcmpS X8.here hx rfl (hb hby d7_12) rfl rfl ?_
      refine XS.ifYes X8.here hx rfl (pc0 := 13) (pc' := 20) rfl (hb hby d7_13) rfl (XT.i0_gt_t h2) (by decide) (by decide) ?_
      refine XT.iconstV X8.here hx rfl ((0 : Int32)) (hb hby d7_20) (by decide) ?_
      exact Steps.refl _)
    obtain ⟨fs, hr, hrun, hended, hW, hsame⟩ := X8.leave (v := some (.int (0 : Int32))) (fun h => by rw [Bd.returns] at h; cases h)
    refine ⟨_, _, cc2.trans ?_, hrun, hended, _, _, rfl, ?_, ⟨_, rfl⟩, hW, hsame.mono (by decide) (by decide)⟩
    · exact retN X8 hx (t := .boolean) Bd.returns (by simp) (hb hby d7_21) hr
    · show QS 0 h0 n0 _ T8.heap _
      rw [e8]
      exact ⟨rfl, N0, rfl⟩
  ·
    obtain ⟨T9, X9, e9, st9⟩ := getF X0 hx hZ hown (host := "") (Or.inl (hw _ (List.mem_of_getElem? (i := 28) rfl))) Via.refl e0 F1 (g := (mkF m 8 #[.val (.ref a1), .val (.double y), .second] [(.ref a1), (.double y)])) rfl rfl (hb hby d7_8)
    have cc2 : Steps p.tables e below (s₁.setTop (entryFrame m #[(.ref a1), (.double y)] 3)) (T9.setTop (mkF m 21 #[.val (.ref a1), .val (.double y), .second] [(.int (1 : Int32))])) := cc1.trans (by
      refine XS.ifNo X0.here hx rfl (hb hby d7_3) rfl (XT.i0_lt_f h1) ?_
      refine XS.dloadN X0.here hx rfl (hb hby d7_6) rfl ?_
      refine XS.aloadN X0.here hx rfl (hb hby d7_7) rfl rfl ?_
      refine st9 _ ?_
      refine XS.i2dS X9.here hx rfl (hb hby d7_11) rfl rfl ?_
      refine XS.dcmpS X9.here hx rfl (hb hby d7_12) rfl rfl ?_
      refine XS.ifNo X9.here hx rfl (hb hby d7_13) rfl (XT.i0_gt_f h2) ?_
      refine XT.iconstV X9.here hx rfl ((1 : Int32)) (hb hby d7_16) (by decide) ?_
      refine XS.goto X9.here hx rfl (pc0 := 17) (pc' := 21) rfl (hb hby d7_17) (by decide) (by decide) ?_
      exact Steps.refl _)
    obtain ⟨fs, hr, hrun, hended, hW, hsame⟩ := X9.leave (v := some (.int (1 : Int32))) (fun h => by rw [Bd.returns] at h; cases h)
    refine ⟨_, _, cc2.trans ?_, hrun, hended, _, _, rfl, ?_, ⟨_, rfl⟩, hW, hsame.mono (by decide) (by decide)⟩
    · exact retN X9 hx (t := .boolean) Bd.returns (by simp) (hb hby d7_21) hr
    · show QS 1 h0 n0 _ T9.heap _
      rw [e9]
      exact ⟨rfl, N0, rfl⟩
def Q0 (h0 : Heap) (n0 : Nat) (v : Option Value) (h : Heap) (L : List Loc) : Prop := v = some (.int 1) ∧ Fr n0 L
set_option maxRecDepth 65536 in
set_option maxHeartbeats 40000000 in
theorem rm0 (l : Launch) (Z : State) (a0 : Array Value) (hw : ∀ d ∈ tables_1, d.before a0 Z = true) (ws : List Jvm.Cond) (p1 : Int32) (p2 : Int32) (p3 : Int32) (p4 : Int32) (h0 : Heap) (n0 : Nat) (Z0 : n0 ≤ h0.size)  :
    MetFree l x (head1 (Jvm.Cond.code x code maxLocals ret :: ws) room_1) (fun a U => a = #[(.int p1), (.int p2), (.int p3), (.int p4)] ∧ Z.Warmed39 U.vm ∧ U.heap = h0) (fun _ _ _ _ _ => True) (fun _ U o U' => ∃ v L, o = .returned v ∧ Q0 h0 n0 v U'.heap L ∧ FrameEnd U o U' L room_1.cells room_1.slots) := by
  refine MetFree.of_bodySF (plainFor_of_name pn_law) hisR ?_
  intro p e s m args below meth c s₁ Bd hml0 hP hK
  obtain ⟨rfl, hZ, hh⟩ := hP
  have hx := Bd.exec
  have hby := Bd.bytes
  have hml : c.maxLocals = 14 := hml0
  have hown : s.vm.findClass "com/example/lotwise/lotwise/model/LotMarketSellsPinLaw" = some m.cls := findClass_of_methodNamed Bd.named
  have hnm := (name_of_methodNamed Bd.named Bd.method).1
  have X0 : Stand p l e room_1 s m #[(.int p1), (.int p2), (.int p3), (.int p4)] below meth c s₁ [] 0 0 := Stand.of_body Bd
  have e0 : s₁.heap = h0 := by rw [← hh, Bd.state]; rfl
  have N0 := Fr.nil n0
  have c0 : Steps p.tables e below (s₁.setTop (entryFrame m #[(.int p1), (.int p2), (.int p3), (.int p4)] maxLocals)) (s₁.setTop (mkF m 0 #[.val (.int p1), .val (.int p2), .val (.int p3), .val (.int p4), .unset, .unset, .unset, .unset, .unset, .unset, .unset, .unset, .unset, .unset] [])) := XT.entry rfl
  have b0 := own_mx p1
  obtain ⟨bb, hbb⟩ : ∃ z, z = (if (1 : Int32) < (p1 &&& (2147483647 : Int32)) then (p1 &&& (2147483647 : Int32)) else 1) := ⟨_, rfl⟩
  rw [← hbb] at b0
  obtain ⟨_, _, ⟨T10, L10, k10, n10⟩, -, X10, ⟨Lc10, hQ10, l10, y10, z10⟩, st10⟩ := Jvm.LawKit.callS X0 hx (y := (⟨"java/lang/Math", "max", "(II)I"⟩ : MethodName)) hown (mvT hZ (hw _ (List.mem_of_getElem? (i := 1) rfl))) (mvT hZ (hw _ (List.mem_of_getElem? (i := 2) rfl))) (mvT hZ (hw _ (List.mem_of_getElem? (i := 3) rfl))) (mvT hZ (hw _ (List.mem_of_getElem? (i := 4) rfl))) (by decide) (backOf (W := 0) (rm_max l Z a0 hw [] 1 (p1 &&& (2147483647 : Int32)) bb h0 n0 Z0 (by rw [hbb]; split; exact Or.inl ⟨by assumption, rfl⟩; exact Or.inr ⟨by assumption, rfl⟩)) hZ (hw _ (List.mem_of_getElem? (i := 4) rfl)) (hw _ (List.mem_of_getElem? (i := 3) rfl)) (by decide) (by decide)) (g := (mkF m 5 #[.val (.int p1), .val (.int p2), .val (.int p3), .val (.int p4), .unset, .unset, .unset, .unset, .unset, .unset, .unset, .unset, .unset, .unset] [(.int (p1 &&& (2147483647 : Int32))), (.int (1 : Int32))])) rfl (by rw [hml]; rfl) (argsL := [(.int (1 : Int32)), (.int (p1 &&& (2147483647 : Int32)))]) (rest := []) (lenOf pd__II_I rfl) rfl (by show 2 * 0 + _ ≤ _; exact Nat.le_of_eq rfl) (hb hby at_5) (fun _ _ => ⟨rfl, e0, (by decide : 0 + 0 ≤ _), (by decide : 0 + 0 ≤ _)⟩)
  dsimp only [Pt.U, Pt.locs, Pt.cells, Pt.slots] at X10 l10 y10 z10 st10 hQ10
  subst l10 y10 z10
  obtain ⟨rfl, N10, e10⟩ := hQ10
  have NN10 := Fr.app N0 N10
  obtain ⟨me, hme⟩ : ∃ z, z = ((p4 &&& (65535 : Int32)) + (1 : Int32)) := ⟨_, rfl⟩
  have b1 : 1 ≤ me.toInt ∧ me.toInt ≤ 65536 := by rw [hme]; exact own_mean p4
  obtain ⟨T11, h11, X11, e11, E11, A11, D11, -, st11⟩ := newO X10 hx hZ hown (hw _ (List.mem_of_getElem? (i := 6) rfl)) (hw _ (List.mem_of_getElem? (i := 7) rfl)) (hw _ (List.mem_of_getElem? (i := 8) rfl)) e10 (g := (mkF m 19 #[.val (.int p1), .val (.int p2), .val (.int p3), .val (.int p4), .val (.int bb), .val (.double (FP.i2d me)), .second, .unset, .unset, .unset, .unset, .unset, .unset, .unset] [])) rfl (hb hby at_19) (by decide) (by decide)
  obtain ⟨a11, g11⟩ : ∃ z, z = h0.size := ⟨_, rfl⟩
  rw [← g11] at A11 D11 st11
  have Zs11 : n0 ≤ h11.size := Nat.le_trans Z0 E11.1
  have gn11 : n0 ≤ a11 := Nat.le_trans Z0 (Nat.le_of_eq g11.symm)
  have rb := rng32 bb
  have bl : ¬ bb < (1 : Int32) := by rw [Int32.lt_iff_toInt_lt]; have e : (1 : Int32).toInt = 1 := rfl; omega
  have Im := own_In.i2d me
  have k1 : cmpValue (FP.dcmp 4607182418800017408 0) .l = 1 := own_In1.gt own_In0 (by decide) _
  have k2 : ¬ (0 : Int32) < cmpValue (FP.dcmp 4607182418800017408 (FP.i2d me)) .l := own_In1.le Im (by omega) _
  have hf : Fl.Fin64 (FP.dadd (FP.i2d me) 4607182418800017408) := Fl.fin64_core.mpr (Im.add own_In1 (by decide) (by omega) (by omega)).1
  obtain ⟨_, _, ⟨T12, L12, k12, n12⟩, -, X12, ⟨Lc12, hQ12, l12, y12, z12⟩, st12⟩ := X11.specialBack hx (y := (⟨"com/example/lotwise/lotwise/model/LotMarket", "<init>", "(IDD)V"⟩ : MethodName)) rfl hown (mvT hZ (hw _ (List.mem_of_getElem? (i := 9) rfl))) (mvT hZ (hw _ (List.mem_of_getElem? (i := 10) rfl))) (mvT hZ (hw _ (List.mem_of_getElem? (i := 11) rfl))) (by decide) (backOf (W := 1) (rmI l Z a0 hw [] a11 bb (FP.i2d me) 4607182418800017408 h11 n0 Zs11 A11 (D11 (Or.inr (hw _ (List.mem_of_getElem? (i := 29) rfl))) (ty := .int) (by decide)) (D11 (Or.inr (hw _ (List.mem_of_getElem? (i := 31) rfl))) (ty := .double) (by decide)) (D11 (Or.inr (hw _ (List.mem_of_getElem? (i := 33) rfl))) (ty := .double) (by decide)) gn11 bl k1 k2 hf) hZ (hw _ (List.mem_of_getElem? (i := 11) rfl)) (hw _ (List.mem_of_getElem? (i := 8) rfl)) (by decide) (by decide)) (g := (mkF m 28 #[.val (.int p1), .val (.int p2), .val (.int p3), .val (.int p4), .val (.int bb), .val (.double (FP.i2d me)), .second, .unset, .unset, .unset, .unset, .unset, .unset, .unset] [(.double (4607182418800017408 : UInt64)), (.double (FP.i2d me)), (.int bb), (.ref a11), (.ref a11)])) rfl (by rw [hml]; rfl) (Steps.refl _) (a := a11) (argsL := [(.int bb), (.double (FP.i2d me)), (.double (4607182418800017408 : UInt64))]) (rest := [(.ref a11)]) (lenOf pd__IDD_V rfl) rfl (by show 2 * 0 + _ ≤ _; exact Nat.le_of_eq rfl) (hb hby at_28) (fun _ _ => ⟨rfl, e11, (by decide : 1 + 0 ≤ _), (by decide : 3 + 0 ≤ _)⟩)
  dsimp only [Pt.U, Pt.locs, Pt.cells, Pt.slots] at X12 l12 y12 z12 st12 hQ12
  subst l12 y12 z12
  obtain ⟨rfl, N12, K12, FB, FM, FS⟩ := hQ12
  have NN12 := Fr.app NN10 N12
  have Ec : Exa Z T12.heap a11 "com/example/lotwise/lotwise/model/LotMarket" := A11.keep K12
  have Zc : n0 ≤ T12.heap.size := Nat.le_trans Zs11 K12.1
  obtain ⟨hq, e_q⟩ : ∃ z, T12.heap = z := ⟨_, rfl⟩
  rw [e_q] at Ec Zc FB FM FS K12
  obtain ⟨fl, hfl⟩ : ∃ z, z = (p3 &&& (3 : Int32)) := ⟨_, rfl⟩
  have cc1 : Steps p.tables e below (s₁.setTop (entryFrame m #[(.int p1), (.int p2), (.int p3), (.int p4)] maxLocals)) (T12.setTop (mkF m 40 #[.val (.int p1), .val (.int p2), .val (.int p3), .val (.int p4), .val (.int bb), .val (.double (FP.i2d me)), .second, .val (.ref a11), .val (.int fl), .unset, .unset, .unset, .unset, .unset] [(.int fl)])) := c0.trans (by
    refine XT.iconstV X0.here hx rfl ((1 : Int32)) (hb hby at_0) (by decide) ?_
    refine XS.iloadN X0.here hx rfl (hb hby at_1) rfl ?_
    refine Stand.ldcI X0 hx hown (v := (2147483647 : Int32)) (mvT hZ (hw _ (List.mem_of_getElem? (i := 0) rfl))) rfl (hb hby at_2) ?_
    refine XS.iand X0.here hx rfl (hb hby at_4) rfl ?_
    refine st10 _ ?_
    show Steps p.tables e below (T10.setTop (mkF m 8 #[.val (.int p1), .val (.int p2), .val (.int p3), .val (.int p4), .unset, .unset, .unset, .unset, .unset, .unset, .unset, .unset, .unset, .unset] [(.int bb)])) _
    refine XS.istore X10.here hx rfl (hb hby at_8) rfl (l' := #[.val (.int p1), .val (.int p2), .val (.int p3), .val (.int p4), .val (.int bb), .unset, .unset, .unset, .unset, .unset, .unset, .unset, .unset, .unset]) rfl ?_
    refine XS.iloadN X10.here hx rfl (hb hby at_10) rfl ?_
    refine Stand.ldcI X10 hx hown (v := (65535 : Int32)) (mvT hZ (hw _ (List.mem_of_getElem? (i := 5) rfl))) rfl (hb hby at_11) ?_
    refine XS.iand X10.here hx rfl (hb hby at_13) rfl ?_
    refine XT.iconstV X10.here hx rfl ((1 : Int32)) (hb hby at_14) (by decide) ?_
    refine XS.iadd X10.here hx rfl (hb hby at_15) rfl ?_
    show Steps p.tables e below (T10.setTop (mkF m 16 #[.val (.int p1), .val (.int p2), .val (.int p3), .val (.int p4), .val (.int bb), .unset, .unset, .unset, .unset, .unset, .unset, .unset, .unset, .unset] [(.int ((p4 &&& (65535 : Int32)) + (1 : Int32)))])) _
    rw [← hme]
    refine XS.i2dS X10.here hx rfl (hb hby at_16) rfl rfl ?_
    refine XS.dstore X10.here hx rfl (hb hby at_17) rfl (l' := #[.val (.int p1), .val (.int p2), .val (.int p3), .val (.int p4), .val (.int bb), .val (.double (FP.i2d me)), .second, .unset, .unset, .unset, .unset, .unset, .unset, .unset]) rfl ?_
    refine st11 _ ?_
    refine XS.dup X11.here hx rfl (hb hby at_22) rfl rfl ?_
    refine XS.iload X11.here hx rfl (hb hby at_23) rfl ?_
    refine XS.dload X11.here hx rfl (hb hby at_25) rfl ?_
    refine XS.dconst1 X11.here hx rfl (v := (4607182418800017408 : UInt64)) (hb hby at_27) rfl ?_
    refine st12.trans ?_
    show Steps p.tables e below (T12.setTop (mkF m 31 #[.val (.int p1), .val (.int p2), .val (.int p3), .val (.int p4), .val (.int bb), .val (.double (FP.i2d me)), .second, .unset, .unset, .unset, .unset, .unset, .unset, .unset] [(.ref a11)])) _
    refine XS.astore X12.here hx rfl (hb hby at_31) rfl rfl (l' := #[.val (.int p1), .val (.int p2), .val (.int p3), .val (.int p4), .val (.int bb), .val (.double (FP.i2d me)), .second, .val (.ref a11), .unset, .unset, .unset, .unset, .unset, .unset]) rfl ?_
    refine XS.iloadN X12.here hx rfl (hb hby at_33) rfl ?_
    refine XT.iconstV X12.here hx rfl ((3 : Int32)) (hb hby at_34) (by decide) ?_
    refine XS.iand X12.here hx rfl (hb hby at_35) rfl ?_
    show Steps p.tables e below (T12.setTop (mkF m 36 #[.val (.int p1), .val (.int p2), .val (.int p3), .val (.int p4), .val (.int bb), .val (.double (FP.i2d me)), .second, .val (.ref a11), .unset, .unset, .unset, .unset, .unset, .unset] [(.int (p3 &&& (3 : Int32)))])) _
    rw [← hfl]
    refine XS.istore X12.here hx rfl (hb hby at_36) rfl (l' := #[.val (.int p1), .val (.int p2), .val (.int p3), .val (.int p4), .val (.int bb), .val (.double (FP.i2d me)), .second, .val (.ref a11), .val (.int fl), .unset, .unset, .unset, .unset, .unset]) rfl ?_
    refine XS.iload X12.here hx rfl (hb hby at_38) rfl ?_
    exact Steps.refl _)
  have m9 := own_m9 p2
  have r2 := rng32 p2
  have cJ : ∃ qq : Int64, qq.toInt.natAbs < 1099511627776 ∧ Steps p.tables e below (s₁.setTop (entryFrame m #[(.int p1), (.int p2), (.int p3), (.int p4)] maxLocals)) (T12.setTop (mkF m 102 #[.val (.int p1), .val (.int p2), .val (.int p3), .val (.int p4), .val (.int bb), .val (.double (FP.i2d me)), .second, .val (.ref a11), .val (.int fl), .val (.long qq), .second, .unset, .unset, .unset] [])) := by
    by_cases m0 : fl = (0 : Int32)
    ·
      have cr0_2 : Steps p.tables e below (s₁.setTop (entryFrame m #[(.int p1), (.int p2), (.int p3), (.int p4)] maxLocals)) (T12.setTop (mkF m 102 #[.val (.int p1), .val (.int p2), .val (.int p3), .val (.int p4), .val (.int bb), .val (.double (FP.i2d me)), .second, .val (.ref a11), .val (.int fl), .val (.long p2.toInt64), .second, .unset, .unset, .unset] [])) := cc1.trans (by
        refine XS.ifNo X12.here hx rfl (hb hby at_40) rfl (XT.i0_ne_f m0) ?_
        refine XS.iloadN X12.here hx rfl (hb hby at_43) rfl ?_
        refine XT.i2l X12.here hx rfl (hb hby at_44) rfl ?_
        refine XT.lstore X12.here hx rfl (hb hby at_45) rfl (l' := #[.val (.int p1), .val (.int p2), .val (.int p3), .val (.int p4), .val (.int bb), .val (.double (FP.i2d me)), .second, .val (.ref a11), .val (.int fl), .val (.long p2.toInt64), .second, .unset, .unset, .unset]) rfl ?_
        refine XS.goto X12.here hx rfl (pc0 := 47) (pc' := 102) rfl (hb hby at_47) (by decide) (by decide) ?_
        exact Steps.refl _)
      exact ⟨p2.toInt64, (by rw [c_i2l]; omega), cr0_2⟩
    ·
      by_cases m1 : fl = (1 : Int32)
      ·
        have cr1_2 : Steps p.tables e below (s₁.setTop (entryFrame m #[(.int p1), (.int p2), (.int p3), (.int p4)] maxLocals)) (T12.setTop (mkF m 102 #[.val (.int p1), .val (.int p2), .val (.int p3), .val (.int p4), .val (.int bb), .val (.double (FP.i2d me)), .second, .val (.ref a11), .val (.int fl), .val (.long ((4 : Int64) + ((p2 - (p2 / (9 : Int32)) * (9 : Int32)).toInt64))), .second, .unset, .unset, .unset] [])) := cc1.trans (by
          refine XS.ifYes X12.here hx rfl (pc0 := 40) (pc' := 50) rfl (hb hby at_40) rfl (XT.i0_ne_t m0) (by decide) (by decide) ?_
          refine XS.iload X12.here hx rfl (hb hby at_50) rfl ?_
          refine XT.iconstV X12.here hx rfl ((1 : Int32)) (hb hby at_52) (by decide) ?_
          refine XS.icmpNo X12.here hx rfl (hb hby at_53) rfl (XT.ii_ne_f m1) ?_
          refine Stand.ldc2J X12 hx hown (v := (4 : Int64)) (mvT hZ (hw _ (List.mem_of_getElem? (i := 34) rfl))) rfl (hb hby at_56) ?_
          refine XS.iloadN X12.here hx rfl (hb hby at_59) rfl ?_
          refine XT.bipushV X12.here hx rfl ((9 : Int32)) (hb hby at_60) (by decide) ?_
          refine XS.irem X12.here hx rfl (hb hby at_62) rfl (by decide) ?_
          refine XT.i2l X12.here hx rfl (hb hby at_63) rfl ?_
          refine XT.ladd X12.here hx rfl (hb hby at_64) rfl ?_
          refine XT.lstore X12.here hx rfl (hb hby at_65) rfl (l' := #[.val (.int p1), .val (.int p2), .val (.int p3), .val (.int p4), .val (.int bb), .val (.double (FP.i2d me)), .second, .val (.ref a11), .val (.int fl), .val (.long ((4 : Int64) + ((p2 - (p2 / (9 : Int32)) * (9 : Int32)).toInt64))), .second, .unset, .unset, .unset]) rfl ?_
          refine XS.goto X12.here hx rfl (pc0 := 67) (pc' := 102) rfl (hb hby at_67) (by decide) (by decide) ?_
          exact Steps.refl _)
        exact ⟨((4 : Int64) + ((p2 - (p2 / (9 : Int32)) * (9 : Int32)).toInt64)), (by have e4 : (4 : Int64).toInt = 4 := rfl; rw [own_addL _ _ (by rw [c_i2l]; omega), c_i2l]; omega), cr1_2⟩
      ·
        by_cases m2 : fl = (2 : Int32)
        ·
          have cr2_2 : Steps p.tables e below (s₁.setTop (entryFrame m #[(.int p1), (.int p2), (.int p3), (.int p4)] maxLocals)) (T12.setTop (mkF m 102 #[.val (.int p1), .val (.int p2), .val (.int p3), .val (.int p4), .val (.int bb), .val (.double (FP.i2d me)), .second, .val (.ref a11), .val (.int fl), .val (.long (((4 : Int64) * bb.toInt64) + ((p2 - (p2 / (9 : Int32)) * (9 : Int32)).toInt64))), .second, .unset, .unset, .unset] [])) := cc1.trans (by
            refine XS.ifYes X12.here hx rfl (pc0 := 40) (pc' := 50) rfl (hb hby at_40) rfl (XT.i0_ne_t m0) (by decide) (by decide) ?_
            refine XS.iload X12.here hx rfl (hb hby at_50) rfl ?_
            refine XT.iconstV X12.here hx rfl ((1 : Int32)) (hb hby at_52) (by decide) ?_
            refine XS.icmpYes X12.here hx rfl (pc0 := 53) (pc' := 70) rfl (hb hby at_53) rfl (XT.ii_ne_t m1) (by decide) (by decide) ?_
            refine XS.iload X12.here hx rfl (hb hby at_70) rfl ?_
            refine XT.iconstV X12.here hx rfl ((2 : Int32)) (hb hby at_72) (by decide) ?_
            refine XS.icmpNo X12.here hx rfl (hb hby at_73) rfl (XT.ii_ne_f m2) ?_
            refine Stand.ldc2J X12 hx hown (v := (4 : Int64)) (mvT hZ (hw _ (List.mem_of_getElem? (i := 34) rfl))) rfl (hb hby at_76) ?_
            refine XS.iload X12.here hx rfl (hb hby at_79) rfl ?_
            refine XT.i2l X12.here hx rfl (hb hby at_81) rfl ?_
            refine XT.lmul X12.here hx rfl (hb hby at_82) rfl ?_
            refine XS.iloadN X12.here hx rfl (hb hby at_83) rfl ?_
            refine XT.bipushV X12.here hx rfl ((9 : Int32)) (hb hby at_84) (by decide) ?_
            refine XS.irem X12.here hx rfl (hb hby at_86) rfl (by decide) ?_
            refine XT.i2l X12.here hx rfl (hb hby at_87) rfl ?_
            refine XT.ladd X12.here hx rfl (hb hby at_88) rfl ?_
            refine XT.lstore X12.here hx rfl (hb hby at_89) rfl (l' := #[.val (.int p1), .val (.int p2), .val (.int p3), .val (.int p4), .val (.int bb), .val (.double (FP.i2d me)), .second, .val (.ref a11), .val (.int fl), .val (.long (((4 : Int64) * bb.toInt64) + ((p2 - (p2 / (9 : Int32)) * (9 : Int32)).toInt64))), .second, .unset, .unset, .unset]) rfl ?_
            refine XS.goto X12.here hx rfl (pc0 := 91) (pc' := 102) rfl (hb hby at_91) (by decide) (by decide) ?_
            exact Steps.refl _)
          exact ⟨(((4 : Int64) * bb.toInt64) + ((p2 - (p2 / (9 : Int32)) * (9 : Int32)).toInt64)), (by have e4 := own_4 bb; rw [own_addL _ _ (by rw [c_i2l, e4]; omega), c_i2l, e4]; omega), cr2_2⟩
        ·
          have cr3_2 : Steps p.tables e below (s₁.setTop (entryFrame m #[(.int p1), (.int p2), (.int p3), (.int p4)] maxLocals)) (T12.setTop (mkF m 102 #[.val (.int p1), .val (.int p2), .val (.int p3), .val (.int p4), .val (.int bb), .val (.double (FP.i2d me)), .second, .val (.ref a11), .val (.int fl), .val (.long ((4 : Int64) * p2.toInt64)), .second, .unset, .unset, .unset] [])) := cc1.trans (by
            refine XS.ifYes X12.here hx rfl (pc0 := 40) (pc' := 50) rfl (hb hby at_40) rfl (XT.i0_ne_t m0) (by decide) (by decide) ?_
            refine XS.iload X12.here hx rfl (hb hby at_50) rfl ?_
            refine XT.iconstV X12.here hx rfl ((1 : Int32)) (hb hby at_52) (by decide) ?_
            refine XS.icmpYes X12.here hx rfl (pc0 := 53) (pc' := 70) rfl (hb hby at_53) rfl (XT.ii_ne_t m1) (by decide) (by decide) ?_
            refine XS.iload X12.here hx rfl (hb hby at_70) rfl ?_
            refine XT.iconstV X12.here hx rfl ((2 : Int32)) (hb hby at_72) (by decide) ?_
            refine XS.icmpYes X12.here hx rfl (pc0 := 73) (pc' := 94) rfl (hb hby at_73) rfl (XT.ii_ne_t m2) (by decide) (by decide) ?_
            refine Stand.ldc2J X12 hx hown (v := (4 : Int64)) (mvT hZ (hw _ (List.mem_of_getElem? (i := 34) rfl))) rfl (hb hby at_94) ?_
            refine XS.iloadN X12.here hx rfl (hb hby at_97) rfl ?_
            refine XT.i2l X12.here hx rfl (hb hby at_98) rfl ?_
            refine XT.lmul X12.here hx rfl (hb hby at_99) rfl ?_
            refine XT.lstore X12.here hx rfl (hb hby at_100) rfl (l' := #[.val (.int p1), .val (.int p2), .val (.int p3), .val (.int p4), .val (.int bb), .val (.double (FP.i2d me)), .second, .val (.ref a11), .val (.int fl), .val (.long ((4 : Int64) * p2.toInt64)), .second, .unset, .unset, .unset]) rfl ?_
            exact Steps.refl _)
          exact ⟨((4 : Int64) * p2.toInt64), (by rw [own_4]; omega), cr3_2⟩
  obtain ⟨qq, bq, cK⟩ := cJ
  have IL := own_lot bq
  obtain ⟨lo, hlo⟩ : ∃ z, FP.ddiv (FP.l2d qq) 4616189618054758400 = z := ⟨_, rfl⟩
  have nL := IL.nn
  have cc2 : Steps p.tables e below (s₁.setTop (entryFrame m #[(.int p1), (.int p2), (.int p3), (.int p4)] maxLocals)) (T12.setTop (mkF m 117 #[.val (.int p1), .val (.int p2), .val (.int p3), .val (.int p4), .val (.int bb), .val (.double (FP.i2d me)), .second, .val (.ref a11), .val (.int fl), .val (.long qq), .second, .val (.double lo), .second, .unset] [(.int (XT.cmpL qq (4 : Int64)))])) := cK.trans (by
    refine XT.lload X12.here hx rfl (hb hby at_102) rfl ?_
    refine XS.l2dS X12.here hx rfl (hb hby at_104) rfl rfl ?_
    refine Stand.ldc2DoubleC X12 hx hown (b := (4616189618054758400 : UInt64)) (mvT hZ (hw _ (List.mem_of_getElem? (i := 35) rfl))) (g := (mkF m 105 #[.val (.int p1), .val (.int p2), .val (.int p3), .val (.int p4), .val (.int bb), .val (.double (FP.i2d me)), .second, .val (.ref a11), .val (.int fl), .val (.long qq), .second, .unset, .unset, .unset] [(.double (FP.l2d qq))])) rfl (hb hby at_105) _ ?_
    refine XS.ddivS X12.here hx rfl (hb hby at_108) rfl nL hlo ?_
    refine XS.dstore X12.here hx rfl (hb hby at_109) rfl (l' := #[.val (.int p1), .val (.int p2), .val (.int p3), .val (.int p4), .val (.int bb), .val (.double (FP.i2d me)), .second, .val (.ref a11), .val (.int fl), .val (.long qq), .second, .val (.double lo), .second, .unset]) rfl ?_
    refine XT.lload X12.here hx rfl (hb hby at_111) rfl ?_
    refine Stand.ldc2J X12 hx hown (v := (4 : Int64)) (mvT hZ (hw _ (List.mem_of_getElem? (i := 34) rfl))) rfl (hb hby at_113) ?_
    refine XT.lcmp X12.here hx rfl (hb hby at_116) rfl ?_
    exact Steps.refl _)
  have e4 := own_4 bb
  by_cases g1 : qq < (4 : Int64)
  ·
    obtain ⟨cq13, kq13, q13a, q13b, q13c⟩ := isOf hZ e_q Ec
    obtain ⟨_, _, ⟨T13, L13, k13, n13⟩, -, X13, ⟨Lc13, hQ13, l13, y13, z13⟩, st13⟩ := X12.virtualBack hx (y := (⟨"com/example/lotwise/lotwise/model/LotMarket", "sells", "(D)Z"⟩ : MethodName)) (z := (⟨"com/example/lotwise/lotwise/model/LotMarket", "sells", "(D)Z"⟩ : MethodName)) hown (mvT hZ (hw _ (List.mem_of_getElem? (i := 36) rfl))) (mvT hZ (hw _ (List.mem_of_getElem? (i := 37) rfl))) (notFace_of_selects (args := #[]) (mvT hZ (hw _ (List.mem_of_getElem? (i := 39) rfl)))) (mvT hZ (hw _ (List.mem_of_getElem? (i := 39) rfl))) (mvT hZ (hw _ (List.mem_of_getElem? (i := 38) rfl))) (by decide) (backOf (W := 0) (rmS l Z a0 hw [] a11 lo bb 0 hq n0 Zc FB (hlo ▸ own_s1 bq g1)) hZ (hw _ (List.mem_of_getElem? (i := 40) rfl)) (hw _ (List.mem_of_getElem? (i := 8) rfl)) (by decide) (by decide)) q13a q13c (g := (mkF m 144 #[.val (.int p1), .val (.int p2), .val (.int p3), .val (.int p4), .val (.int bb), .val (.double (FP.i2d me)), .second, .val (.ref a11), .val (.int fl), .val (.long qq), .second, .val (.double lo), .second, .val (.int (0 : Int32))] [(.double lo), (.ref a11)])) rfl (by rw [hml]; rfl) (Steps.refl _) (argsL := [(.double lo)]) (rest := []) (lenOf pd__D_Z rfl) rfl (by show 2 * 0 + _ ≤ _; exact Nat.le_of_eq rfl) (hb hby at_144) (fun _ _ => ⟨rfl, e_q, (by decide : 1 + 0 ≤ _), (by decide : 3 + 0 ≤ _)⟩)
    dsimp only [Pt.U, Pt.locs, Pt.cells, Pt.slots] at X13 l13 y13 z13 st13 hQ13
    subst l13 y13 z13
    obtain ⟨rfl, N13, e13⟩ := hQ13
    have NN13 := Fr.app NN12 N13
    have cu3 : Steps p.tables e below (s₁.setTop (entryFrame m #[(.int p1), (.int p2), (.int p3), (.int p4)] maxLocals)) (T13.setTop (mkF m 157 #[.val (.int p1), .val (.int p2), .val (.int p3), .val (.int p4), .val (.int bb), .val (.double (FP.i2d me)), .second, .val (.ref a11), .val (.int fl), .val (.long qq), .second, .val (.double lo), .second, .val (.int (0 : Int32))] [(.int (1 : Int32))])) := cc2.trans (by
      refine XS.ifYes X12.here hx rfl (pc0 := 117) (pc' := 137) rfl (hb hby at_117) rfl (XT.ll_lt_t g1) (by decide) (by decide) ?_
      refine XT.iconstV X12.here hx rfl ((0 : Int32)) (hb hby at_137) (by decide) ?_
      refine XS.istore X12.here hx rfl (hb hby at_138) rfl (l' := #[.val (.int p1), .val (.int p2), .val (.int p3), .val (.int p4), .val (.int bb), .val (.double (FP.i2d me)), .second, .val (.ref a11), .val (.int fl), .val (.long qq), .second, .val (.double lo), .second, .val (.int (0 : Int32))]) rfl ?_
      refine XS.aload X12.here hx rfl (hb hby at_140) rfl rfl ?_
      refine XS.dload X12.here hx rfl (hb hby at_142) rfl ?_
      refine st13.trans ?_
      show Steps p.tables e below (T13.setTop (mkF m 147 #[.val (.int p1), .val (.int p2), .val (.int p3), .val (.int p4), .val (.int bb), .val (.double (FP.i2d me)), .second, .val (.ref a11), .val (.int fl), .val (.long qq), .second, .val (.double lo), .second, .val (.int (0 : Int32))] [(.int (0 : Int32))])) _
      refine XS.iload X13.here hx rfl (hb hby at_147) rfl ?_
      refine XS.icmpNo X13.here hx rfl (hb hby at_149) rfl (XT.ii_ne_f rfl) ?_
      refine XT.iconstV X13.here hx rfl ((1 : Int32)) (hb hby at_152) (by decide) ?_
      refine XS.goto X13.here hx rfl (pc0 := 153) (pc' := 157) rfl (hb hby at_153) (by decide) (by decide) ?_
      exact Steps.refl _)
    obtain ⟨fs, hr, hrun, hended, hW, hsame⟩ := X13.leave (v := some (.int (1 : Int32))) (fun h => by rw [Bd.returns] at h; cases h)
    refine ⟨_, _, cu3.trans ?_, hrun, hended, _, _, rfl, ?_, ⟨_, rfl⟩, hW, hsame.mono (by decide) (by decide)⟩
    · exact retN X13 hx (t := .boolean) Bd.returns (by simp) (hb hby at_157) hr
    · show Q0 h0 n0 _ T13.heap _
      exact ⟨rfl, NN13⟩
  ·
    have cu3 : Steps p.tables e below (s₁.setTop (entryFrame m #[(.int p1), (.int p2), (.int p3), (.int p4)] maxLocals)) (T12.setTop (mkF m 130 #[.val (.int p1), .val (.int p2), .val (.int p3), .val (.int p4), .val (.int bb), .val (.double (FP.i2d me)), .second, .val (.ref a11), .val (.int fl), .val (.long qq), .second, .val (.double lo), .second, .unset] [(.int (XT.cmpL qq ((4 : Int64) * bb.toInt64)))])) := cc2.trans (by
      refine XS.ifNo X12.here hx rfl (hb hby at_117) rfl (XT.ll_lt_f g1) ?_
      refine XT.lload X12.here hx rfl (hb hby at_120) rfl ?_
      refine Stand.ldc2J X12 hx hown (v := (4 : Int64)) (mvT hZ (hw _ (List.mem_of_getElem? (i := 34) rfl))) rfl (hb hby at_122) ?_
      refine XS.iload X12.here hx rfl (hb hby at_125) rfl ?_
      refine XT.i2l X12.here hx rfl (hb hby at_127) rfl ?_
      refine XT.lmul X12.here hx rfl (hb hby at_128) rfl ?_
      refine XT.lcmp X12.here hx rfl (hb hby at_129) rfl ?_
      exact Steps.refl _)
    by_cases g2 : (4 : Int64) * bb.toInt64 < qq
    ·
      obtain ⟨cq14, kq14, q14a, q14b, q14c⟩ := isOf hZ e_q Ec
      obtain ⟨_, _, ⟨T14, L14, k14, n14⟩, -, X14, ⟨Lc14, hQ14, l14, y14, z14⟩, st14⟩ := X12.virtualBack hx (y := (⟨"com/example/lotwise/lotwise/model/LotMarket", "sells", "(D)Z"⟩ : MethodName)) (z := (⟨"com/example/lotwise/lotwise/model/LotMarket", "sells", "(D)Z"⟩ : MethodName)) hown (mvT hZ (hw _ (List.mem_of_getElem? (i := 36) rfl))) (mvT hZ (hw _ (List.mem_of_getElem? (i := 37) rfl))) (notFace_of_selects (args := #[]) (mvT hZ (hw _ (List.mem_of_getElem? (i := 39) rfl)))) (mvT hZ (hw _ (List.mem_of_getElem? (i := 39) rfl))) (mvT hZ (hw _ (List.mem_of_getElem? (i := 38) rfl))) (by decide) (backOf (W := 0) (rmS l Z a0 hw [] a11 lo bb 0 hq n0 Zc FB (hlo ▸ own_s2 bq g1 (by rw [Int64.lt_iff_toInt_lt, e4] at g2; omega))) hZ (hw _ (List.mem_of_getElem? (i := 40) rfl)) (hw _ (List.mem_of_getElem? (i := 8) rfl)) (by decide) (by decide)) q14a q14c (g := (mkF m 144 #[.val (.int p1), .val (.int p2), .val (.int p3), .val (.int p4), .val (.int bb), .val (.double (FP.i2d me)), .second, .val (.ref a11), .val (.int fl), .val (.long qq), .second, .val (.double lo), .second, .val (.int (0 : Int32))] [(.double lo), (.ref a11)])) rfl (by rw [hml]; rfl) (Steps.refl _) (argsL := [(.double lo)]) (rest := []) (lenOf pd__D_Z rfl) rfl (by show 2 * 0 + _ ≤ _; exact Nat.le_of_eq rfl) (hb hby at_144) (fun _ _ => ⟨rfl, e_q, (by decide : 1 + 0 ≤ _), (by decide : 3 + 0 ≤ _)⟩)
      dsimp only [Pt.U, Pt.locs, Pt.cells, Pt.slots] at X14 l14 y14 z14 st14 hQ14
      subst l14 y14 z14
      obtain ⟨rfl, N14, e14⟩ := hQ14
      have NN14 := Fr.app NN12 N14
      have cv4 : Steps p.tables e below (s₁.setTop (entryFrame m #[(.int p1), (.int p2), (.int p3), (.int p4)] maxLocals)) (T14.setTop (mkF m 157 #[.val (.int p1), .val (.int p2), .val (.int p3), .val (.int p4), .val (.int bb), .val (.double (FP.i2d me)), .second, .val (.ref a11), .val (.int fl), .val (.long qq), .second, .val (.double lo), .second, .val (.int (0 : Int32))] [(.int (1 : Int32))])) := cu3.trans (by
        refine XS.ifYes X12.here hx rfl (pc0 := 130) (pc' := 137) rfl (hb hby at_130) rfl (XT.ll_gt_t g2) (by decide) (by decide) ?_
        refine XT.iconstV X12.here hx rfl ((0 : Int32)) (hb hby at_137) (by decide) ?_
        refine XS.istore X12.here hx rfl (hb hby at_138) rfl (l' := #[.val (.int p1), .val (.int p2), .val (.int p3), .val (.int p4), .val (.int bb), .val (.double (FP.i2d me)), .second, .val (.ref a11), .val (.int fl), .val (.long qq), .second, .val (.double lo), .second, .val (.int (0 : Int32))]) rfl ?_
        refine XS.aload X12.here hx rfl (hb hby at_140) rfl rfl ?_
        refine XS.dload X12.here hx rfl (hb hby at_142) rfl ?_
        refine st14.trans ?_
        show Steps p.tables e below (T14.setTop (mkF m 147 #[.val (.int p1), .val (.int p2), .val (.int p3), .val (.int p4), .val (.int bb), .val (.double (FP.i2d me)), .second, .val (.ref a11), .val (.int fl), .val (.long qq), .second, .val (.double lo), .second, .val (.int (0 : Int32))] [(.int (0 : Int32))])) _
        refine XS.iload X14.here hx rfl (hb hby at_147) rfl ?_
        refine XS.icmpNo X14.here hx rfl (hb hby at_149) rfl (XT.ii_ne_f rfl) ?_
        refine XT.iconstV X14.here hx rfl ((1 : Int32)) (hb hby at_152) (by decide) ?_
        refine XS.goto X14.here hx rfl (pc0 := 153) (pc' := 157) rfl (hb hby at_153) (by decide) (by decide) ?_
        exact Steps.refl _)
      obtain ⟨fs, hr, hrun, hended, hW, hsame⟩ := X14.leave (v := some (.int (1 : Int32))) (fun h => by rw [Bd.returns] at h; cases h)
      refine ⟨_, _, cv4.trans ?_, hrun, hended, _, _, rfl, ?_, ⟨_, rfl⟩, hW, hsame.mono (by decide) (by decide)⟩
      · exact retN X14 hx (t := .boolean) Bd.returns (by simp) (hb hby at_157) hr
      · show Q0 h0 n0 _ T14.heap _
        exact ⟨rfl, NN14⟩
    ·
      obtain ⟨cq15, kq15, q15a, q15b, q15c⟩ := isOf hZ e_q Ec
      obtain ⟨_, _, ⟨T15, L15, k15, n15⟩, -, X15, ⟨Lc15, hQ15, l15, y15, z15⟩, st15⟩ := X12.virtualBack hx (y := (⟨"com/example/lotwise/lotwise/model/LotMarket", "sells", "(D)Z"⟩ : MethodName)) (z := (⟨"com/example/lotwise/lotwise/model/LotMarket", "sells", "(D)Z"⟩ : MethodName)) hown (mvT hZ (hw _ (List.mem_of_getElem? (i := 36) rfl))) (mvT hZ (hw _ (List.mem_of_getElem? (i := 37) rfl))) (notFace_of_selects (args := #[]) (mvT hZ (hw _ (List.mem_of_getElem? (i := 39) rfl)))) (mvT hZ (hw _ (List.mem_of_getElem? (i := 39) rfl))) (mvT hZ (hw _ (List.mem_of_getElem? (i := 38) rfl))) (by decide) (backOf (W := 0) (rmS l Z a0 hw [] a11 lo bb 1 hq n0 Zc FB (hlo ▸ own_s3 bq g1 (by rw [Int64.lt_iff_toInt_lt, e4] at g2; omega))) hZ (hw _ (List.mem_of_getElem? (i := 40) rfl)) (hw _ (List.mem_of_getElem? (i := 8) rfl)) (by decide) (by decide)) q15a q15c (g := (mkF m 144 #[.val (.int p1), .val (.int p2), .val (.int p3), .val (.int p4), .val (.int bb), .val (.double (FP.i2d me)), .second, .val (.ref a11), .val (.int fl), .val (.long qq), .second, .val (.double lo), .second, .val (.int (1 : Int32))] [(.double lo), (.ref a11)])) rfl (by rw [hml]; rfl) (Steps.refl _) (argsL := [(.double lo)]) (rest := []) (lenOf pd__D_Z rfl) rfl (by show 2 * 0 + _ ≤ _; exact Nat.le_of_eq rfl) (hb hby at_144) (fun _ _ => ⟨rfl, e_q, (by decide : 1 + 0 ≤ _), (by decide : 3 + 0 ≤ _)⟩)
      dsimp only [Pt.U, Pt.locs, Pt.cells, Pt.slots] at X15 l15 y15 z15 st15 hQ15
      subst l15 y15 z15
      obtain ⟨rfl, N15, e15⟩ := hQ15
      have NN15 := Fr.app NN12 N15
      have cv4 : Steps p.tables e below (s₁.setTop (entryFrame m #[(.int p1), (.int p2), (.int p3), (.int p4)] maxLocals)) (T15.setTop (mkF m 157 #[.val (.int p1), .val (.int p2), .val (.int p3), .val (.int p4), .val (.int bb), .val (.double (FP.i2d me)), .second, .val (.ref a11), .val (.int fl), .val (.long qq), .second, .val (.double lo), .second, .val (.int (1 : Int32))] [(.int (1 : Int32))])) := cu3.trans (by
        refine XS.ifNo X12.here hx rfl (hb hby at_130) rfl (XT.ll_gt_f g2) ?_
        refine XT.iconstV X12.here hx rfl ((1 : Int32)) (hb hby at_133) (by decide) ?_
        refine XS.goto X12.here hx rfl (pc0 := 134) (pc' := 138) rfl (hb hby at_134) (by decide) (by decide) ?_
        refine XS.istore X12.here hx rfl (hb hby at_138) rfl (l' := #[.val (.int p1), .val (.int p2), .val (.int p3), .val (.int p4), .val (.int bb), .val (.double (FP.i2d me)), .second, .val (.ref a11), .val (.int fl), .val (.long qq), .second, .val (.double lo), .second, .val (.int (1 : Int32))]) rfl ?_
        refine XS.aload X12.here hx rfl (hb hby at_140) rfl rfl ?_
        refine XS.dload X12.here hx rfl (hb hby at_142) rfl ?_
        refine st15.trans ?_
        show Steps p.tables e below (T15.setTop (mkF m 147 #[.val (.int p1), .val (.int p2), .val (.int p3), .val (.int p4), .val (.int bb), .val (.double (FP.i2d me)), .second, .val (.ref a11), .val (.int fl), .val (.long qq), .second, .val (.double lo), .second, .val (.int (1 : Int32))] [(.int (1 : Int32))])) _
        refine XS.iload X15.here hx rfl (hb hby at_147) rfl ?_
        refine XS.icmpNo X15.here hx rfl (hb hby at_149) rfl (XT.ii_ne_f rfl) ?_
        refine XT.iconstV X15.here hx rfl ((1 : Int32)) (hb hby at_152) (by decide) ?_
        refine XS.goto X15.here hx rfl (pc0 := 153) (pc' := 157) rfl (hb hby at_153) (by decide) (by decide) ?_
        exact Steps.refl _)
      obtain ⟨fs, hr, hrun, hended, hW, hsame⟩ := X15.leave (v := some (.int (1 : Int32))) (fun h => by rw [Bd.returns] at h; cases h)
      refine ⟨_, _, cv4.trans ?_, hrun, hended, _, _, rfl, ?_, ⟨_, rfl⟩, hW, hsame.mono (by decide) (by decide)⟩
      · exact retN X15 hx (t := .boolean) Bd.returns (by simp) (hb hby at_157) hr
      · show Q0 h0 n0 _ T15.heap _
        exact ⟨rfl, NN15⟩
set_option maxRecDepth 65536 in
set_option maxHeartbeats 40000000 in
theorem comes_1 {Post : Tables → Env → Array Value → State → Outcome → State → Prop} (hpost : ∀ tb e args s v u, (limb_1_1.after args s (.returned v) u = true ∧ limb_1_2.after args s (.returned v) u = true ∧ True) → FrameEnd s (.returned v) u (Jvm.fieldLocs frame_1_writes args s ++ Jvm.arrayLocs frame_1_arrays args s ++ Jvm.staticLocs frame_1_statics s) 16 128 → Post tb e args s (.returned v) u) :
    ArmFor flags0 classFile x code maxLocals ret World_1 tables_1 room_1 Calls_1 rest_1 Pre_1 Post := by
  intro l hfl _ _ p e ha hc hk s m args below hf hA hF happ hP
  obtain ⟨hcalls, hrest, hpre⟩ := hP
  obtain ⟨-, -, -, hnamed, -, -, -, hat⟩ := (Spec.applies_iff hf).mp happ
  obtain ⟨hg, hn⟩ := and_e (Cond.before_iff.mp (show (Jvm.Cond.and given_1 narrow_1).before args s = true from hpre))
  obtain ⟨h1, hA0⟩ := and_e hg
  obtain ⟨hI0, hA1⟩ := and_e hA0
  obtain ⟨hI1, hA2⟩ := and_e hA1
  obtain ⟨hI2, hA3⟩ := and_e hA2
  obtain ⟨w0, w1, w2, w3, rfl⟩ : ∃ w0 w1 w2 w3 : Value, args = #[w0, w1, w2, w3] := by
    have hs : args.size = 4 := by simpa [Cond.value, given_1] using h1
    obtain ⟨L⟩ := args
    match L, hs with
    | [w0, w1, w2, w3], _ => exact ⟨w0, w1, w2, w3, rfl⟩
  have hw := fun d (hd : d ∈ tables_1) => atoms_spec (ws := Jvm.Cond.code x code maxLocals ret :: tables_1) hat d (List.mem_cons_of_mem _ hd)
  have hfit : Fit s := fun {y c} hc i hi => by
    obtain ⟨ha, rfl⟩ := Array.getElem?_eq_some_iff.mp hc
    have q := List.all_eq_true.mp ((Array.all_eq_true_iff_forall_mem.mp hF) _ (Array.getElem_mem ha)) i (List.mem_range.mpr hi)
    simpa [Array.getElem?_eq_getElem hi] using q
  obtain ⟨i0, ei0⟩ := is_v hI0
  obtain rfl : w0 = (.int i0) := Option.some.inj ei0
  obtain ⟨i1, ei1⟩ := is_v hI1
  obtain rfl : w1 = (.int i1) := Option.some.inj ei1
  obtain ⟨i2, ei2⟩ := is_v hI2
  obtain rfl : w2 = (.int i2) := Option.some.inj ei2
  obtain ⟨i3, ei3⟩ := is_v hA3
  obtain rfl : w3 = (.int i3) := Option.some.inj ei3
  obtain ⟨n, o, h1, h2, h3, _, L, rfl, ⟨rfl, N⟩, hq⟩ := rm0 l s _ hw tables_1 i0 i1 i2 i3  s.heap s.heap.size (Nat.le_refl _)  p e ha hc hk s m _ below hf ((Spec.applies_iff_loose hf).mp happ).1 ⟨rfl, State.Warmed39.refl s, rfl⟩ trivial
  refine ⟨n, _, h1, h2, h3, hpost _ _ _ _ _ _ ⟨Cond.after_iff.mpr rfl, Cond.after_iff.mpr (eq_i res_at (Term.int_eval (1)) rfl), trivial⟩ ⟨hq.1, hq.2.1, (hq.2.2.sift fun y hy => Or.inr (N y hy)).mono (by decide) (by decide)⟩⟩
theorem main_1_1 : Claimed_1_1 := comes_1 fun _ _ _ _ _ _ h hF => ⟨h.1, hF⟩
theorem main_1_2 : Claimed_1_2 := comes_1 fun _ _ _ _ _ _ h hF => ⟨h.2.1, hF⟩
end Jvm.Pilot.@@N@@
namespace Jvm.Pilot.@@N@@
open Jvm Jvm.ClassFile Sem Op Lib Jvm.Free Jvm.Stand Jvm.Pilot.@@N@@.Jvm.D
/-! MADE BY PROGRAM (witnessworld.py) out of the Statement's table words and the real class files: 16 classes; the members and pool entries that the words name. The judged class is class 1, her method 1. -/
namespace start1
open Jvm.ClassFile
def u (s : String) : CpInfo := .utf8 (stringToUtf16 s)
/-- a pool by its gaps: so many unusable entries, then the entry; so many at the end -/
def gap : Nat → List CpInfo → List CpInfo
  | 0, r => r
  | n + 1, r => .unusable :: gap n r
def poolList (es : List (Nat × CpInfo)) (last : Nat) : List CpInfo := es.foldr (fun e r => gap e.1 (e.2 :: r)) (gap last [])
def pool (es : List (Nat × CpInfo)) (last : Nat) : Array CpInfo := ⟨poolList es last⟩
def fileOf (pool : Array CpInfo) (this : Nat) (attrs : Array Attribute := #[]) (ms : Array MethodInfo := #[]) (fl : Nat := 33) (sup : Nat := 0) (ifs : Array Nat := #[]) (fds : Array FieldInfo := #[]) : ClassFile where
  minorVersion := 0
  majorVersion := 65
  constantPool := pool
  accessFlags := fl
  thisClass := this
  superClass := sup
  interfaces := ifs
  fields := fds
  methods := ms
  attributes := attrs
def plain (name : String) (sup : Option ClassId) : Class where
  name := name
  kind := .ordinary
  loader := none
  accessFlags := 33
  super := sup
  interfaces := #[]
  cf := none
  fields := #[]
  methods := #[]
  instanceTypes := #[]
  staticTypes := #[]
  resolved := #[]
  callSites := []
  init := .initialized
  statics := none
  mirror := none

def pool0 : Array CpInfo := pool [(5, u "<init>"), (0, u "()V"), (1, .class_ 10), (1, u "java/lang/Object")] 113

def k0c0 : Code := { maxStack := 0, maxLocals := 1, code := object_method_1_code, exceptionTable := #[], attributes := #[] }
def k0m0 : Method := { name := "<init>", desc := "()V", sig := { parameters := [], returnType := none }, accessFlags := 1, code := some k0c0 }
/-- java/lang/Object -/
def k0 : Class := { plain "java/lang/Object" none with
  accessFlags := 33
  interfaces := #[]
  cf := some (fileOf pool0 8 #[] #[{ accessFlags := 1, nameIndex := 5, descriptorIndex := 6, attributes := #[] }] 33 0 #[] #[])
  fields := #[]
  methods := #[k0m0]
  instanceTypes := #[]
  staticTypes := #[]
  resolved := Array.replicate 124 none
  statics := none }

def pool1 : Array CpInfo := pool [(2, .class_ 4), (1, u "java/lang/Object"), (0, u "<init>"), (0, u "()V"), (0, .integer 2147483647), (0, .methodref 9 10), (0, .class_ 11), (0, .nameAndType 12 13), (0, u "java/lang/Math"), (0, u "max"), (0, u "(II)I"), (0, .integer 65535), (0, .class_ 16), (0, u "com/example/lotwise/lotwise/model/LotMarket"), (0, .methodref 15 18), (0, .nameAndType 5 19), (0, u "(IDD)V"), (0, .long 4), (1, .double 4616189618054758400), (1, .methodref 15 25), (0, .nameAndType 26 27), (0, u "sells"), (0, u "(D)Z"), (0, .class_ 29), (0, u "com/example/lotwise/lotwise/model/LotMarketSellsPinLaw"), (2, u "law"), (0, u "(IIII)Z")] 3

def k1m0 : Method := { name := "<init>", desc := "()V", sig := { parameters := [], returnType := none }, accessFlags := 1, code := none }
def k1c1 : Code := { maxStack := 7, maxLocals := 14, code := code, exceptionTable := #[], attributes := #[] }
def k1m1 : Method := { name := "law", desc := "(IIII)Z", sig := { parameters := [.int, .int, .int, .int], returnType := some .boolean }, accessFlags := 9, code := some k1c1 }
/-- com/example/lotwise/lotwise/model/LotMarketSellsPinLaw -/
def k1 : Class := { plain "com/example/lotwise/lotwise/model/LotMarketSellsPinLaw" (some 0) with
  accessFlags := 49
  interfaces := #[]
  cf := some (fileOf pool1 28 #[] #[{ accessFlags := 1, nameIndex := 5, descriptorIndex := 6, attributes := #[] }, { accessFlags := 9, nameIndex := 32, descriptorIndex := 33, attributes := #[] }] 49 2 #[] #[])
  fields := #[]
  methods := #[k1m0, k1m1]
  instanceTypes := #[]
  staticTypes := #[]
  resolved := Array.replicate 37 none
  statics := none }

def pool2 : Array CpInfo := pool [(1, .class_ 2), (0, u "java/lang/Math"), (1, .class_ 6), (1, u "java/lang/Object"), (0, u "<init>"), (0, u "()V"), (5, u "(D)D"), (83, .class_ 100), (1, u "java/lang/Math$RandomNumberGeneratorHolder"), (23, u "abs"), (47, u "negativeZeroFloatBits"), (0, u "J"), (2, u "negativeZeroDoubleBits"), (21, u "max"), (46, u "$assertionsDisabled"), (0, u "Z"), (88, u "(II)I"), (2, u "twoToTheDoubleScaleDown"), (0, u "D"), (4, u "twoToTheDoubleScaleUp"), (9, u "E"), (3, u "PI"), (2, u "TAU"), (2, u "DEGREES_TO_RADIANS"), (0, u "RADIANS_TO_DEGREES")] 94

def k2m0 : Method := { name := "<init>", desc := "()V", sig := { parameters := [], returnType := none }, accessFlags := 2, code := none }
def k2c1 : Code := { maxStack := 4, maxLocals := 2, code := jdk_29_method_64_code, exceptionTable := #[], attributes := #[] }
def k2m1 : Method := { name := "abs", desc := "(D)D", sig := { parameters := [.double], returnType := some .double }, accessFlags := 9, code := some k2c1 }
def k2c2 : Code := { maxStack := 2, maxLocals := 2, code := jdk_29_method_65_code, exceptionTable := #[], attributes := #[] }
def k2m2 : Method := { name := "max", desc := "(II)I", sig := { parameters := [.int, .int], returnType := some .int }, accessFlags := 9, code := some k2c2 }
/-- java/lang/Math -/
def k2 : Class := { plain "java/lang/Math" (some 0) with
  accessFlags := 49
  interfaces := #[]
  cf := some (fileOf pool2 1 #[.nestMembers #[98]] #[{ accessFlags := 2, nameIndex := 7, descriptorIndex := 8, attributes := #[] }, { accessFlags := 9, nameIndex := 124, descriptorIndex := 14, attributes := #[] }, { accessFlags := 9, nameIndex := 198, descriptorIndex := 335, attributes := #[] }] 49 4 #[] #[{ accessFlags := 25, nameIndex := 354, descriptorIndex := 339, attributes := #[] }, { accessFlags := 25, nameIndex := 358, descriptorIndex := 339, attributes := #[] }, { accessFlags := 25, nameIndex := 361, descriptorIndex := 339, attributes := #[] }, { accessFlags := 26, nameIndex := 364, descriptorIndex := 339, attributes := #[] }, { accessFlags := 26, nameIndex := 365, descriptorIndex := 339, attributes := #[] }, { accessFlags := 26, nameIndex := 172, descriptorIndex := 173, attributes := #[] }, { accessFlags := 26, nameIndex := 176, descriptorIndex := 173, attributes := #[] }, { accessFlags := 8, nameIndex := 344, descriptorIndex := 339, attributes := #[] }, { accessFlags := 8, nameIndex := 338, descriptorIndex := 339, attributes := #[] }, { accessFlags := 4120, nameIndex := 245, descriptorIndex := 246, attributes := #[] }])
  fields := #[{ name := "E", type := .double, accessFlags := 25, slot := 0, constantValue := 0 }, { name := "PI", type := .double, accessFlags := 25, slot := 1, constantValue := 0 }, { name := "TAU", type := .double, accessFlags := 25, slot := 2, constantValue := 0 }, { name := "DEGREES_TO_RADIANS", type := .double, accessFlags := 26, slot := 3, constantValue := 0 }, { name := "RADIANS_TO_DEGREES", type := .double, accessFlags := 26, slot := 4, constantValue := 0 }, { name := "negativeZeroFloatBits", type := .long, accessFlags := 26, slot := 5, constantValue := 0 }, { name := "negativeZeroDoubleBits", type := .long, accessFlags := 26, slot := 6, constantValue := 0 }, { name := "twoToTheDoubleScaleUp", type := .double, accessFlags := 8, slot := 7, constantValue := 0 }, { name := "twoToTheDoubleScaleDown", type := .double, accessFlags := 8, slot := 8, constantValue := 0 }, { name := "$assertionsDisabled", type := .boolean, accessFlags := 4120, slot := 9, constantValue := 0 }]
  methods := #[k2m0, k2m1, k2m2]
  instanceTypes := #[]
  staticTypes := #[.double, .double, .double, .double, .double, .long, .long, .double, .double, .boolean]
  resolved := Array.replicate 460 none
  statics := none }

def pool3 : Array CpInfo := pool [(1, .methodref 2 3), (0, .class_ 4), (0, .nameAndType 5 6), (0, u "java/lang/Object"), (0, u "<init>"), (0, u "()V"), (0, .class_ 8), (0, u "java/lang/Record")] 13

def k3c0 : Code := { maxStack := 1, maxLocals := 1, code := jdk_30_method_1_code, exceptionTable := #[], attributes := #[] }
def k3m0 : Method := { name := "<init>", desc := "()V", sig := { parameters := [], returnType := none }, accessFlags := 4, code := some k3c0 }
/-- java/lang/Record -/
def k3 : Class := { plain "java/lang/Record" (some 0) with
  accessFlags := 1057
  interfaces := #[]
  cf := some (fileOf pool3 7 #[] #[{ accessFlags := 4, nameIndex := 5, descriptorIndex := 6, attributes := #[] }] 1057 2 #[] #[])
  fields := #[]
  methods := #[k3m0]
  instanceTypes := #[]
  staticTypes := #[]
  resolved := Array.replicate 22 none
  statics := none }

def pool4 : Array CpInfo := pool [(1, .methodref 2 3), (0, .class_ 4), (0, .nameAndType 5 6), (0, u "java/lang/Record"), (0, u "<init>"), (0, u "()V"), (12, .methodref 20 21), (0, .class_ 22), (0, .nameAndType 23 24), (0, u "java/lang/Double"), (0, u "isFinite"), (0, u "(D)Z"), (1, .fieldref 27 28), (0, .class_ 29), (0, .nameAndType 30 31), (0, u "com/example/lotwise/lotwise/model/LotMarket"), (0, u "bidders"), (0, u "I"), (0, .fieldref 27 33), (0, .nameAndType 34 35), (0, u "mean"), (0, u "D"), (0, .fieldref 27 37), (0, .nameAndType 38 35), (0, u "spread"), (14, u "(IDD)V"), (4, u "sells")] 40

def k4c0 : Code := { maxStack := 6, maxLocals := 6, code := prog_12_method_1_code, exceptionTable := #[], attributes := #[] }
def k4m0 : Method := { name := "<init>", desc := "(IDD)V", sig := { parameters := [.int, .double, .double], returnType := none }, accessFlags := 1, code := some k4c0 }
def k4c1 : Code := { maxStack := 4, maxLocals := 3, code := prog_12_method_2_code, exceptionTable := #[], attributes := #[] }
def k4m1 : Method := { name := "sells", desc := "(D)Z", sig := { parameters := [.double], returnType := some .boolean }, accessFlags := 1, code := some k4c1 }
/-- com/example/lotwise/lotwise/model/LotMarket -/
def k4 : Class := { plain "com/example/lotwise/lotwise/model/LotMarket" (some 3) with
  accessFlags := 49
  interfaces := #[]
  cf := some (fileOf pool4 27 #[] #[{ accessFlags := 1, nameIndex := 5, descriptorIndex := 53, attributes := #[] }, { accessFlags := 1, nameIndex := 58, descriptorIndex := 24, attributes := #[] }] 49 2 #[] #[{ accessFlags := 18, nameIndex := 30, descriptorIndex := 31, attributes := #[] }, { accessFlags := 18, nameIndex := 34, descriptorIndex := 35, attributes := #[] }, { accessFlags := 18, nameIndex := 38, descriptorIndex := 35, attributes := #[] }])
  fields := #[{ name := "bidders", type := .int, accessFlags := 18, slot := 0, constantValue := 0 }, { name := "mean", type := .double, accessFlags := 18, slot := 1, constantValue := 0 }, { name := "spread", type := .double, accessFlags := 18, slot := 2, constantValue := 0 }]
  methods := #[k4m0, k4m1]
  instanceTypes := #[.int, .double, .double]
  staticTypes := #[]
  resolved := Array.replicate 99 none
  statics := none }

def pool5 : Array CpInfo := pool [(1, .class_ 2), (0, u "java/io/Serializable"), (0, .class_ 4), (0, u "java/lang/Object")] 2

/-- java/io/Serializable -/
def k5 : Class := { plain "java/io/Serializable" (some 0) with
  accessFlags := 1537
  interfaces := #[]
  cf := some (fileOf pool5 1 #[] #[] 1537 3 #[] #[])
  fields := #[]
  methods := #[]
  instanceTypes := #[]
  staticTypes := #[]
  resolved := Array.replicate 7 none
  statics := none }

def pool6 : Array CpInfo := pool [(2, .class_ 4), (1, u "java/lang/Object"), (0, u "<init>"), (0, u "()V"), (1, .class_ 10), (1, u "java/lang/Number"), (2, .class_ 14), (0, u "java/io/Serializable"), (0, u "serialVersionUID"), (0, u "J")] 20

def k6m0 : Method := { name := "<init>", desc := "()V", sig := { parameters := [], returnType := none }, accessFlags := 1, code := none }
/-- java/lang/Number -/
def k6 : Class := { plain "java/lang/Number" (some 0) with
  accessFlags := 1057
  interfaces := #[5]
  cf := some (fileOf pool6 8 #[] #[{ accessFlags := 1, nameIndex := 5, descriptorIndex := 6, attributes := #[] }] 1057 2 #[13] #[{ accessFlags := 26, nameIndex := 15, descriptorIndex := 16, attributes := #[] }])
  fields := #[{ name := "serialVersionUID", type := .long, accessFlags := 26, slot := 0, constantValue := 0 }]
  methods := #[k6m0]
  instanceTypes := #[]
  staticTypes := #[.long]
  resolved := Array.replicate 37 none
  statics := none }

def pool7 : Array CpInfo := pool [(1, .class_ 2), (0, u "java/lang/Comparable"), (0, .class_ 4), (0, u "java/lang/Object")] 7

/-- java/lang/Comparable -/
def k7 : Class := { plain "java/lang/Comparable" (some 0) with
  accessFlags := 1537
  interfaces := #[]
  cf := some (fileOf pool7 1 #[] #[] 1537 3 #[] #[])
  fields := #[]
  methods := #[]
  instanceTypes := #[]
  staticTypes := #[]
  resolved := Array.replicate 12 none
  statics := none }

def pool8 : Array CpInfo := pool [(1, .class_ 2), (0, u "java/lang/constant/Constable"), (0, .class_ 4), (0, u "java/lang/Object")] 6

/-- java/lang/constant/Constable -/
def k8 : Class := { plain "java/lang/constant/Constable" (some 0) with
  accessFlags := 1537
  interfaces := #[]
  cf := some (fileOf pool8 1 #[] #[] 1537 3 #[] #[])
  fields := #[]
  methods := #[]
  instanceTypes := #[]
  staticTypes := #[]
  resolved := Array.replicate 11 none
  statics := none }

def pool9 : Array CpInfo := pool [(1, .class_ 2), (0, u "java/lang/constant/ConstantDesc"), (0, .class_ 4), (0, u "java/lang/Object")] 32

/-- java/lang/constant/ConstantDesc -/
def k9 : Class := { plain "java/lang/constant/ConstantDesc" (some 0) with
  accessFlags := 1537
  interfaces := #[]
  cf := some (fileOf pool9 1 #[] #[] 1537 3 #[] #[])
  fields := #[]
  methods := #[]
  instanceTypes := #[]
  staticTypes := #[]
  resolved := Array.replicate 37 none
  statics := none }

def pool10 : Array CpInfo := pool [(1, .class_ 2), (0, u "java/lang/Double"), (10, u "isFinite"), (0, u "(D)Z"), (8, .class_ 25), (1, u "java/lang/Math"), (12, .methodref 23 39), (0, .nameAndType 40 41), (0, u "abs"), (0, u "(D)D"), (69, .double 9218868437227405311), (2, .class_ 116), (1, u "java/lang/Number"), (3, u "value"), (0, u "D"), (51, u "TYPE"), (0, u "Ljava/lang/Class;"), (0, .class_ 176), (0, u "java/lang/Comparable"), (0, .class_ 178), (0, u "java/lang/constant/Constable"), (0, .class_ 180), (0, u "java/lang/constant/ConstantDesc"), (0, u "POSITIVE_INFINITY"), (3, u "NEGATIVE_INFINITY"), (2, u "NaN"), (2, u "MAX_VALUE"), (0, u "MIN_NORMAL"), (0, u "MIN_VALUE"), (2, u "SIZE"), (0, u "I"), (1, u "PRECISION"), (1, u "MAX_EXPONENT"), (1, u "MIN_EXPONENT"), (1, u "BYTES"), (3, u "serialVersionUID"), (0, u "J")] 79

def k10c0 : Code := { maxStack := 4, maxLocals := 2, code := jdk_117_method_8_code, exceptionTable := #[], attributes := #[] }
def k10m0 : Method := { name := "isFinite", desc := "(D)Z", sig := { parameters := [.double], returnType := some .boolean }, accessFlags := 9, code := some k10c0 }
/-- java/lang/Double -/
def k10 : Class := { plain "java/lang/Double" (some 6) with
  accessFlags := 49
  interfaces := #[7, 8, 9]
  cf := some (fileOf pool10 1 #[] #[{ accessFlags := 9, nameIndex := 13, descriptorIndex := 14, attributes := #[] }] 49 114 #[175, 177, 179] #[{ accessFlags := 25, nameIndex := 181, descriptorIndex := 121, attributes := #[] }, { accessFlags := 25, nameIndex := 185, descriptorIndex := 121, attributes := #[] }, { accessFlags := 25, nameIndex := 188, descriptorIndex := 121, attributes := #[] }, { accessFlags := 25, nameIndex := 191, descriptorIndex := 121, attributes := #[] }, { accessFlags := 25, nameIndex := 192, descriptorIndex := 121, attributes := #[] }, { accessFlags := 25, nameIndex := 193, descriptorIndex := 121, attributes := #[] }, { accessFlags := 25, nameIndex := 196, descriptorIndex := 197, attributes := #[] }, { accessFlags := 25, nameIndex := 199, descriptorIndex := 197, attributes := #[] }, { accessFlags := 25, nameIndex := 201, descriptorIndex := 197, attributes := #[] }, { accessFlags := 25, nameIndex := 203, descriptorIndex := 197, attributes := #[] }, { accessFlags := 25, nameIndex := 205, descriptorIndex := 197, attributes := #[] }, { accessFlags := 25, nameIndex := 173, descriptorIndex := 174, attributes := #[] }, { accessFlags := 18, nameIndex := 120, descriptorIndex := 121, attributes := #[] }, { accessFlags := 26, nameIndex := 209, descriptorIndex := 210, attributes := #[] }])
  fields := #[{ name := "POSITIVE_INFINITY", type := .double, accessFlags := 25, slot := 0, constantValue := 0 }, { name := "NEGATIVE_INFINITY", type := .double, accessFlags := 25, slot := 1, constantValue := 0 }, { name := "NaN", type := .double, accessFlags := 25, slot := 2, constantValue := 0 }, { name := "MAX_VALUE", type := .double, accessFlags := 25, slot := 3, constantValue := 0 }, { name := "MIN_NORMAL", type := .double, accessFlags := 25, slot := 4, constantValue := 0 }, { name := "MIN_VALUE", type := .double, accessFlags := 25, slot := 5, constantValue := 0 }, { name := "SIZE", type := .int, accessFlags := 25, slot := 6, constantValue := 0 }, { name := "PRECISION", type := .int, accessFlags := 25, slot := 7, constantValue := 0 }, { name := "MAX_EXPONENT", type := .int, accessFlags := 25, slot := 8, constantValue := 0 }, { name := "MIN_EXPONENT", type := .int, accessFlags := 25, slot := 9, constantValue := 0 }, { name := "BYTES", type := .int, accessFlags := 25, slot := 10, constantValue := 0 }, { name := "TYPE", type := (.object "java/lang/Class"), accessFlags := 25, slot := 11, constantValue := 0 }, { name := "value", type := .double, accessFlags := 18, slot := 0, constantValue := 0 }, { name := "serialVersionUID", type := .long, accessFlags := 26, slot := 12, constantValue := 0 }]
  methods := #[k10m0]
  instanceTypes := #[.double]
  staticTypes := #[.double, .double, .double, .double, .double, .double, .int, .int, .int, .int, .int, (.object "java/lang/Class"), .long]
  resolved := Array.replicate 290 none
  statics := none }

def pool11 : Array CpInfo := pool [(1, u "java/lang/Cloneable"), (0, .class_ 1), (0, u "java/lang/Object"), (0, .class_ 3)] 3

/-- java/lang/Cloneable -/
def k11 : Class := { plain "java/lang/Cloneable" (some 0) with
  accessFlags := 1537
  interfaces := #[]
  cf := some (fileOf pool11 2 #[] #[] 1537 4 #[] #[])
  fields := #[]
  methods := #[]
  instanceTypes := #[]
  staticTypes := #[]
  resolved := Array.replicate 8 none
  statics := none }

/-- the primitive byte -/
def k12 : Class := { plain "byte" none with kind := .primitive 'B', accessFlags := 0x411 }
/-- [B -/
def k13 : Class := { plain "[B" (some 0) with kind := .array 12 .byte, interfaces := #[11, 5], accessFlags := 1041 }

/-- the primitive int -/
def k14 : Class := { plain "int" none with kind := .primitive 'I', accessFlags := 0x411 }
/-- [I -/
def k15 : Class := { plain "[I" (some 0) with kind := .array 14 .int, interfaces := #[11, 5], accessFlags := 1041 }

def heap : Heap := #[]
def classes : Array Class := #[k0, k1, k2, k3, k4, k5, k6, k7, k8, k9, k10, k11, k12, k13, k14, k15]
def interned : List (Array UInt16 × Addr) := []
def slotsUsed : Nat := 0
def theMethod : MethodId := ⟨1, 1⟩
def args0 : Array Value := #[.int 5, .int 9, .int 1, .int 65]
def aboutOver (below : List Frame) : State where
  vm := { classes := classes, interned := interned.toArray }
  heap := heap
  slotsUsed := slotsUsed
  threads := #[{ frames := .invoking theMethod args0 :: below }]
def below0 : List Frame := [.native { method := ⟨0, 0⟩, args := #[] }]
def about1 : State := aboutOver below0
def p0 : Program := .bare "" "" ""
def e0 : Env := launch0.env 0 0 0
theorem w_frames : about1.frames = Frame.invoking theMethod args0 :: below0 := rfl
set_option maxRecDepth 65536 in
theorem w_args : argsFit about1.vm theMethod args0 = true := by decide +kernel
set_option maxRecDepth 65536 in
theorem w_heap : heapFits about1 = true := by decide +kernel
set_option maxRecDepth 65536 in
theorem w_runnable : about1.curStatus? = some .runnable := by decide +kernel
set_option maxRecDepth 65536 in
theorem w_alone : about1.alone = true := by decide +kernel
set_option maxRecDepth 65536 in
theorem w_named : about1.methodNamed? x = some theMethod := by decide +kernel
set_option maxRecDepth 65536 in
theorem w_hears : about1.hears theMethod below0 = true := by decide +kernel
set_option maxRecDepth 65536 in
theorem w_ripe : about1.ripe theMethod args0 below0 = true := by decide +kernel
theorem w_running : about1.status = .running := rfl
set_option maxRecDepth 65536 in
theorem w_room : about1.hasRoom e0.platform room_1 = true :=
  launch0.hasRoom_least _ room_1 (by decide +kernel) (by decide +kernel) (by decide +kernel) (by decide +kernel) (by decide +kernel) (by decide +kernel)
theorem allAtoms_all (ts : List Jvm.Cond) (a : Array Jvm.Value) (st : Jvm.State) : (allAtoms ts).before a st = ts.all (fun c => c.before a st) := by
  induction ts with
  | nil => rfl
  | cons c t ih =>
    show (Jvm.Cond.and c (allAtoms t)).before a st = _
    rw [Jvm.Cond.before_and, ih, List.all_cons]
def words1 : List Jvm.Cond := Jvm.Cond.code x code maxLocals ret :: tables_1
/-- a 'code' word, met by the world's own term for the bytes: nothing is compared byte by byte -/
theorem code_word {y : MethodName} {bytes : ByteArray} {mx : Nat} {rt : Option FieldType} {a : Array Value} {s : State} {m : MethodId} {meth : Method} {c : Code} (h1 : s.methodNamed? y = some m) (h2 : s.vm.method? m = some meth) (h3 : meth.code = some c) (h4 : c.code = bytes)
    (h5 : (c.maxLocals == mx && c.exceptionTable.isEmpty && decide (c.maxStack ≤ mostOperands) && decide (meth.sig.returnType = rt) && !meth.locks && decide (parseMethodDescriptor y.desc = some meth.sig)) = true) : (Jvm.Cond.code y bytes mx rt).before a s = true := by
  simp only [Bool.and_eq_true, beq_iff_eq, Bool.not_eq_true', decide_eq_true_eq] at h5
  obtain ⟨⟨⟨⟨⟨g1, g2⟩, g3⟩, g4⟩, g5⟩, g6⟩ := h5
  simp [Cond.before, Cond.holds, Cond.value, h1, h2, h3, h4, g1, g2, g3, g4, g5, g6]
def isCode : Jvm.Cond → Bool
  | .code _ _ _ _ => true
  | _ => false
theorem all_split {L : List Jvm.Cond} {P : Jvm.Cond → Bool} (h1 : L.all (fun c => isCode c || P c) = true) (h2 : ∀ c ∈ L.filter isCode, P c = true) : L.all P = true := by
  refine List.all_eq_true.mpr fun c hc => ?_
  have h := List.all_eq_true.mp h1 c hc
  rcases Bool.eq_false_or_eq_true (isCode c) with hi | hi
  · exact h2 c (List.mem_filter.mpr ⟨hc, hi⟩)
  · simpa [hi] using h
set_option maxRecDepth 65536 in
theorem w_c0 : (Jvm.Cond.code x code maxLocals ret).before args0 about1 = true := code_word (m := ⟨1, 1⟩) (meth := k1m1) (c := k1c1) (by decide +kernel) rfl rfl rfl (by decide +kernel)
set_option maxRecDepth 65536 in
theorem w_c1 : (Jvm.Cond.code ({ cls := "java/lang/Math", name := "max", desc := "(II)I" } : Jvm.MethodName) jdk_29_method_65_code (2 : Nat) (Option.some Jvm.ClassFile.FieldType.int)).before args0 about1 = true := code_word (m := ⟨2, 2⟩) (meth := k2m2) (c := k2c2) (by decide +kernel) rfl rfl rfl (by decide +kernel)
set_option maxRecDepth 65536 in
theorem w_c2 : (Jvm.Cond.code ({ cls := "com/example/lotwise/lotwise/model/LotMarket", name := "<init>", desc := "(IDD)V" } : Jvm.MethodName) prog_12_method_1_code (6 : Nat) (Option.none : Option Jvm.ClassFile.FieldType)).before args0 about1 = true := code_word (m := ⟨4, 0⟩) (meth := k4m0) (c := k4c0) (by decide +kernel) rfl rfl rfl (by decide +kernel)
set_option maxRecDepth 65536 in
theorem w_c3 : (Jvm.Cond.code ({ cls := "java/lang/Record", name := "<init>", desc := "()V" } : Jvm.MethodName) jdk_30_method_1_code (1 : Nat) (Option.none : Option Jvm.ClassFile.FieldType)).before args0 about1 = true := code_word (m := ⟨3, 0⟩) (meth := k3m0) (c := k3c0) (by decide +kernel) rfl rfl rfl (by decide +kernel)
set_option maxRecDepth 65536 in
theorem w_c4 : (Jvm.Cond.code ({ cls := "java/lang/Object", name := "<init>", desc := "()V" } : Jvm.MethodName) object_method_1_code (1 : Nat) (Option.none : Option Jvm.ClassFile.FieldType)).before args0 about1 = true := code_word (m := ⟨0, 0⟩) (meth := k0m0) (c := k0c0) (by decide +kernel) rfl rfl rfl (by decide +kernel)
set_option maxRecDepth 65536 in
theorem w_c5 : (Jvm.Cond.code ({ cls := "java/lang/Double", name := "isFinite", desc := "(D)Z" } : Jvm.MethodName) jdk_117_method_8_code (2 : Nat) (Option.some Jvm.ClassFile.FieldType.boolean)).before args0 about1 = true := code_word (m := ⟨10, 0⟩) (meth := k10m0) (c := k10c0) (by decide +kernel) rfl rfl rfl (by decide +kernel)
set_option maxRecDepth 65536 in
theorem w_c6 : (Jvm.Cond.code ({ cls := "java/lang/Math", name := "abs", desc := "(D)D" } : Jvm.MethodName) jdk_29_method_64_code (2 : Nat) (Option.some Jvm.ClassFile.FieldType.double)).before args0 about1 = true := code_word (m := ⟨2, 1⟩) (meth := k2m1) (c := k2c1) (by decide +kernel) rfl rfl rfl (by decide +kernel)
set_option maxRecDepth 65536 in
theorem w_c7 : (Jvm.Cond.code ({ cls := "com/example/lotwise/lotwise/model/LotMarket", name := "sells", desc := "(D)Z" } : Jvm.MethodName) prog_12_method_2_code (3 : Nat) (Option.some Jvm.ClassFile.FieldType.boolean)).before args0 about1 = true := code_word (m := ⟨4, 1⟩) (meth := k4m1) (c := k4c1) (by decide +kernel) rfl rfl rfl (by decide +kernel)
def codes1 : List Jvm.Cond := [Jvm.Cond.code x code maxLocals ret, Jvm.Cond.code ({ cls := "java/lang/Math", name := "max", desc := "(II)I" } : Jvm.MethodName) jdk_29_method_65_code (2 : Nat) (Option.some Jvm.ClassFile.FieldType.int), Jvm.Cond.code ({ cls := "com/example/lotwise/lotwise/model/LotMarket", name := "<init>", desc := "(IDD)V" } : Jvm.MethodName) prog_12_method_1_code (6 : Nat) (Option.none : Option Jvm.ClassFile.FieldType), Jvm.Cond.code ({ cls := "java/lang/Record", name := "<init>", desc := "()V" } : Jvm.MethodName) jdk_30_method_1_code (1 : Nat) (Option.none : Option Jvm.ClassFile.FieldType), Jvm.Cond.code ({ cls := "java/lang/Object", name := "<init>", desc := "()V" } : Jvm.MethodName) object_method_1_code (1 : Nat) (Option.none : Option Jvm.ClassFile.FieldType), Jvm.Cond.code ({ cls := "java/lang/Double", name := "isFinite", desc := "(D)Z" } : Jvm.MethodName) jdk_117_method_8_code (2 : Nat) (Option.some Jvm.ClassFile.FieldType.boolean), Jvm.Cond.code ({ cls := "java/lang/Math", name := "abs", desc := "(D)D" } : Jvm.MethodName) jdk_29_method_64_code (2 : Nat) (Option.some Jvm.ClassFile.FieldType.double), Jvm.Cond.code ({ cls := "com/example/lotwise/lotwise/model/LotMarket", name := "sells", desc := "(D)Z" } : Jvm.MethodName) prog_12_method_2_code (3 : Nat) (Option.some Jvm.ClassFile.FieldType.boolean)]
set_option maxRecDepth 65536 in
theorem codes_eq : words1.filter isCode = codes1 := rfl
theorem w_codes : ∀ c ∈ words1.filter isCode, c.before args0 about1 = true := by
  rw [codes_eq]
  intro c hc
  simp only [codes1, List.mem_cons, List.not_mem_nil, or_false] at hc
  rcases hc with rfl | rfl | rfl | rfl | rfl | rfl | rfl | rfl
  · exact w_c0
  · exact w_c1
  · exact w_c2
  · exact w_c3
  · exact w_c4
  · exact w_c5
  · exact w_c6
  · exact w_c7
set_option maxRecDepth 65536 in
theorem w_t1 : (words1.take 24).all (fun c => isCode c || c.before args0 about1) = true := by decide +kernel
set_option maxRecDepth 65536 in
theorem w_t2 : (words1.drop 24).all (fun c => isCode c || c.before args0 about1) = true := by decide +kernel
theorem w_tables : (allAtoms (Jvm.Cond.code x code maxLocals ret :: tables_1)).before args0 about1 = true := by
  rw [allAtoms_all]
  show words1.all (fun c => c.before args0 about1) = true
  refine all_split ?_ w_codes
  rw [← List.take_append_drop 24 words1, List.all_append, w_t1, w_t2]
  rfl
set_option maxRecDepth 65536 in
theorem w_case : (Jvm.Cond.and given_1 narrow_1).before args0 about1 = true := by decide +kernel
theorem w_applies : (headSpec (Jvm.Cond.code x code maxLocals ret :: tables_1) room_1).applies x e0.platform about1 = true :=
  (Spec.applies_iff w_frames).mpr ⟨w_running, w_runnable, w_alone, w_named, w_hears, w_ripe, w_room, w_tables⟩
theorem atStart : AtStart classFile x code maxLocals ret World_1 tables_1 room_1 Calls_1 rest_1 Pre_1 launch0 p0 e0 about1 theMethod args0 below0 :=
  ⟨lists_1, trivial, launch0.admits_env _ _ _, launch0.least_env, fairChoices_fair.cas, fairChoices_fair.clock, w_frames, w_args, w_heap, w_applies, trivial, trivial, w_case⟩
end start1
theorem witness_1 : WitnessClaimed_1 := ⟨start1.p0, start1.e0, start1.about1, start1.theMethod, start1.args0, start1.below0, start1.atStart⟩
end Jvm.Pilot.@@N@@
