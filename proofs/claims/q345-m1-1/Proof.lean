import JvmDerived
import JvmDerived.Pilot.@@N@@Statement
import JvmDerived.Pilot.@@N@@Code
set_option linter.unusedVariables false
set_option linter.unusedSimpArgs false

namespace Jvm.RoadKit
open Sem ClassFile Op Lib Jvm.Stand Jvm.Free Jvm.LawKit
section New
variable {p : Program} {l : Launch} {e : Env} {R : Room} {s : State} {m : MethodId} {args : Array Value} {below : List Frame} {meth : Method} {c : Code} {T : State} {locs : List Loc} {cells slots : Nat}
theorem retI (X : Stand p l e R s m args below meth c T locs cells slots) (hx : p.tables.exec = Jvm.exec) {pc : Nat} {Ls : Array Slot} {z : Int32} {rest : List Value} (hret : meth.sig.returnType = some .int) (hd : decode c.code pc = .ok (.ireturn, 1)) {fs : List Frame}
    (hl : ∀ (f : JFrame) (acts : List Action), f.method = m → f.locked = none → f.entered = [] → (doReturn e (T.setTop f) acts (some (.int z))).1 = T.setFrames fs) : Steps p.tables e below (T.setTop (mkF m pc Ls (.int z :: rest))) (T.setFrames fs) := by
  have hm' : T.vm.method? m = some meth := X.method'
  have hn : narrow .int (.int z) = .int z := rfl
  show Steps p.tables e below (T.setTop { method := m, pc := pc, locals := Ls, stack := _ :: rest, locked := none }) _
  jvm_step X.here [X.here.top, hx, hd, hm', hret, hn]
  first | (intro acts; rw [hl _ acts rfl rfl rfl]) | rw [hl _ _ rfl rfl rfl]
  exact Steps.refl _
theorem own_pack {n0 : Nat} (X : Stand p l e R s m args below meth c T locs cells slots) (N : Fr n0 locs) : ∃ L, Stand p l e R s m args below meth c T L cells slots ∧ Fr n0 L := ⟨_, X, N⟩
theorem retD (X : Stand p l e R s m args below meth c T locs cells slots) (hx : p.tables.exec = Jvm.exec) {pc : Nat} {Ls : Array Slot} {z : UInt64} {rest : List Value} (hret : meth.sig.returnType = some .double) (hd : decode c.code pc = .ok (.dreturn, 1)) {fs : List Frame}
    (hl : ∀ (f : JFrame) (acts : List Action), f.method = m → f.locked = none → f.entered = [] → (doReturn e (T.setTop f) acts (some (.double z))).1 = T.setFrames fs) : Steps p.tables e below (T.setTop (mkF m pc Ls (.double z :: rest))) (T.setFrames fs) := by
  have hm' : T.vm.method? m = some meth := X.method'
  have hn : narrow .double (.double z) = .double z := rfl
  show Steps p.tables e below (T.setTop { method := m, pc := pc, locals := Ls, stack := _ :: rest, locked := none }) _
  jvm_step X.here [X.here.top, hx, hd, hm', hret, hn]
  first | (intro acts; rw [hl _ acts rfl rfl rfl]) | rw [hl _ _ rfl rfl rfl]
  exact Steps.refl _
end New
end Jvm.RoadKit

namespace Jvm.Pilot.@@N@@
open Jvm Jvm.ClassFile Sem Op Lib Jvm.Free Jvm.Stand Jvm.LawKit Jvm.RoadKit Bundle Jvm.Pilot.@@N@@.Jvm.D

theorem own_nn {i : Int} {a : UInt64} (h : FP.Core.DInt i a) : Fl.NoNaN64 a := Fl.val64_no.mpr fun q => by
  have h' : FP.Core.Whole i (FP.Core.val64 a) := h
  rw [q] at h'; exact h'
theorem own_zero : FP.Core.DInt 0 (0 : UInt64) := by
  show FP.Core.Whole 0 (FP.Core.val64 0)
  rw [show FP.Core.val64 0 = .fin false 0 FP.Core.b64.qmin from by decide +kernel]
  show FP.Core.signed false (0 * _) = 0 * _
  simp [FP.Core.signed]
theorem own_eq0 {i j : Int} {a b : UInt64} (ha : FP.Core.DInt i a) (hb : FP.Core.DInt j b) (h : i = j) (o : CmpOp) : cmpValue (FP.dcmp a b) o = 0 := by
  rw [show FP.dcmp a b = some (compare i j) from FP.Core.dcmp_int ha hb, h, FP.Core.compare_self_int]; rfl
def own_P4 (vs : List Value) : Prop := vs.length = 4 ∧ ∀ k, ∃ y : Int32, vs.getD k (.int (0 : Int32)) = .int y ∧ 0 ≤ y.toInt ∧ y.toInt ≤ 3
theorem own_P4.start : own_P4 [(.int (0 : Int32)), (.int (1 : Int32)), (.int (2 : Int32)), (.int (3 : Int32))] := ⟨rfl, fun k => by
  match k with
  | 0 => exact ⟨0, rfl, by decide, by decide⟩
  | 1 => exact ⟨1, rfl, by decide, by decide⟩
  | 2 => exact ⟨2, rfl, by decide, by decide⟩
  | 3 => exact ⟨3, rfl, by decide, by decide⟩
  | k + 4 => exact ⟨0, rfl, by decide, by decide⟩⟩
theorem own_P4.set {vs : List Value} (h : own_P4 vs) (i : Nat) {y : Int32} (h1 : 0 ≤ y.toInt) (h2 : y.toInt ≤ 3) : own_P4 (vs.set i (.int y)) := by
  refine ⟨by rw [List.length_set]; exact h.1, fun k => ?_⟩
  obtain ⟨z, e, r⟩ := h.2 k
  by_cases q : i = k
  · subst q
    by_cases l : i < vs.length
    · exact ⟨y, by simp [List.getD_eq_getElem?_getD, l], h1, h2⟩
    · exact ⟨z, by rw [← e]; simp [List.getD_eq_getElem?_getD, List.getElem?_set, l], r⟩
  · exact ⟨z, by rw [← e]; simp [List.getD_eq_getElem?_getD, List.getElem?_set, q], r⟩
theorem own_ix {j : Int32} (h1 : 0 ≤ j.toInt) (h2 : j.toInt ≤ 3) : ¬ j < (0 : Int32) ∧ j < (4 : Int32) := by
  rw [Int32.lt_iff_toInt_lt, Int32.lt_iff_toInt_lt]
  have a : (0 : Int32).toInt = 0 := rfl
  have b : (4 : Int32).toInt = 4 := rfl
  omega
theorem own_nat {j : Int32} (h1 : 0 ≤ j.toInt) (h2 : j.toInt ≤ 3) : j.toNatClampNeg < 4 := by
  have := nat_of (j := j) (by rw [Int32.lt_iff_toInt_lt]; have a : (0 : Int32).toInt = 0 := rfl; omega)
  omega
/-- what a place of the dense vector holds -/
def own_at (d0 d1 d2 d3 : Int32) (j : Int32) : Int32 := match j.toNatClampNeg with | 0 => d0 | 1 => d1 | 2 => d2 | _ => d3
theorem own_at_i {d0 d1 d2 d3 j : Int32} (h1 : 0 ≤ j.toInt) (h2 : j.toInt ≤ 3) : [(Value.int d0), (.int d1), (.int d2), (.int d3)].getD j.toNatClampNeg (.int (0 : Int32)) = .int (own_at d0 d1 d2 d3 j) := by
  have h := own_nat h1 h2
  unfold own_at
  generalize j.toNatClampNeg = k at *
  match k, h with
  | 0, _ => rfl
  | 1, _ => rfl
  | 2, _ => rfl
  | 3, _ => rfl
theorem own_at_d {d0 d1 d2 d3 j : Int32} (h1 : 0 ≤ j.toInt) (h2 : j.toInt ≤ 3) : [(Value.double (FP.i2d d0)), (.double (FP.i2d d1)), (.double (FP.i2d d2)), (.double (FP.i2d d3))].getD j.toNatClampNeg (.double (FP.l2d 0)) = .double (FP.i2d (own_at d0 d1 d2 d3 j)) := by
  have h := own_nat h1 h2
  unfold own_at
  generalize j.toNatClampNeg = k at *
  match k, h with
  | 0, _ => rfl
  | 1, _ => rfl
  | 2, _ => rfl
  | 3, _ => rfl
theorem own_v (x : Int64) : -1048576 ≤ (x >>> ((43 : Int32).toInt64 &&& 63)).toInt32.toInt ∧ (x >>> ((43 : Int32).toInt64 &&& 63)).toInt32.toInt ≤ 1048576 := by
  have e : ((43 : Int32).toInt64 &&& 63) = ((43 : Int32) &&& 0x3f).toInt64 := by decide
  rw [e]
  have h := c_lshr x 43 43 (by decide)
  have r := rng64 x
  have b := c_l2i (x >>> ((43 : Int32) &&& 0x3f).toInt64)
  have r2 := rng32 (x >>> ((43 : Int32) &&& 0x3f).toInt64).toInt32
  have p : ((2 ^ 43 : Nat) : Int) = 8796093022208 := by decide
  rw [p] at h
  omega
theorem own_r (x : Int32) : 0 ≤ (XT.ushr x 2 - (XT.ushr x 2 / (24 : Int32)) * (24 : Int32)).toInt ∧ (XT.ushr x 2 - (XT.ushr x 2 / (24 : Int32)) * (24 : Int32)).toInt ≤ 23 := by
  have u : (XT.ushr x 2).toInt = (x.toInt % 4294967296) / (2 ^ 2 : Nat) := c_iushr x 2 2 (by decide) (by decide)
  rw [irem_eq_mod]
  have h := c_irem (XT.ushr x 2) 24 24 rfl
  have p : ((2 ^ 2 : Nat) : Int) = 4 := by decide
  rw [p] at u
  omega
theorem own_j0 {r : Int32} (h1 : 0 ≤ r.toInt) (h2 : r.toInt ≤ 23) : 0 ≤ (r - (r / (4 : Int32)) * (4 : Int32)).toInt ∧ (r - (r / (4 : Int32)) * (4 : Int32)).toInt ≤ 3 := by
  rw [irem_eq_mod]
  have h := c_irem r 4 4 rfl
  omega
theorem own_j1 {r : Int32} (h1 : 0 ≤ r.toInt) (h2 : r.toInt ≤ 23) : 0 ≤ ((1 : Int32) + ((r / (4 : Int32)) - ((r / (4 : Int32)) / (3 : Int32)) * (3 : Int32))).toInt ∧ ((1 : Int32) + ((r / (4 : Int32)) - ((r / (4 : Int32)) / (3 : Int32)) * (3 : Int32))).toInt ≤ 3 := by
  rw [irem_eq_mod]
  have d := c_idiv r 4 4 rfl (by decide)
  have h := c_irem (r / 4) 3 3 rfl
  have a := c_iadd 1 (r / 4 % 3)
  have q := rng32 (1 + r / 4 % 3)
  have e : (1 : Int32).toInt = 1 := rfl
  omega
theorem own_j2 {r : Int32} (h1 : 0 ≤ r.toInt) (h2 : r.toInt ≤ 23) : 0 ≤ ((2 : Int32) + ((r / (12 : Int32)) - ((r / (12 : Int32)) / (2 : Int32)) * (2 : Int32))).toInt ∧ ((2 : Int32) + ((r / (12 : Int32)) - ((r / (12 : Int32)) / (2 : Int32)) * (2 : Int32))).toInt ≤ 3 := by
  rw [irem_eq_mod]
  have d := c_idiv r 12 12 rfl (by decide)
  have h := c_irem (r / 12) 2 2 rfl
  have a := c_iadd 2 (r / 12 % 2)
  have q := rng32 (2 + r / 12 % 2)
  have e : (2 : Int32).toInt = 2 := rfl
  omega
theorem own_n (p : Int32) : (p &&& (3 : Int32)) = 0 ∨ (p &&& (3 : Int32)) = 1 ∨ (p &&& (3 : Int32)) = 2 ∨ (p &&& (3 : Int32)) = 3 := by
  have h := c_and p 3 (by decide)
  have e : (3 : Int32).toInt = 3 := rfl
  have q : (p &&& 3).toInt = 0 ∨ (p &&& 3).toInt = 1 ∨ (p &&& 3).toInt = 2 ∨ (p &&& 3).toInt = 3 := by omega
  rcases q with q | q | q | q
  · exact Or.inl (Int32.toInt_inj.mp q)
  · exact Or.inr (Or.inl (Int32.toInt_inj.mp q))
  · exact Or.inr (Or.inr (Or.inl (Int32.toInt_inj.mp q)))
  · exact Or.inr (Or.inr (Or.inr (Int32.toInt_inj.mp q)))
/-- one summand -/
theorem own_term {v d : Int32} (h : -1048576 ≤ v.toInt ∧ v.toInt ≤ 1048576) : (v.toInt64 * d.toInt64).toInt = v.toInt * d.toInt ∧ (v.toInt * d.toInt).natAbs ≤ 2251799813685248 ∧ FP.Core.DInt (v.toInt * d.toInt) (FP.dmul (FP.i2d v) (FP.i2d d)) := by
  have r := rng32 d
  have b : (v.toInt * d.toInt).natAbs ≤ 2251799813685248 := by
    rw [Int.natAbs_mul]
    have := Nat.mul_le_mul (show v.toInt.natAbs ≤ 1048576 by omega) (show d.toInt.natAbs ≤ 2147483648 by omega)
    omega
  exact ⟨XT.wideMul v d, b, FP.Core.dmul_int (FP.Core.i2d_int v) (FP.Core.i2d_int d) (by omega)⟩
theorem d3_0 : decode jdk_30_method_1_code 0 = .ok (.aload_n 0, 1) := by decide +kernel
theorem d3_1 : decode jdk_30_method_1_code 1 = .ok (.invokespecial 1, 3) := by decide +kernel
theorem d3_4 : decode jdk_30_method_1_code 4 = .ok (.return_, 1) := by decide +kernel
theorem pn_3 : plainName "java/lang/Record" = true := by first | (simp [plainName, overriddenIn]; done) | decide +kernel
def QR (a1 : Addr) (h0 : Heap) (n0 : Nat) (v : Option Value) (h : Heap) (L : List Loc) : Prop := v = none ∧ Fr n0 L ∧ h = h0
set_option maxRecDepth 65536 in
set_option maxHeartbeats 40000000 in
theorem rmR (l : Launch) (Z : State) (a0 : Array Value) (hw : ∀ d ∈ tables_1, d.before a0 Z = true) (ws : List Jvm.Cond) (a1 : Addr) (h0 : Heap) (n0 : Nat) (Z0 : n0 ≤ h0.size)  :
    MetFree l (⟨"java/lang/Record", "<init>", "()V"⟩ : MethodName) (head1 (Jvm.Cond.code (⟨"java/lang/Record", "<init>", "()V"⟩ : MethodName) jdk_30_method_1_code 1 none :: ws) ({ frames := 1, cells := 0, slots := 0, locals := 12 } : Room)) (fun a U => a = #[(.ref a1)] ∧ Z.Warmed39 U.vm ∧ U.heap = h0) (fun _ _ _ _ _ => True) (fun _ U o U' => ∃ v L, o = .returned v ∧ QR a1 h0 n0 v U'.heap L ∧ FrameEnd U o U' L ({ frames := 1, cells := 0, slots := 0, locals := 12 } : Room).cells ({ frames := 1, cells := 0, slots := 0, locals := 12 } : Room).slots) := by
  refine MetFree.of_bodySF (plainFor_of_name pn_3) hisR ?_
  intro p e s m args below meth c s₁ Bd hml0 hP hK
  obtain ⟨rfl, hZ, hh⟩ := hP
  have hx := Bd.exec
  have hby := Bd.bytes
  have hml : c.maxLocals = 1 := hml0
  have hown : s.vm.findClass "java/lang/Record" = some m.cls := findClass_of_methodNamed Bd.named
  have hnm := (name_of_methodNamed Bd.named Bd.method).1
  have X0 : Stand p l e ({ frames := 1, cells := 0, slots := 0, locals := 12 } : Room) s m #[(.ref a1)] below meth c s₁ [] 0 0 := Stand.of_body Bd
  have e0 : s₁.heap = h0 := by rw [← hh, Bd.state]; rfl
  have N0 := Fr.nil n0
  have c0 : Steps p.tables e below (s₁.setTop (entryFrame m #[(.ref a1)] 1)) (s₁.setTop (mkF m 0 #[.val (.ref a1)] [])) := XT.entry rfl
  obtain ⟨T1, X1, e1, st1⟩ := initO X0 hx hZ hown (hw _ (List.mem_of_getElem? (i := 17) rfl)) (hw _ (List.mem_of_getElem? (i := 18) rfl)) (hw _ (List.mem_of_getElem? (i := 19) rfl)) e0 (g := (mkF m 1 #[.val (.ref a1)] [(.ref a1)])) rfl (by rw [hml]; rfl) rfl (hb hby d3_1) (by decide) (W := 0) (by show 2 * 0 + _ ≤ _; exact Nat.le_of_eq rfl) (by decide)
  have cc1 : Steps p.tables e below (s₁.setTop (entryFrame m #[(.ref a1)] 1)) (T1.setTop (mkF m 4 #[.val (.ref a1)] [])) := c0.trans (by
    refine XS.aloadN X0.here hx rfl (hb hby d3_0) rfl rfl ?_
    refine st1 _ ?_
    exact Steps.refl _)
  obtain ⟨fs, hr, hrun, hended, hW, hsame⟩ := X1.leave (v := none) (fun _ => rfl)
  refine ⟨_, _, cc1.trans ?_, hrun, hended, _, _, rfl, ?_, ⟨_, rfl⟩, hW, hsame.mono (by decide) (by decide)⟩
  · exact X1.returnOut hx Bd.returns (hb hby d3_4) hr
  · show QR a1 h0 n0 _ T1.heap _
    rw [e1]
    exact ⟨rfl, N0, rfl⟩
theorem d1_0 : decode method_2_code 0 = .ok (.aload_n 0, 1) := by decide +kernel
theorem d1_1 : decode method_2_code 1 = .ok (.iload_n 1, 1) := by decide +kernel
theorem d1_2 : decode method_2_code 2 = .ok (.iaload, 1) := by decide +kernel
theorem d1_3 : decode method_2_code 3 = .ok (.istore_n 3, 1) := by decide +kernel
theorem d1_4 : decode method_2_code 4 = .ok (.aload_n 0, 1) := by decide +kernel
theorem d1_5 : decode method_2_code 5 = .ok (.iload_n 1, 1) := by decide +kernel
theorem d1_6 : decode method_2_code 6 = .ok (.aload_n 0, 1) := by decide +kernel
theorem d1_7 : decode method_2_code 7 = .ok (.iload_n 2, 1) := by decide +kernel
theorem d1_8 : decode method_2_code 8 = .ok (.iaload, 1) := by decide +kernel
theorem d1_9 : decode method_2_code 9 = .ok (.iastore, 1) := by decide +kernel
theorem d1_10 : decode method_2_code 10 = .ok (.aload_n 0, 1) := by decide +kernel
theorem d1_11 : decode method_2_code 11 = .ok (.iload_n 2, 1) := by decide +kernel
theorem d1_12 : decode method_2_code 12 = .ok (.iload_n 3, 1) := by decide +kernel
theorem d1_13 : decode method_2_code 13 = .ok (.iastore, 1) := by decide +kernel
theorem d1_14 : decode method_2_code 14 = .ok (.return_, 1) := by decide +kernel
theorem d2_0 : decode prog_72_method_1_code 0 = .ok (.aload_n 0, 1) := by decide +kernel
theorem d2_1 : decode prog_72_method_1_code 1 = .ok (.invokespecial 1, 3) := by decide +kernel
theorem d2_4 : decode prog_72_method_1_code 4 = .ok (.aload_n 0, 1) := by decide +kernel
theorem d2_5 : decode prog_72_method_1_code 5 = .ok (.aload_n 1, 1) := by decide +kernel
theorem d2_6 : decode prog_72_method_1_code 6 = .ok (.putfield 7, 3) := by decide +kernel
theorem d2_9 : decode prog_72_method_1_code 9 = .ok (.aload_n 0, 1) := by decide +kernel
theorem d2_10 : decode prog_72_method_1_code 10 = .ok (.aload_n 2, 1) := by decide +kernel
theorem d2_11 : decode prog_72_method_1_code 11 = .ok (.putfield 13, 3) := by decide +kernel
theorem d2_14 : decode prog_72_method_1_code 14 = .ok (.return_, 1) := by decide +kernel
theorem d5_0 : decode prog_72_method_2_code 0 = .ok (.dconst 0, 1) := by decide +kernel
theorem d5_1 : decode prog_72_method_2_code 1 = .ok (.dstore_n 2, 1) := by decide +kernel
theorem d5_2 : decode prog_72_method_2_code 2 = .ok (.iconst 0, 1) := by decide +kernel
theorem d5_3 : decode prog_72_method_2_code 3 = .ok (.istore 4, 2) := by decide +kernel
theorem d5_5 : decode prog_72_method_2_code 5 = .ok (.iload 4, 2) := by decide +kernel
theorem d5_7 : decode prog_72_method_2_code 7 = .ok (.aload_n 0, 1) := by decide +kernel
theorem d5_8 : decode prog_72_method_2_code 8 = .ok (.getfield 7, 3) := by decide +kernel
theorem d5_11 : decode prog_72_method_2_code 11 = .ok (.arraylength, 1) := by decide +kernel
theorem d5_12 : decode prog_72_method_2_code 12 = .ok (.if_icmp .ge 29, 3) := by decide +kernel
theorem d5_15 : decode prog_72_method_2_code 15 = .ok (.dload_n 2, 1) := by decide +kernel
theorem d5_16 : decode prog_72_method_2_code 16 = .ok (.aload_n 0, 1) := by decide +kernel
theorem d5_17 : decode prog_72_method_2_code 17 = .ok (.getfield 13, 3) := by decide +kernel
theorem d5_20 : decode prog_72_method_2_code 20 = .ok (.iload 4, 2) := by decide +kernel
theorem d5_22 : decode prog_72_method_2_code 22 = .ok (.daload, 1) := by decide +kernel
theorem d5_23 : decode prog_72_method_2_code 23 = .ok (.aload_n 1, 1) := by decide +kernel
theorem d5_24 : decode prog_72_method_2_code 24 = .ok (.aload_n 0, 1) := by decide +kernel
theorem d5_25 : decode prog_72_method_2_code 25 = .ok (.getfield 7, 3) := by decide +kernel
theorem d5_28 : decode prog_72_method_2_code 28 = .ok (.iload 4, 2) := by decide +kernel
theorem d5_30 : decode prog_72_method_2_code 30 = .ok (.iaload, 1) := by decide +kernel
theorem d5_31 : decode prog_72_method_2_code 31 = .ok (.daload, 1) := by decide +kernel
theorem d5_32 : decode prog_72_method_2_code 32 = .ok (.dmul, 1) := by decide +kernel
theorem d5_33 : decode prog_72_method_2_code 33 = .ok (.dadd, 1) := by decide +kernel
theorem d5_34 : decode prog_72_method_2_code 34 = .ok (.dstore_n 2, 1) := by decide +kernel
theorem d5_35 : decode prog_72_method_2_code 35 = .ok (.iinc 4 1, 3) := by decide +kernel
theorem d5_38 : decode prog_72_method_2_code 38 = .ok (.goto (-33), 3) := by decide +kernel
theorem d5_41 : decode prog_72_method_2_code 41 = .ok (.dload_n 2, 1) := by decide +kernel
theorem d5_42 : decode prog_72_method_2_code 42 = .ok (.dreturn, 1) := by decide +kernel
theorem pn_1 : plainName "com/example/scentwalk/scentwalk/learn/SparseVectorDotPinLaw" = true := by first | (simp [plainName, overriddenIn]; done) | decide +kernel
theorem pn_2 : plainName "com/example/scentwalk/scentwalk/learn/SparseVector" = true := by first | (simp [plainName, overriddenIn]; done) | decide +kernel
theorem pn_5 : plainName "com/example/scentwalk/scentwalk/learn/SparseVector" = true := by first | (simp [plainName, overriddenIn]; done) | decide +kernel
theorem pn_law : plainName "com/example/scentwalk/scentwalk/learn/SparseVectorDotPinLaw" = true := by first | (simp [plainName, overriddenIn]; done) | decide +kernel
theorem pd___V : parseMethodDescriptor "()V" = some ⟨[], none⟩ := by decide +kernel
theorem pd___III_V : parseMethodDescriptor "([III)V" = some ⟨[(.array .int), .int, .int], none⟩ := by decide +kernel
theorem pd___I_D_V : parseMethodDescriptor "([I[D)V" = some ⟨[(.array .int), (.array .double)], none⟩ := by decide +kernel
theorem pd___D_D : parseMethodDescriptor "([D)D" = some ⟨[(.array .double)], some .double⟩ := by decide +kernel
def QSw (Z : State) (a1 : Addr) (kA : ClassId) (h0 : Heap) (n0 : Nat) (v : Option Value) (h : Heap) (L : List Loc) : Prop := v = none ∧ Fr n0 L ∧ Keep h0 h [a1] ∧ ∃ vs, Arv Z h a1 kA .int (4 : Int32) vs (.int (0 : Int32)) ∧ own_P4 vs
set_option maxRecDepth 65536 in
set_option maxHeartbeats 40000000 in
theorem rmSw (l : Launch) (Z : State) (a0 : Array Value) (hw : ∀ d ∈ tables_1, d.before a0 Z = true) (ws : List Jvm.Cond) (a1 : Addr) (kA : ClassId) (i : Int32) (j : Int32) (vs : List Value) (h0 : Heap) (n0 : Nat) (Z0 : n0 ≤ h0.size) (V0 : Arv Z h0 a1 kA .int (4 : Int32) vs (.int (0 : Int32))) (p4 : own_P4 vs) (bi : 0 ≤ i.toInt ∧ i.toInt ≤ 3) (bj : 0 ≤ j.toInt ∧ j.toInt ≤ 3) (ge : n0 ≤ a1) :
    MetFree l (⟨"com/example/scentwalk/scentwalk/learn/SparseVectorDotPinLaw", "swap", "([III)V"⟩ : MethodName) (head1 (Jvm.Cond.code (⟨"com/example/scentwalk/scentwalk/learn/SparseVectorDotPinLaw", "swap", "([III)V"⟩ : MethodName) method_2_code 4 none :: ws) ({ frames := 0, cells := 0, slots := 0, locals := 0 } : Room)) (fun a U => a = #[(.ref a1), (.int i), (.int j)] ∧ Z.Warmed39 U.vm ∧ U.heap = h0) (fun _ _ _ _ _ => True) (fun _ U o U' => ∃ v L, o = .returned v ∧ QSw Z a1 kA h0 n0 v U'.heap L ∧ FrameEnd U o U' L ({ frames := 0, cells := 0, slots := 0, locals := 0 } : Room).cells ({ frames := 0, cells := 0, slots := 0, locals := 0 } : Room).slots) := by
  refine MetFree.of_bodySF (plainFor_of_name pn_1) hisR ?_
  intro p e s m args below meth c s₁ Bd hml0 hP hK
  obtain ⟨rfl, hZ, hh⟩ := hP
  have hx := Bd.exec
  have hby := Bd.bytes
  have hml : c.maxLocals = 4 := hml0
  have hown : s.vm.findClass "com/example/scentwalk/scentwalk/learn/SparseVectorDotPinLaw" = some m.cls := findClass_of_methodNamed Bd.named
  have hnm := (name_of_methodNamed Bd.named Bd.method).1
  have X0 : Stand p l e ({ frames := 0, cells := 0, slots := 0, locals := 0 } : Room) s m #[(.ref a1), (.int i), (.int j)] below meth c s₁ [] 0 0 := Stand.of_body Bd
  have e0 : s₁.heap = h0 := by rw [← hh, Bd.state]; rfl
  have N0 := Fr.nil n0
  have c0 : Steps p.tables e below (s₁.setTop (entryFrame m #[(.ref a1), (.int i), (.int j)] 4)) (s₁.setTop (mkF m 0 #[.val (.ref a1), .val (.int i), .val (.int j), .unset] [])) := XT.entry rfl
  obtain ⟨yi, ei, bi1, bi2⟩ := p4.2 i.toNatClampNeg
  obtain ⟨yj, ej, bj1, bj2⟩ := p4.2 j.toNatClampNeg
  obtain ⟨c2, A2, q2, S2, M2, H2, U2⟩ := id V0
  have i2 := inb_of (j := i) S2 (own_ix bi.1 bi.2)
  have t2 := H2.at (v := (.int yi)) i2 ei
  obtain ⟨c3, A3, q3, S3, M3, H3, U3⟩ := id V0
  have i3 := inb_of (j := j) S3 (own_ix bj.1 bj.2)
  have t3 := H3.at (v := (.int yj)) i3 ej
  obtain ⟨c4, A4, q4, S4, M4, H4, U4⟩ := id V0
  obtain ⟨T4, h4, X4, e4, W4, st4⟩ := stI X0 hx hZ e0 A4 (j := i) (inb_of S4 (own_ix bi.1 bi.2)) (g := (mkF m 9 #[.val (.ref a1), .val (.int i), .val (.int j), .val (.int yi)] [(.int yj), (.int i), (.ref a1)])) rfl rfl (hb hby d1_9)
  have N4 := Fr.snoc X4 N0 ge
  have V4 : Arv Z h4 a1 kA .int (4 : Int32) ((vs).set i.toNatClampNeg (.int yj)) (.int (0 : Int32)) := Arv.set A4 q4 S4 M4 H4 U4 rfl W4 _ rfl (by rw [p4.1]; exact own_nat bi.1 bi.2)
  obtain ⟨c5, A5, q5, S5, M5, H5, U5⟩ := id V4
  obtain ⟨T5, h5, X5, e5, W5, st5⟩ := stI X4 hx hZ e4 A5 (j := j) (inb_of S5 (own_ix bj.1 bj.2)) (g := (mkF m 13 #[.val (.ref a1), .val (.int i), .val (.int j), .val (.int yi)] [(.int yi), (.int j), (.ref a1)])) rfl rfl (hb hby d1_13)
  have N5 := Fr.snoc X5 N4 ge
  have V5 : Arv Z h5 a1 kA .int (4 : Int32) ((vs.set i.toNatClampNeg (.int yj)).set j.toNatClampNeg (.int yi)) (.int (0 : Int32)) := Arv.set A5 q5 S5 M5 H5 U5 rfl W5 _ rfl (by rw [(p4.set _ bj1 bj2).1]; exact own_nat bj.1 bj.2)
  have K2 : Keep h0 h5 [a1] := (((Keep.refl _ _).wr W4 (Or.inl (List.mem_of_getElem? (i := 0) rfl))).wr W5 (Or.inl (List.mem_of_getElem? (i := 0) rfl)))
  have cc1 : Steps p.tables e below (s₁.setTop (entryFrame m #[(.ref a1), (.int i), (.int j)] 4)) (T5.setTop (mkF m 14 #[.val (.ref a1), .val (.int i), .val (.int j), .val (.int yi)] [])) := c0.trans (by
    refine XS.aloadN X0.here hx rfl (hb hby d1_0) rfl rfl ?_
    refine XS.iloadN X0.here hx rfl (hb hby d1_1) rfl ?_
    refine X0.iaload hx (j := i) (v := (.int yi)) (by rw [e0]; exact A2.1) (State.isArrayOf_alike hZ.alike A2.2.1) A2.2.2 i2 t2 (g := (mkF m 2 #[.val (.ref a1), .val (.int i), .val (.int j), .unset] [(.int i), (.ref a1)])) rfl rfl (hb hby d1_2) _ ?_
    show Steps p.tables e below (s₁.setTop (mkF m 3 #[.val (.ref a1), .val (.int i), .val (.int j), .unset] [(.int yi)])) _
    refine XS.istoreN X0.here hx rfl (hb hby d1_3) rfl (l' := #[.val (.ref a1), .val (.int i), .val (.int j), .val (.int yi)]) rfl ?_
    refine XS.aloadN X0.here hx rfl (hb hby d1_4) rfl rfl ?_
    refine XS.iloadN X0.here hx rfl (hb hby d1_5) rfl ?_
    refine XS.aloadN X0.here hx rfl (hb hby d1_6) rfl rfl ?_
    refine XS.iloadN X0.here hx rfl (hb hby d1_7) rfl ?_
    refine X0.iaload hx (j := j) (v := (.int yj)) (by rw [e0]; exact A3.1) (State.isArrayOf_alike hZ.alike A3.2.1) A3.2.2 i3 t3 (g := (mkF m 8 #[.val (.ref a1), .val (.int i), .val (.int j), .val (.int yi)] [(.int j), (.ref a1), (.int i), (.ref a1)])) rfl rfl (hb hby d1_8) _ ?_
    show Steps p.tables e below (s₁.setTop (mkF m 9 #[.val (.ref a1), .val (.int i), .val (.int j), .val (.int yi)] [(.int yj), (.int i), (.ref a1)])) _
    refine st4 _ ?_
    refine XS.aloadN X4.here hx rfl (hb hby d1_10) rfl rfl ?_
    refine XS.iloadN X4.here hx rfl (hb hby d1_11) rfl ?_
    refine XS.iloadN X4.here hx rfl (hb hby d1_12) rfl ?_
    refine st5 _ ?_
    exact Steps.refl _)
  obtain ⟨fs, hr, hrun, hended, hW, hsame⟩ := X5.leave (v := none) (fun _ => rfl)
  refine ⟨_, _, cc1.trans ?_, hrun, hended, _, _, rfl, ?_, ⟨_, rfl⟩, hW, hsame.mono (by decide) (by decide)⟩
  · exact X5.returnOut hx Bd.returns (hb hby d1_14) hr
  · show QSw Z a1 kA h0 n0 _ T5.heap _
    rw [e5]
    exact ⟨rfl, N5, K2, _, V5, (p4.set _ bj1 bj2).set _ bi1 bi2⟩
def QN (Z : State) (a1 u v1 : Addr) (h0 : Heap) (n0 : Nat) (v : Option Value) (h : Heap) (L : List Loc) : Prop := v = none ∧ Fr n0 L ∧ Keep h0 h [a1] ∧ Fld Z h a1 "com/example/scentwalk/scentwalk/learn/SparseVector" "indices" "[I" (.ref u) ∧ Fld Z h a1 "com/example/scentwalk/scentwalk/learn/SparseVector" "values" "[D" (.ref v1)
set_option maxRecDepth 65536 in
set_option maxHeartbeats 40000000 in
theorem rmN (l : Launch) (Z : State) (a0 : Array Value) (hw : ∀ d ∈ tables_1, d.before a0 Z = true) (ws : List Jvm.Cond) (a1 : Addr) (u : Addr) (v1 : Addr) (h0 : Heap) (n0 : Nat) (Z0 : n0 ≤ h0.size) (Ea : Exa Z h0 a1 "com/example/scentwalk/scentwalk/learn/SparseVector") (F1 : Fld Z h0 a1 "com/example/scentwalk/scentwalk/learn/SparseVector" "indices" "[I" .null) (F2 : Fld Z h0 a1 "com/example/scentwalk/scentwalk/learn/SparseVector" "values" "[D" .null) (ge : n0 ≤ a1) :
    MetFree l (⟨"com/example/scentwalk/scentwalk/learn/SparseVector", "<init>", "([I[D)V"⟩ : MethodName) (head1 (Jvm.Cond.code (⟨"com/example/scentwalk/scentwalk/learn/SparseVector", "<init>", "([I[D)V"⟩ : MethodName) prog_72_method_1_code 3 none :: ws) ({ frames := 2, cells := 0, slots := 0, locals := 24 } : Room)) (fun a U => a = #[(.ref a1), (.ref u), (.ref v1)] ∧ Z.Warmed39 U.vm ∧ U.heap = h0) (fun _ _ _ _ _ => True) (fun _ U o U' => ∃ v L, o = .returned v ∧ QN Z a1 u v1 h0 n0 v U'.heap L ∧ FrameEnd U o U' L ({ frames := 2, cells := 0, slots := 0, locals := 24 } : Room).cells ({ frames := 2, cells := 0, slots := 0, locals := 24 } : Room).slots) := by
  refine MetFree.of_bodySF (plainFor_of_name pn_2) hisR ?_
  intro p e s m args below meth c s₁ Bd hml0 hP hK
  obtain ⟨rfl, hZ, hh⟩ := hP
  have hx := Bd.exec
  have hby := Bd.bytes
  have hml : c.maxLocals = 3 := hml0
  have hown : s.vm.findClass "com/example/scentwalk/scentwalk/learn/SparseVector" = some m.cls := findClass_of_methodNamed Bd.named
  have hnm := (name_of_methodNamed Bd.named Bd.method).1
  have X0 : Stand p l e ({ frames := 2, cells := 0, slots := 0, locals := 24 } : Room) s m #[(.ref a1), (.ref u), (.ref v1)] below meth c s₁ [] 0 0 := Stand.of_body Bd
  have e0 : s₁.heap = h0 := by rw [← hh, Bd.state]; rfl
  have N0 := Fr.nil n0
  have c0 : Steps p.tables e below (s₁.setTop (entryFrame m #[(.ref a1), (.ref u), (.ref v1)] 3)) (s₁.setTop (mkF m 0 #[.val (.ref a1), .val (.ref u), .val (.ref v1)] [])) := XT.entry rfl
  obtain ⟨_, _, ⟨T6, L6, k6, n6⟩, -, X6, ⟨Lc6, hQ6, l6, y6, z6⟩, st6⟩ := X0.specialBack hx (y := (⟨"java/lang/Record", "<init>", "()V"⟩ : MethodName)) rfl hown (mvT hZ (hw _ (List.mem_of_getElem? (i := 12) rfl))) (mvT hZ (hw _ (List.mem_of_getElem? (i := 13) rfl))) (mvT hZ (hw _ (List.mem_of_getElem? (i := 16) rfl))) (by decide) (backOf (W := 0) (rmR l Z a0 hw [] a1 h0 n0 Z0) hZ (hw _ (List.mem_of_getElem? (i := 16) rfl)) (hw _ (List.mem_of_getElem? (i := 15) rfl)) (by decide) (by decide)) (g := (mkF m 1 #[.val (.ref a1), .val (.ref u), .val (.ref v1)] [(.ref a1)])) rfl (by rw [hml]; rfl) (Steps.refl _) (a := a1) (argsL := []) (rest := []) (lenOf pd___V rfl) rfl (by show 2 * 0 + _ ≤ _; exact Nat.le_of_eq rfl) (hb hby d2_1) (fun _ _ => ⟨rfl, e0, (by decide : 0 + 0 ≤ _), (by decide : 0 + 0 ≤ _)⟩)
  dsimp only [Pt.U, Pt.locs, Pt.cells, Pt.slots] at X6 l6 y6 z6 st6 hQ6
  rw [y6, z6] at X6
  obtain ⟨rfl, N6, e6⟩ := hQ6
  have NN6 : Fr n0 L6 := by rw [l6]; exact Fr.app N0 N6
  obtain ⟨T7, h7, X7, e7, W7, st7⟩ := putF X6 hx hZ hown (host := "") (Or.inl (hw _ (List.mem_of_getElem? (i := 20) rfl))) Via.refl e6 F1 Ea (Or.inr ⟨(hw _ (List.mem_of_getElem? (i := 21) rfl)), rfl, hnm⟩) (hw _ (List.mem_of_getElem? (i := 7) rfl)) (ty := (.array .int)) (by decide) rfl rfl (g := (mkF m 6 #[.val (.ref a1), .val (.ref u), .val (.ref v1)] [(.ref u), (.ref a1)])) rfl rfl (hb hby d2_6)
  have N7 := Fr.snoc X7 NN6 ge
  have Zs7 : n0 ≤ h7.size := Nat.le_trans Z0 (Keep.of_wr W7).1
  have Ea1 : Exa Z h7 a1 "com/example/scentwalk/scentwalk/learn/SparseVector" := Ea.wr W7
  have I1 := F1.same W7
  have U1 := F2.other W7 (Or.inr (slot_ne (Or.inr (hw _ (List.mem_of_getElem? (i := 23) rfl))) (Or.inr (hw _ (List.mem_of_getElem? (i := 21) rfl))) (by decide) (t := (.array .double)) (t' := (.array .int)) (by decide) (by decide)))
  obtain ⟨T8, h8, X8, e8, W8, st8⟩ := putF X7 hx hZ hown (host := "") (Or.inl (hw _ (List.mem_of_getElem? (i := 22) rfl))) Via.refl e7 U1 Ea1 (Or.inr ⟨(hw _ (List.mem_of_getElem? (i := 23) rfl)), rfl, hnm⟩) (hw _ (List.mem_of_getElem? (i := 7) rfl)) (ty := (.array .double)) (by decide) rfl rfl (g := (mkF m 11 #[.val (.ref a1), .val (.ref u), .val (.ref v1)] [(.ref v1), (.ref a1)])) rfl rfl (hb hby d2_11)
  have N8 := Fr.snoc X8 N7 ge
  have Zs8 : n0 ≤ h8.size := Nat.le_trans Zs7 (Keep.of_wr W8).1
  have I2 := I1.other W8 (Or.inr (slot_ne (Or.inr (hw _ (List.mem_of_getElem? (i := 21) rfl))) (Or.inr (hw _ (List.mem_of_getElem? (i := 23) rfl))) (by decide) (t := (.array .int)) (t' := (.array .double)) (by decide) (by decide)))
  have U2 := U1.same W8
  have K2 : Keep h0 h8 [a1] := (((Keep.refl _ _).wr W7 (Or.inl (List.mem_of_getElem? (i := 0) rfl))).wr W8 (Or.inl (List.mem_of_getElem? (i := 0) rfl)))
  have cc1 : Steps p.tables e below (s₁.setTop (entryFrame m #[(.ref a1), (.ref u), (.ref v1)] 3)) (T8.setTop (mkF m 14 #[.val (.ref a1), .val (.ref u), .val (.ref v1)] [])) := c0.trans (by
    refine XS.aloadN X0.here hx rfl (hb hby d2_0) rfl rfl ?_
    refine st6.trans ?_
    show Steps p.tables e below (T6.setTop (mkF m 4 #[.val (.ref a1), .val (.ref u), .val (.ref v1)] [])) _
    refine XS.aloadN X6.here hx rfl (hb hby d2_4) rfl rfl ?_
    refine XS.aloadN X6.here hx rfl (hb hby d2_5) rfl rfl ?_
    refine st7 _ ?_
    refine XS.aloadN X7.here hx rfl (hb hby d2_9) rfl rfl ?_
    refine XS.aloadN X7.here hx rfl (hb hby d2_10) rfl rfl ?_
    refine st8 _ ?_
    exact Steps.refl _)
  obtain ⟨fs, hr, hrun, hended, hW, hsame⟩ := X8.leave (v := none) (fun _ => rfl)
  refine ⟨_, _, cc1.trans ?_, hrun, hended, _, _, rfl, ?_, ⟨_, rfl⟩, hW, hsame.mono (by decide) (by decide)⟩
  · exact X8.returnOut hx Bd.returns (hb hby d2_14) hr
  · show QN Z a1 u v1 h0 n0 _ T8.heap _
    rw [e8]
    exact ⟨rfl, N8, K2, I2, U2⟩
def QD (r : UInt64) (h0 : Heap) (n0 : Nat) (v : Option Value) (h : Heap) (L : List Loc) : Prop := v = some (.double r) ∧ Fr n0 L ∧ h = h0
set_option maxRecDepth 65536 in
set_option maxHeartbeats 40000000 in
theorem rmD0 (l : Launch) (Z : State) (a0 : Array Value) (hw : ∀ d ∈ tables_1, d.before a0 Z = true) (ws : List Jvm.Cond) (a1 : Addr) (ad : Addr) (ai : Addr) (av : Addr) (ki : ClassId) (kv : ClassId) (kd : ClassId) (ds : List Value) (h0 : Heap) (n0 : Nat) (Z0 : n0 ≤ h0.size) (F1 : Fld Z h0 a1 "com/example/scentwalk/scentwalk/learn/SparseVector" "indices" "[I" (.ref ai)) (F2 : Fld Z h0 a1 "com/example/scentwalk/scentwalk/learn/SparseVector" "values" "[D" (.ref av)) (VI : Arv Z h0 ai ki .int (0 : Int32) [] (.int (0 : Int32))) (VV : Arv Z h0 av kv .double (0 : Int32) [] (.double (FP.l2d 0))) (VD : Arv Z h0 ad kd .double (4 : Int32) ds (.double (FP.l2d 0))) :
    MetFree l (⟨"com/example/scentwalk/scentwalk/learn/SparseVector", "dot", "([D)D"⟩ : MethodName) (head1 (Jvm.Cond.code (⟨"com/example/scentwalk/scentwalk/learn/SparseVector", "dot", "([D)D"⟩ : MethodName) prog_72_method_2_code 5 (some .double) :: ws) ({ frames := 0, cells := 0, slots := 0, locals := 0 } : Room)) (fun a U => a = #[(.ref a1), (.ref ad)] ∧ Z.Warmed39 U.vm ∧ U.heap = h0) (fun _ _ _ _ _ => True) (fun _ U o U' => ∃ v L, o = .returned v ∧ QD (0 : UInt64) h0 n0 v U'.heap L ∧ FrameEnd U o U' L ({ frames := 0, cells := 0, slots := 0, locals := 0 } : Room).cells ({ frames := 0, cells := 0, slots := 0, locals := 0 } : Room).slots) := by
  refine MetFree.of_bodySF (plainFor_of_name pn_5) hisR ?_
  intro p e s m args below meth c s₁ Bd hml0 hP hK
  obtain ⟨rfl, hZ, hh⟩ := hP
  have hx := Bd.exec
  have hby := Bd.bytes
  have hml : c.maxLocals = 5 := hml0
  have hown : s.vm.findClass "com/example/scentwalk/scentwalk/learn/SparseVector" = some m.cls := findClass_of_methodNamed Bd.named
  have hnm := (name_of_methodNamed Bd.named Bd.method).1
  have X0 : Stand p l e ({ frames := 0, cells := 0, slots := 0, locals := 0 } : Room) s m #[(.ref a1), (.ref ad)] below meth c s₁ [] 0 0 := Stand.of_body Bd
  have e0 : s₁.heap = h0 := by rw [← hh, Bd.state]; rfl
  have N0 := Fr.nil n0
  have c0 : Steps p.tables e below (s₁.setTop (entryFrame m #[(.ref a1), (.ref ad)] 5)) (s₁.setTop (mkF m 0 #[.val (.ref a1), .val (.ref ad), .unset, .unset, .unset] [])) := XT.entry rfl
  obtain ⟨T9, X9, e9, st9⟩ := getF X0 hx hZ hown (host := "") (Or.inl (hw _ (List.mem_of_getElem? (i := 20) rfl))) Via.refl e0 F1 (g := (mkF m 8 #[.val (.ref a1), .val (.ref ad), .val (.double (0 : UInt64)), .second, .val (.int (0 : Int32))] [(.ref a1), (.int (0 : Int32))])) rfl rfl (hb hby d5_8)
  obtain ⟨c10, A10, q10, S10, M10, H10, U10⟩ := id VI
  have cc1 : Steps p.tables e below (s₁.setTop (entryFrame m #[(.ref a1), (.ref ad)] 5)) (T9.setTop (mkF m 42 #[.val (.ref a1), .val (.ref ad), .val (.double (0 : UInt64)), .second, .val (.int (0 : Int32))] [(.double (0 : UInt64))])) := c0.trans (by
    refine XS.dconst0 X0.here hx rfl (v := (0 : UInt64)) (hb hby d5_0) rfl ?_
    refine XS.dstoreN X0.here hx rfl (hb hby d5_1) rfl (l' := #[.val (.ref a1), .val (.ref ad), .val (.double (0 : UInt64)), .second, .unset]) rfl ?_
    refine XT.iconstV X0.here hx rfl ((0 : Int32)) (hb hby d5_2) (by decide) ?_
    refine XS.istore X0.here hx rfl (hb hby d5_3) rfl (l' := #[.val (.ref a1), .val (.ref ad), .val (.double (0 : UInt64)), .second, .val (.int (0 : Int32))]) rfl ?_
    refine XS.iload X0.here hx rfl (hb hby d5_5) rfl ?_
    refine XS.aloadN X0.here hx rfl (hb hby d5_7) rfl rfl ?_
    refine st9 _ ?_
    refine X9.arraylength hx (cell := c10) (by rw [e9]; exact A10.1) (State.isArrayOf_alike hZ.alike A10.2.1) (g := (mkF m 11 #[.val (.ref a1), .val (.ref ad), .val (.double (0 : UInt64)), .second, .val (.int (0 : Int32))] [(.ref ai), (.int (0 : Int32))])) rfl (rest := [(.int (0 : Int32))]) rfl (hb hby d5_11) _ ?_
    rw [len_of S10 M10]
    show Steps p.tables e below (T9.setTop (mkF m 12 #[.val (.ref a1), .val (.ref ad), .val (.double (0 : UInt64)), .second, .val (.int (0 : Int32))] [(.int (0 : Int32)), (.int (0 : Int32))])) _
    refine XS.icmpYes X9.here hx rfl (pc0 := 12) (pc' := 41) rfl (hb hby d5_12) rfl (XT.ii_ge_t (by decide)) (by decide) (by decide) ?_
    refine XS.dloadN X9.here hx rfl (hb hby d5_41) rfl ?_
    exact Steps.refl _)
  obtain ⟨fs, hr, hrun, hended, hW, hsame⟩ := X9.leave (v := some (.double (0 : UInt64))) (fun h => by rw [Bd.returns] at h; cases h)
  refine ⟨_, _, cc1.trans ?_, hrun, hended, _, _, rfl, ?_, ⟨_, rfl⟩, hW, hsame.mono (by decide) (by decide)⟩
  · exact retD X9 hx Bd.returns (hb hby d5_42) hr
  · show QD (0 : UInt64) h0 n0 _ T9.heap _
    rw [e9]
    exact ⟨rfl, N0, rfl⟩
set_option maxRecDepth 65536 in
set_option maxHeartbeats 40000000 in
theorem rmD1 (l : Launch) (Z : State) (a0 : Array Value) (hw : ∀ d ∈ tables_1, d.before a0 Z = true) (ws : List Jvm.Cond) (a1 : Addr) (ad : Addr) (ai : Addr) (av : Addr) (ki : ClassId) (kv : ClassId) (kd : ClassId) (ds : List Value) (y0 : Int32) (x0 : UInt64) (z0 : UInt64) (h0 : Heap) (n0 : Nat) (Z0 : n0 ≤ h0.size) (F1 : Fld Z h0 a1 "com/example/scentwalk/scentwalk/learn/SparseVector" "indices" "[I" (.ref ai)) (F2 : Fld Z h0 a1 "com/example/scentwalk/scentwalk/learn/SparseVector" "values" "[D" (.ref av)) (VI : Arv Z h0 ai ki .int (1 : Int32) [(.int y0)] (.int (0 : Int32))) (VV : Arv Z h0 av kv .double (1 : Int32) [(.double x0)] (.double (FP.l2d 0))) (VD : Arv Z h0 ad kd .double (4 : Int32) ds (.double (FP.l2d 0))) (b0 : 0 ≤ y0.toInt ∧ y0.toInt ≤ 3) (t0 : ds.getD y0.toNatClampNeg (.double (FP.l2d 0)) = .double z0) (m0 : Fl.NoNaN64 (FP.dmul x0 z0)) (s0 : Fl.NoNaN64 (FP.dadd (0 : UInt64) (FP.dmul x0 z0))) :
    MetFree l (⟨"com/example/scentwalk/scentwalk/learn/SparseVector", "dot", "([D)D"⟩ : MethodName) (head1 (Jvm.Cond.code (⟨"com/example/scentwalk/scentwalk/learn/SparseVector", "dot", "([D)D"⟩ : MethodName) prog_72_method_2_code 5 (some .double) :: ws) ({ frames := 0, cells := 0, slots := 0, locals := 0 } : Room)) (fun a U => a = #[(.ref a1), (.ref ad)] ∧ Z.Warmed39 U.vm ∧ U.heap = h0) (fun _ _ _ _ _ => True) (fun _ U o U' => ∃ v L, o = .returned v ∧ QD (FP.dadd (0 : UInt64) (FP.dmul x0 z0)) h0 n0 v U'.heap L ∧ FrameEnd U o U' L ({ frames := 0, cells := 0, slots := 0, locals := 0 } : Room).cells ({ frames := 0, cells := 0, slots := 0, locals := 0 } : Room).slots) := by
  refine MetFree.of_bodySF (plainFor_of_name pn_5) hisR ?_
  intro p e s m args below meth c s₁ Bd hml0 hP hK
  obtain ⟨rfl, hZ, hh⟩ := hP
  have hx := Bd.exec
  have hby := Bd.bytes
  have hml : c.maxLocals = 5 := hml0
  have hown : s.vm.findClass "com/example/scentwalk/scentwalk/learn/SparseVector" = some m.cls := findClass_of_methodNamed Bd.named
  have hnm := (name_of_methodNamed Bd.named Bd.method).1
  have X0 : Stand p l e ({ frames := 0, cells := 0, slots := 0, locals := 0 } : Room) s m #[(.ref a1), (.ref ad)] below meth c s₁ [] 0 0 := Stand.of_body Bd
  have e0 : s₁.heap = h0 := by rw [← hh, Bd.state]; rfl
  have N0 := Fr.nil n0
  have c0 : Steps p.tables e below (s₁.setTop (entryFrame m #[(.ref a1), (.ref ad)] 5)) (s₁.setTop (mkF m 0 #[.val (.ref a1), .val (.ref ad), .unset, .unset, .unset] [])) := XT.entry rfl
  obtain ⟨T11, X11, e11, st11⟩ := getF X0 hx hZ hown (host := "") (Or.inl (hw _ (List.mem_of_getElem? (i := 20) rfl))) Via.refl e0 F1 (g := (mkF m 8 #[.val (.ref a1), .val (.ref ad), .val (.double (0 : UInt64)), .second, .val (.int (0 : Int32))] [(.ref a1), (.int (0 : Int32))])) rfl rfl (hb hby d5_8)
  obtain ⟨c12, A12, q12, S12, M12, H12, U12⟩ := id VI
  obtain ⟨T13, X13, e13, st13⟩ := getF X11 hx hZ hown (host := "") (Or.inl (hw _ (List.mem_of_getElem? (i := 22) rfl))) Via.refl e11 F2 (g := (mkF m 17 #[.val (.ref a1), .val (.ref ad), .val (.double (0 : UInt64)), .second, .val (.int (0 : Int32))] [(.ref a1), (.double (0 : UInt64))])) rfl rfl (hb hby d5_17)
  obtain ⟨c14, A14, q14, S14, M14, H14, U14⟩ := id VV
  have i14 := inb_of (j := (0 : Int32)) S14 ⟨by decide, by decide⟩
  have t14 := H14.at (v := (.double x0)) i14 rfl
  obtain ⟨T15, X15, e15, st15⟩ := getF X13 hx hZ hown (host := "") (Or.inl (hw _ (List.mem_of_getElem? (i := 20) rfl))) Via.refl e13 F1 (g := (mkF m 25 #[.val (.ref a1), .val (.ref ad), .val (.double (0 : UInt64)), .second, .val (.int (0 : Int32))] [(.ref a1), (.ref ad), (.double x0), (.double (0 : UInt64))])) rfl rfl (hb hby d5_25)
  obtain ⟨c16, A16, q16, S16, M16, H16, U16⟩ := id VI
  have i16 := inb_of (j := (0 : Int32)) S16 ⟨by decide, by decide⟩
  have t16 := H16.at (v := (.int y0)) i16 rfl
  obtain ⟨c17, A17, q17, S17, M17, H17, U17⟩ := id VD
  have i17 := inb_of (j := y0) S17 (own_ix b0.1 b0.2)
  have t17 := H17.at (v := (.double z0)) i17 t0
  obtain ⟨T18, X18, e18, st18⟩ := getF X15 hx hZ hown (host := "") (Or.inl (hw _ (List.mem_of_getElem? (i := 20) rfl))) Via.refl e15 F1 (g := (mkF m 8 #[.val (.ref a1), .val (.ref ad), .val (.double (FP.dadd (0 : UInt64) (FP.dmul x0 z0))), .second, .val (.int (1 : Int32))] [(.ref a1), (.int (1 : Int32))])) rfl rfl (hb hby d5_8)
  obtain ⟨c19, A19, q19, S19, M19, H19, U19⟩ := id VI
  have cc1 : Steps p.tables e below (s₁.setTop (entryFrame m #[(.ref a1), (.ref ad)] 5)) (T18.setTop (mkF m 42 #[.val (.ref a1), .val (.ref ad), .val (.double (FP.dadd (0 : UInt64) (FP.dmul x0 z0))), .second, .val (.int (1 : Int32))] [(.double (FP.dadd (0 : UInt64) (FP.dmul x0 z0)))])) := c0.trans (by
    refine XS.dconst0 X0.here hx rfl (v := (0 : UInt64)) (hb hby d5_0) rfl ?_
    refine XS.dstoreN X0.here hx rfl (hb hby d5_1) rfl (l' := #[.val (.ref a1), .val (.ref ad), .val (.double (0 : UInt64)), .second, .unset]) rfl ?_
    refine XT.iconstV X0.here hx rfl ((0 : Int32)) (hb hby d5_2) (by decide) ?_
    refine XS.istore X0.here hx rfl (hb hby d5_3) rfl (l' := #[.val (.ref a1), .val (.ref ad), .val (.double (0 : UInt64)), .second, .val (.int (0 : Int32))]) rfl ?_
    refine XS.iload X0.here hx rfl (hb hby d5_5) rfl ?_
    refine XS.aloadN X0.here hx rfl (hb hby d5_7) rfl rfl ?_
    refine st11 _ ?_
    refine X11.arraylength hx (cell := c12) (by rw [e11]; exact A12.1) (State.isArrayOf_alike hZ.alike A12.2.1) (g := (mkF m 11 #[.val (.ref a1), .val (.ref ad), .val (.double (0 : UInt64)), .second, .val (.int (0 : Int32))] [(.ref ai), (.int (0 : Int32))])) rfl (rest := [(.int (0 : Int32))]) rfl (hb hby d5_11) _ ?_
    rw [len_of S12 M12]
    show Steps p.tables e below (T11.setTop (mkF m 12 #[.val (.ref a1), .val (.ref ad), .val (.double (0 : UInt64)), .second, .val (.int (0 : Int32))] [(.int (1 : Int32)), (.int (0 : Int32))])) _
    refine XS.icmpNo X11.here hx rfl (hb hby d5_12) rfl (XT.ii_ge_f (by decide)) ?_
    refine XS.dloadN X11.here hx rfl (hb hby d5_15) rfl ?_
    refine XS.aloadN X11.here hx rfl (hb hby d5_16) rfl rfl ?_
    refine st13 _ ?_
    refine XS.iload X13.here hx rfl (hb hby d5_20) rfl ?_
    refine X13.daload hx (j := (0 : Int32)) (v := (.double x0)) (by rw [e13]; exact A14.1) (State.isArrayOf_alike hZ.alike A14.2.1) A14.2.2 i14 t14 (g := (mkF m 22 #[.val (.ref a1), .val (.ref ad), .val (.double (0 : UInt64)), .second, .val (.int (0 : Int32))] [(.int (0 : Int32)), (.ref av), (.double (0 : UInt64))])) rfl rfl (hb hby d5_22) _ ?_
    show Steps p.tables e below (T13.setTop (mkF m 23 #[.val (.ref a1), .val (.ref ad), .val (.double (0 : UInt64)), .second, .val (.int (0 : Int32))] [(.double x0), (.double (0 : UInt64))])) _
    refine XS.aloadN X13.here hx rfl (hb hby d5_23) rfl rfl ?_
    refine XS.aloadN X13.here hx rfl (hb hby d5_24) rfl rfl ?_
    refine st15 _ ?_
    refine XS.iload X15.here hx rfl (hb hby d5_28) rfl ?_
    refine X15.iaload hx (j := (0 : Int32)) (v := (.int y0)) (by rw [e15]; exact A16.1) (State.isArrayOf_alike hZ.alike A16.2.1) A16.2.2 i16 t16 (g := (mkF m 30 #[.val (.ref a1), .val (.ref ad), .val (.double (0 : UInt64)), .second, .val (.int (0 : Int32))] [(.int (0 : Int32)), (.ref ai), (.ref ad), (.double x0), (.double (0 : UInt64))])) rfl rfl (hb hby d5_30) _ ?_
    show Steps p.tables e below (T15.setTop (mkF m 31 #[.val (.ref a1), .val (.ref ad), .val (.double (0 : UInt64)), .second, .val (.int (0 : Int32))] [(.int y0), (.ref ad), (.double x0), (.double (0 : UInt64))])) _
    refine X15.daload hx (j := y0) (v := (.double z0)) (by rw [e15]; exact A17.1) (State.isArrayOf_alike hZ.alike A17.2.1) A17.2.2 i17 t17 (g := (mkF m 31 #[.val (.ref a1), .val (.ref ad), .val (.double (0 : UInt64)), .second, .val (.int (0 : Int32))] [(.int y0), (.ref ad), (.double x0), (.double (0 : UInt64))])) rfl rfl (hb hby d5_31) _ ?_
    show Steps p.tables e below (T15.setTop (mkF m 32 #[.val (.ref a1), .val (.ref ad), .val (.double (0 : UInt64)), .second, .val (.int (0 : Int32))] [(.double z0), (.double x0), (.double (0 : UInt64))])) _
    refine XS.dmulS X15.here hx rfl (hb hby d5_32) rfl m0 rfl ?_
    refine XS.daddS X15.here hx rfl (hb hby d5_33) rfl s0 rfl ?_
    refine XS.dstoreN X15.here hx rfl (hb hby d5_34) rfl (l' := #[.val (.ref a1), .val (.ref ad), .val (.double (FP.dadd (0 : UInt64) (FP.dmul x0 z0))), .second, .val (.int (0 : Int32))]) rfl ?_
    refine XS.iinc X15.here hx rfl (hb hby d5_35) rfl (l' := #[.val (.ref a1), .val (.ref ad), .val (.double (FP.dadd (0 : UInt64) (FP.dmul x0 z0))), .second, .val (.int (1 : Int32))]) rfl ?_
    refine XS.goto X15.here hx rfl (pc0 := 38) (pc' := 5) rfl (hb hby d5_38) (by decide) (by decide) ?_
    refine XS.iload X15.here hx rfl (hb hby d5_5) rfl ?_
    refine XS.aloadN X15.here hx rfl (hb hby d5_7) rfl rfl ?_
    refine st18 _ ?_
    refine X18.arraylength hx (cell := c19) (by rw [e18]; exact A19.1) (State.isArrayOf_alike hZ.alike A19.2.1) (g := (mkF m 11 #[.val (.ref a1), .val (.ref ad), .val (.double (FP.dadd (0 : UInt64) (FP.dmul x0 z0))), .second, .val (.int (1 : Int32))] [(.ref ai), (.int (1 : Int32))])) rfl (rest := [(.int (1 : Int32))]) rfl (hb hby d5_11) _ ?_
    rw [len_of S19 M19]
    show Steps p.tables e below (T18.setTop (mkF m 12 #[.val (.ref a1), .val (.ref ad), .val (.double (FP.dadd (0 : UInt64) (FP.dmul x0 z0))), .second, .val (.int (1 : Int32))] [(.int (1 : Int32)), (.int (1 : Int32))])) _
    refine XS.icmpYes X18.here hx rfl (pc0 := 12) (pc' := 41) rfl (hb hby d5_12) rfl (XT.ii_ge_t (by decide)) (by decide) (by decide) ?_
    refine XS.dloadN X18.here hx rfl (hb hby d5_41) rfl ?_
    exact Steps.refl _)
  obtain ⟨fs, hr, hrun, hended, hW, hsame⟩ := X18.leave (v := some (.double (FP.dadd (0 : UInt64) (FP.dmul x0 z0)))) (fun h => by rw [Bd.returns] at h; cases h)
  refine ⟨_, _, cc1.trans ?_, hrun, hended, _, _, rfl, ?_, ⟨_, rfl⟩, hW, hsame.mono (by decide) (by decide)⟩
  · exact retD X18 hx Bd.returns (hb hby d5_42) hr
  · show QD (FP.dadd (0 : UInt64) (FP.dmul x0 z0)) h0 n0 _ T18.heap _
    rw [e18]
    exact ⟨rfl, N0, rfl⟩
set_option maxRecDepth 65536 in
set_option maxHeartbeats 40000000 in
theorem rmD2 (l : Launch) (Z : State) (a0 : Array Value) (hw : ∀ d ∈ tables_1, d.before a0 Z = true) (ws : List Jvm.Cond) (a1 : Addr) (ad : Addr) (ai : Addr) (av : Addr) (ki : ClassId) (kv : ClassId) (kd : ClassId) (ds : List Value) (y0 : Int32) (y1 : Int32) (x0 : UInt64) (x1 : UInt64) (z0 : UInt64) (z1 : UInt64) (h0 : Heap) (n0 : Nat) (Z0 : n0 ≤ h0.size) (F1 : Fld Z h0 a1 "com/example/scentwalk/scentwalk/learn/SparseVector" "indices" "[I" (.ref ai)) (F2 : Fld Z h0 a1 "com/example/scentwalk/scentwalk/learn/SparseVector" "values" "[D" (.ref av)) (VI : Arv Z h0 ai ki .int (2 : Int32) [(.int y0), (.int y1)] (.int (0 : Int32))) (VV : Arv Z h0 av kv .double (2 : Int32) [(.double x0), (.double x1)] (.double (FP.l2d 0))) (VD : Arv Z h0 ad kd .double (4 : Int32) ds (.double (FP.l2d 0))) (b0 : 0 ≤ y0.toInt ∧ y0.toInt ≤ 3) (t0 : ds.getD y0.toNatClampNeg (.double (FP.l2d 0)) = .double z0) (m0 : Fl.NoNaN64 (FP.dmul x0 z0)) (s0 : Fl.NoNaN64 (FP.dadd (0 : UInt64) (FP.dmul x0 z0))) (b1 : 0 ≤ y1.toInt ∧ y1.toInt ≤ 3) (t1 : ds.getD y1.toNatClampNeg (.double (FP.l2d 0)) = .double z1) (m1 : Fl.NoNaN64 (FP.dmul x1 z1)) (s1 : Fl.NoNaN64 (FP.dadd (FP.dadd (0 : UInt64) (FP.dmul x0 z0)) (FP.dmul x1 z1))) :
    MetFree l (⟨"com/example/scentwalk/scentwalk/learn/SparseVector", "dot", "([D)D"⟩ : MethodName) (head1 (Jvm.Cond.code (⟨"com/example/scentwalk/scentwalk/learn/SparseVector", "dot", "([D)D"⟩ : MethodName) prog_72_method_2_code 5 (some .double) :: ws) ({ frames := 0, cells := 0, slots := 0, locals := 0 } : Room)) (fun a U => a = #[(.ref a1), (.ref ad)] ∧ Z.Warmed39 U.vm ∧ U.heap = h0) (fun _ _ _ _ _ => True) (fun _ U o U' => ∃ v L, o = .returned v ∧ QD (FP.dadd (FP.dadd (0 : UInt64) (FP.dmul x0 z0)) (FP.dmul x1 z1)) h0 n0 v U'.heap L ∧ FrameEnd U o U' L ({ frames := 0, cells := 0, slots := 0, locals := 0 } : Room).cells ({ frames := 0, cells := 0, slots := 0, locals := 0 } : Room).slots) := by
  refine MetFree.of_bodySF (plainFor_of_name pn_5) hisR ?_
  intro p e s m args below meth c s₁ Bd hml0 hP hK
  obtain ⟨rfl, hZ, hh⟩ := hP
  have hx := Bd.exec
  have hby := Bd.bytes
  have hml : c.maxLocals = 5 := hml0
  have hown : s.vm.findClass "com/example/scentwalk/scentwalk/learn/SparseVector" = some m.cls := findClass_of_methodNamed Bd.named
  have hnm := (name_of_methodNamed Bd.named Bd.method).1
  have X0 : Stand p l e ({ frames := 0, cells := 0, slots := 0, locals := 0 } : Room) s m #[(.ref a1), (.ref ad)] below meth c s₁ [] 0 0 := Stand.of_body Bd
  have e0 : s₁.heap = h0 := by rw [← hh, Bd.state]; rfl
  have N0 := Fr.nil n0
  have c0 : Steps p.tables e below (s₁.setTop (entryFrame m #[(.ref a1), (.ref ad)] 5)) (s₁.setTop (mkF m 0 #[.val (.ref a1), .val (.ref ad), .unset, .unset, .unset] [])) := XT.entry rfl
  obtain ⟨T20, X20, e20, st20⟩ := getF X0 hx hZ hown (host := "") (Or.inl (hw _ (List.mem_of_getElem? (i := 20) rfl))) Via.refl e0 F1 (g := (mkF m 8 #[.val (.ref a1), .val (.ref ad), .val (.double (0 : UInt64)), .second, .val (.int (0 : Int32))] [(.ref a1), (.int (0 : Int32))])) rfl rfl (hb hby d5_8)
  obtain ⟨c21, A21, q21, S21, M21, H21, U21⟩ := id VI
  obtain ⟨T22, X22, e22, st22⟩ := getF X20 hx hZ hown (host := "") (Or.inl (hw _ (List.mem_of_getElem? (i := 22) rfl))) Via.refl e20 F2 (g := (mkF m 17 #[.val (.ref a1), .val (.ref ad), .val (.double (0 : UInt64)), .second, .val (.int (0 : Int32))] [(.ref a1), (.double (0 : UInt64))])) rfl rfl (hb hby d5_17)
  obtain ⟨c23, A23, q23, S23, M23, H23, U23⟩ := id VV
  have i23 := inb_of (j := (0 : Int32)) S23 ⟨by decide, by decide⟩
  have t23 := H23.at (v := (.double x0)) i23 rfl
  obtain ⟨T24, X24, e24, st24⟩ := getF X22 hx hZ hown (host := "") (Or.inl (hw _ (List.mem_of_getElem? (i := 20) rfl))) Via.refl e22 F1 (g := (mkF m 25 #[.val (.ref a1), .val (.ref ad), .val (.double (0 : UInt64)), .second, .val (.int (0 : Int32))] [(.ref a1), (.ref ad), (.double x0), (.double (0 : UInt64))])) rfl rfl (hb hby d5_25)
  obtain ⟨c25, A25, q25, S25, M25, H25, U25⟩ := id VI
  have i25 := inb_of (j := (0 : Int32)) S25 ⟨by decide, by decide⟩
  have t25 := H25.at (v := (.int y0)) i25 rfl
  obtain ⟨c26, A26, q26, S26, M26, H26, U26⟩ := id VD
  have i26 := inb_of (j := y0) S26 (own_ix b0.1 b0.2)
  have t26 := H26.at (v := (.double z0)) i26 t0
  obtain ⟨T27, X27, e27, st27⟩ := getF X24 hx hZ hown (host := "") (Or.inl (hw _ (List.mem_of_getElem? (i := 20) rfl))) Via.refl e24 F1 (g := (mkF m 8 #[.val (.ref a1), .val (.ref ad), .val (.double (FP.dadd (0 : UInt64) (FP.dmul x0 z0))), .second, .val (.int (1 : Int32))] [(.ref a1), (.int (1 : Int32))])) rfl rfl (hb hby d5_8)
  obtain ⟨c28, A28, q28, S28, M28, H28, U28⟩ := id VI
  obtain ⟨T29, X29, e29, st29⟩ := getF X27 hx hZ hown (host := "") (Or.inl (hw _ (List.mem_of_getElem? (i := 22) rfl))) Via.refl e27 F2 (g := (mkF m 17 #[.val (.ref a1), .val (.ref ad), .val (.double (FP.dadd (0 : UInt64) (FP.dmul x0 z0))), .second, .val (.int (1 : Int32))] [(.ref a1), (.double (FP.dadd (0 : UInt64) (FP.dmul x0 z0)))])) rfl rfl (hb hby d5_17)
  obtain ⟨c30, A30, q30, S30, M30, H30, U30⟩ := id VV
  have i30 := inb_of (j := (1 : Int32)) S30 ⟨by decide, by decide⟩
  have t30 := H30.at (v := (.double x1)) i30 rfl
  obtain ⟨T31, X31, e31, st31⟩ := getF X29 hx hZ hown (host := "") (Or.inl (hw _ (List.mem_of_getElem? (i := 20) rfl))) Via.refl e29 F1 (g := (mkF m 25 #[.val (.ref a1), .val (.ref ad), .val (.double (FP.dadd (0 : UInt64) (FP.dmul x0 z0))), .second, .val (.int (1 : Int32))] [(.ref a1), (.ref ad), (.double x1), (.double (FP.dadd (0 : UInt64) (FP.dmul x0 z0)))])) rfl rfl (hb hby d5_25)
  obtain ⟨c32, A32, q32, S32, M32, H32, U32⟩ := id VI
  have i32 := inb_of (j := (1 : Int32)) S32 ⟨by decide, by decide⟩
  have t32 := H32.at (v := (.int y1)) i32 rfl
  obtain ⟨c33, A33, q33, S33, M33, H33, U33⟩ := id VD
  have i33 := inb_of (j := y1) S33 (own_ix b1.1 b1.2)
  have t33 := H33.at (v := (.double z1)) i33 t1
  obtain ⟨T34, X34, e34, st34⟩ := getF X31 hx hZ hown (host := "") (Or.inl (hw _ (List.mem_of_getElem? (i := 20) rfl))) Via.refl e31 F1 (g := (mkF m 8 #[.val (.ref a1), .val (.ref ad), .val (.double (FP.dadd (FP.dadd (0 : UInt64) (FP.dmul x0 z0)) (FP.dmul x1 z1))), .second, .val (.int (2 : Int32))] [(.ref a1), (.int (2 : Int32))])) rfl rfl (hb hby d5_8)
  obtain ⟨c35, A35, q35, S35, M35, H35, U35⟩ := id VI
  have cc1 : Steps p.tables e below (s₁.setTop (entryFrame m #[(.ref a1), (.ref ad)] 5)) (T34.setTop (mkF m 42 #[.val (.ref a1), .val (.ref ad), .val (.double (FP.dadd (FP.dadd (0 : UInt64) (FP.dmul x0 z0)) (FP.dmul x1 z1))), .second, .val (.int (2 : Int32))] [(.double (FP.dadd (FP.dadd (0 : UInt64) (FP.dmul x0 z0)) (FP.dmul x1 z1)))])) := c0.trans (by
    refine XS.dconst0 X0.here hx rfl (v := (0 : UInt64)) (hb hby d5_0) rfl ?_
    refine XS.dstoreN X0.here hx rfl (hb hby d5_1) rfl (l' := #[.val (.ref a1), .val (.ref ad), .val (.double (0 : UInt64)), .second, .unset]) rfl ?_
    refine XT.iconstV X0.here hx rfl ((0 : Int32)) (hb hby d5_2) (by decide) ?_
    refine XS.istore X0.here hx rfl (hb hby d5_3) rfl (l' := #[.val (.ref a1), .val (.ref ad), .val (.double (0 : UInt64)), .second, .val (.int (0 : Int32))]) rfl ?_
    refine XS.iload X0.here hx rfl (hb hby d5_5) rfl ?_
    refine XS.aloadN X0.here hx rfl (hb hby d5_7) rfl rfl ?_
    refine st20 _ ?_
    refine X20.arraylength hx (cell := c21) (by rw [e20]; exact A21.1) (State.isArrayOf_alike hZ.alike A21.2.1) (g := (mkF m 11 #[.val (.ref a1), .val (.ref ad), .val (.double (0 : UInt64)), .second, .val (.int (0 : Int32))] [(.ref ai), (.int (0 : Int32))])) rfl (rest := [(.int (0 : Int32))]) rfl (hb hby d5_11) _ ?_
    rw [len_of S21 M21]
    show Steps p.tables e below (T20.setTop (mkF m 12 #[.val (.ref a1), .val (.ref ad), .val (.double (0 : UInt64)), .second, .val (.int (0 : Int32))] [(.int (2 : Int32)), (.int (0 : Int32))])) _
    refine XS.icmpNo X20.here hx rfl (hb hby d5_12) rfl (XT.ii_ge_f (by decide)) ?_
    refine XS.dloadN X20.here hx rfl (hb hby d5_15) rfl ?_
    refine XS.aloadN X20.here hx rfl (hb hby d5_16) rfl rfl ?_
    refine st22 _ ?_
    refine XS.iload X22.here hx rfl (hb hby d5_20) rfl ?_
    refine X22.daload hx (j := (0 : Int32)) (v := (.double x0)) (by rw [e22]; exact A23.1) (State.isArrayOf_alike hZ.alike A23.2.1) A23.2.2 i23 t23 (g := (mkF m 22 #[.val (.ref a1), .val (.ref ad), .val (.double (0 : UInt64)), .second, .val (.int (0 : Int32))] [(.int (0 : Int32)), (.ref av), (.double (0 : UInt64))])) rfl rfl (hb hby d5_22) _ ?_
    show Steps p.tables e below (T22.setTop (mkF m 23 #[.val (.ref a1), .val (.ref ad), .val (.double (0 : UInt64)), .second, .val (.int (0 : Int32))] [(.double x0), (.double (0 : UInt64))])) _
    refine XS.aloadN X22.here hx rfl (hb hby d5_23) rfl rfl ?_
    refine XS.aloadN X22.here hx rfl (hb hby d5_24) rfl rfl ?_
    refine st24 _ ?_
    refine XS.iload X24.here hx rfl (hb hby d5_28) rfl ?_
    refine X24.iaload hx (j := (0 : Int32)) (v := (.int y0)) (by rw [e24]; exact A25.1) (State.isArrayOf_alike hZ.alike A25.2.1) A25.2.2 i25 t25 (g := (mkF m 30 #[.val (.ref a1), .val (.ref ad), .val (.double (0 : UInt64)), .second, .val (.int (0 : Int32))] [(.int (0 : Int32)), (.ref ai), (.ref ad), (.double x0), (.double (0 : UInt64))])) rfl rfl (hb hby d5_30) _ ?_
    show Steps p.tables e below (T24.setTop (mkF m 31 #[.val (.ref a1), .val (.ref ad), .val (.double (0 : UInt64)), .second, .val (.int (0 : Int32))] [(.int y0), (.ref ad), (.double x0), (.double (0 : UInt64))])) _
    refine X24.daload hx (j := y0) (v := (.double z0)) (by rw [e24]; exact A26.1) (State.isArrayOf_alike hZ.alike A26.2.1) A26.2.2 i26 t26 (g := (mkF m 31 #[.val (.ref a1), .val (.ref ad), .val (.double (0 : UInt64)), .second, .val (.int (0 : Int32))] [(.int y0), (.ref ad), (.double x0), (.double (0 : UInt64))])) rfl rfl (hb hby d5_31) _ ?_
    show Steps p.tables e below (T24.setTop (mkF m 32 #[.val (.ref a1), .val (.ref ad), .val (.double (0 : UInt64)), .second, .val (.int (0 : Int32))] [(.double z0), (.double x0), (.double (0 : UInt64))])) _
    refine XS.dmulS X24.here hx rfl (hb hby d5_32) rfl m0 rfl ?_
    refine XS.daddS X24.here hx rfl (hb hby d5_33) rfl s0 rfl ?_
    refine XS.dstoreN X24.here hx rfl (hb hby d5_34) rfl (l' := #[.val (.ref a1), .val (.ref ad), .val (.double (FP.dadd (0 : UInt64) (FP.dmul x0 z0))), .second, .val (.int (0 : Int32))]) rfl ?_
    refine XS.iinc X24.here hx rfl (hb hby d5_35) rfl (l' := #[.val (.ref a1), .val (.ref ad), .val (.double (FP.dadd (0 : UInt64) (FP.dmul x0 z0))), .second, .val (.int (1 : Int32))]) rfl ?_
    refine XS.goto X24.here hx rfl (pc0 := 38) (pc' := 5) rfl (hb hby d5_38) (by decide) (by decide) ?_
    refine XS.iload X24.here hx rfl (hb hby d5_5) rfl ?_
    refine XS.aloadN X24.here hx rfl (hb hby d5_7) rfl rfl ?_
    refine st27 _ ?_
    refine X27.arraylength hx (cell := c28) (by rw [e27]; exact A28.1) (State.isArrayOf_alike hZ.alike A28.2.1) (g := (mkF m 11 #[.val (.ref a1), .val (.ref ad), .val (.double (FP.dadd (0 : UInt64) (FP.dmul x0 z0))), .second, .val (.int (1 : Int32))] [(.ref ai), (.int (1 : Int32))])) rfl (rest := [(.int (1 : Int32))]) rfl (hb hby d5_11) _ ?_
    rw [len_of S28 M28]
    show Steps p.tables e below (T27.setTop (mkF m 12 #[.val (.ref a1), .val (.ref ad), .val (.double (FP.dadd (0 : UInt64) (FP.dmul x0 z0))), .second, .val (.int (1 : Int32))] [(.int (2 : Int32)), (.int (1 : Int32))])) _
    refine XS.icmpNo X27.here hx rfl (hb hby d5_12) rfl (XT.ii_ge_f (by decide)) ?_
    refine XS.dloadN X27.here hx rfl (hb hby d5_15) rfl ?_
    refine XS.aloadN X27.here hx rfl (hb hby d5_16) rfl rfl ?_
    refine st29 _ ?_
    refine XS.iload X29.here hx rfl (hb hby d5_20) rfl ?_
    refine X29.daload hx (j := (1 : Int32)) (v := (.double x1)) (by rw [e29]; exact A30.1) (State.isArrayOf_alike hZ.alike A30.2.1) A30.2.2 i30 t30 (g := (mkF m 22 #[.val (.ref a1), .val (.ref ad), .val (.double (FP.dadd (0 : UInt64) (FP.dmul x0 z0))), .second, .val (.int (1 : Int32))] [(.int (1 : Int32)), (.ref av), (.double (FP.dadd (0 : UInt64) (FP.dmul x0 z0)))])) rfl rfl (hb hby d5_22) _ ?_
    show Steps p.tables e below (T29.setTop (mkF m 23 #[.val (.ref a1), .val (.ref ad), .val (.double (FP.dadd (0 : UInt64) (FP.dmul x0 z0))), .second, .val (.int (1 : Int32))] [(.double x1), (.double (FP.dadd (0 : UInt64) (FP.dmul x0 z0)))])) _
    refine XS.aloadN X29.here hx rfl (hb hby d5_23) rfl rfl ?_
    refine XS.aloadN X29.here hx rfl (hb hby d5_24) rfl rfl ?_
    refine st31 _ ?_
    refine XS.iload X31.here hx rfl (hb hby d5_28) rfl ?_
    refine X31.iaload hx (j := (1 : Int32)) (v := (.int y1)) (by rw [e31]; exact A32.1) (State.isArrayOf_alike hZ.alike A32.2.1) A32.2.2 i32 t32 (g := (mkF m 30 #[.val (.ref a1), .val (.ref ad), .val (.double (FP.dadd (0 : UInt64) (FP.dmul x0 z0))), .second, .val (.int (1 : Int32))] [(.int (1 : Int32)), (.ref ai), (.ref ad), (.double x1), (.double (FP.dadd (0 : UInt64) (FP.dmul x0 z0)))])) rfl rfl (hb hby d5_30) _ ?_
    show Steps p.tables e below (T31.setTop (mkF m 31 #[.val (.ref a1), .val (.ref ad), .val (.double (FP.dadd (0 : UInt64) (FP.dmul x0 z0))), .second, .val (.int (1 : Int32))] [(.int y1), (.ref ad), (.double x1), (.double (FP.dadd (0 : UInt64) (FP.dmul x0 z0)))])) _
    refine X31.daload hx (j := y1) (v := (.double z1)) (by rw [e31]; exact A33.1) (State.isArrayOf_alike hZ.alike A33.2.1) A33.2.2 i33 t33 (g := (mkF m 31 #[.val (.ref a1), .val (.ref ad), .val (.double (FP.dadd (0 : UInt64) (FP.dmul x0 z0))), .second, .val (.int (1 : Int32))] [(.int y1), (.ref ad), (.double x1), (.double (FP.dadd (0 : UInt64) (FP.dmul x0 z0)))])) rfl rfl (hb hby d5_31) _ ?_
    show Steps p.tables e below (T31.setTop (mkF m 32 #[.val (.ref a1), .val (.ref ad), .val (.double (FP.dadd (0 : UInt64) (FP.dmul x0 z0))), .second, .val (.int (1 : Int32))] [(.double z1), (.double x1), (.double (FP.dadd (0 : UInt64) (FP.dmul x0 z0)))])) _
    refine XS.dmulS X31.here hx rfl (hb hby d5_32) rfl m1 rfl ?_
    refine XS.daddS X31.here hx rfl (hb hby d5_33) rfl s1 rfl ?_
    refine XS.dstoreN X31.here hx rfl (hb hby d5_34) rfl (l' := #[.val (.ref a1), .val (.ref ad), .val (.double (FP.dadd (FP.dadd (0 : UInt64) (FP.dmul x0 z0)) (FP.dmul x1 z1))), .second, .val (.int (1 : Int32))]) rfl ?_
    refine XS.iinc X31.here hx rfl (hb hby d5_35) rfl (l' := #[.val (.ref a1), .val (.ref ad), .val (.double (FP.dadd (FP.dadd (0 : UInt64) (FP.dmul x0 z0)) (FP.dmul x1 z1))), .second, .val (.int (2 : Int32))]) rfl ?_
    refine XS.goto X31.here hx rfl (pc0 := 38) (pc' := 5) rfl (hb hby d5_38) (by decide) (by decide) ?_
    refine XS.iload X31.here hx rfl (hb hby d5_5) rfl ?_
    refine XS.aloadN X31.here hx rfl (hb hby d5_7) rfl rfl ?_
    refine st34 _ ?_
    refine X34.arraylength hx (cell := c35) (by rw [e34]; exact A35.1) (State.isArrayOf_alike hZ.alike A35.2.1) (g := (mkF m 11 #[.val (.ref a1), .val (.ref ad), .val (.double (FP.dadd (FP.dadd (0 : UInt64) (FP.dmul x0 z0)) (FP.dmul x1 z1))), .second, .val (.int (2 : Int32))] [(.ref ai), (.int (2 : Int32))])) rfl (rest := [(.int (2 : Int32))]) rfl (hb hby d5_11) _ ?_
    rw [len_of S35 M35]
    show Steps p.tables e below (T34.setTop (mkF m 12 #[.val (.ref a1), .val (.ref ad), .val (.double (FP.dadd (FP.dadd (0 : UInt64) (FP.dmul x0 z0)) (FP.dmul x1 z1))), .second, .val (.int (2 : Int32))] [(.int (2 : Int32)), (.int (2 : Int32))])) _
    refine XS.icmpYes X34.here hx rfl (pc0 := 12) (pc' := 41) rfl (hb hby d5_12) rfl (XT.ii_ge_t (by decide)) (by decide) (by decide) ?_
    refine XS.dloadN X34.here hx rfl (hb hby d5_41) rfl ?_
    exact Steps.refl _)
  obtain ⟨fs, hr, hrun, hended, hW, hsame⟩ := X34.leave (v := some (.double (FP.dadd (FP.dadd (0 : UInt64) (FP.dmul x0 z0)) (FP.dmul x1 z1)))) (fun h => by rw [Bd.returns] at h; cases h)
  refine ⟨_, _, cc1.trans ?_, hrun, hended, _, _, rfl, ?_, ⟨_, rfl⟩, hW, hsame.mono (by decide) (by decide)⟩
  · exact retD X34 hx Bd.returns (hb hby d5_42) hr
  · show QD (FP.dadd (FP.dadd (0 : UInt64) (FP.dmul x0 z0)) (FP.dmul x1 z1)) h0 n0 _ T34.heap _
    rw [e34]
    exact ⟨rfl, N0, rfl⟩
set_option maxRecDepth 65536 in
set_option maxHeartbeats 40000000 in
theorem rmD3 (l : Launch) (Z : State) (a0 : Array Value) (hw : ∀ d ∈ tables_1, d.before a0 Z = true) (ws : List Jvm.Cond) (a1 : Addr) (ad : Addr) (ai : Addr) (av : Addr) (ki : ClassId) (kv : ClassId) (kd : ClassId) (ds : List Value) (y0 : Int32) (y1 : Int32) (y2 : Int32) (x0 : UInt64) (x1 : UInt64) (x2 : UInt64) (z0 : UInt64) (z1 : UInt64) (z2 : UInt64) (h0 : Heap) (n0 : Nat) (Z0 : n0 ≤ h0.size) (F1 : Fld Z h0 a1 "com/example/scentwalk/scentwalk/learn/SparseVector" "indices" "[I" (.ref ai)) (F2 : Fld Z h0 a1 "com/example/scentwalk/scentwalk/learn/SparseVector" "values" "[D" (.ref av)) (VI : Arv Z h0 ai ki .int (3 : Int32) [(.int y0), (.int y1), (.int y2)] (.int (0 : Int32))) (VV : Arv Z h0 av kv .double (3 : Int32) [(.double x0), (.double x1), (.double x2)] (.double (FP.l2d 0))) (VD : Arv Z h0 ad kd .double (4 : Int32) ds (.double (FP.l2d 0))) (b0 : 0 ≤ y0.toInt ∧ y0.toInt ≤ 3) (t0 : ds.getD y0.toNatClampNeg (.double (FP.l2d 0)) = .double z0) (m0 : Fl.NoNaN64 (FP.dmul x0 z0)) (s0 : Fl.NoNaN64 (FP.dadd (0 : UInt64) (FP.dmul x0 z0))) (b1 : 0 ≤ y1.toInt ∧ y1.toInt ≤ 3) (t1 : ds.getD y1.toNatClampNeg (.double (FP.l2d 0)) = .double z1) (m1 : Fl.NoNaN64 (FP.dmul x1 z1)) (s1 : Fl.NoNaN64 (FP.dadd (FP.dadd (0 : UInt64) (FP.dmul x0 z0)) (FP.dmul x1 z1))) (b2 : 0 ≤ y2.toInt ∧ y2.toInt ≤ 3) (t2 : ds.getD y2.toNatClampNeg (.double (FP.l2d 0)) = .double z2) (m2 : Fl.NoNaN64 (FP.dmul x2 z2)) (s2 : Fl.NoNaN64 (FP.dadd (FP.dadd (FP.dadd (0 : UInt64) (FP.dmul x0 z0)) (FP.dmul x1 z1)) (FP.dmul x2 z2))) :
    MetFree l (⟨"com/example/scentwalk/scentwalk/learn/SparseVector", "dot", "([D)D"⟩ : MethodName) (head1 (Jvm.Cond.code (⟨"com/example/scentwalk/scentwalk/learn/SparseVector", "dot", "([D)D"⟩ : MethodName) prog_72_method_2_code 5 (some .double) :: ws) ({ frames := 0, cells := 0, slots := 0, locals := 0 } : Room)) (fun a U => a = #[(.ref a1), (.ref ad)] ∧ Z.Warmed39 U.vm ∧ U.heap = h0) (fun _ _ _ _ _ => True) (fun _ U o U' => ∃ v L, o = .returned v ∧ QD (FP.dadd (FP.dadd (FP.dadd (0 : UInt64) (FP.dmul x0 z0)) (FP.dmul x1 z1)) (FP.dmul x2 z2)) h0 n0 v U'.heap L ∧ FrameEnd U o U' L ({ frames := 0, cells := 0, slots := 0, locals := 0 } : Room).cells ({ frames := 0, cells := 0, slots := 0, locals := 0 } : Room).slots) := by
  refine MetFree.of_bodySF (plainFor_of_name pn_5) hisR ?_
  intro p e s m args below meth c s₁ Bd hml0 hP hK
  obtain ⟨rfl, hZ, hh⟩ := hP
  have hx := Bd.exec
  have hby := Bd.bytes
  have hml : c.maxLocals = 5 := hml0
  have hown : s.vm.findClass "com/example/scentwalk/scentwalk/learn/SparseVector" = some m.cls := findClass_of_methodNamed Bd.named
  have hnm := (name_of_methodNamed Bd.named Bd.method).1
  have X0 : Stand p l e ({ frames := 0, cells := 0, slots := 0, locals := 0 } : Room) s m #[(.ref a1), (.ref ad)] below meth c s₁ [] 0 0 := Stand.of_body Bd
  have e0 : s₁.heap = h0 := by rw [← hh, Bd.state]; rfl
  have N0 := Fr.nil n0
  have c0 : Steps p.tables e below (s₁.setTop (entryFrame m #[(.ref a1), (.ref ad)] 5)) (s₁.setTop (mkF m 0 #[.val (.ref a1), .val (.ref ad), .unset, .unset, .unset] [])) := XT.entry rfl
  obtain ⟨T36, X36, e36, st36⟩ := getF X0 hx hZ hown (host := "") (Or.inl (hw _ (List.mem_of_getElem? (i := 20) rfl))) Via.refl e0 F1 (g := (mkF m 8 #[.val (.ref a1), .val (.ref ad), .val (.double (0 : UInt64)), .second, .val (.int (0 : Int32))] [(.ref a1), (.int (0 : Int32))])) rfl rfl (hb hby d5_8)
  obtain ⟨c37, A37, q37, S37, M37, H37, U37⟩ := id VI
  obtain ⟨T38, X38, e38, st38⟩ := getF X36 hx hZ hown (host := "") (Or.inl (hw _ (List.mem_of_getElem? (i := 22) rfl))) Via.refl e36 F2 (g := (mkF m 17 #[.val (.ref a1), .val (.ref ad), .val (.double (0 : UInt64)), .second, .val (.int (0 : Int32))] [(.ref a1), (.double (0 : UInt64))])) rfl rfl (hb hby d5_17)
  obtain ⟨c39, A39, q39, S39, M39, H39, U39⟩ := id VV
  have i39 := inb_of (j := (0 : Int32)) S39 ⟨by decide, by decide⟩
  have t39 := H39.at (v := (.double x0)) i39 rfl
  obtain ⟨T40, X40, e40, st40⟩ := getF X38 hx hZ hown (host := "") (Or.inl (hw _ (List.mem_of_getElem? (i := 20) rfl))) Via.refl e38 F1 (g := (mkF m 25 #[.val (.ref a1), .val (.ref ad), .val (.double (0 : UInt64)), .second, .val (.int (0 : Int32))] [(.ref a1), (.ref ad), (.double x0), (.double (0 : UInt64))])) rfl rfl (hb hby d5_25)
  obtain ⟨c41, A41, q41, S41, M41, H41, U41⟩ := id VI
  have i41 := inb_of (j := (0 : Int32)) S41 ⟨by decide, by decide⟩
  have t41 := H41.at (v := (.int y0)) i41 rfl
  obtain ⟨c42, A42, q42, S42, M42, H42, U42⟩ := id VD
  have i42 := inb_of (j := y0) S42 (own_ix b0.1 b0.2)
  have t42 := H42.at (v := (.double z0)) i42 t0
  obtain ⟨T43, X43, e43, st43⟩ := getF X40 hx hZ hown (host := "") (Or.inl (hw _ (List.mem_of_getElem? (i := 20) rfl))) Via.refl e40 F1 (g := (mkF m 8 #[.val (.ref a1), .val (.ref ad), .val (.double (FP.dadd (0 : UInt64) (FP.dmul x0 z0))), .second, .val (.int (1 : Int32))] [(.ref a1), (.int (1 : Int32))])) rfl rfl (hb hby d5_8)
  obtain ⟨c44, A44, q44, S44, M44, H44, U44⟩ := id VI
  obtain ⟨T45, X45, e45, st45⟩ := getF X43 hx hZ hown (host := "") (Or.inl (hw _ (List.mem_of_getElem? (i := 22) rfl))) Via.refl e43 F2 (g := (mkF m 17 #[.val (.ref a1), .val (.ref ad), .val (.double (FP.dadd (0 : UInt64) (FP.dmul x0 z0))), .second, .val (.int (1 : Int32))] [(.ref a1), (.double (FP.dadd (0 : UInt64) (FP.dmul x0 z0)))])) rfl rfl (hb hby d5_17)
  obtain ⟨c46, A46, q46, S46, M46, H46, U46⟩ := id VV
  have i46 := inb_of (j := (1 : Int32)) S46 ⟨by decide, by decide⟩
  have t46 := H46.at (v := (.double x1)) i46 rfl
  obtain ⟨T47, X47, e47, st47⟩ := getF X45 hx hZ hown (host := "") (Or.inl (hw _ (List.mem_of_getElem? (i := 20) rfl))) Via.refl e45 F1 (g := (mkF m 25 #[.val (.ref a1), .val (.ref ad), .val (.double (FP.dadd (0 : UInt64) (FP.dmul x0 z0))), .second, .val (.int (1 : Int32))] [(.ref a1), (.ref ad), (.double x1), (.double (FP.dadd (0 : UInt64) (FP.dmul x0 z0)))])) rfl rfl (hb hby d5_25)
  obtain ⟨c48, A48, q48, S48, M48, H48, U48⟩ := id VI
  have i48 := inb_of (j := (1 : Int32)) S48 ⟨by decide, by decide⟩
  have t48 := H48.at (v := (.int y1)) i48 rfl
  obtain ⟨c49, A49, q49, S49, M49, H49, U49⟩ := id VD
  have i49 := inb_of (j := y1) S49 (own_ix b1.1 b1.2)
  have t49 := H49.at (v := (.double z1)) i49 t1
  obtain ⟨T50, X50, e50, st50⟩ := getF X47 hx hZ hown (host := "") (Or.inl (hw _ (List.mem_of_getElem? (i := 20) rfl))) Via.refl e47 F1 (g := (mkF m 8 #[.val (.ref a1), .val (.ref ad), .val (.double (FP.dadd (FP.dadd (0 : UInt64) (FP.dmul x0 z0)) (FP.dmul x1 z1))), .second, .val (.int (2 : Int32))] [(.ref a1), (.int (2 : Int32))])) rfl rfl (hb hby d5_8)
  obtain ⟨c51, A51, q51, S51, M51, H51, U51⟩ := id VI
  obtain ⟨T52, X52, e52, st52⟩ := getF X50 hx hZ hown (host := "") (Or.inl (hw _ (List.mem_of_getElem? (i := 22) rfl))) Via.refl e50 F2 (g := (mkF m 17 #[.val (.ref a1), .val (.ref ad), .val (.double (FP.dadd (FP.dadd (0 : UInt64) (FP.dmul x0 z0)) (FP.dmul x1 z1))), .second, .val (.int (2 : Int32))] [(.ref a1), (.double (FP.dadd (FP.dadd (0 : UInt64) (FP.dmul x0 z0)) (FP.dmul x1 z1)))])) rfl rfl (hb hby d5_17)
  obtain ⟨c53, A53, q53, S53, M53, H53, U53⟩ := id VV
  have i53 := inb_of (j := (2 : Int32)) S53 ⟨by decide, by decide⟩
  have t53 := H53.at (v := (.double x2)) i53 rfl
  obtain ⟨T54, X54, e54, st54⟩ := getF X52 hx hZ hown (host := "") (Or.inl (hw _ (List.mem_of_getElem? (i := 20) rfl))) Via.refl e52 F1 (g := (mkF m 25 #[.val (.ref a1), .val (.ref ad), .val (.double (FP.dadd (FP.dadd (0 : UInt64) (FP.dmul x0 z0)) (FP.dmul x1 z1))), .second, .val (.int (2 : Int32))] [(.ref a1), (.ref ad), (.double x2), (.double (FP.dadd (FP.dadd (0 : UInt64) (FP.dmul x0 z0)) (FP.dmul x1 z1)))])) rfl rfl (hb hby d5_25)
  obtain ⟨c55, A55, q55, S55, M55, H55, U55⟩ := id VI
  have i55 := inb_of (j := (2 : Int32)) S55 ⟨by decide, by decide⟩
  have t55 := H55.at (v := (.int y2)) i55 rfl
  obtain ⟨c56, A56, q56, S56, M56, H56, U56⟩ := id VD
  have i56 := inb_of (j := y2) S56 (own_ix b2.1 b2.2)
  have t56 := H56.at (v := (.double z2)) i56 t2
  obtain ⟨T57, X57, e57, st57⟩ := getF X54 hx hZ hown (host := "") (Or.inl (hw _ (List.mem_of_getElem? (i := 20) rfl))) Via.refl e54 F1 (g := (mkF m 8 #[.val (.ref a1), .val (.ref ad), .val (.double (FP.dadd (FP.dadd (FP.dadd (0 : UInt64) (FP.dmul x0 z0)) (FP.dmul x1 z1)) (FP.dmul x2 z2))), .second, .val (.int (3 : Int32))] [(.ref a1), (.int (3 : Int32))])) rfl rfl (hb hby d5_8)
  obtain ⟨c58, A58, q58, S58, M58, H58, U58⟩ := id VI
  have cc1 : Steps p.tables e below (s₁.setTop (entryFrame m #[(.ref a1), (.ref ad)] 5)) (T57.setTop (mkF m 42 #[.val (.ref a1), .val (.ref ad), .val (.double (FP.dadd (FP.dadd (FP.dadd (0 : UInt64) (FP.dmul x0 z0)) (FP.dmul x1 z1)) (FP.dmul x2 z2))), .second, .val (.int (3 : Int32))] [(.double (FP.dadd (FP.dadd (FP.dadd (0 : UInt64) (FP.dmul x0 z0)) (FP.dmul x1 z1)) (FP.dmul x2 z2)))])) := c0.trans (by
    refine XS.dconst0 X0.here hx rfl (v := (0 : UInt64)) (hb hby d5_0) rfl ?_
    refine XS.dstoreN X0.here hx rfl (hb hby d5_1) rfl (l' := #[.val (.ref a1), .val (.ref ad), .val (.double (0 : UInt64)), .second, .unset]) rfl ?_
    refine XT.iconstV X0.here hx rfl ((0 : Int32)) (hb hby d5_2) (by decide) ?_
    refine XS.istore X0.here hx rfl (hb hby d5_3) rfl (l' := #[.val (.ref a1), .val (.ref ad), .val (.double (0 : UInt64)), .second, .val (.int (0 : Int32))]) rfl ?_
    refine XS.iload X0.here hx rfl (hb hby d5_5) rfl ?_
    refine XS.aloadN X0.here hx rfl (hb hby d5_7) rfl rfl ?_
    refine st36 _ ?_
    refine X36.arraylength hx (cell := c37) (by rw [e36]; exact A37.1) (State.isArrayOf_alike hZ.alike A37.2.1) (g := (mkF m 11 #[.val (.ref a1), .val (.ref ad), .val (.double (0 : UInt64)), .second, .val (.int (0 : Int32))] [(.ref ai), (.int (0 : Int32))])) rfl (rest := [(.int (0 : Int32))]) rfl (hb hby d5_11) _ ?_
    rw [len_of S37 M37]
    show Steps p.tables e below (T36.setTop (mkF m 12 #[.val (.ref a1), .val (.ref ad), .val (.double (0 : UInt64)), .second, .val (.int (0 : Int32))] [(.int (3 : Int32)), (.int (0 : Int32))])) _
    refine XS.icmpNo X36.here hx rfl (hb hby d5_12) rfl (XT.ii_ge_f (by decide)) ?_
    refine XS.dloadN X36.here hx rfl (hb hby d5_15) rfl ?_
    refine XS.aloadN X36.here hx rfl (hb hby d5_16) rfl rfl ?_
    refine st38 _ ?_
    refine XS.iload X38.here hx rfl (hb hby d5_20) rfl ?_
    refine X38.daload hx (j := (0 : Int32)) (v := (.double x0)) (by rw [e38]; exact A39.1) (State.isArrayOf_alike hZ.alike A39.2.1) A39.2.2 i39 t39 (g := (mkF m 22 #[.val (.ref a1), .val (.ref ad), .val (.double (0 : UInt64)), .second, .val (.int (0 : Int32))] [(.int (0 : Int32)), (.ref av), (.double (0 : UInt64))])) rfl rfl (hb hby d5_22) _ ?_
    show Steps p.tables e below (T38.setTop (mkF m 23 #[.val (.ref a1), .val (.ref ad), .val (.double (0 : UInt64)), .second, .val (.int (0 : Int32))] [(.double x0), (.double (0 : UInt64))])) _
    refine XS.aloadN X38.here hx rfl (hb hby d5_23) rfl rfl ?_
    refine XS.aloadN X38.here hx rfl (hb hby d5_24) rfl rfl ?_
    refine st40 _ ?_
    refine XS.iload X40.here hx rfl (hb hby d5_28) rfl ?_
    refine X40.iaload hx (j := (0 : Int32)) (v := (.int y0)) (by rw [e40]; exact A41.1) (State.isArrayOf_alike hZ.alike A41.2.1) A41.2.2 i41 t41 (g := (mkF m 30 #[.val (.ref a1), .val (.ref ad), .val (.double (0 : UInt64)), .second, .val (.int (0 : Int32))] [(.int (0 : Int32)), (.ref ai), (.ref ad), (.double x0), (.double (0 : UInt64))])) rfl rfl (hb hby d5_30) _ ?_
    show Steps p.tables e below (T40.setTop (mkF m 31 #[.val (.ref a1), .val (.ref ad), .val (.double (0 : UInt64)), .second, .val (.int (0 : Int32))] [(.int y0), (.ref ad), (.double x0), (.double (0 : UInt64))])) _
    refine X40.daload hx (j := y0) (v := (.double z0)) (by rw [e40]; exact A42.1) (State.isArrayOf_alike hZ.alike A42.2.1) A42.2.2 i42 t42 (g := (mkF m 31 #[.val (.ref a1), .val (.ref ad), .val (.double (0 : UInt64)), .second, .val (.int (0 : Int32))] [(.int y0), (.ref ad), (.double x0), (.double (0 : UInt64))])) rfl rfl (hb hby d5_31) _ ?_
    show Steps p.tables e below (T40.setTop (mkF m 32 #[.val (.ref a1), .val (.ref ad), .val (.double (0 : UInt64)), .second, .val (.int (0 : Int32))] [(.double z0), (.double x0), (.double (0 : UInt64))])) _
    refine XS.dmulS X40.here hx rfl (hb hby d5_32) rfl m0 rfl ?_
    refine XS.daddS X40.here hx rfl (hb hby d5_33) rfl s0 rfl ?_
    refine XS.dstoreN X40.here hx rfl (hb hby d5_34) rfl (l' := #[.val (.ref a1), .val (.ref ad), .val (.double (FP.dadd (0 : UInt64) (FP.dmul x0 z0))), .second, .val (.int (0 : Int32))]) rfl ?_
    refine XS.iinc X40.here hx rfl (hb hby d5_35) rfl (l' := #[.val (.ref a1), .val (.ref ad), .val (.double (FP.dadd (0 : UInt64) (FP.dmul x0 z0))), .second, .val (.int (1 : Int32))]) rfl ?_
    refine XS.goto X40.here hx rfl (pc0 := 38) (pc' := 5) rfl (hb hby d5_38) (by decide) (by decide) ?_
    refine XS.iload X40.here hx rfl (hb hby d5_5) rfl ?_
    refine XS.aloadN X40.here hx rfl (hb hby d5_7) rfl rfl ?_
    refine st43 _ ?_
    refine X43.arraylength hx (cell := c44) (by rw [e43]; exact A44.1) (State.isArrayOf_alike hZ.alike A44.2.1) (g := (mkF m 11 #[.val (.ref a1), .val (.ref ad), .val (.double (FP.dadd (0 : UInt64) (FP.dmul x0 z0))), .second, .val (.int (1 : Int32))] [(.ref ai), (.int (1 : Int32))])) rfl (rest := [(.int (1 : Int32))]) rfl (hb hby d5_11) _ ?_
    rw [len_of S44 M44]
    show Steps p.tables e below (T43.setTop (mkF m 12 #[.val (.ref a1), .val (.ref ad), .val (.double (FP.dadd (0 : UInt64) (FP.dmul x0 z0))), .second, .val (.int (1 : Int32))] [(.int (3 : Int32)), (.int (1 : Int32))])) _
    refine XS.icmpNo X43.here hx rfl (hb hby d5_12) rfl (XT.ii_ge_f (by decide)) ?_
    refine XS.dloadN X43.here hx rfl (hb hby d5_15) rfl ?_
    refine XS.aloadN X43.here hx rfl (hb hby d5_16) rfl rfl ?_
    refine st45 _ ?_
    refine XS.iload X45.here hx rfl (hb hby d5_20) rfl ?_
    refine X45.daload hx (j := (1 : Int32)) (v := (.double x1)) (by rw [e45]; exact A46.1) (State.isArrayOf_alike hZ.alike A46.2.1) A46.2.2 i46 t46 (g := (mkF m 22 #[.val (.ref a1), .val (.ref ad), .val (.double (FP.dadd (0 : UInt64) (FP.dmul x0 z0))), .second, .val (.int (1 : Int32))] [(.int (1 : Int32)), (.ref av), (.double (FP.dadd (0 : UInt64) (FP.dmul x0 z0)))])) rfl rfl (hb hby d5_22) _ ?_
    show Steps p.tables e below (T45.setTop (mkF m 23 #[.val (.ref a1), .val (.ref ad), .val (.double (FP.dadd (0 : UInt64) (FP.dmul x0 z0))), .second, .val (.int (1 : Int32))] [(.double x1), (.double (FP.dadd (0 : UInt64) (FP.dmul x0 z0)))])) _
    refine XS.aloadN X45.here hx rfl (hb hby d5_23) rfl rfl ?_
    refine XS.aloadN X45.here hx rfl (hb hby d5_24) rfl rfl ?_
    refine st47 _ ?_
    refine XS.iload X47.here hx rfl (hb hby d5_28) rfl ?_
    refine X47.iaload hx (j := (1 : Int32)) (v := (.int y1)) (by rw [e47]; exact A48.1) (State.isArrayOf_alike hZ.alike A48.2.1) A48.2.2 i48 t48 (g := (mkF m 30 #[.val (.ref a1), .val (.ref ad), .val (.double (FP.dadd (0 : UInt64) (FP.dmul x0 z0))), .second, .val (.int (1 : Int32))] [(.int (1 : Int32)), (.ref ai), (.ref ad), (.double x1), (.double (FP.dadd (0 : UInt64) (FP.dmul x0 z0)))])) rfl rfl (hb hby d5_30) _ ?_
    show Steps p.tables e below (T47.setTop (mkF m 31 #[.val (.ref a1), .val (.ref ad), .val (.double (FP.dadd (0 : UInt64) (FP.dmul x0 z0))), .second, .val (.int (1 : Int32))] [(.int y1), (.ref ad), (.double x1), (.double (FP.dadd (0 : UInt64) (FP.dmul x0 z0)))])) _
    refine X47.daload hx (j := y1) (v := (.double z1)) (by rw [e47]; exact A49.1) (State.isArrayOf_alike hZ.alike A49.2.1) A49.2.2 i49 t49 (g := (mkF m 31 #[.val (.ref a1), .val (.ref ad), .val (.double (FP.dadd (0 : UInt64) (FP.dmul x0 z0))), .second, .val (.int (1 : Int32))] [(.int y1), (.ref ad), (.double x1), (.double (FP.dadd (0 : UInt64) (FP.dmul x0 z0)))])) rfl rfl (hb hby d5_31) _ ?_
    show Steps p.tables e below (T47.setTop (mkF m 32 #[.val (.ref a1), .val (.ref ad), .val (.double (FP.dadd (0 : UInt64) (FP.dmul x0 z0))), .second, .val (.int (1 : Int32))] [(.double z1), (.double x1), (.double (FP.dadd (0 : UInt64) (FP.dmul x0 z0)))])) _
    refine XS.dmulS X47.here hx rfl (hb hby d5_32) rfl m1 rfl ?_
    refine XS.daddS X47.here hx rfl (hb hby d5_33) rfl s1 rfl ?_
    refine XS.dstoreN X47.here hx rfl (hb hby d5_34) rfl (l' := #[.val (.ref a1), .val (.ref ad), .val (.double (FP.dadd (FP.dadd (0 : UInt64) (FP.dmul x0 z0)) (FP.dmul x1 z1))), .second, .val (.int (1 : Int32))]) rfl ?_
    refine XS.iinc X47.here hx rfl (hb hby d5_35) rfl (l' := #[.val (.ref a1), .val (.ref ad), .val (.double (FP.dadd (FP.dadd (0 : UInt64) (FP.dmul x0 z0)) (FP.dmul x1 z1))), .second, .val (.int (2 : Int32))]) rfl ?_
    refine XS.goto X47.here hx rfl (pc0 := 38) (pc' := 5) rfl (hb hby d5_38) (by decide) (by decide) ?_
    refine XS.iload X47.here hx rfl (hb hby d5_5) rfl ?_
    refine XS.aloadN X47.here hx rfl (hb hby d5_7) rfl rfl ?_
    refine st50 _ ?_
    refine X50.arraylength hx (cell := c51) (by rw [e50]; exact A51.1) (State.isArrayOf_alike hZ.alike A51.2.1) (g := (mkF m 11 #[.val (.ref a1), .val (.ref ad), .val (.double (FP.dadd (FP.dadd (0 : UInt64) (FP.dmul x0 z0)) (FP.dmul x1 z1))), .second, .val (.int (2 : Int32))] [(.ref ai), (.int (2 : Int32))])) rfl (rest := [(.int (2 : Int32))]) rfl (hb hby d5_11) _ ?_
    rw [len_of S51 M51]
    show Steps p.tables e below (T50.setTop (mkF m 12 #[.val (.ref a1), .val (.ref ad), .val (.double (FP.dadd (FP.dadd (0 : UInt64) (FP.dmul x0 z0)) (FP.dmul x1 z1))), .second, .val (.int (2 : Int32))] [(.int (3 : Int32)), (.int (2 : Int32))])) _
    refine XS.icmpNo X50.here hx rfl (hb hby d5_12) rfl (XT.ii_ge_f (by decide)) ?_
    refine XS.dloadN X50.here hx rfl (hb hby d5_15) rfl ?_
    refine XS.aloadN X50.here hx rfl (hb hby d5_16) rfl rfl ?_
    refine st52 _ ?_
    refine XS.iload X52.here hx rfl (hb hby d5_20) rfl ?_
    refine X52.daload hx (j := (2 : Int32)) (v := (.double x2)) (by rw [e52]; exact A53.1) (State.isArrayOf_alike hZ.alike A53.2.1) A53.2.2 i53 t53 (g := (mkF m 22 #[.val (.ref a1), .val (.ref ad), .val (.double (FP.dadd (FP.dadd (0 : UInt64) (FP.dmul x0 z0)) (FP.dmul x1 z1))), .second, .val (.int (2 : Int32))] [(.int (2 : Int32)), (.ref av), (.double (FP.dadd (FP.dadd (0 : UInt64) (FP.dmul x0 z0)) (FP.dmul x1 z1)))])) rfl rfl (hb hby d5_22) _ ?_
    show Steps p.tables e below (T52.setTop (mkF m 23 #[.val (.ref a1), .val (.ref ad), .val (.double (FP.dadd (FP.dadd (0 : UInt64) (FP.dmul x0 z0)) (FP.dmul x1 z1))), .second, .val (.int (2 : Int32))] [(.double x2), (.double (FP.dadd (FP.dadd (0 : UInt64) (FP.dmul x0 z0)) (FP.dmul x1 z1)))])) _
    refine XS.aloadN X52.here hx rfl (hb hby d5_23) rfl rfl ?_
    refine XS.aloadN X52.here hx rfl (hb hby d5_24) rfl rfl ?_
    refine st54 _ ?_
    refine XS.iload X54.here hx rfl (hb hby d5_28) rfl ?_
    refine X54.iaload hx (j := (2 : Int32)) (v := (.int y2)) (by rw [e54]; exact A55.1) (State.isArrayOf_alike hZ.alike A55.2.1) A55.2.2 i55 t55 (g := (mkF m 30 #[.val (.ref a1), .val (.ref ad), .val (.double (FP.dadd (FP.dadd (0 : UInt64) (FP.dmul x0 z0)) (FP.dmul x1 z1))), .second, .val (.int (2 : Int32))] [(.int (2 : Int32)), (.ref ai), (.ref ad), (.double x2), (.double (FP.dadd (FP.dadd (0 : UInt64) (FP.dmul x0 z0)) (FP.dmul x1 z1)))])) rfl rfl (hb hby d5_30) _ ?_
    show Steps p.tables e below (T54.setTop (mkF m 31 #[.val (.ref a1), .val (.ref ad), .val (.double (FP.dadd (FP.dadd (0 : UInt64) (FP.dmul x0 z0)) (FP.dmul x1 z1))), .second, .val (.int (2 : Int32))] [(.int y2), (.ref ad), (.double x2), (.double (FP.dadd (FP.dadd (0 : UInt64) (FP.dmul x0 z0)) (FP.dmul x1 z1)))])) _
    refine X54.daload hx (j := y2) (v := (.double z2)) (by rw [e54]; exact A56.1) (State.isArrayOf_alike hZ.alike A56.2.1) A56.2.2 i56 t56 (g := (mkF m 31 #[.val (.ref a1), .val (.ref ad), .val (.double (FP.dadd (FP.dadd (0 : UInt64) (FP.dmul x0 z0)) (FP.dmul x1 z1))), .second, .val (.int (2 : Int32))] [(.int y2), (.ref ad), (.double x2), (.double (FP.dadd (FP.dadd (0 : UInt64) (FP.dmul x0 z0)) (FP.dmul x1 z1)))])) rfl rfl (hb hby d5_31) _ ?_
    show Steps p.tables e below (T54.setTop (mkF m 32 #[.val (.ref a1), .val (.ref ad), .val (.double (FP.dadd (FP.dadd (0 : UInt64) (FP.dmul x0 z0)) (FP.dmul x1 z1))), .second, .val (.int (2 : Int32))] [(.double z2), (.double x2), (.double (FP.dadd (FP.dadd (0 : UInt64) (FP.dmul x0 z0)) (FP.dmul x1 z1)))])) _
    refine XS.dmulS X54.here hx rfl (hb hby d5_32) rfl m2 rfl ?_
    refine XS.daddS X54.here hx rfl (hb hby d5_33) rfl s2 rfl ?_
    refine XS.dstoreN X54.here hx rfl (hb hby d5_34) rfl (l' := #[.val (.ref a1), .val (.ref ad), .val (.double (FP.dadd (FP.dadd (FP.dadd (0 : UInt64) (FP.dmul x0 z0)) (FP.dmul x1 z1)) (FP.dmul x2 z2))), .second, .val (.int (2 : Int32))]) rfl ?_
    refine XS.iinc X54.here hx rfl (hb hby d5_35) rfl (l' := #[.val (.ref a1), .val (.ref ad), .val (.double (FP.dadd (FP.dadd (FP.dadd (0 : UInt64) (FP.dmul x0 z0)) (FP.dmul x1 z1)) (FP.dmul x2 z2))), .second, .val (.int (3 : Int32))]) rfl ?_
    refine XS.goto X54.here hx rfl (pc0 := 38) (pc' := 5) rfl (hb hby d5_38) (by decide) (by decide) ?_
    refine XS.iload X54.here hx rfl (hb hby d5_5) rfl ?_
    refine XS.aloadN X54.here hx rfl (hb hby d5_7) rfl rfl ?_
    refine st57 _ ?_
    refine X57.arraylength hx (cell := c58) (by rw [e57]; exact A58.1) (State.isArrayOf_alike hZ.alike A58.2.1) (g := (mkF m 11 #[.val (.ref a1), .val (.ref ad), .val (.double (FP.dadd (FP.dadd (FP.dadd (0 : UInt64) (FP.dmul x0 z0)) (FP.dmul x1 z1)) (FP.dmul x2 z2))), .second, .val (.int (3 : Int32))] [(.ref ai), (.int (3 : Int32))])) rfl (rest := [(.int (3 : Int32))]) rfl (hb hby d5_11) _ ?_
    rw [len_of S58 M58]
    show Steps p.tables e below (T57.setTop (mkF m 12 #[.val (.ref a1), .val (.ref ad), .val (.double (FP.dadd (FP.dadd (FP.dadd (0 : UInt64) (FP.dmul x0 z0)) (FP.dmul x1 z1)) (FP.dmul x2 z2))), .second, .val (.int (3 : Int32))] [(.int (3 : Int32)), (.int (3 : Int32))])) _
    refine XS.icmpYes X57.here hx rfl (pc0 := 12) (pc' := 41) rfl (hb hby d5_12) rfl (XT.ii_ge_t (by decide)) (by decide) (by decide) ?_
    refine XS.dloadN X57.here hx rfl (hb hby d5_41) rfl ?_
    exact Steps.refl _)
  obtain ⟨fs, hr, hrun, hended, hW, hsame⟩ := X57.leave (v := some (.double (FP.dadd (FP.dadd (FP.dadd (0 : UInt64) (FP.dmul x0 z0)) (FP.dmul x1 z1)) (FP.dmul x2 z2)))) (fun h => by rw [Bd.returns] at h; cases h)
  refine ⟨_, _, cc1.trans ?_, hrun, hended, _, _, rfl, ?_, ⟨_, rfl⟩, hW, hsame.mono (by decide) (by decide)⟩
  · exact retD X57 hx Bd.returns (hb hby d5_42) hr
  · show QD (FP.dadd (FP.dadd (FP.dadd (0 : UInt64) (FP.dmul x0 z0)) (FP.dmul x1 z1)) (FP.dmul x2 z2)) h0 n0 _ T57.heap _
    rw [e57]
    exact ⟨rfl, N0, rfl⟩
def Q0 (h0 : Heap) (n0 : Nat) (v : Option Value) (h : Heap) (L : List Loc) : Prop := v = some (.int 1) ∧ Fr n0 L
set_option maxRecDepth 65536 in
set_option maxHeartbeats 40000000 in
theorem rm0 (l : Launch) (Z : State) (a0 : Array Value) (hw : ∀ d ∈ tables_1, d.before a0 Z = true) (ws : List Jvm.Cond) (p1 : Int32) (p2 : Int64) (d0 : Int32) (d1 : Int32) (d2 : Int32) (d3 : Int32) (h0 : Heap) (n0 : Nat) (Z0 : n0 ≤ h0.size)  :
    MetFree l x (head1 (Jvm.Cond.code x code maxLocals ret :: ws) room_1) (fun a U => a = #[(.int p1), (.long p2), (.int d0), (.int d1), (.int d2), (.int d3)] ∧ Z.Warmed39 U.vm ∧ U.heap = h0) (fun _ _ _ _ _ => True) (fun _ U o U' => ∃ v L, o = .returned v ∧ Q0 h0 n0 v U'.heap L ∧ FrameEnd U o U' L room_1.cells room_1.slots) := by
  refine MetFree.of_bodySF (plainFor_of_name pn_law) hisR ?_
  intro p e s m args below meth c s₁ Bd hml0 hP hK
  obtain ⟨rfl, hZ, hh⟩ := hP
  have hx := Bd.exec
  have hby := Bd.bytes
  have hml : c.maxLocals = 20 := hml0
  have hown : s.vm.findClass "com/example/scentwalk/scentwalk/learn/SparseVectorDotPinLaw" = some m.cls := findClass_of_methodNamed Bd.named
  have hnm := (name_of_methodNamed Bd.named Bd.method).1
  have X0 : Stand p l e room_1 s m #[(.int p1), (.long p2), (.int d0), (.int d1), (.int d2), (.int d3)] below meth c s₁ [] 0 0 := Stand.of_body Bd
  have e0 : s₁.heap = h0 := by rw [← hh, Bd.state]; rfl
  have N0 := Fr.nil n0
  have c0 : Steps p.tables e below (s₁.setTop (entryFrame m #[(.int p1), (.long p2), (.int d0), (.int d1), (.int d2), (.int d3)] maxLocals)) (s₁.setTop (mkF m 0 #[.val (.int p1), .val (.long p2), .second, .val (.int d0), .val (.int d1), .val (.int d2), .val (.int d3), .unset, .unset, .unset, .unset, .unset, .unset, .unset, .unset, .unset, .unset, .unset, .unset, .unset] [])) := XT.entry rfl
  obtain ⟨nn, hnn⟩ : ∃ z, z = (p1 &&& (3 : Int32)) := ⟨_, rfl⟩
  obtain ⟨rr, hrr⟩ : ∃ z, z = ((XT.ushr p1 (2 : Int32)) - ((XT.ushr p1 (2 : Int32)) / (24 : Int32)) * (24 : Int32)) := ⟨_, rfl⟩
  have br : 0 ≤ rr.toInt ∧ rr.toInt ≤ 23 := by rw [hrr]; exact own_r p1
  obtain ⟨T59, h59, kA59, X59, e59, E59, A59, st59⟩ := newP X0 hx hZ (hw _ (List.mem_of_getElem? (i := 0) rfl)) e0 (g := (mkF m 14 #[.val (.int p1), .val (.long p2), .second, .val (.int d0), .val (.int d1), .val (.int d2), .val (.int d3), .val (.int nn), .val (.int rr), .unset, .unset, .unset, .unset, .unset, .unset, .unset, .unset, .unset, .unset, .unset] [(.int (4 : Int32))])) rfl (hb hby at_14) rfl (by decide : ¬ ((4 : Int32) < (0 : Int32))) (cap := 4) (by decide : (4 : Int32).toNatClampNeg ≤ 4) (by decide) (by decide) (by decide)
  obtain ⟨a59, g59⟩ : ∃ z, z = h0.size := ⟨_, rfl⟩
  rw [← g59] at A59 st59
  have Zs59 : n0 ≤ h59.size := Nat.le_trans Z0 E59.1
  have gn59 : n0 ≤ a59 := Nat.le_trans Z0 (Nat.le_of_eq g59.symm)
  have V59 : Arv Z h59 a59 kA59 .int (4 : Int32) [] (.int (0 : Int32)) := Arv.new A59 (by decide)
  have V60p : Arv Z h59 a59 kA59 .int (4 : Int32) [(.int (0 : Int32))] (.int (0 : Int32)) := V59.pad (pad_rep [] (.int (0 : Int32)) 1)
  obtain ⟨c60, A60, q60, S60, M60, H60, U60⟩ := id V60p
  obtain ⟨T60, h60, X60, e60, W60, st60⟩ := stI X59 hx hZ e59 A60 (j := (0 : Int32)) (inb_of S60 ⟨(by decide : ¬ ((0 : Int32) < (0 : Int32))), (by decide : (0 : Int32) < (4 : Int32))⟩) (g := (mkF m 19 #[.val (.int p1), .val (.long p2), .second, .val (.int d0), .val (.int d1), .val (.int d2), .val (.int d3), .val (.int nn), .val (.int rr), .unset, .unset, .unset, .unset, .unset, .unset, .unset, .unset, .unset, .unset, .unset] [(.int (0 : Int32)), (.int (0 : Int32)), (.ref a59), (.ref a59)])) rfl rfl (hb hby at_19)
  have N60 := Fr.snoc X60 N0 gn59
  have Zs60 : n0 ≤ h60.size := Nat.le_trans Zs59 (Keep.of_wr W60).1
  obtain ⟨Lz60, XZ60, NZ60⟩ := own_pack X60 N60
  have V60 : Arv Z h60 a59 kA59 .int (4 : Int32) [(.int (0 : Int32))] (.int (0 : Int32)) := Arv.set A60 q60 S60 M60 H60 U60 rfl W60 0 rfl (Nat.le_of_ble_eq_true rfl)
  have V61p : Arv Z h60 a59 kA59 .int (4 : Int32) [(.int (0 : Int32)), (.int (0 : Int32))] (.int (0 : Int32)) := V60.pad (pad_rep [(.int (0 : Int32))] (.int (0 : Int32)) 1)
  obtain ⟨c61, A61, q61, S61, M61, H61, U61⟩ := id V61p
  obtain ⟨T61, h61, X61, e61, W61, st61⟩ := stI XZ60 hx hZ e60 A61 (j := (1 : Int32)) (inb_of S61 ⟨(by decide : ¬ ((1 : Int32) < (0 : Int32))), (by decide : (1 : Int32) < (4 : Int32))⟩) (g := (mkF m 23 #[.val (.int p1), .val (.long p2), .second, .val (.int d0), .val (.int d1), .val (.int d2), .val (.int d3), .val (.int nn), .val (.int rr), .unset, .unset, .unset, .unset, .unset, .unset, .unset, .unset, .unset, .unset, .unset] [(.int (1 : Int32)), (.int (1 : Int32)), (.ref a59), (.ref a59)])) rfl rfl (hb hby at_23)
  have N61 := Fr.snoc X61 NZ60 gn59
  have Zs61 : n0 ≤ h61.size := Nat.le_trans Zs60 (Keep.of_wr W61).1
  obtain ⟨Lz61, XZ61, NZ61⟩ := own_pack X61 N61
  have V61 : Arv Z h61 a59 kA59 .int (4 : Int32) [(.int (0 : Int32)), (.int (1 : Int32))] (.int (0 : Int32)) := Arv.set A61 q61 S61 M61 H61 U61 rfl W61 1 rfl (Nat.le_of_ble_eq_true rfl)
  have V62p : Arv Z h61 a59 kA59 .int (4 : Int32) [(.int (0 : Int32)), (.int (1 : Int32)), (.int (0 : Int32))] (.int (0 : Int32)) := V61.pad (pad_rep [(.int (0 : Int32)), (.int (1 : Int32))] (.int (0 : Int32)) 1)
  obtain ⟨c62, A62, q62, S62, M62, H62, U62⟩ := id V62p
  obtain ⟨T62, h62, X62, e62, W62, st62⟩ := stI XZ61 hx hZ e61 A62 (j := (2 : Int32)) (inb_of S62 ⟨(by decide : ¬ ((2 : Int32) < (0 : Int32))), (by decide : (2 : Int32) < (4 : Int32))⟩) (g := (mkF m 27 #[.val (.int p1), .val (.long p2), .second, .val (.int d0), .val (.int d1), .val (.int d2), .val (.int d3), .val (.int nn), .val (.int rr), .unset, .unset, .unset, .unset, .unset, .unset, .unset, .unset, .unset, .unset, .unset] [(.int (2 : Int32)), (.int (2 : Int32)), (.ref a59), (.ref a59)])) rfl rfl (hb hby at_27)
  have N62 := Fr.snoc X62 NZ61 gn59
  have Zs62 : n0 ≤ h62.size := Nat.le_trans Zs61 (Keep.of_wr W62).1
  obtain ⟨Lz62, XZ62, NZ62⟩ := own_pack X62 N62
  have V62 : Arv Z h62 a59 kA59 .int (4 : Int32) [(.int (0 : Int32)), (.int (1 : Int32)), (.int (2 : Int32))] (.int (0 : Int32)) := Arv.set A62 q62 S62 M62 H62 U62 rfl W62 2 rfl (Nat.le_of_ble_eq_true rfl)
  have V63p : Arv Z h62 a59 kA59 .int (4 : Int32) [(.int (0 : Int32)), (.int (1 : Int32)), (.int (2 : Int32)), (.int (0 : Int32))] (.int (0 : Int32)) := V62.pad (pad_rep [(.int (0 : Int32)), (.int (1 : Int32)), (.int (2 : Int32))] (.int (0 : Int32)) 1)
  obtain ⟨c63, A63, q63, S63, M63, H63, U63⟩ := id V63p
  obtain ⟨T63, h63, X63, e63, W63, st63⟩ := stI XZ62 hx hZ e62 A63 (j := (3 : Int32)) (inb_of S63 ⟨(by decide : ¬ ((3 : Int32) < (0 : Int32))), (by decide : (3 : Int32) < (4 : Int32))⟩) (g := (mkF m 31 #[.val (.int p1), .val (.long p2), .second, .val (.int d0), .val (.int d1), .val (.int d2), .val (.int d3), .val (.int nn), .val (.int rr), .unset, .unset, .unset, .unset, .unset, .unset, .unset, .unset, .unset, .unset, .unset] [(.int (3 : Int32)), (.int (3 : Int32)), (.ref a59), (.ref a59)])) rfl rfl (hb hby at_31)
  have N63 := Fr.snoc X63 NZ62 gn59
  have Zs63 : n0 ≤ h63.size := Nat.le_trans Zs62 (Keep.of_wr W63).1
  obtain ⟨Lz63, XZ63, NZ63⟩ := own_pack X63 N63
  have V63 : Arv Z h63 a59 kA59 .int (4 : Int32) [(.int (0 : Int32)), (.int (1 : Int32)), (.int (2 : Int32)), (.int (3 : Int32))] (.int (0 : Int32)) := Arv.set A63 q63 S63 M63 H63 U63 rfl W63 3 rfl (Nat.le_of_ble_eq_true rfl)
  have p40 := own_P4.start
  have bja := own_j0 br.1 br.2
  obtain ⟨ja, hja⟩ : ∃ z, z = (rr - (rr / (4 : Int32)) * (4 : Int32)) := ⟨_, rfl⟩
  rw [← hja] at bja
  obtain ⟨_, _, ⟨T64, L64, k64, n64⟩, -, X64, ⟨Lc64, hQ64, l64, y64, z64⟩, st64⟩ := Jvm.LawKit.callS XZ63 hx (y := (⟨"com/example/scentwalk/scentwalk/learn/SparseVectorDotPinLaw", "swap", "([III)V"⟩ : MethodName)) hown (mvT hZ (hw _ (List.mem_of_getElem? (i := 1) rfl))) (mvT hZ (hw _ (List.mem_of_getElem? (i := 2) rfl))) (mvT hZ (hw _ (List.mem_of_getElem? (i := 3) rfl))) (mvT hZ (hw _ (List.mem_of_getElem? (i := 4) rfl))) (by decide) (backOf (W := 0) (rmSw l Z a0 hw [] a59 kA59 (0 : Int32) ja [(.int (0 : Int32)), (.int (1 : Int32)), (.int (2 : Int32)), (.int (3 : Int32))] h63 n0 Zs63 V63 p40 (by decide) bja gn59) hZ (hw _ (List.mem_of_getElem? (i := 4) rfl)) (hw _ (List.mem_of_getElem? (i := 3) rfl)) (by decide) (by decide)) (g := (mkF m 41 #[.val (.int p1), .val (.long p2), .second, .val (.int d0), .val (.int d1), .val (.int d2), .val (.int d3), .val (.int nn), .val (.int rr), .val (.ref a59), .unset, .unset, .unset, .unset, .unset, .unset, .unset, .unset, .unset, .unset] [(.int ja), (.int (0 : Int32)), (.ref a59)])) rfl (by rw [hml]; rfl) (argsL := [(.ref a59), (.int (0 : Int32)), (.int ja)]) (rest := []) (lenOf pd___III_V rfl) rfl (by show 2 * 0 + _ ≤ _; exact Nat.le_of_eq rfl) (hb hby at_41) (fun _ _ => ⟨rfl, e63, (by decide : 1 + 0 ≤ _), (by decide : 4 + 0 ≤ _)⟩)
  dsimp only [Pt.U, Pt.locs, Pt.cells, Pt.slots] at X64 l64 y64 z64 st64 hQ64
  rw [y64, z64] at X64
  obtain ⟨rfl, N64, K64, vs64, V64, p464⟩ := hQ64
  have NN64 : Fr n0 L64 := by rw [l64]; exact Fr.app NZ63 N64
  have Zs64 : n0 ≤ T64.heap.size := Nat.le_trans Zs63 K64.1
  obtain ⟨h64, e64⟩ : ∃ z, T64.heap = z := ⟨_, rfl⟩
  rw [e64] at Zs64 V64
  have bjb := own_j1 br.1 br.2
  obtain ⟨jb, hjb⟩ : ∃ z, z = ((1 : Int32) + ((rr / (4 : Int32)) - ((rr / (4 : Int32)) / (3 : Int32)) * (3 : Int32))) := ⟨_, rfl⟩
  rw [← hjb] at bjb
  obtain ⟨_, _, ⟨T65, L65, k65, n65⟩, -, X65, ⟨Lc65, hQ65, l65, y65, z65⟩, st65⟩ := Jvm.LawKit.callS X64 hx (y := (⟨"com/example/scentwalk/scentwalk/learn/SparseVectorDotPinLaw", "swap", "([III)V"⟩ : MethodName)) hown (mvT hZ (hw _ (List.mem_of_getElem? (i := 1) rfl))) (mvT hZ (hw _ (List.mem_of_getElem? (i := 2) rfl))) (mvT hZ (hw _ (List.mem_of_getElem? (i := 3) rfl))) (mvT hZ (hw _ (List.mem_of_getElem? (i := 4) rfl))) (by decide) (backOf (W := 0) (rmSw l Z a0 hw [] a59 kA59 (1 : Int32) jb vs64 h64 n0 Zs64 V64 p464 (by decide) bjb gn59) hZ (hw _ (List.mem_of_getElem? (i := 4) rfl)) (hw _ (List.mem_of_getElem? (i := 3) rfl)) (by decide) (by decide)) (g := (mkF m 55 #[.val (.int p1), .val (.long p2), .second, .val (.int d0), .val (.int d1), .val (.int d2), .val (.int d3), .val (.int nn), .val (.int rr), .val (.ref a59), .unset, .unset, .unset, .unset, .unset, .unset, .unset, .unset, .unset, .unset] [(.int jb), (.int (1 : Int32)), (.ref a59)])) rfl (by rw [hml]; rfl) (argsL := [(.ref a59), (.int (1 : Int32)), (.int jb)]) (rest := []) (lenOf pd___III_V rfl) rfl (by show 2 * 0 + _ ≤ _; exact Nat.le_of_eq rfl) (hb hby at_55) (fun _ _ => ⟨rfl, e64, (by decide : 1 + 0 ≤ _), (by decide : 4 + 0 ≤ _)⟩)
  dsimp only [Pt.U, Pt.locs, Pt.cells, Pt.slots] at X65 l65 y65 z65 st65 hQ65
  rw [y65, z65] at X65
  obtain ⟨rfl, N65, K65, vs65, V65, p465⟩ := hQ65
  have NN65 : Fr n0 L65 := by rw [l65]; exact Fr.app NN64 N65
  have Zs65 : n0 ≤ T65.heap.size := Nat.le_trans Zs64 K65.1
  obtain ⟨h65, e65⟩ : ∃ z, T65.heap = z := ⟨_, rfl⟩
  rw [e65] at Zs65 V65
  have bjc := own_j2 br.1 br.2
  obtain ⟨jc, hjc⟩ : ∃ z, z = ((2 : Int32) + ((rr / (12 : Int32)) - ((rr / (12 : Int32)) / (2 : Int32)) * (2 : Int32))) := ⟨_, rfl⟩
  rw [← hjc] at bjc
  obtain ⟨_, _, ⟨T66, L66, k66, n66⟩, -, X66, ⟨Lc66, hQ66, l66, y66, z66⟩, st66⟩ := Jvm.LawKit.callS X65 hx (y := (⟨"com/example/scentwalk/scentwalk/learn/SparseVectorDotPinLaw", "swap", "([III)V"⟩ : MethodName)) hown (mvT hZ (hw _ (List.mem_of_getElem? (i := 1) rfl))) (mvT hZ (hw _ (List.mem_of_getElem? (i := 2) rfl))) (mvT hZ (hw _ (List.mem_of_getElem? (i := 3) rfl))) (mvT hZ (hw _ (List.mem_of_getElem? (i := 4) rfl))) (by decide) (backOf (W := 0) (rmSw l Z a0 hw [] a59 kA59 (2 : Int32) jc vs65 h65 n0 Zs65 V65 p465 (by decide) bjc gn59) hZ (hw _ (List.mem_of_getElem? (i := 4) rfl)) (hw _ (List.mem_of_getElem? (i := 3) rfl)) (by decide) (by decide)) (g := (mkF m 70 #[.val (.int p1), .val (.long p2), .second, .val (.int d0), .val (.int d1), .val (.int d2), .val (.int d3), .val (.int nn), .val (.int rr), .val (.ref a59), .unset, .unset, .unset, .unset, .unset, .unset, .unset, .unset, .unset, .unset] [(.int jc), (.int (2 : Int32)), (.ref a59)])) rfl (by rw [hml]; rfl) (argsL := [(.ref a59), (.int (2 : Int32)), (.int jc)]) (rest := []) (lenOf pd___III_V rfl) rfl (by show 2 * 0 + _ ≤ _; exact Nat.le_of_eq rfl) (hb hby at_70) (fun _ _ => ⟨rfl, e65, (by decide : 1 + 0 ≤ _), (by decide : 4 + 0 ≤ _)⟩)
  dsimp only [Pt.U, Pt.locs, Pt.cells, Pt.slots] at X66 l66 y66 z66 st66 hQ66
  rw [y66, z66] at X66
  obtain ⟨rfl, N66, K66, vs66, V66, p466⟩ := hQ66
  have NN66 : Fr n0 L66 := by rw [l66]; exact Fr.app NN65 N66
  have Zs66 : n0 ≤ T66.heap.size := Nat.le_trans Zs65 K66.1
  obtain ⟨h66, e66⟩ : ∃ z, T66.heap = z := ⟨_, rfl⟩
  rw [e66] at Zs66 V66
  obtain ⟨y0, ey0, by0⟩ := p466.2 0
  obtain ⟨y1, ey1, by1⟩ := p466.2 1
  obtain ⟨y2, ey2, by2⟩ := p466.2 2
  obtain ⟨T67, h67, kA67, X67, e67, E67, A67, st67⟩ := newP X66 hx hZ (hw _ (List.mem_of_getElem? (i := 0) rfl)) e66 (g := (mkF m 74 #[.val (.int p1), .val (.long p2), .second, .val (.int d0), .val (.int d1), .val (.int d2), .val (.int d3), .val (.int nn), .val (.int rr), .val (.ref a59), .unset, .unset, .unset, .unset, .unset, .unset, .unset, .unset, .unset, .unset] [(.int (3 : Int32))])) rfl (hb hby at_74) rfl (by decide : ¬ ((3 : Int32) < (0 : Int32))) (cap := 3) (by decide : (3 : Int32).toNatClampNeg ≤ 3) (by decide) (by decide) (by decide)
  obtain ⟨a67, g67⟩ : ∃ z, z = h66.size := ⟨_, rfl⟩
  rw [← g67] at A67 st67
  have Zs67 : n0 ≤ h67.size := Nat.le_trans Zs66 E67.1
  have gn67 : n0 ≤ a67 := Nat.le_trans Zs66 (Nat.le_of_eq g67.symm)
  have V67 : Arv Z h67 a67 kA67 .int (3 : Int32) [] (.int (0 : Int32)) := Arv.new A67 (by decide)
  have ne_a59_a67 : a59 ≠ a67 := Nat.ne_of_lt (Nat.lt_of_lt_of_le V66.lt (Nat.le_of_eq g67.symm))
  have V68 : Arv Z h67 a59 kA59 .int (4 : Int32) vs66 (.int (0 : Int32)) := V66.ext E67
  obtain ⟨v0, hv0⟩ : ∃ z, z = (((p2 <<< ((43 : Int32).toInt64 &&& 63)) >>> ((43 : Int32).toInt64 &&& 63)).toInt32) := ⟨_, rfl⟩
  have bv0 : -1048576 ≤ v0.toInt ∧ v0.toInt ≤ 1048576 := by rw [hv0]; exact own_v _
  have V69p : Arv Z h67 a67 kA67 .int (3 : Int32) [(.int (0 : Int32))] (.int (0 : Int32)) := V67.pad (pad_rep [] (.int (0 : Int32)) 1)
  obtain ⟨c69, A69, q69, S69, M69, H69, U69⟩ := id V69p
  obtain ⟨T69, h69, X69, e69, W69, st69⟩ := stI X67 hx hZ e67 A69 (j := (0 : Int32)) (inb_of S69 ⟨(by decide : ¬ ((0 : Int32) < (0 : Int32))), (by decide : (0 : Int32) < (3 : Int32))⟩) (g := (mkF m 86 #[.val (.int p1), .val (.long p2), .second, .val (.int d0), .val (.int d1), .val (.int d2), .val (.int d3), .val (.int nn), .val (.int rr), .val (.ref a59), .unset, .unset, .unset, .unset, .unset, .unset, .unset, .unset, .unset, .unset] [(.int v0), (.int (0 : Int32)), (.ref a67), (.ref a67)])) rfl rfl (hb hby at_86)
  have N69 := Fr.snoc X69 NN66 gn67
  have Zs69 : n0 ≤ h69.size := Nat.le_trans Zs67 (Keep.of_wr W69).1
  obtain ⟨Lz69, XZ69, NZ69⟩ := own_pack X69 N69
  have V69 : Arv Z h69 a67 kA67 .int (3 : Int32) [(.int v0)] (.int (0 : Int32)) := Arv.set A69 q69 S69 M69 H69 U69 rfl W69 0 rfl (Nat.le_of_ble_eq_true rfl)
  have V70 : Arv Z h69 a59 kA59 .int (4 : Int32) vs66 (.int (0 : Int32)) := V68.other W69 ne_a59_a67
  obtain ⟨v1, hv1⟩ : ∃ z, z = (((p2 <<< ((22 : Int32).toInt64 &&& 63)) >>> ((43 : Int32).toInt64 &&& 63)).toInt32) := ⟨_, rfl⟩
  have bv1 : -1048576 ≤ v1.toInt ∧ v1.toInt ≤ 1048576 := by rw [hv1]; exact own_v _
  have V71p : Arv Z h69 a67 kA67 .int (3 : Int32) [(.int v0), (.int (0 : Int32))] (.int (0 : Int32)) := V69.pad (pad_rep [(.int v0)] (.int (0 : Int32)) 1)
  obtain ⟨c71, A71, q71, S71, M71, H71, U71⟩ := id V71p
  obtain ⟨T71, h71, X71, e71, W71, st71⟩ := stI XZ69 hx hZ e69 A71 (j := (1 : Int32)) (inb_of S71 ⟨(by decide : ¬ ((1 : Int32) < (0 : Int32))), (by decide : (1 : Int32) < (3 : Int32))⟩) (g := (mkF m 97 #[.val (.int p1), .val (.long p2), .second, .val (.int d0), .val (.int d1), .val (.int d2), .val (.int d3), .val (.int nn), .val (.int rr), .val (.ref a59), .unset, .unset, .unset, .unset, .unset, .unset, .unset, .unset, .unset, .unset] [(.int v1), (.int (1 : Int32)), (.ref a67), (.ref a67)])) rfl rfl (hb hby at_97)
  have N71 := Fr.snoc X71 NZ69 gn67
  have Zs71 : n0 ≤ h71.size := Nat.le_trans Zs69 (Keep.of_wr W71).1
  obtain ⟨Lz71, XZ71, NZ71⟩ := own_pack X71 N71
  have V71 : Arv Z h71 a67 kA67 .int (3 : Int32) [(.int v0), (.int v1)] (.int (0 : Int32)) := Arv.set A71 q71 S71 M71 H71 U71 rfl W71 1 rfl (Nat.le_of_ble_eq_true rfl)
  have V72 : Arv Z h71 a59 kA59 .int (4 : Int32) vs66 (.int (0 : Int32)) := V70.other W71 ne_a59_a67
  obtain ⟨v2, hv2⟩ : ∃ z, z = (((p2 <<< ((1 : Int32).toInt64 &&& 63)) >>> ((43 : Int32).toInt64 &&& 63)).toInt32) := ⟨_, rfl⟩
  have bv2 : -1048576 ≤ v2.toInt ∧ v2.toInt ≤ 1048576 := by rw [hv2]; exact own_v _
  have V73p : Arv Z h71 a67 kA67 .int (3 : Int32) [(.int v0), (.int v1), (.int (0 : Int32))] (.int (0 : Int32)) := V71.pad (pad_rep [(.int v0), (.int v1)] (.int (0 : Int32)) 1)
  obtain ⟨c73, A73, q73, S73, M73, H73, U73⟩ := id V73p
  obtain ⟨T73, h73, X73, e73, W73, st73⟩ := stI XZ71 hx hZ e71 A73 (j := (2 : Int32)) (inb_of S73 ⟨(by decide : ¬ ((2 : Int32) < (0 : Int32))), (by decide : (2 : Int32) < (3 : Int32))⟩) (g := (mkF m 107 #[.val (.int p1), .val (.long p2), .second, .val (.int d0), .val (.int d1), .val (.int d2), .val (.int d3), .val (.int nn), .val (.int rr), .val (.ref a59), .unset, .unset, .unset, .unset, .unset, .unset, .unset, .unset, .unset, .unset] [(.int v2), (.int (2 : Int32)), (.ref a67), (.ref a67)])) rfl rfl (hb hby at_107)
  have N73 := Fr.snoc X73 NZ71 gn67
  have Zs73 : n0 ≤ h73.size := Nat.le_trans Zs71 (Keep.of_wr W73).1
  obtain ⟨Lz73, XZ73, NZ73⟩ := own_pack X73 N73
  have V73 : Arv Z h73 a67 kA67 .int (3 : Int32) [(.int v0), (.int v1), (.int v2)] (.int (0 : Int32)) := Arv.set A73 q73 S73 M73 H73 U73 rfl W73 2 rfl (Nat.le_of_ble_eq_true rfl)
  have V74 : Arv Z h73 a59 kA59 .int (4 : Int32) vs66 (.int (0 : Int32)) := V72.other W73 ne_a59_a67
  obtain ⟨T75, h75, kA75, X75, e75, E75, A75, st75⟩ := newP XZ73 hx hZ (hw _ (List.mem_of_getElem? (i := 0) rfl)) e73 (g := (mkF m 111 #[.val (.int p1), .val (.long p2), .second, .val (.int d0), .val (.int d1), .val (.int d2), .val (.int d3), .val (.int nn), .val (.int rr), .val (.ref a59), .val (.ref a67), .unset, .unset, .unset, .unset, .unset, .unset, .unset, .unset, .unset] [(.int (4 : Int32))])) rfl (hb hby at_111) rfl (by decide : ¬ ((4 : Int32) < (0 : Int32))) (cap := 4) (by decide : (4 : Int32).toNatClampNeg ≤ 4) (by decide) (by decide) (by decide)
  obtain ⟨a75, g75⟩ : ∃ z, z = h73.size := ⟨_, rfl⟩
  rw [← g75] at A75 st75
  have Zs75 : n0 ≤ h75.size := Nat.le_trans Zs73 E75.1
  have gn75 : n0 ≤ a75 := Nat.le_trans Zs73 (Nat.le_of_eq g75.symm)
  have V75 : Arv Z h75 a75 kA75 .int (4 : Int32) [] (.int (0 : Int32)) := Arv.new A75 (by decide)
  have ne_a59_a75 : a59 ≠ a75 := Nat.ne_of_lt (Nat.lt_of_lt_of_le V74.lt (Nat.le_of_eq g75.symm))
  have ne_a67_a75 : a67 ≠ a75 := Nat.ne_of_lt (Nat.lt_of_lt_of_le V73.lt (Nat.le_of_eq g75.symm))
  have V76 : Arv Z h75 a59 kA59 .int (4 : Int32) vs66 (.int (0 : Int32)) := V74.ext E75
  have V77 : Arv Z h75 a67 kA67 .int (3 : Int32) [(.int v0), (.int v1), (.int v2)] (.int (0 : Int32)) := V73.ext E75
  have V78p : Arv Z h75 a75 kA75 .int (4 : Int32) [(.int (0 : Int32))] (.int (0 : Int32)) := V75.pad (pad_rep [] (.int (0 : Int32)) 1)
  obtain ⟨c78, A78, q78, S78, M78, H78, U78⟩ := id V78p
  obtain ⟨T78, h78, X78, e78, W78, st78⟩ := stI X75 hx hZ e75 A78 (j := (0 : Int32)) (inb_of S78 ⟨(by decide : ¬ ((0 : Int32) < (0 : Int32))), (by decide : (0 : Int32) < (4 : Int32))⟩) (g := (mkF m 116 #[.val (.int p1), .val (.long p2), .second, .val (.int d0), .val (.int d1), .val (.int d2), .val (.int d3), .val (.int nn), .val (.int rr), .val (.ref a59), .val (.ref a67), .unset, .unset, .unset, .unset, .unset, .unset, .unset, .unset, .unset] [(.int d0), (.int (0 : Int32)), (.ref a75), (.ref a75)])) rfl rfl (hb hby at_116)
  have N78 := Fr.snoc X78 NZ73 gn75
  have Zs78 : n0 ≤ h78.size := Nat.le_trans Zs75 (Keep.of_wr W78).1
  obtain ⟨Lz78, XZ78, NZ78⟩ := own_pack X78 N78
  have V78 : Arv Z h78 a75 kA75 .int (4 : Int32) [(.int d0)] (.int (0 : Int32)) := Arv.set A78 q78 S78 M78 H78 U78 rfl W78 0 rfl (Nat.le_of_ble_eq_true rfl)
  have V79 : Arv Z h78 a59 kA59 .int (4 : Int32) vs66 (.int (0 : Int32)) := V76.other W78 ne_a59_a75
  have V80 : Arv Z h78 a67 kA67 .int (3 : Int32) [(.int v0), (.int v1), (.int v2)] (.int (0 : Int32)) := V77.other W78 ne_a67_a75
  have V81p : Arv Z h78 a75 kA75 .int (4 : Int32) [(.int d0), (.int (0 : Int32))] (.int (0 : Int32)) := V78.pad (pad_rep [(.int d0)] (.int (0 : Int32)) 1)
  obtain ⟨c81, A81, q81, S81, M81, H81, U81⟩ := id V81p
  obtain ⟨T81, h81, X81, e81, W81, st81⟩ := stI XZ78 hx hZ e78 A81 (j := (1 : Int32)) (inb_of S81 ⟨(by decide : ¬ ((1 : Int32) < (0 : Int32))), (by decide : (1 : Int32) < (4 : Int32))⟩) (g := (mkF m 121 #[.val (.int p1), .val (.long p2), .second, .val (.int d0), .val (.int d1), .val (.int d2), .val (.int d3), .val (.int nn), .val (.int rr), .val (.ref a59), .val (.ref a67), .unset, .unset, .unset, .unset, .unset, .unset, .unset, .unset, .unset] [(.int d1), (.int (1 : Int32)), (.ref a75), (.ref a75)])) rfl rfl (hb hby at_121)
  have N81 := Fr.snoc X81 NZ78 gn75
  have Zs81 : n0 ≤ h81.size := Nat.le_trans Zs78 (Keep.of_wr W81).1
  obtain ⟨Lz81, XZ81, NZ81⟩ := own_pack X81 N81
  have V81 : Arv Z h81 a75 kA75 .int (4 : Int32) [(.int d0), (.int d1)] (.int (0 : Int32)) := Arv.set A81 q81 S81 M81 H81 U81 rfl W81 1 rfl (Nat.le_of_ble_eq_true rfl)
  have V82 : Arv Z h81 a59 kA59 .int (4 : Int32) vs66 (.int (0 : Int32)) := V79.other W81 ne_a59_a75
  have V83 : Arv Z h81 a67 kA67 .int (3 : Int32) [(.int v0), (.int v1), (.int v2)] (.int (0 : Int32)) := V80.other W81 ne_a67_a75
  have V84p : Arv Z h81 a75 kA75 .int (4 : Int32) [(.int d0), (.int d1), (.int (0 : Int32))] (.int (0 : Int32)) := V81.pad (pad_rep [(.int d0), (.int d1)] (.int (0 : Int32)) 1)
  obtain ⟨c84, A84, q84, S84, M84, H84, U84⟩ := id V84p
  obtain ⟨T84, h84, X84, e84, W84, st84⟩ := stI XZ81 hx hZ e81 A84 (j := (2 : Int32)) (inb_of S84 ⟨(by decide : ¬ ((2 : Int32) < (0 : Int32))), (by decide : (2 : Int32) < (4 : Int32))⟩) (g := (mkF m 126 #[.val (.int p1), .val (.long p2), .second, .val (.int d0), .val (.int d1), .val (.int d2), .val (.int d3), .val (.int nn), .val (.int rr), .val (.ref a59), .val (.ref a67), .unset, .unset, .unset, .unset, .unset, .unset, .unset, .unset, .unset] [(.int d2), (.int (2 : Int32)), (.ref a75), (.ref a75)])) rfl rfl (hb hby at_126)
  have N84 := Fr.snoc X84 NZ81 gn75
  have Zs84 : n0 ≤ h84.size := Nat.le_trans Zs81 (Keep.of_wr W84).1
  obtain ⟨Lz84, XZ84, NZ84⟩ := own_pack X84 N84
  have V84 : Arv Z h84 a75 kA75 .int (4 : Int32) [(.int d0), (.int d1), (.int d2)] (.int (0 : Int32)) := Arv.set A84 q84 S84 M84 H84 U84 rfl W84 2 rfl (Nat.le_of_ble_eq_true rfl)
  have V85 : Arv Z h84 a59 kA59 .int (4 : Int32) vs66 (.int (0 : Int32)) := V82.other W84 ne_a59_a75
  have V86 : Arv Z h84 a67 kA67 .int (3 : Int32) [(.int v0), (.int v1), (.int v2)] (.int (0 : Int32)) := V83.other W84 ne_a67_a75
  have V87p : Arv Z h84 a75 kA75 .int (4 : Int32) [(.int d0), (.int d1), (.int d2), (.int (0 : Int32))] (.int (0 : Int32)) := V84.pad (pad_rep [(.int d0), (.int d1), (.int d2)] (.int (0 : Int32)) 1)
  obtain ⟨c87, A87, q87, S87, M87, H87, U87⟩ := id V87p
  obtain ⟨T87, h87, X87, e87, W87, st87⟩ := stI XZ84 hx hZ e84 A87 (j := (3 : Int32)) (inb_of S87 ⟨(by decide : ¬ ((3 : Int32) < (0 : Int32))), (by decide : (3 : Int32) < (4 : Int32))⟩) (g := (mkF m 131 #[.val (.int p1), .val (.long p2), .second, .val (.int d0), .val (.int d1), .val (.int d2), .val (.int d3), .val (.int nn), .val (.int rr), .val (.ref a59), .val (.ref a67), .unset, .unset, .unset, .unset, .unset, .unset, .unset, .unset, .unset] [(.int d3), (.int (3 : Int32)), (.ref a75), (.ref a75)])) rfl rfl (hb hby at_131)
  have N87 := Fr.snoc X87 NZ84 gn75
  have Zs87 : n0 ≤ h87.size := Nat.le_trans Zs84 (Keep.of_wr W87).1
  obtain ⟨Lz87, XZ87, NZ87⟩ := own_pack X87 N87
  have V87 : Arv Z h87 a75 kA75 .int (4 : Int32) [(.int d0), (.int d1), (.int d2), (.int d3)] (.int (0 : Int32)) := Arv.set A87 q87 S87 M87 H87 U87 rfl W87 3 rfl (Nat.le_of_ble_eq_true rfl)
  have V88 : Arv Z h87 a59 kA59 .int (4 : Int32) vs66 (.int (0 : Int32)) := V85.other W87 ne_a59_a75
  have V89 : Arv Z h87 a67 kA67 .int (3 : Int32) [(.int v0), (.int v1), (.int v2)] (.int (0 : Int32)) := V86.other W87 ne_a67_a75
  obtain ⟨T90, h90, kA90, X90, e90, E90, A90, st90⟩ := newP XZ87 hx hZ (hw _ (List.mem_of_getElem? (i := 5) rfl)) e87 (g := (mkF m 135 #[.val (.int p1), .val (.long p2), .second, .val (.int d0), .val (.int d1), .val (.int d2), .val (.int d3), .val (.int nn), .val (.int rr), .val (.ref a59), .val (.ref a67), .val (.ref a75), .unset, .unset, .unset, .unset, .unset, .unset, .unset, .unset] [(.int (4 : Int32))])) rfl (hb hby at_135) rfl (by decide : ¬ ((4 : Int32) < (0 : Int32))) (cap := 4) (by decide : (4 : Int32).toNatClampNeg ≤ 4) (by decide) (by decide) (by decide)
  obtain ⟨a90, g90⟩ : ∃ z, z = h87.size := ⟨_, rfl⟩
  rw [← g90] at A90 st90
  have Zs90 : n0 ≤ h90.size := Nat.le_trans Zs87 E90.1
  have gn90 : n0 ≤ a90 := Nat.le_trans Zs87 (Nat.le_of_eq g90.symm)
  have V90 : Arv Z h90 a90 kA90 .double (4 : Int32) [] (.double (FP.l2d 0)) := Arv.newD A90 (by decide)
  have ne_a59_a90 : a59 ≠ a90 := Nat.ne_of_lt (Nat.lt_of_lt_of_le V88.lt (Nat.le_of_eq g90.symm))
  have ne_a67_a90 : a67 ≠ a90 := Nat.ne_of_lt (Nat.lt_of_lt_of_le V89.lt (Nat.le_of_eq g90.symm))
  have ne_a75_a90 : a75 ≠ a90 := Nat.ne_of_lt (Nat.lt_of_lt_of_le V87.lt (Nat.le_of_eq g90.symm))
  have V91 : Arv Z h90 a59 kA59 .int (4 : Int32) vs66 (.int (0 : Int32)) := V88.ext E90
  have V92 : Arv Z h90 a67 kA67 .int (3 : Int32) [(.int v0), (.int v1), (.int v2)] (.int (0 : Int32)) := V89.ext E90
  have V93 : Arv Z h90 a75 kA75 .int (4 : Int32) [(.int d0), (.int d1), (.int d2), (.int d3)] (.int (0 : Int32)) := V87.ext E90
  have V94p : Arv Z h90 a90 kA90 .double (4 : Int32) [(.double (FP.l2d 0))] (.double (FP.l2d 0)) := V90.pad (pad_rep [] (.double (FP.l2d 0)) 1)
  obtain ⟨c94, A94, q94, S94, M94, H94, U94⟩ := id V94p
  obtain ⟨T94, h94, X94, e94, W94, st94⟩ := stD X90 hx hZ e90 A94 (j := (0 : Int32)) (inb_of S94 ⟨(by decide : ¬ ((0 : Int32) < (0 : Int32))), (by decide : (0 : Int32) < (4 : Int32))⟩) (g := (mkF m 141 #[.val (.int p1), .val (.long p2), .second, .val (.int d0), .val (.int d1), .val (.int d2), .val (.int d3), .val (.int nn), .val (.int rr), .val (.ref a59), .val (.ref a67), .val (.ref a75), .unset, .unset, .unset, .unset, .unset, .unset, .unset, .unset] [(.double (FP.i2d d0)), (.int (0 : Int32)), (.ref a90), (.ref a90)])) rfl rfl (hb hby at_141)
  have N94 := Fr.snoc X94 NZ87 gn90
  have Zs94 : n0 ≤ h94.size := Nat.le_trans Zs90 (Keep.of_wr W94).1
  obtain ⟨Lz94, XZ94, NZ94⟩ := own_pack X94 N94
  have V94 : Arv Z h94 a90 kA90 .double (4 : Int32) [(.double (FP.i2d d0))] (.double (FP.l2d 0)) := Arv.set A94 q94 S94 M94 H94 U94 rfl W94 0 rfl (Nat.le_of_ble_eq_true rfl)
  have V95 : Arv Z h94 a59 kA59 .int (4 : Int32) vs66 (.int (0 : Int32)) := V91.other W94 ne_a59_a90
  have V96 : Arv Z h94 a67 kA67 .int (3 : Int32) [(.int v0), (.int v1), (.int v2)] (.int (0 : Int32)) := V92.other W94 ne_a67_a90
  have V97 : Arv Z h94 a75 kA75 .int (4 : Int32) [(.int d0), (.int d1), (.int d2), (.int d3)] (.int (0 : Int32)) := V93.other W94 ne_a75_a90
  have V98p : Arv Z h94 a90 kA90 .double (4 : Int32) [(.double (FP.i2d d0)), (.double (FP.l2d 0))] (.double (FP.l2d 0)) := V94.pad (pad_rep [(.double (FP.i2d d0))] (.double (FP.l2d 0)) 1)
  obtain ⟨c98, A98, q98, S98, M98, H98, U98⟩ := id V98p
  obtain ⟨T98, h98, X98, e98, W98, st98⟩ := stD XZ94 hx hZ e94 A98 (j := (1 : Int32)) (inb_of S98 ⟨(by decide : ¬ ((1 : Int32) < (0 : Int32))), (by decide : (1 : Int32) < (4 : Int32))⟩) (g := (mkF m 147 #[.val (.int p1), .val (.long p2), .second, .val (.int d0), .val (.int d1), .val (.int d2), .val (.int d3), .val (.int nn), .val (.int rr), .val (.ref a59), .val (.ref a67), .val (.ref a75), .unset, .unset, .unset, .unset, .unset, .unset, .unset, .unset] [(.double (FP.i2d d1)), (.int (1 : Int32)), (.ref a90), (.ref a90)])) rfl rfl (hb hby at_147)
  have N98 := Fr.snoc X98 NZ94 gn90
  have Zs98 : n0 ≤ h98.size := Nat.le_trans Zs94 (Keep.of_wr W98).1
  obtain ⟨Lz98, XZ98, NZ98⟩ := own_pack X98 N98
  have V98 : Arv Z h98 a90 kA90 .double (4 : Int32) [(.double (FP.i2d d0)), (.double (FP.i2d d1))] (.double (FP.l2d 0)) := Arv.set A98 q98 S98 M98 H98 U98 rfl W98 1 rfl (Nat.le_of_ble_eq_true rfl)
  have V99 : Arv Z h98 a59 kA59 .int (4 : Int32) vs66 (.int (0 : Int32)) := V95.other W98 ne_a59_a90
  have V100 : Arv Z h98 a67 kA67 .int (3 : Int32) [(.int v0), (.int v1), (.int v2)] (.int (0 : Int32)) := V96.other W98 ne_a67_a90
  have V101 : Arv Z h98 a75 kA75 .int (4 : Int32) [(.int d0), (.int d1), (.int d2), (.int d3)] (.int (0 : Int32)) := V97.other W98 ne_a75_a90
  have V102p : Arv Z h98 a90 kA90 .double (4 : Int32) [(.double (FP.i2d d0)), (.double (FP.i2d d1)), (.double (FP.l2d 0))] (.double (FP.l2d 0)) := V98.pad (pad_rep [(.double (FP.i2d d0)), (.double (FP.i2d d1))] (.double (FP.l2d 0)) 1)
  obtain ⟨c102, A102, q102, S102, M102, H102, U102⟩ := id V102p
  obtain ⟨T102, h102, X102, e102, W102, st102⟩ := stD XZ98 hx hZ e98 A102 (j := (2 : Int32)) (inb_of S102 ⟨(by decide : ¬ ((2 : Int32) < (0 : Int32))), (by decide : (2 : Int32) < (4 : Int32))⟩) (g := (mkF m 153 #[.val (.int p1), .val (.long p2), .second, .val (.int d0), .val (.int d1), .val (.int d2), .val (.int d3), .val (.int nn), .val (.int rr), .val (.ref a59), .val (.ref a67), .val (.ref a75), .unset, .unset, .unset, .unset, .unset, .unset, .unset, .unset] [(.double (FP.i2d d2)), (.int (2 : Int32)), (.ref a90), (.ref a90)])) rfl rfl (hb hby at_153)
  have N102 := Fr.snoc X102 NZ98 gn90
  have Zs102 : n0 ≤ h102.size := Nat.le_trans Zs98 (Keep.of_wr W102).1
  obtain ⟨Lz102, XZ102, NZ102⟩ := own_pack X102 N102
  have V102 : Arv Z h102 a90 kA90 .double (4 : Int32) [(.double (FP.i2d d0)), (.double (FP.i2d d1)), (.double (FP.i2d d2))] (.double (FP.l2d 0)) := Arv.set A102 q102 S102 M102 H102 U102 rfl W102 2 rfl (Nat.le_of_ble_eq_true rfl)
  have V103 : Arv Z h102 a59 kA59 .int (4 : Int32) vs66 (.int (0 : Int32)) := V99.other W102 ne_a59_a90
  have V104 : Arv Z h102 a67 kA67 .int (3 : Int32) [(.int v0), (.int v1), (.int v2)] (.int (0 : Int32)) := V100.other W102 ne_a67_a90
  have V105 : Arv Z h102 a75 kA75 .int (4 : Int32) [(.int d0), (.int d1), (.int d2), (.int d3)] (.int (0 : Int32)) := V101.other W102 ne_a75_a90
  have V106p : Arv Z h102 a90 kA90 .double (4 : Int32) [(.double (FP.i2d d0)), (.double (FP.i2d d1)), (.double (FP.i2d d2)), (.double (FP.l2d 0))] (.double (FP.l2d 0)) := V102.pad (pad_rep [(.double (FP.i2d d0)), (.double (FP.i2d d1)), (.double (FP.i2d d2))] (.double (FP.l2d 0)) 1)
  obtain ⟨c106, A106, q106, S106, M106, H106, U106⟩ := id V106p
  obtain ⟨T106, h106, X106, e106, W106, st106⟩ := stD XZ102 hx hZ e102 A106 (j := (3 : Int32)) (inb_of S106 ⟨(by decide : ¬ ((3 : Int32) < (0 : Int32))), (by decide : (3 : Int32) < (4 : Int32))⟩) (g := (mkF m 159 #[.val (.int p1), .val (.long p2), .second, .val (.int d0), .val (.int d1), .val (.int d2), .val (.int d3), .val (.int nn), .val (.int rr), .val (.ref a59), .val (.ref a67), .val (.ref a75), .unset, .unset, .unset, .unset, .unset, .unset, .unset, .unset] [(.double (FP.i2d d3)), (.int (3 : Int32)), (.ref a90), (.ref a90)])) rfl rfl (hb hby at_159)
  have N106 := Fr.snoc X106 NZ102 gn90
  have Zs106 : n0 ≤ h106.size := Nat.le_trans Zs102 (Keep.of_wr W106).1
  obtain ⟨Lz106, XZ106, NZ106⟩ := own_pack X106 N106
  have V106 : Arv Z h106 a90 kA90 .double (4 : Int32) [(.double (FP.i2d d0)), (.double (FP.i2d d1)), (.double (FP.i2d d2)), (.double (FP.i2d d3))] (.double (FP.l2d 0)) := Arv.set A106 q106 S106 M106 H106 U106 rfl W106 3 rfl (Nat.le_of_ble_eq_true rfl)
  have V107 : Arv Z h106 a59 kA59 .int (4 : Int32) vs66 (.int (0 : Int32)) := V103.other W106 ne_a59_a90
  have V108 : Arv Z h106 a67 kA67 .int (3 : Int32) [(.int v0), (.int v1), (.int v2)] (.int (0 : Int32)) := V104.other W106 ne_a67_a90
  have V109 : Arv Z h106 a75 kA75 .int (4 : Int32) [(.int d0), (.int d1), (.int d2), (.int d3)] (.int (0 : Int32)) := V105.other W106 ne_a75_a90
  have cc1 : Steps p.tables e below (s₁.setTop (entryFrame m #[(.int p1), (.long p2), (.int d0), (.int d1), (.int d2), (.int d3)] maxLocals)) (T106.setTop (mkF m 164 #[.val (.int p1), .val (.long p2), .second, .val (.int d0), .val (.int d1), .val (.int d2), .val (.int d3), .val (.int nn), .val (.int rr), .val (.ref a59), .val (.ref a67), .val (.ref a75), .val (.ref a90), .unset, .unset, .unset, .unset, .unset, .unset, .unset] [(.int nn)])) := c0.trans (by
    refine XS.iloadN X0.here hx rfl (hb hby at_0) rfl ?_
    refine XT.iconstV X0.here hx rfl ((3 : Int32)) (hb hby at_1) (by decide) ?_
    refine XS.iand X0.here hx rfl (hb hby at_2) rfl ?_
    show Steps p.tables e below (s₁.setTop (mkF m 3 #[.val (.int p1), .val (.long p2), .second, .val (.int d0), .val (.int d1), .val (.int d2), .val (.int d3), .unset, .unset, .unset, .unset, .unset, .unset, .unset, .unset, .unset, .unset, .unset, .unset, .unset] [(.int (p1 &&& (3 : Int32)))])) _
    rw [← hnn]
    refine XS.istore X0.here hx rfl (hb hby at_3) rfl (l' := #[.val (.int p1), .val (.long p2), .second, .val (.int d0), .val (.int d1), .val (.int d2), .val (.int d3), .val (.int nn), .unset, .unset, .unset, .unset, .unset, .unset, .unset, .unset, .unset, .unset, .unset, .unset]) rfl ?_
    refine XS.iloadN X0.here hx rfl (hb hby at_5) rfl ?_
    refine XT.iconstV X0.here hx rfl ((2 : Int32)) (hb hby at_6) (by decide) ?_
    refine XT.iushr X0.here hx rfl (hb hby at_7) rfl ?_
    refine XT.bipushV X0.here hx rfl ((24 : Int32)) (hb hby at_8) (by decide) ?_
    refine XS.irem X0.here hx rfl (hb hby at_10) rfl (by decide) ?_
    show Steps p.tables e below (s₁.setTop (mkF m 11 #[.val (.int p1), .val (.long p2), .second, .val (.int d0), .val (.int d1), .val (.int d2), .val (.int d3), .val (.int nn), .unset, .unset, .unset, .unset, .unset, .unset, .unset, .unset, .unset, .unset, .unset, .unset] [(.int ((XT.ushr p1 (2 : Int32)) - ((XT.ushr p1 (2 : Int32)) / (24 : Int32)) * (24 : Int32)))])) _
    rw [← hrr]
    refine XS.istore X0.here hx rfl (hb hby at_11) rfl (l' := #[.val (.int p1), .val (.long p2), .second, .val (.int d0), .val (.int d1), .val (.int d2), .val (.int d3), .val (.int nn), .val (.int rr), .unset, .unset, .unset, .unset, .unset, .unset, .unset, .unset, .unset, .unset, .unset]) rfl ?_
    refine XT.iconstV X0.here hx rfl ((4 : Int32)) (hb hby at_13) (by decide) ?_
    refine st59 _ ?_
    refine XS.dup X59.here hx rfl (hb hby at_16) rfl rfl ?_
    refine XT.iconstV X59.here hx rfl ((0 : Int32)) (hb hby at_17) (by decide) ?_
    refine XT.iconstV X59.here hx rfl ((0 : Int32)) (hb hby at_18) (by decide) ?_
    refine st60 _ ?_
    refine XS.dup XZ60.here hx rfl (hb hby at_20) rfl rfl ?_
    refine XT.iconstV XZ60.here hx rfl ((1 : Int32)) (hb hby at_21) (by decide) ?_
    refine XT.iconstV XZ60.here hx rfl ((1 : Int32)) (hb hby at_22) (by decide) ?_
    refine st61 _ ?_
    refine XS.dup XZ61.here hx rfl (hb hby at_24) rfl rfl ?_
    refine XT.iconstV XZ61.here hx rfl ((2 : Int32)) (hb hby at_25) (by decide) ?_
    refine XT.iconstV XZ61.here hx rfl ((2 : Int32)) (hb hby at_26) (by decide) ?_
    refine st62 _ ?_
    refine XS.dup XZ62.here hx rfl (hb hby at_28) rfl rfl ?_
    refine XT.iconstV XZ62.here hx rfl ((3 : Int32)) (hb hby at_29) (by decide) ?_
    refine XT.iconstV XZ62.here hx rfl ((3 : Int32)) (hb hby at_30) (by decide) ?_
    refine st63 _ ?_
    refine XS.astore XZ63.here hx rfl (hb hby at_32) rfl rfl (l' := #[.val (.int p1), .val (.long p2), .second, .val (.int d0), .val (.int d1), .val (.int d2), .val (.int d3), .val (.int nn), .val (.int rr), .val (.ref a59), .unset, .unset, .unset, .unset, .unset, .unset, .unset, .unset, .unset, .unset]) rfl ?_
    refine XS.aload XZ63.here hx rfl (hb hby at_34) rfl rfl ?_
    refine XT.iconstV XZ63.here hx rfl ((0 : Int32)) (hb hby at_36) (by decide) ?_
    refine XS.iload XZ63.here hx rfl (hb hby at_37) rfl ?_
    refine XT.iconstV XZ63.here hx rfl ((4 : Int32)) (hb hby at_39) (by decide) ?_
    refine XS.irem XZ63.here hx rfl (hb hby at_40) rfl (by decide) ?_
    show Steps p.tables e below (T63.setTop (mkF m 41 #[.val (.int p1), .val (.long p2), .second, .val (.int d0), .val (.int d1), .val (.int d2), .val (.int d3), .val (.int nn), .val (.int rr), .val (.ref a59), .unset, .unset, .unset, .unset, .unset, .unset, .unset, .unset, .unset, .unset] [(.int (rr - (rr / (4 : Int32)) * (4 : Int32))), (.int (0 : Int32)), (.ref a59)])) _
    rw [← hja]
    refine st64 _ ?_
    show Steps p.tables e below (T64.setTop (mkF m 44 #[.val (.int p1), .val (.long p2), .second, .val (.int d0), .val (.int d1), .val (.int d2), .val (.int d3), .val (.int nn), .val (.int rr), .val (.ref a59), .unset, .unset, .unset, .unset, .unset, .unset, .unset, .unset, .unset, .unset] [])) _
    refine XS.aload X64.here hx rfl (hb hby at_44) rfl rfl ?_
    refine XT.iconstV X64.here hx rfl ((1 : Int32)) (hb hby at_46) (by decide) ?_
    refine XT.iconstV X64.here hx rfl ((1 : Int32)) (hb hby at_47) (by decide) ?_
    refine XS.iload X64.here hx rfl (hb hby at_48) rfl ?_
    refine XT.iconstV X64.here hx rfl ((4 : Int32)) (hb hby at_50) (by decide) ?_
    refine XS.idiv X64.here hx rfl (hb hby at_51) rfl (by decide) ?_
    refine XT.iconstV X64.here hx rfl ((3 : Int32)) (hb hby at_52) (by decide) ?_
    refine XS.irem X64.here hx rfl (hb hby at_53) rfl (by decide) ?_
    refine XS.iadd X64.here hx rfl (hb hby at_54) rfl ?_
    show Steps p.tables e below (T64.setTop (mkF m 55 #[.val (.int p1), .val (.long p2), .second, .val (.int d0), .val (.int d1), .val (.int d2), .val (.int d3), .val (.int nn), .val (.int rr), .val (.ref a59), .unset, .unset, .unset, .unset, .unset, .unset, .unset, .unset, .unset, .unset] [(.int ((1 : Int32) + ((rr / (4 : Int32)) - ((rr / (4 : Int32)) / (3 : Int32)) * (3 : Int32)))), (.int (1 : Int32)), (.ref a59)])) _
    rw [← hjb]
    refine st65 _ ?_
    show Steps p.tables e below (T65.setTop (mkF m 58 #[.val (.int p1), .val (.long p2), .second, .val (.int d0), .val (.int d1), .val (.int d2), .val (.int d3), .val (.int nn), .val (.int rr), .val (.ref a59), .unset, .unset, .unset, .unset, .unset, .unset, .unset, .unset, .unset, .unset] [])) _
    refine XS.aload X65.here hx rfl (hb hby at_58) rfl rfl ?_
    refine XT.iconstV X65.here hx rfl ((2 : Int32)) (hb hby at_60) (by decide) ?_
    refine XT.iconstV X65.here hx rfl ((2 : Int32)) (hb hby at_61) (by decide) ?_
    refine XS.iload X65.here hx rfl (hb hby at_62) rfl ?_
    refine XT.bipushV X65.here hx rfl ((12 : Int32)) (hb hby at_64) (by decide) ?_
    refine XS.idiv X65.here hx rfl (hb hby at_66) rfl (by decide) ?_
    refine XT.iconstV X65.here hx rfl ((2 : Int32)) (hb hby at_67) (by decide) ?_
    refine XS.irem X65.here hx rfl (hb hby at_68) rfl (by decide) ?_
    refine XS.iadd X65.here hx rfl (hb hby at_69) rfl ?_
    show Steps p.tables e below (T65.setTop (mkF m 70 #[.val (.int p1), .val (.long p2), .second, .val (.int d0), .val (.int d1), .val (.int d2), .val (.int d3), .val (.int nn), .val (.int rr), .val (.ref a59), .unset, .unset, .unset, .unset, .unset, .unset, .unset, .unset, .unset, .unset] [(.int ((2 : Int32) + ((rr / (12 : Int32)) - ((rr / (12 : Int32)) / (2 : Int32)) * (2 : Int32)))), (.int (2 : Int32)), (.ref a59)])) _
    rw [← hjc]
    refine st66 _ ?_
    show Steps p.tables e below (T66.setTop (mkF m 73 #[.val (.int p1), .val (.long p2), .second, .val (.int d0), .val (.int d1), .val (.int d2), .val (.int d3), .val (.int nn), .val (.int rr), .val (.ref a59), .unset, .unset, .unset, .unset, .unset, .unset, .unset, .unset, .unset, .unset] [])) _
    refine XT.iconstV X66.here hx rfl ((3 : Int32)) (hb hby at_73) (by decide) ?_
    refine st67 _ ?_
    refine XS.dup X67.here hx rfl (hb hby at_76) rfl rfl ?_
    refine XT.iconstV X67.here hx rfl ((0 : Int32)) (hb hby at_77) (by decide) ?_
    refine XT.lloadN X67.here hx rfl (hb hby at_78) rfl ?_
    refine XT.bipushV X67.here hx rfl ((43 : Int32)) (hb hby at_79) (by decide) ?_
    refine XT.lshl X67.here hx rfl (hb hby at_81) rfl ?_
    refine XT.bipushV X67.here hx rfl ((43 : Int32)) (hb hby at_82) (by decide) ?_
    refine XT.lshr X67.here hx rfl (hb hby at_84) rfl ?_
    refine XT.l2i X67.here hx rfl (hb hby at_85) rfl ?_
    show Steps p.tables e below (T67.setTop (mkF m 86 #[.val (.int p1), .val (.long p2), .second, .val (.int d0), .val (.int d1), .val (.int d2), .val (.int d3), .val (.int nn), .val (.int rr), .val (.ref a59), .unset, .unset, .unset, .unset, .unset, .unset, .unset, .unset, .unset, .unset] [(.int (((p2 <<< ((43 : Int32).toInt64 &&& 63)) >>> ((43 : Int32).toInt64 &&& 63)).toInt32)), (.int (0 : Int32)), (.ref a67), (.ref a67)])) _
    rw [← hv0]
    refine st69 _ ?_
    refine XS.dup XZ69.here hx rfl (hb hby at_87) rfl rfl ?_
    refine XT.iconstV XZ69.here hx rfl ((1 : Int32)) (hb hby at_88) (by decide) ?_
    refine XT.lloadN XZ69.here hx rfl (hb hby at_89) rfl ?_
    refine XT.bipushV XZ69.here hx rfl ((22 : Int32)) (hb hby at_90) (by decide) ?_
    refine XT.lshl XZ69.here hx rfl (hb hby at_92) rfl ?_
    refine XT.bipushV XZ69.here hx rfl ((43 : Int32)) (hb hby at_93) (by decide) ?_
    refine XT.lshr XZ69.here hx rfl (hb hby at_95) rfl ?_
    refine XT.l2i XZ69.here hx rfl (hb hby at_96) rfl ?_
    show Steps p.tables e below (T69.setTop (mkF m 97 #[.val (.int p1), .val (.long p2), .second, .val (.int d0), .val (.int d1), .val (.int d2), .val (.int d3), .val (.int nn), .val (.int rr), .val (.ref a59), .unset, .unset, .unset, .unset, .unset, .unset, .unset, .unset, .unset, .unset] [(.int (((p2 <<< ((22 : Int32).toInt64 &&& 63)) >>> ((43 : Int32).toInt64 &&& 63)).toInt32)), (.int (1 : Int32)), (.ref a67), (.ref a67)])) _
    rw [← hv1]
    refine st71 _ ?_
    refine XS.dup XZ71.here hx rfl (hb hby at_98) rfl rfl ?_
    refine XT.iconstV XZ71.here hx rfl ((2 : Int32)) (hb hby at_99) (by decide) ?_
    refine XT.lloadN XZ71.here hx rfl (hb hby at_100) rfl ?_
    refine XT.iconstV XZ71.here hx rfl ((1 : Int32)) (hb hby at_101) (by decide) ?_
    refine XT.lshl XZ71.here hx rfl (hb hby at_102) rfl ?_
    refine XT.bipushV XZ71.here hx rfl ((43 : Int32)) (hb hby at_103) (by decide) ?_
    refine XT.lshr XZ71.here hx rfl (hb hby at_105) rfl ?_
    refine XT.l2i XZ71.here hx rfl (hb hby at_106) rfl ?_
    show Steps p.tables e below (T71.setTop (mkF m 107 #[.val (.int p1), .val (.long p2), .second, .val (.int d0), .val (.int d1), .val (.int d2), .val (.int d3), .val (.int nn), .val (.int rr), .val (.ref a59), .unset, .unset, .unset, .unset, .unset, .unset, .unset, .unset, .unset, .unset] [(.int (((p2 <<< ((1 : Int32).toInt64 &&& 63)) >>> ((43 : Int32).toInt64 &&& 63)).toInt32)), (.int (2 : Int32)), (.ref a67), (.ref a67)])) _
    rw [← hv2]
    refine st73 _ ?_
    refine XS.astore XZ73.here hx rfl (hb hby at_108) rfl rfl (l' := #[.val (.int p1), .val (.long p2), .second, .val (.int d0), .val (.int d1), .val (.int d2), .val (.int d3), .val (.int nn), .val (.int rr), .val (.ref a59), .val (.ref a67), .unset, .unset, .unset, .unset, .unset, .unset, .unset, .unset, .unset]) rfl ?_
    refine XT.iconstV XZ73.here hx rfl ((4 : Int32)) (hb hby at_110) (by decide) ?_
    refine st75 _ ?_
    refine XS.dup X75.here hx rfl (hb hby at_113) rfl rfl ?_
    refine XT.iconstV X75.here hx rfl ((0 : Int32)) (hb hby at_114) (by decide) ?_
    refine XS.iloadN X75.here hx rfl (hb hby at_115) rfl ?_
    refine st78 _ ?_
    refine XS.dup XZ78.here hx rfl (hb hby at_117) rfl rfl ?_
    refine XT.iconstV XZ78.here hx rfl ((1 : Int32)) (hb hby at_118) (by decide) ?_
    refine XS.iload XZ78.here hx rfl (hb hby at_119) rfl ?_
    refine st81 _ ?_
    refine XS.dup XZ81.here hx rfl (hb hby at_122) rfl rfl ?_
    refine XT.iconstV XZ81.here hx rfl ((2 : Int32)) (hb hby at_123) (by decide) ?_
    refine XS.iload XZ81.here hx rfl (hb hby at_124) rfl ?_
    refine st84 _ ?_
    refine XS.dup XZ84.here hx rfl (hb hby at_127) rfl rfl ?_
    refine XT.iconstV XZ84.here hx rfl ((3 : Int32)) (hb hby at_128) (by decide) ?_
    refine XS.iload XZ84.here hx rfl (hb hby at_129) rfl ?_
    refine st87 _ ?_
    refine XS.astore XZ87.here hx rfl (hb hby at_132) rfl rfl (l' := #[.val (.int p1), .val (.long p2), .second, .val (.int d0), .val (.int d1), .val (.int d2), .val (.int d3), .val (.int nn), .val (.int rr), .val (.ref a59), .val (.ref a67), .val (.ref a75), .unset, .unset, .unset, .unset, .unset, .unset, .unset, .unset]) rfl ?_
    refine XT.iconstV XZ87.here hx rfl ((4 : Int32)) (hb hby at_134) (by decide) ?_
    refine st90 _ ?_
    refine XS.dup X90.here hx rfl (hb hby at_137) rfl rfl ?_
    refine XT.iconstV X90.here hx rfl ((0 : Int32)) (hb hby at_138) (by decide) ?_
    refine XS.iloadN X90.here hx rfl (hb hby at_139) rfl ?_
    refine XS.i2dS X90.here hx rfl (hb hby at_140) rfl rfl ?_
    refine st94 _ ?_
    refine XS.dup XZ94.here hx rfl (hb hby at_142) rfl rfl ?_
    refine XT.iconstV XZ94.here hx rfl ((1 : Int32)) (hb hby at_143) (by decide) ?_
    refine XS.iload XZ94.here hx rfl (hb hby at_144) rfl ?_
    refine XS.i2dS XZ94.here hx rfl (hb hby at_146) rfl rfl ?_
    refine st98 _ ?_
    refine XS.dup XZ98.here hx rfl (hb hby at_148) rfl rfl ?_
    refine XT.iconstV XZ98.here hx rfl ((2 : Int32)) (hb hby at_149) (by decide) ?_
    refine XS.iload XZ98.here hx rfl (hb hby at_150) rfl ?_
    refine XS.i2dS XZ98.here hx rfl (hb hby at_152) rfl rfl ?_
    refine st102 _ ?_
    refine XS.dup XZ102.here hx rfl (hb hby at_154) rfl rfl ?_
    refine XT.iconstV XZ102.here hx rfl ((3 : Int32)) (hb hby at_155) (by decide) ?_
    refine XS.iload XZ102.here hx rfl (hb hby at_156) rfl ?_
    refine XS.i2dS XZ102.here hx rfl (hb hby at_158) rfl rfl ?_
    refine st106 _ ?_
    refine XS.astore XZ106.here hx rfl (hb hby at_160) rfl rfl (l' := #[.val (.int p1), .val (.long p2), .second, .val (.int d0), .val (.int d1), .val (.int d2), .val (.int d3), .val (.int nn), .val (.int rr), .val (.ref a59), .val (.ref a67), .val (.ref a75), .val (.ref a90), .unset, .unset, .unset, .unset, .unset, .unset, .unset]) rfl ?_
    refine XS.iload XZ106.here hx rfl (hb hby at_162) rfl ?_
    exact Steps.refl _)
  have h4 := own_n p1
  rw [← hnn] at h4
  rcases h4 with h4 | h4 | h4 | h4
  ·
    subst h4
    obtain ⟨T110, h110, kA110, X110, e110, E110, A110, st110⟩ := newP XZ106 hx hZ (hw _ (List.mem_of_getElem? (i := 0) rfl)) e106 (g := (mkF m 164 #[.val (.int p1), .val (.long p2), .second, .val (.int d0), .val (.int d1), .val (.int d2), .val (.int d3), .val (.int (0 : Int32)), .val (.int rr), .val (.ref a59), .val (.ref a67), .val (.ref a75), .val (.ref a90), .unset, .unset, .unset, .unset, .unset, .unset, .unset] [(.int (0 : Int32))])) rfl (hb hby at_164) rfl (by decide : ¬ ((0 : Int32) < (0 : Int32))) (cap := 0) (by decide : (0 : Int32).toNatClampNeg ≤ 0) (by decide) (by decide) (by decide)
    obtain ⟨a110, g110⟩ : ∃ z, z = h106.size := ⟨_, rfl⟩
    rw [← g110] at A110 st110
    have Zs110 : n0 ≤ h110.size := Nat.le_trans Zs106 E110.1
    have gn110 : n0 ≤ a110 := Nat.le_trans Zs106 (Nat.le_of_eq g110.symm)
    have V110 : Arv Z h110 a110 kA110 .int (0 : Int32) [] (.int (0 : Int32)) := Arv.new A110 (by decide)
    have ne_a59_a110 : a59 ≠ a110 := Nat.ne_of_lt (Nat.lt_of_lt_of_le V107.lt (Nat.le_of_eq g110.symm))
    have ne_a67_a110 : a67 ≠ a110 := Nat.ne_of_lt (Nat.lt_of_lt_of_le V108.lt (Nat.le_of_eq g110.symm))
    have ne_a75_a110 : a75 ≠ a110 := Nat.ne_of_lt (Nat.lt_of_lt_of_le V109.lt (Nat.le_of_eq g110.symm))
    have ne_a90_a110 : a90 ≠ a110 := Nat.ne_of_lt (Nat.lt_of_lt_of_le V106.lt (Nat.le_of_eq g110.symm))
    have V111 : Arv Z h110 a59 kA59 .int (4 : Int32) vs66 (.int (0 : Int32)) := V107.ext E110
    have V112 : Arv Z h110 a67 kA67 .int (3 : Int32) [(.int v0), (.int v1), (.int v2)] (.int (0 : Int32)) := V108.ext E110
    have V113 : Arv Z h110 a75 kA75 .int (4 : Int32) [(.int d0), (.int d1), (.int d2), (.int d3)] (.int (0 : Int32)) := V109.ext E110
    have V114 : Arv Z h110 a90 kA90 .double (4 : Int32) [(.double (FP.i2d d0)), (.double (FP.i2d d1)), (.double (FP.i2d d2)), (.double (FP.i2d d3))] (.double (FP.l2d 0)) := V106.ext E110
    obtain ⟨T115, h115, kA115, X115, e115, E115, A115, st115⟩ := newP X110 hx hZ (hw _ (List.mem_of_getElem? (i := 5) rfl)) e110 (g := (mkF m 170 #[.val (.int p1), .val (.long p2), .second, .val (.int d0), .val (.int d1), .val (.int d2), .val (.int d3), .val (.int (0 : Int32)), .val (.int rr), .val (.ref a59), .val (.ref a67), .val (.ref a75), .val (.ref a90), .val (.ref a110), .unset, .unset, .unset, .unset, .unset, .unset] [(.int (0 : Int32))])) rfl (hb hby at_170) rfl (by decide : ¬ ((0 : Int32) < (0 : Int32))) (cap := 0) (by decide : (0 : Int32).toNatClampNeg ≤ 0) (by decide) (by decide) (by decide)
    obtain ⟨a115, g115⟩ : ∃ z, z = h110.size := ⟨_, rfl⟩
    rw [← g115] at A115 st115
    have Zs115 : n0 ≤ h115.size := Nat.le_trans Zs110 E115.1
    have gn115 : n0 ≤ a115 := Nat.le_trans Zs110 (Nat.le_of_eq g115.symm)
    have V115 : Arv Z h115 a115 kA115 .double (0 : Int32) [] (.double (FP.l2d 0)) := Arv.newD A115 (by decide)
    have ne_a59_a115 : a59 ≠ a115 := Nat.ne_of_lt (Nat.lt_of_lt_of_le V111.lt (Nat.le_of_eq g115.symm))
    have ne_a67_a115 : a67 ≠ a115 := Nat.ne_of_lt (Nat.lt_of_lt_of_le V112.lt (Nat.le_of_eq g115.symm))
    have ne_a75_a115 : a75 ≠ a115 := Nat.ne_of_lt (Nat.lt_of_lt_of_le V113.lt (Nat.le_of_eq g115.symm))
    have ne_a90_a115 : a90 ≠ a115 := Nat.ne_of_lt (Nat.lt_of_lt_of_le V114.lt (Nat.le_of_eq g115.symm))
    have ne_a110_a115 : a110 ≠ a115 := Nat.ne_of_lt (Nat.lt_of_lt_of_le V110.lt (Nat.le_of_eq g115.symm))
    have V116 : Arv Z h115 a59 kA59 .int (4 : Int32) vs66 (.int (0 : Int32)) := V111.ext E115
    have V117 : Arv Z h115 a67 kA67 .int (3 : Int32) [(.int v0), (.int v1), (.int v2)] (.int (0 : Int32)) := V112.ext E115
    have V118 : Arv Z h115 a75 kA75 .int (4 : Int32) [(.int d0), (.int d1), (.int d2), (.int d3)] (.int (0 : Int32)) := V113.ext E115
    have V119 : Arv Z h115 a90 kA90 .double (4 : Int32) [(.double (FP.i2d d0)), (.double (FP.i2d d1)), (.double (FP.i2d d2)), (.double (FP.i2d d3))] (.double (FP.l2d 0)) := V114.ext E115
    have V120 : Arv Z h115 a110 kA110 .int (0 : Int32) [] (.int (0 : Int32)) := V110.ext E115
    obtain ⟨T121, h121, X121, e121, E121, A121, D121, -, st121⟩ := newO X115 hx hZ hown (hw _ (List.mem_of_getElem? (i := 6) rfl)) (hw _ (List.mem_of_getElem? (i := 7) rfl)) (hw _ (List.mem_of_getElem? (i := 8) rfl)) e115 (g := (mkF m 302 #[.val (.int p1), .val (.long p2), .second, .val (.int d0), .val (.int d1), .val (.int d2), .val (.int d3), .val (.int (0 : Int32)), .val (.int rr), .val (.ref a59), .val (.ref a67), .val (.ref a75), .val (.ref a90), .val (.ref a110), .val (.ref a115), .val (.long (0 : Int64)), .second, .unset, .unset, .unset] [])) rfl (hb hby at_302) (by decide) (by decide)
    obtain ⟨a121, g121⟩ : ∃ z, z = h115.size := ⟨_, rfl⟩
    rw [← g121] at A121 D121 st121
    have Zs121 : n0 ≤ h121.size := Nat.le_trans Zs115 E121.1
    have gn121 : n0 ≤ a121 := Nat.le_trans Zs115 (Nat.le_of_eq g121.symm)
    have V122 : Arv Z h121 a59 kA59 .int (4 : Int32) vs66 (.int (0 : Int32)) := V116.ext E121
    have ne_a59_a121 : a59 ≠ a121 := Nat.ne_of_lt (Nat.lt_of_lt_of_le V116.lt (Nat.le_of_eq g121.symm))
    have V123 : Arv Z h121 a67 kA67 .int (3 : Int32) [(.int v0), (.int v1), (.int v2)] (.int (0 : Int32)) := V117.ext E121
    have ne_a67_a121 : a67 ≠ a121 := Nat.ne_of_lt (Nat.lt_of_lt_of_le V117.lt (Nat.le_of_eq g121.symm))
    have V124 : Arv Z h121 a75 kA75 .int (4 : Int32) [(.int d0), (.int d1), (.int d2), (.int d3)] (.int (0 : Int32)) := V118.ext E121
    have ne_a75_a121 : a75 ≠ a121 := Nat.ne_of_lt (Nat.lt_of_lt_of_le V118.lt (Nat.le_of_eq g121.symm))
    have V125 : Arv Z h121 a90 kA90 .double (4 : Int32) [(.double (FP.i2d d0)), (.double (FP.i2d d1)), (.double (FP.i2d d2)), (.double (FP.i2d d3))] (.double (FP.l2d 0)) := V119.ext E121
    have ne_a90_a121 : a90 ≠ a121 := Nat.ne_of_lt (Nat.lt_of_lt_of_le V119.lt (Nat.le_of_eq g121.symm))
    have V126 : Arv Z h121 a110 kA110 .int (0 : Int32) [] (.int (0 : Int32)) := V120.ext E121
    have ne_a110_a121 : a110 ≠ a121 := Nat.ne_of_lt (Nat.lt_of_lt_of_le V120.lt (Nat.le_of_eq g121.symm))
    have V127 : Arv Z h121 a115 kA115 .double (0 : Int32) [] (.double (FP.l2d 0)) := V115.ext E121
    have ne_a115_a121 : a115 ≠ a121 := Nat.ne_of_lt (Nat.lt_of_lt_of_le V115.lt (Nat.le_of_eq g121.symm))
    obtain ⟨_, _, ⟨T128, L128, k128, n128⟩, -, X128, ⟨Lc128, hQ128, l128, y128, z128⟩, st128⟩ := X121.specialBack hx (y := (⟨"com/example/scentwalk/scentwalk/learn/SparseVector", "<init>", "([I[D)V"⟩ : MethodName)) rfl hown (mvT hZ (hw _ (List.mem_of_getElem? (i := 9) rfl))) (mvT hZ (hw _ (List.mem_of_getElem? (i := 10) rfl))) (mvT hZ (hw _ (List.mem_of_getElem? (i := 11) rfl))) (by decide) (backOf (W := 1) (rmN l Z a0 hw [] a121 a110 a115 h121 n0 Zs121 A121 (D121 (Or.inr (hw _ (List.mem_of_getElem? (i := 21) rfl))) (ty := (.array .int)) (by decide)) (D121 (Or.inr (hw _ (List.mem_of_getElem? (i := 23) rfl))) (ty := (.array .double)) (by decide)) gn121) hZ (hw _ (List.mem_of_getElem? (i := 11) rfl)) (hw _ (List.mem_of_getElem? (i := 8) rfl)) (by decide) (by decide)) (g := (mkF m 310 #[.val (.int p1), .val (.long p2), .second, .val (.int d0), .val (.int d1), .val (.int d2), .val (.int d3), .val (.int (0 : Int32)), .val (.int rr), .val (.ref a59), .val (.ref a67), .val (.ref a75), .val (.ref a90), .val (.ref a110), .val (.ref a115), .val (.long (0 : Int64)), .second, .unset, .unset, .unset] [(.ref a115), (.ref a110), (.ref a121), (.ref a121)])) rfl (by rw [hml]; rfl) (Steps.refl _) (a := a121) (argsL := [(.ref a110), (.ref a115)]) (rest := [(.ref a121)]) (lenOf pd___I_D_V rfl) rfl (by show 2 * 0 + _ ≤ _; exact Nat.le_of_eq rfl) (hb hby at_310) (fun _ _ => ⟨rfl, e121, (by decide : 7 + 0 ≤ _), (by decide : 17 + 0 ≤ _)⟩)
    dsimp only [Pt.U, Pt.locs, Pt.cells, Pt.slots] at X128 l128 y128 z128 st128 hQ128
    rw [y128, z128] at X128
    obtain ⟨rfl, N128, K128, FI, FV⟩ := hQ128
    have NN128 : Fr n0 L128 := by rw [l128]; exact Fr.app NZ106 N128
    have Ec : Exa Z T128.heap a121 "com/example/scentwalk/scentwalk/learn/SparseVector" := A121.keep K128
    have Zc : n0 ≤ T128.heap.size := Nat.le_trans Zs121 K128.1
    have WI : Arv Z T128.heap a110 kA110 .int (0 : Int32) [] (.int (0 : Int32)) := V126.keep K128 (ninS ne_a110_a121 nin0)
    have WX : Arv Z T128.heap a115 kA115 .double (0 : Int32) [] (.double (FP.l2d 0)) := V127.keep K128 (ninS ne_a115_a121 nin0)
    have WE : Arv Z T128.heap a90 kA90 .double (4 : Int32) [(.double (FP.i2d d0)), (.double (FP.i2d d1)), (.double (FP.i2d d2)), (.double (FP.i2d d3))] (.double (FP.l2d 0)) := V125.keep K128 (ninS ne_a90_a121 nin0)
    obtain ⟨hq, e_q⟩ : ∃ z, T128.heap = z := ⟨_, rfl⟩
    rw [e_q] at Ec Zc FI FV WI WX WE
    have I0 := own_zero
    obtain ⟨cq129, kq129, q129a, q129b, q129c⟩ := isOf hZ e_q Ec
    obtain ⟨_, _, ⟨T129, L129, k129, n129⟩, -, X129, ⟨Lc129, hQ129, l129, y129, z129⟩, st129⟩ := X128.virtualBack hx (y := (⟨"com/example/scentwalk/scentwalk/learn/SparseVector", "dot", "([D)D"⟩ : MethodName)) (z := (⟨"com/example/scentwalk/scentwalk/learn/SparseVector", "dot", "([D)D"⟩ : MethodName)) hown (mvT hZ (hw _ (List.mem_of_getElem? (i := 24) rfl))) (mvT hZ (hw _ (List.mem_of_getElem? (i := 25) rfl))) (notFace_of_selects (args := #[]) (mvT hZ (hw _ (List.mem_of_getElem? (i := 27) rfl)))) (mvT hZ (hw _ (List.mem_of_getElem? (i := 27) rfl))) (mvT hZ (hw _ (List.mem_of_getElem? (i := 26) rfl))) (by decide) (backOf (W := 0) (rmD0 l Z a0 hw [] a121 a90 a110 a115 kA110 kA115 kA90 _    hq n0 Zc FI FV WI WX WE ) hZ (hw _ (List.mem_of_getElem? (i := 28) rfl)) (hw _ (List.mem_of_getElem? (i := 8) rfl)) (by decide) (by decide)) q129a q129c (g := (mkF m 319 #[.val (.int p1), .val (.long p2), .second, .val (.int d0), .val (.int d1), .val (.int d2), .val (.int d3), .val (.int (0 : Int32)), .val (.int rr), .val (.ref a59), .val (.ref a67), .val (.ref a75), .val (.ref a90), .val (.ref a110), .val (.ref a115), .val (.long (0 : Int64)), .second, .val (.ref a121), .unset, .unset] [(.ref a90), (.ref a121)])) rfl (by rw [hml]; rfl) (Steps.refl _) (argsL := [(.ref a90)]) (rest := []) (lenOf pd___D_D rfl) rfl (by show 2 * 0 + _ ≤ _; exact Nat.le_of_eq rfl) (hb hby at_319) (fun _ _ => ⟨rfl, e_q, (by decide : 7 + 0 ≤ _), (by decide : 17 + 0 ≤ _)⟩)
    dsimp only [Pt.U, Pt.locs, Pt.cells, Pt.slots] at X129 l129 y129 z129 st129 hQ129
    rw [y129, z129] at X129
    obtain ⟨rfl, N129, e129⟩ := hQ129
    have NN129 : Fr n0 L129 := by rw [l129]; exact Fr.app NN128 N129
    have ee : (0 : Int64).toInt = 0 := by
      rfl
    have IE := FP.Core.l2d_int (a := (0 : Int64)) (by omega)
    have cs0_2 : Steps p.tables e below (s₁.setTop (entryFrame m #[(.int p1), (.long p2), (.int d0), (.int d1), (.int d2), (.int d3)] maxLocals)) (T129.setTop (mkF m 338 #[.val (.int p1), .val (.long p2), .second, .val (.int d0), .val (.int d1), .val (.int d2), .val (.int d3), .val (.int (0 : Int32)), .val (.int rr), .val (.ref a59), .val (.ref a67), .val (.ref a75), .val (.ref a90), .val (.ref a110), .val (.ref a115), .val (.long (0 : Int64)), .second, .val (.ref a121), .val (.double (0 : UInt64)), .second] [(.int (1 : Int32))])) := cc1.trans (by
      refine st110 _ ?_
      refine XS.astore X110.here hx rfl (hb hby at_166) rfl rfl (l' := #[.val (.int p1), .val (.long p2), .second, .val (.int d0), .val (.int d1), .val (.int d2), .val (.int d3), .val (.int (0 : Int32)), .val (.int rr), .val (.ref a59), .val (.ref a67), .val (.ref a75), .val (.ref a90), .val (.ref a110), .unset, .unset, .unset, .unset, .unset, .unset]) rfl ?_
      refine XS.iload X110.here hx rfl (hb hby at_168) rfl ?_
      refine st115 _ ?_
      refine XS.astore X115.here hx rfl (hb hby at_172) rfl rfl (l' := #[.val (.int p1), .val (.long p2), .second, .val (.int d0), .val (.int d1), .val (.int d2), .val (.int d3), .val (.int (0 : Int32)), .val (.int rr), .val (.ref a59), .val (.ref a67), .val (.ref a75), .val (.ref a90), .val (.ref a110), .val (.ref a115), .unset, .unset, .unset, .unset, .unset]) rfl ?_
      refine XT.lconstV X115.here hx rfl ((0 : Int64)) (hb hby at_174) (by decide) ?_
      refine XT.lstore X115.here hx rfl (hb hby at_175) rfl (l' := #[.val (.int p1), .val (.long p2), .second, .val (.int d0), .val (.int d1), .val (.int d2), .val (.int d3), .val (.int (0 : Int32)), .val (.int rr), .val (.ref a59), .val (.ref a67), .val (.ref a75), .val (.ref a90), .val (.ref a110), .val (.ref a115), .val (.long (0 : Int64)), .second, .unset, .unset, .unset]) rfl ?_
      refine XS.iload X115.here hx rfl (hb hby at_177) rfl ?_
      refine XS.ifYes X115.here hx rfl (pc0 := 179) (pc' := 218) rfl (hb hby at_179) rfl (XT.i0_le_t (by decide)) (by decide) (by decide) ?_
      refine XS.iload X115.here hx rfl (hb hby at_218) rfl ?_
      refine XT.iconstV X115.here hx rfl ((1 : Int32)) (hb hby at_220) (by decide) ?_
      refine XS.icmpYes X115.here hx rfl (pc0 := 221) (pc' := 260) rfl (hb hby at_221) rfl (XT.ii_le_t (by decide)) (by decide) (by decide) ?_
      refine XS.iload X115.here hx rfl (hb hby at_260) rfl ?_
      refine XT.iconstV X115.here hx rfl ((2 : Int32)) (hb hby at_262) (by decide) ?_
      refine XS.icmpYes X115.here hx rfl (pc0 := 263) (pc' := 302) rfl (hb hby at_263) rfl (XT.ii_le_t (by decide)) (by decide) (by decide) ?_
      refine st121 _ ?_
      refine XS.dup X121.here hx rfl (hb hby at_305) rfl rfl ?_
      refine XS.aload X121.here hx rfl (hb hby at_306) rfl rfl ?_
      refine XS.aload X121.here hx rfl (hb hby at_308) rfl rfl ?_
      refine st128.trans ?_
      show Steps p.tables e below (T128.setTop (mkF m 313 #[.val (.int p1), .val (.long p2), .second, .val (.int d0), .val (.int d1), .val (.int d2), .val (.int d3), .val (.int (0 : Int32)), .val (.int rr), .val (.ref a59), .val (.ref a67), .val (.ref a75), .val (.ref a90), .val (.ref a110), .val (.ref a115), .val (.long (0 : Int64)), .second, .unset, .unset, .unset] [(.ref a121)])) _
      refine XS.astore X128.here hx rfl (hb hby at_313) rfl rfl (l' := #[.val (.int p1), .val (.long p2), .second, .val (.int d0), .val (.int d1), .val (.int d2), .val (.int d3), .val (.int (0 : Int32)), .val (.int rr), .val (.ref a59), .val (.ref a67), .val (.ref a75), .val (.ref a90), .val (.ref a110), .val (.ref a115), .val (.long (0 : Int64)), .second, .val (.ref a121), .unset, .unset]) rfl ?_
      refine XS.aload X128.here hx rfl (hb hby at_315) rfl rfl ?_
      refine XS.aload X128.here hx rfl (hb hby at_317) rfl rfl ?_
      refine st129.trans ?_
      show Steps p.tables e below (T129.setTop (mkF m 322 #[.val (.int p1), .val (.long p2), .second, .val (.int d0), .val (.int d1), .val (.int d2), .val (.int d3), .val (.int (0 : Int32)), .val (.int rr), .val (.ref a59), .val (.ref a67), .val (.ref a75), .val (.ref a90), .val (.ref a110), .val (.ref a115), .val (.long (0 : Int64)), .second, .val (.ref a121), .unset, .unset] [(.double (0 : UInt64))])) _
      refine XS.dstore X129.here hx rfl (hb hby at_322) rfl (l' := #[.val (.int p1), .val (.long p2), .second, .val (.int d0), .val (.int d1), .val (.int d2), .val (.int d3), .val (.int (0 : Int32)), .val (.int rr), .val (.ref a59), .val (.ref a67), .val (.ref a75), .val (.ref a90), .val (.ref a110), .val (.ref a115), .val (.long (0 : Int64)), .second, .val (.ref a121), .val (.double (0 : UInt64)), .second]) rfl ?_
      refine XS.dload X129.here hx rfl (hb hby at_324) rfl ?_
      refine XT.lload X129.here hx rfl (hb hby at_326) rfl ?_
      refine XS.l2dS X129.here hx rfl (hb hby at_328) rfl rfl ?_
      refine XS.dcmpS X129.here hx rfl (hb hby at_329) rfl (own_eq0 I0 IE (by omega) _) ?_
      refine XS.ifNo X129.here hx rfl (hb hby at_330) rfl (XT.i0_ne_f rfl) ?_
      refine XT.iconstV X129.here hx rfl ((1 : Int32)) (hb hby at_333) (by decide) ?_
      refine XS.goto X129.here hx rfl (pc0 := 334) (pc' := 338) rfl (hb hby at_334) (by decide) (by decide) ?_
      exact Steps.refl _)
    obtain ⟨fs, hr, hrun, hended, hW, hsame⟩ := X129.leave (v := some (.int (1 : Int32))) (fun h => by rw [Bd.returns] at h; cases h)
    refine ⟨_, _, cs0_2.trans ?_, hrun, hended, _, _, rfl, ?_, ⟨_, rfl⟩, hW, hsame.mono (by decide) (by decide)⟩
    · exact retN X129 hx (t := .boolean) Bd.returns (by simp) (hb hby at_338) hr
    · show Q0 h0 n0 _ T129.heap _
      exact ⟨rfl, NN129⟩
  ·
    subst h4
    obtain ⟨T130, h130, kA130, X130, e130, E130, A130, st130⟩ := newP XZ106 hx hZ (hw _ (List.mem_of_getElem? (i := 0) rfl)) e106 (g := (mkF m 164 #[.val (.int p1), .val (.long p2), .second, .val (.int d0), .val (.int d1), .val (.int d2), .val (.int d3), .val (.int (1 : Int32)), .val (.int rr), .val (.ref a59), .val (.ref a67), .val (.ref a75), .val (.ref a90), .unset, .unset, .unset, .unset, .unset, .unset, .unset] [(.int (1 : Int32))])) rfl (hb hby at_164) rfl (by decide : ¬ ((1 : Int32) < (0 : Int32))) (cap := 1) (by decide : (1 : Int32).toNatClampNeg ≤ 1) (by decide) (by decide) (by decide)
    obtain ⟨a130, g130⟩ : ∃ z, z = h106.size := ⟨_, rfl⟩
    rw [← g130] at A130 st130
    have Zs130 : n0 ≤ h130.size := Nat.le_trans Zs106 E130.1
    have gn130 : n0 ≤ a130 := Nat.le_trans Zs106 (Nat.le_of_eq g130.symm)
    have V130 : Arv Z h130 a130 kA130 .int (1 : Int32) [] (.int (0 : Int32)) := Arv.new A130 (by decide)
    have ne_a59_a130 : a59 ≠ a130 := Nat.ne_of_lt (Nat.lt_of_lt_of_le V107.lt (Nat.le_of_eq g130.symm))
    have ne_a67_a130 : a67 ≠ a130 := Nat.ne_of_lt (Nat.lt_of_lt_of_le V108.lt (Nat.le_of_eq g130.symm))
    have ne_a75_a130 : a75 ≠ a130 := Nat.ne_of_lt (Nat.lt_of_lt_of_le V109.lt (Nat.le_of_eq g130.symm))
    have ne_a90_a130 : a90 ≠ a130 := Nat.ne_of_lt (Nat.lt_of_lt_of_le V106.lt (Nat.le_of_eq g130.symm))
    have V131 : Arv Z h130 a59 kA59 .int (4 : Int32) vs66 (.int (0 : Int32)) := V107.ext E130
    have V132 : Arv Z h130 a67 kA67 .int (3 : Int32) [(.int v0), (.int v1), (.int v2)] (.int (0 : Int32)) := V108.ext E130
    have V133 : Arv Z h130 a75 kA75 .int (4 : Int32) [(.int d0), (.int d1), (.int d2), (.int d3)] (.int (0 : Int32)) := V109.ext E130
    have V134 : Arv Z h130 a90 kA90 .double (4 : Int32) [(.double (FP.i2d d0)), (.double (FP.i2d d1)), (.double (FP.i2d d2)), (.double (FP.i2d d3))] (.double (FP.l2d 0)) := V106.ext E130
    obtain ⟨T135, h135, kA135, X135, e135, E135, A135, st135⟩ := newP X130 hx hZ (hw _ (List.mem_of_getElem? (i := 5) rfl)) e130 (g := (mkF m 170 #[.val (.int p1), .val (.long p2), .second, .val (.int d0), .val (.int d1), .val (.int d2), .val (.int d3), .val (.int (1 : Int32)), .val (.int rr), .val (.ref a59), .val (.ref a67), .val (.ref a75), .val (.ref a90), .val (.ref a130), .unset, .unset, .unset, .unset, .unset, .unset] [(.int (1 : Int32))])) rfl (hb hby at_170) rfl (by decide : ¬ ((1 : Int32) < (0 : Int32))) (cap := 1) (by decide : (1 : Int32).toNatClampNeg ≤ 1) (by decide) (by decide) (by decide)
    obtain ⟨a135, g135⟩ : ∃ z, z = h130.size := ⟨_, rfl⟩
    rw [← g135] at A135 st135
    have Zs135 : n0 ≤ h135.size := Nat.le_trans Zs130 E135.1
    have gn135 : n0 ≤ a135 := Nat.le_trans Zs130 (Nat.le_of_eq g135.symm)
    have V135 : Arv Z h135 a135 kA135 .double (1 : Int32) [] (.double (FP.l2d 0)) := Arv.newD A135 (by decide)
    have ne_a59_a135 : a59 ≠ a135 := Nat.ne_of_lt (Nat.lt_of_lt_of_le V131.lt (Nat.le_of_eq g135.symm))
    have ne_a67_a135 : a67 ≠ a135 := Nat.ne_of_lt (Nat.lt_of_lt_of_le V132.lt (Nat.le_of_eq g135.symm))
    have ne_a75_a135 : a75 ≠ a135 := Nat.ne_of_lt (Nat.lt_of_lt_of_le V133.lt (Nat.le_of_eq g135.symm))
    have ne_a90_a135 : a90 ≠ a135 := Nat.ne_of_lt (Nat.lt_of_lt_of_le V134.lt (Nat.le_of_eq g135.symm))
    have ne_a130_a135 : a130 ≠ a135 := Nat.ne_of_lt (Nat.lt_of_lt_of_le V130.lt (Nat.le_of_eq g135.symm))
    have V136 : Arv Z h135 a59 kA59 .int (4 : Int32) vs66 (.int (0 : Int32)) := V131.ext E135
    have V137 : Arv Z h135 a67 kA67 .int (3 : Int32) [(.int v0), (.int v1), (.int v2)] (.int (0 : Int32)) := V132.ext E135
    have V138 : Arv Z h135 a75 kA75 .int (4 : Int32) [(.int d0), (.int d1), (.int d2), (.int d3)] (.int (0 : Int32)) := V133.ext E135
    have V139 : Arv Z h135 a90 kA90 .double (4 : Int32) [(.double (FP.i2d d0)), (.double (FP.i2d d1)), (.double (FP.i2d d2)), (.double (FP.i2d d3))] (.double (FP.l2d 0)) := V134.ext E135
    have V140 : Arv Z h135 a130 kA130 .int (1 : Int32) [] (.int (0 : Int32)) := V130.ext E135
    obtain ⟨c141, A141, q141, S141, M141, H141, U141⟩ := id V136
    have i141 := inb_of (j := (0 : Int32)) S141 ⟨by decide, by decide⟩
    have t141 := H141.at (v := (.int y0)) i141 ey0
    have V142p : Arv Z h135 a130 kA130 .int (1 : Int32) [(.int (0 : Int32))] (.int (0 : Int32)) := V140.pad (pad_rep [] (.int (0 : Int32)) 1)
    obtain ⟨c142, A142, q142, S142, M142, H142, U142⟩ := id V142p
    obtain ⟨T142, h142, X142, e142, W142, st142⟩ := stI X135 hx hZ e135 A142 (j := (0 : Int32)) (inb_of S142 ⟨(by decide : ¬ ((0 : Int32) < (0 : Int32))), (by decide : (0 : Int32) < (1 : Int32))⟩) (g := (mkF m 189 #[.val (.int p1), .val (.long p2), .second, .val (.int d0), .val (.int d1), .val (.int d2), .val (.int d3), .val (.int (1 : Int32)), .val (.int rr), .val (.ref a59), .val (.ref a67), .val (.ref a75), .val (.ref a90), .val (.ref a130), .val (.ref a135), .val (.long (0 : Int64)), .second, .unset, .unset, .unset] [(.int y0), (.int (0 : Int32)), (.ref a130)])) rfl rfl (hb hby at_189)
    have N142 := Fr.snoc X142 NZ106 gn130
    have Zs142 : n0 ≤ h142.size := Nat.le_trans Zs135 (Keep.of_wr W142).1
    obtain ⟨Lz142, XZ142, NZ142⟩ := own_pack X142 N142
    have V142 : Arv Z h142 a130 kA130 .int (1 : Int32) [(.int y0)] (.int (0 : Int32)) := Arv.set A142 q142 S142 M142 H142 U142 rfl W142 0 rfl (Nat.le_of_ble_eq_true rfl)
    have V143 : Arv Z h142 a59 kA59 .int (4 : Int32) vs66 (.int (0 : Int32)) := V136.other W142 ne_a59_a130
    have V144 : Arv Z h142 a67 kA67 .int (3 : Int32) [(.int v0), (.int v1), (.int v2)] (.int (0 : Int32)) := V137.other W142 ne_a67_a130
    have V145 : Arv Z h142 a75 kA75 .int (4 : Int32) [(.int d0), (.int d1), (.int d2), (.int d3)] (.int (0 : Int32)) := V138.other W142 ne_a75_a130
    have V146 : Arv Z h142 a90 kA90 .double (4 : Int32) [(.double (FP.i2d d0)), (.double (FP.i2d d1)), (.double (FP.i2d d2)), (.double (FP.i2d d3))] (.double (FP.l2d 0)) := V139.other W142 ne_a90_a130
    have V147 : Arv Z h142 a135 kA135 .double (1 : Int32) [] (.double (FP.l2d 0)) := V135.other W142 ne_a130_a135.symm
    obtain ⟨c148, A148, q148, S148, M148, H148, U148⟩ := id V144
    have i148 := inb_of (j := (0 : Int32)) S148 ⟨by decide, by decide⟩
    have t148 := H148.at (v := (.int v0)) i148 rfl
    have V149p : Arv Z h142 a135 kA135 .double (1 : Int32) [(.double (FP.l2d 0))] (.double (FP.l2d 0)) := V147.pad (pad_rep [] (.double (FP.l2d 0)) 1)
    obtain ⟨c149, A149, q149, S149, M149, H149, U149⟩ := id V149p
    obtain ⟨T149, h149, X149, e149, W149, st149⟩ := stD XZ142 hx hZ e142 A149 (j := (0 : Int32)) (inb_of S149 ⟨(by decide : ¬ ((0 : Int32) < (0 : Int32))), (by decide : (0 : Int32) < (1 : Int32))⟩) (g := (mkF m 198 #[.val (.int p1), .val (.long p2), .second, .val (.int d0), .val (.int d1), .val (.int d2), .val (.int d3), .val (.int (1 : Int32)), .val (.int rr), .val (.ref a59), .val (.ref a67), .val (.ref a75), .val (.ref a90), .val (.ref a130), .val (.ref a135), .val (.long (0 : Int64)), .second, .unset, .unset, .unset] [(.double (FP.i2d v0)), (.int (0 : Int32)), (.ref a135)])) rfl rfl (hb hby at_198)
    have N149 := Fr.snoc X149 NZ142 gn135
    have Zs149 : n0 ≤ h149.size := Nat.le_trans Zs142 (Keep.of_wr W149).1
    obtain ⟨Lz149, XZ149, NZ149⟩ := own_pack X149 N149
    have V149 : Arv Z h149 a135 kA135 .double (1 : Int32) [(.double (FP.i2d v0))] (.double (FP.l2d 0)) := Arv.set A149 q149 S149 M149 H149 U149 rfl W149 0 rfl (Nat.le_of_ble_eq_true rfl)
    have V150 : Arv Z h149 a59 kA59 .int (4 : Int32) vs66 (.int (0 : Int32)) := V143.other W149 ne_a59_a135
    have V151 : Arv Z h149 a67 kA67 .int (3 : Int32) [(.int v0), (.int v1), (.int v2)] (.int (0 : Int32)) := V144.other W149 ne_a67_a135
    have V152 : Arv Z h149 a75 kA75 .int (4 : Int32) [(.int d0), (.int d1), (.int d2), (.int d3)] (.int (0 : Int32)) := V145.other W149 ne_a75_a135
    have V153 : Arv Z h149 a90 kA90 .double (4 : Int32) [(.double (FP.i2d d0)), (.double (FP.i2d d1)), (.double (FP.i2d d2)), (.double (FP.i2d d3))] (.double (FP.l2d 0)) := V146.other W149 ne_a90_a135
    have V154 : Arv Z h149 a130 kA130 .int (1 : Int32) [(.int y0)] (.int (0 : Int32)) := V142.other W149 ne_a130_a135
    obtain ⟨c155, A155, q155, S155, M155, H155, U155⟩ := id V151
    have i155 := inb_of (j := (0 : Int32)) S155 ⟨by decide, by decide⟩
    have t155 := H155.at (v := (.int v0)) i155 rfl
    obtain ⟨c156, A156, q156, S156, M156, H156, U156⟩ := id V150
    have i156 := inb_of (j := (0 : Int32)) S156 ⟨by decide, by decide⟩
    have t156 := H156.at (v := (.int y0)) i156 ey0
    obtain ⟨c157, A157, q157, S157, M157, H157, U157⟩ := id V152
    have i157 := inb_of (j := y0) S157 (own_ix by0.1 by0.2)
    have t157 := H157.at (v := (.int (own_at d0 d1 d2 d3 y0))) i157 (own_at_i by0.1 by0.2)
    obtain ⟨T158, h158, X158, e158, E158, A158, D158, -, st158⟩ := newO XZ149 hx hZ hown (hw _ (List.mem_of_getElem? (i := 6) rfl)) (hw _ (List.mem_of_getElem? (i := 7) rfl)) (hw _ (List.mem_of_getElem? (i := 8) rfl)) e149 (g := (mkF m 302 #[.val (.int p1), .val (.long p2), .second, .val (.int d0), .val (.int d1), .val (.int d2), .val (.int d3), .val (.int (1 : Int32)), .val (.int rr), .val (.ref a59), .val (.ref a67), .val (.ref a75), .val (.ref a90), .val (.ref a130), .val (.ref a135), .val (.long ((0 : Int64) + (v0.toInt64 * ((own_at d0 d1 d2 d3 y0).toInt64)))), .second, .unset, .unset, .unset] [])) rfl (hb hby at_302) (by decide) (by decide)
    obtain ⟨a158, g158⟩ : ∃ z, z = h149.size := ⟨_, rfl⟩
    rw [← g158] at A158 D158 st158
    have Zs158 : n0 ≤ h158.size := Nat.le_trans Zs149 E158.1
    have gn158 : n0 ≤ a158 := Nat.le_trans Zs149 (Nat.le_of_eq g158.symm)
    have V159 : Arv Z h158 a59 kA59 .int (4 : Int32) vs66 (.int (0 : Int32)) := V150.ext E158
    have ne_a59_a158 : a59 ≠ a158 := Nat.ne_of_lt (Nat.lt_of_lt_of_le V150.lt (Nat.le_of_eq g158.symm))
    have V160 : Arv Z h158 a67 kA67 .int (3 : Int32) [(.int v0), (.int v1), (.int v2)] (.int (0 : Int32)) := V151.ext E158
    have ne_a67_a158 : a67 ≠ a158 := Nat.ne_of_lt (Nat.lt_of_lt_of_le V151.lt (Nat.le_of_eq g158.symm))
    have V161 : Arv Z h158 a75 kA75 .int (4 : Int32) [(.int d0), (.int d1), (.int d2), (.int d3)] (.int (0 : Int32)) := V152.ext E158
    have ne_a75_a158 : a75 ≠ a158 := Nat.ne_of_lt (Nat.lt_of_lt_of_le V152.lt (Nat.le_of_eq g158.symm))
    have V162 : Arv Z h158 a90 kA90 .double (4 : Int32) [(.double (FP.i2d d0)), (.double (FP.i2d d1)), (.double (FP.i2d d2)), (.double (FP.i2d d3))] (.double (FP.l2d 0)) := V153.ext E158
    have ne_a90_a158 : a90 ≠ a158 := Nat.ne_of_lt (Nat.lt_of_lt_of_le V153.lt (Nat.le_of_eq g158.symm))
    have V163 : Arv Z h158 a130 kA130 .int (1 : Int32) [(.int y0)] (.int (0 : Int32)) := V154.ext E158
    have ne_a130_a158 : a130 ≠ a158 := Nat.ne_of_lt (Nat.lt_of_lt_of_le V154.lt (Nat.le_of_eq g158.symm))
    have V164 : Arv Z h158 a135 kA135 .double (1 : Int32) [(.double (FP.i2d v0))] (.double (FP.l2d 0)) := V149.ext E158
    have ne_a135_a158 : a135 ≠ a158 := Nat.ne_of_lt (Nat.lt_of_lt_of_le V149.lt (Nat.le_of_eq g158.symm))
    obtain ⟨_, _, ⟨T165, L165, k165, n165⟩, -, X165, ⟨Lc165, hQ165, l165, y165, z165⟩, st165⟩ := X158.specialBack hx (y := (⟨"com/example/scentwalk/scentwalk/learn/SparseVector", "<init>", "([I[D)V"⟩ : MethodName)) rfl hown (mvT hZ (hw _ (List.mem_of_getElem? (i := 9) rfl))) (mvT hZ (hw _ (List.mem_of_getElem? (i := 10) rfl))) (mvT hZ (hw _ (List.mem_of_getElem? (i := 11) rfl))) (by decide) (backOf (W := 1) (rmN l Z a0 hw [] a158 a130 a135 h158 n0 Zs158 A158 (D158 (Or.inr (hw _ (List.mem_of_getElem? (i := 21) rfl))) (ty := (.array .int)) (by decide)) (D158 (Or.inr (hw _ (List.mem_of_getElem? (i := 23) rfl))) (ty := (.array .double)) (by decide)) gn158) hZ (hw _ (List.mem_of_getElem? (i := 11) rfl)) (hw _ (List.mem_of_getElem? (i := 8) rfl)) (by decide) (by decide)) (g := (mkF m 310 #[.val (.int p1), .val (.long p2), .second, .val (.int d0), .val (.int d1), .val (.int d2), .val (.int d3), .val (.int (1 : Int32)), .val (.int rr), .val (.ref a59), .val (.ref a67), .val (.ref a75), .val (.ref a90), .val (.ref a130), .val (.ref a135), .val (.long ((0 : Int64) + (v0.toInt64 * ((own_at d0 d1 d2 d3 y0).toInt64)))), .second, .unset, .unset, .unset] [(.ref a135), (.ref a130), (.ref a158), (.ref a158)])) rfl (by rw [hml]; rfl) (Steps.refl _) (a := a158) (argsL := [(.ref a130), (.ref a135)]) (rest := [(.ref a158)]) (lenOf pd___I_D_V rfl) rfl (by show 2 * 0 + _ ≤ _; exact Nat.le_of_eq rfl) (hb hby at_310) (fun _ _ => ⟨rfl, e158, (by decide : 7 + 0 ≤ _), (by decide : 19 + 0 ≤ _)⟩)
    dsimp only [Pt.U, Pt.locs, Pt.cells, Pt.slots] at X165 l165 y165 z165 st165 hQ165
    rw [y165, z165] at X165
    obtain ⟨rfl, N165, K165, FI, FV⟩ := hQ165
    have NN165 : Fr n0 L165 := by rw [l165]; exact Fr.app NZ149 N165
    have Ec : Exa Z T165.heap a158 "com/example/scentwalk/scentwalk/learn/SparseVector" := A158.keep K165
    have Zc : n0 ≤ T165.heap.size := Nat.le_trans Zs158 K165.1
    have WI : Arv Z T165.heap a130 kA130 .int (1 : Int32) [(.int y0)] (.int (0 : Int32)) := V163.keep K165 (ninS ne_a130_a158 nin0)
    have WX : Arv Z T165.heap a135 kA135 .double (1 : Int32) [(.double (FP.i2d v0))] (.double (FP.l2d 0)) := V164.keep K165 (ninS ne_a135_a158 nin0)
    have WE : Arv Z T165.heap a90 kA90 .double (4 : Int32) [(.double (FP.i2d d0)), (.double (FP.i2d d1)), (.double (FP.i2d d2)), (.double (FP.i2d d3))] (.double (FP.l2d 0)) := V162.keep K165 (ninS ne_a90_a158 nin0)
    obtain ⟨hq, e_q⟩ : ∃ z, T165.heap = z := ⟨_, rfl⟩
    rw [e_q] at Ec Zc FI FV WI WX WE
    have I0 := own_zero
    obtain ⟨u0, w0, D0⟩ := own_term (d := own_at d0 d1 d2 d3 y0) bv0
    have I1 := FP.Core.dadd_int I0 D0 (by omega)
    obtain ⟨cq166, kq166, q166a, q166b, q166c⟩ := isOf hZ e_q Ec
    obtain ⟨_, _, ⟨T166, L166, k166, n166⟩, -, X166, ⟨Lc166, hQ166, l166, y166, z166⟩, st166⟩ := X165.virtualBack hx (y := (⟨"com/example/scentwalk/scentwalk/learn/SparseVector", "dot", "([D)D"⟩ : MethodName)) (z := (⟨"com/example/scentwalk/scentwalk/learn/SparseVector", "dot", "([D)D"⟩ : MethodName)) hown (mvT hZ (hw _ (List.mem_of_getElem? (i := 24) rfl))) (mvT hZ (hw _ (List.mem_of_getElem? (i := 25) rfl))) (notFace_of_selects (args := #[]) (mvT hZ (hw _ (List.mem_of_getElem? (i := 27) rfl)))) (mvT hZ (hw _ (List.mem_of_getElem? (i := 27) rfl))) (mvT hZ (hw _ (List.mem_of_getElem? (i := 26) rfl))) (by decide) (backOf (W := 0) (rmD1 l Z a0 hw [] a158 a90 a130 a135 kA130 kA135 kA90 _ y0 (FP.i2d v0) (FP.i2d (own_at d0 d1 d2 d3 y0)) hq n0 Zc FI FV WI WX WE by0 (own_at_d by0.1 by0.2) (own_nn D0) (own_nn I1)) hZ (hw _ (List.mem_of_getElem? (i := 28) rfl)) (hw _ (List.mem_of_getElem? (i := 8) rfl)) (by decide) (by decide)) q166a q166c (g := (mkF m 319 #[.val (.int p1), .val (.long p2), .second, .val (.int d0), .val (.int d1), .val (.int d2), .val (.int d3), .val (.int (1 : Int32)), .val (.int rr), .val (.ref a59), .val (.ref a67), .val (.ref a75), .val (.ref a90), .val (.ref a130), .val (.ref a135), .val (.long ((0 : Int64) + (v0.toInt64 * ((own_at d0 d1 d2 d3 y0).toInt64)))), .second, .val (.ref a158), .unset, .unset] [(.ref a90), (.ref a158)])) rfl (by rw [hml]; rfl) (Steps.refl _) (argsL := [(.ref a90)]) (rest := []) (lenOf pd___D_D rfl) rfl (by show 2 * 0 + _ ≤ _; exact Nat.le_of_eq rfl) (hb hby at_319) (fun _ _ => ⟨rfl, e_q, (by decide : 7 + 0 ≤ _), (by decide : 19 + 0 ≤ _)⟩)
    dsimp only [Pt.U, Pt.locs, Pt.cells, Pt.slots] at X166 l166 y166 z166 st166 hQ166
    rw [y166, z166] at X166
    obtain ⟨rfl, N166, e166⟩ := hQ166
    have NN166 : Fr n0 L166 := by rw [l166]; exact Fr.app NN165 N166
    have ee : ((0 : Int64) + (v0.toInt64 * ((own_at d0 d1 d2 d3 y0).toInt64))).toInt = 0 + v0.toInt * (own_at d0 d1 d2 d3 y0).toInt := by
      have z0 : (0 : Int64).toInt = 0 := rfl
      have a0 : ((0 : Int64) + (v0.toInt64 * (own_at d0 d1 d2 d3 y0).toInt64)).toInt = (0 : Int64).toInt + (v0.toInt64 * (own_at d0 d1 d2 d3 y0).toInt64).toInt := XT.add64 (by constructor <;> omega)
      omega
    have IE := FP.Core.l2d_int (a := ((0 : Int64) + (v0.toInt64 * ((own_at d0 d1 d2 d3 y0).toInt64)))) (by omega)
    have cs1_2 : Steps p.tables e below (s₁.setTop (entryFrame m #[(.int p1), (.long p2), (.int d0), (.int d1), (.int d2), (.int d3)] maxLocals)) (T166.setTop (mkF m 338 #[.val (.int p1), .val (.long p2), .second, .val (.int d0), .val (.int d1), .val (.int d2), .val (.int d3), .val (.int (1 : Int32)), .val (.int rr), .val (.ref a59), .val (.ref a67), .val (.ref a75), .val (.ref a90), .val (.ref a130), .val (.ref a135), .val (.long ((0 : Int64) + (v0.toInt64 * ((own_at d0 d1 d2 d3 y0).toInt64)))), .second, .val (.ref a158), .val (.double (FP.dadd (0 : UInt64) (FP.dmul (FP.i2d v0) (FP.i2d (own_at d0 d1 d2 d3 y0))))), .second] [(.int (1 : Int32))])) := cc1.trans (by
      refine st130 _ ?_
      refine XS.astore X130.here hx rfl (hb hby at_166) rfl rfl (l' := #[.val (.int p1), .val (.long p2), .second, .val (.int d0), .val (.int d1), .val (.int d2), .val (.int d3), .val (.int (1 : Int32)), .val (.int rr), .val (.ref a59), .val (.ref a67), .val (.ref a75), .val (.ref a90), .val (.ref a130), .unset, .unset, .unset, .unset, .unset, .unset]) rfl ?_
      refine XS.iload X130.here hx rfl (hb hby at_168) rfl ?_
      refine st135 _ ?_
      refine XS.astore X135.here hx rfl (hb hby at_172) rfl rfl (l' := #[.val (.int p1), .val (.long p2), .second, .val (.int d0), .val (.int d1), .val (.int d2), .val (.int d3), .val (.int (1 : Int32)), .val (.int rr), .val (.ref a59), .val (.ref a67), .val (.ref a75), .val (.ref a90), .val (.ref a130), .val (.ref a135), .unset, .unset, .unset, .unset, .unset]) rfl ?_
      refine XT.lconstV X135.here hx rfl ((0 : Int64)) (hb hby at_174) (by decide) ?_
      refine XT.lstore X135.here hx rfl (hb hby at_175) rfl (l' := #[.val (.int p1), .val (.long p2), .second, .val (.int d0), .val (.int d1), .val (.int d2), .val (.int d3), .val (.int (1 : Int32)), .val (.int rr), .val (.ref a59), .val (.ref a67), .val (.ref a75), .val (.ref a90), .val (.ref a130), .val (.ref a135), .val (.long (0 : Int64)), .second, .unset, .unset, .unset]) rfl ?_
      refine XS.iload X135.here hx rfl (hb hby at_177) rfl ?_
      refine XS.ifNo X135.here hx rfl (hb hby at_179) rfl (XT.i0_le_f (by decide)) ?_
      refine XS.aload X135.here hx rfl (hb hby at_182) rfl rfl ?_
      refine XT.iconstV X135.here hx rfl ((0 : Int32)) (hb hby at_184) (by decide) ?_
      refine XS.aload X135.here hx rfl (hb hby at_185) rfl rfl ?_
      refine XT.iconstV X135.here hx rfl ((0 : Int32)) (hb hby at_187) (by decide) ?_
      refine X135.iaload hx (j := (0 : Int32)) (v := (.int y0)) (by rw [e135]; exact A141.1) (State.isArrayOf_alike hZ.alike A141.2.1) A141.2.2 i141 t141 (g := (mkF m 188 #[.val (.int p1), .val (.long p2), .second, .val (.int d0), .val (.int d1), .val (.int d2), .val (.int d3), .val (.int (1 : Int32)), .val (.int rr), .val (.ref a59), .val (.ref a67), .val (.ref a75), .val (.ref a90), .val (.ref a130), .val (.ref a135), .val (.long (0 : Int64)), .second, .unset, .unset, .unset] [(.int (0 : Int32)), (.ref a59), (.int (0 : Int32)), (.ref a130)])) rfl rfl (hb hby at_188) _ ?_
      show Steps p.tables e below (T135.setTop (mkF m 189 #[.val (.int p1), .val (.long p2), .second, .val (.int d0), .val (.int d1), .val (.int d2), .val (.int d3), .val (.int (1 : Int32)), .val (.int rr), .val (.ref a59), .val (.ref a67), .val (.ref a75), .val (.ref a90), .val (.ref a130), .val (.ref a135), .val (.long (0 : Int64)), .second, .unset, .unset, .unset] [(.int y0), (.int (0 : Int32)), (.ref a130)])) _
      refine st142 _ ?_
      refine XS.aload XZ142.here hx rfl (hb hby at_190) rfl rfl ?_
      refine XT.iconstV XZ142.here hx rfl ((0 : Int32)) (hb hby at_192) (by decide) ?_
      refine XS.aload XZ142.here hx rfl (hb hby at_193) rfl rfl ?_
      refine XT.iconstV XZ142.here hx rfl ((0 : Int32)) (hb hby at_195) (by decide) ?_
      refine XZ142.iaload hx (j := (0 : Int32)) (v := (.int v0)) (by rw [e142]; exact A148.1) (State.isArrayOf_alike hZ.alike A148.2.1) A148.2.2 i148 t148 (g := (mkF m 196 #[.val (.int p1), .val (.long p2), .second, .val (.int d0), .val (.int d1), .val (.int d2), .val (.int d3), .val (.int (1 : Int32)), .val (.int rr), .val (.ref a59), .val (.ref a67), .val (.ref a75), .val (.ref a90), .val (.ref a130), .val (.ref a135), .val (.long (0 : Int64)), .second, .unset, .unset, .unset] [(.int (0 : Int32)), (.ref a67), (.int (0 : Int32)), (.ref a135)])) rfl rfl (hb hby at_196) _ ?_
      show Steps p.tables e below (T142.setTop (mkF m 197 #[.val (.int p1), .val (.long p2), .second, .val (.int d0), .val (.int d1), .val (.int d2), .val (.int d3), .val (.int (1 : Int32)), .val (.int rr), .val (.ref a59), .val (.ref a67), .val (.ref a75), .val (.ref a90), .val (.ref a130), .val (.ref a135), .val (.long (0 : Int64)), .second, .unset, .unset, .unset] [(.int v0), (.int (0 : Int32)), (.ref a135)])) _
      refine XS.i2dS XZ142.here hx rfl (hb hby at_197) rfl rfl ?_
      refine st149 _ ?_
      refine XT.lload XZ149.here hx rfl (hb hby at_199) rfl ?_
      refine XS.aload XZ149.here hx rfl (hb hby at_201) rfl rfl ?_
      refine XT.iconstV XZ149.here hx rfl ((0 : Int32)) (hb hby at_203) (by decide) ?_
      refine XZ149.iaload hx (j := (0 : Int32)) (v := (.int v0)) (by rw [e149]; exact A155.1) (State.isArrayOf_alike hZ.alike A155.2.1) A155.2.2 i155 t155 (g := (mkF m 204 #[.val (.int p1), .val (.long p2), .second, .val (.int d0), .val (.int d1), .val (.int d2), .val (.int d3), .val (.int (1 : Int32)), .val (.int rr), .val (.ref a59), .val (.ref a67), .val (.ref a75), .val (.ref a90), .val (.ref a130), .val (.ref a135), .val (.long (0 : Int64)), .second, .unset, .unset, .unset] [(.int (0 : Int32)), (.ref a67), (.long (0 : Int64))])) rfl rfl (hb hby at_204) _ ?_
      show Steps p.tables e below (T149.setTop (mkF m 205 #[.val (.int p1), .val (.long p2), .second, .val (.int d0), .val (.int d1), .val (.int d2), .val (.int d3), .val (.int (1 : Int32)), .val (.int rr), .val (.ref a59), .val (.ref a67), .val (.ref a75), .val (.ref a90), .val (.ref a130), .val (.ref a135), .val (.long (0 : Int64)), .second, .unset, .unset, .unset] [(.int v0), (.long (0 : Int64))])) _
      refine XT.i2l XZ149.here hx rfl (hb hby at_205) rfl ?_
      refine XS.aload XZ149.here hx rfl (hb hby at_206) rfl rfl ?_
      refine XS.aload XZ149.here hx rfl (hb hby at_208) rfl rfl ?_
      refine XT.iconstV XZ149.here hx rfl ((0 : Int32)) (hb hby at_210) (by decide) ?_
      refine XZ149.iaload hx (j := (0 : Int32)) (v := (.int y0)) (by rw [e149]; exact A156.1) (State.isArrayOf_alike hZ.alike A156.2.1) A156.2.2 i156 t156 (g := (mkF m 211 #[.val (.int p1), .val (.long p2), .second, .val (.int d0), .val (.int d1), .val (.int d2), .val (.int d3), .val (.int (1 : Int32)), .val (.int rr), .val (.ref a59), .val (.ref a67), .val (.ref a75), .val (.ref a90), .val (.ref a130), .val (.ref a135), .val (.long (0 : Int64)), .second, .unset, .unset, .unset] [(.int (0 : Int32)), (.ref a59), (.ref a75), (.long v0.toInt64), (.long (0 : Int64))])) rfl rfl (hb hby at_211) _ ?_
      show Steps p.tables e below (T149.setTop (mkF m 212 #[.val (.int p1), .val (.long p2), .second, .val (.int d0), .val (.int d1), .val (.int d2), .val (.int d3), .val (.int (1 : Int32)), .val (.int rr), .val (.ref a59), .val (.ref a67), .val (.ref a75), .val (.ref a90), .val (.ref a130), .val (.ref a135), .val (.long (0 : Int64)), .second, .unset, .unset, .unset] [(.int y0), (.ref a75), (.long v0.toInt64), (.long (0 : Int64))])) _
      refine XZ149.iaload hx (j := y0) (v := (.int (own_at d0 d1 d2 d3 y0))) (by rw [e149]; exact A157.1) (State.isArrayOf_alike hZ.alike A157.2.1) A157.2.2 i157 t157 (g := (mkF m 212 #[.val (.int p1), .val (.long p2), .second, .val (.int d0), .val (.int d1), .val (.int d2), .val (.int d3), .val (.int (1 : Int32)), .val (.int rr), .val (.ref a59), .val (.ref a67), .val (.ref a75), .val (.ref a90), .val (.ref a130), .val (.ref a135), .val (.long (0 : Int64)), .second, .unset, .unset, .unset] [(.int y0), (.ref a75), (.long v0.toInt64), (.long (0 : Int64))])) rfl rfl (hb hby at_212) _ ?_
      show Steps p.tables e below (T149.setTop (mkF m 213 #[.val (.int p1), .val (.long p2), .second, .val (.int d0), .val (.int d1), .val (.int d2), .val (.int d3), .val (.int (1 : Int32)), .val (.int rr), .val (.ref a59), .val (.ref a67), .val (.ref a75), .val (.ref a90), .val (.ref a130), .val (.ref a135), .val (.long (0 : Int64)), .second, .unset, .unset, .unset] [(.int (own_at d0 d1 d2 d3 y0)), (.long v0.toInt64), (.long (0 : Int64))])) _
      refine XT.i2l XZ149.here hx rfl (hb hby at_213) rfl ?_
      refine XT.lmul XZ149.here hx rfl (hb hby at_214) rfl ?_
      refine XT.ladd XZ149.here hx rfl (hb hby at_215) rfl ?_
      refine XT.lstore XZ149.here hx rfl (hb hby at_216) rfl (l' := #[.val (.int p1), .val (.long p2), .second, .val (.int d0), .val (.int d1), .val (.int d2), .val (.int d3), .val (.int (1 : Int32)), .val (.int rr), .val (.ref a59), .val (.ref a67), .val (.ref a75), .val (.ref a90), .val (.ref a130), .val (.ref a135), .val (.long ((0 : Int64) + (v0.toInt64 * ((own_at d0 d1 d2 d3 y0).toInt64)))), .second, .unset, .unset, .unset]) rfl ?_
      refine XS.iload XZ149.here hx rfl (hb hby at_218) rfl ?_
      refine XT.iconstV XZ149.here hx rfl ((1 : Int32)) (hb hby at_220) (by decide) ?_
      refine XS.icmpYes XZ149.here hx rfl (pc0 := 221) (pc' := 260) rfl (hb hby at_221) rfl (XT.ii_le_t (by decide)) (by decide) (by decide) ?_
      refine XS.iload XZ149.here hx rfl (hb hby at_260) rfl ?_
      refine XT.iconstV XZ149.here hx rfl ((2 : Int32)) (hb hby at_262) (by decide) ?_
      refine XS.icmpYes XZ149.here hx rfl (pc0 := 263) (pc' := 302) rfl (hb hby at_263) rfl (XT.ii_le_t (by decide)) (by decide) (by decide) ?_
      refine st158 _ ?_
      refine XS.dup X158.here hx rfl (hb hby at_305) rfl rfl ?_
      refine XS.aload X158.here hx rfl (hb hby at_306) rfl rfl ?_
      refine XS.aload X158.here hx rfl (hb hby at_308) rfl rfl ?_
      refine st165.trans ?_
      show Steps p.tables e below (T165.setTop (mkF m 313 #[.val (.int p1), .val (.long p2), .second, .val (.int d0), .val (.int d1), .val (.int d2), .val (.int d3), .val (.int (1 : Int32)), .val (.int rr), .val (.ref a59), .val (.ref a67), .val (.ref a75), .val (.ref a90), .val (.ref a130), .val (.ref a135), .val (.long ((0 : Int64) + (v0.toInt64 * ((own_at d0 d1 d2 d3 y0).toInt64)))), .second, .unset, .unset, .unset] [(.ref a158)])) _
      refine XS.astore X165.here hx rfl (hb hby at_313) rfl rfl (l' := #[.val (.int p1), .val (.long p2), .second, .val (.int d0), .val (.int d1), .val (.int d2), .val (.int d3), .val (.int (1 : Int32)), .val (.int rr), .val (.ref a59), .val (.ref a67), .val (.ref a75), .val (.ref a90), .val (.ref a130), .val (.ref a135), .val (.long ((0 : Int64) + (v0.toInt64 * ((own_at d0 d1 d2 d3 y0).toInt64)))), .second, .val (.ref a158), .unset, .unset]) rfl ?_
      refine XS.aload X165.here hx rfl (hb hby at_315) rfl rfl ?_
      refine XS.aload X165.here hx rfl (hb hby at_317) rfl rfl ?_
      refine st166.trans ?_
      show Steps p.tables e below (T166.setTop (mkF m 322 #[.val (.int p1), .val (.long p2), .second, .val (.int d0), .val (.int d1), .val (.int d2), .val (.int d3), .val (.int (1 : Int32)), .val (.int rr), .val (.ref a59), .val (.ref a67), .val (.ref a75), .val (.ref a90), .val (.ref a130), .val (.ref a135), .val (.long ((0 : Int64) + (v0.toInt64 * ((own_at d0 d1 d2 d3 y0).toInt64)))), .second, .val (.ref a158), .unset, .unset] [(.double (FP.dadd (0 : UInt64) (FP.dmul (FP.i2d v0) (FP.i2d (own_at d0 d1 d2 d3 y0)))))])) _
      refine XS.dstore X166.here hx rfl (hb hby at_322) rfl (l' := #[.val (.int p1), .val (.long p2), .second, .val (.int d0), .val (.int d1), .val (.int d2), .val (.int d3), .val (.int (1 : Int32)), .val (.int rr), .val (.ref a59), .val (.ref a67), .val (.ref a75), .val (.ref a90), .val (.ref a130), .val (.ref a135), .val (.long ((0 : Int64) + (v0.toInt64 * ((own_at d0 d1 d2 d3 y0).toInt64)))), .second, .val (.ref a158), .val (.double (FP.dadd (0 : UInt64) (FP.dmul (FP.i2d v0) (FP.i2d (own_at d0 d1 d2 d3 y0))))), .second]) rfl ?_
      refine XS.dload X166.here hx rfl (hb hby at_324) rfl ?_
      refine XT.lload X166.here hx rfl (hb hby at_326) rfl ?_
      refine XS.l2dS X166.here hx rfl (hb hby at_328) rfl rfl ?_
      refine XS.dcmpS X166.here hx rfl (hb hby at_329) rfl (own_eq0 I1 IE (by omega) _) ?_
      refine XS.ifNo X166.here hx rfl (hb hby at_330) rfl (XT.i0_ne_f rfl) ?_
      refine XT.iconstV X166.here hx rfl ((1 : Int32)) (hb hby at_333) (by decide) ?_
      refine XS.goto X166.here hx rfl (pc0 := 334) (pc' := 338) rfl (hb hby at_334) (by decide) (by decide) ?_
      exact Steps.refl _)
    obtain ⟨fs, hr, hrun, hended, hW, hsame⟩ := X166.leave (v := some (.int (1 : Int32))) (fun h => by rw [Bd.returns] at h; cases h)
    refine ⟨_, _, cs1_2.trans ?_, hrun, hended, _, _, rfl, ?_, ⟨_, rfl⟩, hW, hsame.mono (by decide) (by decide)⟩
    · exact retN X166 hx (t := .boolean) Bd.returns (by simp) (hb hby at_338) hr
    · show Q0 h0 n0 _ T166.heap _
      exact ⟨rfl, NN166⟩
  ·
    subst h4
    obtain ⟨T167, h167, kA167, X167, e167, E167, A167, st167⟩ := newP XZ106 hx hZ (hw _ (List.mem_of_getElem? (i := 0) rfl)) e106 (g := (mkF m 164 #[.val (.int p1), .val (.long p2), .second, .val (.int d0), .val (.int d1), .val (.int d2), .val (.int d3), .val (.int (2 : Int32)), .val (.int rr), .val (.ref a59), .val (.ref a67), .val (.ref a75), .val (.ref a90), .unset, .unset, .unset, .unset, .unset, .unset, .unset] [(.int (2 : Int32))])) rfl (hb hby at_164) rfl (by decide : ¬ ((2 : Int32) < (0 : Int32))) (cap := 2) (by decide : (2 : Int32).toNatClampNeg ≤ 2) (by decide) (by decide) (by decide)
    obtain ⟨a167, g167⟩ : ∃ z, z = h106.size := ⟨_, rfl⟩
    rw [← g167] at A167 st167
    have Zs167 : n0 ≤ h167.size := Nat.le_trans Zs106 E167.1
    have gn167 : n0 ≤ a167 := Nat.le_trans Zs106 (Nat.le_of_eq g167.symm)
    have V167 : Arv Z h167 a167 kA167 .int (2 : Int32) [] (.int (0 : Int32)) := Arv.new A167 (by decide)
    have ne_a59_a167 : a59 ≠ a167 := Nat.ne_of_lt (Nat.lt_of_lt_of_le V107.lt (Nat.le_of_eq g167.symm))
    have ne_a67_a167 : a67 ≠ a167 := Nat.ne_of_lt (Nat.lt_of_lt_of_le V108.lt (Nat.le_of_eq g167.symm))
    have ne_a75_a167 : a75 ≠ a167 := Nat.ne_of_lt (Nat.lt_of_lt_of_le V109.lt (Nat.le_of_eq g167.symm))
    have ne_a90_a167 : a90 ≠ a167 := Nat.ne_of_lt (Nat.lt_of_lt_of_le V106.lt (Nat.le_of_eq g167.symm))
    have V168 : Arv Z h167 a59 kA59 .int (4 : Int32) vs66 (.int (0 : Int32)) := V107.ext E167
    have V169 : Arv Z h167 a67 kA67 .int (3 : Int32) [(.int v0), (.int v1), (.int v2)] (.int (0 : Int32)) := V108.ext E167
    have V170 : Arv Z h167 a75 kA75 .int (4 : Int32) [(.int d0), (.int d1), (.int d2), (.int d3)] (.int (0 : Int32)) := V109.ext E167
    have V171 : Arv Z h167 a90 kA90 .double (4 : Int32) [(.double (FP.i2d d0)), (.double (FP.i2d d1)), (.double (FP.i2d d2)), (.double (FP.i2d d3))] (.double (FP.l2d 0)) := V106.ext E167
    obtain ⟨T172, h172, kA172, X172, e172, E172, A172, st172⟩ := newP X167 hx hZ (hw _ (List.mem_of_getElem? (i := 5) rfl)) e167 (g := (mkF m 170 #[.val (.int p1), .val (.long p2), .second, .val (.int d0), .val (.int d1), .val (.int d2), .val (.int d3), .val (.int (2 : Int32)), .val (.int rr), .val (.ref a59), .val (.ref a67), .val (.ref a75), .val (.ref a90), .val (.ref a167), .unset, .unset, .unset, .unset, .unset, .unset] [(.int (2 : Int32))])) rfl (hb hby at_170) rfl (by decide : ¬ ((2 : Int32) < (0 : Int32))) (cap := 2) (by decide : (2 : Int32).toNatClampNeg ≤ 2) (by decide) (by decide) (by decide)
    obtain ⟨a172, g172⟩ : ∃ z, z = h167.size := ⟨_, rfl⟩
    rw [← g172] at A172 st172
    have Zs172 : n0 ≤ h172.size := Nat.le_trans Zs167 E172.1
    have gn172 : n0 ≤ a172 := Nat.le_trans Zs167 (Nat.le_of_eq g172.symm)
    have V172 : Arv Z h172 a172 kA172 .double (2 : Int32) [] (.double (FP.l2d 0)) := Arv.newD A172 (by decide)
    have ne_a59_a172 : a59 ≠ a172 := Nat.ne_of_lt (Nat.lt_of_lt_of_le V168.lt (Nat.le_of_eq g172.symm))
    have ne_a67_a172 : a67 ≠ a172 := Nat.ne_of_lt (Nat.lt_of_lt_of_le V169.lt (Nat.le_of_eq g172.symm))
    have ne_a75_a172 : a75 ≠ a172 := Nat.ne_of_lt (Nat.lt_of_lt_of_le V170.lt (Nat.le_of_eq g172.symm))
    have ne_a90_a172 : a90 ≠ a172 := Nat.ne_of_lt (Nat.lt_of_lt_of_le V171.lt (Nat.le_of_eq g172.symm))
    have ne_a167_a172 : a167 ≠ a172 := Nat.ne_of_lt (Nat.lt_of_lt_of_le V167.lt (Nat.le_of_eq g172.symm))
    have V173 : Arv Z h172 a59 kA59 .int (4 : Int32) vs66 (.int (0 : Int32)) := V168.ext E172
    have V174 : Arv Z h172 a67 kA67 .int (3 : Int32) [(.int v0), (.int v1), (.int v2)] (.int (0 : Int32)) := V169.ext E172
    have V175 : Arv Z h172 a75 kA75 .int (4 : Int32) [(.int d0), (.int d1), (.int d2), (.int d3)] (.int (0 : Int32)) := V170.ext E172
    have V176 : Arv Z h172 a90 kA90 .double (4 : Int32) [(.double (FP.i2d d0)), (.double (FP.i2d d1)), (.double (FP.i2d d2)), (.double (FP.i2d d3))] (.double (FP.l2d 0)) := V171.ext E172
    have V177 : Arv Z h172 a167 kA167 .int (2 : Int32) [] (.int (0 : Int32)) := V167.ext E172
    obtain ⟨c178, A178, q178, S178, M178, H178, U178⟩ := id V173
    have i178 := inb_of (j := (0 : Int32)) S178 ⟨by decide, by decide⟩
    have t178 := H178.at (v := (.int y0)) i178 ey0
    have V179p : Arv Z h172 a167 kA167 .int (2 : Int32) [(.int (0 : Int32))] (.int (0 : Int32)) := V177.pad (pad_rep [] (.int (0 : Int32)) 1)
    obtain ⟨c179, A179, q179, S179, M179, H179, U179⟩ := id V179p
    obtain ⟨T179, h179, X179, e179, W179, st179⟩ := stI X172 hx hZ e172 A179 (j := (0 : Int32)) (inb_of S179 ⟨(by decide : ¬ ((0 : Int32) < (0 : Int32))), (by decide : (0 : Int32) < (2 : Int32))⟩) (g := (mkF m 189 #[.val (.int p1), .val (.long p2), .second, .val (.int d0), .val (.int d1), .val (.int d2), .val (.int d3), .val (.int (2 : Int32)), .val (.int rr), .val (.ref a59), .val (.ref a67), .val (.ref a75), .val (.ref a90), .val (.ref a167), .val (.ref a172), .val (.long (0 : Int64)), .second, .unset, .unset, .unset] [(.int y0), (.int (0 : Int32)), (.ref a167)])) rfl rfl (hb hby at_189)
    have N179 := Fr.snoc X179 NZ106 gn167
    have Zs179 : n0 ≤ h179.size := Nat.le_trans Zs172 (Keep.of_wr W179).1
    obtain ⟨Lz179, XZ179, NZ179⟩ := own_pack X179 N179
    have V179 : Arv Z h179 a167 kA167 .int (2 : Int32) [(.int y0)] (.int (0 : Int32)) := Arv.set A179 q179 S179 M179 H179 U179 rfl W179 0 rfl (Nat.le_of_ble_eq_true rfl)
    have V180 : Arv Z h179 a59 kA59 .int (4 : Int32) vs66 (.int (0 : Int32)) := V173.other W179 ne_a59_a167
    have V181 : Arv Z h179 a67 kA67 .int (3 : Int32) [(.int v0), (.int v1), (.int v2)] (.int (0 : Int32)) := V174.other W179 ne_a67_a167
    have V182 : Arv Z h179 a75 kA75 .int (4 : Int32) [(.int d0), (.int d1), (.int d2), (.int d3)] (.int (0 : Int32)) := V175.other W179 ne_a75_a167
    have V183 : Arv Z h179 a90 kA90 .double (4 : Int32) [(.double (FP.i2d d0)), (.double (FP.i2d d1)), (.double (FP.i2d d2)), (.double (FP.i2d d3))] (.double (FP.l2d 0)) := V176.other W179 ne_a90_a167
    have V184 : Arv Z h179 a172 kA172 .double (2 : Int32) [] (.double (FP.l2d 0)) := V172.other W179 ne_a167_a172.symm
    obtain ⟨c185, A185, q185, S185, M185, H185, U185⟩ := id V181
    have i185 := inb_of (j := (0 : Int32)) S185 ⟨by decide, by decide⟩
    have t185 := H185.at (v := (.int v0)) i185 rfl
    have V186p : Arv Z h179 a172 kA172 .double (2 : Int32) [(.double (FP.l2d 0))] (.double (FP.l2d 0)) := V184.pad (pad_rep [] (.double (FP.l2d 0)) 1)
    obtain ⟨c186, A186, q186, S186, M186, H186, U186⟩ := id V186p
    obtain ⟨T186, h186, X186, e186, W186, st186⟩ := stD XZ179 hx hZ e179 A186 (j := (0 : Int32)) (inb_of S186 ⟨(by decide : ¬ ((0 : Int32) < (0 : Int32))), (by decide : (0 : Int32) < (2 : Int32))⟩) (g := (mkF m 198 #[.val (.int p1), .val (.long p2), .second, .val (.int d0), .val (.int d1), .val (.int d2), .val (.int d3), .val (.int (2 : Int32)), .val (.int rr), .val (.ref a59), .val (.ref a67), .val (.ref a75), .val (.ref a90), .val (.ref a167), .val (.ref a172), .val (.long (0 : Int64)), .second, .unset, .unset, .unset] [(.double (FP.i2d v0)), (.int (0 : Int32)), (.ref a172)])) rfl rfl (hb hby at_198)
    have N186 := Fr.snoc X186 NZ179 gn172
    have Zs186 : n0 ≤ h186.size := Nat.le_trans Zs179 (Keep.of_wr W186).1
    obtain ⟨Lz186, XZ186, NZ186⟩ := own_pack X186 N186
    have V186 : Arv Z h186 a172 kA172 .double (2 : Int32) [(.double (FP.i2d v0))] (.double (FP.l2d 0)) := Arv.set A186 q186 S186 M186 H186 U186 rfl W186 0 rfl (Nat.le_of_ble_eq_true rfl)
    have V187 : Arv Z h186 a59 kA59 .int (4 : Int32) vs66 (.int (0 : Int32)) := V180.other W186 ne_a59_a172
    have V188 : Arv Z h186 a67 kA67 .int (3 : Int32) [(.int v0), (.int v1), (.int v2)] (.int (0 : Int32)) := V181.other W186 ne_a67_a172
    have V189 : Arv Z h186 a75 kA75 .int (4 : Int32) [(.int d0), (.int d1), (.int d2), (.int d3)] (.int (0 : Int32)) := V182.other W186 ne_a75_a172
    have V190 : Arv Z h186 a90 kA90 .double (4 : Int32) [(.double (FP.i2d d0)), (.double (FP.i2d d1)), (.double (FP.i2d d2)), (.double (FP.i2d d3))] (.double (FP.l2d 0)) := V183.other W186 ne_a90_a172
    have V191 : Arv Z h186 a167 kA167 .int (2 : Int32) [(.int y0)] (.int (0 : Int32)) := V179.other W186 ne_a167_a172
    obtain ⟨c192, A192, q192, S192, M192, H192, U192⟩ := id V188
    have i192 := inb_of (j := (0 : Int32)) S192 ⟨by decide, by decide⟩
    have t192 := H192.at (v := (.int v0)) i192 rfl
    obtain ⟨c193, A193, q193, S193, M193, H193, U193⟩ := id V187
    have i193 := inb_of (j := (0 : Int32)) S193 ⟨by decide, by decide⟩
    have t193 := H193.at (v := (.int y0)) i193 ey0
    obtain ⟨c194, A194, q194, S194, M194, H194, U194⟩ := id V189
    have i194 := inb_of (j := y0) S194 (own_ix by0.1 by0.2)
    have t194 := H194.at (v := (.int (own_at d0 d1 d2 d3 y0))) i194 (own_at_i by0.1 by0.2)
    obtain ⟨c195, A195, q195, S195, M195, H195, U195⟩ := id V187
    have i195 := inb_of (j := (1 : Int32)) S195 ⟨by decide, by decide⟩
    have t195 := H195.at (v := (.int y1)) i195 ey1
    have V196p : Arv Z h186 a167 kA167 .int (2 : Int32) [(.int y0), (.int (0 : Int32))] (.int (0 : Int32)) := V191.pad (pad_rep [(.int y0)] (.int (0 : Int32)) 1)
    obtain ⟨c196, A196, q196, S196, M196, H196, U196⟩ := id V196p
    obtain ⟨T196, h196, X196, e196, W196, st196⟩ := stI XZ186 hx hZ e186 A196 (j := (1 : Int32)) (inb_of S196 ⟨(by decide : ¬ ((1 : Int32) < (0 : Int32))), (by decide : (1 : Int32) < (2 : Int32))⟩) (g := (mkF m 231 #[.val (.int p1), .val (.long p2), .second, .val (.int d0), .val (.int d1), .val (.int d2), .val (.int d3), .val (.int (2 : Int32)), .val (.int rr), .val (.ref a59), .val (.ref a67), .val (.ref a75), .val (.ref a90), .val (.ref a167), .val (.ref a172), .val (.long ((0 : Int64) + (v0.toInt64 * ((own_at d0 d1 d2 d3 y0).toInt64)))), .second, .unset, .unset, .unset] [(.int y1), (.int (1 : Int32)), (.ref a167)])) rfl rfl (hb hby at_231)
    have N196 := Fr.snoc X196 NZ186 gn167
    have Zs196 : n0 ≤ h196.size := Nat.le_trans Zs186 (Keep.of_wr W196).1
    obtain ⟨Lz196, XZ196, NZ196⟩ := own_pack X196 N196
    have V196 : Arv Z h196 a167 kA167 .int (2 : Int32) [(.int y0), (.int y1)] (.int (0 : Int32)) := Arv.set A196 q196 S196 M196 H196 U196 rfl W196 1 rfl (Nat.le_of_ble_eq_true rfl)
    have V197 : Arv Z h196 a59 kA59 .int (4 : Int32) vs66 (.int (0 : Int32)) := V187.other W196 ne_a59_a167
    have V198 : Arv Z h196 a67 kA67 .int (3 : Int32) [(.int v0), (.int v1), (.int v2)] (.int (0 : Int32)) := V188.other W196 ne_a67_a167
    have V199 : Arv Z h196 a75 kA75 .int (4 : Int32) [(.int d0), (.int d1), (.int d2), (.int d3)] (.int (0 : Int32)) := V189.other W196 ne_a75_a167
    have V200 : Arv Z h196 a90 kA90 .double (4 : Int32) [(.double (FP.i2d d0)), (.double (FP.i2d d1)), (.double (FP.i2d d2)), (.double (FP.i2d d3))] (.double (FP.l2d 0)) := V190.other W196 ne_a90_a167
    have V201 : Arv Z h196 a172 kA172 .double (2 : Int32) [(.double (FP.i2d v0))] (.double (FP.l2d 0)) := V186.other W196 ne_a167_a172.symm
    obtain ⟨c202, A202, q202, S202, M202, H202, U202⟩ := id V198
    have i202 := inb_of (j := (1 : Int32)) S202 ⟨by decide, by decide⟩
    have t202 := H202.at (v := (.int v1)) i202 rfl
    have V203p : Arv Z h196 a172 kA172 .double (2 : Int32) [(.double (FP.i2d v0)), (.double (FP.l2d 0))] (.double (FP.l2d 0)) := V201.pad (pad_rep [(.double (FP.i2d v0))] (.double (FP.l2d 0)) 1)
    obtain ⟨c203, A203, q203, S203, M203, H203, U203⟩ := id V203p
    obtain ⟨T203, h203, X203, e203, W203, st203⟩ := stD XZ196 hx hZ e196 A203 (j := (1 : Int32)) (inb_of S203 ⟨(by decide : ¬ ((1 : Int32) < (0 : Int32))), (by decide : (1 : Int32) < (2 : Int32))⟩) (g := (mkF m 240 #[.val (.int p1), .val (.long p2), .second, .val (.int d0), .val (.int d1), .val (.int d2), .val (.int d3), .val (.int (2 : Int32)), .val (.int rr), .val (.ref a59), .val (.ref a67), .val (.ref a75), .val (.ref a90), .val (.ref a167), .val (.ref a172), .val (.long ((0 : Int64) + (v0.toInt64 * ((own_at d0 d1 d2 d3 y0).toInt64)))), .second, .unset, .unset, .unset] [(.double (FP.i2d v1)), (.int (1 : Int32)), (.ref a172)])) rfl rfl (hb hby at_240)
    have N203 := Fr.snoc X203 NZ196 gn172
    have Zs203 : n0 ≤ h203.size := Nat.le_trans Zs196 (Keep.of_wr W203).1
    obtain ⟨Lz203, XZ203, NZ203⟩ := own_pack X203 N203
    have V203 : Arv Z h203 a172 kA172 .double (2 : Int32) [(.double (FP.i2d v0)), (.double (FP.i2d v1))] (.double (FP.l2d 0)) := Arv.set A203 q203 S203 M203 H203 U203 rfl W203 1 rfl (Nat.le_of_ble_eq_true rfl)
    have V204 : Arv Z h203 a59 kA59 .int (4 : Int32) vs66 (.int (0 : Int32)) := V197.other W203 ne_a59_a172
    have V205 : Arv Z h203 a67 kA67 .int (3 : Int32) [(.int v0), (.int v1), (.int v2)] (.int (0 : Int32)) := V198.other W203 ne_a67_a172
    have V206 : Arv Z h203 a75 kA75 .int (4 : Int32) [(.int d0), (.int d1), (.int d2), (.int d3)] (.int (0 : Int32)) := V199.other W203 ne_a75_a172
    have V207 : Arv Z h203 a90 kA90 .double (4 : Int32) [(.double (FP.i2d d0)), (.double (FP.i2d d1)), (.double (FP.i2d d2)), (.double (FP.i2d d3))] (.double (FP.l2d 0)) := V200.other W203 ne_a90_a172
    have V208 : Arv Z h203 a167 kA167 .int (2 : Int32) [(.int y0), (.int y1)] (.int (0 : Int32)) := V196.other W203 ne_a167_a172
    obtain ⟨c209, A209, q209, S209, M209, H209, U209⟩ := id V205
    have i209 := inb_of (j := (1 : Int32)) S209 ⟨by decide, by decide⟩
    have t209 := H209.at (v := (.int v1)) i209 rfl
    obtain ⟨c210, A210, q210, S210, M210, H210, U210⟩ := id V204
    have i210 := inb_of (j := (1 : Int32)) S210 ⟨by decide, by decide⟩
    have t210 := H210.at (v := (.int y1)) i210 ey1
    obtain ⟨c211, A211, q211, S211, M211, H211, U211⟩ := id V206
    have i211 := inb_of (j := y1) S211 (own_ix by1.1 by1.2)
    have t211 := H211.at (v := (.int (own_at d0 d1 d2 d3 y1))) i211 (own_at_i by1.1 by1.2)
    obtain ⟨T212, h212, X212, e212, E212, A212, D212, -, st212⟩ := newO XZ203 hx hZ hown (hw _ (List.mem_of_getElem? (i := 6) rfl)) (hw _ (List.mem_of_getElem? (i := 7) rfl)) (hw _ (List.mem_of_getElem? (i := 8) rfl)) e203 (g := (mkF m 302 #[.val (.int p1), .val (.long p2), .second, .val (.int d0), .val (.int d1), .val (.int d2), .val (.int d3), .val (.int (2 : Int32)), .val (.int rr), .val (.ref a59), .val (.ref a67), .val (.ref a75), .val (.ref a90), .val (.ref a167), .val (.ref a172), .val (.long (((0 : Int64) + (v0.toInt64 * ((own_at d0 d1 d2 d3 y0).toInt64))) + (v1.toInt64 * ((own_at d0 d1 d2 d3 y1).toInt64)))), .second, .unset, .unset, .unset] [])) rfl (hb hby at_302) (by decide) (by decide)
    obtain ⟨a212, g212⟩ : ∃ z, z = h203.size := ⟨_, rfl⟩
    rw [← g212] at A212 D212 st212
    have Zs212 : n0 ≤ h212.size := Nat.le_trans Zs203 E212.1
    have gn212 : n0 ≤ a212 := Nat.le_trans Zs203 (Nat.le_of_eq g212.symm)
    have V213 : Arv Z h212 a59 kA59 .int (4 : Int32) vs66 (.int (0 : Int32)) := V204.ext E212
    have ne_a59_a212 : a59 ≠ a212 := Nat.ne_of_lt (Nat.lt_of_lt_of_le V204.lt (Nat.le_of_eq g212.symm))
    have V214 : Arv Z h212 a67 kA67 .int (3 : Int32) [(.int v0), (.int v1), (.int v2)] (.int (0 : Int32)) := V205.ext E212
    have ne_a67_a212 : a67 ≠ a212 := Nat.ne_of_lt (Nat.lt_of_lt_of_le V205.lt (Nat.le_of_eq g212.symm))
    have V215 : Arv Z h212 a75 kA75 .int (4 : Int32) [(.int d0), (.int d1), (.int d2), (.int d3)] (.int (0 : Int32)) := V206.ext E212
    have ne_a75_a212 : a75 ≠ a212 := Nat.ne_of_lt (Nat.lt_of_lt_of_le V206.lt (Nat.le_of_eq g212.symm))
    have V216 : Arv Z h212 a90 kA90 .double (4 : Int32) [(.double (FP.i2d d0)), (.double (FP.i2d d1)), (.double (FP.i2d d2)), (.double (FP.i2d d3))] (.double (FP.l2d 0)) := V207.ext E212
    have ne_a90_a212 : a90 ≠ a212 := Nat.ne_of_lt (Nat.lt_of_lt_of_le V207.lt (Nat.le_of_eq g212.symm))
    have V217 : Arv Z h212 a167 kA167 .int (2 : Int32) [(.int y0), (.int y1)] (.int (0 : Int32)) := V208.ext E212
    have ne_a167_a212 : a167 ≠ a212 := Nat.ne_of_lt (Nat.lt_of_lt_of_le V208.lt (Nat.le_of_eq g212.symm))
    have V218 : Arv Z h212 a172 kA172 .double (2 : Int32) [(.double (FP.i2d v0)), (.double (FP.i2d v1))] (.double (FP.l2d 0)) := V203.ext E212
    have ne_a172_a212 : a172 ≠ a212 := Nat.ne_of_lt (Nat.lt_of_lt_of_le V203.lt (Nat.le_of_eq g212.symm))
    obtain ⟨_, _, ⟨T219, L219, k219, n219⟩, -, X219, ⟨Lc219, hQ219, l219, y219, z219⟩, st219⟩ := X212.specialBack hx (y := (⟨"com/example/scentwalk/scentwalk/learn/SparseVector", "<init>", "([I[D)V"⟩ : MethodName)) rfl hown (mvT hZ (hw _ (List.mem_of_getElem? (i := 9) rfl))) (mvT hZ (hw _ (List.mem_of_getElem? (i := 10) rfl))) (mvT hZ (hw _ (List.mem_of_getElem? (i := 11) rfl))) (by decide) (backOf (W := 1) (rmN l Z a0 hw [] a212 a167 a172 h212 n0 Zs212 A212 (D212 (Or.inr (hw _ (List.mem_of_getElem? (i := 21) rfl))) (ty := (.array .int)) (by decide)) (D212 (Or.inr (hw _ (List.mem_of_getElem? (i := 23) rfl))) (ty := (.array .double)) (by decide)) gn212) hZ (hw _ (List.mem_of_getElem? (i := 11) rfl)) (hw _ (List.mem_of_getElem? (i := 8) rfl)) (by decide) (by decide)) (g := (mkF m 310 #[.val (.int p1), .val (.long p2), .second, .val (.int d0), .val (.int d1), .val (.int d2), .val (.int d3), .val (.int (2 : Int32)), .val (.int rr), .val (.ref a59), .val (.ref a67), .val (.ref a75), .val (.ref a90), .val (.ref a167), .val (.ref a172), .val (.long (((0 : Int64) + (v0.toInt64 * ((own_at d0 d1 d2 d3 y0).toInt64))) + (v1.toInt64 * ((own_at d0 d1 d2 d3 y1).toInt64)))), .second, .unset, .unset, .unset] [(.ref a172), (.ref a167), (.ref a212), (.ref a212)])) rfl (by rw [hml]; rfl) (Steps.refl _) (a := a212) (argsL := [(.ref a167), (.ref a172)]) (rest := [(.ref a212)]) (lenOf pd___I_D_V rfl) rfl (by show 2 * 0 + _ ≤ _; exact Nat.le_of_eq rfl) (hb hby at_310) (fun _ _ => ⟨rfl, e212, (by decide : 7 + 0 ≤ _), (by decide : 21 + 0 ≤ _)⟩)
    dsimp only [Pt.U, Pt.locs, Pt.cells, Pt.slots] at X219 l219 y219 z219 st219 hQ219
    rw [y219, z219] at X219
    obtain ⟨rfl, N219, K219, FI, FV⟩ := hQ219
    have NN219 : Fr n0 L219 := by rw [l219]; exact Fr.app NZ203 N219
    have Ec : Exa Z T219.heap a212 "com/example/scentwalk/scentwalk/learn/SparseVector" := A212.keep K219
    have Zc : n0 ≤ T219.heap.size := Nat.le_trans Zs212 K219.1
    have WI : Arv Z T219.heap a167 kA167 .int (2 : Int32) [(.int y0), (.int y1)] (.int (0 : Int32)) := V217.keep K219 (ninS ne_a167_a212 nin0)
    have WX : Arv Z T219.heap a172 kA172 .double (2 : Int32) [(.double (FP.i2d v0)), (.double (FP.i2d v1))] (.double (FP.l2d 0)) := V218.keep K219 (ninS ne_a172_a212 nin0)
    have WE : Arv Z T219.heap a90 kA90 .double (4 : Int32) [(.double (FP.i2d d0)), (.double (FP.i2d d1)), (.double (FP.i2d d2)), (.double (FP.i2d d3))] (.double (FP.l2d 0)) := V216.keep K219 (ninS ne_a90_a212 nin0)
    obtain ⟨hq, e_q⟩ : ∃ z, T219.heap = z := ⟨_, rfl⟩
    rw [e_q] at Ec Zc FI FV WI WX WE
    have I0 := own_zero
    obtain ⟨u0, w0, D0⟩ := own_term (d := own_at d0 d1 d2 d3 y0) bv0
    have I1 := FP.Core.dadd_int I0 D0 (by omega)
    obtain ⟨u1, w1, D1⟩ := own_term (d := own_at d0 d1 d2 d3 y1) bv1
    have I2 := FP.Core.dadd_int I1 D1 (by omega)
    obtain ⟨cq220, kq220, q220a, q220b, q220c⟩ := isOf hZ e_q Ec
    obtain ⟨_, _, ⟨T220, L220, k220, n220⟩, -, X220, ⟨Lc220, hQ220, l220, y220, z220⟩, st220⟩ := X219.virtualBack hx (y := (⟨"com/example/scentwalk/scentwalk/learn/SparseVector", "dot", "([D)D"⟩ : MethodName)) (z := (⟨"com/example/scentwalk/scentwalk/learn/SparseVector", "dot", "([D)D"⟩ : MethodName)) hown (mvT hZ (hw _ (List.mem_of_getElem? (i := 24) rfl))) (mvT hZ (hw _ (List.mem_of_getElem? (i := 25) rfl))) (notFace_of_selects (args := #[]) (mvT hZ (hw _ (List.mem_of_getElem? (i := 27) rfl)))) (mvT hZ (hw _ (List.mem_of_getElem? (i := 27) rfl))) (mvT hZ (hw _ (List.mem_of_getElem? (i := 26) rfl))) (by decide) (backOf (W := 0) (rmD2 l Z a0 hw [] a212 a90 a167 a172 kA167 kA172 kA90 _ y0 y1 (FP.i2d v0) (FP.i2d v1) (FP.i2d (own_at d0 d1 d2 d3 y0)) (FP.i2d (own_at d0 d1 d2 d3 y1)) hq n0 Zc FI FV WI WX WE by0 (own_at_d by0.1 by0.2) (own_nn D0) (own_nn I1) by1 (own_at_d by1.1 by1.2) (own_nn D1) (own_nn I2)) hZ (hw _ (List.mem_of_getElem? (i := 28) rfl)) (hw _ (List.mem_of_getElem? (i := 8) rfl)) (by decide) (by decide)) q220a q220c (g := (mkF m 319 #[.val (.int p1), .val (.long p2), .second, .val (.int d0), .val (.int d1), .val (.int d2), .val (.int d3), .val (.int (2 : Int32)), .val (.int rr), .val (.ref a59), .val (.ref a67), .val (.ref a75), .val (.ref a90), .val (.ref a167), .val (.ref a172), .val (.long (((0 : Int64) + (v0.toInt64 * ((own_at d0 d1 d2 d3 y0).toInt64))) + (v1.toInt64 * ((own_at d0 d1 d2 d3 y1).toInt64)))), .second, .val (.ref a212), .unset, .unset] [(.ref a90), (.ref a212)])) rfl (by rw [hml]; rfl) (Steps.refl _) (argsL := [(.ref a90)]) (rest := []) (lenOf pd___D_D rfl) rfl (by show 2 * 0 + _ ≤ _; exact Nat.le_of_eq rfl) (hb hby at_319) (fun _ _ => ⟨rfl, e_q, (by decide : 7 + 0 ≤ _), (by decide : 21 + 0 ≤ _)⟩)
    dsimp only [Pt.U, Pt.locs, Pt.cells, Pt.slots] at X220 l220 y220 z220 st220 hQ220
    rw [y220, z220] at X220
    obtain ⟨rfl, N220, e220⟩ := hQ220
    have NN220 : Fr n0 L220 := by rw [l220]; exact Fr.app NN219 N220
    have ee : (((0 : Int64) + (v0.toInt64 * ((own_at d0 d1 d2 d3 y0).toInt64))) + (v1.toInt64 * ((own_at d0 d1 d2 d3 y1).toInt64))).toInt = 0 + v0.toInt * (own_at d0 d1 d2 d3 y0).toInt + v1.toInt * (own_at d0 d1 d2 d3 y1).toInt := by
      have z0 : (0 : Int64).toInt = 0 := rfl
      have a0 : ((0 : Int64) + (v0.toInt64 * (own_at d0 d1 d2 d3 y0).toInt64)).toInt = (0 : Int64).toInt + (v0.toInt64 * (own_at d0 d1 d2 d3 y0).toInt64).toInt := XT.add64 (by constructor <;> omega)
      have a1 : (((0 : Int64) + (v0.toInt64 * (own_at d0 d1 d2 d3 y0).toInt64)) + (v1.toInt64 * (own_at d0 d1 d2 d3 y1).toInt64)).toInt = ((0 : Int64) + (v0.toInt64 * (own_at d0 d1 d2 d3 y0).toInt64)).toInt + (v1.toInt64 * (own_at d0 d1 d2 d3 y1).toInt64).toInt := XT.add64 (by constructor <;> omega)
      omega
    have IE := FP.Core.l2d_int (a := (((0 : Int64) + (v0.toInt64 * ((own_at d0 d1 d2 d3 y0).toInt64))) + (v1.toInt64 * ((own_at d0 d1 d2 d3 y1).toInt64)))) (by omega)
    have cs2_2 : Steps p.tables e below (s₁.setTop (entryFrame m #[(.int p1), (.long p2), (.int d0), (.int d1), (.int d2), (.int d3)] maxLocals)) (T220.setTop (mkF m 338 #[.val (.int p1), .val (.long p2), .second, .val (.int d0), .val (.int d1), .val (.int d2), .val (.int d3), .val (.int (2 : Int32)), .val (.int rr), .val (.ref a59), .val (.ref a67), .val (.ref a75), .val (.ref a90), .val (.ref a167), .val (.ref a172), .val (.long (((0 : Int64) + (v0.toInt64 * ((own_at d0 d1 d2 d3 y0).toInt64))) + (v1.toInt64 * ((own_at d0 d1 d2 d3 y1).toInt64)))), .second, .val (.ref a212), .val (.double (FP.dadd (FP.dadd (0 : UInt64) (FP.dmul (FP.i2d v0) (FP.i2d (own_at d0 d1 d2 d3 y0)))) (FP.dmul (FP.i2d v1) (FP.i2d (own_at d0 d1 d2 d3 y1))))), .second] [(.int (1 : Int32))])) := cc1.trans (by
      refine st167 _ ?_
      refine XS.astore X167.here hx rfl (hb hby at_166) rfl rfl (l' := #[.val (.int p1), .val (.long p2), .second, .val (.int d0), .val (.int d1), .val (.int d2), .val (.int d3), .val (.int (2 : Int32)), .val (.int rr), .val (.ref a59), .val (.ref a67), .val (.ref a75), .val (.ref a90), .val (.ref a167), .unset, .unset, .unset, .unset, .unset, .unset]) rfl ?_
      refine XS.iload X167.here hx rfl (hb hby at_168) rfl ?_
      refine st172 _ ?_
      refine XS.astore X172.here hx rfl (hb hby at_172) rfl rfl (l' := #[.val (.int p1), .val (.long p2), .second, .val (.int d0), .val (.int d1), .val (.int d2), .val (.int d3), .val (.int (2 : Int32)), .val (.int rr), .val (.ref a59), .val (.ref a67), .val (.ref a75), .val (.ref a90), .val (.ref a167), .val (.ref a172), .unset, .unset, .unset, .unset, .unset]) rfl ?_
      refine XT.lconstV X172.here hx rfl ((0 : Int64)) (hb hby at_174) (by decide) ?_
      refine XT.lstore X172.here hx rfl (hb hby at_175) rfl (l' := #[.val (.int p1), .val (.long p2), .second, .val (.int d0), .val (.int d1), .val (.int d2), .val (.int d3), .val (.int (2 : Int32)), .val (.int rr), .val (.ref a59), .val (.ref a67), .val (.ref a75), .val (.ref a90), .val (.ref a167), .val (.ref a172), .val (.long (0 : Int64)), .second, .unset, .unset, .unset]) rfl ?_
      refine XS.iload X172.here hx rfl (hb hby at_177) rfl ?_
      refine XS.ifNo X172.here hx rfl (hb hby at_179) rfl (XT.i0_le_f (by decide)) ?_
      refine XS.aload X172.here hx rfl (hb hby at_182) rfl rfl ?_
      refine XT.iconstV X172.here hx rfl ((0 : Int32)) (hb hby at_184) (by decide) ?_
      refine XS.aload X172.here hx rfl (hb hby at_185) rfl rfl ?_
      refine XT.iconstV X172.here hx rfl ((0 : Int32)) (hb hby at_187) (by decide) ?_
      refine X172.iaload hx (j := (0 : Int32)) (v := (.int y0)) (by rw [e172]; exact A178.1) (State.isArrayOf_alike hZ.alike A178.2.1) A178.2.2 i178 t178 (g := (mkF m 188 #[.val (.int p1), .val (.long p2), .second, .val (.int d0), .val (.int d1), .val (.int d2), .val (.int d3), .val (.int (2 : Int32)), .val (.int rr), .val (.ref a59), .val (.ref a67), .val (.ref a75), .val (.ref a90), .val (.ref a167), .val (.ref a172), .val (.long (0 : Int64)), .second, .unset, .unset, .unset] [(.int (0 : Int32)), (.ref a59), (.int (0 : Int32)), (.ref a167)])) rfl rfl (hb hby at_188) _ ?_
      show Steps p.tables e below (T172.setTop (mkF m 189 #[.val (.int p1), .val (.long p2), .second, .val (.int d0), .val (.int d1), .val (.int d2), .val (.int d3), .val (.int (2 : Int32)), .val (.int rr), .val (.ref a59), .val (.ref a67), .val (.ref a75), .val (.ref a90), .val (.ref a167), .val (.ref a172), .val (.long (0 : Int64)), .second, .unset, .unset, .unset] [(.int y0), (.int (0 : Int32)), (.ref a167)])) _
      refine st179 _ ?_
      refine XS.aload XZ179.here hx rfl (hb hby at_190) rfl rfl ?_
      refine XT.iconstV XZ179.here hx rfl ((0 : Int32)) (hb hby at_192) (by decide) ?_
      refine XS.aload XZ179.here hx rfl (hb hby at_193) rfl rfl ?_
      refine XT.iconstV XZ179.here hx rfl ((0 : Int32)) (hb hby at_195) (by decide) ?_
      refine XZ179.iaload hx (j := (0 : Int32)) (v := (.int v0)) (by rw [e179]; exact A185.1) (State.isArrayOf_alike hZ.alike A185.2.1) A185.2.2 i185 t185 (g := (mkF m 196 #[.val (.int p1), .val (.long p2), .second, .val (.int d0), .val (.int d1), .val (.int d2), .val (.int d3), .val (.int (2 : Int32)), .val (.int rr), .val (.ref a59), .val (.ref a67), .val (.ref a75), .val (.ref a90), .val (.ref a167), .val (.ref a172), .val (.long (0 : Int64)), .second, .unset, .unset, .unset] [(.int (0 : Int32)), (.ref a67), (.int (0 : Int32)), (.ref a172)])) rfl rfl (hb hby at_196) _ ?_
      show Steps p.tables e below (T179.setTop (mkF m 197 #[.val (.int p1), .val (.long p2), .second, .val (.int d0), .val (.int d1), .val (.int d2), .val (.int d3), .val (.int (2 : Int32)), .val (.int rr), .val (.ref a59), .val (.ref a67), .val (.ref a75), .val (.ref a90), .val (.ref a167), .val (.ref a172), .val (.long (0 : Int64)), .second, .unset, .unset, .unset] [(.int v0), (.int (0 : Int32)), (.ref a172)])) _
      refine XS.i2dS XZ179.here hx rfl (hb hby at_197) rfl rfl ?_
      refine st186 _ ?_
      refine XT.lload XZ186.here hx rfl (hb hby at_199) rfl ?_
      refine XS.aload XZ186.here hx rfl (hb hby at_201) rfl rfl ?_
      refine XT.iconstV XZ186.here hx rfl ((0 : Int32)) (hb hby at_203) (by decide) ?_
      refine XZ186.iaload hx (j := (0 : Int32)) (v := (.int v0)) (by rw [e186]; exact A192.1) (State.isArrayOf_alike hZ.alike A192.2.1) A192.2.2 i192 t192 (g := (mkF m 204 #[.val (.int p1), .val (.long p2), .second, .val (.int d0), .val (.int d1), .val (.int d2), .val (.int d3), .val (.int (2 : Int32)), .val (.int rr), .val (.ref a59), .val (.ref a67), .val (.ref a75), .val (.ref a90), .val (.ref a167), .val (.ref a172), .val (.long (0 : Int64)), .second, .unset, .unset, .unset] [(.int (0 : Int32)), (.ref a67), (.long (0 : Int64))])) rfl rfl (hb hby at_204) _ ?_
      show Steps p.tables e below (T186.setTop (mkF m 205 #[.val (.int p1), .val (.long p2), .second, .val (.int d0), .val (.int d1), .val (.int d2), .val (.int d3), .val (.int (2 : Int32)), .val (.int rr), .val (.ref a59), .val (.ref a67), .val (.ref a75), .val (.ref a90), .val (.ref a167), .val (.ref a172), .val (.long (0 : Int64)), .second, .unset, .unset, .unset] [(.int v0), (.long (0 : Int64))])) _
      refine XT.i2l XZ186.here hx rfl (hb hby at_205) rfl ?_
      refine XS.aload XZ186.here hx rfl (hb hby at_206) rfl rfl ?_
      refine XS.aload XZ186.here hx rfl (hb hby at_208) rfl rfl ?_
      refine XT.iconstV XZ186.here hx rfl ((0 : Int32)) (hb hby at_210) (by decide) ?_
      refine XZ186.iaload hx (j := (0 : Int32)) (v := (.int y0)) (by rw [e186]; exact A193.1) (State.isArrayOf_alike hZ.alike A193.2.1) A193.2.2 i193 t193 (g := (mkF m 211 #[.val (.int p1), .val (.long p2), .second, .val (.int d0), .val (.int d1), .val (.int d2), .val (.int d3), .val (.int (2 : Int32)), .val (.int rr), .val (.ref a59), .val (.ref a67), .val (.ref a75), .val (.ref a90), .val (.ref a167), .val (.ref a172), .val (.long (0 : Int64)), .second, .unset, .unset, .unset] [(.int (0 : Int32)), (.ref a59), (.ref a75), (.long v0.toInt64), (.long (0 : Int64))])) rfl rfl (hb hby at_211) _ ?_
      show Steps p.tables e below (T186.setTop (mkF m 212 #[.val (.int p1), .val (.long p2), .second, .val (.int d0), .val (.int d1), .val (.int d2), .val (.int d3), .val (.int (2 : Int32)), .val (.int rr), .val (.ref a59), .val (.ref a67), .val (.ref a75), .val (.ref a90), .val (.ref a167), .val (.ref a172), .val (.long (0 : Int64)), .second, .unset, .unset, .unset] [(.int y0), (.ref a75), (.long v0.toInt64), (.long (0 : Int64))])) _
      refine XZ186.iaload hx (j := y0) (v := (.int (own_at d0 d1 d2 d3 y0))) (by rw [e186]; exact A194.1) (State.isArrayOf_alike hZ.alike A194.2.1) A194.2.2 i194 t194 (g := (mkF m 212 #[.val (.int p1), .val (.long p2), .second, .val (.int d0), .val (.int d1), .val (.int d2), .val (.int d3), .val (.int (2 : Int32)), .val (.int rr), .val (.ref a59), .val (.ref a67), .val (.ref a75), .val (.ref a90), .val (.ref a167), .val (.ref a172), .val (.long (0 : Int64)), .second, .unset, .unset, .unset] [(.int y0), (.ref a75), (.long v0.toInt64), (.long (0 : Int64))])) rfl rfl (hb hby at_212) _ ?_
      show Steps p.tables e below (T186.setTop (mkF m 213 #[.val (.int p1), .val (.long p2), .second, .val (.int d0), .val (.int d1), .val (.int d2), .val (.int d3), .val (.int (2 : Int32)), .val (.int rr), .val (.ref a59), .val (.ref a67), .val (.ref a75), .val (.ref a90), .val (.ref a167), .val (.ref a172), .val (.long (0 : Int64)), .second, .unset, .unset, .unset] [(.int (own_at d0 d1 d2 d3 y0)), (.long v0.toInt64), (.long (0 : Int64))])) _
      refine XT.i2l XZ186.here hx rfl (hb hby at_213) rfl ?_
      refine XT.lmul XZ186.here hx rfl (hb hby at_214) rfl ?_
      refine XT.ladd XZ186.here hx rfl (hb hby at_215) rfl ?_
      refine XT.lstore XZ186.here hx rfl (hb hby at_216) rfl (l' := #[.val (.int p1), .val (.long p2), .second, .val (.int d0), .val (.int d1), .val (.int d2), .val (.int d3), .val (.int (2 : Int32)), .val (.int rr), .val (.ref a59), .val (.ref a67), .val (.ref a75), .val (.ref a90), .val (.ref a167), .val (.ref a172), .val (.long ((0 : Int64) + (v0.toInt64 * ((own_at d0 d1 d2 d3 y0).toInt64)))), .second, .unset, .unset, .unset]) rfl ?_
      refine XS.iload XZ186.here hx rfl (hb hby at_218) rfl ?_
      refine XT.iconstV XZ186.here hx rfl ((1 : Int32)) (hb hby at_220) (by decide) ?_
      refine XS.icmpNo XZ186.here hx rfl (hb hby at_221) rfl (XT.ii_le_f (by decide)) ?_
      refine XS.aload XZ186.here hx rfl (hb hby at_224) rfl rfl ?_
      refine XT.iconstV XZ186.here hx rfl ((1 : Int32)) (hb hby at_226) (by decide) ?_
      refine XS.aload XZ186.here hx rfl (hb hby at_227) rfl rfl ?_
      refine XT.iconstV XZ186.here hx rfl ((1 : Int32)) (hb hby at_229) (by decide) ?_
      refine XZ186.iaload hx (j := (1 : Int32)) (v := (.int y1)) (by rw [e186]; exact A195.1) (State.isArrayOf_alike hZ.alike A195.2.1) A195.2.2 i195 t195 (g := (mkF m 230 #[.val (.int p1), .val (.long p2), .second, .val (.int d0), .val (.int d1), .val (.int d2), .val (.int d3), .val (.int (2 : Int32)), .val (.int rr), .val (.ref a59), .val (.ref a67), .val (.ref a75), .val (.ref a90), .val (.ref a167), .val (.ref a172), .val (.long ((0 : Int64) + (v0.toInt64 * ((own_at d0 d1 d2 d3 y0).toInt64)))), .second, .unset, .unset, .unset] [(.int (1 : Int32)), (.ref a59), (.int (1 : Int32)), (.ref a167)])) rfl rfl (hb hby at_230) _ ?_
      show Steps p.tables e below (T186.setTop (mkF m 231 #[.val (.int p1), .val (.long p2), .second, .val (.int d0), .val (.int d1), .val (.int d2), .val (.int d3), .val (.int (2 : Int32)), .val (.int rr), .val (.ref a59), .val (.ref a67), .val (.ref a75), .val (.ref a90), .val (.ref a167), .val (.ref a172), .val (.long ((0 : Int64) + (v0.toInt64 * ((own_at d0 d1 d2 d3 y0).toInt64)))), .second, .unset, .unset, .unset] [(.int y1), (.int (1 : Int32)), (.ref a167)])) _
      refine st196 _ ?_
      refine XS.aload XZ196.here hx rfl (hb hby at_232) rfl rfl ?_
      refine XT.iconstV XZ196.here hx rfl ((1 : Int32)) (hb hby at_234) (by decide) ?_
      refine XS.aload XZ196.here hx rfl (hb hby at_235) rfl rfl ?_
      refine XT.iconstV XZ196.here hx rfl ((1 : Int32)) (hb hby at_237) (by decide) ?_
      refine XZ196.iaload hx (j := (1 : Int32)) (v := (.int v1)) (by rw [e196]; exact A202.1) (State.isArrayOf_alike hZ.alike A202.2.1) A202.2.2 i202 t202 (g := (mkF m 238 #[.val (.int p1), .val (.long p2), .second, .val (.int d0), .val (.int d1), .val (.int d2), .val (.int d3), .val (.int (2 : Int32)), .val (.int rr), .val (.ref a59), .val (.ref a67), .val (.ref a75), .val (.ref a90), .val (.ref a167), .val (.ref a172), .val (.long ((0 : Int64) + (v0.toInt64 * ((own_at d0 d1 d2 d3 y0).toInt64)))), .second, .unset, .unset, .unset] [(.int (1 : Int32)), (.ref a67), (.int (1 : Int32)), (.ref a172)])) rfl rfl (hb hby at_238) _ ?_
      show Steps p.tables e below (T196.setTop (mkF m 239 #[.val (.int p1), .val (.long p2), .second, .val (.int d0), .val (.int d1), .val (.int d2), .val (.int d3), .val (.int (2 : Int32)), .val (.int rr), .val (.ref a59), .val (.ref a67), .val (.ref a75), .val (.ref a90), .val (.ref a167), .val (.ref a172), .val (.long ((0 : Int64) + (v0.toInt64 * ((own_at d0 d1 d2 d3 y0).toInt64)))), .second, .unset, .unset, .unset] [(.int v1), (.int (1 : Int32)), (.ref a172)])) _
      refine XS.i2dS XZ196.here hx rfl (hb hby at_239) rfl rfl ?_
      refine st203 _ ?_
      refine XT.lload XZ203.here hx rfl (hb hby at_241) rfl ?_
      refine XS.aload XZ203.here hx rfl (hb hby at_243) rfl rfl ?_
      refine XT.iconstV XZ203.here hx rfl ((1 : Int32)) (hb hby at_245) (by decide) ?_
      refine XZ203.iaload hx (j := (1 : Int32)) (v := (.int v1)) (by rw [e203]; exact A209.1) (State.isArrayOf_alike hZ.alike A209.2.1) A209.2.2 i209 t209 (g := (mkF m 246 #[.val (.int p1), .val (.long p2), .second, .val (.int d0), .val (.int d1), .val (.int d2), .val (.int d3), .val (.int (2 : Int32)), .val (.int rr), .val (.ref a59), .val (.ref a67), .val (.ref a75), .val (.ref a90), .val (.ref a167), .val (.ref a172), .val (.long ((0 : Int64) + (v0.toInt64 * ((own_at d0 d1 d2 d3 y0).toInt64)))), .second, .unset, .unset, .unset] [(.int (1 : Int32)), (.ref a67), (.long ((0 : Int64) + (v0.toInt64 * ((own_at d0 d1 d2 d3 y0).toInt64))))])) rfl rfl (hb hby at_246) _ ?_
      show Steps p.tables e below (T203.setTop (mkF m 247 #[.val (.int p1), .val (.long p2), .second, .val (.int d0), .val (.int d1), .val (.int d2), .val (.int d3), .val (.int (2 : Int32)), .val (.int rr), .val (.ref a59), .val (.ref a67), .val (.ref a75), .val (.ref a90), .val (.ref a167), .val (.ref a172), .val (.long ((0 : Int64) + (v0.toInt64 * ((own_at d0 d1 d2 d3 y0).toInt64)))), .second, .unset, .unset, .unset] [(.int v1), (.long ((0 : Int64) + (v0.toInt64 * ((own_at d0 d1 d2 d3 y0).toInt64))))])) _
      refine XT.i2l XZ203.here hx rfl (hb hby at_247) rfl ?_
      refine XS.aload XZ203.here hx rfl (hb hby at_248) rfl rfl ?_
      refine XS.aload XZ203.here hx rfl (hb hby at_250) rfl rfl ?_
      refine XT.iconstV XZ203.here hx rfl ((1 : Int32)) (hb hby at_252) (by decide) ?_
      refine XZ203.iaload hx (j := (1 : Int32)) (v := (.int y1)) (by rw [e203]; exact A210.1) (State.isArrayOf_alike hZ.alike A210.2.1) A210.2.2 i210 t210 (g := (mkF m 253 #[.val (.int p1), .val (.long p2), .second, .val (.int d0), .val (.int d1), .val (.int d2), .val (.int d3), .val (.int (2 : Int32)), .val (.int rr), .val (.ref a59), .val (.ref a67), .val (.ref a75), .val (.ref a90), .val (.ref a167), .val (.ref a172), .val (.long ((0 : Int64) + (v0.toInt64 * ((own_at d0 d1 d2 d3 y0).toInt64)))), .second, .unset, .unset, .unset] [(.int (1 : Int32)), (.ref a59), (.ref a75), (.long v1.toInt64), (.long ((0 : Int64) + (v0.toInt64 * ((own_at d0 d1 d2 d3 y0).toInt64))))])) rfl rfl (hb hby at_253) _ ?_
      show Steps p.tables e below (T203.setTop (mkF m 254 #[.val (.int p1), .val (.long p2), .second, .val (.int d0), .val (.int d1), .val (.int d2), .val (.int d3), .val (.int (2 : Int32)), .val (.int rr), .val (.ref a59), .val (.ref a67), .val (.ref a75), .val (.ref a90), .val (.ref a167), .val (.ref a172), .val (.long ((0 : Int64) + (v0.toInt64 * ((own_at d0 d1 d2 d3 y0).toInt64)))), .second, .unset, .unset, .unset] [(.int y1), (.ref a75), (.long v1.toInt64), (.long ((0 : Int64) + (v0.toInt64 * ((own_at d0 d1 d2 d3 y0).toInt64))))])) _
      refine XZ203.iaload hx (j := y1) (v := (.int (own_at d0 d1 d2 d3 y1))) (by rw [e203]; exact A211.1) (State.isArrayOf_alike hZ.alike A211.2.1) A211.2.2 i211 t211 (g := (mkF m 254 #[.val (.int p1), .val (.long p2), .second, .val (.int d0), .val (.int d1), .val (.int d2), .val (.int d3), .val (.int (2 : Int32)), .val (.int rr), .val (.ref a59), .val (.ref a67), .val (.ref a75), .val (.ref a90), .val (.ref a167), .val (.ref a172), .val (.long ((0 : Int64) + (v0.toInt64 * ((own_at d0 d1 d2 d3 y0).toInt64)))), .second, .unset, .unset, .unset] [(.int y1), (.ref a75), (.long v1.toInt64), (.long ((0 : Int64) + (v0.toInt64 * ((own_at d0 d1 d2 d3 y0).toInt64))))])) rfl rfl (hb hby at_254) _ ?_
      show Steps p.tables e below (T203.setTop (mkF m 255 #[.val (.int p1), .val (.long p2), .second, .val (.int d0), .val (.int d1), .val (.int d2), .val (.int d3), .val (.int (2 : Int32)), .val (.int rr), .val (.ref a59), .val (.ref a67), .val (.ref a75), .val (.ref a90), .val (.ref a167), .val (.ref a172), .val (.long ((0 : Int64) + (v0.toInt64 * ((own_at d0 d1 d2 d3 y0).toInt64)))), .second, .unset, .unset, .unset] [(.int (own_at d0 d1 d2 d3 y1)), (.long v1.toInt64), (.long ((0 : Int64) + (v0.toInt64 * ((own_at d0 d1 d2 d3 y0).toInt64))))])) _
      refine XT.i2l XZ203.here hx rfl (hb hby at_255) rfl ?_
      refine XT.lmul XZ203.here hx rfl (hb hby at_256) rfl ?_
      refine XT.ladd XZ203.here hx rfl (hb hby at_257) rfl ?_
      refine XT.lstore XZ203.here hx rfl (hb hby at_258) rfl (l' := #[.val (.int p1), .val (.long p2), .second, .val (.int d0), .val (.int d1), .val (.int d2), .val (.int d3), .val (.int (2 : Int32)), .val (.int rr), .val (.ref a59), .val (.ref a67), .val (.ref a75), .val (.ref a90), .val (.ref a167), .val (.ref a172), .val (.long (((0 : Int64) + (v0.toInt64 * ((own_at d0 d1 d2 d3 y0).toInt64))) + (v1.toInt64 * ((own_at d0 d1 d2 d3 y1).toInt64)))), .second, .unset, .unset, .unset]) rfl ?_
      refine XS.iload XZ203.here hx rfl (hb hby at_260) rfl ?_
      refine XT.iconstV XZ203.here hx rfl ((2 : Int32)) (hb hby at_262) (by decide) ?_
      refine XS.icmpYes XZ203.here hx rfl (pc0 := 263) (pc' := 302) rfl (hb hby at_263) rfl (XT.ii_le_t (by decide)) (by decide) (by decide) ?_
      refine st212 _ ?_
      refine XS.dup X212.here hx rfl (hb hby at_305) rfl rfl ?_
      refine XS.aload X212.here hx rfl (hb hby at_306) rfl rfl ?_
      refine XS.aload X212.here hx rfl (hb hby at_308) rfl rfl ?_
      refine st219.trans ?_
      show Steps p.tables e below (T219.setTop (mkF m 313 #[.val (.int p1), .val (.long p2), .second, .val (.int d0), .val (.int d1), .val (.int d2), .val (.int d3), .val (.int (2 : Int32)), .val (.int rr), .val (.ref a59), .val (.ref a67), .val (.ref a75), .val (.ref a90), .val (.ref a167), .val (.ref a172), .val (.long (((0 : Int64) + (v0.toInt64 * ((own_at d0 d1 d2 d3 y0).toInt64))) + (v1.toInt64 * ((own_at d0 d1 d2 d3 y1).toInt64)))), .second, .unset, .unset, .unset] [(.ref a212)])) _
      refine XS.astore X219.here hx rfl (hb hby at_313) rfl rfl (l' := #[.val (.int p1), .val (.long p2), .second, .val (.int d0), .val (.int d1), .val (.int d2), .val (.int d3), .val (.int (2 : Int32)), .val (.int rr), .val (.ref a59), .val (.ref a67), .val (.ref a75), .val (.ref a90), .val (.ref a167), .val (.ref a172), .val (.long (((0 : Int64) + (v0.toInt64 * ((own_at d0 d1 d2 d3 y0).toInt64))) + (v1.toInt64 * ((own_at d0 d1 d2 d3 y1).toInt64)))), .second, .val (.ref a212), .unset, .unset]) rfl ?_
      refine XS.aload X219.here hx rfl (hb hby at_315) rfl rfl ?_
      refine XS.aload X219.here hx rfl (hb hby at_317) rfl rfl ?_
      refine st220.trans ?_
      show Steps p.tables e below (T220.setTop (mkF m 322 #[.val (.int p1), .val (.long p2), .second, .val (.int d0), .val (.int d1), .val (.int d2), .val (.int d3), .val (.int (2 : Int32)), .val (.int rr), .val (.ref a59), .val (.ref a67), .val (.ref a75), .val (.ref a90), .val (.ref a167), .val (.ref a172), .val (.long (((0 : Int64) + (v0.toInt64 * ((own_at d0 d1 d2 d3 y0).toInt64))) + (v1.toInt64 * ((own_at d0 d1 d2 d3 y1).toInt64)))), .second, .val (.ref a212), .unset, .unset] [(.double (FP.dadd (FP.dadd (0 : UInt64) (FP.dmul (FP.i2d v0) (FP.i2d (own_at d0 d1 d2 d3 y0)))) (FP.dmul (FP.i2d v1) (FP.i2d (own_at d0 d1 d2 d3 y1)))))])) _
      refine XS.dstore X220.here hx rfl (hb hby at_322) rfl (l' := #[.val (.int p1), .val (.long p2), .second, .val (.int d0), .val (.int d1), .val (.int d2), .val (.int d3), .val (.int (2 : Int32)), .val (.int rr), .val (.ref a59), .val (.ref a67), .val (.ref a75), .val (.ref a90), .val (.ref a167), .val (.ref a172), .val (.long (((0 : Int64) + (v0.toInt64 * ((own_at d0 d1 d2 d3 y0).toInt64))) + (v1.toInt64 * ((own_at d0 d1 d2 d3 y1).toInt64)))), .second, .val (.ref a212), .val (.double (FP.dadd (FP.dadd (0 : UInt64) (FP.dmul (FP.i2d v0) (FP.i2d (own_at d0 d1 d2 d3 y0)))) (FP.dmul (FP.i2d v1) (FP.i2d (own_at d0 d1 d2 d3 y1))))), .second]) rfl ?_
      refine XS.dload X220.here hx rfl (hb hby at_324) rfl ?_
      refine XT.lload X220.here hx rfl (hb hby at_326) rfl ?_
      refine XS.l2dS X220.here hx rfl (hb hby at_328) rfl rfl ?_
      refine XS.dcmpS X220.here hx rfl (hb hby at_329) rfl (own_eq0 I2 IE (by omega) _) ?_
      refine XS.ifNo X220.here hx rfl (hb hby at_330) rfl (XT.i0_ne_f rfl) ?_
      refine XT.iconstV X220.here hx rfl ((1 : Int32)) (hb hby at_333) (by decide) ?_
      refine XS.goto X220.here hx rfl (pc0 := 334) (pc' := 338) rfl (hb hby at_334) (by decide) (by decide) ?_
      exact Steps.refl _)
    obtain ⟨fs, hr, hrun, hended, hW, hsame⟩ := X220.leave (v := some (.int (1 : Int32))) (fun h => by rw [Bd.returns] at h; cases h)
    refine ⟨_, _, cs2_2.trans ?_, hrun, hended, _, _, rfl, ?_, ⟨_, rfl⟩, hW, hsame.mono (by decide) (by decide)⟩
    · exact retN X220 hx (t := .boolean) Bd.returns (by simp) (hb hby at_338) hr
    · show Q0 h0 n0 _ T220.heap _
      exact ⟨rfl, NN220⟩
  ·
    subst h4
    obtain ⟨T221, h221, kA221, X221, e221, E221, A221, st221⟩ := newP XZ106 hx hZ (hw _ (List.mem_of_getElem? (i := 0) rfl)) e106 (g := (mkF m 164 #[.val (.int p1), .val (.long p2), .second, .val (.int d0), .val (.int d1), .val (.int d2), .val (.int d3), .val (.int (3 : Int32)), .val (.int rr), .val (.ref a59), .val (.ref a67), .val (.ref a75), .val (.ref a90), .unset, .unset, .unset, .unset, .unset, .unset, .unset] [(.int (3 : Int32))])) rfl (hb hby at_164) rfl (by decide : ¬ ((3 : Int32) < (0 : Int32))) (cap := 3) (by decide : (3 : Int32).toNatClampNeg ≤ 3) (by decide) (by decide) (by decide)
    obtain ⟨a221, g221⟩ : ∃ z, z = h106.size := ⟨_, rfl⟩
    rw [← g221] at A221 st221
    have Zs221 : n0 ≤ h221.size := Nat.le_trans Zs106 E221.1
    have gn221 : n0 ≤ a221 := Nat.le_trans Zs106 (Nat.le_of_eq g221.symm)
    have V221 : Arv Z h221 a221 kA221 .int (3 : Int32) [] (.int (0 : Int32)) := Arv.new A221 (by decide)
    have ne_a59_a221 : a59 ≠ a221 := Nat.ne_of_lt (Nat.lt_of_lt_of_le V107.lt (Nat.le_of_eq g221.symm))
    have ne_a67_a221 : a67 ≠ a221 := Nat.ne_of_lt (Nat.lt_of_lt_of_le V108.lt (Nat.le_of_eq g221.symm))
    have ne_a75_a221 : a75 ≠ a221 := Nat.ne_of_lt (Nat.lt_of_lt_of_le V109.lt (Nat.le_of_eq g221.symm))
    have ne_a90_a221 : a90 ≠ a221 := Nat.ne_of_lt (Nat.lt_of_lt_of_le V106.lt (Nat.le_of_eq g221.symm))
    have V222 : Arv Z h221 a59 kA59 .int (4 : Int32) vs66 (.int (0 : Int32)) := V107.ext E221
    have V223 : Arv Z h221 a67 kA67 .int (3 : Int32) [(.int v0), (.int v1), (.int v2)] (.int (0 : Int32)) := V108.ext E221
    have V224 : Arv Z h221 a75 kA75 .int (4 : Int32) [(.int d0), (.int d1), (.int d2), (.int d3)] (.int (0 : Int32)) := V109.ext E221
    have V225 : Arv Z h221 a90 kA90 .double (4 : Int32) [(.double (FP.i2d d0)), (.double (FP.i2d d1)), (.double (FP.i2d d2)), (.double (FP.i2d d3))] (.double (FP.l2d 0)) := V106.ext E221
    obtain ⟨T226, h226, kA226, X226, e226, E226, A226, st226⟩ := newP X221 hx hZ (hw _ (List.mem_of_getElem? (i := 5) rfl)) e221 (g := (mkF m 170 #[.val (.int p1), .val (.long p2), .second, .val (.int d0), .val (.int d1), .val (.int d2), .val (.int d3), .val (.int (3 : Int32)), .val (.int rr), .val (.ref a59), .val (.ref a67), .val (.ref a75), .val (.ref a90), .val (.ref a221), .unset, .unset, .unset, .unset, .unset, .unset] [(.int (3 : Int32))])) rfl (hb hby at_170) rfl (by decide : ¬ ((3 : Int32) < (0 : Int32))) (cap := 3) (by decide : (3 : Int32).toNatClampNeg ≤ 3) (by decide) (by decide) (by decide)
    obtain ⟨a226, g226⟩ : ∃ z, z = h221.size := ⟨_, rfl⟩
    rw [← g226] at A226 st226
    have Zs226 : n0 ≤ h226.size := Nat.le_trans Zs221 E226.1
    have gn226 : n0 ≤ a226 := Nat.le_trans Zs221 (Nat.le_of_eq g226.symm)
    have V226 : Arv Z h226 a226 kA226 .double (3 : Int32) [] (.double (FP.l2d 0)) := Arv.newD A226 (by decide)
    have ne_a59_a226 : a59 ≠ a226 := Nat.ne_of_lt (Nat.lt_of_lt_of_le V222.lt (Nat.le_of_eq g226.symm))
    have ne_a67_a226 : a67 ≠ a226 := Nat.ne_of_lt (Nat.lt_of_lt_of_le V223.lt (Nat.le_of_eq g226.symm))
    have ne_a75_a226 : a75 ≠ a226 := Nat.ne_of_lt (Nat.lt_of_lt_of_le V224.lt (Nat.le_of_eq g226.symm))
    have ne_a90_a226 : a90 ≠ a226 := Nat.ne_of_lt (Nat.lt_of_lt_of_le V225.lt (Nat.le_of_eq g226.symm))
    have ne_a221_a226 : a221 ≠ a226 := Nat.ne_of_lt (Nat.lt_of_lt_of_le V221.lt (Nat.le_of_eq g226.symm))
    have V227 : Arv Z h226 a59 kA59 .int (4 : Int32) vs66 (.int (0 : Int32)) := V222.ext E226
    have V228 : Arv Z h226 a67 kA67 .int (3 : Int32) [(.int v0), (.int v1), (.int v2)] (.int (0 : Int32)) := V223.ext E226
    have V229 : Arv Z h226 a75 kA75 .int (4 : Int32) [(.int d0), (.int d1), (.int d2), (.int d3)] (.int (0 : Int32)) := V224.ext E226
    have V230 : Arv Z h226 a90 kA90 .double (4 : Int32) [(.double (FP.i2d d0)), (.double (FP.i2d d1)), (.double (FP.i2d d2)), (.double (FP.i2d d3))] (.double (FP.l2d 0)) := V225.ext E226
    have V231 : Arv Z h226 a221 kA221 .int (3 : Int32) [] (.int (0 : Int32)) := V221.ext E226
    obtain ⟨c232, A232, q232, S232, M232, H232, U232⟩ := id V227
    have i232 := inb_of (j := (0 : Int32)) S232 ⟨by decide, by decide⟩
    have t232 := H232.at (v := (.int y0)) i232 ey0
    have V233p : Arv Z h226 a221 kA221 .int (3 : Int32) [(.int (0 : Int32))] (.int (0 : Int32)) := V231.pad (pad_rep [] (.int (0 : Int32)) 1)
    obtain ⟨c233, A233, q233, S233, M233, H233, U233⟩ := id V233p
    obtain ⟨T233, h233, X233, e233, W233, st233⟩ := stI X226 hx hZ e226 A233 (j := (0 : Int32)) (inb_of S233 ⟨(by decide : ¬ ((0 : Int32) < (0 : Int32))), (by decide : (0 : Int32) < (3 : Int32))⟩) (g := (mkF m 189 #[.val (.int p1), .val (.long p2), .second, .val (.int d0), .val (.int d1), .val (.int d2), .val (.int d3), .val (.int (3 : Int32)), .val (.int rr), .val (.ref a59), .val (.ref a67), .val (.ref a75), .val (.ref a90), .val (.ref a221), .val (.ref a226), .val (.long (0 : Int64)), .second, .unset, .unset, .unset] [(.int y0), (.int (0 : Int32)), (.ref a221)])) rfl rfl (hb hby at_189)
    have N233 := Fr.snoc X233 NZ106 gn221
    have Zs233 : n0 ≤ h233.size := Nat.le_trans Zs226 (Keep.of_wr W233).1
    obtain ⟨Lz233, XZ233, NZ233⟩ := own_pack X233 N233
    have V233 : Arv Z h233 a221 kA221 .int (3 : Int32) [(.int y0)] (.int (0 : Int32)) := Arv.set A233 q233 S233 M233 H233 U233 rfl W233 0 rfl (Nat.le_of_ble_eq_true rfl)
    have V234 : Arv Z h233 a59 kA59 .int (4 : Int32) vs66 (.int (0 : Int32)) := V227.other W233 ne_a59_a221
    have V235 : Arv Z h233 a67 kA67 .int (3 : Int32) [(.int v0), (.int v1), (.int v2)] (.int (0 : Int32)) := V228.other W233 ne_a67_a221
    have V236 : Arv Z h233 a75 kA75 .int (4 : Int32) [(.int d0), (.int d1), (.int d2), (.int d3)] (.int (0 : Int32)) := V229.other W233 ne_a75_a221
    have V237 : Arv Z h233 a90 kA90 .double (4 : Int32) [(.double (FP.i2d d0)), (.double (FP.i2d d1)), (.double (FP.i2d d2)), (.double (FP.i2d d3))] (.double (FP.l2d 0)) := V230.other W233 ne_a90_a221
    have V238 : Arv Z h233 a226 kA226 .double (3 : Int32) [] (.double (FP.l2d 0)) := V226.other W233 ne_a221_a226.symm
    obtain ⟨c239, A239, q239, S239, M239, H239, U239⟩ := id V235
    have i239 := inb_of (j := (0 : Int32)) S239 ⟨by decide, by decide⟩
    have t239 := H239.at (v := (.int v0)) i239 rfl
    have V240p : Arv Z h233 a226 kA226 .double (3 : Int32) [(.double (FP.l2d 0))] (.double (FP.l2d 0)) := V238.pad (pad_rep [] (.double (FP.l2d 0)) 1)
    obtain ⟨c240, A240, q240, S240, M240, H240, U240⟩ := id V240p
    obtain ⟨T240, h240, X240, e240, W240, st240⟩ := stD XZ233 hx hZ e233 A240 (j := (0 : Int32)) (inb_of S240 ⟨(by decide : ¬ ((0 : Int32) < (0 : Int32))), (by decide : (0 : Int32) < (3 : Int32))⟩) (g := (mkF m 198 #[.val (.int p1), .val (.long p2), .second, .val (.int d0), .val (.int d1), .val (.int d2), .val (.int d3), .val (.int (3 : Int32)), .val (.int rr), .val (.ref a59), .val (.ref a67), .val (.ref a75), .val (.ref a90), .val (.ref a221), .val (.ref a226), .val (.long (0 : Int64)), .second, .unset, .unset, .unset] [(.double (FP.i2d v0)), (.int (0 : Int32)), (.ref a226)])) rfl rfl (hb hby at_198)
    have N240 := Fr.snoc X240 NZ233 gn226
    have Zs240 : n0 ≤ h240.size := Nat.le_trans Zs233 (Keep.of_wr W240).1
    obtain ⟨Lz240, XZ240, NZ240⟩ := own_pack X240 N240
    have V240 : Arv Z h240 a226 kA226 .double (3 : Int32) [(.double (FP.i2d v0))] (.double (FP.l2d 0)) := Arv.set A240 q240 S240 M240 H240 U240 rfl W240 0 rfl (Nat.le_of_ble_eq_true rfl)
    have V241 : Arv Z h240 a59 kA59 .int (4 : Int32) vs66 (.int (0 : Int32)) := V234.other W240 ne_a59_a226
    have V242 : Arv Z h240 a67 kA67 .int (3 : Int32) [(.int v0), (.int v1), (.int v2)] (.int (0 : Int32)) := V235.other W240 ne_a67_a226
    have V243 : Arv Z h240 a75 kA75 .int (4 : Int32) [(.int d0), (.int d1), (.int d2), (.int d3)] (.int (0 : Int32)) := V236.other W240 ne_a75_a226
    have V244 : Arv Z h240 a90 kA90 .double (4 : Int32) [(.double (FP.i2d d0)), (.double (FP.i2d d1)), (.double (FP.i2d d2)), (.double (FP.i2d d3))] (.double (FP.l2d 0)) := V237.other W240 ne_a90_a226
    have V245 : Arv Z h240 a221 kA221 .int (3 : Int32) [(.int y0)] (.int (0 : Int32)) := V233.other W240 ne_a221_a226
    obtain ⟨c246, A246, q246, S246, M246, H246, U246⟩ := id V242
    have i246 := inb_of (j := (0 : Int32)) S246 ⟨by decide, by decide⟩
    have t246 := H246.at (v := (.int v0)) i246 rfl
    obtain ⟨c247, A247, q247, S247, M247, H247, U247⟩ := id V241
    have i247 := inb_of (j := (0 : Int32)) S247 ⟨by decide, by decide⟩
    have t247 := H247.at (v := (.int y0)) i247 ey0
    obtain ⟨c248, A248, q248, S248, M248, H248, U248⟩ := id V243
    have i248 := inb_of (j := y0) S248 (own_ix by0.1 by0.2)
    have t248 := H248.at (v := (.int (own_at d0 d1 d2 d3 y0))) i248 (own_at_i by0.1 by0.2)
    obtain ⟨c249, A249, q249, S249, M249, H249, U249⟩ := id V241
    have i249 := inb_of (j := (1 : Int32)) S249 ⟨by decide, by decide⟩
    have t249 := H249.at (v := (.int y1)) i249 ey1
    have V250p : Arv Z h240 a221 kA221 .int (3 : Int32) [(.int y0), (.int (0 : Int32))] (.int (0 : Int32)) := V245.pad (pad_rep [(.int y0)] (.int (0 : Int32)) 1)
    obtain ⟨c250, A250, q250, S250, M250, H250, U250⟩ := id V250p
    obtain ⟨T250, h250, X250, e250, W250, st250⟩ := stI XZ240 hx hZ e240 A250 (j := (1 : Int32)) (inb_of S250 ⟨(by decide : ¬ ((1 : Int32) < (0 : Int32))), (by decide : (1 : Int32) < (3 : Int32))⟩) (g := (mkF m 231 #[.val (.int p1), .val (.long p2), .second, .val (.int d0), .val (.int d1), .val (.int d2), .val (.int d3), .val (.int (3 : Int32)), .val (.int rr), .val (.ref a59), .val (.ref a67), .val (.ref a75), .val (.ref a90), .val (.ref a221), .val (.ref a226), .val (.long ((0 : Int64) + (v0.toInt64 * ((own_at d0 d1 d2 d3 y0).toInt64)))), .second, .unset, .unset, .unset] [(.int y1), (.int (1 : Int32)), (.ref a221)])) rfl rfl (hb hby at_231)
    have N250 := Fr.snoc X250 NZ240 gn221
    have Zs250 : n0 ≤ h250.size := Nat.le_trans Zs240 (Keep.of_wr W250).1
    obtain ⟨Lz250, XZ250, NZ250⟩ := own_pack X250 N250
    have V250 : Arv Z h250 a221 kA221 .int (3 : Int32) [(.int y0), (.int y1)] (.int (0 : Int32)) := Arv.set A250 q250 S250 M250 H250 U250 rfl W250 1 rfl (Nat.le_of_ble_eq_true rfl)
    have V251 : Arv Z h250 a59 kA59 .int (4 : Int32) vs66 (.int (0 : Int32)) := V241.other W250 ne_a59_a221
    have V252 : Arv Z h250 a67 kA67 .int (3 : Int32) [(.int v0), (.int v1), (.int v2)] (.int (0 : Int32)) := V242.other W250 ne_a67_a221
    have V253 : Arv Z h250 a75 kA75 .int (4 : Int32) [(.int d0), (.int d1), (.int d2), (.int d3)] (.int (0 : Int32)) := V243.other W250 ne_a75_a221
    have V254 : Arv Z h250 a90 kA90 .double (4 : Int32) [(.double (FP.i2d d0)), (.double (FP.i2d d1)), (.double (FP.i2d d2)), (.double (FP.i2d d3))] (.double (FP.l2d 0)) := V244.other W250 ne_a90_a221
    have V255 : Arv Z h250 a226 kA226 .double (3 : Int32) [(.double (FP.i2d v0))] (.double (FP.l2d 0)) := V240.other W250 ne_a221_a226.symm
    obtain ⟨c256, A256, q256, S256, M256, H256, U256⟩ := id V252
    have i256 := inb_of (j := (1 : Int32)) S256 ⟨by decide, by decide⟩
    have t256 := H256.at (v := (.int v1)) i256 rfl
    have V257p : Arv Z h250 a226 kA226 .double (3 : Int32) [(.double (FP.i2d v0)), (.double (FP.l2d 0))] (.double (FP.l2d 0)) := V255.pad (pad_rep [(.double (FP.i2d v0))] (.double (FP.l2d 0)) 1)
    obtain ⟨c257, A257, q257, S257, M257, H257, U257⟩ := id V257p
    obtain ⟨T257, h257, X257, e257, W257, st257⟩ := stD XZ250 hx hZ e250 A257 (j := (1 : Int32)) (inb_of S257 ⟨(by decide : ¬ ((1 : Int32) < (0 : Int32))), (by decide : (1 : Int32) < (3 : Int32))⟩) (g := (mkF m 240 #[.val (.int p1), .val (.long p2), .second, .val (.int d0), .val (.int d1), .val (.int d2), .val (.int d3), .val (.int (3 : Int32)), .val (.int rr), .val (.ref a59), .val (.ref a67), .val (.ref a75), .val (.ref a90), .val (.ref a221), .val (.ref a226), .val (.long ((0 : Int64) + (v0.toInt64 * ((own_at d0 d1 d2 d3 y0).toInt64)))), .second, .unset, .unset, .unset] [(.double (FP.i2d v1)), (.int (1 : Int32)), (.ref a226)])) rfl rfl (hb hby at_240)
    have N257 := Fr.snoc X257 NZ250 gn226
    have Zs257 : n0 ≤ h257.size := Nat.le_trans Zs250 (Keep.of_wr W257).1
    obtain ⟨Lz257, XZ257, NZ257⟩ := own_pack X257 N257
    have V257 : Arv Z h257 a226 kA226 .double (3 : Int32) [(.double (FP.i2d v0)), (.double (FP.i2d v1))] (.double (FP.l2d 0)) := Arv.set A257 q257 S257 M257 H257 U257 rfl W257 1 rfl (Nat.le_of_ble_eq_true rfl)
    have V258 : Arv Z h257 a59 kA59 .int (4 : Int32) vs66 (.int (0 : Int32)) := V251.other W257 ne_a59_a226
    have V259 : Arv Z h257 a67 kA67 .int (3 : Int32) [(.int v0), (.int v1), (.int v2)] (.int (0 : Int32)) := V252.other W257 ne_a67_a226
    have V260 : Arv Z h257 a75 kA75 .int (4 : Int32) [(.int d0), (.int d1), (.int d2), (.int d3)] (.int (0 : Int32)) := V253.other W257 ne_a75_a226
    have V261 : Arv Z h257 a90 kA90 .double (4 : Int32) [(.double (FP.i2d d0)), (.double (FP.i2d d1)), (.double (FP.i2d d2)), (.double (FP.i2d d3))] (.double (FP.l2d 0)) := V254.other W257 ne_a90_a226
    have V262 : Arv Z h257 a221 kA221 .int (3 : Int32) [(.int y0), (.int y1)] (.int (0 : Int32)) := V250.other W257 ne_a221_a226
    obtain ⟨c263, A263, q263, S263, M263, H263, U263⟩ := id V259
    have i263 := inb_of (j := (1 : Int32)) S263 ⟨by decide, by decide⟩
    have t263 := H263.at (v := (.int v1)) i263 rfl
    obtain ⟨c264, A264, q264, S264, M264, H264, U264⟩ := id V258
    have i264 := inb_of (j := (1 : Int32)) S264 ⟨by decide, by decide⟩
    have t264 := H264.at (v := (.int y1)) i264 ey1
    obtain ⟨c265, A265, q265, S265, M265, H265, U265⟩ := id V260
    have i265 := inb_of (j := y1) S265 (own_ix by1.1 by1.2)
    have t265 := H265.at (v := (.int (own_at d0 d1 d2 d3 y1))) i265 (own_at_i by1.1 by1.2)
    obtain ⟨c266, A266, q266, S266, M266, H266, U266⟩ := id V258
    have i266 := inb_of (j := (2 : Int32)) S266 ⟨by decide, by decide⟩
    have t266 := H266.at (v := (.int y2)) i266 ey2
    have V267p : Arv Z h257 a221 kA221 .int (3 : Int32) [(.int y0), (.int y1), (.int (0 : Int32))] (.int (0 : Int32)) := V262.pad (pad_rep [(.int y0), (.int y1)] (.int (0 : Int32)) 1)
    obtain ⟨c267, A267, q267, S267, M267, H267, U267⟩ := id V267p
    obtain ⟨T267, h267, X267, e267, W267, st267⟩ := stI XZ257 hx hZ e257 A267 (j := (2 : Int32)) (inb_of S267 ⟨(by decide : ¬ ((2 : Int32) < (0 : Int32))), (by decide : (2 : Int32) < (3 : Int32))⟩) (g := (mkF m 273 #[.val (.int p1), .val (.long p2), .second, .val (.int d0), .val (.int d1), .val (.int d2), .val (.int d3), .val (.int (3 : Int32)), .val (.int rr), .val (.ref a59), .val (.ref a67), .val (.ref a75), .val (.ref a90), .val (.ref a221), .val (.ref a226), .val (.long (((0 : Int64) + (v0.toInt64 * ((own_at d0 d1 d2 d3 y0).toInt64))) + (v1.toInt64 * ((own_at d0 d1 d2 d3 y1).toInt64)))), .second, .unset, .unset, .unset] [(.int y2), (.int (2 : Int32)), (.ref a221)])) rfl rfl (hb hby at_273)
    have N267 := Fr.snoc X267 NZ257 gn221
    have Zs267 : n0 ≤ h267.size := Nat.le_trans Zs257 (Keep.of_wr W267).1
    obtain ⟨Lz267, XZ267, NZ267⟩ := own_pack X267 N267
    have V267 : Arv Z h267 a221 kA221 .int (3 : Int32) [(.int y0), (.int y1), (.int y2)] (.int (0 : Int32)) := Arv.set A267 q267 S267 M267 H267 U267 rfl W267 2 rfl (Nat.le_of_ble_eq_true rfl)
    have V268 : Arv Z h267 a59 kA59 .int (4 : Int32) vs66 (.int (0 : Int32)) := V258.other W267 ne_a59_a221
    have V269 : Arv Z h267 a67 kA67 .int (3 : Int32) [(.int v0), (.int v1), (.int v2)] (.int (0 : Int32)) := V259.other W267 ne_a67_a221
    have V270 : Arv Z h267 a75 kA75 .int (4 : Int32) [(.int d0), (.int d1), (.int d2), (.int d3)] (.int (0 : Int32)) := V260.other W267 ne_a75_a221
    have V271 : Arv Z h267 a90 kA90 .double (4 : Int32) [(.double (FP.i2d d0)), (.double (FP.i2d d1)), (.double (FP.i2d d2)), (.double (FP.i2d d3))] (.double (FP.l2d 0)) := V261.other W267 ne_a90_a221
    have V272 : Arv Z h267 a226 kA226 .double (3 : Int32) [(.double (FP.i2d v0)), (.double (FP.i2d v1))] (.double (FP.l2d 0)) := V257.other W267 ne_a221_a226.symm
    obtain ⟨c273, A273, q273, S273, M273, H273, U273⟩ := id V269
    have i273 := inb_of (j := (2 : Int32)) S273 ⟨by decide, by decide⟩
    have t273 := H273.at (v := (.int v2)) i273 rfl
    have V274p : Arv Z h267 a226 kA226 .double (3 : Int32) [(.double (FP.i2d v0)), (.double (FP.i2d v1)), (.double (FP.l2d 0))] (.double (FP.l2d 0)) := V272.pad (pad_rep [(.double (FP.i2d v0)), (.double (FP.i2d v1))] (.double (FP.l2d 0)) 1)
    obtain ⟨c274, A274, q274, S274, M274, H274, U274⟩ := id V274p
    obtain ⟨T274, h274, X274, e274, W274, st274⟩ := stD XZ267 hx hZ e267 A274 (j := (2 : Int32)) (inb_of S274 ⟨(by decide : ¬ ((2 : Int32) < (0 : Int32))), (by decide : (2 : Int32) < (3 : Int32))⟩) (g := (mkF m 282 #[.val (.int p1), .val (.long p2), .second, .val (.int d0), .val (.int d1), .val (.int d2), .val (.int d3), .val (.int (3 : Int32)), .val (.int rr), .val (.ref a59), .val (.ref a67), .val (.ref a75), .val (.ref a90), .val (.ref a221), .val (.ref a226), .val (.long (((0 : Int64) + (v0.toInt64 * ((own_at d0 d1 d2 d3 y0).toInt64))) + (v1.toInt64 * ((own_at d0 d1 d2 d3 y1).toInt64)))), .second, .unset, .unset, .unset] [(.double (FP.i2d v2)), (.int (2 : Int32)), (.ref a226)])) rfl rfl (hb hby at_282)
    have N274 := Fr.snoc X274 NZ267 gn226
    have Zs274 : n0 ≤ h274.size := Nat.le_trans Zs267 (Keep.of_wr W274).1
    obtain ⟨Lz274, XZ274, NZ274⟩ := own_pack X274 N274
    have V274 : Arv Z h274 a226 kA226 .double (3 : Int32) [(.double (FP.i2d v0)), (.double (FP.i2d v1)), (.double (FP.i2d v2))] (.double (FP.l2d 0)) := Arv.set A274 q274 S274 M274 H274 U274 rfl W274 2 rfl (Nat.le_of_ble_eq_true rfl)
    have V275 : Arv Z h274 a59 kA59 .int (4 : Int32) vs66 (.int (0 : Int32)) := V268.other W274 ne_a59_a226
    have V276 : Arv Z h274 a67 kA67 .int (3 : Int32) [(.int v0), (.int v1), (.int v2)] (.int (0 : Int32)) := V269.other W274 ne_a67_a226
    have V277 : Arv Z h274 a75 kA75 .int (4 : Int32) [(.int d0), (.int d1), (.int d2), (.int d3)] (.int (0 : Int32)) := V270.other W274 ne_a75_a226
    have V278 : Arv Z h274 a90 kA90 .double (4 : Int32) [(.double (FP.i2d d0)), (.double (FP.i2d d1)), (.double (FP.i2d d2)), (.double (FP.i2d d3))] (.double (FP.l2d 0)) := V271.other W274 ne_a90_a226
    have V279 : Arv Z h274 a221 kA221 .int (3 : Int32) [(.int y0), (.int y1), (.int y2)] (.int (0 : Int32)) := V267.other W274 ne_a221_a226
    obtain ⟨c280, A280, q280, S280, M280, H280, U280⟩ := id V276
    have i280 := inb_of (j := (2 : Int32)) S280 ⟨by decide, by decide⟩
    have t280 := H280.at (v := (.int v2)) i280 rfl
    obtain ⟨c281, A281, q281, S281, M281, H281, U281⟩ := id V275
    have i281 := inb_of (j := (2 : Int32)) S281 ⟨by decide, by decide⟩
    have t281 := H281.at (v := (.int y2)) i281 ey2
    obtain ⟨c282, A282, q282, S282, M282, H282, U282⟩ := id V277
    have i282 := inb_of (j := y2) S282 (own_ix by2.1 by2.2)
    have t282 := H282.at (v := (.int (own_at d0 d1 d2 d3 y2))) i282 (own_at_i by2.1 by2.2)
    obtain ⟨T283, h283, X283, e283, E283, A283, D283, -, st283⟩ := newO XZ274 hx hZ hown (hw _ (List.mem_of_getElem? (i := 6) rfl)) (hw _ (List.mem_of_getElem? (i := 7) rfl)) (hw _ (List.mem_of_getElem? (i := 8) rfl)) e274 (g := (mkF m 302 #[.val (.int p1), .val (.long p2), .second, .val (.int d0), .val (.int d1), .val (.int d2), .val (.int d3), .val (.int (3 : Int32)), .val (.int rr), .val (.ref a59), .val (.ref a67), .val (.ref a75), .val (.ref a90), .val (.ref a221), .val (.ref a226), .val (.long ((((0 : Int64) + (v0.toInt64 * ((own_at d0 d1 d2 d3 y0).toInt64))) + (v1.toInt64 * ((own_at d0 d1 d2 d3 y1).toInt64))) + (v2.toInt64 * ((own_at d0 d1 d2 d3 y2).toInt64)))), .second, .unset, .unset, .unset] [])) rfl (hb hby at_302) (by decide) (by decide)
    obtain ⟨a283, g283⟩ : ∃ z, z = h274.size := ⟨_, rfl⟩
    rw [← g283] at A283 D283 st283
    have Zs283 : n0 ≤ h283.size := Nat.le_trans Zs274 E283.1
    have gn283 : n0 ≤ a283 := Nat.le_trans Zs274 (Nat.le_of_eq g283.symm)
    have V284 : Arv Z h283 a59 kA59 .int (4 : Int32) vs66 (.int (0 : Int32)) := V275.ext E283
    have ne_a59_a283 : a59 ≠ a283 := Nat.ne_of_lt (Nat.lt_of_lt_of_le V275.lt (Nat.le_of_eq g283.symm))
    have V285 : Arv Z h283 a67 kA67 .int (3 : Int32) [(.int v0), (.int v1), (.int v2)] (.int (0 : Int32)) := V276.ext E283
    have ne_a67_a283 : a67 ≠ a283 := Nat.ne_of_lt (Nat.lt_of_lt_of_le V276.lt (Nat.le_of_eq g283.symm))
    have V286 : Arv Z h283 a75 kA75 .int (4 : Int32) [(.int d0), (.int d1), (.int d2), (.int d3)] (.int (0 : Int32)) := V277.ext E283
    have ne_a75_a283 : a75 ≠ a283 := Nat.ne_of_lt (Nat.lt_of_lt_of_le V277.lt (Nat.le_of_eq g283.symm))
    have V287 : Arv Z h283 a90 kA90 .double (4 : Int32) [(.double (FP.i2d d0)), (.double (FP.i2d d1)), (.double (FP.i2d d2)), (.double (FP.i2d d3))] (.double (FP.l2d 0)) := V278.ext E283
    have ne_a90_a283 : a90 ≠ a283 := Nat.ne_of_lt (Nat.lt_of_lt_of_le V278.lt (Nat.le_of_eq g283.symm))
    have V288 : Arv Z h283 a221 kA221 .int (3 : Int32) [(.int y0), (.int y1), (.int y2)] (.int (0 : Int32)) := V279.ext E283
    have ne_a221_a283 : a221 ≠ a283 := Nat.ne_of_lt (Nat.lt_of_lt_of_le V279.lt (Nat.le_of_eq g283.symm))
    have V289 : Arv Z h283 a226 kA226 .double (3 : Int32) [(.double (FP.i2d v0)), (.double (FP.i2d v1)), (.double (FP.i2d v2))] (.double (FP.l2d 0)) := V274.ext E283
    have ne_a226_a283 : a226 ≠ a283 := Nat.ne_of_lt (Nat.lt_of_lt_of_le V274.lt (Nat.le_of_eq g283.symm))
    obtain ⟨_, _, ⟨T290, L290, k290, n290⟩, -, X290, ⟨Lc290, hQ290, l290, y290, z290⟩, st290⟩ := X283.specialBack hx (y := (⟨"com/example/scentwalk/scentwalk/learn/SparseVector", "<init>", "([I[D)V"⟩ : MethodName)) rfl hown (mvT hZ (hw _ (List.mem_of_getElem? (i := 9) rfl))) (mvT hZ (hw _ (List.mem_of_getElem? (i := 10) rfl))) (mvT hZ (hw _ (List.mem_of_getElem? (i := 11) rfl))) (by decide) (backOf (W := 1) (rmN l Z a0 hw [] a283 a221 a226 h283 n0 Zs283 A283 (D283 (Or.inr (hw _ (List.mem_of_getElem? (i := 21) rfl))) (ty := (.array .int)) (by decide)) (D283 (Or.inr (hw _ (List.mem_of_getElem? (i := 23) rfl))) (ty := (.array .double)) (by decide)) gn283) hZ (hw _ (List.mem_of_getElem? (i := 11) rfl)) (hw _ (List.mem_of_getElem? (i := 8) rfl)) (by decide) (by decide)) (g := (mkF m 310 #[.val (.int p1), .val (.long p2), .second, .val (.int d0), .val (.int d1), .val (.int d2), .val (.int d3), .val (.int (3 : Int32)), .val (.int rr), .val (.ref a59), .val (.ref a67), .val (.ref a75), .val (.ref a90), .val (.ref a221), .val (.ref a226), .val (.long ((((0 : Int64) + (v0.toInt64 * ((own_at d0 d1 d2 d3 y0).toInt64))) + (v1.toInt64 * ((own_at d0 d1 d2 d3 y1).toInt64))) + (v2.toInt64 * ((own_at d0 d1 d2 d3 y2).toInt64)))), .second, .unset, .unset, .unset] [(.ref a226), (.ref a221), (.ref a283), (.ref a283)])) rfl (by rw [hml]; rfl) (Steps.refl _) (a := a283) (argsL := [(.ref a221), (.ref a226)]) (rest := [(.ref a283)]) (lenOf pd___I_D_V rfl) rfl (by show 2 * 0 + _ ≤ _; exact Nat.le_of_eq rfl) (hb hby at_310) (fun _ _ => ⟨rfl, e283, (by decide : 7 + 0 ≤ _), (by decide : 23 + 0 ≤ _)⟩)
    dsimp only [Pt.U, Pt.locs, Pt.cells, Pt.slots] at X290 l290 y290 z290 st290 hQ290
    rw [y290, z290] at X290
    obtain ⟨rfl, N290, K290, FI, FV⟩ := hQ290
    have NN290 : Fr n0 L290 := by rw [l290]; exact Fr.app NZ274 N290
    have Ec : Exa Z T290.heap a283 "com/example/scentwalk/scentwalk/learn/SparseVector" := A283.keep K290
    have Zc : n0 ≤ T290.heap.size := Nat.le_trans Zs283 K290.1
    have WI : Arv Z T290.heap a221 kA221 .int (3 : Int32) [(.int y0), (.int y1), (.int y2)] (.int (0 : Int32)) := V288.keep K290 (ninS ne_a221_a283 nin0)
    have WX : Arv Z T290.heap a226 kA226 .double (3 : Int32) [(.double (FP.i2d v0)), (.double (FP.i2d v1)), (.double (FP.i2d v2))] (.double (FP.l2d 0)) := V289.keep K290 (ninS ne_a226_a283 nin0)
    have WE : Arv Z T290.heap a90 kA90 .double (4 : Int32) [(.double (FP.i2d d0)), (.double (FP.i2d d1)), (.double (FP.i2d d2)), (.double (FP.i2d d3))] (.double (FP.l2d 0)) := V287.keep K290 (ninS ne_a90_a283 nin0)
    obtain ⟨hq, e_q⟩ : ∃ z, T290.heap = z := ⟨_, rfl⟩
    rw [e_q] at Ec Zc FI FV WI WX WE
    have I0 := own_zero
    obtain ⟨u0, w0, D0⟩ := own_term (d := own_at d0 d1 d2 d3 y0) bv0
    have I1 := FP.Core.dadd_int I0 D0 (by omega)
    obtain ⟨u1, w1, D1⟩ := own_term (d := own_at d0 d1 d2 d3 y1) bv1
    have I2 := FP.Core.dadd_int I1 D1 (by omega)
    obtain ⟨u2, w2, D2⟩ := own_term (d := own_at d0 d1 d2 d3 y2) bv2
    have I3 := FP.Core.dadd_int I2 D2 (by omega)
    obtain ⟨cq291, kq291, q291a, q291b, q291c⟩ := isOf hZ e_q Ec
    obtain ⟨_, _, ⟨T291, L291, k291, n291⟩, -, X291, ⟨Lc291, hQ291, l291, y291, z291⟩, st291⟩ := X290.virtualBack hx (y := (⟨"com/example/scentwalk/scentwalk/learn/SparseVector", "dot", "([D)D"⟩ : MethodName)) (z := (⟨"com/example/scentwalk/scentwalk/learn/SparseVector", "dot", "([D)D"⟩ : MethodName)) hown (mvT hZ (hw _ (List.mem_of_getElem? (i := 24) rfl))) (mvT hZ (hw _ (List.mem_of_getElem? (i := 25) rfl))) (notFace_of_selects (args := #[]) (mvT hZ (hw _ (List.mem_of_getElem? (i := 27) rfl)))) (mvT hZ (hw _ (List.mem_of_getElem? (i := 27) rfl))) (mvT hZ (hw _ (List.mem_of_getElem? (i := 26) rfl))) (by decide) (backOf (W := 0) (rmD3 l Z a0 hw [] a283 a90 a221 a226 kA221 kA226 kA90 _ y0 y1 y2 (FP.i2d v0) (FP.i2d v1) (FP.i2d v2) (FP.i2d (own_at d0 d1 d2 d3 y0)) (FP.i2d (own_at d0 d1 d2 d3 y1)) (FP.i2d (own_at d0 d1 d2 d3 y2)) hq n0 Zc FI FV WI WX WE by0 (own_at_d by0.1 by0.2) (own_nn D0) (own_nn I1) by1 (own_at_d by1.1 by1.2) (own_nn D1) (own_nn I2) by2 (own_at_d by2.1 by2.2) (own_nn D2) (own_nn I3)) hZ (hw _ (List.mem_of_getElem? (i := 28) rfl)) (hw _ (List.mem_of_getElem? (i := 8) rfl)) (by decide) (by decide)) q291a q291c (g := (mkF m 319 #[.val (.int p1), .val (.long p2), .second, .val (.int d0), .val (.int d1), .val (.int d2), .val (.int d3), .val (.int (3 : Int32)), .val (.int rr), .val (.ref a59), .val (.ref a67), .val (.ref a75), .val (.ref a90), .val (.ref a221), .val (.ref a226), .val (.long ((((0 : Int64) + (v0.toInt64 * ((own_at d0 d1 d2 d3 y0).toInt64))) + (v1.toInt64 * ((own_at d0 d1 d2 d3 y1).toInt64))) + (v2.toInt64 * ((own_at d0 d1 d2 d3 y2).toInt64)))), .second, .val (.ref a283), .unset, .unset] [(.ref a90), (.ref a283)])) rfl (by rw [hml]; rfl) (Steps.refl _) (argsL := [(.ref a90)]) (rest := []) (lenOf pd___D_D rfl) rfl (by show 2 * 0 + _ ≤ _; exact Nat.le_of_eq rfl) (hb hby at_319) (fun _ _ => ⟨rfl, e_q, (by decide : 7 + 0 ≤ _), (by decide : 23 + 0 ≤ _)⟩)
    dsimp only [Pt.U, Pt.locs, Pt.cells, Pt.slots] at X291 l291 y291 z291 st291 hQ291
    rw [y291, z291] at X291
    obtain ⟨rfl, N291, e291⟩ := hQ291
    have NN291 : Fr n0 L291 := by rw [l291]; exact Fr.app NN290 N291
    have ee : ((((0 : Int64) + (v0.toInt64 * ((own_at d0 d1 d2 d3 y0).toInt64))) + (v1.toInt64 * ((own_at d0 d1 d2 d3 y1).toInt64))) + (v2.toInt64 * ((own_at d0 d1 d2 d3 y2).toInt64))).toInt = 0 + v0.toInt * (own_at d0 d1 d2 d3 y0).toInt + v1.toInt * (own_at d0 d1 d2 d3 y1).toInt + v2.toInt * (own_at d0 d1 d2 d3 y2).toInt := by
      have z0 : (0 : Int64).toInt = 0 := rfl
      have a0 : ((0 : Int64) + (v0.toInt64 * (own_at d0 d1 d2 d3 y0).toInt64)).toInt = (0 : Int64).toInt + (v0.toInt64 * (own_at d0 d1 d2 d3 y0).toInt64).toInt := XT.add64 (by constructor <;> omega)
      have a1 : (((0 : Int64) + (v0.toInt64 * (own_at d0 d1 d2 d3 y0).toInt64)) + (v1.toInt64 * (own_at d0 d1 d2 d3 y1).toInt64)).toInt = ((0 : Int64) + (v0.toInt64 * (own_at d0 d1 d2 d3 y0).toInt64)).toInt + (v1.toInt64 * (own_at d0 d1 d2 d3 y1).toInt64).toInt := XT.add64 (by constructor <;> omega)
      have a2 : ((((0 : Int64) + (v0.toInt64 * (own_at d0 d1 d2 d3 y0).toInt64)) + (v1.toInt64 * (own_at d0 d1 d2 d3 y1).toInt64)) + (v2.toInt64 * (own_at d0 d1 d2 d3 y2).toInt64)).toInt = (((0 : Int64) + (v0.toInt64 * (own_at d0 d1 d2 d3 y0).toInt64)) + (v1.toInt64 * (own_at d0 d1 d2 d3 y1).toInt64)).toInt + (v2.toInt64 * (own_at d0 d1 d2 d3 y2).toInt64).toInt := XT.add64 (by constructor <;> omega)
      omega
    have IE := FP.Core.l2d_int (a := ((((0 : Int64) + (v0.toInt64 * ((own_at d0 d1 d2 d3 y0).toInt64))) + (v1.toInt64 * ((own_at d0 d1 d2 d3 y1).toInt64))) + (v2.toInt64 * ((own_at d0 d1 d2 d3 y2).toInt64)))) (by omega)
    have cs3_2 : Steps p.tables e below (s₁.setTop (entryFrame m #[(.int p1), (.long p2), (.int d0), (.int d1), (.int d2), (.int d3)] maxLocals)) (T291.setTop (mkF m 338 #[.val (.int p1), .val (.long p2), .second, .val (.int d0), .val (.int d1), .val (.int d2), .val (.int d3), .val (.int (3 : Int32)), .val (.int rr), .val (.ref a59), .val (.ref a67), .val (.ref a75), .val (.ref a90), .val (.ref a221), .val (.ref a226), .val (.long ((((0 : Int64) + (v0.toInt64 * ((own_at d0 d1 d2 d3 y0).toInt64))) + (v1.toInt64 * ((own_at d0 d1 d2 d3 y1).toInt64))) + (v2.toInt64 * ((own_at d0 d1 d2 d3 y2).toInt64)))), .second, .val (.ref a283), .val (.double (FP.dadd (FP.dadd (FP.dadd (0 : UInt64) (FP.dmul (FP.i2d v0) (FP.i2d (own_at d0 d1 d2 d3 y0)))) (FP.dmul (FP.i2d v1) (FP.i2d (own_at d0 d1 d2 d3 y1)))) (FP.dmul (FP.i2d v2) (FP.i2d (own_at d0 d1 d2 d3 y2))))), .second] [(.int (1 : Int32))])) := cc1.trans (by
      refine st221 _ ?_
      refine XS.astore X221.here hx rfl (hb hby at_166) rfl rfl (l' := #[.val (.int p1), .val (.long p2), .second, .val (.int d0), .val (.int d1), .val (.int d2), .val (.int d3), .val (.int (3 : Int32)), .val (.int rr), .val (.ref a59), .val (.ref a67), .val (.ref a75), .val (.ref a90), .val (.ref a221), .unset, .unset, .unset, .unset, .unset, .unset]) rfl ?_
      refine XS.iload X221.here hx rfl (hb hby at_168) rfl ?_
      refine st226 _ ?_
      refine XS.astore X226.here hx rfl (hb hby at_172) rfl rfl (l' := #[.val (.int p1), .val (.long p2), .second, .val (.int d0), .val (.int d1), .val (.int d2), .val (.int d3), .val (.int (3 : Int32)), .val (.int rr), .val (.ref a59), .val (.ref a67), .val (.ref a75), .val (.ref a90), .val (.ref a221), .val (.ref a226), .unset, .unset, .unset, .unset, .unset]) rfl ?_
      refine XT.lconstV X226.here hx rfl ((0 : Int64)) (hb hby at_174) (by decide) ?_
      refine XT.lstore X226.here hx rfl (hb hby at_175) rfl (l' := #[.val (.int p1), .val (.long p2), .second, .val (.int d0), .val (.int d1), .val (.int d2), .val (.int d3), .val (.int (3 : Int32)), .val (.int rr), .val (.ref a59), .val (.ref a67), .val (.ref a75), .val (.ref a90), .val (.ref a221), .val (.ref a226), .val (.long (0 : Int64)), .second, .unset, .unset, .unset]) rfl ?_
      refine XS.iload X226.here hx rfl (hb hby at_177) rfl ?_
      refine XS.ifNo X226.here hx rfl (hb hby at_179) rfl (XT.i0_le_f (by decide)) ?_
      refine XS.aload X226.here hx rfl (hb hby at_182) rfl rfl ?_
      refine XT.iconstV X226.here hx rfl ((0 : Int32)) (hb hby at_184) (by decide) ?_
      refine XS.aload X226.here hx rfl (hb hby at_185) rfl rfl ?_
      refine XT.iconstV X226.here hx rfl ((0 : Int32)) (hb hby at_187) (by decide) ?_
      refine X226.iaload hx (j := (0 : Int32)) (v := (.int y0)) (by rw [e226]; exact A232.1) (State.isArrayOf_alike hZ.alike A232.2.1) A232.2.2 i232 t232 (g := (mkF m 188 #[.val (.int p1), .val (.long p2), .second, .val (.int d0), .val (.int d1), .val (.int d2), .val (.int d3), .val (.int (3 : Int32)), .val (.int rr), .val (.ref a59), .val (.ref a67), .val (.ref a75), .val (.ref a90), .val (.ref a221), .val (.ref a226), .val (.long (0 : Int64)), .second, .unset, .unset, .unset] [(.int (0 : Int32)), (.ref a59), (.int (0 : Int32)), (.ref a221)])) rfl rfl (hb hby at_188) _ ?_
      show Steps p.tables e below (T226.setTop (mkF m 189 #[.val (.int p1), .val (.long p2), .second, .val (.int d0), .val (.int d1), .val (.int d2), .val (.int d3), .val (.int (3 : Int32)), .val (.int rr), .val (.ref a59), .val (.ref a67), .val (.ref a75), .val (.ref a90), .val (.ref a221), .val (.ref a226), .val (.long (0 : Int64)), .second, .unset, .unset, .unset] [(.int y0), (.int (0 : Int32)), (.ref a221)])) _
      refine st233 _ ?_
      refine XS.aload XZ233.here hx rfl (hb hby at_190) rfl rfl ?_
      refine XT.iconstV XZ233.here hx rfl ((0 : Int32)) (hb hby at_192) (by decide) ?_
      refine XS.aload XZ233.here hx rfl (hb hby at_193) rfl rfl ?_
      refine XT.iconstV XZ233.here hx rfl ((0 : Int32)) (hb hby at_195) (by decide) ?_
      refine XZ233.iaload hx (j := (0 : Int32)) (v := (.int v0)) (by rw [e233]; exact A239.1) (State.isArrayOf_alike hZ.alike A239.2.1) A239.2.2 i239 t239 (g := (mkF m 196 #[.val (.int p1), .val (.long p2), .second, .val (.int d0), .val (.int d1), .val (.int d2), .val (.int d3), .val (.int (3 : Int32)), .val (.int rr), .val (.ref a59), .val (.ref a67), .val (.ref a75), .val (.ref a90), .val (.ref a221), .val (.ref a226), .val (.long (0 : Int64)), .second, .unset, .unset, .unset] [(.int (0 : Int32)), (.ref a67), (.int (0 : Int32)), (.ref a226)])) rfl rfl (hb hby at_196) _ ?_
      show Steps p.tables e below (T233.setTop (mkF m 197 #[.val (.int p1), .val (.long p2), .second, .val (.int d0), .val (.int d1), .val (.int d2), .val (.int d3), .val (.int (3 : Int32)), .val (.int rr), .val (.ref a59), .val (.ref a67), .val (.ref a75), .val (.ref a90), .val (.ref a221), .val (.ref a226), .val (.long (0 : Int64)), .second, .unset, .unset, .unset] [(.int v0), (.int (0 : Int32)), (.ref a226)])) _
      refine XS.i2dS XZ233.here hx rfl (hb hby at_197) rfl rfl ?_
      refine st240 _ ?_
      refine XT.lload XZ240.here hx rfl (hb hby at_199) rfl ?_
      refine XS.aload XZ240.here hx rfl (hb hby at_201) rfl rfl ?_
      refine XT.iconstV XZ240.here hx rfl ((0 : Int32)) (hb hby at_203) (by decide) ?_
      refine XZ240.iaload hx (j := (0 : Int32)) (v := (.int v0)) (by rw [e240]; exact A246.1) (State.isArrayOf_alike hZ.alike A246.2.1) A246.2.2 i246 t246 (g := (mkF m 204 #[.val (.int p1), .val (.long p2), .second, .val (.int d0), .val (.int d1), .val (.int d2), .val (.int d3), .val (.int (3 : Int32)), .val (.int rr), .val (.ref a59), .val (.ref a67), .val (.ref a75), .val (.ref a90), .val (.ref a221), .val (.ref a226), .val (.long (0 : Int64)), .second, .unset, .unset, .unset] [(.int (0 : Int32)), (.ref a67), (.long (0 : Int64))])) rfl rfl (hb hby at_204) _ ?_
      show Steps p.tables e below (T240.setTop (mkF m 205 #[.val (.int p1), .val (.long p2), .second, .val (.int d0), .val (.int d1), .val (.int d2), .val (.int d3), .val (.int (3 : Int32)), .val (.int rr), .val (.ref a59), .val (.ref a67), .val (.ref a75), .val (.ref a90), .val (.ref a221), .val (.ref a226), .val (.long (0 : Int64)), .second, .unset, .unset, .unset] [(.int v0), (.long (0 : Int64))])) _
      refine XT.i2l XZ240.here hx rfl (hb hby at_205) rfl ?_
      refine XS.aload XZ240.here hx rfl (hb hby at_206) rfl rfl ?_
      refine XS.aload XZ240.here hx rfl (hb hby at_208) rfl rfl ?_
      refine XT.iconstV XZ240.here hx rfl ((0 : Int32)) (hb hby at_210) (by decide) ?_
      refine XZ240.iaload hx (j := (0 : Int32)) (v := (.int y0)) (by rw [e240]; exact A247.1) (State.isArrayOf_alike hZ.alike A247.2.1) A247.2.2 i247 t247 (g := (mkF m 211 #[.val (.int p1), .val (.long p2), .second, .val (.int d0), .val (.int d1), .val (.int d2), .val (.int d3), .val (.int (3 : Int32)), .val (.int rr), .val (.ref a59), .val (.ref a67), .val (.ref a75), .val (.ref a90), .val (.ref a221), .val (.ref a226), .val (.long (0 : Int64)), .second, .unset, .unset, .unset] [(.int (0 : Int32)), (.ref a59), (.ref a75), (.long v0.toInt64), (.long (0 : Int64))])) rfl rfl (hb hby at_211) _ ?_
      show Steps p.tables e below (T240.setTop (mkF m 212 #[.val (.int p1), .val (.long p2), .second, .val (.int d0), .val (.int d1), .val (.int d2), .val (.int d3), .val (.int (3 : Int32)), .val (.int rr), .val (.ref a59), .val (.ref a67), .val (.ref a75), .val (.ref a90), .val (.ref a221), .val (.ref a226), .val (.long (0 : Int64)), .second, .unset, .unset, .unset] [(.int y0), (.ref a75), (.long v0.toInt64), (.long (0 : Int64))])) _
      refine XZ240.iaload hx (j := y0) (v := (.int (own_at d0 d1 d2 d3 y0))) (by rw [e240]; exact A248.1) (State.isArrayOf_alike hZ.alike A248.2.1) A248.2.2 i248 t248 (g := (mkF m 212 #[.val (.int p1), .val (.long p2), .second, .val (.int d0), .val (.int d1), .val (.int d2), .val (.int d3), .val (.int (3 : Int32)), .val (.int rr), .val (.ref a59), .val (.ref a67), .val (.ref a75), .val (.ref a90), .val (.ref a221), .val (.ref a226), .val (.long (0 : Int64)), .second, .unset, .unset, .unset] [(.int y0), (.ref a75), (.long v0.toInt64), (.long (0 : Int64))])) rfl rfl (hb hby at_212) _ ?_
      show Steps p.tables e below (T240.setTop (mkF m 213 #[.val (.int p1), .val (.long p2), .second, .val (.int d0), .val (.int d1), .val (.int d2), .val (.int d3), .val (.int (3 : Int32)), .val (.int rr), .val (.ref a59), .val (.ref a67), .val (.ref a75), .val (.ref a90), .val (.ref a221), .val (.ref a226), .val (.long (0 : Int64)), .second, .unset, .unset, .unset] [(.int (own_at d0 d1 d2 d3 y0)), (.long v0.toInt64), (.long (0 : Int64))])) _
      refine XT.i2l XZ240.here hx rfl (hb hby at_213) rfl ?_
      refine XT.lmul XZ240.here hx rfl (hb hby at_214) rfl ?_
      refine XT.ladd XZ240.here hx rfl (hb hby at_215) rfl ?_
      refine XT.lstore XZ240.here hx rfl (hb hby at_216) rfl (l' := #[.val (.int p1), .val (.long p2), .second, .val (.int d0), .val (.int d1), .val (.int d2), .val (.int d3), .val (.int (3 : Int32)), .val (.int rr), .val (.ref a59), .val (.ref a67), .val (.ref a75), .val (.ref a90), .val (.ref a221), .val (.ref a226), .val (.long ((0 : Int64) + (v0.toInt64 * ((own_at d0 d1 d2 d3 y0).toInt64)))), .second, .unset, .unset, .unset]) rfl ?_
      refine XS.iload XZ240.here hx rfl (hb hby at_218) rfl ?_
      refine XT.iconstV XZ240.here hx rfl ((1 : Int32)) (hb hby at_220) (by decide) ?_
      refine XS.icmpNo XZ240.here hx rfl (hb hby at_221) rfl (XT.ii_le_f (by decide)) ?_
      refine XS.aload XZ240.here hx rfl (hb hby at_224) rfl rfl ?_
      refine XT.iconstV XZ240.here hx rfl ((1 : Int32)) (hb hby at_226) (by decide) ?_
      refine XS.aload XZ240.here hx rfl (hb hby at_227) rfl rfl ?_
      refine XT.iconstV XZ240.here hx rfl ((1 : Int32)) (hb hby at_229) (by decide) ?_
      refine XZ240.iaload hx (j := (1 : Int32)) (v := (.int y1)) (by rw [e240]; exact A249.1) (State.isArrayOf_alike hZ.alike A249.2.1) A249.2.2 i249 t249 (g := (mkF m 230 #[.val (.int p1), .val (.long p2), .second, .val (.int d0), .val (.int d1), .val (.int d2), .val (.int d3), .val (.int (3 : Int32)), .val (.int rr), .val (.ref a59), .val (.ref a67), .val (.ref a75), .val (.ref a90), .val (.ref a221), .val (.ref a226), .val (.long ((0 : Int64) + (v0.toInt64 * ((own_at d0 d1 d2 d3 y0).toInt64)))), .second, .unset, .unset, .unset] [(.int (1 : Int32)), (.ref a59), (.int (1 : Int32)), (.ref a221)])) rfl rfl (hb hby at_230) _ ?_
      show Steps p.tables e below (T240.setTop (mkF m 231 #[.val (.int p1), .val (.long p2), .second, .val (.int d0), .val (.int d1), .val (.int d2), .val (.int d3), .val (.int (3 : Int32)), .val (.int rr), .val (.ref a59), .val (.ref a67), .val (.ref a75), .val (.ref a90), .val (.ref a221), .val (.ref a226), .val (.long ((0 : Int64) + (v0.toInt64 * ((own_at d0 d1 d2 d3 y0).toInt64)))), .second, .unset, .unset, .unset] [(.int y1), (.int (1 : Int32)), (.ref a221)])) _
      refine st250 _ ?_
      refine XS.aload XZ250.here hx rfl (hb hby at_232) rfl rfl ?_
      refine XT.iconstV XZ250.here hx rfl ((1 : Int32)) (hb hby at_234) (by decide) ?_
      refine XS.aload XZ250.here hx rfl (hb hby at_235) rfl rfl ?_
      refine XT.iconstV XZ250.here hx rfl ((1 : Int32)) (hb hby at_237) (by decide) ?_
      refine XZ250.iaload hx (j := (1 : Int32)) (v := (.int v1)) (by rw [e250]; exact A256.1) (State.isArrayOf_alike hZ.alike A256.2.1) A256.2.2 i256 t256 (g := (mkF m 238 #[.val (.int p1), .val (.long p2), .second, .val (.int d0), .val (.int d1), .val (.int d2), .val (.int d3), .val (.int (3 : Int32)), .val (.int rr), .val (.ref a59), .val (.ref a67), .val (.ref a75), .val (.ref a90), .val (.ref a221), .val (.ref a226), .val (.long ((0 : Int64) + (v0.toInt64 * ((own_at d0 d1 d2 d3 y0).toInt64)))), .second, .unset, .unset, .unset] [(.int (1 : Int32)), (.ref a67), (.int (1 : Int32)), (.ref a226)])) rfl rfl (hb hby at_238) _ ?_
      show Steps p.tables e below (T250.setTop (mkF m 239 #[.val (.int p1), .val (.long p2), .second, .val (.int d0), .val (.int d1), .val (.int d2), .val (.int d3), .val (.int (3 : Int32)), .val (.int rr), .val (.ref a59), .val (.ref a67), .val (.ref a75), .val (.ref a90), .val (.ref a221), .val (.ref a226), .val (.long ((0 : Int64) + (v0.toInt64 * ((own_at d0 d1 d2 d3 y0).toInt64)))), .second, .unset, .unset, .unset] [(.int v1), (.int (1 : Int32)), (.ref a226)])) _
      refine XS.i2dS XZ250.here hx rfl (hb hby at_239) rfl rfl ?_
      refine st257 _ ?_
      refine XT.lload XZ257.here hx rfl (hb hby at_241) rfl ?_
      refine XS.aload XZ257.here hx rfl (hb hby at_243) rfl rfl ?_
      refine XT.iconstV XZ257.here hx rfl ((1 : Int32)) (hb hby at_245) (by decide) ?_
      refine XZ257.iaload hx (j := (1 : Int32)) (v := (.int v1)) (by rw [e257]; exact A263.1) (State.isArrayOf_alike hZ.alike A263.2.1) A263.2.2 i263 t263 (g := (mkF m 246 #[.val (.int p1), .val (.long p2), .second, .val (.int d0), .val (.int d1), .val (.int d2), .val (.int d3), .val (.int (3 : Int32)), .val (.int rr), .val (.ref a59), .val (.ref a67), .val (.ref a75), .val (.ref a90), .val (.ref a221), .val (.ref a226), .val (.long ((0 : Int64) + (v0.toInt64 * ((own_at d0 d1 d2 d3 y0).toInt64)))), .second, .unset, .unset, .unset] [(.int (1 : Int32)), (.ref a67), (.long ((0 : Int64) + (v0.toInt64 * ((own_at d0 d1 d2 d3 y0).toInt64))))])) rfl rfl (hb hby at_246) _ ?_
      show Steps p.tables e below (T257.setTop (mkF m 247 #[.val (.int p1), .val (.long p2), .second, .val (.int d0), .val (.int d1), .val (.int d2), .val (.int d3), .val (.int (3 : Int32)), .val (.int rr), .val (.ref a59), .val (.ref a67), .val (.ref a75), .val (.ref a90), .val (.ref a221), .val (.ref a226), .val (.long ((0 : Int64) + (v0.toInt64 * ((own_at d0 d1 d2 d3 y0).toInt64)))), .second, .unset, .unset, .unset] [(.int v1), (.long ((0 : Int64) + (v0.toInt64 * ((own_at d0 d1 d2 d3 y0).toInt64))))])) _
      refine XT.i2l XZ257.here hx rfl (hb hby at_247) rfl ?_
      refine XS.aload XZ257.here hx rfl (hb hby at_248) rfl rfl ?_
      refine XS.aload XZ257.here hx rfl (hb hby at_250) rfl rfl ?_
      refine XT.iconstV XZ257.here hx rfl ((1 : Int32)) (hb hby at_252) (by decide) ?_
      refine XZ257.iaload hx (j := (1 : Int32)) (v := (.int y1)) (by rw [e257]; exact A264.1) (State.isArrayOf_alike hZ.alike A264.2.1) A264.2.2 i264 t264 (g := (mkF m 253 #[.val (.int p1), .val (.long p2), .second, .val (.int d0), .val (.int d1), .val (.int d2), .val (.int d3), .val (.int (3 : Int32)), .val (.int rr), .val (.ref a59), .val (.ref a67), .val (.ref a75), .val (.ref a90), .val (.ref a221), .val (.ref a226), .val (.long ((0 : Int64) + (v0.toInt64 * ((own_at d0 d1 d2 d3 y0).toInt64)))), .second, .unset, .unset, .unset] [(.int (1 : Int32)), (.ref a59), (.ref a75), (.long v1.toInt64), (.long ((0 : Int64) + (v0.toInt64 * ((own_at d0 d1 d2 d3 y0).toInt64))))])) rfl rfl (hb hby at_253) _ ?_
      show Steps p.tables e below (T257.setTop (mkF m 254 #[.val (.int p1), .val (.long p2), .second, .val (.int d0), .val (.int d1), .val (.int d2), .val (.int d3), .val (.int (3 : Int32)), .val (.int rr), .val (.ref a59), .val (.ref a67), .val (.ref a75), .val (.ref a90), .val (.ref a221), .val (.ref a226), .val (.long ((0 : Int64) + (v0.toInt64 * ((own_at d0 d1 d2 d3 y0).toInt64)))), .second, .unset, .unset, .unset] [(.int y1), (.ref a75), (.long v1.toInt64), (.long ((0 : Int64) + (v0.toInt64 * ((own_at d0 d1 d2 d3 y0).toInt64))))])) _
      refine XZ257.iaload hx (j := y1) (v := (.int (own_at d0 d1 d2 d3 y1))) (by rw [e257]; exact A265.1) (State.isArrayOf_alike hZ.alike A265.2.1) A265.2.2 i265 t265 (g := (mkF m 254 #[.val (.int p1), .val (.long p2), .second, .val (.int d0), .val (.int d1), .val (.int d2), .val (.int d3), .val (.int (3 : Int32)), .val (.int rr), .val (.ref a59), .val (.ref a67), .val (.ref a75), .val (.ref a90), .val (.ref a221), .val (.ref a226), .val (.long ((0 : Int64) + (v0.toInt64 * ((own_at d0 d1 d2 d3 y0).toInt64)))), .second, .unset, .unset, .unset] [(.int y1), (.ref a75), (.long v1.toInt64), (.long ((0 : Int64) + (v0.toInt64 * ((own_at d0 d1 d2 d3 y0).toInt64))))])) rfl rfl (hb hby at_254) _ ?_
      show Steps p.tables e below (T257.setTop (mkF m 255 #[.val (.int p1), .val (.long p2), .second, .val (.int d0), .val (.int d1), .val (.int d2), .val (.int d3), .val (.int (3 : Int32)), .val (.int rr), .val (.ref a59), .val (.ref a67), .val (.ref a75), .val (.ref a90), .val (.ref a221), .val (.ref a226), .val (.long ((0 : Int64) + (v0.toInt64 * ((own_at d0 d1 d2 d3 y0).toInt64)))), .second, .unset, .unset, .unset] [(.int (own_at d0 d1 d2 d3 y1)), (.long v1.toInt64), (.long ((0 : Int64) + (v0.toInt64 * ((own_at d0 d1 d2 d3 y0).toInt64))))])) _
      refine XT.i2l XZ257.here hx rfl (hb hby at_255) rfl ?_
      refine XT.lmul XZ257.here hx rfl (hb hby at_256) rfl ?_
      refine XT.ladd XZ257.here hx rfl (hb hby at_257) rfl ?_
      refine XT.lstore XZ257.here hx rfl (hb hby at_258) rfl (l' := #[.val (.int p1), .val (.long p2), .second, .val (.int d0), .val (.int d1), .val (.int d2), .val (.int d3), .val (.int (3 : Int32)), .val (.int rr), .val (.ref a59), .val (.ref a67), .val (.ref a75), .val (.ref a90), .val (.ref a221), .val (.ref a226), .val (.long (((0 : Int64) + (v0.toInt64 * ((own_at d0 d1 d2 d3 y0).toInt64))) + (v1.toInt64 * ((own_at d0 d1 d2 d3 y1).toInt64)))), .second, .unset, .unset, .unset]) rfl ?_
      refine XS.iload XZ257.here hx rfl (hb hby at_260) rfl ?_
      refine XT.iconstV XZ257.here hx rfl ((2 : Int32)) (hb hby at_262) (by decide) ?_
      refine XS.icmpNo XZ257.here hx rfl (hb hby at_263) rfl (XT.ii_le_f (by decide)) ?_
      refine XS.aload XZ257.here hx rfl (hb hby at_266) rfl rfl ?_
      refine XT.iconstV XZ257.here hx rfl ((2 : Int32)) (hb hby at_268) (by decide) ?_
      refine XS.aload XZ257.here hx rfl (hb hby at_269) rfl rfl ?_
      refine XT.iconstV XZ257.here hx rfl ((2 : Int32)) (hb hby at_271) (by decide) ?_
      refine XZ257.iaload hx (j := (2 : Int32)) (v := (.int y2)) (by rw [e257]; exact A266.1) (State.isArrayOf_alike hZ.alike A266.2.1) A266.2.2 i266 t266 (g := (mkF m 272 #[.val (.int p1), .val (.long p2), .second, .val (.int d0), .val (.int d1), .val (.int d2), .val (.int d3), .val (.int (3 : Int32)), .val (.int rr), .val (.ref a59), .val (.ref a67), .val (.ref a75), .val (.ref a90), .val (.ref a221), .val (.ref a226), .val (.long (((0 : Int64) + (v0.toInt64 * ((own_at d0 d1 d2 d3 y0).toInt64))) + (v1.toInt64 * ((own_at d0 d1 d2 d3 y1).toInt64)))), .second, .unset, .unset, .unset] [(.int (2 : Int32)), (.ref a59), (.int (2 : Int32)), (.ref a221)])) rfl rfl (hb hby at_272) _ ?_
      show Steps p.tables e below (T257.setTop (mkF m 273 #[.val (.int p1), .val (.long p2), .second, .val (.int d0), .val (.int d1), .val (.int d2), .val (.int d3), .val (.int (3 : Int32)), .val (.int rr), .val (.ref a59), .val (.ref a67), .val (.ref a75), .val (.ref a90), .val (.ref a221), .val (.ref a226), .val (.long (((0 : Int64) + (v0.toInt64 * ((own_at d0 d1 d2 d3 y0).toInt64))) + (v1.toInt64 * ((own_at d0 d1 d2 d3 y1).toInt64)))), .second, .unset, .unset, .unset] [(.int y2), (.int (2 : Int32)), (.ref a221)])) _
      refine st267 _ ?_
      refine XS.aload XZ267.here hx rfl (hb hby at_274) rfl rfl ?_
      refine XT.iconstV XZ267.here hx rfl ((2 : Int32)) (hb hby at_276) (by decide) ?_
      refine XS.aload XZ267.here hx rfl (hb hby at_277) rfl rfl ?_
      refine XT.iconstV XZ267.here hx rfl ((2 : Int32)) (hb hby at_279) (by decide) ?_
      refine XZ267.iaload hx (j := (2 : Int32)) (v := (.int v2)) (by rw [e267]; exact A273.1) (State.isArrayOf_alike hZ.alike A273.2.1) A273.2.2 i273 t273 (g := (mkF m 280 #[.val (.int p1), .val (.long p2), .second, .val (.int d0), .val (.int d1), .val (.int d2), .val (.int d3), .val (.int (3 : Int32)), .val (.int rr), .val (.ref a59), .val (.ref a67), .val (.ref a75), .val (.ref a90), .val (.ref a221), .val (.ref a226), .val (.long (((0 : Int64) + (v0.toInt64 * ((own_at d0 d1 d2 d3 y0).toInt64))) + (v1.toInt64 * ((own_at d0 d1 d2 d3 y1).toInt64)))), .second, .unset, .unset, .unset] [(.int (2 : Int32)), (.ref a67), (.int (2 : Int32)), (.ref a226)])) rfl rfl (hb hby at_280) _ ?_
      show Steps p.tables e below (T267.setTop (mkF m 281 #[.val (.int p1), .val (.long p2), .second, .val (.int d0), .val (.int d1), .val (.int d2), .val (.int d3), .val (.int (3 : Int32)), .val (.int rr), .val (.ref a59), .val (.ref a67), .val (.ref a75), .val (.ref a90), .val (.ref a221), .val (.ref a226), .val (.long (((0 : Int64) + (v0.toInt64 * ((own_at d0 d1 d2 d3 y0).toInt64))) + (v1.toInt64 * ((own_at d0 d1 d2 d3 y1).toInt64)))), .second, .unset, .unset, .unset] [(.int v2), (.int (2 : Int32)), (.ref a226)])) _
      refine XS.i2dS XZ267.here hx rfl (hb hby at_281) rfl rfl ?_
      refine st274 _ ?_
      refine XT.lload XZ274.here hx rfl (hb hby at_283) rfl ?_
      refine XS.aload XZ274.here hx rfl (hb hby at_285) rfl rfl ?_
      refine XT.iconstV XZ274.here hx rfl ((2 : Int32)) (hb hby at_287) (by decide) ?_
      refine XZ274.iaload hx (j := (2 : Int32)) (v := (.int v2)) (by rw [e274]; exact A280.1) (State.isArrayOf_alike hZ.alike A280.2.1) A280.2.2 i280 t280 (g := (mkF m 288 #[.val (.int p1), .val (.long p2), .second, .val (.int d0), .val (.int d1), .val (.int d2), .val (.int d3), .val (.int (3 : Int32)), .val (.int rr), .val (.ref a59), .val (.ref a67), .val (.ref a75), .val (.ref a90), .val (.ref a221), .val (.ref a226), .val (.long (((0 : Int64) + (v0.toInt64 * ((own_at d0 d1 d2 d3 y0).toInt64))) + (v1.toInt64 * ((own_at d0 d1 d2 d3 y1).toInt64)))), .second, .unset, .unset, .unset] [(.int (2 : Int32)), (.ref a67), (.long (((0 : Int64) + (v0.toInt64 * ((own_at d0 d1 d2 d3 y0).toInt64))) + (v1.toInt64 * ((own_at d0 d1 d2 d3 y1).toInt64))))])) rfl rfl (hb hby at_288) _ ?_
      show Steps p.tables e below (T274.setTop (mkF m 289 #[.val (.int p1), .val (.long p2), .second, .val (.int d0), .val (.int d1), .val (.int d2), .val (.int d3), .val (.int (3 : Int32)), .val (.int rr), .val (.ref a59), .val (.ref a67), .val (.ref a75), .val (.ref a90), .val (.ref a221), .val (.ref a226), .val (.long (((0 : Int64) + (v0.toInt64 * ((own_at d0 d1 d2 d3 y0).toInt64))) + (v1.toInt64 * ((own_at d0 d1 d2 d3 y1).toInt64)))), .second, .unset, .unset, .unset] [(.int v2), (.long (((0 : Int64) + (v0.toInt64 * ((own_at d0 d1 d2 d3 y0).toInt64))) + (v1.toInt64 * ((own_at d0 d1 d2 d3 y1).toInt64))))])) _
      refine XT.i2l XZ274.here hx rfl (hb hby at_289) rfl ?_
      refine XS.aload XZ274.here hx rfl (hb hby at_290) rfl rfl ?_
      refine XS.aload XZ274.here hx rfl (hb hby at_292) rfl rfl ?_
      refine XT.iconstV XZ274.here hx rfl ((2 : Int32)) (hb hby at_294) (by decide) ?_
      refine XZ274.iaload hx (j := (2 : Int32)) (v := (.int y2)) (by rw [e274]; exact A281.1) (State.isArrayOf_alike hZ.alike A281.2.1) A281.2.2 i281 t281 (g := (mkF m 295 #[.val (.int p1), .val (.long p2), .second, .val (.int d0), .val (.int d1), .val (.int d2), .val (.int d3), .val (.int (3 : Int32)), .val (.int rr), .val (.ref a59), .val (.ref a67), .val (.ref a75), .val (.ref a90), .val (.ref a221), .val (.ref a226), .val (.long (((0 : Int64) + (v0.toInt64 * ((own_at d0 d1 d2 d3 y0).toInt64))) + (v1.toInt64 * ((own_at d0 d1 d2 d3 y1).toInt64)))), .second, .unset, .unset, .unset] [(.int (2 : Int32)), (.ref a59), (.ref a75), (.long v2.toInt64), (.long (((0 : Int64) + (v0.toInt64 * ((own_at d0 d1 d2 d3 y0).toInt64))) + (v1.toInt64 * ((own_at d0 d1 d2 d3 y1).toInt64))))])) rfl rfl (hb hby at_295) _ ?_
      show Steps p.tables e below (T274.setTop (mkF m 296 #[.val (.int p1), .val (.long p2), .second, .val (.int d0), .val (.int d1), .val (.int d2), .val (.int d3), .val (.int (3 : Int32)), .val (.int rr), .val (.ref a59), .val (.ref a67), .val (.ref a75), .val (.ref a90), .val (.ref a221), .val (.ref a226), .val (.long (((0 : Int64) + (v0.toInt64 * ((own_at d0 d1 d2 d3 y0).toInt64))) + (v1.toInt64 * ((own_at d0 d1 d2 d3 y1).toInt64)))), .second, .unset, .unset, .unset] [(.int y2), (.ref a75), (.long v2.toInt64), (.long (((0 : Int64) + (v0.toInt64 * ((own_at d0 d1 d2 d3 y0).toInt64))) + (v1.toInt64 * ((own_at d0 d1 d2 d3 y1).toInt64))))])) _
      refine XZ274.iaload hx (j := y2) (v := (.int (own_at d0 d1 d2 d3 y2))) (by rw [e274]; exact A282.1) (State.isArrayOf_alike hZ.alike A282.2.1) A282.2.2 i282 t282 (g := (mkF m 296 #[.val (.int p1), .val (.long p2), .second, .val (.int d0), .val (.int d1), .val (.int d2), .val (.int d3), .val (.int (3 : Int32)), .val (.int rr), .val (.ref a59), .val (.ref a67), .val (.ref a75), .val (.ref a90), .val (.ref a221), .val (.ref a226), .val (.long (((0 : Int64) + (v0.toInt64 * ((own_at d0 d1 d2 d3 y0).toInt64))) + (v1.toInt64 * ((own_at d0 d1 d2 d3 y1).toInt64)))), .second, .unset, .unset, .unset] [(.int y2), (.ref a75), (.long v2.toInt64), (.long (((0 : Int64) + (v0.toInt64 * ((own_at d0 d1 d2 d3 y0).toInt64))) + (v1.toInt64 * ((own_at d0 d1 d2 d3 y1).toInt64))))])) rfl rfl (hb hby at_296) _ ?_
      show Steps p.tables e below (T274.setTop (mkF m 297 #[.val (.int p1), .val (.long p2), .second, .val (.int d0), .val (.int d1), .val (.int d2), .val (.int d3), .val (.int (3 : Int32)), .val (.int rr), .val (.ref a59), .val (.ref a67), .val (.ref a75), .val (.ref a90), .val (.ref a221), .val (.ref a226), .val (.long (((0 : Int64) + (v0.toInt64 * ((own_at d0 d1 d2 d3 y0).toInt64))) + (v1.toInt64 * ((own_at d0 d1 d2 d3 y1).toInt64)))), .second, .unset, .unset, .unset] [(.int (own_at d0 d1 d2 d3 y2)), (.long v2.toInt64), (.long (((0 : Int64) + (v0.toInt64 * ((own_at d0 d1 d2 d3 y0).toInt64))) + (v1.toInt64 * ((own_at d0 d1 d2 d3 y1).toInt64))))])) _
      refine XT.i2l XZ274.here hx rfl (hb hby at_297) rfl ?_
      refine XT.lmul XZ274.here hx rfl (hb hby at_298) rfl ?_
      refine XT.ladd XZ274.here hx rfl (hb hby at_299) rfl ?_
      refine XT.lstore XZ274.here hx rfl (hb hby at_300) rfl (l' := #[.val (.int p1), .val (.long p2), .second, .val (.int d0), .val (.int d1), .val (.int d2), .val (.int d3), .val (.int (3 : Int32)), .val (.int rr), .val (.ref a59), .val (.ref a67), .val (.ref a75), .val (.ref a90), .val (.ref a221), .val (.ref a226), .val (.long ((((0 : Int64) + (v0.toInt64 * ((own_at d0 d1 d2 d3 y0).toInt64))) + (v1.toInt64 * ((own_at d0 d1 d2 d3 y1).toInt64))) + (v2.toInt64 * ((own_at d0 d1 d2 d3 y2).toInt64)))), .second, .unset, .unset, .unset]) rfl ?_
      refine st283 _ ?_
      refine XS.dup X283.here hx rfl (hb hby at_305) rfl rfl ?_
      refine XS.aload X283.here hx rfl (hb hby at_306) rfl rfl ?_
      refine XS.aload X283.here hx rfl (hb hby at_308) rfl rfl ?_
      refine st290.trans ?_
      show Steps p.tables e below (T290.setTop (mkF m 313 #[.val (.int p1), .val (.long p2), .second, .val (.int d0), .val (.int d1), .val (.int d2), .val (.int d3), .val (.int (3 : Int32)), .val (.int rr), .val (.ref a59), .val (.ref a67), .val (.ref a75), .val (.ref a90), .val (.ref a221), .val (.ref a226), .val (.long ((((0 : Int64) + (v0.toInt64 * ((own_at d0 d1 d2 d3 y0).toInt64))) + (v1.toInt64 * ((own_at d0 d1 d2 d3 y1).toInt64))) + (v2.toInt64 * ((own_at d0 d1 d2 d3 y2).toInt64)))), .second, .unset, .unset, .unset] [(.ref a283)])) _
      refine XS.astore X290.here hx rfl (hb hby at_313) rfl rfl (l' := #[.val (.int p1), .val (.long p2), .second, .val (.int d0), .val (.int d1), .val (.int d2), .val (.int d3), .val (.int (3 : Int32)), .val (.int rr), .val (.ref a59), .val (.ref a67), .val (.ref a75), .val (.ref a90), .val (.ref a221), .val (.ref a226), .val (.long ((((0 : Int64) + (v0.toInt64 * ((own_at d0 d1 d2 d3 y0).toInt64))) + (v1.toInt64 * ((own_at d0 d1 d2 d3 y1).toInt64))) + (v2.toInt64 * ((own_at d0 d1 d2 d3 y2).toInt64)))), .second, .val (.ref a283), .unset, .unset]) rfl ?_
      refine XS.aload X290.here hx rfl (hb hby at_315) rfl rfl ?_
      refine XS.aload X290.here hx rfl (hb hby at_317) rfl rfl ?_
      refine st291.trans ?_
      show Steps p.tables e below (T291.setTop (mkF m 322 #[.val (.int p1), .val (.long p2), .second, .val (.int d0), .val (.int d1), .val (.int d2), .val (.int d3), .val (.int (3 : Int32)), .val (.int rr), .val (.ref a59), .val (.ref a67), .val (.ref a75), .val (.ref a90), .val (.ref a221), .val (.ref a226), .val (.long ((((0 : Int64) + (v0.toInt64 * ((own_at d0 d1 d2 d3 y0).toInt64))) + (v1.toInt64 * ((own_at d0 d1 d2 d3 y1).toInt64))) + (v2.toInt64 * ((own_at d0 d1 d2 d3 y2).toInt64)))), .second, .val (.ref a283), .unset, .unset] [(.double (FP.dadd (FP.dadd (FP.dadd (0 : UInt64) (FP.dmul (FP.i2d v0) (FP.i2d (own_at d0 d1 d2 d3 y0)))) (FP.dmul (FP.i2d v1) (FP.i2d (own_at d0 d1 d2 d3 y1)))) (FP.dmul (FP.i2d v2) (FP.i2d (own_at d0 d1 d2 d3 y2)))))])) _
      refine XS.dstore X291.here hx rfl (hb hby at_322) rfl (l' := #[.val (.int p1), .val (.long p2), .second, .val (.int d0), .val (.int d1), .val (.int d2), .val (.int d3), .val (.int (3 : Int32)), .val (.int rr), .val (.ref a59), .val (.ref a67), .val (.ref a75), .val (.ref a90), .val (.ref a221), .val (.ref a226), .val (.long ((((0 : Int64) + (v0.toInt64 * ((own_at d0 d1 d2 d3 y0).toInt64))) + (v1.toInt64 * ((own_at d0 d1 d2 d3 y1).toInt64))) + (v2.toInt64 * ((own_at d0 d1 d2 d3 y2).toInt64)))), .second, .val (.ref a283), .val (.double (FP.dadd (FP.dadd (FP.dadd (0 : UInt64) (FP.dmul (FP.i2d v0) (FP.i2d (own_at d0 d1 d2 d3 y0)))) (FP.dmul (FP.i2d v1) (FP.i2d (own_at d0 d1 d2 d3 y1)))) (FP.dmul (FP.i2d v2) (FP.i2d (own_at d0 d1 d2 d3 y2))))), .second]) rfl ?_
      refine XS.dload X291.here hx rfl (hb hby at_324) rfl ?_
      refine XT.lload X291.here hx rfl (hb hby at_326) rfl ?_
      refine XS.l2dS X291.here hx rfl (hb hby at_328) rfl rfl ?_
      refine XS.dcmpS X291.here hx rfl (hb hby at_329) rfl (own_eq0 I3 IE (by omega) _) ?_
      refine XS.ifNo X291.here hx rfl (hb hby at_330) rfl (XT.i0_ne_f rfl) ?_
      refine XT.iconstV X291.here hx rfl ((1 : Int32)) (hb hby at_333) (by decide) ?_
      refine XS.goto X291.here hx rfl (pc0 := 334) (pc' := 338) rfl (hb hby at_334) (by decide) (by decide) ?_
      exact Steps.refl _)
    obtain ⟨fs, hr, hrun, hended, hW, hsame⟩ := X291.leave (v := some (.int (1 : Int32))) (fun h => by rw [Bd.returns] at h; cases h)
    refine ⟨_, _, cs3_2.trans ?_, hrun, hended, _, _, rfl, ?_, ⟨_, rfl⟩, hW, hsame.mono (by decide) (by decide)⟩
    · exact retN X291 hx (t := .boolean) Bd.returns (by simp) (hb hby at_338) hr
    · show Q0 h0 n0 _ T291.heap _
      exact ⟨rfl, NN291⟩
set_option maxRecDepth 65536 in
set_option maxHeartbeats 40000000 in
theorem comes_1 {Post : Tables → Env → Array Value → State → Outcome → State → Prop} (hpost : ∀ tb e args s v u, (limb_1_1.after args s (.returned v) u = true ∧ limb_1_2.after args s (.returned v) u = true ∧ True) → FrameEnd s (.returned v) u (Jvm.fieldLocs frame_1_writes args s ++ Jvm.arrayLocs frame_1_arrays args s ++ Jvm.staticLocs frame_1_statics s) 24 128 → Post tb e args s (.returned v) u) :
    ArmFor flags0 classFile x code maxLocals ret World_1 tables_1 room_1 Calls_1 rest_1 Pre_1 Post := by
  intro l hfl _ _ p e ha hc hk s m args below hf hA hF happ hP
  obtain ⟨hcalls, hrest, hpre⟩ := hP
  obtain ⟨-, -, -, hnamed, -, -, -, hat⟩ := (Spec.applies_iff hf).mp happ
  obtain ⟨hg, hn⟩ := and_e (Cond.before_iff.mp (show (Jvm.Cond.and given_1 narrow_1).before args s = true from hpre))
  obtain ⟨h1, hA0⟩ := and_e hg
  obtain ⟨hI0, hA1⟩ := and_e hA0
  obtain ⟨hI1, hA2⟩ := and_e hA1
  obtain ⟨hI2, hA3⟩ := and_e hA2
  obtain ⟨hI3, hA4⟩ := and_e hA3
  obtain ⟨hI4, hA5⟩ := and_e hA4
  obtain ⟨w0, w1, w2, w3, w4, w5, rfl⟩ : ∃ w0 w1 w2 w3 w4 w5 : Value, args = #[w0, w1, w2, w3, w4, w5] := by
    have hs : args.size = 6 := by simpa [Cond.value, given_1] using h1
    obtain ⟨L⟩ := args
    match L, hs with
    | [w0, w1, w2, w3, w4, w5], _ => exact ⟨w0, w1, w2, w3, w4, w5, rfl⟩
  have hw := fun d (hd : d ∈ tables_1) => atoms_spec (ws := Jvm.Cond.code x code maxLocals ret :: tables_1) hat d (List.mem_cons_of_mem _ hd)
  have hfit : Fit s := fun {y c} hc i hi => by
    obtain ⟨ha, rfl⟩ := Array.getElem?_eq_some_iff.mp hc
    have q := List.all_eq_true.mp ((Array.all_eq_true_iff_forall_mem.mp hF) _ (Array.getElem_mem ha)) i (List.mem_range.mpr hi)
    simpa [Array.getElem?_eq_getElem hi] using q
  obtain ⟨i0, ei0⟩ := is_v hI0
  obtain rfl : w0 = (.int i0) := Option.some.inj ei0
  obtain ⟨i1, ei1⟩ := isL_v hI1
  obtain rfl : w1 = (.long i1) := Option.some.inj ei1
  obtain ⟨i2, ei2⟩ := is_v hI2
  obtain rfl : w2 = (.int i2) := Option.some.inj ei2
  obtain ⟨i3, ei3⟩ := is_v hI3
  obtain rfl : w3 = (.int i3) := Option.some.inj ei3
  obtain ⟨i4, ei4⟩ := is_v hI4
  obtain rfl : w4 = (.int i4) := Option.some.inj ei4
  obtain ⟨i5, ei5⟩ := is_v hA5
  obtain rfl : w5 = (.int i5) := Option.some.inj ei5
  obtain ⟨n, o, h1, h2, h3, _, L, rfl, ⟨rfl, N⟩, hq⟩ := rm0 l s _ hw tables_1 i0 i1 i2 i3 i4 i5  s.heap s.heap.size (Nat.le_refl _)  p e ha hc hk s m _ below hf ((Spec.applies_iff_loose hf).mp happ).1 ⟨rfl, State.Warmed39.refl s, rfl⟩ trivial
  refine ⟨n, _, h1, h2, h3, hpost _ _ _ _ _ _ ⟨Cond.after_iff.mpr rfl, Cond.after_iff.mpr (eq_i res_at (Term.int_eval (1)) rfl), trivial⟩ ⟨hq.1, hq.2.1, (hq.2.2.sift fun y hy => Or.inr (N y hy)).mono (by decide) (by decide)⟩⟩
theorem main_1_1 : Claimed_1_1 := comes_1 fun _ _ _ _ _ _ h hF => ⟨h.1, hF⟩
theorem main_1_2 : Claimed_1_2 := comes_1 fun _ _ _ _ _ _ h hF => ⟨h.2.1, hF⟩
end Jvm.Pilot.@@N@@
namespace Jvm.Pilot.@@N@@
open Jvm Jvm.ClassFile Sem Op Lib Jvm.Free Jvm.Stand Jvm.Pilot.@@N@@.Jvm.D
/-! MADE BY PROGRAM (witnessworld.py) out of the Statement's table words and the real class files: 12 classes; the members and pool entries that the words name. The judged class is class 1, her method 2. -/
namespace start1
open Jvm.ClassFile
def u (s : String) : CpInfo := .utf8 (stringToUtf16 s)
/-- a pool by its gaps: so many unusable entries, then the entry; so many at the end -/
def gap : Nat → List CpInfo → List CpInfo
  | 0, r => r
  | n + 1, r => .unusable :: gap n r
def poolList (es : List (Nat × CpInfo)) (last : Nat) : List CpInfo := es.foldr (fun e r => gap e.1 (e.2 :: r)) (gap last [])
def pool (es : List (Nat × CpInfo)) (last : Nat) : Array CpInfo := ⟨poolList es last⟩
def fileOf (pool : Array CpInfo) (this : Nat) (attrs : Array Attribute := #[]) (ms : Array MethodInfo := #[]) (fl : Nat := 33) (sup : Nat := 0) (ifs : Array Nat := #[]) (fds : Array FieldInfo := #[]) : ClassFile where
  minorVersion := 0
  majorVersion := 65
  constantPool := pool
  accessFlags := fl
  thisClass := this
  superClass := sup
  interfaces := ifs
  fields := fds
  methods := ms
  attributes := attrs
def plain (name : String) (sup : Option ClassId) : Class where
  name := name
  kind := .ordinary
  loader := none
  accessFlags := 33
  super := sup
  interfaces := #[]
  cf := none
  fields := #[]
  methods := #[]
  instanceTypes := #[]
  staticTypes := #[]
  resolved := #[]
  callSites := []
  init := .initialized
  statics := none
  mirror := none

def pool0 : Array CpInfo := pool [(5, u "<init>"), (0, u "()V"), (1, .class_ 10), (1, u "java/lang/Object")] 113

def k0c0 : Code := { maxStack := 0, maxLocals := 1, code := object_method_1_code, exceptionTable := #[], attributes := #[] }
def k0m0 : Method := { name := "<init>", desc := "()V", sig := { parameters := [], returnType := none }, accessFlags := 1, code := some k0c0 }
/-- java/lang/Object -/
def k0 : Class := { plain "java/lang/Object" none with
  accessFlags := 33
  interfaces := #[]
  cf := some (fileOf pool0 8 #[] #[{ accessFlags := 1, nameIndex := 5, descriptorIndex := 6, attributes := #[] }] 33 0 #[] #[])
  fields := #[]
  methods := #[k0m0]
  instanceTypes := #[]
  staticTypes := #[]
  resolved := Array.replicate 124 none
  statics := none }

def pool1 : Array CpInfo := pool [(2, .class_ 4), (1, u "java/lang/Object"), (0, u "<init>"), (0, u "()V"), (0, .methodref 8 9), (0, .class_ 10), (0, .nameAndType 11 12), (0, u "com/example/scentwalk/scentwalk/learn/SparseVectorDotPinLaw"), (0, u "swap"), (0, u "([III)V"), (0, .class_ 14), (0, u "com/example/scentwalk/scentwalk/learn/SparseVector"), (0, .methodref 13 16), (0, .nameAndType 5 17), (0, u "([I[D)V"), (0, .methodref 13 19), (0, .nameAndType 20 21), (0, u "dot"), (0, u "([D)D"), (2, u "law"), (0, u "(IJIIII)Z")] 7

def k1m0 : Method := { name := "<init>", desc := "()V", sig := { parameters := [], returnType := none }, accessFlags := 1, code := none }
def k1c1 : Code := { maxStack := 4, maxLocals := 4, code := method_2_code, exceptionTable := #[], attributes := #[] }
def k1m1 : Method := { name := "swap", desc := "([III)V", sig := { parameters := [(.array .int), .int, .int], returnType := none }, accessFlags := 10, code := some k1c1 }
def k1c2 : Code := { maxStack := 7, maxLocals := 20, code := code, exceptionTable := #[], attributes := #[] }
def k1m2 : Method := { name := "law", desc := "(IJIIII)Z", sig := { parameters := [.int, .long, .int, .int, .int, .int], returnType := some .boolean }, accessFlags := 9, code := some k1c2 }
/-- com/example/scentwalk/scentwalk/learn/SparseVectorDotPinLaw -/
def k1 : Class := { plain "com/example/scentwalk/scentwalk/learn/SparseVectorDotPinLaw" (some 0) with
  accessFlags := 49
  interfaces := #[]
  cf := some (fileOf pool1 8 #[] #[{ accessFlags := 1, nameIndex := 5, descriptorIndex := 6, attributes := #[] }, { accessFlags := 10, nameIndex := 11, descriptorIndex := 12, attributes := #[] }, { accessFlags := 9, nameIndex := 24, descriptorIndex := 25, attributes := #[] }] 49 2 #[] #[])
  fields := #[]
  methods := #[k1m0, k1m1, k1m2]
  instanceTypes := #[]
  staticTypes := #[]
  resolved := Array.replicate 33 none
  statics := none }

def pool2 : Array CpInfo := pool [(1, .methodref 2 3), (0, .class_ 4), (0, .nameAndType 5 6), (0, u "java/lang/Object"), (0, u "<init>"), (0, u "()V"), (0, .class_ 8), (0, u "java/lang/Record")] 13

def k2c0 : Code := { maxStack := 1, maxLocals := 1, code := jdk_30_method_1_code, exceptionTable := #[], attributes := #[] }
def k2m0 : Method := { name := "<init>", desc := "()V", sig := { parameters := [], returnType := none }, accessFlags := 4, code := some k2c0 }
/-- java/lang/Record -/
def k2 : Class := { plain "java/lang/Record" (some 0) with
  accessFlags := 1057
  interfaces := #[]
  cf := some (fileOf pool2 7 #[] #[{ accessFlags := 4, nameIndex := 5, descriptorIndex := 6, attributes := #[] }] 1057 2 #[] #[])
  fields := #[]
  methods := #[k2m0]
  instanceTypes := #[]
  staticTypes := #[]
  resolved := Array.replicate 22 none
  statics := none }

def pool3 : Array CpInfo := pool [(1, .methodref 2 3), (0, .class_ 4), (0, .nameAndType 5 6), (0, u "java/lang/Record"), (0, u "<init>"), (0, u "()V"), (0, .fieldref 8 9), (0, .class_ 10), (0, .nameAndType 11 12), (0, u "com/example/scentwalk/scentwalk/learn/SparseVector"), (0, u "indices"), (0, u "[I"), (0, .fieldref 8 14), (0, .nameAndType 15 16), (0, u "values"), (0, u "[D"), (12, u "([I[D)V"), (3, u "dot"), (0, u "([D)D")] 27

def k3c0 : Code := { maxStack := 2, maxLocals := 3, code := prog_72_method_1_code, exceptionTable := #[], attributes := #[] }
def k3m0 : Method := { name := "<init>", desc := "([I[D)V", sig := { parameters := [(.array .int), (.array .double)], returnType := none }, accessFlags := 0, code := some k3c0 }
def k3c1 : Code := { maxStack := 7, maxLocals := 5, code := prog_72_method_2_code, exceptionTable := #[], attributes := #[] }
def k3m1 : Method := { name := "dot", desc := "([D)D", sig := { parameters := [(.array .double)], returnType := some .double }, accessFlags := 0, code := some k3c1 }
/-- com/example/scentwalk/scentwalk/learn/SparseVector -/
def k3 : Class := { plain "com/example/scentwalk/scentwalk/learn/SparseVector" (some 2) with
  accessFlags := 48
  interfaces := #[]
  cf := some (fileOf pool3 8 #[] #[{ accessFlags := 0, nameIndex := 5, descriptorIndex := 29, attributes := #[] }, { accessFlags := 0, nameIndex := 33, descriptorIndex := 34, attributes := #[] }] 48 2 #[] #[{ accessFlags := 18, nameIndex := 11, descriptorIndex := 12, attributes := #[] }, { accessFlags := 18, nameIndex := 15, descriptorIndex := 16, attributes := #[] }])
  fields := #[{ name := "indices", type := (.array .int), accessFlags := 18, slot := 0, constantValue := 0 }, { name := "values", type := (.array .double), accessFlags := 18, slot := 1, constantValue := 0 }]
  methods := #[k3m0, k3m1]
  instanceTypes := #[(.array .int), (.array .double)]
  staticTypes := #[]
  resolved := Array.replicate 62 none
  statics := none }

def pool4 : Array CpInfo := pool [(1, u "java/lang/Cloneable"), (0, .class_ 1), (0, u "java/lang/Object"), (0, .class_ 3)] 3

/-- java/lang/Cloneable -/
def k4 : Class := { plain "java/lang/Cloneable" (some 0) with
  accessFlags := 1537
  interfaces := #[]
  cf := some (fileOf pool4 2 #[] #[] 1537 4 #[] #[])
  fields := #[]
  methods := #[]
  instanceTypes := #[]
  staticTypes := #[]
  resolved := Array.replicate 8 none
  statics := none }

def pool5 : Array CpInfo := pool [(1, u "java/io/Serializable"), (0, .class_ 1), (0, u "java/lang/Object"), (0, .class_ 3)] 3

/-- java/io/Serializable -/
def k5 : Class := { plain "java/io/Serializable" (some 0) with
  accessFlags := 1537
  interfaces := #[]
  cf := some (fileOf pool5 2 #[] #[] 1537 4 #[] #[])
  fields := #[]
  methods := #[]
  instanceTypes := #[]
  staticTypes := #[]
  resolved := Array.replicate 8 none
  statics := none }

/-- the primitive byte -/
def k6 : Class := { plain "byte" none with kind := .primitive 'B', accessFlags := 0x411 }
/-- [B -/
def k7 : Class := { plain "[B" (some 0) with kind := .array 6 .byte, interfaces := #[4, 5], accessFlags := 1041 }

/-- the primitive double -/
def k8 : Class := { plain "double" none with kind := .primitive 'D', accessFlags := 0x411 }
/-- [D -/
def k9 : Class := { plain "[D" (some 0) with kind := .array 8 .double, interfaces := #[4, 5], accessFlags := 1041 }

/-- the primitive int -/
def k10 : Class := { plain "int" none with kind := .primitive 'I', accessFlags := 0x411 }
/-- [I -/
def k11 : Class := { plain "[I" (some 0) with kind := .array 10 .int, interfaces := #[4, 5], accessFlags := 1041 }

def heap : Heap := #[]
def classes : Array Class := #[k0, k1, k2, k3, k4, k5, k6, k7, k8, k9, k10, k11]
def interned : List (Array UInt16 × Addr) := []
def slotsUsed : Nat := 0
def theMethod : MethodId := ⟨1, 2⟩
def args0 : Array Value := #[.int 5, .long 9, .int 1, .int 65, .int 3, .int 4]
def aboutOver (below : List Frame) : State where
  vm := { classes := classes, interned := interned.toArray }
  heap := heap
  slotsUsed := slotsUsed
  threads := #[{ frames := .invoking theMethod args0 :: below }]
def below0 : List Frame := [.native { method := ⟨0, 0⟩, args := #[] }]
def about1 : State := aboutOver below0
def p0 : Program := .bare "" "" ""
def e0 : Env := launch0.env 0 0 0
theorem w_frames : about1.frames = Frame.invoking theMethod args0 :: below0 := rfl
set_option maxRecDepth 65536 in
theorem w_args : argsFit about1.vm theMethod args0 = true := by decide +kernel
set_option maxRecDepth 65536 in
theorem w_heap : heapFits about1 = true := by decide +kernel
set_option maxRecDepth 65536 in
theorem w_runnable : about1.curStatus? = some .runnable := by decide +kernel
set_option maxRecDepth 65536 in
theorem w_alone : about1.alone = true := by decide +kernel
set_option maxRecDepth 65536 in
theorem w_named : about1.methodNamed? x = some theMethod := by decide +kernel
set_option maxRecDepth 65536 in
theorem w_hears : about1.hears theMethod below0 = true := by decide +kernel
set_option maxRecDepth 65536 in
theorem w_ripe : about1.ripe theMethod args0 below0 = true := by decide +kernel
theorem w_running : about1.status = .running := rfl
set_option maxRecDepth 65536 in
theorem w_room : about1.hasRoom e0.platform room_1 = true :=
  launch0.hasRoom_least _ room_1 (by decide +kernel) (by decide +kernel) (by decide +kernel) (by decide +kernel) (by decide +kernel) (by decide +kernel)
theorem allAtoms_all (ts : List Jvm.Cond) (a : Array Jvm.Value) (st : Jvm.State) : (allAtoms ts).before a st = ts.all (fun c => c.before a st) := by
  induction ts with
  | nil => rfl
  | cons c t ih =>
    show (Jvm.Cond.and c (allAtoms t)).before a st = _
    rw [Jvm.Cond.before_and, ih, List.all_cons]
def words1 : List Jvm.Cond := Jvm.Cond.code x code maxLocals ret :: tables_1
/-- a 'code' word, met by the world's own term for the bytes: nothing is compared byte by byte -/
theorem code_word {y : MethodName} {bytes : ByteArray} {mx : Nat} {rt : Option FieldType} {a : Array Value} {s : State} {m : MethodId} {meth : Method} {c : Code} (h1 : s.methodNamed? y = some m) (h2 : s.vm.method? m = some meth) (h3 : meth.code = some c) (h4 : c.code = bytes)
    (h5 : (c.maxLocals == mx && c.exceptionTable.isEmpty && decide (c.maxStack ≤ mostOperands) && decide (meth.sig.returnType = rt) && !meth.locks && decide (parseMethodDescriptor y.desc = some meth.sig)) = true) : (Jvm.Cond.code y bytes mx rt).before a s = true := by
  simp only [Bool.and_eq_true, beq_iff_eq, Bool.not_eq_true', decide_eq_true_eq] at h5
  obtain ⟨⟨⟨⟨⟨g1, g2⟩, g3⟩, g4⟩, g5⟩, g6⟩ := h5
  simp [Cond.before, Cond.holds, Cond.value, h1, h2, h3, h4, g1, g2, g3, g4, g5, g6]
def isCode : Jvm.Cond → Bool
  | .code _ _ _ _ => true
  | _ => false
theorem all_split {L : List Jvm.Cond} {P : Jvm.Cond → Bool} (h1 : L.all (fun c => isCode c || P c) = true) (h2 : ∀ c ∈ L.filter isCode, P c = true) : L.all P = true := by
  refine List.all_eq_true.mpr fun c hc => ?_
  have h := List.all_eq_true.mp h1 c hc
  rcases Bool.eq_false_or_eq_true (isCode c) with hi | hi
  · exact h2 c (List.mem_filter.mpr ⟨hc, hi⟩)
  · simpa [hi] using h
set_option maxRecDepth 65536 in
theorem w_c0 : (Jvm.Cond.code x code maxLocals ret).before args0 about1 = true := code_word (m := ⟨1, 2⟩) (meth := k1m2) (c := k1c2) (by decide +kernel) rfl rfl rfl (by decide +kernel)
set_option maxRecDepth 65536 in
theorem w_c1 : (Jvm.Cond.code ({ cls := "com/example/scentwalk/scentwalk/learn/SparseVectorDotPinLaw", name := "swap", desc := "([III)V" } : Jvm.MethodName) method_2_code (4 : Nat) (Option.none : Option Jvm.ClassFile.FieldType)).before args0 about1 = true := code_word (m := ⟨1, 1⟩) (meth := k1m1) (c := k1c1) (by decide +kernel) rfl rfl rfl (by decide +kernel)
set_option maxRecDepth 65536 in
theorem w_c2 : (Jvm.Cond.code ({ cls := "com/example/scentwalk/scentwalk/learn/SparseVector", name := "<init>", desc := "([I[D)V" } : Jvm.MethodName) prog_72_method_1_code (3 : Nat) (Option.none : Option Jvm.ClassFile.FieldType)).before args0 about1 = true := code_word (m := ⟨3, 0⟩) (meth := k3m0) (c := k3c0) (by decide +kernel) rfl rfl rfl (by decide +kernel)
set_option maxRecDepth 65536 in
theorem w_c3 : (Jvm.Cond.code ({ cls := "java/lang/Record", name := "<init>", desc := "()V" } : Jvm.MethodName) jdk_30_method_1_code (1 : Nat) (Option.none : Option Jvm.ClassFile.FieldType)).before args0 about1 = true := code_word (m := ⟨2, 0⟩) (meth := k2m0) (c := k2c0) (by decide +kernel) rfl rfl rfl (by decide +kernel)
set_option maxRecDepth 65536 in
theorem w_c4 : (Jvm.Cond.code ({ cls := "java/lang/Object", name := "<init>", desc := "()V" } : Jvm.MethodName) object_method_1_code (1 : Nat) (Option.none : Option Jvm.ClassFile.FieldType)).before args0 about1 = true := code_word (m := ⟨0, 0⟩) (meth := k0m0) (c := k0c0) (by decide +kernel) rfl rfl rfl (by decide +kernel)
set_option maxRecDepth 65536 in
theorem w_c5 : (Jvm.Cond.code ({ cls := "com/example/scentwalk/scentwalk/learn/SparseVector", name := "dot", desc := "([D)D" } : Jvm.MethodName) prog_72_method_2_code (5 : Nat) (Option.some Jvm.ClassFile.FieldType.double)).before args0 about1 = true := code_word (m := ⟨3, 1⟩) (meth := k3m1) (c := k3c1) (by decide +kernel) rfl rfl rfl (by decide +kernel)
def codes1 : List Jvm.Cond := [Jvm.Cond.code x code maxLocals ret, Jvm.Cond.code ({ cls := "com/example/scentwalk/scentwalk/learn/SparseVectorDotPinLaw", name := "swap", desc := "([III)V" } : Jvm.MethodName) method_2_code (4 : Nat) (Option.none : Option Jvm.ClassFile.FieldType), Jvm.Cond.code ({ cls := "com/example/scentwalk/scentwalk/learn/SparseVector", name := "<init>", desc := "([I[D)V" } : Jvm.MethodName) prog_72_method_1_code (3 : Nat) (Option.none : Option Jvm.ClassFile.FieldType), Jvm.Cond.code ({ cls := "java/lang/Record", name := "<init>", desc := "()V" } : Jvm.MethodName) jdk_30_method_1_code (1 : Nat) (Option.none : Option Jvm.ClassFile.FieldType), Jvm.Cond.code ({ cls := "java/lang/Object", name := "<init>", desc := "()V" } : Jvm.MethodName) object_method_1_code (1 : Nat) (Option.none : Option Jvm.ClassFile.FieldType), Jvm.Cond.code ({ cls := "com/example/scentwalk/scentwalk/learn/SparseVector", name := "dot", desc := "([D)D" } : Jvm.MethodName) prog_72_method_2_code (5 : Nat) (Option.some Jvm.ClassFile.FieldType.double)]
set_option maxRecDepth 65536 in
theorem codes_eq : words1.filter isCode = codes1 := rfl
theorem w_codes : ∀ c ∈ words1.filter isCode, c.before args0 about1 = true := by
  rw [codes_eq]
  intro c hc
  simp only [codes1, List.mem_cons, List.not_mem_nil, or_false] at hc
  rcases hc with rfl | rfl | rfl | rfl | rfl | rfl
  · exact w_c0
  · exact w_c1
  · exact w_c2
  · exact w_c3
  · exact w_c4
  · exact w_c5
set_option maxRecDepth 65536 in
theorem w_t1 : (words1.take 24).all (fun c => isCode c || c.before args0 about1) = true := by decide +kernel
set_option maxRecDepth 65536 in
theorem w_t2 : (words1.drop 24).all (fun c => isCode c || c.before args0 about1) = true := by decide +kernel
theorem w_tables : (allAtoms (Jvm.Cond.code x code maxLocals ret :: tables_1)).before args0 about1 = true := by
  rw [allAtoms_all]
  show words1.all (fun c => c.before args0 about1) = true
  refine all_split ?_ w_codes
  rw [← List.take_append_drop 24 words1, List.all_append, w_t1, w_t2]
  rfl
set_option maxRecDepth 65536 in
theorem w_case : (Jvm.Cond.and given_1 narrow_1).before args0 about1 = true := by decide +kernel
theorem w_applies : (headSpec (Jvm.Cond.code x code maxLocals ret :: tables_1) room_1).applies x e0.platform about1 = true :=
  (Spec.applies_iff w_frames).mpr ⟨w_running, w_runnable, w_alone, w_named, w_hears, w_ripe, w_room, w_tables⟩
theorem atStart : AtStart classFile x code maxLocals ret World_1 tables_1 room_1 Calls_1 rest_1 Pre_1 launch0 p0 e0 about1 theMethod args0 below0 :=
  ⟨lists_1, trivial, launch0.admits_env _ _ _, launch0.least_env, fairChoices_fair.cas, fairChoices_fair.clock, w_frames, w_args, w_heap, w_applies, trivial, trivial, w_case⟩
end start1
theorem witness_1 : WitnessClaimed_1 := ⟨start1.p0, start1.e0, start1.about1, start1.theMethod, start1.args0, start1.below0, start1.atStart⟩
end Jvm.Pilot.@@N@@
