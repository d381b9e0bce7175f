import JvmDerived
import JvmDerived.Pilot.@@N@@Statement
import JvmDerived.Pilot.@@N@@Code
set_option linter.unusedVariables false
set_option linter.unusedSimpArgs false

namespace Jvm.RoadKit
open Sem ClassFile Op Lib Jvm.Stand Jvm.Free Jvm.LawKit
section New
variable {p : Program} {l : Launch} {e : Env} {R : Room} {s : State} {m : MethodId} {args : Array Value} {below : List Frame} {meth : Method} {c : Code} {T : State} {locs : List Loc} {cells slots : Nat}
theorem retI (X : Stand p l e R s m args below meth c T locs cells slots) (hx : p.tables.exec = Jvm.exec) {pc : Nat} {Ls : Array Slot} {z : Int32} {rest : List Value} (hret : meth.sig.returnType = some .int) (hd : decode c.code pc = .ok (.ireturn, 1)) {fs : List Frame}
    (hl : ∀ (f : JFrame) (acts : List Action), f.method = m → f.locked = none → f.entered = [] → (doReturn e (T.setTop f) acts (some (.int z))).1 = T.setFrames fs) : Steps p.tables e below (T.setTop (mkF m pc Ls (.int z :: rest))) (T.setFrames fs) := by
  have hm' : T.vm.method? m = some meth := X.method'
  have hn : narrow .int (.int z) = .int z := rfl
  show Steps p.tables e below (T.setTop { method := m, pc := pc, locals := Ls, stack := _ :: rest, locked := none }) _
  jvm_step X.here [X.here.top, hx, hd, hm', hret, hn]
  first | (intro acts; rw [hl _ acts rfl rfl rfl]) | rw [hl _ _ rfl rfl rfl]
  exact Steps.refl _
theorem retD (X : Stand p l e R s m args below meth c T locs cells slots) (hx : p.tables.exec = Jvm.exec) {pc : Nat} {Ls : Array Slot} {z : UInt64} {rest : List Value} (hret : meth.sig.returnType = some .double) (hd : decode c.code pc = .ok (.dreturn, 1)) {fs : List Frame}
    (hl : ∀ (f : JFrame) (acts : List Action), f.method = m → f.locked = none → f.entered = [] → (doReturn e (T.setTop f) acts (some (.double z))).1 = T.setFrames fs) : Steps p.tables e below (T.setTop (mkF m pc Ls (.double z :: rest))) (T.setFrames fs) := by
  have hm' : T.vm.method? m = some meth := X.method'
  have hn : narrow .double (.double z) = .double z := rfl
  show Steps p.tables e below (T.setTop { method := m, pc := pc, locals := Ls, stack := _ :: rest, locked := none }) _
  jvm_step X.here [X.here.top, hx, hd, hm', hret, hn]
  first | (intro acts; rw [hl _ acts rfl rfl rfl]) | rw [hl _ _ rfl rfl rfl]
  exact Steps.refl _
end New
end Jvm.RoadKit

namespace Jvm.Pilot.@@N@@
open Jvm Jvm.ClassFile Sem Op Lib Jvm.Free Jvm.Stand Jvm.LawKit Jvm.RoadKit Bundle Jvm.Pilot.@@N@@.Jvm.D


/-! numbers -/
open Jvm.FP in
theorem own_nn {i : Int} {a : UInt64} (h : Core.DInt i a) : Fl.NoNaN64 a := Fl.val64_no.mpr fun q => by
  have h' : Core.Whole i (Core.val64 a) := h
  rw [q] at h'; exact h'
theorem own_zero : FP.Core.DInt 0 (0 : UInt64) := by
  show FP.Core.Whole 0 (FP.Core.val64 0)
  rw [show FP.Core.val64 0 = .fin false 0 FP.Core.b64.qmin from by decide +kernel]
  show FP.Core.signed false (0 * _) = 0 * _
  simp [FP.Core.signed]
theorem own_eq0 {i j : Int} {a b : UInt64} (ha : FP.Core.DInt i a) (hb : FP.Core.DInt j b) (h : i = j) (o : CmpOp) : cmpValue (FP.dcmp a b) o = 0 := by
  rw [show FP.dcmp a b = some (compare i j) from FP.Core.dcmp_int ha hb, h, FP.Core.compare_self_int]; rfl
theorem own_lt0 {i j : Int} {a b : UInt64} (ha : FP.Core.DInt i a) (hb : FP.Core.DInt j b) (h : i < j) (o : CmpOp) : cmpValue (FP.dcmp a b) o = -1 := by
  rw [show FP.dcmp a b = some (compare i j) from FP.Core.dcmp_int ha hb, show compare i j = .lt from by simp [compare, compareOfLessAndEq, h]]; rfl
theorem own_rem (x : Int32) : -1048576 < (x - (x / (1048576 : Int32)) * (1048576 : Int32)).toInt64.toInt ∧ (x - (x / (1048576 : Int32)) * (1048576 : Int32)).toInt64.toInt < 1048576 := by
  rw [c_i2l, irem_eq_mod]
  have h := c_irem x 1048576 1048576 rfl
  omega
theorem own_mul {a b : Int64} {A B : Int} (ha : -A ≤ a.toInt ∧ a.toInt ≤ A) (hb : -B ≤ b.toInt ∧ b.toInt ≤ B) : -(A * B) ≤ a.toInt * b.toInt ∧ a.toInt * b.toInt ≤ A * B := by
  have h1 : (a.toInt * b.toInt).natAbs ≤ (A * B).natAbs := by
    rw [Int.natAbs_mul, Int.natAbs_mul]; exact Nat.mul_le_mul (by omega) (by omega)
  have h2 : 0 ≤ A * B := Int.mul_nonneg (by omega) (by omega)
  omega
/-- the value of s * x + t, as a long and as a double -/
theorem own_lin {s x t : Int64} (hs : -1048576 < s.toInt ∧ s.toInt < 1048576) (hx : -2097152 < x.toInt ∧ x.toInt < 2097152) (ht : -1048576 < t.toInt ∧ t.toInt < 1048576) {d : UInt64} (hd : FP.Core.DInt x.toInt d) :
    FP.Core.DInt (s.toInt * x.toInt) (FP.dmul (FP.l2d s) d) ∧ FP.Core.DInt (s.toInt * x.toInt + t.toInt) (FP.dadd (FP.dmul (FP.l2d s) d) (FP.l2d t)) ∧ (s * x + t).toInt = s.toInt * x.toInt + t.toInt ∧ (s.toInt * x.toInt + t.toInt).natAbs < 4398046511104 := by
  have b := own_mul (a := s) (b := x) (A := 1048576) (B := 2097152) (by omega) (by omega)
  have m1 := FP.Core.dmul_int (FP.Core.l2d_int (a := s) (by omega)) hd (by omega)
  have m2 := FP.Core.dadd_int m1 (FP.Core.l2d_int (a := t) (by omega)) (by omega)
  have e1 : (s * x).toInt = s.toInt * x.toInt := XT.mul64 (by constructor <;> omega)
  refine ⟨m1, m2, ?_, by omega⟩
  rw [XT.add64 (by constructor <;> omega), e1]
theorem own_mono {s x y t : Int64} (h1 : (0 : Int64) < s) (h2 : x < y) : s.toInt * x.toInt + t.toInt < s.toInt * y.toInt + t.toInt := by
  rw [Int64.lt_iff_toInt_lt] at h1 h2
  have := Int.mul_lt_mul_of_pos_left h2 (show 0 < s.toInt from h1)
  omega
theorem d1_0 : decode prog_57_method_1_code 0 = .ok (.aload_n 0, 1) := by decide +kernel
theorem d1_1 : decode prog_57_method_1_code 1 = .ok (.invokespecial 1, 3) := by decide +kernel
theorem d1_4 : decode prog_57_method_1_code 4 = .ok (.aload_n 0, 1) := by decide +kernel
theorem d1_5 : decode prog_57_method_1_code 5 = .ok (.dload_n 1, 1) := by decide +kernel
theorem d1_6 : decode prog_57_method_1_code 6 = .ok (.putfield 7, 3) := by decide +kernel
theorem d1_9 : decode prog_57_method_1_code 9 = .ok (.aload_n 0, 1) := by decide +kernel
theorem d1_10 : decode prog_57_method_1_code 10 = .ok (.dload_n 3, 1) := by decide +kernel
theorem d1_11 : decode prog_57_method_1_code 11 = .ok (.putfield 13, 3) := by decide +kernel
theorem d1_14 : decode prog_57_method_1_code 14 = .ok (.return_, 1) := by decide +kernel
theorem d2_0 : decode jdk_30_method_1_code 0 = .ok (.aload_n 0, 1) := by decide +kernel
theorem d2_1 : decode jdk_30_method_1_code 1 = .ok (.invokespecial 1, 3) := by decide +kernel
theorem d2_4 : decode jdk_30_method_1_code 4 = .ok (.return_, 1) := by decide +kernel
theorem d4_0 : decode prog_57_method_4_code 0 = .ok (.aload_n 0, 1) := by decide +kernel
theorem d4_1 : decode prog_57_method_4_code 1 = .ok (.getfield 7, 3) := by decide +kernel
theorem d4_4 : decode prog_57_method_4_code 4 = .ok (.dload_n 1, 1) := by decide +kernel
theorem d4_5 : decode prog_57_method_4_code 5 = .ok (.dmul, 1) := by decide +kernel
theorem d4_6 : decode prog_57_method_4_code 6 = .ok (.aload_n 0, 1) := by decide +kernel
theorem d4_7 : decode prog_57_method_4_code 7 = .ok (.getfield 13, 3) := by decide +kernel
theorem d4_10 : decode prog_57_method_4_code 10 = .ok (.dadd, 1) := by decide +kernel
theorem d4_11 : decode prog_57_method_4_code 11 = .ok (.dreturn, 1) := by decide +kernel
theorem pn_1 : plainName "com/example/scentwalk/scentwalk/learn/Calibration" = true := by first | (simp [plainName, overriddenIn]; done) | decide +kernel
theorem pn_2 : plainName "java/lang/Record" = true := by first | (simp [plainName, overriddenIn]; done) | decide +kernel
theorem pn_4 : plainName "com/example/scentwalk/scentwalk/learn/Calibration" = true := by first | (simp [plainName, overriddenIn]; done) | decide +kernel
theorem pn_law : plainName "com/example/scentwalk/scentwalk/learn/CalibrationLogOddsPinLaw" = true := by first | (simp [plainName, overriddenIn]; done) | decide +kernel
theorem pd__DD_V : parseMethodDescriptor "(DD)V" = some ⟨[.double, .double], none⟩ := by decide +kernel
theorem pd___V : parseMethodDescriptor "()V" = some ⟨[], none⟩ := by decide +kernel
theorem pd__D_D : parseMethodDescriptor "(D)D" = some ⟨[.double], some .double⟩ := by decide +kernel
def Q2 (a1 : Addr) (h0 : Heap) (n0 : Nat) (v : Option Value) (h : Heap) (L : List Loc) : Prop := v = none ∧ Fr n0 L ∧ h = h0
set_option maxRecDepth 65536 in
set_option maxHeartbeats 40000000 in
theorem rm2 (l : Launch) (Z : State) (a0 : Array Value) (hw : ∀ d ∈ tables_1, d.before a0 Z = true) (ws : List Jvm.Cond) (a1 : Addr) (h0 : Heap) (n0 : Nat) (Z0 : n0 ≤ h0.size)  :
    MetFree l (⟨"java/lang/Record", "<init>", "()V"⟩ : MethodName) (head1 (Jvm.Cond.code (⟨"java/lang/Record", "<init>", "()V"⟩ : MethodName) jdk_30_method_1_code 1 none :: ws) ({ frames := 1, cells := 0, slots := 0, locals := 12 } : Room)) (fun a U => a = #[(.ref a1)] ∧ Z.Warmed39 U.vm ∧ U.heap = h0) (fun _ _ _ _ _ => True) (fun _ U o U' => ∃ v L, o = .returned v ∧ Q2 a1 h0 n0 v U'.heap L ∧ FrameEnd U o U' L ({ frames := 1, cells := 0, slots := 0, locals := 12 } : Room).cells ({ frames := 1, cells := 0, slots := 0, locals := 12 } : Room).slots) := by
  refine MetFree.of_bodySF (plainFor_of_name pn_2) hisR ?_
  intro p e s m args below meth c s₁ Bd hml0 hP hK
  obtain ⟨rfl, hZ, hh⟩ := hP
  have hx := Bd.exec
  have hby := Bd.bytes
  have hml : c.maxLocals = 1 := hml0
  have hown : s.vm.findClass "java/lang/Record" = some m.cls := findClass_of_methodNamed Bd.named
  have hnm := (name_of_methodNamed Bd.named Bd.method).1
  have X0 : Stand p l e ({ frames := 1, cells := 0, slots := 0, locals := 12 } : Room) s m #[(.ref a1)] below meth c s₁ [] 0 0 := Stand.of_body Bd
  have e0 : s₁.heap = h0 := by rw [← hh, Bd.state]; rfl
  have N0 := Fr.nil n0
  have c0 : Steps p.tables e below (s₁.setTop (entryFrame m #[(.ref a1)] 1)) (s₁.setTop (mkF m 0 #[.val (.ref a1)] [])) := XT.entry rfl
  obtain ⟨T1, X1, e1, st1⟩ := initO X0 hx hZ hown (hw _ (List.mem_of_getElem? (i := 12) rfl)) (hw _ (List.mem_of_getElem? (i := 13) rfl)) (hw _ (List.mem_of_getElem? (i := 14) rfl)) e0 (g := (mkF m 1 #[.val (.ref a1)] [(.ref a1)])) rfl (by rw [hml]; rfl) rfl (hb hby d2_1) (by decide) (W := 0) (by show 2 * 0 + _ ≤ _; exact Nat.le_of_eq rfl) (by decide)
  have c1 : Steps p.tables e below (s₁.setTop (entryFrame m #[(.ref a1)] 1)) (T1.setTop (mkF m 4 #[.val (.ref a1)] [])) := c0.trans (by
    refine XS.aloadN X0.here hx rfl (hb hby d2_0) rfl rfl ?_
    refine st1 _ ?_
    exact Steps.refl _)
  obtain ⟨fs, hr, hrun, hended, hW, hsame⟩ := X1.leave (v := none) (fun _ => rfl)
  refine ⟨_, _, c1.trans ?_, hrun, hended, _, _, rfl, ?_, ⟨_, rfl⟩, hW, hsame.mono (by decide) (by decide)⟩
  · exact X1.returnOut hx Bd.returns (hb hby d2_4) hr
  · show Q2 a1 h0 n0 _ T1.heap _
    rw [e1]
    exact ⟨rfl, N0, rfl⟩
def Q1 (Z : State) (a1 : Addr) (u v1 : UInt64) (h0 : Heap) (n0 : Nat) (v : Option Value) (h : Heap) (L : List Loc) : Prop := v = none ∧ Fr n0 L ∧ Keep h0 h [a1] ∧ Fld Z h a1 "com/example/scentwalk/scentwalk/learn/Calibration" "scale" "D" (.double u) ∧ Fld Z h a1 "com/example/scentwalk/scentwalk/learn/Calibration" "shift" "D" (.double v1)
set_option maxRecDepth 65536 in
set_option maxHeartbeats 40000000 in
theorem rm1 (l : Launch) (Z : State) (a0 : Array Value) (hw : ∀ d ∈ tables_1, d.before a0 Z = true) (ws : List Jvm.Cond) (a1 : Addr) (u : UInt64) (v1 : UInt64) (h0 : Heap) (n0 : Nat) (Z0 : n0 ≤ h0.size) (Ea : Exa Z h0 a1 "com/example/scentwalk/scentwalk/learn/Calibration") (F1 : Fld Z h0 a1 "com/example/scentwalk/scentwalk/learn/Calibration" "scale" "D" (.double 0)) (F2 : Fld Z h0 a1 "com/example/scentwalk/scentwalk/learn/Calibration" "shift" "D" (.double 0)) (ge : n0 ≤ a1) :
    MetFree l (⟨"com/example/scentwalk/scentwalk/learn/Calibration", "<init>", "(DD)V"⟩ : MethodName) (head1 (Jvm.Cond.code (⟨"com/example/scentwalk/scentwalk/learn/Calibration", "<init>", "(DD)V"⟩ : MethodName) prog_57_method_1_code 5 none :: ws) ({ frames := 2, cells := 0, slots := 0, locals := 24 } : Room)) (fun a U => a = #[(.ref a1), (.double u), (.double v1)] ∧ Z.Warmed39 U.vm ∧ U.heap = h0) (fun _ _ _ _ _ => True) (fun _ U o U' => ∃ v L, o = .returned v ∧ Q1 Z a1 u v1 h0 n0 v U'.heap L ∧ FrameEnd U o U' L ({ frames := 2, cells := 0, slots := 0, locals := 24 } : Room).cells ({ frames := 2, cells := 0, slots := 0, locals := 24 } : Room).slots) := by
  refine MetFree.of_bodySF (plainFor_of_name pn_1) hisR ?_
  intro p e s m args below meth c s₁ Bd hml0 hP hK
  obtain ⟨rfl, hZ, hh⟩ := hP
  have hx := Bd.exec
  have hby := Bd.bytes
  have hml : c.maxLocals = 5 := hml0
  have hown : s.vm.findClass "com/example/scentwalk/scentwalk/learn/Calibration" = some m.cls := findClass_of_methodNamed Bd.named
  have hnm := (name_of_methodNamed Bd.named Bd.method).1
  have X0 : Stand p l e ({ frames := 2, cells := 0, slots := 0, locals := 24 } : Room) s m #[(.ref a1), (.double u), (.double v1)] below meth c s₁ [] 0 0 := Stand.of_body Bd
  have e0 : s₁.heap = h0 := by rw [← hh, Bd.state]; rfl
  have N0 := Fr.nil n0
  have c0 : Steps p.tables e below (s₁.setTop (entryFrame m #[(.ref a1), (.double u), (.double v1)] 5)) (s₁.setTop (mkF m 0 #[.val (.ref a1), .val (.double u), .second, .val (.double v1), .second] [])) := XT.entry rfl
  obtain ⟨_, _, ⟨T2, L2, k2, n2⟩, -, X2, ⟨Lc2, hQ2, l2, y2, z2⟩, st2⟩ := X0.specialBack hx (y := (⟨"java/lang/Record", "<init>", "()V"⟩ : MethodName)) rfl hown (mvT hZ (hw _ (List.mem_of_getElem? (i := 7) rfl))) (mvT hZ (hw _ (List.mem_of_getElem? (i := 8) rfl))) (mvT hZ (hw _ (List.mem_of_getElem? (i := 11) rfl))) (by decide) (backOf (W := 0) (rm2 l Z a0 hw [] a1 h0 n0 Z0) hZ (hw _ (List.mem_of_getElem? (i := 11) rfl)) (hw _ (List.mem_of_getElem? (i := 10) rfl)) (by decide) (by decide)) (g := (mkF m 1 #[.val (.ref a1), .val (.double u), .second, .val (.double v1), .second] [(.ref a1)])) rfl (by rw [hml]; rfl) (Steps.refl _) (a := a1) (argsL := []) (rest := []) (lenOf pd___V rfl) rfl (by show 2 * 0 + _ ≤ _; exact Nat.le_of_eq rfl) (hb hby d1_1) (fun _ _ => ⟨rfl, e0, (by decide : 0 + 0 ≤ _), (by decide : 0 + 0 ≤ _)⟩)
  dsimp only [Pt.U, Pt.locs, Pt.cells, Pt.slots] at X2 l2 y2 z2 st2 hQ2
  subst l2 y2 z2
  obtain ⟨rfl, N2, e2⟩ := hQ2
  have NN2 := Fr.app N0 N2
  obtain ⟨T3, h3, X3, e3, W3, st3⟩ := putF X2 hx hZ hown (host := "") (Or.inl (hw _ (List.mem_of_getElem? (i := 15) rfl))) Via.refl e2 F1 Ea (Or.inr ⟨(hw _ (List.mem_of_getElem? (i := 16) rfl)), rfl, hnm⟩) (hw _ (List.mem_of_getElem? (i := 2) rfl)) (ty := .double) (by decide) rfl rfl (g := (mkF m 6 #[.val (.ref a1), .val (.double u), .second, .val (.double v1), .second] [(.double u), (.ref a1)])) rfl rfl (hb hby d1_6)
  have N3 := Fr.snoc X3 NN2 ge
  have Zs3 : n0 ≤ h3.size := Nat.le_trans Z0 (Keep.of_wr W3).1
  have Ea1 : Exa Z h3 a1 "com/example/scentwalk/scentwalk/learn/Calibration" := Ea.wr W3
  have Fs1 : Fld Z h3 a1 "com/example/scentwalk/scentwalk/learn/Calibration" "scale" "D" (.double u) := F1.same W3
  have Fh1 : Fld Z h3 a1 "com/example/scentwalk/scentwalk/learn/Calibration" "shift" "D" (.double 0) := F2.other W3 (Or.inr (slot_ne (Or.inr (hw _ (List.mem_of_getElem? (i := 18) rfl))) (Or.inr (hw _ (List.mem_of_getElem? (i := 16) rfl))) (by decide) (t := .double) (t' := .double) (by decide) (by decide)))
  obtain ⟨T4, h4, X4, e4, W4, st4⟩ := putF X3 hx hZ hown (host := "") (Or.inl (hw _ (List.mem_of_getElem? (i := 17) rfl))) Via.refl e3 Fh1 Ea1 (Or.inr ⟨(hw _ (List.mem_of_getElem? (i := 18) rfl)), rfl, hnm⟩) (hw _ (List.mem_of_getElem? (i := 2) rfl)) (ty := .double) (by decide) rfl rfl (g := (mkF m 11 #[.val (.ref a1), .val (.double u), .second, .val (.double v1), .second] [(.double v1), (.ref a1)])) rfl rfl (hb hby d1_11)
  have N4 := Fr.snoc X4 N3 ge
  have Zs4 : n0 ≤ h4.size := Nat.le_trans Zs3 (Keep.of_wr W4).1
  have Fs2 : Fld Z h4 a1 "com/example/scentwalk/scentwalk/learn/Calibration" "scale" "D" (.double u) := Fs1.other W4 (Or.inr (slot_ne (Or.inr (hw _ (List.mem_of_getElem? (i := 16) rfl))) (Or.inr (hw _ (List.mem_of_getElem? (i := 18) rfl))) (by decide) (t := .double) (t' := .double) (by decide) (by decide)))
  have Fh2 : Fld Z h4 a1 "com/example/scentwalk/scentwalk/learn/Calibration" "shift" "D" (.double v1) := Fh1.same W4
  have K2 : Keep h0 h4 [a1] := (((Keep.refl _ _).wr W3 (Or.inl (List.mem_of_getElem? (i := 0) rfl))).wr W4 (Or.inl (List.mem_of_getElem? (i := 0) rfl)))
  have c1 : Steps p.tables e below (s₁.setTop (entryFrame m #[(.ref a1), (.double u), (.double v1)] 5)) (T4.setTop (mkF m 14 #[.val (.ref a1), .val (.double u), .second, .val (.double v1), .second] [])) := c0.trans (by
    refine XS.aloadN X0.here hx rfl (hb hby d1_0) rfl rfl ?_
    refine st2.trans ?_
    show Steps p.tables e below (T2.setTop (mkF m 4 #[.val (.ref a1), .val (.double u), .second, .val (.double v1), .second] [])) _
    refine XS.aloadN X2.here hx rfl (hb hby d1_4) rfl rfl ?_
    refine XS.dloadN X2.here hx rfl (hb hby d1_5) rfl ?_
    refine st3 _ ?_
    refine XS.aloadN X3.here hx rfl (hb hby d1_9) rfl rfl ?_
    refine XS.dloadN X3.here hx rfl (hb hby d1_10) rfl ?_
    refine st4 _ ?_
    exact Steps.refl _)
  obtain ⟨fs, hr, hrun, hended, hW, hsame⟩ := X4.leave (v := none) (fun _ => rfl)
  refine ⟨_, _, c1.trans ?_, hrun, hended, _, _, rfl, ?_, ⟨_, rfl⟩, hW, hsame.mono (by decide) (by decide)⟩
  · exact X4.returnOut hx Bd.returns (hb hby d1_14) hr
  · show Q1 Z a1 u v1 h0 n0 _ T4.heap _
    rw [e4]
    exact ⟨rfl, N4, K2, Fs2, Fh2⟩
def Q4 (r : UInt64) (h0 : Heap) (n0 : Nat) (v : Option Value) (h : Heap) (L : List Loc) : Prop := v = some (.double r) ∧ Fr n0 L ∧ h = h0
set_option maxRecDepth 65536 in
set_option maxHeartbeats 40000000 in
theorem rm4 (l : Launch) (Z : State) (a0 : Array Value) (hw : ∀ d ∈ tables_1, d.before a0 Z = true) (ws : List Jvm.Cond) (a1 : Addr) (u : UInt64) (v1 : UInt64) (y : UInt64) (h0 : Heap) (n0 : Nat) (Z0 : n0 ≤ h0.size) (F1 : Fld Z h0 a1 "com/example/scentwalk/scentwalk/learn/Calibration" "scale" "D" (.double u)) (F2 : Fld Z h0 a1 "com/example/scentwalk/scentwalk/learn/Calibration" "shift" "D" (.double v1)) (n1 : Fl.NoNaN64 (FP.dmul u y)) (n2 : Fl.NoNaN64 (FP.dadd (FP.dmul u y) v1)) :
    MetFree l (⟨"com/example/scentwalk/scentwalk/learn/Calibration", "logOdds", "(D)D"⟩ : MethodName) (head1 (Jvm.Cond.code (⟨"com/example/scentwalk/scentwalk/learn/Calibration", "logOdds", "(D)D"⟩ : MethodName) prog_57_method_4_code 3 (some .double) :: ws) ({ frames := 0, cells := 0, slots := 0, locals := 0 } : Room)) (fun a U => a = #[(.ref a1), (.double y)] ∧ Z.Warmed39 U.vm ∧ U.heap = h0) (fun _ _ _ _ _ => True) (fun _ U o U' => ∃ v L, o = .returned v ∧ Q4 (FP.dadd (FP.dmul u y) v1) h0 n0 v U'.heap L ∧ FrameEnd U o U' L ({ frames := 0, cells := 0, slots := 0, locals := 0 } : Room).cells ({ frames := 0, cells := 0, slots := 0, locals := 0 } : Room).slots) := by
  refine MetFree.of_bodySF (plainFor_of_name pn_4) hisR ?_
  intro p e s m args below meth c s₁ Bd hml0 hP hK
  obtain ⟨rfl, hZ, hh⟩ := hP
  have hx := Bd.exec
  have hby := Bd.bytes
  have hml : c.maxLocals = 3 := hml0
  have hown : s.vm.findClass "com/example/scentwalk/scentwalk/learn/Calibration" = some m.cls := findClass_of_methodNamed Bd.named
  have hnm := (name_of_methodNamed Bd.named Bd.method).1
  have X0 : Stand p l e ({ frames := 0, cells := 0, slots := 0, locals := 0 } : Room) s m #[(.ref a1), (.double y)] below meth c s₁ [] 0 0 := Stand.of_body Bd
  have e0 : s₁.heap = h0 := by rw [← hh, Bd.state]; rfl
  have N0 := Fr.nil n0
  have c0 : Steps p.tables e below (s₁.setTop (entryFrame m #[(.ref a1), (.double y)] 3)) (s₁.setTop (mkF m 0 #[.val (.ref a1), .val (.double y), .second] [])) := XT.entry rfl
  obtain ⟨T5, X5, e5, st5⟩ := getF X0 hx hZ hown (host := "") (Or.inl (hw _ (List.mem_of_getElem? (i := 15) rfl))) Via.refl e0 F1 (g := (mkF m 1 #[.val (.ref a1), .val (.double y), .second] [(.ref a1)])) rfl rfl (hb hby d4_1)
  obtain ⟨T6, X6, e6, st6⟩ := getF X5 hx hZ hown (host := "") (Or.inl (hw _ (List.mem_of_getElem? (i := 17) rfl))) Via.refl e5 F2 (g := (mkF m 7 #[.val (.ref a1), .val (.double y), .second] [(.ref a1), (.double (FP.dmul u y))])) rfl rfl (hb hby d4_7)
  have c1 : Steps p.tables e below (s₁.setTop (entryFrame m #[(.ref a1), (.double y)] 3)) (T6.setTop (mkF m 11 #[.val (.ref a1), .val (.double y), .second] [(.double (FP.dadd (FP.dmul u y) v1))])) := c0.trans (by
    refine XS.aloadN X0.here hx rfl (hb hby d4_0) rfl rfl ?_
    refine st5 _ ?_
    refine XS.dloadN X5.here hx rfl (hb hby d4_4) rfl ?_
    refine XS.dmulS X5.here hx rfl (hb hby d4_5) rfl n1 rfl ?_
    refine XS.aloadN X5.here hx rfl (hb hby d4_6) rfl rfl ?_
    refine st6 _ ?_
    refine XS.daddS X6.here hx rfl (hb hby d4_10) rfl n2 rfl ?_
    exact Steps.refl _)
  obtain ⟨fs, hr, hrun, hended, hW, hsame⟩ := X6.leave (v := some (.double (FP.dadd (FP.dmul u y) v1))) (fun h => by rw [Bd.returns] at h; cases h)
  refine ⟨_, _, c1.trans ?_, hrun, hended, _, _, rfl, ?_, ⟨_, rfl⟩, hW, hsame.mono (by decide) (by decide)⟩
  · exact retD X6 hx Bd.returns (hb hby d4_11) hr
  · show Q4 (FP.dadd (FP.dmul u y) v1) h0 n0 _ T6.heap _
    rw [e6]
    exact ⟨rfl, N0, rfl⟩
def Q0 (h0 : Heap) (n0 : Nat) (v : Option Value) (h : Heap) (L : List Loc) : Prop := v = some (.int 1) ∧ Fr n0 L
set_option maxRecDepth 65536 in
set_option maxHeartbeats 40000000 in
theorem rm0 (l : Launch) (Z : State) (a0 : Array Value) (hw : ∀ d ∈ tables_1, d.before a0 Z = true) (ws : List Jvm.Cond) (p1 : Int32) (p2 : Int32) (p3 : Int32) (p4 : Int32) (h0 : Heap) (n0 : Nat) (Z0 : n0 ≤ h0.size)  :
    MetFree l x (head1 (Jvm.Cond.code x code maxLocals ret :: ws) room_1) (fun a U => a = #[(.int p1), (.int p2), (.int p3), (.int p4)] ∧ Z.Warmed39 U.vm ∧ U.heap = h0) (fun _ _ _ _ _ => True) (fun _ U o U' => ∃ v L, o = .returned v ∧ Q0 h0 n0 v U'.heap L ∧ FrameEnd U o U' L room_1.cells room_1.slots) := by
  refine MetFree.of_bodySF (plainFor_of_name pn_law) hisR ?_
  intro p e s m args below meth c s₁ Bd hml0 hP hK
  obtain ⟨rfl, hZ, hh⟩ := hP
  have hx := Bd.exec
  have hby := Bd.bytes
  have hml : c.maxLocals = 24 := hml0
  have hown : s.vm.findClass "com/example/scentwalk/scentwalk/learn/CalibrationLogOddsPinLaw" = some m.cls := findClass_of_methodNamed Bd.named
  have hnm := (name_of_methodNamed Bd.named Bd.method).1
  have X0 : Stand p l e room_1 s m #[(.int p1), (.int p2), (.int p3), (.int p4)] below meth c s₁ [] 0 0 := Stand.of_body Bd
  have e0 : s₁.heap = h0 := by rw [← hh, Bd.state]; rfl
  have N0 := Fr.nil n0
  have c0 : Steps p.tables e below (s₁.setTop (entryFrame m #[(.int p1), (.int p2), (.int p3), (.int p4)] maxLocals)) (s₁.setTop (mkF m 0 #[.val (.int p1), .val (.int p2), .val (.int p3), .val (.int p4), .unset, .unset, .unset, .unset, .unset, .unset, .unset, .unset, .unset, .unset, .unset, .unset, .unset, .unset, .unset, .unset, .unset, .unset, .unset, .unset] [])) := XT.entry rfl
  obtain ⟨sc, hsc⟩ : ∃ z, z = ((p1 - (p1 / (1048576 : Int32)) * (1048576 : Int32)).toInt64) := ⟨_, rfl⟩
  obtain ⟨sh, hsh⟩ : ∃ z, z = ((p2 - (p2 / (1048576 : Int32)) * (1048576 : Int32)).toInt64) := ⟨_, rfl⟩
  obtain ⟨xx, hxx⟩ : ∃ z, z = ((p3 - (p3 / (1048576 : Int32)) * (1048576 : Int32)).toInt64) := ⟨_, rfl⟩
  obtain ⟨yy, hyy⟩ : ∃ z, z = ((p4 - (p4 / (1048576 : Int32)) * (1048576 : Int32)).toInt64) := ⟨_, rfl⟩
  have b_sc : -1048576 < sc.toInt ∧ sc.toInt < 1048576 := by rw [hsc]; exact own_rem p1
  have b_sh : -1048576 < sh.toInt ∧ sh.toInt < 1048576 := by rw [hsh]; exact own_rem p2
  have b_xx : -1048576 < xx.toInt ∧ xx.toInt < 1048576 := by rw [hxx]; exact own_rem p3
  have b_yy : -1048576 < yy.toInt ∧ yy.toInt < 1048576 := by rw [hyy]; exact own_rem p4
  have exy : (xx + yy).toInt = xx.toInt + yy.toInt := XT.add64 (by constructor <;> omega)
  obtain ⟨i1, i2, i3, i4⟩ := own_lin (s := sc) (x := xx) (t := sh) b_sc (by omega) b_sh (FP.Core.l2d_int (a := xx) (by omega))
  obtain ⟨j1, j2, j3, j4⟩ := own_lin (s := sc) (x := yy) (t := sh) b_sc (by omega) b_sh (FP.Core.l2d_int (a := yy) (by omega))
  obtain ⟨m1, m2, m3, m4⟩ := own_lin (s := sc) (x := xx + yy) (t := sh) b_sc (by omega) b_sh (FP.Core.l2d_int (a := xx + yy) (by omega))
  obtain ⟨o1, o2, o3, o4⟩ := own_lin (s := sc) (x := 0) (t := sh) b_sc (by decide) b_sh (d := 0) own_zero
  obtain ⟨T7, h7, X7, e7, E7, A7, D7, -, st7⟩ := newO X0 hx hZ hown (hw _ (List.mem_of_getElem? (i := 1) rfl)) (hw _ (List.mem_of_getElem? (i := 2) rfl)) (hw _ (List.mem_of_getElem? (i := 3) rfl)) e0 (g := (mkF m 28 #[.val (.int p1), .val (.int p2), .val (.int p3), .val (.int p4), .val (.long sc), .second, .val (.long sh), .second, .val (.long xx), .second, .val (.long yy), .second, .unset, .unset, .unset, .unset, .unset, .unset, .unset, .unset, .unset, .unset, .unset, .unset] [])) rfl (hb hby at_28) (by decide) (by decide)
  obtain ⟨a7, g7⟩ : ∃ z, z = h0.size := ⟨_, rfl⟩
  rw [← g7] at A7 D7 st7
  have Zs7 : n0 ≤ h7.size := Nat.le_trans Z0 E7.1
  have gn7 : n0 ≤ a7 := Nat.le_trans Z0 (Nat.le_of_eq g7.symm)
  obtain ⟨_, _, ⟨T8, L8, k8, n8⟩, -, X8, ⟨Lc8, hQ8, l8, y8, z8⟩, st8⟩ := X7.specialBack hx (y := (⟨"com/example/scentwalk/scentwalk/learn/Calibration", "<init>", "(DD)V"⟩ : MethodName)) rfl hown (mvT hZ (hw _ (List.mem_of_getElem? (i := 4) rfl))) (mvT hZ (hw _ (List.mem_of_getElem? (i := 5) rfl))) (mvT hZ (hw _ (List.mem_of_getElem? (i := 6) rfl))) (by decide) (backOf (W := 1) (rm1 l Z a0 hw [] a7 (FP.l2d sc) (FP.l2d sh) h7 n0 Zs7 A7 (D7 (Or.inr (hw _ (List.mem_of_getElem? (i := 16) rfl))) (ty := .double) (by decide)) (D7 (Or.inr (hw _ (List.mem_of_getElem? (i := 18) rfl))) (ty := .double) (by decide)) gn7) hZ (hw _ (List.mem_of_getElem? (i := 6) rfl)) (hw _ (List.mem_of_getElem? (i := 3) rfl)) (by decide) (by decide)) (g := (mkF m 38 #[.val (.int p1), .val (.int p2), .val (.int p3), .val (.int p4), .val (.long sc), .second, .val (.long sh), .second, .val (.long xx), .second, .val (.long yy), .second, .unset, .unset, .unset, .unset, .unset, .unset, .unset, .unset, .unset, .unset, .unset, .unset] [(.double (FP.l2d sh)), (.double (FP.l2d sc)), (.ref a7), (.ref a7)])) rfl (by rw [hml]; rfl) (Steps.refl _) (a := a7) (argsL := [(.double (FP.l2d sc)), (.double (FP.l2d sh))]) (rest := [(.ref a7)]) (lenOf pd__DD_V rfl) rfl (by show 2 * 0 + _ ≤ _; exact Nat.le_of_eq rfl) (hb hby at_38) (fun _ _ => ⟨rfl, e7, (by decide : 1 + 0 ≤ _), (by decide : 2 + 0 ≤ _)⟩)
  dsimp only [Pt.U, Pt.locs, Pt.cells, Pt.slots] at X8 l8 y8 z8 st8 hQ8
  subst l8 y8 z8
  obtain ⟨rfl, N8, K8, Fs, Fh⟩ := hQ8
  have NN8 := Fr.app N0 N8
  have Ec : Exa Z T8.heap a7 "com/example/scentwalk/scentwalk/learn/Calibration" := A7.keep K8
  have Zc : n0 ≤ T8.heap.size := Nat.le_trans Zs7 K8.1
  obtain ⟨hq, e_q⟩ : ∃ z, T8.heap = z := ⟨_, rfl⟩
  rw [e_q] at Ec Zc Fs Fh
  obtain ⟨fx, e_fx⟩ : ∃ z, (FP.dadd (FP.dmul (FP.l2d sc) (FP.l2d xx)) (FP.l2d sh)) = z := ⟨_, rfl⟩
  have n_fx := own_nn i2
  obtain ⟨cq9, kq9, q9a, q9b, q9c⟩ := isOf hZ e_q Ec
  obtain ⟨_, _, ⟨T9, L9, k9, n9⟩, -, X9, ⟨Lc9, hQ9, l9, y9, z9⟩, st9⟩ := X8.virtualBack hx (y := (⟨"com/example/scentwalk/scentwalk/learn/Calibration", "logOdds", "(D)D"⟩ : MethodName)) (z := (⟨"com/example/scentwalk/scentwalk/learn/Calibration", "logOdds", "(D)D"⟩ : MethodName)) hown (mvT hZ (hw _ (List.mem_of_getElem? (i := 19) rfl))) (mvT hZ (hw _ (List.mem_of_getElem? (i := 20) rfl))) (notFace_of_selects (args := #[]) (mvT hZ (hw _ (List.mem_of_getElem? (i := 22) rfl)))) (mvT hZ (hw _ (List.mem_of_getElem? (i := 22) rfl))) (mvT hZ (hw _ (List.mem_of_getElem? (i := 21) rfl))) (by decide) (backOf (W := 0) (rm4 l Z a0 hw [] a7 (FP.l2d sc) (FP.l2d sh) (FP.l2d xx) hq n0 Zc Fs Fh (own_nn i1) n_fx) hZ (hw _ (List.mem_of_getElem? (i := 23) rfl)) (hw _ (List.mem_of_getElem? (i := 3) rfl)) (by decide) (by decide)) q9a q9c (g := (mkF m 48 #[.val (.int p1), .val (.int p2), .val (.int p3), .val (.int p4), .val (.long sc), .second, .val (.long sh), .second, .val (.long xx), .second, .val (.long yy), .second, .val (.ref a7), .unset, .unset, .unset, .unset, .unset, .unset, .unset, .unset, .unset, .unset, .unset] [(.double (FP.l2d xx)), (.ref a7)])) rfl (by rw [hml]; rfl) (Steps.refl _) (argsL := [(.double (FP.l2d xx))]) (rest := []) (lenOf pd__D_D rfl) rfl (by show 2 * 0 + _ ≤ _; exact Nat.le_of_eq rfl) (hb hby at_48) (fun _ _ => ⟨rfl, e_q, (by decide : 1 + 0 ≤ _), (by decide : 2 + 0 ≤ _)⟩)
  dsimp only [Pt.U, Pt.locs, Pt.cells, Pt.slots] at X9 l9 y9 z9 st9 hQ9
  subst l9 y9 z9
  obtain ⟨rfl, N9, e9⟩ := hQ9
  have NN9 := Fr.app NN8 N9
  rw [e_fx] at i2
  obtain ⟨fy, e_fy⟩ : ∃ z, (FP.dadd (FP.dmul (FP.l2d sc) (FP.l2d yy)) (FP.l2d sh)) = z := ⟨_, rfl⟩
  have n_fy := own_nn j2
  obtain ⟨cq10, kq10, q10a, q10b, q10c⟩ := isOf hZ e9 Ec
  obtain ⟨_, _, ⟨T10, L10, k10, n10⟩, -, X10, ⟨Lc10, hQ10, l10, y10, z10⟩, st10⟩ := X9.virtualBack hx (y := (⟨"com/example/scentwalk/scentwalk/learn/Calibration", "logOdds", "(D)D"⟩ : MethodName)) (z := (⟨"com/example/scentwalk/scentwalk/learn/Calibration", "logOdds", "(D)D"⟩ : MethodName)) hown (mvT hZ (hw _ (List.mem_of_getElem? (i := 19) rfl))) (mvT hZ (hw _ (List.mem_of_getElem? (i := 20) rfl))) (notFace_of_selects (args := #[]) (mvT hZ (hw _ (List.mem_of_getElem? (i := 22) rfl)))) (mvT hZ (hw _ (List.mem_of_getElem? (i := 22) rfl))) (mvT hZ (hw _ (List.mem_of_getElem? (i := 21) rfl))) (by decide) (backOf (W := 0) (rm4 l Z a0 hw [] a7 (FP.l2d sc) (FP.l2d sh) (FP.l2d yy) hq n0 Zc Fs Fh (own_nn j1) n_fy) hZ (hw _ (List.mem_of_getElem? (i := 23) rfl)) (hw _ (List.mem_of_getElem? (i := 3) rfl)) (by decide) (by decide)) q10a q10c (g := (mkF m 58 #[.val (.int p1), .val (.int p2), .val (.int p3), .val (.int p4), .val (.long sc), .second, .val (.long sh), .second, .val (.long xx), .second, .val (.long yy), .second, .val (.ref a7), .val (.double fx), .second, .unset, .unset, .unset, .unset, .unset, .unset, .unset, .unset, .unset] [(.double (FP.l2d yy)), (.ref a7)])) rfl (by rw [hml]; rfl) (Steps.refl _) (argsL := [(.double (FP.l2d yy))]) (rest := []) (lenOf pd__D_D rfl) rfl (by show 2 * 0 + _ ≤ _; exact Nat.le_of_eq rfl) (hb hby at_58) (fun _ _ => ⟨rfl, e9, (by decide : 1 + 0 ≤ _), (by decide : 2 + 0 ≤ _)⟩)
  dsimp only [Pt.U, Pt.locs, Pt.cells, Pt.slots] at X10 l10 y10 z10 st10 hQ10
  subst l10 y10 z10
  obtain ⟨rfl, N10, e10⟩ := hQ10
  have NN10 := Fr.app NN9 N10
  rw [e_fy] at j2
  obtain ⟨fz, e_fz⟩ : ∃ z, (FP.dadd (FP.dmul (FP.l2d sc) (FP.l2d (xx + yy))) (FP.l2d sh)) = z := ⟨_, rfl⟩
  have n_fz := own_nn m2
  obtain ⟨cq11, kq11, q11a, q11b, q11c⟩ := isOf hZ e10 Ec
  obtain ⟨_, _, ⟨T11, L11, k11, n11⟩, -, X11, ⟨Lc11, hQ11, l11, y11, z11⟩, st11⟩ := X10.virtualBack hx (y := (⟨"com/example/scentwalk/scentwalk/learn/Calibration", "logOdds", "(D)D"⟩ : MethodName)) (z := (⟨"com/example/scentwalk/scentwalk/learn/Calibration", "logOdds", "(D)D"⟩ : MethodName)) hown (mvT hZ (hw _ (List.mem_of_getElem? (i := 19) rfl))) (mvT hZ (hw _ (List.mem_of_getElem? (i := 20) rfl))) (notFace_of_selects (args := #[]) (mvT hZ (hw _ (List.mem_of_getElem? (i := 22) rfl)))) (mvT hZ (hw _ (List.mem_of_getElem? (i := 22) rfl))) (mvT hZ (hw _ (List.mem_of_getElem? (i := 21) rfl))) (by decide) (backOf (W := 0) (rm4 l Z a0 hw [] a7 (FP.l2d sc) (FP.l2d sh) (FP.l2d (xx + yy)) hq n0 Zc Fs Fh (own_nn m1) n_fz) hZ (hw _ (List.mem_of_getElem? (i := 23) rfl)) (hw _ (List.mem_of_getElem? (i := 3) rfl)) (by decide) (by decide)) q11a q11c (g := (mkF m 71 #[.val (.int p1), .val (.int p2), .val (.int p3), .val (.int p4), .val (.long sc), .second, .val (.long sh), .second, .val (.long xx), .second, .val (.long yy), .second, .val (.ref a7), .val (.double fx), .second, .val (.double fy), .second, .unset, .unset, .unset, .unset, .unset, .unset, .unset] [(.double (FP.l2d (xx + yy))), (.ref a7)])) rfl (by rw [hml]; rfl) (Steps.refl _) (argsL := [(.double (FP.l2d (xx + yy)))]) (rest := []) (lenOf pd__D_D rfl) rfl (by show 2 * 0 + _ ≤ _; exact Nat.le_of_eq rfl) (hb hby at_71) (fun _ _ => ⟨rfl, e10, (by decide : 1 + 0 ≤ _), (by decide : 2 + 0 ≤ _)⟩)
  dsimp only [Pt.U, Pt.locs, Pt.cells, Pt.slots] at X11 l11 y11 z11 st11 hQ11
  subst l11 y11 z11
  obtain ⟨rfl, N11, e11⟩ := hQ11
  have NN11 := Fr.app NN10 N11
  rw [e_fz] at m2
  obtain ⟨fo, e_fo⟩ : ∃ z, (FP.dadd (FP.dmul (FP.l2d sc) (0 : UInt64)) (FP.l2d sh)) = z := ⟨_, rfl⟩
  have n_fo := own_nn o2
  obtain ⟨cq12, kq12, q12a, q12b, q12c⟩ := isOf hZ e11 Ec
  obtain ⟨_, _, ⟨T12, L12, k12, n12⟩, -, X12, ⟨Lc12, hQ12, l12, y12, z12⟩, st12⟩ := X11.virtualBack hx (y := (⟨"com/example/scentwalk/scentwalk/learn/Calibration", "logOdds", "(D)D"⟩ : MethodName)) (z := (⟨"com/example/scentwalk/scentwalk/learn/Calibration", "logOdds", "(D)D"⟩ : MethodName)) hown (mvT hZ (hw _ (List.mem_of_getElem? (i := 19) rfl))) (mvT hZ (hw _ (List.mem_of_getElem? (i := 20) rfl))) (notFace_of_selects (args := #[]) (mvT hZ (hw _ (List.mem_of_getElem? (i := 22) rfl)))) (mvT hZ (hw _ (List.mem_of_getElem? (i := 22) rfl))) (mvT hZ (hw _ (List.mem_of_getElem? (i := 21) rfl))) (by decide) (backOf (W := 0) (rm4 l Z a0 hw [] a7 (FP.l2d sc) (FP.l2d sh) (0 : UInt64) hq n0 Zc Fs Fh (own_nn o1) n_fo) hZ (hw _ (List.mem_of_getElem? (i := 23) rfl)) (hw _ (List.mem_of_getElem? (i := 3) rfl)) (by decide) (by decide)) q12a q12c (g := (mkF m 79 #[.val (.int p1), .val (.int p2), .val (.int p3), .val (.int p4), .val (.long sc), .second, .val (.long sh), .second, .val (.long xx), .second, .val (.long yy), .second, .val (.ref a7), .val (.double fx), .second, .val (.double fy), .second, .val (.double fz), .second, .unset, .unset, .unset, .unset, .unset] [(.double (0 : UInt64)), (.ref a7)])) rfl (by rw [hml]; rfl) (Steps.refl _) (argsL := [(.double (0 : UInt64))]) (rest := []) (lenOf pd__D_D rfl) rfl (by show 2 * 0 + _ ≤ _; exact Nat.le_of_eq rfl) (hb hby at_79) (fun _ _ => ⟨rfl, e11, (by decide : 1 + 0 ≤ _), (by decide : 2 + 0 ≤ _)⟩)
  dsimp only [Pt.U, Pt.locs, Pt.cells, Pt.slots] at X12 l12 y12 z12 st12 hQ12
  subst l12 y12 z12
  obtain ⟨rfl, N12, e12⟩ := hQ12
  have NN12 := Fr.app NN11 N12
  rw [e_fo] at o2
  have c1 : Steps p.tables e below (s₁.setTop (entryFrame m #[(.int p1), (.int p2), (.int p3), (.int p4)] maxLocals)) (T12.setTop (mkF m 82 #[.val (.int p1), .val (.int p2), .val (.int p3), .val (.int p4), .val (.long sc), .second, .val (.long sh), .second, .val (.long xx), .second, .val (.long yy), .second, .val (.ref a7), .val (.double fx), .second, .val (.double fy), .second, .val (.double fz), .second, .unset, .unset, .unset, .unset, .unset] [(.double fo)])) := c0.trans (by
    refine XS.iloadN X0.here hx rfl (hb hby at_0) rfl ?_
    refine Stand.ldcI X0 hx hown (v := (1048576 : Int32)) (mvT hZ (hw _ (List.mem_of_getElem? (i := 0) rfl))) rfl (hb hby at_1) ?_
    refine XS.irem X0.here hx rfl (hb hby at_3) rfl (by decide) ?_
    refine XT.i2l X0.here hx rfl (hb hby at_4) rfl ?_
    show Steps p.tables e below (s₁.setTop (mkF m 5 #[.val (.int p1), .val (.int p2), .val (.int p3), .val (.int p4), .unset, .unset, .unset, .unset, .unset, .unset, .unset, .unset, .unset, .unset, .unset, .unset, .unset, .unset, .unset, .unset, .unset, .unset, .unset, .unset] [(.long ((p1 - (p1 / (1048576 : Int32)) * (1048576 : Int32)).toInt64))])) _
    rw [← hsc]
    refine XT.lstore X0.here hx rfl (hb hby at_5) rfl (l' := #[.val (.int p1), .val (.int p2), .val (.int p3), .val (.int p4), .val (.long sc), .second, .unset, .unset, .unset, .unset, .unset, .unset, .unset, .unset, .unset, .unset, .unset, .unset, .unset, .unset, .unset, .unset, .unset, .unset]) rfl ?_
    refine XS.iloadN X0.here hx rfl (hb hby at_7) rfl ?_
    refine Stand.ldcI X0 hx hown (v := (1048576 : Int32)) (mvT hZ (hw _ (List.mem_of_getElem? (i := 0) rfl))) rfl (hb hby at_8) ?_
    refine XS.irem X0.here hx rfl (hb hby at_10) rfl (by decide) ?_
    refine XT.i2l X0.here hx rfl (hb hby at_11) rfl ?_
    show Steps p.tables e below (s₁.setTop (mkF m 12 #[.val (.int p1), .val (.int p2), .val (.int p3), .val (.int p4), .val (.long sc), .second, .unset, .unset, .unset, .unset, .unset, .unset, .unset, .unset, .unset, .unset, .unset, .unset, .unset, .unset, .unset, .unset, .unset, .unset] [(.long ((p2 - (p2 / (1048576 : Int32)) * (1048576 : Int32)).toInt64))])) _
    rw [← hsh]
    refine XT.lstore X0.here hx rfl (hb hby at_12) rfl (l' := #[.val (.int p1), .val (.int p2), .val (.int p3), .val (.int p4), .val (.long sc), .second, .val (.long sh), .second, .unset, .unset, .unset, .unset, .unset, .unset, .unset, .unset, .unset, .unset, .unset, .unset, .unset, .unset, .unset, .unset]) rfl ?_
    refine XS.iloadN X0.here hx rfl (hb hby at_14) rfl ?_
    refine Stand.ldcI X0 hx hown (v := (1048576 : Int32)) (mvT hZ (hw _ (List.mem_of_getElem? (i := 0) rfl))) rfl (hb hby at_15) ?_
    refine XS.irem X0.here hx rfl (hb hby at_17) rfl (by decide) ?_
    refine XT.i2l X0.here hx rfl (hb hby at_18) rfl ?_
    show Steps p.tables e below (s₁.setTop (mkF m 19 #[.val (.int p1), .val (.int p2), .val (.int p3), .val (.int p4), .val (.long sc), .second, .val (.long sh), .second, .unset, .unset, .unset, .unset, .unset, .unset, .unset, .unset, .unset, .unset, .unset, .unset, .unset, .unset, .unset, .unset] [(.long ((p3 - (p3 / (1048576 : Int32)) * (1048576 : Int32)).toInt64))])) _
    rw [← hxx]
    refine XT.lstore X0.here hx rfl (hb hby at_19) rfl (l' := #[.val (.int p1), .val (.int p2), .val (.int p3), .val (.int p4), .val (.long sc), .second, .val (.long sh), .second, .val (.long xx), .second, .unset, .unset, .unset, .unset, .unset, .unset, .unset, .unset, .unset, .unset, .unset, .unset, .unset, .unset]) rfl ?_
    refine XS.iloadN X0.here hx rfl (hb hby at_21) rfl ?_
    refine Stand.ldcI X0 hx hown (v := (1048576 : Int32)) (mvT hZ (hw _ (List.mem_of_getElem? (i := 0) rfl))) rfl (hb hby at_22) ?_
    refine XS.irem X0.here hx rfl (hb hby at_24) rfl (by decide) ?_
    refine XT.i2l X0.here hx rfl (hb hby at_25) rfl ?_
    show Steps p.tables e below (s₁.setTop (mkF m 26 #[.val (.int p1), .val (.int p2), .val (.int p3), .val (.int p4), .val (.long sc), .second, .val (.long sh), .second, .val (.long xx), .second, .unset, .unset, .unset, .unset, .unset, .unset, .unset, .unset, .unset, .unset, .unset, .unset, .unset, .unset] [(.long ((p4 - (p4 / (1048576 : Int32)) * (1048576 : Int32)).toInt64))])) _
    rw [← hyy]
    refine XT.lstore X0.here hx rfl (hb hby at_26) rfl (l' := #[.val (.int p1), .val (.int p2), .val (.int p3), .val (.int p4), .val (.long sc), .second, .val (.long sh), .second, .val (.long xx), .second, .val (.long yy), .second, .unset, .unset, .unset, .unset, .unset, .unset, .unset, .unset, .unset, .unset, .unset, .unset]) rfl ?_
    refine st7 _ ?_
    refine XS.dup X7.here hx rfl (hb hby at_31) rfl rfl ?_
    refine XT.lload X7.here hx rfl (hb hby at_32) rfl ?_
    refine XS.l2dS X7.here hx rfl (hb hby at_34) rfl rfl ?_
    refine XT.lload X7.here hx rfl (hb hby at_35) rfl ?_
    refine XS.l2dS X7.here hx rfl (hb hby at_37) rfl rfl ?_
    refine st8.trans ?_
    show Steps p.tables e below (T8.setTop (mkF m 41 #[.val (.int p1), .val (.int p2), .val (.int p3), .val (.int p4), .val (.long sc), .second, .val (.long sh), .second, .val (.long xx), .second, .val (.long yy), .second, .unset, .unset, .unset, .unset, .unset, .unset, .unset, .unset, .unset, .unset, .unset, .unset] [(.ref a7)])) _
    refine XS.astore X8.here hx rfl (hb hby at_41) rfl rfl (l' := #[.val (.int p1), .val (.int p2), .val (.int p3), .val (.int p4), .val (.long sc), .second, .val (.long sh), .second, .val (.long xx), .second, .val (.long yy), .second, .val (.ref a7), .unset, .unset, .unset, .unset, .unset, .unset, .unset, .unset, .unset, .unset, .unset]) rfl ?_
    refine XS.aload X8.here hx rfl (hb hby at_43) rfl rfl ?_
    refine XT.lload X8.here hx rfl (hb hby at_45) rfl ?_
    refine XS.l2dS X8.here hx rfl (hb hby at_47) rfl rfl ?_
    refine st9.trans ?_
    show Steps p.tables e below (T9.setTop (mkF m 51 #[.val (.int p1), .val (.int p2), .val (.int p3), .val (.int p4), .val (.long sc), .second, .val (.long sh), .second, .val (.long xx), .second, .val (.long yy), .second, .val (.ref a7), .unset, .unset, .unset, .unset, .unset, .unset, .unset, .unset, .unset, .unset, .unset] [(.double (FP.dadd (FP.dmul (FP.l2d sc) (FP.l2d xx)) (FP.l2d sh)))])) _
    rw [e_fx]
    refine XS.dstore X9.here hx rfl (hb hby at_51) rfl (l' := #[.val (.int p1), .val (.int p2), .val (.int p3), .val (.int p4), .val (.long sc), .second, .val (.long sh), .second, .val (.long xx), .second, .val (.long yy), .second, .val (.ref a7), .val (.double fx), .second, .unset, .unset, .unset, .unset, .unset, .unset, .unset, .unset, .unset]) rfl ?_
    refine XS.aload X9.here hx rfl (hb hby at_53) rfl rfl ?_
    refine XT.lload X9.here hx rfl (hb hby at_55) rfl ?_
    refine XS.l2dS X9.here hx rfl (hb hby at_57) rfl rfl ?_
    refine st10.trans ?_
    show Steps p.tables e below (T10.setTop (mkF m 61 #[.val (.int p1), .val (.int p2), .val (.int p3), .val (.int p4), .val (.long sc), .second, .val (.long sh), .second, .val (.long xx), .second, .val (.long yy), .second, .val (.ref a7), .val (.double fx), .second, .unset, .unset, .unset, .unset, .unset, .unset, .unset, .unset, .unset] [(.double (FP.dadd (FP.dmul (FP.l2d sc) (FP.l2d yy)) (FP.l2d sh)))])) _
    rw [e_fy]
    refine XS.dstore X10.here hx rfl (hb hby at_61) rfl (l' := #[.val (.int p1), .val (.int p2), .val (.int p3), .val (.int p4), .val (.long sc), .second, .val (.long sh), .second, .val (.long xx), .second, .val (.long yy), .second, .val (.ref a7), .val (.double fx), .second, .val (.double fy), .second, .unset, .unset, .unset, .unset, .unset, .unset, .unset]) rfl ?_
    refine XS.aload X10.here hx rfl (hb hby at_63) rfl rfl ?_
    refine XT.lload X10.here hx rfl (hb hby at_65) rfl ?_
    refine XT.lload X10.here hx rfl (hb hby at_67) rfl ?_
    refine XT.ladd X10.here hx rfl (hb hby at_69) rfl ?_
    refine XS.l2dS X10.here hx rfl (hb hby at_70) rfl rfl ?_
    refine st11.trans ?_
    show Steps p.tables e below (T11.setTop (mkF m 74 #[.val (.int p1), .val (.int p2), .val (.int p3), .val (.int p4), .val (.long sc), .second, .val (.long sh), .second, .val (.long xx), .second, .val (.long yy), .second, .val (.ref a7), .val (.double fx), .second, .val (.double fy), .second, .unset, .unset, .unset, .unset, .unset, .unset, .unset] [(.double (FP.dadd (FP.dmul (FP.l2d sc) (FP.l2d (xx + yy))) (FP.l2d sh)))])) _
    rw [e_fz]
    refine XS.dstore X11.here hx rfl (hb hby at_74) rfl (l' := #[.val (.int p1), .val (.int p2), .val (.int p3), .val (.int p4), .val (.long sc), .second, .val (.long sh), .second, .val (.long xx), .second, .val (.long yy), .second, .val (.ref a7), .val (.double fx), .second, .val (.double fy), .second, .val (.double fz), .second, .unset, .unset, .unset, .unset, .unset]) rfl ?_
    refine XS.aload X11.here hx rfl (hb hby at_76) rfl rfl ?_
    refine XS.dconst0 X11.here hx rfl (v := (0 : UInt64)) (hb hby at_78) rfl ?_
    refine st12.trans ?_
    show Steps p.tables e below (T12.setTop (mkF m 82 #[.val (.int p1), .val (.int p2), .val (.int p3), .val (.int p4), .val (.long sc), .second, .val (.long sh), .second, .val (.long xx), .second, .val (.long yy), .second, .val (.ref a7), .val (.double fx), .second, .val (.double fy), .second, .val (.double fz), .second, .unset, .unset, .unset, .unset, .unset] [(.double (FP.dadd (FP.dmul (FP.l2d sc) (0 : UInt64)) (FP.l2d sh)))])) _
    rw [e_fo]
    exact Steps.refl _)
  have z3 : (sc.toInt * (0 : Int64).toInt) = 0 := by show sc.toInt * 0 = 0; omega
  have mz : sc.toInt * (xx + yy).toInt = sc.toInt * xx.toInt + sc.toInt * yy.toInt := by rw [exy, Int.mul_add]
  have a1 := FP.Core.dadd_int i2 j2 (by omega)
  have a2 := FP.Core.dadd_int m2 o2 (by omega)
  have c2 : Steps p.tables e below (s₁.setTop (entryFrame m #[(.int p1), (.int p2), (.int p3), (.int p4)] maxLocals)) (T12.setTop (mkF m 155 #[.val (.int p1), .val (.int p2), .val (.int p3), .val (.int p4), .val (.long sc), .second, .val (.long sh), .second, .val (.long xx), .second, .val (.long yy), .second, .val (.ref a7), .val (.double fx), .second, .val (.double fy), .second, .val (.double fz), .second, .val (.double fo), .second, .val (.int (1 : Int32)), .val (.int (1 : Int32)), .unset] [(.int (XT.cmpL sc (0 : Int64)))])) := c1.trans (by
    refine XS.dstore X12.here hx rfl (hb hby at_82) rfl (l' := #[.val (.int p1), .val (.int p2), .val (.int p3), .val (.int p4), .val (.long sc), .second, .val (.long sh), .second, .val (.long xx), .second, .val (.long yy), .second, .val (.ref a7), .val (.double fx), .second, .val (.double fy), .second, .val (.double fz), .second, .val (.double fo), .second, .unset, .unset, .unset]) rfl ?_
    refine XS.dload X12.here hx rfl (hb hby at_84) rfl ?_
    refine XT.lload X12.here hx rfl (hb hby at_86) rfl ?_
    refine XT.lload X12.here hx rfl (hb hby at_88) rfl ?_
    refine XT.lmul X12.here hx rfl (hb hby at_90) rfl ?_
    refine XT.lload X12.here hx rfl (hb hby at_91) rfl ?_
    refine XT.ladd X12.here hx rfl (hb hby at_93) rfl ?_
    refine XS.l2dS X12.here hx rfl (hb hby at_94) rfl rfl ?_
    refine XS.dcmpS X12.here hx rfl (hb hby at_95) rfl (own_eq0 i2 (FP.Core.l2d_int (a := sc * xx + sh) (by omega)) (by omega) _) ?_
    refine XS.ifNo X12.here hx rfl (hb hby at_96) rfl (XT.i0_ne_f rfl) ?_
    refine XS.dload X12.here hx rfl (hb hby at_99) rfl ?_
    refine XT.lload X12.here hx rfl (hb hby at_101) rfl ?_
    refine XT.lload X12.here hx rfl (hb hby at_103) rfl ?_
    refine XT.lmul X12.here hx rfl (hb hby at_105) rfl ?_
    refine XT.lload X12.here hx rfl (hb hby at_106) rfl ?_
    refine XT.ladd X12.here hx rfl (hb hby at_108) rfl ?_
    refine XS.l2dS X12.here hx rfl (hb hby at_109) rfl rfl ?_
    refine XS.dcmpS X12.here hx rfl (hb hby at_110) rfl (own_eq0 j2 (FP.Core.l2d_int (a := sc * yy + sh) (by omega)) (by omega) _) ?_
    refine XS.ifNo X12.here hx rfl (hb hby at_111) rfl (XT.i0_ne_f rfl) ?_
    refine XS.dload X12.here hx rfl (hb hby at_114) rfl ?_
    refine XT.lload X12.here hx rfl (hb hby at_116) rfl ?_
    refine XS.l2dS X12.here hx rfl (hb hby at_118) rfl rfl ?_
    refine XS.dcmpS X12.here hx rfl (hb hby at_119) rfl (own_eq0 o2 (FP.Core.l2d_int (a := sh) (by omega)) (by omega) _) ?_
    refine XS.ifNo X12.here hx rfl (hb hby at_120) rfl (XT.i0_ne_f rfl) ?_
    refine XT.iconstV X12.here hx rfl ((1 : Int32)) (hb hby at_123) (by decide) ?_
    refine XS.goto X12.here hx rfl (pc0 := 124) (pc' := 128) rfl (hb hby at_124) (by decide) (by decide) ?_
    refine XS.istore X12.here hx rfl (hb hby at_128) rfl (l' := #[.val (.int p1), .val (.int p2), .val (.int p3), .val (.int p4), .val (.long sc), .second, .val (.long sh), .second, .val (.long xx), .second, .val (.long yy), .second, .val (.ref a7), .val (.double fx), .second, .val (.double fy), .second, .val (.double fz), .second, .val (.double fo), .second, .val (.int (1 : Int32)), .unset, .unset]) rfl ?_
    refine XS.dload X12.here hx rfl (hb hby at_130) rfl ?_
    refine XS.dload X12.here hx rfl (hb hby at_132) rfl ?_
    refine XS.daddS X12.here hx rfl (hb hby at_134) rfl (own_nn a1) rfl ?_
    refine XS.dload X12.here hx rfl (hb hby at_135) rfl ?_
    refine XS.dload X12.here hx rfl (hb hby at_137) rfl ?_
    refine XS.daddS X12.here hx rfl (hb hby at_139) rfl (own_nn a2) rfl ?_
    refine XS.dcmpS X12.here hx rfl (hb hby at_140) rfl (own_eq0 a1 a2 (by omega) _) ?_
    refine XS.ifNo X12.here hx rfl (hb hby at_141) rfl (XT.i0_ne_f rfl) ?_
    refine XT.iconstV X12.here hx rfl ((1 : Int32)) (hb hby at_144) (by decide) ?_
    refine XS.goto X12.here hx rfl (pc0 := 145) (pc' := 149) rfl (hb hby at_145) (by decide) (by decide) ?_
    refine XS.istore X12.here hx rfl (hb hby at_149) rfl (l' := #[.val (.int p1), .val (.int p2), .val (.int p3), .val (.int p4), .val (.long sc), .second, .val (.long sh), .second, .val (.long xx), .second, .val (.long yy), .second, .val (.ref a7), .val (.double fx), .second, .val (.double fy), .second, .val (.double fz), .second, .val (.double fo), .second, .val (.int (1 : Int32)), .val (.int (1 : Int32)), .unset]) rfl ?_
    refine XT.lload X12.here hx rfl (hb hby at_151) rfl ?_
    refine XT.lconstV X12.here hx rfl ((0 : Int64)) (hb hby at_153) (by decide) ?_
    refine XT.lcmp X12.here hx rfl (hb hby at_154) rfl ?_
    exact Steps.refl _)
  have cJ : Steps p.tables e below (s₁.setTop (entryFrame m #[(.int p1), (.int p2), (.int p3), (.int p4)] maxLocals)) (T12.setTop (mkF m 174 #[.val (.int p1), .val (.int p2), .val (.int p3), .val (.int p4), .val (.long sc), .second, .val (.long sh), .second, .val (.long xx), .second, .val (.long yy), .second, .val (.ref a7), .val (.double fx), .second, .val (.double fy), .second, .val (.double fz), .second, .val (.double fo), .second, .val (.int (1 : Int32)), .val (.int (1 : Int32)), .unset] [])) := by
    by_cases h1 : ¬ (0 : Int64) < sc
    ·
      have r3 : Steps p.tables e below (s₁.setTop (entryFrame m #[(.int p1), (.int p2), (.int p3), (.int p4)] maxLocals)) (T12.setTop (mkF m 174 #[.val (.int p1), .val (.int p2), .val (.int p3), .val (.int p4), .val (.long sc), .second, .val (.long sh), .second, .val (.long xx), .second, .val (.long yy), .second, .val (.ref a7), .val (.double fx), .second, .val (.double fy), .second, .val (.double fz), .second, .val (.double fo), .second, .val (.int (1 : Int32)), .val (.int (1 : Int32)), .unset] [])) := c2.trans (by
        refine XS.ifYes X12.here hx rfl (pc0 := 155) (pc' := 174) rfl (hb hby at_155) rfl (XT.ll_le_t h1) (by decide) (by decide) ?_
        exact Steps.refl _)
      exact r3
    · by_cases h2 : ¬ xx < yy
      ·
        have r3 : Steps p.tables e below (s₁.setTop (entryFrame m #[(.int p1), (.int p2), (.int p3), (.int p4)] maxLocals)) (T12.setTop (mkF m 174 #[.val (.int p1), .val (.int p2), .val (.int p3), .val (.int p4), .val (.long sc), .second, .val (.long sh), .second, .val (.long xx), .second, .val (.long yy), .second, .val (.ref a7), .val (.double fx), .second, .val (.double fy), .second, .val (.double fz), .second, .val (.double fo), .second, .val (.int (1 : Int32)), .val (.int (1 : Int32)), .unset] [])) := c2.trans (by
          refine XS.ifNo X12.here hx rfl (hb hby at_155) rfl (XT.ll_le_f (Classical.not_not.mp h1)) ?_
          refine XT.lload X12.here hx rfl (hb hby at_158) rfl ?_
          refine XT.lload X12.here hx rfl (hb hby at_160) rfl ?_
          refine XT.lcmp X12.here hx rfl (hb hby at_162) rfl ?_
          refine XS.ifYes X12.here hx rfl (pc0 := 163) (pc' := 174) rfl (hb hby at_163) rfl (XT.ll_ge_t h2) (by decide) (by decide) ?_
          exact Steps.refl _)
        exact r3
      ·
        have r3 : Steps p.tables e below (s₁.setTop (entryFrame m #[(.int p1), (.int p2), (.int p3), (.int p4)] maxLocals)) (T12.setTop (mkF m 174 #[.val (.int p1), .val (.int p2), .val (.int p3), .val (.int p4), .val (.long sc), .second, .val (.long sh), .second, .val (.long xx), .second, .val (.long yy), .second, .val (.ref a7), .val (.double fx), .second, .val (.double fy), .second, .val (.double fz), .second, .val (.double fo), .second, .val (.int (1 : Int32)), .val (.int (1 : Int32)), .unset] [])) := c2.trans (by
          refine XS.ifNo X12.here hx rfl (hb hby at_155) rfl (XT.ll_le_f (Classical.not_not.mp h1)) ?_
          refine XT.lload X12.here hx rfl (hb hby at_158) rfl ?_
          refine XT.lload X12.here hx rfl (hb hby at_160) rfl ?_
          refine XT.lcmp X12.here hx rfl (hb hby at_162) rfl ?_
          refine XS.ifNo X12.here hx rfl (hb hby at_163) rfl (XT.ll_ge_f (Classical.not_not.mp h2)) ?_
          refine XS.dload X12.here hx rfl (hb hby at_166) rfl ?_
          refine XS.dload X12.here hx rfl (hb hby at_168) rfl ?_
          refine XS.dcmpS X12.here hx rfl (hb hby at_170) rfl (own_lt0 i2 j2 (own_mono (Classical.not_not.mp h1) (Classical.not_not.mp h2)) _) ?_
          refine XS.ifNo X12.here hx rfl (hb hby at_171) rfl (XT.i0_ge_f (by decide)) ?_
          exact Steps.refl _)
        exact r3
  have c3 : Steps p.tables e below (s₁.setTop (entryFrame m #[(.int p1), (.int p2), (.int p3), (.int p4)] maxLocals)) (T12.setTop (mkF m 201 #[.val (.int p1), .val (.int p2), .val (.int p3), .val (.int p4), .val (.long sc), .second, .val (.long sh), .second, .val (.long xx), .second, .val (.long yy), .second, .val (.ref a7), .val (.double fx), .second, .val (.double fy), .second, .val (.double fz), .second, .val (.double fo), .second, .val (.int (1 : Int32)), .val (.int (1 : Int32)), .val (.int (1 : Int32))] [(.int (1 : Int32))])) := cJ.trans (by
    refine XT.iconstV X12.here hx rfl ((1 : Int32)) (hb hby at_174) (by decide) ?_
    refine XS.goto X12.here hx rfl (pc0 := 175) (pc' := 179) rfl (hb hby at_175) (by decide) (by decide) ?_
    refine XS.istore X12.here hx rfl (hb hby at_179) rfl (l' := #[.val (.int p1), .val (.int p2), .val (.int p3), .val (.int p4), .val (.long sc), .second, .val (.long sh), .second, .val (.long xx), .second, .val (.long yy), .second, .val (.ref a7), .val (.double fx), .second, .val (.double fy), .second, .val (.double fz), .second, .val (.double fo), .second, .val (.int (1 : Int32)), .val (.int (1 : Int32)), .val (.int (1 : Int32))]) rfl ?_
    refine XS.iload X12.here hx rfl (hb hby at_181) rfl ?_
    refine XS.ifNo X12.here hx rfl (hb hby at_183) rfl (XT.i0_eq_f (by decide)) ?_
    refine XS.iload X12.here hx rfl (hb hby at_186) rfl ?_
    refine XS.ifNo X12.here hx rfl (hb hby at_188) rfl (XT.i0_eq_f (by decide)) ?_
    refine XS.iload X12.here hx rfl (hb hby at_191) rfl ?_
    refine XS.ifNo X12.here hx rfl (hb hby at_193) rfl (XT.i0_eq_f (by decide)) ?_
    refine XT.iconstV X12.here hx rfl ((1 : Int32)) (hb hby at_196) (by decide) ?_
    refine XS.goto X12.here hx rfl (pc0 := 197) (pc' := 201) rfl (hb hby at_197) (by decide) (by decide) ?_
    exact Steps.refl _)
  obtain ⟨fs, hr, hrun, hended, hW, hsame⟩ := X12.leave (v := some (.int (1 : Int32))) (fun h => by rw [Bd.returns] at h; cases h)
  refine ⟨_, _, c3.trans ?_, hrun, hended, _, _, rfl, ?_, ⟨_, rfl⟩, hW, hsame.mono (by decide) (by decide)⟩
  · exact retN X12 hx (t := .boolean) Bd.returns (by simp) (hb hby at_201) hr
  · show Q0 h0 n0 _ T12.heap _
    exact ⟨rfl, NN12⟩
set_option maxRecDepth 65536 in
set_option maxHeartbeats 40000000 in
theorem comes_1 {Post : Tables → Env → Array Value → State → Outcome → State → Prop} (hpost : ∀ tb e args s v u, (limb_1_1.after args s (.returned v) u = true ∧ limb_1_2.after args s (.returned v) u = true ∧ True) → FrameEnd s (.returned v) u (Jvm.fieldLocs frame_1_writes args s ++ Jvm.arrayLocs frame_1_arrays args s ++ Jvm.staticLocs frame_1_statics s) 16 128 → Post tb e args s (.returned v) u) :
    ArmFor flags0 classFile x code maxLocals ret World_1 tables_1 room_1 Calls_1 rest_1 Pre_1 Post := by
  intro l hfl _ _ p e ha hc hk s m args below hf hA hF happ hP
  obtain ⟨hcalls, hrest, hpre⟩ := hP
  obtain ⟨-, -, -, hnamed, -, -, -, hat⟩ := (Spec.applies_iff hf).mp happ
  obtain ⟨hg, hn⟩ := and_e (Cond.before_iff.mp (show (Jvm.Cond.and given_1 narrow_1).before args s = true from hpre))
  obtain ⟨h1, hA0⟩ := and_e hg
  obtain ⟨hI0, hA1⟩ := and_e hA0
  obtain ⟨hI1, hA2⟩ := and_e hA1
  obtain ⟨hI2, hA3⟩ := and_e hA2
  obtain ⟨w0, w1, w2, w3, rfl⟩ : ∃ w0 w1 w2 w3 : Value, args = #[w0, w1, w2, w3] := by
    have hs : args.size = 4 := by simpa [Cond.value, given_1] using h1
    obtain ⟨L⟩ := args
    match L, hs with
    | [w0, w1, w2, w3], _ => exact ⟨w0, w1, w2, w3, rfl⟩
  have hw := fun d (hd : d ∈ tables_1) => atoms_spec (ws := Jvm.Cond.code x code maxLocals ret :: tables_1) hat d (List.mem_cons_of_mem _ hd)
  have hfit : Fit s := fun {y c} hc i hi => by
    obtain ⟨ha, rfl⟩ := Array.getElem?_eq_some_iff.mp hc
    have q := List.all_eq_true.mp ((Array.all_eq_true_iff_forall_mem.mp hF) _ (Array.getElem_mem ha)) i (List.mem_range.mpr hi)
    simpa [Array.getElem?_eq_getElem hi] using q
  obtain ⟨i0, ei0⟩ := is_v hI0
  obtain rfl : w0 = (.int i0) := Option.some.inj ei0
  obtain ⟨i1, ei1⟩ := is_v hI1
  obtain rfl : w1 = (.int i1) := Option.some.inj ei1
  obtain ⟨i2, ei2⟩ := is_v hI2
  obtain rfl : w2 = (.int i2) := Option.some.inj ei2
  obtain ⟨i3, ei3⟩ := is_v hA3
  obtain rfl : w3 = (.int i3) := Option.some.inj ei3
  obtain ⟨n, o, h1, h2, h3, _, L, rfl, ⟨rfl, N⟩, hq⟩ := rm0 l s _ hw tables_1 i0 i1 i2 i3  s.heap s.heap.size (Nat.le_refl _)  p e ha hc hk s m _ below hf ((Spec.applies_iff_loose hf).mp happ).1 ⟨rfl, State.Warmed39.refl s, rfl⟩ trivial
  refine ⟨n, _, h1, h2, h3, hpost _ _ _ _ _ _ ⟨Cond.after_iff.mpr rfl, Cond.after_iff.mpr (eq_i res_at (Term.int_eval (1)) rfl), trivial⟩ ⟨hq.1, hq.2.1, (hq.2.2.sift fun y hy => Or.inr (N y hy)).mono (by decide) (by decide)⟩⟩
theorem main_1_1 : Claimed_1_1 := comes_1 fun _ _ _ _ _ _ h hF => ⟨h.1, hF⟩
theorem main_1_2 : Claimed_1_2 := comes_1 fun _ _ _ _ _ _ h hF => ⟨h.2.1, hF⟩
end Jvm.Pilot.@@N@@
namespace Jvm.Pilot.@@N@@
open Jvm Jvm.ClassFile Sem Op Lib Jvm.Free Jvm.Stand Jvm.Pilot.@@N@@.Jvm.D
/-! MADE BY PROGRAM (witnessworld.py) out of the Statement's table words and the real class files: 10 classes; the members and pool entries that the words name. The judged class is class 1, her method 1. -/
namespace start1
open Jvm.ClassFile
def u (s : String) : CpInfo := .utf8 (stringToUtf16 s)
/-- a pool by its gaps: so many unusable entries, then the entry; so many at the end -/
def gap : Nat → List CpInfo → List CpInfo
  | 0, r => r
  | n + 1, r => .unusable :: gap n r
def poolList (es : List (Nat × CpInfo)) (last : Nat) : List CpInfo := es.foldr (fun e r => gap e.1 (e.2 :: r)) (gap last [])
def pool (es : List (Nat × CpInfo)) (last : Nat) : Array CpInfo := ⟨poolList es last⟩
def fileOf (pool : Array CpInfo) (this : Nat) (attrs : Array Attribute := #[]) (ms : Array MethodInfo := #[]) (fl : Nat := 33) (sup : Nat := 0) (ifs : Array Nat := #[]) (fds : Array FieldInfo := #[]) : ClassFile where
  minorVersion := 0
  majorVersion := 65
  constantPool := pool
  accessFlags := fl
  thisClass := this
  superClass := sup
  interfaces := ifs
  fields := fds
  methods := ms
  attributes := attrs
def plain (name : String) (sup : Option ClassId) : Class where
  name := name
  kind := .ordinary
  loader := none
  accessFlags := 33
  super := sup
  interfaces := #[]
  cf := none
  fields := #[]
  methods := #[]
  instanceTypes := #[]
  staticTypes := #[]
  resolved := #[]
  callSites := []
  init := .initialized
  statics := none
  mirror := none

def pool0 : Array CpInfo := pool [(5, u "<init>"), (0, u "()V"), (1, .class_ 10), (1, u "java/lang/Object")] 113

def k0c0 : Code := { maxStack := 0, maxLocals := 1, code := object_method_1_code, exceptionTable := #[], attributes := #[] }
def k0m0 : Method := { name := "<init>", desc := "()V", sig := { parameters := [], returnType := none }, accessFlags := 1, code := some k0c0 }
/-- java/lang/Object -/
def k0 : Class := { plain "java/lang/Object" none with
  accessFlags := 33
  interfaces := #[]
  cf := some (fileOf pool0 8 #[] #[{ accessFlags := 1, nameIndex := 5, descriptorIndex := 6, attributes := #[] }] 33 0 #[] #[])
  fields := #[]
  methods := #[k0m0]
  instanceTypes := #[]
  staticTypes := #[]
  resolved := Array.replicate 124 none
  statics := none }

def pool1 : Array CpInfo := pool [(2, .class_ 4), (1, u "java/lang/Object"), (0, u "<init>"), (0, u "()V"), (0, .integer 1048576), (0, .class_ 9), (0, u "com/example/scentwalk/scentwalk/learn/Calibration"), (0, .methodref 8 11), (0, .nameAndType 5 12), (0, u "(DD)V"), (0, .methodref 8 14), (0, .nameAndType 15 16), (0, u "logOdds"), (0, u "(D)D"), (0, .class_ 18), (0, u "com/example/scentwalk/scentwalk/learn/CalibrationLogOddsPinLaw"), (2, u "law"), (0, u "(IIII)Z")] 3

def k1m0 : Method := { name := "<init>", desc := "()V", sig := { parameters := [], returnType := none }, accessFlags := 1, code := none }
def k1c1 : Code := { maxStack := 6, maxLocals := 24, code := code, exceptionTable := #[], attributes := #[] }
def k1m1 : Method := { name := "law", desc := "(IIII)Z", sig := { parameters := [.int, .int, .int, .int], returnType := some .boolean }, accessFlags := 9, code := some k1c1 }
/-- com/example/scentwalk/scentwalk/learn/CalibrationLogOddsPinLaw -/
def k1 : Class := { plain "com/example/scentwalk/scentwalk/learn/CalibrationLogOddsPinLaw" (some 0) with
  accessFlags := 49
  interfaces := #[]
  cf := some (fileOf pool1 17 #[] #[{ accessFlags := 1, nameIndex := 5, descriptorIndex := 6, attributes := #[] }, { accessFlags := 9, nameIndex := 21, descriptorIndex := 22, attributes := #[] }] 49 2 #[] #[])
  fields := #[]
  methods := #[k1m0, k1m1]
  instanceTypes := #[]
  staticTypes := #[]
  resolved := Array.replicate 26 none
  statics := none }

def pool2 : Array CpInfo := pool [(1, .methodref 2 3), (0, .class_ 4), (0, .nameAndType 5 6), (0, u "java/lang/Object"), (0, u "<init>"), (0, u "()V"), (0, .class_ 8), (0, u "java/lang/Record")] 13

def k2c0 : Code := { maxStack := 1, maxLocals := 1, code := jdk_30_method_1_code, exceptionTable := #[], attributes := #[] }
def k2m0 : Method := { name := "<init>", desc := "()V", sig := { parameters := [], returnType := none }, accessFlags := 4, code := some k2c0 }
/-- java/lang/Record -/
def k2 : Class := { plain "java/lang/Record" (some 0) with
  accessFlags := 1057
  interfaces := #[]
  cf := some (fileOf pool2 7 #[] #[{ accessFlags := 4, nameIndex := 5, descriptorIndex := 6, attributes := #[] }] 1057 2 #[] #[])
  fields := #[]
  methods := #[k2m0]
  instanceTypes := #[]
  staticTypes := #[]
  resolved := Array.replicate 22 none
  statics := none }

def pool3 : Array CpInfo := pool [(1, .methodref 2 3), (0, .class_ 4), (0, .nameAndType 5 6), (0, u "java/lang/Record"), (0, u "<init>"), (0, u "()V"), (0, .fieldref 8 9), (0, .class_ 10), (0, .nameAndType 11 12), (0, u "com/example/scentwalk/scentwalk/learn/Calibration"), (0, u "scale"), (0, u "D"), (0, .fieldref 8 14), (0, .nameAndType 15 12), (0, u "shift"), (5, u "(D)D"), (2, u "(DD)V"), (38, u "logOdds"), (17, u "PENALTY")] 36

def k3c0 : Code := { maxStack := 3, maxLocals := 5, code := prog_57_method_1_code, exceptionTable := #[], attributes := #[] }
def k3m0 : Method := { name := "<init>", desc := "(DD)V", sig := { parameters := [.double, .double], returnType := none }, accessFlags := 0, code := some k3c0 }
def k3c1 : Code := { maxStack := 4, maxLocals := 3, code := prog_57_method_4_code, exceptionTable := #[], attributes := #[] }
def k3m1 : Method := { name := "logOdds", desc := "(D)D", sig := { parameters := [.double], returnType := some .double }, accessFlags := 0, code := some k3c1 }
/-- com/example/scentwalk/scentwalk/learn/Calibration -/
def k3 : Class := { plain "com/example/scentwalk/scentwalk/learn/Calibration" (some 2) with
  accessFlags := 48
  interfaces := #[]
  cf := some (fileOf pool3 8 #[] #[{ accessFlags := 0, nameIndex := 5, descriptorIndex := 24, attributes := #[] }, { accessFlags := 0, nameIndex := 63, descriptorIndex := 21, attributes := #[] }] 48 2 #[] #[{ accessFlags := 18, nameIndex := 11, descriptorIndex := 12, attributes := #[] }, { accessFlags := 18, nameIndex := 15, descriptorIndex := 12, attributes := #[] }, { accessFlags := 26, nameIndex := 81, descriptorIndex := 12, attributes := #[] }])
  fields := #[{ name := "scale", type := .double, accessFlags := 18, slot := 0, constantValue := 0 }, { name := "shift", type := .double, accessFlags := 18, slot := 1, constantValue := 0 }, { name := "PENALTY", type := .double, accessFlags := 26, slot := 0, constantValue := 0 }]
  methods := #[k3m0, k3m1]
  instanceTypes := #[.double, .double]
  staticTypes := #[.double]
  resolved := Array.replicate 118 none
  statics := none }

def pool4 : Array CpInfo := pool [(1, u "java/lang/Cloneable"), (0, .class_ 1), (0, u "java/lang/Object"), (0, .class_ 3)] 3

/-- java/lang/Cloneable -/
def k4 : Class := { plain "java/lang/Cloneable" (some 0) with
  accessFlags := 1537
  interfaces := #[]
  cf := some (fileOf pool4 2 #[] #[] 1537 4 #[] #[])
  fields := #[]
  methods := #[]
  instanceTypes := #[]
  staticTypes := #[]
  resolved := Array.replicate 8 none
  statics := none }

def pool5 : Array CpInfo := pool [(1, u "java/io/Serializable"), (0, .class_ 1), (0, u "java/lang/Object"), (0, .class_ 3)] 3

/-- java/io/Serializable -/
def k5 : Class := { plain "java/io/Serializable" (some 0) with
  accessFlags := 1537
  interfaces := #[]
  cf := some (fileOf pool5 2 #[] #[] 1537 4 #[] #[])
  fields := #[]
  methods := #[]
  instanceTypes := #[]
  staticTypes := #[]
  resolved := Array.replicate 8 none
  statics := none }

/-- the primitive byte -/
def k6 : Class := { plain "byte" none with kind := .primitive 'B', accessFlags := 0x411 }
/-- [B -/
def k7 : Class := { plain "[B" (some 0) with kind := .array 6 .byte, interfaces := #[4, 5], accessFlags := 1041 }

/-- the primitive int -/
def k8 : Class := { plain "int" none with kind := .primitive 'I', accessFlags := 0x411 }
/-- [I -/
def k9 : Class := { plain "[I" (some 0) with kind := .array 8 .int, interfaces := #[4, 5], accessFlags := 1041 }

def heap : Heap := #[]
def classes : Array Class := #[k0, k1, k2, k3, k4, k5, k6, k7, k8, k9]
def interned : List (Array UInt16 × Addr) := []
def slotsUsed : Nat := 0
def theMethod : MethodId := ⟨1, 1⟩
def args0 : Array Value := #[.int 5, .int 7, .int 2, .int 3]
def aboutOver (below : List Frame) : State where
  vm := { classes := classes, interned := interned.toArray }
  heap := heap
  slotsUsed := slotsUsed
  threads := #[{ frames := .invoking theMethod args0 :: below }]
def below0 : List Frame := [.native { method := ⟨0, 0⟩, args := #[] }]
def about1 : State := aboutOver below0
def p0 : Program := .bare "" "" ""
def e0 : Env := launch0.env 0 0 0
theorem w_frames : about1.frames = Frame.invoking theMethod args0 :: below0 := rfl
set_option maxRecDepth 65536 in
theorem w_args : argsFit about1.vm theMethod args0 = true := by decide +kernel
set_option maxRecDepth 65536 in
theorem w_heap : heapFits about1 = true := by decide +kernel
set_option maxRecDepth 65536 in
theorem w_runnable : about1.curStatus? = some .runnable := by decide +kernel
set_option maxRecDepth 65536 in
theorem w_alone : about1.alone = true := by decide +kernel
set_option maxRecDepth 65536 in
theorem w_named : about1.methodNamed? x = some theMethod := by decide +kernel
set_option maxRecDepth 65536 in
theorem w_hears : about1.hears theMethod below0 = true := by decide +kernel
set_option maxRecDepth 65536 in
theorem w_ripe : about1.ripe theMethod args0 below0 = true := by decide +kernel
theorem w_running : about1.status = .running := rfl
set_option maxRecDepth 65536 in
theorem w_room : about1.hasRoom e0.platform room_1 = true :=
  launch0.hasRoom_least _ room_1 (by decide +kernel) (by decide +kernel) (by decide +kernel) (by decide +kernel) (by decide +kernel) (by decide +kernel)
theorem allAtoms_all (ts : List Jvm.Cond) (a : Array Jvm.Value) (st : Jvm.State) : (allAtoms ts).before a st = ts.all (fun c => c.before a st) := by
  induction ts with
  | nil => rfl
  | cons c t ih =>
    show (Jvm.Cond.and c (allAtoms t)).before a st = _
    rw [Jvm.Cond.before_and, ih, List.all_cons]
def words1 : List Jvm.Cond := Jvm.Cond.code x code maxLocals ret :: tables_1
/-- a 'code' word, met by the world's own term for the bytes: nothing is compared byte by byte -/
theorem code_word {y : MethodName} {bytes : ByteArray} {mx : Nat} {rt : Option FieldType} {a : Array Value} {s : State} {m : MethodId} {meth : Method} {c : Code} (h1 : s.methodNamed? y = some m) (h2 : s.vm.method? m = some meth) (h3 : meth.code = some c) (h4 : c.code = bytes)
    (h5 : (c.maxLocals == mx && c.exceptionTable.isEmpty && decide (c.maxStack ≤ mostOperands) && decide (meth.sig.returnType = rt) && !meth.locks && decide (parseMethodDescriptor y.desc = some meth.sig)) = true) : (Jvm.Cond.code y bytes mx rt).before a s = true := by
  simp only [Bool.and_eq_true, beq_iff_eq, Bool.not_eq_true', decide_eq_true_eq] at h5
  obtain ⟨⟨⟨⟨⟨g1, g2⟩, g3⟩, g4⟩, g5⟩, g6⟩ := h5
  simp [Cond.before, Cond.holds, Cond.value, h1, h2, h3, h4, g1, g2, g3, g4, g5, g6]
def isCode : Jvm.Cond → Bool
  | .code _ _ _ _ => true
  | _ => false
theorem all_split {L : List Jvm.Cond} {P : Jvm.Cond → Bool} (h1 : L.all (fun c => isCode c || P c) = true) (h2 : ∀ c ∈ L.filter isCode, P c = true) : L.all P = true := by
  refine List.all_eq_true.mpr fun c hc => ?_
  have h := List.all_eq_true.mp h1 c hc
  rcases Bool.eq_false_or_eq_true (isCode c) with hi | hi
  · exact h2 c (List.mem_filter.mpr ⟨hc, hi⟩)
  · simpa [hi] using h
set_option maxRecDepth 65536 in
theorem w_c0 : (Jvm.Cond.code x code maxLocals ret).before args0 about1 = true := code_word (m := ⟨1, 1⟩) (meth := k1m1) (c := k1c1) (by decide +kernel) rfl rfl rfl (by decide +kernel)
set_option maxRecDepth 65536 in
theorem w_c1 : (Jvm.Cond.code ({ cls := "com/example/scentwalk/scentwalk/learn/Calibration", name := "<init>", desc := "(DD)V" } : Jvm.MethodName) prog_57_method_1_code (5 : Nat) (Option.none : Option Jvm.ClassFile.FieldType)).before args0 about1 = true := code_word (m := ⟨3, 0⟩) (meth := k3m0) (c := k3c0) (by decide +kernel) rfl rfl rfl (by decide +kernel)
set_option maxRecDepth 65536 in
theorem w_c2 : (Jvm.Cond.code ({ cls := "java/lang/Record", name := "<init>", desc := "()V" } : Jvm.MethodName) jdk_30_method_1_code (1 : Nat) (Option.none : Option Jvm.ClassFile.FieldType)).before args0 about1 = true := code_word (m := ⟨2, 0⟩) (meth := k2m0) (c := k2c0) (by decide +kernel) rfl rfl rfl (by decide +kernel)
set_option maxRecDepth 65536 in
theorem w_c3 : (Jvm.Cond.code ({ cls := "java/lang/Object", name := "<init>", desc := "()V" } : Jvm.MethodName) object_method_1_code (1 : Nat) (Option.none : Option Jvm.ClassFile.FieldType)).before args0 about1 = true := code_word (m := ⟨0, 0⟩) (meth := k0m0) (c := k0c0) (by decide +kernel) rfl rfl rfl (by decide +kernel)
set_option maxRecDepth 65536 in
theorem w_c4 : (Jvm.Cond.code ({ cls := "com/example/scentwalk/scentwalk/learn/Calibration", name := "logOdds", desc := "(D)D" } : Jvm.MethodName) prog_57_method_4_code (3 : Nat) (Option.some Jvm.ClassFile.FieldType.double)).before args0 about1 = true := code_word (m := ⟨3, 1⟩) (meth := k3m1) (c := k3c1) (by decide +kernel) rfl rfl rfl (by decide +kernel)
def codes1 : List Jvm.Cond := [Jvm.Cond.code x code maxLocals ret, Jvm.Cond.code ({ cls := "com/example/scentwalk/scentwalk/learn/Calibration", name := "<init>", desc := "(DD)V" } : Jvm.MethodName) prog_57_method_1_code (5 : Nat) (Option.none : Option Jvm.ClassFile.FieldType), Jvm.Cond.code ({ cls := "java/lang/Record", name := "<init>", desc := "()V" } : Jvm.MethodName) jdk_30_method_1_code (1 : Nat) (Option.none : Option Jvm.ClassFile.FieldType), Jvm.Cond.code ({ cls := "java/lang/Object", name := "<init>", desc := "()V" } : Jvm.MethodName) object_method_1_code (1 : Nat) (Option.none : Option Jvm.ClassFile.FieldType), Jvm.Cond.code ({ cls := "com/example/scentwalk/scentwalk/learn/Calibration", name := "logOdds", desc := "(D)D" } : Jvm.MethodName) prog_57_method_4_code (3 : Nat) (Option.some Jvm.ClassFile.FieldType.double)]
set_option maxRecDepth 65536 in
theorem codes_eq : words1.filter isCode = codes1 := rfl
theorem w_codes : ∀ c ∈ words1.filter isCode, c.before args0 about1 = true := by
  rw [codes_eq]
  intro c hc
  simp only [codes1, List.mem_cons, List.not_mem_nil, or_false] at hc
  rcases hc with rfl | rfl | rfl | rfl | rfl
  · exact w_c0
  · exact w_c1
  · exact w_c2
  · exact w_c3
  · exact w_c4
set_option maxRecDepth 65536 in
theorem w_t1 : (words1.take 24).all (fun c => isCode c || c.before args0 about1) = true := by decide +kernel
set_option maxRecDepth 65536 in
theorem w_t2 : (words1.drop 24).all (fun c => isCode c || c.before args0 about1) = true := by decide +kernel
theorem w_tables : (allAtoms (Jvm.Cond.code x code maxLocals ret :: tables_1)).before args0 about1 = true := by
  rw [allAtoms_all]
  show words1.all (fun c => c.before args0 about1) = true
  refine all_split ?_ w_codes
  rw [← List.take_append_drop 24 words1, List.all_append, w_t1, w_t2]
  rfl
set_option maxRecDepth 65536 in
theorem w_case : (Jvm.Cond.and given_1 narrow_1).before args0 about1 = true := by decide +kernel
theorem w_applies : (headSpec (Jvm.Cond.code x code maxLocals ret :: tables_1) room_1).applies x e0.platform about1 = true :=
  (Spec.applies_iff w_frames).mpr ⟨w_running, w_runnable, w_alone, w_named, w_hears, w_ripe, w_room, w_tables⟩
theorem atStart : AtStart classFile x code maxLocals ret World_1 tables_1 room_1 Calls_1 rest_1 Pre_1 launch0 p0 e0 about1 theMethod args0 below0 :=
  ⟨lists_1, trivial, launch0.admits_env _ _ _, launch0.least_env, fairChoices_fair.cas, fairChoices_fair.clock, w_frames, w_args, w_heap, w_applies, trivial, trivial, w_case⟩
end start1
theorem witness_1 : WitnessClaimed_1 := ⟨start1.p0, start1.e0, start1.about1, start1.theMethod, start1.args0, start1.below0, start1.atStart⟩
end Jvm.Pilot.@@N@@
