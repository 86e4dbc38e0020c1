import JvmDerived
import JvmDerived.Pilot.@@N@@Statement
import JvmDerived.Pilot.@@N@@Code
set_option linter.unusedVariables false
set_option linter.unusedSimpArgs false
namespace Jvm.Pilot.@@N@@
open Jvm Jvm.ClassFile Sem Op Lib Jvm.Free Jvm.Stand Jvm.LawKit Jvm.RoadKit Bundle Jvm.Pilot.@@N@@.Jvm.D
section Own
variable {p : Program} {l : Launch} {e : Env} {R : Room} {s : State} {m : MethodId} {args : Array Value} {below : List Frame} {meth : Method} {c : Code} {T : State} {locs : List Loc} {cells slots : Nat}
/-- the return of a double -/
theorem own_retD (X : Stand p l e R s m args below meth c T locs cells slots) (hx : p.tables.exec = Jvm.exec) {pc : Nat} {Ls : Array Slot} {z : UInt64} {rest : List Value} (hret : meth.sig.returnType = some .double) (hd : decode c.code pc = .ok (.dreturn, 1)) {fs : List Frame}
    (hl : ∀ (f : JFrame) (acts : List Action), f.method = m → f.locked = none → f.entered = [] → (doReturn e (T.setTop f) acts (some (.double z))).1 = T.setFrames fs) : Steps p.tables e below (T.setTop (mkF m pc Ls (.double z :: rest))) (T.setFrames fs) := by
  have hm' : T.vm.method? m = some meth := X.method'
  have hn : narrow .double (.double z) = .double z := rfl
  show Steps p.tables e below (T.setTop { method := m, pc := pc, locals := Ls, stack := _ :: rest, locked := none }) _
  jvm_step X.here [X.here.top, hx, hd, hm', hret, hn]
  first | (intro acts; rw [hl _ acts rfl rfl rfl]) | rw [hl _ _ rfl rfl rfl]
  exact Steps.refl _
/-- the return of an int -/
theorem retI (X : Stand p l e R s m args below meth c T locs cells slots) (hx : p.tables.exec = Jvm.exec) {pc : Nat} {Ls : Array Slot} {z : Int32} {rest : List Value} (hret : meth.sig.returnType = some .int) (hd : decode c.code pc = .ok (.ireturn, 1)) {fs : List Frame}
    (hl : ∀ (f : JFrame) (acts : List Action), f.method = m → f.locked = none → f.entered = [] → (doReturn e (T.setTop f) acts (some (.int z))).1 = T.setFrames fs) : Steps p.tables e below (T.setTop (mkF m pc Ls (.int z :: rest))) (T.setFrames fs) := by
  have hm' : T.vm.method? m = some meth := X.method'
  have hn : narrow .int (.int z) = .int z := rfl
  show Steps p.tables e below (T.setTop { method := m, pc := pc, locals := Ls, stack := _ :: rest, locked := none }) _
  jvm_step X.here [X.here.top, hx, hd, hm', hret, hn]
  first | (intro acts; rw [hl _ acts rfl rfl rfl]) | rw [hl _ _ rfl rfl rfl]
  exact Steps.refl _
/-- a cell, read over the heap's other name -/
theorem own_at {h : Heap} {a : Addr} {cl : Cell} (q : T.heap = h) (k : h[a]? = some cl) : T.heap[a]? = some cl := by rw [q]; exact k
/-- the remainder as the machine reckons it is the remainder -/
theorem own_rem (x y : Int32) : x - (x / y) * y = x % y := by
  have a := c_isub x (x / y * y)
  have b := c_imul (x / y) y
  have e := bm32 (x.toInt.tdiv y.toInt)
  have f := Int.mul_tdiv_add_tmod x.toInt y.toInt
  have r := rng32 (x - x / y * y)
  have r' := rng32 (x % y)
  rw [← Int32.toInt_div] at e
  rw [← Int32.toInt_mod, Int.mul_comm] at f
  obtain ⟨k, hk⟩ : ∃ k, (x / y).toInt = x.toInt.tdiv y.toInt + 4294967296 * k := ⟨((x / y).toInt - x.toInt.tdiv y.toInt) / 4294967296, by omega⟩
  have g : (x / y).toInt * y.toInt = x.toInt.tdiv y.toInt * y.toInt + 4294967296 * (k * y.toInt) := by rw [hk, Int.add_mul, Int.mul_assoc]
  apply Int32.toInt_inj.mp
  omega
theorem own_irem {tb : Tables} [Ours tb] {target : State} {g : JFrame} (h : At T m c below) (hx : tb.exec = Jvm.exec) (hg : g.method = m) {x y : Int32} {rest : List Value} (hd : decode c.code g.pc = .ok (.irem, 1)) (hs : g.stack = .int y :: .int x :: rest) (hy : y ≠ 0)
    (hr : Steps tb e below (T.setTop { g with pc := g.pc + 1, stack := .int (x % y) :: rest }) target) : Steps tb e below (T.setTop g) target :=
  XS.irem h hx hg hd hs hy (by rw [own_rem]; exact hr)
end Own
def s26 (u : Int32) : Int32 := (u <<< ((6 : Int32) &&& 31)) >>> ((6 : Int32) &&& 31)
theorem s26_rng (u : Int32) : -33554432 ≤ (s26 u).toInt ∧ (s26 u).toInt < 33554432 := by
  unfold s26
  have k := c_ishr (u <<< ((6 : Int32) &&& 31)) 6 6 (by decide)
  have r := rng32 (u <<< ((6 : Int32) &&& 31))
  have : ((2 ^ 6 : Nat) : Int) = 64 := rfl
  rw [this] at k
  omega
theorem own_prod {i j : Int} (hi : -33554432 ≤ i ∧ i < 33554432) (hj : -33554432 ≤ j ∧ j < 33554432) : -1125899906842624 ≤ i * j ∧ i * j ≤ 1125899906842624 := by
  have h : (i * j).natAbs ≤ 33554432 * 33554432 := by rw [Int.natAbs_mul]; exact Nat.mul_le_mul (by omega) (by omega)
  omega
section Own2
open FP.Core
variable (x1 y1 z1 x2 y2 z2 : Int32)
abbrev dotE : UInt64 := FP.dadd (FP.dadd (FP.dmul (FP.i2d x1) (FP.i2d x2)) (FP.dmul (FP.i2d y1) (FP.i2d y2))) (FP.dmul (FP.i2d z1) (FP.i2d z2))
abbrev expE : Int64 := x1.toInt64 * x2.toInt64 + y1.toInt64 * y2.toInt64 + z1.toInt64 * z2.toInt64
theorem own_mul (h1 : -33554432 ≤ x1.toInt ∧ x1.toInt < 33554432) (h2 : -33554432 ≤ x2.toInt ∧ x2.toInt < 33554432) : DInt (x1.toInt * x2.toInt) (FP.dmul (FP.i2d x1) (FP.i2d x2)) :=
  dmul_int (i2d_int x1) (i2d_int x2) (by have := own_prod h1 h2; rw [← pow_53]; omega)
theorem own_mulL (h1 : -33554432 ≤ x1.toInt ∧ x1.toInt < 33554432) (h2 : -33554432 ≤ x2.toInt ∧ x2.toInt < 33554432) : (x1.toInt64 * x2.toInt64).toInt = x1.toInt * x2.toInt := by
  have k := own_prod h1 h2
  have := int64_mul (a := x1.toInt64) (b := x2.toInt64) (by rw [c_i2l, c_i2l]; omega) (by rw [c_i2l, c_i2l]; omega)
  rw [this, c_i2l, c_i2l]
theorem own_nn {i : Int} {a : UInt64} (h : DInt i a) : Jvm.Free.Fl.NoNaN64 a := Jvm.Free.Fl.val64_no.mpr (Whole.ne_nan h)
theorem own_sum2 (h1 : -33554432 ≤ x1.toInt ∧ x1.toInt < 33554432) (h2 : -33554432 ≤ x2.toInt ∧ x2.toInt < 33554432) (h3 : -33554432 ≤ y1.toInt ∧ y1.toInt < 33554432) (h4 : -33554432 ≤ y2.toInt ∧ y2.toInt < 33554432) :
    DInt (x1.toInt * x2.toInt + y1.toInt * y2.toInt) (FP.dadd (FP.dmul (FP.i2d x1) (FP.i2d x2)) (FP.dmul (FP.i2d y1) (FP.i2d y2))) :=
  dadd_int (own_mul x1 x2 h1 h2) (own_mul y1 y2 h3 h4) (by have := own_prod h1 h2; have := own_prod h3 h4; rw [← pow_53]; omega)
theorem own_sum3 (h1 : -33554432 ≤ x1.toInt ∧ x1.toInt < 33554432) (h2 : -33554432 ≤ x2.toInt ∧ x2.toInt < 33554432) (h3 : -33554432 ≤ y1.toInt ∧ y1.toInt < 33554432) (h4 : -33554432 ≤ y2.toInt ∧ y2.toInt < 33554432) (h5 : -33554432 ≤ z1.toInt ∧ z1.toInt < 33554432) (h6 : -33554432 ≤ z2.toInt ∧ z2.toInt < 33554432) :
    DInt (x1.toInt * x2.toInt + y1.toInt * y2.toInt + z1.toInt * z2.toInt) (dotE x1 y1 z1 x2 y2 z2) :=
  dadd_int (own_sum2 x1 y1 x2 y2 h1 h2 h3 h4) (own_mul z1 z2 h5 h6) (by have := own_prod h1 h2; have := own_prod h3 h4; have := own_prod h5 h6; rw [← pow_53]; omega)
theorem own_cmp (h1 : -33554432 ≤ x1.toInt ∧ x1.toInt < 33554432) (h2 : -33554432 ≤ x2.toInt ∧ x2.toInt < 33554432) (h3 : -33554432 ≤ y1.toInt ∧ y1.toInt < 33554432) (h4 : -33554432 ≤ y2.toInt ∧ y2.toInt < 33554432) (h5 : -33554432 ≤ z1.toInt ∧ z1.toInt < 33554432) (h6 : -33554432 ≤ z2.toInt ∧ z2.toInt < 33554432) :
    cmpValue (FP.dcmp (dotE x1 y1 z1 x2 y2 z2) (FP.l2d (expE x1 y1 z1 x2 y2 z2))) .l = 0 := by
  have p1 := own_prod h1 h2
  have p2 := own_prod h3 h4
  have p3 := own_prod h5 h6
  have e1 := own_mulL x1 x2 h1 h2
  have e2 := own_mulL y1 y2 h3 h4
  have e3 := own_mulL z1 z2 h5 h6
  have s1 := int64_add (a := x1.toInt64 * x2.toInt64) (b := y1.toInt64 * y2.toInt64) (by omega) (by omega)
  have s2 := int64_add (a := x1.toInt64 * x2.toInt64 + y1.toInt64 * y2.toInt64) (b := z1.toInt64 * z2.toInt64) (by omega) (by omega)
  have d1 := own_sum3 x1 y1 z1 x2 y2 z2 h1 h2 h3 h4 h5 h6
  have d2 : DInt (x1.toInt * x2.toInt + y1.toInt * y2.toInt + z1.toInt * z2.toInt) (FP.l2d (expE x1 y1 z1 x2 y2 z2)) := by
    have : (expE x1 y1 z1 x2 y2 z2).toInt = x1.toInt * x2.toInt + y1.toInt * y2.toInt + z1.toInt * z2.toInt := by rw [s2, s1, e1, e2, e3]
    rw [← this]
    exact l2d_int (by rw [this, ← pow_53]; omega)
  rw [show FP.dcmp (dotE x1 y1 z1 x2 y2 z2) (FP.l2d (expE x1 y1 z1 x2 y2 z2)) = _ from dcmp_int d1 d2, compare_self_int]
  rfl
end Own2
section Own3
open Jvm.Free.Fl
theorem own_mag2 (x y : Int32) : Mag64 1058 (FP.dadd (FP.i2d x) (FP.i2d y)) := dadd_mag (i2d_mag x) (i2d_mag y) (by decide)
theorem own_mag3 (x y z : Int32) : Mag64 1060 (FP.dadd (FP.dadd (FP.i2d x) (FP.i2d y)) (FP.i2d z)) := dadd_mag (own_mag2 x y) ((i2d_mag z).mono (by decide)) (by decide)
end Own3
theorem d_jdk_30_method_1_code_0 : decode jdk_30_method_1_code 0 = .ok (.aload_n 0, 1) := by decide +kernel
theorem d_jdk_30_method_1_code_1 : decode jdk_30_method_1_code 1 = .ok (.invokespecial 1, 3) := by decide +kernel
theorem d_jdk_30_method_1_code_4 : decode jdk_30_method_1_code 4 = .ok (.return_, 1) := by decide +kernel
theorem d_jdk_117_method_8_code_0 : decode jdk_117_method_8_code 0 = .ok (.dload_n 0, 1) := by decide +kernel
theorem d_jdk_117_method_8_code_1 : decode jdk_117_method_8_code 1 = .ok (.invokestatic 38, 3) := by decide +kernel
theorem d_jdk_117_method_8_code_4 : decode jdk_117_method_8_code 4 = .ok (.ldc2_w 111, 3) := by decide +kernel
theorem d_jdk_117_method_8_code_7 : decode jdk_117_method_8_code 7 = .ok (.dcmp .g, 1) := by decide +kernel
theorem d_jdk_117_method_8_code_8 : decode jdk_117_method_8_code 8 = .ok (.ifCond .gt 7, 3) := by decide +kernel
theorem d_jdk_117_method_8_code_11 : decode jdk_117_method_8_code 11 = .ok (.iconst 1, 1) := by decide +kernel
theorem d_jdk_117_method_8_code_12 : decode jdk_117_method_8_code 12 = .ok (.goto 4, 3) := by decide +kernel
theorem d_jdk_117_method_8_code_16 : decode jdk_117_method_8_code 16 = .ok (.ireturn, 1) := by decide +kernel
theorem d_prog_10_method_19_code_0 : decode prog_10_method_19_code 0 = .ok (.dload_n 0, 1) := by decide +kernel
theorem d_prog_10_method_19_code_1 : decode prog_10_method_19_code 1 = .ok (.dload_n 2, 1) := by decide +kernel
theorem d_prog_10_method_19_code_2 : decode prog_10_method_19_code 2 = .ok (.dadd, 1) := by decide +kernel
theorem d_prog_10_method_19_code_3 : decode prog_10_method_19_code 3 = .ok (.dload 4, 2) := by decide +kernel
theorem d_prog_10_method_19_code_5 : decode prog_10_method_19_code 5 = .ok (.dadd, 1) := by decide +kernel
theorem d_prog_10_method_19_code_6 : decode prog_10_method_19_code 6 = .ok (.invokestatic 94, 3) := by decide +kernel
theorem d_prog_10_method_19_code_9 : decode prog_10_method_19_code 9 = .ok (.ifCond .ne 22, 3) := by decide +kernel
theorem d_prog_10_method_19_code_31 : decode prog_10_method_19_code 31 = .ok (.return_, 1) := by decide +kernel
theorem d_prog_10_method_1_code_0 : decode prog_10_method_1_code 0 = .ok (.aload_n 0, 1) := by decide +kernel
theorem d_prog_10_method_1_code_1 : decode prog_10_method_1_code 1 = .ok (.invokespecial 1, 3) := by decide +kernel
theorem d_prog_10_method_1_code_4 : decode prog_10_method_1_code 4 = .ok (.dload_n 1, 1) := by decide +kernel
theorem d_prog_10_method_1_code_5 : decode prog_10_method_1_code 5 = .ok (.dload_n 3, 1) := by decide +kernel
theorem d_prog_10_method_1_code_6 : decode prog_10_method_1_code 6 = .ok (.dload 5, 2) := by decide +kernel
theorem d_prog_10_method_1_code_8 : decode prog_10_method_1_code 8 = .ok (.invokestatic 7, 3) := by decide +kernel
theorem d_prog_10_method_1_code_11 : decode prog_10_method_1_code 11 = .ok (.aload_n 0, 1) := by decide +kernel
theorem d_prog_10_method_1_code_12 : decode prog_10_method_1_code 12 = .ok (.dload_n 1, 1) := by decide +kernel
theorem d_prog_10_method_1_code_13 : decode prog_10_method_1_code 13 = .ok (.putfield 13, 3) := by decide +kernel
theorem d_prog_10_method_1_code_16 : decode prog_10_method_1_code 16 = .ok (.aload_n 0, 1) := by decide +kernel
theorem d_prog_10_method_1_code_17 : decode prog_10_method_1_code 17 = .ok (.dload_n 3, 1) := by decide +kernel
theorem d_prog_10_method_1_code_18 : decode prog_10_method_1_code 18 = .ok (.putfield 17, 3) := by decide +kernel
theorem d_prog_10_method_1_code_21 : decode prog_10_method_1_code 21 = .ok (.aload_n 0, 1) := by decide +kernel
theorem d_prog_10_method_1_code_22 : decode prog_10_method_1_code 22 = .ok (.dload 5, 2) := by decide +kernel
theorem d_prog_10_method_1_code_24 : decode prog_10_method_1_code 24 = .ok (.putfield 20, 3) := by decide +kernel
theorem d_prog_10_method_1_code_27 : decode prog_10_method_1_code 27 = .ok (.return_, 1) := by decide +kernel
theorem d_method_2_code_0 : decode method_2_code 0 = .ok (.iload_n 0, 1) := by decide +kernel
theorem d_method_2_code_1 : decode method_2_code 1 = .ok (.bipush 6, 2) := by decide +kernel
theorem d_method_2_code_3 : decode method_2_code 3 = .ok (.ishl, 1) := by decide +kernel
theorem d_method_2_code_4 : decode method_2_code 4 = .ok (.bipush 6, 2) := by decide +kernel
theorem d_method_2_code_6 : decode method_2_code 6 = .ok (.ishr, 1) := by decide +kernel
theorem d_method_2_code_7 : decode method_2_code 7 = .ok (.ireturn, 1) := by decide +kernel
theorem d_prog_10_method_7_code_0 : decode prog_10_method_7_code 0 = .ok (.aload_n 0, 1) := by decide +kernel
theorem d_prog_10_method_7_code_1 : decode prog_10_method_7_code 1 = .ok (.getfield 13, 3) := by decide +kernel
theorem d_prog_10_method_7_code_4 : decode prog_10_method_7_code 4 = .ok (.aload_n 1, 1) := by decide +kernel
theorem d_prog_10_method_7_code_5 : decode prog_10_method_7_code 5 = .ok (.getfield 13, 3) := by decide +kernel
theorem d_prog_10_method_7_code_8 : decode prog_10_method_7_code 8 = .ok (.dmul, 1) := by decide +kernel
theorem d_prog_10_method_7_code_9 : decode prog_10_method_7_code 9 = .ok (.aload_n 0, 1) := by decide +kernel
theorem d_prog_10_method_7_code_10 : decode prog_10_method_7_code 10 = .ok (.getfield 17, 3) := by decide +kernel
theorem d_prog_10_method_7_code_13 : decode prog_10_method_7_code 13 = .ok (.aload_n 1, 1) := by decide +kernel
theorem d_prog_10_method_7_code_14 : decode prog_10_method_7_code 14 = .ok (.getfield 17, 3) := by decide +kernel
theorem d_prog_10_method_7_code_17 : decode prog_10_method_7_code 17 = .ok (.dmul, 1) := by decide +kernel
theorem d_prog_10_method_7_code_18 : decode prog_10_method_7_code 18 = .ok (.dadd, 1) := by decide +kernel
theorem d_prog_10_method_7_code_19 : decode prog_10_method_7_code 19 = .ok (.aload_n 0, 1) := by decide +kernel
theorem d_prog_10_method_7_code_20 : decode prog_10_method_7_code 20 = .ok (.getfield 20, 3) := by decide +kernel
theorem d_prog_10_method_7_code_23 : decode prog_10_method_7_code 23 = .ok (.aload_n 1, 1) := by decide +kernel
theorem d_prog_10_method_7_code_24 : decode prog_10_method_7_code 24 = .ok (.getfield 20, 3) := by decide +kernel
theorem d_prog_10_method_7_code_27 : decode prog_10_method_7_code 27 = .ok (.dmul, 1) := by decide +kernel
theorem d_prog_10_method_7_code_28 : decode prog_10_method_7_code 28 = .ok (.dadd, 1) := by decide +kernel
theorem d_prog_10_method_7_code_29 : decode prog_10_method_7_code 29 = .ok (.dreturn, 1) := by decide +kernel
theorem pn_jdk_30_method_1_code : plainName "java/lang/Record" = true := by first | (simp [plainName, overriddenIn]; done) | decide +kernel
theorem pn_jdk_117_method_8_code : plainName "java/lang/Double" = true := by first | (simp [plainName, overriddenIn]; done) | decide +kernel
theorem pn_prog_10_method_19_code : plainName "com/example/gyrokin/gyrokin/Vector3" = true := by first | (simp [plainName, overriddenIn]; done) | decide +kernel
theorem pn_prog_10_method_1_code : plainName "com/example/gyrokin/gyrokin/Vector3" = true := by first | (simp [plainName, overriddenIn]; done) | decide +kernel
theorem pn_method_2_code : plainName "com/example/gyrokin/gyrokin/Vector3DotPinLaw" = true := by first | (simp [plainName, overriddenIn]; done) | decide +kernel
theorem pn_prog_10_method_7_code : plainName "com/example/gyrokin/gyrokin/Vector3" = true := by first | (simp [plainName, overriddenIn]; done) | decide +kernel
theorem pn_code : plainName "com/example/gyrokin/gyrokin/Vector3DotPinLaw" = true := by first | (simp [plainName, overriddenIn]; done) | decide +kernel
theorem pd___V : parseMethodDescriptor "()V" = some ⟨[], none⟩ := by decide +kernel
theorem pd__D_D : parseMethodDescriptor "(D)D" = some ⟨[.double], some .double⟩ := by decide +kernel
theorem pd__D_Z : parseMethodDescriptor "(D)Z" = some ⟨[.double], some .boolean⟩ := by decide +kernel
theorem pd__DDD_V : parseMethodDescriptor "(DDD)V" = some ⟨[.double, .double, .double], none⟩ := by decide +kernel
theorem pd__I_I : parseMethodDescriptor "(I)I" = some ⟨[.int], some .int⟩ := by decide +kernel
theorem pd__Lcom_example_gyrokin_gyrokin_Vector3__D : parseMethodDescriptor "(Lcom/example/gyrokin/gyrokin/Vector3;)D" = some ⟨[(.object "com/example/gyrokin/gyrokin/Vector3")], some .double⟩ := by decide +kernel
def QU (n0 : Nat) (h0 : Heap) (v : Option Value) (h : Heap) (L : List Loc) : Prop := v = none ∧ Fr n0 L ∧ h = h0
def QV (r : Value) (n0 : Nat) (h0 : Heap) (v : Option Value) (h : Heap) (L : List Loc) : Prop := v = some r ∧ Fr n0 L ∧ h = h0
def QC (Z : State) (a : Addr) (x0 x1 x2 : UInt64) (n0 : Nat) (h0 : Heap) (v : Option Value) (h : Heap) (L : List Loc) : Prop :=
  v = none ∧ Fr n0 L ∧ Keep h0 h [a] ∧ Exa Z h a "com/example/gyrokin/gyrokin/Vector3" ∧ Fld Z h a "com/example/gyrokin/gyrokin/Vector3" "x" "D" (.double x0) ∧ Fld Z h a "com/example/gyrokin/gyrokin/Vector3" "y" "D" (.double x1) ∧ Fld Z h a "com/example/gyrokin/gyrokin/Vector3" "z" "D" (.double x2)
theorem own_fin {x : UInt64} (h : Jvm.Free.Fl.Fin64 x) : ¬ (0 < cmpValue (FP.dcmp (x &&& 0x7fffffffffffffff) 9218868437227405311) .g) := by
  have k := (FP.Core.le_max (Jvm.Free.Fl.noNaN64_no.mp h.noNaN)).mpr (Jvm.Free.Fl.fin64_core.mp h)
  rcases k with k | k
  · rw [show FP.dcmp (x &&& 0x7fffffffffffffff) 9218868437227405311 = some .lt from k]; decide
  · rw [show FP.dcmp (x &&& 0x7fffffffffffffff) 9218868437227405311 = some .eq from k]; decide
def Q0 (n0 : Nat) (v : Option Value) (h : Heap) (L : List Loc) : Prop := v = some (.int 1) ∧ Fr n0 L
theorem ef_jdk_30_method_1_code (m : MethodId) (x0 : Addr) : entryFrame m #[(.ref x0)] 1 = mkF m 0 #[.val (.ref x0)] [] := by first | (simp [entryFrame, mkF, argsToLocals, Value.category]; done) | rfl
set_option maxRecDepth 65536 in
set_option maxHeartbeats 40000000 in
theorem rmR (l : Launch) (Z : State) (a0 : Array Value) (hw : ∀ d ∈ tables_1, d.before a0 Z = true) (ws : List Jvm.Cond) (a : Addr) (h0 : Heap) (n0 : Nat) (Z0 : n0 ≤ h0.size) :
    MetFree l (⟨"java/lang/Record", "<init>", "()V"⟩ : MethodName) (head1 (Jvm.Cond.code (⟨"java/lang/Record", "<init>", "()V"⟩ : MethodName) jdk_30_method_1_code 1 none :: ws) ({ frames := 1, cells := 0, slots := 0, locals := 12 } : Room)) (fun aa U => aa = #[(.ref a)] ∧ Z.Warmed39 U.vm ∧ U.heap = h0) (fun _ _ _ _ _ => True) (fun _ U o U' => ∃ v L, o = .returned v ∧ QU n0 h0 v U'.heap L ∧ FrameEnd U o U' L ({ frames := 1, cells := 0, slots := 0, locals := 12 } : Room).cells ({ frames := 1, cells := 0, slots := 0, locals := 12 } : Room).slots) := by
  refine MetFree.of_bodySF (plainFor_of_name pn_jdk_30_method_1_code) hisR ?_
  intro p e s m args below meth c s₁ Bd hml0 hP hK
  obtain ⟨rfl, hZ, hh⟩ := hP
  have hx := Bd.exec
  have hby := Bd.bytes
  have hml : c.maxLocals = 1 := hml0
  have hown : s.vm.findClass "java/lang/Record" = some m.cls := findClass_of_methodNamed Bd.named
  have hnm := (name_of_methodNamed Bd.named Bd.method).1
  have X0 : Stand p l e ({ frames := 1, cells := 0, slots := 0, locals := 12 } : Room) s m #[(.ref a)] below meth c s₁ [] 0 0 := Stand.of_body Bd
  have e0 : s₁.heap = h0 := by rw [← hh, Bd.state]; rfl
  have N0 := Fr.nil n0
  have pre0 : ∀ t, Steps p.tables e below (s₁.setTop (mkF m 0 #[.val (.ref a)] [])) t → Steps p.tables e below (s₁.setTop (entryFrame m #[(.ref a)] 1)) t := fun t k => castTop (ef_jdk_30_method_1_code m a) k
  obtain ⟨T1, X1, e1, st1⟩ := initO X0 hx hZ hown (hw _ (List.mem_of_getElem? (i := 15) rfl)) (hw _ (List.mem_of_getElem? (i := 16) rfl)) (hw _ (List.mem_of_getElem? (i := 17) rfl)) e0 (g := (mkF m 1 #[.val (.ref a)] [(.ref a)])) rfl (by rw [hml]; rfl) rfl (hb hby d_jdk_30_method_1_code_1) (by decide) (W := 0) (by show 2 * 0 + _ ≤ _; exact Nat.le_of_eq rfl) (by decide)
  obtain ⟨fs, hr, hrun, hended, hW, hsame⟩ := X1.leave (v := none) (fun _ => rfl)
  refine ⟨_, _, pre0 _ ?_, hrun, hended, _, _, rfl, ?_, ⟨_, rfl⟩, hW, hsame.mono (by decide) (by decide)⟩
  · show Steps p.tables e below (s₁.setTop (mkF m 0 #[.val (.ref a)] [])) _
    refine XS.aloadN X0.here hx rfl (hb hby d_jdk_30_method_1_code_0) rfl rfl ?_
    show Steps p.tables e below (s₁.setTop (mkF m 1 #[.val (.ref a)] [(.ref a)])) _
    refine st1 _ ?_
    show Steps p.tables e below (T1.setTop (mkF m 4 #[.val (.ref a)] [])) _
    exact X1.returnOut hx Bd.returns (hb hby d_jdk_30_method_1_code_4) hr
  · show QU n0 h0 _ T1.heap _
    rw [e1]
    exact ⟨rfl, N0, rfl⟩
theorem ef_jdk_117_method_8_code (m : MethodId) (x0 : UInt64) : entryFrame m #[(.double x0)] 2 = mkF m 0 #[.val (.double x0), .second] [] := by first | (simp [entryFrame, mkF, argsToLocals, Value.category]; done) | rfl
set_option maxRecDepth 65536 in
set_option maxHeartbeats 40000000 in
theorem rmF (l : Launch) (Z : State) (a0 : Array Value) (hw : ∀ d ∈ tables_1, d.before a0 Z = true) (ws : List Jvm.Cond) (x0 : UInt64) (h0 : Heap) (n0 : Nat) (Z0 : n0 ≤ h0.size) (hf : Jvm.Free.Fl.Fin64 x0) :
    MetFree l (⟨"java/lang/Double", "isFinite", "(D)Z"⟩ : MethodName) (head1 (Jvm.Cond.code (⟨"java/lang/Double", "isFinite", "(D)Z"⟩ : MethodName) jdk_117_method_8_code 2 (some .boolean) :: ws) ({ frames := 1, cells := 0, slots := 0, locals := 13 } : Room)) (fun aa U => aa = #[(.double x0)] ∧ Z.Warmed39 U.vm ∧ U.heap = h0) (fun _ _ _ _ _ => True) (fun _ U o U' => ∃ v L, o = .returned v ∧ QV (.int 1) n0 h0 v U'.heap L ∧ FrameEnd U o U' L ({ frames := 1, cells := 0, slots := 0, locals := 13 } : Room).cells ({ frames := 1, cells := 0, slots := 0, locals := 13 } : Room).slots) := by
  refine MetFree.of_bodySF (plainFor_of_name pn_jdk_117_method_8_code) hisR ?_
  intro p e s m args below meth c s₁ Bd hml0 hP hK
  obtain ⟨rfl, hZ, hh⟩ := hP
  have hx := Bd.exec
  have hby := Bd.bytes
  have hml : c.maxLocals = 2 := hml0
  have hown : s.vm.findClass "java/lang/Double" = some m.cls := findClass_of_methodNamed Bd.named
  have hnm := (name_of_methodNamed Bd.named Bd.method).1
  have X0 : Stand p l e ({ frames := 1, cells := 0, slots := 0, locals := 13 } : Room) s m #[(.double x0)] below meth c s₁ [] 0 0 := Stand.of_body Bd
  have e0 : s₁.heap = h0 := by rw [← hh, Bd.state]; rfl
  have N0 := Fr.nil n0
  have pre0 : ∀ t, Steps p.tables e below (s₁.setTop (mkF m 0 #[.val (.double x0), .second] [])) t → Steps p.tables e below (s₁.setTop (entryFrame m #[(.double x0)] 2)) t := fun t k => castTop (ef_jdk_117_method_8_code m x0) k
  obtain ⟨T1, X1, e1, st1⟩ := natS X0 hx hZ (a0 := a0) hown (hw _ (List.mem_of_getElem? (i := 25) rfl)) (hw _ (List.mem_of_getElem? (i := 26) rfl)) (hw _ (List.mem_of_getElem? (i := 27) rfl)) (hw _ (List.mem_of_getElem? (i := 28) rfl)) (by decide) e0 (W := 0) (F := fun a' => a' = #[.double x0] ∧ Jvm.Free.Fl.NoNaN64 x0) (val := .double (x0 &&& 0x7fffffffffffffff)) (val' := .double (x0 &&& 0x7fffffffffffffff)) (fun c4 => Jvm.Free.Fl.Abs.absD_pays x0 c4 (by decide) (by decide)) (g := (mkF m 1 #[.val (.double x0), .second] [(.double x0)])) rfl (by rw [hml]; rfl) (argsL := [.double x0]) (rest := []) (lenOf pd__D_D rfl) rfl (by show 2 * 0 + _ ≤ _; exact Nat.le_of_eq rfl) (hb hby d_jdk_117_method_8_code_1) (by decide) (by decide) ⟨rfl, (hf.noNaN)⟩ rfl
  obtain ⟨fs, hr, hrun, hended, hW, hsame⟩ := X1.leave (v := some (.int (1 : Int32))) (fun h => by rw [Bd.returns] at h; cases h)
  refine ⟨_, _, pre0 _ ?_, hrun, hended, _, _, rfl, ?_, ⟨_, rfl⟩, hW, hsame.mono (by decide) (by decide)⟩
  · show Steps p.tables e below (s₁.setTop (mkF m 0 #[.val (.double x0), .second] [])) _
    refine XS.dloadN X0.here hx rfl (hb hby d_jdk_117_method_8_code_0) rfl ?_
    show Steps p.tables e below (s₁.setTop (mkF m 1 #[.val (.double x0), .second] [(.double x0)])) _
    refine st1 _ ?_
    show Steps p.tables e below (T1.setTop (mkF m 4 #[.val (.double x0), .second] [(.double (x0 &&& 0x7fffffffffffffff))])) _
    refine X1.ldc2DoubleC hx hown (mvT hZ (hw _ (List.mem_of_getElem? (i := 29) rfl))) (g := (mkF m 4 #[.val (.double x0), .second] [(.double (x0 &&& 0x7fffffffffffffff))])) rfl (hb hby d_jdk_117_method_8_code_4) _ ?_
    show Steps p.tables e below (T1.setTop (mkF m 7 #[.val (.double x0), .second] [(.double (9218868437227405311 : UInt64)), (.double (x0 &&& 0x7fffffffffffffff))])) _
    refine XS.dcmpS X1.here hx rfl (hb hby d_jdk_117_method_8_code_7) rfl (v := (cmpValue (FP.dcmp (x0 &&& 0x7fffffffffffffff) (9218868437227405311 : UInt64)) .g)) rfl ?_
    show Steps p.tables e below (T1.setTop (mkF m 8 #[.val (.double x0), .second] [(.int (cmpValue (FP.dcmp (x0 &&& 0x7fffffffffffffff) (9218868437227405311 : UInt64)) .g))])) _
    refine XS.ifNo X1.here hx rfl (hb hby d_jdk_117_method_8_code_8) rfl ((if0 _ _).trans (flt (own_fin hf : ¬ ((0 : Int32) < (cmpValue (FP.dcmp (x0 &&& 0x7fffffffffffffff) (9218868437227405311 : UInt64)) .g)))).2.2.1) ?_
    show Steps p.tables e below (T1.setTop (mkF m 11 #[.val (.double x0), .second] [])) _
    refine XS.iconst X1.here hx rfl (hb hby d_jdk_117_method_8_code_11) ?_
    show Steps p.tables e below (T1.setTop (mkF m 12 #[.val (.double x0), .second] [(.int (1 : Int32))])) _
    refine XS.goto X1.here hx rfl (pc0 := 12) (pc' := 16) rfl (hb hby d_jdk_117_method_8_code_12) (by decide) (by decide) ?_
    show Steps p.tables e below (T1.setTop (mkF m 16 #[.val (.double x0), .second] [(.int (1 : Int32))])) _
    exact retN X1 hx (t := .boolean) Bd.returns (by simp) (hb hby d_jdk_117_method_8_code_16) hr
  · show QV (.int 1) n0 h0 _ T1.heap _
    rw [e1]
    exact ⟨rfl, N0, rfl⟩
theorem ef_prog_10_method_19_code (m : MethodId) (x0 : UInt64) (x1 : UInt64) (x2 : UInt64) : entryFrame m #[(.double x0), (.double x1), (.double x2)] 6 = mkF m 0 #[.val (.double x0), .second, .val (.double x1), .second, .val (.double x2), .second] [] := by first | (simp [entryFrame, mkF, argsToLocals, Value.category]; done) | rfl
set_option maxRecDepth 65536 in
set_option maxHeartbeats 40000000 in
theorem rmC (l : Launch) (Z : State) (a0 : Array Value) (hw : ∀ d ∈ tables_1, d.before a0 Z = true) (ws : List Jvm.Cond) (x0 x1 x2 : UInt64) (h0 : Heap) (n0 : Nat) (Z0 : n0 ≤ h0.size) (hf : Jvm.Free.Fl.Fin64 (FP.dadd (FP.dadd x0 x1) x2)) (hn2 : Jvm.Free.Fl.NoNaN64 (FP.dadd x0 x1)) (hn5 : Jvm.Free.Fl.NoNaN64 (FP.dadd (FP.dadd x0 x1) x2)) :
    MetFree l (⟨"com/example/gyrokin/gyrokin/Vector3", "requireFiniteComponents", "(DDD)V"⟩ : MethodName) (head1 (Jvm.Cond.code (⟨"com/example/gyrokin/gyrokin/Vector3", "requireFiniteComponents", "(DDD)V"⟩ : MethodName) prog_10_method_19_code 6 none :: ws) ({ frames := 2, cells := 0, slots := 0, locals := 26 } : Room)) (fun aa U => aa = #[(.double x0), (.double x1), (.double x2)] ∧ Z.Warmed39 U.vm ∧ U.heap = h0) (fun _ _ _ _ _ => True) (fun _ U o U' => ∃ v L, o = .returned v ∧ QU n0 h0 v U'.heap L ∧ FrameEnd U o U' L ({ frames := 2, cells := 0, slots := 0, locals := 26 } : Room).cells ({ frames := 2, cells := 0, slots := 0, locals := 26 } : Room).slots) := by
  refine MetFree.of_bodySF (plainFor_of_name pn_prog_10_method_19_code) hisR ?_
  intro p e s m args below meth c s₁ Bd hml0 hP hK
  obtain ⟨rfl, hZ, hh⟩ := hP
  have hx := Bd.exec
  have hby := Bd.bytes
  have hml : c.maxLocals = 6 := hml0
  have hown : s.vm.findClass "com/example/gyrokin/gyrokin/Vector3" = some m.cls := findClass_of_methodNamed Bd.named
  have hnm := (name_of_methodNamed Bd.named Bd.method).1
  have X0 : Stand p l e ({ frames := 2, cells := 0, slots := 0, locals := 26 } : Room) s m #[(.double x0), (.double x1), (.double x2)] below meth c s₁ [] 0 0 := Stand.of_body Bd
  have e0 : s₁.heap = h0 := by rw [← hh, Bd.state]; rfl
  have N0 := Fr.nil n0
  have pre0 : ∀ t, Steps p.tables e below (s₁.setTop (mkF m 0 #[.val (.double x0), .second, .val (.double x1), .second, .val (.double x2), .second] [])) t → Steps p.tables e below (s₁.setTop (entryFrame m #[(.double x0), (.double x1), (.double x2)] 6)) t := fun t k => castTop (ef_prog_10_method_19_code m x0 x1 x2) k
  obtain ⟨_, _, ⟨T1, L1, k1, n1⟩, -, X1, ⟨Lc1, hQ1, l1, y1, z1⟩, st1⟩ := Jvm.LawKit.callS X0 hx (y := (⟨"java/lang/Double", "isFinite", "(D)Z"⟩ : MethodName)) hown (mvT hZ (hw _ (List.mem_of_getElem? (i := 21) rfl))) (mvT hZ (hw _ (List.mem_of_getElem? (i := 22) rfl))) (mvT hZ (hw _ (List.mem_of_getElem? (i := 23) rfl))) (mvT hZ (hw _ (List.mem_of_getElem? (i := 24) rfl))) (by decide) (backOf (W := 0) (rmF l Z a0 hw [] (FP.dadd (FP.dadd x0 x1) x2) h0 n0 Z0 hf) hZ (hw _ (List.mem_of_getElem? (i := 24) rfl)) (hw _ (List.mem_of_getElem? (i := 23) rfl)) (by decide) (by decide)) (g := (mkF m 6 #[.val (.double x0), .second, .val (.double x1), .second, .val (.double x2), .second] [(.double (FP.dadd (FP.dadd x0 x1) x2))])) rfl (by rw [hml]; rfl) (argsL := [(.double (FP.dadd (FP.dadd x0 x1) x2))]) (rest := []) (lenOf pd__D_Z rfl) rfl (by show 2 * 0 + _ ≤ _; exact Nat.le_of_eq rfl) (hb hby d_prog_10_method_19_code_6) (fun _ _ => ⟨rfl, e0, (by decide : 0 + 0 ≤ _), (by decide : 0 + 0 ≤ _)⟩)
  dsimp only [Pt.U, Pt.locs, Pt.cells, Pt.slots] at X1 l1 y1 z1 st1 hQ1
  subst l1 y1 z1
  obtain ⟨rfl, N1q, K1⟩ := hQ1
  obtain ⟨fs, hr, hrun, hended, hW, hsame⟩ := X1.leave (v := none) (fun _ => rfl)
  refine ⟨_, _, pre0 _ ?_, hrun, hended, _, _, rfl, ?_, ⟨_, rfl⟩, hW, hsame.mono (by decide) (by decide)⟩
  · show Steps p.tables e below (s₁.setTop (mkF m 0 #[.val (.double x0), .second, .val (.double x1), .second, .val (.double x2), .second] [])) _
    refine XS.dloadN X0.here hx rfl (hb hby d_prog_10_method_19_code_0) rfl ?_
    show Steps p.tables e below (s₁.setTop (mkF m 1 #[.val (.double x0), .second, .val (.double x1), .second, .val (.double x2), .second] [(.double x0)])) _
    refine XS.dloadN X0.here hx rfl (hb hby d_prog_10_method_19_code_1) rfl ?_
    show Steps p.tables e below (s₁.setTop (mkF m 2 #[.val (.double x0), .second, .val (.double x1), .second, .val (.double x2), .second] [(.double x1), (.double x0)])) _
    refine XS.daddS X0.here hx rfl (hb hby d_prog_10_method_19_code_2) rfl hn2 (v := (FP.dadd x0 x1)) rfl ?_
    show Steps p.tables e below (s₁.setTop (mkF m 3 #[.val (.double x0), .second, .val (.double x1), .second, .val (.double x2), .second] [(.double (FP.dadd x0 x1))])) _
    refine XS.dload X0.here hx rfl (hb hby d_prog_10_method_19_code_3) rfl ?_
    show Steps p.tables e below (s₁.setTop (mkF m 5 #[.val (.double x0), .second, .val (.double x1), .second, .val (.double x2), .second] [(.double x2), (.double (FP.dadd x0 x1))])) _
    refine XS.daddS X0.here hx rfl (hb hby d_prog_10_method_19_code_5) rfl hn5 (v := (FP.dadd (FP.dadd x0 x1) x2)) rfl ?_
    show Steps p.tables e below (s₁.setTop (mkF m 6 #[.val (.double x0), .second, .val (.double x1), .second, .val (.double x2), .second] [(.double (FP.dadd (FP.dadd x0 x1) x2))])) _
    refine st1 _ ?_
    show Steps p.tables e below (T1.setTop (mkF m 9 #[.val (.double x0), .second, .val (.double x1), .second, .val (.double x2), .second] [(.int (1 : Int32))])) _
    refine XS.ifYes X1.here hx rfl (pc0 := 9) (pc' := 31) rfl (hb hby d_prog_10_method_19_code_9) rfl ((if0 _ _).trans (feq (by decide : ¬ ((1 : Int32) = (0 : Int32)))).2) (by decide) (by decide) ?_
    show Steps p.tables e below (T1.setTop (mkF m 31 #[.val (.double x0), .second, .val (.double x1), .second, .val (.double x2), .second] [])) _
    exact X1.returnOut hx Bd.returns (hb hby d_prog_10_method_19_code_31) hr
  · show QU n0 h0 _ T1.heap _
    rw [K1]
    exact ⟨rfl, Fr.app N0 N1q, rfl⟩
theorem ef_prog_10_method_1_code (m : MethodId) (x0 : Addr) (x1 : UInt64) (x2 : UInt64) (x3 : UInt64) : entryFrame m #[(.ref x0), (.double x1), (.double x2), (.double x3)] 7 = mkF m 0 #[.val (.ref x0), .val (.double x1), .second, .val (.double x2), .second, .val (.double x3), .second] [] := by first | (simp [entryFrame, mkF, argsToLocals, Value.category]; done) | rfl
set_option maxRecDepth 65536 in
set_option maxHeartbeats 40000000 in
theorem rmV (l : Launch) (Z : State) (a0 : Array Value) (hw : ∀ d ∈ tables_1, d.before a0 Z = true) (ws : List Jvm.Cond) (a : Addr) (x0 x1 x2 : UInt64) (h0 : Heap) (n0 : Nat) (Z0 : n0 ≤ h0.size) (Fx : Fld Z h0 a "com/example/gyrokin/gyrokin/Vector3" "x" "D" (.double 0)) (Fy : Fld Z h0 a "com/example/gyrokin/gyrokin/Vector3" "y" "D" (.double 0)) (Fz : Fld Z h0 a "com/example/gyrokin/gyrokin/Vector3" "z" "D" (.double 0)) (Ea : Exa Z h0 a "com/example/gyrokin/gyrokin/Vector3") (ga : n0 ≤ a) (hn1 : Jvm.Free.Fl.NoNaN64 (FP.dadd x0 x1)) (hn2 : Jvm.Free.Fl.NoNaN64 (FP.dadd (FP.dadd x0 x1) x2)) (hf : Jvm.Free.Fl.Fin64 (FP.dadd (FP.dadd x0 x1) x2)) :
    MetFree l (⟨"com/example/gyrokin/gyrokin/Vector3", "<init>", "(DDD)V"⟩ : MethodName) (head1 (Jvm.Cond.code (⟨"com/example/gyrokin/gyrokin/Vector3", "<init>", "(DDD)V"⟩ : MethodName) prog_10_method_1_code 7 none :: ws) ({ frames := 3, cells := 0, slots := 0, locals := 43 } : Room)) (fun aa U => aa = #[(.ref a), (.double x0), (.double x1), (.double x2)] ∧ Z.Warmed39 U.vm ∧ U.heap = h0) (fun _ _ _ _ _ => True) (fun _ U o U' => ∃ v L, o = .returned v ∧ QC Z a x0 x1 x2 n0 h0 v U'.heap L ∧ FrameEnd U o U' L ({ frames := 3, cells := 0, slots := 0, locals := 43 } : Room).cells ({ frames := 3, cells := 0, slots := 0, locals := 43 } : Room).slots) := by
  refine MetFree.of_bodySF (plainFor_of_name pn_prog_10_method_1_code) hisR ?_
  intro p e s m args below meth c s₁ Bd hml0 hP hK
  obtain ⟨rfl, hZ, hh⟩ := hP
  have hx := Bd.exec
  have hby := Bd.bytes
  have hml : c.maxLocals = 7 := hml0
  have hown : s.vm.findClass "com/example/gyrokin/gyrokin/Vector3" = some m.cls := findClass_of_methodNamed Bd.named
  have hnm := (name_of_methodNamed Bd.named Bd.method).1
  have X0 : Stand p l e ({ frames := 3, cells := 0, slots := 0, locals := 43 } : Room) s m #[(.ref a), (.double x0), (.double x1), (.double x2)] below meth c s₁ [] 0 0 := Stand.of_body Bd
  have e0 : s₁.heap = h0 := by rw [← hh, Bd.state]; rfl
  have N0 := Fr.nil n0
  have pre0 : ∀ t, Steps p.tables e below (s₁.setTop (mkF m 0 #[.val (.ref a), .val (.double x0), .second, .val (.double x1), .second, .val (.double x2), .second] [])) t → Steps p.tables e below (s₁.setTop (entryFrame m #[(.ref a), (.double x0), (.double x1), (.double x2)] 7)) t := fun t k => castTop (ef_prog_10_method_1_code m a x0 x1 x2) k
  obtain ⟨_, _, ⟨T1, L1, k1, n1⟩, -, X1, ⟨Lc1, hQ1, l1, y1, z1⟩, st1⟩ := X0.specialBack hx (y := (⟨"java/lang/Record", "<init>", "()V"⟩ : MethodName)) rfl hown (mvT hZ (hw _ (List.mem_of_getElem? (i := 10) rfl))) (mvT hZ (hw _ (List.mem_of_getElem? (i := 11) rfl))) (mvT hZ (hw _ (List.mem_of_getElem? (i := 14) rfl))) (by decide) (backOf (W := 0) (rmR l Z a0 hw [] a h0 n0 Z0) hZ (hw _ (List.mem_of_getElem? (i := 14) rfl)) (hw _ (List.mem_of_getElem? (i := 13) rfl)) (by decide) (by decide)) (g := (mkF m 1 #[.val (.ref a), .val (.double x0), .second, .val (.double x1), .second, .val (.double x2), .second] [(.ref a)])) rfl (by rw [hml]; rfl) (Steps.refl _) (a := a) (argsL := []) (rest := []) (lenOf pd___V rfl) rfl (by show 2 * 0 + _ ≤ _; exact Nat.le_of_eq rfl) (hb hby d_prog_10_method_1_code_1) (fun _ _ => ⟨rfl, e0, (by decide : 0 + 0 ≤ _), (by decide : 0 + 0 ≤ _)⟩)
  dsimp only [Pt.U, Pt.locs, Pt.cells, Pt.slots] at X1 l1 y1 z1 st1 hQ1
  subst l1 y1 z1
  obtain ⟨rfl, N1q, K1⟩ := hQ1
  obtain ⟨_, _, ⟨T2, L2, k2, n2⟩, -, X2, ⟨Lc2, hQ2, l2, y2, z2⟩, st2⟩ := Jvm.LawKit.callS X1 hx (y := (⟨"com/example/gyrokin/gyrokin/Vector3", "requireFiniteComponents", "(DDD)V"⟩ : MethodName)) hown (mvT hZ (hw _ (List.mem_of_getElem? (i := 18) rfl))) (mvT hZ (hw _ (List.mem_of_getElem? (i := 19) rfl))) (mvT hZ (hw _ (List.mem_of_getElem? (i := 6) rfl))) (mvT hZ (hw _ (List.mem_of_getElem? (i := 20) rfl))) (by decide) (backOf (W := 0) (rmC l Z a0 hw [] x0 x1 x2 h0 n0 Z0 hf hn1 hn2) hZ (hw _ (List.mem_of_getElem? (i := 20) rfl)) (hw _ (List.mem_of_getElem? (i := 6) rfl)) (by decide) (by decide)) (g := (mkF m 8 #[.val (.ref a), .val (.double x0), .second, .val (.double x1), .second, .val (.double x2), .second] [(.double x2), (.double x1), (.double x0)])) rfl (by rw [hml]; rfl) (argsL := [(.double x0), (.double x1), (.double x2)]) (rest := []) (lenOf pd__DDD_V rfl) rfl (by show 2 * 0 + _ ≤ _; exact Nat.le_of_eq rfl) (hb hby d_prog_10_method_1_code_8) (fun _ _ => ⟨rfl, K1, (by decide : 0 + 0 ≤ _), (by decide : 0 + 0 ≤ _)⟩)
  dsimp only [Pt.U, Pt.locs, Pt.cells, Pt.slots] at X2 l2 y2 z2 st2 hQ2
  subst l2 y2 z2
  obtain ⟨rfl, N2q, K2⟩ := hQ2
  have NA := Fr.app (Fr.app N0 N1q) N2q
  obtain ⟨T3, h3, X3, e3, W3, st3⟩ := putF X2 hx hZ hown (host := "") (Or.inl (hw _ (List.mem_of_getElem? (i := 30) rfl))) Via.refl K2 Fx Ea (Or.inr ⟨(hw _ (List.mem_of_getElem? (i := 31) rfl)), rfl, hnm⟩) (hw _ (List.mem_of_getElem? (i := 5) rfl)) (ty := .double) (by decide) rfl rfl (g := (mkF m 13 #[.val (.ref a), .val (.double x0), .second, .val (.double x1), .second, .val (.double x2), .second] [(.double x0), (.ref a)])) rfl rfl (hb hby d_prog_10_method_1_code_13)
  have Fy3 := Fy.other W3 (Or.inr (Jvm.RoadKit.slot_ne (Or.inr (hw _ (List.mem_of_getElem? (i := 33) rfl))) (Or.inr (hw _ (List.mem_of_getElem? (i := 31) rfl))) (by decide) (t := .double) (t' := .double) (by decide) (by decide)))
  have Fz3 := Fz.other W3 (Or.inr (Jvm.RoadKit.slot_ne (Or.inr (hw _ (List.mem_of_getElem? (i := 35) rfl))) (Or.inr (hw _ (List.mem_of_getElem? (i := 31) rfl))) (by decide) (t := .double) (t' := .double) (by decide) (by decide)))
  have Fx3 := Fx.same W3
  have Ea3 := Ea.wr W3
  have K3 := (Keep.refl h0 [a]).wr W3 (Or.inl (List.mem_of_getElem? (i := 0) rfl))
  have N3 := Fr.snoc X3 NA ga
  obtain ⟨T4, h4, X4, e4, W4, st4⟩ := putF X3 hx hZ hown (host := "") (Or.inl (hw _ (List.mem_of_getElem? (i := 32) rfl))) Via.refl e3 Fy3 Ea3 (Or.inr ⟨(hw _ (List.mem_of_getElem? (i := 33) rfl)), rfl, hnm⟩) (hw _ (List.mem_of_getElem? (i := 5) rfl)) (ty := .double) (by decide) rfl rfl (g := (mkF m 18 #[.val (.ref a), .val (.double x0), .second, .val (.double x1), .second, .val (.double x2), .second] [(.double x1), (.ref a)])) rfl rfl (hb hby d_prog_10_method_1_code_18)
  have Fx4 := Fx3.other W4 (Or.inr (Jvm.RoadKit.slot_ne (Or.inr (hw _ (List.mem_of_getElem? (i := 31) rfl))) (Or.inr (hw _ (List.mem_of_getElem? (i := 33) rfl))) (by decide) (t := .double) (t' := .double) (by decide) (by decide)))
  have Fz4 := Fz3.other W4 (Or.inr (Jvm.RoadKit.slot_ne (Or.inr (hw _ (List.mem_of_getElem? (i := 35) rfl))) (Or.inr (hw _ (List.mem_of_getElem? (i := 33) rfl))) (by decide) (t := .double) (t' := .double) (by decide) (by decide)))
  have Fy4 := Fy3.same W4
  have Ea4 := Ea3.wr W4
  have K4 := K3.wr W4 (Or.inl (List.mem_of_getElem? (i := 0) rfl))
  have N4 := Fr.snoc X4 N3 ga
  obtain ⟨T5, h5, X5, e5, W5, st5⟩ := putF X4 hx hZ hown (host := "") (Or.inl (hw _ (List.mem_of_getElem? (i := 34) rfl))) Via.refl e4 Fz4 Ea4 (Or.inr ⟨(hw _ (List.mem_of_getElem? (i := 35) rfl)), rfl, hnm⟩) (hw _ (List.mem_of_getElem? (i := 5) rfl)) (ty := .double) (by decide) rfl rfl (g := (mkF m 24 #[.val (.ref a), .val (.double x0), .second, .val (.double x1), .second, .val (.double x2), .second] [(.double x2), (.ref a)])) rfl rfl (hb hby d_prog_10_method_1_code_24)
  have Fx5 := Fx4.other W5 (Or.inr (Jvm.RoadKit.slot_ne (Or.inr (hw _ (List.mem_of_getElem? (i := 31) rfl))) (Or.inr (hw _ (List.mem_of_getElem? (i := 35) rfl))) (by decide) (t := .double) (t' := .double) (by decide) (by decide)))
  have Fy5 := Fy4.other W5 (Or.inr (Jvm.RoadKit.slot_ne (Or.inr (hw _ (List.mem_of_getElem? (i := 33) rfl))) (Or.inr (hw _ (List.mem_of_getElem? (i := 35) rfl))) (by decide) (t := .double) (t' := .double) (by decide) (by decide)))
  have Fz5 := Fz4.same W5
  have Ea5 := Ea4.wr W5
  have K5 := K4.wr W5 (Or.inl (List.mem_of_getElem? (i := 0) rfl))
  have N5 := Fr.snoc X5 N4 ga
  obtain ⟨fs, hr, hrun, hended, hW, hsame⟩ := X5.leave (v := none) (fun _ => rfl)
  refine ⟨_, _, pre0 _ ?_, hrun, hended, _, _, rfl, ?_, ⟨_, rfl⟩, hW, hsame.mono (by decide) (by decide)⟩
  · show Steps p.tables e below (s₁.setTop (mkF m 0 #[.val (.ref a), .val (.double x0), .second, .val (.double x1), .second, .val (.double x2), .second] [])) _
    refine XS.aloadN X0.here hx rfl (hb hby d_prog_10_method_1_code_0) rfl rfl ?_
    show Steps p.tables e below (s₁.setTop (mkF m 1 #[.val (.ref a), .val (.double x0), .second, .val (.double x1), .second, .val (.double x2), .second] [(.ref a)])) _
    refine st1.trans ?_
    show Steps p.tables e below (T1.setTop (mkF m 4 #[.val (.ref a), .val (.double x0), .second, .val (.double x1), .second, .val (.double x2), .second] [])) _
    refine XS.dloadN X1.here hx rfl (hb hby d_prog_10_method_1_code_4) rfl ?_
    show Steps p.tables e below (T1.setTop (mkF m 5 #[.val (.ref a), .val (.double x0), .second, .val (.double x1), .second, .val (.double x2), .second] [(.double x0)])) _
    refine XS.dloadN X1.here hx rfl (hb hby d_prog_10_method_1_code_5) rfl ?_
    show Steps p.tables e below (T1.setTop (mkF m 6 #[.val (.ref a), .val (.double x0), .second, .val (.double x1), .second, .val (.double x2), .second] [(.double x1), (.double x0)])) _
    refine XS.dload X1.here hx rfl (hb hby d_prog_10_method_1_code_6) rfl ?_
    show Steps p.tables e below (T1.setTop (mkF m 8 #[.val (.ref a), .val (.double x0), .second, .val (.double x1), .second, .val (.double x2), .second] [(.double x2), (.double x1), (.double x0)])) _
    refine st2 _ ?_
    show Steps p.tables e below (T2.setTop (mkF m 11 #[.val (.ref a), .val (.double x0), .second, .val (.double x1), .second, .val (.double x2), .second] [])) _
    refine XS.aloadN X2.here hx rfl (hb hby d_prog_10_method_1_code_11) rfl rfl ?_
    show Steps p.tables e below (T2.setTop (mkF m 12 #[.val (.ref a), .val (.double x0), .second, .val (.double x1), .second, .val (.double x2), .second] [(.ref a)])) _
    refine XS.dloadN X2.here hx rfl (hb hby d_prog_10_method_1_code_12) rfl ?_
    show Steps p.tables e below (T2.setTop (mkF m 13 #[.val (.ref a), .val (.double x0), .second, .val (.double x1), .second, .val (.double x2), .second] [(.double x0), (.ref a)])) _
    refine st3 _ ?_
    show Steps p.tables e below (T3.setTop (mkF m 16 #[.val (.ref a), .val (.double x0), .second, .val (.double x1), .second, .val (.double x2), .second] [])) _
    refine XS.aloadN X3.here hx rfl (hb hby d_prog_10_method_1_code_16) rfl rfl ?_
    show Steps p.tables e below (T3.setTop (mkF m 17 #[.val (.ref a), .val (.double x0), .second, .val (.double x1), .second, .val (.double x2), .second] [(.ref a)])) _
    refine XS.dloadN X3.here hx rfl (hb hby d_prog_10_method_1_code_17) rfl ?_
    show Steps p.tables e below (T3.setTop (mkF m 18 #[.val (.ref a), .val (.double x0), .second, .val (.double x1), .second, .val (.double x2), .second] [(.double x1), (.ref a)])) _
    refine st4 _ ?_
    show Steps p.tables e below (T4.setTop (mkF m 21 #[.val (.ref a), .val (.double x0), .second, .val (.double x1), .second, .val (.double x2), .second] [])) _
    refine XS.aloadN X4.here hx rfl (hb hby d_prog_10_method_1_code_21) rfl rfl ?_
    show Steps p.tables e below (T4.setTop (mkF m 22 #[.val (.ref a), .val (.double x0), .second, .val (.double x1), .second, .val (.double x2), .second] [(.ref a)])) _
    refine XS.dload X4.here hx rfl (hb hby d_prog_10_method_1_code_22) rfl ?_
    show Steps p.tables e below (T4.setTop (mkF m 24 #[.val (.ref a), .val (.double x0), .second, .val (.double x1), .second, .val (.double x2), .second] [(.double x2), (.ref a)])) _
    refine st5 _ ?_
    show Steps p.tables e below (T5.setTop (mkF m 27 #[.val (.ref a), .val (.double x0), .second, .val (.double x1), .second, .val (.double x2), .second] [])) _
    exact X5.returnOut hx Bd.returns (hb hby d_prog_10_method_1_code_27) hr
  · show QC Z a x0 x1 x2 n0 h0 _ T5.heap _
    rw [e5]
    exact ⟨rfl, N5, K5, Ea5, Fx5, Fy5, Fz5⟩
theorem ef_method_2_code (m : MethodId) (x0 : Int32) : entryFrame m #[(.int x0)] 1 = mkF m 0 #[.val (.int x0)] [] := by first | (simp [entryFrame, mkF, argsToLocals, Value.category]; done) | rfl
set_option maxRecDepth 65536 in
set_option maxHeartbeats 40000000 in
theorem rmS (l : Launch) (Z : State) (a0 : Array Value) (hw : ∀ d ∈ tables_1, d.before a0 Z = true) (ws : List Jvm.Cond) (u : Int32) (h0 : Heap) (n0 : Nat) (Z0 : n0 ≤ h0.size) :
    MetFree l (⟨"com/example/gyrokin/gyrokin/Vector3DotPinLaw", "signed26", "(I)I"⟩ : MethodName) (head1 (Jvm.Cond.code (⟨"com/example/gyrokin/gyrokin/Vector3DotPinLaw", "signed26", "(I)I"⟩ : MethodName) method_2_code 1 (some .int) :: ws) ({ frames := 0, cells := 0, slots := 0, locals := 0 } : Room)) (fun aa U => aa = #[(.int u)] ∧ Z.Warmed39 U.vm ∧ U.heap = h0) (fun _ _ _ _ _ => True) (fun _ U o U' => ∃ v L, o = .returned v ∧ QV (.int (s26 u)) n0 h0 v U'.heap L ∧ FrameEnd U o U' L ({ frames := 0, cells := 0, slots := 0, locals := 0 } : Room).cells ({ frames := 0, cells := 0, slots := 0, locals := 0 } : Room).slots) := by
  refine MetFree.of_bodySF (plainFor_of_name pn_method_2_code) hisR ?_
  intro p e s m args below meth c s₁ Bd hml0 hP hK
  obtain ⟨rfl, hZ, hh⟩ := hP
  have hx := Bd.exec
  have hby := Bd.bytes
  have hml : c.maxLocals = 1 := hml0
  have hown : s.vm.findClass "com/example/gyrokin/gyrokin/Vector3DotPinLaw" = some m.cls := findClass_of_methodNamed Bd.named
  have hnm := (name_of_methodNamed Bd.named Bd.method).1
  have X0 : Stand p l e ({ frames := 0, cells := 0, slots := 0, locals := 0 } : Room) s m #[(.int u)] below meth c s₁ [] 0 0 := Stand.of_body Bd
  have e0 : s₁.heap = h0 := by rw [← hh, Bd.state]; rfl
  have N0 := Fr.nil n0
  have pre0 : ∀ t, Steps p.tables e below (s₁.setTop (mkF m 0 #[.val (.int u)] [])) t → Steps p.tables e below (s₁.setTop (entryFrame m #[(.int u)] 1)) t := fun t k => castTop (ef_method_2_code m u) k
  obtain ⟨fs, hr, hrun, hended, hW, hsame⟩ := X0.leave (v := some (.int ((u <<< ((6 : Int32) &&& 31)) >>> ((6 : Int32) &&& 31)))) (fun h => by rw [Bd.returns] at h; cases h)
  refine ⟨_, _, pre0 _ ?_, hrun, hended, _, _, rfl, ?_, ⟨_, rfl⟩, hW, hsame.mono (by decide) (by decide)⟩
  · show Steps p.tables e below (s₁.setTop (mkF m 0 #[.val (.int u)] [])) _
    refine XS.iloadN X0.here hx rfl (hb hby d_method_2_code_0) rfl ?_
    show Steps p.tables e below (s₁.setTop (mkF m 1 #[.val (.int u)] [(.int u)])) _
    refine XS.bipush X0.here hx rfl (hb hby d_method_2_code_1) ?_
    show Steps p.tables e below (s₁.setTop (mkF m 3 #[.val (.int u)] [(.int (6 : Int32)), (.int u)])) _
    refine XS.ishl X0.here hx rfl (hb hby d_method_2_code_3) rfl ?_
    show Steps p.tables e below (s₁.setTop (mkF m 4 #[.val (.int u)] [(.int (u <<< ((6 : Int32) &&& 31)))])) _
    refine XS.bipush X0.here hx rfl (hb hby d_method_2_code_4) ?_
    show Steps p.tables e below (s₁.setTop (mkF m 6 #[.val (.int u)] [(.int (6 : Int32)), (.int (u <<< ((6 : Int32) &&& 31)))])) _
    refine XS.ishr X0.here hx rfl (hb hby d_method_2_code_6) rfl ?_
    show Steps p.tables e below (s₁.setTop (mkF m 7 #[.val (.int u)] [(.int ((u <<< ((6 : Int32) &&& 31)) >>> ((6 : Int32) &&& 31)))])) _
    exact retI X0 hx Bd.returns (hb hby d_method_2_code_7) hr
  · show QV (.int (s26 u)) n0 h0 _ s₁.heap _
    rw [e0]
    exact ⟨rfl, N0, rfl⟩
theorem ef_prog_10_method_7_code (m : MethodId) (x0 : Addr) (x1 : Addr) : entryFrame m #[(.ref x0), (.ref x1)] 2 = mkF m 0 #[.val (.ref x0), .val (.ref x1)] [] := by first | (simp [entryFrame, mkF, argsToLocals, Value.category]; done) | rfl
set_option maxRecDepth 65536 in
set_option maxHeartbeats 40000000 in
theorem rmD (l : Launch) (Z : State) (a0 : Array Value) (hw : ∀ d ∈ tables_1, d.before a0 Z = true) (ws : List Jvm.Cond) (a b : Addr) (x0 y0 z0 x1 y1 z1 : UInt64) (h0 : Heap) (n0 : Nat) (Z0 : n0 ≤ h0.size) (Fxa : Fld Z h0 a "com/example/gyrokin/gyrokin/Vector3" "x" "D" (.double x0)) (Fya : Fld Z h0 a "com/example/gyrokin/gyrokin/Vector3" "y" "D" (.double y0)) (Fza : Fld Z h0 a "com/example/gyrokin/gyrokin/Vector3" "z" "D" (.double z0)) (Fxb : Fld Z h0 b "com/example/gyrokin/gyrokin/Vector3" "x" "D" (.double x1)) (Fyb : Fld Z h0 b "com/example/gyrokin/gyrokin/Vector3" "y" "D" (.double y1)) (Fzb : Fld Z h0 b "com/example/gyrokin/gyrokin/Vector3" "z" "D" (.double z1)) (hn8 : Jvm.Free.Fl.NoNaN64 (FP.dmul x0 x1)) (hn17 : Jvm.Free.Fl.NoNaN64 (FP.dmul y0 y1)) (hn18 : Jvm.Free.Fl.NoNaN64 (FP.dadd (FP.dmul x0 x1) (FP.dmul y0 y1))) (hn27 : Jvm.Free.Fl.NoNaN64 (FP.dmul z0 z1)) (hn28 : Jvm.Free.Fl.NoNaN64 (FP.dadd (FP.dadd (FP.dmul x0 x1) (FP.dmul y0 y1)) (FP.dmul z0 z1))) :
    MetFree l (⟨"com/example/gyrokin/gyrokin/Vector3", "dot", "(Lcom/example/gyrokin/gyrokin/Vector3;)D"⟩ : MethodName) (head1 (Jvm.Cond.code (⟨"com/example/gyrokin/gyrokin/Vector3", "dot", "(Lcom/example/gyrokin/gyrokin/Vector3;)D"⟩ : MethodName) prog_10_method_7_code 2 (some .double) :: ws) ({ frames := 0, cells := 0, slots := 0, locals := 0 } : Room)) (fun aa U => aa = #[(.ref a), (.ref b)] ∧ Z.Warmed39 U.vm ∧ U.heap = h0) (fun _ _ _ _ _ => True) (fun _ U o U' => ∃ v L, o = .returned v ∧ QV (.double (FP.dadd (FP.dadd (FP.dmul x0 x1) (FP.dmul y0 y1)) (FP.dmul z0 z1))) n0 h0 v U'.heap L ∧ FrameEnd U o U' L ({ frames := 0, cells := 0, slots := 0, locals := 0 } : Room).cells ({ frames := 0, cells := 0, slots := 0, locals := 0 } : Room).slots) := by
  refine MetFree.of_bodySF (plainFor_of_name pn_prog_10_method_7_code) hisR ?_
  intro p e s m args below meth c s₁ Bd hml0 hP hK
  obtain ⟨rfl, hZ, hh⟩ := hP
  have hx := Bd.exec
  have hby := Bd.bytes
  have hml : c.maxLocals = 2 := hml0
  have hown : s.vm.findClass "com/example/gyrokin/gyrokin/Vector3" = some m.cls := findClass_of_methodNamed Bd.named
  have hnm := (name_of_methodNamed Bd.named Bd.method).1
  have X0 : Stand p l e ({ frames := 0, cells := 0, slots := 0, locals := 0 } : Room) s m #[(.ref a), (.ref b)] below meth c s₁ [] 0 0 := Stand.of_body Bd
  have e0 : s₁.heap = h0 := by rw [← hh, Bd.state]; rfl
  have N0 := Fr.nil n0
  have pre0 : ∀ t, Steps p.tables e below (s₁.setTop (mkF m 0 #[.val (.ref a), .val (.ref b)] [])) t → Steps p.tables e below (s₁.setTop (entryFrame m #[(.ref a), (.ref b)] 2)) t := fun t k => castTop (ef_prog_10_method_7_code m a b) k
  obtain ⟨T1, X1, e1, st1⟩ := getF X0 hx hZ hown (host := "") (Or.inl (hw _ (List.mem_of_getElem? (i := 30) rfl))) Via.refl e0 Fxa (g := (mkF m 1 #[.val (.ref a), .val (.ref b)] [(.ref a)])) rfl rfl (hb hby d_prog_10_method_7_code_1)
  obtain ⟨T2, X2, e2, st2⟩ := getF X1 hx hZ hown (host := "") (Or.inl (hw _ (List.mem_of_getElem? (i := 30) rfl))) Via.refl e1 Fxb (g := (mkF m 5 #[.val (.ref a), .val (.ref b)] [(.ref b), (.double x0)])) rfl rfl (hb hby d_prog_10_method_7_code_5)
  obtain ⟨T3, X3, e3, st3⟩ := getF X2 hx hZ hown (host := "") (Or.inl (hw _ (List.mem_of_getElem? (i := 32) rfl))) Via.refl e2 Fya (g := (mkF m 10 #[.val (.ref a), .val (.ref b)] [(.ref a), (.double (FP.dmul x0 x1))])) rfl rfl (hb hby d_prog_10_method_7_code_10)
  obtain ⟨T4, X4, e4, st4⟩ := getF X3 hx hZ hown (host := "") (Or.inl (hw _ (List.mem_of_getElem? (i := 32) rfl))) Via.refl e3 Fyb (g := (mkF m 14 #[.val (.ref a), .val (.ref b)] [(.ref b), (.double y0), (.double (FP.dmul x0 x1))])) rfl rfl (hb hby d_prog_10_method_7_code_14)
  obtain ⟨T5, X5, e5, st5⟩ := getF X4 hx hZ hown (host := "") (Or.inl (hw _ (List.mem_of_getElem? (i := 34) rfl))) Via.refl e4 Fza (g := (mkF m 20 #[.val (.ref a), .val (.ref b)] [(.ref a), (.double (FP.dadd (FP.dmul x0 x1) (FP.dmul y0 y1)))])) rfl rfl (hb hby d_prog_10_method_7_code_20)
  obtain ⟨T6, X6, e6, st6⟩ := getF X5 hx hZ hown (host := "") (Or.inl (hw _ (List.mem_of_getElem? (i := 34) rfl))) Via.refl e5 Fzb (g := (mkF m 24 #[.val (.ref a), .val (.ref b)] [(.ref b), (.double z0), (.double (FP.dadd (FP.dmul x0 x1) (FP.dmul y0 y1)))])) rfl rfl (hb hby d_prog_10_method_7_code_24)
  obtain ⟨fs, hr, hrun, hended, hW, hsame⟩ := X6.leave (v := some (.double (FP.dadd (FP.dadd (FP.dmul x0 x1) (FP.dmul y0 y1)) (FP.dmul z0 z1)))) (fun h => by rw [Bd.returns] at h; cases h)
  refine ⟨_, _, pre0 _ ?_, hrun, hended, _, _, rfl, ?_, ⟨_, rfl⟩, hW, hsame.mono (by decide) (by decide)⟩
  · show Steps p.tables e below (s₁.setTop (mkF m 0 #[.val (.ref a), .val (.ref b)] [])) _
    refine XS.aloadN X0.here hx rfl (hb hby d_prog_10_method_7_code_0) rfl rfl ?_
    show Steps p.tables e below (s₁.setTop (mkF m 1 #[.val (.ref a), .val (.ref b)] [(.ref a)])) _
    refine st1 _ ?_
    show Steps p.tables e below (T1.setTop (mkF m 4 #[.val (.ref a), .val (.ref b)] [(.double x0)])) _
    refine XS.aloadN X1.here hx rfl (hb hby d_prog_10_method_7_code_4) rfl rfl ?_
    show Steps p.tables e below (T1.setTop (mkF m 5 #[.val (.ref a), .val (.ref b)] [(.ref b), (.double x0)])) _
    refine st2 _ ?_
    show Steps p.tables e below (T2.setTop (mkF m 8 #[.val (.ref a), .val (.ref b)] [(.double x1), (.double x0)])) _
    refine XS.dmulS X2.here hx rfl (hb hby d_prog_10_method_7_code_8) rfl hn8 (v := (FP.dmul x0 x1)) rfl ?_
    show Steps p.tables e below (T2.setTop (mkF m 9 #[.val (.ref a), .val (.ref b)] [(.double (FP.dmul x0 x1))])) _
    refine XS.aloadN X2.here hx rfl (hb hby d_prog_10_method_7_code_9) rfl rfl ?_
    show Steps p.tables e below (T2.setTop (mkF m 10 #[.val (.ref a), .val (.ref b)] [(.ref a), (.double (FP.dmul x0 x1))])) _
    refine st3 _ ?_
    show Steps p.tables e below (T3.setTop (mkF m 13 #[.val (.ref a), .val (.ref b)] [(.double y0), (.double (FP.dmul x0 x1))])) _
    refine XS.aloadN X3.here hx rfl (hb hby d_prog_10_method_7_code_13) rfl rfl ?_
    show Steps p.tables e below (T3.setTop (mkF m 14 #[.val (.ref a), .val (.ref b)] [(.ref b), (.double y0), (.double (FP.dmul x0 x1))])) _
    refine st4 _ ?_
    show Steps p.tables e below (T4.setTop (mkF m 17 #[.val (.ref a), .val (.ref b)] [(.double y1), (.double y0), (.double (FP.dmul x0 x1))])) _
    refine XS.dmulS X4.here hx rfl (hb hby d_prog_10_method_7_code_17) rfl hn17 (v := (FP.dmul y0 y1)) rfl ?_
    show Steps p.tables e below (T4.setTop (mkF m 18 #[.val (.ref a), .val (.ref b)] [(.double (FP.dmul y0 y1)), (.double (FP.dmul x0 x1))])) _
    refine XS.daddS X4.here hx rfl (hb hby d_prog_10_method_7_code_18) rfl hn18 (v := (FP.dadd (FP.dmul x0 x1) (FP.dmul y0 y1))) rfl ?_
    show Steps p.tables e below (T4.setTop (mkF m 19 #[.val (.ref a), .val (.ref b)] [(.double (FP.dadd (FP.dmul x0 x1) (FP.dmul y0 y1)))])) _
    refine XS.aloadN X4.here hx rfl (hb hby d_prog_10_method_7_code_19) rfl rfl ?_
    show Steps p.tables e below (T4.setTop (mkF m 20 #[.val (.ref a), .val (.ref b)] [(.ref a), (.double (FP.dadd (FP.dmul x0 x1) (FP.dmul y0 y1)))])) _
    refine st5 _ ?_
    show Steps p.tables e below (T5.setTop (mkF m 23 #[.val (.ref a), .val (.ref b)] [(.double z0), (.double (FP.dadd (FP.dmul x0 x1) (FP.dmul y0 y1)))])) _
    refine XS.aloadN X5.here hx rfl (hb hby d_prog_10_method_7_code_23) rfl rfl ?_
    show Steps p.tables e below (T5.setTop (mkF m 24 #[.val (.ref a), .val (.ref b)] [(.ref b), (.double z0), (.double (FP.dadd (FP.dmul x0 x1) (FP.dmul y0 y1)))])) _
    refine st6 _ ?_
    show Steps p.tables e below (T6.setTop (mkF m 27 #[.val (.ref a), .val (.ref b)] [(.double z1), (.double z0), (.double (FP.dadd (FP.dmul x0 x1) (FP.dmul y0 y1)))])) _
    refine XS.dmulS X6.here hx rfl (hb hby d_prog_10_method_7_code_27) rfl hn27 (v := (FP.dmul z0 z1)) rfl ?_
    show Steps p.tables e below (T6.setTop (mkF m 28 #[.val (.ref a), .val (.ref b)] [(.double (FP.dmul z0 z1)), (.double (FP.dadd (FP.dmul x0 x1) (FP.dmul y0 y1)))])) _
    refine XS.daddS X6.here hx rfl (hb hby d_prog_10_method_7_code_28) rfl hn28 (v := (FP.dadd (FP.dadd (FP.dmul x0 x1) (FP.dmul y0 y1)) (FP.dmul z0 z1))) rfl ?_
    show Steps p.tables e below (T6.setTop (mkF m 29 #[.val (.ref a), .val (.ref b)] [(.double (FP.dadd (FP.dadd (FP.dmul x0 x1) (FP.dmul y0 y1)) (FP.dmul z0 z1)))])) _
    exact own_retD X6 hx Bd.returns (hb hby d_prog_10_method_7_code_29) hr
  · show QV (.double (FP.dadd (FP.dadd (FP.dmul x0 x1) (FP.dmul y0 y1)) (FP.dmul z0 z1))) n0 h0 _ T6.heap _
    rw [e6]
    exact ⟨rfl, N0, rfl⟩
theorem ef_code (m : MethodId) (x0 : Int32) (x1 : Int32) (x2 : Int32) (x3 : Int32) (x4 : Int32) (x5 : Int32) : entryFrame m #[(.int x0), (.int x1), (.int x2), (.int x3), (.int x4), (.int x5)] maxLocals = mkF m 0 #[.val (.int x0), .val (.int x1), .val (.int x2), .val (.int x3), .val (.int x4), .val (.int x5), .unset, .unset, .unset, .unset, .unset, .unset, .unset, .unset, .unset, .unset] [] := by first | (simp [entryFrame, mkF, argsToLocals, Value.category, maxLocals]; done) | rfl
set_option maxRecDepth 65536 in
set_option maxHeartbeats 40000000 in
theorem rm0x (l : Launch) (Z : State) (a0 : Array Value) (hw : ∀ d ∈ tables_1, d.before a0 Z = true) (ws : List Jvm.Cond) (u0 u1 u2 u3 u4 u5 : Int32) (h0 : Heap) (n0 : Nat) (Z0 : n0 ≤ h0.size) (m1 : Jvm.Free.Fl.NoNaN64 (FP.dmul (FP.i2d (s26 u0)) (FP.i2d (s26 u3)))) (m2 : Jvm.Free.Fl.NoNaN64 (FP.dmul (FP.i2d (s26 u1)) (FP.i2d (s26 u4)))) (m3 : Jvm.Free.Fl.NoNaN64 (FP.dadd (FP.dmul (FP.i2d (s26 u0)) (FP.i2d (s26 u3))) (FP.dmul (FP.i2d (s26 u1)) (FP.i2d (s26 u4))))) (m4 : Jvm.Free.Fl.NoNaN64 (FP.dmul (FP.i2d (s26 u2)) (FP.i2d (s26 u5)))) (m5 : Jvm.Free.Fl.NoNaN64 (dotE (s26 u0) (s26 u1) (s26 u2) (s26 u3) (s26 u4) (s26 u5))) (hcmp : cmpValue (FP.dcmp (dotE (s26 u0) (s26 u1) (s26 u2) (s26 u3) (s26 u4) (s26 u5)) (FP.l2d (expE (s26 u0) (s26 u1) (s26 u2) (s26 u3) (s26 u4) (s26 u5)))) .l = 0) :
    MetFree l x (head1 (Jvm.Cond.code x code maxLocals ret :: ws) room_1) (fun aa U => aa = #[(.int u0), (.int u1), (.int u2), (.int u3), (.int u4), (.int u5)] ∧ Z.Warmed39 U.vm ∧ U.heap = h0) (fun _ _ _ _ _ => True) (fun _ U o U' => ∃ v L, o = .returned v ∧ Q0 n0 v U'.heap L ∧ FrameEnd U o U' L 16 128) := by
  refine MetFree.of_bodySF (plainFor_of_name pn_code) hisR ?_
  intro p e s m args below meth c s₁ Bd hml0 hP hK
  obtain ⟨rfl, hZ, hh⟩ := hP
  have hx := Bd.exec
  have hby := Bd.bytes
  have hml : c.maxLocals = 16 := hml0
  have hown : s.vm.findClass "com/example/gyrokin/gyrokin/Vector3DotPinLaw" = some m.cls := findClass_of_methodNamed Bd.named
  have hnm := (name_of_methodNamed Bd.named Bd.method).1
  have X0 : Stand p l e room_1 s m #[(.int u0), (.int u1), (.int u2), (.int u3), (.int u4), (.int u5)] below meth c s₁ [] 0 0 := Stand.of_body Bd
  have e0 : s₁.heap = h0 := by rw [← hh, Bd.state]; rfl
  have N0 := Fr.nil n0
  have pre0 : ∀ t, Steps p.tables e below (s₁.setTop (mkF m 0 #[.val (.int u0), .val (.int u1), .val (.int u2), .val (.int u3), .val (.int u4), .val (.int u5), .unset, .unset, .unset, .unset, .unset, .unset, .unset, .unset, .unset, .unset] [])) t → Steps p.tables e below (s₁.setTop (entryFrame m #[(.int u0), (.int u1), (.int u2), (.int u3), (.int u4), (.int u5)] maxLocals)) t := fun t k => castTop (ef_code m u0 u1 u2 u3 u4 u5) k
  obtain ⟨_, _, ⟨T1, L1, k1, n1⟩, -, X1, ⟨Lc1, hQ1, l1, y1, z1⟩, st1⟩ := Jvm.LawKit.callS X0 hx (y := (⟨"com/example/gyrokin/gyrokin/Vector3DotPinLaw", "signed26", "(I)I"⟩ : MethodName)) hown (mvT hZ (hw _ (List.mem_of_getElem? (i := 0) rfl))) (mvT hZ (hw _ (List.mem_of_getElem? (i := 1) rfl))) (mvT hZ (hw _ (List.mem_of_getElem? (i := 2) rfl))) (mvT hZ (hw _ (List.mem_of_getElem? (i := 3) rfl))) (by decide) (backOf (W := 0) (rmS l Z a0 hw [] u0 h0 n0 Z0) hZ (hw _ (List.mem_of_getElem? (i := 3) rfl)) (hw _ (List.mem_of_getElem? (i := 2) rfl)) (by decide) (by decide)) (g := (mkF m 1 #[.val (.int u0), .val (.int u1), .val (.int u2), .val (.int u3), .val (.int u4), .val (.int u5), .unset, .unset, .unset, .unset, .unset, .unset, .unset, .unset, .unset, .unset] [(.int u0)])) rfl (by rw [hml]; rfl) (argsL := [(.int u0)]) (rest := []) (lenOf pd__I_I rfl) rfl (by show 2 * 0 + _ ≤ _; exact Nat.le_of_eq rfl) (hb hby at_1) (fun _ _ => ⟨rfl, e0, (by decide : 0 + 0 ≤ _), (by decide : 0 + 0 ≤ _)⟩)
  dsimp only [Pt.U, Pt.locs, Pt.cells, Pt.slots] at X1 l1 y1 z1 st1 hQ1
  subst l1 y1 z1
  obtain ⟨rfl, N1q, K1⟩ := hQ1
  have NF0 := Fr.app N0 N1q
  obtain ⟨_, _, ⟨T2, L2, k2, n2⟩, -, X2, ⟨Lc2, hQ2, l2, y2, z2⟩, st2⟩ := Jvm.LawKit.callS X1 hx (y := (⟨"com/example/gyrokin/gyrokin/Vector3DotPinLaw", "signed26", "(I)I"⟩ : MethodName)) hown (mvT hZ (hw _ (List.mem_of_getElem? (i := 0) rfl))) (mvT hZ (hw _ (List.mem_of_getElem? (i := 1) rfl))) (mvT hZ (hw _ (List.mem_of_getElem? (i := 2) rfl))) (mvT hZ (hw _ (List.mem_of_getElem? (i := 3) rfl))) (by decide) (backOf (W := 0) (rmS l Z a0 hw [] u1 h0 n0 Z0) hZ (hw _ (List.mem_of_getElem? (i := 3) rfl)) (hw _ (List.mem_of_getElem? (i := 2) rfl)) (by decide) (by decide)) (g := (mkF m 7 #[.val (.int u0), .val (.int u1), .val (.int u2), .val (.int u3), .val (.int u4), .val (.int u5), .val (.int (s26 u0)), .unset, .unset, .unset, .unset, .unset, .unset, .unset, .unset, .unset] [(.int u1)])) rfl (by rw [hml]; rfl) (argsL := [(.int u1)]) (rest := []) (lenOf pd__I_I rfl) rfl (by show 2 * 0 + _ ≤ _; exact Nat.le_of_eq rfl) (hb hby at_7) (fun _ _ => ⟨rfl, K1, (by decide : 0 + 0 ≤ _), (by decide : 0 + 0 ≤ _)⟩)
  dsimp only [Pt.U, Pt.locs, Pt.cells, Pt.slots] at X2 l2 y2 z2 st2 hQ2
  subst l2 y2 z2
  obtain ⟨rfl, N2q, K2⟩ := hQ2
  have NF1 := Fr.app NF0 N2q
  obtain ⟨_, _, ⟨T3, L3, k3, n3⟩, -, X3, ⟨Lc3, hQ3, l3, y3, z3⟩, st3⟩ := Jvm.LawKit.callS X2 hx (y := (⟨"com/example/gyrokin/gyrokin/Vector3DotPinLaw", "signed26", "(I)I"⟩ : MethodName)) hown (mvT hZ (hw _ (List.mem_of_getElem? (i := 0) rfl))) (mvT hZ (hw _ (List.mem_of_getElem? (i := 1) rfl))) (mvT hZ (hw _ (List.mem_of_getElem? (i := 2) rfl))) (mvT hZ (hw _ (List.mem_of_getElem? (i := 3) rfl))) (by decide) (backOf (W := 0) (rmS l Z a0 hw [] u2 h0 n0 Z0) hZ (hw _ (List.mem_of_getElem? (i := 3) rfl)) (hw _ (List.mem_of_getElem? (i := 2) rfl)) (by decide) (by decide)) (g := (mkF m 13 #[.val (.int u0), .val (.int u1), .val (.int u2), .val (.int u3), .val (.int u4), .val (.int u5), .val (.int (s26 u0)), .val (.int (s26 u1)), .unset, .unset, .unset, .unset, .unset, .unset, .unset, .unset] [(.int u2)])) rfl (by rw [hml]; rfl) (argsL := [(.int u2)]) (rest := []) (lenOf pd__I_I rfl) rfl (by show 2 * 0 + _ ≤ _; exact Nat.le_of_eq rfl) (hb hby at_13) (fun _ _ => ⟨rfl, K2, (by decide : 0 + 0 ≤ _), (by decide : 0 + 0 ≤ _)⟩)
  dsimp only [Pt.U, Pt.locs, Pt.cells, Pt.slots] at X3 l3 y3 z3 st3 hQ3
  subst l3 y3 z3
  obtain ⟨rfl, N3q, K3⟩ := hQ3
  have NF2 := Fr.app NF1 N3q
  obtain ⟨_, _, ⟨T4, L4, k4, n4⟩, -, X4, ⟨Lc4, hQ4, l4, y4, z4⟩, st4⟩ := Jvm.LawKit.callS X3 hx (y := (⟨"com/example/gyrokin/gyrokin/Vector3DotPinLaw", "signed26", "(I)I"⟩ : MethodName)) hown (mvT hZ (hw _ (List.mem_of_getElem? (i := 0) rfl))) (mvT hZ (hw _ (List.mem_of_getElem? (i := 1) rfl))) (mvT hZ (hw _ (List.mem_of_getElem? (i := 2) rfl))) (mvT hZ (hw _ (List.mem_of_getElem? (i := 3) rfl))) (by decide) (backOf (W := 0) (rmS l Z a0 hw [] u3 h0 n0 Z0) hZ (hw _ (List.mem_of_getElem? (i := 3) rfl)) (hw _ (List.mem_of_getElem? (i := 2) rfl)) (by decide) (by decide)) (g := (mkF m 19 #[.val (.int u0), .val (.int u1), .val (.int u2), .val (.int u3), .val (.int u4), .val (.int u5), .val (.int (s26 u0)), .val (.int (s26 u1)), .val (.int (s26 u2)), .unset, .unset, .unset, .unset, .unset, .unset, .unset] [(.int u3)])) rfl (by rw [hml]; rfl) (argsL := [(.int u3)]) (rest := []) (lenOf pd__I_I rfl) rfl (by show 2 * 0 + _ ≤ _; exact Nat.le_of_eq rfl) (hb hby at_19) (fun _ _ => ⟨rfl, K3, (by decide : 0 + 0 ≤ _), (by decide : 0 + 0 ≤ _)⟩)
  dsimp only [Pt.U, Pt.locs, Pt.cells, Pt.slots] at X4 l4 y4 z4 st4 hQ4
  subst l4 y4 z4
  obtain ⟨rfl, N4q, K4⟩ := hQ4
  have NF3 := Fr.app NF2 N4q
  obtain ⟨_, _, ⟨T5, L5, k5, n5⟩, -, X5, ⟨Lc5, hQ5, l5, y5, z5⟩, st5⟩ := Jvm.LawKit.callS X4 hx (y := (⟨"com/example/gyrokin/gyrokin/Vector3DotPinLaw", "signed26", "(I)I"⟩ : MethodName)) hown (mvT hZ (hw _ (List.mem_of_getElem? (i := 0) rfl))) (mvT hZ (hw _ (List.mem_of_getElem? (i := 1) rfl))) (mvT hZ (hw _ (List.mem_of_getElem? (i := 2) rfl))) (mvT hZ (hw _ (List.mem_of_getElem? (i := 3) rfl))) (by decide) (backOf (W := 0) (rmS l Z a0 hw [] u4 h0 n0 Z0) hZ (hw _ (List.mem_of_getElem? (i := 3) rfl)) (hw _ (List.mem_of_getElem? (i := 2) rfl)) (by decide) (by decide)) (g := (mkF m 26 #[.val (.int u0), .val (.int u1), .val (.int u2), .val (.int u3), .val (.int u4), .val (.int u5), .val (.int (s26 u0)), .val (.int (s26 u1)), .val (.int (s26 u2)), .val (.int (s26 u3)), .unset, .unset, .unset, .unset, .unset, .unset] [(.int u4)])) rfl (by rw [hml]; rfl) (argsL := [(.int u4)]) (rest := []) (lenOf pd__I_I rfl) rfl (by show 2 * 0 + _ ≤ _; exact Nat.le_of_eq rfl) (hb hby at_26) (fun _ _ => ⟨rfl, K4, (by decide : 0 + 0 ≤ _), (by decide : 0 + 0 ≤ _)⟩)
  dsimp only [Pt.U, Pt.locs, Pt.cells, Pt.slots] at X5 l5 y5 z5 st5 hQ5
  subst l5 y5 z5
  obtain ⟨rfl, N5q, K5⟩ := hQ5
  have NF4 := Fr.app NF3 N5q
  obtain ⟨_, _, ⟨T6, L6, k6, n6⟩, -, X6, ⟨Lc6, hQ6, l6, y6, z6⟩, st6⟩ := Jvm.LawKit.callS X5 hx (y := (⟨"com/example/gyrokin/gyrokin/Vector3DotPinLaw", "signed26", "(I)I"⟩ : MethodName)) hown (mvT hZ (hw _ (List.mem_of_getElem? (i := 0) rfl))) (mvT hZ (hw _ (List.mem_of_getElem? (i := 1) rfl))) (mvT hZ (hw _ (List.mem_of_getElem? (i := 2) rfl))) (mvT hZ (hw _ (List.mem_of_getElem? (i := 3) rfl))) (by decide) (backOf (W := 0) (rmS l Z a0 hw [] u5 h0 n0 Z0) hZ (hw _ (List.mem_of_getElem? (i := 3) rfl)) (hw _ (List.mem_of_getElem? (i := 2) rfl)) (by decide) (by decide)) (g := (mkF m 33 #[.val (.int u0), .val (.int u1), .val (.int u2), .val (.int u3), .val (.int u4), .val (.int u5), .val (.int (s26 u0)), .val (.int (s26 u1)), .val (.int (s26 u2)), .val (.int (s26 u3)), .val (.int (s26 u4)), .unset, .unset, .unset, .unset, .unset] [(.int u5)])) rfl (by rw [hml]; rfl) (argsL := [(.int u5)]) (rest := []) (lenOf pd__I_I rfl) rfl (by show 2 * 0 + _ ≤ _; exact Nat.le_of_eq rfl) (hb hby at_33) (fun _ _ => ⟨rfl, K5, (by decide : 0 + 0 ≤ _), (by decide : 0 + 0 ≤ _)⟩)
  dsimp only [Pt.U, Pt.locs, Pt.cells, Pt.slots] at X6 l6 y6 z6 st6 hQ6
  subst l6 y6 z6
  obtain ⟨rfl, N6q, K6⟩ := hQ6
  have NF5 := Fr.app NF4 N6q
  obtain ⟨T7, h7, X7, e7, E7, A7, D7, -, st7⟩ := newO X6 hx hZ hown (hw _ (List.mem_of_getElem? (i := 4) rfl)) (hw _ (List.mem_of_getElem? (i := 5) rfl)) (hw _ (List.mem_of_getElem? (i := 6) rfl)) K6 (g := (mkF m 38 #[.val (.int u0), .val (.int u1), .val (.int u2), .val (.int u3), .val (.int u4), .val (.int u5), .val (.int (s26 u0)), .val (.int (s26 u1)), .val (.int (s26 u2)), .val (.int (s26 u3)), .val (.int (s26 u4)), .val (.int (s26 u5)), .unset, .unset, .unset, .unset] [])) rfl (hb hby at_38) (by decide) (by decide)
  obtain ⟨b7, g7⟩ : ∃ z, z = h0.size := ⟨_, rfl⟩
  rw [← g7] at A7 D7 st7
  have Gx7 : Fld Z h7 b7 "com/example/gyrokin/gyrokin/Vector3" "x" "D" (.double 0) := D7 (Or.inr (hw _ (List.mem_of_getElem? (i := 31) rfl))) (ty := .double) (by decide)
  have Gy7 : Fld Z h7 b7 "com/example/gyrokin/gyrokin/Vector3" "y" "D" (.double 0) := D7 (Or.inr (hw _ (List.mem_of_getElem? (i := 33) rfl))) (ty := .double) (by decide)
  have Gz7 : Fld Z h7 b7 "com/example/gyrokin/gyrokin/Vector3" "z" "D" (.double 0) := D7 (Or.inr (hw _ (List.mem_of_getElem? (i := 35) rfl))) (ty := .double) (by decide)
  have Z7 : n0 ≤ h7.size := Nat.le_trans Z0 E7.1
  have ga7 : n0 ≤ b7 := Nat.le_trans Z0 (Nat.le_of_eq g7.symm)
  obtain ⟨_, _, ⟨T8, L8, k8, n8⟩, -, X8, ⟨Lc8, hQ8, l8, y8, z8⟩, st8⟩ := X7.specialBack hx (y := (⟨"com/example/gyrokin/gyrokin/Vector3", "<init>", "(DDD)V"⟩ : MethodName)) rfl hown (mvT hZ (hw _ (List.mem_of_getElem? (i := 7) rfl))) (mvT hZ (hw _ (List.mem_of_getElem? (i := 8) rfl))) (mvT hZ (hw _ (List.mem_of_getElem? (i := 9) rfl))) (by decide) (backOf (W := 1) (rmV l Z a0 hw [] b7 (FP.i2d (s26 u0)) (FP.i2d (s26 u1)) (FP.i2d (s26 u2)) h7 n0 Z7 Gx7 Gy7 Gz7 A7 ga7 ((own_mag2 (s26 u0) (s26 u1)).fin (by decide)).noNaN ((own_mag3 (s26 u0) (s26 u1) (s26 u2)).fin (by decide)).noNaN ((own_mag3 (s26 u0) (s26 u1) (s26 u2)).fin (by decide))) hZ (hw _ (List.mem_of_getElem? (i := 9) rfl)) (hw _ (List.mem_of_getElem? (i := 6) rfl)) (by decide) (by decide)) (g := (mkF m 51 #[.val (.int u0), .val (.int u1), .val (.int u2), .val (.int u3), .val (.int u4), .val (.int u5), .val (.int (s26 u0)), .val (.int (s26 u1)), .val (.int (s26 u2)), .val (.int (s26 u3)), .val (.int (s26 u4)), .val (.int (s26 u5)), .unset, .unset, .unset, .unset] [(.double (FP.i2d (s26 u2))), (.double (FP.i2d (s26 u1))), (.double (FP.i2d (s26 u0))), (.ref b7), (.ref b7)])) rfl (by rw [hml]; rfl) (Steps.refl _) (a := b7) (argsL := [(.double (FP.i2d (s26 u0))), (.double (FP.i2d (s26 u1))), (.double (FP.i2d (s26 u2)))]) (rest := [(.ref b7)]) (lenOf pd__DDD_V rfl) rfl (by show 2 * 0 + _ ≤ _; exact Nat.le_of_eq rfl) (hb hby at_51) (fun _ _ => ⟨rfl, e7, (by decide : 1 + 0 ≤ _), (by decide : 3 + 0 ≤ _)⟩)
  dsimp only [Pt.U, Pt.locs, Pt.cells, Pt.slots] at X8 l8 y8 z8 st8 hQ8
  subst l8 y8 z8
  obtain ⟨rfl, N8q, K8, Ex8, Px8, Py8, Pz8⟩ := hQ8
  have NV0 := Fr.app NF5 N8q
  have ZT8 : n0 ≤ T8.heap.size := Nat.le_trans Z7 K8.1
  have lt7 : b7 < T8.heap.size := by obtain ⟨cl, _, _, _, _, q, _⟩ := Px8; exact (Array.getElem?_eq_some_iff.mp q).1
  obtain ⟨T9, h9, X9, e9, E9, A9, D9, -, st9⟩ := newO X8 hx hZ hown (hw _ (List.mem_of_getElem? (i := 4) rfl)) (hw _ (List.mem_of_getElem? (i := 5) rfl)) (hw _ (List.mem_of_getElem? (i := 6) rfl)) rfl (g := (mkF m 56 #[.val (.int u0), .val (.int u1), .val (.int u2), .val (.int u3), .val (.int u4), .val (.int u5), .val (.int (s26 u0)), .val (.int (s26 u1)), .val (.int (s26 u2)), .val (.int (s26 u3)), .val (.int (s26 u4)), .val (.int (s26 u5)), .val (.ref b7), .unset, .unset, .unset] [])) rfl (hb hby at_56) (by decide) (by decide)
  obtain ⟨b9, g9⟩ : ∃ z, z = T8.heap.size := ⟨_, rfl⟩
  rw [← g9] at A9 D9 st9
  have Gx9 : Fld Z h9 b9 "com/example/gyrokin/gyrokin/Vector3" "x" "D" (.double 0) := D9 (Or.inr (hw _ (List.mem_of_getElem? (i := 31) rfl))) (ty := .double) (by decide)
  have Gy9 : Fld Z h9 b9 "com/example/gyrokin/gyrokin/Vector3" "y" "D" (.double 0) := D9 (Or.inr (hw _ (List.mem_of_getElem? (i := 33) rfl))) (ty := .double) (by decide)
  have Gz9 : Fld Z h9 b9 "com/example/gyrokin/gyrokin/Vector3" "z" "D" (.double 0) := D9 (Or.inr (hw _ (List.mem_of_getElem? (i := 35) rfl))) (ty := .double) (by decide)
  have Z9 : n0 ≤ h9.size := Nat.le_trans ZT8 E9.1
  have ga9 : n0 ≤ b9 := Nat.le_trans ZT8 (Nat.le_of_eq g9.symm)
  have Px89 := Px8.ext E9
  have Py89 := Py8.ext E9
  have Pz89 := Pz8.ext E9
  have Ex89 := Ex8.ext E9
  have ne : b7 ≠ b9 := by intro q; have l1 := lt7; rw [q, g9] at l1; exact Nat.lt_irrefl _ l1
  obtain ⟨_, _, ⟨T10, L10, k10, n10⟩, -, X10, ⟨Lc10, hQ10, l10, y10, z10⟩, st10⟩ := X9.specialBack hx (y := (⟨"com/example/gyrokin/gyrokin/Vector3", "<init>", "(DDD)V"⟩ : MethodName)) rfl hown (mvT hZ (hw _ (List.mem_of_getElem? (i := 7) rfl))) (mvT hZ (hw _ (List.mem_of_getElem? (i := 8) rfl))) (mvT hZ (hw _ (List.mem_of_getElem? (i := 9) rfl))) (by decide) (backOf (W := 1) (rmV l Z a0 hw [] b9 (FP.i2d (s26 u3)) (FP.i2d (s26 u4)) (FP.i2d (s26 u5)) h9 n0 Z9 Gx9 Gy9 Gz9 A9 ga9 ((own_mag2 (s26 u3) (s26 u4)).fin (by decide)).noNaN ((own_mag3 (s26 u3) (s26 u4) (s26 u5)).fin (by decide)).noNaN ((own_mag3 (s26 u3) (s26 u4) (s26 u5)).fin (by decide))) hZ (hw _ (List.mem_of_getElem? (i := 9) rfl)) (hw _ (List.mem_of_getElem? (i := 6) rfl)) (by decide) (by decide)) (g := (mkF m 69 #[.val (.int u0), .val (.int u1), .val (.int u2), .val (.int u3), .val (.int u4), .val (.int u5), .val (.int (s26 u0)), .val (.int (s26 u1)), .val (.int (s26 u2)), .val (.int (s26 u3)), .val (.int (s26 u4)), .val (.int (s26 u5)), .val (.ref b7), .unset, .unset, .unset] [(.double (FP.i2d (s26 u5))), (.double (FP.i2d (s26 u4))), (.double (FP.i2d (s26 u3))), (.ref b9), (.ref b9)])) rfl (by rw [hml]; rfl) (Steps.refl _) (a := b9) (argsL := [(.double (FP.i2d (s26 u3))), (.double (FP.i2d (s26 u4))), (.double (FP.i2d (s26 u5)))]) (rest := [(.ref b9)]) (lenOf pd__DDD_V rfl) rfl (by show 2 * 0 + _ ≤ _; exact Nat.le_of_eq rfl) (hb hby at_69) (fun _ _ => ⟨rfl, e9, (by decide : 2 + 0 ≤ _), (by decide : 6 + 0 ≤ _)⟩)
  dsimp only [Pt.U, Pt.locs, Pt.cells, Pt.slots] at X10 l10 y10 z10 st10 hQ10
  subst l10 y10 z10
  obtain ⟨rfl, N10q, K10, Ex10, Px10, Py10, Pz10⟩ := hQ10
  have NV1 := Fr.app NV0 N10q
  have ZT10 : n0 ≤ T10.heap.size := Nat.le_trans Z9 K10.1
  have Px8k := Px89.keep K10 (ninS ne nin0)
  have Py8k := Py89.keep K10 (ninS ne nin0)
  have Pz8k := Pz89.keep K10 (ninS ne nin0)
  have Ex8k := Ex89.keep K10
  obtain ⟨cq11, kq11, q11a, q11b, q11c⟩ := isOf hZ rfl Ex8k
  obtain ⟨_, _, ⟨T11, L11, k11, n11⟩, -, X11, ⟨Lc11, hQ11, l11, y11, z11⟩, st11⟩ := X10.virtualBack hx (y := (⟨"com/example/gyrokin/gyrokin/Vector3", "dot", "(Lcom/example/gyrokin/gyrokin/Vector3;)D"⟩ : MethodName)) (z := (⟨"com/example/gyrokin/gyrokin/Vector3", "dot", "(Lcom/example/gyrokin/gyrokin/Vector3;)D"⟩ : MethodName)) hown (mvT hZ (hw _ (List.mem_of_getElem? (i := 36) rfl))) (mvT hZ (hw _ (List.mem_of_getElem? (i := 37) rfl))) (notFace_of_selects (args := #[]) (mvT hZ (hw _ (List.mem_of_getElem? (i := 39) rfl)))) (mvT hZ (hw _ (List.mem_of_getElem? (i := 39) rfl))) (mvT hZ (hw _ (List.mem_of_getElem? (i := 38) rfl))) (by decide) (backOf (W := 0) (rmD l Z a0 hw [] b7 b9 (FP.i2d (s26 u0)) (FP.i2d (s26 u1)) (FP.i2d (s26 u2)) (FP.i2d (s26 u3)) (FP.i2d (s26 u4)) (FP.i2d (s26 u5)) T10.heap n0 ZT10 Px8k Py8k Pz8k Px10 Py10 Pz10 m1 m2 m3 m4 m5) hZ (hw _ (List.mem_of_getElem? (i := 40) rfl)) (hw _ (List.mem_of_getElem? (i := 6) rfl)) (by decide) (by decide)) q11a q11c (g := (mkF m 103 #[.val (.int u0), .val (.int u1), .val (.int u2), .val (.int u3), .val (.int u4), .val (.int u5), .val (.int (s26 u0)), .val (.int (s26 u1)), .val (.int (s26 u2)), .val (.int (s26 u3)), .val (.int (s26 u4)), .val (.int (s26 u5)), .val (.ref b7), .val (.ref b9), .val (.long (((((s26 u0).toInt64) * ((s26 u3).toInt64)) + (((s26 u1).toInt64) * ((s26 u4).toInt64))) + (((s26 u2).toInt64) * ((s26 u5).toInt64)))), .second] [(.ref b9), (.ref b7)])) rfl (by rw [hml]; rfl) (Steps.refl _) (argsL := [(.ref b9)]) (rest := []) (lenOf pd__Lcom_example_gyrokin_gyrokin_Vector3__D rfl) rfl (by show 2 * 0 + _ ≤ _; exact Nat.le_of_eq rfl) (hb hby at_103) (fun _ _ => ⟨rfl, rfl, (by decide : 2 + 0 ≤ _), (by decide : 6 + 0 ≤ _)⟩)
  dsimp only [Pt.U, Pt.locs, Pt.cells, Pt.slots] at X11 l11 y11 z11 st11 hQ11
  subst l11 y11 z11
  obtain ⟨rfl, N11q, K11⟩ := hQ11
  obtain ⟨fs, hr, hrun, hended, hW, hsame⟩ := X11.leave (v := some (.int (1 : Int32))) (fun h => by rw [Bd.returns] at h; cases h)
  refine ⟨_, _, pre0 _ ?_, hrun, hended, _, _, rfl, ?_, ⟨_, rfl⟩, hW, hsame.mono (by decide) (by decide)⟩
  · show Steps p.tables e below (s₁.setTop (mkF m 0 #[.val (.int u0), .val (.int u1), .val (.int u2), .val (.int u3), .val (.int u4), .val (.int u5), .unset, .unset, .unset, .unset, .unset, .unset, .unset, .unset, .unset, .unset] [])) _
    refine XS.iloadN X0.here hx rfl (hb hby at_0) rfl ?_
    show Steps p.tables e below (s₁.setTop (mkF m 1 #[.val (.int u0), .val (.int u1), .val (.int u2), .val (.int u3), .val (.int u4), .val (.int u5), .unset, .unset, .unset, .unset, .unset, .unset, .unset, .unset, .unset, .unset] [(.int u0)])) _
    refine st1 _ ?_
    show Steps p.tables e below (T1.setTop (mkF m 4 #[.val (.int u0), .val (.int u1), .val (.int u2), .val (.int u3), .val (.int u4), .val (.int u5), .unset, .unset, .unset, .unset, .unset, .unset, .unset, .unset, .unset, .unset] [(.int (s26 u0))])) _
    refine XS.istore X1.here hx rfl (hb hby at_4) rfl (l' := #[.val (.int u0), .val (.int u1), .val (.int u2), .val (.int u3), .val (.int u4), .val (.int u5), .val (.int (s26 u0)), .unset, .unset, .unset, .unset, .unset, .unset, .unset, .unset, .unset]) rfl ?_
    show Steps p.tables e below (T1.setTop (mkF m 6 #[.val (.int u0), .val (.int u1), .val (.int u2), .val (.int u3), .val (.int u4), .val (.int u5), .val (.int (s26 u0)), .unset, .unset, .unset, .unset, .unset, .unset, .unset, .unset, .unset] [])) _
    refine XS.iloadN X1.here hx rfl (hb hby at_6) rfl ?_
    show Steps p.tables e below (T1.setTop (mkF m 7 #[.val (.int u0), .val (.int u1), .val (.int u2), .val (.int u3), .val (.int u4), .val (.int u5), .val (.int (s26 u0)), .unset, .unset, .unset, .unset, .unset, .unset, .unset, .unset, .unset] [(.int u1)])) _
    refine st2 _ ?_
    show Steps p.tables e below (T2.setTop (mkF m 10 #[.val (.int u0), .val (.int u1), .val (.int u2), .val (.int u3), .val (.int u4), .val (.int u5), .val (.int (s26 u0)), .unset, .unset, .unset, .unset, .unset, .unset, .unset, .unset, .unset] [(.int (s26 u1))])) _
    refine XS.istore X2.here hx rfl (hb hby at_10) rfl (l' := #[.val (.int u0), .val (.int u1), .val (.int u2), .val (.int u3), .val (.int u4), .val (.int u5), .val (.int (s26 u0)), .val (.int (s26 u1)), .unset, .unset, .unset, .unset, .unset, .unset, .unset, .unset]) rfl ?_
    show Steps p.tables e below (T2.setTop (mkF m 12 #[.val (.int u0), .val (.int u1), .val (.int u2), .val (.int u3), .val (.int u4), .val (.int u5), .val (.int (s26 u0)), .val (.int (s26 u1)), .unset, .unset, .unset, .unset, .unset, .unset, .unset, .unset] [])) _
    refine XS.iloadN X2.here hx rfl (hb hby at_12) rfl ?_
    show Steps p.tables e below (T2.setTop (mkF m 13 #[.val (.int u0), .val (.int u1), .val (.int u2), .val (.int u3), .val (.int u4), .val (.int u5), .val (.int (s26 u0)), .val (.int (s26 u1)), .unset, .unset, .unset, .unset, .unset, .unset, .unset, .unset] [(.int u2)])) _
    refine st3 _ ?_
    show Steps p.tables e below (T3.setTop (mkF m 16 #[.val (.int u0), .val (.int u1), .val (.int u2), .val (.int u3), .val (.int u4), .val (.int u5), .val (.int (s26 u0)), .val (.int (s26 u1)), .unset, .unset, .unset, .unset, .unset, .unset, .unset, .unset] [(.int (s26 u2))])) _
    refine XS.istore X3.here hx rfl (hb hby at_16) rfl (l' := #[.val (.int u0), .val (.int u1), .val (.int u2), .val (.int u3), .val (.int u4), .val (.int u5), .val (.int (s26 u0)), .val (.int (s26 u1)), .val (.int (s26 u2)), .unset, .unset, .unset, .unset, .unset, .unset, .unset]) rfl ?_
    show Steps p.tables e below (T3.setTop (mkF m 18 #[.val (.int u0), .val (.int u1), .val (.int u2), .val (.int u3), .val (.int u4), .val (.int u5), .val (.int (s26 u0)), .val (.int (s26 u1)), .val (.int (s26 u2)), .unset, .unset, .unset, .unset, .unset, .unset, .unset] [])) _
    refine XS.iloadN X3.here hx rfl (hb hby at_18) rfl ?_
    show Steps p.tables e below (T3.setTop (mkF m 19 #[.val (.int u0), .val (.int u1), .val (.int u2), .val (.int u3), .val (.int u4), .val (.int u5), .val (.int (s26 u0)), .val (.int (s26 u1)), .val (.int (s26 u2)), .unset, .unset, .unset, .unset, .unset, .unset, .unset] [(.int u3)])) _
    refine st4 _ ?_
    show Steps p.tables e below (T4.setTop (mkF m 22 #[.val (.int u0), .val (.int u1), .val (.int u2), .val (.int u3), .val (.int u4), .val (.int u5), .val (.int (s26 u0)), .val (.int (s26 u1)), .val (.int (s26 u2)), .unset, .unset, .unset, .unset, .unset, .unset, .unset] [(.int (s26 u3))])) _
    refine XS.istore X4.here hx rfl (hb hby at_22) rfl (l' := #[.val (.int u0), .val (.int u1), .val (.int u2), .val (.int u3), .val (.int u4), .val (.int u5), .val (.int (s26 u0)), .val (.int (s26 u1)), .val (.int (s26 u2)), .val (.int (s26 u3)), .unset, .unset, .unset, .unset, .unset, .unset]) rfl ?_
    show Steps p.tables e below (T4.setTop (mkF m 24 #[.val (.int u0), .val (.int u1), .val (.int u2), .val (.int u3), .val (.int u4), .val (.int u5), .val (.int (s26 u0)), .val (.int (s26 u1)), .val (.int (s26 u2)), .val (.int (s26 u3)), .unset, .unset, .unset, .unset, .unset, .unset] [])) _
    refine XS.iload X4.here hx rfl (hb hby at_24) rfl ?_
    show Steps p.tables e below (T4.setTop (mkF m 26 #[.val (.int u0), .val (.int u1), .val (.int u2), .val (.int u3), .val (.int u4), .val (.int u5), .val (.int (s26 u0)), .val (.int (s26 u1)), .val (.int (s26 u2)), .val (.int (s26 u3)), .unset, .unset, .unset, .unset, .unset, .unset] [(.int u4)])) _
    refine st5 _ ?_
    show Steps p.tables e below (T5.setTop (mkF m 29 #[.val (.int u0), .val (.int u1), .val (.int u2), .val (.int u3), .val (.int u4), .val (.int u5), .val (.int (s26 u0)), .val (.int (s26 u1)), .val (.int (s26 u2)), .val (.int (s26 u3)), .unset, .unset, .unset, .unset, .unset, .unset] [(.int (s26 u4))])) _
    refine XS.istore X5.here hx rfl (hb hby at_29) rfl (l' := #[.val (.int u0), .val (.int u1), .val (.int u2), .val (.int u3), .val (.int u4), .val (.int u5), .val (.int (s26 u0)), .val (.int (s26 u1)), .val (.int (s26 u2)), .val (.int (s26 u3)), .val (.int (s26 u4)), .unset, .unset, .unset, .unset, .unset]) rfl ?_
    show Steps p.tables e below (T5.setTop (mkF m 31 #[.val (.int u0), .val (.int u1), .val (.int u2), .val (.int u3), .val (.int u4), .val (.int u5), .val (.int (s26 u0)), .val (.int (s26 u1)), .val (.int (s26 u2)), .val (.int (s26 u3)), .val (.int (s26 u4)), .unset, .unset, .unset, .unset, .unset] [])) _
    refine XS.iload X5.here hx rfl (hb hby at_31) rfl ?_
    show Steps p.tables e below (T5.setTop (mkF m 33 #[.val (.int u0), .val (.int u1), .val (.int u2), .val (.int u3), .val (.int u4), .val (.int u5), .val (.int (s26 u0)), .val (.int (s26 u1)), .val (.int (s26 u2)), .val (.int (s26 u3)), .val (.int (s26 u4)), .unset, .unset, .unset, .unset, .unset] [(.int u5)])) _
    refine st6 _ ?_
    show Steps p.tables e below (T6.setTop (mkF m 36 #[.val (.int u0), .val (.int u1), .val (.int u2), .val (.int u3), .val (.int u4), .val (.int u5), .val (.int (s26 u0)), .val (.int (s26 u1)), .val (.int (s26 u2)), .val (.int (s26 u3)), .val (.int (s26 u4)), .unset, .unset, .unset, .unset, .unset] [(.int (s26 u5))])) _
    refine XS.istore X6.here hx rfl (hb hby at_36) rfl (l' := #[.val (.int u0), .val (.int u1), .val (.int u2), .val (.int u3), .val (.int u4), .val (.int u5), .val (.int (s26 u0)), .val (.int (s26 u1)), .val (.int (s26 u2)), .val (.int (s26 u3)), .val (.int (s26 u4)), .val (.int (s26 u5)), .unset, .unset, .unset, .unset]) rfl ?_
    show Steps p.tables e below (T6.setTop (mkF m 38 #[.val (.int u0), .val (.int u1), .val (.int u2), .val (.int u3), .val (.int u4), .val (.int u5), .val (.int (s26 u0)), .val (.int (s26 u1)), .val (.int (s26 u2)), .val (.int (s26 u3)), .val (.int (s26 u4)), .val (.int (s26 u5)), .unset, .unset, .unset, .unset] [])) _
    refine st7 _ ?_
    show Steps p.tables e below (T7.setTop (mkF m 41 #[.val (.int u0), .val (.int u1), .val (.int u2), .val (.int u3), .val (.int u4), .val (.int u5), .val (.int (s26 u0)), .val (.int (s26 u1)), .val (.int (s26 u2)), .val (.int (s26 u3)), .val (.int (s26 u4)), .val (.int (s26 u5)), .unset, .unset, .unset, .unset] [(.ref b7)])) _
    refine XS.dup X7.here hx rfl (hb hby at_41) rfl rfl ?_
    show Steps p.tables e below (T7.setTop (mkF m 42 #[.val (.int u0), .val (.int u1), .val (.int u2), .val (.int u3), .val (.int u4), .val (.int u5), .val (.int (s26 u0)), .val (.int (s26 u1)), .val (.int (s26 u2)), .val (.int (s26 u3)), .val (.int (s26 u4)), .val (.int (s26 u5)), .unset, .unset, .unset, .unset] [(.ref b7), (.ref b7)])) _
    refine XS.iload X7.here hx rfl (hb hby at_42) rfl ?_
    show Steps p.tables e below (T7.setTop (mkF m 44 #[.val (.int u0), .val (.int u1), .val (.int u2), .val (.int u3), .val (.int u4), .val (.int u5), .val (.int (s26 u0)), .val (.int (s26 u1)), .val (.int (s26 u2)), .val (.int (s26 u3)), .val (.int (s26 u4)), .val (.int (s26 u5)), .unset, .unset, .unset, .unset] [(.int (s26 u0)), (.ref b7), (.ref b7)])) _
    refine XS.i2dS X7.here hx rfl (hb hby at_44) rfl (v := (FP.i2d (s26 u0))) rfl ?_
    show Steps p.tables e below (T7.setTop (mkF m 45 #[.val (.int u0), .val (.int u1), .val (.int u2), .val (.int u3), .val (.int u4), .val (.int u5), .val (.int (s26 u0)), .val (.int (s26 u1)), .val (.int (s26 u2)), .val (.int (s26 u3)), .val (.int (s26 u4)), .val (.int (s26 u5)), .unset, .unset, .unset, .unset] [(.double (FP.i2d (s26 u0))), (.ref b7), (.ref b7)])) _
    refine XS.iload X7.here hx rfl (hb hby at_45) rfl ?_
    show Steps p.tables e below (T7.setTop (mkF m 47 #[.val (.int u0), .val (.int u1), .val (.int u2), .val (.int u3), .val (.int u4), .val (.int u5), .val (.int (s26 u0)), .val (.int (s26 u1)), .val (.int (s26 u2)), .val (.int (s26 u3)), .val (.int (s26 u4)), .val (.int (s26 u5)), .unset, .unset, .unset, .unset] [(.int (s26 u1)), (.double (FP.i2d (s26 u0))), (.ref b7), (.ref b7)])) _
    refine XS.i2dS X7.here hx rfl (hb hby at_47) rfl (v := (FP.i2d (s26 u1))) rfl ?_
    show Steps p.tables e below (T7.setTop (mkF m 48 #[.val (.int u0), .val (.int u1), .val (.int u2), .val (.int u3), .val (.int u4), .val (.int u5), .val (.int (s26 u0)), .val (.int (s26 u1)), .val (.int (s26 u2)), .val (.int (s26 u3)), .val (.int (s26 u4)), .val (.int (s26 u5)), .unset, .unset, .unset, .unset] [(.double (FP.i2d (s26 u1))), (.double (FP.i2d (s26 u0))), (.ref b7), (.ref b7)])) _
    refine XS.iload X7.here hx rfl (hb hby at_48) rfl ?_
    show Steps p.tables e below (T7.setTop (mkF m 50 #[.val (.int u0), .val (.int u1), .val (.int u2), .val (.int u3), .val (.int u4), .val (.int u5), .val (.int (s26 u0)), .val (.int (s26 u1)), .val (.int (s26 u2)), .val (.int (s26 u3)), .val (.int (s26 u4)), .val (.int (s26 u5)), .unset, .unset, .unset, .unset] [(.int (s26 u2)), (.double (FP.i2d (s26 u1))), (.double (FP.i2d (s26 u0))), (.ref b7), (.ref b7)])) _
    refine XS.i2dS X7.here hx rfl (hb hby at_50) rfl (v := (FP.i2d (s26 u2))) rfl ?_
    show Steps p.tables e below (T7.setTop (mkF m 51 #[.val (.int u0), .val (.int u1), .val (.int u2), .val (.int u3), .val (.int u4), .val (.int u5), .val (.int (s26 u0)), .val (.int (s26 u1)), .val (.int (s26 u2)), .val (.int (s26 u3)), .val (.int (s26 u4)), .val (.int (s26 u5)), .unset, .unset, .unset, .unset] [(.double (FP.i2d (s26 u2))), (.double (FP.i2d (s26 u1))), (.double (FP.i2d (s26 u0))), (.ref b7), (.ref b7)])) _
    refine st8.trans ?_
    show Steps p.tables e below (T8.setTop (mkF m 54 #[.val (.int u0), .val (.int u1), .val (.int u2), .val (.int u3), .val (.int u4), .val (.int u5), .val (.int (s26 u0)), .val (.int (s26 u1)), .val (.int (s26 u2)), .val (.int (s26 u3)), .val (.int (s26 u4)), .val (.int (s26 u5)), .unset, .unset, .unset, .unset] [(.ref b7)])) _
    refine XS.astore X8.here hx rfl (hb hby at_54) rfl rfl (l' := #[.val (.int u0), .val (.int u1), .val (.int u2), .val (.int u3), .val (.int u4), .val (.int u5), .val (.int (s26 u0)), .val (.int (s26 u1)), .val (.int (s26 u2)), .val (.int (s26 u3)), .val (.int (s26 u4)), .val (.int (s26 u5)), .val (.ref b7), .unset, .unset, .unset]) rfl ?_
    show Steps p.tables e below (T8.setTop (mkF m 56 #[.val (.int u0), .val (.int u1), .val (.int u2), .val (.int u3), .val (.int u4), .val (.int u5), .val (.int (s26 u0)), .val (.int (s26 u1)), .val (.int (s26 u2)), .val (.int (s26 u3)), .val (.int (s26 u4)), .val (.int (s26 u5)), .val (.ref b7), .unset, .unset, .unset] [])) _
    refine st9 _ ?_
    show Steps p.tables e below (T9.setTop (mkF m 59 #[.val (.int u0), .val (.int u1), .val (.int u2), .val (.int u3), .val (.int u4), .val (.int u5), .val (.int (s26 u0)), .val (.int (s26 u1)), .val (.int (s26 u2)), .val (.int (s26 u3)), .val (.int (s26 u4)), .val (.int (s26 u5)), .val (.ref b7), .unset, .unset, .unset] [(.ref b9)])) _
    refine XS.dup X9.here hx rfl (hb hby at_59) rfl rfl ?_
    show Steps p.tables e below (T9.setTop (mkF m 60 #[.val (.int u0), .val (.int u1), .val (.int u2), .val (.int u3), .val (.int u4), .val (.int u5), .val (.int (s26 u0)), .val (.int (s26 u1)), .val (.int (s26 u2)), .val (.int (s26 u3)), .val (.int (s26 u4)), .val (.int (s26 u5)), .val (.ref b7), .unset, .unset, .unset] [(.ref b9), (.ref b9)])) _
    refine XS.iload X9.here hx rfl (hb hby at_60) rfl ?_
    show Steps p.tables e below (T9.setTop (mkF m 62 #[.val (.int u0), .val (.int u1), .val (.int u2), .val (.int u3), .val (.int u4), .val (.int u5), .val (.int (s26 u0)), .val (.int (s26 u1)), .val (.int (s26 u2)), .val (.int (s26 u3)), .val (.int (s26 u4)), .val (.int (s26 u5)), .val (.ref b7), .unset, .unset, .unset] [(.int (s26 u3)), (.ref b9), (.ref b9)])) _
    refine XS.i2dS X9.here hx rfl (hb hby at_62) rfl (v := (FP.i2d (s26 u3))) rfl ?_
    show Steps p.tables e below (T9.setTop (mkF m 63 #[.val (.int u0), .val (.int u1), .val (.int u2), .val (.int u3), .val (.int u4), .val (.int u5), .val (.int (s26 u0)), .val (.int (s26 u1)), .val (.int (s26 u2)), .val (.int (s26 u3)), .val (.int (s26 u4)), .val (.int (s26 u5)), .val (.ref b7), .unset, .unset, .unset] [(.double (FP.i2d (s26 u3))), (.ref b9), (.ref b9)])) _
    refine XS.iload X9.here hx rfl (hb hby at_63) rfl ?_
    show Steps p.tables e below (T9.setTop (mkF m 65 #[.val (.int u0), .val (.int u1), .val (.int u2), .val (.int u3), .val (.int u4), .val (.int u5), .val (.int (s26 u0)), .val (.int (s26 u1)), .val (.int (s26 u2)), .val (.int (s26 u3)), .val (.int (s26 u4)), .val (.int (s26 u5)), .val (.ref b7), .unset, .unset, .unset] [(.int (s26 u4)), (.double (FP.i2d (s26 u3))), (.ref b9), (.ref b9)])) _
    refine XS.i2dS X9.here hx rfl (hb hby at_65) rfl (v := (FP.i2d (s26 u4))) rfl ?_
    show Steps p.tables e below (T9.setTop (mkF m 66 #[.val (.int u0), .val (.int u1), .val (.int u2), .val (.int u3), .val (.int u4), .val (.int u5), .val (.int (s26 u0)), .val (.int (s26 u1)), .val (.int (s26 u2)), .val (.int (s26 u3)), .val (.int (s26 u4)), .val (.int (s26 u5)), .val (.ref b7), .unset, .unset, .unset] [(.double (FP.i2d (s26 u4))), (.double (FP.i2d (s26 u3))), (.ref b9), (.ref b9)])) _
    refine XS.iload X9.here hx rfl (hb hby at_66) rfl ?_
    show Steps p.tables e below (T9.setTop (mkF m 68 #[.val (.int u0), .val (.int u1), .val (.int u2), .val (.int u3), .val (.int u4), .val (.int u5), .val (.int (s26 u0)), .val (.int (s26 u1)), .val (.int (s26 u2)), .val (.int (s26 u3)), .val (.int (s26 u4)), .val (.int (s26 u5)), .val (.ref b7), .unset, .unset, .unset] [(.int (s26 u5)), (.double (FP.i2d (s26 u4))), (.double (FP.i2d (s26 u3))), (.ref b9), (.ref b9)])) _
    refine XS.i2dS X9.here hx rfl (hb hby at_68) rfl (v := (FP.i2d (s26 u5))) rfl ?_
    show Steps p.tables e below (T9.setTop (mkF m 69 #[.val (.int u0), .val (.int u1), .val (.int u2), .val (.int u3), .val (.int u4), .val (.int u5), .val (.int (s26 u0)), .val (.int (s26 u1)), .val (.int (s26 u2)), .val (.int (s26 u3)), .val (.int (s26 u4)), .val (.int (s26 u5)), .val (.ref b7), .unset, .unset, .unset] [(.double (FP.i2d (s26 u5))), (.double (FP.i2d (s26 u4))), (.double (FP.i2d (s26 u3))), (.ref b9), (.ref b9)])) _
    refine st10.trans ?_
    show Steps p.tables e below (T10.setTop (mkF m 72 #[.val (.int u0), .val (.int u1), .val (.int u2), .val (.int u3), .val (.int u4), .val (.int u5), .val (.int (s26 u0)), .val (.int (s26 u1)), .val (.int (s26 u2)), .val (.int (s26 u3)), .val (.int (s26 u4)), .val (.int (s26 u5)), .val (.ref b7), .unset, .unset, .unset] [(.ref b9)])) _
    refine XS.astore X10.here hx rfl (hb hby at_72) rfl rfl (l' := #[.val (.int u0), .val (.int u1), .val (.int u2), .val (.int u3), .val (.int u4), .val (.int u5), .val (.int (s26 u0)), .val (.int (s26 u1)), .val (.int (s26 u2)), .val (.int (s26 u3)), .val (.int (s26 u4)), .val (.int (s26 u5)), .val (.ref b7), .val (.ref b9), .unset, .unset]) rfl ?_
    show Steps p.tables e below (T10.setTop (mkF m 74 #[.val (.int u0), .val (.int u1), .val (.int u2), .val (.int u3), .val (.int u4), .val (.int u5), .val (.int (s26 u0)), .val (.int (s26 u1)), .val (.int (s26 u2)), .val (.int (s26 u3)), .val (.int (s26 u4)), .val (.int (s26 u5)), .val (.ref b7), .val (.ref b9), .unset, .unset] [])) _
    refine XS.iload X10.here hx rfl (hb hby at_74) rfl ?_
    show Steps p.tables e below (T10.setTop (mkF m 76 #[.val (.int u0), .val (.int u1), .val (.int u2), .val (.int u3), .val (.int u4), .val (.int u5), .val (.int (s26 u0)), .val (.int (s26 u1)), .val (.int (s26 u2)), .val (.int (s26 u3)), .val (.int (s26 u4)), .val (.int (s26 u5)), .val (.ref b7), .val (.ref b9), .unset, .unset] [(.int (s26 u0))])) _
    refine XS.i2l X10.here hx rfl (hb hby at_76) rfl ?_
    show Steps p.tables e below (T10.setTop (mkF m 77 #[.val (.int u0), .val (.int u1), .val (.int u2), .val (.int u3), .val (.int u4), .val (.int u5), .val (.int (s26 u0)), .val (.int (s26 u1)), .val (.int (s26 u2)), .val (.int (s26 u3)), .val (.int (s26 u4)), .val (.int (s26 u5)), .val (.ref b7), .val (.ref b9), .unset, .unset] [(.long ((s26 u0).toInt64))])) _
    refine XS.iload X10.here hx rfl (hb hby at_77) rfl ?_
    show Steps p.tables e below (T10.setTop (mkF m 79 #[.val (.int u0), .val (.int u1), .val (.int u2), .val (.int u3), .val (.int u4), .val (.int u5), .val (.int (s26 u0)), .val (.int (s26 u1)), .val (.int (s26 u2)), .val (.int (s26 u3)), .val (.int (s26 u4)), .val (.int (s26 u5)), .val (.ref b7), .val (.ref b9), .unset, .unset] [(.int (s26 u3)), (.long ((s26 u0).toInt64))])) _
    refine XS.i2l X10.here hx rfl (hb hby at_79) rfl ?_
    show Steps p.tables e below (T10.setTop (mkF m 80 #[.val (.int u0), .val (.int u1), .val (.int u2), .val (.int u3), .val (.int u4), .val (.int u5), .val (.int (s26 u0)), .val (.int (s26 u1)), .val (.int (s26 u2)), .val (.int (s26 u3)), .val (.int (s26 u4)), .val (.int (s26 u5)), .val (.ref b7), .val (.ref b9), .unset, .unset] [(.long ((s26 u3).toInt64)), (.long ((s26 u0).toInt64))])) _
    refine XS.lmul X10.here hx rfl (hb hby at_80) rfl ?_
    show Steps p.tables e below (T10.setTop (mkF m 81 #[.val (.int u0), .val (.int u1), .val (.int u2), .val (.int u3), .val (.int u4), .val (.int u5), .val (.int (s26 u0)), .val (.int (s26 u1)), .val (.int (s26 u2)), .val (.int (s26 u3)), .val (.int (s26 u4)), .val (.int (s26 u5)), .val (.ref b7), .val (.ref b9), .unset, .unset] [(.long (((s26 u0).toInt64) * ((s26 u3).toInt64)))])) _
    refine XS.iload X10.here hx rfl (hb hby at_81) rfl ?_
    show Steps p.tables e below (T10.setTop (mkF m 83 #[.val (.int u0), .val (.int u1), .val (.int u2), .val (.int u3), .val (.int u4), .val (.int u5), .val (.int (s26 u0)), .val (.int (s26 u1)), .val (.int (s26 u2)), .val (.int (s26 u3)), .val (.int (s26 u4)), .val (.int (s26 u5)), .val (.ref b7), .val (.ref b9), .unset, .unset] [(.int (s26 u1)), (.long (((s26 u0).toInt64) * ((s26 u3).toInt64)))])) _
    refine XS.i2l X10.here hx rfl (hb hby at_83) rfl ?_
    show Steps p.tables e below (T10.setTop (mkF m 84 #[.val (.int u0), .val (.int u1), .val (.int u2), .val (.int u3), .val (.int u4), .val (.int u5), .val (.int (s26 u0)), .val (.int (s26 u1)), .val (.int (s26 u2)), .val (.int (s26 u3)), .val (.int (s26 u4)), .val (.int (s26 u5)), .val (.ref b7), .val (.ref b9), .unset, .unset] [(.long ((s26 u1).toInt64)), (.long (((s26 u0).toInt64) * ((s26 u3).toInt64)))])) _
    refine XS.iload X10.here hx rfl (hb hby at_84) rfl ?_
    show Steps p.tables e below (T10.setTop (mkF m 86 #[.val (.int u0), .val (.int u1), .val (.int u2), .val (.int u3), .val (.int u4), .val (.int u5), .val (.int (s26 u0)), .val (.int (s26 u1)), .val (.int (s26 u2)), .val (.int (s26 u3)), .val (.int (s26 u4)), .val (.int (s26 u5)), .val (.ref b7), .val (.ref b9), .unset, .unset] [(.int (s26 u4)), (.long ((s26 u1).toInt64)), (.long (((s26 u0).toInt64) * ((s26 u3).toInt64)))])) _
    refine XS.i2l X10.here hx rfl (hb hby at_86) rfl ?_
    show Steps p.tables e below (T10.setTop (mkF m 87 #[.val (.int u0), .val (.int u1), .val (.int u2), .val (.int u3), .val (.int u4), .val (.int u5), .val (.int (s26 u0)), .val (.int (s26 u1)), .val (.int (s26 u2)), .val (.int (s26 u3)), .val (.int (s26 u4)), .val (.int (s26 u5)), .val (.ref b7), .val (.ref b9), .unset, .unset] [(.long ((s26 u4).toInt64)), (.long ((s26 u1).toInt64)), (.long (((s26 u0).toInt64) * ((s26 u3).toInt64)))])) _
    refine XS.lmul X10.here hx rfl (hb hby at_87) rfl ?_
    show Steps p.tables e below (T10.setTop (mkF m 88 #[.val (.int u0), .val (.int u1), .val (.int u2), .val (.int u3), .val (.int u4), .val (.int u5), .val (.int (s26 u0)), .val (.int (s26 u1)), .val (.int (s26 u2)), .val (.int (s26 u3)), .val (.int (s26 u4)), .val (.int (s26 u5)), .val (.ref b7), .val (.ref b9), .unset, .unset] [(.long (((s26 u1).toInt64) * ((s26 u4).toInt64))), (.long (((s26 u0).toInt64) * ((s26 u3).toInt64)))])) _
    refine XS.ladd X10.here hx rfl (hb hby at_88) rfl ?_
    show Steps p.tables e below (T10.setTop (mkF m 89 #[.val (.int u0), .val (.int u1), .val (.int u2), .val (.int u3), .val (.int u4), .val (.int u5), .val (.int (s26 u0)), .val (.int (s26 u1)), .val (.int (s26 u2)), .val (.int (s26 u3)), .val (.int (s26 u4)), .val (.int (s26 u5)), .val (.ref b7), .val (.ref b9), .unset, .unset] [(.long ((((s26 u0).toInt64) * ((s26 u3).toInt64)) + (((s26 u1).toInt64) * ((s26 u4).toInt64))))])) _
    refine XS.iload X10.here hx rfl (hb hby at_89) rfl ?_
    show Steps p.tables e below (T10.setTop (mkF m 91 #[.val (.int u0), .val (.int u1), .val (.int u2), .val (.int u3), .val (.int u4), .val (.int u5), .val (.int (s26 u0)), .val (.int (s26 u1)), .val (.int (s26 u2)), .val (.int (s26 u3)), .val (.int (s26 u4)), .val (.int (s26 u5)), .val (.ref b7), .val (.ref b9), .unset, .unset] [(.int (s26 u2)), (.long ((((s26 u0).toInt64) * ((s26 u3).toInt64)) + (((s26 u1).toInt64) * ((s26 u4).toInt64))))])) _
    refine XS.i2l X10.here hx rfl (hb hby at_91) rfl ?_
    show Steps p.tables e below (T10.setTop (mkF m 92 #[.val (.int u0), .val (.int u1), .val (.int u2), .val (.int u3), .val (.int u4), .val (.int u5), .val (.int (s26 u0)), .val (.int (s26 u1)), .val (.int (s26 u2)), .val (.int (s26 u3)), .val (.int (s26 u4)), .val (.int (s26 u5)), .val (.ref b7), .val (.ref b9), .unset, .unset] [(.long ((s26 u2).toInt64)), (.long ((((s26 u0).toInt64) * ((s26 u3).toInt64)) + (((s26 u1).toInt64) * ((s26 u4).toInt64))))])) _
    refine XS.iload X10.here hx rfl (hb hby at_92) rfl ?_
    show Steps p.tables e below (T10.setTop (mkF m 94 #[.val (.int u0), .val (.int u1), .val (.int u2), .val (.int u3), .val (.int u4), .val (.int u5), .val (.int (s26 u0)), .val (.int (s26 u1)), .val (.int (s26 u2)), .val (.int (s26 u3)), .val (.int (s26 u4)), .val (.int (s26 u5)), .val (.ref b7), .val (.ref b9), .unset, .unset] [(.int (s26 u5)), (.long ((s26 u2).toInt64)), (.long ((((s26 u0).toInt64) * ((s26 u3).toInt64)) + (((s26 u1).toInt64) * ((s26 u4).toInt64))))])) _
    refine XS.i2l X10.here hx rfl (hb hby at_94) rfl ?_
    show Steps p.tables e below (T10.setTop (mkF m 95 #[.val (.int u0), .val (.int u1), .val (.int u2), .val (.int u3), .val (.int u4), .val (.int u5), .val (.int (s26 u0)), .val (.int (s26 u1)), .val (.int (s26 u2)), .val (.int (s26 u3)), .val (.int (s26 u4)), .val (.int (s26 u5)), .val (.ref b7), .val (.ref b9), .unset, .unset] [(.long ((s26 u5).toInt64)), (.long ((s26 u2).toInt64)), (.long ((((s26 u0).toInt64) * ((s26 u3).toInt64)) + (((s26 u1).toInt64) * ((s26 u4).toInt64))))])) _
    refine XS.lmul X10.here hx rfl (hb hby at_95) rfl ?_
    show Steps p.tables e below (T10.setTop (mkF m 96 #[.val (.int u0), .val (.int u1), .val (.int u2), .val (.int u3), .val (.int u4), .val (.int u5), .val (.int (s26 u0)), .val (.int (s26 u1)), .val (.int (s26 u2)), .val (.int (s26 u3)), .val (.int (s26 u4)), .val (.int (s26 u5)), .val (.ref b7), .val (.ref b9), .unset, .unset] [(.long (((s26 u2).toInt64) * ((s26 u5).toInt64))), (.long ((((s26 u0).toInt64) * ((s26 u3).toInt64)) + (((s26 u1).toInt64) * ((s26 u4).toInt64))))])) _
    refine XS.ladd X10.here hx rfl (hb hby at_96) rfl ?_
    show Steps p.tables e below (T10.setTop (mkF m 97 #[.val (.int u0), .val (.int u1), .val (.int u2), .val (.int u3), .val (.int u4), .val (.int u5), .val (.int (s26 u0)), .val (.int (s26 u1)), .val (.int (s26 u2)), .val (.int (s26 u3)), .val (.int (s26 u4)), .val (.int (s26 u5)), .val (.ref b7), .val (.ref b9), .unset, .unset] [(.long (((((s26 u0).toInt64) * ((s26 u3).toInt64)) + (((s26 u1).toInt64) * ((s26 u4).toInt64))) + (((s26 u2).toInt64) * ((s26 u5).toInt64))))])) _
    refine XS.lstore X10.here hx rfl (hb hby at_97) rfl (l' := #[.val (.int u0), .val (.int u1), .val (.int u2), .val (.int u3), .val (.int u4), .val (.int u5), .val (.int (s26 u0)), .val (.int (s26 u1)), .val (.int (s26 u2)), .val (.int (s26 u3)), .val (.int (s26 u4)), .val (.int (s26 u5)), .val (.ref b7), .val (.ref b9), .val (.long (((((s26 u0).toInt64) * ((s26 u3).toInt64)) + (((s26 u1).toInt64) * ((s26 u4).toInt64))) + (((s26 u2).toInt64) * ((s26 u5).toInt64)))), .second]) rfl ?_
    show Steps p.tables e below (T10.setTop (mkF m 99 #[.val (.int u0), .val (.int u1), .val (.int u2), .val (.int u3), .val (.int u4), .val (.int u5), .val (.int (s26 u0)), .val (.int (s26 u1)), .val (.int (s26 u2)), .val (.int (s26 u3)), .val (.int (s26 u4)), .val (.int (s26 u5)), .val (.ref b7), .val (.ref b9), .val (.long (((((s26 u0).toInt64) * ((s26 u3).toInt64)) + (((s26 u1).toInt64) * ((s26 u4).toInt64))) + (((s26 u2).toInt64) * ((s26 u5).toInt64)))), .second] [])) _
    refine XS.aload X10.here hx rfl (hb hby at_99) rfl rfl ?_
    show Steps p.tables e below (T10.setTop (mkF m 101 #[.val (.int u0), .val (.int u1), .val (.int u2), .val (.int u3), .val (.int u4), .val (.int u5), .val (.int (s26 u0)), .val (.int (s26 u1)), .val (.int (s26 u2)), .val (.int (s26 u3)), .val (.int (s26 u4)), .val (.int (s26 u5)), .val (.ref b7), .val (.ref b9), .val (.long (((((s26 u0).toInt64) * ((s26 u3).toInt64)) + (((s26 u1).toInt64) * ((s26 u4).toInt64))) + (((s26 u2).toInt64) * ((s26 u5).toInt64)))), .second] [(.ref b7)])) _
    refine XS.aload X10.here hx rfl (hb hby at_101) rfl rfl ?_
    show Steps p.tables e below (T10.setTop (mkF m 103 #[.val (.int u0), .val (.int u1), .val (.int u2), .val (.int u3), .val (.int u4), .val (.int u5), .val (.int (s26 u0)), .val (.int (s26 u1)), .val (.int (s26 u2)), .val (.int (s26 u3)), .val (.int (s26 u4)), .val (.int (s26 u5)), .val (.ref b7), .val (.ref b9), .val (.long (((((s26 u0).toInt64) * ((s26 u3).toInt64)) + (((s26 u1).toInt64) * ((s26 u4).toInt64))) + (((s26 u2).toInt64) * ((s26 u5).toInt64)))), .second] [(.ref b9), (.ref b7)])) _
    refine st11.trans ?_
    show Steps p.tables e below (T11.setTop (mkF m 106 #[.val (.int u0), .val (.int u1), .val (.int u2), .val (.int u3), .val (.int u4), .val (.int u5), .val (.int (s26 u0)), .val (.int (s26 u1)), .val (.int (s26 u2)), .val (.int (s26 u3)), .val (.int (s26 u4)), .val (.int (s26 u5)), .val (.ref b7), .val (.ref b9), .val (.long (((((s26 u0).toInt64) * ((s26 u3).toInt64)) + (((s26 u1).toInt64) * ((s26 u4).toInt64))) + (((s26 u2).toInt64) * ((s26 u5).toInt64)))), .second] [(.double (dotE (s26 u0) (s26 u1) (s26 u2) (s26 u3) (s26 u4) (s26 u5)))])) _
    refine XS.lload X11.here hx rfl (hb hby at_106) rfl ?_
    show Steps p.tables e below (T11.setTop (mkF m 108 #[.val (.int u0), .val (.int u1), .val (.int u2), .val (.int u3), .val (.int u4), .val (.int u5), .val (.int (s26 u0)), .val (.int (s26 u1)), .val (.int (s26 u2)), .val (.int (s26 u3)), .val (.int (s26 u4)), .val (.int (s26 u5)), .val (.ref b7), .val (.ref b9), .val (.long (((((s26 u0).toInt64) * ((s26 u3).toInt64)) + (((s26 u1).toInt64) * ((s26 u4).toInt64))) + (((s26 u2).toInt64) * ((s26 u5).toInt64)))), .second] [(.long (((((s26 u0).toInt64) * ((s26 u3).toInt64)) + (((s26 u1).toInt64) * ((s26 u4).toInt64))) + (((s26 u2).toInt64) * ((s26 u5).toInt64)))), (.double (dotE (s26 u0) (s26 u1) (s26 u2) (s26 u3) (s26 u4) (s26 u5)))])) _
    refine XS.l2dS X11.here hx rfl (hb hby at_108) rfl (v := (FP.l2d (((((s26 u0).toInt64) * ((s26 u3).toInt64)) + (((s26 u1).toInt64) * ((s26 u4).toInt64))) + (((s26 u2).toInt64) * ((s26 u5).toInt64))))) rfl ?_
    show Steps p.tables e below (T11.setTop (mkF m 109 #[.val (.int u0), .val (.int u1), .val (.int u2), .val (.int u3), .val (.int u4), .val (.int u5), .val (.int (s26 u0)), .val (.int (s26 u1)), .val (.int (s26 u2)), .val (.int (s26 u3)), .val (.int (s26 u4)), .val (.int (s26 u5)), .val (.ref b7), .val (.ref b9), .val (.long (((((s26 u0).toInt64) * ((s26 u3).toInt64)) + (((s26 u1).toInt64) * ((s26 u4).toInt64))) + (((s26 u2).toInt64) * ((s26 u5).toInt64)))), .second] [(.double (FP.l2d (((((s26 u0).toInt64) * ((s26 u3).toInt64)) + (((s26 u1).toInt64) * ((s26 u4).toInt64))) + (((s26 u2).toInt64) * ((s26 u5).toInt64))))), (.double (dotE (s26 u0) (s26 u1) (s26 u2) (s26 u3) (s26 u4) (s26 u5)))])) _
    refine XS.dcmpS X11.here hx rfl (hb hby at_109) rfl (v := (0 : Int32)) hcmp ?_
    show Steps p.tables e below (T11.setTop (mkF m 110 #[.val (.int u0), .val (.int u1), .val (.int u2), .val (.int u3), .val (.int u4), .val (.int u5), .val (.int (s26 u0)), .val (.int (s26 u1)), .val (.int (s26 u2)), .val (.int (s26 u3)), .val (.int (s26 u4)), .val (.int (s26 u5)), .val (.ref b7), .val (.ref b9), .val (.long (((((s26 u0).toInt64) * ((s26 u3).toInt64)) + (((s26 u1).toInt64) * ((s26 u4).toInt64))) + (((s26 u2).toInt64) * ((s26 u5).toInt64)))), .second] [(.int (0 : Int32))])) _
    refine XS.ifNo X11.here hx rfl (hb hby at_110) rfl ((if0 _ _).trans (teq (rfl : (0 : Int32) = (0 : Int32))).2) ?_
    show Steps p.tables e below (T11.setTop (mkF m 113 #[.val (.int u0), .val (.int u1), .val (.int u2), .val (.int u3), .val (.int u4), .val (.int u5), .val (.int (s26 u0)), .val (.int (s26 u1)), .val (.int (s26 u2)), .val (.int (s26 u3)), .val (.int (s26 u4)), .val (.int (s26 u5)), .val (.ref b7), .val (.ref b9), .val (.long (((((s26 u0).toInt64) * ((s26 u3).toInt64)) + (((s26 u1).toInt64) * ((s26 u4).toInt64))) + (((s26 u2).toInt64) * ((s26 u5).toInt64)))), .second] [])) _
    refine XS.iconst X11.here hx rfl (hb hby at_113) ?_
    show Steps p.tables e below (T11.setTop (mkF m 114 #[.val (.int u0), .val (.int u1), .val (.int u2), .val (.int u3), .val (.int u4), .val (.int u5), .val (.int (s26 u0)), .val (.int (s26 u1)), .val (.int (s26 u2)), .val (.int (s26 u3)), .val (.int (s26 u4)), .val (.int (s26 u5)), .val (.ref b7), .val (.ref b9), .val (.long (((((s26 u0).toInt64) * ((s26 u3).toInt64)) + (((s26 u1).toInt64) * ((s26 u4).toInt64))) + (((s26 u2).toInt64) * ((s26 u5).toInt64)))), .second] [(.int (1 : Int32))])) _
    refine XS.goto X11.here hx rfl (pc0 := 114) (pc' := 118) rfl (hb hby at_114) (by decide) (by decide) ?_
    show Steps p.tables e below (T11.setTop (mkF m 118 #[.val (.int u0), .val (.int u1), .val (.int u2), .val (.int u3), .val (.int u4), .val (.int u5), .val (.int (s26 u0)), .val (.int (s26 u1)), .val (.int (s26 u2)), .val (.int (s26 u3)), .val (.int (s26 u4)), .val (.int (s26 u5)), .val (.ref b7), .val (.ref b9), .val (.long (((((s26 u0).toInt64) * ((s26 u3).toInt64)) + (((s26 u1).toInt64) * ((s26 u4).toInt64))) + (((s26 u2).toInt64) * ((s26 u5).toInt64)))), .second] [(.int (1 : Int32))])) _
    exact retN X11 hx (t := .boolean) Bd.returns (by simp) (hb hby at_118) hr
  · show Q0 n0 _ T11.heap _
    rw [K11]
    exact ⟨rfl, Fr.app NV1 N11q⟩
theorem rm0 (l : Launch) (Z : State) (a0 : Array Value) (hw : ∀ d ∈ tables_1, d.before a0 Z = true) (ws : List Jvm.Cond) (u0 u1 u2 u3 u4 u5 : Int32) (h0 : Heap) (n0 : Nat) (Z0 : n0 ≤ h0.size) :
    MetFree l x (head1 (Jvm.Cond.code x code maxLocals ret :: ws) room_1) (fun aa U => aa = #[(.int u0), (.int u1), (.int u2), (.int u3), (.int u4), (.int u5)] ∧ Z.Warmed39 U.vm ∧ U.heap = h0) (fun _ _ _ _ _ => True) (fun _ U o U' => ∃ v L, o = .returned v ∧ Q0 n0 v U'.heap L ∧ FrameEnd U o U' L 16 128) :=
  rm0x l Z a0 hw ws u0 u1 u2 u3 u4 u5 h0 n0 Z0 (own_nn (own_mul (s26 u0) (s26 u3) (s26_rng u0) (s26_rng u3))) (own_nn (own_mul (s26 u1) (s26 u4) (s26_rng u1) (s26_rng u4))) (own_nn (own_sum2 (s26 u0) (s26 u1) (s26 u3) (s26 u4) (s26_rng u0) (s26_rng u3) (s26_rng u1) (s26_rng u4))) (own_nn (own_mul (s26 u2) (s26 u5) (s26_rng u2) (s26_rng u5))) (own_nn (own_sum3 (s26 u0) (s26 u1) (s26 u2) (s26 u3) (s26 u4) (s26 u5) (s26_rng u0) (s26_rng u3) (s26_rng u1) (s26_rng u4) (s26_rng u2) (s26_rng u5))) (own_cmp (s26 u0) (s26 u1) (s26 u2) (s26 u3) (s26 u4) (s26 u5) (s26_rng u0) (s26_rng u3) (s26_rng u1) (s26_rng u4) (s26_rng u2) (s26_rng u5))
set_option maxRecDepth 65536 in
set_option maxHeartbeats 40000000 in
theorem comes_1 {Post : Tables → Env → Array Value → State → Outcome → State → Prop} (hpost : ∀ tb e args s v u, (limb_1_1.after args s (.returned v) u = true ∧ limb_1_2.after args s (.returned v) u = true ∧ True) → FrameEnd s (.returned v) u (Jvm.fieldLocs frame_1_writes args s ++ Jvm.arrayLocs frame_1_arrays args s ++ Jvm.staticLocs frame_1_statics s) 16 128 → Post tb e args s (.returned v) u) :
    ArmFor flags0 classFile x code maxLocals ret World_1 tables_1 room_1 Calls_1 rest_1 Pre_1 Post := by
  intro l hfl _ _ p e ha hc hk s m args below hf hA hF happ hP
  obtain ⟨hcalls, hrest, hpre⟩ := hP
  obtain ⟨-, -, -, hnamed, -, -, -, hat⟩ := (Spec.applies_iff hf).mp happ
  obtain ⟨hg, hn⟩ := and_e (Cond.before_iff.mp (show (Jvm.Cond.and given_1 narrow_1).before args s = true from hpre))
  obtain ⟨g0, gg0⟩ := and_e hg
  obtain ⟨g1, gg1⟩ := and_e gg0
  obtain ⟨g2, gg2⟩ := and_e gg1
  obtain ⟨g3, gg3⟩ := and_e gg2
  obtain ⟨g4, gg4⟩ := and_e gg3
  obtain ⟨g5, gg5⟩ := and_e gg4
  obtain ⟨w0, w1, w2, w3, w4, w5, rfl⟩ : ∃ w0 w1 w2 w3 w4 w5 : Value, args = #[w0, w1, w2, w3, w4, w5] := by
    have hs : args.size = 6 := by simpa [Cond.value, given_1] using g0
    obtain ⟨L⟩ := args
    match L, hs with
    | [w0, w1, w2, w3, w4, w5], _ => exact ⟨w0, w1, w2, w3, w4, w5, rfl⟩
  have hw := fun d (hd : d ∈ tables_1) => atoms_spec (ws := Jvm.Cond.code x code maxLocals ret :: tables_1) hat d (List.mem_cons_of_mem _ hd)
  obtain ⟨i0, ei0⟩ := is_v g1
  obtain rfl : w0 = (.int i0) := Option.some.inj ei0
  obtain ⟨i1, ei1⟩ := is_v g2
  obtain rfl : w1 = (.int i1) := Option.some.inj ei1
  obtain ⟨i2, ei2⟩ := is_v g3
  obtain rfl : w2 = (.int i2) := Option.some.inj ei2
  obtain ⟨i3, ei3⟩ := is_v g4
  obtain rfl : w3 = (.int i3) := Option.some.inj ei3
  obtain ⟨i4, ei4⟩ := is_v g5
  obtain rfl : w4 = (.int i4) := Option.some.inj ei4
  obtain ⟨i5, ei5⟩ := is_v gg5
  obtain rfl : w5 = (.int i5) := Option.some.inj ei5
  obtain ⟨n, o, h1, h2, h3, _, L, rfl, ⟨rfl, N⟩, hq⟩ := rm0 l s _ hw tables_1 i0 i1 i2 i3 i4 i5 s.heap s.heap.size (Nat.le_refl _) p e ha hc hk s m _ below hf ((Spec.applies_iff_loose hf).mp happ).1 ⟨rfl, State.Warmed39.refl s, rfl⟩ trivial
  refine ⟨n, _, h1, h2, h3, hpost _ _ _ _ _ _ ⟨Cond.after_iff.mpr rfl, Cond.after_iff.mpr (eq_i res_at (Term.int_eval (1)) rfl), trivial⟩ ⟨hq.1, hq.2.1, (hq.2.2.sift fun y hy => Or.inr (N y hy)).mono (by decide) (by decide)⟩⟩
theorem main_1_1 : Claimed_1_1 := comes_1 fun _ _ _ _ _ _ h hF => ⟨h.1, hF⟩
theorem main_1_2 : Claimed_1_2 := comes_1 fun _ _ _ _ _ _ h hF => ⟨h.2.1, hF⟩
end Jvm.Pilot.@@N@@
namespace Jvm.Pilot.@@N@@
open Jvm Jvm.ClassFile Sem Op Lib Jvm.Free Jvm.Stand Jvm.Pilot.@@N@@.Jvm.D
/-! MADE BY PROGRAM (witnessworld.py) out of the Statement's table words and the real class files: 16 classes; the members and pool entries that the words name. The judged class is class 1, her method 2. -/
namespace start1
open Jvm.ClassFile
def u (s : String) : CpInfo := .utf8 (stringToUtf16 s)
/-- a pool by its gaps: so many unusable entries, then the entry; so many at the end -/
def gap : Nat → List CpInfo → List CpInfo
  | 0, r => r
  | n + 1, r => .unusable :: gap n r
def poolList (es : List (Nat × CpInfo)) (last : Nat) : List CpInfo := es.foldr (fun e r => gap e.1 (e.2 :: r)) (gap last [])
def pool (es : List (Nat × CpInfo)) (last : Nat) : Array CpInfo := ⟨poolList es last⟩
def fileOf (pool : Array CpInfo) (this : Nat) (attrs : Array Attribute := #[]) (ms : Array MethodInfo := #[]) (fl : Nat := 33) (sup : Nat := 0) (ifs : Array Nat := #[]) (fds : Array FieldInfo := #[]) : ClassFile where
  minorVersion := 0
  majorVersion := 65
  constantPool := pool
  accessFlags := fl
  thisClass := this
  superClass := sup
  interfaces := ifs
  fields := fds
  methods := ms
  attributes := attrs
def plain (name : String) (sup : Option ClassId) : Class where
  name := name
  kind := .ordinary
  loader := none
  accessFlags := 33
  super := sup
  interfaces := #[]
  cf := none
  fields := #[]
  methods := #[]
  instanceTypes := #[]
  staticTypes := #[]
  resolved := #[]
  callSites := []
  init := .initialized
  statics := none
  mirror := none

def pool0 : Array CpInfo := pool [(5, u "<init>"), (0, u "()V"), (1, .class_ 10), (1, u "java/lang/Object")] 113

def k0c0 : Code := { maxStack := 0, maxLocals := 1, code := object_method_1_code, exceptionTable := #[], attributes := #[] }
def k0m0 : Method := { name := "<init>", desc := "()V", sig := { parameters := [], returnType := none }, accessFlags := 1, code := some k0c0 }
/-- java/lang/Object -/
def k0 : Class := { plain "java/lang/Object" none with
  accessFlags := 33
  interfaces := #[]
  cf := some (fileOf pool0 8 #[] #[{ accessFlags := 1, nameIndex := 5, descriptorIndex := 6, attributes := #[] }] 33 0 #[] #[])
  fields := #[]
  methods := #[k0m0]
  instanceTypes := #[]
  staticTypes := #[]
  resolved := Array.replicate 124 none
  statics := none }

def pool1 : Array CpInfo := pool [(2, .class_ 4), (1, u "java/lang/Object"), (0, u "<init>"), (0, u "()V"), (0, .methodref 8 9), (0, .class_ 10), (0, .nameAndType 11 12), (0, u "com/example/gyrokin/gyrokin/Vector3DotPinLaw"), (0, u "signed26"), (0, u "(I)I"), (0, .class_ 14), (0, u "com/example/gyrokin/gyrokin/Vector3"), (0, .methodref 13 16), (0, .nameAndType 5 17), (0, u "(DDD)V"), (0, .methodref 13 19), (0, .nameAndType 20 21), (0, u "dot"), (0, u "(Lcom/example/gyrokin/gyrokin/Vector3;)D"), (2, u "law"), (0, u "(IIIIII)Z")] 3

def k1m0 : Method := { name := "<init>", desc := "()V", sig := { parameters := [], returnType := none }, accessFlags := 1, code := none }
def k1c1 : Code := { maxStack := 2, maxLocals := 1, code := method_2_code, exceptionTable := #[], attributes := #[] }
def k1m1 : Method := { name := "signed26", desc := "(I)I", sig := { parameters := [.int], returnType := some .int }, accessFlags := 10, code := some k1c1 }
def k1c2 : Code := { maxStack := 8, maxLocals := 16, code := code, exceptionTable := #[], attributes := #[] }
def k1m2 : Method := { name := "law", desc := "(IIIIII)Z", sig := { parameters := [.int, .int, .int, .int, .int, .int], returnType := some .boolean }, accessFlags := 9, code := some k1c2 }
/-- com/example/gyrokin/gyrokin/Vector3DotPinLaw -/
def k1 : Class := { plain "com/example/gyrokin/gyrokin/Vector3DotPinLaw" (some 0) with
  accessFlags := 49
  interfaces := #[]
  cf := some (fileOf pool1 8 #[] #[{ accessFlags := 1, nameIndex := 5, descriptorIndex := 6, attributes := #[] }, { accessFlags := 10, nameIndex := 11, descriptorIndex := 12, attributes := #[] }, { accessFlags := 9, nameIndex := 24, descriptorIndex := 25, attributes := #[] }] 49 2 #[] #[])
  fields := #[]
  methods := #[k1m0, k1m1, k1m2]
  instanceTypes := #[]
  staticTypes := #[]
  resolved := Array.replicate 29 none
  statics := none }

def pool2 : Array CpInfo := pool [(1, .methodref 2 3), (0, .class_ 4), (0, .nameAndType 5 6), (0, u "java/lang/Object"), (0, u "<init>"), (0, u "()V"), (0, .class_ 8), (0, u "java/lang/Record")] 13

def k2c0 : Code := { maxStack := 1, maxLocals := 1, code := jdk_30_method_1_code, exceptionTable := #[], attributes := #[] }
def k2m0 : Method := { name := "<init>", desc := "()V", sig := { parameters := [], returnType := none }, accessFlags := 4, code := some k2c0 }
/-- java/lang/Record -/
def k2 : Class := { plain "java/lang/Record" (some 0) with
  accessFlags := 1057
  interfaces := #[]
  cf := some (fileOf pool2 7 #[] #[{ accessFlags := 4, nameIndex := 5, descriptorIndex := 6, attributes := #[] }] 1057 2 #[] #[])
  fields := #[]
  methods := #[k2m0]
  instanceTypes := #[]
  staticTypes := #[]
  resolved := Array.replicate 22 none
  statics := none }

def pool3 : Array CpInfo := pool [(1, .methodref 2 3), (0, .class_ 4), (0, .nameAndType 5 6), (0, u "java/lang/Record"), (0, u "<init>"), (0, u "()V"), (0, .methodref 8 9), (0, .class_ 10), (0, .nameAndType 11 12), (0, u "com/example/gyrokin/gyrokin/Vector3"), (0, u "requireFiniteComponents"), (0, u "(DDD)V"), (0, .fieldref 8 14), (0, .nameAndType 15 16), (0, u "x"), (0, u "D"), (0, .fieldref 8 18), (0, .nameAndType 19 16), (0, u "y"), (0, .fieldref 8 21), (0, .nameAndType 22 16), (0, u "z"), (7, u "(D)Z"), (63, .methodref 95 96), (0, .class_ 97), (0, .nameAndType 98 30), (0, u "java/lang/Double"), (0, u "isFinite"), (39, u "SMALLEST_SAFE_SUM_OF_SQUARES"), (13, u "dot"), (0, u "(Lcom/example/gyrokin/gyrokin/Vector3;)D")] 46

def k3c0 : Code := { maxStack := 6, maxLocals := 7, code := prog_10_method_1_code, exceptionTable := #[], attributes := #[] }
def k3m0 : Method := { name := "<init>", desc := "(DDD)V", sig := { parameters := [.double, .double, .double], returnType := none }, accessFlags := 1, code := some k3c0 }
def k3c1 : Code := { maxStack := 6, maxLocals := 2, code := prog_10_method_7_code, exceptionTable := #[], attributes := #[] }
def k3m1 : Method := { name := "dot", desc := "(Lcom/example/gyrokin/gyrokin/Vector3;)D", sig := { parameters := [(.object "com/example/gyrokin/gyrokin/Vector3")], returnType := some .double }, accessFlags := 1, code := some k3c1 }
def k3c2 : Code := { maxStack := 4, maxLocals := 6, code := prog_10_method_19_code, exceptionTable := #[], attributes := #[] }
def k3m2 : Method := { name := "requireFiniteComponents", desc := "(DDD)V", sig := { parameters := [.double, .double, .double], returnType := none }, accessFlags := 10, code := some k3c2 }
/-- com/example/gyrokin/gyrokin/Vector3 -/
def k3 : Class := { plain "com/example/gyrokin/gyrokin/Vector3" (some 2) with
  accessFlags := 49
  interfaces := #[]
  cf := some (fileOf pool3 8 #[] #[{ accessFlags := 1, nameIndex := 5, descriptorIndex := 12, attributes := #[] }, { accessFlags := 1, nameIndex := 152, descriptorIndex := 153, attributes := #[] }, { accessFlags := 10, nameIndex := 11, descriptorIndex := 12, attributes := #[] }] 49 2 #[] #[{ accessFlags := 18, nameIndex := 15, descriptorIndex := 16, attributes := #[] }, { accessFlags := 18, nameIndex := 19, descriptorIndex := 16, attributes := #[] }, { accessFlags := 18, nameIndex := 22, descriptorIndex := 16, attributes := #[] }, { accessFlags := 26, nameIndex := 138, descriptorIndex := 16, attributes := #[] }])
  fields := #[{ name := "x", type := .double, accessFlags := 18, slot := 0, constantValue := 0 }, { name := "y", type := .double, accessFlags := 18, slot := 1, constantValue := 0 }, { name := "z", type := .double, accessFlags := 18, slot := 2, constantValue := 0 }, { name := "SMALLEST_SAFE_SUM_OF_SQUARES", type := .double, accessFlags := 26, slot := 0, constantValue := 0 }]
  methods := #[k3m0, k3m1, k3m2]
  instanceTypes := #[.double, .double, .double]
  staticTypes := #[.double]
  resolved := Array.replicate 200 none
  statics := none }

def pool4 : Array CpInfo := pool [(1, .class_ 2), (0, u "java/io/Serializable"), (0, .class_ 4), (0, u "java/lang/Object")] 2

/-- java/io/Serializable -/
def k4 : Class := { plain "java/io/Serializable" (some 0) with
  accessFlags := 1537
  interfaces := #[]
  cf := some (fileOf pool4 1 #[] #[] 1537 3 #[] #[])
  fields := #[]
  methods := #[]
  instanceTypes := #[]
  staticTypes := #[]
  resolved := Array.replicate 7 none
  statics := none }

def pool5 : Array CpInfo := pool [(2, .class_ 4), (1, u "java/lang/Object"), (0, u "<init>"), (0, u "()V"), (1, .class_ 10), (1, u "java/lang/Number"), (2, .class_ 14), (0, u "java/io/Serializable"), (0, u "serialVersionUID"), (0, u "J")] 20

def k5m0 : Method := { name := "<init>", desc := "()V", sig := { parameters := [], returnType := none }, accessFlags := 1, code := none }
/-- java/lang/Number -/
def k5 : Class := { plain "java/lang/Number" (some 0) with
  accessFlags := 1057
  interfaces := #[4]
  cf := some (fileOf pool5 8 #[] #[{ accessFlags := 1, nameIndex := 5, descriptorIndex := 6, attributes := #[] }] 1057 2 #[13] #[{ accessFlags := 26, nameIndex := 15, descriptorIndex := 16, attributes := #[] }])
  fields := #[{ name := "serialVersionUID", type := .long, accessFlags := 26, slot := 0, constantValue := 0 }]
  methods := #[k5m0]
  instanceTypes := #[]
  staticTypes := #[.long]
  resolved := Array.replicate 37 none
  statics := none }

def pool6 : Array CpInfo := pool [(1, .class_ 2), (0, u "java/lang/Comparable"), (0, .class_ 4), (0, u "java/lang/Object")] 7

/-- java/lang/Comparable -/
def k6 : Class := { plain "java/lang/Comparable" (some 0) with
  accessFlags := 1537
  interfaces := #[]
  cf := some (fileOf pool6 1 #[] #[] 1537 3 #[] #[])
  fields := #[]
  methods := #[]
  instanceTypes := #[]
  staticTypes := #[]
  resolved := Array.replicate 12 none
  statics := none }

def pool7 : Array CpInfo := pool [(1, .class_ 2), (0, u "java/lang/constant/Constable"), (0, .class_ 4), (0, u "java/lang/Object")] 6

/-- java/lang/constant/Constable -/
def k7 : Class := { plain "java/lang/constant/Constable" (some 0) with
  accessFlags := 1537
  interfaces := #[]
  cf := some (fileOf pool7 1 #[] #[] 1537 3 #[] #[])
  fields := #[]
  methods := #[]
  instanceTypes := #[]
  staticTypes := #[]
  resolved := Array.replicate 11 none
  statics := none }

def pool8 : Array CpInfo := pool [(1, .class_ 2), (0, u "java/lang/constant/ConstantDesc"), (0, .class_ 4), (0, u "java/lang/Object")] 32

/-- java/lang/constant/ConstantDesc -/
def k8 : Class := { plain "java/lang/constant/ConstantDesc" (some 0) with
  accessFlags := 1537
  interfaces := #[]
  cf := some (fileOf pool8 1 #[] #[] 1537 3 #[] #[])
  fields := #[]
  methods := #[]
  instanceTypes := #[]
  staticTypes := #[]
  resolved := Array.replicate 37 none
  statics := none }

def pool9 : Array CpInfo := pool [(1, .class_ 2), (0, u "java/lang/Double"), (10, u "isFinite"), (0, u "(D)Z"), (8, .class_ 25), (1, u "java/lang/Math"), (12, .methodref 23 39), (0, .nameAndType 40 41), (0, u "abs"), (0, u "(D)D"), (69, .double 9218868437227405311), (2, .class_ 116), (1, u "java/lang/Number"), (3, u "value"), (0, u "D"), (51, u "TYPE"), (0, u "Ljava/lang/Class;"), (0, .class_ 176), (0, u "java/lang/Comparable"), (0, .class_ 178), (0, u "java/lang/constant/Constable"), (0, .class_ 180), (0, u "java/lang/constant/ConstantDesc"), (0, u "POSITIVE_INFINITY"), (3, u "NEGATIVE_INFINITY"), (2, u "NaN"), (2, u "MAX_VALUE"), (0, u "MIN_NORMAL"), (0, u "MIN_VALUE"), (2, u "SIZE"), (0, u "I"), (1, u "PRECISION"), (1, u "MAX_EXPONENT"), (1, u "MIN_EXPONENT"), (1, u "BYTES"), (3, u "serialVersionUID"), (0, u "J")] 79

def k9c0 : Code := { maxStack := 4, maxLocals := 2, code := jdk_117_method_8_code, exceptionTable := #[], attributes := #[] }
def k9m0 : Method := { name := "isFinite", desc := "(D)Z", sig := { parameters := [.double], returnType := some .boolean }, accessFlags := 9, code := some k9c0 }
/-- java/lang/Double -/
def k9 : Class := { plain "java/lang/Double" (some 5) with
  accessFlags := 49
  interfaces := #[6, 7, 8]
  cf := some (fileOf pool9 1 #[] #[{ accessFlags := 9, nameIndex := 13, descriptorIndex := 14, attributes := #[] }] 49 114 #[175, 177, 179] #[{ accessFlags := 25, nameIndex := 181, descriptorIndex := 121, attributes := #[] }, { accessFlags := 25, nameIndex := 185, descriptorIndex := 121, attributes := #[] }, { accessFlags := 25, nameIndex := 188, descriptorIndex := 121, attributes := #[] }, { accessFlags := 25, nameIndex := 191, descriptorIndex := 121, attributes := #[] }, { accessFlags := 25, nameIndex := 192, descriptorIndex := 121, attributes := #[] }, { accessFlags := 25, nameIndex := 193, descriptorIndex := 121, attributes := #[] }, { accessFlags := 25, nameIndex := 196, descriptorIndex := 197, attributes := #[] }, { accessFlags := 25, nameIndex := 199, descriptorIndex := 197, attributes := #[] }, { accessFlags := 25, nameIndex := 201, descriptorIndex := 197, attributes := #[] }, { accessFlags := 25, nameIndex := 203, descriptorIndex := 197, attributes := #[] }, { accessFlags := 25, nameIndex := 205, descriptorIndex := 197, attributes := #[] }, { accessFlags := 25, nameIndex := 173, descriptorIndex := 174, attributes := #[] }, { accessFlags := 18, nameIndex := 120, descriptorIndex := 121, attributes := #[] }, { accessFlags := 26, nameIndex := 209, descriptorIndex := 210, attributes := #[] }])
  fields := #[{ name := "POSITIVE_INFINITY", type := .double, accessFlags := 25, slot := 0, constantValue := 0 }, { name := "NEGATIVE_INFINITY", type := .double, accessFlags := 25, slot := 1, constantValue := 0 }, { name := "NaN", type := .double, accessFlags := 25, slot := 2, constantValue := 0 }, { name := "MAX_VALUE", type := .double, accessFlags := 25, slot := 3, constantValue := 0 }, { name := "MIN_NORMAL", type := .double, accessFlags := 25, slot := 4, constantValue := 0 }, { name := "MIN_VALUE", type := .double, accessFlags := 25, slot := 5, constantValue := 0 }, { name := "SIZE", type := .int, accessFlags := 25, slot := 6, constantValue := 0 }, { name := "PRECISION", type := .int, accessFlags := 25, slot := 7, constantValue := 0 }, { name := "MAX_EXPONENT", type := .int, accessFlags := 25, slot := 8, constantValue := 0 }, { name := "MIN_EXPONENT", type := .int, accessFlags := 25, slot := 9, constantValue := 0 }, { name := "BYTES", type := .int, accessFlags := 25, slot := 10, constantValue := 0 }, { name := "TYPE", type := (.object "java/lang/Class"), accessFlags := 25, slot := 11, constantValue := 0 }, { name := "value", type := .double, accessFlags := 18, slot := 0, constantValue := 0 }, { name := "serialVersionUID", type := .long, accessFlags := 26, slot := 12, constantValue := 0 }]
  methods := #[k9m0]
  instanceTypes := #[.double]
  staticTypes := #[.double, .double, .double, .double, .double, .double, .int, .int, .int, .int, .int, (.object "java/lang/Class"), .long]
  resolved := Array.replicate 290 none
  statics := none }

def pool10 : Array CpInfo := pool [(1, .class_ 2), (0, u "java/lang/Math"), (1, .class_ 6), (1, u "java/lang/Object"), (0, u "<init>"), (0, u "()V"), (5, u "(D)D"), (83, .class_ 100), (1, u "java/lang/Math$RandomNumberGeneratorHolder"), (23, u "abs"), (47, u "negativeZeroFloatBits"), (0, u "J"), (2, u "negativeZeroDoubleBits"), (68, u "$assertionsDisabled"), (0, u "Z"), (91, u "twoToTheDoubleScaleDown"), (0, u "D"), (4, u "twoToTheDoubleScaleUp"), (9, u "E"), (3, u "PI"), (2, u "TAU"), (2, u "DEGREES_TO_RADIANS"), (0, u "RADIANS_TO_DEGREES")] 94

def k10m0 : Method := { name := "<init>", desc := "()V", sig := { parameters := [], returnType := none }, accessFlags := 2, code := none }
def k10c1 : Code := { maxStack := 4, maxLocals := 2, code := jdk_29_method_64_code, exceptionTable := #[], attributes := #[] }
def k10m1 : Method := { name := "abs", desc := "(D)D", sig := { parameters := [.double], returnType := some .double }, accessFlags := 9, code := some k10c1 }
/-- java/lang/Math -/
def k10 : Class := { plain "java/lang/Math" (some 0) with
  accessFlags := 49
  interfaces := #[]
  cf := some (fileOf pool10 1 #[.nestMembers #[98]] #[{ accessFlags := 2, nameIndex := 7, descriptorIndex := 8, attributes := #[] }, { accessFlags := 9, nameIndex := 124, descriptorIndex := 14, attributes := #[] }] 49 4 #[] #[{ accessFlags := 25, nameIndex := 354, descriptorIndex := 339, attributes := #[] }, { accessFlags := 25, nameIndex := 358, descriptorIndex := 339, attributes := #[] }, { accessFlags := 25, nameIndex := 361, descriptorIndex := 339, attributes := #[] }, { accessFlags := 26, nameIndex := 364, descriptorIndex := 339, attributes := #[] }, { accessFlags := 26, nameIndex := 365, descriptorIndex := 339, attributes := #[] }, { accessFlags := 26, nameIndex := 172, descriptorIndex := 173, attributes := #[] }, { accessFlags := 26, nameIndex := 176, descriptorIndex := 173, attributes := #[] }, { accessFlags := 8, nameIndex := 344, descriptorIndex := 339, attributes := #[] }, { accessFlags := 8, nameIndex := 338, descriptorIndex := 339, attributes := #[] }, { accessFlags := 4120, nameIndex := 245, descriptorIndex := 246, attributes := #[] }])
  fields := #[{ name := "E", type := .double, accessFlags := 25, slot := 0, constantValue := 0 }, { name := "PI", type := .double, accessFlags := 25, slot := 1, constantValue := 0 }, { name := "TAU", type := .double, accessFlags := 25, slot := 2, constantValue := 0 }, { name := "DEGREES_TO_RADIANS", type := .double, accessFlags := 26, slot := 3, constantValue := 0 }, { name := "RADIANS_TO_DEGREES", type := .double, accessFlags := 26, slot := 4, constantValue := 0 }, { name := "negativeZeroFloatBits", type := .long, accessFlags := 26, slot := 5, constantValue := 0 }, { name := "negativeZeroDoubleBits", type := .long, accessFlags := 26, slot := 6, constantValue := 0 }, { name := "twoToTheDoubleScaleUp", type := .double, accessFlags := 8, slot := 7, constantValue := 0 }, { name := "twoToTheDoubleScaleDown", type := .double, accessFlags := 8, slot := 8, constantValue := 0 }, { name := "$assertionsDisabled", type := .boolean, accessFlags := 4120, slot := 9, constantValue := 0 }]
  methods := #[k10m0, k10m1]
  instanceTypes := #[]
  staticTypes := #[.double, .double, .double, .double, .double, .long, .long, .double, .double, .boolean]
  resolved := Array.replicate 460 none
  statics := none }

def pool11 : Array CpInfo := pool [(1, u "java/lang/Cloneable"), (0, .class_ 1), (0, u "java/lang/Object"), (0, .class_ 3)] 3

/-- java/lang/Cloneable -/
def k11 : Class := { plain "java/lang/Cloneable" (some 0) with
  accessFlags := 1537
  interfaces := #[]
  cf := some (fileOf pool11 2 #[] #[] 1537 4 #[] #[])
  fields := #[]
  methods := #[]
  instanceTypes := #[]
  staticTypes := #[]
  resolved := Array.replicate 8 none
  statics := none }

/-- the primitive byte -/
def k12 : Class := { plain "byte" none with kind := .primitive 'B', accessFlags := 0x411 }
/-- [B -/
def k13 : Class := { plain "[B" (some 0) with kind := .array 12 .byte, interfaces := #[11, 4], accessFlags := 1041 }

/-- the primitive int -/
def k14 : Class := { plain "int" none with kind := .primitive 'I', accessFlags := 0x411 }
/-- [I -/
def k15 : Class := { plain "[I" (some 0) with kind := .array 14 .int, interfaces := #[11, 4], accessFlags := 1041 }

def heap : Heap := #[]
def classes : Array Class := #[k0, k1, k2, k3, k4, k5, k6, k7, k8, k9, k10, k11, k12, k13, k14, k15]
def interned : List (Array UInt16 × Addr) := []
def slotsUsed : Nat := 0
def theMethod : MethodId := ⟨1, 2⟩
def args0 : Array Value := #[.int 1, .int 2, .int 3, .int 4, .int 5, .int 6]
def aboutOver (below : List Frame) : State where
  vm := { classes := classes, interned := interned.toArray }
  heap := heap
  slotsUsed := slotsUsed
  threads := #[{ frames := .invoking theMethod args0 :: below }]
def below0 : List Frame := [.native { method := ⟨0, 0⟩, args := #[] }]
def about1 : State := aboutOver below0
def p0 : Program := .bare "" "" ""
def e0 : Env := launch0.env 0 0 0
theorem w_frames : about1.frames = Frame.invoking theMethod args0 :: below0 := rfl
set_option maxRecDepth 65536 in
theorem w_args : argsFit about1.vm theMethod args0 = true := by decide +kernel
set_option maxRecDepth 65536 in
theorem w_heap : heapFits about1 = true := by decide +kernel
set_option maxRecDepth 65536 in
theorem w_runnable : about1.curStatus? = some .runnable := by decide +kernel
set_option maxRecDepth 65536 in
theorem w_alone : about1.alone = true := by decide +kernel
set_option maxRecDepth 65536 in
theorem w_named : about1.methodNamed? x = some theMethod := by decide +kernel
set_option maxRecDepth 65536 in
theorem w_hears : about1.hears theMethod below0 = true := by decide +kernel
set_option maxRecDepth 65536 in
theorem w_ripe : about1.ripe theMethod args0 below0 = true := by decide +kernel
theorem w_running : about1.status = .running := rfl
set_option maxRecDepth 65536 in
theorem w_room : about1.hasRoom e0.platform room_1 = true :=
  launch0.hasRoom_least _ room_1 (by decide +kernel) (by decide +kernel) (by decide +kernel) (by decide +kernel) (by decide +kernel) (by decide +kernel)
theorem allAtoms_all (ts : List Jvm.Cond) (a : Array Jvm.Value) (st : Jvm.State) : (allAtoms ts).before a st = ts.all (fun c => c.before a st) := by
  induction ts with
  | nil => rfl
  | cons c t ih =>
    show (Jvm.Cond.and c (allAtoms t)).before a st = _
    rw [Jvm.Cond.before_and, ih, List.all_cons]
def words1 : List Jvm.Cond := Jvm.Cond.code x code maxLocals ret :: tables_1
/-- a 'code' word, met by the world's own term for the bytes: nothing is compared byte by byte -/
theorem code_word {y : MethodName} {bytes : ByteArray} {mx : Nat} {rt : Option FieldType} {a : Array Value} {s : State} {m : MethodId} {meth : Method} {c : Code} (h1 : s.methodNamed? y = some m) (h2 : s.vm.method? m = some meth) (h3 : meth.code = some c) (h4 : c.code = bytes)
    (h5 : (c.maxLocals == mx && c.exceptionTable.isEmpty && decide (c.maxStack ≤ mostOperands) && decide (meth.sig.returnType = rt) && !meth.locks && decide (parseMethodDescriptor y.desc = some meth.sig)) = true) : (Jvm.Cond.code y bytes mx rt).before a s = true := by
  simp only [Bool.and_eq_true, beq_iff_eq, Bool.not_eq_true', decide_eq_true_eq] at h5
  obtain ⟨⟨⟨⟨⟨g1, g2⟩, g3⟩, g4⟩, g5⟩, g6⟩ := h5
  simp [Cond.before, Cond.holds, Cond.value, h1, h2, h3, h4, g1, g2, g3, g4, g5, g6]
def isCode : Jvm.Cond → Bool
  | .code _ _ _ _ => true
  | _ => false
theorem all_split {L : List Jvm.Cond} {P : Jvm.Cond → Bool} (h1 : L.all (fun c => isCode c || P c) = true) (h2 : ∀ c ∈ L.filter isCode, P c = true) : L.all P = true := by
  refine List.all_eq_true.mpr fun c hc => ?_
  have h := List.all_eq_true.mp h1 c hc
  rcases Bool.eq_false_or_eq_true (isCode c) with hi | hi
  · exact h2 c (List.mem_filter.mpr ⟨hc, hi⟩)
  · simpa [hi] using h
set_option maxRecDepth 65536 in
theorem w_c0 : (Jvm.Cond.code x code maxLocals ret).before args0 about1 = true := code_word (m := ⟨1, 2⟩) (meth := k1m2) (c := k1c2) (by decide +kernel) rfl rfl rfl (by decide +kernel)
set_option maxRecDepth 65536 in
theorem w_c1 : (Jvm.Cond.code ({ cls := "com/example/gyrokin/gyrokin/Vector3DotPinLaw", name := "signed26", desc := "(I)I" } : Jvm.MethodName) method_2_code (1 : Nat) (Option.some Jvm.ClassFile.FieldType.int)).before args0 about1 = true := code_word (m := ⟨1, 1⟩) (meth := k1m1) (c := k1c1) (by decide +kernel) rfl rfl rfl (by decide +kernel)
set_option maxRecDepth 65536 in
theorem w_c2 : (Jvm.Cond.code ({ cls := "com/example/gyrokin/gyrokin/Vector3", name := "<init>", desc := "(DDD)V" } : Jvm.MethodName) prog_10_method_1_code (7 : Nat) (Option.none : Option Jvm.ClassFile.FieldType)).before args0 about1 = true := code_word (m := ⟨3, 0⟩) (meth := k3m0) (c := k3c0) (by decide +kernel) rfl rfl rfl (by decide +kernel)
set_option maxRecDepth 65536 in
theorem w_c3 : (Jvm.Cond.code ({ cls := "java/lang/Record", name := "<init>", desc := "()V" } : Jvm.MethodName) jdk_30_method_1_code (1 : Nat) (Option.none : Option Jvm.ClassFile.FieldType)).before args0 about1 = true := code_word (m := ⟨2, 0⟩) (meth := k2m0) (c := k2c0) (by decide +kernel) rfl rfl rfl (by decide +kernel)
set_option maxRecDepth 65536 in
theorem w_c4 : (Jvm.Cond.code ({ cls := "java/lang/Object", name := "<init>", desc := "()V" } : Jvm.MethodName) object_method_1_code (1 : Nat) (Option.none : Option Jvm.ClassFile.FieldType)).before args0 about1 = true := code_word (m := ⟨0, 0⟩) (meth := k0m0) (c := k0c0) (by decide +kernel) rfl rfl rfl (by decide +kernel)
set_option maxRecDepth 65536 in
theorem w_c5 : (Jvm.Cond.code ({ cls := "com/example/gyrokin/gyrokin/Vector3", name := "requireFiniteComponents", desc := "(DDD)V" } : Jvm.MethodName) prog_10_method_19_code (6 : Nat) (Option.none : Option Jvm.ClassFile.FieldType)).before args0 about1 = true := code_word (m := ⟨3, 2⟩) (meth := k3m2) (c := k3c2) (by decide +kernel) rfl rfl rfl (by decide +kernel)
set_option maxRecDepth 65536 in
theorem w_c6 : (Jvm.Cond.code ({ cls := "java/lang/Double", name := "isFinite", desc := "(D)Z" } : Jvm.MethodName) jdk_117_method_8_code (2 : Nat) (Option.some Jvm.ClassFile.FieldType.boolean)).before args0 about1 = true := code_word (m := ⟨9, 0⟩) (meth := k9m0) (c := k9c0) (by decide +kernel) rfl rfl rfl (by decide +kernel)
set_option maxRecDepth 65536 in
theorem w_c7 : (Jvm.Cond.code ({ cls := "java/lang/Math", name := "abs", desc := "(D)D" } : Jvm.MethodName) jdk_29_method_64_code (2 : Nat) (Option.some Jvm.ClassFile.FieldType.double)).before args0 about1 = true := code_word (m := ⟨10, 1⟩) (meth := k10m1) (c := k10c1) (by decide +kernel) rfl rfl rfl (by decide +kernel)
set_option maxRecDepth 65536 in
theorem w_c8 : (Jvm.Cond.code ({ cls := "com/example/gyrokin/gyrokin/Vector3", name := "dot", desc := "(Lcom/example/gyrokin/gyrokin/Vector3;)D" } : Jvm.MethodName) prog_10_method_7_code (2 : Nat) (Option.some Jvm.ClassFile.FieldType.double)).before args0 about1 = true := code_word (m := ⟨3, 1⟩) (meth := k3m1) (c := k3c1) (by decide +kernel) rfl rfl rfl (by decide +kernel)
def codes1 : List Jvm.Cond := [Jvm.Cond.code x code maxLocals ret, Jvm.Cond.code ({ cls := "com/example/gyrokin/gyrokin/Vector3DotPinLaw", name := "signed26", desc := "(I)I" } : Jvm.MethodName) method_2_code (1 : Nat) (Option.some Jvm.ClassFile.FieldType.int), Jvm.Cond.code ({ cls := "com/example/gyrokin/gyrokin/Vector3", name := "<init>", desc := "(DDD)V" } : Jvm.MethodName) prog_10_method_1_code (7 : Nat) (Option.none : Option Jvm.ClassFile.FieldType), Jvm.Cond.code ({ cls := "java/lang/Record", name := "<init>", desc := "()V" } : Jvm.MethodName) jdk_30_method_1_code (1 : Nat) (Option.none : Option Jvm.ClassFile.FieldType), Jvm.Cond.code ({ cls := "java/lang/Object", name := "<init>", desc := "()V" } : Jvm.MethodName) object_method_1_code (1 : Nat) (Option.none : Option Jvm.ClassFile.FieldType), Jvm.Cond.code ({ cls := "com/example/gyrokin/gyrokin/Vector3", name := "requireFiniteComponents", desc := "(DDD)V" } : Jvm.MethodName) prog_10_method_19_code (6 : Nat) (Option.none : Option Jvm.ClassFile.FieldType), Jvm.Cond.code ({ cls := "java/lang/Double", name := "isFinite", desc := "(D)Z" } : Jvm.MethodName) jdk_117_method_8_code (2 : Nat) (Option.some Jvm.ClassFile.FieldType.boolean), Jvm.Cond.code ({ cls := "java/lang/Math", name := "abs", desc := "(D)D" } : Jvm.MethodName) jdk_29_method_64_code (2 : Nat) (Option.some Jvm.ClassFile.FieldType.double), Jvm.Cond.code ({ cls := "com/example/gyrokin/gyrokin/Vector3", name := "dot", desc := "(Lcom/example/gyrokin/gyrokin/Vector3;)D" } : Jvm.MethodName) prog_10_method_7_code (2 : Nat) (Option.some Jvm.ClassFile.FieldType.double)]
set_option maxRecDepth 65536 in
theorem codes_eq : words1.filter isCode = codes1 := rfl
theorem w_codes : ∀ c ∈ words1.filter isCode, c.before args0 about1 = true := by
  rw [codes_eq]
  intro c hc
  simp only [codes1, List.mem_cons, List.not_mem_nil, or_false] at hc
  rcases hc with rfl | rfl | rfl | rfl | rfl | rfl | rfl | rfl | rfl
  · exact w_c0
  · exact w_c1
  · exact w_c2
  · exact w_c3
  · exact w_c4
  · exact w_c5
  · exact w_c6
  · exact w_c7
  · exact w_c8
set_option maxRecDepth 65536 in
theorem w_t1 : (words1.take 24).all (fun c => isCode c || c.before args0 about1) = true := by decide +kernel
set_option maxRecDepth 65536 in
theorem w_t2 : (words1.drop 24).all (fun c => isCode c || c.before args0 about1) = true := by decide +kernel
theorem w_tables : (allAtoms (Jvm.Cond.code x code maxLocals ret :: tables_1)).before args0 about1 = true := by
  rw [allAtoms_all]
  show words1.all (fun c => c.before args0 about1) = true
  refine all_split ?_ w_codes
  rw [← List.take_append_drop 24 words1, List.all_append, w_t1, w_t2]
  rfl
set_option maxRecDepth 65536 in
theorem w_case : (Jvm.Cond.and given_1 narrow_1).before args0 about1 = true := by decide +kernel
theorem w_applies : (headSpec (Jvm.Cond.code x code maxLocals ret :: tables_1) room_1).applies x e0.platform about1 = true :=
  (Spec.applies_iff w_frames).mpr ⟨w_running, w_runnable, w_alone, w_named, w_hears, w_ripe, w_room, w_tables⟩
theorem atStart : AtStart classFile x code maxLocals ret World_1 tables_1 room_1 Calls_1 rest_1 Pre_1 launch0 p0 e0 about1 theMethod args0 below0 :=
  ⟨lists_1, trivial, launch0.admits_env _ _ _, launch0.least_env, fairChoices_fair.cas, fairChoices_fair.clock, w_frames, w_args, w_heap, w_applies, trivial, trivial, w_case⟩
end start1
theorem witness_1 : WitnessClaimed_1 := ⟨start1.p0, start1.e0, start1.about1, start1.theMethod, start1.args0, start1.below0, start1.atStart⟩
end Jvm.Pilot.@@N@@
