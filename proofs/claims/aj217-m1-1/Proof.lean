import JvmDerived
import JvmDerived.Pilot.@@N@@Statement
import JvmDerived.Pilot.@@N@@Code
set_option linter.unusedVariables false
set_option linter.unusedSimpArgs false
namespace Jvm.Pilot.@@N@@
open Jvm Jvm.ClassFile Sem Op Lib Jvm.Free Jvm.Stand Jvm.LawKit Jvm.RoadKit Bundle Jvm.Pilot.@@N@@.Jvm.D
section Own
variable {p : Program} {l : Launch} {e : Env} {R : Room} {s : State} {m : MethodId} {args : Array Value} {below : List Frame} {meth : Method} {c : Code} {T : State} {locs : List Loc} {cells slots : Nat}
/-- the return of a double -/
theorem own_retD (X : Stand p l e R s m args below meth c T locs cells slots) (hx : p.tables.exec = Jvm.exec) {pc : Nat} {Ls : Array Slot} {z : UInt64} {rest : List Value} (hret : meth.sig.returnType = some .double) (hd : decode c.code pc = .ok (.dreturn, 1)) {fs : List Frame}
    (hl : ∀ (f : JFrame) (acts : List Action), f.method = m → f.locked = none → f.entered = [] → (doReturn e (T.setTop f) acts (some (.double z))).1 = T.setFrames fs) : Steps p.tables e below (T.setTop (mkF m pc Ls (.double z :: rest))) (T.setFrames fs) := by
  have hm' : T.vm.method? m = some meth := X.method'
  have hn : narrow .double (.double z) = .double z := rfl
  show Steps p.tables e below (T.setTop { method := m, pc := pc, locals := Ls, stack := _ :: rest, locked := none }) _
  jvm_step X.here [X.here.top, hx, hd, hm', hret, hn]
  first | (intro acts; rw [hl _ acts rfl rfl rfl]) | rw [hl _ _ rfl rfl rfl]
  exact Steps.refl _
/-- the return of an int -/
theorem retI (X : Stand p l e R s m args below meth c T locs cells slots) (hx : p.tables.exec = Jvm.exec) {pc : Nat} {Ls : Array Slot} {z : Int32} {rest : List Value} (hret : meth.sig.returnType = some .int) (hd : decode c.code pc = .ok (.ireturn, 1)) {fs : List Frame}
    (hl : ∀ (f : JFrame) (acts : List Action), f.method = m → f.locked = none → f.entered = [] → (doReturn e (T.setTop f) acts (some (.int z))).1 = T.setFrames fs) : Steps p.tables e below (T.setTop (mkF m pc Ls (.int z :: rest))) (T.setFrames fs) := by
  have hm' : T.vm.method? m = some meth := X.method'
  have hn : narrow .int (.int z) = .int z := rfl
  show Steps p.tables e below (T.setTop { method := m, pc := pc, locals := Ls, stack := _ :: rest, locked := none }) _
  jvm_step X.here [X.here.top, hx, hd, hm', hret, hn]
  first | (intro acts; rw [hl _ acts rfl rfl rfl]) | rw [hl _ _ rfl rfl rfl]
  exact Steps.refl _
/-- a cell, read over the heap's other name -/
theorem own_at {h : Heap} {a : Addr} {cl : Cell} (q : T.heap = h) (k : h[a]? = some cl) : T.heap[a]? = some cl := by rw [q]; exact k
/-- the remainder as the machine reckons it is the remainder -/
theorem own_rem (x y : Int32) : x - (x / y) * y = x % y := by
  have a := c_isub x (x / y * y)
  have b := c_imul (x / y) y
  have e := bm32 (x.toInt.tdiv y.toInt)
  have f := Int.mul_tdiv_add_tmod x.toInt y.toInt
  have r := rng32 (x - x / y * y)
  have r' := rng32 (x % y)
  rw [← Int32.toInt_div] at e
  rw [← Int32.toInt_mod, Int.mul_comm] at f
  obtain ⟨k, hk⟩ : ∃ k, (x / y).toInt = x.toInt.tdiv y.toInt + 4294967296 * k := ⟨((x / y).toInt - x.toInt.tdiv y.toInt) / 4294967296, by omega⟩
  have g : (x / y).toInt * y.toInt = x.toInt.tdiv y.toInt * y.toInt + 4294967296 * (k * y.toInt) := by rw [hk, Int.add_mul, Int.mul_assoc]
  apply Int32.toInt_inj.mp
  omega
theorem own_irem {tb : Tables} [Ours tb] {target : State} {g : JFrame} (h : At T m c below) (hx : tb.exec = Jvm.exec) (hg : g.method = m) {x y : Int32} {rest : List Value} (hd : decode c.code g.pc = .ok (.irem, 1)) (hs : g.stack = .int y :: .int x :: rest) (hy : y ≠ 0)
    (hr : Steps tb e below (T.setTop { g with pc := g.pc + 1, stack := .int (x % y) :: rest }) target) : Steps tb e below (T.setTop g) target :=
  XS.irem h hx hg hd hs hy (by rw [own_rem]; exact hr)
end Own
def compE (a : Int64) (bit : Int32) : UInt64 := if bit = 0 then FP.l2d a else FP.dneg (FP.l2d a)
abbrev ngE (c : UInt64) : UInt64 := FP.dadd (FP.dneg c) FP.dconst0
section Own3
open Jvm.Free.Fl
theorem comp_mag (a : Int64) (b : Int32) : Mag64 1088 (compE a b) := by
  unfold compE; split
  · exact l2d_mag a
  · exact dneg_mag (l2d_mag a)
theorem comp_nn (a : Int64) (b : Int32) : NoNaN64 (compE a b) := ((comp_mag a b).fin (by decide)).noNaN
theorem own_mag2 {x y : UInt64} (h1 : Mag64 1088 x) (h2 : Mag64 1088 y) : Mag64 1090 (FP.dadd x y) := dadd_mag h1 h2 (by decide)
theorem own_mag3 {x y z : UInt64} (h1 : Mag64 1088 x) (h2 : Mag64 1088 y) (h3 : Mag64 1088 z) : Mag64 1092 (FP.dadd (FP.dadd x y) z) := dadd_mag (own_mag2 h1 h2) (h3.mono (by decide)) (by decide)
theorem zero_mag : Mag64 1088 FP.dconst0 := by unfold Mag64; decide
theorem own_ng {x : UInt64} (h : Mag64 1088 x) : NoNaN64 (ngE x) := ((own_mag2 (dneg_mag h) zero_mag).fin (by decide)).noNaN
theorem pz1 : cmpValue (FP.dcmp FP.dconst0 FP.dconst0) .l = 0 := by decide +kernel
theorem pz2 : NoNaN64 (FP.ddiv FP.dconst1 FP.dconst0) := by unfold NoNaN64; decide +kernel
theorem pz3 : cmpValue (FP.dcmp (FP.ddiv FP.dconst1 FP.dconst0) FP.dconst0) .l = 1 := by decide +kernel
/-- the two zeros, and all the rest -/
theorem neg_cases {c : UInt64} (hn : NoNaN64 c) : (cmpValue (FP.dcmp c FP.dconst0) .l = 0 ∧ ngE c = FP.dconst0) ∨ (¬ cmpValue (FP.dcmp c FP.dconst0) .l = 0 ∧ ngE c = FP.dneg c) := by
  by_cases h : c.toNat % 9223372036854775808 = 0
  · left
    have hl := c.toNat_lt
    have : c.toNat = 0 ∨ c.toNat = 9223372036854775808 := by omega
    rcases this with q | q
    · obtain rfl : c = 0 := UInt64.toNat_inj.mp (by rw [q]; rfl)
      exact ⟨by decide +kernel, by decide +kernel⟩
    · obtain rfl : c = 9223372036854775808 := UInt64.toNat_inj.mp (by rw [q]; rfl)
      exact ⟨by decide +kernel, by decide +kernel⟩
  · right
    have hv : FP.Core.val64 c ≠ .nan := val64_no.mp hn
    have hd : FP.Core.val64 (FP.dneg c) ≠ .nan := by rw [FP.val64_dneg]; exact FP.Core.negate_ne_nan hv
    refine ⟨fun q => h ?_, FP.Core.dadd_zero hd fun q => h ?_⟩
    · have e : FP.dcmp c FP.dconst0 = some .eq := by
        rcases k : FP.dcmp c FP.dconst0 with _ | (_ | _ | _)
        · rw [k] at q; exact absurd q (by decide)
        · rw [k] at q; exact absurd q (by decide)
        · rfl
        · rw [k] at q; exact absurd q (by decide)
      have z := (FP.Core.dcmp_eq_key hv (show FP.Core.val64 FP.dconst0 ≠ .nan by decide +kernel)).mp e
      have z0 : FP.Core.dkey FP.dconst0 = 0 := by decide +kernel
      rw [z0] at z
      unfold FP.Core.dkey at z
      split at z <;> omega
    · have q' : c ^^^ 0x8000000000000000 = 0x8000000000000000 := q
      have : c = 0 := by
        have k := congrArg (· ^^^ (0x8000000000000000 : UInt64)) q'
        simp only [UInt64.xor_assoc, UInt64.xor_self, UInt64.xor_zero] at k
        exact k
      rw [this]; rfl
end Own3
theorem d_jdk_30_method_1_code_0 : decode jdk_30_method_1_code 0 = .ok (.aload_n 0, 1) := by decide +kernel
theorem d_jdk_30_method_1_code_1 : decode jdk_30_method_1_code 1 = .ok (.invokespecial 1, 3) := by decide +kernel
theorem d_jdk_30_method_1_code_4 : decode jdk_30_method_1_code 4 = .ok (.return_, 1) := by decide +kernel
theorem d_jdk_117_method_8_code_0 : decode jdk_117_method_8_code 0 = .ok (.dload_n 0, 1) := by decide +kernel
theorem d_jdk_117_method_8_code_1 : decode jdk_117_method_8_code 1 = .ok (.invokestatic 38, 3) := by decide +kernel
theorem d_jdk_117_method_8_code_4 : decode jdk_117_method_8_code 4 = .ok (.ldc2_w 111, 3) := by decide +kernel
theorem d_jdk_117_method_8_code_7 : decode jdk_117_method_8_code 7 = .ok (.dcmp .g, 1) := by decide +kernel
theorem d_jdk_117_method_8_code_8 : decode jdk_117_method_8_code 8 = .ok (.ifCond .gt 7, 3) := by decide +kernel
theorem d_jdk_117_method_8_code_11 : decode jdk_117_method_8_code 11 = .ok (.iconst 1, 1) := by decide +kernel
theorem d_jdk_117_method_8_code_12 : decode jdk_117_method_8_code 12 = .ok (.goto 4, 3) := by decide +kernel
theorem d_jdk_117_method_8_code_16 : decode jdk_117_method_8_code 16 = .ok (.ireturn, 1) := by decide +kernel
theorem d_prog_10_method_19_code_0 : decode prog_10_method_19_code 0 = .ok (.dload_n 0, 1) := by decide +kernel
theorem d_prog_10_method_19_code_1 : decode prog_10_method_19_code 1 = .ok (.dload_n 2, 1) := by decide +kernel
theorem d_prog_10_method_19_code_2 : decode prog_10_method_19_code 2 = .ok (.dadd, 1) := by decide +kernel
theorem d_prog_10_method_19_code_3 : decode prog_10_method_19_code 3 = .ok (.dload 4, 2) := by decide +kernel
theorem d_prog_10_method_19_code_5 : decode prog_10_method_19_code 5 = .ok (.dadd, 1) := by decide +kernel
theorem d_prog_10_method_19_code_6 : decode prog_10_method_19_code 6 = .ok (.invokestatic 94, 3) := by decide +kernel
theorem d_prog_10_method_19_code_9 : decode prog_10_method_19_code 9 = .ok (.ifCond .ne 22, 3) := by decide +kernel
theorem d_prog_10_method_19_code_31 : decode prog_10_method_19_code 31 = .ok (.return_, 1) := by decide +kernel
theorem d_prog_10_method_1_code_0 : decode prog_10_method_1_code 0 = .ok (.aload_n 0, 1) := by decide +kernel
theorem d_prog_10_method_1_code_1 : decode prog_10_method_1_code 1 = .ok (.invokespecial 1, 3) := by decide +kernel
theorem d_prog_10_method_1_code_4 : decode prog_10_method_1_code 4 = .ok (.dload_n 1, 1) := by decide +kernel
theorem d_prog_10_method_1_code_5 : decode prog_10_method_1_code 5 = .ok (.dload_n 3, 1) := by decide +kernel
theorem d_prog_10_method_1_code_6 : decode prog_10_method_1_code 6 = .ok (.dload 5, 2) := by decide +kernel
theorem d_prog_10_method_1_code_8 : decode prog_10_method_1_code 8 = .ok (.invokestatic 7, 3) := by decide +kernel
theorem d_prog_10_method_1_code_11 : decode prog_10_method_1_code 11 = .ok (.aload_n 0, 1) := by decide +kernel
theorem d_prog_10_method_1_code_12 : decode prog_10_method_1_code 12 = .ok (.dload_n 1, 1) := by decide +kernel
theorem d_prog_10_method_1_code_13 : decode prog_10_method_1_code 13 = .ok (.putfield 13, 3) := by decide +kernel
theorem d_prog_10_method_1_code_16 : decode prog_10_method_1_code 16 = .ok (.aload_n 0, 1) := by decide +kernel
theorem d_prog_10_method_1_code_17 : decode prog_10_method_1_code 17 = .ok (.dload_n 3, 1) := by decide +kernel
theorem d_prog_10_method_1_code_18 : decode prog_10_method_1_code 18 = .ok (.putfield 17, 3) := by decide +kernel
theorem d_prog_10_method_1_code_21 : decode prog_10_method_1_code 21 = .ok (.aload_n 0, 1) := by decide +kernel
theorem d_prog_10_method_1_code_22 : decode prog_10_method_1_code 22 = .ok (.dload 5, 2) := by decide +kernel
theorem d_prog_10_method_1_code_24 : decode prog_10_method_1_code 24 = .ok (.putfield 20, 3) := by decide +kernel
theorem d_prog_10_method_1_code_27 : decode prog_10_method_1_code 27 = .ok (.return_, 1) := by decide +kernel
theorem d_method_3_code_0 : decode method_3_code 0 = .ok (.lload_n 0, 1) := by decide +kernel
theorem d_method_3_code_1 : decode method_3_code 1 = .ok (.l2d, 1) := by decide +kernel
theorem d_method_3_code_2 : decode method_3_code 2 = .ok (.dstore_n 3, 1) := by decide +kernel
theorem d_method_3_code_3 : decode method_3_code 3 = .ok (.iload_n 2, 1) := by decide +kernel
theorem d_method_3_code_4 : decode method_3_code 4 = .ok (.ifCond .eq 6, 3) := by decide +kernel
theorem d_method_3_code_7 : decode method_3_code 7 = .ok (.dload_n 3, 1) := by decide +kernel
theorem d_method_3_code_8 : decode method_3_code 8 = .ok (.dneg, 1) := by decide +kernel
theorem d_method_3_code_9 : decode method_3_code 9 = .ok (.dreturn, 1) := by decide +kernel
theorem d_method_3_code_10 : decode method_3_code 10 = .ok (.dload_n 3, 1) := by decide +kernel
theorem d_method_3_code_11 : decode method_3_code 11 = .ok (.dreturn, 1) := by decide +kernel
theorem d_method_4_code_0 : decode method_4_code 0 = .ok (.dload_n 0, 1) := by decide +kernel
theorem d_method_4_code_1 : decode method_4_code 1 = .ok (.dconst 0, 1) := by decide +kernel
theorem d_method_4_code_2 : decode method_4_code 2 = .ok (.dcmp .l, 1) := by decide +kernel
theorem d_method_4_code_3 : decode method_4_code 3 = .ok (.ifCond .ne 15, 3) := by decide +kernel
theorem d_method_4_code_6 : decode method_4_code 6 = .ok (.dconst 1, 1) := by decide +kernel
theorem d_method_4_code_7 : decode method_4_code 7 = .ok (.dload_n 0, 1) := by decide +kernel
theorem d_method_4_code_8 : decode method_4_code 8 = .ok (.ddiv, 1) := by decide +kernel
theorem d_method_4_code_9 : decode method_4_code 9 = .ok (.dconst 0, 1) := by decide +kernel
theorem d_method_4_code_10 : decode method_4_code 10 = .ok (.dcmp .l, 1) := by decide +kernel
theorem d_method_4_code_11 : decode method_4_code 11 = .ok (.ifCond .le 7, 3) := by decide +kernel
theorem d_method_4_code_14 : decode method_4_code 14 = .ok (.iconst 1, 1) := by decide +kernel
theorem d_method_4_code_15 : decode method_4_code 15 = .ok (.goto 4, 3) := by decide +kernel
theorem d_method_4_code_19 : decode method_4_code 19 = .ok (.ireturn, 1) := by decide +kernel
theorem d_method_5_code_0 : decode method_5_code 0 = .ok (.dload_n 2, 1) := by decide +kernel
theorem d_method_5_code_1 : decode method_5_code 1 = .ok (.dconst 0, 1) := by decide +kernel
theorem d_method_5_code_2 : decode method_5_code 2 = .ok (.dcmp .l, 1) := by decide +kernel
theorem d_method_5_code_3 : decode method_5_code 3 = .ok (.ifCond .ne 8, 3) := by decide +kernel
theorem d_method_5_code_6 : decode method_5_code 6 = .ok (.dload_n 0, 1) := by decide +kernel
theorem d_method_5_code_7 : decode method_5_code 7 = .ok (.invokestatic 22, 3) := by decide +kernel
theorem d_method_5_code_10 : decode method_5_code 10 = .ok (.ireturn, 1) := by decide +kernel
theorem d_method_5_code_11 : decode method_5_code 11 = .ok (.dload_n 0, 1) := by decide +kernel
theorem d_method_5_code_12 : decode method_5_code 12 = .ok (.dload_n 2, 1) := by decide +kernel
theorem d_method_5_code_13 : decode method_5_code 13 = .ok (.dneg, 1) := by decide +kernel
theorem d_method_5_code_14 : decode method_5_code 14 = .ok (.dcmp .l, 1) := by decide +kernel
theorem d_method_5_code_15 : decode method_5_code 15 = .ok (.ifCond .ne 7, 3) := by decide +kernel
theorem d_method_5_code_18 : decode method_5_code 18 = .ok (.iconst 1, 1) := by decide +kernel
theorem d_method_5_code_19 : decode method_5_code 19 = .ok (.goto 4, 3) := by decide +kernel
theorem d_method_5_code_23 : decode method_5_code 23 = .ok (.ireturn, 1) := by decide +kernel
theorem d_prog_10_method_9_code_0 : decode prog_10_method_9_code 0 = .ok (.iconst 3, 1) := by decide +kernel
theorem d_prog_10_method_9_code_1 : decode prog_10_method_9_code 1 = .ok (.anewarray 55, 3) := by decide +kernel
theorem d_prog_10_method_9_code_4 : decode prog_10_method_9_code 4 = .ok (.dup, 1) := by decide +kernel
theorem d_prog_10_method_9_code_5 : decode prog_10_method_9_code 5 = .ok (.iconst 0, 1) := by decide +kernel
theorem d_prog_10_method_9_code_6 : decode prog_10_method_9_code 6 = .ok (.iconst 3, 1) := by decide +kernel
theorem d_prog_10_method_9_code_7 : decode prog_10_method_9_code 7 = .ok (.newarray .double, 2) := by decide +kernel
theorem d_prog_10_method_9_code_9 : decode prog_10_method_9_code 9 = .ok (.dup, 1) := by decide +kernel
theorem d_prog_10_method_9_code_10 : decode prog_10_method_9_code 10 = .ok (.iconst 0, 1) := by decide +kernel
theorem d_prog_10_method_9_code_11 : decode prog_10_method_9_code 11 = .ok (.dconst 0, 1) := by decide +kernel
theorem d_prog_10_method_9_code_12 : decode prog_10_method_9_code 12 = .ok (.dastore, 1) := by decide +kernel
theorem d_prog_10_method_9_code_13 : decode prog_10_method_9_code 13 = .ok (.dup, 1) := by decide +kernel
theorem d_prog_10_method_9_code_14 : decode prog_10_method_9_code 14 = .ok (.iconst 1, 1) := by decide +kernel
theorem d_prog_10_method_9_code_15 : decode prog_10_method_9_code 15 = .ok (.aload_n 0, 1) := by decide +kernel
theorem d_prog_10_method_9_code_16 : decode prog_10_method_9_code 16 = .ok (.getfield 20, 3) := by decide +kernel
theorem d_prog_10_method_9_code_19 : decode prog_10_method_9_code 19 = .ok (.dneg, 1) := by decide +kernel
theorem d_prog_10_method_9_code_20 : decode prog_10_method_9_code 20 = .ok (.dconst 0, 1) := by decide +kernel
theorem d_prog_10_method_9_code_21 : decode prog_10_method_9_code 21 = .ok (.dadd, 1) := by decide +kernel
theorem d_prog_10_method_9_code_22 : decode prog_10_method_9_code 22 = .ok (.dastore, 1) := by decide +kernel
theorem d_prog_10_method_9_code_23 : decode prog_10_method_9_code 23 = .ok (.dup, 1) := by decide +kernel
theorem d_prog_10_method_9_code_24 : decode prog_10_method_9_code 24 = .ok (.iconst 2, 1) := by decide +kernel
theorem d_prog_10_method_9_code_25 : decode prog_10_method_9_code 25 = .ok (.aload_n 0, 1) := by decide +kernel
theorem d_prog_10_method_9_code_26 : decode prog_10_method_9_code 26 = .ok (.getfield 17, 3) := by decide +kernel
theorem d_prog_10_method_9_code_29 : decode prog_10_method_9_code 29 = .ok (.dastore, 1) := by decide +kernel
theorem d_prog_10_method_9_code_30 : decode prog_10_method_9_code 30 = .ok (.aastore, 1) := by decide +kernel
theorem d_prog_10_method_9_code_31 : decode prog_10_method_9_code 31 = .ok (.dup, 1) := by decide +kernel
theorem d_prog_10_method_9_code_32 : decode prog_10_method_9_code 32 = .ok (.iconst 1, 1) := by decide +kernel
theorem d_prog_10_method_9_code_33 : decode prog_10_method_9_code 33 = .ok (.iconst 3, 1) := by decide +kernel
theorem d_prog_10_method_9_code_34 : decode prog_10_method_9_code 34 = .ok (.newarray .double, 2) := by decide +kernel
theorem d_prog_10_method_9_code_36 : decode prog_10_method_9_code 36 = .ok (.dup, 1) := by decide +kernel
theorem d_prog_10_method_9_code_37 : decode prog_10_method_9_code 37 = .ok (.iconst 0, 1) := by decide +kernel
theorem d_prog_10_method_9_code_38 : decode prog_10_method_9_code 38 = .ok (.aload_n 0, 1) := by decide +kernel
theorem d_prog_10_method_9_code_39 : decode prog_10_method_9_code 39 = .ok (.getfield 20, 3) := by decide +kernel
theorem d_prog_10_method_9_code_42 : decode prog_10_method_9_code 42 = .ok (.dastore, 1) := by decide +kernel
theorem d_prog_10_method_9_code_43 : decode prog_10_method_9_code 43 = .ok (.dup, 1) := by decide +kernel
theorem d_prog_10_method_9_code_44 : decode prog_10_method_9_code 44 = .ok (.iconst 1, 1) := by decide +kernel
theorem d_prog_10_method_9_code_45 : decode prog_10_method_9_code 45 = .ok (.dconst 0, 1) := by decide +kernel
theorem d_prog_10_method_9_code_46 : decode prog_10_method_9_code 46 = .ok (.dastore, 1) := by decide +kernel
theorem d_prog_10_method_9_code_47 : decode prog_10_method_9_code 47 = .ok (.dup, 1) := by decide +kernel
theorem d_prog_10_method_9_code_48 : decode prog_10_method_9_code 48 = .ok (.iconst 2, 1) := by decide +kernel
theorem d_prog_10_method_9_code_49 : decode prog_10_method_9_code 49 = .ok (.aload_n 0, 1) := by decide +kernel
theorem d_prog_10_method_9_code_50 : decode prog_10_method_9_code 50 = .ok (.getfield 13, 3) := by decide +kernel
theorem d_prog_10_method_9_code_53 : decode prog_10_method_9_code 53 = .ok (.dneg, 1) := by decide +kernel
theorem d_prog_10_method_9_code_54 : decode prog_10_method_9_code 54 = .ok (.dconst 0, 1) := by decide +kernel
theorem d_prog_10_method_9_code_55 : decode prog_10_method_9_code 55 = .ok (.dadd, 1) := by decide +kernel
theorem d_prog_10_method_9_code_56 : decode prog_10_method_9_code 56 = .ok (.dastore, 1) := by decide +kernel
theorem d_prog_10_method_9_code_57 : decode prog_10_method_9_code 57 = .ok (.aastore, 1) := by decide +kernel
theorem d_prog_10_method_9_code_58 : decode prog_10_method_9_code 58 = .ok (.dup, 1) := by decide +kernel
theorem d_prog_10_method_9_code_59 : decode prog_10_method_9_code 59 = .ok (.iconst 2, 1) := by decide +kernel
theorem d_prog_10_method_9_code_60 : decode prog_10_method_9_code 60 = .ok (.iconst 3, 1) := by decide +kernel
theorem d_prog_10_method_9_code_61 : decode prog_10_method_9_code 61 = .ok (.newarray .double, 2) := by decide +kernel
theorem d_prog_10_method_9_code_63 : decode prog_10_method_9_code 63 = .ok (.dup, 1) := by decide +kernel
theorem d_prog_10_method_9_code_64 : decode prog_10_method_9_code 64 = .ok (.iconst 0, 1) := by decide +kernel
theorem d_prog_10_method_9_code_65 : decode prog_10_method_9_code 65 = .ok (.aload_n 0, 1) := by decide +kernel
theorem d_prog_10_method_9_code_66 : decode prog_10_method_9_code 66 = .ok (.getfield 17, 3) := by decide +kernel
theorem d_prog_10_method_9_code_69 : decode prog_10_method_9_code 69 = .ok (.dneg, 1) := by decide +kernel
theorem d_prog_10_method_9_code_70 : decode prog_10_method_9_code 70 = .ok (.dconst 0, 1) := by decide +kernel
theorem d_prog_10_method_9_code_71 : decode prog_10_method_9_code 71 = .ok (.dadd, 1) := by decide +kernel
theorem d_prog_10_method_9_code_72 : decode prog_10_method_9_code 72 = .ok (.dastore, 1) := by decide +kernel
theorem d_prog_10_method_9_code_73 : decode prog_10_method_9_code 73 = .ok (.dup, 1) := by decide +kernel
theorem d_prog_10_method_9_code_74 : decode prog_10_method_9_code 74 = .ok (.iconst 1, 1) := by decide +kernel
theorem d_prog_10_method_9_code_75 : decode prog_10_method_9_code 75 = .ok (.aload_n 0, 1) := by decide +kernel
theorem d_prog_10_method_9_code_76 : decode prog_10_method_9_code 76 = .ok (.getfield 13, 3) := by decide +kernel
theorem d_prog_10_method_9_code_79 : decode prog_10_method_9_code 79 = .ok (.dastore, 1) := by decide +kernel
theorem d_prog_10_method_9_code_80 : decode prog_10_method_9_code 80 = .ok (.dup, 1) := by decide +kernel
theorem d_prog_10_method_9_code_81 : decode prog_10_method_9_code 81 = .ok (.iconst 2, 1) := by decide +kernel
theorem d_prog_10_method_9_code_82 : decode prog_10_method_9_code 82 = .ok (.dconst 0, 1) := by decide +kernel
theorem d_prog_10_method_9_code_83 : decode prog_10_method_9_code 83 = .ok (.dastore, 1) := by decide +kernel
theorem d_prog_10_method_9_code_84 : decode prog_10_method_9_code 84 = .ok (.aastore, 1) := by decide +kernel
theorem d_prog_10_method_9_code_85 : decode prog_10_method_9_code 85 = .ok (.areturn, 1) := by decide +kernel
theorem pn_jdk_30_method_1_code : plainName "java/lang/Record" = true := by first | (simp [plainName, overriddenIn]; done) | decide +kernel
theorem pn_jdk_117_method_8_code : plainName "java/lang/Double" = true := by first | (simp [plainName, overriddenIn]; done) | decide +kernel
theorem pn_prog_10_method_19_code : plainName "com/example/gyrokin/gyrokin/Vector3" = true := by first | (simp [plainName, overriddenIn]; done) | decide +kernel
theorem pn_prog_10_method_1_code : plainName "com/example/gyrokin/gyrokin/Vector3" = true := by first | (simp [plainName, overriddenIn]; done) | decide +kernel
theorem pn_method_3_code : plainName "com/example/gyrokin/gyrokin/Vector3HatPinLaw" = true := by first | (simp [plainName, overriddenIn]; done) | decide +kernel
theorem pn_method_4_code : plainName "com/example/gyrokin/gyrokin/Vector3HatPinLaw" = true := by first | (simp [plainName, overriddenIn]; done) | decide +kernel
theorem pn_method_5_code : plainName "com/example/gyrokin/gyrokin/Vector3HatPinLaw" = true := by first | (simp [plainName, overriddenIn]; done) | decide +kernel
theorem pn_prog_10_method_9_code : plainName "com/example/gyrokin/gyrokin/Vector3" = true := by first | (simp [plainName, overriddenIn]; done) | decide +kernel
theorem pn_code : plainName "com/example/gyrokin/gyrokin/Vector3HatPinLaw" = true := by first | (simp [plainName, overriddenIn]; done) | decide +kernel
theorem pd___V : parseMethodDescriptor "()V" = some ⟨[], none⟩ := by decide +kernel
theorem pd_____D : parseMethodDescriptor "()[[D" = some ⟨[], some (.array (.array .double))⟩ := by decide +kernel
theorem pd__D_D : parseMethodDescriptor "(D)D" = some ⟨[.double], some .double⟩ := by decide +kernel
theorem pd__D_Z : parseMethodDescriptor "(D)Z" = some ⟨[.double], some .boolean⟩ := by decide +kernel
theorem pd__DD_Z : parseMethodDescriptor "(DD)Z" = some ⟨[.double, .double], some .boolean⟩ := by decide +kernel
theorem pd__DDD_V : parseMethodDescriptor "(DDD)V" = some ⟨[.double, .double, .double], none⟩ := by decide +kernel
theorem pd__JI_D : parseMethodDescriptor "(JI)D" = some ⟨[.long, .int], some .double⟩ := by decide +kernel
def QU (n0 : Nat) (h0 : Heap) (v : Option Value) (h : Heap) (L : List Loc) : Prop := v = none ∧ Fr n0 L ∧ h = h0
def QV (r : Value) (n0 : Nat) (h0 : Heap) (v : Option Value) (h : Heap) (L : List Loc) : Prop := v = some r ∧ Fr n0 L ∧ h = h0
def QC (Z : State) (a : Addr) (x0 x1 x2 : UInt64) (n0 : Nat) (h0 : Heap) (v : Option Value) (h : Heap) (L : List Loc) : Prop :=
  v = none ∧ Fr n0 L ∧ Keep h0 h [a] ∧ Exa Z h a "com/example/gyrokin/gyrokin/Vector3" ∧ Fld Z h a "com/example/gyrokin/gyrokin/Vector3" "x" "D" (.double x0) ∧ Fld Z h a "com/example/gyrokin/gyrokin/Vector3" "y" "D" (.double x1) ∧ Fld Z h a "com/example/gyrokin/gyrokin/Vector3" "z" "D" (.double x2)
theorem own_fin {x : UInt64} (h : Jvm.Free.Fl.Fin64 x) : ¬ (0 < cmpValue (FP.dcmp (x &&& 0x7fffffffffffffff) 9218868437227405311) .g) := by
  have k := (FP.Core.le_max (Jvm.Free.Fl.noNaN64_no.mp h.noNaN)).mpr (Jvm.Free.Fl.fin64_core.mp h)
  rcases k with k | k
  · rw [show FP.dcmp (x &&& 0x7fffffffffffffff) 9218868437227405311 = some .lt from k]; decide
  · rw [show FP.dcmp (x &&& 0x7fffffffffffffff) 9218868437227405311 = some .eq from k]; decide
def QH (Z : State) (x y z : UInt64) (n0 : Nat) (h0 : Heap) (v : Option Value) (h : Heap) (L : List Loc) : Prop :=
  ∃ (b0 b1 b2 b3 : Addr) (k0 k1 k2 k3 : ClassId), v = some (.ref b0) ∧ Fr n0 L ∧ Keep h0 h [] ∧ h0.size ≤ b0 ∧ Arv Z h b0 k0 (.array .double) (3 : Int32) [(.ref b1), (.ref b2), (.ref b3)] .null ∧ Arv Z h b1 k1 .double (3 : Int32) [(.double FP.dconst0), (.double (ngE z)), (.double y)] (.double 0) ∧ Arv Z h b2 k2 .double (3 : Int32) [(.double z), (.double FP.dconst0), (.double (ngE x))] (.double 0) ∧ Arv Z h b3 k3 .double (3 : Int32) [(.double (ngE y)), (.double x), (.double FP.dconst0)] (.double 0)
theorem own_s1 : (FieldType.array .double).toString = "[D" := by first | rfl | decide +kernel
theorem own_s2 : "[" ++ "[D" = "[[D" := by first | rfl | decide +kernel
theorem own_s3 : "[" ++ (newarray.typeOf .double).toString = "[D" := by first | rfl | decide +kernel
def Q0 (n0 : Nat) (v : Option Value) (h : Heap) (L : List Loc) : Prop := v = some (.int 1) ∧ Fr n0 L
theorem ef_jdk_30_method_1_code (m : MethodId) (x0 : Addr) : entryFrame m #[(.ref x0)] 1 = mkF m 0 #[.val (.ref x0)] [] := by first | (simp [entryFrame, mkF, argsToLocals, Value.category]; done) | rfl
set_option maxRecDepth 65536 in
set_option maxHeartbeats 40000000 in
theorem rmR (l : Launch) (Z : State) (a0 : Array Value) (hw : ∀ d ∈ tables_1, d.before a0 Z = true) (ws : List Jvm.Cond) (a : Addr) (h0 : Heap) (n0 : Nat) (Z0 : n0 ≤ h0.size) :
    MetFree l (⟨"java/lang/Record", "<init>", "()V"⟩ : MethodName) (head1 (Jvm.Cond.code (⟨"java/lang/Record", "<init>", "()V"⟩ : MethodName) jdk_30_method_1_code 1 none :: ws) ({ frames := 1, cells := 0, slots := 0, locals := 12 } : Room)) (fun aa U => aa = #[(.ref a)] ∧ Z.Warmed39 U.vm ∧ U.heap = h0) (fun _ _ _ _ _ => True) (fun _ U o U' => ∃ v L, o = .returned v ∧ QU n0 h0 v U'.heap L ∧ FrameEnd U o U' L ({ frames := 1, cells := 0, slots := 0, locals := 12 } : Room).cells ({ frames := 1, cells := 0, slots := 0, locals := 12 } : Room).slots) := by
  refine MetFree.of_bodySF (plainFor_of_name pn_jdk_30_method_1_code) hisR ?_
  intro p e s m args below meth c s₁ Bd hml0 hP hK
  obtain ⟨rfl, hZ, hh⟩ := hP
  have hx := Bd.exec
  have hby := Bd.bytes
  have hml : c.maxLocals = 1 := hml0
  have hown : s.vm.findClass "java/lang/Record" = some m.cls := findClass_of_methodNamed Bd.named
  have hnm := (name_of_methodNamed Bd.named Bd.method).1
  have X0 : Stand p l e ({ frames := 1, cells := 0, slots := 0, locals := 12 } : Room) s m #[(.ref a)] below meth c s₁ [] 0 0 := Stand.of_body Bd
  have e0 : s₁.heap = h0 := by rw [← hh, Bd.state]; rfl
  have N0 := Fr.nil n0
  have pre0 : ∀ t, Steps p.tables e below (s₁.setTop (mkF m 0 #[.val (.ref a)] [])) t → Steps p.tables e below (s₁.setTop (entryFrame m #[(.ref a)] 1)) t := fun t k => castTop (ef_jdk_30_method_1_code m a) k
  obtain ⟨T1, X1, e1, st1⟩ := initO X0 hx hZ hown (hw _ (List.mem_of_getElem? (i := 15) rfl)) (hw _ (List.mem_of_getElem? (i := 16) rfl)) (hw _ (List.mem_of_getElem? (i := 17) rfl)) e0 (g := (mkF m 1 #[.val (.ref a)] [(.ref a)])) rfl (by rw [hml]; rfl) rfl (hb hby d_jdk_30_method_1_code_1) (by decide) (W := 0) (by show 2 * 0 + _ ≤ _; exact Nat.le_of_eq rfl) (by decide)
  obtain ⟨fs, hr, hrun, hended, hW, hsame⟩ := X1.leave (v := none) (fun _ => rfl)
  refine ⟨_, _, pre0 _ ?_, hrun, hended, _, _, rfl, ?_, ⟨_, rfl⟩, hW, hsame.mono (by decide) (by decide)⟩
  · show Steps p.tables e below (s₁.setTop (mkF m 0 #[.val (.ref a)] [])) _
    refine XS.aloadN X0.here hx rfl (hb hby d_jdk_30_method_1_code_0) rfl rfl ?_
    show Steps p.tables e below (s₁.setTop (mkF m 1 #[.val (.ref a)] [(.ref a)])) _
    refine st1 _ ?_
    show Steps p.tables e below (T1.setTop (mkF m 4 #[.val (.ref a)] [])) _
    exact X1.returnOut hx Bd.returns (hb hby d_jdk_30_method_1_code_4) hr
  · show QU n0 h0 _ T1.heap _
    rw [e1]
    exact ⟨rfl, N0, rfl⟩
theorem ef_jdk_117_method_8_code (m : MethodId) (x0 : UInt64) : entryFrame m #[(.double x0)] 2 = mkF m 0 #[.val (.double x0), .second] [] := by first | (simp [entryFrame, mkF, argsToLocals, Value.category]; done) | rfl
set_option maxRecDepth 65536 in
set_option maxHeartbeats 40000000 in
theorem rmF (l : Launch) (Z : State) (a0 : Array Value) (hw : ∀ d ∈ tables_1, d.before a0 Z = true) (ws : List Jvm.Cond) (x0 : UInt64) (h0 : Heap) (n0 : Nat) (Z0 : n0 ≤ h0.size) (hf : Jvm.Free.Fl.Fin64 x0) :
    MetFree l (⟨"java/lang/Double", "isFinite", "(D)Z"⟩ : MethodName) (head1 (Jvm.Cond.code (⟨"java/lang/Double", "isFinite", "(D)Z"⟩ : MethodName) jdk_117_method_8_code 2 (some .boolean) :: ws) ({ frames := 1, cells := 0, slots := 0, locals := 13 } : Room)) (fun aa U => aa = #[(.double x0)] ∧ Z.Warmed39 U.vm ∧ U.heap = h0) (fun _ _ _ _ _ => True) (fun _ U o U' => ∃ v L, o = .returned v ∧ QV (.int 1) n0 h0 v U'.heap L ∧ FrameEnd U o U' L ({ frames := 1, cells := 0, slots := 0, locals := 13 } : Room).cells ({ frames := 1, cells := 0, slots := 0, locals := 13 } : Room).slots) := by
  refine MetFree.of_bodySF (plainFor_of_name pn_jdk_117_method_8_code) hisR ?_
  intro p e s m args below meth c s₁ Bd hml0 hP hK
  obtain ⟨rfl, hZ, hh⟩ := hP
  have hx := Bd.exec
  have hby := Bd.bytes
  have hml : c.maxLocals = 2 := hml0
  have hown : s.vm.findClass "java/lang/Double" = some m.cls := findClass_of_methodNamed Bd.named
  have hnm := (name_of_methodNamed Bd.named Bd.method).1
  have X0 : Stand p l e ({ frames := 1, cells := 0, slots := 0, locals := 13 } : Room) s m #[(.double x0)] below meth c s₁ [] 0 0 := Stand.of_body Bd
  have e0 : s₁.heap = h0 := by rw [← hh, Bd.state]; rfl
  have N0 := Fr.nil n0
  have pre0 : ∀ t, Steps p.tables e below (s₁.setTop (mkF m 0 #[.val (.double x0), .second] [])) t → Steps p.tables e below (s₁.setTop (entryFrame m #[(.double x0)] 2)) t := fun t k => castTop (ef_jdk_117_method_8_code m x0) k
  obtain ⟨T1, X1, e1, st1⟩ := natS X0 hx hZ (a0 := a0) hown (hw _ (List.mem_of_getElem? (i := 25) rfl)) (hw _ (List.mem_of_getElem? (i := 26) rfl)) (hw _ (List.mem_of_getElem? (i := 27) rfl)) (hw _ (List.mem_of_getElem? (i := 28) rfl)) (by decide) e0 (W := 0) (F := fun a' => a' = #[.double x0] ∧ Jvm.Free.Fl.NoNaN64 x0) (val := .double (x0 &&& 0x7fffffffffffffff)) (val' := .double (x0 &&& 0x7fffffffffffffff)) (fun c4 => Jvm.Free.Fl.Abs.absD_pays x0 c4 (by decide) (by decide)) (g := (mkF m 1 #[.val (.double x0), .second] [(.double x0)])) rfl (by rw [hml]; rfl) (argsL := [.double x0]) (rest := []) (lenOf pd__D_D rfl) rfl (by show 2 * 0 + _ ≤ _; exact Nat.le_of_eq rfl) (hb hby d_jdk_117_method_8_code_1) (by decide) (by decide) ⟨rfl, (hf.noNaN)⟩ rfl
  obtain ⟨fs, hr, hrun, hended, hW, hsame⟩ := X1.leave (v := some (.int (1 : Int32))) (fun h => by rw [Bd.returns] at h; cases h)
  refine ⟨_, _, pre0 _ ?_, hrun, hended, _, _, rfl, ?_, ⟨_, rfl⟩, hW, hsame.mono (by decide) (by decide)⟩
  · show Steps p.tables e below (s₁.setTop (mkF m 0 #[.val (.double x0), .second] [])) _
    refine XS.dloadN X0.here hx rfl (hb hby d_jdk_117_method_8_code_0) rfl ?_
    show Steps p.tables e below (s₁.setTop (mkF m 1 #[.val (.double x0), .second] [(.double x0)])) _
    refine st1 _ ?_
    show Steps p.tables e below (T1.setTop (mkF m 4 #[.val (.double x0), .second] [(.double (x0 &&& 0x7fffffffffffffff))])) _
    refine X1.ldc2DoubleC hx hown (mvT hZ (hw _ (List.mem_of_getElem? (i := 29) rfl))) (g := (mkF m 4 #[.val (.double x0), .second] [(.double (x0 &&& 0x7fffffffffffffff))])) rfl (hb hby d_jdk_117_method_8_code_4) _ ?_
    show Steps p.tables e below (T1.setTop (mkF m 7 #[.val (.double x0), .second] [(.double (9218868437227405311 : UInt64)), (.double (x0 &&& 0x7fffffffffffffff))])) _
    refine XS.dcmpS X1.here hx rfl (hb hby d_jdk_117_method_8_code_7) rfl (v := (cmpValue (FP.dcmp (x0 &&& 0x7fffffffffffffff) (9218868437227405311 : UInt64)) .g)) rfl ?_
    show Steps p.tables e below (T1.setTop (mkF m 8 #[.val (.double x0), .second] [(.int (cmpValue (FP.dcmp (x0 &&& 0x7fffffffffffffff) (9218868437227405311 : UInt64)) .g))])) _
    refine XS.ifNo X1.here hx rfl (hb hby d_jdk_117_method_8_code_8) rfl ((if0 _ _).trans (flt (own_fin hf : ¬ ((0 : Int32) < (cmpValue (FP.dcmp (x0 &&& 0x7fffffffffffffff) (9218868437227405311 : UInt64)) .g)))).2.2.1) ?_
    show Steps p.tables e below (T1.setTop (mkF m 11 #[.val (.double x0), .second] [])) _
    refine XS.iconst X1.here hx rfl (hb hby d_jdk_117_method_8_code_11) ?_
    show Steps p.tables e below (T1.setTop (mkF m 12 #[.val (.double x0), .second] [(.int (1 : Int32))])) _
    refine XS.goto X1.here hx rfl (pc0 := 12) (pc' := 16) rfl (hb hby d_jdk_117_method_8_code_12) (by decide) (by decide) ?_
    show Steps p.tables e below (T1.setTop (mkF m 16 #[.val (.double x0), .second] [(.int (1 : Int32))])) _
    exact retN X1 hx (t := .boolean) Bd.returns (by simp) (hb hby d_jdk_117_method_8_code_16) hr
  · show QV (.int 1) n0 h0 _ T1.heap _
    rw [e1]
    exact ⟨rfl, N0, rfl⟩
theorem ef_prog_10_method_19_code (m : MethodId) (x0 : UInt64) (x1 : UInt64) (x2 : UInt64) : entryFrame m #[(.double x0), (.double x1), (.double x2)] 6 = mkF m 0 #[.val (.double x0), .second, .val (.double x1), .second, .val (.double x2), .second] [] := by first | (simp [entryFrame, mkF, argsToLocals, Value.category]; done) | rfl
set_option maxRecDepth 65536 in
set_option maxHeartbeats 40000000 in
theorem rmC (l : Launch) (Z : State) (a0 : Array Value) (hw : ∀ d ∈ tables_1, d.before a0 Z = true) (ws : List Jvm.Cond) (x0 x1 x2 : UInt64) (h0 : Heap) (n0 : Nat) (Z0 : n0 ≤ h0.size) (hf : Jvm.Free.Fl.Fin64 (FP.dadd (FP.dadd x0 x1) x2)) (hn2 : Jvm.Free.Fl.NoNaN64 (FP.dadd x0 x1)) (hn5 : Jvm.Free.Fl.NoNaN64 (FP.dadd (FP.dadd x0 x1) x2)) :
    MetFree l (⟨"com/example/gyrokin/gyrokin/Vector3", "requireFiniteComponents", "(DDD)V"⟩ : MethodName) (head1 (Jvm.Cond.code (⟨"com/example/gyrokin/gyrokin/Vector3", "requireFiniteComponents", "(DDD)V"⟩ : MethodName) prog_10_method_19_code 6 none :: ws) ({ frames := 2, cells := 0, slots := 0, locals := 26 } : Room)) (fun aa U => aa = #[(.double x0), (.double x1), (.double x2)] ∧ Z.Warmed39 U.vm ∧ U.heap = h0) (fun _ _ _ _ _ => True) (fun _ U o U' => ∃ v L, o = .returned v ∧ QU n0 h0 v U'.heap L ∧ FrameEnd U o U' L ({ frames := 2, cells := 0, slots := 0, locals := 26 } : Room).cells ({ frames := 2, cells := 0, slots := 0, locals := 26 } : Room).slots) := by
  refine MetFree.of_bodySF (plainFor_of_name pn_prog_10_method_19_code) hisR ?_
  intro p e s m args below meth c s₁ Bd hml0 hP hK
  obtain ⟨rfl, hZ, hh⟩ := hP
  have hx := Bd.exec
  have hby := Bd.bytes
  have hml : c.maxLocals = 6 := hml0
  have hown : s.vm.findClass "com/example/gyrokin/gyrokin/Vector3" = some m.cls := findClass_of_methodNamed Bd.named
  have hnm := (name_of_methodNamed Bd.named Bd.method).1
  have X0 : Stand p l e ({ frames := 2, cells := 0, slots := 0, locals := 26 } : Room) s m #[(.double x0), (.double x1), (.double x2)] below meth c s₁ [] 0 0 := Stand.of_body Bd
  have e0 : s₁.heap = h0 := by rw [← hh, Bd.state]; rfl
  have N0 := Fr.nil n0
  have pre0 : ∀ t, Steps p.tables e below (s₁.setTop (mkF m 0 #[.val (.double x0), .second, .val (.double x1), .second, .val (.double x2), .second] [])) t → Steps p.tables e below (s₁.setTop (entryFrame m #[(.double x0), (.double x1), (.double x2)] 6)) t := fun t k => castTop (ef_prog_10_method_19_code m x0 x1 x2) k
  obtain ⟨_, _, ⟨T1, L1, k1, n1⟩, -, X1, ⟨Lc1, hQ1, l1, y1, z1⟩, st1⟩ := Jvm.LawKit.callS X0 hx (y := (⟨"java/lang/Double", "isFinite", "(D)Z"⟩ : MethodName)) hown (mvT hZ (hw _ (List.mem_of_getElem? (i := 21) rfl))) (mvT hZ (hw _ (List.mem_of_getElem? (i := 22) rfl))) (mvT hZ (hw _ (List.mem_of_getElem? (i := 23) rfl))) (mvT hZ (hw _ (List.mem_of_getElem? (i := 24) rfl))) (by decide) (backOf (W := 0) (rmF l Z a0 hw [] (FP.dadd (FP.dadd x0 x1) x2) h0 n0 Z0 hf) hZ (hw _ (List.mem_of_getElem? (i := 24) rfl)) (hw _ (List.mem_of_getElem? (i := 23) rfl)) (by decide) (by decide)) (g := (mkF m 6 #[.val (.double x0), .second, .val (.double x1), .second, .val (.double x2), .second] [(.double (FP.dadd (FP.dadd x0 x1) x2))])) rfl (by rw [hml]; rfl) (argsL := [(.double (FP.dadd (FP.dadd x0 x1) x2))]) (rest := []) (lenOf pd__D_Z rfl) rfl (by show 2 * 0 + _ ≤ _; exact Nat.le_of_eq rfl) (hb hby d_prog_10_method_19_code_6) (fun _ _ => ⟨rfl, e0, (by decide : 0 + 0 ≤ _), (by decide : 0 + 0 ≤ _)⟩)
  dsimp only [Pt.U, Pt.locs, Pt.cells, Pt.slots] at X1 l1 y1 z1 st1 hQ1
  subst l1 y1 z1
  obtain ⟨rfl, N1q, K1⟩ := hQ1
  obtain ⟨fs, hr, hrun, hended, hW, hsame⟩ := X1.leave (v := none) (fun _ => rfl)
  refine ⟨_, _, pre0 _ ?_, hrun, hended, _, _, rfl, ?_, ⟨_, rfl⟩, hW, hsame.mono (by decide) (by decide)⟩
  · show Steps p.tables e below (s₁.setTop (mkF m 0 #[.val (.double x0), .second, .val (.double x1), .second, .val (.double x2), .second] [])) _
    refine XS.dloadN X0.here hx rfl (hb hby d_prog_10_method_19_code_0) rfl ?_
    show Steps p.tables e below (s₁.setTop (mkF m 1 #[.val (.double x0), .second, .val (.double x1), .second, .val (.double x2), .second] [(.double x0)])) _
    refine XS.dloadN X0.here hx rfl (hb hby d_prog_10_method_19_code_1) rfl ?_
    show Steps p.tables e below (s₁.setTop (mkF m 2 #[.val (.double x0), .second, .val (.double x1), .second, .val (.double x2), .second] [(.double x1), (.double x0)])) _
    refine XS.daddS X0.here hx rfl (hb hby d_prog_10_method_19_code_2) rfl hn2 (v := (FP.dadd x0 x1)) rfl ?_
    show Steps p.tables e below (s₁.setTop (mkF m 3 #[.val (.double x0), .second, .val (.double x1), .second, .val (.double x2), .second] [(.double (FP.dadd x0 x1))])) _
    refine XS.dload X0.here hx rfl (hb hby d_prog_10_method_19_code_3) rfl ?_
    show Steps p.tables e below (s₁.setTop (mkF m 5 #[.val (.double x0), .second, .val (.double x1), .second, .val (.double x2), .second] [(.double x2), (.double (FP.dadd x0 x1))])) _
    refine XS.daddS X0.here hx rfl (hb hby d_prog_10_method_19_code_5) rfl hn5 (v := (FP.dadd (FP.dadd x0 x1) x2)) rfl ?_
    show Steps p.tables e below (s₁.setTop (mkF m 6 #[.val (.double x0), .second, .val (.double x1), .second, .val (.double x2), .second] [(.double (FP.dadd (FP.dadd x0 x1) x2))])) _
    refine st1 _ ?_
    show Steps p.tables e below (T1.setTop (mkF m 9 #[.val (.double x0), .second, .val (.double x1), .second, .val (.double x2), .second] [(.int (1 : Int32))])) _
    refine XS.ifYes X1.here hx rfl (pc0 := 9) (pc' := 31) rfl (hb hby d_prog_10_method_19_code_9) rfl ((if0 _ _).trans (feq (by decide : ¬ ((1 : Int32) = (0 : Int32)))).2) (by decide) (by decide) ?_
    show Steps p.tables e below (T1.setTop (mkF m 31 #[.val (.double x0), .second, .val (.double x1), .second, .val (.double x2), .second] [])) _
    exact X1.returnOut hx Bd.returns (hb hby d_prog_10_method_19_code_31) hr
  · show QU n0 h0 _ T1.heap _
    rw [K1]
    exact ⟨rfl, Fr.app N0 N1q, rfl⟩
theorem ef_prog_10_method_1_code (m : MethodId) (x0 : Addr) (x1 : UInt64) (x2 : UInt64) (x3 : UInt64) : entryFrame m #[(.ref x0), (.double x1), (.double x2), (.double x3)] 7 = mkF m 0 #[.val (.ref x0), .val (.double x1), .second, .val (.double x2), .second, .val (.double x3), .second] [] := by first | (simp [entryFrame, mkF, argsToLocals, Value.category]; done) | rfl
set_option maxRecDepth 65536 in
set_option maxHeartbeats 40000000 in
theorem rmV (l : Launch) (Z : State) (a0 : Array Value) (hw : ∀ d ∈ tables_1, d.before a0 Z = true) (ws : List Jvm.Cond) (a : Addr) (x0 x1 x2 : UInt64) (h0 : Heap) (n0 : Nat) (Z0 : n0 ≤ h0.size) (Fx : Fld Z h0 a "com/example/gyrokin/gyrokin/Vector3" "x" "D" (.double 0)) (Fy : Fld Z h0 a "com/example/gyrokin/gyrokin/Vector3" "y" "D" (.double 0)) (Fz : Fld Z h0 a "com/example/gyrokin/gyrokin/Vector3" "z" "D" (.double 0)) (Ea : Exa Z h0 a "com/example/gyrokin/gyrokin/Vector3") (ga : n0 ≤ a) (hn1 : Jvm.Free.Fl.NoNaN64 (FP.dadd x0 x1)) (hn2 : Jvm.Free.Fl.NoNaN64 (FP.dadd (FP.dadd x0 x1) x2)) (hf : Jvm.Free.Fl.Fin64 (FP.dadd (FP.dadd x0 x1) x2)) :
    MetFree l (⟨"com/example/gyrokin/gyrokin/Vector3", "<init>", "(DDD)V"⟩ : MethodName) (head1 (Jvm.Cond.code (⟨"com/example/gyrokin/gyrokin/Vector3", "<init>", "(DDD)V"⟩ : MethodName) prog_10_method_1_code 7 none :: ws) ({ frames := 3, cells := 0, slots := 0, locals := 43 } : Room)) (fun aa U => aa = #[(.ref a), (.double x0), (.double x1), (.double x2)] ∧ Z.Warmed39 U.vm ∧ U.heap = h0) (fun _ _ _ _ _ => True) (fun _ U o U' => ∃ v L, o = .returned v ∧ QC Z a x0 x1 x2 n0 h0 v U'.heap L ∧ FrameEnd U o U' L ({ frames := 3, cells := 0, slots := 0, locals := 43 } : Room).cells ({ frames := 3, cells := 0, slots := 0, locals := 43 } : Room).slots) := by
  refine MetFree.of_bodySF (plainFor_of_name pn_prog_10_method_1_code) hisR ?_
  intro p e s m args below meth c s₁ Bd hml0 hP hK
  obtain ⟨rfl, hZ, hh⟩ := hP
  have hx := Bd.exec
  have hby := Bd.bytes
  have hml : c.maxLocals = 7 := hml0
  have hown : s.vm.findClass "com/example/gyrokin/gyrokin/Vector3" = some m.cls := findClass_of_methodNamed Bd.named
  have hnm := (name_of_methodNamed Bd.named Bd.method).1
  have X0 : Stand p l e ({ frames := 3, cells := 0, slots := 0, locals := 43 } : Room) s m #[(.ref a), (.double x0), (.double x1), (.double x2)] below meth c s₁ [] 0 0 := Stand.of_body Bd
  have e0 : s₁.heap = h0 := by rw [← hh, Bd.state]; rfl
  have N0 := Fr.nil n0
  have pre0 : ∀ t, Steps p.tables e below (s₁.setTop (mkF m 0 #[.val (.ref a), .val (.double x0), .second, .val (.double x1), .second, .val (.double x2), .second] [])) t → Steps p.tables e below (s₁.setTop (entryFrame m #[(.ref a), (.double x0), (.double x1), (.double x2)] 7)) t := fun t k => castTop (ef_prog_10_method_1_code m a x0 x1 x2) k
  obtain ⟨_, _, ⟨T1, L1, k1, n1⟩, -, X1, ⟨Lc1, hQ1, l1, y1, z1⟩, st1⟩ := X0.specialBack hx (y := (⟨"java/lang/Record", "<init>", "()V"⟩ : MethodName)) rfl hown (mvT hZ (hw _ (List.mem_of_getElem? (i := 10) rfl))) (mvT hZ (hw _ (List.mem_of_getElem? (i := 11) rfl))) (mvT hZ (hw _ (List.mem_of_getElem? (i := 14) rfl))) (by decide) (backOf (W := 0) (rmR l Z a0 hw [] a h0 n0 Z0) hZ (hw _ (List.mem_of_getElem? (i := 14) rfl)) (hw _ (List.mem_of_getElem? (i := 13) rfl)) (by decide) (by decide)) (g := (mkF m 1 #[.val (.ref a), .val (.double x0), .second, .val (.double x1), .second, .val (.double x2), .second] [(.ref a)])) rfl (by rw [hml]; rfl) (Steps.refl _) (a := a) (argsL := []) (rest := []) (lenOf pd___V rfl) rfl (by show 2 * 0 + _ ≤ _; exact Nat.le_of_eq rfl) (hb hby d_prog_10_method_1_code_1) (fun _ _ => ⟨rfl, e0, (by decide : 0 + 0 ≤ _), (by decide : 0 + 0 ≤ _)⟩)
  dsimp only [Pt.U, Pt.locs, Pt.cells, Pt.slots] at X1 l1 y1 z1 st1 hQ1
  subst l1 y1 z1
  obtain ⟨rfl, N1q, K1⟩ := hQ1
  obtain ⟨_, _, ⟨T2, L2, k2, n2⟩, -, X2, ⟨Lc2, hQ2, l2, y2, z2⟩, st2⟩ := Jvm.LawKit.callS X1 hx (y := (⟨"com/example/gyrokin/gyrokin/Vector3", "requireFiniteComponents", "(DDD)V"⟩ : MethodName)) hown (mvT hZ (hw _ (List.mem_of_getElem? (i := 18) rfl))) (mvT hZ (hw _ (List.mem_of_getElem? (i := 19) rfl))) (mvT hZ (hw _ (List.mem_of_getElem? (i := 6) rfl))) (mvT hZ (hw _ (List.mem_of_getElem? (i := 20) rfl))) (by decide) (backOf (W := 0) (rmC l Z a0 hw [] x0 x1 x2 h0 n0 Z0 hf hn1 hn2) hZ (hw _ (List.mem_of_getElem? (i := 20) rfl)) (hw _ (List.mem_of_getElem? (i := 6) rfl)) (by decide) (by decide)) (g := (mkF m 8 #[.val (.ref a), .val (.double x0), .second, .val (.double x1), .second, .val (.double x2), .second] [(.double x2), (.double x1), (.double x0)])) rfl (by rw [hml]; rfl) (argsL := [(.double x0), (.double x1), (.double x2)]) (rest := []) (lenOf pd__DDD_V rfl) rfl (by show 2 * 0 + _ ≤ _; exact Nat.le_of_eq rfl) (hb hby d_prog_10_method_1_code_8) (fun _ _ => ⟨rfl, K1, (by decide : 0 + 0 ≤ _), (by decide : 0 + 0 ≤ _)⟩)
  dsimp only [Pt.U, Pt.locs, Pt.cells, Pt.slots] at X2 l2 y2 z2 st2 hQ2
  subst l2 y2 z2
  obtain ⟨rfl, N2q, K2⟩ := hQ2
  have NA := Fr.app (Fr.app N0 N1q) N2q
  obtain ⟨T3, h3, X3, e3, W3, st3⟩ := putF X2 hx hZ hown (host := "") (Or.inl (hw _ (List.mem_of_getElem? (i := 30) rfl))) Via.refl K2 Fx Ea (Or.inr ⟨(hw _ (List.mem_of_getElem? (i := 31) rfl)), rfl, hnm⟩) (hw _ (List.mem_of_getElem? (i := 5) rfl)) (ty := .double) (by decide) rfl rfl (g := (mkF m 13 #[.val (.ref a), .val (.double x0), .second, .val (.double x1), .second, .val (.double x2), .second] [(.double x0), (.ref a)])) rfl rfl (hb hby d_prog_10_method_1_code_13)
  have Fy3 := Fy.other W3 (Or.inr (Jvm.RoadKit.slot_ne (Or.inr (hw _ (List.mem_of_getElem? (i := 33) rfl))) (Or.inr (hw _ (List.mem_of_getElem? (i := 31) rfl))) (by decide) (t := .double) (t' := .double) (by decide) (by decide)))
  have Fz3 := Fz.other W3 (Or.inr (Jvm.RoadKit.slot_ne (Or.inr (hw _ (List.mem_of_getElem? (i := 35) rfl))) (Or.inr (hw _ (List.mem_of_getElem? (i := 31) rfl))) (by decide) (t := .double) (t' := .double) (by decide) (by decide)))
  have Fx3 := Fx.same W3
  have Ea3 := Ea.wr W3
  have K3 := (Keep.refl h0 [a]).wr W3 (Or.inl (List.mem_of_getElem? (i := 0) rfl))
  have N3 := Fr.snoc X3 NA ga
  obtain ⟨T4, h4, X4, e4, W4, st4⟩ := putF X3 hx hZ hown (host := "") (Or.inl (hw _ (List.mem_of_getElem? (i := 32) rfl))) Via.refl e3 Fy3 Ea3 (Or.inr ⟨(hw _ (List.mem_of_getElem? (i := 33) rfl)), rfl, hnm⟩) (hw _ (List.mem_of_getElem? (i := 5) rfl)) (ty := .double) (by decide) rfl rfl (g := (mkF m 18 #[.val (.ref a), .val (.double x0), .second, .val (.double x1), .second, .val (.double x2), .second] [(.double x1), (.ref a)])) rfl rfl (hb hby d_prog_10_method_1_code_18)
  have Fx4 := Fx3.other W4 (Or.inr (Jvm.RoadKit.slot_ne (Or.inr (hw _ (List.mem_of_getElem? (i := 31) rfl))) (Or.inr (hw _ (List.mem_of_getElem? (i := 33) rfl))) (by decide) (t := .double) (t' := .double) (by decide) (by decide)))
  have Fz4 := Fz3.other W4 (Or.inr (Jvm.RoadKit.slot_ne (Or.inr (hw _ (List.mem_of_getElem? (i := 35) rfl))) (Or.inr (hw _ (List.mem_of_getElem? (i := 33) rfl))) (by decide) (t := .double) (t' := .double) (by decide) (by decide)))
  have Fy4 := Fy3.same W4
  have Ea4 := Ea3.wr W4
  have K4 := K3.wr W4 (Or.inl (List.mem_of_getElem? (i := 0) rfl))
  have N4 := Fr.snoc X4 N3 ga
  obtain ⟨T5, h5, X5, e5, W5, st5⟩ := putF X4 hx hZ hown (host := "") (Or.inl (hw _ (List.mem_of_getElem? (i := 34) rfl))) Via.refl e4 Fz4 Ea4 (Or.inr ⟨(hw _ (List.mem_of_getElem? (i := 35) rfl)), rfl, hnm⟩) (hw _ (List.mem_of_getElem? (i := 5) rfl)) (ty := .double) (by decide) rfl rfl (g := (mkF m 24 #[.val (.ref a), .val (.double x0), .second, .val (.double x1), .second, .val (.double x2), .second] [(.double x2), (.ref a)])) rfl rfl (hb hby d_prog_10_method_1_code_24)
  have Fx5 := Fx4.other W5 (Or.inr (Jvm.RoadKit.slot_ne (Or.inr (hw _ (List.mem_of_getElem? (i := 31) rfl))) (Or.inr (hw _ (List.mem_of_getElem? (i := 35) rfl))) (by decide) (t := .double) (t' := .double) (by decide) (by decide)))
  have Fy5 := Fy4.other W5 (Or.inr (Jvm.RoadKit.slot_ne (Or.inr (hw _ (List.mem_of_getElem? (i := 33) rfl))) (Or.inr (hw _ (List.mem_of_getElem? (i := 35) rfl))) (by decide) (t := .double) (t' := .double) (by decide) (by decide)))
  have Fz5 := Fz4.same W5
  have Ea5 := Ea4.wr W5
  have K5 := K4.wr W5 (Or.inl (List.mem_of_getElem? (i := 0) rfl))
  have N5 := Fr.snoc X5 N4 ga
  obtain ⟨fs, hr, hrun, hended, hW, hsame⟩ := X5.leave (v := none) (fun _ => rfl)
  refine ⟨_, _, pre0 _ ?_, hrun, hended, _, _, rfl, ?_, ⟨_, rfl⟩, hW, hsame.mono (by decide) (by decide)⟩
  · show Steps p.tables e below (s₁.setTop (mkF m 0 #[.val (.ref a), .val (.double x0), .second, .val (.double x1), .second, .val (.double x2), .second] [])) _
    refine XS.aloadN X0.here hx rfl (hb hby d_prog_10_method_1_code_0) rfl rfl ?_
    show Steps p.tables e below (s₁.setTop (mkF m 1 #[.val (.ref a), .val (.double x0), .second, .val (.double x1), .second, .val (.double x2), .second] [(.ref a)])) _
    refine st1.trans ?_
    show Steps p.tables e below (T1.setTop (mkF m 4 #[.val (.ref a), .val (.double x0), .second, .val (.double x1), .second, .val (.double x2), .second] [])) _
    refine XS.dloadN X1.here hx rfl (hb hby d_prog_10_method_1_code_4) rfl ?_
    show Steps p.tables e below (T1.setTop (mkF m 5 #[.val (.ref a), .val (.double x0), .second, .val (.double x1), .second, .val (.double x2), .second] [(.double x0)])) _
    refine XS.dloadN X1.here hx rfl (hb hby d_prog_10_method_1_code_5) rfl ?_
    show Steps p.tables e below (T1.setTop (mkF m 6 #[.val (.ref a), .val (.double x0), .second, .val (.double x1), .second, .val (.double x2), .second] [(.double x1), (.double x0)])) _
    refine XS.dload X1.here hx rfl (hb hby d_prog_10_method_1_code_6) rfl ?_
    show Steps p.tables e below (T1.setTop (mkF m 8 #[.val (.ref a), .val (.double x0), .second, .val (.double x1), .second, .val (.double x2), .second] [(.double x2), (.double x1), (.double x0)])) _
    refine st2 _ ?_
    show Steps p.tables e below (T2.setTop (mkF m 11 #[.val (.ref a), .val (.double x0), .second, .val (.double x1), .second, .val (.double x2), .second] [])) _
    refine XS.aloadN X2.here hx rfl (hb hby d_prog_10_method_1_code_11) rfl rfl ?_
    show Steps p.tables e below (T2.setTop (mkF m 12 #[.val (.ref a), .val (.double x0), .second, .val (.double x1), .second, .val (.double x2), .second] [(.ref a)])) _
    refine XS.dloadN X2.here hx rfl (hb hby d_prog_10_method_1_code_12) rfl ?_
    show Steps p.tables e below (T2.setTop (mkF m 13 #[.val (.ref a), .val (.double x0), .second, .val (.double x1), .second, .val (.double x2), .second] [(.double x0), (.ref a)])) _
    refine st3 _ ?_
    show Steps p.tables e below (T3.setTop (mkF m 16 #[.val (.ref a), .val (.double x0), .second, .val (.double x1), .second, .val (.double x2), .second] [])) _
    refine XS.aloadN X3.here hx rfl (hb hby d_prog_10_method_1_code_16) rfl rfl ?_
    show Steps p.tables e below (T3.setTop (mkF m 17 #[.val (.ref a), .val (.double x0), .second, .val (.double x1), .second, .val (.double x2), .second] [(.ref a)])) _
    refine XS.dloadN X3.here hx rfl (hb hby d_prog_10_method_1_code_17) rfl ?_
    show Steps p.tables e below (T3.setTop (mkF m 18 #[.val (.ref a), .val (.double x0), .second, .val (.double x1), .second, .val (.double x2), .second] [(.double x1), (.ref a)])) _
    refine st4 _ ?_
    show Steps p.tables e below (T4.setTop (mkF m 21 #[.val (.ref a), .val (.double x0), .second, .val (.double x1), .second, .val (.double x2), .second] [])) _
    refine XS.aloadN X4.here hx rfl (hb hby d_prog_10_method_1_code_21) rfl rfl ?_
    show Steps p.tables e below (T4.setTop (mkF m 22 #[.val (.ref a), .val (.double x0), .second, .val (.double x1), .second, .val (.double x2), .second] [(.ref a)])) _
    refine XS.dload X4.here hx rfl (hb hby d_prog_10_method_1_code_22) rfl ?_
    show Steps p.tables e below (T4.setTop (mkF m 24 #[.val (.ref a), .val (.double x0), .second, .val (.double x1), .second, .val (.double x2), .second] [(.double x2), (.ref a)])) _
    refine st5 _ ?_
    show Steps p.tables e below (T5.setTop (mkF m 27 #[.val (.ref a), .val (.double x0), .second, .val (.double x1), .second, .val (.double x2), .second] [])) _
    exact X5.returnOut hx Bd.returns (hb hby d_prog_10_method_1_code_27) hr
  · show QC Z a x0 x1 x2 n0 h0 _ T5.heap _
    rw [e5]
    exact ⟨rfl, N5, K5, Ea5, Fx5, Fy5, Fz5⟩
theorem ef_method_3_code (m : MethodId) (x0 : Int64) (x1 : Int32) : entryFrame m #[(.long x0), (.int x1)] 5 = mkF m 0 #[.val (.long x0), .second, .val (.int x1), .unset, .unset] [] := by first | (simp [entryFrame, mkF, argsToLocals, Value.category]; done) | rfl
set_option maxRecDepth 65536 in
set_option maxHeartbeats 40000000 in
theorem rmK_t (l : Launch) (Z : State) (a0 : Array Value) (hw : ∀ d ∈ tables_1, d.before a0 Z = true) (ws : List Jvm.Cond) (u : Int64) (b : Int32) (h0 : Heap) (n0 : Nat) (Z0 : n0 ≤ h0.size) (hc4 : b = (0 : Int32)) :
    MetFree l (⟨"com/example/gyrokin/gyrokin/Vector3HatPinLaw", "comp", "(JI)D"⟩ : MethodName) (head1 (Jvm.Cond.code (⟨"com/example/gyrokin/gyrokin/Vector3HatPinLaw", "comp", "(JI)D"⟩ : MethodName) method_3_code 5 (some .double) :: ws) ({ frames := 0, cells := 0, slots := 0, locals := 0 } : Room)) (fun aa U => aa = #[(.long u), (.int b)] ∧ Z.Warmed39 U.vm ∧ U.heap = h0) (fun _ _ _ _ _ => True) (fun _ U o U' => ∃ v L, o = .returned v ∧ QV (.double (FP.l2d u)) n0 h0 v U'.heap L ∧ FrameEnd U o U' L ({ frames := 0, cells := 0, slots := 0, locals := 0 } : Room).cells ({ frames := 0, cells := 0, slots := 0, locals := 0 } : Room).slots) := by
  refine MetFree.of_bodySF (plainFor_of_name pn_method_3_code) hisR ?_
  intro p e s m args below meth c s₁ Bd hml0 hP hK
  obtain ⟨rfl, hZ, hh⟩ := hP
  have hx := Bd.exec
  have hby := Bd.bytes
  have hml : c.maxLocals = 5 := hml0
  have hown : s.vm.findClass "com/example/gyrokin/gyrokin/Vector3HatPinLaw" = some m.cls := findClass_of_methodNamed Bd.named
  have hnm := (name_of_methodNamed Bd.named Bd.method).1
  have X0 : Stand p l e ({ frames := 0, cells := 0, slots := 0, locals := 0 } : Room) s m #[(.long u), (.int b)] below meth c s₁ [] 0 0 := Stand.of_body Bd
  have e0 : s₁.heap = h0 := by rw [← hh, Bd.state]; rfl
  have N0 := Fr.nil n0
  have pre0 : ∀ t, Steps p.tables e below (s₁.setTop (mkF m 0 #[.val (.long u), .second, .val (.int b), .unset, .unset] [])) t → Steps p.tables e below (s₁.setTop (entryFrame m #[(.long u), (.int b)] 5)) t := fun t k => castTop (ef_method_3_code m u b) k
  obtain ⟨fs, hr, hrun, hended, hW, hsame⟩ := X0.leave (v := some (.double (FP.l2d u))) (fun h => by rw [Bd.returns] at h; cases h)
  refine ⟨_, _, pre0 _ ?_, hrun, hended, _, _, rfl, ?_, ⟨_, rfl⟩, hW, hsame.mono (by decide) (by decide)⟩
  · show Steps p.tables e below (s₁.setTop (mkF m 0 #[.val (.long u), .second, .val (.int b), .unset, .unset] [])) _
    refine XS.lloadN X0.here hx rfl (hb hby d_method_3_code_0) rfl ?_
    show Steps p.tables e below (s₁.setTop (mkF m 1 #[.val (.long u), .second, .val (.int b), .unset, .unset] [(.long u)])) _
    refine XS.l2dS X0.here hx rfl (hb hby d_method_3_code_1) rfl (v := (FP.l2d u)) rfl ?_
    show Steps p.tables e below (s₁.setTop (mkF m 2 #[.val (.long u), .second, .val (.int b), .unset, .unset] [(.double (FP.l2d u))])) _
    refine XS.dstoreN X0.here hx rfl (hb hby d_method_3_code_2) rfl (l' := #[.val (.long u), .second, .val (.int b), .val (.double (FP.l2d u)), .second]) rfl ?_
    show Steps p.tables e below (s₁.setTop (mkF m 3 #[.val (.long u), .second, .val (.int b), .val (.double (FP.l2d u)), .second] [])) _
    refine XS.iloadN X0.here hx rfl (hb hby d_method_3_code_3) rfl ?_
    show Steps p.tables e below (s₁.setTop (mkF m 4 #[.val (.long u), .second, .val (.int b), .val (.double (FP.l2d u)), .second] [(.int b)])) _
    refine XS.ifYes X0.here hx rfl (pc0 := 4) (pc' := 10) rfl (hb hby d_method_3_code_4) rfl ((if0 _ _).trans (teq hc4).1) (by decide) (by decide) ?_
    show Steps p.tables e below (s₁.setTop (mkF m 10 #[.val (.long u), .second, .val (.int b), .val (.double (FP.l2d u)), .second] [])) _
    refine XS.dloadN X0.here hx rfl (hb hby d_method_3_code_10) rfl ?_
    show Steps p.tables e below (s₁.setTop (mkF m 11 #[.val (.long u), .second, .val (.int b), .val (.double (FP.l2d u)), .second] [(.double (FP.l2d u))])) _
    exact own_retD X0 hx Bd.returns (hb hby d_method_3_code_11) hr
  · show QV (.double (FP.l2d u)) n0 h0 _ s₁.heap _
    rw [e0]
    exact ⟨rfl, N0, rfl⟩
set_option maxRecDepth 65536 in
set_option maxHeartbeats 40000000 in
theorem rmK_f (l : Launch) (Z : State) (a0 : Array Value) (hw : ∀ d ∈ tables_1, d.before a0 Z = true) (ws : List Jvm.Cond) (u : Int64) (b : Int32) (h0 : Heap) (n0 : Nat) (Z0 : n0 ≤ h0.size) (hc4 : ¬ (b = (0 : Int32))) :
    MetFree l (⟨"com/example/gyrokin/gyrokin/Vector3HatPinLaw", "comp", "(JI)D"⟩ : MethodName) (head1 (Jvm.Cond.code (⟨"com/example/gyrokin/gyrokin/Vector3HatPinLaw", "comp", "(JI)D"⟩ : MethodName) method_3_code 5 (some .double) :: ws) ({ frames := 0, cells := 0, slots := 0, locals := 0 } : Room)) (fun aa U => aa = #[(.long u), (.int b)] ∧ Z.Warmed39 U.vm ∧ U.heap = h0) (fun _ _ _ _ _ => True) (fun _ U o U' => ∃ v L, o = .returned v ∧ QV (.double (FP.dneg (FP.l2d u))) n0 h0 v U'.heap L ∧ FrameEnd U o U' L ({ frames := 0, cells := 0, slots := 0, locals := 0 } : Room).cells ({ frames := 0, cells := 0, slots := 0, locals := 0 } : Room).slots) := by
  refine MetFree.of_bodySF (plainFor_of_name pn_method_3_code) hisR ?_
  intro p e s m args below meth c s₁ Bd hml0 hP hK
  obtain ⟨rfl, hZ, hh⟩ := hP
  have hx := Bd.exec
  have hby := Bd.bytes
  have hml : c.maxLocals = 5 := hml0
  have hown : s.vm.findClass "com/example/gyrokin/gyrokin/Vector3HatPinLaw" = some m.cls := findClass_of_methodNamed Bd.named
  have hnm := (name_of_methodNamed Bd.named Bd.method).1
  have X0 : Stand p l e ({ frames := 0, cells := 0, slots := 0, locals := 0 } : Room) s m #[(.long u), (.int b)] below meth c s₁ [] 0 0 := Stand.of_body Bd
  have e0 : s₁.heap = h0 := by rw [← hh, Bd.state]; rfl
  have N0 := Fr.nil n0
  have pre0 : ∀ t, Steps p.tables e below (s₁.setTop (mkF m 0 #[.val (.long u), .second, .val (.int b), .unset, .unset] [])) t → Steps p.tables e below (s₁.setTop (entryFrame m #[(.long u), (.int b)] 5)) t := fun t k => castTop (ef_method_3_code m u b) k
  obtain ⟨fs, hr, hrun, hended, hW, hsame⟩ := X0.leave (v := some (.double (FP.dneg (FP.l2d u)))) (fun h => by rw [Bd.returns] at h; cases h)
  refine ⟨_, _, pre0 _ ?_, hrun, hended, _, _, rfl, ?_, ⟨_, rfl⟩, hW, hsame.mono (by decide) (by decide)⟩
  · show Steps p.tables e below (s₁.setTop (mkF m 0 #[.val (.long u), .second, .val (.int b), .unset, .unset] [])) _
    refine XS.lloadN X0.here hx rfl (hb hby d_method_3_code_0) rfl ?_
    show Steps p.tables e below (s₁.setTop (mkF m 1 #[.val (.long u), .second, .val (.int b), .unset, .unset] [(.long u)])) _
    refine XS.l2dS X0.here hx rfl (hb hby d_method_3_code_1) rfl (v := (FP.l2d u)) rfl ?_
    show Steps p.tables e below (s₁.setTop (mkF m 2 #[.val (.long u), .second, .val (.int b), .unset, .unset] [(.double (FP.l2d u))])) _
    refine XS.dstoreN X0.here hx rfl (hb hby d_method_3_code_2) rfl (l' := #[.val (.long u), .second, .val (.int b), .val (.double (FP.l2d u)), .second]) rfl ?_
    show Steps p.tables e below (s₁.setTop (mkF m 3 #[.val (.long u), .second, .val (.int b), .val (.double (FP.l2d u)), .second] [])) _
    refine XS.iloadN X0.here hx rfl (hb hby d_method_3_code_3) rfl ?_
    show Steps p.tables e below (s₁.setTop (mkF m 4 #[.val (.long u), .second, .val (.int b), .val (.double (FP.l2d u)), .second] [(.int b)])) _
    refine XS.ifNo X0.here hx rfl (hb hby d_method_3_code_4) rfl ((if0 _ _).trans (feq hc4).1) ?_
    show Steps p.tables e below (s₁.setTop (mkF m 7 #[.val (.long u), .second, .val (.int b), .val (.double (FP.l2d u)), .second] [])) _
    refine XS.dloadN X0.here hx rfl (hb hby d_method_3_code_7) rfl ?_
    show Steps p.tables e below (s₁.setTop (mkF m 8 #[.val (.long u), .second, .val (.int b), .val (.double (FP.l2d u)), .second] [(.double (FP.l2d u))])) _
    refine XS.dnegS X0.here hx rfl (hb hby d_method_3_code_8) rfl (v := (FP.dneg (FP.l2d u))) rfl ?_
    show Steps p.tables e below (s₁.setTop (mkF m 9 #[.val (.long u), .second, .val (.int b), .val (.double (FP.l2d u)), .second] [(.double (FP.dneg (FP.l2d u)))])) _
    exact own_retD X0 hx Bd.returns (hb hby d_method_3_code_9) hr
  · show QV (.double (FP.dneg (FP.l2d u))) n0 h0 _ s₁.heap _
    rw [e0]
    exact ⟨rfl, N0, rfl⟩
theorem rmK (l : Launch) (Z : State) (a0 : Array Value) (hw : ∀ d ∈ tables_1, d.before a0 Z = true) (ws : List Jvm.Cond) (u : Int64) (b : Int32) (h0 : Heap) (n0 : Nat) (Z0 : n0 ≤ h0.size) :
    MetFree l (⟨"com/example/gyrokin/gyrokin/Vector3HatPinLaw", "comp", "(JI)D"⟩ : MethodName) (head1 (Jvm.Cond.code (⟨"com/example/gyrokin/gyrokin/Vector3HatPinLaw", "comp", "(JI)D"⟩ : MethodName) method_3_code 5 (some .double) :: ws) ({ frames := 0, cells := 0, slots := 0, locals := 0 } : Room)) (fun aa U => aa = #[(.long u), (.int b)] ∧ Z.Warmed39 U.vm ∧ U.heap = h0) (fun _ _ _ _ _ => True) (fun _ U o U' => ∃ v L, o = .returned v ∧ QV (.double (compE u b)) n0 h0 v U'.heap L ∧ FrameEnd U o U' L ({ frames := 0, cells := 0, slots := 0, locals := 0 } : Room).cells ({ frames := 0, cells := 0, slots := 0, locals := 0 } : Room).slots) := by
  by_cases h : b = 0
  · rw [show compE u b = FP.l2d u from if_pos h]; exact rmK_t l Z a0 hw ws u b h0 n0 Z0 h
  · rw [show compE u b = FP.dneg (FP.l2d u) from if_neg h]; exact rmK_f l Z a0 hw ws u b h0 n0 Z0 h
theorem ef_method_4_code (m : MethodId) (x0 : UInt64) : entryFrame m #[(.double x0)] 2 = mkF m 0 #[.val (.double x0), .second] [] := by first | (simp [entryFrame, mkF, argsToLocals, Value.category]; done) | rfl
set_option maxRecDepth 65536 in
set_option maxHeartbeats 40000000 in
theorem rmZ (l : Launch) (Z : State) (a0 : Array Value) (hw : ∀ d ∈ tables_1, d.before a0 Z = true) (ws : List Jvm.Cond)  (h0 : Heap) (n0 : Nat) (Z0 : n0 ≤ h0.size) :
    MetFree l (⟨"com/example/gyrokin/gyrokin/Vector3HatPinLaw", "plusZero", "(D)Z"⟩ : MethodName) (head1 (Jvm.Cond.code (⟨"com/example/gyrokin/gyrokin/Vector3HatPinLaw", "plusZero", "(D)Z"⟩ : MethodName) method_4_code 2 (some .boolean) :: ws) ({ frames := 0, cells := 0, slots := 0, locals := 0 } : Room)) (fun aa U => aa = #[(.double FP.dconst0)] ∧ Z.Warmed39 U.vm ∧ U.heap = h0) (fun _ _ _ _ _ => True) (fun _ U o U' => ∃ v L, o = .returned v ∧ QV (.int 1) n0 h0 v U'.heap L ∧ FrameEnd U o U' L ({ frames := 0, cells := 0, slots := 0, locals := 0 } : Room).cells ({ frames := 0, cells := 0, slots := 0, locals := 0 } : Room).slots) := by
  refine MetFree.of_bodySF (plainFor_of_name pn_method_4_code) hisR ?_
  intro p e s m args below meth c s₁ Bd hml0 hP hK
  obtain ⟨rfl, hZ, hh⟩ := hP
  have hx := Bd.exec
  have hby := Bd.bytes
  have hml : c.maxLocals = 2 := hml0
  have hown : s.vm.findClass "com/example/gyrokin/gyrokin/Vector3HatPinLaw" = some m.cls := findClass_of_methodNamed Bd.named
  have hnm := (name_of_methodNamed Bd.named Bd.method).1
  have X0 : Stand p l e ({ frames := 0, cells := 0, slots := 0, locals := 0 } : Room) s m #[(.double FP.dconst0)] below meth c s₁ [] 0 0 := Stand.of_body Bd
  have e0 : s₁.heap = h0 := by rw [← hh, Bd.state]; rfl
  have N0 := Fr.nil n0
  have pre0 : ∀ t, Steps p.tables e below (s₁.setTop (mkF m 0 #[.val (.double FP.dconst0), .second] [])) t → Steps p.tables e below (s₁.setTop (entryFrame m #[(.double FP.dconst0)] 2)) t := fun t k => castTop (ef_method_4_code m FP.dconst0) k
  obtain ⟨fs, hr, hrun, hended, hW, hsame⟩ := X0.leave (v := some (.int (1 : Int32))) (fun h => by rw [Bd.returns] at h; cases h)
  refine ⟨_, _, pre0 _ ?_, hrun, hended, _, _, rfl, ?_, ⟨_, rfl⟩, hW, hsame.mono (by decide) (by decide)⟩
  · show Steps p.tables e below (s₁.setTop (mkF m 0 #[.val (.double FP.dconst0), .second] [])) _
    refine XS.dloadN X0.here hx rfl (hb hby d_method_4_code_0) rfl ?_
    show Steps p.tables e below (s₁.setTop (mkF m 1 #[.val (.double FP.dconst0), .second] [(.double FP.dconst0)])) _
    refine XS.dconst0 X0.here hx rfl (v := FP.dconst0) (hb hby d_method_4_code_1) rfl ?_
    show Steps p.tables e below (s₁.setTop (mkF m 2 #[.val (.double FP.dconst0), .second] [(.double FP.dconst0), (.double FP.dconst0)])) _
    refine XS.dcmpS X0.here hx rfl (hb hby d_method_4_code_2) rfl (v := (0 : Int32)) pz1 ?_
    show Steps p.tables e below (s₁.setTop (mkF m 3 #[.val (.double FP.dconst0), .second] [(.int (0 : Int32))])) _
    refine XS.ifNo X0.here hx rfl (hb hby d_method_4_code_3) rfl ((if0 _ _).trans (teq (rfl : (0 : Int32) = (0 : Int32))).2) ?_
    show Steps p.tables e below (s₁.setTop (mkF m 6 #[.val (.double FP.dconst0), .second] [])) _
    refine XS.dconst1 X0.here hx rfl (v := FP.dconst1) (hb hby d_method_4_code_6) rfl ?_
    show Steps p.tables e below (s₁.setTop (mkF m 7 #[.val (.double FP.dconst0), .second] [(.double FP.dconst1)])) _
    refine XS.dloadN X0.here hx rfl (hb hby d_method_4_code_7) rfl ?_
    show Steps p.tables e below (s₁.setTop (mkF m 8 #[.val (.double FP.dconst0), .second] [(.double FP.dconst0), (.double FP.dconst1)])) _
    refine XS.ddivS X0.here hx rfl (hb hby d_method_4_code_8) rfl pz2 (v := (FP.ddiv FP.dconst1 FP.dconst0)) rfl ?_
    show Steps p.tables e below (s₁.setTop (mkF m 9 #[.val (.double FP.dconst0), .second] [(.double (FP.ddiv FP.dconst1 FP.dconst0))])) _
    refine XS.dconst0 X0.here hx rfl (v := FP.dconst0) (hb hby d_method_4_code_9) rfl ?_
    show Steps p.tables e below (s₁.setTop (mkF m 10 #[.val (.double FP.dconst0), .second] [(.double FP.dconst0), (.double (FP.ddiv FP.dconst1 FP.dconst0))])) _
    refine XS.dcmpS X0.here hx rfl (hb hby d_method_4_code_10) rfl (v := (1 : Int32)) pz3 ?_
    show Steps p.tables e below (s₁.setTop (mkF m 11 #[.val (.double FP.dconst0), .second] [(.int (1 : Int32))])) _
    refine XS.ifNo X0.here hx rfl (hb hby d_method_4_code_11) rfl ((if0 _ _).trans (tlt (by decide : (0 : Int32) < (1 : Int32))).2.2.2) ?_
    show Steps p.tables e below (s₁.setTop (mkF m 14 #[.val (.double FP.dconst0), .second] [])) _
    refine XS.iconst X0.here hx rfl (hb hby d_method_4_code_14) ?_
    show Steps p.tables e below (s₁.setTop (mkF m 15 #[.val (.double FP.dconst0), .second] [(.int (1 : Int32))])) _
    refine XS.goto X0.here hx rfl (pc0 := 15) (pc' := 19) rfl (hb hby d_method_4_code_15) (by decide) (by decide) ?_
    show Steps p.tables e below (s₁.setTop (mkF m 19 #[.val (.double FP.dconst0), .second] [(.int (1 : Int32))])) _
    exact retN X0 hx (t := .boolean) Bd.returns (by simp) (hb hby d_method_4_code_19) hr
  · show QV (.int 1) n0 h0 _ s₁.heap _
    rw [e0]
    exact ⟨rfl, N0, rfl⟩
theorem ef_method_5_code (m : MethodId) (x0 : UInt64) (x1 : UInt64) : entryFrame m #[(.double x0), (.double x1)] 4 = mkF m 0 #[.val (.double x0), .second, .val (.double x1), .second] [] := by first | (simp [entryFrame, mkF, argsToLocals, Value.category]; done) | rfl
set_option maxRecDepth 65536 in
set_option maxHeartbeats 40000000 in
theorem rmG_z (l : Launch) (Z : State) (a0 : Array Value) (hw : ∀ d ∈ tables_1, d.before a0 Z = true) (ws : List Jvm.Cond) (c0 : UInt64) (h0 : Heap) (n0 : Nat) (Z0 : n0 ≤ h0.size) (hc3 : (cmpValue (FP.dcmp c0 FP.dconst0) .l) = (0 : Int32)) :
    MetFree l (⟨"com/example/gyrokin/gyrokin/Vector3HatPinLaw", "negated", "(DD)Z"⟩ : MethodName) (head1 (Jvm.Cond.code (⟨"com/example/gyrokin/gyrokin/Vector3HatPinLaw", "negated", "(DD)Z"⟩ : MethodName) method_5_code 4 (some .boolean) :: ws) ({ frames := 1, cells := 0, slots := 0, locals := 13 } : Room)) (fun aa U => aa = #[(.double FP.dconst0), (.double c0)] ∧ Z.Warmed39 U.vm ∧ U.heap = h0) (fun _ _ _ _ _ => True) (fun _ U o U' => ∃ v L, o = .returned v ∧ QV (.int 1) n0 h0 v U'.heap L ∧ FrameEnd U o U' L ({ frames := 1, cells := 0, slots := 0, locals := 13 } : Room).cells ({ frames := 1, cells := 0, slots := 0, locals := 13 } : Room).slots) := by
  refine MetFree.of_bodySF (plainFor_of_name pn_method_5_code) hisR ?_
  intro p e s m args below meth c s₁ Bd hml0 hP hK
  obtain ⟨rfl, hZ, hh⟩ := hP
  have hx := Bd.exec
  have hby := Bd.bytes
  have hml : c.maxLocals = 4 := hml0
  have hown : s.vm.findClass "com/example/gyrokin/gyrokin/Vector3HatPinLaw" = some m.cls := findClass_of_methodNamed Bd.named
  have hnm := (name_of_methodNamed Bd.named Bd.method).1
  have X0 : Stand p l e ({ frames := 1, cells := 0, slots := 0, locals := 13 } : Room) s m #[(.double FP.dconst0), (.double c0)] below meth c s₁ [] 0 0 := Stand.of_body Bd
  have e0 : s₁.heap = h0 := by rw [← hh, Bd.state]; rfl
  have N0 := Fr.nil n0
  have pre0 : ∀ t, Steps p.tables e below (s₁.setTop (mkF m 0 #[.val (.double FP.dconst0), .second, .val (.double c0), .second] [])) t → Steps p.tables e below (s₁.setTop (entryFrame m #[(.double FP.dconst0), (.double c0)] 4)) t := fun t k => castTop (ef_method_5_code m FP.dconst0 c0) k
  obtain ⟨_, _, ⟨T1, L1, k1, n1⟩, -, X1, ⟨Lc1, hQ1, l1, y1, z1⟩, st1⟩ := Jvm.LawKit.callS X0 hx (y := (⟨"com/example/gyrokin/gyrokin/Vector3HatPinLaw", "plusZero", "(D)Z"⟩ : MethodName)) hown (mvT hZ (hw _ (List.mem_of_getElem? (i := 45) rfl))) (mvT hZ (hw _ (List.mem_of_getElem? (i := 46) rfl))) (mvT hZ (hw _ (List.mem_of_getElem? (i := 2) rfl))) (mvT hZ (hw _ (List.mem_of_getElem? (i := 47) rfl))) (by decide) (backOf (W := 0) (rmZ l Z a0 hw [] h0 n0 Z0) hZ (hw _ (List.mem_of_getElem? (i := 47) rfl)) (hw _ (List.mem_of_getElem? (i := 2) rfl)) (by decide) (by decide)) (g := (mkF m 7 #[.val (.double FP.dconst0), .second, .val (.double c0), .second] [(.double FP.dconst0)])) rfl (by rw [hml]; rfl) (argsL := [(.double FP.dconst0)]) (rest := []) (lenOf pd__D_Z rfl) rfl (by show 2 * 0 + _ ≤ _; exact Nat.le_of_eq rfl) (hb hby d_method_5_code_7) (fun _ _ => ⟨rfl, e0, (by decide : 0 + 0 ≤ _), (by decide : 0 + 0 ≤ _)⟩)
  dsimp only [Pt.U, Pt.locs, Pt.cells, Pt.slots] at X1 l1 y1 z1 st1 hQ1
  subst l1 y1 z1
  obtain ⟨rfl, N1q, K1⟩ := hQ1
  obtain ⟨fs, hr, hrun, hended, hW, hsame⟩ := X1.leave (v := some (.int (1 : Int32))) (fun h => by rw [Bd.returns] at h; cases h)
  refine ⟨_, _, pre0 _ ?_, hrun, hended, _, _, rfl, ?_, ⟨_, rfl⟩, hW, hsame.mono (by decide) (by decide)⟩
  · show Steps p.tables e below (s₁.setTop (mkF m 0 #[.val (.double FP.dconst0), .second, .val (.double c0), .second] [])) _
    refine XS.dloadN X0.here hx rfl (hb hby d_method_5_code_0) rfl ?_
    show Steps p.tables e below (s₁.setTop (mkF m 1 #[.val (.double FP.dconst0), .second, .val (.double c0), .second] [(.double c0)])) _
    refine XS.dconst0 X0.here hx rfl (v := FP.dconst0) (hb hby d_method_5_code_1) rfl ?_
    show Steps p.tables e below (s₁.setTop (mkF m 2 #[.val (.double FP.dconst0), .second, .val (.double c0), .second] [(.double FP.dconst0), (.double c0)])) _
    refine XS.dcmpS X0.here hx rfl (hb hby d_method_5_code_2) rfl (v := (cmpValue (FP.dcmp c0 FP.dconst0) .l)) rfl ?_
    show Steps p.tables e below (s₁.setTop (mkF m 3 #[.val (.double FP.dconst0), .second, .val (.double c0), .second] [(.int (cmpValue (FP.dcmp c0 FP.dconst0) .l))])) _
    refine XS.ifNo X0.here hx rfl (hb hby d_method_5_code_3) rfl ((if0 _ _).trans (teq hc3).2) ?_
    show Steps p.tables e below (s₁.setTop (mkF m 6 #[.val (.double FP.dconst0), .second, .val (.double c0), .second] [])) _
    refine XS.dloadN X0.here hx rfl (hb hby d_method_5_code_6) rfl ?_
    show Steps p.tables e below (s₁.setTop (mkF m 7 #[.val (.double FP.dconst0), .second, .val (.double c0), .second] [(.double FP.dconst0)])) _
    refine st1 _ ?_
    show Steps p.tables e below (T1.setTop (mkF m 10 #[.val (.double FP.dconst0), .second, .val (.double c0), .second] [(.int (1 : Int32))])) _
    exact retN X1 hx (t := .boolean) Bd.returns (by simp) (hb hby d_method_5_code_10) hr
  · show QV (.int 1) n0 h0 _ T1.heap _
    rw [K1]
    exact ⟨rfl, Fr.app N0 N1q, rfl⟩
set_option maxRecDepth 65536 in
set_option maxHeartbeats 40000000 in
theorem rmG_n (l : Launch) (Z : State) (a0 : Array Value) (hw : ∀ d ∈ tables_1, d.before a0 Z = true) (ws : List Jvm.Cond) (c0 : UInt64) (h0 : Heap) (n0 : Nat) (Z0 : n0 ≤ h0.size) (hq : Jvm.Free.Fl.NoNaN64 (FP.dneg c0)) (hc3 : ¬ ((cmpValue (FP.dcmp c0 FP.dconst0) .l) = (0 : Int32))) :
    MetFree l (⟨"com/example/gyrokin/gyrokin/Vector3HatPinLaw", "negated", "(DD)Z"⟩ : MethodName) (head1 (Jvm.Cond.code (⟨"com/example/gyrokin/gyrokin/Vector3HatPinLaw", "negated", "(DD)Z"⟩ : MethodName) method_5_code 4 (some .boolean) :: ws) ({ frames := 1, cells := 0, slots := 0, locals := 13 } : Room)) (fun aa U => aa = #[(.double (FP.dneg c0)), (.double c0)] ∧ Z.Warmed39 U.vm ∧ U.heap = h0) (fun _ _ _ _ _ => True) (fun _ U o U' => ∃ v L, o = .returned v ∧ QV (.int 1) n0 h0 v U'.heap L ∧ FrameEnd U o U' L ({ frames := 1, cells := 0, slots := 0, locals := 13 } : Room).cells ({ frames := 1, cells := 0, slots := 0, locals := 13 } : Room).slots) := by
  refine MetFree.of_bodySF (plainFor_of_name pn_method_5_code) hisR ?_
  intro p e s m args below meth c s₁ Bd hml0 hP hK
  obtain ⟨rfl, hZ, hh⟩ := hP
  have hx := Bd.exec
  have hby := Bd.bytes
  have hml : c.maxLocals = 4 := hml0
  have hown : s.vm.findClass "com/example/gyrokin/gyrokin/Vector3HatPinLaw" = some m.cls := findClass_of_methodNamed Bd.named
  have hnm := (name_of_methodNamed Bd.named Bd.method).1
  have X0 : Stand p l e ({ frames := 1, cells := 0, slots := 0, locals := 13 } : Room) s m #[(.double (FP.dneg c0)), (.double c0)] below meth c s₁ [] 0 0 := Stand.of_body Bd
  have e0 : s₁.heap = h0 := by rw [← hh, Bd.state]; rfl
  have N0 := Fr.nil n0
  have pre0 : ∀ t, Steps p.tables e below (s₁.setTop (mkF m 0 #[.val (.double (FP.dneg c0)), .second, .val (.double c0), .second] [])) t → Steps p.tables e below (s₁.setTop (entryFrame m #[(.double (FP.dneg c0)), (.double c0)] 4)) t := fun t k => castTop (ef_method_5_code m (FP.dneg c0) c0) k
  obtain ⟨fs, hr, hrun, hended, hW, hsame⟩ := X0.leave (v := some (.int (1 : Int32))) (fun h => by rw [Bd.returns] at h; cases h)
  refine ⟨_, _, pre0 _ ?_, hrun, hended, _, _, rfl, ?_, ⟨_, rfl⟩, hW, hsame.mono (by decide) (by decide)⟩
  · show Steps p.tables e below (s₁.setTop (mkF m 0 #[.val (.double (FP.dneg c0)), .second, .val (.double c0), .second] [])) _
    refine XS.dloadN X0.here hx rfl (hb hby d_method_5_code_0) rfl ?_
    show Steps p.tables e below (s₁.setTop (mkF m 1 #[.val (.double (FP.dneg c0)), .second, .val (.double c0), .second] [(.double c0)])) _
    refine XS.dconst0 X0.here hx rfl (v := FP.dconst0) (hb hby d_method_5_code_1) rfl ?_
    show Steps p.tables e below (s₁.setTop (mkF m 2 #[.val (.double (FP.dneg c0)), .second, .val (.double c0), .second] [(.double FP.dconst0), (.double c0)])) _
    refine XS.dcmpS X0.here hx rfl (hb hby d_method_5_code_2) rfl (v := (cmpValue (FP.dcmp c0 FP.dconst0) .l)) rfl ?_
    show Steps p.tables e below (s₁.setTop (mkF m 3 #[.val (.double (FP.dneg c0)), .second, .val (.double c0), .second] [(.int (cmpValue (FP.dcmp c0 FP.dconst0) .l))])) _
    refine XS.ifYes X0.here hx rfl (pc0 := 3) (pc' := 11) rfl (hb hby d_method_5_code_3) rfl ((if0 _ _).trans (feq hc3).2) (by decide) (by decide) ?_
    show Steps p.tables e below (s₁.setTop (mkF m 11 #[.val (.double (FP.dneg c0)), .second, .val (.double c0), .second] [])) _
    refine XS.dloadN X0.here hx rfl (hb hby d_method_5_code_11) rfl ?_
    show Steps p.tables e below (s₁.setTop (mkF m 12 #[.val (.double (FP.dneg c0)), .second, .val (.double c0), .second] [(.double (FP.dneg c0))])) _
    refine XS.dloadN X0.here hx rfl (hb hby d_method_5_code_12) rfl ?_
    show Steps p.tables e below (s₁.setTop (mkF m 13 #[.val (.double (FP.dneg c0)), .second, .val (.double c0), .second] [(.double c0), (.double (FP.dneg c0))])) _
    refine XS.dnegS X0.here hx rfl (hb hby d_method_5_code_13) rfl (v := (FP.dneg c0)) rfl ?_
    show Steps p.tables e below (s₁.setTop (mkF m 14 #[.val (.double (FP.dneg c0)), .second, .val (.double c0), .second] [(.double (FP.dneg c0)), (.double (FP.dneg c0))])) _
    refine XS.dcmpS X0.here hx rfl (hb hby d_method_5_code_14) rfl (v := (0 : Int32)) (dcmpV_self hq .l) ?_
    show Steps p.tables e below (s₁.setTop (mkF m 15 #[.val (.double (FP.dneg c0)), .second, .val (.double c0), .second] [(.int (0 : Int32))])) _
    refine XS.ifNo X0.here hx rfl (hb hby d_method_5_code_15) rfl ((if0 _ _).trans (teq (rfl : (0 : Int32) = (0 : Int32))).2) ?_
    show Steps p.tables e below (s₁.setTop (mkF m 18 #[.val (.double (FP.dneg c0)), .second, .val (.double c0), .second] [])) _
    refine XS.iconst X0.here hx rfl (hb hby d_method_5_code_18) ?_
    show Steps p.tables e below (s₁.setTop (mkF m 19 #[.val (.double (FP.dneg c0)), .second, .val (.double c0), .second] [(.int (1 : Int32))])) _
    refine XS.goto X0.here hx rfl (pc0 := 19) (pc' := 23) rfl (hb hby d_method_5_code_19) (by decide) (by decide) ?_
    show Steps p.tables e below (s₁.setTop (mkF m 23 #[.val (.double (FP.dneg c0)), .second, .val (.double c0), .second] [(.int (1 : Int32))])) _
    exact retN X0 hx (t := .boolean) Bd.returns (by simp) (hb hby d_method_5_code_23) hr
  · show QV (.int 1) n0 h0 _ s₁.heap _
    rw [e0]
    exact ⟨rfl, N0, rfl⟩
theorem rmG (l : Launch) (Z : State) (a0 : Array Value) (hw : ∀ d ∈ tables_1, d.before a0 Z = true) (ws : List Jvm.Cond) (c0 : UInt64) (h0 : Heap) (n0 : Nat) (Z0 : n0 ≤ h0.size) (hc : Jvm.Free.Fl.NoNaN64 c0) (hq : Jvm.Free.Fl.NoNaN64 (ngE c0)) :
    MetFree l (⟨"com/example/gyrokin/gyrokin/Vector3HatPinLaw", "negated", "(DD)Z"⟩ : MethodName) (head1 (Jvm.Cond.code (⟨"com/example/gyrokin/gyrokin/Vector3HatPinLaw", "negated", "(DD)Z"⟩ : MethodName) method_5_code 4 (some .boolean) :: ws) ({ frames := 1, cells := 0, slots := 0, locals := 13 } : Room)) (fun aa U => aa = #[(.double (ngE c0)), (.double c0)] ∧ Z.Warmed39 U.vm ∧ U.heap = h0) (fun _ _ _ _ _ => True) (fun _ U o U' => ∃ v L, o = .returned v ∧ QV (.int 1) n0 h0 v U'.heap L ∧ FrameEnd U o U' L ({ frames := 1, cells := 0, slots := 0, locals := 13 } : Room).cells ({ frames := 1, cells := 0, slots := 0, locals := 13 } : Room).slots) := by
  rcases neg_cases hc with ⟨h, e⟩ | ⟨h, e⟩
  · rw [e]; exact rmG_z l Z a0 hw ws c0 h0 n0 Z0 h
  · rw [e]; rw [e] at hq; exact rmG_n l Z a0 hw ws c0 h0 n0 Z0 hq h
theorem ef_prog_10_method_9_code (m : MethodId) (x0 : Addr) : entryFrame m #[(.ref x0)] 1 = mkF m 0 #[.val (.ref x0)] [] := by first | (simp [entryFrame, mkF, argsToLocals, Value.category]; done) | rfl
set_option maxRecDepth 65536 in
set_option maxHeartbeats 40000000 in
theorem rmH (l : Launch) (Z : State) (a0 : Array Value) (hw : ∀ d ∈ tables_1, d.before a0 Z = true) (ws : List Jvm.Cond) (a : Addr) (x y z : UInt64) (h0 : Heap) (n0 : Nat) (Z0 : n0 ≤ h0.size) (Fx : Fld Z h0 a "com/example/gyrokin/gyrokin/Vector3" "x" "D" (.double x)) (Fy : Fld Z h0 a "com/example/gyrokin/gyrokin/Vector3" "y" "D" (.double y)) (Fz : Fld Z h0 a "com/example/gyrokin/gyrokin/Vector3" "z" "D" (.double z)) (nz : Jvm.Free.Fl.NoNaN64 (ngE z)) (nx : Jvm.Free.Fl.NoNaN64 (ngE x)) (ny : Jvm.Free.Fl.NoNaN64 (ngE y)) :
    MetFree l (⟨"com/example/gyrokin/gyrokin/Vector3", "hat", "()[[D"⟩ : MethodName) (head1 (Jvm.Cond.code (⟨"com/example/gyrokin/gyrokin/Vector3", "hat", "()[[D"⟩ : MethodName) prog_10_method_9_code 1 (some (.array (.array .double))) :: ws) ({ frames := 0, cells := 4, slots := 12, locals := 0 } : Room)) (fun aa U => aa = #[(.ref a)] ∧ Z.Warmed39 U.vm ∧ U.heap = h0) (fun _ _ _ _ _ => True) (fun _ U o U' => ∃ v L, o = .returned v ∧ QH Z x y z n0 h0 v U'.heap L ∧ FrameEnd U o U' L ({ frames := 0, cells := 4, slots := 12, locals := 0 } : Room).cells ({ frames := 0, cells := 4, slots := 12, locals := 0 } : Room).slots) := by
  refine MetFree.of_bodySF (plainFor_of_name pn_prog_10_method_9_code) hisR ?_
  intro p e s m args below meth c s₁ Bd hml0 hP hK
  obtain ⟨rfl, hZ, hh⟩ := hP
  have hx := Bd.exec
  have hby := Bd.bytes
  have hml : c.maxLocals = 1 := hml0
  have hown : s.vm.findClass "com/example/gyrokin/gyrokin/Vector3" = some m.cls := findClass_of_methodNamed Bd.named
  have hnm := (name_of_methodNamed Bd.named Bd.method).1
  have X0 : Stand p l e ({ frames := 0, cells := 4, slots := 12, locals := 0 } : Room) s m #[(.ref a)] below meth c s₁ [] 0 0 := Stand.of_body Bd
  have e0 : s₁.heap = h0 := by rw [← hh, Bd.state]; rfl
  have N0 := Fr.nil n0
  have pre0 : ∀ t, Steps p.tables e below (s₁.setTop (mkF m 0 #[.val (.ref a)] [])) t → Steps p.tables e below (s₁.setTop (entryFrame m #[(.ref a)] 1)) t := fun t k => castTop (ef_prog_10_method_9_code m a) k
  obtain ⟨T1, h1, k1, X1, e1, E1, A1, Ex1, O1, st1⟩ := newRA X0 hx hZ hown (ty := .double) (C := "[D") own_s1 (hw _ (List.mem_of_getElem? (i := 41) rfl)) (hw _ (List.mem_of_getElem? (i := 42) rfl)) e0 (g := (mkF m 1 #[.val (.ref a)] [(.int (3 : Int32))])) rfl (hb hby d_prog_10_method_9_code_1) rfl (by decide) (cap := 3) (by decide) (by decide) (by decide) (by decide) (ad := "[[D") own_s2
  obtain ⟨b1, g1⟩ : ∃ z, z = h0.size := ⟨_, rfl⟩
  rw [← g1] at A1 Ex1 st1
  have ne_a_b1 : a ≠ b1 := Nat.ne_of_lt (Nat.lt_of_lt_of_le Fx.lt (Nat.le_of_eq g1.symm))
  have sz_b1 : h0.size ≤ b1 := Nat.le_trans (Keep.refl h0 []).1 (Nat.le_of_eq g1.symm)
  have g_b1 : n0 ≤ b1 := Nat.le_trans Z0 sz_b1
  have K1 : Keep h0 h1 [] := (Keep.refl h0 []).ext E1
  have Fx_1 := Fx.ext E1
  have Fy_1 := Fy.ext E1
  have Fz_1 := Fz.ext E1
  have VO0 : Arv Z h1 b1 k1 (.array .double) (3 : Int32) [.null, .null, .null] .null := (Arv.new A1 (by decide)).pad (pad_rep [] .null 3)
  obtain ⟨T2, h2, k2, X2, e2, E2, A2, Ex2, st2⟩ := newPE X1 hx hZ (a0 := a0) (hw _ (List.mem_of_getElem? (i := 43) rfl)) e1 (g := (mkF m 7 #[.val (.ref a)] [(.int (3 : Int32)), (.int (0 : Int32)), (.ref b1), (.ref b1)])) rfl (hb hby d_prog_10_method_9_code_7) rfl (by decide) (cap := 3) (by decide) (by decide) (by decide) (by decide) (ad := "[D") own_s3
  obtain ⟨b2, g2⟩ : ∃ z, z = h1.size := ⟨_, rfl⟩
  rw [← g2] at A2 Ex2 st2
  have ne_a_b2 : a ≠ b2 := Nat.ne_of_lt (Nat.lt_of_lt_of_le Fx_1.lt (Nat.le_of_eq g2.symm))
  have ne_b1_b2 : b1 ≠ b2 := Nat.ne_of_lt (Nat.lt_of_lt_of_le VO0.lt (Nat.le_of_eq g2.symm))
  have sz_b2 : h0.size ≤ b2 := Nat.le_trans K1.1 (Nat.le_of_eq g2.symm)
  have g_b2 : n0 ≤ b2 := Nat.le_trans Z0 sz_b2
  have K2 : Keep h0 h2 [] := K1.ext E2
  have Fx_2 := Fx_1.ext E2
  have Fy_2 := Fy_1.ext E2
  have Fz_2 := Fz_1.ext E2
  have VO_2 := VO0.ext E2
  have VI0_0 : Arv Z h2 b2 k2 .double (3 : Int32) [(.double 0), (.double 0), (.double 0)] (.double 0) := (Arv.new A2 (by decide)).pad (pad_rep [] (.double 0) 3)
  obtain ⟨cl0_0, Ar0_0, q0_0, S0_0, M0_0, H0_0, G0_0⟩ := VI0_0
  have in0_0 : ¬ ((0 : Int32) < 0 ∨ cl0_0.slots.size ≤ (0 : Int32).toNatClampNeg) := inb_of S0_0 ⟨by decide, by decide⟩
  obtain ⟨T3, h3, X3, e3, W3, st3⟩ := stD X2 hx hZ e2 Ar0_0 (j := (0 : Int32)) in0_0 (g := (mkF m 12 #[.val (.ref a)] [(.double FP.dconst0), (.int (0 : Int32)), (.ref b2), (.ref b2), (.int (0 : Int32)), (.ref b1), (.ref b1)])) rfl rfl (hb hby d_prog_10_method_9_code_12)
  have K3 : Keep h0 h3 [] := K2.wr W3 (Or.inr sz_b2)
  have NF3 := Fr.snoc X3 N0 g_b2
  have Fx_3 := Fx_2.other W3 (Or.inl ne_a_b2)
  have Fy_3 := Fy_2.other W3 (Or.inl ne_a_b2)
  have Fz_3 := Fz_2.other W3 (Or.inl ne_a_b2)
  have VO_3 := VO_2.other W3 ne_b1_b2
  have XI0_3 := Ex2.wr W3
  have VI0_w0 : Arv Z h3 b2 k2 .double (3 : Int32) [(.double FP.dconst0), (.double 0), (.double 0)] (.double 0) := Arv.set Ar0_0 q0_0 S0_0 M0_0 H0_0 G0_0 rfl W3 0 rfl (Nat.le_of_ble_eq_true rfl)
  obtain ⟨T4, X4, e4, st4⟩ := getF X3 hx hZ hown (host := "") (Or.inl (hw _ (List.mem_of_getElem? (i := 34) rfl))) Via.refl e3 Fz_3 (g := (mkF m 16 #[.val (.ref a)] [(.ref a), (.int (1 : Int32)), (.ref b2), (.ref b2), (.int (0 : Int32)), (.ref b1), (.ref b1)])) rfl rfl (hb hby d_prog_10_method_9_code_16)
  obtain ⟨cl0_1, Ar0_1, q0_1, S0_1, M0_1, H0_1, G0_1⟩ := VI0_w0
  have in0_1 : ¬ ((1 : Int32) < 0 ∨ cl0_1.slots.size ≤ (1 : Int32).toNatClampNeg) := inb_of S0_1 ⟨by decide, by decide⟩
  obtain ⟨T5, h5, X5, e5, W5, st5⟩ := stD X4 hx hZ e4 Ar0_1 (j := (1 : Int32)) in0_1 (g := (mkF m 22 #[.val (.ref a)] [(.double (FP.dadd (FP.dneg z) FP.dconst0)), (.int (1 : Int32)), (.ref b2), (.ref b2), (.int (0 : Int32)), (.ref b1), (.ref b1)])) rfl rfl (hb hby d_prog_10_method_9_code_22)
  have K5 : Keep h0 h5 [] := K3.wr W5 (Or.inr sz_b2)
  have NF5 := Fr.snoc X5 NF3 g_b2
  have Fx_5 := Fx_3.other W5 (Or.inl ne_a_b2)
  have Fy_5 := Fy_3.other W5 (Or.inl ne_a_b2)
  have Fz_5 := Fz_3.other W5 (Or.inl ne_a_b2)
  have VO_5 := VO_3.other W5 ne_b1_b2
  have XI0_5 := XI0_3.wr W5
  have VI0_w1 : Arv Z h5 b2 k2 .double (3 : Int32) [(.double FP.dconst0), (.double (ngE z)), (.double 0)] (.double 0) := Arv.set Ar0_1 q0_1 S0_1 M0_1 H0_1 G0_1 rfl W5 1 rfl (Nat.le_of_ble_eq_true rfl)
  obtain ⟨T6, X6, e6, st6⟩ := getF X5 hx hZ hown (host := "") (Or.inl (hw _ (List.mem_of_getElem? (i := 32) rfl))) Via.refl e5 Fy_5 (g := (mkF m 26 #[.val (.ref a)] [(.ref a), (.int (2 : Int32)), (.ref b2), (.ref b2), (.int (0 : Int32)), (.ref b1), (.ref b1)])) rfl rfl (hb hby d_prog_10_method_9_code_26)
  obtain ⟨cl0_2, Ar0_2, q0_2, S0_2, M0_2, H0_2, G0_2⟩ := VI0_w1
  have in0_2 : ¬ ((2 : Int32) < 0 ∨ cl0_2.slots.size ≤ (2 : Int32).toNatClampNeg) := inb_of S0_2 ⟨by decide, by decide⟩
  obtain ⟨T7, h7, X7, e7, W7, st7⟩ := stD X6 hx hZ e6 Ar0_2 (j := (2 : Int32)) in0_2 (g := (mkF m 29 #[.val (.ref a)] [(.double y), (.int (2 : Int32)), (.ref b2), (.ref b2), (.int (0 : Int32)), (.ref b1), (.ref b1)])) rfl rfl (hb hby d_prog_10_method_9_code_29)
  have K7 : Keep h0 h7 [] := K5.wr W7 (Or.inr sz_b2)
  have NF7 := Fr.snoc X7 NF5 g_b2
  have Fx_7 := Fx_5.other W7 (Or.inl ne_a_b2)
  have Fy_7 := Fy_5.other W7 (Or.inl ne_a_b2)
  have Fz_7 := Fz_5.other W7 (Or.inl ne_a_b2)
  have VO_7 := VO_5.other W7 ne_b1_b2
  have XI0_7 := XI0_5.wr W7
  have VI0_w2 : Arv Z h7 b2 k2 .double (3 : Int32) [(.double FP.dconst0), (.double (ngE z)), (.double y)] (.double 0) := Arv.set Ar0_2 q0_2 S0_2 M0_2 H0_2 G0_2 rfl W7 2 rfl (Nat.le_of_ble_eq_true rfl)
  obtain ⟨clo0, Aro0, qo0, So0, Mo0, Ho0, Go0⟩ := VO_7
  have ino0 : ¬ ((0 : Int32) < 0 ∨ clo0.slots.size ≤ (0 : Int32).toNatClampNeg) := inb_of So0 ⟨by decide, by decide⟩
  obtain ⟨T8, h8, X8, e8, W8, st8⟩ := stR X7 hx hZ e7 Aro0 (j := (0 : Int32)) ino0 rfl (Sto.ofVA Aro0 qo0 O1 (Ins.self XI0_7)) (g := (mkF m 30 #[.val (.ref a)] [(.ref b2), (.int (0 : Int32)), (.ref b1), (.ref b1)])) rfl rfl (hb hby d_prog_10_method_9_code_30)
  have K8 : Keep h0 h8 [] := K7.wr W8 (Or.inr sz_b1)
  have NF8 := Fr.snoc X8 NF7 g_b1
  have Fx_8 := Fx_7.other W8 (Or.inl ne_a_b1)
  have Fy_8 := Fy_7.other W8 (Or.inl ne_a_b1)
  have Fz_8 := Fz_7.other W8 (Or.inl ne_a_b1)
  have VI0_8 := VI0_w2.other W8 (Ne.symm ne_b1_b2)
  have XI0_8 := XI0_7.wr W8
  have VO_w0 : Arv Z h8 b1 k1 (.array .double) (3 : Int32) [(.ref b2), .null, .null] .null := Arv.set Aro0 qo0 So0 Mo0 Ho0 Go0 rfl W8 0 rfl (Nat.le_of_ble_eq_true rfl)
  obtain ⟨T9, h9, k9, X9, e9, E9, A9, Ex9, st9⟩ := newPE X8 hx hZ (a0 := a0) (hw _ (List.mem_of_getElem? (i := 43) rfl)) e8 (g := (mkF m 34 #[.val (.ref a)] [(.int (3 : Int32)), (.int (1 : Int32)), (.ref b1), (.ref b1)])) rfl (hb hby d_prog_10_method_9_code_34) rfl (by decide) (cap := 3) (by decide) (by decide) (by decide) (by decide) (ad := "[D") own_s3
  obtain ⟨b9, g9⟩ : ∃ z, z = h8.size := ⟨_, rfl⟩
  rw [← g9] at A9 Ex9 st9
  have ne_a_b9 : a ≠ b9 := Nat.ne_of_lt (Nat.lt_of_lt_of_le Fx_8.lt (Nat.le_of_eq g9.symm))
  have ne_b1_b9 : b1 ≠ b9 := Nat.ne_of_lt (Nat.lt_of_lt_of_le VO_w0.lt (Nat.le_of_eq g9.symm))
  have ne_b2_b9 : b2 ≠ b9 := Nat.ne_of_lt (Nat.lt_of_lt_of_le VI0_8.lt (Nat.le_of_eq g9.symm))
  have sz_b9 : h0.size ≤ b9 := Nat.le_trans K8.1 (Nat.le_of_eq g9.symm)
  have g_b9 : n0 ≤ b9 := Nat.le_trans Z0 sz_b9
  have K9 : Keep h0 h9 [] := K8.ext E9
  have Fx_9 := Fx_8.ext E9
  have Fy_9 := Fy_8.ext E9
  have Fz_9 := Fz_8.ext E9
  have VO_9 := VO_w0.ext E9
  have VI0_9 := VI0_8.ext E9
  have XI0_9 := XI0_8.ext E9
  have VI1_0 : Arv Z h9 b9 k9 .double (3 : Int32) [(.double 0), (.double 0), (.double 0)] (.double 0) := (Arv.new A9 (by decide)).pad (pad_rep [] (.double 0) 3)
  obtain ⟨T10, X10, e10, st10⟩ := getF X9 hx hZ hown (host := "") (Or.inl (hw _ (List.mem_of_getElem? (i := 34) rfl))) Via.refl e9 Fz_9 (g := (mkF m 39 #[.val (.ref a)] [(.ref a), (.int (0 : Int32)), (.ref b9), (.ref b9), (.int (1 : Int32)), (.ref b1), (.ref b1)])) rfl rfl (hb hby d_prog_10_method_9_code_39)
  obtain ⟨cl1_0, Ar1_0, q1_0, S1_0, M1_0, H1_0, G1_0⟩ := VI1_0
  have in1_0 : ¬ ((0 : Int32) < 0 ∨ cl1_0.slots.size ≤ (0 : Int32).toNatClampNeg) := inb_of S1_0 ⟨by decide, by decide⟩
  obtain ⟨T11, h11, X11, e11, W11, st11⟩ := stD X10 hx hZ e10 Ar1_0 (j := (0 : Int32)) in1_0 (g := (mkF m 42 #[.val (.ref a)] [(.double z), (.int (0 : Int32)), (.ref b9), (.ref b9), (.int (1 : Int32)), (.ref b1), (.ref b1)])) rfl rfl (hb hby d_prog_10_method_9_code_42)
  have K11 : Keep h0 h11 [] := K9.wr W11 (Or.inr sz_b9)
  have NF11 := Fr.snoc X11 NF8 g_b9
  have Fx_11 := Fx_9.other W11 (Or.inl ne_a_b9)
  have Fy_11 := Fy_9.other W11 (Or.inl ne_a_b9)
  have Fz_11 := Fz_9.other W11 (Or.inl ne_a_b9)
  have VO_11 := VO_9.other W11 ne_b1_b9
  have VI0_11 := VI0_9.other W11 ne_b2_b9
  have XI0_11 := XI0_9.wr W11
  have XI1_11 := Ex9.wr W11
  have VI1_w0 : Arv Z h11 b9 k9 .double (3 : Int32) [(.double z), (.double 0), (.double 0)] (.double 0) := Arv.set Ar1_0 q1_0 S1_0 M1_0 H1_0 G1_0 rfl W11 0 rfl (Nat.le_of_ble_eq_true rfl)
  obtain ⟨cl1_1, Ar1_1, q1_1, S1_1, M1_1, H1_1, G1_1⟩ := VI1_w0
  have in1_1 : ¬ ((1 : Int32) < 0 ∨ cl1_1.slots.size ≤ (1 : Int32).toNatClampNeg) := inb_of S1_1 ⟨by decide, by decide⟩
  obtain ⟨T12, h12, X12, e12, W12, st12⟩ := stD X11 hx hZ e11 Ar1_1 (j := (1 : Int32)) in1_1 (g := (mkF m 46 #[.val (.ref a)] [(.double FP.dconst0), (.int (1 : Int32)), (.ref b9), (.ref b9), (.int (1 : Int32)), (.ref b1), (.ref b1)])) rfl rfl (hb hby d_prog_10_method_9_code_46)
  have K12 : Keep h0 h12 [] := K11.wr W12 (Or.inr sz_b9)
  have NF12 := Fr.snoc X12 NF11 g_b9
  have Fx_12 := Fx_11.other W12 (Or.inl ne_a_b9)
  have Fy_12 := Fy_11.other W12 (Or.inl ne_a_b9)
  have Fz_12 := Fz_11.other W12 (Or.inl ne_a_b9)
  have VO_12 := VO_11.other W12 ne_b1_b9
  have VI0_12 := VI0_11.other W12 ne_b2_b9
  have XI0_12 := XI0_11.wr W12
  have XI1_12 := XI1_11.wr W12
  have VI1_w1 : Arv Z h12 b9 k9 .double (3 : Int32) [(.double z), (.double FP.dconst0), (.double 0)] (.double 0) := Arv.set Ar1_1 q1_1 S1_1 M1_1 H1_1 G1_1 rfl W12 1 rfl (Nat.le_of_ble_eq_true rfl)
  obtain ⟨T13, X13, e13, st13⟩ := getF X12 hx hZ hown (host := "") (Or.inl (hw _ (List.mem_of_getElem? (i := 30) rfl))) Via.refl e12 Fx_12 (g := (mkF m 50 #[.val (.ref a)] [(.ref a), (.int (2 : Int32)), (.ref b9), (.ref b9), (.int (1 : Int32)), (.ref b1), (.ref b1)])) rfl rfl (hb hby d_prog_10_method_9_code_50)
  obtain ⟨cl1_2, Ar1_2, q1_2, S1_2, M1_2, H1_2, G1_2⟩ := VI1_w1
  have in1_2 : ¬ ((2 : Int32) < 0 ∨ cl1_2.slots.size ≤ (2 : Int32).toNatClampNeg) := inb_of S1_2 ⟨by decide, by decide⟩
  obtain ⟨T14, h14, X14, e14, W14, st14⟩ := stD X13 hx hZ e13 Ar1_2 (j := (2 : Int32)) in1_2 (g := (mkF m 56 #[.val (.ref a)] [(.double (FP.dadd (FP.dneg x) FP.dconst0)), (.int (2 : Int32)), (.ref b9), (.ref b9), (.int (1 : Int32)), (.ref b1), (.ref b1)])) rfl rfl (hb hby d_prog_10_method_9_code_56)
  have K14 : Keep h0 h14 [] := K12.wr W14 (Or.inr sz_b9)
  have NF14 := Fr.snoc X14 NF12 g_b9
  have Fx_14 := Fx_12.other W14 (Or.inl ne_a_b9)
  have Fy_14 := Fy_12.other W14 (Or.inl ne_a_b9)
  have Fz_14 := Fz_12.other W14 (Or.inl ne_a_b9)
  have VO_14 := VO_12.other W14 ne_b1_b9
  have VI0_14 := VI0_12.other W14 ne_b2_b9
  have XI0_14 := XI0_12.wr W14
  have XI1_14 := XI1_12.wr W14
  have VI1_w2 : Arv Z h14 b9 k9 .double (3 : Int32) [(.double z), (.double FP.dconst0), (.double (ngE x))] (.double 0) := Arv.set Ar1_2 q1_2 S1_2 M1_2 H1_2 G1_2 rfl W14 2 rfl (Nat.le_of_ble_eq_true rfl)
  obtain ⟨clo1, Aro1, qo1, So1, Mo1, Ho1, Go1⟩ := VO_14
  have ino1 : ¬ ((1 : Int32) < 0 ∨ clo1.slots.size ≤ (1 : Int32).toNatClampNeg) := inb_of So1 ⟨by decide, by decide⟩
  obtain ⟨T15, h15, X15, e15, W15, st15⟩ := stR X14 hx hZ e14 Aro1 (j := (1 : Int32)) ino1 rfl (Sto.ofVA Aro1 qo1 O1 (Ins.self XI1_14)) (g := (mkF m 57 #[.val (.ref a)] [(.ref b9), (.int (1 : Int32)), (.ref b1), (.ref b1)])) rfl rfl (hb hby d_prog_10_method_9_code_57)
  have K15 : Keep h0 h15 [] := K14.wr W15 (Or.inr sz_b1)
  have NF15 := Fr.snoc X15 NF14 g_b1
  have Fx_15 := Fx_14.other W15 (Or.inl ne_a_b1)
  have Fy_15 := Fy_14.other W15 (Or.inl ne_a_b1)
  have Fz_15 := Fz_14.other W15 (Or.inl ne_a_b1)
  have VI0_15 := VI0_14.other W15 (Ne.symm ne_b1_b2)
  have XI0_15 := XI0_14.wr W15
  have VI1_15 := VI1_w2.other W15 (Ne.symm ne_b1_b9)
  have XI1_15 := XI1_14.wr W15
  have VO_w1 : Arv Z h15 b1 k1 (.array .double) (3 : Int32) [(.ref b2), (.ref b9), .null] .null := Arv.set Aro1 qo1 So1 Mo1 Ho1 Go1 rfl W15 1 rfl (Nat.le_of_ble_eq_true rfl)
  obtain ⟨T16, h16, k16, X16, e16, E16, A16, Ex16, st16⟩ := newPE X15 hx hZ (a0 := a0) (hw _ (List.mem_of_getElem? (i := 43) rfl)) e15 (g := (mkF m 61 #[.val (.ref a)] [(.int (3 : Int32)), (.int (2 : Int32)), (.ref b1), (.ref b1)])) rfl (hb hby d_prog_10_method_9_code_61) rfl (by decide) (cap := 3) (by decide) (by decide) (by decide) (by decide) (ad := "[D") own_s3
  obtain ⟨b16, g16⟩ : ∃ z, z = h15.size := ⟨_, rfl⟩
  rw [← g16] at A16 Ex16 st16
  have ne_a_b16 : a ≠ b16 := Nat.ne_of_lt (Nat.lt_of_lt_of_le Fx_15.lt (Nat.le_of_eq g16.symm))
  have ne_b1_b16 : b1 ≠ b16 := Nat.ne_of_lt (Nat.lt_of_lt_of_le VO_w1.lt (Nat.le_of_eq g16.symm))
  have ne_b2_b16 : b2 ≠ b16 := Nat.ne_of_lt (Nat.lt_of_lt_of_le VI0_15.lt (Nat.le_of_eq g16.symm))
  have ne_b9_b16 : b9 ≠ b16 := Nat.ne_of_lt (Nat.lt_of_lt_of_le VI1_15.lt (Nat.le_of_eq g16.symm))
  have sz_b16 : h0.size ≤ b16 := Nat.le_trans K15.1 (Nat.le_of_eq g16.symm)
  have g_b16 : n0 ≤ b16 := Nat.le_trans Z0 sz_b16
  have K16 : Keep h0 h16 [] := K15.ext E16
  have Fx_16 := Fx_15.ext E16
  have Fy_16 := Fy_15.ext E16
  have Fz_16 := Fz_15.ext E16
  have VO_16 := VO_w1.ext E16
  have VI0_16 := VI0_15.ext E16
  have XI0_16 := XI0_15.ext E16
  have VI1_16 := VI1_15.ext E16
  have XI1_16 := XI1_15.ext E16
  have VI2_0 : Arv Z h16 b16 k16 .double (3 : Int32) [(.double 0), (.double 0), (.double 0)] (.double 0) := (Arv.new A16 (by decide)).pad (pad_rep [] (.double 0) 3)
  obtain ⟨T17, X17, e17, st17⟩ := getF X16 hx hZ hown (host := "") (Or.inl (hw _ (List.mem_of_getElem? (i := 32) rfl))) Via.refl e16 Fy_16 (g := (mkF m 66 #[.val (.ref a)] [(.ref a), (.int (0 : Int32)), (.ref b16), (.ref b16), (.int (2 : Int32)), (.ref b1), (.ref b1)])) rfl rfl (hb hby d_prog_10_method_9_code_66)
  obtain ⟨cl2_0, Ar2_0, q2_0, S2_0, M2_0, H2_0, G2_0⟩ := VI2_0
  have in2_0 : ¬ ((0 : Int32) < 0 ∨ cl2_0.slots.size ≤ (0 : Int32).toNatClampNeg) := inb_of S2_0 ⟨by decide, by decide⟩
  obtain ⟨T18, h18, X18, e18, W18, st18⟩ := stD X17 hx hZ e17 Ar2_0 (j := (0 : Int32)) in2_0 (g := (mkF m 72 #[.val (.ref a)] [(.double (FP.dadd (FP.dneg y) FP.dconst0)), (.int (0 : Int32)), (.ref b16), (.ref b16), (.int (2 : Int32)), (.ref b1), (.ref b1)])) rfl rfl (hb hby d_prog_10_method_9_code_72)
  have K18 : Keep h0 h18 [] := K16.wr W18 (Or.inr sz_b16)
  have NF18 := Fr.snoc X18 NF15 g_b16
  have Fx_18 := Fx_16.other W18 (Or.inl ne_a_b16)
  have Fy_18 := Fy_16.other W18 (Or.inl ne_a_b16)
  have Fz_18 := Fz_16.other W18 (Or.inl ne_a_b16)
  have VO_18 := VO_16.other W18 ne_b1_b16
  have VI0_18 := VI0_16.other W18 ne_b2_b16
  have XI0_18 := XI0_16.wr W18
  have VI1_18 := VI1_16.other W18 ne_b9_b16
  have XI1_18 := XI1_16.wr W18
  have XI2_18 := Ex16.wr W18
  have VI2_w0 : Arv Z h18 b16 k16 .double (3 : Int32) [(.double (ngE y)), (.double 0), (.double 0)] (.double 0) := Arv.set Ar2_0 q2_0 S2_0 M2_0 H2_0 G2_0 rfl W18 0 rfl (Nat.le_of_ble_eq_true rfl)
  obtain ⟨T19, X19, e19, st19⟩ := getF X18 hx hZ hown (host := "") (Or.inl (hw _ (List.mem_of_getElem? (i := 30) rfl))) Via.refl e18 Fx_18 (g := (mkF m 76 #[.val (.ref a)] [(.ref a), (.int (1 : Int32)), (.ref b16), (.ref b16), (.int (2 : Int32)), (.ref b1), (.ref b1)])) rfl rfl (hb hby d_prog_10_method_9_code_76)
  obtain ⟨cl2_1, Ar2_1, q2_1, S2_1, M2_1, H2_1, G2_1⟩ := VI2_w0
  have in2_1 : ¬ ((1 : Int32) < 0 ∨ cl2_1.slots.size ≤ (1 : Int32).toNatClampNeg) := inb_of S2_1 ⟨by decide, by decide⟩
  obtain ⟨T20, h20, X20, e20, W20, st20⟩ := stD X19 hx hZ e19 Ar2_1 (j := (1 : Int32)) in2_1 (g := (mkF m 79 #[.val (.ref a)] [(.double x), (.int (1 : Int32)), (.ref b16), (.ref b16), (.int (2 : Int32)), (.ref b1), (.ref b1)])) rfl rfl (hb hby d_prog_10_method_9_code_79)
  have K20 : Keep h0 h20 [] := K18.wr W20 (Or.inr sz_b16)
  have NF20 := Fr.snoc X20 NF18 g_b16
  have Fx_20 := Fx_18.other W20 (Or.inl ne_a_b16)
  have Fy_20 := Fy_18.other W20 (Or.inl ne_a_b16)
  have Fz_20 := Fz_18.other W20 (Or.inl ne_a_b16)
  have VO_20 := VO_18.other W20 ne_b1_b16
  have VI0_20 := VI0_18.other W20 ne_b2_b16
  have XI0_20 := XI0_18.wr W20
  have VI1_20 := VI1_18.other W20 ne_b9_b16
  have XI1_20 := XI1_18.wr W20
  have XI2_20 := XI2_18.wr W20
  have VI2_w1 : Arv Z h20 b16 k16 .double (3 : Int32) [(.double (ngE y)), (.double x), (.double 0)] (.double 0) := Arv.set Ar2_1 q2_1 S2_1 M2_1 H2_1 G2_1 rfl W20 1 rfl (Nat.le_of_ble_eq_true rfl)
  obtain ⟨cl2_2, Ar2_2, q2_2, S2_2, M2_2, H2_2, G2_2⟩ := VI2_w1
  have in2_2 : ¬ ((2 : Int32) < 0 ∨ cl2_2.slots.size ≤ (2 : Int32).toNatClampNeg) := inb_of S2_2 ⟨by decide, by decide⟩
  obtain ⟨T21, h21, X21, e21, W21, st21⟩ := stD X20 hx hZ e20 Ar2_2 (j := (2 : Int32)) in2_2 (g := (mkF m 83 #[.val (.ref a)] [(.double FP.dconst0), (.int (2 : Int32)), (.ref b16), (.ref b16), (.int (2 : Int32)), (.ref b1), (.ref b1)])) rfl rfl (hb hby d_prog_10_method_9_code_83)
  have K21 : Keep h0 h21 [] := K20.wr W21 (Or.inr sz_b16)
  have NF21 := Fr.snoc X21 NF20 g_b16
  have Fx_21 := Fx_20.other W21 (Or.inl ne_a_b16)
  have Fy_21 := Fy_20.other W21 (Or.inl ne_a_b16)
  have Fz_21 := Fz_20.other W21 (Or.inl ne_a_b16)
  have VO_21 := VO_20.other W21 ne_b1_b16
  have VI0_21 := VI0_20.other W21 ne_b2_b16
  have XI0_21 := XI0_20.wr W21
  have VI1_21 := VI1_20.other W21 ne_b9_b16
  have XI1_21 := XI1_20.wr W21
  have XI2_21 := XI2_20.wr W21
  have VI2_w2 : Arv Z h21 b16 k16 .double (3 : Int32) [(.double (ngE y)), (.double x), (.double FP.dconst0)] (.double 0) := Arv.set Ar2_2 q2_2 S2_2 M2_2 H2_2 G2_2 rfl W21 2 rfl (Nat.le_of_ble_eq_true rfl)
  obtain ⟨clo2, Aro2, qo2, So2, Mo2, Ho2, Go2⟩ := VO_21
  have ino2 : ¬ ((2 : Int32) < 0 ∨ clo2.slots.size ≤ (2 : Int32).toNatClampNeg) := inb_of So2 ⟨by decide, by decide⟩
  obtain ⟨T22, h22, X22, e22, W22, st22⟩ := stR X21 hx hZ e21 Aro2 (j := (2 : Int32)) ino2 rfl (Sto.ofVA Aro2 qo2 O1 (Ins.self XI2_21)) (g := (mkF m 84 #[.val (.ref a)] [(.ref b16), (.int (2 : Int32)), (.ref b1), (.ref b1)])) rfl rfl (hb hby d_prog_10_method_9_code_84)
  have K22 : Keep h0 h22 [] := K21.wr W22 (Or.inr sz_b1)
  have NF22 := Fr.snoc X22 NF21 g_b1
  have Fx_22 := Fx_21.other W22 (Or.inl ne_a_b1)
  have Fy_22 := Fy_21.other W22 (Or.inl ne_a_b1)
  have Fz_22 := Fz_21.other W22 (Or.inl ne_a_b1)
  have VI0_22 := VI0_21.other W22 (Ne.symm ne_b1_b2)
  have XI0_22 := XI0_21.wr W22
  have VI1_22 := VI1_21.other W22 (Ne.symm ne_b1_b9)
  have XI1_22 := XI1_21.wr W22
  have VI2_22 := VI2_w2.other W22 (Ne.symm ne_b1_b16)
  have XI2_22 := XI2_21.wr W22
  have VO_w2 : Arv Z h22 b1 k1 (.array .double) (3 : Int32) [(.ref b2), (.ref b9), (.ref b16)] .null := Arv.set Aro2 qo2 So2 Mo2 Ho2 Go2 rfl W22 2 rfl (Nat.le_of_ble_eq_true rfl)
  obtain ⟨fs, hr, hrun, hended, hW, hsame⟩ := X22.leave (v := some (.ref b1)) (fun h => by rw [Bd.returns] at h; cases h)
  refine ⟨_, _, pre0 _ ?_, hrun, hended, _, _, rfl, ?_, ⟨_, rfl⟩, hW, hsame.mono (by decide) (by decide)⟩
  · show Steps p.tables e below (s₁.setTop (mkF m 0 #[.val (.ref a)] [])) _
    refine XS.iconst X0.here hx rfl (hb hby d_prog_10_method_9_code_0) ?_
    show Steps p.tables e below (s₁.setTop (mkF m 1 #[.val (.ref a)] [(.int (3 : Int32))])) _
    refine st1 _ ?_
    show Steps p.tables e below (T1.setTop (mkF m 4 #[.val (.ref a)] [(.ref b1)])) _
    refine XS.dup X1.here hx rfl (hb hby d_prog_10_method_9_code_4) rfl rfl ?_
    show Steps p.tables e below (T1.setTop (mkF m 5 #[.val (.ref a)] [(.ref b1), (.ref b1)])) _
    refine XS.iconst X1.here hx rfl (hb hby d_prog_10_method_9_code_5) ?_
    show Steps p.tables e below (T1.setTop (mkF m 6 #[.val (.ref a)] [(.int (0 : Int32)), (.ref b1), (.ref b1)])) _
    refine XS.iconst X1.here hx rfl (hb hby d_prog_10_method_9_code_6) ?_
    show Steps p.tables e below (T1.setTop (mkF m 7 #[.val (.ref a)] [(.int (3 : Int32)), (.int (0 : Int32)), (.ref b1), (.ref b1)])) _
    refine st2 _ ?_
    show Steps p.tables e below (T2.setTop (mkF m 9 #[.val (.ref a)] [(.ref b2), (.int (0 : Int32)), (.ref b1), (.ref b1)])) _
    refine XS.dup X2.here hx rfl (hb hby d_prog_10_method_9_code_9) rfl rfl ?_
    show Steps p.tables e below (T2.setTop (mkF m 10 #[.val (.ref a)] [(.ref b2), (.ref b2), (.int (0 : Int32)), (.ref b1), (.ref b1)])) _
    refine XS.iconst X2.here hx rfl (hb hby d_prog_10_method_9_code_10) ?_
    show Steps p.tables e below (T2.setTop (mkF m 11 #[.val (.ref a)] [(.int (0 : Int32)), (.ref b2), (.ref b2), (.int (0 : Int32)), (.ref b1), (.ref b1)])) _
    refine XS.dconst0 X2.here hx rfl (v := FP.dconst0) (hb hby d_prog_10_method_9_code_11) rfl ?_
    show Steps p.tables e below (T2.setTop (mkF m 12 #[.val (.ref a)] [(.double FP.dconst0), (.int (0 : Int32)), (.ref b2), (.ref b2), (.int (0 : Int32)), (.ref b1), (.ref b1)])) _
    refine st3 _ ?_
    show Steps p.tables e below (T3.setTop (mkF m 13 #[.val (.ref a)] [(.ref b2), (.int (0 : Int32)), (.ref b1), (.ref b1)])) _
    refine XS.dup X3.here hx rfl (hb hby d_prog_10_method_9_code_13) rfl rfl ?_
    show Steps p.tables e below (T3.setTop (mkF m 14 #[.val (.ref a)] [(.ref b2), (.ref b2), (.int (0 : Int32)), (.ref b1), (.ref b1)])) _
    refine XS.iconst X3.here hx rfl (hb hby d_prog_10_method_9_code_14) ?_
    show Steps p.tables e below (T3.setTop (mkF m 15 #[.val (.ref a)] [(.int (1 : Int32)), (.ref b2), (.ref b2), (.int (0 : Int32)), (.ref b1), (.ref b1)])) _
    refine XS.aloadN X3.here hx rfl (hb hby d_prog_10_method_9_code_15) rfl rfl ?_
    show Steps p.tables e below (T3.setTop (mkF m 16 #[.val (.ref a)] [(.ref a), (.int (1 : Int32)), (.ref b2), (.ref b2), (.int (0 : Int32)), (.ref b1), (.ref b1)])) _
    refine st4 _ ?_
    show Steps p.tables e below (T4.setTop (mkF m 19 #[.val (.ref a)] [(.double z), (.int (1 : Int32)), (.ref b2), (.ref b2), (.int (0 : Int32)), (.ref b1), (.ref b1)])) _
    refine XS.dnegS X4.here hx rfl (hb hby d_prog_10_method_9_code_19) rfl (v := (FP.dneg z)) rfl ?_
    show Steps p.tables e below (T4.setTop (mkF m 20 #[.val (.ref a)] [(.double (FP.dneg z)), (.int (1 : Int32)), (.ref b2), (.ref b2), (.int (0 : Int32)), (.ref b1), (.ref b1)])) _
    refine XS.dconst0 X4.here hx rfl (v := FP.dconst0) (hb hby d_prog_10_method_9_code_20) rfl ?_
    show Steps p.tables e below (T4.setTop (mkF m 21 #[.val (.ref a)] [(.double FP.dconst0), (.double (FP.dneg z)), (.int (1 : Int32)), (.ref b2), (.ref b2), (.int (0 : Int32)), (.ref b1), (.ref b1)])) _
    refine XS.daddS X4.here hx rfl (hb hby d_prog_10_method_9_code_21) rfl nz (v := (FP.dadd (FP.dneg z) FP.dconst0)) rfl ?_
    show Steps p.tables e below (T4.setTop (mkF m 22 #[.val (.ref a)] [(.double (FP.dadd (FP.dneg z) FP.dconst0)), (.int (1 : Int32)), (.ref b2), (.ref b2), (.int (0 : Int32)), (.ref b1), (.ref b1)])) _
    refine st5 _ ?_
    show Steps p.tables e below (T5.setTop (mkF m 23 #[.val (.ref a)] [(.ref b2), (.int (0 : Int32)), (.ref b1), (.ref b1)])) _
    refine XS.dup X5.here hx rfl (hb hby d_prog_10_method_9_code_23) rfl rfl ?_
    show Steps p.tables e below (T5.setTop (mkF m 24 #[.val (.ref a)] [(.ref b2), (.ref b2), (.int (0 : Int32)), (.ref b1), (.ref b1)])) _
    refine XS.iconst X5.here hx rfl (hb hby d_prog_10_method_9_code_24) ?_
    show Steps p.tables e below (T5.setTop (mkF m 25 #[.val (.ref a)] [(.int (2 : Int32)), (.ref b2), (.ref b2), (.int (0 : Int32)), (.ref b1), (.ref b1)])) _
    refine XS.aloadN X5.here hx rfl (hb hby d_prog_10_method_9_code_25) rfl rfl ?_
    show Steps p.tables e below (T5.setTop (mkF m 26 #[.val (.ref a)] [(.ref a), (.int (2 : Int32)), (.ref b2), (.ref b2), (.int (0 : Int32)), (.ref b1), (.ref b1)])) _
    refine st6 _ ?_
    show Steps p.tables e below (T6.setTop (mkF m 29 #[.val (.ref a)] [(.double y), (.int (2 : Int32)), (.ref b2), (.ref b2), (.int (0 : Int32)), (.ref b1), (.ref b1)])) _
    refine st7 _ ?_
    show Steps p.tables e below (T7.setTop (mkF m 30 #[.val (.ref a)] [(.ref b2), (.int (0 : Int32)), (.ref b1), (.ref b1)])) _
    refine st8 _ ?_
    show Steps p.tables e below (T8.setTop (mkF m 31 #[.val (.ref a)] [(.ref b1)])) _
    refine XS.dup X8.here hx rfl (hb hby d_prog_10_method_9_code_31) rfl rfl ?_
    show Steps p.tables e below (T8.setTop (mkF m 32 #[.val (.ref a)] [(.ref b1), (.ref b1)])) _
    refine XS.iconst X8.here hx rfl (hb hby d_prog_10_method_9_code_32) ?_
    show Steps p.tables e below (T8.setTop (mkF m 33 #[.val (.ref a)] [(.int (1 : Int32)), (.ref b1), (.ref b1)])) _
    refine XS.iconst X8.here hx rfl (hb hby d_prog_10_method_9_code_33) ?_
    show Steps p.tables e below (T8.setTop (mkF m 34 #[.val (.ref a)] [(.int (3 : Int32)), (.int (1 : Int32)), (.ref b1), (.ref b1)])) _
    refine st9 _ ?_
    show Steps p.tables e below (T9.setTop (mkF m 36 #[.val (.ref a)] [(.ref b9), (.int (1 : Int32)), (.ref b1), (.ref b1)])) _
    refine XS.dup X9.here hx rfl (hb hby d_prog_10_method_9_code_36) rfl rfl ?_
    show Steps p.tables e below (T9.setTop (mkF m 37 #[.val (.ref a)] [(.ref b9), (.ref b9), (.int (1 : Int32)), (.ref b1), (.ref b1)])) _
    refine XS.iconst X9.here hx rfl (hb hby d_prog_10_method_9_code_37) ?_
    show Steps p.tables e below (T9.setTop (mkF m 38 #[.val (.ref a)] [(.int (0 : Int32)), (.ref b9), (.ref b9), (.int (1 : Int32)), (.ref b1), (.ref b1)])) _
    refine XS.aloadN X9.here hx rfl (hb hby d_prog_10_method_9_code_38) rfl rfl ?_
    show Steps p.tables e below (T9.setTop (mkF m 39 #[.val (.ref a)] [(.ref a), (.int (0 : Int32)), (.ref b9), (.ref b9), (.int (1 : Int32)), (.ref b1), (.ref b1)])) _
    refine st10 _ ?_
    show Steps p.tables e below (T10.setTop (mkF m 42 #[.val (.ref a)] [(.double z), (.int (0 : Int32)), (.ref b9), (.ref b9), (.int (1 : Int32)), (.ref b1), (.ref b1)])) _
    refine st11 _ ?_
    show Steps p.tables e below (T11.setTop (mkF m 43 #[.val (.ref a)] [(.ref b9), (.int (1 : Int32)), (.ref b1), (.ref b1)])) _
    refine XS.dup X11.here hx rfl (hb hby d_prog_10_method_9_code_43) rfl rfl ?_
    show Steps p.tables e below (T11.setTop (mkF m 44 #[.val (.ref a)] [(.ref b9), (.ref b9), (.int (1 : Int32)), (.ref b1), (.ref b1)])) _
    refine XS.iconst X11.here hx rfl (hb hby d_prog_10_method_9_code_44) ?_
    show Steps p.tables e below (T11.setTop (mkF m 45 #[.val (.ref a)] [(.int (1 : Int32)), (.ref b9), (.ref b9), (.int (1 : Int32)), (.ref b1), (.ref b1)])) _
    refine XS.dconst0 X11.here hx rfl (v := FP.dconst0) (hb hby d_prog_10_method_9_code_45) rfl ?_
    show Steps p.tables e below (T11.setTop (mkF m 46 #[.val (.ref a)] [(.double FP.dconst0), (.int (1 : Int32)), (.ref b9), (.ref b9), (.int (1 : Int32)), (.ref b1), (.ref b1)])) _
    refine st12 _ ?_
    show Steps p.tables e below (T12.setTop (mkF m 47 #[.val (.ref a)] [(.ref b9), (.int (1 : Int32)), (.ref b1), (.ref b1)])) _
    refine XS.dup X12.here hx rfl (hb hby d_prog_10_method_9_code_47) rfl rfl ?_
    show Steps p.tables e below (T12.setTop (mkF m 48 #[.val (.ref a)] [(.ref b9), (.ref b9), (.int (1 : Int32)), (.ref b1), (.ref b1)])) _
    refine XS.iconst X12.here hx rfl (hb hby d_prog_10_method_9_code_48) ?_
    show Steps p.tables e below (T12.setTop (mkF m 49 #[.val (.ref a)] [(.int (2 : Int32)), (.ref b9), (.ref b9), (.int (1 : Int32)), (.ref b1), (.ref b1)])) _
    refine XS.aloadN X12.here hx rfl (hb hby d_prog_10_method_9_code_49) rfl rfl ?_
    show Steps p.tables e below (T12.setTop (mkF m 50 #[.val (.ref a)] [(.ref a), (.int (2 : Int32)), (.ref b9), (.ref b9), (.int (1 : Int32)), (.ref b1), (.ref b1)])) _
    refine st13 _ ?_
    show Steps p.tables e below (T13.setTop (mkF m 53 #[.val (.ref a)] [(.double x), (.int (2 : Int32)), (.ref b9), (.ref b9), (.int (1 : Int32)), (.ref b1), (.ref b1)])) _
    refine XS.dnegS X13.here hx rfl (hb hby d_prog_10_method_9_code_53) rfl (v := (FP.dneg x)) rfl ?_
    show Steps p.tables e below (T13.setTop (mkF m 54 #[.val (.ref a)] [(.double (FP.dneg x)), (.int (2 : Int32)), (.ref b9), (.ref b9), (.int (1 : Int32)), (.ref b1), (.ref b1)])) _
    refine XS.dconst0 X13.here hx rfl (v := FP.dconst0) (hb hby d_prog_10_method_9_code_54) rfl ?_
    show Steps p.tables e below (T13.setTop (mkF m 55 #[.val (.ref a)] [(.double FP.dconst0), (.double (FP.dneg x)), (.int (2 : Int32)), (.ref b9), (.ref b9), (.int (1 : Int32)), (.ref b1), (.ref b1)])) _
    refine XS.daddS X13.here hx rfl (hb hby d_prog_10_method_9_code_55) rfl nx (v := (FP.dadd (FP.dneg x) FP.dconst0)) rfl ?_
    show Steps p.tables e below (T13.setTop (mkF m 56 #[.val (.ref a)] [(.double (FP.dadd (FP.dneg x) FP.dconst0)), (.int (2 : Int32)), (.ref b9), (.ref b9), (.int (1 : Int32)), (.ref b1), (.ref b1)])) _
    refine st14 _ ?_
    show Steps p.tables e below (T14.setTop (mkF m 57 #[.val (.ref a)] [(.ref b9), (.int (1 : Int32)), (.ref b1), (.ref b1)])) _
    refine st15 _ ?_
    show Steps p.tables e below (T15.setTop (mkF m 58 #[.val (.ref a)] [(.ref b1)])) _
    refine XS.dup X15.here hx rfl (hb hby d_prog_10_method_9_code_58) rfl rfl ?_
    show Steps p.tables e below (T15.setTop (mkF m 59 #[.val (.ref a)] [(.ref b1), (.ref b1)])) _
    refine XS.iconst X15.here hx rfl (hb hby d_prog_10_method_9_code_59) ?_
    show Steps p.tables e below (T15.setTop (mkF m 60 #[.val (.ref a)] [(.int (2 : Int32)), (.ref b1), (.ref b1)])) _
    refine XS.iconst X15.here hx rfl (hb hby d_prog_10_method_9_code_60) ?_
    show Steps p.tables e below (T15.setTop (mkF m 61 #[.val (.ref a)] [(.int (3 : Int32)), (.int (2 : Int32)), (.ref b1), (.ref b1)])) _
    refine st16 _ ?_
    show Steps p.tables e below (T16.setTop (mkF m 63 #[.val (.ref a)] [(.ref b16), (.int (2 : Int32)), (.ref b1), (.ref b1)])) _
    refine XS.dup X16.here hx rfl (hb hby d_prog_10_method_9_code_63) rfl rfl ?_
    show Steps p.tables e below (T16.setTop (mkF m 64 #[.val (.ref a)] [(.ref b16), (.ref b16), (.int (2 : Int32)), (.ref b1), (.ref b1)])) _
    refine XS.iconst X16.here hx rfl (hb hby d_prog_10_method_9_code_64) ?_
    show Steps p.tables e below (T16.setTop (mkF m 65 #[.val (.ref a)] [(.int (0 : Int32)), (.ref b16), (.ref b16), (.int (2 : Int32)), (.ref b1), (.ref b1)])) _
    refine XS.aloadN X16.here hx rfl (hb hby d_prog_10_method_9_code_65) rfl rfl ?_
    show Steps p.tables e below (T16.setTop (mkF m 66 #[.val (.ref a)] [(.ref a), (.int (0 : Int32)), (.ref b16), (.ref b16), (.int (2 : Int32)), (.ref b1), (.ref b1)])) _
    refine st17 _ ?_
    show Steps p.tables e below (T17.setTop (mkF m 69 #[.val (.ref a)] [(.double y), (.int (0 : Int32)), (.ref b16), (.ref b16), (.int (2 : Int32)), (.ref b1), (.ref b1)])) _
    refine XS.dnegS X17.here hx rfl (hb hby d_prog_10_method_9_code_69) rfl (v := (FP.dneg y)) rfl ?_
    show Steps p.tables e below (T17.setTop (mkF m 70 #[.val (.ref a)] [(.double (FP.dneg y)), (.int (0 : Int32)), (.ref b16), (.ref b16), (.int (2 : Int32)), (.ref b1), (.ref b1)])) _
    refine XS.dconst0 X17.here hx rfl (v := FP.dconst0) (hb hby d_prog_10_method_9_code_70) rfl ?_
    show Steps p.tables e below (T17.setTop (mkF m 71 #[.val (.ref a)] [(.double FP.dconst0), (.double (FP.dneg y)), (.int (0 : Int32)), (.ref b16), (.ref b16), (.int (2 : Int32)), (.ref b1), (.ref b1)])) _
    refine XS.daddS X17.here hx rfl (hb hby d_prog_10_method_9_code_71) rfl ny (v := (FP.dadd (FP.dneg y) FP.dconst0)) rfl ?_
    show Steps p.tables e below (T17.setTop (mkF m 72 #[.val (.ref a)] [(.double (FP.dadd (FP.dneg y) FP.dconst0)), (.int (0 : Int32)), (.ref b16), (.ref b16), (.int (2 : Int32)), (.ref b1), (.ref b1)])) _
    refine st18 _ ?_
    show Steps p.tables e below (T18.setTop (mkF m 73 #[.val (.ref a)] [(.ref b16), (.int (2 : Int32)), (.ref b1), (.ref b1)])) _
    refine XS.dup X18.here hx rfl (hb hby d_prog_10_method_9_code_73) rfl rfl ?_
    show Steps p.tables e below (T18.setTop (mkF m 74 #[.val (.ref a)] [(.ref b16), (.ref b16), (.int (2 : Int32)), (.ref b1), (.ref b1)])) _
    refine XS.iconst X18.here hx rfl (hb hby d_prog_10_method_9_code_74) ?_
    show Steps p.tables e below (T18.setTop (mkF m 75 #[.val (.ref a)] [(.int (1 : Int32)), (.ref b16), (.ref b16), (.int (2 : Int32)), (.ref b1), (.ref b1)])) _
    refine XS.aloadN X18.here hx rfl (hb hby d_prog_10_method_9_code_75) rfl rfl ?_
    show Steps p.tables e below (T18.setTop (mkF m 76 #[.val (.ref a)] [(.ref a), (.int (1 : Int32)), (.ref b16), (.ref b16), (.int (2 : Int32)), (.ref b1), (.ref b1)])) _
    refine st19 _ ?_
    show Steps p.tables e below (T19.setTop (mkF m 79 #[.val (.ref a)] [(.double x), (.int (1 : Int32)), (.ref b16), (.ref b16), (.int (2 : Int32)), (.ref b1), (.ref b1)])) _
    refine st20 _ ?_
    show Steps p.tables e below (T20.setTop (mkF m 80 #[.val (.ref a)] [(.ref b16), (.int (2 : Int32)), (.ref b1), (.ref b1)])) _
    refine XS.dup X20.here hx rfl (hb hby d_prog_10_method_9_code_80) rfl rfl ?_
    show Steps p.tables e below (T20.setTop (mkF m 81 #[.val (.ref a)] [(.ref b16), (.ref b16), (.int (2 : Int32)), (.ref b1), (.ref b1)])) _
    refine XS.iconst X20.here hx rfl (hb hby d_prog_10_method_9_code_81) ?_
    show Steps p.tables e below (T20.setTop (mkF m 82 #[.val (.ref a)] [(.int (2 : Int32)), (.ref b16), (.ref b16), (.int (2 : Int32)), (.ref b1), (.ref b1)])) _
    refine XS.dconst0 X20.here hx rfl (v := FP.dconst0) (hb hby d_prog_10_method_9_code_82) rfl ?_
    show Steps p.tables e below (T20.setTop (mkF m 83 #[.val (.ref a)] [(.double FP.dconst0), (.int (2 : Int32)), (.ref b16), (.ref b16), (.int (2 : Int32)), (.ref b1), (.ref b1)])) _
    refine st21 _ ?_
    show Steps p.tables e below (T21.setTop (mkF m 84 #[.val (.ref a)] [(.ref b16), (.int (2 : Int32)), (.ref b1), (.ref b1)])) _
    refine st22 _ ?_
    show Steps p.tables e below (T22.setTop (mkF m 85 #[.val (.ref a)] [(.ref b1)])) _
    jvm_step X22.here [X22.here.top, hx, (hb hby d_prog_10_method_9_code_85), X22.method', Bd.returns, Value.isRef, FieldType.isReference]
    first | (intro acts; rw [hr _ acts rfl rfl rfl]) | rw [hr _ _ rfl rfl rfl]
    exact Steps.refl _
  · show QH Z x y z n0 h0 _ T22.heap _
    rw [e22]
    exact ⟨b1, b2, b9, b16, k1, k2, k9, k16, rfl, NF22, K22, sz_b1, VO_w2, VI0_22, VI1_22, VI2_22⟩
theorem ef_code (m : MethodId) (x0 : Int64) (x1 : Int64) (x2 : Int64) (x3 : Int32) : entryFrame m #[(.long x0), (.long x1), (.long x2), (.int x3)] maxLocals = mkF m 0 #[.val (.long x0), .second, .val (.long x1), .second, .val (.long x2), .second, .val (.int x3), .unset, .unset, .unset, .unset, .unset, .unset, .unset, .unset, .unset] [] := by first | (simp [entryFrame, mkF, argsToLocals, Value.category, maxLocals]; done) | rfl
set_option maxRecDepth 65536 in
set_option maxHeartbeats 40000000 in
theorem rm0 (l : Launch) (Z : State) (a0 : Array Value) (hw : ∀ d ∈ tables_1, d.before a0 Z = true) (ws : List Jvm.Cond) (u0 u1 u2 : Int64) (u3 : Int32) (h0 : Heap) (n0 : Nat) (Z0 : n0 ≤ h0.size) :
    MetFree l x (head1 (Jvm.Cond.code x code maxLocals ret :: ws) room_1) (fun aa U => aa = #[(.long u0), (.long u1), (.long u2), (.int u3)] ∧ Z.Warmed39 U.vm ∧ U.heap = h0) (fun _ _ _ _ _ => True) (fun _ U o U' => ∃ v L, o = .returned v ∧ Q0 n0 v U'.heap L ∧ FrameEnd U o U' L 32 128) := by
  refine MetFree.of_bodySF (plainFor_of_name pn_code) hisR ?_
  intro p e s m args below meth c s₁ Bd hml0 hP hK
  obtain ⟨rfl, hZ, hh⟩ := hP
  have hx := Bd.exec
  have hby := Bd.bytes
  have hml : c.maxLocals = 16 := hml0
  have hown : s.vm.findClass "com/example/gyrokin/gyrokin/Vector3HatPinLaw" = some m.cls := findClass_of_methodNamed Bd.named
  have hnm := (name_of_methodNamed Bd.named Bd.method).1
  have X0 : Stand p l e room_1 s m #[(.long u0), (.long u1), (.long u2), (.int u3)] below meth c s₁ [] 0 0 := Stand.of_body Bd
  have e0 : s₁.heap = h0 := by rw [← hh, Bd.state]; rfl
  have N0 := Fr.nil n0
  have pre0 : ∀ t, Steps p.tables e below (s₁.setTop (mkF m 0 #[.val (.long u0), .second, .val (.long u1), .second, .val (.long u2), .second, .val (.int u3), .unset, .unset, .unset, .unset, .unset, .unset, .unset, .unset, .unset] [])) t → Steps p.tables e below (s₁.setTop (entryFrame m #[(.long u0), (.long u1), (.long u2), (.int u3)] maxLocals)) t := fun t k => castTop (ef_code m u0 u1 u2 u3) k
  obtain ⟨_, _, ⟨T1, L1, k1, n1⟩, -, X1, ⟨Lc1, hQ1, l1, y1, z1⟩, st1⟩ := Jvm.LawKit.callS X0 hx (y := (⟨"com/example/gyrokin/gyrokin/Vector3HatPinLaw", "comp", "(JI)D"⟩ : MethodName)) hown (mvT hZ (hw _ (List.mem_of_getElem? (i := 0) rfl))) (mvT hZ (hw _ (List.mem_of_getElem? (i := 1) rfl))) (mvT hZ (hw _ (List.mem_of_getElem? (i := 2) rfl))) (mvT hZ (hw _ (List.mem_of_getElem? (i := 3) rfl))) (by decide) (backOf (W := 0) (rmK l Z a0 hw [] u0 (u3 &&& (1 : Int32)) h0 n0 Z0) hZ (hw _ (List.mem_of_getElem? (i := 3) rfl)) (hw _ (List.mem_of_getElem? (i := 2) rfl)) (by decide) (by decide)) (g := (mkF m 5 #[.val (.long u0), .second, .val (.long u1), .second, .val (.long u2), .second, .val (.int u3), .unset, .unset, .unset, .unset, .unset, .unset, .unset, .unset, .unset] [(.int (u3 &&& (1 : Int32))), (.long u0)])) rfl (by rw [hml]; rfl) (argsL := [(.long u0), (.int (u3 &&& (1 : Int32)))]) (rest := []) (lenOf pd__JI_D rfl) rfl (by show 2 * 0 + _ ≤ _; exact Nat.le_of_eq rfl) (hb hby at_5) (fun _ _ => ⟨rfl, e0, (by decide : 0 + 0 ≤ _), (by decide : 0 + 0 ≤ _)⟩)
  dsimp only [Pt.U, Pt.locs, Pt.cells, Pt.slots] at X1 l1 y1 z1 st1 hQ1
  subst l1 y1 z1
  obtain ⟨rfl, N1q, K1⟩ := hQ1
  have NF0 := Fr.app N0 N1q
  obtain ⟨_, _, ⟨T2, L2, k2, n2⟩, -, X2, ⟨Lc2, hQ2, l2, y2, z2⟩, st2⟩ := Jvm.LawKit.callS X1 hx (y := (⟨"com/example/gyrokin/gyrokin/Vector3HatPinLaw", "comp", "(JI)D"⟩ : MethodName)) hown (mvT hZ (hw _ (List.mem_of_getElem? (i := 0) rfl))) (mvT hZ (hw _ (List.mem_of_getElem? (i := 1) rfl))) (mvT hZ (hw _ (List.mem_of_getElem? (i := 2) rfl))) (mvT hZ (hw _ (List.mem_of_getElem? (i := 3) rfl))) (by decide) (backOf (W := 0) (rmK l Z a0 hw [] u1 (u3 &&& (2 : Int32)) h0 n0 Z0) hZ (hw _ (List.mem_of_getElem? (i := 3) rfl)) (hw _ (List.mem_of_getElem? (i := 2) rfl)) (by decide) (by decide)) (g := (mkF m 15 #[.val (.long u0), .second, .val (.long u1), .second, .val (.long u2), .second, .val (.int u3), .val (.double (compE u0 (u3 &&& (1 : Int32)))), .second, .unset, .unset, .unset, .unset, .unset, .unset, .unset] [(.int (u3 &&& (2 : Int32))), (.long u1)])) rfl (by rw [hml]; rfl) (argsL := [(.long u1), (.int (u3 &&& (2 : Int32)))]) (rest := []) (lenOf pd__JI_D rfl) rfl (by show 2 * 0 + _ ≤ _; exact Nat.le_of_eq rfl) (hb hby at_15) (fun _ _ => ⟨rfl, K1, (by decide : 0 + 0 ≤ _), (by decide : 0 + 0 ≤ _)⟩)
  dsimp only [Pt.U, Pt.locs, Pt.cells, Pt.slots] at X2 l2 y2 z2 st2 hQ2
  subst l2 y2 z2
  obtain ⟨rfl, N2q, K2⟩ := hQ2
  have NF1 := Fr.app NF0 N2q
  obtain ⟨_, _, ⟨T3, L3, k3, n3⟩, -, X3, ⟨Lc3, hQ3, l3, y3, z3⟩, st3⟩ := Jvm.LawKit.callS X2 hx (y := (⟨"com/example/gyrokin/gyrokin/Vector3HatPinLaw", "comp", "(JI)D"⟩ : MethodName)) hown (mvT hZ (hw _ (List.mem_of_getElem? (i := 0) rfl))) (mvT hZ (hw _ (List.mem_of_getElem? (i := 1) rfl))) (mvT hZ (hw _ (List.mem_of_getElem? (i := 2) rfl))) (mvT hZ (hw _ (List.mem_of_getElem? (i := 3) rfl))) (by decide) (backOf (W := 0) (rmK l Z a0 hw [] u2 (u3 &&& (4 : Int32)) h0 n0 Z0) hZ (hw _ (List.mem_of_getElem? (i := 3) rfl)) (hw _ (List.mem_of_getElem? (i := 2) rfl)) (by decide) (by decide)) (g := (mkF m 26 #[.val (.long u0), .second, .val (.long u1), .second, .val (.long u2), .second, .val (.int u3), .val (.double (compE u0 (u3 &&& (1 : Int32)))), .second, .val (.double (compE u1 (u3 &&& (2 : Int32)))), .second, .unset, .unset, .unset, .unset, .unset] [(.int (u3 &&& (4 : Int32))), (.long u2)])) rfl (by rw [hml]; rfl) (argsL := [(.long u2), (.int (u3 &&& (4 : Int32)))]) (rest := []) (lenOf pd__JI_D rfl) rfl (by show 2 * 0 + _ ≤ _; exact Nat.le_of_eq rfl) (hb hby at_26) (fun _ _ => ⟨rfl, K2, (by decide : 0 + 0 ≤ _), (by decide : 0 + 0 ≤ _)⟩)
  dsimp only [Pt.U, Pt.locs, Pt.cells, Pt.slots] at X3 l3 y3 z3 st3 hQ3
  subst l3 y3 z3
  obtain ⟨rfl, N3q, K3⟩ := hQ3
  have NF2 := Fr.app NF1 N3q
  obtain ⟨T4, h4, X4, e4, E4, A4, D4, -, st4⟩ := newO X3 hx hZ hown (hw _ (List.mem_of_getElem? (i := 4) rfl)) (hw _ (List.mem_of_getElem? (i := 5) rfl)) (hw _ (List.mem_of_getElem? (i := 6) rfl)) K3 (g := (mkF m 31 #[.val (.long u0), .second, .val (.long u1), .second, .val (.long u2), .second, .val (.int u3), .val (.double (compE u0 (u3 &&& (1 : Int32)))), .second, .val (.double (compE u1 (u3 &&& (2 : Int32)))), .second, .val (.double (compE u2 (u3 &&& (4 : Int32)))), .second, .unset, .unset, .unset] [])) rfl (hb hby at_31) (by decide) (by decide)
  obtain ⟨b4, g4⟩ : ∃ z, z = h0.size := ⟨_, rfl⟩
  rw [← g4] at A4 D4 st4
  have Gx4 : Fld Z h4 b4 "com/example/gyrokin/gyrokin/Vector3" "x" "D" (.double 0) := D4 (Or.inr (hw _ (List.mem_of_getElem? (i := 31) rfl))) (ty := .double) (by decide)
  have Gy4 : Fld Z h4 b4 "com/example/gyrokin/gyrokin/Vector3" "y" "D" (.double 0) := D4 (Or.inr (hw _ (List.mem_of_getElem? (i := 33) rfl))) (ty := .double) (by decide)
  have Gz4 : Fld Z h4 b4 "com/example/gyrokin/gyrokin/Vector3" "z" "D" (.double 0) := D4 (Or.inr (hw _ (List.mem_of_getElem? (i := 35) rfl))) (ty := .double) (by decide)
  have Zv : n0 ≤ h4.size := Nat.le_trans Z0 E4.1
  have ga : n0 ≤ b4 := Nat.le_trans Z0 (Nat.le_of_eq g4.symm)
  obtain ⟨_, _, ⟨T5, L5, k5, n5⟩, -, X5, ⟨Lc5, hQ5, l5, y5, z5⟩, st5⟩ := X4.specialBack hx (y := (⟨"com/example/gyrokin/gyrokin/Vector3", "<init>", "(DDD)V"⟩ : MethodName)) rfl hown (mvT hZ (hw _ (List.mem_of_getElem? (i := 7) rfl))) (mvT hZ (hw _ (List.mem_of_getElem? (i := 8) rfl))) (mvT hZ (hw _ (List.mem_of_getElem? (i := 9) rfl))) (by decide) (backOf (W := 1) (rmV l Z a0 hw [] b4 (compE u0 (u3 &&& (1 : Int32))) (compE u1 (u3 &&& (2 : Int32))) (compE u2 (u3 &&& (4 : Int32))) h4 n0 Zv Gx4 Gy4 Gz4 A4 ga ((own_mag2 (comp_mag u0 (u3 &&& (1 : Int32))) (comp_mag u1 (u3 &&& (2 : Int32)))).fin (by decide)).noNaN ((own_mag3 (comp_mag u0 (u3 &&& (1 : Int32))) (comp_mag u1 (u3 &&& (2 : Int32))) (comp_mag u2 (u3 &&& (4 : Int32)))).fin (by decide)).noNaN ((own_mag3 (comp_mag u0 (u3 &&& (1 : Int32))) (comp_mag u1 (u3 &&& (2 : Int32))) (comp_mag u2 (u3 &&& (4 : Int32)))).fin (by decide))) hZ (hw _ (List.mem_of_getElem? (i := 9) rfl)) (hw _ (List.mem_of_getElem? (i := 6) rfl)) (by decide) (by decide)) (g := (mkF m 41 #[.val (.long u0), .second, .val (.long u1), .second, .val (.long u2), .second, .val (.int u3), .val (.double (compE u0 (u3 &&& (1 : Int32)))), .second, .val (.double (compE u1 (u3 &&& (2 : Int32)))), .second, .val (.double (compE u2 (u3 &&& (4 : Int32)))), .second, .unset, .unset, .unset] [(.double (compE u2 (u3 &&& (4 : Int32)))), (.double (compE u1 (u3 &&& (2 : Int32)))), (.double (compE u0 (u3 &&& (1 : Int32)))), (.ref b4), (.ref b4)])) rfl (by rw [hml]; rfl) (Steps.refl _) (a := b4) (argsL := [(.double (compE u0 (u3 &&& (1 : Int32)))), (.double (compE u1 (u3 &&& (2 : Int32)))), (.double (compE u2 (u3 &&& (4 : Int32))))]) (rest := [(.ref b4)]) (lenOf pd__DDD_V rfl) rfl (by show 2 * 0 + _ ≤ _; exact Nat.le_of_eq rfl) (hb hby at_41) (fun _ _ => ⟨rfl, e4, (by decide : 1 + 0 ≤ _), (by decide : 3 + 0 ≤ _)⟩)
  dsimp only [Pt.U, Pt.locs, Pt.cells, Pt.slots] at X5 l5 y5 z5 st5 hQ5
  subst l5 y5 z5
  obtain ⟨rfl, N5q, K5, Ex5, Px5, Py5, Pz5⟩ := hQ5
  have NV := Fr.app NF2 N5q
  have Zc : n0 ≤ T5.heap.size := Nat.le_trans Zv K5.1
  obtain ⟨cq6, kq6, q6a, q6b, q6c⟩ := isOf hZ rfl Ex5
  obtain ⟨_, _, ⟨T6, L6, k6, n6⟩, -, X6, ⟨Lc6, hQ6, l6, y6, z6⟩, st6⟩ := X5.virtualBack hx (y := (⟨"com/example/gyrokin/gyrokin/Vector3", "hat", "()[[D"⟩ : MethodName)) (z := (⟨"com/example/gyrokin/gyrokin/Vector3", "hat", "()[[D"⟩ : MethodName)) hown (mvT hZ (hw _ (List.mem_of_getElem? (i := 36) rfl))) (mvT hZ (hw _ (List.mem_of_getElem? (i := 37) rfl))) (notFace_of_selects (args := #[]) (mvT hZ (hw _ (List.mem_of_getElem? (i := 39) rfl)))) (mvT hZ (hw _ (List.mem_of_getElem? (i := 39) rfl))) (mvT hZ (hw _ (List.mem_of_getElem? (i := 38) rfl))) (by decide) (backOf (W := 0) (rmH l Z a0 hw [] b4 (compE u0 (u3 &&& (1 : Int32))) (compE u1 (u3 &&& (2 : Int32))) (compE u2 (u3 &&& (4 : Int32))) T5.heap n0 Zc Px5 Py5 Pz5 (own_ng (comp_mag u2 (u3 &&& (4 : Int32)))) (own_ng (comp_mag u0 (u3 &&& (1 : Int32)))) (own_ng (comp_mag u1 (u3 &&& (2 : Int32))))) hZ (hw _ (List.mem_of_getElem? (i := 40) rfl)) (hw _ (List.mem_of_getElem? (i := 6) rfl)) (by decide) (by decide)) q6a q6c (g := (mkF m 48 #[.val (.long u0), .second, .val (.long u1), .second, .val (.long u2), .second, .val (.int u3), .val (.double (compE u0 (u3 &&& (1 : Int32)))), .second, .val (.double (compE u1 (u3 &&& (2 : Int32)))), .second, .val (.double (compE u2 (u3 &&& (4 : Int32)))), .second, .val (.ref b4), .unset, .unset] [(.ref b4)])) rfl (by rw [hml]; rfl) (Steps.refl _) (argsL := []) (rest := []) (lenOf pd_____D rfl) rfl (by show 2 * 0 + _ ≤ _; exact Nat.le_of_eq rfl) (hb hby at_48) (fun _ _ => ⟨rfl, rfl, (by decide : 1 + 4 ≤ _), (by decide : 3 + 12 ≤ _)⟩)
  dsimp only [Pt.U, Pt.locs, Pt.cells, Pt.slots] at X6 l6 y6 z6 st6 hQ6
  subst l6 y6 z6
  obtain ⟨o0, r00, r01, r02, kk00, kk01, kk02, kk03, rfl, N6q, K6, sz0, VO0, R00, R01, R02⟩ := hQ6
  have NH0 := Fr.app NV N6q
  have ZH0 : n0 ≤ T6.heap.size := Nat.le_trans Zc K6.1
  have Px0 := Px5.keep K6 nin0
  have Py0 := Py5.keep K6 nin0
  have Pz0 := Pz5.keep K6 nin0
  have EX0 := Ex5.keep K6
  obtain ⟨cq7, kq7, q7a, q7b, q7c⟩ := isOf hZ rfl EX0
  obtain ⟨_, _, ⟨T7, L7, k7, n7⟩, -, X7, ⟨Lc7, hQ7, l7, y7, z7⟩, st7⟩ := X6.virtualBack hx (y := (⟨"com/example/gyrokin/gyrokin/Vector3", "hat", "()[[D"⟩ : MethodName)) (z := (⟨"com/example/gyrokin/gyrokin/Vector3", "hat", "()[[D"⟩ : MethodName)) hown (mvT hZ (hw _ (List.mem_of_getElem? (i := 36) rfl))) (mvT hZ (hw _ (List.mem_of_getElem? (i := 37) rfl))) (notFace_of_selects (args := #[]) (mvT hZ (hw _ (List.mem_of_getElem? (i := 39) rfl)))) (mvT hZ (hw _ (List.mem_of_getElem? (i := 39) rfl))) (mvT hZ (hw _ (List.mem_of_getElem? (i := 38) rfl))) (by decide) (backOf (W := 0) (rmH l Z a0 hw [] b4 (compE u0 (u3 &&& (1 : Int32))) (compE u1 (u3 &&& (2 : Int32))) (compE u2 (u3 &&& (4 : Int32))) T6.heap n0 ZH0 Px0 Py0 Pz0 (own_ng (comp_mag u2 (u3 &&& (4 : Int32)))) (own_ng (comp_mag u0 (u3 &&& (1 : Int32)))) (own_ng (comp_mag u1 (u3 &&& (2 : Int32))))) hZ (hw _ (List.mem_of_getElem? (i := 40) rfl)) (hw _ (List.mem_of_getElem? (i := 6) rfl)) (by decide) (by decide)) q7a q7c (g := (mkF m 55 #[.val (.long u0), .second, .val (.long u1), .second, .val (.long u2), .second, .val (.int u3), .val (.double (compE u0 (u3 &&& (1 : Int32)))), .second, .val (.double (compE u1 (u3 &&& (2 : Int32)))), .second, .val (.double (compE u2 (u3 &&& (4 : Int32)))), .second, .val (.ref b4), .val (.ref o0), .unset] [(.ref b4)])) rfl (by rw [hml]; rfl) (Steps.refl _) (argsL := []) (rest := []) (lenOf pd_____D rfl) rfl (by show 2 * 0 + _ ≤ _; exact Nat.le_of_eq rfl) (hb hby at_55) (fun _ _ => ⟨rfl, rfl, (by decide : 5 + 4 ≤ _), (by decide : 15 + 12 ≤ _)⟩)
  dsimp only [Pt.U, Pt.locs, Pt.cells, Pt.slots] at X7 l7 y7 z7 st7 hQ7
  subst l7 y7 z7
  obtain ⟨o1, r10, r11, r12, kk10, kk11, kk12, kk13, rfl, N7q, K7, sz1, VO1, R10, R11, R12⟩ := hQ7
  have NH1 := Fr.app NH0 N7q
  have ZH1 : n0 ≤ T7.heap.size := Nat.le_trans ZH0 K7.1
  have Px1 := Px0.keep K7 nin0
  have Py1 := Py0.keep K7 nin0
  have Pz1 := Pz0.keep K7 nin0
  have EX1 := EX0.keep K7
  have neO : o0 ≠ o1 := Nat.ne_of_lt (Nat.lt_of_lt_of_le VO0.lt sz1)
  obtain ⟨cO, ArO, qO, SO, MO, HO, GO⟩ := VO0.keep K7 nin0
  obtain ⟨c0, Ar0, q0, S0, M0, H0, G0⟩ := R00.keep K7 nin0
  obtain ⟨c1, Ar1, q1, S1, M1, H1, G1⟩ := R01.keep K7 nin0
  obtain ⟨c2, Ar2, q2, S2, M2, H2, G2⟩ := R02.keep K7 nin0
  have inO0 : ¬ ((0 : Int32) < 0 ∨ cO.slots.size ≤ (0 : Int32).toNatClampNeg) := inb_of SO ⟨by decide, by decide⟩
  have inO1 : ¬ ((1 : Int32) < 0 ∨ cO.slots.size ≤ (1 : Int32).toNatClampNeg) := inb_of SO ⟨by decide, by decide⟩
  have inO2 : ¬ ((2 : Int32) < 0 ∨ cO.slots.size ≤ (2 : Int32).toNatClampNeg) := inb_of SO ⟨by decide, by decide⟩
  have in00 : ¬ ((0 : Int32) < 0 ∨ c0.slots.size ≤ (0 : Int32).toNatClampNeg) := inb_of S0 ⟨by decide, by decide⟩
  have in01 : ¬ ((1 : Int32) < 0 ∨ c0.slots.size ≤ (1 : Int32).toNatClampNeg) := inb_of S0 ⟨by decide, by decide⟩
  have in02 : ¬ ((2 : Int32) < 0 ∨ c0.slots.size ≤ (2 : Int32).toNatClampNeg) := inb_of S0 ⟨by decide, by decide⟩
  have in10 : ¬ ((0 : Int32) < 0 ∨ c1.slots.size ≤ (0 : Int32).toNatClampNeg) := inb_of S1 ⟨by decide, by decide⟩
  have in11 : ¬ ((1 : Int32) < 0 ∨ c1.slots.size ≤ (1 : Int32).toNatClampNeg) := inb_of S1 ⟨by decide, by decide⟩
  have in12 : ¬ ((2 : Int32) < 0 ∨ c1.slots.size ≤ (2 : Int32).toNatClampNeg) := inb_of S1 ⟨by decide, by decide⟩
  have in20 : ¬ ((0 : Int32) < 0 ∨ c2.slots.size ≤ (0 : Int32).toNatClampNeg) := inb_of S2 ⟨by decide, by decide⟩
  have in21 : ¬ ((1 : Int32) < 0 ∨ c2.slots.size ≤ (1 : Int32).toNatClampNeg) := inb_of S2 ⟨by decide, by decide⟩
  have in22 : ¬ ((2 : Int32) < 0 ∨ c2.slots.size ≤ (2 : Int32).toNatClampNeg) := inb_of S2 ⟨by decide, by decide⟩
  obtain ⟨_, _, ⟨T8, L8, k8, n8⟩, -, X8, ⟨Lc8, hQ8, l8, y8, z8⟩, st8⟩ := Jvm.LawKit.callS X7 hx (y := (⟨"com/example/gyrokin/gyrokin/Vector3HatPinLaw", "plusZero", "(D)Z"⟩ : MethodName)) hown (mvT hZ (hw _ (List.mem_of_getElem? (i := 45) rfl))) (mvT hZ (hw _ (List.mem_of_getElem? (i := 46) rfl))) (mvT hZ (hw _ (List.mem_of_getElem? (i := 2) rfl))) (mvT hZ (hw _ (List.mem_of_getElem? (i := 47) rfl))) (by decide) (backOf (W := 0) (rmZ l Z a0 hw [] T7.heap n0 ZH1) hZ (hw _ (List.mem_of_getElem? (i := 47) rfl)) (hw _ (List.mem_of_getElem? (i := 2) rfl)) (by decide) (by decide)) (g := (mkF m 146 #[.val (.long u0), .second, .val (.long u1), .second, .val (.long u2), .second, .val (.int u3), .val (.double (compE u0 (u3 &&& (1 : Int32)))), .second, .val (.double (compE u1 (u3 &&& (2 : Int32)))), .second, .val (.double (compE u2 (u3 &&& (4 : Int32)))), .second, .val (.ref b4), .val (.ref o0), .val (.ref o1)] [(.double FP.dconst0)])) rfl (by rw [hml]; rfl) (argsL := [(.double FP.dconst0)]) (rest := []) (lenOf pd__D_Z rfl) rfl (by show 2 * 0 + _ ≤ _; exact Nat.le_of_eq rfl) (hb hby at_146) (fun _ _ => ⟨rfl, rfl, (by decide : 9 + 0 ≤ _), (by decide : 27 + 0 ≤ _)⟩)
  dsimp only [Pt.U, Pt.locs, Pt.cells, Pt.slots] at X8 l8 y8 z8 st8 hQ8
  subst l8 y8 z8
  obtain ⟨rfl, N8q, K8⟩ := hQ8
  have NC0 := Fr.app NH1 N8q
  obtain ⟨_, _, ⟨T9, L9, k9, n9⟩, -, X9, ⟨Lc9, hQ9, l9, y9, z9⟩, st9⟩ := Jvm.LawKit.callS X8 hx (y := (⟨"com/example/gyrokin/gyrokin/Vector3HatPinLaw", "negated", "(DD)Z"⟩ : MethodName)) hown (mvT hZ (hw _ (List.mem_of_getElem? (i := 48) rfl))) (mvT hZ (hw _ (List.mem_of_getElem? (i := 49) rfl))) (mvT hZ (hw _ (List.mem_of_getElem? (i := 2) rfl))) (mvT hZ (hw _ (List.mem_of_getElem? (i := 50) rfl))) (by decide) (backOf (W := 0) (rmG l Z a0 hw [] (compE u2 (u3 &&& (4 : Int32))) T7.heap n0 ZH1 (comp_nn u2 (u3 &&& (4 : Int32))) (own_ng (comp_mag u2 (u3 &&& (4 : Int32))))) hZ (hw _ (List.mem_of_getElem? (i := 50) rfl)) (hw _ (List.mem_of_getElem? (i := 2) rfl)) (by decide) (by decide)) (g := (mkF m 160 #[.val (.long u0), .second, .val (.long u1), .second, .val (.long u2), .second, .val (.int u3), .val (.double (compE u0 (u3 &&& (1 : Int32)))), .second, .val (.double (compE u1 (u3 &&& (2 : Int32)))), .second, .val (.double (compE u2 (u3 &&& (4 : Int32)))), .second, .val (.ref b4), .val (.ref o0), .val (.ref o1)] [(.double (compE u2 (u3 &&& (4 : Int32)))), (.double (ngE (compE u2 (u3 &&& (4 : Int32)))))])) rfl (by rw [hml]; rfl) (argsL := [(.double (ngE (compE u2 (u3 &&& (4 : Int32))))), (.double (compE u2 (u3 &&& (4 : Int32))))]) (rest := []) (lenOf pd__DD_Z rfl) rfl (by show 2 * 0 + _ ≤ _; exact Nat.le_of_eq rfl) (hb hby at_160) (fun _ _ => ⟨rfl, K8, (by decide : 9 + 0 ≤ _), (by decide : 27 + 0 ≤ _)⟩)
  dsimp only [Pt.U, Pt.locs, Pt.cells, Pt.slots] at X9 l9 y9 z9 st9 hQ9
  subst l9 y9 z9
  obtain ⟨rfl, N9q, K9⟩ := hQ9
  have NC1 := Fr.app NC0 N9q
  obtain ⟨_, _, ⟨T10, L10, k10, n10⟩, -, X10, ⟨Lc10, hQ10, l10, y10, z10⟩, st10⟩ := Jvm.LawKit.callS X9 hx (y := (⟨"com/example/gyrokin/gyrokin/Vector3HatPinLaw", "plusZero", "(D)Z"⟩ : MethodName)) hown (mvT hZ (hw _ (List.mem_of_getElem? (i := 45) rfl))) (mvT hZ (hw _ (List.mem_of_getElem? (i := 46) rfl))) (mvT hZ (hw _ (List.mem_of_getElem? (i := 2) rfl))) (mvT hZ (hw _ (List.mem_of_getElem? (i := 47) rfl))) (by decide) (backOf (W := 0) (rmZ l Z a0 hw [] T7.heap n0 ZH1) hZ (hw _ (List.mem_of_getElem? (i := 47) rfl)) (hw _ (List.mem_of_getElem? (i := 2) rfl)) (by decide) (by decide)) (g := (mkF m 196 #[.val (.long u0), .second, .val (.long u1), .second, .val (.long u2), .second, .val (.int u3), .val (.double (compE u0 (u3 &&& (1 : Int32)))), .second, .val (.double (compE u1 (u3 &&& (2 : Int32)))), .second, .val (.double (compE u2 (u3 &&& (4 : Int32)))), .second, .val (.ref b4), .val (.ref o0), .val (.ref o1)] [(.double FP.dconst0)])) rfl (by rw [hml]; rfl) (argsL := [(.double FP.dconst0)]) (rest := []) (lenOf pd__D_Z rfl) rfl (by show 2 * 0 + _ ≤ _; exact Nat.le_of_eq rfl) (hb hby at_196) (fun _ _ => ⟨rfl, K9, (by decide : 9 + 0 ≤ _), (by decide : 27 + 0 ≤ _)⟩)
  dsimp only [Pt.U, Pt.locs, Pt.cells, Pt.slots] at X10 l10 y10 z10 st10 hQ10
  subst l10 y10 z10
  obtain ⟨rfl, N10q, K10⟩ := hQ10
  have NC2 := Fr.app NC1 N10q
  obtain ⟨_, _, ⟨T11, L11, k11, n11⟩, -, X11, ⟨Lc11, hQ11, l11, y11, z11⟩, st11⟩ := Jvm.LawKit.callS X10 hx (y := (⟨"com/example/gyrokin/gyrokin/Vector3HatPinLaw", "negated", "(DD)Z"⟩ : MethodName)) hown (mvT hZ (hw _ (List.mem_of_getElem? (i := 48) rfl))) (mvT hZ (hw _ (List.mem_of_getElem? (i := 49) rfl))) (mvT hZ (hw _ (List.mem_of_getElem? (i := 2) rfl))) (mvT hZ (hw _ (List.mem_of_getElem? (i := 50) rfl))) (by decide) (backOf (W := 0) (rmG l Z a0 hw [] (compE u0 (u3 &&& (1 : Int32))) T7.heap n0 ZH1 (comp_nn u0 (u3 &&& (1 : Int32))) (own_ng (comp_mag u0 (u3 &&& (1 : Int32))))) hZ (hw _ (List.mem_of_getElem? (i := 50) rfl)) (hw _ (List.mem_of_getElem? (i := 2) rfl)) (by decide) (by decide)) (g := (mkF m 210 #[.val (.long u0), .second, .val (.long u1), .second, .val (.long u2), .second, .val (.int u3), .val (.double (compE u0 (u3 &&& (1 : Int32)))), .second, .val (.double (compE u1 (u3 &&& (2 : Int32)))), .second, .val (.double (compE u2 (u3 &&& (4 : Int32)))), .second, .val (.ref b4), .val (.ref o0), .val (.ref o1)] [(.double (compE u0 (u3 &&& (1 : Int32)))), (.double (ngE (compE u0 (u3 &&& (1 : Int32)))))])) rfl (by rw [hml]; rfl) (argsL := [(.double (ngE (compE u0 (u3 &&& (1 : Int32))))), (.double (compE u0 (u3 &&& (1 : Int32))))]) (rest := []) (lenOf pd__DD_Z rfl) rfl (by show 2 * 0 + _ ≤ _; exact Nat.le_of_eq rfl) (hb hby at_210) (fun _ _ => ⟨rfl, K10, (by decide : 9 + 0 ≤ _), (by decide : 27 + 0 ≤ _)⟩)
  dsimp only [Pt.U, Pt.locs, Pt.cells, Pt.slots] at X11 l11 y11 z11 st11 hQ11
  subst l11 y11 z11
  obtain ⟨rfl, N11q, K11⟩ := hQ11
  have NC3 := Fr.app NC2 N11q
  obtain ⟨_, _, ⟨T12, L12, k12, n12⟩, -, X12, ⟨Lc12, hQ12, l12, y12, z12⟩, st12⟩ := Jvm.LawKit.callS X11 hx (y := (⟨"com/example/gyrokin/gyrokin/Vector3HatPinLaw", "negated", "(DD)Z"⟩ : MethodName)) hown (mvT hZ (hw _ (List.mem_of_getElem? (i := 48) rfl))) (mvT hZ (hw _ (List.mem_of_getElem? (i := 49) rfl))) (mvT hZ (hw _ (List.mem_of_getElem? (i := 2) rfl))) (mvT hZ (hw _ (List.mem_of_getElem? (i := 50) rfl))) (by decide) (backOf (W := 0) (rmG l Z a0 hw [] (compE u1 (u3 &&& (2 : Int32))) T7.heap n0 ZH1 (comp_nn u1 (u3 &&& (2 : Int32))) (own_ng (comp_mag u1 (u3 &&& (2 : Int32))))) hZ (hw _ (List.mem_of_getElem? (i := 50) rfl)) (hw _ (List.mem_of_getElem? (i := 2) rfl)) (by decide) (by decide)) (g := (mkF m 224 #[.val (.long u0), .second, .val (.long u1), .second, .val (.long u2), .second, .val (.int u3), .val (.double (compE u0 (u3 &&& (1 : Int32)))), .second, .val (.double (compE u1 (u3 &&& (2 : Int32)))), .second, .val (.double (compE u2 (u3 &&& (4 : Int32)))), .second, .val (.ref b4), .val (.ref o0), .val (.ref o1)] [(.double (compE u1 (u3 &&& (2 : Int32)))), (.double (ngE (compE u1 (u3 &&& (2 : Int32)))))])) rfl (by rw [hml]; rfl) (argsL := [(.double (ngE (compE u1 (u3 &&& (2 : Int32))))), (.double (compE u1 (u3 &&& (2 : Int32))))]) (rest := []) (lenOf pd__DD_Z rfl) rfl (by show 2 * 0 + _ ≤ _; exact Nat.le_of_eq rfl) (hb hby at_224) (fun _ _ => ⟨rfl, K11, (by decide : 9 + 0 ≤ _), (by decide : 27 + 0 ≤ _)⟩)
  dsimp only [Pt.U, Pt.locs, Pt.cells, Pt.slots] at X12 l12 y12 z12 st12 hQ12
  subst l12 y12 z12
  obtain ⟨rfl, N12q, K12⟩ := hQ12
  have NC4 := Fr.app NC3 N12q
  obtain ⟨_, _, ⟨T13, L13, k13, n13⟩, -, X13, ⟨Lc13, hQ13, l13, y13, z13⟩, st13⟩ := Jvm.LawKit.callS X12 hx (y := (⟨"com/example/gyrokin/gyrokin/Vector3HatPinLaw", "plusZero", "(D)Z"⟩ : MethodName)) hown (mvT hZ (hw _ (List.mem_of_getElem? (i := 45) rfl))) (mvT hZ (hw _ (List.mem_of_getElem? (i := 46) rfl))) (mvT hZ (hw _ (List.mem_of_getElem? (i := 2) rfl))) (mvT hZ (hw _ (List.mem_of_getElem? (i := 47) rfl))) (by decide) (backOf (W := 0) (rmZ l Z a0 hw [] T7.heap n0 ZH1) hZ (hw _ (List.mem_of_getElem? (i := 47) rfl)) (hw _ (List.mem_of_getElem? (i := 2) rfl)) (by decide) (by decide)) (g := (mkF m 248 #[.val (.long u0), .second, .val (.long u1), .second, .val (.long u2), .second, .val (.int u3), .val (.double (compE u0 (u3 &&& (1 : Int32)))), .second, .val (.double (compE u1 (u3 &&& (2 : Int32)))), .second, .val (.double (compE u2 (u3 &&& (4 : Int32)))), .second, .val (.ref b4), .val (.ref o0), .val (.ref o1)] [(.double FP.dconst0)])) rfl (by rw [hml]; rfl) (argsL := [(.double FP.dconst0)]) (rest := []) (lenOf pd__D_Z rfl) rfl (by show 2 * 0 + _ ≤ _; exact Nat.le_of_eq rfl) (hb hby at_248) (fun _ _ => ⟨rfl, K12, (by decide : 9 + 0 ≤ _), (by decide : 27 + 0 ≤ _)⟩)
  dsimp only [Pt.U, Pt.locs, Pt.cells, Pt.slots] at X13 l13 y13 z13 st13 hQ13
  subst l13 y13 z13
  obtain ⟨rfl, N13q, K13⟩ := hQ13
  have NC5 := Fr.app NC4 N13q
  obtain ⟨fs, hr, hrun, hended, hW, hsame⟩ := X13.leave (v := some (.int (1 : Int32))) (fun h => by rw [Bd.returns] at h; cases h)
  refine ⟨_, _, pre0 _ ?_, hrun, hended, _, _, rfl, ?_, ⟨_, rfl⟩, hW, hsame.mono (by decide) (by decide)⟩
  · show Steps p.tables e below (s₁.setTop (mkF m 0 #[.val (.long u0), .second, .val (.long u1), .second, .val (.long u2), .second, .val (.int u3), .unset, .unset, .unset, .unset, .unset, .unset, .unset, .unset, .unset] [])) _
    refine XS.lloadN X0.here hx rfl (hb hby at_0) rfl ?_
    show Steps p.tables e below (s₁.setTop (mkF m 1 #[.val (.long u0), .second, .val (.long u1), .second, .val (.long u2), .second, .val (.int u3), .unset, .unset, .unset, .unset, .unset, .unset, .unset, .unset, .unset] [(.long u0)])) _
    refine XS.iload X0.here hx rfl (hb hby at_1) rfl ?_
    show Steps p.tables e below (s₁.setTop (mkF m 3 #[.val (.long u0), .second, .val (.long u1), .second, .val (.long u2), .second, .val (.int u3), .unset, .unset, .unset, .unset, .unset, .unset, .unset, .unset, .unset] [(.int u3), (.long u0)])) _
    refine XS.iconst X0.here hx rfl (hb hby at_3) ?_
    show Steps p.tables e below (s₁.setTop (mkF m 4 #[.val (.long u0), .second, .val (.long u1), .second, .val (.long u2), .second, .val (.int u3), .unset, .unset, .unset, .unset, .unset, .unset, .unset, .unset, .unset] [(.int (1 : Int32)), (.int u3), (.long u0)])) _
    refine XS.iand X0.here hx rfl (hb hby at_4) rfl ?_
    show Steps p.tables e below (s₁.setTop (mkF m 5 #[.val (.long u0), .second, .val (.long u1), .second, .val (.long u2), .second, .val (.int u3), .unset, .unset, .unset, .unset, .unset, .unset, .unset, .unset, .unset] [(.int (u3 &&& (1 : Int32))), (.long u0)])) _
    refine st1 _ ?_
    show Steps p.tables e below (T1.setTop (mkF m 8 #[.val (.long u0), .second, .val (.long u1), .second, .val (.long u2), .second, .val (.int u3), .unset, .unset, .unset, .unset, .unset, .unset, .unset, .unset, .unset] [(.double (compE u0 (u3 &&& (1 : Int32))))])) _
    refine XS.dstore X1.here hx rfl (hb hby at_8) rfl (l' := #[.val (.long u0), .second, .val (.long u1), .second, .val (.long u2), .second, .val (.int u3), .val (.double (compE u0 (u3 &&& (1 : Int32)))), .second, .unset, .unset, .unset, .unset, .unset, .unset, .unset]) rfl ?_
    show Steps p.tables e below (T1.setTop (mkF m 10 #[.val (.long u0), .second, .val (.long u1), .second, .val (.long u2), .second, .val (.int u3), .val (.double (compE u0 (u3 &&& (1 : Int32)))), .second, .unset, .unset, .unset, .unset, .unset, .unset, .unset] [])) _
    refine XS.lloadN X1.here hx rfl (hb hby at_10) rfl ?_
    show Steps p.tables e below (T1.setTop (mkF m 11 #[.val (.long u0), .second, .val (.long u1), .second, .val (.long u2), .second, .val (.int u3), .val (.double (compE u0 (u3 &&& (1 : Int32)))), .second, .unset, .unset, .unset, .unset, .unset, .unset, .unset] [(.long u1)])) _
    refine XS.iload X1.here hx rfl (hb hby at_11) rfl ?_
    show Steps p.tables e below (T1.setTop (mkF m 13 #[.val (.long u0), .second, .val (.long u1), .second, .val (.long u2), .second, .val (.int u3), .val (.double (compE u0 (u3 &&& (1 : Int32)))), .second, .unset, .unset, .unset, .unset, .unset, .unset, .unset] [(.int u3), (.long u1)])) _
    refine XS.iconst X1.here hx rfl (hb hby at_13) ?_
    show Steps p.tables e below (T1.setTop (mkF m 14 #[.val (.long u0), .second, .val (.long u1), .second, .val (.long u2), .second, .val (.int u3), .val (.double (compE u0 (u3 &&& (1 : Int32)))), .second, .unset, .unset, .unset, .unset, .unset, .unset, .unset] [(.int (2 : Int32)), (.int u3), (.long u1)])) _
    refine XS.iand X1.here hx rfl (hb hby at_14) rfl ?_
    show Steps p.tables e below (T1.setTop (mkF m 15 #[.val (.long u0), .second, .val (.long u1), .second, .val (.long u2), .second, .val (.int u3), .val (.double (compE u0 (u3 &&& (1 : Int32)))), .second, .unset, .unset, .unset, .unset, .unset, .unset, .unset] [(.int (u3 &&& (2 : Int32))), (.long u1)])) _
    refine st2 _ ?_
    show Steps p.tables e below (T2.setTop (mkF m 18 #[.val (.long u0), .second, .val (.long u1), .second, .val (.long u2), .second, .val (.int u3), .val (.double (compE u0 (u3 &&& (1 : Int32)))), .second, .unset, .unset, .unset, .unset, .unset, .unset, .unset] [(.double (compE u1 (u3 &&& (2 : Int32))))])) _
    refine XS.dstore X2.here hx rfl (hb hby at_18) rfl (l' := #[.val (.long u0), .second, .val (.long u1), .second, .val (.long u2), .second, .val (.int u3), .val (.double (compE u0 (u3 &&& (1 : Int32)))), .second, .val (.double (compE u1 (u3 &&& (2 : Int32)))), .second, .unset, .unset, .unset, .unset, .unset]) rfl ?_
    show Steps p.tables e below (T2.setTop (mkF m 20 #[.val (.long u0), .second, .val (.long u1), .second, .val (.long u2), .second, .val (.int u3), .val (.double (compE u0 (u3 &&& (1 : Int32)))), .second, .val (.double (compE u1 (u3 &&& (2 : Int32)))), .second, .unset, .unset, .unset, .unset, .unset] [])) _
    refine XS.lload X2.here hx rfl (hb hby at_20) rfl ?_
    show Steps p.tables e below (T2.setTop (mkF m 22 #[.val (.long u0), .second, .val (.long u1), .second, .val (.long u2), .second, .val (.int u3), .val (.double (compE u0 (u3 &&& (1 : Int32)))), .second, .val (.double (compE u1 (u3 &&& (2 : Int32)))), .second, .unset, .unset, .unset, .unset, .unset] [(.long u2)])) _
    refine XS.iload X2.here hx rfl (hb hby at_22) rfl ?_
    show Steps p.tables e below (T2.setTop (mkF m 24 #[.val (.long u0), .second, .val (.long u1), .second, .val (.long u2), .second, .val (.int u3), .val (.double (compE u0 (u3 &&& (1 : Int32)))), .second, .val (.double (compE u1 (u3 &&& (2 : Int32)))), .second, .unset, .unset, .unset, .unset, .unset] [(.int u3), (.long u2)])) _
    refine XS.iconst X2.here hx rfl (hb hby at_24) ?_
    show Steps p.tables e below (T2.setTop (mkF m 25 #[.val (.long u0), .second, .val (.long u1), .second, .val (.long u2), .second, .val (.int u3), .val (.double (compE u0 (u3 &&& (1 : Int32)))), .second, .val (.double (compE u1 (u3 &&& (2 : Int32)))), .second, .unset, .unset, .unset, .unset, .unset] [(.int (4 : Int32)), (.int u3), (.long u2)])) _
    refine XS.iand X2.here hx rfl (hb hby at_25) rfl ?_
    show Steps p.tables e below (T2.setTop (mkF m 26 #[.val (.long u0), .second, .val (.long u1), .second, .val (.long u2), .second, .val (.int u3), .val (.double (compE u0 (u3 &&& (1 : Int32)))), .second, .val (.double (compE u1 (u3 &&& (2 : Int32)))), .second, .unset, .unset, .unset, .unset, .unset] [(.int (u3 &&& (4 : Int32))), (.long u2)])) _
    refine st3 _ ?_
    show Steps p.tables e below (T3.setTop (mkF m 29 #[.val (.long u0), .second, .val (.long u1), .second, .val (.long u2), .second, .val (.int u3), .val (.double (compE u0 (u3 &&& (1 : Int32)))), .second, .val (.double (compE u1 (u3 &&& (2 : Int32)))), .second, .unset, .unset, .unset, .unset, .unset] [(.double (compE u2 (u3 &&& (4 : Int32))))])) _
    refine XS.dstore X3.here hx rfl (hb hby at_29) rfl (l' := #[.val (.long u0), .second, .val (.long u1), .second, .val (.long u2), .second, .val (.int u3), .val (.double (compE u0 (u3 &&& (1 : Int32)))), .second, .val (.double (compE u1 (u3 &&& (2 : Int32)))), .second, .val (.double (compE u2 (u3 &&& (4 : Int32)))), .second, .unset, .unset, .unset]) rfl ?_
    show Steps p.tables e below (T3.setTop (mkF m 31 #[.val (.long u0), .second, .val (.long u1), .second, .val (.long u2), .second, .val (.int u3), .val (.double (compE u0 (u3 &&& (1 : Int32)))), .second, .val (.double (compE u1 (u3 &&& (2 : Int32)))), .second, .val (.double (compE u2 (u3 &&& (4 : Int32)))), .second, .unset, .unset, .unset] [])) _
    refine st4 _ ?_
    show Steps p.tables e below (T4.setTop (mkF m 34 #[.val (.long u0), .second, .val (.long u1), .second, .val (.long u2), .second, .val (.int u3), .val (.double (compE u0 (u3 &&& (1 : Int32)))), .second, .val (.double (compE u1 (u3 &&& (2 : Int32)))), .second, .val (.double (compE u2 (u3 &&& (4 : Int32)))), .second, .unset, .unset, .unset] [(.ref b4)])) _
    refine XS.dup X4.here hx rfl (hb hby at_34) rfl rfl ?_
    show Steps p.tables e below (T4.setTop (mkF m 35 #[.val (.long u0), .second, .val (.long u1), .second, .val (.long u2), .second, .val (.int u3), .val (.double (compE u0 (u3 &&& (1 : Int32)))), .second, .val (.double (compE u1 (u3 &&& (2 : Int32)))), .second, .val (.double (compE u2 (u3 &&& (4 : Int32)))), .second, .unset, .unset, .unset] [(.ref b4), (.ref b4)])) _
    refine XS.dload X4.here hx rfl (hb hby at_35) rfl ?_
    show Steps p.tables e below (T4.setTop (mkF m 37 #[.val (.long u0), .second, .val (.long u1), .second, .val (.long u2), .second, .val (.int u3), .val (.double (compE u0 (u3 &&& (1 : Int32)))), .second, .val (.double (compE u1 (u3 &&& (2 : Int32)))), .second, .val (.double (compE u2 (u3 &&& (4 : Int32)))), .second, .unset, .unset, .unset] [(.double (compE u0 (u3 &&& (1 : Int32)))), (.ref b4), (.ref b4)])) _
    refine XS.dload X4.here hx rfl (hb hby at_37) rfl ?_
    show Steps p.tables e below (T4.setTop (mkF m 39 #[.val (.long u0), .second, .val (.long u1), .second, .val (.long u2), .second, .val (.int u3), .val (.double (compE u0 (u3 &&& (1 : Int32)))), .second, .val (.double (compE u1 (u3 &&& (2 : Int32)))), .second, .val (.double (compE u2 (u3 &&& (4 : Int32)))), .second, .unset, .unset, .unset] [(.double (compE u1 (u3 &&& (2 : Int32)))), (.double (compE u0 (u3 &&& (1 : Int32)))), (.ref b4), (.ref b4)])) _
    refine XS.dload X4.here hx rfl (hb hby at_39) rfl ?_
    show Steps p.tables e below (T4.setTop (mkF m 41 #[.val (.long u0), .second, .val (.long u1), .second, .val (.long u2), .second, .val (.int u3), .val (.double (compE u0 (u3 &&& (1 : Int32)))), .second, .val (.double (compE u1 (u3 &&& (2 : Int32)))), .second, .val (.double (compE u2 (u3 &&& (4 : Int32)))), .second, .unset, .unset, .unset] [(.double (compE u2 (u3 &&& (4 : Int32)))), (.double (compE u1 (u3 &&& (2 : Int32)))), (.double (compE u0 (u3 &&& (1 : Int32)))), (.ref b4), (.ref b4)])) _
    refine st5.trans ?_
    show Steps p.tables e below (T5.setTop (mkF m 44 #[.val (.long u0), .second, .val (.long u1), .second, .val (.long u2), .second, .val (.int u3), .val (.double (compE u0 (u3 &&& (1 : Int32)))), .second, .val (.double (compE u1 (u3 &&& (2 : Int32)))), .second, .val (.double (compE u2 (u3 &&& (4 : Int32)))), .second, .unset, .unset, .unset] [(.ref b4)])) _
    refine XS.astore X5.here hx rfl (hb hby at_44) rfl rfl (l' := #[.val (.long u0), .second, .val (.long u1), .second, .val (.long u2), .second, .val (.int u3), .val (.double (compE u0 (u3 &&& (1 : Int32)))), .second, .val (.double (compE u1 (u3 &&& (2 : Int32)))), .second, .val (.double (compE u2 (u3 &&& (4 : Int32)))), .second, .val (.ref b4), .unset, .unset]) rfl ?_
    show Steps p.tables e below (T5.setTop (mkF m 46 #[.val (.long u0), .second, .val (.long u1), .second, .val (.long u2), .second, .val (.int u3), .val (.double (compE u0 (u3 &&& (1 : Int32)))), .second, .val (.double (compE u1 (u3 &&& (2 : Int32)))), .second, .val (.double (compE u2 (u3 &&& (4 : Int32)))), .second, .val (.ref b4), .unset, .unset] [])) _
    refine XS.aload X5.here hx rfl (hb hby at_46) rfl rfl ?_
    show Steps p.tables e below (T5.setTop (mkF m 48 #[.val (.long u0), .second, .val (.long u1), .second, .val (.long u2), .second, .val (.int u3), .val (.double (compE u0 (u3 &&& (1 : Int32)))), .second, .val (.double (compE u1 (u3 &&& (2 : Int32)))), .second, .val (.double (compE u2 (u3 &&& (4 : Int32)))), .second, .val (.ref b4), .unset, .unset] [(.ref b4)])) _
    refine st6.trans ?_
    show Steps p.tables e below (T6.setTop (mkF m 51 #[.val (.long u0), .second, .val (.long u1), .second, .val (.long u2), .second, .val (.int u3), .val (.double (compE u0 (u3 &&& (1 : Int32)))), .second, .val (.double (compE u1 (u3 &&& (2 : Int32)))), .second, .val (.double (compE u2 (u3 &&& (4 : Int32)))), .second, .val (.ref b4), .unset, .unset] [(.ref o0)])) _
    refine XS.astore X6.here hx rfl (hb hby at_51) rfl rfl (l' := #[.val (.long u0), .second, .val (.long u1), .second, .val (.long u2), .second, .val (.int u3), .val (.double (compE u0 (u3 &&& (1 : Int32)))), .second, .val (.double (compE u1 (u3 &&& (2 : Int32)))), .second, .val (.double (compE u2 (u3 &&& (4 : Int32)))), .second, .val (.ref b4), .val (.ref o0), .unset]) rfl ?_
    show Steps p.tables e below (T6.setTop (mkF m 53 #[.val (.long u0), .second, .val (.long u1), .second, .val (.long u2), .second, .val (.int u3), .val (.double (compE u0 (u3 &&& (1 : Int32)))), .second, .val (.double (compE u1 (u3 &&& (2 : Int32)))), .second, .val (.double (compE u2 (u3 &&& (4 : Int32)))), .second, .val (.ref b4), .val (.ref o0), .unset] [])) _
    refine XS.aload X6.here hx rfl (hb hby at_53) rfl rfl ?_
    show Steps p.tables e below (T6.setTop (mkF m 55 #[.val (.long u0), .second, .val (.long u1), .second, .val (.long u2), .second, .val (.int u3), .val (.double (compE u0 (u3 &&& (1 : Int32)))), .second, .val (.double (compE u1 (u3 &&& (2 : Int32)))), .second, .val (.double (compE u2 (u3 &&& (4 : Int32)))), .second, .val (.ref b4), .val (.ref o0), .unset] [(.ref b4)])) _
    refine st7.trans ?_
    show Steps p.tables e below (T7.setTop (mkF m 58 #[.val (.long u0), .second, .val (.long u1), .second, .val (.long u2), .second, .val (.int u3), .val (.double (compE u0 (u3 &&& (1 : Int32)))), .second, .val (.double (compE u1 (u3 &&& (2 : Int32)))), .second, .val (.double (compE u2 (u3 &&& (4 : Int32)))), .second, .val (.ref b4), .val (.ref o0), .unset] [(.ref o1)])) _
    refine XS.astore X7.here hx rfl (hb hby at_58) rfl rfl (l' := #[.val (.long u0), .second, .val (.long u1), .second, .val (.long u2), .second, .val (.int u3), .val (.double (compE u0 (u3 &&& (1 : Int32)))), .second, .val (.double (compE u1 (u3 &&& (2 : Int32)))), .second, .val (.double (compE u2 (u3 &&& (4 : Int32)))), .second, .val (.ref b4), .val (.ref o0), .val (.ref o1)]) rfl ?_
    show Steps p.tables e below (T7.setTop (mkF m 60 #[.val (.long u0), .second, .val (.long u1), .second, .val (.long u2), .second, .val (.int u3), .val (.double (compE u0 (u3 &&& (1 : Int32)))), .second, .val (.double (compE u1 (u3 &&& (2 : Int32)))), .second, .val (.double (compE u2 (u3 &&& (4 : Int32)))), .second, .val (.ref b4), .val (.ref o0), .val (.ref o1)] [])) _
    refine XS.aload X7.here hx rfl (hb hby at_60) rfl rfl ?_
    show Steps p.tables e below (T7.setTop (mkF m 62 #[.val (.long u0), .second, .val (.long u1), .second, .val (.long u2), .second, .val (.int u3), .val (.double (compE u0 (u3 &&& (1 : Int32)))), .second, .val (.double (compE u1 (u3 &&& (2 : Int32)))), .second, .val (.double (compE u2 (u3 &&& (4 : Int32)))), .second, .val (.ref b4), .val (.ref o0), .val (.ref o1)] [(.ref o0)])) _
    refine XS.ifnullNo X7.here hx rfl (hb hby at_62) rfl ?_
    show Steps p.tables e below (T7.setTop (mkF m 65 #[.val (.long u0), .second, .val (.long u1), .second, .val (.long u2), .second, .val (.int u3), .val (.double (compE u0 (u3 &&& (1 : Int32)))), .second, .val (.double (compE u1 (u3 &&& (2 : Int32)))), .second, .val (.double (compE u2 (u3 &&& (4 : Int32)))), .second, .val (.ref b4), .val (.ref o0), .val (.ref o1)] [])) _
    refine XS.aload X7.here hx rfl (hb hby at_65) rfl rfl ?_
    show Steps p.tables e below (T7.setTop (mkF m 67 #[.val (.long u0), .second, .val (.long u1), .second, .val (.long u2), .second, .val (.int u3), .val (.double (compE u0 (u3 &&& (1 : Int32)))), .second, .val (.double (compE u1 (u3 &&& (2 : Int32)))), .second, .val (.double (compE u2 (u3 &&& (4 : Int32)))), .second, .val (.ref b4), .val (.ref o0), .val (.ref o1)] [(.ref o1)])) _
    refine XS.ifnullNo X7.here hx rfl (hb hby at_67) rfl ?_
    show Steps p.tables e below (T7.setTop (mkF m 70 #[.val (.long u0), .second, .val (.long u1), .second, .val (.long u2), .second, .val (.int u3), .val (.double (compE u0 (u3 &&& (1 : Int32)))), .second, .val (.double (compE u1 (u3 &&& (2 : Int32)))), .second, .val (.double (compE u2 (u3 &&& (4 : Int32)))), .second, .val (.ref b4), .val (.ref o0), .val (.ref o1)] [])) _
    refine XS.aload X7.here hx rfl (hb hby at_70) rfl rfl ?_
    show Steps p.tables e below (T7.setTop (mkF m 72 #[.val (.long u0), .second, .val (.long u1), .second, .val (.long u2), .second, .val (.int u3), .val (.double (compE u0 (u3 &&& (1 : Int32)))), .second, .val (.double (compE u1 (u3 &&& (2 : Int32)))), .second, .val (.double (compE u2 (u3 &&& (4 : Int32)))), .second, .val (.ref b4), .val (.ref o0), .val (.ref o1)] [(.ref o0)])) _
    refine XS.aload X7.here hx rfl (hb hby at_72) rfl rfl ?_
    show Steps p.tables e below (T7.setTop (mkF m 74 #[.val (.long u0), .second, .val (.long u1), .second, .val (.long u2), .second, .val (.int u3), .val (.double (compE u0 (u3 &&& (1 : Int32)))), .second, .val (.double (compE u1 (u3 &&& (2 : Int32)))), .second, .val (.double (compE u2 (u3 &&& (4 : Int32)))), .second, .val (.ref b4), .val (.ref o0), .val (.ref o1)] [(.ref o1), (.ref o0)])) _
    refine Jvm.RoadKit.acmp (g := (mkF m 74 #[.val (.long u0), .second, .val (.long u1), .second, .val (.long u2), .second, .val (.int u3), .val (.double (compE u0 (u3 &&& (1 : Int32)))), .second, .val (.double (compE u1 (u3 &&& (2 : Int32)))), .second, .val (.double (compE u2 (u3 &&& (4 : Int32)))), .second, .val (.ref b4), .val (.ref o0), .val (.ref o1)] [(.ref o1), (.ref o0)])) X7 hx rfl rfl rfl (pc0 := 74) (pc' := 79) (same := false) rfl (hb hby at_74) rfl (decide_eq_false fun q => neO (Value.ref.inj q)) (by decide) (by decide) ?_
    show Steps p.tables e below (T7.setTop (mkF m 79 #[.val (.long u0), .second, .val (.long u1), .second, .val (.long u2), .second, .val (.int u3), .val (.double (compE u0 (u3 &&& (1 : Int32)))), .second, .val (.double (compE u1 (u3 &&& (2 : Int32)))), .second, .val (.double (compE u2 (u3 &&& (4 : Int32)))), .second, .val (.ref b4), .val (.ref o0), .val (.ref o1)] [])) _
    refine XS.aload X7.here hx rfl (hb hby at_79) rfl rfl ?_
    show Steps p.tables e below (T7.setTop (mkF m 81 #[.val (.long u0), .second, .val (.long u1), .second, .val (.long u2), .second, .val (.int u3), .val (.double (compE u0 (u3 &&& (1 : Int32)))), .second, .val (.double (compE u1 (u3 &&& (2 : Int32)))), .second, .val (.double (compE u2 (u3 &&& (4 : Int32)))), .second, .val (.ref b4), .val (.ref o0), .val (.ref o1)] [(.ref o0)])) _
    refine X7.arraylength hx ( ArO.1) (State.isArrayOf_alike hZ.alike ArO.2.1) (g := (mkF m 81 #[.val (.long u0), .second, .val (.long u1), .second, .val (.long u2), .second, .val (.int u3), .val (.double (compE u0 (u3 &&& (1 : Int32)))), .second, .val (.double (compE u1 (u3 &&& (2 : Int32)))), .second, .val (.double (compE u2 (u3 &&& (4 : Int32)))), .second, .val (.ref b4), .val (.ref o0), .val (.ref o1)] [(.ref o0)])) rfl rfl (hb hby at_81) _ ?_
    rw [len_of SO MO]
    show Steps p.tables e below (T7.setTop (mkF m 82 #[.val (.long u0), .second, .val (.long u1), .second, .val (.long u2), .second, .val (.int u3), .val (.double (compE u0 (u3 &&& (1 : Int32)))), .second, .val (.double (compE u1 (u3 &&& (2 : Int32)))), .second, .val (.double (compE u2 (u3 &&& (4 : Int32)))), .second, .val (.ref b4), .val (.ref o0), .val (.ref o1)] [(.int (3 : Int32))])) _
    refine XS.iconst X7.here hx rfl (hb hby at_82) ?_
    show Steps p.tables e below (T7.setTop (mkF m 83 #[.val (.long u0), .second, .val (.long u1), .second, .val (.long u2), .second, .val (.int u3), .val (.double (compE u0 (u3 &&& (1 : Int32)))), .second, .val (.double (compE u1 (u3 &&& (2 : Int32)))), .second, .val (.double (compE u2 (u3 &&& (4 : Int32)))), .second, .val (.ref b4), .val (.ref o0), .val (.ref o1)] [(.int (3 : Int32)), (.int (3 : Int32))])) _
    refine XS.icmpYes X7.here hx rfl (pc0 := 83) (pc' := 88) rfl (hb hby at_83) rfl (teq (rfl : (3 : Int32) = (3 : Int32))).1 (by decide) (by decide) ?_
    show Steps p.tables e below (T7.setTop (mkF m 88 #[.val (.long u0), .second, .val (.long u1), .second, .val (.long u2), .second, .val (.int u3), .val (.double (compE u0 (u3 &&& (1 : Int32)))), .second, .val (.double (compE u1 (u3 &&& (2 : Int32)))), .second, .val (.double (compE u2 (u3 &&& (4 : Int32)))), .second, .val (.ref b4), .val (.ref o0), .val (.ref o1)] [])) _
    refine XS.aload X7.here hx rfl (hb hby at_88) rfl rfl ?_
    show Steps p.tables e below (T7.setTop (mkF m 90 #[.val (.long u0), .second, .val (.long u1), .second, .val (.long u2), .second, .val (.int u3), .val (.double (compE u0 (u3 &&& (1 : Int32)))), .second, .val (.double (compE u1 (u3 &&& (2 : Int32)))), .second, .val (.double (compE u2 (u3 &&& (4 : Int32)))), .second, .val (.ref b4), .val (.ref o0), .val (.ref o1)] [(.ref o0)])) _
    refine XS.iconst X7.here hx rfl (hb hby at_90) ?_
    show Steps p.tables e below (T7.setTop (mkF m 91 #[.val (.long u0), .second, .val (.long u1), .second, .val (.long u2), .second, .val (.int u3), .val (.double (compE u0 (u3 &&& (1 : Int32)))), .second, .val (.double (compE u1 (u3 &&& (2 : Int32)))), .second, .val (.double (compE u2 (u3 &&& (4 : Int32)))), .second, .val (.ref b4), .val (.ref o0), .val (.ref o1)] [(.int (0 : Int32)), (.ref o0)])) _
    refine X7.aaload hx (j := (0 : Int32)) (v := (.ref r00)) ( ArO.1) (State.isArrayOf_alike hZ.alike ArO.2.1) rfl ArO.2.2 inO0 (Has.at HO inO0 rfl) (g := (mkF m 91 #[.val (.long u0), .second, .val (.long u1), .second, .val (.long u2), .second, .val (.int u3), .val (.double (compE u0 (u3 &&& (1 : Int32)))), .second, .val (.double (compE u1 (u3 &&& (2 : Int32)))), .second, .val (.double (compE u2 (u3 &&& (4 : Int32)))), .second, .val (.ref b4), .val (.ref o0), .val (.ref o1)] [(.int (0 : Int32)), (.ref o0)])) rfl rfl (hb hby at_91) _ ?_
    show Steps p.tables e below (T7.setTop (mkF m 92 #[.val (.long u0), .second, .val (.long u1), .second, .val (.long u2), .second, .val (.int u3), .val (.double (compE u0 (u3 &&& (1 : Int32)))), .second, .val (.double (compE u1 (u3 &&& (2 : Int32)))), .second, .val (.double (compE u2 (u3 &&& (4 : Int32)))), .second, .val (.ref b4), .val (.ref o0), .val (.ref o1)] [(.ref r00)])) _
    refine XS.ifnullNo X7.here hx rfl (hb hby at_92) rfl ?_
    show Steps p.tables e below (T7.setTop (mkF m 95 #[.val (.long u0), .second, .val (.long u1), .second, .val (.long u2), .second, .val (.int u3), .val (.double (compE u0 (u3 &&& (1 : Int32)))), .second, .val (.double (compE u1 (u3 &&& (2 : Int32)))), .second, .val (.double (compE u2 (u3 &&& (4 : Int32)))), .second, .val (.ref b4), .val (.ref o0), .val (.ref o1)] [])) _
    refine XS.aload X7.here hx rfl (hb hby at_95) rfl rfl ?_
    show Steps p.tables e below (T7.setTop (mkF m 97 #[.val (.long u0), .second, .val (.long u1), .second, .val (.long u2), .second, .val (.int u3), .val (.double (compE u0 (u3 &&& (1 : Int32)))), .second, .val (.double (compE u1 (u3 &&& (2 : Int32)))), .second, .val (.double (compE u2 (u3 &&& (4 : Int32)))), .second, .val (.ref b4), .val (.ref o0), .val (.ref o1)] [(.ref o0)])) _
    refine XS.iconst X7.here hx rfl (hb hby at_97) ?_
    show Steps p.tables e below (T7.setTop (mkF m 98 #[.val (.long u0), .second, .val (.long u1), .second, .val (.long u2), .second, .val (.int u3), .val (.double (compE u0 (u3 &&& (1 : Int32)))), .second, .val (.double (compE u1 (u3 &&& (2 : Int32)))), .second, .val (.double (compE u2 (u3 &&& (4 : Int32)))), .second, .val (.ref b4), .val (.ref o0), .val (.ref o1)] [(.int (1 : Int32)), (.ref o0)])) _
    refine X7.aaload hx (j := (1 : Int32)) (v := (.ref r01)) ( ArO.1) (State.isArrayOf_alike hZ.alike ArO.2.1) rfl ArO.2.2 inO1 (Has.at HO inO1 rfl) (g := (mkF m 98 #[.val (.long u0), .second, .val (.long u1), .second, .val (.long u2), .second, .val (.int u3), .val (.double (compE u0 (u3 &&& (1 : Int32)))), .second, .val (.double (compE u1 (u3 &&& (2 : Int32)))), .second, .val (.double (compE u2 (u3 &&& (4 : Int32)))), .second, .val (.ref b4), .val (.ref o0), .val (.ref o1)] [(.int (1 : Int32)), (.ref o0)])) rfl rfl (hb hby at_98) _ ?_
    show Steps p.tables e below (T7.setTop (mkF m 99 #[.val (.long u0), .second, .val (.long u1), .second, .val (.long u2), .second, .val (.int u3), .val (.double (compE u0 (u3 &&& (1 : Int32)))), .second, .val (.double (compE u1 (u3 &&& (2 : Int32)))), .second, .val (.double (compE u2 (u3 &&& (4 : Int32)))), .second, .val (.ref b4), .val (.ref o0), .val (.ref o1)] [(.ref r01)])) _
    refine XS.ifnullNo X7.here hx rfl (hb hby at_99) rfl ?_
    show Steps p.tables e below (T7.setTop (mkF m 102 #[.val (.long u0), .second, .val (.long u1), .second, .val (.long u2), .second, .val (.int u3), .val (.double (compE u0 (u3 &&& (1 : Int32)))), .second, .val (.double (compE u1 (u3 &&& (2 : Int32)))), .second, .val (.double (compE u2 (u3 &&& (4 : Int32)))), .second, .val (.ref b4), .val (.ref o0), .val (.ref o1)] [])) _
    refine XS.aload X7.here hx rfl (hb hby at_102) rfl rfl ?_
    show Steps p.tables e below (T7.setTop (mkF m 104 #[.val (.long u0), .second, .val (.long u1), .second, .val (.long u2), .second, .val (.int u3), .val (.double (compE u0 (u3 &&& (1 : Int32)))), .second, .val (.double (compE u1 (u3 &&& (2 : Int32)))), .second, .val (.double (compE u2 (u3 &&& (4 : Int32)))), .second, .val (.ref b4), .val (.ref o0), .val (.ref o1)] [(.ref o0)])) _
    refine XS.iconst X7.here hx rfl (hb hby at_104) ?_
    show Steps p.tables e below (T7.setTop (mkF m 105 #[.val (.long u0), .second, .val (.long u1), .second, .val (.long u2), .second, .val (.int u3), .val (.double (compE u0 (u3 &&& (1 : Int32)))), .second, .val (.double (compE u1 (u3 &&& (2 : Int32)))), .second, .val (.double (compE u2 (u3 &&& (4 : Int32)))), .second, .val (.ref b4), .val (.ref o0), .val (.ref o1)] [(.int (2 : Int32)), (.ref o0)])) _
    refine X7.aaload hx (j := (2 : Int32)) (v := (.ref r02)) ( ArO.1) (State.isArrayOf_alike hZ.alike ArO.2.1) rfl ArO.2.2 inO2 (Has.at HO inO2 rfl) (g := (mkF m 105 #[.val (.long u0), .second, .val (.long u1), .second, .val (.long u2), .second, .val (.int u3), .val (.double (compE u0 (u3 &&& (1 : Int32)))), .second, .val (.double (compE u1 (u3 &&& (2 : Int32)))), .second, .val (.double (compE u2 (u3 &&& (4 : Int32)))), .second, .val (.ref b4), .val (.ref o0), .val (.ref o1)] [(.int (2 : Int32)), (.ref o0)])) rfl rfl (hb hby at_105) _ ?_
    show Steps p.tables e below (T7.setTop (mkF m 106 #[.val (.long u0), .second, .val (.long u1), .second, .val (.long u2), .second, .val (.int u3), .val (.double (compE u0 (u3 &&& (1 : Int32)))), .second, .val (.double (compE u1 (u3 &&& (2 : Int32)))), .second, .val (.double (compE u2 (u3 &&& (4 : Int32)))), .second, .val (.ref b4), .val (.ref o0), .val (.ref o1)] [(.ref r02)])) _
    refine XS.ifnonnullYes X7.here hx rfl (pc0 := 106) (pc' := 111) rfl (hb hby at_106) rfl (by decide) (by decide) ?_
    show Steps p.tables e below (T7.setTop (mkF m 111 #[.val (.long u0), .second, .val (.long u1), .second, .val (.long u2), .second, .val (.int u3), .val (.double (compE u0 (u3 &&& (1 : Int32)))), .second, .val (.double (compE u1 (u3 &&& (2 : Int32)))), .second, .val (.double (compE u2 (u3 &&& (4 : Int32)))), .second, .val (.ref b4), .val (.ref o0), .val (.ref o1)] [])) _
    refine XS.aload X7.here hx rfl (hb hby at_111) rfl rfl ?_
    show Steps p.tables e below (T7.setTop (mkF m 113 #[.val (.long u0), .second, .val (.long u1), .second, .val (.long u2), .second, .val (.int u3), .val (.double (compE u0 (u3 &&& (1 : Int32)))), .second, .val (.double (compE u1 (u3 &&& (2 : Int32)))), .second, .val (.double (compE u2 (u3 &&& (4 : Int32)))), .second, .val (.ref b4), .val (.ref o0), .val (.ref o1)] [(.ref o0)])) _
    refine XS.iconst X7.here hx rfl (hb hby at_113) ?_
    show Steps p.tables e below (T7.setTop (mkF m 114 #[.val (.long u0), .second, .val (.long u1), .second, .val (.long u2), .second, .val (.int u3), .val (.double (compE u0 (u3 &&& (1 : Int32)))), .second, .val (.double (compE u1 (u3 &&& (2 : Int32)))), .second, .val (.double (compE u2 (u3 &&& (4 : Int32)))), .second, .val (.ref b4), .val (.ref o0), .val (.ref o1)] [(.int (0 : Int32)), (.ref o0)])) _
    refine X7.aaload hx (j := (0 : Int32)) (v := (.ref r00)) ( ArO.1) (State.isArrayOf_alike hZ.alike ArO.2.1) rfl ArO.2.2 inO0 (Has.at HO inO0 rfl) (g := (mkF m 114 #[.val (.long u0), .second, .val (.long u1), .second, .val (.long u2), .second, .val (.int u3), .val (.double (compE u0 (u3 &&& (1 : Int32)))), .second, .val (.double (compE u1 (u3 &&& (2 : Int32)))), .second, .val (.double (compE u2 (u3 &&& (4 : Int32)))), .second, .val (.ref b4), .val (.ref o0), .val (.ref o1)] [(.int (0 : Int32)), (.ref o0)])) rfl rfl (hb hby at_114) _ ?_
    show Steps p.tables e below (T7.setTop (mkF m 115 #[.val (.long u0), .second, .val (.long u1), .second, .val (.long u2), .second, .val (.int u3), .val (.double (compE u0 (u3 &&& (1 : Int32)))), .second, .val (.double (compE u1 (u3 &&& (2 : Int32)))), .second, .val (.double (compE u2 (u3 &&& (4 : Int32)))), .second, .val (.ref b4), .val (.ref o0), .val (.ref o1)] [(.ref r00)])) _
    refine X7.arraylength hx ( Ar0.1) (State.isArrayOf_alike hZ.alike Ar0.2.1) (g := (mkF m 115 #[.val (.long u0), .second, .val (.long u1), .second, .val (.long u2), .second, .val (.int u3), .val (.double (compE u0 (u3 &&& (1 : Int32)))), .second, .val (.double (compE u1 (u3 &&& (2 : Int32)))), .second, .val (.double (compE u2 (u3 &&& (4 : Int32)))), .second, .val (.ref b4), .val (.ref o0), .val (.ref o1)] [(.ref r00)])) rfl rfl (hb hby at_115) _ ?_
    rw [len_of S0 M0]
    show Steps p.tables e below (T7.setTop (mkF m 116 #[.val (.long u0), .second, .val (.long u1), .second, .val (.long u2), .second, .val (.int u3), .val (.double (compE u0 (u3 &&& (1 : Int32)))), .second, .val (.double (compE u1 (u3 &&& (2 : Int32)))), .second, .val (.double (compE u2 (u3 &&& (4 : Int32)))), .second, .val (.ref b4), .val (.ref o0), .val (.ref o1)] [(.int (3 : Int32))])) _
    refine XS.iconst X7.here hx rfl (hb hby at_116) ?_
    show Steps p.tables e below (T7.setTop (mkF m 117 #[.val (.long u0), .second, .val (.long u1), .second, .val (.long u2), .second, .val (.int u3), .val (.double (compE u0 (u3 &&& (1 : Int32)))), .second, .val (.double (compE u1 (u3 &&& (2 : Int32)))), .second, .val (.double (compE u2 (u3 &&& (4 : Int32)))), .second, .val (.ref b4), .val (.ref o0), .val (.ref o1)] [(.int (3 : Int32)), (.int (3 : Int32))])) _
    refine XS.icmpNo X7.here hx rfl (hb hby at_117) rfl (teq (rfl : (3 : Int32) = (3 : Int32))).2 ?_
    show Steps p.tables e below (T7.setTop (mkF m 120 #[.val (.long u0), .second, .val (.long u1), .second, .val (.long u2), .second, .val (.int u3), .val (.double (compE u0 (u3 &&& (1 : Int32)))), .second, .val (.double (compE u1 (u3 &&& (2 : Int32)))), .second, .val (.double (compE u2 (u3 &&& (4 : Int32)))), .second, .val (.ref b4), .val (.ref o0), .val (.ref o1)] [])) _
    refine XS.aload X7.here hx rfl (hb hby at_120) rfl rfl ?_
    show Steps p.tables e below (T7.setTop (mkF m 122 #[.val (.long u0), .second, .val (.long u1), .second, .val (.long u2), .second, .val (.int u3), .val (.double (compE u0 (u3 &&& (1 : Int32)))), .second, .val (.double (compE u1 (u3 &&& (2 : Int32)))), .second, .val (.double (compE u2 (u3 &&& (4 : Int32)))), .second, .val (.ref b4), .val (.ref o0), .val (.ref o1)] [(.ref o0)])) _
    refine XS.iconst X7.here hx rfl (hb hby at_122) ?_
    show Steps p.tables e below (T7.setTop (mkF m 123 #[.val (.long u0), .second, .val (.long u1), .second, .val (.long u2), .second, .val (.int u3), .val (.double (compE u0 (u3 &&& (1 : Int32)))), .second, .val (.double (compE u1 (u3 &&& (2 : Int32)))), .second, .val (.double (compE u2 (u3 &&& (4 : Int32)))), .second, .val (.ref b4), .val (.ref o0), .val (.ref o1)] [(.int (1 : Int32)), (.ref o0)])) _
    refine X7.aaload hx (j := (1 : Int32)) (v := (.ref r01)) ( ArO.1) (State.isArrayOf_alike hZ.alike ArO.2.1) rfl ArO.2.2 inO1 (Has.at HO inO1 rfl) (g := (mkF m 123 #[.val (.long u0), .second, .val (.long u1), .second, .val (.long u2), .second, .val (.int u3), .val (.double (compE u0 (u3 &&& (1 : Int32)))), .second, .val (.double (compE u1 (u3 &&& (2 : Int32)))), .second, .val (.double (compE u2 (u3 &&& (4 : Int32)))), .second, .val (.ref b4), .val (.ref o0), .val (.ref o1)] [(.int (1 : Int32)), (.ref o0)])) rfl rfl (hb hby at_123) _ ?_
    show Steps p.tables e below (T7.setTop (mkF m 124 #[.val (.long u0), .second, .val (.long u1), .second, .val (.long u2), .second, .val (.int u3), .val (.double (compE u0 (u3 &&& (1 : Int32)))), .second, .val (.double (compE u1 (u3 &&& (2 : Int32)))), .second, .val (.double (compE u2 (u3 &&& (4 : Int32)))), .second, .val (.ref b4), .val (.ref o0), .val (.ref o1)] [(.ref r01)])) _
    refine X7.arraylength hx ( Ar1.1) (State.isArrayOf_alike hZ.alike Ar1.2.1) (g := (mkF m 124 #[.val (.long u0), .second, .val (.long u1), .second, .val (.long u2), .second, .val (.int u3), .val (.double (compE u0 (u3 &&& (1 : Int32)))), .second, .val (.double (compE u1 (u3 &&& (2 : Int32)))), .second, .val (.double (compE u2 (u3 &&& (4 : Int32)))), .second, .val (.ref b4), .val (.ref o0), .val (.ref o1)] [(.ref r01)])) rfl rfl (hb hby at_124) _ ?_
    rw [len_of S1 M1]
    show Steps p.tables e below (T7.setTop (mkF m 125 #[.val (.long u0), .second, .val (.long u1), .second, .val (.long u2), .second, .val (.int u3), .val (.double (compE u0 (u3 &&& (1 : Int32)))), .second, .val (.double (compE u1 (u3 &&& (2 : Int32)))), .second, .val (.double (compE u2 (u3 &&& (4 : Int32)))), .second, .val (.ref b4), .val (.ref o0), .val (.ref o1)] [(.int (3 : Int32))])) _
    refine XS.iconst X7.here hx rfl (hb hby at_125) ?_
    show Steps p.tables e below (T7.setTop (mkF m 126 #[.val (.long u0), .second, .val (.long u1), .second, .val (.long u2), .second, .val (.int u3), .val (.double (compE u0 (u3 &&& (1 : Int32)))), .second, .val (.double (compE u1 (u3 &&& (2 : Int32)))), .second, .val (.double (compE u2 (u3 &&& (4 : Int32)))), .second, .val (.ref b4), .val (.ref o0), .val (.ref o1)] [(.int (3 : Int32)), (.int (3 : Int32))])) _
    refine XS.icmpNo X7.here hx rfl (hb hby at_126) rfl (teq (rfl : (3 : Int32) = (3 : Int32))).2 ?_
    show Steps p.tables e below (T7.setTop (mkF m 129 #[.val (.long u0), .second, .val (.long u1), .second, .val (.long u2), .second, .val (.int u3), .val (.double (compE u0 (u3 &&& (1 : Int32)))), .second, .val (.double (compE u1 (u3 &&& (2 : Int32)))), .second, .val (.double (compE u2 (u3 &&& (4 : Int32)))), .second, .val (.ref b4), .val (.ref o0), .val (.ref o1)] [])) _
    refine XS.aload X7.here hx rfl (hb hby at_129) rfl rfl ?_
    show Steps p.tables e below (T7.setTop (mkF m 131 #[.val (.long u0), .second, .val (.long u1), .second, .val (.long u2), .second, .val (.int u3), .val (.double (compE u0 (u3 &&& (1 : Int32)))), .second, .val (.double (compE u1 (u3 &&& (2 : Int32)))), .second, .val (.double (compE u2 (u3 &&& (4 : Int32)))), .second, .val (.ref b4), .val (.ref o0), .val (.ref o1)] [(.ref o0)])) _
    refine XS.iconst X7.here hx rfl (hb hby at_131) ?_
    show Steps p.tables e below (T7.setTop (mkF m 132 #[.val (.long u0), .second, .val (.long u1), .second, .val (.long u2), .second, .val (.int u3), .val (.double (compE u0 (u3 &&& (1 : Int32)))), .second, .val (.double (compE u1 (u3 &&& (2 : Int32)))), .second, .val (.double (compE u2 (u3 &&& (4 : Int32)))), .second, .val (.ref b4), .val (.ref o0), .val (.ref o1)] [(.int (2 : Int32)), (.ref o0)])) _
    refine X7.aaload hx (j := (2 : Int32)) (v := (.ref r02)) ( ArO.1) (State.isArrayOf_alike hZ.alike ArO.2.1) rfl ArO.2.2 inO2 (Has.at HO inO2 rfl) (g := (mkF m 132 #[.val (.long u0), .second, .val (.long u1), .second, .val (.long u2), .second, .val (.int u3), .val (.double (compE u0 (u3 &&& (1 : Int32)))), .second, .val (.double (compE u1 (u3 &&& (2 : Int32)))), .second, .val (.double (compE u2 (u3 &&& (4 : Int32)))), .second, .val (.ref b4), .val (.ref o0), .val (.ref o1)] [(.int (2 : Int32)), (.ref o0)])) rfl rfl (hb hby at_132) _ ?_
    show Steps p.tables e below (T7.setTop (mkF m 133 #[.val (.long u0), .second, .val (.long u1), .second, .val (.long u2), .second, .val (.int u3), .val (.double (compE u0 (u3 &&& (1 : Int32)))), .second, .val (.double (compE u1 (u3 &&& (2 : Int32)))), .second, .val (.double (compE u2 (u3 &&& (4 : Int32)))), .second, .val (.ref b4), .val (.ref o0), .val (.ref o1)] [(.ref r02)])) _
    refine X7.arraylength hx ( Ar2.1) (State.isArrayOf_alike hZ.alike Ar2.2.1) (g := (mkF m 133 #[.val (.long u0), .second, .val (.long u1), .second, .val (.long u2), .second, .val (.int u3), .val (.double (compE u0 (u3 &&& (1 : Int32)))), .second, .val (.double (compE u1 (u3 &&& (2 : Int32)))), .second, .val (.double (compE u2 (u3 &&& (4 : Int32)))), .second, .val (.ref b4), .val (.ref o0), .val (.ref o1)] [(.ref r02)])) rfl rfl (hb hby at_133) _ ?_
    rw [len_of S2 M2]
    show Steps p.tables e below (T7.setTop (mkF m 134 #[.val (.long u0), .second, .val (.long u1), .second, .val (.long u2), .second, .val (.int u3), .val (.double (compE u0 (u3 &&& (1 : Int32)))), .second, .val (.double (compE u1 (u3 &&& (2 : Int32)))), .second, .val (.double (compE u2 (u3 &&& (4 : Int32)))), .second, .val (.ref b4), .val (.ref o0), .val (.ref o1)] [(.int (3 : Int32))])) _
    refine XS.iconst X7.here hx rfl (hb hby at_134) ?_
    show Steps p.tables e below (T7.setTop (mkF m 135 #[.val (.long u0), .second, .val (.long u1), .second, .val (.long u2), .second, .val (.int u3), .val (.double (compE u0 (u3 &&& (1 : Int32)))), .second, .val (.double (compE u1 (u3 &&& (2 : Int32)))), .second, .val (.double (compE u2 (u3 &&& (4 : Int32)))), .second, .val (.ref b4), .val (.ref o0), .val (.ref o1)] [(.int (3 : Int32)), (.int (3 : Int32))])) _
    refine XS.icmpYes X7.here hx rfl (pc0 := 135) (pc' := 140) rfl (hb hby at_135) rfl (teq (rfl : (3 : Int32) = (3 : Int32))).1 (by decide) (by decide) ?_
    show Steps p.tables e below (T7.setTop (mkF m 140 #[.val (.long u0), .second, .val (.long u1), .second, .val (.long u2), .second, .val (.int u3), .val (.double (compE u0 (u3 &&& (1 : Int32)))), .second, .val (.double (compE u1 (u3 &&& (2 : Int32)))), .second, .val (.double (compE u2 (u3 &&& (4 : Int32)))), .second, .val (.ref b4), .val (.ref o0), .val (.ref o1)] [])) _
    refine XS.aload X7.here hx rfl (hb hby at_140) rfl rfl ?_
    show Steps p.tables e below (T7.setTop (mkF m 142 #[.val (.long u0), .second, .val (.long u1), .second, .val (.long u2), .second, .val (.int u3), .val (.double (compE u0 (u3 &&& (1 : Int32)))), .second, .val (.double (compE u1 (u3 &&& (2 : Int32)))), .second, .val (.double (compE u2 (u3 &&& (4 : Int32)))), .second, .val (.ref b4), .val (.ref o0), .val (.ref o1)] [(.ref o0)])) _
    refine XS.iconst X7.here hx rfl (hb hby at_142) ?_
    show Steps p.tables e below (T7.setTop (mkF m 143 #[.val (.long u0), .second, .val (.long u1), .second, .val (.long u2), .second, .val (.int u3), .val (.double (compE u0 (u3 &&& (1 : Int32)))), .second, .val (.double (compE u1 (u3 &&& (2 : Int32)))), .second, .val (.double (compE u2 (u3 &&& (4 : Int32)))), .second, .val (.ref b4), .val (.ref o0), .val (.ref o1)] [(.int (0 : Int32)), (.ref o0)])) _
    refine X7.aaload hx (j := (0 : Int32)) (v := (.ref r00)) ( ArO.1) (State.isArrayOf_alike hZ.alike ArO.2.1) rfl ArO.2.2 inO0 (Has.at HO inO0 rfl) (g := (mkF m 143 #[.val (.long u0), .second, .val (.long u1), .second, .val (.long u2), .second, .val (.int u3), .val (.double (compE u0 (u3 &&& (1 : Int32)))), .second, .val (.double (compE u1 (u3 &&& (2 : Int32)))), .second, .val (.double (compE u2 (u3 &&& (4 : Int32)))), .second, .val (.ref b4), .val (.ref o0), .val (.ref o1)] [(.int (0 : Int32)), (.ref o0)])) rfl rfl (hb hby at_143) _ ?_
    show Steps p.tables e below (T7.setTop (mkF m 144 #[.val (.long u0), .second, .val (.long u1), .second, .val (.long u2), .second, .val (.int u3), .val (.double (compE u0 (u3 &&& (1 : Int32)))), .second, .val (.double (compE u1 (u3 &&& (2 : Int32)))), .second, .val (.double (compE u2 (u3 &&& (4 : Int32)))), .second, .val (.ref b4), .val (.ref o0), .val (.ref o1)] [(.ref r00)])) _
    refine XS.iconst X7.here hx rfl (hb hby at_144) ?_
    show Steps p.tables e below (T7.setTop (mkF m 145 #[.val (.long u0), .second, .val (.long u1), .second, .val (.long u2), .second, .val (.int u3), .val (.double (compE u0 (u3 &&& (1 : Int32)))), .second, .val (.double (compE u1 (u3 &&& (2 : Int32)))), .second, .val (.double (compE u2 (u3 &&& (4 : Int32)))), .second, .val (.ref b4), .val (.ref o0), .val (.ref o1)] [(.int (0 : Int32)), (.ref r00)])) _
    refine X7.daload hx (j := (0 : Int32)) (v := (.double FP.dconst0)) ( Ar0.1) (State.isArrayOf_alike hZ.alike Ar0.2.1) Ar0.2.2 in00 (Has.at H0 in00 rfl) (g := (mkF m 145 #[.val (.long u0), .second, .val (.long u1), .second, .val (.long u2), .second, .val (.int u3), .val (.double (compE u0 (u3 &&& (1 : Int32)))), .second, .val (.double (compE u1 (u3 &&& (2 : Int32)))), .second, .val (.double (compE u2 (u3 &&& (4 : Int32)))), .second, .val (.ref b4), .val (.ref o0), .val (.ref o1)] [(.int (0 : Int32)), (.ref r00)])) rfl rfl (hb hby at_145) _ ?_
    show Steps p.tables e below (T7.setTop (mkF m 146 #[.val (.long u0), .second, .val (.long u1), .second, .val (.long u2), .second, .val (.int u3), .val (.double (compE u0 (u3 &&& (1 : Int32)))), .second, .val (.double (compE u1 (u3 &&& (2 : Int32)))), .second, .val (.double (compE u2 (u3 &&& (4 : Int32)))), .second, .val (.ref b4), .val (.ref o0), .val (.ref o1)] [(.double FP.dconst0)])) _
    refine st8 _ ?_
    show Steps p.tables e below (T8.setTop (mkF m 149 #[.val (.long u0), .second, .val (.long u1), .second, .val (.long u2), .second, .val (.int u3), .val (.double (compE u0 (u3 &&& (1 : Int32)))), .second, .val (.double (compE u1 (u3 &&& (2 : Int32)))), .second, .val (.double (compE u2 (u3 &&& (4 : Int32)))), .second, .val (.ref b4), .val (.ref o0), .val (.ref o1)] [(.int (1 : Int32))])) _
    refine XS.ifNo X8.here hx rfl (hb hby at_149) rfl ((if0 _ _).trans (feq (by decide : ¬ ((1 : Int32) = (0 : Int32)))).1) ?_
    show Steps p.tables e below (T8.setTop (mkF m 152 #[.val (.long u0), .second, .val (.long u1), .second, .val (.long u2), .second, .val (.int u3), .val (.double (compE u0 (u3 &&& (1 : Int32)))), .second, .val (.double (compE u1 (u3 &&& (2 : Int32)))), .second, .val (.double (compE u2 (u3 &&& (4 : Int32)))), .second, .val (.ref b4), .val (.ref o0), .val (.ref o1)] [])) _
    refine XS.aload X8.here hx rfl (hb hby at_152) rfl rfl ?_
    show Steps p.tables e below (T8.setTop (mkF m 154 #[.val (.long u0), .second, .val (.long u1), .second, .val (.long u2), .second, .val (.int u3), .val (.double (compE u0 (u3 &&& (1 : Int32)))), .second, .val (.double (compE u1 (u3 &&& (2 : Int32)))), .second, .val (.double (compE u2 (u3 &&& (4 : Int32)))), .second, .val (.ref b4), .val (.ref o0), .val (.ref o1)] [(.ref o0)])) _
    refine XS.iconst X8.here hx rfl (hb hby at_154) ?_
    show Steps p.tables e below (T8.setTop (mkF m 155 #[.val (.long u0), .second, .val (.long u1), .second, .val (.long u2), .second, .val (.int u3), .val (.double (compE u0 (u3 &&& (1 : Int32)))), .second, .val (.double (compE u1 (u3 &&& (2 : Int32)))), .second, .val (.double (compE u2 (u3 &&& (4 : Int32)))), .second, .val (.ref b4), .val (.ref o0), .val (.ref o1)] [(.int (0 : Int32)), (.ref o0)])) _
    refine X8.aaload hx (j := (0 : Int32)) (v := (.ref r00)) (own_at K8 ArO.1) (State.isArrayOf_alike hZ.alike ArO.2.1) rfl ArO.2.2 inO0 (Has.at HO inO0 rfl) (g := (mkF m 155 #[.val (.long u0), .second, .val (.long u1), .second, .val (.long u2), .second, .val (.int u3), .val (.double (compE u0 (u3 &&& (1 : Int32)))), .second, .val (.double (compE u1 (u3 &&& (2 : Int32)))), .second, .val (.double (compE u2 (u3 &&& (4 : Int32)))), .second, .val (.ref b4), .val (.ref o0), .val (.ref o1)] [(.int (0 : Int32)), (.ref o0)])) rfl rfl (hb hby at_155) _ ?_
    show Steps p.tables e below (T8.setTop (mkF m 156 #[.val (.long u0), .second, .val (.long u1), .second, .val (.long u2), .second, .val (.int u3), .val (.double (compE u0 (u3 &&& (1 : Int32)))), .second, .val (.double (compE u1 (u3 &&& (2 : Int32)))), .second, .val (.double (compE u2 (u3 &&& (4 : Int32)))), .second, .val (.ref b4), .val (.ref o0), .val (.ref o1)] [(.ref r00)])) _
    refine XS.iconst X8.here hx rfl (hb hby at_156) ?_
    show Steps p.tables e below (T8.setTop (mkF m 157 #[.val (.long u0), .second, .val (.long u1), .second, .val (.long u2), .second, .val (.int u3), .val (.double (compE u0 (u3 &&& (1 : Int32)))), .second, .val (.double (compE u1 (u3 &&& (2 : Int32)))), .second, .val (.double (compE u2 (u3 &&& (4 : Int32)))), .second, .val (.ref b4), .val (.ref o0), .val (.ref o1)] [(.int (1 : Int32)), (.ref r00)])) _
    refine X8.daload hx (j := (1 : Int32)) (v := (.double (ngE (compE u2 (u3 &&& (4 : Int32)))))) (own_at K8 Ar0.1) (State.isArrayOf_alike hZ.alike Ar0.2.1) Ar0.2.2 in01 (Has.at H0 in01 rfl) (g := (mkF m 157 #[.val (.long u0), .second, .val (.long u1), .second, .val (.long u2), .second, .val (.int u3), .val (.double (compE u0 (u3 &&& (1 : Int32)))), .second, .val (.double (compE u1 (u3 &&& (2 : Int32)))), .second, .val (.double (compE u2 (u3 &&& (4 : Int32)))), .second, .val (.ref b4), .val (.ref o0), .val (.ref o1)] [(.int (1 : Int32)), (.ref r00)])) rfl rfl (hb hby at_157) _ ?_
    show Steps p.tables e below (T8.setTop (mkF m 158 #[.val (.long u0), .second, .val (.long u1), .second, .val (.long u2), .second, .val (.int u3), .val (.double (compE u0 (u3 &&& (1 : Int32)))), .second, .val (.double (compE u1 (u3 &&& (2 : Int32)))), .second, .val (.double (compE u2 (u3 &&& (4 : Int32)))), .second, .val (.ref b4), .val (.ref o0), .val (.ref o1)] [(.double (ngE (compE u2 (u3 &&& (4 : Int32)))))])) _
    refine XS.dload X8.here hx rfl (hb hby at_158) rfl ?_
    show Steps p.tables e below (T8.setTop (mkF m 160 #[.val (.long u0), .second, .val (.long u1), .second, .val (.long u2), .second, .val (.int u3), .val (.double (compE u0 (u3 &&& (1 : Int32)))), .second, .val (.double (compE u1 (u3 &&& (2 : Int32)))), .second, .val (.double (compE u2 (u3 &&& (4 : Int32)))), .second, .val (.ref b4), .val (.ref o0), .val (.ref o1)] [(.double (compE u2 (u3 &&& (4 : Int32)))), (.double (ngE (compE u2 (u3 &&& (4 : Int32)))))])) _
    refine st9 _ ?_
    show Steps p.tables e below (T9.setTop (mkF m 163 #[.val (.long u0), .second, .val (.long u1), .second, .val (.long u2), .second, .val (.int u3), .val (.double (compE u0 (u3 &&& (1 : Int32)))), .second, .val (.double (compE u1 (u3 &&& (2 : Int32)))), .second, .val (.double (compE u2 (u3 &&& (4 : Int32)))), .second, .val (.ref b4), .val (.ref o0), .val (.ref o1)] [(.int (1 : Int32))])) _
    refine XS.ifNo X9.here hx rfl (hb hby at_163) rfl ((if0 _ _).trans (feq (by decide : ¬ ((1 : Int32) = (0 : Int32)))).1) ?_
    show Steps p.tables e below (T9.setTop (mkF m 166 #[.val (.long u0), .second, .val (.long u1), .second, .val (.long u2), .second, .val (.int u3), .val (.double (compE u0 (u3 &&& (1 : Int32)))), .second, .val (.double (compE u1 (u3 &&& (2 : Int32)))), .second, .val (.double (compE u2 (u3 &&& (4 : Int32)))), .second, .val (.ref b4), .val (.ref o0), .val (.ref o1)] [])) _
    refine XS.aload X9.here hx rfl (hb hby at_166) rfl rfl ?_
    show Steps p.tables e below (T9.setTop (mkF m 168 #[.val (.long u0), .second, .val (.long u1), .second, .val (.long u2), .second, .val (.int u3), .val (.double (compE u0 (u3 &&& (1 : Int32)))), .second, .val (.double (compE u1 (u3 &&& (2 : Int32)))), .second, .val (.double (compE u2 (u3 &&& (4 : Int32)))), .second, .val (.ref b4), .val (.ref o0), .val (.ref o1)] [(.ref o0)])) _
    refine XS.iconst X9.here hx rfl (hb hby at_168) ?_
    show Steps p.tables e below (T9.setTop (mkF m 169 #[.val (.long u0), .second, .val (.long u1), .second, .val (.long u2), .second, .val (.int u3), .val (.double (compE u0 (u3 &&& (1 : Int32)))), .second, .val (.double (compE u1 (u3 &&& (2 : Int32)))), .second, .val (.double (compE u2 (u3 &&& (4 : Int32)))), .second, .val (.ref b4), .val (.ref o0), .val (.ref o1)] [(.int (0 : Int32)), (.ref o0)])) _
    refine X9.aaload hx (j := (0 : Int32)) (v := (.ref r00)) (own_at K9 ArO.1) (State.isArrayOf_alike hZ.alike ArO.2.1) rfl ArO.2.2 inO0 (Has.at HO inO0 rfl) (g := (mkF m 169 #[.val (.long u0), .second, .val (.long u1), .second, .val (.long u2), .second, .val (.int u3), .val (.double (compE u0 (u3 &&& (1 : Int32)))), .second, .val (.double (compE u1 (u3 &&& (2 : Int32)))), .second, .val (.double (compE u2 (u3 &&& (4 : Int32)))), .second, .val (.ref b4), .val (.ref o0), .val (.ref o1)] [(.int (0 : Int32)), (.ref o0)])) rfl rfl (hb hby at_169) _ ?_
    show Steps p.tables e below (T9.setTop (mkF m 170 #[.val (.long u0), .second, .val (.long u1), .second, .val (.long u2), .second, .val (.int u3), .val (.double (compE u0 (u3 &&& (1 : Int32)))), .second, .val (.double (compE u1 (u3 &&& (2 : Int32)))), .second, .val (.double (compE u2 (u3 &&& (4 : Int32)))), .second, .val (.ref b4), .val (.ref o0), .val (.ref o1)] [(.ref r00)])) _
    refine XS.iconst X9.here hx rfl (hb hby at_170) ?_
    show Steps p.tables e below (T9.setTop (mkF m 171 #[.val (.long u0), .second, .val (.long u1), .second, .val (.long u2), .second, .val (.int u3), .val (.double (compE u0 (u3 &&& (1 : Int32)))), .second, .val (.double (compE u1 (u3 &&& (2 : Int32)))), .second, .val (.double (compE u2 (u3 &&& (4 : Int32)))), .second, .val (.ref b4), .val (.ref o0), .val (.ref o1)] [(.int (2 : Int32)), (.ref r00)])) _
    refine X9.daload hx (j := (2 : Int32)) (v := (.double (compE u1 (u3 &&& (2 : Int32))))) (own_at K9 Ar0.1) (State.isArrayOf_alike hZ.alike Ar0.2.1) Ar0.2.2 in02 (Has.at H0 in02 rfl) (g := (mkF m 171 #[.val (.long u0), .second, .val (.long u1), .second, .val (.long u2), .second, .val (.int u3), .val (.double (compE u0 (u3 &&& (1 : Int32)))), .second, .val (.double (compE u1 (u3 &&& (2 : Int32)))), .second, .val (.double (compE u2 (u3 &&& (4 : Int32)))), .second, .val (.ref b4), .val (.ref o0), .val (.ref o1)] [(.int (2 : Int32)), (.ref r00)])) rfl rfl (hb hby at_171) _ ?_
    show Steps p.tables e below (T9.setTop (mkF m 172 #[.val (.long u0), .second, .val (.long u1), .second, .val (.long u2), .second, .val (.int u3), .val (.double (compE u0 (u3 &&& (1 : Int32)))), .second, .val (.double (compE u1 (u3 &&& (2 : Int32)))), .second, .val (.double (compE u2 (u3 &&& (4 : Int32)))), .second, .val (.ref b4), .val (.ref o0), .val (.ref o1)] [(.double (compE u1 (u3 &&& (2 : Int32))))])) _
    refine XS.dload X9.here hx rfl (hb hby at_172) rfl ?_
    show Steps p.tables e below (T9.setTop (mkF m 174 #[.val (.long u0), .second, .val (.long u1), .second, .val (.long u2), .second, .val (.int u3), .val (.double (compE u0 (u3 &&& (1 : Int32)))), .second, .val (.double (compE u1 (u3 &&& (2 : Int32)))), .second, .val (.double (compE u2 (u3 &&& (4 : Int32)))), .second, .val (.ref b4), .val (.ref o0), .val (.ref o1)] [(.double (compE u1 (u3 &&& (2 : Int32)))), (.double (compE u1 (u3 &&& (2 : Int32))))])) _
    refine XS.dcmpS X9.here hx rfl (hb hby at_174) rfl (v := (0 : Int32)) (dcmpV_self (comp_nn u1 (u3 &&& (2 : Int32))) .l) ?_
    show Steps p.tables e below (T9.setTop (mkF m 175 #[.val (.long u0), .second, .val (.long u1), .second, .val (.long u2), .second, .val (.int u3), .val (.double (compE u0 (u3 &&& (1 : Int32)))), .second, .val (.double (compE u1 (u3 &&& (2 : Int32)))), .second, .val (.double (compE u2 (u3 &&& (4 : Int32)))), .second, .val (.ref b4), .val (.ref o0), .val (.ref o1)] [(.int (0 : Int32))])) _
    refine XS.ifNo X9.here hx rfl (hb hby at_175) rfl ((if0 _ _).trans (teq (rfl : (0 : Int32) = (0 : Int32))).2) ?_
    show Steps p.tables e below (T9.setTop (mkF m 178 #[.val (.long u0), .second, .val (.long u1), .second, .val (.long u2), .second, .val (.int u3), .val (.double (compE u0 (u3 &&& (1 : Int32)))), .second, .val (.double (compE u1 (u3 &&& (2 : Int32)))), .second, .val (.double (compE u2 (u3 &&& (4 : Int32)))), .second, .val (.ref b4), .val (.ref o0), .val (.ref o1)] [])) _
    refine XS.aload X9.here hx rfl (hb hby at_178) rfl rfl ?_
    show Steps p.tables e below (T9.setTop (mkF m 180 #[.val (.long u0), .second, .val (.long u1), .second, .val (.long u2), .second, .val (.int u3), .val (.double (compE u0 (u3 &&& (1 : Int32)))), .second, .val (.double (compE u1 (u3 &&& (2 : Int32)))), .second, .val (.double (compE u2 (u3 &&& (4 : Int32)))), .second, .val (.ref b4), .val (.ref o0), .val (.ref o1)] [(.ref o0)])) _
    refine XS.iconst X9.here hx rfl (hb hby at_180) ?_
    show Steps p.tables e below (T9.setTop (mkF m 181 #[.val (.long u0), .second, .val (.long u1), .second, .val (.long u2), .second, .val (.int u3), .val (.double (compE u0 (u3 &&& (1 : Int32)))), .second, .val (.double (compE u1 (u3 &&& (2 : Int32)))), .second, .val (.double (compE u2 (u3 &&& (4 : Int32)))), .second, .val (.ref b4), .val (.ref o0), .val (.ref o1)] [(.int (1 : Int32)), (.ref o0)])) _
    refine X9.aaload hx (j := (1 : Int32)) (v := (.ref r01)) (own_at K9 ArO.1) (State.isArrayOf_alike hZ.alike ArO.2.1) rfl ArO.2.2 inO1 (Has.at HO inO1 rfl) (g := (mkF m 181 #[.val (.long u0), .second, .val (.long u1), .second, .val (.long u2), .second, .val (.int u3), .val (.double (compE u0 (u3 &&& (1 : Int32)))), .second, .val (.double (compE u1 (u3 &&& (2 : Int32)))), .second, .val (.double (compE u2 (u3 &&& (4 : Int32)))), .second, .val (.ref b4), .val (.ref o0), .val (.ref o1)] [(.int (1 : Int32)), (.ref o0)])) rfl rfl (hb hby at_181) _ ?_
    show Steps p.tables e below (T9.setTop (mkF m 182 #[.val (.long u0), .second, .val (.long u1), .second, .val (.long u2), .second, .val (.int u3), .val (.double (compE u0 (u3 &&& (1 : Int32)))), .second, .val (.double (compE u1 (u3 &&& (2 : Int32)))), .second, .val (.double (compE u2 (u3 &&& (4 : Int32)))), .second, .val (.ref b4), .val (.ref o0), .val (.ref o1)] [(.ref r01)])) _
    refine XS.iconst X9.here hx rfl (hb hby at_182) ?_
    show Steps p.tables e below (T9.setTop (mkF m 183 #[.val (.long u0), .second, .val (.long u1), .second, .val (.long u2), .second, .val (.int u3), .val (.double (compE u0 (u3 &&& (1 : Int32)))), .second, .val (.double (compE u1 (u3 &&& (2 : Int32)))), .second, .val (.double (compE u2 (u3 &&& (4 : Int32)))), .second, .val (.ref b4), .val (.ref o0), .val (.ref o1)] [(.int (0 : Int32)), (.ref r01)])) _
    refine X9.daload hx (j := (0 : Int32)) (v := (.double (compE u2 (u3 &&& (4 : Int32))))) (own_at K9 Ar1.1) (State.isArrayOf_alike hZ.alike Ar1.2.1) Ar1.2.2 in10 (Has.at H1 in10 rfl) (g := (mkF m 183 #[.val (.long u0), .second, .val (.long u1), .second, .val (.long u2), .second, .val (.int u3), .val (.double (compE u0 (u3 &&& (1 : Int32)))), .second, .val (.double (compE u1 (u3 &&& (2 : Int32)))), .second, .val (.double (compE u2 (u3 &&& (4 : Int32)))), .second, .val (.ref b4), .val (.ref o0), .val (.ref o1)] [(.int (0 : Int32)), (.ref r01)])) rfl rfl (hb hby at_183) _ ?_
    show Steps p.tables e below (T9.setTop (mkF m 184 #[.val (.long u0), .second, .val (.long u1), .second, .val (.long u2), .second, .val (.int u3), .val (.double (compE u0 (u3 &&& (1 : Int32)))), .second, .val (.double (compE u1 (u3 &&& (2 : Int32)))), .second, .val (.double (compE u2 (u3 &&& (4 : Int32)))), .second, .val (.ref b4), .val (.ref o0), .val (.ref o1)] [(.double (compE u2 (u3 &&& (4 : Int32))))])) _
    refine XS.dload X9.here hx rfl (hb hby at_184) rfl ?_
    show Steps p.tables e below (T9.setTop (mkF m 186 #[.val (.long u0), .second, .val (.long u1), .second, .val (.long u2), .second, .val (.int u3), .val (.double (compE u0 (u3 &&& (1 : Int32)))), .second, .val (.double (compE u1 (u3 &&& (2 : Int32)))), .second, .val (.double (compE u2 (u3 &&& (4 : Int32)))), .second, .val (.ref b4), .val (.ref o0), .val (.ref o1)] [(.double (compE u2 (u3 &&& (4 : Int32)))), (.double (compE u2 (u3 &&& (4 : Int32))))])) _
    refine XS.dcmpS X9.here hx rfl (hb hby at_186) rfl (v := (0 : Int32)) (dcmpV_self (comp_nn u2 (u3 &&& (4 : Int32))) .l) ?_
    show Steps p.tables e below (T9.setTop (mkF m 187 #[.val (.long u0), .second, .val (.long u1), .second, .val (.long u2), .second, .val (.int u3), .val (.double (compE u0 (u3 &&& (1 : Int32)))), .second, .val (.double (compE u1 (u3 &&& (2 : Int32)))), .second, .val (.double (compE u2 (u3 &&& (4 : Int32)))), .second, .val (.ref b4), .val (.ref o0), .val (.ref o1)] [(.int (0 : Int32))])) _
    refine XS.ifNo X9.here hx rfl (hb hby at_187) rfl ((if0 _ _).trans (teq (rfl : (0 : Int32) = (0 : Int32))).2) ?_
    show Steps p.tables e below (T9.setTop (mkF m 190 #[.val (.long u0), .second, .val (.long u1), .second, .val (.long u2), .second, .val (.int u3), .val (.double (compE u0 (u3 &&& (1 : Int32)))), .second, .val (.double (compE u1 (u3 &&& (2 : Int32)))), .second, .val (.double (compE u2 (u3 &&& (4 : Int32)))), .second, .val (.ref b4), .val (.ref o0), .val (.ref o1)] [])) _
    refine XS.aload X9.here hx rfl (hb hby at_190) rfl rfl ?_
    show Steps p.tables e below (T9.setTop (mkF m 192 #[.val (.long u0), .second, .val (.long u1), .second, .val (.long u2), .second, .val (.int u3), .val (.double (compE u0 (u3 &&& (1 : Int32)))), .second, .val (.double (compE u1 (u3 &&& (2 : Int32)))), .second, .val (.double (compE u2 (u3 &&& (4 : Int32)))), .second, .val (.ref b4), .val (.ref o0), .val (.ref o1)] [(.ref o0)])) _
    refine XS.iconst X9.here hx rfl (hb hby at_192) ?_
    show Steps p.tables e below (T9.setTop (mkF m 193 #[.val (.long u0), .second, .val (.long u1), .second, .val (.long u2), .second, .val (.int u3), .val (.double (compE u0 (u3 &&& (1 : Int32)))), .second, .val (.double (compE u1 (u3 &&& (2 : Int32)))), .second, .val (.double (compE u2 (u3 &&& (4 : Int32)))), .second, .val (.ref b4), .val (.ref o0), .val (.ref o1)] [(.int (1 : Int32)), (.ref o0)])) _
    refine X9.aaload hx (j := (1 : Int32)) (v := (.ref r01)) (own_at K9 ArO.1) (State.isArrayOf_alike hZ.alike ArO.2.1) rfl ArO.2.2 inO1 (Has.at HO inO1 rfl) (g := (mkF m 193 #[.val (.long u0), .second, .val (.long u1), .second, .val (.long u2), .second, .val (.int u3), .val (.double (compE u0 (u3 &&& (1 : Int32)))), .second, .val (.double (compE u1 (u3 &&& (2 : Int32)))), .second, .val (.double (compE u2 (u3 &&& (4 : Int32)))), .second, .val (.ref b4), .val (.ref o0), .val (.ref o1)] [(.int (1 : Int32)), (.ref o0)])) rfl rfl (hb hby at_193) _ ?_
    show Steps p.tables e below (T9.setTop (mkF m 194 #[.val (.long u0), .second, .val (.long u1), .second, .val (.long u2), .second, .val (.int u3), .val (.double (compE u0 (u3 &&& (1 : Int32)))), .second, .val (.double (compE u1 (u3 &&& (2 : Int32)))), .second, .val (.double (compE u2 (u3 &&& (4 : Int32)))), .second, .val (.ref b4), .val (.ref o0), .val (.ref o1)] [(.ref r01)])) _
    refine XS.iconst X9.here hx rfl (hb hby at_194) ?_
    show Steps p.tables e below (T9.setTop (mkF m 195 #[.val (.long u0), .second, .val (.long u1), .second, .val (.long u2), .second, .val (.int u3), .val (.double (compE u0 (u3 &&& (1 : Int32)))), .second, .val (.double (compE u1 (u3 &&& (2 : Int32)))), .second, .val (.double (compE u2 (u3 &&& (4 : Int32)))), .second, .val (.ref b4), .val (.ref o0), .val (.ref o1)] [(.int (1 : Int32)), (.ref r01)])) _
    refine X9.daload hx (j := (1 : Int32)) (v := (.double FP.dconst0)) (own_at K9 Ar1.1) (State.isArrayOf_alike hZ.alike Ar1.2.1) Ar1.2.2 in11 (Has.at H1 in11 rfl) (g := (mkF m 195 #[.val (.long u0), .second, .val (.long u1), .second, .val (.long u2), .second, .val (.int u3), .val (.double (compE u0 (u3 &&& (1 : Int32)))), .second, .val (.double (compE u1 (u3 &&& (2 : Int32)))), .second, .val (.double (compE u2 (u3 &&& (4 : Int32)))), .second, .val (.ref b4), .val (.ref o0), .val (.ref o1)] [(.int (1 : Int32)), (.ref r01)])) rfl rfl (hb hby at_195) _ ?_
    show Steps p.tables e below (T9.setTop (mkF m 196 #[.val (.long u0), .second, .val (.long u1), .second, .val (.long u2), .second, .val (.int u3), .val (.double (compE u0 (u3 &&& (1 : Int32)))), .second, .val (.double (compE u1 (u3 &&& (2 : Int32)))), .second, .val (.double (compE u2 (u3 &&& (4 : Int32)))), .second, .val (.ref b4), .val (.ref o0), .val (.ref o1)] [(.double FP.dconst0)])) _
    refine st10 _ ?_
    show Steps p.tables e below (T10.setTop (mkF m 199 #[.val (.long u0), .second, .val (.long u1), .second, .val (.long u2), .second, .val (.int u3), .val (.double (compE u0 (u3 &&& (1 : Int32)))), .second, .val (.double (compE u1 (u3 &&& (2 : Int32)))), .second, .val (.double (compE u2 (u3 &&& (4 : Int32)))), .second, .val (.ref b4), .val (.ref o0), .val (.ref o1)] [(.int (1 : Int32))])) _
    refine XS.ifNo X10.here hx rfl (hb hby at_199) rfl ((if0 _ _).trans (feq (by decide : ¬ ((1 : Int32) = (0 : Int32)))).1) ?_
    show Steps p.tables e below (T10.setTop (mkF m 202 #[.val (.long u0), .second, .val (.long u1), .second, .val (.long u2), .second, .val (.int u3), .val (.double (compE u0 (u3 &&& (1 : Int32)))), .second, .val (.double (compE u1 (u3 &&& (2 : Int32)))), .second, .val (.double (compE u2 (u3 &&& (4 : Int32)))), .second, .val (.ref b4), .val (.ref o0), .val (.ref o1)] [])) _
    refine XS.aload X10.here hx rfl (hb hby at_202) rfl rfl ?_
    show Steps p.tables e below (T10.setTop (mkF m 204 #[.val (.long u0), .second, .val (.long u1), .second, .val (.long u2), .second, .val (.int u3), .val (.double (compE u0 (u3 &&& (1 : Int32)))), .second, .val (.double (compE u1 (u3 &&& (2 : Int32)))), .second, .val (.double (compE u2 (u3 &&& (4 : Int32)))), .second, .val (.ref b4), .val (.ref o0), .val (.ref o1)] [(.ref o0)])) _
    refine XS.iconst X10.here hx rfl (hb hby at_204) ?_
    show Steps p.tables e below (T10.setTop (mkF m 205 #[.val (.long u0), .second, .val (.long u1), .second, .val (.long u2), .second, .val (.int u3), .val (.double (compE u0 (u3 &&& (1 : Int32)))), .second, .val (.double (compE u1 (u3 &&& (2 : Int32)))), .second, .val (.double (compE u2 (u3 &&& (4 : Int32)))), .second, .val (.ref b4), .val (.ref o0), .val (.ref o1)] [(.int (1 : Int32)), (.ref o0)])) _
    refine X10.aaload hx (j := (1 : Int32)) (v := (.ref r01)) (own_at K10 ArO.1) (State.isArrayOf_alike hZ.alike ArO.2.1) rfl ArO.2.2 inO1 (Has.at HO inO1 rfl) (g := (mkF m 205 #[.val (.long u0), .second, .val (.long u1), .second, .val (.long u2), .second, .val (.int u3), .val (.double (compE u0 (u3 &&& (1 : Int32)))), .second, .val (.double (compE u1 (u3 &&& (2 : Int32)))), .second, .val (.double (compE u2 (u3 &&& (4 : Int32)))), .second, .val (.ref b4), .val (.ref o0), .val (.ref o1)] [(.int (1 : Int32)), (.ref o0)])) rfl rfl (hb hby at_205) _ ?_
    show Steps p.tables e below (T10.setTop (mkF m 206 #[.val (.long u0), .second, .val (.long u1), .second, .val (.long u2), .second, .val (.int u3), .val (.double (compE u0 (u3 &&& (1 : Int32)))), .second, .val (.double (compE u1 (u3 &&& (2 : Int32)))), .second, .val (.double (compE u2 (u3 &&& (4 : Int32)))), .second, .val (.ref b4), .val (.ref o0), .val (.ref o1)] [(.ref r01)])) _
    refine XS.iconst X10.here hx rfl (hb hby at_206) ?_
    show Steps p.tables e below (T10.setTop (mkF m 207 #[.val (.long u0), .second, .val (.long u1), .second, .val (.long u2), .second, .val (.int u3), .val (.double (compE u0 (u3 &&& (1 : Int32)))), .second, .val (.double (compE u1 (u3 &&& (2 : Int32)))), .second, .val (.double (compE u2 (u3 &&& (4 : Int32)))), .second, .val (.ref b4), .val (.ref o0), .val (.ref o1)] [(.int (2 : Int32)), (.ref r01)])) _
    refine X10.daload hx (j := (2 : Int32)) (v := (.double (ngE (compE u0 (u3 &&& (1 : Int32)))))) (own_at K10 Ar1.1) (State.isArrayOf_alike hZ.alike Ar1.2.1) Ar1.2.2 in12 (Has.at H1 in12 rfl) (g := (mkF m 207 #[.val (.long u0), .second, .val (.long u1), .second, .val (.long u2), .second, .val (.int u3), .val (.double (compE u0 (u3 &&& (1 : Int32)))), .second, .val (.double (compE u1 (u3 &&& (2 : Int32)))), .second, .val (.double (compE u2 (u3 &&& (4 : Int32)))), .second, .val (.ref b4), .val (.ref o0), .val (.ref o1)] [(.int (2 : Int32)), (.ref r01)])) rfl rfl (hb hby at_207) _ ?_
    show Steps p.tables e below (T10.setTop (mkF m 208 #[.val (.long u0), .second, .val (.long u1), .second, .val (.long u2), .second, .val (.int u3), .val (.double (compE u0 (u3 &&& (1 : Int32)))), .second, .val (.double (compE u1 (u3 &&& (2 : Int32)))), .second, .val (.double (compE u2 (u3 &&& (4 : Int32)))), .second, .val (.ref b4), .val (.ref o0), .val (.ref o1)] [(.double (ngE (compE u0 (u3 &&& (1 : Int32)))))])) _
    refine XS.dload X10.here hx rfl (hb hby at_208) rfl ?_
    show Steps p.tables e below (T10.setTop (mkF m 210 #[.val (.long u0), .second, .val (.long u1), .second, .val (.long u2), .second, .val (.int u3), .val (.double (compE u0 (u3 &&& (1 : Int32)))), .second, .val (.double (compE u1 (u3 &&& (2 : Int32)))), .second, .val (.double (compE u2 (u3 &&& (4 : Int32)))), .second, .val (.ref b4), .val (.ref o0), .val (.ref o1)] [(.double (compE u0 (u3 &&& (1 : Int32)))), (.double (ngE (compE u0 (u3 &&& (1 : Int32)))))])) _
    refine st11 _ ?_
    show Steps p.tables e below (T11.setTop (mkF m 213 #[.val (.long u0), .second, .val (.long u1), .second, .val (.long u2), .second, .val (.int u3), .val (.double (compE u0 (u3 &&& (1 : Int32)))), .second, .val (.double (compE u1 (u3 &&& (2 : Int32)))), .second, .val (.double (compE u2 (u3 &&& (4 : Int32)))), .second, .val (.ref b4), .val (.ref o0), .val (.ref o1)] [(.int (1 : Int32))])) _
    refine XS.ifNo X11.here hx rfl (hb hby at_213) rfl ((if0 _ _).trans (feq (by decide : ¬ ((1 : Int32) = (0 : Int32)))).1) ?_
    show Steps p.tables e below (T11.setTop (mkF m 216 #[.val (.long u0), .second, .val (.long u1), .second, .val (.long u2), .second, .val (.int u3), .val (.double (compE u0 (u3 &&& (1 : Int32)))), .second, .val (.double (compE u1 (u3 &&& (2 : Int32)))), .second, .val (.double (compE u2 (u3 &&& (4 : Int32)))), .second, .val (.ref b4), .val (.ref o0), .val (.ref o1)] [])) _
    refine XS.aload X11.here hx rfl (hb hby at_216) rfl rfl ?_
    show Steps p.tables e below (T11.setTop (mkF m 218 #[.val (.long u0), .second, .val (.long u1), .second, .val (.long u2), .second, .val (.int u3), .val (.double (compE u0 (u3 &&& (1 : Int32)))), .second, .val (.double (compE u1 (u3 &&& (2 : Int32)))), .second, .val (.double (compE u2 (u3 &&& (4 : Int32)))), .second, .val (.ref b4), .val (.ref o0), .val (.ref o1)] [(.ref o0)])) _
    refine XS.iconst X11.here hx rfl (hb hby at_218) ?_
    show Steps p.tables e below (T11.setTop (mkF m 219 #[.val (.long u0), .second, .val (.long u1), .second, .val (.long u2), .second, .val (.int u3), .val (.double (compE u0 (u3 &&& (1 : Int32)))), .second, .val (.double (compE u1 (u3 &&& (2 : Int32)))), .second, .val (.double (compE u2 (u3 &&& (4 : Int32)))), .second, .val (.ref b4), .val (.ref o0), .val (.ref o1)] [(.int (2 : Int32)), (.ref o0)])) _
    refine X11.aaload hx (j := (2 : Int32)) (v := (.ref r02)) (own_at K11 ArO.1) (State.isArrayOf_alike hZ.alike ArO.2.1) rfl ArO.2.2 inO2 (Has.at HO inO2 rfl) (g := (mkF m 219 #[.val (.long u0), .second, .val (.long u1), .second, .val (.long u2), .second, .val (.int u3), .val (.double (compE u0 (u3 &&& (1 : Int32)))), .second, .val (.double (compE u1 (u3 &&& (2 : Int32)))), .second, .val (.double (compE u2 (u3 &&& (4 : Int32)))), .second, .val (.ref b4), .val (.ref o0), .val (.ref o1)] [(.int (2 : Int32)), (.ref o0)])) rfl rfl (hb hby at_219) _ ?_
    show Steps p.tables e below (T11.setTop (mkF m 220 #[.val (.long u0), .second, .val (.long u1), .second, .val (.long u2), .second, .val (.int u3), .val (.double (compE u0 (u3 &&& (1 : Int32)))), .second, .val (.double (compE u1 (u3 &&& (2 : Int32)))), .second, .val (.double (compE u2 (u3 &&& (4 : Int32)))), .second, .val (.ref b4), .val (.ref o0), .val (.ref o1)] [(.ref r02)])) _
    refine XS.iconst X11.here hx rfl (hb hby at_220) ?_
    show Steps p.tables e below (T11.setTop (mkF m 221 #[.val (.long u0), .second, .val (.long u1), .second, .val (.long u2), .second, .val (.int u3), .val (.double (compE u0 (u3 &&& (1 : Int32)))), .second, .val (.double (compE u1 (u3 &&& (2 : Int32)))), .second, .val (.double (compE u2 (u3 &&& (4 : Int32)))), .second, .val (.ref b4), .val (.ref o0), .val (.ref o1)] [(.int (0 : Int32)), (.ref r02)])) _
    refine X11.daload hx (j := (0 : Int32)) (v := (.double (ngE (compE u1 (u3 &&& (2 : Int32)))))) (own_at K11 Ar2.1) (State.isArrayOf_alike hZ.alike Ar2.2.1) Ar2.2.2 in20 (Has.at H2 in20 rfl) (g := (mkF m 221 #[.val (.long u0), .second, .val (.long u1), .second, .val (.long u2), .second, .val (.int u3), .val (.double (compE u0 (u3 &&& (1 : Int32)))), .second, .val (.double (compE u1 (u3 &&& (2 : Int32)))), .second, .val (.double (compE u2 (u3 &&& (4 : Int32)))), .second, .val (.ref b4), .val (.ref o0), .val (.ref o1)] [(.int (0 : Int32)), (.ref r02)])) rfl rfl (hb hby at_221) _ ?_
    show Steps p.tables e below (T11.setTop (mkF m 222 #[.val (.long u0), .second, .val (.long u1), .second, .val (.long u2), .second, .val (.int u3), .val (.double (compE u0 (u3 &&& (1 : Int32)))), .second, .val (.double (compE u1 (u3 &&& (2 : Int32)))), .second, .val (.double (compE u2 (u3 &&& (4 : Int32)))), .second, .val (.ref b4), .val (.ref o0), .val (.ref o1)] [(.double (ngE (compE u1 (u3 &&& (2 : Int32)))))])) _
    refine XS.dload X11.here hx rfl (hb hby at_222) rfl ?_
    show Steps p.tables e below (T11.setTop (mkF m 224 #[.val (.long u0), .second, .val (.long u1), .second, .val (.long u2), .second, .val (.int u3), .val (.double (compE u0 (u3 &&& (1 : Int32)))), .second, .val (.double (compE u1 (u3 &&& (2 : Int32)))), .second, .val (.double (compE u2 (u3 &&& (4 : Int32)))), .second, .val (.ref b4), .val (.ref o0), .val (.ref o1)] [(.double (compE u1 (u3 &&& (2 : Int32)))), (.double (ngE (compE u1 (u3 &&& (2 : Int32)))))])) _
    refine st12 _ ?_
    show Steps p.tables e below (T12.setTop (mkF m 227 #[.val (.long u0), .second, .val (.long u1), .second, .val (.long u2), .second, .val (.int u3), .val (.double (compE u0 (u3 &&& (1 : Int32)))), .second, .val (.double (compE u1 (u3 &&& (2 : Int32)))), .second, .val (.double (compE u2 (u3 &&& (4 : Int32)))), .second, .val (.ref b4), .val (.ref o0), .val (.ref o1)] [(.int (1 : Int32))])) _
    refine XS.ifNo X12.here hx rfl (hb hby at_227) rfl ((if0 _ _).trans (feq (by decide : ¬ ((1 : Int32) = (0 : Int32)))).1) ?_
    show Steps p.tables e below (T12.setTop (mkF m 230 #[.val (.long u0), .second, .val (.long u1), .second, .val (.long u2), .second, .val (.int u3), .val (.double (compE u0 (u3 &&& (1 : Int32)))), .second, .val (.double (compE u1 (u3 &&& (2 : Int32)))), .second, .val (.double (compE u2 (u3 &&& (4 : Int32)))), .second, .val (.ref b4), .val (.ref o0), .val (.ref o1)] [])) _
    refine XS.aload X12.here hx rfl (hb hby at_230) rfl rfl ?_
    show Steps p.tables e below (T12.setTop (mkF m 232 #[.val (.long u0), .second, .val (.long u1), .second, .val (.long u2), .second, .val (.int u3), .val (.double (compE u0 (u3 &&& (1 : Int32)))), .second, .val (.double (compE u1 (u3 &&& (2 : Int32)))), .second, .val (.double (compE u2 (u3 &&& (4 : Int32)))), .second, .val (.ref b4), .val (.ref o0), .val (.ref o1)] [(.ref o0)])) _
    refine XS.iconst X12.here hx rfl (hb hby at_232) ?_
    show Steps p.tables e below (T12.setTop (mkF m 233 #[.val (.long u0), .second, .val (.long u1), .second, .val (.long u2), .second, .val (.int u3), .val (.double (compE u0 (u3 &&& (1 : Int32)))), .second, .val (.double (compE u1 (u3 &&& (2 : Int32)))), .second, .val (.double (compE u2 (u3 &&& (4 : Int32)))), .second, .val (.ref b4), .val (.ref o0), .val (.ref o1)] [(.int (2 : Int32)), (.ref o0)])) _
    refine X12.aaload hx (j := (2 : Int32)) (v := (.ref r02)) (own_at K12 ArO.1) (State.isArrayOf_alike hZ.alike ArO.2.1) rfl ArO.2.2 inO2 (Has.at HO inO2 rfl) (g := (mkF m 233 #[.val (.long u0), .second, .val (.long u1), .second, .val (.long u2), .second, .val (.int u3), .val (.double (compE u0 (u3 &&& (1 : Int32)))), .second, .val (.double (compE u1 (u3 &&& (2 : Int32)))), .second, .val (.double (compE u2 (u3 &&& (4 : Int32)))), .second, .val (.ref b4), .val (.ref o0), .val (.ref o1)] [(.int (2 : Int32)), (.ref o0)])) rfl rfl (hb hby at_233) _ ?_
    show Steps p.tables e below (T12.setTop (mkF m 234 #[.val (.long u0), .second, .val (.long u1), .second, .val (.long u2), .second, .val (.int u3), .val (.double (compE u0 (u3 &&& (1 : Int32)))), .second, .val (.double (compE u1 (u3 &&& (2 : Int32)))), .second, .val (.double (compE u2 (u3 &&& (4 : Int32)))), .second, .val (.ref b4), .val (.ref o0), .val (.ref o1)] [(.ref r02)])) _
    refine XS.iconst X12.here hx rfl (hb hby at_234) ?_
    show Steps p.tables e below (T12.setTop (mkF m 235 #[.val (.long u0), .second, .val (.long u1), .second, .val (.long u2), .second, .val (.int u3), .val (.double (compE u0 (u3 &&& (1 : Int32)))), .second, .val (.double (compE u1 (u3 &&& (2 : Int32)))), .second, .val (.double (compE u2 (u3 &&& (4 : Int32)))), .second, .val (.ref b4), .val (.ref o0), .val (.ref o1)] [(.int (1 : Int32)), (.ref r02)])) _
    refine X12.daload hx (j := (1 : Int32)) (v := (.double (compE u0 (u3 &&& (1 : Int32))))) (own_at K12 Ar2.1) (State.isArrayOf_alike hZ.alike Ar2.2.1) Ar2.2.2 in21 (Has.at H2 in21 rfl) (g := (mkF m 235 #[.val (.long u0), .second, .val (.long u1), .second, .val (.long u2), .second, .val (.int u3), .val (.double (compE u0 (u3 &&& (1 : Int32)))), .second, .val (.double (compE u1 (u3 &&& (2 : Int32)))), .second, .val (.double (compE u2 (u3 &&& (4 : Int32)))), .second, .val (.ref b4), .val (.ref o0), .val (.ref o1)] [(.int (1 : Int32)), (.ref r02)])) rfl rfl (hb hby at_235) _ ?_
    show Steps p.tables e below (T12.setTop (mkF m 236 #[.val (.long u0), .second, .val (.long u1), .second, .val (.long u2), .second, .val (.int u3), .val (.double (compE u0 (u3 &&& (1 : Int32)))), .second, .val (.double (compE u1 (u3 &&& (2 : Int32)))), .second, .val (.double (compE u2 (u3 &&& (4 : Int32)))), .second, .val (.ref b4), .val (.ref o0), .val (.ref o1)] [(.double (compE u0 (u3 &&& (1 : Int32))))])) _
    refine XS.dload X12.here hx rfl (hb hby at_236) rfl ?_
    show Steps p.tables e below (T12.setTop (mkF m 238 #[.val (.long u0), .second, .val (.long u1), .second, .val (.long u2), .second, .val (.int u3), .val (.double (compE u0 (u3 &&& (1 : Int32)))), .second, .val (.double (compE u1 (u3 &&& (2 : Int32)))), .second, .val (.double (compE u2 (u3 &&& (4 : Int32)))), .second, .val (.ref b4), .val (.ref o0), .val (.ref o1)] [(.double (compE u0 (u3 &&& (1 : Int32)))), (.double (compE u0 (u3 &&& (1 : Int32))))])) _
    refine XS.dcmpS X12.here hx rfl (hb hby at_238) rfl (v := (0 : Int32)) (dcmpV_self (comp_nn u0 (u3 &&& (1 : Int32))) .l) ?_
    show Steps p.tables e below (T12.setTop (mkF m 239 #[.val (.long u0), .second, .val (.long u1), .second, .val (.long u2), .second, .val (.int u3), .val (.double (compE u0 (u3 &&& (1 : Int32)))), .second, .val (.double (compE u1 (u3 &&& (2 : Int32)))), .second, .val (.double (compE u2 (u3 &&& (4 : Int32)))), .second, .val (.ref b4), .val (.ref o0), .val (.ref o1)] [(.int (0 : Int32))])) _
    refine XS.ifNo X12.here hx rfl (hb hby at_239) rfl ((if0 _ _).trans (teq (rfl : (0 : Int32) = (0 : Int32))).2) ?_
    show Steps p.tables e below (T12.setTop (mkF m 242 #[.val (.long u0), .second, .val (.long u1), .second, .val (.long u2), .second, .val (.int u3), .val (.double (compE u0 (u3 &&& (1 : Int32)))), .second, .val (.double (compE u1 (u3 &&& (2 : Int32)))), .second, .val (.double (compE u2 (u3 &&& (4 : Int32)))), .second, .val (.ref b4), .val (.ref o0), .val (.ref o1)] [])) _
    refine XS.aload X12.here hx rfl (hb hby at_242) rfl rfl ?_
    show Steps p.tables e below (T12.setTop (mkF m 244 #[.val (.long u0), .second, .val (.long u1), .second, .val (.long u2), .second, .val (.int u3), .val (.double (compE u0 (u3 &&& (1 : Int32)))), .second, .val (.double (compE u1 (u3 &&& (2 : Int32)))), .second, .val (.double (compE u2 (u3 &&& (4 : Int32)))), .second, .val (.ref b4), .val (.ref o0), .val (.ref o1)] [(.ref o0)])) _
    refine XS.iconst X12.here hx rfl (hb hby at_244) ?_
    show Steps p.tables e below (T12.setTop (mkF m 245 #[.val (.long u0), .second, .val (.long u1), .second, .val (.long u2), .second, .val (.int u3), .val (.double (compE u0 (u3 &&& (1 : Int32)))), .second, .val (.double (compE u1 (u3 &&& (2 : Int32)))), .second, .val (.double (compE u2 (u3 &&& (4 : Int32)))), .second, .val (.ref b4), .val (.ref o0), .val (.ref o1)] [(.int (2 : Int32)), (.ref o0)])) _
    refine X12.aaload hx (j := (2 : Int32)) (v := (.ref r02)) (own_at K12 ArO.1) (State.isArrayOf_alike hZ.alike ArO.2.1) rfl ArO.2.2 inO2 (Has.at HO inO2 rfl) (g := (mkF m 245 #[.val (.long u0), .second, .val (.long u1), .second, .val (.long u2), .second, .val (.int u3), .val (.double (compE u0 (u3 &&& (1 : Int32)))), .second, .val (.double (compE u1 (u3 &&& (2 : Int32)))), .second, .val (.double (compE u2 (u3 &&& (4 : Int32)))), .second, .val (.ref b4), .val (.ref o0), .val (.ref o1)] [(.int (2 : Int32)), (.ref o0)])) rfl rfl (hb hby at_245) _ ?_
    show Steps p.tables e below (T12.setTop (mkF m 246 #[.val (.long u0), .second, .val (.long u1), .second, .val (.long u2), .second, .val (.int u3), .val (.double (compE u0 (u3 &&& (1 : Int32)))), .second, .val (.double (compE u1 (u3 &&& (2 : Int32)))), .second, .val (.double (compE u2 (u3 &&& (4 : Int32)))), .second, .val (.ref b4), .val (.ref o0), .val (.ref o1)] [(.ref r02)])) _
    refine XS.iconst X12.here hx rfl (hb hby at_246) ?_
    show Steps p.tables e below (T12.setTop (mkF m 247 #[.val (.long u0), .second, .val (.long u1), .second, .val (.long u2), .second, .val (.int u3), .val (.double (compE u0 (u3 &&& (1 : Int32)))), .second, .val (.double (compE u1 (u3 &&& (2 : Int32)))), .second, .val (.double (compE u2 (u3 &&& (4 : Int32)))), .second, .val (.ref b4), .val (.ref o0), .val (.ref o1)] [(.int (2 : Int32)), (.ref r02)])) _
    refine X12.daload hx (j := (2 : Int32)) (v := (.double FP.dconst0)) (own_at K12 Ar2.1) (State.isArrayOf_alike hZ.alike Ar2.2.1) Ar2.2.2 in22 (Has.at H2 in22 rfl) (g := (mkF m 247 #[.val (.long u0), .second, .val (.long u1), .second, .val (.long u2), .second, .val (.int u3), .val (.double (compE u0 (u3 &&& (1 : Int32)))), .second, .val (.double (compE u1 (u3 &&& (2 : Int32)))), .second, .val (.double (compE u2 (u3 &&& (4 : Int32)))), .second, .val (.ref b4), .val (.ref o0), .val (.ref o1)] [(.int (2 : Int32)), (.ref r02)])) rfl rfl (hb hby at_247) _ ?_
    show Steps p.tables e below (T12.setTop (mkF m 248 #[.val (.long u0), .second, .val (.long u1), .second, .val (.long u2), .second, .val (.int u3), .val (.double (compE u0 (u3 &&& (1 : Int32)))), .second, .val (.double (compE u1 (u3 &&& (2 : Int32)))), .second, .val (.double (compE u2 (u3 &&& (4 : Int32)))), .second, .val (.ref b4), .val (.ref o0), .val (.ref o1)] [(.double FP.dconst0)])) _
    refine st13 _ ?_
    show Steps p.tables e below (T13.setTop (mkF m 251 #[.val (.long u0), .second, .val (.long u1), .second, .val (.long u2), .second, .val (.int u3), .val (.double (compE u0 (u3 &&& (1 : Int32)))), .second, .val (.double (compE u1 (u3 &&& (2 : Int32)))), .second, .val (.double (compE u2 (u3 &&& (4 : Int32)))), .second, .val (.ref b4), .val (.ref o0), .val (.ref o1)] [(.int (1 : Int32))])) _
    refine XS.ifNo X13.here hx rfl (hb hby at_251) rfl ((if0 _ _).trans (feq (by decide : ¬ ((1 : Int32) = (0 : Int32)))).1) ?_
    show Steps p.tables e below (T13.setTop (mkF m 254 #[.val (.long u0), .second, .val (.long u1), .second, .val (.long u2), .second, .val (.int u3), .val (.double (compE u0 (u3 &&& (1 : Int32)))), .second, .val (.double (compE u1 (u3 &&& (2 : Int32)))), .second, .val (.double (compE u2 (u3 &&& (4 : Int32)))), .second, .val (.ref b4), .val (.ref o0), .val (.ref o1)] [])) _
    refine XS.iconst X13.here hx rfl (hb hby at_254) ?_
    show Steps p.tables e below (T13.setTop (mkF m 255 #[.val (.long u0), .second, .val (.long u1), .second, .val (.long u2), .second, .val (.int u3), .val (.double (compE u0 (u3 &&& (1 : Int32)))), .second, .val (.double (compE u1 (u3 &&& (2 : Int32)))), .second, .val (.double (compE u2 (u3 &&& (4 : Int32)))), .second, .val (.ref b4), .val (.ref o0), .val (.ref o1)] [(.int (1 : Int32))])) _
    refine XS.goto X13.here hx rfl (pc0 := 255) (pc' := 259) rfl (hb hby at_255) (by decide) (by decide) ?_
    show Steps p.tables e below (T13.setTop (mkF m 259 #[.val (.long u0), .second, .val (.long u1), .second, .val (.long u2), .second, .val (.int u3), .val (.double (compE u0 (u3 &&& (1 : Int32)))), .second, .val (.double (compE u1 (u3 &&& (2 : Int32)))), .second, .val (.double (compE u2 (u3 &&& (4 : Int32)))), .second, .val (.ref b4), .val (.ref o0), .val (.ref o1)] [(.int (1 : Int32))])) _
    exact retN X13 hx (t := .boolean) Bd.returns (by simp) (hb hby at_259) hr
  · show Q0 n0 _ T13.heap _
    rw [K13]
    exact ⟨rfl, NC5⟩
set_option maxRecDepth 65536 in
set_option maxHeartbeats 40000000 in
theorem comes_1 {Post : Tables → Env → Array Value → State → Outcome → State → Prop} (hpost : ∀ tb e args s v u, (limb_1_1.after args s (.returned v) u = true ∧ limb_1_2.after args s (.returned v) u = true ∧ True) → FrameEnd s (.returned v) u (Jvm.fieldLocs frame_1_writes args s ++ Jvm.arrayLocs frame_1_arrays args s ++ Jvm.staticLocs frame_1_statics s) 32 128 → Post tb e args s (.returned v) u) :
    ArmFor flags0 classFile x code maxLocals ret World_1 tables_1 room_1 Calls_1 rest_1 Pre_1 Post := by
  intro l hfl _ _ p e ha hc hk s m args below hf hA hF happ hP
  obtain ⟨hcalls, hrest, hpre⟩ := hP
  obtain ⟨-, -, -, hnamed, -, -, -, hat⟩ := (Spec.applies_iff hf).mp happ
  obtain ⟨hg, hn⟩ := and_e (Cond.before_iff.mp (show (Jvm.Cond.and given_1 narrow_1).before args s = true from hpre))
  obtain ⟨g0, gg0⟩ := and_e hg
  obtain ⟨g1, gg1⟩ := and_e gg0
  obtain ⟨g2, gg2⟩ := and_e gg1
  obtain ⟨g3, gg3⟩ := and_e gg2
  obtain ⟨w0, w1, w2, w3, rfl⟩ : ∃ w0 w1 w2 w3 : Value, args = #[w0, w1, w2, w3] := by
    have hs : args.size = 4 := by simpa [Cond.value, given_1] using g0
    obtain ⟨L⟩ := args
    match L, hs with
    | [w0, w1, w2, w3], _ => exact ⟨w0, w1, w2, w3, rfl⟩
  have hw := fun d (hd : d ∈ tables_1) => atoms_spec (ws := Jvm.Cond.code x code maxLocals ret :: tables_1) hat d (List.mem_cons_of_mem _ hd)
  obtain ⟨i0, ei0⟩ := isL_v g1
  obtain rfl : w0 = (.long i0) := Option.some.inj ei0
  obtain ⟨i1, ei1⟩ := isL_v g2
  obtain rfl : w1 = (.long i1) := Option.some.inj ei1
  obtain ⟨i2, ei2⟩ := isL_v g3
  obtain rfl : w2 = (.long i2) := Option.some.inj ei2
  obtain ⟨i3, ei3⟩ := is_v gg3
  obtain rfl : w3 = (.int i3) := Option.some.inj ei3
  obtain ⟨n, o, h1, h2, h3, _, L, rfl, ⟨rfl, N⟩, hq⟩ := rm0 l s _ hw tables_1 i0 i1 i2 i3 s.heap s.heap.size (Nat.le_refl _) p e ha hc hk s m _ below hf ((Spec.applies_iff_loose hf).mp happ).1 ⟨rfl, State.Warmed39.refl s, rfl⟩ trivial
  refine ⟨n, _, h1, h2, h3, hpost _ _ _ _ _ _ ⟨Cond.after_iff.mpr rfl, Cond.after_iff.mpr (eq_i res_at (Term.int_eval (1)) rfl), trivial⟩ ⟨hq.1, hq.2.1, (hq.2.2.sift fun y hy => Or.inr (N y hy)).mono (by decide) (by decide)⟩⟩
theorem main_1_1 : Claimed_1_1 := comes_1 fun _ _ _ _ _ _ h hF => ⟨h.1, hF⟩
theorem main_1_2 : Claimed_1_2 := comes_1 fun _ _ _ _ _ _ h hF => ⟨h.2.1, hF⟩
end Jvm.Pilot.@@N@@
namespace Jvm.Pilot.@@N@@
open Jvm Jvm.ClassFile Sem Op Lib Jvm.Free Jvm.Stand Jvm.Pilot.@@N@@.Jvm.D
/-! MADE BY PROGRAM (witnessworld.py) out of the Statement's table words and the real class files: 19 classes; the members and pool entries that the words name. The judged class is class 1, her method 1. -/
namespace start1
open Jvm.ClassFile
def u (s : String) : CpInfo := .utf8 (stringToUtf16 s)
/-- a pool by its gaps: so many unusable entries, then the entry; so many at the end -/
def gap : Nat → List CpInfo → List CpInfo
  | 0, r => r
  | n + 1, r => .unusable :: gap n r
def poolList (es : List (Nat × CpInfo)) (last : Nat) : List CpInfo := es.foldr (fun e r => gap e.1 (e.2 :: r)) (gap last [])
def pool (es : List (Nat × CpInfo)) (last : Nat) : Array CpInfo := ⟨poolList es last⟩
def fileOf (pool : Array CpInfo) (this : Nat) (attrs : Array Attribute := #[]) (ms : Array MethodInfo := #[]) (fl : Nat := 33) (sup : Nat := 0) (ifs : Array Nat := #[]) (fds : Array FieldInfo := #[]) : ClassFile where
  minorVersion := 0
  majorVersion := 65
  constantPool := pool
  accessFlags := fl
  thisClass := this
  superClass := sup
  interfaces := ifs
  fields := fds
  methods := ms
  attributes := attrs
def plain (name : String) (sup : Option ClassId) : Class where
  name := name
  kind := .ordinary
  loader := none
  accessFlags := 33
  super := sup
  interfaces := #[]
  cf := none
  fields := #[]
  methods := #[]
  instanceTypes := #[]
  staticTypes := #[]
  resolved := #[]
  callSites := []
  init := .initialized
  statics := none
  mirror := none

def pool0 : Array CpInfo := pool [(5, u "<init>"), (0, u "()V"), (1, .class_ 10), (1, u "java/lang/Object")] 113

def k0c0 : Code := { maxStack := 0, maxLocals := 1, code := object_method_1_code, exceptionTable := #[], attributes := #[] }
def k0m0 : Method := { name := "<init>", desc := "()V", sig := { parameters := [], returnType := none }, accessFlags := 1, code := some k0c0 }
/-- java/lang/Object -/
def k0 : Class := { plain "java/lang/Object" none with
  accessFlags := 33
  interfaces := #[]
  cf := some (fileOf pool0 8 #[] #[{ accessFlags := 1, nameIndex := 5, descriptorIndex := 6, attributes := #[] }] 33 0 #[] #[])
  fields := #[]
  methods := #[k0m0]
  instanceTypes := #[]
  staticTypes := #[]
  resolved := Array.replicate 124 none
  statics := none }

def pool1 : Array CpInfo := pool [(2, .class_ 4), (1, u "java/lang/Object"), (0, u "<init>"), (0, u "()V"), (0, .methodref 8 9), (0, .class_ 10), (0, .nameAndType 11 12), (0, u "com/example/gyrokin/gyrokin/Vector3HatPinLaw"), (0, u "comp"), (0, u "(JI)D"), (0, .class_ 14), (0, u "com/example/gyrokin/gyrokin/Vector3"), (0, .methodref 13 16), (0, .nameAndType 5 17), (0, u "(DDD)V"), (0, .methodref 13 19), (0, .nameAndType 20 21), (0, u "hat"), (0, u "()[[D"), (0, .methodref 8 23), (0, .nameAndType 24 25), (0, u "plusZero"), (0, u "(D)Z"), (0, .methodref 8 27), (0, .nameAndType 28 29), (0, u "negated"), (0, u "(DD)Z"), (2, u "law"), (0, u "(JJJI)Z")] 5

def k1m0 : Method := { name := "<init>", desc := "()V", sig := { parameters := [], returnType := none }, accessFlags := 1, code := none }
def k1c1 : Code := { maxStack := 8, maxLocals := 16, code := code, exceptionTable := #[], attributes := #[] }
def k1m1 : Method := { name := "law", desc := "(JJJI)Z", sig := { parameters := [.long, .long, .long, .int], returnType := some .boolean }, accessFlags := 9, code := some k1c1 }
def k1c2 : Code := { maxStack := 2, maxLocals := 5, code := method_3_code, exceptionTable := #[], attributes := #[] }
def k1m2 : Method := { name := "comp", desc := "(JI)D", sig := { parameters := [.long, .int], returnType := some .double }, accessFlags := 10, code := some k1c2 }
def k1c3 : Code := { maxStack := 4, maxLocals := 2, code := method_4_code, exceptionTable := #[], attributes := #[] }
def k1m3 : Method := { name := "plusZero", desc := "(D)Z", sig := { parameters := [.double], returnType := some .boolean }, accessFlags := 10, code := some k1c3 }
def k1c4 : Code := { maxStack := 4, maxLocals := 4, code := method_5_code, exceptionTable := #[], attributes := #[] }
def k1m4 : Method := { name := "negated", desc := "(DD)Z", sig := { parameters := [.double, .double], returnType := some .boolean }, accessFlags := 10, code := some k1c4 }
/-- com/example/gyrokin/gyrokin/Vector3HatPinLaw -/
def k1 : Class := { plain "com/example/gyrokin/gyrokin/Vector3HatPinLaw" (some 0) with
  accessFlags := 49
  interfaces := #[]
  cf := some (fileOf pool1 8 #[] #[{ accessFlags := 1, nameIndex := 5, descriptorIndex := 6, attributes := #[] }, { accessFlags := 9, nameIndex := 32, descriptorIndex := 33, attributes := #[] }, { accessFlags := 10, nameIndex := 11, descriptorIndex := 12, attributes := #[] }, { accessFlags := 10, nameIndex := 24, descriptorIndex := 25, attributes := #[] }, { accessFlags := 10, nameIndex := 28, descriptorIndex := 29, attributes := #[] }] 49 2 #[] #[])
  fields := #[]
  methods := #[k1m0, k1m1, k1m2, k1m3, k1m4]
  instanceTypes := #[]
  staticTypes := #[]
  resolved := Array.replicate 39 none
  statics := none }

def pool2 : Array CpInfo := pool [(1, .methodref 2 3), (0, .class_ 4), (0, .nameAndType 5 6), (0, u "java/lang/Object"), (0, u "<init>"), (0, u "()V"), (0, .class_ 8), (0, u "java/lang/Record")] 13

def k2c0 : Code := { maxStack := 1, maxLocals := 1, code := jdk_30_method_1_code, exceptionTable := #[], attributes := #[] }
def k2m0 : Method := { name := "<init>", desc := "()V", sig := { parameters := [], returnType := none }, accessFlags := 4, code := some k2c0 }
/-- java/lang/Record -/
def k2 : Class := { plain "java/lang/Record" (some 0) with
  accessFlags := 1057
  interfaces := #[]
  cf := some (fileOf pool2 7 #[] #[{ accessFlags := 4, nameIndex := 5, descriptorIndex := 6, attributes := #[] }] 1057 2 #[] #[])
  fields := #[]
  methods := #[k2m0]
  instanceTypes := #[]
  staticTypes := #[]
  resolved := Array.replicate 22 none
  statics := none }

def pool3 : Array CpInfo := pool [(1, .methodref 2 3), (0, .class_ 4), (0, .nameAndType 5 6), (0, u "java/lang/Record"), (0, u "<init>"), (0, u "()V"), (0, .methodref 8 9), (0, .class_ 10), (0, .nameAndType 11 12), (0, u "com/example/gyrokin/gyrokin/Vector3"), (0, u "requireFiniteComponents"), (0, u "(DDD)V"), (0, .fieldref 8 14), (0, .nameAndType 15 16), (0, u "x"), (0, u "D"), (0, .fieldref 8 18), (0, .nameAndType 19 16), (0, u "y"), (0, .fieldref 8 21), (0, .nameAndType 22 16), (0, u "z"), (7, u "(D)Z"), (24, .class_ 56), (0, u "[D"), (37, .methodref 95 96), (0, .class_ 97), (0, .nameAndType 98 30), (0, u "java/lang/Double"), (0, u "isFinite"), (39, u "SMALLEST_SAFE_SUM_OF_SQUARES"), (16, u "hat"), (0, u "()[[D")] 43

def k3c0 : Code := { maxStack := 6, maxLocals := 7, code := prog_10_method_1_code, exceptionTable := #[], attributes := #[] }
def k3m0 : Method := { name := "<init>", desc := "(DDD)V", sig := { parameters := [.double, .double, .double], returnType := none }, accessFlags := 1, code := some k3c0 }
def k3c1 : Code := { maxStack := 10, maxLocals := 1, code := prog_10_method_9_code, exceptionTable := #[], attributes := #[] }
def k3m1 : Method := { name := "hat", desc := "()[[D", sig := { parameters := [], returnType := some (.array (.array .double)) }, accessFlags := 1, code := some k3c1 }
def k3c2 : Code := { maxStack := 4, maxLocals := 6, code := prog_10_method_19_code, exceptionTable := #[], attributes := #[] }
def k3m2 : Method := { name := "requireFiniteComponents", desc := "(DDD)V", sig := { parameters := [.double, .double, .double], returnType := none }, accessFlags := 10, code := some k3c2 }
/-- com/example/gyrokin/gyrokin/Vector3 -/
def k3 : Class := { plain "com/example/gyrokin/gyrokin/Vector3" (some 2) with
  accessFlags := 49
  interfaces := #[]
  cf := some (fileOf pool3 8 #[] #[{ accessFlags := 1, nameIndex := 5, descriptorIndex := 12, attributes := #[] }, { accessFlags := 1, nameIndex := 155, descriptorIndex := 156, attributes := #[] }, { accessFlags := 10, nameIndex := 11, descriptorIndex := 12, attributes := #[] }] 49 2 #[] #[{ accessFlags := 18, nameIndex := 15, descriptorIndex := 16, attributes := #[] }, { accessFlags := 18, nameIndex := 19, descriptorIndex := 16, attributes := #[] }, { accessFlags := 18, nameIndex := 22, descriptorIndex := 16, attributes := #[] }, { accessFlags := 26, nameIndex := 138, descriptorIndex := 16, attributes := #[] }])
  fields := #[{ name := "x", type := .double, accessFlags := 18, slot := 0, constantValue := 0 }, { name := "y", type := .double, accessFlags := 18, slot := 1, constantValue := 0 }, { name := "z", type := .double, accessFlags := 18, slot := 2, constantValue := 0 }, { name := "SMALLEST_SAFE_SUM_OF_SQUARES", type := .double, accessFlags := 26, slot := 0, constantValue := 0 }]
  methods := #[k3m0, k3m1, k3m2]
  instanceTypes := #[.double, .double, .double]
  staticTypes := #[.double]
  resolved := Array.replicate 200 none
  statics := none }

def pool4 : Array CpInfo := pool [(1, .class_ 2), (0, u "java/io/Serializable"), (0, .class_ 4), (0, u "java/lang/Object")] 2

/-- java/io/Serializable -/
def k4 : Class := { plain "java/io/Serializable" (some 0) with
  accessFlags := 1537
  interfaces := #[]
  cf := some (fileOf pool4 1 #[] #[] 1537 3 #[] #[])
  fields := #[]
  methods := #[]
  instanceTypes := #[]
  staticTypes := #[]
  resolved := Array.replicate 7 none
  statics := none }

def pool5 : Array CpInfo := pool [(2, .class_ 4), (1, u "java/lang/Object"), (0, u "<init>"), (0, u "()V"), (1, .class_ 10), (1, u "java/lang/Number"), (2, .class_ 14), (0, u "java/io/Serializable"), (0, u "serialVersionUID"), (0, u "J")] 20

def k5m0 : Method := { name := "<init>", desc := "()V", sig := { parameters := [], returnType := none }, accessFlags := 1, code := none }
/-- java/lang/Number -/
def k5 : Class := { plain "java/lang/Number" (some 0) with
  accessFlags := 1057
  interfaces := #[4]
  cf := some (fileOf pool5 8 #[] #[{ accessFlags := 1, nameIndex := 5, descriptorIndex := 6, attributes := #[] }] 1057 2 #[13] #[{ accessFlags := 26, nameIndex := 15, descriptorIndex := 16, attributes := #[] }])
  fields := #[{ name := "serialVersionUID", type := .long, accessFlags := 26, slot := 0, constantValue := 0 }]
  methods := #[k5m0]
  instanceTypes := #[]
  staticTypes := #[.long]
  resolved := Array.replicate 37 none
  statics := none }

def pool6 : Array CpInfo := pool [(1, .class_ 2), (0, u "java/lang/Comparable"), (0, .class_ 4), (0, u "java/lang/Object")] 7

/-- java/lang/Comparable -/
def k6 : Class := { plain "java/lang/Comparable" (some 0) with
  accessFlags := 1537
  interfaces := #[]
  cf := some (fileOf pool6 1 #[] #[] 1537 3 #[] #[])
  fields := #[]
  methods := #[]
  instanceTypes := #[]
  staticTypes := #[]
  resolved := Array.replicate 12 none
  statics := none }

def pool7 : Array CpInfo := pool [(1, .class_ 2), (0, u "java/lang/constant/Constable"), (0, .class_ 4), (0, u "java/lang/Object")] 6

/-- java/lang/constant/Constable -/
def k7 : Class := { plain "java/lang/constant/Constable" (some 0) with
  accessFlags := 1537
  interfaces := #[]
  cf := some (fileOf pool7 1 #[] #[] 1537 3 #[] #[])
  fields := #[]
  methods := #[]
  instanceTypes := #[]
  staticTypes := #[]
  resolved := Array.replicate 11 none
  statics := none }

def pool8 : Array CpInfo := pool [(1, .class_ 2), (0, u "java/lang/constant/ConstantDesc"), (0, .class_ 4), (0, u "java/lang/Object")] 32

/-- java/lang/constant/ConstantDesc -/
def k8 : Class := { plain "java/lang/constant/ConstantDesc" (some 0) with
  accessFlags := 1537
  interfaces := #[]
  cf := some (fileOf pool8 1 #[] #[] 1537 3 #[] #[])
  fields := #[]
  methods := #[]
  instanceTypes := #[]
  staticTypes := #[]
  resolved := Array.replicate 37 none
  statics := none }

def pool9 : Array CpInfo := pool [(1, .class_ 2), (0, u "java/lang/Double"), (10, u "isFinite"), (0, u "(D)Z"), (8, .class_ 25), (1, u "java/lang/Math"), (12, .methodref 23 39), (0, .nameAndType 40 41), (0, u "abs"), (0, u "(D)D"), (69, .double 9218868437227405311), (2, .class_ 116), (1, u "java/lang/Number"), (3, u "value"), (0, u "D"), (51, u "TYPE"), (0, u "Ljava/lang/Class;"), (0, .class_ 176), (0, u "java/lang/Comparable"), (0, .class_ 178), (0, u "java/lang/constant/Constable"), (0, .class_ 180), (0, u "java/lang/constant/ConstantDesc"), (0, u "POSITIVE_INFINITY"), (3, u "NEGATIVE_INFINITY"), (2, u "NaN"), (2, u "MAX_VALUE"), (0, u "MIN_NORMAL"), (0, u "MIN_VALUE"), (2, u "SIZE"), (0, u "I"), (1, u "PRECISION"), (1, u "MAX_EXPONENT"), (1, u "MIN_EXPONENT"), (1, u "BYTES"), (3, u "serialVersionUID"), (0, u "J")] 79

def k9c0 : Code := { maxStack := 4, maxLocals := 2, code := jdk_117_method_8_code, exceptionTable := #[], attributes := #[] }
def k9m0 : Method := { name := "isFinite", desc := "(D)Z", sig := { parameters := [.double], returnType := some .boolean }, accessFlags := 9, code := some k9c0 }
/-- java/lang/Double -/
def k9 : Class := { plain "java/lang/Double" (some 5) with
  accessFlags := 49
  interfaces := #[6, 7, 8]
  cf := some (fileOf pool9 1 #[] #[{ accessFlags := 9, nameIndex := 13, descriptorIndex := 14, attributes := #[] }] 49 114 #[175, 177, 179] #[{ accessFlags := 25, nameIndex := 181, descriptorIndex := 121, attributes := #[] }, { accessFlags := 25, nameIndex := 185, descriptorIndex := 121, attributes := #[] }, { accessFlags := 25, nameIndex := 188, descriptorIndex := 121, attributes := #[] }, { accessFlags := 25, nameIndex := 191, descriptorIndex := 121, attributes := #[] }, { accessFlags := 25, nameIndex := 192, descriptorIndex := 121, attributes := #[] }, { accessFlags := 25, nameIndex := 193, descriptorIndex := 121, attributes := #[] }, { accessFlags := 25, nameIndex := 196, descriptorIndex := 197, attributes := #[] }, { accessFlags := 25, nameIndex := 199, descriptorIndex := 197, attributes := #[] }, { accessFlags := 25, nameIndex := 201, descriptorIndex := 197, attributes := #[] }, { accessFlags := 25, nameIndex := 203, descriptorIndex := 197, attributes := #[] }, { accessFlags := 25, nameIndex := 205, descriptorIndex := 197, attributes := #[] }, { accessFlags := 25, nameIndex := 173, descriptorIndex := 174, attributes := #[] }, { accessFlags := 18, nameIndex := 120, descriptorIndex := 121, attributes := #[] }, { accessFlags := 26, nameIndex := 209, descriptorIndex := 210, attributes := #[] }])
  fields := #[{ name := "POSITIVE_INFINITY", type := .double, accessFlags := 25, slot := 0, constantValue := 0 }, { name := "NEGATIVE_INFINITY", type := .double, accessFlags := 25, slot := 1, constantValue := 0 }, { name := "NaN", type := .double, accessFlags := 25, slot := 2, constantValue := 0 }, { name := "MAX_VALUE", type := .double, accessFlags := 25, slot := 3, constantValue := 0 }, { name := "MIN_NORMAL", type := .double, accessFlags := 25, slot := 4, constantValue := 0 }, { name := "MIN_VALUE", type := .double, accessFlags := 25, slot := 5, constantValue := 0 }, { name := "SIZE", type := .int, accessFlags := 25, slot := 6, constantValue := 0 }, { name := "PRECISION", type := .int, accessFlags := 25, slot := 7, constantValue := 0 }, { name := "MAX_EXPONENT", type := .int, accessFlags := 25, slot := 8, constantValue := 0 }, { name := "MIN_EXPONENT", type := .int, accessFlags := 25, slot := 9, constantValue := 0 }, { name := "BYTES", type := .int, accessFlags := 25, slot := 10, constantValue := 0 }, { name := "TYPE", type := (.object "java/lang/Class"), accessFlags := 25, slot := 11, constantValue := 0 }, { name := "value", type := .double, accessFlags := 18, slot := 0, constantValue := 0 }, { name := "serialVersionUID", type := .long, accessFlags := 26, slot := 12, constantValue := 0 }]
  methods := #[k9m0]
  instanceTypes := #[.double]
  staticTypes := #[.double, .double, .double, .double, .double, .double, .int, .int, .int, .int, .int, (.object "java/lang/Class"), .long]
  resolved := Array.replicate 290 none
  statics := none }

def pool10 : Array CpInfo := pool [(1, .class_ 2), (0, u "java/lang/Math"), (1, .class_ 6), (1, u "java/lang/Object"), (0, u "<init>"), (0, u "()V"), (5, u "(D)D"), (83, .class_ 100), (1, u "java/lang/Math$RandomNumberGeneratorHolder"), (23, u "abs"), (47, u "negativeZeroFloatBits"), (0, u "J"), (2, u "negativeZeroDoubleBits"), (68, u "$assertionsDisabled"), (0, u "Z"), (91, u "twoToTheDoubleScaleDown"), (0, u "D"), (4, u "twoToTheDoubleScaleUp"), (9, u "E"), (3, u "PI"), (2, u "TAU"), (2, u "DEGREES_TO_RADIANS"), (0, u "RADIANS_TO_DEGREES")] 94

def k10m0 : Method := { name := "<init>", desc := "()V", sig := { parameters := [], returnType := none }, accessFlags := 2, code := none }
def k10c1 : Code := { maxStack := 4, maxLocals := 2, code := jdk_29_method_64_code, exceptionTable := #[], attributes := #[] }
def k10m1 : Method := { name := "abs", desc := "(D)D", sig := { parameters := [.double], returnType := some .double }, accessFlags := 9, code := some k10c1 }
/-- java/lang/Math -/
def k10 : Class := { plain "java/lang/Math" (some 0) with
  accessFlags := 49
  interfaces := #[]
  cf := some (fileOf pool10 1 #[.nestMembers #[98]] #[{ accessFlags := 2, nameIndex := 7, descriptorIndex := 8, attributes := #[] }, { accessFlags := 9, nameIndex := 124, descriptorIndex := 14, attributes := #[] }] 49 4 #[] #[{ accessFlags := 25, nameIndex := 354, descriptorIndex := 339, attributes := #[] }, { accessFlags := 25, nameIndex := 358, descriptorIndex := 339, attributes := #[] }, { accessFlags := 25, nameIndex := 361, descriptorIndex := 339, attributes := #[] }, { accessFlags := 26, nameIndex := 364, descriptorIndex := 339, attributes := #[] }, { accessFlags := 26, nameIndex := 365, descriptorIndex := 339, attributes := #[] }, { accessFlags := 26, nameIndex := 172, descriptorIndex := 173, attributes := #[] }, { accessFlags := 26, nameIndex := 176, descriptorIndex := 173, attributes := #[] }, { accessFlags := 8, nameIndex := 344, descriptorIndex := 339, attributes := #[] }, { accessFlags := 8, nameIndex := 338, descriptorIndex := 339, attributes := #[] }, { accessFlags := 4120, nameIndex := 245, descriptorIndex := 246, attributes := #[] }])
  fields := #[{ name := "E", type := .double, accessFlags := 25, slot := 0, constantValue := 0 }, { name := "PI", type := .double, accessFlags := 25, slot := 1, constantValue := 0 }, { name := "TAU", type := .double, accessFlags := 25, slot := 2, constantValue := 0 }, { name := "DEGREES_TO_RADIANS", type := .double, accessFlags := 26, slot := 3, constantValue := 0 }, { name := "RADIANS_TO_DEGREES", type := .double, accessFlags := 26, slot := 4, constantValue := 0 }, { name := "negativeZeroFloatBits", type := .long, accessFlags := 26, slot := 5, constantValue := 0 }, { name := "negativeZeroDoubleBits", type := .long, accessFlags := 26, slot := 6, constantValue := 0 }, { name := "twoToTheDoubleScaleUp", type := .double, accessFlags := 8, slot := 7, constantValue := 0 }, { name := "twoToTheDoubleScaleDown", type := .double, accessFlags := 8, slot := 8, constantValue := 0 }, { name := "$assertionsDisabled", type := .boolean, accessFlags := 4120, slot := 9, constantValue := 0 }]
  methods := #[k10m0, k10m1]
  instanceTypes := #[]
  staticTypes := #[.double, .double, .double, .double, .double, .long, .long, .double, .double, .boolean]
  resolved := Array.replicate 460 none
  statics := none }

def pool11 : Array CpInfo := pool [(1, u "java/lang/Cloneable"), (0, .class_ 1), (0, u "java/lang/Object"), (0, .class_ 3)] 3

/-- java/lang/Cloneable -/
def k11 : Class := { plain "java/lang/Cloneable" (some 0) with
  accessFlags := 1537
  interfaces := #[]
  cf := some (fileOf pool11 2 #[] #[] 1537 4 #[] #[])
  fields := #[]
  methods := #[]
  instanceTypes := #[]
  staticTypes := #[]
  resolved := Array.replicate 8 none
  statics := none }

/-- the primitive byte -/
def k12 : Class := { plain "byte" none with kind := .primitive 'B', accessFlags := 0x411 }
/-- [B -/
def k13 : Class := { plain "[B" (some 0) with kind := .array 12 .byte, interfaces := #[11, 4], accessFlags := 1041 }

/-- the primitive double -/
def k14 : Class := { plain "double" none with kind := .primitive 'D', accessFlags := 0x411 }
/-- [D -/
def k15 : Class := { plain "[D" (some 0) with kind := .array 14 .double, interfaces := #[11, 4], accessFlags := 1041 }

/-- the primitive int -/
def k16 : Class := { plain "int" none with kind := .primitive 'I', accessFlags := 0x411 }
/-- [I -/
def k17 : Class := { plain "[I" (some 0) with kind := .array 16 .int, interfaces := #[11, 4], accessFlags := 1041 }

/-- [[D -/
def k18 : Class := { plain "[[D" (some 0) with kind := .array 15 (.array .double), interfaces := #[11, 4], accessFlags := 1041 }

def heap : Heap := #[]
def classes : Array Class := #[k0, k1, k2, k3, k4, k5, k6, k7, k8, k9, k10, k11, k12, k13, k14, k15, k16, k17, k18]
def interned : List (Array UInt16 × Addr) := []
def slotsUsed : Nat := 0
def theMethod : MethodId := ⟨1, 1⟩
def args0 : Array Value := #[.long 5, .long 6, .long 7, .int 3]
def aboutOver (below : List Frame) : State where
  vm := { classes := classes, interned := interned.toArray }
  heap := heap
  slotsUsed := slotsUsed
  threads := #[{ frames := .invoking theMethod args0 :: below }]
def below0 : List Frame := [.native { method := ⟨0, 0⟩, args := #[] }]
def about1 : State := aboutOver below0
def p0 : Program := .bare "" "" ""
def e0 : Env := launch0.env 0 0 0
theorem w_frames : about1.frames = Frame.invoking theMethod args0 :: below0 := rfl
set_option maxRecDepth 65536 in
theorem w_args : argsFit about1.vm theMethod args0 = true := by decide +kernel
set_option maxRecDepth 65536 in
theorem w_heap : heapFits about1 = true := by decide +kernel
set_option maxRecDepth 65536 in
theorem w_runnable : about1.curStatus? = some .runnable := by decide +kernel
set_option maxRecDepth 65536 in
theorem w_alone : about1.alone = true := by decide +kernel
set_option maxRecDepth 65536 in
theorem w_named : about1.methodNamed? x = some theMethod := by decide +kernel
set_option maxRecDepth 65536 in
theorem w_hears : about1.hears theMethod below0 = true := by decide +kernel
set_option maxRecDepth 65536 in
theorem w_ripe : about1.ripe theMethod args0 below0 = true := by decide +kernel
theorem w_running : about1.status = .running := rfl
set_option maxRecDepth 65536 in
theorem w_room : about1.hasRoom e0.platform room_1 = true :=
  launch0.hasRoom_least _ room_1 (by decide +kernel) (by decide +kernel) (by decide +kernel) (by decide +kernel) (by decide +kernel) (by decide +kernel)
theorem allAtoms_all (ts : List Jvm.Cond) (a : Array Jvm.Value) (st : Jvm.State) : (allAtoms ts).before a st = ts.all (fun c => c.before a st) := by
  induction ts with
  | nil => rfl
  | cons c t ih =>
    show (Jvm.Cond.and c (allAtoms t)).before a st = _
    rw [Jvm.Cond.before_and, ih, List.all_cons]
def words1 : List Jvm.Cond := Jvm.Cond.code x code maxLocals ret :: tables_1
/-- a 'code' word, met by the world's own term for the bytes: nothing is compared byte by byte -/
theorem code_word {y : MethodName} {bytes : ByteArray} {mx : Nat} {rt : Option FieldType} {a : Array Value} {s : State} {m : MethodId} {meth : Method} {c : Code} (h1 : s.methodNamed? y = some m) (h2 : s.vm.method? m = some meth) (h3 : meth.code = some c) (h4 : c.code = bytes)
    (h5 : (c.maxLocals == mx && c.exceptionTable.isEmpty && decide (c.maxStack ≤ mostOperands) && decide (meth.sig.returnType = rt) && !meth.locks && decide (parseMethodDescriptor y.desc = some meth.sig)) = true) : (Jvm.Cond.code y bytes mx rt).before a s = true := by
  simp only [Bool.and_eq_true, beq_iff_eq, Bool.not_eq_true', decide_eq_true_eq] at h5
  obtain ⟨⟨⟨⟨⟨g1, g2⟩, g3⟩, g4⟩, g5⟩, g6⟩ := h5
  simp [Cond.before, Cond.holds, Cond.value, h1, h2, h3, h4, g1, g2, g3, g4, g5, g6]
def isCode : Jvm.Cond → Bool
  | .code _ _ _ _ => true
  | _ => false
theorem all_split {L : List Jvm.Cond} {P : Jvm.Cond → Bool} (h1 : L.all (fun c => isCode c || P c) = true) (h2 : ∀ c ∈ L.filter isCode, P c = true) : L.all P = true := by
  refine List.all_eq_true.mpr fun c hc => ?_
  have h := List.all_eq_true.mp h1 c hc
  rcases Bool.eq_false_or_eq_true (isCode c) with hi | hi
  · exact h2 c (List.mem_filter.mpr ⟨hc, hi⟩)
  · simpa [hi] using h
set_option maxRecDepth 65536 in
theorem w_c0 : (Jvm.Cond.code x code maxLocals ret).before args0 about1 = true := code_word (m := ⟨1, 1⟩) (meth := k1m1) (c := k1c1) (by decide +kernel) rfl rfl rfl (by decide +kernel)
set_option maxRecDepth 65536 in
theorem w_c1 : (Jvm.Cond.code ({ cls := "com/example/gyrokin/gyrokin/Vector3HatPinLaw", name := "comp", desc := "(JI)D" } : Jvm.MethodName) method_3_code (5 : Nat) (Option.some Jvm.ClassFile.FieldType.double)).before args0 about1 = true := code_word (m := ⟨1, 2⟩) (meth := k1m2) (c := k1c2) (by decide +kernel) rfl rfl rfl (by decide +kernel)
set_option maxRecDepth 65536 in
theorem w_c2 : (Jvm.Cond.code ({ cls := "com/example/gyrokin/gyrokin/Vector3", name := "<init>", desc := "(DDD)V" } : Jvm.MethodName) prog_10_method_1_code (7 : Nat) (Option.none : Option Jvm.ClassFile.FieldType)).before args0 about1 = true := code_word (m := ⟨3, 0⟩) (meth := k3m0) (c := k3c0) (by decide +kernel) rfl rfl rfl (by decide +kernel)
set_option maxRecDepth 65536 in
theorem w_c3 : (Jvm.Cond.code ({ cls := "java/lang/Record", name := "<init>", desc := "()V" } : Jvm.MethodName) jdk_30_method_1_code (1 : Nat) (Option.none : Option Jvm.ClassFile.FieldType)).before args0 about1 = true := code_word (m := ⟨2, 0⟩) (meth := k2m0) (c := k2c0) (by decide +kernel) rfl rfl rfl (by decide +kernel)
set_option maxRecDepth 65536 in
theorem w_c4 : (Jvm.Cond.code ({ cls := "java/lang/Object", name := "<init>", desc := "()V" } : Jvm.MethodName) object_method_1_code (1 : Nat) (Option.none : Option Jvm.ClassFile.FieldType)).before args0 about1 = true := code_word (m := ⟨0, 0⟩) (meth := k0m0) (c := k0c0) (by decide +kernel) rfl rfl rfl (by decide +kernel)
set_option maxRecDepth 65536 in
theorem w_c5 : (Jvm.Cond.code ({ cls := "com/example/gyrokin/gyrokin/Vector3", name := "requireFiniteComponents", desc := "(DDD)V" } : Jvm.MethodName) prog_10_method_19_code (6 : Nat) (Option.none : Option Jvm.ClassFile.FieldType)).before args0 about1 = true := code_word (m := ⟨3, 2⟩) (meth := k3m2) (c := k3c2) (by decide +kernel) rfl rfl rfl (by decide +kernel)
set_option maxRecDepth 65536 in
theorem w_c6 : (Jvm.Cond.code ({ cls := "java/lang/Double", name := "isFinite", desc := "(D)Z" } : Jvm.MethodName) jdk_117_method_8_code (2 : Nat) (Option.some Jvm.ClassFile.FieldType.boolean)).before args0 about1 = true := code_word (m := ⟨9, 0⟩) (meth := k9m0) (c := k9c0) (by decide +kernel) rfl rfl rfl (by decide +kernel)
set_option maxRecDepth 65536 in
theorem w_c7 : (Jvm.Cond.code ({ cls := "java/lang/Math", name := "abs", desc := "(D)D" } : Jvm.MethodName) jdk_29_method_64_code (2 : Nat) (Option.some Jvm.ClassFile.FieldType.double)).before args0 about1 = true := code_word (m := ⟨10, 1⟩) (meth := k10m1) (c := k10c1) (by decide +kernel) rfl rfl rfl (by decide +kernel)
set_option maxRecDepth 65536 in
theorem w_c8 : (Jvm.Cond.code ({ cls := "com/example/gyrokin/gyrokin/Vector3", name := "hat", desc := "()[[D" } : Jvm.MethodName) prog_10_method_9_code (1 : Nat) (Option.some (Jvm.ClassFile.FieldType.array (Jvm.ClassFile.FieldType.array Jvm.ClassFile.FieldType.double)))).before args0 about1 = true := code_word (m := ⟨3, 1⟩) (meth := k3m1) (c := k3c1) (by decide +kernel) rfl rfl rfl (by decide +kernel)
set_option maxRecDepth 65536 in
theorem w_c9 : (Jvm.Cond.code ({ cls := "com/example/gyrokin/gyrokin/Vector3HatPinLaw", name := "plusZero", desc := "(D)Z" } : Jvm.MethodName) method_4_code (2 : Nat) (Option.some Jvm.ClassFile.FieldType.boolean)).before args0 about1 = true := code_word (m := ⟨1, 3⟩) (meth := k1m3) (c := k1c3) (by decide +kernel) rfl rfl rfl (by decide +kernel)
set_option maxRecDepth 65536 in
theorem w_c10 : (Jvm.Cond.code ({ cls := "com/example/gyrokin/gyrokin/Vector3HatPinLaw", name := "negated", desc := "(DD)Z" } : Jvm.MethodName) method_5_code (4 : Nat) (Option.some Jvm.ClassFile.FieldType.boolean)).before args0 about1 = true := code_word (m := ⟨1, 4⟩) (meth := k1m4) (c := k1c4) (by decide +kernel) rfl rfl rfl (by decide +kernel)
def codes1 : List Jvm.Cond := [Jvm.Cond.code x code maxLocals ret, Jvm.Cond.code ({ cls := "com/example/gyrokin/gyrokin/Vector3HatPinLaw", name := "comp", desc := "(JI)D" } : Jvm.MethodName) method_3_code (5 : Nat) (Option.some Jvm.ClassFile.FieldType.double), Jvm.Cond.code ({ cls := "com/example/gyrokin/gyrokin/Vector3", name := "<init>", desc := "(DDD)V" } : Jvm.MethodName) prog_10_method_1_code (7 : Nat) (Option.none : Option Jvm.ClassFile.FieldType), Jvm.Cond.code ({ cls := "java/lang/Record", name := "<init>", desc := "()V" } : Jvm.MethodName) jdk_30_method_1_code (1 : Nat) (Option.none : Option Jvm.ClassFile.FieldType), Jvm.Cond.code ({ cls := "java/lang/Object", name := "<init>", desc := "()V" } : Jvm.MethodName) object_method_1_code (1 : Nat) (Option.none : Option Jvm.ClassFile.FieldType), Jvm.Cond.code ({ cls := "com/example/gyrokin/gyrokin/Vector3", name := "requireFiniteComponents", desc := "(DDD)V" } : Jvm.MethodName) prog_10_method_19_code (6 : Nat) (Option.none : Option Jvm.ClassFile.FieldType), Jvm.Cond.code ({ cls := "java/lang/Double", name := "isFinite", desc := "(D)Z" } : Jvm.MethodName) jdk_117_method_8_code (2 : Nat) (Option.some Jvm.ClassFile.FieldType.boolean), Jvm.Cond.code ({ cls := "java/lang/Math", name := "abs", desc := "(D)D" } : Jvm.MethodName) jdk_29_method_64_code (2 : Nat) (Option.some Jvm.ClassFile.FieldType.double), Jvm.Cond.code ({ cls := "com/example/gyrokin/gyrokin/Vector3", name := "hat", desc := "()[[D" } : Jvm.MethodName) prog_10_method_9_code (1 : Nat) (Option.some (Jvm.ClassFile.FieldType.array (Jvm.ClassFile.FieldType.array Jvm.ClassFile.FieldType.double))), Jvm.Cond.code ({ cls := "com/example/gyrokin/gyrokin/Vector3HatPinLaw", name := "plusZero", desc := "(D)Z" } : Jvm.MethodName) method_4_code (2 : Nat) (Option.some Jvm.ClassFile.FieldType.boolean), Jvm.Cond.code ({ cls := "com/example/gyrokin/gyrokin/Vector3HatPinLaw", name := "negated", desc := "(DD)Z" } : Jvm.MethodName) method_5_code (4 : Nat) (Option.some Jvm.ClassFile.FieldType.boolean)]
set_option maxRecDepth 65536 in
theorem codes_eq : words1.filter isCode = codes1 := rfl
theorem w_codes : ∀ c ∈ words1.filter isCode, c.before args0 about1 = true := by
  rw [codes_eq]
  intro c hc
  simp only [codes1, List.mem_cons, List.not_mem_nil, or_false] at hc
  rcases hc with rfl | rfl | rfl | rfl | rfl | rfl | rfl | rfl | rfl | rfl | rfl
  · exact w_c0
  · exact w_c1
  · exact w_c2
  · exact w_c3
  · exact w_c4
  · exact w_c5
  · exact w_c6
  · exact w_c7
  · exact w_c8
  · exact w_c9
  · exact w_c10
set_option maxRecDepth 65536 in
theorem w_t1 : (words1.take 24).all (fun c => isCode c || c.before args0 about1) = true := by decide +kernel
set_option maxRecDepth 65536 in
theorem w_t2 : ((words1.drop 24).take 24).all (fun c => isCode c || c.before args0 about1) = true := by decide +kernel
set_option maxRecDepth 65536 in
theorem w_t3 : ((words1.drop 24).drop 24).all (fun c => isCode c || c.before args0 about1) = true := by decide +kernel
theorem w_tables : (allAtoms (Jvm.Cond.code x code maxLocals ret :: tables_1)).before args0 about1 = true := by
  rw [allAtoms_all]
  show words1.all (fun c => c.before args0 about1) = true
  refine all_split ?_ w_codes
  rw [← List.take_append_drop 24 words1, List.all_append, w_t1, ← List.take_append_drop 24 (words1.drop 24), List.all_append, w_t2, w_t3]
  rfl
set_option maxRecDepth 65536 in
theorem w_case : (Jvm.Cond.and given_1 narrow_1).before args0 about1 = true := by decide +kernel
theorem w_applies : (headSpec (Jvm.Cond.code x code maxLocals ret :: tables_1) room_1).applies x e0.platform about1 = true :=
  (Spec.applies_iff w_frames).mpr ⟨w_running, w_runnable, w_alone, w_named, w_hears, w_ripe, w_room, w_tables⟩
theorem atStart : AtStart classFile x code maxLocals ret World_1 tables_1 room_1 Calls_1 rest_1 Pre_1 launch0 p0 e0 about1 theMethod args0 below0 :=
  ⟨lists_1, trivial, launch0.admits_env _ _ _, launch0.least_env, fairChoices_fair.cas, fairChoices_fair.clock, w_frames, w_args, w_heap, w_applies, trivial, trivial, w_case⟩
end start1
theorem witness_1 : WitnessClaimed_1 := ⟨start1.p0, start1.e0, start1.about1, start1.theMethod, start1.args0, start1.below0, start1.atStart⟩
end Jvm.Pilot.@@N@@
