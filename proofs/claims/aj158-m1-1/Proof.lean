import JvmDerived
import JvmDerived.Pilot.@@N@@Statement
import JvmDerived.Pilot.@@N@@Code
set_option linter.unusedVariables false
set_option linter.unusedSimpArgs false
namespace Jvm.Pilot.@@N@@
open Jvm Jvm.ClassFile Sem Op Lib Jvm.Free Jvm.Stand Jvm.LawKit Jvm.RoadKit Bundle Jvm.Pilot.@@N@@.Jvm.D
section Own
variable {p : Program} {l : Launch} {e : Env} {R : Room} {s : State} {m : MethodId} {args : Array Value} {below : List Frame} {meth : Method} {c : Code} {T : State} {locs : List Loc} {cells slots : Nat}
/-- the return of a double -/
theorem own_retD (X : Stand p l e R s m args below meth c T locs cells slots) (hx : p.tables.exec = Jvm.exec) {pc : Nat} {Ls : Array Slot} {z : UInt64} {rest : List Value} (hret : meth.sig.returnType = some .double) (hd : decode c.code pc = .ok (.dreturn, 1)) {fs : List Frame}
    (hl : ∀ (f : JFrame) (acts : List Action), f.method = m → f.locked = none → f.entered = [] → (doReturn e (T.setTop f) acts (some (.double z))).1 = T.setFrames fs) : Steps p.tables e below (T.setTop (mkF m pc Ls (.double z :: rest))) (T.setFrames fs) := by
  have hm' : T.vm.method? m = some meth := X.method'
  have hn : narrow .double (.double z) = .double z := rfl
  show Steps p.tables e below (T.setTop { method := m, pc := pc, locals := Ls, stack := _ :: rest, locked := none }) _
  jvm_step X.here [X.here.top, hx, hd, hm', hret, hn]
  first | (intro acts; rw [hl _ acts rfl rfl rfl]) | rw [hl _ _ rfl rfl rfl]
  exact Steps.refl _
/-- the return of an int -/
theorem retI (X : Stand p l e R s m args below meth c T locs cells slots) (hx : p.tables.exec = Jvm.exec) {pc : Nat} {Ls : Array Slot} {z : Int32} {rest : List Value} (hret : meth.sig.returnType = some .int) (hd : decode c.code pc = .ok (.ireturn, 1)) {fs : List Frame}
    (hl : ∀ (f : JFrame) (acts : List Action), f.method = m → f.locked = none → f.entered = [] → (doReturn e (T.setTop f) acts (some (.int z))).1 = T.setFrames fs) : Steps p.tables e below (T.setTop (mkF m pc Ls (.int z :: rest))) (T.setFrames fs) := by
  have hm' : T.vm.method? m = some meth := X.method'
  have hn : narrow .int (.int z) = .int z := rfl
  show Steps p.tables e below (T.setTop { method := m, pc := pc, locals := Ls, stack := _ :: rest, locked := none }) _
  jvm_step X.here [X.here.top, hx, hd, hm', hret, hn]
  first | (intro acts; rw [hl _ acts rfl rfl rfl]) | rw [hl _ _ rfl rfl rfl]
  exact Steps.refl _
/-- a cell, read over the heap's other name -/
theorem own_at {h : Heap} {a : Addr} {cl : Cell} (q : T.heap = h) (k : h[a]? = some cl) : T.heap[a]? = some cl := by rw [q]; exact k
/-- the remainder as the machine reckons it is the remainder -/
theorem own_rem (x y : Int32) : x - (x / y) * y = x % y := by
  have a := c_isub x (x / y * y)
  have b := c_imul (x / y) y
  have e := bm32 (x.toInt.tdiv y.toInt)
  have f := Int.mul_tdiv_add_tmod x.toInt y.toInt
  have r := rng32 (x - x / y * y)
  have r' := rng32 (x % y)
  rw [← Int32.toInt_div] at e
  rw [← Int32.toInt_mod, Int.mul_comm] at f
  obtain ⟨k, hk⟩ : ∃ k, (x / y).toInt = x.toInt.tdiv y.toInt + 4294967296 * k := ⟨((x / y).toInt - x.toInt.tdiv y.toInt) / 4294967296, by omega⟩
  have g : (x / y).toInt * y.toInt = x.toInt.tdiv y.toInt * y.toInt + 4294967296 * (k * y.toInt) := by rw [hk, Int.add_mul, Int.mul_assoc]
  apply Int32.toInt_inj.mp
  omega
theorem own_irem {tb : Tables} [Ours tb] {target : State} {g : JFrame} (h : At T m c below) (hx : tb.exec = Jvm.exec) (hg : g.method = m) {x y : Int32} {rest : List Value} (hd : decode c.code g.pc = .ok (.irem, 1)) (hs : g.stack = .int y :: .int x :: rest) (hy : y ≠ 0)
    (hr : Steps tb e below (T.setTop { g with pc := g.pc + 1, stack := .int (x % y) :: rest }) target) : Steps tb e below (T.setTop g) target :=
  XS.irem h hx hg hd hs hy (by rw [own_rem]; exact hr)
end Own
theorem own_rng (u : Int32) : 0 ≤ (u &&& 1073741823).toInt ∧ (u &&& 1073741823).toInt < 1073741824 := by
  have k := c_mask u 1073741823 30 (by decide) (by decide)
  have : ((2 ^ 30 : Nat) : Int) = 1073741824 := rfl
  rw [this] at k
  omega
theorem own_low (r : Int32) : (r &&& 3).toInt = r.toInt % 4 := c_mask r 3 2 (by decide) (by decide)
theorem own_idx (r i t : Int32) (k : Int) (hr : 0 ≤ r.toInt ∧ r.toInt < 1073741824) (hm : r.toInt % 4 = k) (hi : 0 ≤ i.toInt ∧ i.toInt ≤ 3) (ht : t.toInt = (k + i.toInt) % 4) : (r + i) % 4 = t := by
  have k1 := c_iadd r i
  have k2 := rng32 (r + i)
  have k3 : (r + i).toInt = r.toInt + i.toInt := by omega
  have k4 := (c_irem (r + i) 4 4 (by decide)).1 (by omega)
  apply Int32.toInt_inj.mp
  rw [k4, ht]; omega
theorem own_idx0 (r t : Int32) (k : Int) (hr : 0 ≤ r.toInt ∧ r.toInt < 1073741824) (hm : r.toInt % 4 = k) (ht : t.toInt = k % 4) : r % 4 = t := by
  have k4 := (c_irem r 4 4 (by decide)).1 (by omega)
  apply Int32.toInt_inj.mp
  rw [k4, ht]; omega
open Jvm.Free.Fl in
theorem own_mag (a b : Int64) : Mag64 1090 (FP.dadd (FP.l2d a) (FP.l2d b)) := dadd_mag (l2d_mag a) (l2d_mag b) (by decide)
open Jvm.Free.Fl in
theorem own_nA (a b : Int64) : NoNaN64 (FP.dadd (FP.l2d a) (FP.l2d b)) := ((own_mag a b).fin (by decide)).noNaN
open Jvm.Free.Fl in
theorem own_nC (a b u v : Int64) : NoNaN64 (FP.dadd (FP.dadd (FP.l2d a) (FP.l2d b)) (FP.dadd (FP.l2d u) (FP.l2d v))) := ((dadd_mag (own_mag a b) (own_mag u v) (by decide)).fin (by decide)).noNaN
theorem d_prog_8_method_16_code_0 : decode prog_8_method_16_code 0 = .ok (.iconst 4, 1) := by decide +kernel
theorem d_prog_8_method_16_code_1 : decode prog_8_method_16_code 1 = .ok (.newarray .double, 2) := by decide +kernel
theorem d_prog_8_method_16_code_3 : decode prog_8_method_16_code 3 = .ok (.astore 9, 2) := by decide +kernel
theorem d_prog_8_method_16_code_5 : decode prog_8_method_16_code 5 = .ok (.aload 9, 2) := by decide +kernel
theorem d_prog_8_method_16_code_7 : decode prog_8_method_16_code 7 = .ok (.iload_n 0, 1) := by decide +kernel
theorem d_prog_8_method_16_code_8 : decode prog_8_method_16_code 8 = .ok (.iconst 4, 1) := by decide +kernel
theorem d_prog_8_method_16_code_9 : decode prog_8_method_16_code 9 = .ok (.irem, 1) := by decide +kernel
theorem d_prog_8_method_16_code_10 : decode prog_8_method_16_code 10 = .ok (.dload_n 1, 1) := by decide +kernel
theorem d_prog_8_method_16_code_11 : decode prog_8_method_16_code 11 = .ok (.dastore, 1) := by decide +kernel
theorem d_prog_8_method_16_code_12 : decode prog_8_method_16_code 12 = .ok (.aload 9, 2) := by decide +kernel
theorem d_prog_8_method_16_code_14 : decode prog_8_method_16_code 14 = .ok (.iload_n 0, 1) := by decide +kernel
theorem d_prog_8_method_16_code_15 : decode prog_8_method_16_code 15 = .ok (.iconst 1, 1) := by decide +kernel
theorem d_prog_8_method_16_code_16 : decode prog_8_method_16_code 16 = .ok (.iadd, 1) := by decide +kernel
theorem d_prog_8_method_16_code_17 : decode prog_8_method_16_code 17 = .ok (.iconst 4, 1) := by decide +kernel
theorem d_prog_8_method_16_code_18 : decode prog_8_method_16_code 18 = .ok (.irem, 1) := by decide +kernel
theorem d_prog_8_method_16_code_19 : decode prog_8_method_16_code 19 = .ok (.dload_n 3, 1) := by decide +kernel
theorem d_prog_8_method_16_code_20 : decode prog_8_method_16_code 20 = .ok (.dastore, 1) := by decide +kernel
theorem d_prog_8_method_16_code_21 : decode prog_8_method_16_code 21 = .ok (.aload 9, 2) := by decide +kernel
theorem d_prog_8_method_16_code_23 : decode prog_8_method_16_code 23 = .ok (.iload_n 0, 1) := by decide +kernel
theorem d_prog_8_method_16_code_24 : decode prog_8_method_16_code 24 = .ok (.iconst 2, 1) := by decide +kernel
theorem d_prog_8_method_16_code_25 : decode prog_8_method_16_code 25 = .ok (.iadd, 1) := by decide +kernel
theorem d_prog_8_method_16_code_26 : decode prog_8_method_16_code 26 = .ok (.iconst 4, 1) := by decide +kernel
theorem d_prog_8_method_16_code_27 : decode prog_8_method_16_code 27 = .ok (.irem, 1) := by decide +kernel
theorem d_prog_8_method_16_code_28 : decode prog_8_method_16_code 28 = .ok (.dload 5, 2) := by decide +kernel
theorem d_prog_8_method_16_code_30 : decode prog_8_method_16_code 30 = .ok (.dastore, 1) := by decide +kernel
theorem d_prog_8_method_16_code_31 : decode prog_8_method_16_code 31 = .ok (.aload 9, 2) := by decide +kernel
theorem d_prog_8_method_16_code_33 : decode prog_8_method_16_code 33 = .ok (.iload_n 0, 1) := by decide +kernel
theorem d_prog_8_method_16_code_34 : decode prog_8_method_16_code 34 = .ok (.iconst 3, 1) := by decide +kernel
theorem d_prog_8_method_16_code_35 : decode prog_8_method_16_code 35 = .ok (.iadd, 1) := by decide +kernel
theorem d_prog_8_method_16_code_36 : decode prog_8_method_16_code 36 = .ok (.iconst 4, 1) := by decide +kernel
theorem d_prog_8_method_16_code_37 : decode prog_8_method_16_code 37 = .ok (.irem, 1) := by decide +kernel
theorem d_prog_8_method_16_code_38 : decode prog_8_method_16_code 38 = .ok (.dload 7, 2) := by decide +kernel
theorem d_prog_8_method_16_code_40 : decode prog_8_method_16_code 40 = .ok (.dastore, 1) := by decide +kernel
theorem d_prog_8_method_16_code_41 : decode prog_8_method_16_code 41 = .ok (.aload 9, 2) := by decide +kernel
theorem d_prog_8_method_16_code_43 : decode prog_8_method_16_code 43 = .ok (.iconst 0, 1) := by decide +kernel
theorem d_prog_8_method_16_code_44 : decode prog_8_method_16_code 44 = .ok (.daload, 1) := by decide +kernel
theorem d_prog_8_method_16_code_45 : decode prog_8_method_16_code 45 = .ok (.aload 9, 2) := by decide +kernel
theorem d_prog_8_method_16_code_47 : decode prog_8_method_16_code 47 = .ok (.iconst 1, 1) := by decide +kernel
theorem d_prog_8_method_16_code_48 : decode prog_8_method_16_code 48 = .ok (.daload, 1) := by decide +kernel
theorem d_prog_8_method_16_code_49 : decode prog_8_method_16_code 49 = .ok (.dadd, 1) := by decide +kernel
theorem d_prog_8_method_16_code_50 : decode prog_8_method_16_code 50 = .ok (.aload 9, 2) := by decide +kernel
theorem d_prog_8_method_16_code_52 : decode prog_8_method_16_code 52 = .ok (.iconst 2, 1) := by decide +kernel
theorem d_prog_8_method_16_code_53 : decode prog_8_method_16_code 53 = .ok (.daload, 1) := by decide +kernel
theorem d_prog_8_method_16_code_54 : decode prog_8_method_16_code 54 = .ok (.aload 9, 2) := by decide +kernel
theorem d_prog_8_method_16_code_56 : decode prog_8_method_16_code 56 = .ok (.iconst 3, 1) := by decide +kernel
theorem d_prog_8_method_16_code_57 : decode prog_8_method_16_code 57 = .ok (.daload, 1) := by decide +kernel
theorem d_prog_8_method_16_code_58 : decode prog_8_method_16_code 58 = .ok (.dadd, 1) := by decide +kernel
theorem d_prog_8_method_16_code_59 : decode prog_8_method_16_code 59 = .ok (.dadd, 1) := by decide +kernel
theorem d_prog_8_method_16_code_60 : decode prog_8_method_16_code 60 = .ok (.dreturn, 1) := by decide +kernel
theorem pn_prog_8_method_16_code : plainName "com/example/rowfold/rowfold/CodeArray" = true := by first | (simp [plainName, overriddenIn]; done) | decide +kernel
theorem pn_code : plainName "com/example/rowfold/rowfold/CodeArrayAddLanesPinLaw" = true := by first | (simp [plainName, overriddenIn]; done) | decide +kernel
theorem pd__IDDDD_D : parseMethodDescriptor "(IDDDD)D" = some ⟨[.int, .double, .double, .double, .double], some .double⟩ := by decide +kernel
def QA (r : UInt64) (n0 : Nat) (v : Option Value) (h : Heap) (L : List Loc) : Prop := v = some (.double r) ∧ Fr n0 L
def Q0 (n0 : Nat) (v : Option Value) (h : Heap) (L : List Loc) : Prop := v = some (.int 1) ∧ Fr n0 L
theorem ef_prog_8_method_16_code (m : MethodId) (x0 : Int32) (x1 : UInt64) (x2 : UInt64) (x3 : UInt64) (x4 : UInt64) : entryFrame m #[(.int x0), (.double x1), (.double x2), (.double x3), (.double x4)] 10 = mkF m 0 #[.val (.int x0), .val (.double x1), .second, .val (.double x2), .second, .val (.double x3), .second, .val (.double x4), .second, .unset] [] := by first | (simp [entryFrame, mkF, argsToLocals, Value.category]; done) | rfl
set_option maxRecDepth 65536 in
set_option maxHeartbeats 40000000 in
theorem rmA_0 (l : Launch) (Z : State) (a0 : Array Value) (hw : ∀ d ∈ tables_1, d.before a0 Z = true) (ws : List Jvm.Cond) (u : Int32) (x0 x1 x2 x3 : UInt64) (h0 : Heap) (n0 : Nat) (Z0 : n0 ≤ h0.size) (hj0 : (u % (4 : Int32)) = 0) (hj1 : ((u + (1 : Int32)) % (4 : Int32)) = 1) (hj2 : ((u + (2 : Int32)) % (4 : Int32)) = 2) (hj3 : ((u + (3 : Int32)) % (4 : Int32)) = 3) (hn49 : Jvm.Free.Fl.NoNaN64 (FP.dadd x0 x1)) (hn58 : Jvm.Free.Fl.NoNaN64 (FP.dadd x2 x3)) (hn59 : Jvm.Free.Fl.NoNaN64 (FP.dadd (FP.dadd x0 x1) (FP.dadd x2 x3))) :
    MetFree l (⟨"com/example/rowfold/rowfold/CodeArray", "addLanes", "(IDDDD)D"⟩ : MethodName) (head1 (Jvm.Cond.code (⟨"com/example/rowfold/rowfold/CodeArray", "addLanes", "(IDDDD)D"⟩ : MethodName) prog_8_method_16_code 10 (some .double) :: ws) ({ frames := 0, cells := 1, slots := 4, locals := 0 } : Room)) (fun aa U => aa = #[(.int u), (.double x0), (.double x1), (.double x2), (.double x3)] ∧ Z.Warmed39 U.vm ∧ U.heap = h0) (fun _ _ _ _ _ => True) (fun _ U o U' => ∃ v L, o = .returned v ∧ QA (FP.dadd (FP.dadd x0 x1) (FP.dadd x2 x3)) n0 v U'.heap L ∧ FrameEnd U o U' L ({ frames := 0, cells := 1, slots := 4, locals := 0 } : Room).cells ({ frames := 0, cells := 1, slots := 4, locals := 0 } : Room).slots) := by
  refine MetFree.of_bodySF (plainFor_of_name pn_prog_8_method_16_code) hisR ?_
  intro p e s m args below meth c s₁ Bd hml0 hP hK
  obtain ⟨rfl, hZ, hh⟩ := hP
  have hx := Bd.exec
  have hby := Bd.bytes
  have hml : c.maxLocals = 10 := hml0
  have hown : s.vm.findClass "com/example/rowfold/rowfold/CodeArray" = some m.cls := findClass_of_methodNamed Bd.named
  have hnm := (name_of_methodNamed Bd.named Bd.method).1
  have X0 : Stand p l e ({ frames := 0, cells := 1, slots := 4, locals := 0 } : Room) s m #[(.int u), (.double x0), (.double x1), (.double x2), (.double x3)] below meth c s₁ [] 0 0 := Stand.of_body Bd
  have e0 : s₁.heap = h0 := by rw [← hh, Bd.state]; rfl
  have N0 := Fr.nil n0
  have pre0 : ∀ t, Steps p.tables e below (s₁.setTop (mkF m 0 #[.val (.int u), .val (.double x0), .second, .val (.double x1), .second, .val (.double x2), .second, .val (.double x3), .second, .unset] [])) t → Steps p.tables e below (s₁.setTop (entryFrame m #[(.int u), (.double x0), (.double x1), (.double x2), (.double x3)] 10)) t := fun t k => castTop (ef_prog_8_method_16_code m u x0 x1 x2 x3) k
  obtain ⟨T1, h1, k1, X1, e1, E1, A1, st1⟩ := newP X0 hx hZ (hw _ (List.mem_of_getElem? (i := 5) rfl)) e0 (g := (mkF m 1 #[.val (.int u), .val (.double x0), .second, .val (.double x1), .second, .val (.double x2), .second, .val (.double x3), .second, .unset] [(.int (4 : Int32))])) rfl (hb hby d_prog_8_method_16_code_1) rfl (by decide) (cap := 4) (by decide) (by decide) (by decide) (by decide)
  obtain ⟨b1, g1⟩ : ∃ z, z = h0.size := ⟨_, rfl⟩
  rw [← g1] at A1 st1
  have V0 : Arv Z h1 b1 k1 .double (4 : Int32) [(.double 0), (.double 0), (.double 0), (.double 0)] (.double 0) := (Arv.new A1 (by decide)).pad (pad_rep [] (.double 0) 4)
  have gb : n0 ≤ b1 := Nat.le_trans Z0 (Nat.le_of_eq g1.symm)
  obtain ⟨cl0, Ar0, q0, S0, N0_, H0, G0⟩ := V0
  have hin0 : ¬ ((u % (4 : Int32)) < 0 ∨ cl0.slots.size ≤ ((u % (4 : Int32))).toNatClampNeg) := inb_of S0 ⟨by rw [hj0]; decide, by rw [hj0]; decide⟩
  obtain ⟨T2, h2, X2, e2, W2, st2⟩ := stD X1 hx hZ e1 Ar0 (j := (u % (4 : Int32))) hin0 (g := (mkF m 11 #[.val (.int u), .val (.double x0), .second, .val (.double x1), .second, .val (.double x2), .second, .val (.double x3), .second, .val (.ref b1)] [(.double x0), (.int (u % (4 : Int32))), (.ref b1)])) rfl rfl (hb hby d_prog_8_method_16_code_11)
  have V1 : Arv Z h2 b1 k1 .double (4 : Int32) [(.double x0), (.double 0), (.double 0), (.double 0)] (.double 0) := Arv.set Ar0 q0 S0 N0_ H0 G0 rfl W2 0 (by rw [hj0]; rfl) (Nat.le_of_ble_eq_true rfl)
  have NF0 := Fr.snoc X2 N0 gb
  obtain ⟨cl1, Ar1, q1, S1, N1_, H1, G1⟩ := V1
  have hin1 : ¬ (((u + (1 : Int32)) % (4 : Int32)) < 0 ∨ cl1.slots.size ≤ (((u + (1 : Int32)) % (4 : Int32))).toNatClampNeg) := inb_of S1 ⟨by rw [hj1]; decide, by rw [hj1]; decide⟩
  obtain ⟨T3, h3, X3, e3, W3, st3⟩ := stD X2 hx hZ e2 Ar1 (j := ((u + (1 : Int32)) % (4 : Int32))) hin1 (g := (mkF m 20 #[.val (.int u), .val (.double x0), .second, .val (.double x1), .second, .val (.double x2), .second, .val (.double x3), .second, .val (.ref b1)] [(.double x1), (.int ((u + (1 : Int32)) % (4 : Int32))), (.ref b1)])) rfl rfl (hb hby d_prog_8_method_16_code_20)
  have V2 : Arv Z h3 b1 k1 .double (4 : Int32) [(.double x0), (.double x1), (.double 0), (.double 0)] (.double 0) := Arv.set Ar1 q1 S1 N1_ H1 G1 rfl W3 1 (by rw [hj1]; rfl) (Nat.le_of_ble_eq_true rfl)
  have NF1 := Fr.snoc X3 NF0 gb
  obtain ⟨cl2, Ar2, q2, S2, N2_, H2, G2⟩ := V2
  have hin2 : ¬ (((u + (2 : Int32)) % (4 : Int32)) < 0 ∨ cl2.slots.size ≤ (((u + (2 : Int32)) % (4 : Int32))).toNatClampNeg) := inb_of S2 ⟨by rw [hj2]; decide, by rw [hj2]; decide⟩
  obtain ⟨T4, h4, X4, e4, W4, st4⟩ := stD X3 hx hZ e3 Ar2 (j := ((u + (2 : Int32)) % (4 : Int32))) hin2 (g := (mkF m 30 #[.val (.int u), .val (.double x0), .second, .val (.double x1), .second, .val (.double x2), .second, .val (.double x3), .second, .val (.ref b1)] [(.double x2), (.int ((u + (2 : Int32)) % (4 : Int32))), (.ref b1)])) rfl rfl (hb hby d_prog_8_method_16_code_30)
  have V3 : Arv Z h4 b1 k1 .double (4 : Int32) [(.double x0), (.double x1), (.double x2), (.double 0)] (.double 0) := Arv.set Ar2 q2 S2 N2_ H2 G2 rfl W4 2 (by rw [hj2]; rfl) (Nat.le_of_ble_eq_true rfl)
  have NF2 := Fr.snoc X4 NF1 gb
  obtain ⟨cl3, Ar3, q3, S3, N3_, H3, G3⟩ := V3
  have hin3 : ¬ (((u + (3 : Int32)) % (4 : Int32)) < 0 ∨ cl3.slots.size ≤ (((u + (3 : Int32)) % (4 : Int32))).toNatClampNeg) := inb_of S3 ⟨by rw [hj3]; decide, by rw [hj3]; decide⟩
  obtain ⟨T5, h5, X5, e5, W5, st5⟩ := stD X4 hx hZ e4 Ar3 (j := ((u + (3 : Int32)) % (4 : Int32))) hin3 (g := (mkF m 40 #[.val (.int u), .val (.double x0), .second, .val (.double x1), .second, .val (.double x2), .second, .val (.double x3), .second, .val (.ref b1)] [(.double x3), (.int ((u + (3 : Int32)) % (4 : Int32))), (.ref b1)])) rfl rfl (hb hby d_prog_8_method_16_code_40)
  have V4 : Arv Z h5 b1 k1 .double (4 : Int32) [(.double x0), (.double x1), (.double x2), (.double x3)] (.double 0) := Arv.set Ar3 q3 S3 N3_ H3 G3 rfl W5 3 (by rw [hj3]; rfl) (Nat.le_of_ble_eq_true rfl)
  have NF3 := Fr.snoc X5 NF2 gb
  obtain ⟨cl4, Ar4, q4, S4, N4_, H4, G4⟩ := V4
  have hin4 : ¬ ((0 : Int32) < 0 ∨ cl4.slots.size ≤ (0 : Int32).toNatClampNeg) := inb_of S4 ⟨by decide, by decide⟩
  have hin5 : ¬ ((1 : Int32) < 0 ∨ cl4.slots.size ≤ (1 : Int32).toNatClampNeg) := inb_of S4 ⟨by decide, by decide⟩
  have hin6 : ¬ ((2 : Int32) < 0 ∨ cl4.slots.size ≤ (2 : Int32).toNatClampNeg) := inb_of S4 ⟨by decide, by decide⟩
  have hin7 : ¬ ((3 : Int32) < 0 ∨ cl4.slots.size ≤ (3 : Int32).toNatClampNeg) := inb_of S4 ⟨by decide, by decide⟩
  obtain ⟨fs, hr, hrun, hended, hW, hsame⟩ := X5.leave (v := some (.double (FP.dadd (FP.dadd x0 x1) (FP.dadd x2 x3)))) (fun h => by rw [Bd.returns] at h; cases h)
  refine ⟨_, _, pre0 _ ?_, hrun, hended, _, _, rfl, ?_, ⟨_, rfl⟩, hW, hsame.mono (by decide) (by decide)⟩
  · show Steps p.tables e below (s₁.setTop (mkF m 0 #[.val (.int u), .val (.double x0), .second, .val (.double x1), .second, .val (.double x2), .second, .val (.double x3), .second, .unset] [])) _
    refine XS.iconst X0.here hx rfl (hb hby d_prog_8_method_16_code_0) ?_
    show Steps p.tables e below (s₁.setTop (mkF m 1 #[.val (.int u), .val (.double x0), .second, .val (.double x1), .second, .val (.double x2), .second, .val (.double x3), .second, .unset] [(.int (4 : Int32))])) _
    refine st1 _ ?_
    show Steps p.tables e below (T1.setTop (mkF m 3 #[.val (.int u), .val (.double x0), .second, .val (.double x1), .second, .val (.double x2), .second, .val (.double x3), .second, .unset] [(.ref b1)])) _
    refine XS.astore X1.here hx rfl (hb hby d_prog_8_method_16_code_3) rfl rfl (l' := #[.val (.int u), .val (.double x0), .second, .val (.double x1), .second, .val (.double x2), .second, .val (.double x3), .second, .val (.ref b1)]) rfl ?_
    show Steps p.tables e below (T1.setTop (mkF m 5 #[.val (.int u), .val (.double x0), .second, .val (.double x1), .second, .val (.double x2), .second, .val (.double x3), .second, .val (.ref b1)] [])) _
    refine XS.aload X1.here hx rfl (hb hby d_prog_8_method_16_code_5) rfl rfl ?_
    show Steps p.tables e below (T1.setTop (mkF m 7 #[.val (.int u), .val (.double x0), .second, .val (.double x1), .second, .val (.double x2), .second, .val (.double x3), .second, .val (.ref b1)] [(.ref b1)])) _
    refine XS.iloadN X1.here hx rfl (hb hby d_prog_8_method_16_code_7) rfl ?_
    show Steps p.tables e below (T1.setTop (mkF m 8 #[.val (.int u), .val (.double x0), .second, .val (.double x1), .second, .val (.double x2), .second, .val (.double x3), .second, .val (.ref b1)] [(.int u), (.ref b1)])) _
    refine XS.iconst X1.here hx rfl (hb hby d_prog_8_method_16_code_8) ?_
    show Steps p.tables e below (T1.setTop (mkF m 9 #[.val (.int u), .val (.double x0), .second, .val (.double x1), .second, .val (.double x2), .second, .val (.double x3), .second, .val (.ref b1)] [(.int (4 : Int32)), (.int u), (.ref b1)])) _
    refine own_irem X1.here hx rfl (hb hby d_prog_8_method_16_code_9) rfl (by decide) ?_
    show Steps p.tables e below (T1.setTop (mkF m 10 #[.val (.int u), .val (.double x0), .second, .val (.double x1), .second, .val (.double x2), .second, .val (.double x3), .second, .val (.ref b1)] [(.int (u % (4 : Int32))), (.ref b1)])) _
    refine XS.dloadN X1.here hx rfl (hb hby d_prog_8_method_16_code_10) rfl ?_
    show Steps p.tables e below (T1.setTop (mkF m 11 #[.val (.int u), .val (.double x0), .second, .val (.double x1), .second, .val (.double x2), .second, .val (.double x3), .second, .val (.ref b1)] [(.double x0), (.int (u % (4 : Int32))), (.ref b1)])) _
    refine st2 _ ?_
    show Steps p.tables e below (T2.setTop (mkF m 12 #[.val (.int u), .val (.double x0), .second, .val (.double x1), .second, .val (.double x2), .second, .val (.double x3), .second, .val (.ref b1)] [])) _
    refine XS.aload X2.here hx rfl (hb hby d_prog_8_method_16_code_12) rfl rfl ?_
    show Steps p.tables e below (T2.setTop (mkF m 14 #[.val (.int u), .val (.double x0), .second, .val (.double x1), .second, .val (.double x2), .second, .val (.double x3), .second, .val (.ref b1)] [(.ref b1)])) _
    refine XS.iloadN X2.here hx rfl (hb hby d_prog_8_method_16_code_14) rfl ?_
    show Steps p.tables e below (T2.setTop (mkF m 15 #[.val (.int u), .val (.double x0), .second, .val (.double x1), .second, .val (.double x2), .second, .val (.double x3), .second, .val (.ref b1)] [(.int u), (.ref b1)])) _
    refine XS.iconst X2.here hx rfl (hb hby d_prog_8_method_16_code_15) ?_
    show Steps p.tables e below (T2.setTop (mkF m 16 #[.val (.int u), .val (.double x0), .second, .val (.double x1), .second, .val (.double x2), .second, .val (.double x3), .second, .val (.ref b1)] [(.int (1 : Int32)), (.int u), (.ref b1)])) _
    refine XS.iadd X2.here hx rfl (hb hby d_prog_8_method_16_code_16) rfl ?_
    show Steps p.tables e below (T2.setTop (mkF m 17 #[.val (.int u), .val (.double x0), .second, .val (.double x1), .second, .val (.double x2), .second, .val (.double x3), .second, .val (.ref b1)] [(.int (u + (1 : Int32))), (.ref b1)])) _
    refine XS.iconst X2.here hx rfl (hb hby d_prog_8_method_16_code_17) ?_
    show Steps p.tables e below (T2.setTop (mkF m 18 #[.val (.int u), .val (.double x0), .second, .val (.double x1), .second, .val (.double x2), .second, .val (.double x3), .second, .val (.ref b1)] [(.int (4 : Int32)), (.int (u + (1 : Int32))), (.ref b1)])) _
    refine own_irem X2.here hx rfl (hb hby d_prog_8_method_16_code_18) rfl (by decide) ?_
    show Steps p.tables e below (T2.setTop (mkF m 19 #[.val (.int u), .val (.double x0), .second, .val (.double x1), .second, .val (.double x2), .second, .val (.double x3), .second, .val (.ref b1)] [(.int ((u + (1 : Int32)) % (4 : Int32))), (.ref b1)])) _
    refine XS.dloadN X2.here hx rfl (hb hby d_prog_8_method_16_code_19) rfl ?_
    show Steps p.tables e below (T2.setTop (mkF m 20 #[.val (.int u), .val (.double x0), .second, .val (.double x1), .second, .val (.double x2), .second, .val (.double x3), .second, .val (.ref b1)] [(.double x1), (.int ((u + (1 : Int32)) % (4 : Int32))), (.ref b1)])) _
    refine st3 _ ?_
    show Steps p.tables e below (T3.setTop (mkF m 21 #[.val (.int u), .val (.double x0), .second, .val (.double x1), .second, .val (.double x2), .second, .val (.double x3), .second, .val (.ref b1)] [])) _
    refine XS.aload X3.here hx rfl (hb hby d_prog_8_method_16_code_21) rfl rfl ?_
    show Steps p.tables e below (T3.setTop (mkF m 23 #[.val (.int u), .val (.double x0), .second, .val (.double x1), .second, .val (.double x2), .second, .val (.double x3), .second, .val (.ref b1)] [(.ref b1)])) _
    refine XS.iloadN X3.here hx rfl (hb hby d_prog_8_method_16_code_23) rfl ?_
    show Steps p.tables e below (T3.setTop (mkF m 24 #[.val (.int u), .val (.double x0), .second, .val (.double x1), .second, .val (.double x2), .second, .val (.double x3), .second, .val (.ref b1)] [(.int u), (.ref b1)])) _
    refine XS.iconst X3.here hx rfl (hb hby d_prog_8_method_16_code_24) ?_
    show Steps p.tables e below (T3.setTop (mkF m 25 #[.val (.int u), .val (.double x0), .second, .val (.double x1), .second, .val (.double x2), .second, .val (.double x3), .second, .val (.ref b1)] [(.int (2 : Int32)), (.int u), (.ref b1)])) _
    refine XS.iadd X3.here hx rfl (hb hby d_prog_8_method_16_code_25) rfl ?_
    show Steps p.tables e below (T3.setTop (mkF m 26 #[.val (.int u), .val (.double x0), .second, .val (.double x1), .second, .val (.double x2), .second, .val (.double x3), .second, .val (.ref b1)] [(.int (u + (2 : Int32))), (.ref b1)])) _
    refine XS.iconst X3.here hx rfl (hb hby d_prog_8_method_16_code_26) ?_
    show Steps p.tables e below (T3.setTop (mkF m 27 #[.val (.int u), .val (.double x0), .second, .val (.double x1), .second, .val (.double x2), .second, .val (.double x3), .second, .val (.ref b1)] [(.int (4 : Int32)), (.int (u + (2 : Int32))), (.ref b1)])) _
    refine own_irem X3.here hx rfl (hb hby d_prog_8_method_16_code_27) rfl (by decide) ?_
    show Steps p.tables e below (T3.setTop (mkF m 28 #[.val (.int u), .val (.double x0), .second, .val (.double x1), .second, .val (.double x2), .second, .val (.double x3), .second, .val (.ref b1)] [(.int ((u + (2 : Int32)) % (4 : Int32))), (.ref b1)])) _
    refine XS.dload X3.here hx rfl (hb hby d_prog_8_method_16_code_28) rfl ?_
    show Steps p.tables e below (T3.setTop (mkF m 30 #[.val (.int u), .val (.double x0), .second, .val (.double x1), .second, .val (.double x2), .second, .val (.double x3), .second, .val (.ref b1)] [(.double x2), (.int ((u + (2 : Int32)) % (4 : Int32))), (.ref b1)])) _
    refine st4 _ ?_
    show Steps p.tables e below (T4.setTop (mkF m 31 #[.val (.int u), .val (.double x0), .second, .val (.double x1), .second, .val (.double x2), .second, .val (.double x3), .second, .val (.ref b1)] [])) _
    refine XS.aload X4.here hx rfl (hb hby d_prog_8_method_16_code_31) rfl rfl ?_
    show Steps p.tables e below (T4.setTop (mkF m 33 #[.val (.int u), .val (.double x0), .second, .val (.double x1), .second, .val (.double x2), .second, .val (.double x3), .second, .val (.ref b1)] [(.ref b1)])) _
    refine XS.iloadN X4.here hx rfl (hb hby d_prog_8_method_16_code_33) rfl ?_
    show Steps p.tables e below (T4.setTop (mkF m 34 #[.val (.int u), .val (.double x0), .second, .val (.double x1), .second, .val (.double x2), .second, .val (.double x3), .second, .val (.ref b1)] [(.int u), (.ref b1)])) _
    refine XS.iconst X4.here hx rfl (hb hby d_prog_8_method_16_code_34) ?_
    show Steps p.tables e below (T4.setTop (mkF m 35 #[.val (.int u), .val (.double x0), .second, .val (.double x1), .second, .val (.double x2), .second, .val (.double x3), .second, .val (.ref b1)] [(.int (3 : Int32)), (.int u), (.ref b1)])) _
    refine XS.iadd X4.here hx rfl (hb hby d_prog_8_method_16_code_35) rfl ?_
    show Steps p.tables e below (T4.setTop (mkF m 36 #[.val (.int u), .val (.double x0), .second, .val (.double x1), .second, .val (.double x2), .second, .val (.double x3), .second, .val (.ref b1)] [(.int (u + (3 : Int32))), (.ref b1)])) _
    refine XS.iconst X4.here hx rfl (hb hby d_prog_8_method_16_code_36) ?_
    show Steps p.tables e below (T4.setTop (mkF m 37 #[.val (.int u), .val (.double x0), .second, .val (.double x1), .second, .val (.double x2), .second, .val (.double x3), .second, .val (.ref b1)] [(.int (4 : Int32)), (.int (u + (3 : Int32))), (.ref b1)])) _
    refine own_irem X4.here hx rfl (hb hby d_prog_8_method_16_code_37) rfl (by decide) ?_
    show Steps p.tables e below (T4.setTop (mkF m 38 #[.val (.int u), .val (.double x0), .second, .val (.double x1), .second, .val (.double x2), .second, .val (.double x3), .second, .val (.ref b1)] [(.int ((u + (3 : Int32)) % (4 : Int32))), (.ref b1)])) _
    refine XS.dload X4.here hx rfl (hb hby d_prog_8_method_16_code_38) rfl ?_
    show Steps p.tables e below (T4.setTop (mkF m 40 #[.val (.int u), .val (.double x0), .second, .val (.double x1), .second, .val (.double x2), .second, .val (.double x3), .second, .val (.ref b1)] [(.double x3), (.int ((u + (3 : Int32)) % (4 : Int32))), (.ref b1)])) _
    refine st5 _ ?_
    show Steps p.tables e below (T5.setTop (mkF m 41 #[.val (.int u), .val (.double x0), .second, .val (.double x1), .second, .val (.double x2), .second, .val (.double x3), .second, .val (.ref b1)] [])) _
    refine XS.aload X5.here hx rfl (hb hby d_prog_8_method_16_code_41) rfl rfl ?_
    show Steps p.tables e below (T5.setTop (mkF m 43 #[.val (.int u), .val (.double x0), .second, .val (.double x1), .second, .val (.double x2), .second, .val (.double x3), .second, .val (.ref b1)] [(.ref b1)])) _
    refine XS.iconst X5.here hx rfl (hb hby d_prog_8_method_16_code_43) ?_
    show Steps p.tables e below (T5.setTop (mkF m 44 #[.val (.int u), .val (.double x0), .second, .val (.double x1), .second, .val (.double x2), .second, .val (.double x3), .second, .val (.ref b1)] [(.int (0 : Int32)), (.ref b1)])) _
    refine X5.daload hx (j := (0 : Int32)) (v := (.double x0)) (own_at e5 Ar4.1) (State.isArrayOf_alike hZ.alike Ar4.2.1) Ar4.2.2 hin4 (Has.at H4 hin4 rfl) (g := (mkF m 44 #[.val (.int u), .val (.double x0), .second, .val (.double x1), .second, .val (.double x2), .second, .val (.double x3), .second, .val (.ref b1)] [(.int (0 : Int32)), (.ref b1)])) rfl rfl (hb hby d_prog_8_method_16_code_44) _ ?_
    show Steps p.tables e below (T5.setTop (mkF m 45 #[.val (.int u), .val (.double x0), .second, .val (.double x1), .second, .val (.double x2), .second, .val (.double x3), .second, .val (.ref b1)] [(.double x0)])) _
    refine XS.aload X5.here hx rfl (hb hby d_prog_8_method_16_code_45) rfl rfl ?_
    show Steps p.tables e below (T5.setTop (mkF m 47 #[.val (.int u), .val (.double x0), .second, .val (.double x1), .second, .val (.double x2), .second, .val (.double x3), .second, .val (.ref b1)] [(.ref b1), (.double x0)])) _
    refine XS.iconst X5.here hx rfl (hb hby d_prog_8_method_16_code_47) ?_
    show Steps p.tables e below (T5.setTop (mkF m 48 #[.val (.int u), .val (.double x0), .second, .val (.double x1), .second, .val (.double x2), .second, .val (.double x3), .second, .val (.ref b1)] [(.int (1 : Int32)), (.ref b1), (.double x0)])) _
    refine X5.daload hx (j := (1 : Int32)) (v := (.double x1)) (own_at e5 Ar4.1) (State.isArrayOf_alike hZ.alike Ar4.2.1) Ar4.2.2 hin5 (Has.at H4 hin5 rfl) (g := (mkF m 48 #[.val (.int u), .val (.double x0), .second, .val (.double x1), .second, .val (.double x2), .second, .val (.double x3), .second, .val (.ref b1)] [(.int (1 : Int32)), (.ref b1), (.double x0)])) rfl rfl (hb hby d_prog_8_method_16_code_48) _ ?_
    show Steps p.tables e below (T5.setTop (mkF m 49 #[.val (.int u), .val (.double x0), .second, .val (.double x1), .second, .val (.double x2), .second, .val (.double x3), .second, .val (.ref b1)] [(.double x1), (.double x0)])) _
    refine XS.daddS X5.here hx rfl (hb hby d_prog_8_method_16_code_49) rfl hn49 (v := (FP.dadd x0 x1)) rfl ?_
    show Steps p.tables e below (T5.setTop (mkF m 50 #[.val (.int u), .val (.double x0), .second, .val (.double x1), .second, .val (.double x2), .second, .val (.double x3), .second, .val (.ref b1)] [(.double (FP.dadd x0 x1))])) _
    refine XS.aload X5.here hx rfl (hb hby d_prog_8_method_16_code_50) rfl rfl ?_
    show Steps p.tables e below (T5.setTop (mkF m 52 #[.val (.int u), .val (.double x0), .second, .val (.double x1), .second, .val (.double x2), .second, .val (.double x3), .second, .val (.ref b1)] [(.ref b1), (.double (FP.dadd x0 x1))])) _
    refine XS.iconst X5.here hx rfl (hb hby d_prog_8_method_16_code_52) ?_
    show Steps p.tables e below (T5.setTop (mkF m 53 #[.val (.int u), .val (.double x0), .second, .val (.double x1), .second, .val (.double x2), .second, .val (.double x3), .second, .val (.ref b1)] [(.int (2 : Int32)), (.ref b1), (.double (FP.dadd x0 x1))])) _
    refine X5.daload hx (j := (2 : Int32)) (v := (.double x2)) (own_at e5 Ar4.1) (State.isArrayOf_alike hZ.alike Ar4.2.1) Ar4.2.2 hin6 (Has.at H4 hin6 rfl) (g := (mkF m 53 #[.val (.int u), .val (.double x0), .second, .val (.double x1), .second, .val (.double x2), .second, .val (.double x3), .second, .val (.ref b1)] [(.int (2 : Int32)), (.ref b1), (.double (FP.dadd x0 x1))])) rfl rfl (hb hby d_prog_8_method_16_code_53) _ ?_
    show Steps p.tables e below (T5.setTop (mkF m 54 #[.val (.int u), .val (.double x0), .second, .val (.double x1), .second, .val (.double x2), .second, .val (.double x3), .second, .val (.ref b1)] [(.double x2), (.double (FP.dadd x0 x1))])) _
    refine XS.aload X5.here hx rfl (hb hby d_prog_8_method_16_code_54) rfl rfl ?_
    show Steps p.tables e below (T5.setTop (mkF m 56 #[.val (.int u), .val (.double x0), .second, .val (.double x1), .second, .val (.double x2), .second, .val (.double x3), .second, .val (.ref b1)] [(.ref b1), (.double x2), (.double (FP.dadd x0 x1))])) _
    refine XS.iconst X5.here hx rfl (hb hby d_prog_8_method_16_code_56) ?_
    show Steps p.tables e below (T5.setTop (mkF m 57 #[.val (.int u), .val (.double x0), .second, .val (.double x1), .second, .val (.double x2), .second, .val (.double x3), .second, .val (.ref b1)] [(.int (3 : Int32)), (.ref b1), (.double x2), (.double (FP.dadd x0 x1))])) _
    refine X5.daload hx (j := (3 : Int32)) (v := (.double x3)) (own_at e5 Ar4.1) (State.isArrayOf_alike hZ.alike Ar4.2.1) Ar4.2.2 hin7 (Has.at H4 hin7 rfl) (g := (mkF m 57 #[.val (.int u), .val (.double x0), .second, .val (.double x1), .second, .val (.double x2), .second, .val (.double x3), .second, .val (.ref b1)] [(.int (3 : Int32)), (.ref b1), (.double x2), (.double (FP.dadd x0 x1))])) rfl rfl (hb hby d_prog_8_method_16_code_57) _ ?_
    show Steps p.tables e below (T5.setTop (mkF m 58 #[.val (.int u), .val (.double x0), .second, .val (.double x1), .second, .val (.double x2), .second, .val (.double x3), .second, .val (.ref b1)] [(.double x3), (.double x2), (.double (FP.dadd x0 x1))])) _
    refine XS.daddS X5.here hx rfl (hb hby d_prog_8_method_16_code_58) rfl hn58 (v := (FP.dadd x2 x3)) rfl ?_
    show Steps p.tables e below (T5.setTop (mkF m 59 #[.val (.int u), .val (.double x0), .second, .val (.double x1), .second, .val (.double x2), .second, .val (.double x3), .second, .val (.ref b1)] [(.double (FP.dadd x2 x3)), (.double (FP.dadd x0 x1))])) _
    refine XS.daddS X5.here hx rfl (hb hby d_prog_8_method_16_code_59) rfl hn59 (v := (FP.dadd (FP.dadd x0 x1) (FP.dadd x2 x3))) rfl ?_
    show Steps p.tables e below (T5.setTop (mkF m 60 #[.val (.int u), .val (.double x0), .second, .val (.double x1), .second, .val (.double x2), .second, .val (.double x3), .second, .val (.ref b1)] [(.double (FP.dadd (FP.dadd x0 x1) (FP.dadd x2 x3)))])) _
    exact own_retD X5 hx Bd.returns (hb hby d_prog_8_method_16_code_60) hr
  · show QA (FP.dadd (FP.dadd x0 x1) (FP.dadd x2 x3)) n0 _ T5.heap _
    rw [e5]
    exact ⟨rfl, NF3⟩
set_option maxRecDepth 65536 in
set_option maxHeartbeats 40000000 in
theorem rmA_1 (l : Launch) (Z : State) (a0 : Array Value) (hw : ∀ d ∈ tables_1, d.before a0 Z = true) (ws : List Jvm.Cond) (u : Int32) (x0 x1 x2 x3 : UInt64) (h0 : Heap) (n0 : Nat) (Z0 : n0 ≤ h0.size) (hj0 : (u % (4 : Int32)) = 1) (hj1 : ((u + (1 : Int32)) % (4 : Int32)) = 2) (hj2 : ((u + (2 : Int32)) % (4 : Int32)) = 3) (hj3 : ((u + (3 : Int32)) % (4 : Int32)) = 0) (hn49 : Jvm.Free.Fl.NoNaN64 (FP.dadd x3 x0)) (hn58 : Jvm.Free.Fl.NoNaN64 (FP.dadd x1 x2)) (hn59 : Jvm.Free.Fl.NoNaN64 (FP.dadd (FP.dadd x3 x0) (FP.dadd x1 x2))) :
    MetFree l (⟨"com/example/rowfold/rowfold/CodeArray", "addLanes", "(IDDDD)D"⟩ : MethodName) (head1 (Jvm.Cond.code (⟨"com/example/rowfold/rowfold/CodeArray", "addLanes", "(IDDDD)D"⟩ : MethodName) prog_8_method_16_code 10 (some .double) :: ws) ({ frames := 0, cells := 1, slots := 4, locals := 0 } : Room)) (fun aa U => aa = #[(.int u), (.double x0), (.double x1), (.double x2), (.double x3)] ∧ Z.Warmed39 U.vm ∧ U.heap = h0) (fun _ _ _ _ _ => True) (fun _ U o U' => ∃ v L, o = .returned v ∧ QA (FP.dadd (FP.dadd x3 x0) (FP.dadd x1 x2)) n0 v U'.heap L ∧ FrameEnd U o U' L ({ frames := 0, cells := 1, slots := 4, locals := 0 } : Room).cells ({ frames := 0, cells := 1, slots := 4, locals := 0 } : Room).slots) := by
  refine MetFree.of_bodySF (plainFor_of_name pn_prog_8_method_16_code) hisR ?_
  intro p e s m args below meth c s₁ Bd hml0 hP hK
  obtain ⟨rfl, hZ, hh⟩ := hP
  have hx := Bd.exec
  have hby := Bd.bytes
  have hml : c.maxLocals = 10 := hml0
  have hown : s.vm.findClass "com/example/rowfold/rowfold/CodeArray" = some m.cls := findClass_of_methodNamed Bd.named
  have hnm := (name_of_methodNamed Bd.named Bd.method).1
  have X0 : Stand p l e ({ frames := 0, cells := 1, slots := 4, locals := 0 } : Room) s m #[(.int u), (.double x0), (.double x1), (.double x2), (.double x3)] below meth c s₁ [] 0 0 := Stand.of_body Bd
  have e0 : s₁.heap = h0 := by rw [← hh, Bd.state]; rfl
  have N0 := Fr.nil n0
  have pre0 : ∀ t, Steps p.tables e below (s₁.setTop (mkF m 0 #[.val (.int u), .val (.double x0), .second, .val (.double x1), .second, .val (.double x2), .second, .val (.double x3), .second, .unset] [])) t → Steps p.tables e below (s₁.setTop (entryFrame m #[(.int u), (.double x0), (.double x1), (.double x2), (.double x3)] 10)) t := fun t k => castTop (ef_prog_8_method_16_code m u x0 x1 x2 x3) k
  obtain ⟨T1, h1, k1, X1, e1, E1, A1, st1⟩ := newP X0 hx hZ (hw _ (List.mem_of_getElem? (i := 5) rfl)) e0 (g := (mkF m 1 #[.val (.int u), .val (.double x0), .second, .val (.double x1), .second, .val (.double x2), .second, .val (.double x3), .second, .unset] [(.int (4 : Int32))])) rfl (hb hby d_prog_8_method_16_code_1) rfl (by decide) (cap := 4) (by decide) (by decide) (by decide) (by decide)
  obtain ⟨b1, g1⟩ : ∃ z, z = h0.size := ⟨_, rfl⟩
  rw [← g1] at A1 st1
  have V0 : Arv Z h1 b1 k1 .double (4 : Int32) [(.double 0), (.double 0), (.double 0), (.double 0)] (.double 0) := (Arv.new A1 (by decide)).pad (pad_rep [] (.double 0) 4)
  have gb : n0 ≤ b1 := Nat.le_trans Z0 (Nat.le_of_eq g1.symm)
  obtain ⟨cl0, Ar0, q0, S0, N0_, H0, G0⟩ := V0
  have hin0 : ¬ ((u % (4 : Int32)) < 0 ∨ cl0.slots.size ≤ ((u % (4 : Int32))).toNatClampNeg) := inb_of S0 ⟨by rw [hj0]; decide, by rw [hj0]; decide⟩
  obtain ⟨T2, h2, X2, e2, W2, st2⟩ := stD X1 hx hZ e1 Ar0 (j := (u % (4 : Int32))) hin0 (g := (mkF m 11 #[.val (.int u), .val (.double x0), .second, .val (.double x1), .second, .val (.double x2), .second, .val (.double x3), .second, .val (.ref b1)] [(.double x0), (.int (u % (4 : Int32))), (.ref b1)])) rfl rfl (hb hby d_prog_8_method_16_code_11)
  have V1 : Arv Z h2 b1 k1 .double (4 : Int32) [(.double 0), (.double x0), (.double 0), (.double 0)] (.double 0) := Arv.set Ar0 q0 S0 N0_ H0 G0 rfl W2 1 (by rw [hj0]; rfl) (Nat.le_of_ble_eq_true rfl)
  have NF0 := Fr.snoc X2 N0 gb
  obtain ⟨cl1, Ar1, q1, S1, N1_, H1, G1⟩ := V1
  have hin1 : ¬ (((u + (1 : Int32)) % (4 : Int32)) < 0 ∨ cl1.slots.size ≤ (((u + (1 : Int32)) % (4 : Int32))).toNatClampNeg) := inb_of S1 ⟨by rw [hj1]; decide, by rw [hj1]; decide⟩
  obtain ⟨T3, h3, X3, e3, W3, st3⟩ := stD X2 hx hZ e2 Ar1 (j := ((u + (1 : Int32)) % (4 : Int32))) hin1 (g := (mkF m 20 #[.val (.int u), .val (.double x0), .second, .val (.double x1), .second, .val (.double x2), .second, .val (.double x3), .second, .val (.ref b1)] [(.double x1), (.int ((u + (1 : Int32)) % (4 : Int32))), (.ref b1)])) rfl rfl (hb hby d_prog_8_method_16_code_20)
  have V2 : Arv Z h3 b1 k1 .double (4 : Int32) [(.double 0), (.double x0), (.double x1), (.double 0)] (.double 0) := Arv.set Ar1 q1 S1 N1_ H1 G1 rfl W3 2 (by rw [hj1]; rfl) (Nat.le_of_ble_eq_true rfl)
  have NF1 := Fr.snoc X3 NF0 gb
  obtain ⟨cl2, Ar2, q2, S2, N2_, H2, G2⟩ := V2
  have hin2 : ¬ (((u + (2 : Int32)) % (4 : Int32)) < 0 ∨ cl2.slots.size ≤ (((u + (2 : Int32)) % (4 : Int32))).toNatClampNeg) := inb_of S2 ⟨by rw [hj2]; decide, by rw [hj2]; decide⟩
  obtain ⟨T4, h4, X4, e4, W4, st4⟩ := stD X3 hx hZ e3 Ar2 (j := ((u + (2 : Int32)) % (4 : Int32))) hin2 (g := (mkF m 30 #[.val (.int u), .val (.double x0), .second, .val (.double x1), .second, .val (.double x2), .second, .val (.double x3), .second, .val (.ref b1)] [(.double x2), (.int ((u + (2 : Int32)) % (4 : Int32))), (.ref b1)])) rfl rfl (hb hby d_prog_8_method_16_code_30)
  have V3 : Arv Z h4 b1 k1 .double (4 : Int32) [(.double 0), (.double x0), (.double x1), (.double x2)] (.double 0) := Arv.set Ar2 q2 S2 N2_ H2 G2 rfl W4 3 (by rw [hj2]; rfl) (Nat.le_of_ble_eq_true rfl)
  have NF2 := Fr.snoc X4 NF1 gb
  obtain ⟨cl3, Ar3, q3, S3, N3_, H3, G3⟩ := V3
  have hin3 : ¬ (((u + (3 : Int32)) % (4 : Int32)) < 0 ∨ cl3.slots.size ≤ (((u + (3 : Int32)) % (4 : Int32))).toNatClampNeg) := inb_of S3 ⟨by rw [hj3]; decide, by rw [hj3]; decide⟩
  obtain ⟨T5, h5, X5, e5, W5, st5⟩ := stD X4 hx hZ e4 Ar3 (j := ((u + (3 : Int32)) % (4 : Int32))) hin3 (g := (mkF m 40 #[.val (.int u), .val (.double x0), .second, .val (.double x1), .second, .val (.double x2), .second, .val (.double x3), .second, .val (.ref b1)] [(.double x3), (.int ((u + (3 : Int32)) % (4 : Int32))), (.ref b1)])) rfl rfl (hb hby d_prog_8_method_16_code_40)
  have V4 : Arv Z h5 b1 k1 .double (4 : Int32) [(.double x3), (.double x0), (.double x1), (.double x2)] (.double 0) := Arv.set Ar3 q3 S3 N3_ H3 G3 rfl W5 0 (by rw [hj3]; rfl) (Nat.le_of_ble_eq_true rfl)
  have NF3 := Fr.snoc X5 NF2 gb
  obtain ⟨cl4, Ar4, q4, S4, N4_, H4, G4⟩ := V4
  have hin4 : ¬ ((0 : Int32) < 0 ∨ cl4.slots.size ≤ (0 : Int32).toNatClampNeg) := inb_of S4 ⟨by decide, by decide⟩
  have hin5 : ¬ ((1 : Int32) < 0 ∨ cl4.slots.size ≤ (1 : Int32).toNatClampNeg) := inb_of S4 ⟨by decide, by decide⟩
  have hin6 : ¬ ((2 : Int32) < 0 ∨ cl4.slots.size ≤ (2 : Int32).toNatClampNeg) := inb_of S4 ⟨by decide, by decide⟩
  have hin7 : ¬ ((3 : Int32) < 0 ∨ cl4.slots.size ≤ (3 : Int32).toNatClampNeg) := inb_of S4 ⟨by decide, by decide⟩
  obtain ⟨fs, hr, hrun, hended, hW, hsame⟩ := X5.leave (v := some (.double (FP.dadd (FP.dadd x3 x0) (FP.dadd x1 x2)))) (fun h => by rw [Bd.returns] at h; cases h)
  refine ⟨_, _, pre0 _ ?_, hrun, hended, _, _, rfl, ?_, ⟨_, rfl⟩, hW, hsame.mono (by decide) (by decide)⟩
  · show Steps p.tables e below (s₁.setTop (mkF m 0 #[.val (.int u), .val (.double x0), .second, .val (.double x1), .second, .val (.double x2), .second, .val (.double x3), .second, .unset] [])) _
    refine XS.iconst X0.here hx rfl (hb hby d_prog_8_method_16_code_0) ?_
    show Steps p.tables e below (s₁.setTop (mkF m 1 #[.val (.int u), .val (.double x0), .second, .val (.double x1), .second, .val (.double x2), .second, .val (.double x3), .second, .unset] [(.int (4 : Int32))])) _
    refine st1 _ ?_
    show Steps p.tables e below (T1.setTop (mkF m 3 #[.val (.int u), .val (.double x0), .second, .val (.double x1), .second, .val (.double x2), .second, .val (.double x3), .second, .unset] [(.ref b1)])) _
    refine XS.astore X1.here hx rfl (hb hby d_prog_8_method_16_code_3) rfl rfl (l' := #[.val (.int u), .val (.double x0), .second, .val (.double x1), .second, .val (.double x2), .second, .val (.double x3), .second, .val (.ref b1)]) rfl ?_
    show Steps p.tables e below (T1.setTop (mkF m 5 #[.val (.int u), .val (.double x0), .second, .val (.double x1), .second, .val (.double x2), .second, .val (.double x3), .second, .val (.ref b1)] [])) _
    refine XS.aload X1.here hx rfl (hb hby d_prog_8_method_16_code_5) rfl rfl ?_
    show Steps p.tables e below (T1.setTop (mkF m 7 #[.val (.int u), .val (.double x0), .second, .val (.double x1), .second, .val (.double x2), .second, .val (.double x3), .second, .val (.ref b1)] [(.ref b1)])) _
    refine XS.iloadN X1.here hx rfl (hb hby d_prog_8_method_16_code_7) rfl ?_
    show Steps p.tables e below (T1.setTop (mkF m 8 #[.val (.int u), .val (.double x0), .second, .val (.double x1), .second, .val (.double x2), .second, .val (.double x3), .second, .val (.ref b1)] [(.int u), (.ref b1)])) _
    refine XS.iconst X1.here hx rfl (hb hby d_prog_8_method_16_code_8) ?_
    show Steps p.tables e below (T1.setTop (mkF m 9 #[.val (.int u), .val (.double x0), .second, .val (.double x1), .second, .val (.double x2), .second, .val (.double x3), .second, .val (.ref b1)] [(.int (4 : Int32)), (.int u), (.ref b1)])) _
    refine own_irem X1.here hx rfl (hb hby d_prog_8_method_16_code_9) rfl (by decide) ?_
    show Steps p.tables e below (T1.setTop (mkF m 10 #[.val (.int u), .val (.double x0), .second, .val (.double x1), .second, .val (.double x2), .second, .val (.double x3), .second, .val (.ref b1)] [(.int (u % (4 : Int32))), (.ref b1)])) _
    refine XS.dloadN X1.here hx rfl (hb hby d_prog_8_method_16_code_10) rfl ?_
    show Steps p.tables e below (T1.setTop (mkF m 11 #[.val (.int u), .val (.double x0), .second, .val (.double x1), .second, .val (.double x2), .second, .val (.double x3), .second, .val (.ref b1)] [(.double x0), (.int (u % (4 : Int32))), (.ref b1)])) _
    refine st2 _ ?_
    show Steps p.tables e below (T2.setTop (mkF m 12 #[.val (.int u), .val (.double x0), .second, .val (.double x1), .second, .val (.double x2), .second, .val (.double x3), .second, .val (.ref b1)] [])) _
    refine XS.aload X2.here hx rfl (hb hby d_prog_8_method_16_code_12) rfl rfl ?_
    show Steps p.tables e below (T2.setTop (mkF m 14 #[.val (.int u), .val (.double x0), .second, .val (.double x1), .second, .val (.double x2), .second, .val (.double x3), .second, .val (.ref b1)] [(.ref b1)])) _
    refine XS.iloadN X2.here hx rfl (hb hby d_prog_8_method_16_code_14) rfl ?_
    show Steps p.tables e below (T2.setTop (mkF m 15 #[.val (.int u), .val (.double x0), .second, .val (.double x1), .second, .val (.double x2), .second, .val (.double x3), .second, .val (.ref b1)] [(.int u), (.ref b1)])) _
    refine XS.iconst X2.here hx rfl (hb hby d_prog_8_method_16_code_15) ?_
    show Steps p.tables e below (T2.setTop (mkF m 16 #[.val (.int u), .val (.double x0), .second, .val (.double x1), .second, .val (.double x2), .second, .val (.double x3), .second, .val (.ref b1)] [(.int (1 : Int32)), (.int u), (.ref b1)])) _
    refine XS.iadd X2.here hx rfl (hb hby d_prog_8_method_16_code_16) rfl ?_
    show Steps p.tables e below (T2.setTop (mkF m 17 #[.val (.int u), .val (.double x0), .second, .val (.double x1), .second, .val (.double x2), .second, .val (.double x3), .second, .val (.ref b1)] [(.int (u + (1 : Int32))), (.ref b1)])) _
    refine XS.iconst X2.here hx rfl (hb hby d_prog_8_method_16_code_17) ?_
    show Steps p.tables e below (T2.setTop (mkF m 18 #[.val (.int u), .val (.double x0), .second, .val (.double x1), .second, .val (.double x2), .second, .val (.double x3), .second, .val (.ref b1)] [(.int (4 : Int32)), (.int (u + (1 : Int32))), (.ref b1)])) _
    refine own_irem X2.here hx rfl (hb hby d_prog_8_method_16_code_18) rfl (by decide) ?_
    show Steps p.tables e below (T2.setTop (mkF m 19 #[.val (.int u), .val (.double x0), .second, .val (.double x1), .second, .val (.double x2), .second, .val (.double x3), .second, .val (.ref b1)] [(.int ((u + (1 : Int32)) % (4 : Int32))), (.ref b1)])) _
    refine XS.dloadN X2.here hx rfl (hb hby d_prog_8_method_16_code_19) rfl ?_
    show Steps p.tables e below (T2.setTop (mkF m 20 #[.val (.int u), .val (.double x0), .second, .val (.double x1), .second, .val (.double x2), .second, .val (.double x3), .second, .val (.ref b1)] [(.double x1), (.int ((u + (1 : Int32)) % (4 : Int32))), (.ref b1)])) _
    refine st3 _ ?_
    show Steps p.tables e below (T3.setTop (mkF m 21 #[.val (.int u), .val (.double x0), .second, .val (.double x1), .second, .val (.double x2), .second, .val (.double x3), .second, .val (.ref b1)] [])) _
    refine XS.aload X3.here hx rfl (hb hby d_prog_8_method_16_code_21) rfl rfl ?_
    show Steps p.tables e below (T3.setTop (mkF m 23 #[.val (.int u), .val (.double x0), .second, .val (.double x1), .second, .val (.double x2), .second, .val (.double x3), .second, .val (.ref b1)] [(.ref b1)])) _
    refine XS.iloadN X3.here hx rfl (hb hby d_prog_8_method_16_code_23) rfl ?_
    show Steps p.tables e below (T3.setTop (mkF m 24 #[.val (.int u), .val (.double x0), .second, .val (.double x1), .second, .val (.double x2), .second, .val (.double x3), .second, .val (.ref b1)] [(.int u), (.ref b1)])) _
    refine XS.iconst X3.here hx rfl (hb hby d_prog_8_method_16_code_24) ?_
    show Steps p.tables e below (T3.setTop (mkF m 25 #[.val (.int u), .val (.double x0), .second, .val (.double x1), .second, .val (.double x2), .second, .val (.double x3), .second, .val (.ref b1)] [(.int (2 : Int32)), (.int u), (.ref b1)])) _
    refine XS.iadd X3.here hx rfl (hb hby d_prog_8_method_16_code_25) rfl ?_
    show Steps p.tables e below (T3.setTop (mkF m 26 #[.val (.int u), .val (.double x0), .second, .val (.double x1), .second, .val (.double x2), .second, .val (.double x3), .second, .val (.ref b1)] [(.int (u + (2 : Int32))), (.ref b1)])) _
    refine XS.iconst X3.here hx rfl (hb hby d_prog_8_method_16_code_26) ?_
    show Steps p.tables e below (T3.setTop (mkF m 27 #[.val (.int u), .val (.double x0), .second, .val (.double x1), .second, .val (.double x2), .second, .val (.double x3), .second, .val (.ref b1)] [(.int (4 : Int32)), (.int (u + (2 : Int32))), (.ref b1)])) _
    refine own_irem X3.here hx rfl (hb hby d_prog_8_method_16_code_27) rfl (by decide) ?_
    show Steps p.tables e below (T3.setTop (mkF m 28 #[.val (.int u), .val (.double x0), .second, .val (.double x1), .second, .val (.double x2), .second, .val (.double x3), .second, .val (.ref b1)] [(.int ((u + (2 : Int32)) % (4 : Int32))), (.ref b1)])) _
    refine XS.dload X3.here hx rfl (hb hby d_prog_8_method_16_code_28) rfl ?_
    show Steps p.tables e below (T3.setTop (mkF m 30 #[.val (.int u), .val (.double x0), .second, .val (.double x1), .second, .val (.double x2), .second, .val (.double x3), .second, .val (.ref b1)] [(.double x2), (.int ((u + (2 : Int32)) % (4 : Int32))), (.ref b1)])) _
    refine st4 _ ?_
    show Steps p.tables e below (T4.setTop (mkF m 31 #[.val (.int u), .val (.double x0), .second, .val (.double x1), .second, .val (.double x2), .second, .val (.double x3), .second, .val (.ref b1)] [])) _
    refine XS.aload X4.here hx rfl (hb hby d_prog_8_method_16_code_31) rfl rfl ?_
    show Steps p.tables e below (T4.setTop (mkF m 33 #[.val (.int u), .val (.double x0), .second, .val (.double x1), .second, .val (.double x2), .second, .val (.double x3), .second, .val (.ref b1)] [(.ref b1)])) _
    refine XS.iloadN X4.here hx rfl (hb hby d_prog_8_method_16_code_33) rfl ?_
    show Steps p.tables e below (T4.setTop (mkF m 34 #[.val (.int u), .val (.double x0), .second, .val (.double x1), .second, .val (.double x2), .second, .val (.double x3), .second, .val (.ref b1)] [(.int u), (.ref b1)])) _
    refine XS.iconst X4.here hx rfl (hb hby d_prog_8_method_16_code_34) ?_
    show Steps p.tables e below (T4.setTop (mkF m 35 #[.val (.int u), .val (.double x0), .second, .val (.double x1), .second, .val (.double x2), .second, .val (.double x3), .second, .val (.ref b1)] [(.int (3 : Int32)), (.int u), (.ref b1)])) _
    refine XS.iadd X4.here hx rfl (hb hby d_prog_8_method_16_code_35) rfl ?_
    show Steps p.tables e below (T4.setTop (mkF m 36 #[.val (.int u), .val (.double x0), .second, .val (.double x1), .second, .val (.double x2), .second, .val (.double x3), .second, .val (.ref b1)] [(.int (u + (3 : Int32))), (.ref b1)])) _
    refine XS.iconst X4.here hx rfl (hb hby d_prog_8_method_16_code_36) ?_
    show Steps p.tables e below (T4.setTop (mkF m 37 #[.val (.int u), .val (.double x0), .second, .val (.double x1), .second, .val (.double x2), .second, .val (.double x3), .second, .val (.ref b1)] [(.int (4 : Int32)), (.int (u + (3 : Int32))), (.ref b1)])) _
    refine own_irem X4.here hx rfl (hb hby d_prog_8_method_16_code_37) rfl (by decide) ?_
    show Steps p.tables e below (T4.setTop (mkF m 38 #[.val (.int u), .val (.double x0), .second, .val (.double x1), .second, .val (.double x2), .second, .val (.double x3), .second, .val (.ref b1)] [(.int ((u + (3 : Int32)) % (4 : Int32))), (.ref b1)])) _
    refine XS.dload X4.here hx rfl (hb hby d_prog_8_method_16_code_38) rfl ?_
    show Steps p.tables e below (T4.setTop (mkF m 40 #[.val (.int u), .val (.double x0), .second, .val (.double x1), .second, .val (.double x2), .second, .val (.double x3), .second, .val (.ref b1)] [(.double x3), (.int ((u + (3 : Int32)) % (4 : Int32))), (.ref b1)])) _
    refine st5 _ ?_
    show Steps p.tables e below (T5.setTop (mkF m 41 #[.val (.int u), .val (.double x0), .second, .val (.double x1), .second, .val (.double x2), .second, .val (.double x3), .second, .val (.ref b1)] [])) _
    refine XS.aload X5.here hx rfl (hb hby d_prog_8_method_16_code_41) rfl rfl ?_
    show Steps p.tables e below (T5.setTop (mkF m 43 #[.val (.int u), .val (.double x0), .second, .val (.double x1), .second, .val (.double x2), .second, .val (.double x3), .second, .val (.ref b1)] [(.ref b1)])) _
    refine XS.iconst X5.here hx rfl (hb hby d_prog_8_method_16_code_43) ?_
    show Steps p.tables e below (T5.setTop (mkF m 44 #[.val (.int u), .val (.double x0), .second, .val (.double x1), .second, .val (.double x2), .second, .val (.double x3), .second, .val (.ref b1)] [(.int (0 : Int32)), (.ref b1)])) _
    refine X5.daload hx (j := (0 : Int32)) (v := (.double x3)) (own_at e5 Ar4.1) (State.isArrayOf_alike hZ.alike Ar4.2.1) Ar4.2.2 hin4 (Has.at H4 hin4 rfl) (g := (mkF m 44 #[.val (.int u), .val (.double x0), .second, .val (.double x1), .second, .val (.double x2), .second, .val (.double x3), .second, .val (.ref b1)] [(.int (0 : Int32)), (.ref b1)])) rfl rfl (hb hby d_prog_8_method_16_code_44) _ ?_
    show Steps p.tables e below (T5.setTop (mkF m 45 #[.val (.int u), .val (.double x0), .second, .val (.double x1), .second, .val (.double x2), .second, .val (.double x3), .second, .val (.ref b1)] [(.double x3)])) _
    refine XS.aload X5.here hx rfl (hb hby d_prog_8_method_16_code_45) rfl rfl ?_
    show Steps p.tables e below (T5.setTop (mkF m 47 #[.val (.int u), .val (.double x0), .second, .val (.double x1), .second, .val (.double x2), .second, .val (.double x3), .second, .val (.ref b1)] [(.ref b1), (.double x3)])) _
    refine XS.iconst X5.here hx rfl (hb hby d_prog_8_method_16_code_47) ?_
    show Steps p.tables e below (T5.setTop (mkF m 48 #[.val (.int u), .val (.double x0), .second, .val (.double x1), .second, .val (.double x2), .second, .val (.double x3), .second, .val (.ref b1)] [(.int (1 : Int32)), (.ref b1), (.double x3)])) _
    refine X5.daload hx (j := (1 : Int32)) (v := (.double x0)) (own_at e5 Ar4.1) (State.isArrayOf_alike hZ.alike Ar4.2.1) Ar4.2.2 hin5 (Has.at H4 hin5 rfl) (g := (mkF m 48 #[.val (.int u), .val (.double x0), .second, .val (.double x1), .second, .val (.double x2), .second, .val (.double x3), .second, .val (.ref b1)] [(.int (1 : Int32)), (.ref b1), (.double x3)])) rfl rfl (hb hby d_prog_8_method_16_code_48) _ ?_
    show Steps p.tables e below (T5.setTop (mkF m 49 #[.val (.int u), .val (.double x0), .second, .val (.double x1), .second, .val (.double x2), .second, .val (.double x3), .second, .val (.ref b1)] [(.double x0), (.double x3)])) _
    refine XS.daddS X5.here hx rfl (hb hby d_prog_8_method_16_code_49) rfl hn49 (v := (FP.dadd x3 x0)) rfl ?_
    show Steps p.tables e below (T5.setTop (mkF m 50 #[.val (.int u), .val (.double x0), .second, .val (.double x1), .second, .val (.double x2), .second, .val (.double x3), .second, .val (.ref b1)] [(.double (FP.dadd x3 x0))])) _
    refine XS.aload X5.here hx rfl (hb hby d_prog_8_method_16_code_50) rfl rfl ?_
    show Steps p.tables e below (T5.setTop (mkF m 52 #[.val (.int u), .val (.double x0), .second, .val (.double x1), .second, .val (.double x2), .second, .val (.double x3), .second, .val (.ref b1)] [(.ref b1), (.double (FP.dadd x3 x0))])) _
    refine XS.iconst X5.here hx rfl (hb hby d_prog_8_method_16_code_52) ?_
    show Steps p.tables e below (T5.setTop (mkF m 53 #[.val (.int u), .val (.double x0), .second, .val (.double x1), .second, .val (.double x2), .second, .val (.double x3), .second, .val (.ref b1)] [(.int (2 : Int32)), (.ref b1), (.double (FP.dadd x3 x0))])) _
    refine X5.daload hx (j := (2 : Int32)) (v := (.double x1)) (own_at e5 Ar4.1) (State.isArrayOf_alike hZ.alike Ar4.2.1) Ar4.2.2 hin6 (Has.at H4 hin6 rfl) (g := (mkF m 53 #[.val (.int u), .val (.double x0), .second, .val (.double x1), .second, .val (.double x2), .second, .val (.double x3), .second, .val (.ref b1)] [(.int (2 : Int32)), (.ref b1), (.double (FP.dadd x3 x0))])) rfl rfl (hb hby d_prog_8_method_16_code_53) _ ?_
    show Steps p.tables e below (T5.setTop (mkF m 54 #[.val (.int u), .val (.double x0), .second, .val (.double x1), .second, .val (.double x2), .second, .val (.double x3), .second, .val (.ref b1)] [(.double x1), (.double (FP.dadd x3 x0))])) _
    refine XS.aload X5.here hx rfl (hb hby d_prog_8_method_16_code_54) rfl rfl ?_
    show Steps p.tables e below (T5.setTop (mkF m 56 #[.val (.int u), .val (.double x0), .second, .val (.double x1), .second, .val (.double x2), .second, .val (.double x3), .second, .val (.ref b1)] [(.ref b1), (.double x1), (.double (FP.dadd x3 x0))])) _
    refine XS.iconst X5.here hx rfl (hb hby d_prog_8_method_16_code_56) ?_
    show Steps p.tables e below (T5.setTop (mkF m 57 #[.val (.int u), .val (.double x0), .second, .val (.double x1), .second, .val (.double x2), .second, .val (.double x3), .second, .val (.ref b1)] [(.int (3 : Int32)), (.ref b1), (.double x1), (.double (FP.dadd x3 x0))])) _
    refine X5.daload hx (j := (3 : Int32)) (v := (.double x2)) (own_at e5 Ar4.1) (State.isArrayOf_alike hZ.alike Ar4.2.1) Ar4.2.2 hin7 (Has.at H4 hin7 rfl) (g := (mkF m 57 #[.val (.int u), .val (.double x0), .second, .val (.double x1), .second, .val (.double x2), .second, .val (.double x3), .second, .val (.ref b1)] [(.int (3 : Int32)), (.ref b1), (.double x1), (.double (FP.dadd x3 x0))])) rfl rfl (hb hby d_prog_8_method_16_code_57) _ ?_
    show Steps p.tables e below (T5.setTop (mkF m 58 #[.val (.int u), .val (.double x0), .second, .val (.double x1), .second, .val (.double x2), .second, .val (.double x3), .second, .val (.ref b1)] [(.double x2), (.double x1), (.double (FP.dadd x3 x0))])) _
    refine XS.daddS X5.here hx rfl (hb hby d_prog_8_method_16_code_58) rfl hn58 (v := (FP.dadd x1 x2)) rfl ?_
    show Steps p.tables e below (T5.setTop (mkF m 59 #[.val (.int u), .val (.double x0), .second, .val (.double x1), .second, .val (.double x2), .second, .val (.double x3), .second, .val (.ref b1)] [(.double (FP.dadd x1 x2)), (.double (FP.dadd x3 x0))])) _
    refine XS.daddS X5.here hx rfl (hb hby d_prog_8_method_16_code_59) rfl hn59 (v := (FP.dadd (FP.dadd x3 x0) (FP.dadd x1 x2))) rfl ?_
    show Steps p.tables e below (T5.setTop (mkF m 60 #[.val (.int u), .val (.double x0), .second, .val (.double x1), .second, .val (.double x2), .second, .val (.double x3), .second, .val (.ref b1)] [(.double (FP.dadd (FP.dadd x3 x0) (FP.dadd x1 x2)))])) _
    exact own_retD X5 hx Bd.returns (hb hby d_prog_8_method_16_code_60) hr
  · show QA (FP.dadd (FP.dadd x3 x0) (FP.dadd x1 x2)) n0 _ T5.heap _
    rw [e5]
    exact ⟨rfl, NF3⟩
set_option maxRecDepth 65536 in
set_option maxHeartbeats 40000000 in
theorem rmA_2 (l : Launch) (Z : State) (a0 : Array Value) (hw : ∀ d ∈ tables_1, d.before a0 Z = true) (ws : List Jvm.Cond) (u : Int32) (x0 x1 x2 x3 : UInt64) (h0 : Heap) (n0 : Nat) (Z0 : n0 ≤ h0.size) (hj0 : (u % (4 : Int32)) = 2) (hj1 : ((u + (1 : Int32)) % (4 : Int32)) = 3) (hj2 : ((u + (2 : Int32)) % (4 : Int32)) = 0) (hj3 : ((u + (3 : Int32)) % (4 : Int32)) = 1) (hn49 : Jvm.Free.Fl.NoNaN64 (FP.dadd x2 x3)) (hn58 : Jvm.Free.Fl.NoNaN64 (FP.dadd x0 x1)) (hn59 : Jvm.Free.Fl.NoNaN64 (FP.dadd (FP.dadd x2 x3) (FP.dadd x0 x1))) :
    MetFree l (⟨"com/example/rowfold/rowfold/CodeArray", "addLanes", "(IDDDD)D"⟩ : MethodName) (head1 (Jvm.Cond.code (⟨"com/example/rowfold/rowfold/CodeArray", "addLanes", "(IDDDD)D"⟩ : MethodName) prog_8_method_16_code 10 (some .double) :: ws) ({ frames := 0, cells := 1, slots := 4, locals := 0 } : Room)) (fun aa U => aa = #[(.int u), (.double x0), (.double x1), (.double x2), (.double x3)] ∧ Z.Warmed39 U.vm ∧ U.heap = h0) (fun _ _ _ _ _ => True) (fun _ U o U' => ∃ v L, o = .returned v ∧ QA (FP.dadd (FP.dadd x2 x3) (FP.dadd x0 x1)) n0 v U'.heap L ∧ FrameEnd U o U' L ({ frames := 0, cells := 1, slots := 4, locals := 0 } : Room).cells ({ frames := 0, cells := 1, slots := 4, locals := 0 } : Room).slots) := by
  refine MetFree.of_bodySF (plainFor_of_name pn_prog_8_method_16_code) hisR ?_
  intro p e s m args below meth c s₁ Bd hml0 hP hK
  obtain ⟨rfl, hZ, hh⟩ := hP
  have hx := Bd.exec
  have hby := Bd.bytes
  have hml : c.maxLocals = 10 := hml0
  have hown : s.vm.findClass "com/example/rowfold/rowfold/CodeArray" = some m.cls := findClass_of_methodNamed Bd.named
  have hnm := (name_of_methodNamed Bd.named Bd.method).1
  have X0 : Stand p l e ({ frames := 0, cells := 1, slots := 4, locals := 0 } : Room) s m #[(.int u), (.double x0), (.double x1), (.double x2), (.double x3)] below meth c s₁ [] 0 0 := Stand.of_body Bd
  have e0 : s₁.heap = h0 := by rw [← hh, Bd.state]; rfl
  have N0 := Fr.nil n0
  have pre0 : ∀ t, Steps p.tables e below (s₁.setTop (mkF m 0 #[.val (.int u), .val (.double x0), .second, .val (.double x1), .second, .val (.double x2), .second, .val (.double x3), .second, .unset] [])) t → Steps p.tables e below (s₁.setTop (entryFrame m #[(.int u), (.double x0), (.double x1), (.double x2), (.double x3)] 10)) t := fun t k => castTop (ef_prog_8_method_16_code m u x0 x1 x2 x3) k
  obtain ⟨T1, h1, k1, X1, e1, E1, A1, st1⟩ := newP X0 hx hZ (hw _ (List.mem_of_getElem? (i := 5) rfl)) e0 (g := (mkF m 1 #[.val (.int u), .val (.double x0), .second, .val (.double x1), .second, .val (.double x2), .second, .val (.double x3), .second, .unset] [(.int (4 : Int32))])) rfl (hb hby d_prog_8_method_16_code_1) rfl (by decide) (cap := 4) (by decide) (by decide) (by decide) (by decide)
  obtain ⟨b1, g1⟩ : ∃ z, z = h0.size := ⟨_, rfl⟩
  rw [← g1] at A1 st1
  have V0 : Arv Z h1 b1 k1 .double (4 : Int32) [(.double 0), (.double 0), (.double 0), (.double 0)] (.double 0) := (Arv.new A1 (by decide)).pad (pad_rep [] (.double 0) 4)
  have gb : n0 ≤ b1 := Nat.le_trans Z0 (Nat.le_of_eq g1.symm)
  obtain ⟨cl0, Ar0, q0, S0, N0_, H0, G0⟩ := V0
  have hin0 : ¬ ((u % (4 : Int32)) < 0 ∨ cl0.slots.size ≤ ((u % (4 : Int32))).toNatClampNeg) := inb_of S0 ⟨by rw [hj0]; decide, by rw [hj0]; decide⟩
  obtain ⟨T2, h2, X2, e2, W2, st2⟩ := stD X1 hx hZ e1 Ar0 (j := (u % (4 : Int32))) hin0 (g := (mkF m 11 #[.val (.int u), .val (.double x0), .second, .val (.double x1), .second, .val (.double x2), .second, .val (.double x3), .second, .val (.ref b1)] [(.double x0), (.int (u % (4 : Int32))), (.ref b1)])) rfl rfl (hb hby d_prog_8_method_16_code_11)
  have V1 : Arv Z h2 b1 k1 .double (4 : Int32) [(.double 0), (.double 0), (.double x0), (.double 0)] (.double 0) := Arv.set Ar0 q0 S0 N0_ H0 G0 rfl W2 2 (by rw [hj0]; rfl) (Nat.le_of_ble_eq_true rfl)
  have NF0 := Fr.snoc X2 N0 gb
  obtain ⟨cl1, Ar1, q1, S1, N1_, H1, G1⟩ := V1
  have hin1 : ¬ (((u + (1 : Int32)) % (4 : Int32)) < 0 ∨ cl1.slots.size ≤ (((u + (1 : Int32)) % (4 : Int32))).toNatClampNeg) := inb_of S1 ⟨by rw [hj1]; decide, by rw [hj1]; decide⟩
  obtain ⟨T3, h3, X3, e3, W3, st3⟩ := stD X2 hx hZ e2 Ar1 (j := ((u + (1 : Int32)) % (4 : Int32))) hin1 (g := (mkF m 20 #[.val (.int u), .val (.double x0), .second, .val (.double x1), .second, .val (.double x2), .second, .val (.double x3), .second, .val (.ref b1)] [(.double x1), (.int ((u + (1 : Int32)) % (4 : Int32))), (.ref b1)])) rfl rfl (hb hby d_prog_8_method_16_code_20)
  have V2 : Arv Z h3 b1 k1 .double (4 : Int32) [(.double 0), (.double 0), (.double x0), (.double x1)] (.double 0) := Arv.set Ar1 q1 S1 N1_ H1 G1 rfl W3 3 (by rw [hj1]; rfl) (Nat.le_of_ble_eq_true rfl)
  have NF1 := Fr.snoc X3 NF0 gb
  obtain ⟨cl2, Ar2, q2, S2, N2_, H2, G2⟩ := V2
  have hin2 : ¬ (((u + (2 : Int32)) % (4 : Int32)) < 0 ∨ cl2.slots.size ≤ (((u + (2 : Int32)) % (4 : Int32))).toNatClampNeg) := inb_of S2 ⟨by rw [hj2]; decide, by rw [hj2]; decide⟩
  obtain ⟨T4, h4, X4, e4, W4, st4⟩ := stD X3 hx hZ e3 Ar2 (j := ((u + (2 : Int32)) % (4 : Int32))) hin2 (g := (mkF m 30 #[.val (.int u), .val (.double x0), .second, .val (.double x1), .second, .val (.double x2), .second, .val (.double x3), .second, .val (.ref b1)] [(.double x2), (.int ((u + (2 : Int32)) % (4 : Int32))), (.ref b1)])) rfl rfl (hb hby d_prog_8_method_16_code_30)
  have V3 : Arv Z h4 b1 k1 .double (4 : Int32) [(.double x2), (.double 0), (.double x0), (.double x1)] (.double 0) := Arv.set Ar2 q2 S2 N2_ H2 G2 rfl W4 0 (by rw [hj2]; rfl) (Nat.le_of_ble_eq_true rfl)
  have NF2 := Fr.snoc X4 NF1 gb
  obtain ⟨cl3, Ar3, q3, S3, N3_, H3, G3⟩ := V3
  have hin3 : ¬ (((u + (3 : Int32)) % (4 : Int32)) < 0 ∨ cl3.slots.size ≤ (((u + (3 : Int32)) % (4 : Int32))).toNatClampNeg) := inb_of S3 ⟨by rw [hj3]; decide, by rw [hj3]; decide⟩
  obtain ⟨T5, h5, X5, e5, W5, st5⟩ := stD X4 hx hZ e4 Ar3 (j := ((u + (3 : Int32)) % (4 : Int32))) hin3 (g := (mkF m 40 #[.val (.int u), .val (.double x0), .second, .val (.double x1), .second, .val (.double x2), .second, .val (.double x3), .second, .val (.ref b1)] [(.double x3), (.int ((u + (3 : Int32)) % (4 : Int32))), (.ref b1)])) rfl rfl (hb hby d_prog_8_method_16_code_40)
  have V4 : Arv Z h5 b1 k1 .double (4 : Int32) [(.double x2), (.double x3), (.double x0), (.double x1)] (.double 0) := Arv.set Ar3 q3 S3 N3_ H3 G3 rfl W5 1 (by rw [hj3]; rfl) (Nat.le_of_ble_eq_true rfl)
  have NF3 := Fr.snoc X5 NF2 gb
  obtain ⟨cl4, Ar4, q4, S4, N4_, H4, G4⟩ := V4
  have hin4 : ¬ ((0 : Int32) < 0 ∨ cl4.slots.size ≤ (0 : Int32).toNatClampNeg) := inb_of S4 ⟨by decide, by decide⟩
  have hin5 : ¬ ((1 : Int32) < 0 ∨ cl4.slots.size ≤ (1 : Int32).toNatClampNeg) := inb_of S4 ⟨by decide, by decide⟩
  have hin6 : ¬ ((2 : Int32) < 0 ∨ cl4.slots.size ≤ (2 : Int32).toNatClampNeg) := inb_of S4 ⟨by decide, by decide⟩
  have hin7 : ¬ ((3 : Int32) < 0 ∨ cl4.slots.size ≤ (3 : Int32).toNatClampNeg) := inb_of S4 ⟨by decide, by decide⟩
  obtain ⟨fs, hr, hrun, hended, hW, hsame⟩ := X5.leave (v := some (.double (FP.dadd (FP.dadd x2 x3) (FP.dadd x0 x1)))) (fun h => by rw [Bd.returns] at h; cases h)
  refine ⟨_, _, pre0 _ ?_, hrun, hended, _, _, rfl, ?_, ⟨_, rfl⟩, hW, hsame.mono (by decide) (by decide)⟩
  · show Steps p.tables e below (s₁.setTop (mkF m 0 #[.val (.int u), .val (.double x0), .second, .val (.double x1), .second, .val (.double x2), .second, .val (.double x3), .second, .unset] [])) _
    refine XS.iconst X0.here hx rfl (hb hby d_prog_8_method_16_code_0) ?_
    show Steps p.tables e below (s₁.setTop (mkF m 1 #[.val (.int u), .val (.double x0), .second, .val (.double x1), .second, .val (.double x2), .second, .val (.double x3), .second, .unset] [(.int (4 : Int32))])) _
    refine st1 _ ?_
    show Steps p.tables e below (T1.setTop (mkF m 3 #[.val (.int u), .val (.double x0), .second, .val (.double x1), .second, .val (.double x2), .second, .val (.double x3), .second, .unset] [(.ref b1)])) _
    refine XS.astore X1.here hx rfl (hb hby d_prog_8_method_16_code_3) rfl rfl (l' := #[.val (.int u), .val (.double x0), .second, .val (.double x1), .second, .val (.double x2), .second, .val (.double x3), .second, .val (.ref b1)]) rfl ?_
    show Steps p.tables e below (T1.setTop (mkF m 5 #[.val (.int u), .val (.double x0), .second, .val (.double x1), .second, .val (.double x2), .second, .val (.double x3), .second, .val (.ref b1)] [])) _
    refine XS.aload X1.here hx rfl (hb hby d_prog_8_method_16_code_5) rfl rfl ?_
    show Steps p.tables e below (T1.setTop (mkF m 7 #[.val (.int u), .val (.double x0), .second, .val (.double x1), .second, .val (.double x2), .second, .val (.double x3), .second, .val (.ref b1)] [(.ref b1)])) _
    refine XS.iloadN X1.here hx rfl (hb hby d_prog_8_method_16_code_7) rfl ?_
    show Steps p.tables e below (T1.setTop (mkF m 8 #[.val (.int u), .val (.double x0), .second, .val (.double x1), .second, .val (.double x2), .second, .val (.double x3), .second, .val (.ref b1)] [(.int u), (.ref b1)])) _
    refine XS.iconst X1.here hx rfl (hb hby d_prog_8_method_16_code_8) ?_
    show Steps p.tables e below (T1.setTop (mkF m 9 #[.val (.int u), .val (.double x0), .second, .val (.double x1), .second, .val (.double x2), .second, .val (.double x3), .second, .val (.ref b1)] [(.int (4 : Int32)), (.int u), (.ref b1)])) _
    refine own_irem X1.here hx rfl (hb hby d_prog_8_method_16_code_9) rfl (by decide) ?_
    show Steps p.tables e below (T1.setTop (mkF m 10 #[.val (.int u), .val (.double x0), .second, .val (.double x1), .second, .val (.double x2), .second, .val (.double x3), .second, .val (.ref b1)] [(.int (u % (4 : Int32))), (.ref b1)])) _
    refine XS.dloadN X1.here hx rfl (hb hby d_prog_8_method_16_code_10) rfl ?_
    show Steps p.tables e below (T1.setTop (mkF m 11 #[.val (.int u), .val (.double x0), .second, .val (.double x1), .second, .val (.double x2), .second, .val (.double x3), .second, .val (.ref b1)] [(.double x0), (.int (u % (4 : Int32))), (.ref b1)])) _
    refine st2 _ ?_
    show Steps p.tables e below (T2.setTop (mkF m 12 #[.val (.int u), .val (.double x0), .second, .val (.double x1), .second, .val (.double x2), .second, .val (.double x3), .second, .val (.ref b1)] [])) _
    refine XS.aload X2.here hx rfl (hb hby d_prog_8_method_16_code_12) rfl rfl ?_
    show Steps p.tables e below (T2.setTop (mkF m 14 #[.val (.int u), .val (.double x0), .second, .val (.double x1), .second, .val (.double x2), .second, .val (.double x3), .second, .val (.ref b1)] [(.ref b1)])) _
    refine XS.iloadN X2.here hx rfl (hb hby d_prog_8_method_16_code_14) rfl ?_
    show Steps p.tables e below (T2.setTop (mkF m 15 #[.val (.int u), .val (.double x0), .second, .val (.double x1), .second, .val (.double x2), .second, .val (.double x3), .second, .val (.ref b1)] [(.int u), (.ref b1)])) _
    refine XS.iconst X2.here hx rfl (hb hby d_prog_8_method_16_code_15) ?_
    show Steps p.tables e below (T2.setTop (mkF m 16 #[.val (.int u), .val (.double x0), .second, .val (.double x1), .second, .val (.double x2), .second, .val (.double x3), .second, .val (.ref b1)] [(.int (1 : Int32)), (.int u), (.ref b1)])) _
    refine XS.iadd X2.here hx rfl (hb hby d_prog_8_method_16_code_16) rfl ?_
    show Steps p.tables e below (T2.setTop (mkF m 17 #[.val (.int u), .val (.double x0), .second, .val (.double x1), .second, .val (.double x2), .second, .val (.double x3), .second, .val (.ref b1)] [(.int (u + (1 : Int32))), (.ref b1)])) _
    refine XS.iconst X2.here hx rfl (hb hby d_prog_8_method_16_code_17) ?_
    show Steps p.tables e below (T2.setTop (mkF m 18 #[.val (.int u), .val (.double x0), .second, .val (.double x1), .second, .val (.double x2), .second, .val (.double x3), .second, .val (.ref b1)] [(.int (4 : Int32)), (.int (u + (1 : Int32))), (.ref b1)])) _
    refine own_irem X2.here hx rfl (hb hby d_prog_8_method_16_code_18) rfl (by decide) ?_
    show Steps p.tables e below (T2.setTop (mkF m 19 #[.val (.int u), .val (.double x0), .second, .val (.double x1), .second, .val (.double x2), .second, .val (.double x3), .second, .val (.ref b1)] [(.int ((u + (1 : Int32)) % (4 : Int32))), (.ref b1)])) _
    refine XS.dloadN X2.here hx rfl (hb hby d_prog_8_method_16_code_19) rfl ?_
    show Steps p.tables e below (T2.setTop (mkF m 20 #[.val (.int u), .val (.double x0), .second, .val (.double x1), .second, .val (.double x2), .second, .val (.double x3), .second, .val (.ref b1)] [(.double x1), (.int ((u + (1 : Int32)) % (4 : Int32))), (.ref b1)])) _
    refine st3 _ ?_
    show Steps p.tables e below (T3.setTop (mkF m 21 #[.val (.int u), .val (.double x0), .second, .val (.double x1), .second, .val (.double x2), .second, .val (.double x3), .second, .val (.ref b1)] [])) _
    refine XS.aload X3.here hx rfl (hb hby d_prog_8_method_16_code_21) rfl rfl ?_
    show Steps p.tables e below (T3.setTop (mkF m 23 #[.val (.int u), .val (.double x0), .second, .val (.double x1), .second, .val (.double x2), .second, .val (.double x3), .second, .val (.ref b1)] [(.ref b1)])) _
    refine XS.iloadN X3.here hx rfl (hb hby d_prog_8_method_16_code_23) rfl ?_
    show Steps p.tables e below (T3.setTop (mkF m 24 #[.val (.int u), .val (.double x0), .second, .val (.double x1), .second, .val (.double x2), .second, .val (.double x3), .second, .val (.ref b1)] [(.int u), (.ref b1)])) _
    refine XS.iconst X3.here hx rfl (hb hby d_prog_8_method_16_code_24) ?_
    show Steps p.tables e below (T3.setTop (mkF m 25 #[.val (.int u), .val (.double x0), .second, .val (.double x1), .second, .val (.double x2), .second, .val (.double x3), .second, .val (.ref b1)] [(.int (2 : Int32)), (.int u), (.ref b1)])) _
    refine XS.iadd X3.here hx rfl (hb hby d_prog_8_method_16_code_25) rfl ?_
    show Steps p.tables e below (T3.setTop (mkF m 26 #[.val (.int u), .val (.double x0), .second, .val (.double x1), .second, .val (.double x2), .second, .val (.double x3), .second, .val (.ref b1)] [(.int (u + (2 : Int32))), (.ref b1)])) _
    refine XS.iconst X3.here hx rfl (hb hby d_prog_8_method_16_code_26) ?_
    show Steps p.tables e below (T3.setTop (mkF m 27 #[.val (.int u), .val (.double x0), .second, .val (.double x1), .second, .val (.double x2), .second, .val (.double x3), .second, .val (.ref b1)] [(.int (4 : Int32)), (.int (u + (2 : Int32))), (.ref b1)])) _
    refine own_irem X3.here hx rfl (hb hby d_prog_8_method_16_code_27) rfl (by decide) ?_
    show Steps p.tables e below (T3.setTop (mkF m 28 #[.val (.int u), .val (.double x0), .second, .val (.double x1), .second, .val (.double x2), .second, .val (.double x3), .second, .val (.ref b1)] [(.int ((u + (2 : Int32)) % (4 : Int32))), (.ref b1)])) _
    refine XS.dload X3.here hx rfl (hb hby d_prog_8_method_16_code_28) rfl ?_
    show Steps p.tables e below (T3.setTop (mkF m 30 #[.val (.int u), .val (.double x0), .second, .val (.double x1), .second, .val (.double x2), .second, .val (.double x3), .second, .val (.ref b1)] [(.double x2), (.int ((u + (2 : Int32)) % (4 : Int32))), (.ref b1)])) _
    refine st4 _ ?_
    show Steps p.tables e below (T4.setTop (mkF m 31 #[.val (.int u), .val (.double x0), .second, .val (.double x1), .second, .val (.double x2), .second, .val (.double x3), .second, .val (.ref b1)] [])) _
    refine XS.aload X4.here hx rfl (hb hby d_prog_8_method_16_code_31) rfl rfl ?_
    show Steps p.tables e below (T4.setTop (mkF m 33 #[.val (.int u), .val (.double x0), .second, .val (.double x1), .second, .val (.double x2), .second, .val (.double x3), .second, .val (.ref b1)] [(.ref b1)])) _
    refine XS.iloadN X4.here hx rfl (hb hby d_prog_8_method_16_code_33) rfl ?_
    show Steps p.tables e below (T4.setTop (mkF m 34 #[.val (.int u), .val (.double x0), .second, .val (.double x1), .second, .val (.double x2), .second, .val (.double x3), .second, .val (.ref b1)] [(.int u), (.ref b1)])) _
    refine XS.iconst X4.here hx rfl (hb hby d_prog_8_method_16_code_34) ?_
    show Steps p.tables e below (T4.setTop (mkF m 35 #[.val (.int u), .val (.double x0), .second, .val (.double x1), .second, .val (.double x2), .second, .val (.double x3), .second, .val (.ref b1)] [(.int (3 : Int32)), (.int u), (.ref b1)])) _
    refine XS.iadd X4.here hx rfl (hb hby d_prog_8_method_16_code_35) rfl ?_
    show Steps p.tables e below (T4.setTop (mkF m 36 #[.val (.int u), .val (.double x0), .second, .val (.double x1), .second, .val (.double x2), .second, .val (.double x3), .second, .val (.ref b1)] [(.int (u + (3 : Int32))), (.ref b1)])) _
    refine XS.iconst X4.here hx rfl (hb hby d_prog_8_method_16_code_36) ?_
    show Steps p.tables e below (T4.setTop (mkF m 37 #[.val (.int u), .val (.double x0), .second, .val (.double x1), .second, .val (.double x2), .second, .val (.double x3), .second, .val (.ref b1)] [(.int (4 : Int32)), (.int (u + (3 : Int32))), (.ref b1)])) _
    refine own_irem X4.here hx rfl (hb hby d_prog_8_method_16_code_37) rfl (by decide) ?_
    show Steps p.tables e below (T4.setTop (mkF m 38 #[.val (.int u), .val (.double x0), .second, .val (.double x1), .second, .val (.double x2), .second, .val (.double x3), .second, .val (.ref b1)] [(.int ((u + (3 : Int32)) % (4 : Int32))), (.ref b1)])) _
    refine XS.dload X4.here hx rfl (hb hby d_prog_8_method_16_code_38) rfl ?_
    show Steps p.tables e below (T4.setTop (mkF m 40 #[.val (.int u), .val (.double x0), .second, .val (.double x1), .second, .val (.double x2), .second, .val (.double x3), .second, .val (.ref b1)] [(.double x3), (.int ((u + (3 : Int32)) % (4 : Int32))), (.ref b1)])) _
    refine st5 _ ?_
    show Steps p.tables e below (T5.setTop (mkF m 41 #[.val (.int u), .val (.double x0), .second, .val (.double x1), .second, .val (.double x2), .second, .val (.double x3), .second, .val (.ref b1)] [])) _
    refine XS.aload X5.here hx rfl (hb hby d_prog_8_method_16_code_41) rfl rfl ?_
    show Steps p.tables e below (T5.setTop (mkF m 43 #[.val (.int u), .val (.double x0), .second, .val (.double x1), .second, .val (.double x2), .second, .val (.double x3), .second, .val (.ref b1)] [(.ref b1)])) _
    refine XS.iconst X5.here hx rfl (hb hby d_prog_8_method_16_code_43) ?_
    show Steps p.tables e below (T5.setTop (mkF m 44 #[.val (.int u), .val (.double x0), .second, .val (.double x1), .second, .val (.double x2), .second, .val (.double x3), .second, .val (.ref b1)] [(.int (0 : Int32)), (.ref b1)])) _
    refine X5.daload hx (j := (0 : Int32)) (v := (.double x2)) (own_at e5 Ar4.1) (State.isArrayOf_alike hZ.alike Ar4.2.1) Ar4.2.2 hin4 (Has.at H4 hin4 rfl) (g := (mkF m 44 #[.val (.int u), .val (.double x0), .second, .val (.double x1), .second, .val (.double x2), .second, .val (.double x3), .second, .val (.ref b1)] [(.int (0 : Int32)), (.ref b1)])) rfl rfl (hb hby d_prog_8_method_16_code_44) _ ?_
    show Steps p.tables e below (T5.setTop (mkF m 45 #[.val (.int u), .val (.double x0), .second, .val (.double x1), .second, .val (.double x2), .second, .val (.double x3), .second, .val (.ref b1)] [(.double x2)])) _
    refine XS.aload X5.here hx rfl (hb hby d_prog_8_method_16_code_45) rfl rfl ?_
    show Steps p.tables e below (T5.setTop (mkF m 47 #[.val (.int u), .val (.double x0), .second, .val (.double x1), .second, .val (.double x2), .second, .val (.double x3), .second, .val (.ref b1)] [(.ref b1), (.double x2)])) _
    refine XS.iconst X5.here hx rfl (hb hby d_prog_8_method_16_code_47) ?_
    show Steps p.tables e below (T5.setTop (mkF m 48 #[.val (.int u), .val (.double x0), .second, .val (.double x1), .second, .val (.double x2), .second, .val (.double x3), .second, .val (.ref b1)] [(.int (1 : Int32)), (.ref b1), (.double x2)])) _
    refine X5.daload hx (j := (1 : Int32)) (v := (.double x3)) (own_at e5 Ar4.1) (State.isArrayOf_alike hZ.alike Ar4.2.1) Ar4.2.2 hin5 (Has.at H4 hin5 rfl) (g := (mkF m 48 #[.val (.int u), .val (.double x0), .second, .val (.double x1), .second, .val (.double x2), .second, .val (.double x3), .second, .val (.ref b1)] [(.int (1 : Int32)), (.ref b1), (.double x2)])) rfl rfl (hb hby d_prog_8_method_16_code_48) _ ?_
    show Steps p.tables e below (T5.setTop (mkF m 49 #[.val (.int u), .val (.double x0), .second, .val (.double x1), .second, .val (.double x2), .second, .val (.double x3), .second, .val (.ref b1)] [(.double x3), (.double x2)])) _
    refine XS.daddS X5.here hx rfl (hb hby d_prog_8_method_16_code_49) rfl hn49 (v := (FP.dadd x2 x3)) rfl ?_
    show Steps p.tables e below (T5.setTop (mkF m 50 #[.val (.int u), .val (.double x0), .second, .val (.double x1), .second, .val (.double x2), .second, .val (.double x3), .second, .val (.ref b1)] [(.double (FP.dadd x2 x3))])) _
    refine XS.aload X5.here hx rfl (hb hby d_prog_8_method_16_code_50) rfl rfl ?_
    show Steps p.tables e below (T5.setTop (mkF m 52 #[.val (.int u), .val (.double x0), .second, .val (.double x1), .second, .val (.double x2), .second, .val (.double x3), .second, .val (.ref b1)] [(.ref b1), (.double (FP.dadd x2 x3))])) _
    refine XS.iconst X5.here hx rfl (hb hby d_prog_8_method_16_code_52) ?_
    show Steps p.tables e below (T5.setTop (mkF m 53 #[.val (.int u), .val (.double x0), .second, .val (.double x1), .second, .val (.double x2), .second, .val (.double x3), .second, .val (.ref b1)] [(.int (2 : Int32)), (.ref b1), (.double (FP.dadd x2 x3))])) _
    refine X5.daload hx (j := (2 : Int32)) (v := (.double x0)) (own_at e5 Ar4.1) (State.isArrayOf_alike hZ.alike Ar4.2.1) Ar4.2.2 hin6 (Has.at H4 hin6 rfl) (g := (mkF m 53 #[.val (.int u), .val (.double x0), .second, .val (.double x1), .second, .val (.double x2), .second, .val (.double x3), .second, .val (.ref b1)] [(.int (2 : Int32)), (.ref b1), (.double (FP.dadd x2 x3))])) rfl rfl (hb hby d_prog_8_method_16_code_53) _ ?_
    show Steps p.tables e below (T5.setTop (mkF m 54 #[.val (.int u), .val (.double x0), .second, .val (.double x1), .second, .val (.double x2), .second, .val (.double x3), .second, .val (.ref b1)] [(.double x0), (.double (FP.dadd x2 x3))])) _
    refine XS.aload X5.here hx rfl (hb hby d_prog_8_method_16_code_54) rfl rfl ?_
    show Steps p.tables e below (T5.setTop (mkF m 56 #[.val (.int u), .val (.double x0), .second, .val (.double x1), .second, .val (.double x2), .second, .val (.double x3), .second, .val (.ref b1)] [(.ref b1), (.double x0), (.double (FP.dadd x2 x3))])) _
    refine XS.iconst X5.here hx rfl (hb hby d_prog_8_method_16_code_56) ?_
    show Steps p.tables e below (T5.setTop (mkF m 57 #[.val (.int u), .val (.double x0), .second, .val (.double x1), .second, .val (.double x2), .second, .val (.double x3), .second, .val (.ref b1)] [(.int (3 : Int32)), (.ref b1), (.double x0), (.double (FP.dadd x2 x3))])) _
    refine X5.daload hx (j := (3 : Int32)) (v := (.double x1)) (own_at e5 Ar4.1) (State.isArrayOf_alike hZ.alike Ar4.2.1) Ar4.2.2 hin7 (Has.at H4 hin7 rfl) (g := (mkF m 57 #[.val (.int u), .val (.double x0), .second, .val (.double x1), .second, .val (.double x2), .second, .val (.double x3), .second, .val (.ref b1)] [(.int (3 : Int32)), (.ref b1), (.double x0), (.double (FP.dadd x2 x3))])) rfl rfl (hb hby d_prog_8_method_16_code_57) _ ?_
    show Steps p.tables e below (T5.setTop (mkF m 58 #[.val (.int u), .val (.double x0), .second, .val (.double x1), .second, .val (.double x2), .second, .val (.double x3), .second, .val (.ref b1)] [(.double x1), (.double x0), (.double (FP.dadd x2 x3))])) _
    refine XS.daddS X5.here hx rfl (hb hby d_prog_8_method_16_code_58) rfl hn58 (v := (FP.dadd x0 x1)) rfl ?_
    show Steps p.tables e below (T5.setTop (mkF m 59 #[.val (.int u), .val (.double x0), .second, .val (.double x1), .second, .val (.double x2), .second, .val (.double x3), .second, .val (.ref b1)] [(.double (FP.dadd x0 x1)), (.double (FP.dadd x2 x3))])) _
    refine XS.daddS X5.here hx rfl (hb hby d_prog_8_method_16_code_59) rfl hn59 (v := (FP.dadd (FP.dadd x2 x3) (FP.dadd x0 x1))) rfl ?_
    show Steps p.tables e below (T5.setTop (mkF m 60 #[.val (.int u), .val (.double x0), .second, .val (.double x1), .second, .val (.double x2), .second, .val (.double x3), .second, .val (.ref b1)] [(.double (FP.dadd (FP.dadd x2 x3) (FP.dadd x0 x1)))])) _
    exact own_retD X5 hx Bd.returns (hb hby d_prog_8_method_16_code_60) hr
  · show QA (FP.dadd (FP.dadd x2 x3) (FP.dadd x0 x1)) n0 _ T5.heap _
    rw [e5]
    exact ⟨rfl, NF3⟩
set_option maxRecDepth 65536 in
set_option maxHeartbeats 40000000 in
theorem rmA_3 (l : Launch) (Z : State) (a0 : Array Value) (hw : ∀ d ∈ tables_1, d.before a0 Z = true) (ws : List Jvm.Cond) (u : Int32) (x0 x1 x2 x3 : UInt64) (h0 : Heap) (n0 : Nat) (Z0 : n0 ≤ h0.size) (hj0 : (u % (4 : Int32)) = 3) (hj1 : ((u + (1 : Int32)) % (4 : Int32)) = 0) (hj2 : ((u + (2 : Int32)) % (4 : Int32)) = 1) (hj3 : ((u + (3 : Int32)) % (4 : Int32)) = 2) (hn49 : Jvm.Free.Fl.NoNaN64 (FP.dadd x1 x2)) (hn58 : Jvm.Free.Fl.NoNaN64 (FP.dadd x3 x0)) (hn59 : Jvm.Free.Fl.NoNaN64 (FP.dadd (FP.dadd x1 x2) (FP.dadd x3 x0))) :
    MetFree l (⟨"com/example/rowfold/rowfold/CodeArray", "addLanes", "(IDDDD)D"⟩ : MethodName) (head1 (Jvm.Cond.code (⟨"com/example/rowfold/rowfold/CodeArray", "addLanes", "(IDDDD)D"⟩ : MethodName) prog_8_method_16_code 10 (some .double) :: ws) ({ frames := 0, cells := 1, slots := 4, locals := 0 } : Room)) (fun aa U => aa = #[(.int u), (.double x0), (.double x1), (.double x2), (.double x3)] ∧ Z.Warmed39 U.vm ∧ U.heap = h0) (fun _ _ _ _ _ => True) (fun _ U o U' => ∃ v L, o = .returned v ∧ QA (FP.dadd (FP.dadd x1 x2) (FP.dadd x3 x0)) n0 v U'.heap L ∧ FrameEnd U o U' L ({ frames := 0, cells := 1, slots := 4, locals := 0 } : Room).cells ({ frames := 0, cells := 1, slots := 4, locals := 0 } : Room).slots) := by
  refine MetFree.of_bodySF (plainFor_of_name pn_prog_8_method_16_code) hisR ?_
  intro p e s m args below meth c s₁ Bd hml0 hP hK
  obtain ⟨rfl, hZ, hh⟩ := hP
  have hx := Bd.exec
  have hby := Bd.bytes
  have hml : c.maxLocals = 10 := hml0
  have hown : s.vm.findClass "com/example/rowfold/rowfold/CodeArray" = some m.cls := findClass_of_methodNamed Bd.named
  have hnm := (name_of_methodNamed Bd.named Bd.method).1
  have X0 : Stand p l e ({ frames := 0, cells := 1, slots := 4, locals := 0 } : Room) s m #[(.int u), (.double x0), (.double x1), (.double x2), (.double x3)] below meth c s₁ [] 0 0 := Stand.of_body Bd
  have e0 : s₁.heap = h0 := by rw [← hh, Bd.state]; rfl
  have N0 := Fr.nil n0
  have pre0 : ∀ t, Steps p.tables e below (s₁.setTop (mkF m 0 #[.val (.int u), .val (.double x0), .second, .val (.double x1), .second, .val (.double x2), .second, .val (.double x3), .second, .unset] [])) t → Steps p.tables e below (s₁.setTop (entryFrame m #[(.int u), (.double x0), (.double x1), (.double x2), (.double x3)] 10)) t := fun t k => castTop (ef_prog_8_method_16_code m u x0 x1 x2 x3) k
  obtain ⟨T1, h1, k1, X1, e1, E1, A1, st1⟩ := newP X0 hx hZ (hw _ (List.mem_of_getElem? (i := 5) rfl)) e0 (g := (mkF m 1 #[.val (.int u), .val (.double x0), .second, .val (.double x1), .second, .val (.double x2), .second, .val (.double x3), .second, .unset] [(.int (4 : Int32))])) rfl (hb hby d_prog_8_method_16_code_1) rfl (by decide) (cap := 4) (by decide) (by decide) (by decide) (by decide)
  obtain ⟨b1, g1⟩ : ∃ z, z = h0.size := ⟨_, rfl⟩
  rw [← g1] at A1 st1
  have V0 : Arv Z h1 b1 k1 .double (4 : Int32) [(.double 0), (.double 0), (.double 0), (.double 0)] (.double 0) := (Arv.new A1 (by decide)).pad (pad_rep [] (.double 0) 4)
  have gb : n0 ≤ b1 := Nat.le_trans Z0 (Nat.le_of_eq g1.symm)
  obtain ⟨cl0, Ar0, q0, S0, N0_, H0, G0⟩ := V0
  have hin0 : ¬ ((u % (4 : Int32)) < 0 ∨ cl0.slots.size ≤ ((u % (4 : Int32))).toNatClampNeg) := inb_of S0 ⟨by rw [hj0]; decide, by rw [hj0]; decide⟩
  obtain ⟨T2, h2, X2, e2, W2, st2⟩ := stD X1 hx hZ e1 Ar0 (j := (u % (4 : Int32))) hin0 (g := (mkF m 11 #[.val (.int u), .val (.double x0), .second, .val (.double x1), .second, .val (.double x2), .second, .val (.double x3), .second, .val (.ref b1)] [(.double x0), (.int (u % (4 : Int32))), (.ref b1)])) rfl rfl (hb hby d_prog_8_method_16_code_11)
  have V1 : Arv Z h2 b1 k1 .double (4 : Int32) [(.double 0), (.double 0), (.double 0), (.double x0)] (.double 0) := Arv.set Ar0 q0 S0 N0_ H0 G0 rfl W2 3 (by rw [hj0]; rfl) (Nat.le_of_ble_eq_true rfl)
  have NF0 := Fr.snoc X2 N0 gb
  obtain ⟨cl1, Ar1, q1, S1, N1_, H1, G1⟩ := V1
  have hin1 : ¬ (((u + (1 : Int32)) % (4 : Int32)) < 0 ∨ cl1.slots.size ≤ (((u + (1 : Int32)) % (4 : Int32))).toNatClampNeg) := inb_of S1 ⟨by rw [hj1]; decide, by rw [hj1]; decide⟩
  obtain ⟨T3, h3, X3, e3, W3, st3⟩ := stD X2 hx hZ e2 Ar1 (j := ((u + (1 : Int32)) % (4 : Int32))) hin1 (g := (mkF m 20 #[.val (.int u), .val (.double x0), .second, .val (.double x1), .second, .val (.double x2), .second, .val (.double x3), .second, .val (.ref b1)] [(.double x1), (.int ((u + (1 : Int32)) % (4 : Int32))), (.ref b1)])) rfl rfl (hb hby d_prog_8_method_16_code_20)
  have V2 : Arv Z h3 b1 k1 .double (4 : Int32) [(.double x1), (.double 0), (.double 0), (.double x0)] (.double 0) := Arv.set Ar1 q1 S1 N1_ H1 G1 rfl W3 0 (by rw [hj1]; rfl) (Nat.le_of_ble_eq_true rfl)
  have NF1 := Fr.snoc X3 NF0 gb
  obtain ⟨cl2, Ar2, q2, S2, N2_, H2, G2⟩ := V2
  have hin2 : ¬ (((u + (2 : Int32)) % (4 : Int32)) < 0 ∨ cl2.slots.size ≤ (((u + (2 : Int32)) % (4 : Int32))).toNatClampNeg) := inb_of S2 ⟨by rw [hj2]; decide, by rw [hj2]; decide⟩
  obtain ⟨T4, h4, X4, e4, W4, st4⟩ := stD X3 hx hZ e3 Ar2 (j := ((u + (2 : Int32)) % (4 : Int32))) hin2 (g := (mkF m 30 #[.val (.int u), .val (.double x0), .second, .val (.double x1), .second, .val (.double x2), .second, .val (.double x3), .second, .val (.ref b1)] [(.double x2), (.int ((u + (2 : Int32)) % (4 : Int32))), (.ref b1)])) rfl rfl (hb hby d_prog_8_method_16_code_30)
  have V3 : Arv Z h4 b1 k1 .double (4 : Int32) [(.double x1), (.double x2), (.double 0), (.double x0)] (.double 0) := Arv.set Ar2 q2 S2 N2_ H2 G2 rfl W4 1 (by rw [hj2]; rfl) (Nat.le_of_ble_eq_true rfl)
  have NF2 := Fr.snoc X4 NF1 gb
  obtain ⟨cl3, Ar3, q3, S3, N3_, H3, G3⟩ := V3
  have hin3 : ¬ (((u + (3 : Int32)) % (4 : Int32)) < 0 ∨ cl3.slots.size ≤ (((u + (3 : Int32)) % (4 : Int32))).toNatClampNeg) := inb_of S3 ⟨by rw [hj3]; decide, by rw [hj3]; decide⟩
  obtain ⟨T5, h5, X5, e5, W5, st5⟩ := stD X4 hx hZ e4 Ar3 (j := ((u + (3 : Int32)) % (4 : Int32))) hin3 (g := (mkF m 40 #[.val (.int u), .val (.double x0), .second, .val (.double x1), .second, .val (.double x2), .second, .val (.double x3), .second, .val (.ref b1)] [(.double x3), (.int ((u + (3 : Int32)) % (4 : Int32))), (.ref b1)])) rfl rfl (hb hby d_prog_8_method_16_code_40)
  have V4 : Arv Z h5 b1 k1 .double (4 : Int32) [(.double x1), (.double x2), (.double x3), (.double x0)] (.double 0) := Arv.set Ar3 q3 S3 N3_ H3 G3 rfl W5 2 (by rw [hj3]; rfl) (Nat.le_of_ble_eq_true rfl)
  have NF3 := Fr.snoc X5 NF2 gb
  obtain ⟨cl4, Ar4, q4, S4, N4_, H4, G4⟩ := V4
  have hin4 : ¬ ((0 : Int32) < 0 ∨ cl4.slots.size ≤ (0 : Int32).toNatClampNeg) := inb_of S4 ⟨by decide, by decide⟩
  have hin5 : ¬ ((1 : Int32) < 0 ∨ cl4.slots.size ≤ (1 : Int32).toNatClampNeg) := inb_of S4 ⟨by decide, by decide⟩
  have hin6 : ¬ ((2 : Int32) < 0 ∨ cl4.slots.size ≤ (2 : Int32).toNatClampNeg) := inb_of S4 ⟨by decide, by decide⟩
  have hin7 : ¬ ((3 : Int32) < 0 ∨ cl4.slots.size ≤ (3 : Int32).toNatClampNeg) := inb_of S4 ⟨by decide, by decide⟩
  obtain ⟨fs, hr, hrun, hended, hW, hsame⟩ := X5.leave (v := some (.double (FP.dadd (FP.dadd x1 x2) (FP.dadd x3 x0)))) (fun h => by rw [Bd.returns] at h; cases h)
  refine ⟨_, _, pre0 _ ?_, hrun, hended, _, _, rfl, ?_, ⟨_, rfl⟩, hW, hsame.mono (by decide) (by decide)⟩
  · show Steps p.tables e below (s₁.setTop (mkF m 0 #[.val (.int u), .val (.double x0), .second, .val (.double x1), .second, .val (.double x2), .second, .val (.double x3), .second, .unset] [])) _
    refine XS.iconst X0.here hx rfl (hb hby d_prog_8_method_16_code_0) ?_
    show Steps p.tables e below (s₁.setTop (mkF m 1 #[.val (.int u), .val (.double x0), .second, .val (.double x1), .second, .val (.double x2), .second, .val (.double x3), .second, .unset] [(.int (4 : Int32))])) _
    refine st1 _ ?_
    show Steps p.tables e below (T1.setTop (mkF m 3 #[.val (.int u), .val (.double x0), .second, .val (.double x1), .second, .val (.double x2), .second, .val (.double x3), .second, .unset] [(.ref b1)])) _
    refine XS.astore X1.here hx rfl (hb hby d_prog_8_method_16_code_3) rfl rfl (l' := #[.val (.int u), .val (.double x0), .second, .val (.double x1), .second, .val (.double x2), .second, .val (.double x3), .second, .val (.ref b1)]) rfl ?_
    show Steps p.tables e below (T1.setTop (mkF m 5 #[.val (.int u), .val (.double x0), .second, .val (.double x1), .second, .val (.double x2), .second, .val (.double x3), .second, .val (.ref b1)] [])) _
    refine XS.aload X1.here hx rfl (hb hby d_prog_8_method_16_code_5) rfl rfl ?_
    show Steps p.tables e below (T1.setTop (mkF m 7 #[.val (.int u), .val (.double x0), .second, .val (.double x1), .second, .val (.double x2), .second, .val (.double x3), .second, .val (.ref b1)] [(.ref b1)])) _
    refine XS.iloadN X1.here hx rfl (hb hby d_prog_8_method_16_code_7) rfl ?_
    show Steps p.tables e below (T1.setTop (mkF m 8 #[.val (.int u), .val (.double x0), .second, .val (.double x1), .second, .val (.double x2), .second, .val (.double x3), .second, .val (.ref b1)] [(.int u), (.ref b1)])) _
    refine XS.iconst X1.here hx rfl (hb hby d_prog_8_method_16_code_8) ?_
    show Steps p.tables e below (T1.setTop (mkF m 9 #[.val (.int u), .val (.double x0), .second, .val (.double x1), .second, .val (.double x2), .second, .val (.double x3), .second, .val (.ref b1)] [(.int (4 : Int32)), (.int u), (.ref b1)])) _
    refine own_irem X1.here hx rfl (hb hby d_prog_8_method_16_code_9) rfl (by decide) ?_
    show Steps p.tables e below (T1.setTop (mkF m 10 #[.val (.int u), .val (.double x0), .second, .val (.double x1), .second, .val (.double x2), .second, .val (.double x3), .second, .val (.ref b1)] [(.int (u % (4 : Int32))), (.ref b1)])) _
    refine XS.dloadN X1.here hx rfl (hb hby d_prog_8_method_16_code_10) rfl ?_
    show Steps p.tables e below (T1.setTop (mkF m 11 #[.val (.int u), .val (.double x0), .second, .val (.double x1), .second, .val (.double x2), .second, .val (.double x3), .second, .val (.ref b1)] [(.double x0), (.int (u % (4 : Int32))), (.ref b1)])) _
    refine st2 _ ?_
    show Steps p.tables e below (T2.setTop (mkF m 12 #[.val (.int u), .val (.double x0), .second, .val (.double x1), .second, .val (.double x2), .second, .val (.double x3), .second, .val (.ref b1)] [])) _
    refine XS.aload X2.here hx rfl (hb hby d_prog_8_method_16_code_12) rfl rfl ?_
    show Steps p.tables e below (T2.setTop (mkF m 14 #[.val (.int u), .val (.double x0), .second, .val (.double x1), .second, .val (.double x2), .second, .val (.double x3), .second, .val (.ref b1)] [(.ref b1)])) _
    refine XS.iloadN X2.here hx rfl (hb hby d_prog_8_method_16_code_14) rfl ?_
    show Steps p.tables e below (T2.setTop (mkF m 15 #[.val (.int u), .val (.double x0), .second, .val (.double x1), .second, .val (.double x2), .second, .val (.double x3), .second, .val (.ref b1)] [(.int u), (.ref b1)])) _
    refine XS.iconst X2.here hx rfl (hb hby d_prog_8_method_16_code_15) ?_
    show Steps p.tables e below (T2.setTop (mkF m 16 #[.val (.int u), .val (.double x0), .second, .val (.double x1), .second, .val (.double x2), .second, .val (.double x3), .second, .val (.ref b1)] [(.int (1 : Int32)), (.int u), (.ref b1)])) _
    refine XS.iadd X2.here hx rfl (hb hby d_prog_8_method_16_code_16) rfl ?_
    show Steps p.tables e below (T2.setTop (mkF m 17 #[.val (.int u), .val (.double x0), .second, .val (.double x1), .second, .val (.double x2), .second, .val (.double x3), .second, .val (.ref b1)] [(.int (u + (1 : Int32))), (.ref b1)])) _
    refine XS.iconst X2.here hx rfl (hb hby d_prog_8_method_16_code_17) ?_
    show Steps p.tables e below (T2.setTop (mkF m 18 #[.val (.int u), .val (.double x0), .second, .val (.double x1), .second, .val (.double x2), .second, .val (.double x3), .second, .val (.ref b1)] [(.int (4 : Int32)), (.int (u + (1 : Int32))), (.ref b1)])) _
    refine own_irem X2.here hx rfl (hb hby d_prog_8_method_16_code_18) rfl (by decide) ?_
    show Steps p.tables e below (T2.setTop (mkF m 19 #[.val (.int u), .val (.double x0), .second, .val (.double x1), .second, .val (.double x2), .second, .val (.double x3), .second, .val (.ref b1)] [(.int ((u + (1 : Int32)) % (4 : Int32))), (.ref b1)])) _
    refine XS.dloadN X2.here hx rfl (hb hby d_prog_8_method_16_code_19) rfl ?_
    show Steps p.tables e below (T2.setTop (mkF m 20 #[.val (.int u), .val (.double x0), .second, .val (.double x1), .second, .val (.double x2), .second, .val (.double x3), .second, .val (.ref b1)] [(.double x1), (.int ((u + (1 : Int32)) % (4 : Int32))), (.ref b1)])) _
    refine st3 _ ?_
    show Steps p.tables e below (T3.setTop (mkF m 21 #[.val (.int u), .val (.double x0), .second, .val (.double x1), .second, .val (.double x2), .second, .val (.double x3), .second, .val (.ref b1)] [])) _
    refine XS.aload X3.here hx rfl (hb hby d_prog_8_method_16_code_21) rfl rfl ?_
    show Steps p.tables e below (T3.setTop (mkF m 23 #[.val (.int u), .val (.double x0), .second, .val (.double x1), .second, .val (.double x2), .second, .val (.double x3), .second, .val (.ref b1)] [(.ref b1)])) _
    refine XS.iloadN X3.here hx rfl (hb hby d_prog_8_method_16_code_23) rfl ?_
    show Steps p.tables e below (T3.setTop (mkF m 24 #[.val (.int u), .val (.double x0), .second, .val (.double x1), .second, .val (.double x2), .second, .val (.double x3), .second, .val (.ref b1)] [(.int u), (.ref b1)])) _
    refine XS.iconst X3.here hx rfl (hb hby d_prog_8_method_16_code_24) ?_
    show Steps p.tables e below (T3.setTop (mkF m 25 #[.val (.int u), .val (.double x0), .second, .val (.double x1), .second, .val (.double x2), .second, .val (.double x3), .second, .val (.ref b1)] [(.int (2 : Int32)), (.int u), (.ref b1)])) _
    refine XS.iadd X3.here hx rfl (hb hby d_prog_8_method_16_code_25) rfl ?_
    show Steps p.tables e below (T3.setTop (mkF m 26 #[.val (.int u), .val (.double x0), .second, .val (.double x1), .second, .val (.double x2), .second, .val (.double x3), .second, .val (.ref b1)] [(.int (u + (2 : Int32))), (.ref b1)])) _
    refine XS.iconst X3.here hx rfl (hb hby d_prog_8_method_16_code_26) ?_
    show Steps p.tables e below (T3.setTop (mkF m 27 #[.val (.int u), .val (.double x0), .second, .val (.double x1), .second, .val (.double x2), .second, .val (.double x3), .second, .val (.ref b1)] [(.int (4 : Int32)), (.int (u + (2 : Int32))), (.ref b1)])) _
    refine own_irem X3.here hx rfl (hb hby d_prog_8_method_16_code_27) rfl (by decide) ?_
    show Steps p.tables e below (T3.setTop (mkF m 28 #[.val (.int u), .val (.double x0), .second, .val (.double x1), .second, .val (.double x2), .second, .val (.double x3), .second, .val (.ref b1)] [(.int ((u + (2 : Int32)) % (4 : Int32))), (.ref b1)])) _
    refine XS.dload X3.here hx rfl (hb hby d_prog_8_method_16_code_28) rfl ?_
    show Steps p.tables e below (T3.setTop (mkF m 30 #[.val (.int u), .val (.double x0), .second, .val (.double x1), .second, .val (.double x2), .second, .val (.double x3), .second, .val (.ref b1)] [(.double x2), (.int ((u + (2 : Int32)) % (4 : Int32))), (.ref b1)])) _
    refine st4 _ ?_
    show Steps p.tables e below (T4.setTop (mkF m 31 #[.val (.int u), .val (.double x0), .second, .val (.double x1), .second, .val (.double x2), .second, .val (.double x3), .second, .val (.ref b1)] [])) _
    refine XS.aload X4.here hx rfl (hb hby d_prog_8_method_16_code_31) rfl rfl ?_
    show Steps p.tables e below (T4.setTop (mkF m 33 #[.val (.int u), .val (.double x0), .second, .val (.double x1), .second, .val (.double x2), .second, .val (.double x3), .second, .val (.ref b1)] [(.ref b1)])) _
    refine XS.iloadN X4.here hx rfl (hb hby d_prog_8_method_16_code_33) rfl ?_
    show Steps p.tables e below (T4.setTop (mkF m 34 #[.val (.int u), .val (.double x0), .second, .val (.double x1), .second, .val (.double x2), .second, .val (.double x3), .second, .val (.ref b1)] [(.int u), (.ref b1)])) _
    refine XS.iconst X4.here hx rfl (hb hby d_prog_8_method_16_code_34) ?_
    show Steps p.tables e below (T4.setTop (mkF m 35 #[.val (.int u), .val (.double x0), .second, .val (.double x1), .second, .val (.double x2), .second, .val (.double x3), .second, .val (.ref b1)] [(.int (3 : Int32)), (.int u), (.ref b1)])) _
    refine XS.iadd X4.here hx rfl (hb hby d_prog_8_method_16_code_35) rfl ?_
    show Steps p.tables e below (T4.setTop (mkF m 36 #[.val (.int u), .val (.double x0), .second, .val (.double x1), .second, .val (.double x2), .second, .val (.double x3), .second, .val (.ref b1)] [(.int (u + (3 : Int32))), (.ref b1)])) _
    refine XS.iconst X4.here hx rfl (hb hby d_prog_8_method_16_code_36) ?_
    show Steps p.tables e below (T4.setTop (mkF m 37 #[.val (.int u), .val (.double x0), .second, .val (.double x1), .second, .val (.double x2), .second, .val (.double x3), .second, .val (.ref b1)] [(.int (4 : Int32)), (.int (u + (3 : Int32))), (.ref b1)])) _
    refine own_irem X4.here hx rfl (hb hby d_prog_8_method_16_code_37) rfl (by decide) ?_
    show Steps p.tables e below (T4.setTop (mkF m 38 #[.val (.int u), .val (.double x0), .second, .val (.double x1), .second, .val (.double x2), .second, .val (.double x3), .second, .val (.ref b1)] [(.int ((u + (3 : Int32)) % (4 : Int32))), (.ref b1)])) _
    refine XS.dload X4.here hx rfl (hb hby d_prog_8_method_16_code_38) rfl ?_
    show Steps p.tables e below (T4.setTop (mkF m 40 #[.val (.int u), .val (.double x0), .second, .val (.double x1), .second, .val (.double x2), .second, .val (.double x3), .second, .val (.ref b1)] [(.double x3), (.int ((u + (3 : Int32)) % (4 : Int32))), (.ref b1)])) _
    refine st5 _ ?_
    show Steps p.tables e below (T5.setTop (mkF m 41 #[.val (.int u), .val (.double x0), .second, .val (.double x1), .second, .val (.double x2), .second, .val (.double x3), .second, .val (.ref b1)] [])) _
    refine XS.aload X5.here hx rfl (hb hby d_prog_8_method_16_code_41) rfl rfl ?_
    show Steps p.tables e below (T5.setTop (mkF m 43 #[.val (.int u), .val (.double x0), .second, .val (.double x1), .second, .val (.double x2), .second, .val (.double x3), .second, .val (.ref b1)] [(.ref b1)])) _
    refine XS.iconst X5.here hx rfl (hb hby d_prog_8_method_16_code_43) ?_
    show Steps p.tables e below (T5.setTop (mkF m 44 #[.val (.int u), .val (.double x0), .second, .val (.double x1), .second, .val (.double x2), .second, .val (.double x3), .second, .val (.ref b1)] [(.int (0 : Int32)), (.ref b1)])) _
    refine X5.daload hx (j := (0 : Int32)) (v := (.double x1)) (own_at e5 Ar4.1) (State.isArrayOf_alike hZ.alike Ar4.2.1) Ar4.2.2 hin4 (Has.at H4 hin4 rfl) (g := (mkF m 44 #[.val (.int u), .val (.double x0), .second, .val (.double x1), .second, .val (.double x2), .second, .val (.double x3), .second, .val (.ref b1)] [(.int (0 : Int32)), (.ref b1)])) rfl rfl (hb hby d_prog_8_method_16_code_44) _ ?_
    show Steps p.tables e below (T5.setTop (mkF m 45 #[.val (.int u), .val (.double x0), .second, .val (.double x1), .second, .val (.double x2), .second, .val (.double x3), .second, .val (.ref b1)] [(.double x1)])) _
    refine XS.aload X5.here hx rfl (hb hby d_prog_8_method_16_code_45) rfl rfl ?_
    show Steps p.tables e below (T5.setTop (mkF m 47 #[.val (.int u), .val (.double x0), .second, .val (.double x1), .second, .val (.double x2), .second, .val (.double x3), .second, .val (.ref b1)] [(.ref b1), (.double x1)])) _
    refine XS.iconst X5.here hx rfl (hb hby d_prog_8_method_16_code_47) ?_
    show Steps p.tables e below (T5.setTop (mkF m 48 #[.val (.int u), .val (.double x0), .second, .val (.double x1), .second, .val (.double x2), .second, .val (.double x3), .second, .val (.ref b1)] [(.int (1 : Int32)), (.ref b1), (.double x1)])) _
    refine X5.daload hx (j := (1 : Int32)) (v := (.double x2)) (own_at e5 Ar4.1) (State.isArrayOf_alike hZ.alike Ar4.2.1) Ar4.2.2 hin5 (Has.at H4 hin5 rfl) (g := (mkF m 48 #[.val (.int u), .val (.double x0), .second, .val (.double x1), .second, .val (.double x2), .second, .val (.double x3), .second, .val (.ref b1)] [(.int (1 : Int32)), (.ref b1), (.double x1)])) rfl rfl (hb hby d_prog_8_method_16_code_48) _ ?_
    show Steps p.tables e below (T5.setTop (mkF m 49 #[.val (.int u), .val (.double x0), .second, .val (.double x1), .second, .val (.double x2), .second, .val (.double x3), .second, .val (.ref b1)] [(.double x2), (.double x1)])) _
    refine XS.daddS X5.here hx rfl (hb hby d_prog_8_method_16_code_49) rfl hn49 (v := (FP.dadd x1 x2)) rfl ?_
    show Steps p.tables e below (T5.setTop (mkF m 50 #[.val (.int u), .val (.double x0), .second, .val (.double x1), .second, .val (.double x2), .second, .val (.double x3), .second, .val (.ref b1)] [(.double (FP.dadd x1 x2))])) _
    refine XS.aload X5.here hx rfl (hb hby d_prog_8_method_16_code_50) rfl rfl ?_
    show Steps p.tables e below (T5.setTop (mkF m 52 #[.val (.int u), .val (.double x0), .second, .val (.double x1), .second, .val (.double x2), .second, .val (.double x3), .second, .val (.ref b1)] [(.ref b1), (.double (FP.dadd x1 x2))])) _
    refine XS.iconst X5.here hx rfl (hb hby d_prog_8_method_16_code_52) ?_
    show Steps p.tables e below (T5.setTop (mkF m 53 #[.val (.int u), .val (.double x0), .second, .val (.double x1), .second, .val (.double x2), .second, .val (.double x3), .second, .val (.ref b1)] [(.int (2 : Int32)), (.ref b1), (.double (FP.dadd x1 x2))])) _
    refine X5.daload hx (j := (2 : Int32)) (v := (.double x3)) (own_at e5 Ar4.1) (State.isArrayOf_alike hZ.alike Ar4.2.1) Ar4.2.2 hin6 (Has.at H4 hin6 rfl) (g := (mkF m 53 #[.val (.int u), .val (.double x0), .second, .val (.double x1), .second, .val (.double x2), .second, .val (.double x3), .second, .val (.ref b1)] [(.int (2 : Int32)), (.ref b1), (.double (FP.dadd x1 x2))])) rfl rfl (hb hby d_prog_8_method_16_code_53) _ ?_
    show Steps p.tables e below (T5.setTop (mkF m 54 #[.val (.int u), .val (.double x0), .second, .val (.double x1), .second, .val (.double x2), .second, .val (.double x3), .second, .val (.ref b1)] [(.double x3), (.double (FP.dadd x1 x2))])) _
    refine XS.aload X5.here hx rfl (hb hby d_prog_8_method_16_code_54) rfl rfl ?_
    show Steps p.tables e below (T5.setTop (mkF m 56 #[.val (.int u), .val (.double x0), .second, .val (.double x1), .second, .val (.double x2), .second, .val (.double x3), .second, .val (.ref b1)] [(.ref b1), (.double x3), (.double (FP.dadd x1 x2))])) _
    refine XS.iconst X5.here hx rfl (hb hby d_prog_8_method_16_code_56) ?_
    show Steps p.tables e below (T5.setTop (mkF m 57 #[.val (.int u), .val (.double x0), .second, .val (.double x1), .second, .val (.double x2), .second, .val (.double x3), .second, .val (.ref b1)] [(.int (3 : Int32)), (.ref b1), (.double x3), (.double (FP.dadd x1 x2))])) _
    refine X5.daload hx (j := (3 : Int32)) (v := (.double x0)) (own_at e5 Ar4.1) (State.isArrayOf_alike hZ.alike Ar4.2.1) Ar4.2.2 hin7 (Has.at H4 hin7 rfl) (g := (mkF m 57 #[.val (.int u), .val (.double x0), .second, .val (.double x1), .second, .val (.double x2), .second, .val (.double x3), .second, .val (.ref b1)] [(.int (3 : Int32)), (.ref b1), (.double x3), (.double (FP.dadd x1 x2))])) rfl rfl (hb hby d_prog_8_method_16_code_57) _ ?_
    show Steps p.tables e below (T5.setTop (mkF m 58 #[.val (.int u), .val (.double x0), .second, .val (.double x1), .second, .val (.double x2), .second, .val (.double x3), .second, .val (.ref b1)] [(.double x0), (.double x3), (.double (FP.dadd x1 x2))])) _
    refine XS.daddS X5.here hx rfl (hb hby d_prog_8_method_16_code_58) rfl hn58 (v := (FP.dadd x3 x0)) rfl ?_
    show Steps p.tables e below (T5.setTop (mkF m 59 #[.val (.int u), .val (.double x0), .second, .val (.double x1), .second, .val (.double x2), .second, .val (.double x3), .second, .val (.ref b1)] [(.double (FP.dadd x3 x0)), (.double (FP.dadd x1 x2))])) _
    refine XS.daddS X5.here hx rfl (hb hby d_prog_8_method_16_code_59) rfl hn59 (v := (FP.dadd (FP.dadd x1 x2) (FP.dadd x3 x0))) rfl ?_
    show Steps p.tables e below (T5.setTop (mkF m 60 #[.val (.int u), .val (.double x0), .second, .val (.double x1), .second, .val (.double x2), .second, .val (.double x3), .second, .val (.ref b1)] [(.double (FP.dadd (FP.dadd x1 x2) (FP.dadd x3 x0)))])) _
    exact own_retD X5 hx Bd.returns (hb hby d_prog_8_method_16_code_60) hr
  · show QA (FP.dadd (FP.dadd x1 x2) (FP.dadd x3 x0)) n0 _ T5.heap _
    rw [e5]
    exact ⟨rfl, NF3⟩
theorem ef_code (m : MethodId) (x0 : Int32) (x1 : Int64) (x2 : Int64) (x3 : Int64) (x4 : Int64) : entryFrame m #[(.int x0), (.long x1), (.long x2), (.long x3), (.long x4)] maxLocals = mkF m 0 #[.val (.int x0), .val (.long x1), .second, .val (.long x2), .second, .val (.long x3), .second, .val (.long x4), .second, .unset, .unset, .unset, .unset, .unset, .unset, .unset, .unset, .unset, .unset, .unset, .unset, .unset, .unset, .unset, .unset, .unset, .unset, .unset, .unset] [] := by first | (simp [entryFrame, mkF, argsToLocals, Value.category, maxLocals]; done) | rfl
set_option maxRecDepth 65536 in
set_option maxHeartbeats 40000000 in
theorem rm0_0 (l : Launch) (Z : State) (a0 : Array Value) (hw : ∀ d ∈ tables_1, d.before a0 Z = true) (ws : List Jvm.Cond) (u0 : Int32) (u1 u2 u3 u4 : Int64) (h0 : Heap) (n0 : Nat) (Z0 : n0 ≤ h0.size) (hj0 : ((u0 &&& (1073741823 : Int32)) % (4 : Int32)) = 0) (hj1 : (((u0 &&& (1073741823 : Int32)) + (1 : Int32)) % (4 : Int32)) = 1) (hj2 : (((u0 &&& (1073741823 : Int32)) + (2 : Int32)) % (4 : Int32)) = 2) (hj3 : (((u0 &&& (1073741823 : Int32)) + (3 : Int32)) % (4 : Int32)) = 3) (hc32 : ((u0 &&& (1073741823 : Int32)) &&& (3 : Int32)) = (0 : Int32)) (hn124 : Jvm.Free.Fl.NoNaN64 (FP.dadd (FP.l2d u1) (FP.l2d u2))) (hn129 : Jvm.Free.Fl.NoNaN64 (FP.dadd (FP.l2d u3) (FP.l2d u4))) (hn130 : Jvm.Free.Fl.NoNaN64 (FP.dadd (FP.dadd (FP.l2d u1) (FP.l2d u2)) (FP.dadd (FP.l2d u3) (FP.l2d u4)))) :
    MetFree l x (head1 (Jvm.Cond.code x code maxLocals ret :: ws) room_1) (fun aa U => aa = #[(.int u0), (.long u1), (.long u2), (.long u3), (.long u4)] ∧ Z.Warmed39 U.vm ∧ U.heap = h0) (fun _ _ _ _ _ => True) (fun _ U o U' => ∃ v L, o = .returned v ∧ Q0 n0 v U'.heap L ∧ FrameEnd U o U' L 16 128) := by
  refine MetFree.of_bodySF (plainFor_of_name pn_code) hisR ?_
  intro p e s m args below meth c s₁ Bd hml0 hP hK
  obtain ⟨rfl, hZ, hh⟩ := hP
  have hx := Bd.exec
  have hby := Bd.bytes
  have hml : c.maxLocals = 29 := hml0
  have hown : s.vm.findClass "com/example/rowfold/rowfold/CodeArrayAddLanesPinLaw" = some m.cls := findClass_of_methodNamed Bd.named
  have hnm := (name_of_methodNamed Bd.named Bd.method).1
  have X0 : Stand p l e room_1 s m #[(.int u0), (.long u1), (.long u2), (.long u3), (.long u4)] below meth c s₁ [] 0 0 := Stand.of_body Bd
  have e0 : s₁.heap = h0 := by rw [← hh, Bd.state]; rfl
  have N0 := Fr.nil n0
  have pre0 : ∀ t, Steps p.tables e below (s₁.setTop (mkF m 0 #[.val (.int u0), .val (.long u1), .second, .val (.long u2), .second, .val (.long u3), .second, .val (.long u4), .second, .unset, .unset, .unset, .unset, .unset, .unset, .unset, .unset, .unset, .unset, .unset, .unset, .unset, .unset, .unset, .unset, .unset, .unset, .unset, .unset] [])) t → Steps p.tables e below (s₁.setTop (entryFrame m #[(.int u0), (.long u1), (.long u2), (.long u3), (.long u4)] maxLocals)) t := fun t k => castTop (ef_code m u0 u1 u2 u3 u4) k
  obtain ⟨_, _, ⟨T1, L1, k1, n1⟩, -, X1, ⟨Lc1, hQ1, l1, y1, z1⟩, st1⟩ := Jvm.LawKit.callS X0 hx (y := (⟨"com/example/rowfold/rowfold/CodeArray", "addLanes", "(IDDDD)D"⟩ : MethodName)) hown (mvT hZ (hw _ (List.mem_of_getElem? (i := 1) rfl))) (mvT hZ (hw _ (List.mem_of_getElem? (i := 2) rfl))) (mvT hZ (hw _ (List.mem_of_getElem? (i := 3) rfl))) (mvT hZ (hw _ (List.mem_of_getElem? (i := 4) rfl))) (by decide) (backOf (W := 0) (rmA_0 l Z a0 hw [] (u0 &&& (1073741823 : Int32)) (FP.l2d u1) (FP.l2d u2) (FP.l2d u3) (FP.l2d u4) h0 n0 Z0 hj0 hj1 hj2 hj3 hn124 hn129 hn130) hZ (hw _ (List.mem_of_getElem? (i := 4) rfl)) (hw _ (List.mem_of_getElem? (i := 3) rfl)) (by decide) (by decide)) (g := (mkF m 143 #[.val (.int u0), .val (.long u1), .second, .val (.long u2), .second, .val (.long u3), .second, .val (.long u4), .second, .val (.int (u0 &&& (1073741823 : Int32))), .val (.double (FP.l2d u1)), .second, .val (.double (FP.l2d u2)), .second, .val (.double (FP.l2d u3)), .second, .val (.double (FP.l2d u4)), .second, .val (.int ((u0 &&& (1073741823 : Int32)) &&& (3 : Int32))), .val (.double (FP.l2d u1)), .second, .val (.double (FP.l2d u2)), .second, .val (.double (FP.l2d u3)), .second, .val (.double (FP.l2d u4)), .second, .val (.double (FP.dadd (FP.dadd (FP.l2d u1) (FP.l2d u2)) (FP.dadd (FP.l2d u3) (FP.l2d u4)))), .second] [(.double (FP.l2d u4)), (.double (FP.l2d u3)), (.double (FP.l2d u2)), (.double (FP.l2d u1)), (.int (u0 &&& (1073741823 : Int32)))])) rfl (by rw [hml]; rfl) (argsL := [(.int (u0 &&& (1073741823 : Int32))), (.double (FP.l2d u1)), (.double (FP.l2d u2)), (.double (FP.l2d u3)), (.double (FP.l2d u4))]) (rest := []) (lenOf pd__IDDDD_D rfl) rfl (by show 2 * 0 + _ ≤ _; exact Nat.le_of_eq rfl) (hb hby at_143) (fun _ _ => ⟨rfl, e0, (by decide : 0 + 1 ≤ _), (by decide : 0 + 4 ≤ _)⟩)
  dsimp only [Pt.U, Pt.locs, Pt.cells, Pt.slots] at X1 l1 y1 z1 st1 hQ1
  subst l1 y1 z1
  obtain ⟨rfl, N1q⟩ := hQ1
  obtain ⟨fs, hr, hrun, hended, hW, hsame⟩ := X1.leave (v := some (.int (1 : Int32))) (fun h => by rw [Bd.returns] at h; cases h)
  refine ⟨_, _, pre0 _ ?_, hrun, hended, _, _, rfl, ?_, ⟨_, rfl⟩, hW, hsame.mono (by decide) (by decide)⟩
  · show Steps p.tables e below (s₁.setTop (mkF m 0 #[.val (.int u0), .val (.long u1), .second, .val (.long u2), .second, .val (.long u3), .second, .val (.long u4), .second, .unset, .unset, .unset, .unset, .unset, .unset, .unset, .unset, .unset, .unset, .unset, .unset, .unset, .unset, .unset, .unset, .unset, .unset, .unset, .unset] [])) _
    refine XS.iloadN X0.here hx rfl (hb hby at_0) rfl ?_
    show Steps p.tables e below (s₁.setTop (mkF m 1 #[.val (.int u0), .val (.long u1), .second, .val (.long u2), .second, .val (.long u3), .second, .val (.long u4), .second, .unset, .unset, .unset, .unset, .unset, .unset, .unset, .unset, .unset, .unset, .unset, .unset, .unset, .unset, .unset, .unset, .unset, .unset, .unset, .unset] [(.int u0)])) _
    refine X0.ldcInt hx hown (mvT hZ (hw _ (List.mem_of_getElem? (i := 0) rfl))) (g := (mkF m 1 #[.val (.int u0), .val (.long u1), .second, .val (.long u2), .second, .val (.long u3), .second, .val (.long u4), .second, .unset, .unset, .unset, .unset, .unset, .unset, .unset, .unset, .unset, .unset, .unset, .unset, .unset, .unset, .unset, .unset, .unset, .unset, .unset, .unset] [(.int u0)])) rfl (hb hby at_1) _ ?_
    show Steps p.tables e below (s₁.setTop (mkF m 3 #[.val (.int u0), .val (.long u1), .second, .val (.long u2), .second, .val (.long u3), .second, .val (.long u4), .second, .unset, .unset, .unset, .unset, .unset, .unset, .unset, .unset, .unset, .unset, .unset, .unset, .unset, .unset, .unset, .unset, .unset, .unset, .unset, .unset] [(.int (1073741823 : Int32)), (.int u0)])) _
    refine XS.iand X0.here hx rfl (hb hby at_3) rfl ?_
    show Steps p.tables e below (s₁.setTop (mkF m 4 #[.val (.int u0), .val (.long u1), .second, .val (.long u2), .second, .val (.long u3), .second, .val (.long u4), .second, .unset, .unset, .unset, .unset, .unset, .unset, .unset, .unset, .unset, .unset, .unset, .unset, .unset, .unset, .unset, .unset, .unset, .unset, .unset, .unset] [(.int (u0 &&& (1073741823 : Int32)))])) _
    refine XS.istore X0.here hx rfl (hb hby at_4) rfl (l' := #[.val (.int u0), .val (.long u1), .second, .val (.long u2), .second, .val (.long u3), .second, .val (.long u4), .second, .val (.int (u0 &&& (1073741823 : Int32))), .unset, .unset, .unset, .unset, .unset, .unset, .unset, .unset, .unset, .unset, .unset, .unset, .unset, .unset, .unset, .unset, .unset, .unset, .unset]) rfl ?_
    show Steps p.tables e below (s₁.setTop (mkF m 6 #[.val (.int u0), .val (.long u1), .second, .val (.long u2), .second, .val (.long u3), .second, .val (.long u4), .second, .val (.int (u0 &&& (1073741823 : Int32))), .unset, .unset, .unset, .unset, .unset, .unset, .unset, .unset, .unset, .unset, .unset, .unset, .unset, .unset, .unset, .unset, .unset, .unset, .unset] [])) _
    refine XS.lloadN X0.here hx rfl (hb hby at_6) rfl ?_
    show Steps p.tables e below (s₁.setTop (mkF m 7 #[.val (.int u0), .val (.long u1), .second, .val (.long u2), .second, .val (.long u3), .second, .val (.long u4), .second, .val (.int (u0 &&& (1073741823 : Int32))), .unset, .unset, .unset, .unset, .unset, .unset, .unset, .unset, .unset, .unset, .unset, .unset, .unset, .unset, .unset, .unset, .unset, .unset, .unset] [(.long u1)])) _
    refine XS.l2dS X0.here hx rfl (hb hby at_7) rfl (v := (FP.l2d u1)) rfl ?_
    show Steps p.tables e below (s₁.setTop (mkF m 8 #[.val (.int u0), .val (.long u1), .second, .val (.long u2), .second, .val (.long u3), .second, .val (.long u4), .second, .val (.int (u0 &&& (1073741823 : Int32))), .unset, .unset, .unset, .unset, .unset, .unset, .unset, .unset, .unset, .unset, .unset, .unset, .unset, .unset, .unset, .unset, .unset, .unset, .unset] [(.double (FP.l2d u1))])) _
    refine XS.dstore X0.here hx rfl (hb hby at_8) rfl (l' := #[.val (.int u0), .val (.long u1), .second, .val (.long u2), .second, .val (.long u3), .second, .val (.long u4), .second, .val (.int (u0 &&& (1073741823 : Int32))), .val (.double (FP.l2d u1)), .second, .unset, .unset, .unset, .unset, .unset, .unset, .unset, .unset, .unset, .unset, .unset, .unset, .unset, .unset, .unset, .unset, .unset]) rfl ?_
    show Steps p.tables e below (s₁.setTop (mkF m 10 #[.val (.int u0), .val (.long u1), .second, .val (.long u2), .second, .val (.long u3), .second, .val (.long u4), .second, .val (.int (u0 &&& (1073741823 : Int32))), .val (.double (FP.l2d u1)), .second, .unset, .unset, .unset, .unset, .unset, .unset, .unset, .unset, .unset, .unset, .unset, .unset, .unset, .unset, .unset, .unset, .unset] [])) _
    refine XS.lloadN X0.here hx rfl (hb hby at_10) rfl ?_
    show Steps p.tables e below (s₁.setTop (mkF m 11 #[.val (.int u0), .val (.long u1), .second, .val (.long u2), .second, .val (.long u3), .second, .val (.long u4), .second, .val (.int (u0 &&& (1073741823 : Int32))), .val (.double (FP.l2d u1)), .second, .unset, .unset, .unset, .unset, .unset, .unset, .unset, .unset, .unset, .unset, .unset, .unset, .unset, .unset, .unset, .unset, .unset] [(.long u2)])) _
    refine XS.l2dS X0.here hx rfl (hb hby at_11) rfl (v := (FP.l2d u2)) rfl ?_
    show Steps p.tables e below (s₁.setTop (mkF m 12 #[.val (.int u0), .val (.long u1), .second, .val (.long u2), .second, .val (.long u3), .second, .val (.long u4), .second, .val (.int (u0 &&& (1073741823 : Int32))), .val (.double (FP.l2d u1)), .second, .unset, .unset, .unset, .unset, .unset, .unset, .unset, .unset, .unset, .unset, .unset, .unset, .unset, .unset, .unset, .unset, .unset] [(.double (FP.l2d u2))])) _
    refine XS.dstore X0.here hx rfl (hb hby at_12) rfl (l' := #[.val (.int u0), .val (.long u1), .second, .val (.long u2), .second, .val (.long u3), .second, .val (.long u4), .second, .val (.int (u0 &&& (1073741823 : Int32))), .val (.double (FP.l2d u1)), .second, .val (.double (FP.l2d u2)), .second, .unset, .unset, .unset, .unset, .unset, .unset, .unset, .unset, .unset, .unset, .unset, .unset, .unset, .unset, .unset]) rfl ?_
    show Steps p.tables e below (s₁.setTop (mkF m 14 #[.val (.int u0), .val (.long u1), .second, .val (.long u2), .second, .val (.long u3), .second, .val (.long u4), .second, .val (.int (u0 &&& (1073741823 : Int32))), .val (.double (FP.l2d u1)), .second, .val (.double (FP.l2d u2)), .second, .unset, .unset, .unset, .unset, .unset, .unset, .unset, .unset, .unset, .unset, .unset, .unset, .unset, .unset, .unset] [])) _
    refine XS.lload X0.here hx rfl (hb hby at_14) rfl ?_
    show Steps p.tables e below (s₁.setTop (mkF m 16 #[.val (.int u0), .val (.long u1), .second, .val (.long u2), .second, .val (.long u3), .second, .val (.long u4), .second, .val (.int (u0 &&& (1073741823 : Int32))), .val (.double (FP.l2d u1)), .second, .val (.double (FP.l2d u2)), .second, .unset, .unset, .unset, .unset, .unset, .unset, .unset, .unset, .unset, .unset, .unset, .unset, .unset, .unset, .unset] [(.long u3)])) _
    refine XS.l2dS X0.here hx rfl (hb hby at_16) rfl (v := (FP.l2d u3)) rfl ?_
    show Steps p.tables e below (s₁.setTop (mkF m 17 #[.val (.int u0), .val (.long u1), .second, .val (.long u2), .second, .val (.long u3), .second, .val (.long u4), .second, .val (.int (u0 &&& (1073741823 : Int32))), .val (.double (FP.l2d u1)), .second, .val (.double (FP.l2d u2)), .second, .unset, .unset, .unset, .unset, .unset, .unset, .unset, .unset, .unset, .unset, .unset, .unset, .unset, .unset, .unset] [(.double (FP.l2d u3))])) _
    refine XS.dstore X0.here hx rfl (hb hby at_17) rfl (l' := #[.val (.int u0), .val (.long u1), .second, .val (.long u2), .second, .val (.long u3), .second, .val (.long u4), .second, .val (.int (u0 &&& (1073741823 : Int32))), .val (.double (FP.l2d u1)), .second, .val (.double (FP.l2d u2)), .second, .val (.double (FP.l2d u3)), .second, .unset, .unset, .unset, .unset, .unset, .unset, .unset, .unset, .unset, .unset, .unset, .unset, .unset]) rfl ?_
    show Steps p.tables e below (s₁.setTop (mkF m 19 #[.val (.int u0), .val (.long u1), .second, .val (.long u2), .second, .val (.long u3), .second, .val (.long u4), .second, .val (.int (u0 &&& (1073741823 : Int32))), .val (.double (FP.l2d u1)), .second, .val (.double (FP.l2d u2)), .second, .val (.double (FP.l2d u3)), .second, .unset, .unset, .unset, .unset, .unset, .unset, .unset, .unset, .unset, .unset, .unset, .unset, .unset] [])) _
    refine XS.lload X0.here hx rfl (hb hby at_19) rfl ?_
    show Steps p.tables e below (s₁.setTop (mkF m 21 #[.val (.int u0), .val (.long u1), .second, .val (.long u2), .second, .val (.long u3), .second, .val (.long u4), .second, .val (.int (u0 &&& (1073741823 : Int32))), .val (.double (FP.l2d u1)), .second, .val (.double (FP.l2d u2)), .second, .val (.double (FP.l2d u3)), .second, .unset, .unset, .unset, .unset, .unset, .unset, .unset, .unset, .unset, .unset, .unset, .unset, .unset] [(.long u4)])) _
    refine XS.l2dS X0.here hx rfl (hb hby at_21) rfl (v := (FP.l2d u4)) rfl ?_
    show Steps p.tables e below (s₁.setTop (mkF m 22 #[.val (.int u0), .val (.long u1), .second, .val (.long u2), .second, .val (.long u3), .second, .val (.long u4), .second, .val (.int (u0 &&& (1073741823 : Int32))), .val (.double (FP.l2d u1)), .second, .val (.double (FP.l2d u2)), .second, .val (.double (FP.l2d u3)), .second, .unset, .unset, .unset, .unset, .unset, .unset, .unset, .unset, .unset, .unset, .unset, .unset, .unset] [(.double (FP.l2d u4))])) _
    refine XS.dstore X0.here hx rfl (hb hby at_22) rfl (l' := #[.val (.int u0), .val (.long u1), .second, .val (.long u2), .second, .val (.long u3), .second, .val (.long u4), .second, .val (.int (u0 &&& (1073741823 : Int32))), .val (.double (FP.l2d u1)), .second, .val (.double (FP.l2d u2)), .second, .val (.double (FP.l2d u3)), .second, .val (.double (FP.l2d u4)), .second, .unset, .unset, .unset, .unset, .unset, .unset, .unset, .unset, .unset, .unset, .unset]) rfl ?_
    show Steps p.tables e below (s₁.setTop (mkF m 24 #[.val (.int u0), .val (.long u1), .second, .val (.long u2), .second, .val (.long u3), .second, .val (.long u4), .second, .val (.int (u0 &&& (1073741823 : Int32))), .val (.double (FP.l2d u1)), .second, .val (.double (FP.l2d u2)), .second, .val (.double (FP.l2d u3)), .second, .val (.double (FP.l2d u4)), .second, .unset, .unset, .unset, .unset, .unset, .unset, .unset, .unset, .unset, .unset, .unset] [])) _
    refine XS.iload X0.here hx rfl (hb hby at_24) rfl ?_
    show Steps p.tables e below (s₁.setTop (mkF m 26 #[.val (.int u0), .val (.long u1), .second, .val (.long u2), .second, .val (.long u3), .second, .val (.long u4), .second, .val (.int (u0 &&& (1073741823 : Int32))), .val (.double (FP.l2d u1)), .second, .val (.double (FP.l2d u2)), .second, .val (.double (FP.l2d u3)), .second, .val (.double (FP.l2d u4)), .second, .unset, .unset, .unset, .unset, .unset, .unset, .unset, .unset, .unset, .unset, .unset] [(.int (u0 &&& (1073741823 : Int32)))])) _
    refine XS.iconst X0.here hx rfl (hb hby at_26) ?_
    show Steps p.tables e below (s₁.setTop (mkF m 27 #[.val (.int u0), .val (.long u1), .second, .val (.long u2), .second, .val (.long u3), .second, .val (.long u4), .second, .val (.int (u0 &&& (1073741823 : Int32))), .val (.double (FP.l2d u1)), .second, .val (.double (FP.l2d u2)), .second, .val (.double (FP.l2d u3)), .second, .val (.double (FP.l2d u4)), .second, .unset, .unset, .unset, .unset, .unset, .unset, .unset, .unset, .unset, .unset, .unset] [(.int (3 : Int32)), (.int (u0 &&& (1073741823 : Int32)))])) _
    refine XS.iand X0.here hx rfl (hb hby at_27) rfl ?_
    show Steps p.tables e below (s₁.setTop (mkF m 28 #[.val (.int u0), .val (.long u1), .second, .val (.long u2), .second, .val (.long u3), .second, .val (.long u4), .second, .val (.int (u0 &&& (1073741823 : Int32))), .val (.double (FP.l2d u1)), .second, .val (.double (FP.l2d u2)), .second, .val (.double (FP.l2d u3)), .second, .val (.double (FP.l2d u4)), .second, .unset, .unset, .unset, .unset, .unset, .unset, .unset, .unset, .unset, .unset, .unset] [(.int ((u0 &&& (1073741823 : Int32)) &&& (3 : Int32)))])) _
    refine XS.istore X0.here hx rfl (hb hby at_28) rfl (l' := #[.val (.int u0), .val (.long u1), .second, .val (.long u2), .second, .val (.long u3), .second, .val (.long u4), .second, .val (.int (u0 &&& (1073741823 : Int32))), .val (.double (FP.l2d u1)), .second, .val (.double (FP.l2d u2)), .second, .val (.double (FP.l2d u3)), .second, .val (.double (FP.l2d u4)), .second, .val (.int ((u0 &&& (1073741823 : Int32)) &&& (3 : Int32))), .unset, .unset, .unset, .unset, .unset, .unset, .unset, .unset, .unset, .unset]) rfl ?_
    show Steps p.tables e below (s₁.setTop (mkF m 30 #[.val (.int u0), .val (.long u1), .second, .val (.long u2), .second, .val (.long u3), .second, .val (.long u4), .second, .val (.int (u0 &&& (1073741823 : Int32))), .val (.double (FP.l2d u1)), .second, .val (.double (FP.l2d u2)), .second, .val (.double (FP.l2d u3)), .second, .val (.double (FP.l2d u4)), .second, .val (.int ((u0 &&& (1073741823 : Int32)) &&& (3 : Int32))), .unset, .unset, .unset, .unset, .unset, .unset, .unset, .unset, .unset, .unset] [])) _
    refine XS.iload X0.here hx rfl (hb hby at_30) rfl ?_
    show Steps p.tables e below (s₁.setTop (mkF m 32 #[.val (.int u0), .val (.long u1), .second, .val (.long u2), .second, .val (.long u3), .second, .val (.long u4), .second, .val (.int (u0 &&& (1073741823 : Int32))), .val (.double (FP.l2d u1)), .second, .val (.double (FP.l2d u2)), .second, .val (.double (FP.l2d u3)), .second, .val (.double (FP.l2d u4)), .second, .val (.int ((u0 &&& (1073741823 : Int32)) &&& (3 : Int32))), .unset, .unset, .unset, .unset, .unset, .unset, .unset, .unset, .unset, .unset] [(.int ((u0 &&& (1073741823 : Int32)) &&& (3 : Int32)))])) _
    refine XS.ifNo X0.here hx rfl (hb hby at_32) rfl ((if0 _ _).trans (teq hc32).2) ?_
    show Steps p.tables e below (s₁.setTop (mkF m 35 #[.val (.int u0), .val (.long u1), .second, .val (.long u2), .second, .val (.long u3), .second, .val (.long u4), .second, .val (.int (u0 &&& (1073741823 : Int32))), .val (.double (FP.l2d u1)), .second, .val (.double (FP.l2d u2)), .second, .val (.double (FP.l2d u3)), .second, .val (.double (FP.l2d u4)), .second, .val (.int ((u0 &&& (1073741823 : Int32)) &&& (3 : Int32))), .unset, .unset, .unset, .unset, .unset, .unset, .unset, .unset, .unset, .unset] [])) _
    refine XS.dload X0.here hx rfl (hb hby at_35) rfl ?_
    show Steps p.tables e below (s₁.setTop (mkF m 37 #[.val (.int u0), .val (.long u1), .second, .val (.long u2), .second, .val (.long u3), .second, .val (.long u4), .second, .val (.int (u0 &&& (1073741823 : Int32))), .val (.double (FP.l2d u1)), .second, .val (.double (FP.l2d u2)), .second, .val (.double (FP.l2d u3)), .second, .val (.double (FP.l2d u4)), .second, .val (.int ((u0 &&& (1073741823 : Int32)) &&& (3 : Int32))), .unset, .unset, .unset, .unset, .unset, .unset, .unset, .unset, .unset, .unset] [(.double (FP.l2d u1))])) _
    refine XS.dstore X0.here hx rfl (hb hby at_37) rfl (l' := #[.val (.int u0), .val (.long u1), .second, .val (.long u2), .second, .val (.long u3), .second, .val (.long u4), .second, .val (.int (u0 &&& (1073741823 : Int32))), .val (.double (FP.l2d u1)), .second, .val (.double (FP.l2d u2)), .second, .val (.double (FP.l2d u3)), .second, .val (.double (FP.l2d u4)), .second, .val (.int ((u0 &&& (1073741823 : Int32)) &&& (3 : Int32))), .val (.double (FP.l2d u1)), .second, .unset, .unset, .unset, .unset, .unset, .unset, .unset, .unset]) rfl ?_
    show Steps p.tables e below (s₁.setTop (mkF m 39 #[.val (.int u0), .val (.long u1), .second, .val (.long u2), .second, .val (.long u3), .second, .val (.long u4), .second, .val (.int (u0 &&& (1073741823 : Int32))), .val (.double (FP.l2d u1)), .second, .val (.double (FP.l2d u2)), .second, .val (.double (FP.l2d u3)), .second, .val (.double (FP.l2d u4)), .second, .val (.int ((u0 &&& (1073741823 : Int32)) &&& (3 : Int32))), .val (.double (FP.l2d u1)), .second, .unset, .unset, .unset, .unset, .unset, .unset, .unset, .unset] [])) _
    refine XS.dload X0.here hx rfl (hb hby at_39) rfl ?_
    show Steps p.tables e below (s₁.setTop (mkF m 41 #[.val (.int u0), .val (.long u1), .second, .val (.long u2), .second, .val (.long u3), .second, .val (.long u4), .second, .val (.int (u0 &&& (1073741823 : Int32))), .val (.double (FP.l2d u1)), .second, .val (.double (FP.l2d u2)), .second, .val (.double (FP.l2d u3)), .second, .val (.double (FP.l2d u4)), .second, .val (.int ((u0 &&& (1073741823 : Int32)) &&& (3 : Int32))), .val (.double (FP.l2d u1)), .second, .unset, .unset, .unset, .unset, .unset, .unset, .unset, .unset] [(.double (FP.l2d u2))])) _
    refine XS.dstore X0.here hx rfl (hb hby at_41) rfl (l' := #[.val (.int u0), .val (.long u1), .second, .val (.long u2), .second, .val (.long u3), .second, .val (.long u4), .second, .val (.int (u0 &&& (1073741823 : Int32))), .val (.double (FP.l2d u1)), .second, .val (.double (FP.l2d u2)), .second, .val (.double (FP.l2d u3)), .second, .val (.double (FP.l2d u4)), .second, .val (.int ((u0 &&& (1073741823 : Int32)) &&& (3 : Int32))), .val (.double (FP.l2d u1)), .second, .val (.double (FP.l2d u2)), .second, .unset, .unset, .unset, .unset, .unset, .unset]) rfl ?_
    show Steps p.tables e below (s₁.setTop (mkF m 43 #[.val (.int u0), .val (.long u1), .second, .val (.long u2), .second, .val (.long u3), .second, .val (.long u4), .second, .val (.int (u0 &&& (1073741823 : Int32))), .val (.double (FP.l2d u1)), .second, .val (.double (FP.l2d u2)), .second, .val (.double (FP.l2d u3)), .second, .val (.double (FP.l2d u4)), .second, .val (.int ((u0 &&& (1073741823 : Int32)) &&& (3 : Int32))), .val (.double (FP.l2d u1)), .second, .val (.double (FP.l2d u2)), .second, .unset, .unset, .unset, .unset, .unset, .unset] [])) _
    refine XS.dload X0.here hx rfl (hb hby at_43) rfl ?_
    show Steps p.tables e below (s₁.setTop (mkF m 45 #[.val (.int u0), .val (.long u1), .second, .val (.long u2), .second, .val (.long u3), .second, .val (.long u4), .second, .val (.int (u0 &&& (1073741823 : Int32))), .val (.double (FP.l2d u1)), .second, .val (.double (FP.l2d u2)), .second, .val (.double (FP.l2d u3)), .second, .val (.double (FP.l2d u4)), .second, .val (.int ((u0 &&& (1073741823 : Int32)) &&& (3 : Int32))), .val (.double (FP.l2d u1)), .second, .val (.double (FP.l2d u2)), .second, .unset, .unset, .unset, .unset, .unset, .unset] [(.double (FP.l2d u3))])) _
    refine XS.dstore X0.here hx rfl (hb hby at_45) rfl (l' := #[.val (.int u0), .val (.long u1), .second, .val (.long u2), .second, .val (.long u3), .second, .val (.long u4), .second, .val (.int (u0 &&& (1073741823 : Int32))), .val (.double (FP.l2d u1)), .second, .val (.double (FP.l2d u2)), .second, .val (.double (FP.l2d u3)), .second, .val (.double (FP.l2d u4)), .second, .val (.int ((u0 &&& (1073741823 : Int32)) &&& (3 : Int32))), .val (.double (FP.l2d u1)), .second, .val (.double (FP.l2d u2)), .second, .val (.double (FP.l2d u3)), .second, .unset, .unset, .unset, .unset]) rfl ?_
    show Steps p.tables e below (s₁.setTop (mkF m 47 #[.val (.int u0), .val (.long u1), .second, .val (.long u2), .second, .val (.long u3), .second, .val (.long u4), .second, .val (.int (u0 &&& (1073741823 : Int32))), .val (.double (FP.l2d u1)), .second, .val (.double (FP.l2d u2)), .second, .val (.double (FP.l2d u3)), .second, .val (.double (FP.l2d u4)), .second, .val (.int ((u0 &&& (1073741823 : Int32)) &&& (3 : Int32))), .val (.double (FP.l2d u1)), .second, .val (.double (FP.l2d u2)), .second, .val (.double (FP.l2d u3)), .second, .unset, .unset, .unset, .unset] [])) _
    refine XS.dload X0.here hx rfl (hb hby at_47) rfl ?_
    show Steps p.tables e below (s₁.setTop (mkF m 49 #[.val (.int u0), .val (.long u1), .second, .val (.long u2), .second, .val (.long u3), .second, .val (.long u4), .second, .val (.int (u0 &&& (1073741823 : Int32))), .val (.double (FP.l2d u1)), .second, .val (.double (FP.l2d u2)), .second, .val (.double (FP.l2d u3)), .second, .val (.double (FP.l2d u4)), .second, .val (.int ((u0 &&& (1073741823 : Int32)) &&& (3 : Int32))), .val (.double (FP.l2d u1)), .second, .val (.double (FP.l2d u2)), .second, .val (.double (FP.l2d u3)), .second, .unset, .unset, .unset, .unset] [(.double (FP.l2d u4))])) _
    refine XS.dstore X0.here hx rfl (hb hby at_49) rfl (l' := #[.val (.int u0), .val (.long u1), .second, .val (.long u2), .second, .val (.long u3), .second, .val (.long u4), .second, .val (.int (u0 &&& (1073741823 : Int32))), .val (.double (FP.l2d u1)), .second, .val (.double (FP.l2d u2)), .second, .val (.double (FP.l2d u3)), .second, .val (.double (FP.l2d u4)), .second, .val (.int ((u0 &&& (1073741823 : Int32)) &&& (3 : Int32))), .val (.double (FP.l2d u1)), .second, .val (.double (FP.l2d u2)), .second, .val (.double (FP.l2d u3)), .second, .val (.double (FP.l2d u4)), .second, .unset, .unset]) rfl ?_
    show Steps p.tables e below (s₁.setTop (mkF m 51 #[.val (.int u0), .val (.long u1), .second, .val (.long u2), .second, .val (.long u3), .second, .val (.long u4), .second, .val (.int (u0 &&& (1073741823 : Int32))), .val (.double (FP.l2d u1)), .second, .val (.double (FP.l2d u2)), .second, .val (.double (FP.l2d u3)), .second, .val (.double (FP.l2d u4)), .second, .val (.int ((u0 &&& (1073741823 : Int32)) &&& (3 : Int32))), .val (.double (FP.l2d u1)), .second, .val (.double (FP.l2d u2)), .second, .val (.double (FP.l2d u3)), .second, .val (.double (FP.l2d u4)), .second, .unset, .unset] [])) _
    refine XS.goto X0.here hx rfl (pc0 := 51) (pc' := 120) rfl (hb hby at_51) (by decide) (by decide) ?_
    show Steps p.tables e below (s₁.setTop (mkF m 120 #[.val (.int u0), .val (.long u1), .second, .val (.long u2), .second, .val (.long u3), .second, .val (.long u4), .second, .val (.int (u0 &&& (1073741823 : Int32))), .val (.double (FP.l2d u1)), .second, .val (.double (FP.l2d u2)), .second, .val (.double (FP.l2d u3)), .second, .val (.double (FP.l2d u4)), .second, .val (.int ((u0 &&& (1073741823 : Int32)) &&& (3 : Int32))), .val (.double (FP.l2d u1)), .second, .val (.double (FP.l2d u2)), .second, .val (.double (FP.l2d u3)), .second, .val (.double (FP.l2d u4)), .second, .unset, .unset] [])) _
    refine XS.dload X0.here hx rfl (hb hby at_120) rfl ?_
    show Steps p.tables e below (s₁.setTop (mkF m 122 #[.val (.int u0), .val (.long u1), .second, .val (.long u2), .second, .val (.long u3), .second, .val (.long u4), .second, .val (.int (u0 &&& (1073741823 : Int32))), .val (.double (FP.l2d u1)), .second, .val (.double (FP.l2d u2)), .second, .val (.double (FP.l2d u3)), .second, .val (.double (FP.l2d u4)), .second, .val (.int ((u0 &&& (1073741823 : Int32)) &&& (3 : Int32))), .val (.double (FP.l2d u1)), .second, .val (.double (FP.l2d u2)), .second, .val (.double (FP.l2d u3)), .second, .val (.double (FP.l2d u4)), .second, .unset, .unset] [(.double (FP.l2d u1))])) _
    refine XS.dload X0.here hx rfl (hb hby at_122) rfl ?_
    show Steps p.tables e below (s₁.setTop (mkF m 124 #[.val (.int u0), .val (.long u1), .second, .val (.long u2), .second, .val (.long u3), .second, .val (.long u4), .second, .val (.int (u0 &&& (1073741823 : Int32))), .val (.double (FP.l2d u1)), .second, .val (.double (FP.l2d u2)), .second, .val (.double (FP.l2d u3)), .second, .val (.double (FP.l2d u4)), .second, .val (.int ((u0 &&& (1073741823 : Int32)) &&& (3 : Int32))), .val (.double (FP.l2d u1)), .second, .val (.double (FP.l2d u2)), .second, .val (.double (FP.l2d u3)), .second, .val (.double (FP.l2d u4)), .second, .unset, .unset] [(.double (FP.l2d u2)), (.double (FP.l2d u1))])) _
    refine XS.daddS X0.here hx rfl (hb hby at_124) rfl hn124 (v := (FP.dadd (FP.l2d u1) (FP.l2d u2))) rfl ?_
    show Steps p.tables e below (s₁.setTop (mkF m 125 #[.val (.int u0), .val (.long u1), .second, .val (.long u2), .second, .val (.long u3), .second, .val (.long u4), .second, .val (.int (u0 &&& (1073741823 : Int32))), .val (.double (FP.l2d u1)), .second, .val (.double (FP.l2d u2)), .second, .val (.double (FP.l2d u3)), .second, .val (.double (FP.l2d u4)), .second, .val (.int ((u0 &&& (1073741823 : Int32)) &&& (3 : Int32))), .val (.double (FP.l2d u1)), .second, .val (.double (FP.l2d u2)), .second, .val (.double (FP.l2d u3)), .second, .val (.double (FP.l2d u4)), .second, .unset, .unset] [(.double (FP.dadd (FP.l2d u1) (FP.l2d u2)))])) _
    refine XS.dload X0.here hx rfl (hb hby at_125) rfl ?_
    show Steps p.tables e below (s₁.setTop (mkF m 127 #[.val (.int u0), .val (.long u1), .second, .val (.long u2), .second, .val (.long u3), .second, .val (.long u4), .second, .val (.int (u0 &&& (1073741823 : Int32))), .val (.double (FP.l2d u1)), .second, .val (.double (FP.l2d u2)), .second, .val (.double (FP.l2d u3)), .second, .val (.double (FP.l2d u4)), .second, .val (.int ((u0 &&& (1073741823 : Int32)) &&& (3 : Int32))), .val (.double (FP.l2d u1)), .second, .val (.double (FP.l2d u2)), .second, .val (.double (FP.l2d u3)), .second, .val (.double (FP.l2d u4)), .second, .unset, .unset] [(.double (FP.l2d u3)), (.double (FP.dadd (FP.l2d u1) (FP.l2d u2)))])) _
    refine XS.dload X0.here hx rfl (hb hby at_127) rfl ?_
    show Steps p.tables e below (s₁.setTop (mkF m 129 #[.val (.int u0), .val (.long u1), .second, .val (.long u2), .second, .val (.long u3), .second, .val (.long u4), .second, .val (.int (u0 &&& (1073741823 : Int32))), .val (.double (FP.l2d u1)), .second, .val (.double (FP.l2d u2)), .second, .val (.double (FP.l2d u3)), .second, .val (.double (FP.l2d u4)), .second, .val (.int ((u0 &&& (1073741823 : Int32)) &&& (3 : Int32))), .val (.double (FP.l2d u1)), .second, .val (.double (FP.l2d u2)), .second, .val (.double (FP.l2d u3)), .second, .val (.double (FP.l2d u4)), .second, .unset, .unset] [(.double (FP.l2d u4)), (.double (FP.l2d u3)), (.double (FP.dadd (FP.l2d u1) (FP.l2d u2)))])) _
    refine XS.daddS X0.here hx rfl (hb hby at_129) rfl hn129 (v := (FP.dadd (FP.l2d u3) (FP.l2d u4))) rfl ?_
    show Steps p.tables e below (s₁.setTop (mkF m 130 #[.val (.int u0), .val (.long u1), .second, .val (.long u2), .second, .val (.long u3), .second, .val (.long u4), .second, .val (.int (u0 &&& (1073741823 : Int32))), .val (.double (FP.l2d u1)), .second, .val (.double (FP.l2d u2)), .second, .val (.double (FP.l2d u3)), .second, .val (.double (FP.l2d u4)), .second, .val (.int ((u0 &&& (1073741823 : Int32)) &&& (3 : Int32))), .val (.double (FP.l2d u1)), .second, .val (.double (FP.l2d u2)), .second, .val (.double (FP.l2d u3)), .second, .val (.double (FP.l2d u4)), .second, .unset, .unset] [(.double (FP.dadd (FP.l2d u3) (FP.l2d u4))), (.double (FP.dadd (FP.l2d u1) (FP.l2d u2)))])) _
    refine XS.daddS X0.here hx rfl (hb hby at_130) rfl hn130 (v := (FP.dadd (FP.dadd (FP.l2d u1) (FP.l2d u2)) (FP.dadd (FP.l2d u3) (FP.l2d u4)))) rfl ?_
    show Steps p.tables e below (s₁.setTop (mkF m 131 #[.val (.int u0), .val (.long u1), .second, .val (.long u2), .second, .val (.long u3), .second, .val (.long u4), .second, .val (.int (u0 &&& (1073741823 : Int32))), .val (.double (FP.l2d u1)), .second, .val (.double (FP.l2d u2)), .second, .val (.double (FP.l2d u3)), .second, .val (.double (FP.l2d u4)), .second, .val (.int ((u0 &&& (1073741823 : Int32)) &&& (3 : Int32))), .val (.double (FP.l2d u1)), .second, .val (.double (FP.l2d u2)), .second, .val (.double (FP.l2d u3)), .second, .val (.double (FP.l2d u4)), .second, .unset, .unset] [(.double (FP.dadd (FP.dadd (FP.l2d u1) (FP.l2d u2)) (FP.dadd (FP.l2d u3) (FP.l2d u4))))])) _
    refine XS.dstore X0.here hx rfl (hb hby at_131) rfl (l' := #[.val (.int u0), .val (.long u1), .second, .val (.long u2), .second, .val (.long u3), .second, .val (.long u4), .second, .val (.int (u0 &&& (1073741823 : Int32))), .val (.double (FP.l2d u1)), .second, .val (.double (FP.l2d u2)), .second, .val (.double (FP.l2d u3)), .second, .val (.double (FP.l2d u4)), .second, .val (.int ((u0 &&& (1073741823 : Int32)) &&& (3 : Int32))), .val (.double (FP.l2d u1)), .second, .val (.double (FP.l2d u2)), .second, .val (.double (FP.l2d u3)), .second, .val (.double (FP.l2d u4)), .second, .val (.double (FP.dadd (FP.dadd (FP.l2d u1) (FP.l2d u2)) (FP.dadd (FP.l2d u3) (FP.l2d u4)))), .second]) rfl ?_
    show Steps p.tables e below (s₁.setTop (mkF m 133 #[.val (.int u0), .val (.long u1), .second, .val (.long u2), .second, .val (.long u3), .second, .val (.long u4), .second, .val (.int (u0 &&& (1073741823 : Int32))), .val (.double (FP.l2d u1)), .second, .val (.double (FP.l2d u2)), .second, .val (.double (FP.l2d u3)), .second, .val (.double (FP.l2d u4)), .second, .val (.int ((u0 &&& (1073741823 : Int32)) &&& (3 : Int32))), .val (.double (FP.l2d u1)), .second, .val (.double (FP.l2d u2)), .second, .val (.double (FP.l2d u3)), .second, .val (.double (FP.l2d u4)), .second, .val (.double (FP.dadd (FP.dadd (FP.l2d u1) (FP.l2d u2)) (FP.dadd (FP.l2d u3) (FP.l2d u4)))), .second] [])) _
    refine XS.iload X0.here hx rfl (hb hby at_133) rfl ?_
    show Steps p.tables e below (s₁.setTop (mkF m 135 #[.val (.int u0), .val (.long u1), .second, .val (.long u2), .second, .val (.long u3), .second, .val (.long u4), .second, .val (.int (u0 &&& (1073741823 : Int32))), .val (.double (FP.l2d u1)), .second, .val (.double (FP.l2d u2)), .second, .val (.double (FP.l2d u3)), .second, .val (.double (FP.l2d u4)), .second, .val (.int ((u0 &&& (1073741823 : Int32)) &&& (3 : Int32))), .val (.double (FP.l2d u1)), .second, .val (.double (FP.l2d u2)), .second, .val (.double (FP.l2d u3)), .second, .val (.double (FP.l2d u4)), .second, .val (.double (FP.dadd (FP.dadd (FP.l2d u1) (FP.l2d u2)) (FP.dadd (FP.l2d u3) (FP.l2d u4)))), .second] [(.int (u0 &&& (1073741823 : Int32)))])) _
    refine XS.dload X0.here hx rfl (hb hby at_135) rfl ?_
    show Steps p.tables e below (s₁.setTop (mkF m 137 #[.val (.int u0), .val (.long u1), .second, .val (.long u2), .second, .val (.long u3), .second, .val (.long u4), .second, .val (.int (u0 &&& (1073741823 : Int32))), .val (.double (FP.l2d u1)), .second, .val (.double (FP.l2d u2)), .second, .val (.double (FP.l2d u3)), .second, .val (.double (FP.l2d u4)), .second, .val (.int ((u0 &&& (1073741823 : Int32)) &&& (3 : Int32))), .val (.double (FP.l2d u1)), .second, .val (.double (FP.l2d u2)), .second, .val (.double (FP.l2d u3)), .second, .val (.double (FP.l2d u4)), .second, .val (.double (FP.dadd (FP.dadd (FP.l2d u1) (FP.l2d u2)) (FP.dadd (FP.l2d u3) (FP.l2d u4)))), .second] [(.double (FP.l2d u1)), (.int (u0 &&& (1073741823 : Int32)))])) _
    refine XS.dload X0.here hx rfl (hb hby at_137) rfl ?_
    show Steps p.tables e below (s₁.setTop (mkF m 139 #[.val (.int u0), .val (.long u1), .second, .val (.long u2), .second, .val (.long u3), .second, .val (.long u4), .second, .val (.int (u0 &&& (1073741823 : Int32))), .val (.double (FP.l2d u1)), .second, .val (.double (FP.l2d u2)), .second, .val (.double (FP.l2d u3)), .second, .val (.double (FP.l2d u4)), .second, .val (.int ((u0 &&& (1073741823 : Int32)) &&& (3 : Int32))), .val (.double (FP.l2d u1)), .second, .val (.double (FP.l2d u2)), .second, .val (.double (FP.l2d u3)), .second, .val (.double (FP.l2d u4)), .second, .val (.double (FP.dadd (FP.dadd (FP.l2d u1) (FP.l2d u2)) (FP.dadd (FP.l2d u3) (FP.l2d u4)))), .second] [(.double (FP.l2d u2)), (.double (FP.l2d u1)), (.int (u0 &&& (1073741823 : Int32)))])) _
    refine XS.dload X0.here hx rfl (hb hby at_139) rfl ?_
    show Steps p.tables e below (s₁.setTop (mkF m 141 #[.val (.int u0), .val (.long u1), .second, .val (.long u2), .second, .val (.long u3), .second, .val (.long u4), .second, .val (.int (u0 &&& (1073741823 : Int32))), .val (.double (FP.l2d u1)), .second, .val (.double (FP.l2d u2)), .second, .val (.double (FP.l2d u3)), .second, .val (.double (FP.l2d u4)), .second, .val (.int ((u0 &&& (1073741823 : Int32)) &&& (3 : Int32))), .val (.double (FP.l2d u1)), .second, .val (.double (FP.l2d u2)), .second, .val (.double (FP.l2d u3)), .second, .val (.double (FP.l2d u4)), .second, .val (.double (FP.dadd (FP.dadd (FP.l2d u1) (FP.l2d u2)) (FP.dadd (FP.l2d u3) (FP.l2d u4)))), .second] [(.double (FP.l2d u3)), (.double (FP.l2d u2)), (.double (FP.l2d u1)), (.int (u0 &&& (1073741823 : Int32)))])) _
    refine XS.dload X0.here hx rfl (hb hby at_141) rfl ?_
    show Steps p.tables e below (s₁.setTop (mkF m 143 #[.val (.int u0), .val (.long u1), .second, .val (.long u2), .second, .val (.long u3), .second, .val (.long u4), .second, .val (.int (u0 &&& (1073741823 : Int32))), .val (.double (FP.l2d u1)), .second, .val (.double (FP.l2d u2)), .second, .val (.double (FP.l2d u3)), .second, .val (.double (FP.l2d u4)), .second, .val (.int ((u0 &&& (1073741823 : Int32)) &&& (3 : Int32))), .val (.double (FP.l2d u1)), .second, .val (.double (FP.l2d u2)), .second, .val (.double (FP.l2d u3)), .second, .val (.double (FP.l2d u4)), .second, .val (.double (FP.dadd (FP.dadd (FP.l2d u1) (FP.l2d u2)) (FP.dadd (FP.l2d u3) (FP.l2d u4)))), .second] [(.double (FP.l2d u4)), (.double (FP.l2d u3)), (.double (FP.l2d u2)), (.double (FP.l2d u1)), (.int (u0 &&& (1073741823 : Int32)))])) _
    refine st1 _ ?_
    show Steps p.tables e below (T1.setTop (mkF m 146 #[.val (.int u0), .val (.long u1), .second, .val (.long u2), .second, .val (.long u3), .second, .val (.long u4), .second, .val (.int (u0 &&& (1073741823 : Int32))), .val (.double (FP.l2d u1)), .second, .val (.double (FP.l2d u2)), .second, .val (.double (FP.l2d u3)), .second, .val (.double (FP.l2d u4)), .second, .val (.int ((u0 &&& (1073741823 : Int32)) &&& (3 : Int32))), .val (.double (FP.l2d u1)), .second, .val (.double (FP.l2d u2)), .second, .val (.double (FP.l2d u3)), .second, .val (.double (FP.l2d u4)), .second, .val (.double (FP.dadd (FP.dadd (FP.l2d u1) (FP.l2d u2)) (FP.dadd (FP.l2d u3) (FP.l2d u4)))), .second] [(.double (FP.dadd (FP.dadd (FP.l2d u1) (FP.l2d u2)) (FP.dadd (FP.l2d u3) (FP.l2d u4))))])) _
    refine XS.dload X1.here hx rfl (hb hby at_146) rfl ?_
    show Steps p.tables e below (T1.setTop (mkF m 148 #[.val (.int u0), .val (.long u1), .second, .val (.long u2), .second, .val (.long u3), .second, .val (.long u4), .second, .val (.int (u0 &&& (1073741823 : Int32))), .val (.double (FP.l2d u1)), .second, .val (.double (FP.l2d u2)), .second, .val (.double (FP.l2d u3)), .second, .val (.double (FP.l2d u4)), .second, .val (.int ((u0 &&& (1073741823 : Int32)) &&& (3 : Int32))), .val (.double (FP.l2d u1)), .second, .val (.double (FP.l2d u2)), .second, .val (.double (FP.l2d u3)), .second, .val (.double (FP.l2d u4)), .second, .val (.double (FP.dadd (FP.dadd (FP.l2d u1) (FP.l2d u2)) (FP.dadd (FP.l2d u3) (FP.l2d u4)))), .second] [(.double (FP.dadd (FP.dadd (FP.l2d u1) (FP.l2d u2)) (FP.dadd (FP.l2d u3) (FP.l2d u4)))), (.double (FP.dadd (FP.dadd (FP.l2d u1) (FP.l2d u2)) (FP.dadd (FP.l2d u3) (FP.l2d u4))))])) _
    refine XS.dcmpS X1.here hx rfl (hb hby at_148) rfl (v := (0 : Int32)) (dcmpV_self hn130 .l) ?_
    show Steps p.tables e below (T1.setTop (mkF m 149 #[.val (.int u0), .val (.long u1), .second, .val (.long u2), .second, .val (.long u3), .second, .val (.long u4), .second, .val (.int (u0 &&& (1073741823 : Int32))), .val (.double (FP.l2d u1)), .second, .val (.double (FP.l2d u2)), .second, .val (.double (FP.l2d u3)), .second, .val (.double (FP.l2d u4)), .second, .val (.int ((u0 &&& (1073741823 : Int32)) &&& (3 : Int32))), .val (.double (FP.l2d u1)), .second, .val (.double (FP.l2d u2)), .second, .val (.double (FP.l2d u3)), .second, .val (.double (FP.l2d u4)), .second, .val (.double (FP.dadd (FP.dadd (FP.l2d u1) (FP.l2d u2)) (FP.dadd (FP.l2d u3) (FP.l2d u4)))), .second] [(.int (0 : Int32))])) _
    refine XS.ifNo X1.here hx rfl (hb hby at_149) rfl ((if0 _ _).trans (teq (rfl : (0 : Int32) = (0 : Int32))).2) ?_
    show Steps p.tables e below (T1.setTop (mkF m 152 #[.val (.int u0), .val (.long u1), .second, .val (.long u2), .second, .val (.long u3), .second, .val (.long u4), .second, .val (.int (u0 &&& (1073741823 : Int32))), .val (.double (FP.l2d u1)), .second, .val (.double (FP.l2d u2)), .second, .val (.double (FP.l2d u3)), .second, .val (.double (FP.l2d u4)), .second, .val (.int ((u0 &&& (1073741823 : Int32)) &&& (3 : Int32))), .val (.double (FP.l2d u1)), .second, .val (.double (FP.l2d u2)), .second, .val (.double (FP.l2d u3)), .second, .val (.double (FP.l2d u4)), .second, .val (.double (FP.dadd (FP.dadd (FP.l2d u1) (FP.l2d u2)) (FP.dadd (FP.l2d u3) (FP.l2d u4)))), .second] [])) _
    refine XS.iconst X1.here hx rfl (hb hby at_152) ?_
    show Steps p.tables e below (T1.setTop (mkF m 153 #[.val (.int u0), .val (.long u1), .second, .val (.long u2), .second, .val (.long u3), .second, .val (.long u4), .second, .val (.int (u0 &&& (1073741823 : Int32))), .val (.double (FP.l2d u1)), .second, .val (.double (FP.l2d u2)), .second, .val (.double (FP.l2d u3)), .second, .val (.double (FP.l2d u4)), .second, .val (.int ((u0 &&& (1073741823 : Int32)) &&& (3 : Int32))), .val (.double (FP.l2d u1)), .second, .val (.double (FP.l2d u2)), .second, .val (.double (FP.l2d u3)), .second, .val (.double (FP.l2d u4)), .second, .val (.double (FP.dadd (FP.dadd (FP.l2d u1) (FP.l2d u2)) (FP.dadd (FP.l2d u3) (FP.l2d u4)))), .second] [(.int (1 : Int32))])) _
    refine XS.goto X1.here hx rfl (pc0 := 153) (pc' := 157) rfl (hb hby at_153) (by decide) (by decide) ?_
    show Steps p.tables e below (T1.setTop (mkF m 157 #[.val (.int u0), .val (.long u1), .second, .val (.long u2), .second, .val (.long u3), .second, .val (.long u4), .second, .val (.int (u0 &&& (1073741823 : Int32))), .val (.double (FP.l2d u1)), .second, .val (.double (FP.l2d u2)), .second, .val (.double (FP.l2d u3)), .second, .val (.double (FP.l2d u4)), .second, .val (.int ((u0 &&& (1073741823 : Int32)) &&& (3 : Int32))), .val (.double (FP.l2d u1)), .second, .val (.double (FP.l2d u2)), .second, .val (.double (FP.l2d u3)), .second, .val (.double (FP.l2d u4)), .second, .val (.double (FP.dadd (FP.dadd (FP.l2d u1) (FP.l2d u2)) (FP.dadd (FP.l2d u3) (FP.l2d u4)))), .second] [(.int (1 : Int32))])) _
    exact retN X1 hx (t := .boolean) Bd.returns (by simp) (hb hby at_157) hr
  · show Q0 n0 _ T1.heap _
    exact ⟨rfl, Fr.app N0 N1q⟩
set_option maxRecDepth 65536 in
set_option maxHeartbeats 40000000 in
theorem rm0_1 (l : Launch) (Z : State) (a0 : Array Value) (hw : ∀ d ∈ tables_1, d.before a0 Z = true) (ws : List Jvm.Cond) (u0 : Int32) (u1 u2 u3 u4 : Int64) (h0 : Heap) (n0 : Nat) (Z0 : n0 ≤ h0.size) (hj0 : ((u0 &&& (1073741823 : Int32)) % (4 : Int32)) = 1) (hj1 : (((u0 &&& (1073741823 : Int32)) + (1 : Int32)) % (4 : Int32)) = 2) (hj2 : (((u0 &&& (1073741823 : Int32)) + (2 : Int32)) % (4 : Int32)) = 3) (hj3 : (((u0 &&& (1073741823 : Int32)) + (3 : Int32)) % (4 : Int32)) = 0) (hc32 : ¬ (((u0 &&& (1073741823 : Int32)) &&& (3 : Int32)) = (0 : Int32))) (hc57 : ((u0 &&& (1073741823 : Int32)) &&& (3 : Int32)) = (1 : Int32)) (hn124 : Jvm.Free.Fl.NoNaN64 (FP.dadd (FP.l2d u4) (FP.l2d u1))) (hn129 : Jvm.Free.Fl.NoNaN64 (FP.dadd (FP.l2d u2) (FP.l2d u3))) (hn130 : Jvm.Free.Fl.NoNaN64 (FP.dadd (FP.dadd (FP.l2d u4) (FP.l2d u1)) (FP.dadd (FP.l2d u2) (FP.l2d u3)))) :
    MetFree l x (head1 (Jvm.Cond.code x code maxLocals ret :: ws) room_1) (fun aa U => aa = #[(.int u0), (.long u1), (.long u2), (.long u3), (.long u4)] ∧ Z.Warmed39 U.vm ∧ U.heap = h0) (fun _ _ _ _ _ => True) (fun _ U o U' => ∃ v L, o = .returned v ∧ Q0 n0 v U'.heap L ∧ FrameEnd U o U' L 16 128) := by
  refine MetFree.of_bodySF (plainFor_of_name pn_code) hisR ?_
  intro p e s m args below meth c s₁ Bd hml0 hP hK
  obtain ⟨rfl, hZ, hh⟩ := hP
  have hx := Bd.exec
  have hby := Bd.bytes
  have hml : c.maxLocals = 29 := hml0
  have hown : s.vm.findClass "com/example/rowfold/rowfold/CodeArrayAddLanesPinLaw" = some m.cls := findClass_of_methodNamed Bd.named
  have hnm := (name_of_methodNamed Bd.named Bd.method).1
  have X0 : Stand p l e room_1 s m #[(.int u0), (.long u1), (.long u2), (.long u3), (.long u4)] below meth c s₁ [] 0 0 := Stand.of_body Bd
  have e0 : s₁.heap = h0 := by rw [← hh, Bd.state]; rfl
  have N0 := Fr.nil n0
  have pre0 : ∀ t, Steps p.tables e below (s₁.setTop (mkF m 0 #[.val (.int u0), .val (.long u1), .second, .val (.long u2), .second, .val (.long u3), .second, .val (.long u4), .second, .unset, .unset, .unset, .unset, .unset, .unset, .unset, .unset, .unset, .unset, .unset, .unset, .unset, .unset, .unset, .unset, .unset, .unset, .unset, .unset] [])) t → Steps p.tables e below (s₁.setTop (entryFrame m #[(.int u0), (.long u1), (.long u2), (.long u3), (.long u4)] maxLocals)) t := fun t k => castTop (ef_code m u0 u1 u2 u3 u4) k
  obtain ⟨_, _, ⟨T1, L1, k1, n1⟩, -, X1, ⟨Lc1, hQ1, l1, y1, z1⟩, st1⟩ := Jvm.LawKit.callS X0 hx (y := (⟨"com/example/rowfold/rowfold/CodeArray", "addLanes", "(IDDDD)D"⟩ : MethodName)) hown (mvT hZ (hw _ (List.mem_of_getElem? (i := 1) rfl))) (mvT hZ (hw _ (List.mem_of_getElem? (i := 2) rfl))) (mvT hZ (hw _ (List.mem_of_getElem? (i := 3) rfl))) (mvT hZ (hw _ (List.mem_of_getElem? (i := 4) rfl))) (by decide) (backOf (W := 0) (rmA_1 l Z a0 hw [] (u0 &&& (1073741823 : Int32)) (FP.l2d u1) (FP.l2d u2) (FP.l2d u3) (FP.l2d u4) h0 n0 Z0 hj0 hj1 hj2 hj3 hn124 hn129 hn130) hZ (hw _ (List.mem_of_getElem? (i := 4) rfl)) (hw _ (List.mem_of_getElem? (i := 3) rfl)) (by decide) (by decide)) (g := (mkF m 143 #[.val (.int u0), .val (.long u1), .second, .val (.long u2), .second, .val (.long u3), .second, .val (.long u4), .second, .val (.int (u0 &&& (1073741823 : Int32))), .val (.double (FP.l2d u1)), .second, .val (.double (FP.l2d u2)), .second, .val (.double (FP.l2d u3)), .second, .val (.double (FP.l2d u4)), .second, .val (.int ((u0 &&& (1073741823 : Int32)) &&& (3 : Int32))), .val (.double (FP.l2d u4)), .second, .val (.double (FP.l2d u1)), .second, .val (.double (FP.l2d u2)), .second, .val (.double (FP.l2d u3)), .second, .val (.double (FP.dadd (FP.dadd (FP.l2d u4) (FP.l2d u1)) (FP.dadd (FP.l2d u2) (FP.l2d u3)))), .second] [(.double (FP.l2d u4)), (.double (FP.l2d u3)), (.double (FP.l2d u2)), (.double (FP.l2d u1)), (.int (u0 &&& (1073741823 : Int32)))])) rfl (by rw [hml]; rfl) (argsL := [(.int (u0 &&& (1073741823 : Int32))), (.double (FP.l2d u1)), (.double (FP.l2d u2)), (.double (FP.l2d u3)), (.double (FP.l2d u4))]) (rest := []) (lenOf pd__IDDDD_D rfl) rfl (by show 2 * 0 + _ ≤ _; exact Nat.le_of_eq rfl) (hb hby at_143) (fun _ _ => ⟨rfl, e0, (by decide : 0 + 1 ≤ _), (by decide : 0 + 4 ≤ _)⟩)
  dsimp only [Pt.U, Pt.locs, Pt.cells, Pt.slots] at X1 l1 y1 z1 st1 hQ1
  subst l1 y1 z1
  obtain ⟨rfl, N1q⟩ := hQ1
  obtain ⟨fs, hr, hrun, hended, hW, hsame⟩ := X1.leave (v := some (.int (1 : Int32))) (fun h => by rw [Bd.returns] at h; cases h)
  refine ⟨_, _, pre0 _ ?_, hrun, hended, _, _, rfl, ?_, ⟨_, rfl⟩, hW, hsame.mono (by decide) (by decide)⟩
  · show Steps p.tables e below (s₁.setTop (mkF m 0 #[.val (.int u0), .val (.long u1), .second, .val (.long u2), .second, .val (.long u3), .second, .val (.long u4), .second, .unset, .unset, .unset, .unset, .unset, .unset, .unset, .unset, .unset, .unset, .unset, .unset, .unset, .unset, .unset, .unset, .unset, .unset, .unset, .unset] [])) _
    refine XS.iloadN X0.here hx rfl (hb hby at_0) rfl ?_
    show Steps p.tables e below (s₁.setTop (mkF m 1 #[.val (.int u0), .val (.long u1), .second, .val (.long u2), .second, .val (.long u3), .second, .val (.long u4), .second, .unset, .unset, .unset, .unset, .unset, .unset, .unset, .unset, .unset, .unset, .unset, .unset, .unset, .unset, .unset, .unset, .unset, .unset, .unset, .unset] [(.int u0)])) _
    refine X0.ldcInt hx hown (mvT hZ (hw _ (List.mem_of_getElem? (i := 0) rfl))) (g := (mkF m 1 #[.val (.int u0), .val (.long u1), .second, .val (.long u2), .second, .val (.long u3), .second, .val (.long u4), .second, .unset, .unset, .unset, .unset, .unset, .unset, .unset, .unset, .unset, .unset, .unset, .unset, .unset, .unset, .unset, .unset, .unset, .unset, .unset, .unset] [(.int u0)])) rfl (hb hby at_1) _ ?_
    show Steps p.tables e below (s₁.setTop (mkF m 3 #[.val (.int u0), .val (.long u1), .second, .val (.long u2), .second, .val (.long u3), .second, .val (.long u4), .second, .unset, .unset, .unset, .unset, .unset, .unset, .unset, .unset, .unset, .unset, .unset, .unset, .unset, .unset, .unset, .unset, .unset, .unset, .unset, .unset] [(.int (1073741823 : Int32)), (.int u0)])) _
    refine XS.iand X0.here hx rfl (hb hby at_3) rfl ?_
    show Steps p.tables e below (s₁.setTop (mkF m 4 #[.val (.int u0), .val (.long u1), .second, .val (.long u2), .second, .val (.long u3), .second, .val (.long u4), .second, .unset, .unset, .unset, .unset, .unset, .unset, .unset, .unset, .unset, .unset, .unset, .unset, .unset, .unset, .unset, .unset, .unset, .unset, .unset, .unset] [(.int (u0 &&& (1073741823 : Int32)))])) _
    refine XS.istore X0.here hx rfl (hb hby at_4) rfl (l' := #[.val (.int u0), .val (.long u1), .second, .val (.long u2), .second, .val (.long u3), .second, .val (.long u4), .second, .val (.int (u0 &&& (1073741823 : Int32))), .unset, .unset, .unset, .unset, .unset, .unset, .unset, .unset, .unset, .unset, .unset, .unset, .unset, .unset, .unset, .unset, .unset, .unset, .unset]) rfl ?_
    show Steps p.tables e below (s₁.setTop (mkF m 6 #[.val (.int u0), .val (.long u1), .second, .val (.long u2), .second, .val (.long u3), .second, .val (.long u4), .second, .val (.int (u0 &&& (1073741823 : Int32))), .unset, .unset, .unset, .unset, .unset, .unset, .unset, .unset, .unset, .unset, .unset, .unset, .unset, .unset, .unset, .unset, .unset, .unset, .unset] [])) _
    refine XS.lloadN X0.here hx rfl (hb hby at_6) rfl ?_
    show Steps p.tables e below (s₁.setTop (mkF m 7 #[.val (.int u0), .val (.long u1), .second, .val (.long u2), .second, .val (.long u3), .second, .val (.long u4), .second, .val (.int (u0 &&& (1073741823 : Int32))), .unset, .unset, .unset, .unset, .unset, .unset, .unset, .unset, .unset, .unset, .unset, .unset, .unset, .unset, .unset, .unset, .unset, .unset, .unset] [(.long u1)])) _
    refine XS.l2dS X0.here hx rfl (hb hby at_7) rfl (v := (FP.l2d u1)) rfl ?_
    show Steps p.tables e below (s₁.setTop (mkF m 8 #[.val (.int u0), .val (.long u1), .second, .val (.long u2), .second, .val (.long u3), .second, .val (.long u4), .second, .val (.int (u0 &&& (1073741823 : Int32))), .unset, .unset, .unset, .unset, .unset, .unset, .unset, .unset, .unset, .unset, .unset, .unset, .unset, .unset, .unset, .unset, .unset, .unset, .unset] [(.double (FP.l2d u1))])) _
    refine XS.dstore X0.here hx rfl (hb hby at_8) rfl (l' := #[.val (.int u0), .val (.long u1), .second, .val (.long u2), .second, .val (.long u3), .second, .val (.long u4), .second, .val (.int (u0 &&& (1073741823 : Int32))), .val (.double (FP.l2d u1)), .second, .unset, .unset, .unset, .unset, .unset, .unset, .unset, .unset, .unset, .unset, .unset, .unset, .unset, .unset, .unset, .unset, .unset]) rfl ?_
    show Steps p.tables e below (s₁.setTop (mkF m 10 #[.val (.int u0), .val (.long u1), .second, .val (.long u2), .second, .val (.long u3), .second, .val (.long u4), .second, .val (.int (u0 &&& (1073741823 : Int32))), .val (.double (FP.l2d u1)), .second, .unset, .unset, .unset, .unset, .unset, .unset, .unset, .unset, .unset, .unset, .unset, .unset, .unset, .unset, .unset, .unset, .unset] [])) _
    refine XS.lloadN X0.here hx rfl (hb hby at_10) rfl ?_
    show Steps p.tables e below (s₁.setTop (mkF m 11 #[.val (.int u0), .val (.long u1), .second, .val (.long u2), .second, .val (.long u3), .second, .val (.long u4), .second, .val (.int (u0 &&& (1073741823 : Int32))), .val (.double (FP.l2d u1)), .second, .unset, .unset, .unset, .unset, .unset, .unset, .unset, .unset, .unset, .unset, .unset, .unset, .unset, .unset, .unset, .unset, .unset] [(.long u2)])) _
    refine XS.l2dS X0.here hx rfl (hb hby at_11) rfl (v := (FP.l2d u2)) rfl ?_
    show Steps p.tables e below (s₁.setTop (mkF m 12 #[.val (.int u0), .val (.long u1), .second, .val (.long u2), .second, .val (.long u3), .second, .val (.long u4), .second, .val (.int (u0 &&& (1073741823 : Int32))), .val (.double (FP.l2d u1)), .second, .unset, .unset, .unset, .unset, .unset, .unset, .unset, .unset, .unset, .unset, .unset, .unset, .unset, .unset, .unset, .unset, .unset] [(.double (FP.l2d u2))])) _
    refine XS.dstore X0.here hx rfl (hb hby at_12) rfl (l' := #[.val (.int u0), .val (.long u1), .second, .val (.long u2), .second, .val (.long u3), .second, .val (.long u4), .second, .val (.int (u0 &&& (1073741823 : Int32))), .val (.double (FP.l2d u1)), .second, .val (.double (FP.l2d u2)), .second, .unset, .unset, .unset, .unset, .unset, .unset, .unset, .unset, .unset, .unset, .unset, .unset, .unset, .unset, .unset]) rfl ?_
    show Steps p.tables e below (s₁.setTop (mkF m 14 #[.val (.int u0), .val (.long u1), .second, .val (.long u2), .second, .val (.long u3), .second, .val (.long u4), .second, .val (.int (u0 &&& (1073741823 : Int32))), .val (.double (FP.l2d u1)), .second, .val (.double (FP.l2d u2)), .second, .unset, .unset, .unset, .unset, .unset, .unset, .unset, .unset, .unset, .unset, .unset, .unset, .unset, .unset, .unset] [])) _
    refine XS.lload X0.here hx rfl (hb hby at_14) rfl ?_
    show Steps p.tables e below (s₁.setTop (mkF m 16 #[.val (.int u0), .val (.long u1), .second, .val (.long u2), .second, .val (.long u3), .second, .val (.long u4), .second, .val (.int (u0 &&& (1073741823 : Int32))), .val (.double (FP.l2d u1)), .second, .val (.double (FP.l2d u2)), .second, .unset, .unset, .unset, .unset, .unset, .unset, .unset, .unset, .unset, .unset, .unset, .unset, .unset, .unset, .unset] [(.long u3)])) _
    refine XS.l2dS X0.here hx rfl (hb hby at_16) rfl (v := (FP.l2d u3)) rfl ?_
    show Steps p.tables e below (s₁.setTop (mkF m 17 #[.val (.int u0), .val (.long u1), .second, .val (.long u2), .second, .val (.long u3), .second, .val (.long u4), .second, .val (.int (u0 &&& (1073741823 : Int32))), .val (.double (FP.l2d u1)), .second, .val (.double (FP.l2d u2)), .second, .unset, .unset, .unset, .unset, .unset, .unset, .unset, .unset, .unset, .unset, .unset, .unset, .unset, .unset, .unset] [(.double (FP.l2d u3))])) _
    refine XS.dstore X0.here hx rfl (hb hby at_17) rfl (l' := #[.val (.int u0), .val (.long u1), .second, .val (.long u2), .second, .val (.long u3), .second, .val (.long u4), .second, .val (.int (u0 &&& (1073741823 : Int32))), .val (.double (FP.l2d u1)), .second, .val (.double (FP.l2d u2)), .second, .val (.double (FP.l2d u3)), .second, .unset, .unset, .unset, .unset, .unset, .unset, .unset, .unset, .unset, .unset, .unset, .unset, .unset]) rfl ?_
    show Steps p.tables e below (s₁.setTop (mkF m 19 #[.val (.int u0), .val (.long u1), .second, .val (.long u2), .second, .val (.long u3), .second, .val (.long u4), .second, .val (.int (u0 &&& (1073741823 : Int32))), .val (.double (FP.l2d u1)), .second, .val (.double (FP.l2d u2)), .second, .val (.double (FP.l2d u3)), .second, .unset, .unset, .unset, .unset, .unset, .unset, .unset, .unset, .unset, .unset, .unset, .unset, .unset] [])) _
    refine XS.lload X0.here hx rfl (hb hby at_19) rfl ?_
    show Steps p.tables e below (s₁.setTop (mkF m 21 #[.val (.int u0), .val (.long u1), .second, .val (.long u2), .second, .val (.long u3), .second, .val (.long u4), .second, .val (.int (u0 &&& (1073741823 : Int32))), .val (.double (FP.l2d u1)), .second, .val (.double (FP.l2d u2)), .second, .val (.double (FP.l2d u3)), .second, .unset, .unset, .unset, .unset, .unset, .unset, .unset, .unset, .unset, .unset, .unset, .unset, .unset] [(.long u4)])) _
    refine XS.l2dS X0.here hx rfl (hb hby at_21) rfl (v := (FP.l2d u4)) rfl ?_
    show Steps p.tables e below (s₁.setTop (mkF m 22 #[.val (.int u0), .val (.long u1), .second, .val (.long u2), .second, .val (.long u3), .second, .val (.long u4), .second, .val (.int (u0 &&& (1073741823 : Int32))), .val (.double (FP.l2d u1)), .second, .val (.double (FP.l2d u2)), .second, .val (.double (FP.l2d u3)), .second, .unset, .unset, .unset, .unset, .unset, .unset, .unset, .unset, .unset, .unset, .unset, .unset, .unset] [(.double (FP.l2d u4))])) _
    refine XS.dstore X0.here hx rfl (hb hby at_22) rfl (l' := #[.val (.int u0), .val (.long u1), .second, .val (.long u2), .second, .val (.long u3), .second, .val (.long u4), .second, .val (.int (u0 &&& (1073741823 : Int32))), .val (.double (FP.l2d u1)), .second, .val (.double (FP.l2d u2)), .second, .val (.double (FP.l2d u3)), .second, .val (.double (FP.l2d u4)), .second, .unset, .unset, .unset, .unset, .unset, .unset, .unset, .unset, .unset, .unset, .unset]) rfl ?_
    show Steps p.tables e below (s₁.setTop (mkF m 24 #[.val (.int u0), .val (.long u1), .second, .val (.long u2), .second, .val (.long u3), .second, .val (.long u4), .second, .val (.int (u0 &&& (1073741823 : Int32))), .val (.double (FP.l2d u1)), .second, .val (.double (FP.l2d u2)), .second, .val (.double (FP.l2d u3)), .second, .val (.double (FP.l2d u4)), .second, .unset, .unset, .unset, .unset, .unset, .unset, .unset, .unset, .unset, .unset, .unset] [])) _
    refine XS.iload X0.here hx rfl (hb hby at_24) rfl ?_
    show Steps p.tables e below (s₁.setTop (mkF m 26 #[.val (.int u0), .val (.long u1), .second, .val (.long u2), .second, .val (.long u3), .second, .val (.long u4), .second, .val (.int (u0 &&& (1073741823 : Int32))), .val (.double (FP.l2d u1)), .second, .val (.double (FP.l2d u2)), .second, .val (.double (FP.l2d u3)), .second, .val (.double (FP.l2d u4)), .second, .unset, .unset, .unset, .unset, .unset, .unset, .unset, .unset, .unset, .unset, .unset] [(.int (u0 &&& (1073741823 : Int32)))])) _
    refine XS.iconst X0.here hx rfl (hb hby at_26) ?_
    show Steps p.tables e below (s₁.setTop (mkF m 27 #[.val (.int u0), .val (.long u1), .second, .val (.long u2), .second, .val (.long u3), .second, .val (.long u4), .second, .val (.int (u0 &&& (1073741823 : Int32))), .val (.double (FP.l2d u1)), .second, .val (.double (FP.l2d u2)), .second, .val (.double (FP.l2d u3)), .second, .val (.double (FP.l2d u4)), .second, .unset, .unset, .unset, .unset, .unset, .unset, .unset, .unset, .unset, .unset, .unset] [(.int (3 : Int32)), (.int (u0 &&& (1073741823 : Int32)))])) _
    refine XS.iand X0.here hx rfl (hb hby at_27) rfl ?_
    show Steps p.tables e below (s₁.setTop (mkF m 28 #[.val (.int u0), .val (.long u1), .second, .val (.long u2), .second, .val (.long u3), .second, .val (.long u4), .second, .val (.int (u0 &&& (1073741823 : Int32))), .val (.double (FP.l2d u1)), .second, .val (.double (FP.l2d u2)), .second, .val (.double (FP.l2d u3)), .second, .val (.double (FP.l2d u4)), .second, .unset, .unset, .unset, .unset, .unset, .unset, .unset, .unset, .unset, .unset, .unset] [(.int ((u0 &&& (1073741823 : Int32)) &&& (3 : Int32)))])) _
    refine XS.istore X0.here hx rfl (hb hby at_28) rfl (l' := #[.val (.int u0), .val (.long u1), .second, .val (.long u2), .second, .val (.long u3), .second, .val (.long u4), .second, .val (.int (u0 &&& (1073741823 : Int32))), .val (.double (FP.l2d u1)), .second, .val (.double (FP.l2d u2)), .second, .val (.double (FP.l2d u3)), .second, .val (.double (FP.l2d u4)), .second, .val (.int ((u0 &&& (1073741823 : Int32)) &&& (3 : Int32))), .unset, .unset, .unset, .unset, .unset, .unset, .unset, .unset, .unset, .unset]) rfl ?_
    show Steps p.tables e below (s₁.setTop (mkF m 30 #[.val (.int u0), .val (.long u1), .second, .val (.long u2), .second, .val (.long u3), .second, .val (.long u4), .second, .val (.int (u0 &&& (1073741823 : Int32))), .val (.double (FP.l2d u1)), .second, .val (.double (FP.l2d u2)), .second, .val (.double (FP.l2d u3)), .second, .val (.double (FP.l2d u4)), .second, .val (.int ((u0 &&& (1073741823 : Int32)) &&& (3 : Int32))), .unset, .unset, .unset, .unset, .unset, .unset, .unset, .unset, .unset, .unset] [])) _
    refine XS.iload X0.here hx rfl (hb hby at_30) rfl ?_
    show Steps p.tables e below (s₁.setTop (mkF m 32 #[.val (.int u0), .val (.long u1), .second, .val (.long u2), .second, .val (.long u3), .second, .val (.long u4), .second, .val (.int (u0 &&& (1073741823 : Int32))), .val (.double (FP.l2d u1)), .second, .val (.double (FP.l2d u2)), .second, .val (.double (FP.l2d u3)), .second, .val (.double (FP.l2d u4)), .second, .val (.int ((u0 &&& (1073741823 : Int32)) &&& (3 : Int32))), .unset, .unset, .unset, .unset, .unset, .unset, .unset, .unset, .unset, .unset] [(.int ((u0 &&& (1073741823 : Int32)) &&& (3 : Int32)))])) _
    refine XS.ifYes X0.here hx rfl (pc0 := 32) (pc' := 54) rfl (hb hby at_32) rfl ((if0 _ _).trans (feq hc32).2) (by decide) (by decide) ?_
    show Steps p.tables e below (s₁.setTop (mkF m 54 #[.val (.int u0), .val (.long u1), .second, .val (.long u2), .second, .val (.long u3), .second, .val (.long u4), .second, .val (.int (u0 &&& (1073741823 : Int32))), .val (.double (FP.l2d u1)), .second, .val (.double (FP.l2d u2)), .second, .val (.double (FP.l2d u3)), .second, .val (.double (FP.l2d u4)), .second, .val (.int ((u0 &&& (1073741823 : Int32)) &&& (3 : Int32))), .unset, .unset, .unset, .unset, .unset, .unset, .unset, .unset, .unset, .unset] [])) _
    refine XS.iload X0.here hx rfl (hb hby at_54) rfl ?_
    show Steps p.tables e below (s₁.setTop (mkF m 56 #[.val (.int u0), .val (.long u1), .second, .val (.long u2), .second, .val (.long u3), .second, .val (.long u4), .second, .val (.int (u0 &&& (1073741823 : Int32))), .val (.double (FP.l2d u1)), .second, .val (.double (FP.l2d u2)), .second, .val (.double (FP.l2d u3)), .second, .val (.double (FP.l2d u4)), .second, .val (.int ((u0 &&& (1073741823 : Int32)) &&& (3 : Int32))), .unset, .unset, .unset, .unset, .unset, .unset, .unset, .unset, .unset, .unset] [(.int ((u0 &&& (1073741823 : Int32)) &&& (3 : Int32)))])) _
    refine XS.iconst X0.here hx rfl (hb hby at_56) ?_
    show Steps p.tables e below (s₁.setTop (mkF m 57 #[.val (.int u0), .val (.long u1), .second, .val (.long u2), .second, .val (.long u3), .second, .val (.long u4), .second, .val (.int (u0 &&& (1073741823 : Int32))), .val (.double (FP.l2d u1)), .second, .val (.double (FP.l2d u2)), .second, .val (.double (FP.l2d u3)), .second, .val (.double (FP.l2d u4)), .second, .val (.int ((u0 &&& (1073741823 : Int32)) &&& (3 : Int32))), .unset, .unset, .unset, .unset, .unset, .unset, .unset, .unset, .unset, .unset] [(.int (1 : Int32)), (.int ((u0 &&& (1073741823 : Int32)) &&& (3 : Int32)))])) _
    refine XS.icmpNo X0.here hx rfl (hb hby at_57) rfl (teq hc57).2 ?_
    show Steps p.tables e below (s₁.setTop (mkF m 60 #[.val (.int u0), .val (.long u1), .second, .val (.long u2), .second, .val (.long u3), .second, .val (.long u4), .second, .val (.int (u0 &&& (1073741823 : Int32))), .val (.double (FP.l2d u1)), .second, .val (.double (FP.l2d u2)), .second, .val (.double (FP.l2d u3)), .second, .val (.double (FP.l2d u4)), .second, .val (.int ((u0 &&& (1073741823 : Int32)) &&& (3 : Int32))), .unset, .unset, .unset, .unset, .unset, .unset, .unset, .unset, .unset, .unset] [])) _
    refine XS.dload X0.here hx rfl (hb hby at_60) rfl ?_
    show Steps p.tables e below (s₁.setTop (mkF m 62 #[.val (.int u0), .val (.long u1), .second, .val (.long u2), .second, .val (.long u3), .second, .val (.long u4), .second, .val (.int (u0 &&& (1073741823 : Int32))), .val (.double (FP.l2d u1)), .second, .val (.double (FP.l2d u2)), .second, .val (.double (FP.l2d u3)), .second, .val (.double (FP.l2d u4)), .second, .val (.int ((u0 &&& (1073741823 : Int32)) &&& (3 : Int32))), .unset, .unset, .unset, .unset, .unset, .unset, .unset, .unset, .unset, .unset] [(.double (FP.l2d u1))])) _
    refine XS.dstore X0.here hx rfl (hb hby at_62) rfl (l' := #[.val (.int u0), .val (.long u1), .second, .val (.long u2), .second, .val (.long u3), .second, .val (.long u4), .second, .val (.int (u0 &&& (1073741823 : Int32))), .val (.double (FP.l2d u1)), .second, .val (.double (FP.l2d u2)), .second, .val (.double (FP.l2d u3)), .second, .val (.double (FP.l2d u4)), .second, .val (.int ((u0 &&& (1073741823 : Int32)) &&& (3 : Int32))), .unset, .unset, .val (.double (FP.l2d u1)), .second, .unset, .unset, .unset, .unset, .unset, .unset]) rfl ?_
    show Steps p.tables e below (s₁.setTop (mkF m 64 #[.val (.int u0), .val (.long u1), .second, .val (.long u2), .second, .val (.long u3), .second, .val (.long u4), .second, .val (.int (u0 &&& (1073741823 : Int32))), .val (.double (FP.l2d u1)), .second, .val (.double (FP.l2d u2)), .second, .val (.double (FP.l2d u3)), .second, .val (.double (FP.l2d u4)), .second, .val (.int ((u0 &&& (1073741823 : Int32)) &&& (3 : Int32))), .unset, .unset, .val (.double (FP.l2d u1)), .second, .unset, .unset, .unset, .unset, .unset, .unset] [])) _
    refine XS.dload X0.here hx rfl (hb hby at_64) rfl ?_
    show Steps p.tables e below (s₁.setTop (mkF m 66 #[.val (.int u0), .val (.long u1), .second, .val (.long u2), .second, .val (.long u3), .second, .val (.long u4), .second, .val (.int (u0 &&& (1073741823 : Int32))), .val (.double (FP.l2d u1)), .second, .val (.double (FP.l2d u2)), .second, .val (.double (FP.l2d u3)), .second, .val (.double (FP.l2d u4)), .second, .val (.int ((u0 &&& (1073741823 : Int32)) &&& (3 : Int32))), .unset, .unset, .val (.double (FP.l2d u1)), .second, .unset, .unset, .unset, .unset, .unset, .unset] [(.double (FP.l2d u2))])) _
    refine XS.dstore X0.here hx rfl (hb hby at_66) rfl (l' := #[.val (.int u0), .val (.long u1), .second, .val (.long u2), .second, .val (.long u3), .second, .val (.long u4), .second, .val (.int (u0 &&& (1073741823 : Int32))), .val (.double (FP.l2d u1)), .second, .val (.double (FP.l2d u2)), .second, .val (.double (FP.l2d u3)), .second, .val (.double (FP.l2d u4)), .second, .val (.int ((u0 &&& (1073741823 : Int32)) &&& (3 : Int32))), .unset, .unset, .val (.double (FP.l2d u1)), .second, .val (.double (FP.l2d u2)), .second, .unset, .unset, .unset, .unset]) rfl ?_
    show Steps p.tables e below (s₁.setTop (mkF m 68 #[.val (.int u0), .val (.long u1), .second, .val (.long u2), .second, .val (.long u3), .second, .val (.long u4), .second, .val (.int (u0 &&& (1073741823 : Int32))), .val (.double (FP.l2d u1)), .second, .val (.double (FP.l2d u2)), .second, .val (.double (FP.l2d u3)), .second, .val (.double (FP.l2d u4)), .second, .val (.int ((u0 &&& (1073741823 : Int32)) &&& (3 : Int32))), .unset, .unset, .val (.double (FP.l2d u1)), .second, .val (.double (FP.l2d u2)), .second, .unset, .unset, .unset, .unset] [])) _
    refine XS.dload X0.here hx rfl (hb hby at_68) rfl ?_
    show Steps p.tables e below (s₁.setTop (mkF m 70 #[.val (.int u0), .val (.long u1), .second, .val (.long u2), .second, .val (.long u3), .second, .val (.long u4), .second, .val (.int (u0 &&& (1073741823 : Int32))), .val (.double (FP.l2d u1)), .second, .val (.double (FP.l2d u2)), .second, .val (.double (FP.l2d u3)), .second, .val (.double (FP.l2d u4)), .second, .val (.int ((u0 &&& (1073741823 : Int32)) &&& (3 : Int32))), .unset, .unset, .val (.double (FP.l2d u1)), .second, .val (.double (FP.l2d u2)), .second, .unset, .unset, .unset, .unset] [(.double (FP.l2d u3))])) _
    refine XS.dstore X0.here hx rfl (hb hby at_70) rfl (l' := #[.val (.int u0), .val (.long u1), .second, .val (.long u2), .second, .val (.long u3), .second, .val (.long u4), .second, .val (.int (u0 &&& (1073741823 : Int32))), .val (.double (FP.l2d u1)), .second, .val (.double (FP.l2d u2)), .second, .val (.double (FP.l2d u3)), .second, .val (.double (FP.l2d u4)), .second, .val (.int ((u0 &&& (1073741823 : Int32)) &&& (3 : Int32))), .unset, .unset, .val (.double (FP.l2d u1)), .second, .val (.double (FP.l2d u2)), .second, .val (.double (FP.l2d u3)), .second, .unset, .unset]) rfl ?_
    show Steps p.tables e below (s₁.setTop (mkF m 72 #[.val (.int u0), .val (.long u1), .second, .val (.long u2), .second, .val (.long u3), .second, .val (.long u4), .second, .val (.int (u0 &&& (1073741823 : Int32))), .val (.double (FP.l2d u1)), .second, .val (.double (FP.l2d u2)), .second, .val (.double (FP.l2d u3)), .second, .val (.double (FP.l2d u4)), .second, .val (.int ((u0 &&& (1073741823 : Int32)) &&& (3 : Int32))), .unset, .unset, .val (.double (FP.l2d u1)), .second, .val (.double (FP.l2d u2)), .second, .val (.double (FP.l2d u3)), .second, .unset, .unset] [])) _
    refine XS.dload X0.here hx rfl (hb hby at_72) rfl ?_
    show Steps p.tables e below (s₁.setTop (mkF m 74 #[.val (.int u0), .val (.long u1), .second, .val (.long u2), .second, .val (.long u3), .second, .val (.long u4), .second, .val (.int (u0 &&& (1073741823 : Int32))), .val (.double (FP.l2d u1)), .second, .val (.double (FP.l2d u2)), .second, .val (.double (FP.l2d u3)), .second, .val (.double (FP.l2d u4)), .second, .val (.int ((u0 &&& (1073741823 : Int32)) &&& (3 : Int32))), .unset, .unset, .val (.double (FP.l2d u1)), .second, .val (.double (FP.l2d u2)), .second, .val (.double (FP.l2d u3)), .second, .unset, .unset] [(.double (FP.l2d u4))])) _
    refine XS.dstore X0.here hx rfl (hb hby at_74) rfl (l' := #[.val (.int u0), .val (.long u1), .second, .val (.long u2), .second, .val (.long u3), .second, .val (.long u4), .second, .val (.int (u0 &&& (1073741823 : Int32))), .val (.double (FP.l2d u1)), .second, .val (.double (FP.l2d u2)), .second, .val (.double (FP.l2d u3)), .second, .val (.double (FP.l2d u4)), .second, .val (.int ((u0 &&& (1073741823 : Int32)) &&& (3 : Int32))), .val (.double (FP.l2d u4)), .second, .val (.double (FP.l2d u1)), .second, .val (.double (FP.l2d u2)), .second, .val (.double (FP.l2d u3)), .second, .unset, .unset]) rfl ?_
    show Steps p.tables e below (s₁.setTop (mkF m 76 #[.val (.int u0), .val (.long u1), .second, .val (.long u2), .second, .val (.long u3), .second, .val (.long u4), .second, .val (.int (u0 &&& (1073741823 : Int32))), .val (.double (FP.l2d u1)), .second, .val (.double (FP.l2d u2)), .second, .val (.double (FP.l2d u3)), .second, .val (.double (FP.l2d u4)), .second, .val (.int ((u0 &&& (1073741823 : Int32)) &&& (3 : Int32))), .val (.double (FP.l2d u4)), .second, .val (.double (FP.l2d u1)), .second, .val (.double (FP.l2d u2)), .second, .val (.double (FP.l2d u3)), .second, .unset, .unset] [])) _
    refine XS.goto X0.here hx rfl (pc0 := 76) (pc' := 120) rfl (hb hby at_76) (by decide) (by decide) ?_
    show Steps p.tables e below (s₁.setTop (mkF m 120 #[.val (.int u0), .val (.long u1), .second, .val (.long u2), .second, .val (.long u3), .second, .val (.long u4), .second, .val (.int (u0 &&& (1073741823 : Int32))), .val (.double (FP.l2d u1)), .second, .val (.double (FP.l2d u2)), .second, .val (.double (FP.l2d u3)), .second, .val (.double (FP.l2d u4)), .second, .val (.int ((u0 &&& (1073741823 : Int32)) &&& (3 : Int32))), .val (.double (FP.l2d u4)), .second, .val (.double (FP.l2d u1)), .second, .val (.double (FP.l2d u2)), .second, .val (.double (FP.l2d u3)), .second, .unset, .unset] [])) _
    refine XS.dload X0.here hx rfl (hb hby at_120) rfl ?_
    show Steps p.tables e below (s₁.setTop (mkF m 122 #[.val (.int u0), .val (.long u1), .second, .val (.long u2), .second, .val (.long u3), .second, .val (.long u4), .second, .val (.int (u0 &&& (1073741823 : Int32))), .val (.double (FP.l2d u1)), .second, .val (.double (FP.l2d u2)), .second, .val (.double (FP.l2d u3)), .second, .val (.double (FP.l2d u4)), .second, .val (.int ((u0 &&& (1073741823 : Int32)) &&& (3 : Int32))), .val (.double (FP.l2d u4)), .second, .val (.double (FP.l2d u1)), .second, .val (.double (FP.l2d u2)), .second, .val (.double (FP.l2d u3)), .second, .unset, .unset] [(.double (FP.l2d u4))])) _
    refine XS.dload X0.here hx rfl (hb hby at_122) rfl ?_
    show Steps p.tables e below (s₁.setTop (mkF m 124 #[.val (.int u0), .val (.long u1), .second, .val (.long u2), .second, .val (.long u3), .second, .val (.long u4), .second, .val (.int (u0 &&& (1073741823 : Int32))), .val (.double (FP.l2d u1)), .second, .val (.double (FP.l2d u2)), .second, .val (.double (FP.l2d u3)), .second, .val (.double (FP.l2d u4)), .second, .val (.int ((u0 &&& (1073741823 : Int32)) &&& (3 : Int32))), .val (.double (FP.l2d u4)), .second, .val (.double (FP.l2d u1)), .second, .val (.double (FP.l2d u2)), .second, .val (.double (FP.l2d u3)), .second, .unset, .unset] [(.double (FP.l2d u1)), (.double (FP.l2d u4))])) _
    refine XS.daddS X0.here hx rfl (hb hby at_124) rfl hn124 (v := (FP.dadd (FP.l2d u4) (FP.l2d u1))) rfl ?_
    show Steps p.tables e below (s₁.setTop (mkF m 125 #[.val (.int u0), .val (.long u1), .second, .val (.long u2), .second, .val (.long u3), .second, .val (.long u4), .second, .val (.int (u0 &&& (1073741823 : Int32))), .val (.double (FP.l2d u1)), .second, .val (.double (FP.l2d u2)), .second, .val (.double (FP.l2d u3)), .second, .val (.double (FP.l2d u4)), .second, .val (.int ((u0 &&& (1073741823 : Int32)) &&& (3 : Int32))), .val (.double (FP.l2d u4)), .second, .val (.double (FP.l2d u1)), .second, .val (.double (FP.l2d u2)), .second, .val (.double (FP.l2d u3)), .second, .unset, .unset] [(.double (FP.dadd (FP.l2d u4) (FP.l2d u1)))])) _
    refine XS.dload X0.here hx rfl (hb hby at_125) rfl ?_
    show Steps p.tables e below (s₁.setTop (mkF m 127 #[.val (.int u0), .val (.long u1), .second, .val (.long u2), .second, .val (.long u3), .second, .val (.long u4), .second, .val (.int (u0 &&& (1073741823 : Int32))), .val (.double (FP.l2d u1)), .second, .val (.double (FP.l2d u2)), .second, .val (.double (FP.l2d u3)), .second, .val (.double (FP.l2d u4)), .second, .val (.int ((u0 &&& (1073741823 : Int32)) &&& (3 : Int32))), .val (.double (FP.l2d u4)), .second, .val (.double (FP.l2d u1)), .second, .val (.double (FP.l2d u2)), .second, .val (.double (FP.l2d u3)), .second, .unset, .unset] [(.double (FP.l2d u2)), (.double (FP.dadd (FP.l2d u4) (FP.l2d u1)))])) _
    refine XS.dload X0.here hx rfl (hb hby at_127) rfl ?_
    show Steps p.tables e below (s₁.setTop (mkF m 129 #[.val (.int u0), .val (.long u1), .second, .val (.long u2), .second, .val (.long u3), .second, .val (.long u4), .second, .val (.int (u0 &&& (1073741823 : Int32))), .val (.double (FP.l2d u1)), .second, .val (.double (FP.l2d u2)), .second, .val (.double (FP.l2d u3)), .second, .val (.double (FP.l2d u4)), .second, .val (.int ((u0 &&& (1073741823 : Int32)) &&& (3 : Int32))), .val (.double (FP.l2d u4)), .second, .val (.double (FP.l2d u1)), .second, .val (.double (FP.l2d u2)), .second, .val (.double (FP.l2d u3)), .second, .unset, .unset] [(.double (FP.l2d u3)), (.double (FP.l2d u2)), (.double (FP.dadd (FP.l2d u4) (FP.l2d u1)))])) _
    refine XS.daddS X0.here hx rfl (hb hby at_129) rfl hn129 (v := (FP.dadd (FP.l2d u2) (FP.l2d u3))) rfl ?_
    show Steps p.tables e below (s₁.setTop (mkF m 130 #[.val (.int u0), .val (.long u1), .second, .val (.long u2), .second, .val (.long u3), .second, .val (.long u4), .second, .val (.int (u0 &&& (1073741823 : Int32))), .val (.double (FP.l2d u1)), .second, .val (.double (FP.l2d u2)), .second, .val (.double (FP.l2d u3)), .second, .val (.double (FP.l2d u4)), .second, .val (.int ((u0 &&& (1073741823 : Int32)) &&& (3 : Int32))), .val (.double (FP.l2d u4)), .second, .val (.double (FP.l2d u1)), .second, .val (.double (FP.l2d u2)), .second, .val (.double (FP.l2d u3)), .second, .unset, .unset] [(.double (FP.dadd (FP.l2d u2) (FP.l2d u3))), (.double (FP.dadd (FP.l2d u4) (FP.l2d u1)))])) _
    refine XS.daddS X0.here hx rfl (hb hby at_130) rfl hn130 (v := (FP.dadd (FP.dadd (FP.l2d u4) (FP.l2d u1)) (FP.dadd (FP.l2d u2) (FP.l2d u3)))) rfl ?_
    show Steps p.tables e below (s₁.setTop (mkF m 131 #[.val (.int u0), .val (.long u1), .second, .val (.long u2), .second, .val (.long u3), .second, .val (.long u4), .second, .val (.int (u0 &&& (1073741823 : Int32))), .val (.double (FP.l2d u1)), .second, .val (.double (FP.l2d u2)), .second, .val (.double (FP.l2d u3)), .second, .val (.double (FP.l2d u4)), .second, .val (.int ((u0 &&& (1073741823 : Int32)) &&& (3 : Int32))), .val (.double (FP.l2d u4)), .second, .val (.double (FP.l2d u1)), .second, .val (.double (FP.l2d u2)), .second, .val (.double (FP.l2d u3)), .second, .unset, .unset] [(.double (FP.dadd (FP.dadd (FP.l2d u4) (FP.l2d u1)) (FP.dadd (FP.l2d u2) (FP.l2d u3))))])) _
    refine XS.dstore X0.here hx rfl (hb hby at_131) rfl (l' := #[.val (.int u0), .val (.long u1), .second, .val (.long u2), .second, .val (.long u3), .second, .val (.long u4), .second, .val (.int (u0 &&& (1073741823 : Int32))), .val (.double (FP.l2d u1)), .second, .val (.double (FP.l2d u2)), .second, .val (.double (FP.l2d u3)), .second, .val (.double (FP.l2d u4)), .second, .val (.int ((u0 &&& (1073741823 : Int32)) &&& (3 : Int32))), .val (.double (FP.l2d u4)), .second, .val (.double (FP.l2d u1)), .second, .val (.double (FP.l2d u2)), .second, .val (.double (FP.l2d u3)), .second, .val (.double (FP.dadd (FP.dadd (FP.l2d u4) (FP.l2d u1)) (FP.dadd (FP.l2d u2) (FP.l2d u3)))), .second]) rfl ?_
    show Steps p.tables e below (s₁.setTop (mkF m 133 #[.val (.int u0), .val (.long u1), .second, .val (.long u2), .second, .val (.long u3), .second, .val (.long u4), .second, .val (.int (u0 &&& (1073741823 : Int32))), .val (.double (FP.l2d u1)), .second, .val (.double (FP.l2d u2)), .second, .val (.double (FP.l2d u3)), .second, .val (.double (FP.l2d u4)), .second, .val (.int ((u0 &&& (1073741823 : Int32)) &&& (3 : Int32))), .val (.double (FP.l2d u4)), .second, .val (.double (FP.l2d u1)), .second, .val (.double (FP.l2d u2)), .second, .val (.double (FP.l2d u3)), .second, .val (.double (FP.dadd (FP.dadd (FP.l2d u4) (FP.l2d u1)) (FP.dadd (FP.l2d u2) (FP.l2d u3)))), .second] [])) _
    refine XS.iload X0.here hx rfl (hb hby at_133) rfl ?_
    show Steps p.tables e below (s₁.setTop (mkF m 135 #[.val (.int u0), .val (.long u1), .second, .val (.long u2), .second, .val (.long u3), .second, .val (.long u4), .second, .val (.int (u0 &&& (1073741823 : Int32))), .val (.double (FP.l2d u1)), .second, .val (.double (FP.l2d u2)), .second, .val (.double (FP.l2d u3)), .second, .val (.double (FP.l2d u4)), .second, .val (.int ((u0 &&& (1073741823 : Int32)) &&& (3 : Int32))), .val (.double (FP.l2d u4)), .second, .val (.double (FP.l2d u1)), .second, .val (.double (FP.l2d u2)), .second, .val (.double (FP.l2d u3)), .second, .val (.double (FP.dadd (FP.dadd (FP.l2d u4) (FP.l2d u1)) (FP.dadd (FP.l2d u2) (FP.l2d u3)))), .second] [(.int (u0 &&& (1073741823 : Int32)))])) _
    refine XS.dload X0.here hx rfl (hb hby at_135) rfl ?_
    show Steps p.tables e below (s₁.setTop (mkF m 137 #[.val (.int u0), .val (.long u1), .second, .val (.long u2), .second, .val (.long u3), .second, .val (.long u4), .second, .val (.int (u0 &&& (1073741823 : Int32))), .val (.double (FP.l2d u1)), .second, .val (.double (FP.l2d u2)), .second, .val (.double (FP.l2d u3)), .second, .val (.double (FP.l2d u4)), .second, .val (.int ((u0 &&& (1073741823 : Int32)) &&& (3 : Int32))), .val (.double (FP.l2d u4)), .second, .val (.double (FP.l2d u1)), .second, .val (.double (FP.l2d u2)), .second, .val (.double (FP.l2d u3)), .second, .val (.double (FP.dadd (FP.dadd (FP.l2d u4) (FP.l2d u1)) (FP.dadd (FP.l2d u2) (FP.l2d u3)))), .second] [(.double (FP.l2d u1)), (.int (u0 &&& (1073741823 : Int32)))])) _
    refine XS.dload X0.here hx rfl (hb hby at_137) rfl ?_
    show Steps p.tables e below (s₁.setTop (mkF m 139 #[.val (.int u0), .val (.long u1), .second, .val (.long u2), .second, .val (.long u3), .second, .val (.long u4), .second, .val (.int (u0 &&& (1073741823 : Int32))), .val (.double (FP.l2d u1)), .second, .val (.double (FP.l2d u2)), .second, .val (.double (FP.l2d u3)), .second, .val (.double (FP.l2d u4)), .second, .val (.int ((u0 &&& (1073741823 : Int32)) &&& (3 : Int32))), .val (.double (FP.l2d u4)), .second, .val (.double (FP.l2d u1)), .second, .val (.double (FP.l2d u2)), .second, .val (.double (FP.l2d u3)), .second, .val (.double (FP.dadd (FP.dadd (FP.l2d u4) (FP.l2d u1)) (FP.dadd (FP.l2d u2) (FP.l2d u3)))), .second] [(.double (FP.l2d u2)), (.double (FP.l2d u1)), (.int (u0 &&& (1073741823 : Int32)))])) _
    refine XS.dload X0.here hx rfl (hb hby at_139) rfl ?_
    show Steps p.tables e below (s₁.setTop (mkF m 141 #[.val (.int u0), .val (.long u1), .second, .val (.long u2), .second, .val (.long u3), .second, .val (.long u4), .second, .val (.int (u0 &&& (1073741823 : Int32))), .val (.double (FP.l2d u1)), .second, .val (.double (FP.l2d u2)), .second, .val (.double (FP.l2d u3)), .second, .val (.double (FP.l2d u4)), .second, .val (.int ((u0 &&& (1073741823 : Int32)) &&& (3 : Int32))), .val (.double (FP.l2d u4)), .second, .val (.double (FP.l2d u1)), .second, .val (.double (FP.l2d u2)), .second, .val (.double (FP.l2d u3)), .second, .val (.double (FP.dadd (FP.dadd (FP.l2d u4) (FP.l2d u1)) (FP.dadd (FP.l2d u2) (FP.l2d u3)))), .second] [(.double (FP.l2d u3)), (.double (FP.l2d u2)), (.double (FP.l2d u1)), (.int (u0 &&& (1073741823 : Int32)))])) _
    refine XS.dload X0.here hx rfl (hb hby at_141) rfl ?_
    show Steps p.tables e below (s₁.setTop (mkF m 143 #[.val (.int u0), .val (.long u1), .second, .val (.long u2), .second, .val (.long u3), .second, .val (.long u4), .second, .val (.int (u0 &&& (1073741823 : Int32))), .val (.double (FP.l2d u1)), .second, .val (.double (FP.l2d u2)), .second, .val (.double (FP.l2d u3)), .second, .val (.double (FP.l2d u4)), .second, .val (.int ((u0 &&& (1073741823 : Int32)) &&& (3 : Int32))), .val (.double (FP.l2d u4)), .second, .val (.double (FP.l2d u1)), .second, .val (.double (FP.l2d u2)), .second, .val (.double (FP.l2d u3)), .second, .val (.double (FP.dadd (FP.dadd (FP.l2d u4) (FP.l2d u1)) (FP.dadd (FP.l2d u2) (FP.l2d u3)))), .second] [(.double (FP.l2d u4)), (.double (FP.l2d u3)), (.double (FP.l2d u2)), (.double (FP.l2d u1)), (.int (u0 &&& (1073741823 : Int32)))])) _
    refine st1 _ ?_
    show Steps p.tables e below (T1.setTop (mkF m 146 #[.val (.int u0), .val (.long u1), .second, .val (.long u2), .second, .val (.long u3), .second, .val (.long u4), .second, .val (.int (u0 &&& (1073741823 : Int32))), .val (.double (FP.l2d u1)), .second, .val (.double (FP.l2d u2)), .second, .val (.double (FP.l2d u3)), .second, .val (.double (FP.l2d u4)), .second, .val (.int ((u0 &&& (1073741823 : Int32)) &&& (3 : Int32))), .val (.double (FP.l2d u4)), .second, .val (.double (FP.l2d u1)), .second, .val (.double (FP.l2d u2)), .second, .val (.double (FP.l2d u3)), .second, .val (.double (FP.dadd (FP.dadd (FP.l2d u4) (FP.l2d u1)) (FP.dadd (FP.l2d u2) (FP.l2d u3)))), .second] [(.double (FP.dadd (FP.dadd (FP.l2d u4) (FP.l2d u1)) (FP.dadd (FP.l2d u2) (FP.l2d u3))))])) _
    refine XS.dload X1.here hx rfl (hb hby at_146) rfl ?_
    show Steps p.tables e below (T1.setTop (mkF m 148 #[.val (.int u0), .val (.long u1), .second, .val (.long u2), .second, .val (.long u3), .second, .val (.long u4), .second, .val (.int (u0 &&& (1073741823 : Int32))), .val (.double (FP.l2d u1)), .second, .val (.double (FP.l2d u2)), .second, .val (.double (FP.l2d u3)), .second, .val (.double (FP.l2d u4)), .second, .val (.int ((u0 &&& (1073741823 : Int32)) &&& (3 : Int32))), .val (.double (FP.l2d u4)), .second, .val (.double (FP.l2d u1)), .second, .val (.double (FP.l2d u2)), .second, .val (.double (FP.l2d u3)), .second, .val (.double (FP.dadd (FP.dadd (FP.l2d u4) (FP.l2d u1)) (FP.dadd (FP.l2d u2) (FP.l2d u3)))), .second] [(.double (FP.dadd (FP.dadd (FP.l2d u4) (FP.l2d u1)) (FP.dadd (FP.l2d u2) (FP.l2d u3)))), (.double (FP.dadd (FP.dadd (FP.l2d u4) (FP.l2d u1)) (FP.dadd (FP.l2d u2) (FP.l2d u3))))])) _
    refine XS.dcmpS X1.here hx rfl (hb hby at_148) rfl (v := (0 : Int32)) (dcmpV_self hn130 .l) ?_
    show Steps p.tables e below (T1.setTop (mkF m 149 #[.val (.int u0), .val (.long u1), .second, .val (.long u2), .second, .val (.long u3), .second, .val (.long u4), .second, .val (.int (u0 &&& (1073741823 : Int32))), .val (.double (FP.l2d u1)), .second, .val (.double (FP.l2d u2)), .second, .val (.double (FP.l2d u3)), .second, .val (.double (FP.l2d u4)), .second, .val (.int ((u0 &&& (1073741823 : Int32)) &&& (3 : Int32))), .val (.double (FP.l2d u4)), .second, .val (.double (FP.l2d u1)), .second, .val (.double (FP.l2d u2)), .second, .val (.double (FP.l2d u3)), .second, .val (.double (FP.dadd (FP.dadd (FP.l2d u4) (FP.l2d u1)) (FP.dadd (FP.l2d u2) (FP.l2d u3)))), .second] [(.int (0 : Int32))])) _
    refine XS.ifNo X1.here hx rfl (hb hby at_149) rfl ((if0 _ _).trans (teq (rfl : (0 : Int32) = (0 : Int32))).2) ?_
    show Steps p.tables e below (T1.setTop (mkF m 152 #[.val (.int u0), .val (.long u1), .second, .val (.long u2), .second, .val (.long u3), .second, .val (.long u4), .second, .val (.int (u0 &&& (1073741823 : Int32))), .val (.double (FP.l2d u1)), .second, .val (.double (FP.l2d u2)), .second, .val (.double (FP.l2d u3)), .second, .val (.double (FP.l2d u4)), .second, .val (.int ((u0 &&& (1073741823 : Int32)) &&& (3 : Int32))), .val (.double (FP.l2d u4)), .second, .val (.double (FP.l2d u1)), .second, .val (.double (FP.l2d u2)), .second, .val (.double (FP.l2d u3)), .second, .val (.double (FP.dadd (FP.dadd (FP.l2d u4) (FP.l2d u1)) (FP.dadd (FP.l2d u2) (FP.l2d u3)))), .second] [])) _
    refine XS.iconst X1.here hx rfl (hb hby at_152) ?_
    show Steps p.tables e below (T1.setTop (mkF m 153 #[.val (.int u0), .val (.long u1), .second, .val (.long u2), .second, .val (.long u3), .second, .val (.long u4), .second, .val (.int (u0 &&& (1073741823 : Int32))), .val (.double (FP.l2d u1)), .second, .val (.double (FP.l2d u2)), .second, .val (.double (FP.l2d u3)), .second, .val (.double (FP.l2d u4)), .second, .val (.int ((u0 &&& (1073741823 : Int32)) &&& (3 : Int32))), .val (.double (FP.l2d u4)), .second, .val (.double (FP.l2d u1)), .second, .val (.double (FP.l2d u2)), .second, .val (.double (FP.l2d u3)), .second, .val (.double (FP.dadd (FP.dadd (FP.l2d u4) (FP.l2d u1)) (FP.dadd (FP.l2d u2) (FP.l2d u3)))), .second] [(.int (1 : Int32))])) _
    refine XS.goto X1.here hx rfl (pc0 := 153) (pc' := 157) rfl (hb hby at_153) (by decide) (by decide) ?_
    show Steps p.tables e below (T1.setTop (mkF m 157 #[.val (.int u0), .val (.long u1), .second, .val (.long u2), .second, .val (.long u3), .second, .val (.long u4), .second, .val (.int (u0 &&& (1073741823 : Int32))), .val (.double (FP.l2d u1)), .second, .val (.double (FP.l2d u2)), .second, .val (.double (FP.l2d u3)), .second, .val (.double (FP.l2d u4)), .second, .val (.int ((u0 &&& (1073741823 : Int32)) &&& (3 : Int32))), .val (.double (FP.l2d u4)), .second, .val (.double (FP.l2d u1)), .second, .val (.double (FP.l2d u2)), .second, .val (.double (FP.l2d u3)), .second, .val (.double (FP.dadd (FP.dadd (FP.l2d u4) (FP.l2d u1)) (FP.dadd (FP.l2d u2) (FP.l2d u3)))), .second] [(.int (1 : Int32))])) _
    exact retN X1 hx (t := .boolean) Bd.returns (by simp) (hb hby at_157) hr
  · show Q0 n0 _ T1.heap _
    exact ⟨rfl, Fr.app N0 N1q⟩
set_option maxRecDepth 65536 in
set_option maxHeartbeats 40000000 in
theorem rm0_2 (l : Launch) (Z : State) (a0 : Array Value) (hw : ∀ d ∈ tables_1, d.before a0 Z = true) (ws : List Jvm.Cond) (u0 : Int32) (u1 u2 u3 u4 : Int64) (h0 : Heap) (n0 : Nat) (Z0 : n0 ≤ h0.size) (hj0 : ((u0 &&& (1073741823 : Int32)) % (4 : Int32)) = 2) (hj1 : (((u0 &&& (1073741823 : Int32)) + (1 : Int32)) % (4 : Int32)) = 3) (hj2 : (((u0 &&& (1073741823 : Int32)) + (2 : Int32)) % (4 : Int32)) = 0) (hj3 : (((u0 &&& (1073741823 : Int32)) + (3 : Int32)) % (4 : Int32)) = 1) (hc32 : ¬ (((u0 &&& (1073741823 : Int32)) &&& (3 : Int32)) = (0 : Int32))) (hc57 : ¬ (((u0 &&& (1073741823 : Int32)) &&& (3 : Int32)) = (1 : Int32))) (hc82 : ((u0 &&& (1073741823 : Int32)) &&& (3 : Int32)) = (2 : Int32)) (hn124 : Jvm.Free.Fl.NoNaN64 (FP.dadd (FP.l2d u3) (FP.l2d u4))) (hn129 : Jvm.Free.Fl.NoNaN64 (FP.dadd (FP.l2d u1) (FP.l2d u2))) (hn130 : Jvm.Free.Fl.NoNaN64 (FP.dadd (FP.dadd (FP.l2d u3) (FP.l2d u4)) (FP.dadd (FP.l2d u1) (FP.l2d u2)))) :
    MetFree l x (head1 (Jvm.Cond.code x code maxLocals ret :: ws) room_1) (fun aa U => aa = #[(.int u0), (.long u1), (.long u2), (.long u3), (.long u4)] ∧ Z.Warmed39 U.vm ∧ U.heap = h0) (fun _ _ _ _ _ => True) (fun _ U o U' => ∃ v L, o = .returned v ∧ Q0 n0 v U'.heap L ∧ FrameEnd U o U' L 16 128) := by
  refine MetFree.of_bodySF (plainFor_of_name pn_code) hisR ?_
  intro p e s m args below meth c s₁ Bd hml0 hP hK
  obtain ⟨rfl, hZ, hh⟩ := hP
  have hx := Bd.exec
  have hby := Bd.bytes
  have hml : c.maxLocals = 29 := hml0
  have hown : s.vm.findClass "com/example/rowfold/rowfold/CodeArrayAddLanesPinLaw" = some m.cls := findClass_of_methodNamed Bd.named
  have hnm := (name_of_methodNamed Bd.named Bd.method).1
  have X0 : Stand p l e room_1 s m #[(.int u0), (.long u1), (.long u2), (.long u3), (.long u4)] below meth c s₁ [] 0 0 := Stand.of_body Bd
  have e0 : s₁.heap = h0 := by rw [← hh, Bd.state]; rfl
  have N0 := Fr.nil n0
  have pre0 : ∀ t, Steps p.tables e below (s₁.setTop (mkF m 0 #[.val (.int u0), .val (.long u1), .second, .val (.long u2), .second, .val (.long u3), .second, .val (.long u4), .second, .unset, .unset, .unset, .unset, .unset, .unset, .unset, .unset, .unset, .unset, .unset, .unset, .unset, .unset, .unset, .unset, .unset, .unset, .unset, .unset] [])) t → Steps p.tables e below (s₁.setTop (entryFrame m #[(.int u0), (.long u1), (.long u2), (.long u3), (.long u4)] maxLocals)) t := fun t k => castTop (ef_code m u0 u1 u2 u3 u4) k
  obtain ⟨_, _, ⟨T1, L1, k1, n1⟩, -, X1, ⟨Lc1, hQ1, l1, y1, z1⟩, st1⟩ := Jvm.LawKit.callS X0 hx (y := (⟨"com/example/rowfold/rowfold/CodeArray", "addLanes", "(IDDDD)D"⟩ : MethodName)) hown (mvT hZ (hw _ (List.mem_of_getElem? (i := 1) rfl))) (mvT hZ (hw _ (List.mem_of_getElem? (i := 2) rfl))) (mvT hZ (hw _ (List.mem_of_getElem? (i := 3) rfl))) (mvT hZ (hw _ (List.mem_of_getElem? (i := 4) rfl))) (by decide) (backOf (W := 0) (rmA_2 l Z a0 hw [] (u0 &&& (1073741823 : Int32)) (FP.l2d u1) (FP.l2d u2) (FP.l2d u3) (FP.l2d u4) h0 n0 Z0 hj0 hj1 hj2 hj3 hn124 hn129 hn130) hZ (hw _ (List.mem_of_getElem? (i := 4) rfl)) (hw _ (List.mem_of_getElem? (i := 3) rfl)) (by decide) (by decide)) (g := (mkF m 143 #[.val (.int u0), .val (.long u1), .second, .val (.long u2), .second, .val (.long u3), .second, .val (.long u4), .second, .val (.int (u0 &&& (1073741823 : Int32))), .val (.double (FP.l2d u1)), .second, .val (.double (FP.l2d u2)), .second, .val (.double (FP.l2d u3)), .second, .val (.double (FP.l2d u4)), .second, .val (.int ((u0 &&& (1073741823 : Int32)) &&& (3 : Int32))), .val (.double (FP.l2d u3)), .second, .val (.double (FP.l2d u4)), .second, .val (.double (FP.l2d u1)), .second, .val (.double (FP.l2d u2)), .second, .val (.double (FP.dadd (FP.dadd (FP.l2d u3) (FP.l2d u4)) (FP.dadd (FP.l2d u1) (FP.l2d u2)))), .second] [(.double (FP.l2d u4)), (.double (FP.l2d u3)), (.double (FP.l2d u2)), (.double (FP.l2d u1)), (.int (u0 &&& (1073741823 : Int32)))])) rfl (by rw [hml]; rfl) (argsL := [(.int (u0 &&& (1073741823 : Int32))), (.double (FP.l2d u1)), (.double (FP.l2d u2)), (.double (FP.l2d u3)), (.double (FP.l2d u4))]) (rest := []) (lenOf pd__IDDDD_D rfl) rfl (by show 2 * 0 + _ ≤ _; exact Nat.le_of_eq rfl) (hb hby at_143) (fun _ _ => ⟨rfl, e0, (by decide : 0 + 1 ≤ _), (by decide : 0 + 4 ≤ _)⟩)
  dsimp only [Pt.U, Pt.locs, Pt.cells, Pt.slots] at X1 l1 y1 z1 st1 hQ1
  subst l1 y1 z1
  obtain ⟨rfl, N1q⟩ := hQ1
  obtain ⟨fs, hr, hrun, hended, hW, hsame⟩ := X1.leave (v := some (.int (1 : Int32))) (fun h => by rw [Bd.returns] at h; cases h)
  refine ⟨_, _, pre0 _ ?_, hrun, hended, _, _, rfl, ?_, ⟨_, rfl⟩, hW, hsame.mono (by decide) (by decide)⟩
  · show Steps p.tables e below (s₁.setTop (mkF m 0 #[.val (.int u0), .val (.long u1), .second, .val (.long u2), .second, .val (.long u3), .second, .val (.long u4), .second, .unset, .unset, .unset, .unset, .unset, .unset, .unset, .unset, .unset, .unset, .unset, .unset, .unset, .unset, .unset, .unset, .unset, .unset, .unset, .unset] [])) _
    refine XS.iloadN X0.here hx rfl (hb hby at_0) rfl ?_
    show Steps p.tables e below (s₁.setTop (mkF m 1 #[.val (.int u0), .val (.long u1), .second, .val (.long u2), .second, .val (.long u3), .second, .val (.long u4), .second, .unset, .unset, .unset, .unset, .unset, .unset, .unset, .unset, .unset, .unset, .unset, .unset, .unset, .unset, .unset, .unset, .unset, .unset, .unset, .unset] [(.int u0)])) _
    refine X0.ldcInt hx hown (mvT hZ (hw _ (List.mem_of_getElem? (i := 0) rfl))) (g := (mkF m 1 #[.val (.int u0), .val (.long u1), .second, .val (.long u2), .second, .val (.long u3), .second, .val (.long u4), .second, .unset, .unset, .unset, .unset, .unset, .unset, .unset, .unset, .unset, .unset, .unset, .unset, .unset, .unset, .unset, .unset, .unset, .unset, .unset, .unset] [(.int u0)])) rfl (hb hby at_1) _ ?_
    show Steps p.tables e below (s₁.setTop (mkF m 3 #[.val (.int u0), .val (.long u1), .second, .val (.long u2), .second, .val (.long u3), .second, .val (.long u4), .second, .unset, .unset, .unset, .unset, .unset, .unset, .unset, .unset, .unset, .unset, .unset, .unset, .unset, .unset, .unset, .unset, .unset, .unset, .unset, .unset] [(.int (1073741823 : Int32)), (.int u0)])) _
    refine XS.iand X0.here hx rfl (hb hby at_3) rfl ?_
    show Steps p.tables e below (s₁.setTop (mkF m 4 #[.val (.int u0), .val (.long u1), .second, .val (.long u2), .second, .val (.long u3), .second, .val (.long u4), .second, .unset, .unset, .unset, .unset, .unset, .unset, .unset, .unset, .unset, .unset, .unset, .unset, .unset, .unset, .unset, .unset, .unset, .unset, .unset, .unset] [(.int (u0 &&& (1073741823 : Int32)))])) _
    refine XS.istore X0.here hx rfl (hb hby at_4) rfl (l' := #[.val (.int u0), .val (.long u1), .second, .val (.long u2), .second, .val (.long u3), .second, .val (.long u4), .second, .val (.int (u0 &&& (1073741823 : Int32))), .unset, .unset, .unset, .unset, .unset, .unset, .unset, .unset, .unset, .unset, .unset, .unset, .unset, .unset, .unset, .unset, .unset, .unset, .unset]) rfl ?_
    show Steps p.tables e below (s₁.setTop (mkF m 6 #[.val (.int u0), .val (.long u1), .second, .val (.long u2), .second, .val (.long u3), .second, .val (.long u4), .second, .val (.int (u0 &&& (1073741823 : Int32))), .unset, .unset, .unset, .unset, .unset, .unset, .unset, .unset, .unset, .unset, .unset, .unset, .unset, .unset, .unset, .unset, .unset, .unset, .unset] [])) _
    refine XS.lloadN X0.here hx rfl (hb hby at_6) rfl ?_
    show Steps p.tables e below (s₁.setTop (mkF m 7 #[.val (.int u0), .val (.long u1), .second, .val (.long u2), .second, .val (.long u3), .second, .val (.long u4), .second, .val (.int (u0 &&& (1073741823 : Int32))), .unset, .unset, .unset, .unset, .unset, .unset, .unset, .unset, .unset, .unset, .unset, .unset, .unset, .unset, .unset, .unset, .unset, .unset, .unset] [(.long u1)])) _
    refine XS.l2dS X0.here hx rfl (hb hby at_7) rfl (v := (FP.l2d u1)) rfl ?_
    show Steps p.tables e below (s₁.setTop (mkF m 8 #[.val (.int u0), .val (.long u1), .second, .val (.long u2), .second, .val (.long u3), .second, .val (.long u4), .second, .val (.int (u0 &&& (1073741823 : Int32))), .unset, .unset, .unset, .unset, .unset, .unset, .unset, .unset, .unset, .unset, .unset, .unset, .unset, .unset, .unset, .unset, .unset, .unset, .unset] [(.double (FP.l2d u1))])) _
    refine XS.dstore X0.here hx rfl (hb hby at_8) rfl (l' := #[.val (.int u0), .val (.long u1), .second, .val (.long u2), .second, .val (.long u3), .second, .val (.long u4), .second, .val (.int (u0 &&& (1073741823 : Int32))), .val (.double (FP.l2d u1)), .second, .unset, .unset, .unset, .unset, .unset, .unset, .unset, .unset, .unset, .unset, .unset, .unset, .unset, .unset, .unset, .unset, .unset]) rfl ?_
    show Steps p.tables e below (s₁.setTop (mkF m 10 #[.val (.int u0), .val (.long u1), .second, .val (.long u2), .second, .val (.long u3), .second, .val (.long u4), .second, .val (.int (u0 &&& (1073741823 : Int32))), .val (.double (FP.l2d u1)), .second, .unset, .unset, .unset, .unset, .unset, .unset, .unset, .unset, .unset, .unset, .unset, .unset, .unset, .unset, .unset, .unset, .unset] [])) _
    refine XS.lloadN X0.here hx rfl (hb hby at_10) rfl ?_
    show Steps p.tables e below (s₁.setTop (mkF m 11 #[.val (.int u0), .val (.long u1), .second, .val (.long u2), .second, .val (.long u3), .second, .val (.long u4), .second, .val (.int (u0 &&& (1073741823 : Int32))), .val (.double (FP.l2d u1)), .second, .unset, .unset, .unset, .unset, .unset, .unset, .unset, .unset, .unset, .unset, .unset, .unset, .unset, .unset, .unset, .unset, .unset] [(.long u2)])) _
    refine XS.l2dS X0.here hx rfl (hb hby at_11) rfl (v := (FP.l2d u2)) rfl ?_
    show Steps p.tables e below (s₁.setTop (mkF m 12 #[.val (.int u0), .val (.long u1), .second, .val (.long u2), .second, .val (.long u3), .second, .val (.long u4), .second, .val (.int (u0 &&& (1073741823 : Int32))), .val (.double (FP.l2d u1)), .second, .unset, .unset, .unset, .unset, .unset, .unset, .unset, .unset, .unset, .unset, .unset, .unset, .unset, .unset, .unset, .unset, .unset] [(.double (FP.l2d u2))])) _
    refine XS.dstore X0.here hx rfl (hb hby at_12) rfl (l' := #[.val (.int u0), .val (.long u1), .second, .val (.long u2), .second, .val (.long u3), .second, .val (.long u4), .second, .val (.int (u0 &&& (1073741823 : Int32))), .val (.double (FP.l2d u1)), .second, .val (.double (FP.l2d u2)), .second, .unset, .unset, .unset, .unset, .unset, .unset, .unset, .unset, .unset, .unset, .unset, .unset, .unset, .unset, .unset]) rfl ?_
    show Steps p.tables e below (s₁.setTop (mkF m 14 #[.val (.int u0), .val (.long u1), .second, .val (.long u2), .second, .val (.long u3), .second, .val (.long u4), .second, .val (.int (u0 &&& (1073741823 : Int32))), .val (.double (FP.l2d u1)), .second, .val (.double (FP.l2d u2)), .second, .unset, .unset, .unset, .unset, .unset, .unset, .unset, .unset, .unset, .unset, .unset, .unset, .unset, .unset, .unset] [])) _
    refine XS.lload X0.here hx rfl (hb hby at_14) rfl ?_
    show Steps p.tables e below (s₁.setTop (mkF m 16 #[.val (.int u0), .val (.long u1), .second, .val (.long u2), .second, .val (.long u3), .second, .val (.long u4), .second, .val (.int (u0 &&& (1073741823 : Int32))), .val (.double (FP.l2d u1)), .second, .val (.double (FP.l2d u2)), .second, .unset, .unset, .unset, .unset, .unset, .unset, .unset, .unset, .unset, .unset, .unset, .unset, .unset, .unset, .unset] [(.long u3)])) _
    refine XS.l2dS X0.here hx rfl (hb hby at_16) rfl (v := (FP.l2d u3)) rfl ?_
    show Steps p.tables e below (s₁.setTop (mkF m 17 #[.val (.int u0), .val (.long u1), .second, .val (.long u2), .second, .val (.long u3), .second, .val (.long u4), .second, .val (.int (u0 &&& (1073741823 : Int32))), .val (.double (FP.l2d u1)), .second, .val (.double (FP.l2d u2)), .second, .unset, .unset, .unset, .unset, .unset, .unset, .unset, .unset, .unset, .unset, .unset, .unset, .unset, .unset, .unset] [(.double (FP.l2d u3))])) _
    refine XS.dstore X0.here hx rfl (hb hby at_17) rfl (l' := #[.val (.int u0), .val (.long u1), .second, .val (.long u2), .second, .val (.long u3), .second, .val (.long u4), .second, .val (.int (u0 &&& (1073741823 : Int32))), .val (.double (FP.l2d u1)), .second, .val (.double (FP.l2d u2)), .second, .val (.double (FP.l2d u3)), .second, .unset, .unset, .unset, .unset, .unset, .unset, .unset, .unset, .unset, .unset, .unset, .unset, .unset]) rfl ?_
    show Steps p.tables e below (s₁.setTop (mkF m 19 #[.val (.int u0), .val (.long u1), .second, .val (.long u2), .second, .val (.long u3), .second, .val (.long u4), .second, .val (.int (u0 &&& (1073741823 : Int32))), .val (.double (FP.l2d u1)), .second, .val (.double (FP.l2d u2)), .second, .val (.double (FP.l2d u3)), .second, .unset, .unset, .unset, .unset, .unset, .unset, .unset, .unset, .unset, .unset, .unset, .unset, .unset] [])) _
    refine XS.lload X0.here hx rfl (hb hby at_19) rfl ?_
    show Steps p.tables e below (s₁.setTop (mkF m 21 #[.val (.int u0), .val (.long u1), .second, .val (.long u2), .second, .val (.long u3), .second, .val (.long u4), .second, .val (.int (u0 &&& (1073741823 : Int32))), .val (.double (FP.l2d u1)), .second, .val (.double (FP.l2d u2)), .second, .val (.double (FP.l2d u3)), .second, .unset, .unset, .unset, .unset, .unset, .unset, .unset, .unset, .unset, .unset, .unset, .unset, .unset] [(.long u4)])) _
    refine XS.l2dS X0.here hx rfl (hb hby at_21) rfl (v := (FP.l2d u4)) rfl ?_
    show Steps p.tables e below (s₁.setTop (mkF m 22 #[.val (.int u0), .val (.long u1), .second, .val (.long u2), .second, .val (.long u3), .second, .val (.long u4), .second, .val (.int (u0 &&& (1073741823 : Int32))), .val (.double (FP.l2d u1)), .second, .val (.double (FP.l2d u2)), .second, .val (.double (FP.l2d u3)), .second, .unset, .unset, .unset, .unset, .unset, .unset, .unset, .unset, .unset, .unset, .unset, .unset, .unset] [(.double (FP.l2d u4))])) _
    refine XS.dstore X0.here hx rfl (hb hby at_22) rfl (l' := #[.val (.int u0), .val (.long u1), .second, .val (.long u2), .second, .val (.long u3), .second, .val (.long u4), .second, .val (.int (u0 &&& (1073741823 : Int32))), .val (.double (FP.l2d u1)), .second, .val (.double (FP.l2d u2)), .second, .val (.double (FP.l2d u3)), .second, .val (.double (FP.l2d u4)), .second, .unset, .unset, .unset, .unset, .unset, .unset, .unset, .unset, .unset, .unset, .unset]) rfl ?_
    show Steps p.tables e below (s₁.setTop (mkF m 24 #[.val (.int u0), .val (.long u1), .second, .val (.long u2), .second, .val (.long u3), .second, .val (.long u4), .second, .val (.int (u0 &&& (1073741823 : Int32))), .val (.double (FP.l2d u1)), .second, .val (.double (FP.l2d u2)), .second, .val (.double (FP.l2d u3)), .second, .val (.double (FP.l2d u4)), .second, .unset, .unset, .unset, .unset, .unset, .unset, .unset, .unset, .unset, .unset, .unset] [])) _
    refine XS.iload X0.here hx rfl (hb hby at_24) rfl ?_
    show Steps p.tables e below (s₁.setTop (mkF m 26 #[.val (.int u0), .val (.long u1), .second, .val (.long u2), .second, .val (.long u3), .second, .val (.long u4), .second, .val (.int (u0 &&& (1073741823 : Int32))), .val (.double (FP.l2d u1)), .second, .val (.double (FP.l2d u2)), .second, .val (.double (FP.l2d u3)), .second, .val (.double (FP.l2d u4)), .second, .unset, .unset, .unset, .unset, .unset, .unset, .unset, .unset, .unset, .unset, .unset] [(.int (u0 &&& (1073741823 : Int32)))])) _
    refine XS.iconst X0.here hx rfl (hb hby at_26) ?_
    show Steps p.tables e below (s₁.setTop (mkF m 27 #[.val (.int u0), .val (.long u1), .second, .val (.long u2), .second, .val (.long u3), .second, .val (.long u4), .second, .val (.int (u0 &&& (1073741823 : Int32))), .val (.double (FP.l2d u1)), .second, .val (.double (FP.l2d u2)), .second, .val (.double (FP.l2d u3)), .second, .val (.double (FP.l2d u4)), .second, .unset, .unset, .unset, .unset, .unset, .unset, .unset, .unset, .unset, .unset, .unset] [(.int (3 : Int32)), (.int (u0 &&& (1073741823 : Int32)))])) _
    refine XS.iand X0.here hx rfl (hb hby at_27) rfl ?_
    show Steps p.tables e below (s₁.setTop (mkF m 28 #[.val (.int u0), .val (.long u1), .second, .val (.long u2), .second, .val (.long u3), .second, .val (.long u4), .second, .val (.int (u0 &&& (1073741823 : Int32))), .val (.double (FP.l2d u1)), .second, .val (.double (FP.l2d u2)), .second, .val (.double (FP.l2d u3)), .second, .val (.double (FP.l2d u4)), .second, .unset, .unset, .unset, .unset, .unset, .unset, .unset, .unset, .unset, .unset, .unset] [(.int ((u0 &&& (1073741823 : Int32)) &&& (3 : Int32)))])) _
    refine XS.istore X0.here hx rfl (hb hby at_28) rfl (l' := #[.val (.int u0), .val (.long u1), .second, .val (.long u2), .second, .val (.long u3), .second, .val (.long u4), .second, .val (.int (u0 &&& (1073741823 : Int32))), .val (.double (FP.l2d u1)), .second, .val (.double (FP.l2d u2)), .second, .val (.double (FP.l2d u3)), .second, .val (.double (FP.l2d u4)), .second, .val (.int ((u0 &&& (1073741823 : Int32)) &&& (3 : Int32))), .unset, .unset, .unset, .unset, .unset, .unset, .unset, .unset, .unset, .unset]) rfl ?_
    show Steps p.tables e below (s₁.setTop (mkF m 30 #[.val (.int u0), .val (.long u1), .second, .val (.long u2), .second, .val (.long u3), .second, .val (.long u4), .second, .val (.int (u0 &&& (1073741823 : Int32))), .val (.double (FP.l2d u1)), .second, .val (.double (FP.l2d u2)), .second, .val (.double (FP.l2d u3)), .second, .val (.double (FP.l2d u4)), .second, .val (.int ((u0 &&& (1073741823 : Int32)) &&& (3 : Int32))), .unset, .unset, .unset, .unset, .unset, .unset, .unset, .unset, .unset, .unset] [])) _
    refine XS.iload X0.here hx rfl (hb hby at_30) rfl ?_
    show Steps p.tables e below (s₁.setTop (mkF m 32 #[.val (.int u0), .val (.long u1), .second, .val (.long u2), .second, .val (.long u3), .second, .val (.long u4), .second, .val (.int (u0 &&& (1073741823 : Int32))), .val (.double (FP.l2d u1)), .second, .val (.double (FP.l2d u2)), .second, .val (.double (FP.l2d u3)), .second, .val (.double (FP.l2d u4)), .second, .val (.int ((u0 &&& (1073741823 : Int32)) &&& (3 : Int32))), .unset, .unset, .unset, .unset, .unset, .unset, .unset, .unset, .unset, .unset] [(.int ((u0 &&& (1073741823 : Int32)) &&& (3 : Int32)))])) _
    refine XS.ifYes X0.here hx rfl (pc0 := 32) (pc' := 54) rfl (hb hby at_32) rfl ((if0 _ _).trans (feq hc32).2) (by decide) (by decide) ?_
    show Steps p.tables e below (s₁.setTop (mkF m 54 #[.val (.int u0), .val (.long u1), .second, .val (.long u2), .second, .val (.long u3), .second, .val (.long u4), .second, .val (.int (u0 &&& (1073741823 : Int32))), .val (.double (FP.l2d u1)), .second, .val (.double (FP.l2d u2)), .second, .val (.double (FP.l2d u3)), .second, .val (.double (FP.l2d u4)), .second, .val (.int ((u0 &&& (1073741823 : Int32)) &&& (3 : Int32))), .unset, .unset, .unset, .unset, .unset, .unset, .unset, .unset, .unset, .unset] [])) _
    refine XS.iload X0.here hx rfl (hb hby at_54) rfl ?_
    show Steps p.tables e below (s₁.setTop (mkF m 56 #[.val (.int u0), .val (.long u1), .second, .val (.long u2), .second, .val (.long u3), .second, .val (.long u4), .second, .val (.int (u0 &&& (1073741823 : Int32))), .val (.double (FP.l2d u1)), .second, .val (.double (FP.l2d u2)), .second, .val (.double (FP.l2d u3)), .second, .val (.double (FP.l2d u4)), .second, .val (.int ((u0 &&& (1073741823 : Int32)) &&& (3 : Int32))), .unset, .unset, .unset, .unset, .unset, .unset, .unset, .unset, .unset, .unset] [(.int ((u0 &&& (1073741823 : Int32)) &&& (3 : Int32)))])) _
    refine XS.iconst X0.here hx rfl (hb hby at_56) ?_
    show Steps p.tables e below (s₁.setTop (mkF m 57 #[.val (.int u0), .val (.long u1), .second, .val (.long u2), .second, .val (.long u3), .second, .val (.long u4), .second, .val (.int (u0 &&& (1073741823 : Int32))), .val (.double (FP.l2d u1)), .second, .val (.double (FP.l2d u2)), .second, .val (.double (FP.l2d u3)), .second, .val (.double (FP.l2d u4)), .second, .val (.int ((u0 &&& (1073741823 : Int32)) &&& (3 : Int32))), .unset, .unset, .unset, .unset, .unset, .unset, .unset, .unset, .unset, .unset] [(.int (1 : Int32)), (.int ((u0 &&& (1073741823 : Int32)) &&& (3 : Int32)))])) _
    refine XS.icmpYes X0.here hx rfl (pc0 := 57) (pc' := 79) rfl (hb hby at_57) rfl (feq hc57).2 (by decide) (by decide) ?_
    show Steps p.tables e below (s₁.setTop (mkF m 79 #[.val (.int u0), .val (.long u1), .second, .val (.long u2), .second, .val (.long u3), .second, .val (.long u4), .second, .val (.int (u0 &&& (1073741823 : Int32))), .val (.double (FP.l2d u1)), .second, .val (.double (FP.l2d u2)), .second, .val (.double (FP.l2d u3)), .second, .val (.double (FP.l2d u4)), .second, .val (.int ((u0 &&& (1073741823 : Int32)) &&& (3 : Int32))), .unset, .unset, .unset, .unset, .unset, .unset, .unset, .unset, .unset, .unset] [])) _
    refine XS.iload X0.here hx rfl (hb hby at_79) rfl ?_
    show Steps p.tables e below (s₁.setTop (mkF m 81 #[.val (.int u0), .val (.long u1), .second, .val (.long u2), .second, .val (.long u3), .second, .val (.long u4), .second, .val (.int (u0 &&& (1073741823 : Int32))), .val (.double (FP.l2d u1)), .second, .val (.double (FP.l2d u2)), .second, .val (.double (FP.l2d u3)), .second, .val (.double (FP.l2d u4)), .second, .val (.int ((u0 &&& (1073741823 : Int32)) &&& (3 : Int32))), .unset, .unset, .unset, .unset, .unset, .unset, .unset, .unset, .unset, .unset] [(.int ((u0 &&& (1073741823 : Int32)) &&& (3 : Int32)))])) _
    refine XS.iconst X0.here hx rfl (hb hby at_81) ?_
    show Steps p.tables e below (s₁.setTop (mkF m 82 #[.val (.int u0), .val (.long u1), .second, .val (.long u2), .second, .val (.long u3), .second, .val (.long u4), .second, .val (.int (u0 &&& (1073741823 : Int32))), .val (.double (FP.l2d u1)), .second, .val (.double (FP.l2d u2)), .second, .val (.double (FP.l2d u3)), .second, .val (.double (FP.l2d u4)), .second, .val (.int ((u0 &&& (1073741823 : Int32)) &&& (3 : Int32))), .unset, .unset, .unset, .unset, .unset, .unset, .unset, .unset, .unset, .unset] [(.int (2 : Int32)), (.int ((u0 &&& (1073741823 : Int32)) &&& (3 : Int32)))])) _
    refine XS.icmpNo X0.here hx rfl (hb hby at_82) rfl (teq hc82).2 ?_
    show Steps p.tables e below (s₁.setTop (mkF m 85 #[.val (.int u0), .val (.long u1), .second, .val (.long u2), .second, .val (.long u3), .second, .val (.long u4), .second, .val (.int (u0 &&& (1073741823 : Int32))), .val (.double (FP.l2d u1)), .second, .val (.double (FP.l2d u2)), .second, .val (.double (FP.l2d u3)), .second, .val (.double (FP.l2d u4)), .second, .val (.int ((u0 &&& (1073741823 : Int32)) &&& (3 : Int32))), .unset, .unset, .unset, .unset, .unset, .unset, .unset, .unset, .unset, .unset] [])) _
    refine XS.dload X0.here hx rfl (hb hby at_85) rfl ?_
    show Steps p.tables e below (s₁.setTop (mkF m 87 #[.val (.int u0), .val (.long u1), .second, .val (.long u2), .second, .val (.long u3), .second, .val (.long u4), .second, .val (.int (u0 &&& (1073741823 : Int32))), .val (.double (FP.l2d u1)), .second, .val (.double (FP.l2d u2)), .second, .val (.double (FP.l2d u3)), .second, .val (.double (FP.l2d u4)), .second, .val (.int ((u0 &&& (1073741823 : Int32)) &&& (3 : Int32))), .unset, .unset, .unset, .unset, .unset, .unset, .unset, .unset, .unset, .unset] [(.double (FP.l2d u1))])) _
    refine XS.dstore X0.here hx rfl (hb hby at_87) rfl (l' := #[.val (.int u0), .val (.long u1), .second, .val (.long u2), .second, .val (.long u3), .second, .val (.long u4), .second, .val (.int (u0 &&& (1073741823 : Int32))), .val (.double (FP.l2d u1)), .second, .val (.double (FP.l2d u2)), .second, .val (.double (FP.l2d u3)), .second, .val (.double (FP.l2d u4)), .second, .val (.int ((u0 &&& (1073741823 : Int32)) &&& (3 : Int32))), .unset, .unset, .unset, .unset, .val (.double (FP.l2d u1)), .second, .unset, .unset, .unset, .unset]) rfl ?_
    show Steps p.tables e below (s₁.setTop (mkF m 89 #[.val (.int u0), .val (.long u1), .second, .val (.long u2), .second, .val (.long u3), .second, .val (.long u4), .second, .val (.int (u0 &&& (1073741823 : Int32))), .val (.double (FP.l2d u1)), .second, .val (.double (FP.l2d u2)), .second, .val (.double (FP.l2d u3)), .second, .val (.double (FP.l2d u4)), .second, .val (.int ((u0 &&& (1073741823 : Int32)) &&& (3 : Int32))), .unset, .unset, .unset, .unset, .val (.double (FP.l2d u1)), .second, .unset, .unset, .unset, .unset] [])) _
    refine XS.dload X0.here hx rfl (hb hby at_89) rfl ?_
    show Steps p.tables e below (s₁.setTop (mkF m 91 #[.val (.int u0), .val (.long u1), .second, .val (.long u2), .second, .val (.long u3), .second, .val (.long u4), .second, .val (.int (u0 &&& (1073741823 : Int32))), .val (.double (FP.l2d u1)), .second, .val (.double (FP.l2d u2)), .second, .val (.double (FP.l2d u3)), .second, .val (.double (FP.l2d u4)), .second, .val (.int ((u0 &&& (1073741823 : Int32)) &&& (3 : Int32))), .unset, .unset, .unset, .unset, .val (.double (FP.l2d u1)), .second, .unset, .unset, .unset, .unset] [(.double (FP.l2d u2))])) _
    refine XS.dstore X0.here hx rfl (hb hby at_91) rfl (l' := #[.val (.int u0), .val (.long u1), .second, .val (.long u2), .second, .val (.long u3), .second, .val (.long u4), .second, .val (.int (u0 &&& (1073741823 : Int32))), .val (.double (FP.l2d u1)), .second, .val (.double (FP.l2d u2)), .second, .val (.double (FP.l2d u3)), .second, .val (.double (FP.l2d u4)), .second, .val (.int ((u0 &&& (1073741823 : Int32)) &&& (3 : Int32))), .unset, .unset, .unset, .unset, .val (.double (FP.l2d u1)), .second, .val (.double (FP.l2d u2)), .second, .unset, .unset]) rfl ?_
    show Steps p.tables e below (s₁.setTop (mkF m 93 #[.val (.int u0), .val (.long u1), .second, .val (.long u2), .second, .val (.long u3), .second, .val (.long u4), .second, .val (.int (u0 &&& (1073741823 : Int32))), .val (.double (FP.l2d u1)), .second, .val (.double (FP.l2d u2)), .second, .val (.double (FP.l2d u3)), .second, .val (.double (FP.l2d u4)), .second, .val (.int ((u0 &&& (1073741823 : Int32)) &&& (3 : Int32))), .unset, .unset, .unset, .unset, .val (.double (FP.l2d u1)), .second, .val (.double (FP.l2d u2)), .second, .unset, .unset] [])) _
    refine XS.dload X0.here hx rfl (hb hby at_93) rfl ?_
    show Steps p.tables e below (s₁.setTop (mkF m 95 #[.val (.int u0), .val (.long u1), .second, .val (.long u2), .second, .val (.long u3), .second, .val (.long u4), .second, .val (.int (u0 &&& (1073741823 : Int32))), .val (.double (FP.l2d u1)), .second, .val (.double (FP.l2d u2)), .second, .val (.double (FP.l2d u3)), .second, .val (.double (FP.l2d u4)), .second, .val (.int ((u0 &&& (1073741823 : Int32)) &&& (3 : Int32))), .unset, .unset, .unset, .unset, .val (.double (FP.l2d u1)), .second, .val (.double (FP.l2d u2)), .second, .unset, .unset] [(.double (FP.l2d u3))])) _
    refine XS.dstore X0.here hx rfl (hb hby at_95) rfl (l' := #[.val (.int u0), .val (.long u1), .second, .val (.long u2), .second, .val (.long u3), .second, .val (.long u4), .second, .val (.int (u0 &&& (1073741823 : Int32))), .val (.double (FP.l2d u1)), .second, .val (.double (FP.l2d u2)), .second, .val (.double (FP.l2d u3)), .second, .val (.double (FP.l2d u4)), .second, .val (.int ((u0 &&& (1073741823 : Int32)) &&& (3 : Int32))), .val (.double (FP.l2d u3)), .second, .unset, .unset, .val (.double (FP.l2d u1)), .second, .val (.double (FP.l2d u2)), .second, .unset, .unset]) rfl ?_
    show Steps p.tables e below (s₁.setTop (mkF m 97 #[.val (.int u0), .val (.long u1), .second, .val (.long u2), .second, .val (.long u3), .second, .val (.long u4), .second, .val (.int (u0 &&& (1073741823 : Int32))), .val (.double (FP.l2d u1)), .second, .val (.double (FP.l2d u2)), .second, .val (.double (FP.l2d u3)), .second, .val (.double (FP.l2d u4)), .second, .val (.int ((u0 &&& (1073741823 : Int32)) &&& (3 : Int32))), .val (.double (FP.l2d u3)), .second, .unset, .unset, .val (.double (FP.l2d u1)), .second, .val (.double (FP.l2d u2)), .second, .unset, .unset] [])) _
    refine XS.dload X0.here hx rfl (hb hby at_97) rfl ?_
    show Steps p.tables e below (s₁.setTop (mkF m 99 #[.val (.int u0), .val (.long u1), .second, .val (.long u2), .second, .val (.long u3), .second, .val (.long u4), .second, .val (.int (u0 &&& (1073741823 : Int32))), .val (.double (FP.l2d u1)), .second, .val (.double (FP.l2d u2)), .second, .val (.double (FP.l2d u3)), .second, .val (.double (FP.l2d u4)), .second, .val (.int ((u0 &&& (1073741823 : Int32)) &&& (3 : Int32))), .val (.double (FP.l2d u3)), .second, .unset, .unset, .val (.double (FP.l2d u1)), .second, .val (.double (FP.l2d u2)), .second, .unset, .unset] [(.double (FP.l2d u4))])) _
    refine XS.dstore X0.here hx rfl (hb hby at_99) rfl (l' := #[.val (.int u0), .val (.long u1), .second, .val (.long u2), .second, .val (.long u3), .second, .val (.long u4), .second, .val (.int (u0 &&& (1073741823 : Int32))), .val (.double (FP.l2d u1)), .second, .val (.double (FP.l2d u2)), .second, .val (.double (FP.l2d u3)), .second, .val (.double (FP.l2d u4)), .second, .val (.int ((u0 &&& (1073741823 : Int32)) &&& (3 : Int32))), .val (.double (FP.l2d u3)), .second, .val (.double (FP.l2d u4)), .second, .val (.double (FP.l2d u1)), .second, .val (.double (FP.l2d u2)), .second, .unset, .unset]) rfl ?_
    show Steps p.tables e below (s₁.setTop (mkF m 101 #[.val (.int u0), .val (.long u1), .second, .val (.long u2), .second, .val (.long u3), .second, .val (.long u4), .second, .val (.int (u0 &&& (1073741823 : Int32))), .val (.double (FP.l2d u1)), .second, .val (.double (FP.l2d u2)), .second, .val (.double (FP.l2d u3)), .second, .val (.double (FP.l2d u4)), .second, .val (.int ((u0 &&& (1073741823 : Int32)) &&& (3 : Int32))), .val (.double (FP.l2d u3)), .second, .val (.double (FP.l2d u4)), .second, .val (.double (FP.l2d u1)), .second, .val (.double (FP.l2d u2)), .second, .unset, .unset] [])) _
    refine XS.goto X0.here hx rfl (pc0 := 101) (pc' := 120) rfl (hb hby at_101) (by decide) (by decide) ?_
    show Steps p.tables e below (s₁.setTop (mkF m 120 #[.val (.int u0), .val (.long u1), .second, .val (.long u2), .second, .val (.long u3), .second, .val (.long u4), .second, .val (.int (u0 &&& (1073741823 : Int32))), .val (.double (FP.l2d u1)), .second, .val (.double (FP.l2d u2)), .second, .val (.double (FP.l2d u3)), .second, .val (.double (FP.l2d u4)), .second, .val (.int ((u0 &&& (1073741823 : Int32)) &&& (3 : Int32))), .val (.double (FP.l2d u3)), .second, .val (.double (FP.l2d u4)), .second, .val (.double (FP.l2d u1)), .second, .val (.double (FP.l2d u2)), .second, .unset, .unset] [])) _
    refine XS.dload X0.here hx rfl (hb hby at_120) rfl ?_
    show Steps p.tables e below (s₁.setTop (mkF m 122 #[.val (.int u0), .val (.long u1), .second, .val (.long u2), .second, .val (.long u3), .second, .val (.long u4), .second, .val (.int (u0 &&& (1073741823 : Int32))), .val (.double (FP.l2d u1)), .second, .val (.double (FP.l2d u2)), .second, .val (.double (FP.l2d u3)), .second, .val (.double (FP.l2d u4)), .second, .val (.int ((u0 &&& (1073741823 : Int32)) &&& (3 : Int32))), .val (.double (FP.l2d u3)), .second, .val (.double (FP.l2d u4)), .second, .val (.double (FP.l2d u1)), .second, .val (.double (FP.l2d u2)), .second, .unset, .unset] [(.double (FP.l2d u3))])) _
    refine XS.dload X0.here hx rfl (hb hby at_122) rfl ?_
    show Steps p.tables e below (s₁.setTop (mkF m 124 #[.val (.int u0), .val (.long u1), .second, .val (.long u2), .second, .val (.long u3), .second, .val (.long u4), .second, .val (.int (u0 &&& (1073741823 : Int32))), .val (.double (FP.l2d u1)), .second, .val (.double (FP.l2d u2)), .second, .val (.double (FP.l2d u3)), .second, .val (.double (FP.l2d u4)), .second, .val (.int ((u0 &&& (1073741823 : Int32)) &&& (3 : Int32))), .val (.double (FP.l2d u3)), .second, .val (.double (FP.l2d u4)), .second, .val (.double (FP.l2d u1)), .second, .val (.double (FP.l2d u2)), .second, .unset, .unset] [(.double (FP.l2d u4)), (.double (FP.l2d u3))])) _
    refine XS.daddS X0.here hx rfl (hb hby at_124) rfl hn124 (v := (FP.dadd (FP.l2d u3) (FP.l2d u4))) rfl ?_
    show Steps p.tables e below (s₁.setTop (mkF m 125 #[.val (.int u0), .val (.long u1), .second, .val (.long u2), .second, .val (.long u3), .second, .val (.long u4), .second, .val (.int (u0 &&& (1073741823 : Int32))), .val (.double (FP.l2d u1)), .second, .val (.double (FP.l2d u2)), .second, .val (.double (FP.l2d u3)), .second, .val (.double (FP.l2d u4)), .second, .val (.int ((u0 &&& (1073741823 : Int32)) &&& (3 : Int32))), .val (.double (FP.l2d u3)), .second, .val (.double (FP.l2d u4)), .second, .val (.double (FP.l2d u1)), .second, .val (.double (FP.l2d u2)), .second, .unset, .unset] [(.double (FP.dadd (FP.l2d u3) (FP.l2d u4)))])) _
    refine XS.dload X0.here hx rfl (hb hby at_125) rfl ?_
    show Steps p.tables e below (s₁.setTop (mkF m 127 #[.val (.int u0), .val (.long u1), .second, .val (.long u2), .second, .val (.long u3), .second, .val (.long u4), .second, .val (.int (u0 &&& (1073741823 : Int32))), .val (.double (FP.l2d u1)), .second, .val (.double (FP.l2d u2)), .second, .val (.double (FP.l2d u3)), .second, .val (.double (FP.l2d u4)), .second, .val (.int ((u0 &&& (1073741823 : Int32)) &&& (3 : Int32))), .val (.double (FP.l2d u3)), .second, .val (.double (FP.l2d u4)), .second, .val (.double (FP.l2d u1)), .second, .val (.double (FP.l2d u2)), .second, .unset, .unset] [(.double (FP.l2d u1)), (.double (FP.dadd (FP.l2d u3) (FP.l2d u4)))])) _
    refine XS.dload X0.here hx rfl (hb hby at_127) rfl ?_
    show Steps p.tables e below (s₁.setTop (mkF m 129 #[.val (.int u0), .val (.long u1), .second, .val (.long u2), .second, .val (.long u3), .second, .val (.long u4), .second, .val (.int (u0 &&& (1073741823 : Int32))), .val (.double (FP.l2d u1)), .second, .val (.double (FP.l2d u2)), .second, .val (.double (FP.l2d u3)), .second, .val (.double (FP.l2d u4)), .second, .val (.int ((u0 &&& (1073741823 : Int32)) &&& (3 : Int32))), .val (.double (FP.l2d u3)), .second, .val (.double (FP.l2d u4)), .second, .val (.double (FP.l2d u1)), .second, .val (.double (FP.l2d u2)), .second, .unset, .unset] [(.double (FP.l2d u2)), (.double (FP.l2d u1)), (.double (FP.dadd (FP.l2d u3) (FP.l2d u4)))])) _
    refine XS.daddS X0.here hx rfl (hb hby at_129) rfl hn129 (v := (FP.dadd (FP.l2d u1) (FP.l2d u2))) rfl ?_
    show Steps p.tables e below (s₁.setTop (mkF m 130 #[.val (.int u0), .val (.long u1), .second, .val (.long u2), .second, .val (.long u3), .second, .val (.long u4), .second, .val (.int (u0 &&& (1073741823 : Int32))), .val (.double (FP.l2d u1)), .second, .val (.double (FP.l2d u2)), .second, .val (.double (FP.l2d u3)), .second, .val (.double (FP.l2d u4)), .second, .val (.int ((u0 &&& (1073741823 : Int32)) &&& (3 : Int32))), .val (.double (FP.l2d u3)), .second, .val (.double (FP.l2d u4)), .second, .val (.double (FP.l2d u1)), .second, .val (.double (FP.l2d u2)), .second, .unset, .unset] [(.double (FP.dadd (FP.l2d u1) (FP.l2d u2))), (.double (FP.dadd (FP.l2d u3) (FP.l2d u4)))])) _
    refine XS.daddS X0.here hx rfl (hb hby at_130) rfl hn130 (v := (FP.dadd (FP.dadd (FP.l2d u3) (FP.l2d u4)) (FP.dadd (FP.l2d u1) (FP.l2d u2)))) rfl ?_
    show Steps p.tables e below (s₁.setTop (mkF m 131 #[.val (.int u0), .val (.long u1), .second, .val (.long u2), .second, .val (.long u3), .second, .val (.long u4), .second, .val (.int (u0 &&& (1073741823 : Int32))), .val (.double (FP.l2d u1)), .second, .val (.double (FP.l2d u2)), .second, .val (.double (FP.l2d u3)), .second, .val (.double (FP.l2d u4)), .second, .val (.int ((u0 &&& (1073741823 : Int32)) &&& (3 : Int32))), .val (.double (FP.l2d u3)), .second, .val (.double (FP.l2d u4)), .second, .val (.double (FP.l2d u1)), .second, .val (.double (FP.l2d u2)), .second, .unset, .unset] [(.double (FP.dadd (FP.dadd (FP.l2d u3) (FP.l2d u4)) (FP.dadd (FP.l2d u1) (FP.l2d u2))))])) _
    refine XS.dstore X0.here hx rfl (hb hby at_131) rfl (l' := #[.val (.int u0), .val (.long u1), .second, .val (.long u2), .second, .val (.long u3), .second, .val (.long u4), .second, .val (.int (u0 &&& (1073741823 : Int32))), .val (.double (FP.l2d u1)), .second, .val (.double (FP.l2d u2)), .second, .val (.double (FP.l2d u3)), .second, .val (.double (FP.l2d u4)), .second, .val (.int ((u0 &&& (1073741823 : Int32)) &&& (3 : Int32))), .val (.double (FP.l2d u3)), .second, .val (.double (FP.l2d u4)), .second, .val (.double (FP.l2d u1)), .second, .val (.double (FP.l2d u2)), .second, .val (.double (FP.dadd (FP.dadd (FP.l2d u3) (FP.l2d u4)) (FP.dadd (FP.l2d u1) (FP.l2d u2)))), .second]) rfl ?_
    show Steps p.tables e below (s₁.setTop (mkF m 133 #[.val (.int u0), .val (.long u1), .second, .val (.long u2), .second, .val (.long u3), .second, .val (.long u4), .second, .val (.int (u0 &&& (1073741823 : Int32))), .val (.double (FP.l2d u1)), .second, .val (.double (FP.l2d u2)), .second, .val (.double (FP.l2d u3)), .second, .val (.double (FP.l2d u4)), .second, .val (.int ((u0 &&& (1073741823 : Int32)) &&& (3 : Int32))), .val (.double (FP.l2d u3)), .second, .val (.double (FP.l2d u4)), .second, .val (.double (FP.l2d u1)), .second, .val (.double (FP.l2d u2)), .second, .val (.double (FP.dadd (FP.dadd (FP.l2d u3) (FP.l2d u4)) (FP.dadd (FP.l2d u1) (FP.l2d u2)))), .second] [])) _
    refine XS.iload X0.here hx rfl (hb hby at_133) rfl ?_
    show Steps p.tables e below (s₁.setTop (mkF m 135 #[.val (.int u0), .val (.long u1), .second, .val (.long u2), .second, .val (.long u3), .second, .val (.long u4), .second, .val (.int (u0 &&& (1073741823 : Int32))), .val (.double (FP.l2d u1)), .second, .val (.double (FP.l2d u2)), .second, .val (.double (FP.l2d u3)), .second, .val (.double (FP.l2d u4)), .second, .val (.int ((u0 &&& (1073741823 : Int32)) &&& (3 : Int32))), .val (.double (FP.l2d u3)), .second, .val (.double (FP.l2d u4)), .second, .val (.double (FP.l2d u1)), .second, .val (.double (FP.l2d u2)), .second, .val (.double (FP.dadd (FP.dadd (FP.l2d u3) (FP.l2d u4)) (FP.dadd (FP.l2d u1) (FP.l2d u2)))), .second] [(.int (u0 &&& (1073741823 : Int32)))])) _
    refine XS.dload X0.here hx rfl (hb hby at_135) rfl ?_
    show Steps p.tables e below (s₁.setTop (mkF m 137 #[.val (.int u0), .val (.long u1), .second, .val (.long u2), .second, .val (.long u3), .second, .val (.long u4), .second, .val (.int (u0 &&& (1073741823 : Int32))), .val (.double (FP.l2d u1)), .second, .val (.double (FP.l2d u2)), .second, .val (.double (FP.l2d u3)), .second, .val (.double (FP.l2d u4)), .second, .val (.int ((u0 &&& (1073741823 : Int32)) &&& (3 : Int32))), .val (.double (FP.l2d u3)), .second, .val (.double (FP.l2d u4)), .second, .val (.double (FP.l2d u1)), .second, .val (.double (FP.l2d u2)), .second, .val (.double (FP.dadd (FP.dadd (FP.l2d u3) (FP.l2d u4)) (FP.dadd (FP.l2d u1) (FP.l2d u2)))), .second] [(.double (FP.l2d u1)), (.int (u0 &&& (1073741823 : Int32)))])) _
    refine XS.dload X0.here hx rfl (hb hby at_137) rfl ?_
    show Steps p.tables e below (s₁.setTop (mkF m 139 #[.val (.int u0), .val (.long u1), .second, .val (.long u2), .second, .val (.long u3), .second, .val (.long u4), .second, .val (.int (u0 &&& (1073741823 : Int32))), .val (.double (FP.l2d u1)), .second, .val (.double (FP.l2d u2)), .second, .val (.double (FP.l2d u3)), .second, .val (.double (FP.l2d u4)), .second, .val (.int ((u0 &&& (1073741823 : Int32)) &&& (3 : Int32))), .val (.double (FP.l2d u3)), .second, .val (.double (FP.l2d u4)), .second, .val (.double (FP.l2d u1)), .second, .val (.double (FP.l2d u2)), .second, .val (.double (FP.dadd (FP.dadd (FP.l2d u3) (FP.l2d u4)) (FP.dadd (FP.l2d u1) (FP.l2d u2)))), .second] [(.double (FP.l2d u2)), (.double (FP.l2d u1)), (.int (u0 &&& (1073741823 : Int32)))])) _
    refine XS.dload X0.here hx rfl (hb hby at_139) rfl ?_
    show Steps p.tables e below (s₁.setTop (mkF m 141 #[.val (.int u0), .val (.long u1), .second, .val (.long u2), .second, .val (.long u3), .second, .val (.long u4), .second, .val (.int (u0 &&& (1073741823 : Int32))), .val (.double (FP.l2d u1)), .second, .val (.double (FP.l2d u2)), .second, .val (.double (FP.l2d u3)), .second, .val (.double (FP.l2d u4)), .second, .val (.int ((u0 &&& (1073741823 : Int32)) &&& (3 : Int32))), .val (.double (FP.l2d u3)), .second, .val (.double (FP.l2d u4)), .second, .val (.double (FP.l2d u1)), .second, .val (.double (FP.l2d u2)), .second, .val (.double (FP.dadd (FP.dadd (FP.l2d u3) (FP.l2d u4)) (FP.dadd (FP.l2d u1) (FP.l2d u2)))), .second] [(.double (FP.l2d u3)), (.double (FP.l2d u2)), (.double (FP.l2d u1)), (.int (u0 &&& (1073741823 : Int32)))])) _
    refine XS.dload X0.here hx rfl (hb hby at_141) rfl ?_
    show Steps p.tables e below (s₁.setTop (mkF m 143 #[.val (.int u0), .val (.long u1), .second, .val (.long u2), .second, .val (.long u3), .second, .val (.long u4), .second, .val (.int (u0 &&& (1073741823 : Int32))), .val (.double (FP.l2d u1)), .second, .val (.double (FP.l2d u2)), .second, .val (.double (FP.l2d u3)), .second, .val (.double (FP.l2d u4)), .second, .val (.int ((u0 &&& (1073741823 : Int32)) &&& (3 : Int32))), .val (.double (FP.l2d u3)), .second, .val (.double (FP.l2d u4)), .second, .val (.double (FP.l2d u1)), .second, .val (.double (FP.l2d u2)), .second, .val (.double (FP.dadd (FP.dadd (FP.l2d u3) (FP.l2d u4)) (FP.dadd (FP.l2d u1) (FP.l2d u2)))), .second] [(.double (FP.l2d u4)), (.double (FP.l2d u3)), (.double (FP.l2d u2)), (.double (FP.l2d u1)), (.int (u0 &&& (1073741823 : Int32)))])) _
    refine st1 _ ?_
    show Steps p.tables e below (T1.setTop (mkF m 146 #[.val (.int u0), .val (.long u1), .second, .val (.long u2), .second, .val (.long u3), .second, .val (.long u4), .second, .val (.int (u0 &&& (1073741823 : Int32))), .val (.double (FP.l2d u1)), .second, .val (.double (FP.l2d u2)), .second, .val (.double (FP.l2d u3)), .second, .val (.double (FP.l2d u4)), .second, .val (.int ((u0 &&& (1073741823 : Int32)) &&& (3 : Int32))), .val (.double (FP.l2d u3)), .second, .val (.double (FP.l2d u4)), .second, .val (.double (FP.l2d u1)), .second, .val (.double (FP.l2d u2)), .second, .val (.double (FP.dadd (FP.dadd (FP.l2d u3) (FP.l2d u4)) (FP.dadd (FP.l2d u1) (FP.l2d u2)))), .second] [(.double (FP.dadd (FP.dadd (FP.l2d u3) (FP.l2d u4)) (FP.dadd (FP.l2d u1) (FP.l2d u2))))])) _
    refine XS.dload X1.here hx rfl (hb hby at_146) rfl ?_
    show Steps p.tables e below (T1.setTop (mkF m 148 #[.val (.int u0), .val (.long u1), .second, .val (.long u2), .second, .val (.long u3), .second, .val (.long u4), .second, .val (.int (u0 &&& (1073741823 : Int32))), .val (.double (FP.l2d u1)), .second, .val (.double (FP.l2d u2)), .second, .val (.double (FP.l2d u3)), .second, .val (.double (FP.l2d u4)), .second, .val (.int ((u0 &&& (1073741823 : Int32)) &&& (3 : Int32))), .val (.double (FP.l2d u3)), .second, .val (.double (FP.l2d u4)), .second, .val (.double (FP.l2d u1)), .second, .val (.double (FP.l2d u2)), .second, .val (.double (FP.dadd (FP.dadd (FP.l2d u3) (FP.l2d u4)) (FP.dadd (FP.l2d u1) (FP.l2d u2)))), .second] [(.double (FP.dadd (FP.dadd (FP.l2d u3) (FP.l2d u4)) (FP.dadd (FP.l2d u1) (FP.l2d u2)))), (.double (FP.dadd (FP.dadd (FP.l2d u3) (FP.l2d u4)) (FP.dadd (FP.l2d u1) (FP.l2d u2))))])) _
    refine XS.dcmpS X1.here hx rfl (hb hby at_148) rfl (v := (0 : Int32)) (dcmpV_self hn130 .l) ?_
    show Steps p.tables e below (T1.setTop (mkF m 149 #[.val (.int u0), .val (.long u1), .second, .val (.long u2), .second, .val (.long u3), .second, .val (.long u4), .second, .val (.int (u0 &&& (1073741823 : Int32))), .val (.double (FP.l2d u1)), .second, .val (.double (FP.l2d u2)), .second, .val (.double (FP.l2d u3)), .second, .val (.double (FP.l2d u4)), .second, .val (.int ((u0 &&& (1073741823 : Int32)) &&& (3 : Int32))), .val (.double (FP.l2d u3)), .second, .val (.double (FP.l2d u4)), .second, .val (.double (FP.l2d u1)), .second, .val (.double (FP.l2d u2)), .second, .val (.double (FP.dadd (FP.dadd (FP.l2d u3) (FP.l2d u4)) (FP.dadd (FP.l2d u1) (FP.l2d u2)))), .second] [(.int (0 : Int32))])) _
    refine XS.ifNo X1.here hx rfl (hb hby at_149) rfl ((if0 _ _).trans (teq (rfl : (0 : Int32) = (0 : Int32))).2) ?_
    show Steps p.tables e below (T1.setTop (mkF m 152 #[.val (.int u0), .val (.long u1), .second, .val (.long u2), .second, .val (.long u3), .second, .val (.long u4), .second, .val (.int (u0 &&& (1073741823 : Int32))), .val (.double (FP.l2d u1)), .second, .val (.double (FP.l2d u2)), .second, .val (.double (FP.l2d u3)), .second, .val (.double (FP.l2d u4)), .second, .val (.int ((u0 &&& (1073741823 : Int32)) &&& (3 : Int32))), .val (.double (FP.l2d u3)), .second, .val (.double (FP.l2d u4)), .second, .val (.double (FP.l2d u1)), .second, .val (.double (FP.l2d u2)), .second, .val (.double (FP.dadd (FP.dadd (FP.l2d u3) (FP.l2d u4)) (FP.dadd (FP.l2d u1) (FP.l2d u2)))), .second] [])) _
    refine XS.iconst X1.here hx rfl (hb hby at_152) ?_
    show Steps p.tables e below (T1.setTop (mkF m 153 #[.val (.int u0), .val (.long u1), .second, .val (.long u2), .second, .val (.long u3), .second, .val (.long u4), .second, .val (.int (u0 &&& (1073741823 : Int32))), .val (.double (FP.l2d u1)), .second, .val (.double (FP.l2d u2)), .second, .val (.double (FP.l2d u3)), .second, .val (.double (FP.l2d u4)), .second, .val (.int ((u0 &&& (1073741823 : Int32)) &&& (3 : Int32))), .val (.double (FP.l2d u3)), .second, .val (.double (FP.l2d u4)), .second, .val (.double (FP.l2d u1)), .second, .val (.double (FP.l2d u2)), .second, .val (.double (FP.dadd (FP.dadd (FP.l2d u3) (FP.l2d u4)) (FP.dadd (FP.l2d u1) (FP.l2d u2)))), .second] [(.int (1 : Int32))])) _
    refine XS.goto X1.here hx rfl (pc0 := 153) (pc' := 157) rfl (hb hby at_153) (by decide) (by decide) ?_
    show Steps p.tables e below (T1.setTop (mkF m 157 #[.val (.int u0), .val (.long u1), .second, .val (.long u2), .second, .val (.long u3), .second, .val (.long u4), .second, .val (.int (u0 &&& (1073741823 : Int32))), .val (.double (FP.l2d u1)), .second, .val (.double (FP.l2d u2)), .second, .val (.double (FP.l2d u3)), .second, .val (.double (FP.l2d u4)), .second, .val (.int ((u0 &&& (1073741823 : Int32)) &&& (3 : Int32))), .val (.double (FP.l2d u3)), .second, .val (.double (FP.l2d u4)), .second, .val (.double (FP.l2d u1)), .second, .val (.double (FP.l2d u2)), .second, .val (.double (FP.dadd (FP.dadd (FP.l2d u3) (FP.l2d u4)) (FP.dadd (FP.l2d u1) (FP.l2d u2)))), .second] [(.int (1 : Int32))])) _
    exact retN X1 hx (t := .boolean) Bd.returns (by simp) (hb hby at_157) hr
  · show Q0 n0 _ T1.heap _
    exact ⟨rfl, Fr.app N0 N1q⟩
set_option maxRecDepth 65536 in
set_option maxHeartbeats 40000000 in
theorem rm0_3 (l : Launch) (Z : State) (a0 : Array Value) (hw : ∀ d ∈ tables_1, d.before a0 Z = true) (ws : List Jvm.Cond) (u0 : Int32) (u1 u2 u3 u4 : Int64) (h0 : Heap) (n0 : Nat) (Z0 : n0 ≤ h0.size) (hj0 : ((u0 &&& (1073741823 : Int32)) % (4 : Int32)) = 3) (hj1 : (((u0 &&& (1073741823 : Int32)) + (1 : Int32)) % (4 : Int32)) = 0) (hj2 : (((u0 &&& (1073741823 : Int32)) + (2 : Int32)) % (4 : Int32)) = 1) (hj3 : (((u0 &&& (1073741823 : Int32)) + (3 : Int32)) % (4 : Int32)) = 2) (hc32 : ¬ (((u0 &&& (1073741823 : Int32)) &&& (3 : Int32)) = (0 : Int32))) (hc57 : ¬ (((u0 &&& (1073741823 : Int32)) &&& (3 : Int32)) = (1 : Int32))) (hc82 : ¬ (((u0 &&& (1073741823 : Int32)) &&& (3 : Int32)) = (2 : Int32))) (hn124 : Jvm.Free.Fl.NoNaN64 (FP.dadd (FP.l2d u2) (FP.l2d u3))) (hn129 : Jvm.Free.Fl.NoNaN64 (FP.dadd (FP.l2d u4) (FP.l2d u1))) (hn130 : Jvm.Free.Fl.NoNaN64 (FP.dadd (FP.dadd (FP.l2d u2) (FP.l2d u3)) (FP.dadd (FP.l2d u4) (FP.l2d u1)))) :
    MetFree l x (head1 (Jvm.Cond.code x code maxLocals ret :: ws) room_1) (fun aa U => aa = #[(.int u0), (.long u1), (.long u2), (.long u3), (.long u4)] ∧ Z.Warmed39 U.vm ∧ U.heap = h0) (fun _ _ _ _ _ => True) (fun _ U o U' => ∃ v L, o = .returned v ∧ Q0 n0 v U'.heap L ∧ FrameEnd U o U' L 16 128) := by
  refine MetFree.of_bodySF (plainFor_of_name pn_code) hisR ?_
  intro p e s m args below meth c s₁ Bd hml0 hP hK
  obtain ⟨rfl, hZ, hh⟩ := hP
  have hx := Bd.exec
  have hby := Bd.bytes
  have hml : c.maxLocals = 29 := hml0
  have hown : s.vm.findClass "com/example/rowfold/rowfold/CodeArrayAddLanesPinLaw" = some m.cls := findClass_of_methodNamed Bd.named
  have hnm := (name_of_methodNamed Bd.named Bd.method).1
  have X0 : Stand p l e room_1 s m #[(.int u0), (.long u1), (.long u2), (.long u3), (.long u4)] below meth c s₁ [] 0 0 := Stand.of_body Bd
  have e0 : s₁.heap = h0 := by rw [← hh, Bd.state]; rfl
  have N0 := Fr.nil n0
  have pre0 : ∀ t, Steps p.tables e below (s₁.setTop (mkF m 0 #[.val (.int u0), .val (.long u1), .second, .val (.long u2), .second, .val (.long u3), .second, .val (.long u4), .second, .unset, .unset, .unset, .unset, .unset, .unset, .unset, .unset, .unset, .unset, .unset, .unset, .unset, .unset, .unset, .unset, .unset, .unset, .unset, .unset] [])) t → Steps p.tables e below (s₁.setTop (entryFrame m #[(.int u0), (.long u1), (.long u2), (.long u3), (.long u4)] maxLocals)) t := fun t k => castTop (ef_code m u0 u1 u2 u3 u4) k
  obtain ⟨_, _, ⟨T1, L1, k1, n1⟩, -, X1, ⟨Lc1, hQ1, l1, y1, z1⟩, st1⟩ := Jvm.LawKit.callS X0 hx (y := (⟨"com/example/rowfold/rowfold/CodeArray", "addLanes", "(IDDDD)D"⟩ : MethodName)) hown (mvT hZ (hw _ (List.mem_of_getElem? (i := 1) rfl))) (mvT hZ (hw _ (List.mem_of_getElem? (i := 2) rfl))) (mvT hZ (hw _ (List.mem_of_getElem? (i := 3) rfl))) (mvT hZ (hw _ (List.mem_of_getElem? (i := 4) rfl))) (by decide) (backOf (W := 0) (rmA_3 l Z a0 hw [] (u0 &&& (1073741823 : Int32)) (FP.l2d u1) (FP.l2d u2) (FP.l2d u3) (FP.l2d u4) h0 n0 Z0 hj0 hj1 hj2 hj3 hn124 hn129 hn130) hZ (hw _ (List.mem_of_getElem? (i := 4) rfl)) (hw _ (List.mem_of_getElem? (i := 3) rfl)) (by decide) (by decide)) (g := (mkF m 143 #[.val (.int u0), .val (.long u1), .second, .val (.long u2), .second, .val (.long u3), .second, .val (.long u4), .second, .val (.int (u0 &&& (1073741823 : Int32))), .val (.double (FP.l2d u1)), .second, .val (.double (FP.l2d u2)), .second, .val (.double (FP.l2d u3)), .second, .val (.double (FP.l2d u4)), .second, .val (.int ((u0 &&& (1073741823 : Int32)) &&& (3 : Int32))), .val (.double (FP.l2d u2)), .second, .val (.double (FP.l2d u3)), .second, .val (.double (FP.l2d u4)), .second, .val (.double (FP.l2d u1)), .second, .val (.double (FP.dadd (FP.dadd (FP.l2d u2) (FP.l2d u3)) (FP.dadd (FP.l2d u4) (FP.l2d u1)))), .second] [(.double (FP.l2d u4)), (.double (FP.l2d u3)), (.double (FP.l2d u2)), (.double (FP.l2d u1)), (.int (u0 &&& (1073741823 : Int32)))])) rfl (by rw [hml]; rfl) (argsL := [(.int (u0 &&& (1073741823 : Int32))), (.double (FP.l2d u1)), (.double (FP.l2d u2)), (.double (FP.l2d u3)), (.double (FP.l2d u4))]) (rest := []) (lenOf pd__IDDDD_D rfl) rfl (by show 2 * 0 + _ ≤ _; exact Nat.le_of_eq rfl) (hb hby at_143) (fun _ _ => ⟨rfl, e0, (by decide : 0 + 1 ≤ _), (by decide : 0 + 4 ≤ _)⟩)
  dsimp only [Pt.U, Pt.locs, Pt.cells, Pt.slots] at X1 l1 y1 z1 st1 hQ1
  subst l1 y1 z1
  obtain ⟨rfl, N1q⟩ := hQ1
  obtain ⟨fs, hr, hrun, hended, hW, hsame⟩ := X1.leave (v := some (.int (1 : Int32))) (fun h => by rw [Bd.returns] at h; cases h)
  refine ⟨_, _, pre0 _ ?_, hrun, hended, _, _, rfl, ?_, ⟨_, rfl⟩, hW, hsame.mono (by decide) (by decide)⟩
  · show Steps p.tables e below (s₁.setTop (mkF m 0 #[.val (.int u0), .val (.long u1), .second, .val (.long u2), .second, .val (.long u3), .second, .val (.long u4), .second, .unset, .unset, .unset, .unset, .unset, .unset, .unset, .unset, .unset, .unset, .unset, .unset, .unset, .unset, .unset, .unset, .unset, .unset, .unset, .unset] [])) _
    refine XS.iloadN X0.here hx rfl (hb hby at_0) rfl ?_
    show Steps p.tables e below (s₁.setTop (mkF m 1 #[.val (.int u0), .val (.long u1), .second, .val (.long u2), .second, .val (.long u3), .second, .val (.long u4), .second, .unset, .unset, .unset, .unset, .unset, .unset, .unset, .unset, .unset, .unset, .unset, .unset, .unset, .unset, .unset, .unset, .unset, .unset, .unset, .unset] [(.int u0)])) _
    refine X0.ldcInt hx hown (mvT hZ (hw _ (List.mem_of_getElem? (i := 0) rfl))) (g := (mkF m 1 #[.val (.int u0), .val (.long u1), .second, .val (.long u2), .second, .val (.long u3), .second, .val (.long u4), .second, .unset, .unset, .unset, .unset, .unset, .unset, .unset, .unset, .unset, .unset, .unset, .unset, .unset, .unset, .unset, .unset, .unset, .unset, .unset, .unset] [(.int u0)])) rfl (hb hby at_1) _ ?_
    show Steps p.tables e below (s₁.setTop (mkF m 3 #[.val (.int u0), .val (.long u1), .second, .val (.long u2), .second, .val (.long u3), .second, .val (.long u4), .second, .unset, .unset, .unset, .unset, .unset, .unset, .unset, .unset, .unset, .unset, .unset, .unset, .unset, .unset, .unset, .unset, .unset, .unset, .unset, .unset] [(.int (1073741823 : Int32)), (.int u0)])) _
    refine XS.iand X0.here hx rfl (hb hby at_3) rfl ?_
    show Steps p.tables e below (s₁.setTop (mkF m 4 #[.val (.int u0), .val (.long u1), .second, .val (.long u2), .second, .val (.long u3), .second, .val (.long u4), .second, .unset, .unset, .unset, .unset, .unset, .unset, .unset, .unset, .unset, .unset, .unset, .unset, .unset, .unset, .unset, .unset, .unset, .unset, .unset, .unset] [(.int (u0 &&& (1073741823 : Int32)))])) _
    refine XS.istore X0.here hx rfl (hb hby at_4) rfl (l' := #[.val (.int u0), .val (.long u1), .second, .val (.long u2), .second, .val (.long u3), .second, .val (.long u4), .second, .val (.int (u0 &&& (1073741823 : Int32))), .unset, .unset, .unset, .unset, .unset, .unset, .unset, .unset, .unset, .unset, .unset, .unset, .unset, .unset, .unset, .unset, .unset, .unset, .unset]) rfl ?_
    show Steps p.tables e below (s₁.setTop (mkF m 6 #[.val (.int u0), .val (.long u1), .second, .val (.long u2), .second, .val (.long u3), .second, .val (.long u4), .second, .val (.int (u0 &&& (1073741823 : Int32))), .unset, .unset, .unset, .unset, .unset, .unset, .unset, .unset, .unset, .unset, .unset, .unset, .unset, .unset, .unset, .unset, .unset, .unset, .unset] [])) _
    refine XS.lloadN X0.here hx rfl (hb hby at_6) rfl ?_
    show Steps p.tables e below (s₁.setTop (mkF m 7 #[.val (.int u0), .val (.long u1), .second, .val (.long u2), .second, .val (.long u3), .second, .val (.long u4), .second, .val (.int (u0 &&& (1073741823 : Int32))), .unset, .unset, .unset, .unset, .unset, .unset, .unset, .unset, .unset, .unset, .unset, .unset, .unset, .unset, .unset, .unset, .unset, .unset, .unset] [(.long u1)])) _
    refine XS.l2dS X0.here hx rfl (hb hby at_7) rfl (v := (FP.l2d u1)) rfl ?_
    show Steps p.tables e below (s₁.setTop (mkF m 8 #[.val (.int u0), .val (.long u1), .second, .val (.long u2), .second, .val (.long u3), .second, .val (.long u4), .second, .val (.int (u0 &&& (1073741823 : Int32))), .unset, .unset, .unset, .unset, .unset, .unset, .unset, .unset, .unset, .unset, .unset, .unset, .unset, .unset, .unset, .unset, .unset, .unset, .unset] [(.double (FP.l2d u1))])) _
    refine XS.dstore X0.here hx rfl (hb hby at_8) rfl (l' := #[.val (.int u0), .val (.long u1), .second, .val (.long u2), .second, .val (.long u3), .second, .val (.long u4), .second, .val (.int (u0 &&& (1073741823 : Int32))), .val (.double (FP.l2d u1)), .second, .unset, .unset, .unset, .unset, .unset, .unset, .unset, .unset, .unset, .unset, .unset, .unset, .unset, .unset, .unset, .unset, .unset]) rfl ?_
    show Steps p.tables e below (s₁.setTop (mkF m 10 #[.val (.int u0), .val (.long u1), .second, .val (.long u2), .second, .val (.long u3), .second, .val (.long u4), .second, .val (.int (u0 &&& (1073741823 : Int32))), .val (.double (FP.l2d u1)), .second, .unset, .unset, .unset, .unset, .unset, .unset, .unset, .unset, .unset, .unset, .unset, .unset, .unset, .unset, .unset, .unset, .unset] [])) _
    refine XS.lloadN X0.here hx rfl (hb hby at_10) rfl ?_
    show Steps p.tables e below (s₁.setTop (mkF m 11 #[.val (.int u0), .val (.long u1), .second, .val (.long u2), .second, .val (.long u3), .second, .val (.long u4), .second, .val (.int (u0 &&& (1073741823 : Int32))), .val (.double (FP.l2d u1)), .second, .unset, .unset, .unset, .unset, .unset, .unset, .unset, .unset, .unset, .unset, .unset, .unset, .unset, .unset, .unset, .unset, .unset] [(.long u2)])) _
    refine XS.l2dS X0.here hx rfl (hb hby at_11) rfl (v := (FP.l2d u2)) rfl ?_
    show Steps p.tables e below (s₁.setTop (mkF m 12 #[.val (.int u0), .val (.long u1), .second, .val (.long u2), .second, .val (.long u3), .second, .val (.long u4), .second, .val (.int (u0 &&& (1073741823 : Int32))), .val (.double (FP.l2d u1)), .second, .unset, .unset, .unset, .unset, .unset, .unset, .unset, .unset, .unset, .unset, .unset, .unset, .unset, .unset, .unset, .unset, .unset] [(.double (FP.l2d u2))])) _
    refine XS.dstore X0.here hx rfl (hb hby at_12) rfl (l' := #[.val (.int u0), .val (.long u1), .second, .val (.long u2), .second, .val (.long u3), .second, .val (.long u4), .second, .val (.int (u0 &&& (1073741823 : Int32))), .val (.double (FP.l2d u1)), .second, .val (.double (FP.l2d u2)), .second, .unset, .unset, .unset, .unset, .unset, .unset, .unset, .unset, .unset, .unset, .unset, .unset, .unset, .unset, .unset]) rfl ?_
    show Steps p.tables e below (s₁.setTop (mkF m 14 #[.val (.int u0), .val (.long u1), .second, .val (.long u2), .second, .val (.long u3), .second, .val (.long u4), .second, .val (.int (u0 &&& (1073741823 : Int32))), .val (.double (FP.l2d u1)), .second, .val (.double (FP.l2d u2)), .second, .unset, .unset, .unset, .unset, .unset, .unset, .unset, .unset, .unset, .unset, .unset, .unset, .unset, .unset, .unset] [])) _
    refine XS.lload X0.here hx rfl (hb hby at_14) rfl ?_
    show Steps p.tables e below (s₁.setTop (mkF m 16 #[.val (.int u0), .val (.long u1), .second, .val (.long u2), .second, .val (.long u3), .second, .val (.long u4), .second, .val (.int (u0 &&& (1073741823 : Int32))), .val (.double (FP.l2d u1)), .second, .val (.double (FP.l2d u2)), .second, .unset, .unset, .unset, .unset, .unset, .unset, .unset, .unset, .unset, .unset, .unset, .unset, .unset, .unset, .unset] [(.long u3)])) _
    refine XS.l2dS X0.here hx rfl (hb hby at_16) rfl (v := (FP.l2d u3)) rfl ?_
    show Steps p.tables e below (s₁.setTop (mkF m 17 #[.val (.int u0), .val (.long u1), .second, .val (.long u2), .second, .val (.long u3), .second, .val (.long u4), .second, .val (.int (u0 &&& (1073741823 : Int32))), .val (.double (FP.l2d u1)), .second, .val (.double (FP.l2d u2)), .second, .unset, .unset, .unset, .unset, .unset, .unset, .unset, .unset, .unset, .unset, .unset, .unset, .unset, .unset, .unset] [(.double (FP.l2d u3))])) _
    refine XS.dstore X0.here hx rfl (hb hby at_17) rfl (l' := #[.val (.int u0), .val (.long u1), .second, .val (.long u2), .second, .val (.long u3), .second, .val (.long u4), .second, .val (.int (u0 &&& (1073741823 : Int32))), .val (.double (FP.l2d u1)), .second, .val (.double (FP.l2d u2)), .second, .val (.double (FP.l2d u3)), .second, .unset, .unset, .unset, .unset, .unset, .unset, .unset, .unset, .unset, .unset, .unset, .unset, .unset]) rfl ?_
    show Steps p.tables e below (s₁.setTop (mkF m 19 #[.val (.int u0), .val (.long u1), .second, .val (.long u2), .second, .val (.long u3), .second, .val (.long u4), .second, .val (.int (u0 &&& (1073741823 : Int32))), .val (.double (FP.l2d u1)), .second, .val (.double (FP.l2d u2)), .second, .val (.double (FP.l2d u3)), .second, .unset, .unset, .unset, .unset, .unset, .unset, .unset, .unset, .unset, .unset, .unset, .unset, .unset] [])) _
    refine XS.lload X0.here hx rfl (hb hby at_19) rfl ?_
    show Steps p.tables e below (s₁.setTop (mkF m 21 #[.val (.int u0), .val (.long u1), .second, .val (.long u2), .second, .val (.long u3), .second, .val (.long u4), .second, .val (.int (u0 &&& (1073741823 : Int32))), .val (.double (FP.l2d u1)), .second, .val (.double (FP.l2d u2)), .second, .val (.double (FP.l2d u3)), .second, .unset, .unset, .unset, .unset, .unset, .unset, .unset, .unset, .unset, .unset, .unset, .unset, .unset] [(.long u4)])) _
    refine XS.l2dS X0.here hx rfl (hb hby at_21) rfl (v := (FP.l2d u4)) rfl ?_
    show Steps p.tables e below (s₁.setTop (mkF m 22 #[.val (.int u0), .val (.long u1), .second, .val (.long u2), .second, .val (.long u3), .second, .val (.long u4), .second, .val (.int (u0 &&& (1073741823 : Int32))), .val (.double (FP.l2d u1)), .second, .val (.double (FP.l2d u2)), .second, .val (.double (FP.l2d u3)), .second, .unset, .unset, .unset, .unset, .unset, .unset, .unset, .unset, .unset, .unset, .unset, .unset, .unset] [(.double (FP.l2d u4))])) _
    refine XS.dstore X0.here hx rfl (hb hby at_22) rfl (l' := #[.val (.int u0), .val (.long u1), .second, .val (.long u2), .second, .val (.long u3), .second, .val (.long u4), .second, .val (.int (u0 &&& (1073741823 : Int32))), .val (.double (FP.l2d u1)), .second, .val (.double (FP.l2d u2)), .second, .val (.double (FP.l2d u3)), .second, .val (.double (FP.l2d u4)), .second, .unset, .unset, .unset, .unset, .unset, .unset, .unset, .unset, .unset, .unset, .unset]) rfl ?_
    show Steps p.tables e below (s₁.setTop (mkF m 24 #[.val (.int u0), .val (.long u1), .second, .val (.long u2), .second, .val (.long u3), .second, .val (.long u4), .second, .val (.int (u0 &&& (1073741823 : Int32))), .val (.double (FP.l2d u1)), .second, .val (.double (FP.l2d u2)), .second, .val (.double (FP.l2d u3)), .second, .val (.double (FP.l2d u4)), .second, .unset, .unset, .unset, .unset, .unset, .unset, .unset, .unset, .unset, .unset, .unset] [])) _
    refine XS.iload X0.here hx rfl (hb hby at_24) rfl ?_
    show Steps p.tables e below (s₁.setTop (mkF m 26 #[.val (.int u0), .val (.long u1), .second, .val (.long u2), .second, .val (.long u3), .second, .val (.long u4), .second, .val (.int (u0 &&& (1073741823 : Int32))), .val (.double (FP.l2d u1)), .second, .val (.double (FP.l2d u2)), .second, .val (.double (FP.l2d u3)), .second, .val (.double (FP.l2d u4)), .second, .unset, .unset, .unset, .unset, .unset, .unset, .unset, .unset, .unset, .unset, .unset] [(.int (u0 &&& (1073741823 : Int32)))])) _
    refine XS.iconst X0.here hx rfl (hb hby at_26) ?_
    show Steps p.tables e below (s₁.setTop (mkF m 27 #[.val (.int u0), .val (.long u1), .second, .val (.long u2), .second, .val (.long u3), .second, .val (.long u4), .second, .val (.int (u0 &&& (1073741823 : Int32))), .val (.double (FP.l2d u1)), .second, .val (.double (FP.l2d u2)), .second, .val (.double (FP.l2d u3)), .second, .val (.double (FP.l2d u4)), .second, .unset, .unset, .unset, .unset, .unset, .unset, .unset, .unset, .unset, .unset, .unset] [(.int (3 : Int32)), (.int (u0 &&& (1073741823 : Int32)))])) _
    refine XS.iand X0.here hx rfl (hb hby at_27) rfl ?_
    show Steps p.tables e below (s₁.setTop (mkF m 28 #[.val (.int u0), .val (.long u1), .second, .val (.long u2), .second, .val (.long u3), .second, .val (.long u4), .second, .val (.int (u0 &&& (1073741823 : Int32))), .val (.double (FP.l2d u1)), .second, .val (.double (FP.l2d u2)), .second, .val (.double (FP.l2d u3)), .second, .val (.double (FP.l2d u4)), .second, .unset, .unset, .unset, .unset, .unset, .unset, .unset, .unset, .unset, .unset, .unset] [(.int ((u0 &&& (1073741823 : Int32)) &&& (3 : Int32)))])) _
    refine XS.istore X0.here hx rfl (hb hby at_28) rfl (l' := #[.val (.int u0), .val (.long u1), .second, .val (.long u2), .second, .val (.long u3), .second, .val (.long u4), .second, .val (.int (u0 &&& (1073741823 : Int32))), .val (.double (FP.l2d u1)), .second, .val (.double (FP.l2d u2)), .second, .val (.double (FP.l2d u3)), .second, .val (.double (FP.l2d u4)), .second, .val (.int ((u0 &&& (1073741823 : Int32)) &&& (3 : Int32))), .unset, .unset, .unset, .unset, .unset, .unset, .unset, .unset, .unset, .unset]) rfl ?_
    show Steps p.tables e below (s₁.setTop (mkF m 30 #[.val (.int u0), .val (.long u1), .second, .val (.long u2), .second, .val (.long u3), .second, .val (.long u4), .second, .val (.int (u0 &&& (1073741823 : Int32))), .val (.double (FP.l2d u1)), .second, .val (.double (FP.l2d u2)), .second, .val (.double (FP.l2d u3)), .second, .val (.double (FP.l2d u4)), .second, .val (.int ((u0 &&& (1073741823 : Int32)) &&& (3 : Int32))), .unset, .unset, .unset, .unset, .unset, .unset, .unset, .unset, .unset, .unset] [])) _
    refine XS.iload X0.here hx rfl (hb hby at_30) rfl ?_
    show Steps p.tables e below (s₁.setTop (mkF m 32 #[.val (.int u0), .val (.long u1), .second, .val (.long u2), .second, .val (.long u3), .second, .val (.long u4), .second, .val (.int (u0 &&& (1073741823 : Int32))), .val (.double (FP.l2d u1)), .second, .val (.double (FP.l2d u2)), .second, .val (.double (FP.l2d u3)), .second, .val (.double (FP.l2d u4)), .second, .val (.int ((u0 &&& (1073741823 : Int32)) &&& (3 : Int32))), .unset, .unset, .unset, .unset, .unset, .unset, .unset, .unset, .unset, .unset] [(.int ((u0 &&& (1073741823 : Int32)) &&& (3 : Int32)))])) _
    refine XS.ifYes X0.here hx rfl (pc0 := 32) (pc' := 54) rfl (hb hby at_32) rfl ((if0 _ _).trans (feq hc32).2) (by decide) (by decide) ?_
    show Steps p.tables e below (s₁.setTop (mkF m 54 #[.val (.int u0), .val (.long u1), .second, .val (.long u2), .second, .val (.long u3), .second, .val (.long u4), .second, .val (.int (u0 &&& (1073741823 : Int32))), .val (.double (FP.l2d u1)), .second, .val (.double (FP.l2d u2)), .second, .val (.double (FP.l2d u3)), .second, .val (.double (FP.l2d u4)), .second, .val (.int ((u0 &&& (1073741823 : Int32)) &&& (3 : Int32))), .unset, .unset, .unset, .unset, .unset, .unset, .unset, .unset, .unset, .unset] [])) _
    refine XS.iload X0.here hx rfl (hb hby at_54) rfl ?_
    show Steps p.tables e below (s₁.setTop (mkF m 56 #[.val (.int u0), .val (.long u1), .second, .val (.long u2), .second, .val (.long u3), .second, .val (.long u4), .second, .val (.int (u0 &&& (1073741823 : Int32))), .val (.double (FP.l2d u1)), .second, .val (.double (FP.l2d u2)), .second, .val (.double (FP.l2d u3)), .second, .val (.double (FP.l2d u4)), .second, .val (.int ((u0 &&& (1073741823 : Int32)) &&& (3 : Int32))), .unset, .unset, .unset, .unset, .unset, .unset, .unset, .unset, .unset, .unset] [(.int ((u0 &&& (1073741823 : Int32)) &&& (3 : Int32)))])) _
    refine XS.iconst X0.here hx rfl (hb hby at_56) ?_
    show Steps p.tables e below (s₁.setTop (mkF m 57 #[.val (.int u0), .val (.long u1), .second, .val (.long u2), .second, .val (.long u3), .second, .val (.long u4), .second, .val (.int (u0 &&& (1073741823 : Int32))), .val (.double (FP.l2d u1)), .second, .val (.double (FP.l2d u2)), .second, .val (.double (FP.l2d u3)), .second, .val (.double (FP.l2d u4)), .second, .val (.int ((u0 &&& (1073741823 : Int32)) &&& (3 : Int32))), .unset, .unset, .unset, .unset, .unset, .unset, .unset, .unset, .unset, .unset] [(.int (1 : Int32)), (.int ((u0 &&& (1073741823 : Int32)) &&& (3 : Int32)))])) _
    refine XS.icmpYes X0.here hx rfl (pc0 := 57) (pc' := 79) rfl (hb hby at_57) rfl (feq hc57).2 (by decide) (by decide) ?_
    show Steps p.tables e below (s₁.setTop (mkF m 79 #[.val (.int u0), .val (.long u1), .second, .val (.long u2), .second, .val (.long u3), .second, .val (.long u4), .second, .val (.int (u0 &&& (1073741823 : Int32))), .val (.double (FP.l2d u1)), .second, .val (.double (FP.l2d u2)), .second, .val (.double (FP.l2d u3)), .second, .val (.double (FP.l2d u4)), .second, .val (.int ((u0 &&& (1073741823 : Int32)) &&& (3 : Int32))), .unset, .unset, .unset, .unset, .unset, .unset, .unset, .unset, .unset, .unset] [])) _
    refine XS.iload X0.here hx rfl (hb hby at_79) rfl ?_
    show Steps p.tables e below (s₁.setTop (mkF m 81 #[.val (.int u0), .val (.long u1), .second, .val (.long u2), .second, .val (.long u3), .second, .val (.long u4), .second, .val (.int (u0 &&& (1073741823 : Int32))), .val (.double (FP.l2d u1)), .second, .val (.double (FP.l2d u2)), .second, .val (.double (FP.l2d u3)), .second, .val (.double (FP.l2d u4)), .second, .val (.int ((u0 &&& (1073741823 : Int32)) &&& (3 : Int32))), .unset, .unset, .unset, .unset, .unset, .unset, .unset, .unset, .unset, .unset] [(.int ((u0 &&& (1073741823 : Int32)) &&& (3 : Int32)))])) _
    refine XS.iconst X0.here hx rfl (hb hby at_81) ?_
    show Steps p.tables e below (s₁.setTop (mkF m 82 #[.val (.int u0), .val (.long u1), .second, .val (.long u2), .second, .val (.long u3), .second, .val (.long u4), .second, .val (.int (u0 &&& (1073741823 : Int32))), .val (.double (FP.l2d u1)), .second, .val (.double (FP.l2d u2)), .second, .val (.double (FP.l2d u3)), .second, .val (.double (FP.l2d u4)), .second, .val (.int ((u0 &&& (1073741823 : Int32)) &&& (3 : Int32))), .unset, .unset, .unset, .unset, .unset, .unset, .unset, .unset, .unset, .unset] [(.int (2 : Int32)), (.int ((u0 &&& (1073741823 : Int32)) &&& (3 : Int32)))])) _
    refine XS.icmpYes X0.here hx rfl (pc0 := 82) (pc' := 104) rfl (hb hby at_82) rfl (feq hc82).2 (by decide) (by decide) ?_
    show Steps p.tables e below (s₁.setTop (mkF m 104 #[.val (.int u0), .val (.long u1), .second, .val (.long u2), .second, .val (.long u3), .second, .val (.long u4), .second, .val (.int (u0 &&& (1073741823 : Int32))), .val (.double (FP.l2d u1)), .second, .val (.double (FP.l2d u2)), .second, .val (.double (FP.l2d u3)), .second, .val (.double (FP.l2d u4)), .second, .val (.int ((u0 &&& (1073741823 : Int32)) &&& (3 : Int32))), .unset, .unset, .unset, .unset, .unset, .unset, .unset, .unset, .unset, .unset] [])) _
    refine XS.dload X0.here hx rfl (hb hby at_104) rfl ?_
    show Steps p.tables e below (s₁.setTop (mkF m 106 #[.val (.int u0), .val (.long u1), .second, .val (.long u2), .second, .val (.long u3), .second, .val (.long u4), .second, .val (.int (u0 &&& (1073741823 : Int32))), .val (.double (FP.l2d u1)), .second, .val (.double (FP.l2d u2)), .second, .val (.double (FP.l2d u3)), .second, .val (.double (FP.l2d u4)), .second, .val (.int ((u0 &&& (1073741823 : Int32)) &&& (3 : Int32))), .unset, .unset, .unset, .unset, .unset, .unset, .unset, .unset, .unset, .unset] [(.double (FP.l2d u1))])) _
    refine XS.dstore X0.here hx rfl (hb hby at_106) rfl (l' := #[.val (.int u0), .val (.long u1), .second, .val (.long u2), .second, .val (.long u3), .second, .val (.long u4), .second, .val (.int (u0 &&& (1073741823 : Int32))), .val (.double (FP.l2d u1)), .second, .val (.double (FP.l2d u2)), .second, .val (.double (FP.l2d u3)), .second, .val (.double (FP.l2d u4)), .second, .val (.int ((u0 &&& (1073741823 : Int32)) &&& (3 : Int32))), .unset, .unset, .unset, .unset, .unset, .unset, .val (.double (FP.l2d u1)), .second, .unset, .unset]) rfl ?_
    show Steps p.tables e below (s₁.setTop (mkF m 108 #[.val (.int u0), .val (.long u1), .second, .val (.long u2), .second, .val (.long u3), .second, .val (.long u4), .second, .val (.int (u0 &&& (1073741823 : Int32))), .val (.double (FP.l2d u1)), .second, .val (.double (FP.l2d u2)), .second, .val (.double (FP.l2d u3)), .second, .val (.double (FP.l2d u4)), .second, .val (.int ((u0 &&& (1073741823 : Int32)) &&& (3 : Int32))), .unset, .unset, .unset, .unset, .unset, .unset, .val (.double (FP.l2d u1)), .second, .unset, .unset] [])) _
    refine XS.dload X0.here hx rfl (hb hby at_108) rfl ?_
    show Steps p.tables e below (s₁.setTop (mkF m 110 #[.val (.int u0), .val (.long u1), .second, .val (.long u2), .second, .val (.long u3), .second, .val (.long u4), .second, .val (.int (u0 &&& (1073741823 : Int32))), .val (.double (FP.l2d u1)), .second, .val (.double (FP.l2d u2)), .second, .val (.double (FP.l2d u3)), .second, .val (.double (FP.l2d u4)), .second, .val (.int ((u0 &&& (1073741823 : Int32)) &&& (3 : Int32))), .unset, .unset, .unset, .unset, .unset, .unset, .val (.double (FP.l2d u1)), .second, .unset, .unset] [(.double (FP.l2d u2))])) _
    refine XS.dstore X0.here hx rfl (hb hby at_110) rfl (l' := #[.val (.int u0), .val (.long u1), .second, .val (.long u2), .second, .val (.long u3), .second, .val (.long u4), .second, .val (.int (u0 &&& (1073741823 : Int32))), .val (.double (FP.l2d u1)), .second, .val (.double (FP.l2d u2)), .second, .val (.double (FP.l2d u3)), .second, .val (.double (FP.l2d u4)), .second, .val (.int ((u0 &&& (1073741823 : Int32)) &&& (3 : Int32))), .val (.double (FP.l2d u2)), .second, .unset, .unset, .unset, .unset, .val (.double (FP.l2d u1)), .second, .unset, .unset]) rfl ?_
    show Steps p.tables e below (s₁.setTop (mkF m 112 #[.val (.int u0), .val (.long u1), .second, .val (.long u2), .second, .val (.long u3), .second, .val (.long u4), .second, .val (.int (u0 &&& (1073741823 : Int32))), .val (.double (FP.l2d u1)), .second, .val (.double (FP.l2d u2)), .second, .val (.double (FP.l2d u3)), .second, .val (.double (FP.l2d u4)), .second, .val (.int ((u0 &&& (1073741823 : Int32)) &&& (3 : Int32))), .val (.double (FP.l2d u2)), .second, .unset, .unset, .unset, .unset, .val (.double (FP.l2d u1)), .second, .unset, .unset] [])) _
    refine XS.dload X0.here hx rfl (hb hby at_112) rfl ?_
    show Steps p.tables e below (s₁.setTop (mkF m 114 #[.val (.int u0), .val (.long u1), .second, .val (.long u2), .second, .val (.long u3), .second, .val (.long u4), .second, .val (.int (u0 &&& (1073741823 : Int32))), .val (.double (FP.l2d u1)), .second, .val (.double (FP.l2d u2)), .second, .val (.double (FP.l2d u3)), .second, .val (.double (FP.l2d u4)), .second, .val (.int ((u0 &&& (1073741823 : Int32)) &&& (3 : Int32))), .val (.double (FP.l2d u2)), .second, .unset, .unset, .unset, .unset, .val (.double (FP.l2d u1)), .second, .unset, .unset] [(.double (FP.l2d u3))])) _
    refine XS.dstore X0.here hx rfl (hb hby at_114) rfl (l' := #[.val (.int u0), .val (.long u1), .second, .val (.long u2), .second, .val (.long u3), .second, .val (.long u4), .second, .val (.int (u0 &&& (1073741823 : Int32))), .val (.double (FP.l2d u1)), .second, .val (.double (FP.l2d u2)), .second, .val (.double (FP.l2d u3)), .second, .val (.double (FP.l2d u4)), .second, .val (.int ((u0 &&& (1073741823 : Int32)) &&& (3 : Int32))), .val (.double (FP.l2d u2)), .second, .val (.double (FP.l2d u3)), .second, .unset, .unset, .val (.double (FP.l2d u1)), .second, .unset, .unset]) rfl ?_
    show Steps p.tables e below (s₁.setTop (mkF m 116 #[.val (.int u0), .val (.long u1), .second, .val (.long u2), .second, .val (.long u3), .second, .val (.long u4), .second, .val (.int (u0 &&& (1073741823 : Int32))), .val (.double (FP.l2d u1)), .second, .val (.double (FP.l2d u2)), .second, .val (.double (FP.l2d u3)), .second, .val (.double (FP.l2d u4)), .second, .val (.int ((u0 &&& (1073741823 : Int32)) &&& (3 : Int32))), .val (.double (FP.l2d u2)), .second, .val (.double (FP.l2d u3)), .second, .unset, .unset, .val (.double (FP.l2d u1)), .second, .unset, .unset] [])) _
    refine XS.dload X0.here hx rfl (hb hby at_116) rfl ?_
    show Steps p.tables e below (s₁.setTop (mkF m 118 #[.val (.int u0), .val (.long u1), .second, .val (.long u2), .second, .val (.long u3), .second, .val (.long u4), .second, .val (.int (u0 &&& (1073741823 : Int32))), .val (.double (FP.l2d u1)), .second, .val (.double (FP.l2d u2)), .second, .val (.double (FP.l2d u3)), .second, .val (.double (FP.l2d u4)), .second, .val (.int ((u0 &&& (1073741823 : Int32)) &&& (3 : Int32))), .val (.double (FP.l2d u2)), .second, .val (.double (FP.l2d u3)), .second, .unset, .unset, .val (.double (FP.l2d u1)), .second, .unset, .unset] [(.double (FP.l2d u4))])) _
    refine XS.dstore X0.here hx rfl (hb hby at_118) rfl (l' := #[.val (.int u0), .val (.long u1), .second, .val (.long u2), .second, .val (.long u3), .second, .val (.long u4), .second, .val (.int (u0 &&& (1073741823 : Int32))), .val (.double (FP.l2d u1)), .second, .val (.double (FP.l2d u2)), .second, .val (.double (FP.l2d u3)), .second, .val (.double (FP.l2d u4)), .second, .val (.int ((u0 &&& (1073741823 : Int32)) &&& (3 : Int32))), .val (.double (FP.l2d u2)), .second, .val (.double (FP.l2d u3)), .second, .val (.double (FP.l2d u4)), .second, .val (.double (FP.l2d u1)), .second, .unset, .unset]) rfl ?_
    show Steps p.tables e below (s₁.setTop (mkF m 120 #[.val (.int u0), .val (.long u1), .second, .val (.long u2), .second, .val (.long u3), .second, .val (.long u4), .second, .val (.int (u0 &&& (1073741823 : Int32))), .val (.double (FP.l2d u1)), .second, .val (.double (FP.l2d u2)), .second, .val (.double (FP.l2d u3)), .second, .val (.double (FP.l2d u4)), .second, .val (.int ((u0 &&& (1073741823 : Int32)) &&& (3 : Int32))), .val (.double (FP.l2d u2)), .second, .val (.double (FP.l2d u3)), .second, .val (.double (FP.l2d u4)), .second, .val (.double (FP.l2d u1)), .second, .unset, .unset] [])) _
    refine XS.dload X0.here hx rfl (hb hby at_120) rfl ?_
    show Steps p.tables e below (s₁.setTop (mkF m 122 #[.val (.int u0), .val (.long u1), .second, .val (.long u2), .second, .val (.long u3), .second, .val (.long u4), .second, .val (.int (u0 &&& (1073741823 : Int32))), .val (.double (FP.l2d u1)), .second, .val (.double (FP.l2d u2)), .second, .val (.double (FP.l2d u3)), .second, .val (.double (FP.l2d u4)), .second, .val (.int ((u0 &&& (1073741823 : Int32)) &&& (3 : Int32))), .val (.double (FP.l2d u2)), .second, .val (.double (FP.l2d u3)), .second, .val (.double (FP.l2d u4)), .second, .val (.double (FP.l2d u1)), .second, .unset, .unset] [(.double (FP.l2d u2))])) _
    refine XS.dload X0.here hx rfl (hb hby at_122) rfl ?_
    show Steps p.tables e below (s₁.setTop (mkF m 124 #[.val (.int u0), .val (.long u1), .second, .val (.long u2), .second, .val (.long u3), .second, .val (.long u4), .second, .val (.int (u0 &&& (1073741823 : Int32))), .val (.double (FP.l2d u1)), .second, .val (.double (FP.l2d u2)), .second, .val (.double (FP.l2d u3)), .second, .val (.double (FP.l2d u4)), .second, .val (.int ((u0 &&& (1073741823 : Int32)) &&& (3 : Int32))), .val (.double (FP.l2d u2)), .second, .val (.double (FP.l2d u3)), .second, .val (.double (FP.l2d u4)), .second, .val (.double (FP.l2d u1)), .second, .unset, .unset] [(.double (FP.l2d u3)), (.double (FP.l2d u2))])) _
    refine XS.daddS X0.here hx rfl (hb hby at_124) rfl hn124 (v := (FP.dadd (FP.l2d u2) (FP.l2d u3))) rfl ?_
    show Steps p.tables e below (s₁.setTop (mkF m 125 #[.val (.int u0), .val (.long u1), .second, .val (.long u2), .second, .val (.long u3), .second, .val (.long u4), .second, .val (.int (u0 &&& (1073741823 : Int32))), .val (.double (FP.l2d u1)), .second, .val (.double (FP.l2d u2)), .second, .val (.double (FP.l2d u3)), .second, .val (.double (FP.l2d u4)), .second, .val (.int ((u0 &&& (1073741823 : Int32)) &&& (3 : Int32))), .val (.double (FP.l2d u2)), .second, .val (.double (FP.l2d u3)), .second, .val (.double (FP.l2d u4)), .second, .val (.double (FP.l2d u1)), .second, .unset, .unset] [(.double (FP.dadd (FP.l2d u2) (FP.l2d u3)))])) _
    refine XS.dload X0.here hx rfl (hb hby at_125) rfl ?_
    show Steps p.tables e below (s₁.setTop (mkF m 127 #[.val (.int u0), .val (.long u1), .second, .val (.long u2), .second, .val (.long u3), .second, .val (.long u4), .second, .val (.int (u0 &&& (1073741823 : Int32))), .val (.double (FP.l2d u1)), .second, .val (.double (FP.l2d u2)), .second, .val (.double (FP.l2d u3)), .second, .val (.double (FP.l2d u4)), .second, .val (.int ((u0 &&& (1073741823 : Int32)) &&& (3 : Int32))), .val (.double (FP.l2d u2)), .second, .val (.double (FP.l2d u3)), .second, .val (.double (FP.l2d u4)), .second, .val (.double (FP.l2d u1)), .second, .unset, .unset] [(.double (FP.l2d u4)), (.double (FP.dadd (FP.l2d u2) (FP.l2d u3)))])) _
    refine XS.dload X0.here hx rfl (hb hby at_127) rfl ?_
    show Steps p.tables e below (s₁.setTop (mkF m 129 #[.val (.int u0), .val (.long u1), .second, .val (.long u2), .second, .val (.long u3), .second, .val (.long u4), .second, .val (.int (u0 &&& (1073741823 : Int32))), .val (.double (FP.l2d u1)), .second, .val (.double (FP.l2d u2)), .second, .val (.double (FP.l2d u3)), .second, .val (.double (FP.l2d u4)), .second, .val (.int ((u0 &&& (1073741823 : Int32)) &&& (3 : Int32))), .val (.double (FP.l2d u2)), .second, .val (.double (FP.l2d u3)), .second, .val (.double (FP.l2d u4)), .second, .val (.double (FP.l2d u1)), .second, .unset, .unset] [(.double (FP.l2d u1)), (.double (FP.l2d u4)), (.double (FP.dadd (FP.l2d u2) (FP.l2d u3)))])) _
    refine XS.daddS X0.here hx rfl (hb hby at_129) rfl hn129 (v := (FP.dadd (FP.l2d u4) (FP.l2d u1))) rfl ?_
    show Steps p.tables e below (s₁.setTop (mkF m 130 #[.val (.int u0), .val (.long u1), .second, .val (.long u2), .second, .val (.long u3), .second, .val (.long u4), .second, .val (.int (u0 &&& (1073741823 : Int32))), .val (.double (FP.l2d u1)), .second, .val (.double (FP.l2d u2)), .second, .val (.double (FP.l2d u3)), .second, .val (.double (FP.l2d u4)), .second, .val (.int ((u0 &&& (1073741823 : Int32)) &&& (3 : Int32))), .val (.double (FP.l2d u2)), .second, .val (.double (FP.l2d u3)), .second, .val (.double (FP.l2d u4)), .second, .val (.double (FP.l2d u1)), .second, .unset, .unset] [(.double (FP.dadd (FP.l2d u4) (FP.l2d u1))), (.double (FP.dadd (FP.l2d u2) (FP.l2d u3)))])) _
    refine XS.daddS X0.here hx rfl (hb hby at_130) rfl hn130 (v := (FP.dadd (FP.dadd (FP.l2d u2) (FP.l2d u3)) (FP.dadd (FP.l2d u4) (FP.l2d u1)))) rfl ?_
    show Steps p.tables e below (s₁.setTop (mkF m 131 #[.val (.int u0), .val (.long u1), .second, .val (.long u2), .second, .val (.long u3), .second, .val (.long u4), .second, .val (.int (u0 &&& (1073741823 : Int32))), .val (.double (FP.l2d u1)), .second, .val (.double (FP.l2d u2)), .second, .val (.double (FP.l2d u3)), .second, .val (.double (FP.l2d u4)), .second, .val (.int ((u0 &&& (1073741823 : Int32)) &&& (3 : Int32))), .val (.double (FP.l2d u2)), .second, .val (.double (FP.l2d u3)), .second, .val (.double (FP.l2d u4)), .second, .val (.double (FP.l2d u1)), .second, .unset, .unset] [(.double (FP.dadd (FP.dadd (FP.l2d u2) (FP.l2d u3)) (FP.dadd (FP.l2d u4) (FP.l2d u1))))])) _
    refine XS.dstore X0.here hx rfl (hb hby at_131) rfl (l' := #[.val (.int u0), .val (.long u1), .second, .val (.long u2), .second, .val (.long u3), .second, .val (.long u4), .second, .val (.int (u0 &&& (1073741823 : Int32))), .val (.double (FP.l2d u1)), .second, .val (.double (FP.l2d u2)), .second, .val (.double (FP.l2d u3)), .second, .val (.double (FP.l2d u4)), .second, .val (.int ((u0 &&& (1073741823 : Int32)) &&& (3 : Int32))), .val (.double (FP.l2d u2)), .second, .val (.double (FP.l2d u3)), .second, .val (.double (FP.l2d u4)), .second, .val (.double (FP.l2d u1)), .second, .val (.double (FP.dadd (FP.dadd (FP.l2d u2) (FP.l2d u3)) (FP.dadd (FP.l2d u4) (FP.l2d u1)))), .second]) rfl ?_
    show Steps p.tables e below (s₁.setTop (mkF m 133 #[.val (.int u0), .val (.long u1), .second, .val (.long u2), .second, .val (.long u3), .second, .val (.long u4), .second, .val (.int (u0 &&& (1073741823 : Int32))), .val (.double (FP.l2d u1)), .second, .val (.double (FP.l2d u2)), .second, .val (.double (FP.l2d u3)), .second, .val (.double (FP.l2d u4)), .second, .val (.int ((u0 &&& (1073741823 : Int32)) &&& (3 : Int32))), .val (.double (FP.l2d u2)), .second, .val (.double (FP.l2d u3)), .second, .val (.double (FP.l2d u4)), .second, .val (.double (FP.l2d u1)), .second, .val (.double (FP.dadd (FP.dadd (FP.l2d u2) (FP.l2d u3)) (FP.dadd (FP.l2d u4) (FP.l2d u1)))), .second] [])) _
    refine XS.iload X0.here hx rfl (hb hby at_133) rfl ?_
    show Steps p.tables e below (s₁.setTop (mkF m 135 #[.val (.int u0), .val (.long u1), .second, .val (.long u2), .second, .val (.long u3), .second, .val (.long u4), .second, .val (.int (u0 &&& (1073741823 : Int32))), .val (.double (FP.l2d u1)), .second, .val (.double (FP.l2d u2)), .second, .val (.double (FP.l2d u3)), .second, .val (.double (FP.l2d u4)), .second, .val (.int ((u0 &&& (1073741823 : Int32)) &&& (3 : Int32))), .val (.double (FP.l2d u2)), .second, .val (.double (FP.l2d u3)), .second, .val (.double (FP.l2d u4)), .second, .val (.double (FP.l2d u1)), .second, .val (.double (FP.dadd (FP.dadd (FP.l2d u2) (FP.l2d u3)) (FP.dadd (FP.l2d u4) (FP.l2d u1)))), .second] [(.int (u0 &&& (1073741823 : Int32)))])) _
    refine XS.dload X0.here hx rfl (hb hby at_135) rfl ?_
    show Steps p.tables e below (s₁.setTop (mkF m 137 #[.val (.int u0), .val (.long u1), .second, .val (.long u2), .second, .val (.long u3), .second, .val (.long u4), .second, .val (.int (u0 &&& (1073741823 : Int32))), .val (.double (FP.l2d u1)), .second, .val (.double (FP.l2d u2)), .second, .val (.double (FP.l2d u3)), .second, .val (.double (FP.l2d u4)), .second, .val (.int ((u0 &&& (1073741823 : Int32)) &&& (3 : Int32))), .val (.double (FP.l2d u2)), .second, .val (.double (FP.l2d u3)), .second, .val (.double (FP.l2d u4)), .second, .val (.double (FP.l2d u1)), .second, .val (.double (FP.dadd (FP.dadd (FP.l2d u2) (FP.l2d u3)) (FP.dadd (FP.l2d u4) (FP.l2d u1)))), .second] [(.double (FP.l2d u1)), (.int (u0 &&& (1073741823 : Int32)))])) _
    refine XS.dload X0.here hx rfl (hb hby at_137) rfl ?_
    show Steps p.tables e below (s₁.setTop (mkF m 139 #[.val (.int u0), .val (.long u1), .second, .val (.long u2), .second, .val (.long u3), .second, .val (.long u4), .second, .val (.int (u0 &&& (1073741823 : Int32))), .val (.double (FP.l2d u1)), .second, .val (.double (FP.l2d u2)), .second, .val (.double (FP.l2d u3)), .second, .val (.double (FP.l2d u4)), .second, .val (.int ((u0 &&& (1073741823 : Int32)) &&& (3 : Int32))), .val (.double (FP.l2d u2)), .second, .val (.double (FP.l2d u3)), .second, .val (.double (FP.l2d u4)), .second, .val (.double (FP.l2d u1)), .second, .val (.double (FP.dadd (FP.dadd (FP.l2d u2) (FP.l2d u3)) (FP.dadd (FP.l2d u4) (FP.l2d u1)))), .second] [(.double (FP.l2d u2)), (.double (FP.l2d u1)), (.int (u0 &&& (1073741823 : Int32)))])) _
    refine XS.dload X0.here hx rfl (hb hby at_139) rfl ?_
    show Steps p.tables e below (s₁.setTop (mkF m 141 #[.val (.int u0), .val (.long u1), .second, .val (.long u2), .second, .val (.long u3), .second, .val (.long u4), .second, .val (.int (u0 &&& (1073741823 : Int32))), .val (.double (FP.l2d u1)), .second, .val (.double (FP.l2d u2)), .second, .val (.double (FP.l2d u3)), .second, .val (.double (FP.l2d u4)), .second, .val (.int ((u0 &&& (1073741823 : Int32)) &&& (3 : Int32))), .val (.double (FP.l2d u2)), .second, .val (.double (FP.l2d u3)), .second, .val (.double (FP.l2d u4)), .second, .val (.double (FP.l2d u1)), .second, .val (.double (FP.dadd (FP.dadd (FP.l2d u2) (FP.l2d u3)) (FP.dadd (FP.l2d u4) (FP.l2d u1)))), .second] [(.double (FP.l2d u3)), (.double (FP.l2d u2)), (.double (FP.l2d u1)), (.int (u0 &&& (1073741823 : Int32)))])) _
    refine XS.dload X0.here hx rfl (hb hby at_141) rfl ?_
    show Steps p.tables e below (s₁.setTop (mkF m 143 #[.val (.int u0), .val (.long u1), .second, .val (.long u2), .second, .val (.long u3), .second, .val (.long u4), .second, .val (.int (u0 &&& (1073741823 : Int32))), .val (.double (FP.l2d u1)), .second, .val (.double (FP.l2d u2)), .second, .val (.double (FP.l2d u3)), .second, .val (.double (FP.l2d u4)), .second, .val (.int ((u0 &&& (1073741823 : Int32)) &&& (3 : Int32))), .val (.double (FP.l2d u2)), .second, .val (.double (FP.l2d u3)), .second, .val (.double (FP.l2d u4)), .second, .val (.double (FP.l2d u1)), .second, .val (.double (FP.dadd (FP.dadd (FP.l2d u2) (FP.l2d u3)) (FP.dadd (FP.l2d u4) (FP.l2d u1)))), .second] [(.double (FP.l2d u4)), (.double (FP.l2d u3)), (.double (FP.l2d u2)), (.double (FP.l2d u1)), (.int (u0 &&& (1073741823 : Int32)))])) _
    refine st1 _ ?_
    show Steps p.tables e below (T1.setTop (mkF m 146 #[.val (.int u0), .val (.long u1), .second, .val (.long u2), .second, .val (.long u3), .second, .val (.long u4), .second, .val (.int (u0 &&& (1073741823 : Int32))), .val (.double (FP.l2d u1)), .second, .val (.double (FP.l2d u2)), .second, .val (.double (FP.l2d u3)), .second, .val (.double (FP.l2d u4)), .second, .val (.int ((u0 &&& (1073741823 : Int32)) &&& (3 : Int32))), .val (.double (FP.l2d u2)), .second, .val (.double (FP.l2d u3)), .second, .val (.double (FP.l2d u4)), .second, .val (.double (FP.l2d u1)), .second, .val (.double (FP.dadd (FP.dadd (FP.l2d u2) (FP.l2d u3)) (FP.dadd (FP.l2d u4) (FP.l2d u1)))), .second] [(.double (FP.dadd (FP.dadd (FP.l2d u2) (FP.l2d u3)) (FP.dadd (FP.l2d u4) (FP.l2d u1))))])) _
    refine XS.dload X1.here hx rfl (hb hby at_146) rfl ?_
    show Steps p.tables e below (T1.setTop (mkF m 148 #[.val (.int u0), .val (.long u1), .second, .val (.long u2), .second, .val (.long u3), .second, .val (.long u4), .second, .val (.int (u0 &&& (1073741823 : Int32))), .val (.double (FP.l2d u1)), .second, .val (.double (FP.l2d u2)), .second, .val (.double (FP.l2d u3)), .second, .val (.double (FP.l2d u4)), .second, .val (.int ((u0 &&& (1073741823 : Int32)) &&& (3 : Int32))), .val (.double (FP.l2d u2)), .second, .val (.double (FP.l2d u3)), .second, .val (.double (FP.l2d u4)), .second, .val (.double (FP.l2d u1)), .second, .val (.double (FP.dadd (FP.dadd (FP.l2d u2) (FP.l2d u3)) (FP.dadd (FP.l2d u4) (FP.l2d u1)))), .second] [(.double (FP.dadd (FP.dadd (FP.l2d u2) (FP.l2d u3)) (FP.dadd (FP.l2d u4) (FP.l2d u1)))), (.double (FP.dadd (FP.dadd (FP.l2d u2) (FP.l2d u3)) (FP.dadd (FP.l2d u4) (FP.l2d u1))))])) _
    refine XS.dcmpS X1.here hx rfl (hb hby at_148) rfl (v := (0 : Int32)) (dcmpV_self hn130 .l) ?_
    show Steps p.tables e below (T1.setTop (mkF m 149 #[.val (.int u0), .val (.long u1), .second, .val (.long u2), .second, .val (.long u3), .second, .val (.long u4), .second, .val (.int (u0 &&& (1073741823 : Int32))), .val (.double (FP.l2d u1)), .second, .val (.double (FP.l2d u2)), .second, .val (.double (FP.l2d u3)), .second, .val (.double (FP.l2d u4)), .second, .val (.int ((u0 &&& (1073741823 : Int32)) &&& (3 : Int32))), .val (.double (FP.l2d u2)), .second, .val (.double (FP.l2d u3)), .second, .val (.double (FP.l2d u4)), .second, .val (.double (FP.l2d u1)), .second, .val (.double (FP.dadd (FP.dadd (FP.l2d u2) (FP.l2d u3)) (FP.dadd (FP.l2d u4) (FP.l2d u1)))), .second] [(.int (0 : Int32))])) _
    refine XS.ifNo X1.here hx rfl (hb hby at_149) rfl ((if0 _ _).trans (teq (rfl : (0 : Int32) = (0 : Int32))).2) ?_
    show Steps p.tables e below (T1.setTop (mkF m 152 #[.val (.int u0), .val (.long u1), .second, .val (.long u2), .second, .val (.long u3), .second, .val (.long u4), .second, .val (.int (u0 &&& (1073741823 : Int32))), .val (.double (FP.l2d u1)), .second, .val (.double (FP.l2d u2)), .second, .val (.double (FP.l2d u3)), .second, .val (.double (FP.l2d u4)), .second, .val (.int ((u0 &&& (1073741823 : Int32)) &&& (3 : Int32))), .val (.double (FP.l2d u2)), .second, .val (.double (FP.l2d u3)), .second, .val (.double (FP.l2d u4)), .second, .val (.double (FP.l2d u1)), .second, .val (.double (FP.dadd (FP.dadd (FP.l2d u2) (FP.l2d u3)) (FP.dadd (FP.l2d u4) (FP.l2d u1)))), .second] [])) _
    refine XS.iconst X1.here hx rfl (hb hby at_152) ?_
    show Steps p.tables e below (T1.setTop (mkF m 153 #[.val (.int u0), .val (.long u1), .second, .val (.long u2), .second, .val (.long u3), .second, .val (.long u4), .second, .val (.int (u0 &&& (1073741823 : Int32))), .val (.double (FP.l2d u1)), .second, .val (.double (FP.l2d u2)), .second, .val (.double (FP.l2d u3)), .second, .val (.double (FP.l2d u4)), .second, .val (.int ((u0 &&& (1073741823 : Int32)) &&& (3 : Int32))), .val (.double (FP.l2d u2)), .second, .val (.double (FP.l2d u3)), .second, .val (.double (FP.l2d u4)), .second, .val (.double (FP.l2d u1)), .second, .val (.double (FP.dadd (FP.dadd (FP.l2d u2) (FP.l2d u3)) (FP.dadd (FP.l2d u4) (FP.l2d u1)))), .second] [(.int (1 : Int32))])) _
    refine XS.goto X1.here hx rfl (pc0 := 153) (pc' := 157) rfl (hb hby at_153) (by decide) (by decide) ?_
    show Steps p.tables e below (T1.setTop (mkF m 157 #[.val (.int u0), .val (.long u1), .second, .val (.long u2), .second, .val (.long u3), .second, .val (.long u4), .second, .val (.int (u0 &&& (1073741823 : Int32))), .val (.double (FP.l2d u1)), .second, .val (.double (FP.l2d u2)), .second, .val (.double (FP.l2d u3)), .second, .val (.double (FP.l2d u4)), .second, .val (.int ((u0 &&& (1073741823 : Int32)) &&& (3 : Int32))), .val (.double (FP.l2d u2)), .second, .val (.double (FP.l2d u3)), .second, .val (.double (FP.l2d u4)), .second, .val (.double (FP.l2d u1)), .second, .val (.double (FP.dadd (FP.dadd (FP.l2d u2) (FP.l2d u3)) (FP.dadd (FP.l2d u4) (FP.l2d u1)))), .second] [(.int (1 : Int32))])) _
    exact retN X1 hx (t := .boolean) Bd.returns (by simp) (hb hby at_157) hr
  · show Q0 n0 _ T1.heap _
    exact ⟨rfl, Fr.app N0 N1q⟩
theorem rm0 (l : Launch) (Z : State) (a0 : Array Value) (hw : ∀ d ∈ tables_1, d.before a0 Z = true) (ws : List Jvm.Cond) (u0 : Int32) (u1 u2 u3 u4 : Int64) (h0 : Heap) (n0 : Nat) (Z0 : n0 ≤ h0.size) :
    MetFree l x (head1 (Jvm.Cond.code x code maxLocals ret :: ws) room_1) (fun aa U => aa = #[(.int u0), (.long u1), (.long u2), (.long u3), (.long u4)] ∧ Z.Warmed39 U.vm ∧ U.heap = h0) (fun _ _ _ _ _ => True) (fun _ U o U' => ∃ v L, o = .returned v ∧ Q0 n0 v U'.heap L ∧ FrameEnd U o U' L 16 128) := by
  have hr := own_rng u0
  have hl := own_low (u0 &&& (1073741823 : Int32))
  by_cases n0' : (u0 &&& (1073741823 : Int32)) &&& 3 = 0
  · have hk : ((u0 &&& (1073741823 : Int32))).toInt % 4 = 0 := by rw [← hl, n0']; rfl
    exact rm0_0 l Z a0 hw ws u0 u1 u2 u3 u4 h0 n0 Z0 (own_idx0 _ _ 0 hr hk (by decide)) (own_idx _ 1 _ 0 hr hk (by decide) (by decide)) (own_idx _ 2 _ 0 hr hk (by decide) (by decide)) (own_idx _ 3 _ 0 hr hk (by decide) (by decide)) n0' (own_nA u1 u2) (own_nA u3 u4) (own_nC u1 u2 u3 u4)
  by_cases n1 : (u0 &&& (1073741823 : Int32)) &&& 3 = 1
  · have hk : ((u0 &&& (1073741823 : Int32))).toInt % 4 = 1 := by rw [← hl, n1]; rfl
    exact rm0_1 l Z a0 hw ws u0 u1 u2 u3 u4 h0 n0 Z0 (own_idx0 _ _ 1 hr hk (by decide)) (own_idx _ 1 _ 1 hr hk (by decide) (by decide)) (own_idx _ 2 _ 1 hr hk (by decide) (by decide)) (own_idx _ 3 _ 1 hr hk (by decide) (by decide)) n0' n1 (own_nA u4 u1) (own_nA u2 u3) (own_nC u4 u1 u2 u3)
  by_cases n2 : (u0 &&& (1073741823 : Int32)) &&& 3 = 2
  · have hk : ((u0 &&& (1073741823 : Int32))).toInt % 4 = 2 := by rw [← hl, n2]; rfl
    exact rm0_2 l Z a0 hw ws u0 u1 u2 u3 u4 h0 n0 Z0 (own_idx0 _ _ 2 hr hk (by decide)) (own_idx _ 1 _ 2 hr hk (by decide) (by decide)) (own_idx _ 2 _ 2 hr hk (by decide) (by decide)) (own_idx _ 3 _ 2 hr hk (by decide) (by decide)) n0' n1 n2 (own_nA u3 u4) (own_nA u1 u2) (own_nC u3 u4 u1 u2)
  have hk : ((u0 &&& (1073741823 : Int32))).toInt % 4 = 3 := by
    have k0 : ((u0 &&& (1073741823 : Int32)) &&& 3).toInt ≠ 0 := fun q => n0' (Int32.toInt_inj.mp (by rw [q]; rfl))
    have k1 : ((u0 &&& (1073741823 : Int32)) &&& 3).toInt ≠ 1 := fun q => n1 (Int32.toInt_inj.mp (by rw [q]; rfl))
    have k2 : ((u0 &&& (1073741823 : Int32)) &&& 3).toInt ≠ 2 := fun q => n2 (Int32.toInt_inj.mp (by rw [q]; rfl))
    omega
  exact rm0_3 l Z a0 hw ws u0 u1 u2 u3 u4 h0 n0 Z0 (own_idx0 _ _ 3 hr hk (by decide)) (own_idx _ 1 _ 3 hr hk (by decide) (by decide)) (own_idx _ 2 _ 3 hr hk (by decide) (by decide)) (own_idx _ 3 _ 3 hr hk (by decide) (by decide)) n0' n1 n2 (own_nA u2 u3) (own_nA u4 u1) (own_nC u2 u3 u4 u1)
set_option maxRecDepth 65536 in
set_option maxHeartbeats 40000000 in
theorem comes_1 {Post : Tables → Env → Array Value → State → Outcome → State → Prop} (hpost : ∀ tb e args s v u, (limb_1_1.after args s (.returned v) u = true ∧ limb_1_2.after args s (.returned v) u = true ∧ True) → FrameEnd s (.returned v) u (Jvm.fieldLocs frame_1_writes args s ++ Jvm.arrayLocs frame_1_arrays args s ++ Jvm.staticLocs frame_1_statics s) 16 128 → Post tb e args s (.returned v) u) :
    ArmFor flags0 classFile x code maxLocals ret World_1 tables_1 room_1 Calls_1 rest_1 Pre_1 Post := by
  intro l hfl _ _ p e ha hc hk s m args below hf hA hF happ hP
  obtain ⟨hcalls, hrest, hpre⟩ := hP
  obtain ⟨-, -, -, hnamed, -, -, -, hat⟩ := (Spec.applies_iff hf).mp happ
  obtain ⟨hg, hn⟩ := and_e (Cond.before_iff.mp (show (Jvm.Cond.and given_1 narrow_1).before args s = true from hpre))
  obtain ⟨g0, gg0⟩ := and_e hg
  obtain ⟨g1, gg1⟩ := and_e gg0
  obtain ⟨g2, gg2⟩ := and_e gg1
  obtain ⟨g3, gg3⟩ := and_e gg2
  obtain ⟨g4, gg4⟩ := and_e gg3
  obtain ⟨w0, w1, w2, w3, w4, rfl⟩ : ∃ w0 w1 w2 w3 w4 : Value, args = #[w0, w1, w2, w3, w4] := by
    have hs : args.size = 5 := by simpa [Cond.value, given_1] using g0
    obtain ⟨L⟩ := args
    match L, hs with
    | [w0, w1, w2, w3, w4], _ => exact ⟨w0, w1, w2, w3, w4, rfl⟩
  have hw := fun d (hd : d ∈ tables_1) => atoms_spec (ws := Jvm.Cond.code x code maxLocals ret :: tables_1) hat d (List.mem_cons_of_mem _ hd)
  obtain ⟨i0, ei0⟩ := is_v g1
  obtain rfl : w0 = (.int i0) := Option.some.inj ei0
  obtain ⟨i1, ei1⟩ := isL_v g2
  obtain rfl : w1 = (.long i1) := Option.some.inj ei1
  obtain ⟨i2, ei2⟩ := isL_v g3
  obtain rfl : w2 = (.long i2) := Option.some.inj ei2
  obtain ⟨i3, ei3⟩ := isL_v g4
  obtain rfl : w3 = (.long i3) := Option.some.inj ei3
  obtain ⟨i4, ei4⟩ := isL_v gg4
  obtain rfl : w4 = (.long i4) := Option.some.inj ei4
  obtain ⟨n, o, h1, h2, h3, _, L, rfl, ⟨rfl, N⟩, hq⟩ := rm0 l s _ hw tables_1 i0 i1 i2 i3 i4 s.heap s.heap.size (Nat.le_refl _) p e ha hc hk s m _ below hf ((Spec.applies_iff_loose hf).mp happ).1 ⟨rfl, State.Warmed39.refl s, rfl⟩ trivial
  refine ⟨n, _, h1, h2, h3, hpost _ _ _ _ _ _ ⟨Cond.after_iff.mpr rfl, Cond.after_iff.mpr (eq_i res_at (Term.int_eval (1)) rfl), trivial⟩ ⟨hq.1, hq.2.1, (hq.2.2.sift fun y hy => Or.inr (N y hy)).mono (by decide) (by decide)⟩⟩
theorem main_1_1 : Claimed_1_1 := comes_1 fun _ _ _ _ _ _ h hF => ⟨h.1, hF⟩
theorem main_1_2 : Claimed_1_2 := comes_1 fun _ _ _ _ _ _ h hF => ⟨h.2.1, hF⟩
end Jvm.Pilot.@@N@@
namespace Jvm.Pilot.@@N@@
open Jvm Jvm.ClassFile Sem Op Lib Jvm.Free Jvm.Stand Jvm.Pilot.@@N@@.Jvm.D
/-! MADE BY PROGRAM (witnessworld.py) out of the Statement's table words and the real class files: 11 classes; the members and pool entries that the words name. The judged class is class 1, her method 1. -/
namespace start1
open Jvm.ClassFile
def u (s : String) : CpInfo := .utf8 (stringToUtf16 s)
/-- a pool by its gaps: so many unusable entries, then the entry; so many at the end -/
def gap : Nat → List CpInfo → List CpInfo
  | 0, r => r
  | n + 1, r => .unusable :: gap n r
def poolList (es : List (Nat × CpInfo)) (last : Nat) : List CpInfo := es.foldr (fun e r => gap e.1 (e.2 :: r)) (gap last [])
def pool (es : List (Nat × CpInfo)) (last : Nat) : Array CpInfo := ⟨poolList es last⟩
def fileOf (pool : Array CpInfo) (this : Nat) (attrs : Array Attribute := #[]) (ms : Array MethodInfo := #[]) (fl : Nat := 33) (sup : Nat := 0) (ifs : Array Nat := #[]) (fds : Array FieldInfo := #[]) : ClassFile where
  minorVersion := 0
  majorVersion := 65
  constantPool := pool
  accessFlags := fl
  thisClass := this
  superClass := sup
  interfaces := ifs
  fields := fds
  methods := ms
  attributes := attrs
def plain (name : String) (sup : Option ClassId) : Class where
  name := name
  kind := .ordinary
  loader := none
  accessFlags := 33
  super := sup
  interfaces := #[]
  cf := none
  fields := #[]
  methods := #[]
  instanceTypes := #[]
  staticTypes := #[]
  resolved := #[]
  callSites := []
  init := .initialized
  statics := none
  mirror := none

def pool0 : Array CpInfo := pool [(5, u "<init>"), (0, u "()V"), (1, .class_ 10), (1, u "java/lang/Object")] 113

def k0m0 : Method := { name := "<init>", desc := "()V", sig := { parameters := [], returnType := none }, accessFlags := 1, code := none }
/-- java/lang/Object -/
def k0 : Class := { plain "java/lang/Object" none with
  accessFlags := 33
  interfaces := #[]
  cf := some (fileOf pool0 8 #[] #[{ accessFlags := 1, nameIndex := 5, descriptorIndex := 6, attributes := #[] }] 33 0 #[] #[])
  fields := #[]
  methods := #[k0m0]
  instanceTypes := #[]
  staticTypes := #[]
  resolved := Array.replicate 124 none
  statics := none }

def pool1 : Array CpInfo := pool [(2, .class_ 4), (1, u "java/lang/Object"), (0, u "<init>"), (0, u "()V"), (0, .integer 1073741823), (0, .methodref 9 10), (0, .class_ 11), (0, .nameAndType 12 13), (0, u "com/example/rowfold/rowfold/CodeArray"), (0, u "addLanes"), (0, u "(IDDDD)D"), (0, .class_ 15), (0, u "com/example/rowfold/rowfold/CodeArrayAddLanesPinLaw"), (2, u "law"), (0, u "(IJJJJ)Z")] 3

def k1m0 : Method := { name := "<init>", desc := "()V", sig := { parameters := [], returnType := none }, accessFlags := 1, code := none }
def k1c1 : Code := { maxStack := 9, maxLocals := 29, code := code, exceptionTable := #[], attributes := #[] }
def k1m1 : Method := { name := "law", desc := "(IJJJJ)Z", sig := { parameters := [.int, .long, .long, .long, .long], returnType := some .boolean }, accessFlags := 9, code := some k1c1 }
/-- com/example/rowfold/rowfold/CodeArrayAddLanesPinLaw -/
def k1 : Class := { plain "com/example/rowfold/rowfold/CodeArrayAddLanesPinLaw" (some 0) with
  accessFlags := 49
  interfaces := #[]
  cf := some (fileOf pool1 14 #[] #[{ accessFlags := 1, nameIndex := 5, descriptorIndex := 6, attributes := #[] }, { accessFlags := 9, nameIndex := 18, descriptorIndex := 19, attributes := #[] }] 49 2 #[] #[])
  fields := #[]
  methods := #[k1m0, k1m1]
  instanceTypes := #[]
  staticTypes := #[]
  resolved := Array.replicate 23 none
  statics := none }

def pool2 : Array CpInfo := pool [(2, .class_ 4), (1, u "java/lang/Object"), (0, u "<init>"), (0, u "()V"), (8, .class_ 17), (1, u "com/example/rowfold/rowfold/CodeArray"), (15, .class_ 34), (0, u "com/example/rowfold/rowfold/CodeArray$Packed"), (7, .class_ 43), (0, u "com/example/rowfold/rowfold/CodeArray$Bytes"), (3, .class_ 48), (0, u "com/example/rowfold/rowfold/CodeArray$Shorts"), (3, .class_ 53), (0, u "com/example/rowfold/rowfold/CodeArray$Ints"), (50, u "LANES"), (0, u "I"), (13, u "addLanes"), (0, u "(IDDDD)D"), (23, .class_ 145), (0, u "com/example/rowfold/rowfold/CodeArray$Packed$Reader")] 28

def k2m0 : Method := { name := "<init>", desc := "()V", sig := { parameters := [], returnType := none }, accessFlags := 0, code := none }
def k2c1 : Code := { maxStack := 6, maxLocals := 10, code := prog_8_method_16_code, exceptionTable := #[], attributes := #[] }
def k2m1 : Method := { name := "addLanes", desc := "(IDDDD)D", sig := { parameters := [.int, .double, .double, .double, .double], returnType := some .double }, accessFlags := 8, code := some k2c1 }
/-- com/example/rowfold/rowfold/CodeArray -/
def k2 : Class := { plain "com/example/rowfold/rowfold/CodeArray" (some 0) with
  accessFlags := 1056
  interfaces := #[]
  cf := some (fileOf pool2 15 #[.nestMembers #[52, 47, 42, 33, 144]] #[{ accessFlags := 0, nameIndex := 5, descriptorIndex := 6, attributes := #[] }, { accessFlags := 8, nameIndex := 119, descriptorIndex := 120, attributes := #[] }] 1056 2 #[] #[{ accessFlags := 24, nameIndex := 104, descriptorIndex := 105, attributes := #[] }])
  fields := #[{ name := "LANES", type := .int, accessFlags := 24, slot := 0, constantValue := 0 }]
  methods := #[k2m0, k2m1]
  instanceTypes := #[]
  staticTypes := #[.int]
  resolved := Array.replicate 174 none
  statics := none }

def pool3 : Array CpInfo := pool [(1, u "java/lang/Cloneable"), (0, .class_ 1), (0, u "java/lang/Object"), (0, .class_ 3)] 3

/-- java/lang/Cloneable -/
def k3 : Class := { plain "java/lang/Cloneable" (some 0) with
  accessFlags := 1537
  interfaces := #[]
  cf := some (fileOf pool3 2 #[] #[] 1537 4 #[] #[])
  fields := #[]
  methods := #[]
  instanceTypes := #[]
  staticTypes := #[]
  resolved := Array.replicate 8 none
  statics := none }

def pool4 : Array CpInfo := pool [(1, u "java/io/Serializable"), (0, .class_ 1), (0, u "java/lang/Object"), (0, .class_ 3)] 3

/-- java/io/Serializable -/
def k4 : Class := { plain "java/io/Serializable" (some 0) with
  accessFlags := 1537
  interfaces := #[]
  cf := some (fileOf pool4 2 #[] #[] 1537 4 #[] #[])
  fields := #[]
  methods := #[]
  instanceTypes := #[]
  staticTypes := #[]
  resolved := Array.replicate 8 none
  statics := none }

/-- the primitive byte -/
def k5 : Class := { plain "byte" none with kind := .primitive 'B', accessFlags := 0x411 }
/-- [B -/
def k6 : Class := { plain "[B" (some 0) with kind := .array 5 .byte, interfaces := #[3, 4], accessFlags := 1041 }

/-- the primitive double -/
def k7 : Class := { plain "double" none with kind := .primitive 'D', accessFlags := 0x411 }
/-- [D -/
def k8 : Class := { plain "[D" (some 0) with kind := .array 7 .double, interfaces := #[3, 4], accessFlags := 1041 }

/-- the primitive int -/
def k9 : Class := { plain "int" none with kind := .primitive 'I', accessFlags := 0x411 }
/-- [I -/
def k10 : Class := { plain "[I" (some 0) with kind := .array 9 .int, interfaces := #[3, 4], accessFlags := 1041 }

def heap : Heap := #[]
def classes : Array Class := #[k0, k1, k2, k3, k4, k5, k6, k7, k8, k9, k10]
def interned : List (Array UInt16 × Addr) := []
def slotsUsed : Nat := 0
def theMethod : MethodId := ⟨1, 1⟩
def args0 : Array Value := #[.int 5, .long 7, .long 11, .long 13, .long 17]
def aboutOver (below : List Frame) : State where
  vm := { classes := classes, interned := interned.toArray }
  heap := heap
  slotsUsed := slotsUsed
  threads := #[{ frames := .invoking theMethod args0 :: below }]
def below0 : List Frame := [.native { method := ⟨0, 0⟩, args := #[] }]
def about1 : State := aboutOver below0
def p0 : Program := .bare "" "" ""
def e0 : Env := launch0.env 0 0 0
theorem w_frames : about1.frames = Frame.invoking theMethod args0 :: below0 := rfl
set_option maxRecDepth 65536 in
theorem w_args : argsFit about1.vm theMethod args0 = true := by decide +kernel
set_option maxRecDepth 65536 in
theorem w_heap : heapFits about1 = true := by decide +kernel
set_option maxRecDepth 65536 in
theorem w_runnable : about1.curStatus? = some .runnable := by decide +kernel
set_option maxRecDepth 65536 in
theorem w_alone : about1.alone = true := by decide +kernel
set_option maxRecDepth 65536 in
theorem w_named : about1.methodNamed? x = some theMethod := by decide +kernel
set_option maxRecDepth 65536 in
theorem w_hears : about1.hears theMethod below0 = true := by decide +kernel
set_option maxRecDepth 65536 in
theorem w_ripe : about1.ripe theMethod args0 below0 = true := by decide +kernel
theorem w_running : about1.status = .running := rfl
set_option maxRecDepth 65536 in
theorem w_room : about1.hasRoom e0.platform room_1 = true :=
  launch0.hasRoom_least _ room_1 (by decide +kernel) (by decide +kernel) (by decide +kernel) (by decide +kernel) (by decide +kernel) (by decide +kernel)
theorem allAtoms_all (ts : List Jvm.Cond) (a : Array Jvm.Value) (st : Jvm.State) : (allAtoms ts).before a st = ts.all (fun c => c.before a st) := by
  induction ts with
  | nil => rfl
  | cons c t ih =>
    show (Jvm.Cond.and c (allAtoms t)).before a st = _
    rw [Jvm.Cond.before_and, ih, List.all_cons]
def words1 : List Jvm.Cond := Jvm.Cond.code x code maxLocals ret :: tables_1
/-- a 'code' word, met by the world's own term for the bytes: nothing is compared byte by byte -/
theorem code_word {y : MethodName} {bytes : ByteArray} {mx : Nat} {rt : Option FieldType} {a : Array Value} {s : State} {m : MethodId} {meth : Method} {c : Code} (h1 : s.methodNamed? y = some m) (h2 : s.vm.method? m = some meth) (h3 : meth.code = some c) (h4 : c.code = bytes)
    (h5 : (c.maxLocals == mx && c.exceptionTable.isEmpty && decide (c.maxStack ≤ mostOperands) && decide (meth.sig.returnType = rt) && !meth.locks && decide (parseMethodDescriptor y.desc = some meth.sig)) = true) : (Jvm.Cond.code y bytes mx rt).before a s = true := by
  simp only [Bool.and_eq_true, beq_iff_eq, Bool.not_eq_true', decide_eq_true_eq] at h5
  obtain ⟨⟨⟨⟨⟨g1, g2⟩, g3⟩, g4⟩, g5⟩, g6⟩ := h5
  simp [Cond.before, Cond.holds, Cond.value, h1, h2, h3, h4, g1, g2, g3, g4, g5, g6]
def isCode : Jvm.Cond → Bool
  | .code _ _ _ _ => true
  | _ => false
theorem all_split {L : List Jvm.Cond} {P : Jvm.Cond → Bool} (h1 : L.all (fun c => isCode c || P c) = true) (h2 : ∀ c ∈ L.filter isCode, P c = true) : L.all P = true := by
  refine List.all_eq_true.mpr fun c hc => ?_
  have h := List.all_eq_true.mp h1 c hc
  rcases Bool.eq_false_or_eq_true (isCode c) with hi | hi
  · exact h2 c (List.mem_filter.mpr ⟨hc, hi⟩)
  · simpa [hi] using h
set_option maxRecDepth 65536 in
theorem w_c0 : (Jvm.Cond.code x code maxLocals ret).before args0 about1 = true := code_word (m := ⟨1, 1⟩) (meth := k1m1) (c := k1c1) (by decide +kernel) rfl rfl rfl (by decide +kernel)
set_option maxRecDepth 65536 in
theorem w_c1 : (Jvm.Cond.code ({ cls := "com/example/rowfold/rowfold/CodeArray", name := "addLanes", desc := "(IDDDD)D" } : Jvm.MethodName) prog_8_method_16_code (10 : Nat) (Option.some Jvm.ClassFile.FieldType.double)).before args0 about1 = true := code_word (m := ⟨2, 1⟩) (meth := k2m1) (c := k2c1) (by decide +kernel) rfl rfl rfl (by decide +kernel)
def codes1 : List Jvm.Cond := [Jvm.Cond.code x code maxLocals ret, Jvm.Cond.code ({ cls := "com/example/rowfold/rowfold/CodeArray", name := "addLanes", desc := "(IDDDD)D" } : Jvm.MethodName) prog_8_method_16_code (10 : Nat) (Option.some Jvm.ClassFile.FieldType.double)]
set_option maxRecDepth 65536 in
theorem codes_eq : words1.filter isCode = codes1 := rfl
theorem w_codes : ∀ c ∈ words1.filter isCode, c.before args0 about1 = true := by
  rw [codes_eq]
  intro c hc
  simp only [codes1, List.mem_cons, List.not_mem_nil, or_false] at hc
  rcases hc with rfl | rfl
  · exact w_c0
  · exact w_c1
set_option maxRecDepth 65536 in
theorem w_t1 : words1.all (fun c => isCode c || c.before args0 about1) = true := by decide +kernel
theorem w_tables : (allAtoms (Jvm.Cond.code x code maxLocals ret :: tables_1)).before args0 about1 = true := by
  rw [allAtoms_all]
  show words1.all (fun c => c.before args0 about1) = true
  refine all_split ?_ w_codes
  rw [w_t1]
set_option maxRecDepth 65536 in
theorem w_case : (Jvm.Cond.and given_1 narrow_1).before args0 about1 = true := by decide +kernel
theorem w_applies : (headSpec (Jvm.Cond.code x code maxLocals ret :: tables_1) room_1).applies x e0.platform about1 = true :=
  (Spec.applies_iff w_frames).mpr ⟨w_running, w_runnable, w_alone, w_named, w_hears, w_ripe, w_room, w_tables⟩
theorem atStart : AtStart classFile x code maxLocals ret World_1 tables_1 room_1 Calls_1 rest_1 Pre_1 launch0 p0 e0 about1 theMethod args0 below0 :=
  ⟨lists_1, trivial, launch0.admits_env _ _ _, launch0.least_env, fairChoices_fair.cas, fairChoices_fair.clock, w_frames, w_args, w_heap, w_applies, trivial, trivial, w_case⟩
end start1
theorem witness_1 : WitnessClaimed_1 := ⟨start1.p0, start1.e0, start1.about1, start1.theMethod, start1.args0, start1.below0, start1.atStart⟩
end Jvm.Pilot.@@N@@
