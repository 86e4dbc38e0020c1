import JvmDerived
import JvmDerived.Pilot.@@N@@Statement
import JvmDerived.Pilot.@@N@@Code
set_option linter.unusedVariables false
set_option linter.unusedSimpArgs false
namespace Jvm.Pilot.@@N@@.OwnFp
open Jvm.FP.Core
/-- a whole number's value in the format's least units -/
theorem zval_whole {i : Int} {d : Datum} (hf : Jvm.FP.Core.fits b64 d) (h : Whole i d) : zval b64 d = i * ((2 ^ 1074 : Nat) : Int) := by
  cases d with
  | nan => exact h.elim
  | inf s => exact h.elim
  | fin s c q =>
    have k := whole_units h (e := b64.qmin) hf.2.1
    have e1 : (b64.qmin).toNat = 0 := by rw [qmin_b64]; rfl
    have e2 : (-b64.qmin).toNat = 1074 := by rw [qmin_b64]; rfl
    rw [e1, e2, Nat.pow_zero, Int.natCast_one, Int.mul_one] at k
    exact k
end Jvm.Pilot.@@N@@.OwnFp
namespace Jvm.Pilot.@@N@@.OwnFp
open Jvm.FP.Core
theorem tol_val : val64 4472406533629990549 = .fin false 4835703278458517 (-82) := by decide +kernel
theorem tol_prod {cap : Int} {b : UInt64} (hb : DInt cap b) (h1 : 1 ≤ cap) :
    ∃ n e, val64 (Jvm.FP.dmul 4472406533629990549 b) = round b64 (.fin false n e) ∧ 2 * b64.qmin ≤ e ∧ (inUnits n e (2 * b64.qmin) : Int) = 4835703278458517 * ((2 ^ 992 : Nat) : Int) * (cap * ((2 ^ 1074 : Nat) : Int)) := by
  have hz := zval_whole (val64_fits b) hb
  have hfy := val64_fits b
  unfold DInt at hb
  rw [val64_dmul, tol_val]
  cases hv : val64 b with
  | nan => rw [hv] at hb; exact hb.elim
  | inf s => rw [hv] at hb; exact hb.elim
  | fin t d r =>
    rw [hv] at hb hz hfy
    have ht : t = false := by rw [whole_sign hb (by omega)]; exact decide_eq_false (by omega)
    subst ht
    have hfx : Jvm.FP.Core.fits b64 (.fin false 4835703278458517 (-82)) := by rw [← tol_val]; exact val64_fits _
    obtain ⟨k1, k2, k3⟩ := product_units hfx hfy
    refine ⟨_, _, congrArg (round b64) k1, k2, ?_⟩
    rw [k3]
    have e1 : zmag b64 (.fin false 4835703278458517 (-82)) = 4835703278458517 * 2 ^ 992 := by
      show inUnits _ _ _ = _
      unfold inUnits; rw [qmin_b64, show ((-82 : Int) - -1074).toNat = 992 by decide]
    have e2 : ((zmag b64 (.fin false d r) : Nat) : Int) = cap * ((2 ^ 1074 : Nat) : Int) := hz
    rw [Int.natCast_mul, e2, e1, Int.natCast_mul]
    rfl
theorem pw1 : ((2 ^ 1074 : Nat) : Int) = 4835703278458516698824704 * ((2 ^ 992 : Nat) : Int) := by
  rw [show 1074 = 82 + 992 from rfl, Nat.pow_add, Int.natCast_mul]; rfl
theorem pw2 : ((2 ^ 1034 : Nat) : Int) = 4398046511104 * ((2 ^ 992 : Nat) : Int) := by
  rw [show 1034 = 42 + 992 from rfl, Nat.pow_add, Int.natCast_mul]; rfl
theorem pw0 : (0 : Int) < ((2 ^ 992 : Nat) : Int) := by have := Nat.two_pow_pos 992; omega
theorem tol_ne {b : UInt64} {cap : Int} (hb : DInt cap b) (h1 : 1 ≤ cap) : val64 (Jvm.FP.dmul 4472406533629990549 b) ≠ .nan := by
  obtain ⟨n, e, k, -, -⟩ := tol_prod hb h1
  rw [k]; exact roundRatio_ne_nan _ _ _ _ _
/-- the rounded tolerance lies at or above the whole part -/
theorem tol_ge {cap q : Int} {b w : UInt64} (hb : DInt cap b) (hq : DInt q w) (h1 : 1 ≤ cap) (h0 : 0 ≤ q) (hle : q * 1000000000 ≤ cap) : zval b64 (val64 w) ≤ zval b64 (val64 (Jvm.FP.dmul 4472406533629990549 b)) := by
  obtain ⟨n, e, k1, k2, k3⟩ := tol_prod hb h1
  rw [k1]
  refine zval_round_ge good_b64 (val64_fits w) (Whole.ne_nan hq) (e0 := 2 * b64.qmin) (by rw [qmin_b64]; decide) k2 ?_
  show _ ≤ ((inUnits n e (2 * b64.qmin) : Nat) : Int)
  rw [k3, zval_whole (val64_fits w) hq]
  have e1 : (b64.qmin - 2 * b64.qmin).toNat = 1074 := by rw [qmin_b64]; rfl
  rw [e1, ← Int.mul_assoc]
  refine Int.mul_le_mul_of_nonneg_right ?_ (Int.natCast_nonneg _)
  rw [pw1]
  have p0 := pw0
  generalize ((2 ^ 992 : Nat) : Int) = A at p0 ⊢
  rw [← Int.mul_assoc, Int.mul_right_comm 4835703278458517 A cap]
  exact Int.mul_le_mul_of_nonneg_right (by omega) (Int.le_of_lt p0)
/-- and below the next whole number -/
theorem tol_lt {cap q : Int} {b : UInt64} (hb : DInt cap b) (h1 : 1 ≤ cap) (h0 : 0 ≤ q) (hq : q ≤ 1100) (hlt : cap < (q + 1) * 1000000000) : zval b64 (val64 (Jvm.FP.dmul 4472406533629990549 b)) < (q + 1) * ((2 ^ 1074 : Nat) : Int) := by
  obtain ⟨n, e, k1, k2, k3⟩ := tol_prod hb h1
  obtain ⟨c', q', r1, r2⟩ := round_exact good_b64 false (c := ((q + 1) * 1099511627776 - 1).toNat) (q := -40) (by show _ < 2 ^ 53; omega) (by rw [qmin_b64]; decide) (by decide)
  have hV : Jvm.FP.Core.fits b64 (round b64 (.fin false ((q + 1) * 1099511627776 - 1).toNat (-40))) := round_fits good_b64 _
  have zV : zval b64 (round b64 (.fin false ((q + 1) * 1099511627776 - 1).toNat (-40))) = ((q + 1) * 1099511627776 - 1) * ((2 ^ 1034 : Nat) : Int) := by
    rw [r1]
    show ((inUnits c' q' b64.qmin : Nat) : Int) = _
    rw [r2]; unfold inUnits
    rw [qmin_b64, Int.natCast_mul, Int.toNat_of_nonneg (by omega)]; rfl
  have key : zval b64 (val64 (Jvm.FP.dmul 4472406533629990549 b)) ≤ zval b64 (round b64 (.fin false ((q + 1) * 1099511627776 - 1).toNat (-40))) := by
    rw [k1]
    refine zval_round_le good_b64 hV (by rw [r1]; exact nofun) (e0 := 2 * b64.qmin) (by rw [qmin_b64]; decide) k2 ?_
    show ((inUnits n e (2 * b64.qmin) : Nat) : Int) ≤ _
    rw [k3, zV]
    have e1 : (b64.qmin - 2 * b64.qmin).toNat = 1074 := by rw [qmin_b64]; rfl
    rw [e1, ← Int.mul_assoc]
    refine Int.mul_le_mul_of_nonneg_right ?_ (Int.natCast_nonneg _)
    rw [pw2]
    have p0 := pw0
    generalize ((2 ^ 992 : Nat) : Int) = A at p0 ⊢
    rw [← Int.mul_assoc, Int.mul_right_comm 4835703278458517 A cap]
    exact Int.mul_le_mul_of_nonneg_right (by omega) (Int.le_of_lt p0)
  refine Int.lt_of_le_of_lt key ?_
  rw [zV, pw1, pw2]
  have p0 := pw0
  generalize ((2 ^ 992 : Nat) : Int) = A at p0 ⊢
  rw [← Int.mul_assoc, ← Int.mul_assoc]
  exact Int.mul_lt_mul_of_pos_right (by omega) p0
end Jvm.Pilot.@@N@@.OwnFp
namespace Jvm.Pilot.@@N@@
open Jvm Jvm.ClassFile Sem Op Lib Jvm.Free Jvm.Stand Jvm.LawKit Jvm.RoadKit Bundle Jvm.Pilot.@@N@@.Jvm.D
section Own
variable {p : Program} {l : Launch} {e : Env} {R : Room} {s : State} {m : MethodId} {args : Array Value} {below : List Frame} {meth : Method} {c : Code} {T : State} {locs : List Loc} {cells slots : Nat}
/-- the return of a double -/
theorem own_retD (X : Stand p l e R s m args below meth c T locs cells slots) (hx : p.tables.exec = Jvm.exec) {pc : Nat} {Ls : Array Slot} {z : UInt64} {rest : List Value} (hret : meth.sig.returnType = some .double) (hd : decode c.code pc = .ok (.dreturn, 1)) {fs : List Frame}
    (hl : ∀ (f : JFrame) (acts : List Action), f.method = m → f.locked = none → f.entered = [] → (doReturn e (T.setTop f) acts (some (.double z))).1 = T.setFrames fs) : Steps p.tables e below (T.setTop (mkF m pc Ls (.double z :: rest))) (T.setFrames fs) := by
  have hm' : T.vm.method? m = some meth := X.method'
  have hn : narrow .double (.double z) = .double z := rfl
  show Steps p.tables e below (T.setTop { method := m, pc := pc, locals := Ls, stack := _ :: rest, locked := none }) _
  jvm_step X.here [X.here.top, hx, hd, hm', hret, hn]
  first | (intro acts; rw [hl _ acts rfl rfl rfl]) | rw [hl _ _ rfl rfl rfl]
  exact Steps.refl _
/-- the return of an int -/
theorem retI (X : Stand p l e R s m args below meth c T locs cells slots) (hx : p.tables.exec = Jvm.exec) {pc : Nat} {Ls : Array Slot} {z : Int32} {rest : List Value} (hret : meth.sig.returnType = some .int) (hd : decode c.code pc = .ok (.ireturn, 1)) {fs : List Frame}
    (hl : ∀ (f : JFrame) (acts : List Action), f.method = m → f.locked = none → f.entered = [] → (doReturn e (T.setTop f) acts (some (.int z))).1 = T.setFrames fs) : Steps p.tables e below (T.setTop (mkF m pc Ls (.int z :: rest))) (T.setFrames fs) := by
  have hm' : T.vm.method? m = some meth := X.method'
  have hn : narrow .int (.int z) = .int z := rfl
  show Steps p.tables e below (T.setTop { method := m, pc := pc, locals := Ls, stack := _ :: rest, locked := none }) _
  jvm_step X.here [X.here.top, hx, hd, hm', hret, hn]
  first | (intro acts; rw [hl _ acts rfl rfl rfl]) | rw [hl _ _ rfl rfl rfl]
  exact Steps.refl _
/-- a cell, read over the heap's other name -/
theorem own_at {h : Heap} {a : Addr} {cl : Cell} (q : T.heap = h) (k : h[a]? = some cl) : T.heap[a]? = some cl := by rw [q]; exact k
/-- the remainder as the machine reckons it is the remainder -/
theorem own_rem (x y : Int32) : x - (x / y) * y = x % y := by
  have a := c_isub x (x / y * y)
  have b := c_imul (x / y) y
  have e := bm32 (x.toInt.tdiv y.toInt)
  have f := Int.mul_tdiv_add_tmod x.toInt y.toInt
  have r := rng32 (x - x / y * y)
  have r' := rng32 (x % y)
  rw [← Int32.toInt_div] at e
  rw [← Int32.toInt_mod, Int.mul_comm] at f
  obtain ⟨k, hk⟩ : ∃ k, (x / y).toInt = x.toInt.tdiv y.toInt + 4294967296 * k := ⟨((x / y).toInt - x.toInt.tdiv y.toInt) / 4294967296, by omega⟩
  have g : (x / y).toInt * y.toInt = x.toInt.tdiv y.toInt * y.toInt + 4294967296 * (k * y.toInt) := by rw [hk, Int.add_mul, Int.mul_assoc]
  apply Int32.toInt_inj.mp
  omega
theorem own_irem {tb : Tables} [Ours tb] {target : State} {g : JFrame} (h : At T m c below) (hx : tb.exec = Jvm.exec) (hg : g.method = m) {x y : Int32} {rest : List Value} (hd : decode c.code g.pc = .ok (.irem, 1)) (hs : g.stack = .int y :: .int x :: rest) (hy : y ≠ 0)
    (hr : Steps tb e below (T.setTop { g with pc := g.pc + 1, stack := .int (x % y) :: rest }) target) : Steps tb e below (T.setTop g) target :=
  XS.irem h hx hg hd hs hy (by rw [own_rem]; exact hr)
end Own
def capL (u0 : Int64) : Int64 := if u0 &&& 1099511627775 = 0 then 1 else u0 &&& 1099511627775
def diffQ (q : Int64) (u1 u2 : Int32) : Int64 := if u2 &&& 1 = 0 then u1.toInt64 else q + (u1 % 3).toInt64
abbrev diffL (u0 : Int64) (u1 u2 : Int32) : Int64 := diffQ (capL u0 / 1000000000) u1 u2
theorem cap_rng (u0 : Int64) : 1 ≤ (capL u0).toInt ∧ (capL u0).toInt < 1099511627776 := by
  unfold capL
  split
  · exact ⟨by decide, by decide⟩
  · rename_i h
    have k := c_maskL u0 1099511627775 40 (by decide) (by decide)
    have h' : (u0 &&& 1099511627775).toInt ≠ 0 := fun q => h (Int64.toInt_inj.mp (by rw [q]; rfl))
    have : ((2 ^ 40 : Nat) : Int) = 1099511627776 := rfl
    rw [this] at k
    omega
theorem quo_val (u0 : Int64) : (capL u0 / 1000000000).toInt = (capL u0).toInt / 1000000000 :=
  (c_ldiv (capL u0) 1000000000 1000000000 (by decide) (by decide)).1 (by have := cap_rng u0; omega)
theorem diff_rng (u0 : Int64) (u1 u2 : Int32) : -2147483648 ≤ (diffL u0 u1 u2).toInt ∧ (diffL u0 u1 u2).toInt ≤ 2147483648 := by
  have h1 := rng32 u1
  have hc := cap_rng u0
  have hq := quo_val u0
  unfold diffL diffQ
  split
  · rw [c_i2l]; omega
  · have h3 := c_irem u1 3 3 (by decide)
    have k : (u1 % 3).toInt64.toInt = (u1 % 3).toInt := c_i2l _
    have r : -3 < (u1 % 3).toInt ∧ (u1 % 3).toInt < 3 := by
      rcases Int.lt_or_le u1.toInt 0 with q | q
      · have := h3.2 q; omega
      · have := h3.1 q; omega
    have s : (capL u0 / 1000000000 + (u1 % 3).toInt64).toInt = (capL u0 / 1000000000).toInt + (u1 % 3).toInt64.toInt := add64 ⟨by omega, by omega⟩ ⟨by omega, by omega⟩
    omega
theorem load_val (u0 : Int64) (u1 u2 : Int32) : FP.dsub (FP.l2d (capL u0 + diffL u0 u1 u2)) (FP.l2d (capL u0)) = FP.l2d (diffL u0 u1 u2) := by
  have hc := cap_rng u0
  have hd := diff_rng u0 u1 u2
  have b1 : B53 (capL u0) := ⟨by omega, by omega⟩
  have b2 : B53 (diffL u0 u1 u2) := ⟨by omega, by omega⟩
  have s := add64 b1 b2
  have b3 : B53 (capL u0 + diffL u0 u1 u2) := ⟨by omega, by omega⟩
  rw [dsub_w b3 b1]
  congr 1
  apply Int64.toInt_inj.mp
  rw [sub64 b3 b1]; omega
theorem own_n1 (u0 : Int64) (u1 u2 : Int32) : Jvm.Free.Fl.NoNaN64 (FP.dsub (FP.l2d (capL u0 + diffL u0 u1 u2)) (FP.l2d (capL u0))) := nn_w (load_val u0 u1 u2)
theorem cap_int (u0 : Int64) : FP.Core.DInt (capL u0).toInt (FP.l2d (capL u0)) := FP.Core.l2d_int (by have := cap_rng u0; rw [← pow_53]; omega)
theorem diff_int (u0 : Int64) (u1 u2 : Int32) : FP.Core.DInt (diffL u0 u1 u2).toInt (FP.l2d (diffL u0 u1 u2)) := FP.Core.l2d_int (by have := diff_rng u0 u1 u2; rw [← pow_53]; omega)
theorem quo_int (u0 : Int64) : FP.Core.DInt ((capL u0).toInt / 1000000000) (FP.l2d (capL u0 / 1000000000)) := by
  rw [← quo_val]; exact FP.Core.l2d_int (by have := cap_rng u0; have := quo_val u0; rw [← pow_53]; omega)
theorem own_n2 (u0 : Int64) : Jvm.Free.Fl.NoNaN64 (FP.dmul 4472406533629990549 (FP.l2d (capL u0))) :=
  Jvm.Free.Fl.val64_no.mpr (OwnFp.tol_ne (cap_int u0) (cap_rng u0).1)
theorem cmp_val (u0 : Int64) (u1 u2 : Int32) : FP.dcmp (FP.dsub (FP.l2d (capL u0 + diffL u0 u1 u2)) (FP.l2d (capL u0))) (FP.dmul 4472406533629990549 (FP.l2d (capL u0))) =
    some (compare ((diffL u0 u1 u2).toInt * ((2 ^ 1074 : Nat) : Int)) (FP.Core.zval FP.Core.b64 (FP.Core.val64 (FP.dmul 4472406533629990549 (FP.l2d (capL u0)))))) := by
  rw [load_val, show FP.dcmp (FP.l2d (diffL u0 u1 u2)) _ = _ from FP.Core.dcmp_zval (FP.Core.Whole.ne_nan (diff_int u0 u1 u2)) (OwnFp.tol_ne (cap_int u0) (cap_rng u0).1), OwnFp.zval_whole (FP.Core.val64_fits _) (diff_int u0 u1 u2)]
theorem own_gt (u0 : Int64) (u1 u2 : Int32) (h : 0 < lcmpW (diffL u0 u1 u2) (capL u0 / 1000000000)) : 0 < cmpValue (FP.dcmp (FP.dsub (FP.l2d (capL u0 + diffL u0 u1 u2)) (FP.l2d (capL u0))) (FP.dmul 4472406533629990549 (FP.l2d (capL u0)))) .g := by
  have hd := Int64.lt_iff_toInt_lt.mp ((lw_gt _ _).mp h)
  have hc := cap_rng u0
  rw [quo_val] at hd
  have k := OwnFp.tol_lt (cap_int u0) hc.1 (q := (capL u0).toInt / 1000000000) (by omega) (by omega) (by omega)
  have hp : ((capL u0).toInt / 1000000000 + 1) * ((2 ^ 1074 : Nat) : Int) ≤ (diffL u0 u1 u2).toInt * ((2 ^ 1074 : Nat) : Int) := Int.mul_le_mul_of_nonneg_right (by omega) (Int.natCast_nonneg _)
  rw [cmp_val, FP.Core.compare_ite, if_neg (by omega), if_neg (by omega)]
  decide
theorem own_le (u0 : Int64) (u1 u2 : Int32) (h : ¬ 0 < lcmpW (diffL u0 u1 u2) (capL u0 / 1000000000)) : ¬ 0 < cmpValue (FP.dcmp (FP.dsub (FP.l2d (capL u0 + diffL u0 u1 u2)) (FP.l2d (capL u0))) (FP.dmul 4472406533629990549 (FP.l2d (capL u0)))) .g := by
  have hd : ¬ (capL u0 / 1000000000).toInt < (diffL u0 u1 u2).toInt := fun q => h ((lw_gt _ _).mpr (Int64.lt_iff_toInt_lt.mpr q))
  have hc := cap_rng u0
  rw [quo_val] at hd
  have k := OwnFp.tol_ge (cap_int u0) (quo_int u0) hc.1 (by omega) (by omega)
  rw [OwnFp.zval_whole (FP.Core.val64_fits _) (quo_int u0)] at k
  have hp : (diffL u0 u1 u2).toInt * ((2 ^ 1074 : Nat) : Int) ≤ ((capL u0).toInt / 1000000000) * ((2 ^ 1074 : Nat) : Int) := Int.mul_le_mul_of_nonneg_right (by omega) (Int.natCast_nonneg _)
  rw [cmp_val, FP.Core.compare_ite]
  split
  · decide
  · rw [if_pos (by omega)]; decide
theorem d_prog_2_method_2_code_0 : decode prog_2_method_2_code 0 = .ok (.dload_n 0, 1) := by decide +kernel
theorem d_prog_2_method_2_code_1 : decode prog_2_method_2_code 1 = .ok (.dload_n 2, 1) := by decide +kernel
theorem d_prog_2_method_2_code_2 : decode prog_2_method_2_code 2 = .ok (.dsub, 1) := by decide +kernel
theorem d_prog_2_method_2_code_3 : decode prog_2_method_2_code 3 = .ok (.ldc2_w 9, 3) := by decide +kernel
theorem d_prog_2_method_2_code_6 : decode prog_2_method_2_code 6 = .ok (.dload_n 2, 1) := by decide +kernel
theorem d_prog_2_method_2_code_7 : decode prog_2_method_2_code 7 = .ok (.dmul, 1) := by decide +kernel
theorem d_prog_2_method_2_code_8 : decode prog_2_method_2_code 8 = .ok (.dcmp .g, 1) := by decide +kernel
theorem d_prog_2_method_2_code_9 : decode prog_2_method_2_code 9 = .ok (.ifCond .gt 7, 3) := by decide +kernel
theorem d_prog_2_method_2_code_12 : decode prog_2_method_2_code 12 = .ok (.iconst 1, 1) := by decide +kernel
theorem d_prog_2_method_2_code_13 : decode prog_2_method_2_code 13 = .ok (.goto 4, 3) := by decide +kernel
theorem d_prog_2_method_2_code_16 : decode prog_2_method_2_code 16 = .ok (.iconst 0, 1) := by decide +kernel
theorem d_prog_2_method_2_code_17 : decode prog_2_method_2_code 17 = .ok (.ireturn, 1) := by decide +kernel
theorem pn_prog_2_method_2_code : plainName "com/example/unsplit/unsplit/Capacity" = true := by first | (simp [plainName, overriddenIn]; done) | decide +kernel
theorem pn_code : plainName "com/example/unsplit/unsplit/CapacityIsWithinPinLaw" = true := by first | (simp [plainName, overriddenIn]; done) | decide +kernel
theorem pd__DD_Z : parseMethodDescriptor "(DD)Z" = some ⟨[.double, .double], some .boolean⟩ := by decide +kernel
def QW (r : Int32) (h0 : Heap) (n0 : Nat) (v : Option Value) (h : Heap) (L : List Loc) : Prop := v = some (.int r) ∧ Fr n0 L ∧ h = h0
def Q0 (n0 : Nat) (v : Option Value) (h : Heap) (L : List Loc) : Prop := v = some (.int 1) ∧ Fr n0 L
theorem ef_prog_2_method_2_code (m : MethodId) (x0 : UInt64) (x1 : UInt64) : entryFrame m #[(.double x0), (.double x1)] 4 = mkF m 0 #[.val (.double x0), .second, .val (.double x1), .second] [] := by first | (simp [entryFrame, mkF, argsToLocals, Value.category]; done) | rfl
set_option maxRecDepth 65536 in
set_option maxHeartbeats 40000000 in
theorem rmW_f (l : Launch) (Z : State) (a0 : Array Value) (hw : ∀ d ∈ tables_1, d.before a0 Z = true) (ws : List Jvm.Cond) (x0 x1 : UInt64) (h0 : Heap) (n0 : Nat) (Z0 : n0 ≤ h0.size) (hn2 : Jvm.Free.Fl.NoNaN64 (FP.dsub x0 x1)) (hn7 : Jvm.Free.Fl.NoNaN64 (FP.dmul (4472406533629990549 : UInt64) x1)) (hc9 : ¬ ((0 : Int32) < (cmpValue (FP.dcmp (FP.dsub x0 x1) (FP.dmul (4472406533629990549 : UInt64) x1)) .g))) :
    MetFree l (⟨"com/example/unsplit/unsplit/Capacity", "isWithin", "(DD)Z"⟩ : MethodName) (head1 (Jvm.Cond.code (⟨"com/example/unsplit/unsplit/Capacity", "isWithin", "(DD)Z"⟩ : MethodName) prog_2_method_2_code 4 (some .boolean) :: ws) ({ frames := 0, cells := 0, slots := 0, locals := 0 } : Room)) (fun aa U => aa = #[(.double x0), (.double x1)] ∧ Z.Warmed39 U.vm ∧ U.heap = h0) (fun _ _ _ _ _ => True) (fun _ U o U' => ∃ v L, o = .returned v ∧ QW 1 h0 n0 v U'.heap L ∧ FrameEnd U o U' L ({ frames := 0, cells := 0, slots := 0, locals := 0 } : Room).cells ({ frames := 0, cells := 0, slots := 0, locals := 0 } : Room).slots) := by
  refine MetFree.of_bodySF (plainFor_of_name pn_prog_2_method_2_code) hisR ?_
  intro p e s m args below meth c s₁ Bd hml0 hP hK
  obtain ⟨rfl, hZ, hh⟩ := hP
  have hx := Bd.exec
  have hby := Bd.bytes
  have hml : c.maxLocals = 4 := hml0
  have hown : s.vm.findClass "com/example/unsplit/unsplit/Capacity" = some m.cls := findClass_of_methodNamed Bd.named
  have hnm := (name_of_methodNamed Bd.named Bd.method).1
  have X0 : Stand p l e ({ frames := 0, cells := 0, slots := 0, locals := 0 } : Room) s m #[(.double x0), (.double x1)] below meth c s₁ [] 0 0 := Stand.of_body Bd
  have e0 : s₁.heap = h0 := by rw [← hh, Bd.state]; rfl
  have N0 := Fr.nil n0
  have pre0 : ∀ t, Steps p.tables e below (s₁.setTop (mkF m 0 #[.val (.double x0), .second, .val (.double x1), .second] [])) t → Steps p.tables e below (s₁.setTop (entryFrame m #[(.double x0), (.double x1)] 4)) t := fun t k => castTop (ef_prog_2_method_2_code m x0 x1) k
  obtain ⟨fs, hr, hrun, hended, hW, hsame⟩ := X0.leave (v := some (.int (1 : Int32))) (fun h => by rw [Bd.returns] at h; cases h)
  refine ⟨_, _, pre0 _ ?_, hrun, hended, _, _, rfl, ?_, ⟨_, rfl⟩, hW, hsame.mono (by decide) (by decide)⟩
  · show Steps p.tables e below (s₁.setTop (mkF m 0 #[.val (.double x0), .second, .val (.double x1), .second] [])) _
    refine XS.dloadN X0.here hx rfl (hb hby d_prog_2_method_2_code_0) rfl ?_
    show Steps p.tables e below (s₁.setTop (mkF m 1 #[.val (.double x0), .second, .val (.double x1), .second] [(.double x0)])) _
    refine XS.dloadN X0.here hx rfl (hb hby d_prog_2_method_2_code_1) rfl ?_
    show Steps p.tables e below (s₁.setTop (mkF m 2 #[.val (.double x0), .second, .val (.double x1), .second] [(.double x1), (.double x0)])) _
    refine XS.dsubS X0.here hx rfl (hb hby d_prog_2_method_2_code_2) rfl hn2 (v := (FP.dsub x0 x1)) rfl ?_
    show Steps p.tables e below (s₁.setTop (mkF m 3 #[.val (.double x0), .second, .val (.double x1), .second] [(.double (FP.dsub x0 x1))])) _
    refine X0.ldc2DoubleC hx hown (mvT hZ (hw _ (List.mem_of_getElem? (i := 6) rfl))) (g := (mkF m 3 #[.val (.double x0), .second, .val (.double x1), .second] [(.double (FP.dsub x0 x1))])) rfl (hb hby d_prog_2_method_2_code_3) _ ?_
    show Steps p.tables e below (s₁.setTop (mkF m 6 #[.val (.double x0), .second, .val (.double x1), .second] [(.double (4472406533629990549 : UInt64)), (.double (FP.dsub x0 x1))])) _
    refine XS.dloadN X0.here hx rfl (hb hby d_prog_2_method_2_code_6) rfl ?_
    show Steps p.tables e below (s₁.setTop (mkF m 7 #[.val (.double x0), .second, .val (.double x1), .second] [(.double x1), (.double (4472406533629990549 : UInt64)), (.double (FP.dsub x0 x1))])) _
    refine XS.dmulS X0.here hx rfl (hb hby d_prog_2_method_2_code_7) rfl hn7 (v := (FP.dmul (4472406533629990549 : UInt64) x1)) rfl ?_
    show Steps p.tables e below (s₁.setTop (mkF m 8 #[.val (.double x0), .second, .val (.double x1), .second] [(.double (FP.dmul (4472406533629990549 : UInt64) x1)), (.double (FP.dsub x0 x1))])) _
    refine XS.dcmpS X0.here hx rfl (hb hby d_prog_2_method_2_code_8) rfl (v := (cmpValue (FP.dcmp (FP.dsub x0 x1) (FP.dmul (4472406533629990549 : UInt64) x1)) .g)) rfl ?_
    show Steps p.tables e below (s₁.setTop (mkF m 9 #[.val (.double x0), .second, .val (.double x1), .second] [(.int (cmpValue (FP.dcmp (FP.dsub x0 x1) (FP.dmul (4472406533629990549 : UInt64) x1)) .g))])) _
    refine XS.ifNo X0.here hx rfl (hb hby d_prog_2_method_2_code_9) rfl ((if0 _ _).trans (flt hc9).2.2.1) ?_
    show Steps p.tables e below (s₁.setTop (mkF m 12 #[.val (.double x0), .second, .val (.double x1), .second] [])) _
    refine XS.iconst X0.here hx rfl (hb hby d_prog_2_method_2_code_12) ?_
    show Steps p.tables e below (s₁.setTop (mkF m 13 #[.val (.double x0), .second, .val (.double x1), .second] [(.int (1 : Int32))])) _
    refine XS.goto X0.here hx rfl (pc0 := 13) (pc' := 17) rfl (hb hby d_prog_2_method_2_code_13) (by decide) (by decide) ?_
    show Steps p.tables e below (s₁.setTop (mkF m 17 #[.val (.double x0), .second, .val (.double x1), .second] [(.int (1 : Int32))])) _
    exact retN X0 hx (t := .boolean) Bd.returns (by simp) (hb hby d_prog_2_method_2_code_17) hr
  · show QW 1 h0 n0 _ s₁.heap _
    rw [e0]
    exact ⟨rfl, N0, rfl⟩
set_option maxRecDepth 65536 in
set_option maxHeartbeats 40000000 in
theorem rmW_t (l : Launch) (Z : State) (a0 : Array Value) (hw : ∀ d ∈ tables_1, d.before a0 Z = true) (ws : List Jvm.Cond) (x0 x1 : UInt64) (h0 : Heap) (n0 : Nat) (Z0 : n0 ≤ h0.size) (hn2 : Jvm.Free.Fl.NoNaN64 (FP.dsub x0 x1)) (hn7 : Jvm.Free.Fl.NoNaN64 (FP.dmul (4472406533629990549 : UInt64) x1)) (hc9 : (0 : Int32) < (cmpValue (FP.dcmp (FP.dsub x0 x1) (FP.dmul (4472406533629990549 : UInt64) x1)) .g)) :
    MetFree l (⟨"com/example/unsplit/unsplit/Capacity", "isWithin", "(DD)Z"⟩ : MethodName) (head1 (Jvm.Cond.code (⟨"com/example/unsplit/unsplit/Capacity", "isWithin", "(DD)Z"⟩ : MethodName) prog_2_method_2_code 4 (some .boolean) :: ws) ({ frames := 0, cells := 0, slots := 0, locals := 0 } : Room)) (fun aa U => aa = #[(.double x0), (.double x1)] ∧ Z.Warmed39 U.vm ∧ U.heap = h0) (fun _ _ _ _ _ => True) (fun _ U o U' => ∃ v L, o = .returned v ∧ QW 0 h0 n0 v U'.heap L ∧ FrameEnd U o U' L ({ frames := 0, cells := 0, slots := 0, locals := 0 } : Room).cells ({ frames := 0, cells := 0, slots := 0, locals := 0 } : Room).slots) := by
  refine MetFree.of_bodySF (plainFor_of_name pn_prog_2_method_2_code) hisR ?_
  intro p e s m args below meth c s₁ Bd hml0 hP hK
  obtain ⟨rfl, hZ, hh⟩ := hP
  have hx := Bd.exec
  have hby := Bd.bytes
  have hml : c.maxLocals = 4 := hml0
  have hown : s.vm.findClass "com/example/unsplit/unsplit/Capacity" = some m.cls := findClass_of_methodNamed Bd.named
  have hnm := (name_of_methodNamed Bd.named Bd.method).1
  have X0 : Stand p l e ({ frames := 0, cells := 0, slots := 0, locals := 0 } : Room) s m #[(.double x0), (.double x1)] below meth c s₁ [] 0 0 := Stand.of_body Bd
  have e0 : s₁.heap = h0 := by rw [← hh, Bd.state]; rfl
  have N0 := Fr.nil n0
  have pre0 : ∀ t, Steps p.tables e below (s₁.setTop (mkF m 0 #[.val (.double x0), .second, .val (.double x1), .second] [])) t → Steps p.tables e below (s₁.setTop (entryFrame m #[(.double x0), (.double x1)] 4)) t := fun t k => castTop (ef_prog_2_method_2_code m x0 x1) k
  obtain ⟨fs, hr, hrun, hended, hW, hsame⟩ := X0.leave (v := some (.int (0 : Int32))) (fun h => by rw [Bd.returns] at h; cases h)
  refine ⟨_, _, pre0 _ ?_, hrun, hended, _, _, rfl, ?_, ⟨_, rfl⟩, hW, hsame.mono (by decide) (by decide)⟩
  · show Steps p.tables e below (s₁.setTop (mkF m 0 #[.val (.double x0), .second, .val (.double x1), .second] [])) _
    refine XS.dloadN X0.here hx rfl (hb hby d_prog_2_method_2_code_0) rfl ?_
    show Steps p.tables e below (s₁.setTop (mkF m 1 #[.val (.double x0), .second, .val (.double x1), .second] [(.double x0)])) _
    refine XS.dloadN X0.here hx rfl (hb hby d_prog_2_method_2_code_1) rfl ?_
    show Steps p.tables e below (s₁.setTop (mkF m 2 #[.val (.double x0), .second, .val (.double x1), .second] [(.double x1), (.double x0)])) _
    refine XS.dsubS X0.here hx rfl (hb hby d_prog_2_method_2_code_2) rfl hn2 (v := (FP.dsub x0 x1)) rfl ?_
    show Steps p.tables e below (s₁.setTop (mkF m 3 #[.val (.double x0), .second, .val (.double x1), .second] [(.double (FP.dsub x0 x1))])) _
    refine X0.ldc2DoubleC hx hown (mvT hZ (hw _ (List.mem_of_getElem? (i := 6) rfl))) (g := (mkF m 3 #[.val (.double x0), .second, .val (.double x1), .second] [(.double (FP.dsub x0 x1))])) rfl (hb hby d_prog_2_method_2_code_3) _ ?_
    show Steps p.tables e below (s₁.setTop (mkF m 6 #[.val (.double x0), .second, .val (.double x1), .second] [(.double (4472406533629990549 : UInt64)), (.double (FP.dsub x0 x1))])) _
    refine XS.dloadN X0.here hx rfl (hb hby d_prog_2_method_2_code_6) rfl ?_
    show Steps p.tables e below (s₁.setTop (mkF m 7 #[.val (.double x0), .second, .val (.double x1), .second] [(.double x1), (.double (4472406533629990549 : UInt64)), (.double (FP.dsub x0 x1))])) _
    refine XS.dmulS X0.here hx rfl (hb hby d_prog_2_method_2_code_7) rfl hn7 (v := (FP.dmul (4472406533629990549 : UInt64) x1)) rfl ?_
    show Steps p.tables e below (s₁.setTop (mkF m 8 #[.val (.double x0), .second, .val (.double x1), .second] [(.double (FP.dmul (4472406533629990549 : UInt64) x1)), (.double (FP.dsub x0 x1))])) _
    refine XS.dcmpS X0.here hx rfl (hb hby d_prog_2_method_2_code_8) rfl (v := (cmpValue (FP.dcmp (FP.dsub x0 x1) (FP.dmul (4472406533629990549 : UInt64) x1)) .g)) rfl ?_
    show Steps p.tables e below (s₁.setTop (mkF m 9 #[.val (.double x0), .second, .val (.double x1), .second] [(.int (cmpValue (FP.dcmp (FP.dsub x0 x1) (FP.dmul (4472406533629990549 : UInt64) x1)) .g))])) _
    refine XS.ifYes X0.here hx rfl (pc0 := 9) (pc' := 16) rfl (hb hby d_prog_2_method_2_code_9) rfl ((if0 _ _).trans (tlt hc9).2.2.1) (by decide) (by decide) ?_
    show Steps p.tables e below (s₁.setTop (mkF m 16 #[.val (.double x0), .second, .val (.double x1), .second] [])) _
    refine XS.iconst X0.here hx rfl (hb hby d_prog_2_method_2_code_16) ?_
    show Steps p.tables e below (s₁.setTop (mkF m 17 #[.val (.double x0), .second, .val (.double x1), .second] [(.int (0 : Int32))])) _
    exact retN X0 hx (t := .boolean) Bd.returns (by simp) (hb hby d_prog_2_method_2_code_17) hr
  · show QW 0 h0 n0 _ s₁.heap _
    rw [e0]
    exact ⟨rfl, N0, rfl⟩
set_option maxRecDepth 65536 in
set_option maxHeartbeats 4000000 in
theorem sA_t {p : Program} {l : Launch} {e : Env} {R : Room} {s : State} {m : MethodId} {args : Array Value} {below : List Frame} {meth : Method} {c : Code} {T : State} {locs : List Loc} {cells slots : Nat} {Z : State} {a0 : Array Value} {target : State} {u0 : Int64} {u1 u2 : Int32} (X : Stand p l e R s m args below meth c T locs cells slots) (hx : p.tables.exec = Jvm.exec) (hZ : Z.Warmed39 s.vm) (hw : ∀ d ∈ tables_1, d.before a0 Z = true) (hby : c.code = code) (hown : s.vm.findClass "com/example/unsplit/unsplit/CapacityIsWithinPinLaw" = some m.cls) (hc11 : ¬ ((lcmpW (u0 &&& (1099511627775 : Int64)) (0 : Int64)) = (0 : Int32)))
    (hr : Steps p.tables e below (T.setTop (mkF m 17 #[.val (.long u0), .second, .val (.int u1), .val (.int u2), .val (.long (u0 &&& (1099511627775 : Int64))), .second, .unset, .unset, .unset, .unset, .unset, .unset, .unset, .unset, .unset] [])) target) : Steps p.tables e below (T.setTop (mkF m 0 #[.val (.long u0), .second, .val (.int u1), .val (.int u2), .unset, .unset, .unset, .unset, .unset, .unset, .unset, .unset, .unset, .unset, .unset] [])) target := by
  show Steps p.tables e below (T.setTop (mkF m 0 #[.val (.long u0), .second, .val (.int u1), .val (.int u2), .unset, .unset, .unset, .unset, .unset, .unset, .unset, .unset, .unset, .unset, .unset] [])) _
  refine XS.lloadN X.here hx rfl (hb hby at_0) rfl ?_
  show Steps p.tables e below (T.setTop (mkF m 1 #[.val (.long u0), .second, .val (.int u1), .val (.int u2), .unset, .unset, .unset, .unset, .unset, .unset, .unset, .unset, .unset, .unset, .unset] [(.long u0)])) _
  refine X.ldc2Long hx hown (mvT hZ (hw _ (List.mem_of_getElem? (i := 0) rfl))) (g := (mkF m 1 #[.val (.long u0), .second, .val (.int u1), .val (.int u2), .unset, .unset, .unset, .unset, .unset, .unset, .unset, .unset, .unset, .unset, .unset] [(.long u0)])) rfl (hb hby at_1) _ ?_
  show Steps p.tables e below (T.setTop (mkF m 4 #[.val (.long u0), .second, .val (.int u1), .val (.int u2), .unset, .unset, .unset, .unset, .unset, .unset, .unset, .unset, .unset, .unset, .unset] [(.long (1099511627775 : Int64)), (.long u0)])) _
  refine XS.land X.here hx rfl (hb hby at_4) rfl ?_
  show Steps p.tables e below (T.setTop (mkF m 5 #[.val (.long u0), .second, .val (.int u1), .val (.int u2), .unset, .unset, .unset, .unset, .unset, .unset, .unset, .unset, .unset, .unset, .unset] [(.long (u0 &&& (1099511627775 : Int64)))])) _
  refine XS.lstore X.here hx rfl (hb hby at_5) rfl (l' := #[.val (.long u0), .second, .val (.int u1), .val (.int u2), .val (.long (u0 &&& (1099511627775 : Int64))), .second, .unset, .unset, .unset, .unset, .unset, .unset, .unset, .unset, .unset]) rfl ?_
  show Steps p.tables e below (T.setTop (mkF m 7 #[.val (.long u0), .second, .val (.int u1), .val (.int u2), .val (.long (u0 &&& (1099511627775 : Int64))), .second, .unset, .unset, .unset, .unset, .unset, .unset, .unset, .unset, .unset] [])) _
  refine XS.lload X.here hx rfl (hb hby at_7) rfl ?_
  show Steps p.tables e below (T.setTop (mkF m 9 #[.val (.long u0), .second, .val (.int u1), .val (.int u2), .val (.long (u0 &&& (1099511627775 : Int64))), .second, .unset, .unset, .unset, .unset, .unset, .unset, .unset, .unset, .unset] [(.long (u0 &&& (1099511627775 : Int64)))])) _
  refine XS.lconst X.here hx rfl (hb hby at_9) ?_
  show Steps p.tables e below (T.setTop (mkF m 10 #[.val (.long u0), .second, .val (.int u1), .val (.int u2), .val (.long (u0 &&& (1099511627775 : Int64))), .second, .unset, .unset, .unset, .unset, .unset, .unset, .unset, .unset, .unset] [(.long (0 : Int64)), (.long (u0 &&& (1099511627775 : Int64)))])) _
  refine XS.lcmp X.here hx rfl (hb hby at_10) rfl ?_
  show Steps p.tables e below (T.setTop (mkF m 11 #[.val (.long u0), .second, .val (.int u1), .val (.int u2), .val (.long (u0 &&& (1099511627775 : Int64))), .second, .unset, .unset, .unset, .unset, .unset, .unset, .unset, .unset, .unset] [(.int (lcmpW (u0 &&& (1099511627775 : Int64)) (0 : Int64)))])) _
  refine XS.ifYes X.here hx rfl (pc0 := 11) (pc' := 17) rfl (hb hby at_11) rfl ((if0 _ _).trans (feq hc11).2) (by decide) (by decide) ?_
  exact hr
set_option maxRecDepth 65536 in
set_option maxHeartbeats 4000000 in
theorem sA_f {p : Program} {l : Launch} {e : Env} {R : Room} {s : State} {m : MethodId} {args : Array Value} {below : List Frame} {meth : Method} {c : Code} {T : State} {locs : List Loc} {cells slots : Nat} {Z : State} {a0 : Array Value} {target : State} {u0 : Int64} {u1 u2 : Int32} (X : Stand p l e R s m args below meth c T locs cells slots) (hx : p.tables.exec = Jvm.exec) (hZ : Z.Warmed39 s.vm) (hw : ∀ d ∈ tables_1, d.before a0 Z = true) (hby : c.code = code) (hown : s.vm.findClass "com/example/unsplit/unsplit/CapacityIsWithinPinLaw" = some m.cls) (hc11 : (lcmpW (u0 &&& (1099511627775 : Int64)) (0 : Int64)) = (0 : Int32))
    (hr : Steps p.tables e below (T.setTop (mkF m 17 #[.val (.long u0), .second, .val (.int u1), .val (.int u2), .val (.long (1 : Int64)), .second, .unset, .unset, .unset, .unset, .unset, .unset, .unset, .unset, .unset] [])) target) : Steps p.tables e below (T.setTop (mkF m 0 #[.val (.long u0), .second, .val (.int u1), .val (.int u2), .unset, .unset, .unset, .unset, .unset, .unset, .unset, .unset, .unset, .unset, .unset] [])) target := by
  show Steps p.tables e below (T.setTop (mkF m 0 #[.val (.long u0), .second, .val (.int u1), .val (.int u2), .unset, .unset, .unset, .unset, .unset, .unset, .unset, .unset, .unset, .unset, .unset] [])) _
  refine XS.lloadN X.here hx rfl (hb hby at_0) rfl ?_
  show Steps p.tables e below (T.setTop (mkF m 1 #[.val (.long u0), .second, .val (.int u1), .val (.int u2), .unset, .unset, .unset, .unset, .unset, .unset, .unset, .unset, .unset, .unset, .unset] [(.long u0)])) _
  refine X.ldc2Long hx hown (mvT hZ (hw _ (List.mem_of_getElem? (i := 0) rfl))) (g := (mkF m 1 #[.val (.long u0), .second, .val (.int u1), .val (.int u2), .unset, .unset, .unset, .unset, .unset, .unset, .unset, .unset, .unset, .unset, .unset] [(.long u0)])) rfl (hb hby at_1) _ ?_
  show Steps p.tables e below (T.setTop (mkF m 4 #[.val (.long u0), .second, .val (.int u1), .val (.int u2), .unset, .unset, .unset, .unset, .unset, .unset, .unset, .unset, .unset, .unset, .unset] [(.long (1099511627775 : Int64)), (.long u0)])) _
  refine XS.land X.here hx rfl (hb hby at_4) rfl ?_
  show Steps p.tables e below (T.setTop (mkF m 5 #[.val (.long u0), .second, .val (.int u1), .val (.int u2), .unset, .unset, .unset, .unset, .unset, .unset, .unset, .unset, .unset, .unset, .unset] [(.long (u0 &&& (1099511627775 : Int64)))])) _
  refine XS.lstore X.here hx rfl (hb hby at_5) rfl (l' := #[.val (.long u0), .second, .val (.int u1), .val (.int u2), .val (.long (u0 &&& (1099511627775 : Int64))), .second, .unset, .unset, .unset, .unset, .unset, .unset, .unset, .unset, .unset]) rfl ?_
  show Steps p.tables e below (T.setTop (mkF m 7 #[.val (.long u0), .second, .val (.int u1), .val (.int u2), .val (.long (u0 &&& (1099511627775 : Int64))), .second, .unset, .unset, .unset, .unset, .unset, .unset, .unset, .unset, .unset] [])) _
  refine XS.lload X.here hx rfl (hb hby at_7) rfl ?_
  show Steps p.tables e below (T.setTop (mkF m 9 #[.val (.long u0), .second, .val (.int u1), .val (.int u2), .val (.long (u0 &&& (1099511627775 : Int64))), .second, .unset, .unset, .unset, .unset, .unset, .unset, .unset, .unset, .unset] [(.long (u0 &&& (1099511627775 : Int64)))])) _
  refine XS.lconst X.here hx rfl (hb hby at_9) ?_
  show Steps p.tables e below (T.setTop (mkF m 10 #[.val (.long u0), .second, .val (.int u1), .val (.int u2), .val (.long (u0 &&& (1099511627775 : Int64))), .second, .unset, .unset, .unset, .unset, .unset, .unset, .unset, .unset, .unset] [(.long (0 : Int64)), (.long (u0 &&& (1099511627775 : Int64)))])) _
  refine XS.lcmp X.here hx rfl (hb hby at_10) rfl ?_
  show Steps p.tables e below (T.setTop (mkF m 11 #[.val (.long u0), .second, .val (.int u1), .val (.int u2), .val (.long (u0 &&& (1099511627775 : Int64))), .second, .unset, .unset, .unset, .unset, .unset, .unset, .unset, .unset, .unset] [(.int (lcmpW (u0 &&& (1099511627775 : Int64)) (0 : Int64)))])) _
  refine XS.ifNo X.here hx rfl (hb hby at_11) rfl ((if0 _ _).trans (teq hc11).2) ?_
  show Steps p.tables e below (T.setTop (mkF m 14 #[.val (.long u0), .second, .val (.int u1), .val (.int u2), .val (.long (u0 &&& (1099511627775 : Int64))), .second, .unset, .unset, .unset, .unset, .unset, .unset, .unset, .unset, .unset] [])) _
  refine XS.lconst X.here hx rfl (hb hby at_14) ?_
  show Steps p.tables e below (T.setTop (mkF m 15 #[.val (.long u0), .second, .val (.int u1), .val (.int u2), .val (.long (u0 &&& (1099511627775 : Int64))), .second, .unset, .unset, .unset, .unset, .unset, .unset, .unset, .unset, .unset] [(.long (1 : Int64))])) _
  refine XS.lstore X.here hx rfl (hb hby at_15) rfl (l' := #[.val (.long u0), .second, .val (.int u1), .val (.int u2), .val (.long (1 : Int64)), .second, .unset, .unset, .unset, .unset, .unset, .unset, .unset, .unset, .unset]) rfl ?_
  exact hr
theorem sA {p : Program} {l : Launch} {e : Env} {R : Room} {s : State} {m : MethodId} {args : Array Value} {below : List Frame} {meth : Method} {c : Code} {T : State} {locs : List Loc} {cells slots : Nat} {Z : State} {a0 : Array Value} {target : State} {u0 : Int64} {u1 u2 : Int32} (X : Stand p l e R s m args below meth c T locs cells slots) (hx : p.tables.exec = Jvm.exec) (hZ : Z.Warmed39 s.vm) (hw : ∀ d ∈ tables_1, d.before a0 Z = true) (hby : c.code = code) (hown : s.vm.findClass "com/example/unsplit/unsplit/CapacityIsWithinPinLaw" = some m.cls)
    (hr : Steps p.tables e below (T.setTop (mkF m 17 #[.val (.long u0), .second, .val (.int u1), .val (.int u2), .val (.long (capL u0)), .second, .unset, .unset, .unset, .unset, .unset, .unset, .unset, .unset, .unset] [])) target) : Steps p.tables e below (T.setTop (mkF m 0 #[.val (.long u0), .second, .val (.int u1), .val (.int u2), .unset, .unset, .unset, .unset, .unset, .unset, .unset, .unset, .unset, .unset, .unset] [])) target := by
  by_cases h : u0 &&& 1099511627775 = 0
  · rw [show capL u0 = 1 from if_pos h] at hr
    exact sA_f X hx hZ hw hby hown ((lw_eq _ _).mpr h) hr
  · rw [show capL u0 = u0 &&& 1099511627775 from if_neg h] at hr
    exact sA_t X hx hZ hw hby hown (fun q => h ((lw_eq _ _).mp q)) hr
set_option maxRecDepth 65536 in
set_option maxHeartbeats 4000000 in
theorem sB {p : Program} {l : Launch} {e : Env} {R : Room} {s : State} {m : MethodId} {args : Array Value} {below : List Frame} {meth : Method} {c : Code} {T : State} {locs : List Loc} {cells slots : Nat} {Z : State} {a0 : Array Value} {target : State} {u0 : Int64} {u1 u2 : Int32} {k : Int64} (X : Stand p l e R s m args below meth c T locs cells slots) (hx : p.tables.exec = Jvm.exec) (hZ : Z.Warmed39 s.vm) (hw : ∀ d ∈ tables_1, d.before a0 Z = true) (hby : c.code = code) (hown : s.vm.findClass "com/example/unsplit/unsplit/CapacityIsWithinPinLaw" = some m.cls)
    (hr : Steps p.tables e below (T.setTop (mkF m 29 #[.val (.long u0), .second, .val (.int u1), .val (.int u2), .val (.long k), .second, .val (.long (k / (1000000000 : Int64))), .second, .val (.long (u1.toInt64)), .second, .unset, .unset, .unset, .unset, .unset] [])) target) : Steps p.tables e below (T.setTop (mkF m 17 #[.val (.long u0), .second, .val (.int u1), .val (.int u2), .val (.long k), .second, .unset, .unset, .unset, .unset, .unset, .unset, .unset, .unset, .unset] [])) target := by
  show Steps p.tables e below (T.setTop (mkF m 17 #[.val (.long u0), .second, .val (.int u1), .val (.int u2), .val (.long k), .second, .unset, .unset, .unset, .unset, .unset, .unset, .unset, .unset, .unset] [])) _
  refine XS.lload X.here hx rfl (hb hby at_17) rfl ?_
  show Steps p.tables e below (T.setTop (mkF m 19 #[.val (.long u0), .second, .val (.int u1), .val (.int u2), .val (.long k), .second, .unset, .unset, .unset, .unset, .unset, .unset, .unset, .unset, .unset] [(.long k)])) _
  refine X.ldc2Long hx hown (mvT hZ (hw _ (List.mem_of_getElem? (i := 1) rfl))) (g := (mkF m 19 #[.val (.long u0), .second, .val (.int u1), .val (.int u2), .val (.long k), .second, .unset, .unset, .unset, .unset, .unset, .unset, .unset, .unset, .unset] [(.long k)])) rfl (hb hby at_19) _ ?_
  show Steps p.tables e below (T.setTop (mkF m 22 #[.val (.long u0), .second, .val (.int u1), .val (.int u2), .val (.long k), .second, .unset, .unset, .unset, .unset, .unset, .unset, .unset, .unset, .unset] [(.long (1000000000 : Int64)), (.long k)])) _
  refine XS.ldiv X.here hx rfl (hb hby at_22) rfl (by decide) ?_
  show Steps p.tables e below (T.setTop (mkF m 23 #[.val (.long u0), .second, .val (.int u1), .val (.int u2), .val (.long k), .second, .unset, .unset, .unset, .unset, .unset, .unset, .unset, .unset, .unset] [(.long (k / (1000000000 : Int64)))])) _
  refine XS.lstore X.here hx rfl (hb hby at_23) rfl (l' := #[.val (.long u0), .second, .val (.int u1), .val (.int u2), .val (.long k), .second, .val (.long (k / (1000000000 : Int64))), .second, .unset, .unset, .unset, .unset, .unset, .unset, .unset]) rfl ?_
  show Steps p.tables e below (T.setTop (mkF m 25 #[.val (.long u0), .second, .val (.int u1), .val (.int u2), .val (.long k), .second, .val (.long (k / (1000000000 : Int64))), .second, .unset, .unset, .unset, .unset, .unset, .unset, .unset] [])) _
  refine XS.iloadN X.here hx rfl (hb hby at_25) rfl ?_
  show Steps p.tables e below (T.setTop (mkF m 26 #[.val (.long u0), .second, .val (.int u1), .val (.int u2), .val (.long k), .second, .val (.long (k / (1000000000 : Int64))), .second, .unset, .unset, .unset, .unset, .unset, .unset, .unset] [(.int u1)])) _
  refine XS.i2l X.here hx rfl (hb hby at_26) rfl ?_
  show Steps p.tables e below (T.setTop (mkF m 27 #[.val (.long u0), .second, .val (.int u1), .val (.int u2), .val (.long k), .second, .val (.long (k / (1000000000 : Int64))), .second, .unset, .unset, .unset, .unset, .unset, .unset, .unset] [(.long (u1.toInt64))])) _
  refine XS.lstore X.here hx rfl (hb hby at_27) rfl (l' := #[.val (.long u0), .second, .val (.int u1), .val (.int u2), .val (.long k), .second, .val (.long (k / (1000000000 : Int64))), .second, .val (.long (u1.toInt64)), .second, .unset, .unset, .unset, .unset, .unset]) rfl ?_
  exact hr
set_option maxRecDepth 65536 in
set_option maxHeartbeats 4000000 in
theorem sC_t {p : Program} {l : Launch} {e : Env} {R : Room} {s : State} {m : MethodId} {args : Array Value} {below : List Frame} {meth : Method} {c : Code} {T : State} {locs : List Loc} {cells slots : Nat} {Z : State} {a0 : Array Value} {target : State} {u0 : Int64} {u1 u2 : Int32} {k q : Int64} (X : Stand p l e R s m args below meth c T locs cells slots) (hx : p.tables.exec = Jvm.exec) (hZ : Z.Warmed39 s.vm) (hw : ∀ d ∈ tables_1, d.before a0 Z = true) (hby : c.code = code) (hown : s.vm.findClass "com/example/unsplit/unsplit/CapacityIsWithinPinLaw" = some m.cls) (hc32 : (u2 &&& (1 : Int32)) = (0 : Int32))
    (hr : Steps p.tables e below (T.setTop (mkF m 44 #[.val (.long u0), .second, .val (.int u1), .val (.int u2), .val (.long k), .second, .val (.long q), .second, .val (.long (u1.toInt64)), .second, .unset, .unset, .unset, .unset, .unset] [])) target) : Steps p.tables e below (T.setTop (mkF m 29 #[.val (.long u0), .second, .val (.int u1), .val (.int u2), .val (.long k), .second, .val (.long q), .second, .val (.long (u1.toInt64)), .second, .unset, .unset, .unset, .unset, .unset] [])) target := by
  show Steps p.tables e below (T.setTop (mkF m 29 #[.val (.long u0), .second, .val (.int u1), .val (.int u2), .val (.long k), .second, .val (.long q), .second, .val (.long (u1.toInt64)), .second, .unset, .unset, .unset, .unset, .unset] [])) _
  refine XS.iloadN X.here hx rfl (hb hby at_29) rfl ?_
  show Steps p.tables e below (T.setTop (mkF m 30 #[.val (.long u0), .second, .val (.int u1), .val (.int u2), .val (.long k), .second, .val (.long q), .second, .val (.long (u1.toInt64)), .second, .unset, .unset, .unset, .unset, .unset] [(.int u2)])) _
  refine XS.iconst X.here hx rfl (hb hby at_30) ?_
  show Steps p.tables e below (T.setTop (mkF m 31 #[.val (.long u0), .second, .val (.int u1), .val (.int u2), .val (.long k), .second, .val (.long q), .second, .val (.long (u1.toInt64)), .second, .unset, .unset, .unset, .unset, .unset] [(.int (1 : Int32)), (.int u2)])) _
  refine XS.iand X.here hx rfl (hb hby at_31) rfl ?_
  show Steps p.tables e below (T.setTop (mkF m 32 #[.val (.long u0), .second, .val (.int u1), .val (.int u2), .val (.long k), .second, .val (.long q), .second, .val (.long (u1.toInt64)), .second, .unset, .unset, .unset, .unset, .unset] [(.int (u2 &&& (1 : Int32)))])) _
  refine XS.ifYes X.here hx rfl (pc0 := 32) (pc' := 44) rfl (hb hby at_32) rfl ((if0 _ _).trans (teq hc32).1) (by decide) (by decide) ?_
  exact hr
set_option maxRecDepth 65536 in
set_option maxHeartbeats 4000000 in
theorem sC_f {p : Program} {l : Launch} {e : Env} {R : Room} {s : State} {m : MethodId} {args : Array Value} {below : List Frame} {meth : Method} {c : Code} {T : State} {locs : List Loc} {cells slots : Nat} {Z : State} {a0 : Array Value} {target : State} {u0 : Int64} {u1 u2 : Int32} {k q : Int64} (X : Stand p l e R s m args below meth c T locs cells slots) (hx : p.tables.exec = Jvm.exec) (hZ : Z.Warmed39 s.vm) (hw : ∀ d ∈ tables_1, d.before a0 Z = true) (hby : c.code = code) (hown : s.vm.findClass "com/example/unsplit/unsplit/CapacityIsWithinPinLaw" = some m.cls) (hc32 : ¬ ((u2 &&& (1 : Int32)) = (0 : Int32)))
    (hr : Steps p.tables e below (T.setTop (mkF m 44 #[.val (.long u0), .second, .val (.int u1), .val (.int u2), .val (.long k), .second, .val (.long q), .second, .val (.long (q + ((u1 % (3 : Int32)).toInt64))), .second, .unset, .unset, .unset, .unset, .unset] [])) target) : Steps p.tables e below (T.setTop (mkF m 29 #[.val (.long u0), .second, .val (.int u1), .val (.int u2), .val (.long k), .second, .val (.long q), .second, .val (.long (u1.toInt64)), .second, .unset, .unset, .unset, .unset, .unset] [])) target := by
  show Steps p.tables e below (T.setTop (mkF m 29 #[.val (.long u0), .second, .val (.int u1), .val (.int u2), .val (.long k), .second, .val (.long q), .second, .val (.long (u1.toInt64)), .second, .unset, .unset, .unset, .unset, .unset] [])) _
  refine XS.iloadN X.here hx rfl (hb hby at_29) rfl ?_
  show Steps p.tables e below (T.setTop (mkF m 30 #[.val (.long u0), .second, .val (.int u1), .val (.int u2), .val (.long k), .second, .val (.long q), .second, .val (.long (u1.toInt64)), .second, .unset, .unset, .unset, .unset, .unset] [(.int u2)])) _
  refine XS.iconst X.here hx rfl (hb hby at_30) ?_
  show Steps p.tables e below (T.setTop (mkF m 31 #[.val (.long u0), .second, .val (.int u1), .val (.int u2), .val (.long k), .second, .val (.long q), .second, .val (.long (u1.toInt64)), .second, .unset, .unset, .unset, .unset, .unset] [(.int (1 : Int32)), (.int u2)])) _
  refine XS.iand X.here hx rfl (hb hby at_31) rfl ?_
  show Steps p.tables e below (T.setTop (mkF m 32 #[.val (.long u0), .second, .val (.int u1), .val (.int u2), .val (.long k), .second, .val (.long q), .second, .val (.long (u1.toInt64)), .second, .unset, .unset, .unset, .unset, .unset] [(.int (u2 &&& (1 : Int32)))])) _
  refine XS.ifNo X.here hx rfl (hb hby at_32) rfl ((if0 _ _).trans (feq hc32).1) ?_
  show Steps p.tables e below (T.setTop (mkF m 35 #[.val (.long u0), .second, .val (.int u1), .val (.int u2), .val (.long k), .second, .val (.long q), .second, .val (.long (u1.toInt64)), .second, .unset, .unset, .unset, .unset, .unset] [])) _
  refine XS.lload X.here hx rfl (hb hby at_35) rfl ?_
  show Steps p.tables e below (T.setTop (mkF m 37 #[.val (.long u0), .second, .val (.int u1), .val (.int u2), .val (.long k), .second, .val (.long q), .second, .val (.long (u1.toInt64)), .second, .unset, .unset, .unset, .unset, .unset] [(.long q)])) _
  refine XS.iloadN X.here hx rfl (hb hby at_37) rfl ?_
  show Steps p.tables e below (T.setTop (mkF m 38 #[.val (.long u0), .second, .val (.int u1), .val (.int u2), .val (.long k), .second, .val (.long q), .second, .val (.long (u1.toInt64)), .second, .unset, .unset, .unset, .unset, .unset] [(.int u1), (.long q)])) _
  refine XS.iconst X.here hx rfl (hb hby at_38) ?_
  show Steps p.tables e below (T.setTop (mkF m 39 #[.val (.long u0), .second, .val (.int u1), .val (.int u2), .val (.long k), .second, .val (.long q), .second, .val (.long (u1.toInt64)), .second, .unset, .unset, .unset, .unset, .unset] [(.int (3 : Int32)), (.int u1), (.long q)])) _
  refine own_irem X.here hx rfl (hb hby at_39) rfl (by decide) ?_
  show Steps p.tables e below (T.setTop (mkF m 40 #[.val (.long u0), .second, .val (.int u1), .val (.int u2), .val (.long k), .second, .val (.long q), .second, .val (.long (u1.toInt64)), .second, .unset, .unset, .unset, .unset, .unset] [(.int (u1 % (3 : Int32))), (.long q)])) _
  refine XS.i2l X.here hx rfl (hb hby at_40) rfl ?_
  show Steps p.tables e below (T.setTop (mkF m 41 #[.val (.long u0), .second, .val (.int u1), .val (.int u2), .val (.long k), .second, .val (.long q), .second, .val (.long (u1.toInt64)), .second, .unset, .unset, .unset, .unset, .unset] [(.long ((u1 % (3 : Int32)).toInt64)), (.long q)])) _
  refine XS.ladd X.here hx rfl (hb hby at_41) rfl ?_
  show Steps p.tables e below (T.setTop (mkF m 42 #[.val (.long u0), .second, .val (.int u1), .val (.int u2), .val (.long k), .second, .val (.long q), .second, .val (.long (u1.toInt64)), .second, .unset, .unset, .unset, .unset, .unset] [(.long (q + ((u1 % (3 : Int32)).toInt64)))])) _
  refine XS.lstore X.here hx rfl (hb hby at_42) rfl (l' := #[.val (.long u0), .second, .val (.int u1), .val (.int u2), .val (.long k), .second, .val (.long q), .second, .val (.long (q + ((u1 % (3 : Int32)).toInt64))), .second, .unset, .unset, .unset, .unset, .unset]) rfl ?_
  exact hr
theorem sC {p : Program} {l : Launch} {e : Env} {R : Room} {s : State} {m : MethodId} {args : Array Value} {below : List Frame} {meth : Method} {c : Code} {T : State} {locs : List Loc} {cells slots : Nat} {Z : State} {a0 : Array Value} {target : State} {u0 : Int64} {u1 u2 : Int32} {k q : Int64} (X : Stand p l e R s m args below meth c T locs cells slots) (hx : p.tables.exec = Jvm.exec) (hZ : Z.Warmed39 s.vm) (hw : ∀ d ∈ tables_1, d.before a0 Z = true) (hby : c.code = code) (hown : s.vm.findClass "com/example/unsplit/unsplit/CapacityIsWithinPinLaw" = some m.cls)
    (hr : Steps p.tables e below (T.setTop (mkF m 44 #[.val (.long u0), .second, .val (.int u1), .val (.int u2), .val (.long k), .second, .val (.long q), .second, .val (.long (diffQ q u1 u2)), .second, .unset, .unset, .unset, .unset, .unset] [])) target) : Steps p.tables e below (T.setTop (mkF m 29 #[.val (.long u0), .second, .val (.int u1), .val (.int u2), .val (.long k), .second, .val (.long q), .second, .val (.long (u1.toInt64)), .second, .unset, .unset, .unset, .unset, .unset] [])) target := by
  by_cases h : u2 &&& 1 = 0
  · rw [show diffQ q u1 u2 = u1.toInt64 from if_pos h] at hr
    exact sC_t X hx hZ hw hby hown h hr
  · rw [show diffQ q u1 u2 = q + (u1 % 3).toInt64 from if_neg h] at hr
    exact sC_f X hx hZ hw hby hown h hr
set_option maxRecDepth 65536 in
set_option maxHeartbeats 4000000 in
theorem sD_t {p : Program} {l : Launch} {e : Env} {R : Room} {s : State} {m : MethodId} {args : Array Value} {below : List Frame} {meth : Method} {c : Code} {T : State} {locs : List Loc} {cells slots : Nat} {Z : State} {a0 : Array Value} {target : State} {u0 : Int64} {u1 u2 : Int32} {k q dv : Int64} (X : Stand p l e R s m args below meth c T locs cells slots) (hx : p.tables.exec = Jvm.exec) (hZ : Z.Warmed39 s.vm) (hw : ∀ d ∈ tables_1, d.before a0 Z = true) (hby : c.code = code) (hown : s.vm.findClass "com/example/unsplit/unsplit/CapacityIsWithinPinLaw" = some m.cls) (hc62 : (0 : Int32) < (lcmpW dv q))
    (hr : Steps p.tables e below (T.setTop (mkF m 76 #[.val (.long u0), .second, .val (.int u1), .val (.int u2), .val (.long k), .second, .val (.long q), .second, .val (.long dv), .second, .val (.double (FP.l2d k)), .second, .val (.double (FP.l2d (k + dv))), .second, .val (.int (0 : Int32))] [(.double (FP.l2d k)), (.double (FP.l2d (k + dv)))])) target) : Steps p.tables e below (T.setTop (mkF m 44 #[.val (.long u0), .second, .val (.int u1), .val (.int u2), .val (.long k), .second, .val (.long q), .second, .val (.long dv), .second, .unset, .unset, .unset, .unset, .unset] [])) target := by
  show Steps p.tables e below (T.setTop (mkF m 44 #[.val (.long u0), .second, .val (.int u1), .val (.int u2), .val (.long k), .second, .val (.long q), .second, .val (.long dv), .second, .unset, .unset, .unset, .unset, .unset] [])) _
  refine XS.lload X.here hx rfl (hb hby at_44) rfl ?_
  show Steps p.tables e below (T.setTop (mkF m 46 #[.val (.long u0), .second, .val (.int u1), .val (.int u2), .val (.long k), .second, .val (.long q), .second, .val (.long dv), .second, .unset, .unset, .unset, .unset, .unset] [(.long k)])) _
  refine XS.l2dS X.here hx rfl (hb hby at_46) rfl (v := (FP.l2d k)) rfl ?_
  show Steps p.tables e below (T.setTop (mkF m 47 #[.val (.long u0), .second, .val (.int u1), .val (.int u2), .val (.long k), .second, .val (.long q), .second, .val (.long dv), .second, .unset, .unset, .unset, .unset, .unset] [(.double (FP.l2d k))])) _
  refine XS.dstore X.here hx rfl (hb hby at_47) rfl (l' := #[.val (.long u0), .second, .val (.int u1), .val (.int u2), .val (.long k), .second, .val (.long q), .second, .val (.long dv), .second, .val (.double (FP.l2d k)), .second, .unset, .unset, .unset]) rfl ?_
  show Steps p.tables e below (T.setTop (mkF m 49 #[.val (.long u0), .second, .val (.int u1), .val (.int u2), .val (.long k), .second, .val (.long q), .second, .val (.long dv), .second, .val (.double (FP.l2d k)), .second, .unset, .unset, .unset] [])) _
  refine XS.lload X.here hx rfl (hb hby at_49) rfl ?_
  show Steps p.tables e below (T.setTop (mkF m 51 #[.val (.long u0), .second, .val (.int u1), .val (.int u2), .val (.long k), .second, .val (.long q), .second, .val (.long dv), .second, .val (.double (FP.l2d k)), .second, .unset, .unset, .unset] [(.long k)])) _
  refine XS.lload X.here hx rfl (hb hby at_51) rfl ?_
  show Steps p.tables e below (T.setTop (mkF m 53 #[.val (.long u0), .second, .val (.int u1), .val (.int u2), .val (.long k), .second, .val (.long q), .second, .val (.long dv), .second, .val (.double (FP.l2d k)), .second, .unset, .unset, .unset] [(.long dv), (.long k)])) _
  refine XS.ladd X.here hx rfl (hb hby at_53) rfl ?_
  show Steps p.tables e below (T.setTop (mkF m 54 #[.val (.long u0), .second, .val (.int u1), .val (.int u2), .val (.long k), .second, .val (.long q), .second, .val (.long dv), .second, .val (.double (FP.l2d k)), .second, .unset, .unset, .unset] [(.long (k + dv))])) _
  refine XS.l2dS X.here hx rfl (hb hby at_54) rfl (v := (FP.l2d (k + dv))) rfl ?_
  show Steps p.tables e below (T.setTop (mkF m 55 #[.val (.long u0), .second, .val (.int u1), .val (.int u2), .val (.long k), .second, .val (.long q), .second, .val (.long dv), .second, .val (.double (FP.l2d k)), .second, .unset, .unset, .unset] [(.double (FP.l2d (k + dv)))])) _
  refine XS.dstore X.here hx rfl (hb hby at_55) rfl (l' := #[.val (.long u0), .second, .val (.int u1), .val (.int u2), .val (.long k), .second, .val (.long q), .second, .val (.long dv), .second, .val (.double (FP.l2d k)), .second, .val (.double (FP.l2d (k + dv))), .second, .unset]) rfl ?_
  show Steps p.tables e below (T.setTop (mkF m 57 #[.val (.long u0), .second, .val (.int u1), .val (.int u2), .val (.long k), .second, .val (.long q), .second, .val (.long dv), .second, .val (.double (FP.l2d k)), .second, .val (.double (FP.l2d (k + dv))), .second, .unset] [])) _
  refine XS.lload X.here hx rfl (hb hby at_57) rfl ?_
  show Steps p.tables e below (T.setTop (mkF m 59 #[.val (.long u0), .second, .val (.int u1), .val (.int u2), .val (.long k), .second, .val (.long q), .second, .val (.long dv), .second, .val (.double (FP.l2d k)), .second, .val (.double (FP.l2d (k + dv))), .second, .unset] [(.long dv)])) _
  refine XS.lload X.here hx rfl (hb hby at_59) rfl ?_
  show Steps p.tables e below (T.setTop (mkF m 61 #[.val (.long u0), .second, .val (.int u1), .val (.int u2), .val (.long k), .second, .val (.long q), .second, .val (.long dv), .second, .val (.double (FP.l2d k)), .second, .val (.double (FP.l2d (k + dv))), .second, .unset] [(.long q), (.long dv)])) _
  refine XS.lcmp X.here hx rfl (hb hby at_61) rfl ?_
  show Steps p.tables e below (T.setTop (mkF m 62 #[.val (.long u0), .second, .val (.int u1), .val (.int u2), .val (.long k), .second, .val (.long q), .second, .val (.long dv), .second, .val (.double (FP.l2d k)), .second, .val (.double (FP.l2d (k + dv))), .second, .unset] [(.int (lcmpW dv q))])) _
  refine XS.ifYes X.here hx rfl (pc0 := 62) (pc' := 69) rfl (hb hby at_62) rfl ((if0 _ _).trans (tlt hc62).2.2.1) (by decide) (by decide) ?_
  show Steps p.tables e below (T.setTop (mkF m 69 #[.val (.long u0), .second, .val (.int u1), .val (.int u2), .val (.long k), .second, .val (.long q), .second, .val (.long dv), .second, .val (.double (FP.l2d k)), .second, .val (.double (FP.l2d (k + dv))), .second, .unset] [])) _
  refine XS.iconst X.here hx rfl (hb hby at_69) ?_
  show Steps p.tables e below (T.setTop (mkF m 70 #[.val (.long u0), .second, .val (.int u1), .val (.int u2), .val (.long k), .second, .val (.long q), .second, .val (.long dv), .second, .val (.double (FP.l2d k)), .second, .val (.double (FP.l2d (k + dv))), .second, .unset] [(.int (0 : Int32))])) _
  refine XS.istore X.here hx rfl (hb hby at_70) rfl (l' := #[.val (.long u0), .second, .val (.int u1), .val (.int u2), .val (.long k), .second, .val (.long q), .second, .val (.long dv), .second, .val (.double (FP.l2d k)), .second, .val (.double (FP.l2d (k + dv))), .second, .val (.int (0 : Int32))]) rfl ?_
  show Steps p.tables e below (T.setTop (mkF m 72 #[.val (.long u0), .second, .val (.int u1), .val (.int u2), .val (.long k), .second, .val (.long q), .second, .val (.long dv), .second, .val (.double (FP.l2d k)), .second, .val (.double (FP.l2d (k + dv))), .second, .val (.int (0 : Int32))] [])) _
  refine XS.dload X.here hx rfl (hb hby at_72) rfl ?_
  show Steps p.tables e below (T.setTop (mkF m 74 #[.val (.long u0), .second, .val (.int u1), .val (.int u2), .val (.long k), .second, .val (.long q), .second, .val (.long dv), .second, .val (.double (FP.l2d k)), .second, .val (.double (FP.l2d (k + dv))), .second, .val (.int (0 : Int32))] [(.double (FP.l2d (k + dv)))])) _
  refine XS.dload X.here hx rfl (hb hby at_74) rfl ?_
  exact hr
set_option maxRecDepth 65536 in
set_option maxHeartbeats 4000000 in
theorem sD_f {p : Program} {l : Launch} {e : Env} {R : Room} {s : State} {m : MethodId} {args : Array Value} {below : List Frame} {meth : Method} {c : Code} {T : State} {locs : List Loc} {cells slots : Nat} {Z : State} {a0 : Array Value} {target : State} {u0 : Int64} {u1 u2 : Int32} {k q dv : Int64} (X : Stand p l e R s m args below meth c T locs cells slots) (hx : p.tables.exec = Jvm.exec) (hZ : Z.Warmed39 s.vm) (hw : ∀ d ∈ tables_1, d.before a0 Z = true) (hby : c.code = code) (hown : s.vm.findClass "com/example/unsplit/unsplit/CapacityIsWithinPinLaw" = some m.cls) (hc62 : ¬ ((0 : Int32) < (lcmpW dv q)))
    (hr : Steps p.tables e below (T.setTop (mkF m 76 #[.val (.long u0), .second, .val (.int u1), .val (.int u2), .val (.long k), .second, .val (.long q), .second, .val (.long dv), .second, .val (.double (FP.l2d k)), .second, .val (.double (FP.l2d (k + dv))), .second, .val (.int (1 : Int32))] [(.double (FP.l2d k)), (.double (FP.l2d (k + dv)))])) target) : Steps p.tables e below (T.setTop (mkF m 44 #[.val (.long u0), .second, .val (.int u1), .val (.int u2), .val (.long k), .second, .val (.long q), .second, .val (.long dv), .second, .unset, .unset, .unset, .unset, .unset] [])) target := by
  show Steps p.tables e below (T.setTop (mkF m 44 #[.val (.long u0), .second, .val (.int u1), .val (.int u2), .val (.long k), .second, .val (.long q), .second, .val (.long dv), .second, .unset, .unset, .unset, .unset, .unset] [])) _
  refine XS.lload X.here hx rfl (hb hby at_44) rfl ?_
  show Steps p.tables e below (T.setTop (mkF m 46 #[.val (.long u0), .second, .val (.int u1), .val (.int u2), .val (.long k), .second, .val (.long q), .second, .val (.long dv), .second, .unset, .unset, .unset, .unset, .unset] [(.long k)])) _
  refine XS.l2dS X.here hx rfl (hb hby at_46) rfl (v := (FP.l2d k)) rfl ?_
  show Steps p.tables e below (T.setTop (mkF m 47 #[.val (.long u0), .second, .val (.int u1), .val (.int u2), .val (.long k), .second, .val (.long q), .second, .val (.long dv), .second, .unset, .unset, .unset, .unset, .unset] [(.double (FP.l2d k))])) _
  refine XS.dstore X.here hx rfl (hb hby at_47) rfl (l' := #[.val (.long u0), .second, .val (.int u1), .val (.int u2), .val (.long k), .second, .val (.long q), .second, .val (.long dv), .second, .val (.double (FP.l2d k)), .second, .unset, .unset, .unset]) rfl ?_
  show Steps p.tables e below (T.setTop (mkF m 49 #[.val (.long u0), .second, .val (.int u1), .val (.int u2), .val (.long k), .second, .val (.long q), .second, .val (.long dv), .second, .val (.double (FP.l2d k)), .second, .unset, .unset, .unset] [])) _
  refine XS.lload X.here hx rfl (hb hby at_49) rfl ?_
  show Steps p.tables e below (T.setTop (mkF m 51 #[.val (.long u0), .second, .val (.int u1), .val (.int u2), .val (.long k), .second, .val (.long q), .second, .val (.long dv), .second, .val (.double (FP.l2d k)), .second, .unset, .unset, .unset] [(.long k)])) _
  refine XS.lload X.here hx rfl (hb hby at_51) rfl ?_
  show Steps p.tables e below (T.setTop (mkF m 53 #[.val (.long u0), .second, .val (.int u1), .val (.int u2), .val (.long k), .second, .val (.long q), .second, .val (.long dv), .second, .val (.double (FP.l2d k)), .second, .unset, .unset, .unset] [(.long dv), (.long k)])) _
  refine XS.ladd X.here hx rfl (hb hby at_53) rfl ?_
  show Steps p.tables e below (T.setTop (mkF m 54 #[.val (.long u0), .second, .val (.int u1), .val (.int u2), .val (.long k), .second, .val (.long q), .second, .val (.long dv), .second, .val (.double (FP.l2d k)), .second, .unset, .unset, .unset] [(.long (k + dv))])) _
  refine XS.l2dS X.here hx rfl (hb hby at_54) rfl (v := (FP.l2d (k + dv))) rfl ?_
  show Steps p.tables e below (T.setTop (mkF m 55 #[.val (.long u0), .second, .val (.int u1), .val (.int u2), .val (.long k), .second, .val (.long q), .second, .val (.long dv), .second, .val (.double (FP.l2d k)), .second, .unset, .unset, .unset] [(.double (FP.l2d (k + dv)))])) _
  refine XS.dstore X.here hx rfl (hb hby at_55) rfl (l' := #[.val (.long u0), .second, .val (.int u1), .val (.int u2), .val (.long k), .second, .val (.long q), .second, .val (.long dv), .second, .val (.double (FP.l2d k)), .second, .val (.double (FP.l2d (k + dv))), .second, .unset]) rfl ?_
  show Steps p.tables e below (T.setTop (mkF m 57 #[.val (.long u0), .second, .val (.int u1), .val (.int u2), .val (.long k), .second, .val (.long q), .second, .val (.long dv), .second, .val (.double (FP.l2d k)), .second, .val (.double (FP.l2d (k + dv))), .second, .unset] [])) _
  refine XS.lload X.here hx rfl (hb hby at_57) rfl ?_
  show Steps p.tables e below (T.setTop (mkF m 59 #[.val (.long u0), .second, .val (.int u1), .val (.int u2), .val (.long k), .second, .val (.long q), .second, .val (.long dv), .second, .val (.double (FP.l2d k)), .second, .val (.double (FP.l2d (k + dv))), .second, .unset] [(.long dv)])) _
  refine XS.lload X.here hx rfl (hb hby at_59) rfl ?_
  show Steps p.tables e below (T.setTop (mkF m 61 #[.val (.long u0), .second, .val (.int u1), .val (.int u2), .val (.long k), .second, .val (.long q), .second, .val (.long dv), .second, .val (.double (FP.l2d k)), .second, .val (.double (FP.l2d (k + dv))), .second, .unset] [(.long q), (.long dv)])) _
  refine XS.lcmp X.here hx rfl (hb hby at_61) rfl ?_
  show Steps p.tables e below (T.setTop (mkF m 62 #[.val (.long u0), .second, .val (.int u1), .val (.int u2), .val (.long k), .second, .val (.long q), .second, .val (.long dv), .second, .val (.double (FP.l2d k)), .second, .val (.double (FP.l2d (k + dv))), .second, .unset] [(.int (lcmpW dv q))])) _
  refine XS.ifNo X.here hx rfl (hb hby at_62) rfl ((if0 _ _).trans (flt hc62).2.2.1) ?_
  show Steps p.tables e below (T.setTop (mkF m 65 #[.val (.long u0), .second, .val (.int u1), .val (.int u2), .val (.long k), .second, .val (.long q), .second, .val (.long dv), .second, .val (.double (FP.l2d k)), .second, .val (.double (FP.l2d (k + dv))), .second, .unset] [])) _
  refine XS.iconst X.here hx rfl (hb hby at_65) ?_
  show Steps p.tables e below (T.setTop (mkF m 66 #[.val (.long u0), .second, .val (.int u1), .val (.int u2), .val (.long k), .second, .val (.long q), .second, .val (.long dv), .second, .val (.double (FP.l2d k)), .second, .val (.double (FP.l2d (k + dv))), .second, .unset] [(.int (1 : Int32))])) _
  refine XS.goto X.here hx rfl (pc0 := 66) (pc' := 70) rfl (hb hby at_66) (by decide) (by decide) ?_
  show Steps p.tables e below (T.setTop (mkF m 70 #[.val (.long u0), .second, .val (.int u1), .val (.int u2), .val (.long k), .second, .val (.long q), .second, .val (.long dv), .second, .val (.double (FP.l2d k)), .second, .val (.double (FP.l2d (k + dv))), .second, .unset] [(.int (1 : Int32))])) _
  refine XS.istore X.here hx rfl (hb hby at_70) rfl (l' := #[.val (.long u0), .second, .val (.int u1), .val (.int u2), .val (.long k), .second, .val (.long q), .second, .val (.long dv), .second, .val (.double (FP.l2d k)), .second, .val (.double (FP.l2d (k + dv))), .second, .val (.int (1 : Int32))]) rfl ?_
  show Steps p.tables e below (T.setTop (mkF m 72 #[.val (.long u0), .second, .val (.int u1), .val (.int u2), .val (.long k), .second, .val (.long q), .second, .val (.long dv), .second, .val (.double (FP.l2d k)), .second, .val (.double (FP.l2d (k + dv))), .second, .val (.int (1 : Int32))] [])) _
  refine XS.dload X.here hx rfl (hb hby at_72) rfl ?_
  show Steps p.tables e below (T.setTop (mkF m 74 #[.val (.long u0), .second, .val (.int u1), .val (.int u2), .val (.long k), .second, .val (.long q), .second, .val (.long dv), .second, .val (.double (FP.l2d k)), .second, .val (.double (FP.l2d (k + dv))), .second, .val (.int (1 : Int32))] [(.double (FP.l2d (k + dv)))])) _
  refine XS.dload X.here hx rfl (hb hby at_74) rfl ?_
  exact hr
theorem ef_code (m : MethodId) (x0 : Int64) (x1 : Int32) (x2 : Int32) : entryFrame m #[(.long x0), (.int x1), (.int x2)] maxLocals = mkF m 0 #[.val (.long x0), .second, .val (.int x1), .val (.int x2), .unset, .unset, .unset, .unset, .unset, .unset, .unset, .unset, .unset, .unset, .unset] [] := by first | (simp [entryFrame, mkF, argsToLocals, Value.category, maxLocals]; done) | rfl
set_option maxRecDepth 65536 in
set_option maxHeartbeats 40000000 in
theorem rm0_f (l : Launch) (Z : State) (a0 : Array Value) (hw : ∀ d ∈ tables_1, d.before a0 Z = true) (ws : List Jvm.Cond) (u0 : Int64) (u1 u2 : Int32) (h0 : Heap) (n0 : Nat) (Z0 : n0 ≤ h0.size) (hd : ¬ (0 < lcmpW (diffL u0 u1 u2) (capL u0 / 1000000000))) (n1 : Jvm.Free.Fl.NoNaN64 (FP.dsub (FP.l2d (capL u0 + diffL u0 u1 u2)) (FP.l2d (capL u0)))) (n2 : Jvm.Free.Fl.NoNaN64 (FP.dmul 4472406533629990549 (FP.l2d (capL u0)))) (n3 : ¬ (0 < cmpValue (FP.dcmp (FP.dsub (FP.l2d (capL u0 + diffL u0 u1 u2)) (FP.l2d (capL u0))) (FP.dmul 4472406533629990549 (FP.l2d (capL u0)))) .g)) :
    MetFree l x (head1 (Jvm.Cond.code x code maxLocals ret :: ws) room_1) (fun aa U => aa = #[(.long u0), (.int u1), (.int u2)] ∧ Z.Warmed39 U.vm ∧ U.heap = h0) (fun _ _ _ _ _ => True) (fun _ U o U' => ∃ v L, o = .returned v ∧ Q0 n0 v U'.heap L ∧ FrameEnd U o U' L 0 0) := by
  refine MetFree.of_bodySF (plainFor_of_name pn_code) hisR ?_
  intro p e s m args below meth c s₁ Bd hml0 hP hK
  obtain ⟨rfl, hZ, hh⟩ := hP
  have hx := Bd.exec
  have hby := Bd.bytes
  have hml : c.maxLocals = 15 := hml0
  have hown : s.vm.findClass "com/example/unsplit/unsplit/CapacityIsWithinPinLaw" = some m.cls := findClass_of_methodNamed Bd.named
  have hnm := (name_of_methodNamed Bd.named Bd.method).1
  have X0 : Stand p l e room_1 s m #[(.long u0), (.int u1), (.int u2)] below meth c s₁ [] 0 0 := Stand.of_body Bd
  have e0 : s₁.heap = h0 := by rw [← hh, Bd.state]; rfl
  have N0 := Fr.nil n0
  have pre0 : ∀ t, Steps p.tables e below (s₁.setTop (mkF m 0 #[.val (.long u0), .second, .val (.int u1), .val (.int u2), .unset, .unset, .unset, .unset, .unset, .unset, .unset, .unset, .unset, .unset, .unset] [])) t → Steps p.tables e below (s₁.setTop (entryFrame m #[(.long u0), (.int u1), (.int u2)] maxLocals)) t := fun t k => castTop (ef_code m u0 u1 u2) k
  obtain ⟨_, _, ⟨T1, L1, k1, n1⟩, -, X1, ⟨Lc1, hQ1, l1, y1, z1⟩, st1⟩ := Jvm.LawKit.callS X0 hx (y := (⟨"com/example/unsplit/unsplit/Capacity", "isWithin", "(DD)Z"⟩ : MethodName)) hown (mvT hZ (hw _ (List.mem_of_getElem? (i := 2) rfl))) (mvT hZ (hw _ (List.mem_of_getElem? (i := 3) rfl))) (mvT hZ (hw _ (List.mem_of_getElem? (i := 4) rfl))) (mvT hZ (hw _ (List.mem_of_getElem? (i := 5) rfl))) (by decide) (backOf (W := 0) (rmW_f l Z a0 hw [] (FP.l2d ((capL u0) + (diffL u0 u1 u2))) (FP.l2d (capL u0)) h0 n0 Z0 n1 n2 n3) hZ (hw _ (List.mem_of_getElem? (i := 5) rfl)) (hw _ (List.mem_of_getElem? (i := 4) rfl)) (by decide) (by decide)) (g := (mkF m 76 #[.val (.long u0), .second, .val (.int u1), .val (.int u2), .val (.long (capL u0)), .second, .val (.long (capL u0 / 1000000000)), .second, .val (.long (diffL u0 u1 u2)), .second, .val (.double (FP.l2d (capL u0))), .second, .val (.double (FP.l2d ((capL u0) + (diffL u0 u1 u2)))), .second, .val (.int (1 : Int32))] [(.double (FP.l2d (capL u0))), (.double (FP.l2d ((capL u0) + (diffL u0 u1 u2))))])) rfl (by rw [hml]; rfl) (argsL := [(.double (FP.l2d ((capL u0) + (diffL u0 u1 u2)))), (.double (FP.l2d (capL u0)))]) (rest := []) (lenOf pd__DD_Z rfl) rfl (by show 2 * 0 + _ ≤ _; exact Nat.le_of_eq rfl) (hb hby at_76) (fun _ _ => ⟨rfl, e0, (by decide : 0 + 0 ≤ _), (by decide : 0 + 0 ≤ _)⟩)
  dsimp only [Pt.U, Pt.locs, Pt.cells, Pt.slots] at X1 l1 y1 z1 st1 hQ1
  subst l1 y1 z1
  obtain ⟨rfl, N1q, K1⟩ := hQ1
  obtain ⟨fs, hr, hrun, hended, hW, hsame⟩ := X1.leave (v := some (.int (1 : Int32))) (fun h => by rw [Bd.returns] at h; cases h)
  refine ⟨_, _, pre0 _ ?_, hrun, hended, _, _, rfl, ?_, ⟨_, rfl⟩, hW, hsame.mono (by decide) (by decide)⟩
  · show Steps p.tables e below (s₁.setTop (mkF m 0 #[.val (.long u0), .second, .val (.int u1), .val (.int u2), .unset, .unset, .unset, .unset, .unset, .unset, .unset, .unset, .unset, .unset, .unset] [])) _
    refine sA X0 hx hZ hw hby hown  ?_
    show Steps p.tables e below (s₁.setTop (mkF m 17 #[.val (.long u0), .second, .val (.int u1), .val (.int u2), .val (.long (capL u0)), .second, .unset, .unset, .unset, .unset, .unset, .unset, .unset, .unset, .unset] [])) _
    refine sB X0 hx hZ hw hby hown  ?_
    show Steps p.tables e below (s₁.setTop (mkF m 29 #[.val (.long u0), .second, .val (.int u1), .val (.int u2), .val (.long (capL u0)), .second, .val (.long (capL u0 / 1000000000)), .second, .val (.long (u1.toInt64)), .second, .unset, .unset, .unset, .unset, .unset] [])) _
    refine sC X0 hx hZ hw hby hown  ?_
    show Steps p.tables e below (s₁.setTop (mkF m 44 #[.val (.long u0), .second, .val (.int u1), .val (.int u2), .val (.long (capL u0)), .second, .val (.long (capL u0 / 1000000000)), .second, .val (.long (diffL u0 u1 u2)), .second, .unset, .unset, .unset, .unset, .unset] [])) _
    refine sD_f X0 hx hZ hw hby hown hd ?_
    show Steps p.tables e below (s₁.setTop (mkF m 76 #[.val (.long u0), .second, .val (.int u1), .val (.int u2), .val (.long (capL u0)), .second, .val (.long (capL u0 / 1000000000)), .second, .val (.long (diffL u0 u1 u2)), .second, .val (.double (FP.l2d (capL u0))), .second, .val (.double (FP.l2d ((capL u0) + (diffL u0 u1 u2)))), .second, .val (.int (1 : Int32))] [(.double (FP.l2d (capL u0))), (.double (FP.l2d ((capL u0) + (diffL u0 u1 u2))))])) _
    refine st1 _ ?_
    show Steps p.tables e below (T1.setTop (mkF m 79 #[.val (.long u0), .second, .val (.int u1), .val (.int u2), .val (.long (capL u0)), .second, .val (.long (capL u0 / 1000000000)), .second, .val (.long (diffL u0 u1 u2)), .second, .val (.double (FP.l2d (capL u0))), .second, .val (.double (FP.l2d ((capL u0) + (diffL u0 u1 u2)))), .second, .val (.int (1 : Int32))] [(.int (1 : Int32))])) _
    refine XS.iload X1.here hx rfl (hb hby at_79) rfl ?_
    show Steps p.tables e below (T1.setTop (mkF m 81 #[.val (.long u0), .second, .val (.int u1), .val (.int u2), .val (.long (capL u0)), .second, .val (.long (capL u0 / 1000000000)), .second, .val (.long (diffL u0 u1 u2)), .second, .val (.double (FP.l2d (capL u0))), .second, .val (.double (FP.l2d ((capL u0) + (diffL u0 u1 u2)))), .second, .val (.int (1 : Int32))] [(.int (1 : Int32)), (.int (1 : Int32))])) _
    refine XS.icmpNo X1.here hx rfl (hb hby at_81) rfl (teq (rfl : (1 : Int32) = (1 : Int32))).2 ?_
    show Steps p.tables e below (T1.setTop (mkF m 84 #[.val (.long u0), .second, .val (.int u1), .val (.int u2), .val (.long (capL u0)), .second, .val (.long (capL u0 / 1000000000)), .second, .val (.long (diffL u0 u1 u2)), .second, .val (.double (FP.l2d (capL u0))), .second, .val (.double (FP.l2d ((capL u0) + (diffL u0 u1 u2)))), .second, .val (.int (1 : Int32))] [])) _
    refine XS.iconst X1.here hx rfl (hb hby at_84) ?_
    show Steps p.tables e below (T1.setTop (mkF m 85 #[.val (.long u0), .second, .val (.int u1), .val (.int u2), .val (.long (capL u0)), .second, .val (.long (capL u0 / 1000000000)), .second, .val (.long (diffL u0 u1 u2)), .second, .val (.double (FP.l2d (capL u0))), .second, .val (.double (FP.l2d ((capL u0) + (diffL u0 u1 u2)))), .second, .val (.int (1 : Int32))] [(.int (1 : Int32))])) _
    refine XS.goto X1.here hx rfl (pc0 := 85) (pc' := 89) rfl (hb hby at_85) (by decide) (by decide) ?_
    show Steps p.tables e below (T1.setTop (mkF m 89 #[.val (.long u0), .second, .val (.int u1), .val (.int u2), .val (.long (capL u0)), .second, .val (.long (capL u0 / 1000000000)), .second, .val (.long (diffL u0 u1 u2)), .second, .val (.double (FP.l2d (capL u0))), .second, .val (.double (FP.l2d ((capL u0) + (diffL u0 u1 u2)))), .second, .val (.int (1 : Int32))] [(.int (1 : Int32))])) _
    exact retN X1 hx (t := .boolean) Bd.returns (by simp) (hb hby at_89) hr
  · show Q0 n0 _ T1.heap _
    exact ⟨rfl, Fr.app N0 N1q⟩
set_option maxRecDepth 65536 in
set_option maxHeartbeats 40000000 in
theorem rm0_t (l : Launch) (Z : State) (a0 : Array Value) (hw : ∀ d ∈ tables_1, d.before a0 Z = true) (ws : List Jvm.Cond) (u0 : Int64) (u1 u2 : Int32) (h0 : Heap) (n0 : Nat) (Z0 : n0 ≤ h0.size) (hd : 0 < lcmpW (diffL u0 u1 u2) (capL u0 / 1000000000)) (n1 : Jvm.Free.Fl.NoNaN64 (FP.dsub (FP.l2d (capL u0 + diffL u0 u1 u2)) (FP.l2d (capL u0)))) (n2 : Jvm.Free.Fl.NoNaN64 (FP.dmul 4472406533629990549 (FP.l2d (capL u0)))) (n3 : 0 < cmpValue (FP.dcmp (FP.dsub (FP.l2d (capL u0 + diffL u0 u1 u2)) (FP.l2d (capL u0))) (FP.dmul 4472406533629990549 (FP.l2d (capL u0)))) .g) :
    MetFree l x (head1 (Jvm.Cond.code x code maxLocals ret :: ws) room_1) (fun aa U => aa = #[(.long u0), (.int u1), (.int u2)] ∧ Z.Warmed39 U.vm ∧ U.heap = h0) (fun _ _ _ _ _ => True) (fun _ U o U' => ∃ v L, o = .returned v ∧ Q0 n0 v U'.heap L ∧ FrameEnd U o U' L 0 0) := by
  refine MetFree.of_bodySF (plainFor_of_name pn_code) hisR ?_
  intro p e s m args below meth c s₁ Bd hml0 hP hK
  obtain ⟨rfl, hZ, hh⟩ := hP
  have hx := Bd.exec
  have hby := Bd.bytes
  have hml : c.maxLocals = 15 := hml0
  have hown : s.vm.findClass "com/example/unsplit/unsplit/CapacityIsWithinPinLaw" = some m.cls := findClass_of_methodNamed Bd.named
  have hnm := (name_of_methodNamed Bd.named Bd.method).1
  have X0 : Stand p l e room_1 s m #[(.long u0), (.int u1), (.int u2)] below meth c s₁ [] 0 0 := Stand.of_body Bd
  have e0 : s₁.heap = h0 := by rw [← hh, Bd.state]; rfl
  have N0 := Fr.nil n0
  have pre0 : ∀ t, Steps p.tables e below (s₁.setTop (mkF m 0 #[.val (.long u0), .second, .val (.int u1), .val (.int u2), .unset, .unset, .unset, .unset, .unset, .unset, .unset, .unset, .unset, .unset, .unset] [])) t → Steps p.tables e below (s₁.setTop (entryFrame m #[(.long u0), (.int u1), (.int u2)] maxLocals)) t := fun t k => castTop (ef_code m u0 u1 u2) k
  obtain ⟨_, _, ⟨T1, L1, k1, n1⟩, -, X1, ⟨Lc1, hQ1, l1, y1, z1⟩, st1⟩ := Jvm.LawKit.callS X0 hx (y := (⟨"com/example/unsplit/unsplit/Capacity", "isWithin", "(DD)Z"⟩ : MethodName)) hown (mvT hZ (hw _ (List.mem_of_getElem? (i := 2) rfl))) (mvT hZ (hw _ (List.mem_of_getElem? (i := 3) rfl))) (mvT hZ (hw _ (List.mem_of_getElem? (i := 4) rfl))) (mvT hZ (hw _ (List.mem_of_getElem? (i := 5) rfl))) (by decide) (backOf (W := 0) (rmW_t l Z a0 hw [] (FP.l2d ((capL u0) + (diffL u0 u1 u2))) (FP.l2d (capL u0)) h0 n0 Z0 n1 n2 n3) hZ (hw _ (List.mem_of_getElem? (i := 5) rfl)) (hw _ (List.mem_of_getElem? (i := 4) rfl)) (by decide) (by decide)) (g := (mkF m 76 #[.val (.long u0), .second, .val (.int u1), .val (.int u2), .val (.long (capL u0)), .second, .val (.long (capL u0 / 1000000000)), .second, .val (.long (diffL u0 u1 u2)), .second, .val (.double (FP.l2d (capL u0))), .second, .val (.double (FP.l2d ((capL u0) + (diffL u0 u1 u2)))), .second, .val (.int (0 : Int32))] [(.double (FP.l2d (capL u0))), (.double (FP.l2d ((capL u0) + (diffL u0 u1 u2))))])) rfl (by rw [hml]; rfl) (argsL := [(.double (FP.l2d ((capL u0) + (diffL u0 u1 u2)))), (.double (FP.l2d (capL u0)))]) (rest := []) (lenOf pd__DD_Z rfl) rfl (by show 2 * 0 + _ ≤ _; exact Nat.le_of_eq rfl) (hb hby at_76) (fun _ _ => ⟨rfl, e0, (by decide : 0 + 0 ≤ _), (by decide : 0 + 0 ≤ _)⟩)
  dsimp only [Pt.U, Pt.locs, Pt.cells, Pt.slots] at X1 l1 y1 z1 st1 hQ1
  subst l1 y1 z1
  obtain ⟨rfl, N1q, K1⟩ := hQ1
  obtain ⟨fs, hr, hrun, hended, hW, hsame⟩ := X1.leave (v := some (.int (1 : Int32))) (fun h => by rw [Bd.returns] at h; cases h)
  refine ⟨_, _, pre0 _ ?_, hrun, hended, _, _, rfl, ?_, ⟨_, rfl⟩, hW, hsame.mono (by decide) (by decide)⟩
  · show Steps p.tables e below (s₁.setTop (mkF m 0 #[.val (.long u0), .second, .val (.int u1), .val (.int u2), .unset, .unset, .unset, .unset, .unset, .unset, .unset, .unset, .unset, .unset, .unset] [])) _
    refine sA X0 hx hZ hw hby hown  ?_
    show Steps p.tables e below (s₁.setTop (mkF m 17 #[.val (.long u0), .second, .val (.int u1), .val (.int u2), .val (.long (capL u0)), .second, .unset, .unset, .unset, .unset, .unset, .unset, .unset, .unset, .unset] [])) _
    refine sB X0 hx hZ hw hby hown  ?_
    show Steps p.tables e below (s₁.setTop (mkF m 29 #[.val (.long u0), .second, .val (.int u1), .val (.int u2), .val (.long (capL u0)), .second, .val (.long (capL u0 / 1000000000)), .second, .val (.long (u1.toInt64)), .second, .unset, .unset, .unset, .unset, .unset] [])) _
    refine sC X0 hx hZ hw hby hown  ?_
    show Steps p.tables e below (s₁.setTop (mkF m 44 #[.val (.long u0), .second, .val (.int u1), .val (.int u2), .val (.long (capL u0)), .second, .val (.long (capL u0 / 1000000000)), .second, .val (.long (diffL u0 u1 u2)), .second, .unset, .unset, .unset, .unset, .unset] [])) _
    refine sD_t X0 hx hZ hw hby hown hd ?_
    show Steps p.tables e below (s₁.setTop (mkF m 76 #[.val (.long u0), .second, .val (.int u1), .val (.int u2), .val (.long (capL u0)), .second, .val (.long (capL u0 / 1000000000)), .second, .val (.long (diffL u0 u1 u2)), .second, .val (.double (FP.l2d (capL u0))), .second, .val (.double (FP.l2d ((capL u0) + (diffL u0 u1 u2)))), .second, .val (.int (0 : Int32))] [(.double (FP.l2d (capL u0))), (.double (FP.l2d ((capL u0) + (diffL u0 u1 u2))))])) _
    refine st1 _ ?_
    show Steps p.tables e below (T1.setTop (mkF m 79 #[.val (.long u0), .second, .val (.int u1), .val (.int u2), .val (.long (capL u0)), .second, .val (.long (capL u0 / 1000000000)), .second, .val (.long (diffL u0 u1 u2)), .second, .val (.double (FP.l2d (capL u0))), .second, .val (.double (FP.l2d ((capL u0) + (diffL u0 u1 u2)))), .second, .val (.int (0 : Int32))] [(.int (0 : Int32))])) _
    refine XS.iload X1.here hx rfl (hb hby at_79) rfl ?_
    show Steps p.tables e below (T1.setTop (mkF m 81 #[.val (.long u0), .second, .val (.int u1), .val (.int u2), .val (.long (capL u0)), .second, .val (.long (capL u0 / 1000000000)), .second, .val (.long (diffL u0 u1 u2)), .second, .val (.double (FP.l2d (capL u0))), .second, .val (.double (FP.l2d ((capL u0) + (diffL u0 u1 u2)))), .second, .val (.int (0 : Int32))] [(.int (0 : Int32)), (.int (0 : Int32))])) _
    refine XS.icmpNo X1.here hx rfl (hb hby at_81) rfl (teq (rfl : (0 : Int32) = (0 : Int32))).2 ?_
    show Steps p.tables e below (T1.setTop (mkF m 84 #[.val (.long u0), .second, .val (.int u1), .val (.int u2), .val (.long (capL u0)), .second, .val (.long (capL u0 / 1000000000)), .second, .val (.long (diffL u0 u1 u2)), .second, .val (.double (FP.l2d (capL u0))), .second, .val (.double (FP.l2d ((capL u0) + (diffL u0 u1 u2)))), .second, .val (.int (0 : Int32))] [])) _
    refine XS.iconst X1.here hx rfl (hb hby at_84) ?_
    show Steps p.tables e below (T1.setTop (mkF m 85 #[.val (.long u0), .second, .val (.int u1), .val (.int u2), .val (.long (capL u0)), .second, .val (.long (capL u0 / 1000000000)), .second, .val (.long (diffL u0 u1 u2)), .second, .val (.double (FP.l2d (capL u0))), .second, .val (.double (FP.l2d ((capL u0) + (diffL u0 u1 u2)))), .second, .val (.int (0 : Int32))] [(.int (1 : Int32))])) _
    refine XS.goto X1.here hx rfl (pc0 := 85) (pc' := 89) rfl (hb hby at_85) (by decide) (by decide) ?_
    show Steps p.tables e below (T1.setTop (mkF m 89 #[.val (.long u0), .second, .val (.int u1), .val (.int u2), .val (.long (capL u0)), .second, .val (.long (capL u0 / 1000000000)), .second, .val (.long (diffL u0 u1 u2)), .second, .val (.double (FP.l2d (capL u0))), .second, .val (.double (FP.l2d ((capL u0) + (diffL u0 u1 u2)))), .second, .val (.int (0 : Int32))] [(.int (1 : Int32))])) _
    exact retN X1 hx (t := .boolean) Bd.returns (by simp) (hb hby at_89) hr
  · show Q0 n0 _ T1.heap _
    exact ⟨rfl, Fr.app N0 N1q⟩
theorem rm0 (l : Launch) (Z : State) (a0 : Array Value) (hw : ∀ d ∈ tables_1, d.before a0 Z = true) (ws : List Jvm.Cond) (u0 : Int64) (u1 u2 : Int32) (h0 : Heap) (n0 : Nat) (Z0 : n0 ≤ h0.size) :
    MetFree l x (head1 (Jvm.Cond.code x code maxLocals ret :: ws) room_1) (fun aa U => aa = #[(.long u0), (.int u1), (.int u2)] ∧ Z.Warmed39 U.vm ∧ U.heap = h0) (fun _ _ _ _ _ => True) (fun _ U o U' => ∃ v L, o = .returned v ∧ Q0 n0 v U'.heap L ∧ FrameEnd U o U' L 0 0) := by
  by_cases h : 0 < lcmpW (diffL u0 u1 u2) (capL u0 / 1000000000)
  · exact rm0_t l Z a0 hw ws u0 u1 u2 h0 n0 Z0 h (own_n1 u0 u1 u2) (own_n2 u0) (own_gt u0 u1 u2 h)
  · exact rm0_f l Z a0 hw ws u0 u1 u2 h0 n0 Z0 h (own_n1 u0 u1 u2) (own_n2 u0) (own_le u0 u1 u2 h)
set_option maxRecDepth 65536 in
set_option maxHeartbeats 40000000 in
theorem comes_1 {Post : Tables → Env → Array Value → State → Outcome → State → Prop} (hpost : ∀ tb e args s v u, (limb_1_1.after args s (.returned v) u = true ∧ limb_1_2.after args s (.returned v) u = true ∧ True) → FrameEnd s (.returned v) u (Jvm.fieldLocs frame_1_writes args s ++ Jvm.arrayLocs frame_1_arrays args s ++ Jvm.staticLocs frame_1_statics s) 0 0 → Post tb e args s (.returned v) u) :
    ArmFor flags0 classFile x code maxLocals ret World_1 tables_1 room_1 Calls_1 rest_1 Pre_1 Post := by
  intro l hfl _ _ p e ha hc hk s m args below hf hA hF happ hP
  obtain ⟨hcalls, hrest, hpre⟩ := hP
  obtain ⟨-, -, -, hnamed, -, -, -, hat⟩ := (Spec.applies_iff hf).mp happ
  obtain ⟨hg, hn⟩ := and_e (Cond.before_iff.mp (show (Jvm.Cond.and given_1 narrow_1).before args s = true from hpre))
  obtain ⟨g0, gg0⟩ := and_e hg
  obtain ⟨g1, gg1⟩ := and_e gg0
  obtain ⟨g2, gg2⟩ := and_e gg1
  obtain ⟨w0, w1, w2, rfl⟩ : ∃ w0 w1 w2 : Value, args = #[w0, w1, w2] := by
    have hs : args.size = 3 := by simpa [Cond.value, given_1] using g0
    obtain ⟨L⟩ := args
    match L, hs with
    | [w0, w1, w2], _ => exact ⟨w0, w1, w2, rfl⟩
  have hw := fun d (hd : d ∈ tables_1) => atoms_spec (ws := Jvm.Cond.code x code maxLocals ret :: tables_1) hat d (List.mem_cons_of_mem _ hd)
  obtain ⟨i0, ei0⟩ := isL_v g1
  obtain rfl : w0 = (.long i0) := Option.some.inj ei0
  obtain ⟨i1, ei1⟩ := is_v g2
  obtain rfl : w1 = (.int i1) := Option.some.inj ei1
  obtain ⟨i2, ei2⟩ := is_v gg2
  obtain rfl : w2 = (.int i2) := Option.some.inj ei2
  obtain ⟨n, o, h1, h2, h3, _, L, rfl, ⟨rfl, N⟩, hq⟩ := rm0 l s _ hw tables_1 i0 i1 i2 s.heap s.heap.size (Nat.le_refl _) p e ha hc hk s m _ below hf ((Spec.applies_iff_loose hf).mp happ).1 ⟨rfl, State.Warmed39.refl s, rfl⟩ trivial
  refine ⟨n, _, h1, h2, h3, hpost _ _ _ _ _ _ ⟨Cond.after_iff.mpr rfl, Cond.after_iff.mpr (eq_i res_at (Term.int_eval (1)) rfl), trivial⟩ ⟨hq.1, hq.2.1, (hq.2.2.sift fun y hy => Or.inr (N y hy)).mono (by decide) (by decide)⟩⟩
theorem main_1_1 : Claimed_1_1 := comes_1 fun _ _ _ _ _ _ h hF => ⟨h.1, hF⟩
theorem main_1_2 : Claimed_1_2 := comes_1 fun _ _ _ _ _ _ h hF => ⟨h.2.1, hF⟩
end Jvm.Pilot.@@N@@
namespace Jvm.Pilot.@@N@@
open Jvm Jvm.ClassFile Sem Op Lib Jvm.Free Jvm.Stand Jvm.Pilot.@@N@@.Jvm.D
/-! MADE BY PROGRAM (witnessworld.py) out of the Statement's table words and the real class files: 9 classes; the members and pool entries that the words name. The judged class is class 1, her method 1. -/
namespace start1
open Jvm.ClassFile
def u (s : String) : CpInfo := .utf8 (stringToUtf16 s)
/-- a pool by its gaps: so many unusable entries, then the entry; so many at the end -/
def gap : Nat → List CpInfo → List CpInfo
  | 0, r => r
  | n + 1, r => .unusable :: gap n r
def poolList (es : List (Nat × CpInfo)) (last : Nat) : List CpInfo := es.foldr (fun e r => gap e.1 (e.2 :: r)) (gap last [])
def pool (es : List (Nat × CpInfo)) (last : Nat) : Array CpInfo := ⟨poolList es last⟩
def fileOf (pool : Array CpInfo) (this : Nat) (attrs : Array Attribute := #[]) (ms : Array MethodInfo := #[]) (fl : Nat := 33) (sup : Nat := 0) (ifs : Array Nat := #[]) (fds : Array FieldInfo := #[]) : ClassFile where
  minorVersion := 0
  majorVersion := 65
  constantPool := pool
  accessFlags := fl
  thisClass := this
  superClass := sup
  interfaces := ifs
  fields := fds
  methods := ms
  attributes := attrs
def plain (name : String) (sup : Option ClassId) : Class where
  name := name
  kind := .ordinary
  loader := none
  accessFlags := 33
  super := sup
  interfaces := #[]
  cf := none
  fields := #[]
  methods := #[]
  instanceTypes := #[]
  staticTypes := #[]
  resolved := #[]
  callSites := []
  init := .initialized
  statics := none
  mirror := none

def pool0 : Array CpInfo := pool [(5, u "<init>"), (0, u "()V"), (1, .class_ 10), (1, u "java/lang/Object")] 113

def k0m0 : Method := { name := "<init>", desc := "()V", sig := { parameters := [], returnType := none }, accessFlags := 1, code := none }
/-- java/lang/Object -/
def k0 : Class := { plain "java/lang/Object" none with
  accessFlags := 33
  interfaces := #[]
  cf := some (fileOf pool0 8 #[] #[{ accessFlags := 1, nameIndex := 5, descriptorIndex := 6, attributes := #[] }] 33 0 #[] #[])
  fields := #[]
  methods := #[k0m0]
  instanceTypes := #[]
  staticTypes := #[]
  resolved := Array.replicate 124 none
  statics := none }

def pool1 : Array CpInfo := pool [(2, .class_ 4), (1, u "java/lang/Object"), (0, u "<init>"), (0, u "()V"), (0, .long 1099511627775), (1, .long 1000000000), (1, .methodref 12 13), (0, .class_ 14), (0, .nameAndType 15 16), (0, u "com/example/unsplit/unsplit/Capacity"), (0, u "isWithin"), (0, u "(DD)Z"), (0, .class_ 18), (0, u "com/example/unsplit/unsplit/CapacityIsWithinPinLaw"), (2, u "law"), (0, u "(JII)Z")] 3

def k1m0 : Method := { name := "<init>", desc := "()V", sig := { parameters := [], returnType := none }, accessFlags := 1, code := none }
def k1c1 : Code := { maxStack := 4, maxLocals := 15, code := code, exceptionTable := #[], attributes := #[] }
def k1m1 : Method := { name := "law", desc := "(JII)Z", sig := { parameters := [.long, .int, .int], returnType := some .boolean }, accessFlags := 9, code := some k1c1 }
/-- com/example/unsplit/unsplit/CapacityIsWithinPinLaw -/
def k1 : Class := { plain "com/example/unsplit/unsplit/CapacityIsWithinPinLaw" (some 0) with
  accessFlags := 49
  interfaces := #[]
  cf := some (fileOf pool1 17 #[] #[{ accessFlags := 1, nameIndex := 5, descriptorIndex := 6, attributes := #[] }, { accessFlags := 9, nameIndex := 21, descriptorIndex := 22, attributes := #[] }] 49 2 #[] #[])
  fields := #[]
  methods := #[k1m0, k1m1]
  instanceTypes := #[]
  staticTypes := #[]
  resolved := Array.replicate 26 none
  statics := none }

def pool2 : Array CpInfo := pool [(2, .class_ 4), (1, u "java/lang/Object"), (0, u "<init>"), (0, u "()V"), (0, .class_ 8), (0, u "com/example/unsplit/unsplit/Capacity"), (0, .double 4472406533629990549), (1, u "TOLERANCE"), (0, u "D"), (3, u "isWithin"), (0, u "(DD)Z")] 3

def k2m0 : Method := { name := "<init>", desc := "()V", sig := { parameters := [], returnType := none }, accessFlags := 2, code := none }
def k2c1 : Code := { maxStack := 6, maxLocals := 4, code := prog_2_method_2_code, exceptionTable := #[], attributes := #[] }
def k2m1 : Method := { name := "isWithin", desc := "(DD)Z", sig := { parameters := [.double, .double], returnType := some .boolean }, accessFlags := 9, code := some k2c1 }
/-- com/example/unsplit/unsplit/Capacity -/
def k2 : Class := { plain "com/example/unsplit/unsplit/Capacity" (some 0) with
  accessFlags := 33
  interfaces := #[]
  cf := some (fileOf pool2 7 #[] #[{ accessFlags := 2, nameIndex := 5, descriptorIndex := 6, attributes := #[] }, { accessFlags := 9, nameIndex := 16, descriptorIndex := 17, attributes := #[] }] 33 2 #[] #[{ accessFlags := 25, nameIndex := 11, descriptorIndex := 12, attributes := #[] }])
  fields := #[{ name := "TOLERANCE", type := .double, accessFlags := 25, slot := 0, constantValue := 0 }]
  methods := #[k2m0, k2m1]
  instanceTypes := #[]
  staticTypes := #[.double]
  resolved := Array.replicate 21 none
  statics := none }

def pool3 : Array CpInfo := pool [(1, u "java/lang/Cloneable"), (0, .class_ 1), (0, u "java/lang/Object"), (0, .class_ 3)] 3

/-- java/lang/Cloneable -/
def k3 : Class := { plain "java/lang/Cloneable" (some 0) with
  accessFlags := 1537
  interfaces := #[]
  cf := some (fileOf pool3 2 #[] #[] 1537 4 #[] #[])
  fields := #[]
  methods := #[]
  instanceTypes := #[]
  staticTypes := #[]
  resolved := Array.replicate 8 none
  statics := none }

def pool4 : Array CpInfo := pool [(1, u "java/io/Serializable"), (0, .class_ 1), (0, u "java/lang/Object"), (0, .class_ 3)] 3

/-- java/io/Serializable -/
def k4 : Class := { plain "java/io/Serializable" (some 0) with
  accessFlags := 1537
  interfaces := #[]
  cf := some (fileOf pool4 2 #[] #[] 1537 4 #[] #[])
  fields := #[]
  methods := #[]
  instanceTypes := #[]
  staticTypes := #[]
  resolved := Array.replicate 8 none
  statics := none }

/-- the primitive byte -/
def k5 : Class := { plain "byte" none with kind := .primitive 'B', accessFlags := 0x411 }
/-- [B -/
def k6 : Class := { plain "[B" (some 0) with kind := .array 5 .byte, interfaces := #[3, 4], accessFlags := 1041 }

/-- the primitive int -/
def k7 : Class := { plain "int" none with kind := .primitive 'I', accessFlags := 0x411 }
/-- [I -/
def k8 : Class := { plain "[I" (some 0) with kind := .array 7 .int, interfaces := #[3, 4], accessFlags := 1041 }

def heap : Heap := #[]
def classes : Array Class := #[k0, k1, k2, k3, k4, k5, k6, k7, k8]
def interned : List (Array UInt16 × Addr) := []
def slotsUsed : Nat := 0
def theMethod : MethodId := ⟨1, 1⟩
def args0 : Array Value := #[.long 5, .int 3, .int 1]
def aboutOver (below : List Frame) : State where
  vm := { classes := classes, interned := interned.toArray }
  heap := heap
  slotsUsed := slotsUsed
  threads := #[{ frames := .invoking theMethod args0 :: below }]
def below0 : List Frame := [.native { method := ⟨0, 0⟩, args := #[] }]
def about1 : State := aboutOver below0
def p0 : Program := .bare "" "" ""
def e0 : Env := launch0.env 0 0 0
theorem w_frames : about1.frames = Frame.invoking theMethod args0 :: below0 := rfl
set_option maxRecDepth 65536 in
theorem w_args : argsFit about1.vm theMethod args0 = true := by decide +kernel
set_option maxRecDepth 65536 in
theorem w_heap : heapFits about1 = true := by decide +kernel
set_option maxRecDepth 65536 in
theorem w_runnable : about1.curStatus? = some .runnable := by decide +kernel
set_option maxRecDepth 65536 in
theorem w_alone : about1.alone = true := by decide +kernel
set_option maxRecDepth 65536 in
theorem w_named : about1.methodNamed? x = some theMethod := by decide +kernel
set_option maxRecDepth 65536 in
theorem w_hears : about1.hears theMethod below0 = true := by decide +kernel
set_option maxRecDepth 65536 in
theorem w_ripe : about1.ripe theMethod args0 below0 = true := by decide +kernel
theorem w_running : about1.status = .running := rfl
set_option maxRecDepth 65536 in
theorem w_room : about1.hasRoom e0.platform room_1 = true :=
  launch0.hasRoom_least _ room_1 (by decide +kernel) (by decide +kernel) (by decide +kernel) (by decide +kernel) (by decide +kernel) (by decide +kernel)
theorem allAtoms_all (ts : List Jvm.Cond) (a : Array Jvm.Value) (st : Jvm.State) : (allAtoms ts).before a st = ts.all (fun c => c.before a st) := by
  induction ts with
  | nil => rfl
  | cons c t ih =>
    show (Jvm.Cond.and c (allAtoms t)).before a st = _
    rw [Jvm.Cond.before_and, ih, List.all_cons]
def words1 : List Jvm.Cond := Jvm.Cond.code x code maxLocals ret :: tables_1
/-- a 'code' word, met by the world's own term for the bytes: nothing is compared byte by byte -/
theorem code_word {y : MethodName} {bytes : ByteArray} {mx : Nat} {rt : Option FieldType} {a : Array Value} {s : State} {m : MethodId} {meth : Method} {c : Code} (h1 : s.methodNamed? y = some m) (h2 : s.vm.method? m = some meth) (h3 : meth.code = some c) (h4 : c.code = bytes)
    (h5 : (c.maxLocals == mx && c.exceptionTable.isEmpty && decide (c.maxStack ≤ mostOperands) && decide (meth.sig.returnType = rt) && !meth.locks && decide (parseMethodDescriptor y.desc = some meth.sig)) = true) : (Jvm.Cond.code y bytes mx rt).before a s = true := by
  simp only [Bool.and_eq_true, beq_iff_eq, Bool.not_eq_true', decide_eq_true_eq] at h5
  obtain ⟨⟨⟨⟨⟨g1, g2⟩, g3⟩, g4⟩, g5⟩, g6⟩ := h5
  simp [Cond.before, Cond.holds, Cond.value, h1, h2, h3, h4, g1, g2, g3, g4, g5, g6]
def isCode : Jvm.Cond → Bool
  | .code _ _ _ _ => true
  | _ => false
theorem all_split {L : List Jvm.Cond} {P : Jvm.Cond → Bool} (h1 : L.all (fun c => isCode c || P c) = true) (h2 : ∀ c ∈ L.filter isCode, P c = true) : L.all P = true := by
  refine List.all_eq_true.mpr fun c hc => ?_
  have h := List.all_eq_true.mp h1 c hc
  rcases Bool.eq_false_or_eq_true (isCode c) with hi | hi
  · exact h2 c (List.mem_filter.mpr ⟨hc, hi⟩)
  · simpa [hi] using h
set_option maxRecDepth 65536 in
theorem w_c0 : (Jvm.Cond.code x code maxLocals ret).before args0 about1 = true := code_word (m := ⟨1, 1⟩) (meth := k1m1) (c := k1c1) (by decide +kernel) rfl rfl rfl (by decide +kernel)
set_option maxRecDepth 65536 in
theorem w_c1 : (Jvm.Cond.code ({ cls := "com/example/unsplit/unsplit/Capacity", name := "isWithin", desc := "(DD)Z" } : Jvm.MethodName) prog_2_method_2_code (4 : Nat) (Option.some Jvm.ClassFile.FieldType.boolean)).before args0 about1 = true := code_word (m := ⟨2, 1⟩) (meth := k2m1) (c := k2c1) (by decide +kernel) rfl rfl rfl (by decide +kernel)
def codes1 : List Jvm.Cond := [Jvm.Cond.code x code maxLocals ret, Jvm.Cond.code ({ cls := "com/example/unsplit/unsplit/Capacity", name := "isWithin", desc := "(DD)Z" } : Jvm.MethodName) prog_2_method_2_code (4 : Nat) (Option.some Jvm.ClassFile.FieldType.boolean)]
set_option maxRecDepth 65536 in
theorem codes_eq : words1.filter isCode = codes1 := rfl
theorem w_codes : ∀ c ∈ words1.filter isCode, c.before args0 about1 = true := by
  rw [codes_eq]
  intro c hc
  simp only [codes1, List.mem_cons, List.not_mem_nil, or_false] at hc
  rcases hc with rfl | rfl
  · exact w_c0
  · exact w_c1
set_option maxRecDepth 65536 in
theorem w_t1 : words1.all (fun c => isCode c || c.before args0 about1) = true := by decide +kernel
theorem w_tables : (allAtoms (Jvm.Cond.code x code maxLocals ret :: tables_1)).before args0 about1 = true := by
  rw [allAtoms_all]
  show words1.all (fun c => c.before args0 about1) = true
  refine all_split ?_ w_codes
  rw [w_t1]
set_option maxRecDepth 65536 in
theorem w_case : (Jvm.Cond.and given_1 narrow_1).before args0 about1 = true := by decide +kernel
theorem w_applies : (headSpec (Jvm.Cond.code x code maxLocals ret :: tables_1) room_1).applies x e0.platform about1 = true :=
  (Spec.applies_iff w_frames).mpr ⟨w_running, w_runnable, w_alone, w_named, w_hears, w_ripe, w_room, w_tables⟩
theorem atStart : AtStart classFile x code maxLocals ret World_1 tables_1 room_1 Calls_1 rest_1 Pre_1 launch0 p0 e0 about1 theMethod args0 below0 :=
  ⟨lists_1, trivial, launch0.admits_env _ _ _, launch0.least_env, fairChoices_fair.cas, fairChoices_fair.clock, w_frames, w_args, w_heap, w_applies, trivial, trivial, w_case⟩
end start1
theorem witness_1 : WitnessClaimed_1 := ⟨start1.p0, start1.e0, start1.about1, start1.theMethod, start1.args0, start1.below0, start1.atStart⟩
end Jvm.Pilot.@@N@@
