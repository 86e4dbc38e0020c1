import JvmDerived
import JvmDerived.Pilot.@@N@@Statement
import JvmDerived.Pilot.@@N@@Code
set_option linter.unusedVariables false
set_option linter.unusedSimpArgs false
namespace Jvm.Pilot.@@N@@.OwnFp
open Jvm.FP.Core
/-- a whole number's value in the format's least units -/
theorem zval_whole {i : Int} {d : Datum} (hf : Jvm.FP.Core.fits b64 d) (h : Whole i d) : zval b64 d = i * ((2 ^ 1074 : Nat) : Int) := by
  cases d with
  | nan => exact h.elim
  | inf s => exact h.elim
  | fin s c q =>
    have k := whole_units h (e := b64.qmin) hf.2.1
    have e1 : (b64.qmin).toNat = 0 := by rw [qmin_b64]; rfl
    have e2 : (-b64.qmin).toNat = 1074 := by rw [qmin_b64]; rfl
    rw [e1, e2, Nat.pow_zero, Int.natCast_one, Int.mul_one] at k
    exact k
end Jvm.Pilot.@@N@@.OwnFp
namespace Jvm.Pilot.@@N@@.OwnFp
open Jvm.FP.Core
theorem top_big {d : Datum} (hd : Jvm.FP.Core.fits b64 d) (hn : d ≠ .nan) (h : (zmag b64 d : Nat) < b64.tails * 2 ^ (b64.exps - 2)) : ∃ s c q, d = .fin s c q := by
  cases d with
  | nan => exact absurd rfl hn
  | inf s => exact absurd h (Nat.lt_irrefl _)
  | fin s c q => exact ⟨s, c, q, rfl⟩
theorem natAbs_zval (f : Fmt) (d : Datum) : (zval f d).natAbs = zmag f d := natAbs_signed _ _
/-- a result whose exact value is i * 2^(k - 1074), i below 2^53, is not rounded -/
theorem round_val {s : Bool} {n : Nat} {e e0 i : Int} {k : Nat} (h0 : e0 ≤ b64.qmin) (h0e : e0 ≤ e) (hi : i.natAbs < 2 ^ 53) (hk : (k : Int) + b64.qmin ≤ b64.qmax)
    (h : signed s (inUnits n e e0) = i * ((2 ^ k : Nat) : Int) * ((2 ^ (b64.qmin - e0).toNat : Nat) : Int)) :
    (∃ s' c' q', round b64 (.fin s n e) = .fin s' c' q') ∧ zval b64 (round b64 (.fin s n e)) = i * ((2 ^ k : Nat) : Int) := by
  obtain ⟨c1, q1, r1, r2⟩ := round_exact good_b64 (decide (i < 0)) (c := i.natAbs) (q := b64.qmin + k) hi (by omega) (by omega)
  have zV : zval b64 (round b64 (.fin (decide (i < 0)) i.natAbs (b64.qmin + k))) = i * ((2 ^ k : Nat) : Int) := by
    rw [r1]
    show signed (decide (i < 0)) (inUnits c1 q1 b64.qmin) = _
    rw [r2]; unfold inUnits
    rw [show (b64.qmin + (k : Int) - b64.qmin).toNat = k by omega, signed_mul]
    congr 1
    unfold signed
    by_cases q : i < 0
    · simp [q]; omega
    · simp [q]; omega
  have fV : Jvm.FP.Core.fits b64 (round b64 (.fin (decide (i < 0)) i.natAbs (b64.qmin + k))) := round_fits good_b64 _
  have nV : round b64 (.fin (decide (i < 0)) i.natAbs (b64.qmin + k)) ≠ .nan := by rw [r1]; exact nofun
  have l1 := zval_round_le good_b64 fV nV h0 h0e (s := s) (c := n) (q := e) (by rw [zV, h]; exact Int.le_refl _)
  have l2 := zval_round_ge good_b64 fV nV h0 h0e (s := s) (c := n) (q := e) (by rw [zV, h]; exact Int.le_refl _)
  have eq := Int.le_antisymm l1 l2
  refine ⟨top_big (round_fits good_b64 _) (roundRatio_ne_nan _ _ _ _ _) ?_, eq.trans zV⟩
  rw [← natAbs_zval, eq, natAbs_zval, r1]
  exact zmag_lt_top good_b64 (r1 ▸ fV)
/-- a double that is i quarters -/
def DQ (i : Int) (a : UInt64) : Prop := (∃ s c q, val64 a = .fin s c q) ∧ zval b64 (val64 a) = i * ((2 ^ 1072 : Nat) : Int)
theorem DQ.ne {i : Int} {a : UInt64} (h : DQ i a) : val64 a ≠ .nan := by obtain ⟨⟨s, c, q, e⟩, -⟩ := h; rw [e]; exact nofun
theorem kmax : ((1072 : Nat) : Int) + b64.qmin ≤ b64.qmax := by rw [qmin_b64]; decide
theorem dq_zero : DQ 0 dconst0 := by
  refine ⟨⟨_, _, _, val64_dconst0⟩, ?_⟩
  rw [val64_dconst0]
  show ((inUnits 0 b64.qmin b64.qmin : Nat) : Int) = _
  unfold inUnits; simp
theorem dq_add {i j : Int} {a b : UInt64} (ha : DQ i a) (hb : DQ j b) (h : (i + j).natAbs < 2 ^ 53) : DQ (i + j) (dadd a b) := by
  obtain ⟨⟨s, c, q, ea⟩, za⟩ := ha
  obtain ⟨⟨t, d, r, eb⟩, zb⟩ := hb
  have fa := val64_fits a
  have fb := val64_fits b
  rw [ea] at fa za
  rw [eb] at fb zb
  obtain ⟨sg, n, e, k1, k2, k3⟩ := sum_units fa fb
  unfold DQ
  rw [val64_dadd, ea, eb, k1]
  refine round_val (e0 := b64.qmin) (Int.le_refl _) k2 h kmax ?_
  rw [k3, za, zb, Int.sub_self, ← Int.add_mul]
  simp
theorem dq_mul {i j : Int} {a b : UInt64} (ha : DInt i a) (hb : DQ j b) (h : (i * j).natAbs < 2 ^ 53) : DQ (i * j) (dmul a b) := by
  obtain ⟨⟨t, d, r, eb⟩, zb⟩ := hb
  have fa := val64_fits a
  have fb := val64_fits b
  have za := zval_whole fa ha
  unfold DInt at ha
  cases ea : val64 a with
  | nan => rw [ea] at ha; exact ha.elim
  | inf s => rw [ea] at ha; exact ha.elim
  | fin s c q =>
    rw [ea] at fa za
    rw [eb] at fb zb
    obtain ⟨k1, k2, k3⟩ := product_units fa fb
    unfold DQ
    rw [val64_dmul, ea, eb, k1]
    refine round_val (e0 := 2 * b64.qmin) (by rw [qmin_b64]; decide) k2 h kmax ?_
    rw [k3, signed_xor]
    have za' : signed s (zmag b64 (.fin s c q)) = i * ((2 ^ 1074 : Nat) : Int) := za
    have zb' : signed t (zmag b64 (.fin t d r)) = j * ((2 ^ 1072 : Nat) : Int) := zb
    rw [za', zb', show (b64.qmin - 2 * b64.qmin).toNat = 1074 by rw [qmin_b64]; rfl]
    simp only [Int.mul_assoc, Int.mul_comm, Int.mul_left_comm]
theorem four_val : val64 4616189618054758400 = .fin false 4503599627370496 (-50) := by decide +kernel
theorem dq_div {i : Int} {a : UInt64} (ha : DInt i a) (h : i.natAbs < 2 ^ 53) : DQ i (ddiv a 4616189618054758400) := by
  have fa := val64_fits a
  have za := zval_whole fa ha
  unfold DInt at ha
  cases ea : val64 a with
  | nan => rw [ea] at ha; exact ha.elim
  | inf s => rw [ea] at ha; exact ha.elim
  | fin s c q =>
    rw [ea] at fa za
    unfold DQ
    have e1 : val64 (ddiv a 4616189618054758400) = round b64 (.fin s c (q - 2)) := by
      rw [val64_ddiv, ea, four_val]
      have k : quotient b64 (.fin s c q) (.fin false 4503599627370496 (-50)) = (if (4503599627370496 : Nat) = 0 then (if c = 0 then Datum.nan else Datum.inf (s != false)) else roundRatio b64 (s != false) c 4503599627370496 (q - (-50))) := rfl
      rw [k, if_neg (by decide), show (s != false) = s by cases s <;> rfl]
      show _ = roundRatio b64 s c 1 (q - 2)
      refine roundRatio_congr (by decide) (by decide) ?_
      rw [show (q - -50 - (q - 2)).toNat = 52 by omega, show (q - 2 - (q - -50)).toNat = 0 by omega]
      omega
    rw [e1]
    have hq := fa.2.1
    refine round_val (e0 := b64.qmin - 2) (by omega) (by omega) h kmax ?_
    have za' : signed s (inUnits c q b64.qmin) = i * ((2 ^ 1074 : Nat) : Int) := za
    have e2 : inUnits c (q - 2) (b64.qmin - 2) = inUnits c q b64.qmin := by unfold inUnits; rw [show (q - 2 - (b64.qmin - 2)).toNat = (q - b64.qmin).toNat by omega]
    rw [e2, za', show (b64.qmin - (b64.qmin - 2)).toNat = 2 by omega, Int.mul_assoc, ← Int.natCast_mul, ← Nat.pow_add]
theorem dq_cmp {i : Int} {a b : UInt64} (ha : DQ i a) (hb : DQ i b) : dcmp a b = some .eq := by
  rw [dcmp_zval ha.ne hb.ne, ha.2, hb.2, compare_self_int]
end Jvm.Pilot.@@N@@.OwnFp
namespace Jvm.Pilot.@@N@@
open Jvm Jvm.ClassFile Sem Op Lib Jvm.Free Jvm.Stand Jvm.LawKit Jvm.RoadKit Bundle Jvm.Pilot.@@N@@.Jvm.D
section Own
variable {p : Program} {l : Launch} {e : Env} {R : Room} {s : State} {m : MethodId} {args : Array Value} {below : List Frame} {meth : Method} {c : Code} {T : State} {locs : List Loc} {cells slots : Nat}
/-- the return of a double -/
theorem own_retD (X : Stand p l e R s m args below meth c T locs cells slots) (hx : p.tables.exec = Jvm.exec) {pc : Nat} {Ls : Array Slot} {z : UInt64} {rest : List Value} (hret : meth.sig.returnType = some .double) (hd : decode c.code pc = .ok (.dreturn, 1)) {fs : List Frame}
    (hl : ∀ (f : JFrame) (acts : List Action), f.method = m → f.locked = none → f.entered = [] → (doReturn e (T.setTop f) acts (some (.double z))).1 = T.setFrames fs) : Steps p.tables e below (T.setTop (mkF m pc Ls (.double z :: rest))) (T.setFrames fs) := by
  have hm' : T.vm.method? m = some meth := X.method'
  have hn : narrow .double (.double z) = .double z := rfl
  show Steps p.tables e below (T.setTop { method := m, pc := pc, locals := Ls, stack := _ :: rest, locked := none }) _
  jvm_step X.here [X.here.top, hx, hd, hm', hret, hn]
  first | (intro acts; rw [hl _ acts rfl rfl rfl]) | rw [hl _ _ rfl rfl rfl]
  exact Steps.refl _
/-- the return of an int -/
theorem retI (X : Stand p l e R s m args below meth c T locs cells slots) (hx : p.tables.exec = Jvm.exec) {pc : Nat} {Ls : Array Slot} {z : Int32} {rest : List Value} (hret : meth.sig.returnType = some .int) (hd : decode c.code pc = .ok (.ireturn, 1)) {fs : List Frame}
    (hl : ∀ (f : JFrame) (acts : List Action), f.method = m → f.locked = none → f.entered = [] → (doReturn e (T.setTop f) acts (some (.int z))).1 = T.setFrames fs) : Steps p.tables e below (T.setTop (mkF m pc Ls (.int z :: rest))) (T.setFrames fs) := by
  have hm' : T.vm.method? m = some meth := X.method'
  have hn : narrow .int (.int z) = .int z := rfl
  show Steps p.tables e below (T.setTop { method := m, pc := pc, locals := Ls, stack := _ :: rest, locked := none }) _
  jvm_step X.here [X.here.top, hx, hd, hm', hret, hn]
  first | (intro acts; rw [hl _ acts rfl rfl rfl]) | rw [hl _ _ rfl rfl rfl]
  exact Steps.refl _
/-- a cell, read over the heap's other name -/
theorem own_at {h : Heap} {a : Addr} {cl : Cell} (q : T.heap = h) (k : h[a]? = some cl) : T.heap[a]? = some cl := by rw [q]; exact k
/-- the remainder as the machine reckons it is the remainder -/
theorem own_rem (x y : Int32) : x - (x / y) * y = x % y := by
  have a := c_isub x (x / y * y)
  have b := c_imul (x / y) y
  have e := bm32 (x.toInt.tdiv y.toInt)
  have f := Int.mul_tdiv_add_tmod x.toInt y.toInt
  have r := rng32 (x - x / y * y)
  have r' := rng32 (x % y)
  rw [← Int32.toInt_div] at e
  rw [← Int32.toInt_mod, Int.mul_comm] at f
  obtain ⟨k, hk⟩ : ∃ k, (x / y).toInt = x.toInt.tdiv y.toInt + 4294967296 * k := ⟨((x / y).toInt - x.toInt.tdiv y.toInt) / 4294967296, by omega⟩
  have g : (x / y).toInt * y.toInt = x.toInt.tdiv y.toInt * y.toInt + 4294967296 * (k * y.toInt) := by rw [hk, Int.add_mul, Int.mul_assoc]
  apply Int32.toInt_inj.mp
  omega
theorem own_irem {tb : Tables} [Ours tb] {target : State} {g : JFrame} (h : At T m c below) (hx : tb.exec = Jvm.exec) (hg : g.method = m) {x y : Int32} {rest : List Value} (hd : decode c.code g.pc = .ok (.irem, 1)) (hs : g.stack = .int y :: .int x :: rest) (hy : y ≠ 0)
    (hr : Steps tb e below (T.setTop { g with pc := g.pc + 1, stack := .int (x % y) :: rest }) target) : Steps tb e below (T.setTop g) target :=
  XS.irem h hx hg hd hs hy (by rw [own_rem]; exact hr)
end Own
section Own2
open OwnFp FP.Core
theorem own_nn {i : Int} {a : UInt64} (h : DQ i a) : Jvm.Free.Fl.NoNaN64 a := Jvm.Free.Fl.val64_no.mpr h.ne
theorem own_m16 (u : Int32) : 0 ≤ (u &&& 65535).toInt ∧ (u &&& 65535).toInt < 65536 := by
  have k := c_mask u 65535 16 (by decide) (by decide)
  have : ((2 ^ 16 : Nat) : Int) = 65536 := rfl
  rw [this] at k; omega
theorem own_m2 (u : Int32) : 0 ≤ (u &&& 3).toInt ∧ (u &&& 3).toInt ≤ 3 := by
  have k := c_mask u 3 2 (by decide) (by decide)
  have : ((2 ^ 2 : Nat) : Int) = 4 := rfl
  rw [this] at k; omega
theorem own_4k (k : Int32) (h : 0 ≤ k.toInt ∧ k.toInt ≤ 3) : (4 - k).toInt = 4 - k.toInt := by
  have c := c_isub 4 k
  have r := rng32 (4 - k)
  have : (4 : Int32).toInt = 4 := by decide
  omega
theorem own_b {i j : Int} {A B : Nat} (hi : i.natAbs ≤ A) (hj : j.natAbs ≤ B) : (i * j).natAbs ≤ A * B := by rw [Int.natAbs_mul]; exact Nat.mul_le_mul hi hj
abbrev pE (k : Int32) : UInt64 := FP.ddiv (FP.i2d k) 4616189618054758400
abbrev meanE (a b k : Int32) : UInt64 := FP.dadd (FP.dadd FP.dconst0 (FP.dmul (FP.i2d a) (pE k))) (FP.dmul (FP.i2d b) (pE (4 - k)))
abbrev numE (r a b k : Int32) : Int64 := r.toInt64 * (k.toInt64 * a.toInt64 + (4 - k).toInt64 * b.toInt64)
theorem own_p (k : Int32) (h : k.toInt.natAbs ≤ 4) : DQ k.toInt (pE k) := dq_div (i2d_int k) (by omega)
theorem own_m (a k : Int32) (h : k.toInt.natAbs ≤ 4) (ha : a.toInt.natAbs ≤ 65536) : DQ (a.toInt * k.toInt) (FP.dmul (FP.i2d a) (pE k)) :=
  dq_mul (i2d_int a) (own_p k h) (by have := own_b ha h; omega)
theorem own_s1 (a k : Int32) (h : k.toInt.natAbs ≤ 4) (ha : a.toInt.natAbs ≤ 65536) : DQ (0 + a.toInt * k.toInt) (FP.dadd FP.dconst0 (FP.dmul (FP.i2d a) (pE k))) :=
  dq_add dq_zero (own_m a k h ha) (by have := own_b ha h; omega)
theorem own_s2 (a b k : Int32) (hk : 0 ≤ k.toInt ∧ k.toInt ≤ 3) (ha : a.toInt.natAbs ≤ 65536) (hb : b.toInt.natAbs ≤ 65536) : DQ (0 + a.toInt * k.toInt + b.toInt * (4 - k).toInt) (meanE a b k) :=
  dq_add (own_s1 a k (by omega) ha) (own_m b (4 - k) (by rw [own_4k k hk]; omega) hb) (by
    have := own_4k k hk
    have h1 := own_b ha (show k.toInt.natAbs ≤ 4 by omega)
    have h2 := own_b hb (show (4 - k).toInt.natAbs ≤ 4 by omega)
    omega)
theorem own_sum (a b k : Int32) (hk : 0 ≤ k.toInt ∧ k.toInt ≤ 3) (ha : a.toInt.natAbs ≤ 65536) (hb : b.toInt.natAbs ≤ 65536) : (0 + a.toInt * k.toInt + b.toInt * (4 - k).toInt).natAbs ≤ 524288 := by
  have := own_4k k hk
  have h1 := own_b ha (show k.toInt.natAbs ≤ 4 by omega)
  have h2 := own_b hb (show (4 - k).toInt.natAbs ≤ 4 by omega)
  omega
theorem own_r (r a b k : Int32) (hk : 0 ≤ k.toInt ∧ k.toInt ≤ 3) (ha : a.toInt.natAbs ≤ 65536) (hb : b.toInt.natAbs ≤ 65536) : DQ (r.toInt * (0 + a.toInt * k.toInt + b.toInt * (4 - k).toInt)) (FP.dmul (FP.i2d r) (meanE a b k)) :=
  dq_mul (i2d_int r) (own_s2 a b k hk ha hb) (by have := own_b (show r.toInt.natAbs ≤ 2147483648 by have := rng32 r; omega) (own_sum a b k hk ha hb); omega)
theorem own_num (r a b k : Int32) (hk : 0 ≤ k.toInt ∧ k.toInt ≤ 3) (ha : a.toInt.natAbs ≤ 65536) (hb : b.toInt.natAbs ≤ 65536) : (numE r a b k).toInt = r.toInt * (0 + a.toInt * k.toInt + b.toInt * (4 - k).toInt) := by
  have h4 := own_4k k hk
  have h1 := own_b ha (show k.toInt.natAbs ≤ 4 by omega)
  have h2 := own_b hb (show (4 - k).toInt.natAbs ≤ 4 by omega)
  have h3 := own_b (show r.toInt.natAbs ≤ 2147483648 by have := rng32 r; omega) (own_sum a b k hk ha hb)
  have e1 := int64_mul (a := k.toInt64) (b := a.toInt64) (by rw [c_i2l, c_i2l, Int.mul_comm]; omega) (by rw [c_i2l, c_i2l, Int.mul_comm]; omega)
  have e2 := int64_mul (a := (4 - k).toInt64) (b := b.toInt64) (by rw [c_i2l, c_i2l, Int.mul_comm]; omega) (by rw [c_i2l, c_i2l, Int.mul_comm]; omega)
  rw [c_i2l, c_i2l, Int.mul_comm] at e1 e2
  have e3 := int64_add (a := k.toInt64 * a.toInt64) (b := (4 - k).toInt64 * b.toInt64) (by omega) (by omega)
  have e4 : (k.toInt64 * a.toInt64 + (4 - k).toInt64 * b.toInt64).toInt = 0 + a.toInt * k.toInt + b.toInt * (4 - k).toInt := by rw [e3, e1, e2]; omega
  have e5 := int64_mul (a := r.toInt64) (b := k.toInt64 * a.toInt64 + (4 - k).toInt64 * b.toInt64) (by rw [e4, c_i2l]; omega) (by rw [e4, c_i2l]; omega)
  rw [e5, e4, c_i2l]
theorem own_exp (r a b k : Int32) (hk : 0 ≤ k.toInt ∧ k.toInt ≤ 3) (ha : a.toInt.natAbs ≤ 65536) (hb : b.toInt.natAbs ≤ 65536) : DQ (r.toInt * (0 + a.toInt * k.toInt + b.toInt * (4 - k).toInt)) (FP.ddiv (FP.l2d (numE r a b k)) 4616189618054758400) := by
  have h3 := own_b (show r.toInt.natAbs ≤ 2147483648 by have := rng32 r; omega) (own_sum a b k hk ha hb)
  have e := own_num r a b k hk ha hb
  rw [← e] at h3 ⊢
  exact dq_div (l2d_int (by omega)) (by omega)
theorem own_cmp (r a b k : Int32) (hk : 0 ≤ k.toInt ∧ k.toInt ≤ 3) (ha : a.toInt.natAbs ≤ 65536) (hb : b.toInt.natAbs ≤ 65536) : cmpValue (FP.dcmp (FP.dmul (FP.i2d r) (meanE a b k)) (FP.ddiv (FP.l2d (numE r a b k)) 4616189618054758400)) .l = 0 := by
  rw [show FP.dcmp _ _ = some .eq from dq_cmp (own_r r a b k hk ha hb) (own_exp r a b k hk ha hb)]; rfl
end Own2
theorem d_prog_16_method_1_code_0 : decode prog_16_method_1_code 0 = .ok (.aload_n 0, 1) := by decide +kernel
theorem d_prog_16_method_1_code_1 : decode prog_16_method_1_code 1 = .ok (.invokespecial 1, 3) := by decide +kernel
theorem d_prog_16_method_1_code_4 : decode prog_16_method_1_code 4 = .ok (.aload_n 0, 1) := by decide +kernel
theorem d_prog_16_method_1_code_5 : decode prog_16_method_1_code 5 = .ok (.aload_n 1, 1) := by decide +kernel
theorem d_prog_16_method_1_code_6 : decode prog_16_method_1_code 6 = .ok (.putfield 7, 3) := by decide +kernel
theorem d_prog_16_method_1_code_9 : decode prog_16_method_1_code 9 = .ok (.aload_n 0, 1) := by decide +kernel
theorem d_prog_16_method_1_code_10 : decode prog_16_method_1_code 10 = .ok (.aload_n 2, 1) := by decide +kernel
theorem d_prog_16_method_1_code_11 : decode prog_16_method_1_code 11 = .ok (.putfield 13, 3) := by decide +kernel
theorem d_prog_16_method_1_code_14 : decode prog_16_method_1_code 14 = .ok (.dconst 0, 1) := by decide +kernel
theorem d_prog_16_method_1_code_15 : decode prog_16_method_1_code 15 = .ok (.dstore_n 3, 1) := by decide +kernel
theorem d_prog_16_method_1_code_16 : decode prog_16_method_1_code 16 = .ok (.iconst 0, 1) := by decide +kernel
theorem d_prog_16_method_1_code_17 : decode prog_16_method_1_code 17 = .ok (.istore 5, 2) := by decide +kernel
theorem d_prog_16_method_1_code_19 : decode prog_16_method_1_code 19 = .ok (.iload 5, 2) := by decide +kernel
theorem d_prog_16_method_1_code_21 : decode prog_16_method_1_code 21 = .ok (.aload_n 1, 1) := by decide +kernel
theorem d_prog_16_method_1_code_22 : decode prog_16_method_1_code 22 = .ok (.arraylength, 1) := by decide +kernel
theorem d_prog_16_method_1_code_23 : decode prog_16_method_1_code 23 = .ok (.if_icmp .ge 22, 3) := by decide +kernel
theorem d_prog_16_method_1_code_26 : decode prog_16_method_1_code 26 = .ok (.dload_n 3, 1) := by decide +kernel
theorem d_prog_16_method_1_code_27 : decode prog_16_method_1_code 27 = .ok (.aload_n 1, 1) := by decide +kernel
theorem d_prog_16_method_1_code_28 : decode prog_16_method_1_code 28 = .ok (.iload 5, 2) := by decide +kernel
theorem d_prog_16_method_1_code_30 : decode prog_16_method_1_code 30 = .ok (.iaload, 1) := by decide +kernel
theorem d_prog_16_method_1_code_31 : decode prog_16_method_1_code 31 = .ok (.i2d, 1) := by decide +kernel
theorem d_prog_16_method_1_code_32 : decode prog_16_method_1_code 32 = .ok (.aload_n 2, 1) := by decide +kernel
theorem d_prog_16_method_1_code_33 : decode prog_16_method_1_code 33 = .ok (.iload 5, 2) := by decide +kernel
theorem d_prog_16_method_1_code_35 : decode prog_16_method_1_code 35 = .ok (.daload, 1) := by decide +kernel
theorem d_prog_16_method_1_code_36 : decode prog_16_method_1_code 36 = .ok (.dmul, 1) := by decide +kernel
theorem d_prog_16_method_1_code_37 : decode prog_16_method_1_code 37 = .ok (.dadd, 1) := by decide +kernel
theorem d_prog_16_method_1_code_38 : decode prog_16_method_1_code 38 = .ok (.dstore_n 3, 1) := by decide +kernel
theorem d_prog_16_method_1_code_39 : decode prog_16_method_1_code 39 = .ok (.iinc 5 1, 3) := by decide +kernel
theorem d_prog_16_method_1_code_42 : decode prog_16_method_1_code 42 = .ok (.goto (-23), 3) := by decide +kernel
theorem d_prog_16_method_1_code_45 : decode prog_16_method_1_code 45 = .ok (.aload_n 0, 1) := by decide +kernel
theorem d_prog_16_method_1_code_46 : decode prog_16_method_1_code 46 = .ok (.dload_n 3, 1) := by decide +kernel
theorem d_prog_16_method_1_code_47 : decode prog_16_method_1_code 47 = .ok (.putfield 17, 3) := by decide +kernel
theorem d_prog_16_method_1_code_50 : decode prog_16_method_1_code 50 = .ok (.return_, 1) := by decide +kernel
theorem d_prog_9_method_1_code_0 : decode prog_9_method_1_code 0 = .ok (.aload_n 0, 1) := by decide +kernel
theorem d_prog_9_method_1_code_1 : decode prog_9_method_1_code 1 = .ok (.invokespecial 1, 3) := by decide +kernel
theorem d_prog_9_method_1_code_4 : decode prog_9_method_1_code 4 = .ok (.aload_n 0, 1) := by decide +kernel
theorem d_prog_9_method_1_code_5 : decode prog_9_method_1_code 5 = .ok (.dload_n 1, 1) := by decide +kernel
theorem d_prog_9_method_1_code_6 : decode prog_9_method_1_code 6 = .ok (.putfield 7, 3) := by decide +kernel
theorem d_prog_9_method_1_code_9 : decode prog_9_method_1_code 9 = .ok (.aload_n 0, 1) := by decide +kernel
theorem d_prog_9_method_1_code_10 : decode prog_9_method_1_code 10 = .ok (.aload_n 3, 1) := by decide +kernel
theorem d_prog_9_method_1_code_11 : decode prog_9_method_1_code 11 = .ok (.putfield 13, 3) := by decide +kernel
theorem d_prog_9_method_1_code_14 : decode prog_9_method_1_code 14 = .ok (.return_, 1) := by decide +kernel
theorem d_prog_16_method_5_code_0 : decode prog_16_method_5_code 0 = .ok (.aload_n 0, 1) := by decide +kernel
theorem d_prog_16_method_5_code_1 : decode prog_16_method_5_code 1 = .ok (.getfield 17, 3) := by decide +kernel
theorem d_prog_16_method_5_code_4 : decode prog_16_method_5_code 4 = .ok (.dreturn, 1) := by decide +kernel
theorem d_prog_9_method_4_code_0 : decode prog_9_method_4_code 0 = .ok (.aload_n 0, 1) := by decide +kernel
theorem d_prog_9_method_4_code_1 : decode prog_9_method_4_code 1 = .ok (.getfield 7, 3) := by decide +kernel
theorem d_prog_9_method_4_code_4 : decode prog_9_method_4_code 4 = .ok (.aload_n 0, 1) := by decide +kernel
theorem d_prog_9_method_4_code_5 : decode prog_9_method_4_code 5 = .ok (.getfield 13, 3) := by decide +kernel
theorem d_prog_9_method_4_code_8 : decode prog_9_method_4_code 8 = .ok (.invokevirtual 17, 3) := by decide +kernel
theorem d_prog_9_method_4_code_11 : decode prog_9_method_4_code 11 = .ok (.dmul, 1) := by decide +kernel
theorem d_prog_9_method_4_code_12 : decode prog_9_method_4_code 12 = .ok (.dreturn, 1) := by decide +kernel
theorem pn_prog_16_method_1_code : plainName "com/example/cobatch/cobatch/model/SizeDistribution" = true := by first | (simp [plainName, overriddenIn]; done) | decide +kernel
theorem pn_prog_9_method_1_code : plainName "com/example/cobatch/cobatch/model/ItemDemand" = true := by first | (simp [plainName, overriddenIn]; done) | decide +kernel
theorem pn_prog_16_method_5_code : plainName "com/example/cobatch/cobatch/model/SizeDistribution" = true := by first | (simp [plainName, overriddenIn]; done) | decide +kernel
theorem pn_prog_9_method_4_code : plainName "com/example/cobatch/cobatch/model/ItemDemand" = true := by first | (simp [plainName, overriddenIn]; done) | decide +kernel
theorem pn_code : plainName "com/example/cobatch/cobatch/model/ItemDemandUnitRatePinLaw" = true := by first | (simp [plainName, overriddenIn]; done) | decide +kernel
theorem pd___D : parseMethodDescriptor "()D" = some ⟨[], some .double⟩ := by decide +kernel
theorem pd__DLcom_example_cobatch_cobatch_model_SizeDistribution__V : parseMethodDescriptor "(DLcom/example/cobatch/cobatch/model/SizeDistribution;)V" = some ⟨[.double, (.object "com/example/cobatch/cobatch/model/SizeDistribution")], none⟩ := by decide +kernel
theorem pd___I_D_V : parseMethodDescriptor "([I[D)V" = some ⟨[(.array .int), (.array .double)], none⟩ := by decide +kernel
def QV (r : Value) (n0 : Nat) (h0 : Heap) (v : Option Value) (h : Heap) (L : List Loc) : Prop := v = some r ∧ Fr n0 L ∧ h = h0
def QS (Z : State) (a : Addr) (x : UInt64) (n0 : Nat) (h0 : Heap) (v : Option Value) (h : Heap) (L : List Loc) : Prop := v = none ∧ Fr n0 L ∧ Keep h0 h [a] ∧ Exa Z h a "com/example/cobatch/cobatch/model/SizeDistribution" ∧ Fld Z h a "com/example/cobatch/cobatch/model/SizeDistribution" "mean" "D" (.double x)
def QI (Z : State) (a : Addr) (x : UInt64) (d : Addr) (n0 : Nat) (h0 : Heap) (v : Option Value) (h : Heap) (L : List Loc) : Prop := v = none ∧ Fr n0 L ∧ Keep h0 h [a] ∧ Exa Z h a "com/example/cobatch/cobatch/model/ItemDemand" ∧ Fld Z h a "com/example/cobatch/cobatch/model/ItemDemand" "rate" "D" (.double x) ∧ Fld Z h a "com/example/cobatch/cobatch/model/ItemDemand" "sizes" "Lcom/example/cobatch/cobatch/model/SizeDistribution;" (.ref d)
def Q0 (n0 : Nat) (v : Option Value) (h : Heap) (L : List Loc) : Prop := v = some (.int 1) ∧ Fr n0 L
theorem ef_prog_16_method_1_code (m : MethodId) (x0 : Addr) (x1 : Addr) (x2 : Addr) : entryFrame m #[(.ref x0), (.ref x1), (.ref x2)] 6 = mkF m 0 #[.val (.ref x0), .val (.ref x1), .val (.ref x2), .unset, .unset, .unset] [] := by first | (simp [entryFrame, mkF, argsToLocals, Value.category]; done) | rfl
set_option maxRecDepth 65536 in
set_option maxHeartbeats 40000000 in
theorem rmS (l : Launch) (Z : State) (a0 : Array Value) (hw : ∀ d ∈ tables_1, d.before a0 Z = true) (ws : List Jvm.Cond) (a b1 b2 : Addr) (s0 s1 : Int32) (p0 p1 : UInt64) (k1 k2 : ClassId) (dI dD : Value) (h0 : Heap) (n0 : Nat) (Z0 : n0 ≤ h0.size) (V1 : Arv Z h0 b1 k1 .int (2 : Int32) [(.int s0), (.int s1)] dI) (V2 : Arv Z h0 b2 k2 .double (2 : Int32) [(.double p0), (.double p1)] dD) (F_sizes : Fld Z h0 a "com/example/cobatch/cobatch/model/SizeDistribution" "sizes" "[I" .null) (F_probabilities : Fld Z h0 a "com/example/cobatch/cobatch/model/SizeDistribution" "probabilities" "[D" .null) (F_mean : Fld Z h0 a "com/example/cobatch/cobatch/model/SizeDistribution" "mean" "D" (.double 0)) (Ea : Exa Z h0 a "com/example/cobatch/cobatch/model/SizeDistribution") (ga : n0 ≤ a) (ne1 : b1 ≠ a) (ne2 : b2 ≠ a) (hm0 : Jvm.Free.Fl.NoNaN64 (FP.dmul (FP.i2d s0) p0)) (ha0 : Jvm.Free.Fl.NoNaN64 (FP.dadd FP.dconst0 (FP.dmul (FP.i2d s0) p0))) (hm1 : Jvm.Free.Fl.NoNaN64 (FP.dmul (FP.i2d s1) p1)) (ha1 : Jvm.Free.Fl.NoNaN64 (FP.dadd (FP.dadd FP.dconst0 (FP.dmul (FP.i2d s0) p0)) (FP.dmul (FP.i2d s1) p1))) :
    MetFree l (⟨"com/example/cobatch/cobatch/model/SizeDistribution", "<init>", "([I[D)V"⟩ : MethodName) (head1 (Jvm.Cond.code (⟨"com/example/cobatch/cobatch/model/SizeDistribution", "<init>", "([I[D)V"⟩ : MethodName) prog_16_method_1_code 6 none :: ws) ({ frames := 1, cells := 0, slots := 0, locals := 12 } : Room)) (fun aa U => aa = #[(.ref a), (.ref b1), (.ref b2)] ∧ Z.Warmed39 U.vm ∧ U.heap = h0) (fun _ _ _ _ _ => True) (fun _ U o U' => ∃ v L, o = .returned v ∧ QS Z a (FP.dadd (FP.dadd FP.dconst0 (FP.dmul (FP.i2d s0) p0)) (FP.dmul (FP.i2d s1) p1)) n0 h0 v U'.heap L ∧ FrameEnd U o U' L ({ frames := 1, cells := 0, slots := 0, locals := 12 } : Room).cells ({ frames := 1, cells := 0, slots := 0, locals := 12 } : Room).slots) := by
  refine MetFree.of_bodySF (plainFor_of_name pn_prog_16_method_1_code) hisR ?_
  intro p e s m args below meth c s₁ Bd hml0 hP hK
  obtain ⟨rfl, hZ, hh⟩ := hP
  have hx := Bd.exec
  have hby := Bd.bytes
  have hml : c.maxLocals = 6 := hml0
  have hown : s.vm.findClass "com/example/cobatch/cobatch/model/SizeDistribution" = some m.cls := findClass_of_methodNamed Bd.named
  have hnm := (name_of_methodNamed Bd.named Bd.method).1
  have X0 : Stand p l e ({ frames := 1, cells := 0, slots := 0, locals := 12 } : Room) s m #[(.ref a), (.ref b1), (.ref b2)] below meth c s₁ [] 0 0 := Stand.of_body Bd
  have e0 : s₁.heap = h0 := by rw [← hh, Bd.state]; rfl
  have N0 := Fr.nil n0
  have pre0 : ∀ t, Steps p.tables e below (s₁.setTop (mkF m 0 #[.val (.ref a), .val (.ref b1), .val (.ref b2), .unset, .unset, .unset] [])) t → Steps p.tables e below (s₁.setTop (entryFrame m #[(.ref a), (.ref b1), (.ref b2)] 6)) t := fun t k => castTop (ef_prog_16_method_1_code m a b1 b2) k
  obtain ⟨T1, X1, e1, st1⟩ := initO X0 hx hZ hown (hw _ (List.mem_of_getElem? (i := 10) rfl)) (hw _ (List.mem_of_getElem? (i := 11) rfl)) (hw _ (List.mem_of_getElem? (i := 12) rfl)) e0 (g := (mkF m 1 #[.val (.ref a), .val (.ref b1), .val (.ref b2), .unset, .unset, .unset] [(.ref a)])) rfl (by rw [hml]; rfl) rfl (hb hby d_prog_16_method_1_code_1) (by decide) (W := 0) (by show 2 * 0 + _ ≤ _; exact Nat.le_of_eq rfl) (by decide)
  obtain ⟨T2, h2, X2, e2, W2, st2⟩ := putF X1 hx hZ hown (host := "") (Or.inl (hw _ (List.mem_of_getElem? (i := 13) rfl))) Via.refl e1 F_sizes Ea (Or.inr ⟨(hw _ (List.mem_of_getElem? (i := 14) rfl)), rfl, hnm⟩) (hw _ (List.mem_of_getElem? (i := 5) rfl)) (ty := (.array .int)) (by decide) rfl rfl (g := (mkF m 6 #[.val (.ref a), .val (.ref b1), .val (.ref b2), .unset, .unset, .unset] [(.ref b1), (.ref a)])) rfl rfl (hb hby d_prog_16_method_1_code_6)
  have Fprobabilities_2 := F_probabilities.other W2 (Or.inr (Jvm.RoadKit.slot_ne (Or.inr (hw _ (List.mem_of_getElem? (i := 16) rfl))) (Or.inr (hw _ (List.mem_of_getElem? (i := 14) rfl))) (by decide) (t := (.array .double)) (t' := (.array .int)) (by decide) (by decide)))
  have Fmean_2 := F_mean.other W2 (Or.inr (Jvm.RoadKit.slot_ne (Or.inr (hw _ (List.mem_of_getElem? (i := 18) rfl))) (Or.inr (hw _ (List.mem_of_getElem? (i := 14) rfl))) (by decide) (t := .double) (t' := (.array .int)) (by decide) (by decide)))
  have Fsizes_2 := F_sizes.same W2
  have Ea2 := Ea.wr W2
  have K2 := (Keep.refl h0 [a]).wr W2 (Or.inl (List.mem_of_getElem? (i := 0) rfl))
  have N2 := Fr.snoc X2 N0 ga
  have V12 := V1.other W2 ne1
  have V22 := V2.other W2 ne2
  obtain ⟨T3, h3, X3, e3, W3, st3⟩ := putF X2 hx hZ hown (host := "") (Or.inl (hw _ (List.mem_of_getElem? (i := 15) rfl))) Via.refl e2 Fprobabilities_2 Ea2 (Or.inr ⟨(hw _ (List.mem_of_getElem? (i := 16) rfl)), rfl, hnm⟩) (hw _ (List.mem_of_getElem? (i := 5) rfl)) (ty := (.array .double)) (by decide) rfl rfl (g := (mkF m 11 #[.val (.ref a), .val (.ref b1), .val (.ref b2), .unset, .unset, .unset] [(.ref b2), (.ref a)])) rfl rfl (hb hby d_prog_16_method_1_code_11)
  have Fsizes_3 := Fsizes_2.other W3 (Or.inr (Jvm.RoadKit.slot_ne (Or.inr (hw _ (List.mem_of_getElem? (i := 14) rfl))) (Or.inr (hw _ (List.mem_of_getElem? (i := 16) rfl))) (by decide) (t := (.array .int)) (t' := (.array .double)) (by decide) (by decide)))
  have Fmean_3 := Fmean_2.other W3 (Or.inr (Jvm.RoadKit.slot_ne (Or.inr (hw _ (List.mem_of_getElem? (i := 18) rfl))) (Or.inr (hw _ (List.mem_of_getElem? (i := 16) rfl))) (by decide) (t := .double) (t' := (.array .double)) (by decide) (by decide)))
  have Fprobabilities_3 := Fprobabilities_2.same W3
  have Ea3 := Ea2.wr W3
  have K3 := K2.wr W3 (Or.inl (List.mem_of_getElem? (i := 0) rfl))
  have N3 := Fr.snoc X3 N2 ga
  have V13 := V12.other W3 ne1
  have V23 := V22.other W3 ne2
  obtain ⟨c1, Ar1, q1, S1, M1, H1, G1⟩ := V13
  obtain ⟨c2, Ar2, q2, S2, M2, H2, G2⟩ := V23
  have in1_0 : ¬ ((0 : Int32) < 0 ∨ c1.slots.size ≤ ((0 : Int32)).toNatClampNeg) := inb_of S1 ⟨by decide, by decide⟩
  have in2_0 : ¬ ((0 : Int32) < 0 ∨ c2.slots.size ≤ ((0 : Int32)).toNatClampNeg) := inb_of S2 ⟨by decide, by decide⟩
  have in1_1 : ¬ (((0 : Int32) + (1 : Int32)) < 0 ∨ c1.slots.size ≤ (((0 : Int32) + (1 : Int32))).toNatClampNeg) := inb_of S1 ⟨by decide, by decide⟩
  have in2_1 : ¬ (((0 : Int32) + (1 : Int32)) < 0 ∨ c2.slots.size ≤ (((0 : Int32) + (1 : Int32))).toNatClampNeg) := inb_of S2 ⟨by decide, by decide⟩
  obtain ⟨T4, h4, X4, e4, W4, st4⟩ := putF X3 hx hZ hown (host := "") (Or.inl (hw _ (List.mem_of_getElem? (i := 17) rfl))) Via.refl e3 Fmean_3 Ea3 (Or.inr ⟨(hw _ (List.mem_of_getElem? (i := 18) rfl)), rfl, hnm⟩) (hw _ (List.mem_of_getElem? (i := 5) rfl)) (ty := .double) (by decide) rfl rfl (g := (mkF m 47 #[.val (.ref a), .val (.ref b1), .val (.ref b2), .val (.double (FP.dadd (FP.dadd FP.dconst0 (FP.dmul (FP.i2d s0) p0)) (FP.dmul (FP.i2d s1) p1))), .second, .val (.int (((0 : Int32) + (1 : Int32)) + (1 : Int32)))] [(.double (FP.dadd (FP.dadd FP.dconst0 (FP.dmul (FP.i2d s0) p0)) (FP.dmul (FP.i2d s1) p1))), (.ref a)])) rfl rfl (hb hby d_prog_16_method_1_code_47)
  have Fsizes_4 := Fsizes_3.other W4 (Or.inr (Jvm.RoadKit.slot_ne (Or.inr (hw _ (List.mem_of_getElem? (i := 14) rfl))) (Or.inr (hw _ (List.mem_of_getElem? (i := 18) rfl))) (by decide) (t := (.array .int)) (t' := .double) (by decide) (by decide)))
  have Fprobabilities_4 := Fprobabilities_3.other W4 (Or.inr (Jvm.RoadKit.slot_ne (Or.inr (hw _ (List.mem_of_getElem? (i := 16) rfl))) (Or.inr (hw _ (List.mem_of_getElem? (i := 18) rfl))) (by decide) (t := (.array .double)) (t' := .double) (by decide) (by decide)))
  have Fmean_4 := Fmean_3.same W4
  have Ea4 := Ea3.wr W4
  have K4 := K3.wr W4 (Or.inl (List.mem_of_getElem? (i := 0) rfl))
  have N4 := Fr.snoc X4 N3 ga
  obtain ⟨fs, hr, hrun, hended, hW, hsame⟩ := X4.leave (v := none) (fun _ => rfl)
  refine ⟨_, _, pre0 _ ?_, hrun, hended, _, _, rfl, ?_, ⟨_, rfl⟩, hW, hsame.mono (by decide) (by decide)⟩
  · show Steps p.tables e below (s₁.setTop (mkF m 0 #[.val (.ref a), .val (.ref b1), .val (.ref b2), .unset, .unset, .unset] [])) _
    refine XS.aloadN X0.here hx rfl (hb hby d_prog_16_method_1_code_0) rfl rfl ?_
    show Steps p.tables e below (s₁.setTop (mkF m 1 #[.val (.ref a), .val (.ref b1), .val (.ref b2), .unset, .unset, .unset] [(.ref a)])) _
    refine st1 _ ?_
    show Steps p.tables e below (T1.setTop (mkF m 4 #[.val (.ref a), .val (.ref b1), .val (.ref b2), .unset, .unset, .unset] [])) _
    refine XS.aloadN X1.here hx rfl (hb hby d_prog_16_method_1_code_4) rfl rfl ?_
    show Steps p.tables e below (T1.setTop (mkF m 5 #[.val (.ref a), .val (.ref b1), .val (.ref b2), .unset, .unset, .unset] [(.ref a)])) _
    refine XS.aloadN X1.here hx rfl (hb hby d_prog_16_method_1_code_5) rfl rfl ?_
    show Steps p.tables e below (T1.setTop (mkF m 6 #[.val (.ref a), .val (.ref b1), .val (.ref b2), .unset, .unset, .unset] [(.ref b1), (.ref a)])) _
    refine st2 _ ?_
    show Steps p.tables e below (T2.setTop (mkF m 9 #[.val (.ref a), .val (.ref b1), .val (.ref b2), .unset, .unset, .unset] [])) _
    refine XS.aloadN X2.here hx rfl (hb hby d_prog_16_method_1_code_9) rfl rfl ?_
    show Steps p.tables e below (T2.setTop (mkF m 10 #[.val (.ref a), .val (.ref b1), .val (.ref b2), .unset, .unset, .unset] [(.ref a)])) _
    refine XS.aloadN X2.here hx rfl (hb hby d_prog_16_method_1_code_10) rfl rfl ?_
    show Steps p.tables e below (T2.setTop (mkF m 11 #[.val (.ref a), .val (.ref b1), .val (.ref b2), .unset, .unset, .unset] [(.ref b2), (.ref a)])) _
    refine st3 _ ?_
    show Steps p.tables e below (T3.setTop (mkF m 14 #[.val (.ref a), .val (.ref b1), .val (.ref b2), .unset, .unset, .unset] [])) _
    refine XS.dconst0 X3.here hx rfl (v := FP.dconst0) (hb hby d_prog_16_method_1_code_14) rfl ?_
    show Steps p.tables e below (T3.setTop (mkF m 15 #[.val (.ref a), .val (.ref b1), .val (.ref b2), .unset, .unset, .unset] [(.double FP.dconst0)])) _
    refine XS.dstoreN X3.here hx rfl (hb hby d_prog_16_method_1_code_15) rfl (l' := #[.val (.ref a), .val (.ref b1), .val (.ref b2), .val (.double FP.dconst0), .second, .unset]) rfl ?_
    show Steps p.tables e below (T3.setTop (mkF m 16 #[.val (.ref a), .val (.ref b1), .val (.ref b2), .val (.double FP.dconst0), .second, .unset] [])) _
    refine XS.iconst X3.here hx rfl (hb hby d_prog_16_method_1_code_16) ?_
    show Steps p.tables e below (T3.setTop (mkF m 17 #[.val (.ref a), .val (.ref b1), .val (.ref b2), .val (.double FP.dconst0), .second, .unset] [(.int (0 : Int32))])) _
    refine XS.istore X3.here hx rfl (hb hby d_prog_16_method_1_code_17) rfl (l' := #[.val (.ref a), .val (.ref b1), .val (.ref b2), .val (.double FP.dconst0), .second, .val (.int (0 : Int32))]) rfl ?_
    show Steps p.tables e below (T3.setTop (mkF m 19 #[.val (.ref a), .val (.ref b1), .val (.ref b2), .val (.double FP.dconst0), .second, .val (.int (0 : Int32))] [])) _
    refine XS.iload X3.here hx rfl (hb hby d_prog_16_method_1_code_19) rfl ?_
    show Steps p.tables e below (T3.setTop (mkF m 21 #[.val (.ref a), .val (.ref b1), .val (.ref b2), .val (.double FP.dconst0), .second, .val (.int (0 : Int32))] [(.int (0 : Int32))])) _
    refine XS.aloadN X3.here hx rfl (hb hby d_prog_16_method_1_code_21) rfl rfl ?_
    show Steps p.tables e below (T3.setTop (mkF m 22 #[.val (.ref a), .val (.ref b1), .val (.ref b2), .val (.double FP.dconst0), .second, .val (.int (0 : Int32))] [(.ref b1), (.int (0 : Int32))])) _
    refine X3.arraylength hx (own_at e3 Ar1.1) (State.isArrayOf_alike hZ.alike Ar1.2.1) (g := (mkF m 22 #[.val (.ref a), .val (.ref b1), .val (.ref b2), .val (.double FP.dconst0), .second, .val (.int (0 : Int32))] [(.ref b1), (.int (0 : Int32))])) rfl rfl (hb hby d_prog_16_method_1_code_22) _ ?_
    rw [len_of S1 M1]
    show Steps p.tables e below (T3.setTop (mkF m 23 #[.val (.ref a), .val (.ref b1), .val (.ref b2), .val (.double FP.dconst0), .second, .val (.int (0 : Int32))] [(.int (2 : Int32)), (.int (0 : Int32))])) _
    refine XS.icmpNo X3.here hx rfl (hb hby d_prog_16_method_1_code_23) rfl (tlt (by decide : (0 : Int32) < (2 : Int32))).2.1 ?_
    show Steps p.tables e below (T3.setTop (mkF m 26 #[.val (.ref a), .val (.ref b1), .val (.ref b2), .val (.double FP.dconst0), .second, .val (.int (0 : Int32))] [])) _
    refine XS.dloadN X3.here hx rfl (hb hby d_prog_16_method_1_code_26) rfl ?_
    show Steps p.tables e below (T3.setTop (mkF m 27 #[.val (.ref a), .val (.ref b1), .val (.ref b2), .val (.double FP.dconst0), .second, .val (.int (0 : Int32))] [(.double FP.dconst0)])) _
    refine XS.aloadN X3.here hx rfl (hb hby d_prog_16_method_1_code_27) rfl rfl ?_
    show Steps p.tables e below (T3.setTop (mkF m 28 #[.val (.ref a), .val (.ref b1), .val (.ref b2), .val (.double FP.dconst0), .second, .val (.int (0 : Int32))] [(.ref b1), (.double FP.dconst0)])) _
    refine XS.iload X3.here hx rfl (hb hby d_prog_16_method_1_code_28) rfl ?_
    show Steps p.tables e below (T3.setTop (mkF m 30 #[.val (.ref a), .val (.ref b1), .val (.ref b2), .val (.double FP.dconst0), .second, .val (.int (0 : Int32))] [(.int (0 : Int32)), (.ref b1), (.double FP.dconst0)])) _
    refine X3.iaload hx (j := (0 : Int32)) (v := (.int s0)) (own_at e3 Ar1.1) (State.isArrayOf_alike hZ.alike Ar1.2.1) Ar1.2.2 in1_0 (Has.at H1 in1_0 rfl) (g := (mkF m 30 #[.val (.ref a), .val (.ref b1), .val (.ref b2), .val (.double FP.dconst0), .second, .val (.int (0 : Int32))] [(.int (0 : Int32)), (.ref b1), (.double FP.dconst0)])) rfl rfl (hb hby d_prog_16_method_1_code_30) _ ?_
    show Steps p.tables e below (T3.setTop (mkF m 31 #[.val (.ref a), .val (.ref b1), .val (.ref b2), .val (.double FP.dconst0), .second, .val (.int (0 : Int32))] [(.int s0), (.double FP.dconst0)])) _
    refine XS.i2dS X3.here hx rfl (hb hby d_prog_16_method_1_code_31) rfl (v := (FP.i2d s0)) rfl ?_
    show Steps p.tables e below (T3.setTop (mkF m 32 #[.val (.ref a), .val (.ref b1), .val (.ref b2), .val (.double FP.dconst0), .second, .val (.int (0 : Int32))] [(.double (FP.i2d s0)), (.double FP.dconst0)])) _
    refine XS.aloadN X3.here hx rfl (hb hby d_prog_16_method_1_code_32) rfl rfl ?_
    show Steps p.tables e below (T3.setTop (mkF m 33 #[.val (.ref a), .val (.ref b1), .val (.ref b2), .val (.double FP.dconst0), .second, .val (.int (0 : Int32))] [(.ref b2), (.double (FP.i2d s0)), (.double FP.dconst0)])) _
    refine XS.iload X3.here hx rfl (hb hby d_prog_16_method_1_code_33) rfl ?_
    show Steps p.tables e below (T3.setTop (mkF m 35 #[.val (.ref a), .val (.ref b1), .val (.ref b2), .val (.double FP.dconst0), .second, .val (.int (0 : Int32))] [(.int (0 : Int32)), (.ref b2), (.double (FP.i2d s0)), (.double FP.dconst0)])) _
    refine X3.daload hx (j := (0 : Int32)) (v := (.double p0)) (own_at e3 Ar2.1) (State.isArrayOf_alike hZ.alike Ar2.2.1) Ar2.2.2 in2_0 (Has.at H2 in2_0 rfl) (g := (mkF m 35 #[.val (.ref a), .val (.ref b1), .val (.ref b2), .val (.double FP.dconst0), .second, .val (.int (0 : Int32))] [(.int (0 : Int32)), (.ref b2), (.double (FP.i2d s0)), (.double FP.dconst0)])) rfl rfl (hb hby d_prog_16_method_1_code_35) _ ?_
    show Steps p.tables e below (T3.setTop (mkF m 36 #[.val (.ref a), .val (.ref b1), .val (.ref b2), .val (.double FP.dconst0), .second, .val (.int (0 : Int32))] [(.double p0), (.double (FP.i2d s0)), (.double FP.dconst0)])) _
    refine XS.dmulS X3.here hx rfl (hb hby d_prog_16_method_1_code_36) rfl hm0 (v := (FP.dmul (FP.i2d s0) p0)) rfl ?_
    show Steps p.tables e below (T3.setTop (mkF m 37 #[.val (.ref a), .val (.ref b1), .val (.ref b2), .val (.double FP.dconst0), .second, .val (.int (0 : Int32))] [(.double (FP.dmul (FP.i2d s0) p0)), (.double FP.dconst0)])) _
    refine XS.daddS X3.here hx rfl (hb hby d_prog_16_method_1_code_37) rfl ha0 (v := (FP.dadd FP.dconst0 (FP.dmul (FP.i2d s0) p0))) rfl ?_
    show Steps p.tables e below (T3.setTop (mkF m 38 #[.val (.ref a), .val (.ref b1), .val (.ref b2), .val (.double FP.dconst0), .second, .val (.int (0 : Int32))] [(.double (FP.dadd FP.dconst0 (FP.dmul (FP.i2d s0) p0)))])) _
    refine XS.dstoreN X3.here hx rfl (hb hby d_prog_16_method_1_code_38) rfl (l' := #[.val (.ref a), .val (.ref b1), .val (.ref b2), .val (.double (FP.dadd FP.dconst0 (FP.dmul (FP.i2d s0) p0))), .second, .val (.int (0 : Int32))]) rfl ?_
    show Steps p.tables e below (T3.setTop (mkF m 39 #[.val (.ref a), .val (.ref b1), .val (.ref b2), .val (.double (FP.dadd FP.dconst0 (FP.dmul (FP.i2d s0) p0))), .second, .val (.int (0 : Int32))] [])) _
    refine XS.iinc X3.here hx rfl (hb hby d_prog_16_method_1_code_39) rfl (l' := #[.val (.ref a), .val (.ref b1), .val (.ref b2), .val (.double (FP.dadd FP.dconst0 (FP.dmul (FP.i2d s0) p0))), .second, .val (.int ((0 : Int32) + (1 : Int32)))]) rfl ?_
    show Steps p.tables e below (T3.setTop (mkF m 42 #[.val (.ref a), .val (.ref b1), .val (.ref b2), .val (.double (FP.dadd FP.dconst0 (FP.dmul (FP.i2d s0) p0))), .second, .val (.int ((0 : Int32) + (1 : Int32)))] [])) _
    refine XS.goto X3.here hx rfl (pc0 := 42) (pc' := 19) rfl (hb hby d_prog_16_method_1_code_42) (by decide) (by decide) ?_
    show Steps p.tables e below (T3.setTop (mkF m 19 #[.val (.ref a), .val (.ref b1), .val (.ref b2), .val (.double (FP.dadd FP.dconst0 (FP.dmul (FP.i2d s0) p0))), .second, .val (.int ((0 : Int32) + (1 : Int32)))] [])) _
    refine XS.iload X3.here hx rfl (hb hby d_prog_16_method_1_code_19) rfl ?_
    show Steps p.tables e below (T3.setTop (mkF m 21 #[.val (.ref a), .val (.ref b1), .val (.ref b2), .val (.double (FP.dadd FP.dconst0 (FP.dmul (FP.i2d s0) p0))), .second, .val (.int ((0 : Int32) + (1 : Int32)))] [(.int ((0 : Int32) + (1 : Int32)))])) _
    refine XS.aloadN X3.here hx rfl (hb hby d_prog_16_method_1_code_21) rfl rfl ?_
    show Steps p.tables e below (T3.setTop (mkF m 22 #[.val (.ref a), .val (.ref b1), .val (.ref b2), .val (.double (FP.dadd FP.dconst0 (FP.dmul (FP.i2d s0) p0))), .second, .val (.int ((0 : Int32) + (1 : Int32)))] [(.ref b1), (.int ((0 : Int32) + (1 : Int32)))])) _
    refine X3.arraylength hx (own_at e3 Ar1.1) (State.isArrayOf_alike hZ.alike Ar1.2.1) (g := (mkF m 22 #[.val (.ref a), .val (.ref b1), .val (.ref b2), .val (.double (FP.dadd FP.dconst0 (FP.dmul (FP.i2d s0) p0))), .second, .val (.int ((0 : Int32) + (1 : Int32)))] [(.ref b1), (.int ((0 : Int32) + (1 : Int32)))])) rfl rfl (hb hby d_prog_16_method_1_code_22) _ ?_
    rw [len_of S1 M1]
    show Steps p.tables e below (T3.setTop (mkF m 23 #[.val (.ref a), .val (.ref b1), .val (.ref b2), .val (.double (FP.dadd FP.dconst0 (FP.dmul (FP.i2d s0) p0))), .second, .val (.int ((0 : Int32) + (1 : Int32)))] [(.int (2 : Int32)), (.int ((0 : Int32) + (1 : Int32)))])) _
    refine XS.icmpNo X3.here hx rfl (hb hby d_prog_16_method_1_code_23) rfl (tlt (by decide : ((0 : Int32) + (1 : Int32)) < (2 : Int32))).2.1 ?_
    show Steps p.tables e below (T3.setTop (mkF m 26 #[.val (.ref a), .val (.ref b1), .val (.ref b2), .val (.double (FP.dadd FP.dconst0 (FP.dmul (FP.i2d s0) p0))), .second, .val (.int ((0 : Int32) + (1 : Int32)))] [])) _
    refine XS.dloadN X3.here hx rfl (hb hby d_prog_16_method_1_code_26) rfl ?_
    show Steps p.tables e below (T3.setTop (mkF m 27 #[.val (.ref a), .val (.ref b1), .val (.ref b2), .val (.double (FP.dadd FP.dconst0 (FP.dmul (FP.i2d s0) p0))), .second, .val (.int ((0 : Int32) + (1 : Int32)))] [(.double (FP.dadd FP.dconst0 (FP.dmul (FP.i2d s0) p0)))])) _
    refine XS.aloadN X3.here hx rfl (hb hby d_prog_16_method_1_code_27) rfl rfl ?_
    show Steps p.tables e below (T3.setTop (mkF m 28 #[.val (.ref a), .val (.ref b1), .val (.ref b2), .val (.double (FP.dadd FP.dconst0 (FP.dmul (FP.i2d s0) p0))), .second, .val (.int ((0 : Int32) + (1 : Int32)))] [(.ref b1), (.double (FP.dadd FP.dconst0 (FP.dmul (FP.i2d s0) p0)))])) _
    refine XS.iload X3.here hx rfl (hb hby d_prog_16_method_1_code_28) rfl ?_
    show Steps p.tables e below (T3.setTop (mkF m 30 #[.val (.ref a), .val (.ref b1), .val (.ref b2), .val (.double (FP.dadd FP.dconst0 (FP.dmul (FP.i2d s0) p0))), .second, .val (.int ((0 : Int32) + (1 : Int32)))] [(.int ((0 : Int32) + (1 : Int32))), (.ref b1), (.double (FP.dadd FP.dconst0 (FP.dmul (FP.i2d s0) p0)))])) _
    refine X3.iaload hx (j := ((0 : Int32) + (1 : Int32))) (v := (.int s1)) (own_at e3 Ar1.1) (State.isArrayOf_alike hZ.alike Ar1.2.1) Ar1.2.2 in1_1 (Has.at H1 in1_1 rfl) (g := (mkF m 30 #[.val (.ref a), .val (.ref b1), .val (.ref b2), .val (.double (FP.dadd FP.dconst0 (FP.dmul (FP.i2d s0) p0))), .second, .val (.int ((0 : Int32) + (1 : Int32)))] [(.int ((0 : Int32) + (1 : Int32))), (.ref b1), (.double (FP.dadd FP.dconst0 (FP.dmul (FP.i2d s0) p0)))])) rfl rfl (hb hby d_prog_16_method_1_code_30) _ ?_
    show Steps p.tables e below (T3.setTop (mkF m 31 #[.val (.ref a), .val (.ref b1), .val (.ref b2), .val (.double (FP.dadd FP.dconst0 (FP.dmul (FP.i2d s0) p0))), .second, .val (.int ((0 : Int32) + (1 : Int32)))] [(.int s1), (.double (FP.dadd FP.dconst0 (FP.dmul (FP.i2d s0) p0)))])) _
    refine XS.i2dS X3.here hx rfl (hb hby d_prog_16_method_1_code_31) rfl (v := (FP.i2d s1)) rfl ?_
    show Steps p.tables e below (T3.setTop (mkF m 32 #[.val (.ref a), .val (.ref b1), .val (.ref b2), .val (.double (FP.dadd FP.dconst0 (FP.dmul (FP.i2d s0) p0))), .second, .val (.int ((0 : Int32) + (1 : Int32)))] [(.double (FP.i2d s1)), (.double (FP.dadd FP.dconst0 (FP.dmul (FP.i2d s0) p0)))])) _
    refine XS.aloadN X3.here hx rfl (hb hby d_prog_16_method_1_code_32) rfl rfl ?_
    show Steps p.tables e below (T3.setTop (mkF m 33 #[.val (.ref a), .val (.ref b1), .val (.ref b2), .val (.double (FP.dadd FP.dconst0 (FP.dmul (FP.i2d s0) p0))), .second, .val (.int ((0 : Int32) + (1 : Int32)))] [(.ref b2), (.double (FP.i2d s1)), (.double (FP.dadd FP.dconst0 (FP.dmul (FP.i2d s0) p0)))])) _
    refine XS.iload X3.here hx rfl (hb hby d_prog_16_method_1_code_33) rfl ?_
    show Steps p.tables e below (T3.setTop (mkF m 35 #[.val (.ref a), .val (.ref b1), .val (.ref b2), .val (.double (FP.dadd FP.dconst0 (FP.dmul (FP.i2d s0) p0))), .second, .val (.int ((0 : Int32) + (1 : Int32)))] [(.int ((0 : Int32) + (1 : Int32))), (.ref b2), (.double (FP.i2d s1)), (.double (FP.dadd FP.dconst0 (FP.dmul (FP.i2d s0) p0)))])) _
    refine X3.daload hx (j := ((0 : Int32) + (1 : Int32))) (v := (.double p1)) (own_at e3 Ar2.1) (State.isArrayOf_alike hZ.alike Ar2.2.1) Ar2.2.2 in2_1 (Has.at H2 in2_1 rfl) (g := (mkF m 35 #[.val (.ref a), .val (.ref b1), .val (.ref b2), .val (.double (FP.dadd FP.dconst0 (FP.dmul (FP.i2d s0) p0))), .second, .val (.int ((0 : Int32) + (1 : Int32)))] [(.int ((0 : Int32) + (1 : Int32))), (.ref b2), (.double (FP.i2d s1)), (.double (FP.dadd FP.dconst0 (FP.dmul (FP.i2d s0) p0)))])) rfl rfl (hb hby d_prog_16_method_1_code_35) _ ?_
    show Steps p.tables e below (T3.setTop (mkF m 36 #[.val (.ref a), .val (.ref b1), .val (.ref b2), .val (.double (FP.dadd FP.dconst0 (FP.dmul (FP.i2d s0) p0))), .second, .val (.int ((0 : Int32) + (1 : Int32)))] [(.double p1), (.double (FP.i2d s1)), (.double (FP.dadd FP.dconst0 (FP.dmul (FP.i2d s0) p0)))])) _
    refine XS.dmulS X3.here hx rfl (hb hby d_prog_16_method_1_code_36) rfl hm1 (v := (FP.dmul (FP.i2d s1) p1)) rfl ?_
    show Steps p.tables e below (T3.setTop (mkF m 37 #[.val (.ref a), .val (.ref b1), .val (.ref b2), .val (.double (FP.dadd FP.dconst0 (FP.dmul (FP.i2d s0) p0))), .second, .val (.int ((0 : Int32) + (1 : Int32)))] [(.double (FP.dmul (FP.i2d s1) p1)), (.double (FP.dadd FP.dconst0 (FP.dmul (FP.i2d s0) p0)))])) _
    refine XS.daddS X3.here hx rfl (hb hby d_prog_16_method_1_code_37) rfl ha1 (v := (FP.dadd (FP.dadd FP.dconst0 (FP.dmul (FP.i2d s0) p0)) (FP.dmul (FP.i2d s1) p1))) rfl ?_
    show Steps p.tables e below (T3.setTop (mkF m 38 #[.val (.ref a), .val (.ref b1), .val (.ref b2), .val (.double (FP.dadd FP.dconst0 (FP.dmul (FP.i2d s0) p0))), .second, .val (.int ((0 : Int32) + (1 : Int32)))] [(.double (FP.dadd (FP.dadd FP.dconst0 (FP.dmul (FP.i2d s0) p0)) (FP.dmul (FP.i2d s1) p1)))])) _
    refine XS.dstoreN X3.here hx rfl (hb hby d_prog_16_method_1_code_38) rfl (l' := #[.val (.ref a), .val (.ref b1), .val (.ref b2), .val (.double (FP.dadd (FP.dadd FP.dconst0 (FP.dmul (FP.i2d s0) p0)) (FP.dmul (FP.i2d s1) p1))), .second, .val (.int ((0 : Int32) + (1 : Int32)))]) rfl ?_
    show Steps p.tables e below (T3.setTop (mkF m 39 #[.val (.ref a), .val (.ref b1), .val (.ref b2), .val (.double (FP.dadd (FP.dadd FP.dconst0 (FP.dmul (FP.i2d s0) p0)) (FP.dmul (FP.i2d s1) p1))), .second, .val (.int ((0 : Int32) + (1 : Int32)))] [])) _
    refine XS.iinc X3.here hx rfl (hb hby d_prog_16_method_1_code_39) rfl (l' := #[.val (.ref a), .val (.ref b1), .val (.ref b2), .val (.double (FP.dadd (FP.dadd FP.dconst0 (FP.dmul (FP.i2d s0) p0)) (FP.dmul (FP.i2d s1) p1))), .second, .val (.int (((0 : Int32) + (1 : Int32)) + (1 : Int32)))]) rfl ?_
    show Steps p.tables e below (T3.setTop (mkF m 42 #[.val (.ref a), .val (.ref b1), .val (.ref b2), .val (.double (FP.dadd (FP.dadd FP.dconst0 (FP.dmul (FP.i2d s0) p0)) (FP.dmul (FP.i2d s1) p1))), .second, .val (.int (((0 : Int32) + (1 : Int32)) + (1 : Int32)))] [])) _
    refine XS.goto X3.here hx rfl (pc0 := 42) (pc' := 19) rfl (hb hby d_prog_16_method_1_code_42) (by decide) (by decide) ?_
    show Steps p.tables e below (T3.setTop (mkF m 19 #[.val (.ref a), .val (.ref b1), .val (.ref b2), .val (.double (FP.dadd (FP.dadd FP.dconst0 (FP.dmul (FP.i2d s0) p0)) (FP.dmul (FP.i2d s1) p1))), .second, .val (.int (((0 : Int32) + (1 : Int32)) + (1 : Int32)))] [])) _
    refine XS.iload X3.here hx rfl (hb hby d_prog_16_method_1_code_19) rfl ?_
    show Steps p.tables e below (T3.setTop (mkF m 21 #[.val (.ref a), .val (.ref b1), .val (.ref b2), .val (.double (FP.dadd (FP.dadd FP.dconst0 (FP.dmul (FP.i2d s0) p0)) (FP.dmul (FP.i2d s1) p1))), .second, .val (.int (((0 : Int32) + (1 : Int32)) + (1 : Int32)))] [(.int (((0 : Int32) + (1 : Int32)) + (1 : Int32)))])) _
    refine XS.aloadN X3.here hx rfl (hb hby d_prog_16_method_1_code_21) rfl rfl ?_
    show Steps p.tables e below (T3.setTop (mkF m 22 #[.val (.ref a), .val (.ref b1), .val (.ref b2), .val (.double (FP.dadd (FP.dadd FP.dconst0 (FP.dmul (FP.i2d s0) p0)) (FP.dmul (FP.i2d s1) p1))), .second, .val (.int (((0 : Int32) + (1 : Int32)) + (1 : Int32)))] [(.ref b1), (.int (((0 : Int32) + (1 : Int32)) + (1 : Int32)))])) _
    refine X3.arraylength hx (own_at e3 Ar1.1) (State.isArrayOf_alike hZ.alike Ar1.2.1) (g := (mkF m 22 #[.val (.ref a), .val (.ref b1), .val (.ref b2), .val (.double (FP.dadd (FP.dadd FP.dconst0 (FP.dmul (FP.i2d s0) p0)) (FP.dmul (FP.i2d s1) p1))), .second, .val (.int (((0 : Int32) + (1 : Int32)) + (1 : Int32)))] [(.ref b1), (.int (((0 : Int32) + (1 : Int32)) + (1 : Int32)))])) rfl rfl (hb hby d_prog_16_method_1_code_22) _ ?_
    rw [len_of S1 M1]
    show Steps p.tables e below (T3.setTop (mkF m 23 #[.val (.ref a), .val (.ref b1), .val (.ref b2), .val (.double (FP.dadd (FP.dadd FP.dconst0 (FP.dmul (FP.i2d s0) p0)) (FP.dmul (FP.i2d s1) p1))), .second, .val (.int (((0 : Int32) + (1 : Int32)) + (1 : Int32)))] [(.int (2 : Int32)), (.int (((0 : Int32) + (1 : Int32)) + (1 : Int32)))])) _
    refine XS.icmpYes X3.here hx rfl (pc0 := 23) (pc' := 45) rfl (hb hby d_prog_16_method_1_code_23) rfl (flt (by decide : ¬ ((((0 : Int32) + (1 : Int32)) + (1 : Int32)) < (2 : Int32)))).2.1 (by decide) (by decide) ?_
    show Steps p.tables e below (T3.setTop (mkF m 45 #[.val (.ref a), .val (.ref b1), .val (.ref b2), .val (.double (FP.dadd (FP.dadd FP.dconst0 (FP.dmul (FP.i2d s0) p0)) (FP.dmul (FP.i2d s1) p1))), .second, .val (.int (((0 : Int32) + (1 : Int32)) + (1 : Int32)))] [])) _
    refine XS.aloadN X3.here hx rfl (hb hby d_prog_16_method_1_code_45) rfl rfl ?_
    show Steps p.tables e below (T3.setTop (mkF m 46 #[.val (.ref a), .val (.ref b1), .val (.ref b2), .val (.double (FP.dadd (FP.dadd FP.dconst0 (FP.dmul (FP.i2d s0) p0)) (FP.dmul (FP.i2d s1) p1))), .second, .val (.int (((0 : Int32) + (1 : Int32)) + (1 : Int32)))] [(.ref a)])) _
    refine XS.dloadN X3.here hx rfl (hb hby d_prog_16_method_1_code_46) rfl ?_
    show Steps p.tables e below (T3.setTop (mkF m 47 #[.val (.ref a), .val (.ref b1), .val (.ref b2), .val (.double (FP.dadd (FP.dadd FP.dconst0 (FP.dmul (FP.i2d s0) p0)) (FP.dmul (FP.i2d s1) p1))), .second, .val (.int (((0 : Int32) + (1 : Int32)) + (1 : Int32)))] [(.double (FP.dadd (FP.dadd FP.dconst0 (FP.dmul (FP.i2d s0) p0)) (FP.dmul (FP.i2d s1) p1))), (.ref a)])) _
    refine st4 _ ?_
    show Steps p.tables e below (T4.setTop (mkF m 50 #[.val (.ref a), .val (.ref b1), .val (.ref b2), .val (.double (FP.dadd (FP.dadd FP.dconst0 (FP.dmul (FP.i2d s0) p0)) (FP.dmul (FP.i2d s1) p1))), .second, .val (.int (((0 : Int32) + (1 : Int32)) + (1 : Int32)))] [])) _
    exact X4.returnOut hx Bd.returns (hb hby d_prog_16_method_1_code_50) hr
  · show QS Z a (FP.dadd (FP.dadd FP.dconst0 (FP.dmul (FP.i2d s0) p0)) (FP.dmul (FP.i2d s1) p1)) n0 h0 _ T4.heap _
    rw [e4]
    exact ⟨rfl, N4, K4, Ea4, Fmean_4⟩
theorem ef_prog_9_method_1_code (m : MethodId) (x0 : Addr) (x1 : UInt64) (x2 : Addr) : entryFrame m #[(.ref x0), (.double x1), (.ref x2)] 4 = mkF m 0 #[.val (.ref x0), .val (.double x1), .second, .val (.ref x2)] [] := by first | (simp [entryFrame, mkF, argsToLocals, Value.category]; done) | rfl
set_option maxRecDepth 65536 in
set_option maxHeartbeats 40000000 in
theorem rmI (l : Launch) (Z : State) (a0 : Array Value) (hw : ∀ d ∈ tables_1, d.before a0 Z = true) (ws : List Jvm.Cond) (a : Addr) (x0 : UInt64) (d : Addr) (h0 : Heap) (n0 : Nat) (Z0 : n0 ≤ h0.size) (F_rate : Fld Z h0 a "com/example/cobatch/cobatch/model/ItemDemand" "rate" "D" (.double 0)) (F_sizes : Fld Z h0 a "com/example/cobatch/cobatch/model/ItemDemand" "sizes" "Lcom/example/cobatch/cobatch/model/SizeDistribution;" .null) (Ea : Exa Z h0 a "com/example/cobatch/cobatch/model/ItemDemand") (ga : n0 ≤ a) :
    MetFree l (⟨"com/example/cobatch/cobatch/model/ItemDemand", "<init>", "(DLcom/example/cobatch/cobatch/model/SizeDistribution;)V"⟩ : MethodName) (head1 (Jvm.Cond.code (⟨"com/example/cobatch/cobatch/model/ItemDemand", "<init>", "(DLcom/example/cobatch/cobatch/model/SizeDistribution;)V"⟩ : MethodName) prog_9_method_1_code 4 none :: ws) ({ frames := 1, cells := 0, slots := 0, locals := 12 } : Room)) (fun aa U => aa = #[(.ref a), (.double x0), (.ref d)] ∧ Z.Warmed39 U.vm ∧ U.heap = h0) (fun _ _ _ _ _ => True) (fun _ U o U' => ∃ v L, o = .returned v ∧ QI Z a x0 d n0 h0 v U'.heap L ∧ FrameEnd U o U' L ({ frames := 1, cells := 0, slots := 0, locals := 12 } : Room).cells ({ frames := 1, cells := 0, slots := 0, locals := 12 } : Room).slots) := by
  refine MetFree.of_bodySF (plainFor_of_name pn_prog_9_method_1_code) hisR ?_
  intro p e s m args below meth c s₁ Bd hml0 hP hK
  obtain ⟨rfl, hZ, hh⟩ := hP
  have hx := Bd.exec
  have hby := Bd.bytes
  have hml : c.maxLocals = 4 := hml0
  have hown : s.vm.findClass "com/example/cobatch/cobatch/model/ItemDemand" = some m.cls := findClass_of_methodNamed Bd.named
  have hnm := (name_of_methodNamed Bd.named Bd.method).1
  have X0 : Stand p l e ({ frames := 1, cells := 0, slots := 0, locals := 12 } : Room) s m #[(.ref a), (.double x0), (.ref d)] below meth c s₁ [] 0 0 := Stand.of_body Bd
  have e0 : s₁.heap = h0 := by rw [← hh, Bd.state]; rfl
  have N0 := Fr.nil n0
  have pre0 : ∀ t, Steps p.tables e below (s₁.setTop (mkF m 0 #[.val (.ref a), .val (.double x0), .second, .val (.ref d)] [])) t → Steps p.tables e below (s₁.setTop (entryFrame m #[(.ref a), (.double x0), (.ref d)] 4)) t := fun t k => castTop (ef_prog_9_method_1_code m a x0 d) k
  obtain ⟨T1, X1, e1, st1⟩ := initO X0 hx hZ hown (hw _ (List.mem_of_getElem? (i := 25) rfl)) (hw _ (List.mem_of_getElem? (i := 11) rfl)) (hw _ (List.mem_of_getElem? (i := 12) rfl)) e0 (g := (mkF m 1 #[.val (.ref a), .val (.double x0), .second, .val (.ref d)] [(.ref a)])) rfl (by rw [hml]; rfl) rfl (hb hby d_prog_9_method_1_code_1) (by decide) (W := 0) (by show 2 * 0 + _ ≤ _; exact Nat.le_of_eq rfl) (by decide)
  obtain ⟨T2, h2, X2, e2, W2, st2⟩ := putF X1 hx hZ hown (host := "") (Or.inl (hw _ (List.mem_of_getElem? (i := 26) rfl))) Via.refl e1 F_rate Ea (Or.inr ⟨(hw _ (List.mem_of_getElem? (i := 27) rfl)), rfl, hnm⟩) (hw _ (List.mem_of_getElem? (i := 20) rfl)) (ty := .double) (by decide) rfl rfl (g := (mkF m 6 #[.val (.ref a), .val (.double x0), .second, .val (.ref d)] [(.double x0), (.ref a)])) rfl rfl (hb hby d_prog_9_method_1_code_6)
  have Fsizes_2 := F_sizes.other W2 (Or.inr (Jvm.RoadKit.slot_ne (Or.inr (hw _ (List.mem_of_getElem? (i := 29) rfl))) (Or.inr (hw _ (List.mem_of_getElem? (i := 27) rfl))) (by decide) (t := (.object "com/example/cobatch/cobatch/model/SizeDistribution")) (t' := .double) (by decide) (by decide)))
  have Frate_2 := F_rate.same W2
  have Ea2 := Ea.wr W2
  have K2 := (Keep.refl h0 [a]).wr W2 (Or.inl (List.mem_of_getElem? (i := 0) rfl))
  have N2 := Fr.snoc X2 N0 ga
  obtain ⟨T3, h3, X3, e3, W3, st3⟩ := putF X2 hx hZ hown (host := "") (Or.inl (hw _ (List.mem_of_getElem? (i := 28) rfl))) Via.refl e2 Fsizes_2 Ea2 (Or.inr ⟨(hw _ (List.mem_of_getElem? (i := 29) rfl)), rfl, hnm⟩) (hw _ (List.mem_of_getElem? (i := 20) rfl)) (ty := (.object "com/example/cobatch/cobatch/model/SizeDistribution")) (by decide) rfl rfl (g := (mkF m 11 #[.val (.ref a), .val (.double x0), .second, .val (.ref d)] [(.ref d), (.ref a)])) rfl rfl (hb hby d_prog_9_method_1_code_11)
  have Frate_3 := Frate_2.other W3 (Or.inr (Jvm.RoadKit.slot_ne (Or.inr (hw _ (List.mem_of_getElem? (i := 27) rfl))) (Or.inr (hw _ (List.mem_of_getElem? (i := 29) rfl))) (by decide) (t := .double) (t' := (.object "com/example/cobatch/cobatch/model/SizeDistribution")) (by decide) (by decide)))
  have Fsizes_3 := Fsizes_2.same W3
  have Ea3 := Ea2.wr W3
  have K3 := K2.wr W3 (Or.inl (List.mem_of_getElem? (i := 0) rfl))
  have N3 := Fr.snoc X3 N2 ga
  obtain ⟨fs, hr, hrun, hended, hW, hsame⟩ := X3.leave (v := none) (fun _ => rfl)
  refine ⟨_, _, pre0 _ ?_, hrun, hended, _, _, rfl, ?_, ⟨_, rfl⟩, hW, hsame.mono (by decide) (by decide)⟩
  · show Steps p.tables e below (s₁.setTop (mkF m 0 #[.val (.ref a), .val (.double x0), .second, .val (.ref d)] [])) _
    refine XS.aloadN X0.here hx rfl (hb hby d_prog_9_method_1_code_0) rfl rfl ?_
    show Steps p.tables e below (s₁.setTop (mkF m 1 #[.val (.ref a), .val (.double x0), .second, .val (.ref d)] [(.ref a)])) _
    refine st1 _ ?_
    show Steps p.tables e below (T1.setTop (mkF m 4 #[.val (.ref a), .val (.double x0), .second, .val (.ref d)] [])) _
    refine XS.aloadN X1.here hx rfl (hb hby d_prog_9_method_1_code_4) rfl rfl ?_
    show Steps p.tables e below (T1.setTop (mkF m 5 #[.val (.ref a), .val (.double x0), .second, .val (.ref d)] [(.ref a)])) _
    refine XS.dloadN X1.here hx rfl (hb hby d_prog_9_method_1_code_5) rfl ?_
    show Steps p.tables e below (T1.setTop (mkF m 6 #[.val (.ref a), .val (.double x0), .second, .val (.ref d)] [(.double x0), (.ref a)])) _
    refine st2 _ ?_
    show Steps p.tables e below (T2.setTop (mkF m 9 #[.val (.ref a), .val (.double x0), .second, .val (.ref d)] [])) _
    refine XS.aloadN X2.here hx rfl (hb hby d_prog_9_method_1_code_9) rfl rfl ?_
    show Steps p.tables e below (T2.setTop (mkF m 10 #[.val (.ref a), .val (.double x0), .second, .val (.ref d)] [(.ref a)])) _
    refine XS.aloadN X2.here hx rfl (hb hby d_prog_9_method_1_code_10) rfl rfl ?_
    show Steps p.tables e below (T2.setTop (mkF m 11 #[.val (.ref a), .val (.double x0), .second, .val (.ref d)] [(.ref d), (.ref a)])) _
    refine st3 _ ?_
    show Steps p.tables e below (T3.setTop (mkF m 14 #[.val (.ref a), .val (.double x0), .second, .val (.ref d)] [])) _
    exact X3.returnOut hx Bd.returns (hb hby d_prog_9_method_1_code_14) hr
  · show QI Z a x0 d n0 h0 _ T3.heap _
    rw [e3]
    exact ⟨rfl, N3, K3, Ea3, Frate_3, Fsizes_3⟩
theorem ef_prog_16_method_5_code (m : MethodId) (x0 : Addr) : entryFrame m #[(.ref x0)] 1 = mkF m 0 #[.val (.ref x0)] [] := by first | (simp [entryFrame, mkF, argsToLocals, Value.category]; done) | rfl
set_option maxRecDepth 65536 in
set_option maxHeartbeats 40000000 in
theorem rmM (l : Launch) (Z : State) (a0 : Array Value) (hw : ∀ d ∈ tables_1, d.before a0 Z = true) (ws : List Jvm.Cond) (a : Addr) (x0 : UInt64) (h0 : Heap) (n0 : Nat) (Z0 : n0 ≤ h0.size) (Fm : Fld Z h0 a "com/example/cobatch/cobatch/model/SizeDistribution" "mean" "D" (.double x0)) :
    MetFree l (⟨"com/example/cobatch/cobatch/model/SizeDistribution", "mean", "()D"⟩ : MethodName) (head1 (Jvm.Cond.code (⟨"com/example/cobatch/cobatch/model/SizeDistribution", "mean", "()D"⟩ : MethodName) prog_16_method_5_code 1 (some .double) :: ws) ({ frames := 0, cells := 0, slots := 0, locals := 0 } : Room)) (fun aa U => aa = #[(.ref a)] ∧ Z.Warmed39 U.vm ∧ U.heap = h0) (fun _ _ _ _ _ => True) (fun _ U o U' => ∃ v L, o = .returned v ∧ QV (.double x0) n0 h0 v U'.heap L ∧ FrameEnd U o U' L ({ frames := 0, cells := 0, slots := 0, locals := 0 } : Room).cells ({ frames := 0, cells := 0, slots := 0, locals := 0 } : Room).slots) := by
  refine MetFree.of_bodySF (plainFor_of_name pn_prog_16_method_5_code) hisR ?_
  intro p e s m args below meth c s₁ Bd hml0 hP hK
  obtain ⟨rfl, hZ, hh⟩ := hP
  have hx := Bd.exec
  have hby := Bd.bytes
  have hml : c.maxLocals = 1 := hml0
  have hown : s.vm.findClass "com/example/cobatch/cobatch/model/SizeDistribution" = some m.cls := findClass_of_methodNamed Bd.named
  have hnm := (name_of_methodNamed Bd.named Bd.method).1
  have X0 : Stand p l e ({ frames := 0, cells := 0, slots := 0, locals := 0 } : Room) s m #[(.ref a)] below meth c s₁ [] 0 0 := Stand.of_body Bd
  have e0 : s₁.heap = h0 := by rw [← hh, Bd.state]; rfl
  have N0 := Fr.nil n0
  have pre0 : ∀ t, Steps p.tables e below (s₁.setTop (mkF m 0 #[.val (.ref a)] [])) t → Steps p.tables e below (s₁.setTop (entryFrame m #[(.ref a)] 1)) t := fun t k => castTop (ef_prog_16_method_5_code m a) k
  obtain ⟨T1, X1, e1, st1⟩ := getF X0 hx hZ hown (host := "") (Or.inl (hw _ (List.mem_of_getElem? (i := 17) rfl))) Via.refl e0 Fm (g := (mkF m 1 #[.val (.ref a)] [(.ref a)])) rfl rfl (hb hby d_prog_16_method_5_code_1)
  obtain ⟨fs, hr, hrun, hended, hW, hsame⟩ := X1.leave (v := some (.double x0)) (fun h => by rw [Bd.returns] at h; cases h)
  refine ⟨_, _, pre0 _ ?_, hrun, hended, _, _, rfl, ?_, ⟨_, rfl⟩, hW, hsame.mono (by decide) (by decide)⟩
  · show Steps p.tables e below (s₁.setTop (mkF m 0 #[.val (.ref a)] [])) _
    refine XS.aloadN X0.here hx rfl (hb hby d_prog_16_method_5_code_0) rfl rfl ?_
    show Steps p.tables e below (s₁.setTop (mkF m 1 #[.val (.ref a)] [(.ref a)])) _
    refine st1 _ ?_
    show Steps p.tables e below (T1.setTop (mkF m 4 #[.val (.ref a)] [(.double x0)])) _
    exact own_retD X1 hx Bd.returns (hb hby d_prog_16_method_5_code_4) hr
  · show QV (.double x0) n0 h0 _ T1.heap _
    rw [e1]
    exact ⟨rfl, N0, rfl⟩
theorem ef_prog_9_method_4_code (m : MethodId) (x0 : Addr) : entryFrame m #[(.ref x0)] 1 = mkF m 0 #[.val (.ref x0)] [] := by first | (simp [entryFrame, mkF, argsToLocals, Value.category]; done) | rfl
set_option maxRecDepth 65536 in
set_option maxHeartbeats 40000000 in
theorem rmU (l : Launch) (Z : State) (a0 : Array Value) (hw : ∀ d ∈ tables_1, d.before a0 Z = true) (ws : List Jvm.Cond) (a d : Addr) (x0 x1 : UInt64) (h0 : Heap) (n0 : Nat) (Z0 : n0 ≤ h0.size) (Fr_ : Fld Z h0 a "com/example/cobatch/cobatch/model/ItemDemand" "rate" "D" (.double x0)) (Fs : Fld Z h0 a "com/example/cobatch/cobatch/model/ItemDemand" "sizes" "Lcom/example/cobatch/cobatch/model/SizeDistribution;" (.ref d)) (Fm : Fld Z h0 d "com/example/cobatch/cobatch/model/SizeDistribution" "mean" "D" (.double x1)) (Ed : Exa Z h0 d "com/example/cobatch/cobatch/model/SizeDistribution") (hn11 : Jvm.Free.Fl.NoNaN64 (FP.dmul x0 x1)) :
    MetFree l (⟨"com/example/cobatch/cobatch/model/ItemDemand", "unitRate", "()D"⟩ : MethodName) (head1 (Jvm.Cond.code (⟨"com/example/cobatch/cobatch/model/ItemDemand", "unitRate", "()D"⟩ : MethodName) prog_9_method_4_code 1 (some .double) :: ws) ({ frames := 1, cells := 0, slots := 0, locals := 14 } : Room)) (fun aa U => aa = #[(.ref a)] ∧ Z.Warmed39 U.vm ∧ U.heap = h0) (fun _ _ _ _ _ => True) (fun _ U o U' => ∃ v L, o = .returned v ∧ QV (.double (FP.dmul x0 x1)) n0 h0 v U'.heap L ∧ FrameEnd U o U' L ({ frames := 1, cells := 0, slots := 0, locals := 14 } : Room).cells ({ frames := 1, cells := 0, slots := 0, locals := 14 } : Room).slots) := by
  refine MetFree.of_bodySF (plainFor_of_name pn_prog_9_method_4_code) hisR ?_
  intro p e s m args below meth c s₁ Bd hml0 hP hK
  obtain ⟨rfl, hZ, hh⟩ := hP
  have hx := Bd.exec
  have hby := Bd.bytes
  have hml : c.maxLocals = 1 := hml0
  have hown : s.vm.findClass "com/example/cobatch/cobatch/model/ItemDemand" = some m.cls := findClass_of_methodNamed Bd.named
  have hnm := (name_of_methodNamed Bd.named Bd.method).1
  have X0 : Stand p l e ({ frames := 1, cells := 0, slots := 0, locals := 14 } : Room) s m #[(.ref a)] below meth c s₁ [] 0 0 := Stand.of_body Bd
  have e0 : s₁.heap = h0 := by rw [← hh, Bd.state]; rfl
  have N0 := Fr.nil n0
  have pre0 : ∀ t, Steps p.tables e below (s₁.setTop (mkF m 0 #[.val (.ref a)] [])) t → Steps p.tables e below (s₁.setTop (entryFrame m #[(.ref a)] 1)) t := fun t k => castTop (ef_prog_9_method_4_code m a) k
  obtain ⟨T1, X1, e1, st1⟩ := getF X0 hx hZ hown (host := "") (Or.inl (hw _ (List.mem_of_getElem? (i := 26) rfl))) Via.refl e0 Fr_ (g := (mkF m 1 #[.val (.ref a)] [(.ref a)])) rfl rfl (hb hby d_prog_9_method_4_code_1)
  obtain ⟨T2, X2, e2, st2⟩ := getF X1 hx hZ hown (host := "") (Or.inl (hw _ (List.mem_of_getElem? (i := 28) rfl))) Via.refl e1 Fs (g := (mkF m 5 #[.val (.ref a)] [(.ref a), (.double x0)])) rfl rfl (hb hby d_prog_9_method_4_code_5)
  obtain ⟨cq3, kq3, q3a, q3b, q3c⟩ := isOf hZ e2 Ed
  obtain ⟨_, _, ⟨T3, L3, k3, n3⟩, -, X3, ⟨Lc3, hQ3, l3, y3, z3⟩, st3⟩ := X2.virtualBack hx (y := (⟨"com/example/cobatch/cobatch/model/SizeDistribution", "mean", "()D"⟩ : MethodName)) (z := (⟨"com/example/cobatch/cobatch/model/SizeDistribution", "mean", "()D"⟩ : MethodName)) hown (mvT hZ (hw _ (List.mem_of_getElem? (i := 35) rfl))) (mvT hZ (hw _ (List.mem_of_getElem? (i := 36) rfl))) (notFace_of_selects (args := #[]) (mvT hZ (hw _ (List.mem_of_getElem? (i := 38) rfl)))) (mvT hZ (hw _ (List.mem_of_getElem? (i := 38) rfl))) (mvT hZ (hw _ (List.mem_of_getElem? (i := 37) rfl))) (by decide) (backOf (W := 2) (rmM l Z a0 hw [] d x1 h0 n0 Z0 Fm) hZ (hw _ (List.mem_of_getElem? (i := 39) rfl)) (hw _ (List.mem_of_getElem? (i := 6) rfl)) (by decide) (by decide)) q3a q3c (g := (mkF m 8 #[.val (.ref a)] [(.ref d), (.double x0)])) rfl (by rw [hml]; rfl) (Steps.refl _) (argsL := []) (rest := [(.double x0)]) (lenOf pd___D rfl) rfl (by show 2 * 0 + _ ≤ _; exact Nat.le_of_eq rfl) (hb hby d_prog_9_method_4_code_8) (fun _ _ => ⟨rfl, e2, (by decide : 0 + 0 ≤ _), (by decide : 0 + 0 ≤ _)⟩)
  dsimp only [Pt.U, Pt.locs, Pt.cells, Pt.slots] at X3 l3 y3 z3 st3 hQ3
  subst l3 y3 z3
  obtain ⟨rfl, N3q, K3⟩ := hQ3
  obtain ⟨fs, hr, hrun, hended, hW, hsame⟩ := X3.leave (v := some (.double (FP.dmul x0 x1))) (fun h => by rw [Bd.returns] at h; cases h)
  refine ⟨_, _, pre0 _ ?_, hrun, hended, _, _, rfl, ?_, ⟨_, rfl⟩, hW, hsame.mono (by decide) (by decide)⟩
  · show Steps p.tables e below (s₁.setTop (mkF m 0 #[.val (.ref a)] [])) _
    refine XS.aloadN X0.here hx rfl (hb hby d_prog_9_method_4_code_0) rfl rfl ?_
    show Steps p.tables e below (s₁.setTop (mkF m 1 #[.val (.ref a)] [(.ref a)])) _
    refine st1 _ ?_
    show Steps p.tables e below (T1.setTop (mkF m 4 #[.val (.ref a)] [(.double x0)])) _
    refine XS.aloadN X1.here hx rfl (hb hby d_prog_9_method_4_code_4) rfl rfl ?_
    show Steps p.tables e below (T1.setTop (mkF m 5 #[.val (.ref a)] [(.ref a), (.double x0)])) _
    refine st2 _ ?_
    show Steps p.tables e below (T2.setTop (mkF m 8 #[.val (.ref a)] [(.ref d), (.double x0)])) _
    refine st3.trans ?_
    show Steps p.tables e below (T3.setTop (mkF m 11 #[.val (.ref a)] [(.double x1), (.double x0)])) _
    refine XS.dmulS X3.here hx rfl (hb hby d_prog_9_method_4_code_11) rfl hn11 (v := (FP.dmul x0 x1)) rfl ?_
    show Steps p.tables e below (T3.setTop (mkF m 12 #[.val (.ref a)] [(.double (FP.dmul x0 x1))])) _
    exact own_retD X3 hx Bd.returns (hb hby d_prog_9_method_4_code_12) hr
  · show QV (.double (FP.dmul x0 x1)) n0 h0 _ T3.heap _
    rw [K3]
    exact ⟨rfl, Fr.app N0 N3q, rfl⟩
theorem ef_code (m : MethodId) (x0 : Int32) (x1 : Int32) (x2 : Int32) (x3 : Int32) : entryFrame m #[(.int x0), (.int x1), (.int x2), (.int x3)] maxLocals = mkF m 0 #[.val (.int x0), .val (.int x1), .val (.int x2), .val (.int x3), .unset, .unset, .unset, .unset, .unset, .unset, .unset, .unset, .unset, .unset, .unset] [] := by first | (simp [entryFrame, mkF, argsToLocals, Value.category, maxLocals]; done) | rfl
set_option maxRecDepth 65536 in
set_option maxHeartbeats 40000000 in
theorem rm0x (l : Launch) (Z : State) (a0 : Array Value) (hw : ∀ d ∈ tables_1, d.before a0 Z = true) (ws : List Jvm.Cond) (u0 u1 u2 u3 : Int32) (h0 : Heap) (n0 : Nat) (Z0 : n0 ≤ h0.size) (q0 : Jvm.Free.Fl.NoNaN64 (pE (u3 &&& (3 : Int32)))) (q1 : Jvm.Free.Fl.NoNaN64 (pE ((4 : Int32) - (u3 &&& (3 : Int32))))) (q2 : Jvm.Free.Fl.NoNaN64 (FP.ddiv (FP.l2d (numE u0 (u1 &&& (65535 : Int32)) (u2 &&& (65535 : Int32)) (u3 &&& (3 : Int32)))) (4616189618054758400 : UInt64))) (y1 : Jvm.Free.Fl.NoNaN64 (FP.dmul (FP.i2d (u1 &&& (65535 : Int32))) (pE (u3 &&& (3 : Int32))))) (y2 : Jvm.Free.Fl.NoNaN64 (FP.dadd FP.dconst0 (FP.dmul (FP.i2d (u1 &&& (65535 : Int32))) (pE (u3 &&& (3 : Int32)))))) (y3 : Jvm.Free.Fl.NoNaN64 (FP.dmul (FP.i2d (u2 &&& (65535 : Int32))) (pE ((4 : Int32) - (u3 &&& (3 : Int32)))))) (y4 : Jvm.Free.Fl.NoNaN64 (meanE (u1 &&& (65535 : Int32)) (u2 &&& (65535 : Int32)) (u3 &&& (3 : Int32)))) (y5 : Jvm.Free.Fl.NoNaN64 (FP.dmul (FP.i2d u0) (meanE (u1 &&& (65535 : Int32)) (u2 &&& (65535 : Int32)) (u3 &&& (3 : Int32))))) (hcmp : cmpValue (FP.dcmp (FP.dmul (FP.i2d u0) (meanE (u1 &&& (65535 : Int32)) (u2 &&& (65535 : Int32)) (u3 &&& (3 : Int32)))) (FP.ddiv (FP.l2d (numE u0 (u1 &&& (65535 : Int32)) (u2 &&& (65535 : Int32)) (u3 &&& (3 : Int32)))) (4616189618054758400 : UInt64))) .l = 0) :
    MetFree l x (head1 (Jvm.Cond.code x code maxLocals ret :: ws) room_1) (fun aa U => aa = #[(.int u0), (.int u1), (.int u2), (.int u3)] ∧ Z.Warmed39 U.vm ∧ U.heap = h0) (fun _ _ _ _ _ => True) (fun _ U o U' => ∃ v L, o = .returned v ∧ Q0 n0 v U'.heap L ∧ FrameEnd U o U' L 16 128) := by
  refine MetFree.of_bodySF (plainFor_of_name pn_code) hisR ?_
  intro p e s m args below meth c s₁ Bd hml0 hP hK
  obtain ⟨rfl, hZ, hh⟩ := hP
  have hx := Bd.exec
  have hby := Bd.bytes
  have hml : c.maxLocals = 15 := hml0
  have hown : s.vm.findClass "com/example/cobatch/cobatch/model/ItemDemandUnitRatePinLaw" = some m.cls := findClass_of_methodNamed Bd.named
  have hnm := (name_of_methodNamed Bd.named Bd.method).1
  have X0 : Stand p l e room_1 s m #[(.int u0), (.int u1), (.int u2), (.int u3)] below meth c s₁ [] 0 0 := Stand.of_body Bd
  have e0 : s₁.heap = h0 := by rw [← hh, Bd.state]; rfl
  have N0 := Fr.nil n0
  have pre0 : ∀ t, Steps p.tables e below (s₁.setTop (mkF m 0 #[.val (.int u0), .val (.int u1), .val (.int u2), .val (.int u3), .unset, .unset, .unset, .unset, .unset, .unset, .unset, .unset, .unset, .unset, .unset] [])) t → Steps p.tables e below (s₁.setTop (entryFrame m #[(.int u0), (.int u1), (.int u2), (.int u3)] maxLocals)) t := fun t k => castTop (ef_code m u0 u1 u2 u3) k
  obtain ⟨T1, h1, k1, X1, e1, E1, A1, st1⟩ := newP X0 hx hZ (hw _ (List.mem_of_getElem? (i := 1) rfl)) e0 (g := (mkF m 18 #[.val (.int u0), .val (.int u1), .val (.int u2), .val (.int u3), .val (.int (u1 &&& (65535 : Int32))), .val (.int (u2 &&& (65535 : Int32))), .val (.int (u3 &&& (3 : Int32))), .unset, .unset, .unset, .unset, .unset, .unset, .unset, .unset] [(.int (2 : Int32))])) rfl (hb hby at_18) rfl (by decide) (cap := 2) (by decide) (by decide) (by decide) (by decide)
  obtain ⟨b1, g1⟩ : ∃ z, z = h0.size := ⟨_, rfl⟩
  rw [← g1] at A1 st1
  have VI0 : Arv Z h1 b1 k1 .int (2 : Int32) [(.int 0), (.int 0)] (.int 0) := (Arv.new A1 (by decide)).pad (pad_rep [] (.int 0) 2)
  have gb1 : n0 ≤ b1 := Nat.le_trans Z0 (Nat.le_of_eq g1.symm)
  obtain ⟨cl_I0, Ar_I0, q_I0, S_I0, N_I0, H_I0, G_I0⟩ := VI0
  have in_I0 : ¬ ((0 : Int32) < 0 ∨ cl_I0.slots.size ≤ (0 : Int32).toNatClampNeg) := inb_of S_I0 ⟨by decide, by decide⟩
  obtain ⟨T2, h2, X2, e2, W2, st2⟩ := stI X1 hx hZ e1 Ar_I0 (j := (0 : Int32)) in_I0 (g := (mkF m 24 #[.val (.int u0), .val (.int u1), .val (.int u2), .val (.int u3), .val (.int (u1 &&& (65535 : Int32))), .val (.int (u2 &&& (65535 : Int32))), .val (.int (u3 &&& (3 : Int32))), .unset, .unset, .unset, .unset, .unset, .unset, .unset, .unset] [(.int (u1 &&& (65535 : Int32))), (.int (0 : Int32)), (.ref b1), (.ref b1)])) rfl rfl (hb hby at_24)
  have VI1 : Arv Z h2 b1 k1 .int (2 : Int32) [(.int (u1 &&& (65535 : Int32))), (.int 0)] (.int 0) := Arv.set Ar_I0 q_I0 S_I0 N_I0 H_I0 G_I0 rfl W2 0 rfl (Nat.le_of_ble_eq_true rfl)
  have NF2 := Fr.snoc X2 N0 gb1
  obtain ⟨cl_I1, Ar_I1, q_I1, S_I1, N_I1, H_I1, G_I1⟩ := VI1
  have in_I1 : ¬ ((1 : Int32) < 0 ∨ cl_I1.slots.size ≤ (1 : Int32).toNatClampNeg) := inb_of S_I1 ⟨by decide, by decide⟩
  obtain ⟨T3, h3, X3, e3, W3, st3⟩ := stI X2 hx hZ e2 Ar_I1 (j := (1 : Int32)) in_I1 (g := (mkF m 29 #[.val (.int u0), .val (.int u1), .val (.int u2), .val (.int u3), .val (.int (u1 &&& (65535 : Int32))), .val (.int (u2 &&& (65535 : Int32))), .val (.int (u3 &&& (3 : Int32))), .unset, .unset, .unset, .unset, .unset, .unset, .unset, .unset] [(.int (u2 &&& (65535 : Int32))), (.int (1 : Int32)), (.ref b1), (.ref b1)])) rfl rfl (hb hby at_29)
  have VI2 : Arv Z h3 b1 k1 .int (2 : Int32) [(.int (u1 &&& (65535 : Int32))), (.int (u2 &&& (65535 : Int32)))] (.int 0) := Arv.set Ar_I1 q_I1 S_I1 N_I1 H_I1 G_I1 rfl W3 1 rfl (Nat.le_of_ble_eq_true rfl)
  have NF3 := Fr.snoc X3 NF2 gb1
  obtain ⟨T4, h4, k4, X4, e4, E4, A4, st4⟩ := newP X3 hx hZ (hw _ (List.mem_of_getElem? (i := 2) rfl)) e3 (g := (mkF m 33 #[.val (.int u0), .val (.int u1), .val (.int u2), .val (.int u3), .val (.int (u1 &&& (65535 : Int32))), .val (.int (u2 &&& (65535 : Int32))), .val (.int (u3 &&& (3 : Int32))), .val (.ref b1), .unset, .unset, .unset, .unset, .unset, .unset, .unset] [(.int (2 : Int32))])) rfl (hb hby at_33) rfl (by decide) (cap := 2) (by decide) (by decide) (by decide) (by decide)
  obtain ⟨b4, g4⟩ : ∃ z, z = h3.size := ⟨_, rfl⟩
  rw [← g4] at A4 st4
  have Zm1 : n0 ≤ h3.size := Nat.le_of_lt (Nat.lt_of_le_of_lt gb1 VI2.lt)
  have gb2 : n0 ≤ b4 := Nat.le_trans Zm1 (Nat.le_of_eq g4.symm)
  have ne12 : b1 ≠ b4 := Nat.ne_of_lt (Nat.lt_of_lt_of_le VI2.lt (Nat.le_of_eq g4.symm))
  have VI3 := VI2.ext E4
  have VD0 : Arv Z h4 b4 k4 .double (2 : Int32) [(.double 0), (.double 0)] (.double 0) := (Arv.new A4 (by decide)).pad (pad_rep [] (.double 0) 2)
  obtain ⟨cl_D0, Ar_D0, q_D0, S_D0, N_D0, H_D0, G_D0⟩ := VD0
  have in_D0 : ¬ ((0 : Int32) < 0 ∨ cl_D0.slots.size ≤ (0 : Int32).toNatClampNeg) := inb_of S_D0 ⟨by decide, by decide⟩
  obtain ⟨T5, h5, X5, e5, W5, st5⟩ := stD X4 hx hZ e4 Ar_D0 (j := (0 : Int32)) in_D0 (g := (mkF m 44 #[.val (.int u0), .val (.int u1), .val (.int u2), .val (.int u3), .val (.int (u1 &&& (65535 : Int32))), .val (.int (u2 &&& (65535 : Int32))), .val (.int (u3 &&& (3 : Int32))), .val (.ref b1), .unset, .unset, .unset, .unset, .unset, .unset, .unset] [(.double (FP.ddiv (FP.i2d (u3 &&& (3 : Int32))) (4616189618054758400 : UInt64))), (.int (0 : Int32)), (.ref b4), (.ref b4)])) rfl rfl (hb hby at_44)
  have VD1 : Arv Z h5 b4 k4 .double (2 : Int32) [(.double (FP.ddiv (FP.i2d (u3 &&& (3 : Int32))) (4616189618054758400 : UInt64))), (.double 0)] (.double 0) := Arv.set Ar_D0 q_D0 S_D0 N_D0 H_D0 G_D0 rfl W5 0 rfl (Nat.le_of_ble_eq_true rfl)
  have NF5 := Fr.snoc X5 NF3 gb2
  obtain ⟨cl_D1, Ar_D1, q_D1, S_D1, N_D1, H_D1, G_D1⟩ := VD1
  have in_D1 : ¬ ((1 : Int32) < 0 ∨ cl_D1.slots.size ≤ (1 : Int32).toNatClampNeg) := inb_of S_D1 ⟨by decide, by decide⟩
  obtain ⟨T6, h6, X6, e6, W6, st6⟩ := stD X5 hx hZ e5 Ar_D1 (j := (1 : Int32)) in_D1 (g := (mkF m 56 #[.val (.int u0), .val (.int u1), .val (.int u2), .val (.int u3), .val (.int (u1 &&& (65535 : Int32))), .val (.int (u2 &&& (65535 : Int32))), .val (.int (u3 &&& (3 : Int32))), .val (.ref b1), .unset, .unset, .unset, .unset, .unset, .unset, .unset] [(.double (FP.ddiv (FP.i2d ((4 : Int32) - (u3 &&& (3 : Int32)))) (4616189618054758400 : UInt64))), (.int (1 : Int32)), (.ref b4), (.ref b4)])) rfl rfl (hb hby at_56)
  have VD2 : Arv Z h6 b4 k4 .double (2 : Int32) [(.double (FP.ddiv (FP.i2d (u3 &&& (3 : Int32))) (4616189618054758400 : UInt64))), (.double (FP.ddiv (FP.i2d ((4 : Int32) - (u3 &&& (3 : Int32)))) (4616189618054758400 : UInt64)))] (.double 0) := Arv.set Ar_D1 q_D1 S_D1 N_D1 H_D1 G_D1 rfl W6 1 rfl (Nat.le_of_ble_eq_true rfl)
  have NF6 := Fr.snoc X6 NF5 gb2
  have VI4 := (VI3.other W5 ne12).other W6 ne12
  obtain ⟨T7, h7, X7, e7, E7, A7, D7, -, st7⟩ := newO X6 hx hZ hown (hw _ (List.mem_of_getElem? (i := 4) rfl)) (hw _ (List.mem_of_getElem? (i := 5) rfl)) (hw _ (List.mem_of_getElem? (i := 6) rfl)) e6 (g := (mkF m 59 #[.val (.int u0), .val (.int u1), .val (.int u2), .val (.int u3), .val (.int (u1 &&& (65535 : Int32))), .val (.int (u2 &&& (65535 : Int32))), .val (.int (u3 &&& (3 : Int32))), .val (.ref b1), .val (.ref b4), .unset, .unset, .unset, .unset, .unset, .unset] [])) rfl (hb hby at_59) (by decide) (by decide)
  obtain ⟨b7, g7⟩ : ∃ z, z = h6.size := ⟨_, rfl⟩
  rw [← g7] at A7 D7 st7
  have Zm2 : n0 ≤ h6.size := Nat.le_of_lt (Nat.lt_of_le_of_lt gb2 VD2.lt)
  have gb3 : n0 ≤ b7 := Nat.le_trans Zm2 (Nat.le_of_eq g7.symm)
  have Z3 : n0 ≤ h7.size := Nat.le_trans Zm2 E7.1
  have ne13 : b1 ≠ b7 := Nat.ne_of_lt (Nat.lt_of_lt_of_le VI4.lt (Nat.le_of_eq g7.symm))
  have ne23 : b4 ≠ b7 := Nat.ne_of_lt (Nat.lt_of_lt_of_le VD2.lt (Nat.le_of_eq g7.symm))
  have S_sizes : Fld Z h7 b7 "com/example/cobatch/cobatch/model/SizeDistribution" "sizes" "[I" .null := D7 (Or.inr (hw _ (List.mem_of_getElem? (i := 14) rfl))) (ty := (.array .int)) (by decide)
  have S_probabilities : Fld Z h7 b7 "com/example/cobatch/cobatch/model/SizeDistribution" "probabilities" "[D" .null := D7 (Or.inr (hw _ (List.mem_of_getElem? (i := 16) rfl))) (ty := (.array .double)) (by decide)
  have S_mean : Fld Z h7 b7 "com/example/cobatch/cobatch/model/SizeDistribution" "mean" "D" (.double 0) := D7 (Or.inr (hw _ (List.mem_of_getElem? (i := 18) rfl))) (ty := .double) (by decide)
  obtain ⟨_, _, ⟨T8, L8, k8, n8⟩, -, X8, ⟨Lc8, hQ8, l8, y8, z8⟩, st8⟩ := X7.specialBack hx (y := (⟨"com/example/cobatch/cobatch/model/SizeDistribution", "<init>", "([I[D)V"⟩ : MethodName)) rfl hown (mvT hZ (hw _ (List.mem_of_getElem? (i := 7) rfl))) (mvT hZ (hw _ (List.mem_of_getElem? (i := 8) rfl))) (mvT hZ (hw _ (List.mem_of_getElem? (i := 9) rfl))) (by decide) (backOf (W := 1) (rmS l Z a0 hw [] b7 b1 b4 (u1 &&& (65535 : Int32)) (u2 &&& (65535 : Int32)) (FP.ddiv (FP.i2d (u3 &&& (3 : Int32))) (4616189618054758400 : UInt64)) (FP.ddiv (FP.i2d ((4 : Int32) - (u3 &&& (3 : Int32)))) (4616189618054758400 : UInt64)) k1 k4 _ _ h7 n0 Z3 (VI4.ext E7) (VD2.ext E7) S_sizes S_probabilities S_mean A7 gb3 ne13 ne23 y1 y2 y3 y4) hZ (hw _ (List.mem_of_getElem? (i := 9) rfl)) (hw _ (List.mem_of_getElem? (i := 6) rfl)) (by decide) (by decide)) (g := (mkF m 67 #[.val (.int u0), .val (.int u1), .val (.int u2), .val (.int u3), .val (.int (u1 &&& (65535 : Int32))), .val (.int (u2 &&& (65535 : Int32))), .val (.int (u3 &&& (3 : Int32))), .val (.ref b1), .val (.ref b4), .unset, .unset, .unset, .unset, .unset, .unset] [(.ref b4), (.ref b1), (.ref b7), (.ref b7)])) rfl (by rw [hml]; rfl) (Steps.refl _) (a := b7) (argsL := [(.ref b1), (.ref b4)]) (rest := [(.ref b7)]) (lenOf pd___I_D_V rfl) rfl (by show 2 * 0 + _ ≤ _; exact Nat.le_of_eq rfl) (hb hby at_67) (fun _ _ => ⟨rfl, e7, (by decide : 3 + 0 ≤ _), (by decide : 7 + 0 ≤ _)⟩)
  dsimp only [Pt.U, Pt.locs, Pt.cells, Pt.slots] at X8 l8 y8 z8 st8 hQ8
  subst l8 y8 z8
  obtain ⟨rfl, N8q, K8, Ex8, Fm8⟩ := hQ8
  have NS := Fr.app NF6 N8q
  have Zc3 : n0 ≤ T8.heap.size := Nat.le_trans Z3 K8.1
  have lt3 : b7 < T8.heap.size := by obtain ⟨cl, _, _, _, _, q, _⟩ := Fm8; exact (Array.getElem?_eq_some_iff.mp q).1
  obtain ⟨T9, h9, X9, e9, E9, A9, D9, -, st9⟩ := newO X8 hx hZ hown (hw _ (List.mem_of_getElem? (i := 19) rfl)) (hw _ (List.mem_of_getElem? (i := 20) rfl)) (hw _ (List.mem_of_getElem? (i := 21) rfl)) rfl (g := (mkF m 72 #[.val (.int u0), .val (.int u1), .val (.int u2), .val (.int u3), .val (.int (u1 &&& (65535 : Int32))), .val (.int (u2 &&& (65535 : Int32))), .val (.int (u3 &&& (3 : Int32))), .val (.ref b1), .val (.ref b4), .val (.ref b7), .unset, .unset, .unset, .unset, .unset] [])) rfl (hb hby at_72) (by decide) (by decide)
  obtain ⟨b9, g9⟩ : ∃ z, z = T8.heap.size := ⟨_, rfl⟩
  rw [← g9] at A9 D9 st9
  have gb4 : n0 ≤ b9 := Nat.le_trans Zc3 (Nat.le_of_eq g9.symm)
  have Z4 : n0 ≤ h9.size := Nat.le_trans Zc3 E9.1
  have ne34 : b7 ≠ b9 := Nat.ne_of_lt (Nat.lt_of_lt_of_le lt3 (Nat.le_of_eq g9.symm))
  have I_rate : Fld Z h9 b9 "com/example/cobatch/cobatch/model/ItemDemand" "rate" "D" (.double 0) := D9 (Or.inr (hw _ (List.mem_of_getElem? (i := 27) rfl))) (ty := .double) (by decide)
  have I_sizes : Fld Z h9 b9 "com/example/cobatch/cobatch/model/ItemDemand" "sizes" "Lcom/example/cobatch/cobatch/model/SizeDistribution;" .null := D9 (Or.inr (hw _ (List.mem_of_getElem? (i := 29) rfl))) (ty := (.object "com/example/cobatch/cobatch/model/SizeDistribution")) (by decide)
  obtain ⟨_, _, ⟨T10, L10, k10, n10⟩, -, X10, ⟨Lc10, hQ10, l10, y10, z10⟩, st10⟩ := X9.specialBack hx (y := (⟨"com/example/cobatch/cobatch/model/ItemDemand", "<init>", "(DLcom/example/cobatch/cobatch/model/SizeDistribution;)V"⟩ : MethodName)) rfl hown (mvT hZ (hw _ (List.mem_of_getElem? (i := 22) rfl))) (mvT hZ (hw _ (List.mem_of_getElem? (i := 23) rfl))) (mvT hZ (hw _ (List.mem_of_getElem? (i := 24) rfl))) (by decide) (backOf (W := 1) (rmI l Z a0 hw [] b9 (FP.i2d u0) b7 h9 n0 Z4 I_rate I_sizes A9 gb4) hZ (hw _ (List.mem_of_getElem? (i := 24) rfl)) (hw _ (List.mem_of_getElem? (i := 21) rfl)) (by decide) (by decide)) (g := (mkF m 80 #[.val (.int u0), .val (.int u1), .val (.int u2), .val (.int u3), .val (.int (u1 &&& (65535 : Int32))), .val (.int (u2 &&& (65535 : Int32))), .val (.int (u3 &&& (3 : Int32))), .val (.ref b1), .val (.ref b4), .val (.ref b7), .unset, .unset, .unset, .unset, .unset] [(.ref b7), (.double (FP.i2d u0)), (.ref b9), (.ref b9)])) rfl (by rw [hml]; rfl) (Steps.refl _) (a := b9) (argsL := [(.double (FP.i2d u0)), (.ref b7)]) (rest := [(.ref b9)]) (lenOf pd__DLcom_example_cobatch_cobatch_model_SizeDistribution__V rfl) rfl (by show 2 * 0 + _ ≤ _; exact Nat.le_of_eq rfl) (hb hby at_80) (fun _ _ => ⟨rfl, e9, (by decide : 4 + 0 ≤ _), (by decide : 9 + 0 ≤ _)⟩)
  dsimp only [Pt.U, Pt.locs, Pt.cells, Pt.slots] at X10 l10 y10 z10 st10 hQ10
  subst l10 y10 z10
  obtain ⟨rfl, N10q, K10, Ex10, Fr10, Fs10⟩ := hQ10
  have NI := Fr.app NS N10q
  have Zc4 : n0 ≤ T10.heap.size := Nat.le_trans Z4 K10.1
  have Fmk := (Fm8.ext E9).keep K10 (ninS ne34 nin0)
  have Exk := (Ex8.ext E9).keep K10
  obtain ⟨cq11, kq11, q11a, q11b, q11c⟩ := isOf hZ rfl Ex10
  obtain ⟨_, _, ⟨T11, L11, k11, n11⟩, -, X11, ⟨Lc11, hQ11, l11, y11, z11⟩, st11⟩ := X10.virtualBack hx (y := (⟨"com/example/cobatch/cobatch/model/ItemDemand", "unitRate", "()D"⟩ : MethodName)) (z := (⟨"com/example/cobatch/cobatch/model/ItemDemand", "unitRate", "()D"⟩ : MethodName)) hown (mvT hZ (hw _ (List.mem_of_getElem? (i := 30) rfl))) (mvT hZ (hw _ (List.mem_of_getElem? (i := 31) rfl))) (notFace_of_selects (args := #[]) (mvT hZ (hw _ (List.mem_of_getElem? (i := 33) rfl)))) (mvT hZ (hw _ (List.mem_of_getElem? (i := 33) rfl))) (mvT hZ (hw _ (List.mem_of_getElem? (i := 32) rfl))) (by decide) (backOf (W := 0) (rmU l Z a0 hw [] b9 b7 (FP.i2d u0) (meanE (u1 &&& (65535 : Int32)) (u2 &&& (65535 : Int32)) (u3 &&& (3 : Int32))) T10.heap n0 Zc4 Fr10 Fs10 Fmk Exk y5) hZ (hw _ (List.mem_of_getElem? (i := 34) rfl)) (hw _ (List.mem_of_getElem? (i := 21) rfl)) (by decide) (by decide)) q11a q11c (g := (mkF m 118 #[.val (.int u0), .val (.int u1), .val (.int u2), .val (.int u3), .val (.int (u1 &&& (65535 : Int32))), .val (.int (u2 &&& (65535 : Int32))), .val (.int (u3 &&& (3 : Int32))), .val (.ref b1), .val (.ref b4), .val (.ref b7), .val (.ref b9), .val (.long ((u0.toInt64) * ((((u3 &&& (3 : Int32)).toInt64) * ((u1 &&& (65535 : Int32)).toInt64)) + ((((4 : Int32) - (u3 &&& (3 : Int32))).toInt64) * ((u2 &&& (65535 : Int32)).toInt64))))), .second, .val (.double (FP.ddiv (FP.l2d ((u0.toInt64) * ((((u3 &&& (3 : Int32)).toInt64) * ((u1 &&& (65535 : Int32)).toInt64)) + ((((4 : Int32) - (u3 &&& (3 : Int32))).toInt64) * ((u2 &&& (65535 : Int32)).toInt64))))) (4616189618054758400 : UInt64))), .second] [(.ref b9)])) rfl (by rw [hml]; rfl) (Steps.refl _) (argsL := []) (rest := []) (lenOf pd___D rfl) rfl (by show 2 * 0 + _ ≤ _; exact Nat.le_of_eq rfl) (hb hby at_118) (fun _ _ => ⟨rfl, rfl, (by decide : 4 + 0 ≤ _), (by decide : 9 + 0 ≤ _)⟩)
  dsimp only [Pt.U, Pt.locs, Pt.cells, Pt.slots] at X11 l11 y11 z11 st11 hQ11
  subst l11 y11 z11
  obtain ⟨rfl, N11q, K11⟩ := hQ11
  obtain ⟨fs, hr, hrun, hended, hW, hsame⟩ := X11.leave (v := some (.int (1 : Int32))) (fun h => by rw [Bd.returns] at h; cases h)
  refine ⟨_, _, pre0 _ ?_, hrun, hended, _, _, rfl, ?_, ⟨_, rfl⟩, hW, hsame.mono (by decide) (by decide)⟩
  · show Steps p.tables e below (s₁.setTop (mkF m 0 #[.val (.int u0), .val (.int u1), .val (.int u2), .val (.int u3), .unset, .unset, .unset, .unset, .unset, .unset, .unset, .unset, .unset, .unset, .unset] [])) _
    refine XS.iloadN X0.here hx rfl (hb hby at_0) rfl ?_
    show Steps p.tables e below (s₁.setTop (mkF m 1 #[.val (.int u0), .val (.int u1), .val (.int u2), .val (.int u3), .unset, .unset, .unset, .unset, .unset, .unset, .unset, .unset, .unset, .unset, .unset] [(.int u1)])) _
    refine X0.ldcInt hx hown (mvT hZ (hw _ (List.mem_of_getElem? (i := 0) rfl))) (g := (mkF m 1 #[.val (.int u0), .val (.int u1), .val (.int u2), .val (.int u3), .unset, .unset, .unset, .unset, .unset, .unset, .unset, .unset, .unset, .unset, .unset] [(.int u1)])) rfl (hb hby at_1) _ ?_
    show Steps p.tables e below (s₁.setTop (mkF m 3 #[.val (.int u0), .val (.int u1), .val (.int u2), .val (.int u3), .unset, .unset, .unset, .unset, .unset, .unset, .unset, .unset, .unset, .unset, .unset] [(.int (65535 : Int32)), (.int u1)])) _
    refine XS.iand X0.here hx rfl (hb hby at_3) rfl ?_
    show Steps p.tables e below (s₁.setTop (mkF m 4 #[.val (.int u0), .val (.int u1), .val (.int u2), .val (.int u3), .unset, .unset, .unset, .unset, .unset, .unset, .unset, .unset, .unset, .unset, .unset] [(.int (u1 &&& (65535 : Int32)))])) _
    refine XS.istore X0.here hx rfl (hb hby at_4) rfl (l' := #[.val (.int u0), .val (.int u1), .val (.int u2), .val (.int u3), .val (.int (u1 &&& (65535 : Int32))), .unset, .unset, .unset, .unset, .unset, .unset, .unset, .unset, .unset, .unset]) rfl ?_
    show Steps p.tables e below (s₁.setTop (mkF m 6 #[.val (.int u0), .val (.int u1), .val (.int u2), .val (.int u3), .val (.int (u1 &&& (65535 : Int32))), .unset, .unset, .unset, .unset, .unset, .unset, .unset, .unset, .unset, .unset] [])) _
    refine XS.iloadN X0.here hx rfl (hb hby at_6) rfl ?_
    show Steps p.tables e below (s₁.setTop (mkF m 7 #[.val (.int u0), .val (.int u1), .val (.int u2), .val (.int u3), .val (.int (u1 &&& (65535 : Int32))), .unset, .unset, .unset, .unset, .unset, .unset, .unset, .unset, .unset, .unset] [(.int u2)])) _
    refine X0.ldcInt hx hown (mvT hZ (hw _ (List.mem_of_getElem? (i := 0) rfl))) (g := (mkF m 7 #[.val (.int u0), .val (.int u1), .val (.int u2), .val (.int u3), .val (.int (u1 &&& (65535 : Int32))), .unset, .unset, .unset, .unset, .unset, .unset, .unset, .unset, .unset, .unset] [(.int u2)])) rfl (hb hby at_7) _ ?_
    show Steps p.tables e below (s₁.setTop (mkF m 9 #[.val (.int u0), .val (.int u1), .val (.int u2), .val (.int u3), .val (.int (u1 &&& (65535 : Int32))), .unset, .unset, .unset, .unset, .unset, .unset, .unset, .unset, .unset, .unset] [(.int (65535 : Int32)), (.int u2)])) _
    refine XS.iand X0.here hx rfl (hb hby at_9) rfl ?_
    show Steps p.tables e below (s₁.setTop (mkF m 10 #[.val (.int u0), .val (.int u1), .val (.int u2), .val (.int u3), .val (.int (u1 &&& (65535 : Int32))), .unset, .unset, .unset, .unset, .unset, .unset, .unset, .unset, .unset, .unset] [(.int (u2 &&& (65535 : Int32)))])) _
    refine XS.istore X0.here hx rfl (hb hby at_10) rfl (l' := #[.val (.int u0), .val (.int u1), .val (.int u2), .val (.int u3), .val (.int (u1 &&& (65535 : Int32))), .val (.int (u2 &&& (65535 : Int32))), .unset, .unset, .unset, .unset, .unset, .unset, .unset, .unset, .unset]) rfl ?_
    show Steps p.tables e below (s₁.setTop (mkF m 12 #[.val (.int u0), .val (.int u1), .val (.int u2), .val (.int u3), .val (.int (u1 &&& (65535 : Int32))), .val (.int (u2 &&& (65535 : Int32))), .unset, .unset, .unset, .unset, .unset, .unset, .unset, .unset, .unset] [])) _
    refine XS.iloadN X0.here hx rfl (hb hby at_12) rfl ?_
    show Steps p.tables e below (s₁.setTop (mkF m 13 #[.val (.int u0), .val (.int u1), .val (.int u2), .val (.int u3), .val (.int (u1 &&& (65535 : Int32))), .val (.int (u2 &&& (65535 : Int32))), .unset, .unset, .unset, .unset, .unset, .unset, .unset, .unset, .unset] [(.int u3)])) _
    refine XS.iconst X0.here hx rfl (hb hby at_13) ?_
    show Steps p.tables e below (s₁.setTop (mkF m 14 #[.val (.int u0), .val (.int u1), .val (.int u2), .val (.int u3), .val (.int (u1 &&& (65535 : Int32))), .val (.int (u2 &&& (65535 : Int32))), .unset, .unset, .unset, .unset, .unset, .unset, .unset, .unset, .unset] [(.int (3 : Int32)), (.int u3)])) _
    refine XS.iand X0.here hx rfl (hb hby at_14) rfl ?_
    show Steps p.tables e below (s₁.setTop (mkF m 15 #[.val (.int u0), .val (.int u1), .val (.int u2), .val (.int u3), .val (.int (u1 &&& (65535 : Int32))), .val (.int (u2 &&& (65535 : Int32))), .unset, .unset, .unset, .unset, .unset, .unset, .unset, .unset, .unset] [(.int (u3 &&& (3 : Int32)))])) _
    refine XS.istore X0.here hx rfl (hb hby at_15) rfl (l' := #[.val (.int u0), .val (.int u1), .val (.int u2), .val (.int u3), .val (.int (u1 &&& (65535 : Int32))), .val (.int (u2 &&& (65535 : Int32))), .val (.int (u3 &&& (3 : Int32))), .unset, .unset, .unset, .unset, .unset, .unset, .unset, .unset]) rfl ?_
    show Steps p.tables e below (s₁.setTop (mkF m 17 #[.val (.int u0), .val (.int u1), .val (.int u2), .val (.int u3), .val (.int (u1 &&& (65535 : Int32))), .val (.int (u2 &&& (65535 : Int32))), .val (.int (u3 &&& (3 : Int32))), .unset, .unset, .unset, .unset, .unset, .unset, .unset, .unset] [])) _
    refine XS.iconst X0.here hx rfl (hb hby at_17) ?_
    show Steps p.tables e below (s₁.setTop (mkF m 18 #[.val (.int u0), .val (.int u1), .val (.int u2), .val (.int u3), .val (.int (u1 &&& (65535 : Int32))), .val (.int (u2 &&& (65535 : Int32))), .val (.int (u3 &&& (3 : Int32))), .unset, .unset, .unset, .unset, .unset, .unset, .unset, .unset] [(.int (2 : Int32))])) _
    refine st1 _ ?_
    show Steps p.tables e below (T1.setTop (mkF m 20 #[.val (.int u0), .val (.int u1), .val (.int u2), .val (.int u3), .val (.int (u1 &&& (65535 : Int32))), .val (.int (u2 &&& (65535 : Int32))), .val (.int (u3 &&& (3 : Int32))), .unset, .unset, .unset, .unset, .unset, .unset, .unset, .unset] [(.ref b1)])) _
    refine XS.dup X1.here hx rfl (hb hby at_20) rfl rfl ?_
    show Steps p.tables e below (T1.setTop (mkF m 21 #[.val (.int u0), .val (.int u1), .val (.int u2), .val (.int u3), .val (.int (u1 &&& (65535 : Int32))), .val (.int (u2 &&& (65535 : Int32))), .val (.int (u3 &&& (3 : Int32))), .unset, .unset, .unset, .unset, .unset, .unset, .unset, .unset] [(.ref b1), (.ref b1)])) _
    refine XS.iconst X1.here hx rfl (hb hby at_21) ?_
    show Steps p.tables e below (T1.setTop (mkF m 22 #[.val (.int u0), .val (.int u1), .val (.int u2), .val (.int u3), .val (.int (u1 &&& (65535 : Int32))), .val (.int (u2 &&& (65535 : Int32))), .val (.int (u3 &&& (3 : Int32))), .unset, .unset, .unset, .unset, .unset, .unset, .unset, .unset] [(.int (0 : Int32)), (.ref b1), (.ref b1)])) _
    refine XS.iload X1.here hx rfl (hb hby at_22) rfl ?_
    show Steps p.tables e below (T1.setTop (mkF m 24 #[.val (.int u0), .val (.int u1), .val (.int u2), .val (.int u3), .val (.int (u1 &&& (65535 : Int32))), .val (.int (u2 &&& (65535 : Int32))), .val (.int (u3 &&& (3 : Int32))), .unset, .unset, .unset, .unset, .unset, .unset, .unset, .unset] [(.int (u1 &&& (65535 : Int32))), (.int (0 : Int32)), (.ref b1), (.ref b1)])) _
    refine st2 _ ?_
    show Steps p.tables e below (T2.setTop (mkF m 25 #[.val (.int u0), .val (.int u1), .val (.int u2), .val (.int u3), .val (.int (u1 &&& (65535 : Int32))), .val (.int (u2 &&& (65535 : Int32))), .val (.int (u3 &&& (3 : Int32))), .unset, .unset, .unset, .unset, .unset, .unset, .unset, .unset] [(.ref b1)])) _
    refine XS.dup X2.here hx rfl (hb hby at_25) rfl rfl ?_
    show Steps p.tables e below (T2.setTop (mkF m 26 #[.val (.int u0), .val (.int u1), .val (.int u2), .val (.int u3), .val (.int (u1 &&& (65535 : Int32))), .val (.int (u2 &&& (65535 : Int32))), .val (.int (u3 &&& (3 : Int32))), .unset, .unset, .unset, .unset, .unset, .unset, .unset, .unset] [(.ref b1), (.ref b1)])) _
    refine XS.iconst X2.here hx rfl (hb hby at_26) ?_
    show Steps p.tables e below (T2.setTop (mkF m 27 #[.val (.int u0), .val (.int u1), .val (.int u2), .val (.int u3), .val (.int (u1 &&& (65535 : Int32))), .val (.int (u2 &&& (65535 : Int32))), .val (.int (u3 &&& (3 : Int32))), .unset, .unset, .unset, .unset, .unset, .unset, .unset, .unset] [(.int (1 : Int32)), (.ref b1), (.ref b1)])) _
    refine XS.iload X2.here hx rfl (hb hby at_27) rfl ?_
    show Steps p.tables e below (T2.setTop (mkF m 29 #[.val (.int u0), .val (.int u1), .val (.int u2), .val (.int u3), .val (.int (u1 &&& (65535 : Int32))), .val (.int (u2 &&& (65535 : Int32))), .val (.int (u3 &&& (3 : Int32))), .unset, .unset, .unset, .unset, .unset, .unset, .unset, .unset] [(.int (u2 &&& (65535 : Int32))), (.int (1 : Int32)), (.ref b1), (.ref b1)])) _
    refine st3 _ ?_
    show Steps p.tables e below (T3.setTop (mkF m 30 #[.val (.int u0), .val (.int u1), .val (.int u2), .val (.int u3), .val (.int (u1 &&& (65535 : Int32))), .val (.int (u2 &&& (65535 : Int32))), .val (.int (u3 &&& (3 : Int32))), .unset, .unset, .unset, .unset, .unset, .unset, .unset, .unset] [(.ref b1)])) _
    refine XS.astore X3.here hx rfl (hb hby at_30) rfl rfl (l' := #[.val (.int u0), .val (.int u1), .val (.int u2), .val (.int u3), .val (.int (u1 &&& (65535 : Int32))), .val (.int (u2 &&& (65535 : Int32))), .val (.int (u3 &&& (3 : Int32))), .val (.ref b1), .unset, .unset, .unset, .unset, .unset, .unset, .unset]) rfl ?_
    show Steps p.tables e below (T3.setTop (mkF m 32 #[.val (.int u0), .val (.int u1), .val (.int u2), .val (.int u3), .val (.int (u1 &&& (65535 : Int32))), .val (.int (u2 &&& (65535 : Int32))), .val (.int (u3 &&& (3 : Int32))), .val (.ref b1), .unset, .unset, .unset, .unset, .unset, .unset, .unset] [])) _
    refine XS.iconst X3.here hx rfl (hb hby at_32) ?_
    show Steps p.tables e below (T3.setTop (mkF m 33 #[.val (.int u0), .val (.int u1), .val (.int u2), .val (.int u3), .val (.int (u1 &&& (65535 : Int32))), .val (.int (u2 &&& (65535 : Int32))), .val (.int (u3 &&& (3 : Int32))), .val (.ref b1), .unset, .unset, .unset, .unset, .unset, .unset, .unset] [(.int (2 : Int32))])) _
    refine st4 _ ?_
    show Steps p.tables e below (T4.setTop (mkF m 35 #[.val (.int u0), .val (.int u1), .val (.int u2), .val (.int u3), .val (.int (u1 &&& (65535 : Int32))), .val (.int (u2 &&& (65535 : Int32))), .val (.int (u3 &&& (3 : Int32))), .val (.ref b1), .unset, .unset, .unset, .unset, .unset, .unset, .unset] [(.ref b4)])) _
    refine XS.dup X4.here hx rfl (hb hby at_35) rfl rfl ?_
    show Steps p.tables e below (T4.setTop (mkF m 36 #[.val (.int u0), .val (.int u1), .val (.int u2), .val (.int u3), .val (.int (u1 &&& (65535 : Int32))), .val (.int (u2 &&& (65535 : Int32))), .val (.int (u3 &&& (3 : Int32))), .val (.ref b1), .unset, .unset, .unset, .unset, .unset, .unset, .unset] [(.ref b4), (.ref b4)])) _
    refine XS.iconst X4.here hx rfl (hb hby at_36) ?_
    show Steps p.tables e below (T4.setTop (mkF m 37 #[.val (.int u0), .val (.int u1), .val (.int u2), .val (.int u3), .val (.int (u1 &&& (65535 : Int32))), .val (.int (u2 &&& (65535 : Int32))), .val (.int (u3 &&& (3 : Int32))), .val (.ref b1), .unset, .unset, .unset, .unset, .unset, .unset, .unset] [(.int (0 : Int32)), (.ref b4), (.ref b4)])) _
    refine XS.iload X4.here hx rfl (hb hby at_37) rfl ?_
    show Steps p.tables e below (T4.setTop (mkF m 39 #[.val (.int u0), .val (.int u1), .val (.int u2), .val (.int u3), .val (.int (u1 &&& (65535 : Int32))), .val (.int (u2 &&& (65535 : Int32))), .val (.int (u3 &&& (3 : Int32))), .val (.ref b1), .unset, .unset, .unset, .unset, .unset, .unset, .unset] [(.int (u3 &&& (3 : Int32))), (.int (0 : Int32)), (.ref b4), (.ref b4)])) _
    refine XS.i2dS X4.here hx rfl (hb hby at_39) rfl (v := (FP.i2d (u3 &&& (3 : Int32)))) rfl ?_
    show Steps p.tables e below (T4.setTop (mkF m 40 #[.val (.int u0), .val (.int u1), .val (.int u2), .val (.int u3), .val (.int (u1 &&& (65535 : Int32))), .val (.int (u2 &&& (65535 : Int32))), .val (.int (u3 &&& (3 : Int32))), .val (.ref b1), .unset, .unset, .unset, .unset, .unset, .unset, .unset] [(.double (FP.i2d (u3 &&& (3 : Int32)))), (.int (0 : Int32)), (.ref b4), (.ref b4)])) _
    refine X4.ldc2DoubleC hx hown (mvT hZ (hw _ (List.mem_of_getElem? (i := 3) rfl))) (g := (mkF m 40 #[.val (.int u0), .val (.int u1), .val (.int u2), .val (.int u3), .val (.int (u1 &&& (65535 : Int32))), .val (.int (u2 &&& (65535 : Int32))), .val (.int (u3 &&& (3 : Int32))), .val (.ref b1), .unset, .unset, .unset, .unset, .unset, .unset, .unset] [(.double (FP.i2d (u3 &&& (3 : Int32)))), (.int (0 : Int32)), (.ref b4), (.ref b4)])) rfl (hb hby at_40) _ ?_
    show Steps p.tables e below (T4.setTop (mkF m 43 #[.val (.int u0), .val (.int u1), .val (.int u2), .val (.int u3), .val (.int (u1 &&& (65535 : Int32))), .val (.int (u2 &&& (65535 : Int32))), .val (.int (u3 &&& (3 : Int32))), .val (.ref b1), .unset, .unset, .unset, .unset, .unset, .unset, .unset] [(.double (4616189618054758400 : UInt64)), (.double (FP.i2d (u3 &&& (3 : Int32)))), (.int (0 : Int32)), (.ref b4), (.ref b4)])) _
    refine XS.ddivS X4.here hx rfl (hb hby at_43) rfl q0 (v := (FP.ddiv (FP.i2d (u3 &&& (3 : Int32))) (4616189618054758400 : UInt64))) rfl ?_
    show Steps p.tables e below (T4.setTop (mkF m 44 #[.val (.int u0), .val (.int u1), .val (.int u2), .val (.int u3), .val (.int (u1 &&& (65535 : Int32))), .val (.int (u2 &&& (65535 : Int32))), .val (.int (u3 &&& (3 : Int32))), .val (.ref b1), .unset, .unset, .unset, .unset, .unset, .unset, .unset] [(.double (FP.ddiv (FP.i2d (u3 &&& (3 : Int32))) (4616189618054758400 : UInt64))), (.int (0 : Int32)), (.ref b4), (.ref b4)])) _
    refine st5 _ ?_
    show Steps p.tables e below (T5.setTop (mkF m 45 #[.val (.int u0), .val (.int u1), .val (.int u2), .val (.int u3), .val (.int (u1 &&& (65535 : Int32))), .val (.int (u2 &&& (65535 : Int32))), .val (.int (u3 &&& (3 : Int32))), .val (.ref b1), .unset, .unset, .unset, .unset, .unset, .unset, .unset] [(.ref b4)])) _
    refine XS.dup X5.here hx rfl (hb hby at_45) rfl rfl ?_
    show Steps p.tables e below (T5.setTop (mkF m 46 #[.val (.int u0), .val (.int u1), .val (.int u2), .val (.int u3), .val (.int (u1 &&& (65535 : Int32))), .val (.int (u2 &&& (65535 : Int32))), .val (.int (u3 &&& (3 : Int32))), .val (.ref b1), .unset, .unset, .unset, .unset, .unset, .unset, .unset] [(.ref b4), (.ref b4)])) _
    refine XS.iconst X5.here hx rfl (hb hby at_46) ?_
    show Steps p.tables e below (T5.setTop (mkF m 47 #[.val (.int u0), .val (.int u1), .val (.int u2), .val (.int u3), .val (.int (u1 &&& (65535 : Int32))), .val (.int (u2 &&& (65535 : Int32))), .val (.int (u3 &&& (3 : Int32))), .val (.ref b1), .unset, .unset, .unset, .unset, .unset, .unset, .unset] [(.int (1 : Int32)), (.ref b4), (.ref b4)])) _
    refine XS.iconst X5.here hx rfl (hb hby at_47) ?_
    show Steps p.tables e below (T5.setTop (mkF m 48 #[.val (.int u0), .val (.int u1), .val (.int u2), .val (.int u3), .val (.int (u1 &&& (65535 : Int32))), .val (.int (u2 &&& (65535 : Int32))), .val (.int (u3 &&& (3 : Int32))), .val (.ref b1), .unset, .unset, .unset, .unset, .unset, .unset, .unset] [(.int (4 : Int32)), (.int (1 : Int32)), (.ref b4), (.ref b4)])) _
    refine XS.iload X5.here hx rfl (hb hby at_48) rfl ?_
    show Steps p.tables e below (T5.setTop (mkF m 50 #[.val (.int u0), .val (.int u1), .val (.int u2), .val (.int u3), .val (.int (u1 &&& (65535 : Int32))), .val (.int (u2 &&& (65535 : Int32))), .val (.int (u3 &&& (3 : Int32))), .val (.ref b1), .unset, .unset, .unset, .unset, .unset, .unset, .unset] [(.int (u3 &&& (3 : Int32))), (.int (4 : Int32)), (.int (1 : Int32)), (.ref b4), (.ref b4)])) _
    refine XS.isub X5.here hx rfl (hb hby at_50) rfl ?_
    show Steps p.tables e below (T5.setTop (mkF m 51 #[.val (.int u0), .val (.int u1), .val (.int u2), .val (.int u3), .val (.int (u1 &&& (65535 : Int32))), .val (.int (u2 &&& (65535 : Int32))), .val (.int (u3 &&& (3 : Int32))), .val (.ref b1), .unset, .unset, .unset, .unset, .unset, .unset, .unset] [(.int ((4 : Int32) - (u3 &&& (3 : Int32)))), (.int (1 : Int32)), (.ref b4), (.ref b4)])) _
    refine XS.i2dS X5.here hx rfl (hb hby at_51) rfl (v := (FP.i2d ((4 : Int32) - (u3 &&& (3 : Int32))))) rfl ?_
    show Steps p.tables e below (T5.setTop (mkF m 52 #[.val (.int u0), .val (.int u1), .val (.int u2), .val (.int u3), .val (.int (u1 &&& (65535 : Int32))), .val (.int (u2 &&& (65535 : Int32))), .val (.int (u3 &&& (3 : Int32))), .val (.ref b1), .unset, .unset, .unset, .unset, .unset, .unset, .unset] [(.double (FP.i2d ((4 : Int32) - (u3 &&& (3 : Int32))))), (.int (1 : Int32)), (.ref b4), (.ref b4)])) _
    refine X5.ldc2DoubleC hx hown (mvT hZ (hw _ (List.mem_of_getElem? (i := 3) rfl))) (g := (mkF m 52 #[.val (.int u0), .val (.int u1), .val (.int u2), .val (.int u3), .val (.int (u1 &&& (65535 : Int32))), .val (.int (u2 &&& (65535 : Int32))), .val (.int (u3 &&& (3 : Int32))), .val (.ref b1), .unset, .unset, .unset, .unset, .unset, .unset, .unset] [(.double (FP.i2d ((4 : Int32) - (u3 &&& (3 : Int32))))), (.int (1 : Int32)), (.ref b4), (.ref b4)])) rfl (hb hby at_52) _ ?_
    show Steps p.tables e below (T5.setTop (mkF m 55 #[.val (.int u0), .val (.int u1), .val (.int u2), .val (.int u3), .val (.int (u1 &&& (65535 : Int32))), .val (.int (u2 &&& (65535 : Int32))), .val (.int (u3 &&& (3 : Int32))), .val (.ref b1), .unset, .unset, .unset, .unset, .unset, .unset, .unset] [(.double (4616189618054758400 : UInt64)), (.double (FP.i2d ((4 : Int32) - (u3 &&& (3 : Int32))))), (.int (1 : Int32)), (.ref b4), (.ref b4)])) _
    refine XS.ddivS X5.here hx rfl (hb hby at_55) rfl q1 (v := (FP.ddiv (FP.i2d ((4 : Int32) - (u3 &&& (3 : Int32)))) (4616189618054758400 : UInt64))) rfl ?_
    show Steps p.tables e below (T5.setTop (mkF m 56 #[.val (.int u0), .val (.int u1), .val (.int u2), .val (.int u3), .val (.int (u1 &&& (65535 : Int32))), .val (.int (u2 &&& (65535 : Int32))), .val (.int (u3 &&& (3 : Int32))), .val (.ref b1), .unset, .unset, .unset, .unset, .unset, .unset, .unset] [(.double (FP.ddiv (FP.i2d ((4 : Int32) - (u3 &&& (3 : Int32)))) (4616189618054758400 : UInt64))), (.int (1 : Int32)), (.ref b4), (.ref b4)])) _
    refine st6 _ ?_
    show Steps p.tables e below (T6.setTop (mkF m 57 #[.val (.int u0), .val (.int u1), .val (.int u2), .val (.int u3), .val (.int (u1 &&& (65535 : Int32))), .val (.int (u2 &&& (65535 : Int32))), .val (.int (u3 &&& (3 : Int32))), .val (.ref b1), .unset, .unset, .unset, .unset, .unset, .unset, .unset] [(.ref b4)])) _
    refine XS.astore X6.here hx rfl (hb hby at_57) rfl rfl (l' := #[.val (.int u0), .val (.int u1), .val (.int u2), .val (.int u3), .val (.int (u1 &&& (65535 : Int32))), .val (.int (u2 &&& (65535 : Int32))), .val (.int (u3 &&& (3 : Int32))), .val (.ref b1), .val (.ref b4), .unset, .unset, .unset, .unset, .unset, .unset]) rfl ?_
    show Steps p.tables e below (T6.setTop (mkF m 59 #[.val (.int u0), .val (.int u1), .val (.int u2), .val (.int u3), .val (.int (u1 &&& (65535 : Int32))), .val (.int (u2 &&& (65535 : Int32))), .val (.int (u3 &&& (3 : Int32))), .val (.ref b1), .val (.ref b4), .unset, .unset, .unset, .unset, .unset, .unset] [])) _
    refine st7 _ ?_
    show Steps p.tables e below (T7.setTop (mkF m 62 #[.val (.int u0), .val (.int u1), .val (.int u2), .val (.int u3), .val (.int (u1 &&& (65535 : Int32))), .val (.int (u2 &&& (65535 : Int32))), .val (.int (u3 &&& (3 : Int32))), .val (.ref b1), .val (.ref b4), .unset, .unset, .unset, .unset, .unset, .unset] [(.ref b7)])) _
    refine XS.dup X7.here hx rfl (hb hby at_62) rfl rfl ?_
    show Steps p.tables e below (T7.setTop (mkF m 63 #[.val (.int u0), .val (.int u1), .val (.int u2), .val (.int u3), .val (.int (u1 &&& (65535 : Int32))), .val (.int (u2 &&& (65535 : Int32))), .val (.int (u3 &&& (3 : Int32))), .val (.ref b1), .val (.ref b4), .unset, .unset, .unset, .unset, .unset, .unset] [(.ref b7), (.ref b7)])) _
    refine XS.aload X7.here hx rfl (hb hby at_63) rfl rfl ?_
    show Steps p.tables e below (T7.setTop (mkF m 65 #[.val (.int u0), .val (.int u1), .val (.int u2), .val (.int u3), .val (.int (u1 &&& (65535 : Int32))), .val (.int (u2 &&& (65535 : Int32))), .val (.int (u3 &&& (3 : Int32))), .val (.ref b1), .val (.ref b4), .unset, .unset, .unset, .unset, .unset, .unset] [(.ref b1), (.ref b7), (.ref b7)])) _
    refine XS.aload X7.here hx rfl (hb hby at_65) rfl rfl ?_
    show Steps p.tables e below (T7.setTop (mkF m 67 #[.val (.int u0), .val (.int u1), .val (.int u2), .val (.int u3), .val (.int (u1 &&& (65535 : Int32))), .val (.int (u2 &&& (65535 : Int32))), .val (.int (u3 &&& (3 : Int32))), .val (.ref b1), .val (.ref b4), .unset, .unset, .unset, .unset, .unset, .unset] [(.ref b4), (.ref b1), (.ref b7), (.ref b7)])) _
    refine st8.trans ?_
    show Steps p.tables e below (T8.setTop (mkF m 70 #[.val (.int u0), .val (.int u1), .val (.int u2), .val (.int u3), .val (.int (u1 &&& (65535 : Int32))), .val (.int (u2 &&& (65535 : Int32))), .val (.int (u3 &&& (3 : Int32))), .val (.ref b1), .val (.ref b4), .unset, .unset, .unset, .unset, .unset, .unset] [(.ref b7)])) _
    refine XS.astore X8.here hx rfl (hb hby at_70) rfl rfl (l' := #[.val (.int u0), .val (.int u1), .val (.int u2), .val (.int u3), .val (.int (u1 &&& (65535 : Int32))), .val (.int (u2 &&& (65535 : Int32))), .val (.int (u3 &&& (3 : Int32))), .val (.ref b1), .val (.ref b4), .val (.ref b7), .unset, .unset, .unset, .unset, .unset]) rfl ?_
    show Steps p.tables e below (T8.setTop (mkF m 72 #[.val (.int u0), .val (.int u1), .val (.int u2), .val (.int u3), .val (.int (u1 &&& (65535 : Int32))), .val (.int (u2 &&& (65535 : Int32))), .val (.int (u3 &&& (3 : Int32))), .val (.ref b1), .val (.ref b4), .val (.ref b7), .unset, .unset, .unset, .unset, .unset] [])) _
    refine st9 _ ?_
    show Steps p.tables e below (T9.setTop (mkF m 75 #[.val (.int u0), .val (.int u1), .val (.int u2), .val (.int u3), .val (.int (u1 &&& (65535 : Int32))), .val (.int (u2 &&& (65535 : Int32))), .val (.int (u3 &&& (3 : Int32))), .val (.ref b1), .val (.ref b4), .val (.ref b7), .unset, .unset, .unset, .unset, .unset] [(.ref b9)])) _
    refine XS.dup X9.here hx rfl (hb hby at_75) rfl rfl ?_
    show Steps p.tables e below (T9.setTop (mkF m 76 #[.val (.int u0), .val (.int u1), .val (.int u2), .val (.int u3), .val (.int (u1 &&& (65535 : Int32))), .val (.int (u2 &&& (65535 : Int32))), .val (.int (u3 &&& (3 : Int32))), .val (.ref b1), .val (.ref b4), .val (.ref b7), .unset, .unset, .unset, .unset, .unset] [(.ref b9), (.ref b9)])) _
    refine XS.iloadN X9.here hx rfl (hb hby at_76) rfl ?_
    show Steps p.tables e below (T9.setTop (mkF m 77 #[.val (.int u0), .val (.int u1), .val (.int u2), .val (.int u3), .val (.int (u1 &&& (65535 : Int32))), .val (.int (u2 &&& (65535 : Int32))), .val (.int (u3 &&& (3 : Int32))), .val (.ref b1), .val (.ref b4), .val (.ref b7), .unset, .unset, .unset, .unset, .unset] [(.int u0), (.ref b9), (.ref b9)])) _
    refine XS.i2dS X9.here hx rfl (hb hby at_77) rfl (v := (FP.i2d u0)) rfl ?_
    show Steps p.tables e below (T9.setTop (mkF m 78 #[.val (.int u0), .val (.int u1), .val (.int u2), .val (.int u3), .val (.int (u1 &&& (65535 : Int32))), .val (.int (u2 &&& (65535 : Int32))), .val (.int (u3 &&& (3 : Int32))), .val (.ref b1), .val (.ref b4), .val (.ref b7), .unset, .unset, .unset, .unset, .unset] [(.double (FP.i2d u0)), (.ref b9), (.ref b9)])) _
    refine XS.aload X9.here hx rfl (hb hby at_78) rfl rfl ?_
    show Steps p.tables e below (T9.setTop (mkF m 80 #[.val (.int u0), .val (.int u1), .val (.int u2), .val (.int u3), .val (.int (u1 &&& (65535 : Int32))), .val (.int (u2 &&& (65535 : Int32))), .val (.int (u3 &&& (3 : Int32))), .val (.ref b1), .val (.ref b4), .val (.ref b7), .unset, .unset, .unset, .unset, .unset] [(.ref b7), (.double (FP.i2d u0)), (.ref b9), (.ref b9)])) _
    refine st10.trans ?_
    show Steps p.tables e below (T10.setTop (mkF m 83 #[.val (.int u0), .val (.int u1), .val (.int u2), .val (.int u3), .val (.int (u1 &&& (65535 : Int32))), .val (.int (u2 &&& (65535 : Int32))), .val (.int (u3 &&& (3 : Int32))), .val (.ref b1), .val (.ref b4), .val (.ref b7), .unset, .unset, .unset, .unset, .unset] [(.ref b9)])) _
    refine XS.astore X10.here hx rfl (hb hby at_83) rfl rfl (l' := #[.val (.int u0), .val (.int u1), .val (.int u2), .val (.int u3), .val (.int (u1 &&& (65535 : Int32))), .val (.int (u2 &&& (65535 : Int32))), .val (.int (u3 &&& (3 : Int32))), .val (.ref b1), .val (.ref b4), .val (.ref b7), .val (.ref b9), .unset, .unset, .unset, .unset]) rfl ?_
    show Steps p.tables e below (T10.setTop (mkF m 85 #[.val (.int u0), .val (.int u1), .val (.int u2), .val (.int u3), .val (.int (u1 &&& (65535 : Int32))), .val (.int (u2 &&& (65535 : Int32))), .val (.int (u3 &&& (3 : Int32))), .val (.ref b1), .val (.ref b4), .val (.ref b7), .val (.ref b9), .unset, .unset, .unset, .unset] [])) _
    refine XS.iloadN X10.here hx rfl (hb hby at_85) rfl ?_
    show Steps p.tables e below (T10.setTop (mkF m 86 #[.val (.int u0), .val (.int u1), .val (.int u2), .val (.int u3), .val (.int (u1 &&& (65535 : Int32))), .val (.int (u2 &&& (65535 : Int32))), .val (.int (u3 &&& (3 : Int32))), .val (.ref b1), .val (.ref b4), .val (.ref b7), .val (.ref b9), .unset, .unset, .unset, .unset] [(.int u0)])) _
    refine XS.i2l X10.here hx rfl (hb hby at_86) rfl ?_
    show Steps p.tables e below (T10.setTop (mkF m 87 #[.val (.int u0), .val (.int u1), .val (.int u2), .val (.int u3), .val (.int (u1 &&& (65535 : Int32))), .val (.int (u2 &&& (65535 : Int32))), .val (.int (u3 &&& (3 : Int32))), .val (.ref b1), .val (.ref b4), .val (.ref b7), .val (.ref b9), .unset, .unset, .unset, .unset] [(.long (u0.toInt64))])) _
    refine XS.iload X10.here hx rfl (hb hby at_87) rfl ?_
    show Steps p.tables e below (T10.setTop (mkF m 89 #[.val (.int u0), .val (.int u1), .val (.int u2), .val (.int u3), .val (.int (u1 &&& (65535 : Int32))), .val (.int (u2 &&& (65535 : Int32))), .val (.int (u3 &&& (3 : Int32))), .val (.ref b1), .val (.ref b4), .val (.ref b7), .val (.ref b9), .unset, .unset, .unset, .unset] [(.int (u3 &&& (3 : Int32))), (.long (u0.toInt64))])) _
    refine XS.i2l X10.here hx rfl (hb hby at_89) rfl ?_
    show Steps p.tables e below (T10.setTop (mkF m 90 #[.val (.int u0), .val (.int u1), .val (.int u2), .val (.int u3), .val (.int (u1 &&& (65535 : Int32))), .val (.int (u2 &&& (65535 : Int32))), .val (.int (u3 &&& (3 : Int32))), .val (.ref b1), .val (.ref b4), .val (.ref b7), .val (.ref b9), .unset, .unset, .unset, .unset] [(.long ((u3 &&& (3 : Int32)).toInt64)), (.long (u0.toInt64))])) _
    refine XS.iload X10.here hx rfl (hb hby at_90) rfl ?_
    show Steps p.tables e below (T10.setTop (mkF m 92 #[.val (.int u0), .val (.int u1), .val (.int u2), .val (.int u3), .val (.int (u1 &&& (65535 : Int32))), .val (.int (u2 &&& (65535 : Int32))), .val (.int (u3 &&& (3 : Int32))), .val (.ref b1), .val (.ref b4), .val (.ref b7), .val (.ref b9), .unset, .unset, .unset, .unset] [(.int (u1 &&& (65535 : Int32))), (.long ((u3 &&& (3 : Int32)).toInt64)), (.long (u0.toInt64))])) _
    refine XS.i2l X10.here hx rfl (hb hby at_92) rfl ?_
    show Steps p.tables e below (T10.setTop (mkF m 93 #[.val (.int u0), .val (.int u1), .val (.int u2), .val (.int u3), .val (.int (u1 &&& (65535 : Int32))), .val (.int (u2 &&& (65535 : Int32))), .val (.int (u3 &&& (3 : Int32))), .val (.ref b1), .val (.ref b4), .val (.ref b7), .val (.ref b9), .unset, .unset, .unset, .unset] [(.long ((u1 &&& (65535 : Int32)).toInt64)), (.long ((u3 &&& (3 : Int32)).toInt64)), (.long (u0.toInt64))])) _
    refine XS.lmul X10.here hx rfl (hb hby at_93) rfl ?_
    show Steps p.tables e below (T10.setTop (mkF m 94 #[.val (.int u0), .val (.int u1), .val (.int u2), .val (.int u3), .val (.int (u1 &&& (65535 : Int32))), .val (.int (u2 &&& (65535 : Int32))), .val (.int (u3 &&& (3 : Int32))), .val (.ref b1), .val (.ref b4), .val (.ref b7), .val (.ref b9), .unset, .unset, .unset, .unset] [(.long (((u3 &&& (3 : Int32)).toInt64) * ((u1 &&& (65535 : Int32)).toInt64))), (.long (u0.toInt64))])) _
    refine XS.iconst X10.here hx rfl (hb hby at_94) ?_
    show Steps p.tables e below (T10.setTop (mkF m 95 #[.val (.int u0), .val (.int u1), .val (.int u2), .val (.int u3), .val (.int (u1 &&& (65535 : Int32))), .val (.int (u2 &&& (65535 : Int32))), .val (.int (u3 &&& (3 : Int32))), .val (.ref b1), .val (.ref b4), .val (.ref b7), .val (.ref b9), .unset, .unset, .unset, .unset] [(.int (4 : Int32)), (.long (((u3 &&& (3 : Int32)).toInt64) * ((u1 &&& (65535 : Int32)).toInt64))), (.long (u0.toInt64))])) _
    refine XS.iload X10.here hx rfl (hb hby at_95) rfl ?_
    show Steps p.tables e below (T10.setTop (mkF m 97 #[.val (.int u0), .val (.int u1), .val (.int u2), .val (.int u3), .val (.int (u1 &&& (65535 : Int32))), .val (.int (u2 &&& (65535 : Int32))), .val (.int (u3 &&& (3 : Int32))), .val (.ref b1), .val (.ref b4), .val (.ref b7), .val (.ref b9), .unset, .unset, .unset, .unset] [(.int (u3 &&& (3 : Int32))), (.int (4 : Int32)), (.long (((u3 &&& (3 : Int32)).toInt64) * ((u1 &&& (65535 : Int32)).toInt64))), (.long (u0.toInt64))])) _
    refine XS.isub X10.here hx rfl (hb hby at_97) rfl ?_
    show Steps p.tables e below (T10.setTop (mkF m 98 #[.val (.int u0), .val (.int u1), .val (.int u2), .val (.int u3), .val (.int (u1 &&& (65535 : Int32))), .val (.int (u2 &&& (65535 : Int32))), .val (.int (u3 &&& (3 : Int32))), .val (.ref b1), .val (.ref b4), .val (.ref b7), .val (.ref b9), .unset, .unset, .unset, .unset] [(.int ((4 : Int32) - (u3 &&& (3 : Int32)))), (.long (((u3 &&& (3 : Int32)).toInt64) * ((u1 &&& (65535 : Int32)).toInt64))), (.long (u0.toInt64))])) _
    refine XS.i2l X10.here hx rfl (hb hby at_98) rfl ?_
    show Steps p.tables e below (T10.setTop (mkF m 99 #[.val (.int u0), .val (.int u1), .val (.int u2), .val (.int u3), .val (.int (u1 &&& (65535 : Int32))), .val (.int (u2 &&& (65535 : Int32))), .val (.int (u3 &&& (3 : Int32))), .val (.ref b1), .val (.ref b4), .val (.ref b7), .val (.ref b9), .unset, .unset, .unset, .unset] [(.long (((4 : Int32) - (u3 &&& (3 : Int32))).toInt64)), (.long (((u3 &&& (3 : Int32)).toInt64) * ((u1 &&& (65535 : Int32)).toInt64))), (.long (u0.toInt64))])) _
    refine XS.iload X10.here hx rfl (hb hby at_99) rfl ?_
    show Steps p.tables e below (T10.setTop (mkF m 101 #[.val (.int u0), .val (.int u1), .val (.int u2), .val (.int u3), .val (.int (u1 &&& (65535 : Int32))), .val (.int (u2 &&& (65535 : Int32))), .val (.int (u3 &&& (3 : Int32))), .val (.ref b1), .val (.ref b4), .val (.ref b7), .val (.ref b9), .unset, .unset, .unset, .unset] [(.int (u2 &&& (65535 : Int32))), (.long (((4 : Int32) - (u3 &&& (3 : Int32))).toInt64)), (.long (((u3 &&& (3 : Int32)).toInt64) * ((u1 &&& (65535 : Int32)).toInt64))), (.long (u0.toInt64))])) _
    refine XS.i2l X10.here hx rfl (hb hby at_101) rfl ?_
    show Steps p.tables e below (T10.setTop (mkF m 102 #[.val (.int u0), .val (.int u1), .val (.int u2), .val (.int u3), .val (.int (u1 &&& (65535 : Int32))), .val (.int (u2 &&& (65535 : Int32))), .val (.int (u3 &&& (3 : Int32))), .val (.ref b1), .val (.ref b4), .val (.ref b7), .val (.ref b9), .unset, .unset, .unset, .unset] [(.long ((u2 &&& (65535 : Int32)).toInt64)), (.long (((4 : Int32) - (u3 &&& (3 : Int32))).toInt64)), (.long (((u3 &&& (3 : Int32)).toInt64) * ((u1 &&& (65535 : Int32)).toInt64))), (.long (u0.toInt64))])) _
    refine XS.lmul X10.here hx rfl (hb hby at_102) rfl ?_
    show Steps p.tables e below (T10.setTop (mkF m 103 #[.val (.int u0), .val (.int u1), .val (.int u2), .val (.int u3), .val (.int (u1 &&& (65535 : Int32))), .val (.int (u2 &&& (65535 : Int32))), .val (.int (u3 &&& (3 : Int32))), .val (.ref b1), .val (.ref b4), .val (.ref b7), .val (.ref b9), .unset, .unset, .unset, .unset] [(.long ((((4 : Int32) - (u3 &&& (3 : Int32))).toInt64) * ((u2 &&& (65535 : Int32)).toInt64))), (.long (((u3 &&& (3 : Int32)).toInt64) * ((u1 &&& (65535 : Int32)).toInt64))), (.long (u0.toInt64))])) _
    refine XS.ladd X10.here hx rfl (hb hby at_103) rfl ?_
    show Steps p.tables e below (T10.setTop (mkF m 104 #[.val (.int u0), .val (.int u1), .val (.int u2), .val (.int u3), .val (.int (u1 &&& (65535 : Int32))), .val (.int (u2 &&& (65535 : Int32))), .val (.int (u3 &&& (3 : Int32))), .val (.ref b1), .val (.ref b4), .val (.ref b7), .val (.ref b9), .unset, .unset, .unset, .unset] [(.long ((((u3 &&& (3 : Int32)).toInt64) * ((u1 &&& (65535 : Int32)).toInt64)) + ((((4 : Int32) - (u3 &&& (3 : Int32))).toInt64) * ((u2 &&& (65535 : Int32)).toInt64)))), (.long (u0.toInt64))])) _
    refine XS.lmul X10.here hx rfl (hb hby at_104) rfl ?_
    show Steps p.tables e below (T10.setTop (mkF m 105 #[.val (.int u0), .val (.int u1), .val (.int u2), .val (.int u3), .val (.int (u1 &&& (65535 : Int32))), .val (.int (u2 &&& (65535 : Int32))), .val (.int (u3 &&& (3 : Int32))), .val (.ref b1), .val (.ref b4), .val (.ref b7), .val (.ref b9), .unset, .unset, .unset, .unset] [(.long ((u0.toInt64) * ((((u3 &&& (3 : Int32)).toInt64) * ((u1 &&& (65535 : Int32)).toInt64)) + ((((4 : Int32) - (u3 &&& (3 : Int32))).toInt64) * ((u2 &&& (65535 : Int32)).toInt64)))))])) _
    refine XS.lstore X10.here hx rfl (hb hby at_105) rfl (l' := #[.val (.int u0), .val (.int u1), .val (.int u2), .val (.int u3), .val (.int (u1 &&& (65535 : Int32))), .val (.int (u2 &&& (65535 : Int32))), .val (.int (u3 &&& (3 : Int32))), .val (.ref b1), .val (.ref b4), .val (.ref b7), .val (.ref b9), .val (.long ((u0.toInt64) * ((((u3 &&& (3 : Int32)).toInt64) * ((u1 &&& (65535 : Int32)).toInt64)) + ((((4 : Int32) - (u3 &&& (3 : Int32))).toInt64) * ((u2 &&& (65535 : Int32)).toInt64))))), .second, .unset, .unset]) rfl ?_
    show Steps p.tables e below (T10.setTop (mkF m 107 #[.val (.int u0), .val (.int u1), .val (.int u2), .val (.int u3), .val (.int (u1 &&& (65535 : Int32))), .val (.int (u2 &&& (65535 : Int32))), .val (.int (u3 &&& (3 : Int32))), .val (.ref b1), .val (.ref b4), .val (.ref b7), .val (.ref b9), .val (.long ((u0.toInt64) * ((((u3 &&& (3 : Int32)).toInt64) * ((u1 &&& (65535 : Int32)).toInt64)) + ((((4 : Int32) - (u3 &&& (3 : Int32))).toInt64) * ((u2 &&& (65535 : Int32)).toInt64))))), .second, .unset, .unset] [])) _
    refine XS.lload X10.here hx rfl (hb hby at_107) rfl ?_
    show Steps p.tables e below (T10.setTop (mkF m 109 #[.val (.int u0), .val (.int u1), .val (.int u2), .val (.int u3), .val (.int (u1 &&& (65535 : Int32))), .val (.int (u2 &&& (65535 : Int32))), .val (.int (u3 &&& (3 : Int32))), .val (.ref b1), .val (.ref b4), .val (.ref b7), .val (.ref b9), .val (.long ((u0.toInt64) * ((((u3 &&& (3 : Int32)).toInt64) * ((u1 &&& (65535 : Int32)).toInt64)) + ((((4 : Int32) - (u3 &&& (3 : Int32))).toInt64) * ((u2 &&& (65535 : Int32)).toInt64))))), .second, .unset, .unset] [(.long ((u0.toInt64) * ((((u3 &&& (3 : Int32)).toInt64) * ((u1 &&& (65535 : Int32)).toInt64)) + ((((4 : Int32) - (u3 &&& (3 : Int32))).toInt64) * ((u2 &&& (65535 : Int32)).toInt64)))))])) _
    refine XS.l2dS X10.here hx rfl (hb hby at_109) rfl (v := (FP.l2d ((u0.toInt64) * ((((u3 &&& (3 : Int32)).toInt64) * ((u1 &&& (65535 : Int32)).toInt64)) + ((((4 : Int32) - (u3 &&& (3 : Int32))).toInt64) * ((u2 &&& (65535 : Int32)).toInt64)))))) rfl ?_
    show Steps p.tables e below (T10.setTop (mkF m 110 #[.val (.int u0), .val (.int u1), .val (.int u2), .val (.int u3), .val (.int (u1 &&& (65535 : Int32))), .val (.int (u2 &&& (65535 : Int32))), .val (.int (u3 &&& (3 : Int32))), .val (.ref b1), .val (.ref b4), .val (.ref b7), .val (.ref b9), .val (.long ((u0.toInt64) * ((((u3 &&& (3 : Int32)).toInt64) * ((u1 &&& (65535 : Int32)).toInt64)) + ((((4 : Int32) - (u3 &&& (3 : Int32))).toInt64) * ((u2 &&& (65535 : Int32)).toInt64))))), .second, .unset, .unset] [(.double (FP.l2d ((u0.toInt64) * ((((u3 &&& (3 : Int32)).toInt64) * ((u1 &&& (65535 : Int32)).toInt64)) + ((((4 : Int32) - (u3 &&& (3 : Int32))).toInt64) * ((u2 &&& (65535 : Int32)).toInt64))))))])) _
    refine X10.ldc2DoubleC hx hown (mvT hZ (hw _ (List.mem_of_getElem? (i := 3) rfl))) (g := (mkF m 110 #[.val (.int u0), .val (.int u1), .val (.int u2), .val (.int u3), .val (.int (u1 &&& (65535 : Int32))), .val (.int (u2 &&& (65535 : Int32))), .val (.int (u3 &&& (3 : Int32))), .val (.ref b1), .val (.ref b4), .val (.ref b7), .val (.ref b9), .val (.long ((u0.toInt64) * ((((u3 &&& (3 : Int32)).toInt64) * ((u1 &&& (65535 : Int32)).toInt64)) + ((((4 : Int32) - (u3 &&& (3 : Int32))).toInt64) * ((u2 &&& (65535 : Int32)).toInt64))))), .second, .unset, .unset] [(.double (FP.l2d ((u0.toInt64) * ((((u3 &&& (3 : Int32)).toInt64) * ((u1 &&& (65535 : Int32)).toInt64)) + ((((4 : Int32) - (u3 &&& (3 : Int32))).toInt64) * ((u2 &&& (65535 : Int32)).toInt64))))))])) rfl (hb hby at_110) _ ?_
    show Steps p.tables e below (T10.setTop (mkF m 113 #[.val (.int u0), .val (.int u1), .val (.int u2), .val (.int u3), .val (.int (u1 &&& (65535 : Int32))), .val (.int (u2 &&& (65535 : Int32))), .val (.int (u3 &&& (3 : Int32))), .val (.ref b1), .val (.ref b4), .val (.ref b7), .val (.ref b9), .val (.long ((u0.toInt64) * ((((u3 &&& (3 : Int32)).toInt64) * ((u1 &&& (65535 : Int32)).toInt64)) + ((((4 : Int32) - (u3 &&& (3 : Int32))).toInt64) * ((u2 &&& (65535 : Int32)).toInt64))))), .second, .unset, .unset] [(.double (4616189618054758400 : UInt64)), (.double (FP.l2d ((u0.toInt64) * ((((u3 &&& (3 : Int32)).toInt64) * ((u1 &&& (65535 : Int32)).toInt64)) + ((((4 : Int32) - (u3 &&& (3 : Int32))).toInt64) * ((u2 &&& (65535 : Int32)).toInt64))))))])) _
    refine XS.ddivS X10.here hx rfl (hb hby at_113) rfl q2 (v := (FP.ddiv (FP.l2d ((u0.toInt64) * ((((u3 &&& (3 : Int32)).toInt64) * ((u1 &&& (65535 : Int32)).toInt64)) + ((((4 : Int32) - (u3 &&& (3 : Int32))).toInt64) * ((u2 &&& (65535 : Int32)).toInt64))))) (4616189618054758400 : UInt64))) rfl ?_
    show Steps p.tables e below (T10.setTop (mkF m 114 #[.val (.int u0), .val (.int u1), .val (.int u2), .val (.int u3), .val (.int (u1 &&& (65535 : Int32))), .val (.int (u2 &&& (65535 : Int32))), .val (.int (u3 &&& (3 : Int32))), .val (.ref b1), .val (.ref b4), .val (.ref b7), .val (.ref b9), .val (.long ((u0.toInt64) * ((((u3 &&& (3 : Int32)).toInt64) * ((u1 &&& (65535 : Int32)).toInt64)) + ((((4 : Int32) - (u3 &&& (3 : Int32))).toInt64) * ((u2 &&& (65535 : Int32)).toInt64))))), .second, .unset, .unset] [(.double (FP.ddiv (FP.l2d ((u0.toInt64) * ((((u3 &&& (3 : Int32)).toInt64) * ((u1 &&& (65535 : Int32)).toInt64)) + ((((4 : Int32) - (u3 &&& (3 : Int32))).toInt64) * ((u2 &&& (65535 : Int32)).toInt64))))) (4616189618054758400 : UInt64)))])) _
    refine XS.dstore X10.here hx rfl (hb hby at_114) rfl (l' := #[.val (.int u0), .val (.int u1), .val (.int u2), .val (.int u3), .val (.int (u1 &&& (65535 : Int32))), .val (.int (u2 &&& (65535 : Int32))), .val (.int (u3 &&& (3 : Int32))), .val (.ref b1), .val (.ref b4), .val (.ref b7), .val (.ref b9), .val (.long ((u0.toInt64) * ((((u3 &&& (3 : Int32)).toInt64) * ((u1 &&& (65535 : Int32)).toInt64)) + ((((4 : Int32) - (u3 &&& (3 : Int32))).toInt64) * ((u2 &&& (65535 : Int32)).toInt64))))), .second, .val (.double (FP.ddiv (FP.l2d ((u0.toInt64) * ((((u3 &&& (3 : Int32)).toInt64) * ((u1 &&& (65535 : Int32)).toInt64)) + ((((4 : Int32) - (u3 &&& (3 : Int32))).toInt64) * ((u2 &&& (65535 : Int32)).toInt64))))) (4616189618054758400 : UInt64))), .second]) rfl ?_
    show Steps p.tables e below (T10.setTop (mkF m 116 #[.val (.int u0), .val (.int u1), .val (.int u2), .val (.int u3), .val (.int (u1 &&& (65535 : Int32))), .val (.int (u2 &&& (65535 : Int32))), .val (.int (u3 &&& (3 : Int32))), .val (.ref b1), .val (.ref b4), .val (.ref b7), .val (.ref b9), .val (.long ((u0.toInt64) * ((((u3 &&& (3 : Int32)).toInt64) * ((u1 &&& (65535 : Int32)).toInt64)) + ((((4 : Int32) - (u3 &&& (3 : Int32))).toInt64) * ((u2 &&& (65535 : Int32)).toInt64))))), .second, .val (.double (FP.ddiv (FP.l2d ((u0.toInt64) * ((((u3 &&& (3 : Int32)).toInt64) * ((u1 &&& (65535 : Int32)).toInt64)) + ((((4 : Int32) - (u3 &&& (3 : Int32))).toInt64) * ((u2 &&& (65535 : Int32)).toInt64))))) (4616189618054758400 : UInt64))), .second] [])) _
    refine XS.aload X10.here hx rfl (hb hby at_116) rfl rfl ?_
    show Steps p.tables e below (T10.setTop (mkF m 118 #[.val (.int u0), .val (.int u1), .val (.int u2), .val (.int u3), .val (.int (u1 &&& (65535 : Int32))), .val (.int (u2 &&& (65535 : Int32))), .val (.int (u3 &&& (3 : Int32))), .val (.ref b1), .val (.ref b4), .val (.ref b7), .val (.ref b9), .val (.long ((u0.toInt64) * ((((u3 &&& (3 : Int32)).toInt64) * ((u1 &&& (65535 : Int32)).toInt64)) + ((((4 : Int32) - (u3 &&& (3 : Int32))).toInt64) * ((u2 &&& (65535 : Int32)).toInt64))))), .second, .val (.double (FP.ddiv (FP.l2d ((u0.toInt64) * ((((u3 &&& (3 : Int32)).toInt64) * ((u1 &&& (65535 : Int32)).toInt64)) + ((((4 : Int32) - (u3 &&& (3 : Int32))).toInt64) * ((u2 &&& (65535 : Int32)).toInt64))))) (4616189618054758400 : UInt64))), .second] [(.ref b9)])) _
    refine st11.trans ?_
    show Steps p.tables e below (T11.setTop (mkF m 121 #[.val (.int u0), .val (.int u1), .val (.int u2), .val (.int u3), .val (.int (u1 &&& (65535 : Int32))), .val (.int (u2 &&& (65535 : Int32))), .val (.int (u3 &&& (3 : Int32))), .val (.ref b1), .val (.ref b4), .val (.ref b7), .val (.ref b9), .val (.long ((u0.toInt64) * ((((u3 &&& (3 : Int32)).toInt64) * ((u1 &&& (65535 : Int32)).toInt64)) + ((((4 : Int32) - (u3 &&& (3 : Int32))).toInt64) * ((u2 &&& (65535 : Int32)).toInt64))))), .second, .val (.double (FP.ddiv (FP.l2d ((u0.toInt64) * ((((u3 &&& (3 : Int32)).toInt64) * ((u1 &&& (65535 : Int32)).toInt64)) + ((((4 : Int32) - (u3 &&& (3 : Int32))).toInt64) * ((u2 &&& (65535 : Int32)).toInt64))))) (4616189618054758400 : UInt64))), .second] [(.double (FP.dmul (FP.i2d u0) (meanE (u1 &&& (65535 : Int32)) (u2 &&& (65535 : Int32)) (u3 &&& (3 : Int32)))))])) _
    refine XS.dload X11.here hx rfl (hb hby at_121) rfl ?_
    show Steps p.tables e below (T11.setTop (mkF m 123 #[.val (.int u0), .val (.int u1), .val (.int u2), .val (.int u3), .val (.int (u1 &&& (65535 : Int32))), .val (.int (u2 &&& (65535 : Int32))), .val (.int (u3 &&& (3 : Int32))), .val (.ref b1), .val (.ref b4), .val (.ref b7), .val (.ref b9), .val (.long ((u0.toInt64) * ((((u3 &&& (3 : Int32)).toInt64) * ((u1 &&& (65535 : Int32)).toInt64)) + ((((4 : Int32) - (u3 &&& (3 : Int32))).toInt64) * ((u2 &&& (65535 : Int32)).toInt64))))), .second, .val (.double (FP.ddiv (FP.l2d ((u0.toInt64) * ((((u3 &&& (3 : Int32)).toInt64) * ((u1 &&& (65535 : Int32)).toInt64)) + ((((4 : Int32) - (u3 &&& (3 : Int32))).toInt64) * ((u2 &&& (65535 : Int32)).toInt64))))) (4616189618054758400 : UInt64))), .second] [(.double (FP.ddiv (FP.l2d ((u0.toInt64) * ((((u3 &&& (3 : Int32)).toInt64) * ((u1 &&& (65535 : Int32)).toInt64)) + ((((4 : Int32) - (u3 &&& (3 : Int32))).toInt64) * ((u2 &&& (65535 : Int32)).toInt64))))) (4616189618054758400 : UInt64))), (.double (FP.dmul (FP.i2d u0) (meanE (u1 &&& (65535 : Int32)) (u2 &&& (65535 : Int32)) (u3 &&& (3 : Int32)))))])) _
    refine XS.dcmpS X11.here hx rfl (hb hby at_123) rfl (v := (0 : Int32)) hcmp ?_
    show Steps p.tables e below (T11.setTop (mkF m 124 #[.val (.int u0), .val (.int u1), .val (.int u2), .val (.int u3), .val (.int (u1 &&& (65535 : Int32))), .val (.int (u2 &&& (65535 : Int32))), .val (.int (u3 &&& (3 : Int32))), .val (.ref b1), .val (.ref b4), .val (.ref b7), .val (.ref b9), .val (.long ((u0.toInt64) * ((((u3 &&& (3 : Int32)).toInt64) * ((u1 &&& (65535 : Int32)).toInt64)) + ((((4 : Int32) - (u3 &&& (3 : Int32))).toInt64) * ((u2 &&& (65535 : Int32)).toInt64))))), .second, .val (.double (FP.ddiv (FP.l2d ((u0.toInt64) * ((((u3 &&& (3 : Int32)).toInt64) * ((u1 &&& (65535 : Int32)).toInt64)) + ((((4 : Int32) - (u3 &&& (3 : Int32))).toInt64) * ((u2 &&& (65535 : Int32)).toInt64))))) (4616189618054758400 : UInt64))), .second] [(.int (0 : Int32))])) _
    refine XS.ifNo X11.here hx rfl (hb hby at_124) rfl ((if0 _ _).trans (teq (rfl : (0 : Int32) = (0 : Int32))).2) ?_
    show Steps p.tables e below (T11.setTop (mkF m 127 #[.val (.int u0), .val (.int u1), .val (.int u2), .val (.int u3), .val (.int (u1 &&& (65535 : Int32))), .val (.int (u2 &&& (65535 : Int32))), .val (.int (u3 &&& (3 : Int32))), .val (.ref b1), .val (.ref b4), .val (.ref b7), .val (.ref b9), .val (.long ((u0.toInt64) * ((((u3 &&& (3 : Int32)).toInt64) * ((u1 &&& (65535 : Int32)).toInt64)) + ((((4 : Int32) - (u3 &&& (3 : Int32))).toInt64) * ((u2 &&& (65535 : Int32)).toInt64))))), .second, .val (.double (FP.ddiv (FP.l2d ((u0.toInt64) * ((((u3 &&& (3 : Int32)).toInt64) * ((u1 &&& (65535 : Int32)).toInt64)) + ((((4 : Int32) - (u3 &&& (3 : Int32))).toInt64) * ((u2 &&& (65535 : Int32)).toInt64))))) (4616189618054758400 : UInt64))), .second] [])) _
    refine XS.iconst X11.here hx rfl (hb hby at_127) ?_
    show Steps p.tables e below (T11.setTop (mkF m 128 #[.val (.int u0), .val (.int u1), .val (.int u2), .val (.int u3), .val (.int (u1 &&& (65535 : Int32))), .val (.int (u2 &&& (65535 : Int32))), .val (.int (u3 &&& (3 : Int32))), .val (.ref b1), .val (.ref b4), .val (.ref b7), .val (.ref b9), .val (.long ((u0.toInt64) * ((((u3 &&& (3 : Int32)).toInt64) * ((u1 &&& (65535 : Int32)).toInt64)) + ((((4 : Int32) - (u3 &&& (3 : Int32))).toInt64) * ((u2 &&& (65535 : Int32)).toInt64))))), .second, .val (.double (FP.ddiv (FP.l2d ((u0.toInt64) * ((((u3 &&& (3 : Int32)).toInt64) * ((u1 &&& (65535 : Int32)).toInt64)) + ((((4 : Int32) - (u3 &&& (3 : Int32))).toInt64) * ((u2 &&& (65535 : Int32)).toInt64))))) (4616189618054758400 : UInt64))), .second] [(.int (1 : Int32))])) _
    refine XS.goto X11.here hx rfl (pc0 := 128) (pc' := 132) rfl (hb hby at_128) (by decide) (by decide) ?_
    show Steps p.tables e below (T11.setTop (mkF m 132 #[.val (.int u0), .val (.int u1), .val (.int u2), .val (.int u3), .val (.int (u1 &&& (65535 : Int32))), .val (.int (u2 &&& (65535 : Int32))), .val (.int (u3 &&& (3 : Int32))), .val (.ref b1), .val (.ref b4), .val (.ref b7), .val (.ref b9), .val (.long ((u0.toInt64) * ((((u3 &&& (3 : Int32)).toInt64) * ((u1 &&& (65535 : Int32)).toInt64)) + ((((4 : Int32) - (u3 &&& (3 : Int32))).toInt64) * ((u2 &&& (65535 : Int32)).toInt64))))), .second, .val (.double (FP.ddiv (FP.l2d ((u0.toInt64) * ((((u3 &&& (3 : Int32)).toInt64) * ((u1 &&& (65535 : Int32)).toInt64)) + ((((4 : Int32) - (u3 &&& (3 : Int32))).toInt64) * ((u2 &&& (65535 : Int32)).toInt64))))) (4616189618054758400 : UInt64))), .second] [(.int (1 : Int32))])) _
    exact retN X11 hx (t := .boolean) Bd.returns (by simp) (hb hby at_132) hr
  · show Q0 n0 _ T11.heap _
    rw [K11]
    exact ⟨rfl, Fr.app NI N11q⟩
theorem rm0 (l : Launch) (Z : State) (a0 : Array Value) (hw : ∀ d ∈ tables_1, d.before a0 Z = true) (ws : List Jvm.Cond) (u0 u1 u2 u3 : Int32) (h0 : Heap) (n0 : Nat) (Z0 : n0 ≤ h0.size) :
    MetFree l x (head1 (Jvm.Cond.code x code maxLocals ret :: ws) room_1) (fun aa U => aa = #[(.int u0), (.int u1), (.int u2), (.int u3)] ∧ Z.Warmed39 U.vm ∧ U.heap = h0) (fun _ _ _ _ _ => True) (fun _ U o U' => ∃ v L, o = .returned v ∧ Q0 n0 v U'.heap L ∧ FrameEnd U o U' L 16 128) := by
  have hk := own_m2 u3
  have ra := own_m16 u1
  have rb := own_m16 u2
  have ha : (u1 &&& 65535).toInt.natAbs ≤ 65536 := by omega
  have hb : (u2 &&& 65535).toInt.natAbs ≤ 65536 := by omega
  have hk1 : (u3 &&& 3).toInt.natAbs ≤ 4 := by omega
  have hk2 : (4 - (u3 &&& 3)).toInt.natAbs ≤ 4 := by rw [own_4k _ hk]; omega
  exact rm0x l Z a0 hw ws u0 u1 u2 u3 h0 n0 Z0 (own_nn (own_p _ hk1)) (own_nn (own_p _ hk2)) (own_nn (own_exp u0 _ _ _ hk ha hb)) (own_nn (own_m _ _ hk1 ha)) (own_nn (own_s1 _ _ hk1 ha)) (own_nn (own_m _ _ hk2 hb)) (own_nn (own_s2 _ _ _ hk ha hb)) (own_nn (own_r u0 _ _ _ hk ha hb)) (own_cmp u0 _ _ _ hk ha hb)
set_option maxRecDepth 65536 in
set_option maxHeartbeats 40000000 in
theorem comes_1 {Post : Tables → Env → Array Value → State → Outcome → State → Prop} (hpost : ∀ tb e args s v u, (limb_1_1.after args s (.returned v) u = true ∧ limb_1_2.after args s (.returned v) u = true ∧ True) → FrameEnd s (.returned v) u (Jvm.fieldLocs frame_1_writes args s ++ Jvm.arrayLocs frame_1_arrays args s ++ Jvm.staticLocs frame_1_statics s) 16 128 → Post tb e args s (.returned v) u) :
    ArmFor flags0 classFile x code maxLocals ret World_1 tables_1 room_1 Calls_1 rest_1 Pre_1 Post := by
  intro l hfl _ _ p e ha hc hk s m args below hf hA hF happ hP
  obtain ⟨hcalls, hrest, hpre⟩ := hP
  obtain ⟨-, -, -, hnamed, -, -, -, hat⟩ := (Spec.applies_iff hf).mp happ
  obtain ⟨hg, hn⟩ := and_e (Cond.before_iff.mp (show (Jvm.Cond.and given_1 narrow_1).before args s = true from hpre))
  obtain ⟨g0, gg0⟩ := and_e hg
  obtain ⟨g1, gg1⟩ := and_e gg0
  obtain ⟨g2, gg2⟩ := and_e gg1
  obtain ⟨g3, gg3⟩ := and_e gg2
  obtain ⟨w0, w1, w2, w3, rfl⟩ : ∃ w0 w1 w2 w3 : Value, args = #[w0, w1, w2, w3] := by
    have hs : args.size = 4 := by simpa [Cond.value, given_1] using g0
    obtain ⟨L⟩ := args
    match L, hs with
    | [w0, w1, w2, w3], _ => exact ⟨w0, w1, w2, w3, rfl⟩
  have hw := fun d (hd : d ∈ tables_1) => atoms_spec (ws := Jvm.Cond.code x code maxLocals ret :: tables_1) hat d (List.mem_cons_of_mem _ hd)
  obtain ⟨i0, ei0⟩ := is_v g1
  obtain rfl : w0 = (.int i0) := Option.some.inj ei0
  obtain ⟨i1, ei1⟩ := is_v g2
  obtain rfl : w1 = (.int i1) := Option.some.inj ei1
  obtain ⟨i2, ei2⟩ := is_v g3
  obtain rfl : w2 = (.int i2) := Option.some.inj ei2
  obtain ⟨i3, ei3⟩ := is_v gg3
  obtain rfl : w3 = (.int i3) := Option.some.inj ei3
  obtain ⟨n, o, h1, h2, h3, _, L, rfl, ⟨rfl, N⟩, hq⟩ := rm0 l s _ hw tables_1 i0 i1 i2 i3 s.heap s.heap.size (Nat.le_refl _) p e ha hc hk s m _ below hf ((Spec.applies_iff_loose hf).mp happ).1 ⟨rfl, State.Warmed39.refl s, rfl⟩ trivial
  refine ⟨n, _, h1, h2, h3, hpost _ _ _ _ _ _ ⟨Cond.after_iff.mpr rfl, Cond.after_iff.mpr (eq_i res_at (Term.int_eval (1)) rfl), trivial⟩ ⟨hq.1, hq.2.1, (hq.2.2.sift fun y hy => Or.inr (N y hy)).mono (by decide) (by decide)⟩⟩
theorem main_1_1 : Claimed_1_1 := comes_1 fun _ _ _ _ _ _ h hF => ⟨h.1, hF⟩
theorem main_1_2 : Claimed_1_2 := comes_1 fun _ _ _ _ _ _ h hF => ⟨h.2.1, hF⟩
end Jvm.Pilot.@@N@@
namespace Jvm.Pilot.@@N@@
open Jvm Jvm.ClassFile Sem Op Lib Jvm.Free Jvm.Stand Jvm.Pilot.@@N@@.Jvm.D
/-! MADE BY PROGRAM (witnessworld.py) out of the Statement's table words and the real class files: 12 classes; the members and pool entries that the words name. The judged class is class 1, her method 1. -/
namespace start1
open Jvm.ClassFile
def u (s : String) : CpInfo := .utf8 (stringToUtf16 s)
/-- a pool by its gaps: so many unusable entries, then the entry; so many at the end -/
def gap : Nat → List CpInfo → List CpInfo
  | 0, r => r
  | n + 1, r => .unusable :: gap n r
def poolList (es : List (Nat × CpInfo)) (last : Nat) : List CpInfo := es.foldr (fun e r => gap e.1 (e.2 :: r)) (gap last [])
def pool (es : List (Nat × CpInfo)) (last : Nat) : Array CpInfo := ⟨poolList es last⟩
def fileOf (pool : Array CpInfo) (this : Nat) (attrs : Array Attribute := #[]) (ms : Array MethodInfo := #[]) (fl : Nat := 33) (sup : Nat := 0) (ifs : Array Nat := #[]) (fds : Array FieldInfo := #[]) : ClassFile where
  minorVersion := 0
  majorVersion := 65
  constantPool := pool
  accessFlags := fl
  thisClass := this
  superClass := sup
  interfaces := ifs
  fields := fds
  methods := ms
  attributes := attrs
def plain (name : String) (sup : Option ClassId) : Class where
  name := name
  kind := .ordinary
  loader := none
  accessFlags := 33
  super := sup
  interfaces := #[]
  cf := none
  fields := #[]
  methods := #[]
  instanceTypes := #[]
  staticTypes := #[]
  resolved := #[]
  callSites := []
  init := .initialized
  statics := none
  mirror := none

def pool0 : Array CpInfo := pool [(5, u "<init>"), (0, u "()V"), (1, .class_ 10), (1, u "java/lang/Object")] 113

def k0c0 : Code := { maxStack := 0, maxLocals := 1, code := object_method_1_code, exceptionTable := #[], attributes := #[] }
def k0m0 : Method := { name := "<init>", desc := "()V", sig := { parameters := [], returnType := none }, accessFlags := 1, code := some k0c0 }
/-- java/lang/Object -/
def k0 : Class := { plain "java/lang/Object" none with
  accessFlags := 33
  interfaces := #[]
  cf := some (fileOf pool0 8 #[] #[{ accessFlags := 1, nameIndex := 5, descriptorIndex := 6, attributes := #[] }] 33 0 #[] #[])
  fields := #[]
  methods := #[k0m0]
  instanceTypes := #[]
  staticTypes := #[]
  resolved := Array.replicate 124 none
  statics := none }

def pool1 : Array CpInfo := pool [(2, .class_ 4), (1, u "java/lang/Object"), (0, u "<init>"), (0, u "()V"), (0, .integer 65535), (0, .double 4616189618054758400), (1, .class_ 11), (0, u "com/example/cobatch/cobatch/model/SizeDistribution"), (0, .methodref 10 13), (0, .nameAndType 5 14), (0, u "([I[D)V"), (0, .class_ 16), (0, u "com/example/cobatch/cobatch/model/ItemDemand"), (0, .methodref 15 18), (0, .nameAndType 5 19), (0, u "(DLcom/example/cobatch/cobatch/model/SizeDistribution;)V"), (0, .methodref 15 21), (0, .nameAndType 22 23), (0, u "unitRate"), (0, u "()D"), (0, .class_ 25), (0, u "com/example/cobatch/cobatch/model/ItemDemandUnitRatePinLaw"), (2, u "law"), (0, u "(IIII)Z")] 7

def k1m0 : Method := { name := "<init>", desc := "()V", sig := { parameters := [], returnType := none }, accessFlags := 1, code := none }
def k1c1 : Code := { maxStack := 8, maxLocals := 15, code := code, exceptionTable := #[], attributes := #[] }
def k1m1 : Method := { name := "law", desc := "(IIII)Z", sig := { parameters := [.int, .int, .int, .int], returnType := some .boolean }, accessFlags := 9, code := some k1c1 }
/-- com/example/cobatch/cobatch/model/ItemDemandUnitRatePinLaw -/
def k1 : Class := { plain "com/example/cobatch/cobatch/model/ItemDemandUnitRatePinLaw" (some 0) with
  accessFlags := 49
  interfaces := #[]
  cf := some (fileOf pool1 24 #[] #[{ accessFlags := 1, nameIndex := 5, descriptorIndex := 6, attributes := #[] }, { accessFlags := 9, nameIndex := 28, descriptorIndex := 29, attributes := #[] }] 49 2 #[] #[])
  fields := #[]
  methods := #[k1m0, k1m1]
  instanceTypes := #[]
  staticTypes := #[]
  resolved := Array.replicate 37 none
  statics := none }

def pool2 : Array CpInfo := pool [(1, .methodref 2 3), (0, .class_ 4), (0, .nameAndType 5 6), (0, u "java/lang/Object"), (0, u "<init>"), (0, u "()V"), (0, .fieldref 8 9), (0, .class_ 10), (0, .nameAndType 11 12), (0, u "com/example/cobatch/cobatch/model/SizeDistribution"), (0, u "sizes"), (0, u "[I"), (0, .fieldref 8 14), (0, .nameAndType 15 16), (0, u "probabilities"), (0, u "[D"), (0, .fieldref 8 18), (0, .nameAndType 19 20), (0, u "mean"), (0, u "D"), (0, u "([I[D)V"), (11, u "()D")] 2

def k2c0 : Code := { maxStack := 6, maxLocals := 6, code := prog_16_method_1_code, exceptionTable := #[], attributes := #[] }
def k2m0 : Method := { name := "<init>", desc := "([I[D)V", sig := { parameters := [(.array .int), (.array .double)], returnType := none }, accessFlags := 0, code := some k2c0 }
def k2c1 : Code := { maxStack := 2, maxLocals := 1, code := prog_16_method_5_code, exceptionTable := #[], attributes := #[] }
def k2m1 : Method := { name := "mean", desc := "()D", sig := { parameters := [], returnType := some .double }, accessFlags := 1, code := some k2c1 }
/-- com/example/cobatch/cobatch/model/SizeDistribution -/
def k2 : Class := { plain "com/example/cobatch/cobatch/model/SizeDistribution" (some 0) with
  accessFlags := 49
  interfaces := #[]
  cf := some (fileOf pool2 8 #[] #[{ accessFlags := 0, nameIndex := 5, descriptorIndex := 21, attributes := #[] }, { accessFlags := 1, nameIndex := 19, descriptorIndex := 33, attributes := #[] }] 49 2 #[] #[{ accessFlags := 18, nameIndex := 11, descriptorIndex := 12, attributes := #[] }, { accessFlags := 18, nameIndex := 15, descriptorIndex := 16, attributes := #[] }, { accessFlags := 18, nameIndex := 19, descriptorIndex := 20, attributes := #[] }])
  fields := #[{ name := "sizes", type := (.array .int), accessFlags := 18, slot := 0, constantValue := 0 }, { name := "probabilities", type := (.array .double), accessFlags := 18, slot := 1, constantValue := 0 }, { name := "mean", type := .double, accessFlags := 18, slot := 2, constantValue := 0 }]
  methods := #[k2m0, k2m1]
  instanceTypes := #[(.array .int), (.array .double), .double]
  staticTypes := #[]
  resolved := Array.replicate 36 none
  statics := none }

def pool3 : Array CpInfo := pool [(1, .methodref 2 3), (0, .class_ 4), (0, .nameAndType 5 6), (0, u "java/lang/Object"), (0, u "<init>"), (0, u "()V"), (0, .fieldref 8 9), (0, .class_ 10), (0, .nameAndType 11 12), (0, u "com/example/cobatch/cobatch/model/ItemDemand"), (0, u "rate"), (0, u "D"), (0, .fieldref 8 14), (0, .nameAndType 15 16), (0, u "sizes"), (0, u "Lcom/example/cobatch/cobatch/model/SizeDistribution;"), (0, .methodref 18 19), (0, .class_ 20), (0, .nameAndType 21 22), (0, u "com/example/cobatch/cobatch/model/SizeDistribution"), (0, u "mean"), (0, u "()D"), (0, u "(DLcom/example/cobatch/cobatch/model/SizeDistribution;)V"), (3, u "unitRate")] 2

def k3c0 : Code := { maxStack := 3, maxLocals := 4, code := prog_9_method_1_code, exceptionTable := #[], attributes := #[] }
def k3m0 : Method := { name := "<init>", desc := "(DLcom/example/cobatch/cobatch/model/SizeDistribution;)V", sig := { parameters := [.double, (.object "com/example/cobatch/cobatch/model/SizeDistribution")], returnType := none }, accessFlags := 0, code := some k3c0 }
def k3c1 : Code := { maxStack := 4, maxLocals := 1, code := prog_9_method_4_code, exceptionTable := #[], attributes := #[] }
def k3m1 : Method := { name := "unitRate", desc := "()D", sig := { parameters := [], returnType := some .double }, accessFlags := 1, code := some k3c1 }
/-- com/example/cobatch/cobatch/model/ItemDemand -/
def k3 : Class := { plain "com/example/cobatch/cobatch/model/ItemDemand" (some 0) with
  accessFlags := 49
  interfaces := #[]
  cf := some (fileOf pool3 8 #[] #[{ accessFlags := 0, nameIndex := 5, descriptorIndex := 23, attributes := #[] }, { accessFlags := 1, nameIndex := 27, descriptorIndex := 22, attributes := #[] }] 49 2 #[] #[{ accessFlags := 18, nameIndex := 11, descriptorIndex := 12, attributes := #[] }, { accessFlags := 18, nameIndex := 15, descriptorIndex := 16, attributes := #[] }])
  fields := #[{ name := "rate", type := .double, accessFlags := 18, slot := 0, constantValue := 0 }, { name := "sizes", type := (.object "com/example/cobatch/cobatch/model/SizeDistribution"), accessFlags := 18, slot := 1, constantValue := 0 }]
  methods := #[k3m0, k3m1]
  instanceTypes := #[.double, (.object "com/example/cobatch/cobatch/model/SizeDistribution")]
  staticTypes := #[]
  resolved := Array.replicate 30 none
  statics := none }

def pool4 : Array CpInfo := pool [(1, u "java/lang/Cloneable"), (0, .class_ 1), (0, u "java/lang/Object"), (0, .class_ 3)] 3

/-- java/lang/Cloneable -/
def k4 : Class := { plain "java/lang/Cloneable" (some 0) with
  accessFlags := 1537
  interfaces := #[]
  cf := some (fileOf pool4 2 #[] #[] 1537 4 #[] #[])
  fields := #[]
  methods := #[]
  instanceTypes := #[]
  staticTypes := #[]
  resolved := Array.replicate 8 none
  statics := none }

def pool5 : Array CpInfo := pool [(1, u "java/io/Serializable"), (0, .class_ 1), (0, u "java/lang/Object"), (0, .class_ 3)] 3

/-- java/io/Serializable -/
def k5 : Class := { plain "java/io/Serializable" (some 0) with
  accessFlags := 1537
  interfaces := #[]
  cf := some (fileOf pool5 2 #[] #[] 1537 4 #[] #[])
  fields := #[]
  methods := #[]
  instanceTypes := #[]
  staticTypes := #[]
  resolved := Array.replicate 8 none
  statics := none }

/-- the primitive byte -/
def k6 : Class := { plain "byte" none with kind := .primitive 'B', accessFlags := 0x411 }
/-- [B -/
def k7 : Class := { plain "[B" (some 0) with kind := .array 6 .byte, interfaces := #[4, 5], accessFlags := 1041 }

/-- the primitive double -/
def k8 : Class := { plain "double" none with kind := .primitive 'D', accessFlags := 0x411 }
/-- [D -/
def k9 : Class := { plain "[D" (some 0) with kind := .array 8 .double, interfaces := #[4, 5], accessFlags := 1041 }

/-- the primitive int -/
def k10 : Class := { plain "int" none with kind := .primitive 'I', accessFlags := 0x411 }
/-- [I -/
def k11 : Class := { plain "[I" (some 0) with kind := .array 10 .int, interfaces := #[4, 5], accessFlags := 1041 }

def heap : Heap := #[]
def classes : Array Class := #[k0, k1, k2, k3, k4, k5, k6, k7, k8, k9, k10, k11]
def interned : List (Array UInt16 × Addr) := []
def slotsUsed : Nat := 0
def theMethod : MethodId := ⟨1, 1⟩
def args0 : Array Value := #[.int 5, .int 3, .int 4, .int 1]
def aboutOver (below : List Frame) : State where
  vm := { classes := classes, interned := interned.toArray }
  heap := heap
  slotsUsed := slotsUsed
  threads := #[{ frames := .invoking theMethod args0 :: below }]
def below0 : List Frame := [.native { method := ⟨0, 0⟩, args := #[] }]
def about1 : State := aboutOver below0
def p0 : Program := .bare "" "" ""
def e0 : Env := launch0.env 0 0 0
theorem w_frames : about1.frames = Frame.invoking theMethod args0 :: below0 := rfl
set_option maxRecDepth 65536 in
theorem w_args : argsFit about1.vm theMethod args0 = true := by decide +kernel
set_option maxRecDepth 65536 in
theorem w_heap : heapFits about1 = true := by decide +kernel
set_option maxRecDepth 65536 in
theorem w_runnable : about1.curStatus? = some .runnable := by decide +kernel
set_option maxRecDepth 65536 in
theorem w_alone : about1.alone = true := by decide +kernel
set_option maxRecDepth 65536 in
theorem w_named : about1.methodNamed? x = some theMethod := by decide +kernel
set_option maxRecDepth 65536 in
theorem w_hears : about1.hears theMethod below0 = true := by decide +kernel
set_option maxRecDepth 65536 in
theorem w_ripe : about1.ripe theMethod args0 below0 = true := by decide +kernel
theorem w_running : about1.status = .running := rfl
set_option maxRecDepth 65536 in
theorem w_room : about1.hasRoom e0.platform room_1 = true :=
  launch0.hasRoom_least _ room_1 (by decide +kernel) (by decide +kernel) (by decide +kernel) (by decide +kernel) (by decide +kernel) (by decide +kernel)
theorem allAtoms_all (ts : List Jvm.Cond) (a : Array Jvm.Value) (st : Jvm.State) : (allAtoms ts).before a st = ts.all (fun c => c.before a st) := by
  induction ts with
  | nil => rfl
  | cons c t ih =>
    show (Jvm.Cond.and c (allAtoms t)).before a st = _
    rw [Jvm.Cond.before_and, ih, List.all_cons]
def words1 : List Jvm.Cond := Jvm.Cond.code x code maxLocals ret :: tables_1
/-- a 'code' word, met by the world's own term for the bytes: nothing is compared byte by byte -/
theorem code_word {y : MethodName} {bytes : ByteArray} {mx : Nat} {rt : Option FieldType} {a : Array Value} {s : State} {m : MethodId} {meth : Method} {c : Code} (h1 : s.methodNamed? y = some m) (h2 : s.vm.method? m = some meth) (h3 : meth.code = some c) (h4 : c.code = bytes)
    (h5 : (c.maxLocals == mx && c.exceptionTable.isEmpty && decide (c.maxStack ≤ mostOperands) && decide (meth.sig.returnType = rt) && !meth.locks && decide (parseMethodDescriptor y.desc = some meth.sig)) = true) : (Jvm.Cond.code y bytes mx rt).before a s = true := by
  simp only [Bool.and_eq_true, beq_iff_eq, Bool.not_eq_true', decide_eq_true_eq] at h5
  obtain ⟨⟨⟨⟨⟨g1, g2⟩, g3⟩, g4⟩, g5⟩, g6⟩ := h5
  simp [Cond.before, Cond.holds, Cond.value, h1, h2, h3, h4, g1, g2, g3, g4, g5, g6]
def isCode : Jvm.Cond → Bool
  | .code _ _ _ _ => true
  | _ => false
theorem all_split {L : List Jvm.Cond} {P : Jvm.Cond → Bool} (h1 : L.all (fun c => isCode c || P c) = true) (h2 : ∀ c ∈ L.filter isCode, P c = true) : L.all P = true := by
  refine List.all_eq_true.mpr fun c hc => ?_
  have h := List.all_eq_true.mp h1 c hc
  rcases Bool.eq_false_or_eq_true (isCode c) with hi | hi
  · exact h2 c (List.mem_filter.mpr ⟨hc, hi⟩)
  · simpa [hi] using h
set_option maxRecDepth 65536 in
theorem w_c0 : (Jvm.Cond.code x code maxLocals ret).before args0 about1 = true := code_word (m := ⟨1, 1⟩) (meth := k1m1) (c := k1c1) (by decide +kernel) rfl rfl rfl (by decide +kernel)
set_option maxRecDepth 65536 in
theorem w_c1 : (Jvm.Cond.code ({ cls := "com/example/cobatch/cobatch/model/SizeDistribution", name := "<init>", desc := "([I[D)V" } : Jvm.MethodName) prog_16_method_1_code (6 : Nat) (Option.none : Option Jvm.ClassFile.FieldType)).before args0 about1 = true := code_word (m := ⟨2, 0⟩) (meth := k2m0) (c := k2c0) (by decide +kernel) rfl rfl rfl (by decide +kernel)
set_option maxRecDepth 65536 in
theorem w_c2 : (Jvm.Cond.code ({ cls := "java/lang/Object", name := "<init>", desc := "()V" } : Jvm.MethodName) object_method_1_code (1 : Nat) (Option.none : Option Jvm.ClassFile.FieldType)).before args0 about1 = true := code_word (m := ⟨0, 0⟩) (meth := k0m0) (c := k0c0) (by decide +kernel) rfl rfl rfl (by decide +kernel)
set_option maxRecDepth 65536 in
theorem w_c3 : (Jvm.Cond.code ({ cls := "com/example/cobatch/cobatch/model/ItemDemand", name := "<init>", desc := "(DLcom/example/cobatch/cobatch/model/SizeDistribution;)V" } : Jvm.MethodName) prog_9_method_1_code (4 : Nat) (Option.none : Option Jvm.ClassFile.FieldType)).before args0 about1 = true := code_word (m := ⟨3, 0⟩) (meth := k3m0) (c := k3c0) (by decide +kernel) rfl rfl rfl (by decide +kernel)
set_option maxRecDepth 65536 in
theorem w_c4 : (Jvm.Cond.code ({ cls := "com/example/cobatch/cobatch/model/ItemDemand", name := "unitRate", desc := "()D" } : Jvm.MethodName) prog_9_method_4_code (1 : Nat) (Option.some Jvm.ClassFile.FieldType.double)).before args0 about1 = true := code_word (m := ⟨3, 1⟩) (meth := k3m1) (c := k3c1) (by decide +kernel) rfl rfl rfl (by decide +kernel)
set_option maxRecDepth 65536 in
theorem w_c5 : (Jvm.Cond.code ({ cls := "com/example/cobatch/cobatch/model/SizeDistribution", name := "mean", desc := "()D" } : Jvm.MethodName) prog_16_method_5_code (1 : Nat) (Option.some Jvm.ClassFile.FieldType.double)).before args0 about1 = true := code_word (m := ⟨2, 1⟩) (meth := k2m1) (c := k2c1) (by decide +kernel) rfl rfl rfl (by decide +kernel)
def codes1 : List Jvm.Cond := [Jvm.Cond.code x code maxLocals ret, Jvm.Cond.code ({ cls := "com/example/cobatch/cobatch/model/SizeDistribution", name := "<init>", desc := "([I[D)V" } : Jvm.MethodName) prog_16_method_1_code (6 : Nat) (Option.none : Option Jvm.ClassFile.FieldType), Jvm.Cond.code ({ cls := "java/lang/Object", name := "<init>", desc := "()V" } : Jvm.MethodName) object_method_1_code (1 : Nat) (Option.none : Option Jvm.ClassFile.FieldType), Jvm.Cond.code ({ cls := "com/example/cobatch/cobatch/model/ItemDemand", name := "<init>", desc := "(DLcom/example/cobatch/cobatch/model/SizeDistribution;)V" } : Jvm.MethodName) prog_9_method_1_code (4 : Nat) (Option.none : Option Jvm.ClassFile.FieldType), Jvm.Cond.code ({ cls := "com/example/cobatch/cobatch/model/ItemDemand", name := "unitRate", desc := "()D" } : Jvm.MethodName) prog_9_method_4_code (1 : Nat) (Option.some Jvm.ClassFile.FieldType.double), Jvm.Cond.code ({ cls := "com/example/cobatch/cobatch/model/SizeDistribution", name := "mean", desc := "()D" } : Jvm.MethodName) prog_16_method_5_code (1 : Nat) (Option.some Jvm.ClassFile.FieldType.double)]
set_option maxRecDepth 65536 in
theorem codes_eq : words1.filter isCode = codes1 := rfl
theorem w_codes : ∀ c ∈ words1.filter isCode, c.before args0 about1 = true := by
  rw [codes_eq]
  intro c hc
  simp only [codes1, List.mem_cons, List.not_mem_nil, or_false] at hc
  rcases hc with rfl | rfl | rfl | rfl | rfl | rfl
  · exact w_c0
  · exact w_c1
  · exact w_c2
  · exact w_c3
  · exact w_c4
  · exact w_c5
set_option maxRecDepth 65536 in
theorem w_t1 : (words1.take 24).all (fun c => isCode c || c.before args0 about1) = true := by decide +kernel
set_option maxRecDepth 65536 in
theorem w_t2 : (words1.drop 24).all (fun c => isCode c || c.before args0 about1) = true := by decide +kernel
theorem w_tables : (allAtoms (Jvm.Cond.code x code maxLocals ret :: tables_1)).before args0 about1 = true := by
  rw [allAtoms_all]
  show words1.all (fun c => c.before args0 about1) = true
  refine all_split ?_ w_codes
  rw [← List.take_append_drop 24 words1, List.all_append, w_t1, w_t2]
  rfl
set_option maxRecDepth 65536 in
theorem w_case : (Jvm.Cond.and given_1 narrow_1).before args0 about1 = true := by decide +kernel
theorem w_applies : (headSpec (Jvm.Cond.code x code maxLocals ret :: tables_1) room_1).applies x e0.platform about1 = true :=
  (Spec.applies_iff w_frames).mpr ⟨w_running, w_runnable, w_alone, w_named, w_hears, w_ripe, w_room, w_tables⟩
theorem atStart : AtStart classFile x code maxLocals ret World_1 tables_1 room_1 Calls_1 rest_1 Pre_1 launch0 p0 e0 about1 theMethod args0 below0 :=
  ⟨lists_1, trivial, launch0.admits_env _ _ _, launch0.least_env, fairChoices_fair.cas, fairChoices_fair.clock, w_frames, w_args, w_heap, w_applies, trivial, trivial, w_case⟩
end start1
theorem witness_1 : WitnessClaimed_1 := ⟨start1.p0, start1.e0, start1.about1, start1.theMethod, start1.args0, start1.below0, start1.atStart⟩
end Jvm.Pilot.@@N@@
