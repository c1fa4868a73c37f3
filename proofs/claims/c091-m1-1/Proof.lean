import JvmDerived
import JvmDerived.Pilot.@@N@@Statement
import JvmDerived.Pilot.@@N@@Code
set_option linter.unusedVariables false
set_option linter.unusedSimpArgs false
namespace Jvm.RoadKit
open Sem ClassFile Op Lib Jvm.Stand Jvm.Free Jvm.LawKit
section New
variable {p : Program} {l : Launch} {e : Env} {R : Room} {s : State} {m : MethodId} {args : Array Value} {below : List Frame} {meth : Method} {c : Code} {T : State} {locs : List Loc} {cells slots : Nat}
theorem retI (X : Stand p l e R s m args below meth c T locs cells slots) (hx : p.tables.exec = Jvm.exec) {pc : Nat} {Ls : Array Slot} {z : Int32} {rest : List Value} (hret : meth.sig.returnType = some .int) (hd : decode c.code pc = .ok (.ireturn, 1)) {fs : List Frame}
    (hl : ∀ (f : JFrame) (acts : List Action), f.method = m → f.locked = none → f.entered = [] → (doReturn e (T.setTop f) acts (some (.int z))).1 = T.setFrames fs) : Steps p.tables e below (T.setTop (mkF m pc Ls (.int z :: rest))) (T.setFrames fs) := by
  have hm' : T.vm.method? m = some meth := X.method'
  have hn : narrow .int (.int z) = .int z := rfl
  show Steps p.tables e below (T.setTop { method := m, pc := pc, locals := Ls, stack := _ :: rest, locked := none }) _
  jvm_step X.here [X.here.top, hx, hd, hm', hret, hn]
  first | (intro acts; rw [hl _ acts rfl rfl rfl]) | rw [hl _ _ rfl rfl rfl]
  exact Steps.refl _
end New
end Jvm.RoadKit
namespace Jvm.Pilot.@@N@@
open Jvm Jvm.ClassFile Sem Op Lib Jvm.Free Jvm.Stand Jvm.LawKit Jvm.RoadKit Bundle Jvm.Pilot.@@N@@.Jvm.D
section own_plain
open Jvm.FP.Core
theorem own_wuniq {i j : Int} {d : Datum} (h : Whole i d) (h' : Whole j d) : i = j := by
  cases d with
  | nan => exact h.elim
  | inf s => exact h.elim
  | fin s c q =>
    have e : i * ((2 ^ (-q).toNat : Nat) : Int) = j * ((2 ^ (-q).toNat : Nat) : Int) := Eq.trans (Eq.symm h) h'
    have p2 : ((2 ^ (-q).toNat : Nat) : Int) ≠ 0 := by have := Nat.two_pow_pos (-q).toNat; omega
    exact Int.eq_of_mul_eq_mul_right p2 e
/-- a whole number of 54 to 65 digits, rounded: a whole number within 2048 of it -/
theorem own_big (s : Bool) {n : Nat} (h1 : 2 ^ 53 ≤ n) (h2 : n < 2 ^ 65) : ∃ c q : Nat, roundRatio b64 s n 1 0 = .fin s c (q : Int) ∧ c * 2 ^ q ≤ n + 2048 ∧ n ≤ c * 2 ^ q + 2048 := by
  have n0 : n ≠ 0 := by omega
  have l1 : 2 ^ n.log2 ≤ n := Nat.log2_self_le n0
  have l2 : n < 2 ^ (n.log2 + 1) := Nat.lt_log2_self
  have l3 : n.log2 < 65 := (Nat.pow_lt_pow_iff_right (by decide : 1 < 2)).mp (Nat.lt_of_le_of_lt l1 h2)
  have l4 : 53 < n.log2 + 1 := (Nat.pow_lt_pow_iff_right (by decide : 1 < 2)).mp (Nat.lt_of_le_of_lt h1 l2)
  have e1 : leading n 1 = (n.log2 : Int) := by
    unfold leading
    rw [show (1 : Nat).log2 = 0 from by decide]
    simp only [Int.natCast_zero, Int.sub_zero, Int.toNat_natCast]
    rw [if_pos (by rw [show (-(n.log2 : Int)).toNat = 0 by omega, Nat.pow_zero, Nat.mul_one, Nat.one_mul]; exact l1)]
  generalize n.log2 = L at *
  obtain ⟨q, rfl⟩ : ∃ q, L = q + 52 := ⟨L - 52, by omega⟩
  have e2 : quantum b64 n 1 0 = (q : Int) := by
    unfold quantum
    rw [e1, qmin_b64]
    show max (-1074 : Int) (((q + 52 : Nat) : Int) + 0 - (((53 : Nat) : Int) - 1)) = _
    omega
  have e3 : roundRatio b64 s n 1 0 = settle b64 s (nearest n (2 ^ q)) (q : Int) := by
    unfold roundRatio roundAt
    rw [if_neg n0, e2]
    unfold unitsNum unitsDen
    rw [show ((0 : Int) - (q : Int)).toNat = 0 by omega, show ((q : Int) - 0).toNat = q by omega, Nat.pow_zero, Nat.mul_one, Nat.one_mul]
  have p0 : 0 < 2 ^ q := Nat.two_pow_pos q
  obtain ⟨s1, s2, -⟩ := nearest_spec n (2 ^ q) p0
  have s3 : nearest n (2 ^ q) ≤ 2 ^ 53 := nearest_le p0 (by
    rw [← Nat.pow_add]; rw [show 53 + q = q + 52 + 1 by omega]; exact Nat.le_of_lt l2)
  have pq : 2 ^ q ≤ 4096 := Nat.le_trans (Nat.pow_le_pow_right (by decide) (show q ≤ 12 by omega)) (by decide)
  have hqm : ((q : Int) : Int) + 1 ≤ b64.qmax := by
    have : b64.qmax = 971 := by decide
    omega
  generalize nearest n (2 ^ q) = c at *
  have b1 : c * 2 ^ q ≤ n + 2048 ∧ n ≤ c * 2 ^ q + 2048 := by
    rw [Nat.mul_assoc] at s2
    rw [Nat.add_mul, Nat.mul_assoc, Nat.one_mul] at s1
    generalize c * 2 ^ q = z at *
    generalize 2 ^ q = w at *
    omega
  by_cases hc : c < 2 ^ 53
  · refine ⟨c, q, ?_, b1⟩
    rw [e3]
    unfold settle bound
    rw [if_pos (show c < 2 ^ b64.p from hc), if_pos (by omega)]
  · obtain rfl : c = 2 ^ 53 := by omega
    refine ⟨2 ^ 52, q + 1, ?_, ?_⟩
    · rw [e3]
      unfold settle bound
      rw [if_neg (show ¬ 2 ^ 53 < 2 ^ b64.p from Nat.lt_irrefl _), if_pos hqm]
      rfl
    · rw [show 2 ^ 52 * 2 ^ (q + 1) = 2 ^ 53 * 2 ^ q by rw [Nat.pow_succ 2 q, Nat.pow_succ 2 52]; ac_rfl]; exact b1
def own_Rd (z r : Int) : Prop := (∀ d, Whole z d → Whole r (round b64 d)) ∧ (r - z ≤ 2048 ∧ z - r ≤ 2048) ∧ (∀ a, DInt z a → r = z) ∧ (-9007199254740992 ≤ z → z ≤ 9007199254740992 → r = z)
theorem own_rnd (z : Int) (h1 : -36893488147419103232 < z) (h2 : z < 36893488147419103232) : ∃ r, own_Rd z r := by
  by_cases hs : z.natAbs ≤ 2 ^ 53
  · exact ⟨z, fun d hd => whole_round good_b64 wide_b64 hs hd, ⟨by omega, by omega⟩, fun _ _ => rfl, fun _ _ => rfl⟩
  obtain ⟨c, q, e, b1, b2⟩ := own_big (decide (z < 0)) (n := z.natAbs) (by omega) (by omega)
  have hw : ∀ d, Whole z d → Whole (signed (decide (z < 0)) (c * 2 ^ q)) (round b64 d) := by
    intro d hd
    cases d with
    | nan => exact hd.elim
    | inf s => exact hd.elim
    | fin s c' q' =>
      rw [round_whole hd, whole_sign hd (by omega), e]
      show signed _ (c * 2 ^ (q : Int).toNat) = _ * ((2 ^ (-(q : Int)).toNat : Nat) : Int)
      rw [Int.toNat_natCast, show (-(q : Int)).toNat = 0 by omega, Nat.pow_zero, Int.natCast_one, Int.mul_one]
  refine ⟨signed (decide (z < 0)) (c * 2 ^ q), hw, ?_, fun a ha => ?_, fun _ _ => by omega⟩
  · generalize c * 2 ^ q = w at *
    by_cases hz : z < 0
    · simp only [hz, decide_true, signed, if_true]; omega
    · simp only [hz, decide_false, signed]; simp; omega
  · have h3 := hw _ ha
    rw [round_of_fits good_b64 (val64_fits a)] at h3
    exact own_wuniq h3 ha
theorem own_dadd {i j r : Int} {a b : UInt64} (ha : DInt i a) (hb : DInt j b) (h : own_Rd (i + j) r) : DInt r (FP.dadd a b) := by
  show Whole r (val64 (Jvm.FP.Core.dadd a b)); rw [val64_dadd]; exact h.1 _ (whole_sum ha hb)
theorem own_dsub {i j r : Int} {a b : UInt64} (ha : DInt i a) (hb : DInt j b) (h : own_Rd (i - j) r) : DInt r (FP.dsub a b) := by
  show Whole r (val64 (Jvm.FP.Core.dsub a b)); rw [val64_dsub]; exact h.1 _ (whole_sum ha (whole_negate hb))
theorem own_l2d {a : Int64} {r : Int} (h : own_Rd a.toInt r) : DInt r (FP.l2d a) := by
  show Whole r (val64 (Jvm.FP.Core.l2d a)); rw [val64_l2d]; exact h.1 _ (whole_ofInt _)
theorem own_nn {i : Int} {a : UInt64} (h : DInt i a) : Jvm.Free.Fl.NoNaN64 a := Jvm.Free.Fl.val64_no.mpr (Whole.ne_nan h)
theorem own_eq {i : Int} {a b : UInt64} (ha : DInt i a) (hb : DInt i b) : cmpValue (FP.dcmp a b) .l = (0 : Int32) := by
  rw [show FP.dcmp a b = _ from dcmp_int ha hb, compare_self_int]; rfl
theorem own_d0 : DInt 0 0 := by show Whole 0 (val64 0); rw [val64_zero]; show signed false (0 * _) = 0 * _; rw [Nat.zero_mul, Int.zero_mul]; rfl
/-- what add writes: high, low -/
def own_H (hi v : UInt64) : UInt64 := FP.dadd hi v
def own_B (hi v : UInt64) : UInt64 := FP.dsub (FP.dadd hi v) hi
def own_L (hi lo v : UInt64) : UInt64 := FP.dadd lo (FP.dadd (FP.dsub hi (FP.dsub (FP.dadd hi v) (FP.dsub (FP.dadd hi v) hi))) (FP.dsub v (FP.dsub (FP.dadd hi v) hi)))
def own_Ok (hi lo v : UInt64) : Prop := Jvm.Free.Fl.NoNaN64 (FP.dadd hi v) ∧ Jvm.Free.Fl.NoNaN64 (FP.dsub (FP.dadd hi v) hi) ∧ Jvm.Free.Fl.NoNaN64 (FP.dsub (FP.dadd hi v) (FP.dsub (FP.dadd hi v) hi)) ∧ Jvm.Free.Fl.NoNaN64 (FP.dsub hi (FP.dsub (FP.dadd hi v) (FP.dsub (FP.dadd hi v) hi))) ∧ Jvm.Free.Fl.NoNaN64 (FP.dsub v (FP.dsub (FP.dadd hi v) hi)) ∧ Jvm.Free.Fl.NoNaN64 (FP.dadd (FP.dsub hi (FP.dsub (FP.dadd hi v) (FP.dsub (FP.dadd hi v) hi))) (FP.dsub v (FP.dsub (FP.dadd hi v) hi))) ∧ Jvm.Free.Fl.NoNaN64 (own_L hi lo v)
theorem own_gen {hi lo v : UInt64} {i j k h b s3 s4 s5 s6 l : Int} (Hi : DInt i hi) (Hl : DInt j lo) (Hv : DInt k v) (r1 : own_Rd (i + k) h) (r2 : own_Rd (h - i) b) (r3 : own_Rd (h - b) s3) (r4 : own_Rd (i - s3) s4) (r5 : own_Rd (k - b) s5) (r6 : own_Rd (s4 + s5) s6) (r7 : own_Rd (j + s6) l) :
    own_Ok hi lo v ∧ DInt h (own_H hi v) ∧ DInt l (own_L hi lo v) := by
  have d1 := own_dadd Hi Hv r1
  have d2 := own_dsub d1 Hi r2
  have d3 := own_dsub d1 d2 r3
  have d4 := own_dsub Hi d3 r4
  have d5 := own_dsub Hv d2 r5
  have d6 := own_dadd d4 d5 r6
  have d7 := own_dadd Hl d6 r7
  exact ⟨⟨own_nn d1, own_nn d2, own_nn d3, own_nn d4, own_nn d5, own_nn d6, own_nn d7⟩, d1, d7⟩
theorem own_sm (z : Int) (h1 : -9007199254740992 ≤ z) (h2 : z ≤ 9007199254740992) : own_Rd z z := by
  obtain ⟨r, h⟩ := own_rnd z (by omega) (by omega)
  obtain rfl := h.2.2.2 h1 h2
  exact h
theorem own_rep {z : Int} {a : UInt64} (h : DInt z a) (h1 : -36893488147419103232 < z) (h2 : z < 36893488147419103232) : own_Rd z z := by
  obtain ⟨r, hr⟩ := own_rnd z h1 h2
  obtain rfl := hr.2.2.1 a h
  exact hr
theorem own_cast {z z' r : Int} (h : own_Rd z r) (e : z' = z) : own_Rd z' r := e ▸ h
/-- the first add, to an empty sum -/
theorem own_add1 {v : UInt64} {U : Int} (Hv : DInt U v) (h1 : -18446744073709551616 < U) (h2 : U < 18446744073709551616) : own_Ok 0 0 v ∧ DInt U (own_H 0 v) ∧ DInt 0 (own_L 0 0 v) := by
  have r := own_rep Hv (by omega) (by omega)
  have z := own_sm 0 (by omega) (by omega)
  exact own_gen own_d0 own_d0 Hv (own_cast r (by omega)) (own_cast r (by omega)) (own_cast z (by omega)) (own_cast z (by omega)) (own_cast z (by omega)) (own_cast z (by omega)) (own_cast z (by omega))
/-- the second: the long first -/
theorem own_add2A {hi lo v : UInt64} {X Y h : Int} (Hi : DInt X hi) (Hl : DInt 0 lo) (Hv : DInt Y v) (h1 : -9223372036854777857 < X) (h2 : X < 9223372036854777857) (h3 : -2147483649 < Y) (h4 : Y < 2147483649) (r1 : own_Rd (X + Y) h) :
    own_Ok hi lo v ∧ DInt h (own_H hi v) ∧ DInt (X + Y - h) (own_L hi lo v) := by
  have b := r1.2.1
  have z := own_sm 0 (by omega) (by omega)
  have rX := own_rep Hi (by omega) (by omega)
  have e := own_sm (X + Y - h) (by omega) (by omega)
  exact own_gen Hi Hl Hv r1 (own_sm (h - X) (by omega) (by omega)) (own_cast rX (by omega)) (own_cast z (by omega)) (own_cast e (by omega)) (own_cast e (by omega)) (own_cast e (by omega))
/-- the second: the int first -/
theorem own_add2B {hi lo v : UInt64} {X Y h : Int} (Hi : DInt Y hi) (Hl : DInt 0 lo) (Hv : DInt X v) (h1 : -9223372036854777857 < X) (h2 : X < 9223372036854777857) (h3 : -2147483649 < Y) (h4 : Y < 2147483649) (r1 : own_Rd (X + Y) h) :
    own_Ok hi lo v ∧ DInt h (own_H hi v) ∧ DInt (X + Y - h) (own_L hi lo v) := by
  have b := r1.2.1
  obtain ⟨B, r2⟩ := own_rnd (h - Y) (by omega) (by omega)
  have b2 := r2.2.1
  have e := own_sm (X + Y - h) (by omega) (by omega)
  exact own_gen Hi Hl Hv (own_cast r1 (by omega)) r2 (own_sm (h - B) (by omega) (by omega)) (own_sm (Y - (h - B)) (by omega) (by omega)) (own_sm (X - B) (by omega) (by omega)) (own_cast e (by omega)) (own_cast e (by omega))
/-- the third: the long is taken away again -/
theorem own_add3 {hi lo v : UInt64} {X Y h : Int} (Hi : DInt h hi) (Hl : DInt (X + Y - h) lo) (Hv : DInt (-X) v) (h1 : -9223372036854777857 < X) (h2 : X < 9223372036854777857) (h3 : -2147483649 < Y) (h4 : Y < 2147483649) (r1 : own_Rd (X + Y) h) :
    own_Ok hi lo v ∧ DInt (h - X) (own_H hi v) ∧ DInt (X + Y - h) (own_L hi lo v) := by
  have b := r1.2.1
  have z := own_sm 0 (by omega) (by omega)
  have rX := own_rep Hv (by omega) (by omega)
  have rh := own_rep Hi (by omega) (by omega)
  have e := own_sm (X + Y - h) (by omega) (by omega)
  have t := own_sm (h - X) (by omega) (by omega)
  exact own_gen Hi Hl Hv (own_cast t (by omega)) (own_cast rX (by omega)) (own_cast rh (by omega)) (own_cast z (by omega)) (own_cast z (by omega)) (own_cast z (by omega)) (own_cast e (by omega))
end own_plain
section own_runs
open Jvm.FP.Core
def own_Run (u v x y : UInt64) : Prop := ∃ H1 L1 H2 L2 H3 L3 V1 V2 V3 : UInt64,
  (FP.dadd 0 u = H1 ∧ own_L 0 0 u = L1 ∧ own_Ok 0 0 u) ∧ (FP.dadd H1 L1 = V1 ∧ Jvm.Free.Fl.NoNaN64 (FP.dadd H1 L1) ∧ cmpValue (FP.dcmp V1 u) .l = (0 : Int32)) ∧
  (FP.dadd H1 v = H2 ∧ own_L H1 L1 v = L2 ∧ own_Ok H1 L1 v) ∧ (FP.dadd H2 L2 = V2 ∧ Jvm.Free.Fl.NoNaN64 (FP.dadd H2 L2) ∧ cmpValue (FP.dcmp V2 (FP.dadd x y)) .l = (0 : Int32)) ∧
  (FP.dadd H2 (FP.dneg x) = H3 ∧ own_L H2 L2 (FP.dneg x) = L3 ∧ own_Ok H2 L2 (FP.dneg x)) ∧ (FP.dadd H3 L3 = V3 ∧ Jvm.Free.Fl.NoNaN64 (FP.dadd H3 L3) ∧ cmpValue (FP.dcmp V3 y) .l = (0 : Int32)) ∧
  Jvm.Free.Fl.NoNaN64 (FP.dadd x y)
theorem own_two {u v x y : UInt64} {X Y U h : Int} (dx : DInt X x) (dy : DInt Y y) (du : DInt U u) (h1 : -9223372036854777857 < X) (h2 : X < 9223372036854777857) (h3 : -2147483649 < Y) (h4 : Y < 2147483649) (u1 : -18446744073709551616 < U) (u2 : U < 18446744073709551616) (rh : own_Rd (X + Y) h)
    (hs : ∀ hi lo, DInt U hi → DInt 0 lo → own_Ok hi lo v ∧ DInt h (own_H hi v) ∧ DInt (X + Y - h) (own_L hi lo v)) : own_Run u v x y := by
  obtain ⟨o1, a1, b1⟩ := own_add1 du u1 u2
  obtain ⟨o2, a2, b2⟩ := hs _ _ a1 b1
  have dn : DInt (-X) (FP.dneg x) := by show Whole (-X) (val64 (FP.dneg x)); rw [Jvm.FP.val64_dneg]; exact whole_negate dx
  obtain ⟨o3, a3, b3⟩ := own_add3 a2 b2 dn h1 h2 h3 h4 rh
  have w1 := own_dadd a1 b1 (own_cast (own_rep du (by omega) (by omega)) (by omega))
  have w2 := own_dadd a2 b2 (own_cast rh (by omega))
  have w3 := own_dadd a3 b3 (own_cast (own_sm Y (by omega) (by omega)) (by omega))
  have w4 := own_dadd dx dy rh
  exact ⟨_, _, _, _, _, _, _, _, _, ⟨rfl, rfl, o1⟩, ⟨rfl, own_nn w1, own_eq w1 du⟩, ⟨rfl, rfl, o2⟩, ⟨rfl, own_nn w2, own_eq w2 w4⟩, ⟨rfl, rfl, o3⟩, ⟨rfl, own_nn w3, own_eq w3 dy⟩, own_nn w4⟩
theorem own_runs (a : Int64) (b : Int32) : own_Run (FP.l2d a) (FP.i2d b) (FP.l2d a) (FP.i2d b) ∧ own_Run (FP.i2d b) (FP.l2d a) (FP.l2d a) (FP.i2d b) := by
  have a1 := a.toInt_lt
  have a2 := a.le_toInt
  have b1 := b.toInt_lt
  have b2 := b.le_toInt
  obtain ⟨X, rX⟩ := own_rnd a.toInt (by omega) (by omega)
  have bX := rX.2.1
  have dx : DInt X (FP.l2d a) := own_l2d rX
  have dy : DInt b.toInt (FP.i2d b) := i2d_int b
  obtain ⟨h, rh⟩ := own_rnd (X + b.toInt) (by omega) (by omega)
  exact ⟨own_two dx dy dx (by omega) (by omega) (by omega) (by omega) (by omega) (by omega) rh (fun hi lo p q => own_add2A p q dy (by omega) (by omega) (by omega) (by omega) rh), own_two dx dy dy (by omega) (by omega) (by omega) (by omega) (by omega) (by omega) rh (fun hi lo p q => own_add2B p q dx (by omega) (by omega) (by omega) (by omega) rh)⟩
end own_runs
theorem d1_0 : decode prog_10_method_1_code 0 = .ok (.aload_n 0, 1) := by decide +kernel
theorem d1_1 : decode prog_10_method_1_code 1 = .ok (.invokespecial 1, 3) := by decide +kernel
theorem d1_4 : decode prog_10_method_1_code 4 = .ok (.return_, 1) := by decide +kernel
theorem pn_1 : plainName "com/example/gauge/gauge/capital/CompensatedSum" = true := by first | (simp [plainName, overriddenIn]; done) | decide +kernel
theorem ef_1 (m : MethodId) (x0 : Addr) : entryFrame m #[(.ref x0)] 1 = mkF m 0 #[.val (.ref x0)] [] := by first | (simp [entryFrame, mkF, argsToLocals, Value.category]; done) | rfl
def Q1 (Z : State) (a1 : Addr) (h0 : Heap) (n0 : Nat) (v : Option Value) (h : Heap) (L : List Loc) : Prop := v = none ∧ Fr n0 L ∧ h = h0
set_option maxRecDepth 65536 in
set_option maxHeartbeats 40000000 in
theorem rm1 (l : Launch) (Z : State) (a0 : Array Value) (hw : ∀ d ∈ tables_1, d.before a0 Z = true) (ws : List Jvm.Cond) (a1 : Addr) (h0 : Heap) (n0 : Nat) (Z0 : n0 ≤ h0.size) :
    MetFree l (⟨"com/example/gauge/gauge/capital/CompensatedSum", "<init>", "()V"⟩ : MethodName) (head1 (Jvm.Cond.code (⟨"com/example/gauge/gauge/capital/CompensatedSum", "<init>", "()V"⟩ : MethodName) prog_10_method_1_code 1 none :: ws) ({ frames := 1, cells := 0, slots := 0, locals := 12 } : Room)) (fun a U => a = #[(.ref a1)] ∧ Z.Warmed39 U.vm ∧ U.heap = h0) (fun _ _ _ _ _ => True) (fun _ U o U' => ∃ v L, o = .returned v ∧ Q1 Z a1 h0 n0 v U'.heap L ∧ FrameEnd U o U' L ({ frames := 1, cells := 0, slots := 0, locals := 12 } : Room).cells ({ frames := 1, cells := 0, slots := 0, locals := 12 } : Room).slots) := by
  refine MetFree.of_bodySF (plainFor_of_name pn_1) hisR ?_
  intro p e s m args below meth c s₁ Bd hml0 hP hK
  obtain ⟨rfl, hZ, hh⟩ := hP
  have hx := Bd.exec
  have hby := Bd.bytes
  have hml : c.maxLocals = 1 := hml0
  have hown : s.vm.findClass "com/example/gauge/gauge/capital/CompensatedSum" = some m.cls := findClass_of_methodNamed Bd.named
  have hnm := (name_of_methodNamed Bd.named Bd.method).1
  have X0 : Stand p l e ({ frames := 1, cells := 0, slots := 0, locals := 12 } : Room) s m #[(.ref a1)] below meth c s₁ [] 0 0 := Stand.of_body Bd
  have e0 : s₁.heap = h0 := by rw [← hh, Bd.state]; rfl
  have N0 := Fr.nil n0
  have pre0 : ∀ t, Steps p.tables e below (s₁.setTop (mkF m 0 #[.val (.ref a1)] [])) t → Steps p.tables e below (s₁.setTop (entryFrame m #[(.ref a1)] 1)) t := fun t k => castTop (ef_1 m a1) k
  obtain ⟨T2, X2, e2, st2⟩ := initO X0 hx hZ hown (hw _ (List.mem_of_getElem? (i := 6) rfl)) (hw _ (List.mem_of_getElem? (i := 7) rfl)) (hw _ (List.mem_of_getElem? (i := 8) rfl)) e0 (g := (mkF m 1 #[.val (.ref a1)] [(.ref a1)])) rfl (by rw [hml]; rfl) rfl (hb hby d1_1) (by decide) (W := 0) (by show 2 * 0 + _ ≤ _; exact Nat.le_of_eq rfl) (by decide)
  obtain ⟨fs, hr, hrun, hended, hW, hsame⟩ := X2.leave (v := none) (fun _ => rfl)
  refine ⟨_, _, pre0 _ ?_, hrun, hended, _, _, rfl, ?_, ⟨_, rfl⟩, hW, hsame.mono (by decide) (by decide)⟩
  · show Steps p.tables e below (s₁.setTop (mkF m 0 #[.val (.ref a1)] [])) _
    refine XS.aloadN X0.here hx rfl (hb hby d1_0) rfl rfl ?_
    show Steps p.tables e below (s₁.setTop (mkF m 1 #[.val (.ref a1)] [(.ref a1)])) _
    refine st2 _ ?_
    show Steps p.tables e below (T2.setTop (mkF m 4 #[.val (.ref a1)] [])) _
    exact X2.returnOut hx Bd.returns (hb hby d1_4) hr
  · show Q1 Z a1 h0 n0 _ T2.heap _
    rw [e2]
    exact ⟨rfl, N0, rfl⟩
theorem d3_0 : decode prog_10_method_4_code 0 = .ok (.aload_n 0, 1) := by decide +kernel
theorem d3_1 : decode prog_10_method_4_code 1 = .ok (.getfield 23, 3) := by decide +kernel
theorem d3_4 : decode prog_10_method_4_code 4 = .ok (.dload_n 1, 1) := by decide +kernel
theorem d3_5 : decode prog_10_method_4_code 5 = .ok (.dadd, 1) := by decide +kernel
theorem d3_6 : decode prog_10_method_4_code 6 = .ok (.dstore_n 3, 1) := by decide +kernel
theorem d3_7 : decode prog_10_method_4_code 7 = .ok (.dload_n 3, 1) := by decide +kernel
theorem d3_8 : decode prog_10_method_4_code 8 = .ok (.aload_n 0, 1) := by decide +kernel
theorem d3_9 : decode prog_10_method_4_code 9 = .ok (.getfield 23, 3) := by decide +kernel
theorem d3_12 : decode prog_10_method_4_code 12 = .ok (.dsub, 1) := by decide +kernel
theorem d3_13 : decode prog_10_method_4_code 13 = .ok (.dstore 5, 2) := by decide +kernel
theorem d3_15 : decode prog_10_method_4_code 15 = .ok (.aload_n 0, 1) := by decide +kernel
theorem d3_16 : decode prog_10_method_4_code 16 = .ok (.dup, 1) := by decide +kernel
theorem d3_17 : decode prog_10_method_4_code 17 = .ok (.getfield 19, 3) := by decide +kernel
theorem d3_20 : decode prog_10_method_4_code 20 = .ok (.aload_n 0, 1) := by decide +kernel
theorem d3_21 : decode prog_10_method_4_code 21 = .ok (.getfield 23, 3) := by decide +kernel
theorem d3_24 : decode prog_10_method_4_code 24 = .ok (.dload_n 3, 1) := by decide +kernel
theorem d3_25 : decode prog_10_method_4_code 25 = .ok (.dload 5, 2) := by decide +kernel
theorem d3_27 : decode prog_10_method_4_code 27 = .ok (.dsub, 1) := by decide +kernel
theorem d3_28 : decode prog_10_method_4_code 28 = .ok (.dsub, 1) := by decide +kernel
theorem d3_29 : decode prog_10_method_4_code 29 = .ok (.dload_n 1, 1) := by decide +kernel
theorem d3_30 : decode prog_10_method_4_code 30 = .ok (.dload 5, 2) := by decide +kernel
theorem d3_32 : decode prog_10_method_4_code 32 = .ok (.dsub, 1) := by decide +kernel
theorem d3_33 : decode prog_10_method_4_code 33 = .ok (.dadd, 1) := by decide +kernel
theorem d3_34 : decode prog_10_method_4_code 34 = .ok (.dadd, 1) := by decide +kernel
theorem d3_35 : decode prog_10_method_4_code 35 = .ok (.putfield 19, 3) := by decide +kernel
theorem d3_38 : decode prog_10_method_4_code 38 = .ok (.aload_n 0, 1) := by decide +kernel
theorem d3_39 : decode prog_10_method_4_code 39 = .ok (.dload_n 3, 1) := by decide +kernel
theorem d3_40 : decode prog_10_method_4_code 40 = .ok (.putfield 23, 3) := by decide +kernel
theorem d3_43 : decode prog_10_method_4_code 43 = .ok (.return_, 1) := by decide +kernel
theorem pn_3 : plainName "com/example/gauge/gauge/capital/CompensatedSum" = true := by first | (simp [plainName, overriddenIn]; done) | decide +kernel
theorem ef_3 (m : MethodId) (x0 : Addr) (x1 : UInt64) : entryFrame m #[(.ref x0), (.double x1)] 7 = mkF m 0 #[.val (.ref x0), .val (.double x1), .second, .unset, .unset, .unset, .unset] [] := by first | (simp [entryFrame, mkF, argsToLocals, Value.category]; done) | rfl
def Q3 (Z : State) (a1 : Addr) (u2 : UInt64) (w3 : UInt64) (w6 : UInt64) (h0 : Heap) (n0 : Nat) (v : Option Value) (h : Heap) (L : List Loc) : Prop := v = none ∧ Fr n0 L ∧ Keep h0 h [a1] ∧ Exa Z h a1 "com/example/gauge/gauge/capital/CompensatedSum" ∧ Fld Z h a1 "com/example/gauge/gauge/capital/CompensatedSum" "high" "D" (.double (FP.dadd w3 u2)) ∧ Fld Z h a1 "com/example/gauge/gauge/capital/CompensatedSum" "low" "D" (.double (FP.dadd w6 (FP.dadd (FP.dsub w3 (FP.dsub (FP.dadd w3 u2) (FP.dsub (FP.dadd w3 u2) w3))) (FP.dsub u2 (FP.dsub (FP.dadd w3 u2) w3)))))
set_option maxRecDepth 65536 in
set_option maxHeartbeats 40000000 in
theorem rm3 (l : Launch) (Z : State) (a0 : Array Value) (hw : ∀ d ∈ tables_1, d.before a0 Z = true) (ws : List Jvm.Cond) (a1 : Addr) (u2 : UInt64) (w3 : UInt64) (w6 : UInt64) (h0 : Heap) (n0 : Nat) (Z0 : n0 ≤ h0.size) (F_high_a1 : Fld Z h0 a1 "com/example/gauge/gauge/capital/CompensatedSum" "high" "D" (.double w3)) (F_low_a1 : Fld Z h0 a1 "com/example/gauge/gauge/capital/CompensatedSum" "low" "D" (.double w6)) (E_a1 : Exa Z h0 a1 "com/example/gauge/gauge/capital/CompensatedSum") (g_a1 : n0 ≤ a1) (hnn5 : Jvm.Free.Fl.NoNaN64 (FP.dadd w3 u2)) (hnn12 : Jvm.Free.Fl.NoNaN64 (FP.dsub (FP.dadd w3 u2) w3)) (hnn27 : Jvm.Free.Fl.NoNaN64 (FP.dsub (FP.dadd w3 u2) (FP.dsub (FP.dadd w3 u2) w3))) (hnn28 : Jvm.Free.Fl.NoNaN64 (FP.dsub w3 (FP.dsub (FP.dadd w3 u2) (FP.dsub (FP.dadd w3 u2) w3)))) (hnn32 : Jvm.Free.Fl.NoNaN64 (FP.dsub u2 (FP.dsub (FP.dadd w3 u2) w3))) (hnn33 : Jvm.Free.Fl.NoNaN64 (FP.dadd (FP.dsub w3 (FP.dsub (FP.dadd w3 u2) (FP.dsub (FP.dadd w3 u2) w3))) (FP.dsub u2 (FP.dsub (FP.dadd w3 u2) w3)))) (hnn34 : Jvm.Free.Fl.NoNaN64 (FP.dadd w6 (FP.dadd (FP.dsub w3 (FP.dsub (FP.dadd w3 u2) (FP.dsub (FP.dadd w3 u2) w3))) (FP.dsub u2 (FP.dsub (FP.dadd w3 u2) w3))))) :
    MetFree l (⟨"com/example/gauge/gauge/capital/CompensatedSum", "add", "(D)V"⟩ : MethodName) (head1 (Jvm.Cond.code (⟨"com/example/gauge/gauge/capital/CompensatedSum", "add", "(D)V"⟩ : MethodName) prog_10_method_4_code 7 none :: ws) ({ frames := 0, cells := 0, slots := 0, locals := 0 } : Room)) (fun a U => a = #[(.ref a1), (.double u2)] ∧ Z.Warmed39 U.vm ∧ U.heap = h0) (fun _ _ _ _ _ => True) (fun _ U o U' => ∃ v L, o = .returned v ∧ Q3 Z a1 u2 w3 w6 h0 n0 v U'.heap L ∧ FrameEnd U o U' L ({ frames := 0, cells := 0, slots := 0, locals := 0 } : Room).cells ({ frames := 0, cells := 0, slots := 0, locals := 0 } : Room).slots) := by
  refine MetFree.of_bodySF (plainFor_of_name pn_3) hisR ?_
  intro p e s m args below meth c s₁ Bd hml0 hP hK
  obtain ⟨rfl, hZ, hh⟩ := hP
  have hx := Bd.exec
  have hby := Bd.bytes
  have hml : c.maxLocals = 7 := hml0
  have hown : s.vm.findClass "com/example/gauge/gauge/capital/CompensatedSum" = some m.cls := findClass_of_methodNamed Bd.named
  have hnm := (name_of_methodNamed Bd.named Bd.method).1
  have X0 : Stand p l e ({ frames := 0, cells := 0, slots := 0, locals := 0 } : Room) s m #[(.ref a1), (.double u2)] below meth c s₁ [] 0 0 := Stand.of_body Bd
  have e0 : s₁.heap = h0 := by rw [← hh, Bd.state]; rfl
  have N0 := Fr.nil n0
  have pre0 : ∀ t, Steps p.tables e below (s₁.setTop (mkF m 0 #[.val (.ref a1), .val (.double u2), .second, .unset, .unset, .unset, .unset] [])) t → Steps p.tables e below (s₁.setTop (entryFrame m #[(.ref a1), (.double u2)] 7)) t := fun t k => castTop (ef_3 m a1 u2) k
  obtain ⟨T4, X4, e4, st4⟩ := getF X0 hx hZ hown (host := "") (Or.inl (hw _ (List.mem_of_getElem? (i := 14) rfl))) Via.refl e0 F_high_a1 (g := (mkF m 1 #[.val (.ref a1), .val (.double u2), .second, .unset, .unset, .unset, .unset] [(.ref a1)])) rfl rfl (hb hby d3_1)
  obtain ⟨T5, X5, e5, st5⟩ := getF X4 hx hZ hown (host := "") (Or.inl (hw _ (List.mem_of_getElem? (i := 14) rfl))) Via.refl e4 F_high_a1 (g := (mkF m 9 #[.val (.ref a1), .val (.double u2), .second, .val (.double (FP.dadd w3 u2)), .second, .unset, .unset] [(.ref a1), (.double (FP.dadd w3 u2))])) rfl rfl (hb hby d3_9)
  obtain ⟨T7, X7, e7, st7⟩ := getF X5 hx hZ hown (host := "") (Or.inl (hw _ (List.mem_of_getElem? (i := 16) rfl))) Via.refl e5 F_low_a1 (g := (mkF m 17 #[.val (.ref a1), .val (.double u2), .second, .val (.double (FP.dadd w3 u2)), .second, .val (.double (FP.dsub (FP.dadd w3 u2) w3)), .second] [(.ref a1), (.ref a1)])) rfl rfl (hb hby d3_17)
  obtain ⟨T8, X8, e8, st8⟩ := getF X7 hx hZ hown (host := "") (Or.inl (hw _ (List.mem_of_getElem? (i := 14) rfl))) Via.refl e7 F_high_a1 (g := (mkF m 21 #[.val (.ref a1), .val (.double u2), .second, .val (.double (FP.dadd w3 u2)), .second, .val (.double (FP.dsub (FP.dadd w3 u2) w3)), .second] [(.ref a1), (.double w6), (.ref a1)])) rfl rfl (hb hby d3_21)
  obtain ⟨T9, h9, X9, e9, W9, st9⟩ := putF X8 hx hZ hown (host := "") (Or.inl (hw _ (List.mem_of_getElem? (i := 16) rfl))) Via.refl e8 F_low_a1 E_a1 (Or.inl (hw _ (List.mem_of_getElem? (i := 17) rfl))) (hw _ (List.mem_of_getElem? (i := 1) rfl)) (ty := .double) (by decide) rfl rfl (g := (mkF m 35 #[.val (.ref a1), .val (.double u2), .second, .val (.double (FP.dadd w3 u2)), .second, .val (.double (FP.dsub (FP.dadd w3 u2) w3)), .second] [(.double (FP.dadd w6 (FP.dadd (FP.dsub w3 (FP.dsub (FP.dadd w3 u2) (FP.dsub (FP.dadd w3 u2) w3))) (FP.dsub u2 (FP.dsub (FP.dadd w3 u2) w3))))), (.ref a1)])) rfl rfl (hb hby d3_35)
  have Fw9 := F_low_a1.same W9
  have K9 : Keep h0 h9 [a1] := (Keep.refl h0 [a1]).wr W9 (Or.inl (List.mem_of_getElem? (i := 0) rfl))
  have N9 := Fr.snoc X9 N0 g_a1
  obtain ⟨T10, h10, X10, e10, W10, st10⟩ := putF X9 hx hZ hown (host := "") (Or.inl (hw _ (List.mem_of_getElem? (i := 14) rfl))) Via.refl e9 (F_high_a1.other W9 (Or.inr (slot_ne (Or.inl (hw _ (List.mem_of_getElem? (i := 15) rfl))) (Or.inl (hw _ (List.mem_of_getElem? (i := 17) rfl))) (by decide) (t := .double) (t' := .double) (by decide) (by decide)))) (E_a1.wr W9) (Or.inl (hw _ (List.mem_of_getElem? (i := 15) rfl))) (hw _ (List.mem_of_getElem? (i := 1) rfl)) (ty := .double) (by decide) rfl rfl (g := (mkF m 40 #[.val (.ref a1), .val (.double u2), .second, .val (.double (FP.dadd w3 u2)), .second, .val (.double (FP.dsub (FP.dadd w3 u2) w3)), .second] [(.double (FP.dadd w3 u2)), (.ref a1)])) rfl rfl (hb hby d3_40)
  have Fw10 := (F_high_a1.other W9 (Or.inr (slot_ne (Or.inl (hw _ (List.mem_of_getElem? (i := 15) rfl))) (Or.inl (hw _ (List.mem_of_getElem? (i := 17) rfl))) (by decide) (t := .double) (t' := .double) (by decide) (by decide)))).same W10
  have K10 : Keep h0 h10 [a1] := K9.wr W10 (Or.inl (List.mem_of_getElem? (i := 0) rfl))
  have N10 := Fr.snoc X10 N9 g_a1
  obtain ⟨fs, hr, hrun, hended, hW, hsame⟩ := X10.leave (v := none) (fun _ => rfl)
  refine ⟨_, _, pre0 _ ?_, hrun, hended, _, _, rfl, ?_, ⟨_, rfl⟩, hW, hsame.mono (by decide) (by decide)⟩
  · show Steps p.tables e below (s₁.setTop (mkF m 0 #[.val (.ref a1), .val (.double u2), .second, .unset, .unset, .unset, .unset] [])) _
    refine XS.aloadN X0.here hx rfl (hb hby d3_0) rfl rfl ?_
    show Steps p.tables e below (s₁.setTop (mkF m 1 #[.val (.ref a1), .val (.double u2), .second, .unset, .unset, .unset, .unset] [(.ref a1)])) _
    refine st4 _ ?_
    show Steps p.tables e below (T4.setTop (mkF m 4 #[.val (.ref a1), .val (.double u2), .second, .unset, .unset, .unset, .unset] [(.double w3)])) _
    refine XS.dloadN X4.here hx rfl (hb hby d3_4) rfl ?_
    show Steps p.tables e below (T4.setTop (mkF m 5 #[.val (.ref a1), .val (.double u2), .second, .unset, .unset, .unset, .unset] [(.double u2), (.double w3)])) _
    refine XS.daddS X4.here hx rfl (hb hby d3_5) rfl hnn5 rfl ?_
    show Steps p.tables e below (T4.setTop (mkF m 6 #[.val (.ref a1), .val (.double u2), .second, .unset, .unset, .unset, .unset] [(.double (FP.dadd w3 u2))])) _
    refine XS.dstoreN X4.here hx rfl (hb hby d3_6) rfl (l' := #[.val (.ref a1), .val (.double u2), .second, .val (.double (FP.dadd w3 u2)), .second, .unset, .unset]) rfl ?_
    show Steps p.tables e below (T4.setTop (mkF m 7 #[.val (.ref a1), .val (.double u2), .second, .val (.double (FP.dadd w3 u2)), .second, .unset, .unset] [])) _
    refine XS.dloadN X4.here hx rfl (hb hby d3_7) rfl ?_
    show Steps p.tables e below (T4.setTop (mkF m 8 #[.val (.ref a1), .val (.double u2), .second, .val (.double (FP.dadd w3 u2)), .second, .unset, .unset] [(.double (FP.dadd w3 u2))])) _
    refine XS.aloadN X4.here hx rfl (hb hby d3_8) rfl rfl ?_
    show Steps p.tables e below (T4.setTop (mkF m 9 #[.val (.ref a1), .val (.double u2), .second, .val (.double (FP.dadd w3 u2)), .second, .unset, .unset] [(.ref a1), (.double (FP.dadd w3 u2))])) _
    refine st5 _ ?_
    show Steps p.tables e below (T5.setTop (mkF m 12 #[.val (.ref a1), .val (.double u2), .second, .val (.double (FP.dadd w3 u2)), .second, .unset, .unset] [(.double w3), (.double (FP.dadd w3 u2))])) _
    refine XS.dsubS X5.here hx rfl (hb hby d3_12) rfl hnn12 rfl ?_
    show Steps p.tables e below (T5.setTop (mkF m 13 #[.val (.ref a1), .val (.double u2), .second, .val (.double (FP.dadd w3 u2)), .second, .unset, .unset] [(.double (FP.dsub (FP.dadd w3 u2) w3))])) _
    refine XS.dstore X5.here hx rfl (hb hby d3_13) rfl (l' := #[.val (.ref a1), .val (.double u2), .second, .val (.double (FP.dadd w3 u2)), .second, .val (.double (FP.dsub (FP.dadd w3 u2) w3)), .second]) rfl ?_
    show Steps p.tables e below (T5.setTop (mkF m 15 #[.val (.ref a1), .val (.double u2), .second, .val (.double (FP.dadd w3 u2)), .second, .val (.double (FP.dsub (FP.dadd w3 u2) w3)), .second] [])) _
    refine XS.aloadN X5.here hx rfl (hb hby d3_15) rfl rfl ?_
    show Steps p.tables e below (T5.setTop (mkF m 16 #[.val (.ref a1), .val (.double u2), .second, .val (.double (FP.dadd w3 u2)), .second, .val (.double (FP.dsub (FP.dadd w3 u2) w3)), .second] [(.ref a1)])) _
    refine XS.dup X5.here hx rfl (hb hby d3_16) rfl rfl ?_
    show Steps p.tables e below (T5.setTop (mkF m 17 #[.val (.ref a1), .val (.double u2), .second, .val (.double (FP.dadd w3 u2)), .second, .val (.double (FP.dsub (FP.dadd w3 u2) w3)), .second] [(.ref a1), (.ref a1)])) _
    refine st7 _ ?_
    show Steps p.tables e below (T7.setTop (mkF m 20 #[.val (.ref a1), .val (.double u2), .second, .val (.double (FP.dadd w3 u2)), .second, .val (.double (FP.dsub (FP.dadd w3 u2) w3)), .second] [(.double w6), (.ref a1)])) _
    refine XS.aloadN X7.here hx rfl (hb hby d3_20) rfl rfl ?_
    show Steps p.tables e below (T7.setTop (mkF m 21 #[.val (.ref a1), .val (.double u2), .second, .val (.double (FP.dadd w3 u2)), .second, .val (.double (FP.dsub (FP.dadd w3 u2) w3)), .second] [(.ref a1), (.double w6), (.ref a1)])) _
    refine st8 _ ?_
    show Steps p.tables e below (T8.setTop (mkF m 24 #[.val (.ref a1), .val (.double u2), .second, .val (.double (FP.dadd w3 u2)), .second, .val (.double (FP.dsub (FP.dadd w3 u2) w3)), .second] [(.double w3), (.double w6), (.ref a1)])) _
    refine XS.dloadN X8.here hx rfl (hb hby d3_24) rfl ?_
    show Steps p.tables e below (T8.setTop (mkF m 25 #[.val (.ref a1), .val (.double u2), .second, .val (.double (FP.dadd w3 u2)), .second, .val (.double (FP.dsub (FP.dadd w3 u2) w3)), .second] [(.double (FP.dadd w3 u2)), (.double w3), (.double w6), (.ref a1)])) _
    refine XS.dload X8.here hx rfl (hb hby d3_25) rfl ?_
    show Steps p.tables e below (T8.setTop (mkF m 27 #[.val (.ref a1), .val (.double u2), .second, .val (.double (FP.dadd w3 u2)), .second, .val (.double (FP.dsub (FP.dadd w3 u2) w3)), .second] [(.double (FP.dsub (FP.dadd w3 u2) w3)), (.double (FP.dadd w3 u2)), (.double w3), (.double w6), (.ref a1)])) _
    refine XS.dsubS X8.here hx rfl (hb hby d3_27) rfl hnn27 rfl ?_
    show Steps p.tables e below (T8.setTop (mkF m 28 #[.val (.ref a1), .val (.double u2), .second, .val (.double (FP.dadd w3 u2)), .second, .val (.double (FP.dsub (FP.dadd w3 u2) w3)), .second] [(.double (FP.dsub (FP.dadd w3 u2) (FP.dsub (FP.dadd w3 u2) w3))), (.double w3), (.double w6), (.ref a1)])) _
    refine XS.dsubS X8.here hx rfl (hb hby d3_28) rfl hnn28 rfl ?_
    show Steps p.tables e below (T8.setTop (mkF m 29 #[.val (.ref a1), .val (.double u2), .second, .val (.double (FP.dadd w3 u2)), .second, .val (.double (FP.dsub (FP.dadd w3 u2) w3)), .second] [(.double (FP.dsub w3 (FP.dsub (FP.dadd w3 u2) (FP.dsub (FP.dadd w3 u2) w3)))), (.double w6), (.ref a1)])) _
    refine XS.dloadN X8.here hx rfl (hb hby d3_29) rfl ?_
    show Steps p.tables e below (T8.setTop (mkF m 30 #[.val (.ref a1), .val (.double u2), .second, .val (.double (FP.dadd w3 u2)), .second, .val (.double (FP.dsub (FP.dadd w3 u2) w3)), .second] [(.double u2), (.double (FP.dsub w3 (FP.dsub (FP.dadd w3 u2) (FP.dsub (FP.dadd w3 u2) w3)))), (.double w6), (.ref a1)])) _
    refine XS.dload X8.here hx rfl (hb hby d3_30) rfl ?_
    show Steps p.tables e below (T8.setTop (mkF m 32 #[.val (.ref a1), .val (.double u2), .second, .val (.double (FP.dadd w3 u2)), .second, .val (.double (FP.dsub (FP.dadd w3 u2) w3)), .second] [(.double (FP.dsub (FP.dadd w3 u2) w3)), (.double u2), (.double (FP.dsub w3 (FP.dsub (FP.dadd w3 u2) (FP.dsub (FP.dadd w3 u2) w3)))), (.double w6), (.ref a1)])) _
    refine XS.dsubS X8.here hx rfl (hb hby d3_32) rfl hnn32 rfl ?_
    show Steps p.tables e below (T8.setTop (mkF m 33 #[.val (.ref a1), .val (.double u2), .second, .val (.double (FP.dadd w3 u2)), .second, .val (.double (FP.dsub (FP.dadd w3 u2) w3)), .second] [(.double (FP.dsub u2 (FP.dsub (FP.dadd w3 u2) w3))), (.double (FP.dsub w3 (FP.dsub (FP.dadd w3 u2) (FP.dsub (FP.dadd w3 u2) w3)))), (.double w6), (.ref a1)])) _
    refine XS.daddS X8.here hx rfl (hb hby d3_33) rfl hnn33 rfl ?_
    show Steps p.tables e below (T8.setTop (mkF m 34 #[.val (.ref a1), .val (.double u2), .second, .val (.double (FP.dadd w3 u2)), .second, .val (.double (FP.dsub (FP.dadd w3 u2) w3)), .second] [(.double (FP.dadd (FP.dsub w3 (FP.dsub (FP.dadd w3 u2) (FP.dsub (FP.dadd w3 u2) w3))) (FP.dsub u2 (FP.dsub (FP.dadd w3 u2) w3)))), (.double w6), (.ref a1)])) _
    refine XS.daddS X8.here hx rfl (hb hby d3_34) rfl hnn34 rfl ?_
    show Steps p.tables e below (T8.setTop (mkF m 35 #[.val (.ref a1), .val (.double u2), .second, .val (.double (FP.dadd w3 u2)), .second, .val (.double (FP.dsub (FP.dadd w3 u2) w3)), .second] [(.double (FP.dadd w6 (FP.dadd (FP.dsub w3 (FP.dsub (FP.dadd w3 u2) (FP.dsub (FP.dadd w3 u2) w3))) (FP.dsub u2 (FP.dsub (FP.dadd w3 u2) w3))))), (.ref a1)])) _
    refine st9 _ ?_
    show Steps p.tables e below (T9.setTop (mkF m 38 #[.val (.ref a1), .val (.double u2), .second, .val (.double (FP.dadd w3 u2)), .second, .val (.double (FP.dsub (FP.dadd w3 u2) w3)), .second] [])) _
    refine XS.aloadN X9.here hx rfl (hb hby d3_38) rfl rfl ?_
    show Steps p.tables e below (T9.setTop (mkF m 39 #[.val (.ref a1), .val (.double u2), .second, .val (.double (FP.dadd w3 u2)), .second, .val (.double (FP.dsub (FP.dadd w3 u2) w3)), .second] [(.ref a1)])) _
    refine XS.dloadN X9.here hx rfl (hb hby d3_39) rfl ?_
    show Steps p.tables e below (T9.setTop (mkF m 40 #[.val (.ref a1), .val (.double u2), .second, .val (.double (FP.dadd w3 u2)), .second, .val (.double (FP.dsub (FP.dadd w3 u2) w3)), .second] [(.double (FP.dadd w3 u2)), (.ref a1)])) _
    refine st10 _ ?_
    show Steps p.tables e below (T10.setTop (mkF m 43 #[.val (.ref a1), .val (.double u2), .second, .val (.double (FP.dadd w3 u2)), .second, .val (.double (FP.dsub (FP.dadd w3 u2) w3)), .second] [])) _
    exact X10.returnOut hx Bd.returns (hb hby d3_43) hr
  · show Q3 Z a1 u2 w3 w6 h0 n0 _ T10.heap _
    rw [e10]
    exact ⟨rfl, N10, K10, ((E_a1.wr W9).wr W10), Fw10, (Fw9.other W10 (Or.inr (slot_ne (Or.inl (hw _ (List.mem_of_getElem? (i := 17) rfl))) (Or.inl (hw _ (List.mem_of_getElem? (i := 15) rfl))) (by decide) (t := .double) (t' := .double) (by decide) (by decide))))⟩
theorem d4_0 : decode prog_10_method_3_code 0 = .ok (.aload_n 0, 1) := by decide +kernel
theorem d4_1 : decode prog_10_method_3_code 1 = .ok (.getfield 23, 3) := by decide +kernel
theorem d4_4 : decode prog_10_method_3_code 4 = .ok (.aload_n 0, 1) := by decide +kernel
theorem d4_5 : decode prog_10_method_3_code 5 = .ok (.getfield 19, 3) := by decide +kernel
theorem d4_8 : decode prog_10_method_3_code 8 = .ok (.dadd, 1) := by decide +kernel
theorem d4_9 : decode prog_10_method_3_code 9 = .ok (.dreturn, 1) := by decide +kernel
theorem pn_4 : plainName "com/example/gauge/gauge/capital/CompensatedSum" = true := by first | (simp [plainName, overriddenIn]; done) | decide +kernel
theorem ef_4 (m : MethodId) (x0 : Addr) : entryFrame m #[(.ref x0)] 1 = mkF m 0 #[.val (.ref x0)] [] := by first | (simp [entryFrame, mkF, argsToLocals, Value.category]; done) | rfl
def Q4 (Z : State) (a1 : Addr) (w2 : UInt64) (w4 : UInt64) (h0 : Heap) (n0 : Nat) (v : Option Value) (h : Heap) (L : List Loc) : Prop := v = some (.double (FP.dadd w2 w4)) ∧ Fr n0 L ∧ h = h0
set_option maxRecDepth 65536 in
set_option maxHeartbeats 40000000 in
theorem rm4 (l : Launch) (Z : State) (a0 : Array Value) (hw : ∀ d ∈ tables_1, d.before a0 Z = true) (ws : List Jvm.Cond) (a1 : Addr) (w2 : UInt64) (w4 : UInt64) (h0 : Heap) (n0 : Nat) (Z0 : n0 ≤ h0.size) (F_high_a1 : Fld Z h0 a1 "com/example/gauge/gauge/capital/CompensatedSum" "high" "D" (.double w2)) (F_low_a1 : Fld Z h0 a1 "com/example/gauge/gauge/capital/CompensatedSum" "low" "D" (.double w4)) (hnn8 : Jvm.Free.Fl.NoNaN64 (FP.dadd w2 w4)) :
    MetFree l (⟨"com/example/gauge/gauge/capital/CompensatedSum", "value", "()D"⟩ : MethodName) (head1 (Jvm.Cond.code (⟨"com/example/gauge/gauge/capital/CompensatedSum", "value", "()D"⟩ : MethodName) prog_10_method_3_code 1 (some .double) :: ws) ({ frames := 0, cells := 0, slots := 0, locals := 0 } : Room)) (fun a U => a = #[(.ref a1)] ∧ Z.Warmed39 U.vm ∧ U.heap = h0) (fun _ _ _ _ _ => True) (fun _ U o U' => ∃ v L, o = .returned v ∧ Q4 Z a1 w2 w4 h0 n0 v U'.heap L ∧ FrameEnd U o U' L ({ frames := 0, cells := 0, slots := 0, locals := 0 } : Room).cells ({ frames := 0, cells := 0, slots := 0, locals := 0 } : Room).slots) := by
  refine MetFree.of_bodySF (plainFor_of_name pn_4) hisR ?_
  intro p e s m args below meth c s₁ Bd hml0 hP hK
  obtain ⟨rfl, hZ, hh⟩ := hP
  have hx := Bd.exec
  have hby := Bd.bytes
  have hml : c.maxLocals = 1 := hml0
  have hown : s.vm.findClass "com/example/gauge/gauge/capital/CompensatedSum" = some m.cls := findClass_of_methodNamed Bd.named
  have hnm := (name_of_methodNamed Bd.named Bd.method).1
  have X0 : Stand p l e ({ frames := 0, cells := 0, slots := 0, locals := 0 } : Room) s m #[(.ref a1)] below meth c s₁ [] 0 0 := Stand.of_body Bd
  have e0 : s₁.heap = h0 := by rw [← hh, Bd.state]; rfl
  have N0 := Fr.nil n0
  have pre0 : ∀ t, Steps p.tables e below (s₁.setTop (mkF m 0 #[.val (.ref a1)] [])) t → Steps p.tables e below (s₁.setTop (entryFrame m #[(.ref a1)] 1)) t := fun t k => castTop (ef_4 m a1) k
  obtain ⟨T3, X3, e3, st3⟩ := getF X0 hx hZ hown (host := "") (Or.inl (hw _ (List.mem_of_getElem? (i := 14) rfl))) Via.refl e0 F_high_a1 (g := (mkF m 1 #[.val (.ref a1)] [(.ref a1)])) rfl rfl (hb hby d4_1)
  obtain ⟨T5, X5, e5, st5⟩ := getF X3 hx hZ hown (host := "") (Or.inl (hw _ (List.mem_of_getElem? (i := 16) rfl))) Via.refl e3 F_low_a1 (g := (mkF m 5 #[.val (.ref a1)] [(.ref a1), (.double w2)])) rfl rfl (hb hby d4_5)
  obtain ⟨fs, hr, hrun, hended, hW, hsame⟩ := X5.leave (v := some (.double (FP.dadd w2 w4))) (fun h => by rw [Bd.returns] at h; cases h)
  refine ⟨_, _, pre0 _ ?_, hrun, hended, _, _, rfl, ?_, ⟨_, rfl⟩, hW, hsame.mono (by decide) (by decide)⟩
  · show Steps p.tables e below (s₁.setTop (mkF m 0 #[.val (.ref a1)] [])) _
    refine XS.aloadN X0.here hx rfl (hb hby d4_0) rfl rfl ?_
    show Steps p.tables e below (s₁.setTop (mkF m 1 #[.val (.ref a1)] [(.ref a1)])) _
    refine st3 _ ?_
    show Steps p.tables e below (T3.setTop (mkF m 4 #[.val (.ref a1)] [(.double w2)])) _
    refine XS.aloadN X3.here hx rfl (hb hby d4_4) rfl rfl ?_
    show Steps p.tables e below (T3.setTop (mkF m 5 #[.val (.ref a1)] [(.ref a1), (.double w2)])) _
    refine st5 _ ?_
    show Steps p.tables e below (T5.setTop (mkF m 8 #[.val (.ref a1)] [(.double w4), (.double w2)])) _
    refine XS.daddS X5.here hx rfl (hb hby d4_8) rfl hnn8 rfl ?_
    show Steps p.tables e below (T5.setTop (mkF m 9 #[.val (.ref a1)] [(.double (FP.dadd w2 w4))])) _
    jvm_step X5.here [X5.here.top, hx, (hb hby d4_9), X5.method', Bd.returns, narrow]
    first | (intro acts; rw [hr _ acts rfl rfl rfl]) | rw [hr _ _ rfl rfl rfl]
    exact Steps.refl _
  · show Q4 Z a1 w2 w4 h0 n0 _ T5.heap _
    rw [e5]
    exact ⟨rfl, N0, rfl⟩
def Q3d (Z : State) (a1 : Addr) (H G : UInt64) (h0 : Heap) (n0 : Nat) (v : Option Value) (h : Heap) (L : List Loc) : Prop := v = none ∧ Fr n0 L ∧ Keep h0 h [a1] ∧ Exa Z h a1 "com/example/gauge/gauge/capital/CompensatedSum" ∧ Fld Z h a1 "com/example/gauge/gauge/capital/CompensatedSum" "high" "D" (.double H) ∧ Fld Z h a1 "com/example/gauge/gauge/capital/CompensatedSum" "low" "D" (.double G)
theorem rm3d (l : Launch) (Z : State) (a0 : Array Value) (hw : ∀ d ∈ tables_1, d.before a0 Z = true) (ws : List Jvm.Cond) (a1 : Addr) (u hi lo H G : UInt64) (h0 : Heap) (n0 : Nat) (Z0 : n0 ≤ h0.size) (Fh : Fld Z h0 a1 "com/example/gauge/gauge/capital/CompensatedSum" "high" "D" (.double hi)) (Fl : Fld Z h0 a1 "com/example/gauge/gauge/capital/CompensatedSum" "low" "D" (.double lo)) (E_a1 : Exa Z h0 a1 "com/example/gauge/gauge/capital/CompensatedSum") (g_a1 : n0 ≤ a1) (k : FP.dadd hi u = H ∧ own_L hi lo u = G ∧ own_Ok hi lo u) :
    MetFree l (⟨"com/example/gauge/gauge/capital/CompensatedSum", "add", "(D)V"⟩ : MethodName) (head1 (Jvm.Cond.code (⟨"com/example/gauge/gauge/capital/CompensatedSum", "add", "(D)V"⟩ : MethodName) prog_10_method_4_code 7 none :: ws) ({ frames := 0, cells := 0, slots := 0, locals := 0 } : Room)) (fun a U => a = #[(.ref a1), (.double u)] ∧ Z.Warmed39 U.vm ∧ U.heap = h0) (fun _ _ _ _ _ => True) (fun _ U o U' => ∃ v L, o = .returned v ∧ Q3d Z a1 H G h0 n0 v U'.heap L ∧ FrameEnd U o U' L ({ frames := 0, cells := 0, slots := 0, locals := 0 } : Room).cells ({ frames := 0, cells := 0, slots := 0, locals := 0 } : Room).slots) := by
  obtain ⟨rfl, rfl, k1, k2, k3, k4, k5, k6, k7⟩ := k
  exact rm3 l Z a0 hw ws a1 u hi lo h0 n0 Z0 Fh Fl E_a1 g_a1 k1 k2 k3 k4 k5 k6 k7
def Q4d (Z : State) (a1 : Addr) (V : UInt64) (h0 : Heap) (n0 : Nat) (v : Option Value) (h : Heap) (L : List Loc) : Prop := v = some (.double V) ∧ Fr n0 L ∧ h = h0
theorem rm4d (l : Launch) (Z : State) (a0 : Array Value) (hw : ∀ d ∈ tables_1, d.before a0 Z = true) (ws : List Jvm.Cond) (a1 : Addr) (hi lo V : UInt64) (h0 : Heap) (n0 : Nat) (Z0 : n0 ≤ h0.size) (Fh : Fld Z h0 a1 "com/example/gauge/gauge/capital/CompensatedSum" "high" "D" (.double hi)) (Fl : Fld Z h0 a1 "com/example/gauge/gauge/capital/CompensatedSum" "low" "D" (.double lo)) (k : FP.dadd hi lo = V) (kn : Jvm.Free.Fl.NoNaN64 (FP.dadd hi lo)) :
    MetFree l (⟨"com/example/gauge/gauge/capital/CompensatedSum", "value", "()D"⟩ : MethodName) (head1 (Jvm.Cond.code (⟨"com/example/gauge/gauge/capital/CompensatedSum", "value", "()D"⟩ : MethodName) prog_10_method_3_code 1 (some .double) :: ws) ({ frames := 0, cells := 0, slots := 0, locals := 0 } : Room)) (fun a U => a = #[(.ref a1)] ∧ Z.Warmed39 U.vm ∧ U.heap = h0) (fun _ _ _ _ _ => True) (fun _ U o U' => ∃ v L, o = .returned v ∧ Q4d Z a1 V h0 n0 v U'.heap L ∧ FrameEnd U o U' L ({ frames := 0, cells := 0, slots := 0, locals := 0 } : Room).cells ({ frames := 0, cells := 0, slots := 0, locals := 0 } : Room).slots) := by
  obtain rfl := k
  exact rm4 l Z a0 hw ws a1 hi lo h0 n0 Z0 Fh Fl kn
theorem pn_0 : plainName "com/example/gauge/gauge/capital/CompensatedSumAddPinLaw" = true := by first | (simp [plainName, overriddenIn]; done) | decide +kernel
theorem pd_0_0 : parseMethodDescriptor "()V" = some ⟨[], none⟩ := by decide +kernel
theorem pd_0_1 : parseMethodDescriptor "(D)V" = some ⟨[.double], none⟩ := by decide +kernel
theorem pd_0_2 : parseMethodDescriptor "()D" = some ⟨[], some .double⟩ := by decide +kernel
theorem ef_0 (m : MethodId) (x0 : Int64) (x1 : Int32) (x2 : Int32) : entryFrame m #[(.long x0), (.int x1), (.int x2)] maxLocals = mkF m 0 #[.val (.long x0), .second, .val (.int x1), .val (.int x2), .unset, .unset, .unset, .unset, .unset, .unset, .unset, .unset] [] := by first | (simp [entryFrame, mkF, argsToLocals, Value.category, maxLocals]; done) | rfl
def Q0a (Z : State) (q1 : Int64) (p2 : Int32) (p3 : Int32) (h0 : Heap) (n0 : Nat) (v : Option Value) (h : Heap) (L : List Loc) : Prop := v = some (.int (1 : Int32)) ∧ Fr n0 L
set_option maxRecDepth 65536 in
set_option maxHeartbeats 40000000 in
theorem rm0a (l : Launch) (Z : State) (a0 : Array Value) (hw : ∀ d ∈ tables_1, d.before a0 Z = true) (ws : List Jvm.Cond) (q1 : Int64) (p2 : Int32) (p3 : Int32) (h0 : Heap) (n0 : Nat) (Z0 : n0 ≤ h0.size) (hc20 : ¬ ((p3 &&& (1 : Int32)) = (0 : Int32))) (hc32 : ¬ ((1 : Int32) = (0 : Int32))) (hc133 : ¬ ((1 : Int32) = (0 : Int32))) (hc138 : ¬ ((1 : Int32) = (0 : Int32))) :
    MetFree l x (head1 (Jvm.Cond.code x code maxLocals ret :: ws) room_1) (fun a U => a = #[(.long q1), (.int p2), (.int p3)] ∧ Z.Warmed39 U.vm ∧ U.heap = h0) (fun _ _ _ _ _ => True) (fun _ U o U' => ∃ v L, o = .returned v ∧ Q0a Z q1 p2 p3 h0 n0 v U'.heap L ∧ FrameEnd U o U' L room_1.cells room_1.slots) := by
  refine MetFree.of_bodySF (plainFor_of_name pn_0) hisR ?_
  intro p e s m args below meth c s₁ Bd hml0 hP hK
  obtain ⟨rfl, hZ, hh⟩ := hP
  have hx := Bd.exec
  have hby := Bd.bytes
  have hml : c.maxLocals = 12 := hml0
  have hown : s.vm.findClass "com/example/gauge/gauge/capital/CompensatedSumAddPinLaw" = some m.cls := findClass_of_methodNamed Bd.named
  have hnm := (name_of_methodNamed Bd.named Bd.method).1
  have X0 : Stand p l e room_1 s m #[(.long q1), (.int p2), (.int p3)] below meth c s₁ [] 0 0 := Stand.of_body Bd
  have e0 : s₁.heap = h0 := by rw [← hh, Bd.state]; rfl
  have N0 := Fr.nil n0
  obtain ⟨H1, G1, H2, G2, H3, G3, V1, V2, V3, k0, v0, k1, v1, k2, v2, hnn111⟩ := (own_runs q1 p2).1
  have pre0 : ∀ t, Steps p.tables e below (s₁.setTop (mkF m 0 #[.val (.long q1), .second, .val (.int p2), .val (.int p3), .unset, .unset, .unset, .unset, .unset, .unset, .unset, .unset] [])) t → Steps p.tables e below (s₁.setTop (entryFrame m #[(.long q1), (.int p2), (.int p3)] maxLocals)) t := fun t k => castTop (ef_0 m q1 p2 p3) k
  obtain ⟨T4, h4, X4, e4, E4, A4, D4, -, st4⟩ := newO X0 hx hZ hown (hw _ (List.mem_of_getElem? (i := 0) rfl)) (hw _ (List.mem_of_getElem? (i := 1) rfl)) (hw _ (List.mem_of_getElem? (i := 2) rfl)) e0 (g := (mkF m 8 #[.val (.long q1), .second, .val (.int p2), .val (.int p3), .val (.double (FP.l2d q1)), .second, .val (.double (FP.i2d p2)), .second, .unset, .unset, .unset, .unset] [])) rfl (hb hby at_8) (by decide) (by decide)
  obtain ⟨b4, g4⟩ : ∃ z, z = h0.size := ⟨_, rfl⟩
  rw [← g4] at A4 D4 st4
  have F_high_b4 : Fld Z h4 b4 "com/example/gauge/gauge/capital/CompensatedSum" "high" "D" (.double (0 : UInt64)) := D4 (Or.inl (hw _ (List.mem_of_getElem? (i := 15) rfl))) (ty := .double) (by decide)
  have F_low_b4 : Fld Z h4 b4 "com/example/gauge/gauge/capital/CompensatedSum" "low" "D" (.double (0 : UInt64)) := D4 (Or.inl (hw _ (List.mem_of_getElem? (i := 17) rfl))) (ty := .double) (by decide)
  have E_b4 := A4
  have g_b4 : n0 ≤ b4 := Nat.le_trans Z0 (Nat.le_of_eq g4.symm)
  have sz_b4 : h0.size ≤ b4 := (Nat.le_trans (Keep.refl h0 []).1 (Nat.le_of_eq g4.symm))
  have K4 : Keep h0 h4 [] := (Keep.refl h0 []).ext E4
  obtain ⟨_, _, ⟨T5, L5, k5, n5⟩, -, X5, ⟨Lc5, hQ5, l5, y5, z5⟩, st5⟩ := X4.specialBack hx (y := (⟨"com/example/gauge/gauge/capital/CompensatedSum", "<init>", "()V"⟩ : MethodName)) rfl hown (mvT hZ (hw _ (List.mem_of_getElem? (i := 3) rfl))) (mvT hZ (hw _ (List.mem_of_getElem? (i := 4) rfl))) (mvT hZ (hw _ (List.mem_of_getElem? (i := 5) rfl))) (by decide) (backOf (W := 1) (rm1 l Z a0 hw [] b4 h4 n0 (Nat.le_trans Z0 K4.1)) hZ (hw _ (List.mem_of_getElem? (i := 5) rfl)) (hw _ (List.mem_of_getElem? (i := 2) rfl)) (by decide) (by decide)) (g := (mkF m 12 #[.val (.long q1), .second, .val (.int p2), .val (.int p3), .val (.double (FP.l2d q1)), .second, .val (.double (FP.i2d p2)), .second, .unset, .unset, .unset, .unset] [(.ref b4), (.ref b4)])) rfl (by rw [hml]; rfl) (Steps.refl _) (a := b4) (argsL := []) (rest := [(.ref b4)]) (lenOf pd_0_0 rfl) rfl (by show 2 * 0 + _ ≤ _; exact Nat.le_of_eq rfl) (hb hby at_12) (fun _ _ => ⟨rfl, e4, (by decide : 1 + 0 ≤ _), (by decide : 2 + 0 ≤ _)⟩)
  dsimp only [Pt.U, Pt.locs, Pt.cells, Pt.slots] at X5 l5 y5 z5 st5 hQ5
  subst l5 y5 z5
  obtain ⟨rfl, N5q, k5q⟩ := hQ5
  have N5 := Fr.app N0 N5q
  have E5 : Exa Z T5.heap b4 "com/example/gauge/gauge/capital/CompensatedSum" := by rw [k5q]; exact E_b4
  have Fh5 : Fld Z T5.heap b4 "com/example/gauge/gauge/capital/CompensatedSum" "high" "D" (.double (0 : UInt64)) := by rw [k5q]; exact F_high_b4
  have Fl5 : Fld Z T5.heap b4 "com/example/gauge/gauge/capital/CompensatedSum" "low" "D" (.double (0 : UInt64)) := by rw [k5q]; exact F_low_b4
  have Z5 : n0 ≤ T5.heap.size := by rw [k5q]; exact Nat.le_trans Z0 K4.1
  obtain ⟨cq6, kq6, q6a, q6b, q6c⟩ := isOf hZ rfl E5
  obtain ⟨_, _, ⟨T6, L6, k6, n6⟩, -, X6, ⟨Lc6, hQ6, l6, y6, z6⟩, st6⟩ := X5.virtualBack hx (y := (⟨"com/example/gauge/gauge/capital/CompensatedSum", "add", "(D)V"⟩ : MethodName)) (z := (⟨"com/example/gauge/gauge/capital/CompensatedSum", "add", "(D)V"⟩ : MethodName)) hown (mvT hZ (hw _ (List.mem_of_getElem? (i := 9) rfl))) (mvT hZ (hw _ (List.mem_of_getElem? (i := 10) rfl))) (notFace_of_selects (args := #[]) (mvT hZ (hw _ (List.mem_of_getElem? (i := 12) rfl)))) (mvT hZ (hw _ (List.mem_of_getElem? (i := 12) rfl))) (mvT hZ (hw _ (List.mem_of_getElem? (i := 11) rfl))) (by decide) (backOf (W := 0) (rm3d l Z a0 hw [] b4 (FP.l2d q1) 0 0 H1 G1 T5.heap n0 Z5 Fh5 Fl5 E5 g_b4 k0) hZ (hw _ (List.mem_of_getElem? (i := 13) rfl)) (hw _ (List.mem_of_getElem? (i := 2) rfl)) (by decide) (by decide)) q6a q6c (g := (mkF m 39 #[.val (.long q1), .second, .val (.int p2), .val (.int p3), .val (.double (FP.l2d q1)), .second, .val (.double (FP.i2d p2)), .second, .val (.ref b4), .val (.int (1 : Int32)), .unset, .unset] [(.double (FP.l2d q1)), (.ref b4)])) rfl (by rw [hml]; rfl) (Steps.refl _) (argsL := [(.double (FP.l2d q1))]) (rest := []) (lenOf pd_0_1 rfl) rfl (by show 2 * 0 + _ ≤ _; exact Nat.le_of_eq rfl) (hb hby at_39) (fun _ _ => ⟨rfl, rfl, (by decide : 1 + 0 ≤ _), (by decide : 2 + 0 ≤ _)⟩)
  dsimp only [Pt.U, Pt.locs, Pt.cells, Pt.slots] at X6 l6 y6 z6 st6 hQ6
  subst l6 y6 z6
  obtain ⟨rfl, N6q, K6, E6, Fh6, Fl6⟩ := hQ6
  have N6 := Fr.app N5 N6q
  have Z6 : n0 ≤ T6.heap.size := Nat.le_trans Z5 K6.1
  obtain ⟨cq7, kq7, q7a, q7b, q7c⟩ := isOf hZ rfl E6
  obtain ⟨_, _, ⟨T7, L7, k7, n7⟩, -, X7, ⟨Lc7, hQ7, l7, y7, z7⟩, st7⟩ := X6.virtualBack hx (y := (⟨"com/example/gauge/gauge/capital/CompensatedSum", "value", "()D"⟩ : MethodName)) (z := (⟨"com/example/gauge/gauge/capital/CompensatedSum", "value", "()D"⟩ : MethodName)) hown (mvT hZ (hw _ (List.mem_of_getElem? (i := 18) rfl))) (mvT hZ (hw _ (List.mem_of_getElem? (i := 19) rfl))) (notFace_of_selects (args := #[]) (mvT hZ (hw _ (List.mem_of_getElem? (i := 21) rfl)))) (mvT hZ (hw _ (List.mem_of_getElem? (i := 21) rfl))) (mvT hZ (hw _ (List.mem_of_getElem? (i := 20) rfl))) (by decide) (backOf (W := 0) (rm4d l Z a0 hw [] b4 H1 G1 V1 T6.heap n0 Z6 Fh6 Fl6 v0.1 v0.2.1) hZ (hw _ (List.mem_of_getElem? (i := 22) rfl)) (hw _ (List.mem_of_getElem? (i := 2) rfl)) (by decide) (by decide)) q7a q7c (g := (mkF m 44 #[.val (.long q1), .second, .val (.int p2), .val (.int p3), .val (.double (FP.l2d q1)), .second, .val (.double (FP.i2d p2)), .second, .val (.ref b4), .val (.int (1 : Int32)), .unset, .unset] [(.ref b4)])) rfl (by rw [hml]; rfl) (Steps.refl _) (argsL := []) (rest := []) (lenOf pd_0_2 rfl) rfl (by show 2 * 0 + _ ≤ _; exact Nat.le_of_eq rfl) (hb hby at_44) (fun _ _ => ⟨rfl, rfl, (by decide : 1 + 0 ≤ _), (by decide : 2 + 0 ≤ _)⟩)
  dsimp only [Pt.U, Pt.locs, Pt.cells, Pt.slots] at X7 l7 y7 z7 st7 hQ7
  subst l7 y7 z7
  obtain ⟨rfl, N7q, k7q⟩ := hQ7
  have N7 := Fr.app N6 N7q
  have E7 : Exa Z T7.heap b4 "com/example/gauge/gauge/capital/CompensatedSum" := by rw [k7q]; exact E6
  have Fh7 : Fld Z T7.heap b4 "com/example/gauge/gauge/capital/CompensatedSum" "high" "D" (.double H1) := by rw [k7q]; exact Fh6
  have Fl7 : Fld Z T7.heap b4 "com/example/gauge/gauge/capital/CompensatedSum" "low" "D" (.double G1) := by rw [k7q]; exact Fl6
  have Z7 : n0 ≤ T7.heap.size := by rw [k7q]; exact Z6
  obtain ⟨cq8, kq8, q8a, q8b, q8c⟩ := isOf hZ rfl E7
  obtain ⟨_, _, ⟨T8, L8, k8, n8⟩, -, X8, ⟨Lc8, hQ8, l8, y8, z8⟩, st8⟩ := X7.virtualBack hx (y := (⟨"com/example/gauge/gauge/capital/CompensatedSum", "add", "(D)V"⟩ : MethodName)) (z := (⟨"com/example/gauge/gauge/capital/CompensatedSum", "add", "(D)V"⟩ : MethodName)) hown (mvT hZ (hw _ (List.mem_of_getElem? (i := 9) rfl))) (mvT hZ (hw _ (List.mem_of_getElem? (i := 10) rfl))) (notFace_of_selects (args := #[]) (mvT hZ (hw _ (List.mem_of_getElem? (i := 12) rfl)))) (mvT hZ (hw _ (List.mem_of_getElem? (i := 12) rfl))) (mvT hZ (hw _ (List.mem_of_getElem? (i := 11) rfl))) (by decide) (backOf (W := 0) (rm3d l Z a0 hw [] b4 (FP.i2d p2) H1 G1 H2 G2 T7.heap n0 Z7 Fh7 Fl7 E7 g_b4 k1) hZ (hw _ (List.mem_of_getElem? (i := 13) rfl)) (hw _ (List.mem_of_getElem? (i := 2) rfl)) (by decide) (by decide)) q8a q8c (g := (mkF m 64 #[.val (.long q1), .second, .val (.int p2), .val (.int p3), .val (.double (FP.l2d q1)), .second, .val (.double (FP.i2d p2)), .second, .val (.ref b4), .val (.int (1 : Int32)), .val (.int (1 : Int32)), .unset] [(.double (FP.i2d p2)), (.ref b4)])) rfl (by rw [hml]; rfl) (Steps.refl _) (argsL := [(.double (FP.i2d p2))]) (rest := []) (lenOf pd_0_1 rfl) rfl (by show 2 * 0 + _ ≤ _; exact Nat.le_of_eq rfl) (hb hby at_64) (fun _ _ => ⟨rfl, rfl, (by decide : 1 + 0 ≤ _), (by decide : 2 + 0 ≤ _)⟩)
  dsimp only [Pt.U, Pt.locs, Pt.cells, Pt.slots] at X8 l8 y8 z8 st8 hQ8
  subst l8 y8 z8
  obtain ⟨rfl, N8q, K8, E8, Fh8, Fl8⟩ := hQ8
  have N8 := Fr.app N7 N8q
  have Z8 : n0 ≤ T8.heap.size := Nat.le_trans Z7 K8.1
  obtain ⟨cq9, kq9, q9a, q9b, q9c⟩ := isOf hZ rfl E8
  obtain ⟨_, _, ⟨T9, L9, k9, n9⟩, -, X9, ⟨Lc9, hQ9, l9, y9, z9⟩, st9⟩ := X8.virtualBack hx (y := (⟨"com/example/gauge/gauge/capital/CompensatedSum", "value", "()D"⟩ : MethodName)) (z := (⟨"com/example/gauge/gauge/capital/CompensatedSum", "value", "()D"⟩ : MethodName)) hown (mvT hZ (hw _ (List.mem_of_getElem? (i := 18) rfl))) (mvT hZ (hw _ (List.mem_of_getElem? (i := 19) rfl))) (notFace_of_selects (args := #[]) (mvT hZ (hw _ (List.mem_of_getElem? (i := 21) rfl)))) (mvT hZ (hw _ (List.mem_of_getElem? (i := 21) rfl))) (mvT hZ (hw _ (List.mem_of_getElem? (i := 20) rfl))) (by decide) (backOf (W := 0) (rm4d l Z a0 hw [] b4 H2 G2 V2 T8.heap n0 Z8 Fh8 Fl8 v1.1 v1.2.1) hZ (hw _ (List.mem_of_getElem? (i := 22) rfl)) (hw _ (List.mem_of_getElem? (i := 2) rfl)) (by decide) (by decide)) q9a q9c (g := (mkF m 104 #[.val (.long q1), .second, .val (.int p2), .val (.int p3), .val (.double (FP.l2d q1)), .second, .val (.double (FP.i2d p2)), .second, .val (.ref b4), .val (.int (1 : Int32)), .val (.int (1 : Int32)), .unset] [(.ref b4)])) rfl (by rw [hml]; rfl) (Steps.refl _) (argsL := []) (rest := []) (lenOf pd_0_2 rfl) rfl (by show 2 * 0 + _ ≤ _; exact Nat.le_of_eq rfl) (hb hby at_104) (fun _ _ => ⟨rfl, rfl, (by decide : 1 + 0 ≤ _), (by decide : 2 + 0 ≤ _)⟩)
  dsimp only [Pt.U, Pt.locs, Pt.cells, Pt.slots] at X9 l9 y9 z9 st9 hQ9
  subst l9 y9 z9
  obtain ⟨rfl, N9q, k9q⟩ := hQ9
  have N9 := Fr.app N8 N9q
  have E9 : Exa Z T9.heap b4 "com/example/gauge/gauge/capital/CompensatedSum" := by rw [k9q]; exact E8
  have Fh9 : Fld Z T9.heap b4 "com/example/gauge/gauge/capital/CompensatedSum" "high" "D" (.double H2) := by rw [k9q]; exact Fh8
  have Fl9 : Fld Z T9.heap b4 "com/example/gauge/gauge/capital/CompensatedSum" "low" "D" (.double G2) := by rw [k9q]; exact Fl8
  have Z9 : n0 ≤ T9.heap.size := by rw [k9q]; exact Z8
  obtain ⟨cq10, kq10, q10a, q10b, q10c⟩ := isOf hZ rfl E9
  obtain ⟨_, _, ⟨T10, L10, k10, n10⟩, -, X10, ⟨Lc10, hQ10, l10, y10, z10⟩, st10⟩ := X9.virtualBack hx (y := (⟨"com/example/gauge/gauge/capital/CompensatedSum", "add", "(D)V"⟩ : MethodName)) (z := (⟨"com/example/gauge/gauge/capital/CompensatedSum", "add", "(D)V"⟩ : MethodName)) hown (mvT hZ (hw _ (List.mem_of_getElem? (i := 9) rfl))) (mvT hZ (hw _ (List.mem_of_getElem? (i := 10) rfl))) (notFace_of_selects (args := #[]) (mvT hZ (hw _ (List.mem_of_getElem? (i := 12) rfl)))) (mvT hZ (hw _ (List.mem_of_getElem? (i := 12) rfl))) (mvT hZ (hw _ (List.mem_of_getElem? (i := 11) rfl))) (by decide) (backOf (W := 0) (rm3d l Z a0 hw [] b4 (FP.dneg (FP.l2d q1)) H2 G2 H3 G3 T9.heap n0 Z9 Fh9 Fl9 E9 g_b4 k2) hZ (hw _ (List.mem_of_getElem? (i := 13) rfl)) (hw _ (List.mem_of_getElem? (i := 2) rfl)) (by decide) (by decide)) q10a q10c (g := (mkF m 128 #[.val (.long q1), .second, .val (.int p2), .val (.int p3), .val (.double (FP.l2d q1)), .second, .val (.double (FP.i2d p2)), .second, .val (.ref b4), .val (.int (1 : Int32)), .val (.int (1 : Int32)), .val (.int (1 : Int32))] [(.double (FP.dneg (FP.l2d q1))), (.ref b4)])) rfl (by rw [hml]; rfl) (Steps.refl _) (argsL := [(.double (FP.dneg (FP.l2d q1)))]) (rest := []) (lenOf pd_0_1 rfl) rfl (by show 2 * 0 + _ ≤ _; exact Nat.le_of_eq rfl) (hb hby at_128) (fun _ _ => ⟨rfl, rfl, (by decide : 1 + 0 ≤ _), (by decide : 2 + 0 ≤ _)⟩)
  dsimp only [Pt.U, Pt.locs, Pt.cells, Pt.slots] at X10 l10 y10 z10 st10 hQ10
  subst l10 y10 z10
  obtain ⟨rfl, N10q, K10, E10, Fh10, Fl10⟩ := hQ10
  have N10 := Fr.app N9 N10q
  have Z10 : n0 ≤ T10.heap.size := Nat.le_trans Z9 K10.1
  obtain ⟨cq11, kq11, q11a, q11b, q11c⟩ := isOf hZ rfl E10
  obtain ⟨_, _, ⟨T11, L11, k11, n11⟩, -, X11, ⟨Lc11, hQ11, l11, y11, z11⟩, st11⟩ := X10.virtualBack hx (y := (⟨"com/example/gauge/gauge/capital/CompensatedSum", "value", "()D"⟩ : MethodName)) (z := (⟨"com/example/gauge/gauge/capital/CompensatedSum", "value", "()D"⟩ : MethodName)) hown (mvT hZ (hw _ (List.mem_of_getElem? (i := 18) rfl))) (mvT hZ (hw _ (List.mem_of_getElem? (i := 19) rfl))) (notFace_of_selects (args := #[]) (mvT hZ (hw _ (List.mem_of_getElem? (i := 21) rfl)))) (mvT hZ (hw _ (List.mem_of_getElem? (i := 21) rfl))) (mvT hZ (hw _ (List.mem_of_getElem? (i := 20) rfl))) (by decide) (backOf (W := 0) (rm4d l Z a0 hw [] b4 H3 G3 V3 T10.heap n0 Z10 Fh10 Fl10 v2.1 v2.2.1) hZ (hw _ (List.mem_of_getElem? (i := 22) rfl)) (hw _ (List.mem_of_getElem? (i := 2) rfl)) (by decide) (by decide)) q11a q11c (g := (mkF m 143 #[.val (.long q1), .second, .val (.int p2), .val (.int p3), .val (.double (FP.l2d q1)), .second, .val (.double (FP.i2d p2)), .second, .val (.ref b4), .val (.int (1 : Int32)), .val (.int (1 : Int32)), .val (.int (1 : Int32))] [(.ref b4)])) rfl (by rw [hml]; rfl) (Steps.refl _) (argsL := []) (rest := []) (lenOf pd_0_2 rfl) rfl (by show 2 * 0 + _ ≤ _; exact Nat.le_of_eq rfl) (hb hby at_143) (fun _ _ => ⟨rfl, rfl, (by decide : 1 + 0 ≤ _), (by decide : 2 + 0 ≤ _)⟩)
  dsimp only [Pt.U, Pt.locs, Pt.cells, Pt.slots] at X11 l11 y11 z11 st11 hQ11
  subst l11 y11 z11
  obtain ⟨rfl, N11q, k11q⟩ := hQ11
  have N11 := Fr.app N10 N11q
  have E11 : Exa Z T11.heap b4 "com/example/gauge/gauge/capital/CompensatedSum" := by rw [k11q]; exact E10
  have Fh11 : Fld Z T11.heap b4 "com/example/gauge/gauge/capital/CompensatedSum" "high" "D" (.double H3) := by rw [k11q]; exact Fh10
  have Fl11 : Fld Z T11.heap b4 "com/example/gauge/gauge/capital/CompensatedSum" "low" "D" (.double G3) := by rw [k11q]; exact Fl10
  have Z11 : n0 ≤ T11.heap.size := by rw [k11q]; exact Z10
  obtain ⟨fs, hr, hrun, hended, hW, hsame⟩ := X11.leave (v := some (.int (1 : Int32))) (fun h => by rw [Bd.returns] at h; cases h)
  refine ⟨_, _, pre0 _ ?_, hrun, hended, _, _, rfl, ?_, ⟨_, rfl⟩, hW, hsame.mono (by decide) (by decide)⟩
  · show Steps p.tables e below (s₁.setTop (mkF m 0 #[.val (.long q1), .second, .val (.int p2), .val (.int p3), .unset, .unset, .unset, .unset, .unset, .unset, .unset, .unset] [])) _
    refine XS.lloadN X0.here hx rfl (hb hby at_0) rfl ?_
    show Steps p.tables e below (s₁.setTop (mkF m 1 #[.val (.long q1), .second, .val (.int p2), .val (.int p3), .unset, .unset, .unset, .unset, .unset, .unset, .unset, .unset] [(.long q1)])) _
    refine XS.l2dS X0.here hx rfl (hb hby at_1) rfl rfl ?_
    show Steps p.tables e below (s₁.setTop (mkF m 2 #[.val (.long q1), .second, .val (.int p2), .val (.int p3), .unset, .unset, .unset, .unset, .unset, .unset, .unset, .unset] [(.double (FP.l2d q1))])) _
    refine XS.dstore X0.here hx rfl (hb hby at_2) rfl (l' := #[.val (.long q1), .second, .val (.int p2), .val (.int p3), .val (.double (FP.l2d q1)), .second, .unset, .unset, .unset, .unset, .unset, .unset]) rfl ?_
    show Steps p.tables e below (s₁.setTop (mkF m 4 #[.val (.long q1), .second, .val (.int p2), .val (.int p3), .val (.double (FP.l2d q1)), .second, .unset, .unset, .unset, .unset, .unset, .unset] [])) _
    refine XS.iloadN X0.here hx rfl (hb hby at_4) rfl ?_
    show Steps p.tables e below (s₁.setTop (mkF m 5 #[.val (.long q1), .second, .val (.int p2), .val (.int p3), .val (.double (FP.l2d q1)), .second, .unset, .unset, .unset, .unset, .unset, .unset] [(.int p2)])) _
    refine XS.i2dS X0.here hx rfl (hb hby at_5) rfl rfl ?_
    show Steps p.tables e below (s₁.setTop (mkF m 6 #[.val (.long q1), .second, .val (.int p2), .val (.int p3), .val (.double (FP.l2d q1)), .second, .unset, .unset, .unset, .unset, .unset, .unset] [(.double (FP.i2d p2))])) _
    refine XS.dstore X0.here hx rfl (hb hby at_6) rfl (l' := #[.val (.long q1), .second, .val (.int p2), .val (.int p3), .val (.double (FP.l2d q1)), .second, .val (.double (FP.i2d p2)), .second, .unset, .unset, .unset, .unset]) rfl ?_
    show Steps p.tables e below (s₁.setTop (mkF m 8 #[.val (.long q1), .second, .val (.int p2), .val (.int p3), .val (.double (FP.l2d q1)), .second, .val (.double (FP.i2d p2)), .second, .unset, .unset, .unset, .unset] [])) _
    refine st4 _ ?_
    show Steps p.tables e below (T4.setTop (mkF m 11 #[.val (.long q1), .second, .val (.int p2), .val (.int p3), .val (.double (FP.l2d q1)), .second, .val (.double (FP.i2d p2)), .second, .unset, .unset, .unset, .unset] [(.ref b4)])) _
    refine XS.dup X4.here hx rfl (hb hby at_11) rfl rfl ?_
    show Steps p.tables e below (T4.setTop (mkF m 12 #[.val (.long q1), .second, .val (.int p2), .val (.int p3), .val (.double (FP.l2d q1)), .second, .val (.double (FP.i2d p2)), .second, .unset, .unset, .unset, .unset] [(.ref b4), (.ref b4)])) _
    refine st5.trans ?_
    show Steps p.tables e below (T5.setTop (mkF m 15 #[.val (.long q1), .second, .val (.int p2), .val (.int p3), .val (.double (FP.l2d q1)), .second, .val (.double (FP.i2d p2)), .second, .unset, .unset, .unset, .unset] [(.ref b4)])) _
    refine XS.astore X5.here hx rfl (hb hby at_15) rfl rfl (l' := #[.val (.long q1), .second, .val (.int p2), .val (.int p3), .val (.double (FP.l2d q1)), .second, .val (.double (FP.i2d p2)), .second, .val (.ref b4), .unset, .unset, .unset]) rfl ?_
    show Steps p.tables e below (T5.setTop (mkF m 17 #[.val (.long q1), .second, .val (.int p2), .val (.int p3), .val (.double (FP.l2d q1)), .second, .val (.double (FP.i2d p2)), .second, .val (.ref b4), .unset, .unset, .unset] [])) _
    refine XS.iloadN X5.here hx rfl (hb hby at_17) rfl ?_
    show Steps p.tables e below (T5.setTop (mkF m 18 #[.val (.long q1), .second, .val (.int p2), .val (.int p3), .val (.double (FP.l2d q1)), .second, .val (.double (FP.i2d p2)), .second, .val (.ref b4), .unset, .unset, .unset] [(.int p3)])) _
    refine XS.iconst X5.here hx rfl (hb hby at_18) ?_
    show Steps p.tables e below (T5.setTop (mkF m 19 #[.val (.long q1), .second, .val (.int p2), .val (.int p3), .val (.double (FP.l2d q1)), .second, .val (.double (FP.i2d p2)), .second, .val (.ref b4), .unset, .unset, .unset] [(.int (1 : Int32)), (.int p3)])) _
    refine XS.iand X5.here hx rfl (hb hby at_19) rfl ?_
    show Steps p.tables e below (T5.setTop (mkF m 20 #[.val (.long q1), .second, .val (.int p2), .val (.int p3), .val (.double (FP.l2d q1)), .second, .val (.double (FP.i2d p2)), .second, .val (.ref b4), .unset, .unset, .unset] [(.int (p3 &&& (1 : Int32)))])) _
    refine XS.ifNo X5.here hx rfl (hb hby at_20) rfl ((if0 _ _).trans (feq hc20).1) ?_
    show Steps p.tables e below (T5.setTop (mkF m 23 #[.val (.long q1), .second, .val (.int p2), .val (.int p3), .val (.double (FP.l2d q1)), .second, .val (.double (FP.i2d p2)), .second, .val (.ref b4), .unset, .unset, .unset] [])) _
    refine XS.iconst X5.here hx rfl (hb hby at_23) ?_
    show Steps p.tables e below (T5.setTop (mkF m 24 #[.val (.long q1), .second, .val (.int p2), .val (.int p3), .val (.double (FP.l2d q1)), .second, .val (.double (FP.i2d p2)), .second, .val (.ref b4), .unset, .unset, .unset] [(.int (1 : Int32))])) _
    refine XS.goto X5.here hx rfl (pc0 := 24) (pc' := 28) rfl (hb hby at_24) (by decide) (by decide) ?_
    show Steps p.tables e below (T5.setTop (mkF m 28 #[.val (.long q1), .second, .val (.int p2), .val (.int p3), .val (.double (FP.l2d q1)), .second, .val (.double (FP.i2d p2)), .second, .val (.ref b4), .unset, .unset, .unset] [(.int (1 : Int32))])) _
    refine XS.istore X5.here hx rfl (hb hby at_28) rfl (l' := #[.val (.long q1), .second, .val (.int p2), .val (.int p3), .val (.double (FP.l2d q1)), .second, .val (.double (FP.i2d p2)), .second, .val (.ref b4), .val (.int (1 : Int32)), .unset, .unset]) rfl ?_
    show Steps p.tables e below (T5.setTop (mkF m 30 #[.val (.long q1), .second, .val (.int p2), .val (.int p3), .val (.double (FP.l2d q1)), .second, .val (.double (FP.i2d p2)), .second, .val (.ref b4), .val (.int (1 : Int32)), .unset, .unset] [])) _
    refine XS.iload X5.here hx rfl (hb hby at_30) rfl ?_
    show Steps p.tables e below (T5.setTop (mkF m 32 #[.val (.long q1), .second, .val (.int p2), .val (.int p3), .val (.double (FP.l2d q1)), .second, .val (.double (FP.i2d p2)), .second, .val (.ref b4), .val (.int (1 : Int32)), .unset, .unset] [(.int (1 : Int32))])) _
    refine XS.ifNo X5.here hx rfl (hb hby at_32) rfl ((if0 _ _).trans (feq hc32).1) ?_
    show Steps p.tables e below (T5.setTop (mkF m 35 #[.val (.long q1), .second, .val (.int p2), .val (.int p3), .val (.double (FP.l2d q1)), .second, .val (.double (FP.i2d p2)), .second, .val (.ref b4), .val (.int (1 : Int32)), .unset, .unset] [])) _
    refine XS.aload X5.here hx rfl (hb hby at_35) rfl rfl ?_
    show Steps p.tables e below (T5.setTop (mkF m 37 #[.val (.long q1), .second, .val (.int p2), .val (.int p3), .val (.double (FP.l2d q1)), .second, .val (.double (FP.i2d p2)), .second, .val (.ref b4), .val (.int (1 : Int32)), .unset, .unset] [(.ref b4)])) _
    refine XS.dload X5.here hx rfl (hb hby at_37) rfl ?_
    show Steps p.tables e below (T5.setTop (mkF m 39 #[.val (.long q1), .second, .val (.int p2), .val (.int p3), .val (.double (FP.l2d q1)), .second, .val (.double (FP.i2d p2)), .second, .val (.ref b4), .val (.int (1 : Int32)), .unset, .unset] [(.double (FP.l2d q1)), (.ref b4)])) _
    refine st6.trans ?_
    show Steps p.tables e below (T6.setTop (mkF m 42 #[.val (.long q1), .second, .val (.int p2), .val (.int p3), .val (.double (FP.l2d q1)), .second, .val (.double (FP.i2d p2)), .second, .val (.ref b4), .val (.int (1 : Int32)), .unset, .unset] [])) _
    refine XS.aload X6.here hx rfl (hb hby at_42) rfl rfl ?_
    show Steps p.tables e below (T6.setTop (mkF m 44 #[.val (.long q1), .second, .val (.int p2), .val (.int p3), .val (.double (FP.l2d q1)), .second, .val (.double (FP.i2d p2)), .second, .val (.ref b4), .val (.int (1 : Int32)), .unset, .unset] [(.ref b4)])) _
    refine st7.trans ?_
    show Steps p.tables e below (T7.setTop (mkF m 47 #[.val (.long q1), .second, .val (.int p2), .val (.int p3), .val (.double (FP.l2d q1)), .second, .val (.double (FP.i2d p2)), .second, .val (.ref b4), .val (.int (1 : Int32)), .unset, .unset] [(.double V1)])) _
    refine XS.dload X7.here hx rfl (hb hby at_47) rfl ?_
    show Steps p.tables e below (T7.setTop (mkF m 49 #[.val (.long q1), .second, .val (.int p2), .val (.int p3), .val (.double (FP.l2d q1)), .second, .val (.double (FP.i2d p2)), .second, .val (.ref b4), .val (.int (1 : Int32)), .unset, .unset] [(.double (FP.l2d q1)), (.double V1)])) _
    refine XS.dcmpS X7.here hx rfl (hb hby at_49) rfl rfl ?_
    show Steps p.tables e below (T7.setTop (mkF m 50 #[.val (.long q1), .second, .val (.int p2), .val (.int p3), .val (.double (FP.l2d q1)), .second, .val (.double (FP.i2d p2)), .second, .val (.ref b4), .val (.int (1 : Int32)), .unset, .unset] [(.int (cmpValue (FP.dcmp V1 (FP.l2d q1)) .l))])) _
    refine XS.ifNo X7.here hx rfl (hb hby at_50) rfl ((if0 _ _).trans (teq (v0.2.2 : (cmpValue (FP.dcmp V1 (FP.l2d q1)) .l) = (0 : Int32))).2) ?_
    show Steps p.tables e below (T7.setTop (mkF m 53 #[.val (.long q1), .second, .val (.int p2), .val (.int p3), .val (.double (FP.l2d q1)), .second, .val (.double (FP.i2d p2)), .second, .val (.ref b4), .val (.int (1 : Int32)), .unset, .unset] [])) _
    refine XS.iconst X7.here hx rfl (hb hby at_53) ?_
    show Steps p.tables e below (T7.setTop (mkF m 54 #[.val (.long q1), .second, .val (.int p2), .val (.int p3), .val (.double (FP.l2d q1)), .second, .val (.double (FP.i2d p2)), .second, .val (.ref b4), .val (.int (1 : Int32)), .unset, .unset] [(.int (1 : Int32))])) _
    refine XS.goto X7.here hx rfl (pc0 := 54) (pc' := 58) rfl (hb hby at_54) (by decide) (by decide) ?_
    show Steps p.tables e below (T7.setTop (mkF m 58 #[.val (.long q1), .second, .val (.int p2), .val (.int p3), .val (.double (FP.l2d q1)), .second, .val (.double (FP.i2d p2)), .second, .val (.ref b4), .val (.int (1 : Int32)), .unset, .unset] [(.int (1 : Int32))])) _
    refine XS.istore X7.here hx rfl (hb hby at_58) rfl (l' := #[.val (.long q1), .second, .val (.int p2), .val (.int p3), .val (.double (FP.l2d q1)), .second, .val (.double (FP.i2d p2)), .second, .val (.ref b4), .val (.int (1 : Int32)), .val (.int (1 : Int32)), .unset]) rfl ?_
    show Steps p.tables e below (T7.setTop (mkF m 60 #[.val (.long q1), .second, .val (.int p2), .val (.int p3), .val (.double (FP.l2d q1)), .second, .val (.double (FP.i2d p2)), .second, .val (.ref b4), .val (.int (1 : Int32)), .val (.int (1 : Int32)), .unset] [])) _
    refine XS.aload X7.here hx rfl (hb hby at_60) rfl rfl ?_
    show Steps p.tables e below (T7.setTop (mkF m 62 #[.val (.long q1), .second, .val (.int p2), .val (.int p3), .val (.double (FP.l2d q1)), .second, .val (.double (FP.i2d p2)), .second, .val (.ref b4), .val (.int (1 : Int32)), .val (.int (1 : Int32)), .unset] [(.ref b4)])) _
    refine XS.dload X7.here hx rfl (hb hby at_62) rfl ?_
    show Steps p.tables e below (T7.setTop (mkF m 64 #[.val (.long q1), .second, .val (.int p2), .val (.int p3), .val (.double (FP.l2d q1)), .second, .val (.double (FP.i2d p2)), .second, .val (.ref b4), .val (.int (1 : Int32)), .val (.int (1 : Int32)), .unset] [(.double (FP.i2d p2)), (.ref b4)])) _
    refine st8.trans ?_
    show Steps p.tables e below (T8.setTop (mkF m 67 #[.val (.long q1), .second, .val (.int p2), .val (.int p3), .val (.double (FP.l2d q1)), .second, .val (.double (FP.i2d p2)), .second, .val (.ref b4), .val (.int (1 : Int32)), .val (.int (1 : Int32)), .unset] [])) _
    refine XS.goto X8.here hx rfl (pc0 := 67) (pc' := 102) rfl (hb hby at_67) (by decide) (by decide) ?_
    show Steps p.tables e below (T8.setTop (mkF m 102 #[.val (.long q1), .second, .val (.int p2), .val (.int p3), .val (.double (FP.l2d q1)), .second, .val (.double (FP.i2d p2)), .second, .val (.ref b4), .val (.int (1 : Int32)), .val (.int (1 : Int32)), .unset] [])) _
    refine XS.aload X8.here hx rfl (hb hby at_102) rfl rfl ?_
    show Steps p.tables e below (T8.setTop (mkF m 104 #[.val (.long q1), .second, .val (.int p2), .val (.int p3), .val (.double (FP.l2d q1)), .second, .val (.double (FP.i2d p2)), .second, .val (.ref b4), .val (.int (1 : Int32)), .val (.int (1 : Int32)), .unset] [(.ref b4)])) _
    refine st9.trans ?_
    show Steps p.tables e below (T9.setTop (mkF m 107 #[.val (.long q1), .second, .val (.int p2), .val (.int p3), .val (.double (FP.l2d q1)), .second, .val (.double (FP.i2d p2)), .second, .val (.ref b4), .val (.int (1 : Int32)), .val (.int (1 : Int32)), .unset] [(.double V2)])) _
    refine XS.dload X9.here hx rfl (hb hby at_107) rfl ?_
    show Steps p.tables e below (T9.setTop (mkF m 109 #[.val (.long q1), .second, .val (.int p2), .val (.int p3), .val (.double (FP.l2d q1)), .second, .val (.double (FP.i2d p2)), .second, .val (.ref b4), .val (.int (1 : Int32)), .val (.int (1 : Int32)), .unset] [(.double (FP.l2d q1)), (.double V2)])) _
    refine XS.dload X9.here hx rfl (hb hby at_109) rfl ?_
    show Steps p.tables e below (T9.setTop (mkF m 111 #[.val (.long q1), .second, .val (.int p2), .val (.int p3), .val (.double (FP.l2d q1)), .second, .val (.double (FP.i2d p2)), .second, .val (.ref b4), .val (.int (1 : Int32)), .val (.int (1 : Int32)), .unset] [(.double (FP.i2d p2)), (.double (FP.l2d q1)), (.double V2)])) _
    refine XS.daddS X9.here hx rfl (hb hby at_111) rfl hnn111 rfl ?_
    show Steps p.tables e below (T9.setTop (mkF m 112 #[.val (.long q1), .second, .val (.int p2), .val (.int p3), .val (.double (FP.l2d q1)), .second, .val (.double (FP.i2d p2)), .second, .val (.ref b4), .val (.int (1 : Int32)), .val (.int (1 : Int32)), .unset] [(.double (FP.dadd (FP.l2d q1) (FP.i2d p2))), (.double V2)])) _
    refine XS.dcmpS X9.here hx rfl (hb hby at_112) rfl rfl ?_
    show Steps p.tables e below (T9.setTop (mkF m 113 #[.val (.long q1), .second, .val (.int p2), .val (.int p3), .val (.double (FP.l2d q1)), .second, .val (.double (FP.i2d p2)), .second, .val (.ref b4), .val (.int (1 : Int32)), .val (.int (1 : Int32)), .unset] [(.int (cmpValue (FP.dcmp V2 (FP.dadd (FP.l2d q1) (FP.i2d p2))) .l))])) _
    refine XS.ifNo X9.here hx rfl (hb hby at_113) rfl ((if0 _ _).trans (teq (v1.2.2 : (cmpValue (FP.dcmp V2 (FP.dadd (FP.l2d q1) (FP.i2d p2))) .l) = (0 : Int32))).2) ?_
    show Steps p.tables e below (T9.setTop (mkF m 116 #[.val (.long q1), .second, .val (.int p2), .val (.int p3), .val (.double (FP.l2d q1)), .second, .val (.double (FP.i2d p2)), .second, .val (.ref b4), .val (.int (1 : Int32)), .val (.int (1 : Int32)), .unset] [])) _
    refine XS.iconst X9.here hx rfl (hb hby at_116) ?_
    show Steps p.tables e below (T9.setTop (mkF m 117 #[.val (.long q1), .second, .val (.int p2), .val (.int p3), .val (.double (FP.l2d q1)), .second, .val (.double (FP.i2d p2)), .second, .val (.ref b4), .val (.int (1 : Int32)), .val (.int (1 : Int32)), .unset] [(.int (1 : Int32))])) _
    refine XS.goto X9.here hx rfl (pc0 := 117) (pc' := 121) rfl (hb hby at_117) (by decide) (by decide) ?_
    show Steps p.tables e below (T9.setTop (mkF m 121 #[.val (.long q1), .second, .val (.int p2), .val (.int p3), .val (.double (FP.l2d q1)), .second, .val (.double (FP.i2d p2)), .second, .val (.ref b4), .val (.int (1 : Int32)), .val (.int (1 : Int32)), .unset] [(.int (1 : Int32))])) _
    refine XS.istore X9.here hx rfl (hb hby at_121) rfl (l' := #[.val (.long q1), .second, .val (.int p2), .val (.int p3), .val (.double (FP.l2d q1)), .second, .val (.double (FP.i2d p2)), .second, .val (.ref b4), .val (.int (1 : Int32)), .val (.int (1 : Int32)), .val (.int (1 : Int32))]) rfl ?_
    show Steps p.tables e below (T9.setTop (mkF m 123 #[.val (.long q1), .second, .val (.int p2), .val (.int p3), .val (.double (FP.l2d q1)), .second, .val (.double (FP.i2d p2)), .second, .val (.ref b4), .val (.int (1 : Int32)), .val (.int (1 : Int32)), .val (.int (1 : Int32))] [])) _
    refine XS.aload X9.here hx rfl (hb hby at_123) rfl rfl ?_
    show Steps p.tables e below (T9.setTop (mkF m 125 #[.val (.long q1), .second, .val (.int p2), .val (.int p3), .val (.double (FP.l2d q1)), .second, .val (.double (FP.i2d p2)), .second, .val (.ref b4), .val (.int (1 : Int32)), .val (.int (1 : Int32)), .val (.int (1 : Int32))] [(.ref b4)])) _
    refine XS.dload X9.here hx rfl (hb hby at_125) rfl ?_
    show Steps p.tables e below (T9.setTop (mkF m 127 #[.val (.long q1), .second, .val (.int p2), .val (.int p3), .val (.double (FP.l2d q1)), .second, .val (.double (FP.i2d p2)), .second, .val (.ref b4), .val (.int (1 : Int32)), .val (.int (1 : Int32)), .val (.int (1 : Int32))] [(.double (FP.l2d q1)), (.ref b4)])) _
    refine XS.dnegS X9.here hx rfl (hb hby at_127) rfl rfl ?_
    show Steps p.tables e below (T9.setTop (mkF m 128 #[.val (.long q1), .second, .val (.int p2), .val (.int p3), .val (.double (FP.l2d q1)), .second, .val (.double (FP.i2d p2)), .second, .val (.ref b4), .val (.int (1 : Int32)), .val (.int (1 : Int32)), .val (.int (1 : Int32))] [(.double (FP.dneg (FP.l2d q1))), (.ref b4)])) _
    refine st10.trans ?_
    show Steps p.tables e below (T10.setTop (mkF m 131 #[.val (.long q1), .second, .val (.int p2), .val (.int p3), .val (.double (FP.l2d q1)), .second, .val (.double (FP.i2d p2)), .second, .val (.ref b4), .val (.int (1 : Int32)), .val (.int (1 : Int32)), .val (.int (1 : Int32))] [])) _
    refine XS.iload X10.here hx rfl (hb hby at_131) rfl ?_
    show Steps p.tables e below (T10.setTop (mkF m 133 #[.val (.long q1), .second, .val (.int p2), .val (.int p3), .val (.double (FP.l2d q1)), .second, .val (.double (FP.i2d p2)), .second, .val (.ref b4), .val (.int (1 : Int32)), .val (.int (1 : Int32)), .val (.int (1 : Int32))] [(.int (1 : Int32))])) _
    refine XS.ifNo X10.here hx rfl (hb hby at_133) rfl ((if0 _ _).trans (feq hc133).1) ?_
    show Steps p.tables e below (T10.setTop (mkF m 136 #[.val (.long q1), .second, .val (.int p2), .val (.int p3), .val (.double (FP.l2d q1)), .second, .val (.double (FP.i2d p2)), .second, .val (.ref b4), .val (.int (1 : Int32)), .val (.int (1 : Int32)), .val (.int (1 : Int32))] [])) _
    refine XS.iload X10.here hx rfl (hb hby at_136) rfl ?_
    show Steps p.tables e below (T10.setTop (mkF m 138 #[.val (.long q1), .second, .val (.int p2), .val (.int p3), .val (.double (FP.l2d q1)), .second, .val (.double (FP.i2d p2)), .second, .val (.ref b4), .val (.int (1 : Int32)), .val (.int (1 : Int32)), .val (.int (1 : Int32))] [(.int (1 : Int32))])) _
    refine XS.ifNo X10.here hx rfl (hb hby at_138) rfl ((if0 _ _).trans (feq hc138).1) ?_
    show Steps p.tables e below (T10.setTop (mkF m 141 #[.val (.long q1), .second, .val (.int p2), .val (.int p3), .val (.double (FP.l2d q1)), .second, .val (.double (FP.i2d p2)), .second, .val (.ref b4), .val (.int (1 : Int32)), .val (.int (1 : Int32)), .val (.int (1 : Int32))] [])) _
    refine XS.aload X10.here hx rfl (hb hby at_141) rfl rfl ?_
    show Steps p.tables e below (T10.setTop (mkF m 143 #[.val (.long q1), .second, .val (.int p2), .val (.int p3), .val (.double (FP.l2d q1)), .second, .val (.double (FP.i2d p2)), .second, .val (.ref b4), .val (.int (1 : Int32)), .val (.int (1 : Int32)), .val (.int (1 : Int32))] [(.ref b4)])) _
    refine st11.trans ?_
    show Steps p.tables e below (T11.setTop (mkF m 146 #[.val (.long q1), .second, .val (.int p2), .val (.int p3), .val (.double (FP.l2d q1)), .second, .val (.double (FP.i2d p2)), .second, .val (.ref b4), .val (.int (1 : Int32)), .val (.int (1 : Int32)), .val (.int (1 : Int32))] [(.double V3)])) _
    refine XS.dload X11.here hx rfl (hb hby at_146) rfl ?_
    show Steps p.tables e below (T11.setTop (mkF m 148 #[.val (.long q1), .second, .val (.int p2), .val (.int p3), .val (.double (FP.l2d q1)), .second, .val (.double (FP.i2d p2)), .second, .val (.ref b4), .val (.int (1 : Int32)), .val (.int (1 : Int32)), .val (.int (1 : Int32))] [(.double (FP.i2d p2)), (.double V3)])) _
    refine XS.dcmpS X11.here hx rfl (hb hby at_148) rfl rfl ?_
    show Steps p.tables e below (T11.setTop (mkF m 149 #[.val (.long q1), .second, .val (.int p2), .val (.int p3), .val (.double (FP.l2d q1)), .second, .val (.double (FP.i2d p2)), .second, .val (.ref b4), .val (.int (1 : Int32)), .val (.int (1 : Int32)), .val (.int (1 : Int32))] [(.int (cmpValue (FP.dcmp V3 (FP.i2d p2)) .l))])) _
    refine XS.ifNo X11.here hx rfl (hb hby at_149) rfl ((if0 _ _).trans (teq (v2.2.2 : (cmpValue (FP.dcmp V3 (FP.i2d p2)) .l) = (0 : Int32))).2) ?_
    show Steps p.tables e below (T11.setTop (mkF m 152 #[.val (.long q1), .second, .val (.int p2), .val (.int p3), .val (.double (FP.l2d q1)), .second, .val (.double (FP.i2d p2)), .second, .val (.ref b4), .val (.int (1 : Int32)), .val (.int (1 : Int32)), .val (.int (1 : Int32))] [])) _
    refine XS.iconst X11.here hx rfl (hb hby at_152) ?_
    show Steps p.tables e below (T11.setTop (mkF m 153 #[.val (.long q1), .second, .val (.int p2), .val (.int p3), .val (.double (FP.l2d q1)), .second, .val (.double (FP.i2d p2)), .second, .val (.ref b4), .val (.int (1 : Int32)), .val (.int (1 : Int32)), .val (.int (1 : Int32))] [(.int (1 : Int32))])) _
    refine XS.goto X11.here hx rfl (pc0 := 153) (pc' := 157) rfl (hb hby at_153) (by decide) (by decide) ?_
    show Steps p.tables e below (T11.setTop (mkF m 157 #[.val (.long q1), .second, .val (.int p2), .val (.int p3), .val (.double (FP.l2d q1)), .second, .val (.double (FP.i2d p2)), .second, .val (.ref b4), .val (.int (1 : Int32)), .val (.int (1 : Int32)), .val (.int (1 : Int32))] [(.int (1 : Int32))])) _
    exact retN X11 hx (t := .boolean) Bd.returns (by simp) (hb hby at_157) hr
  · show Q0a Z q1 p2 p3 h0 n0 _ T11.heap _
    exact ⟨rfl, N11⟩
def Q0b (Z : State) (q1 : Int64) (p2 : Int32) (p3 : Int32) (h0 : Heap) (n0 : Nat) (v : Option Value) (h : Heap) (L : List Loc) : Prop := v = some (.int (1 : Int32)) ∧ Fr n0 L
set_option maxRecDepth 65536 in
set_option maxHeartbeats 40000000 in
theorem rm0b (l : Launch) (Z : State) (a0 : Array Value) (hw : ∀ d ∈ tables_1, d.before a0 Z = true) (ws : List Jvm.Cond) (q1 : Int64) (p2 : Int32) (p3 : Int32) (h0 : Heap) (n0 : Nat) (Z0 : n0 ≤ h0.size) (hc20 : (p3 &&& (1 : Int32)) = (0 : Int32)) (hc133 : ¬ ((1 : Int32) = (0 : Int32))) (hc138 : ¬ ((1 : Int32) = (0 : Int32))) :
    MetFree l x (head1 (Jvm.Cond.code x code maxLocals ret :: ws) room_1) (fun a U => a = #[(.long q1), (.int p2), (.int p3)] ∧ Z.Warmed39 U.vm ∧ U.heap = h0) (fun _ _ _ _ _ => True) (fun _ U o U' => ∃ v L, o = .returned v ∧ Q0b Z q1 p2 p3 h0 n0 v U'.heap L ∧ FrameEnd U o U' L room_1.cells room_1.slots) := by
  refine MetFree.of_bodySF (plainFor_of_name pn_0) hisR ?_
  intro p e s m args below meth c s₁ Bd hml0 hP hK
  obtain ⟨rfl, hZ, hh⟩ := hP
  have hx := Bd.exec
  have hby := Bd.bytes
  have hml : c.maxLocals = 12 := hml0
  have hown : s.vm.findClass "com/example/gauge/gauge/capital/CompensatedSumAddPinLaw" = some m.cls := findClass_of_methodNamed Bd.named
  have hnm := (name_of_methodNamed Bd.named Bd.method).1
  have X0 : Stand p l e room_1 s m #[(.long q1), (.int p2), (.int p3)] below meth c s₁ [] 0 0 := Stand.of_body Bd
  have e0 : s₁.heap = h0 := by rw [← hh, Bd.state]; rfl
  have N0 := Fr.nil n0
  obtain ⟨H1, G1, H2, G2, H3, G3, V1, V2, V3, k0, v0, k1, v1, k2, v2, hnn111⟩ := (own_runs q1 p2).2
  have pre0 : ∀ t, Steps p.tables e below (s₁.setTop (mkF m 0 #[.val (.long q1), .second, .val (.int p2), .val (.int p3), .unset, .unset, .unset, .unset, .unset, .unset, .unset, .unset] [])) t → Steps p.tables e below (s₁.setTop (entryFrame m #[(.long q1), (.int p2), (.int p3)] maxLocals)) t := fun t k => castTop (ef_0 m q1 p2 p3) k
  obtain ⟨T4, h4, X4, e4, E4, A4, D4, -, st4⟩ := newO X0 hx hZ hown (hw _ (List.mem_of_getElem? (i := 0) rfl)) (hw _ (List.mem_of_getElem? (i := 1) rfl)) (hw _ (List.mem_of_getElem? (i := 2) rfl)) e0 (g := (mkF m 8 #[.val (.long q1), .second, .val (.int p2), .val (.int p3), .val (.double (FP.l2d q1)), .second, .val (.double (FP.i2d p2)), .second, .unset, .unset, .unset, .unset] [])) rfl (hb hby at_8) (by decide) (by decide)
  obtain ⟨b4, g4⟩ : ∃ z, z = h0.size := ⟨_, rfl⟩
  rw [← g4] at A4 D4 st4
  have F_high_b4 : Fld Z h4 b4 "com/example/gauge/gauge/capital/CompensatedSum" "high" "D" (.double (0 : UInt64)) := D4 (Or.inl (hw _ (List.mem_of_getElem? (i := 15) rfl))) (ty := .double) (by decide)
  have F_low_b4 : Fld Z h4 b4 "com/example/gauge/gauge/capital/CompensatedSum" "low" "D" (.double (0 : UInt64)) := D4 (Or.inl (hw _ (List.mem_of_getElem? (i := 17) rfl))) (ty := .double) (by decide)
  have E_b4 := A4
  have g_b4 : n0 ≤ b4 := Nat.le_trans Z0 (Nat.le_of_eq g4.symm)
  have sz_b4 : h0.size ≤ b4 := (Nat.le_trans (Keep.refl h0 []).1 (Nat.le_of_eq g4.symm))
  have K4 : Keep h0 h4 [] := (Keep.refl h0 []).ext E4
  obtain ⟨_, _, ⟨T5, L5, k5, n5⟩, -, X5, ⟨Lc5, hQ5, l5, y5, z5⟩, st5⟩ := X4.specialBack hx (y := (⟨"com/example/gauge/gauge/capital/CompensatedSum", "<init>", "()V"⟩ : MethodName)) rfl hown (mvT hZ (hw _ (List.mem_of_getElem? (i := 3) rfl))) (mvT hZ (hw _ (List.mem_of_getElem? (i := 4) rfl))) (mvT hZ (hw _ (List.mem_of_getElem? (i := 5) rfl))) (by decide) (backOf (W := 1) (rm1 l Z a0 hw [] b4 h4 n0 (Nat.le_trans Z0 K4.1)) hZ (hw _ (List.mem_of_getElem? (i := 5) rfl)) (hw _ (List.mem_of_getElem? (i := 2) rfl)) (by decide) (by decide)) (g := (mkF m 12 #[.val (.long q1), .second, .val (.int p2), .val (.int p3), .val (.double (FP.l2d q1)), .second, .val (.double (FP.i2d p2)), .second, .unset, .unset, .unset, .unset] [(.ref b4), (.ref b4)])) rfl (by rw [hml]; rfl) (Steps.refl _) (a := b4) (argsL := []) (rest := [(.ref b4)]) (lenOf pd_0_0 rfl) rfl (by show 2 * 0 + _ ≤ _; exact Nat.le_of_eq rfl) (hb hby at_12) (fun _ _ => ⟨rfl, e4, (by decide : 1 + 0 ≤ _), (by decide : 2 + 0 ≤ _)⟩)
  dsimp only [Pt.U, Pt.locs, Pt.cells, Pt.slots] at X5 l5 y5 z5 st5 hQ5
  subst l5 y5 z5
  obtain ⟨rfl, N5q, k5q⟩ := hQ5
  have N5 := Fr.app N0 N5q
  have E5 : Exa Z T5.heap b4 "com/example/gauge/gauge/capital/CompensatedSum" := by rw [k5q]; exact E_b4
  have Fh5 : Fld Z T5.heap b4 "com/example/gauge/gauge/capital/CompensatedSum" "high" "D" (.double (0 : UInt64)) := by rw [k5q]; exact F_high_b4
  have Fl5 : Fld Z T5.heap b4 "com/example/gauge/gauge/capital/CompensatedSum" "low" "D" (.double (0 : UInt64)) := by rw [k5q]; exact F_low_b4
  have Z5 : n0 ≤ T5.heap.size := by rw [k5q]; exact Nat.le_trans Z0 K4.1
  obtain ⟨cq6, kq6, q6a, q6b, q6c⟩ := isOf hZ rfl E5
  obtain ⟨_, _, ⟨T6, L6, k6, n6⟩, -, X6, ⟨Lc6, hQ6, l6, y6, z6⟩, st6⟩ := X5.virtualBack hx (y := (⟨"com/example/gauge/gauge/capital/CompensatedSum", "add", "(D)V"⟩ : MethodName)) (z := (⟨"com/example/gauge/gauge/capital/CompensatedSum", "add", "(D)V"⟩ : MethodName)) hown (mvT hZ (hw _ (List.mem_of_getElem? (i := 9) rfl))) (mvT hZ (hw _ (List.mem_of_getElem? (i := 10) rfl))) (notFace_of_selects (args := #[]) (mvT hZ (hw _ (List.mem_of_getElem? (i := 12) rfl)))) (mvT hZ (hw _ (List.mem_of_getElem? (i := 12) rfl))) (mvT hZ (hw _ (List.mem_of_getElem? (i := 11) rfl))) (by decide) (backOf (W := 0) (rm3d l Z a0 hw [] b4 (FP.i2d p2) 0 0 H1 G1 T5.heap n0 Z5 Fh5 Fl5 E5 g_b4 k0) hZ (hw _ (List.mem_of_getElem? (i := 13) rfl)) (hw _ (List.mem_of_getElem? (i := 2) rfl)) (by decide) (by decide)) q6a q6c (g := (mkF m 74 #[.val (.long q1), .second, .val (.int p2), .val (.int p3), .val (.double (FP.l2d q1)), .second, .val (.double (FP.i2d p2)), .second, .val (.ref b4), .val (.int (0 : Int32)), .unset, .unset] [(.double (FP.i2d p2)), (.ref b4)])) rfl (by rw [hml]; rfl) (Steps.refl _) (argsL := [(.double (FP.i2d p2))]) (rest := []) (lenOf pd_0_1 rfl) rfl (by show 2 * 0 + _ ≤ _; exact Nat.le_of_eq rfl) (hb hby at_74) (fun _ _ => ⟨rfl, rfl, (by decide : 1 + 0 ≤ _), (by decide : 2 + 0 ≤ _)⟩)
  dsimp only [Pt.U, Pt.locs, Pt.cells, Pt.slots] at X6 l6 y6 z6 st6 hQ6
  subst l6 y6 z6
  obtain ⟨rfl, N6q, K6, E6, Fh6, Fl6⟩ := hQ6
  have N6 := Fr.app N5 N6q
  have Z6 : n0 ≤ T6.heap.size := Nat.le_trans Z5 K6.1
  obtain ⟨cq7, kq7, q7a, q7b, q7c⟩ := isOf hZ rfl E6
  obtain ⟨_, _, ⟨T7, L7, k7, n7⟩, -, X7, ⟨Lc7, hQ7, l7, y7, z7⟩, st7⟩ := X6.virtualBack hx (y := (⟨"com/example/gauge/gauge/capital/CompensatedSum", "value", "()D"⟩ : MethodName)) (z := (⟨"com/example/gauge/gauge/capital/CompensatedSum", "value", "()D"⟩ : MethodName)) hown (mvT hZ (hw _ (List.mem_of_getElem? (i := 18) rfl))) (mvT hZ (hw _ (List.mem_of_getElem? (i := 19) rfl))) (notFace_of_selects (args := #[]) (mvT hZ (hw _ (List.mem_of_getElem? (i := 21) rfl)))) (mvT hZ (hw _ (List.mem_of_getElem? (i := 21) rfl))) (mvT hZ (hw _ (List.mem_of_getElem? (i := 20) rfl))) (by decide) (backOf (W := 0) (rm4d l Z a0 hw [] b4 H1 G1 V1 T6.heap n0 Z6 Fh6 Fl6 v0.1 v0.2.1) hZ (hw _ (List.mem_of_getElem? (i := 22) rfl)) (hw _ (List.mem_of_getElem? (i := 2) rfl)) (by decide) (by decide)) q7a q7c (g := (mkF m 79 #[.val (.long q1), .second, .val (.int p2), .val (.int p3), .val (.double (FP.l2d q1)), .second, .val (.double (FP.i2d p2)), .second, .val (.ref b4), .val (.int (0 : Int32)), .unset, .unset] [(.ref b4)])) rfl (by rw [hml]; rfl) (Steps.refl _) (argsL := []) (rest := []) (lenOf pd_0_2 rfl) rfl (by show 2 * 0 + _ ≤ _; exact Nat.le_of_eq rfl) (hb hby at_79) (fun _ _ => ⟨rfl, rfl, (by decide : 1 + 0 ≤ _), (by decide : 2 + 0 ≤ _)⟩)
  dsimp only [Pt.U, Pt.locs, Pt.cells, Pt.slots] at X7 l7 y7 z7 st7 hQ7
  subst l7 y7 z7
  obtain ⟨rfl, N7q, k7q⟩ := hQ7
  have N7 := Fr.app N6 N7q
  have E7 : Exa Z T7.heap b4 "com/example/gauge/gauge/capital/CompensatedSum" := by rw [k7q]; exact E6
  have Fh7 : Fld Z T7.heap b4 "com/example/gauge/gauge/capital/CompensatedSum" "high" "D" (.double H1) := by rw [k7q]; exact Fh6
  have Fl7 : Fld Z T7.heap b4 "com/example/gauge/gauge/capital/CompensatedSum" "low" "D" (.double G1) := by rw [k7q]; exact Fl6
  have Z7 : n0 ≤ T7.heap.size := by rw [k7q]; exact Z6
  obtain ⟨cq8, kq8, q8a, q8b, q8c⟩ := isOf hZ rfl E7
  obtain ⟨_, _, ⟨T8, L8, k8, n8⟩, -, X8, ⟨Lc8, hQ8, l8, y8, z8⟩, st8⟩ := X7.virtualBack hx (y := (⟨"com/example/gauge/gauge/capital/CompensatedSum", "add", "(D)V"⟩ : MethodName)) (z := (⟨"com/example/gauge/gauge/capital/CompensatedSum", "add", "(D)V"⟩ : MethodName)) hown (mvT hZ (hw _ (List.mem_of_getElem? (i := 9) rfl))) (mvT hZ (hw _ (List.mem_of_getElem? (i := 10) rfl))) (notFace_of_selects (args := #[]) (mvT hZ (hw _ (List.mem_of_getElem? (i := 12) rfl)))) (mvT hZ (hw _ (List.mem_of_getElem? (i := 12) rfl))) (mvT hZ (hw _ (List.mem_of_getElem? (i := 11) rfl))) (by decide) (backOf (W := 0) (rm3d l Z a0 hw [] b4 (FP.l2d q1) H1 G1 H2 G2 T7.heap n0 Z7 Fh7 Fl7 E7 g_b4 k1) hZ (hw _ (List.mem_of_getElem? (i := 13) rfl)) (hw _ (List.mem_of_getElem? (i := 2) rfl)) (by decide) (by decide)) q8a q8c (g := (mkF m 99 #[.val (.long q1), .second, .val (.int p2), .val (.int p3), .val (.double (FP.l2d q1)), .second, .val (.double (FP.i2d p2)), .second, .val (.ref b4), .val (.int (0 : Int32)), .val (.int (1 : Int32)), .unset] [(.double (FP.l2d q1)), (.ref b4)])) rfl (by rw [hml]; rfl) (Steps.refl _) (argsL := [(.double (FP.l2d q1))]) (rest := []) (lenOf pd_0_1 rfl) rfl (by show 2 * 0 + _ ≤ _; exact Nat.le_of_eq rfl) (hb hby at_99) (fun _ _ => ⟨rfl, rfl, (by decide : 1 + 0 ≤ _), (by decide : 2 + 0 ≤ _)⟩)
  dsimp only [Pt.U, Pt.locs, Pt.cells, Pt.slots] at X8 l8 y8 z8 st8 hQ8
  subst l8 y8 z8
  obtain ⟨rfl, N8q, K8, E8, Fh8, Fl8⟩ := hQ8
  have N8 := Fr.app N7 N8q
  have Z8 : n0 ≤ T8.heap.size := Nat.le_trans Z7 K8.1
  obtain ⟨cq9, kq9, q9a, q9b, q9c⟩ := isOf hZ rfl E8
  obtain ⟨_, _, ⟨T9, L9, k9, n9⟩, -, X9, ⟨Lc9, hQ9, l9, y9, z9⟩, st9⟩ := X8.virtualBack hx (y := (⟨"com/example/gauge/gauge/capital/CompensatedSum", "value", "()D"⟩ : MethodName)) (z := (⟨"com/example/gauge/gauge/capital/CompensatedSum", "value", "()D"⟩ : MethodName)) hown (mvT hZ (hw _ (List.mem_of_getElem? (i := 18) rfl))) (mvT hZ (hw _ (List.mem_of_getElem? (i := 19) rfl))) (notFace_of_selects (args := #[]) (mvT hZ (hw _ (List.mem_of_getElem? (i := 21) rfl)))) (mvT hZ (hw _ (List.mem_of_getElem? (i := 21) rfl))) (mvT hZ (hw _ (List.mem_of_getElem? (i := 20) rfl))) (by decide) (backOf (W := 0) (rm4d l Z a0 hw [] b4 H2 G2 V2 T8.heap n0 Z8 Fh8 Fl8 v1.1 v1.2.1) hZ (hw _ (List.mem_of_getElem? (i := 22) rfl)) (hw _ (List.mem_of_getElem? (i := 2) rfl)) (by decide) (by decide)) q9a q9c (g := (mkF m 104 #[.val (.long q1), .second, .val (.int p2), .val (.int p3), .val (.double (FP.l2d q1)), .second, .val (.double (FP.i2d p2)), .second, .val (.ref b4), .val (.int (0 : Int32)), .val (.int (1 : Int32)), .unset] [(.ref b4)])) rfl (by rw [hml]; rfl) (Steps.refl _) (argsL := []) (rest := []) (lenOf pd_0_2 rfl) rfl (by show 2 * 0 + _ ≤ _; exact Nat.le_of_eq rfl) (hb hby at_104) (fun _ _ => ⟨rfl, rfl, (by decide : 1 + 0 ≤ _), (by decide : 2 + 0 ≤ _)⟩)
  dsimp only [Pt.U, Pt.locs, Pt.cells, Pt.slots] at X9 l9 y9 z9 st9 hQ9
  subst l9 y9 z9
  obtain ⟨rfl, N9q, k9q⟩ := hQ9
  have N9 := Fr.app N8 N9q
  have E9 : Exa Z T9.heap b4 "com/example/gauge/gauge/capital/CompensatedSum" := by rw [k9q]; exact E8
  have Fh9 : Fld Z T9.heap b4 "com/example/gauge/gauge/capital/CompensatedSum" "high" "D" (.double H2) := by rw [k9q]; exact Fh8
  have Fl9 : Fld Z T9.heap b4 "com/example/gauge/gauge/capital/CompensatedSum" "low" "D" (.double G2) := by rw [k9q]; exact Fl8
  have Z9 : n0 ≤ T9.heap.size := by rw [k9q]; exact Z8
  obtain ⟨cq10, kq10, q10a, q10b, q10c⟩ := isOf hZ rfl E9
  obtain ⟨_, _, ⟨T10, L10, k10, n10⟩, -, X10, ⟨Lc10, hQ10, l10, y10, z10⟩, st10⟩ := X9.virtualBack hx (y := (⟨"com/example/gauge/gauge/capital/CompensatedSum", "add", "(D)V"⟩ : MethodName)) (z := (⟨"com/example/gauge/gauge/capital/CompensatedSum", "add", "(D)V"⟩ : MethodName)) hown (mvT hZ (hw _ (List.mem_of_getElem? (i := 9) rfl))) (mvT hZ (hw _ (List.mem_of_getElem? (i := 10) rfl))) (notFace_of_selects (args := #[]) (mvT hZ (hw _ (List.mem_of_getElem? (i := 12) rfl)))) (mvT hZ (hw _ (List.mem_of_getElem? (i := 12) rfl))) (mvT hZ (hw _ (List.mem_of_getElem? (i := 11) rfl))) (by decide) (backOf (W := 0) (rm3d l Z a0 hw [] b4 (FP.dneg (FP.l2d q1)) H2 G2 H3 G3 T9.heap n0 Z9 Fh9 Fl9 E9 g_b4 k2) hZ (hw _ (List.mem_of_getElem? (i := 13) rfl)) (hw _ (List.mem_of_getElem? (i := 2) rfl)) (by decide) (by decide)) q10a q10c (g := (mkF m 128 #[.val (.long q1), .second, .val (.int p2), .val (.int p3), .val (.double (FP.l2d q1)), .second, .val (.double (FP.i2d p2)), .second, .val (.ref b4), .val (.int (0 : Int32)), .val (.int (1 : Int32)), .val (.int (1 : Int32))] [(.double (FP.dneg (FP.l2d q1))), (.ref b4)])) rfl (by rw [hml]; rfl) (Steps.refl _) (argsL := [(.double (FP.dneg (FP.l2d q1)))]) (rest := []) (lenOf pd_0_1 rfl) rfl (by show 2 * 0 + _ ≤ _; exact Nat.le_of_eq rfl) (hb hby at_128) (fun _ _ => ⟨rfl, rfl, (by decide : 1 + 0 ≤ _), (by decide : 2 + 0 ≤ _)⟩)
  dsimp only [Pt.U, Pt.locs, Pt.cells, Pt.slots] at X10 l10 y10 z10 st10 hQ10
  subst l10 y10 z10
  obtain ⟨rfl, N10q, K10, E10, Fh10, Fl10⟩ := hQ10
  have N10 := Fr.app N9 N10q
  have Z10 : n0 ≤ T10.heap.size := Nat.le_trans Z9 K10.1
  obtain ⟨cq11, kq11, q11a, q11b, q11c⟩ := isOf hZ rfl E10
  obtain ⟨_, _, ⟨T11, L11, k11, n11⟩, -, X11, ⟨Lc11, hQ11, l11, y11, z11⟩, st11⟩ := X10.virtualBack hx (y := (⟨"com/example/gauge/gauge/capital/CompensatedSum", "value", "()D"⟩ : MethodName)) (z := (⟨"com/example/gauge/gauge/capital/CompensatedSum", "value", "()D"⟩ : MethodName)) hown (mvT hZ (hw _ (List.mem_of_getElem? (i := 18) rfl))) (mvT hZ (hw _ (List.mem_of_getElem? (i := 19) rfl))) (notFace_of_selects (args := #[]) (mvT hZ (hw _ (List.mem_of_getElem? (i := 21) rfl)))) (mvT hZ (hw _ (List.mem_of_getElem? (i := 21) rfl))) (mvT hZ (hw _ (List.mem_of_getElem? (i := 20) rfl))) (by decide) (backOf (W := 0) (rm4d l Z a0 hw [] b4 H3 G3 V3 T10.heap n0 Z10 Fh10 Fl10 v2.1 v2.2.1) hZ (hw _ (List.mem_of_getElem? (i := 22) rfl)) (hw _ (List.mem_of_getElem? (i := 2) rfl)) (by decide) (by decide)) q11a q11c (g := (mkF m 143 #[.val (.long q1), .second, .val (.int p2), .val (.int p3), .val (.double (FP.l2d q1)), .second, .val (.double (FP.i2d p2)), .second, .val (.ref b4), .val (.int (0 : Int32)), .val (.int (1 : Int32)), .val (.int (1 : Int32))] [(.ref b4)])) rfl (by rw [hml]; rfl) (Steps.refl _) (argsL := []) (rest := []) (lenOf pd_0_2 rfl) rfl (by show 2 * 0 + _ ≤ _; exact Nat.le_of_eq rfl) (hb hby at_143) (fun _ _ => ⟨rfl, rfl, (by decide : 1 + 0 ≤ _), (by decide : 2 + 0 ≤ _)⟩)
  dsimp only [Pt.U, Pt.locs, Pt.cells, Pt.slots] at X11 l11 y11 z11 st11 hQ11
  subst l11 y11 z11
  obtain ⟨rfl, N11q, k11q⟩ := hQ11
  have N11 := Fr.app N10 N11q
  have E11 : Exa Z T11.heap b4 "com/example/gauge/gauge/capital/CompensatedSum" := by rw [k11q]; exact E10
  have Fh11 : Fld Z T11.heap b4 "com/example/gauge/gauge/capital/CompensatedSum" "high" "D" (.double H3) := by rw [k11q]; exact Fh10
  have Fl11 : Fld Z T11.heap b4 "com/example/gauge/gauge/capital/CompensatedSum" "low" "D" (.double G3) := by rw [k11q]; exact Fl10
  have Z11 : n0 ≤ T11.heap.size := by rw [k11q]; exact Z10
  obtain ⟨fs, hr, hrun, hended, hW, hsame⟩ := X11.leave (v := some (.int (1 : Int32))) (fun h => by rw [Bd.returns] at h; cases h)
  refine ⟨_, _, pre0 _ ?_, hrun, hended, _, _, rfl, ?_, ⟨_, rfl⟩, hW, hsame.mono (by decide) (by decide)⟩
  · show Steps p.tables e below (s₁.setTop (mkF m 0 #[.val (.long q1), .second, .val (.int p2), .val (.int p3), .unset, .unset, .unset, .unset, .unset, .unset, .unset, .unset] [])) _
    refine XS.lloadN X0.here hx rfl (hb hby at_0) rfl ?_
    show Steps p.tables e below (s₁.setTop (mkF m 1 #[.val (.long q1), .second, .val (.int p2), .val (.int p3), .unset, .unset, .unset, .unset, .unset, .unset, .unset, .unset] [(.long q1)])) _
    refine XS.l2dS X0.here hx rfl (hb hby at_1) rfl rfl ?_
    show Steps p.tables e below (s₁.setTop (mkF m 2 #[.val (.long q1), .second, .val (.int p2), .val (.int p3), .unset, .unset, .unset, .unset, .unset, .unset, .unset, .unset] [(.double (FP.l2d q1))])) _
    refine XS.dstore X0.here hx rfl (hb hby at_2) rfl (l' := #[.val (.long q1), .second, .val (.int p2), .val (.int p3), .val (.double (FP.l2d q1)), .second, .unset, .unset, .unset, .unset, .unset, .unset]) rfl ?_
    show Steps p.tables e below (s₁.setTop (mkF m 4 #[.val (.long q1), .second, .val (.int p2), .val (.int p3), .val (.double (FP.l2d q1)), .second, .unset, .unset, .unset, .unset, .unset, .unset] [])) _
    refine XS.iloadN X0.here hx rfl (hb hby at_4) rfl ?_
    show Steps p.tables e below (s₁.setTop (mkF m 5 #[.val (.long q1), .second, .val (.int p2), .val (.int p3), .val (.double (FP.l2d q1)), .second, .unset, .unset, .unset, .unset, .unset, .unset] [(.int p2)])) _
    refine XS.i2dS X0.here hx rfl (hb hby at_5) rfl rfl ?_
    show Steps p.tables e below (s₁.setTop (mkF m 6 #[.val (.long q1), .second, .val (.int p2), .val (.int p3), .val (.double (FP.l2d q1)), .second, .unset, .unset, .unset, .unset, .unset, .unset] [(.double (FP.i2d p2))])) _
    refine XS.dstore X0.here hx rfl (hb hby at_6) rfl (l' := #[.val (.long q1), .second, .val (.int p2), .val (.int p3), .val (.double (FP.l2d q1)), .second, .val (.double (FP.i2d p2)), .second, .unset, .unset, .unset, .unset]) rfl ?_
    show Steps p.tables e below (s₁.setTop (mkF m 8 #[.val (.long q1), .second, .val (.int p2), .val (.int p3), .val (.double (FP.l2d q1)), .second, .val (.double (FP.i2d p2)), .second, .unset, .unset, .unset, .unset] [])) _
    refine st4 _ ?_
    show Steps p.tables e below (T4.setTop (mkF m 11 #[.val (.long q1), .second, .val (.int p2), .val (.int p3), .val (.double (FP.l2d q1)), .second, .val (.double (FP.i2d p2)), .second, .unset, .unset, .unset, .unset] [(.ref b4)])) _
    refine XS.dup X4.here hx rfl (hb hby at_11) rfl rfl ?_
    show Steps p.tables e below (T4.setTop (mkF m 12 #[.val (.long q1), .second, .val (.int p2), .val (.int p3), .val (.double (FP.l2d q1)), .second, .val (.double (FP.i2d p2)), .second, .unset, .unset, .unset, .unset] [(.ref b4), (.ref b4)])) _
    refine st5.trans ?_
    show Steps p.tables e below (T5.setTop (mkF m 15 #[.val (.long q1), .second, .val (.int p2), .val (.int p3), .val (.double (FP.l2d q1)), .second, .val (.double (FP.i2d p2)), .second, .unset, .unset, .unset, .unset] [(.ref b4)])) _
    refine XS.astore X5.here hx rfl (hb hby at_15) rfl rfl (l' := #[.val (.long q1), .second, .val (.int p2), .val (.int p3), .val (.double (FP.l2d q1)), .second, .val (.double (FP.i2d p2)), .second, .val (.ref b4), .unset, .unset, .unset]) rfl ?_
    show Steps p.tables e below (T5.setTop (mkF m 17 #[.val (.long q1), .second, .val (.int p2), .val (.int p3), .val (.double (FP.l2d q1)), .second, .val (.double (FP.i2d p2)), .second, .val (.ref b4), .unset, .unset, .unset] [])) _
    refine XS.iloadN X5.here hx rfl (hb hby at_17) rfl ?_
    show Steps p.tables e below (T5.setTop (mkF m 18 #[.val (.long q1), .second, .val (.int p2), .val (.int p3), .val (.double (FP.l2d q1)), .second, .val (.double (FP.i2d p2)), .second, .val (.ref b4), .unset, .unset, .unset] [(.int p3)])) _
    refine XS.iconst X5.here hx rfl (hb hby at_18) ?_
    show Steps p.tables e below (T5.setTop (mkF m 19 #[.val (.long q1), .second, .val (.int p2), .val (.int p3), .val (.double (FP.l2d q1)), .second, .val (.double (FP.i2d p2)), .second, .val (.ref b4), .unset, .unset, .unset] [(.int (1 : Int32)), (.int p3)])) _
    refine XS.iand X5.here hx rfl (hb hby at_19) rfl ?_
    show Steps p.tables e below (T5.setTop (mkF m 20 #[.val (.long q1), .second, .val (.int p2), .val (.int p3), .val (.double (FP.l2d q1)), .second, .val (.double (FP.i2d p2)), .second, .val (.ref b4), .unset, .unset, .unset] [(.int (p3 &&& (1 : Int32)))])) _
    refine XS.ifYes X5.here hx rfl (pc0 := 20) (pc' := 27) rfl (hb hby at_20) rfl ((if0 _ _).trans (teq hc20).1) (by decide) (by decide) ?_
    show Steps p.tables e below (T5.setTop (mkF m 27 #[.val (.long q1), .second, .val (.int p2), .val (.int p3), .val (.double (FP.l2d q1)), .second, .val (.double (FP.i2d p2)), .second, .val (.ref b4), .unset, .unset, .unset] [])) _
    refine XS.iconst X5.here hx rfl (hb hby at_27) ?_
    show Steps p.tables e below (T5.setTop (mkF m 28 #[.val (.long q1), .second, .val (.int p2), .val (.int p3), .val (.double (FP.l2d q1)), .second, .val (.double (FP.i2d p2)), .second, .val (.ref b4), .unset, .unset, .unset] [(.int (0 : Int32))])) _
    refine XS.istore X5.here hx rfl (hb hby at_28) rfl (l' := #[.val (.long q1), .second, .val (.int p2), .val (.int p3), .val (.double (FP.l2d q1)), .second, .val (.double (FP.i2d p2)), .second, .val (.ref b4), .val (.int (0 : Int32)), .unset, .unset]) rfl ?_
    show Steps p.tables e below (T5.setTop (mkF m 30 #[.val (.long q1), .second, .val (.int p2), .val (.int p3), .val (.double (FP.l2d q1)), .second, .val (.double (FP.i2d p2)), .second, .val (.ref b4), .val (.int (0 : Int32)), .unset, .unset] [])) _
    refine XS.iload X5.here hx rfl (hb hby at_30) rfl ?_
    show Steps p.tables e below (T5.setTop (mkF m 32 #[.val (.long q1), .second, .val (.int p2), .val (.int p3), .val (.double (FP.l2d q1)), .second, .val (.double (FP.i2d p2)), .second, .val (.ref b4), .val (.int (0 : Int32)), .unset, .unset] [(.int (0 : Int32))])) _
    refine XS.ifYes X5.here hx rfl (pc0 := 32) (pc' := 70) rfl (hb hby at_32) rfl ((if0 _ _).trans (teq (rfl : (0 : Int32) = (0 : Int32))).1) (by decide) (by decide) ?_
    show Steps p.tables e below (T5.setTop (mkF m 70 #[.val (.long q1), .second, .val (.int p2), .val (.int p3), .val (.double (FP.l2d q1)), .second, .val (.double (FP.i2d p2)), .second, .val (.ref b4), .val (.int (0 : Int32)), .unset, .unset] [])) _
    refine XS.aload X5.here hx rfl (hb hby at_70) rfl rfl ?_
    show Steps p.tables e below (T5.setTop (mkF m 72 #[.val (.long q1), .second, .val (.int p2), .val (.int p3), .val (.double (FP.l2d q1)), .second, .val (.double (FP.i2d p2)), .second, .val (.ref b4), .val (.int (0 : Int32)), .unset, .unset] [(.ref b4)])) _
    refine XS.dload X5.here hx rfl (hb hby at_72) rfl ?_
    show Steps p.tables e below (T5.setTop (mkF m 74 #[.val (.long q1), .second, .val (.int p2), .val (.int p3), .val (.double (FP.l2d q1)), .second, .val (.double (FP.i2d p2)), .second, .val (.ref b4), .val (.int (0 : Int32)), .unset, .unset] [(.double (FP.i2d p2)), (.ref b4)])) _
    refine st6.trans ?_
    show Steps p.tables e below (T6.setTop (mkF m 77 #[.val (.long q1), .second, .val (.int p2), .val (.int p3), .val (.double (FP.l2d q1)), .second, .val (.double (FP.i2d p2)), .second, .val (.ref b4), .val (.int (0 : Int32)), .unset, .unset] [])) _
    refine XS.aload X6.here hx rfl (hb hby at_77) rfl rfl ?_
    show Steps p.tables e below (T6.setTop (mkF m 79 #[.val (.long q1), .second, .val (.int p2), .val (.int p3), .val (.double (FP.l2d q1)), .second, .val (.double (FP.i2d p2)), .second, .val (.ref b4), .val (.int (0 : Int32)), .unset, .unset] [(.ref b4)])) _
    refine st7.trans ?_
    show Steps p.tables e below (T7.setTop (mkF m 82 #[.val (.long q1), .second, .val (.int p2), .val (.int p3), .val (.double (FP.l2d q1)), .second, .val (.double (FP.i2d p2)), .second, .val (.ref b4), .val (.int (0 : Int32)), .unset, .unset] [(.double V1)])) _
    refine XS.dload X7.here hx rfl (hb hby at_82) rfl ?_
    show Steps p.tables e below (T7.setTop (mkF m 84 #[.val (.long q1), .second, .val (.int p2), .val (.int p3), .val (.double (FP.l2d q1)), .second, .val (.double (FP.i2d p2)), .second, .val (.ref b4), .val (.int (0 : Int32)), .unset, .unset] [(.double (FP.i2d p2)), (.double V1)])) _
    refine XS.dcmpS X7.here hx rfl (hb hby at_84) rfl rfl ?_
    show Steps p.tables e below (T7.setTop (mkF m 85 #[.val (.long q1), .second, .val (.int p2), .val (.int p3), .val (.double (FP.l2d q1)), .second, .val (.double (FP.i2d p2)), .second, .val (.ref b4), .val (.int (0 : Int32)), .unset, .unset] [(.int (cmpValue (FP.dcmp V1 (FP.i2d p2)) .l))])) _
    refine XS.ifNo X7.here hx rfl (hb hby at_85) rfl ((if0 _ _).trans (teq (v0.2.2 : (cmpValue (FP.dcmp V1 (FP.i2d p2)) .l) = (0 : Int32))).2) ?_
    show Steps p.tables e below (T7.setTop (mkF m 88 #[.val (.long q1), .second, .val (.int p2), .val (.int p3), .val (.double (FP.l2d q1)), .second, .val (.double (FP.i2d p2)), .second, .val (.ref b4), .val (.int (0 : Int32)), .unset, .unset] [])) _
    refine XS.iconst X7.here hx rfl (hb hby at_88) ?_
    show Steps p.tables e below (T7.setTop (mkF m 89 #[.val (.long q1), .second, .val (.int p2), .val (.int p3), .val (.double (FP.l2d q1)), .second, .val (.double (FP.i2d p2)), .second, .val (.ref b4), .val (.int (0 : Int32)), .unset, .unset] [(.int (1 : Int32))])) _
    refine XS.goto X7.here hx rfl (pc0 := 89) (pc' := 93) rfl (hb hby at_89) (by decide) (by decide) ?_
    show Steps p.tables e below (T7.setTop (mkF m 93 #[.val (.long q1), .second, .val (.int p2), .val (.int p3), .val (.double (FP.l2d q1)), .second, .val (.double (FP.i2d p2)), .second, .val (.ref b4), .val (.int (0 : Int32)), .unset, .unset] [(.int (1 : Int32))])) _
    refine XS.istore X7.here hx rfl (hb hby at_93) rfl (l' := #[.val (.long q1), .second, .val (.int p2), .val (.int p3), .val (.double (FP.l2d q1)), .second, .val (.double (FP.i2d p2)), .second, .val (.ref b4), .val (.int (0 : Int32)), .val (.int (1 : Int32)), .unset]) rfl ?_
    show Steps p.tables e below (T7.setTop (mkF m 95 #[.val (.long q1), .second, .val (.int p2), .val (.int p3), .val (.double (FP.l2d q1)), .second, .val (.double (FP.i2d p2)), .second, .val (.ref b4), .val (.int (0 : Int32)), .val (.int (1 : Int32)), .unset] [])) _
    refine XS.aload X7.here hx rfl (hb hby at_95) rfl rfl ?_
    show Steps p.tables e below (T7.setTop (mkF m 97 #[.val (.long q1), .second, .val (.int p2), .val (.int p3), .val (.double (FP.l2d q1)), .second, .val (.double (FP.i2d p2)), .second, .val (.ref b4), .val (.int (0 : Int32)), .val (.int (1 : Int32)), .unset] [(.ref b4)])) _
    refine XS.dload X7.here hx rfl (hb hby at_97) rfl ?_
    show Steps p.tables e below (T7.setTop (mkF m 99 #[.val (.long q1), .second, .val (.int p2), .val (.int p3), .val (.double (FP.l2d q1)), .second, .val (.double (FP.i2d p2)), .second, .val (.ref b4), .val (.int (0 : Int32)), .val (.int (1 : Int32)), .unset] [(.double (FP.l2d q1)), (.ref b4)])) _
    refine st8.trans ?_
    show Steps p.tables e below (T8.setTop (mkF m 102 #[.val (.long q1), .second, .val (.int p2), .val (.int p3), .val (.double (FP.l2d q1)), .second, .val (.double (FP.i2d p2)), .second, .val (.ref b4), .val (.int (0 : Int32)), .val (.int (1 : Int32)), .unset] [])) _
    refine XS.aload X8.here hx rfl (hb hby at_102) rfl rfl ?_
    show Steps p.tables e below (T8.setTop (mkF m 104 #[.val (.long q1), .second, .val (.int p2), .val (.int p3), .val (.double (FP.l2d q1)), .second, .val (.double (FP.i2d p2)), .second, .val (.ref b4), .val (.int (0 : Int32)), .val (.int (1 : Int32)), .unset] [(.ref b4)])) _
    refine st9.trans ?_
    show Steps p.tables e below (T9.setTop (mkF m 107 #[.val (.long q1), .second, .val (.int p2), .val (.int p3), .val (.double (FP.l2d q1)), .second, .val (.double (FP.i2d p2)), .second, .val (.ref b4), .val (.int (0 : Int32)), .val (.int (1 : Int32)), .unset] [(.double V2)])) _
    refine XS.dload X9.here hx rfl (hb hby at_107) rfl ?_
    show Steps p.tables e below (T9.setTop (mkF m 109 #[.val (.long q1), .second, .val (.int p2), .val (.int p3), .val (.double (FP.l2d q1)), .second, .val (.double (FP.i2d p2)), .second, .val (.ref b4), .val (.int (0 : Int32)), .val (.int (1 : Int32)), .unset] [(.double (FP.l2d q1)), (.double V2)])) _
    refine XS.dload X9.here hx rfl (hb hby at_109) rfl ?_
    show Steps p.tables e below (T9.setTop (mkF m 111 #[.val (.long q1), .second, .val (.int p2), .val (.int p3), .val (.double (FP.l2d q1)), .second, .val (.double (FP.i2d p2)), .second, .val (.ref b4), .val (.int (0 : Int32)), .val (.int (1 : Int32)), .unset] [(.double (FP.i2d p2)), (.double (FP.l2d q1)), (.double V2)])) _
    refine XS.daddS X9.here hx rfl (hb hby at_111) rfl hnn111 rfl ?_
    show Steps p.tables e below (T9.setTop (mkF m 112 #[.val (.long q1), .second, .val (.int p2), .val (.int p3), .val (.double (FP.l2d q1)), .second, .val (.double (FP.i2d p2)), .second, .val (.ref b4), .val (.int (0 : Int32)), .val (.int (1 : Int32)), .unset] [(.double (FP.dadd (FP.l2d q1) (FP.i2d p2))), (.double V2)])) _
    refine XS.dcmpS X9.here hx rfl (hb hby at_112) rfl rfl ?_
    show Steps p.tables e below (T9.setTop (mkF m 113 #[.val (.long q1), .second, .val (.int p2), .val (.int p3), .val (.double (FP.l2d q1)), .second, .val (.double (FP.i2d p2)), .second, .val (.ref b4), .val (.int (0 : Int32)), .val (.int (1 : Int32)), .unset] [(.int (cmpValue (FP.dcmp V2 (FP.dadd (FP.l2d q1) (FP.i2d p2))) .l))])) _
    refine XS.ifNo X9.here hx rfl (hb hby at_113) rfl ((if0 _ _).trans (teq (v1.2.2 : (cmpValue (FP.dcmp V2 (FP.dadd (FP.l2d q1) (FP.i2d p2))) .l) = (0 : Int32))).2) ?_
    show Steps p.tables e below (T9.setTop (mkF m 116 #[.val (.long q1), .second, .val (.int p2), .val (.int p3), .val (.double (FP.l2d q1)), .second, .val (.double (FP.i2d p2)), .second, .val (.ref b4), .val (.int (0 : Int32)), .val (.int (1 : Int32)), .unset] [])) _
    refine XS.iconst X9.here hx rfl (hb hby at_116) ?_
    show Steps p.tables e below (T9.setTop (mkF m 117 #[.val (.long q1), .second, .val (.int p2), .val (.int p3), .val (.double (FP.l2d q1)), .second, .val (.double (FP.i2d p2)), .second, .val (.ref b4), .val (.int (0 : Int32)), .val (.int (1 : Int32)), .unset] [(.int (1 : Int32))])) _
    refine XS.goto X9.here hx rfl (pc0 := 117) (pc' := 121) rfl (hb hby at_117) (by decide) (by decide) ?_
    show Steps p.tables e below (T9.setTop (mkF m 121 #[.val (.long q1), .second, .val (.int p2), .val (.int p3), .val (.double (FP.l2d q1)), .second, .val (.double (FP.i2d p2)), .second, .val (.ref b4), .val (.int (0 : Int32)), .val (.int (1 : Int32)), .unset] [(.int (1 : Int32))])) _
    refine XS.istore X9.here hx rfl (hb hby at_121) rfl (l' := #[.val (.long q1), .second, .val (.int p2), .val (.int p3), .val (.double (FP.l2d q1)), .second, .val (.double (FP.i2d p2)), .second, .val (.ref b4), .val (.int (0 : Int32)), .val (.int (1 : Int32)), .val (.int (1 : Int32))]) rfl ?_
    show Steps p.tables e below (T9.setTop (mkF m 123 #[.val (.long q1), .second, .val (.int p2), .val (.int p3), .val (.double (FP.l2d q1)), .second, .val (.double (FP.i2d p2)), .second, .val (.ref b4), .val (.int (0 : Int32)), .val (.int (1 : Int32)), .val (.int (1 : Int32))] [])) _
    refine XS.aload X9.here hx rfl (hb hby at_123) rfl rfl ?_
    show Steps p.tables e below (T9.setTop (mkF m 125 #[.val (.long q1), .second, .val (.int p2), .val (.int p3), .val (.double (FP.l2d q1)), .second, .val (.double (FP.i2d p2)), .second, .val (.ref b4), .val (.int (0 : Int32)), .val (.int (1 : Int32)), .val (.int (1 : Int32))] [(.ref b4)])) _
    refine XS.dload X9.here hx rfl (hb hby at_125) rfl ?_
    show Steps p.tables e below (T9.setTop (mkF m 127 #[.val (.long q1), .second, .val (.int p2), .val (.int p3), .val (.double (FP.l2d q1)), .second, .val (.double (FP.i2d p2)), .second, .val (.ref b4), .val (.int (0 : Int32)), .val (.int (1 : Int32)), .val (.int (1 : Int32))] [(.double (FP.l2d q1)), (.ref b4)])) _
    refine XS.dnegS X9.here hx rfl (hb hby at_127) rfl rfl ?_
    show Steps p.tables e below (T9.setTop (mkF m 128 #[.val (.long q1), .second, .val (.int p2), .val (.int p3), .val (.double (FP.l2d q1)), .second, .val (.double (FP.i2d p2)), .second, .val (.ref b4), .val (.int (0 : Int32)), .val (.int (1 : Int32)), .val (.int (1 : Int32))] [(.double (FP.dneg (FP.l2d q1))), (.ref b4)])) _
    refine st10.trans ?_
    show Steps p.tables e below (T10.setTop (mkF m 131 #[.val (.long q1), .second, .val (.int p2), .val (.int p3), .val (.double (FP.l2d q1)), .second, .val (.double (FP.i2d p2)), .second, .val (.ref b4), .val (.int (0 : Int32)), .val (.int (1 : Int32)), .val (.int (1 : Int32))] [])) _
    refine XS.iload X10.here hx rfl (hb hby at_131) rfl ?_
    show Steps p.tables e below (T10.setTop (mkF m 133 #[.val (.long q1), .second, .val (.int p2), .val (.int p3), .val (.double (FP.l2d q1)), .second, .val (.double (FP.i2d p2)), .second, .val (.ref b4), .val (.int (0 : Int32)), .val (.int (1 : Int32)), .val (.int (1 : Int32))] [(.int (1 : Int32))])) _
    refine XS.ifNo X10.here hx rfl (hb hby at_133) rfl ((if0 _ _).trans (feq hc133).1) ?_
    show Steps p.tables e below (T10.setTop (mkF m 136 #[.val (.long q1), .second, .val (.int p2), .val (.int p3), .val (.double (FP.l2d q1)), .second, .val (.double (FP.i2d p2)), .second, .val (.ref b4), .val (.int (0 : Int32)), .val (.int (1 : Int32)), .val (.int (1 : Int32))] [])) _
    refine XS.iload X10.here hx rfl (hb hby at_136) rfl ?_
    show Steps p.tables e below (T10.setTop (mkF m 138 #[.val (.long q1), .second, .val (.int p2), .val (.int p3), .val (.double (FP.l2d q1)), .second, .val (.double (FP.i2d p2)), .second, .val (.ref b4), .val (.int (0 : Int32)), .val (.int (1 : Int32)), .val (.int (1 : Int32))] [(.int (1 : Int32))])) _
    refine XS.ifNo X10.here hx rfl (hb hby at_138) rfl ((if0 _ _).trans (feq hc138).1) ?_
    show Steps p.tables e below (T10.setTop (mkF m 141 #[.val (.long q1), .second, .val (.int p2), .val (.int p3), .val (.double (FP.l2d q1)), .second, .val (.double (FP.i2d p2)), .second, .val (.ref b4), .val (.int (0 : Int32)), .val (.int (1 : Int32)), .val (.int (1 : Int32))] [])) _
    refine XS.aload X10.here hx rfl (hb hby at_141) rfl rfl ?_
    show Steps p.tables e below (T10.setTop (mkF m 143 #[.val (.long q1), .second, .val (.int p2), .val (.int p3), .val (.double (FP.l2d q1)), .second, .val (.double (FP.i2d p2)), .second, .val (.ref b4), .val (.int (0 : Int32)), .val (.int (1 : Int32)), .val (.int (1 : Int32))] [(.ref b4)])) _
    refine st11.trans ?_
    show Steps p.tables e below (T11.setTop (mkF m 146 #[.val (.long q1), .second, .val (.int p2), .val (.int p3), .val (.double (FP.l2d q1)), .second, .val (.double (FP.i2d p2)), .second, .val (.ref b4), .val (.int (0 : Int32)), .val (.int (1 : Int32)), .val (.int (1 : Int32))] [(.double V3)])) _
    refine XS.dload X11.here hx rfl (hb hby at_146) rfl ?_
    show Steps p.tables e below (T11.setTop (mkF m 148 #[.val (.long q1), .second, .val (.int p2), .val (.int p3), .val (.double (FP.l2d q1)), .second, .val (.double (FP.i2d p2)), .second, .val (.ref b4), .val (.int (0 : Int32)), .val (.int (1 : Int32)), .val (.int (1 : Int32))] [(.double (FP.i2d p2)), (.double V3)])) _
    refine XS.dcmpS X11.here hx rfl (hb hby at_148) rfl rfl ?_
    show Steps p.tables e below (T11.setTop (mkF m 149 #[.val (.long q1), .second, .val (.int p2), .val (.int p3), .val (.double (FP.l2d q1)), .second, .val (.double (FP.i2d p2)), .second, .val (.ref b4), .val (.int (0 : Int32)), .val (.int (1 : Int32)), .val (.int (1 : Int32))] [(.int (cmpValue (FP.dcmp V3 (FP.i2d p2)) .l))])) _
    refine XS.ifNo X11.here hx rfl (hb hby at_149) rfl ((if0 _ _).trans (teq (v2.2.2 : (cmpValue (FP.dcmp V3 (FP.i2d p2)) .l) = (0 : Int32))).2) ?_
    show Steps p.tables e below (T11.setTop (mkF m 152 #[.val (.long q1), .second, .val (.int p2), .val (.int p3), .val (.double (FP.l2d q1)), .second, .val (.double (FP.i2d p2)), .second, .val (.ref b4), .val (.int (0 : Int32)), .val (.int (1 : Int32)), .val (.int (1 : Int32))] [])) _
    refine XS.iconst X11.here hx rfl (hb hby at_152) ?_
    show Steps p.tables e below (T11.setTop (mkF m 153 #[.val (.long q1), .second, .val (.int p2), .val (.int p3), .val (.double (FP.l2d q1)), .second, .val (.double (FP.i2d p2)), .second, .val (.ref b4), .val (.int (0 : Int32)), .val (.int (1 : Int32)), .val (.int (1 : Int32))] [(.int (1 : Int32))])) _
    refine XS.goto X11.here hx rfl (pc0 := 153) (pc' := 157) rfl (hb hby at_153) (by decide) (by decide) ?_
    show Steps p.tables e below (T11.setTop (mkF m 157 #[.val (.long q1), .second, .val (.int p2), .val (.int p3), .val (.double (FP.l2d q1)), .second, .val (.double (FP.i2d p2)), .second, .val (.ref b4), .val (.int (0 : Int32)), .val (.int (1 : Int32)), .val (.int (1 : Int32))] [(.int (1 : Int32))])) _
    exact retN X11 hx (t := .boolean) Bd.returns (by simp) (hb hby at_157) hr
  · show Q0b Z q1 p2 p3 h0 n0 _ T11.heap _
    exact ⟨rfl, N11⟩
set_option maxRecDepth 65536 in
set_option maxHeartbeats 40000000 in
theorem comes_1 {Post : Tables → Env → Array Value → State → Outcome → State → Prop} (hpost : ∀ tb e args s v u, (limb_1_1.after args s (.returned v) u = true ∧ limb_1_2.after args s (.returned v) u = true ∧ True) → FrameEnd s (.returned v) u (Jvm.fieldLocs frame_1_writes args s ++ Jvm.arrayLocs frame_1_arrays args s ++ Jvm.staticLocs frame_1_statics s) 16 128 → Post tb e args s (.returned v) u) :
    ArmFor flags0 classFile x code maxLocals ret World_1 tables_1 room_1 Calls_1 rest_1 Pre_1 Post := by
  intro l hfl _ _ p e ha hc hk s m args below hf hA hF happ hP
  obtain ⟨hcalls, hrest, hpre⟩ := hP
  obtain ⟨-, -, -, hnamed, -, -, -, hat⟩ := (Spec.applies_iff hf).mp happ
  obtain ⟨hg, hn⟩ := and_e (Cond.before_iff.mp (show (Jvm.Cond.and given_1 narrow_1).before args s = true from hpre))
  obtain ⟨g12, g13⟩ := and_e hg
  obtain ⟨g14, g15⟩ := and_e g13
  obtain ⟨g16, g17⟩ := and_e g15
  obtain ⟨w0, w1, w2, rfl⟩ : ∃ w0 w1 w2 : Value, args = #[w0, w1, w2] := by
    have hs : args.size = 3 := by simpa [Cond.value, given_1] using g12
    obtain ⟨L⟩ := args
    match L, hs with
    | [w0, w1, w2], _ => exact ⟨w0, w1, w2, rfl⟩
  have hw := fun d (hd : d ∈ tables_1) => atoms_spec (ws := Jvm.Cond.code x code maxLocals ret :: tables_1) hat d (List.mem_cons_of_mem _ hd)
  have hfit : Fit s := fun {y c} hc i hi => by
    obtain ⟨ha, rfl⟩ := Array.getElem?_eq_some_iff.mp hc
    have q := List.all_eq_true.mp ((Array.all_eq_true_iff_forall_mem.mp hF) _ (Array.getElem_mem ha)) i (List.mem_range.mpr hi)
    simpa [Array.getElem?_eq_getElem hi] using q
  obtain ⟨i0, ei0⟩ := isL_v g14
  obtain rfl : w0 = (.long i0) := Option.some.inj ei0
  obtain ⟨i1, ei1⟩ := is_v g16
  obtain rfl : w1 = (.int i1) := Option.some.inj ei1
  obtain ⟨i2, ei2⟩ := is_v g17
  obtain rfl : w2 = (.int i2) := Option.some.inj ei2
  by_cases c20 : (i2 &&& (1 : Int32)) = (0 : Int32)
  · obtain ⟨n, o, h1, h2, h3, _, L, rfl, ⟨rfl, N⟩, hq⟩ := rm0b l s _ hw tables_1 i0 i1 i2 s.heap s.heap.size (Nat.le_refl _) c20 (by decide) (by decide) p e ha hc hk s m _ below hf ((Spec.applies_iff_loose hf).mp happ).1 ⟨rfl, State.Warmed39.refl s, rfl⟩ trivial
    refine ⟨n, _, h1, h2, h3, hpost _ _ _ _ _ _ ⟨Cond.after_iff.mpr rfl, Cond.after_iff.mpr (eq_i res_at (Term.int_eval (1)) rfl), trivial⟩ ⟨hq.1, hq.2.1, (hq.2.2.sift fun y hy => Or.inr (N y hy)).mono (by decide) (by decide)⟩⟩
  · obtain ⟨n, o, h1, h2, h3, _, L, rfl, ⟨rfl, N⟩, hq⟩ := rm0a l s _ hw tables_1 i0 i1 i2 s.heap s.heap.size (Nat.le_refl _) c20 (by decide) (by decide) (by decide) p e ha hc hk s m _ below hf ((Spec.applies_iff_loose hf).mp happ).1 ⟨rfl, State.Warmed39.refl s, rfl⟩ trivial
    refine ⟨n, _, h1, h2, h3, hpost _ _ _ _ _ _ ⟨Cond.after_iff.mpr rfl, Cond.after_iff.mpr (eq_i res_at (Term.int_eval (1)) rfl), trivial⟩ ⟨hq.1, hq.2.1, (hq.2.2.sift fun y hy => Or.inr (N y hy)).mono (by decide) (by decide)⟩⟩
theorem main_1_1 : Claimed_1_1 := comes_1 fun _ _ _ _ _ _ h hF => ⟨h.1, hF⟩
theorem main_1_2 : Claimed_1_2 := comes_1 fun _ _ _ _ _ _ h hF => ⟨h.2.1, hF⟩
end Jvm.Pilot.@@N@@
namespace Jvm.Pilot.@@N@@
open Jvm Jvm.ClassFile Sem Op Lib Jvm.Free Jvm.Stand Jvm.Pilot.@@N@@.Jvm.D
/-! MADE BY PROGRAM (witnessworld.py) out of the Statement's table words and the real class files: 9 classes; the members and pool entries that the words name. The judged class is class 1, her method 1. -/
namespace start1
open Jvm.ClassFile
def u (s : String) : CpInfo := .utf8 (stringToUtf16 s)
/-- a pool by its gaps: so many unusable entries, then the entry; so many at the end -/
def gap : Nat → List CpInfo → List CpInfo
  | 0, r => r
  | n + 1, r => .unusable :: gap n r
def poolList (es : List (Nat × CpInfo)) (last : Nat) : List CpInfo := es.foldr (fun e r => gap e.1 (e.2 :: r)) (gap last [])
def pool (es : List (Nat × CpInfo)) (last : Nat) : Array CpInfo := ⟨poolList es last⟩
def fileOf (pool : Array CpInfo) (this : Nat) (attrs : Array Attribute := #[]) (ms : Array MethodInfo := #[]) (fl : Nat := 33) (sup : Nat := 0) (ifs : Array Nat := #[]) (fds : Array FieldInfo := #[]) : ClassFile where
  minorVersion := 0
  majorVersion := 65
  constantPool := pool
  accessFlags := fl
  thisClass := this
  superClass := sup
  interfaces := ifs
  fields := fds
  methods := ms
  attributes := attrs
def plain (name : String) (sup : Option ClassId) : Class where
  name := name
  kind := .ordinary
  loader := none
  accessFlags := 33
  super := sup
  interfaces := #[]
  cf := none
  fields := #[]
  methods := #[]
  instanceTypes := #[]
  staticTypes := #[]
  resolved := #[]
  callSites := []
  init := .initialized
  statics := none
  mirror := none

def pool0 : Array CpInfo := pool [(5, u "<init>"), (0, u "()V"), (1, .class_ 10), (1, u "java/lang/Object")] 113

def k0c0 : Code := { maxStack := 0, maxLocals := 1, code := object_method_1_code, exceptionTable := #[], attributes := #[] }
def k0m0 : Method := { name := "<init>", desc := "()V", sig := { parameters := [], returnType := none }, accessFlags := 1, code := some k0c0 }
/-- java/lang/Object -/
def k0 : Class := { plain "java/lang/Object" none with
  accessFlags := 33
  interfaces := #[]
  cf := some (fileOf pool0 8 #[] #[{ accessFlags := 1, nameIndex := 5, descriptorIndex := 6, attributes := #[] }] 33 0 #[] #[])
  fields := #[]
  methods := #[k0m0]
  instanceTypes := #[]
  staticTypes := #[]
  resolved := Array.replicate 124 none
  statics := none }

def pool1 : Array CpInfo := pool [(2, .class_ 4), (0, .nameAndType 5 6), (0, u "java/lang/Object"), (0, u "<init>"), (0, u "()V"), (0, .class_ 8), (0, u "com/example/gauge/gauge/capital/CompensatedSum"), (0, .methodref 7 3), (0, .methodref 7 11), (0, .nameAndType 12 13), (0, u "add"), (0, u "(D)V"), (0, .methodref 7 15), (0, .nameAndType 16 17), (0, u "value"), (0, u "()D"), (0, .class_ 19), (0, u "com/example/gauge/gauge/capital/CompensatedSumAddPinLaw"), (2, u "law"), (0, u "(JII)Z")] 3

def k1m0 : Method := { name := "<init>", desc := "()V", sig := { parameters := [], returnType := none }, accessFlags := 1, code := none }
def k1c1 : Code := { maxStack := 6, maxLocals := 12, code := code, exceptionTable := #[], attributes := #[] }
def k1m1 : Method := { name := "law", desc := "(JII)Z", sig := { parameters := [.long, .int, .int], returnType := some .boolean }, accessFlags := 9, code := some k1c1 }
/-- com/example/gauge/gauge/capital/CompensatedSumAddPinLaw -/
def k1 : Class := { plain "com/example/gauge/gauge/capital/CompensatedSumAddPinLaw" (some 0) with
  accessFlags := 49
  interfaces := #[]
  cf := some (fileOf pool1 18 #[] #[{ accessFlags := 1, nameIndex := 5, descriptorIndex := 6, attributes := #[] }, { accessFlags := 9, nameIndex := 22, descriptorIndex := 23, attributes := #[] }] 49 2 #[] #[])
  fields := #[]
  methods := #[k1m0, k1m1]
  instanceTypes := #[]
  staticTypes := #[]
  resolved := Array.replicate 27 none
  statics := none }

def pool2 : Array CpInfo := pool [(1, .methodref 2 3), (0, .class_ 4), (0, .nameAndType 5 6), (0, u "java/lang/Object"), (0, u "<init>"), (0, u "()V"), (7, .class_ 16), (1, u "com/example/gauge/gauge/capital/CompensatedSum"), (0, u "add"), (0, u "(D)V"), (0, .fieldref 14 20), (0, .nameAndType 21 22), (0, u "low"), (0, u "D"), (0, .fieldref 14 24), (0, .nameAndType 25 22), (0, u "high"), (4, u "value"), (0, u "()D")] 2

def k2c0 : Code := { maxStack := 1, maxLocals := 1, code := prog_10_method_1_code, exceptionTable := #[], attributes := #[] }
def k2m0 : Method := { name := "<init>", desc := "()V", sig := { parameters := [], returnType := none }, accessFlags := 0, code := some k2c0 }
def k2c1 : Code := { maxStack := 4, maxLocals := 1, code := prog_10_method_3_code, exceptionTable := #[], attributes := #[] }
def k2m1 : Method := { name := "value", desc := "()D", sig := { parameters := [], returnType := some .double }, accessFlags := 0, code := some k2c1 }
def k2c2 : Code := { maxStack := 9, maxLocals := 7, code := prog_10_method_4_code, exceptionTable := #[], attributes := #[] }
def k2m2 : Method := { name := "add", desc := "(D)V", sig := { parameters := [.double], returnType := none }, accessFlags := 0, code := some k2c2 }
/-- com/example/gauge/gauge/capital/CompensatedSum -/
def k2 : Class := { plain "com/example/gauge/gauge/capital/CompensatedSum" (some 0) with
  accessFlags := 32
  interfaces := #[]
  cf := some (fileOf pool2 14 #[] #[{ accessFlags := 0, nameIndex := 5, descriptorIndex := 6, attributes := #[] }, { accessFlags := 0, nameIndex := 30, descriptorIndex := 31, attributes := #[] }, { accessFlags := 0, nameIndex := 17, descriptorIndex := 18, attributes := #[] }] 32 2 #[] #[{ accessFlags := 2, nameIndex := 25, descriptorIndex := 22, attributes := #[] }, { accessFlags := 2, nameIndex := 21, descriptorIndex := 22, attributes := #[] }])
  fields := #[{ name := "high", type := .double, accessFlags := 2, slot := 0, constantValue := 0 }, { name := "low", type := .double, accessFlags := 2, slot := 1, constantValue := 0 }]
  methods := #[k2m0, k2m1, k2m2]
  instanceTypes := #[.double, .double]
  staticTypes := #[]
  resolved := Array.replicate 34 none
  statics := none }

def pool3 : Array CpInfo := pool [(1, u "java/lang/Cloneable"), (0, .class_ 1), (0, u "java/lang/Object"), (0, .class_ 3)] 3

/-- java/lang/Cloneable -/
def k3 : Class := { plain "java/lang/Cloneable" (some 0) with
  accessFlags := 1537
  interfaces := #[]
  cf := some (fileOf pool3 2 #[] #[] 1537 4 #[] #[])
  fields := #[]
  methods := #[]
  instanceTypes := #[]
  staticTypes := #[]
  resolved := Array.replicate 8 none
  statics := none }

def pool4 : Array CpInfo := pool [(1, u "java/io/Serializable"), (0, .class_ 1), (0, u "java/lang/Object"), (0, .class_ 3)] 3

/-- java/io/Serializable -/
def k4 : Class := { plain "java/io/Serializable" (some 0) with
  accessFlags := 1537
  interfaces := #[]
  cf := some (fileOf pool4 2 #[] #[] 1537 4 #[] #[])
  fields := #[]
  methods := #[]
  instanceTypes := #[]
  staticTypes := #[]
  resolved := Array.replicate 8 none
  statics := none }

/-- the primitive byte -/
def k5 : Class := { plain "byte" none with kind := .primitive 'B', accessFlags := 0x411 }
/-- [B -/
def k6 : Class := { plain "[B" (some 0) with kind := .array 5 .byte, interfaces := #[3, 4], accessFlags := 1041 }

/-- the primitive int -/
def k7 : Class := { plain "int" none with kind := .primitive 'I', accessFlags := 0x411 }
/-- [I -/
def k8 : Class := { plain "[I" (some 0) with kind := .array 7 .int, interfaces := #[3, 4], accessFlags := 1041 }

def heap : Heap := #[]
def classes : Array Class := #[k0, k1, k2, k3, k4, k5, k6, k7, k8]
def interned : List (Array UInt16 × Addr) := []
def slotsUsed : Nat := 0
def theMethod : MethodId := ⟨1, 1⟩
def args0 : Array Value := #[.long 5, .int 7, .int 1]
def aboutOver (below : List Frame) : State where
  vm := { classes := classes, interned := interned.toArray }
  heap := heap
  slotsUsed := slotsUsed
  threads := #[{ frames := .invoking theMethod args0 :: below }]
def below0 : List Frame := [.native { method := ⟨0, 0⟩, args := #[] }]
def about1 : State := aboutOver below0
def p0 : Program := .bare "" "" ""
def e0 : Env := launch0.env 0 0 0
theorem w_frames : about1.frames = Frame.invoking theMethod args0 :: below0 := rfl
set_option maxRecDepth 65536 in
theorem w_args : argsFit about1.vm theMethod args0 = true := by decide +kernel
set_option maxRecDepth 65536 in
theorem w_heap : heapFits about1 = true := by decide +kernel
set_option maxRecDepth 65536 in
theorem w_runnable : about1.curStatus? = some .runnable := by decide +kernel
set_option maxRecDepth 65536 in
theorem w_alone : about1.alone = true := by decide +kernel
set_option maxRecDepth 65536 in
theorem w_named : about1.methodNamed? x = some theMethod := by decide +kernel
set_option maxRecDepth 65536 in
theorem w_hears : about1.hears theMethod below0 = true := by decide +kernel
set_option maxRecDepth 65536 in
theorem w_ripe : about1.ripe theMethod args0 below0 = true := by decide +kernel
theorem w_running : about1.status = .running := rfl
set_option maxRecDepth 65536 in
theorem w_room : about1.hasRoom e0.platform room_1 = true :=
  launch0.hasRoom_least _ room_1 (by decide +kernel) (by decide +kernel) (by decide +kernel) (by decide +kernel) (by decide +kernel) (by decide +kernel)
theorem allAtoms_all (ts : List Jvm.Cond) (a : Array Jvm.Value) (st : Jvm.State) : (allAtoms ts).before a st = ts.all (fun c => c.before a st) := by
  induction ts with
  | nil => rfl
  | cons c t ih =>
    show (Jvm.Cond.and c (allAtoms t)).before a st = _
    rw [Jvm.Cond.before_and, ih, List.all_cons]
def words1 : List Jvm.Cond := Jvm.Cond.code x code maxLocals ret :: tables_1
/-- a 'code' word, met by the world's own term for the bytes: nothing is compared byte by byte -/
theorem code_word {y : MethodName} {bytes : ByteArray} {mx : Nat} {rt : Option FieldType} {a : Array Value} {s : State} {m : MethodId} {meth : Method} {c : Code} (h1 : s.methodNamed? y = some m) (h2 : s.vm.method? m = some meth) (h3 : meth.code = some c) (h4 : c.code = bytes)
    (h5 : (c.maxLocals == mx && c.exceptionTable.isEmpty && decide (c.maxStack ≤ mostOperands) && decide (meth.sig.returnType = rt) && !meth.locks && decide (parseMethodDescriptor y.desc = some meth.sig)) = true) : (Jvm.Cond.code y bytes mx rt).before a s = true := by
  simp only [Bool.and_eq_true, beq_iff_eq, Bool.not_eq_true', decide_eq_true_eq] at h5
  obtain ⟨⟨⟨⟨⟨g1, g2⟩, g3⟩, g4⟩, g5⟩, g6⟩ := h5
  simp [Cond.before, Cond.holds, Cond.value, h1, h2, h3, h4, g1, g2, g3, g4, g5, g6]
def isCode : Jvm.Cond → Bool
  | .code _ _ _ _ => true
  | _ => false
theorem all_split {L : List Jvm.Cond} {P : Jvm.Cond → Bool} (h1 : L.all (fun c => isCode c || P c) = true) (h2 : ∀ c ∈ L.filter isCode, P c = true) : L.all P = true := by
  refine List.all_eq_true.mpr fun c hc => ?_
  have h := List.all_eq_true.mp h1 c hc
  rcases Bool.eq_false_or_eq_true (isCode c) with hi | hi
  · exact h2 c (List.mem_filter.mpr ⟨hc, hi⟩)
  · simpa [hi] using h
set_option maxRecDepth 65536 in
theorem w_c0 : (Jvm.Cond.code x code maxLocals ret).before args0 about1 = true := code_word (m := ⟨1, 1⟩) (meth := k1m1) (c := k1c1) (by decide +kernel) rfl rfl rfl (by decide +kernel)
set_option maxRecDepth 65536 in
theorem w_c1 : (Jvm.Cond.code ({ cls := "com/example/gauge/gauge/capital/CompensatedSum", name := "<init>", desc := "()V" } : Jvm.MethodName) prog_10_method_1_code (1 : Nat) (Option.none : Option Jvm.ClassFile.FieldType)).before args0 about1 = true := code_word (m := ⟨2, 0⟩) (meth := k2m0) (c := k2c0) (by decide +kernel) rfl rfl rfl (by decide +kernel)
set_option maxRecDepth 65536 in
theorem w_c2 : (Jvm.Cond.code ({ cls := "java/lang/Object", name := "<init>", desc := "()V" } : Jvm.MethodName) object_method_1_code (1 : Nat) (Option.none : Option Jvm.ClassFile.FieldType)).before args0 about1 = true := code_word (m := ⟨0, 0⟩) (meth := k0m0) (c := k0c0) (by decide +kernel) rfl rfl rfl (by decide +kernel)
set_option maxRecDepth 65536 in
theorem w_c3 : (Jvm.Cond.code ({ cls := "com/example/gauge/gauge/capital/CompensatedSum", name := "add", desc := "(D)V" } : Jvm.MethodName) prog_10_method_4_code (7 : Nat) (Option.none : Option Jvm.ClassFile.FieldType)).before args0 about1 = true := code_word (m := ⟨2, 2⟩) (meth := k2m2) (c := k2c2) (by decide +kernel) rfl rfl rfl (by decide +kernel)
set_option maxRecDepth 65536 in
theorem w_c4 : (Jvm.Cond.code ({ cls := "com/example/gauge/gauge/capital/CompensatedSum", name := "value", desc := "()D" } : Jvm.MethodName) prog_10_method_3_code (1 : Nat) (Option.some Jvm.ClassFile.FieldType.double)).before args0 about1 = true := code_word (m := ⟨2, 1⟩) (meth := k2m1) (c := k2c1) (by decide +kernel) rfl rfl rfl (by decide +kernel)
def codes1 : List Jvm.Cond := [Jvm.Cond.code x code maxLocals ret, Jvm.Cond.code ({ cls := "com/example/gauge/gauge/capital/CompensatedSum", name := "<init>", desc := "()V" } : Jvm.MethodName) prog_10_method_1_code (1 : Nat) (Option.none : Option Jvm.ClassFile.FieldType), Jvm.Cond.code ({ cls := "java/lang/Object", name := "<init>", desc := "()V" } : Jvm.MethodName) object_method_1_code (1 : Nat) (Option.none : Option Jvm.ClassFile.FieldType), Jvm.Cond.code ({ cls := "com/example/gauge/gauge/capital/CompensatedSum", name := "add", desc := "(D)V" } : Jvm.MethodName) prog_10_method_4_code (7 : Nat) (Option.none : Option Jvm.ClassFile.FieldType), Jvm.Cond.code ({ cls := "com/example/gauge/gauge/capital/CompensatedSum", name := "value", desc := "()D" } : Jvm.MethodName) prog_10_method_3_code (1 : Nat) (Option.some Jvm.ClassFile.FieldType.double)]
set_option maxRecDepth 65536 in
theorem codes_eq : words1.filter isCode = codes1 := rfl
theorem w_codes : ∀ c ∈ words1.filter isCode, c.before args0 about1 = true := by
  rw [codes_eq]
  intro c hc
  simp only [codes1, List.mem_cons, List.not_mem_nil, or_false] at hc
  rcases hc with rfl | rfl | rfl | rfl | rfl
  · exact w_c0
  · exact w_c1
  · exact w_c2
  · exact w_c3
  · exact w_c4
set_option maxRecDepth 65536 in
theorem w_t1 : words1.all (fun c => isCode c || c.before args0 about1) = true := by decide +kernel
theorem w_tables : (allAtoms (Jvm.Cond.code x code maxLocals ret :: tables_1)).before args0 about1 = true := by
  rw [allAtoms_all]
  show words1.all (fun c => c.before args0 about1) = true
  refine all_split ?_ w_codes
  rw [w_t1]
set_option maxRecDepth 65536 in
theorem w_case : (Jvm.Cond.and given_1 narrow_1).before args0 about1 = true := by decide +kernel
theorem w_applies : (headSpec (Jvm.Cond.code x code maxLocals ret :: tables_1) room_1).applies x e0.platform about1 = true :=
  (Spec.applies_iff w_frames).mpr ⟨w_running, w_runnable, w_alone, w_named, w_hears, w_ripe, w_room, w_tables⟩
theorem atStart : AtStart classFile x code maxLocals ret World_1 tables_1 room_1 Calls_1 rest_1 Pre_1 launch0 p0 e0 about1 theMethod args0 below0 :=
  ⟨lists_1, trivial, launch0.admits_env _ _ _, launch0.least_env, fairChoices_fair.cas, fairChoices_fair.clock, w_frames, w_args, w_heap, w_applies, trivial, trivial, w_case⟩
end start1
theorem witness_1 : WitnessClaimed_1 := ⟨start1.p0, start1.e0, start1.about1, start1.theMethod, start1.args0, start1.below0, start1.atStart⟩
end Jvm.Pilot.@@N@@
