import JvmDerived
import JvmDerived.Pilot.@@N@@Statement
import JvmDerived.Pilot.@@N@@Code
set_option linter.unusedVariables false
set_option linter.unusedSimpArgs false
namespace Jvm.RoadKit
open Sem ClassFile Op Lib Jvm.Stand Jvm.Free Jvm.LawKit
section New
variable {p : Program} {l : Launch} {e : Env} {R : Room} {s : State} {m : MethodId} {args : Array Value} {below : List Frame} {meth : Method} {c : Code} {T : State} {locs : List Loc} {cells slots : Nat}
theorem retI (X : Stand p l e R s m args below meth c T locs cells slots) (hx : p.tables.exec = Jvm.exec) {pc : Nat} {Ls : Array Slot} {z : Int32} {rest : List Value} (hret : meth.sig.returnType = some .int) (hd : decode c.code pc = .ok (.ireturn, 1)) {fs : List Frame}
    (hl : ∀ (f : JFrame) (acts : List Action), f.method = m → f.locked = none → f.entered = [] → (doReturn e (T.setTop f) acts (some (.int z))).1 = T.setFrames fs) : Steps p.tables e below (T.setTop (mkF m pc Ls (.int z :: rest))) (T.setFrames fs) := by
  have hm' : T.vm.method? m = some meth := X.method'
  have hn : narrow .int (.int z) = .int z := rfl
  show Steps p.tables e below (T.setTop { method := m, pc := pc, locals := Ls, stack := _ :: rest, locked := none }) _
  jvm_step X.here [X.here.top, hx, hd, hm', hret, hn]
  first | (intro acts; rw [hl _ acts rfl rfl rfl]) | rw [hl _ _ rfl rfl rfl]
  exact Steps.refl _
end New
end Jvm.RoadKit
namespace Jvm.Pilot.@@N@@
open Jvm Jvm.ClassFile Sem Op Lib Jvm.Free Jvm.Stand Jvm.LawKit Jvm.RoadKit Bundle Jvm.Pilot.@@N@@.Jvm.D
section own_plain
open Jvm.FP.Core
theorem own_pow (K : Nat) : (2 ^ K : Nat) > 0 := Nat.two_pow_pos K
theorem own_zi (n : Int32) : zval b64 (val64 (Jvm.FP.Core.i2d n)) = n.toInt * ((2 ^ 1074 : Nat) : Int) := by
  have h := i2d_int n
  unfold DInt at h
  have hf := val64_fits (Jvm.FP.Core.i2d n)
  cases hv : val64 (Jvm.FP.Core.i2d n) with
  | nan => rw [hv] at h; exact h.elim
  | inf s => rw [hv] at h; exact h.elim
  | fin s c q =>
    rw [hv] at h hf
    have h1 := whole_units h hf.2.1
    rw [qmin_b64] at h1
    show signed s (inUnits c q b64.qmin) = _
    rw [qmin_b64]
    rw [show ((-1074 : Int)).toNat = 0 from rfl, show (-(-1074 : Int)).toNat = 1074 from rfl, Nat.pow_zero, Int.natCast_one, Int.mul_one] at h1
    exact h1
theorem own_i2d_nn (n : Int32) : val64 (Jvm.FP.Core.i2d n) ≠ .nan := Whole.ne_nan (i2d_int n)
/-- the quotient of an int by a positive double without a fraction's exponent above 0 -/
theorem own_quo (n : Int32) {k : UInt64} {d r : Nat} (hk : val64 k = .fin false d (-(r : Int))) (hd : 0 < d) :
    val64 (Jvm.FP.Core.ddiv (Jvm.FP.Core.i2d n) k) ≠ .nan ∧
    (∀ V, Jvm.FP.Core.fits b64 V → V ≠ .nan → n.toInt.natAbs * 2 ^ 1074 * 2 ^ r ≤ zmag b64 V * d → zmag b64 (val64 (Jvm.FP.Core.ddiv (Jvm.FP.Core.i2d n) k)) ≤ zmag b64 V) ∧
    (∀ V, Jvm.FP.Core.fits b64 V → zmag b64 V * d ≤ n.toInt.natAbs * 2 ^ 1074 * 2 ^ r → zmag b64 V ≤ zmag b64 (val64 (Jvm.FP.Core.ddiv (Jvm.FP.Core.i2d n) k))) ∧
    (n.toInt ≠ 0 → sgn (val64 (Jvm.FP.Core.ddiv (Jvm.FP.Core.i2d n) k)) = decide (n.toInt < 0)) := by
  have h := i2d_int n
  have hz := own_zi n
  unfold DInt at h
  have hf := val64_fits (Jvm.FP.Core.i2d n)
  rw [val64_ddiv, hk]
  cases hv : val64 (Jvm.FP.Core.i2d n) with
  | nan => rw [hv] at h; exact h.elim
  | inf s => rw [hv] at h; exact h.elim
  | fin s c q =>
    rw [hv] at h hf hz
    have hq : b64.qmin ≤ q := hf.2.1
    have e1 : quotient b64 (.fin s c q) (.fin false d (-(r : Int))) = roundRatio b64 (s != false) c d (q - -(r : Int)) := by
      simp only [quotient]; rw [if_neg (Nat.ne_of_gt hd)]
    rw [e1]
    have hm : inUnits c q b64.qmin = n.toInt.natAbs * 2 ^ 1074 := by
      have := congrArg Int.natAbs hz
      rw [show zval b64 (.fin s c q) = signed s (inUnits c q b64.qmin) from rfl, natAbs_signed, Int.natAbs_mul, Int.natAbs_natCast] at this
      exact this
    have hu : inUnits c (q - -(r : Int)) b64.qmin = n.toInt.natAbs * 2 ^ 1074 * 2 ^ r := by
      rw [← hm]
      unfold inUnits
      rw [show (q - -(r : Int) - b64.qmin).toNat = (q - b64.qmin).toNat + r by omega, Nat.pow_add, Nat.mul_assoc]
    have h0 : (2 : Nat) ^ (b64.qmin - b64.qmin).toNat = 1 := by rw [Int.sub_self]; rfl
    refine ⟨roundRatio_ne_nan _ _ _ _ _, fun V hV hn hl => ?_, fun V hV hl => ?_, fun hn => ?_⟩
    · refine zmag_roundRatio_le good_b64 (e0 := b64.qmin) hd hV hn (Int.le_refl _) (by omega) ?_
      rw [hu, h0, Nat.mul_one]; exact hl
    · refine zmag_roundRatio_ge good_b64 (e0 := b64.qmin) hd hV (Int.le_refl _) (by omega) ?_
      rw [hu, h0, Nat.mul_one]; exact hl
    · rw [sgn_roundRatio, whole_sign h hn]; simp
/-- what contains asks -/
def own_in (w : UInt64) : Prop := ¬ (cmpValue (FP.dcmp w (4517329193108106637 : UInt64)) .l < (0 : Int32)) ∧ ¬ ((0 : Int32) < cmpValue (FP.dcmp w (4696837146684686336 : UInt64)) .g)
theorem own_cl {w k : UInt64} (hw : val64 w ≠ .nan) (hk : val64 k ≠ .nan) : ¬ (cmpValue (FP.dcmp w k) .l < (0 : Int32)) ↔ zval b64 (val64 k) ≤ zval b64 (val64 w) := by
  rw [show FP.dcmp w k = _ from dcmp_zval hw hk, compare_ite]
  by_cases h1 : zval b64 (val64 w) < zval b64 (val64 k)
  · rw [if_pos h1]; exact ⟨fun h => absurd (by decide) h, fun h => by omega⟩
  · rw [if_neg h1]
    refine ⟨fun _ => by omega, fun _ => ?_⟩
    by_cases h2 : zval b64 (val64 w) = zval b64 (val64 k)
    · rw [if_pos h2]; decide
    · rw [if_neg h2]; decide
theorem own_cg {w k : UInt64} (hw : val64 w ≠ .nan) (hk : val64 k ≠ .nan) : ¬ ((0 : Int32) < cmpValue (FP.dcmp w k) .g) ↔ zval b64 (val64 w) ≤ zval b64 (val64 k) := by
  rw [show FP.dcmp w k = _ from dcmp_zval hw hk, compare_ite]
  by_cases h1 : zval b64 (val64 w) < zval b64 (val64 k)
  · rw [if_pos h1]; exact ⟨fun h => by omega, fun h => by decide⟩
  · rw [if_neg h1]
    by_cases h2 : zval b64 (val64 w) = zval b64 (val64 k)
    · rw [if_pos h2]; exact ⟨fun h => by omega, fun h => by decide⟩
    · rw [if_neg h2]; exact ⟨fun h => absurd (by decide) h, fun h => by omega⟩
theorem own_lo_nn : val64 4517329193108106637 ≠ .nan := by decide +kernel
theorem own_hi_nn : val64 4696837146684686336 ≠ .nan := by decide +kernel
theorem own_in_iff {w : UInt64} (hw : val64 w ≠ .nan) : own_in w ↔ zval b64 (val64 4517329193108106637) ≤ zval b64 (val64 w) ∧ zval b64 (val64 w) ≤ zval b64 (val64 4696837146684686336) := by
  unfold own_in
  rw [own_cl hw own_lo_nn, own_cg hw own_hi_nn]
theorem own_lo_0 : 0 < zval b64 (val64 4517329193108106637) := by decide +kernel
theorem own_lo_1 : zval b64 (val64 4517329193108106637) ≤ 1 * ((2 ^ 1074 : Nat) : Int) := by decide +kernel
theorem own_hi_eq : zval b64 (val64 4696837146684686336) = 1000000 * ((2 ^ 1074 : Nat) : Int) := by decide +kernel
theorem own_m0 (n : Int32) : own_in (FP.i2d n) ↔ 1 ≤ n.toInt ∧ n.toInt ≤ 1000000 := by
  rw [show FP.i2d n = Jvm.FP.Core.i2d n from rfl, own_in_iff (own_i2d_nn n), own_zi, own_hi_eq]
  have h0 := own_lo_0
  have h1 := own_lo_1
  have hp : (0 : Int) < ((2 ^ 1074 : Nat) : Int) := Int.natCast_pos.mpr (Nat.two_pow_pos 1074)
  generalize ((2 ^ 1074 : Nat) : Int) = K at *
  generalize zval b64 (val64 4517329193108106637) = lo at *
  constructor
  · rintro ⟨a, b⟩
    refine ⟨?_, Int.le_of_mul_le_mul_right b hp⟩
    by_cases hn : 1 ≤ n.toInt
    · exact hn
    · have := Int.mul_nonpos_of_nonpos_of_nonneg (show n.toInt ≤ 0 by omega) (Int.le_of_lt hp); omega
  · rintro ⟨a, b⟩
    exact ⟨Int.le_trans h1 (Int.mul_le_mul_of_nonneg_right a (Int.le_of_lt hp)), Int.mul_le_mul_of_nonneg_right b (Int.le_of_lt hp)⟩

theorem own_zneg {w : UInt64} (h : sgn (val64 w) = true) : zval b64 (val64 w) ≤ 0 := by
  unfold zval; rw [h]; simp only [signed, if_true]; omega
theorem own_zpos {w : UInt64} (h : sgn (val64 w) = false) : zval b64 (val64 w) = (zmag b64 (val64 w) : Int) := by
  unfold zval; rw [h]; rfl
theorem own_zle (w : UInt64) : zval b64 (val64 w) ≤ (zmag b64 (val64 w) : Int) := by
  unfold zval; cases sgn (val64 w) <;> simp only [signed] <;> simp <;> omega
theorem own_two : val64 4611686018427387904 = .fin false (2 ^ 52) (-((51 : Nat) : Int)) := by decide +kernel
theorem own_tril : val64 4786511204640096256 = .fin false (1000000000000 * 2 ^ 13) (-((13 : Nat) : Int)) := by decide +kernel
theorem own_lo_z : zval b64 (val64 4517329193108106637) = (zmag b64 (val64 4517329193108106637) : Int) := by decide +kernel
theorem own_hi_z : zval b64 (val64 4696837146684686336) = (zmag b64 (val64 4696837146684686336) : Int) := by decide +kernel
theorem own_le (w : UInt64) {n A D : Nat} (h : ∀ V, Jvm.FP.Core.fits b64 V → V ≠ .nan → n * 2 ^ 1074 * A ≤ zmag b64 V * D → zmag b64 (val64 w) ≤ zmag b64 V) {v : UInt64} (hn : val64 v ≠ .nan) {N : Nat} (hN : n ≤ N) (hv : N * 2 ^ 1074 * A ≤ zmag b64 (val64 v) * D) : zmag b64 (val64 w) ≤ zmag b64 (val64 v) :=
  h _ (val64_fits v) hn (Nat.le_trans (Nat.mul_le_mul_right _ (Nat.mul_le_mul_right _ hN)) hv)
theorem own_ge (w : UInt64) {n A D : Nat} (h : ∀ V, Jvm.FP.Core.fits b64 V → zmag b64 V * D ≤ n * 2 ^ 1074 * A → zmag b64 V ≤ zmag b64 (val64 w)) {v : UInt64} {N : Nat} (hN : N ≤ n) (hv : zmag b64 (val64 v) * D ≤ N * 2 ^ 1074 * A) : zmag b64 (val64 v) ≤ zmag b64 (val64 w) :=
  h _ (val64_fits v) (Nat.le_trans hv (Nat.mul_le_mul_right _ (Nat.mul_le_mul_right _ hN)))
theorem own_v_half : zmag b64 (val64 4602678819172646912) * 2 ^ 52 ≤ 1 * 2 ^ 1074 * 2 ^ 51 := by decide +kernel
theorem own_v_half' : zmag b64 (val64 4517329193108106637) ≤ zmag b64 (val64 4602678819172646912) := by decide +kernel
theorem own_v_hi : 2000000 * 2 ^ 1074 * 2 ^ 51 ≤ zmag b64 (val64 4696837146684686336) * 2 ^ 52 := by decide +kernel
theorem own_v_up : zmag b64 (val64 4696837150979653632) * 2 ^ 52 ≤ 2000001 * 2 ^ 1074 * 2 ^ 51 := by decide +kernel
theorem own_v_up' : zmag b64 (val64 4696837146684686336) < zmag b64 (val64 4696837150979653632) := by decide +kernel
theorem own_v_z : 0 * 2 ^ 1074 * 2 ^ 51 ≤ zmag b64 (val64 0) * 2 ^ 52 := by decide +kernel
theorem own_v_z' : zmag b64 (val64 0) = 0 := by decide +kernel
theorem own_v_nn : val64 0 ≠ .nan ∧ val64 4517329193108106636 ≠ .nan := by decide +kernel
theorem own_v_lo : zmag b64 (val64 4517329193108106637) * (1000000000000 * 2 ^ 13) ≤ 1000000 * 2 ^ 1074 * 2 ^ 13 := by decide +kernel
theorem own_v_dn : 999999 * 2 ^ 1074 * 2 ^ 13 ≤ zmag b64 (val64 4517329193108106636) * (1000000000000 * 2 ^ 13) := by decide +kernel
theorem own_v_dn' : zmag b64 (val64 4517329193108106636) < zmag b64 (val64 4517329193108106637) := by decide +kernel
theorem own_v_h2 : 2147483648 * 2 ^ 1074 * 2 ^ 13 ≤ zmag b64 (val64 4696837146684686336) * (1000000000000 * 2 ^ 13) := by decide +kernel
theorem own_lo_m : 0 < zmag b64 (val64 4517329193108106637) := by decide +kernel
theorem own_m1_nn (n : Int32) : val64 (FP.ddiv (FP.i2d n) 4611686018427387904) ≠ .nan := (own_quo n own_two (by decide)).1
theorem own_m2_nn (n : Int32) : val64 (FP.ddiv (FP.i2d n) 4786511204640096256) ≠ .nan := (own_quo n own_tril (by decide)).1
theorem own_m1 (n : Int32) : own_in (FP.ddiv (FP.i2d n) 4611686018427387904) ↔ 1 ≤ n.toInt ∧ n.toInt ≤ 2000000 := by
  obtain ⟨q1, q2, q3, q4⟩ := own_quo n own_two (by decide)
  rw [own_in_iff (own_m1_nn n), own_lo_z, own_hi_z]
  have hzl := own_zle (Jvm.FP.Core.ddiv (Jvm.FP.Core.i2d n) 4611686018427387904)
  have l0 := own_lo_m
  show _ ≤ zval b64 (val64 (Jvm.FP.Core.ddiv (Jvm.FP.Core.i2d n) 4611686018427387904)) ∧ zval b64 (val64 (Jvm.FP.Core.ddiv (Jvm.FP.Core.i2d n) 4611686018427387904)) ≤ _ ↔ _
  by_cases h0 : n.toInt < 0
  · have hz := own_zneg ((q4 (by omega)).trans (decide_eq_true h0))
    exact ⟨fun h => by omega, fun h => by omega⟩
  by_cases h1 : n.toInt = 0
  · have a := own_le _ q2 own_v_nn.1 (N := 0) (by omega) own_v_z
    rw [own_v_z'] at a
    exact ⟨fun h => by omega, fun h => by omega⟩
  have hz := own_zpos ((q4 h1).trans (decide_eq_false h0))
  rw [hz]
  have a := own_ge _ q3 (N := 1) (by omega) own_v_half
  have b := own_v_half'
  by_cases h2 : n.toInt ≤ 2000000
  · have c := own_le _ q2 own_hi_nn (N := 2000000) (by omega) own_v_hi
    exact ⟨fun _ => ⟨by omega, h2⟩, fun _ => ⟨by omega, by omega⟩⟩
  · have c := own_ge _ q3 (N := 2000001) (by omega) own_v_up
    have d := own_v_up'
    exact ⟨fun h => by omega, fun h => by omega⟩
theorem own_m2 (n : Int32) : own_in (FP.ddiv (FP.i2d n) 4786511204640096256) ↔ 1000000 ≤ n.toInt := by
  obtain ⟨q1, q2, q3, q4⟩ := own_quo n own_tril (by decide)
  rw [own_in_iff (own_m2_nn n), own_lo_z, own_hi_z]
  have hzl := own_zle (Jvm.FP.Core.ddiv (Jvm.FP.Core.i2d n) 4786511204640096256)
  have l0 := own_lo_m
  have u0 := n.toInt_lt
  have u1 := n.le_toInt
  show _ ≤ zval b64 (val64 (Jvm.FP.Core.ddiv (Jvm.FP.Core.i2d n) 4786511204640096256)) ∧ zval b64 (val64 (Jvm.FP.Core.ddiv (Jvm.FP.Core.i2d n) 4786511204640096256)) ≤ _ ↔ _
  by_cases h0 : n.toInt < 0
  · have hz := own_zneg ((q4 (by omega)).trans (decide_eq_true h0))
    exact ⟨fun h => by omega, fun h => by omega⟩
  by_cases h1 : n.toInt < 1000000
  · have a := own_le _ q2 own_v_nn.2 (N := 999999) (by omega) own_v_dn
    have b := own_v_dn'
    exact ⟨fun h => by omega, fun h => by omega⟩
  have hz := own_zpos ((q4 (by omega)).trans (decide_eq_false h0))
  rw [hz]
  have a := own_ge _ q3 (N := 1000000) (by omega) own_v_lo
  have c := own_le _ q2 own_hi_nn (N := 2147483648) (by omega) own_v_h2
  exact ⟨fun _ => by omega, fun _ => ⟨by omega, by omega⟩⟩
end own_plain
theorem d1_0 : decode prog_13_method_2_code 0 = .ok (.dload_n 0, 1) := by decide +kernel
theorem d1_1 : decode prog_13_method_2_code 1 = .ok (.ldc2_w 9, 3) := by decide +kernel
theorem d1_4 : decode prog_13_method_2_code 4 = .ok (.dcmp .l, 1) := by decide +kernel
theorem d1_5 : decode prog_13_method_2_code 5 = .ok (.ifCond .lt 15, 3) := by decide +kernel
theorem d1_20 : decode prog_13_method_2_code 20 = .ok (.iconst 0, 1) := by decide +kernel
theorem d1_21 : decode prog_13_method_2_code 21 = .ok (.ireturn, 1) := by decide +kernel
theorem pn_1 : plainName "com/example/anamnesis/anamnesis/engine/WeightRange" = true := by first | (simp [plainName, overriddenIn]; done) | decide +kernel
theorem ef_1 (m : MethodId) (x0 : UInt64) : entryFrame m #[(.double x0)] 2 = mkF m 0 #[.val (.double x0), .second] [] := by first | (simp [entryFrame, mkF, argsToLocals, Value.category]; done) | rfl
def Q1a (Z : State) (u1 : UInt64) (h0 : Heap) (n0 : Nat) (v : Option Value) (h : Heap) (L : List Loc) : Prop := v = some (.int (0 : Int32)) ∧ Fr n0 L ∧ h = h0
set_option maxRecDepth 65536 in
set_option maxHeartbeats 40000000 in
theorem rm1a (l : Launch) (Z : State) (a0 : Array Value) (hw : ∀ d ∈ tables_1, d.before a0 Z = true) (ws : List Jvm.Cond) (u1 : UInt64) (h0 : Heap) (n0 : Nat) (Z0 : n0 ≤ h0.size) (hc5 : (cmpValue (FP.dcmp u1 (4517329193108106637 : UInt64)) .l) < (0 : Int32)) :
    MetFree l (⟨"com/example/anamnesis/anamnesis/engine/WeightRange", "contains", "(D)Z"⟩ : MethodName) (head1 (Jvm.Cond.code (⟨"com/example/anamnesis/anamnesis/engine/WeightRange", "contains", "(D)Z"⟩ : MethodName) prog_13_method_2_code 2 (some .boolean) :: ws) ({ frames := 0, cells := 0, slots := 0, locals := 0 } : Room)) (fun a U => a = #[(.double u1)] ∧ Z.Warmed39 U.vm ∧ U.heap = h0) (fun _ _ _ _ _ => True) (fun _ U o U' => ∃ v L, o = .returned v ∧ Q1a Z u1 h0 n0 v U'.heap L ∧ FrameEnd U o U' L ({ frames := 0, cells := 0, slots := 0, locals := 0 } : Room).cells ({ frames := 0, cells := 0, slots := 0, locals := 0 } : Room).slots) := by
  refine MetFree.of_bodySF (plainFor_of_name pn_1) hisR ?_
  intro p e s m args below meth c s₁ Bd hml0 hP hK
  obtain ⟨rfl, hZ, hh⟩ := hP
  have hx := Bd.exec
  have hby := Bd.bytes
  have hml : c.maxLocals = 2 := hml0
  have hown : s.vm.findClass "com/example/anamnesis/anamnesis/engine/WeightRange" = some m.cls := findClass_of_methodNamed Bd.named
  have hnm := (name_of_methodNamed Bd.named Bd.method).1
  have X0 : Stand p l e ({ frames := 0, cells := 0, slots := 0, locals := 0 } : Room) s m #[(.double u1)] below meth c s₁ [] 0 0 := Stand.of_body Bd
  have e0 : s₁.heap = h0 := by rw [← hh, Bd.state]; rfl
  have N0 := Fr.nil n0
  have pre0 : ∀ t, Steps p.tables e below (s₁.setTop (mkF m 0 #[.val (.double u1), .second] [])) t → Steps p.tables e below (s₁.setTop (entryFrame m #[(.double u1)] 2)) t := fun t k => castTop (ef_1 m u1) k

  obtain ⟨fs, hr, hrun, hended, hW, hsame⟩ := X0.leave (v := some (.int (0 : Int32))) (fun h => by rw [Bd.returns] at h; cases h)
  refine ⟨_, _, pre0 _ ?_, hrun, hended, _, _, rfl, ?_, ⟨_, rfl⟩, hW, hsame.mono (by decide) (by decide)⟩
  · show Steps p.tables e below (s₁.setTop (mkF m 0 #[.val (.double u1), .second] [])) _
    refine XS.dloadN X0.here hx rfl (hb hby d1_0) rfl ?_
    show Steps p.tables e below (s₁.setTop (mkF m 1 #[.val (.double u1), .second] [(.double u1)])) _
    refine X0.ldc2DoubleC hx hown (mvT hZ (hw _ (List.mem_of_getElem? (i := 5) rfl))) (g := (mkF m 1 #[.val (.double u1), .second] [(.double u1)])) rfl (hb hby d1_1) _ ?_
    show Steps p.tables e below (s₁.setTop (mkF m 4 #[.val (.double u1), .second] [(.double (4517329193108106637 : UInt64)), (.double u1)])) _
    refine XS.dcmpS X0.here hx rfl (hb hby d1_4) rfl rfl ?_
    show Steps p.tables e below (s₁.setTop (mkF m 5 #[.val (.double u1), .second] [(.int (cmpValue (FP.dcmp u1 (4517329193108106637 : UInt64)) .l))])) _
    refine XS.ifYes X0.here hx rfl (pc0 := 5) (pc' := 20) rfl (hb hby d1_5) rfl ((if0 _ _).trans (tlt hc5).1) (by decide) (by decide) ?_
    show Steps p.tables e below (s₁.setTop (mkF m 20 #[.val (.double u1), .second] [])) _
    refine XS.iconst X0.here hx rfl (hb hby d1_20) ?_
    show Steps p.tables e below (s₁.setTop (mkF m 21 #[.val (.double u1), .second] [(.int (0 : Int32))])) _
    exact retN X0 hx (t := .boolean) Bd.returns (by simp) (hb hby d1_21) hr
  · show Q1a Z u1 h0 n0 _ s₁.heap _
    rw [e0]
    exact ⟨rfl, N0, rfl⟩
theorem d1_8 : decode prog_13_method_2_code 8 = .ok (.dload_n 0, 1) := by decide +kernel
theorem d1_9 : decode prog_13_method_2_code 9 = .ok (.ldc2_w 11, 3) := by decide +kernel
theorem d1_12 : decode prog_13_method_2_code 12 = .ok (.dcmp .g, 1) := by decide +kernel
theorem d1_13 : decode prog_13_method_2_code 13 = .ok (.ifCond .gt 7, 3) := by decide +kernel
def Q1b (Z : State) (u1 : UInt64) (h0 : Heap) (n0 : Nat) (v : Option Value) (h : Heap) (L : List Loc) : Prop := v = some (.int (0 : Int32)) ∧ Fr n0 L ∧ h = h0
set_option maxRecDepth 65536 in
set_option maxHeartbeats 40000000 in
theorem rm1b (l : Launch) (Z : State) (a0 : Array Value) (hw : ∀ d ∈ tables_1, d.before a0 Z = true) (ws : List Jvm.Cond) (u1 : UInt64) (h0 : Heap) (n0 : Nat) (Z0 : n0 ≤ h0.size) (hc5 : ¬ ((cmpValue (FP.dcmp u1 (4517329193108106637 : UInt64)) .l) < (0 : Int32))) (hc13 : (0 : Int32) < (cmpValue (FP.dcmp u1 (4696837146684686336 : UInt64)) .g)) :
    MetFree l (⟨"com/example/anamnesis/anamnesis/engine/WeightRange", "contains", "(D)Z"⟩ : MethodName) (head1 (Jvm.Cond.code (⟨"com/example/anamnesis/anamnesis/engine/WeightRange", "contains", "(D)Z"⟩ : MethodName) prog_13_method_2_code 2 (some .boolean) :: ws) ({ frames := 0, cells := 0, slots := 0, locals := 0 } : Room)) (fun a U => a = #[(.double u1)] ∧ Z.Warmed39 U.vm ∧ U.heap = h0) (fun _ _ _ _ _ => True) (fun _ U o U' => ∃ v L, o = .returned v ∧ Q1b Z u1 h0 n0 v U'.heap L ∧ FrameEnd U o U' L ({ frames := 0, cells := 0, slots := 0, locals := 0 } : Room).cells ({ frames := 0, cells := 0, slots := 0, locals := 0 } : Room).slots) := by
  refine MetFree.of_bodySF (plainFor_of_name pn_1) hisR ?_
  intro p e s m args below meth c s₁ Bd hml0 hP hK
  obtain ⟨rfl, hZ, hh⟩ := hP
  have hx := Bd.exec
  have hby := Bd.bytes
  have hml : c.maxLocals = 2 := hml0
  have hown : s.vm.findClass "com/example/anamnesis/anamnesis/engine/WeightRange" = some m.cls := findClass_of_methodNamed Bd.named
  have hnm := (name_of_methodNamed Bd.named Bd.method).1
  have X0 : Stand p l e ({ frames := 0, cells := 0, slots := 0, locals := 0 } : Room) s m #[(.double u1)] below meth c s₁ [] 0 0 := Stand.of_body Bd
  have e0 : s₁.heap = h0 := by rw [← hh, Bd.state]; rfl
  have N0 := Fr.nil n0
  have pre0 : ∀ t, Steps p.tables e below (s₁.setTop (mkF m 0 #[.val (.double u1), .second] [])) t → Steps p.tables e below (s₁.setTop (entryFrame m #[(.double u1)] 2)) t := fun t k => castTop (ef_1 m u1) k

  obtain ⟨fs, hr, hrun, hended, hW, hsame⟩ := X0.leave (v := some (.int (0 : Int32))) (fun h => by rw [Bd.returns] at h; cases h)
  refine ⟨_, _, pre0 _ ?_, hrun, hended, _, _, rfl, ?_, ⟨_, rfl⟩, hW, hsame.mono (by decide) (by decide)⟩
  · show Steps p.tables e below (s₁.setTop (mkF m 0 #[.val (.double u1), .second] [])) _
    refine XS.dloadN X0.here hx rfl (hb hby d1_0) rfl ?_
    show Steps p.tables e below (s₁.setTop (mkF m 1 #[.val (.double u1), .second] [(.double u1)])) _
    refine X0.ldc2DoubleC hx hown (mvT hZ (hw _ (List.mem_of_getElem? (i := 5) rfl))) (g := (mkF m 1 #[.val (.double u1), .second] [(.double u1)])) rfl (hb hby d1_1) _ ?_
    show Steps p.tables e below (s₁.setTop (mkF m 4 #[.val (.double u1), .second] [(.double (4517329193108106637 : UInt64)), (.double u1)])) _
    refine XS.dcmpS X0.here hx rfl (hb hby d1_4) rfl rfl ?_
    show Steps p.tables e below (s₁.setTop (mkF m 5 #[.val (.double u1), .second] [(.int (cmpValue (FP.dcmp u1 (4517329193108106637 : UInt64)) .l))])) _
    refine XS.ifNo X0.here hx rfl (hb hby d1_5) rfl ((if0 _ _).trans (flt hc5).1) ?_
    show Steps p.tables e below (s₁.setTop (mkF m 8 #[.val (.double u1), .second] [])) _
    refine XS.dloadN X0.here hx rfl (hb hby d1_8) rfl ?_
    show Steps p.tables e below (s₁.setTop (mkF m 9 #[.val (.double u1), .second] [(.double u1)])) _
    refine X0.ldc2DoubleC hx hown (mvT hZ (hw _ (List.mem_of_getElem? (i := 8) rfl))) (g := (mkF m 9 #[.val (.double u1), .second] [(.double u1)])) rfl (hb hby d1_9) _ ?_
    show Steps p.tables e below (s₁.setTop (mkF m 12 #[.val (.double u1), .second] [(.double (4696837146684686336 : UInt64)), (.double u1)])) _
    refine XS.dcmpS X0.here hx rfl (hb hby d1_12) rfl rfl ?_
    show Steps p.tables e below (s₁.setTop (mkF m 13 #[.val (.double u1), .second] [(.int (cmpValue (FP.dcmp u1 (4696837146684686336 : UInt64)) .g))])) _
    refine XS.ifYes X0.here hx rfl (pc0 := 13) (pc' := 20) rfl (hb hby d1_13) rfl ((if0 _ _).trans (tlt hc13).2.2.1) (by decide) (by decide) ?_
    show Steps p.tables e below (s₁.setTop (mkF m 20 #[.val (.double u1), .second] [])) _
    refine XS.iconst X0.here hx rfl (hb hby d1_20) ?_
    show Steps p.tables e below (s₁.setTop (mkF m 21 #[.val (.double u1), .second] [(.int (0 : Int32))])) _
    exact retN X0 hx (t := .boolean) Bd.returns (by simp) (hb hby d1_21) hr
  · show Q1b Z u1 h0 n0 _ s₁.heap _
    rw [e0]
    exact ⟨rfl, N0, rfl⟩
theorem d1_16 : decode prog_13_method_2_code 16 = .ok (.iconst 1, 1) := by decide +kernel
theorem d1_17 : decode prog_13_method_2_code 17 = .ok (.goto 4, 3) := by decide +kernel
def Q1c (Z : State) (u1 : UInt64) (h0 : Heap) (n0 : Nat) (v : Option Value) (h : Heap) (L : List Loc) : Prop := v = some (.int (1 : Int32)) ∧ Fr n0 L ∧ h = h0
set_option maxRecDepth 65536 in
set_option maxHeartbeats 40000000 in
theorem rm1c (l : Launch) (Z : State) (a0 : Array Value) (hw : ∀ d ∈ tables_1, d.before a0 Z = true) (ws : List Jvm.Cond) (u1 : UInt64) (h0 : Heap) (n0 : Nat) (Z0 : n0 ≤ h0.size) (hc5 : ¬ ((cmpValue (FP.dcmp u1 (4517329193108106637 : UInt64)) .l) < (0 : Int32))) (hc13 : ¬ ((0 : Int32) < (cmpValue (FP.dcmp u1 (4696837146684686336 : UInt64)) .g))) :
    MetFree l (⟨"com/example/anamnesis/anamnesis/engine/WeightRange", "contains", "(D)Z"⟩ : MethodName) (head1 (Jvm.Cond.code (⟨"com/example/anamnesis/anamnesis/engine/WeightRange", "contains", "(D)Z"⟩ : MethodName) prog_13_method_2_code 2 (some .boolean) :: ws) ({ frames := 0, cells := 0, slots := 0, locals := 0 } : Room)) (fun a U => a = #[(.double u1)] ∧ Z.Warmed39 U.vm ∧ U.heap = h0) (fun _ _ _ _ _ => True) (fun _ U o U' => ∃ v L, o = .returned v ∧ Q1c Z u1 h0 n0 v U'.heap L ∧ FrameEnd U o U' L ({ frames := 0, cells := 0, slots := 0, locals := 0 } : Room).cells ({ frames := 0, cells := 0, slots := 0, locals := 0 } : Room).slots) := by
  refine MetFree.of_bodySF (plainFor_of_name pn_1) hisR ?_
  intro p e s m args below meth c s₁ Bd hml0 hP hK
  obtain ⟨rfl, hZ, hh⟩ := hP
  have hx := Bd.exec
  have hby := Bd.bytes
  have hml : c.maxLocals = 2 := hml0
  have hown : s.vm.findClass "com/example/anamnesis/anamnesis/engine/WeightRange" = some m.cls := findClass_of_methodNamed Bd.named
  have hnm := (name_of_methodNamed Bd.named Bd.method).1
  have X0 : Stand p l e ({ frames := 0, cells := 0, slots := 0, locals := 0 } : Room) s m #[(.double u1)] below meth c s₁ [] 0 0 := Stand.of_body Bd
  have e0 : s₁.heap = h0 := by rw [← hh, Bd.state]; rfl
  have N0 := Fr.nil n0
  have pre0 : ∀ t, Steps p.tables e below (s₁.setTop (mkF m 0 #[.val (.double u1), .second] [])) t → Steps p.tables e below (s₁.setTop (entryFrame m #[(.double u1)] 2)) t := fun t k => castTop (ef_1 m u1) k

  obtain ⟨fs, hr, hrun, hended, hW, hsame⟩ := X0.leave (v := some (.int (1 : Int32))) (fun h => by rw [Bd.returns] at h; cases h)
  refine ⟨_, _, pre0 _ ?_, hrun, hended, _, _, rfl, ?_, ⟨_, rfl⟩, hW, hsame.mono (by decide) (by decide)⟩
  · show Steps p.tables e below (s₁.setTop (mkF m 0 #[.val (.double u1), .second] [])) _
    refine XS.dloadN X0.here hx rfl (hb hby d1_0) rfl ?_
    show Steps p.tables e below (s₁.setTop (mkF m 1 #[.val (.double u1), .second] [(.double u1)])) _
    refine X0.ldc2DoubleC hx hown (mvT hZ (hw _ (List.mem_of_getElem? (i := 5) rfl))) (g := (mkF m 1 #[.val (.double u1), .second] [(.double u1)])) rfl (hb hby d1_1) _ ?_
    show Steps p.tables e below (s₁.setTop (mkF m 4 #[.val (.double u1), .second] [(.double (4517329193108106637 : UInt64)), (.double u1)])) _
    refine XS.dcmpS X0.here hx rfl (hb hby d1_4) rfl rfl ?_
    show Steps p.tables e below (s₁.setTop (mkF m 5 #[.val (.double u1), .second] [(.int (cmpValue (FP.dcmp u1 (4517329193108106637 : UInt64)) .l))])) _
    refine XS.ifNo X0.here hx rfl (hb hby d1_5) rfl ((if0 _ _).trans (flt hc5).1) ?_
    show Steps p.tables e below (s₁.setTop (mkF m 8 #[.val (.double u1), .second] [])) _
    refine XS.dloadN X0.here hx rfl (hb hby d1_8) rfl ?_
    show Steps p.tables e below (s₁.setTop (mkF m 9 #[.val (.double u1), .second] [(.double u1)])) _
    refine X0.ldc2DoubleC hx hown (mvT hZ (hw _ (List.mem_of_getElem? (i := 8) rfl))) (g := (mkF m 9 #[.val (.double u1), .second] [(.double u1)])) rfl (hb hby d1_9) _ ?_
    show Steps p.tables e below (s₁.setTop (mkF m 12 #[.val (.double u1), .second] [(.double (4696837146684686336 : UInt64)), (.double u1)])) _
    refine XS.dcmpS X0.here hx rfl (hb hby d1_12) rfl rfl ?_
    show Steps p.tables e below (s₁.setTop (mkF m 13 #[.val (.double u1), .second] [(.int (cmpValue (FP.dcmp u1 (4696837146684686336 : UInt64)) .g))])) _
    refine XS.ifNo X0.here hx rfl (hb hby d1_13) rfl ((if0 _ _).trans (flt hc13).2.2.1) ?_
    show Steps p.tables e below (s₁.setTop (mkF m 16 #[.val (.double u1), .second] [])) _
    refine XS.iconst X0.here hx rfl (hb hby d1_16) ?_
    show Steps p.tables e below (s₁.setTop (mkF m 17 #[.val (.double u1), .second] [(.int (1 : Int32))])) _
    refine XS.goto X0.here hx rfl (pc0 := 17) (pc' := 21) rfl (hb hby d1_17) (by decide) (by decide) ?_
    show Steps p.tables e below (s₁.setTop (mkF m 21 #[.val (.double u1), .second] [(.int (1 : Int32))])) _
    exact retN X0 hx (t := .boolean) Bd.returns (by simp) (hb hby d1_21) hr
  · show Q1c Z u1 h0 n0 _ s₁.heap _
    rw [e0]
    exact ⟨rfl, N0, rfl⟩
def Q1 (Z : State) (u1 : UInt64) (b : Int32) (h0 : Heap) (n0 : Nat) (v : Option Value) (h : Heap) (L : List Loc) : Prop := v = some (.int b) ∧ Fr n0 L ∧ h = h0
theorem rm1 (l : Launch) (Z : State) (a0 : Array Value) (hw : ∀ d ∈ tables_1, d.before a0 Z = true) (ws : List Jvm.Cond) (u1 : UInt64) (b : Int32) (h0 : Heap) (n0 : Nat) (Z0 : n0 ≤ h0.size) (hB : (b = 1 ∧ own_in u1) ∨ (b = 0 ∧ ¬ own_in u1)) :
    MetFree l (⟨"com/example/anamnesis/anamnesis/engine/WeightRange", "contains", "(D)Z"⟩ : MethodName) (head1 (Jvm.Cond.code (⟨"com/example/anamnesis/anamnesis/engine/WeightRange", "contains", "(D)Z"⟩ : MethodName) prog_13_method_2_code 2 (some .boolean) :: ws) ({ frames := 0, cells := 0, slots := 0, locals := 0 } : Room)) (fun a U => a = #[(.double u1)] ∧ Z.Warmed39 U.vm ∧ U.heap = h0) (fun _ _ _ _ _ => True) (fun _ U o U' => ∃ v L, o = .returned v ∧ Q1 Z u1 b h0 n0 v U'.heap L ∧ FrameEnd U o U' L ({ frames := 0, cells := 0, slots := 0, locals := 0 } : Room).cells ({ frames := 0, cells := 0, slots := 0, locals := 0 } : Room).slots) := by
  rcases hB with ⟨rfl, h1, h2⟩ | ⟨rfl, hN⟩
  · exact rm1c l Z a0 hw ws u1 h0 n0 Z0 h1 h2
  · by_cases c5 : cmpValue (FP.dcmp u1 (4517329193108106637 : UInt64)) .l < (0 : Int32)
    · exact rm1a l Z a0 hw ws u1 h0 n0 Z0 c5
    · refine rm1b l Z a0 hw ws u1 h0 n0 Z0 c5 (Decidable.not_not.mp fun h => hN ⟨c5, h⟩)
theorem pn_0 : plainName "com/example/anamnesis/anamnesis/engine/WeightRangeContainsPinLaw" = true := by first | (simp [plainName, overriddenIn]; done) | decide +kernel
theorem pd_0_0 : parseMethodDescriptor "(D)Z" = some ⟨[.double], some .boolean⟩ := by decide +kernel
theorem ef_0 (m : MethodId) (x0 : Int32) (x1 : Int32) : entryFrame m #[(.int x0), (.int x1)] maxLocals = mkF m 0 #[.val (.int x0), .val (.int x1), .unset, .unset, .unset, .unset] [] := by first | (simp [entryFrame, mkF, argsToLocals, Value.category, maxLocals]; done) | rfl
def Q0a (Z : State) (p1 : Int32) (p2 : Int32) (h0 : Heap) (n0 : Nat) (v : Option Value) (h : Heap) (L : List Loc) : Prop := v = some (.int (1 : Int32)) ∧ Fr n0 L
set_option maxRecDepth 65536 in
set_option maxHeartbeats 40000000 in
theorem rm0a (l : Launch) (Z : State) (a0 : Array Value) (hw : ∀ d ∈ tables_1, d.before a0 Z = true) (ws : List Jvm.Cond) (p1 : Int32) (p2 : Int32) (h0 : Heap) (n0 : Nat) (Z0 : n0 ≤ h0.size) (hIn : ¬ own_in (FP.i2d p1)) (hc8 : ((p2 &&& (2147483647 : Int32)) % (3 : Int32)) = (0 : Int32)) (hc16 : p1 < (1 : Int32)) :
    MetFree l x (head1 (Jvm.Cond.code x code maxLocals ret :: ws) room_1) (fun a U => a = #[(.int p1), (.int p2)] ∧ Z.Warmed39 U.vm ∧ U.heap = h0) (fun _ _ _ _ _ => True) (fun _ U o U' => ∃ v L, o = .returned v ∧ Q0a Z p1 p2 h0 n0 v U'.heap L ∧ FrameEnd U o U' L room_1.cells room_1.slots) := by
  refine MetFree.of_bodySF (plainFor_of_name pn_0) hisR ?_
  intro p e s m args below meth c s₁ Bd hml0 hP hK
  obtain ⟨rfl, hZ, hh⟩ := hP
  have hx := Bd.exec
  have hby := Bd.bytes
  have hml : c.maxLocals = 6 := hml0
  have hown : s.vm.findClass "com/example/anamnesis/anamnesis/engine/WeightRangeContainsPinLaw" = some m.cls := findClass_of_methodNamed Bd.named
  have hnm := (name_of_methodNamed Bd.named Bd.method).1
  have X0 : Stand p l e room_1 s m #[(.int p1), (.int p2)] below meth c s₁ [] 0 0 := Stand.of_body Bd
  have e0 : s₁.heap = h0 := by rw [← hh, Bd.state]; rfl
  have N0 := Fr.nil n0
  have pre0 : ∀ t, Steps p.tables e below (s₁.setTop (mkF m 0 #[.val (.int p1), .val (.int p2), .unset, .unset, .unset, .unset] [])) t → Steps p.tables e below (s₁.setTop (entryFrame m #[(.int p1), (.int p2)] maxLocals)) t := fun t k => castTop (ef_0 m p1 p2) k
  obtain ⟨_, _, ⟨T3, L3, k3, n3⟩, -, X3, ⟨Lc3, hQ3, l3, y3, z3⟩, st3⟩ := Jvm.LawKit.callS X0 hx (y := (⟨"com/example/anamnesis/anamnesis/engine/WeightRange", "contains", "(D)Z"⟩ : MethodName)) hown (mvT hZ (hw _ (List.mem_of_getElem? (i := 1) rfl))) (mvT hZ (hw _ (List.mem_of_getElem? (i := 2) rfl))) (mvT hZ (hw _ (List.mem_of_getElem? (i := 3) rfl))) (mvT hZ (hw _ (List.mem_of_getElem? (i := 4) rfl))) (by decide) (backOf (W := 0) (rm1 l Z a0 hw [] (FP.i2d p1) (0 : Int32) h0 n0 Z0 (Or.inr ⟨rfl, hIn⟩)) hZ (hw _ (List.mem_of_getElem? (i := 4) rfl)) (hw _ (List.mem_of_getElem? (i := 3) rfl)) (by decide) (by decide)) (g := (mkF m 33 #[.val (.int p1), .val (.int p2), .val (.int ((p2 &&& (2147483647 : Int32)) % (3 : Int32))), .val (.double (FP.i2d p1)), .second, .val (.int (0 : Int32))] [(.double (FP.i2d p1))])) rfl (by rw [hml]; rfl) (argsL := [(.double (FP.i2d p1))]) (rest := []) (lenOf pd_0_0 rfl) rfl (by show 2 * 0 + _ ≤ _; exact Nat.le_of_eq rfl) (hb hby at_33) (fun _ _ => ⟨rfl, e0, (by decide : 0 + 0 ≤ _), (by decide : 0 + 0 ≤ _)⟩)
  dsimp only [Pt.U, Pt.locs, Pt.cells, Pt.slots] at X3 l3 y3 z3 st3 hQ3
  subst l3 y3 z3
  obtain ⟨rfl, N3q, k3q⟩ := hQ3
  have N3 := Fr.app N0 N3q
  obtain ⟨fs, hr, hrun, hended, hW, hsame⟩ := X3.leave (v := some (.int (1 : Int32))) (fun h => by rw [Bd.returns] at h; cases h)
  refine ⟨_, _, pre0 _ ?_, hrun, hended, _, _, rfl, ?_, ⟨_, rfl⟩, hW, hsame.mono (by decide) (by decide)⟩
  · show Steps p.tables e below (s₁.setTop (mkF m 0 #[.val (.int p1), .val (.int p2), .unset, .unset, .unset, .unset] [])) _
    refine XS.iloadN X0.here hx rfl (hb hby at_0) rfl ?_
    show Steps p.tables e below (s₁.setTop (mkF m 1 #[.val (.int p1), .val (.int p2), .unset, .unset, .unset, .unset] [(.int p2)])) _
    refine X0.ldcInt hx hown (mvT hZ (hw _ (List.mem_of_getElem? (i := 0) rfl))) (g := (mkF m 1 #[.val (.int p1), .val (.int p2), .unset, .unset, .unset, .unset] [(.int p2)])) rfl (hb hby at_1) _ ?_
    show Steps p.tables e below (s₁.setTop (mkF m 3 #[.val (.int p1), .val (.int p2), .unset, .unset, .unset, .unset] [(.int (2147483647 : Int32)), (.int p2)])) _
    refine XS.iand X0.here hx rfl (hb hby at_3) rfl ?_
    show Steps p.tables e below (s₁.setTop (mkF m 4 #[.val (.int p1), .val (.int p2), .unset, .unset, .unset, .unset] [(.int (p2 &&& (2147483647 : Int32)))])) _
    refine XS.iconst X0.here hx rfl (hb hby at_4) ?_
    show Steps p.tables e below (s₁.setTop (mkF m 5 #[.val (.int p1), .val (.int p2), .unset, .unset, .unset, .unset] [(.int (3 : Int32)), (.int (p2 &&& (2147483647 : Int32)))])) _
    refine iremM X0 hx rfl (hb hby at_5) rfl (by decide) ?_
    show Steps p.tables e below (s₁.setTop (mkF m 6 #[.val (.int p1), .val (.int p2), .unset, .unset, .unset, .unset] [(.int ((p2 &&& (2147483647 : Int32)) % (3 : Int32)))])) _
    refine XS.istoreN X0.here hx rfl (hb hby at_6) rfl (l' := #[.val (.int p1), .val (.int p2), .val (.int ((p2 &&& (2147483647 : Int32)) % (3 : Int32))), .unset, .unset, .unset]) rfl ?_
    show Steps p.tables e below (s₁.setTop (mkF m 7 #[.val (.int p1), .val (.int p2), .val (.int ((p2 &&& (2147483647 : Int32)) % (3 : Int32))), .unset, .unset, .unset] [])) _
    refine XS.iloadN X0.here hx rfl (hb hby at_7) rfl ?_
    show Steps p.tables e below (s₁.setTop (mkF m 8 #[.val (.int p1), .val (.int p2), .val (.int ((p2 &&& (2147483647 : Int32)) % (3 : Int32))), .unset, .unset, .unset] [(.int ((p2 &&& (2147483647 : Int32)) % (3 : Int32)))])) _
    refine XS.ifNo X0.here hx rfl (hb hby at_8) rfl ((if0 _ _).trans (teq hc8).2) ?_
    show Steps p.tables e below (s₁.setTop (mkF m 11 #[.val (.int p1), .val (.int p2), .val (.int ((p2 &&& (2147483647 : Int32)) % (3 : Int32))), .unset, .unset, .unset] [])) _
    refine XS.iloadN X0.here hx rfl (hb hby at_11) rfl ?_
    show Steps p.tables e below (s₁.setTop (mkF m 12 #[.val (.int p1), .val (.int p2), .val (.int ((p2 &&& (2147483647 : Int32)) % (3 : Int32))), .unset, .unset, .unset] [(.int p1)])) _
    refine XS.i2dS X0.here hx rfl (hb hby at_12) rfl rfl ?_
    show Steps p.tables e below (s₁.setTop (mkF m 13 #[.val (.int p1), .val (.int p2), .val (.int ((p2 &&& (2147483647 : Int32)) % (3 : Int32))), .unset, .unset, .unset] [(.double (FP.i2d p1))])) _
    refine XS.dstoreN X0.here hx rfl (hb hby at_13) rfl (l' := #[.val (.int p1), .val (.int p2), .val (.int ((p2 &&& (2147483647 : Int32)) % (3 : Int32))), .val (.double (FP.i2d p1)), .second, .unset]) rfl ?_
    show Steps p.tables e below (s₁.setTop (mkF m 14 #[.val (.int p1), .val (.int p2), .val (.int ((p2 &&& (2147483647 : Int32)) % (3 : Int32))), .val (.double (FP.i2d p1)), .second, .unset] [])) _
    refine XS.iloadN X0.here hx rfl (hb hby at_14) rfl ?_
    show Steps p.tables e below (s₁.setTop (mkF m 15 #[.val (.int p1), .val (.int p2), .val (.int ((p2 &&& (2147483647 : Int32)) % (3 : Int32))), .val (.double (FP.i2d p1)), .second, .unset] [(.int p1)])) _
    refine XS.iconst X0.here hx rfl (hb hby at_15) ?_
    show Steps p.tables e below (s₁.setTop (mkF m 16 #[.val (.int p1), .val (.int p2), .val (.int ((p2 &&& (2147483647 : Int32)) % (3 : Int32))), .val (.double (FP.i2d p1)), .second, .unset] [(.int (1 : Int32)), (.int p1)])) _
    refine XS.icmpYes X0.here hx rfl (pc0 := 16) (pc' := 29) rfl (hb hby at_16) rfl (tlt hc16).1 (by decide) (by decide) ?_
    show Steps p.tables e below (s₁.setTop (mkF m 29 #[.val (.int p1), .val (.int p2), .val (.int ((p2 &&& (2147483647 : Int32)) % (3 : Int32))), .val (.double (FP.i2d p1)), .second, .unset] [])) _
    refine XS.iconst X0.here hx rfl (hb hby at_29) ?_
    show Steps p.tables e below (s₁.setTop (mkF m 30 #[.val (.int p1), .val (.int p2), .val (.int ((p2 &&& (2147483647 : Int32)) % (3 : Int32))), .val (.double (FP.i2d p1)), .second, .unset] [(.int (0 : Int32))])) _
    refine XS.istore X0.here hx rfl (hb hby at_30) rfl (l' := #[.val (.int p1), .val (.int p2), .val (.int ((p2 &&& (2147483647 : Int32)) % (3 : Int32))), .val (.double (FP.i2d p1)), .second, .val (.int (0 : Int32))]) rfl ?_
    show Steps p.tables e below (s₁.setTop (mkF m 32 #[.val (.int p1), .val (.int p2), .val (.int ((p2 &&& (2147483647 : Int32)) % (3 : Int32))), .val (.double (FP.i2d p1)), .second, .val (.int (0 : Int32))] [])) _
    refine XS.dloadN X0.here hx rfl (hb hby at_32) rfl ?_
    show Steps p.tables e below (s₁.setTop (mkF m 33 #[.val (.int p1), .val (.int p2), .val (.int ((p2 &&& (2147483647 : Int32)) % (3 : Int32))), .val (.double (FP.i2d p1)), .second, .val (.int (0 : Int32))] [(.double (FP.i2d p1))])) _
    refine st3 _ ?_
    show Steps p.tables e below (T3.setTop (mkF m 36 #[.val (.int p1), .val (.int p2), .val (.int ((p2 &&& (2147483647 : Int32)) % (3 : Int32))), .val (.double (FP.i2d p1)), .second, .val (.int (0 : Int32))] [(.int (0 : Int32))])) _
    refine XS.iload X3.here hx rfl (hb hby at_36) rfl ?_
    show Steps p.tables e below (T3.setTop (mkF m 38 #[.val (.int p1), .val (.int p2), .val (.int ((p2 &&& (2147483647 : Int32)) % (3 : Int32))), .val (.double (FP.i2d p1)), .second, .val (.int (0 : Int32))] [(.int (0 : Int32)), (.int (0 : Int32))])) _
    refine XS.icmpNo X3.here hx rfl (hb hby at_38) rfl (teq (by decide : (0 : Int32) = (0 : Int32))).2 ?_
    show Steps p.tables e below (T3.setTop (mkF m 41 #[.val (.int p1), .val (.int p2), .val (.int ((p2 &&& (2147483647 : Int32)) % (3 : Int32))), .val (.double (FP.i2d p1)), .second, .val (.int (0 : Int32))] [])) _
    refine XS.iconst X3.here hx rfl (hb hby at_41) ?_
    show Steps p.tables e below (T3.setTop (mkF m 42 #[.val (.int p1), .val (.int p2), .val (.int ((p2 &&& (2147483647 : Int32)) % (3 : Int32))), .val (.double (FP.i2d p1)), .second, .val (.int (0 : Int32))] [(.int (1 : Int32))])) _
    refine XS.goto X3.here hx rfl (pc0 := 42) (pc' := 46) rfl (hb hby at_42) (by decide) (by decide) ?_
    show Steps p.tables e below (T3.setTop (mkF m 46 #[.val (.int p1), .val (.int p2), .val (.int ((p2 &&& (2147483647 : Int32)) % (3 : Int32))), .val (.double (FP.i2d p1)), .second, .val (.int (0 : Int32))] [(.int (1 : Int32))])) _
    exact retN X3 hx (t := .boolean) Bd.returns (by simp) (hb hby at_46) hr
  · show Q0a Z p1 p2 h0 n0 _ T3.heap _
    exact ⟨rfl, N3⟩
def Q0b (Z : State) (p1 : Int32) (p2 : Int32) (h0 : Heap) (n0 : Nat) (v : Option Value) (h : Heap) (L : List Loc) : Prop := v = some (.int (1 : Int32)) ∧ Fr n0 L
set_option maxRecDepth 65536 in
set_option maxHeartbeats 40000000 in
theorem rm0b (l : Launch) (Z : State) (a0 : Array Value) (hw : ∀ d ∈ tables_1, d.before a0 Z = true) (ws : List Jvm.Cond) (p1 : Int32) (p2 : Int32) (h0 : Heap) (n0 : Nat) (Z0 : n0 ≤ h0.size) (hIn : ¬ own_in (FP.i2d p1)) (hc8 : ((p2 &&& (2147483647 : Int32)) % (3 : Int32)) = (0 : Int32)) (hc16 : ¬ (p1 < (1 : Int32))) (hc22 : (1000000 : Int32) < p1) :
    MetFree l x (head1 (Jvm.Cond.code x code maxLocals ret :: ws) room_1) (fun a U => a = #[(.int p1), (.int p2)] ∧ Z.Warmed39 U.vm ∧ U.heap = h0) (fun _ _ _ _ _ => True) (fun _ U o U' => ∃ v L, o = .returned v ∧ Q0b Z p1 p2 h0 n0 v U'.heap L ∧ FrameEnd U o U' L room_1.cells room_1.slots) := by
  refine MetFree.of_bodySF (plainFor_of_name pn_0) hisR ?_
  intro p e s m args below meth c s₁ Bd hml0 hP hK
  obtain ⟨rfl, hZ, hh⟩ := hP
  have hx := Bd.exec
  have hby := Bd.bytes
  have hml : c.maxLocals = 6 := hml0
  have hown : s.vm.findClass "com/example/anamnesis/anamnesis/engine/WeightRangeContainsPinLaw" = some m.cls := findClass_of_methodNamed Bd.named
  have hnm := (name_of_methodNamed Bd.named Bd.method).1
  have X0 : Stand p l e room_1 s m #[(.int p1), (.int p2)] below meth c s₁ [] 0 0 := Stand.of_body Bd
  have e0 : s₁.heap = h0 := by rw [← hh, Bd.state]; rfl
  have N0 := Fr.nil n0
  have pre0 : ∀ t, Steps p.tables e below (s₁.setTop (mkF m 0 #[.val (.int p1), .val (.int p2), .unset, .unset, .unset, .unset] [])) t → Steps p.tables e below (s₁.setTop (entryFrame m #[(.int p1), (.int p2)] maxLocals)) t := fun t k => castTop (ef_0 m p1 p2) k
  obtain ⟨_, _, ⟨T3, L3, k3, n3⟩, -, X3, ⟨Lc3, hQ3, l3, y3, z3⟩, st3⟩ := Jvm.LawKit.callS X0 hx (y := (⟨"com/example/anamnesis/anamnesis/engine/WeightRange", "contains", "(D)Z"⟩ : MethodName)) hown (mvT hZ (hw _ (List.mem_of_getElem? (i := 1) rfl))) (mvT hZ (hw _ (List.mem_of_getElem? (i := 2) rfl))) (mvT hZ (hw _ (List.mem_of_getElem? (i := 3) rfl))) (mvT hZ (hw _ (List.mem_of_getElem? (i := 4) rfl))) (by decide) (backOf (W := 0) (rm1 l Z a0 hw [] (FP.i2d p1) (0 : Int32) h0 n0 Z0 (Or.inr ⟨rfl, hIn⟩)) hZ (hw _ (List.mem_of_getElem? (i := 4) rfl)) (hw _ (List.mem_of_getElem? (i := 3) rfl)) (by decide) (by decide)) (g := (mkF m 33 #[.val (.int p1), .val (.int p2), .val (.int ((p2 &&& (2147483647 : Int32)) % (3 : Int32))), .val (.double (FP.i2d p1)), .second, .val (.int (0 : Int32))] [(.double (FP.i2d p1))])) rfl (by rw [hml]; rfl) (argsL := [(.double (FP.i2d p1))]) (rest := []) (lenOf pd_0_0 rfl) rfl (by show 2 * 0 + _ ≤ _; exact Nat.le_of_eq rfl) (hb hby at_33) (fun _ _ => ⟨rfl, e0, (by decide : 0 + 0 ≤ _), (by decide : 0 + 0 ≤ _)⟩)
  dsimp only [Pt.U, Pt.locs, Pt.cells, Pt.slots] at X3 l3 y3 z3 st3 hQ3
  subst l3 y3 z3
  obtain ⟨rfl, N3q, k3q⟩ := hQ3
  have N3 := Fr.app N0 N3q
  obtain ⟨fs, hr, hrun, hended, hW, hsame⟩ := X3.leave (v := some (.int (1 : Int32))) (fun h => by rw [Bd.returns] at h; cases h)
  refine ⟨_, _, pre0 _ ?_, hrun, hended, _, _, rfl, ?_, ⟨_, rfl⟩, hW, hsame.mono (by decide) (by decide)⟩
  · show Steps p.tables e below (s₁.setTop (mkF m 0 #[.val (.int p1), .val (.int p2), .unset, .unset, .unset, .unset] [])) _
    refine XS.iloadN X0.here hx rfl (hb hby at_0) rfl ?_
    show Steps p.tables e below (s₁.setTop (mkF m 1 #[.val (.int p1), .val (.int p2), .unset, .unset, .unset, .unset] [(.int p2)])) _
    refine X0.ldcInt hx hown (mvT hZ (hw _ (List.mem_of_getElem? (i := 0) rfl))) (g := (mkF m 1 #[.val (.int p1), .val (.int p2), .unset, .unset, .unset, .unset] [(.int p2)])) rfl (hb hby at_1) _ ?_
    show Steps p.tables e below (s₁.setTop (mkF m 3 #[.val (.int p1), .val (.int p2), .unset, .unset, .unset, .unset] [(.int (2147483647 : Int32)), (.int p2)])) _
    refine XS.iand X0.here hx rfl (hb hby at_3) rfl ?_
    show Steps p.tables e below (s₁.setTop (mkF m 4 #[.val (.int p1), .val (.int p2), .unset, .unset, .unset, .unset] [(.int (p2 &&& (2147483647 : Int32)))])) _
    refine XS.iconst X0.here hx rfl (hb hby at_4) ?_
    show Steps p.tables e below (s₁.setTop (mkF m 5 #[.val (.int p1), .val (.int p2), .unset, .unset, .unset, .unset] [(.int (3 : Int32)), (.int (p2 &&& (2147483647 : Int32)))])) _
    refine iremM X0 hx rfl (hb hby at_5) rfl (by decide) ?_
    show Steps p.tables e below (s₁.setTop (mkF m 6 #[.val (.int p1), .val (.int p2), .unset, .unset, .unset, .unset] [(.int ((p2 &&& (2147483647 : Int32)) % (3 : Int32)))])) _
    refine XS.istoreN X0.here hx rfl (hb hby at_6) rfl (l' := #[.val (.int p1), .val (.int p2), .val (.int ((p2 &&& (2147483647 : Int32)) % (3 : Int32))), .unset, .unset, .unset]) rfl ?_
    show Steps p.tables e below (s₁.setTop (mkF m 7 #[.val (.int p1), .val (.int p2), .val (.int ((p2 &&& (2147483647 : Int32)) % (3 : Int32))), .unset, .unset, .unset] [])) _
    refine XS.iloadN X0.here hx rfl (hb hby at_7) rfl ?_
    show Steps p.tables e below (s₁.setTop (mkF m 8 #[.val (.int p1), .val (.int p2), .val (.int ((p2 &&& (2147483647 : Int32)) % (3 : Int32))), .unset, .unset, .unset] [(.int ((p2 &&& (2147483647 : Int32)) % (3 : Int32)))])) _
    refine XS.ifNo X0.here hx rfl (hb hby at_8) rfl ((if0 _ _).trans (teq hc8).2) ?_
    show Steps p.tables e below (s₁.setTop (mkF m 11 #[.val (.int p1), .val (.int p2), .val (.int ((p2 &&& (2147483647 : Int32)) % (3 : Int32))), .unset, .unset, .unset] [])) _
    refine XS.iloadN X0.here hx rfl (hb hby at_11) rfl ?_
    show Steps p.tables e below (s₁.setTop (mkF m 12 #[.val (.int p1), .val (.int p2), .val (.int ((p2 &&& (2147483647 : Int32)) % (3 : Int32))), .unset, .unset, .unset] [(.int p1)])) _
    refine XS.i2dS X0.here hx rfl (hb hby at_12) rfl rfl ?_
    show Steps p.tables e below (s₁.setTop (mkF m 13 #[.val (.int p1), .val (.int p2), .val (.int ((p2 &&& (2147483647 : Int32)) % (3 : Int32))), .unset, .unset, .unset] [(.double (FP.i2d p1))])) _
    refine XS.dstoreN X0.here hx rfl (hb hby at_13) rfl (l' := #[.val (.int p1), .val (.int p2), .val (.int ((p2 &&& (2147483647 : Int32)) % (3 : Int32))), .val (.double (FP.i2d p1)), .second, .unset]) rfl ?_
    show Steps p.tables e below (s₁.setTop (mkF m 14 #[.val (.int p1), .val (.int p2), .val (.int ((p2 &&& (2147483647 : Int32)) % (3 : Int32))), .val (.double (FP.i2d p1)), .second, .unset] [])) _
    refine XS.iloadN X0.here hx rfl (hb hby at_14) rfl ?_
    show Steps p.tables e below (s₁.setTop (mkF m 15 #[.val (.int p1), .val (.int p2), .val (.int ((p2 &&& (2147483647 : Int32)) % (3 : Int32))), .val (.double (FP.i2d p1)), .second, .unset] [(.int p1)])) _
    refine XS.iconst X0.here hx rfl (hb hby at_15) ?_
    show Steps p.tables e below (s₁.setTop (mkF m 16 #[.val (.int p1), .val (.int p2), .val (.int ((p2 &&& (2147483647 : Int32)) % (3 : Int32))), .val (.double (FP.i2d p1)), .second, .unset] [(.int (1 : Int32)), (.int p1)])) _
    refine XS.icmpNo X0.here hx rfl (hb hby at_16) rfl (flt hc16).1 ?_
    show Steps p.tables e below (s₁.setTop (mkF m 19 #[.val (.int p1), .val (.int p2), .val (.int ((p2 &&& (2147483647 : Int32)) % (3 : Int32))), .val (.double (FP.i2d p1)), .second, .unset] [])) _
    refine XS.iloadN X0.here hx rfl (hb hby at_19) rfl ?_
    show Steps p.tables e below (s₁.setTop (mkF m 20 #[.val (.int p1), .val (.int p2), .val (.int ((p2 &&& (2147483647 : Int32)) % (3 : Int32))), .val (.double (FP.i2d p1)), .second, .unset] [(.int p1)])) _
    refine X0.ldcInt hx hown (mvT hZ (hw _ (List.mem_of_getElem? (i := 10) rfl))) (g := (mkF m 20 #[.val (.int p1), .val (.int p2), .val (.int ((p2 &&& (2147483647 : Int32)) % (3 : Int32))), .val (.double (FP.i2d p1)), .second, .unset] [(.int p1)])) rfl (hb hby at_20) _ ?_
    show Steps p.tables e below (s₁.setTop (mkF m 22 #[.val (.int p1), .val (.int p2), .val (.int ((p2 &&& (2147483647 : Int32)) % (3 : Int32))), .val (.double (FP.i2d p1)), .second, .unset] [(.int (1000000 : Int32)), (.int p1)])) _
    refine XS.icmpYes X0.here hx rfl (pc0 := 22) (pc' := 29) rfl (hb hby at_22) rfl (tlt hc22).2.2.1 (by decide) (by decide) ?_
    show Steps p.tables e below (s₁.setTop (mkF m 29 #[.val (.int p1), .val (.int p2), .val (.int ((p2 &&& (2147483647 : Int32)) % (3 : Int32))), .val (.double (FP.i2d p1)), .second, .unset] [])) _
    refine XS.iconst X0.here hx rfl (hb hby at_29) ?_
    show Steps p.tables e below (s₁.setTop (mkF m 30 #[.val (.int p1), .val (.int p2), .val (.int ((p2 &&& (2147483647 : Int32)) % (3 : Int32))), .val (.double (FP.i2d p1)), .second, .unset] [(.int (0 : Int32))])) _
    refine XS.istore X0.here hx rfl (hb hby at_30) rfl (l' := #[.val (.int p1), .val (.int p2), .val (.int ((p2 &&& (2147483647 : Int32)) % (3 : Int32))), .val (.double (FP.i2d p1)), .second, .val (.int (0 : Int32))]) rfl ?_
    show Steps p.tables e below (s₁.setTop (mkF m 32 #[.val (.int p1), .val (.int p2), .val (.int ((p2 &&& (2147483647 : Int32)) % (3 : Int32))), .val (.double (FP.i2d p1)), .second, .val (.int (0 : Int32))] [])) _
    refine XS.dloadN X0.here hx rfl (hb hby at_32) rfl ?_
    show Steps p.tables e below (s₁.setTop (mkF m 33 #[.val (.int p1), .val (.int p2), .val (.int ((p2 &&& (2147483647 : Int32)) % (3 : Int32))), .val (.double (FP.i2d p1)), .second, .val (.int (0 : Int32))] [(.double (FP.i2d p1))])) _
    refine st3 _ ?_
    show Steps p.tables e below (T3.setTop (mkF m 36 #[.val (.int p1), .val (.int p2), .val (.int ((p2 &&& (2147483647 : Int32)) % (3 : Int32))), .val (.double (FP.i2d p1)), .second, .val (.int (0 : Int32))] [(.int (0 : Int32))])) _
    refine XS.iload X3.here hx rfl (hb hby at_36) rfl ?_
    show Steps p.tables e below (T3.setTop (mkF m 38 #[.val (.int p1), .val (.int p2), .val (.int ((p2 &&& (2147483647 : Int32)) % (3 : Int32))), .val (.double (FP.i2d p1)), .second, .val (.int (0 : Int32))] [(.int (0 : Int32)), (.int (0 : Int32))])) _
    refine XS.icmpNo X3.here hx rfl (hb hby at_38) rfl (teq (by decide : (0 : Int32) = (0 : Int32))).2 ?_
    show Steps p.tables e below (T3.setTop (mkF m 41 #[.val (.int p1), .val (.int p2), .val (.int ((p2 &&& (2147483647 : Int32)) % (3 : Int32))), .val (.double (FP.i2d p1)), .second, .val (.int (0 : Int32))] [])) _
    refine XS.iconst X3.here hx rfl (hb hby at_41) ?_
    show Steps p.tables e below (T3.setTop (mkF m 42 #[.val (.int p1), .val (.int p2), .val (.int ((p2 &&& (2147483647 : Int32)) % (3 : Int32))), .val (.double (FP.i2d p1)), .second, .val (.int (0 : Int32))] [(.int (1 : Int32))])) _
    refine XS.goto X3.here hx rfl (pc0 := 42) (pc' := 46) rfl (hb hby at_42) (by decide) (by decide) ?_
    show Steps p.tables e below (T3.setTop (mkF m 46 #[.val (.int p1), .val (.int p2), .val (.int ((p2 &&& (2147483647 : Int32)) % (3 : Int32))), .val (.double (FP.i2d p1)), .second, .val (.int (0 : Int32))] [(.int (1 : Int32))])) _
    exact retN X3 hx (t := .boolean) Bd.returns (by simp) (hb hby at_46) hr
  · show Q0b Z p1 p2 h0 n0 _ T3.heap _
    exact ⟨rfl, N3⟩
def Q0c (Z : State) (p1 : Int32) (p2 : Int32) (h0 : Heap) (n0 : Nat) (v : Option Value) (h : Heap) (L : List Loc) : Prop := v = some (.int (1 : Int32)) ∧ Fr n0 L
set_option maxRecDepth 65536 in
set_option maxHeartbeats 40000000 in
theorem rm0c (l : Launch) (Z : State) (a0 : Array Value) (hw : ∀ d ∈ tables_1, d.before a0 Z = true) (ws : List Jvm.Cond) (p1 : Int32) (p2 : Int32) (h0 : Heap) (n0 : Nat) (Z0 : n0 ≤ h0.size) (hIn : own_in (FP.i2d p1)) (hc8 : ((p2 &&& (2147483647 : Int32)) % (3 : Int32)) = (0 : Int32)) (hc16 : ¬ (p1 < (1 : Int32))) (hc22 : ¬ ((1000000 : Int32) < p1)) :
    MetFree l x (head1 (Jvm.Cond.code x code maxLocals ret :: ws) room_1) (fun a U => a = #[(.int p1), (.int p2)] ∧ Z.Warmed39 U.vm ∧ U.heap = h0) (fun _ _ _ _ _ => True) (fun _ U o U' => ∃ v L, o = .returned v ∧ Q0c Z p1 p2 h0 n0 v U'.heap L ∧ FrameEnd U o U' L room_1.cells room_1.slots) := by
  refine MetFree.of_bodySF (plainFor_of_name pn_0) hisR ?_
  intro p e s m args below meth c s₁ Bd hml0 hP hK
  obtain ⟨rfl, hZ, hh⟩ := hP
  have hx := Bd.exec
  have hby := Bd.bytes
  have hml : c.maxLocals = 6 := hml0
  have hown : s.vm.findClass "com/example/anamnesis/anamnesis/engine/WeightRangeContainsPinLaw" = some m.cls := findClass_of_methodNamed Bd.named
  have hnm := (name_of_methodNamed Bd.named Bd.method).1
  have X0 : Stand p l e room_1 s m #[(.int p1), (.int p2)] below meth c s₁ [] 0 0 := Stand.of_body Bd
  have e0 : s₁.heap = h0 := by rw [← hh, Bd.state]; rfl
  have N0 := Fr.nil n0
  have pre0 : ∀ t, Steps p.tables e below (s₁.setTop (mkF m 0 #[.val (.int p1), .val (.int p2), .unset, .unset, .unset, .unset] [])) t → Steps p.tables e below (s₁.setTop (entryFrame m #[(.int p1), (.int p2)] maxLocals)) t := fun t k => castTop (ef_0 m p1 p2) k
  obtain ⟨_, _, ⟨T3, L3, k3, n3⟩, -, X3, ⟨Lc3, hQ3, l3, y3, z3⟩, st3⟩ := Jvm.LawKit.callS X0 hx (y := (⟨"com/example/anamnesis/anamnesis/engine/WeightRange", "contains", "(D)Z"⟩ : MethodName)) hown (mvT hZ (hw _ (List.mem_of_getElem? (i := 1) rfl))) (mvT hZ (hw _ (List.mem_of_getElem? (i := 2) rfl))) (mvT hZ (hw _ (List.mem_of_getElem? (i := 3) rfl))) (mvT hZ (hw _ (List.mem_of_getElem? (i := 4) rfl))) (by decide) (backOf (W := 0) (rm1 l Z a0 hw [] (FP.i2d p1) (1 : Int32) h0 n0 Z0 (Or.inl ⟨rfl, hIn⟩)) hZ (hw _ (List.mem_of_getElem? (i := 4) rfl)) (hw _ (List.mem_of_getElem? (i := 3) rfl)) (by decide) (by decide)) (g := (mkF m 33 #[.val (.int p1), .val (.int p2), .val (.int ((p2 &&& (2147483647 : Int32)) % (3 : Int32))), .val (.double (FP.i2d p1)), .second, .val (.int (1 : Int32))] [(.double (FP.i2d p1))])) rfl (by rw [hml]; rfl) (argsL := [(.double (FP.i2d p1))]) (rest := []) (lenOf pd_0_0 rfl) rfl (by show 2 * 0 + _ ≤ _; exact Nat.le_of_eq rfl) (hb hby at_33) (fun _ _ => ⟨rfl, e0, (by decide : 0 + 0 ≤ _), (by decide : 0 + 0 ≤ _)⟩)
  dsimp only [Pt.U, Pt.locs, Pt.cells, Pt.slots] at X3 l3 y3 z3 st3 hQ3
  subst l3 y3 z3
  obtain ⟨rfl, N3q, k3q⟩ := hQ3
  have N3 := Fr.app N0 N3q
  obtain ⟨fs, hr, hrun, hended, hW, hsame⟩ := X3.leave (v := some (.int (1 : Int32))) (fun h => by rw [Bd.returns] at h; cases h)
  refine ⟨_, _, pre0 _ ?_, hrun, hended, _, _, rfl, ?_, ⟨_, rfl⟩, hW, hsame.mono (by decide) (by decide)⟩
  · show Steps p.tables e below (s₁.setTop (mkF m 0 #[.val (.int p1), .val (.int p2), .unset, .unset, .unset, .unset] [])) _
    refine XS.iloadN X0.here hx rfl (hb hby at_0) rfl ?_
    show Steps p.tables e below (s₁.setTop (mkF m 1 #[.val (.int p1), .val (.int p2), .unset, .unset, .unset, .unset] [(.int p2)])) _
    refine X0.ldcInt hx hown (mvT hZ (hw _ (List.mem_of_getElem? (i := 0) rfl))) (g := (mkF m 1 #[.val (.int p1), .val (.int p2), .unset, .unset, .unset, .unset] [(.int p2)])) rfl (hb hby at_1) _ ?_
    show Steps p.tables e below (s₁.setTop (mkF m 3 #[.val (.int p1), .val (.int p2), .unset, .unset, .unset, .unset] [(.int (2147483647 : Int32)), (.int p2)])) _
    refine XS.iand X0.here hx rfl (hb hby at_3) rfl ?_
    show Steps p.tables e below (s₁.setTop (mkF m 4 #[.val (.int p1), .val (.int p2), .unset, .unset, .unset, .unset] [(.int (p2 &&& (2147483647 : Int32)))])) _
    refine XS.iconst X0.here hx rfl (hb hby at_4) ?_
    show Steps p.tables e below (s₁.setTop (mkF m 5 #[.val (.int p1), .val (.int p2), .unset, .unset, .unset, .unset] [(.int (3 : Int32)), (.int (p2 &&& (2147483647 : Int32)))])) _
    refine iremM X0 hx rfl (hb hby at_5) rfl (by decide) ?_
    show Steps p.tables e below (s₁.setTop (mkF m 6 #[.val (.int p1), .val (.int p2), .unset, .unset, .unset, .unset] [(.int ((p2 &&& (2147483647 : Int32)) % (3 : Int32)))])) _
    refine XS.istoreN X0.here hx rfl (hb hby at_6) rfl (l' := #[.val (.int p1), .val (.int p2), .val (.int ((p2 &&& (2147483647 : Int32)) % (3 : Int32))), .unset, .unset, .unset]) rfl ?_
    show Steps p.tables e below (s₁.setTop (mkF m 7 #[.val (.int p1), .val (.int p2), .val (.int ((p2 &&& (2147483647 : Int32)) % (3 : Int32))), .unset, .unset, .unset] [])) _
    refine XS.iloadN X0.here hx rfl (hb hby at_7) rfl ?_
    show Steps p.tables e below (s₁.setTop (mkF m 8 #[.val (.int p1), .val (.int p2), .val (.int ((p2 &&& (2147483647 : Int32)) % (3 : Int32))), .unset, .unset, .unset] [(.int ((p2 &&& (2147483647 : Int32)) % (3 : Int32)))])) _
    refine XS.ifNo X0.here hx rfl (hb hby at_8) rfl ((if0 _ _).trans (teq hc8).2) ?_
    show Steps p.tables e below (s₁.setTop (mkF m 11 #[.val (.int p1), .val (.int p2), .val (.int ((p2 &&& (2147483647 : Int32)) % (3 : Int32))), .unset, .unset, .unset] [])) _
    refine XS.iloadN X0.here hx rfl (hb hby at_11) rfl ?_
    show Steps p.tables e below (s₁.setTop (mkF m 12 #[.val (.int p1), .val (.int p2), .val (.int ((p2 &&& (2147483647 : Int32)) % (3 : Int32))), .unset, .unset, .unset] [(.int p1)])) _
    refine XS.i2dS X0.here hx rfl (hb hby at_12) rfl rfl ?_
    show Steps p.tables e below (s₁.setTop (mkF m 13 #[.val (.int p1), .val (.int p2), .val (.int ((p2 &&& (2147483647 : Int32)) % (3 : Int32))), .unset, .unset, .unset] [(.double (FP.i2d p1))])) _
    refine XS.dstoreN X0.here hx rfl (hb hby at_13) rfl (l' := #[.val (.int p1), .val (.int p2), .val (.int ((p2 &&& (2147483647 : Int32)) % (3 : Int32))), .val (.double (FP.i2d p1)), .second, .unset]) rfl ?_
    show Steps p.tables e below (s₁.setTop (mkF m 14 #[.val (.int p1), .val (.int p2), .val (.int ((p2 &&& (2147483647 : Int32)) % (3 : Int32))), .val (.double (FP.i2d p1)), .second, .unset] [])) _
    refine XS.iloadN X0.here hx rfl (hb hby at_14) rfl ?_
    show Steps p.tables e below (s₁.setTop (mkF m 15 #[.val (.int p1), .val (.int p2), .val (.int ((p2 &&& (2147483647 : Int32)) % (3 : Int32))), .val (.double (FP.i2d p1)), .second, .unset] [(.int p1)])) _
    refine XS.iconst X0.here hx rfl (hb hby at_15) ?_
    show Steps p.tables e below (s₁.setTop (mkF m 16 #[.val (.int p1), .val (.int p2), .val (.int ((p2 &&& (2147483647 : Int32)) % (3 : Int32))), .val (.double (FP.i2d p1)), .second, .unset] [(.int (1 : Int32)), (.int p1)])) _
    refine XS.icmpNo X0.here hx rfl (hb hby at_16) rfl (flt hc16).1 ?_
    show Steps p.tables e below (s₁.setTop (mkF m 19 #[.val (.int p1), .val (.int p2), .val (.int ((p2 &&& (2147483647 : Int32)) % (3 : Int32))), .val (.double (FP.i2d p1)), .second, .unset] [])) _
    refine XS.iloadN X0.here hx rfl (hb hby at_19) rfl ?_
    show Steps p.tables e below (s₁.setTop (mkF m 20 #[.val (.int p1), .val (.int p2), .val (.int ((p2 &&& (2147483647 : Int32)) % (3 : Int32))), .val (.double (FP.i2d p1)), .second, .unset] [(.int p1)])) _
    refine X0.ldcInt hx hown (mvT hZ (hw _ (List.mem_of_getElem? (i := 10) rfl))) (g := (mkF m 20 #[.val (.int p1), .val (.int p2), .val (.int ((p2 &&& (2147483647 : Int32)) % (3 : Int32))), .val (.double (FP.i2d p1)), .second, .unset] [(.int p1)])) rfl (hb hby at_20) _ ?_
    show Steps p.tables e below (s₁.setTop (mkF m 22 #[.val (.int p1), .val (.int p2), .val (.int ((p2 &&& (2147483647 : Int32)) % (3 : Int32))), .val (.double (FP.i2d p1)), .second, .unset] [(.int (1000000 : Int32)), (.int p1)])) _
    refine XS.icmpNo X0.here hx rfl (hb hby at_22) rfl (flt hc22).2.2.1 ?_
    show Steps p.tables e below (s₁.setTop (mkF m 25 #[.val (.int p1), .val (.int p2), .val (.int ((p2 &&& (2147483647 : Int32)) % (3 : Int32))), .val (.double (FP.i2d p1)), .second, .unset] [])) _
    refine XS.iconst X0.here hx rfl (hb hby at_25) ?_
    show Steps p.tables e below (s₁.setTop (mkF m 26 #[.val (.int p1), .val (.int p2), .val (.int ((p2 &&& (2147483647 : Int32)) % (3 : Int32))), .val (.double (FP.i2d p1)), .second, .unset] [(.int (1 : Int32))])) _
    refine XS.goto X0.here hx rfl (pc0 := 26) (pc' := 30) rfl (hb hby at_26) (by decide) (by decide) ?_
    show Steps p.tables e below (s₁.setTop (mkF m 30 #[.val (.int p1), .val (.int p2), .val (.int ((p2 &&& (2147483647 : Int32)) % (3 : Int32))), .val (.double (FP.i2d p1)), .second, .unset] [(.int (1 : Int32))])) _
    refine XS.istore X0.here hx rfl (hb hby at_30) rfl (l' := #[.val (.int p1), .val (.int p2), .val (.int ((p2 &&& (2147483647 : Int32)) % (3 : Int32))), .val (.double (FP.i2d p1)), .second, .val (.int (1 : Int32))]) rfl ?_
    show Steps p.tables e below (s₁.setTop (mkF m 32 #[.val (.int p1), .val (.int p2), .val (.int ((p2 &&& (2147483647 : Int32)) % (3 : Int32))), .val (.double (FP.i2d p1)), .second, .val (.int (1 : Int32))] [])) _
    refine XS.dloadN X0.here hx rfl (hb hby at_32) rfl ?_
    show Steps p.tables e below (s₁.setTop (mkF m 33 #[.val (.int p1), .val (.int p2), .val (.int ((p2 &&& (2147483647 : Int32)) % (3 : Int32))), .val (.double (FP.i2d p1)), .second, .val (.int (1 : Int32))] [(.double (FP.i2d p1))])) _
    refine st3 _ ?_
    show Steps p.tables e below (T3.setTop (mkF m 36 #[.val (.int p1), .val (.int p2), .val (.int ((p2 &&& (2147483647 : Int32)) % (3 : Int32))), .val (.double (FP.i2d p1)), .second, .val (.int (1 : Int32))] [(.int (1 : Int32))])) _
    refine XS.iload X3.here hx rfl (hb hby at_36) rfl ?_
    show Steps p.tables e below (T3.setTop (mkF m 38 #[.val (.int p1), .val (.int p2), .val (.int ((p2 &&& (2147483647 : Int32)) % (3 : Int32))), .val (.double (FP.i2d p1)), .second, .val (.int (1 : Int32))] [(.int (1 : Int32)), (.int (1 : Int32))])) _
    refine XS.icmpNo X3.here hx rfl (hb hby at_38) rfl (teq (by decide : (1 : Int32) = (1 : Int32))).2 ?_
    show Steps p.tables e below (T3.setTop (mkF m 41 #[.val (.int p1), .val (.int p2), .val (.int ((p2 &&& (2147483647 : Int32)) % (3 : Int32))), .val (.double (FP.i2d p1)), .second, .val (.int (1 : Int32))] [])) _
    refine XS.iconst X3.here hx rfl (hb hby at_41) ?_
    show Steps p.tables e below (T3.setTop (mkF m 42 #[.val (.int p1), .val (.int p2), .val (.int ((p2 &&& (2147483647 : Int32)) % (3 : Int32))), .val (.double (FP.i2d p1)), .second, .val (.int (1 : Int32))] [(.int (1 : Int32))])) _
    refine XS.goto X3.here hx rfl (pc0 := 42) (pc' := 46) rfl (hb hby at_42) (by decide) (by decide) ?_
    show Steps p.tables e below (T3.setTop (mkF m 46 #[.val (.int p1), .val (.int p2), .val (.int ((p2 &&& (2147483647 : Int32)) % (3 : Int32))), .val (.double (FP.i2d p1)), .second, .val (.int (1 : Int32))] [(.int (1 : Int32))])) _
    exact retN X3 hx (t := .boolean) Bd.returns (by simp) (hb hby at_46) hr
  · show Q0c Z p1 p2 h0 n0 _ T3.heap _
    exact ⟨rfl, N3⟩
def Q0d (Z : State) (p1 : Int32) (p2 : Int32) (h0 : Heap) (n0 : Nat) (v : Option Value) (h : Heap) (L : List Loc) : Prop := v = some (.int (1 : Int32)) ∧ Fr n0 L
set_option maxRecDepth 65536 in
set_option maxHeartbeats 40000000 in
theorem rm0d (l : Launch) (Z : State) (a0 : Array Value) (hw : ∀ d ∈ tables_1, d.before a0 Z = true) (ws : List Jvm.Cond) (p1 : Int32) (p2 : Int32) (h0 : Heap) (n0 : Nat) (Z0 : n0 ≤ h0.size) (hIn : ¬ own_in (FP.ddiv (FP.i2d p1) (4611686018427387904 : UInt64))) (hc8 : ¬ (((p2 &&& (2147483647 : Int32)) % (3 : Int32)) = (0 : Int32))) (hc49 : ((p2 &&& (2147483647 : Int32)) % (3 : Int32)) = (1 : Int32)) (hnn57 : Jvm.Free.Fl.NoNaN64 (FP.ddiv (FP.i2d p1) (4611686018427387904 : UInt64))) (hc61 : p1 < (1 : Int32)) :
    MetFree l x (head1 (Jvm.Cond.code x code maxLocals ret :: ws) room_1) (fun a U => a = #[(.int p1), (.int p2)] ∧ Z.Warmed39 U.vm ∧ U.heap = h0) (fun _ _ _ _ _ => True) (fun _ U o U' => ∃ v L, o = .returned v ∧ Q0d Z p1 p2 h0 n0 v U'.heap L ∧ FrameEnd U o U' L room_1.cells room_1.slots) := by
  refine MetFree.of_bodySF (plainFor_of_name pn_0) hisR ?_
  intro p e s m args below meth c s₁ Bd hml0 hP hK
  obtain ⟨rfl, hZ, hh⟩ := hP
  have hx := Bd.exec
  have hby := Bd.bytes
  have hml : c.maxLocals = 6 := hml0
  have hown : s.vm.findClass "com/example/anamnesis/anamnesis/engine/WeightRangeContainsPinLaw" = some m.cls := findClass_of_methodNamed Bd.named
  have hnm := (name_of_methodNamed Bd.named Bd.method).1
  have X0 : Stand p l e room_1 s m #[(.int p1), (.int p2)] below meth c s₁ [] 0 0 := Stand.of_body Bd
  have e0 : s₁.heap = h0 := by rw [← hh, Bd.state]; rfl
  have N0 := Fr.nil n0
  have pre0 : ∀ t, Steps p.tables e below (s₁.setTop (mkF m 0 #[.val (.int p1), .val (.int p2), .unset, .unset, .unset, .unset] [])) t → Steps p.tables e below (s₁.setTop (entryFrame m #[(.int p1), (.int p2)] maxLocals)) t := fun t k => castTop (ef_0 m p1 p2) k
  obtain ⟨_, _, ⟨T3, L3, k3, n3⟩, -, X3, ⟨Lc3, hQ3, l3, y3, z3⟩, st3⟩ := Jvm.LawKit.callS X0 hx (y := (⟨"com/example/anamnesis/anamnesis/engine/WeightRange", "contains", "(D)Z"⟩ : MethodName)) hown (mvT hZ (hw _ (List.mem_of_getElem? (i := 1) rfl))) (mvT hZ (hw _ (List.mem_of_getElem? (i := 2) rfl))) (mvT hZ (hw _ (List.mem_of_getElem? (i := 3) rfl))) (mvT hZ (hw _ (List.mem_of_getElem? (i := 4) rfl))) (by decide) (backOf (W := 0) (rm1 l Z a0 hw [] (FP.ddiv (FP.i2d p1) (4611686018427387904 : UInt64)) (0 : Int32) h0 n0 Z0 (Or.inr ⟨rfl, hIn⟩)) hZ (hw _ (List.mem_of_getElem? (i := 4) rfl)) (hw _ (List.mem_of_getElem? (i := 3) rfl)) (by decide) (by decide)) (g := (mkF m 78 #[.val (.int p1), .val (.int p2), .val (.int ((p2 &&& (2147483647 : Int32)) % (3 : Int32))), .val (.double (FP.ddiv (FP.i2d p1) (4611686018427387904 : UInt64))), .second, .val (.int (0 : Int32))] [(.double (FP.ddiv (FP.i2d p1) (4611686018427387904 : UInt64)))])) rfl (by rw [hml]; rfl) (argsL := [(.double (FP.ddiv (FP.i2d p1) (4611686018427387904 : UInt64)))]) (rest := []) (lenOf pd_0_0 rfl) rfl (by show 2 * 0 + _ ≤ _; exact Nat.le_of_eq rfl) (hb hby at_78) (fun _ _ => ⟨rfl, e0, (by decide : 0 + 0 ≤ _), (by decide : 0 + 0 ≤ _)⟩)
  dsimp only [Pt.U, Pt.locs, Pt.cells, Pt.slots] at X3 l3 y3 z3 st3 hQ3
  subst l3 y3 z3
  obtain ⟨rfl, N3q, k3q⟩ := hQ3
  have N3 := Fr.app N0 N3q
  obtain ⟨fs, hr, hrun, hended, hW, hsame⟩ := X3.leave (v := some (.int (1 : Int32))) (fun h => by rw [Bd.returns] at h; cases h)
  refine ⟨_, _, pre0 _ ?_, hrun, hended, _, _, rfl, ?_, ⟨_, rfl⟩, hW, hsame.mono (by decide) (by decide)⟩
  · show Steps p.tables e below (s₁.setTop (mkF m 0 #[.val (.int p1), .val (.int p2), .unset, .unset, .unset, .unset] [])) _
    refine XS.iloadN X0.here hx rfl (hb hby at_0) rfl ?_
    show Steps p.tables e below (s₁.setTop (mkF m 1 #[.val (.int p1), .val (.int p2), .unset, .unset, .unset, .unset] [(.int p2)])) _
    refine X0.ldcInt hx hown (mvT hZ (hw _ (List.mem_of_getElem? (i := 0) rfl))) (g := (mkF m 1 #[.val (.int p1), .val (.int p2), .unset, .unset, .unset, .unset] [(.int p2)])) rfl (hb hby at_1) _ ?_
    show Steps p.tables e below (s₁.setTop (mkF m 3 #[.val (.int p1), .val (.int p2), .unset, .unset, .unset, .unset] [(.int (2147483647 : Int32)), (.int p2)])) _
    refine XS.iand X0.here hx rfl (hb hby at_3) rfl ?_
    show Steps p.tables e below (s₁.setTop (mkF m 4 #[.val (.int p1), .val (.int p2), .unset, .unset, .unset, .unset] [(.int (p2 &&& (2147483647 : Int32)))])) _
    refine XS.iconst X0.here hx rfl (hb hby at_4) ?_
    show Steps p.tables e below (s₁.setTop (mkF m 5 #[.val (.int p1), .val (.int p2), .unset, .unset, .unset, .unset] [(.int (3 : Int32)), (.int (p2 &&& (2147483647 : Int32)))])) _
    refine iremM X0 hx rfl (hb hby at_5) rfl (by decide) ?_
    show Steps p.tables e below (s₁.setTop (mkF m 6 #[.val (.int p1), .val (.int p2), .unset, .unset, .unset, .unset] [(.int ((p2 &&& (2147483647 : Int32)) % (3 : Int32)))])) _
    refine XS.istoreN X0.here hx rfl (hb hby at_6) rfl (l' := #[.val (.int p1), .val (.int p2), .val (.int ((p2 &&& (2147483647 : Int32)) % (3 : Int32))), .unset, .unset, .unset]) rfl ?_
    show Steps p.tables e below (s₁.setTop (mkF m 7 #[.val (.int p1), .val (.int p2), .val (.int ((p2 &&& (2147483647 : Int32)) % (3 : Int32))), .unset, .unset, .unset] [])) _
    refine XS.iloadN X0.here hx rfl (hb hby at_7) rfl ?_
    show Steps p.tables e below (s₁.setTop (mkF m 8 #[.val (.int p1), .val (.int p2), .val (.int ((p2 &&& (2147483647 : Int32)) % (3 : Int32))), .unset, .unset, .unset] [(.int ((p2 &&& (2147483647 : Int32)) % (3 : Int32)))])) _
    refine XS.ifYes X0.here hx rfl (pc0 := 8) (pc' := 47) rfl (hb hby at_8) rfl ((if0 _ _).trans (feq hc8).2) (by decide) (by decide) ?_
    show Steps p.tables e below (s₁.setTop (mkF m 47 #[.val (.int p1), .val (.int p2), .val (.int ((p2 &&& (2147483647 : Int32)) % (3 : Int32))), .unset, .unset, .unset] [])) _
    refine XS.iloadN X0.here hx rfl (hb hby at_47) rfl ?_
    show Steps p.tables e below (s₁.setTop (mkF m 48 #[.val (.int p1), .val (.int p2), .val (.int ((p2 &&& (2147483647 : Int32)) % (3 : Int32))), .unset, .unset, .unset] [(.int ((p2 &&& (2147483647 : Int32)) % (3 : Int32)))])) _
    refine XS.iconst X0.here hx rfl (hb hby at_48) ?_
    show Steps p.tables e below (s₁.setTop (mkF m 49 #[.val (.int p1), .val (.int p2), .val (.int ((p2 &&& (2147483647 : Int32)) % (3 : Int32))), .unset, .unset, .unset] [(.int (1 : Int32)), (.int ((p2 &&& (2147483647 : Int32)) % (3 : Int32)))])) _
    refine XS.icmpNo X0.here hx rfl (hb hby at_49) rfl (teq hc49).2 ?_
    show Steps p.tables e below (s₁.setTop (mkF m 52 #[.val (.int p1), .val (.int p2), .val (.int ((p2 &&& (2147483647 : Int32)) % (3 : Int32))), .unset, .unset, .unset] [])) _
    refine XS.iloadN X0.here hx rfl (hb hby at_52) rfl ?_
    show Steps p.tables e below (s₁.setTop (mkF m 53 #[.val (.int p1), .val (.int p2), .val (.int ((p2 &&& (2147483647 : Int32)) % (3 : Int32))), .unset, .unset, .unset] [(.int p1)])) _
    refine XS.i2dS X0.here hx rfl (hb hby at_53) rfl rfl ?_
    show Steps p.tables e below (s₁.setTop (mkF m 54 #[.val (.int p1), .val (.int p2), .val (.int ((p2 &&& (2147483647 : Int32)) % (3 : Int32))), .unset, .unset, .unset] [(.double (FP.i2d p1))])) _
    refine X0.ldc2DoubleC hx hown (mvT hZ (hw _ (List.mem_of_getElem? (i := 6) rfl))) (g := (mkF m 54 #[.val (.int p1), .val (.int p2), .val (.int ((p2 &&& (2147483647 : Int32)) % (3 : Int32))), .unset, .unset, .unset] [(.double (FP.i2d p1))])) rfl (hb hby at_54) _ ?_
    show Steps p.tables e below (s₁.setTop (mkF m 57 #[.val (.int p1), .val (.int p2), .val (.int ((p2 &&& (2147483647 : Int32)) % (3 : Int32))), .unset, .unset, .unset] [(.double (4611686018427387904 : UInt64)), (.double (FP.i2d p1))])) _
    refine XS.ddivS X0.here hx rfl (hb hby at_57) rfl hnn57 rfl ?_
    show Steps p.tables e below (s₁.setTop (mkF m 58 #[.val (.int p1), .val (.int p2), .val (.int ((p2 &&& (2147483647 : Int32)) % (3 : Int32))), .unset, .unset, .unset] [(.double (FP.ddiv (FP.i2d p1) (4611686018427387904 : UInt64)))])) _
    refine XS.dstoreN X0.here hx rfl (hb hby at_58) rfl (l' := #[.val (.int p1), .val (.int p2), .val (.int ((p2 &&& (2147483647 : Int32)) % (3 : Int32))), .val (.double (FP.ddiv (FP.i2d p1) (4611686018427387904 : UInt64))), .second, .unset]) rfl ?_
    show Steps p.tables e below (s₁.setTop (mkF m 59 #[.val (.int p1), .val (.int p2), .val (.int ((p2 &&& (2147483647 : Int32)) % (3 : Int32))), .val (.double (FP.ddiv (FP.i2d p1) (4611686018427387904 : UInt64))), .second, .unset] [])) _
    refine XS.iloadN X0.here hx rfl (hb hby at_59) rfl ?_
    show Steps p.tables e below (s₁.setTop (mkF m 60 #[.val (.int p1), .val (.int p2), .val (.int ((p2 &&& (2147483647 : Int32)) % (3 : Int32))), .val (.double (FP.ddiv (FP.i2d p1) (4611686018427387904 : UInt64))), .second, .unset] [(.int p1)])) _
    refine XS.iconst X0.here hx rfl (hb hby at_60) ?_
    show Steps p.tables e below (s₁.setTop (mkF m 61 #[.val (.int p1), .val (.int p2), .val (.int ((p2 &&& (2147483647 : Int32)) % (3 : Int32))), .val (.double (FP.ddiv (FP.i2d p1) (4611686018427387904 : UInt64))), .second, .unset] [(.int (1 : Int32)), (.int p1)])) _
    refine XS.icmpYes X0.here hx rfl (pc0 := 61) (pc' := 74) rfl (hb hby at_61) rfl (tlt hc61).1 (by decide) (by decide) ?_
    show Steps p.tables e below (s₁.setTop (mkF m 74 #[.val (.int p1), .val (.int p2), .val (.int ((p2 &&& (2147483647 : Int32)) % (3 : Int32))), .val (.double (FP.ddiv (FP.i2d p1) (4611686018427387904 : UInt64))), .second, .unset] [])) _
    refine XS.iconst X0.here hx rfl (hb hby at_74) ?_
    show Steps p.tables e below (s₁.setTop (mkF m 75 #[.val (.int p1), .val (.int p2), .val (.int ((p2 &&& (2147483647 : Int32)) % (3 : Int32))), .val (.double (FP.ddiv (FP.i2d p1) (4611686018427387904 : UInt64))), .second, .unset] [(.int (0 : Int32))])) _
    refine XS.istore X0.here hx rfl (hb hby at_75) rfl (l' := #[.val (.int p1), .val (.int p2), .val (.int ((p2 &&& (2147483647 : Int32)) % (3 : Int32))), .val (.double (FP.ddiv (FP.i2d p1) (4611686018427387904 : UInt64))), .second, .val (.int (0 : Int32))]) rfl ?_
    show Steps p.tables e below (s₁.setTop (mkF m 77 #[.val (.int p1), .val (.int p2), .val (.int ((p2 &&& (2147483647 : Int32)) % (3 : Int32))), .val (.double (FP.ddiv (FP.i2d p1) (4611686018427387904 : UInt64))), .second, .val (.int (0 : Int32))] [])) _
    refine XS.dloadN X0.here hx rfl (hb hby at_77) rfl ?_
    show Steps p.tables e below (s₁.setTop (mkF m 78 #[.val (.int p1), .val (.int p2), .val (.int ((p2 &&& (2147483647 : Int32)) % (3 : Int32))), .val (.double (FP.ddiv (FP.i2d p1) (4611686018427387904 : UInt64))), .second, .val (.int (0 : Int32))] [(.double (FP.ddiv (FP.i2d p1) (4611686018427387904 : UInt64)))])) _
    refine st3 _ ?_
    show Steps p.tables e below (T3.setTop (mkF m 81 #[.val (.int p1), .val (.int p2), .val (.int ((p2 &&& (2147483647 : Int32)) % (3 : Int32))), .val (.double (FP.ddiv (FP.i2d p1) (4611686018427387904 : UInt64))), .second, .val (.int (0 : Int32))] [(.int (0 : Int32))])) _
    refine XS.iload X3.here hx rfl (hb hby at_81) rfl ?_
    show Steps p.tables e below (T3.setTop (mkF m 83 #[.val (.int p1), .val (.int p2), .val (.int ((p2 &&& (2147483647 : Int32)) % (3 : Int32))), .val (.double (FP.ddiv (FP.i2d p1) (4611686018427387904 : UInt64))), .second, .val (.int (0 : Int32))] [(.int (0 : Int32)), (.int (0 : Int32))])) _
    refine XS.icmpNo X3.here hx rfl (hb hby at_83) rfl (teq (by decide : (0 : Int32) = (0 : Int32))).2 ?_
    show Steps p.tables e below (T3.setTop (mkF m 86 #[.val (.int p1), .val (.int p2), .val (.int ((p2 &&& (2147483647 : Int32)) % (3 : Int32))), .val (.double (FP.ddiv (FP.i2d p1) (4611686018427387904 : UInt64))), .second, .val (.int (0 : Int32))] [])) _
    refine XS.iconst X3.here hx rfl (hb hby at_86) ?_
    show Steps p.tables e below (T3.setTop (mkF m 87 #[.val (.int p1), .val (.int p2), .val (.int ((p2 &&& (2147483647 : Int32)) % (3 : Int32))), .val (.double (FP.ddiv (FP.i2d p1) (4611686018427387904 : UInt64))), .second, .val (.int (0 : Int32))] [(.int (1 : Int32))])) _
    refine XS.goto X3.here hx rfl (pc0 := 87) (pc' := 91) rfl (hb hby at_87) (by decide) (by decide) ?_
    show Steps p.tables e below (T3.setTop (mkF m 91 #[.val (.int p1), .val (.int p2), .val (.int ((p2 &&& (2147483647 : Int32)) % (3 : Int32))), .val (.double (FP.ddiv (FP.i2d p1) (4611686018427387904 : UInt64))), .second, .val (.int (0 : Int32))] [(.int (1 : Int32))])) _
    exact retN X3 hx (t := .boolean) Bd.returns (by simp) (hb hby at_91) hr
  · show Q0d Z p1 p2 h0 n0 _ T3.heap _
    exact ⟨rfl, N3⟩
def Q0e (Z : State) (p1 : Int32) (p2 : Int32) (h0 : Heap) (n0 : Nat) (v : Option Value) (h : Heap) (L : List Loc) : Prop := v = some (.int (1 : Int32)) ∧ Fr n0 L
set_option maxRecDepth 65536 in
set_option maxHeartbeats 40000000 in
theorem rm0e (l : Launch) (Z : State) (a0 : Array Value) (hw : ∀ d ∈ tables_1, d.before a0 Z = true) (ws : List Jvm.Cond) (p1 : Int32) (p2 : Int32) (h0 : Heap) (n0 : Nat) (Z0 : n0 ≤ h0.size) (hIn : ¬ own_in (FP.ddiv (FP.i2d p1) (4611686018427387904 : UInt64))) (hc8 : ¬ (((p2 &&& (2147483647 : Int32)) % (3 : Int32)) = (0 : Int32))) (hc49 : ((p2 &&& (2147483647 : Int32)) % (3 : Int32)) = (1 : Int32)) (hnn57 : Jvm.Free.Fl.NoNaN64 (FP.ddiv (FP.i2d p1) (4611686018427387904 : UInt64))) (hc61 : ¬ (p1 < (1 : Int32))) (hc67 : (2000000 : Int32) < p1) :
    MetFree l x (head1 (Jvm.Cond.code x code maxLocals ret :: ws) room_1) (fun a U => a = #[(.int p1), (.int p2)] ∧ Z.Warmed39 U.vm ∧ U.heap = h0) (fun _ _ _ _ _ => True) (fun _ U o U' => ∃ v L, o = .returned v ∧ Q0e Z p1 p2 h0 n0 v U'.heap L ∧ FrameEnd U o U' L room_1.cells room_1.slots) := by
  refine MetFree.of_bodySF (plainFor_of_name pn_0) hisR ?_
  intro p e s m args below meth c s₁ Bd hml0 hP hK
  obtain ⟨rfl, hZ, hh⟩ := hP
  have hx := Bd.exec
  have hby := Bd.bytes
  have hml : c.maxLocals = 6 := hml0
  have hown : s.vm.findClass "com/example/anamnesis/anamnesis/engine/WeightRangeContainsPinLaw" = some m.cls := findClass_of_methodNamed Bd.named
  have hnm := (name_of_methodNamed Bd.named Bd.method).1
  have X0 : Stand p l e room_1 s m #[(.int p1), (.int p2)] below meth c s₁ [] 0 0 := Stand.of_body Bd
  have e0 : s₁.heap = h0 := by rw [← hh, Bd.state]; rfl
  have N0 := Fr.nil n0
  have pre0 : ∀ t, Steps p.tables e below (s₁.setTop (mkF m 0 #[.val (.int p1), .val (.int p2), .unset, .unset, .unset, .unset] [])) t → Steps p.tables e below (s₁.setTop (entryFrame m #[(.int p1), (.int p2)] maxLocals)) t := fun t k => castTop (ef_0 m p1 p2) k
  obtain ⟨_, _, ⟨T3, L3, k3, n3⟩, -, X3, ⟨Lc3, hQ3, l3, y3, z3⟩, st3⟩ := Jvm.LawKit.callS X0 hx (y := (⟨"com/example/anamnesis/anamnesis/engine/WeightRange", "contains", "(D)Z"⟩ : MethodName)) hown (mvT hZ (hw _ (List.mem_of_getElem? (i := 1) rfl))) (mvT hZ (hw _ (List.mem_of_getElem? (i := 2) rfl))) (mvT hZ (hw _ (List.mem_of_getElem? (i := 3) rfl))) (mvT hZ (hw _ (List.mem_of_getElem? (i := 4) rfl))) (by decide) (backOf (W := 0) (rm1 l Z a0 hw [] (FP.ddiv (FP.i2d p1) (4611686018427387904 : UInt64)) (0 : Int32) h0 n0 Z0 (Or.inr ⟨rfl, hIn⟩)) hZ (hw _ (List.mem_of_getElem? (i := 4) rfl)) (hw _ (List.mem_of_getElem? (i := 3) rfl)) (by decide) (by decide)) (g := (mkF m 78 #[.val (.int p1), .val (.int p2), .val (.int ((p2 &&& (2147483647 : Int32)) % (3 : Int32))), .val (.double (FP.ddiv (FP.i2d p1) (4611686018427387904 : UInt64))), .second, .val (.int (0 : Int32))] [(.double (FP.ddiv (FP.i2d p1) (4611686018427387904 : UInt64)))])) rfl (by rw [hml]; rfl) (argsL := [(.double (FP.ddiv (FP.i2d p1) (4611686018427387904 : UInt64)))]) (rest := []) (lenOf pd_0_0 rfl) rfl (by show 2 * 0 + _ ≤ _; exact Nat.le_of_eq rfl) (hb hby at_78) (fun _ _ => ⟨rfl, e0, (by decide : 0 + 0 ≤ _), (by decide : 0 + 0 ≤ _)⟩)
  dsimp only [Pt.U, Pt.locs, Pt.cells, Pt.slots] at X3 l3 y3 z3 st3 hQ3
  subst l3 y3 z3
  obtain ⟨rfl, N3q, k3q⟩ := hQ3
  have N3 := Fr.app N0 N3q
  obtain ⟨fs, hr, hrun, hended, hW, hsame⟩ := X3.leave (v := some (.int (1 : Int32))) (fun h => by rw [Bd.returns] at h; cases h)
  refine ⟨_, _, pre0 _ ?_, hrun, hended, _, _, rfl, ?_, ⟨_, rfl⟩, hW, hsame.mono (by decide) (by decide)⟩
  · show Steps p.tables e below (s₁.setTop (mkF m 0 #[.val (.int p1), .val (.int p2), .unset, .unset, .unset, .unset] [])) _
    refine XS.iloadN X0.here hx rfl (hb hby at_0) rfl ?_
    show Steps p.tables e below (s₁.setTop (mkF m 1 #[.val (.int p1), .val (.int p2), .unset, .unset, .unset, .unset] [(.int p2)])) _
    refine X0.ldcInt hx hown (mvT hZ (hw _ (List.mem_of_getElem? (i := 0) rfl))) (g := (mkF m 1 #[.val (.int p1), .val (.int p2), .unset, .unset, .unset, .unset] [(.int p2)])) rfl (hb hby at_1) _ ?_
    show Steps p.tables e below (s₁.setTop (mkF m 3 #[.val (.int p1), .val (.int p2), .unset, .unset, .unset, .unset] [(.int (2147483647 : Int32)), (.int p2)])) _
    refine XS.iand X0.here hx rfl (hb hby at_3) rfl ?_
    show Steps p.tables e below (s₁.setTop (mkF m 4 #[.val (.int p1), .val (.int p2), .unset, .unset, .unset, .unset] [(.int (p2 &&& (2147483647 : Int32)))])) _
    refine XS.iconst X0.here hx rfl (hb hby at_4) ?_
    show Steps p.tables e below (s₁.setTop (mkF m 5 #[.val (.int p1), .val (.int p2), .unset, .unset, .unset, .unset] [(.int (3 : Int32)), (.int (p2 &&& (2147483647 : Int32)))])) _
    refine iremM X0 hx rfl (hb hby at_5) rfl (by decide) ?_
    show Steps p.tables e below (s₁.setTop (mkF m 6 #[.val (.int p1), .val (.int p2), .unset, .unset, .unset, .unset] [(.int ((p2 &&& (2147483647 : Int32)) % (3 : Int32)))])) _
    refine XS.istoreN X0.here hx rfl (hb hby at_6) rfl (l' := #[.val (.int p1), .val (.int p2), .val (.int ((p2 &&& (2147483647 : Int32)) % (3 : Int32))), .unset, .unset, .unset]) rfl ?_
    show Steps p.tables e below (s₁.setTop (mkF m 7 #[.val (.int p1), .val (.int p2), .val (.int ((p2 &&& (2147483647 : Int32)) % (3 : Int32))), .unset, .unset, .unset] [])) _
    refine XS.iloadN X0.here hx rfl (hb hby at_7) rfl ?_
    show Steps p.tables e below (s₁.setTop (mkF m 8 #[.val (.int p1), .val (.int p2), .val (.int ((p2 &&& (2147483647 : Int32)) % (3 : Int32))), .unset, .unset, .unset] [(.int ((p2 &&& (2147483647 : Int32)) % (3 : Int32)))])) _
    refine XS.ifYes X0.here hx rfl (pc0 := 8) (pc' := 47) rfl (hb hby at_8) rfl ((if0 _ _).trans (feq hc8).2) (by decide) (by decide) ?_
    show Steps p.tables e below (s₁.setTop (mkF m 47 #[.val (.int p1), .val (.int p2), .val (.int ((p2 &&& (2147483647 : Int32)) % (3 : Int32))), .unset, .unset, .unset] [])) _
    refine XS.iloadN X0.here hx rfl (hb hby at_47) rfl ?_
    show Steps p.tables e below (s₁.setTop (mkF m 48 #[.val (.int p1), .val (.int p2), .val (.int ((p2 &&& (2147483647 : Int32)) % (3 : Int32))), .unset, .unset, .unset] [(.int ((p2 &&& (2147483647 : Int32)) % (3 : Int32)))])) _
    refine XS.iconst X0.here hx rfl (hb hby at_48) ?_
    show Steps p.tables e below (s₁.setTop (mkF m 49 #[.val (.int p1), .val (.int p2), .val (.int ((p2 &&& (2147483647 : Int32)) % (3 : Int32))), .unset, .unset, .unset] [(.int (1 : Int32)), (.int ((p2 &&& (2147483647 : Int32)) % (3 : Int32)))])) _
    refine XS.icmpNo X0.here hx rfl (hb hby at_49) rfl (teq hc49).2 ?_
    show Steps p.tables e below (s₁.setTop (mkF m 52 #[.val (.int p1), .val (.int p2), .val (.int ((p2 &&& (2147483647 : Int32)) % (3 : Int32))), .unset, .unset, .unset] [])) _
    refine XS.iloadN X0.here hx rfl (hb hby at_52) rfl ?_
    show Steps p.tables e below (s₁.setTop (mkF m 53 #[.val (.int p1), .val (.int p2), .val (.int ((p2 &&& (2147483647 : Int32)) % (3 : Int32))), .unset, .unset, .unset] [(.int p1)])) _
    refine XS.i2dS X0.here hx rfl (hb hby at_53) rfl rfl ?_
    show Steps p.tables e below (s₁.setTop (mkF m 54 #[.val (.int p1), .val (.int p2), .val (.int ((p2 &&& (2147483647 : Int32)) % (3 : Int32))), .unset, .unset, .unset] [(.double (FP.i2d p1))])) _
    refine X0.ldc2DoubleC hx hown (mvT hZ (hw _ (List.mem_of_getElem? (i := 6) rfl))) (g := (mkF m 54 #[.val (.int p1), .val (.int p2), .val (.int ((p2 &&& (2147483647 : Int32)) % (3 : Int32))), .unset, .unset, .unset] [(.double (FP.i2d p1))])) rfl (hb hby at_54) _ ?_
    show Steps p.tables e below (s₁.setTop (mkF m 57 #[.val (.int p1), .val (.int p2), .val (.int ((p2 &&& (2147483647 : Int32)) % (3 : Int32))), .unset, .unset, .unset] [(.double (4611686018427387904 : UInt64)), (.double (FP.i2d p1))])) _
    refine XS.ddivS X0.here hx rfl (hb hby at_57) rfl hnn57 rfl ?_
    show Steps p.tables e below (s₁.setTop (mkF m 58 #[.val (.int p1), .val (.int p2), .val (.int ((p2 &&& (2147483647 : Int32)) % (3 : Int32))), .unset, .unset, .unset] [(.double (FP.ddiv (FP.i2d p1) (4611686018427387904 : UInt64)))])) _
    refine XS.dstoreN X0.here hx rfl (hb hby at_58) rfl (l' := #[.val (.int p1), .val (.int p2), .val (.int ((p2 &&& (2147483647 : Int32)) % (3 : Int32))), .val (.double (FP.ddiv (FP.i2d p1) (4611686018427387904 : UInt64))), .second, .unset]) rfl ?_
    show Steps p.tables e below (s₁.setTop (mkF m 59 #[.val (.int p1), .val (.int p2), .val (.int ((p2 &&& (2147483647 : Int32)) % (3 : Int32))), .val (.double (FP.ddiv (FP.i2d p1) (4611686018427387904 : UInt64))), .second, .unset] [])) _
    refine XS.iloadN X0.here hx rfl (hb hby at_59) rfl ?_
    show Steps p.tables e below (s₁.setTop (mkF m 60 #[.val (.int p1), .val (.int p2), .val (.int ((p2 &&& (2147483647 : Int32)) % (3 : Int32))), .val (.double (FP.ddiv (FP.i2d p1) (4611686018427387904 : UInt64))), .second, .unset] [(.int p1)])) _
    refine XS.iconst X0.here hx rfl (hb hby at_60) ?_
    show Steps p.tables e below (s₁.setTop (mkF m 61 #[.val (.int p1), .val (.int p2), .val (.int ((p2 &&& (2147483647 : Int32)) % (3 : Int32))), .val (.double (FP.ddiv (FP.i2d p1) (4611686018427387904 : UInt64))), .second, .unset] [(.int (1 : Int32)), (.int p1)])) _
    refine XS.icmpNo X0.here hx rfl (hb hby at_61) rfl (flt hc61).1 ?_
    show Steps p.tables e below (s₁.setTop (mkF m 64 #[.val (.int p1), .val (.int p2), .val (.int ((p2 &&& (2147483647 : Int32)) % (3 : Int32))), .val (.double (FP.ddiv (FP.i2d p1) (4611686018427387904 : UInt64))), .second, .unset] [])) _
    refine XS.iloadN X0.here hx rfl (hb hby at_64) rfl ?_
    show Steps p.tables e below (s₁.setTop (mkF m 65 #[.val (.int p1), .val (.int p2), .val (.int ((p2 &&& (2147483647 : Int32)) % (3 : Int32))), .val (.double (FP.ddiv (FP.i2d p1) (4611686018427387904 : UInt64))), .second, .unset] [(.int p1)])) _
    refine X0.ldcInt hx hown (mvT hZ (hw _ (List.mem_of_getElem? (i := 7) rfl))) (g := (mkF m 65 #[.val (.int p1), .val (.int p2), .val (.int ((p2 &&& (2147483647 : Int32)) % (3 : Int32))), .val (.double (FP.ddiv (FP.i2d p1) (4611686018427387904 : UInt64))), .second, .unset] [(.int p1)])) rfl (hb hby at_65) _ ?_
    show Steps p.tables e below (s₁.setTop (mkF m 67 #[.val (.int p1), .val (.int p2), .val (.int ((p2 &&& (2147483647 : Int32)) % (3 : Int32))), .val (.double (FP.ddiv (FP.i2d p1) (4611686018427387904 : UInt64))), .second, .unset] [(.int (2000000 : Int32)), (.int p1)])) _
    refine XS.icmpYes X0.here hx rfl (pc0 := 67) (pc' := 74) rfl (hb hby at_67) rfl (tlt hc67).2.2.1 (by decide) (by decide) ?_
    show Steps p.tables e below (s₁.setTop (mkF m 74 #[.val (.int p1), .val (.int p2), .val (.int ((p2 &&& (2147483647 : Int32)) % (3 : Int32))), .val (.double (FP.ddiv (FP.i2d p1) (4611686018427387904 : UInt64))), .second, .unset] [])) _
    refine XS.iconst X0.here hx rfl (hb hby at_74) ?_
    show Steps p.tables e below (s₁.setTop (mkF m 75 #[.val (.int p1), .val (.int p2), .val (.int ((p2 &&& (2147483647 : Int32)) % (3 : Int32))), .val (.double (FP.ddiv (FP.i2d p1) (4611686018427387904 : UInt64))), .second, .unset] [(.int (0 : Int32))])) _
    refine XS.istore X0.here hx rfl (hb hby at_75) rfl (l' := #[.val (.int p1), .val (.int p2), .val (.int ((p2 &&& (2147483647 : Int32)) % (3 : Int32))), .val (.double (FP.ddiv (FP.i2d p1) (4611686018427387904 : UInt64))), .second, .val (.int (0 : Int32))]) rfl ?_
    show Steps p.tables e below (s₁.setTop (mkF m 77 #[.val (.int p1), .val (.int p2), .val (.int ((p2 &&& (2147483647 : Int32)) % (3 : Int32))), .val (.double (FP.ddiv (FP.i2d p1) (4611686018427387904 : UInt64))), .second, .val (.int (0 : Int32))] [])) _
    refine XS.dloadN X0.here hx rfl (hb hby at_77) rfl ?_
    show Steps p.tables e below (s₁.setTop (mkF m 78 #[.val (.int p1), .val (.int p2), .val (.int ((p2 &&& (2147483647 : Int32)) % (3 : Int32))), .val (.double (FP.ddiv (FP.i2d p1) (4611686018427387904 : UInt64))), .second, .val (.int (0 : Int32))] [(.double (FP.ddiv (FP.i2d p1) (4611686018427387904 : UInt64)))])) _
    refine st3 _ ?_
    show Steps p.tables e below (T3.setTop (mkF m 81 #[.val (.int p1), .val (.int p2), .val (.int ((p2 &&& (2147483647 : Int32)) % (3 : Int32))), .val (.double (FP.ddiv (FP.i2d p1) (4611686018427387904 : UInt64))), .second, .val (.int (0 : Int32))] [(.int (0 : Int32))])) _
    refine XS.iload X3.here hx rfl (hb hby at_81) rfl ?_
    show Steps p.tables e below (T3.setTop (mkF m 83 #[.val (.int p1), .val (.int p2), .val (.int ((p2 &&& (2147483647 : Int32)) % (3 : Int32))), .val (.double (FP.ddiv (FP.i2d p1) (4611686018427387904 : UInt64))), .second, .val (.int (0 : Int32))] [(.int (0 : Int32)), (.int (0 : Int32))])) _
    refine XS.icmpNo X3.here hx rfl (hb hby at_83) rfl (teq (by decide : (0 : Int32) = (0 : Int32))).2 ?_
    show Steps p.tables e below (T3.setTop (mkF m 86 #[.val (.int p1), .val (.int p2), .val (.int ((p2 &&& (2147483647 : Int32)) % (3 : Int32))), .val (.double (FP.ddiv (FP.i2d p1) (4611686018427387904 : UInt64))), .second, .val (.int (0 : Int32))] [])) _
    refine XS.iconst X3.here hx rfl (hb hby at_86) ?_
    show Steps p.tables e below (T3.setTop (mkF m 87 #[.val (.int p1), .val (.int p2), .val (.int ((p2 &&& (2147483647 : Int32)) % (3 : Int32))), .val (.double (FP.ddiv (FP.i2d p1) (4611686018427387904 : UInt64))), .second, .val (.int (0 : Int32))] [(.int (1 : Int32))])) _
    refine XS.goto X3.here hx rfl (pc0 := 87) (pc' := 91) rfl (hb hby at_87) (by decide) (by decide) ?_
    show Steps p.tables e below (T3.setTop (mkF m 91 #[.val (.int p1), .val (.int p2), .val (.int ((p2 &&& (2147483647 : Int32)) % (3 : Int32))), .val (.double (FP.ddiv (FP.i2d p1) (4611686018427387904 : UInt64))), .second, .val (.int (0 : Int32))] [(.int (1 : Int32))])) _
    exact retN X3 hx (t := .boolean) Bd.returns (by simp) (hb hby at_91) hr
  · show Q0e Z p1 p2 h0 n0 _ T3.heap _
    exact ⟨rfl, N3⟩
def Q0f (Z : State) (p1 : Int32) (p2 : Int32) (h0 : Heap) (n0 : Nat) (v : Option Value) (h : Heap) (L : List Loc) : Prop := v = some (.int (1 : Int32)) ∧ Fr n0 L
set_option maxRecDepth 65536 in
set_option maxHeartbeats 40000000 in
theorem rm0f (l : Launch) (Z : State) (a0 : Array Value) (hw : ∀ d ∈ tables_1, d.before a0 Z = true) (ws : List Jvm.Cond) (p1 : Int32) (p2 : Int32) (h0 : Heap) (n0 : Nat) (Z0 : n0 ≤ h0.size) (hIn : own_in (FP.ddiv (FP.i2d p1) (4611686018427387904 : UInt64))) (hc8 : ¬ (((p2 &&& (2147483647 : Int32)) % (3 : Int32)) = (0 : Int32))) (hc49 : ((p2 &&& (2147483647 : Int32)) % (3 : Int32)) = (1 : Int32)) (hnn57 : Jvm.Free.Fl.NoNaN64 (FP.ddiv (FP.i2d p1) (4611686018427387904 : UInt64))) (hc61 : ¬ (p1 < (1 : Int32))) (hc67 : ¬ ((2000000 : Int32) < p1)) :
    MetFree l x (head1 (Jvm.Cond.code x code maxLocals ret :: ws) room_1) (fun a U => a = #[(.int p1), (.int p2)] ∧ Z.Warmed39 U.vm ∧ U.heap = h0) (fun _ _ _ _ _ => True) (fun _ U o U' => ∃ v L, o = .returned v ∧ Q0f Z p1 p2 h0 n0 v U'.heap L ∧ FrameEnd U o U' L room_1.cells room_1.slots) := by
  refine MetFree.of_bodySF (plainFor_of_name pn_0) hisR ?_
  intro p e s m args below meth c s₁ Bd hml0 hP hK
  obtain ⟨rfl, hZ, hh⟩ := hP
  have hx := Bd.exec
  have hby := Bd.bytes
  have hml : c.maxLocals = 6 := hml0
  have hown : s.vm.findClass "com/example/anamnesis/anamnesis/engine/WeightRangeContainsPinLaw" = some m.cls := findClass_of_methodNamed Bd.named
  have hnm := (name_of_methodNamed Bd.named Bd.method).1
  have X0 : Stand p l e room_1 s m #[(.int p1), (.int p2)] below meth c s₁ [] 0 0 := Stand.of_body Bd
  have e0 : s₁.heap = h0 := by rw [← hh, Bd.state]; rfl
  have N0 := Fr.nil n0
  have pre0 : ∀ t, Steps p.tables e below (s₁.setTop (mkF m 0 #[.val (.int p1), .val (.int p2), .unset, .unset, .unset, .unset] [])) t → Steps p.tables e below (s₁.setTop (entryFrame m #[(.int p1), (.int p2)] maxLocals)) t := fun t k => castTop (ef_0 m p1 p2) k
  obtain ⟨_, _, ⟨T3, L3, k3, n3⟩, -, X3, ⟨Lc3, hQ3, l3, y3, z3⟩, st3⟩ := Jvm.LawKit.callS X0 hx (y := (⟨"com/example/anamnesis/anamnesis/engine/WeightRange", "contains", "(D)Z"⟩ : MethodName)) hown (mvT hZ (hw _ (List.mem_of_getElem? (i := 1) rfl))) (mvT hZ (hw _ (List.mem_of_getElem? (i := 2) rfl))) (mvT hZ (hw _ (List.mem_of_getElem? (i := 3) rfl))) (mvT hZ (hw _ (List.mem_of_getElem? (i := 4) rfl))) (by decide) (backOf (W := 0) (rm1 l Z a0 hw [] (FP.ddiv (FP.i2d p1) (4611686018427387904 : UInt64)) (1 : Int32) h0 n0 Z0 (Or.inl ⟨rfl, hIn⟩)) hZ (hw _ (List.mem_of_getElem? (i := 4) rfl)) (hw _ (List.mem_of_getElem? (i := 3) rfl)) (by decide) (by decide)) (g := (mkF m 78 #[.val (.int p1), .val (.int p2), .val (.int ((p2 &&& (2147483647 : Int32)) % (3 : Int32))), .val (.double (FP.ddiv (FP.i2d p1) (4611686018427387904 : UInt64))), .second, .val (.int (1 : Int32))] [(.double (FP.ddiv (FP.i2d p1) (4611686018427387904 : UInt64)))])) rfl (by rw [hml]; rfl) (argsL := [(.double (FP.ddiv (FP.i2d p1) (4611686018427387904 : UInt64)))]) (rest := []) (lenOf pd_0_0 rfl) rfl (by show 2 * 0 + _ ≤ _; exact Nat.le_of_eq rfl) (hb hby at_78) (fun _ _ => ⟨rfl, e0, (by decide : 0 + 0 ≤ _), (by decide : 0 + 0 ≤ _)⟩)
  dsimp only [Pt.U, Pt.locs, Pt.cells, Pt.slots] at X3 l3 y3 z3 st3 hQ3
  subst l3 y3 z3
  obtain ⟨rfl, N3q, k3q⟩ := hQ3
  have N3 := Fr.app N0 N3q
  obtain ⟨fs, hr, hrun, hended, hW, hsame⟩ := X3.leave (v := some (.int (1 : Int32))) (fun h => by rw [Bd.returns] at h; cases h)
  refine ⟨_, _, pre0 _ ?_, hrun, hended, _, _, rfl, ?_, ⟨_, rfl⟩, hW, hsame.mono (by decide) (by decide)⟩
  · show Steps p.tables e below (s₁.setTop (mkF m 0 #[.val (.int p1), .val (.int p2), .unset, .unset, .unset, .unset] [])) _
    refine XS.iloadN X0.here hx rfl (hb hby at_0) rfl ?_
    show Steps p.tables e below (s₁.setTop (mkF m 1 #[.val (.int p1), .val (.int p2), .unset, .unset, .unset, .unset] [(.int p2)])) _
    refine X0.ldcInt hx hown (mvT hZ (hw _ (List.mem_of_getElem? (i := 0) rfl))) (g := (mkF m 1 #[.val (.int p1), .val (.int p2), .unset, .unset, .unset, .unset] [(.int p2)])) rfl (hb hby at_1) _ ?_
    show Steps p.tables e below (s₁.setTop (mkF m 3 #[.val (.int p1), .val (.int p2), .unset, .unset, .unset, .unset] [(.int (2147483647 : Int32)), (.int p2)])) _
    refine XS.iand X0.here hx rfl (hb hby at_3) rfl ?_
    show Steps p.tables e below (s₁.setTop (mkF m 4 #[.val (.int p1), .val (.int p2), .unset, .unset, .unset, .unset] [(.int (p2 &&& (2147483647 : Int32)))])) _
    refine XS.iconst X0.here hx rfl (hb hby at_4) ?_
    show Steps p.tables e below (s₁.setTop (mkF m 5 #[.val (.int p1), .val (.int p2), .unset, .unset, .unset, .unset] [(.int (3 : Int32)), (.int (p2 &&& (2147483647 : Int32)))])) _
    refine iremM X0 hx rfl (hb hby at_5) rfl (by decide) ?_
    show Steps p.tables e below (s₁.setTop (mkF m 6 #[.val (.int p1), .val (.int p2), .unset, .unset, .unset, .unset] [(.int ((p2 &&& (2147483647 : Int32)) % (3 : Int32)))])) _
    refine XS.istoreN X0.here hx rfl (hb hby at_6) rfl (l' := #[.val (.int p1), .val (.int p2), .val (.int ((p2 &&& (2147483647 : Int32)) % (3 : Int32))), .unset, .unset, .unset]) rfl ?_
    show Steps p.tables e below (s₁.setTop (mkF m 7 #[.val (.int p1), .val (.int p2), .val (.int ((p2 &&& (2147483647 : Int32)) % (3 : Int32))), .unset, .unset, .unset] [])) _
    refine XS.iloadN X0.here hx rfl (hb hby at_7) rfl ?_
    show Steps p.tables e below (s₁.setTop (mkF m 8 #[.val (.int p1), .val (.int p2), .val (.int ((p2 &&& (2147483647 : Int32)) % (3 : Int32))), .unset, .unset, .unset] [(.int ((p2 &&& (2147483647 : Int32)) % (3 : Int32)))])) _
    refine XS.ifYes X0.here hx rfl (pc0 := 8) (pc' := 47) rfl (hb hby at_8) rfl ((if0 _ _).trans (feq hc8).2) (by decide) (by decide) ?_
    show Steps p.tables e below (s₁.setTop (mkF m 47 #[.val (.int p1), .val (.int p2), .val (.int ((p2 &&& (2147483647 : Int32)) % (3 : Int32))), .unset, .unset, .unset] [])) _
    refine XS.iloadN X0.here hx rfl (hb hby at_47) rfl ?_
    show Steps p.tables e below (s₁.setTop (mkF m 48 #[.val (.int p1), .val (.int p2), .val (.int ((p2 &&& (2147483647 : Int32)) % (3 : Int32))), .unset, .unset, .unset] [(.int ((p2 &&& (2147483647 : Int32)) % (3 : Int32)))])) _
    refine XS.iconst X0.here hx rfl (hb hby at_48) ?_
    show Steps p.tables e below (s₁.setTop (mkF m 49 #[.val (.int p1), .val (.int p2), .val (.int ((p2 &&& (2147483647 : Int32)) % (3 : Int32))), .unset, .unset, .unset] [(.int (1 : Int32)), (.int ((p2 &&& (2147483647 : Int32)) % (3 : Int32)))])) _
    refine XS.icmpNo X0.here hx rfl (hb hby at_49) rfl (teq hc49).2 ?_
    show Steps p.tables e below (s₁.setTop (mkF m 52 #[.val (.int p1), .val (.int p2), .val (.int ((p2 &&& (2147483647 : Int32)) % (3 : Int32))), .unset, .unset, .unset] [])) _
    refine XS.iloadN X0.here hx rfl (hb hby at_52) rfl ?_
    show Steps p.tables e below (s₁.setTop (mkF m 53 #[.val (.int p1), .val (.int p2), .val (.int ((p2 &&& (2147483647 : Int32)) % (3 : Int32))), .unset, .unset, .unset] [(.int p1)])) _
    refine XS.i2dS X0.here hx rfl (hb hby at_53) rfl rfl ?_
    show Steps p.tables e below (s₁.setTop (mkF m 54 #[.val (.int p1), .val (.int p2), .val (.int ((p2 &&& (2147483647 : Int32)) % (3 : Int32))), .unset, .unset, .unset] [(.double (FP.i2d p1))])) _
    refine X0.ldc2DoubleC hx hown (mvT hZ (hw _ (List.mem_of_getElem? (i := 6) rfl))) (g := (mkF m 54 #[.val (.int p1), .val (.int p2), .val (.int ((p2 &&& (2147483647 : Int32)) % (3 : Int32))), .unset, .unset, .unset] [(.double (FP.i2d p1))])) rfl (hb hby at_54) _ ?_
    show Steps p.tables e below (s₁.setTop (mkF m 57 #[.val (.int p1), .val (.int p2), .val (.int ((p2 &&& (2147483647 : Int32)) % (3 : Int32))), .unset, .unset, .unset] [(.double (4611686018427387904 : UInt64)), (.double (FP.i2d p1))])) _
    refine XS.ddivS X0.here hx rfl (hb hby at_57) rfl hnn57 rfl ?_
    show Steps p.tables e below (s₁.setTop (mkF m 58 #[.val (.int p1), .val (.int p2), .val (.int ((p2 &&& (2147483647 : Int32)) % (3 : Int32))), .unset, .unset, .unset] [(.double (FP.ddiv (FP.i2d p1) (4611686018427387904 : UInt64)))])) _
    refine XS.dstoreN X0.here hx rfl (hb hby at_58) rfl (l' := #[.val (.int p1), .val (.int p2), .val (.int ((p2 &&& (2147483647 : Int32)) % (3 : Int32))), .val (.double (FP.ddiv (FP.i2d p1) (4611686018427387904 : UInt64))), .second, .unset]) rfl ?_
    show Steps p.tables e below (s₁.setTop (mkF m 59 #[.val (.int p1), .val (.int p2), .val (.int ((p2 &&& (2147483647 : Int32)) % (3 : Int32))), .val (.double (FP.ddiv (FP.i2d p1) (4611686018427387904 : UInt64))), .second, .unset] [])) _
    refine XS.iloadN X0.here hx rfl (hb hby at_59) rfl ?_
    show Steps p.tables e below (s₁.setTop (mkF m 60 #[.val (.int p1), .val (.int p2), .val (.int ((p2 &&& (2147483647 : Int32)) % (3 : Int32))), .val (.double (FP.ddiv (FP.i2d p1) (4611686018427387904 : UInt64))), .second, .unset] [(.int p1)])) _
    refine XS.iconst X0.here hx rfl (hb hby at_60) ?_
    show Steps p.tables e below (s₁.setTop (mkF m 61 #[.val (.int p1), .val (.int p2), .val (.int ((p2 &&& (2147483647 : Int32)) % (3 : Int32))), .val (.double (FP.ddiv (FP.i2d p1) (4611686018427387904 : UInt64))), .second, .unset] [(.int (1 : Int32)), (.int p1)])) _
    refine XS.icmpNo X0.here hx rfl (hb hby at_61) rfl (flt hc61).1 ?_
    show Steps p.tables e below (s₁.setTop (mkF m 64 #[.val (.int p1), .val (.int p2), .val (.int ((p2 &&& (2147483647 : Int32)) % (3 : Int32))), .val (.double (FP.ddiv (FP.i2d p1) (4611686018427387904 : UInt64))), .second, .unset] [])) _
    refine XS.iloadN X0.here hx rfl (hb hby at_64) rfl ?_
    show Steps p.tables e below (s₁.setTop (mkF m 65 #[.val (.int p1), .val (.int p2), .val (.int ((p2 &&& (2147483647 : Int32)) % (3 : Int32))), .val (.double (FP.ddiv (FP.i2d p1) (4611686018427387904 : UInt64))), .second, .unset] [(.int p1)])) _
    refine X0.ldcInt hx hown (mvT hZ (hw _ (List.mem_of_getElem? (i := 7) rfl))) (g := (mkF m 65 #[.val (.int p1), .val (.int p2), .val (.int ((p2 &&& (2147483647 : Int32)) % (3 : Int32))), .val (.double (FP.ddiv (FP.i2d p1) (4611686018427387904 : UInt64))), .second, .unset] [(.int p1)])) rfl (hb hby at_65) _ ?_
    show Steps p.tables e below (s₁.setTop (mkF m 67 #[.val (.int p1), .val (.int p2), .val (.int ((p2 &&& (2147483647 : Int32)) % (3 : Int32))), .val (.double (FP.ddiv (FP.i2d p1) (4611686018427387904 : UInt64))), .second, .unset] [(.int (2000000 : Int32)), (.int p1)])) _
    refine XS.icmpNo X0.here hx rfl (hb hby at_67) rfl (flt hc67).2.2.1 ?_
    show Steps p.tables e below (s₁.setTop (mkF m 70 #[.val (.int p1), .val (.int p2), .val (.int ((p2 &&& (2147483647 : Int32)) % (3 : Int32))), .val (.double (FP.ddiv (FP.i2d p1) (4611686018427387904 : UInt64))), .second, .unset] [])) _
    refine XS.iconst X0.here hx rfl (hb hby at_70) ?_
    show Steps p.tables e below (s₁.setTop (mkF m 71 #[.val (.int p1), .val (.int p2), .val (.int ((p2 &&& (2147483647 : Int32)) % (3 : Int32))), .val (.double (FP.ddiv (FP.i2d p1) (4611686018427387904 : UInt64))), .second, .unset] [(.int (1 : Int32))])) _
    refine XS.goto X0.here hx rfl (pc0 := 71) (pc' := 75) rfl (hb hby at_71) (by decide) (by decide) ?_
    show Steps p.tables e below (s₁.setTop (mkF m 75 #[.val (.int p1), .val (.int p2), .val (.int ((p2 &&& (2147483647 : Int32)) % (3 : Int32))), .val (.double (FP.ddiv (FP.i2d p1) (4611686018427387904 : UInt64))), .second, .unset] [(.int (1 : Int32))])) _
    refine XS.istore X0.here hx rfl (hb hby at_75) rfl (l' := #[.val (.int p1), .val (.int p2), .val (.int ((p2 &&& (2147483647 : Int32)) % (3 : Int32))), .val (.double (FP.ddiv (FP.i2d p1) (4611686018427387904 : UInt64))), .second, .val (.int (1 : Int32))]) rfl ?_
    show Steps p.tables e below (s₁.setTop (mkF m 77 #[.val (.int p1), .val (.int p2), .val (.int ((p2 &&& (2147483647 : Int32)) % (3 : Int32))), .val (.double (FP.ddiv (FP.i2d p1) (4611686018427387904 : UInt64))), .second, .val (.int (1 : Int32))] [])) _
    refine XS.dloadN X0.here hx rfl (hb hby at_77) rfl ?_
    show Steps p.tables e below (s₁.setTop (mkF m 78 #[.val (.int p1), .val (.int p2), .val (.int ((p2 &&& (2147483647 : Int32)) % (3 : Int32))), .val (.double (FP.ddiv (FP.i2d p1) (4611686018427387904 : UInt64))), .second, .val (.int (1 : Int32))] [(.double (FP.ddiv (FP.i2d p1) (4611686018427387904 : UInt64)))])) _
    refine st3 _ ?_
    show Steps p.tables e below (T3.setTop (mkF m 81 #[.val (.int p1), .val (.int p2), .val (.int ((p2 &&& (2147483647 : Int32)) % (3 : Int32))), .val (.double (FP.ddiv (FP.i2d p1) (4611686018427387904 : UInt64))), .second, .val (.int (1 : Int32))] [(.int (1 : Int32))])) _
    refine XS.iload X3.here hx rfl (hb hby at_81) rfl ?_
    show Steps p.tables e below (T3.setTop (mkF m 83 #[.val (.int p1), .val (.int p2), .val (.int ((p2 &&& (2147483647 : Int32)) % (3 : Int32))), .val (.double (FP.ddiv (FP.i2d p1) (4611686018427387904 : UInt64))), .second, .val (.int (1 : Int32))] [(.int (1 : Int32)), (.int (1 : Int32))])) _
    refine XS.icmpNo X3.here hx rfl (hb hby at_83) rfl (teq (by decide : (1 : Int32) = (1 : Int32))).2 ?_
    show Steps p.tables e below (T3.setTop (mkF m 86 #[.val (.int p1), .val (.int p2), .val (.int ((p2 &&& (2147483647 : Int32)) % (3 : Int32))), .val (.double (FP.ddiv (FP.i2d p1) (4611686018427387904 : UInt64))), .second, .val (.int (1 : Int32))] [])) _
    refine XS.iconst X3.here hx rfl (hb hby at_86) ?_
    show Steps p.tables e below (T3.setTop (mkF m 87 #[.val (.int p1), .val (.int p2), .val (.int ((p2 &&& (2147483647 : Int32)) % (3 : Int32))), .val (.double (FP.ddiv (FP.i2d p1) (4611686018427387904 : UInt64))), .second, .val (.int (1 : Int32))] [(.int (1 : Int32))])) _
    refine XS.goto X3.here hx rfl (pc0 := 87) (pc' := 91) rfl (hb hby at_87) (by decide) (by decide) ?_
    show Steps p.tables e below (T3.setTop (mkF m 91 #[.val (.int p1), .val (.int p2), .val (.int ((p2 &&& (2147483647 : Int32)) % (3 : Int32))), .val (.double (FP.ddiv (FP.i2d p1) (4611686018427387904 : UInt64))), .second, .val (.int (1 : Int32))] [(.int (1 : Int32))])) _
    exact retN X3 hx (t := .boolean) Bd.returns (by simp) (hb hby at_91) hr
  · show Q0f Z p1 p2 h0 n0 _ T3.heap _
    exact ⟨rfl, N3⟩
def Q0g (Z : State) (p1 : Int32) (p2 : Int32) (h0 : Heap) (n0 : Nat) (v : Option Value) (h : Heap) (L : List Loc) : Prop := v = some (.int (1 : Int32)) ∧ Fr n0 L
set_option maxRecDepth 65536 in
set_option maxHeartbeats 40000000 in
theorem rm0g (l : Launch) (Z : State) (a0 : Array Value) (hw : ∀ d ∈ tables_1, d.before a0 Z = true) (ws : List Jvm.Cond) (p1 : Int32) (p2 : Int32) (h0 : Heap) (n0 : Nat) (Z0 : n0 ≤ h0.size) (hIn : ¬ own_in (FP.ddiv (FP.i2d p1) (4786511204640096256 : UInt64))) (hc8 : ¬ (((p2 &&& (2147483647 : Int32)) % (3 : Int32)) = (0 : Int32))) (hc49 : ¬ (((p2 &&& (2147483647 : Int32)) % (3 : Int32)) = (1 : Int32))) (hnn97 : Jvm.Free.Fl.NoNaN64 (FP.ddiv (FP.i2d p1) (4786511204640096256 : UInt64))) (hc102 : p1 < (1000000 : Int32)) :
    MetFree l x (head1 (Jvm.Cond.code x code maxLocals ret :: ws) room_1) (fun a U => a = #[(.int p1), (.int p2)] ∧ Z.Warmed39 U.vm ∧ U.heap = h0) (fun _ _ _ _ _ => True) (fun _ U o U' => ∃ v L, o = .returned v ∧ Q0g Z p1 p2 h0 n0 v U'.heap L ∧ FrameEnd U o U' L room_1.cells room_1.slots) := by
  refine MetFree.of_bodySF (plainFor_of_name pn_0) hisR ?_
  intro p e s m args below meth c s₁ Bd hml0 hP hK
  obtain ⟨rfl, hZ, hh⟩ := hP
  have hx := Bd.exec
  have hby := Bd.bytes
  have hml : c.maxLocals = 6 := hml0
  have hown : s.vm.findClass "com/example/anamnesis/anamnesis/engine/WeightRangeContainsPinLaw" = some m.cls := findClass_of_methodNamed Bd.named
  have hnm := (name_of_methodNamed Bd.named Bd.method).1
  have X0 : Stand p l e room_1 s m #[(.int p1), (.int p2)] below meth c s₁ [] 0 0 := Stand.of_body Bd
  have e0 : s₁.heap = h0 := by rw [← hh, Bd.state]; rfl
  have N0 := Fr.nil n0
  have pre0 : ∀ t, Steps p.tables e below (s₁.setTop (mkF m 0 #[.val (.int p1), .val (.int p2), .unset, .unset, .unset, .unset] [])) t → Steps p.tables e below (s₁.setTop (entryFrame m #[(.int p1), (.int p2)] maxLocals)) t := fun t k => castTop (ef_0 m p1 p2) k
  obtain ⟨_, _, ⟨T3, L3, k3, n3⟩, -, X3, ⟨Lc3, hQ3, l3, y3, z3⟩, st3⟩ := Jvm.LawKit.callS X0 hx (y := (⟨"com/example/anamnesis/anamnesis/engine/WeightRange", "contains", "(D)Z"⟩ : MethodName)) hown (mvT hZ (hw _ (List.mem_of_getElem? (i := 1) rfl))) (mvT hZ (hw _ (List.mem_of_getElem? (i := 2) rfl))) (mvT hZ (hw _ (List.mem_of_getElem? (i := 3) rfl))) (mvT hZ (hw _ (List.mem_of_getElem? (i := 4) rfl))) (by decide) (backOf (W := 0) (rm1 l Z a0 hw [] (FP.ddiv (FP.i2d p1) (4786511204640096256 : UInt64)) (0 : Int32) h0 n0 Z0 (Or.inr ⟨rfl, hIn⟩)) hZ (hw _ (List.mem_of_getElem? (i := 4) rfl)) (hw _ (List.mem_of_getElem? (i := 3) rfl)) (by decide) (by decide)) (g := (mkF m 113 #[.val (.int p1), .val (.int p2), .val (.int ((p2 &&& (2147483647 : Int32)) % (3 : Int32))), .val (.double (FP.ddiv (FP.i2d p1) (4786511204640096256 : UInt64))), .second, .val (.int (0 : Int32))] [(.double (FP.ddiv (FP.i2d p1) (4786511204640096256 : UInt64)))])) rfl (by rw [hml]; rfl) (argsL := [(.double (FP.ddiv (FP.i2d p1) (4786511204640096256 : UInt64)))]) (rest := []) (lenOf pd_0_0 rfl) rfl (by show 2 * 0 + _ ≤ _; exact Nat.le_of_eq rfl) (hb hby at_113) (fun _ _ => ⟨rfl, e0, (by decide : 0 + 0 ≤ _), (by decide : 0 + 0 ≤ _)⟩)
  dsimp only [Pt.U, Pt.locs, Pt.cells, Pt.slots] at X3 l3 y3 z3 st3 hQ3
  subst l3 y3 z3
  obtain ⟨rfl, N3q, k3q⟩ := hQ3
  have N3 := Fr.app N0 N3q
  obtain ⟨fs, hr, hrun, hended, hW, hsame⟩ := X3.leave (v := some (.int (1 : Int32))) (fun h => by rw [Bd.returns] at h; cases h)
  refine ⟨_, _, pre0 _ ?_, hrun, hended, _, _, rfl, ?_, ⟨_, rfl⟩, hW, hsame.mono (by decide) (by decide)⟩
  · show Steps p.tables e below (s₁.setTop (mkF m 0 #[.val (.int p1), .val (.int p2), .unset, .unset, .unset, .unset] [])) _
    refine XS.iloadN X0.here hx rfl (hb hby at_0) rfl ?_
    show Steps p.tables e below (s₁.setTop (mkF m 1 #[.val (.int p1), .val (.int p2), .unset, .unset, .unset, .unset] [(.int p2)])) _
    refine X0.ldcInt hx hown (mvT hZ (hw _ (List.mem_of_getElem? (i := 0) rfl))) (g := (mkF m 1 #[.val (.int p1), .val (.int p2), .unset, .unset, .unset, .unset] [(.int p2)])) rfl (hb hby at_1) _ ?_
    show Steps p.tables e below (s₁.setTop (mkF m 3 #[.val (.int p1), .val (.int p2), .unset, .unset, .unset, .unset] [(.int (2147483647 : Int32)), (.int p2)])) _
    refine XS.iand X0.here hx rfl (hb hby at_3) rfl ?_
    show Steps p.tables e below (s₁.setTop (mkF m 4 #[.val (.int p1), .val (.int p2), .unset, .unset, .unset, .unset] [(.int (p2 &&& (2147483647 : Int32)))])) _
    refine XS.iconst X0.here hx rfl (hb hby at_4) ?_
    show Steps p.tables e below (s₁.setTop (mkF m 5 #[.val (.int p1), .val (.int p2), .unset, .unset, .unset, .unset] [(.int (3 : Int32)), (.int (p2 &&& (2147483647 : Int32)))])) _
    refine iremM X0 hx rfl (hb hby at_5) rfl (by decide) ?_
    show Steps p.tables e below (s₁.setTop (mkF m 6 #[.val (.int p1), .val (.int p2), .unset, .unset, .unset, .unset] [(.int ((p2 &&& (2147483647 : Int32)) % (3 : Int32)))])) _
    refine XS.istoreN X0.here hx rfl (hb hby at_6) rfl (l' := #[.val (.int p1), .val (.int p2), .val (.int ((p2 &&& (2147483647 : Int32)) % (3 : Int32))), .unset, .unset, .unset]) rfl ?_
    show Steps p.tables e below (s₁.setTop (mkF m 7 #[.val (.int p1), .val (.int p2), .val (.int ((p2 &&& (2147483647 : Int32)) % (3 : Int32))), .unset, .unset, .unset] [])) _
    refine XS.iloadN X0.here hx rfl (hb hby at_7) rfl ?_
    show Steps p.tables e below (s₁.setTop (mkF m 8 #[.val (.int p1), .val (.int p2), .val (.int ((p2 &&& (2147483647 : Int32)) % (3 : Int32))), .unset, .unset, .unset] [(.int ((p2 &&& (2147483647 : Int32)) % (3 : Int32)))])) _
    refine XS.ifYes X0.here hx rfl (pc0 := 8) (pc' := 47) rfl (hb hby at_8) rfl ((if0 _ _).trans (feq hc8).2) (by decide) (by decide) ?_
    show Steps p.tables e below (s₁.setTop (mkF m 47 #[.val (.int p1), .val (.int p2), .val (.int ((p2 &&& (2147483647 : Int32)) % (3 : Int32))), .unset, .unset, .unset] [])) _
    refine XS.iloadN X0.here hx rfl (hb hby at_47) rfl ?_
    show Steps p.tables e below (s₁.setTop (mkF m 48 #[.val (.int p1), .val (.int p2), .val (.int ((p2 &&& (2147483647 : Int32)) % (3 : Int32))), .unset, .unset, .unset] [(.int ((p2 &&& (2147483647 : Int32)) % (3 : Int32)))])) _
    refine XS.iconst X0.here hx rfl (hb hby at_48) ?_
    show Steps p.tables e below (s₁.setTop (mkF m 49 #[.val (.int p1), .val (.int p2), .val (.int ((p2 &&& (2147483647 : Int32)) % (3 : Int32))), .unset, .unset, .unset] [(.int (1 : Int32)), (.int ((p2 &&& (2147483647 : Int32)) % (3 : Int32)))])) _
    refine XS.icmpYes X0.here hx rfl (pc0 := 49) (pc' := 92) rfl (hb hby at_49) rfl (feq hc49).2 (by decide) (by decide) ?_
    show Steps p.tables e below (s₁.setTop (mkF m 92 #[.val (.int p1), .val (.int p2), .val (.int ((p2 &&& (2147483647 : Int32)) % (3 : Int32))), .unset, .unset, .unset] [])) _
    refine XS.iloadN X0.here hx rfl (hb hby at_92) rfl ?_
    show Steps p.tables e below (s₁.setTop (mkF m 93 #[.val (.int p1), .val (.int p2), .val (.int ((p2 &&& (2147483647 : Int32)) % (3 : Int32))), .unset, .unset, .unset] [(.int p1)])) _
    refine XS.i2dS X0.here hx rfl (hb hby at_93) rfl rfl ?_
    show Steps p.tables e below (s₁.setTop (mkF m 94 #[.val (.int p1), .val (.int p2), .val (.int ((p2 &&& (2147483647 : Int32)) % (3 : Int32))), .unset, .unset, .unset] [(.double (FP.i2d p1))])) _
    refine X0.ldc2DoubleC hx hown (mvT hZ (hw _ (List.mem_of_getElem? (i := 9) rfl))) (g := (mkF m 94 #[.val (.int p1), .val (.int p2), .val (.int ((p2 &&& (2147483647 : Int32)) % (3 : Int32))), .unset, .unset, .unset] [(.double (FP.i2d p1))])) rfl (hb hby at_94) _ ?_
    show Steps p.tables e below (s₁.setTop (mkF m 97 #[.val (.int p1), .val (.int p2), .val (.int ((p2 &&& (2147483647 : Int32)) % (3 : Int32))), .unset, .unset, .unset] [(.double (4786511204640096256 : UInt64)), (.double (FP.i2d p1))])) _
    refine XS.ddivS X0.here hx rfl (hb hby at_97) rfl hnn97 rfl ?_
    show Steps p.tables e below (s₁.setTop (mkF m 98 #[.val (.int p1), .val (.int p2), .val (.int ((p2 &&& (2147483647 : Int32)) % (3 : Int32))), .unset, .unset, .unset] [(.double (FP.ddiv (FP.i2d p1) (4786511204640096256 : UInt64)))])) _
    refine XS.dstoreN X0.here hx rfl (hb hby at_98) rfl (l' := #[.val (.int p1), .val (.int p2), .val (.int ((p2 &&& (2147483647 : Int32)) % (3 : Int32))), .val (.double (FP.ddiv (FP.i2d p1) (4786511204640096256 : UInt64))), .second, .unset]) rfl ?_
    show Steps p.tables e below (s₁.setTop (mkF m 99 #[.val (.int p1), .val (.int p2), .val (.int ((p2 &&& (2147483647 : Int32)) % (3 : Int32))), .val (.double (FP.ddiv (FP.i2d p1) (4786511204640096256 : UInt64))), .second, .unset] [])) _
    refine XS.iloadN X0.here hx rfl (hb hby at_99) rfl ?_
    show Steps p.tables e below (s₁.setTop (mkF m 100 #[.val (.int p1), .val (.int p2), .val (.int ((p2 &&& (2147483647 : Int32)) % (3 : Int32))), .val (.double (FP.ddiv (FP.i2d p1) (4786511204640096256 : UInt64))), .second, .unset] [(.int p1)])) _
    refine X0.ldcInt hx hown (mvT hZ (hw _ (List.mem_of_getElem? (i := 10) rfl))) (g := (mkF m 100 #[.val (.int p1), .val (.int p2), .val (.int ((p2 &&& (2147483647 : Int32)) % (3 : Int32))), .val (.double (FP.ddiv (FP.i2d p1) (4786511204640096256 : UInt64))), .second, .unset] [(.int p1)])) rfl (hb hby at_100) _ ?_
    show Steps p.tables e below (s₁.setTop (mkF m 102 #[.val (.int p1), .val (.int p2), .val (.int ((p2 &&& (2147483647 : Int32)) % (3 : Int32))), .val (.double (FP.ddiv (FP.i2d p1) (4786511204640096256 : UInt64))), .second, .unset] [(.int (1000000 : Int32)), (.int p1)])) _
    refine XS.icmpYes X0.here hx rfl (pc0 := 102) (pc' := 109) rfl (hb hby at_102) rfl (tlt hc102).1 (by decide) (by decide) ?_
    show Steps p.tables e below (s₁.setTop (mkF m 109 #[.val (.int p1), .val (.int p2), .val (.int ((p2 &&& (2147483647 : Int32)) % (3 : Int32))), .val (.double (FP.ddiv (FP.i2d p1) (4786511204640096256 : UInt64))), .second, .unset] [])) _
    refine XS.iconst X0.here hx rfl (hb hby at_109) ?_
    show Steps p.tables e below (s₁.setTop (mkF m 110 #[.val (.int p1), .val (.int p2), .val (.int ((p2 &&& (2147483647 : Int32)) % (3 : Int32))), .val (.double (FP.ddiv (FP.i2d p1) (4786511204640096256 : UInt64))), .second, .unset] [(.int (0 : Int32))])) _
    refine XS.istore X0.here hx rfl (hb hby at_110) rfl (l' := #[.val (.int p1), .val (.int p2), .val (.int ((p2 &&& (2147483647 : Int32)) % (3 : Int32))), .val (.double (FP.ddiv (FP.i2d p1) (4786511204640096256 : UInt64))), .second, .val (.int (0 : Int32))]) rfl ?_
    show Steps p.tables e below (s₁.setTop (mkF m 112 #[.val (.int p1), .val (.int p2), .val (.int ((p2 &&& (2147483647 : Int32)) % (3 : Int32))), .val (.double (FP.ddiv (FP.i2d p1) (4786511204640096256 : UInt64))), .second, .val (.int (0 : Int32))] [])) _
    refine XS.dloadN X0.here hx rfl (hb hby at_112) rfl ?_
    show Steps p.tables e below (s₁.setTop (mkF m 113 #[.val (.int p1), .val (.int p2), .val (.int ((p2 &&& (2147483647 : Int32)) % (3 : Int32))), .val (.double (FP.ddiv (FP.i2d p1) (4786511204640096256 : UInt64))), .second, .val (.int (0 : Int32))] [(.double (FP.ddiv (FP.i2d p1) (4786511204640096256 : UInt64)))])) _
    refine st3 _ ?_
    show Steps p.tables e below (T3.setTop (mkF m 116 #[.val (.int p1), .val (.int p2), .val (.int ((p2 &&& (2147483647 : Int32)) % (3 : Int32))), .val (.double (FP.ddiv (FP.i2d p1) (4786511204640096256 : UInt64))), .second, .val (.int (0 : Int32))] [(.int (0 : Int32))])) _
    refine XS.iload X3.here hx rfl (hb hby at_116) rfl ?_
    show Steps p.tables e below (T3.setTop (mkF m 118 #[.val (.int p1), .val (.int p2), .val (.int ((p2 &&& (2147483647 : Int32)) % (3 : Int32))), .val (.double (FP.ddiv (FP.i2d p1) (4786511204640096256 : UInt64))), .second, .val (.int (0 : Int32))] [(.int (0 : Int32)), (.int (0 : Int32))])) _
    refine XS.icmpNo X3.here hx rfl (hb hby at_118) rfl (teq (by decide : (0 : Int32) = (0 : Int32))).2 ?_
    show Steps p.tables e below (T3.setTop (mkF m 121 #[.val (.int p1), .val (.int p2), .val (.int ((p2 &&& (2147483647 : Int32)) % (3 : Int32))), .val (.double (FP.ddiv (FP.i2d p1) (4786511204640096256 : UInt64))), .second, .val (.int (0 : Int32))] [])) _
    refine XS.iconst X3.here hx rfl (hb hby at_121) ?_
    show Steps p.tables e below (T3.setTop (mkF m 122 #[.val (.int p1), .val (.int p2), .val (.int ((p2 &&& (2147483647 : Int32)) % (3 : Int32))), .val (.double (FP.ddiv (FP.i2d p1) (4786511204640096256 : UInt64))), .second, .val (.int (0 : Int32))] [(.int (1 : Int32))])) _
    refine XS.goto X3.here hx rfl (pc0 := 122) (pc' := 126) rfl (hb hby at_122) (by decide) (by decide) ?_
    show Steps p.tables e below (T3.setTop (mkF m 126 #[.val (.int p1), .val (.int p2), .val (.int ((p2 &&& (2147483647 : Int32)) % (3 : Int32))), .val (.double (FP.ddiv (FP.i2d p1) (4786511204640096256 : UInt64))), .second, .val (.int (0 : Int32))] [(.int (1 : Int32))])) _
    exact retN X3 hx (t := .boolean) Bd.returns (by simp) (hb hby at_126) hr
  · show Q0g Z p1 p2 h0 n0 _ T3.heap _
    exact ⟨rfl, N3⟩
def Q0h (Z : State) (p1 : Int32) (p2 : Int32) (h0 : Heap) (n0 : Nat) (v : Option Value) (h : Heap) (L : List Loc) : Prop := v = some (.int (1 : Int32)) ∧ Fr n0 L
set_option maxRecDepth 65536 in
set_option maxHeartbeats 40000000 in
theorem rm0h (l : Launch) (Z : State) (a0 : Array Value) (hw : ∀ d ∈ tables_1, d.before a0 Z = true) (ws : List Jvm.Cond) (p1 : Int32) (p2 : Int32) (h0 : Heap) (n0 : Nat) (Z0 : n0 ≤ h0.size) (hIn : own_in (FP.ddiv (FP.i2d p1) (4786511204640096256 : UInt64))) (hc8 : ¬ (((p2 &&& (2147483647 : Int32)) % (3 : Int32)) = (0 : Int32))) (hc49 : ¬ (((p2 &&& (2147483647 : Int32)) % (3 : Int32)) = (1 : Int32))) (hnn97 : Jvm.Free.Fl.NoNaN64 (FP.ddiv (FP.i2d p1) (4786511204640096256 : UInt64))) (hc102 : ¬ (p1 < (1000000 : Int32))) :
    MetFree l x (head1 (Jvm.Cond.code x code maxLocals ret :: ws) room_1) (fun a U => a = #[(.int p1), (.int p2)] ∧ Z.Warmed39 U.vm ∧ U.heap = h0) (fun _ _ _ _ _ => True) (fun _ U o U' => ∃ v L, o = .returned v ∧ Q0h Z p1 p2 h0 n0 v U'.heap L ∧ FrameEnd U o U' L room_1.cells room_1.slots) := by
  refine MetFree.of_bodySF (plainFor_of_name pn_0) hisR ?_
  intro p e s m args below meth c s₁ Bd hml0 hP hK
  obtain ⟨rfl, hZ, hh⟩ := hP
  have hx := Bd.exec
  have hby := Bd.bytes
  have hml : c.maxLocals = 6 := hml0
  have hown : s.vm.findClass "com/example/anamnesis/anamnesis/engine/WeightRangeContainsPinLaw" = some m.cls := findClass_of_methodNamed Bd.named
  have hnm := (name_of_methodNamed Bd.named Bd.method).1
  have X0 : Stand p l e room_1 s m #[(.int p1), (.int p2)] below meth c s₁ [] 0 0 := Stand.of_body Bd
  have e0 : s₁.heap = h0 := by rw [← hh, Bd.state]; rfl
  have N0 := Fr.nil n0
  have pre0 : ∀ t, Steps p.tables e below (s₁.setTop (mkF m 0 #[.val (.int p1), .val (.int p2), .unset, .unset, .unset, .unset] [])) t → Steps p.tables e below (s₁.setTop (entryFrame m #[(.int p1), (.int p2)] maxLocals)) t := fun t k => castTop (ef_0 m p1 p2) k
  obtain ⟨_, _, ⟨T3, L3, k3, n3⟩, -, X3, ⟨Lc3, hQ3, l3, y3, z3⟩, st3⟩ := Jvm.LawKit.callS X0 hx (y := (⟨"com/example/anamnesis/anamnesis/engine/WeightRange", "contains", "(D)Z"⟩ : MethodName)) hown (mvT hZ (hw _ (List.mem_of_getElem? (i := 1) rfl))) (mvT hZ (hw _ (List.mem_of_getElem? (i := 2) rfl))) (mvT hZ (hw _ (List.mem_of_getElem? (i := 3) rfl))) (mvT hZ (hw _ (List.mem_of_getElem? (i := 4) rfl))) (by decide) (backOf (W := 0) (rm1 l Z a0 hw [] (FP.ddiv (FP.i2d p1) (4786511204640096256 : UInt64)) (1 : Int32) h0 n0 Z0 (Or.inl ⟨rfl, hIn⟩)) hZ (hw _ (List.mem_of_getElem? (i := 4) rfl)) (hw _ (List.mem_of_getElem? (i := 3) rfl)) (by decide) (by decide)) (g := (mkF m 113 #[.val (.int p1), .val (.int p2), .val (.int ((p2 &&& (2147483647 : Int32)) % (3 : Int32))), .val (.double (FP.ddiv (FP.i2d p1) (4786511204640096256 : UInt64))), .second, .val (.int (1 : Int32))] [(.double (FP.ddiv (FP.i2d p1) (4786511204640096256 : UInt64)))])) rfl (by rw [hml]; rfl) (argsL := [(.double (FP.ddiv (FP.i2d p1) (4786511204640096256 : UInt64)))]) (rest := []) (lenOf pd_0_0 rfl) rfl (by show 2 * 0 + _ ≤ _; exact Nat.le_of_eq rfl) (hb hby at_113) (fun _ _ => ⟨rfl, e0, (by decide : 0 + 0 ≤ _), (by decide : 0 + 0 ≤ _)⟩)
  dsimp only [Pt.U, Pt.locs, Pt.cells, Pt.slots] at X3 l3 y3 z3 st3 hQ3
  subst l3 y3 z3
  obtain ⟨rfl, N3q, k3q⟩ := hQ3
  have N3 := Fr.app N0 N3q
  obtain ⟨fs, hr, hrun, hended, hW, hsame⟩ := X3.leave (v := some (.int (1 : Int32))) (fun h => by rw [Bd.returns] at h; cases h)
  refine ⟨_, _, pre0 _ ?_, hrun, hended, _, _, rfl, ?_, ⟨_, rfl⟩, hW, hsame.mono (by decide) (by decide)⟩
  · show Steps p.tables e below (s₁.setTop (mkF m 0 #[.val (.int p1), .val (.int p2), .unset, .unset, .unset, .unset] [])) _
    refine XS.iloadN X0.here hx rfl (hb hby at_0) rfl ?_
    show Steps p.tables e below (s₁.setTop (mkF m 1 #[.val (.int p1), .val (.int p2), .unset, .unset, .unset, .unset] [(.int p2)])) _
    refine X0.ldcInt hx hown (mvT hZ (hw _ (List.mem_of_getElem? (i := 0) rfl))) (g := (mkF m 1 #[.val (.int p1), .val (.int p2), .unset, .unset, .unset, .unset] [(.int p2)])) rfl (hb hby at_1) _ ?_
    show Steps p.tables e below (s₁.setTop (mkF m 3 #[.val (.int p1), .val (.int p2), .unset, .unset, .unset, .unset] [(.int (2147483647 : Int32)), (.int p2)])) _
    refine XS.iand X0.here hx rfl (hb hby at_3) rfl ?_
    show Steps p.tables e below (s₁.setTop (mkF m 4 #[.val (.int p1), .val (.int p2), .unset, .unset, .unset, .unset] [(.int (p2 &&& (2147483647 : Int32)))])) _
    refine XS.iconst X0.here hx rfl (hb hby at_4) ?_
    show Steps p.tables e below (s₁.setTop (mkF m 5 #[.val (.int p1), .val (.int p2), .unset, .unset, .unset, .unset] [(.int (3 : Int32)), (.int (p2 &&& (2147483647 : Int32)))])) _
    refine iremM X0 hx rfl (hb hby at_5) rfl (by decide) ?_
    show Steps p.tables e below (s₁.setTop (mkF m 6 #[.val (.int p1), .val (.int p2), .unset, .unset, .unset, .unset] [(.int ((p2 &&& (2147483647 : Int32)) % (3 : Int32)))])) _
    refine XS.istoreN X0.here hx rfl (hb hby at_6) rfl (l' := #[.val (.int p1), .val (.int p2), .val (.int ((p2 &&& (2147483647 : Int32)) % (3 : Int32))), .unset, .unset, .unset]) rfl ?_
    show Steps p.tables e below (s₁.setTop (mkF m 7 #[.val (.int p1), .val (.int p2), .val (.int ((p2 &&& (2147483647 : Int32)) % (3 : Int32))), .unset, .unset, .unset] [])) _
    refine XS.iloadN X0.here hx rfl (hb hby at_7) rfl ?_
    show Steps p.tables e below (s₁.setTop (mkF m 8 #[.val (.int p1), .val (.int p2), .val (.int ((p2 &&& (2147483647 : Int32)) % (3 : Int32))), .unset, .unset, .unset] [(.int ((p2 &&& (2147483647 : Int32)) % (3 : Int32)))])) _
    refine XS.ifYes X0.here hx rfl (pc0 := 8) (pc' := 47) rfl (hb hby at_8) rfl ((if0 _ _).trans (feq hc8).2) (by decide) (by decide) ?_
    show Steps p.tables e below (s₁.setTop (mkF m 47 #[.val (.int p1), .val (.int p2), .val (.int ((p2 &&& (2147483647 : Int32)) % (3 : Int32))), .unset, .unset, .unset] [])) _
    refine XS.iloadN X0.here hx rfl (hb hby at_47) rfl ?_
    show Steps p.tables e below (s₁.setTop (mkF m 48 #[.val (.int p1), .val (.int p2), .val (.int ((p2 &&& (2147483647 : Int32)) % (3 : Int32))), .unset, .unset, .unset] [(.int ((p2 &&& (2147483647 : Int32)) % (3 : Int32)))])) _
    refine XS.iconst X0.here hx rfl (hb hby at_48) ?_
    show Steps p.tables e below (s₁.setTop (mkF m 49 #[.val (.int p1), .val (.int p2), .val (.int ((p2 &&& (2147483647 : Int32)) % (3 : Int32))), .unset, .unset, .unset] [(.int (1 : Int32)), (.int ((p2 &&& (2147483647 : Int32)) % (3 : Int32)))])) _
    refine XS.icmpYes X0.here hx rfl (pc0 := 49) (pc' := 92) rfl (hb hby at_49) rfl (feq hc49).2 (by decide) (by decide) ?_
    show Steps p.tables e below (s₁.setTop (mkF m 92 #[.val (.int p1), .val (.int p2), .val (.int ((p2 &&& (2147483647 : Int32)) % (3 : Int32))), .unset, .unset, .unset] [])) _
    refine XS.iloadN X0.here hx rfl (hb hby at_92) rfl ?_
    show Steps p.tables e below (s₁.setTop (mkF m 93 #[.val (.int p1), .val (.int p2), .val (.int ((p2 &&& (2147483647 : Int32)) % (3 : Int32))), .unset, .unset, .unset] [(.int p1)])) _
    refine XS.i2dS X0.here hx rfl (hb hby at_93) rfl rfl ?_
    show Steps p.tables e below (s₁.setTop (mkF m 94 #[.val (.int p1), .val (.int p2), .val (.int ((p2 &&& (2147483647 : Int32)) % (3 : Int32))), .unset, .unset, .unset] [(.double (FP.i2d p1))])) _
    refine X0.ldc2DoubleC hx hown (mvT hZ (hw _ (List.mem_of_getElem? (i := 9) rfl))) (g := (mkF m 94 #[.val (.int p1), .val (.int p2), .val (.int ((p2 &&& (2147483647 : Int32)) % (3 : Int32))), .unset, .unset, .unset] [(.double (FP.i2d p1))])) rfl (hb hby at_94) _ ?_
    show Steps p.tables e below (s₁.setTop (mkF m 97 #[.val (.int p1), .val (.int p2), .val (.int ((p2 &&& (2147483647 : Int32)) % (3 : Int32))), .unset, .unset, .unset] [(.double (4786511204640096256 : UInt64)), (.double (FP.i2d p1))])) _
    refine XS.ddivS X0.here hx rfl (hb hby at_97) rfl hnn97 rfl ?_
    show Steps p.tables e below (s₁.setTop (mkF m 98 #[.val (.int p1), .val (.int p2), .val (.int ((p2 &&& (2147483647 : Int32)) % (3 : Int32))), .unset, .unset, .unset] [(.double (FP.ddiv (FP.i2d p1) (4786511204640096256 : UInt64)))])) _
    refine XS.dstoreN X0.here hx rfl (hb hby at_98) rfl (l' := #[.val (.int p1), .val (.int p2), .val (.int ((p2 &&& (2147483647 : Int32)) % (3 : Int32))), .val (.double (FP.ddiv (FP.i2d p1) (4786511204640096256 : UInt64))), .second, .unset]) rfl ?_
    show Steps p.tables e below (s₁.setTop (mkF m 99 #[.val (.int p1), .val (.int p2), .val (.int ((p2 &&& (2147483647 : Int32)) % (3 : Int32))), .val (.double (FP.ddiv (FP.i2d p1) (4786511204640096256 : UInt64))), .second, .unset] [])) _
    refine XS.iloadN X0.here hx rfl (hb hby at_99) rfl ?_
    show Steps p.tables e below (s₁.setTop (mkF m 100 #[.val (.int p1), .val (.int p2), .val (.int ((p2 &&& (2147483647 : Int32)) % (3 : Int32))), .val (.double (FP.ddiv (FP.i2d p1) (4786511204640096256 : UInt64))), .second, .unset] [(.int p1)])) _
    refine X0.ldcInt hx hown (mvT hZ (hw _ (List.mem_of_getElem? (i := 10) rfl))) (g := (mkF m 100 #[.val (.int p1), .val (.int p2), .val (.int ((p2 &&& (2147483647 : Int32)) % (3 : Int32))), .val (.double (FP.ddiv (FP.i2d p1) (4786511204640096256 : UInt64))), .second, .unset] [(.int p1)])) rfl (hb hby at_100) _ ?_
    show Steps p.tables e below (s₁.setTop (mkF m 102 #[.val (.int p1), .val (.int p2), .val (.int ((p2 &&& (2147483647 : Int32)) % (3 : Int32))), .val (.double (FP.ddiv (FP.i2d p1) (4786511204640096256 : UInt64))), .second, .unset] [(.int (1000000 : Int32)), (.int p1)])) _
    refine XS.icmpNo X0.here hx rfl (hb hby at_102) rfl (flt hc102).1 ?_
    show Steps p.tables e below (s₁.setTop (mkF m 105 #[.val (.int p1), .val (.int p2), .val (.int ((p2 &&& (2147483647 : Int32)) % (3 : Int32))), .val (.double (FP.ddiv (FP.i2d p1) (4786511204640096256 : UInt64))), .second, .unset] [])) _
    refine XS.iconst X0.here hx rfl (hb hby at_105) ?_
    show Steps p.tables e below (s₁.setTop (mkF m 106 #[.val (.int p1), .val (.int p2), .val (.int ((p2 &&& (2147483647 : Int32)) % (3 : Int32))), .val (.double (FP.ddiv (FP.i2d p1) (4786511204640096256 : UInt64))), .second, .unset] [(.int (1 : Int32))])) _
    refine XS.goto X0.here hx rfl (pc0 := 106) (pc' := 110) rfl (hb hby at_106) (by decide) (by decide) ?_
    show Steps p.tables e below (s₁.setTop (mkF m 110 #[.val (.int p1), .val (.int p2), .val (.int ((p2 &&& (2147483647 : Int32)) % (3 : Int32))), .val (.double (FP.ddiv (FP.i2d p1) (4786511204640096256 : UInt64))), .second, .unset] [(.int (1 : Int32))])) _
    refine XS.istore X0.here hx rfl (hb hby at_110) rfl (l' := #[.val (.int p1), .val (.int p2), .val (.int ((p2 &&& (2147483647 : Int32)) % (3 : Int32))), .val (.double (FP.ddiv (FP.i2d p1) (4786511204640096256 : UInt64))), .second, .val (.int (1 : Int32))]) rfl ?_
    show Steps p.tables e below (s₁.setTop (mkF m 112 #[.val (.int p1), .val (.int p2), .val (.int ((p2 &&& (2147483647 : Int32)) % (3 : Int32))), .val (.double (FP.ddiv (FP.i2d p1) (4786511204640096256 : UInt64))), .second, .val (.int (1 : Int32))] [])) _
    refine XS.dloadN X0.here hx rfl (hb hby at_112) rfl ?_
    show Steps p.tables e below (s₁.setTop (mkF m 113 #[.val (.int p1), .val (.int p2), .val (.int ((p2 &&& (2147483647 : Int32)) % (3 : Int32))), .val (.double (FP.ddiv (FP.i2d p1) (4786511204640096256 : UInt64))), .second, .val (.int (1 : Int32))] [(.double (FP.ddiv (FP.i2d p1) (4786511204640096256 : UInt64)))])) _
    refine st3 _ ?_
    show Steps p.tables e below (T3.setTop (mkF m 116 #[.val (.int p1), .val (.int p2), .val (.int ((p2 &&& (2147483647 : Int32)) % (3 : Int32))), .val (.double (FP.ddiv (FP.i2d p1) (4786511204640096256 : UInt64))), .second, .val (.int (1 : Int32))] [(.int (1 : Int32))])) _
    refine XS.iload X3.here hx rfl (hb hby at_116) rfl ?_
    show Steps p.tables e below (T3.setTop (mkF m 118 #[.val (.int p1), .val (.int p2), .val (.int ((p2 &&& (2147483647 : Int32)) % (3 : Int32))), .val (.double (FP.ddiv (FP.i2d p1) (4786511204640096256 : UInt64))), .second, .val (.int (1 : Int32))] [(.int (1 : Int32)), (.int (1 : Int32))])) _
    refine XS.icmpNo X3.here hx rfl (hb hby at_118) rfl (teq (by decide : (1 : Int32) = (1 : Int32))).2 ?_
    show Steps p.tables e below (T3.setTop (mkF m 121 #[.val (.int p1), .val (.int p2), .val (.int ((p2 &&& (2147483647 : Int32)) % (3 : Int32))), .val (.double (FP.ddiv (FP.i2d p1) (4786511204640096256 : UInt64))), .second, .val (.int (1 : Int32))] [])) _
    refine XS.iconst X3.here hx rfl (hb hby at_121) ?_
    show Steps p.tables e below (T3.setTop (mkF m 122 #[.val (.int p1), .val (.int p2), .val (.int ((p2 &&& (2147483647 : Int32)) % (3 : Int32))), .val (.double (FP.ddiv (FP.i2d p1) (4786511204640096256 : UInt64))), .second, .val (.int (1 : Int32))] [(.int (1 : Int32))])) _
    refine XS.goto X3.here hx rfl (pc0 := 122) (pc' := 126) rfl (hb hby at_122) (by decide) (by decide) ?_
    show Steps p.tables e below (T3.setTop (mkF m 126 #[.val (.int p1), .val (.int p2), .val (.int ((p2 &&& (2147483647 : Int32)) % (3 : Int32))), .val (.double (FP.ddiv (FP.i2d p1) (4786511204640096256 : UInt64))), .second, .val (.int (1 : Int32))] [(.int (1 : Int32))])) _
    exact retN X3 hx (t := .boolean) Bd.returns (by simp) (hb hby at_126) hr
  · show Q0h Z p1 p2 h0 n0 _ T3.heap _
    exact ⟨rfl, N3⟩
set_option maxRecDepth 65536 in
set_option maxHeartbeats 40000000 in
theorem comes_1 {Post : Tables → Env → Array Value → State → Outcome → State → Prop} (hpost : ∀ tb e args s v u, (limb_1_1.after args s (.returned v) u = true ∧ limb_1_2.after args s (.returned v) u = true ∧ True) → FrameEnd s (.returned v) u (Jvm.fieldLocs frame_1_writes args s ++ Jvm.arrayLocs frame_1_arrays args s ++ Jvm.staticLocs frame_1_statics s) 0 0 → Post tb e args s (.returned v) u) :
    ArmFor flags0 classFile x code maxLocals ret World_1 tables_1 room_1 Calls_1 rest_1 Pre_1 Post := by
  intro l hfl _ _ p e ha hc hk s m args below hf hA hF happ hP
  obtain ⟨hcalls, hrest, hpre⟩ := hP
  obtain ⟨-, -, -, hnamed, -, -, -, hat⟩ := (Spec.applies_iff hf).mp happ
  obtain ⟨hg, hn⟩ := and_e (Cond.before_iff.mp (show (Jvm.Cond.and given_1 narrow_1).before args s = true from hpre))
  obtain ⟨g4, g5⟩ := and_e hg
  obtain ⟨g6, g7⟩ := and_e g5
  obtain ⟨w0, w1, rfl⟩ : ∃ w0 w1 : Value, args = #[w0, w1] := by
    have hs : args.size = 2 := by simpa [Cond.value, given_1] using g4
    obtain ⟨L⟩ := args
    match L, hs with
    | [w0, w1], _ => exact ⟨w0, w1, rfl⟩
  have hw := fun d (hd : d ∈ tables_1) => atoms_spec (ws := Jvm.Cond.code x code maxLocals ret :: tables_1) hat d (List.mem_cons_of_mem _ hd)
  have hfit : Fit s := fun {y c} hc i hi => by
    obtain ⟨ha, rfl⟩ := Array.getElem?_eq_some_iff.mp hc
    have q := List.all_eq_true.mp ((Array.all_eq_true_iff_forall_mem.mp hF) _ (Array.getElem_mem ha)) i (List.mem_range.mpr hi)
    simpa [Array.getElem?_eq_getElem hi] using q
  obtain ⟨i0, ei0⟩ := is_v g6
  obtain rfl : w0 = (.int i0) := Option.some.inj ei0
  obtain ⟨i1, ei1⟩ := is_v g7
  obtain rfl : w1 = (.int i1) := Option.some.inj ei1
  have one : (1 : Int32).toInt = 1 := by decide
  have k6 : (1000000 : Int32).toInt = 1000000 := by decide
  have k26 : (2000000 : Int32).toInt = 2000000 := by decide
  by_cases c8 : ((i1 &&& (2147483647 : Int32)) % (3 : Int32)) = (0 : Int32)
  · have hm := own_m0 i0
    by_cases c16 : i0 < (1 : Int32)
    · have hi : ¬ own_in (FP.i2d i0) := fun h => by have := hm.mp h; rw [Int32.lt_iff_toInt_lt] at c16; omega
      obtain ⟨n, o, h1, h2, h3, _, L, rfl, ⟨rfl, N⟩, hq⟩ := rm0a l s _ hw tables_1 i0 i1 s.heap s.heap.size (Nat.le_refl _) hi c8 c16 p e ha hc hk s m _ below hf ((Spec.applies_iff_loose hf).mp happ).1 ⟨rfl, State.Warmed39.refl s, rfl⟩ trivial
      refine ⟨n, _, h1, h2, h3, hpost _ _ _ _ _ _ ⟨Cond.after_iff.mpr rfl, Cond.after_iff.mpr (eq_i res_at (Term.int_eval (1)) rfl), trivial⟩ ⟨hq.1, hq.2.1, (hq.2.2.sift fun y hy => Or.inr (N y hy)).mono (by decide) (by decide)⟩⟩
    by_cases c22 : (1000000 : Int32) < i0
    · have hi : ¬ own_in (FP.i2d i0) := fun h => by have := hm.mp h; rw [Int32.lt_iff_toInt_lt] at c22; omega
      obtain ⟨n, o, h1, h2, h3, _, L, rfl, ⟨rfl, N⟩, hq⟩ := rm0b l s _ hw tables_1 i0 i1 s.heap s.heap.size (Nat.le_refl _) hi c8 c16 c22 p e ha hc hk s m _ below hf ((Spec.applies_iff_loose hf).mp happ).1 ⟨rfl, State.Warmed39.refl s, rfl⟩ trivial
      refine ⟨n, _, h1, h2, h3, hpost _ _ _ _ _ _ ⟨Cond.after_iff.mpr rfl, Cond.after_iff.mpr (eq_i res_at (Term.int_eval (1)) rfl), trivial⟩ ⟨hq.1, hq.2.1, (hq.2.2.sift fun y hy => Or.inr (N y hy)).mono (by decide) (by decide)⟩⟩
    · have hi : own_in (FP.i2d i0) := hm.mpr (by rw [Int32.lt_iff_toInt_lt] at c16 c22; omega)
      obtain ⟨n, o, h1, h2, h3, _, L, rfl, ⟨rfl, N⟩, hq⟩ := rm0c l s _ hw tables_1 i0 i1 s.heap s.heap.size (Nat.le_refl _) hi c8 c16 c22 p e ha hc hk s m _ below hf ((Spec.applies_iff_loose hf).mp happ).1 ⟨rfl, State.Warmed39.refl s, rfl⟩ trivial
      refine ⟨n, _, h1, h2, h3, hpost _ _ _ _ _ _ ⟨Cond.after_iff.mpr rfl, Cond.after_iff.mpr (eq_i res_at (Term.int_eval (1)) rfl), trivial⟩ ⟨hq.1, hq.2.1, (hq.2.2.sift fun y hy => Or.inr (N y hy)).mono (by decide) (by decide)⟩⟩
  by_cases c49 : ((i1 &&& (2147483647 : Int32)) % (3 : Int32)) = (1 : Int32)
  · have hm := own_m1 i0
    have hnn := Jvm.Free.Fl.val64_no.mpr (own_m1_nn i0)
    by_cases c16 : i0 < (1 : Int32)
    · have hi : ¬ own_in (FP.ddiv (FP.i2d i0) (4611686018427387904 : UInt64)) := fun h => by have := hm.mp h; rw [Int32.lt_iff_toInt_lt] at c16; omega
      obtain ⟨n, o, h1, h2, h3, _, L, rfl, ⟨rfl, N⟩, hq⟩ := rm0d l s _ hw tables_1 i0 i1 s.heap s.heap.size (Nat.le_refl _) hi c8 c49 hnn c16 p e ha hc hk s m _ below hf ((Spec.applies_iff_loose hf).mp happ).1 ⟨rfl, State.Warmed39.refl s, rfl⟩ trivial
      refine ⟨n, _, h1, h2, h3, hpost _ _ _ _ _ _ ⟨Cond.after_iff.mpr rfl, Cond.after_iff.mpr (eq_i res_at (Term.int_eval (1)) rfl), trivial⟩ ⟨hq.1, hq.2.1, (hq.2.2.sift fun y hy => Or.inr (N y hy)).mono (by decide) (by decide)⟩⟩
    by_cases c22 : (2000000 : Int32) < i0
    · have hi : ¬ own_in (FP.ddiv (FP.i2d i0) (4611686018427387904 : UInt64)) := fun h => by have := hm.mp h; rw [Int32.lt_iff_toInt_lt] at c22; omega
      obtain ⟨n, o, h1, h2, h3, _, L, rfl, ⟨rfl, N⟩, hq⟩ := rm0e l s _ hw tables_1 i0 i1 s.heap s.heap.size (Nat.le_refl _) hi c8 c49 hnn c16 c22 p e ha hc hk s m _ below hf ((Spec.applies_iff_loose hf).mp happ).1 ⟨rfl, State.Warmed39.refl s, rfl⟩ trivial
      refine ⟨n, _, h1, h2, h3, hpost _ _ _ _ _ _ ⟨Cond.after_iff.mpr rfl, Cond.after_iff.mpr (eq_i res_at (Term.int_eval (1)) rfl), trivial⟩ ⟨hq.1, hq.2.1, (hq.2.2.sift fun y hy => Or.inr (N y hy)).mono (by decide) (by decide)⟩⟩
    · have hi : own_in (FP.ddiv (FP.i2d i0) (4611686018427387904 : UInt64)) := hm.mpr (by rw [Int32.lt_iff_toInt_lt] at c16 c22; omega)
      obtain ⟨n, o, h1, h2, h3, _, L, rfl, ⟨rfl, N⟩, hq⟩ := rm0f l s _ hw tables_1 i0 i1 s.heap s.heap.size (Nat.le_refl _) hi c8 c49 hnn c16 c22 p e ha hc hk s m _ below hf ((Spec.applies_iff_loose hf).mp happ).1 ⟨rfl, State.Warmed39.refl s, rfl⟩ trivial
      refine ⟨n, _, h1, h2, h3, hpost _ _ _ _ _ _ ⟨Cond.after_iff.mpr rfl, Cond.after_iff.mpr (eq_i res_at (Term.int_eval (1)) rfl), trivial⟩ ⟨hq.1, hq.2.1, (hq.2.2.sift fun y hy => Or.inr (N y hy)).mono (by decide) (by decide)⟩⟩
  have hm := own_m2 i0
  have hnn := Jvm.Free.Fl.val64_no.mpr (own_m2_nn i0)
  by_cases c16 : i0 < (1000000 : Int32)
  · have hi : ¬ own_in (FP.ddiv (FP.i2d i0) (4786511204640096256 : UInt64)) := fun h => by have := hm.mp h; rw [Int32.lt_iff_toInt_lt] at c16; omega
    obtain ⟨n, o, h1, h2, h3, _, L, rfl, ⟨rfl, N⟩, hq⟩ := rm0g l s _ hw tables_1 i0 i1 s.heap s.heap.size (Nat.le_refl _) hi c8 c49 hnn c16 p e ha hc hk s m _ below hf ((Spec.applies_iff_loose hf).mp happ).1 ⟨rfl, State.Warmed39.refl s, rfl⟩ trivial
    refine ⟨n, _, h1, h2, h3, hpost _ _ _ _ _ _ ⟨Cond.after_iff.mpr rfl, Cond.after_iff.mpr (eq_i res_at (Term.int_eval (1)) rfl), trivial⟩ ⟨hq.1, hq.2.1, (hq.2.2.sift fun y hy => Or.inr (N y hy)).mono (by decide) (by decide)⟩⟩
  · have hi : own_in (FP.ddiv (FP.i2d i0) (4786511204640096256 : UInt64)) := hm.mpr (by rw [Int32.lt_iff_toInt_lt] at c16; omega)
    obtain ⟨n, o, h1, h2, h3, _, L, rfl, ⟨rfl, N⟩, hq⟩ := rm0h l s _ hw tables_1 i0 i1 s.heap s.heap.size (Nat.le_refl _) hi c8 c49 hnn c16 p e ha hc hk s m _ below hf ((Spec.applies_iff_loose hf).mp happ).1 ⟨rfl, State.Warmed39.refl s, rfl⟩ trivial
    refine ⟨n, _, h1, h2, h3, hpost _ _ _ _ _ _ ⟨Cond.after_iff.mpr rfl, Cond.after_iff.mpr (eq_i res_at (Term.int_eval (1)) rfl), trivial⟩ ⟨hq.1, hq.2.1, (hq.2.2.sift fun y hy => Or.inr (N y hy)).mono (by decide) (by decide)⟩⟩
theorem main_1_1 : Claimed_1_1 := comes_1 fun _ _ _ _ _ _ h hF => ⟨h.1, hF⟩
theorem main_1_2 : Claimed_1_2 := comes_1 fun _ _ _ _ _ _ h hF => ⟨h.2.1, hF⟩
end Jvm.Pilot.@@N@@
namespace Jvm.Pilot.@@N@@
open Jvm Jvm.ClassFile Sem Op Lib Jvm.Free Jvm.Stand Jvm.Pilot.@@N@@.Jvm.D
/-! MADE BY PROGRAM (witnessworld.py) out of the Statement's table words and the real class files: 9 classes; the members and pool entries that the words name. The judged class is class 1, her method 1. -/
namespace start1
open Jvm.ClassFile
def u (s : String) : CpInfo := .utf8 (stringToUtf16 s)
/-- a pool by its gaps: so many unusable entries, then the entry; so many at the end -/
def gap : Nat → List CpInfo → List CpInfo
  | 0, r => r
  | n + 1, r => .unusable :: gap n r
def poolList (es : List (Nat × CpInfo)) (last : Nat) : List CpInfo := es.foldr (fun e r => gap e.1 (e.2 :: r)) (gap last [])
def pool (es : List (Nat × CpInfo)) (last : Nat) : Array CpInfo := ⟨poolList es last⟩
def fileOf (pool : Array CpInfo) (this : Nat) (attrs : Array Attribute := #[]) (ms : Array MethodInfo := #[]) (fl : Nat := 33) (sup : Nat := 0) (ifs : Array Nat := #[]) (fds : Array FieldInfo := #[]) : ClassFile where
  minorVersion := 0
  majorVersion := 65
  constantPool := pool
  accessFlags := fl
  thisClass := this
  superClass := sup
  interfaces := ifs
  fields := fds
  methods := ms
  attributes := attrs
def plain (name : String) (sup : Option ClassId) : Class where
  name := name
  kind := .ordinary
  loader := none
  accessFlags := 33
  super := sup
  interfaces := #[]
  cf := none
  fields := #[]
  methods := #[]
  instanceTypes := #[]
  staticTypes := #[]
  resolved := #[]
  callSites := []
  init := .initialized
  statics := none
  mirror := none

def pool0 : Array CpInfo := pool [(5, u "<init>"), (0, u "()V"), (1, .class_ 10), (1, u "java/lang/Object")] 113

def k0m0 : Method := { name := "<init>", desc := "()V", sig := { parameters := [], returnType := none }, accessFlags := 1, code := none }
/-- java/lang/Object -/
def k0 : Class := { plain "java/lang/Object" none with
  accessFlags := 33
  interfaces := #[]
  cf := some (fileOf pool0 8 #[] #[{ accessFlags := 1, nameIndex := 5, descriptorIndex := 6, attributes := #[] }] 33 0 #[] #[])
  fields := #[]
  methods := #[k0m0]
  instanceTypes := #[]
  staticTypes := #[]
  resolved := Array.replicate 124 none
  statics := none }

def pool1 : Array CpInfo := pool [(2, .class_ 4), (1, u "java/lang/Object"), (0, u "<init>"), (0, u "()V"), (0, .integer 2147483647), (0, .integer 1000000), (0, .methodref 10 11), (0, .class_ 12), (0, .nameAndType 13 14), (0, u "com/example/anamnesis/anamnesis/engine/WeightRange"), (0, u "contains"), (0, u "(D)Z"), (0, .double 4611686018427387904), (1, .integer 2000000), (0, .double 4786511204640096256), (1, .class_ 21), (0, u "com/example/anamnesis/anamnesis/engine/WeightRangeContainsPinLaw"), (2, u "law"), (0, u "(II)Z")] 3

def k1m0 : Method := { name := "<init>", desc := "()V", sig := { parameters := [], returnType := none }, accessFlags := 2, code := none }
def k1c1 : Code := { maxStack := 4, maxLocals := 6, code := code, exceptionTable := #[], attributes := #[] }
def k1m1 : Method := { name := "law", desc := "(II)Z", sig := { parameters := [.int, .int], returnType := some .boolean }, accessFlags := 9, code := some k1c1 }
/-- com/example/anamnesis/anamnesis/engine/WeightRangeContainsPinLaw -/
def k1 : Class := { plain "com/example/anamnesis/anamnesis/engine/WeightRangeContainsPinLaw" (some 0) with
  accessFlags := 49
  interfaces := #[]
  cf := some (fileOf pool1 20 #[] #[{ accessFlags := 2, nameIndex := 5, descriptorIndex := 6, attributes := #[] }, { accessFlags := 9, nameIndex := 24, descriptorIndex := 25, attributes := #[] }] 49 2 #[] #[])
  fields := #[]
  methods := #[k1m0, k1m1]
  instanceTypes := #[]
  staticTypes := #[]
  resolved := Array.replicate 29 none
  statics := none }

def pool2 : Array CpInfo := pool [(2, .class_ 4), (1, u "java/lang/Object"), (0, u "<init>"), (0, u "()V"), (0, .class_ 8), (0, u "com/example/anamnesis/anamnesis/engine/WeightRange"), (0, .double 4517329193108106637), (1, .double 4696837146684686336), (13, u "TEXT"), (0, u "Ljava/lang/String;"), (0, u "MIN"), (0, u "D"), (1, u "MAX"), (2, u "contains"), (0, u "(D)Z")] 19

def k2m0 : Method := { name := "<init>", desc := "()V", sig := { parameters := [], returnType := none }, accessFlags := 2, code := none }
def k2c1 : Code := { maxStack := 4, maxLocals := 2, code := prog_13_method_2_code, exceptionTable := #[], attributes := #[] }
def k2m1 : Method := { name := "contains", desc := "(D)Z", sig := { parameters := [.double], returnType := some .boolean }, accessFlags := 9, code := some k2c1 }
/-- com/example/anamnesis/anamnesis/engine/WeightRange -/
def k2 : Class := { plain "com/example/anamnesis/anamnesis/engine/WeightRange" (some 0) with
  accessFlags := 49
  interfaces := #[]
  cf := some (fileOf pool2 7 #[] #[{ accessFlags := 2, nameIndex := 5, descriptorIndex := 6, attributes := #[] }, { accessFlags := 9, nameIndex := 33, descriptorIndex := 34, attributes := #[] }] 49 2 #[] #[{ accessFlags := 25, nameIndex := 27, descriptorIndex := 28, attributes := #[] }, { accessFlags := 25, nameIndex := 30, descriptorIndex := 28, attributes := #[] }, { accessFlags := 25, nameIndex := 25, descriptorIndex := 26, attributes := #[] }])
  fields := #[{ name := "MIN", type := .double, accessFlags := 25, slot := 0, constantValue := 0 }, { name := "MAX", type := .double, accessFlags := 25, slot := 1, constantValue := 0 }, { name := "TEXT", type := (.object "java/lang/String"), accessFlags := 25, slot := 2, constantValue := 0 }]
  methods := #[k2m0, k2m1]
  instanceTypes := #[]
  staticTypes := #[.double, .double, (.object "java/lang/String")]
  resolved := Array.replicate 54 none
  statics := none }

def pool3 : Array CpInfo := pool [(1, u "java/lang/Cloneable"), (0, .class_ 1), (0, u "java/lang/Object"), (0, .class_ 3)] 3

/-- java/lang/Cloneable -/
def k3 : Class := { plain "java/lang/Cloneable" (some 0) with
  accessFlags := 1537
  interfaces := #[]
  cf := some (fileOf pool3 2 #[] #[] 1537 4 #[] #[])
  fields := #[]
  methods := #[]
  instanceTypes := #[]
  staticTypes := #[]
  resolved := Array.replicate 8 none
  statics := none }

def pool4 : Array CpInfo := pool [(1, u "java/io/Serializable"), (0, .class_ 1), (0, u "java/lang/Object"), (0, .class_ 3)] 3

/-- java/io/Serializable -/
def k4 : Class := { plain "java/io/Serializable" (some 0) with
  accessFlags := 1537
  interfaces := #[]
  cf := some (fileOf pool4 2 #[] #[] 1537 4 #[] #[])
  fields := #[]
  methods := #[]
  instanceTypes := #[]
  staticTypes := #[]
  resolved := Array.replicate 8 none
  statics := none }

/-- the primitive byte -/
def k5 : Class := { plain "byte" none with kind := .primitive 'B', accessFlags := 0x411 }
/-- [B -/
def k6 : Class := { plain "[B" (some 0) with kind := .array 5 .byte, interfaces := #[3, 4], accessFlags := 1041 }

/-- the primitive int -/
def k7 : Class := { plain "int" none with kind := .primitive 'I', accessFlags := 0x411 }
/-- [I -/
def k8 : Class := { plain "[I" (some 0) with kind := .array 7 .int, interfaces := #[3, 4], accessFlags := 1041 }

def heap : Heap := #[]
def classes : Array Class := #[k0, k1, k2, k3, k4, k5, k6, k7, k8]
def interned : List (Array UInt16 × Addr) := []
def slotsUsed : Nat := 0
def theMethod : MethodId := ⟨1, 1⟩
def args0 : Array Value := #[.int 5, .int 1]
def aboutOver (below : List Frame) : State where
  vm := { classes := classes, interned := interned.toArray }
  heap := heap
  slotsUsed := slotsUsed
  threads := #[{ frames := .invoking theMethod args0 :: below }]
def below0 : List Frame := [.native { method := ⟨0, 0⟩, args := #[] }]
def about1 : State := aboutOver below0
def p0 : Program := .bare "" "" ""
def e0 : Env := launch0.env 0 0 0
theorem w_frames : about1.frames = Frame.invoking theMethod args0 :: below0 := rfl
set_option maxRecDepth 65536 in
theorem w_args : argsFit about1.vm theMethod args0 = true := by decide +kernel
set_option maxRecDepth 65536 in
theorem w_heap : heapFits about1 = true := by decide +kernel
set_option maxRecDepth 65536 in
theorem w_runnable : about1.curStatus? = some .runnable := by decide +kernel
set_option maxRecDepth 65536 in
theorem w_alone : about1.alone = true := by decide +kernel
set_option maxRecDepth 65536 in
theorem w_named : about1.methodNamed? x = some theMethod := by decide +kernel
set_option maxRecDepth 65536 in
theorem w_hears : about1.hears theMethod below0 = true := by decide +kernel
set_option maxRecDepth 65536 in
theorem w_ripe : about1.ripe theMethod args0 below0 = true := by decide +kernel
theorem w_running : about1.status = .running := rfl
set_option maxRecDepth 65536 in
theorem w_room : about1.hasRoom e0.platform room_1 = true :=
  launch0.hasRoom_least _ room_1 (by decide +kernel) (by decide +kernel) (by decide +kernel) (by decide +kernel) (by decide +kernel) (by decide +kernel)
theorem allAtoms_all (ts : List Jvm.Cond) (a : Array Jvm.Value) (st : Jvm.State) : (allAtoms ts).before a st = ts.all (fun c => c.before a st) := by
  induction ts with
  | nil => rfl
  | cons c t ih =>
    show (Jvm.Cond.and c (allAtoms t)).before a st = _
    rw [Jvm.Cond.before_and, ih, List.all_cons]
def words1 : List Jvm.Cond := Jvm.Cond.code x code maxLocals ret :: tables_1
/-- a 'code' word, met by the world's own term for the bytes: nothing is compared byte by byte -/
theorem code_word {y : MethodName} {bytes : ByteArray} {mx : Nat} {rt : Option FieldType} {a : Array Value} {s : State} {m : MethodId} {meth : Method} {c : Code} (h1 : s.methodNamed? y = some m) (h2 : s.vm.method? m = some meth) (h3 : meth.code = some c) (h4 : c.code = bytes)
    (h5 : (c.maxLocals == mx && c.exceptionTable.isEmpty && decide (c.maxStack ≤ mostOperands) && decide (meth.sig.returnType = rt) && !meth.locks && decide (parseMethodDescriptor y.desc = some meth.sig)) = true) : (Jvm.Cond.code y bytes mx rt).before a s = true := by
  simp only [Bool.and_eq_true, beq_iff_eq, Bool.not_eq_true', decide_eq_true_eq] at h5
  obtain ⟨⟨⟨⟨⟨g1, g2⟩, g3⟩, g4⟩, g5⟩, g6⟩ := h5
  simp [Cond.before, Cond.holds, Cond.value, h1, h2, h3, h4, g1, g2, g3, g4, g5, g6]
def isCode : Jvm.Cond → Bool
  | .code _ _ _ _ => true
  | _ => false
theorem all_split {L : List Jvm.Cond} {P : Jvm.Cond → Bool} (h1 : L.all (fun c => isCode c || P c) = true) (h2 : ∀ c ∈ L.filter isCode, P c = true) : L.all P = true := by
  refine List.all_eq_true.mpr fun c hc => ?_
  have h := List.all_eq_true.mp h1 c hc
  rcases Bool.eq_false_or_eq_true (isCode c) with hi | hi
  · exact h2 c (List.mem_filter.mpr ⟨hc, hi⟩)
  · simpa [hi] using h
set_option maxRecDepth 65536 in
theorem w_c0 : (Jvm.Cond.code x code maxLocals ret).before args0 about1 = true := code_word (m := ⟨1, 1⟩) (meth := k1m1) (c := k1c1) (by decide +kernel) rfl rfl rfl (by decide +kernel)
set_option maxRecDepth 65536 in
theorem w_c1 : (Jvm.Cond.code ({ cls := "com/example/anamnesis/anamnesis/engine/WeightRange", name := "contains", desc := "(D)Z" } : Jvm.MethodName) prog_13_method_2_code (2 : Nat) (Option.some Jvm.ClassFile.FieldType.boolean)).before args0 about1 = true := code_word (m := ⟨2, 1⟩) (meth := k2m1) (c := k2c1) (by decide +kernel) rfl rfl rfl (by decide +kernel)
def codes1 : List Jvm.Cond := [Jvm.Cond.code x code maxLocals ret, Jvm.Cond.code ({ cls := "com/example/anamnesis/anamnesis/engine/WeightRange", name := "contains", desc := "(D)Z" } : Jvm.MethodName) prog_13_method_2_code (2 : Nat) (Option.some Jvm.ClassFile.FieldType.boolean)]
set_option maxRecDepth 65536 in
theorem codes_eq : words1.filter isCode = codes1 := rfl
theorem w_codes : ∀ c ∈ words1.filter isCode, c.before args0 about1 = true := by
  rw [codes_eq]
  intro c hc
  simp only [codes1, List.mem_cons, List.not_mem_nil, or_false] at hc
  rcases hc with rfl | rfl
  · exact w_c0
  · exact w_c1
set_option maxRecDepth 65536 in
theorem w_t1 : words1.all (fun c => isCode c || c.before args0 about1) = true := by decide +kernel
theorem w_tables : (allAtoms (Jvm.Cond.code x code maxLocals ret :: tables_1)).before args0 about1 = true := by
  rw [allAtoms_all]
  show words1.all (fun c => c.before args0 about1) = true
  refine all_split ?_ w_codes
  rw [w_t1]
set_option maxRecDepth 65536 in
theorem w_case : (Jvm.Cond.and given_1 narrow_1).before args0 about1 = true := by decide +kernel
theorem w_applies : (headSpec (Jvm.Cond.code x code maxLocals ret :: tables_1) room_1).applies x e0.platform about1 = true :=
  (Spec.applies_iff w_frames).mpr ⟨w_running, w_runnable, w_alone, w_named, w_hears, w_ripe, w_room, w_tables⟩
theorem atStart : AtStart classFile x code maxLocals ret World_1 tables_1 room_1 Calls_1 rest_1 Pre_1 launch0 p0 e0 about1 theMethod args0 below0 :=
  ⟨lists_1, trivial, launch0.admits_env _ _ _, launch0.least_env, fairChoices_fair.cas, fairChoices_fair.clock, w_frames, w_args, w_heap, w_applies, trivial, trivial, w_case⟩
end start1
theorem witness_1 : WitnessClaimed_1 := ⟨start1.p0, start1.e0, start1.about1, start1.theMethod, start1.args0, start1.below0, start1.atStart⟩
end Jvm.Pilot.@@N@@
