import JvmDerived
import JvmDerived.Pilot.@@N@@Statement
import JvmDerived.Pilot.@@N@@Code
set_option linter.unusedVariables false
set_option linter.unusedSimpArgs false
namespace Jvm.RoadKit
open Sem ClassFile Op Lib Jvm.Stand Jvm.Free Jvm.LawKit
section New
variable {p : Program} {l : Launch} {e : Env} {R : Room} {s : State} {m : MethodId} {args : Array Value} {below : List Frame} {meth : Method} {c : Code} {T : State} {locs : List Loc} {cells slots : Nat}
theorem retI (X : Stand p l e R s m args below meth c T locs cells slots) (hx : p.tables.exec = Jvm.exec) {pc : Nat} {Ls : Array Slot} {z : Int32} {rest : List Value} (hret : meth.sig.returnType = some .int) (hd : decode c.code pc = .ok (.ireturn, 1)) {fs : List Frame}
    (hl : ∀ (f : JFrame) (acts : List Action), f.method = m → f.locked = none → f.entered = [] → (doReturn e (T.setTop f) acts (some (.int z))).1 = T.setFrames fs) : Steps p.tables e below (T.setTop (mkF m pc Ls (.int z :: rest))) (T.setFrames fs) := by
  have hm' : T.vm.method? m = some meth := X.method'
  have hn : narrow .int (.int z) = .int z := rfl
  show Steps p.tables e below (T.setTop { method := m, pc := pc, locals := Ls, stack := _ :: rest, locked := none }) _
  jvm_step X.here [X.here.top, hx, hd, hm', hret, hn]
  first | (intro acts; rw [hl _ acts rfl rfl rfl]) | rw [hl _ _ rfl rfl rfl]
  exact Steps.refl _
end New
end Jvm.RoadKit
namespace Jvm.Pilot.@@N@@
open Jvm Jvm.ClassFile Sem Op Lib Jvm.Free Jvm.Stand Jvm.LawKit Jvm.RoadKit Bundle Jvm.Pilot.@@N@@.Jvm.D

theorem own_sta {args : Array Value} {Z : State} {C n d K : String} (h : (Jvm.Cond.exactly (Term.static C n d) K).value args Z none Z [] = some true) (hi : (Jvm.Cond.initialized C).before args Z = true) (hl : (Jvm.Cond.laysStatic C n d).before args Z = true) : ∃ a, (Term.static C n d).eval args Z none [] Z = some (.ref a) ∧ Sta Z Z.heap C n d (.ref a) ∧ Exa Z Z.heap a K := by
  obtain ⟨a, ev⟩ := exa_v h
  exact ⟨a, ev, Sta.start ev (Or.inr ⟨hi, hl⟩), Exa.start ev h⟩
theorem own_fint {args : Array Value} {Z : State} {t : Term} {a : Addr} {C n d : String} {z : Int32} (ev : t.eval args Z none [] Z = some (.ref a)) (h : (Jvm.Cond.eq (Term.field t C n d) (Term.int z)).value args Z none Z [] = some true) : Fld Z Z.heap a C n d (.int z) := by
  refine Fld.start ?_
  cases hf : Z.fieldOf? a C n d with
  | none => simp [Cond.value, Term.eval, ev, hf] at h
  | some v => cases v <;> simp [Cond.value, Term.eval, ev, hf] at h ⊢; exact h
theorem own_fnull {args : Array Value} {Z : State} {t : Term} {a : Addr} {C n d : String} (ev : t.eval args Z none [] Z = some (.ref a)) (h : (Jvm.Cond.eq (Term.field t C n d) Term.null).value args Z none Z [] = some true) : Fld Z Z.heap a C n d .null := by
  refine Fld.start ?_
  cases hf : Z.fieldOf? a C n d with
  | none => simp [Cond.value, Term.eval, ev, hf] at h
  | some v => cases v <;> simp [Cond.value, Term.eval, ev, hf] at h ⊢
theorem own_fref {args : Array Value} {Z : State} {t : Term} {a : Addr} {C n d K : String} (ev : t.eval args Z none [] Z = some (.ref a)) (h : (Jvm.Cond.exactly (Term.field t C n d) K).value args Z none Z [] = some true) : ∃ x, Fld Z Z.heap a C n d (.ref x) := by
  obtain ⟨x, hx⟩ := exa_v h
  exact ⟨x, Fld.start ((fld_at ev).symm.trans hx)⟩

theorem own_staK {Z : State} {h h' : Heap} {C n d : String} {v : Value} (S : Sta Z h C n d v) (K : Keep h h' []) : Sta Z h' C n d v := by
  obtain ⟨cf, i, k, f, st, cell, h1, h2, h3, h4, h5, r⟩ := S
  exact ⟨cf, i, k, f, st, cell, h1, h2, h3, h4, K.2.1 _ _ h5 nin0, r⟩
theorem own_length {args : Array Value} {Z : State} {t : Term} {a : Addr} {c : Cell} {ty : FieldType} {z : Int32} (ht : t.eval args Z none [] Z = some (.ref a)) (A : Arr Z Z.heap a c ty) (h : (Jvm.Cond.eq (Term.length t) (Term.int z)).value args Z none Z [] = some true) : c.slots.size < 2 ^ 31 ∧ c.slots.size.toInt32 = z := by
  have ha := A.fin (Vm.Alike.refl _)
  by_cases hl : c.slots.size < 2 ^ 31
  · have e := len_f ht ha hl
    have e2 : (Term.int z).eval args Z none [] Z = some (.int z) := rfl
    refine ⟨hl, ?_⟩
    simp only [Cond.value, e, e2] at h
    simpa using h
  · simp [Cond.value, Term.eval, ht, ha, hl] at h
theorem own_elem {args : Array Value} {Z : State} {t u : Term} {a b : Addr} {c : Cell} {ty : FieldType} {j : Int32} (ht : t.eval args Z none [] Z = some (.ref a)) (hu : u.eval args Z none [] Z = some (.ref b)) (A : Arr Z Z.heap a c ty) (hn : ¬ j < 0) (h : (Jvm.Cond.eq (Term.elem t (Term.int j)) u).value args Z none Z [] = some true) : c.slots[j.toNatClampNeg]? = some (.ref b) := by
  have he := elem_f (a := Term.int j) (j := j) ht rfl (A.fin (Vm.Alike.refl _)) hn
  cases hv : c.slots[j.toNatClampNeg]? with
  | none => rw [hv] at he; simp [Cond.value, he] at h
  | some v => rw [hv] at he; cases v <;> simp [Cond.value, he, hu] at h ⊢; exact h
def own_W (Z : State) (h : Heap) (aP aR aD aX aV aE : Addr) (kV : ClassId) (cE : Cell) : Prop :=
  (Sta Z h "com/example/tenacious_courier/tenaciouscourier/model/DeliveryStatus" "PENDING" "Lcom/example/tenacious_courier/tenaciouscourier/model/DeliveryStatus;" (.ref aP) ∧ Sta Z h "com/example/tenacious_courier/tenaciouscourier/model/DeliveryStatus" "RETRYING" "Lcom/example/tenacious_courier/tenaciouscourier/model/DeliveryStatus;" (.ref aR) ∧ Sta Z h "com/example/tenacious_courier/tenaciouscourier/model/DeliveryStatus" "DELIVERED" "Lcom/example/tenacious_courier/tenaciouscourier/model/DeliveryStatus;" (.ref aD) ∧ Sta Z h "com/example/tenacious_courier/tenaciouscourier/model/DeliveryStatus" "DEAD" "Lcom/example/tenacious_courier/tenaciouscourier/model/DeliveryStatus;" (.ref aX) ∧ Sta Z h "com/example/tenacious_courier/tenaciouscourier/model/DeliveryStatus" "$VALUES" "[Lcom/example/tenacious_courier/tenaciouscourier/model/DeliveryStatus;" (.ref aV) ∧ Sta Z h "java/util/ArrayList" "DEFAULTCAPACITY_EMPTY_ELEMENTDATA" "[Ljava/lang/Object;" (.ref aE)) ∧
  (Exa Z h aP "com/example/tenacious_courier/tenaciouscourier/model/DeliveryStatus" ∧ Exa Z h aR "com/example/tenacious_courier/tenaciouscourier/model/DeliveryStatus" ∧ Exa Z h aD "com/example/tenacious_courier/tenaciouscourier/model/DeliveryStatus" ∧ Exa Z h aX "com/example/tenacious_courier/tenaciouscourier/model/DeliveryStatus") ∧
  (Fld Z h aP "com/example/tenacious_courier/tenaciouscourier/model/DeliveryStatus" "waiting" "Z" (.int (1 : Int32)) ∧ Fld Z h aR "com/example/tenacious_courier/tenaciouscourier/model/DeliveryStatus" "waiting" "Z" (.int (1 : Int32)) ∧ Fld Z h aD "com/example/tenacious_courier/tenaciouscourier/model/DeliveryStatus" "waiting" "Z" (.int (0 : Int32)) ∧ Fld Z h aX "com/example/tenacious_courier/tenaciouscourier/model/DeliveryStatus" "waiting" "Z" (.int (0 : Int32))) ∧
  Arv Z h aV kV (.object "com/example/tenacious_courier/tenaciouscourier/model/DeliveryStatus") (4 : Int32) [(.ref aP), (.ref aR), (.ref aD), (.ref aX)] .null ∧ Exa Z h aV "[Lcom/example/tenacious_courier/tenaciouscourier/model/DeliveryStatus;" ∧ Arr Z h aE cE (.object "java/lang/Object") ∧ cE.slots.size = (0 : Int32).toNatClampNeg
theorem own_W_keep {Z : State} {h h' : Heap} {aP aR aD aX aV aE : Addr} {kV : ClassId} {cE : Cell} (w : own_W Z h aP aR aD aX aV aE kV cE) (K : Keep h h' []) : own_W Z h' aP aR aD aX aV aE kV cE := by
  obtain ⟨⟨s1, s2, s3, s4, s5, s6⟩, ⟨e1, e2, e3, e4⟩, ⟨f1, f2, f3, f4⟩, v, ev, ae, hz⟩ := w
  exact ⟨⟨own_staK s1 K, own_staK s2 K, own_staK s3 K, own_staK s4 K, own_staK s5 K, own_staK s6 K⟩, ⟨e1.keep K, e2.keep K, e3.keep K, e4.keep K⟩, ⟨f1.keep K nin0, f2.keep K nin0, f3.keep K nin0, f4.keep K nin0⟩, v.keep K nin0, ev.keep K, ⟨K.2.1 _ _ ae.1 nin0, ae.2⟩, hz⟩
def own_Gr (Z : State) (a1 : Addr) (mc sz : Int32) (h0 : Heap) (n0 : Nat) (v : Option Value) (h : Heap) (L : List Loc) : Prop :=
  ∃ (d : Addr) (k : ClassId), v = some (.ref d) ∧ Fr n0 L ∧ Keep h0 h [a1] ∧ Exa Z h a1 "java/util/ArrayList" ∧ h0.size ≤ d ∧ Fld Z h a1 "java/util/AbstractList" "modCount" "I" (.int mc) ∧ Fld Z h a1 "java/util/ArrayList" "elementData" "[Ljava/lang/Object;" (.ref d) ∧ Fld Z h a1 "java/util/ArrayList" "size" "I" (.int sz) ∧ Arv Z h d k (.object "java/lang/Object") (10 : Int32) [.null, .null, .null, .null, .null, .null, .null, .null, .null, .null] .null ∧ Ovr Z k "java/lang/Object"
def own_A1 (Z : State) (a1 a2 : Addr) (mc : Int32) (r : Option Value) (h0 : Heap) (n0 : Nat) (v : Option Value) (h : Heap) (L : List Loc) : Prop :=
  ∃ (d : Addr) (k : ClassId), v = r ∧ Fr n0 L ∧ Keep h0 h [a1] ∧ Exa Z h a1 "java/util/ArrayList" ∧ h0.size ≤ d ∧ Fld Z h a1 "java/util/AbstractList" "modCount" "I" (.int mc) ∧ Fld Z h a1 "java/util/ArrayList" "elementData" "[Ljava/lang/Object;" (.ref d) ∧ Fld Z h a1 "java/util/ArrayList" "size" "I" (.int (1 : Int32)) ∧ Arv Z h d k (.object "java/lang/Object") (10 : Int32) [(.ref a2), .null, .null, .null, .null, .null, .null, .null, .null, .null] .null ∧ Ovr Z k "java/lang/Object"
def own_A2 (Z : State) (a1 d x0 a2 : Addr) (k : ClassId) (mc : Int32) (r : Option Value) (h0 : Heap) (n0 : Nat) (v : Option Value) (h : Heap) (L : List Loc) : Prop :=
  v = r ∧ Fr n0 L ∧ Keep h0 h [d, a1] ∧ Exa Z h a1 "java/util/ArrayList" ∧ Fld Z h a1 "java/util/AbstractList" "modCount" "I" (.int mc) ∧ Fld Z h a1 "java/util/ArrayList" "elementData" "[Ljava/lang/Object;" (.ref d) ∧ Fld Z h a1 "java/util/ArrayList" "size" "I" (.int (2 : Int32)) ∧ Arv Z h d k (.object "java/lang/Object") (10 : Int32) [(.ref x0), (.ref a2), .null, .null, .null, .null, .null, .null, .null, .null] .null
theorem d5_0 : decode jdk_22_method_1_code 0 = .ok (.aload_n 0, 1) := by decide +kernel
theorem d5_1 : decode jdk_22_method_1_code 1 = .ok (.invokespecial 1, 3) := by decide +kernel
theorem d5_4 : decode jdk_22_method_1_code 4 = .ok (.return_, 1) := by decide +kernel
theorem pn_5 : plainName "java/util/AbstractCollection" = true := by first | (simp [plainName, overriddenIn]; done) | decide +kernel
theorem ef_5 (m : MethodId) (x0 : Addr) : entryFrame m #[(.ref x0)] 1 = mkF m 0 #[.val (.ref x0)] [] := by first | (simp [entryFrame, mkF, argsToLocals, Value.category]; done) | rfl
def Q5 (Z : State) (a1 : Addr) (h0 : Heap) (n0 : Nat) (v : Option Value) (h : Heap) (L : List Loc) : Prop := v = none ∧ Fr n0 L ∧ h = h0
set_option maxRecDepth 65536 in
set_option maxHeartbeats 40000000 in
theorem rm5 (l : Launch) (Z : State) (a0 : Array Value) (hw : ∀ d ∈ tables_1, d.before a0 Z = true) (ws : List Jvm.Cond) (a1 : Addr) (h0 : Heap) (n0 : Nat) (Z0 : n0 ≤ h0.size) :
    MetFree l (⟨"java/util/AbstractCollection", "<init>", "()V"⟩ : MethodName) (head1 (Jvm.Cond.code (⟨"java/util/AbstractCollection", "<init>", "()V"⟩ : MethodName) jdk_22_method_1_code 1 none :: ws) ({ frames := 1, cells := 0, slots := 0, locals := 12 } : Room)) (fun a U => a = #[(.ref a1)] ∧ Z.Warmed39 U.vm ∧ U.heap = h0) (fun _ _ _ _ _ => True) (fun _ U o U' => ∃ v L, o = .returned v ∧ Q5 Z a1 h0 n0 v U'.heap L ∧ FrameEnd U o U' L ({ frames := 1, cells := 0, slots := 0, locals := 12 } : Room).cells ({ frames := 1, cells := 0, slots := 0, locals := 12 } : Room).slots) := by
  refine MetFree.of_bodySF (plainFor_of_name pn_5) hisR ?_
  intro p e s m args below meth c s₁ Bd hml0 hP hK
  obtain ⟨rfl, hZ, hh⟩ := hP
  have hx := Bd.exec
  have hby := Bd.bytes
  have hml : c.maxLocals = 1 := hml0
  have hown : s.vm.findClass "java/util/AbstractCollection" = some m.cls := findClass_of_methodNamed Bd.named
  have hnm := (name_of_methodNamed Bd.named Bd.method).1
  have X0 : Stand p l e ({ frames := 1, cells := 0, slots := 0, locals := 12 } : Room) s m #[(.ref a1)] below meth c s₁ [] 0 0 := Stand.of_body Bd
  have e0 : s₁.heap = h0 := by rw [← hh, Bd.state]; rfl
  have N0 := Fr.nil n0
  have pre0 : ∀ t, Steps p.tables e below (s₁.setTop (mkF m 0 #[.val (.ref a1)] [])) t → Steps p.tables e below (s₁.setTop (entryFrame m #[(.ref a1)] 1)) t := fun t k => castTop (ef_5 m a1) k
  obtain ⟨T2, X2, e2, st2⟩ := initO X0 hx hZ hown (hw _ (List.mem_of_getElem? (i := 28) rfl)) (hw _ (List.mem_of_getElem? (i := 29) rfl)) (hw _ (List.mem_of_getElem? (i := 30) rfl)) e0 (g := (mkF m 1 #[.val (.ref a1)] [(.ref a1)])) rfl (by rw [hml]; rfl) rfl (hb hby d5_1) (by decide) (W := 0) (by show 2 * 0 + _ ≤ _; exact Nat.le_of_eq rfl) (by decide)
  obtain ⟨fs, hr, hrun, hended, hW, hsame⟩ := X2.leave (v := none) (fun _ => rfl)
  refine ⟨_, _, pre0 _ ?_, hrun, hended, _, _, rfl, ?_, ⟨_, rfl⟩, hW, hsame.mono (by decide) (by decide)⟩
  · show Steps p.tables e below (s₁.setTop (mkF m 0 #[.val (.ref a1)] [])) _
    refine XS.aloadN X0.here hx rfl (hb hby d5_0) rfl rfl ?_
    show Steps p.tables e below (s₁.setTop (mkF m 1 #[.val (.ref a1)] [(.ref a1)])) _
    refine st2 _ ?_
    show Steps p.tables e below (T2.setTop (mkF m 4 #[.val (.ref a1)] [])) _
    exact X2.returnOut hx Bd.returns (hb hby d5_4) hr
  · show Q5 Z a1 h0 n0 _ T2.heap _
    rw [e2]
    exact ⟨rfl, N0, rfl⟩
theorem d4_0 : decode jdk_39_method_1_code 0 = .ok (.aload_n 0, 1) := by decide +kernel
theorem d4_1 : decode jdk_39_method_1_code 1 = .ok (.invokespecial 1, 3) := by decide +kernel
theorem d4_4 : decode jdk_39_method_1_code 4 = .ok (.aload_n 0, 1) := by decide +kernel
theorem d4_5 : decode jdk_39_method_1_code 5 = .ok (.iconst 0, 1) := by decide +kernel
theorem d4_6 : decode jdk_39_method_1_code 6 = .ok (.putfield 7, 3) := by decide +kernel
theorem d4_9 : decode jdk_39_method_1_code 9 = .ok (.return_, 1) := by decide +kernel
theorem pn_4 : plainName "java/util/AbstractList" = true := by first | (simp [plainName, overriddenIn]; done) | decide +kernel
theorem pd_4_2 : parseMethodDescriptor "()V" = some ⟨[], none⟩ := by decide +kernel
theorem ef_4 (m : MethodId) (x0 : Addr) : entryFrame m #[(.ref x0)] 1 = mkF m 0 #[.val (.ref x0)] [] := by first | (simp [entryFrame, mkF, argsToLocals, Value.category]; done) | rfl
def Q4 (Z : State) (a1 : Addr) (u_modCount_a1 : Value) (h0 : Heap) (n0 : Nat) (v : Option Value) (h : Heap) (L : List Loc) : Prop := v = none ∧ Fr n0 L ∧ Wr h0 h a1 (Jvm.RoadKit.slotOf Z "java/util/AbstractList" "modCount" "I") (.int (0 : Int32))
set_option maxRecDepth 65536 in
set_option maxHeartbeats 40000000 in
theorem rm4 (l : Launch) (Z : State) (a0 : Array Value) (hw : ∀ d ∈ tables_1, d.before a0 Z = true) (ws : List Jvm.Cond) (a1 : Addr) (u_modCount_a1 : Value) (h0 : Heap) (n0 : Nat) (Z0 : n0 ≤ h0.size) (E_a1 : Exa Z h0 a1 "java/util/ArrayList") (F_modCount_a1 : Fld Z h0 a1 "java/util/AbstractList" "modCount" "I" u_modCount_a1) (g_a1 : n0 ≤ a1) :
    MetFree l (⟨"java/util/AbstractList", "<init>", "()V"⟩ : MethodName) (head1 (Jvm.Cond.code (⟨"java/util/AbstractList", "<init>", "()V"⟩ : MethodName) jdk_39_method_1_code 1 none :: ws) ({ frames := 2, cells := 0, slots := 0, locals := 24 } : Room)) (fun a U => a = #[(.ref a1)] ∧ Z.Warmed39 U.vm ∧ U.heap = h0) (fun _ _ _ _ _ => True) (fun _ U o U' => ∃ v L, o = .returned v ∧ Q4 Z a1 u_modCount_a1 h0 n0 v U'.heap L ∧ FrameEnd U o U' L ({ frames := 2, cells := 0, slots := 0, locals := 24 } : Room).cells ({ frames := 2, cells := 0, slots := 0, locals := 24 } : Room).slots) := by
  refine MetFree.of_bodySF (plainFor_of_name pn_4) hisR ?_
  intro p e s m args below meth c s₁ Bd hml0 hP hK
  obtain ⟨rfl, hZ, hh⟩ := hP
  have hx := Bd.exec
  have hby := Bd.bytes
  have hml : c.maxLocals = 1 := hml0
  have hown : s.vm.findClass "java/util/AbstractList" = some m.cls := findClass_of_methodNamed Bd.named
  have hnm := (name_of_methodNamed Bd.named Bd.method).1
  have X0 : Stand p l e ({ frames := 2, cells := 0, slots := 0, locals := 24 } : Room) s m #[(.ref a1)] below meth c s₁ [] 0 0 := Stand.of_body Bd
  have e0 : s₁.heap = h0 := by rw [← hh, Bd.state]; rfl
  have N0 := Fr.nil n0
  have pre0 : ∀ t, Steps p.tables e below (s₁.setTop (mkF m 0 #[.val (.ref a1)] [])) t → Steps p.tables e below (s₁.setTop (entryFrame m #[(.ref a1)] 1)) t := fun t k => castTop (ef_4 m a1) k
  obtain ⟨_, _, ⟨T2, L2, k2, n2⟩, -, X2, ⟨Lc2, hQ2, l2, y2, z2⟩, st2⟩ := X0.specialBack hx (y := (⟨"java/util/AbstractCollection", "<init>", "()V"⟩ : MethodName)) rfl hown (mvT hZ (hw _ (List.mem_of_getElem? (i := 22) rfl))) (mvT hZ (hw _ (List.mem_of_getElem? (i := 23) rfl))) (mvT hZ (hw _ (List.mem_of_getElem? (i := 27) rfl))) (by decide) (backOf (W := 0) (rm5 l Z a0 hw [] a1 h0 n0 Z0) hZ (hw _ (List.mem_of_getElem? (i := 27) rfl)) (hw _ (List.mem_of_getElem? (i := 26) rfl)) (by decide) (by decide)) (g := (mkF m 1 #[.val (.ref a1)] [(.ref a1)])) rfl (by rw [hml]; rfl) (Steps.refl _) (a := a1) (argsL := []) (rest := []) (lenOf pd_4_2 rfl) rfl (by show 2 * 0 + _ ≤ _; exact Nat.le_of_eq rfl) (hb hby d4_1) (fun _ _ => ⟨rfl, e0, (by decide : 0 + 0 ≤ _), (by decide : 0 + 0 ≤ _)⟩)
  dsimp only [Pt.U, Pt.locs, Pt.cells, Pt.slots] at X2 l2 y2 z2 st2 hQ2
  subst l2 y2 z2
  obtain ⟨rfl, N2q, k2q⟩ := hQ2
  have N2 := Fr.app N0 N2q
  obtain ⟨T3, h3, X3, e3, W3, st3⟩ := putF X2 hx hZ hown (host := "") (Or.inl (hw _ (List.mem_of_getElem? (i := 31) rfl))) Via.refl k2q F_modCount_a1 E_a1 (Or.inl (hw _ (List.mem_of_getElem? (i := 32) rfl))) (hw _ (List.mem_of_getElem? (i := 11) rfl)) (ty := .int) (by decide) rfl rfl (g := (mkF m 6 #[.val (.ref a1)] [(.int (0 : Int32)), (.ref a1)])) rfl rfl (hb hby d4_6)
  have N3 := Fr.snoc X3 N2 g_a1
  obtain ⟨fs, hr, hrun, hended, hW, hsame⟩ := X3.leave (v := none) (fun _ => rfl)
  refine ⟨_, _, pre0 _ ?_, hrun, hended, _, _, rfl, ?_, ⟨_, rfl⟩, hW, hsame.mono (by decide) (by decide)⟩
  · show Steps p.tables e below (s₁.setTop (mkF m 0 #[.val (.ref a1)] [])) _
    refine XS.aloadN X0.here hx rfl (hb hby d4_0) rfl rfl ?_
    show Steps p.tables e below (s₁.setTop (mkF m 1 #[.val (.ref a1)] [(.ref a1)])) _
    refine st2.trans ?_
    show Steps p.tables e below (T2.setTop (mkF m 4 #[.val (.ref a1)] [])) _
    refine XS.aloadN X2.here hx rfl (hb hby d4_4) rfl rfl ?_
    show Steps p.tables e below (T2.setTop (mkF m 5 #[.val (.ref a1)] [(.ref a1)])) _
    refine XS.iconst X2.here hx rfl (hb hby d4_5) ?_
    show Steps p.tables e below (T2.setTop (mkF m 6 #[.val (.ref a1)] [(.int (0 : Int32)), (.ref a1)])) _
    refine st3 _ ?_
    show Steps p.tables e below (T3.setTop (mkF m 9 #[.val (.ref a1)] [])) _
    exact X3.returnOut hx Bd.returns (hb hby d4_9) hr
  · show Q4 Z a1 u_modCount_a1 h0 n0 _ T3.heap _
    rw [e3]
    exact ⟨rfl, N3, W3⟩
theorem d3_0 : decode jdk_38_method_2_code 0 = .ok (.aload_n 0, 1) := by decide +kernel
theorem d3_1 : decode jdk_38_method_2_code 1 = .ok (.invokespecial 1, 3) := by decide +kernel
theorem d3_4 : decode jdk_38_method_2_code 4 = .ok (.aload_n 0, 1) := by decide +kernel
theorem d3_5 : decode jdk_38_method_2_code 5 = .ok (.getstatic 39, 3) := by decide +kernel
theorem d3_8 : decode jdk_38_method_2_code 8 = .ok (.putfield 9, 3) := by decide +kernel
theorem d3_11 : decode jdk_38_method_2_code 11 = .ok (.return_, 1) := by decide +kernel
theorem pn_3 : plainName "java/util/ArrayList" = true := by first | (simp [plainName, overriddenIn]; done) | decide +kernel
theorem pd_3_2 : parseMethodDescriptor "()V" = some ⟨[], none⟩ := by decide +kernel
theorem ef_3 (m : MethodId) (x0 : Addr) : entryFrame m #[(.ref x0)] 1 = mkF m 0 #[.val (.ref x0)] [] := by first | (simp [entryFrame, mkF, argsToLocals, Value.category]; done) | rfl
def Q3 (Z : State) (a1 : Addr) (w3 : Addr) (u_modCount_a1 : Value) (u_elementData_a1 : Value) (h0 : Heap) (n0 : Nat) (v : Option Value) (h : Heap) (L : List Loc) : Prop := v = none ∧ Fr n0 L ∧ Keep h0 h [a1] ∧ Exa Z h a1 "java/util/ArrayList" ∧ Fld Z h a1 "java/util/AbstractList" "modCount" "I" (.int (0 : Int32)) ∧ Fld Z h a1 "java/util/ArrayList" "elementData" "[Ljava/lang/Object;" (.ref w3) ∧ Fld Z h a1 "java/util/ArrayList" "size" "I" (.int (0 : Int32))
set_option maxRecDepth 65536 in
set_option maxHeartbeats 40000000 in
theorem rm3 (l : Launch) (Z : State) (a0 : Array Value) (hw : ∀ d ∈ tables_1, d.before a0 Z = true) (ws : List Jvm.Cond) (a1 : Addr) (w3 : Addr) (u_modCount_a1 : Value) (u_elementData_a1 : Value) (h0 : Heap) (n0 : Nat) (Z0 : n0 ≤ h0.size) (S_DEF : Sta Z h0 "java/util/ArrayList" "DEFAULTCAPACITY_EMPTY_ELEMENTDATA" "[Ljava/lang/Object;" (.ref w3)) (E_a1 : Exa Z h0 a1 "java/util/ArrayList") (F_modCount_a1 : Fld Z h0 a1 "java/util/AbstractList" "modCount" "I" u_modCount_a1) (F_elementData_a1 : Fld Z h0 a1 "java/util/ArrayList" "elementData" "[Ljava/lang/Object;" u_elementData_a1) (F_size_a1 : Fld Z h0 a1 "java/util/ArrayList" "size" "I" (.int (0 : Int32))) (g_a1 : n0 ≤ a1) :
    MetFree l (⟨"java/util/ArrayList", "<init>", "()V"⟩ : MethodName) (head1 (Jvm.Cond.code (⟨"java/util/ArrayList", "<init>", "()V"⟩ : MethodName) jdk_38_method_2_code 1 none :: ws) ({ frames := 3, cells := 0, slots := 0, locals := 36 } : Room)) (fun a U => a = #[(.ref a1)] ∧ Z.Warmed39 U.vm ∧ U.heap = h0) (fun _ _ _ _ _ => True) (fun _ U o U' => ∃ v L, o = .returned v ∧ Q3 Z a1 w3 u_modCount_a1 u_elementData_a1 h0 n0 v U'.heap L ∧ FrameEnd U o U' L ({ frames := 3, cells := 0, slots := 0, locals := 36 } : Room).cells ({ frames := 3, cells := 0, slots := 0, locals := 36 } : Room).slots) := by
  refine MetFree.of_bodySF (plainFor_of_name pn_3) hisR ?_
  intro p e s m args below meth c s₁ Bd hml0 hP hK
  obtain ⟨rfl, hZ, hh⟩ := hP
  have hx := Bd.exec
  have hby := Bd.bytes
  have hml : c.maxLocals = 1 := hml0
  have hown : s.vm.findClass "java/util/ArrayList" = some m.cls := findClass_of_methodNamed Bd.named
  have hnm := (name_of_methodNamed Bd.named Bd.method).1
  have X0 : Stand p l e ({ frames := 3, cells := 0, slots := 0, locals := 36 } : Room) s m #[(.ref a1)] below meth c s₁ [] 0 0 := Stand.of_body Bd
  have e0 : s₁.heap = h0 := by rw [← hh, Bd.state]; rfl
  have N0 := Fr.nil n0
  have pre0 : ∀ t, Steps p.tables e below (s₁.setTop (mkF m 0 #[.val (.ref a1)] [])) t → Steps p.tables e below (s₁.setTop (entryFrame m #[(.ref a1)] 1)) t := fun t k => castTop (ef_3 m a1) k
  obtain ⟨_, _, ⟨T2, L2, k2, n2⟩, -, X2, ⟨Lc2, hQ2, l2, y2, z2⟩, st2⟩ := X0.specialBack hx (y := (⟨"java/util/AbstractList", "<init>", "()V"⟩ : MethodName)) rfl hown (mvT hZ (hw _ (List.mem_of_getElem? (i := 16) rfl))) (mvT hZ (hw _ (List.mem_of_getElem? (i := 17) rfl))) (mvT hZ (hw _ (List.mem_of_getElem? (i := 21) rfl))) (by decide) (backOf (W := 0) (rm4 l Z a0 hw [] a1 u_modCount_a1 h0 n0 Z0 E_a1 F_modCount_a1 g_a1) hZ (hw _ (List.mem_of_getElem? (i := 21) rfl)) (hw _ (List.mem_of_getElem? (i := 20) rfl)) (by decide) (by decide)) (g := (mkF m 1 #[.val (.ref a1)] [(.ref a1)])) rfl (by rw [hml]; rfl) (Steps.refl _) (a := a1) (argsL := []) (rest := []) (lenOf pd_3_2 rfl) rfl (by show 2 * 0 + _ ≤ _; exact Nat.le_of_eq rfl) (hb hby d3_1) (fun _ _ => ⟨rfl, e0, (by decide : 0 + 0 ≤ _), (by decide : 0 + 0 ≤ _)⟩)
  dsimp only [Pt.U, Pt.locs, Pt.cells, Pt.slots] at X2 l2 y2 z2 st2 hQ2
  subst l2 y2 z2
  obtain ⟨rfl, N2q, W2q⟩ := hQ2
  have N2 := Fr.app N0 N2q
  obtain ⟨T4, X4, e4, st4⟩ := getS2 X2 hx hZ hown (host := "") (Or.inl (hw _ (List.mem_of_getElem? (i := 33) rfl))) Via.refl rfl (S_DEF.wr W2q) (g := (mkF m 5 #[.val (.ref a1)] [(.ref a1)])) rfl (hb hby d3_5)
  obtain ⟨T5, h5, X5, e5, W5, st5⟩ := putF X4 hx hZ hown (host := "") (Or.inl (hw _ (List.mem_of_getElem? (i := 34) rfl))) Via.refl e4 (F_elementData_a1.other W2q (Or.inr (slot_ne (Or.inl (hw _ (List.mem_of_getElem? (i := 35) rfl))) (Or.inl (hw _ (List.mem_of_getElem? (i := 32) rfl))) (by decide) (t := (.array (.object "java/lang/Object"))) (t' := .int) (by decide) (by decide)))) (E_a1.wr W2q) (Or.inl (hw _ (List.mem_of_getElem? (i := 35) rfl))) (hw _ (List.mem_of_getElem? (i := 11) rfl)) (ty := (.array (.object "java/lang/Object"))) (by decide) rfl rfl (g := (mkF m 8 #[.val (.ref a1)] [(.ref w3), (.ref a1)])) rfl rfl (hb hby d3_8)
  have Fw5 := (F_elementData_a1.other W2q (Or.inr (slot_ne (Or.inl (hw _ (List.mem_of_getElem? (i := 35) rfl))) (Or.inl (hw _ (List.mem_of_getElem? (i := 32) rfl))) (by decide) (t := (.array (.object "java/lang/Object"))) (t' := .int) (by decide) (by decide)))).same W5
  have N5 := Fr.snoc X5 N2 g_a1
  obtain ⟨fs, hr, hrun, hended, hW, hsame⟩ := X5.leave (v := none) (fun _ => rfl)
  refine ⟨_, _, pre0 _ ?_, hrun, hended, _, _, rfl, ?_, ⟨_, rfl⟩, hW, hsame.mono (by decide) (by decide)⟩
  · show Steps p.tables e below (s₁.setTop (mkF m 0 #[.val (.ref a1)] [])) _
    refine XS.aloadN X0.here hx rfl (hb hby d3_0) rfl rfl ?_
    show Steps p.tables e below (s₁.setTop (mkF m 1 #[.val (.ref a1)] [(.ref a1)])) _
    refine st2.trans ?_
    show Steps p.tables e below (T2.setTop (mkF m 4 #[.val (.ref a1)] [])) _
    refine XS.aloadN X2.here hx rfl (hb hby d3_4) rfl rfl ?_
    show Steps p.tables e below (T2.setTop (mkF m 5 #[.val (.ref a1)] [(.ref a1)])) _
    refine st4 _ ?_
    show Steps p.tables e below (T4.setTop (mkF m 8 #[.val (.ref a1)] [(.ref w3), (.ref a1)])) _
    refine st5 _ ?_
    show Steps p.tables e below (T5.setTop (mkF m 11 #[.val (.ref a1)] [])) _
    exact X5.returnOut hx Bd.returns (hb hby d3_11) hr
  · show Q3 Z a1 w3 u_modCount_a1 u_elementData_a1 h0 n0 _ T5.heap _
    rw [e5]
    exact ⟨rfl, N5, ((Keep.refl h0 [a1]).wr W2q (Or.inl (List.mem_of_getElem? (i := 0) rfl))).wr W5 (Or.inl (List.mem_of_getElem? (i := 0) rfl)), (E_a1.wr W2q).wr W5, (F_modCount_a1.same W2q).other W5 (Or.inr (slot_ne (Or.inl (hw _ (List.mem_of_getElem? (i := 32) rfl))) (Or.inl (hw _ (List.mem_of_getElem? (i := 35) rfl))) (by decide) (t := .int) (t' := (.array (.object "java/lang/Object"))) (by decide) (by decide))), Fw5, (F_size_a1.other W2q (Or.inr (slot_ne (Or.inl (hw _ (List.mem_of_getElem? (i := 68) rfl))) (Or.inl (hw _ (List.mem_of_getElem? (i := 32) rfl))) (by decide) (t := .int) (t' := .int) (by decide) (by decide)))).other W5 (Or.inr (slot_ne (Or.inl (hw _ (List.mem_of_getElem? (i := 68) rfl))) (Or.inl (hw _ (List.mem_of_getElem? (i := 35) rfl))) (by decide) (t := .int) (t' := (.array (.object "java/lang/Object"))) (by decide) (by decide)))⟩
theorem d12_0 : decode jdk_29_method_65_code 0 = .ok (.iload_n 0, 1) := by decide +kernel
theorem d12_1 : decode jdk_29_method_65_code 1 = .ok (.iload_n 1, 1) := by decide +kernel
theorem d12_2 : decode jdk_29_method_65_code 2 = .ok (.if_icmp .lt 7, 3) := by decide +kernel
theorem d12_5 : decode jdk_29_method_65_code 5 = .ok (.iload_n 0, 1) := by decide +kernel
theorem d12_6 : decode jdk_29_method_65_code 6 = .ok (.goto 4, 3) := by decide +kernel
theorem d12_10 : decode jdk_29_method_65_code 10 = .ok (.ireturn, 1) := by decide +kernel
theorem ef_12 (m : MethodId) (x0 : Int32) (x1 : Int32) : entryFrame m #[(.int x0), (.int x1)] 2 = mkF m 0 #[.val (.int x0), .val (.int x1)] [] := by first | (simp [entryFrame, mkF, argsToLocals, Value.category]; done) | rfl
def Q12 (Z : State) (p1 : Int32) (p2 : Int32) (h0 : Heap) (n0 : Nat) (v : Option Value) (h : Heap) (L : List Loc) : Prop := v = some (.int p1) ∧ Fr n0 L ∧ h = h0
set_option maxRecDepth 65536 in
set_option maxHeartbeats 40000000 in
theorem rm12 (l : Launch) (Z : State) (a0 : Array Value) (hw : ∀ d ∈ tables_1, d.before a0 Z = true) (ws : List Jvm.Cond) (p1 : Int32) (p2 : Int32) (h0 : Heap) (n0 : Nat) (Z0 : n0 ≤ h0.size) (hc2 : ¬ (p1 < p2)) :
    MetFree l (⟨"java/lang/Math", "max", "(II)I"⟩ : MethodName) (head1 (Jvm.Cond.code (⟨"java/lang/Math", "max", "(II)I"⟩ : MethodName) jdk_29_method_65_code 2 (some .int) :: ws) ({ frames := 0, cells := 0, slots := 0, locals := 0 } : Room)) (fun a U => a = #[(.int p1), (.int p2)] ∧ Z.Warmed39 U.vm ∧ U.heap = h0) (fun _ _ _ _ _ => True) (fun _ U o U' => ∃ v L, o = .returned v ∧ Q12 Z p1 p2 h0 n0 v U'.heap L ∧ FrameEnd U o U' L ({ frames := 0, cells := 0, slots := 0, locals := 0 } : Room).cells ({ frames := 0, cells := 0, slots := 0, locals := 0 } : Room).slots) := by
  refine MetFree.of_bodySF (Jvm.Free.JP.mathPlain rfl (by decide +kernel)) hisR ?_
  intro p e s m args below meth c s₁ Bd hml0 hP hK
  obtain ⟨rfl, hZ, hh⟩ := hP
  have hx := Bd.exec
  have hby := Bd.bytes
  have hml : c.maxLocals = 2 := hml0
  have hown : s.vm.findClass "java/lang/Math" = some m.cls := findClass_of_methodNamed Bd.named
  have hnm := (name_of_methodNamed Bd.named Bd.method).1
  have X0 : Stand p l e ({ frames := 0, cells := 0, slots := 0, locals := 0 } : Room) s m #[(.int p1), (.int p2)] below meth c s₁ [] 0 0 := Stand.of_body Bd
  have e0 : s₁.heap = h0 := by rw [← hh, Bd.state]; rfl
  have N0 := Fr.nil n0
  have pre0 : ∀ t, Steps p.tables e below (s₁.setTop (mkF m 0 #[.val (.int p1), .val (.int p2)] [])) t → Steps p.tables e below (s₁.setTop (entryFrame m #[(.int p1), (.int p2)] 2)) t := fun t k => castTop (ef_12 m p1 p2) k

  obtain ⟨fs, hr, hrun, hended, hW, hsame⟩ := X0.leave (v := some (.int p1)) (fun h => by rw [Bd.returns] at h; cases h)
  refine ⟨_, _, pre0 _ ?_, hrun, hended, _, _, rfl, ?_, ⟨_, rfl⟩, hW, hsame.mono (by decide) (by decide)⟩
  · show Steps p.tables e below (s₁.setTop (mkF m 0 #[.val (.int p1), .val (.int p2)] [])) _
    refine XS.iloadN X0.here hx rfl (hb hby d12_0) rfl ?_
    show Steps p.tables e below (s₁.setTop (mkF m 1 #[.val (.int p1), .val (.int p2)] [(.int p1)])) _
    refine XS.iloadN X0.here hx rfl (hb hby d12_1) rfl ?_
    show Steps p.tables e below (s₁.setTop (mkF m 2 #[.val (.int p1), .val (.int p2)] [(.int p2), (.int p1)])) _
    refine XS.icmpNo X0.here hx rfl (hb hby d12_2) rfl (flt hc2).1 ?_
    show Steps p.tables e below (s₁.setTop (mkF m 5 #[.val (.int p1), .val (.int p2)] [])) _
    refine XS.iloadN X0.here hx rfl (hb hby d12_5) rfl ?_
    show Steps p.tables e below (s₁.setTop (mkF m 6 #[.val (.int p1), .val (.int p2)] [(.int p1)])) _
    refine XS.goto X0.here hx rfl (pc0 := 6) (pc' := 10) rfl (hb hby d12_6) (by decide) (by decide) ?_
    show Steps p.tables e below (s₁.setTop (mkF m 10 #[.val (.int p1), .val (.int p2)] [(.int p1)])) _
    exact retI X0 hx Bd.returns (hb hby d12_10) hr
  · show Q12 Z p1 p2 h0 n0 _ s₁.heap _
    rw [e0]
    exact ⟨rfl, N0, rfl⟩
theorem d11_0 : decode jdk_38_method_6_code 0 = .ok (.aload_n 0, 1) := by decide +kernel
theorem d11_1 : decode jdk_38_method_6_code 1 = .ok (.getfield 9, 3) := by decide +kernel
theorem d11_4 : decode jdk_38_method_6_code 4 = .ok (.arraylength, 1) := by decide +kernel
theorem d11_5 : decode jdk_38_method_6_code 5 = .ok (.istore_n 2, 1) := by decide +kernel
theorem d11_6 : decode jdk_38_method_6_code 6 = .ok (.iload_n 2, 1) := by decide +kernel
theorem d11_7 : decode jdk_38_method_6_code 7 = .ok (.ifCond .gt 13, 3) := by decide +kernel
theorem d11_10 : decode jdk_38_method_6_code 10 = .ok (.aload_n 0, 1) := by decide +kernel
theorem d11_11 : decode jdk_38_method_6_code 11 = .ok (.getfield 9, 3) := by decide +kernel
theorem d11_14 : decode jdk_38_method_6_code 14 = .ok (.getstatic 39, 3) := by decide +kernel
theorem d11_17 : decode jdk_38_method_6_code 17 = .ok (.if_acmp .eq 28, 3) := by decide +kernel
theorem d11_45 : decode jdk_38_method_6_code 45 = .ok (.aload_n 0, 1) := by decide +kernel
theorem d11_46 : decode jdk_38_method_6_code 46 = .ok (.bipush 10, 2) := by decide +kernel
theorem d11_48 : decode jdk_38_method_6_code 48 = .ok (.iload_n 1, 1) := by decide +kernel
theorem d11_49 : decode jdk_38_method_6_code 49 = .ok (.invokestatic 79, 3) := by decide +kernel
theorem d11_52 : decode jdk_38_method_6_code 52 = .ok (.anewarray 7, 3) := by decide +kernel
theorem d11_55 : decode jdk_38_method_6_code 55 = .ok (.dup_x1, 1) := by decide +kernel
theorem d11_56 : decode jdk_38_method_6_code 56 = .ok (.putfield 9, 3) := by decide +kernel
theorem d11_59 : decode jdk_38_method_6_code 59 = .ok (.areturn, 1) := by decide +kernel
theorem pn_11 : plainName "java/util/ArrayList" = true := by first | (simp [plainName, overriddenIn]; done) | decide +kernel
theorem pd_11_9 : parseMethodDescriptor "(II)I" = some ⟨[.int, .int], some .int⟩ := by decide +kernel
theorem ef_11 (m : MethodId) (x0 : Addr) (x1 : Int32) : entryFrame m #[(.ref x0), (.int x1)] 4 = mkF m 0 #[.val (.ref x0), .val (.int x1), .unset, .unset] [] := by first | (simp [entryFrame, mkF, argsToLocals, Value.category]; done) | rfl
set_option maxRecDepth 65536 in
set_option maxHeartbeats 40000000 in
theorem rm11 (l : Launch) (Z : State) (a0 : Array Value) (hw : ∀ d ∈ tables_1, d.before a0 Z = true) (ws : List Jvm.Cond) (a1 : Addr) (p2 : Int32) (w3 : Addr) (cl_w3 : Cell) (mc : Int32) (sz : Int32) (h0 : Heap) (n0 : Nat) (Z0 : n0 ≤ h0.size) (F_elementData_a1 : Fld Z h0 a1 "java/util/ArrayList" "elementData" "[Ljava/lang/Object;" (.ref w3)) (Ar_w3 : Arr Z h0 w3 cl_w3 (.object "java/lang/Object")) (S_w3 : cl_w3.slots.size = (0 : Int32).toNatClampNeg) (S_DEF : Sta Z h0 "java/util/ArrayList" "DEFAULTCAPACITY_EMPTY_ELEMENTDATA" "[Ljava/lang/Object;" (.ref w3)) (E_a1 : Exa Z h0 a1 "java/util/ArrayList") (F_modCount_a1 : Fld Z h0 a1 "java/util/AbstractList" "modCount" "I" (.int mc)) (F_size_a1 : Fld Z h0 a1 "java/util/ArrayList" "size" "I" (.int sz)) (g_a1 : n0 ≤ a1) (hp : ¬ ((10 : Int32) < p2)) :
    MetFree l (⟨"java/util/ArrayList", "grow", "(I)[Ljava/lang/Object;"⟩ : MethodName) (head1 (Jvm.Cond.code (⟨"java/util/ArrayList", "grow", "(I)[Ljava/lang/Object;"⟩ : MethodName) jdk_38_method_6_code 4 (some (.array (.object "java/lang/Object"))) :: ws) ({ frames := 1, cells := 1, slots := 10, locals := 14 } : Room)) (fun a U => a = #[(.ref a1), (.int p2)] ∧ Z.Warmed39 U.vm ∧ U.heap = h0) (fun _ _ _ _ _ => True) (fun _ U o U' => ∃ v L, o = .returned v ∧ own_Gr Z a1 mc sz h0 n0 v U'.heap L ∧ FrameEnd U o U' L ({ frames := 1, cells := 1, slots := 10, locals := 14 } : Room).cells ({ frames := 1, cells := 1, slots := 10, locals := 14 } : Room).slots) := by
  refine MetFree.of_bodySF (plainFor_of_name pn_11) hisR ?_
  intro p e s m args below meth c s₁ Bd hml0 hP hK
  obtain ⟨rfl, hZ, hh⟩ := hP
  have hx := Bd.exec
  have hby := Bd.bytes
  have hml : c.maxLocals = 4 := hml0
  have hown : s.vm.findClass "java/util/ArrayList" = some m.cls := findClass_of_methodNamed Bd.named
  have hnm := (name_of_methodNamed Bd.named Bd.method).1
  have X0 : Stand p l e ({ frames := 1, cells := 1, slots := 10, locals := 14 } : Room) s m #[(.ref a1), (.int p2)] below meth c s₁ [] 0 0 := Stand.of_body Bd
  have e0 : s₁.heap = h0 := by rw [← hh, Bd.state]; rfl
  have N0 := Fr.nil n0
  have pre0 : ∀ t, Steps p.tables e below (s₁.setTop (mkF m 0 #[.val (.ref a1), .val (.int p2), .unset, .unset] [])) t → Steps p.tables e below (s₁.setTop (entryFrame m #[(.ref a1), (.int p2)] 4)) t := fun t k => castTop (ef_11 m a1 p2) k
  have N_w3 : ¬ (0 : Int32) < 0 := by decide
  obtain ⟨T4, X4, e4, st4⟩ := getF X0 hx hZ hown (host := "") (Or.inl (hw _ (List.mem_of_getElem? (i := 34) rfl))) Via.refl e0 F_elementData_a1 (g := (mkF m 1 #[.val (.ref a1), .val (.int p2), .unset, .unset] [(.ref a1)])) rfl rfl (hb hby d11_1)
  obtain ⟨T5, X5, e5, st5⟩ := getF X4 hx hZ hown (host := "") (Or.inl (hw _ (List.mem_of_getElem? (i := 34) rfl))) Via.refl e4 F_elementData_a1 (g := (mkF m 11 #[.val (.ref a1), .val (.int p2), .val (.int (0 : Int32)), .unset] [(.ref a1)])) rfl rfl (hb hby d11_11)
  obtain ⟨T7, X7, e7, st7⟩ := getS2 X5 hx hZ hown (host := "") (Or.inl (hw _ (List.mem_of_getElem? (i := 33) rfl))) Via.refl e5 S_DEF (g := (mkF m 14 #[.val (.ref a1), .val (.int p2), .val (.int (0 : Int32)), .unset] [(.ref w3)])) rfl (hb hby d11_14)
  obtain ⟨_, _, ⟨T8, L8, k8, n8⟩, -, X8, ⟨Lc8, hQ8, l8, y8, z8⟩, st8⟩ := Jvm.LawKit.callS X7 hx (y := (⟨"java/lang/Math", "max", "(II)I"⟩ : MethodName)) hown (mvT hZ (hw _ (List.mem_of_getElem? (i := 84) rfl))) (mvT hZ (hw _ (List.mem_of_getElem? (i := 85) rfl))) (mvT hZ (hw _ (List.mem_of_getElem? (i := 86) rfl))) (mvT hZ (hw _ (List.mem_of_getElem? (i := 87) rfl))) (by decide) (backOf (W := 1) (rm12 l Z a0 hw [] (10 : Int32) p2 h0 n0 Z0 hp) hZ (hw _ (List.mem_of_getElem? (i := 87) rfl)) (hw _ (List.mem_of_getElem? (i := 86) rfl)) (by decide) (by decide)) (g := (mkF m 49 #[.val (.ref a1), .val (.int p2), .val (.int (0 : Int32)), .unset] [(.int p2), (.int (10 : Int32)), (.ref a1)])) rfl (by rw [hml]; rfl) (argsL := [(.int (10 : Int32)), (.int p2)]) (rest := [(.ref a1)]) (lenOf pd_11_9 rfl) rfl (by show 2 * 0 + _ ≤ _; exact Nat.le_of_eq rfl) (hb hby d11_49) (fun _ _ => ⟨rfl, e7, (by decide : 0 + 0 ≤ _), (by decide : 0 + 0 ≤ _)⟩)
  dsimp only [Pt.U, Pt.locs, Pt.cells, Pt.slots] at X8 l8 y8 z8 st8 hQ8
  subst l8 y8 z8
  obtain ⟨rfl, N8q, k8q⟩ := hQ8
  have N8 := Fr.app N0 N8q
  obtain ⟨T9, h9, k9, X9, e9, E9, A9, O9, st9⟩ := newR X8 hx hZ hown (hw _ (List.mem_of_getElem? (i := 88) rfl)) (hw _ (List.mem_of_getElem? (i := 89) rfl)) k8q (g := (mkF m 52 #[.val (.ref a1), .val (.int p2), .val (.int (0 : Int32)), .unset] [(.int (10 : Int32)), (.ref a1)])) rfl (hb hby d11_52) rfl (by decide) (cap := 10) (by decide) (by decide) (by decide) (by decide)
  obtain ⟨b9, g9⟩ : ∃ z, z = h0.size := ⟨_, rfl⟩
  rw [← g9] at A9 st9
  have V_b9 := (Arv.new A9 (by decide)).pad (vs' := [.null, .null, .null, .null, .null, .null, .null, .null, .null, .null]) (pad_rep [] .null 10)
  have g_b9 : n0 ≤ b9 := Nat.le_trans Z0 (Nat.le_of_eq g9.symm)
  have sz_b9 : h0.size ≤ b9 := Nat.le_of_eq g9.symm
  have K9 : Keep h0 h9 [a1] := (Keep.refl h0 [a1]).ext E9
  obtain ⟨T10, h10, X10, e10, W10, st10⟩ := putF X9 hx hZ hown (host := "") (Or.inl (hw _ (List.mem_of_getElem? (i := 34) rfl))) Via.refl e9 (F_elementData_a1.ext E9) (E_a1.ext E9) (Or.inl (hw _ (List.mem_of_getElem? (i := 35) rfl))) (hw _ (List.mem_of_getElem? (i := 11) rfl)) (ty := (.array (.object "java/lang/Object"))) (by decide) rfl rfl (g := (mkF m 56 #[.val (.ref a1), .val (.int p2), .val (.int (0 : Int32)), .unset] [(.ref b9), (.ref a1), (.ref b9)])) rfl rfl (hb hby d11_56)
  have Fw10 := (F_elementData_a1.ext E9).same W10
  have K10 : Keep h0 h10 [a1] := K9.wr W10 (Or.inl (List.mem_of_getElem? (i := 0) rfl))
  have N10 := Fr.snoc X10 N8 g_a1
  obtain ⟨fs, hr, hrun, hended, hW, hsame⟩ := X10.leave (v := some (.ref b9)) (fun h => by rw [Bd.returns] at h; cases h)
  refine ⟨_, _, pre0 _ ?_, hrun, hended, _, _, rfl, ?_, ⟨_, rfl⟩, hW, hsame.mono (by decide) (by decide)⟩
  · show Steps p.tables e below (s₁.setTop (mkF m 0 #[.val (.ref a1), .val (.int p2), .unset, .unset] [])) _
    refine XS.aloadN X0.here hx rfl (hb hby d11_0) rfl rfl ?_
    show Steps p.tables e below (s₁.setTop (mkF m 1 #[.val (.ref a1), .val (.int p2), .unset, .unset] [(.ref a1)])) _
    refine st4 _ ?_
    show Steps p.tables e below (T4.setTop (mkF m 4 #[.val (.ref a1), .val (.int p2), .unset, .unset] [(.ref w3)])) _
    refine X4.arraylength hx (by rw [e4]; exact Ar_w3.1) (State.isArrayOf_alike hZ.alike Ar_w3.2.1) (g := (mkF m 4 #[.val (.ref a1), .val (.int p2), .unset, .unset] [(.ref w3)])) rfl rfl (hb hby d11_4) _ ?_
    rw [len_of S_w3 N_w3]
    show Steps p.tables e below (T4.setTop (mkF m 5 #[.val (.ref a1), .val (.int p2), .unset, .unset] [(.int (0 : Int32))])) _
    refine XS.istoreN X4.here hx rfl (hb hby d11_5) rfl (l' := #[.val (.ref a1), .val (.int p2), .val (.int (0 : Int32)), .unset]) rfl ?_
    show Steps p.tables e below (T4.setTop (mkF m 6 #[.val (.ref a1), .val (.int p2), .val (.int (0 : Int32)), .unset] [])) _
    refine XS.iloadN X4.here hx rfl (hb hby d11_6) rfl ?_
    show Steps p.tables e below (T4.setTop (mkF m 7 #[.val (.ref a1), .val (.int p2), .val (.int (0 : Int32)), .unset] [(.int (0 : Int32))])) _
    refine XS.ifNo X4.here hx rfl (hb hby d11_7) rfl ((if0 _ _).trans (flt (by decide : ¬ ((0 : Int32) < (0 : Int32)))).2.2.1) ?_
    show Steps p.tables e below (T4.setTop (mkF m 10 #[.val (.ref a1), .val (.int p2), .val (.int (0 : Int32)), .unset] [])) _
    refine XS.aloadN X4.here hx rfl (hb hby d11_10) rfl rfl ?_
    show Steps p.tables e below (T4.setTop (mkF m 11 #[.val (.ref a1), .val (.int p2), .val (.int (0 : Int32)), .unset] [(.ref a1)])) _
    refine st5 _ ?_
    show Steps p.tables e below (T5.setTop (mkF m 14 #[.val (.ref a1), .val (.int p2), .val (.int (0 : Int32)), .unset] [(.ref w3)])) _
    refine st7 _ ?_
    show Steps p.tables e below (T7.setTop (mkF m 17 #[.val (.ref a1), .val (.int p2), .val (.int (0 : Int32)), .unset] [(.ref w3), (.ref w3)])) _
    refine Jvm.RoadKit.acmp (g := (mkF m 17 #[.val (.ref a1), .val (.int p2), .val (.int (0 : Int32)), .unset] [(.ref w3), (.ref w3)])) X7 hx rfl rfl rfl (pc0 := 17) (pc' := 45) (same := true) rfl (hb hby d11_17) rfl (decide_eq_true (congrArg Value.ref rfl)) (by decide) (by decide) ?_
    show Steps p.tables e below (T7.setTop (mkF m 45 #[.val (.ref a1), .val (.int p2), .val (.int (0 : Int32)), .unset] [])) _
    refine XS.aloadN X7.here hx rfl (hb hby d11_45) rfl rfl ?_
    show Steps p.tables e below (T7.setTop (mkF m 46 #[.val (.ref a1), .val (.int p2), .val (.int (0 : Int32)), .unset] [(.ref a1)])) _
    refine XS.bipush X7.here hx rfl (hb hby d11_46) ?_
    show Steps p.tables e below (T7.setTop (mkF m 48 #[.val (.ref a1), .val (.int p2), .val (.int (0 : Int32)), .unset] [(.int (10 : Int32)), (.ref a1)])) _
    refine XS.iloadN X7.here hx rfl (hb hby d11_48) rfl ?_
    show Steps p.tables e below (T7.setTop (mkF m 49 #[.val (.ref a1), .val (.int p2), .val (.int (0 : Int32)), .unset] [(.int p2), (.int (10 : Int32)), (.ref a1)])) _
    refine st8 _ ?_
    show Steps p.tables e below (T8.setTop (mkF m 52 #[.val (.ref a1), .val (.int p2), .val (.int (0 : Int32)), .unset] [(.int (10 : Int32)), (.ref a1)])) _
    refine st9 _ ?_
    show Steps p.tables e below (T9.setTop (mkF m 55 #[.val (.ref a1), .val (.int p2), .val (.int (0 : Int32)), .unset] [(.ref b9), (.ref a1)])) _
    refine XS.dupX1 X9.here hx rfl (hb hby d11_55) rfl rfl rfl ?_
    show Steps p.tables e below (T9.setTop (mkF m 56 #[.val (.ref a1), .val (.int p2), .val (.int (0 : Int32)), .unset] [(.ref b9), (.ref a1), (.ref b9)])) _
    refine st10 _ ?_
    show Steps p.tables e below (T10.setTop (mkF m 59 #[.val (.ref a1), .val (.int p2), .val (.int (0 : Int32)), .unset] [(.ref b9)])) _
    jvm_step X10.here [X10.here.top, hx, (hb hby d11_59), X10.method', Bd.returns, Value.isRef, FieldType.isReference]
    first | (intro acts; rw [hr _ acts rfl rfl rfl]) | rw [hr _ _ rfl rfl rfl]
    exact Steps.refl _
  · show own_Gr Z a1 mc sz h0 n0 _ T10.heap _
    rw [e10]
    have nb : b9 ≠ a1 := Nat.ne_of_gt (Nat.lt_of_lt_of_eq E_a1.lt g9.symm)
    exact ⟨b9, k9, rfl, N10, K10, (E_a1.ext E9).wr W10, sz_b9, (F_modCount_a1.ext E9).other W10 (Or.inr (slot_ne (Or.inl (hw _ (List.mem_of_getElem? (i := 32) rfl))) (Or.inl (hw _ (List.mem_of_getElem? (i := 35) rfl))) (by decide) (t := .int) (t' := (.array (.object "java/lang/Object"))) (by decide) (by decide))), Fw10, (F_size_a1.ext E9).other W10 (Or.inr (slot_ne (Or.inl (hw _ (List.mem_of_getElem? (i := 68) rfl))) (Or.inl (hw _ (List.mem_of_getElem? (i := 35) rfl))) (by decide) (t := .int) (t' := (.array (.object "java/lang/Object"))) (by decide) (by decide))), V_b9.other W10 nb, O9⟩
theorem d10_0 : decode jdk_38_method_7_code 0 = .ok (.aload_n 0, 1) := by decide +kernel
theorem d10_1 : decode jdk_38_method_7_code 1 = .ok (.aload_n 0, 1) := by decide +kernel
theorem d10_2 : decode jdk_38_method_7_code 2 = .ok (.getfield 48, 3) := by decide +kernel
theorem d10_5 : decode jdk_38_method_7_code 5 = .ok (.iconst 1, 1) := by decide +kernel
theorem d10_6 : decode jdk_38_method_7_code 6 = .ok (.iadd, 1) := by decide +kernel
theorem d10_7 : decode jdk_38_method_7_code 7 = .ok (.invokevirtual 69, 3) := by decide +kernel
theorem d10_10 : decode jdk_38_method_7_code 10 = .ok (.areturn, 1) := by decide +kernel
theorem pn_10 : plainName "java/util/ArrayList" = true := by first | (simp [plainName, overriddenIn]; done) | decide +kernel
theorem pd_10_8 : parseMethodDescriptor "(I)[Ljava/lang/Object;" = some ⟨[.int], some (.array (.object "java/lang/Object"))⟩ := by decide +kernel
theorem ef_10 (m : MethodId) (x0 : Addr) : entryFrame m #[(.ref x0)] 1 = mkF m 0 #[.val (.ref x0)] [] := by first | (simp [entryFrame, mkF, argsToLocals, Value.category]; done) | rfl
set_option maxRecDepth 65536 in
set_option maxHeartbeats 40000000 in
theorem rm10 (l : Launch) (Z : State) (a0 : Array Value) (hw : ∀ d ∈ tables_1, d.before a0 Z = true) (ws : List Jvm.Cond) (a1 : Addr) (w3 : Addr) (cl_w3 : Cell) (mc : Int32) (sz : Int32) (h0 : Heap) (n0 : Nat) (Z0 : n0 ≤ h0.size) (F_elementData_a1 : Fld Z h0 a1 "java/util/ArrayList" "elementData" "[Ljava/lang/Object;" (.ref w3)) (Ar_w3 : Arr Z h0 w3 cl_w3 (.object "java/lang/Object")) (S_w3 : cl_w3.slots.size = (0 : Int32).toNatClampNeg) (S_DEF : Sta Z h0 "java/util/ArrayList" "DEFAULTCAPACITY_EMPTY_ELEMENTDATA" "[Ljava/lang/Object;" (.ref w3)) (E_a1 : Exa Z h0 a1 "java/util/ArrayList") (F_modCount_a1 : Fld Z h0 a1 "java/util/AbstractList" "modCount" "I" (.int mc)) (F_size_a1 : Fld Z h0 a1 "java/util/ArrayList" "size" "I" (.int sz)) (g_a1 : n0 ≤ a1) (hp : ¬ ((10 : Int32) < (sz + (1 : Int32)))) :
    MetFree l (⟨"java/util/ArrayList", "grow", "()[Ljava/lang/Object;"⟩ : MethodName) (head1 (Jvm.Cond.code (⟨"java/util/ArrayList", "grow", "()[Ljava/lang/Object;"⟩ : MethodName) jdk_38_method_7_code 1 (some (.array (.object "java/lang/Object"))) :: ws) ({ frames := 2, cells := 1, slots := 10, locals := 29 } : Room)) (fun a U => a = #[(.ref a1)] ∧ Z.Warmed39 U.vm ∧ U.heap = h0) (fun _ _ _ _ _ => True) (fun _ U o U' => ∃ v L, o = .returned v ∧ own_Gr Z a1 mc sz h0 n0 v U'.heap L ∧ FrameEnd U o U' L ({ frames := 2, cells := 1, slots := 10, locals := 29 } : Room).cells ({ frames := 2, cells := 1, slots := 10, locals := 29 } : Room).slots) := by
  refine MetFree.of_bodySF (plainFor_of_name pn_10) hisR ?_
  intro p e s m args below meth c s₁ Bd hml0 hP hK
  obtain ⟨rfl, hZ, hh⟩ := hP
  have hx := Bd.exec
  have hby := Bd.bytes
  have hml : c.maxLocals = 1 := hml0
  have hown : s.vm.findClass "java/util/ArrayList" = some m.cls := findClass_of_methodNamed Bd.named
  have hnm := (name_of_methodNamed Bd.named Bd.method).1
  have X0 : Stand p l e ({ frames := 2, cells := 1, slots := 10, locals := 29 } : Room) s m #[(.ref a1)] below meth c s₁ [] 0 0 := Stand.of_body Bd
  have e0 : s₁.heap = h0 := by rw [← hh, Bd.state]; rfl
  have N0 := Fr.nil n0
  have pre0 : ∀ t, Steps p.tables e below (s₁.setTop (mkF m 0 #[.val (.ref a1)] [])) t → Steps p.tables e below (s₁.setTop (entryFrame m #[(.ref a1)] 1)) t := fun t k => castTop (ef_10 m a1) k
  obtain ⟨T3, X3, e3, st3⟩ := getF X0 hx hZ hown (host := "") (Or.inl (hw _ (List.mem_of_getElem? (i := 67) rfl))) Via.refl e0 F_size_a1 (g := (mkF m 2 #[.val (.ref a1)] [(.ref a1), (.ref a1)])) rfl rfl (hb hby d10_2)
  obtain ⟨cq4, q4, q4'⟩ := E_a1.cell
  obtain ⟨_, _, ⟨T4, L4, k4, n4⟩, -, X4, ⟨Lc4, hQ4, l4, y4, z4⟩, st4⟩ := X3.privateBack hx (y := (⟨"java/util/ArrayList", "grow", "(I)[Ljava/lang/Object;"⟩ : MethodName)) hown (mvT hZ (hw _ (List.mem_of_getElem? (i := 79) rfl))) (mvT hZ (hw _ (List.mem_of_getElem? (i := 80) rfl))) (mvT hZ (hw _ (List.mem_of_getElem? (i := 82) rfl))) (Cond.privateMethod_at (mvP hZ (hw _ (List.mem_of_getElem? (i := 81) rfl)) (args := #[]))) (mvT hZ (hw _ (List.mem_of_getElem? (i := 83) rfl))) (by decide) (backOf (W := 0) (rm11 l Z a0 hw [] a1 (sz + (1 : Int32)) w3 cl_w3 mc sz h0 n0 Z0 F_elementData_a1 Ar_w3 S_w3 S_DEF E_a1 F_modCount_a1 F_size_a1 g_a1 hp) hZ (hw _ (List.mem_of_getElem? (i := 83) rfl)) (hw _ (List.mem_of_getElem? (i := 12) rfl)) (by decide) (by decide)) (g := (mkF m 7 #[.val (.ref a1)] [(.int (sz + (1 : Int32))), (.ref a1)])) rfl (by rw [hml]; rfl) (Steps.refl _) (a := a1) (by rw [e3]; exact q4) q4' (argsL := [(.int (sz + (1 : Int32)))]) (rest := []) (lenOf pd_10_8 rfl) rfl (by show 2 * 0 + _ ≤ _; exact Nat.le_of_eq rfl) (hb hby d10_7) (fun _ _ => ⟨rfl, e3, (by decide : 0 + 1 ≤ _), (by decide : 0 + 10 ≤ _)⟩)
  dsimp only [Pt.U, Pt.locs, Pt.cells, Pt.slots] at X4 l4 y4 z4 st4 hQ4
  subst l4 y4 z4
  obtain ⟨d, kd, rfl, N4q, K5q, E5q, z5q, M5q, D5q, S5q, V5q, O5q⟩ := hQ4
  have N4 := Fr.app N0 N4q
  obtain ⟨fs, hr, hrun, hended, hW, hsame⟩ := X4.leave (v := some (.ref d)) (fun h => by rw [Bd.returns] at h; cases h)
  refine ⟨_, _, pre0 _ ?_, hrun, hended, _, _, rfl, ?_, ⟨_, rfl⟩, hW, hsame.mono (by decide) (by decide)⟩
  · show Steps p.tables e below (s₁.setTop (mkF m 0 #[.val (.ref a1)] [])) _
    refine XS.aloadN X0.here hx rfl (hb hby d10_0) rfl rfl ?_
    show Steps p.tables e below (s₁.setTop (mkF m 1 #[.val (.ref a1)] [(.ref a1)])) _
    refine XS.aloadN X0.here hx rfl (hb hby d10_1) rfl rfl ?_
    show Steps p.tables e below (s₁.setTop (mkF m 2 #[.val (.ref a1)] [(.ref a1), (.ref a1)])) _
    refine st3 _ ?_
    show Steps p.tables e below (T3.setTop (mkF m 5 #[.val (.ref a1)] [(.int sz), (.ref a1)])) _
    refine XS.iconst X3.here hx rfl (hb hby d10_5) ?_
    show Steps p.tables e below (T3.setTop (mkF m 6 #[.val (.ref a1)] [(.int (1 : Int32)), (.int sz), (.ref a1)])) _
    refine XS.iadd X3.here hx rfl (hb hby d10_6) rfl ?_
    show Steps p.tables e below (T3.setTop (mkF m 7 #[.val (.ref a1)] [(.int (sz + (1 : Int32))), (.ref a1)])) _
    refine st4.trans ?_
    show Steps p.tables e below (T4.setTop (mkF m 10 #[.val (.ref a1)] [(.ref d)])) _
    jvm_step X4.here [X4.here.top, hx, (hb hby d10_10), X4.method', Bd.returns, Value.isRef, FieldType.isReference]
    first | (intro acts; rw [hr _ acts rfl rfl rfl]) | rw [hr _ _ rfl rfl rfl]
    exact Steps.refl _
  · show own_Gr Z a1 mc sz h0 n0 _ T4.heap _
    exact ⟨d, kd, rfl, N4, K5q, E5q, z5q, M5q, D5q, S5q, V5q, O5q⟩
theorem d9_0 : decode jdk_38_method_24_code 0 = .ok (.iload_n 3, 1) := by decide +kernel
theorem d9_1 : decode jdk_38_method_24_code 1 = .ok (.aload_n 2, 1) := by decide +kernel
theorem d9_2 : decode jdk_38_method_24_code 2 = .ok (.arraylength, 1) := by decide +kernel
theorem d9_3 : decode jdk_38_method_24_code 3 = .ok (.if_icmp .ne 8, 3) := by decide +kernel
theorem d9_6 : decode jdk_38_method_24_code 6 = .ok (.aload_n 0, 1) := by decide +kernel
theorem d9_7 : decode jdk_38_method_24_code 7 = .ok (.invokevirtual 129, 3) := by decide +kernel
theorem d9_10 : decode jdk_38_method_24_code 10 = .ok (.astore_n 2, 1) := by decide +kernel
theorem d9_11 : decode jdk_38_method_24_code 11 = .ok (.aload_n 2, 1) := by decide +kernel
theorem d9_12 : decode jdk_38_method_24_code 12 = .ok (.iload_n 3, 1) := by decide +kernel
theorem d9_13 : decode jdk_38_method_24_code 13 = .ok (.aload_n 1, 1) := by decide +kernel
theorem d9_14 : decode jdk_38_method_24_code 14 = .ok (.aastore, 1) := by decide +kernel
theorem d9_15 : decode jdk_38_method_24_code 15 = .ok (.aload_n 0, 1) := by decide +kernel
theorem d9_16 : decode jdk_38_method_24_code 16 = .ok (.iload_n 3, 1) := by decide +kernel
theorem d9_17 : decode jdk_38_method_24_code 17 = .ok (.iconst 1, 1) := by decide +kernel
theorem d9_18 : decode jdk_38_method_24_code 18 = .ok (.iadd, 1) := by decide +kernel
theorem d9_19 : decode jdk_38_method_24_code 19 = .ok (.putfield 48, 3) := by decide +kernel
theorem d9_22 : decode jdk_38_method_24_code 22 = .ok (.return_, 1) := by decide +kernel
theorem pn_9 : plainName "java/util/ArrayList" = true := by first | (simp [plainName, overriddenIn]; done) | decide +kernel
theorem pd_9_7 : parseMethodDescriptor "()[Ljava/lang/Object;" = some ⟨[], some (.array (.object "java/lang/Object"))⟩ := by decide +kernel
theorem ef_9 (m : MethodId) (x0 : Addr) (x1 : Addr) (x2 : Addr) (x3 : Int32) : entryFrame m #[(.ref x0), (.ref x1), (.ref x2), (.int x3)] 4 = mkF m 0 #[.val (.ref x0), .val (.ref x1), .val (.ref x2), .val (.int x3)] [] := by first | (simp [entryFrame, mkF, argsToLocals, Value.category]; done) | rfl
set_option maxRecDepth 65536 in
set_option maxHeartbeats 40000000 in
theorem rm9f (l : Launch) (Z : State) (a0 : Array Value) (hw : ∀ d ∈ tables_1, d.before a0 Z = true) (ws : List Jvm.Cond) (a1 : Addr) (a2 : Addr) (a3 : Addr) (cl_a3 : Cell) (mc : Int32) (h0 : Heap) (n0 : Nat) (Z0 : n0 ≤ h0.size) (F_elementData_a1 : Fld Z h0 a1 "java/util/ArrayList" "elementData" "[Ljava/lang/Object;" (.ref a3)) (Ar_a3 : Arr Z h0 a3 cl_a3 (.object "java/lang/Object")) (S_a3 : cl_a3.slots.size = (0 : Int32).toNatClampNeg) (S_DEF : Sta Z h0 "java/util/ArrayList" "DEFAULTCAPACITY_EMPTY_ELEMENTDATA" "[Ljava/lang/Object;" (.ref a3)) (E_a1 : Exa Z h0 a1 "java/util/ArrayList") (F_modCount_a1 : Fld Z h0 a1 "java/util/AbstractList" "modCount" "I" (.int mc)) (F_size_a1 : Fld Z h0 a1 "java/util/ArrayList" "size" "I" (.int (0 : Int32))) (g_a1 : n0 ≤ a1) (E_a2 : Exa Z h0 a2 "com/example/tenacious_courier/tenaciouscourier/model/DeliveryStatus") :
    MetFree l (⟨"java/util/ArrayList", "add", "(Ljava/lang/Object;[Ljava/lang/Object;I)V"⟩ : MethodName) (head1 (Jvm.Cond.code (⟨"java/util/ArrayList", "add", "(Ljava/lang/Object;[Ljava/lang/Object;I)V"⟩ : MethodName) jdk_38_method_24_code 4 none :: ws) ({ frames := 3, cells := 1, slots := 10, locals := 41 } : Room)) (fun a U => a = #[(.ref a1), (.ref a2), (.ref a3), (.int (0 : Int32))] ∧ Z.Warmed39 U.vm ∧ U.heap = h0) (fun _ _ _ _ _ => True) (fun _ U o U' => ∃ v L, o = .returned v ∧ own_A1 Z a1 a2 mc none h0 n0 v U'.heap L ∧ FrameEnd U o U' L ({ frames := 3, cells := 1, slots := 10, locals := 41 } : Room).cells ({ frames := 3, cells := 1, slots := 10, locals := 41 } : Room).slots) := by
  refine MetFree.of_bodySF (plainFor_of_name pn_9) hisR ?_
  intro p e s m args below meth c s₁ Bd hml0 hP hK
  obtain ⟨rfl, hZ, hh⟩ := hP
  have hx := Bd.exec
  have hby := Bd.bytes
  have hml : c.maxLocals = 4 := hml0
  have hown : s.vm.findClass "java/util/ArrayList" = some m.cls := findClass_of_methodNamed Bd.named
  have hnm := (name_of_methodNamed Bd.named Bd.method).1
  have X0 : Stand p l e ({ frames := 3, cells := 1, slots := 10, locals := 41 } : Room) s m #[(.ref a1), (.ref a2), (.ref a3), (.int (0 : Int32))] below meth c s₁ [] 0 0 := Stand.of_body Bd
  have e0 : s₁.heap = h0 := by rw [← hh, Bd.state]; rfl
  have N0 := Fr.nil n0
  have pre0 : ∀ t, Steps p.tables e below (s₁.setTop (mkF m 0 #[.val (.ref a1), .val (.ref a2), .val (.ref a3), .val (.int (0 : Int32))] [])) t → Steps p.tables e below (s₁.setTop (entryFrame m #[(.ref a1), (.ref a2), (.ref a3), (.int (0 : Int32))] 4)) t := fun t k => castTop (ef_9 m a1 a2 a3 (0 : Int32)) k
  have N_a3 : ¬ (0 : Int32) < 0 := by decide
  obtain ⟨cq5, q5, q5'⟩ := E_a1.cell
  obtain ⟨_, _, ⟨T5, L5, k5, n5⟩, -, X5, ⟨Lc5, hQ5, l5, y5, z5⟩, st5⟩ := X0.privateBack hx (y := (⟨"java/util/ArrayList", "grow", "()[Ljava/lang/Object;"⟩ : MethodName)) hown (mvT hZ (hw _ (List.mem_of_getElem? (i := 74) rfl))) (mvT hZ (hw _ (List.mem_of_getElem? (i := 75) rfl))) (mvT hZ (hw _ (List.mem_of_getElem? (i := 77) rfl))) (Cond.privateMethod_at (mvP hZ (hw _ (List.mem_of_getElem? (i := 76) rfl)) (args := #[]))) (mvT hZ (hw _ (List.mem_of_getElem? (i := 78) rfl))) (by decide) (backOf (W := 0) (rm10 l Z a0 hw [] a1 a3 cl_a3 mc (0 : Int32) h0 n0 Z0 F_elementData_a1 Ar_a3 S_a3 S_DEF E_a1 F_modCount_a1 F_size_a1 g_a1 (by decide)) hZ (hw _ (List.mem_of_getElem? (i := 78) rfl)) (hw _ (List.mem_of_getElem? (i := 12) rfl)) (by decide) (by decide)) (g := (mkF m 7 #[.val (.ref a1), .val (.ref a2), .val (.ref a3), .val (.int (0 : Int32))] [(.ref a1)])) rfl (by rw [hml]; rfl) (Steps.refl _) (a := a1) (by rw [e0]; exact q5) q5' (argsL := []) (rest := []) (lenOf pd_9_7 rfl) rfl (by show 2 * 0 + _ ≤ _; exact Nat.le_of_eq rfl) (hb hby d9_7) (fun _ _ => ⟨rfl, e0, (by decide : 0 + 1 ≤ _), (by decide : 0 + 10 ≤ _)⟩)
  dsimp only [Pt.U, Pt.locs, Pt.cells, Pt.slots] at X5 l5 y5 z5 st5 hQ5
  subst l5 y5 z5
  obtain ⟨d, kd, rfl, N5q, K5q, E5q, z5q, M5q, D5q, S5q, V5q, O5q⟩ := hQ5
  obtain ⟨cl5, Ar5, q5c, S5, Nn5, H5, G5⟩ := V5q
  have hin14 : ¬ ((0 : Int32) < 0 ∨ cl5.slots.size ≤ ((0 : Int32)).toNatClampNeg) := inb_of S5 ⟨by decide, by decide⟩
  have Sto14 : Sto Z T5.heap d (.ref a2) := Sto.ofV Ar5 q5c O5q (Ins.of_exa (E_a2.keep K5q) (hw _ (List.mem_of_getElem? (i := 90) rfl)))
  have g_d : n0 ≤ d := Nat.le_trans Z0 z5q
  have na : a1 ≠ d := Nat.ne_of_lt (Nat.lt_of_lt_of_le E_a1.lt z5q)
  have N5 := Fr.app N0 N5q
  obtain ⟨T6, h6, X6, e6, W6, st6⟩ := stR X5 hx hZ rfl Ar5 (j := (0 : Int32)) hin14 rfl Sto14 (g := (mkF m 14 #[.val (.ref a1), .val (.ref a2), .val (.ref d), .val (.int (0 : Int32))] [(.ref a2), (.int (0 : Int32)), (.ref d)])) rfl rfl (hb hby d9_14)
  have N6 := Fr.snoc X6 N5 g_d
  have V6 := Arv.set Ar5 q5c S5 Nn5 H5 G5 (v := .ref a2) rfl W6 0 rfl (Nat.le_of_ble_eq_true rfl)
  obtain ⟨T7, h7, X7, e7, W7, st7⟩ := putF X6 hx hZ hown (host := "") (Or.inl (hw _ (List.mem_of_getElem? (i := 67) rfl))) Via.refl e6 (S5q.other W6 (Or.inl na)) (E5q.wr W6) (Or.inl (hw _ (List.mem_of_getElem? (i := 68) rfl))) (hw _ (List.mem_of_getElem? (i := 11) rfl)) (ty := .int) (by decide) rfl rfl (g := (mkF m 19 #[.val (.ref a1), .val (.ref a2), .val (.ref d), .val (.int (0 : Int32))] [(.int ((0 : Int32) + (1 : Int32))), (.ref a1)])) rfl rfl (hb hby d9_19)
  have Fw7 := (S5q.other W6 (Or.inl na)).same W7
  have K7 : Keep h0 h7 [a1] := (K5q.wr W6 (Or.inr z5q)).wr W7 (Or.inl (List.mem_of_getElem? (i := 0) rfl))
  have N7 := Fr.snoc X7 N6 g_a1
  obtain ⟨fs, hr, hrun, hended, hW, hsame⟩ := X7.leave (v := none) (fun _ => rfl)
  refine ⟨_, _, pre0 _ ?_, hrun, hended, _, _, rfl, ?_, ⟨_, rfl⟩, hW, hsame.mono (by decide) (by decide)⟩
  · show Steps p.tables e below (s₁.setTop (mkF m 0 #[.val (.ref a1), .val (.ref a2), .val (.ref a3), .val (.int (0 : Int32))] [])) _
    refine XS.iloadN X0.here hx rfl (hb hby d9_0) rfl ?_
    show Steps p.tables e below (s₁.setTop (mkF m 1 #[.val (.ref a1), .val (.ref a2), .val (.ref a3), .val (.int (0 : Int32))] [(.int (0 : Int32))])) _
    refine XS.aloadN X0.here hx rfl (hb hby d9_1) rfl rfl ?_
    show Steps p.tables e below (s₁.setTop (mkF m 2 #[.val (.ref a1), .val (.ref a2), .val (.ref a3), .val (.int (0 : Int32))] [(.ref a3), (.int (0 : Int32))])) _
    refine X0.arraylength hx (by rw [e0]; exact Ar_a3.1) (State.isArrayOf_alike hZ.alike Ar_a3.2.1) (g := (mkF m 2 #[.val (.ref a1), .val (.ref a2), .val (.ref a3), .val (.int (0 : Int32))] [(.ref a3), (.int (0 : Int32))])) rfl rfl (hb hby d9_2) _ ?_
    rw [len_of S_a3 N_a3]
    show Steps p.tables e below (s₁.setTop (mkF m 3 #[.val (.ref a1), .val (.ref a2), .val (.ref a3), .val (.int (0 : Int32))] [(.int (0 : Int32)), (.int (0 : Int32))])) _
    refine XS.icmpNo X0.here hx rfl (hb hby d9_3) rfl (teq (rfl : (0 : Int32) = (0 : Int32))).2 ?_
    show Steps p.tables e below (s₁.setTop (mkF m 6 #[.val (.ref a1), .val (.ref a2), .val (.ref a3), .val (.int (0 : Int32))] [])) _
    refine XS.aloadN X0.here hx rfl (hb hby d9_6) rfl rfl ?_
    show Steps p.tables e below (s₁.setTop (mkF m 7 #[.val (.ref a1), .val (.ref a2), .val (.ref a3), .val (.int (0 : Int32))] [(.ref a1)])) _
    refine st5.trans ?_
    show Steps p.tables e below (T5.setTop (mkF m 10 #[.val (.ref a1), .val (.ref a2), .val (.ref a3), .val (.int (0 : Int32))] [(.ref d)])) _
    refine XS.astoreN X5.here hx rfl (hb hby d9_10) rfl rfl (l' := #[.val (.ref a1), .val (.ref a2), .val (.ref d), .val (.int (0 : Int32))]) rfl ?_
    show Steps p.tables e below (T5.setTop (mkF m 11 #[.val (.ref a1), .val (.ref a2), .val (.ref d), .val (.int (0 : Int32))] [])) _
    refine XS.aloadN X5.here hx rfl (hb hby d9_11) rfl rfl ?_
    show Steps p.tables e below (T5.setTop (mkF m 12 #[.val (.ref a1), .val (.ref a2), .val (.ref d), .val (.int (0 : Int32))] [(.ref d)])) _
    refine XS.iloadN X5.here hx rfl (hb hby d9_12) rfl ?_
    show Steps p.tables e below (T5.setTop (mkF m 13 #[.val (.ref a1), .val (.ref a2), .val (.ref d), .val (.int (0 : Int32))] [(.int (0 : Int32)), (.ref d)])) _
    refine XS.aloadN X5.here hx rfl (hb hby d9_13) rfl rfl ?_
    show Steps p.tables e below (T5.setTop (mkF m 14 #[.val (.ref a1), .val (.ref a2), .val (.ref d), .val (.int (0 : Int32))] [(.ref a2), (.int (0 : Int32)), (.ref d)])) _
    refine st6 _ ?_
    show Steps p.tables e below (T6.setTop (mkF m 15 #[.val (.ref a1), .val (.ref a2), .val (.ref d), .val (.int (0 : Int32))] [])) _
    refine XS.aloadN X6.here hx rfl (hb hby d9_15) rfl rfl ?_
    show Steps p.tables e below (T6.setTop (mkF m 16 #[.val (.ref a1), .val (.ref a2), .val (.ref d), .val (.int (0 : Int32))] [(.ref a1)])) _
    refine XS.iloadN X6.here hx rfl (hb hby d9_16) rfl ?_
    show Steps p.tables e below (T6.setTop (mkF m 17 #[.val (.ref a1), .val (.ref a2), .val (.ref d), .val (.int (0 : Int32))] [(.int (0 : Int32)), (.ref a1)])) _
    refine XS.iconst X6.here hx rfl (hb hby d9_17) ?_
    show Steps p.tables e below (T6.setTop (mkF m 18 #[.val (.ref a1), .val (.ref a2), .val (.ref d), .val (.int (0 : Int32))] [(.int (1 : Int32)), (.int (0 : Int32)), (.ref a1)])) _
    refine XS.iadd X6.here hx rfl (hb hby d9_18) rfl ?_
    show Steps p.tables e below (T6.setTop (mkF m 19 #[.val (.ref a1), .val (.ref a2), .val (.ref d), .val (.int (0 : Int32))] [(.int ((0 : Int32) + (1 : Int32))), (.ref a1)])) _
    refine st7 _ ?_
    show Steps p.tables e below (T7.setTop (mkF m 22 #[.val (.ref a1), .val (.ref a2), .val (.ref d), .val (.int (0 : Int32))] [])) _
    exact X7.returnOut hx Bd.returns (hb hby d9_22) hr
  · show own_A1 Z a1 a2 mc none h0 n0 _ T7.heap _
    rw [e7]
    exact ⟨d, kd, rfl, N7, K7, (E5q.wr W6).wr W7, z5q, (M5q.other W6 (Or.inl na)).other W7 (Or.inr (slot_ne (Or.inl (hw _ (List.mem_of_getElem? (i := 32) rfl))) (Or.inl (hw _ (List.mem_of_getElem? (i := 68) rfl))) (by decide) (t := .int) (t' := .int) (by decide) (by decide))), (D5q.other W6 (Or.inl na)).other W7 (Or.inr (slot_ne (Or.inl (hw _ (List.mem_of_getElem? (i := 35) rfl))) (Or.inl (hw _ (List.mem_of_getElem? (i := 68) rfl))) (by decide) (t := (.array (.object "java/lang/Object"))) (t' := .int) (by decide) (by decide))), Fw7, V6.other W7 (Ne.symm na), O5q⟩
set_option maxRecDepth 65536 in
set_option maxHeartbeats 40000000 in
theorem rm9t (l : Launch) (Z : State) (a0 : Array Value) (hw : ∀ d ∈ tables_1, d.before a0 Z = true) (ws : List Jvm.Cond) (a1 : Addr) (a2 : Addr) (a3 : Addr) (x0 : Addr) (k : ClassId) (mc : Int32) (h0 : Heap) (n0 : Nat) (Z0 : n0 ≤ h0.size) (V_a3 : Arv Z h0 a3 k (.object "java/lang/Object") (10 : Int32) [(.ref x0), .null, .null, .null, .null, .null, .null, .null, .null, .null] .null) (O_a3 : Ovr Z k "java/lang/Object") (F_elementData_a1 : Fld Z h0 a1 "java/util/ArrayList" "elementData" "[Ljava/lang/Object;" (.ref a3)) (E_a1 : Exa Z h0 a1 "java/util/ArrayList") (F_modCount_a1 : Fld Z h0 a1 "java/util/AbstractList" "modCount" "I" (.int mc)) (F_size_a1 : Fld Z h0 a1 "java/util/ArrayList" "size" "I" (.int (1 : Int32))) (g_a1 : n0 ≤ a1) (g_a3 : n0 ≤ a3) (na : a1 ≠ a3) (E_a2 : Exa Z h0 a2 "com/example/tenacious_courier/tenaciouscourier/model/DeliveryStatus") :
    MetFree l (⟨"java/util/ArrayList", "add", "(Ljava/lang/Object;[Ljava/lang/Object;I)V"⟩ : MethodName) (head1 (Jvm.Cond.code (⟨"java/util/ArrayList", "add", "(Ljava/lang/Object;[Ljava/lang/Object;I)V"⟩ : MethodName) jdk_38_method_24_code 4 none :: ws) ({ frames := 0, cells := 0, slots := 0, locals := 0 } : Room)) (fun a U => a = #[(.ref a1), (.ref a2), (.ref a3), (.int (1 : Int32))] ∧ Z.Warmed39 U.vm ∧ U.heap = h0) (fun _ _ _ _ _ => True) (fun _ U o U' => ∃ v L, o = .returned v ∧ own_A2 Z a1 a3 x0 a2 k mc none h0 n0 v U'.heap L ∧ FrameEnd U o U' L ({ frames := 0, cells := 0, slots := 0, locals := 0 } : Room).cells ({ frames := 0, cells := 0, slots := 0, locals := 0 } : Room).slots) := by
  refine MetFree.of_bodySF (plainFor_of_name pn_9) hisR ?_
  intro p e s m args below meth c s₁ Bd hml0 hP hK
  obtain ⟨rfl, hZ, hh⟩ := hP
  have hx := Bd.exec
  have hby := Bd.bytes
  have hml : c.maxLocals = 4 := hml0
  have hown : s.vm.findClass "java/util/ArrayList" = some m.cls := findClass_of_methodNamed Bd.named
  have hnm := (name_of_methodNamed Bd.named Bd.method).1
  have X0 : Stand p l e ({ frames := 0, cells := 0, slots := 0, locals := 0 } : Room) s m #[(.ref a1), (.ref a2), (.ref a3), (.int (1 : Int32))] below meth c s₁ [] 0 0 := Stand.of_body Bd
  have e0 : s₁.heap = h0 := by rw [← hh, Bd.state]; rfl
  have N0 := Fr.nil n0
  have pre0 : ∀ t, Steps p.tables e below (s₁.setTop (mkF m 0 #[.val (.ref a1), .val (.ref a2), .val (.ref a3), .val (.int (1 : Int32))] [])) t → Steps p.tables e below (s₁.setTop (entryFrame m #[(.ref a1), (.ref a2), (.ref a3), (.int (1 : Int32))] 4)) t := fun t k => castTop (ef_9 m a1 a2 a3 (1 : Int32)) k
  obtain ⟨cl_a3, Ar_a3, q_a3, S_a3, N_a3, H_a3, G_a3⟩ := V_a3
  have hin14 : ¬ ((1 : Int32) < 0 ∨ cl_a3.slots.size ≤ ((1 : Int32)).toNatClampNeg) := inb_of S_a3 ⟨by decide, by decide⟩
  have Sto14 : Sto Z h0 a3 (.ref a2) := Sto.ofV Ar_a3 q_a3 O_a3 (Ins.of_exa E_a2 (hw _ (List.mem_of_getElem? (i := 90) rfl)))
  obtain ⟨T5, h5, X5, e5, W5, st5⟩ := stR X0 hx hZ e0 Ar_a3 (j := (1 : Int32)) hin14 rfl Sto14 (g := (mkF m 14 #[.val (.ref a1), .val (.ref a2), .val (.ref a3), .val (.int (1 : Int32))] [(.ref a2), (.int (1 : Int32)), (.ref a3)])) rfl rfl (hb hby d9_14)
  have N5 := Fr.snoc X5 N0 g_a3
  have K5 : Keep h0 h5 [a3, a1] := (Keep.refl h0 [a3, a1]).wr W5 (Or.inl (List.mem_of_getElem? (i := 0) rfl))
  obtain ⟨T6, h6, X6, e6, W6, st6⟩ := putF X5 hx hZ hown (host := "") (Or.inl (hw _ (List.mem_of_getElem? (i := 67) rfl))) Via.refl e5 (F_size_a1.other W5 (Or.inl na)) (E_a1.wr W5) (Or.inl (hw _ (List.mem_of_getElem? (i := 68) rfl))) (hw _ (List.mem_of_getElem? (i := 11) rfl)) (ty := .int) (by decide) rfl rfl (g := (mkF m 19 #[.val (.ref a1), .val (.ref a2), .val (.ref a3), .val (.int (1 : Int32))] [(.int ((1 : Int32) + (1 : Int32))), (.ref a1)])) rfl rfl (hb hby d9_19)
  have Fw6 := (F_size_a1.other W5 (Or.inl na)).same W6
  have K6 : Keep h0 h6 [a3, a1] := K5.wr W6 (Or.inl (List.mem_of_getElem? (i := 1) rfl))
  have N6 := Fr.snoc X6 N5 g_a1
  obtain ⟨fs, hr, hrun, hended, hW, hsame⟩ := X6.leave (v := none) (fun _ => rfl)
  refine ⟨_, _, pre0 _ ?_, hrun, hended, _, _, rfl, ?_, ⟨_, rfl⟩, hW, hsame.mono (by decide) (by decide)⟩
  · show Steps p.tables e below (s₁.setTop (mkF m 0 #[.val (.ref a1), .val (.ref a2), .val (.ref a3), .val (.int (1 : Int32))] [])) _
    refine XS.iloadN X0.here hx rfl (hb hby d9_0) rfl ?_
    show Steps p.tables e below (s₁.setTop (mkF m 1 #[.val (.ref a1), .val (.ref a2), .val (.ref a3), .val (.int (1 : Int32))] [(.int (1 : Int32))])) _
    refine XS.aloadN X0.here hx rfl (hb hby d9_1) rfl rfl ?_
    show Steps p.tables e below (s₁.setTop (mkF m 2 #[.val (.ref a1), .val (.ref a2), .val (.ref a3), .val (.int (1 : Int32))] [(.ref a3), (.int (1 : Int32))])) _
    refine X0.arraylength hx (by rw [e0]; exact Ar_a3.1) (State.isArrayOf_alike hZ.alike Ar_a3.2.1) (g := (mkF m 2 #[.val (.ref a1), .val (.ref a2), .val (.ref a3), .val (.int (1 : Int32))] [(.ref a3), (.int (1 : Int32))])) rfl rfl (hb hby d9_2) _ ?_
    rw [len_of S_a3 N_a3]
    show Steps p.tables e below (s₁.setTop (mkF m 3 #[.val (.ref a1), .val (.ref a2), .val (.ref a3), .val (.int (1 : Int32))] [(.int (10 : Int32)), (.int (1 : Int32))])) _
    refine XS.icmpYes X0.here hx rfl (pc0 := 3) (pc' := 11) rfl (hb hby d9_3) rfl (feq (by decide : ¬ ((1 : Int32) = (10 : Int32)))).2 (by decide) (by decide) ?_
    show Steps p.tables e below (s₁.setTop (mkF m 11 #[.val (.ref a1), .val (.ref a2), .val (.ref a3), .val (.int (1 : Int32))] [])) _
    refine XS.aloadN X0.here hx rfl (hb hby d9_11) rfl rfl ?_
    show Steps p.tables e below (s₁.setTop (mkF m 12 #[.val (.ref a1), .val (.ref a2), .val (.ref a3), .val (.int (1 : Int32))] [(.ref a3)])) _
    refine XS.iloadN X0.here hx rfl (hb hby d9_12) rfl ?_
    show Steps p.tables e below (s₁.setTop (mkF m 13 #[.val (.ref a1), .val (.ref a2), .val (.ref a3), .val (.int (1 : Int32))] [(.int (1 : Int32)), (.ref a3)])) _
    refine XS.aloadN X0.here hx rfl (hb hby d9_13) rfl rfl ?_
    show Steps p.tables e below (s₁.setTop (mkF m 14 #[.val (.ref a1), .val (.ref a2), .val (.ref a3), .val (.int (1 : Int32))] [(.ref a2), (.int (1 : Int32)), (.ref a3)])) _
    refine st5 _ ?_
    show Steps p.tables e below (T5.setTop (mkF m 15 #[.val (.ref a1), .val (.ref a2), .val (.ref a3), .val (.int (1 : Int32))] [])) _
    refine XS.aloadN X5.here hx rfl (hb hby d9_15) rfl rfl ?_
    show Steps p.tables e below (T5.setTop (mkF m 16 #[.val (.ref a1), .val (.ref a2), .val (.ref a3), .val (.int (1 : Int32))] [(.ref a1)])) _
    refine XS.iloadN X5.here hx rfl (hb hby d9_16) rfl ?_
    show Steps p.tables e below (T5.setTop (mkF m 17 #[.val (.ref a1), .val (.ref a2), .val (.ref a3), .val (.int (1 : Int32))] [(.int (1 : Int32)), (.ref a1)])) _
    refine XS.iconst X5.here hx rfl (hb hby d9_17) ?_
    show Steps p.tables e below (T5.setTop (mkF m 18 #[.val (.ref a1), .val (.ref a2), .val (.ref a3), .val (.int (1 : Int32))] [(.int (1 : Int32)), (.int (1 : Int32)), (.ref a1)])) _
    refine XS.iadd X5.here hx rfl (hb hby d9_18) rfl ?_
    show Steps p.tables e below (T5.setTop (mkF m 19 #[.val (.ref a1), .val (.ref a2), .val (.ref a3), .val (.int (1 : Int32))] [(.int ((1 : Int32) + (1 : Int32))), (.ref a1)])) _
    refine st6 _ ?_
    show Steps p.tables e below (T6.setTop (mkF m 22 #[.val (.ref a1), .val (.ref a2), .val (.ref a3), .val (.int (1 : Int32))] [])) _
    exact X6.returnOut hx Bd.returns (hb hby d9_22) hr
  · show own_A2 Z a1 a3 x0 a2 k mc none h0 n0 _ T6.heap _
    rw [e6]
    have V6 := Arv.set Ar_a3 q_a3 S_a3 N_a3 H_a3 G_a3 (v := .ref a2) rfl W5 1 rfl (Nat.le_of_ble_eq_true rfl)
    exact ⟨rfl, N6, K6, (E_a1.wr W5).wr W6, (F_modCount_a1.other W5 (Or.inl na)).other W6 (Or.inr (slot_ne (Or.inl (hw _ (List.mem_of_getElem? (i := 32) rfl))) (Or.inl (hw _ (List.mem_of_getElem? (i := 68) rfl))) (by decide) (t := .int) (t' := .int) (by decide) (by decide))), (F_elementData_a1.other W5 (Or.inl na)).other W6 (Or.inr (slot_ne (Or.inl (hw _ (List.mem_of_getElem? (i := 35) rfl))) (Or.inl (hw _ (List.mem_of_getElem? (i := 68) rfl))) (by decide) (t := (.array (.object "java/lang/Object"))) (t' := .int) (by decide) (by decide))), Fw6, V6.other W6 (Ne.symm na)⟩
theorem d8_0 : decode jdk_38_method_25_code 0 = .ok (.aload_n 0, 1) := by decide +kernel
theorem d8_1 : decode jdk_38_method_25_code 1 = .ok (.dup, 1) := by decide +kernel
theorem d8_2 : decode jdk_38_method_25_code 2 = .ok (.getfield 63, 3) := by decide +kernel
theorem d8_5 : decode jdk_38_method_25_code 5 = .ok (.iconst 1, 1) := by decide +kernel
theorem d8_6 : decode jdk_38_method_25_code 6 = .ok (.iadd, 1) := by decide +kernel
theorem d8_7 : decode jdk_38_method_25_code 7 = .ok (.putfield 63, 3) := by decide +kernel
theorem d8_10 : decode jdk_38_method_25_code 10 = .ok (.aload_n 0, 1) := by decide +kernel
theorem d8_11 : decode jdk_38_method_25_code 11 = .ok (.aload_n 1, 1) := by decide +kernel
theorem d8_12 : decode jdk_38_method_25_code 12 = .ok (.aload_n 0, 1) := by decide +kernel
theorem d8_13 : decode jdk_38_method_25_code 13 = .ok (.getfield 9, 3) := by decide +kernel
theorem d8_16 : decode jdk_38_method_25_code 16 = .ok (.aload_n 0, 1) := by decide +kernel
theorem d8_17 : decode jdk_38_method_25_code 17 = .ok (.getfield 48, 3) := by decide +kernel
theorem d8_20 : decode jdk_38_method_25_code 20 = .ok (.invokevirtual 131, 3) := by decide +kernel
theorem d8_23 : decode jdk_38_method_25_code 23 = .ok (.iconst 1, 1) := by decide +kernel
theorem d8_24 : decode jdk_38_method_25_code 24 = .ok (.ireturn, 1) := by decide +kernel
theorem pn_8 : plainName "java/util/ArrayList" = true := by first | (simp [plainName, overriddenIn]; done) | decide +kernel
theorem pd_8_6 : parseMethodDescriptor "(Ljava/lang/Object;[Ljava/lang/Object;I)V" = some ⟨[(.object "java/lang/Object"), (.array (.object "java/lang/Object")), .int], none⟩ := by decide +kernel
theorem ef_8 (m : MethodId) (x0 : Addr) (x1 : Addr) : entryFrame m #[(.ref x0), (.ref x1)] 2 = mkF m 0 #[.val (.ref x0), .val (.ref x1)] [] := by first | (simp [entryFrame, mkF, argsToLocals, Value.category]; done) | rfl
set_option maxRecDepth 65536 in
set_option maxHeartbeats 40000000 in
theorem rm8a (l : Launch) (Z : State) (a0 : Array Value) (hw : ∀ d ∈ tables_1, d.before a0 Z = true) (ws : List Jvm.Cond) (a1 : Addr) (a2 : Addr) (w6 : Addr) (cl_w6 : Cell) (h0 : Heap) (n0 : Nat) (Z0 : n0 ≤ h0.size) (F_elementData_a1 : Fld Z h0 a1 "java/util/ArrayList" "elementData" "[Ljava/lang/Object;" (.ref w6)) (Ar_w6 : Arr Z h0 w6 cl_w6 (.object "java/lang/Object")) (S_w6 : cl_w6.slots.size = (0 : Int32).toNatClampNeg) (S_DEF : Sta Z h0 "java/util/ArrayList" "DEFAULTCAPACITY_EMPTY_ELEMENTDATA" "[Ljava/lang/Object;" (.ref w6)) (E_a1 : Exa Z h0 a1 "java/util/ArrayList") (F_modCount_a1 : Fld Z h0 a1 "java/util/AbstractList" "modCount" "I" (.int (0 : Int32))) (F_size_a1 : Fld Z h0 a1 "java/util/ArrayList" "size" "I" (.int (0 : Int32))) (g_a1 : n0 ≤ a1) (E_a2 : Exa Z h0 a2 "com/example/tenacious_courier/tenaciouscourier/model/DeliveryStatus") :
    MetFree l (⟨"java/util/ArrayList", "add", "(Ljava/lang/Object;)Z"⟩ : MethodName) (head1 (Jvm.Cond.code (⟨"java/util/ArrayList", "add", "(Ljava/lang/Object;)Z"⟩ : MethodName) jdk_38_method_25_code 2 (some .boolean) :: ws) ({ frames := 4, cells := 1, slots := 10, locals := 56 } : Room)) (fun a U => a = #[(.ref a1), (.ref a2)] ∧ Z.Warmed39 U.vm ∧ U.heap = h0) (fun _ _ _ _ _ => True) (fun _ U o U' => ∃ v L, o = .returned v ∧ own_A1 Z a1 a2 (1 : Int32) (some (.int (1 : Int32))) h0 n0 v U'.heap L ∧ FrameEnd U o U' L ({ frames := 4, cells := 1, slots := 10, locals := 56 } : Room).cells ({ frames := 4, cells := 1, slots := 10, locals := 56 } : Room).slots) := by
  refine MetFree.of_bodySF (plainFor_of_name pn_8) hisR ?_
  intro p e s m args below meth c s₁ Bd hml0 hP hK
  obtain ⟨rfl, hZ, hh⟩ := hP
  have hx := Bd.exec
  have hby := Bd.bytes
  have hml : c.maxLocals = 2 := hml0
  have hown : s.vm.findClass "java/util/ArrayList" = some m.cls := findClass_of_methodNamed Bd.named
  have hnm := (name_of_methodNamed Bd.named Bd.method).1
  have X0 : Stand p l e ({ frames := 4, cells := 1, slots := 10, locals := 56 } : Room) s m #[(.ref a1), (.ref a2)] below meth c s₁ [] 0 0 := Stand.of_body Bd
  have e0 : s₁.heap = h0 := by rw [← hh, Bd.state]; rfl
  have N0 := Fr.nil n0
  have pre0 : ∀ t, Steps p.tables e below (s₁.setTop (mkF m 0 #[.val (.ref a1), .val (.ref a2)] [])) t → Steps p.tables e below (s₁.setTop (entryFrame m #[(.ref a1), (.ref a2)] 2)) t := fun t k => castTop (ef_8 m a1 a2) k
  obtain ⟨T4, X4, e4, st4⟩ := getF X0 hx hZ hown (host := "") (Or.inl (hw _ (List.mem_of_getElem? (i := 65) rfl))) (Via.of (hw _ (List.mem_of_getElem? (i := 66) rfl))) e0 F_modCount_a1 (g := (mkF m 2 #[.val (.ref a1), .val (.ref a2)] [(.ref a1), (.ref a1)])) rfl rfl (hb hby d8_2)
  obtain ⟨T5, h5, X5, e5, W5, st5⟩ := putF X4 hx hZ hown (host := "") (Or.inl (hw _ (List.mem_of_getElem? (i := 65) rfl))) (Via.of (hw _ (List.mem_of_getElem? (i := 66) rfl))) e4 F_modCount_a1 E_a1 (Or.inl (hw _ (List.mem_of_getElem? (i := 32) rfl))) (hw _ (List.mem_of_getElem? (i := 11) rfl)) (ty := .int) (by decide) rfl rfl (g := (mkF m 7 #[.val (.ref a1), .val (.ref a2)] [(.int ((0 : Int32) + (1 : Int32))), (.ref a1)])) rfl rfl (hb hby d8_7)
  have Fw5 := F_modCount_a1.same W5
  have K5 : Keep h0 h5 [a1] := (Keep.refl h0 [a1]).wr W5 (Or.inl (List.mem_of_getElem? (i := 0) rfl))
  have N5 := Fr.snoc X5 N0 g_a1
  obtain ⟨T7, X7, e7, st7⟩ := getF X5 hx hZ hown (host := "") (Or.inl (hw _ (List.mem_of_getElem? (i := 34) rfl))) Via.refl e5 (F_elementData_a1.other W5 (Or.inr (slot_ne (Or.inl (hw _ (List.mem_of_getElem? (i := 35) rfl))) (Or.inl (hw _ (List.mem_of_getElem? (i := 32) rfl))) (by decide) (t := (.array (.object "java/lang/Object"))) (t' := .int) (by decide) (by decide)))) (g := (mkF m 13 #[.val (.ref a1), .val (.ref a2)] [(.ref a1), (.ref a2), (.ref a1)])) rfl rfl (hb hby d8_13)
  obtain ⟨T9, X9, e9, st9⟩ := getF X7 hx hZ hown (host := "") (Or.inl (hw _ (List.mem_of_getElem? (i := 67) rfl))) Via.refl e7 (F_size_a1.other W5 (Or.inr (slot_ne (Or.inl (hw _ (List.mem_of_getElem? (i := 68) rfl))) (Or.inl (hw _ (List.mem_of_getElem? (i := 32) rfl))) (by decide) (t := .int) (t' := .int) (by decide) (by decide)))) (g := (mkF m 17 #[.val (.ref a1), .val (.ref a2)] [(.ref a1), (.ref w6), (.ref a2), (.ref a1)])) rfl rfl (hb hby d8_17)
  have nw : w6 ≠ a1 := fun q => by subst q; exact ne_arr E_a1 (hw _ (List.mem_of_getElem? (i := 11) rfl)) Ar_w6 rfl
  obtain ⟨cq10, q10, q10'⟩ := (E_a1.wr W5).cell
  obtain ⟨_, _, ⟨T10, L10, k10, n10⟩, -, X10, ⟨Lc10, hQ10, l10, y10, z10⟩, st10⟩ := X9.privateBack hx (y := (⟨"java/util/ArrayList", "add", "(Ljava/lang/Object;[Ljava/lang/Object;I)V"⟩ : MethodName)) hown (mvT hZ (hw _ (List.mem_of_getElem? (i := 69) rfl))) (mvT hZ (hw _ (List.mem_of_getElem? (i := 70) rfl))) (mvT hZ (hw _ (List.mem_of_getElem? (i := 72) rfl))) (Cond.privateMethod_at (mvP hZ (hw _ (List.mem_of_getElem? (i := 71) rfl)) (args := #[]))) (mvT hZ (hw _ (List.mem_of_getElem? (i := 73) rfl))) (by decide) (backOf (W := 0) (rm9f l Z a0 hw [] a1 a2 w6 cl_w6 (1 : Int32) h5 n0 (Nat.le_trans Z0 K5.1) (F_elementData_a1.other W5 (Or.inr (slot_ne (Or.inl (hw _ (List.mem_of_getElem? (i := 35) rfl))) (Or.inl (hw _ (List.mem_of_getElem? (i := 32) rfl))) (by decide) (t := (.array (.object "java/lang/Object"))) (t' := .int) (by decide) (by decide)))) (Ar_w6.other W5 nw) S_w6 (S_DEF.wr W5) (E_a1.wr W5) Fw5 (F_size_a1.other W5 (Or.inr (slot_ne (Or.inl (hw _ (List.mem_of_getElem? (i := 68) rfl))) (Or.inl (hw _ (List.mem_of_getElem? (i := 32) rfl))) (by decide) (t := .int) (t' := .int) (by decide) (by decide)))) g_a1 (E_a2.wr W5)) hZ (hw _ (List.mem_of_getElem? (i := 73) rfl)) (hw _ (List.mem_of_getElem? (i := 12) rfl)) (by decide) (by decide)) (g := (mkF m 20 #[.val (.ref a1), .val (.ref a2)] [(.int (0 : Int32)), (.ref w6), (.ref a2), (.ref a1)])) rfl (by rw [hml]; rfl) (Steps.refl _) (a := a1) (by rw [e9]; exact q10) q10' (argsL := [(.ref a2), (.ref w6), (.int (0 : Int32))]) (rest := []) (lenOf pd_8_6 rfl) rfl (by show 2 * 0 + _ ≤ _; exact Nat.le_of_eq rfl) (hb hby d8_20) (fun _ _ => ⟨rfl, e9, (by decide : 0 + 1 ≤ _), (by decide : 0 + 10 ≤ _)⟩)
  dsimp only [Pt.U, Pt.locs, Pt.cells, Pt.slots] at X10 l10 y10 z10 st10 hQ10
  subst l10 y10 z10
  obtain ⟨d, kd, rfl, N10q, K10q, E10q, z10q, M10q, D10q, S10q, V10q, O10q⟩ := hQ10
  have N10 := Fr.app N5 N10q
  obtain ⟨fs, hr, hrun, hended, hW, hsame⟩ := X10.leave (v := some (.int (1 : Int32))) (fun h => by rw [Bd.returns] at h; cases h)
  refine ⟨_, _, pre0 _ ?_, hrun, hended, _, _, rfl, ?_, ⟨_, rfl⟩, hW, hsame.mono (by decide) (by decide)⟩
  · show Steps p.tables e below (s₁.setTop (mkF m 0 #[.val (.ref a1), .val (.ref a2)] [])) _
    refine XS.aloadN X0.here hx rfl (hb hby d8_0) rfl rfl ?_
    show Steps p.tables e below (s₁.setTop (mkF m 1 #[.val (.ref a1), .val (.ref a2)] [(.ref a1)])) _
    refine XS.dup X0.here hx rfl (hb hby d8_1) rfl rfl ?_
    show Steps p.tables e below (s₁.setTop (mkF m 2 #[.val (.ref a1), .val (.ref a2)] [(.ref a1), (.ref a1)])) _
    refine st4 _ ?_
    show Steps p.tables e below (T4.setTop (mkF m 5 #[.val (.ref a1), .val (.ref a2)] [(.int (0 : Int32)), (.ref a1)])) _
    refine XS.iconst X4.here hx rfl (hb hby d8_5) ?_
    show Steps p.tables e below (T4.setTop (mkF m 6 #[.val (.ref a1), .val (.ref a2)] [(.int (1 : Int32)), (.int (0 : Int32)), (.ref a1)])) _
    refine XS.iadd X4.here hx rfl (hb hby d8_6) rfl ?_
    show Steps p.tables e below (T4.setTop (mkF m 7 #[.val (.ref a1), .val (.ref a2)] [(.int ((0 : Int32) + (1 : Int32))), (.ref a1)])) _
    refine st5 _ ?_
    show Steps p.tables e below (T5.setTop (mkF m 10 #[.val (.ref a1), .val (.ref a2)] [])) _
    refine XS.aloadN X5.here hx rfl (hb hby d8_10) rfl rfl ?_
    show Steps p.tables e below (T5.setTop (mkF m 11 #[.val (.ref a1), .val (.ref a2)] [(.ref a1)])) _
    refine XS.aloadN X5.here hx rfl (hb hby d8_11) rfl rfl ?_
    show Steps p.tables e below (T5.setTop (mkF m 12 #[.val (.ref a1), .val (.ref a2)] [(.ref a2), (.ref a1)])) _
    refine XS.aloadN X5.here hx rfl (hb hby d8_12) rfl rfl ?_
    show Steps p.tables e below (T5.setTop (mkF m 13 #[.val (.ref a1), .val (.ref a2)] [(.ref a1), (.ref a2), (.ref a1)])) _
    refine st7 _ ?_
    show Steps p.tables e below (T7.setTop (mkF m 16 #[.val (.ref a1), .val (.ref a2)] [(.ref w6), (.ref a2), (.ref a1)])) _
    refine XS.aloadN X7.here hx rfl (hb hby d8_16) rfl rfl ?_
    show Steps p.tables e below (T7.setTop (mkF m 17 #[.val (.ref a1), .val (.ref a2)] [(.ref a1), (.ref w6), (.ref a2), (.ref a1)])) _
    refine st9 _ ?_
    show Steps p.tables e below (T9.setTop (mkF m 20 #[.val (.ref a1), .val (.ref a2)] [(.int (0 : Int32)), (.ref w6), (.ref a2), (.ref a1)])) _
    refine st10.trans ?_
    show Steps p.tables e below (T10.setTop (mkF m 23 #[.val (.ref a1), .val (.ref a2)] [])) _
    refine XS.iconst X10.here hx rfl (hb hby d8_23) ?_
    show Steps p.tables e below (T10.setTop (mkF m 24 #[.val (.ref a1), .val (.ref a2)] [(.int (1 : Int32))])) _
    exact retN X10 hx (t := .boolean) Bd.returns (by simp) (hb hby d8_24) hr
  · show own_A1 Z a1 a2 (1 : Int32) (some (.int (1 : Int32))) h0 n0 _ T10.heap _
    exact ⟨d, kd, rfl, N10, K5.trans K10q (fun x hx => Or.inl hx), E10q, Nat.le_trans K5.1 z10q, M10q, D10q, S10q, V10q, O10q⟩
set_option maxRecDepth 65536 in
set_option maxHeartbeats 40000000 in
theorem rm8b (l : Launch) (Z : State) (a0 : Array Value) (hw : ∀ d ∈ tables_1, d.before a0 Z = true) (ws : List Jvm.Cond) (a1 : Addr) (a2 : Addr) (w6 : Addr) (x0 : Addr) (k : ClassId) (h0 : Heap) (n0 : Nat) (Z0 : n0 ≤ h0.size) (V_w6 : Arv Z h0 w6 k (.object "java/lang/Object") (10 : Int32) [(.ref x0), .null, .null, .null, .null, .null, .null, .null, .null, .null] .null) (O_w6 : Ovr Z k "java/lang/Object") (F_elementData_a1 : Fld Z h0 a1 "java/util/ArrayList" "elementData" "[Ljava/lang/Object;" (.ref w6)) (E_a1 : Exa Z h0 a1 "java/util/ArrayList") (F_modCount_a1 : Fld Z h0 a1 "java/util/AbstractList" "modCount" "I" (.int (1 : Int32))) (F_size_a1 : Fld Z h0 a1 "java/util/ArrayList" "size" "I" (.int (1 : Int32))) (g_a1 : n0 ≤ a1) (g_w6 : n0 ≤ w6) (na : a1 ≠ w6) (E_a2 : Exa Z h0 a2 "com/example/tenacious_courier/tenaciouscourier/model/DeliveryStatus") :
    MetFree l (⟨"java/util/ArrayList", "add", "(Ljava/lang/Object;)Z"⟩ : MethodName) (head1 (Jvm.Cond.code (⟨"java/util/ArrayList", "add", "(Ljava/lang/Object;)Z"⟩ : MethodName) jdk_38_method_25_code 2 (some .boolean) :: ws) ({ frames := 1, cells := 0, slots := 0, locals := 15 } : Room)) (fun a U => a = #[(.ref a1), (.ref a2)] ∧ Z.Warmed39 U.vm ∧ U.heap = h0) (fun _ _ _ _ _ => True) (fun _ U o U' => ∃ v L, o = .returned v ∧ own_A2 Z a1 w6 x0 a2 k (2 : Int32) (some (.int (1 : Int32))) h0 n0 v U'.heap L ∧ FrameEnd U o U' L ({ frames := 1, cells := 0, slots := 0, locals := 15 } : Room).cells ({ frames := 1, cells := 0, slots := 0, locals := 15 } : Room).slots) := by
  refine MetFree.of_bodySF (plainFor_of_name pn_8) hisR ?_
  intro p e s m args below meth c s₁ Bd hml0 hP hK
  obtain ⟨rfl, hZ, hh⟩ := hP
  have hx := Bd.exec
  have hby := Bd.bytes
  have hml : c.maxLocals = 2 := hml0
  have hown : s.vm.findClass "java/util/ArrayList" = some m.cls := findClass_of_methodNamed Bd.named
  have hnm := (name_of_methodNamed Bd.named Bd.method).1
  have X0 : Stand p l e ({ frames := 1, cells := 0, slots := 0, locals := 15 } : Room) s m #[(.ref a1), (.ref a2)] below meth c s₁ [] 0 0 := Stand.of_body Bd
  have e0 : s₁.heap = h0 := by rw [← hh, Bd.state]; rfl
  have N0 := Fr.nil n0
  have pre0 : ∀ t, Steps p.tables e below (s₁.setTop (mkF m 0 #[.val (.ref a1), .val (.ref a2)] [])) t → Steps p.tables e below (s₁.setTop (entryFrame m #[(.ref a1), (.ref a2)] 2)) t := fun t k => castTop (ef_8 m a1 a2) k
  obtain ⟨T4, X4, e4, st4⟩ := getF X0 hx hZ hown (host := "") (Or.inl (hw _ (List.mem_of_getElem? (i := 65) rfl))) (Via.of (hw _ (List.mem_of_getElem? (i := 66) rfl))) e0 F_modCount_a1 (g := (mkF m 2 #[.val (.ref a1), .val (.ref a2)] [(.ref a1), (.ref a1)])) rfl rfl (hb hby d8_2)
  obtain ⟨T5, h5, X5, e5, W5, st5⟩ := putF X4 hx hZ hown (host := "") (Or.inl (hw _ (List.mem_of_getElem? (i := 65) rfl))) (Via.of (hw _ (List.mem_of_getElem? (i := 66) rfl))) e4 F_modCount_a1 E_a1 (Or.inl (hw _ (List.mem_of_getElem? (i := 32) rfl))) (hw _ (List.mem_of_getElem? (i := 11) rfl)) (ty := .int) (by decide) rfl rfl (g := (mkF m 7 #[.val (.ref a1), .val (.ref a2)] [(.int ((1 : Int32) + (1 : Int32))), (.ref a1)])) rfl rfl (hb hby d8_7)
  have Fw5 := F_modCount_a1.same W5
  have K5 : Keep h0 h5 [a1] := (Keep.refl h0 [a1]).wr W5 (Or.inl (List.mem_of_getElem? (i := 0) rfl))
  have N5 := Fr.snoc X5 N0 g_a1
  obtain ⟨T7, X7, e7, st7⟩ := getF X5 hx hZ hown (host := "") (Or.inl (hw _ (List.mem_of_getElem? (i := 34) rfl))) Via.refl e5 (F_elementData_a1.other W5 (Or.inr (slot_ne (Or.inl (hw _ (List.mem_of_getElem? (i := 35) rfl))) (Or.inl (hw _ (List.mem_of_getElem? (i := 32) rfl))) (by decide) (t := (.array (.object "java/lang/Object"))) (t' := .int) (by decide) (by decide)))) (g := (mkF m 13 #[.val (.ref a1), .val (.ref a2)] [(.ref a1), (.ref a2), (.ref a1)])) rfl rfl (hb hby d8_13)
  obtain ⟨T9, X9, e9, st9⟩ := getF X7 hx hZ hown (host := "") (Or.inl (hw _ (List.mem_of_getElem? (i := 67) rfl))) Via.refl e7 (F_size_a1.other W5 (Or.inr (slot_ne (Or.inl (hw _ (List.mem_of_getElem? (i := 68) rfl))) (Or.inl (hw _ (List.mem_of_getElem? (i := 32) rfl))) (by decide) (t := .int) (t' := .int) (by decide) (by decide)))) (g := (mkF m 17 #[.val (.ref a1), .val (.ref a2)] [(.ref a1), (.ref w6), (.ref a2), (.ref a1)])) rfl rfl (hb hby d8_17)
  obtain ⟨cq10, q10, q10'⟩ := (E_a1.wr W5).cell
  obtain ⟨_, _, ⟨T10, L10, k10, n10⟩, -, X10, ⟨Lc10, hQ10, l10, y10, z10⟩, st10⟩ := X9.privateBack hx (y := (⟨"java/util/ArrayList", "add", "(Ljava/lang/Object;[Ljava/lang/Object;I)V"⟩ : MethodName)) hown (mvT hZ (hw _ (List.mem_of_getElem? (i := 69) rfl))) (mvT hZ (hw _ (List.mem_of_getElem? (i := 70) rfl))) (mvT hZ (hw _ (List.mem_of_getElem? (i := 72) rfl))) (Cond.privateMethod_at (mvP hZ (hw _ (List.mem_of_getElem? (i := 71) rfl)) (args := #[]))) (mvT hZ (hw _ (List.mem_of_getElem? (i := 73) rfl))) (by decide) (backOf (W := 0) (rm9t l Z a0 hw [] a1 a2 w6 x0 k (2 : Int32) h5 n0 (Nat.le_trans Z0 K5.1) (V_w6.other W5 (Ne.symm na)) O_w6 (F_elementData_a1.other W5 (Or.inr (slot_ne (Or.inl (hw _ (List.mem_of_getElem? (i := 35) rfl))) (Or.inl (hw _ (List.mem_of_getElem? (i := 32) rfl))) (by decide) (t := (.array (.object "java/lang/Object"))) (t' := .int) (by decide) (by decide)))) (E_a1.wr W5) Fw5 (F_size_a1.other W5 (Or.inr (slot_ne (Or.inl (hw _ (List.mem_of_getElem? (i := 68) rfl))) (Or.inl (hw _ (List.mem_of_getElem? (i := 32) rfl))) (by decide) (t := .int) (t' := .int) (by decide) (by decide)))) g_a1 g_w6 na (E_a2.wr W5)) hZ (hw _ (List.mem_of_getElem? (i := 73) rfl)) (hw _ (List.mem_of_getElem? (i := 12) rfl)) (by decide) (by decide)) (g := (mkF m 20 #[.val (.ref a1), .val (.ref a2)] [(.int (1 : Int32)), (.ref w6), (.ref a2), (.ref a1)])) rfl (by rw [hml]; rfl) (Steps.refl _) (a := a1) (by rw [e9]; exact q10) q10' (argsL := [(.ref a2), (.ref w6), (.int (1 : Int32))]) (rest := []) (lenOf pd_8_6 rfl) rfl (by show 2 * 0 + _ ≤ _; exact Nat.le_of_eq rfl) (hb hby d8_20) (fun _ _ => ⟨rfl, e9, (by decide : 0 + 0 ≤ _), (by decide : 0 + 0 ≤ _)⟩)
  dsimp only [Pt.U, Pt.locs, Pt.cells, Pt.slots] at X10 l10 y10 z10 st10 hQ10
  subst l10 y10 z10
  obtain ⟨rfl, N10q, K10q, E10q, M10q, D10q, S10q, V10q⟩ := hQ10
  have N10 := Fr.app N5 N10q
  obtain ⟨fs, hr, hrun, hended, hW, hsame⟩ := X10.leave (v := some (.int (1 : Int32))) (fun h => by rw [Bd.returns] at h; cases h)
  refine ⟨_, _, pre0 _ ?_, hrun, hended, _, _, rfl, ?_, ⟨_, rfl⟩, hW, hsame.mono (by decide) (by decide)⟩
  · show Steps p.tables e below (s₁.setTop (mkF m 0 #[.val (.ref a1), .val (.ref a2)] [])) _
    refine XS.aloadN X0.here hx rfl (hb hby d8_0) rfl rfl ?_
    show Steps p.tables e below (s₁.setTop (mkF m 1 #[.val (.ref a1), .val (.ref a2)] [(.ref a1)])) _
    refine XS.dup X0.here hx rfl (hb hby d8_1) rfl rfl ?_
    show Steps p.tables e below (s₁.setTop (mkF m 2 #[.val (.ref a1), .val (.ref a2)] [(.ref a1), (.ref a1)])) _
    refine st4 _ ?_
    show Steps p.tables e below (T4.setTop (mkF m 5 #[.val (.ref a1), .val (.ref a2)] [(.int (1 : Int32)), (.ref a1)])) _
    refine XS.iconst X4.here hx rfl (hb hby d8_5) ?_
    show Steps p.tables e below (T4.setTop (mkF m 6 #[.val (.ref a1), .val (.ref a2)] [(.int (1 : Int32)), (.int (1 : Int32)), (.ref a1)])) _
    refine XS.iadd X4.here hx rfl (hb hby d8_6) rfl ?_
    show Steps p.tables e below (T4.setTop (mkF m 7 #[.val (.ref a1), .val (.ref a2)] [(.int ((1 : Int32) + (1 : Int32))), (.ref a1)])) _
    refine st5 _ ?_
    show Steps p.tables e below (T5.setTop (mkF m 10 #[.val (.ref a1), .val (.ref a2)] [])) _
    refine XS.aloadN X5.here hx rfl (hb hby d8_10) rfl rfl ?_
    show Steps p.tables e below (T5.setTop (mkF m 11 #[.val (.ref a1), .val (.ref a2)] [(.ref a1)])) _
    refine XS.aloadN X5.here hx rfl (hb hby d8_11) rfl rfl ?_
    show Steps p.tables e below (T5.setTop (mkF m 12 #[.val (.ref a1), .val (.ref a2)] [(.ref a2), (.ref a1)])) _
    refine XS.aloadN X5.here hx rfl (hb hby d8_12) rfl rfl ?_
    show Steps p.tables e below (T5.setTop (mkF m 13 #[.val (.ref a1), .val (.ref a2)] [(.ref a1), (.ref a2), (.ref a1)])) _
    refine st7 _ ?_
    show Steps p.tables e below (T7.setTop (mkF m 16 #[.val (.ref a1), .val (.ref a2)] [(.ref w6), (.ref a2), (.ref a1)])) _
    refine XS.aloadN X7.here hx rfl (hb hby d8_16) rfl rfl ?_
    show Steps p.tables e below (T7.setTop (mkF m 17 #[.val (.ref a1), .val (.ref a2)] [(.ref a1), (.ref w6), (.ref a2), (.ref a1)])) _
    refine st9 _ ?_
    show Steps p.tables e below (T9.setTop (mkF m 20 #[.val (.ref a1), .val (.ref a2)] [(.int (1 : Int32)), (.ref w6), (.ref a2), (.ref a1)])) _
    refine st10.trans ?_
    show Steps p.tables e below (T10.setTop (mkF m 23 #[.val (.ref a1), .val (.ref a2)] [])) _
    refine XS.iconst X10.here hx rfl (hb hby d8_23) ?_
    show Steps p.tables e below (T10.setTop (mkF m 24 #[.val (.ref a1), .val (.ref a2)] [(.int (1 : Int32))])) _
    exact retN X10 hx (t := .boolean) Bd.returns (by simp) (hb hby d8_24) hr
  · show own_A2 Z a1 w6 x0 a2 k (2 : Int32) (some (.int (1 : Int32))) h0 n0 _ T10.heap _
    exact ⟨rfl, N10, ((Keep.refl h0 [w6, a1]).wr W5 (Or.inl (List.mem_of_getElem? (i := 1) rfl))).trans K10q (fun x hx => Or.inl hx), E10q, M10q, D10q, S10q, V10q⟩
theorem d13_0 : decode jdk_38_method_8_code 0 = .ok (.aload_n 0, 1) := by decide +kernel
theorem d13_1 : decode jdk_38_method_8_code 1 = .ok (.getfield 48, 3) := by decide +kernel
theorem d13_4 : decode jdk_38_method_8_code 4 = .ok (.ireturn, 1) := by decide +kernel
theorem pn_13 : plainName "java/util/ArrayList" = true := by first | (simp [plainName, overriddenIn]; done) | decide +kernel
theorem ef_13 (m : MethodId) (x0 : Addr) : entryFrame m #[(.ref x0)] 1 = mkF m 0 #[.val (.ref x0)] [] := by first | (simp [entryFrame, mkF, argsToLocals, Value.category]; done) | rfl
def Q13 (Z : State) (a1 : Addr) (w2 : Int32) (h0 : Heap) (n0 : Nat) (v : Option Value) (h : Heap) (L : List Loc) : Prop := v = some (.int w2) ∧ Fr n0 L ∧ h = h0
set_option maxRecDepth 65536 in
set_option maxHeartbeats 40000000 in
theorem rm13 (l : Launch) (Z : State) (a0 : Array Value) (hw : ∀ d ∈ tables_1, d.before a0 Z = true) (ws : List Jvm.Cond) (a1 : Addr) (w2 : Int32) (h0 : Heap) (n0 : Nat) (Z0 : n0 ≤ h0.size) (F_size_a1 : Fld Z h0 a1 "java/util/ArrayList" "size" "I" (.int w2)) :
    MetFree l (⟨"java/util/ArrayList", "size", "()I"⟩ : MethodName) (head1 (Jvm.Cond.code (⟨"java/util/ArrayList", "size", "()I"⟩ : MethodName) jdk_38_method_8_code 1 (some .int) :: ws) ({ frames := 0, cells := 0, slots := 0, locals := 0 } : Room)) (fun a U => a = #[(.ref a1)] ∧ Z.Warmed39 U.vm ∧ U.heap = h0) (fun _ _ _ _ _ => True) (fun _ U o U' => ∃ v L, o = .returned v ∧ Q13 Z a1 w2 h0 n0 v U'.heap L ∧ FrameEnd U o U' L ({ frames := 0, cells := 0, slots := 0, locals := 0 } : Room).cells ({ frames := 0, cells := 0, slots := 0, locals := 0 } : Room).slots) := by
  refine MetFree.of_bodySF (plainFor_of_name pn_13) hisR ?_
  intro p e s m args below meth c s₁ Bd hml0 hP hK
  obtain ⟨rfl, hZ, hh⟩ := hP
  have hx := Bd.exec
  have hby := Bd.bytes
  have hml : c.maxLocals = 1 := hml0
  have hown : s.vm.findClass "java/util/ArrayList" = some m.cls := findClass_of_methodNamed Bd.named
  have hnm := (name_of_methodNamed Bd.named Bd.method).1
  have X0 : Stand p l e ({ frames := 0, cells := 0, slots := 0, locals := 0 } : Room) s m #[(.ref a1)] below meth c s₁ [] 0 0 := Stand.of_body Bd
  have e0 : s₁.heap = h0 := by rw [← hh, Bd.state]; rfl
  have N0 := Fr.nil n0
  have pre0 : ∀ t, Steps p.tables e below (s₁.setTop (mkF m 0 #[.val (.ref a1)] [])) t → Steps p.tables e below (s₁.setTop (entryFrame m #[(.ref a1)] 1)) t := fun t k => castTop (ef_13 m a1) k
  obtain ⟨T3, X3, e3, st3⟩ := getF X0 hx hZ hown (host := "") (Or.inl (hw _ (List.mem_of_getElem? (i := 67) rfl))) Via.refl e0 F_size_a1 (g := (mkF m 1 #[.val (.ref a1)] [(.ref a1)])) rfl rfl (hb hby d13_1)
  obtain ⟨fs, hr, hrun, hended, hW, hsame⟩ := X3.leave (v := some (.int w2)) (fun h => by rw [Bd.returns] at h; cases h)
  refine ⟨_, _, pre0 _ ?_, hrun, hended, _, _, rfl, ?_, ⟨_, rfl⟩, hW, hsame.mono (by decide) (by decide)⟩
  · show Steps p.tables e below (s₁.setTop (mkF m 0 #[.val (.ref a1)] [])) _
    refine XS.aloadN X0.here hx rfl (hb hby d13_0) rfl rfl ?_
    show Steps p.tables e below (s₁.setTop (mkF m 1 #[.val (.ref a1)] [(.ref a1)])) _
    refine st3 _ ?_
    show Steps p.tables e below (T3.setTop (mkF m 4 #[.val (.ref a1)] [(.int w2)])) _
    exact retI X3 hx Bd.returns (hb hby d13_4) hr
  · show Q13 Z a1 w2 h0 n0 _ T3.heap _
    rw [e3]
    exact ⟨rfl, N0, rfl⟩
theorem d16_0 : decode jdk_41_method_11_code 0 = .ok (.iload_n 0, 1) := by decide +kernel
theorem d16_1 : decode jdk_41_method_11_code 1 = .ok (.ifCond .lt 8, 3) := by decide +kernel
theorem d16_4 : decode jdk_41_method_11_code 4 = .ok (.iload_n 0, 1) := by decide +kernel
theorem d16_5 : decode jdk_41_method_11_code 5 = .ok (.iload_n 1, 1) := by decide +kernel
theorem d16_6 : decode jdk_41_method_11_code 6 = .ok (.if_icmp .lt 10, 3) := by decide +kernel
theorem d16_16 : decode jdk_41_method_11_code 16 = .ok (.iload_n 0, 1) := by decide +kernel
theorem d16_17 : decode jdk_41_method_11_code 17 = .ok (.ireturn, 1) := by decide +kernel
theorem pn_16 : plainName "jdk/internal/util/Preconditions" = true := by first | (simp [plainName, overriddenIn]; done) | decide +kernel
theorem ef_16 (m : MethodId) (x0 : Int32) (x1 : Int32) : entryFrame m #[(.int x0), (.int x1), .null] 3 = mkF m 0 #[.val (.int x0), .val (.int x1), .val .null] [] := by first | (simp [entryFrame, mkF, argsToLocals, Value.category]; done) | rfl
def Q16 (Z : State) (p1 : Int32) (p2 : Int32) (h0 : Heap) (n0 : Nat) (v : Option Value) (h : Heap) (L : List Loc) : Prop := v = some (.int p1) ∧ Fr n0 L ∧ h = h0
set_option maxRecDepth 65536 in
set_option maxHeartbeats 40000000 in
theorem rm16 (l : Launch) (Z : State) (a0 : Array Value) (hw : ∀ d ∈ tables_1, d.before a0 Z = true) (ws : List Jvm.Cond) (p1 : Int32) (p2 : Int32) (h0 : Heap) (n0 : Nat) (Z0 : n0 ≤ h0.size) (hc1 : ¬ (p1 < (0 : Int32))) (hc6 : p1 < p2) :
    MetFree l (⟨"jdk/internal/util/Preconditions", "checkIndex", "(IILjava/util/function/BiFunction;)I"⟩ : MethodName) (head1 (Jvm.Cond.code (⟨"jdk/internal/util/Preconditions", "checkIndex", "(IILjava/util/function/BiFunction;)I"⟩ : MethodName) jdk_41_method_11_code 3 (some .int) :: ws) ({ frames := 0, cells := 0, slots := 0, locals := 0 } : Room)) (fun a U => a = #[(.int p1), (.int p2), .null] ∧ Z.Warmed39 U.vm ∧ U.heap = h0) (fun _ _ _ _ _ => True) (fun _ U o U' => ∃ v L, o = .returned v ∧ Q16 Z p1 p2 h0 n0 v U'.heap L ∧ FrameEnd U o U' L ({ frames := 0, cells := 0, slots := 0, locals := 0 } : Room).cells ({ frames := 0, cells := 0, slots := 0, locals := 0 } : Room).slots) := by
  refine MetFree.of_bodySF (plainFor_of_name pn_16) hisR ?_
  intro p e s m args below meth c s₁ Bd hml0 hP hK
  obtain ⟨rfl, hZ, hh⟩ := hP
  have hx := Bd.exec
  have hby := Bd.bytes
  have hml : c.maxLocals = 3 := hml0
  have hown : s.vm.findClass "jdk/internal/util/Preconditions" = some m.cls := findClass_of_methodNamed Bd.named
  have hnm := (name_of_methodNamed Bd.named Bd.method).1
  have X0 : Stand p l e ({ frames := 0, cells := 0, slots := 0, locals := 0 } : Room) s m #[(.int p1), (.int p2), .null] below meth c s₁ [] 0 0 := Stand.of_body Bd
  have e0 : s₁.heap = h0 := by rw [← hh, Bd.state]; rfl
  have N0 := Fr.nil n0
  have pre0 : ∀ t, Steps p.tables e below (s₁.setTop (mkF m 0 #[.val (.int p1), .val (.int p2), .val .null] [])) t → Steps p.tables e below (s₁.setTop (entryFrame m #[(.int p1), (.int p2), .null] 3)) t := fun t k => castTop (ef_16 m p1 p2) k

  obtain ⟨fs, hr, hrun, hended, hW, hsame⟩ := X0.leave (v := some (.int p1)) (fun h => by rw [Bd.returns] at h; cases h)
  refine ⟨_, _, pre0 _ ?_, hrun, hended, _, _, rfl, ?_, ⟨_, rfl⟩, hW, hsame.mono (by decide) (by decide)⟩
  · show Steps p.tables e below (s₁.setTop (mkF m 0 #[.val (.int p1), .val (.int p2), .val .null] [])) _
    refine XS.iloadN X0.here hx rfl (hb hby d16_0) rfl ?_
    show Steps p.tables e below (s₁.setTop (mkF m 1 #[.val (.int p1), .val (.int p2), .val .null] [(.int p1)])) _
    refine XS.ifNo X0.here hx rfl (hb hby d16_1) rfl ((if0 _ _).trans (flt hc1).1) ?_
    show Steps p.tables e below (s₁.setTop (mkF m 4 #[.val (.int p1), .val (.int p2), .val .null] [])) _
    refine XS.iloadN X0.here hx rfl (hb hby d16_4) rfl ?_
    show Steps p.tables e below (s₁.setTop (mkF m 5 #[.val (.int p1), .val (.int p2), .val .null] [(.int p1)])) _
    refine XS.iloadN X0.here hx rfl (hb hby d16_5) rfl ?_
    show Steps p.tables e below (s₁.setTop (mkF m 6 #[.val (.int p1), .val (.int p2), .val .null] [(.int p2), (.int p1)])) _
    refine XS.icmpYes X0.here hx rfl (pc0 := 6) (pc' := 16) rfl (hb hby d16_6) rfl (tlt hc6).1 (by decide) (by decide) ?_
    show Steps p.tables e below (s₁.setTop (mkF m 16 #[.val (.int p1), .val (.int p2), .val .null] [])) _
    refine XS.iloadN X0.here hx rfl (hb hby d16_16) rfl ?_
    show Steps p.tables e below (s₁.setTop (mkF m 17 #[.val (.int p1), .val (.int p2), .val .null] [(.int p1)])) _
    exact retI X0 hx Bd.returns (hb hby d16_17) hr
  · show Q16 Z p1 p2 h0 n0 _ s₁.heap _
    rw [e0]
    exact ⟨rfl, N0, rfl⟩
theorem d15_0 : decode jdk_31_method_17_code 0 = .ok (.iload_n 0, 1) := by decide +kernel
theorem d15_1 : decode jdk_31_method_17_code 1 = .ok (.iload_n 1, 1) := by decide +kernel
theorem d15_2 : decode jdk_31_method_17_code 2 = .ok (.aconst_null, 1) := by decide +kernel
theorem d15_3 : decode jdk_31_method_17_code 3 = .ok (.invokestatic 105, 3) := by decide +kernel
theorem d15_6 : decode jdk_31_method_17_code 6 = .ok (.ireturn, 1) := by decide +kernel
theorem pn_15 : plainName "java/util/Objects" = true := by first | (simp [plainName, overriddenIn]; done) | decide +kernel
theorem pd_15_12 : parseMethodDescriptor "(IILjava/util/function/BiFunction;)I" = some ⟨[.int, .int, (.object "java/util/function/BiFunction")], some .int⟩ := by decide +kernel
theorem ef_15 (m : MethodId) (x0 : Int32) (x1 : Int32) : entryFrame m #[(.int x0), (.int x1)] 2 = mkF m 0 #[.val (.int x0), .val (.int x1)] [] := by first | (simp [entryFrame, mkF, argsToLocals, Value.category]; done) | rfl
def Q15 (Z : State) (p1 : Int32) (p2 : Int32) (h0 : Heap) (n0 : Nat) (v : Option Value) (h : Heap) (L : List Loc) : Prop := v = some (.int p1) ∧ Fr n0 L ∧ h = h0
set_option maxRecDepth 65536 in
set_option maxHeartbeats 40000000 in
theorem rm15 (l : Launch) (Z : State) (a0 : Array Value) (hw : ∀ d ∈ tables_1, d.before a0 Z = true) (ws : List Jvm.Cond) (p1 : Int32) (p2 : Int32) (h0 : Heap) (n0 : Nat) (Z0 : n0 ≤ h0.size) (hc1 : ¬ (p1 < (0 : Int32))) (hc6 : p1 < p2) :
    MetFree l (⟨"java/util/Objects", "checkIndex", "(II)I"⟩ : MethodName) (head1 (Jvm.Cond.code (⟨"java/util/Objects", "checkIndex", "(II)I"⟩ : MethodName) jdk_31_method_17_code 2 (some .int) :: ws) ({ frames := 1, cells := 0, slots := 0, locals := 14 } : Room)) (fun a U => a = #[(.int p1), (.int p2)] ∧ Z.Warmed39 U.vm ∧ U.heap = h0) (fun _ _ _ _ _ => True) (fun _ U o U' => ∃ v L, o = .returned v ∧ Q15 Z p1 p2 h0 n0 v U'.heap L ∧ FrameEnd U o U' L ({ frames := 1, cells := 0, slots := 0, locals := 14 } : Room).cells ({ frames := 1, cells := 0, slots := 0, locals := 14 } : Room).slots) := by
  refine MetFree.of_bodySF (plainFor_of_name pn_15) hisR ?_
  intro p e s m args below meth c s₁ Bd hml0 hP hK
  obtain ⟨rfl, hZ, hh⟩ := hP
  have hx := Bd.exec
  have hby := Bd.bytes
  have hml : c.maxLocals = 2 := hml0
  have hown : s.vm.findClass "java/util/Objects" = some m.cls := findClass_of_methodNamed Bd.named
  have hnm := (name_of_methodNamed Bd.named Bd.method).1
  have X0 : Stand p l e ({ frames := 1, cells := 0, slots := 0, locals := 14 } : Room) s m #[(.int p1), (.int p2)] below meth c s₁ [] 0 0 := Stand.of_body Bd
  have e0 : s₁.heap = h0 := by rw [← hh, Bd.state]; rfl
  have N0 := Fr.nil n0
  have pre0 : ∀ t, Steps p.tables e below (s₁.setTop (mkF m 0 #[.val (.int p1), .val (.int p2)] [])) t → Steps p.tables e below (s₁.setTop (entryFrame m #[(.int p1), (.int p2)] 2)) t := fun t k => castTop (ef_15 m p1 p2) k
  obtain ⟨_, _, ⟨T3, L3, k3, n3⟩, -, X3, ⟨Lc3, hQ3, l3, y3, z3⟩, st3⟩ := Jvm.LawKit.callS X0 hx (y := (⟨"jdk/internal/util/Preconditions", "checkIndex", "(IILjava/util/function/BiFunction;)I"⟩ : MethodName)) hown (mvT hZ (hw _ (List.mem_of_getElem? (i := 111) rfl))) (mvT hZ (hw _ (List.mem_of_getElem? (i := 112) rfl))) (mvT hZ (hw _ (List.mem_of_getElem? (i := 113) rfl))) (mvT hZ (hw _ (List.mem_of_getElem? (i := 114) rfl))) (by decide) (backOf (W := 0) (rm16 l Z a0 hw [] p1 p2 h0 n0 Z0 hc1 hc6) hZ (hw _ (List.mem_of_getElem? (i := 114) rfl)) (hw _ (List.mem_of_getElem? (i := 113) rfl)) (by decide) (by decide)) (g := (mkF m 3 #[.val (.int p1), .val (.int p2)] [.null, (.int p2), (.int p1)])) rfl (by rw [hml]; rfl) (argsL := [(.int p1), (.int p2), .null]) (rest := []) (lenOf pd_15_12 rfl) rfl (by show 2 * 0 + _ ≤ _; exact Nat.le_of_eq rfl) (hb hby d15_3) (fun _ _ => ⟨rfl, e0, (by decide : 0 + 0 ≤ _), (by decide : 0 + 0 ≤ _)⟩)
  dsimp only [Pt.U, Pt.locs, Pt.cells, Pt.slots] at X3 l3 y3 z3 st3 hQ3
  subst l3 y3 z3
  obtain ⟨rfl, N3q, kq16⟩ := hQ3
  have N3 := Fr.app N0 N3q
  obtain ⟨fs, hr, hrun, hended, hW, hsame⟩ := X3.leave (v := some (.int p1)) (fun h => by rw [Bd.returns] at h; cases h)
  refine ⟨_, _, pre0 _ ?_, hrun, hended, _, _, rfl, ?_, ⟨_, rfl⟩, hW, hsame.mono (by decide) (by decide)⟩
  · show Steps p.tables e below (s₁.setTop (mkF m 0 #[.val (.int p1), .val (.int p2)] [])) _
    refine XS.iloadN X0.here hx rfl (hb hby d15_0) rfl ?_
    show Steps p.tables e below (s₁.setTop (mkF m 1 #[.val (.int p1), .val (.int p2)] [(.int p1)])) _
    refine XS.iloadN X0.here hx rfl (hb hby d15_1) rfl ?_
    show Steps p.tables e below (s₁.setTop (mkF m 2 #[.val (.int p1), .val (.int p2)] [(.int p2), (.int p1)])) _
    refine XS.aconstNull X0.here hx rfl (hb hby d15_2) ?_
    show Steps p.tables e below (s₁.setTop (mkF m 3 #[.val (.int p1), .val (.int p2)] [.null, (.int p2), (.int p1)])) _
    refine st3 _ ?_
    show Steps p.tables e below (T3.setTop (mkF m 6 #[.val (.int p1), .val (.int p2)] [(.int p1)])) _
    exact retI X3 hx Bd.returns (hb hby d15_6) hr
  · show Q15 Z p1 p2 h0 n0 _ T3.heap _
    exact ⟨rfl, N3, kq16⟩
theorem d17_0 : decode jdk_38_method_18_code 0 = .ok (.aload_n 0, 1) := by decide +kernel
theorem d17_1 : decode jdk_38_method_18_code 1 = .ok (.getfield 9, 3) := by decide +kernel
theorem d17_4 : decode jdk_38_method_18_code 4 = .ok (.iload_n 1, 1) := by decide +kernel
theorem d17_5 : decode jdk_38_method_18_code 5 = .ok (.aaload, 1) := by decide +kernel
theorem d17_6 : decode jdk_38_method_18_code 6 = .ok (.areturn, 1) := by decide +kernel
theorem pn_17 : plainName "java/util/ArrayList" = true := by first | (simp [plainName, overriddenIn]; done) | decide +kernel
theorem ef_17 (m : MethodId) (x0 : Addr) (x1 : Int32) : entryFrame m #[(.ref x0), (.int x1)] 2 = mkF m 0 #[.val (.ref x0), .val (.int x1)] [] := by first | (simp [entryFrame, mkF, argsToLocals, Value.category]; done) | rfl
def Q17 (Z : State) (a1 : Addr) (p2 : Int32) (w3 : Addr) (cl_w3 : Cell) (x : Addr) (h0 : Heap) (n0 : Nat) (v : Option Value) (h : Heap) (L : List Loc) : Prop := v = some (.ref x) ∧ Fr n0 L ∧ h = h0
set_option maxRecDepth 65536 in
set_option maxHeartbeats 40000000 in
theorem rm17 (l : Launch) (Z : State) (a0 : Array Value) (hw : ∀ d ∈ tables_1, d.before a0 Z = true) (ws : List Jvm.Cond) (a1 : Addr) (p2 : Int32) (w3 : Addr) (cl_w3 : Cell) (x : Addr) (h0 : Heap) (n0 : Nat) (Z0 : n0 ≤ h0.size) (F_elementData_a1 : Fld Z h0 a1 "java/util/ArrayList" "elementData" "[Ljava/lang/Object;" (.ref w3)) (Ar_w3 : Arr Z h0 w3 cl_w3 (.object "java/lang/Object")) (hin5 : ¬ (p2 < 0 ∨ cl_w3.slots.size ≤ (p2).toNatClampNeg)) (hat5 : cl_w3.slots[(p2).toNatClampNeg]? = some (.ref x)) :
    MetFree l (⟨"java/util/ArrayList", "elementData", "(I)Ljava/lang/Object;"⟩ : MethodName) (head1 (Jvm.Cond.code (⟨"java/util/ArrayList", "elementData", "(I)Ljava/lang/Object;"⟩ : MethodName) jdk_38_method_18_code 2 (some (.object "java/lang/Object")) :: ws) ({ frames := 0, cells := 0, slots := 0, locals := 0 } : Room)) (fun a U => a = #[(.ref a1), (.int p2)] ∧ Z.Warmed39 U.vm ∧ U.heap = h0) (fun _ _ _ _ _ => True) (fun _ U o U' => ∃ v L, o = .returned v ∧ Q17 Z a1 p2 w3 cl_w3 x h0 n0 v U'.heap L ∧ FrameEnd U o U' L ({ frames := 0, cells := 0, slots := 0, locals := 0 } : Room).cells ({ frames := 0, cells := 0, slots := 0, locals := 0 } : Room).slots) := by
  refine MetFree.of_bodySF (plainFor_of_name pn_17) hisR ?_
  intro p e s m args below meth c s₁ Bd hml0 hP hK
  obtain ⟨rfl, hZ, hh⟩ := hP
  have hx := Bd.exec
  have hby := Bd.bytes
  have hml : c.maxLocals = 2 := hml0
  have hown : s.vm.findClass "java/util/ArrayList" = some m.cls := findClass_of_methodNamed Bd.named
  have hnm := (name_of_methodNamed Bd.named Bd.method).1
  have X0 : Stand p l e ({ frames := 0, cells := 0, slots := 0, locals := 0 } : Room) s m #[(.ref a1), (.int p2)] below meth c s₁ [] 0 0 := Stand.of_body Bd
  have e0 : s₁.heap = h0 := by rw [← hh, Bd.state]; rfl
  have N0 := Fr.nil n0
  have pre0 : ∀ t, Steps p.tables e below (s₁.setTop (mkF m 0 #[.val (.ref a1), .val (.int p2)] [])) t → Steps p.tables e below (s₁.setTop (entryFrame m #[(.ref a1), (.int p2)] 2)) t := fun t k => castTop (ef_17 m a1 p2) k
  obtain ⟨T4, X4, e4, st4⟩ := getF X0 hx hZ hown (host := "") (Or.inl (hw _ (List.mem_of_getElem? (i := 34) rfl))) Via.refl e0 F_elementData_a1 (g := (mkF m 1 #[.val (.ref a1), .val (.int p2)] [(.ref a1)])) rfl rfl (hb hby d17_1)
  obtain ⟨fs, hr, hrun, hended, hW, hsame⟩ := X4.leave (v := some (.ref x)) (fun h => by rw [Bd.returns] at h; cases h)
  refine ⟨_, _, pre0 _ ?_, hrun, hended, _, _, rfl, ?_, ⟨_, rfl⟩, hW, hsame.mono (by decide) (by decide)⟩
  · show Steps p.tables e below (s₁.setTop (mkF m 0 #[.val (.ref a1), .val (.int p2)] [])) _
    refine XS.aloadN X0.here hx rfl (hb hby d17_0) rfl rfl ?_
    show Steps p.tables e below (s₁.setTop (mkF m 1 #[.val (.ref a1), .val (.int p2)] [(.ref a1)])) _
    refine st4 _ ?_
    show Steps p.tables e below (T4.setTop (mkF m 4 #[.val (.ref a1), .val (.int p2)] [(.ref w3)])) _
    refine XS.iloadN X4.here hx rfl (hb hby d17_4) rfl ?_
    show Steps p.tables e below (T4.setTop (mkF m 5 #[.val (.ref a1), .val (.int p2)] [(.int p2), (.ref w3)])) _
    refine X4.aaload hx (j := p2) (v := (.ref x)) (by rw [e4]; exact Ar_w3.1) (State.isArrayOf_alike hZ.alike Ar_w3.2.1) rfl Ar_w3.2.2 hin5 hat5 (g := (mkF m 5 #[.val (.ref a1), .val (.int p2)] [(.int p2), (.ref w3)])) rfl rfl (hb hby d17_5) _ ?_
    show Steps p.tables e below (T4.setTop (mkF m 6 #[.val (.ref a1), .val (.int p2)] [(.ref x)])) _
    jvm_step X4.here [X4.here.top, hx, (hb hby d17_6), X4.method', Bd.returns, Value.isRef, FieldType.isReference]
    first | (intro acts; rw [hr _ acts rfl rfl rfl]) | rw [hr _ _ rfl rfl rfl]
    exact Steps.refl _
  · show Q17 Z a1 p2 w3 cl_w3 x h0 n0 _ T4.heap _
    rw [e4]
    exact ⟨rfl, N0, rfl⟩
theorem d14_0 : decode jdk_38_method_20_code 0 = .ok (.iload_n 1, 1) := by decide +kernel
theorem d14_1 : decode jdk_38_method_20_code 1 = .ok (.aload_n 0, 1) := by decide +kernel
theorem d14_2 : decode jdk_38_method_20_code 2 = .ok (.getfield 48, 3) := by decide +kernel
theorem d14_5 : decode jdk_38_method_20_code 5 = .ok (.invokestatic 118, 3) := by decide +kernel
theorem d14_8 : decode jdk_38_method_20_code 8 = .ok (.pop, 1) := by decide +kernel
theorem d14_9 : decode jdk_38_method_20_code 9 = .ok (.aload_n 0, 1) := by decide +kernel
theorem d14_10 : decode jdk_38_method_20_code 10 = .ok (.iload_n 1, 1) := by decide +kernel
theorem d14_11 : decode jdk_38_method_20_code 11 = .ok (.invokevirtual 123, 3) := by decide +kernel
theorem d14_14 : decode jdk_38_method_20_code 14 = .ok (.areturn, 1) := by decide +kernel
theorem pn_14 : plainName "java/util/ArrayList" = true := by first | (simp [plainName, overriddenIn]; done) | decide +kernel
theorem pd_14_9 : parseMethodDescriptor "(II)I" = some ⟨[.int, .int], some .int⟩ := by decide +kernel
theorem pd_14_11 : parseMethodDescriptor "(I)Ljava/lang/Object;" = some ⟨[.int], some (.object "java/lang/Object")⟩ := by decide +kernel
theorem ef_14 (m : MethodId) (x0 : Addr) (x1 : Int32) : entryFrame m #[(.ref x0), (.int x1)] 2 = mkF m 0 #[.val (.ref x0), .val (.int x1)] [] := by first | (simp [entryFrame, mkF, argsToLocals, Value.category]; done) | rfl
def Q14 (Z : State) (a1 : Addr) (p2 : Int32) (sz : Int32) (d : Addr) (cl_d : Cell) (x : Addr) (h0 : Heap) (n0 : Nat) (v : Option Value) (h : Heap) (L : List Loc) : Prop := v = some (.ref x) ∧ Fr n0 L ∧ h = h0
set_option maxRecDepth 65536 in
set_option maxHeartbeats 40000000 in
theorem rm14 (l : Launch) (Z : State) (a0 : Array Value) (hw : ∀ d ∈ tables_1, d.before a0 Z = true) (ws : List Jvm.Cond) (a1 : Addr) (p2 : Int32) (sz : Int32) (d : Addr) (cl_d : Cell) (x : Addr) (h0 : Heap) (n0 : Nat) (Z0 : n0 ≤ h0.size) (F_size_a1 : Fld Z h0 a1 "java/util/ArrayList" "size" "I" (.int sz)) (E_a1 : Exa Z h0 a1 "java/util/ArrayList") (F_elementData_a1 : Fld Z h0 a1 "java/util/ArrayList" "elementData" "[Ljava/lang/Object;" (.ref d)) (Ar_d : Arr Z h0 d cl_d (.object "java/lang/Object")) (hin5 : ¬ (p2 < 0 ∨ cl_d.slots.size ≤ (p2).toNatClampNeg)) (hat5 : cl_d.slots[(p2).toNatClampNeg]? = some (.ref x)) (hc1 : ¬ (p2 < (0 : Int32))) (hc6 : p2 < sz) :
    MetFree l (⟨"java/util/ArrayList", "get", "(I)Ljava/lang/Object;"⟩ : MethodName) (head1 (Jvm.Cond.code (⟨"java/util/ArrayList", "get", "(I)Ljava/lang/Object;"⟩ : MethodName) jdk_38_method_20_code 2 (some (.object "java/lang/Object")) :: ws) ({ frames := 2, cells := 0, slots := 0, locals := 27 } : Room)) (fun a U => a = #[(.ref a1), (.int p2)] ∧ Z.Warmed39 U.vm ∧ U.heap = h0) (fun _ _ _ _ _ => True) (fun _ U o U' => ∃ v L, o = .returned v ∧ Q14 Z a1 p2 sz d cl_d x h0 n0 v U'.heap L ∧ FrameEnd U o U' L ({ frames := 2, cells := 0, slots := 0, locals := 27 } : Room).cells ({ frames := 2, cells := 0, slots := 0, locals := 27 } : Room).slots) := by
  refine MetFree.of_bodySF (plainFor_of_name pn_14) hisR ?_
  intro p e s m args below meth c s₁ Bd hml0 hP hK
  obtain ⟨rfl, hZ, hh⟩ := hP
  have hx := Bd.exec
  have hby := Bd.bytes
  have hml : c.maxLocals = 2 := hml0
  have hown : s.vm.findClass "java/util/ArrayList" = some m.cls := findClass_of_methodNamed Bd.named
  have hnm := (name_of_methodNamed Bd.named Bd.method).1
  have X0 : Stand p l e ({ frames := 2, cells := 0, slots := 0, locals := 27 } : Room) s m #[(.ref a1), (.int p2)] below meth c s₁ [] 0 0 := Stand.of_body Bd
  have e0 : s₁.heap = h0 := by rw [← hh, Bd.state]; rfl
  have N0 := Fr.nil n0
  have pre0 : ∀ t, Steps p.tables e below (s₁.setTop (mkF m 0 #[.val (.ref a1), .val (.int p2)] [])) t → Steps p.tables e below (s₁.setTop (entryFrame m #[(.ref a1), (.int p2)] 2)) t := fun t k => castTop (ef_14 m a1 p2) k
  obtain ⟨T4, X4, e4, st4⟩ := getF X0 hx hZ hown (host := "") (Or.inl (hw _ (List.mem_of_getElem? (i := 67) rfl))) Via.refl e0 F_size_a1 (g := (mkF m 2 #[.val (.ref a1), .val (.int p2)] [(.ref a1), (.int p2)])) rfl rfl (hb hby d14_2)
  obtain ⟨_, _, ⟨T5, L5, k5, n5⟩, -, X5, ⟨Lc5, hQ5, l5, y5, z5⟩, st5⟩ := Jvm.LawKit.callS X4 hx (y := (⟨"java/util/Objects", "checkIndex", "(II)I"⟩ : MethodName)) hown (mvT hZ (hw _ (List.mem_of_getElem? (i := 107) rfl))) (mvT hZ (hw _ (List.mem_of_getElem? (i := 108) rfl))) (mvT hZ (hw _ (List.mem_of_getElem? (i := 109) rfl))) (mvT hZ (hw _ (List.mem_of_getElem? (i := 110) rfl))) (by decide) (backOf (W := 0) (rm15 l Z a0 hw [] p2 sz h0 n0 Z0 hc1 hc6) hZ (hw _ (List.mem_of_getElem? (i := 110) rfl)) (hw _ (List.mem_of_getElem? (i := 109) rfl)) (by decide) (by decide)) (g := (mkF m 5 #[.val (.ref a1), .val (.int p2)] [(.int sz), (.int p2)])) rfl (by rw [hml]; rfl) (argsL := [(.int p2), (.int sz)]) (rest := []) (lenOf pd_14_9 rfl) rfl (by show 2 * 0 + _ ≤ _; exact Nat.le_of_eq rfl) (hb hby d14_5) (fun _ _ => ⟨rfl, e4, (by decide : 0 + 0 ≤ _), (by decide : 0 + 0 ≤ _)⟩)
  dsimp only [Pt.U, Pt.locs, Pt.cells, Pt.slots] at X5 l5 y5 z5 st5 hQ5
  subst l5 y5 z5
  obtain ⟨rfl, N5q, k5q⟩ := hQ5
  have N5 := Fr.app N0 N5q
  obtain ⟨cq6, kq6, q6a, q6b, q6c⟩ := isOf hZ rfl (show Exa Z T5.heap a1 _ by rw [k5q]; exact E_a1)
  obtain ⟨_, _, ⟨T6, L6, k6, n6⟩, -, X6, ⟨Lc6, hQ6, l6, y6, z6⟩, st6⟩ := X5.virtualBack hx (y := (⟨"java/util/ArrayList", "elementData", "(I)Ljava/lang/Object;"⟩ : MethodName)) (z := (⟨"java/util/ArrayList", "elementData", "(I)Ljava/lang/Object;"⟩ : MethodName)) hown (mvT hZ (hw _ (List.mem_of_getElem? (i := 115) rfl))) (mvT hZ (hw _ (List.mem_of_getElem? (i := 116) rfl))) (notFace_of_selects (args := #[]) (mvT hZ (hw _ (List.mem_of_getElem? (i := 118) rfl)))) (mvT hZ (hw _ (List.mem_of_getElem? (i := 118) rfl))) (mvT hZ (hw _ (List.mem_of_getElem? (i := 117) rfl))) (by decide) (backOf (W := 0) (rm17 l Z a0 hw [] a1 p2 d cl_d x T5.heap n0 (by rw [k5q]; exact Z0) (by rw [k5q]; exact F_elementData_a1) (by rw [k5q]; exact Ar_d) hin5 hat5) hZ (hw _ (List.mem_of_getElem? (i := 119) rfl)) (hw _ (List.mem_of_getElem? (i := 12) rfl)) (by decide) (by decide)) q6a q6c (g := (mkF m 11 #[.val (.ref a1), .val (.int p2)] [(.int p2), (.ref a1)])) rfl (by rw [hml]; rfl) (Steps.refl _) (argsL := [(.int p2)]) (rest := []) (lenOf pd_14_11 rfl) rfl (by show 2 * 0 + _ ≤ _; exact Nat.le_of_eq rfl) (hb hby d14_11) (fun _ _ => ⟨rfl, rfl, (by decide : 0 + 0 ≤ _), (by decide : 0 + 0 ≤ _)⟩)
  dsimp only [Pt.U, Pt.locs, Pt.cells, Pt.slots] at X6 l6 y6 z6 st6 hQ6
  subst l6 y6 z6
  obtain ⟨rfl, N6q, k6q⟩ := hQ6
  have N6 := Fr.app N5 N6q
  obtain ⟨fs, hr, hrun, hended, hW, hsame⟩ := X6.leave (v := some (.ref x)) (fun h => by rw [Bd.returns] at h; cases h)
  refine ⟨_, _, pre0 _ ?_, hrun, hended, _, _, rfl, ?_, ⟨_, rfl⟩, hW, hsame.mono (by decide) (by decide)⟩
  · show Steps p.tables e below (s₁.setTop (mkF m 0 #[.val (.ref a1), .val (.int p2)] [])) _
    refine XS.iloadN X0.here hx rfl (hb hby d14_0) rfl ?_
    show Steps p.tables e below (s₁.setTop (mkF m 1 #[.val (.ref a1), .val (.int p2)] [(.int p2)])) _
    refine XS.aloadN X0.here hx rfl (hb hby d14_1) rfl rfl ?_
    show Steps p.tables e below (s₁.setTop (mkF m 2 #[.val (.ref a1), .val (.int p2)] [(.ref a1), (.int p2)])) _
    refine st4 _ ?_
    show Steps p.tables e below (T4.setTop (mkF m 5 #[.val (.ref a1), .val (.int p2)] [(.int sz), (.int p2)])) _
    refine st5 _ ?_
    show Steps p.tables e below (T5.setTop (mkF m 8 #[.val (.ref a1), .val (.int p2)] [(.int p2)])) _
    refine XS.pop X5.here hx rfl (hb hby d14_8) rfl rfl ?_
    show Steps p.tables e below (T5.setTop (mkF m 9 #[.val (.ref a1), .val (.int p2)] [])) _
    refine XS.aloadN X5.here hx rfl (hb hby d14_9) rfl rfl ?_
    show Steps p.tables e below (T5.setTop (mkF m 10 #[.val (.ref a1), .val (.int p2)] [(.ref a1)])) _
    refine XS.iloadN X5.here hx rfl (hb hby d14_10) rfl ?_
    show Steps p.tables e below (T5.setTop (mkF m 11 #[.val (.ref a1), .val (.int p2)] [(.int p2), (.ref a1)])) _
    refine st6.trans ?_
    show Steps p.tables e below (T6.setTop (mkF m 14 #[.val (.ref a1), .val (.int p2)] [(.ref x)])) _
    jvm_step X6.here [X6.here.top, hx, (hb hby d14_14), X6.method', Bd.returns, Value.isRef, FieldType.isReference]
    first | (intro acts; rw [hr _ acts rfl rfl rfl]) | rw [hr _ _ rfl rfl rfl]
    exact Steps.refl _
  · show Q14 Z a1 p2 sz d cl_d x h0 n0 _ T6.heap _
    exact ⟨rfl, N6, k6q.trans k5q⟩
theorem d18_0 : decode prog_16_method_4_code 0 = .ok (.aload_n 0, 1) := by decide +kernel
theorem d18_1 : decode prog_16_method_4_code 1 = .ok (.getfield 35, 3) := by decide +kernel
theorem d18_4 : decode prog_16_method_4_code 4 = .ok (.ireturn, 1) := by decide +kernel
theorem pn_18 : plainName "com/example/tenacious_courier/tenaciouscourier/model/DeliveryStatus" = true := by first | (simp [plainName, overriddenIn]; done) | decide +kernel
theorem ef_18 (m : MethodId) (x0 : Addr) : entryFrame m #[(.ref x0)] 1 = mkF m 0 #[.val (.ref x0)] [] := by first | (simp [entryFrame, mkF, argsToLocals, Value.category]; done) | rfl
def Q18 (Z : State) (a1 : Addr) (w2 : Int32) (h0 : Heap) (n0 : Nat) (v : Option Value) (h : Heap) (L : List Loc) : Prop := v = some (.int w2) ∧ Fr n0 L ∧ h = h0
set_option maxRecDepth 65536 in
set_option maxHeartbeats 40000000 in
theorem rm18 (l : Launch) (Z : State) (a0 : Array Value) (hw : ∀ d ∈ tables_1, d.before a0 Z = true) (ws : List Jvm.Cond) (a1 : Addr) (w2 : Int32) (h0 : Heap) (n0 : Nat) (Z0 : n0 ≤ h0.size) (hn : nar .boolean w2 = w2) (F_waiting_a1 : Fld Z h0 a1 "com/example/tenacious_courier/tenaciouscourier/model/DeliveryStatus" "waiting" "Z" (.int w2)) :
    MetFree l (⟨"com/example/tenacious_courier/tenaciouscourier/model/DeliveryStatus", "waiting", "()Z"⟩ : MethodName) (head1 (Jvm.Cond.code (⟨"com/example/tenacious_courier/tenaciouscourier/model/DeliveryStatus", "waiting", "()Z"⟩ : MethodName) prog_16_method_4_code 1 (some .boolean) :: ws) ({ frames := 0, cells := 0, slots := 0, locals := 0 } : Room)) (fun a U => a = #[(.ref a1)] ∧ Z.Warmed39 U.vm ∧ U.heap = h0) (fun _ _ _ _ _ => True) (fun _ U o U' => ∃ v L, o = .returned v ∧ Q18 Z a1 w2 h0 n0 v U'.heap L ∧ FrameEnd U o U' L ({ frames := 0, cells := 0, slots := 0, locals := 0 } : Room).cells ({ frames := 0, cells := 0, slots := 0, locals := 0 } : Room).slots) := by
  refine MetFree.of_bodySF (plainFor_of_name pn_18) hisR ?_
  intro p e s m args below meth c s₁ Bd hml0 hP hK
  obtain ⟨rfl, hZ, hh⟩ := hP
  have hx := Bd.exec
  have hby := Bd.bytes
  have hml : c.maxLocals = 1 := hml0
  have hown : s.vm.findClass "com/example/tenacious_courier/tenaciouscourier/model/DeliveryStatus" = some m.cls := findClass_of_methodNamed Bd.named
  have hnm := (name_of_methodNamed Bd.named Bd.method).1
  have X0 : Stand p l e ({ frames := 0, cells := 0, slots := 0, locals := 0 } : Room) s m #[(.ref a1)] below meth c s₁ [] 0 0 := Stand.of_body Bd
  have e0 : s₁.heap = h0 := by rw [← hh, Bd.state]; rfl
  have N0 := Fr.nil n0
  have pre0 : ∀ t, Steps p.tables e below (s₁.setTop (mkF m 0 #[.val (.ref a1)] [])) t → Steps p.tables e below (s₁.setTop (entryFrame m #[(.ref a1)] 1)) t := fun t k => castTop (ef_18 m a1) k
  obtain ⟨T3, X3, e3, st3⟩ := getF X0 hx hZ hown (host := "") (Or.inl (hw _ (List.mem_of_getElem? (i := 54) rfl))) Via.refl e0 F_waiting_a1 (g := (mkF m 1 #[.val (.ref a1)] [(.ref a1)])) rfl rfl (hb hby d18_1)
  obtain ⟨fs, hr, hrun, hended, hW, hsame⟩ := X3.leave (v := some (.int w2)) (fun h => by rw [Bd.returns] at h; cases h)
  refine ⟨_, _, pre0 _ ?_, hrun, hended, _, _, rfl, ?_, ⟨_, rfl⟩, hW, hsame.mono (by decide) (by decide)⟩
  · show Steps p.tables e below (s₁.setTop (mkF m 0 #[.val (.ref a1)] [])) _
    refine XS.aloadN X0.here hx rfl (hb hby d18_0) rfl rfl ?_
    show Steps p.tables e below (s₁.setTop (mkF m 1 #[.val (.ref a1)] [(.ref a1)])) _
    refine st3 _ ?_
    show Steps p.tables e below (T3.setTop (mkF m 4 #[.val (.ref a1)] [(.int w2)])) _
    exact retN X3 hx (t := .boolean) Bd.returns (by simp) (hb hby d18_4) (by rw [hn]; exact hr)
  · show Q18 Z a1 w2 h0 n0 _ T3.heap _
    rw [e3]
    exact ⟨rfl, N0, rfl⟩
theorem d7_0 : decode prog_16_method_1_code 0 = .ok (.getstatic 16, 3) := by decide +kernel
theorem d7_3 : decode prog_16_method_1_code 3 = .ok (.invokevirtual 20, 3) := by decide +kernel
theorem d7_6 : decode prog_16_method_1_code 6 = .ok (.checkcast 21, 3) := by decide +kernel
theorem d7_9 : decode prog_16_method_1_code 9 = .ok (.areturn, 1) := by decide +kernel
theorem pn_7 : plainName "com/example/tenacious_courier/tenaciouscourier/model/DeliveryStatus" = true := by first | (simp [plainName, overriddenIn]; done) | decide +kernel
theorem pd_7_4 : parseMethodDescriptor "()Ljava/lang/Object;" = some ⟨[], some (.object "java/lang/Object")⟩ := by decide +kernel
theorem ef_7 (m : MethodId)  : entryFrame m #[] 0 = mkF m 0 #[] [] := by first | (simp [entryFrame, mkF, argsToLocals, Value.category]; done) | rfl
def Q7 (Z : State) (w1 : Addr) (kV : ClassId) (vs : List Value) (h0 : Heap) (n0 : Nat) (v : Option Value) (h : Heap) (L : List Loc) : Prop := ∃ (b : Addr), v = some (.ref b) ∧ Fr n0 L ∧ Ext h0 h ∧ h0.size ≤ b ∧ Arv Z h b kV (.object "com/example/tenacious_courier/tenaciouscourier/model/DeliveryStatus") (4 : Int32) vs .null
set_option maxRecDepth 65536 in
set_option maxHeartbeats 40000000 in
theorem rm7 (l : Launch) (Z : State) (a0 : Array Value) (hw : ∀ d ∈ tables_1, d.before a0 Z = true) (ws : List Jvm.Cond) (w1 : Addr) (kV : ClassId) (vs : List Value) (h0 : Heap) (n0 : Nat) (Z0 : n0 ≤ h0.size) (S__VALUES : Sta Z h0 "com/example/tenacious_courier/tenaciouscourier/model/DeliveryStatus" "$VALUES" "[Lcom/example/tenacious_courier/tenaciouscourier/model/DeliveryStatus;" (.ref w1)) (E_w1 : Exa Z h0 w1 "[Lcom/example/tenacious_courier/tenaciouscourier/model/DeliveryStatus;") (V_w1 : Arv Z h0 w1 kV (.object "com/example/tenacious_courier/tenaciouscourier/model/DeliveryStatus") (4 : Int32) vs .null) :
    MetFree l (⟨"com/example/tenacious_courier/tenaciouscourier/model/DeliveryStatus", "values", "()[Lcom/example/tenacious_courier/tenaciouscourier/model/DeliveryStatus;"⟩ : MethodName) (head1 (Jvm.Cond.code (⟨"com/example/tenacious_courier/tenaciouscourier/model/DeliveryStatus", "values", "()[Lcom/example/tenacious_courier/tenaciouscourier/model/DeliveryStatus;"⟩ : MethodName) prog_16_method_1_code 0 (some (.array (.object "com/example/tenacious_courier/tenaciouscourier/model/DeliveryStatus"))) :: ws) ({ frames := 1, cells := 1, slots := 4, locals := 14 } : Room)) (fun a U => a = #[] ∧ Z.Warmed39 U.vm ∧ U.heap = h0) (fun _ _ _ _ _ => True) (fun _ U o U' => ∃ v L, o = .returned v ∧ Q7 Z w1 kV vs h0 n0 v U'.heap L ∧ FrameEnd U o U' L ({ frames := 1, cells := 1, slots := 4, locals := 14 } : Room).cells ({ frames := 1, cells := 1, slots := 4, locals := 14 } : Room).slots) := by
  refine MetFree.of_bodySF (plainFor_of_name pn_7) hisR ?_
  intro p e s m args below meth c s₁ Bd hml0 hP hK
  obtain ⟨rfl, hZ, hh⟩ := hP
  have hx := Bd.exec
  have hby := Bd.bytes
  have hml : c.maxLocals = 0 := hml0
  have hown : s.vm.findClass "com/example/tenacious_courier/tenaciouscourier/model/DeliveryStatus" = some m.cls := findClass_of_methodNamed Bd.named
  have hnm := (name_of_methodNamed Bd.named Bd.method).1
  have X0 : Stand p l e ({ frames := 1, cells := 1, slots := 4, locals := 14 } : Room) s m #[] below meth c s₁ [] 0 0 := Stand.of_body Bd
  have e0 : s₁.heap = h0 := by rw [← hh, Bd.state]; rfl
  have N0 := Fr.nil n0
  have pre0 : ∀ t, Steps p.tables e below (s₁.setTop (mkF m 0 #[] [])) t → Steps p.tables e below (s₁.setTop (entryFrame m #[] 0)) t := fun t k => castTop (ef_7 m ) k
  obtain ⟨T2, X2, e2, st2⟩ := getS2 X0 hx hZ hown (host := "") (Or.inl (hw _ (List.mem_of_getElem? (i := 39) rfl))) Via.refl e0 S__VALUES (g := (mkF m 0 #[] [])) rfl (hb hby d7_0)
  obtain ⟨T3, h3, X3, e3, E3, V3, Ex3, st3⟩ := cloneH X2 hx hZ hown (hw _ (List.mem_of_getElem? (i := 41) rfl)) (hw _ (List.mem_of_getElem? (i := 42) rfl)) (hw _ (List.mem_of_getElem? (i := 46) rfl)) (hw _ (List.mem_of_getElem? (i := 44) rfl)) (hw _ (List.mem_of_getElem? (i := 45) rfl)) (hw _ (List.mem_of_getElem? (i := 47) rfl)) e2 V_w1.arh E_w1 (g := (mkF m 3 #[] [(.ref w1)])) rfl (by rw [hml]; rfl) rfl (hb hby d7_3) (by decide) (W := 0) (cap := 4) (by show 2 * 0 + _ ≤ _; exact Nat.le_of_eq rfl) (by decide) (by decide) (by decide) (by decide)
  obtain ⟨T4, X4, e4, st4⟩ := castY X3 hx hZ hown (hw _ (List.mem_of_getElem? (i := 52) rfl)) e3 (Ins.self Ex3) (g := (mkF m 6 #[] [(.ref h0.size)])) rfl rfl (hb hby d7_6)
  obtain ⟨fs, hr, hrun, hended, hW, hsame⟩ := X4.leave (v := some (.ref h0.size)) (fun h => by rw [Bd.returns] at h; cases h)
  refine ⟨_, _, pre0 _ ?_, hrun, hended, _, _, rfl, ?_, ⟨_, rfl⟩, hW, hsame.mono (by decide) (by decide)⟩
  · show Steps p.tables e below (s₁.setTop (mkF m 0 #[] [])) _
    refine st2 _ ?_
    show Steps p.tables e below (T2.setTop (mkF m 3 #[] [(.ref w1)])) _
    refine st3 _ ?_
    show Steps p.tables e below (T3.setTop (mkF m 6 #[] [(.ref h0.size)])) _
    refine st4 _ ?_
    show Steps p.tables e below (T4.setTop (mkF m 9 #[] [(.ref h0.size)])) _
    jvm_step X4.here [X4.here.top, hx, (hb hby d7_9), X4.method', Bd.returns, Value.isRef, FieldType.isReference]
    first | (intro acts; rw [hr _ acts rfl rfl rfl]) | rw [hr _ _ rfl rfl rfl]
    exact Steps.refl _
  · show Q7 Z w1 kV vs h0 n0 _ T4.heap _
    rw [e4]
    exact ⟨h0.size, rfl, N0, E3, Nat.le_refl _, V3⟩
theorem d1_0 : decode method_2_code 0 = .ok (.iload_n 0, 1) := by decide +kernel
theorem d1_1 : decode method_2_code 1 = .ok (.iconst 3, 1) := by decide +kernel
theorem d1_2 : decode method_2_code 2 = .ok (.iand, 1) := by decide +kernel
theorem d1_3 : decode method_2_code 3 = .ok (.istore_n 1, 1) := by decide +kernel
theorem d1_4 : decode method_2_code 4 = .ok (.iload_n 1, 1) := by decide +kernel
theorem d1_5 : decode method_2_code 5 = .ok (.ifCond .ne 7, 3) := by decide +kernel
theorem d1_8 : decode method_2_code 8 = .ok (.getstatic 7, 3) := by decide +kernel
theorem d1_11 : decode method_2_code 11 = .ok (.areturn, 1) := by decide +kernel
theorem pn_1 : plainName "com/example/tenacious_courier/tenaciouscourier/model/DeliveryStatusAllWaitingPinLaw" = true := by first | (simp [plainName, overriddenIn]; done) | decide +kernel
theorem ef_1 (m : MethodId) (x0 : Int32) : entryFrame m #[(.int x0)] 2 = mkF m 0 #[.val (.int x0), .unset] [] := by first | (simp [entryFrame, mkF, argsToLocals, Value.category]; done) | rfl
def Q1a (Z : State) (p1 : Int32) (w2 : Addr) (h0 : Heap) (n0 : Nat) (v : Option Value) (h : Heap) (L : List Loc) : Prop := v = some (.ref w2) ∧ Fr n0 L ∧ h = h0
set_option maxRecDepth 65536 in
set_option maxHeartbeats 40000000 in
theorem rm1a (l : Launch) (Z : State) (a0 : Array Value) (hw : ∀ d ∈ tables_1, d.before a0 Z = true) (ws : List Jvm.Cond) (p1 : Int32) (w2 : Addr) (h0 : Heap) (n0 : Nat) (Z0 : n0 ≤ h0.size) (S_PENDING : Sta Z h0 "com/example/tenacious_courier/tenaciouscourier/model/DeliveryStatus" "PENDING" "Lcom/example/tenacious_courier/tenaciouscourier/model/DeliveryStatus;" (.ref w2)) (hc5 : (p1 &&& (3 : Int32)) = (0 : Int32)) :
    MetFree l (⟨"com/example/tenacious_courier/tenaciouscourier/model/DeliveryStatusAllWaitingPinLaw", "pick", "(I)Lcom/example/tenacious_courier/tenaciouscourier/model/DeliveryStatus;"⟩ : MethodName) (head1 (Jvm.Cond.code (⟨"com/example/tenacious_courier/tenaciouscourier/model/DeliveryStatusAllWaitingPinLaw", "pick", "(I)Lcom/example/tenacious_courier/tenaciouscourier/model/DeliveryStatus;"⟩ : MethodName) method_2_code 2 (some (.object "com/example/tenacious_courier/tenaciouscourier/model/DeliveryStatus")) :: ws) ({ frames := 0, cells := 0, slots := 0, locals := 0 } : Room)) (fun a U => a = #[(.int p1)] ∧ Z.Warmed39 U.vm ∧ U.heap = h0) (fun _ _ _ _ _ => True) (fun _ U o U' => ∃ v L, o = .returned v ∧ Q1a Z p1 w2 h0 n0 v U'.heap L ∧ FrameEnd U o U' L ({ frames := 0, cells := 0, slots := 0, locals := 0 } : Room).cells ({ frames := 0, cells := 0, slots := 0, locals := 0 } : Room).slots) := by
  refine MetFree.of_bodySF (plainFor_of_name pn_1) hisR ?_
  intro p e s m args below meth c s₁ Bd hml0 hP hK
  obtain ⟨rfl, hZ, hh⟩ := hP
  have hx := Bd.exec
  have hby := Bd.bytes
  have hml : c.maxLocals = 2 := hml0
  have hown : s.vm.findClass "com/example/tenacious_courier/tenaciouscourier/model/DeliveryStatusAllWaitingPinLaw" = some m.cls := findClass_of_methodNamed Bd.named
  have hnm := (name_of_methodNamed Bd.named Bd.method).1
  have X0 : Stand p l e ({ frames := 0, cells := 0, slots := 0, locals := 0 } : Room) s m #[(.int p1)] below meth c s₁ [] 0 0 := Stand.of_body Bd
  have e0 : s₁.heap = h0 := by rw [← hh, Bd.state]; rfl
  have N0 := Fr.nil n0
  have pre0 : ∀ t, Steps p.tables e below (s₁.setTop (mkF m 0 #[.val (.int p1), .unset] [])) t → Steps p.tables e below (s₁.setTop (entryFrame m #[(.int p1)] 2)) t := fun t k => castTop (ef_1 m p1) k
  obtain ⟨T3, X3, e3, st3⟩ := getS2 X0 hx hZ hown (host := "") (Or.inl (hw _ (List.mem_of_getElem? (i := 4) rfl))) Via.refl e0 S_PENDING (g := (mkF m 8 #[.val (.int p1), .val (.int (p1 &&& (3 : Int32)))] [])) rfl (hb hby d1_8)
  obtain ⟨fs, hr, hrun, hended, hW, hsame⟩ := X3.leave (v := some (.ref w2)) (fun h => by rw [Bd.returns] at h; cases h)
  refine ⟨_, _, pre0 _ ?_, hrun, hended, _, _, rfl, ?_, ⟨_, rfl⟩, hW, hsame.mono (by decide) (by decide)⟩
  · show Steps p.tables e below (s₁.setTop (mkF m 0 #[.val (.int p1), .unset] [])) _
    refine XS.iloadN X0.here hx rfl (hb hby d1_0) rfl ?_
    show Steps p.tables e below (s₁.setTop (mkF m 1 #[.val (.int p1), .unset] [(.int p1)])) _
    refine XS.iconst X0.here hx rfl (hb hby d1_1) ?_
    show Steps p.tables e below (s₁.setTop (mkF m 2 #[.val (.int p1), .unset] [(.int (3 : Int32)), (.int p1)])) _
    refine XS.iand X0.here hx rfl (hb hby d1_2) rfl ?_
    show Steps p.tables e below (s₁.setTop (mkF m 3 #[.val (.int p1), .unset] [(.int (p1 &&& (3 : Int32)))])) _
    refine XS.istoreN X0.here hx rfl (hb hby d1_3) rfl (l' := #[.val (.int p1), .val (.int (p1 &&& (3 : Int32)))]) rfl ?_
    show Steps p.tables e below (s₁.setTop (mkF m 4 #[.val (.int p1), .val (.int (p1 &&& (3 : Int32)))] [])) _
    refine XS.iloadN X0.here hx rfl (hb hby d1_4) rfl ?_
    show Steps p.tables e below (s₁.setTop (mkF m 5 #[.val (.int p1), .val (.int (p1 &&& (3 : Int32)))] [(.int (p1 &&& (3 : Int32)))])) _
    refine XS.ifNo X0.here hx rfl (hb hby d1_5) rfl ((if0 _ _).trans (teq hc5).2) ?_
    show Steps p.tables e below (s₁.setTop (mkF m 8 #[.val (.int p1), .val (.int (p1 &&& (3 : Int32)))] [])) _
    refine st3 _ ?_
    show Steps p.tables e below (T3.setTop (mkF m 11 #[.val (.int p1), .val (.int (p1 &&& (3 : Int32)))] [(.ref w2)])) _
    jvm_step X3.here [X3.here.top, hx, (hb hby d1_11), X3.method', Bd.returns, Value.isRef, FieldType.isReference]
    first | (intro acts; rw [hr _ acts rfl rfl rfl]) | rw [hr _ _ rfl rfl rfl]
    exact Steps.refl _
  · show Q1a Z p1 w2 h0 n0 _ T3.heap _
    rw [e3]
    exact ⟨rfl, N0, rfl⟩
theorem d1_12 : decode method_2_code 12 = .ok (.iload_n 1, 1) := by decide +kernel
theorem d1_13 : decode method_2_code 13 = .ok (.iconst 1, 1) := by decide +kernel
theorem d1_14 : decode method_2_code 14 = .ok (.if_icmp .ne 7, 3) := by decide +kernel
theorem d1_17 : decode method_2_code 17 = .ok (.getstatic 13, 3) := by decide +kernel
theorem d1_20 : decode method_2_code 20 = .ok (.areturn, 1) := by decide +kernel
def Q1b (Z : State) (p1 : Int32) (w2 : Addr) (h0 : Heap) (n0 : Nat) (v : Option Value) (h : Heap) (L : List Loc) : Prop := v = some (.ref w2) ∧ Fr n0 L ∧ h = h0
set_option maxRecDepth 65536 in
set_option maxHeartbeats 40000000 in
theorem rm1b (l : Launch) (Z : State) (a0 : Array Value) (hw : ∀ d ∈ tables_1, d.before a0 Z = true) (ws : List Jvm.Cond) (p1 : Int32) (w2 : Addr) (h0 : Heap) (n0 : Nat) (Z0 : n0 ≤ h0.size) (S_RETRYING : Sta Z h0 "com/example/tenacious_courier/tenaciouscourier/model/DeliveryStatus" "RETRYING" "Lcom/example/tenacious_courier/tenaciouscourier/model/DeliveryStatus;" (.ref w2)) (hc5 : ¬ ((p1 &&& (3 : Int32)) = (0 : Int32))) (hc14 : (p1 &&& (3 : Int32)) = (1 : Int32)) :
    MetFree l (⟨"com/example/tenacious_courier/tenaciouscourier/model/DeliveryStatusAllWaitingPinLaw", "pick", "(I)Lcom/example/tenacious_courier/tenaciouscourier/model/DeliveryStatus;"⟩ : MethodName) (head1 (Jvm.Cond.code (⟨"com/example/tenacious_courier/tenaciouscourier/model/DeliveryStatusAllWaitingPinLaw", "pick", "(I)Lcom/example/tenacious_courier/tenaciouscourier/model/DeliveryStatus;"⟩ : MethodName) method_2_code 2 (some (.object "com/example/tenacious_courier/tenaciouscourier/model/DeliveryStatus")) :: ws) ({ frames := 0, cells := 0, slots := 0, locals := 0 } : Room)) (fun a U => a = #[(.int p1)] ∧ Z.Warmed39 U.vm ∧ U.heap = h0) (fun _ _ _ _ _ => True) (fun _ U o U' => ∃ v L, o = .returned v ∧ Q1b Z p1 w2 h0 n0 v U'.heap L ∧ FrameEnd U o U' L ({ frames := 0, cells := 0, slots := 0, locals := 0 } : Room).cells ({ frames := 0, cells := 0, slots := 0, locals := 0 } : Room).slots) := by
  refine MetFree.of_bodySF (plainFor_of_name pn_1) hisR ?_
  intro p e s m args below meth c s₁ Bd hml0 hP hK
  obtain ⟨rfl, hZ, hh⟩ := hP
  have hx := Bd.exec
  have hby := Bd.bytes
  have hml : c.maxLocals = 2 := hml0
  have hown : s.vm.findClass "com/example/tenacious_courier/tenaciouscourier/model/DeliveryStatusAllWaitingPinLaw" = some m.cls := findClass_of_methodNamed Bd.named
  have hnm := (name_of_methodNamed Bd.named Bd.method).1
  have X0 : Stand p l e ({ frames := 0, cells := 0, slots := 0, locals := 0 } : Room) s m #[(.int p1)] below meth c s₁ [] 0 0 := Stand.of_body Bd
  have e0 : s₁.heap = h0 := by rw [← hh, Bd.state]; rfl
  have N0 := Fr.nil n0
  have pre0 : ∀ t, Steps p.tables e below (s₁.setTop (mkF m 0 #[.val (.int p1), .unset] [])) t → Steps p.tables e below (s₁.setTop (entryFrame m #[(.int p1)] 2)) t := fun t k => castTop (ef_1 m p1) k
  obtain ⟨T3, X3, e3, st3⟩ := getS2 X0 hx hZ hown (host := "") (Or.inl (hw _ (List.mem_of_getElem? (i := 122) rfl))) Via.refl e0 S_RETRYING (g := (mkF m 17 #[.val (.int p1), .val (.int (p1 &&& (3 : Int32)))] [])) rfl (hb hby d1_17)
  obtain ⟨fs, hr, hrun, hended, hW, hsame⟩ := X3.leave (v := some (.ref w2)) (fun h => by rw [Bd.returns] at h; cases h)
  refine ⟨_, _, pre0 _ ?_, hrun, hended, _, _, rfl, ?_, ⟨_, rfl⟩, hW, hsame.mono (by decide) (by decide)⟩
  · show Steps p.tables e below (s₁.setTop (mkF m 0 #[.val (.int p1), .unset] [])) _
    refine XS.iloadN X0.here hx rfl (hb hby d1_0) rfl ?_
    show Steps p.tables e below (s₁.setTop (mkF m 1 #[.val (.int p1), .unset] [(.int p1)])) _
    refine XS.iconst X0.here hx rfl (hb hby d1_1) ?_
    show Steps p.tables e below (s₁.setTop (mkF m 2 #[.val (.int p1), .unset] [(.int (3 : Int32)), (.int p1)])) _
    refine XS.iand X0.here hx rfl (hb hby d1_2) rfl ?_
    show Steps p.tables e below (s₁.setTop (mkF m 3 #[.val (.int p1), .unset] [(.int (p1 &&& (3 : Int32)))])) _
    refine XS.istoreN X0.here hx rfl (hb hby d1_3) rfl (l' := #[.val (.int p1), .val (.int (p1 &&& (3 : Int32)))]) rfl ?_
    show Steps p.tables e below (s₁.setTop (mkF m 4 #[.val (.int p1), .val (.int (p1 &&& (3 : Int32)))] [])) _
    refine XS.iloadN X0.here hx rfl (hb hby d1_4) rfl ?_
    show Steps p.tables e below (s₁.setTop (mkF m 5 #[.val (.int p1), .val (.int (p1 &&& (3 : Int32)))] [(.int (p1 &&& (3 : Int32)))])) _
    refine XS.ifYes X0.here hx rfl (pc0 := 5) (pc' := 12) rfl (hb hby d1_5) rfl ((if0 _ _).trans (feq hc5).2) (by decide) (by decide) ?_
    show Steps p.tables e below (s₁.setTop (mkF m 12 #[.val (.int p1), .val (.int (p1 &&& (3 : Int32)))] [])) _
    refine XS.iloadN X0.here hx rfl (hb hby d1_12) rfl ?_
    show Steps p.tables e below (s₁.setTop (mkF m 13 #[.val (.int p1), .val (.int (p1 &&& (3 : Int32)))] [(.int (p1 &&& (3 : Int32)))])) _
    refine XS.iconst X0.here hx rfl (hb hby d1_13) ?_
    show Steps p.tables e below (s₁.setTop (mkF m 14 #[.val (.int p1), .val (.int (p1 &&& (3 : Int32)))] [(.int (1 : Int32)), (.int (p1 &&& (3 : Int32)))])) _
    refine XS.icmpNo X0.here hx rfl (hb hby d1_14) rfl (teq hc14).2 ?_
    show Steps p.tables e below (s₁.setTop (mkF m 17 #[.val (.int p1), .val (.int (p1 &&& (3 : Int32)))] [])) _
    refine st3 _ ?_
    show Steps p.tables e below (T3.setTop (mkF m 20 #[.val (.int p1), .val (.int (p1 &&& (3 : Int32)))] [(.ref w2)])) _
    jvm_step X3.here [X3.here.top, hx, (hb hby d1_20), X3.method', Bd.returns, Value.isRef, FieldType.isReference]
    first | (intro acts; rw [hr _ acts rfl rfl rfl]) | rw [hr _ _ rfl rfl rfl]
    exact Steps.refl _
  · show Q1b Z p1 w2 h0 n0 _ T3.heap _
    rw [e3]
    exact ⟨rfl, N0, rfl⟩
theorem d1_21 : decode method_2_code 21 = .ok (.iload_n 1, 1) := by decide +kernel
theorem d1_22 : decode method_2_code 22 = .ok (.iconst 2, 1) := by decide +kernel
theorem d1_23 : decode method_2_code 23 = .ok (.if_icmp .ne 7, 3) := by decide +kernel
theorem d1_26 : decode method_2_code 26 = .ok (.getstatic 16, 3) := by decide +kernel
theorem d1_29 : decode method_2_code 29 = .ok (.areturn, 1) := by decide +kernel
def Q1c (Z : State) (p1 : Int32) (w2 : Addr) (h0 : Heap) (n0 : Nat) (v : Option Value) (h : Heap) (L : List Loc) : Prop := v = some (.ref w2) ∧ Fr n0 L ∧ h = h0
set_option maxRecDepth 65536 in
set_option maxHeartbeats 40000000 in
theorem rm1c (l : Launch) (Z : State) (a0 : Array Value) (hw : ∀ d ∈ tables_1, d.before a0 Z = true) (ws : List Jvm.Cond) (p1 : Int32) (w2 : Addr) (h0 : Heap) (n0 : Nat) (Z0 : n0 ≤ h0.size) (S_DELIVERED : Sta Z h0 "com/example/tenacious_courier/tenaciouscourier/model/DeliveryStatus" "DELIVERED" "Lcom/example/tenacious_courier/tenaciouscourier/model/DeliveryStatus;" (.ref w2)) (hc5 : ¬ ((p1 &&& (3 : Int32)) = (0 : Int32))) (hc14 : ¬ ((p1 &&& (3 : Int32)) = (1 : Int32))) (hc23 : (p1 &&& (3 : Int32)) = (2 : Int32)) :
    MetFree l (⟨"com/example/tenacious_courier/tenaciouscourier/model/DeliveryStatusAllWaitingPinLaw", "pick", "(I)Lcom/example/tenacious_courier/tenaciouscourier/model/DeliveryStatus;"⟩ : MethodName) (head1 (Jvm.Cond.code (⟨"com/example/tenacious_courier/tenaciouscourier/model/DeliveryStatusAllWaitingPinLaw", "pick", "(I)Lcom/example/tenacious_courier/tenaciouscourier/model/DeliveryStatus;"⟩ : MethodName) method_2_code 2 (some (.object "com/example/tenacious_courier/tenaciouscourier/model/DeliveryStatus")) :: ws) ({ frames := 0, cells := 0, slots := 0, locals := 0 } : Room)) (fun a U => a = #[(.int p1)] ∧ Z.Warmed39 U.vm ∧ U.heap = h0) (fun _ _ _ _ _ => True) (fun _ U o U' => ∃ v L, o = .returned v ∧ Q1c Z p1 w2 h0 n0 v U'.heap L ∧ FrameEnd U o U' L ({ frames := 0, cells := 0, slots := 0, locals := 0 } : Room).cells ({ frames := 0, cells := 0, slots := 0, locals := 0 } : Room).slots) := by
  refine MetFree.of_bodySF (plainFor_of_name pn_1) hisR ?_
  intro p e s m args below meth c s₁ Bd hml0 hP hK
  obtain ⟨rfl, hZ, hh⟩ := hP
  have hx := Bd.exec
  have hby := Bd.bytes
  have hml : c.maxLocals = 2 := hml0
  have hown : s.vm.findClass "com/example/tenacious_courier/tenaciouscourier/model/DeliveryStatusAllWaitingPinLaw" = some m.cls := findClass_of_methodNamed Bd.named
  have hnm := (name_of_methodNamed Bd.named Bd.method).1
  have X0 : Stand p l e ({ frames := 0, cells := 0, slots := 0, locals := 0 } : Room) s m #[(.int p1)] below meth c s₁ [] 0 0 := Stand.of_body Bd
  have e0 : s₁.heap = h0 := by rw [← hh, Bd.state]; rfl
  have N0 := Fr.nil n0
  have pre0 : ∀ t, Steps p.tables e below (s₁.setTop (mkF m 0 #[.val (.int p1), .unset] [])) t → Steps p.tables e below (s₁.setTop (entryFrame m #[(.int p1)] 2)) t := fun t k => castTop (ef_1 m p1) k
  obtain ⟨T3, X3, e3, st3⟩ := getS2 X0 hx hZ hown (host := "") (Or.inl (hw _ (List.mem_of_getElem? (i := 129) rfl))) Via.refl e0 S_DELIVERED (g := (mkF m 26 #[.val (.int p1), .val (.int (p1 &&& (3 : Int32)))] [])) rfl (hb hby d1_26)
  obtain ⟨fs, hr, hrun, hended, hW, hsame⟩ := X3.leave (v := some (.ref w2)) (fun h => by rw [Bd.returns] at h; cases h)
  refine ⟨_, _, pre0 _ ?_, hrun, hended, _, _, rfl, ?_, ⟨_, rfl⟩, hW, hsame.mono (by decide) (by decide)⟩
  · show Steps p.tables e below (s₁.setTop (mkF m 0 #[.val (.int p1), .unset] [])) _
    refine XS.iloadN X0.here hx rfl (hb hby d1_0) rfl ?_
    show Steps p.tables e below (s₁.setTop (mkF m 1 #[.val (.int p1), .unset] [(.int p1)])) _
    refine XS.iconst X0.here hx rfl (hb hby d1_1) ?_
    show Steps p.tables e below (s₁.setTop (mkF m 2 #[.val (.int p1), .unset] [(.int (3 : Int32)), (.int p1)])) _
    refine XS.iand X0.here hx rfl (hb hby d1_2) rfl ?_
    show Steps p.tables e below (s₁.setTop (mkF m 3 #[.val (.int p1), .unset] [(.int (p1 &&& (3 : Int32)))])) _
    refine XS.istoreN X0.here hx rfl (hb hby d1_3) rfl (l' := #[.val (.int p1), .val (.int (p1 &&& (3 : Int32)))]) rfl ?_
    show Steps p.tables e below (s₁.setTop (mkF m 4 #[.val (.int p1), .val (.int (p1 &&& (3 : Int32)))] [])) _
    refine XS.iloadN X0.here hx rfl (hb hby d1_4) rfl ?_
    show Steps p.tables e below (s₁.setTop (mkF m 5 #[.val (.int p1), .val (.int (p1 &&& (3 : Int32)))] [(.int (p1 &&& (3 : Int32)))])) _
    refine XS.ifYes X0.here hx rfl (pc0 := 5) (pc' := 12) rfl (hb hby d1_5) rfl ((if0 _ _).trans (feq hc5).2) (by decide) (by decide) ?_
    show Steps p.tables e below (s₁.setTop (mkF m 12 #[.val (.int p1), .val (.int (p1 &&& (3 : Int32)))] [])) _
    refine XS.iloadN X0.here hx rfl (hb hby d1_12) rfl ?_
    show Steps p.tables e below (s₁.setTop (mkF m 13 #[.val (.int p1), .val (.int (p1 &&& (3 : Int32)))] [(.int (p1 &&& (3 : Int32)))])) _
    refine XS.iconst X0.here hx rfl (hb hby d1_13) ?_
    show Steps p.tables e below (s₁.setTop (mkF m 14 #[.val (.int p1), .val (.int (p1 &&& (3 : Int32)))] [(.int (1 : Int32)), (.int (p1 &&& (3 : Int32)))])) _
    refine XS.icmpYes X0.here hx rfl (pc0 := 14) (pc' := 21) rfl (hb hby d1_14) rfl (feq hc14).2 (by decide) (by decide) ?_
    show Steps p.tables e below (s₁.setTop (mkF m 21 #[.val (.int p1), .val (.int (p1 &&& (3 : Int32)))] [])) _
    refine XS.iloadN X0.here hx rfl (hb hby d1_21) rfl ?_
    show Steps p.tables e below (s₁.setTop (mkF m 22 #[.val (.int p1), .val (.int (p1 &&& (3 : Int32)))] [(.int (p1 &&& (3 : Int32)))])) _
    refine XS.iconst X0.here hx rfl (hb hby d1_22) ?_
    show Steps p.tables e below (s₁.setTop (mkF m 23 #[.val (.int p1), .val (.int (p1 &&& (3 : Int32)))] [(.int (2 : Int32)), (.int (p1 &&& (3 : Int32)))])) _
    refine XS.icmpNo X0.here hx rfl (hb hby d1_23) rfl (teq hc23).2 ?_
    show Steps p.tables e below (s₁.setTop (mkF m 26 #[.val (.int p1), .val (.int (p1 &&& (3 : Int32)))] [])) _
    refine st3 _ ?_
    show Steps p.tables e below (T3.setTop (mkF m 29 #[.val (.int p1), .val (.int (p1 &&& (3 : Int32)))] [(.ref w2)])) _
    jvm_step X3.here [X3.here.top, hx, (hb hby d1_29), X3.method', Bd.returns, Value.isRef, FieldType.isReference]
    first | (intro acts; rw [hr _ acts rfl rfl rfl]) | rw [hr _ _ rfl rfl rfl]
    exact Steps.refl _
  · show Q1c Z p1 w2 h0 n0 _ T3.heap _
    rw [e3]
    exact ⟨rfl, N0, rfl⟩
theorem d1_30 : decode method_2_code 30 = .ok (.getstatic 19, 3) := by decide +kernel
theorem d1_33 : decode method_2_code 33 = .ok (.areturn, 1) := by decide +kernel
def Q1d (Z : State) (p1 : Int32) (w2 : Addr) (h0 : Heap) (n0 : Nat) (v : Option Value) (h : Heap) (L : List Loc) : Prop := v = some (.ref w2) ∧ Fr n0 L ∧ h = h0
set_option maxRecDepth 65536 in
set_option maxHeartbeats 40000000 in
theorem rm1d (l : Launch) (Z : State) (a0 : Array Value) (hw : ∀ d ∈ tables_1, d.before a0 Z = true) (ws : List Jvm.Cond) (p1 : Int32) (w2 : Addr) (h0 : Heap) (n0 : Nat) (Z0 : n0 ≤ h0.size) (S_DEAD : Sta Z h0 "com/example/tenacious_courier/tenaciouscourier/model/DeliveryStatus" "DEAD" "Lcom/example/tenacious_courier/tenaciouscourier/model/DeliveryStatus;" (.ref w2)) (hc5 : ¬ ((p1 &&& (3 : Int32)) = (0 : Int32))) (hc14 : ¬ ((p1 &&& (3 : Int32)) = (1 : Int32))) (hc23 : ¬ ((p1 &&& (3 : Int32)) = (2 : Int32))) :
    MetFree l (⟨"com/example/tenacious_courier/tenaciouscourier/model/DeliveryStatusAllWaitingPinLaw", "pick", "(I)Lcom/example/tenacious_courier/tenaciouscourier/model/DeliveryStatus;"⟩ : MethodName) (head1 (Jvm.Cond.code (⟨"com/example/tenacious_courier/tenaciouscourier/model/DeliveryStatusAllWaitingPinLaw", "pick", "(I)Lcom/example/tenacious_courier/tenaciouscourier/model/DeliveryStatus;"⟩ : MethodName) method_2_code 2 (some (.object "com/example/tenacious_courier/tenaciouscourier/model/DeliveryStatus")) :: ws) ({ frames := 0, cells := 0, slots := 0, locals := 0 } : Room)) (fun a U => a = #[(.int p1)] ∧ Z.Warmed39 U.vm ∧ U.heap = h0) (fun _ _ _ _ _ => True) (fun _ U o U' => ∃ v L, o = .returned v ∧ Q1d Z p1 w2 h0 n0 v U'.heap L ∧ FrameEnd U o U' L ({ frames := 0, cells := 0, slots := 0, locals := 0 } : Room).cells ({ frames := 0, cells := 0, slots := 0, locals := 0 } : Room).slots) := by
  refine MetFree.of_bodySF (plainFor_of_name pn_1) hisR ?_
  intro p e s m args below meth c s₁ Bd hml0 hP hK
  obtain ⟨rfl, hZ, hh⟩ := hP
  have hx := Bd.exec
  have hby := Bd.bytes
  have hml : c.maxLocals = 2 := hml0
  have hown : s.vm.findClass "com/example/tenacious_courier/tenaciouscourier/model/DeliveryStatusAllWaitingPinLaw" = some m.cls := findClass_of_methodNamed Bd.named
  have hnm := (name_of_methodNamed Bd.named Bd.method).1
  have X0 : Stand p l e ({ frames := 0, cells := 0, slots := 0, locals := 0 } : Room) s m #[(.int p1)] below meth c s₁ [] 0 0 := Stand.of_body Bd
  have e0 : s₁.heap = h0 := by rw [← hh, Bd.state]; rfl
  have N0 := Fr.nil n0
  have pre0 : ∀ t, Steps p.tables e below (s₁.setTop (mkF m 0 #[.val (.int p1), .unset] [])) t → Steps p.tables e below (s₁.setTop (entryFrame m #[(.int p1)] 2)) t := fun t k => castTop (ef_1 m p1) k
  obtain ⟨T3, X3, e3, st3⟩ := getS2 X0 hx hZ hown (host := "") (Or.inl (hw _ (List.mem_of_getElem? (i := 128) rfl))) Via.refl e0 S_DEAD (g := (mkF m 30 #[.val (.int p1), .val (.int (p1 &&& (3 : Int32)))] [])) rfl (hb hby d1_30)
  obtain ⟨fs, hr, hrun, hended, hW, hsame⟩ := X3.leave (v := some (.ref w2)) (fun h => by rw [Bd.returns] at h; cases h)
  refine ⟨_, _, pre0 _ ?_, hrun, hended, _, _, rfl, ?_, ⟨_, rfl⟩, hW, hsame.mono (by decide) (by decide)⟩
  · show Steps p.tables e below (s₁.setTop (mkF m 0 #[.val (.int p1), .unset] [])) _
    refine XS.iloadN X0.here hx rfl (hb hby d1_0) rfl ?_
    show Steps p.tables e below (s₁.setTop (mkF m 1 #[.val (.int p1), .unset] [(.int p1)])) _
    refine XS.iconst X0.here hx rfl (hb hby d1_1) ?_
    show Steps p.tables e below (s₁.setTop (mkF m 2 #[.val (.int p1), .unset] [(.int (3 : Int32)), (.int p1)])) _
    refine XS.iand X0.here hx rfl (hb hby d1_2) rfl ?_
    show Steps p.tables e below (s₁.setTop (mkF m 3 #[.val (.int p1), .unset] [(.int (p1 &&& (3 : Int32)))])) _
    refine XS.istoreN X0.here hx rfl (hb hby d1_3) rfl (l' := #[.val (.int p1), .val (.int (p1 &&& (3 : Int32)))]) rfl ?_
    show Steps p.tables e below (s₁.setTop (mkF m 4 #[.val (.int p1), .val (.int (p1 &&& (3 : Int32)))] [])) _
    refine XS.iloadN X0.here hx rfl (hb hby d1_4) rfl ?_
    show Steps p.tables e below (s₁.setTop (mkF m 5 #[.val (.int p1), .val (.int (p1 &&& (3 : Int32)))] [(.int (p1 &&& (3 : Int32)))])) _
    refine XS.ifYes X0.here hx rfl (pc0 := 5) (pc' := 12) rfl (hb hby d1_5) rfl ((if0 _ _).trans (feq hc5).2) (by decide) (by decide) ?_
    show Steps p.tables e below (s₁.setTop (mkF m 12 #[.val (.int p1), .val (.int (p1 &&& (3 : Int32)))] [])) _
    refine XS.iloadN X0.here hx rfl (hb hby d1_12) rfl ?_
    show Steps p.tables e below (s₁.setTop (mkF m 13 #[.val (.int p1), .val (.int (p1 &&& (3 : Int32)))] [(.int (p1 &&& (3 : Int32)))])) _
    refine XS.iconst X0.here hx rfl (hb hby d1_13) ?_
    show Steps p.tables e below (s₁.setTop (mkF m 14 #[.val (.int p1), .val (.int (p1 &&& (3 : Int32)))] [(.int (1 : Int32)), (.int (p1 &&& (3 : Int32)))])) _
    refine XS.icmpYes X0.here hx rfl (pc0 := 14) (pc' := 21) rfl (hb hby d1_14) rfl (feq hc14).2 (by decide) (by decide) ?_
    show Steps p.tables e below (s₁.setTop (mkF m 21 #[.val (.int p1), .val (.int (p1 &&& (3 : Int32)))] [])) _
    refine XS.iloadN X0.here hx rfl (hb hby d1_21) rfl ?_
    show Steps p.tables e below (s₁.setTop (mkF m 22 #[.val (.int p1), .val (.int (p1 &&& (3 : Int32)))] [(.int (p1 &&& (3 : Int32)))])) _
    refine XS.iconst X0.here hx rfl (hb hby d1_22) ?_
    show Steps p.tables e below (s₁.setTop (mkF m 23 #[.val (.int p1), .val (.int (p1 &&& (3 : Int32)))] [(.int (2 : Int32)), (.int (p1 &&& (3 : Int32)))])) _
    refine XS.icmpYes X0.here hx rfl (pc0 := 23) (pc' := 30) rfl (hb hby d1_23) rfl (feq hc23).2 (by decide) (by decide) ?_
    show Steps p.tables e below (s₁.setTop (mkF m 30 #[.val (.int p1), .val (.int (p1 &&& (3 : Int32)))] [])) _
    refine st3 _ ?_
    show Steps p.tables e below (T3.setTop (mkF m 33 #[.val (.int p1), .val (.int (p1 &&& (3 : Int32)))] [(.ref w2)])) _
    jvm_step X3.here [X3.here.top, hx, (hb hby d1_33), X3.method', Bd.returns, Value.isRef, FieldType.isReference]
    first | (intro acts; rw [hr _ acts rfl rfl rfl]) | rw [hr _ _ rfl rfl rfl]
    exact Steps.refl _
  · show Q1d Z p1 w2 h0 n0 _ T3.heap _
    rw [e3]
    exact ⟨rfl, N0, rfl⟩
theorem d2_0 : decode prog_16_method_5_code 0 = .ok (.new 39, 3) := by decide +kernel
theorem d2_3 : decode prog_16_method_5_code 3 = .ok (.dup, 1) := by decide +kernel
theorem d2_4 : decode prog_16_method_5_code 4 = .ok (.invokespecial 41, 3) := by decide +kernel
theorem d2_7 : decode prog_16_method_5_code 7 = .ok (.astore_n 0, 1) := by decide +kernel
theorem d2_8 : decode prog_16_method_5_code 8 = .ok (.invokestatic 44, 3) := by decide +kernel
theorem d2_11 : decode prog_16_method_5_code 11 = .ok (.astore_n 1, 1) := by decide +kernel
theorem d2_12 : decode prog_16_method_5_code 12 = .ok (.aload_n 1, 1) := by decide +kernel
theorem d2_13 : decode prog_16_method_5_code 13 = .ok (.arraylength, 1) := by decide +kernel
theorem d2_14 : decode prog_16_method_5_code 14 = .ok (.istore_n 2, 1) := by decide +kernel
theorem d2_15 : decode prog_16_method_5_code 15 = .ok (.iconst 0, 1) := by decide +kernel
theorem d2_16 : decode prog_16_method_5_code 16 = .ok (.istore_n 3, 1) := by decide +kernel
theorem d2_17 : decode prog_16_method_5_code 17 = .ok (.iload_n 3, 1) := by decide +kernel
theorem d2_18 : decode prog_16_method_5_code 18 = .ok (.iload_n 2, 1) := by decide +kernel
theorem d2_19 : decode prog_16_method_5_code 19 = .ok (.if_icmp .ge 31, 3) := by decide +kernel
theorem d2_22 : decode prog_16_method_5_code 22 = .ok (.aload_n 1, 1) := by decide +kernel
theorem d2_23 : decode prog_16_method_5_code 23 = .ok (.iload_n 3, 1) := by decide +kernel
theorem d2_24 : decode prog_16_method_5_code 24 = .ok (.aaload, 1) := by decide +kernel
theorem d2_25 : decode prog_16_method_5_code 25 = .ok (.astore 4, 2) := by decide +kernel
theorem d2_27 : decode prog_16_method_5_code 27 = .ok (.aload 4, 2) := by decide +kernel
theorem d2_29 : decode prog_16_method_5_code 29 = .ok (.getfield 35, 3) := by decide +kernel
theorem d2_32 : decode prog_16_method_5_code 32 = .ok (.ifCond .eq 12, 3) := by decide +kernel
theorem d2_35 : decode prog_16_method_5_code 35 = .ok (.aload_n 0, 1) := by decide +kernel
theorem d2_36 : decode prog_16_method_5_code 36 = .ok (.aload 4, 2) := by decide +kernel
theorem d2_38 : decode prog_16_method_5_code 38 = .ok (.invokeinterface 48 2, 5) := by decide +kernel
theorem d2_43 : decode prog_16_method_5_code 43 = .ok (.pop, 1) := by decide +kernel
theorem d2_44 : decode prog_16_method_5_code 44 = .ok (.iinc 3 1, 3) := by decide +kernel
theorem d2_47 : decode prog_16_method_5_code 47 = .ok (.goto (-30), 3) := by decide +kernel
theorem d2_50 : decode prog_16_method_5_code 50 = .ok (.aload_n 0, 1) := by decide +kernel
theorem d2_51 : decode prog_16_method_5_code 51 = .ok (.areturn, 1) := by decide +kernel
theorem pn_2 : plainName "com/example/tenacious_courier/tenaciouscourier/model/DeliveryStatus" = true := by first | (simp [plainName, overriddenIn]; done) | decide +kernel
theorem pd_2_2 : parseMethodDescriptor "()V" = some ⟨[], none⟩ := by decide +kernel
theorem pd_2_3 : parseMethodDescriptor "()[Lcom/example/tenacious_courier/tenaciouscourier/model/DeliveryStatus;" = some ⟨[], some (.array (.object "com/example/tenacious_courier/tenaciouscourier/model/DeliveryStatus"))⟩ := by decide +kernel
theorem pd_2_5 : parseMethodDescriptor "(Ljava/lang/Object;)Z" = some ⟨[(.object "java/lang/Object")], some .boolean⟩ := by decide +kernel
theorem ef_2 (m : MethodId)  : entryFrame m #[] 5 = mkF m 0 #[.unset, .unset, .unset, .unset, .unset] [] := by first | (simp [entryFrame, mkF, argsToLocals, Value.category]; done) | rfl
def Q2 (Z : State) (aP aR aD aX aV aE : Addr) (kV : ClassId) (cE : Cell) (h0 : Heap) (n0 : Nat) (v : Option Value) (h : Heap) (L : List Loc) : Prop := ∃ (b d : Addr) (k : ClassId), v = some (.ref b) ∧ Fr n0 L ∧ Keep h0 h [] ∧ Exa Z h b "java/util/ArrayList" ∧ Fld Z h b "java/util/ArrayList" "elementData" "[Ljava/lang/Object;" (.ref d) ∧ Fld Z h b "java/util/ArrayList" "size" "I" (.int (2 : Int32)) ∧ Arv Z h d k (.object "java/lang/Object") (10 : Int32) [(.ref aP), (.ref aR), .null, .null, .null, .null, .null, .null, .null, .null] .null
set_option maxRecDepth 65536 in
set_option maxHeartbeats 40000000 in
theorem rm2 (l : Launch) (Z : State) (a0 : Array Value) (hw : ∀ d ∈ tables_1, d.before a0 Z = true) (ws : List Jvm.Cond) (aP aR aD aX aV aE : Addr) (kV : ClassId) (cE : Cell) (h0 : Heap) (n0 : Nat) (Z0 : n0 ≤ h0.size) (hW0 : own_W Z h0 aP aR aD aX aV aE kV cE) :
    MetFree l (⟨"com/example/tenacious_courier/tenaciouscourier/model/DeliveryStatus", "allWaiting", "()Ljava/util/List;"⟩ : MethodName) (head1 (Jvm.Cond.code (⟨"com/example/tenacious_courier/tenaciouscourier/model/DeliveryStatus", "allWaiting", "()Ljava/util/List;"⟩ : MethodName) prog_16_method_5_code 5 (some (.object "java/util/List")) :: ws) ({ frames := 5, cells := 3, slots := 17, locals := 69 } : Room)) (fun a U => a = #[] ∧ Z.Warmed39 U.vm ∧ U.heap = h0) (fun _ _ _ _ _ => True) (fun _ U o U' => ∃ v L, o = .returned v ∧ Q2 Z aP aR aD aX aV aE kV cE h0 n0 v U'.heap L ∧ FrameEnd U o U' L ({ frames := 5, cells := 3, slots := 17, locals := 69 } : Room).cells ({ frames := 5, cells := 3, slots := 17, locals := 69 } : Room).slots) := by
  refine MetFree.of_bodySF (plainFor_of_name pn_2) hisR ?_
  intro p e s m args below meth c s₁ Bd hml0 hP hK
  obtain ⟨rfl, hZ, hh⟩ := hP
  have hx := Bd.exec
  have hby := Bd.bytes
  have hml : c.maxLocals = 5 := hml0
  have hown : s.vm.findClass "com/example/tenacious_courier/tenaciouscourier/model/DeliveryStatus" = some m.cls := findClass_of_methodNamed Bd.named
  have hnm := (name_of_methodNamed Bd.named Bd.method).1
  have X0 : Stand p l e ({ frames := 5, cells := 3, slots := 17, locals := 69 } : Room) s m #[] below meth c s₁ [] 0 0 := Stand.of_body Bd
  have e0 : s₁.heap = h0 := by rw [← hh, Bd.state]; rfl
  have N0 := Fr.nil n0
  have pre0 : ∀ t, Steps p.tables e below (s₁.setTop (mkF m 0 #[.unset, .unset, .unset, .unset, .unset] [])) t → Steps p.tables e below (s₁.setTop (entryFrame m #[] 5)) t := fun t k => castTop (ef_2 m ) k
  obtain ⟨⟨s1, s2, s3, s4, s5, s6⟩, ⟨x1, x2, x3, x4⟩, ⟨f1, f2, f3, f4⟩, vV, ev, ae, hzE⟩ := hW0
  obtain ⟨T1, h1, X1, e1, E1, A1, D1, -, st1⟩ := newO X0 hx hZ hown (hw _ (List.mem_of_getElem? (i := 10) rfl)) (hw _ (List.mem_of_getElem? (i := 11) rfl)) (hw _ (List.mem_of_getElem? (i := 12) rfl)) e0 (g := (mkF m 0 #[.unset, .unset, .unset, .unset, .unset] [])) rfl (hb hby d2_0) (by decide) (by decide)
  obtain ⟨b1, g1⟩ : ∃ z, z = h0.size := ⟨_, rfl⟩
  rw [← g1] at A1 D1 st1
  have F_modCount_b1 : Fld Z h1 b1 "java/util/AbstractList" "modCount" "I" (.int (0 : Int32)) := D1 (Or.inl (hw _ (List.mem_of_getElem? (i := 32) rfl))) (ty := .int) (by decide)
  have F_elementData_b1 : Fld Z h1 b1 "java/util/ArrayList" "elementData" "[Ljava/lang/Object;" .null := D1 (Or.inl (hw _ (List.mem_of_getElem? (i := 35) rfl))) (ty := (.array (.object "java/lang/Object"))) (by decide)
  have F_size_b1 : Fld Z h1 b1 "java/util/ArrayList" "size" "I" (.int (0 : Int32)) := D1 (Or.inl (hw _ (List.mem_of_getElem? (i := 68) rfl))) (ty := .int) (by decide)
  have E_b1 := A1
  have g_b1 : n0 ≤ b1 := Nat.le_trans Z0 (Nat.le_of_eq g1.symm)
  have sz_b1 : h0.size ≤ b1 := (Nat.le_trans (Keep.refl h0 []).1 (Nat.le_of_eq g1.symm))
  have K1 : Keep h0 h1 [] := (Keep.refl h0 []).ext E1
  obtain ⟨_, _, ⟨T2, L2, k2, n2⟩, -, X2, ⟨Lc2, hQ2, l2, y2, z2⟩, st2⟩ := X1.specialBack hx (y := (⟨"java/util/ArrayList", "<init>", "()V"⟩ : MethodName)) rfl hown (mvT hZ (hw _ (List.mem_of_getElem? (i := 13) rfl))) (mvT hZ (hw _ (List.mem_of_getElem? (i := 14) rfl))) (mvT hZ (hw _ (List.mem_of_getElem? (i := 15) rfl))) (by decide) (backOf (W := 1) (rm3 l Z a0 hw [] b1 aE (.int (0 : Int32)) .null h1 n0 (Nat.le_trans Z0 E1.1) (own_staK s6 K1) E_b1 F_modCount_b1 F_elementData_b1 F_size_b1 g_b1) hZ (hw _ (List.mem_of_getElem? (i := 15) rfl)) (hw _ (List.mem_of_getElem? (i := 12) rfl)) (by decide) (by decide)) (g := (mkF m 4 #[.unset, .unset, .unset, .unset, .unset] [(.ref b1), (.ref b1)])) rfl (by rw [hml]; rfl) (Steps.refl _) (a := b1) (argsL := []) (rest := [(.ref b1)]) (lenOf pd_2_2 rfl) rfl (by show 2 * 0 + _ ≤ _; exact Nat.le_of_eq rfl) (hb hby d2_4) (fun _ _ => ⟨rfl, e1, (by decide : 1 + 0 ≤ _), (by decide : 3 + 0 ≤ _)⟩)
  dsimp only [Pt.U, Pt.locs, Pt.cells, Pt.slots] at X2 l2 y2 z2 st2 hQ2
  subst l2 y2 z2
  obtain ⟨rfl, N2q, K2q, E2q, M2q, D2q, S2q⟩ := hQ2
  have K2 : Keep h0 T2.heap [] := K1.trans K2q (fun x hx => Or.inr (by cases List.mem_singleton.mp hx; exact sz_b1))
  have N2 := Fr.app N0 N2q
  obtain ⟨_, _, ⟨T3, L3, k3, n3⟩, -, X3, ⟨Lc3, hQ3, l3, y3, z3⟩, st3⟩ := Jvm.LawKit.callS X2 hx (y := (⟨"com/example/tenacious_courier/tenaciouscourier/model/DeliveryStatus", "values", "()[Lcom/example/tenacious_courier/tenaciouscourier/model/DeliveryStatus;"⟩ : MethodName)) hown (mvT hZ (hw _ (List.mem_of_getElem? (i := 36) rfl))) (mvT hZ (hw _ (List.mem_of_getElem? (i := 37) rfl))) (mvT hZ (hw _ (List.mem_of_getElem? (i := 5) rfl))) (mvT hZ (hw _ (List.mem_of_getElem? (i := 38) rfl))) (by decide) (backOf (W := 0) (rm7 l Z a0 hw [] aV kV [(.ref aP), (.ref aR), (.ref aD), (.ref aX)] T2.heap n0 (Nat.le_trans Z0 K2.1) (own_staK s5 K2) (ev.keep K2) (vV.keep K2 nin0)) hZ (hw _ (List.mem_of_getElem? (i := 38) rfl)) (hw _ (List.mem_of_getElem? (i := 5) rfl)) (by decide) (by decide)) (g := (mkF m 8 #[.val (.ref b1), .unset, .unset, .unset, .unset] [])) rfl (by rw [hml]; rfl) (argsL := []) (rest := []) (lenOf pd_2_3 rfl) rfl (by show 2 * 0 + _ ≤ _; exact Nat.le_of_eq rfl) (hb hby d2_8) (fun _ _ => ⟨rfl, rfl, (by decide : 1 + 1 ≤ _), (by decide : 3 + 4 ≤ _)⟩)
  dsimp only [Pt.U, Pt.locs, Pt.cells, Pt.slots] at X3 l3 y3 z3 st3 hQ3
  subst l3 y3 z3
  obtain ⟨c3, rfl, N3q, E3q, z3q, V3q⟩ := hQ3
  have K3 : Keep h0 T3.heap [] := K2.ext E3q
  obtain ⟨cl3, Ar3, q3c, S3, Nn3, H3, G3⟩ := V3q
  have i0 : ¬ ((0 : Int32) < 0 ∨ cl3.slots.size ≤ ((0 : Int32)).toNatClampNeg) := inb_of S3 ⟨by decide, by decide⟩
  have i1 : ¬ (((0 : Int32) + (1 : Int32)) < 0 ∨ cl3.slots.size ≤ (((0 : Int32) + (1 : Int32))).toNatClampNeg) := inb_of S3 ⟨by decide, by decide⟩
  have i2 : ¬ ((((0 : Int32) + (1 : Int32)) + (1 : Int32)) < 0 ∨ cl3.slots.size ≤ ((((0 : Int32) + (1 : Int32)) + (1 : Int32))).toNatClampNeg) := inb_of S3 ⟨by decide, by decide⟩
  have i3 : ¬ (((((0 : Int32) + (1 : Int32)) + (1 : Int32)) + (1 : Int32)) < 0 ∨ cl3.slots.size ≤ (((((0 : Int32) + (1 : Int32)) + (1 : Int32)) + (1 : Int32))).toNatClampNeg) := inb_of S3 ⟨by decide, by decide⟩
  have j0 : cl3.slots[((0 : Int32)).toNatClampNeg]? = some (.ref aP) := H3.at i0 rfl
  have j1 : cl3.slots[(((0 : Int32) + (1 : Int32))).toNatClampNeg]? = some (.ref aR) := H3.at i1 rfl
  have j2 : cl3.slots[((((0 : Int32) + (1 : Int32)) + (1 : Int32))).toNatClampNeg]? = some (.ref aD) := H3.at i2 rfl
  have j3 : cl3.slots[(((((0 : Int32) + (1 : Int32)) + (1 : Int32)) + (1 : Int32))).toNatClampNeg]? = some (.ref aX) := H3.at i3 rfl
  have n31 : b1 ≠ c3 := Nat.ne_of_lt (Nat.lt_of_lt_of_le E2q.lt z3q)
  have N3 := Fr.app N2 N3q
  obtain ⟨T6, X6, e6, st6⟩ := getF X3 hx hZ hown (host := "") (Or.inl (hw _ (List.mem_of_getElem? (i := 54) rfl))) Via.refl rfl (f1.keep K3 nin0) (g := (mkF m 29 #[.val (.ref b1), .val (.ref c3), .val (.int (4 : Int32)), .val (.int (0 : Int32)), .val (.ref aP)] [(.ref aP)])) rfl rfl (hb hby d2_29)
  obtain ⟨cq7, kq7, q7a, q7b, q7c⟩ := isOf hZ e6 (E2q.ext E3q)
  obtain ⟨_, _, ⟨T7, L7, k7, n7⟩, -, X7, ⟨Lc7, hQ7, l7, y7, z7⟩, st7⟩ := X6.interfaceBack hx (xi := (⟨"java/util/List", "add", "(Ljava/lang/Object;)Z"⟩ : MethodName)) (y := (⟨"java/util/ArrayList", "add", "(Ljava/lang/Object;)Z"⟩ : MethodName)) hown (mvT hZ (hw _ (List.mem_of_getElem? (i := 56) rfl))) (mvT hZ (hw _ (List.mem_of_getElem? (i := 57) rfl))) (mvT hZ (hw _ (List.mem_of_getElem? (i := 58) rfl))) (mvT hZ (hw _ (List.mem_of_getElem? (i := 59) rfl))) (mvT hZ (hw _ (List.mem_of_getElem? (i := 60) rfl))) (mvT hZ (hw _ (List.mem_of_getElem? (i := 61) rfl))) (mvT hZ (hw _ (List.mem_of_getElem? (i := 62) rfl))) (mvT hZ (hw _ (List.mem_of_getElem? (i := 63) rfl))) (by decide) (backOf (W := 0) (rm8a l Z a0 hw [] b1 aP aE cE T3.heap n0 (Nat.le_trans Z0 K3.1) (D2q.ext E3q) ⟨K3.2.1 _ _ ae.1 nin0, ae.2⟩ hzE (own_staK s6 K3) (E2q.ext E3q) (M2q.ext E3q) (S2q.ext E3q) g_b1 (x1.keep K3)) hZ (hw _ (List.mem_of_getElem? (i := 64) rfl)) (hw _ (List.mem_of_getElem? (i := 12) rfl)) (by decide) (by decide)) q7a q7b q7c (g := (mkF m 38 #[.val (.ref b1), .val (.ref c3), .val (.int (4 : Int32)), .val (.int (0 : Int32)), .val (.ref aP)] [(.ref aP), (.ref b1)])) rfl (by rw [hml]; rfl) (Steps.refl _) (argsL := [(.ref aP)]) (rest := []) (lenOf pd_2_5 rfl) rfl (by show 2 * 0 + _ ≤ _; exact Nat.le_of_eq rfl) (hb hby d2_38) (fun _ _ => ⟨rfl, e6, (by decide : 2 + 1 ≤ _), (by decide : 7 + 10 ≤ _)⟩)
  dsimp only [Pt.U, Pt.locs, Pt.cells, Pt.slots] at X7 l7 y7 z7 st7 hQ7
  subst l7 y7 z7
  obtain ⟨d7, k7d, rfl, N7q, K7q, E7q, z7q, M7q, D7q, S7q, V7q, O7q⟩ := hQ7
  have K7 : Keep h0 T7.heap [] := K3.trans K7q (fun x hx => Or.inr (by cases List.mem_singleton.mp hx; exact sz_b1))
  have Ar7 : Arr Z T7.heap c3 cl3 (.object "com/example/tenacious_courier/tenaciouscourier/model/DeliveryStatus") := ⟨K7q.2.1 _ _ Ar3.1 (ninS (Ne.symm n31) nin0), Ar3.2⟩
  have s_d7 : h0.size ≤ d7 := Nat.le_trans K3.1 z7q
  have n7d : b1 ≠ d7 := Nat.ne_of_lt (Nat.lt_of_lt_of_le (E2q.ext E3q).lt z7q)
  have n7c : c3 ≠ d7 := Nat.ne_of_lt (Nat.lt_of_lt_of_le Ar3.lt z7q)
  have N7 := Fr.app N3 N7q
  obtain ⟨T10, X10, e10, st10⟩ := getF X7 hx hZ hown (host := "") (Or.inl (hw _ (List.mem_of_getElem? (i := 54) rfl))) Via.refl rfl (f2.keep K7 nin0) (g := (mkF m 29 #[.val (.ref b1), .val (.ref c3), .val (.int (4 : Int32)), .val (.int ((0 : Int32) + (1 : Int32))), .val (.ref aR)] [(.ref aR)])) rfl rfl (hb hby d2_29)
  obtain ⟨cq11, kq11, q11a, q11b, q11c⟩ := isOf hZ e10 E7q
  obtain ⟨_, _, ⟨T11, L11, k11, n11⟩, -, X11, ⟨Lc11, hQ11, l11, y11, z11⟩, st11⟩ := X10.interfaceBack hx (xi := (⟨"java/util/List", "add", "(Ljava/lang/Object;)Z"⟩ : MethodName)) (y := (⟨"java/util/ArrayList", "add", "(Ljava/lang/Object;)Z"⟩ : MethodName)) hown (mvT hZ (hw _ (List.mem_of_getElem? (i := 56) rfl))) (mvT hZ (hw _ (List.mem_of_getElem? (i := 57) rfl))) (mvT hZ (hw _ (List.mem_of_getElem? (i := 58) rfl))) (mvT hZ (hw _ (List.mem_of_getElem? (i := 59) rfl))) (mvT hZ (hw _ (List.mem_of_getElem? (i := 60) rfl))) (mvT hZ (hw _ (List.mem_of_getElem? (i := 61) rfl))) (mvT hZ (hw _ (List.mem_of_getElem? (i := 62) rfl))) (mvT hZ (hw _ (List.mem_of_getElem? (i := 63) rfl))) (by decide) (backOf (W := 0) (rm8b l Z a0 hw [] b1 aR d7 aP k7d T7.heap n0 (Nat.le_trans Z0 K7.1) V7q O7q D7q E7q M7q S7q g_b1 (Nat.le_trans Z0 s_d7) n7d (x2.keep K7)) hZ (hw _ (List.mem_of_getElem? (i := 64) rfl)) (hw _ (List.mem_of_getElem? (i := 12) rfl)) (by decide) (by decide)) q11a q11b q11c (g := (mkF m 38 #[.val (.ref b1), .val (.ref c3), .val (.int (4 : Int32)), .val (.int ((0 : Int32) + (1 : Int32))), .val (.ref aR)] [(.ref aR), (.ref b1)])) rfl (by rw [hml]; rfl) (Steps.refl _) (argsL := [(.ref aR)]) (rest := []) (lenOf pd_2_5 rfl) rfl (by show 2 * 0 + _ ≤ _; exact Nat.le_of_eq rfl) (hb hby d2_38) (fun _ _ => ⟨rfl, e10, (by decide : 3 + 0 ≤ _), (by decide : 17 + 0 ≤ _)⟩)
  dsimp only [Pt.U, Pt.locs, Pt.cells, Pt.slots] at X11 l11 y11 z11 st11 hQ11
  subst l11 y11 z11
  obtain ⟨rfl, N11q, K11q, E11q, M11q, D11q, S11q, V11q⟩ := hQ11
  have K11 : Keep h0 T11.heap [] := K7.trans K11q (fun x hx => Or.inr (by rcases List.mem_cons.mp hx with rfl | hx; exact s_d7; cases List.mem_singleton.mp hx; exact sz_b1))
  have Ar11 : Arr Z T11.heap c3 cl3 (.object "com/example/tenacious_courier/tenaciouscourier/model/DeliveryStatus") := ⟨K11q.2.1 _ _ Ar7.1 (ninS n7c (ninS (Ne.symm n31) nin0)), Ar7.2⟩
  have N11 := Fr.app N7 N11q
  obtain ⟨T14, X14, e14, st14⟩ := getF X11 hx hZ hown (host := "") (Or.inl (hw _ (List.mem_of_getElem? (i := 54) rfl))) Via.refl rfl (f3.keep K11 nin0) (g := (mkF m 29 #[.val (.ref b1), .val (.ref c3), .val (.int (4 : Int32)), .val (.int (((0 : Int32) + (1 : Int32)) + (1 : Int32))), .val (.ref aD)] [(.ref aD)])) rfl rfl (hb hby d2_29)
  obtain ⟨T17, X17, e17, st17⟩ := getF X14 hx hZ hown (host := "") (Or.inl (hw _ (List.mem_of_getElem? (i := 54) rfl))) Via.refl e14 (f4.keep K11 nin0) (g := (mkF m 29 #[.val (.ref b1), .val (.ref c3), .val (.int (4 : Int32)), .val (.int ((((0 : Int32) + (1 : Int32)) + (1 : Int32)) + (1 : Int32))), .val (.ref aX)] [(.ref aX)])) rfl rfl (hb hby d2_29)
  obtain ⟨fs, hr, hrun, hended, hW, hsame⟩ := X17.leave (v := some (.ref b1)) (fun h => by rw [Bd.returns] at h; cases h)
  refine ⟨_, _, pre0 _ ?_, hrun, hended, _, _, rfl, ?_, ⟨_, rfl⟩, hW, hsame.mono (by decide) (by decide)⟩
  · show Steps p.tables e below (s₁.setTop (mkF m 0 #[.unset, .unset, .unset, .unset, .unset] [])) _
    refine st1 _ ?_
    show Steps p.tables e below (T1.setTop (mkF m 3 #[.unset, .unset, .unset, .unset, .unset] [(.ref b1)])) _
    refine XS.dup X1.here hx rfl (hb hby d2_3) rfl rfl ?_
    show Steps p.tables e below (T1.setTop (mkF m 4 #[.unset, .unset, .unset, .unset, .unset] [(.ref b1), (.ref b1)])) _
    refine st2.trans ?_
    show Steps p.tables e below (T2.setTop (mkF m 7 #[.unset, .unset, .unset, .unset, .unset] [(.ref b1)])) _
    refine XS.astoreN X2.here hx rfl (hb hby d2_7) rfl rfl (l' := #[.val (.ref b1), .unset, .unset, .unset, .unset]) rfl ?_
    show Steps p.tables e below (T2.setTop (mkF m 8 #[.val (.ref b1), .unset, .unset, .unset, .unset] [])) _
    refine st3 _ ?_
    show Steps p.tables e below (T3.setTop (mkF m 11 #[.val (.ref b1), .unset, .unset, .unset, .unset] [(.ref c3)])) _
    refine XS.astoreN X3.here hx rfl (hb hby d2_11) rfl rfl (l' := #[.val (.ref b1), .val (.ref c3), .unset, .unset, .unset]) rfl ?_
    show Steps p.tables e below (T3.setTop (mkF m 12 #[.val (.ref b1), .val (.ref c3), .unset, .unset, .unset] [])) _
    refine XS.aloadN X3.here hx rfl (hb hby d2_12) rfl rfl ?_
    show Steps p.tables e below (T3.setTop (mkF m 13 #[.val (.ref b1), .val (.ref c3), .unset, .unset, .unset] [(.ref c3)])) _
    refine X3.arraylength hx Ar3.1 (State.isArrayOf_alike hZ.alike Ar3.2.1) (g := (mkF m 13 #[.val (.ref b1), .val (.ref c3), .unset, .unset, .unset] [(.ref c3)])) rfl rfl (hb hby d2_13) _ ?_
    rw [len_of S3 Nn3]
    show Steps p.tables e below (T3.setTop (mkF m 14 #[.val (.ref b1), .val (.ref c3), .unset, .unset, .unset] [(.int (4 : Int32))])) _
    refine XS.istoreN X3.here hx rfl (hb hby d2_14) rfl (l' := #[.val (.ref b1), .val (.ref c3), .val (.int (4 : Int32)), .unset, .unset]) rfl ?_
    show Steps p.tables e below (T3.setTop (mkF m 15 #[.val (.ref b1), .val (.ref c3), .val (.int (4 : Int32)), .unset, .unset] [])) _
    refine XS.iconst X3.here hx rfl (hb hby d2_15) ?_
    show Steps p.tables e below (T3.setTop (mkF m 16 #[.val (.ref b1), .val (.ref c3), .val (.int (4 : Int32)), .unset, .unset] [(.int (0 : Int32))])) _
    refine XS.istoreN X3.here hx rfl (hb hby d2_16) rfl (l' := #[.val (.ref b1), .val (.ref c3), .val (.int (4 : Int32)), .val (.int (0 : Int32)), .unset]) rfl ?_
    show Steps p.tables e below (T3.setTop (mkF m 17 #[.val (.ref b1), .val (.ref c3), .val (.int (4 : Int32)), .val (.int (0 : Int32)), .unset] [])) _
    refine XS.iloadN X3.here hx rfl (hb hby d2_17) rfl ?_
    show Steps p.tables e below (T3.setTop (mkF m 18 #[.val (.ref b1), .val (.ref c3), .val (.int (4 : Int32)), .val (.int (0 : Int32)), .unset] [(.int (0 : Int32))])) _
    refine XS.iloadN X3.here hx rfl (hb hby d2_18) rfl ?_
    show Steps p.tables e below (T3.setTop (mkF m 19 #[.val (.ref b1), .val (.ref c3), .val (.int (4 : Int32)), .val (.int (0 : Int32)), .unset] [(.int (4 : Int32)), (.int (0 : Int32))])) _
    refine XS.icmpNo X3.here hx rfl (hb hby d2_19) rfl (tlt (by decide : (0 : Int32) < (4 : Int32))).2.1 ?_
    show Steps p.tables e below (T3.setTop (mkF m 22 #[.val (.ref b1), .val (.ref c3), .val (.int (4 : Int32)), .val (.int (0 : Int32)), .unset] [])) _
    refine XS.aloadN X3.here hx rfl (hb hby d2_22) rfl rfl ?_
    show Steps p.tables e below (T3.setTop (mkF m 23 #[.val (.ref b1), .val (.ref c3), .val (.int (4 : Int32)), .val (.int (0 : Int32)), .unset] [(.ref c3)])) _
    refine XS.iloadN X3.here hx rfl (hb hby d2_23) rfl ?_
    show Steps p.tables e below (T3.setTop (mkF m 24 #[.val (.ref b1), .val (.ref c3), .val (.int (4 : Int32)), .val (.int (0 : Int32)), .unset] [(.int (0 : Int32)), (.ref c3)])) _
    refine X3.aaload hx (j := (0 : Int32)) (v := (.ref aP)) Ar3.1 (State.isArrayOf_alike hZ.alike Ar3.2.1) rfl Ar3.2.2 i0 j0 (g := (mkF m 24 #[.val (.ref b1), .val (.ref c3), .val (.int (4 : Int32)), .val (.int (0 : Int32)), .unset] [(.int (0 : Int32)), (.ref c3)])) rfl rfl (hb hby d2_24) _ ?_
    show Steps p.tables e below (T3.setTop (mkF m 25 #[.val (.ref b1), .val (.ref c3), .val (.int (4 : Int32)), .val (.int (0 : Int32)), .unset] [(.ref aP)])) _
    refine XS.astore X3.here hx rfl (hb hby d2_25) rfl rfl (l' := #[.val (.ref b1), .val (.ref c3), .val (.int (4 : Int32)), .val (.int (0 : Int32)), .val (.ref aP)]) rfl ?_
    show Steps p.tables e below (T3.setTop (mkF m 27 #[.val (.ref b1), .val (.ref c3), .val (.int (4 : Int32)), .val (.int (0 : Int32)), .val (.ref aP)] [])) _
    refine XS.aload X3.here hx rfl (hb hby d2_27) rfl rfl ?_
    show Steps p.tables e below (T3.setTop (mkF m 29 #[.val (.ref b1), .val (.ref c3), .val (.int (4 : Int32)), .val (.int (0 : Int32)), .val (.ref aP)] [(.ref aP)])) _
    refine st6 _ ?_
    show Steps p.tables e below (T6.setTop (mkF m 32 #[.val (.ref b1), .val (.ref c3), .val (.int (4 : Int32)), .val (.int (0 : Int32)), .val (.ref aP)] [(.int (1 : Int32))])) _
    refine XS.ifNo X6.here hx rfl (hb hby d2_32) rfl ((if0 _ _).trans (feq (by decide : ¬ ((1 : Int32) = (0 : Int32)))).1) ?_
    show Steps p.tables e below (T6.setTop (mkF m 35 #[.val (.ref b1), .val (.ref c3), .val (.int (4 : Int32)), .val (.int (0 : Int32)), .val (.ref aP)] [])) _
    refine XS.aloadN X6.here hx rfl (hb hby d2_35) rfl rfl ?_
    show Steps p.tables e below (T6.setTop (mkF m 36 #[.val (.ref b1), .val (.ref c3), .val (.int (4 : Int32)), .val (.int (0 : Int32)), .val (.ref aP)] [(.ref b1)])) _
    refine XS.aload X6.here hx rfl (hb hby d2_36) rfl rfl ?_
    show Steps p.tables e below (T6.setTop (mkF m 38 #[.val (.ref b1), .val (.ref c3), .val (.int (4 : Int32)), .val (.int (0 : Int32)), .val (.ref aP)] [(.ref aP), (.ref b1)])) _
    refine st7.trans ?_
    show Steps p.tables e below (T7.setTop (mkF m 43 #[.val (.ref b1), .val (.ref c3), .val (.int (4 : Int32)), .val (.int (0 : Int32)), .val (.ref aP)] [(.int (1 : Int32))])) _
    refine XS.pop X7.here hx rfl (hb hby d2_43) rfl rfl ?_
    show Steps p.tables e below (T7.setTop (mkF m 44 #[.val (.ref b1), .val (.ref c3), .val (.int (4 : Int32)), .val (.int (0 : Int32)), .val (.ref aP)] [])) _
    refine XS.iinc X7.here hx rfl (hb hby d2_44) rfl (l' := #[.val (.ref b1), .val (.ref c3), .val (.int (4 : Int32)), .val (.int ((0 : Int32) + (1 : Int32))), .val (.ref aP)]) rfl ?_
    show Steps p.tables e below (T7.setTop (mkF m 47 #[.val (.ref b1), .val (.ref c3), .val (.int (4 : Int32)), .val (.int ((0 : Int32) + (1 : Int32))), .val (.ref aP)] [])) _
    refine XS.goto X7.here hx rfl (pc0 := 47) (pc' := 17) rfl (hb hby d2_47) (by decide) (by decide) ?_
    show Steps p.tables e below (T7.setTop (mkF m 17 #[.val (.ref b1), .val (.ref c3), .val (.int (4 : Int32)), .val (.int ((0 : Int32) + (1 : Int32))), .val (.ref aP)] [])) _
    refine XS.iloadN X7.here hx rfl (hb hby d2_17) rfl ?_
    show Steps p.tables e below (T7.setTop (mkF m 18 #[.val (.ref b1), .val (.ref c3), .val (.int (4 : Int32)), .val (.int ((0 : Int32) + (1 : Int32))), .val (.ref aP)] [(.int ((0 : Int32) + (1 : Int32)))])) _
    refine XS.iloadN X7.here hx rfl (hb hby d2_18) rfl ?_
    show Steps p.tables e below (T7.setTop (mkF m 19 #[.val (.ref b1), .val (.ref c3), .val (.int (4 : Int32)), .val (.int ((0 : Int32) + (1 : Int32))), .val (.ref aP)] [(.int (4 : Int32)), (.int ((0 : Int32) + (1 : Int32)))])) _
    refine XS.icmpNo X7.here hx rfl (hb hby d2_19) rfl (tlt (by decide : ((0 : Int32) + (1 : Int32)) < (4 : Int32))).2.1 ?_
    show Steps p.tables e below (T7.setTop (mkF m 22 #[.val (.ref b1), .val (.ref c3), .val (.int (4 : Int32)), .val (.int ((0 : Int32) + (1 : Int32))), .val (.ref aP)] [])) _
    refine XS.aloadN X7.here hx rfl (hb hby d2_22) rfl rfl ?_
    show Steps p.tables e below (T7.setTop (mkF m 23 #[.val (.ref b1), .val (.ref c3), .val (.int (4 : Int32)), .val (.int ((0 : Int32) + (1 : Int32))), .val (.ref aP)] [(.ref c3)])) _
    refine XS.iloadN X7.here hx rfl (hb hby d2_23) rfl ?_
    show Steps p.tables e below (T7.setTop (mkF m 24 #[.val (.ref b1), .val (.ref c3), .val (.int (4 : Int32)), .val (.int ((0 : Int32) + (1 : Int32))), .val (.ref aP)] [(.int ((0 : Int32) + (1 : Int32))), (.ref c3)])) _
    refine X7.aaload hx (j := ((0 : Int32) + (1 : Int32))) (v := (.ref aR)) Ar7.1 (State.isArrayOf_alike hZ.alike Ar7.2.1) rfl Ar7.2.2 i1 j1 (g := (mkF m 24 #[.val (.ref b1), .val (.ref c3), .val (.int (4 : Int32)), .val (.int ((0 : Int32) + (1 : Int32))), .val (.ref aP)] [(.int ((0 : Int32) + (1 : Int32))), (.ref c3)])) rfl rfl (hb hby d2_24) _ ?_
    show Steps p.tables e below (T7.setTop (mkF m 25 #[.val (.ref b1), .val (.ref c3), .val (.int (4 : Int32)), .val (.int ((0 : Int32) + (1 : Int32))), .val (.ref aP)] [(.ref aR)])) _
    refine XS.astore X7.here hx rfl (hb hby d2_25) rfl rfl (l' := #[.val (.ref b1), .val (.ref c3), .val (.int (4 : Int32)), .val (.int ((0 : Int32) + (1 : Int32))), .val (.ref aR)]) rfl ?_
    show Steps p.tables e below (T7.setTop (mkF m 27 #[.val (.ref b1), .val (.ref c3), .val (.int (4 : Int32)), .val (.int ((0 : Int32) + (1 : Int32))), .val (.ref aR)] [])) _
    refine XS.aload X7.here hx rfl (hb hby d2_27) rfl rfl ?_
    show Steps p.tables e below (T7.setTop (mkF m 29 #[.val (.ref b1), .val (.ref c3), .val (.int (4 : Int32)), .val (.int ((0 : Int32) + (1 : Int32))), .val (.ref aR)] [(.ref aR)])) _
    refine st10 _ ?_
    show Steps p.tables e below (T10.setTop (mkF m 32 #[.val (.ref b1), .val (.ref c3), .val (.int (4 : Int32)), .val (.int ((0 : Int32) + (1 : Int32))), .val (.ref aR)] [(.int (1 : Int32))])) _
    refine XS.ifNo X10.here hx rfl (hb hby d2_32) rfl ((if0 _ _).trans (feq (by decide : ¬ ((1 : Int32) = (0 : Int32)))).1) ?_
    show Steps p.tables e below (T10.setTop (mkF m 35 #[.val (.ref b1), .val (.ref c3), .val (.int (4 : Int32)), .val (.int ((0 : Int32) + (1 : Int32))), .val (.ref aR)] [])) _
    refine XS.aloadN X10.here hx rfl (hb hby d2_35) rfl rfl ?_
    show Steps p.tables e below (T10.setTop (mkF m 36 #[.val (.ref b1), .val (.ref c3), .val (.int (4 : Int32)), .val (.int ((0 : Int32) + (1 : Int32))), .val (.ref aR)] [(.ref b1)])) _
    refine XS.aload X10.here hx rfl (hb hby d2_36) rfl rfl ?_
    show Steps p.tables e below (T10.setTop (mkF m 38 #[.val (.ref b1), .val (.ref c3), .val (.int (4 : Int32)), .val (.int ((0 : Int32) + (1 : Int32))), .val (.ref aR)] [(.ref aR), (.ref b1)])) _
    refine st11.trans ?_
    show Steps p.tables e below (T11.setTop (mkF m 43 #[.val (.ref b1), .val (.ref c3), .val (.int (4 : Int32)), .val (.int ((0 : Int32) + (1 : Int32))), .val (.ref aR)] [(.int (1 : Int32))])) _
    refine XS.pop X11.here hx rfl (hb hby d2_43) rfl rfl ?_
    show Steps p.tables e below (T11.setTop (mkF m 44 #[.val (.ref b1), .val (.ref c3), .val (.int (4 : Int32)), .val (.int ((0 : Int32) + (1 : Int32))), .val (.ref aR)] [])) _
    refine XS.iinc X11.here hx rfl (hb hby d2_44) rfl (l' := #[.val (.ref b1), .val (.ref c3), .val (.int (4 : Int32)), .val (.int (((0 : Int32) + (1 : Int32)) + (1 : Int32))), .val (.ref aR)]) rfl ?_
    show Steps p.tables e below (T11.setTop (mkF m 47 #[.val (.ref b1), .val (.ref c3), .val (.int (4 : Int32)), .val (.int (((0 : Int32) + (1 : Int32)) + (1 : Int32))), .val (.ref aR)] [])) _
    refine XS.goto X11.here hx rfl (pc0 := 47) (pc' := 17) rfl (hb hby d2_47) (by decide) (by decide) ?_
    show Steps p.tables e below (T11.setTop (mkF m 17 #[.val (.ref b1), .val (.ref c3), .val (.int (4 : Int32)), .val (.int (((0 : Int32) + (1 : Int32)) + (1 : Int32))), .val (.ref aR)] [])) _
    refine XS.iloadN X11.here hx rfl (hb hby d2_17) rfl ?_
    show Steps p.tables e below (T11.setTop (mkF m 18 #[.val (.ref b1), .val (.ref c3), .val (.int (4 : Int32)), .val (.int (((0 : Int32) + (1 : Int32)) + (1 : Int32))), .val (.ref aR)] [(.int (((0 : Int32) + (1 : Int32)) + (1 : Int32)))])) _
    refine XS.iloadN X11.here hx rfl (hb hby d2_18) rfl ?_
    show Steps p.tables e below (T11.setTop (mkF m 19 #[.val (.ref b1), .val (.ref c3), .val (.int (4 : Int32)), .val (.int (((0 : Int32) + (1 : Int32)) + (1 : Int32))), .val (.ref aR)] [(.int (4 : Int32)), (.int (((0 : Int32) + (1 : Int32)) + (1 : Int32)))])) _
    refine XS.icmpNo X11.here hx rfl (hb hby d2_19) rfl (tlt (by decide : (((0 : Int32) + (1 : Int32)) + (1 : Int32)) < (4 : Int32))).2.1 ?_
    show Steps p.tables e below (T11.setTop (mkF m 22 #[.val (.ref b1), .val (.ref c3), .val (.int (4 : Int32)), .val (.int (((0 : Int32) + (1 : Int32)) + (1 : Int32))), .val (.ref aR)] [])) _
    refine XS.aloadN X11.here hx rfl (hb hby d2_22) rfl rfl ?_
    show Steps p.tables e below (T11.setTop (mkF m 23 #[.val (.ref b1), .val (.ref c3), .val (.int (4 : Int32)), .val (.int (((0 : Int32) + (1 : Int32)) + (1 : Int32))), .val (.ref aR)] [(.ref c3)])) _
    refine XS.iloadN X11.here hx rfl (hb hby d2_23) rfl ?_
    show Steps p.tables e below (T11.setTop (mkF m 24 #[.val (.ref b1), .val (.ref c3), .val (.int (4 : Int32)), .val (.int (((0 : Int32) + (1 : Int32)) + (1 : Int32))), .val (.ref aR)] [(.int (((0 : Int32) + (1 : Int32)) + (1 : Int32))), (.ref c3)])) _
    refine X11.aaload hx (j := (((0 : Int32) + (1 : Int32)) + (1 : Int32))) (v := (.ref aD)) Ar11.1 (State.isArrayOf_alike hZ.alike Ar11.2.1) rfl Ar11.2.2 i2 j2 (g := (mkF m 24 #[.val (.ref b1), .val (.ref c3), .val (.int (4 : Int32)), .val (.int (((0 : Int32) + (1 : Int32)) + (1 : Int32))), .val (.ref aR)] [(.int (((0 : Int32) + (1 : Int32)) + (1 : Int32))), (.ref c3)])) rfl rfl (hb hby d2_24) _ ?_
    show Steps p.tables e below (T11.setTop (mkF m 25 #[.val (.ref b1), .val (.ref c3), .val (.int (4 : Int32)), .val (.int (((0 : Int32) + (1 : Int32)) + (1 : Int32))), .val (.ref aR)] [(.ref aD)])) _
    refine XS.astore X11.here hx rfl (hb hby d2_25) rfl rfl (l' := #[.val (.ref b1), .val (.ref c3), .val (.int (4 : Int32)), .val (.int (((0 : Int32) + (1 : Int32)) + (1 : Int32))), .val (.ref aD)]) rfl ?_
    show Steps p.tables e below (T11.setTop (mkF m 27 #[.val (.ref b1), .val (.ref c3), .val (.int (4 : Int32)), .val (.int (((0 : Int32) + (1 : Int32)) + (1 : Int32))), .val (.ref aD)] [])) _
    refine XS.aload X11.here hx rfl (hb hby d2_27) rfl rfl ?_
    show Steps p.tables e below (T11.setTop (mkF m 29 #[.val (.ref b1), .val (.ref c3), .val (.int (4 : Int32)), .val (.int (((0 : Int32) + (1 : Int32)) + (1 : Int32))), .val (.ref aD)] [(.ref aD)])) _
    refine st14 _ ?_
    show Steps p.tables e below (T14.setTop (mkF m 32 #[.val (.ref b1), .val (.ref c3), .val (.int (4 : Int32)), .val (.int (((0 : Int32) + (1 : Int32)) + (1 : Int32))), .val (.ref aD)] [(.int (0 : Int32))])) _
    refine XS.ifYes X14.here hx rfl (pc0 := 32) (pc' := 44) rfl (hb hby d2_32) rfl ((if0 _ _).trans (teq (rfl : (0 : Int32) = (0 : Int32))).1) (by decide) (by decide) ?_
    show Steps p.tables e below (T14.setTop (mkF m 44 #[.val (.ref b1), .val (.ref c3), .val (.int (4 : Int32)), .val (.int (((0 : Int32) + (1 : Int32)) + (1 : Int32))), .val (.ref aD)] [])) _
    refine XS.iinc X14.here hx rfl (hb hby d2_44) rfl (l' := #[.val (.ref b1), .val (.ref c3), .val (.int (4 : Int32)), .val (.int ((((0 : Int32) + (1 : Int32)) + (1 : Int32)) + (1 : Int32))), .val (.ref aD)]) rfl ?_
    show Steps p.tables e below (T14.setTop (mkF m 47 #[.val (.ref b1), .val (.ref c3), .val (.int (4 : Int32)), .val (.int ((((0 : Int32) + (1 : Int32)) + (1 : Int32)) + (1 : Int32))), .val (.ref aD)] [])) _
    refine XS.goto X14.here hx rfl (pc0 := 47) (pc' := 17) rfl (hb hby d2_47) (by decide) (by decide) ?_
    show Steps p.tables e below (T14.setTop (mkF m 17 #[.val (.ref b1), .val (.ref c3), .val (.int (4 : Int32)), .val (.int ((((0 : Int32) + (1 : Int32)) + (1 : Int32)) + (1 : Int32))), .val (.ref aD)] [])) _
    refine XS.iloadN X14.here hx rfl (hb hby d2_17) rfl ?_
    show Steps p.tables e below (T14.setTop (mkF m 18 #[.val (.ref b1), .val (.ref c3), .val (.int (4 : Int32)), .val (.int ((((0 : Int32) + (1 : Int32)) + (1 : Int32)) + (1 : Int32))), .val (.ref aD)] [(.int ((((0 : Int32) + (1 : Int32)) + (1 : Int32)) + (1 : Int32)))])) _
    refine XS.iloadN X14.here hx rfl (hb hby d2_18) rfl ?_
    show Steps p.tables e below (T14.setTop (mkF m 19 #[.val (.ref b1), .val (.ref c3), .val (.int (4 : Int32)), .val (.int ((((0 : Int32) + (1 : Int32)) + (1 : Int32)) + (1 : Int32))), .val (.ref aD)] [(.int (4 : Int32)), (.int ((((0 : Int32) + (1 : Int32)) + (1 : Int32)) + (1 : Int32)))])) _
    refine XS.icmpNo X14.here hx rfl (hb hby d2_19) rfl (tlt (by decide : ((((0 : Int32) + (1 : Int32)) + (1 : Int32)) + (1 : Int32)) < (4 : Int32))).2.1 ?_
    show Steps p.tables e below (T14.setTop (mkF m 22 #[.val (.ref b1), .val (.ref c3), .val (.int (4 : Int32)), .val (.int ((((0 : Int32) + (1 : Int32)) + (1 : Int32)) + (1 : Int32))), .val (.ref aD)] [])) _
    refine XS.aloadN X14.here hx rfl (hb hby d2_22) rfl rfl ?_
    show Steps p.tables e below (T14.setTop (mkF m 23 #[.val (.ref b1), .val (.ref c3), .val (.int (4 : Int32)), .val (.int ((((0 : Int32) + (1 : Int32)) + (1 : Int32)) + (1 : Int32))), .val (.ref aD)] [(.ref c3)])) _
    refine XS.iloadN X14.here hx rfl (hb hby d2_23) rfl ?_
    show Steps p.tables e below (T14.setTop (mkF m 24 #[.val (.ref b1), .val (.ref c3), .val (.int (4 : Int32)), .val (.int ((((0 : Int32) + (1 : Int32)) + (1 : Int32)) + (1 : Int32))), .val (.ref aD)] [(.int ((((0 : Int32) + (1 : Int32)) + (1 : Int32)) + (1 : Int32))), (.ref c3)])) _
    refine X14.aaload hx (j := ((((0 : Int32) + (1 : Int32)) + (1 : Int32)) + (1 : Int32))) (v := (.ref aX)) (by rw [e14]; exact Ar11.1) (State.isArrayOf_alike hZ.alike Ar11.2.1) rfl Ar11.2.2 i3 j3 (g := (mkF m 24 #[.val (.ref b1), .val (.ref c3), .val (.int (4 : Int32)), .val (.int ((((0 : Int32) + (1 : Int32)) + (1 : Int32)) + (1 : Int32))), .val (.ref aD)] [(.int ((((0 : Int32) + (1 : Int32)) + (1 : Int32)) + (1 : Int32))), (.ref c3)])) rfl rfl (hb hby d2_24) _ ?_
    show Steps p.tables e below (T14.setTop (mkF m 25 #[.val (.ref b1), .val (.ref c3), .val (.int (4 : Int32)), .val (.int ((((0 : Int32) + (1 : Int32)) + (1 : Int32)) + (1 : Int32))), .val (.ref aD)] [(.ref aX)])) _
    refine XS.astore X14.here hx rfl (hb hby d2_25) rfl rfl (l' := #[.val (.ref b1), .val (.ref c3), .val (.int (4 : Int32)), .val (.int ((((0 : Int32) + (1 : Int32)) + (1 : Int32)) + (1 : Int32))), .val (.ref aX)]) rfl ?_
    show Steps p.tables e below (T14.setTop (mkF m 27 #[.val (.ref b1), .val (.ref c3), .val (.int (4 : Int32)), .val (.int ((((0 : Int32) + (1 : Int32)) + (1 : Int32)) + (1 : Int32))), .val (.ref aX)] [])) _
    refine XS.aload X14.here hx rfl (hb hby d2_27) rfl rfl ?_
    show Steps p.tables e below (T14.setTop (mkF m 29 #[.val (.ref b1), .val (.ref c3), .val (.int (4 : Int32)), .val (.int ((((0 : Int32) + (1 : Int32)) + (1 : Int32)) + (1 : Int32))), .val (.ref aX)] [(.ref aX)])) _
    refine st17 _ ?_
    show Steps p.tables e below (T17.setTop (mkF m 32 #[.val (.ref b1), .val (.ref c3), .val (.int (4 : Int32)), .val (.int ((((0 : Int32) + (1 : Int32)) + (1 : Int32)) + (1 : Int32))), .val (.ref aX)] [(.int (0 : Int32))])) _
    refine XS.ifYes X17.here hx rfl (pc0 := 32) (pc' := 44) rfl (hb hby d2_32) rfl ((if0 _ _).trans (teq (rfl : (0 : Int32) = (0 : Int32))).1) (by decide) (by decide) ?_
    show Steps p.tables e below (T17.setTop (mkF m 44 #[.val (.ref b1), .val (.ref c3), .val (.int (4 : Int32)), .val (.int ((((0 : Int32) + (1 : Int32)) + (1 : Int32)) + (1 : Int32))), .val (.ref aX)] [])) _
    refine XS.iinc X17.here hx rfl (hb hby d2_44) rfl (l' := #[.val (.ref b1), .val (.ref c3), .val (.int (4 : Int32)), .val (.int (((((0 : Int32) + (1 : Int32)) + (1 : Int32)) + (1 : Int32)) + (1 : Int32))), .val (.ref aX)]) rfl ?_
    show Steps p.tables e below (T17.setTop (mkF m 47 #[.val (.ref b1), .val (.ref c3), .val (.int (4 : Int32)), .val (.int (((((0 : Int32) + (1 : Int32)) + (1 : Int32)) + (1 : Int32)) + (1 : Int32))), .val (.ref aX)] [])) _
    refine XS.goto X17.here hx rfl (pc0 := 47) (pc' := 17) rfl (hb hby d2_47) (by decide) (by decide) ?_
    show Steps p.tables e below (T17.setTop (mkF m 17 #[.val (.ref b1), .val (.ref c3), .val (.int (4 : Int32)), .val (.int (((((0 : Int32) + (1 : Int32)) + (1 : Int32)) + (1 : Int32)) + (1 : Int32))), .val (.ref aX)] [])) _
    refine XS.iloadN X17.here hx rfl (hb hby d2_17) rfl ?_
    show Steps p.tables e below (T17.setTop (mkF m 18 #[.val (.ref b1), .val (.ref c3), .val (.int (4 : Int32)), .val (.int (((((0 : Int32) + (1 : Int32)) + (1 : Int32)) + (1 : Int32)) + (1 : Int32))), .val (.ref aX)] [(.int (((((0 : Int32) + (1 : Int32)) + (1 : Int32)) + (1 : Int32)) + (1 : Int32)))])) _
    refine XS.iloadN X17.here hx rfl (hb hby d2_18) rfl ?_
    show Steps p.tables e below (T17.setTop (mkF m 19 #[.val (.ref b1), .val (.ref c3), .val (.int (4 : Int32)), .val (.int (((((0 : Int32) + (1 : Int32)) + (1 : Int32)) + (1 : Int32)) + (1 : Int32))), .val (.ref aX)] [(.int (4 : Int32)), (.int (((((0 : Int32) + (1 : Int32)) + (1 : Int32)) + (1 : Int32)) + (1 : Int32)))])) _
    refine XS.icmpYes X17.here hx rfl (pc0 := 19) (pc' := 50) rfl (hb hby d2_19) rfl (flt (by decide : ¬ ((((((0 : Int32) + (1 : Int32)) + (1 : Int32)) + (1 : Int32)) + (1 : Int32)) < (4 : Int32)))).2.1 (by decide) (by decide) ?_
    show Steps p.tables e below (T17.setTop (mkF m 50 #[.val (.ref b1), .val (.ref c3), .val (.int (4 : Int32)), .val (.int (((((0 : Int32) + (1 : Int32)) + (1 : Int32)) + (1 : Int32)) + (1 : Int32))), .val (.ref aX)] [])) _
    refine XS.aloadN X17.here hx rfl (hb hby d2_50) rfl rfl ?_
    show Steps p.tables e below (T17.setTop (mkF m 51 #[.val (.ref b1), .val (.ref c3), .val (.int (4 : Int32)), .val (.int (((((0 : Int32) + (1 : Int32)) + (1 : Int32)) + (1 : Int32)) + (1 : Int32))), .val (.ref aX)] [(.ref b1)])) _
    jvm_step X17.here [X17.here.top, hx, (hb hby d2_51), X17.method', Bd.returns, Value.isRef, FieldType.isReference]
    first | (intro acts; rw [hr _ acts rfl rfl rfl]) | rw [hr _ _ rfl rfl rfl]
    exact Steps.refl _
  · show Q2 Z aP aR aD aX aV aE kV cE h0 n0 _ T17.heap _
    rw [e17]
    exact ⟨b1, d7, k7d, rfl, N11, K11, E11q, D11q, S11q, V11q⟩
theorem pn_0 : plainName "com/example/tenacious_courier/tenaciouscourier/model/DeliveryStatusAllWaitingPinLaw" = true := by first | (simp [plainName, overriddenIn]; done) | decide +kernel
theorem pd_0_0 : parseMethodDescriptor "(I)Lcom/example/tenacious_courier/tenaciouscourier/model/DeliveryStatus;" = some ⟨[.int], some (.object "com/example/tenacious_courier/tenaciouscourier/model/DeliveryStatus")⟩ := by decide +kernel
theorem pd_0_1 : parseMethodDescriptor "()Ljava/util/List;" = some ⟨[], some (.object "java/util/List")⟩ := by decide +kernel
theorem pd_0_10 : parseMethodDescriptor "()I" = some ⟨[], some .int⟩ := by decide +kernel
theorem pd_0_11 : parseMethodDescriptor "(I)Ljava/lang/Object;" = some ⟨[.int], some (.object "java/lang/Object")⟩ := by decide +kernel
theorem pd_0_13 : parseMethodDescriptor "()Z" = some ⟨[], some .boolean⟩ := by decide +kernel
theorem ef_0 (m : MethodId) (x0 : Int32) : entryFrame m #[(.int x0)] maxLocals = mkF m 0 #[.val (.int x0), .unset, .unset, .unset, .unset, .unset] [] := by first | (simp [entryFrame, mkF, argsToLocals, Value.category, maxLocals]; done) | rfl
def Q0a (Z : State) (p1 : Int32) (h0 : Heap) (n0 : Nat) (v : Option Value) (h : Heap) (L : List Loc) : Prop := v = some (.int (1 : Int32)) ∧ Fr n0 L
set_option maxRecDepth 65536 in
set_option maxHeartbeats 40000000 in
theorem rm0a (l : Launch) (Z : State) (a0 : Array Value) (hw : ∀ d ∈ tables_1, d.before a0 Z = true) (ws : List Jvm.Cond) (p1 : Int32) (aP aR aD aX aV aE : Addr) (kV : ClassId) (cE : Cell) (h0 : Heap) (n0 : Nat) (Z0 : n0 ≤ h0.size) (hW0 : own_W Z h0 aP aR aD aX aV aE kV cE) (hc5 : (p1 &&& (3 : Int32)) = (0 : Int32)) :
    MetFree l x (head1 (Jvm.Cond.code x code maxLocals ret :: ws) room_1) (fun a U => a = #[(.int p1)] ∧ Z.Warmed39 U.vm ∧ U.heap = h0) (fun _ _ _ _ _ => True) (fun _ U o U' => ∃ v L, o = .returned v ∧ Q0a Z p1 h0 n0 v U'.heap L ∧ FrameEnd U o U' L room_1.cells room_1.slots) := by
  refine MetFree.of_bodySF (plainFor_of_name pn_0) hisR ?_
  intro p e s m args below meth c s₁ Bd hml0 hP hK
  obtain ⟨rfl, hZ, hh⟩ := hP
  have hx := Bd.exec
  have hby := Bd.bytes
  have hml : c.maxLocals = 6 := hml0
  have hown : s.vm.findClass "com/example/tenacious_courier/tenaciouscourier/model/DeliveryStatusAllWaitingPinLaw" = some m.cls := findClass_of_methodNamed Bd.named
  have hnm := (name_of_methodNamed Bd.named Bd.method).1
  have X0 : Stand p l e room_1 s m #[(.int p1)] below meth c s₁ [] 0 0 := Stand.of_body Bd
  have e0 : s₁.heap = h0 := by rw [← hh, Bd.state]; rfl
  have N0 := Fr.nil n0
  have pre0 : ∀ t, Steps p.tables e below (s₁.setTop (mkF m 0 #[.val (.int p1), .unset, .unset, .unset, .unset, .unset] [])) t → Steps p.tables e below (s₁.setTop (entryFrame m #[(.int p1)] maxLocals)) t := fun t k => castTop (ef_0 m p1) k
  obtain ⟨⟨s1, s2, s3, s4, s5, s6⟩, ⟨x1, x2, x3, x4⟩, ⟨f1, f2, f3, f4⟩, vV, ev, ae, hzE⟩ := id hW0
  obtain ⟨_, _, ⟨T2, L2, k2, n2⟩, -, X2, ⟨Lc2, hQ2, l2, y2, z2⟩, st2⟩ := Jvm.LawKit.callS X0 hx (y := (⟨"com/example/tenacious_courier/tenaciouscourier/model/DeliveryStatusAllWaitingPinLaw", "pick", "(I)Lcom/example/tenacious_courier/tenaciouscourier/model/DeliveryStatus;"⟩ : MethodName)) hown (mvT hZ (hw _ (List.mem_of_getElem? (i := 0) rfl))) (mvT hZ (hw _ (List.mem_of_getElem? (i := 1) rfl))) (mvT hZ (hw _ (List.mem_of_getElem? (i := 2) rfl))) (mvT hZ (hw _ (List.mem_of_getElem? (i := 3) rfl))) (by decide) (backOf (W := 0) (rm1a l Z a0 hw [] p1 aP h0 n0 Z0 s1 hc5) hZ (hw _ (List.mem_of_getElem? (i := 3) rfl)) (hw _ (List.mem_of_getElem? (i := 2) rfl)) (by decide) (by decide)) (g := (mkF m 1 #[.val (.int p1), .unset, .unset, .unset, .unset, .unset] [(.int p1)])) rfl (by rw [hml]; rfl) (argsL := [(.int p1)]) (rest := []) (lenOf pd_0_0 rfl) rfl (by show 2 * 0 + _ ≤ _; exact Nat.le_of_eq rfl) (hb hby at_1) (fun _ _ => ⟨rfl, e0, (by decide : 0 + 0 ≤ _), (by decide : 0 + 0 ≤ _)⟩)
  dsimp only [Pt.U, Pt.locs, Pt.cells, Pt.slots] at X2 l2 y2 z2 st2 hQ2
  subst l2 y2 z2
  obtain ⟨rfl, N2q, k1q⟩ := hQ2
  have N2 := Fr.app N0 N2q
  obtain ⟨_, _, ⟨T3, L3, k3, n3⟩, -, X3, ⟨Lc3, hQ3, l3, y3, z3⟩, st3⟩ := Jvm.LawKit.callS X2 hx (y := (⟨"com/example/tenacious_courier/tenaciouscourier/model/DeliveryStatus", "allWaiting", "()Ljava/util/List;"⟩ : MethodName)) hown (mvT hZ (hw _ (List.mem_of_getElem? (i := 7) rfl))) (mvT hZ (hw _ (List.mem_of_getElem? (i := 8) rfl))) (mvT hZ (hw _ (List.mem_of_getElem? (i := 5) rfl))) (mvT hZ (hw _ (List.mem_of_getElem? (i := 9) rfl))) (by decide) (backOf (W := 0) (rm2 l Z a0 hw [] aP aR aD aX aV aE kV cE T2.heap n0 (by rw [k1q]; exact Z0) (by rw [k1q]; exact hW0)) hZ (hw _ (List.mem_of_getElem? (i := 9) rfl)) (hw _ (List.mem_of_getElem? (i := 5) rfl)) (by decide) (by decide)) (g := (mkF m 5 #[.val (.int p1), .val (.ref aP), .unset, .unset, .unset, .unset] [])) rfl (by rw [hml]; rfl) (argsL := []) (rest := []) (lenOf pd_0_1 rfl) rfl (by show 2 * 0 + _ ≤ _; exact Nat.le_of_eq rfl) (hb hby at_5) (fun _ _ => ⟨rfl, rfl, (by decide : 0 + 3 ≤ _), (by decide : 0 + 17 ≤ _)⟩)
  dsimp only [Pt.U, Pt.locs, Pt.cells, Pt.slots] at X3 l3 y3 z3 st3 hQ3
  subst l3 y3 z3
  obtain ⟨b, d, kd, rfl, N3q, K2q, E2q, D2q, S2q, V2q⟩ := hQ3
  have K2 : Keep h0 T3.heap [] := by rw [k1q] at K2q; exact K2q
  obtain ⟨cl_d, Ar_d, q_d, Sd, Nd, Hd, Gd⟩ := V2q
  have i0 : ¬ ((0 : Int32) < 0 ∨ cl_d.slots.size ≤ ((0 : Int32)).toNatClampNeg) := inb_of Sd ⟨by decide, by decide⟩
  have i1 : ¬ ((1 : Int32) < 0 ∨ cl_d.slots.size ≤ ((1 : Int32)).toNatClampNeg) := inb_of Sd ⟨by decide, by decide⟩
  have j0 : cl_d.slots[((0 : Int32)).toNatClampNeg]? = some (.ref aP) := Hd.at i0 rfl
  have j1 : cl_d.slots[((1 : Int32)).toNatClampNeg]? = some (.ref aR) := Hd.at i1 rfl
  have N3 := Fr.app N2 N3q
  obtain ⟨cq4, kq4, q4a, q4b, q4c⟩ := isOf hZ rfl E2q
  obtain ⟨_, _, ⟨T4, L4, k4, n4⟩, -, X4, ⟨Lc4, hQ4, l4, y4, z4⟩, st4⟩ := X3.interfaceBack hx (xi := (⟨"java/util/List", "size", "()I"⟩ : MethodName)) (y := (⟨"java/util/ArrayList", "size", "()I"⟩ : MethodName)) hown (mvT hZ (hw _ (List.mem_of_getElem? (i := 91) rfl))) (mvT hZ (hw _ (List.mem_of_getElem? (i := 92) rfl))) (mvT hZ (hw _ (List.mem_of_getElem? (i := 93) rfl))) (mvT hZ (hw _ (List.mem_of_getElem? (i := 94) rfl))) (mvT hZ (hw _ (List.mem_of_getElem? (i := 95) rfl))) (mvT hZ (hw _ (List.mem_of_getElem? (i := 96) rfl))) (mvT hZ (hw _ (List.mem_of_getElem? (i := 97) rfl))) (mvT hZ (hw _ (List.mem_of_getElem? (i := 63) rfl))) (by decide) (backOf (W := 0) (rm13 l Z a0 hw [] b (2 : Int32) T3.heap n0 (Nat.le_trans Z0 K2.1) S2q) hZ (hw _ (List.mem_of_getElem? (i := 98) rfl)) (hw _ (List.mem_of_getElem? (i := 12) rfl)) (by decide) (by decide)) q4a q4b q4c (g := (mkF m 16 #[.val (.int p1), .val (.ref aP), .val (.ref b), .unset, .unset, .unset] [(.ref b)])) rfl (by rw [hml]; rfl) (Steps.refl _) (argsL := []) (rest := []) (lenOf pd_0_10 rfl) rfl (by show 2 * 0 + _ ≤ _; exact Nat.le_of_eq rfl) (hb hby at_16) (fun _ _ => ⟨rfl, rfl, (by decide : 3 + 0 ≤ _), (by decide : 17 + 0 ≤ _)⟩)
  dsimp only [Pt.U, Pt.locs, Pt.cells, Pt.slots] at X4 l4 y4 z4 st4 hQ4
  subst l4 y4 z4
  obtain ⟨rfl, N4q, e4q⟩ := hQ4
  have N4 := Fr.app N3 N4q
  obtain ⟨cq5, kq5, q5a, q5b, q5c⟩ := isOf hZ rfl (show Exa Z T4.heap b _ from (by rw [e4q]; exact E2q))
  obtain ⟨_, _, ⟨T5, L5, k5, n5⟩, -, X5, ⟨Lc5, hQ5, l5, y5, z5⟩, st5⟩ := X4.interfaceBack hx (xi := (⟨"java/util/List", "get", "(I)Ljava/lang/Object;"⟩ : MethodName)) (y := (⟨"java/util/ArrayList", "get", "(I)Ljava/lang/Object;"⟩ : MethodName)) hown (mvT hZ (hw _ (List.mem_of_getElem? (i := 99) rfl))) (mvT hZ (hw _ (List.mem_of_getElem? (i := 100) rfl))) (mvT hZ (hw _ (List.mem_of_getElem? (i := 101) rfl))) (mvT hZ (hw _ (List.mem_of_getElem? (i := 102) rfl))) (mvT hZ (hw _ (List.mem_of_getElem? (i := 103) rfl))) (mvT hZ (hw _ (List.mem_of_getElem? (i := 104) rfl))) (mvT hZ (hw _ (List.mem_of_getElem? (i := 105) rfl))) (mvT hZ (hw _ (List.mem_of_getElem? (i := 63) rfl))) (by decide) (backOf (W := 0) (rm14 l Z a0 hw [] b (0 : Int32) (2 : Int32) d cl_d aP T4.heap n0 (by rw [e4q]; exact (Nat.le_trans Z0 K2.1)) (by rw [e4q]; exact S2q) (by rw [e4q]; exact E2q) (by rw [e4q]; exact D2q) (by rw [e4q]; exact Ar_d) i0 j0 (by decide) (by decide)) hZ (hw _ (List.mem_of_getElem? (i := 106) rfl)) (hw _ (List.mem_of_getElem? (i := 12) rfl)) (by decide) (by decide)) q5a q5b q5c (g := (mkF m 29 #[.val (.int p1), .val (.ref aP), .val (.ref b), .unset, .unset, .unset] [(.int (0 : Int32)), (.ref b)])) rfl (by rw [hml]; rfl) (Steps.refl _) (argsL := [(.int (0 : Int32))]) (rest := []) (lenOf pd_0_11 rfl) rfl (by show 2 * 0 + _ ≤ _; exact Nat.le_of_eq rfl) (hb hby at_29) (fun _ _ => ⟨rfl, rfl, (by decide : 3 + 0 ≤ _), (by decide : 17 + 0 ≤ _)⟩)
  dsimp only [Pt.U, Pt.locs, Pt.cells, Pt.slots] at X5 l5 y5 z5 st5 hQ5
  subst l5 y5 z5
  obtain ⟨rfl, N5q, k5q⟩ := hQ5
  have e5q : T5.heap = T3.heap := k5q.trans e4q
  have N5 := Fr.app N4 N5q
  obtain ⟨T6, X6, e6, st6⟩ := castY X5 hx hZ hown (hw _ (List.mem_of_getElem? (i := 120) rfl)) rfl (Ins.self (show Exa Z T5.heap aP _ from (by rw [e5q]; exact x1.keep K2))) (g := (mkF m 34 #[.val (.int p1), .val (.ref aP), .val (.ref b), .unset, .unset, .unset] [(.ref aP)])) rfl rfl (hb hby at_34)
  obtain ⟨cq7, kq7, q7a, q7b, q7c⟩ := isOf hZ e6 (show Exa Z T5.heap b _ from (by rw [e5q]; exact E2q))
  obtain ⟨_, _, ⟨T7, L7, k7, n7⟩, -, X7, ⟨Lc7, hQ7, l7, y7, z7⟩, st7⟩ := X6.interfaceBack hx (xi := (⟨"java/util/List", "get", "(I)Ljava/lang/Object;"⟩ : MethodName)) (y := (⟨"java/util/ArrayList", "get", "(I)Ljava/lang/Object;"⟩ : MethodName)) hown (mvT hZ (hw _ (List.mem_of_getElem? (i := 99) rfl))) (mvT hZ (hw _ (List.mem_of_getElem? (i := 100) rfl))) (mvT hZ (hw _ (List.mem_of_getElem? (i := 101) rfl))) (mvT hZ (hw _ (List.mem_of_getElem? (i := 102) rfl))) (mvT hZ (hw _ (List.mem_of_getElem? (i := 103) rfl))) (mvT hZ (hw _ (List.mem_of_getElem? (i := 104) rfl))) (mvT hZ (hw _ (List.mem_of_getElem? (i := 105) rfl))) (mvT hZ (hw _ (List.mem_of_getElem? (i := 63) rfl))) (by decide) (backOf (W := 0) (rm14 l Z a0 hw [] b (1 : Int32) (2 : Int32) d cl_d aR T5.heap n0 (by rw [e5q]; exact (Nat.le_trans Z0 K2.1)) (by rw [e5q]; exact S2q) (by rw [e5q]; exact E2q) (by rw [e5q]; exact D2q) (by rw [e5q]; exact Ar_d) i1 j1 (by decide) (by decide)) hZ (hw _ (List.mem_of_getElem? (i := 106) rfl)) (hw _ (List.mem_of_getElem? (i := 12) rfl)) (by decide) (by decide)) q7a q7b q7c (g := (mkF m 40 #[.val (.int p1), .val (.ref aP), .val (.ref b), .val (.ref aP), .unset, .unset] [(.int (1 : Int32)), (.ref b)])) rfl (by rw [hml]; rfl) (Steps.refl _) (argsL := [(.int (1 : Int32))]) (rest := []) (lenOf pd_0_11 rfl) rfl (by show 2 * 0 + _ ≤ _; exact Nat.le_of_eq rfl) (hb hby at_40) (fun _ _ => ⟨rfl, e6, (by decide : 3 + 0 ≤ _), (by decide : 17 + 0 ≤ _)⟩)
  dsimp only [Pt.U, Pt.locs, Pt.cells, Pt.slots] at X7 l7 y7 z7 st7 hQ7
  subst l7 y7 z7
  obtain ⟨rfl, N7q, k7q⟩ := hQ7
  have e7q : T7.heap = T3.heap := k7q.trans e5q
  have N7 := Fr.app N5 N7q
  obtain ⟨T8, X8, e8, st8⟩ := castY X7 hx hZ hown (hw _ (List.mem_of_getElem? (i := 120) rfl)) rfl (Ins.self (show Exa Z T7.heap aR _ from (by rw [e7q]; exact x2.keep K2))) (g := (mkF m 45 #[.val (.int p1), .val (.ref aP), .val (.ref b), .val (.ref aP), .unset, .unset] [(.ref aR)])) rfl rfl (hb hby at_45)
  obtain ⟨T10, X10, e10, st10⟩ := getS2 X8 hx hZ hown (host := "") (Or.inl (hw _ (List.mem_of_getElem? (i := 4) rfl))) Via.refl e8 (by rw [e7q]; exact own_staK s1 K2) (g := (mkF m 51 #[.val (.int p1), .val (.ref aP), .val (.ref b), .val (.ref aP), .val (.ref aR), .unset] [(.ref aP)])) rfl (hb hby at_51)
  obtain ⟨T12, X12, e12, st12⟩ := getS2 X10 hx hZ hown (host := "") (Or.inl (hw _ (List.mem_of_getElem? (i := 122) rfl))) Via.refl e10 (by rw [e7q]; exact own_staK s2 K2) (g := (mkF m 61 #[.val (.int p1), .val (.ref aP), .val (.ref b), .val (.ref aP), .val (.ref aR), .unset] [(.ref aR)])) rfl (hb hby at_61)
  obtain ⟨cq13, kq13, q13a, q13b, q13c⟩ := isOf hZ e12 (show Exa Z T7.heap aP _ from (by rw [e7q]; exact x1.keep K2))
  obtain ⟨_, _, ⟨T13, L13, k13, n13⟩, -, X13, ⟨Lc13, hQ13, l13, y13, z13⟩, st13⟩ := X12.virtualBack hx (y := (⟨"com/example/tenacious_courier/tenaciouscourier/model/DeliveryStatus", "waiting", "()Z"⟩ : MethodName)) (z := (⟨"com/example/tenacious_courier/tenaciouscourier/model/DeliveryStatus", "waiting", "()Z"⟩ : MethodName)) hown (mvT hZ (hw _ (List.mem_of_getElem? (i := 123) rfl))) (mvT hZ (hw _ (List.mem_of_getElem? (i := 124) rfl))) (notFace_of_selects (args := #[]) (mvT hZ (hw _ (List.mem_of_getElem? (i := 126) rfl)))) (mvT hZ (hw _ (List.mem_of_getElem? (i := 126) rfl))) (mvT hZ (hw _ (List.mem_of_getElem? (i := 125) rfl))) (by decide) (backOf (W := 1) (rm18 l Z a0 hw [] aP (1 : Int32) T7.heap n0 (by rw [e7q]; exact (Nat.le_trans Z0 K2.1)) (by decide) (by rw [e7q]; exact f1.keep K2 nin0)) hZ (hw _ (List.mem_of_getElem? (i := 127) rfl)) (hw _ (List.mem_of_getElem? (i := 5) rfl)) (by decide) (by decide)) q13a q13c (g := (mkF m 90 #[.val (.int p1), .val (.ref aP), .val (.ref b), .val (.ref aP), .val (.ref aR), .val (.int (1 : Int32))] [(.ref aP), (.int (1 : Int32))])) rfl (by rw [hml]; rfl) (Steps.refl _) (argsL := []) (rest := [(.int (1 : Int32))]) (lenOf pd_0_13 rfl) rfl (by show 2 * 0 + _ ≤ _; exact Nat.le_of_eq rfl) (hb hby at_90) (fun _ _ => ⟨rfl, e12, (by decide : 3 + 0 ≤ _), (by decide : 17 + 0 ≤ _)⟩)
  dsimp only [Pt.U, Pt.locs, Pt.cells, Pt.slots] at X13 l13 y13 z13 st13 hQ13
  subst l13 y13 z13
  obtain ⟨rfl, N13q, k13q⟩ := hQ13
  have N13 := Fr.app N7 N13q
  obtain ⟨fs, hr, hrun, hended, hW, hsame⟩ := X13.leave (v := some (.int (1 : Int32))) (fun h => by rw [Bd.returns] at h; cases h)
  refine ⟨_, _, pre0 _ ?_, hrun, hended, _, _, rfl, ?_, ⟨_, rfl⟩, hW, hsame.mono (by decide) (by decide)⟩
  · show Steps p.tables e below (s₁.setTop (mkF m 0 #[.val (.int p1), .unset, .unset, .unset, .unset, .unset] [])) _
    refine XS.iloadN X0.here hx rfl (hb hby at_0) rfl ?_
    show Steps p.tables e below (s₁.setTop (mkF m 1 #[.val (.int p1), .unset, .unset, .unset, .unset, .unset] [(.int p1)])) _
    refine st2 _ ?_
    show Steps p.tables e below (T2.setTop (mkF m 4 #[.val (.int p1), .unset, .unset, .unset, .unset, .unset] [(.ref aP)])) _
    refine XS.astoreN X2.here hx rfl (hb hby at_4) rfl rfl (l' := #[.val (.int p1), .val (.ref aP), .unset, .unset, .unset, .unset]) rfl ?_
    show Steps p.tables e below (T2.setTop (mkF m 5 #[.val (.int p1), .val (.ref aP), .unset, .unset, .unset, .unset] [])) _
    refine st3 _ ?_
    show Steps p.tables e below (T3.setTop (mkF m 8 #[.val (.int p1), .val (.ref aP), .unset, .unset, .unset, .unset] [(.ref b)])) _
    refine XS.astoreN X3.here hx rfl (hb hby at_8) rfl rfl (l' := #[.val (.int p1), .val (.ref aP), .val (.ref b), .unset, .unset, .unset]) rfl ?_
    show Steps p.tables e below (T3.setTop (mkF m 9 #[.val (.int p1), .val (.ref aP), .val (.ref b), .unset, .unset, .unset] [])) _
    refine XS.aloadN X3.here hx rfl (hb hby at_9) rfl rfl ?_
    show Steps p.tables e below (T3.setTop (mkF m 10 #[.val (.int p1), .val (.ref aP), .val (.ref b), .unset, .unset, .unset] [(.ref b)])) _
    refine XS.ifnonnullYes X3.here hx rfl (pc0 := 10) (pc' := 15) rfl (hb hby at_10) rfl (by decide) (by decide) ?_
    show Steps p.tables e below (T3.setTop (mkF m 15 #[.val (.int p1), .val (.ref aP), .val (.ref b), .unset, .unset, .unset] [])) _
    refine XS.aloadN X3.here hx rfl (hb hby at_15) rfl rfl ?_
    show Steps p.tables e below (T3.setTop (mkF m 16 #[.val (.int p1), .val (.ref aP), .val (.ref b), .unset, .unset, .unset] [(.ref b)])) _
    refine st4.trans ?_
    show Steps p.tables e below (T4.setTop (mkF m 21 #[.val (.int p1), .val (.ref aP), .val (.ref b), .unset, .unset, .unset] [(.int (2 : Int32))])) _
    refine XS.iconst X4.here hx rfl (hb hby at_21) ?_
    show Steps p.tables e below (T4.setTop (mkF m 22 #[.val (.int p1), .val (.ref aP), .val (.ref b), .unset, .unset, .unset] [(.int (2 : Int32)), (.int (2 : Int32))])) _
    refine XS.icmpYes X4.here hx rfl (pc0 := 22) (pc' := 27) rfl (hb hby at_22) rfl (teq (by decide : (2 : Int32) = (2 : Int32))).1 (by decide) (by decide) ?_
    show Steps p.tables e below (T4.setTop (mkF m 27 #[.val (.int p1), .val (.ref aP), .val (.ref b), .unset, .unset, .unset] [])) _
    refine XS.aloadN X4.here hx rfl (hb hby at_27) rfl rfl ?_
    show Steps p.tables e below (T4.setTop (mkF m 28 #[.val (.int p1), .val (.ref aP), .val (.ref b), .unset, .unset, .unset] [(.ref b)])) _
    refine XS.iconst X4.here hx rfl (hb hby at_28) ?_
    show Steps p.tables e below (T4.setTop (mkF m 29 #[.val (.int p1), .val (.ref aP), .val (.ref b), .unset, .unset, .unset] [(.int (0 : Int32)), (.ref b)])) _
    refine st5.trans ?_
    show Steps p.tables e below (T5.setTop (mkF m 34 #[.val (.int p1), .val (.ref aP), .val (.ref b), .unset, .unset, .unset] [(.ref aP)])) _
    refine st6 _ ?_
    show Steps p.tables e below (T6.setTop (mkF m 37 #[.val (.int p1), .val (.ref aP), .val (.ref b), .unset, .unset, .unset] [(.ref aP)])) _
    refine XS.astoreN X6.here hx rfl (hb hby at_37) rfl rfl (l' := #[.val (.int p1), .val (.ref aP), .val (.ref b), .val (.ref aP), .unset, .unset]) rfl ?_
    show Steps p.tables e below (T6.setTop (mkF m 38 #[.val (.int p1), .val (.ref aP), .val (.ref b), .val (.ref aP), .unset, .unset] [])) _
    refine XS.aloadN X6.here hx rfl (hb hby at_38) rfl rfl ?_
    show Steps p.tables e below (T6.setTop (mkF m 39 #[.val (.int p1), .val (.ref aP), .val (.ref b), .val (.ref aP), .unset, .unset] [(.ref b)])) _
    refine XS.iconst X6.here hx rfl (hb hby at_39) ?_
    show Steps p.tables e below (T6.setTop (mkF m 40 #[.val (.int p1), .val (.ref aP), .val (.ref b), .val (.ref aP), .unset, .unset] [(.int (1 : Int32)), (.ref b)])) _
    refine st7.trans ?_
    show Steps p.tables e below (T7.setTop (mkF m 45 #[.val (.int p1), .val (.ref aP), .val (.ref b), .val (.ref aP), .unset, .unset] [(.ref aR)])) _
    refine st8 _ ?_
    show Steps p.tables e below (T8.setTop (mkF m 48 #[.val (.int p1), .val (.ref aP), .val (.ref b), .val (.ref aP), .unset, .unset] [(.ref aR)])) _
    refine XS.astore X8.here hx rfl (hb hby at_48) rfl rfl (l' := #[.val (.int p1), .val (.ref aP), .val (.ref b), .val (.ref aP), .val (.ref aR), .unset]) rfl ?_
    show Steps p.tables e below (T8.setTop (mkF m 50 #[.val (.int p1), .val (.ref aP), .val (.ref b), .val (.ref aP), .val (.ref aR), .unset] [])) _
    refine XS.aloadN X8.here hx rfl (hb hby at_50) rfl rfl ?_
    show Steps p.tables e below (T8.setTop (mkF m 51 #[.val (.int p1), .val (.ref aP), .val (.ref b), .val (.ref aP), .val (.ref aR), .unset] [(.ref aP)])) _
    refine st10 _ ?_
    show Steps p.tables e below (T10.setTop (mkF m 54 #[.val (.int p1), .val (.ref aP), .val (.ref b), .val (.ref aP), .val (.ref aR), .unset] [(.ref aP), (.ref aP)])) _
    refine Jvm.RoadKit.acmp (g := (mkF m 54 #[.val (.int p1), .val (.ref aP), .val (.ref b), .val (.ref aP), .val (.ref aR), .unset] [(.ref aP), (.ref aP)])) X10 hx rfl rfl rfl (pc0 := 54) (pc' := 59) (same := true) rfl (hb hby at_54) rfl (decide_eq_true (congrArg Value.ref rfl)) (by decide) (by decide) ?_
    show Steps p.tables e below (T10.setTop (mkF m 59 #[.val (.int p1), .val (.ref aP), .val (.ref b), .val (.ref aP), .val (.ref aR), .unset] [])) _
    refine XS.aload X10.here hx rfl (hb hby at_59) rfl rfl ?_
    show Steps p.tables e below (T10.setTop (mkF m 61 #[.val (.int p1), .val (.ref aP), .val (.ref b), .val (.ref aP), .val (.ref aR), .unset] [(.ref aR)])) _
    refine st12 _ ?_
    show Steps p.tables e below (T12.setTop (mkF m 64 #[.val (.int p1), .val (.ref aP), .val (.ref b), .val (.ref aP), .val (.ref aR), .unset] [(.ref aR), (.ref aR)])) _
    refine Jvm.RoadKit.acmp (g := (mkF m 64 #[.val (.int p1), .val (.ref aP), .val (.ref b), .val (.ref aP), .val (.ref aR), .unset] [(.ref aR), (.ref aR)])) X12 hx rfl rfl rfl (pc0 := 64) (pc' := 69) (same := true) rfl (hb hby at_64) rfl (decide_eq_true (congrArg Value.ref rfl)) (by decide) (by decide) ?_
    show Steps p.tables e below (T12.setTop (mkF m 69 #[.val (.int p1), .val (.ref aP), .val (.ref b), .val (.ref aP), .val (.ref aR), .unset] [])) _
    refine XS.aloadN X12.here hx rfl (hb hby at_69) rfl rfl ?_
    show Steps p.tables e below (T12.setTop (mkF m 70 #[.val (.int p1), .val (.ref aP), .val (.ref b), .val (.ref aP), .val (.ref aR), .unset] [(.ref aP)])) _
    refine XS.aloadN X12.here hx rfl (hb hby at_70) rfl rfl ?_
    show Steps p.tables e below (T12.setTop (mkF m 71 #[.val (.int p1), .val (.ref aP), .val (.ref b), .val (.ref aP), .val (.ref aR), .unset] [(.ref aP), (.ref aP)])) _
    refine Jvm.RoadKit.acmp (g := (mkF m 71 #[.val (.int p1), .val (.ref aP), .val (.ref b), .val (.ref aP), .val (.ref aR), .unset] [(.ref aP), (.ref aP)])) X12 hx rfl rfl rfl (pc0 := 71) (pc' := 80) (same := true) rfl (hb hby at_71) rfl (decide_eq_true (congrArg Value.ref rfl)) (by decide) (by decide) ?_
    show Steps p.tables e below (T12.setTop (mkF m 80 #[.val (.int p1), .val (.ref aP), .val (.ref b), .val (.ref aP), .val (.ref aR), .unset] [])) _
    refine XS.iconst X12.here hx rfl (hb hby at_80) ?_
    show Steps p.tables e below (T12.setTop (mkF m 81 #[.val (.int p1), .val (.ref aP), .val (.ref b), .val (.ref aP), .val (.ref aR), .unset] [(.int (1 : Int32))])) _
    refine XS.goto X12.here hx rfl (pc0 := 81) (pc' := 85) rfl (hb hby at_81) (by decide) (by decide) ?_
    show Steps p.tables e below (T12.setTop (mkF m 85 #[.val (.int p1), .val (.ref aP), .val (.ref b), .val (.ref aP), .val (.ref aR), .unset] [(.int (1 : Int32))])) _
    refine XS.istore X12.here hx rfl (hb hby at_85) rfl (l' := #[.val (.int p1), .val (.ref aP), .val (.ref b), .val (.ref aP), .val (.ref aR), .val (.int (1 : Int32))]) rfl ?_
    show Steps p.tables e below (T12.setTop (mkF m 87 #[.val (.int p1), .val (.ref aP), .val (.ref b), .val (.ref aP), .val (.ref aR), .val (.int (1 : Int32))] [])) _
    refine XS.iload X12.here hx rfl (hb hby at_87) rfl ?_
    show Steps p.tables e below (T12.setTop (mkF m 89 #[.val (.int p1), .val (.ref aP), .val (.ref b), .val (.ref aP), .val (.ref aR), .val (.int (1 : Int32))] [(.int (1 : Int32))])) _
    refine XS.aloadN X12.here hx rfl (hb hby at_89) rfl rfl ?_
    show Steps p.tables e below (T12.setTop (mkF m 90 #[.val (.int p1), .val (.ref aP), .val (.ref b), .val (.ref aP), .val (.ref aR), .val (.int (1 : Int32))] [(.ref aP), (.int (1 : Int32))])) _
    refine st13.trans ?_
    show Steps p.tables e below (T13.setTop (mkF m 93 #[.val (.int p1), .val (.ref aP), .val (.ref b), .val (.ref aP), .val (.ref aR), .val (.int (1 : Int32))] [(.int (1 : Int32)), (.int (1 : Int32))])) _
    refine XS.icmpNo X13.here hx rfl (hb hby at_93) rfl (teq (by decide : (1 : Int32) = (1 : Int32))).2 ?_
    show Steps p.tables e below (T13.setTop (mkF m 96 #[.val (.int p1), .val (.ref aP), .val (.ref b), .val (.ref aP), .val (.ref aR), .val (.int (1 : Int32))] [])) _
    refine XS.iconst X13.here hx rfl (hb hby at_96) ?_
    show Steps p.tables e below (T13.setTop (mkF m 97 #[.val (.int p1), .val (.ref aP), .val (.ref b), .val (.ref aP), .val (.ref aR), .val (.int (1 : Int32))] [(.int (1 : Int32))])) _
    refine XS.goto X13.here hx rfl (pc0 := 97) (pc' := 101) rfl (hb hby at_97) (by decide) (by decide) ?_
    show Steps p.tables e below (T13.setTop (mkF m 101 #[.val (.int p1), .val (.ref aP), .val (.ref b), .val (.ref aP), .val (.ref aR), .val (.int (1 : Int32))] [(.int (1 : Int32))])) _
    exact retN X13 hx (t := .boolean) Bd.returns (by simp) (hb hby at_101) hr
  · show Q0a Z p1 h0 n0 _ T13.heap _
    exact ⟨rfl, N13⟩
def Q0b (Z : State) (p1 : Int32) (h0 : Heap) (n0 : Nat) (v : Option Value) (h : Heap) (L : List Loc) : Prop := v = some (.int (1 : Int32)) ∧ Fr n0 L
set_option maxRecDepth 65536 in
set_option maxHeartbeats 40000000 in
theorem rm0b (l : Launch) (Z : State) (a0 : Array Value) (hw : ∀ d ∈ tables_1, d.before a0 Z = true) (ws : List Jvm.Cond) (p1 : Int32) (aP aR aD aX aV aE : Addr) (kV : ClassId) (cE : Cell) (h0 : Heap) (n0 : Nat) (Z0 : n0 ≤ h0.size) (hW0 : own_W Z h0 aP aR aD aX aV aE kV cE) (hc5 : ¬ ((p1 &&& (3 : Int32)) = (0 : Int32))) (hc14 : (p1 &&& (3 : Int32)) = (1 : Int32)) (nRP : aR ≠ aP) :
    MetFree l x (head1 (Jvm.Cond.code x code maxLocals ret :: ws) room_1) (fun a U => a = #[(.int p1)] ∧ Z.Warmed39 U.vm ∧ U.heap = h0) (fun _ _ _ _ _ => True) (fun _ U o U' => ∃ v L, o = .returned v ∧ Q0b Z p1 h0 n0 v U'.heap L ∧ FrameEnd U o U' L room_1.cells room_1.slots) := by
  refine MetFree.of_bodySF (plainFor_of_name pn_0) hisR ?_
  intro p e s m args below meth c s₁ Bd hml0 hP hK
  obtain ⟨rfl, hZ, hh⟩ := hP
  have hx := Bd.exec
  have hby := Bd.bytes
  have hml : c.maxLocals = 6 := hml0
  have hown : s.vm.findClass "com/example/tenacious_courier/tenaciouscourier/model/DeliveryStatusAllWaitingPinLaw" = some m.cls := findClass_of_methodNamed Bd.named
  have hnm := (name_of_methodNamed Bd.named Bd.method).1
  have X0 : Stand p l e room_1 s m #[(.int p1)] below meth c s₁ [] 0 0 := Stand.of_body Bd
  have e0 : s₁.heap = h0 := by rw [← hh, Bd.state]; rfl
  have N0 := Fr.nil n0
  have pre0 : ∀ t, Steps p.tables e below (s₁.setTop (mkF m 0 #[.val (.int p1), .unset, .unset, .unset, .unset, .unset] [])) t → Steps p.tables e below (s₁.setTop (entryFrame m #[(.int p1)] maxLocals)) t := fun t k => castTop (ef_0 m p1) k
  obtain ⟨⟨s1, s2, s3, s4, s5, s6⟩, ⟨x1, x2, x3, x4⟩, ⟨f1, f2, f3, f4⟩, vV, ev, ae, hzE⟩ := id hW0
  obtain ⟨_, _, ⟨T2, L2, k2, n2⟩, -, X2, ⟨Lc2, hQ2, l2, y2, z2⟩, st2⟩ := Jvm.LawKit.callS X0 hx (y := (⟨"com/example/tenacious_courier/tenaciouscourier/model/DeliveryStatusAllWaitingPinLaw", "pick", "(I)Lcom/example/tenacious_courier/tenaciouscourier/model/DeliveryStatus;"⟩ : MethodName)) hown (mvT hZ (hw _ (List.mem_of_getElem? (i := 0) rfl))) (mvT hZ (hw _ (List.mem_of_getElem? (i := 1) rfl))) (mvT hZ (hw _ (List.mem_of_getElem? (i := 2) rfl))) (mvT hZ (hw _ (List.mem_of_getElem? (i := 3) rfl))) (by decide) (backOf (W := 0) (rm1b l Z a0 hw [] p1 aR h0 n0 Z0 s2 hc5 hc14) hZ (hw _ (List.mem_of_getElem? (i := 3) rfl)) (hw _ (List.mem_of_getElem? (i := 2) rfl)) (by decide) (by decide)) (g := (mkF m 1 #[.val (.int p1), .unset, .unset, .unset, .unset, .unset] [(.int p1)])) rfl (by rw [hml]; rfl) (argsL := [(.int p1)]) (rest := []) (lenOf pd_0_0 rfl) rfl (by show 2 * 0 + _ ≤ _; exact Nat.le_of_eq rfl) (hb hby at_1) (fun _ _ => ⟨rfl, e0, (by decide : 0 + 0 ≤ _), (by decide : 0 + 0 ≤ _)⟩)
  dsimp only [Pt.U, Pt.locs, Pt.cells, Pt.slots] at X2 l2 y2 z2 st2 hQ2
  subst l2 y2 z2
  obtain ⟨rfl, N2q, k1q⟩ := hQ2
  have N2 := Fr.app N0 N2q
  obtain ⟨_, _, ⟨T3, L3, k3, n3⟩, -, X3, ⟨Lc3, hQ3, l3, y3, z3⟩, st3⟩ := Jvm.LawKit.callS X2 hx (y := (⟨"com/example/tenacious_courier/tenaciouscourier/model/DeliveryStatus", "allWaiting", "()Ljava/util/List;"⟩ : MethodName)) hown (mvT hZ (hw _ (List.mem_of_getElem? (i := 7) rfl))) (mvT hZ (hw _ (List.mem_of_getElem? (i := 8) rfl))) (mvT hZ (hw _ (List.mem_of_getElem? (i := 5) rfl))) (mvT hZ (hw _ (List.mem_of_getElem? (i := 9) rfl))) (by decide) (backOf (W := 0) (rm2 l Z a0 hw [] aP aR aD aX aV aE kV cE T2.heap n0 (by rw [k1q]; exact Z0) (by rw [k1q]; exact hW0)) hZ (hw _ (List.mem_of_getElem? (i := 9) rfl)) (hw _ (List.mem_of_getElem? (i := 5) rfl)) (by decide) (by decide)) (g := (mkF m 5 #[.val (.int p1), .val (.ref aR), .unset, .unset, .unset, .unset] [])) rfl (by rw [hml]; rfl) (argsL := []) (rest := []) (lenOf pd_0_1 rfl) rfl (by show 2 * 0 + _ ≤ _; exact Nat.le_of_eq rfl) (hb hby at_5) (fun _ _ => ⟨rfl, rfl, (by decide : 0 + 3 ≤ _), (by decide : 0 + 17 ≤ _)⟩)
  dsimp only [Pt.U, Pt.locs, Pt.cells, Pt.slots] at X3 l3 y3 z3 st3 hQ3
  subst l3 y3 z3
  obtain ⟨b, d, kd, rfl, N3q, K2q, E2q, D2q, S2q, V2q⟩ := hQ3
  have K2 : Keep h0 T3.heap [] := by rw [k1q] at K2q; exact K2q
  obtain ⟨cl_d, Ar_d, q_d, Sd, Nd, Hd, Gd⟩ := V2q
  have i0 : ¬ ((0 : Int32) < 0 ∨ cl_d.slots.size ≤ ((0 : Int32)).toNatClampNeg) := inb_of Sd ⟨by decide, by decide⟩
  have i1 : ¬ ((1 : Int32) < 0 ∨ cl_d.slots.size ≤ ((1 : Int32)).toNatClampNeg) := inb_of Sd ⟨by decide, by decide⟩
  have j0 : cl_d.slots[((0 : Int32)).toNatClampNeg]? = some (.ref aP) := Hd.at i0 rfl
  have j1 : cl_d.slots[((1 : Int32)).toNatClampNeg]? = some (.ref aR) := Hd.at i1 rfl
  have N3 := Fr.app N2 N3q
  obtain ⟨cq4, kq4, q4a, q4b, q4c⟩ := isOf hZ rfl E2q
  obtain ⟨_, _, ⟨T4, L4, k4, n4⟩, -, X4, ⟨Lc4, hQ4, l4, y4, z4⟩, st4⟩ := X3.interfaceBack hx (xi := (⟨"java/util/List", "size", "()I"⟩ : MethodName)) (y := (⟨"java/util/ArrayList", "size", "()I"⟩ : MethodName)) hown (mvT hZ (hw _ (List.mem_of_getElem? (i := 91) rfl))) (mvT hZ (hw _ (List.mem_of_getElem? (i := 92) rfl))) (mvT hZ (hw _ (List.mem_of_getElem? (i := 93) rfl))) (mvT hZ (hw _ (List.mem_of_getElem? (i := 94) rfl))) (mvT hZ (hw _ (List.mem_of_getElem? (i := 95) rfl))) (mvT hZ (hw _ (List.mem_of_getElem? (i := 96) rfl))) (mvT hZ (hw _ (List.mem_of_getElem? (i := 97) rfl))) (mvT hZ (hw _ (List.mem_of_getElem? (i := 63) rfl))) (by decide) (backOf (W := 0) (rm13 l Z a0 hw [] b (2 : Int32) T3.heap n0 (Nat.le_trans Z0 K2.1) S2q) hZ (hw _ (List.mem_of_getElem? (i := 98) rfl)) (hw _ (List.mem_of_getElem? (i := 12) rfl)) (by decide) (by decide)) q4a q4b q4c (g := (mkF m 16 #[.val (.int p1), .val (.ref aR), .val (.ref b), .unset, .unset, .unset] [(.ref b)])) rfl (by rw [hml]; rfl) (Steps.refl _) (argsL := []) (rest := []) (lenOf pd_0_10 rfl) rfl (by show 2 * 0 + _ ≤ _; exact Nat.le_of_eq rfl) (hb hby at_16) (fun _ _ => ⟨rfl, rfl, (by decide : 3 + 0 ≤ _), (by decide : 17 + 0 ≤ _)⟩)
  dsimp only [Pt.U, Pt.locs, Pt.cells, Pt.slots] at X4 l4 y4 z4 st4 hQ4
  subst l4 y4 z4
  obtain ⟨rfl, N4q, e4q⟩ := hQ4
  have N4 := Fr.app N3 N4q
  obtain ⟨cq5, kq5, q5a, q5b, q5c⟩ := isOf hZ rfl (show Exa Z T4.heap b _ from (by rw [e4q]; exact E2q))
  obtain ⟨_, _, ⟨T5, L5, k5, n5⟩, -, X5, ⟨Lc5, hQ5, l5, y5, z5⟩, st5⟩ := X4.interfaceBack hx (xi := (⟨"java/util/List", "get", "(I)Ljava/lang/Object;"⟩ : MethodName)) (y := (⟨"java/util/ArrayList", "get", "(I)Ljava/lang/Object;"⟩ : MethodName)) hown (mvT hZ (hw _ (List.mem_of_getElem? (i := 99) rfl))) (mvT hZ (hw _ (List.mem_of_getElem? (i := 100) rfl))) (mvT hZ (hw _ (List.mem_of_getElem? (i := 101) rfl))) (mvT hZ (hw _ (List.mem_of_getElem? (i := 102) rfl))) (mvT hZ (hw _ (List.mem_of_getElem? (i := 103) rfl))) (mvT hZ (hw _ (List.mem_of_getElem? (i := 104) rfl))) (mvT hZ (hw _ (List.mem_of_getElem? (i := 105) rfl))) (mvT hZ (hw _ (List.mem_of_getElem? (i := 63) rfl))) (by decide) (backOf (W := 0) (rm14 l Z a0 hw [] b (0 : Int32) (2 : Int32) d cl_d aP T4.heap n0 (by rw [e4q]; exact (Nat.le_trans Z0 K2.1)) (by rw [e4q]; exact S2q) (by rw [e4q]; exact E2q) (by rw [e4q]; exact D2q) (by rw [e4q]; exact Ar_d) i0 j0 (by decide) (by decide)) hZ (hw _ (List.mem_of_getElem? (i := 106) rfl)) (hw _ (List.mem_of_getElem? (i := 12) rfl)) (by decide) (by decide)) q5a q5b q5c (g := (mkF m 29 #[.val (.int p1), .val (.ref aR), .val (.ref b), .unset, .unset, .unset] [(.int (0 : Int32)), (.ref b)])) rfl (by rw [hml]; rfl) (Steps.refl _) (argsL := [(.int (0 : Int32))]) (rest := []) (lenOf pd_0_11 rfl) rfl (by show 2 * 0 + _ ≤ _; exact Nat.le_of_eq rfl) (hb hby at_29) (fun _ _ => ⟨rfl, rfl, (by decide : 3 + 0 ≤ _), (by decide : 17 + 0 ≤ _)⟩)
  dsimp only [Pt.U, Pt.locs, Pt.cells, Pt.slots] at X5 l5 y5 z5 st5 hQ5
  subst l5 y5 z5
  obtain ⟨rfl, N5q, k5q⟩ := hQ5
  have e5q : T5.heap = T3.heap := k5q.trans e4q
  have N5 := Fr.app N4 N5q
  obtain ⟨T6, X6, e6, st6⟩ := castY X5 hx hZ hown (hw _ (List.mem_of_getElem? (i := 120) rfl)) rfl (Ins.self (show Exa Z T5.heap aP _ from (by rw [e5q]; exact x1.keep K2))) (g := (mkF m 34 #[.val (.int p1), .val (.ref aR), .val (.ref b), .unset, .unset, .unset] [(.ref aP)])) rfl rfl (hb hby at_34)
  obtain ⟨cq7, kq7, q7a, q7b, q7c⟩ := isOf hZ e6 (show Exa Z T5.heap b _ from (by rw [e5q]; exact E2q))
  obtain ⟨_, _, ⟨T7, L7, k7, n7⟩, -, X7, ⟨Lc7, hQ7, l7, y7, z7⟩, st7⟩ := X6.interfaceBack hx (xi := (⟨"java/util/List", "get", "(I)Ljava/lang/Object;"⟩ : MethodName)) (y := (⟨"java/util/ArrayList", "get", "(I)Ljava/lang/Object;"⟩ : MethodName)) hown (mvT hZ (hw _ (List.mem_of_getElem? (i := 99) rfl))) (mvT hZ (hw _ (List.mem_of_getElem? (i := 100) rfl))) (mvT hZ (hw _ (List.mem_of_getElem? (i := 101) rfl))) (mvT hZ (hw _ (List.mem_of_getElem? (i := 102) rfl))) (mvT hZ (hw _ (List.mem_of_getElem? (i := 103) rfl))) (mvT hZ (hw _ (List.mem_of_getElem? (i := 104) rfl))) (mvT hZ (hw _ (List.mem_of_getElem? (i := 105) rfl))) (mvT hZ (hw _ (List.mem_of_getElem? (i := 63) rfl))) (by decide) (backOf (W := 0) (rm14 l Z a0 hw [] b (1 : Int32) (2 : Int32) d cl_d aR T5.heap n0 (by rw [e5q]; exact (Nat.le_trans Z0 K2.1)) (by rw [e5q]; exact S2q) (by rw [e5q]; exact E2q) (by rw [e5q]; exact D2q) (by rw [e5q]; exact Ar_d) i1 j1 (by decide) (by decide)) hZ (hw _ (List.mem_of_getElem? (i := 106) rfl)) (hw _ (List.mem_of_getElem? (i := 12) rfl)) (by decide) (by decide)) q7a q7b q7c (g := (mkF m 40 #[.val (.int p1), .val (.ref aR), .val (.ref b), .val (.ref aP), .unset, .unset] [(.int (1 : Int32)), (.ref b)])) rfl (by rw [hml]; rfl) (Steps.refl _) (argsL := [(.int (1 : Int32))]) (rest := []) (lenOf pd_0_11 rfl) rfl (by show 2 * 0 + _ ≤ _; exact Nat.le_of_eq rfl) (hb hby at_40) (fun _ _ => ⟨rfl, e6, (by decide : 3 + 0 ≤ _), (by decide : 17 + 0 ≤ _)⟩)
  dsimp only [Pt.U, Pt.locs, Pt.cells, Pt.slots] at X7 l7 y7 z7 st7 hQ7
  subst l7 y7 z7
  obtain ⟨rfl, N7q, k7q⟩ := hQ7
  have e7q : T7.heap = T3.heap := k7q.trans e5q
  have N7 := Fr.app N5 N7q
  obtain ⟨T8, X8, e8, st8⟩ := castY X7 hx hZ hown (hw _ (List.mem_of_getElem? (i := 120) rfl)) rfl (Ins.self (show Exa Z T7.heap aR _ from (by rw [e7q]; exact x2.keep K2))) (g := (mkF m 45 #[.val (.int p1), .val (.ref aR), .val (.ref b), .val (.ref aP), .unset, .unset] [(.ref aR)])) rfl rfl (hb hby at_45)
  obtain ⟨T10, X10, e10, st10⟩ := getS2 X8 hx hZ hown (host := "") (Or.inl (hw _ (List.mem_of_getElem? (i := 4) rfl))) Via.refl e8 (by rw [e7q]; exact own_staK s1 K2) (g := (mkF m 51 #[.val (.int p1), .val (.ref aR), .val (.ref b), .val (.ref aP), .val (.ref aR), .unset] [(.ref aP)])) rfl (hb hby at_51)
  obtain ⟨T12, X12, e12, st12⟩ := getS2 X10 hx hZ hown (host := "") (Or.inl (hw _ (List.mem_of_getElem? (i := 122) rfl))) Via.refl e10 (by rw [e7q]; exact own_staK s2 K2) (g := (mkF m 61 #[.val (.int p1), .val (.ref aR), .val (.ref b), .val (.ref aP), .val (.ref aR), .unset] [(.ref aR)])) rfl (hb hby at_61)
  obtain ⟨cq13, kq13, q13a, q13b, q13c⟩ := isOf hZ e12 (show Exa Z T7.heap aR _ from (by rw [e7q]; exact x2.keep K2))
  obtain ⟨_, _, ⟨T13, L13, k13, n13⟩, -, X13, ⟨Lc13, hQ13, l13, y13, z13⟩, st13⟩ := X12.virtualBack hx (y := (⟨"com/example/tenacious_courier/tenaciouscourier/model/DeliveryStatus", "waiting", "()Z"⟩ : MethodName)) (z := (⟨"com/example/tenacious_courier/tenaciouscourier/model/DeliveryStatus", "waiting", "()Z"⟩ : MethodName)) hown (mvT hZ (hw _ (List.mem_of_getElem? (i := 123) rfl))) (mvT hZ (hw _ (List.mem_of_getElem? (i := 124) rfl))) (notFace_of_selects (args := #[]) (mvT hZ (hw _ (List.mem_of_getElem? (i := 126) rfl)))) (mvT hZ (hw _ (List.mem_of_getElem? (i := 126) rfl))) (mvT hZ (hw _ (List.mem_of_getElem? (i := 125) rfl))) (by decide) (backOf (W := 1) (rm18 l Z a0 hw [] aR (1 : Int32) T7.heap n0 (by rw [e7q]; exact (Nat.le_trans Z0 K2.1)) (by decide) (by rw [e7q]; exact f2.keep K2 nin0)) hZ (hw _ (List.mem_of_getElem? (i := 127) rfl)) (hw _ (List.mem_of_getElem? (i := 5) rfl)) (by decide) (by decide)) q13a q13c (g := (mkF m 90 #[.val (.int p1), .val (.ref aR), .val (.ref b), .val (.ref aP), .val (.ref aR), .val (.int (1 : Int32))] [(.ref aR), (.int (1 : Int32))])) rfl (by rw [hml]; rfl) (Steps.refl _) (argsL := []) (rest := [(.int (1 : Int32))]) (lenOf pd_0_13 rfl) rfl (by show 2 * 0 + _ ≤ _; exact Nat.le_of_eq rfl) (hb hby at_90) (fun _ _ => ⟨rfl, e12, (by decide : 3 + 0 ≤ _), (by decide : 17 + 0 ≤ _)⟩)
  dsimp only [Pt.U, Pt.locs, Pt.cells, Pt.slots] at X13 l13 y13 z13 st13 hQ13
  subst l13 y13 z13
  obtain ⟨rfl, N13q, k13q⟩ := hQ13
  have N13 := Fr.app N7 N13q
  obtain ⟨fs, hr, hrun, hended, hW, hsame⟩ := X13.leave (v := some (.int (1 : Int32))) (fun h => by rw [Bd.returns] at h; cases h)
  refine ⟨_, _, pre0 _ ?_, hrun, hended, _, _, rfl, ?_, ⟨_, rfl⟩, hW, hsame.mono (by decide) (by decide)⟩
  · show Steps p.tables e below (s₁.setTop (mkF m 0 #[.val (.int p1), .unset, .unset, .unset, .unset, .unset] [])) _
    refine XS.iloadN X0.here hx rfl (hb hby at_0) rfl ?_
    show Steps p.tables e below (s₁.setTop (mkF m 1 #[.val (.int p1), .unset, .unset, .unset, .unset, .unset] [(.int p1)])) _
    refine st2 _ ?_
    show Steps p.tables e below (T2.setTop (mkF m 4 #[.val (.int p1), .unset, .unset, .unset, .unset, .unset] [(.ref aR)])) _
    refine XS.astoreN X2.here hx rfl (hb hby at_4) rfl rfl (l' := #[.val (.int p1), .val (.ref aR), .unset, .unset, .unset, .unset]) rfl ?_
    show Steps p.tables e below (T2.setTop (mkF m 5 #[.val (.int p1), .val (.ref aR), .unset, .unset, .unset, .unset] [])) _
    refine st3 _ ?_
    show Steps p.tables e below (T3.setTop (mkF m 8 #[.val (.int p1), .val (.ref aR), .unset, .unset, .unset, .unset] [(.ref b)])) _
    refine XS.astoreN X3.here hx rfl (hb hby at_8) rfl rfl (l' := #[.val (.int p1), .val (.ref aR), .val (.ref b), .unset, .unset, .unset]) rfl ?_
    show Steps p.tables e below (T3.setTop (mkF m 9 #[.val (.int p1), .val (.ref aR), .val (.ref b), .unset, .unset, .unset] [])) _
    refine XS.aloadN X3.here hx rfl (hb hby at_9) rfl rfl ?_
    show Steps p.tables e below (T3.setTop (mkF m 10 #[.val (.int p1), .val (.ref aR), .val (.ref b), .unset, .unset, .unset] [(.ref b)])) _
    refine XS.ifnonnullYes X3.here hx rfl (pc0 := 10) (pc' := 15) rfl (hb hby at_10) rfl (by decide) (by decide) ?_
    show Steps p.tables e below (T3.setTop (mkF m 15 #[.val (.int p1), .val (.ref aR), .val (.ref b), .unset, .unset, .unset] [])) _
    refine XS.aloadN X3.here hx rfl (hb hby at_15) rfl rfl ?_
    show Steps p.tables e below (T3.setTop (mkF m 16 #[.val (.int p1), .val (.ref aR), .val (.ref b), .unset, .unset, .unset] [(.ref b)])) _
    refine st4.trans ?_
    show Steps p.tables e below (T4.setTop (mkF m 21 #[.val (.int p1), .val (.ref aR), .val (.ref b), .unset, .unset, .unset] [(.int (2 : Int32))])) _
    refine XS.iconst X4.here hx rfl (hb hby at_21) ?_
    show Steps p.tables e below (T4.setTop (mkF m 22 #[.val (.int p1), .val (.ref aR), .val (.ref b), .unset, .unset, .unset] [(.int (2 : Int32)), (.int (2 : Int32))])) _
    refine XS.icmpYes X4.here hx rfl (pc0 := 22) (pc' := 27) rfl (hb hby at_22) rfl (teq (by decide : (2 : Int32) = (2 : Int32))).1 (by decide) (by decide) ?_
    show Steps p.tables e below (T4.setTop (mkF m 27 #[.val (.int p1), .val (.ref aR), .val (.ref b), .unset, .unset, .unset] [])) _
    refine XS.aloadN X4.here hx rfl (hb hby at_27) rfl rfl ?_
    show Steps p.tables e below (T4.setTop (mkF m 28 #[.val (.int p1), .val (.ref aR), .val (.ref b), .unset, .unset, .unset] [(.ref b)])) _
    refine XS.iconst X4.here hx rfl (hb hby at_28) ?_
    show Steps p.tables e below (T4.setTop (mkF m 29 #[.val (.int p1), .val (.ref aR), .val (.ref b), .unset, .unset, .unset] [(.int (0 : Int32)), (.ref b)])) _
    refine st5.trans ?_
    show Steps p.tables e below (T5.setTop (mkF m 34 #[.val (.int p1), .val (.ref aR), .val (.ref b), .unset, .unset, .unset] [(.ref aP)])) _
    refine st6 _ ?_
    show Steps p.tables e below (T6.setTop (mkF m 37 #[.val (.int p1), .val (.ref aR), .val (.ref b), .unset, .unset, .unset] [(.ref aP)])) _
    refine XS.astoreN X6.here hx rfl (hb hby at_37) rfl rfl (l' := #[.val (.int p1), .val (.ref aR), .val (.ref b), .val (.ref aP), .unset, .unset]) rfl ?_
    show Steps p.tables e below (T6.setTop (mkF m 38 #[.val (.int p1), .val (.ref aR), .val (.ref b), .val (.ref aP), .unset, .unset] [])) _
    refine XS.aloadN X6.here hx rfl (hb hby at_38) rfl rfl ?_
    show Steps p.tables e below (T6.setTop (mkF m 39 #[.val (.int p1), .val (.ref aR), .val (.ref b), .val (.ref aP), .unset, .unset] [(.ref b)])) _
    refine XS.iconst X6.here hx rfl (hb hby at_39) ?_
    show Steps p.tables e below (T6.setTop (mkF m 40 #[.val (.int p1), .val (.ref aR), .val (.ref b), .val (.ref aP), .unset, .unset] [(.int (1 : Int32)), (.ref b)])) _
    refine st7.trans ?_
    show Steps p.tables e below (T7.setTop (mkF m 45 #[.val (.int p1), .val (.ref aR), .val (.ref b), .val (.ref aP), .unset, .unset] [(.ref aR)])) _
    refine st8 _ ?_
    show Steps p.tables e below (T8.setTop (mkF m 48 #[.val (.int p1), .val (.ref aR), .val (.ref b), .val (.ref aP), .unset, .unset] [(.ref aR)])) _
    refine XS.astore X8.here hx rfl (hb hby at_48) rfl rfl (l' := #[.val (.int p1), .val (.ref aR), .val (.ref b), .val (.ref aP), .val (.ref aR), .unset]) rfl ?_
    show Steps p.tables e below (T8.setTop (mkF m 50 #[.val (.int p1), .val (.ref aR), .val (.ref b), .val (.ref aP), .val (.ref aR), .unset] [])) _
    refine XS.aloadN X8.here hx rfl (hb hby at_50) rfl rfl ?_
    show Steps p.tables e below (T8.setTop (mkF m 51 #[.val (.int p1), .val (.ref aR), .val (.ref b), .val (.ref aP), .val (.ref aR), .unset] [(.ref aP)])) _
    refine st10 _ ?_
    show Steps p.tables e below (T10.setTop (mkF m 54 #[.val (.int p1), .val (.ref aR), .val (.ref b), .val (.ref aP), .val (.ref aR), .unset] [(.ref aP), (.ref aP)])) _
    refine Jvm.RoadKit.acmp (g := (mkF m 54 #[.val (.int p1), .val (.ref aR), .val (.ref b), .val (.ref aP), .val (.ref aR), .unset] [(.ref aP), (.ref aP)])) X10 hx rfl rfl rfl (pc0 := 54) (pc' := 59) (same := true) rfl (hb hby at_54) rfl (decide_eq_true (congrArg Value.ref rfl)) (by decide) (by decide) ?_
    show Steps p.tables e below (T10.setTop (mkF m 59 #[.val (.int p1), .val (.ref aR), .val (.ref b), .val (.ref aP), .val (.ref aR), .unset] [])) _
    refine XS.aload X10.here hx rfl (hb hby at_59) rfl rfl ?_
    show Steps p.tables e below (T10.setTop (mkF m 61 #[.val (.int p1), .val (.ref aR), .val (.ref b), .val (.ref aP), .val (.ref aR), .unset] [(.ref aR)])) _
    refine st12 _ ?_
    show Steps p.tables e below (T12.setTop (mkF m 64 #[.val (.int p1), .val (.ref aR), .val (.ref b), .val (.ref aP), .val (.ref aR), .unset] [(.ref aR), (.ref aR)])) _
    refine Jvm.RoadKit.acmp (g := (mkF m 64 #[.val (.int p1), .val (.ref aR), .val (.ref b), .val (.ref aP), .val (.ref aR), .unset] [(.ref aR), (.ref aR)])) X12 hx rfl rfl rfl (pc0 := 64) (pc' := 69) (same := true) rfl (hb hby at_64) rfl (decide_eq_true (congrArg Value.ref rfl)) (by decide) (by decide) ?_
    show Steps p.tables e below (T12.setTop (mkF m 69 #[.val (.int p1), .val (.ref aR), .val (.ref b), .val (.ref aP), .val (.ref aR), .unset] [])) _
    refine XS.aloadN X12.here hx rfl (hb hby at_69) rfl rfl ?_
    show Steps p.tables e below (T12.setTop (mkF m 70 #[.val (.int p1), .val (.ref aR), .val (.ref b), .val (.ref aP), .val (.ref aR), .unset] [(.ref aP)])) _
    refine XS.aloadN X12.here hx rfl (hb hby at_70) rfl rfl ?_
    show Steps p.tables e below (T12.setTop (mkF m 71 #[.val (.int p1), .val (.ref aR), .val (.ref b), .val (.ref aP), .val (.ref aR), .unset] [(.ref aR), (.ref aP)])) _
    refine Jvm.RoadKit.acmp (g := (mkF m 71 #[.val (.int p1), .val (.ref aR), .val (.ref b), .val (.ref aP), .val (.ref aR), .unset] [(.ref aR), (.ref aP)])) X12 hx rfl rfl rfl (pc0 := 71) (pc' := 74) (same := false) rfl (hb hby at_71) rfl (decide_eq_false fun q => (Ne.symm nRP) (Value.ref.inj q)) (by decide) (by decide) ?_
    show Steps p.tables e below (T12.setTop (mkF m 74 #[.val (.int p1), .val (.ref aR), .val (.ref b), .val (.ref aP), .val (.ref aR), .unset] [])) _
    refine XS.aload X12.here hx rfl (hb hby at_74) rfl rfl ?_
    show Steps p.tables e below (T12.setTop (mkF m 76 #[.val (.int p1), .val (.ref aR), .val (.ref b), .val (.ref aP), .val (.ref aR), .unset] [(.ref aR)])) _
    refine XS.aloadN X12.here hx rfl (hb hby at_76) rfl rfl ?_
    show Steps p.tables e below (T12.setTop (mkF m 77 #[.val (.int p1), .val (.ref aR), .val (.ref b), .val (.ref aP), .val (.ref aR), .unset] [(.ref aR), (.ref aR)])) _
    refine Jvm.RoadKit.acmp (g := (mkF m 77 #[.val (.int p1), .val (.ref aR), .val (.ref b), .val (.ref aP), .val (.ref aR), .unset] [(.ref aR), (.ref aR)])) X12 hx rfl rfl rfl (pc0 := 77) (pc' := 80) (same := true) rfl (hb hby at_77) rfl (decide_eq_true (congrArg Value.ref rfl)) (by decide) (by decide) ?_
    show Steps p.tables e below (T12.setTop (mkF m 80 #[.val (.int p1), .val (.ref aR), .val (.ref b), .val (.ref aP), .val (.ref aR), .unset] [])) _
    refine XS.iconst X12.here hx rfl (hb hby at_80) ?_
    show Steps p.tables e below (T12.setTop (mkF m 81 #[.val (.int p1), .val (.ref aR), .val (.ref b), .val (.ref aP), .val (.ref aR), .unset] [(.int (1 : Int32))])) _
    refine XS.goto X12.here hx rfl (pc0 := 81) (pc' := 85) rfl (hb hby at_81) (by decide) (by decide) ?_
    show Steps p.tables e below (T12.setTop (mkF m 85 #[.val (.int p1), .val (.ref aR), .val (.ref b), .val (.ref aP), .val (.ref aR), .unset] [(.int (1 : Int32))])) _
    refine XS.istore X12.here hx rfl (hb hby at_85) rfl (l' := #[.val (.int p1), .val (.ref aR), .val (.ref b), .val (.ref aP), .val (.ref aR), .val (.int (1 : Int32))]) rfl ?_
    show Steps p.tables e below (T12.setTop (mkF m 87 #[.val (.int p1), .val (.ref aR), .val (.ref b), .val (.ref aP), .val (.ref aR), .val (.int (1 : Int32))] [])) _
    refine XS.iload X12.here hx rfl (hb hby at_87) rfl ?_
    show Steps p.tables e below (T12.setTop (mkF m 89 #[.val (.int p1), .val (.ref aR), .val (.ref b), .val (.ref aP), .val (.ref aR), .val (.int (1 : Int32))] [(.int (1 : Int32))])) _
    refine XS.aloadN X12.here hx rfl (hb hby at_89) rfl rfl ?_
    show Steps p.tables e below (T12.setTop (mkF m 90 #[.val (.int p1), .val (.ref aR), .val (.ref b), .val (.ref aP), .val (.ref aR), .val (.int (1 : Int32))] [(.ref aR), (.int (1 : Int32))])) _
    refine st13.trans ?_
    show Steps p.tables e below (T13.setTop (mkF m 93 #[.val (.int p1), .val (.ref aR), .val (.ref b), .val (.ref aP), .val (.ref aR), .val (.int (1 : Int32))] [(.int (1 : Int32)), (.int (1 : Int32))])) _
    refine XS.icmpNo X13.here hx rfl (hb hby at_93) rfl (teq (by decide : (1 : Int32) = (1 : Int32))).2 ?_
    show Steps p.tables e below (T13.setTop (mkF m 96 #[.val (.int p1), .val (.ref aR), .val (.ref b), .val (.ref aP), .val (.ref aR), .val (.int (1 : Int32))] [])) _
    refine XS.iconst X13.here hx rfl (hb hby at_96) ?_
    show Steps p.tables e below (T13.setTop (mkF m 97 #[.val (.int p1), .val (.ref aR), .val (.ref b), .val (.ref aP), .val (.ref aR), .val (.int (1 : Int32))] [(.int (1 : Int32))])) _
    refine XS.goto X13.here hx rfl (pc0 := 97) (pc' := 101) rfl (hb hby at_97) (by decide) (by decide) ?_
    show Steps p.tables e below (T13.setTop (mkF m 101 #[.val (.int p1), .val (.ref aR), .val (.ref b), .val (.ref aP), .val (.ref aR), .val (.int (1 : Int32))] [(.int (1 : Int32))])) _
    exact retN X13 hx (t := .boolean) Bd.returns (by simp) (hb hby at_101) hr
  · show Q0b Z p1 h0 n0 _ T13.heap _
    exact ⟨rfl, N13⟩
def Q0c (Z : State) (p1 : Int32) (h0 : Heap) (n0 : Nat) (v : Option Value) (h : Heap) (L : List Loc) : Prop := v = some (.int (1 : Int32)) ∧ Fr n0 L
set_option maxRecDepth 65536 in
set_option maxHeartbeats 40000000 in
theorem rm0c (l : Launch) (Z : State) (a0 : Array Value) (hw : ∀ d ∈ tables_1, d.before a0 Z = true) (ws : List Jvm.Cond) (p1 : Int32) (aP aR aD aX aV aE : Addr) (kV : ClassId) (cE : Cell) (h0 : Heap) (n0 : Nat) (Z0 : n0 ≤ h0.size) (hW0 : own_W Z h0 aP aR aD aX aV aE kV cE) (hc5 : ¬ ((p1 &&& (3 : Int32)) = (0 : Int32))) (hc14 : ¬ ((p1 &&& (3 : Int32)) = (1 : Int32))) (hc23 : (p1 &&& (3 : Int32)) = (2 : Int32)) (nDP : aD ≠ aP) (nDR : aD ≠ aR) :
    MetFree l x (head1 (Jvm.Cond.code x code maxLocals ret :: ws) room_1) (fun a U => a = #[(.int p1)] ∧ Z.Warmed39 U.vm ∧ U.heap = h0) (fun _ _ _ _ _ => True) (fun _ U o U' => ∃ v L, o = .returned v ∧ Q0c Z p1 h0 n0 v U'.heap L ∧ FrameEnd U o U' L room_1.cells room_1.slots) := by
  refine MetFree.of_bodySF (plainFor_of_name pn_0) hisR ?_
  intro p e s m args below meth c s₁ Bd hml0 hP hK
  obtain ⟨rfl, hZ, hh⟩ := hP
  have hx := Bd.exec
  have hby := Bd.bytes
  have hml : c.maxLocals = 6 := hml0
  have hown : s.vm.findClass "com/example/tenacious_courier/tenaciouscourier/model/DeliveryStatusAllWaitingPinLaw" = some m.cls := findClass_of_methodNamed Bd.named
  have hnm := (name_of_methodNamed Bd.named Bd.method).1
  have X0 : Stand p l e room_1 s m #[(.int p1)] below meth c s₁ [] 0 0 := Stand.of_body Bd
  have e0 : s₁.heap = h0 := by rw [← hh, Bd.state]; rfl
  have N0 := Fr.nil n0
  have pre0 : ∀ t, Steps p.tables e below (s₁.setTop (mkF m 0 #[.val (.int p1), .unset, .unset, .unset, .unset, .unset] [])) t → Steps p.tables e below (s₁.setTop (entryFrame m #[(.int p1)] maxLocals)) t := fun t k => castTop (ef_0 m p1) k
  obtain ⟨⟨s1, s2, s3, s4, s5, s6⟩, ⟨x1, x2, x3, x4⟩, ⟨f1, f2, f3, f4⟩, vV, ev, ae, hzE⟩ := id hW0
  obtain ⟨_, _, ⟨T2, L2, k2, n2⟩, -, X2, ⟨Lc2, hQ2, l2, y2, z2⟩, st2⟩ := Jvm.LawKit.callS X0 hx (y := (⟨"com/example/tenacious_courier/tenaciouscourier/model/DeliveryStatusAllWaitingPinLaw", "pick", "(I)Lcom/example/tenacious_courier/tenaciouscourier/model/DeliveryStatus;"⟩ : MethodName)) hown (mvT hZ (hw _ (List.mem_of_getElem? (i := 0) rfl))) (mvT hZ (hw _ (List.mem_of_getElem? (i := 1) rfl))) (mvT hZ (hw _ (List.mem_of_getElem? (i := 2) rfl))) (mvT hZ (hw _ (List.mem_of_getElem? (i := 3) rfl))) (by decide) (backOf (W := 0) (rm1c l Z a0 hw [] p1 aD h0 n0 Z0 s3 hc5 hc14 hc23) hZ (hw _ (List.mem_of_getElem? (i := 3) rfl)) (hw _ (List.mem_of_getElem? (i := 2) rfl)) (by decide) (by decide)) (g := (mkF m 1 #[.val (.int p1), .unset, .unset, .unset, .unset, .unset] [(.int p1)])) rfl (by rw [hml]; rfl) (argsL := [(.int p1)]) (rest := []) (lenOf pd_0_0 rfl) rfl (by show 2 * 0 + _ ≤ _; exact Nat.le_of_eq rfl) (hb hby at_1) (fun _ _ => ⟨rfl, e0, (by decide : 0 + 0 ≤ _), (by decide : 0 + 0 ≤ _)⟩)
  dsimp only [Pt.U, Pt.locs, Pt.cells, Pt.slots] at X2 l2 y2 z2 st2 hQ2
  subst l2 y2 z2
  obtain ⟨rfl, N2q, k1q⟩ := hQ2
  have N2 := Fr.app N0 N2q
  obtain ⟨_, _, ⟨T3, L3, k3, n3⟩, -, X3, ⟨Lc3, hQ3, l3, y3, z3⟩, st3⟩ := Jvm.LawKit.callS X2 hx (y := (⟨"com/example/tenacious_courier/tenaciouscourier/model/DeliveryStatus", "allWaiting", "()Ljava/util/List;"⟩ : MethodName)) hown (mvT hZ (hw _ (List.mem_of_getElem? (i := 7) rfl))) (mvT hZ (hw _ (List.mem_of_getElem? (i := 8) rfl))) (mvT hZ (hw _ (List.mem_of_getElem? (i := 5) rfl))) (mvT hZ (hw _ (List.mem_of_getElem? (i := 9) rfl))) (by decide) (backOf (W := 0) (rm2 l Z a0 hw [] aP aR aD aX aV aE kV cE T2.heap n0 (by rw [k1q]; exact Z0) (by rw [k1q]; exact hW0)) hZ (hw _ (List.mem_of_getElem? (i := 9) rfl)) (hw _ (List.mem_of_getElem? (i := 5) rfl)) (by decide) (by decide)) (g := (mkF m 5 #[.val (.int p1), .val (.ref aD), .unset, .unset, .unset, .unset] [])) rfl (by rw [hml]; rfl) (argsL := []) (rest := []) (lenOf pd_0_1 rfl) rfl (by show 2 * 0 + _ ≤ _; exact Nat.le_of_eq rfl) (hb hby at_5) (fun _ _ => ⟨rfl, rfl, (by decide : 0 + 3 ≤ _), (by decide : 0 + 17 ≤ _)⟩)
  dsimp only [Pt.U, Pt.locs, Pt.cells, Pt.slots] at X3 l3 y3 z3 st3 hQ3
  subst l3 y3 z3
  obtain ⟨b, d, kd, rfl, N3q, K2q, E2q, D2q, S2q, V2q⟩ := hQ3
  have K2 : Keep h0 T3.heap [] := by rw [k1q] at K2q; exact K2q
  obtain ⟨cl_d, Ar_d, q_d, Sd, Nd, Hd, Gd⟩ := V2q
  have i0 : ¬ ((0 : Int32) < 0 ∨ cl_d.slots.size ≤ ((0 : Int32)).toNatClampNeg) := inb_of Sd ⟨by decide, by decide⟩
  have i1 : ¬ ((1 : Int32) < 0 ∨ cl_d.slots.size ≤ ((1 : Int32)).toNatClampNeg) := inb_of Sd ⟨by decide, by decide⟩
  have j0 : cl_d.slots[((0 : Int32)).toNatClampNeg]? = some (.ref aP) := Hd.at i0 rfl
  have j1 : cl_d.slots[((1 : Int32)).toNatClampNeg]? = some (.ref aR) := Hd.at i1 rfl
  have N3 := Fr.app N2 N3q
  obtain ⟨cq4, kq4, q4a, q4b, q4c⟩ := isOf hZ rfl E2q
  obtain ⟨_, _, ⟨T4, L4, k4, n4⟩, -, X4, ⟨Lc4, hQ4, l4, y4, z4⟩, st4⟩ := X3.interfaceBack hx (xi := (⟨"java/util/List", "size", "()I"⟩ : MethodName)) (y := (⟨"java/util/ArrayList", "size", "()I"⟩ : MethodName)) hown (mvT hZ (hw _ (List.mem_of_getElem? (i := 91) rfl))) (mvT hZ (hw _ (List.mem_of_getElem? (i := 92) rfl))) (mvT hZ (hw _ (List.mem_of_getElem? (i := 93) rfl))) (mvT hZ (hw _ (List.mem_of_getElem? (i := 94) rfl))) (mvT hZ (hw _ (List.mem_of_getElem? (i := 95) rfl))) (mvT hZ (hw _ (List.mem_of_getElem? (i := 96) rfl))) (mvT hZ (hw _ (List.mem_of_getElem? (i := 97) rfl))) (mvT hZ (hw _ (List.mem_of_getElem? (i := 63) rfl))) (by decide) (backOf (W := 0) (rm13 l Z a0 hw [] b (2 : Int32) T3.heap n0 (Nat.le_trans Z0 K2.1) S2q) hZ (hw _ (List.mem_of_getElem? (i := 98) rfl)) (hw _ (List.mem_of_getElem? (i := 12) rfl)) (by decide) (by decide)) q4a q4b q4c (g := (mkF m 16 #[.val (.int p1), .val (.ref aD), .val (.ref b), .unset, .unset, .unset] [(.ref b)])) rfl (by rw [hml]; rfl) (Steps.refl _) (argsL := []) (rest := []) (lenOf pd_0_10 rfl) rfl (by show 2 * 0 + _ ≤ _; exact Nat.le_of_eq rfl) (hb hby at_16) (fun _ _ => ⟨rfl, rfl, (by decide : 3 + 0 ≤ _), (by decide : 17 + 0 ≤ _)⟩)
  dsimp only [Pt.U, Pt.locs, Pt.cells, Pt.slots] at X4 l4 y4 z4 st4 hQ4
  subst l4 y4 z4
  obtain ⟨rfl, N4q, e4q⟩ := hQ4
  have N4 := Fr.app N3 N4q
  obtain ⟨cq5, kq5, q5a, q5b, q5c⟩ := isOf hZ rfl (show Exa Z T4.heap b _ from (by rw [e4q]; exact E2q))
  obtain ⟨_, _, ⟨T5, L5, k5, n5⟩, -, X5, ⟨Lc5, hQ5, l5, y5, z5⟩, st5⟩ := X4.interfaceBack hx (xi := (⟨"java/util/List", "get", "(I)Ljava/lang/Object;"⟩ : MethodName)) (y := (⟨"java/util/ArrayList", "get", "(I)Ljava/lang/Object;"⟩ : MethodName)) hown (mvT hZ (hw _ (List.mem_of_getElem? (i := 99) rfl))) (mvT hZ (hw _ (List.mem_of_getElem? (i := 100) rfl))) (mvT hZ (hw _ (List.mem_of_getElem? (i := 101) rfl))) (mvT hZ (hw _ (List.mem_of_getElem? (i := 102) rfl))) (mvT hZ (hw _ (List.mem_of_getElem? (i := 103) rfl))) (mvT hZ (hw _ (List.mem_of_getElem? (i := 104) rfl))) (mvT hZ (hw _ (List.mem_of_getElem? (i := 105) rfl))) (mvT hZ (hw _ (List.mem_of_getElem? (i := 63) rfl))) (by decide) (backOf (W := 0) (rm14 l Z a0 hw [] b (0 : Int32) (2 : Int32) d cl_d aP T4.heap n0 (by rw [e4q]; exact (Nat.le_trans Z0 K2.1)) (by rw [e4q]; exact S2q) (by rw [e4q]; exact E2q) (by rw [e4q]; exact D2q) (by rw [e4q]; exact Ar_d) i0 j0 (by decide) (by decide)) hZ (hw _ (List.mem_of_getElem? (i := 106) rfl)) (hw _ (List.mem_of_getElem? (i := 12) rfl)) (by decide) (by decide)) q5a q5b q5c (g := (mkF m 29 #[.val (.int p1), .val (.ref aD), .val (.ref b), .unset, .unset, .unset] [(.int (0 : Int32)), (.ref b)])) rfl (by rw [hml]; rfl) (Steps.refl _) (argsL := [(.int (0 : Int32))]) (rest := []) (lenOf pd_0_11 rfl) rfl (by show 2 * 0 + _ ≤ _; exact Nat.le_of_eq rfl) (hb hby at_29) (fun _ _ => ⟨rfl, rfl, (by decide : 3 + 0 ≤ _), (by decide : 17 + 0 ≤ _)⟩)
  dsimp only [Pt.U, Pt.locs, Pt.cells, Pt.slots] at X5 l5 y5 z5 st5 hQ5
  subst l5 y5 z5
  obtain ⟨rfl, N5q, k5q⟩ := hQ5
  have e5q : T5.heap = T3.heap := k5q.trans e4q
  have N5 := Fr.app N4 N5q
  obtain ⟨T6, X6, e6, st6⟩ := castY X5 hx hZ hown (hw _ (List.mem_of_getElem? (i := 120) rfl)) rfl (Ins.self (show Exa Z T5.heap aP _ from (by rw [e5q]; exact x1.keep K2))) (g := (mkF m 34 #[.val (.int p1), .val (.ref aD), .val (.ref b), .unset, .unset, .unset] [(.ref aP)])) rfl rfl (hb hby at_34)
  obtain ⟨cq7, kq7, q7a, q7b, q7c⟩ := isOf hZ e6 (show Exa Z T5.heap b _ from (by rw [e5q]; exact E2q))
  obtain ⟨_, _, ⟨T7, L7, k7, n7⟩, -, X7, ⟨Lc7, hQ7, l7, y7, z7⟩, st7⟩ := X6.interfaceBack hx (xi := (⟨"java/util/List", "get", "(I)Ljava/lang/Object;"⟩ : MethodName)) (y := (⟨"java/util/ArrayList", "get", "(I)Ljava/lang/Object;"⟩ : MethodName)) hown (mvT hZ (hw _ (List.mem_of_getElem? (i := 99) rfl))) (mvT hZ (hw _ (List.mem_of_getElem? (i := 100) rfl))) (mvT hZ (hw _ (List.mem_of_getElem? (i := 101) rfl))) (mvT hZ (hw _ (List.mem_of_getElem? (i := 102) rfl))) (mvT hZ (hw _ (List.mem_of_getElem? (i := 103) rfl))) (mvT hZ (hw _ (List.mem_of_getElem? (i := 104) rfl))) (mvT hZ (hw _ (List.mem_of_getElem? (i := 105) rfl))) (mvT hZ (hw _ (List.mem_of_getElem? (i := 63) rfl))) (by decide) (backOf (W := 0) (rm14 l Z a0 hw [] b (1 : Int32) (2 : Int32) d cl_d aR T5.heap n0 (by rw [e5q]; exact (Nat.le_trans Z0 K2.1)) (by rw [e5q]; exact S2q) (by rw [e5q]; exact E2q) (by rw [e5q]; exact D2q) (by rw [e5q]; exact Ar_d) i1 j1 (by decide) (by decide)) hZ (hw _ (List.mem_of_getElem? (i := 106) rfl)) (hw _ (List.mem_of_getElem? (i := 12) rfl)) (by decide) (by decide)) q7a q7b q7c (g := (mkF m 40 #[.val (.int p1), .val (.ref aD), .val (.ref b), .val (.ref aP), .unset, .unset] [(.int (1 : Int32)), (.ref b)])) rfl (by rw [hml]; rfl) (Steps.refl _) (argsL := [(.int (1 : Int32))]) (rest := []) (lenOf pd_0_11 rfl) rfl (by show 2 * 0 + _ ≤ _; exact Nat.le_of_eq rfl) (hb hby at_40) (fun _ _ => ⟨rfl, e6, (by decide : 3 + 0 ≤ _), (by decide : 17 + 0 ≤ _)⟩)
  dsimp only [Pt.U, Pt.locs, Pt.cells, Pt.slots] at X7 l7 y7 z7 st7 hQ7
  subst l7 y7 z7
  obtain ⟨rfl, N7q, k7q⟩ := hQ7
  have e7q : T7.heap = T3.heap := k7q.trans e5q
  have N7 := Fr.app N5 N7q
  obtain ⟨T8, X8, e8, st8⟩ := castY X7 hx hZ hown (hw _ (List.mem_of_getElem? (i := 120) rfl)) rfl (Ins.self (show Exa Z T7.heap aR _ from (by rw [e7q]; exact x2.keep K2))) (g := (mkF m 45 #[.val (.int p1), .val (.ref aD), .val (.ref b), .val (.ref aP), .unset, .unset] [(.ref aR)])) rfl rfl (hb hby at_45)
  obtain ⟨T10, X10, e10, st10⟩ := getS2 X8 hx hZ hown (host := "") (Or.inl (hw _ (List.mem_of_getElem? (i := 4) rfl))) Via.refl e8 (by rw [e7q]; exact own_staK s1 K2) (g := (mkF m 51 #[.val (.int p1), .val (.ref aD), .val (.ref b), .val (.ref aP), .val (.ref aR), .unset] [(.ref aP)])) rfl (hb hby at_51)
  obtain ⟨T12, X12, e12, st12⟩ := getS2 X10 hx hZ hown (host := "") (Or.inl (hw _ (List.mem_of_getElem? (i := 122) rfl))) Via.refl e10 (by rw [e7q]; exact own_staK s2 K2) (g := (mkF m 61 #[.val (.int p1), .val (.ref aD), .val (.ref b), .val (.ref aP), .val (.ref aR), .unset] [(.ref aR)])) rfl (hb hby at_61)
  obtain ⟨cq13, kq13, q13a, q13b, q13c⟩ := isOf hZ e12 (show Exa Z T7.heap aD _ from (by rw [e7q]; exact x3.keep K2))
  obtain ⟨_, _, ⟨T13, L13, k13, n13⟩, -, X13, ⟨Lc13, hQ13, l13, y13, z13⟩, st13⟩ := X12.virtualBack hx (y := (⟨"com/example/tenacious_courier/tenaciouscourier/model/DeliveryStatus", "waiting", "()Z"⟩ : MethodName)) (z := (⟨"com/example/tenacious_courier/tenaciouscourier/model/DeliveryStatus", "waiting", "()Z"⟩ : MethodName)) hown (mvT hZ (hw _ (List.mem_of_getElem? (i := 123) rfl))) (mvT hZ (hw _ (List.mem_of_getElem? (i := 124) rfl))) (notFace_of_selects (args := #[]) (mvT hZ (hw _ (List.mem_of_getElem? (i := 126) rfl)))) (mvT hZ (hw _ (List.mem_of_getElem? (i := 126) rfl))) (mvT hZ (hw _ (List.mem_of_getElem? (i := 125) rfl))) (by decide) (backOf (W := 1) (rm18 l Z a0 hw [] aD (0 : Int32) T7.heap n0 (by rw [e7q]; exact (Nat.le_trans Z0 K2.1)) (by decide) (by rw [e7q]; exact f3.keep K2 nin0)) hZ (hw _ (List.mem_of_getElem? (i := 127) rfl)) (hw _ (List.mem_of_getElem? (i := 5) rfl)) (by decide) (by decide)) q13a q13c (g := (mkF m 90 #[.val (.int p1), .val (.ref aD), .val (.ref b), .val (.ref aP), .val (.ref aR), .val (.int (0 : Int32))] [(.ref aD), (.int (0 : Int32))])) rfl (by rw [hml]; rfl) (Steps.refl _) (argsL := []) (rest := [(.int (0 : Int32))]) (lenOf pd_0_13 rfl) rfl (by show 2 * 0 + _ ≤ _; exact Nat.le_of_eq rfl) (hb hby at_90) (fun _ _ => ⟨rfl, e12, (by decide : 3 + 0 ≤ _), (by decide : 17 + 0 ≤ _)⟩)
  dsimp only [Pt.U, Pt.locs, Pt.cells, Pt.slots] at X13 l13 y13 z13 st13 hQ13
  subst l13 y13 z13
  obtain ⟨rfl, N13q, k13q⟩ := hQ13
  have N13 := Fr.app N7 N13q
  obtain ⟨fs, hr, hrun, hended, hW, hsame⟩ := X13.leave (v := some (.int (1 : Int32))) (fun h => by rw [Bd.returns] at h; cases h)
  refine ⟨_, _, pre0 _ ?_, hrun, hended, _, _, rfl, ?_, ⟨_, rfl⟩, hW, hsame.mono (by decide) (by decide)⟩
  · show Steps p.tables e below (s₁.setTop (mkF m 0 #[.val (.int p1), .unset, .unset, .unset, .unset, .unset] [])) _
    refine XS.iloadN X0.here hx rfl (hb hby at_0) rfl ?_
    show Steps p.tables e below (s₁.setTop (mkF m 1 #[.val (.int p1), .unset, .unset, .unset, .unset, .unset] [(.int p1)])) _
    refine st2 _ ?_
    show Steps p.tables e below (T2.setTop (mkF m 4 #[.val (.int p1), .unset, .unset, .unset, .unset, .unset] [(.ref aD)])) _
    refine XS.astoreN X2.here hx rfl (hb hby at_4) rfl rfl (l' := #[.val (.int p1), .val (.ref aD), .unset, .unset, .unset, .unset]) rfl ?_
    show Steps p.tables e below (T2.setTop (mkF m 5 #[.val (.int p1), .val (.ref aD), .unset, .unset, .unset, .unset] [])) _
    refine st3 _ ?_
    show Steps p.tables e below (T3.setTop (mkF m 8 #[.val (.int p1), .val (.ref aD), .unset, .unset, .unset, .unset] [(.ref b)])) _
    refine XS.astoreN X3.here hx rfl (hb hby at_8) rfl rfl (l' := #[.val (.int p1), .val (.ref aD), .val (.ref b), .unset, .unset, .unset]) rfl ?_
    show Steps p.tables e below (T3.setTop (mkF m 9 #[.val (.int p1), .val (.ref aD), .val (.ref b), .unset, .unset, .unset] [])) _
    refine XS.aloadN X3.here hx rfl (hb hby at_9) rfl rfl ?_
    show Steps p.tables e below (T3.setTop (mkF m 10 #[.val (.int p1), .val (.ref aD), .val (.ref b), .unset, .unset, .unset] [(.ref b)])) _
    refine XS.ifnonnullYes X3.here hx rfl (pc0 := 10) (pc' := 15) rfl (hb hby at_10) rfl (by decide) (by decide) ?_
    show Steps p.tables e below (T3.setTop (mkF m 15 #[.val (.int p1), .val (.ref aD), .val (.ref b), .unset, .unset, .unset] [])) _
    refine XS.aloadN X3.here hx rfl (hb hby at_15) rfl rfl ?_
    show Steps p.tables e below (T3.setTop (mkF m 16 #[.val (.int p1), .val (.ref aD), .val (.ref b), .unset, .unset, .unset] [(.ref b)])) _
    refine st4.trans ?_
    show Steps p.tables e below (T4.setTop (mkF m 21 #[.val (.int p1), .val (.ref aD), .val (.ref b), .unset, .unset, .unset] [(.int (2 : Int32))])) _
    refine XS.iconst X4.here hx rfl (hb hby at_21) ?_
    show Steps p.tables e below (T4.setTop (mkF m 22 #[.val (.int p1), .val (.ref aD), .val (.ref b), .unset, .unset, .unset] [(.int (2 : Int32)), (.int (2 : Int32))])) _
    refine XS.icmpYes X4.here hx rfl (pc0 := 22) (pc' := 27) rfl (hb hby at_22) rfl (teq (by decide : (2 : Int32) = (2 : Int32))).1 (by decide) (by decide) ?_
    show Steps p.tables e below (T4.setTop (mkF m 27 #[.val (.int p1), .val (.ref aD), .val (.ref b), .unset, .unset, .unset] [])) _
    refine XS.aloadN X4.here hx rfl (hb hby at_27) rfl rfl ?_
    show Steps p.tables e below (T4.setTop (mkF m 28 #[.val (.int p1), .val (.ref aD), .val (.ref b), .unset, .unset, .unset] [(.ref b)])) _
    refine XS.iconst X4.here hx rfl (hb hby at_28) ?_
    show Steps p.tables e below (T4.setTop (mkF m 29 #[.val (.int p1), .val (.ref aD), .val (.ref b), .unset, .unset, .unset] [(.int (0 : Int32)), (.ref b)])) _
    refine st5.trans ?_
    show Steps p.tables e below (T5.setTop (mkF m 34 #[.val (.int p1), .val (.ref aD), .val (.ref b), .unset, .unset, .unset] [(.ref aP)])) _
    refine st6 _ ?_
    show Steps p.tables e below (T6.setTop (mkF m 37 #[.val (.int p1), .val (.ref aD), .val (.ref b), .unset, .unset, .unset] [(.ref aP)])) _
    refine XS.astoreN X6.here hx rfl (hb hby at_37) rfl rfl (l' := #[.val (.int p1), .val (.ref aD), .val (.ref b), .val (.ref aP), .unset, .unset]) rfl ?_
    show Steps p.tables e below (T6.setTop (mkF m 38 #[.val (.int p1), .val (.ref aD), .val (.ref b), .val (.ref aP), .unset, .unset] [])) _
    refine XS.aloadN X6.here hx rfl (hb hby at_38) rfl rfl ?_
    show Steps p.tables e below (T6.setTop (mkF m 39 #[.val (.int p1), .val (.ref aD), .val (.ref b), .val (.ref aP), .unset, .unset] [(.ref b)])) _
    refine XS.iconst X6.here hx rfl (hb hby at_39) ?_
    show Steps p.tables e below (T6.setTop (mkF m 40 #[.val (.int p1), .val (.ref aD), .val (.ref b), .val (.ref aP), .unset, .unset] [(.int (1 : Int32)), (.ref b)])) _
    refine st7.trans ?_
    show Steps p.tables e below (T7.setTop (mkF m 45 #[.val (.int p1), .val (.ref aD), .val (.ref b), .val (.ref aP), .unset, .unset] [(.ref aR)])) _
    refine st8 _ ?_
    show Steps p.tables e below (T8.setTop (mkF m 48 #[.val (.int p1), .val (.ref aD), .val (.ref b), .val (.ref aP), .unset, .unset] [(.ref aR)])) _
    refine XS.astore X8.here hx rfl (hb hby at_48) rfl rfl (l' := #[.val (.int p1), .val (.ref aD), .val (.ref b), .val (.ref aP), .val (.ref aR), .unset]) rfl ?_
    show Steps p.tables e below (T8.setTop (mkF m 50 #[.val (.int p1), .val (.ref aD), .val (.ref b), .val (.ref aP), .val (.ref aR), .unset] [])) _
    refine XS.aloadN X8.here hx rfl (hb hby at_50) rfl rfl ?_
    show Steps p.tables e below (T8.setTop (mkF m 51 #[.val (.int p1), .val (.ref aD), .val (.ref b), .val (.ref aP), .val (.ref aR), .unset] [(.ref aP)])) _
    refine st10 _ ?_
    show Steps p.tables e below (T10.setTop (mkF m 54 #[.val (.int p1), .val (.ref aD), .val (.ref b), .val (.ref aP), .val (.ref aR), .unset] [(.ref aP), (.ref aP)])) _
    refine Jvm.RoadKit.acmp (g := (mkF m 54 #[.val (.int p1), .val (.ref aD), .val (.ref b), .val (.ref aP), .val (.ref aR), .unset] [(.ref aP), (.ref aP)])) X10 hx rfl rfl rfl (pc0 := 54) (pc' := 59) (same := true) rfl (hb hby at_54) rfl (decide_eq_true (congrArg Value.ref rfl)) (by decide) (by decide) ?_
    show Steps p.tables e below (T10.setTop (mkF m 59 #[.val (.int p1), .val (.ref aD), .val (.ref b), .val (.ref aP), .val (.ref aR), .unset] [])) _
    refine XS.aload X10.here hx rfl (hb hby at_59) rfl rfl ?_
    show Steps p.tables e below (T10.setTop (mkF m 61 #[.val (.int p1), .val (.ref aD), .val (.ref b), .val (.ref aP), .val (.ref aR), .unset] [(.ref aR)])) _
    refine st12 _ ?_
    show Steps p.tables e below (T12.setTop (mkF m 64 #[.val (.int p1), .val (.ref aD), .val (.ref b), .val (.ref aP), .val (.ref aR), .unset] [(.ref aR), (.ref aR)])) _
    refine Jvm.RoadKit.acmp (g := (mkF m 64 #[.val (.int p1), .val (.ref aD), .val (.ref b), .val (.ref aP), .val (.ref aR), .unset] [(.ref aR), (.ref aR)])) X12 hx rfl rfl rfl (pc0 := 64) (pc' := 69) (same := true) rfl (hb hby at_64) rfl (decide_eq_true (congrArg Value.ref rfl)) (by decide) (by decide) ?_
    show Steps p.tables e below (T12.setTop (mkF m 69 #[.val (.int p1), .val (.ref aD), .val (.ref b), .val (.ref aP), .val (.ref aR), .unset] [])) _
    refine XS.aloadN X12.here hx rfl (hb hby at_69) rfl rfl ?_
    show Steps p.tables e below (T12.setTop (mkF m 70 #[.val (.int p1), .val (.ref aD), .val (.ref b), .val (.ref aP), .val (.ref aR), .unset] [(.ref aP)])) _
    refine XS.aloadN X12.here hx rfl (hb hby at_70) rfl rfl ?_
    show Steps p.tables e below (T12.setTop (mkF m 71 #[.val (.int p1), .val (.ref aD), .val (.ref b), .val (.ref aP), .val (.ref aR), .unset] [(.ref aD), (.ref aP)])) _
    refine Jvm.RoadKit.acmp (g := (mkF m 71 #[.val (.int p1), .val (.ref aD), .val (.ref b), .val (.ref aP), .val (.ref aR), .unset] [(.ref aD), (.ref aP)])) X12 hx rfl rfl rfl (pc0 := 71) (pc' := 74) (same := false) rfl (hb hby at_71) rfl (decide_eq_false fun q => (Ne.symm nDP) (Value.ref.inj q)) (by decide) (by decide) ?_
    show Steps p.tables e below (T12.setTop (mkF m 74 #[.val (.int p1), .val (.ref aD), .val (.ref b), .val (.ref aP), .val (.ref aR), .unset] [])) _
    refine XS.aload X12.here hx rfl (hb hby at_74) rfl rfl ?_
    show Steps p.tables e below (T12.setTop (mkF m 76 #[.val (.int p1), .val (.ref aD), .val (.ref b), .val (.ref aP), .val (.ref aR), .unset] [(.ref aR)])) _
    refine XS.aloadN X12.here hx rfl (hb hby at_76) rfl rfl ?_
    show Steps p.tables e below (T12.setTop (mkF m 77 #[.val (.int p1), .val (.ref aD), .val (.ref b), .val (.ref aP), .val (.ref aR), .unset] [(.ref aD), (.ref aR)])) _
    refine Jvm.RoadKit.acmp (g := (mkF m 77 #[.val (.int p1), .val (.ref aD), .val (.ref b), .val (.ref aP), .val (.ref aR), .unset] [(.ref aD), (.ref aR)])) X12 hx rfl rfl rfl (pc0 := 77) (pc' := 84) (same := false) rfl (hb hby at_77) rfl (decide_eq_false fun q => (Ne.symm nDR) (Value.ref.inj q)) (by decide) (by decide) ?_
    show Steps p.tables e below (T12.setTop (mkF m 84 #[.val (.int p1), .val (.ref aD), .val (.ref b), .val (.ref aP), .val (.ref aR), .unset] [])) _
    refine XS.iconst X12.here hx rfl (hb hby at_84) ?_
    show Steps p.tables e below (T12.setTop (mkF m 85 #[.val (.int p1), .val (.ref aD), .val (.ref b), .val (.ref aP), .val (.ref aR), .unset] [(.int (0 : Int32))])) _
    refine XS.istore X12.here hx rfl (hb hby at_85) rfl (l' := #[.val (.int p1), .val (.ref aD), .val (.ref b), .val (.ref aP), .val (.ref aR), .val (.int (0 : Int32))]) rfl ?_
    show Steps p.tables e below (T12.setTop (mkF m 87 #[.val (.int p1), .val (.ref aD), .val (.ref b), .val (.ref aP), .val (.ref aR), .val (.int (0 : Int32))] [])) _
    refine XS.iload X12.here hx rfl (hb hby at_87) rfl ?_
    show Steps p.tables e below (T12.setTop (mkF m 89 #[.val (.int p1), .val (.ref aD), .val (.ref b), .val (.ref aP), .val (.ref aR), .val (.int (0 : Int32))] [(.int (0 : Int32))])) _
    refine XS.aloadN X12.here hx rfl (hb hby at_89) rfl rfl ?_
    show Steps p.tables e below (T12.setTop (mkF m 90 #[.val (.int p1), .val (.ref aD), .val (.ref b), .val (.ref aP), .val (.ref aR), .val (.int (0 : Int32))] [(.ref aD), (.int (0 : Int32))])) _
    refine st13.trans ?_
    show Steps p.tables e below (T13.setTop (mkF m 93 #[.val (.int p1), .val (.ref aD), .val (.ref b), .val (.ref aP), .val (.ref aR), .val (.int (0 : Int32))] [(.int (0 : Int32)), (.int (0 : Int32))])) _
    refine XS.icmpNo X13.here hx rfl (hb hby at_93) rfl (teq (by decide : (0 : Int32) = (0 : Int32))).2 ?_
    show Steps p.tables e below (T13.setTop (mkF m 96 #[.val (.int p1), .val (.ref aD), .val (.ref b), .val (.ref aP), .val (.ref aR), .val (.int (0 : Int32))] [])) _
    refine XS.iconst X13.here hx rfl (hb hby at_96) ?_
    show Steps p.tables e below (T13.setTop (mkF m 97 #[.val (.int p1), .val (.ref aD), .val (.ref b), .val (.ref aP), .val (.ref aR), .val (.int (0 : Int32))] [(.int (1 : Int32))])) _
    refine XS.goto X13.here hx rfl (pc0 := 97) (pc' := 101) rfl (hb hby at_97) (by decide) (by decide) ?_
    show Steps p.tables e below (T13.setTop (mkF m 101 #[.val (.int p1), .val (.ref aD), .val (.ref b), .val (.ref aP), .val (.ref aR), .val (.int (0 : Int32))] [(.int (1 : Int32))])) _
    exact retN X13 hx (t := .boolean) Bd.returns (by simp) (hb hby at_101) hr
  · show Q0c Z p1 h0 n0 _ T13.heap _
    exact ⟨rfl, N13⟩
def Q0d (Z : State) (p1 : Int32) (h0 : Heap) (n0 : Nat) (v : Option Value) (h : Heap) (L : List Loc) : Prop := v = some (.int (1 : Int32)) ∧ Fr n0 L
set_option maxRecDepth 65536 in
set_option maxHeartbeats 40000000 in
theorem rm0d (l : Launch) (Z : State) (a0 : Array Value) (hw : ∀ d ∈ tables_1, d.before a0 Z = true) (ws : List Jvm.Cond) (p1 : Int32) (aP aR aD aX aV aE : Addr) (kV : ClassId) (cE : Cell) (h0 : Heap) (n0 : Nat) (Z0 : n0 ≤ h0.size) (hW0 : own_W Z h0 aP aR aD aX aV aE kV cE) (hc5 : ¬ ((p1 &&& (3 : Int32)) = (0 : Int32))) (hc14 : ¬ ((p1 &&& (3 : Int32)) = (1 : Int32))) (hc23 : ¬ ((p1 &&& (3 : Int32)) = (2 : Int32))) (nDP : aX ≠ aP) (nDR : aX ≠ aR) :
    MetFree l x (head1 (Jvm.Cond.code x code maxLocals ret :: ws) room_1) (fun a U => a = #[(.int p1)] ∧ Z.Warmed39 U.vm ∧ U.heap = h0) (fun _ _ _ _ _ => True) (fun _ U o U' => ∃ v L, o = .returned v ∧ Q0d Z p1 h0 n0 v U'.heap L ∧ FrameEnd U o U' L room_1.cells room_1.slots) := by
  refine MetFree.of_bodySF (plainFor_of_name pn_0) hisR ?_
  intro p e s m args below meth c s₁ Bd hml0 hP hK
  obtain ⟨rfl, hZ, hh⟩ := hP
  have hx := Bd.exec
  have hby := Bd.bytes
  have hml : c.maxLocals = 6 := hml0
  have hown : s.vm.findClass "com/example/tenacious_courier/tenaciouscourier/model/DeliveryStatusAllWaitingPinLaw" = some m.cls := findClass_of_methodNamed Bd.named
  have hnm := (name_of_methodNamed Bd.named Bd.method).1
  have X0 : Stand p l e room_1 s m #[(.int p1)] below meth c s₁ [] 0 0 := Stand.of_body Bd
  have e0 : s₁.heap = h0 := by rw [← hh, Bd.state]; rfl
  have N0 := Fr.nil n0
  have pre0 : ∀ t, Steps p.tables e below (s₁.setTop (mkF m 0 #[.val (.int p1), .unset, .unset, .unset, .unset, .unset] [])) t → Steps p.tables e below (s₁.setTop (entryFrame m #[(.int p1)] maxLocals)) t := fun t k => castTop (ef_0 m p1) k
  obtain ⟨⟨s1, s2, s3, s4, s5, s6⟩, ⟨x1, x2, x3, x4⟩, ⟨f1, f2, f3, f4⟩, vV, ev, ae, hzE⟩ := id hW0
  obtain ⟨_, _, ⟨T2, L2, k2, n2⟩, -, X2, ⟨Lc2, hQ2, l2, y2, z2⟩, st2⟩ := Jvm.LawKit.callS X0 hx (y := (⟨"com/example/tenacious_courier/tenaciouscourier/model/DeliveryStatusAllWaitingPinLaw", "pick", "(I)Lcom/example/tenacious_courier/tenaciouscourier/model/DeliveryStatus;"⟩ : MethodName)) hown (mvT hZ (hw _ (List.mem_of_getElem? (i := 0) rfl))) (mvT hZ (hw _ (List.mem_of_getElem? (i := 1) rfl))) (mvT hZ (hw _ (List.mem_of_getElem? (i := 2) rfl))) (mvT hZ (hw _ (List.mem_of_getElem? (i := 3) rfl))) (by decide) (backOf (W := 0) (rm1d l Z a0 hw [] p1 aX h0 n0 Z0 s4 hc5 hc14 hc23) hZ (hw _ (List.mem_of_getElem? (i := 3) rfl)) (hw _ (List.mem_of_getElem? (i := 2) rfl)) (by decide) (by decide)) (g := (mkF m 1 #[.val (.int p1), .unset, .unset, .unset, .unset, .unset] [(.int p1)])) rfl (by rw [hml]; rfl) (argsL := [(.int p1)]) (rest := []) (lenOf pd_0_0 rfl) rfl (by show 2 * 0 + _ ≤ _; exact Nat.le_of_eq rfl) (hb hby at_1) (fun _ _ => ⟨rfl, e0, (by decide : 0 + 0 ≤ _), (by decide : 0 + 0 ≤ _)⟩)
  dsimp only [Pt.U, Pt.locs, Pt.cells, Pt.slots] at X2 l2 y2 z2 st2 hQ2
  subst l2 y2 z2
  obtain ⟨rfl, N2q, k1q⟩ := hQ2
  have N2 := Fr.app N0 N2q
  obtain ⟨_, _, ⟨T3, L3, k3, n3⟩, -, X3, ⟨Lc3, hQ3, l3, y3, z3⟩, st3⟩ := Jvm.LawKit.callS X2 hx (y := (⟨"com/example/tenacious_courier/tenaciouscourier/model/DeliveryStatus", "allWaiting", "()Ljava/util/List;"⟩ : MethodName)) hown (mvT hZ (hw _ (List.mem_of_getElem? (i := 7) rfl))) (mvT hZ (hw _ (List.mem_of_getElem? (i := 8) rfl))) (mvT hZ (hw _ (List.mem_of_getElem? (i := 5) rfl))) (mvT hZ (hw _ (List.mem_of_getElem? (i := 9) rfl))) (by decide) (backOf (W := 0) (rm2 l Z a0 hw [] aP aR aD aX aV aE kV cE T2.heap n0 (by rw [k1q]; exact Z0) (by rw [k1q]; exact hW0)) hZ (hw _ (List.mem_of_getElem? (i := 9) rfl)) (hw _ (List.mem_of_getElem? (i := 5) rfl)) (by decide) (by decide)) (g := (mkF m 5 #[.val (.int p1), .val (.ref aX), .unset, .unset, .unset, .unset] [])) rfl (by rw [hml]; rfl) (argsL := []) (rest := []) (lenOf pd_0_1 rfl) rfl (by show 2 * 0 + _ ≤ _; exact Nat.le_of_eq rfl) (hb hby at_5) (fun _ _ => ⟨rfl, rfl, (by decide : 0 + 3 ≤ _), (by decide : 0 + 17 ≤ _)⟩)
  dsimp only [Pt.U, Pt.locs, Pt.cells, Pt.slots] at X3 l3 y3 z3 st3 hQ3
  subst l3 y3 z3
  obtain ⟨b, d, kd, rfl, N3q, K2q, E2q, D2q, S2q, V2q⟩ := hQ3
  have K2 : Keep h0 T3.heap [] := by rw [k1q] at K2q; exact K2q
  obtain ⟨cl_d, Ar_d, q_d, Sd, Nd, Hd, Gd⟩ := V2q
  have i0 : ¬ ((0 : Int32) < 0 ∨ cl_d.slots.size ≤ ((0 : Int32)).toNatClampNeg) := inb_of Sd ⟨by decide, by decide⟩
  have i1 : ¬ ((1 : Int32) < 0 ∨ cl_d.slots.size ≤ ((1 : Int32)).toNatClampNeg) := inb_of Sd ⟨by decide, by decide⟩
  have j0 : cl_d.slots[((0 : Int32)).toNatClampNeg]? = some (.ref aP) := Hd.at i0 rfl
  have j1 : cl_d.slots[((1 : Int32)).toNatClampNeg]? = some (.ref aR) := Hd.at i1 rfl
  have N3 := Fr.app N2 N3q
  obtain ⟨cq4, kq4, q4a, q4b, q4c⟩ := isOf hZ rfl E2q
  obtain ⟨_, _, ⟨T4, L4, k4, n4⟩, -, X4, ⟨Lc4, hQ4, l4, y4, z4⟩, st4⟩ := X3.interfaceBack hx (xi := (⟨"java/util/List", "size", "()I"⟩ : MethodName)) (y := (⟨"java/util/ArrayList", "size", "()I"⟩ : MethodName)) hown (mvT hZ (hw _ (List.mem_of_getElem? (i := 91) rfl))) (mvT hZ (hw _ (List.mem_of_getElem? (i := 92) rfl))) (mvT hZ (hw _ (List.mem_of_getElem? (i := 93) rfl))) (mvT hZ (hw _ (List.mem_of_getElem? (i := 94) rfl))) (mvT hZ (hw _ (List.mem_of_getElem? (i := 95) rfl))) (mvT hZ (hw _ (List.mem_of_getElem? (i := 96) rfl))) (mvT hZ (hw _ (List.mem_of_getElem? (i := 97) rfl))) (mvT hZ (hw _ (List.mem_of_getElem? (i := 63) rfl))) (by decide) (backOf (W := 0) (rm13 l Z a0 hw [] b (2 : Int32) T3.heap n0 (Nat.le_trans Z0 K2.1) S2q) hZ (hw _ (List.mem_of_getElem? (i := 98) rfl)) (hw _ (List.mem_of_getElem? (i := 12) rfl)) (by decide) (by decide)) q4a q4b q4c (g := (mkF m 16 #[.val (.int p1), .val (.ref aX), .val (.ref b), .unset, .unset, .unset] [(.ref b)])) rfl (by rw [hml]; rfl) (Steps.refl _) (argsL := []) (rest := []) (lenOf pd_0_10 rfl) rfl (by show 2 * 0 + _ ≤ _; exact Nat.le_of_eq rfl) (hb hby at_16) (fun _ _ => ⟨rfl, rfl, (by decide : 3 + 0 ≤ _), (by decide : 17 + 0 ≤ _)⟩)
  dsimp only [Pt.U, Pt.locs, Pt.cells, Pt.slots] at X4 l4 y4 z4 st4 hQ4
  subst l4 y4 z4
  obtain ⟨rfl, N4q, e4q⟩ := hQ4
  have N4 := Fr.app N3 N4q
  obtain ⟨cq5, kq5, q5a, q5b, q5c⟩ := isOf hZ rfl (show Exa Z T4.heap b _ from (by rw [e4q]; exact E2q))
  obtain ⟨_, _, ⟨T5, L5, k5, n5⟩, -, X5, ⟨Lc5, hQ5, l5, y5, z5⟩, st5⟩ := X4.interfaceBack hx (xi := (⟨"java/util/List", "get", "(I)Ljava/lang/Object;"⟩ : MethodName)) (y := (⟨"java/util/ArrayList", "get", "(I)Ljava/lang/Object;"⟩ : MethodName)) hown (mvT hZ (hw _ (List.mem_of_getElem? (i := 99) rfl))) (mvT hZ (hw _ (List.mem_of_getElem? (i := 100) rfl))) (mvT hZ (hw _ (List.mem_of_getElem? (i := 101) rfl))) (mvT hZ (hw _ (List.mem_of_getElem? (i := 102) rfl))) (mvT hZ (hw _ (List.mem_of_getElem? (i := 103) rfl))) (mvT hZ (hw _ (List.mem_of_getElem? (i := 104) rfl))) (mvT hZ (hw _ (List.mem_of_getElem? (i := 105) rfl))) (mvT hZ (hw _ (List.mem_of_getElem? (i := 63) rfl))) (by decide) (backOf (W := 0) (rm14 l Z a0 hw [] b (0 : Int32) (2 : Int32) d cl_d aP T4.heap n0 (by rw [e4q]; exact (Nat.le_trans Z0 K2.1)) (by rw [e4q]; exact S2q) (by rw [e4q]; exact E2q) (by rw [e4q]; exact D2q) (by rw [e4q]; exact Ar_d) i0 j0 (by decide) (by decide)) hZ (hw _ (List.mem_of_getElem? (i := 106) rfl)) (hw _ (List.mem_of_getElem? (i := 12) rfl)) (by decide) (by decide)) q5a q5b q5c (g := (mkF m 29 #[.val (.int p1), .val (.ref aX), .val (.ref b), .unset, .unset, .unset] [(.int (0 : Int32)), (.ref b)])) rfl (by rw [hml]; rfl) (Steps.refl _) (argsL := [(.int (0 : Int32))]) (rest := []) (lenOf pd_0_11 rfl) rfl (by show 2 * 0 + _ ≤ _; exact Nat.le_of_eq rfl) (hb hby at_29) (fun _ _ => ⟨rfl, rfl, (by decide : 3 + 0 ≤ _), (by decide : 17 + 0 ≤ _)⟩)
  dsimp only [Pt.U, Pt.locs, Pt.cells, Pt.slots] at X5 l5 y5 z5 st5 hQ5
  subst l5 y5 z5
  obtain ⟨rfl, N5q, k5q⟩ := hQ5
  have e5q : T5.heap = T3.heap := k5q.trans e4q
  have N5 := Fr.app N4 N5q
  obtain ⟨T6, X6, e6, st6⟩ := castY X5 hx hZ hown (hw _ (List.mem_of_getElem? (i := 120) rfl)) rfl (Ins.self (show Exa Z T5.heap aP _ from (by rw [e5q]; exact x1.keep K2))) (g := (mkF m 34 #[.val (.int p1), .val (.ref aX), .val (.ref b), .unset, .unset, .unset] [(.ref aP)])) rfl rfl (hb hby at_34)
  obtain ⟨cq7, kq7, q7a, q7b, q7c⟩ := isOf hZ e6 (show Exa Z T5.heap b _ from (by rw [e5q]; exact E2q))
  obtain ⟨_, _, ⟨T7, L7, k7, n7⟩, -, X7, ⟨Lc7, hQ7, l7, y7, z7⟩, st7⟩ := X6.interfaceBack hx (xi := (⟨"java/util/List", "get", "(I)Ljava/lang/Object;"⟩ : MethodName)) (y := (⟨"java/util/ArrayList", "get", "(I)Ljava/lang/Object;"⟩ : MethodName)) hown (mvT hZ (hw _ (List.mem_of_getElem? (i := 99) rfl))) (mvT hZ (hw _ (List.mem_of_getElem? (i := 100) rfl))) (mvT hZ (hw _ (List.mem_of_getElem? (i := 101) rfl))) (mvT hZ (hw _ (List.mem_of_getElem? (i := 102) rfl))) (mvT hZ (hw _ (List.mem_of_getElem? (i := 103) rfl))) (mvT hZ (hw _ (List.mem_of_getElem? (i := 104) rfl))) (mvT hZ (hw _ (List.mem_of_getElem? (i := 105) rfl))) (mvT hZ (hw _ (List.mem_of_getElem? (i := 63) rfl))) (by decide) (backOf (W := 0) (rm14 l Z a0 hw [] b (1 : Int32) (2 : Int32) d cl_d aR T5.heap n0 (by rw [e5q]; exact (Nat.le_trans Z0 K2.1)) (by rw [e5q]; exact S2q) (by rw [e5q]; exact E2q) (by rw [e5q]; exact D2q) (by rw [e5q]; exact Ar_d) i1 j1 (by decide) (by decide)) hZ (hw _ (List.mem_of_getElem? (i := 106) rfl)) (hw _ (List.mem_of_getElem? (i := 12) rfl)) (by decide) (by decide)) q7a q7b q7c (g := (mkF m 40 #[.val (.int p1), .val (.ref aX), .val (.ref b), .val (.ref aP), .unset, .unset] [(.int (1 : Int32)), (.ref b)])) rfl (by rw [hml]; rfl) (Steps.refl _) (argsL := [(.int (1 : Int32))]) (rest := []) (lenOf pd_0_11 rfl) rfl (by show 2 * 0 + _ ≤ _; exact Nat.le_of_eq rfl) (hb hby at_40) (fun _ _ => ⟨rfl, e6, (by decide : 3 + 0 ≤ _), (by decide : 17 + 0 ≤ _)⟩)
  dsimp only [Pt.U, Pt.locs, Pt.cells, Pt.slots] at X7 l7 y7 z7 st7 hQ7
  subst l7 y7 z7
  obtain ⟨rfl, N7q, k7q⟩ := hQ7
  have e7q : T7.heap = T3.heap := k7q.trans e5q
  have N7 := Fr.app N5 N7q
  obtain ⟨T8, X8, e8, st8⟩ := castY X7 hx hZ hown (hw _ (List.mem_of_getElem? (i := 120) rfl)) rfl (Ins.self (show Exa Z T7.heap aR _ from (by rw [e7q]; exact x2.keep K2))) (g := (mkF m 45 #[.val (.int p1), .val (.ref aX), .val (.ref b), .val (.ref aP), .unset, .unset] [(.ref aR)])) rfl rfl (hb hby at_45)
  obtain ⟨T10, X10, e10, st10⟩ := getS2 X8 hx hZ hown (host := "") (Or.inl (hw _ (List.mem_of_getElem? (i := 4) rfl))) Via.refl e8 (by rw [e7q]; exact own_staK s1 K2) (g := (mkF m 51 #[.val (.int p1), .val (.ref aX), .val (.ref b), .val (.ref aP), .val (.ref aR), .unset] [(.ref aP)])) rfl (hb hby at_51)
  obtain ⟨T12, X12, e12, st12⟩ := getS2 X10 hx hZ hown (host := "") (Or.inl (hw _ (List.mem_of_getElem? (i := 122) rfl))) Via.refl e10 (by rw [e7q]; exact own_staK s2 K2) (g := (mkF m 61 #[.val (.int p1), .val (.ref aX), .val (.ref b), .val (.ref aP), .val (.ref aR), .unset] [(.ref aR)])) rfl (hb hby at_61)
  obtain ⟨cq13, kq13, q13a, q13b, q13c⟩ := isOf hZ e12 (show Exa Z T7.heap aX _ from (by rw [e7q]; exact x4.keep K2))
  obtain ⟨_, _, ⟨T13, L13, k13, n13⟩, -, X13, ⟨Lc13, hQ13, l13, y13, z13⟩, st13⟩ := X12.virtualBack hx (y := (⟨"com/example/tenacious_courier/tenaciouscourier/model/DeliveryStatus", "waiting", "()Z"⟩ : MethodName)) (z := (⟨"com/example/tenacious_courier/tenaciouscourier/model/DeliveryStatus", "waiting", "()Z"⟩ : MethodName)) hown (mvT hZ (hw _ (List.mem_of_getElem? (i := 123) rfl))) (mvT hZ (hw _ (List.mem_of_getElem? (i := 124) rfl))) (notFace_of_selects (args := #[]) (mvT hZ (hw _ (List.mem_of_getElem? (i := 126) rfl)))) (mvT hZ (hw _ (List.mem_of_getElem? (i := 126) rfl))) (mvT hZ (hw _ (List.mem_of_getElem? (i := 125) rfl))) (by decide) (backOf (W := 1) (rm18 l Z a0 hw [] aX (0 : Int32) T7.heap n0 (by rw [e7q]; exact (Nat.le_trans Z0 K2.1)) (by decide) (by rw [e7q]; exact f4.keep K2 nin0)) hZ (hw _ (List.mem_of_getElem? (i := 127) rfl)) (hw _ (List.mem_of_getElem? (i := 5) rfl)) (by decide) (by decide)) q13a q13c (g := (mkF m 90 #[.val (.int p1), .val (.ref aX), .val (.ref b), .val (.ref aP), .val (.ref aR), .val (.int (0 : Int32))] [(.ref aX), (.int (0 : Int32))])) rfl (by rw [hml]; rfl) (Steps.refl _) (argsL := []) (rest := [(.int (0 : Int32))]) (lenOf pd_0_13 rfl) rfl (by show 2 * 0 + _ ≤ _; exact Nat.le_of_eq rfl) (hb hby at_90) (fun _ _ => ⟨rfl, e12, (by decide : 3 + 0 ≤ _), (by decide : 17 + 0 ≤ _)⟩)
  dsimp only [Pt.U, Pt.locs, Pt.cells, Pt.slots] at X13 l13 y13 z13 st13 hQ13
  subst l13 y13 z13
  obtain ⟨rfl, N13q, k13q⟩ := hQ13
  have N13 := Fr.app N7 N13q
  obtain ⟨fs, hr, hrun, hended, hW, hsame⟩ := X13.leave (v := some (.int (1 : Int32))) (fun h => by rw [Bd.returns] at h; cases h)
  refine ⟨_, _, pre0 _ ?_, hrun, hended, _, _, rfl, ?_, ⟨_, rfl⟩, hW, hsame.mono (by decide) (by decide)⟩
  · show Steps p.tables e below (s₁.setTop (mkF m 0 #[.val (.int p1), .unset, .unset, .unset, .unset, .unset] [])) _
    refine XS.iloadN X0.here hx rfl (hb hby at_0) rfl ?_
    show Steps p.tables e below (s₁.setTop (mkF m 1 #[.val (.int p1), .unset, .unset, .unset, .unset, .unset] [(.int p1)])) _
    refine st2 _ ?_
    show Steps p.tables e below (T2.setTop (mkF m 4 #[.val (.int p1), .unset, .unset, .unset, .unset, .unset] [(.ref aX)])) _
    refine XS.astoreN X2.here hx rfl (hb hby at_4) rfl rfl (l' := #[.val (.int p1), .val (.ref aX), .unset, .unset, .unset, .unset]) rfl ?_
    show Steps p.tables e below (T2.setTop (mkF m 5 #[.val (.int p1), .val (.ref aX), .unset, .unset, .unset, .unset] [])) _
    refine st3 _ ?_
    show Steps p.tables e below (T3.setTop (mkF m 8 #[.val (.int p1), .val (.ref aX), .unset, .unset, .unset, .unset] [(.ref b)])) _
    refine XS.astoreN X3.here hx rfl (hb hby at_8) rfl rfl (l' := #[.val (.int p1), .val (.ref aX), .val (.ref b), .unset, .unset, .unset]) rfl ?_
    show Steps p.tables e below (T3.setTop (mkF m 9 #[.val (.int p1), .val (.ref aX), .val (.ref b), .unset, .unset, .unset] [])) _
    refine XS.aloadN X3.here hx rfl (hb hby at_9) rfl rfl ?_
    show Steps p.tables e below (T3.setTop (mkF m 10 #[.val (.int p1), .val (.ref aX), .val (.ref b), .unset, .unset, .unset] [(.ref b)])) _
    refine XS.ifnonnullYes X3.here hx rfl (pc0 := 10) (pc' := 15) rfl (hb hby at_10) rfl (by decide) (by decide) ?_
    show Steps p.tables e below (T3.setTop (mkF m 15 #[.val (.int p1), .val (.ref aX), .val (.ref b), .unset, .unset, .unset] [])) _
    refine XS.aloadN X3.here hx rfl (hb hby at_15) rfl rfl ?_
    show Steps p.tables e below (T3.setTop (mkF m 16 #[.val (.int p1), .val (.ref aX), .val (.ref b), .unset, .unset, .unset] [(.ref b)])) _
    refine st4.trans ?_
    show Steps p.tables e below (T4.setTop (mkF m 21 #[.val (.int p1), .val (.ref aX), .val (.ref b), .unset, .unset, .unset] [(.int (2 : Int32))])) _
    refine XS.iconst X4.here hx rfl (hb hby at_21) ?_
    show Steps p.tables e below (T4.setTop (mkF m 22 #[.val (.int p1), .val (.ref aX), .val (.ref b), .unset, .unset, .unset] [(.int (2 : Int32)), (.int (2 : Int32))])) _
    refine XS.icmpYes X4.here hx rfl (pc0 := 22) (pc' := 27) rfl (hb hby at_22) rfl (teq (by decide : (2 : Int32) = (2 : Int32))).1 (by decide) (by decide) ?_
    show Steps p.tables e below (T4.setTop (mkF m 27 #[.val (.int p1), .val (.ref aX), .val (.ref b), .unset, .unset, .unset] [])) _
    refine XS.aloadN X4.here hx rfl (hb hby at_27) rfl rfl ?_
    show Steps p.tables e below (T4.setTop (mkF m 28 #[.val (.int p1), .val (.ref aX), .val (.ref b), .unset, .unset, .unset] [(.ref b)])) _
    refine XS.iconst X4.here hx rfl (hb hby at_28) ?_
    show Steps p.tables e below (T4.setTop (mkF m 29 #[.val (.int p1), .val (.ref aX), .val (.ref b), .unset, .unset, .unset] [(.int (0 : Int32)), (.ref b)])) _
    refine st5.trans ?_
    show Steps p.tables e below (T5.setTop (mkF m 34 #[.val (.int p1), .val (.ref aX), .val (.ref b), .unset, .unset, .unset] [(.ref aP)])) _
    refine st6 _ ?_
    show Steps p.tables e below (T6.setTop (mkF m 37 #[.val (.int p1), .val (.ref aX), .val (.ref b), .unset, .unset, .unset] [(.ref aP)])) _
    refine XS.astoreN X6.here hx rfl (hb hby at_37) rfl rfl (l' := #[.val (.int p1), .val (.ref aX), .val (.ref b), .val (.ref aP), .unset, .unset]) rfl ?_
    show Steps p.tables e below (T6.setTop (mkF m 38 #[.val (.int p1), .val (.ref aX), .val (.ref b), .val (.ref aP), .unset, .unset] [])) _
    refine XS.aloadN X6.here hx rfl (hb hby at_38) rfl rfl ?_
    show Steps p.tables e below (T6.setTop (mkF m 39 #[.val (.int p1), .val (.ref aX), .val (.ref b), .val (.ref aP), .unset, .unset] [(.ref b)])) _
    refine XS.iconst X6.here hx rfl (hb hby at_39) ?_
    show Steps p.tables e below (T6.setTop (mkF m 40 #[.val (.int p1), .val (.ref aX), .val (.ref b), .val (.ref aP), .unset, .unset] [(.int (1 : Int32)), (.ref b)])) _
    refine st7.trans ?_
    show Steps p.tables e below (T7.setTop (mkF m 45 #[.val (.int p1), .val (.ref aX), .val (.ref b), .val (.ref aP), .unset, .unset] [(.ref aR)])) _
    refine st8 _ ?_
    show Steps p.tables e below (T8.setTop (mkF m 48 #[.val (.int p1), .val (.ref aX), .val (.ref b), .val (.ref aP), .unset, .unset] [(.ref aR)])) _
    refine XS.astore X8.here hx rfl (hb hby at_48) rfl rfl (l' := #[.val (.int p1), .val (.ref aX), .val (.ref b), .val (.ref aP), .val (.ref aR), .unset]) rfl ?_
    show Steps p.tables e below (T8.setTop (mkF m 50 #[.val (.int p1), .val (.ref aX), .val (.ref b), .val (.ref aP), .val (.ref aR), .unset] [])) _
    refine XS.aloadN X8.here hx rfl (hb hby at_50) rfl rfl ?_
    show Steps p.tables e below (T8.setTop (mkF m 51 #[.val (.int p1), .val (.ref aX), .val (.ref b), .val (.ref aP), .val (.ref aR), .unset] [(.ref aP)])) _
    refine st10 _ ?_
    show Steps p.tables e below (T10.setTop (mkF m 54 #[.val (.int p1), .val (.ref aX), .val (.ref b), .val (.ref aP), .val (.ref aR), .unset] [(.ref aP), (.ref aP)])) _
    refine Jvm.RoadKit.acmp (g := (mkF m 54 #[.val (.int p1), .val (.ref aX), .val (.ref b), .val (.ref aP), .val (.ref aR), .unset] [(.ref aP), (.ref aP)])) X10 hx rfl rfl rfl (pc0 := 54) (pc' := 59) (same := true) rfl (hb hby at_54) rfl (decide_eq_true (congrArg Value.ref rfl)) (by decide) (by decide) ?_
    show Steps p.tables e below (T10.setTop (mkF m 59 #[.val (.int p1), .val (.ref aX), .val (.ref b), .val (.ref aP), .val (.ref aR), .unset] [])) _
    refine XS.aload X10.here hx rfl (hb hby at_59) rfl rfl ?_
    show Steps p.tables e below (T10.setTop (mkF m 61 #[.val (.int p1), .val (.ref aX), .val (.ref b), .val (.ref aP), .val (.ref aR), .unset] [(.ref aR)])) _
    refine st12 _ ?_
    show Steps p.tables e below (T12.setTop (mkF m 64 #[.val (.int p1), .val (.ref aX), .val (.ref b), .val (.ref aP), .val (.ref aR), .unset] [(.ref aR), (.ref aR)])) _
    refine Jvm.RoadKit.acmp (g := (mkF m 64 #[.val (.int p1), .val (.ref aX), .val (.ref b), .val (.ref aP), .val (.ref aR), .unset] [(.ref aR), (.ref aR)])) X12 hx rfl rfl rfl (pc0 := 64) (pc' := 69) (same := true) rfl (hb hby at_64) rfl (decide_eq_true (congrArg Value.ref rfl)) (by decide) (by decide) ?_
    show Steps p.tables e below (T12.setTop (mkF m 69 #[.val (.int p1), .val (.ref aX), .val (.ref b), .val (.ref aP), .val (.ref aR), .unset] [])) _
    refine XS.aloadN X12.here hx rfl (hb hby at_69) rfl rfl ?_
    show Steps p.tables e below (T12.setTop (mkF m 70 #[.val (.int p1), .val (.ref aX), .val (.ref b), .val (.ref aP), .val (.ref aR), .unset] [(.ref aP)])) _
    refine XS.aloadN X12.here hx rfl (hb hby at_70) rfl rfl ?_
    show Steps p.tables e below (T12.setTop (mkF m 71 #[.val (.int p1), .val (.ref aX), .val (.ref b), .val (.ref aP), .val (.ref aR), .unset] [(.ref aX), (.ref aP)])) _
    refine Jvm.RoadKit.acmp (g := (mkF m 71 #[.val (.int p1), .val (.ref aX), .val (.ref b), .val (.ref aP), .val (.ref aR), .unset] [(.ref aX), (.ref aP)])) X12 hx rfl rfl rfl (pc0 := 71) (pc' := 74) (same := false) rfl (hb hby at_71) rfl (decide_eq_false fun q => (Ne.symm nDP) (Value.ref.inj q)) (by decide) (by decide) ?_
    show Steps p.tables e below (T12.setTop (mkF m 74 #[.val (.int p1), .val (.ref aX), .val (.ref b), .val (.ref aP), .val (.ref aR), .unset] [])) _
    refine XS.aload X12.here hx rfl (hb hby at_74) rfl rfl ?_
    show Steps p.tables e below (T12.setTop (mkF m 76 #[.val (.int p1), .val (.ref aX), .val (.ref b), .val (.ref aP), .val (.ref aR), .unset] [(.ref aR)])) _
    refine XS.aloadN X12.here hx rfl (hb hby at_76) rfl rfl ?_
    show Steps p.tables e below (T12.setTop (mkF m 77 #[.val (.int p1), .val (.ref aX), .val (.ref b), .val (.ref aP), .val (.ref aR), .unset] [(.ref aX), (.ref aR)])) _
    refine Jvm.RoadKit.acmp (g := (mkF m 77 #[.val (.int p1), .val (.ref aX), .val (.ref b), .val (.ref aP), .val (.ref aR), .unset] [(.ref aX), (.ref aR)])) X12 hx rfl rfl rfl (pc0 := 77) (pc' := 84) (same := false) rfl (hb hby at_77) rfl (decide_eq_false fun q => (Ne.symm nDR) (Value.ref.inj q)) (by decide) (by decide) ?_
    show Steps p.tables e below (T12.setTop (mkF m 84 #[.val (.int p1), .val (.ref aX), .val (.ref b), .val (.ref aP), .val (.ref aR), .unset] [])) _
    refine XS.iconst X12.here hx rfl (hb hby at_84) ?_
    show Steps p.tables e below (T12.setTop (mkF m 85 #[.val (.int p1), .val (.ref aX), .val (.ref b), .val (.ref aP), .val (.ref aR), .unset] [(.int (0 : Int32))])) _
    refine XS.istore X12.here hx rfl (hb hby at_85) rfl (l' := #[.val (.int p1), .val (.ref aX), .val (.ref b), .val (.ref aP), .val (.ref aR), .val (.int (0 : Int32))]) rfl ?_
    show Steps p.tables e below (T12.setTop (mkF m 87 #[.val (.int p1), .val (.ref aX), .val (.ref b), .val (.ref aP), .val (.ref aR), .val (.int (0 : Int32))] [])) _
    refine XS.iload X12.here hx rfl (hb hby at_87) rfl ?_
    show Steps p.tables e below (T12.setTop (mkF m 89 #[.val (.int p1), .val (.ref aX), .val (.ref b), .val (.ref aP), .val (.ref aR), .val (.int (0 : Int32))] [(.int (0 : Int32))])) _
    refine XS.aloadN X12.here hx rfl (hb hby at_89) rfl rfl ?_
    show Steps p.tables e below (T12.setTop (mkF m 90 #[.val (.int p1), .val (.ref aX), .val (.ref b), .val (.ref aP), .val (.ref aR), .val (.int (0 : Int32))] [(.ref aX), (.int (0 : Int32))])) _
    refine st13.trans ?_
    show Steps p.tables e below (T13.setTop (mkF m 93 #[.val (.int p1), .val (.ref aX), .val (.ref b), .val (.ref aP), .val (.ref aR), .val (.int (0 : Int32))] [(.int (0 : Int32)), (.int (0 : Int32))])) _
    refine XS.icmpNo X13.here hx rfl (hb hby at_93) rfl (teq (by decide : (0 : Int32) = (0 : Int32))).2 ?_
    show Steps p.tables e below (T13.setTop (mkF m 96 #[.val (.int p1), .val (.ref aX), .val (.ref b), .val (.ref aP), .val (.ref aR), .val (.int (0 : Int32))] [])) _
    refine XS.iconst X13.here hx rfl (hb hby at_96) ?_
    show Steps p.tables e below (T13.setTop (mkF m 97 #[.val (.int p1), .val (.ref aX), .val (.ref b), .val (.ref aP), .val (.ref aR), .val (.int (0 : Int32))] [(.int (1 : Int32))])) _
    refine XS.goto X13.here hx rfl (pc0 := 97) (pc' := 101) rfl (hb hby at_97) (by decide) (by decide) ?_
    show Steps p.tables e below (T13.setTop (mkF m 101 #[.val (.int p1), .val (.ref aX), .val (.ref b), .val (.ref aP), .val (.ref aR), .val (.int (0 : Int32))] [(.int (1 : Int32))])) _
    exact retN X13 hx (t := .boolean) Bd.returns (by simp) (hb hby at_101) hr
  · show Q0d Z p1 h0 n0 _ T13.heap _
    exact ⟨rfl, N13⟩
set_option maxRecDepth 65536 in
set_option maxHeartbeats 40000000 in
theorem comes_1 {Post : Tables → Env → Array Value → State → Outcome → State → Prop} (hpost : ∀ tb e args s v u, (limb_1_1.after args s (.returned v) u = true ∧ limb_1_2.after args s (.returned v) u = true ∧ True) → FrameEnd s (.returned v) u (Jvm.fieldLocs frame_1_writes args s ++ Jvm.arrayLocs frame_1_arrays args s ++ Jvm.staticLocs frame_1_statics s) 16 128 → Post tb e args s (.returned v) u) :
    ArmFor flags0 classFile x code maxLocals ret World_1 tables_1 room_1 Calls_1 rest_1 Pre_1 Post := by
  intro l hfl _ _ p e ha hc hk s m args below hf hA hF happ hP
  obtain ⟨hcalls, hrest, hpre⟩ := hP
  obtain ⟨-, -, -, hnamed, -, -, -, hat⟩ := (Spec.applies_iff hf).mp happ
  obtain ⟨hg, hn⟩ := and_e (Cond.before_iff.mp (show (Jvm.Cond.and given_1 narrow_1).before args s = true from hpre))
  obtain ⟨g14, g15⟩ := and_e hg
  obtain ⟨w0, rfl⟩ : ∃ w0 : Value, args = #[w0] := by
    have hs : args.size = 1 := by simpa [Cond.value, given_1] using g14
    obtain ⟨L⟩ := args
    match L, hs with
    | [w0], _ => exact ⟨w0, rfl⟩
  have hw := fun d (hd : d ∈ tables_1) => atoms_spec (ws := Jvm.Cond.code x code maxLocals ret :: tables_1) hat d (List.mem_cons_of_mem _ hd)
  have hfit : Fit s := fun {y c} hc i hi => by
    obtain ⟨ha, rfl⟩ := Array.getElem?_eq_some_iff.mp hc
    have q := List.all_eq_true.mp ((Array.all_eq_true_iff_forall_mem.mp hF) _ (Array.getElem_mem ha)) i (List.mem_range.mpr hi)
    simpa [Array.getElem?_eq_getElem hi] using q
  obtain ⟨hsets, hown0⟩ := atoms_of _ (rest_1_c_eq ▸ (show rest_1_c.before _ s = true from hrest))
  have hr0 := Cond.before_iff.mp hown0
  have hini := hw _ (List.mem_of_getElem? (i := 5) rfl)
  obtain ⟨i0, ei0⟩ := is_v g15
  obtain rfl : w0 = (.int i0) := Option.some.inj ei0
  obtain ⟨n0, hn⟩ := and_e hn
  obtain ⟨n1, hn⟩ := and_e hn
  obtain ⟨n2, hn⟩ := and_e hn
  obtain ⟨n3, hn⟩ := and_e hn
  obtain ⟨n4, hn⟩ := and_e hn
  obtain ⟨n5, hn⟩ := and_e hn
  obtain ⟨n6, hn⟩ := and_e hn
  obtain ⟨n7, hn⟩ := and_e hn
  obtain ⟨n8, hn⟩ := and_e hn
  obtain ⟨n9, hn⟩ := and_e hn
  obtain ⟨n10, hn⟩ := and_e hn
  obtain ⟨n11, hn⟩ := and_e hn
  obtain ⟨n12, hn⟩ := and_e hn
  obtain ⟨n13, hn⟩ := and_e hn
  obtain ⟨n14, hn⟩ := and_e hn
  obtain ⟨n15, hn⟩ := and_e hn
  obtain ⟨n16, hn⟩ := and_e hn
  obtain ⟨n17, hn⟩ := and_e hn
  have n18 := hn
  obtain ⟨aP, vaP, saP, xaP⟩ := own_sta n0 hini (hw _ (List.mem_of_getElem? (i := 6) rfl))
  have faP := own_fint vaP n11
  have oaP := own_fint vaP n15
  obtain ⟨aR, vaR, saR, xaR⟩ := own_sta n5 hini (hw _ (List.mem_of_getElem? (i := 48) rfl))
  have faR := own_fint vaR n12
  have oaR := own_fint vaR n17
  obtain ⟨aD, vaD, saD, xaD⟩ := own_sta n7 hini (hw _ (List.mem_of_getElem? (i := 49) rfl))
  have faD := own_fint vaD n13
  have oaD := own_fint vaD n18
  obtain ⟨aX, vaX, saX, xaX⟩ := own_sta n9 hini (hw _ (List.mem_of_getElem? (i := 50) rfl))
  have faX := own_fint vaX n14
  have oaX := own_fint vaX n16
  obtain ⟨aV, vV, sV, xV⟩ := own_sta n2 hini (hw _ (List.mem_of_getElem? (i := 40) rfl))
  obtain ⟨cV, AV⟩ := Arr.start vV n1
  obtain ⟨lV1, lV2⟩ := own_length vV AV n3
  have e0 := own_elem (j := (0 : Int32)) vV vaP AV (by decide) n4
  have e1 := own_elem (j := (1 : Int32)) vV vaR AV (by decide) n6
  have e2 := own_elem (j := (2 : Int32)) vV vaD AV (by decide) n8
  have e3 := own_elem (j := (3 : Int32)) vV vaX AV (by decide) n10
  have VV : Arv s s.heap aV cV.cls (.object "com/example/tenacious_courier/tenaciouscourier/model/DeliveryStatus") (4 : Int32) [(.ref aP), (.ref aR), (.ref aD), (.ref aX)] .null := Arv.start hfit AV lV1 lV2 (by decide) rfl ⟨e0, e1, e2, e3, trivial⟩
  have hr0 : rest_1_c.before #[.int i0] s = true := hrest
  rw [rest_1_c_eq] at hr0
  obtain ⟨hS, -⟩ := atoms_of jdkStatics_1 hr0
  have r6 := Cond.before_iff.mp (hS _ (List.mem_of_getElem? (i := 6) rfl))
  have r7 := Cond.before_iff.mp (hS _ (List.mem_of_getElem? (i := 7) rfl))
  have r8 := Cond.before_iff.mp (hS _ (List.mem_of_getElem? (i := 8) rfl))
  obtain ⟨aE, vE, sE, xE⟩ := own_sta r7 (hw _ (List.mem_of_getElem? (i := 12) rfl)) (hS _ (List.mem_of_getElem? (i := 2) rfl))
  obtain ⟨cE, AE⟩ := Arr.start vE r6
  obtain ⟨lE1, lE2⟩ := own_length vE AE r8
  have hzE : cE.slots.size = (0 : Int32).toNatClampNeg := by
    have q := len_toInt lE1
    rw [lE2] at q
    have z : (0 : Int32).toInt = 0 := by decide
    have z2 : (0 : Int32).toNatClampNeg = 0 := by decide
    omega
  have hW0 : own_W s s.heap aP aR aD aX aV aE cV.cls cE := ⟨⟨saP, saR, saD, saX, sV, sE⟩, ⟨xaP, xaR, xaD, xaX⟩, ⟨faP, faR, faD, faX⟩, VV, xV, AE, hzE⟩
  have nRP : aR ≠ aP := oaR.ne oaP (by decide)
  have nDP : aD ≠ aP := oaD.ne oaP (by decide)
  have nDR : aD ≠ aR := oaD.ne oaR (by decide)
  have nXP : aX ≠ aP := oaX.ne oaP (by decide)
  have nXR : aX ≠ aR := oaX.ne oaR (by decide)
  by_cases c0 : (i0 &&& (3 : Int32)) = (0 : Int32)
  · obtain ⟨n, o, h1, h2, h3, _, L, rfl, ⟨rfl, N⟩, hq⟩ := rm0a l s _ hw tables_1 i0 aP aR aD aX aV aE cV.cls cE s.heap s.heap.size (Nat.le_refl _) hW0 c0 p e ha hc hk s m _ below hf ((Spec.applies_iff_loose hf).mp happ).1 ⟨rfl, State.Warmed39.refl s, rfl⟩ trivial
    refine ⟨n, _, h1, h2, h3, hpost _ _ _ _ _ _ ⟨Cond.after_iff.mpr rfl, Cond.after_iff.mpr (eq_i res_at (Term.int_eval (1)) rfl), trivial⟩ ⟨hq.1, hq.2.1, (hq.2.2.sift fun y hy => Or.inr (N y hy)).mono (by decide) (by decide)⟩⟩
  by_cases c1 : (i0 &&& (3 : Int32)) = (1 : Int32)
  · obtain ⟨n, o, h1, h2, h3, _, L, rfl, ⟨rfl, N⟩, hq⟩ := rm0b l s _ hw tables_1 i0 aP aR aD aX aV aE cV.cls cE s.heap s.heap.size (Nat.le_refl _) hW0 c0 c1 nRP p e ha hc hk s m _ below hf ((Spec.applies_iff_loose hf).mp happ).1 ⟨rfl, State.Warmed39.refl s, rfl⟩ trivial
    refine ⟨n, _, h1, h2, h3, hpost _ _ _ _ _ _ ⟨Cond.after_iff.mpr rfl, Cond.after_iff.mpr (eq_i res_at (Term.int_eval (1)) rfl), trivial⟩ ⟨hq.1, hq.2.1, (hq.2.2.sift fun y hy => Or.inr (N y hy)).mono (by decide) (by decide)⟩⟩
  by_cases c2 : (i0 &&& (3 : Int32)) = (2 : Int32)
  · obtain ⟨n, o, h1, h2, h3, _, L, rfl, ⟨rfl, N⟩, hq⟩ := rm0c l s _ hw tables_1 i0 aP aR aD aX aV aE cV.cls cE s.heap s.heap.size (Nat.le_refl _) hW0 c0 c1 c2 nDP nDR p e ha hc hk s m _ below hf ((Spec.applies_iff_loose hf).mp happ).1 ⟨rfl, State.Warmed39.refl s, rfl⟩ trivial
    refine ⟨n, _, h1, h2, h3, hpost _ _ _ _ _ _ ⟨Cond.after_iff.mpr rfl, Cond.after_iff.mpr (eq_i res_at (Term.int_eval (1)) rfl), trivial⟩ ⟨hq.1, hq.2.1, (hq.2.2.sift fun y hy => Or.inr (N y hy)).mono (by decide) (by decide)⟩⟩
  · obtain ⟨n, o, h1, h2, h3, _, L, rfl, ⟨rfl, N⟩, hq⟩ := rm0d l s _ hw tables_1 i0 aP aR aD aX aV aE cV.cls cE s.heap s.heap.size (Nat.le_refl _) hW0 c0 c1 c2 nXP nXR p e ha hc hk s m _ below hf ((Spec.applies_iff_loose hf).mp happ).1 ⟨rfl, State.Warmed39.refl s, rfl⟩ trivial
    refine ⟨n, _, h1, h2, h3, hpost _ _ _ _ _ _ ⟨Cond.after_iff.mpr rfl, Cond.after_iff.mpr (eq_i res_at (Term.int_eval (1)) rfl), trivial⟩ ⟨hq.1, hq.2.1, (hq.2.2.sift fun y hy => Or.inr (N y hy)).mono (by decide) (by decide)⟩⟩
theorem main_1_1 : Claimed_1_1 := comes_1 fun _ _ _ _ _ _ h hF => ⟨h.1, hF⟩
theorem main_1_2 : Claimed_1_2 := comes_1 fun _ _ _ _ _ _ h hF => ⟨h.2.1, hF⟩
end Jvm.Pilot.@@N@@
namespace Jvm.Pilot.@@N@@
open Jvm Jvm.ClassFile Sem Op Lib Jvm.Free Jvm.Stand Jvm.Pilot.@@N@@.Jvm.D
/-! MADE BY PROGRAM (witnessworld.py) out of the Statement's table words and the real class files: 26 classes; the members and pool entries that the words name. The judged class is class 1, her method 2. -/
namespace start1
open Jvm.ClassFile
def u (s : String) : CpInfo := .utf8 (stringToUtf16 s)
/-- a pool by its gaps: so many unusable entries, then the entry; so many at the end -/
def gap : Nat → List CpInfo → List CpInfo
  | 0, r => r
  | n + 1, r => .unusable :: gap n r
def poolList (es : List (Nat × CpInfo)) (last : Nat) : List CpInfo := es.foldr (fun e r => gap e.1 (e.2 :: r)) (gap last [])
def pool (es : List (Nat × CpInfo)) (last : Nat) : Array CpInfo := ⟨poolList es last⟩
def fileOf (pool : Array CpInfo) (this : Nat) (attrs : Array Attribute := #[]) (ms : Array MethodInfo := #[]) (fl : Nat := 33) (sup : Nat := 0) (ifs : Array Nat := #[]) (fds : Array FieldInfo := #[]) : ClassFile where
  minorVersion := 0
  majorVersion := 65
  constantPool := pool
  accessFlags := fl
  thisClass := this
  superClass := sup
  interfaces := ifs
  fields := fds
  methods := ms
  attributes := attrs
def plain (name : String) (sup : Option ClassId) : Class where
  name := name
  kind := .ordinary
  loader := none
  accessFlags := 33
  super := sup
  interfaces := #[]
  cf := none
  fields := #[]
  methods := #[]
  instanceTypes := #[]
  staticTypes := #[]
  resolved := #[]
  callSites := []
  init := .initialized
  statics := none
  mirror := none

def pool0 : Array CpInfo := pool [(5, u "<init>"), (0, u "()V"), (1, .class_ 10), (1, u "java/lang/Object"), (85, u "clone"), (0, u "()Ljava/lang/Object;")] 26

def k0c0 : Code := { maxStack := 0, maxLocals := 1, code := object_method_1_code, exceptionTable := #[], attributes := #[] }
def k0m0 : Method := { name := "<init>", desc := "()V", sig := { parameters := [], returnType := none }, accessFlags := 1, code := some k0c0 }
def k0m1 : Method := { name := "clone", desc := "()Ljava/lang/Object;", sig := { parameters := [], returnType := some (.object "java/lang/Object") }, accessFlags := 260, code := none }
/-- java/lang/Object -/
def k0 : Class := { plain "java/lang/Object" none with
  accessFlags := 33
  interfaces := #[]
  cf := some (fileOf pool0 8 #[] #[{ accessFlags := 1, nameIndex := 5, descriptorIndex := 6, attributes := #[] }, { accessFlags := 260, nameIndex := 96, descriptorIndex := 97, attributes := #[] }] 33 0 #[] #[])
  fields := #[]
  methods := #[k0m0, k0m1]
  instanceTypes := #[]
  staticTypes := #[]
  resolved := Array.replicate 124 none
  statics := none }

def pool1 : Array CpInfo := pool [(2, .class_ 4), (1, u "java/lang/Object"), (0, u "<init>"), (0, u "()V"), (0, .fieldref 8 9), (0, .class_ 10), (0, .nameAndType 11 12), (0, u "com/example/tenacious_courier/tenaciouscourier/model/DeliveryStatus"), (0, u "PENDING"), (0, u "Lcom/example/tenacious_courier/tenaciouscourier/model/DeliveryStatus;"), (0, .fieldref 8 14), (0, .nameAndType 15 12), (0, u "RETRYING"), (0, .fieldref 8 17), (0, .nameAndType 18 12), (0, u "DELIVERED"), (0, .fieldref 8 20), (0, .nameAndType 21 12), (0, u "DEAD"), (0, .methodref 23 24), (0, .class_ 25), (0, .nameAndType 26 27), (0, u "com/example/tenacious_courier/tenaciouscourier/model/DeliveryStatusAllWaitingPinLaw"), (0, u "pick"), (0, u "(I)Lcom/example/tenacious_courier/tenaciouscourier/model/DeliveryStatus;"), (0, .methodref 8 29), (0, .nameAndType 30 31), (0, u "allWaiting"), (0, u "()Ljava/util/List;"), (0, .interfaceMethodref 33 34), (0, .class_ 35), (0, .nameAndType 36 37), (0, u "java/util/List"), (0, u "size"), (0, u "()I"), (0, .interfaceMethodref 33 39), (0, .nameAndType 40 41), (0, u "get"), (0, u "(I)Ljava/lang/Object;"), (0, .methodref 8 43), (0, .nameAndType 44 45), (0, u "waiting"), (0, u "()Z"), (3, u "law"), (0, u "(I)Z")] 2

def k1m0 : Method := { name := "<init>", desc := "()V", sig := { parameters := [], returnType := none }, accessFlags := 1, code := none }
def k1c1 : Code := { maxStack := 2, maxLocals := 2, code := method_2_code, exceptionTable := #[], attributes := #[] }
def k1m1 : Method := { name := "pick", desc := "(I)Lcom/example/tenacious_courier/tenaciouscourier/model/DeliveryStatus;", sig := { parameters := [.int], returnType := some (.object "com/example/tenacious_courier/tenaciouscourier/model/DeliveryStatus") }, accessFlags := 10, code := some k1c1 }
def k1c2 : Code := { maxStack := 2, maxLocals := 6, code := code, exceptionTable := #[], attributes := #[] }
def k1m2 : Method := { name := "law", desc := "(I)Z", sig := { parameters := [.int], returnType := some .boolean }, accessFlags := 9, code := some k1c2 }
/-- com/example/tenacious_courier/tenaciouscourier/model/DeliveryStatusAllWaitingPinLaw -/
def k1 : Class := { plain "com/example/tenacious_courier/tenaciouscourier/model/DeliveryStatusAllWaitingPinLaw" (some 0) with
  accessFlags := 49
  interfaces := #[]
  cf := some (fileOf pool1 23 #[] #[{ accessFlags := 1, nameIndex := 5, descriptorIndex := 6, attributes := #[] }, { accessFlags := 10, nameIndex := 26, descriptorIndex := 27, attributes := #[] }, { accessFlags := 9, nameIndex := 49, descriptorIndex := 50, attributes := #[] }] 49 2 #[] #[])
  fields := #[]
  methods := #[k1m0, k1m1, k1m2]
  instanceTypes := #[]
  staticTypes := #[]
  resolved := Array.replicate 53 none
  statics := none }

def pool2 : Array CpInfo := pool [(1, .class_ 2), (0, u "java/lang/constant/Constable"), (0, .class_ 4), (0, u "java/lang/Object")] 6

/-- java/lang/constant/Constable -/
def k2 : Class := { plain "java/lang/constant/Constable" (some 0) with
  accessFlags := 1537
  interfaces := #[]
  cf := some (fileOf pool2 1 #[] #[] 1537 3 #[] #[])
  fields := #[]
  methods := #[]
  instanceTypes := #[]
  staticTypes := #[]
  resolved := Array.replicate 11 none
  statics := none }

def pool3 : Array CpInfo := pool [(1, .class_ 2), (0, u "java/lang/Comparable"), (0, .class_ 4), (0, u "java/lang/Object")] 7

/-- java/lang/Comparable -/
def k3 : Class := { plain "java/lang/Comparable" (some 0) with
  accessFlags := 1537
  interfaces := #[]
  cf := some (fileOf pool3 1 #[] #[] 1537 3 #[] #[])
  fields := #[]
  methods := #[]
  instanceTypes := #[]
  staticTypes := #[]
  resolved := Array.replicate 12 none
  statics := none }

def pool4 : Array CpInfo := pool [(1, .class_ 2), (0, u "java/io/Serializable"), (0, .class_ 4), (0, u "java/lang/Object")] 2

/-- java/io/Serializable -/
def k4 : Class := { plain "java/io/Serializable" (some 0) with
  accessFlags := 1537
  interfaces := #[]
  cf := some (fileOf pool4 1 #[] #[] 1537 3 #[] #[])
  fields := #[]
  methods := #[]
  instanceTypes := #[]
  staticTypes := #[]
  resolved := Array.replicate 7 none
  statics := none }

def pool5 : Array CpInfo := pool [(2, .class_ 4), (1, u "java/lang/Enum"), (0, u "name"), (0, u "Ljava/lang/String;"), (2, u "ordinal"), (0, u "I"), (1, .class_ 14), (1, u "java/lang/Object"), (4, u "hash"), (86, .class_ 108), (1, u "java/lang/Enum$EnumDesc"), (2, .class_ 112), (0, u "java/lang/constant/Constable"), (0, .class_ 114), (0, u "java/lang/Comparable"), (0, .class_ 116), (0, u "java/io/Serializable")] 87

/-- java/lang/Enum -/
def k5 : Class := { plain "java/lang/Enum" (some 0) with
  accessFlags := 1057
  interfaces := #[2, 3, 4]
  cf := some (fileOf pool5 2 #[.nestMembers #[106]] #[] 1057 12 #[111, 113, 115] #[{ accessFlags := 18, nameIndex := 5, descriptorIndex := 6, attributes := #[] }, { accessFlags := 18, nameIndex := 9, descriptorIndex := 10, attributes := #[] }, { accessFlags := 2, nameIndex := 19, descriptorIndex := 10, attributes := #[] }])
  fields := #[{ name := "name", type := (.object "java/lang/String"), accessFlags := 18, slot := 0, constantValue := 0 }, { name := "ordinal", type := .int, accessFlags := 18, slot := 1, constantValue := 0 }, { name := "hash", type := .int, accessFlags := 2, slot := 2, constantValue := 0 }]
  methods := #[]
  instanceTypes := #[(.object "java/lang/String"), .int, .int]
  staticTypes := #[]
  resolved := Array.replicate 204 none
  statics := none }

def pool6 : Array CpInfo := pool [(2, .class_ 4), (1, u "com/example/tenacious_courier/tenaciouscourier/model/WireNamed"), (29, .class_ 35), (0, u "java/lang/Object")] 10

/-- com/example/tenacious_courier/tenaciouscourier/model/WireNamed -/
def k6 : Class := { plain "com/example/tenacious_courier/tenaciouscourier/model/WireNamed" (some 0) with
  accessFlags := 1537
  interfaces := #[]
  cf := some (fileOf pool6 2 #[] #[] 1537 34 #[] #[])
  fields := #[]
  methods := #[]
  instanceTypes := #[]
  staticTypes := #[]
  resolved := Array.replicate 46 none
  statics := none }

def pool7 : Array CpInfo := pool [(1, .class_ 2), (0, u "com/example/tenacious_courier/tenaciouscourier/model/DeliveryStatus"), (2, u "PENDING"), (0, u "Lcom/example/tenacious_courier/tenaciouscourier/model/DeliveryStatus;"), (2, u "RETRYING"), (2, u "DELIVERED"), (2, u "DEAD"), (0, .fieldref 1 17), (0, .nameAndType 18 19), (0, u "$VALUES"), (0, u "[Lcom/example/tenacious_courier/tenaciouscourier/model/DeliveryStatus;"), (0, .methodref 21 22), (0, .class_ 19), (0, .nameAndType 23 24), (0, u "clone"), (0, u "()Ljava/lang/Object;"), (1, .class_ 28), (1, u "java/lang/Enum"), (4, u "<init>"), (1, .fieldref 1 36), (0, .nameAndType 37 38), (0, u "waiting"), (0, u "Z"), (0, .class_ 40), (0, u "java/util/ArrayList"), (0, .methodref 39 42), (0, .nameAndType 33 43), (0, u "()V"), (0, .methodref 1 45), (0, .nameAndType 46 47), (0, u "values"), (0, u "()[Lcom/example/tenacious_courier/tenaciouscourier/model/DeliveryStatus;"), (0, .interfaceMethodref 49 50), (0, .class_ 51), (0, .nameAndType 52 53), (0, u "java/util/List"), (0, u "add"), (0, u "(Ljava/lang/Object;)Z"), (10, .class_ 65), (0, u "com/example/tenacious_courier/tenaciouscourier/model/WireNamed"), (6, u "()Z"), (0, u "allWaiting"), (0, u "()Ljava/util/List;")] 6

def k7c0 : Code := { maxStack := 1, maxLocals := 0, code := prog_16_method_1_code, exceptionTable := #[], attributes := #[] }
def k7m0 : Method := { name := "values", desc := "()[Lcom/example/tenacious_courier/tenaciouscourier/model/DeliveryStatus;", sig := { parameters := [], returnType := some (.array (.object "com/example/tenacious_courier/tenaciouscourier/model/DeliveryStatus")) }, accessFlags := 9, code := some k7c0 }
def k7c1 : Code := { maxStack := 1, maxLocals := 1, code := prog_16_method_4_code, exceptionTable := #[], attributes := #[] }
def k7m1 : Method := { name := "waiting", desc := "()Z", sig := { parameters := [], returnType := some .boolean }, accessFlags := 1, code := some k7c1 }
def k7c2 : Code := { maxStack := 2, maxLocals := 5, code := prog_16_method_5_code, exceptionTable := #[], attributes := #[] }
def k7m2 : Method := { name := "allWaiting", desc := "()Ljava/util/List;", sig := { parameters := [], returnType := some (.object "java/util/List") }, accessFlags := 9, code := some k7c2 }
/-- com/example/tenacious_courier/tenaciouscourier/model/DeliveryStatus -/
def k7 : Class := { plain "com/example/tenacious_courier/tenaciouscourier/model/DeliveryStatus" (some 5) with
  accessFlags := 16433
  interfaces := #[6]
  cf := some (fileOf pool7 1 #[] #[{ accessFlags := 9, nameIndex := 46, descriptorIndex := 47, attributes := #[] }, { accessFlags := 1, nameIndex := 37, descriptorIndex := 72, attributes := #[] }, { accessFlags := 9, nameIndex := 73, descriptorIndex := 74, attributes := #[] }] 16433 26 #[64] #[{ accessFlags := 16409, nameIndex := 5, descriptorIndex := 6, attributes := #[] }, { accessFlags := 16409, nameIndex := 9, descriptorIndex := 6, attributes := #[] }, { accessFlags := 16409, nameIndex := 12, descriptorIndex := 6, attributes := #[] }, { accessFlags := 16409, nameIndex := 15, descriptorIndex := 6, attributes := #[] }, { accessFlags := 18, nameIndex := 37, descriptorIndex := 38, attributes := #[] }, { accessFlags := 4122, nameIndex := 18, descriptorIndex := 19, attributes := #[] }])
  fields := #[{ name := "PENDING", type := (.object "com/example/tenacious_courier/tenaciouscourier/model/DeliveryStatus"), accessFlags := 16409, slot := 0, constantValue := 0 }, { name := "RETRYING", type := (.object "com/example/tenacious_courier/tenaciouscourier/model/DeliveryStatus"), accessFlags := 16409, slot := 1, constantValue := 0 }, { name := "DELIVERED", type := (.object "com/example/tenacious_courier/tenaciouscourier/model/DeliveryStatus"), accessFlags := 16409, slot := 2, constantValue := 0 }, { name := "DEAD", type := (.object "com/example/tenacious_courier/tenaciouscourier/model/DeliveryStatus"), accessFlags := 16409, slot := 3, constantValue := 0 }, { name := "waiting", type := .boolean, accessFlags := 18, slot := 3, constantValue := 0 }, { name := "$VALUES", type := (.array (.object "com/example/tenacious_courier/tenaciouscourier/model/DeliveryStatus")), accessFlags := 4122, slot := 4, constantValue := 0 }]
  methods := #[k7m0, k7m1, k7m2]
  instanceTypes := #[(.object "java/lang/String"), .int, .int, .boolean]
  staticTypes := #[(.object "com/example/tenacious_courier/tenaciouscourier/model/DeliveryStatus"), (.object "com/example/tenacious_courier/tenaciouscourier/model/DeliveryStatus"), (.object "com/example/tenacious_courier/tenaciouscourier/model/DeliveryStatus"), (.object "com/example/tenacious_courier/tenaciouscourier/model/DeliveryStatus"), (.array (.object "com/example/tenacious_courier/tenaciouscourier/model/DeliveryStatus"))]
  resolved := Array.replicate 81 none
  statics := some 0 }

def pool8 : Array CpInfo := pool [(8, .class_ 10), (1, u "java/lang/Iterable"), (24, .class_ 36), (0, u "java/lang/Object")] 25

/-- java/lang/Iterable -/
def k8 : Class := { plain "java/lang/Iterable" (some 0) with
  accessFlags := 1537
  interfaces := #[]
  cf := some (fileOf pool8 8 #[] #[] 1537 35 #[] #[])
  fields := #[]
  methods := #[]
  instanceTypes := #[]
  staticTypes := #[]
  resolved := Array.replicate 62 none
  statics := none }

def pool9 : Array CpInfo := pool [(10, .class_ 12), (1, u "java/util/Collection"), (47, .class_ 61), (0, u "java/lang/Object"), (0, .class_ 63), (0, u "java/lang/Iterable")] 51

/-- java/util/Collection -/
def k9 : Class := { plain "java/util/Collection" (some 0) with
  accessFlags := 1537
  interfaces := #[8]
  cf := some (fileOf pool9 10 #[] #[] 1537 60 #[62] #[])
  fields := #[]
  methods := #[]
  instanceTypes := #[]
  staticTypes := #[]
  resolved := Array.replicate 115 none
  statics := none }

def pool10 : Array CpInfo := pool [(1, .methodref 2 3), (0, .class_ 4), (0, .nameAndType 5 6), (0, u "java/lang/Object"), (0, u "<init>"), (0, u "()V"), (1, .class_ 10), (1, u "java/util/AbstractCollection"), (66, .class_ 78), (0, u "java/util/Collection")] 81

def k10c0 : Code := { maxStack := 1, maxLocals := 1, code := jdk_22_method_1_code, exceptionTable := #[], attributes := #[] }
def k10m0 : Method := { name := "<init>", desc := "()V", sig := { parameters := [], returnType := none }, accessFlags := 4, code := some k10c0 }
/-- java/util/AbstractCollection -/
def k10 : Class := { plain "java/util/AbstractCollection" (some 0) with
  accessFlags := 1057
  interfaces := #[9]
  cf := some (fileOf pool10 8 #[] #[{ accessFlags := 4, nameIndex := 5, descriptorIndex := 6, attributes := #[] }] 1057 2 #[77] #[])
  fields := #[]
  methods := #[k10m0]
  instanceTypes := #[]
  staticTypes := #[]
  resolved := Array.replicate 160 none
  statics := none }

def pool11 : Array CpInfo := pool [(8, .class_ 10), (1, u "java/util/SequencedCollection"), (15, .class_ 27), (0, u "java/lang/Object"), (0, .class_ 29), (0, u "java/util/Collection")] 27

/-- java/util/SequencedCollection -/
def k11 : Class := { plain "java/util/SequencedCollection" (some 0) with
  accessFlags := 1537
  interfaces := #[9]
  cf := some (fileOf pool11 8 #[] #[] 1537 26 #[28] #[])
  fields := #[]
  methods := #[]
  instanceTypes := #[]
  staticTypes := #[]
  resolved := Array.replicate 57 none
  statics := none }

def pool12 : Array CpInfo := pool [(8, .class_ 10), (1, u "java/util/List"), (49, u "add"), (3, u "(Ljava/lang/Object;)Z"), (10, u "get"), (0, u "(I)Ljava/lang/Object;"), (2, u "size"), (0, u "()I"), (22, .class_ 104), (0, u "java/lang/Object"), (15, .class_ 121), (0, u "java/util/SequencedCollection")] 129

def k12m0 : Method := { name := "size", desc := "()I", sig := { parameters := [], returnType := some .int }, accessFlags := 1025, code := none }
def k12m1 : Method := { name := "add", desc := "(Ljava/lang/Object;)Z", sig := { parameters := [(.object "java/lang/Object")], returnType := some .boolean }, accessFlags := 1025, code := none }
def k12m2 : Method := { name := "get", desc := "(I)Ljava/lang/Object;", sig := { parameters := [.int], returnType := some (.object "java/lang/Object") }, accessFlags := 1025, code := none }
/-- java/util/List -/
def k12 : Class := { plain "java/util/List" (some 0) with
  accessFlags := 1537
  interfaces := #[11]
  cf := some (fileOf pool12 8 #[] #[{ accessFlags := 1025, nameIndex := 79, descriptorIndex := 80, attributes := #[] }, { accessFlags := 1025, nameIndex := 60, descriptorIndex := 64, attributes := #[] }, { accessFlags := 1025, nameIndex := 75, descriptorIndex := 76, attributes := #[] }] 1537 103 #[120] #[])
  fields := #[]
  methods := #[k12m0, k12m1, k12m2]
  instanceTypes := #[]
  staticTypes := #[]
  resolved := Array.replicate 251 none
  statics := none }

def pool13 : Array CpInfo := pool [(1, .methodref 2 3), (0, .class_ 4), (0, .nameAndType 5 6), (0, u "java/util/AbstractCollection"), (0, u "<init>"), (0, u "()V"), (0, .fieldref 8 9), (0, .class_ 10), (0, .nameAndType 11 12), (0, u "java/util/AbstractList"), (0, u "modCount"), (0, u "I"), (64, .class_ 78), (0, u "java/util/AbstractList$Itr"), (3, .class_ 83), (0, u "java/util/AbstractList$ListItr"), (9, .class_ 94), (0, u "java/util/AbstractList$RandomAccessSubList"), (3, .class_ 99), (0, u "java/util/AbstractList$SubList"), (33, .class_ 134), (0, u "java/util/List"), (73, .class_ 209), (0, u "java/util/AbstractList$SubList$1"), (0, .class_ 211), (0, u "java/util/AbstractList$RandomAccessSpliterator")] 6

def k13c0 : Code := { maxStack := 2, maxLocals := 1, code := jdk_39_method_1_code, exceptionTable := #[], attributes := #[] }
def k13m0 : Method := { name := "<init>", desc := "()V", sig := { parameters := [], returnType := none }, accessFlags := 4, code := some k13c0 }
/-- java/util/AbstractList -/
def k13 : Class := { plain "java/util/AbstractList" (some 10) with
  accessFlags := 1057
  interfaces := #[12]
  cf := some (fileOf pool13 8 #[.nestMembers #[93, 98, 208, 210, 82, 77]] #[{ accessFlags := 4, nameIndex := 5, descriptorIndex := 6, attributes := #[] }] 1057 2 #[133] #[{ accessFlags := 132, nameIndex := 11, descriptorIndex := 12, attributes := #[] }])
  fields := #[{ name := "modCount", type := .int, accessFlags := 132, slot := 0, constantValue := 0 }]
  methods := #[k13m0]
  instanceTypes := #[.int]
  staticTypes := #[]
  resolved := Array.replicate 218 none
  statics := none }

def pool14 : Array CpInfo := pool [(1, .class_ 2), (0, u "java/util/RandomAccess"), (0, .class_ 4), (0, u "java/lang/Object")] 2

/-- java/util/RandomAccess -/
def k14 : Class := { plain "java/util/RandomAccess" (some 0) with
  accessFlags := 1537
  interfaces := #[]
  cf := some (fileOf pool14 1 #[] #[] 1537 3 #[] #[])
  fields := #[]
  methods := #[]
  instanceTypes := #[]
  staticTypes := #[]
  resolved := Array.replicate 7 none
  statics := none }

def pool15 : Array CpInfo := pool [(1, .class_ 2), (0, u "java/lang/Cloneable"), (0, .class_ 4), (0, u "java/lang/Object")] 2

/-- java/lang/Cloneable -/
def k15 : Class := { plain "java/lang/Cloneable" (some 0) with
  accessFlags := 1537
  interfaces := #[]
  cf := some (fileOf pool15 1 #[] #[] 1537 3 #[] #[])
  fields := #[]
  methods := #[]
  instanceTypes := #[]
  staticTypes := #[]
  resolved := Array.replicate 7 none
  statics := none }

def pool16 : Array CpInfo := pool [(1, .methodref 2 3), (0, .class_ 4), (0, .nameAndType 5 6), (0, u "java/util/AbstractList"), (0, u "<init>"), (0, u "()V"), (0, .class_ 8), (0, u "java/lang/Object"), (0, .fieldref 10 11), (0, .class_ 12), (0, .nameAndType 13 14), (0, u "java/util/ArrayList"), (0, u "elementData"), (0, u "[Ljava/lang/Object;"), (2, u "EMPTY_ELEMENTDATA"), (21, .fieldref 10 40), (0, .nameAndType 41 14), (0, u "DEFAULTCAPACITY_EMPTY_ELEMENTDATA"), (5, u "()[Ljava/lang/Object;"), (0, .fieldref 10 49), (0, .nameAndType 50 51), (0, u "size"), (0, u "I"), (11, .fieldref 10 64), (0, .nameAndType 65 51), (0, u "modCount"), (3, .methodref 10 70), (0, .nameAndType 71 72), (0, u "grow"), (0, u "(I)[Ljava/lang/Object;"), (6, .methodref 80 81), (0, .class_ 82), (0, .nameAndType 83 84), (0, u "java/lang/Math"), (0, u "max"), (0, u "(II)I"), (11, u "(Ljava/lang/Object;)Z"), (21, .methodref 119 120), (0, .class_ 121), (0, .nameAndType 122 84), (0, u "java/util/Objects"), (0, u "checkIndex"), (0, .methodref 10 124), (0, .nameAndType 13 125), (0, u "(I)Ljava/lang/Object;"), (3, .methodref 10 130), (0, .nameAndType 71 47), (0, .methodref 10 132), (0, .nameAndType 133 134), (0, u "add"), (0, u "(Ljava/lang/Object;[Ljava/lang/Object;I)V"), (13, .class_ 149), (0, u "java/util/List"), (36, u "()I"), (75, .class_ 263), (0, u "java/util/ArrayList$ListItr"), (3, .class_ 268), (0, u "java/util/ArrayList$Itr"), (7, .class_ 277), (0, u "java/util/ArrayList$SubList"), (12, .class_ 291), (0, u "java/util/ArrayList$ArrayListSpliterator"), (37, .class_ 330), (0, u "java/util/RandomAccess"), (0, .class_ 332), (0, u "java/lang/Cloneable"), (0, .class_ 334), (0, u "java/io/Serializable"), (0, u "serialVersionUID"), (0, u "J"), (3, u "DEFAULT_CAPACITY"), (40, u "get"), (118, .class_ 501), (0, u "java/util/ArrayList$SubList$2"), (0, .class_ 503), (0, u "java/util/ArrayList$SubList$1")] 5

def k16c0 : Code := { maxStack := 2, maxLocals := 1, code := jdk_38_method_2_code, exceptionTable := #[], attributes := #[] }
def k16m0 : Method := { name := "<init>", desc := "()V", sig := { parameters := [], returnType := none }, accessFlags := 1, code := some k16c0 }
def k16c1 : Code := { maxStack := 4, maxLocals := 4, code := jdk_38_method_6_code, exceptionTable := #[], attributes := #[] }
def k16m1 : Method := { name := "grow", desc := "(I)[Ljava/lang/Object;", sig := { parameters := [.int], returnType := some (.array (.object "java/lang/Object")) }, accessFlags := 2, code := some k16c1 }
def k16c2 : Code := { maxStack := 3, maxLocals := 1, code := jdk_38_method_7_code, exceptionTable := #[], attributes := #[] }
def k16m2 : Method := { name := "grow", desc := "()[Ljava/lang/Object;", sig := { parameters := [], returnType := some (.array (.object "java/lang/Object")) }, accessFlags := 2, code := some k16c2 }
def k16c3 : Code := { maxStack := 1, maxLocals := 1, code := jdk_38_method_8_code, exceptionTable := #[], attributes := #[] }
def k16m3 : Method := { name := "size", desc := "()I", sig := { parameters := [], returnType := some .int }, accessFlags := 1, code := some k16c3 }
def k16c4 : Code := { maxStack := 2, maxLocals := 2, code := jdk_38_method_18_code, exceptionTable := #[], attributes := #[] }
def k16m4 : Method := { name := "elementData", desc := "(I)Ljava/lang/Object;", sig := { parameters := [.int], returnType := some (.object "java/lang/Object") }, accessFlags := 0, code := some k16c4 }
def k16c5 : Code := { maxStack := 2, maxLocals := 2, code := jdk_38_method_20_code, exceptionTable := #[], attributes := #[] }
def k16m5 : Method := { name := "get", desc := "(I)Ljava/lang/Object;", sig := { parameters := [.int], returnType := some (.object "java/lang/Object") }, accessFlags := 1, code := some k16c5 }
def k16c6 : Code := { maxStack := 3, maxLocals := 4, code := jdk_38_method_24_code, exceptionTable := #[], attributes := #[] }
def k16m6 : Method := { name := "add", desc := "(Ljava/lang/Object;[Ljava/lang/Object;I)V", sig := { parameters := [(.object "java/lang/Object"), (.array (.object "java/lang/Object")), .int], returnType := none }, accessFlags := 2, code := some k16c6 }
def k16c7 : Code := { maxStack := 4, maxLocals := 2, code := jdk_38_method_25_code, exceptionTable := #[], attributes := #[] }
def k16m7 : Method := { name := "add", desc := "(Ljava/lang/Object;)Z", sig := { parameters := [(.object "java/lang/Object")], returnType := some .boolean }, accessFlags := 1, code := some k16c7 }
/-- java/util/ArrayList -/
def k16 : Class := { plain "java/util/ArrayList" (some 13) with
  accessFlags := 33
  interfaces := #[12, 14, 15, 4]
  cf := some (fileOf pool16 10 #[.nestMembers #[290, 276, 500, 502, 262, 267]] #[{ accessFlags := 1, nameIndex := 5, descriptorIndex := 6, attributes := #[] }, { accessFlags := 2, nameIndex := 71, descriptorIndex := 72, attributes := #[] }, { accessFlags := 2, nameIndex := 71, descriptorIndex := 47, attributes := #[] }, { accessFlags := 1, nameIndex := 50, descriptorIndex := 186, attributes := #[] }, { accessFlags := 0, nameIndex := 13, descriptorIndex := 125, attributes := #[] }, { accessFlags := 1, nameIndex := 381, descriptorIndex := 125, attributes := #[] }, { accessFlags := 2, nameIndex := 133, descriptorIndex := 134, attributes := #[] }, { accessFlags := 1, nameIndex := 133, descriptorIndex := 96, attributes := #[] }] 33 2 #[148, 329, 331, 333] #[{ accessFlags := 26, nameIndex := 335, descriptorIndex := 336, attributes := #[] }, { accessFlags := 26, nameIndex := 340, descriptorIndex := 51, attributes := #[] }, { accessFlags := 26, nameIndex := 17, descriptorIndex := 14, attributes := #[] }, { accessFlags := 26, nameIndex := 41, descriptorIndex := 14, attributes := #[] }, { accessFlags := 128, nameIndex := 13, descriptorIndex := 14, attributes := #[] }, { accessFlags := 2, nameIndex := 50, descriptorIndex := 51, attributes := #[] }])
  fields := #[{ name := "serialVersionUID", type := .long, accessFlags := 26, slot := 0, constantValue := 0 }, { name := "DEFAULT_CAPACITY", type := .int, accessFlags := 26, slot := 1, constantValue := 0 }, { name := "EMPTY_ELEMENTDATA", type := (.array (.object "java/lang/Object")), accessFlags := 26, slot := 2, constantValue := 0 }, { name := "DEFAULTCAPACITY_EMPTY_ELEMENTDATA", type := (.array (.object "java/lang/Object")), accessFlags := 26, slot := 3, constantValue := 0 }, { name := "elementData", type := (.array (.object "java/lang/Object")), accessFlags := 128, slot := 1, constantValue := 0 }, { name := "size", type := .int, accessFlags := 2, slot := 2, constantValue := 0 }]
  methods := #[k16m0, k16m1, k16m2, k16m3, k16m4, k16m5, k16m6, k16m7]
  instanceTypes := #[.int, (.array (.object "java/lang/Object")), .int]
  staticTypes := #[.long, .int, (.array (.object "java/lang/Object")), (.array (.object "java/lang/Object"))]
  resolved := Array.replicate 509 none
  statics := some 1 }

def pool17 : Array CpInfo := pool [(1, .class_ 2), (0, u "java/lang/Math"), (1, .class_ 6), (1, u "java/lang/Object"), (0, u "<init>"), (0, u "()V"), (89, .class_ 100), (1, u "java/lang/Math$RandomNumberGeneratorHolder"), (71, u "negativeZeroFloatBits"), (0, u "J"), (2, u "negativeZeroDoubleBits"), (21, u "max"), (46, u "$assertionsDisabled"), (0, u "Z"), (88, u "(II)I"), (2, u "twoToTheDoubleScaleDown"), (0, u "D"), (4, u "twoToTheDoubleScaleUp"), (9, u "E"), (3, u "PI"), (2, u "TAU"), (2, u "DEGREES_TO_RADIANS"), (0, u "RADIANS_TO_DEGREES")] 94

def k17m0 : Method := { name := "<init>", desc := "()V", sig := { parameters := [], returnType := none }, accessFlags := 2, code := none }
def k17c1 : Code := { maxStack := 2, maxLocals := 2, code := jdk_29_method_65_code, exceptionTable := #[], attributes := #[] }
def k17m1 : Method := { name := "max", desc := "(II)I", sig := { parameters := [.int, .int], returnType := some .int }, accessFlags := 9, code := some k17c1 }
/-- java/lang/Math -/
def k17 : Class := { plain "java/lang/Math" (some 0) with
  accessFlags := 49
  interfaces := #[]
  cf := some (fileOf pool17 1 #[.nestMembers #[98]] #[{ accessFlags := 2, nameIndex := 7, descriptorIndex := 8, attributes := #[] }, { accessFlags := 9, nameIndex := 198, descriptorIndex := 335, attributes := #[] }] 49 4 #[] #[{ accessFlags := 25, nameIndex := 354, descriptorIndex := 339, attributes := #[] }, { accessFlags := 25, nameIndex := 358, descriptorIndex := 339, attributes := #[] }, { accessFlags := 25, nameIndex := 361, descriptorIndex := 339, attributes := #[] }, { accessFlags := 26, nameIndex := 364, descriptorIndex := 339, attributes := #[] }, { accessFlags := 26, nameIndex := 365, descriptorIndex := 339, attributes := #[] }, { accessFlags := 26, nameIndex := 172, descriptorIndex := 173, attributes := #[] }, { accessFlags := 26, nameIndex := 176, descriptorIndex := 173, attributes := #[] }, { accessFlags := 8, nameIndex := 344, descriptorIndex := 339, attributes := #[] }, { accessFlags := 8, nameIndex := 338, descriptorIndex := 339, attributes := #[] }, { accessFlags := 4120, nameIndex := 245, descriptorIndex := 246, attributes := #[] }])
  fields := #[{ name := "E", type := .double, accessFlags := 25, slot := 0, constantValue := 0 }, { name := "PI", type := .double, accessFlags := 25, slot := 1, constantValue := 0 }, { name := "TAU", type := .double, accessFlags := 25, slot := 2, constantValue := 0 }, { name := "DEGREES_TO_RADIANS", type := .double, accessFlags := 26, slot := 3, constantValue := 0 }, { name := "RADIANS_TO_DEGREES", type := .double, accessFlags := 26, slot := 4, constantValue := 0 }, { name := "negativeZeroFloatBits", type := .long, accessFlags := 26, slot := 5, constantValue := 0 }, { name := "negativeZeroDoubleBits", type := .long, accessFlags := 26, slot := 6, constantValue := 0 }, { name := "twoToTheDoubleScaleUp", type := .double, accessFlags := 8, slot := 7, constantValue := 0 }, { name := "twoToTheDoubleScaleDown", type := .double, accessFlags := 8, slot := 8, constantValue := 0 }, { name := "$assertionsDisabled", type := .boolean, accessFlags := 4120, slot := 9, constantValue := 0 }]
  methods := #[k17m0, k17m1]
  instanceTypes := #[]
  staticTypes := #[.double, .double, .double, .double, .double, .long, .long, .double, .double, .boolean]
  resolved := Array.replicate 460 none
  statics := none }

def pool18 : Array CpInfo := pool [(2, .class_ 4), (1, u "java/lang/Object"), (0, u "<init>"), (0, u "()V"), (35, .class_ 44), (1, u "java/util/Objects"), (60, .methodref 106 107), (0, .class_ 108), (0, .nameAndType 109 110), (0, u "jdk/internal/util/Preconditions"), (0, u "checkIndex"), (0, u "(IILjava/util/function/BiFunction;)I"), (60, u "(II)I")] 12

def k18m0 : Method := { name := "<init>", desc := "()V", sig := { parameters := [], returnType := none }, accessFlags := 2, code := none }
def k18c1 : Code := { maxStack := 3, maxLocals := 2, code := jdk_31_method_17_code, exceptionTable := #[], attributes := #[] }
def k18m1 : Method := { name := "checkIndex", desc := "(II)I", sig := { parameters := [.int, .int], returnType := some .int }, accessFlags := 9, code := some k18c1 }
/-- java/util/Objects -/
def k18 : Class := { plain "java/util/Objects" (some 0) with
  accessFlags := 49
  interfaces := #[]
  cf := some (fileOf pool18 42 #[] #[{ accessFlags := 2, nameIndex := 5, descriptorIndex := 6, attributes := #[] }, { accessFlags := 9, nameIndex := 109, descriptorIndex := 171, attributes := #[] }] 49 2 #[] #[])
  fields := #[]
  methods := #[k18m0, k18m1]
  instanceTypes := #[]
  staticTypes := #[]
  resolved := Array.replicate 184 none
  statics := none }

def pool19 : Array CpInfo := pool [(2, .class_ 4), (1, u "java/lang/Object"), (0, u "<init>"), (0, u "()V"), (17, .class_ 26), (1, u "jdk/internal/util/Preconditions"), (6, u "checkIndex"), (21, .class_ 56), (0, u "jdk/internal/util/Preconditions$4"), (57, .class_ 115), (0, u "jdk/internal/util/Preconditions$1"), (7, u "SIOOBE_FORMATTER"), (0, u "Ljava/util/function/BiFunction;"), (0, .class_ 126), (0, u "jdk/internal/util/Preconditions$2"), (3, u "AIOOBE_FORMATTER"), (0, .class_ 132), (0, u "jdk/internal/util/Preconditions$3"), (3, u "IOOBE_FORMATTER"), (41, u "(IILjava/util/function/BiFunction;)I")] 15

def k19m0 : Method := { name := "<init>", desc := "()V", sig := { parameters := [], returnType := none }, accessFlags := 1, code := none }
def k19c1 : Code := { maxStack := 3, maxLocals := 3, code := jdk_41_method_11_code, exceptionTable := #[], attributes := #[] }
def k19m1 : Method := { name := "checkIndex", desc := "(IILjava/util/function/BiFunction;)I", sig := { parameters := [.int, .int, (.object "java/util/function/BiFunction")], returnType := some .int }, accessFlags := 9, code := some k19c1 }
/-- jdk/internal/util/Preconditions -/
def k19 : Class := { plain "jdk/internal/util/Preconditions" (some 0) with
  accessFlags := 33
  interfaces := #[]
  cf := some (fileOf pool19 24 #[.nestMembers #[55, 131, 125, 114]] #[{ accessFlags := 1, nameIndex := 5, descriptorIndex := 6, attributes := #[] }, { accessFlags := 9, nameIndex := 33, descriptorIndex := 178, attributes := #[] }] 33 2 #[] #[{ accessFlags := 25, nameIndex := 123, descriptorIndex := 124, attributes := #[] }, { accessFlags := 25, nameIndex := 130, descriptorIndex := 124, attributes := #[] }, { accessFlags := 25, nameIndex := 136, descriptorIndex := 124, attributes := #[] }])
  fields := #[{ name := "SIOOBE_FORMATTER", type := (.object "java/util/function/BiFunction"), accessFlags := 25, slot := 0, constantValue := 0 }, { name := "AIOOBE_FORMATTER", type := (.object "java/util/function/BiFunction"), accessFlags := 25, slot := 1, constantValue := 0 }, { name := "IOOBE_FORMATTER", type := (.object "java/util/function/BiFunction"), accessFlags := 25, slot := 2, constantValue := 0 }]
  methods := #[k19m0, k19m1]
  instanceTypes := #[]
  staticTypes := #[(.object "java/util/function/BiFunction"), (.object "java/util/function/BiFunction"), (.object "java/util/function/BiFunction")]
  resolved := Array.replicate 194 none
  statics := none }

/-- the primitive byte -/
def k20 : Class := { plain "byte" none with kind := .primitive 'B', accessFlags := 0x411 }
/-- [B -/
def k21 : Class := { plain "[B" (some 0) with kind := .array 20 .byte, interfaces := #[15, 4], accessFlags := 1041 }

/-- the primitive int -/
def k22 : Class := { plain "int" none with kind := .primitive 'I', accessFlags := 0x411 }
/-- [I -/
def k23 : Class := { plain "[I" (some 0) with kind := .array 22 .int, interfaces := #[15, 4], accessFlags := 1041 }

/-- [Lcom/example/tenacious_courier/tenaciouscourier/model/DeliveryStatus; -/
def k24 : Class := { plain "[Lcom/example/tenacious_courier/tenaciouscourier/model/DeliveryStatus;" (some 0) with kind := .array 7 (.object "com/example/tenacious_courier/tenaciouscourier/model/DeliveryStatus"), interfaces := #[15, 4], accessFlags := 1041 }

/-- [Ljava/lang/Object; -/
def k25 : Class := { plain "[Ljava/lang/Object;" (some 0) with kind := .array 0 (.object "java/lang/Object"), interfaces := #[15, 4], accessFlags := 1041 }

def heap : Heap := #[{ cls := 7, slots := #[.ref 3, .ref 4, .ref 5, .ref 6, .ref 2], vm := .statics 7 },
  { cls := 16, slots := #[.long 0, .int 0, .ref 7, .ref 8], vm := .statics 16 },
  { cls := 24, slots := #[.ref 3, .ref 4, .ref 5, .ref 6], vm := .none },
  { cls := 7, slots := #[.null, .int 0, .int 0, .int 1], vm := .none },
  { cls := 7, slots := #[.null, .int 1, .int 0, .int 1], vm := .none },
  { cls := 7, slots := #[.null, .int 2, .int 0, .int 0], vm := .none },
  { cls := 7, slots := #[.null, .int 3, .int 0, .int 0], vm := .none },
  { cls := 25, slots := #[], vm := .none },
  { cls := 25, slots := #[], vm := .none }]
def classes : Array Class := #[k0, k1, k2, k3, k4, k5, k6, k7, k8, k9, k10, k11, k12, k13, k14, k15, k16, k17, k18, k19, k20, k21, k22, k23, k24, k25]
def interned : List (Array UInt16 × Addr) := []
def slotsUsed : Nat := 29
def theMethod : MethodId := ⟨1, 2⟩
def args0 : Array Value := #[.int 5]
def aboutOver (below : List Frame) : State where
  vm := { classes := classes, interned := interned.toArray }
  heap := heap
  slotsUsed := slotsUsed
  threads := #[{ frames := .invoking theMethod args0 :: below }]
def below0 : List Frame := [.native { method := ⟨0, 0⟩, args := #[] }]
def about1 : State := aboutOver below0
def p0 : Program := .bare "" "" ""
def e0 : Env := launch0.env 0 0 0
theorem w_frames : about1.frames = Frame.invoking theMethod args0 :: below0 := rfl
set_option maxRecDepth 65536 in
theorem w_args : argsFit about1.vm theMethod args0 = true := by decide +kernel
set_option maxRecDepth 65536 in
theorem w_heap : heapFits about1 = true := by decide +kernel
set_option maxRecDepth 65536 in
theorem w_runnable : about1.curStatus? = some .runnable := by decide +kernel
set_option maxRecDepth 65536 in
theorem w_alone : about1.alone = true := by decide +kernel
set_option maxRecDepth 65536 in
theorem w_named : about1.methodNamed? x = some theMethod := by decide +kernel
set_option maxRecDepth 65536 in
theorem w_hears : about1.hears theMethod below0 = true := by decide +kernel
set_option maxRecDepth 65536 in
theorem w_ripe : about1.ripe theMethod args0 below0 = true := by decide +kernel
theorem w_running : about1.status = .running := rfl
set_option maxRecDepth 65536 in
theorem w_room : about1.hasRoom e0.platform room_1 = true :=
  launch0.hasRoom_least _ room_1 (by decide +kernel) (by decide +kernel) (by decide +kernel) (by decide +kernel) (by decide +kernel) (by decide +kernel)
theorem allAtoms_all (ts : List Jvm.Cond) (a : Array Jvm.Value) (st : Jvm.State) : (allAtoms ts).before a st = ts.all (fun c => c.before a st) := by
  induction ts with
  | nil => rfl
  | cons c t ih =>
    show (Jvm.Cond.and c (allAtoms t)).before a st = _
    rw [Jvm.Cond.before_and, ih, List.all_cons]
def words1 : List Jvm.Cond := Jvm.Cond.code x code maxLocals ret :: tables_1
/-- a 'code' word, met by the world's own term for the bytes: nothing is compared byte by byte -/
theorem code_word {y : MethodName} {bytes : ByteArray} {mx : Nat} {rt : Option FieldType} {a : Array Value} {s : State} {m : MethodId} {meth : Method} {c : Code} (h1 : s.methodNamed? y = some m) (h2 : s.vm.method? m = some meth) (h3 : meth.code = some c) (h4 : c.code = bytes)
    (h5 : (c.maxLocals == mx && c.exceptionTable.isEmpty && decide (c.maxStack ≤ mostOperands) && decide (meth.sig.returnType = rt) && !meth.locks && decide (parseMethodDescriptor y.desc = some meth.sig)) = true) : (Jvm.Cond.code y bytes mx rt).before a s = true := by
  simp only [Bool.and_eq_true, beq_iff_eq, Bool.not_eq_true', decide_eq_true_eq] at h5
  obtain ⟨⟨⟨⟨⟨g1, g2⟩, g3⟩, g4⟩, g5⟩, g6⟩ := h5
  simp [Cond.before, Cond.holds, Cond.value, h1, h2, h3, h4, g1, g2, g3, g4, g5, g6]
def isCode : Jvm.Cond → Bool
  | .code _ _ _ _ => true
  | _ => false
theorem all_split {L : List Jvm.Cond} {P : Jvm.Cond → Bool} (h1 : L.all (fun c => isCode c || P c) = true) (h2 : ∀ c ∈ L.filter isCode, P c = true) : L.all P = true := by
  refine List.all_eq_true.mpr fun c hc => ?_
  have h := List.all_eq_true.mp h1 c hc
  rcases Bool.eq_false_or_eq_true (isCode c) with hi | hi
  · exact h2 c (List.mem_filter.mpr ⟨hc, hi⟩)
  · simpa [hi] using h
set_option maxRecDepth 65536 in
theorem w_c0 : (Jvm.Cond.code x code maxLocals ret).before args0 about1 = true := code_word (m := ⟨1, 2⟩) (meth := k1m2) (c := k1c2) (by decide +kernel) rfl rfl rfl (by decide +kernel)
set_option maxRecDepth 65536 in
theorem w_c1 : (Jvm.Cond.code ({ cls := "com/example/tenacious_courier/tenaciouscourier/model/DeliveryStatusAllWaitingPinLaw", name := "pick", desc := "(I)Lcom/example/tenacious_courier/tenaciouscourier/model/DeliveryStatus;" } : Jvm.MethodName) method_2_code (2 : Nat) (Option.some (Jvm.ClassFile.FieldType.object "com/example/tenacious_courier/tenaciouscourier/model/DeliveryStatus"))).before args0 about1 = true := code_word (m := ⟨1, 1⟩) (meth := k1m1) (c := k1c1) (by decide +kernel) rfl rfl rfl (by decide +kernel)
set_option maxRecDepth 65536 in
theorem w_c2 : (Jvm.Cond.code ({ cls := "com/example/tenacious_courier/tenaciouscourier/model/DeliveryStatus", name := "allWaiting", desc := "()Ljava/util/List;" } : Jvm.MethodName) prog_16_method_5_code (5 : Nat) (Option.some (Jvm.ClassFile.FieldType.object "java/util/List"))).before args0 about1 = true := code_word (m := ⟨7, 2⟩) (meth := k7m2) (c := k7c2) (by decide +kernel) rfl rfl rfl (by decide +kernel)
set_option maxRecDepth 65536 in
theorem w_c3 : (Jvm.Cond.code ({ cls := "java/util/ArrayList", name := "<init>", desc := "()V" } : Jvm.MethodName) jdk_38_method_2_code (1 : Nat) (Option.none : Option Jvm.ClassFile.FieldType)).before args0 about1 = true := code_word (m := ⟨16, 0⟩) (meth := k16m0) (c := k16c0) (by decide +kernel) rfl rfl rfl (by decide +kernel)
set_option maxRecDepth 65536 in
theorem w_c4 : (Jvm.Cond.code ({ cls := "java/util/AbstractList", name := "<init>", desc := "()V" } : Jvm.MethodName) jdk_39_method_1_code (1 : Nat) (Option.none : Option Jvm.ClassFile.FieldType)).before args0 about1 = true := code_word (m := ⟨13, 0⟩) (meth := k13m0) (c := k13c0) (by decide +kernel) rfl rfl rfl (by decide +kernel)
set_option maxRecDepth 65536 in
theorem w_c5 : (Jvm.Cond.code ({ cls := "java/util/AbstractCollection", name := "<init>", desc := "()V" } : Jvm.MethodName) jdk_22_method_1_code (1 : Nat) (Option.none : Option Jvm.ClassFile.FieldType)).before args0 about1 = true := code_word (m := ⟨10, 0⟩) (meth := k10m0) (c := k10c0) (by decide +kernel) rfl rfl rfl (by decide +kernel)
set_option maxRecDepth 65536 in
theorem w_c6 : (Jvm.Cond.code ({ cls := "java/lang/Object", name := "<init>", desc := "()V" } : Jvm.MethodName) object_method_1_code (1 : Nat) (Option.none : Option Jvm.ClassFile.FieldType)).before args0 about1 = true := code_word (m := ⟨0, 0⟩) (meth := k0m0) (c := k0c0) (by decide +kernel) rfl rfl rfl (by decide +kernel)
set_option maxRecDepth 65536 in
theorem w_c7 : (Jvm.Cond.code ({ cls := "com/example/tenacious_courier/tenaciouscourier/model/DeliveryStatus", name := "values", desc := "()[Lcom/example/tenacious_courier/tenaciouscourier/model/DeliveryStatus;" } : Jvm.MethodName) prog_16_method_1_code (0 : Nat) (Option.some (Jvm.ClassFile.FieldType.array (Jvm.ClassFile.FieldType.object "com/example/tenacious_courier/tenaciouscourier/model/DeliveryStatus")))).before args0 about1 = true := code_word (m := ⟨7, 0⟩) (meth := k7m0) (c := k7c0) (by decide +kernel) rfl rfl rfl (by decide +kernel)
set_option maxRecDepth 65536 in
theorem w_c8 : (Jvm.Cond.code ({ cls := "java/util/ArrayList", name := "add", desc := "(Ljava/lang/Object;)Z" } : Jvm.MethodName) jdk_38_method_25_code (2 : Nat) (Option.some Jvm.ClassFile.FieldType.boolean)).before args0 about1 = true := code_word (m := ⟨16, 7⟩) (meth := k16m7) (c := k16c7) (by decide +kernel) rfl rfl rfl (by decide +kernel)
set_option maxRecDepth 65536 in
theorem w_c9 : (Jvm.Cond.code ({ cls := "java/util/ArrayList", name := "add", desc := "(Ljava/lang/Object;[Ljava/lang/Object;I)V" } : Jvm.MethodName) jdk_38_method_24_code (4 : Nat) (Option.none : Option Jvm.ClassFile.FieldType)).before args0 about1 = true := code_word (m := ⟨16, 6⟩) (meth := k16m6) (c := k16c6) (by decide +kernel) rfl rfl rfl (by decide +kernel)
set_option maxRecDepth 65536 in
theorem w_c10 : (Jvm.Cond.code ({ cls := "java/util/ArrayList", name := "grow", desc := "()[Ljava/lang/Object;" } : Jvm.MethodName) jdk_38_method_7_code (1 : Nat) (Option.some (Jvm.ClassFile.FieldType.array (Jvm.ClassFile.FieldType.object "java/lang/Object")))).before args0 about1 = true := code_word (m := ⟨16, 2⟩) (meth := k16m2) (c := k16c2) (by decide +kernel) rfl rfl rfl (by decide +kernel)
set_option maxRecDepth 65536 in
theorem w_c11 : (Jvm.Cond.code ({ cls := "java/util/ArrayList", name := "grow", desc := "(I)[Ljava/lang/Object;" } : Jvm.MethodName) jdk_38_method_6_code (4 : Nat) (Option.some (Jvm.ClassFile.FieldType.array (Jvm.ClassFile.FieldType.object "java/lang/Object")))).before args0 about1 = true := code_word (m := ⟨16, 1⟩) (meth := k16m1) (c := k16c1) (by decide +kernel) rfl rfl rfl (by decide +kernel)
set_option maxRecDepth 65536 in
theorem w_c12 : (Jvm.Cond.code ({ cls := "java/lang/Math", name := "max", desc := "(II)I" } : Jvm.MethodName) jdk_29_method_65_code (2 : Nat) (Option.some Jvm.ClassFile.FieldType.int)).before args0 about1 = true := code_word (m := ⟨17, 1⟩) (meth := k17m1) (c := k17c1) (by decide +kernel) rfl rfl rfl (by decide +kernel)
set_option maxRecDepth 65536 in
theorem w_c13 : (Jvm.Cond.code ({ cls := "java/util/ArrayList", name := "size", desc := "()I" } : Jvm.MethodName) jdk_38_method_8_code (1 : Nat) (Option.some Jvm.ClassFile.FieldType.int)).before args0 about1 = true := code_word (m := ⟨16, 3⟩) (meth := k16m3) (c := k16c3) (by decide +kernel) rfl rfl rfl (by decide +kernel)
set_option maxRecDepth 65536 in
theorem w_c14 : (Jvm.Cond.code ({ cls := "java/util/ArrayList", name := "get", desc := "(I)Ljava/lang/Object;" } : Jvm.MethodName) jdk_38_method_20_code (2 : Nat) (Option.some (Jvm.ClassFile.FieldType.object "java/lang/Object"))).before args0 about1 = true := code_word (m := ⟨16, 5⟩) (meth := k16m5) (c := k16c5) (by decide +kernel) rfl rfl rfl (by decide +kernel)
set_option maxRecDepth 65536 in
theorem w_c15 : (Jvm.Cond.code ({ cls := "java/util/Objects", name := "checkIndex", desc := "(II)I" } : Jvm.MethodName) jdk_31_method_17_code (2 : Nat) (Option.some Jvm.ClassFile.FieldType.int)).before args0 about1 = true := code_word (m := ⟨18, 1⟩) (meth := k18m1) (c := k18c1) (by decide +kernel) rfl rfl rfl (by decide +kernel)
set_option maxRecDepth 65536 in
theorem w_c16 : (Jvm.Cond.code ({ cls := "jdk/internal/util/Preconditions", name := "checkIndex", desc := "(IILjava/util/function/BiFunction;)I" } : Jvm.MethodName) jdk_41_method_11_code (3 : Nat) (Option.some Jvm.ClassFile.FieldType.int)).before args0 about1 = true := code_word (m := ⟨19, 1⟩) (meth := k19m1) (c := k19c1) (by decide +kernel) rfl rfl rfl (by decide +kernel)
set_option maxRecDepth 65536 in
theorem w_c17 : (Jvm.Cond.code ({ cls := "java/util/ArrayList", name := "elementData", desc := "(I)Ljava/lang/Object;" } : Jvm.MethodName) jdk_38_method_18_code (2 : Nat) (Option.some (Jvm.ClassFile.FieldType.object "java/lang/Object"))).before args0 about1 = true := code_word (m := ⟨16, 4⟩) (meth := k16m4) (c := k16c4) (by decide +kernel) rfl rfl rfl (by decide +kernel)
set_option maxRecDepth 65536 in
theorem w_c18 : (Jvm.Cond.code ({ cls := "com/example/tenacious_courier/tenaciouscourier/model/DeliveryStatus", name := "waiting", desc := "()Z" } : Jvm.MethodName) prog_16_method_4_code (1 : Nat) (Option.some Jvm.ClassFile.FieldType.boolean)).before args0 about1 = true := code_word (m := ⟨7, 1⟩) (meth := k7m1) (c := k7c1) (by decide +kernel) rfl rfl rfl (by decide +kernel)
def codes1 : List Jvm.Cond := [Jvm.Cond.code x code maxLocals ret, Jvm.Cond.code ({ cls := "com/example/tenacious_courier/tenaciouscourier/model/DeliveryStatusAllWaitingPinLaw", name := "pick", desc := "(I)Lcom/example/tenacious_courier/tenaciouscourier/model/DeliveryStatus;" } : Jvm.MethodName) method_2_code (2 : Nat) (Option.some (Jvm.ClassFile.FieldType.object "com/example/tenacious_courier/tenaciouscourier/model/DeliveryStatus")), Jvm.Cond.code ({ cls := "com/example/tenacious_courier/tenaciouscourier/model/DeliveryStatus", name := "allWaiting", desc := "()Ljava/util/List;" } : Jvm.MethodName) prog_16_method_5_code (5 : Nat) (Option.some (Jvm.ClassFile.FieldType.object "java/util/List")), Jvm.Cond.code ({ cls := "java/util/ArrayList", name := "<init>", desc := "()V" } : Jvm.MethodName) jdk_38_method_2_code (1 : Nat) (Option.none : Option Jvm.ClassFile.FieldType), Jvm.Cond.code ({ cls := "java/util/AbstractList", name := "<init>", desc := "()V" } : Jvm.MethodName) jdk_39_method_1_code (1 : Nat) (Option.none : Option Jvm.ClassFile.FieldType), Jvm.Cond.code ({ cls := "java/util/AbstractCollection", name := "<init>", desc := "()V" } : Jvm.MethodName) jdk_22_method_1_code (1 : Nat) (Option.none : Option Jvm.ClassFile.FieldType), Jvm.Cond.code ({ cls := "java/lang/Object", name := "<init>", desc := "()V" } : Jvm.MethodName) object_method_1_code (1 : Nat) (Option.none : Option Jvm.ClassFile.FieldType), Jvm.Cond.code ({ cls := "com/example/tenacious_courier/tenaciouscourier/model/DeliveryStatus", name := "values", desc := "()[Lcom/example/tenacious_courier/tenaciouscourier/model/DeliveryStatus;" } : Jvm.MethodName) prog_16_method_1_code (0 : Nat) (Option.some (Jvm.ClassFile.FieldType.array (Jvm.ClassFile.FieldType.object "com/example/tenacious_courier/tenaciouscourier/model/DeliveryStatus"))), Jvm.Cond.code ({ cls := "java/util/ArrayList", name := "add", desc := "(Ljava/lang/Object;)Z" } : Jvm.MethodName) jdk_38_method_25_code (2 : Nat) (Option.some Jvm.ClassFile.FieldType.boolean), Jvm.Cond.code ({ cls := "java/util/ArrayList", name := "add", desc := "(Ljava/lang/Object;[Ljava/lang/Object;I)V" } : Jvm.MethodName) jdk_38_method_24_code (4 : Nat) (Option.none : Option Jvm.ClassFile.FieldType), Jvm.Cond.code ({ cls := "java/util/ArrayList", name := "grow", desc := "()[Ljava/lang/Object;" } : Jvm.MethodName) jdk_38_method_7_code (1 : Nat) (Option.some (Jvm.ClassFile.FieldType.array (Jvm.ClassFile.FieldType.object "java/lang/Object"))), Jvm.Cond.code ({ cls := "java/util/ArrayList", name := "grow", desc := "(I)[Ljava/lang/Object;" } : Jvm.MethodName) jdk_38_method_6_code (4 : Nat) (Option.some (Jvm.ClassFile.FieldType.array (Jvm.ClassFile.FieldType.object "java/lang/Object"))), Jvm.Cond.code ({ cls := "java/lang/Math", name := "max", desc := "(II)I" } : Jvm.MethodName) jdk_29_method_65_code (2 : Nat) (Option.some Jvm.ClassFile.FieldType.int), Jvm.Cond.code ({ cls := "java/util/ArrayList", name := "size", desc := "()I" } : Jvm.MethodName) jdk_38_method_8_code (1 : Nat) (Option.some Jvm.ClassFile.FieldType.int), Jvm.Cond.code ({ cls := "java/util/ArrayList", name := "get", desc := "(I)Ljava/lang/Object;" } : Jvm.MethodName) jdk_38_method_20_code (2 : Nat) (Option.some (Jvm.ClassFile.FieldType.object "java/lang/Object")), Jvm.Cond.code ({ cls := "java/util/Objects", name := "checkIndex", desc := "(II)I" } : Jvm.MethodName) jdk_31_method_17_code (2 : Nat) (Option.some Jvm.ClassFile.FieldType.int), Jvm.Cond.code ({ cls := "jdk/internal/util/Preconditions", name := "checkIndex", desc := "(IILjava/util/function/BiFunction;)I" } : Jvm.MethodName) jdk_41_method_11_code (3 : Nat) (Option.some Jvm.ClassFile.FieldType.int), Jvm.Cond.code ({ cls := "java/util/ArrayList", name := "elementData", desc := "(I)Ljava/lang/Object;" } : Jvm.MethodName) jdk_38_method_18_code (2 : Nat) (Option.some (Jvm.ClassFile.FieldType.object "java/lang/Object")), Jvm.Cond.code ({ cls := "com/example/tenacious_courier/tenaciouscourier/model/DeliveryStatus", name := "waiting", desc := "()Z" } : Jvm.MethodName) prog_16_method_4_code (1 : Nat) (Option.some Jvm.ClassFile.FieldType.boolean)]
set_option maxRecDepth 65536 in
theorem codes_eq : words1.filter isCode = codes1 := rfl
theorem w_codes : ∀ c ∈ words1.filter isCode, c.before args0 about1 = true := by
  rw [codes_eq]
  intro c hc
  simp only [codes1, List.mem_cons, List.not_mem_nil, or_false] at hc
  rcases hc with rfl | rfl | rfl | rfl | rfl | rfl | rfl | rfl | rfl | rfl | rfl | rfl | rfl | rfl | rfl | rfl | rfl | rfl | rfl
  · exact w_c0
  · exact w_c1
  · exact w_c2
  · exact w_c3
  · exact w_c4
  · exact w_c5
  · exact w_c6
  · exact w_c7
  · exact w_c8
  · exact w_c9
  · exact w_c10
  · exact w_c11
  · exact w_c12
  · exact w_c13
  · exact w_c14
  · exact w_c15
  · exact w_c16
  · exact w_c17
  · exact w_c18
set_option maxRecDepth 65536 in
theorem w_t1 : (words1.take 24).all (fun c => isCode c || c.before args0 about1) = true := by decide +kernel
set_option maxRecDepth 65536 in
theorem w_t2 : ((words1.drop 24).take 24).all (fun c => isCode c || c.before args0 about1) = true := by decide +kernel
set_option maxRecDepth 65536 in
theorem w_t3 : (((words1.drop 24).drop 24).take 24).all (fun c => isCode c || c.before args0 about1) = true := by decide +kernel
set_option maxRecDepth 65536 in
theorem w_t4 : ((((words1.drop 24).drop 24).drop 24).take 24).all (fun c => isCode c || c.before args0 about1) = true := by decide +kernel
set_option maxRecDepth 65536 in
theorem w_t5 : (((((words1.drop 24).drop 24).drop 24).drop 24).take 24).all (fun c => isCode c || c.before args0 about1) = true := by decide +kernel
set_option maxRecDepth 65536 in
theorem w_t6 : (((((words1.drop 24).drop 24).drop 24).drop 24).drop 24).all (fun c => isCode c || c.before args0 about1) = true := by decide +kernel
theorem w_tables : (allAtoms (Jvm.Cond.code x code maxLocals ret :: tables_1)).before args0 about1 = true := by
  rw [allAtoms_all]
  show words1.all (fun c => c.before args0 about1) = true
  refine all_split ?_ w_codes
  rw [← List.take_append_drop 24 words1, List.all_append, w_t1, ← List.take_append_drop 24 (words1.drop 24), List.all_append, w_t2, ← List.take_append_drop 24 ((words1.drop 24).drop 24), List.all_append, w_t3, ← List.take_append_drop 24 (((words1.drop 24).drop 24).drop 24), List.all_append, w_t4, ← List.take_append_drop 24 ((((words1.drop 24).drop 24).drop 24).drop 24), List.all_append, w_t5, w_t6]
  rfl
set_option maxRecDepth 65536 in
theorem w_rest : rest_1_c.before args0 about1 = true := by decide +kernel
set_option maxRecDepth 65536 in
theorem w_case : (Jvm.Cond.and given_1 narrow_1).before args0 about1 = true := by decide +kernel
theorem w_applies : (headSpec (Jvm.Cond.code x code maxLocals ret :: tables_1) room_1).applies x e0.platform about1 = true :=
  (Spec.applies_iff w_frames).mpr ⟨w_running, w_runnable, w_alone, w_named, w_hears, w_ripe, w_room, w_tables⟩
theorem atStart : AtStart classFile x code maxLocals ret World_1 tables_1 room_1 Calls_1 rest_1 Pre_1 launch0 p0 e0 about1 theMethod args0 below0 :=
  ⟨lists_1, trivial, launch0.admits_env _ _ _, launch0.least_env, fairChoices_fair.cas, fairChoices_fair.clock, w_frames, w_args, w_heap, w_applies, trivial, w_rest, w_case⟩
end start1
theorem witness_1 : WitnessClaimed_1 := ⟨start1.p0, start1.e0, start1.about1, start1.theMethod, start1.args0, start1.below0, start1.atStart⟩
end Jvm.Pilot.@@N@@
