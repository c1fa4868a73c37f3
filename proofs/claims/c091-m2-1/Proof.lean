import JvmDerived
import JvmDerived.Pilot.@@N@@Statement
import JvmDerived.Pilot.@@N@@Code
set_option linter.unusedVariables false
set_option linter.unusedSimpArgs false
namespace Jvm.RoadKit
open Sem ClassFile Op Lib Jvm.Stand Jvm.Free Jvm.LawKit
section New
variable {p : Program} {l : Launch} {e : Env} {R : Room} {s : State} {m : MethodId} {args : Array Value} {below : List Frame} {meth : Method} {c : Code} {T : State} {locs : List Loc} {cells slots : Nat}
theorem retI (X : Stand p l e R s m args below meth c T locs cells slots) (hx : p.tables.exec = Jvm.exec) {pc : Nat} {Ls : Array Slot} {z : Int32} {rest : List Value} (hret : meth.sig.returnType = some .int) (hd : decode c.code pc = .ok (.ireturn, 1)) {fs : List Frame}
    (hl : ∀ (f : JFrame) (acts : List Action), f.method = m → f.locked = none → f.entered = [] → (doReturn e (T.setTop f) acts (some (.int z))).1 = T.setFrames fs) : Steps p.tables e below (T.setTop (mkF m pc Ls (.int z :: rest))) (T.setFrames fs) := by
  have hm' : T.vm.method? m = some meth := X.method'
  have hn : narrow .int (.int z) = .int z := rfl
  show Steps p.tables e below (T.setTop { method := m, pc := pc, locals := Ls, stack := _ :: rest, locked := none }) _
  jvm_step X.here [X.here.top, hx, hd, hm', hret, hn]
  first | (intro acts; rw [hl _ acts rfl rfl rfl]) | rw [hl _ _ rfl rfl rfl]
  exact Steps.refl _
end New
end Jvm.RoadKit
namespace Jvm.Pilot.@@N@@
open Jvm Jvm.ClassFile Sem Op Lib Jvm.Free Jvm.Stand Jvm.LawKit Jvm.RoadKit Bundle Jvm.Pilot.@@N@@.Jvm.D

theorem own_sta {args : Array Value} {Z : State} {C n d K : String} (h : (Jvm.Cond.exactly (Term.static C n d) K).value args Z none Z [] = some true) (hi : (Jvm.Cond.initialized C).before args Z = true) (hl : (Jvm.Cond.laysStatic C n d).before args Z = true) : ∃ a, (Term.static C n d).eval args Z none [] Z = some (.ref a) ∧ Sta Z Z.heap C n d (.ref a) ∧ Exa Z Z.heap a K := by
  obtain ⟨a, ev⟩ := exa_v h
  exact ⟨a, ev, Sta.start ev (Or.inr ⟨hi, hl⟩), Exa.start ev h⟩
theorem own_fint {args : Array Value} {Z : State} {t : Term} {a : Addr} {C n d : String} {z : Int32} (ev : t.eval args Z none [] Z = some (.ref a)) (h : (Jvm.Cond.eq (Term.field t C n d) (Term.int z)).value args Z none Z [] = some true) : Fld Z Z.heap a C n d (.int z) := by
  refine Fld.start ?_
  cases hf : Z.fieldOf? a C n d with
  | none => simp [Cond.value, Term.eval, ev, hf] at h
  | some v => cases v <;> simp [Cond.value, Term.eval, ev, hf] at h ⊢; exact h
theorem own_fnull {args : Array Value} {Z : State} {t : Term} {a : Addr} {C n d : String} (ev : t.eval args Z none [] Z = some (.ref a)) (h : (Jvm.Cond.eq (Term.field t C n d) Term.null).value args Z none Z [] = some true) : Fld Z Z.heap a C n d .null := by
  refine Fld.start ?_
  cases hf : Z.fieldOf? a C n d with
  | none => simp [Cond.value, Term.eval, ev, hf] at h
  | some v => cases v <;> simp [Cond.value, Term.eval, ev, hf] at h ⊢
theorem own_fref {args : Array Value} {Z : State} {t : Term} {a : Addr} {C n d K : String} (ev : t.eval args Z none [] Z = some (.ref a)) (h : (Jvm.Cond.exactly (Term.field t C n d) K).value args Z none Z [] = some true) : ∃ x, Fld Z Z.heap a C n d (.ref x) := by
  obtain ⟨x, hx⟩ := exa_v h
  exact ⟨x, Fld.start ((fld_at ev).symm.trans hx)⟩

theorem own_staK {Z : State} {h h' : Heap} {C n d : String} {v : Value} (S : Sta Z h C n d v) (K : Keep h h' []) : Sta Z h' C n d v := by
  obtain ⟨cf, i, k, f, st, cell, h1, h2, h3, h4, h5, r⟩ := S
  exact ⟨cf, i, k, f, st, cell, h1, h2, h3, h4, K.2.1 _ _ h5 nin0, r⟩
def own_Fil (Z : State) (h0 h : Heap) (n0 : Nat) (b : Addr) (ka : ClassId) (C : String) (N : Nat) (W : Nat → Addr) (k : Nat) (locs : List Loc) : Prop :=
  Fr n0 locs ∧ Keep h0 h [] ∧ ∃ cl : Cell, Arr Z h b cl (.object C) ∧ cl.cls = ka ∧ cl.slots.size = N ∧ ∀ j, j < k → cl.slots[j]? = some (.ref (W j))
section Fill
variable {p : Program} {l : Launch} {e : Env} {R : Room} {s : State} {m : MethodId} {args : Array Value} {below : List Frame} {meth : Method} {c : Code} {T : State} {locs : List Loc} {cells slots : Nat} {Z : State} {a0 : Array Value}
theorem own_store (X : Stand p l e R s m args below meth c T locs cells slots) (hx : p.tables.exec = Jvm.exec) (hZ : Z.Warmed39 s.vm) {own C n d : String} {index : Nat} (hown : s.vm.findClass own = some m.cls) {h0 : Heap} {n0 : Nat} {b : Addr} {ka : ClassId} {N k : Nat} {W : Nat → Addr}
    (I : own_Fil Z h0 T.heap n0 b ka C N W k locs) (O : Ovr Z ka C) (q0 : n0 ≤ b) (q1 : h0.size ≤ b) (w : (Jvm.Cond.fieldLink own index C n d).before a0 Z = true) (S : Sta Z h0 C n d (.ref (W k))) (E : Exa Z h0 (W k) C) (hk : k < N) {Ls : Array Slot} {pc : Nat} {i : Int32} (hi : i.toNatClampNeg = k ∧ ¬ i < 0)
    (d3 : decode c.code pc = .ok (.getstatic index, 3)) (d4 : decode c.code (pc + 3) = .ok (.aastore, 1)) :
    ∃ T' locs', Stand p l e R s m args below meth c T' locs' cells slots ∧ own_Fil Z h0 T'.heap n0 b ka C N W (k + 1) locs' ∧ ∀ target, Steps p.tables e below (T'.setTop (mkF m (pc + 3 + 1) Ls [.ref b])) target → Steps p.tables e below (T.setTop (mkF m pc Ls [.int i, .ref b, .ref b])) target := by
  obtain ⟨N0, K, cl, A, hc, hs, hv⟩ := I
  have S' := own_staK S K
  have E' : Exa Z T.heap (W k) C := E.keep K
  obtain ⟨T1, X1, e1, st1⟩ := getS2 X hx hZ hown (host := "") (Or.inl w) Via.refl rfl S' (g := mkF m pc Ls [.int i, .ref b, .ref b]) rfl d3
  have Sto1 : Sto Z T.heap b (.ref (W k)) := Sto.ofV A hc O (Ins.self E')
  obtain ⟨T2, h2, X2, e2, W2, st2⟩ := stR X1 hx hZ e1 A (j := i) (by rw [hi.1, hs]; exact fun q => q.elim hi.2 (fun r => absurd hk (Nat.not_lt.mpr r))) rfl Sto1 (g := mkF m (pc + 3) Ls [.ref (W k), .int i, .ref b, .ref b]) rfl rfl d4
  refine ⟨T2, _, X2, ⟨Fr.snoc X2 N0 q0, by rw [e2]; exact K.wr W2 (Or.inr q1), cl.setSlot i.toNatClampNeg (.ref (W k)), by rw [e2]; exact A.same W2, hc, by rw [sz_set]; exact hs, ?_⟩, fun target h => st1 _ (st2 _ h)⟩
  intro j hj
  rw [hi.1]
  by_cases q : j = k
  · subst q
    simp [Cell.setSlot, hs, hk]
  · have hj' : j < k := by omega
    have := hv j hj'
    simpa [Cell.setSlot, Array.getElem?_setIfInBounds_ne (Ne.symm q)] using this
theorem own_fillC (X : Stand p l e R s m args below meth c T locs cells slots) (hx : p.tables.exec = Jvm.exec) (hZ : Z.Warmed39 s.vm) {own C n d : String} {index : Nat} (hown : s.vm.findClass own = some m.cls) {h0 : Heap} {n0 : Nat} {b : Addr} {ka : ClassId} {N k : Nat} {W : Nat → Addr}
    (I : own_Fil Z h0 T.heap n0 b ka C N W k locs) (O : Ovr Z ka C) (q0 : n0 ≤ b) (q1 : h0.size ≤ b) (w : (Jvm.Cond.fieldLink own index C n d).before a0 Z = true) (S : Sta Z h0 C n d (.ref (W k))) (E : Exa Z h0 (W k) C) (hk : k < N) {Ls : Array Slot} (pc : Nat) {i : Int} (hi : (Int32.ofInt i).toNatClampNeg = k ∧ ¬ Int32.ofInt i < 0)
    (d1 : decode c.code pc = .ok (.dup, 1)) (d2 : decode c.code (pc + 1) = .ok (.iconst i, 1)) (d3 : decode c.code (pc + 2) = .ok (.getstatic index, 3)) (d4 : decode c.code (pc + 5) = .ok (.aastore, 1)) :
    ∃ T' locs', Stand p l e R s m args below meth c T' locs' cells slots ∧ own_Fil Z h0 T'.heap n0 b ka C N W (k + 1) locs' ∧ ∀ target, Steps p.tables e below (T'.setTop (mkF m (pc + 6) Ls [.ref b])) target → Steps p.tables e below (T.setTop (mkF m pc Ls [.ref b])) target := by
  obtain ⟨T', L', X', I', st⟩ := own_store X hx hZ hown I O q0 q1 w S E hk (Ls := Ls) (pc := pc + 2) hi d3 d4
  refine ⟨T', L', X', I', fun target h => ?_⟩
  refine XS.dup X.here hx rfl d1 rfl rfl ?_
  refine XS.iconst X.here hx rfl d2 ?_
  exact st _ h
theorem own_fillB (X : Stand p l e R s m args below meth c T locs cells slots) (hx : p.tables.exec = Jvm.exec) (hZ : Z.Warmed39 s.vm) {own C n d : String} {index : Nat} (hown : s.vm.findClass own = some m.cls) {h0 : Heap} {n0 : Nat} {b : Addr} {ka : ClassId} {N k : Nat} {W : Nat → Addr}
    (I : own_Fil Z h0 T.heap n0 b ka C N W k locs) (O : Ovr Z ka C) (q0 : n0 ≤ b) (q1 : h0.size ≤ b) (w : (Jvm.Cond.fieldLink own index C n d).before a0 Z = true) (S : Sta Z h0 C n d (.ref (W k))) (E : Exa Z h0 (W k) C) (hk : k < N) {Ls : Array Slot} (pc : Nat) {i : Int} (hi : ((Int8.ofInt i).toInt32).toNatClampNeg = k ∧ ¬ (Int8.ofInt i).toInt32 < 0)
    (d1 : decode c.code pc = .ok (.dup, 1)) (d2 : decode c.code (pc + 1) = .ok (.bipush i, 2)) (d3 : decode c.code (pc + 3) = .ok (.getstatic index, 3)) (d4 : decode c.code (pc + 6) = .ok (.aastore, 1)) :
    ∃ T' locs', Stand p l e R s m args below meth c T' locs' cells slots ∧ own_Fil Z h0 T'.heap n0 b ka C N W (k + 1) locs' ∧ ∀ target, Steps p.tables e below (T'.setTop (mkF m (pc + 7) Ls [.ref b])) target → Steps p.tables e below (T.setTop (mkF m pc Ls [.ref b])) target := by
  obtain ⟨T', L', X', I', st⟩ := own_store X hx hZ hown I O q0 q1 w S E hk (Ls := Ls) (pc := pc + 3) hi d3 d4
  refine ⟨T', L', X', I', fun target h => ?_⟩
  refine XS.dup X.here hx rfl d1 rfl rfl ?_
  refine XS.bipush X.here hx rfl d2 ?_
  exact st _ h
end Fill

def own_FilZ (Z : State) (h0 h : Heap) (n0 : Nat) (b : Addr) (N : Nat) (B : Nat → Int32) (k : Nat) (locs : List Loc) : Prop :=
  Fr n0 locs ∧ Keep h0 h [] ∧ ∃ cl : Cell, Arr Z h b cl .boolean ∧ cl.slots.size = N ∧ ∀ j, j < k → cl.slots[j]? = some (.int (B j))
section FillZ
variable {p : Program} {l : Launch} {e : Env} {R : Room} {s : State} {m : MethodId} {args : Array Value} {below : List Frame} {meth : Method} {c : Code} {T : State} {locs : List Loc} {cells slots : Nat} {Z : State} {a0 : Array Value}
theorem own_storeZ (X : Stand p l e R s m args below meth c T locs cells slots) (hx : p.tables.exec = Jvm.exec) (hZ : Z.Warmed39 s.vm) {h0 : Heap} {n0 : Nat} {b : Addr} {N k : Nat} {B : Nat → Int32}
    (I : own_FilZ Z h0 T.heap n0 b N B k locs) (q0 : n0 ≤ b) (q1 : h0.size ≤ b) (hk : k < N) {Ls : Array Slot} {pc : Nat} {i v : Int32} (hi : i.toNatClampNeg = k ∧ ¬ i < 0) (hv : nar .boolean v = B k)
    (d4 : decode c.code pc = .ok (.bastore, 1)) :
    ∃ T' locs', Stand p l e R s m args below meth c T' locs' cells slots ∧ own_FilZ Z h0 T'.heap n0 b N B (k + 1) locs' ∧ ∀ target, Steps p.tables e below (T'.setTop (mkF m (pc + 1) Ls [.ref b])) target → Steps p.tables e below (T.setTop (mkF m pc Ls [.int v, .int i, .ref b, .ref b])) target := by
  obtain ⟨N0, K, cl, A, hs, hvs⟩ := I
  obtain ⟨T2, h2, X2, e2, W2, st2⟩ := stZ X hx hZ rfl A (j := i) (x := v) (by rw [hi.1, hs]; exact fun q => q.elim hi.2 (fun r => absurd hk (Nat.not_lt.mpr r))) (g := mkF m pc Ls [.int v, .int i, .ref b, .ref b]) rfl rfl d4
  refine ⟨T2, _, X2, ⟨Fr.snoc X2 N0 q0, by rw [e2]; exact K.wr W2 (Or.inr q1), cl.setSlot i.toNatClampNeg (.int (nar .boolean v)), by rw [e2]; exact A.same W2, by rw [sz_set]; exact hs, ?_⟩, fun target h => st2 _ h⟩
  intro j hj
  rw [hi.1, hv]
  by_cases q : j = k
  · subst q
    simp [Cell.setSlot, hs, hk]
  · have hj' : j < k := by omega
    have := hvs j hj'
    simpa [Cell.setSlot, Array.getElem?_setIfInBounds_ne (Ne.symm q)] using this
theorem own_fillZC (X : Stand p l e R s m args below meth c T locs cells slots) (hx : p.tables.exec = Jvm.exec) (hZ : Z.Warmed39 s.vm) {h0 : Heap} {n0 : Nat} {b : Addr} {N k : Nat} {B : Nat → Int32}
    (I : own_FilZ Z h0 T.heap n0 b N B k locs) (q0 : n0 ≤ b) (q1 : h0.size ≤ b) (hk : k < N) {Ls : Array Slot} (pc : Nat) {i v : Int} (hi : (Int32.ofInt i).toNatClampNeg = k ∧ ¬ (Int32.ofInt i) < 0) (hv : nar .boolean (Int32.ofInt v) = B k)
    (d1 : decode c.code pc = .ok (.dup, 1)) (d2 : decode c.code (pc + 1) = .ok (.iconst i, 1)) (d3 : decode c.code (pc + 2) = .ok (.iconst v, 1)) (d4 : decode c.code (pc + 3) = .ok (.bastore, 1)) :
    ∃ T' locs', Stand p l e R s m args below meth c T' locs' cells slots ∧ own_FilZ Z h0 T'.heap n0 b N B (k + 1) locs' ∧ ∀ target, Steps p.tables e below (T'.setTop (mkF m (pc + 4) Ls [.ref b])) target → Steps p.tables e below (T.setTop (mkF m pc Ls [.ref b])) target := by
  obtain ⟨T', L', X', I', st⟩ := own_storeZ X hx hZ I q0 q1 hk (Ls := Ls) (pc := pc + 3) hi hv d4
  refine ⟨T', L', X', I', fun target h => ?_⟩
  refine XS.dup X.here hx rfl d1 rfl rfl ?_
  refine XS.iconst X.here hx rfl d2 ?_
  refine XS.iconst X.here hx rfl d3 ?_
  exact st _ h
theorem own_fillZB (X : Stand p l e R s m args below meth c T locs cells slots) (hx : p.tables.exec = Jvm.exec) (hZ : Z.Warmed39 s.vm) {h0 : Heap} {n0 : Nat} {b : Addr} {N k : Nat} {B : Nat → Int32}
    (I : own_FilZ Z h0 T.heap n0 b N B k locs) (q0 : n0 ≤ b) (q1 : h0.size ≤ b) (hk : k < N) {Ls : Array Slot} (pc : Nat) {i v : Int} (hi : ((Int8.ofInt i).toInt32).toNatClampNeg = k ∧ ¬ (Int8.ofInt i).toInt32 < 0) (hv : nar .boolean (Int32.ofInt v) = B k)
    (d1 : decode c.code pc = .ok (.dup, 1)) (d2 : decode c.code (pc + 1) = .ok (.bipush i, 2)) (d3 : decode c.code (pc + 3) = .ok (.iconst v, 1)) (d4 : decode c.code (pc + 4) = .ok (.bastore, 1)) :
    ∃ T' locs', Stand p l e R s m args below meth c T' locs' cells slots ∧ own_FilZ Z h0 T'.heap n0 b N B (k + 1) locs' ∧ ∀ target, Steps p.tables e below (T'.setTop (mkF m (pc + 5) Ls [.ref b])) target → Steps p.tables e below (T.setTop (mkF m pc Ls [.ref b])) target := by
  obtain ⟨T', L', X', I', st⟩ := own_storeZ X hx hZ I q0 q1 hk (Ls := Ls) (pc := pc + 4) hi hv d4
  refine ⟨T', L', X', I', fun target h => ?_⟩
  refine XS.dup X.here hx rfl d1 rfl rfl ?_
  refine XS.bipush X.here hx rfl d2 ?_
  refine XS.iconst X.here hx rfl d3 ?_
  exact st _ h
end FillZ
def own_nm (k : Nat) : String := ["TRADES", "BUCKETS", "CRIF", "REPORT", "SENSITIVITIES", "FORMAT", "METHOD", "PATHS", "SEED", "REPEAT", "MARKET", "CORRELATIONS", "COUNTERPARTIES", "RATE", "DATES", "CONFIDENCE"].getD k ""
def own_op (k : Nat) : Int32 := [0, 0, 0, 1, 0, 0, 0, 0, 0, 0, 0, 1, 0, 0, 0, 0].getD k 0
def own_bv (k : Nat) : Int32 := [1, 1, 1, 0, 0, 0, 0, 0, 0, 0, 1, 0, 1, 1, 1, 0].getD k 0
def own_ty (k : Nat) : Nat := [1, 1, 1, 0, 2, 2, 2, 2, 2, 2, 1, 0, 1, 1, 1, 2].getD k 0
theorem own_t0 : ∀ k, k < 16 → own_ty k = 0 → k = 3 ∨ k = 11 := by decide
theorem own_t1 : ∀ k, k < 16 → own_ty k = 1 → own_op k = 0 ∧ own_bv k = 1 := by decide
theorem own_t2 : ∀ k, k < 16 → own_ty k = 2 → own_op k = 0 ∧ own_bv k = 0 := by decide
theorem own_tt : ∀ k, k < 16 → own_ty k = 0 ∨ own_ty k = 1 ∨ own_ty k = 2 := by decide
theorem own_idx (p : Int32) : ¬ (p &&& (15 : Int32)) < 0 ∧ (p &&& (15 : Int32)).toNatClampNeg < 16 ∧ ((p &&& (15 : Int32)) = 3 ↔ (p &&& (15 : Int32)).toNatClampNeg = 3) ∧ ((p &&& (15 : Int32)) = 11 ↔ (p &&& (15 : Int32)).toNatClampNeg = 11) := by
  have h1 := c_mask p (15 : Int32) 4 (by decide) (by decide)
  have h3 : ¬ (p &&& (15 : Int32)) < 0 := by
    rw [Int32.lt_iff_toInt_lt]
    have : (0 : Int32).toInt = 0 := by decide
    omega
  have h4 := nat_of h3
  refine ⟨h3, by omega, ?_, ?_⟩
  · rw [← Int32.toInt_inj]
    have : (3 : Int32).toInt = 3 := by decide
    omega
  · rw [← Int32.toInt_inj]
    have : (11 : Int32).toInt = 11 := by decide
    omega
set_option maxRecDepth 65536 in
set_option maxHeartbeats 40000000 in
theorem own_filled {p : Program} {l : Launch} {e : Env} {R : Room} {s : State} {m : MethodId} {args : Array Value} {below : List Frame} {meth : Method} {c : Code} {T : State} {locs : List Loc} {cells slots : Nat} {Z : State} {a0 : Array Value}
    (X : Stand p l e R s m args below meth c T locs cells slots) (hx : p.tables.exec = Jvm.exec) (hZ : Z.Warmed39 s.vm) (hown : s.vm.findClass "com/example/gauge/gauge/cli/CommandOptionRequiredPinLaw" = some m.cls) (hby : c.code = code) (hw : ∀ d ∈ tables_1, d.before a0 Z = true) {h0 : Heap} {n0 : Nat} {b : Addr} {ka : ClassId} {W : Nat → Addr} (Ls : Array Slot)
    (I : own_Fil Z h0 T.heap n0 b ka "com/example/gauge/gauge/cli/CommandOption" 16 W 0 locs) (O : Ovr Z ka "com/example/gauge/gauge/cli/CommandOption") (q0 : n0 ≤ b) (q1 : h0.size ≤ b) (S : ∀ k, k < 16 → Sta Z h0 "com/example/gauge/gauge/cli/CommandOption" (own_nm k) "Lcom/example/gauge/gauge/cli/CommandOption;" (.ref (W k))) (E : ∀ k, k < 16 → Exa Z h0 (W k) "com/example/gauge/gauge/cli/CommandOption") :
    ∃ T' locs', Stand p l e R s m args below meth c T' locs' cells slots ∧ own_Fil Z h0 T'.heap n0 b ka "com/example/gauge/gauge/cli/CommandOption" 16 W 16 locs' ∧ ∀ target, Steps p.tables e below (T'.setTop (mkF m 111 Ls [.ref b])) target → Steps p.tables e below (T.setTop (mkF m 5 Ls [.ref b])) target := by
  obtain ⟨T1, L1, X1, I1, st1⟩ := own_fillC X hx hZ hown I O q0 q1 (hw _ (List.mem_of_getElem? (i := 2) rfl)) (S 0 (by decide)) (E 0 (by decide)) (by decide) (Ls := Ls) 5 (by decide) (hb hby at_5) (hb hby at_6) (hb hby at_7) (hb hby at_10)
  obtain ⟨T2, L2, X2, I2, st2⟩ := own_fillC X1 hx hZ hown I1 O q0 q1 (hw _ (List.mem_of_getElem? (i := 6) rfl)) (S 1 (by decide)) (E 1 (by decide)) (by decide) (Ls := Ls) 11 (by decide) (hb hby at_11) (hb hby at_12) (hb hby at_13) (hb hby at_16)
  obtain ⟨T3, L3, X3, I3, st3⟩ := own_fillC X2 hx hZ hown I2 O q0 q1 (hw _ (List.mem_of_getElem? (i := 8) rfl)) (S 2 (by decide)) (E 2 (by decide)) (by decide) (Ls := Ls) 17 (by decide) (hb hby at_17) (hb hby at_18) (hb hby at_19) (hb hby at_22)
  obtain ⟨T4, L4, X4, I4, st4⟩ := own_fillC X3 hx hZ hown I3 O q0 q1 (hw _ (List.mem_of_getElem? (i := 10) rfl)) (S 3 (by decide)) (E 3 (by decide)) (by decide) (Ls := Ls) 23 (by decide) (hb hby at_23) (hb hby at_24) (hb hby at_25) (hb hby at_28)
  obtain ⟨T5, L5, X5, I5, st5⟩ := own_fillC X4 hx hZ hown I4 O q0 q1 (hw _ (List.mem_of_getElem? (i := 12) rfl)) (S 4 (by decide)) (E 4 (by decide)) (by decide) (Ls := Ls) 29 (by decide) (hb hby at_29) (hb hby at_30) (hb hby at_31) (hb hby at_34)
  obtain ⟨T6, L6, X6, I6, st6⟩ := own_fillC X5 hx hZ hown I5 O q0 q1 (hw _ (List.mem_of_getElem? (i := 14) rfl)) (S 5 (by decide)) (E 5 (by decide)) (by decide) (Ls := Ls) 35 (by decide) (hb hby at_35) (hb hby at_36) (hb hby at_37) (hb hby at_40)
  obtain ⟨T7, L7, X7, I7, st7⟩ := own_fillB X6 hx hZ hown I6 O q0 q1 (hw _ (List.mem_of_getElem? (i := 16) rfl)) (S 6 (by decide)) (E 6 (by decide)) (by decide) (Ls := Ls) 41 (by decide) (hb hby at_41) (hb hby at_42) (hb hby at_44) (hb hby at_47)
  obtain ⟨T8, L8, X8, I8, st8⟩ := own_fillB X7 hx hZ hown I7 O q0 q1 (hw _ (List.mem_of_getElem? (i := 18) rfl)) (S 7 (by decide)) (E 7 (by decide)) (by decide) (Ls := Ls) 48 (by decide) (hb hby at_48) (hb hby at_49) (hb hby at_51) (hb hby at_54)
  obtain ⟨T9, L9, X9, I9, st9⟩ := own_fillB X8 hx hZ hown I8 O q0 q1 (hw _ (List.mem_of_getElem? (i := 20) rfl)) (S 8 (by decide)) (E 8 (by decide)) (by decide) (Ls := Ls) 55 (by decide) (hb hby at_55) (hb hby at_56) (hb hby at_58) (hb hby at_61)
  obtain ⟨T10, L10, X10, I10, st10⟩ := own_fillB X9 hx hZ hown I9 O q0 q1 (hw _ (List.mem_of_getElem? (i := 22) rfl)) (S 9 (by decide)) (E 9 (by decide)) (by decide) (Ls := Ls) 62 (by decide) (hb hby at_62) (hb hby at_63) (hb hby at_65) (hb hby at_68)
  obtain ⟨T11, L11, X11, I11, st11⟩ := own_fillB X10 hx hZ hown I10 O q0 q1 (hw _ (List.mem_of_getElem? (i := 24) rfl)) (S 10 (by decide)) (E 10 (by decide)) (by decide) (Ls := Ls) 69 (by decide) (hb hby at_69) (hb hby at_70) (hb hby at_72) (hb hby at_75)
  obtain ⟨T12, L12, X12, I12, st12⟩ := own_fillB X11 hx hZ hown I11 O q0 q1 (hw _ (List.mem_of_getElem? (i := 26) rfl)) (S 11 (by decide)) (E 11 (by decide)) (by decide) (Ls := Ls) 76 (by decide) (hb hby at_76) (hb hby at_77) (hb hby at_79) (hb hby at_82)
  obtain ⟨T13, L13, X13, I13, st13⟩ := own_fillB X12 hx hZ hown I12 O q0 q1 (hw _ (List.mem_of_getElem? (i := 28) rfl)) (S 12 (by decide)) (E 12 (by decide)) (by decide) (Ls := Ls) 83 (by decide) (hb hby at_83) (hb hby at_84) (hb hby at_86) (hb hby at_89)
  obtain ⟨T14, L14, X14, I14, st14⟩ := own_fillB X13 hx hZ hown I13 O q0 q1 (hw _ (List.mem_of_getElem? (i := 30) rfl)) (S 13 (by decide)) (E 13 (by decide)) (by decide) (Ls := Ls) 90 (by decide) (hb hby at_90) (hb hby at_91) (hb hby at_93) (hb hby at_96)
  obtain ⟨T15, L15, X15, I15, st15⟩ := own_fillB X14 hx hZ hown I14 O q0 q1 (hw _ (List.mem_of_getElem? (i := 32) rfl)) (S 14 (by decide)) (E 14 (by decide)) (by decide) (Ls := Ls) 97 (by decide) (hb hby at_97) (hb hby at_98) (hb hby at_100) (hb hby at_103)
  obtain ⟨T16, L16, X16, I16, st16⟩ := own_fillB X15 hx hZ hown I15 O q0 q1 (hw _ (List.mem_of_getElem? (i := 34) rfl)) (S 15 (by decide)) (E 15 (by decide)) (by decide) (Ls := Ls) 104 (by decide) (hb hby at_104) (hb hby at_105) (hb hby at_107) (hb hby at_110)
  refine ⟨T16, L16, X16, I16, fun target h => ?_⟩
  refine st1 _ ?_
  refine st2 _ ?_
  refine st3 _ ?_
  refine st4 _ ?_
  refine st5 _ ?_
  refine st6 _ ?_
  refine st7 _ ?_
  refine st8 _ ?_
  refine st9 _ ?_
  refine st10 _ ?_
  refine st11 _ ?_
  refine st12 _ ?_
  refine st13 _ ?_
  refine st14 _ ?_
  refine st15 _ ?_
  refine st16 _ ?_
  exact h
set_option maxRecDepth 65536 in
set_option maxHeartbeats 40000000 in
theorem own_filledZ {p : Program} {l : Launch} {e : Env} {R : Room} {s : State} {m : MethodId} {args : Array Value} {below : List Frame} {meth : Method} {c : Code} {T : State} {locs : List Loc} {cells slots : Nat} {Z : State}
    (X : Stand p l e R s m args below meth c T locs cells slots) (hx : p.tables.exec = Jvm.exec) (hZ : Z.Warmed39 s.vm) (hby : c.code = code) {h0 : Heap} {n0 : Nat} {b : Addr} (Ls : Array Slot)
    (I : own_FilZ Z h0 T.heap n0 b 16 own_bv 0 locs) (q0 : n0 ≤ b) (q1 : h0.size ≤ b) :
    ∃ T' locs', Stand p l e R s m args below meth c T' locs' cells slots ∧ own_FilZ Z h0 T'.heap n0 b 16 own_bv 16 locs' ∧ ∀ target, Steps p.tables e below (T'.setTop (mkF m 190 Ls [.ref b])) target → Steps p.tables e below (T.setTop (mkF m 116 Ls [.ref b])) target := by
  obtain ⟨T1, L1, X1, I1, st1⟩ := own_fillZC X hx hZ I q0 q1 (by decide) (Ls := Ls) 116 (by decide) (by decide) (hb hby at_116) (hb hby at_117) (hb hby at_118) (hb hby at_119)
  obtain ⟨T2, L2, X2, I2, st2⟩ := own_fillZC X1 hx hZ I1 q0 q1 (by decide) (Ls := Ls) 120 (by decide) (by decide) (hb hby at_120) (hb hby at_121) (hb hby at_122) (hb hby at_123)
  obtain ⟨T3, L3, X3, I3, st3⟩ := own_fillZC X2 hx hZ I2 q0 q1 (by decide) (Ls := Ls) 124 (by decide) (by decide) (hb hby at_124) (hb hby at_125) (hb hby at_126) (hb hby at_127)
  obtain ⟨T4, L4, X4, I4, st4⟩ := own_fillZC X3 hx hZ I3 q0 q1 (by decide) (Ls := Ls) 128 (by decide) (by decide) (hb hby at_128) (hb hby at_129) (hb hby at_130) (hb hby at_131)
  obtain ⟨T5, L5, X5, I5, st5⟩ := own_fillZC X4 hx hZ I4 q0 q1 (by decide) (Ls := Ls) 132 (by decide) (by decide) (hb hby at_132) (hb hby at_133) (hb hby at_134) (hb hby at_135)
  obtain ⟨T6, L6, X6, I6, st6⟩ := own_fillZC X5 hx hZ I5 q0 q1 (by decide) (Ls := Ls) 136 (by decide) (by decide) (hb hby at_136) (hb hby at_137) (hb hby at_138) (hb hby at_139)
  obtain ⟨T7, L7, X7, I7, st7⟩ := own_fillZB X6 hx hZ I6 q0 q1 (by decide) (Ls := Ls) 140 (by decide) (by decide) (hb hby at_140) (hb hby at_141) (hb hby at_143) (hb hby at_144)
  obtain ⟨T8, L8, X8, I8, st8⟩ := own_fillZB X7 hx hZ I7 q0 q1 (by decide) (Ls := Ls) 145 (by decide) (by decide) (hb hby at_145) (hb hby at_146) (hb hby at_148) (hb hby at_149)
  obtain ⟨T9, L9, X9, I9, st9⟩ := own_fillZB X8 hx hZ I8 q0 q1 (by decide) (Ls := Ls) 150 (by decide) (by decide) (hb hby at_150) (hb hby at_151) (hb hby at_153) (hb hby at_154)
  obtain ⟨T10, L10, X10, I10, st10⟩ := own_fillZB X9 hx hZ I9 q0 q1 (by decide) (Ls := Ls) 155 (by decide) (by decide) (hb hby at_155) (hb hby at_156) (hb hby at_158) (hb hby at_159)
  obtain ⟨T11, L11, X11, I11, st11⟩ := own_fillZB X10 hx hZ I10 q0 q1 (by decide) (Ls := Ls) 160 (by decide) (by decide) (hb hby at_160) (hb hby at_161) (hb hby at_163) (hb hby at_164)
  obtain ⟨T12, L12, X12, I12, st12⟩ := own_fillZB X11 hx hZ I11 q0 q1 (by decide) (Ls := Ls) 165 (by decide) (by decide) (hb hby at_165) (hb hby at_166) (hb hby at_168) (hb hby at_169)
  obtain ⟨T13, L13, X13, I13, st13⟩ := own_fillZB X12 hx hZ I12 q0 q1 (by decide) (Ls := Ls) 170 (by decide) (by decide) (hb hby at_170) (hb hby at_171) (hb hby at_173) (hb hby at_174)
  obtain ⟨T14, L14, X14, I14, st14⟩ := own_fillZB X13 hx hZ I13 q0 q1 (by decide) (Ls := Ls) 175 (by decide) (by decide) (hb hby at_175) (hb hby at_176) (hb hby at_178) (hb hby at_179)
  obtain ⟨T15, L15, X15, I15, st15⟩ := own_fillZB X14 hx hZ I14 q0 q1 (by decide) (Ls := Ls) 180 (by decide) (by decide) (hb hby at_180) (hb hby at_181) (hb hby at_183) (hb hby at_184)
  obtain ⟨T16, L16, X16, I16, st16⟩ := own_fillZB X15 hx hZ I15 q0 q1 (by decide) (Ls := Ls) 185 (by decide) (by decide) (hb hby at_185) (hb hby at_186) (hb hby at_188) (hb hby at_189)
  refine ⟨T16, L16, X16, I16, fun target h => ?_⟩
  refine st1 _ ?_
  refine st2 _ ?_
  refine st3 _ ?_
  refine st4 _ ?_
  refine st5 _ ?_
  refine st6 _ ?_
  refine st7 _ ?_
  refine st8 _ ?_
  refine st9 _ ?_
  refine st10 _ ?_
  refine st11 _ ?_
  refine st12 _ ?_
  refine st13 _ ?_
  refine st14 _ ?_
  refine st15 _ ?_
  refine st16 _ ?_
  exact h
theorem d1_0 : decode prog_45_method_9_code 0 = .ok (.aload_n 0, 1) := by decide +kernel
theorem d1_1 : decode prog_45_method_9_code 1 = .ok (.getfield 81, 3) := by decide +kernel
theorem d1_4 : decode prog_45_method_9_code 4 = .ok (.ifCond .ne 14, 3) := by decide +kernel
theorem d1_18 : decode prog_45_method_9_code 18 = .ok (.iconst 0, 1) := by decide +kernel
theorem d1_19 : decode prog_45_method_9_code 19 = .ok (.ireturn, 1) := by decide +kernel
theorem pn_1 : plainName "com/example/gauge/gauge/cli/CommandOption" = true := by first | (simp [plainName, overriddenIn]; done) | decide +kernel
theorem ef_1 (m : MethodId) (x0 : Addr) : entryFrame m #[(.ref x0)] 1 = mkF m 0 #[.val (.ref x0)] [] := by first | (simp [entryFrame, mkF, argsToLocals, Value.category]; done) | rfl
def Q1a (Z : State) (a1 : Addr) (w2 : Int32) (h0 : Heap) (n0 : Nat) (v : Option Value) (h : Heap) (L : List Loc) : Prop := v = some (.int (0 : Int32)) ∧ Fr n0 L ∧ h = h0
set_option maxRecDepth 65536 in
set_option maxHeartbeats 40000000 in
theorem rm1a (l : Launch) (Z : State) (a0 : Array Value) (hw : ∀ d ∈ tables_1, d.before a0 Z = true) (ws : List Jvm.Cond) (a1 : Addr) (w2 : Int32) (h0 : Heap) (n0 : Nat) (Z0 : n0 ≤ h0.size) (F_optional_a1 : Fld Z h0 a1 "com/example/gauge/gauge/cli/CommandOption" "optional" "Z" (.int w2)) (hc4 : ¬ (w2 = (0 : Int32))) :
    MetFree l (⟨"com/example/gauge/gauge/cli/CommandOption", "required", "()Z"⟩ : MethodName) (head1 (Jvm.Cond.code (⟨"com/example/gauge/gauge/cli/CommandOption", "required", "()Z"⟩ : MethodName) prog_45_method_9_code 1 (some .boolean) :: ws) ({ frames := 0, cells := 0, slots := 0, locals := 0 } : Room)) (fun a U => a = #[(.ref a1)] ∧ Z.Warmed39 U.vm ∧ U.heap = h0) (fun _ _ _ _ _ => True) (fun _ U o U' => ∃ v L, o = .returned v ∧ Q1a Z a1 w2 h0 n0 v U'.heap L ∧ FrameEnd U o U' L ({ frames := 0, cells := 0, slots := 0, locals := 0 } : Room).cells ({ frames := 0, cells := 0, slots := 0, locals := 0 } : Room).slots) := by
  refine MetFree.of_bodySF (plainFor_of_name pn_1) hisR ?_
  intro p e s m args below meth c s₁ Bd hml0 hP hK
  obtain ⟨rfl, hZ, hh⟩ := hP
  have hx := Bd.exec
  have hby := Bd.bytes
  have hml : c.maxLocals = 1 := hml0
  have hown : s.vm.findClass "com/example/gauge/gauge/cli/CommandOption" = some m.cls := findClass_of_methodNamed Bd.named
  have hnm := (name_of_methodNamed Bd.named Bd.method).1
  have X0 : Stand p l e ({ frames := 0, cells := 0, slots := 0, locals := 0 } : Room) s m #[(.ref a1)] below meth c s₁ [] 0 0 := Stand.of_body Bd
  have e0 : s₁.heap = h0 := by rw [← hh, Bd.state]; rfl
  have N0 := Fr.nil n0
  have pre0 : ∀ t, Steps p.tables e below (s₁.setTop (mkF m 0 #[.val (.ref a1)] [])) t → Steps p.tables e below (s₁.setTop (entryFrame m #[(.ref a1)] 1)) t := fun t k => castTop (ef_1 m a1) k
  obtain ⟨T3, X3, e3, st3⟩ := getF X0 hx hZ hown (host := "") (Or.inl (hw _ (List.mem_of_getElem? (i := 42) rfl))) Via.refl e0 F_optional_a1 (g := (mkF m 1 #[.val (.ref a1)] [(.ref a1)])) rfl rfl (hb hby d1_1)
  obtain ⟨fs, hr, hrun, hended, hW, hsame⟩ := X3.leave (v := some (.int (0 : Int32))) (fun h => by rw [Bd.returns] at h; cases h)
  refine ⟨_, _, pre0 _ ?_, hrun, hended, _, _, rfl, ?_, ⟨_, rfl⟩, hW, hsame.mono (by decide) (by decide)⟩
  · show Steps p.tables e below (s₁.setTop (mkF m 0 #[.val (.ref a1)] [])) _
    refine XS.aloadN X0.here hx rfl (hb hby d1_0) rfl rfl ?_
    show Steps p.tables e below (s₁.setTop (mkF m 1 #[.val (.ref a1)] [(.ref a1)])) _
    refine st3 _ ?_
    show Steps p.tables e below (T3.setTop (mkF m 4 #[.val (.ref a1)] [(.int w2)])) _
    refine XS.ifYes X3.here hx rfl (pc0 := 4) (pc' := 18) rfl (hb hby d1_4) rfl ((if0 _ _).trans (feq hc4).2) (by decide) (by decide) ?_
    show Steps p.tables e below (T3.setTop (mkF m 18 #[.val (.ref a1)] [])) _
    refine XS.iconst X3.here hx rfl (hb hby d1_18) ?_
    show Steps p.tables e below (T3.setTop (mkF m 19 #[.val (.ref a1)] [(.int (0 : Int32))])) _
    exact retN X3 hx (t := .boolean) Bd.returns (by simp) (hb hby d1_19) hr
  · show Q1a Z a1 w2 h0 n0 _ T3.heap _
    rw [e3]
    exact ⟨rfl, N0, rfl⟩
theorem d1_7 : decode prog_45_method_9_code 7 = .ok (.aload_n 0, 1) := by decide +kernel
theorem d1_8 : decode prog_45_method_9_code 8 = .ok (.getfield 85, 3) := by decide +kernel
theorem d1_11 : decode prog_45_method_9_code 11 = .ok (.ifnonnull 7, 3) := by decide +kernel
def Q1d (Z : State) (a1 : Addr) (w2 : Int32) (w4 : Addr) (h0 : Heap) (n0 : Nat) (v : Option Value) (h : Heap) (L : List Loc) : Prop := v = some (.int (0 : Int32)) ∧ Fr n0 L ∧ h = h0
set_option maxRecDepth 65536 in
set_option maxHeartbeats 40000000 in
theorem rm1d (l : Launch) (Z : State) (a0 : Array Value) (hw : ∀ d ∈ tables_1, d.before a0 Z = true) (ws : List Jvm.Cond) (a1 : Addr) (w2 : Int32) (w4 : Addr) (h0 : Heap) (n0 : Nat) (Z0 : n0 ≤ h0.size) (F_optional_a1 : Fld Z h0 a1 "com/example/gauge/gauge/cli/CommandOption" "optional" "Z" (.int w2)) (F_byDefault_a1 : Fld Z h0 a1 "com/example/gauge/gauge/cli/CommandOption" "byDefault" "Ljava/lang/String;" (.ref w4)) (hc4 : w2 = (0 : Int32)) :
    MetFree l (⟨"com/example/gauge/gauge/cli/CommandOption", "required", "()Z"⟩ : MethodName) (head1 (Jvm.Cond.code (⟨"com/example/gauge/gauge/cli/CommandOption", "required", "()Z"⟩ : MethodName) prog_45_method_9_code 1 (some .boolean) :: ws) ({ frames := 0, cells := 0, slots := 0, locals := 0 } : Room)) (fun a U => a = #[(.ref a1)] ∧ Z.Warmed39 U.vm ∧ U.heap = h0) (fun _ _ _ _ _ => True) (fun _ U o U' => ∃ v L, o = .returned v ∧ Q1d Z a1 w2 w4 h0 n0 v U'.heap L ∧ FrameEnd U o U' L ({ frames := 0, cells := 0, slots := 0, locals := 0 } : Room).cells ({ frames := 0, cells := 0, slots := 0, locals := 0 } : Room).slots) := by
  refine MetFree.of_bodySF (plainFor_of_name pn_1) hisR ?_
  intro p e s m args below meth c s₁ Bd hml0 hP hK
  obtain ⟨rfl, hZ, hh⟩ := hP
  have hx := Bd.exec
  have hby := Bd.bytes
  have hml : c.maxLocals = 1 := hml0
  have hown : s.vm.findClass "com/example/gauge/gauge/cli/CommandOption" = some m.cls := findClass_of_methodNamed Bd.named
  have hnm := (name_of_methodNamed Bd.named Bd.method).1
  have X0 : Stand p l e ({ frames := 0, cells := 0, slots := 0, locals := 0 } : Room) s m #[(.ref a1)] below meth c s₁ [] 0 0 := Stand.of_body Bd
  have e0 : s₁.heap = h0 := by rw [← hh, Bd.state]; rfl
  have N0 := Fr.nil n0
  have pre0 : ∀ t, Steps p.tables e below (s₁.setTop (mkF m 0 #[.val (.ref a1)] [])) t → Steps p.tables e below (s₁.setTop (entryFrame m #[(.ref a1)] 1)) t := fun t k => castTop (ef_1 m a1) k
  obtain ⟨T3, X3, e3, st3⟩ := getF X0 hx hZ hown (host := "") (Or.inl (hw _ (List.mem_of_getElem? (i := 42) rfl))) Via.refl e0 F_optional_a1 (g := (mkF m 1 #[.val (.ref a1)] [(.ref a1)])) rfl rfl (hb hby d1_1)
  obtain ⟨T5, X5, e5, st5⟩ := getF X3 hx hZ hown (host := "") (Or.inl (hw _ (List.mem_of_getElem? (i := 44) rfl))) Via.refl e3 F_byDefault_a1 (g := (mkF m 8 #[.val (.ref a1)] [(.ref a1)])) rfl rfl (hb hby d1_8)
  obtain ⟨fs, hr, hrun, hended, hW, hsame⟩ := X5.leave (v := some (.int (0 : Int32))) (fun h => by rw [Bd.returns] at h; cases h)
  refine ⟨_, _, pre0 _ ?_, hrun, hended, _, _, rfl, ?_, ⟨_, rfl⟩, hW, hsame.mono (by decide) (by decide)⟩
  · show Steps p.tables e below (s₁.setTop (mkF m 0 #[.val (.ref a1)] [])) _
    refine XS.aloadN X0.here hx rfl (hb hby d1_0) rfl rfl ?_
    show Steps p.tables e below (s₁.setTop (mkF m 1 #[.val (.ref a1)] [(.ref a1)])) _
    refine st3 _ ?_
    show Steps p.tables e below (T3.setTop (mkF m 4 #[.val (.ref a1)] [(.int w2)])) _
    refine XS.ifNo X3.here hx rfl (hb hby d1_4) rfl ((if0 _ _).trans (teq hc4).2) ?_
    show Steps p.tables e below (T3.setTop (mkF m 7 #[.val (.ref a1)] [])) _
    refine XS.aloadN X3.here hx rfl (hb hby d1_7) rfl rfl ?_
    show Steps p.tables e below (T3.setTop (mkF m 8 #[.val (.ref a1)] [(.ref a1)])) _
    refine st5 _ ?_
    show Steps p.tables e below (T5.setTop (mkF m 11 #[.val (.ref a1)] [(.ref w4)])) _
    refine XS.ifnonnullYes X5.here hx rfl (pc0 := 11) (pc' := 18) rfl (hb hby d1_11) rfl (by decide) (by decide) ?_
    show Steps p.tables e below (T5.setTop (mkF m 18 #[.val (.ref a1)] [])) _
    refine XS.iconst X5.here hx rfl (hb hby d1_18) ?_
    show Steps p.tables e below (T5.setTop (mkF m 19 #[.val (.ref a1)] [(.int (0 : Int32))])) _
    exact retN X5 hx (t := .boolean) Bd.returns (by simp) (hb hby d1_19) hr
  · show Q1d Z a1 w2 w4 h0 n0 _ T5.heap _
    rw [e5]
    exact ⟨rfl, N0, rfl⟩
theorem d1_14 : decode prog_45_method_9_code 14 = .ok (.iconst 1, 1) := by decide +kernel
theorem d1_15 : decode prog_45_method_9_code 15 = .ok (.goto 4, 3) := by decide +kernel
def Q1c (Z : State) (a1 : Addr) (w2 : Int32) (h0 : Heap) (n0 : Nat) (v : Option Value) (h : Heap) (L : List Loc) : Prop := v = some (.int (1 : Int32)) ∧ Fr n0 L ∧ h = h0
set_option maxRecDepth 65536 in
set_option maxHeartbeats 40000000 in
theorem rm1c (l : Launch) (Z : State) (a0 : Array Value) (hw : ∀ d ∈ tables_1, d.before a0 Z = true) (ws : List Jvm.Cond) (a1 : Addr) (w2 : Int32) (h0 : Heap) (n0 : Nat) (Z0 : n0 ≤ h0.size) (F_optional_a1 : Fld Z h0 a1 "com/example/gauge/gauge/cli/CommandOption" "optional" "Z" (.int w2)) (F_byDefault_a1 : Fld Z h0 a1 "com/example/gauge/gauge/cli/CommandOption" "byDefault" "Ljava/lang/String;" .null) (hc4 : w2 = (0 : Int32)) :
    MetFree l (⟨"com/example/gauge/gauge/cli/CommandOption", "required", "()Z"⟩ : MethodName) (head1 (Jvm.Cond.code (⟨"com/example/gauge/gauge/cli/CommandOption", "required", "()Z"⟩ : MethodName) prog_45_method_9_code 1 (some .boolean) :: ws) ({ frames := 0, cells := 0, slots := 0, locals := 0 } : Room)) (fun a U => a = #[(.ref a1)] ∧ Z.Warmed39 U.vm ∧ U.heap = h0) (fun _ _ _ _ _ => True) (fun _ U o U' => ∃ v L, o = .returned v ∧ Q1c Z a1 w2 h0 n0 v U'.heap L ∧ FrameEnd U o U' L ({ frames := 0, cells := 0, slots := 0, locals := 0 } : Room).cells ({ frames := 0, cells := 0, slots := 0, locals := 0 } : Room).slots) := by
  refine MetFree.of_bodySF (plainFor_of_name pn_1) hisR ?_
  intro p e s m args below meth c s₁ Bd hml0 hP hK
  obtain ⟨rfl, hZ, hh⟩ := hP
  have hx := Bd.exec
  have hby := Bd.bytes
  have hml : c.maxLocals = 1 := hml0
  have hown : s.vm.findClass "com/example/gauge/gauge/cli/CommandOption" = some m.cls := findClass_of_methodNamed Bd.named
  have hnm := (name_of_methodNamed Bd.named Bd.method).1
  have X0 : Stand p l e ({ frames := 0, cells := 0, slots := 0, locals := 0 } : Room) s m #[(.ref a1)] below meth c s₁ [] 0 0 := Stand.of_body Bd
  have e0 : s₁.heap = h0 := by rw [← hh, Bd.state]; rfl
  have N0 := Fr.nil n0
  have pre0 : ∀ t, Steps p.tables e below (s₁.setTop (mkF m 0 #[.val (.ref a1)] [])) t → Steps p.tables e below (s₁.setTop (entryFrame m #[(.ref a1)] 1)) t := fun t k => castTop (ef_1 m a1) k
  obtain ⟨T3, X3, e3, st3⟩ := getF X0 hx hZ hown (host := "") (Or.inl (hw _ (List.mem_of_getElem? (i := 42) rfl))) Via.refl e0 F_optional_a1 (g := (mkF m 1 #[.val (.ref a1)] [(.ref a1)])) rfl rfl (hb hby d1_1)
  obtain ⟨T5, X5, e5, st5⟩ := getF X3 hx hZ hown (host := "") (Or.inl (hw _ (List.mem_of_getElem? (i := 44) rfl))) Via.refl e3 F_byDefault_a1 (g := (mkF m 8 #[.val (.ref a1)] [(.ref a1)])) rfl rfl (hb hby d1_8)
  obtain ⟨fs, hr, hrun, hended, hW, hsame⟩ := X5.leave (v := some (.int (1 : Int32))) (fun h => by rw [Bd.returns] at h; cases h)
  refine ⟨_, _, pre0 _ ?_, hrun, hended, _, _, rfl, ?_, ⟨_, rfl⟩, hW, hsame.mono (by decide) (by decide)⟩
  · show Steps p.tables e below (s₁.setTop (mkF m 0 #[.val (.ref a1)] [])) _
    refine XS.aloadN X0.here hx rfl (hb hby d1_0) rfl rfl ?_
    show Steps p.tables e below (s₁.setTop (mkF m 1 #[.val (.ref a1)] [(.ref a1)])) _
    refine st3 _ ?_
    show Steps p.tables e below (T3.setTop (mkF m 4 #[.val (.ref a1)] [(.int w2)])) _
    refine XS.ifNo X3.here hx rfl (hb hby d1_4) rfl ((if0 _ _).trans (teq hc4).2) ?_
    show Steps p.tables e below (T3.setTop (mkF m 7 #[.val (.ref a1)] [])) _
    refine XS.aloadN X3.here hx rfl (hb hby d1_7) rfl rfl ?_
    show Steps p.tables e below (T3.setTop (mkF m 8 #[.val (.ref a1)] [(.ref a1)])) _
    refine st5 _ ?_
    show Steps p.tables e below (T5.setTop (mkF m 11 #[.val (.ref a1)] [.null])) _
    refine XS.ifnonnullNo X5.here hx rfl (hb hby d1_11) rfl ?_
    show Steps p.tables e below (T5.setTop (mkF m 14 #[.val (.ref a1)] [])) _
    refine XS.iconst X5.here hx rfl (hb hby d1_14) ?_
    show Steps p.tables e below (T5.setTop (mkF m 15 #[.val (.ref a1)] [(.int (1 : Int32))])) _
    refine XS.goto X5.here hx rfl (pc0 := 15) (pc' := 19) rfl (hb hby d1_15) (by decide) (by decide) ?_
    show Steps p.tables e below (T5.setTop (mkF m 19 #[.val (.ref a1)] [(.int (1 : Int32))])) _
    exact retN X5 hx (t := .boolean) Bd.returns (by simp) (hb hby d1_19) hr
  · show Q1c Z a1 w2 h0 n0 _ T5.heap _
    rw [e5]
    exact ⟨rfl, N0, rfl⟩
theorem d2_0 : decode prog_45_method_8_code 0 = .ok (.aload_n 0, 1) := by decide +kernel
theorem d2_1 : decode prog_45_method_8_code 1 = .ok (.getfield 85, 3) := by decide +kernel
theorem d2_4 : decode prog_45_method_8_code 4 = .ok (.areturn, 1) := by decide +kernel
theorem pn_2 : plainName "com/example/gauge/gauge/cli/CommandOption" = true := by first | (simp [plainName, overriddenIn]; done) | decide +kernel
theorem ef_2 (m : MethodId) (x0 : Addr) : entryFrame m #[(.ref x0)] 1 = mkF m 0 #[.val (.ref x0)] [] := by first | (simp [entryFrame, mkF, argsToLocals, Value.category]; done) | rfl
def Q2r (Z : State) (a1 : Addr) (w2 : Addr) (h0 : Heap) (n0 : Nat) (v : Option Value) (h : Heap) (L : List Loc) : Prop := v = some (.ref w2) ∧ Fr n0 L ∧ h = h0
set_option maxRecDepth 65536 in
set_option maxHeartbeats 40000000 in
theorem rm2r (l : Launch) (Z : State) (a0 : Array Value) (hw : ∀ d ∈ tables_1, d.before a0 Z = true) (ws : List Jvm.Cond) (a1 : Addr) (w2 : Addr) (h0 : Heap) (n0 : Nat) (Z0 : n0 ≤ h0.size) (F_byDefault_a1 : Fld Z h0 a1 "com/example/gauge/gauge/cli/CommandOption" "byDefault" "Ljava/lang/String;" (.ref w2)) :
    MetFree l (⟨"com/example/gauge/gauge/cli/CommandOption", "byDefault", "()Ljava/lang/String;"⟩ : MethodName) (head1 (Jvm.Cond.code (⟨"com/example/gauge/gauge/cli/CommandOption", "byDefault", "()Ljava/lang/String;"⟩ : MethodName) prog_45_method_8_code 1 (some (.object "java/lang/String")) :: ws) ({ frames := 0, cells := 0, slots := 0, locals := 0 } : Room)) (fun a U => a = #[(.ref a1)] ∧ Z.Warmed39 U.vm ∧ U.heap = h0) (fun _ _ _ _ _ => True) (fun _ U o U' => ∃ v L, o = .returned v ∧ Q2r Z a1 w2 h0 n0 v U'.heap L ∧ FrameEnd U o U' L ({ frames := 0, cells := 0, slots := 0, locals := 0 } : Room).cells ({ frames := 0, cells := 0, slots := 0, locals := 0 } : Room).slots) := by
  refine MetFree.of_bodySF (plainFor_of_name pn_2) hisR ?_
  intro p e s m args below meth c s₁ Bd hml0 hP hK
  obtain ⟨rfl, hZ, hh⟩ := hP
  have hx := Bd.exec
  have hby := Bd.bytes
  have hml : c.maxLocals = 1 := hml0
  have hown : s.vm.findClass "com/example/gauge/gauge/cli/CommandOption" = some m.cls := findClass_of_methodNamed Bd.named
  have hnm := (name_of_methodNamed Bd.named Bd.method).1
  have X0 : Stand p l e ({ frames := 0, cells := 0, slots := 0, locals := 0 } : Room) s m #[(.ref a1)] below meth c s₁ [] 0 0 := Stand.of_body Bd
  have e0 : s₁.heap = h0 := by rw [← hh, Bd.state]; rfl
  have N0 := Fr.nil n0
  have pre0 : ∀ t, Steps p.tables e below (s₁.setTop (mkF m 0 #[.val (.ref a1)] [])) t → Steps p.tables e below (s₁.setTop (entryFrame m #[(.ref a1)] 1)) t := fun t k => castTop (ef_2 m a1) k
  obtain ⟨T3, X3, e3, st3⟩ := getF X0 hx hZ hown (host := "") (Or.inl (hw _ (List.mem_of_getElem? (i := 44) rfl))) Via.refl e0 F_byDefault_a1 (g := (mkF m 1 #[.val (.ref a1)] [(.ref a1)])) rfl rfl (hb hby d2_1)
  obtain ⟨fs, hr, hrun, hended, hW, hsame⟩ := X3.leave (v := some (.ref w2)) (fun h => by rw [Bd.returns] at h; cases h)
  refine ⟨_, _, pre0 _ ?_, hrun, hended, _, _, rfl, ?_, ⟨_, rfl⟩, hW, hsame.mono (by decide) (by decide)⟩
  · show Steps p.tables e below (s₁.setTop (mkF m 0 #[.val (.ref a1)] [])) _
    refine XS.aloadN X0.here hx rfl (hb hby d2_0) rfl rfl ?_
    show Steps p.tables e below (s₁.setTop (mkF m 1 #[.val (.ref a1)] [(.ref a1)])) _
    refine st3 _ ?_
    show Steps p.tables e below (T3.setTop (mkF m 4 #[.val (.ref a1)] [(.ref w2)])) _
    jvm_step X3.here [X3.here.top, hx, (hb hby d2_4), X3.method', Bd.returns, Value.isRef, FieldType.isReference]
    first | (intro acts; rw [hr _ acts rfl rfl rfl]) | rw [hr _ _ rfl rfl rfl]
    exact Steps.refl _
  · show Q2r Z a1 w2 h0 n0 _ T3.heap _
    rw [e3]
    exact ⟨rfl, N0, rfl⟩
def Q2n (Z : State) (a1 : Addr) (h0 : Heap) (n0 : Nat) (v : Option Value) (h : Heap) (L : List Loc) : Prop := v = some .null ∧ Fr n0 L ∧ h = h0
set_option maxRecDepth 65536 in
set_option maxHeartbeats 40000000 in
theorem rm2n (l : Launch) (Z : State) (a0 : Array Value) (hw : ∀ d ∈ tables_1, d.before a0 Z = true) (ws : List Jvm.Cond) (a1 : Addr) (h0 : Heap) (n0 : Nat) (Z0 : n0 ≤ h0.size) (F_byDefault_a1 : Fld Z h0 a1 "com/example/gauge/gauge/cli/CommandOption" "byDefault" "Ljava/lang/String;" .null) :
    MetFree l (⟨"com/example/gauge/gauge/cli/CommandOption", "byDefault", "()Ljava/lang/String;"⟩ : MethodName) (head1 (Jvm.Cond.code (⟨"com/example/gauge/gauge/cli/CommandOption", "byDefault", "()Ljava/lang/String;"⟩ : MethodName) prog_45_method_8_code 1 (some (.object "java/lang/String")) :: ws) ({ frames := 0, cells := 0, slots := 0, locals := 0 } : Room)) (fun a U => a = #[(.ref a1)] ∧ Z.Warmed39 U.vm ∧ U.heap = h0) (fun _ _ _ _ _ => True) (fun _ U o U' => ∃ v L, o = .returned v ∧ Q2n Z a1 h0 n0 v U'.heap L ∧ FrameEnd U o U' L ({ frames := 0, cells := 0, slots := 0, locals := 0 } : Room).cells ({ frames := 0, cells := 0, slots := 0, locals := 0 } : Room).slots) := by
  refine MetFree.of_bodySF (plainFor_of_name pn_2) hisR ?_
  intro p e s m args below meth c s₁ Bd hml0 hP hK
  obtain ⟨rfl, hZ, hh⟩ := hP
  have hx := Bd.exec
  have hby := Bd.bytes
  have hml : c.maxLocals = 1 := hml0
  have hown : s.vm.findClass "com/example/gauge/gauge/cli/CommandOption" = some m.cls := findClass_of_methodNamed Bd.named
  have hnm := (name_of_methodNamed Bd.named Bd.method).1
  have X0 : Stand p l e ({ frames := 0, cells := 0, slots := 0, locals := 0 } : Room) s m #[(.ref a1)] below meth c s₁ [] 0 0 := Stand.of_body Bd
  have e0 : s₁.heap = h0 := by rw [← hh, Bd.state]; rfl
  have N0 := Fr.nil n0
  have pre0 : ∀ t, Steps p.tables e below (s₁.setTop (mkF m 0 #[.val (.ref a1)] [])) t → Steps p.tables e below (s₁.setTop (entryFrame m #[(.ref a1)] 1)) t := fun t k => castTop (ef_2 m a1) k
  obtain ⟨T3, X3, e3, st3⟩ := getF X0 hx hZ hown (host := "") (Or.inl (hw _ (List.mem_of_getElem? (i := 44) rfl))) Via.refl e0 F_byDefault_a1 (g := (mkF m 1 #[.val (.ref a1)] [(.ref a1)])) rfl rfl (hb hby d2_1)
  obtain ⟨fs, hr, hrun, hended, hW, hsame⟩ := X3.leave (v := some .null) (fun h => by rw [Bd.returns] at h; cases h)
  refine ⟨_, _, pre0 _ ?_, hrun, hended, _, _, rfl, ?_, ⟨_, rfl⟩, hW, hsame.mono (by decide) (by decide)⟩
  · show Steps p.tables e below (s₁.setTop (mkF m 0 #[.val (.ref a1)] [])) _
    refine XS.aloadN X0.here hx rfl (hb hby d2_0) rfl rfl ?_
    show Steps p.tables e below (s₁.setTop (mkF m 1 #[.val (.ref a1)] [(.ref a1)])) _
    refine st3 _ ?_
    show Steps p.tables e below (T3.setTop (mkF m 4 #[.val (.ref a1)] [.null])) _
    jvm_step X3.here [X3.here.top, hx, (hb hby d2_4), X3.method', Bd.returns, Value.isRef, FieldType.isReference]
    first | (intro acts; rw [hr _ acts rfl rfl rfl]) | rw [hr _ _ rfl rfl rfl]
    exact Steps.refl _
  · show Q2n Z a1 h0 n0 _ T3.heap _
    rw [e3]
    exact ⟨rfl, N0, rfl⟩
theorem pn_0 : plainName "com/example/gauge/gauge/cli/CommandOptionRequiredPinLaw" = true := by first | (simp [plainName, overriddenIn]; done) | decide +kernel
theorem pd_0_0 : parseMethodDescriptor "()Z" = some ⟨[], some .boolean⟩ := by decide +kernel
theorem pd_0_1 : parseMethodDescriptor "()Ljava/lang/String;" = some ⟨[], some (.object "java/lang/String")⟩ := by decide +kernel
theorem ef_0 (m : MethodId) (x0 : Int32) : entryFrame m #[(.int x0)] maxLocals = mkF m 0 #[.val (.int x0), .unset, .unset, .unset, .unset, .unset, .unset, .unset] [] := by first | (simp [entryFrame, mkF, argsToLocals, Value.category, maxLocals]; done) | rfl
def Q0a (Z : State) (p1 : Int32) (h0 : Heap) (n0 : Nat) (v : Option Value) (h : Heap) (L : List Loc) : Prop := v = some (.int (1 : Int32)) ∧ Fr n0 L
set_option maxRecDepth 65536 in
set_option maxHeartbeats 40000000 in
theorem rm0a (l : Launch) (Z : State) (a0 : Array Value) (hw : ∀ d ∈ tables_1, d.before a0 Z = true) (ws : List Jvm.Cond) (p1 : Int32) (W : Nat → Addr) (h0 : Heap) (n0 : Nat) (Z0 : n0 ≤ h0.size) (hS : ∀ k, k < 16 → Sta Z h0 "com/example/gauge/gauge/cli/CommandOption" (own_nm k) "Lcom/example/gauge/gauge/cli/CommandOption;" (.ref (W k))) (hE : ∀ k, k < 16 → Exa Z h0 (W k) "com/example/gauge/gauge/cli/CommandOption") (F1 : Fld Z h0 (W ((p1 &&& (15 : Int32))).toNatClampNeg) "com/example/gauge/gauge/cli/CommandOption" "optional" "Z" (.int (1 : Int32))) (F2 : Fld Z h0 (W ((p1 &&& (15 : Int32))).toNatClampNeg) "com/example/gauge/gauge/cli/CommandOption" "byDefault" "Ljava/lang/String;" .null) (hbv : own_bv ((p1 &&& (15 : Int32))).toNatClampNeg = (0 : Int32)) (hc203 : (p1 &&& (15 : Int32)) = (3 : Int32)) :
    MetFree l x (head1 (Jvm.Cond.code x code maxLocals ret :: ws) room_1) (fun a U => a = #[(.int p1)] ∧ Z.Warmed39 U.vm ∧ U.heap = h0) (fun _ _ _ _ _ => True) (fun _ U o U' => ∃ v L, o = .returned v ∧ Q0a Z p1 h0 n0 v U'.heap L ∧ FrameEnd U o U' L room_1.cells room_1.slots) := by
  refine MetFree.of_bodySF (plainFor_of_name pn_0) hisR ?_
  intro p e s m args below meth c s₁ Bd hml0 hP hK
  obtain ⟨rfl, hZ, hh⟩ := hP
  have hx := Bd.exec
  have hby := Bd.bytes
  have hml : c.maxLocals = 8 := hml0
  have hown : s.vm.findClass "com/example/gauge/gauge/cli/CommandOptionRequiredPinLaw" = some m.cls := findClass_of_methodNamed Bd.named
  have hnm := (name_of_methodNamed Bd.named Bd.method).1
  have X0 : Stand p l e room_1 s m #[(.int p1)] below meth c s₁ [] 0 0 := Stand.of_body Bd
  have e0 : s₁.heap = h0 := by rw [← hh, Bd.state]; rfl
  have N0 := Fr.nil n0
  have pre0 : ∀ t, Steps p.tables e below (s₁.setTop (mkF m 0 #[.val (.int p1), .unset, .unset, .unset, .unset, .unset, .unset, .unset] [])) t → Steps p.tables e below (s₁.setTop (entryFrame m #[(.int p1)] maxLocals)) t := fun t k => castTop (ef_0 m p1) k
  obtain ⟨T2, h2, k2, X2, e2, E2, A2, O2, st2⟩ := newR X0 hx hZ hown (hw _ (List.mem_of_getElem? (i := 0) rfl)) (hw _ (List.mem_of_getElem? (i := 1) rfl)) e0 (g := (mkF m 2 #[.val (.int p1), .unset, .unset, .unset, .unset, .unset, .unset, .unset] [(.int (16 : Int32))])) rfl (hb hby at_2) rfl (by decide) (cap := 16) (by decide) (by decide) (by decide) (by decide)
  obtain ⟨b2, g2⟩ : ∃ z, z = h0.size := ⟨_, rfl⟩
  rw [← g2] at A2 st2
  have V_b2 := Arv.new A2 (by decide)
  have g_b2 : n0 ≤ b2 := Nat.le_trans Z0 (Nat.le_of_eq g2.symm)
  have sz_b2 : h0.size ≤ b2 := (Nat.le_trans (Keep.refl h0 []).1 (Nat.le_of_eq g2.symm))
  have K2 : Keep h0 h2 [] := (Keep.refl h0 []).ext E2
  obtain ⟨T50, L50, X50, I50, st50⟩ := own_filled X2 hx hZ hown hby hw (h0 := h0) (n0 := n0) (b := b2) (ka := k2) (W := W) #[.val (.int p1), .unset, .unset, .unset, .unset, .unset, .unset, .unset] (by rw [e2]; exact ⟨N0, K2, _, A2, rfl, (sz_new _ _ _).trans (by decide), fun j hj => absurd hj (Nat.not_lt_zero j)⟩) O2 g_b2 sz_b2 hS hE
  obtain ⟨h50, e50⟩ : ∃ z, T50.heap = z := ⟨_, rfl⟩
  rw [e50] at I50
  obtain ⟨N50, K50, cl, Ar50, hcl, hsz, hvs⟩ := I50
  obtain ⟨T51, h51, k51, X51, e51, E51, A51, st51⟩ := newP X50 hx hZ (hw _ (List.mem_of_getElem? (i := 36) rfl)) e50 (g := (mkF m 114 #[.val (.int p1), .val (.ref b2), .unset, .unset, .unset, .unset, .unset, .unset] [(.int (16 : Int32))])) rfl (hb hby at_114) rfl (by decide) (cap := 16) (by decide) (by decide) (by decide) (by decide)
  obtain ⟨b51, g51⟩ : ∃ z, z = h50.size := ⟨_, rfl⟩
  rw [← g51] at A51 st51
  have g_b51 : n0 ≤ b51 := Nat.le_trans Z0 (Nat.le_trans K50.1 (Nat.le_of_eq g51.symm))
  obtain ⟨T67, L67, X67, I67, st67⟩ := own_filledZ X51 hx hZ hby (h0 := h50) (n0 := n0) (b := b51) #[.val (.int p1), .val (.ref b2), .unset, .unset, .unset, .unset, .unset, .unset] (by rw [e51]; exact ⟨N50, (Keep.refl h50 []).ext E51, _, A51, (sz_new _ _ _).trans (by decide), fun j hj => absurd hj (Nat.not_lt_zero j)⟩) g_b51 (Nat.le_of_eq g51.symm)
  obtain ⟨N67, K67', clz, Ar_b51, hszz, hvz⟩ := I67
  have K67 : Keep h0 T67.heap [] := K50.trans K67' (fun _ q => nomatch q)
  have e67 : T67.heap = T67.heap := rfl
  have Ar_b2 : Arr Z T67.heap b2 cl (.object "com/example/gauge/gauge/cli/CommandOption") := ⟨K67'.2.1 _ _ Ar50.1 nin0, Ar50.2⟩
  obtain ⟨i1, i2, i3, i4⟩ := own_idx p1
  obtain ⟨w68, hw68⟩ : ∃ z, z = W ((p1 &&& (15 : Int32))).toNatClampNeg := ⟨_, rfl⟩
  have hin198 : ¬ ((p1 &&& (15 : Int32)) < 0 ∨ cl.slots.size ≤ ((p1 &&& (15 : Int32))).toNatClampNeg) := by rw [hsz]; exact fun q => q.elim i1 (fun r => absurd i2 (Nat.not_lt.mpr r))
  have hat198 : cl.slots[((p1 &&& (15 : Int32))).toNatClampNeg]? = some (.ref w68) := by rw [hw68]; exact hvs _ i2
  have hin245 : ¬ ((p1 &&& (15 : Int32)) < 0 ∨ clz.slots.size ≤ ((p1 &&& (15 : Int32))).toNatClampNeg) := by rw [hszz]; exact fun q => q.elim i1 (fun r => absurd i2 (Nat.not_lt.mpr r))
  have hat245 : clz.slots[((p1 &&& (15 : Int32))).toNatClampNeg]? = some (.int (0 : Int32)) := by rw [← hbv]; exact hvz _ i2
  have E_w68 : Exa Z T67.heap w68 "com/example/gauge/gauge/cli/CommandOption" := by rw [hw68]; exact (hE _ i2).keep K67
  have F1_w68 : Fld Z T67.heap w68 "com/example/gauge/gauge/cli/CommandOption" "optional" "Z" (.int (1 : Int32)) := by rw [hw68]; exact F1.keep K67 nin0
  have F2_w68 : Fld Z T67.heap w68 "com/example/gauge/gauge/cli/CommandOption" "byDefault" "Ljava/lang/String;" .null := by rw [hw68]; exact F2.keep K67 nin0
  have Z67 : n0 ≤ T67.heap.size := Nat.le_trans Z0 K67.1
  obtain ⟨cq69, kq69, q69a, q69b, q69c⟩ := isOf hZ e67 E_w68
  obtain ⟨_, _, ⟨T69, L69, k69, n69⟩, -, X69, ⟨Lc69, hQ69, l69, y69, z69⟩, st69⟩ := X67.virtualBack hx (y := (⟨"com/example/gauge/gauge/cli/CommandOption", "required", "()Z"⟩ : MethodName)) (z := (⟨"com/example/gauge/gauge/cli/CommandOption", "required", "()Z"⟩ : MethodName)) hown (mvT hZ (hw _ (List.mem_of_getElem? (i := 37) rfl))) (mvT hZ (hw _ (List.mem_of_getElem? (i := 38) rfl))) (notFace_of_selects (args := #[]) (mvT hZ (hw _ (List.mem_of_getElem? (i := 40) rfl)))) (mvT hZ (hw _ (List.mem_of_getElem? (i := 40) rfl))) (mvT hZ (hw _ (List.mem_of_getElem? (i := 39) rfl))) (by decide) (backOf (W := 0) (rm1a l Z a0 hw [] w68 (1 : Int32) T67.heap n0 Z67 F1_w68 (by decide)) hZ (hw _ (List.mem_of_getElem? (i := 41) rfl)) (hw _ (List.mem_of_getElem? (i := 3) rfl)) (by decide) (by decide)) q69a q69c (g := (mkF m 221 #[.val (.int p1), .val (.ref b2), .val (.ref b51), .val (.int (p1 &&& (15 : Int32))), .val (.ref w68), .val (.int (1 : Int32)), .unset, .unset] [(.ref w68)])) rfl (by rw [hml]; rfl) (Steps.refl _) (argsL := []) (rest := []) (lenOf pd_0_0 rfl) rfl (by show 2 * 0 + _ ≤ _; exact Nat.le_of_eq rfl) (hb hby at_221) (fun _ _ => ⟨rfl, e67, (by decide : 2 + 0 ≤ _), (by decide : 32 + 0 ≤ _)⟩)
  dsimp only [Pt.U, Pt.locs, Pt.cells, Pt.slots] at X69 l69 y69 z69 st69 hQ69
  subst l69 y69 z69
  obtain ⟨rfl, N69q, k69q⟩ := hQ69
  have N69 := Fr.app N67 N69q
  obtain ⟨cq70, kq70, q70a, q70b, q70c⟩ := isOf hZ rfl (show Exa Z T69.heap w68 _ by rw [k69q]; exact E_w68)
  obtain ⟨_, _, ⟨T70, L70, k70, n70⟩, -, X70, ⟨Lc70, hQ70, l70, y70, z70⟩, st70⟩ := X69.virtualBack hx (y := (⟨"com/example/gauge/gauge/cli/CommandOption", "byDefault", "()Ljava/lang/String;"⟩ : MethodName)) (z := (⟨"com/example/gauge/gauge/cli/CommandOption", "byDefault", "()Ljava/lang/String;"⟩ : MethodName)) hown (mvT hZ (hw _ (List.mem_of_getElem? (i := 46) rfl))) (mvT hZ (hw _ (List.mem_of_getElem? (i := 47) rfl))) (notFace_of_selects (args := #[]) (mvT hZ (hw _ (List.mem_of_getElem? (i := 49) rfl)))) (mvT hZ (hw _ (List.mem_of_getElem? (i := 49) rfl))) (mvT hZ (hw _ (List.mem_of_getElem? (i := 48) rfl))) (by decide) (backOf (W := 0) (rm2n l Z a0 hw [] w68 T69.heap n0 (by rw [k69q]; exact Z67) (by rw [k69q]; exact F2_w68)) hZ (hw _ (List.mem_of_getElem? (i := 50) rfl)) (hw _ (List.mem_of_getElem? (i := 3) rfl)) (by decide) (by decide)) q70a q70c (g := (mkF m 228 #[.val (.int p1), .val (.ref b2), .val (.ref b51), .val (.int (p1 &&& (15 : Int32))), .val (.ref w68), .val (.int (1 : Int32)), .val (.int (0 : Int32)), .unset] [(.ref w68)])) rfl (by rw [hml]; rfl) (Steps.refl _) (argsL := []) (rest := []) (lenOf pd_0_1 rfl) rfl (by show 2 * 0 + _ ≤ _; exact Nat.le_of_eq rfl) (hb hby at_228) (fun _ _ => ⟨rfl, rfl, (by decide : 2 + 0 ≤ _), (by decide : 32 + 0 ≤ _)⟩)
  dsimp only [Pt.U, Pt.locs, Pt.cells, Pt.slots] at X70 l70 y70 z70 st70 hQ70
  subst l70 y70 z70
  obtain ⟨rfl, N70q, k70q⟩ := hQ70
  have N70 := Fr.app N69 N70q
  obtain ⟨fs, hr, hrun, hended, hW, hsame⟩ := X70.leave (v := some (.int (1 : Int32))) (fun h => by rw [Bd.returns] at h; cases h)
  refine ⟨_, _, pre0 _ ?_, hrun, hended, _, _, rfl, ?_, ⟨_, rfl⟩, hW, hsame.mono (by decide) (by decide)⟩
  · show Steps p.tables e below (s₁.setTop (mkF m 0 #[.val (.int p1), .unset, .unset, .unset, .unset, .unset, .unset, .unset] [])) _
    refine XS.bipush X0.here hx rfl (hb hby at_0) ?_
    show Steps p.tables e below (s₁.setTop (mkF m 2 #[.val (.int p1), .unset, .unset, .unset, .unset, .unset, .unset, .unset] [(.int (16 : Int32))])) _
    refine st2 _ ?_
    show Steps p.tables e below (T2.setTop (mkF m 5 #[.val (.int p1), .unset, .unset, .unset, .unset, .unset, .unset, .unset] [(.ref b2)])) _
    refine st50 _ ?_
    show Steps p.tables e below (T50.setTop (mkF m 111 #[.val (.int p1), .unset, .unset, .unset, .unset, .unset, .unset, .unset] [(.ref b2)])) _
    refine XS.astoreN X50.here hx rfl (hb hby at_111) rfl rfl (l' := #[.val (.int p1), .val (.ref b2), .unset, .unset, .unset, .unset, .unset, .unset]) rfl ?_
    show Steps p.tables e below (T50.setTop (mkF m 112 #[.val (.int p1), .val (.ref b2), .unset, .unset, .unset, .unset, .unset, .unset] [])) _
    refine XS.bipush X50.here hx rfl (hb hby at_112) ?_
    show Steps p.tables e below (T50.setTop (mkF m 114 #[.val (.int p1), .val (.ref b2), .unset, .unset, .unset, .unset, .unset, .unset] [(.int (16 : Int32))])) _
    refine st51 _ ?_
    show Steps p.tables e below (T51.setTop (mkF m 116 #[.val (.int p1), .val (.ref b2), .unset, .unset, .unset, .unset, .unset, .unset] [(.ref b51)])) _
    refine st67 _ ?_
    show Steps p.tables e below (T67.setTop (mkF m 190 #[.val (.int p1), .val (.ref b2), .unset, .unset, .unset, .unset, .unset, .unset] [(.ref b51)])) _
    refine XS.astoreN X67.here hx rfl (hb hby at_190) rfl rfl (l' := #[.val (.int p1), .val (.ref b2), .val (.ref b51), .unset, .unset, .unset, .unset, .unset]) rfl ?_
    show Steps p.tables e below (T67.setTop (mkF m 191 #[.val (.int p1), .val (.ref b2), .val (.ref b51), .unset, .unset, .unset, .unset, .unset] [])) _
    refine XS.iloadN X67.here hx rfl (hb hby at_191) rfl ?_
    show Steps p.tables e below (T67.setTop (mkF m 192 #[.val (.int p1), .val (.ref b2), .val (.ref b51), .unset, .unset, .unset, .unset, .unset] [(.int p1)])) _
    refine XS.bipush X67.here hx rfl (hb hby at_192) ?_
    show Steps p.tables e below (T67.setTop (mkF m 194 #[.val (.int p1), .val (.ref b2), .val (.ref b51), .unset, .unset, .unset, .unset, .unset] [(.int (15 : Int32)), (.int p1)])) _
    refine XS.iand X67.here hx rfl (hb hby at_194) rfl ?_
    show Steps p.tables e below (T67.setTop (mkF m 195 #[.val (.int p1), .val (.ref b2), .val (.ref b51), .unset, .unset, .unset, .unset, .unset] [(.int (p1 &&& (15 : Int32)))])) _
    refine XS.istoreN X67.here hx rfl (hb hby at_195) rfl (l' := #[.val (.int p1), .val (.ref b2), .val (.ref b51), .val (.int (p1 &&& (15 : Int32))), .unset, .unset, .unset, .unset]) rfl ?_
    show Steps p.tables e below (T67.setTop (mkF m 196 #[.val (.int p1), .val (.ref b2), .val (.ref b51), .val (.int (p1 &&& (15 : Int32))), .unset, .unset, .unset, .unset] [])) _
    refine XS.aloadN X67.here hx rfl (hb hby at_196) rfl rfl ?_
    show Steps p.tables e below (T67.setTop (mkF m 197 #[.val (.int p1), .val (.ref b2), .val (.ref b51), .val (.int (p1 &&& (15 : Int32))), .unset, .unset, .unset, .unset] [(.ref b2)])) _
    refine XS.iloadN X67.here hx rfl (hb hby at_197) rfl ?_
    show Steps p.tables e below (T67.setTop (mkF m 198 #[.val (.int p1), .val (.ref b2), .val (.ref b51), .val (.int (p1 &&& (15 : Int32))), .unset, .unset, .unset, .unset] [(.int (p1 &&& (15 : Int32))), (.ref b2)])) _
    refine X67.aaload hx (j := (p1 &&& (15 : Int32))) (v := (.ref w68)) (by rw [e67]; exact Ar_b2.1) (State.isArrayOf_alike hZ.alike Ar_b2.2.1) rfl Ar_b2.2.2 hin198 hat198 (g := (mkF m 198 #[.val (.int p1), .val (.ref b2), .val (.ref b51), .val (.int (p1 &&& (15 : Int32))), .unset, .unset, .unset, .unset] [(.int (p1 &&& (15 : Int32))), (.ref b2)])) rfl rfl (hb hby at_198) _ ?_
    show Steps p.tables e below (T67.setTop (mkF m 199 #[.val (.int p1), .val (.ref b2), .val (.ref b51), .val (.int (p1 &&& (15 : Int32))), .unset, .unset, .unset, .unset] [(.ref w68)])) _
    refine XS.astore X67.here hx rfl (hb hby at_199) rfl rfl (l' := #[.val (.int p1), .val (.ref b2), .val (.ref b51), .val (.int (p1 &&& (15 : Int32))), .val (.ref w68), .unset, .unset, .unset]) rfl ?_
    show Steps p.tables e below (T67.setTop (mkF m 201 #[.val (.int p1), .val (.ref b2), .val (.ref b51), .val (.int (p1 &&& (15 : Int32))), .val (.ref w68), .unset, .unset, .unset] [])) _
    refine XS.iloadN X67.here hx rfl (hb hby at_201) rfl ?_
    show Steps p.tables e below (T67.setTop (mkF m 202 #[.val (.int p1), .val (.ref b2), .val (.ref b51), .val (.int (p1 &&& (15 : Int32))), .val (.ref w68), .unset, .unset, .unset] [(.int (p1 &&& (15 : Int32)))])) _
    refine XS.iconst X67.here hx rfl (hb hby at_202) ?_
    show Steps p.tables e below (T67.setTop (mkF m 203 #[.val (.int p1), .val (.ref b2), .val (.ref b51), .val (.int (p1 &&& (15 : Int32))), .val (.ref w68), .unset, .unset, .unset] [(.int (3 : Int32)), (.int (p1 &&& (15 : Int32)))])) _
    refine XS.icmpYes X67.here hx rfl (pc0 := 203) (pc' := 212) rfl (hb hby at_203) rfl (teq hc203).1 (by decide) (by decide) ?_
    show Steps p.tables e below (T67.setTop (mkF m 212 #[.val (.int p1), .val (.ref b2), .val (.ref b51), .val (.int (p1 &&& (15 : Int32))), .val (.ref w68), .unset, .unset, .unset] [])) _
    refine XS.iconst X67.here hx rfl (hb hby at_212) ?_
    show Steps p.tables e below (T67.setTop (mkF m 213 #[.val (.int p1), .val (.ref b2), .val (.ref b51), .val (.int (p1 &&& (15 : Int32))), .val (.ref w68), .unset, .unset, .unset] [(.int (1 : Int32))])) _
    refine XS.goto X67.here hx rfl (pc0 := 213) (pc' := 217) rfl (hb hby at_213) (by decide) (by decide) ?_
    show Steps p.tables e below (T67.setTop (mkF m 217 #[.val (.int p1), .val (.ref b2), .val (.ref b51), .val (.int (p1 &&& (15 : Int32))), .val (.ref w68), .unset, .unset, .unset] [(.int (1 : Int32))])) _
    refine XS.istore X67.here hx rfl (hb hby at_217) rfl (l' := #[.val (.int p1), .val (.ref b2), .val (.ref b51), .val (.int (p1 &&& (15 : Int32))), .val (.ref w68), .val (.int (1 : Int32)), .unset, .unset]) rfl ?_
    show Steps p.tables e below (T67.setTop (mkF m 219 #[.val (.int p1), .val (.ref b2), .val (.ref b51), .val (.int (p1 &&& (15 : Int32))), .val (.ref w68), .val (.int (1 : Int32)), .unset, .unset] [])) _
    refine XS.aload X67.here hx rfl (hb hby at_219) rfl rfl ?_
    show Steps p.tables e below (T67.setTop (mkF m 221 #[.val (.int p1), .val (.ref b2), .val (.ref b51), .val (.int (p1 &&& (15 : Int32))), .val (.ref w68), .val (.int (1 : Int32)), .unset, .unset] [(.ref w68)])) _
    refine st69.trans ?_
    show Steps p.tables e below (T69.setTop (mkF m 224 #[.val (.int p1), .val (.ref b2), .val (.ref b51), .val (.int (p1 &&& (15 : Int32))), .val (.ref w68), .val (.int (1 : Int32)), .unset, .unset] [(.int (0 : Int32))])) _
    refine XS.istore X69.here hx rfl (hb hby at_224) rfl (l' := #[.val (.int p1), .val (.ref b2), .val (.ref b51), .val (.int (p1 &&& (15 : Int32))), .val (.ref w68), .val (.int (1 : Int32)), .val (.int (0 : Int32)), .unset]) rfl ?_
    show Steps p.tables e below (T69.setTop (mkF m 226 #[.val (.int p1), .val (.ref b2), .val (.ref b51), .val (.int (p1 &&& (15 : Int32))), .val (.ref w68), .val (.int (1 : Int32)), .val (.int (0 : Int32)), .unset] [])) _
    refine XS.aload X69.here hx rfl (hb hby at_226) rfl rfl ?_
    show Steps p.tables e below (T69.setTop (mkF m 228 #[.val (.int p1), .val (.ref b2), .val (.ref b51), .val (.int (p1 &&& (15 : Int32))), .val (.ref w68), .val (.int (1 : Int32)), .val (.int (0 : Int32)), .unset] [(.ref w68)])) _
    refine st70.trans ?_
    show Steps p.tables e below (T70.setTop (mkF m 231 #[.val (.int p1), .val (.ref b2), .val (.ref b51), .val (.int (p1 &&& (15 : Int32))), .val (.ref w68), .val (.int (1 : Int32)), .val (.int (0 : Int32)), .unset] [.null])) _
    refine XS.ifnonnullNo X70.here hx rfl (hb hby at_231) rfl ?_
    show Steps p.tables e below (T70.setTop (mkF m 234 #[.val (.int p1), .val (.ref b2), .val (.ref b51), .val (.int (p1 &&& (15 : Int32))), .val (.ref w68), .val (.int (1 : Int32)), .val (.int (0 : Int32)), .unset] [])) _
    refine XS.iconst X70.here hx rfl (hb hby at_234) ?_
    show Steps p.tables e below (T70.setTop (mkF m 235 #[.val (.int p1), .val (.ref b2), .val (.ref b51), .val (.int (p1 &&& (15 : Int32))), .val (.ref w68), .val (.int (1 : Int32)), .val (.int (0 : Int32)), .unset] [(.int (1 : Int32))])) _
    refine XS.goto X70.here hx rfl (pc0 := 235) (pc' := 239) rfl (hb hby at_235) (by decide) (by decide) ?_
    show Steps p.tables e below (T70.setTop (mkF m 239 #[.val (.int p1), .val (.ref b2), .val (.ref b51), .val (.int (p1 &&& (15 : Int32))), .val (.ref w68), .val (.int (1 : Int32)), .val (.int (0 : Int32)), .unset] [(.int (1 : Int32))])) _
    refine XS.istore X70.here hx rfl (hb hby at_239) rfl (l' := #[.val (.int p1), .val (.ref b2), .val (.ref b51), .val (.int (p1 &&& (15 : Int32))), .val (.ref w68), .val (.int (1 : Int32)), .val (.int (0 : Int32)), .val (.int (1 : Int32))]) rfl ?_
    show Steps p.tables e below (T70.setTop (mkF m 241 #[.val (.int p1), .val (.ref b2), .val (.ref b51), .val (.int (p1 &&& (15 : Int32))), .val (.ref w68), .val (.int (1 : Int32)), .val (.int (0 : Int32)), .val (.int (1 : Int32))] [])) _
    refine XS.iload X70.here hx rfl (hb hby at_241) rfl ?_
    show Steps p.tables e below (T70.setTop (mkF m 243 #[.val (.int p1), .val (.ref b2), .val (.ref b51), .val (.int (p1 &&& (15 : Int32))), .val (.ref w68), .val (.int (1 : Int32)), .val (.int (0 : Int32)), .val (.int (1 : Int32))] [(.int (0 : Int32))])) _
    refine XS.aloadN X70.here hx rfl (hb hby at_243) rfl rfl ?_
    show Steps p.tables e below (T70.setTop (mkF m 244 #[.val (.int p1), .val (.ref b2), .val (.ref b51), .val (.int (p1 &&& (15 : Int32))), .val (.ref w68), .val (.int (1 : Int32)), .val (.int (0 : Int32)), .val (.int (1 : Int32))] [(.ref b51), (.int (0 : Int32))])) _
    refine XS.iloadN X70.here hx rfl (hb hby at_244) rfl ?_
    show Steps p.tables e below (T70.setTop (mkF m 245 #[.val (.int p1), .val (.ref b2), .val (.ref b51), .val (.int (p1 &&& (15 : Int32))), .val (.ref w68), .val (.int (1 : Int32)), .val (.int (0 : Int32)), .val (.int (1 : Int32))] [(.int (p1 &&& (15 : Int32))), (.ref b51), (.int (0 : Int32))])) _
    refine X70.baloadBooleans hx (j := (p1 &&& (15 : Int32))) (v := (.int (0 : Int32))) (by rw [k70q, k69q]; exact Ar_b51.1) (State.isArrayOf_alike hZ.alike Ar_b51.2.1) Ar_b51.2.2 hin245 hat245 (g := (mkF m 245 #[.val (.int p1), .val (.ref b2), .val (.ref b51), .val (.int (p1 &&& (15 : Int32))), .val (.ref w68), .val (.int (1 : Int32)), .val (.int (0 : Int32)), .val (.int (1 : Int32))] [(.int (p1 &&& (15 : Int32))), (.ref b51), (.int (0 : Int32))])) rfl rfl (hb hby at_245) _ ?_
    show Steps p.tables e below (T70.setTop (mkF m 246 #[.val (.int p1), .val (.ref b2), .val (.ref b51), .val (.int (p1 &&& (15 : Int32))), .val (.ref w68), .val (.int (1 : Int32)), .val (.int (0 : Int32)), .val (.int (1 : Int32))] [(.int (0 : Int32)), (.int (0 : Int32))])) _
    refine XS.icmpNo X70.here hx rfl (hb hby at_246) rfl (teq (by decide : (0 : Int32) = (0 : Int32))).2 ?_
    show Steps p.tables e below (T70.setTop (mkF m 249 #[.val (.int p1), .val (.ref b2), .val (.ref b51), .val (.int (p1 &&& (15 : Int32))), .val (.ref w68), .val (.int (1 : Int32)), .val (.int (0 : Int32)), .val (.int (1 : Int32))] [])) _
    refine XS.iload X70.here hx rfl (hb hby at_249) rfl ?_
    show Steps p.tables e below (T70.setTop (mkF m 251 #[.val (.int p1), .val (.ref b2), .val (.ref b51), .val (.int (p1 &&& (15 : Int32))), .val (.ref w68), .val (.int (1 : Int32)), .val (.int (0 : Int32)), .val (.int (1 : Int32))] [(.int (0 : Int32))])) _
    refine XS.iload X70.here hx rfl (hb hby at_251) rfl ?_
    show Steps p.tables e below (T70.setTop (mkF m 253 #[.val (.int p1), .val (.ref b2), .val (.ref b51), .val (.int (p1 &&& (15 : Int32))), .val (.ref w68), .val (.int (1 : Int32)), .val (.int (0 : Int32)), .val (.int (1 : Int32))] [(.int (1 : Int32)), (.int (0 : Int32))])) _
    refine XS.ifYes X70.here hx rfl (pc0 := 253) (pc' := 265) rfl (hb hby at_253) rfl ((if0 _ _).trans (feq (by decide)).2) (by decide) (by decide) ?_
    show Steps p.tables e below (T70.setTop (mkF m 265 #[.val (.int p1), .val (.ref b2), .val (.ref b51), .val (.int (p1 &&& (15 : Int32))), .val (.ref w68), .val (.int (1 : Int32)), .val (.int (0 : Int32)), .val (.int (1 : Int32))] [(.int (0 : Int32))])) _
    refine XS.iconst X70.here hx rfl (hb hby at_265) ?_
    show Steps p.tables e below (T70.setTop (mkF m 266 #[.val (.int p1), .val (.ref b2), .val (.ref b51), .val (.int (p1 &&& (15 : Int32))), .val (.ref w68), .val (.int (1 : Int32)), .val (.int (0 : Int32)), .val (.int (1 : Int32))] [(.int (0 : Int32)), (.int (0 : Int32))])) _
    refine XS.icmpNo X70.here hx rfl (hb hby at_266) rfl (teq (by decide : (0 : Int32) = (0 : Int32))).2 ?_
    show Steps p.tables e below (T70.setTop (mkF m 269 #[.val (.int p1), .val (.ref b2), .val (.ref b51), .val (.int (p1 &&& (15 : Int32))), .val (.ref w68), .val (.int (1 : Int32)), .val (.int (0 : Int32)), .val (.int (1 : Int32))] [])) _
    refine XS.iconst X70.here hx rfl (hb hby at_269) ?_
    show Steps p.tables e below (T70.setTop (mkF m 270 #[.val (.int p1), .val (.ref b2), .val (.ref b51), .val (.int (p1 &&& (15 : Int32))), .val (.ref w68), .val (.int (1 : Int32)), .val (.int (0 : Int32)), .val (.int (1 : Int32))] [(.int (1 : Int32))])) _
    refine XS.goto X70.here hx rfl (pc0 := 270) (pc' := 274) rfl (hb hby at_270) (by decide) (by decide) ?_
    show Steps p.tables e below (T70.setTop (mkF m 274 #[.val (.int p1), .val (.ref b2), .val (.ref b51), .val (.int (p1 &&& (15 : Int32))), .val (.ref w68), .val (.int (1 : Int32)), .val (.int (0 : Int32)), .val (.int (1 : Int32))] [(.int (1 : Int32))])) _
    exact retN X70 hx (t := .boolean) Bd.returns (by simp) (hb hby at_274) hr
  · show Q0a Z p1 h0 n0 _ T70.heap _
    exact ⟨rfl, N70⟩
def Q0b (Z : State) (p1 : Int32) (h0 : Heap) (n0 : Nat) (v : Option Value) (h : Heap) (L : List Loc) : Prop := v = some (.int (1 : Int32)) ∧ Fr n0 L
set_option maxRecDepth 65536 in
set_option maxHeartbeats 40000000 in
theorem rm0b (l : Launch) (Z : State) (a0 : Array Value) (hw : ∀ d ∈ tables_1, d.before a0 Z = true) (ws : List Jvm.Cond) (p1 : Int32) (W : Nat → Addr) (h0 : Heap) (n0 : Nat) (Z0 : n0 ≤ h0.size) (hS : ∀ k, k < 16 → Sta Z h0 "com/example/gauge/gauge/cli/CommandOption" (own_nm k) "Lcom/example/gauge/gauge/cli/CommandOption;" (.ref (W k))) (hE : ∀ k, k < 16 → Exa Z h0 (W k) "com/example/gauge/gauge/cli/CommandOption") (F1 : Fld Z h0 (W ((p1 &&& (15 : Int32))).toNatClampNeg) "com/example/gauge/gauge/cli/CommandOption" "optional" "Z" (.int (1 : Int32))) (F2 : Fld Z h0 (W ((p1 &&& (15 : Int32))).toNatClampNeg) "com/example/gauge/gauge/cli/CommandOption" "byDefault" "Ljava/lang/String;" .null) (hbv : own_bv ((p1 &&& (15 : Int32))).toNatClampNeg = (0 : Int32)) (hc203 : ¬ ((p1 &&& (15 : Int32)) = (3 : Int32))) (hc209 : (p1 &&& (15 : Int32)) = (11 : Int32)) :
    MetFree l x (head1 (Jvm.Cond.code x code maxLocals ret :: ws) room_1) (fun a U => a = #[(.int p1)] ∧ Z.Warmed39 U.vm ∧ U.heap = h0) (fun _ _ _ _ _ => True) (fun _ U o U' => ∃ v L, o = .returned v ∧ Q0b Z p1 h0 n0 v U'.heap L ∧ FrameEnd U o U' L room_1.cells room_1.slots) := by
  refine MetFree.of_bodySF (plainFor_of_name pn_0) hisR ?_
  intro p e s m args below meth c s₁ Bd hml0 hP hK
  obtain ⟨rfl, hZ, hh⟩ := hP
  have hx := Bd.exec
  have hby := Bd.bytes
  have hml : c.maxLocals = 8 := hml0
  have hown : s.vm.findClass "com/example/gauge/gauge/cli/CommandOptionRequiredPinLaw" = some m.cls := findClass_of_methodNamed Bd.named
  have hnm := (name_of_methodNamed Bd.named Bd.method).1
  have X0 : Stand p l e room_1 s m #[(.int p1)] below meth c s₁ [] 0 0 := Stand.of_body Bd
  have e0 : s₁.heap = h0 := by rw [← hh, Bd.state]; rfl
  have N0 := Fr.nil n0
  have pre0 : ∀ t, Steps p.tables e below (s₁.setTop (mkF m 0 #[.val (.int p1), .unset, .unset, .unset, .unset, .unset, .unset, .unset] [])) t → Steps p.tables e below (s₁.setTop (entryFrame m #[(.int p1)] maxLocals)) t := fun t k => castTop (ef_0 m p1) k
  obtain ⟨T2, h2, k2, X2, e2, E2, A2, O2, st2⟩ := newR X0 hx hZ hown (hw _ (List.mem_of_getElem? (i := 0) rfl)) (hw _ (List.mem_of_getElem? (i := 1) rfl)) e0 (g := (mkF m 2 #[.val (.int p1), .unset, .unset, .unset, .unset, .unset, .unset, .unset] [(.int (16 : Int32))])) rfl (hb hby at_2) rfl (by decide) (cap := 16) (by decide) (by decide) (by decide) (by decide)
  obtain ⟨b2, g2⟩ : ∃ z, z = h0.size := ⟨_, rfl⟩
  rw [← g2] at A2 st2
  have V_b2 := Arv.new A2 (by decide)
  have g_b2 : n0 ≤ b2 := Nat.le_trans Z0 (Nat.le_of_eq g2.symm)
  have sz_b2 : h0.size ≤ b2 := (Nat.le_trans (Keep.refl h0 []).1 (Nat.le_of_eq g2.symm))
  have K2 : Keep h0 h2 [] := (Keep.refl h0 []).ext E2
  obtain ⟨T50, L50, X50, I50, st50⟩ := own_filled X2 hx hZ hown hby hw (h0 := h0) (n0 := n0) (b := b2) (ka := k2) (W := W) #[.val (.int p1), .unset, .unset, .unset, .unset, .unset, .unset, .unset] (by rw [e2]; exact ⟨N0, K2, _, A2, rfl, (sz_new _ _ _).trans (by decide), fun j hj => absurd hj (Nat.not_lt_zero j)⟩) O2 g_b2 sz_b2 hS hE
  obtain ⟨h50, e50⟩ : ∃ z, T50.heap = z := ⟨_, rfl⟩
  rw [e50] at I50
  obtain ⟨N50, K50, cl, Ar50, hcl, hsz, hvs⟩ := I50
  obtain ⟨T51, h51, k51, X51, e51, E51, A51, st51⟩ := newP X50 hx hZ (hw _ (List.mem_of_getElem? (i := 36) rfl)) e50 (g := (mkF m 114 #[.val (.int p1), .val (.ref b2), .unset, .unset, .unset, .unset, .unset, .unset] [(.int (16 : Int32))])) rfl (hb hby at_114) rfl (by decide) (cap := 16) (by decide) (by decide) (by decide) (by decide)
  obtain ⟨b51, g51⟩ : ∃ z, z = h50.size := ⟨_, rfl⟩
  rw [← g51] at A51 st51
  have g_b51 : n0 ≤ b51 := Nat.le_trans Z0 (Nat.le_trans K50.1 (Nat.le_of_eq g51.symm))
  obtain ⟨T67, L67, X67, I67, st67⟩ := own_filledZ X51 hx hZ hby (h0 := h50) (n0 := n0) (b := b51) #[.val (.int p1), .val (.ref b2), .unset, .unset, .unset, .unset, .unset, .unset] (by rw [e51]; exact ⟨N50, (Keep.refl h50 []).ext E51, _, A51, (sz_new _ _ _).trans (by decide), fun j hj => absurd hj (Nat.not_lt_zero j)⟩) g_b51 (Nat.le_of_eq g51.symm)
  obtain ⟨N67, K67', clz, Ar_b51, hszz, hvz⟩ := I67
  have K67 : Keep h0 T67.heap [] := K50.trans K67' (fun _ q => nomatch q)
  have e67 : T67.heap = T67.heap := rfl
  have Ar_b2 : Arr Z T67.heap b2 cl (.object "com/example/gauge/gauge/cli/CommandOption") := ⟨K67'.2.1 _ _ Ar50.1 nin0, Ar50.2⟩
  obtain ⟨i1, i2, i3, i4⟩ := own_idx p1
  obtain ⟨w68, hw68⟩ : ∃ z, z = W ((p1 &&& (15 : Int32))).toNatClampNeg := ⟨_, rfl⟩
  have hin198 : ¬ ((p1 &&& (15 : Int32)) < 0 ∨ cl.slots.size ≤ ((p1 &&& (15 : Int32))).toNatClampNeg) := by rw [hsz]; exact fun q => q.elim i1 (fun r => absurd i2 (Nat.not_lt.mpr r))
  have hat198 : cl.slots[((p1 &&& (15 : Int32))).toNatClampNeg]? = some (.ref w68) := by rw [hw68]; exact hvs _ i2
  have hin245 : ¬ ((p1 &&& (15 : Int32)) < 0 ∨ clz.slots.size ≤ ((p1 &&& (15 : Int32))).toNatClampNeg) := by rw [hszz]; exact fun q => q.elim i1 (fun r => absurd i2 (Nat.not_lt.mpr r))
  have hat245 : clz.slots[((p1 &&& (15 : Int32))).toNatClampNeg]? = some (.int (0 : Int32)) := by rw [← hbv]; exact hvz _ i2
  have E_w68 : Exa Z T67.heap w68 "com/example/gauge/gauge/cli/CommandOption" := by rw [hw68]; exact (hE _ i2).keep K67
  have F1_w68 : Fld Z T67.heap w68 "com/example/gauge/gauge/cli/CommandOption" "optional" "Z" (.int (1 : Int32)) := by rw [hw68]; exact F1.keep K67 nin0
  have F2_w68 : Fld Z T67.heap w68 "com/example/gauge/gauge/cli/CommandOption" "byDefault" "Ljava/lang/String;" .null := by rw [hw68]; exact F2.keep K67 nin0
  have Z67 : n0 ≤ T67.heap.size := Nat.le_trans Z0 K67.1
  obtain ⟨cq69, kq69, q69a, q69b, q69c⟩ := isOf hZ e67 E_w68
  obtain ⟨_, _, ⟨T69, L69, k69, n69⟩, -, X69, ⟨Lc69, hQ69, l69, y69, z69⟩, st69⟩ := X67.virtualBack hx (y := (⟨"com/example/gauge/gauge/cli/CommandOption", "required", "()Z"⟩ : MethodName)) (z := (⟨"com/example/gauge/gauge/cli/CommandOption", "required", "()Z"⟩ : MethodName)) hown (mvT hZ (hw _ (List.mem_of_getElem? (i := 37) rfl))) (mvT hZ (hw _ (List.mem_of_getElem? (i := 38) rfl))) (notFace_of_selects (args := #[]) (mvT hZ (hw _ (List.mem_of_getElem? (i := 40) rfl)))) (mvT hZ (hw _ (List.mem_of_getElem? (i := 40) rfl))) (mvT hZ (hw _ (List.mem_of_getElem? (i := 39) rfl))) (by decide) (backOf (W := 0) (rm1a l Z a0 hw [] w68 (1 : Int32) T67.heap n0 Z67 F1_w68 (by decide)) hZ (hw _ (List.mem_of_getElem? (i := 41) rfl)) (hw _ (List.mem_of_getElem? (i := 3) rfl)) (by decide) (by decide)) q69a q69c (g := (mkF m 221 #[.val (.int p1), .val (.ref b2), .val (.ref b51), .val (.int (p1 &&& (15 : Int32))), .val (.ref w68), .val (.int (1 : Int32)), .unset, .unset] [(.ref w68)])) rfl (by rw [hml]; rfl) (Steps.refl _) (argsL := []) (rest := []) (lenOf pd_0_0 rfl) rfl (by show 2 * 0 + _ ≤ _; exact Nat.le_of_eq rfl) (hb hby at_221) (fun _ _ => ⟨rfl, e67, (by decide : 2 + 0 ≤ _), (by decide : 32 + 0 ≤ _)⟩)
  dsimp only [Pt.U, Pt.locs, Pt.cells, Pt.slots] at X69 l69 y69 z69 st69 hQ69
  subst l69 y69 z69
  obtain ⟨rfl, N69q, k69q⟩ := hQ69
  have N69 := Fr.app N67 N69q
  obtain ⟨cq70, kq70, q70a, q70b, q70c⟩ := isOf hZ rfl (show Exa Z T69.heap w68 _ by rw [k69q]; exact E_w68)
  obtain ⟨_, _, ⟨T70, L70, k70, n70⟩, -, X70, ⟨Lc70, hQ70, l70, y70, z70⟩, st70⟩ := X69.virtualBack hx (y := (⟨"com/example/gauge/gauge/cli/CommandOption", "byDefault", "()Ljava/lang/String;"⟩ : MethodName)) (z := (⟨"com/example/gauge/gauge/cli/CommandOption", "byDefault", "()Ljava/lang/String;"⟩ : MethodName)) hown (mvT hZ (hw _ (List.mem_of_getElem? (i := 46) rfl))) (mvT hZ (hw _ (List.mem_of_getElem? (i := 47) rfl))) (notFace_of_selects (args := #[]) (mvT hZ (hw _ (List.mem_of_getElem? (i := 49) rfl)))) (mvT hZ (hw _ (List.mem_of_getElem? (i := 49) rfl))) (mvT hZ (hw _ (List.mem_of_getElem? (i := 48) rfl))) (by decide) (backOf (W := 0) (rm2n l Z a0 hw [] w68 T69.heap n0 (by rw [k69q]; exact Z67) (by rw [k69q]; exact F2_w68)) hZ (hw _ (List.mem_of_getElem? (i := 50) rfl)) (hw _ (List.mem_of_getElem? (i := 3) rfl)) (by decide) (by decide)) q70a q70c (g := (mkF m 228 #[.val (.int p1), .val (.ref b2), .val (.ref b51), .val (.int (p1 &&& (15 : Int32))), .val (.ref w68), .val (.int (1 : Int32)), .val (.int (0 : Int32)), .unset] [(.ref w68)])) rfl (by rw [hml]; rfl) (Steps.refl _) (argsL := []) (rest := []) (lenOf pd_0_1 rfl) rfl (by show 2 * 0 + _ ≤ _; exact Nat.le_of_eq rfl) (hb hby at_228) (fun _ _ => ⟨rfl, rfl, (by decide : 2 + 0 ≤ _), (by decide : 32 + 0 ≤ _)⟩)
  dsimp only [Pt.U, Pt.locs, Pt.cells, Pt.slots] at X70 l70 y70 z70 st70 hQ70
  subst l70 y70 z70
  obtain ⟨rfl, N70q, k70q⟩ := hQ70
  have N70 := Fr.app N69 N70q
  obtain ⟨fs, hr, hrun, hended, hW, hsame⟩ := X70.leave (v := some (.int (1 : Int32))) (fun h => by rw [Bd.returns] at h; cases h)
  refine ⟨_, _, pre0 _ ?_, hrun, hended, _, _, rfl, ?_, ⟨_, rfl⟩, hW, hsame.mono (by decide) (by decide)⟩
  · show Steps p.tables e below (s₁.setTop (mkF m 0 #[.val (.int p1), .unset, .unset, .unset, .unset, .unset, .unset, .unset] [])) _
    refine XS.bipush X0.here hx rfl (hb hby at_0) ?_
    show Steps p.tables e below (s₁.setTop (mkF m 2 #[.val (.int p1), .unset, .unset, .unset, .unset, .unset, .unset, .unset] [(.int (16 : Int32))])) _
    refine st2 _ ?_
    show Steps p.tables e below (T2.setTop (mkF m 5 #[.val (.int p1), .unset, .unset, .unset, .unset, .unset, .unset, .unset] [(.ref b2)])) _
    refine st50 _ ?_
    show Steps p.tables e below (T50.setTop (mkF m 111 #[.val (.int p1), .unset, .unset, .unset, .unset, .unset, .unset, .unset] [(.ref b2)])) _
    refine XS.astoreN X50.here hx rfl (hb hby at_111) rfl rfl (l' := #[.val (.int p1), .val (.ref b2), .unset, .unset, .unset, .unset, .unset, .unset]) rfl ?_
    show Steps p.tables e below (T50.setTop (mkF m 112 #[.val (.int p1), .val (.ref b2), .unset, .unset, .unset, .unset, .unset, .unset] [])) _
    refine XS.bipush X50.here hx rfl (hb hby at_112) ?_
    show Steps p.tables e below (T50.setTop (mkF m 114 #[.val (.int p1), .val (.ref b2), .unset, .unset, .unset, .unset, .unset, .unset] [(.int (16 : Int32))])) _
    refine st51 _ ?_
    show Steps p.tables e below (T51.setTop (mkF m 116 #[.val (.int p1), .val (.ref b2), .unset, .unset, .unset, .unset, .unset, .unset] [(.ref b51)])) _
    refine st67 _ ?_
    show Steps p.tables e below (T67.setTop (mkF m 190 #[.val (.int p1), .val (.ref b2), .unset, .unset, .unset, .unset, .unset, .unset] [(.ref b51)])) _
    refine XS.astoreN X67.here hx rfl (hb hby at_190) rfl rfl (l' := #[.val (.int p1), .val (.ref b2), .val (.ref b51), .unset, .unset, .unset, .unset, .unset]) rfl ?_
    show Steps p.tables e below (T67.setTop (mkF m 191 #[.val (.int p1), .val (.ref b2), .val (.ref b51), .unset, .unset, .unset, .unset, .unset] [])) _
    refine XS.iloadN X67.here hx rfl (hb hby at_191) rfl ?_
    show Steps p.tables e below (T67.setTop (mkF m 192 #[.val (.int p1), .val (.ref b2), .val (.ref b51), .unset, .unset, .unset, .unset, .unset] [(.int p1)])) _
    refine XS.bipush X67.here hx rfl (hb hby at_192) ?_
    show Steps p.tables e below (T67.setTop (mkF m 194 #[.val (.int p1), .val (.ref b2), .val (.ref b51), .unset, .unset, .unset, .unset, .unset] [(.int (15 : Int32)), (.int p1)])) _
    refine XS.iand X67.here hx rfl (hb hby at_194) rfl ?_
    show Steps p.tables e below (T67.setTop (mkF m 195 #[.val (.int p1), .val (.ref b2), .val (.ref b51), .unset, .unset, .unset, .unset, .unset] [(.int (p1 &&& (15 : Int32)))])) _
    refine XS.istoreN X67.here hx rfl (hb hby at_195) rfl (l' := #[.val (.int p1), .val (.ref b2), .val (.ref b51), .val (.int (p1 &&& (15 : Int32))), .unset, .unset, .unset, .unset]) rfl ?_
    show Steps p.tables e below (T67.setTop (mkF m 196 #[.val (.int p1), .val (.ref b2), .val (.ref b51), .val (.int (p1 &&& (15 : Int32))), .unset, .unset, .unset, .unset] [])) _
    refine XS.aloadN X67.here hx rfl (hb hby at_196) rfl rfl ?_
    show Steps p.tables e below (T67.setTop (mkF m 197 #[.val (.int p1), .val (.ref b2), .val (.ref b51), .val (.int (p1 &&& (15 : Int32))), .unset, .unset, .unset, .unset] [(.ref b2)])) _
    refine XS.iloadN X67.here hx rfl (hb hby at_197) rfl ?_
    show Steps p.tables e below (T67.setTop (mkF m 198 #[.val (.int p1), .val (.ref b2), .val (.ref b51), .val (.int (p1 &&& (15 : Int32))), .unset, .unset, .unset, .unset] [(.int (p1 &&& (15 : Int32))), (.ref b2)])) _
    refine X67.aaload hx (j := (p1 &&& (15 : Int32))) (v := (.ref w68)) (by rw [e67]; exact Ar_b2.1) (State.isArrayOf_alike hZ.alike Ar_b2.2.1) rfl Ar_b2.2.2 hin198 hat198 (g := (mkF m 198 #[.val (.int p1), .val (.ref b2), .val (.ref b51), .val (.int (p1 &&& (15 : Int32))), .unset, .unset, .unset, .unset] [(.int (p1 &&& (15 : Int32))), (.ref b2)])) rfl rfl (hb hby at_198) _ ?_
    show Steps p.tables e below (T67.setTop (mkF m 199 #[.val (.int p1), .val (.ref b2), .val (.ref b51), .val (.int (p1 &&& (15 : Int32))), .unset, .unset, .unset, .unset] [(.ref w68)])) _
    refine XS.astore X67.here hx rfl (hb hby at_199) rfl rfl (l' := #[.val (.int p1), .val (.ref b2), .val (.ref b51), .val (.int (p1 &&& (15 : Int32))), .val (.ref w68), .unset, .unset, .unset]) rfl ?_
    show Steps p.tables e below (T67.setTop (mkF m 201 #[.val (.int p1), .val (.ref b2), .val (.ref b51), .val (.int (p1 &&& (15 : Int32))), .val (.ref w68), .unset, .unset, .unset] [])) _
    refine XS.iloadN X67.here hx rfl (hb hby at_201) rfl ?_
    show Steps p.tables e below (T67.setTop (mkF m 202 #[.val (.int p1), .val (.ref b2), .val (.ref b51), .val (.int (p1 &&& (15 : Int32))), .val (.ref w68), .unset, .unset, .unset] [(.int (p1 &&& (15 : Int32)))])) _
    refine XS.iconst X67.here hx rfl (hb hby at_202) ?_
    show Steps p.tables e below (T67.setTop (mkF m 203 #[.val (.int p1), .val (.ref b2), .val (.ref b51), .val (.int (p1 &&& (15 : Int32))), .val (.ref w68), .unset, .unset, .unset] [(.int (3 : Int32)), (.int (p1 &&& (15 : Int32)))])) _
    refine XS.icmpNo X67.here hx rfl (hb hby at_203) rfl (feq hc203).1 ?_
    show Steps p.tables e below (T67.setTop (mkF m 206 #[.val (.int p1), .val (.ref b2), .val (.ref b51), .val (.int (p1 &&& (15 : Int32))), .val (.ref w68), .unset, .unset, .unset] [])) _
    refine XS.iloadN X67.here hx rfl (hb hby at_206) rfl ?_
    show Steps p.tables e below (T67.setTop (mkF m 207 #[.val (.int p1), .val (.ref b2), .val (.ref b51), .val (.int (p1 &&& (15 : Int32))), .val (.ref w68), .unset, .unset, .unset] [(.int (p1 &&& (15 : Int32)))])) _
    refine XS.bipush X67.here hx rfl (hb hby at_207) ?_
    show Steps p.tables e below (T67.setTop (mkF m 209 #[.val (.int p1), .val (.ref b2), .val (.ref b51), .val (.int (p1 &&& (15 : Int32))), .val (.ref w68), .unset, .unset, .unset] [(.int (11 : Int32)), (.int (p1 &&& (15 : Int32)))])) _
    refine XS.icmpNo X67.here hx rfl (hb hby at_209) rfl (teq hc209).2 ?_
    show Steps p.tables e below (T67.setTop (mkF m 212 #[.val (.int p1), .val (.ref b2), .val (.ref b51), .val (.int (p1 &&& (15 : Int32))), .val (.ref w68), .unset, .unset, .unset] [])) _
    refine XS.iconst X67.here hx rfl (hb hby at_212) ?_
    show Steps p.tables e below (T67.setTop (mkF m 213 #[.val (.int p1), .val (.ref b2), .val (.ref b51), .val (.int (p1 &&& (15 : Int32))), .val (.ref w68), .unset, .unset, .unset] [(.int (1 : Int32))])) _
    refine XS.goto X67.here hx rfl (pc0 := 213) (pc' := 217) rfl (hb hby at_213) (by decide) (by decide) ?_
    show Steps p.tables e below (T67.setTop (mkF m 217 #[.val (.int p1), .val (.ref b2), .val (.ref b51), .val (.int (p1 &&& (15 : Int32))), .val (.ref w68), .unset, .unset, .unset] [(.int (1 : Int32))])) _
    refine XS.istore X67.here hx rfl (hb hby at_217) rfl (l' := #[.val (.int p1), .val (.ref b2), .val (.ref b51), .val (.int (p1 &&& (15 : Int32))), .val (.ref w68), .val (.int (1 : Int32)), .unset, .unset]) rfl ?_
    show Steps p.tables e below (T67.setTop (mkF m 219 #[.val (.int p1), .val (.ref b2), .val (.ref b51), .val (.int (p1 &&& (15 : Int32))), .val (.ref w68), .val (.int (1 : Int32)), .unset, .unset] [])) _
    refine XS.aload X67.here hx rfl (hb hby at_219) rfl rfl ?_
    show Steps p.tables e below (T67.setTop (mkF m 221 #[.val (.int p1), .val (.ref b2), .val (.ref b51), .val (.int (p1 &&& (15 : Int32))), .val (.ref w68), .val (.int (1 : Int32)), .unset, .unset] [(.ref w68)])) _
    refine st69.trans ?_
    show Steps p.tables e below (T69.setTop (mkF m 224 #[.val (.int p1), .val (.ref b2), .val (.ref b51), .val (.int (p1 &&& (15 : Int32))), .val (.ref w68), .val (.int (1 : Int32)), .unset, .unset] [(.int (0 : Int32))])) _
    refine XS.istore X69.here hx rfl (hb hby at_224) rfl (l' := #[.val (.int p1), .val (.ref b2), .val (.ref b51), .val (.int (p1 &&& (15 : Int32))), .val (.ref w68), .val (.int (1 : Int32)), .val (.int (0 : Int32)), .unset]) rfl ?_
    show Steps p.tables e below (T69.setTop (mkF m 226 #[.val (.int p1), .val (.ref b2), .val (.ref b51), .val (.int (p1 &&& (15 : Int32))), .val (.ref w68), .val (.int (1 : Int32)), .val (.int (0 : Int32)), .unset] [])) _
    refine XS.aload X69.here hx rfl (hb hby at_226) rfl rfl ?_
    show Steps p.tables e below (T69.setTop (mkF m 228 #[.val (.int p1), .val (.ref b2), .val (.ref b51), .val (.int (p1 &&& (15 : Int32))), .val (.ref w68), .val (.int (1 : Int32)), .val (.int (0 : Int32)), .unset] [(.ref w68)])) _
    refine st70.trans ?_
    show Steps p.tables e below (T70.setTop (mkF m 231 #[.val (.int p1), .val (.ref b2), .val (.ref b51), .val (.int (p1 &&& (15 : Int32))), .val (.ref w68), .val (.int (1 : Int32)), .val (.int (0 : Int32)), .unset] [.null])) _
    refine XS.ifnonnullNo X70.here hx rfl (hb hby at_231) rfl ?_
    show Steps p.tables e below (T70.setTop (mkF m 234 #[.val (.int p1), .val (.ref b2), .val (.ref b51), .val (.int (p1 &&& (15 : Int32))), .val (.ref w68), .val (.int (1 : Int32)), .val (.int (0 : Int32)), .unset] [])) _
    refine XS.iconst X70.here hx rfl (hb hby at_234) ?_
    show Steps p.tables e below (T70.setTop (mkF m 235 #[.val (.int p1), .val (.ref b2), .val (.ref b51), .val (.int (p1 &&& (15 : Int32))), .val (.ref w68), .val (.int (1 : Int32)), .val (.int (0 : Int32)), .unset] [(.int (1 : Int32))])) _
    refine XS.goto X70.here hx rfl (pc0 := 235) (pc' := 239) rfl (hb hby at_235) (by decide) (by decide) ?_
    show Steps p.tables e below (T70.setTop (mkF m 239 #[.val (.int p1), .val (.ref b2), .val (.ref b51), .val (.int (p1 &&& (15 : Int32))), .val (.ref w68), .val (.int (1 : Int32)), .val (.int (0 : Int32)), .unset] [(.int (1 : Int32))])) _
    refine XS.istore X70.here hx rfl (hb hby at_239) rfl (l' := #[.val (.int p1), .val (.ref b2), .val (.ref b51), .val (.int (p1 &&& (15 : Int32))), .val (.ref w68), .val (.int (1 : Int32)), .val (.int (0 : Int32)), .val (.int (1 : Int32))]) rfl ?_
    show Steps p.tables e below (T70.setTop (mkF m 241 #[.val (.int p1), .val (.ref b2), .val (.ref b51), .val (.int (p1 &&& (15 : Int32))), .val (.ref w68), .val (.int (1 : Int32)), .val (.int (0 : Int32)), .val (.int (1 : Int32))] [])) _
    refine XS.iload X70.here hx rfl (hb hby at_241) rfl ?_
    show Steps p.tables e below (T70.setTop (mkF m 243 #[.val (.int p1), .val (.ref b2), .val (.ref b51), .val (.int (p1 &&& (15 : Int32))), .val (.ref w68), .val (.int (1 : Int32)), .val (.int (0 : Int32)), .val (.int (1 : Int32))] [(.int (0 : Int32))])) _
    refine XS.aloadN X70.here hx rfl (hb hby at_243) rfl rfl ?_
    show Steps p.tables e below (T70.setTop (mkF m 244 #[.val (.int p1), .val (.ref b2), .val (.ref b51), .val (.int (p1 &&& (15 : Int32))), .val (.ref w68), .val (.int (1 : Int32)), .val (.int (0 : Int32)), .val (.int (1 : Int32))] [(.ref b51), (.int (0 : Int32))])) _
    refine XS.iloadN X70.here hx rfl (hb hby at_244) rfl ?_
    show Steps p.tables e below (T70.setTop (mkF m 245 #[.val (.int p1), .val (.ref b2), .val (.ref b51), .val (.int (p1 &&& (15 : Int32))), .val (.ref w68), .val (.int (1 : Int32)), .val (.int (0 : Int32)), .val (.int (1 : Int32))] [(.int (p1 &&& (15 : Int32))), (.ref b51), (.int (0 : Int32))])) _
    refine X70.baloadBooleans hx (j := (p1 &&& (15 : Int32))) (v := (.int (0 : Int32))) (by rw [k70q, k69q]; exact Ar_b51.1) (State.isArrayOf_alike hZ.alike Ar_b51.2.1) Ar_b51.2.2 hin245 hat245 (g := (mkF m 245 #[.val (.int p1), .val (.ref b2), .val (.ref b51), .val (.int (p1 &&& (15 : Int32))), .val (.ref w68), .val (.int (1 : Int32)), .val (.int (0 : Int32)), .val (.int (1 : Int32))] [(.int (p1 &&& (15 : Int32))), (.ref b51), (.int (0 : Int32))])) rfl rfl (hb hby at_245) _ ?_
    show Steps p.tables e below (T70.setTop (mkF m 246 #[.val (.int p1), .val (.ref b2), .val (.ref b51), .val (.int (p1 &&& (15 : Int32))), .val (.ref w68), .val (.int (1 : Int32)), .val (.int (0 : Int32)), .val (.int (1 : Int32))] [(.int (0 : Int32)), (.int (0 : Int32))])) _
    refine XS.icmpNo X70.here hx rfl (hb hby at_246) rfl (teq (by decide : (0 : Int32) = (0 : Int32))).2 ?_
    show Steps p.tables e below (T70.setTop (mkF m 249 #[.val (.int p1), .val (.ref b2), .val (.ref b51), .val (.int (p1 &&& (15 : Int32))), .val (.ref w68), .val (.int (1 : Int32)), .val (.int (0 : Int32)), .val (.int (1 : Int32))] [])) _
    refine XS.iload X70.here hx rfl (hb hby at_249) rfl ?_
    show Steps p.tables e below (T70.setTop (mkF m 251 #[.val (.int p1), .val (.ref b2), .val (.ref b51), .val (.int (p1 &&& (15 : Int32))), .val (.ref w68), .val (.int (1 : Int32)), .val (.int (0 : Int32)), .val (.int (1 : Int32))] [(.int (0 : Int32))])) _
    refine XS.iload X70.here hx rfl (hb hby at_251) rfl ?_
    show Steps p.tables e below (T70.setTop (mkF m 253 #[.val (.int p1), .val (.ref b2), .val (.ref b51), .val (.int (p1 &&& (15 : Int32))), .val (.ref w68), .val (.int (1 : Int32)), .val (.int (0 : Int32)), .val (.int (1 : Int32))] [(.int (1 : Int32)), (.int (0 : Int32))])) _
    refine XS.ifYes X70.here hx rfl (pc0 := 253) (pc' := 265) rfl (hb hby at_253) rfl ((if0 _ _).trans (feq (by decide)).2) (by decide) (by decide) ?_
    show Steps p.tables e below (T70.setTop (mkF m 265 #[.val (.int p1), .val (.ref b2), .val (.ref b51), .val (.int (p1 &&& (15 : Int32))), .val (.ref w68), .val (.int (1 : Int32)), .val (.int (0 : Int32)), .val (.int (1 : Int32))] [(.int (0 : Int32))])) _
    refine XS.iconst X70.here hx rfl (hb hby at_265) ?_
    show Steps p.tables e below (T70.setTop (mkF m 266 #[.val (.int p1), .val (.ref b2), .val (.ref b51), .val (.int (p1 &&& (15 : Int32))), .val (.ref w68), .val (.int (1 : Int32)), .val (.int (0 : Int32)), .val (.int (1 : Int32))] [(.int (0 : Int32)), (.int (0 : Int32))])) _
    refine XS.icmpNo X70.here hx rfl (hb hby at_266) rfl (teq (by decide : (0 : Int32) = (0 : Int32))).2 ?_
    show Steps p.tables e below (T70.setTop (mkF m 269 #[.val (.int p1), .val (.ref b2), .val (.ref b51), .val (.int (p1 &&& (15 : Int32))), .val (.ref w68), .val (.int (1 : Int32)), .val (.int (0 : Int32)), .val (.int (1 : Int32))] [])) _
    refine XS.iconst X70.here hx rfl (hb hby at_269) ?_
    show Steps p.tables e below (T70.setTop (mkF m 270 #[.val (.int p1), .val (.ref b2), .val (.ref b51), .val (.int (p1 &&& (15 : Int32))), .val (.ref w68), .val (.int (1 : Int32)), .val (.int (0 : Int32)), .val (.int (1 : Int32))] [(.int (1 : Int32))])) _
    refine XS.goto X70.here hx rfl (pc0 := 270) (pc' := 274) rfl (hb hby at_270) (by decide) (by decide) ?_
    show Steps p.tables e below (T70.setTop (mkF m 274 #[.val (.int p1), .val (.ref b2), .val (.ref b51), .val (.int (p1 &&& (15 : Int32))), .val (.ref w68), .val (.int (1 : Int32)), .val (.int (0 : Int32)), .val (.int (1 : Int32))] [(.int (1 : Int32))])) _
    exact retN X70 hx (t := .boolean) Bd.returns (by simp) (hb hby at_274) hr
  · show Q0b Z p1 h0 n0 _ T70.heap _
    exact ⟨rfl, N70⟩
def Q0c (Z : State) (p1 : Int32) (h0 : Heap) (n0 : Nat) (v : Option Value) (h : Heap) (L : List Loc) : Prop := v = some (.int (1 : Int32)) ∧ Fr n0 L
set_option maxRecDepth 65536 in
set_option maxHeartbeats 40000000 in
theorem rm0c (l : Launch) (Z : State) (a0 : Array Value) (hw : ∀ d ∈ tables_1, d.before a0 Z = true) (ws : List Jvm.Cond) (p1 : Int32) (W : Nat → Addr) (h0 : Heap) (n0 : Nat) (Z0 : n0 ≤ h0.size) (hS : ∀ k, k < 16 → Sta Z h0 "com/example/gauge/gauge/cli/CommandOption" (own_nm k) "Lcom/example/gauge/gauge/cli/CommandOption;" (.ref (W k))) (hE : ∀ k, k < 16 → Exa Z h0 (W k) "com/example/gauge/gauge/cli/CommandOption") (F1 : Fld Z h0 (W ((p1 &&& (15 : Int32))).toNatClampNeg) "com/example/gauge/gauge/cli/CommandOption" "optional" "Z" (.int (0 : Int32))) (F2 : Fld Z h0 (W ((p1 &&& (15 : Int32))).toNatClampNeg) "com/example/gauge/gauge/cli/CommandOption" "byDefault" "Ljava/lang/String;" .null) (hbv : own_bv ((p1 &&& (15 : Int32))).toNatClampNeg = (1 : Int32)) (hc203 : ¬ ((p1 &&& (15 : Int32)) = (3 : Int32))) (hc209 : ¬ ((p1 &&& (15 : Int32)) = (11 : Int32))) :
    MetFree l x (head1 (Jvm.Cond.code x code maxLocals ret :: ws) room_1) (fun a U => a = #[(.int p1)] ∧ Z.Warmed39 U.vm ∧ U.heap = h0) (fun _ _ _ _ _ => True) (fun _ U o U' => ∃ v L, o = .returned v ∧ Q0c Z p1 h0 n0 v U'.heap L ∧ FrameEnd U o U' L room_1.cells room_1.slots) := by
  refine MetFree.of_bodySF (plainFor_of_name pn_0) hisR ?_
  intro p e s m args below meth c s₁ Bd hml0 hP hK
  obtain ⟨rfl, hZ, hh⟩ := hP
  have hx := Bd.exec
  have hby := Bd.bytes
  have hml : c.maxLocals = 8 := hml0
  have hown : s.vm.findClass "com/example/gauge/gauge/cli/CommandOptionRequiredPinLaw" = some m.cls := findClass_of_methodNamed Bd.named
  have hnm := (name_of_methodNamed Bd.named Bd.method).1
  have X0 : Stand p l e room_1 s m #[(.int p1)] below meth c s₁ [] 0 0 := Stand.of_body Bd
  have e0 : s₁.heap = h0 := by rw [← hh, Bd.state]; rfl
  have N0 := Fr.nil n0
  have pre0 : ∀ t, Steps p.tables e below (s₁.setTop (mkF m 0 #[.val (.int p1), .unset, .unset, .unset, .unset, .unset, .unset, .unset] [])) t → Steps p.tables e below (s₁.setTop (entryFrame m #[(.int p1)] maxLocals)) t := fun t k => castTop (ef_0 m p1) k
  obtain ⟨T2, h2, k2, X2, e2, E2, A2, O2, st2⟩ := newR X0 hx hZ hown (hw _ (List.mem_of_getElem? (i := 0) rfl)) (hw _ (List.mem_of_getElem? (i := 1) rfl)) e0 (g := (mkF m 2 #[.val (.int p1), .unset, .unset, .unset, .unset, .unset, .unset, .unset] [(.int (16 : Int32))])) rfl (hb hby at_2) rfl (by decide) (cap := 16) (by decide) (by decide) (by decide) (by decide)
  obtain ⟨b2, g2⟩ : ∃ z, z = h0.size := ⟨_, rfl⟩
  rw [← g2] at A2 st2
  have V_b2 := Arv.new A2 (by decide)
  have g_b2 : n0 ≤ b2 := Nat.le_trans Z0 (Nat.le_of_eq g2.symm)
  have sz_b2 : h0.size ≤ b2 := (Nat.le_trans (Keep.refl h0 []).1 (Nat.le_of_eq g2.symm))
  have K2 : Keep h0 h2 [] := (Keep.refl h0 []).ext E2
  obtain ⟨T50, L50, X50, I50, st50⟩ := own_filled X2 hx hZ hown hby hw (h0 := h0) (n0 := n0) (b := b2) (ka := k2) (W := W) #[.val (.int p1), .unset, .unset, .unset, .unset, .unset, .unset, .unset] (by rw [e2]; exact ⟨N0, K2, _, A2, rfl, (sz_new _ _ _).trans (by decide), fun j hj => absurd hj (Nat.not_lt_zero j)⟩) O2 g_b2 sz_b2 hS hE
  obtain ⟨h50, e50⟩ : ∃ z, T50.heap = z := ⟨_, rfl⟩
  rw [e50] at I50
  obtain ⟨N50, K50, cl, Ar50, hcl, hsz, hvs⟩ := I50
  obtain ⟨T51, h51, k51, X51, e51, E51, A51, st51⟩ := newP X50 hx hZ (hw _ (List.mem_of_getElem? (i := 36) rfl)) e50 (g := (mkF m 114 #[.val (.int p1), .val (.ref b2), .unset, .unset, .unset, .unset, .unset, .unset] [(.int (16 : Int32))])) rfl (hb hby at_114) rfl (by decide) (cap := 16) (by decide) (by decide) (by decide) (by decide)
  obtain ⟨b51, g51⟩ : ∃ z, z = h50.size := ⟨_, rfl⟩
  rw [← g51] at A51 st51
  have g_b51 : n0 ≤ b51 := Nat.le_trans Z0 (Nat.le_trans K50.1 (Nat.le_of_eq g51.symm))
  obtain ⟨T67, L67, X67, I67, st67⟩ := own_filledZ X51 hx hZ hby (h0 := h50) (n0 := n0) (b := b51) #[.val (.int p1), .val (.ref b2), .unset, .unset, .unset, .unset, .unset, .unset] (by rw [e51]; exact ⟨N50, (Keep.refl h50 []).ext E51, _, A51, (sz_new _ _ _).trans (by decide), fun j hj => absurd hj (Nat.not_lt_zero j)⟩) g_b51 (Nat.le_of_eq g51.symm)
  obtain ⟨N67, K67', clz, Ar_b51, hszz, hvz⟩ := I67
  have K67 : Keep h0 T67.heap [] := K50.trans K67' (fun _ q => nomatch q)
  have e67 : T67.heap = T67.heap := rfl
  have Ar_b2 : Arr Z T67.heap b2 cl (.object "com/example/gauge/gauge/cli/CommandOption") := ⟨K67'.2.1 _ _ Ar50.1 nin0, Ar50.2⟩
  obtain ⟨i1, i2, i3, i4⟩ := own_idx p1
  obtain ⟨w68, hw68⟩ : ∃ z, z = W ((p1 &&& (15 : Int32))).toNatClampNeg := ⟨_, rfl⟩
  have hin198 : ¬ ((p1 &&& (15 : Int32)) < 0 ∨ cl.slots.size ≤ ((p1 &&& (15 : Int32))).toNatClampNeg) := by rw [hsz]; exact fun q => q.elim i1 (fun r => absurd i2 (Nat.not_lt.mpr r))
  have hat198 : cl.slots[((p1 &&& (15 : Int32))).toNatClampNeg]? = some (.ref w68) := by rw [hw68]; exact hvs _ i2
  have hin245 : ¬ ((p1 &&& (15 : Int32)) < 0 ∨ clz.slots.size ≤ ((p1 &&& (15 : Int32))).toNatClampNeg) := by rw [hszz]; exact fun q => q.elim i1 (fun r => absurd i2 (Nat.not_lt.mpr r))
  have hat245 : clz.slots[((p1 &&& (15 : Int32))).toNatClampNeg]? = some (.int (1 : Int32)) := by rw [← hbv]; exact hvz _ i2
  have E_w68 : Exa Z T67.heap w68 "com/example/gauge/gauge/cli/CommandOption" := by rw [hw68]; exact (hE _ i2).keep K67
  have F1_w68 : Fld Z T67.heap w68 "com/example/gauge/gauge/cli/CommandOption" "optional" "Z" (.int (0 : Int32)) := by rw [hw68]; exact F1.keep K67 nin0
  have F2_w68 : Fld Z T67.heap w68 "com/example/gauge/gauge/cli/CommandOption" "byDefault" "Ljava/lang/String;" .null := by rw [hw68]; exact F2.keep K67 nin0
  have Z67 : n0 ≤ T67.heap.size := Nat.le_trans Z0 K67.1
  obtain ⟨cq69, kq69, q69a, q69b, q69c⟩ := isOf hZ e67 E_w68
  obtain ⟨_, _, ⟨T69, L69, k69, n69⟩, -, X69, ⟨Lc69, hQ69, l69, y69, z69⟩, st69⟩ := X67.virtualBack hx (y := (⟨"com/example/gauge/gauge/cli/CommandOption", "required", "()Z"⟩ : MethodName)) (z := (⟨"com/example/gauge/gauge/cli/CommandOption", "required", "()Z"⟩ : MethodName)) hown (mvT hZ (hw _ (List.mem_of_getElem? (i := 37) rfl))) (mvT hZ (hw _ (List.mem_of_getElem? (i := 38) rfl))) (notFace_of_selects (args := #[]) (mvT hZ (hw _ (List.mem_of_getElem? (i := 40) rfl)))) (mvT hZ (hw _ (List.mem_of_getElem? (i := 40) rfl))) (mvT hZ (hw _ (List.mem_of_getElem? (i := 39) rfl))) (by decide) (backOf (W := 0) (rm1c l Z a0 hw [] w68 (0 : Int32) T67.heap n0 Z67 F1_w68 F2_w68 rfl) hZ (hw _ (List.mem_of_getElem? (i := 41) rfl)) (hw _ (List.mem_of_getElem? (i := 3) rfl)) (by decide) (by decide)) q69a q69c (g := (mkF m 221 #[.val (.int p1), .val (.ref b2), .val (.ref b51), .val (.int (p1 &&& (15 : Int32))), .val (.ref w68), .val (.int (0 : Int32)), .unset, .unset] [(.ref w68)])) rfl (by rw [hml]; rfl) (Steps.refl _) (argsL := []) (rest := []) (lenOf pd_0_0 rfl) rfl (by show 2 * 0 + _ ≤ _; exact Nat.le_of_eq rfl) (hb hby at_221) (fun _ _ => ⟨rfl, e67, (by decide : 2 + 0 ≤ _), (by decide : 32 + 0 ≤ _)⟩)
  dsimp only [Pt.U, Pt.locs, Pt.cells, Pt.slots] at X69 l69 y69 z69 st69 hQ69
  subst l69 y69 z69
  obtain ⟨rfl, N69q, k69q⟩ := hQ69
  have N69 := Fr.app N67 N69q
  obtain ⟨cq70, kq70, q70a, q70b, q70c⟩ := isOf hZ rfl (show Exa Z T69.heap w68 _ by rw [k69q]; exact E_w68)
  obtain ⟨_, _, ⟨T70, L70, k70, n70⟩, -, X70, ⟨Lc70, hQ70, l70, y70, z70⟩, st70⟩ := X69.virtualBack hx (y := (⟨"com/example/gauge/gauge/cli/CommandOption", "byDefault", "()Ljava/lang/String;"⟩ : MethodName)) (z := (⟨"com/example/gauge/gauge/cli/CommandOption", "byDefault", "()Ljava/lang/String;"⟩ : MethodName)) hown (mvT hZ (hw _ (List.mem_of_getElem? (i := 46) rfl))) (mvT hZ (hw _ (List.mem_of_getElem? (i := 47) rfl))) (notFace_of_selects (args := #[]) (mvT hZ (hw _ (List.mem_of_getElem? (i := 49) rfl)))) (mvT hZ (hw _ (List.mem_of_getElem? (i := 49) rfl))) (mvT hZ (hw _ (List.mem_of_getElem? (i := 48) rfl))) (by decide) (backOf (W := 0) (rm2n l Z a0 hw [] w68 T69.heap n0 (by rw [k69q]; exact Z67) (by rw [k69q]; exact F2_w68)) hZ (hw _ (List.mem_of_getElem? (i := 50) rfl)) (hw _ (List.mem_of_getElem? (i := 3) rfl)) (by decide) (by decide)) q70a q70c (g := (mkF m 228 #[.val (.int p1), .val (.ref b2), .val (.ref b51), .val (.int (p1 &&& (15 : Int32))), .val (.ref w68), .val (.int (0 : Int32)), .val (.int (1 : Int32)), .unset] [(.ref w68)])) rfl (by rw [hml]; rfl) (Steps.refl _) (argsL := []) (rest := []) (lenOf pd_0_1 rfl) rfl (by show 2 * 0 + _ ≤ _; exact Nat.le_of_eq rfl) (hb hby at_228) (fun _ _ => ⟨rfl, rfl, (by decide : 2 + 0 ≤ _), (by decide : 32 + 0 ≤ _)⟩)
  dsimp only [Pt.U, Pt.locs, Pt.cells, Pt.slots] at X70 l70 y70 z70 st70 hQ70
  subst l70 y70 z70
  obtain ⟨rfl, N70q, k70q⟩ := hQ70
  have N70 := Fr.app N69 N70q
  obtain ⟨fs, hr, hrun, hended, hW, hsame⟩ := X70.leave (v := some (.int (1 : Int32))) (fun h => by rw [Bd.returns] at h; cases h)
  refine ⟨_, _, pre0 _ ?_, hrun, hended, _, _, rfl, ?_, ⟨_, rfl⟩, hW, hsame.mono (by decide) (by decide)⟩
  · show Steps p.tables e below (s₁.setTop (mkF m 0 #[.val (.int p1), .unset, .unset, .unset, .unset, .unset, .unset, .unset] [])) _
    refine XS.bipush X0.here hx rfl (hb hby at_0) ?_
    show Steps p.tables e below (s₁.setTop (mkF m 2 #[.val (.int p1), .unset, .unset, .unset, .unset, .unset, .unset, .unset] [(.int (16 : Int32))])) _
    refine st2 _ ?_
    show Steps p.tables e below (T2.setTop (mkF m 5 #[.val (.int p1), .unset, .unset, .unset, .unset, .unset, .unset, .unset] [(.ref b2)])) _
    refine st50 _ ?_
    show Steps p.tables e below (T50.setTop (mkF m 111 #[.val (.int p1), .unset, .unset, .unset, .unset, .unset, .unset, .unset] [(.ref b2)])) _
    refine XS.astoreN X50.here hx rfl (hb hby at_111) rfl rfl (l' := #[.val (.int p1), .val (.ref b2), .unset, .unset, .unset, .unset, .unset, .unset]) rfl ?_
    show Steps p.tables e below (T50.setTop (mkF m 112 #[.val (.int p1), .val (.ref b2), .unset, .unset, .unset, .unset, .unset, .unset] [])) _
    refine XS.bipush X50.here hx rfl (hb hby at_112) ?_
    show Steps p.tables e below (T50.setTop (mkF m 114 #[.val (.int p1), .val (.ref b2), .unset, .unset, .unset, .unset, .unset, .unset] [(.int (16 : Int32))])) _
    refine st51 _ ?_
    show Steps p.tables e below (T51.setTop (mkF m 116 #[.val (.int p1), .val (.ref b2), .unset, .unset, .unset, .unset, .unset, .unset] [(.ref b51)])) _
    refine st67 _ ?_
    show Steps p.tables e below (T67.setTop (mkF m 190 #[.val (.int p1), .val (.ref b2), .unset, .unset, .unset, .unset, .unset, .unset] [(.ref b51)])) _
    refine XS.astoreN X67.here hx rfl (hb hby at_190) rfl rfl (l' := #[.val (.int p1), .val (.ref b2), .val (.ref b51), .unset, .unset, .unset, .unset, .unset]) rfl ?_
    show Steps p.tables e below (T67.setTop (mkF m 191 #[.val (.int p1), .val (.ref b2), .val (.ref b51), .unset, .unset, .unset, .unset, .unset] [])) _
    refine XS.iloadN X67.here hx rfl (hb hby at_191) rfl ?_
    show Steps p.tables e below (T67.setTop (mkF m 192 #[.val (.int p1), .val (.ref b2), .val (.ref b51), .unset, .unset, .unset, .unset, .unset] [(.int p1)])) _
    refine XS.bipush X67.here hx rfl (hb hby at_192) ?_
    show Steps p.tables e below (T67.setTop (mkF m 194 #[.val (.int p1), .val (.ref b2), .val (.ref b51), .unset, .unset, .unset, .unset, .unset] [(.int (15 : Int32)), (.int p1)])) _
    refine XS.iand X67.here hx rfl (hb hby at_194) rfl ?_
    show Steps p.tables e below (T67.setTop (mkF m 195 #[.val (.int p1), .val (.ref b2), .val (.ref b51), .unset, .unset, .unset, .unset, .unset] [(.int (p1 &&& (15 : Int32)))])) _
    refine XS.istoreN X67.here hx rfl (hb hby at_195) rfl (l' := #[.val (.int p1), .val (.ref b2), .val (.ref b51), .val (.int (p1 &&& (15 : Int32))), .unset, .unset, .unset, .unset]) rfl ?_
    show Steps p.tables e below (T67.setTop (mkF m 196 #[.val (.int p1), .val (.ref b2), .val (.ref b51), .val (.int (p1 &&& (15 : Int32))), .unset, .unset, .unset, .unset] [])) _
    refine XS.aloadN X67.here hx rfl (hb hby at_196) rfl rfl ?_
    show Steps p.tables e below (T67.setTop (mkF m 197 #[.val (.int p1), .val (.ref b2), .val (.ref b51), .val (.int (p1 &&& (15 : Int32))), .unset, .unset, .unset, .unset] [(.ref b2)])) _
    refine XS.iloadN X67.here hx rfl (hb hby at_197) rfl ?_
    show Steps p.tables e below (T67.setTop (mkF m 198 #[.val (.int p1), .val (.ref b2), .val (.ref b51), .val (.int (p1 &&& (15 : Int32))), .unset, .unset, .unset, .unset] [(.int (p1 &&& (15 : Int32))), (.ref b2)])) _
    refine X67.aaload hx (j := (p1 &&& (15 : Int32))) (v := (.ref w68)) (by rw [e67]; exact Ar_b2.1) (State.isArrayOf_alike hZ.alike Ar_b2.2.1) rfl Ar_b2.2.2 hin198 hat198 (g := (mkF m 198 #[.val (.int p1), .val (.ref b2), .val (.ref b51), .val (.int (p1 &&& (15 : Int32))), .unset, .unset, .unset, .unset] [(.int (p1 &&& (15 : Int32))), (.ref b2)])) rfl rfl (hb hby at_198) _ ?_
    show Steps p.tables e below (T67.setTop (mkF m 199 #[.val (.int p1), .val (.ref b2), .val (.ref b51), .val (.int (p1 &&& (15 : Int32))), .unset, .unset, .unset, .unset] [(.ref w68)])) _
    refine XS.astore X67.here hx rfl (hb hby at_199) rfl rfl (l' := #[.val (.int p1), .val (.ref b2), .val (.ref b51), .val (.int (p1 &&& (15 : Int32))), .val (.ref w68), .unset, .unset, .unset]) rfl ?_
    show Steps p.tables e below (T67.setTop (mkF m 201 #[.val (.int p1), .val (.ref b2), .val (.ref b51), .val (.int (p1 &&& (15 : Int32))), .val (.ref w68), .unset, .unset, .unset] [])) _
    refine XS.iloadN X67.here hx rfl (hb hby at_201) rfl ?_
    show Steps p.tables e below (T67.setTop (mkF m 202 #[.val (.int p1), .val (.ref b2), .val (.ref b51), .val (.int (p1 &&& (15 : Int32))), .val (.ref w68), .unset, .unset, .unset] [(.int (p1 &&& (15 : Int32)))])) _
    refine XS.iconst X67.here hx rfl (hb hby at_202) ?_
    show Steps p.tables e below (T67.setTop (mkF m 203 #[.val (.int p1), .val (.ref b2), .val (.ref b51), .val (.int (p1 &&& (15 : Int32))), .val (.ref w68), .unset, .unset, .unset] [(.int (3 : Int32)), (.int (p1 &&& (15 : Int32)))])) _
    refine XS.icmpNo X67.here hx rfl (hb hby at_203) rfl (feq hc203).1 ?_
    show Steps p.tables e below (T67.setTop (mkF m 206 #[.val (.int p1), .val (.ref b2), .val (.ref b51), .val (.int (p1 &&& (15 : Int32))), .val (.ref w68), .unset, .unset, .unset] [])) _
    refine XS.iloadN X67.here hx rfl (hb hby at_206) rfl ?_
    show Steps p.tables e below (T67.setTop (mkF m 207 #[.val (.int p1), .val (.ref b2), .val (.ref b51), .val (.int (p1 &&& (15 : Int32))), .val (.ref w68), .unset, .unset, .unset] [(.int (p1 &&& (15 : Int32)))])) _
    refine XS.bipush X67.here hx rfl (hb hby at_207) ?_
    show Steps p.tables e below (T67.setTop (mkF m 209 #[.val (.int p1), .val (.ref b2), .val (.ref b51), .val (.int (p1 &&& (15 : Int32))), .val (.ref w68), .unset, .unset, .unset] [(.int (11 : Int32)), (.int (p1 &&& (15 : Int32)))])) _
    refine XS.icmpYes X67.here hx rfl (pc0 := 209) (pc' := 216) rfl (hb hby at_209) rfl (feq hc209).2 (by decide) (by decide) ?_
    show Steps p.tables e below (T67.setTop (mkF m 216 #[.val (.int p1), .val (.ref b2), .val (.ref b51), .val (.int (p1 &&& (15 : Int32))), .val (.ref w68), .unset, .unset, .unset] [])) _
    refine XS.iconst X67.here hx rfl (hb hby at_216) ?_
    show Steps p.tables e below (T67.setTop (mkF m 217 #[.val (.int p1), .val (.ref b2), .val (.ref b51), .val (.int (p1 &&& (15 : Int32))), .val (.ref w68), .unset, .unset, .unset] [(.int (0 : Int32))])) _
    refine XS.istore X67.here hx rfl (hb hby at_217) rfl (l' := #[.val (.int p1), .val (.ref b2), .val (.ref b51), .val (.int (p1 &&& (15 : Int32))), .val (.ref w68), .val (.int (0 : Int32)), .unset, .unset]) rfl ?_
    show Steps p.tables e below (T67.setTop (mkF m 219 #[.val (.int p1), .val (.ref b2), .val (.ref b51), .val (.int (p1 &&& (15 : Int32))), .val (.ref w68), .val (.int (0 : Int32)), .unset, .unset] [])) _
    refine XS.aload X67.here hx rfl (hb hby at_219) rfl rfl ?_
    show Steps p.tables e below (T67.setTop (mkF m 221 #[.val (.int p1), .val (.ref b2), .val (.ref b51), .val (.int (p1 &&& (15 : Int32))), .val (.ref w68), .val (.int (0 : Int32)), .unset, .unset] [(.ref w68)])) _
    refine st69.trans ?_
    show Steps p.tables e below (T69.setTop (mkF m 224 #[.val (.int p1), .val (.ref b2), .val (.ref b51), .val (.int (p1 &&& (15 : Int32))), .val (.ref w68), .val (.int (0 : Int32)), .unset, .unset] [(.int (1 : Int32))])) _
    refine XS.istore X69.here hx rfl (hb hby at_224) rfl (l' := #[.val (.int p1), .val (.ref b2), .val (.ref b51), .val (.int (p1 &&& (15 : Int32))), .val (.ref w68), .val (.int (0 : Int32)), .val (.int (1 : Int32)), .unset]) rfl ?_
    show Steps p.tables e below (T69.setTop (mkF m 226 #[.val (.int p1), .val (.ref b2), .val (.ref b51), .val (.int (p1 &&& (15 : Int32))), .val (.ref w68), .val (.int (0 : Int32)), .val (.int (1 : Int32)), .unset] [])) _
    refine XS.aload X69.here hx rfl (hb hby at_226) rfl rfl ?_
    show Steps p.tables e below (T69.setTop (mkF m 228 #[.val (.int p1), .val (.ref b2), .val (.ref b51), .val (.int (p1 &&& (15 : Int32))), .val (.ref w68), .val (.int (0 : Int32)), .val (.int (1 : Int32)), .unset] [(.ref w68)])) _
    refine st70.trans ?_
    show Steps p.tables e below (T70.setTop (mkF m 231 #[.val (.int p1), .val (.ref b2), .val (.ref b51), .val (.int (p1 &&& (15 : Int32))), .val (.ref w68), .val (.int (0 : Int32)), .val (.int (1 : Int32)), .unset] [.null])) _
    refine XS.ifnonnullNo X70.here hx rfl (hb hby at_231) rfl ?_
    show Steps p.tables e below (T70.setTop (mkF m 234 #[.val (.int p1), .val (.ref b2), .val (.ref b51), .val (.int (p1 &&& (15 : Int32))), .val (.ref w68), .val (.int (0 : Int32)), .val (.int (1 : Int32)), .unset] [])) _
    refine XS.iconst X70.here hx rfl (hb hby at_234) ?_
    show Steps p.tables e below (T70.setTop (mkF m 235 #[.val (.int p1), .val (.ref b2), .val (.ref b51), .val (.int (p1 &&& (15 : Int32))), .val (.ref w68), .val (.int (0 : Int32)), .val (.int (1 : Int32)), .unset] [(.int (1 : Int32))])) _
    refine XS.goto X70.here hx rfl (pc0 := 235) (pc' := 239) rfl (hb hby at_235) (by decide) (by decide) ?_
    show Steps p.tables e below (T70.setTop (mkF m 239 #[.val (.int p1), .val (.ref b2), .val (.ref b51), .val (.int (p1 &&& (15 : Int32))), .val (.ref w68), .val (.int (0 : Int32)), .val (.int (1 : Int32)), .unset] [(.int (1 : Int32))])) _
    refine XS.istore X70.here hx rfl (hb hby at_239) rfl (l' := #[.val (.int p1), .val (.ref b2), .val (.ref b51), .val (.int (p1 &&& (15 : Int32))), .val (.ref w68), .val (.int (0 : Int32)), .val (.int (1 : Int32)), .val (.int (1 : Int32))]) rfl ?_
    show Steps p.tables e below (T70.setTop (mkF m 241 #[.val (.int p1), .val (.ref b2), .val (.ref b51), .val (.int (p1 &&& (15 : Int32))), .val (.ref w68), .val (.int (0 : Int32)), .val (.int (1 : Int32)), .val (.int (1 : Int32))] [])) _
    refine XS.iload X70.here hx rfl (hb hby at_241) rfl ?_
    show Steps p.tables e below (T70.setTop (mkF m 243 #[.val (.int p1), .val (.ref b2), .val (.ref b51), .val (.int (p1 &&& (15 : Int32))), .val (.ref w68), .val (.int (0 : Int32)), .val (.int (1 : Int32)), .val (.int (1 : Int32))] [(.int (1 : Int32))])) _
    refine XS.aloadN X70.here hx rfl (hb hby at_243) rfl rfl ?_
    show Steps p.tables e below (T70.setTop (mkF m 244 #[.val (.int p1), .val (.ref b2), .val (.ref b51), .val (.int (p1 &&& (15 : Int32))), .val (.ref w68), .val (.int (0 : Int32)), .val (.int (1 : Int32)), .val (.int (1 : Int32))] [(.ref b51), (.int (1 : Int32))])) _
    refine XS.iloadN X70.here hx rfl (hb hby at_244) rfl ?_
    show Steps p.tables e below (T70.setTop (mkF m 245 #[.val (.int p1), .val (.ref b2), .val (.ref b51), .val (.int (p1 &&& (15 : Int32))), .val (.ref w68), .val (.int (0 : Int32)), .val (.int (1 : Int32)), .val (.int (1 : Int32))] [(.int (p1 &&& (15 : Int32))), (.ref b51), (.int (1 : Int32))])) _
    refine X70.baloadBooleans hx (j := (p1 &&& (15 : Int32))) (v := (.int (1 : Int32))) (by rw [k70q, k69q]; exact Ar_b51.1) (State.isArrayOf_alike hZ.alike Ar_b51.2.1) Ar_b51.2.2 hin245 hat245 (g := (mkF m 245 #[.val (.int p1), .val (.ref b2), .val (.ref b51), .val (.int (p1 &&& (15 : Int32))), .val (.ref w68), .val (.int (0 : Int32)), .val (.int (1 : Int32)), .val (.int (1 : Int32))] [(.int (p1 &&& (15 : Int32))), (.ref b51), (.int (1 : Int32))])) rfl rfl (hb hby at_245) _ ?_
    show Steps p.tables e below (T70.setTop (mkF m 246 #[.val (.int p1), .val (.ref b2), .val (.ref b51), .val (.int (p1 &&& (15 : Int32))), .val (.ref w68), .val (.int (0 : Int32)), .val (.int (1 : Int32)), .val (.int (1 : Int32))] [(.int (1 : Int32)), (.int (1 : Int32))])) _
    refine XS.icmpNo X70.here hx rfl (hb hby at_246) rfl (teq (by decide : (1 : Int32) = (1 : Int32))).2 ?_
    show Steps p.tables e below (T70.setTop (mkF m 249 #[.val (.int p1), .val (.ref b2), .val (.ref b51), .val (.int (p1 &&& (15 : Int32))), .val (.ref w68), .val (.int (0 : Int32)), .val (.int (1 : Int32)), .val (.int (1 : Int32))] [])) _
    refine XS.iload X70.here hx rfl (hb hby at_249) rfl ?_
    show Steps p.tables e below (T70.setTop (mkF m 251 #[.val (.int p1), .val (.ref b2), .val (.ref b51), .val (.int (p1 &&& (15 : Int32))), .val (.ref w68), .val (.int (0 : Int32)), .val (.int (1 : Int32)), .val (.int (1 : Int32))] [(.int (1 : Int32))])) _
    refine XS.iload X70.here hx rfl (hb hby at_251) rfl ?_
    show Steps p.tables e below (T70.setTop (mkF m 253 #[.val (.int p1), .val (.ref b2), .val (.ref b51), .val (.int (p1 &&& (15 : Int32))), .val (.ref w68), .val (.int (0 : Int32)), .val (.int (1 : Int32)), .val (.int (1 : Int32))] [(.int (0 : Int32)), (.int (1 : Int32))])) _
    refine XS.ifNo X70.here hx rfl (hb hby at_253) rfl ((if0 _ _).trans (teq (rfl : (0 : Int32) = (0 : Int32))).2) ?_
    show Steps p.tables e below (T70.setTop (mkF m 256 #[.val (.int p1), .val (.ref b2), .val (.ref b51), .val (.int (p1 &&& (15 : Int32))), .val (.ref w68), .val (.int (0 : Int32)), .val (.int (1 : Int32)), .val (.int (1 : Int32))] [(.int (1 : Int32))])) _
    refine XS.iload X70.here hx rfl (hb hby at_256) rfl ?_
    show Steps p.tables e below (T70.setTop (mkF m 258 #[.val (.int p1), .val (.ref b2), .val (.ref b51), .val (.int (p1 &&& (15 : Int32))), .val (.ref w68), .val (.int (0 : Int32)), .val (.int (1 : Int32)), .val (.int (1 : Int32))] [(.int (1 : Int32)), (.int (1 : Int32))])) _
    refine XS.ifNo X70.here hx rfl (hb hby at_258) rfl ((if0 _ _).trans (feq (by decide)).1) ?_
    show Steps p.tables e below (T70.setTop (mkF m 261 #[.val (.int p1), .val (.ref b2), .val (.ref b51), .val (.int (p1 &&& (15 : Int32))), .val (.ref w68), .val (.int (0 : Int32)), .val (.int (1 : Int32)), .val (.int (1 : Int32))] [(.int (1 : Int32))])) _
    refine XS.iconst X70.here hx rfl (hb hby at_261) ?_
    show Steps p.tables e below (T70.setTop (mkF m 262 #[.val (.int p1), .val (.ref b2), .val (.ref b51), .val (.int (p1 &&& (15 : Int32))), .val (.ref w68), .val (.int (0 : Int32)), .val (.int (1 : Int32)), .val (.int (1 : Int32))] [(.int (1 : Int32)), (.int (1 : Int32))])) _
    refine XS.goto X70.here hx rfl (pc0 := 262) (pc' := 266) rfl (hb hby at_262) (by decide) (by decide) ?_
    show Steps p.tables e below (T70.setTop (mkF m 266 #[.val (.int p1), .val (.ref b2), .val (.ref b51), .val (.int (p1 &&& (15 : Int32))), .val (.ref w68), .val (.int (0 : Int32)), .val (.int (1 : Int32)), .val (.int (1 : Int32))] [(.int (1 : Int32)), (.int (1 : Int32))])) _
    refine XS.icmpNo X70.here hx rfl (hb hby at_266) rfl (teq (by decide : (1 : Int32) = (1 : Int32))).2 ?_
    show Steps p.tables e below (T70.setTop (mkF m 269 #[.val (.int p1), .val (.ref b2), .val (.ref b51), .val (.int (p1 &&& (15 : Int32))), .val (.ref w68), .val (.int (0 : Int32)), .val (.int (1 : Int32)), .val (.int (1 : Int32))] [])) _
    refine XS.iconst X70.here hx rfl (hb hby at_269) ?_
    show Steps p.tables e below (T70.setTop (mkF m 270 #[.val (.int p1), .val (.ref b2), .val (.ref b51), .val (.int (p1 &&& (15 : Int32))), .val (.ref w68), .val (.int (0 : Int32)), .val (.int (1 : Int32)), .val (.int (1 : Int32))] [(.int (1 : Int32))])) _
    refine XS.goto X70.here hx rfl (pc0 := 270) (pc' := 274) rfl (hb hby at_270) (by decide) (by decide) ?_
    show Steps p.tables e below (T70.setTop (mkF m 274 #[.val (.int p1), .val (.ref b2), .val (.ref b51), .val (.int (p1 &&& (15 : Int32))), .val (.ref w68), .val (.int (0 : Int32)), .val (.int (1 : Int32)), .val (.int (1 : Int32))] [(.int (1 : Int32))])) _
    exact retN X70 hx (t := .boolean) Bd.returns (by simp) (hb hby at_274) hr
  · show Q0c Z p1 h0 n0 _ T70.heap _
    exact ⟨rfl, N70⟩
def Q0d (Z : State) (p1 : Int32) (h0 : Heap) (n0 : Nat) (v : Option Value) (h : Heap) (L : List Loc) : Prop := v = some (.int (1 : Int32)) ∧ Fr n0 L
set_option maxRecDepth 65536 in
set_option maxHeartbeats 40000000 in
theorem rm0d (l : Launch) (Z : State) (a0 : Array Value) (hw : ∀ d ∈ tables_1, d.before a0 Z = true) (ws : List Jvm.Cond) (p1 : Int32) (W : Nat → Addr) (dv : Addr) (h0 : Heap) (n0 : Nat) (Z0 : n0 ≤ h0.size) (hS : ∀ k, k < 16 → Sta Z h0 "com/example/gauge/gauge/cli/CommandOption" (own_nm k) "Lcom/example/gauge/gauge/cli/CommandOption;" (.ref (W k))) (hE : ∀ k, k < 16 → Exa Z h0 (W k) "com/example/gauge/gauge/cli/CommandOption") (F1 : Fld Z h0 (W ((p1 &&& (15 : Int32))).toNatClampNeg) "com/example/gauge/gauge/cli/CommandOption" "optional" "Z" (.int (0 : Int32))) (F2 : Fld Z h0 (W ((p1 &&& (15 : Int32))).toNatClampNeg) "com/example/gauge/gauge/cli/CommandOption" "byDefault" "Ljava/lang/String;" (.ref dv)) (hbv : own_bv ((p1 &&& (15 : Int32))).toNatClampNeg = (0 : Int32)) (hc203 : ¬ ((p1 &&& (15 : Int32)) = (3 : Int32))) (hc209 : ¬ ((p1 &&& (15 : Int32)) = (11 : Int32))) :
    MetFree l x (head1 (Jvm.Cond.code x code maxLocals ret :: ws) room_1) (fun a U => a = #[(.int p1)] ∧ Z.Warmed39 U.vm ∧ U.heap = h0) (fun _ _ _ _ _ => True) (fun _ U o U' => ∃ v L, o = .returned v ∧ Q0d Z p1 h0 n0 v U'.heap L ∧ FrameEnd U o U' L room_1.cells room_1.slots) := by
  refine MetFree.of_bodySF (plainFor_of_name pn_0) hisR ?_
  intro p e s m args below meth c s₁ Bd hml0 hP hK
  obtain ⟨rfl, hZ, hh⟩ := hP
  have hx := Bd.exec
  have hby := Bd.bytes
  have hml : c.maxLocals = 8 := hml0
  have hown : s.vm.findClass "com/example/gauge/gauge/cli/CommandOptionRequiredPinLaw" = some m.cls := findClass_of_methodNamed Bd.named
  have hnm := (name_of_methodNamed Bd.named Bd.method).1
  have X0 : Stand p l e room_1 s m #[(.int p1)] below meth c s₁ [] 0 0 := Stand.of_body Bd
  have e0 : s₁.heap = h0 := by rw [← hh, Bd.state]; rfl
  have N0 := Fr.nil n0
  have pre0 : ∀ t, Steps p.tables e below (s₁.setTop (mkF m 0 #[.val (.int p1), .unset, .unset, .unset, .unset, .unset, .unset, .unset] [])) t → Steps p.tables e below (s₁.setTop (entryFrame m #[(.int p1)] maxLocals)) t := fun t k => castTop (ef_0 m p1) k
  obtain ⟨T2, h2, k2, X2, e2, E2, A2, O2, st2⟩ := newR X0 hx hZ hown (hw _ (List.mem_of_getElem? (i := 0) rfl)) (hw _ (List.mem_of_getElem? (i := 1) rfl)) e0 (g := (mkF m 2 #[.val (.int p1), .unset, .unset, .unset, .unset, .unset, .unset, .unset] [(.int (16 : Int32))])) rfl (hb hby at_2) rfl (by decide) (cap := 16) (by decide) (by decide) (by decide) (by decide)
  obtain ⟨b2, g2⟩ : ∃ z, z = h0.size := ⟨_, rfl⟩
  rw [← g2] at A2 st2
  have V_b2 := Arv.new A2 (by decide)
  have g_b2 : n0 ≤ b2 := Nat.le_trans Z0 (Nat.le_of_eq g2.symm)
  have sz_b2 : h0.size ≤ b2 := (Nat.le_trans (Keep.refl h0 []).1 (Nat.le_of_eq g2.symm))
  have K2 : Keep h0 h2 [] := (Keep.refl h0 []).ext E2
  obtain ⟨T50, L50, X50, I50, st50⟩ := own_filled X2 hx hZ hown hby hw (h0 := h0) (n0 := n0) (b := b2) (ka := k2) (W := W) #[.val (.int p1), .unset, .unset, .unset, .unset, .unset, .unset, .unset] (by rw [e2]; exact ⟨N0, K2, _, A2, rfl, (sz_new _ _ _).trans (by decide), fun j hj => absurd hj (Nat.not_lt_zero j)⟩) O2 g_b2 sz_b2 hS hE
  obtain ⟨h50, e50⟩ : ∃ z, T50.heap = z := ⟨_, rfl⟩
  rw [e50] at I50
  obtain ⟨N50, K50, cl, Ar50, hcl, hsz, hvs⟩ := I50
  obtain ⟨T51, h51, k51, X51, e51, E51, A51, st51⟩ := newP X50 hx hZ (hw _ (List.mem_of_getElem? (i := 36) rfl)) e50 (g := (mkF m 114 #[.val (.int p1), .val (.ref b2), .unset, .unset, .unset, .unset, .unset, .unset] [(.int (16 : Int32))])) rfl (hb hby at_114) rfl (by decide) (cap := 16) (by decide) (by decide) (by decide) (by decide)
  obtain ⟨b51, g51⟩ : ∃ z, z = h50.size := ⟨_, rfl⟩
  rw [← g51] at A51 st51
  have g_b51 : n0 ≤ b51 := Nat.le_trans Z0 (Nat.le_trans K50.1 (Nat.le_of_eq g51.symm))
  obtain ⟨T67, L67, X67, I67, st67⟩ := own_filledZ X51 hx hZ hby (h0 := h50) (n0 := n0) (b := b51) #[.val (.int p1), .val (.ref b2), .unset, .unset, .unset, .unset, .unset, .unset] (by rw [e51]; exact ⟨N50, (Keep.refl h50 []).ext E51, _, A51, (sz_new _ _ _).trans (by decide), fun j hj => absurd hj (Nat.not_lt_zero j)⟩) g_b51 (Nat.le_of_eq g51.symm)
  obtain ⟨N67, K67', clz, Ar_b51, hszz, hvz⟩ := I67
  have K67 : Keep h0 T67.heap [] := K50.trans K67' (fun _ q => nomatch q)
  have e67 : T67.heap = T67.heap := rfl
  have Ar_b2 : Arr Z T67.heap b2 cl (.object "com/example/gauge/gauge/cli/CommandOption") := ⟨K67'.2.1 _ _ Ar50.1 nin0, Ar50.2⟩
  obtain ⟨i1, i2, i3, i4⟩ := own_idx p1
  obtain ⟨w68, hw68⟩ : ∃ z, z = W ((p1 &&& (15 : Int32))).toNatClampNeg := ⟨_, rfl⟩
  have hin198 : ¬ ((p1 &&& (15 : Int32)) < 0 ∨ cl.slots.size ≤ ((p1 &&& (15 : Int32))).toNatClampNeg) := by rw [hsz]; exact fun q => q.elim i1 (fun r => absurd i2 (Nat.not_lt.mpr r))
  have hat198 : cl.slots[((p1 &&& (15 : Int32))).toNatClampNeg]? = some (.ref w68) := by rw [hw68]; exact hvs _ i2
  have hin245 : ¬ ((p1 &&& (15 : Int32)) < 0 ∨ clz.slots.size ≤ ((p1 &&& (15 : Int32))).toNatClampNeg) := by rw [hszz]; exact fun q => q.elim i1 (fun r => absurd i2 (Nat.not_lt.mpr r))
  have hat245 : clz.slots[((p1 &&& (15 : Int32))).toNatClampNeg]? = some (.int (0 : Int32)) := by rw [← hbv]; exact hvz _ i2
  have E_w68 : Exa Z T67.heap w68 "com/example/gauge/gauge/cli/CommandOption" := by rw [hw68]; exact (hE _ i2).keep K67
  have F1_w68 : Fld Z T67.heap w68 "com/example/gauge/gauge/cli/CommandOption" "optional" "Z" (.int (0 : Int32)) := by rw [hw68]; exact F1.keep K67 nin0
  have F2_w68 : Fld Z T67.heap w68 "com/example/gauge/gauge/cli/CommandOption" "byDefault" "Ljava/lang/String;" (.ref dv) := by rw [hw68]; exact F2.keep K67 nin0
  have Z67 : n0 ≤ T67.heap.size := Nat.le_trans Z0 K67.1
  obtain ⟨cq69, kq69, q69a, q69b, q69c⟩ := isOf hZ e67 E_w68
  obtain ⟨_, _, ⟨T69, L69, k69, n69⟩, -, X69, ⟨Lc69, hQ69, l69, y69, z69⟩, st69⟩ := X67.virtualBack hx (y := (⟨"com/example/gauge/gauge/cli/CommandOption", "required", "()Z"⟩ : MethodName)) (z := (⟨"com/example/gauge/gauge/cli/CommandOption", "required", "()Z"⟩ : MethodName)) hown (mvT hZ (hw _ (List.mem_of_getElem? (i := 37) rfl))) (mvT hZ (hw _ (List.mem_of_getElem? (i := 38) rfl))) (notFace_of_selects (args := #[]) (mvT hZ (hw _ (List.mem_of_getElem? (i := 40) rfl)))) (mvT hZ (hw _ (List.mem_of_getElem? (i := 40) rfl))) (mvT hZ (hw _ (List.mem_of_getElem? (i := 39) rfl))) (by decide) (backOf (W := 0) (rm1d l Z a0 hw [] w68 (0 : Int32) dv T67.heap n0 Z67 F1_w68 F2_w68 rfl) hZ (hw _ (List.mem_of_getElem? (i := 41) rfl)) (hw _ (List.mem_of_getElem? (i := 3) rfl)) (by decide) (by decide)) q69a q69c (g := (mkF m 221 #[.val (.int p1), .val (.ref b2), .val (.ref b51), .val (.int (p1 &&& (15 : Int32))), .val (.ref w68), .val (.int (0 : Int32)), .unset, .unset] [(.ref w68)])) rfl (by rw [hml]; rfl) (Steps.refl _) (argsL := []) (rest := []) (lenOf pd_0_0 rfl) rfl (by show 2 * 0 + _ ≤ _; exact Nat.le_of_eq rfl) (hb hby at_221) (fun _ _ => ⟨rfl, e67, (by decide : 2 + 0 ≤ _), (by decide : 32 + 0 ≤ _)⟩)
  dsimp only [Pt.U, Pt.locs, Pt.cells, Pt.slots] at X69 l69 y69 z69 st69 hQ69
  subst l69 y69 z69
  obtain ⟨rfl, N69q, k69q⟩ := hQ69
  have N69 := Fr.app N67 N69q
  obtain ⟨cq70, kq70, q70a, q70b, q70c⟩ := isOf hZ rfl (show Exa Z T69.heap w68 _ by rw [k69q]; exact E_w68)
  obtain ⟨_, _, ⟨T70, L70, k70, n70⟩, -, X70, ⟨Lc70, hQ70, l70, y70, z70⟩, st70⟩ := X69.virtualBack hx (y := (⟨"com/example/gauge/gauge/cli/CommandOption", "byDefault", "()Ljava/lang/String;"⟩ : MethodName)) (z := (⟨"com/example/gauge/gauge/cli/CommandOption", "byDefault", "()Ljava/lang/String;"⟩ : MethodName)) hown (mvT hZ (hw _ (List.mem_of_getElem? (i := 46) rfl))) (mvT hZ (hw _ (List.mem_of_getElem? (i := 47) rfl))) (notFace_of_selects (args := #[]) (mvT hZ (hw _ (List.mem_of_getElem? (i := 49) rfl)))) (mvT hZ (hw _ (List.mem_of_getElem? (i := 49) rfl))) (mvT hZ (hw _ (List.mem_of_getElem? (i := 48) rfl))) (by decide) (backOf (W := 0) (rm2r l Z a0 hw [] w68 dv T69.heap n0 (by rw [k69q]; exact Z67) (by rw [k69q]; exact F2_w68)) hZ (hw _ (List.mem_of_getElem? (i := 50) rfl)) (hw _ (List.mem_of_getElem? (i := 3) rfl)) (by decide) (by decide)) q70a q70c (g := (mkF m 228 #[.val (.int p1), .val (.ref b2), .val (.ref b51), .val (.int (p1 &&& (15 : Int32))), .val (.ref w68), .val (.int (0 : Int32)), .val (.int (0 : Int32)), .unset] [(.ref w68)])) rfl (by rw [hml]; rfl) (Steps.refl _) (argsL := []) (rest := []) (lenOf pd_0_1 rfl) rfl (by show 2 * 0 + _ ≤ _; exact Nat.le_of_eq rfl) (hb hby at_228) (fun _ _ => ⟨rfl, rfl, (by decide : 2 + 0 ≤ _), (by decide : 32 + 0 ≤ _)⟩)
  dsimp only [Pt.U, Pt.locs, Pt.cells, Pt.slots] at X70 l70 y70 z70 st70 hQ70
  subst l70 y70 z70
  obtain ⟨rfl, N70q, k70q⟩ := hQ70
  have N70 := Fr.app N69 N70q
  obtain ⟨fs, hr, hrun, hended, hW, hsame⟩ := X70.leave (v := some (.int (1 : Int32))) (fun h => by rw [Bd.returns] at h; cases h)
  refine ⟨_, _, pre0 _ ?_, hrun, hended, _, _, rfl, ?_, ⟨_, rfl⟩, hW, hsame.mono (by decide) (by decide)⟩
  · show Steps p.tables e below (s₁.setTop (mkF m 0 #[.val (.int p1), .unset, .unset, .unset, .unset, .unset, .unset, .unset] [])) _
    refine XS.bipush X0.here hx rfl (hb hby at_0) ?_
    show Steps p.tables e below (s₁.setTop (mkF m 2 #[.val (.int p1), .unset, .unset, .unset, .unset, .unset, .unset, .unset] [(.int (16 : Int32))])) _
    refine st2 _ ?_
    show Steps p.tables e below (T2.setTop (mkF m 5 #[.val (.int p1), .unset, .unset, .unset, .unset, .unset, .unset, .unset] [(.ref b2)])) _
    refine st50 _ ?_
    show Steps p.tables e below (T50.setTop (mkF m 111 #[.val (.int p1), .unset, .unset, .unset, .unset, .unset, .unset, .unset] [(.ref b2)])) _
    refine XS.astoreN X50.here hx rfl (hb hby at_111) rfl rfl (l' := #[.val (.int p1), .val (.ref b2), .unset, .unset, .unset, .unset, .unset, .unset]) rfl ?_
    show Steps p.tables e below (T50.setTop (mkF m 112 #[.val (.int p1), .val (.ref b2), .unset, .unset, .unset, .unset, .unset, .unset] [])) _
    refine XS.bipush X50.here hx rfl (hb hby at_112) ?_
    show Steps p.tables e below (T50.setTop (mkF m 114 #[.val (.int p1), .val (.ref b2), .unset, .unset, .unset, .unset, .unset, .unset] [(.int (16 : Int32))])) _
    refine st51 _ ?_
    show Steps p.tables e below (T51.setTop (mkF m 116 #[.val (.int p1), .val (.ref b2), .unset, .unset, .unset, .unset, .unset, .unset] [(.ref b51)])) _
    refine st67 _ ?_
    show Steps p.tables e below (T67.setTop (mkF m 190 #[.val (.int p1), .val (.ref b2), .unset, .unset, .unset, .unset, .unset, .unset] [(.ref b51)])) _
    refine XS.astoreN X67.here hx rfl (hb hby at_190) rfl rfl (l' := #[.val (.int p1), .val (.ref b2), .val (.ref b51), .unset, .unset, .unset, .unset, .unset]) rfl ?_
    show Steps p.tables e below (T67.setTop (mkF m 191 #[.val (.int p1), .val (.ref b2), .val (.ref b51), .unset, .unset, .unset, .unset, .unset] [])) _
    refine XS.iloadN X67.here hx rfl (hb hby at_191) rfl ?_
    show Steps p.tables e below (T67.setTop (mkF m 192 #[.val (.int p1), .val (.ref b2), .val (.ref b51), .unset, .unset, .unset, .unset, .unset] [(.int p1)])) _
    refine XS.bipush X67.here hx rfl (hb hby at_192) ?_
    show Steps p.tables e below (T67.setTop (mkF m 194 #[.val (.int p1), .val (.ref b2), .val (.ref b51), .unset, .unset, .unset, .unset, .unset] [(.int (15 : Int32)), (.int p1)])) _
    refine XS.iand X67.here hx rfl (hb hby at_194) rfl ?_
    show Steps p.tables e below (T67.setTop (mkF m 195 #[.val (.int p1), .val (.ref b2), .val (.ref b51), .unset, .unset, .unset, .unset, .unset] [(.int (p1 &&& (15 : Int32)))])) _
    refine XS.istoreN X67.here hx rfl (hb hby at_195) rfl (l' := #[.val (.int p1), .val (.ref b2), .val (.ref b51), .val (.int (p1 &&& (15 : Int32))), .unset, .unset, .unset, .unset]) rfl ?_
    show Steps p.tables e below (T67.setTop (mkF m 196 #[.val (.int p1), .val (.ref b2), .val (.ref b51), .val (.int (p1 &&& (15 : Int32))), .unset, .unset, .unset, .unset] [])) _
    refine XS.aloadN X67.here hx rfl (hb hby at_196) rfl rfl ?_
    show Steps p.tables e below (T67.setTop (mkF m 197 #[.val (.int p1), .val (.ref b2), .val (.ref b51), .val (.int (p1 &&& (15 : Int32))), .unset, .unset, .unset, .unset] [(.ref b2)])) _
    refine XS.iloadN X67.here hx rfl (hb hby at_197) rfl ?_
    show Steps p.tables e below (T67.setTop (mkF m 198 #[.val (.int p1), .val (.ref b2), .val (.ref b51), .val (.int (p1 &&& (15 : Int32))), .unset, .unset, .unset, .unset] [(.int (p1 &&& (15 : Int32))), (.ref b2)])) _
    refine X67.aaload hx (j := (p1 &&& (15 : Int32))) (v := (.ref w68)) (by rw [e67]; exact Ar_b2.1) (State.isArrayOf_alike hZ.alike Ar_b2.2.1) rfl Ar_b2.2.2 hin198 hat198 (g := (mkF m 198 #[.val (.int p1), .val (.ref b2), .val (.ref b51), .val (.int (p1 &&& (15 : Int32))), .unset, .unset, .unset, .unset] [(.int (p1 &&& (15 : Int32))), (.ref b2)])) rfl rfl (hb hby at_198) _ ?_
    show Steps p.tables e below (T67.setTop (mkF m 199 #[.val (.int p1), .val (.ref b2), .val (.ref b51), .val (.int (p1 &&& (15 : Int32))), .unset, .unset, .unset, .unset] [(.ref w68)])) _
    refine XS.astore X67.here hx rfl (hb hby at_199) rfl rfl (l' := #[.val (.int p1), .val (.ref b2), .val (.ref b51), .val (.int (p1 &&& (15 : Int32))), .val (.ref w68), .unset, .unset, .unset]) rfl ?_
    show Steps p.tables e below (T67.setTop (mkF m 201 #[.val (.int p1), .val (.ref b2), .val (.ref b51), .val (.int (p1 &&& (15 : Int32))), .val (.ref w68), .unset, .unset, .unset] [])) _
    refine XS.iloadN X67.here hx rfl (hb hby at_201) rfl ?_
    show Steps p.tables e below (T67.setTop (mkF m 202 #[.val (.int p1), .val (.ref b2), .val (.ref b51), .val (.int (p1 &&& (15 : Int32))), .val (.ref w68), .unset, .unset, .unset] [(.int (p1 &&& (15 : Int32)))])) _
    refine XS.iconst X67.here hx rfl (hb hby at_202) ?_
    show Steps p.tables e below (T67.setTop (mkF m 203 #[.val (.int p1), .val (.ref b2), .val (.ref b51), .val (.int (p1 &&& (15 : Int32))), .val (.ref w68), .unset, .unset, .unset] [(.int (3 : Int32)), (.int (p1 &&& (15 : Int32)))])) _
    refine XS.icmpNo X67.here hx rfl (hb hby at_203) rfl (feq hc203).1 ?_
    show Steps p.tables e below (T67.setTop (mkF m 206 #[.val (.int p1), .val (.ref b2), .val (.ref b51), .val (.int (p1 &&& (15 : Int32))), .val (.ref w68), .unset, .unset, .unset] [])) _
    refine XS.iloadN X67.here hx rfl (hb hby at_206) rfl ?_
    show Steps p.tables e below (T67.setTop (mkF m 207 #[.val (.int p1), .val (.ref b2), .val (.ref b51), .val (.int (p1 &&& (15 : Int32))), .val (.ref w68), .unset, .unset, .unset] [(.int (p1 &&& (15 : Int32)))])) _
    refine XS.bipush X67.here hx rfl (hb hby at_207) ?_
    show Steps p.tables e below (T67.setTop (mkF m 209 #[.val (.int p1), .val (.ref b2), .val (.ref b51), .val (.int (p1 &&& (15 : Int32))), .val (.ref w68), .unset, .unset, .unset] [(.int (11 : Int32)), (.int (p1 &&& (15 : Int32)))])) _
    refine XS.icmpYes X67.here hx rfl (pc0 := 209) (pc' := 216) rfl (hb hby at_209) rfl (feq hc209).2 (by decide) (by decide) ?_
    show Steps p.tables e below (T67.setTop (mkF m 216 #[.val (.int p1), .val (.ref b2), .val (.ref b51), .val (.int (p1 &&& (15 : Int32))), .val (.ref w68), .unset, .unset, .unset] [])) _
    refine XS.iconst X67.here hx rfl (hb hby at_216) ?_
    show Steps p.tables e below (T67.setTop (mkF m 217 #[.val (.int p1), .val (.ref b2), .val (.ref b51), .val (.int (p1 &&& (15 : Int32))), .val (.ref w68), .unset, .unset, .unset] [(.int (0 : Int32))])) _
    refine XS.istore X67.here hx rfl (hb hby at_217) rfl (l' := #[.val (.int p1), .val (.ref b2), .val (.ref b51), .val (.int (p1 &&& (15 : Int32))), .val (.ref w68), .val (.int (0 : Int32)), .unset, .unset]) rfl ?_
    show Steps p.tables e below (T67.setTop (mkF m 219 #[.val (.int p1), .val (.ref b2), .val (.ref b51), .val (.int (p1 &&& (15 : Int32))), .val (.ref w68), .val (.int (0 : Int32)), .unset, .unset] [])) _
    refine XS.aload X67.here hx rfl (hb hby at_219) rfl rfl ?_
    show Steps p.tables e below (T67.setTop (mkF m 221 #[.val (.int p1), .val (.ref b2), .val (.ref b51), .val (.int (p1 &&& (15 : Int32))), .val (.ref w68), .val (.int (0 : Int32)), .unset, .unset] [(.ref w68)])) _
    refine st69.trans ?_
    show Steps p.tables e below (T69.setTop (mkF m 224 #[.val (.int p1), .val (.ref b2), .val (.ref b51), .val (.int (p1 &&& (15 : Int32))), .val (.ref w68), .val (.int (0 : Int32)), .unset, .unset] [(.int (0 : Int32))])) _
    refine XS.istore X69.here hx rfl (hb hby at_224) rfl (l' := #[.val (.int p1), .val (.ref b2), .val (.ref b51), .val (.int (p1 &&& (15 : Int32))), .val (.ref w68), .val (.int (0 : Int32)), .val (.int (0 : Int32)), .unset]) rfl ?_
    show Steps p.tables e below (T69.setTop (mkF m 226 #[.val (.int p1), .val (.ref b2), .val (.ref b51), .val (.int (p1 &&& (15 : Int32))), .val (.ref w68), .val (.int (0 : Int32)), .val (.int (0 : Int32)), .unset] [])) _
    refine XS.aload X69.here hx rfl (hb hby at_226) rfl rfl ?_
    show Steps p.tables e below (T69.setTop (mkF m 228 #[.val (.int p1), .val (.ref b2), .val (.ref b51), .val (.int (p1 &&& (15 : Int32))), .val (.ref w68), .val (.int (0 : Int32)), .val (.int (0 : Int32)), .unset] [(.ref w68)])) _
    refine st70.trans ?_
    show Steps p.tables e below (T70.setTop (mkF m 231 #[.val (.int p1), .val (.ref b2), .val (.ref b51), .val (.int (p1 &&& (15 : Int32))), .val (.ref w68), .val (.int (0 : Int32)), .val (.int (0 : Int32)), .unset] [(.ref dv)])) _
    refine XS.ifnonnullYes X70.here hx rfl (pc0 := 231) (pc' := 238) rfl (hb hby at_231) rfl (by decide) (by decide) ?_
    show Steps p.tables e below (T70.setTop (mkF m 238 #[.val (.int p1), .val (.ref b2), .val (.ref b51), .val (.int (p1 &&& (15 : Int32))), .val (.ref w68), .val (.int (0 : Int32)), .val (.int (0 : Int32)), .unset] [])) _
    refine XS.iconst X70.here hx rfl (hb hby at_238) ?_
    show Steps p.tables e below (T70.setTop (mkF m 239 #[.val (.int p1), .val (.ref b2), .val (.ref b51), .val (.int (p1 &&& (15 : Int32))), .val (.ref w68), .val (.int (0 : Int32)), .val (.int (0 : Int32)), .unset] [(.int (0 : Int32))])) _
    refine XS.istore X70.here hx rfl (hb hby at_239) rfl (l' := #[.val (.int p1), .val (.ref b2), .val (.ref b51), .val (.int (p1 &&& (15 : Int32))), .val (.ref w68), .val (.int (0 : Int32)), .val (.int (0 : Int32)), .val (.int (0 : Int32))]) rfl ?_
    show Steps p.tables e below (T70.setTop (mkF m 241 #[.val (.int p1), .val (.ref b2), .val (.ref b51), .val (.int (p1 &&& (15 : Int32))), .val (.ref w68), .val (.int (0 : Int32)), .val (.int (0 : Int32)), .val (.int (0 : Int32))] [])) _
    refine XS.iload X70.here hx rfl (hb hby at_241) rfl ?_
    show Steps p.tables e below (T70.setTop (mkF m 243 #[.val (.int p1), .val (.ref b2), .val (.ref b51), .val (.int (p1 &&& (15 : Int32))), .val (.ref w68), .val (.int (0 : Int32)), .val (.int (0 : Int32)), .val (.int (0 : Int32))] [(.int (0 : Int32))])) _
    refine XS.aloadN X70.here hx rfl (hb hby at_243) rfl rfl ?_
    show Steps p.tables e below (T70.setTop (mkF m 244 #[.val (.int p1), .val (.ref b2), .val (.ref b51), .val (.int (p1 &&& (15 : Int32))), .val (.ref w68), .val (.int (0 : Int32)), .val (.int (0 : Int32)), .val (.int (0 : Int32))] [(.ref b51), (.int (0 : Int32))])) _
    refine XS.iloadN X70.here hx rfl (hb hby at_244) rfl ?_
    show Steps p.tables e below (T70.setTop (mkF m 245 #[.val (.int p1), .val (.ref b2), .val (.ref b51), .val (.int (p1 &&& (15 : Int32))), .val (.ref w68), .val (.int (0 : Int32)), .val (.int (0 : Int32)), .val (.int (0 : Int32))] [(.int (p1 &&& (15 : Int32))), (.ref b51), (.int (0 : Int32))])) _
    refine X70.baloadBooleans hx (j := (p1 &&& (15 : Int32))) (v := (.int (0 : Int32))) (by rw [k70q, k69q]; exact Ar_b51.1) (State.isArrayOf_alike hZ.alike Ar_b51.2.1) Ar_b51.2.2 hin245 hat245 (g := (mkF m 245 #[.val (.int p1), .val (.ref b2), .val (.ref b51), .val (.int (p1 &&& (15 : Int32))), .val (.ref w68), .val (.int (0 : Int32)), .val (.int (0 : Int32)), .val (.int (0 : Int32))] [(.int (p1 &&& (15 : Int32))), (.ref b51), (.int (0 : Int32))])) rfl rfl (hb hby at_245) _ ?_
    show Steps p.tables e below (T70.setTop (mkF m 246 #[.val (.int p1), .val (.ref b2), .val (.ref b51), .val (.int (p1 &&& (15 : Int32))), .val (.ref w68), .val (.int (0 : Int32)), .val (.int (0 : Int32)), .val (.int (0 : Int32))] [(.int (0 : Int32)), (.int (0 : Int32))])) _
    refine XS.icmpNo X70.here hx rfl (hb hby at_246) rfl (teq (by decide : (0 : Int32) = (0 : Int32))).2 ?_
    show Steps p.tables e below (T70.setTop (mkF m 249 #[.val (.int p1), .val (.ref b2), .val (.ref b51), .val (.int (p1 &&& (15 : Int32))), .val (.ref w68), .val (.int (0 : Int32)), .val (.int (0 : Int32)), .val (.int (0 : Int32))] [])) _
    refine XS.iload X70.here hx rfl (hb hby at_249) rfl ?_
    show Steps p.tables e below (T70.setTop (mkF m 251 #[.val (.int p1), .val (.ref b2), .val (.ref b51), .val (.int (p1 &&& (15 : Int32))), .val (.ref w68), .val (.int (0 : Int32)), .val (.int (0 : Int32)), .val (.int (0 : Int32))] [(.int (0 : Int32))])) _
    refine XS.iload X70.here hx rfl (hb hby at_251) rfl ?_
    show Steps p.tables e below (T70.setTop (mkF m 253 #[.val (.int p1), .val (.ref b2), .val (.ref b51), .val (.int (p1 &&& (15 : Int32))), .val (.ref w68), .val (.int (0 : Int32)), .val (.int (0 : Int32)), .val (.int (0 : Int32))] [(.int (0 : Int32)), (.int (0 : Int32))])) _
    refine XS.ifNo X70.here hx rfl (hb hby at_253) rfl ((if0 _ _).trans (teq (rfl : (0 : Int32) = (0 : Int32))).2) ?_
    show Steps p.tables e below (T70.setTop (mkF m 256 #[.val (.int p1), .val (.ref b2), .val (.ref b51), .val (.int (p1 &&& (15 : Int32))), .val (.ref w68), .val (.int (0 : Int32)), .val (.int (0 : Int32)), .val (.int (0 : Int32))] [(.int (0 : Int32))])) _
    refine XS.iload X70.here hx rfl (hb hby at_256) rfl ?_
    show Steps p.tables e below (T70.setTop (mkF m 258 #[.val (.int p1), .val (.ref b2), .val (.ref b51), .val (.int (p1 &&& (15 : Int32))), .val (.ref w68), .val (.int (0 : Int32)), .val (.int (0 : Int32)), .val (.int (0 : Int32))] [(.int (0 : Int32)), (.int (0 : Int32))])) _
    refine XS.ifYes X70.here hx rfl (pc0 := 258) (pc' := 265) rfl (hb hby at_258) rfl ((if0 _ _).trans (teq (rfl : (0 : Int32) = (0 : Int32))).1) (by decide) (by decide) ?_
    show Steps p.tables e below (T70.setTop (mkF m 265 #[.val (.int p1), .val (.ref b2), .val (.ref b51), .val (.int (p1 &&& (15 : Int32))), .val (.ref w68), .val (.int (0 : Int32)), .val (.int (0 : Int32)), .val (.int (0 : Int32))] [(.int (0 : Int32))])) _
    refine XS.iconst X70.here hx rfl (hb hby at_265) ?_
    show Steps p.tables e below (T70.setTop (mkF m 266 #[.val (.int p1), .val (.ref b2), .val (.ref b51), .val (.int (p1 &&& (15 : Int32))), .val (.ref w68), .val (.int (0 : Int32)), .val (.int (0 : Int32)), .val (.int (0 : Int32))] [(.int (0 : Int32)), (.int (0 : Int32))])) _
    refine XS.icmpNo X70.here hx rfl (hb hby at_266) rfl (teq (by decide : (0 : Int32) = (0 : Int32))).2 ?_
    show Steps p.tables e below (T70.setTop (mkF m 269 #[.val (.int p1), .val (.ref b2), .val (.ref b51), .val (.int (p1 &&& (15 : Int32))), .val (.ref w68), .val (.int (0 : Int32)), .val (.int (0 : Int32)), .val (.int (0 : Int32))] [])) _
    refine XS.iconst X70.here hx rfl (hb hby at_269) ?_
    show Steps p.tables e below (T70.setTop (mkF m 270 #[.val (.int p1), .val (.ref b2), .val (.ref b51), .val (.int (p1 &&& (15 : Int32))), .val (.ref w68), .val (.int (0 : Int32)), .val (.int (0 : Int32)), .val (.int (0 : Int32))] [(.int (1 : Int32))])) _
    refine XS.goto X70.here hx rfl (pc0 := 270) (pc' := 274) rfl (hb hby at_270) (by decide) (by decide) ?_
    show Steps p.tables e below (T70.setTop (mkF m 274 #[.val (.int p1), .val (.ref b2), .val (.ref b51), .val (.int (p1 &&& (15 : Int32))), .val (.ref w68), .val (.int (0 : Int32)), .val (.int (0 : Int32)), .val (.int (0 : Int32))] [(.int (1 : Int32))])) _
    exact retN X70 hx (t := .boolean) Bd.returns (by simp) (hb hby at_274) hr
  · show Q0d Z p1 h0 n0 _ T70.heap _
    exact ⟨rfl, N70⟩
set_option maxRecDepth 65536 in
set_option maxHeartbeats 40000000 in
theorem comes_1 {Post : Tables → Env → Array Value → State → Outcome → State → Prop} (hpost : ∀ tb e args s v u, (limb_1_1.after args s (.returned v) u = true ∧ limb_1_2.after args s (.returned v) u = true ∧ True) → FrameEnd s (.returned v) u (Jvm.fieldLocs frame_1_writes args s ++ Jvm.arrayLocs frame_1_arrays args s ++ Jvm.staticLocs frame_1_statics s) 16 128 → Post tb e args s (.returned v) u) :
    ArmFor flags0 classFile x code maxLocals ret World_1 tables_1 room_1 Calls_1 rest_1 Pre_1 Post := by
  intro l hfl _ _ p e ha hc hk s m args below hf hA hF happ hP
  obtain ⟨hcalls, hrest, hpre⟩ := hP
  obtain ⟨-, -, -, hnamed, -, -, -, hat⟩ := (Spec.applies_iff hf).mp happ
  obtain ⟨hg, hn⟩ := and_e (Cond.before_iff.mp (show (Jvm.Cond.and given_1 narrow_1).before args s = true from hpre))
  obtain ⟨g72, g73⟩ := and_e hg
  obtain ⟨w0, rfl⟩ : ∃ w0 : Value, args = #[w0] := by
    have hs : args.size = 1 := by simpa [Cond.value, given_1] using g72
    obtain ⟨L⟩ := args
    match L, hs with
    | [w0], _ => exact ⟨w0, rfl⟩
  have hw := fun d (hd : d ∈ tables_1) => atoms_spec (ws := Jvm.Cond.code x code maxLocals ret :: tables_1) hat d (List.mem_cons_of_mem _ hd)
  have hfit : Fit s := fun {y c} hc i hi => by
    obtain ⟨ha, rfl⟩ := Array.getElem?_eq_some_iff.mp hc
    have q := List.all_eq_true.mp ((Array.all_eq_true_iff_forall_mem.mp hF) _ (Array.getElem_mem ha)) i (List.mem_range.mpr hi)
    simpa [Array.getElem?_eq_getElem hi] using q
  obtain ⟨i0, ei0⟩ := is_v g73
  obtain rfl : w0 = (.int i0) := Option.some.inj ei0
  obtain ⟨n0, hn⟩ := and_e hn
  obtain ⟨n1, hn⟩ := and_e hn
  obtain ⟨n2, hn⟩ := and_e hn
  obtain ⟨n3, hn⟩ := and_e hn
  obtain ⟨n4, hn⟩ := and_e hn
  obtain ⟨n5, hn⟩ := and_e hn
  obtain ⟨n6, hn⟩ := and_e hn
  obtain ⟨n7, hn⟩ := and_e hn
  obtain ⟨n8, hn⟩ := and_e hn
  obtain ⟨n9, hn⟩ := and_e hn
  obtain ⟨n10, hn⟩ := and_e hn
  obtain ⟨n11, hn⟩ := and_e hn
  obtain ⟨n12, hn⟩ := and_e hn
  obtain ⟨n13, hn⟩ := and_e hn
  obtain ⟨n14, hn⟩ := and_e hn
  obtain ⟨n15, hn⟩ := and_e hn
  obtain ⟨n16, hn⟩ := and_e hn
  obtain ⟨n17, hn⟩ := and_e hn
  obtain ⟨n18, hn⟩ := and_e hn
  obtain ⟨n19, hn⟩ := and_e hn
  obtain ⟨n20, hn⟩ := and_e hn
  obtain ⟨n21, hn⟩ := and_e hn
  obtain ⟨n22, hn⟩ := and_e hn
  obtain ⟨n23, hn⟩ := and_e hn
  obtain ⟨n24, hn⟩ := and_e hn
  obtain ⟨n25, hn⟩ := and_e hn
  obtain ⟨n26, hn⟩ := and_e hn
  obtain ⟨n27, hn⟩ := and_e hn
  obtain ⟨n28, hn⟩ := and_e hn
  obtain ⟨n29, hn⟩ := and_e hn
  obtain ⟨n30, hn⟩ := and_e hn
  obtain ⟨n31, hn⟩ := and_e hn
  obtain ⟨n32, hn⟩ := and_e hn
  obtain ⟨n33, hn⟩ := and_e hn
  obtain ⟨n34, hn⟩ := and_e hn
  obtain ⟨n35, hn⟩ := and_e hn
  obtain ⟨n36, hn⟩ := and_e hn
  obtain ⟨n37, hn⟩ := and_e hn
  obtain ⟨n38, hn⟩ := and_e hn
  obtain ⟨n39, hn⟩ := and_e hn
  obtain ⟨n40, hn⟩ := and_e hn
  obtain ⟨n41, hn⟩ := and_e hn
  obtain ⟨n42, hn⟩ := and_e hn
  obtain ⟨n43, hn⟩ := and_e hn
  obtain ⟨n44, hn⟩ := and_e hn
  obtain ⟨n45, hn⟩ := and_e hn
  obtain ⟨n46, hn⟩ := and_e hn
  have n47 := hn
  have hini := hw _ (List.mem_of_getElem? (i := 3) rfl)
  obtain ⟨a_0, v_0, s_0, x_0⟩ := own_sta n0 hini (hw _ (List.mem_of_getElem? (i := 4) rfl))
  have f_0 := own_fint v_0 n16
  have d_0 := own_fnull v_0 n17
  obtain ⟨a_1, v_1, s_1, x_1⟩ := own_sta n1 hini (hw _ (List.mem_of_getElem? (i := 7) rfl))
  have f_1 := own_fint v_1 n34
  have d_1 := own_fnull v_1 n35
  obtain ⟨a_2, v_2, s_2, x_2⟩ := own_sta n2 hini (hw _ (List.mem_of_getElem? (i := 9) rfl))
  have f_2 := own_fint v_2 n28
  have d_2 := own_fnull v_2 n29
  obtain ⟨a_3, v_3, s_3, x_3⟩ := own_sta n3 hini (hw _ (List.mem_of_getElem? (i := 11) rfl))
  have f_3 := own_fint v_3 n18
  have d_3 := own_fnull v_3 n19
  obtain ⟨a_4, v_4, s_4, x_4⟩ := own_sta n4 hini (hw _ (List.mem_of_getElem? (i := 13) rfl))
  have f_4 := own_fint v_4 n36
  have d_4 := own_fref v_4 n37
  obtain ⟨a_5, v_5, s_5, x_5⟩ := own_sta n5 hini (hw _ (List.mem_of_getElem? (i := 15) rfl))
  have f_5 := own_fint v_5 n46
  have d_5 := own_fref v_5 n47
  obtain ⟨a_6, v_6, s_6, x_6⟩ := own_sta n6 hini (hw _ (List.mem_of_getElem? (i := 17) rfl))
  have f_6 := own_fint v_6 n42
  have d_6 := own_fref v_6 n43
  obtain ⟨a_7, v_7, s_7, x_7⟩ := own_sta n7 hini (hw _ (List.mem_of_getElem? (i := 19) rfl))
  have f_7 := own_fint v_7 n26
  have d_7 := own_fref v_7 n27
  obtain ⟨a_8, v_8, s_8, x_8⟩ := own_sta n8 hini (hw _ (List.mem_of_getElem? (i := 21) rfl))
  have f_8 := own_fint v_8 n32
  have d_8 := own_fref v_8 n33
  obtain ⟨a_9, v_9, s_9, x_9⟩ := own_sta n9 hini (hw _ (List.mem_of_getElem? (i := 23) rfl))
  have f_9 := own_fint v_9 n44
  have d_9 := own_fref v_9 n45
  obtain ⟨a_10, v_10, s_10, x_10⟩ := own_sta n10 hini (hw _ (List.mem_of_getElem? (i := 25) rfl))
  have f_10 := own_fint v_10 n24
  have d_10 := own_fnull v_10 n25
  obtain ⟨a_11, v_11, s_11, x_11⟩ := own_sta n11 hini (hw _ (List.mem_of_getElem? (i := 27) rfl))
  have f_11 := own_fint v_11 n30
  have d_11 := own_fnull v_11 n31
  obtain ⟨a_12, v_12, s_12, x_12⟩ := own_sta n12 hini (hw _ (List.mem_of_getElem? (i := 29) rfl))
  have f_12 := own_fint v_12 n38
  have d_12 := own_fnull v_12 n39
  obtain ⟨a_13, v_13, s_13, x_13⟩ := own_sta n13 hini (hw _ (List.mem_of_getElem? (i := 31) rfl))
  have f_13 := own_fint v_13 n40
  have d_13 := own_fnull v_13 n41
  obtain ⟨a_14, v_14, s_14, x_14⟩ := own_sta n14 hini (hw _ (List.mem_of_getElem? (i := 33) rfl))
  have f_14 := own_fint v_14 n20
  have d_14 := own_fnull v_14 n21
  obtain ⟨a_15, v_15, s_15, x_15⟩ := own_sta n15 hini (hw _ (List.mem_of_getElem? (i := 35) rfl))
  have f_15 := own_fint v_15 n22
  have d_15 := own_fref v_15 n23
  obtain ⟨W, hWd⟩ : ∃ W : Nat → Addr, W = fun k => ([a_0, a_1, a_2, a_3, a_4, a_5, a_6, a_7, a_8, a_9, a_10, a_11, a_12, a_13, a_14, a_15] : List Addr).getD k 0 := ⟨_, rfl⟩
  have hS : ∀ k, k < 16 → Sta s s.heap "com/example/gauge/gauge/cli/CommandOption" (own_nm k) "Lcom/example/gauge/gauge/cli/CommandOption;" (.ref (W k)) := by
    rw [hWd]
    exact fun k hk => match k, hk with | 0, _ => s_0 | 1, _ => s_1 | 2, _ => s_2 | 3, _ => s_3 | 4, _ => s_4 | 5, _ => s_5 | 6, _ => s_6 | 7, _ => s_7 | 8, _ => s_8 | 9, _ => s_9 | 10, _ => s_10 | 11, _ => s_11 | 12, _ => s_12 | 13, _ => s_13 | 14, _ => s_14 | 15, _ => s_15 | n + 16, h => absurd h (by omega)
  have hE : ∀ k, k < 16 → Exa s s.heap (W k) "com/example/gauge/gauge/cli/CommandOption" := by
    rw [hWd]
    exact fun k hk => match k, hk with | 0, _ => x_0 | 1, _ => x_1 | 2, _ => x_2 | 3, _ => x_3 | 4, _ => x_4 | 5, _ => x_5 | 6, _ => x_6 | 7, _ => x_7 | 8, _ => x_8 | 9, _ => x_9 | 10, _ => x_10 | 11, _ => x_11 | 12, _ => x_12 | 13, _ => x_13 | 14, _ => x_14 | 15, _ => x_15 | n + 16, h => absurd h (by omega)
  have hO : ∀ k, k < 16 → Fld s s.heap (W k) "com/example/gauge/gauge/cli/CommandOption" "optional" "Z" (.int (own_op k)) := by
    rw [hWd]
    exact fun k hk => match k, hk with | 0, _ => f_0 | 1, _ => f_1 | 2, _ => f_2 | 3, _ => f_3 | 4, _ => f_4 | 5, _ => f_5 | 6, _ => f_6 | 7, _ => f_7 | 8, _ => f_8 | 9, _ => f_9 | 10, _ => f_10 | 11, _ => f_11 | 12, _ => f_12 | 13, _ => f_13 | 14, _ => f_14 | 15, _ => f_15 | n + 16, h => absurd h (by omega)
  have hD : ∀ k, k < 16 → (own_ty k = 2 ∨ Fld s s.heap (W k) "com/example/gauge/gauge/cli/CommandOption" "byDefault" "Ljava/lang/String;" .null) ∧ (¬ own_ty k = 2 ∨ ∃ dv, Fld s s.heap (W k) "com/example/gauge/gauge/cli/CommandOption" "byDefault" "Ljava/lang/String;" (.ref dv)) := by
    rw [hWd]
    exact fun k hk => match k, hk with | 0, _ => ⟨Or.inr d_0, Or.inl (by decide)⟩ | 1, _ => ⟨Or.inr d_1, Or.inl (by decide)⟩ | 2, _ => ⟨Or.inr d_2, Or.inl (by decide)⟩ | 3, _ => ⟨Or.inr d_3, Or.inl (by decide)⟩ | 4, _ => ⟨Or.inl rfl, Or.inr d_4⟩ | 5, _ => ⟨Or.inl rfl, Or.inr d_5⟩ | 6, _ => ⟨Or.inl rfl, Or.inr d_6⟩ | 7, _ => ⟨Or.inl rfl, Or.inr d_7⟩ | 8, _ => ⟨Or.inl rfl, Or.inr d_8⟩ | 9, _ => ⟨Or.inl rfl, Or.inr d_9⟩ | 10, _ => ⟨Or.inr d_10, Or.inl (by decide)⟩ | 11, _ => ⟨Or.inr d_11, Or.inl (by decide)⟩ | 12, _ => ⟨Or.inr d_12, Or.inl (by decide)⟩ | 13, _ => ⟨Or.inr d_13, Or.inl (by decide)⟩ | 14, _ => ⟨Or.inr d_14, Or.inl (by decide)⟩ | 15, _ => ⟨Or.inl rfl, Or.inr d_15⟩ | n + 16, h => absurd h (by omega)
  obtain ⟨j1, j2, j3, j4⟩ := own_idx i0
  have hO' := hO _ j2
  obtain ⟨hD1, hD2⟩ := hD _ j2
  by_cases c3 : (i0 &&& (15 : Int32)) = (3 : Int32)
  · have e3 := j3.mp c3
    rw [show own_op ((i0 &&& (15 : Int32))).toNatClampNeg = 1 by rw [e3]; rfl] at hO'
    have hD1' := hD1.resolve_left (by rw [e3]; decide)
    have hbv : own_bv ((i0 &&& (15 : Int32))).toNatClampNeg = (0 : Int32) := by rw [e3]; rfl
    obtain ⟨n, o, h1, h2, h3, _, L, rfl, ⟨rfl, N⟩, hq⟩ := rm0a l s _ hw tables_1 i0 W s.heap s.heap.size (Nat.le_refl _) hS hE hO' hD1' hbv c3 p e ha hc hk s m _ below hf ((Spec.applies_iff_loose hf).mp happ).1 ⟨rfl, State.Warmed39.refl s, rfl⟩ trivial
    refine ⟨n, _, h1, h2, h3, hpost _ _ _ _ _ _ ⟨Cond.after_iff.mpr rfl, Cond.after_iff.mpr (eq_i res_at (Term.int_eval (1)) rfl), trivial⟩ ⟨hq.1, hq.2.1, (hq.2.2.sift fun y hy => Or.inr (N y hy)).mono (by decide) (by decide)⟩⟩
  by_cases c11 : (i0 &&& (15 : Int32)) = (11 : Int32)
  · have e3 := j4.mp c11
    rw [show own_op ((i0 &&& (15 : Int32))).toNatClampNeg = 1 by rw [e3]; rfl] at hO'
    have hD1' := hD1.resolve_left (by rw [e3]; decide)
    have hbv : own_bv ((i0 &&& (15 : Int32))).toNatClampNeg = (0 : Int32) := by rw [e3]; rfl
    obtain ⟨n, o, h1, h2, h3, _, L, rfl, ⟨rfl, N⟩, hq⟩ := rm0b l s _ hw tables_1 i0 W s.heap s.heap.size (Nat.le_refl _) hS hE hO' hD1' hbv c3 c11 p e ha hc hk s m _ below hf ((Spec.applies_iff_loose hf).mp happ).1 ⟨rfl, State.Warmed39.refl s, rfl⟩ trivial
    refine ⟨n, _, h1, h2, h3, hpost _ _ _ _ _ _ ⟨Cond.after_iff.mpr rfl, Cond.after_iff.mpr (eq_i res_at (Term.int_eval (1)) rfl), trivial⟩ ⟨hq.1, hq.2.1, (hq.2.2.sift fun y hy => Or.inr (N y hy)).mono (by decide) (by decide)⟩⟩
  rcases own_tt _ j2 with t | t | t
  · exact absurd (own_t0 _ j2 t) (fun q => q.elim (fun r => c3 (j3.mpr r)) (fun r => c11 (j4.mpr r)))
  · obtain ⟨o1, o2⟩ := own_t1 _ j2 t
    rw [o1] at hO'
    have hD1' := hD1.resolve_left (by rw [t]; decide)
    obtain ⟨n, o, h1, h2, h3, _, L, rfl, ⟨rfl, N⟩, hq⟩ := rm0c l s _ hw tables_1 i0 W s.heap s.heap.size (Nat.le_refl _) hS hE hO' hD1' o2 c3 c11 p e ha hc hk s m _ below hf ((Spec.applies_iff_loose hf).mp happ).1 ⟨rfl, State.Warmed39.refl s, rfl⟩ trivial
    refine ⟨n, _, h1, h2, h3, hpost _ _ _ _ _ _ ⟨Cond.after_iff.mpr rfl, Cond.after_iff.mpr (eq_i res_at (Term.int_eval (1)) rfl), trivial⟩ ⟨hq.1, hq.2.1, (hq.2.2.sift fun y hy => Or.inr (N y hy)).mono (by decide) (by decide)⟩⟩
  · obtain ⟨o1, o2⟩ := own_t2 _ j2 t
    rw [o1] at hO'
    obtain ⟨dv, hD2'⟩ := hD2.resolve_left (fun q => q t)
    obtain ⟨n, o, h1, h2, h3, _, L, rfl, ⟨rfl, N⟩, hq⟩ := rm0d l s _ hw tables_1 i0 W dv s.heap s.heap.size (Nat.le_refl _) hS hE hO' hD2' o2 c3 c11 p e ha hc hk s m _ below hf ((Spec.applies_iff_loose hf).mp happ).1 ⟨rfl, State.Warmed39.refl s, rfl⟩ trivial
    refine ⟨n, _, h1, h2, h3, hpost _ _ _ _ _ _ ⟨Cond.after_iff.mpr rfl, Cond.after_iff.mpr (eq_i res_at (Term.int_eval (1)) rfl), trivial⟩ ⟨hq.1, hq.2.1, (hq.2.2.sift fun y hy => Or.inr (N y hy)).mono (by decide) (by decide)⟩⟩
theorem main_1_1 : Claimed_1_1 := comes_1 fun _ _ _ _ _ _ h hF => ⟨h.1, hF⟩
theorem main_1_2 : Claimed_1_2 := comes_1 fun _ _ _ _ _ _ h hF => ⟨h.2.1, hF⟩
end Jvm.Pilot.@@N@@
namespace Jvm.Pilot.@@N@@
open Jvm Jvm.ClassFile Sem Op Lib Jvm.Free Jvm.Stand Jvm.Pilot.@@N@@.Jvm.D
/-! MADE BY PROGRAM (witnessworld.py) out of the Statement's table words and the real class files: 18 classes; the members and pool entries that the words name. The judged class is class 1, her method 1. -/
namespace start1
open Jvm.ClassFile
def u (s : String) : CpInfo := .utf8 (stringToUtf16 s)
/-- a pool by its gaps: so many unusable entries, then the entry; so many at the end -/
def gap : Nat → List CpInfo → List CpInfo
  | 0, r => r
  | n + 1, r => .unusable :: gap n r
def poolList (es : List (Nat × CpInfo)) (last : Nat) : List CpInfo := es.foldr (fun e r => gap e.1 (e.2 :: r)) (gap last [])
def pool (es : List (Nat × CpInfo)) (last : Nat) : Array CpInfo := ⟨poolList es last⟩
def fileOf (pool : Array CpInfo) (this : Nat) (attrs : Array Attribute := #[]) (ms : Array MethodInfo := #[]) (fl : Nat := 33) (sup : Nat := 0) (ifs : Array Nat := #[]) (fds : Array FieldInfo := #[]) : ClassFile where
  minorVersion := 0
  majorVersion := 65
  constantPool := pool
  accessFlags := fl
  thisClass := this
  superClass := sup
  interfaces := ifs
  fields := fds
  methods := ms
  attributes := attrs
def plain (name : String) (sup : Option ClassId) : Class where
  name := name
  kind := .ordinary
  loader := none
  accessFlags := 33
  super := sup
  interfaces := #[]
  cf := none
  fields := #[]
  methods := #[]
  instanceTypes := #[]
  staticTypes := #[]
  resolved := #[]
  callSites := []
  init := .initialized
  statics := none
  mirror := none

def pool0 : Array CpInfo := pool [(5, u "<init>"), (0, u "()V"), (1, .class_ 10), (1, u "java/lang/Object")] 113

def k0m0 : Method := { name := "<init>", desc := "()V", sig := { parameters := [], returnType := none }, accessFlags := 1, code := none }
/-- java/lang/Object -/
def k0 : Class := { plain "java/lang/Object" none with
  accessFlags := 33
  interfaces := #[]
  cf := some (fileOf pool0 8 #[] #[{ accessFlags := 1, nameIndex := 5, descriptorIndex := 6, attributes := #[] }] 33 0 #[] #[])
  fields := #[]
  methods := #[k0m0]
  instanceTypes := #[]
  staticTypes := #[]
  resolved := Array.replicate 124 none
  statics := none }

def pool1 : Array CpInfo := pool [(2, .class_ 4), (1, u "java/lang/Object"), (0, u "<init>"), (0, u "()V"), (0, .class_ 8), (0, u "com/example/gauge/gauge/cli/CommandOption"), (0, .fieldref 7 10), (0, .nameAndType 11 12), (0, u "TRADES"), (0, u "Lcom/example/gauge/gauge/cli/CommandOption;"), (0, .fieldref 7 14), (0, .nameAndType 15 12), (0, u "BUCKETS"), (0, .fieldref 7 17), (0, .nameAndType 18 12), (0, u "CRIF"), (0, .fieldref 7 20), (0, .nameAndType 21 12), (0, u "REPORT"), (0, .fieldref 7 23), (0, .nameAndType 24 12), (0, u "SENSITIVITIES"), (0, .fieldref 7 26), (0, .nameAndType 27 12), (0, u "FORMAT"), (0, .fieldref 7 29), (0, .nameAndType 30 12), (0, u "METHOD"), (0, .fieldref 7 32), (0, .nameAndType 33 12), (0, u "PATHS"), (0, .fieldref 7 35), (0, .nameAndType 36 12), (0, u "SEED"), (0, .fieldref 7 38), (0, .nameAndType 39 12), (0, u "REPEAT"), (0, .fieldref 7 41), (0, .nameAndType 42 12), (0, u "MARKET"), (0, .fieldref 7 44), (0, .nameAndType 45 12), (0, u "CORRELATIONS"), (0, .fieldref 7 47), (0, .nameAndType 48 12), (0, u "COUNTERPARTIES"), (0, .fieldref 7 50), (0, .nameAndType 51 12), (0, u "RATE"), (0, .fieldref 7 53), (0, .nameAndType 54 12), (0, u "DATES"), (0, .fieldref 7 56), (0, .nameAndType 57 12), (0, u "CONFIDENCE"), (0, .methodref 7 59), (0, .nameAndType 60 61), (0, u "required"), (0, u "()Z"), (0, .methodref 7 63), (0, .nameAndType 64 65), (0, u "byDefault"), (0, u "()Ljava/lang/String;"), (0, .class_ 67), (0, u "com/example/gauge/gauge/cli/CommandOptionRequiredPinLaw"), (2, u "law"), (0, u "(I)Z")] 7

def k1m0 : Method := { name := "<init>", desc := "()V", sig := { parameters := [], returnType := none }, accessFlags := 2, code := none }
def k1c1 : Code := { maxStack := 4, maxLocals := 8, code := code, exceptionTable := #[], attributes := #[] }
def k1m1 : Method := { name := "law", desc := "(I)Z", sig := { parameters := [.int], returnType := some .boolean }, accessFlags := 9, code := some k1c1 }
/-- com/example/gauge/gauge/cli/CommandOptionRequiredPinLaw -/
def k1 : Class := { plain "com/example/gauge/gauge/cli/CommandOptionRequiredPinLaw" (some 0) with
  accessFlags := 49
  interfaces := #[]
  cf := some (fileOf pool1 66 #[] #[{ accessFlags := 2, nameIndex := 5, descriptorIndex := 6, attributes := #[] }, { accessFlags := 9, nameIndex := 70, descriptorIndex := 71, attributes := #[] }] 49 2 #[] #[])
  fields := #[]
  methods := #[k1m0, k1m1]
  instanceTypes := #[]
  staticTypes := #[]
  resolved := Array.replicate 79 none
  statics := none }

def pool2 : Array CpInfo := pool [(1, .class_ 2), (0, u "java/lang/constant/Constable"), (0, .class_ 4), (0, u "java/lang/Object")] 6

/-- java/lang/constant/Constable -/
def k2 : Class := { plain "java/lang/constant/Constable" (some 0) with
  accessFlags := 1537
  interfaces := #[]
  cf := some (fileOf pool2 1 #[] #[] 1537 3 #[] #[])
  fields := #[]
  methods := #[]
  instanceTypes := #[]
  staticTypes := #[]
  resolved := Array.replicate 11 none
  statics := none }

def pool3 : Array CpInfo := pool [(1, .class_ 2), (0, u "java/lang/Comparable"), (0, .class_ 4), (0, u "java/lang/Object")] 7

/-- java/lang/Comparable -/
def k3 : Class := { plain "java/lang/Comparable" (some 0) with
  accessFlags := 1537
  interfaces := #[]
  cf := some (fileOf pool3 1 #[] #[] 1537 3 #[] #[])
  fields := #[]
  methods := #[]
  instanceTypes := #[]
  staticTypes := #[]
  resolved := Array.replicate 12 none
  statics := none }

def pool4 : Array CpInfo := pool [(1, .class_ 2), (0, u "java/io/Serializable"), (0, .class_ 4), (0, u "java/lang/Object")] 2

/-- java/io/Serializable -/
def k4 : Class := { plain "java/io/Serializable" (some 0) with
  accessFlags := 1537
  interfaces := #[]
  cf := some (fileOf pool4 1 #[] #[] 1537 3 #[] #[])
  fields := #[]
  methods := #[]
  instanceTypes := #[]
  staticTypes := #[]
  resolved := Array.replicate 7 none
  statics := none }

def pool5 : Array CpInfo := pool [(2, .class_ 4), (1, u "java/lang/Enum"), (0, u "name"), (0, u "Ljava/lang/String;"), (2, u "ordinal"), (0, u "I"), (1, .class_ 14), (1, u "java/lang/Object"), (4, u "hash"), (86, .class_ 108), (1, u "java/lang/Enum$EnumDesc"), (2, .class_ 112), (0, u "java/lang/constant/Constable"), (0, .class_ 114), (0, u "java/lang/Comparable"), (0, .class_ 116), (0, u "java/io/Serializable")] 87

/-- java/lang/Enum -/
def k5 : Class := { plain "java/lang/Enum" (some 0) with
  accessFlags := 1057
  interfaces := #[2, 3, 4]
  cf := some (fileOf pool5 2 #[.nestMembers #[106]] #[] 1057 12 #[111, 113, 115] #[{ accessFlags := 18, nameIndex := 5, descriptorIndex := 6, attributes := #[] }, { accessFlags := 18, nameIndex := 9, descriptorIndex := 10, attributes := #[] }, { accessFlags := 2, nameIndex := 19, descriptorIndex := 10, attributes := #[] }])
  fields := #[{ name := "name", type := (.object "java/lang/String"), accessFlags := 18, slot := 0, constantValue := 0 }, { name := "ordinal", type := .int, accessFlags := 18, slot := 1, constantValue := 0 }, { name := "hash", type := .int, accessFlags := 2, slot := 2, constantValue := 0 }]
  methods := #[]
  instanceTypes := #[(.object "java/lang/String"), .int, .int]
  staticTypes := #[]
  resolved := Array.replicate 204 none
  statics := none }

def pool6 : Array CpInfo := pool [(1, .class_ 2), (0, u "com/example/gauge/gauge/cli/CommandOption"), (2, u "TRADES"), (0, u "Lcom/example/gauge/gauge/cli/CommandOption;"), (2, u "BUCKETS"), (2, u "CRIF"), (2, u "REPORT"), (2, u "SENSITIVITIES"), (2, u "FORMAT"), (2, u "METHOD"), (2, u "PATHS"), (2, u "SEED"), (2, u "REPEAT"), (2, u "MARKET"), (2, u "CORRELATIONS"), (2, u "COUNTERPARTIES"), (2, u "RATE"), (2, u "DATES"), (2, u "CONFIDENCE"), (2, u "$VALUES"), (0, u "[Lcom/example/gauge/gauge/cli/CommandOption;"), (6, .class_ 64), (1, u "java/lang/Enum"), (11, u "label"), (0, u "Ljava/lang/String;"), (2, u "value"), (0, .fieldref 1 82), (0, .nameAndType 83 84), (0, u "optional"), (0, u "Z"), (0, .fieldref 1 86), (0, .nameAndType 87 77), (0, u "byDefault"), (2, u "condition"), (2, u "description"), (49, u "()Ljava/lang/String;"), (102, u "required"), (0, u "()Z")] 5

def k6c0 : Code := { maxStack := 1, maxLocals := 1, code := prog_45_method_8_code, exceptionTable := #[], attributes := #[] }
def k6m0 : Method := { name := "byDefault", desc := "()Ljava/lang/String;", sig := { parameters := [], returnType := some (.object "java/lang/String") }, accessFlags := 0, code := some k6c0 }
def k6c1 : Code := { maxStack := 1, maxLocals := 1, code := prog_45_method_9_code, exceptionTable := #[], attributes := #[] }
def k6m1 : Method := { name := "required", desc := "()Z", sig := { parameters := [], returnType := some .boolean }, accessFlags := 0, code := some k6c1 }
/-- com/example/gauge/gauge/cli/CommandOption -/
def k6 : Class := { plain "com/example/gauge/gauge/cli/CommandOption" (some 5) with
  accessFlags := 16432
  interfaces := #[]
  cf := some (fileOf pool6 1 #[] #[{ accessFlags := 0, nameIndex := 87, descriptorIndex := 143, attributes := #[] }, { accessFlags := 0, nameIndex := 246, descriptorIndex := 247, attributes := #[] }] 16432 62 #[] #[{ accessFlags := 16409, nameIndex := 5, descriptorIndex := 6, attributes := #[] }, { accessFlags := 16409, nameIndex := 9, descriptorIndex := 6, attributes := #[] }, { accessFlags := 16409, nameIndex := 12, descriptorIndex := 6, attributes := #[] }, { accessFlags := 16409, nameIndex := 15, descriptorIndex := 6, attributes := #[] }, { accessFlags := 16409, nameIndex := 18, descriptorIndex := 6, attributes := #[] }, { accessFlags := 16409, nameIndex := 21, descriptorIndex := 6, attributes := #[] }, { accessFlags := 16409, nameIndex := 24, descriptorIndex := 6, attributes := #[] }, { accessFlags := 16409, nameIndex := 27, descriptorIndex := 6, attributes := #[] }, { accessFlags := 16409, nameIndex := 30, descriptorIndex := 6, attributes := #[] }, { accessFlags := 16409, nameIndex := 33, descriptorIndex := 6, attributes := #[] }, { accessFlags := 16409, nameIndex := 36, descriptorIndex := 6, attributes := #[] }, { accessFlags := 16409, nameIndex := 39, descriptorIndex := 6, attributes := #[] }, { accessFlags := 16409, nameIndex := 42, descriptorIndex := 6, attributes := #[] }, { accessFlags := 16409, nameIndex := 45, descriptorIndex := 6, attributes := #[] }, { accessFlags := 16409, nameIndex := 48, descriptorIndex := 6, attributes := #[] }, { accessFlags := 16409, nameIndex := 51, descriptorIndex := 6, attributes := #[] }, { accessFlags := 18, nameIndex := 76, descriptorIndex := 77, attributes := #[] }, { accessFlags := 18, nameIndex := 80, descriptorIndex := 77, attributes := #[] }, { accessFlags := 18, nameIndex := 83, descriptorIndex := 84, attributes := #[] }, { accessFlags := 18, nameIndex := 87, descriptorIndex := 77, attributes := #[] }, { accessFlags := 18, nameIndex := 90, descriptorIndex := 77, attributes := #[] }, { accessFlags := 18, nameIndex := 93, descriptorIndex := 77, attributes := #[] }, { accessFlags := 4122, nameIndex := 54, descriptorIndex := 55, attributes := #[] }])
  fields := #[{ name := "TRADES", type := (.object "com/example/gauge/gauge/cli/CommandOption"), accessFlags := 16409, slot := 0, constantValue := 0 }, { name := "BUCKETS", type := (.object "com/example/gauge/gauge/cli/CommandOption"), accessFlags := 16409, slot := 1, constantValue := 0 }, { name := "CRIF", type := (.object "com/example/gauge/gauge/cli/CommandOption"), accessFlags := 16409, slot := 2, constantValue := 0 }, { name := "REPORT", type := (.object "com/example/gauge/gauge/cli/CommandOption"), accessFlags := 16409, slot := 3, constantValue := 0 }, { name := "SENSITIVITIES", type := (.object "com/example/gauge/gauge/cli/CommandOption"), accessFlags := 16409, slot := 4, constantValue := 0 }, { name := "FORMAT", type := (.object "com/example/gauge/gauge/cli/CommandOption"), accessFlags := 16409, slot := 5, constantValue := 0 }, { name := "METHOD", type := (.object "com/example/gauge/gauge/cli/CommandOption"), accessFlags := 16409, slot := 6, constantValue := 0 }, { name := "PATHS", type := (.object "com/example/gauge/gauge/cli/CommandOption"), accessFlags := 16409, slot := 7, constantValue := 0 }, { name := "SEED", type := (.object "com/example/gauge/gauge/cli/CommandOption"), accessFlags := 16409, slot := 8, constantValue := 0 }, { name := "REPEAT", type := (.object "com/example/gauge/gauge/cli/CommandOption"), accessFlags := 16409, slot := 9, constantValue := 0 }, { name := "MARKET", type := (.object "com/example/gauge/gauge/cli/CommandOption"), accessFlags := 16409, slot := 10, constantValue := 0 }, { name := "CORRELATIONS", type := (.object "com/example/gauge/gauge/cli/CommandOption"), accessFlags := 16409, slot := 11, constantValue := 0 }, { name := "COUNTERPARTIES", type := (.object "com/example/gauge/gauge/cli/CommandOption"), accessFlags := 16409, slot := 12, constantValue := 0 }, { name := "RATE", type := (.object "com/example/gauge/gauge/cli/CommandOption"), accessFlags := 16409, slot := 13, constantValue := 0 }, { name := "DATES", type := (.object "com/example/gauge/gauge/cli/CommandOption"), accessFlags := 16409, slot := 14, constantValue := 0 }, { name := "CONFIDENCE", type := (.object "com/example/gauge/gauge/cli/CommandOption"), accessFlags := 16409, slot := 15, constantValue := 0 }, { name := "label", type := (.object "java/lang/String"), accessFlags := 18, slot := 3, constantValue := 0 }, { name := "value", type := (.object "java/lang/String"), accessFlags := 18, slot := 4, constantValue := 0 }, { name := "optional", type := .boolean, accessFlags := 18, slot := 5, constantValue := 0 }, { name := "byDefault", type := (.object "java/lang/String"), accessFlags := 18, slot := 6, constantValue := 0 }, { name := "condition", type := (.object "java/lang/String"), accessFlags := 18, slot := 7, constantValue := 0 }, { name := "description", type := (.object "java/lang/String"), accessFlags := 18, slot := 8, constantValue := 0 }, { name := "$VALUES", type := (.array (.object "com/example/gauge/gauge/cli/CommandOption")), accessFlags := 4122, slot := 16, constantValue := 0 }]
  methods := #[k6m0, k6m1]
  instanceTypes := #[(.object "java/lang/String"), .int, .int, (.object "java/lang/String"), (.object "java/lang/String"), .boolean, (.object "java/lang/String"), (.object "java/lang/String"), (.object "java/lang/String")]
  staticTypes := #[(.object "com/example/gauge/gauge/cli/CommandOption"), (.object "com/example/gauge/gauge/cli/CommandOption"), (.object "com/example/gauge/gauge/cli/CommandOption"), (.object "com/example/gauge/gauge/cli/CommandOption"), (.object "com/example/gauge/gauge/cli/CommandOption"), (.object "com/example/gauge/gauge/cli/CommandOption"), (.object "com/example/gauge/gauge/cli/CommandOption"), (.object "com/example/gauge/gauge/cli/CommandOption"), (.object "com/example/gauge/gauge/cli/CommandOption"), (.object "com/example/gauge/gauge/cli/CommandOption"), (.object "com/example/gauge/gauge/cli/CommandOption"), (.object "com/example/gauge/gauge/cli/CommandOption"), (.object "com/example/gauge/gauge/cli/CommandOption"), (.object "com/example/gauge/gauge/cli/CommandOption"), (.object "com/example/gauge/gauge/cli/CommandOption"), (.object "com/example/gauge/gauge/cli/CommandOption"), (.array (.object "com/example/gauge/gauge/cli/CommandOption"))]
  resolved := Array.replicate 253 none
  statics := some 0 }

def pool7 : Array CpInfo := pool [(2, .class_ 4), (1, u "java/lang/CharSequence"), (42, .class_ 48), (0, u "java/lang/CharSequence$1CodePointIterator"), (10, .class_ 60), (0, u "java/lang/CharSequence$1CharIterator"), (5, .class_ 67), (0, u "java/lang/Object")] 63

/-- java/lang/CharSequence -/
def k7 : Class := { plain "java/lang/CharSequence" (some 0) with
  accessFlags := 1537
  interfaces := #[]
  cf := some (fileOf pool7 2 #[.nestMembers #[47, 59]] #[] 1537 66 #[] #[])
  fields := #[]
  methods := #[]
  instanceTypes := #[]
  staticTypes := #[]
  resolved := Array.replicate 131 none
  statics := none }

def pool8 : Array CpInfo := pool [(1, .class_ 2), (0, u "java/lang/constant/ConstantDesc"), (0, .class_ 4), (0, u "java/lang/Object")] 32

/-- java/lang/constant/ConstantDesc -/
def k8 : Class := { plain "java/lang/constant/ConstantDesc" (some 0) with
  accessFlags := 1537
  interfaces := #[]
  cf := some (fileOf pool8 1 #[] #[] 1537 3 #[] #[])
  fields := #[]
  methods := #[]
  instanceTypes := #[]
  staticTypes := #[]
  resolved := Array.replicate 37 none
  statics := none }

def pool9 : Array CpInfo := pool [(2, .class_ 4), (1, u "java/lang/Object"), (0, u "<init>"), (0, u "()V"), (3, .class_ 12), (1, u "java/lang/String"), (0, u "value"), (0, u "[B"), (2, u "coder"), (0, u "B"), (2, u "hash"), (0, u "I"), (2, u "hashIsZero"), (0, u "Z"), (13, u "COMPACT_STRINGS"), (534, .class_ 576), (0, u "java/lang/CharSequence"), (22, u "CASE_INSENSITIVE_ORDER"), (0, u "Ljava/util/Comparator;"), (500, u "serialPersistentFields"), (0, u "[Ljava/io/ObjectStreamField;"), (0, .class_ 1104), (0, u "java/lang/String$CaseInsensitiveComparator"), (1, .class_ 1107), (0, u "java/io/Serializable"), (0, .class_ 1109), (0, u "java/lang/Comparable"), (0, .class_ 1111), (0, u "java/lang/constant/Constable"), (0, .class_ 1113), (0, u "java/lang/constant/ConstantDesc"), (2, u "serialVersionUID"), (0, u "J"), (3, u "REPL"), (0, u "C"), (2, u "LATIN1"), (1, u "UTF16")] 323

def k9m0 : Method := { name := "<init>", desc := "()V", sig := { parameters := [], returnType := none }, accessFlags := 1, code := none }
/-- java/lang/String -/
def k9 : Class := { plain "java/lang/String" (some 0) with
  accessFlags := 49
  interfaces := #[4, 3, 7, 2, 8]
  cf := some (fileOf pool9 10 #[.nestMembers #[1103]] #[{ accessFlags := 1, nameIndex := 5, descriptorIndex := 6, attributes := #[] }] 49 2 #[1106, 1108, 575, 1110, 1112] #[{ accessFlags := 18, nameIndex := 13, descriptorIndex := 14, attributes := #[] }, { accessFlags := 18, nameIndex := 17, descriptorIndex := 18, attributes := #[] }, { accessFlags := 2, nameIndex := 21, descriptorIndex := 22, attributes := #[] }, { accessFlags := 2, nameIndex := 25, descriptorIndex := 26, attributes := #[] }, { accessFlags := 26, nameIndex := 1116, descriptorIndex := 1117, attributes := #[] }, { accessFlags := 24, nameIndex := 40, descriptorIndex := 26, attributes := #[] }, { accessFlags := 26, nameIndex := 1101, descriptorIndex := 1102, attributes := #[] }, { accessFlags := 26, nameIndex := 1121, descriptorIndex := 1122, attributes := #[] }, { accessFlags := 25, nameIndex := 599, descriptorIndex := 600, attributes := #[] }, { accessFlags := 24, nameIndex := 1125, descriptorIndex := 18, attributes := #[] }, { accessFlags := 24, nameIndex := 1127, descriptorIndex := 18, attributes := #[] }])
  fields := #[{ name := "value", type := (.array .byte), accessFlags := 18, slot := 0, constantValue := 0 }, { name := "coder", type := .byte, accessFlags := 18, slot := 1, constantValue := 0 }, { name := "hash", type := .int, accessFlags := 2, slot := 2, constantValue := 0 }, { name := "hashIsZero", type := .boolean, accessFlags := 2, slot := 3, constantValue := 0 }, { name := "serialVersionUID", type := .long, accessFlags := 26, slot := 0, constantValue := 0 }, { name := "COMPACT_STRINGS", type := .boolean, accessFlags := 24, slot := 1, constantValue := 0 }, { name := "serialPersistentFields", type := (.array (.object "java/io/ObjectStreamField")), accessFlags := 26, slot := 2, constantValue := 0 }, { name := "REPL", type := .char, accessFlags := 26, slot := 3, constantValue := 0 }, { name := "CASE_INSENSITIVE_ORDER", type := (.object "java/util/Comparator"), accessFlags := 25, slot := 4, constantValue := 0 }, { name := "LATIN1", type := .byte, accessFlags := 24, slot := 5, constantValue := 0 }, { name := "UTF16", type := .byte, accessFlags := 24, slot := 6, constantValue := 0 }]
  methods := #[k9m0]
  instanceTypes := #[(.array .byte), .byte, .int, .boolean]
  staticTypes := #[.long, .boolean, (.array (.object "java/io/ObjectStreamField")), .char, (.object "java/util/Comparator"), .byte, .byte]
  resolved := Array.replicate 1451 none
  statics := none }

def pool10 : Array CpInfo := pool [(1, u "java/lang/Cloneable"), (0, .class_ 1), (0, u "java/lang/Object"), (0, .class_ 3)] 3

/-- java/lang/Cloneable -/
def k10 : Class := { plain "java/lang/Cloneable" (some 0) with
  accessFlags := 1537
  interfaces := #[]
  cf := some (fileOf pool10 2 #[] #[] 1537 4 #[] #[])
  fields := #[]
  methods := #[]
  instanceTypes := #[]
  staticTypes := #[]
  resolved := Array.replicate 8 none
  statics := none }

/-- the primitive boolean -/
def k11 : Class := { plain "boolean" none with kind := .primitive 'Z', accessFlags := 0x411 }
/-- [Z -/
def k12 : Class := { plain "[Z" (some 0) with kind := .array 11 .boolean, interfaces := #[10, 4], accessFlags := 1041 }

/-- the primitive byte -/
def k13 : Class := { plain "byte" none with kind := .primitive 'B', accessFlags := 0x411 }
/-- [B -/
def k14 : Class := { plain "[B" (some 0) with kind := .array 13 .byte, interfaces := #[10, 4], accessFlags := 1041 }

/-- the primitive int -/
def k15 : Class := { plain "int" none with kind := .primitive 'I', accessFlags := 0x411 }
/-- [I -/
def k16 : Class := { plain "[I" (some 0) with kind := .array 15 .int, interfaces := #[10, 4], accessFlags := 1041 }

/-- [Lcom/example/gauge/gauge/cli/CommandOption; -/
def k17 : Class := { plain "[Lcom/example/gauge/gauge/cli/CommandOption;" (some 0) with kind := .array 6 (.object "com/example/gauge/gauge/cli/CommandOption"), interfaces := #[10, 4], accessFlags := 1041 }

def heap : Heap := #[{ cls := 6, slots := #[.ref 1, .ref 2, .ref 3, .ref 4, .ref 5, .ref 6, .ref 7, .ref 8, .ref 9, .ref 10, .ref 11, .ref 12, .ref 13, .ref 14, .ref 15, .ref 16, .null], vm := .statics 6 },
  { cls := 6, slots := #[.null, .int 0, .int 0, .null, .null, .int 0, .null, .null, .null], vm := .none },
  { cls := 6, slots := #[.null, .int 1, .int 0, .null, .null, .int 0, .null, .null, .null], vm := .none },
  { cls := 6, slots := #[.null, .int 2, .int 0, .null, .null, .int 0, .null, .null, .null], vm := .none },
  { cls := 6, slots := #[.null, .int 3, .int 0, .null, .null, .int 1, .null, .null, .null], vm := .none },
  { cls := 6, slots := #[.null, .int 4, .int 0, .null, .null, .int 0, .ref 17, .null, .null], vm := .none },
  { cls := 6, slots := #[.null, .int 5, .int 0, .null, .null, .int 0, .ref 17, .null, .null], vm := .none },
  { cls := 6, slots := #[.null, .int 6, .int 0, .null, .null, .int 0, .ref 17, .null, .null], vm := .none },
  { cls := 6, slots := #[.null, .int 7, .int 0, .null, .null, .int 0, .ref 17, .null, .null], vm := .none },
  { cls := 6, slots := #[.null, .int 8, .int 0, .null, .null, .int 0, .ref 17, .null, .null], vm := .none },
  { cls := 6, slots := #[.null, .int 9, .int 0, .null, .null, .int 0, .ref 17, .null, .null], vm := .none },
  { cls := 6, slots := #[.null, .int 10, .int 0, .null, .null, .int 0, .null, .null, .null], vm := .none },
  { cls := 6, slots := #[.null, .int 11, .int 0, .null, .null, .int 1, .null, .null, .null], vm := .none },
  { cls := 6, slots := #[.null, .int 12, .int 0, .null, .null, .int 0, .null, .null, .null], vm := .none },
  { cls := 6, slots := #[.null, .int 13, .int 0, .null, .null, .int 0, .null, .null, .null], vm := .none },
  { cls := 6, slots := #[.null, .int 14, .int 0, .null, .null, .int 0, .null, .null, .null], vm := .none },
  { cls := 6, slots := #[.null, .int 15, .int 0, .null, .null, .int 0, .ref 17, .null, .null], vm := .none },
  { cls := 9, slots := #[.null, .int 0, .int 0, .int 0], vm := .none }]
def classes : Array Class := #[k0, k1, k2, k3, k4, k5, k6, k7, k8, k9, k10, k11, k12, k13, k14, k15, k16, k17]
def interned : List (Array UInt16 × Addr) := []
def slotsUsed : Nat := 165
def theMethod : MethodId := ⟨1, 1⟩
def args0 : Array Value := #[.int 5]
def aboutOver (below : List Frame) : State where
  vm := { classes := classes, interned := interned.toArray }
  heap := heap
  slotsUsed := slotsUsed
  threads := #[{ frames := .invoking theMethod args0 :: below }]
def below0 : List Frame := [.native { method := ⟨0, 0⟩, args := #[] }]
def about1 : State := aboutOver below0
def p0 : Program := .bare "" "" ""
def e0 : Env := launch0.env 0 0 0
theorem w_frames : about1.frames = Frame.invoking theMethod args0 :: below0 := rfl
set_option maxRecDepth 65536 in
theorem w_args : argsFit about1.vm theMethod args0 = true := by decide +kernel
set_option maxRecDepth 65536 in
theorem w_heap : heapFits about1 = true := by decide +kernel
set_option maxRecDepth 65536 in
theorem w_runnable : about1.curStatus? = some .runnable := by decide +kernel
set_option maxRecDepth 65536 in
theorem w_alone : about1.alone = true := by decide +kernel
set_option maxRecDepth 65536 in
theorem w_named : about1.methodNamed? x = some theMethod := by decide +kernel
set_option maxRecDepth 65536 in
theorem w_hears : about1.hears theMethod below0 = true := by decide +kernel
set_option maxRecDepth 65536 in
theorem w_ripe : about1.ripe theMethod args0 below0 = true := by decide +kernel
theorem w_running : about1.status = .running := rfl
set_option maxRecDepth 65536 in
theorem w_room : about1.hasRoom e0.platform room_1 = true :=
  launch0.hasRoom_least _ room_1 (by decide +kernel) (by decide +kernel) (by decide +kernel) (by decide +kernel) (by decide +kernel) (by decide +kernel)
theorem allAtoms_all (ts : List Jvm.Cond) (a : Array Jvm.Value) (st : Jvm.State) : (allAtoms ts).before a st = ts.all (fun c => c.before a st) := by
  induction ts with
  | nil => rfl
  | cons c t ih =>
    show (Jvm.Cond.and c (allAtoms t)).before a st = _
    rw [Jvm.Cond.before_and, ih, List.all_cons]
def words1 : List Jvm.Cond := Jvm.Cond.code x code maxLocals ret :: tables_1
/-- a 'code' word, met by the world's own term for the bytes: nothing is compared byte by byte -/
theorem code_word {y : MethodName} {bytes : ByteArray} {mx : Nat} {rt : Option FieldType} {a : Array Value} {s : State} {m : MethodId} {meth : Method} {c : Code} (h1 : s.methodNamed? y = some m) (h2 : s.vm.method? m = some meth) (h3 : meth.code = some c) (h4 : c.code = bytes)
    (h5 : (c.maxLocals == mx && c.exceptionTable.isEmpty && decide (c.maxStack ≤ mostOperands) && decide (meth.sig.returnType = rt) && !meth.locks && decide (parseMethodDescriptor y.desc = some meth.sig)) = true) : (Jvm.Cond.code y bytes mx rt).before a s = true := by
  simp only [Bool.and_eq_true, beq_iff_eq, Bool.not_eq_true', decide_eq_true_eq] at h5
  obtain ⟨⟨⟨⟨⟨g1, g2⟩, g3⟩, g4⟩, g5⟩, g6⟩ := h5
  simp [Cond.before, Cond.holds, Cond.value, h1, h2, h3, h4, g1, g2, g3, g4, g5, g6]
def isCode : Jvm.Cond → Bool
  | .code _ _ _ _ => true
  | _ => false
theorem all_split {L : List Jvm.Cond} {P : Jvm.Cond → Bool} (h1 : L.all (fun c => isCode c || P c) = true) (h2 : ∀ c ∈ L.filter isCode, P c = true) : L.all P = true := by
  refine List.all_eq_true.mpr fun c hc => ?_
  have h := List.all_eq_true.mp h1 c hc
  rcases Bool.eq_false_or_eq_true (isCode c) with hi | hi
  · exact h2 c (List.mem_filter.mpr ⟨hc, hi⟩)
  · simpa [hi] using h
set_option maxRecDepth 65536 in
theorem w_c0 : (Jvm.Cond.code x code maxLocals ret).before args0 about1 = true := code_word (m := ⟨1, 1⟩) (meth := k1m1) (c := k1c1) (by decide +kernel) rfl rfl rfl (by decide +kernel)
set_option maxRecDepth 65536 in
theorem w_c1 : (Jvm.Cond.code ({ cls := "com/example/gauge/gauge/cli/CommandOption", name := "required", desc := "()Z" } : Jvm.MethodName) prog_45_method_9_code (1 : Nat) (Option.some Jvm.ClassFile.FieldType.boolean)).before args0 about1 = true := code_word (m := ⟨6, 1⟩) (meth := k6m1) (c := k6c1) (by decide +kernel) rfl rfl rfl (by decide +kernel)
set_option maxRecDepth 65536 in
theorem w_c2 : (Jvm.Cond.code ({ cls := "com/example/gauge/gauge/cli/CommandOption", name := "byDefault", desc := "()Ljava/lang/String;" } : Jvm.MethodName) prog_45_method_8_code (1 : Nat) (Option.some (Jvm.ClassFile.FieldType.object "java/lang/String"))).before args0 about1 = true := code_word (m := ⟨6, 0⟩) (meth := k6m0) (c := k6c0) (by decide +kernel) rfl rfl rfl (by decide +kernel)
def codes1 : List Jvm.Cond := [Jvm.Cond.code x code maxLocals ret, Jvm.Cond.code ({ cls := "com/example/gauge/gauge/cli/CommandOption", name := "required", desc := "()Z" } : Jvm.MethodName) prog_45_method_9_code (1 : Nat) (Option.some Jvm.ClassFile.FieldType.boolean), Jvm.Cond.code ({ cls := "com/example/gauge/gauge/cli/CommandOption", name := "byDefault", desc := "()Ljava/lang/String;" } : Jvm.MethodName) prog_45_method_8_code (1 : Nat) (Option.some (Jvm.ClassFile.FieldType.object "java/lang/String"))]
set_option maxRecDepth 65536 in
theorem codes_eq : words1.filter isCode = codes1 := rfl
theorem w_codes : ∀ c ∈ words1.filter isCode, c.before args0 about1 = true := by
  rw [codes_eq]
  intro c hc
  simp only [codes1, List.mem_cons, List.not_mem_nil, or_false] at hc
  rcases hc with rfl | rfl | rfl
  · exact w_c0
  · exact w_c1
  · exact w_c2
set_option maxRecDepth 65536 in
theorem w_t1 : (words1.take 24).all (fun c => isCode c || c.before args0 about1) = true := by decide +kernel
set_option maxRecDepth 65536 in
theorem w_t2 : ((words1.drop 24).take 24).all (fun c => isCode c || c.before args0 about1) = true := by decide +kernel
set_option maxRecDepth 65536 in
theorem w_t3 : ((words1.drop 24).drop 24).all (fun c => isCode c || c.before args0 about1) = true := by decide +kernel
theorem w_tables : (allAtoms (Jvm.Cond.code x code maxLocals ret :: tables_1)).before args0 about1 = true := by
  rw [allAtoms_all]
  show words1.all (fun c => c.before args0 about1) = true
  refine all_split ?_ w_codes
  rw [← List.take_append_drop 24 words1, List.all_append, w_t1, ← List.take_append_drop 24 (words1.drop 24), List.all_append, w_t2, w_t3]
  rfl
set_option maxRecDepth 65536 in
theorem w_case : (Jvm.Cond.and given_1 narrow_1).before args0 about1 = true := by decide +kernel
theorem w_applies : (headSpec (Jvm.Cond.code x code maxLocals ret :: tables_1) room_1).applies x e0.platform about1 = true :=
  (Spec.applies_iff w_frames).mpr ⟨w_running, w_runnable, w_alone, w_named, w_hears, w_ripe, w_room, w_tables⟩
theorem atStart : AtStart classFile x code maxLocals ret World_1 tables_1 room_1 Calls_1 rest_1 Pre_1 launch0 p0 e0 about1 theMethod args0 below0 :=
  ⟨lists_1, trivial, launch0.admits_env _ _ _, launch0.least_env, fairChoices_fair.cas, fairChoices_fair.clock, w_frames, w_args, w_heap, w_applies, trivial, trivial, w_case⟩
end start1
theorem witness_1 : WitnessClaimed_1 := ⟨start1.p0, start1.e0, start1.about1, start1.theMethod, start1.args0, start1.below0, start1.atStart⟩
end Jvm.Pilot.@@N@@
