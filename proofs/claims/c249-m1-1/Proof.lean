import JvmDerived
import JvmDerived.Pilot.@@N@@Statement
import JvmDerived.Pilot.@@N@@Code
set_option linter.unusedVariables false
set_option linter.unusedSimpArgs false
namespace Jvm.RoadKit
open Sem ClassFile Op Lib Jvm.Stand Jvm.Free Jvm.LawKit
section New
variable {p : Program} {l : Launch} {e : Env} {R : Room} {s : State} {m : MethodId} {args : Array Value} {below : List Frame} {meth : Method} {c : Code} {T : State} {locs : List Loc} {cells slots : Nat}
theorem retI (X : Stand p l e R s m args below meth c T locs cells slots) (hx : p.tables.exec = Jvm.exec) {pc : Nat} {Ls : Array Slot} {z : Int32} {rest : List Value} (hret : meth.sig.returnType = some .int) (hd : decode c.code pc = .ok (.ireturn, 1)) {fs : List Frame}
    (hl : ∀ (f : JFrame) (acts : List Action), f.method = m → f.locked = none → f.entered = [] → (doReturn e (T.setTop f) acts (some (.int z))).1 = T.setFrames fs) : Steps p.tables e below (T.setTop (mkF m pc Ls (.int z :: rest))) (T.setFrames fs) := by
  have hm' : T.vm.method? m = some meth := X.method'
  have hn : narrow .int (.int z) = .int z := rfl
  show Steps p.tables e below (T.setTop { method := m, pc := pc, locals := Ls, stack := _ :: rest, locked := none }) _
  jvm_step X.here [X.here.top, hx, hd, hm', hret, hn]
  first | (intro acts; rw [hl _ acts rfl rfl rfl]) | rw [hl _ _ rfl rfl rfl]
  exact Steps.refl _
end New
end Jvm.RoadKit
namespace Jvm.Pilot.@@N@@
open Jvm Jvm.ClassFile Sem Op Lib Jvm.Free Jvm.Stand Jvm.LawKit Jvm.RoadKit Bundle Jvm.Pilot.@@N@@.Jvm.D

theorem own_sta {args : Array Value} {Z : State} {C n d K : String} (h : (Jvm.Cond.exactly (Term.static C n d) K).value args Z none Z [] = some true) (hi : (Jvm.Cond.initialized C).before args Z = true) (hl : (Jvm.Cond.laysStatic C n d).before args Z = true) : ∃ a, (Term.static C n d).eval args Z none [] Z = some (.ref a) ∧ Sta Z Z.heap C n d (.ref a) ∧ Exa Z Z.heap a K := by
  obtain ⟨a, ev⟩ := exa_v h
  exact ⟨a, ev, Sta.start ev (Or.inr ⟨hi, hl⟩), Exa.start ev h⟩
theorem own_fint {args : Array Value} {Z : State} {t : Term} {a : Addr} {C n d : String} {z : Int32} (ev : t.eval args Z none [] Z = some (.ref a)) (h : (Jvm.Cond.eq (Term.field t C n d) (Term.int z)).value args Z none Z [] = some true) : Fld Z Z.heap a C n d (.int z) := by
  refine Fld.start ?_
  cases hf : Z.fieldOf? a C n d with
  | none => simp [Cond.value, Term.eval, ev, hf] at h
  | some v => cases v <;> simp [Cond.value, Term.eval, ev, hf] at h ⊢; exact h
theorem own_fnull {args : Array Value} {Z : State} {t : Term} {a : Addr} {C n d : String} (ev : t.eval args Z none [] Z = some (.ref a)) (h : (Jvm.Cond.eq (Term.field t C n d) Term.null).value args Z none Z [] = some true) : Fld Z Z.heap a C n d .null := by
  refine Fld.start ?_
  cases hf : Z.fieldOf? a C n d with
  | none => simp [Cond.value, Term.eval, ev, hf] at h
  | some v => cases v <;> simp [Cond.value, Term.eval, ev, hf] at h ⊢
theorem own_fref {args : Array Value} {Z : State} {t : Term} {a : Addr} {C n d K : String} (ev : t.eval args Z none [] Z = some (.ref a)) (h : (Jvm.Cond.exactly (Term.field t C n d) K).value args Z none Z [] = some true) : ∃ x, Fld Z Z.heap a C n d (.ref x) := by
  obtain ⟨x, hx⟩ := exa_v h
  exact ⟨x, Fld.start ((fld_at ev).symm.trans hx)⟩

theorem own_staK {Z : State} {h h' : Heap} {C n d : String} {v : Value} (S : Sta Z h C n d v) (K : Keep h h' []) : Sta Z h' C n d v := by
  obtain ⟨cf, i, k, f, st, cell, h1, h2, h3, h4, h5, r⟩ := S
  exact ⟨cf, i, k, f, st, cell, h1, h2, h3, h4, K.2.1 _ _ h5 nin0, r⟩
def own_Fil (Z : State) (h0 h : Heap) (n0 : Nat) (b : Addr) (ka : ClassId) (C : String) (N : Nat) (W : Nat → Addr) (k : Nat) (locs : List Loc) : Prop :=
  Fr n0 locs ∧ Keep h0 h [] ∧ ∃ cl : Cell, Arr Z h b cl (.object C) ∧ cl.cls = ka ∧ cl.slots.size = N ∧ ∀ j, j < k → cl.slots[j]? = some (.ref (W j))
section Fill
variable {p : Program} {l : Launch} {e : Env} {R : Room} {s : State} {m : MethodId} {args : Array Value} {below : List Frame} {meth : Method} {c : Code} {T : State} {locs : List Loc} {cells slots : Nat} {Z : State} {a0 : Array Value}
theorem own_store (X : Stand p l e R s m args below meth c T locs cells slots) (hx : p.tables.exec = Jvm.exec) (hZ : Z.Warmed39 s.vm) {own C n d : String} {index : Nat} (hown : s.vm.findClass own = some m.cls) {h0 : Heap} {n0 : Nat} {b : Addr} {ka : ClassId} {N k : Nat} {W : Nat → Addr}
    (I : own_Fil Z h0 T.heap n0 b ka C N W k locs) (O : Ovr Z ka C) (q0 : n0 ≤ b) (q1 : h0.size ≤ b) (w : (Jvm.Cond.fieldLink own index C n d).before a0 Z = true) (S : Sta Z h0 C n d (.ref (W k))) (E : Exa Z h0 (W k) C) (hk : k < N) {Ls : Array Slot} {pc : Nat} {i : Int32} (hi : i.toNatClampNeg = k ∧ ¬ i < 0)
    (d3 : decode c.code pc = .ok (.getstatic index, 3)) (d4 : decode c.code (pc + 3) = .ok (.aastore, 1)) :
    ∃ T' locs', Stand p l e R s m args below meth c T' locs' cells slots ∧ own_Fil Z h0 T'.heap n0 b ka C N W (k + 1) locs' ∧ ∀ target, Steps p.tables e below (T'.setTop (mkF m (pc + 3 + 1) Ls [.ref b])) target → Steps p.tables e below (T.setTop (mkF m pc Ls [.int i, .ref b, .ref b])) target := by
  obtain ⟨N0, K, cl, A, hc, hs, hv⟩ := I
  have S' := own_staK S K
  have E' : Exa Z T.heap (W k) C := E.keep K
  obtain ⟨T1, X1, e1, st1⟩ := getS2 X hx hZ hown (host := "") (Or.inl w) Via.refl rfl S' (g := mkF m pc Ls [.int i, .ref b, .ref b]) rfl d3
  have Sto1 : Sto Z T.heap b (.ref (W k)) := Sto.ofV A hc O (Ins.self E')
  obtain ⟨T2, h2, X2, e2, W2, st2⟩ := stR X1 hx hZ e1 A (j := i) (by rw [hi.1, hs]; exact fun q => q.elim hi.2 (fun r => absurd hk (Nat.not_lt.mpr r))) rfl Sto1 (g := mkF m (pc + 3) Ls [.ref (W k), .int i, .ref b, .ref b]) rfl rfl d4
  refine ⟨T2, _, X2, ⟨Fr.snoc X2 N0 q0, by rw [e2]; exact K.wr W2 (Or.inr q1), cl.setSlot i.toNatClampNeg (.ref (W k)), by rw [e2]; exact A.same W2, hc, by rw [sz_set]; exact hs, ?_⟩, fun target h => st1 _ (st2 _ h)⟩
  intro j hj
  rw [hi.1]
  by_cases q : j = k
  · subst q
    simp [Cell.setSlot, hs, hk]
  · have hj' : j < k := by omega
    have := hv j hj'
    simpa [Cell.setSlot, Array.getElem?_setIfInBounds_ne (Ne.symm q)] using this
theorem own_fillC (X : Stand p l e R s m args below meth c T locs cells slots) (hx : p.tables.exec = Jvm.exec) (hZ : Z.Warmed39 s.vm) {own C n d : String} {index : Nat} (hown : s.vm.findClass own = some m.cls) {h0 : Heap} {n0 : Nat} {b : Addr} {ka : ClassId} {N k : Nat} {W : Nat → Addr}
    (I : own_Fil Z h0 T.heap n0 b ka C N W k locs) (O : Ovr Z ka C) (q0 : n0 ≤ b) (q1 : h0.size ≤ b) (w : (Jvm.Cond.fieldLink own index C n d).before a0 Z = true) (S : Sta Z h0 C n d (.ref (W k))) (E : Exa Z h0 (W k) C) (hk : k < N) {Ls : Array Slot} (pc : Nat) {i : Int} (hi : (Int32.ofInt i).toNatClampNeg = k ∧ ¬ Int32.ofInt i < 0)
    (d1 : decode c.code pc = .ok (.dup, 1)) (d2 : decode c.code (pc + 1) = .ok (.iconst i, 1)) (d3 : decode c.code (pc + 2) = .ok (.getstatic index, 3)) (d4 : decode c.code (pc + 5) = .ok (.aastore, 1)) :
    ∃ T' locs', Stand p l e R s m args below meth c T' locs' cells slots ∧ own_Fil Z h0 T'.heap n0 b ka C N W (k + 1) locs' ∧ ∀ target, Steps p.tables e below (T'.setTop (mkF m (pc + 6) Ls [.ref b])) target → Steps p.tables e below (T.setTop (mkF m pc Ls [.ref b])) target := by
  obtain ⟨T', L', X', I', st⟩ := own_store X hx hZ hown I O q0 q1 w S E hk (Ls := Ls) (pc := pc + 2) hi d3 d4
  refine ⟨T', L', X', I', fun target h => ?_⟩
  refine XS.dup X.here hx rfl d1 rfl rfl ?_
  refine XS.iconst X.here hx rfl d2 ?_
  exact st _ h
theorem own_fillB (X : Stand p l e R s m args below meth c T locs cells slots) (hx : p.tables.exec = Jvm.exec) (hZ : Z.Warmed39 s.vm) {own C n d : String} {index : Nat} (hown : s.vm.findClass own = some m.cls) {h0 : Heap} {n0 : Nat} {b : Addr} {ka : ClassId} {N k : Nat} {W : Nat → Addr}
    (I : own_Fil Z h0 T.heap n0 b ka C N W k locs) (O : Ovr Z ka C) (q0 : n0 ≤ b) (q1 : h0.size ≤ b) (w : (Jvm.Cond.fieldLink own index C n d).before a0 Z = true) (S : Sta Z h0 C n d (.ref (W k))) (E : Exa Z h0 (W k) C) (hk : k < N) {Ls : Array Slot} (pc : Nat) {i : Int} (hi : ((Int8.ofInt i).toInt32).toNatClampNeg = k ∧ ¬ (Int8.ofInt i).toInt32 < 0)
    (d1 : decode c.code pc = .ok (.dup, 1)) (d2 : decode c.code (pc + 1) = .ok (.bipush i, 2)) (d3 : decode c.code (pc + 3) = .ok (.getstatic index, 3)) (d4 : decode c.code (pc + 6) = .ok (.aastore, 1)) :
    ∃ T' locs', Stand p l e R s m args below meth c T' locs' cells slots ∧ own_Fil Z h0 T'.heap n0 b ka C N W (k + 1) locs' ∧ ∀ target, Steps p.tables e below (T'.setTop (mkF m (pc + 7) Ls [.ref b])) target → Steps p.tables e below (T.setTop (mkF m pc Ls [.ref b])) target := by
  obtain ⟨T', L', X', I', st⟩ := own_store X hx hZ hown I O q0 q1 w S E hk (Ls := Ls) (pc := pc + 3) hi d3 d4
  refine ⟨T', L', X', I', fun target h => ?_⟩
  refine XS.dup X.here hx rfl d1 rfl rfl ?_
  refine XS.bipush X.here hx rfl d2 ?_
  exact st _ h
end Fill
def own_nm (k : Nat) : String := ["SUCCESS", "GRANTED_QOS_1", "GRANTED_QOS_2", "DISCONNECT_WITH_WILL_MESSAGE", "NO_MATCHING_SUBSCRIBERS", "NO_SUBSCRIPTION_EXISTED", "CONTINUE_AUTHENTICATION", "RE_AUTHENTICATE", "UNSPECIFIED_ERROR", "MALFORMED_PACKET", "PROTOCOL_ERROR", "IMPLEMENTATION_SPECIFIC_ERROR", "UNSUPPORTED_PROTOCOL_VERSION", "CLIENT_IDENTIFIER_NOT_VALID", "BAD_USER_NAME_OR_PASSWORD", "NOT_AUTHORIZED", "SERVER_UNAVAILABLE", "SERVER_BUSY", "BANNED", "SERVER_SHUTTING_DOWN", "BAD_AUTHENTICATION_METHOD", "KEEP_ALIVE_TIMEOUT", "SESSION_TAKEN_OVER", "TOPIC_FILTER_INVALID", "TOPIC_NAME_INVALID", "PACKET_IDENTIFIER_IN_USE", "PACKET_IDENTIFIER_NOT_FOUND", "RECEIVE_MAXIMUM_EXCEEDED", "TOPIC_ALIAS_INVALID", "PACKET_TOO_LARGE", "MESSAGE_RATE_TOO_HIGH", "QUOTA_EXCEEDED", "ADMINISTRATIVE_ACTION", "PAYLOAD_FORMAT_INVALID", "RETAIN_NOT_SUPPORTED", "QOS_NOT_SUPPORTED", "USE_ANOTHER_SERVER", "SERVER_MOVED", "SHARED_SUBSCRIPTIONS_NOT_SUPPORTED", "CONNECTION_RATE_EXCEEDED", "MAXIMUM_CONNECT_TIME", "SUBSCRIPTION_IDENTIFIERS_NOT_SUPPORTED", "WILDCARD_SUBSCRIPTIONS_NOT_SUPPORTED"].getD k ""
def own_cv (k : Nat) : Int32 := [0, 1, 2, 4, 16, 17, 24, 25, 128, 129, 130, 131, 132, 133, 134, 135, 136, 137, 138, 139, 140, 141, 142, 143, 144, 145, 146, 147, 148, 149, 150, 151, 152, 153, 154, 155, 156, 157, 158, 159, 160, 161, 162].getD k 0
theorem own_lo : ∀ k, k < 43 → k < 8 → own_cv k < (128 : Int32) := by decide
theorem own_hi : ∀ k, k < 43 → ¬ k < 8 → ¬ own_cv k < (128 : Int32) := by decide
theorem own_idx (p : Int32) : ¬ ((p &&& (2147483647 : Int32)) % (43 : Int32)) < 0 ∧ ((p &&& (2147483647 : Int32)) % (43 : Int32)).toNatClampNeg < 43 ∧ (((p &&& (2147483647 : Int32)) % (43 : Int32)) < (8 : Int32) ↔ ((p &&& (2147483647 : Int32)) % (43 : Int32)).toNatClampNeg < 8) := by
  have h1 := c_mask p (2147483647 : Int32) 31 (by decide) (by decide)
  have h2 := (c_irem (p &&& (2147483647 : Int32)) (43 : Int32) 43 (by decide)).1 (by omega)
  have h3 : ¬ ((p &&& (2147483647 : Int32)) % (43 : Int32)) < 0 := by
    rw [Int32.lt_iff_toInt_lt]
    have : (0 : Int32).toInt = 0 := by decide
    omega
  have h4 := nat_of h3
  refine ⟨h3, by omega, ?_⟩
  rw [Int32.lt_iff_toInt_lt]
  have : (8 : Int32).toInt = 8 := by decide
  omega
set_option maxRecDepth 65536 in
set_option maxHeartbeats 40000000 in
theorem own_filled {p : Program} {l : Launch} {e : Env} {R : Room} {s : State} {m : MethodId} {args : Array Value} {below : List Frame} {meth : Method} {c : Code} {T : State} {locs : List Loc} {cells slots : Nat} {Z : State} {a0 : Array Value}
    (X : Stand p l e R s m args below meth c T locs cells slots) (hx : p.tables.exec = Jvm.exec) (hZ : Z.Warmed39 s.vm) (hown : s.vm.findClass "com/example/lean_broker/leanbroker/codec/ReasonCodeIsFailurePinLaw" = some m.cls) (hby : c.code = code) (hw : ∀ d ∈ tables_1, d.before a0 Z = true) {h0 : Heap} {n0 : Nat} {b : Addr} {ka : ClassId} {W : Nat → Addr} (Ls : Array Slot)
    (I : own_Fil Z h0 T.heap n0 b ka "com/example/lean_broker/leanbroker/codec/ReasonCode" 43 W 0 locs) (O : Ovr Z ka "com/example/lean_broker/leanbroker/codec/ReasonCode") (q0 : n0 ≤ b) (q1 : h0.size ≤ b) (S : ∀ k, k < 43 → Sta Z h0 "com/example/lean_broker/leanbroker/codec/ReasonCode" (own_nm k) "Lcom/example/lean_broker/leanbroker/codec/ReasonCode;" (.ref (W k))) (E : ∀ k, k < 43 → Exa Z h0 (W k) "com/example/lean_broker/leanbroker/codec/ReasonCode") :
    ∃ T' locs', Stand p l e R s m args below meth c T' locs' cells slots ∧ own_Fil Z h0 T'.heap n0 b ka "com/example/lean_broker/leanbroker/codec/ReasonCode" 43 W 43 locs' ∧ ∀ target, Steps p.tables e below (T'.setTop (mkF m 300 Ls [.ref b])) target → Steps p.tables e below (T.setTop (mkF m 5 Ls [.ref b])) target := by
  obtain ⟨T1, L1, X1, I1, st1⟩ := own_fillC X hx hZ hown I O q0 q1 (hw _ (List.mem_of_getElem? (i := 2) rfl)) (S 0 (by decide)) (E 0 (by decide)) (by decide) (Ls := Ls) 5 (by decide) (hb hby at_5) (hb hby at_6) (hb hby at_7) (hb hby at_10)
  obtain ⟨T2, L2, X2, I2, st2⟩ := own_fillC X1 hx hZ hown I1 O q0 q1 (hw _ (List.mem_of_getElem? (i := 6) rfl)) (S 1 (by decide)) (E 1 (by decide)) (by decide) (Ls := Ls) 11 (by decide) (hb hby at_11) (hb hby at_12) (hb hby at_13) (hb hby at_16)
  obtain ⟨T3, L3, X3, I3, st3⟩ := own_fillC X2 hx hZ hown I2 O q0 q1 (hw _ (List.mem_of_getElem? (i := 8) rfl)) (S 2 (by decide)) (E 2 (by decide)) (by decide) (Ls := Ls) 17 (by decide) (hb hby at_17) (hb hby at_18) (hb hby at_19) (hb hby at_22)
  obtain ⟨T4, L4, X4, I4, st4⟩ := own_fillC X3 hx hZ hown I3 O q0 q1 (hw _ (List.mem_of_getElem? (i := 10) rfl)) (S 3 (by decide)) (E 3 (by decide)) (by decide) (Ls := Ls) 23 (by decide) (hb hby at_23) (hb hby at_24) (hb hby at_25) (hb hby at_28)
  obtain ⟨T5, L5, X5, I5, st5⟩ := own_fillC X4 hx hZ hown I4 O q0 q1 (hw _ (List.mem_of_getElem? (i := 12) rfl)) (S 4 (by decide)) (E 4 (by decide)) (by decide) (Ls := Ls) 29 (by decide) (hb hby at_29) (hb hby at_30) (hb hby at_31) (hb hby at_34)
  obtain ⟨T6, L6, X6, I6, st6⟩ := own_fillC X5 hx hZ hown I5 O q0 q1 (hw _ (List.mem_of_getElem? (i := 14) rfl)) (S 5 (by decide)) (E 5 (by decide)) (by decide) (Ls := Ls) 35 (by decide) (hb hby at_35) (hb hby at_36) (hb hby at_37) (hb hby at_40)
  obtain ⟨T7, L7, X7, I7, st7⟩ := own_fillB X6 hx hZ hown I6 O q0 q1 (hw _ (List.mem_of_getElem? (i := 16) rfl)) (S 6 (by decide)) (E 6 (by decide)) (by decide) (Ls := Ls) 41 (by decide) (hb hby at_41) (hb hby at_42) (hb hby at_44) (hb hby at_47)
  obtain ⟨T8, L8, X8, I8, st8⟩ := own_fillB X7 hx hZ hown I7 O q0 q1 (hw _ (List.mem_of_getElem? (i := 18) rfl)) (S 7 (by decide)) (E 7 (by decide)) (by decide) (Ls := Ls) 48 (by decide) (hb hby at_48) (hb hby at_49) (hb hby at_51) (hb hby at_54)
  obtain ⟨T9, L9, X9, I9, st9⟩ := own_fillB X8 hx hZ hown I8 O q0 q1 (hw _ (List.mem_of_getElem? (i := 20) rfl)) (S 8 (by decide)) (E 8 (by decide)) (by decide) (Ls := Ls) 55 (by decide) (hb hby at_55) (hb hby at_56) (hb hby at_58) (hb hby at_61)
  obtain ⟨T10, L10, X10, I10, st10⟩ := own_fillB X9 hx hZ hown I9 O q0 q1 (hw _ (List.mem_of_getElem? (i := 22) rfl)) (S 9 (by decide)) (E 9 (by decide)) (by decide) (Ls := Ls) 62 (by decide) (hb hby at_62) (hb hby at_63) (hb hby at_65) (hb hby at_68)
  obtain ⟨T11, L11, X11, I11, st11⟩ := own_fillB X10 hx hZ hown I10 O q0 q1 (hw _ (List.mem_of_getElem? (i := 24) rfl)) (S 10 (by decide)) (E 10 (by decide)) (by decide) (Ls := Ls) 69 (by decide) (hb hby at_69) (hb hby at_70) (hb hby at_72) (hb hby at_75)
  obtain ⟨T12, L12, X12, I12, st12⟩ := own_fillB X11 hx hZ hown I11 O q0 q1 (hw _ (List.mem_of_getElem? (i := 26) rfl)) (S 11 (by decide)) (E 11 (by decide)) (by decide) (Ls := Ls) 76 (by decide) (hb hby at_76) (hb hby at_77) (hb hby at_79) (hb hby at_82)
  obtain ⟨T13, L13, X13, I13, st13⟩ := own_fillB X12 hx hZ hown I12 O q0 q1 (hw _ (List.mem_of_getElem? (i := 28) rfl)) (S 12 (by decide)) (E 12 (by decide)) (by decide) (Ls := Ls) 83 (by decide) (hb hby at_83) (hb hby at_84) (hb hby at_86) (hb hby at_89)
  obtain ⟨T14, L14, X14, I14, st14⟩ := own_fillB X13 hx hZ hown I13 O q0 q1 (hw _ (List.mem_of_getElem? (i := 30) rfl)) (S 13 (by decide)) (E 13 (by decide)) (by decide) (Ls := Ls) 90 (by decide) (hb hby at_90) (hb hby at_91) (hb hby at_93) (hb hby at_96)
  obtain ⟨T15, L15, X15, I15, st15⟩ := own_fillB X14 hx hZ hown I14 O q0 q1 (hw _ (List.mem_of_getElem? (i := 32) rfl)) (S 14 (by decide)) (E 14 (by decide)) (by decide) (Ls := Ls) 97 (by decide) (hb hby at_97) (hb hby at_98) (hb hby at_100) (hb hby at_103)
  obtain ⟨T16, L16, X16, I16, st16⟩ := own_fillB X15 hx hZ hown I15 O q0 q1 (hw _ (List.mem_of_getElem? (i := 34) rfl)) (S 15 (by decide)) (E 15 (by decide)) (by decide) (Ls := Ls) 104 (by decide) (hb hby at_104) (hb hby at_105) (hb hby at_107) (hb hby at_110)
  obtain ⟨T17, L17, X17, I17, st17⟩ := own_fillB X16 hx hZ hown I16 O q0 q1 (hw _ (List.mem_of_getElem? (i := 36) rfl)) (S 16 (by decide)) (E 16 (by decide)) (by decide) (Ls := Ls) 111 (by decide) (hb hby at_111) (hb hby at_112) (hb hby at_114) (hb hby at_117)
  obtain ⟨T18, L18, X18, I18, st18⟩ := own_fillB X17 hx hZ hown I17 O q0 q1 (hw _ (List.mem_of_getElem? (i := 38) rfl)) (S 17 (by decide)) (E 17 (by decide)) (by decide) (Ls := Ls) 118 (by decide) (hb hby at_118) (hb hby at_119) (hb hby at_121) (hb hby at_124)
  obtain ⟨T19, L19, X19, I19, st19⟩ := own_fillB X18 hx hZ hown I18 O q0 q1 (hw _ (List.mem_of_getElem? (i := 40) rfl)) (S 18 (by decide)) (E 18 (by decide)) (by decide) (Ls := Ls) 125 (by decide) (hb hby at_125) (hb hby at_126) (hb hby at_128) (hb hby at_131)
  obtain ⟨T20, L20, X20, I20, st20⟩ := own_fillB X19 hx hZ hown I19 O q0 q1 (hw _ (List.mem_of_getElem? (i := 42) rfl)) (S 19 (by decide)) (E 19 (by decide)) (by decide) (Ls := Ls) 132 (by decide) (hb hby at_132) (hb hby at_133) (hb hby at_135) (hb hby at_138)
  obtain ⟨T21, L21, X21, I21, st21⟩ := own_fillB X20 hx hZ hown I20 O q0 q1 (hw _ (List.mem_of_getElem? (i := 44) rfl)) (S 20 (by decide)) (E 20 (by decide)) (by decide) (Ls := Ls) 139 (by decide) (hb hby at_139) (hb hby at_140) (hb hby at_142) (hb hby at_145)
  obtain ⟨T22, L22, X22, I22, st22⟩ := own_fillB X21 hx hZ hown I21 O q0 q1 (hw _ (List.mem_of_getElem? (i := 46) rfl)) (S 21 (by decide)) (E 21 (by decide)) (by decide) (Ls := Ls) 146 (by decide) (hb hby at_146) (hb hby at_147) (hb hby at_149) (hb hby at_152)
  obtain ⟨T23, L23, X23, I23, st23⟩ := own_fillB X22 hx hZ hown I22 O q0 q1 (hw _ (List.mem_of_getElem? (i := 48) rfl)) (S 22 (by decide)) (E 22 (by decide)) (by decide) (Ls := Ls) 153 (by decide) (hb hby at_153) (hb hby at_154) (hb hby at_156) (hb hby at_159)
  obtain ⟨T24, L24, X24, I24, st24⟩ := own_fillB X23 hx hZ hown I23 O q0 q1 (hw _ (List.mem_of_getElem? (i := 50) rfl)) (S 23 (by decide)) (E 23 (by decide)) (by decide) (Ls := Ls) 160 (by decide) (hb hby at_160) (hb hby at_161) (hb hby at_163) (hb hby at_166)
  obtain ⟨T25, L25, X25, I25, st25⟩ := own_fillB X24 hx hZ hown I24 O q0 q1 (hw _ (List.mem_of_getElem? (i := 52) rfl)) (S 24 (by decide)) (E 24 (by decide)) (by decide) (Ls := Ls) 167 (by decide) (hb hby at_167) (hb hby at_168) (hb hby at_170) (hb hby at_173)
  obtain ⟨T26, L26, X26, I26, st26⟩ := own_fillB X25 hx hZ hown I25 O q0 q1 (hw _ (List.mem_of_getElem? (i := 54) rfl)) (S 25 (by decide)) (E 25 (by decide)) (by decide) (Ls := Ls) 174 (by decide) (hb hby at_174) (hb hby at_175) (hb hby at_177) (hb hby at_180)
  obtain ⟨T27, L27, X27, I27, st27⟩ := own_fillB X26 hx hZ hown I26 O q0 q1 (hw _ (List.mem_of_getElem? (i := 56) rfl)) (S 26 (by decide)) (E 26 (by decide)) (by decide) (Ls := Ls) 181 (by decide) (hb hby at_181) (hb hby at_182) (hb hby at_184) (hb hby at_187)
  obtain ⟨T28, L28, X28, I28, st28⟩ := own_fillB X27 hx hZ hown I27 O q0 q1 (hw _ (List.mem_of_getElem? (i := 58) rfl)) (S 27 (by decide)) (E 27 (by decide)) (by decide) (Ls := Ls) 188 (by decide) (hb hby at_188) (hb hby at_189) (hb hby at_191) (hb hby at_194)
  obtain ⟨T29, L29, X29, I29, st29⟩ := own_fillB X28 hx hZ hown I28 O q0 q1 (hw _ (List.mem_of_getElem? (i := 60) rfl)) (S 28 (by decide)) (E 28 (by decide)) (by decide) (Ls := Ls) 195 (by decide) (hb hby at_195) (hb hby at_196) (hb hby at_198) (hb hby at_201)
  obtain ⟨T30, L30, X30, I30, st30⟩ := own_fillB X29 hx hZ hown I29 O q0 q1 (hw _ (List.mem_of_getElem? (i := 62) rfl)) (S 29 (by decide)) (E 29 (by decide)) (by decide) (Ls := Ls) 202 (by decide) (hb hby at_202) (hb hby at_203) (hb hby at_205) (hb hby at_208)
  obtain ⟨T31, L31, X31, I31, st31⟩ := own_fillB X30 hx hZ hown I30 O q0 q1 (hw _ (List.mem_of_getElem? (i := 64) rfl)) (S 30 (by decide)) (E 30 (by decide)) (by decide) (Ls := Ls) 209 (by decide) (hb hby at_209) (hb hby at_210) (hb hby at_212) (hb hby at_215)
  obtain ⟨T32, L32, X32, I32, st32⟩ := own_fillB X31 hx hZ hown I31 O q0 q1 (hw _ (List.mem_of_getElem? (i := 66) rfl)) (S 31 (by decide)) (E 31 (by decide)) (by decide) (Ls := Ls) 216 (by decide) (hb hby at_216) (hb hby at_217) (hb hby at_219) (hb hby at_222)
  obtain ⟨T33, L33, X33, I33, st33⟩ := own_fillB X32 hx hZ hown I32 O q0 q1 (hw _ (List.mem_of_getElem? (i := 68) rfl)) (S 32 (by decide)) (E 32 (by decide)) (by decide) (Ls := Ls) 223 (by decide) (hb hby at_223) (hb hby at_224) (hb hby at_226) (hb hby at_229)
  obtain ⟨T34, L34, X34, I34, st34⟩ := own_fillB X33 hx hZ hown I33 O q0 q1 (hw _ (List.mem_of_getElem? (i := 70) rfl)) (S 33 (by decide)) (E 33 (by decide)) (by decide) (Ls := Ls) 230 (by decide) (hb hby at_230) (hb hby at_231) (hb hby at_233) (hb hby at_236)
  obtain ⟨T35, L35, X35, I35, st35⟩ := own_fillB X34 hx hZ hown I34 O q0 q1 (hw _ (List.mem_of_getElem? (i := 72) rfl)) (S 34 (by decide)) (E 34 (by decide)) (by decide) (Ls := Ls) 237 (by decide) (hb hby at_237) (hb hby at_238) (hb hby at_240) (hb hby at_243)
  obtain ⟨T36, L36, X36, I36, st36⟩ := own_fillB X35 hx hZ hown I35 O q0 q1 (hw _ (List.mem_of_getElem? (i := 74) rfl)) (S 35 (by decide)) (E 35 (by decide)) (by decide) (Ls := Ls) 244 (by decide) (hb hby at_244) (hb hby at_245) (hb hby at_247) (hb hby at_250)
  obtain ⟨T37, L37, X37, I37, st37⟩ := own_fillB X36 hx hZ hown I36 O q0 q1 (hw _ (List.mem_of_getElem? (i := 76) rfl)) (S 36 (by decide)) (E 36 (by decide)) (by decide) (Ls := Ls) 251 (by decide) (hb hby at_251) (hb hby at_252) (hb hby at_254) (hb hby at_257)
  obtain ⟨T38, L38, X38, I38, st38⟩ := own_fillB X37 hx hZ hown I37 O q0 q1 (hw _ (List.mem_of_getElem? (i := 78) rfl)) (S 37 (by decide)) (E 37 (by decide)) (by decide) (Ls := Ls) 258 (by decide) (hb hby at_258) (hb hby at_259) (hb hby at_261) (hb hby at_264)
  obtain ⟨T39, L39, X39, I39, st39⟩ := own_fillB X38 hx hZ hown I38 O q0 q1 (hw _ (List.mem_of_getElem? (i := 80) rfl)) (S 38 (by decide)) (E 38 (by decide)) (by decide) (Ls := Ls) 265 (by decide) (hb hby at_265) (hb hby at_266) (hb hby at_268) (hb hby at_271)
  obtain ⟨T40, L40, X40, I40, st40⟩ := own_fillB X39 hx hZ hown I39 O q0 q1 (hw _ (List.mem_of_getElem? (i := 82) rfl)) (S 39 (by decide)) (E 39 (by decide)) (by decide) (Ls := Ls) 272 (by decide) (hb hby at_272) (hb hby at_273) (hb hby at_275) (hb hby at_278)
  obtain ⟨T41, L41, X41, I41, st41⟩ := own_fillB X40 hx hZ hown I40 O q0 q1 (hw _ (List.mem_of_getElem? (i := 84) rfl)) (S 40 (by decide)) (E 40 (by decide)) (by decide) (Ls := Ls) 279 (by decide) (hb hby at_279) (hb hby at_280) (hb hby at_282) (hb hby at_285)
  obtain ⟨T42, L42, X42, I42, st42⟩ := own_fillB X41 hx hZ hown I41 O q0 q1 (hw _ (List.mem_of_getElem? (i := 86) rfl)) (S 41 (by decide)) (E 41 (by decide)) (by decide) (Ls := Ls) 286 (by decide) (hb hby at_286) (hb hby at_287) (hb hby at_289) (hb hby at_292)
  obtain ⟨T43, L43, X43, I43, st43⟩ := own_fillB X42 hx hZ hown I42 O q0 q1 (hw _ (List.mem_of_getElem? (i := 88) rfl)) (S 42 (by decide)) (E 42 (by decide)) (by decide) (Ls := Ls) 293 (by decide) (hb hby at_293) (hb hby at_294) (hb hby at_296) (hb hby at_299)
  refine ⟨T43, L43, X43, I43, fun target h => ?_⟩
  refine st1 _ ?_
  refine st2 _ ?_
  refine st3 _ ?_
  refine st4 _ ?_
  refine st5 _ ?_
  refine st6 _ ?_
  refine st7 _ ?_
  refine st8 _ ?_
  refine st9 _ ?_
  refine st10 _ ?_
  refine st11 _ ?_
  refine st12 _ ?_
  refine st13 _ ?_
  refine st14 _ ?_
  refine st15 _ ?_
  refine st16 _ ?_
  refine st17 _ ?_
  refine st18 _ ?_
  refine st19 _ ?_
  refine st20 _ ?_
  refine st21 _ ?_
  refine st22 _ ?_
  refine st23 _ ?_
  refine st24 _ ?_
  refine st25 _ ?_
  refine st26 _ ?_
  refine st27 _ ?_
  refine st28 _ ?_
  refine st29 _ ?_
  refine st30 _ ?_
  refine st31 _ ?_
  refine st32 _ ?_
  refine st33 _ ?_
  refine st34 _ ?_
  refine st35 _ ?_
  refine st36 _ ?_
  refine st37 _ ?_
  refine st38 _ ?_
  refine st39 _ ?_
  refine st40 _ ?_
  refine st41 _ ?_
  refine st42 _ ?_
  refine st43 _ ?_
  exact h
theorem d1_0 : decode prog_4_method_7_code 0 = .ok (.aload_n 0, 1) := by decide +kernel
theorem d1_1 : decode prog_4_method_7_code 1 = .ok (.getfield 152, 3) := by decide +kernel
theorem d1_4 : decode prog_4_method_7_code 4 = .ok (.sipush 128, 3) := by decide +kernel
theorem d1_7 : decode prog_4_method_7_code 7 = .ok (.if_icmp .lt 7, 3) := by decide +kernel
theorem d1_10 : decode prog_4_method_7_code 10 = .ok (.iconst 1, 1) := by decide +kernel
theorem d1_11 : decode prog_4_method_7_code 11 = .ok (.goto 4, 3) := by decide +kernel
theorem d1_15 : decode prog_4_method_7_code 15 = .ok (.ireturn, 1) := by decide +kernel
theorem pn_1 : plainName "com/example/lean_broker/leanbroker/codec/ReasonCode" = true := by first | (simp [plainName, overriddenIn]; done) | decide +kernel
theorem ef_1 (m : MethodId) (x0 : Addr) : entryFrame m #[(.ref x0)] 1 = mkF m 0 #[.val (.ref x0)] [] := by first | (simp [entryFrame, mkF, argsToLocals, Value.category]; done) | rfl
def Q1a (Z : State) (a1 : Addr) (w2 : Int32) (h0 : Heap) (n0 : Nat) (v : Option Value) (h : Heap) (L : List Loc) : Prop := v = some (.int (1 : Int32)) ∧ Fr n0 L ∧ h = h0
set_option maxRecDepth 65536 in
set_option maxHeartbeats 40000000 in
theorem rm1a (l : Launch) (Z : State) (a0 : Array Value) (hw : ∀ d ∈ tables_1, d.before a0 Z = true) (ws : List Jvm.Cond) (a1 : Addr) (w2 : Int32) (h0 : Heap) (n0 : Nat) (Z0 : n0 ≤ h0.size) (F_code_a1 : Fld Z h0 a1 "com/example/lean_broker/leanbroker/codec/ReasonCode" "code" "I" (.int w2)) (hc7 : ¬ (w2 < (128 : Int32))) :
    MetFree l (⟨"com/example/lean_broker/leanbroker/codec/ReasonCode", "isFailure", "()Z"⟩ : MethodName) (head1 (Jvm.Cond.code (⟨"com/example/lean_broker/leanbroker/codec/ReasonCode", "isFailure", "()Z"⟩ : MethodName) prog_4_method_7_code 1 (some .boolean) :: ws) ({ frames := 0, cells := 0, slots := 0, locals := 0 } : Room)) (fun a U => a = #[(.ref a1)] ∧ Z.Warmed39 U.vm ∧ U.heap = h0) (fun _ _ _ _ _ => True) (fun _ U o U' => ∃ v L, o = .returned v ∧ Q1a Z a1 w2 h0 n0 v U'.heap L ∧ FrameEnd U o U' L ({ frames := 0, cells := 0, slots := 0, locals := 0 } : Room).cells ({ frames := 0, cells := 0, slots := 0, locals := 0 } : Room).slots) := by
  refine MetFree.of_bodySF (plainFor_of_name pn_1) hisR ?_
  intro p e s m args below meth c s₁ Bd hml0 hP hK
  obtain ⟨rfl, hZ, hh⟩ := hP
  have hx := Bd.exec
  have hby := Bd.bytes
  have hml : c.maxLocals = 1 := hml0
  have hown : s.vm.findClass "com/example/lean_broker/leanbroker/codec/ReasonCode" = some m.cls := findClass_of_methodNamed Bd.named
  have hnm := (name_of_methodNamed Bd.named Bd.method).1
  have X0 : Stand p l e ({ frames := 0, cells := 0, slots := 0, locals := 0 } : Room) s m #[(.ref a1)] below meth c s₁ [] 0 0 := Stand.of_body Bd
  have e0 : s₁.heap = h0 := by rw [← hh, Bd.state]; rfl
  have N0 := Fr.nil n0
  have pre0 : ∀ t, Steps p.tables e below (s₁.setTop (mkF m 0 #[.val (.ref a1)] [])) t → Steps p.tables e below (s₁.setTop (entryFrame m #[(.ref a1)] 1)) t := fun t k => castTop (ef_1 m a1) k
  obtain ⟨T3, X3, e3, st3⟩ := getF X0 hx hZ hown (host := "") (Or.inl (hw _ (List.mem_of_getElem? (i := 96) rfl))) Via.refl e0 F_code_a1 (g := (mkF m 1 #[.val (.ref a1)] [(.ref a1)])) rfl rfl (hb hby d1_1)
  obtain ⟨fs, hr, hrun, hended, hW, hsame⟩ := X3.leave (v := some (.int (1 : Int32))) (fun h => by rw [Bd.returns] at h; cases h)
  refine ⟨_, _, pre0 _ ?_, hrun, hended, _, _, rfl, ?_, ⟨_, rfl⟩, hW, hsame.mono (by decide) (by decide)⟩
  · show Steps p.tables e below (s₁.setTop (mkF m 0 #[.val (.ref a1)] [])) _
    refine XS.aloadN X0.here hx rfl (hb hby d1_0) rfl rfl ?_
    show Steps p.tables e below (s₁.setTop (mkF m 1 #[.val (.ref a1)] [(.ref a1)])) _
    refine st3 _ ?_
    show Steps p.tables e below (T3.setTop (mkF m 4 #[.val (.ref a1)] [(.int w2)])) _
    refine XS.sipush X3.here hx rfl (hb hby d1_4) ?_
    show Steps p.tables e below (T3.setTop (mkF m 7 #[.val (.ref a1)] [(.int (128 : Int32)), (.int w2)])) _
    refine XS.icmpNo X3.here hx rfl (hb hby d1_7) rfl (flt hc7).1 ?_
    show Steps p.tables e below (T3.setTop (mkF m 10 #[.val (.ref a1)] [])) _
    refine XS.iconst X3.here hx rfl (hb hby d1_10) ?_
    show Steps p.tables e below (T3.setTop (mkF m 11 #[.val (.ref a1)] [(.int (1 : Int32))])) _
    refine XS.goto X3.here hx rfl (pc0 := 11) (pc' := 15) rfl (hb hby d1_11) (by decide) (by decide) ?_
    show Steps p.tables e below (T3.setTop (mkF m 15 #[.val (.ref a1)] [(.int (1 : Int32))])) _
    exact retN X3 hx (t := .boolean) Bd.returns (by simp) (hb hby d1_15) hr
  · show Q1a Z a1 w2 h0 n0 _ T3.heap _
    rw [e3]
    exact ⟨rfl, N0, rfl⟩
theorem d1_14 : decode prog_4_method_7_code 14 = .ok (.iconst 0, 1) := by decide +kernel
def Q1b (Z : State) (a1 : Addr) (w2 : Int32) (h0 : Heap) (n0 : Nat) (v : Option Value) (h : Heap) (L : List Loc) : Prop := v = some (.int (0 : Int32)) ∧ Fr n0 L ∧ h = h0
set_option maxRecDepth 65536 in
set_option maxHeartbeats 40000000 in
theorem rm1b (l : Launch) (Z : State) (a0 : Array Value) (hw : ∀ d ∈ tables_1, d.before a0 Z = true) (ws : List Jvm.Cond) (a1 : Addr) (w2 : Int32) (h0 : Heap) (n0 : Nat) (Z0 : n0 ≤ h0.size) (F_code_a1 : Fld Z h0 a1 "com/example/lean_broker/leanbroker/codec/ReasonCode" "code" "I" (.int w2)) (hc7 : w2 < (128 : Int32)) :
    MetFree l (⟨"com/example/lean_broker/leanbroker/codec/ReasonCode", "isFailure", "()Z"⟩ : MethodName) (head1 (Jvm.Cond.code (⟨"com/example/lean_broker/leanbroker/codec/ReasonCode", "isFailure", "()Z"⟩ : MethodName) prog_4_method_7_code 1 (some .boolean) :: ws) ({ frames := 0, cells := 0, slots := 0, locals := 0 } : Room)) (fun a U => a = #[(.ref a1)] ∧ Z.Warmed39 U.vm ∧ U.heap = h0) (fun _ _ _ _ _ => True) (fun _ U o U' => ∃ v L, o = .returned v ∧ Q1b Z a1 w2 h0 n0 v U'.heap L ∧ FrameEnd U o U' L ({ frames := 0, cells := 0, slots := 0, locals := 0 } : Room).cells ({ frames := 0, cells := 0, slots := 0, locals := 0 } : Room).slots) := by
  refine MetFree.of_bodySF (plainFor_of_name pn_1) hisR ?_
  intro p e s m args below meth c s₁ Bd hml0 hP hK
  obtain ⟨rfl, hZ, hh⟩ := hP
  have hx := Bd.exec
  have hby := Bd.bytes
  have hml : c.maxLocals = 1 := hml0
  have hown : s.vm.findClass "com/example/lean_broker/leanbroker/codec/ReasonCode" = some m.cls := findClass_of_methodNamed Bd.named
  have hnm := (name_of_methodNamed Bd.named Bd.method).1
  have X0 : Stand p l e ({ frames := 0, cells := 0, slots := 0, locals := 0 } : Room) s m #[(.ref a1)] below meth c s₁ [] 0 0 := Stand.of_body Bd
  have e0 : s₁.heap = h0 := by rw [← hh, Bd.state]; rfl
  have N0 := Fr.nil n0
  have pre0 : ∀ t, Steps p.tables e below (s₁.setTop (mkF m 0 #[.val (.ref a1)] [])) t → Steps p.tables e below (s₁.setTop (entryFrame m #[(.ref a1)] 1)) t := fun t k => castTop (ef_1 m a1) k
  obtain ⟨T3, X3, e3, st3⟩ := getF X0 hx hZ hown (host := "") (Or.inl (hw _ (List.mem_of_getElem? (i := 96) rfl))) Via.refl e0 F_code_a1 (g := (mkF m 1 #[.val (.ref a1)] [(.ref a1)])) rfl rfl (hb hby d1_1)
  obtain ⟨fs, hr, hrun, hended, hW, hsame⟩ := X3.leave (v := some (.int (0 : Int32))) (fun h => by rw [Bd.returns] at h; cases h)
  refine ⟨_, _, pre0 _ ?_, hrun, hended, _, _, rfl, ?_, ⟨_, rfl⟩, hW, hsame.mono (by decide) (by decide)⟩
  · show Steps p.tables e below (s₁.setTop (mkF m 0 #[.val (.ref a1)] [])) _
    refine XS.aloadN X0.here hx rfl (hb hby d1_0) rfl rfl ?_
    show Steps p.tables e below (s₁.setTop (mkF m 1 #[.val (.ref a1)] [(.ref a1)])) _
    refine st3 _ ?_
    show Steps p.tables e below (T3.setTop (mkF m 4 #[.val (.ref a1)] [(.int w2)])) _
    refine XS.sipush X3.here hx rfl (hb hby d1_4) ?_
    show Steps p.tables e below (T3.setTop (mkF m 7 #[.val (.ref a1)] [(.int (128 : Int32)), (.int w2)])) _
    refine XS.icmpYes X3.here hx rfl (pc0 := 7) (pc' := 14) rfl (hb hby d1_7) rfl (tlt hc7).1 (by decide) (by decide) ?_
    show Steps p.tables e below (T3.setTop (mkF m 14 #[.val (.ref a1)] [])) _
    refine XS.iconst X3.here hx rfl (hb hby d1_14) ?_
    show Steps p.tables e below (T3.setTop (mkF m 15 #[.val (.ref a1)] [(.int (0 : Int32))])) _
    exact retN X3 hx (t := .boolean) Bd.returns (by simp) (hb hby d1_15) hr
  · show Q1b Z a1 w2 h0 n0 _ T3.heap _
    rw [e3]
    exact ⟨rfl, N0, rfl⟩
theorem d2_0 : decode prog_4_method_5_code 0 = .ok (.aload_n 0, 1) := by decide +kernel
theorem d2_1 : decode prog_4_method_5_code 1 = .ok (.getfield 152, 3) := by decide +kernel
theorem d2_4 : decode prog_4_method_5_code 4 = .ok (.ireturn, 1) := by decide +kernel
theorem pn_2 : plainName "com/example/lean_broker/leanbroker/codec/ReasonCode" = true := by first | (simp [plainName, overriddenIn]; done) | decide +kernel
theorem ef_2 (m : MethodId) (x0 : Addr) : entryFrame m #[(.ref x0)] 1 = mkF m 0 #[.val (.ref x0)] [] := by first | (simp [entryFrame, mkF, argsToLocals, Value.category]; done) | rfl
def Q2 (Z : State) (a1 : Addr) (w2 : Int32) (h0 : Heap) (n0 : Nat) (v : Option Value) (h : Heap) (L : List Loc) : Prop := v = some (.int w2) ∧ Fr n0 L ∧ h = h0
set_option maxRecDepth 65536 in
set_option maxHeartbeats 40000000 in
theorem rm2 (l : Launch) (Z : State) (a0 : Array Value) (hw : ∀ d ∈ tables_1, d.before a0 Z = true) (ws : List Jvm.Cond) (a1 : Addr) (w2 : Int32) (h0 : Heap) (n0 : Nat) (Z0 : n0 ≤ h0.size) (F_code_a1 : Fld Z h0 a1 "com/example/lean_broker/leanbroker/codec/ReasonCode" "code" "I" (.int w2)) :
    MetFree l (⟨"com/example/lean_broker/leanbroker/codec/ReasonCode", "code", "()I"⟩ : MethodName) (head1 (Jvm.Cond.code (⟨"com/example/lean_broker/leanbroker/codec/ReasonCode", "code", "()I"⟩ : MethodName) prog_4_method_5_code 1 (some .int) :: ws) ({ frames := 0, cells := 0, slots := 0, locals := 0 } : Room)) (fun a U => a = #[(.ref a1)] ∧ Z.Warmed39 U.vm ∧ U.heap = h0) (fun _ _ _ _ _ => True) (fun _ U o U' => ∃ v L, o = .returned v ∧ Q2 Z a1 w2 h0 n0 v U'.heap L ∧ FrameEnd U o U' L ({ frames := 0, cells := 0, slots := 0, locals := 0 } : Room).cells ({ frames := 0, cells := 0, slots := 0, locals := 0 } : Room).slots) := by
  refine MetFree.of_bodySF (plainFor_of_name pn_2) hisR ?_
  intro p e s m args below meth c s₁ Bd hml0 hP hK
  obtain ⟨rfl, hZ, hh⟩ := hP
  have hx := Bd.exec
  have hby := Bd.bytes
  have hml : c.maxLocals = 1 := hml0
  have hown : s.vm.findClass "com/example/lean_broker/leanbroker/codec/ReasonCode" = some m.cls := findClass_of_methodNamed Bd.named
  have hnm := (name_of_methodNamed Bd.named Bd.method).1
  have X0 : Stand p l e ({ frames := 0, cells := 0, slots := 0, locals := 0 } : Room) s m #[(.ref a1)] below meth c s₁ [] 0 0 := Stand.of_body Bd
  have e0 : s₁.heap = h0 := by rw [← hh, Bd.state]; rfl
  have N0 := Fr.nil n0
  have pre0 : ∀ t, Steps p.tables e below (s₁.setTop (mkF m 0 #[.val (.ref a1)] [])) t → Steps p.tables e below (s₁.setTop (entryFrame m #[(.ref a1)] 1)) t := fun t k => castTop (ef_2 m a1) k
  obtain ⟨T3, X3, e3, st3⟩ := getF X0 hx hZ hown (host := "") (Or.inl (hw _ (List.mem_of_getElem? (i := 96) rfl))) Via.refl e0 F_code_a1 (g := (mkF m 1 #[.val (.ref a1)] [(.ref a1)])) rfl rfl (hb hby d2_1)
  obtain ⟨fs, hr, hrun, hended, hW, hsame⟩ := X3.leave (v := some (.int w2)) (fun h => by rw [Bd.returns] at h; cases h)
  refine ⟨_, _, pre0 _ ?_, hrun, hended, _, _, rfl, ?_, ⟨_, rfl⟩, hW, hsame.mono (by decide) (by decide)⟩
  · show Steps p.tables e below (s₁.setTop (mkF m 0 #[.val (.ref a1)] [])) _
    refine XS.aloadN X0.here hx rfl (hb hby d2_0) rfl rfl ?_
    show Steps p.tables e below (s₁.setTop (mkF m 1 #[.val (.ref a1)] [(.ref a1)])) _
    refine st3 _ ?_
    show Steps p.tables e below (T3.setTop (mkF m 4 #[.val (.ref a1)] [(.int w2)])) _
    exact retI X3 hx Bd.returns (hb hby d2_4) hr
  · show Q2 Z a1 w2 h0 n0 _ T3.heap _
    rw [e3]
    exact ⟨rfl, N0, rfl⟩
theorem pn_0 : plainName "com/example/lean_broker/leanbroker/codec/ReasonCodeIsFailurePinLaw" = true := by first | (simp [plainName, overriddenIn]; done) | decide +kernel
theorem pd_0_0 : parseMethodDescriptor "()Z" = some ⟨[], some .boolean⟩ := by decide +kernel
theorem pd_0_1 : parseMethodDescriptor "()I" = some ⟨[], some .int⟩ := by decide +kernel
theorem ef_0 (m : MethodId) (x0 : Int32) : entryFrame m #[(.int x0)] maxLocals = mkF m 0 #[.val (.int x0), .unset, .unset, .unset, .unset, .unset, .unset] [] := by first | (simp [entryFrame, mkF, argsToLocals, Value.category, maxLocals]; done) | rfl
def Q0a (Z : State) (p1 : Int32) (h0 : Heap) (n0 : Nat) (v : Option Value) (h : Heap) (L : List Loc) : Prop := v = some (.int (1 : Int32)) ∧ Fr n0 L
set_option maxRecDepth 65536 in
set_option maxHeartbeats 40000000 in
theorem rm0a (l : Launch) (Z : State) (a0 : Array Value) (hw : ∀ d ∈ tables_1, d.before a0 Z = true) (ws : List Jvm.Cond) (p1 : Int32) (W : Nat → Addr) (h0 : Heap) (n0 : Nat) (Z0 : n0 ≤ h0.size) (hS : ∀ k, k < 43 → Sta Z h0 "com/example/lean_broker/leanbroker/codec/ReasonCode" (own_nm k) "Lcom/example/lean_broker/leanbroker/codec/ReasonCode;" (.ref (W k))) (hE : ∀ k, k < 43 → Exa Z h0 (W k) "com/example/lean_broker/leanbroker/codec/ReasonCode") (hF : ∀ k, k < 43 → Fld Z h0 (W k) "com/example/lean_broker/leanbroker/codec/ReasonCode" "code" "I" (.int (own_cv k))) (hc316 : ¬ (((p1 &&& (2147483647 : Int32)) % (43 : Int32)) < (8 : Int32))) :
    MetFree l x (head1 (Jvm.Cond.code x code maxLocals ret :: ws) room_1) (fun a U => a = #[(.int p1)] ∧ Z.Warmed39 U.vm ∧ U.heap = h0) (fun _ _ _ _ _ => True) (fun _ U o U' => ∃ v L, o = .returned v ∧ Q0a Z p1 h0 n0 v U'.heap L ∧ FrameEnd U o U' L room_1.cells room_1.slots) := by
  refine MetFree.of_bodySF (plainFor_of_name pn_0) hisR ?_
  intro p e s m args below meth c s₁ Bd hml0 hP hK
  obtain ⟨rfl, hZ, hh⟩ := hP
  have hx := Bd.exec
  have hby := Bd.bytes
  have hml : c.maxLocals = 7 := hml0
  have hown : s.vm.findClass "com/example/lean_broker/leanbroker/codec/ReasonCodeIsFailurePinLaw" = some m.cls := findClass_of_methodNamed Bd.named
  have hnm := (name_of_methodNamed Bd.named Bd.method).1
  have X0 : Stand p l e room_1 s m #[(.int p1)] below meth c s₁ [] 0 0 := Stand.of_body Bd
  have e0 : s₁.heap = h0 := by rw [← hh, Bd.state]; rfl
  have N0 := Fr.nil n0
  have pre0 : ∀ t, Steps p.tables e below (s₁.setTop (mkF m 0 #[.val (.int p1), .unset, .unset, .unset, .unset, .unset, .unset] [])) t → Steps p.tables e below (s₁.setTop (entryFrame m #[(.int p1)] maxLocals)) t := fun t k => castTop (ef_0 m p1) k
  obtain ⟨T2, h2, k2, X2, e2, E2, A2, O2, st2⟩ := newR X0 hx hZ hown (hw _ (List.mem_of_getElem? (i := 0) rfl)) (hw _ (List.mem_of_getElem? (i := 1) rfl)) e0 (g := (mkF m 2 #[.val (.int p1), .unset, .unset, .unset, .unset, .unset, .unset] [(.int (43 : Int32))])) rfl (hb hby at_2) rfl (by decide) (cap := 43) (by decide) (by decide) (by decide) (by decide)
  obtain ⟨b2, g2⟩ : ∃ z, z = h0.size := ⟨_, rfl⟩
  rw [← g2] at A2 st2
  have V_b2 := Arv.new A2 (by decide)
  have g_b2 : n0 ≤ b2 := Nat.le_trans Z0 (Nat.le_of_eq g2.symm)
  have sz_b2 : h0.size ≤ b2 := (Nat.le_trans (Keep.refl h0 []).1 (Nat.le_of_eq g2.symm))
  have K2 : Keep h0 h2 [] := (Keep.refl h0 []).ext E2
  obtain ⟨T131, L131, X131, I131, st131⟩ := own_filled X2 hx hZ hown hby hw (h0 := h0) (n0 := n0) (b := b2) (ka := k2) (W := W) #[.val (.int p1), .unset, .unset, .unset, .unset, .unset, .unset] (by rw [e2]; exact ⟨N0, K2, _, A2, rfl, (sz_new _ _ _).trans (by decide), fun j hj => absurd hj (Nat.not_lt_zero j)⟩) O2 g_b2 sz_b2 hS hE
  obtain ⟨N131, K131, cl, Ar_b2, hcl, hsz, hvs⟩ := I131
  have e131 : T131.heap = T131.heap := rfl
  obtain ⟨i1, i2, i3⟩ := own_idx p1
  obtain ⟨w132, hw132⟩ : ∃ z, z = W (((p1 &&& (2147483647 : Int32)) % (43 : Int32))).toNatClampNeg := ⟨_, rfl⟩
  obtain ⟨v132, hv132⟩ : ∃ z, z = own_cv (((p1 &&& (2147483647 : Int32)) % (43 : Int32))).toNatClampNeg := ⟨_, rfl⟩
  have hin311 : ¬ (((p1 &&& (2147483647 : Int32)) % (43 : Int32)) < 0 ∨ cl.slots.size ≤ (((p1 &&& (2147483647 : Int32)) % (43 : Int32))).toNatClampNeg) := by rw [hsz]; exact fun q => q.elim i1 (fun r => absurd i2 (Nat.not_lt.mpr r))
  have hat311 : cl.slots[(((p1 &&& (2147483647 : Int32)) % (43 : Int32))).toNatClampNeg]? = some (.ref w132) := by rw [hw132]; exact hvs _ i2
  have E_w132 : Exa Z T131.heap w132 "com/example/lean_broker/leanbroker/codec/ReasonCode" := by rw [hw132]; exact (hE _ i2).keep K131
  have F_w132 : Fld Z T131.heap w132 "com/example/lean_broker/leanbroker/codec/ReasonCode" "code" "I" (.int v132) := by rw [hw132, hv132]; exact (hF _ i2).keep K131 nin0
  have Z131 : n0 ≤ T131.heap.size := Nat.le_trans Z0 K131.1
  have c128 : ¬ v132 < (128 : Int32) := by rw [hv132]; exact own_hi _ i2 (fun q => hc316 (i3.mpr q))
  obtain ⟨cq133, kq133, q133a, q133b, q133c⟩ := isOf hZ e131 E_w132
  obtain ⟨_, _, ⟨T133, L133, k133, n133⟩, -, X133, ⟨Lc133, hQ133, l133, y133, z133⟩, st133⟩ := X131.virtualBack hx (y := (⟨"com/example/lean_broker/leanbroker/codec/ReasonCode", "isFailure", "()Z"⟩ : MethodName)) (z := (⟨"com/example/lean_broker/leanbroker/codec/ReasonCode", "isFailure", "()Z"⟩ : MethodName)) hown (mvT hZ (hw _ (List.mem_of_getElem? (i := 91) rfl))) (mvT hZ (hw _ (List.mem_of_getElem? (i := 92) rfl))) (notFace_of_selects (args := #[]) (mvT hZ (hw _ (List.mem_of_getElem? (i := 94) rfl)))) (mvT hZ (hw _ (List.mem_of_getElem? (i := 94) rfl))) (mvT hZ (hw _ (List.mem_of_getElem? (i := 93) rfl))) (by decide) (backOf (W := 0) (rm1a l Z a0 hw [] w132 v132 T131.heap n0 Z131 F_w132 c128) hZ (hw _ (List.mem_of_getElem? (i := 95) rfl)) (hw _ (List.mem_of_getElem? (i := 3) rfl)) (by decide) (by decide)) q133a q133c (g := (mkF m 327 #[.val (.int p1), .val (.ref b2), .val (.int ((p1 &&& (2147483647 : Int32)) % (43 : Int32))), .val (.ref w132), .val (.int (1 : Int32)), .unset, .unset] [(.ref w132)])) rfl (by rw [hml]; rfl) (Steps.refl _) (argsL := []) (rest := []) (lenOf pd_0_0 rfl) rfl (by show 2 * 0 + _ ≤ _; exact Nat.le_of_eq rfl) (hb hby at_327) (fun _ _ => ⟨rfl, e131, (by decide : 1 + 0 ≤ _), (by decide : 43 + 0 ≤ _)⟩)
  dsimp only [Pt.U, Pt.locs, Pt.cells, Pt.slots] at X133 l133 y133 z133 st133 hQ133
  subst l133 y133 z133
  obtain ⟨rfl, N133q, k133q⟩ := hQ133
  have N133 := Fr.app N131 N133q
  obtain ⟨cq134, kq134, q134a, q134b, q134c⟩ := isOf hZ rfl (show Exa Z T133.heap w132 _ by rw [k133q]; exact E_w132)
  obtain ⟨_, _, ⟨T134, L134, k134, n134⟩, -, X134, ⟨Lc134, hQ134, l134, y134, z134⟩, st134⟩ := X133.virtualBack hx (y := (⟨"com/example/lean_broker/leanbroker/codec/ReasonCode", "code", "()I"⟩ : MethodName)) (z := (⟨"com/example/lean_broker/leanbroker/codec/ReasonCode", "code", "()I"⟩ : MethodName)) hown (mvT hZ (hw _ (List.mem_of_getElem? (i := 98) rfl))) (mvT hZ (hw _ (List.mem_of_getElem? (i := 99) rfl))) (notFace_of_selects (args := #[]) (mvT hZ (hw _ (List.mem_of_getElem? (i := 101) rfl)))) (mvT hZ (hw _ (List.mem_of_getElem? (i := 101) rfl))) (mvT hZ (hw _ (List.mem_of_getElem? (i := 100) rfl))) (by decide) (backOf (W := 0) (rm2 l Z a0 hw [] w132 v132 T133.heap n0 (by rw [k133q]; exact Z131) (by rw [k133q]; exact F_w132)) hZ (hw _ (List.mem_of_getElem? (i := 102) rfl)) (hw _ (List.mem_of_getElem? (i := 3) rfl)) (by decide) (by decide)) q134a q134c (g := (mkF m 333 #[.val (.int p1), .val (.ref b2), .val (.int ((p1 &&& (2147483647 : Int32)) % (43 : Int32))), .val (.ref w132), .val (.int (1 : Int32)), .val (.int (1 : Int32)), .unset] [(.ref w132)])) rfl (by rw [hml]; rfl) (Steps.refl _) (argsL := []) (rest := []) (lenOf pd_0_1 rfl) rfl (by show 2 * 0 + _ ≤ _; exact Nat.le_of_eq rfl) (hb hby at_333) (fun _ _ => ⟨rfl, rfl, (by decide : 1 + 0 ≤ _), (by decide : 43 + 0 ≤ _)⟩)
  dsimp only [Pt.U, Pt.locs, Pt.cells, Pt.slots] at X134 l134 y134 z134 st134 hQ134
  subst l134 y134 z134
  obtain ⟨rfl, N134q, k134q⟩ := hQ134
  have N134 := Fr.app N133 N134q
  obtain ⟨fs, hr, hrun, hended, hW, hsame⟩ := X134.leave (v := some (.int (1 : Int32))) (fun h => by rw [Bd.returns] at h; cases h)
  refine ⟨_, _, pre0 _ ?_, hrun, hended, _, _, rfl, ?_, ⟨_, rfl⟩, hW, hsame.mono (by decide) (by decide)⟩
  · show Steps p.tables e below (s₁.setTop (mkF m 0 #[.val (.int p1), .unset, .unset, .unset, .unset, .unset, .unset] [])) _
    refine XS.bipush X0.here hx rfl (hb hby at_0) ?_
    show Steps p.tables e below (s₁.setTop (mkF m 2 #[.val (.int p1), .unset, .unset, .unset, .unset, .unset, .unset] [(.int (43 : Int32))])) _
    refine st2 _ ?_
    show Steps p.tables e below (T2.setTop (mkF m 5 #[.val (.int p1), .unset, .unset, .unset, .unset, .unset, .unset] [(.ref b2)])) _
    refine st131 _ ?_
    show Steps p.tables e below (T131.setTop (mkF m 300 #[.val (.int p1), .unset, .unset, .unset, .unset, .unset, .unset] [(.ref b2)])) _
    refine XS.astoreN X131.here hx rfl (hb hby at_300) rfl rfl (l' := #[.val (.int p1), .val (.ref b2), .unset, .unset, .unset, .unset, .unset]) rfl ?_
    show Steps p.tables e below (T131.setTop (mkF m 301 #[.val (.int p1), .val (.ref b2), .unset, .unset, .unset, .unset, .unset] [])) _
    refine XS.iloadN X131.here hx rfl (hb hby at_301) rfl ?_
    show Steps p.tables e below (T131.setTop (mkF m 302 #[.val (.int p1), .val (.ref b2), .unset, .unset, .unset, .unset, .unset] [(.int p1)])) _
    refine X131.ldcInt hx hown (mvT hZ (hw _ (List.mem_of_getElem? (i := 90) rfl))) (g := (mkF m 302 #[.val (.int p1), .val (.ref b2), .unset, .unset, .unset, .unset, .unset] [(.int p1)])) rfl (hb hby at_302) _ ?_
    show Steps p.tables e below (T131.setTop (mkF m 304 #[.val (.int p1), .val (.ref b2), .unset, .unset, .unset, .unset, .unset] [(.int (2147483647 : Int32)), (.int p1)])) _
    refine XS.iand X131.here hx rfl (hb hby at_304) rfl ?_
    show Steps p.tables e below (T131.setTop (mkF m 305 #[.val (.int p1), .val (.ref b2), .unset, .unset, .unset, .unset, .unset] [(.int (p1 &&& (2147483647 : Int32)))])) _
    refine XS.bipush X131.here hx rfl (hb hby at_305) ?_
    show Steps p.tables e below (T131.setTop (mkF m 307 #[.val (.int p1), .val (.ref b2), .unset, .unset, .unset, .unset, .unset] [(.int (43 : Int32)), (.int (p1 &&& (2147483647 : Int32)))])) _
    refine iremM X131 hx rfl (hb hby at_307) rfl (by decide) ?_
    show Steps p.tables e below (T131.setTop (mkF m 308 #[.val (.int p1), .val (.ref b2), .unset, .unset, .unset, .unset, .unset] [(.int ((p1 &&& (2147483647 : Int32)) % (43 : Int32)))])) _
    refine XS.istoreN X131.here hx rfl (hb hby at_308) rfl (l' := #[.val (.int p1), .val (.ref b2), .val (.int ((p1 &&& (2147483647 : Int32)) % (43 : Int32))), .unset, .unset, .unset, .unset]) rfl ?_
    show Steps p.tables e below (T131.setTop (mkF m 309 #[.val (.int p1), .val (.ref b2), .val (.int ((p1 &&& (2147483647 : Int32)) % (43 : Int32))), .unset, .unset, .unset, .unset] [])) _
    refine XS.aloadN X131.here hx rfl (hb hby at_309) rfl rfl ?_
    show Steps p.tables e below (T131.setTop (mkF m 310 #[.val (.int p1), .val (.ref b2), .val (.int ((p1 &&& (2147483647 : Int32)) % (43 : Int32))), .unset, .unset, .unset, .unset] [(.ref b2)])) _
    refine XS.iloadN X131.here hx rfl (hb hby at_310) rfl ?_
    show Steps p.tables e below (T131.setTop (mkF m 311 #[.val (.int p1), .val (.ref b2), .val (.int ((p1 &&& (2147483647 : Int32)) % (43 : Int32))), .unset, .unset, .unset, .unset] [(.int ((p1 &&& (2147483647 : Int32)) % (43 : Int32))), (.ref b2)])) _
    refine X131.aaload hx (j := ((p1 &&& (2147483647 : Int32)) % (43 : Int32))) (v := (.ref w132)) (by rw [e131]; exact Ar_b2.1) (State.isArrayOf_alike hZ.alike Ar_b2.2.1) rfl Ar_b2.2.2 hin311 hat311 (g := (mkF m 311 #[.val (.int p1), .val (.ref b2), .val (.int ((p1 &&& (2147483647 : Int32)) % (43 : Int32))), .unset, .unset, .unset, .unset] [(.int ((p1 &&& (2147483647 : Int32)) % (43 : Int32))), (.ref b2)])) rfl rfl (hb hby at_311) _ ?_
    show Steps p.tables e below (T131.setTop (mkF m 312 #[.val (.int p1), .val (.ref b2), .val (.int ((p1 &&& (2147483647 : Int32)) % (43 : Int32))), .unset, .unset, .unset, .unset] [(.ref w132)])) _
    refine XS.astoreN X131.here hx rfl (hb hby at_312) rfl rfl (l' := #[.val (.int p1), .val (.ref b2), .val (.int ((p1 &&& (2147483647 : Int32)) % (43 : Int32))), .val (.ref w132), .unset, .unset, .unset]) rfl ?_
    show Steps p.tables e below (T131.setTop (mkF m 313 #[.val (.int p1), .val (.ref b2), .val (.int ((p1 &&& (2147483647 : Int32)) % (43 : Int32))), .val (.ref w132), .unset, .unset, .unset] [])) _
    refine XS.iloadN X131.here hx rfl (hb hby at_313) rfl ?_
    show Steps p.tables e below (T131.setTop (mkF m 314 #[.val (.int p1), .val (.ref b2), .val (.int ((p1 &&& (2147483647 : Int32)) % (43 : Int32))), .val (.ref w132), .unset, .unset, .unset] [(.int ((p1 &&& (2147483647 : Int32)) % (43 : Int32)))])) _
    refine XS.bipush X131.here hx rfl (hb hby at_314) ?_
    show Steps p.tables e below (T131.setTop (mkF m 316 #[.val (.int p1), .val (.ref b2), .val (.int ((p1 &&& (2147483647 : Int32)) % (43 : Int32))), .val (.ref w132), .unset, .unset, .unset] [(.int (8 : Int32)), (.int ((p1 &&& (2147483647 : Int32)) % (43 : Int32)))])) _
    refine XS.icmpNo X131.here hx rfl (hb hby at_316) rfl (flt hc316).1 ?_
    show Steps p.tables e below (T131.setTop (mkF m 319 #[.val (.int p1), .val (.ref b2), .val (.int ((p1 &&& (2147483647 : Int32)) % (43 : Int32))), .val (.ref w132), .unset, .unset, .unset] [])) _
    refine XS.iconst X131.here hx rfl (hb hby at_319) ?_
    show Steps p.tables e below (T131.setTop (mkF m 320 #[.val (.int p1), .val (.ref b2), .val (.int ((p1 &&& (2147483647 : Int32)) % (43 : Int32))), .val (.ref w132), .unset, .unset, .unset] [(.int (1 : Int32))])) _
    refine XS.goto X131.here hx rfl (pc0 := 320) (pc' := 324) rfl (hb hby at_320) (by decide) (by decide) ?_
    show Steps p.tables e below (T131.setTop (mkF m 324 #[.val (.int p1), .val (.ref b2), .val (.int ((p1 &&& (2147483647 : Int32)) % (43 : Int32))), .val (.ref w132), .unset, .unset, .unset] [(.int (1 : Int32))])) _
    refine XS.istore X131.here hx rfl (hb hby at_324) rfl (l' := #[.val (.int p1), .val (.ref b2), .val (.int ((p1 &&& (2147483647 : Int32)) % (43 : Int32))), .val (.ref w132), .val (.int (1 : Int32)), .unset, .unset]) rfl ?_
    show Steps p.tables e below (T131.setTop (mkF m 326 #[.val (.int p1), .val (.ref b2), .val (.int ((p1 &&& (2147483647 : Int32)) % (43 : Int32))), .val (.ref w132), .val (.int (1 : Int32)), .unset, .unset] [])) _
    refine XS.aloadN X131.here hx rfl (hb hby at_326) rfl rfl ?_
    show Steps p.tables e below (T131.setTop (mkF m 327 #[.val (.int p1), .val (.ref b2), .val (.int ((p1 &&& (2147483647 : Int32)) % (43 : Int32))), .val (.ref w132), .val (.int (1 : Int32)), .unset, .unset] [(.ref w132)])) _
    refine st133.trans ?_
    show Steps p.tables e below (T133.setTop (mkF m 330 #[.val (.int p1), .val (.ref b2), .val (.int ((p1 &&& (2147483647 : Int32)) % (43 : Int32))), .val (.ref w132), .val (.int (1 : Int32)), .unset, .unset] [(.int (1 : Int32))])) _
    refine XS.istore X133.here hx rfl (hb hby at_330) rfl (l' := #[.val (.int p1), .val (.ref b2), .val (.int ((p1 &&& (2147483647 : Int32)) % (43 : Int32))), .val (.ref w132), .val (.int (1 : Int32)), .val (.int (1 : Int32)), .unset]) rfl ?_
    show Steps p.tables e below (T133.setTop (mkF m 332 #[.val (.int p1), .val (.ref b2), .val (.int ((p1 &&& (2147483647 : Int32)) % (43 : Int32))), .val (.ref w132), .val (.int (1 : Int32)), .val (.int (1 : Int32)), .unset] [])) _
    refine XS.aloadN X133.here hx rfl (hb hby at_332) rfl rfl ?_
    show Steps p.tables e below (T133.setTop (mkF m 333 #[.val (.int p1), .val (.ref b2), .val (.int ((p1 &&& (2147483647 : Int32)) % (43 : Int32))), .val (.ref w132), .val (.int (1 : Int32)), .val (.int (1 : Int32)), .unset] [(.ref w132)])) _
    refine st134.trans ?_
    show Steps p.tables e below (T134.setTop (mkF m 336 #[.val (.int p1), .val (.ref b2), .val (.int ((p1 &&& (2147483647 : Int32)) % (43 : Int32))), .val (.ref w132), .val (.int (1 : Int32)), .val (.int (1 : Int32)), .unset] [(.int v132)])) _
    refine XS.istore X134.here hx rfl (hb hby at_336) rfl (l' := #[.val (.int p1), .val (.ref b2), .val (.int ((p1 &&& (2147483647 : Int32)) % (43 : Int32))), .val (.ref w132), .val (.int (1 : Int32)), .val (.int (1 : Int32)), .val (.int v132)]) rfl ?_
    show Steps p.tables e below (T134.setTop (mkF m 338 #[.val (.int p1), .val (.ref b2), .val (.int ((p1 &&& (2147483647 : Int32)) % (43 : Int32))), .val (.ref w132), .val (.int (1 : Int32)), .val (.int (1 : Int32)), .val (.int v132)] [])) _
    refine XS.iload X134.here hx rfl (hb hby at_338) rfl ?_
    show Steps p.tables e below (T134.setTop (mkF m 340 #[.val (.int p1), .val (.ref b2), .val (.int ((p1 &&& (2147483647 : Int32)) % (43 : Int32))), .val (.ref w132), .val (.int (1 : Int32)), .val (.int (1 : Int32)), .val (.int v132)] [(.int (1 : Int32))])) _
    refine XS.iload X134.here hx rfl (hb hby at_340) rfl ?_
    show Steps p.tables e below (T134.setTop (mkF m 342 #[.val (.int p1), .val (.ref b2), .val (.int ((p1 &&& (2147483647 : Int32)) % (43 : Int32))), .val (.ref w132), .val (.int (1 : Int32)), .val (.int (1 : Int32)), .val (.int v132)] [(.int (1 : Int32)), (.int (1 : Int32))])) _
    refine XS.icmpNo X134.here hx rfl (hb hby at_342) rfl (teq (by decide : (1 : Int32) = (1 : Int32))).2 ?_
    show Steps p.tables e below (T134.setTop (mkF m 345 #[.val (.int p1), .val (.ref b2), .val (.int ((p1 &&& (2147483647 : Int32)) % (43 : Int32))), .val (.ref w132), .val (.int (1 : Int32)), .val (.int (1 : Int32)), .val (.int v132)] [])) _
    refine XS.iload X134.here hx rfl (hb hby at_345) rfl ?_
    show Steps p.tables e below (T134.setTop (mkF m 347 #[.val (.int p1), .val (.ref b2), .val (.int ((p1 &&& (2147483647 : Int32)) % (43 : Int32))), .val (.ref w132), .val (.int (1 : Int32)), .val (.int (1 : Int32)), .val (.int v132)] [(.int (1 : Int32))])) _
    refine XS.iload X134.here hx rfl (hb hby at_347) rfl ?_
    show Steps p.tables e below (T134.setTop (mkF m 349 #[.val (.int p1), .val (.ref b2), .val (.int ((p1 &&& (2147483647 : Int32)) % (43 : Int32))), .val (.ref w132), .val (.int (1 : Int32)), .val (.int (1 : Int32)), .val (.int v132)] [(.int v132), (.int (1 : Int32))])) _
    refine XS.sipush X134.here hx rfl (hb hby at_349) ?_
    show Steps p.tables e below (T134.setTop (mkF m 352 #[.val (.int p1), .val (.ref b2), .val (.int ((p1 &&& (2147483647 : Int32)) % (43 : Int32))), .val (.ref w132), .val (.int (1 : Int32)), .val (.int (1 : Int32)), .val (.int v132)] [(.int (128 : Int32)), (.int v132), (.int (1 : Int32))])) _
    refine XS.icmpNo X134.here hx rfl (hb hby at_352) rfl (flt c128).1 ?_
    show Steps p.tables e below (T134.setTop (mkF m 355 #[.val (.int p1), .val (.ref b2), .val (.int ((p1 &&& (2147483647 : Int32)) % (43 : Int32))), .val (.ref w132), .val (.int (1 : Int32)), .val (.int (1 : Int32)), .val (.int v132)] [(.int (1 : Int32))])) _
    refine XS.iconst X134.here hx rfl (hb hby at_355) ?_
    show Steps p.tables e below (T134.setTop (mkF m 356 #[.val (.int p1), .val (.ref b2), .val (.int ((p1 &&& (2147483647 : Int32)) % (43 : Int32))), .val (.ref w132), .val (.int (1 : Int32)), .val (.int (1 : Int32)), .val (.int v132)] [(.int (1 : Int32)), (.int (1 : Int32))])) _
    refine XS.goto X134.here hx rfl (pc0 := 356) (pc' := 360) rfl (hb hby at_356) (by decide) (by decide) ?_
    show Steps p.tables e below (T134.setTop (mkF m 360 #[.val (.int p1), .val (.ref b2), .val (.int ((p1 &&& (2147483647 : Int32)) % (43 : Int32))), .val (.ref w132), .val (.int (1 : Int32)), .val (.int (1 : Int32)), .val (.int v132)] [(.int (1 : Int32)), (.int (1 : Int32))])) _
    refine XS.icmpNo X134.here hx rfl (hb hby at_360) rfl (teq (by decide : (1 : Int32) = (1 : Int32))).2 ?_
    show Steps p.tables e below (T134.setTop (mkF m 363 #[.val (.int p1), .val (.ref b2), .val (.int ((p1 &&& (2147483647 : Int32)) % (43 : Int32))), .val (.ref w132), .val (.int (1 : Int32)), .val (.int (1 : Int32)), .val (.int v132)] [])) _
    refine XS.iconst X134.here hx rfl (hb hby at_363) ?_
    show Steps p.tables e below (T134.setTop (mkF m 364 #[.val (.int p1), .val (.ref b2), .val (.int ((p1 &&& (2147483647 : Int32)) % (43 : Int32))), .val (.ref w132), .val (.int (1 : Int32)), .val (.int (1 : Int32)), .val (.int v132)] [(.int (1 : Int32))])) _
    refine XS.goto X134.here hx rfl (pc0 := 364) (pc' := 368) rfl (hb hby at_364) (by decide) (by decide) ?_
    show Steps p.tables e below (T134.setTop (mkF m 368 #[.val (.int p1), .val (.ref b2), .val (.int ((p1 &&& (2147483647 : Int32)) % (43 : Int32))), .val (.ref w132), .val (.int (1 : Int32)), .val (.int (1 : Int32)), .val (.int v132)] [(.int (1 : Int32))])) _
    exact retN X134 hx (t := .boolean) Bd.returns (by simp) (hb hby at_368) hr
  · show Q0a Z p1 h0 n0 _ T134.heap _
    exact ⟨rfl, N134⟩
def Q0b (Z : State) (p1 : Int32) (h0 : Heap) (n0 : Nat) (v : Option Value) (h : Heap) (L : List Loc) : Prop := v = some (.int (1 : Int32)) ∧ Fr n0 L
set_option maxRecDepth 65536 in
set_option maxHeartbeats 40000000 in
theorem rm0b (l : Launch) (Z : State) (a0 : Array Value) (hw : ∀ d ∈ tables_1, d.before a0 Z = true) (ws : List Jvm.Cond) (p1 : Int32) (W : Nat → Addr) (h0 : Heap) (n0 : Nat) (Z0 : n0 ≤ h0.size) (hS : ∀ k, k < 43 → Sta Z h0 "com/example/lean_broker/leanbroker/codec/ReasonCode" (own_nm k) "Lcom/example/lean_broker/leanbroker/codec/ReasonCode;" (.ref (W k))) (hE : ∀ k, k < 43 → Exa Z h0 (W k) "com/example/lean_broker/leanbroker/codec/ReasonCode") (hF : ∀ k, k < 43 → Fld Z h0 (W k) "com/example/lean_broker/leanbroker/codec/ReasonCode" "code" "I" (.int (own_cv k))) (hc316 : ((p1 &&& (2147483647 : Int32)) % (43 : Int32)) < (8 : Int32)) :
    MetFree l x (head1 (Jvm.Cond.code x code maxLocals ret :: ws) room_1) (fun a U => a = #[(.int p1)] ∧ Z.Warmed39 U.vm ∧ U.heap = h0) (fun _ _ _ _ _ => True) (fun _ U o U' => ∃ v L, o = .returned v ∧ Q0b Z p1 h0 n0 v U'.heap L ∧ FrameEnd U o U' L room_1.cells room_1.slots) := by
  refine MetFree.of_bodySF (plainFor_of_name pn_0) hisR ?_
  intro p e s m args below meth c s₁ Bd hml0 hP hK
  obtain ⟨rfl, hZ, hh⟩ := hP
  have hx := Bd.exec
  have hby := Bd.bytes
  have hml : c.maxLocals = 7 := hml0
  have hown : s.vm.findClass "com/example/lean_broker/leanbroker/codec/ReasonCodeIsFailurePinLaw" = some m.cls := findClass_of_methodNamed Bd.named
  have hnm := (name_of_methodNamed Bd.named Bd.method).1
  have X0 : Stand p l e room_1 s m #[(.int p1)] below meth c s₁ [] 0 0 := Stand.of_body Bd
  have e0 : s₁.heap = h0 := by rw [← hh, Bd.state]; rfl
  have N0 := Fr.nil n0
  have pre0 : ∀ t, Steps p.tables e below (s₁.setTop (mkF m 0 #[.val (.int p1), .unset, .unset, .unset, .unset, .unset, .unset] [])) t → Steps p.tables e below (s₁.setTop (entryFrame m #[(.int p1)] maxLocals)) t := fun t k => castTop (ef_0 m p1) k
  obtain ⟨T2, h2, k2, X2, e2, E2, A2, O2, st2⟩ := newR X0 hx hZ hown (hw _ (List.mem_of_getElem? (i := 0) rfl)) (hw _ (List.mem_of_getElem? (i := 1) rfl)) e0 (g := (mkF m 2 #[.val (.int p1), .unset, .unset, .unset, .unset, .unset, .unset] [(.int (43 : Int32))])) rfl (hb hby at_2) rfl (by decide) (cap := 43) (by decide) (by decide) (by decide) (by decide)
  obtain ⟨b2, g2⟩ : ∃ z, z = h0.size := ⟨_, rfl⟩
  rw [← g2] at A2 st2
  have V_b2 := Arv.new A2 (by decide)
  have g_b2 : n0 ≤ b2 := Nat.le_trans Z0 (Nat.le_of_eq g2.symm)
  have sz_b2 : h0.size ≤ b2 := (Nat.le_trans (Keep.refl h0 []).1 (Nat.le_of_eq g2.symm))
  have K2 : Keep h0 h2 [] := (Keep.refl h0 []).ext E2
  obtain ⟨T131, L131, X131, I131, st131⟩ := own_filled X2 hx hZ hown hby hw (h0 := h0) (n0 := n0) (b := b2) (ka := k2) (W := W) #[.val (.int p1), .unset, .unset, .unset, .unset, .unset, .unset] (by rw [e2]; exact ⟨N0, K2, _, A2, rfl, (sz_new _ _ _).trans (by decide), fun j hj => absurd hj (Nat.not_lt_zero j)⟩) O2 g_b2 sz_b2 hS hE
  obtain ⟨N131, K131, cl, Ar_b2, hcl, hsz, hvs⟩ := I131
  have e131 : T131.heap = T131.heap := rfl
  obtain ⟨i1, i2, i3⟩ := own_idx p1
  obtain ⟨w132, hw132⟩ : ∃ z, z = W (((p1 &&& (2147483647 : Int32)) % (43 : Int32))).toNatClampNeg := ⟨_, rfl⟩
  obtain ⟨v132, hv132⟩ : ∃ z, z = own_cv (((p1 &&& (2147483647 : Int32)) % (43 : Int32))).toNatClampNeg := ⟨_, rfl⟩
  have hin311 : ¬ (((p1 &&& (2147483647 : Int32)) % (43 : Int32)) < 0 ∨ cl.slots.size ≤ (((p1 &&& (2147483647 : Int32)) % (43 : Int32))).toNatClampNeg) := by rw [hsz]; exact fun q => q.elim i1 (fun r => absurd i2 (Nat.not_lt.mpr r))
  have hat311 : cl.slots[(((p1 &&& (2147483647 : Int32)) % (43 : Int32))).toNatClampNeg]? = some (.ref w132) := by rw [hw132]; exact hvs _ i2
  have E_w132 : Exa Z T131.heap w132 "com/example/lean_broker/leanbroker/codec/ReasonCode" := by rw [hw132]; exact (hE _ i2).keep K131
  have F_w132 : Fld Z T131.heap w132 "com/example/lean_broker/leanbroker/codec/ReasonCode" "code" "I" (.int v132) := by rw [hw132, hv132]; exact (hF _ i2).keep K131 nin0
  have Z131 : n0 ≤ T131.heap.size := Nat.le_trans Z0 K131.1
  have c128 : v132 < (128 : Int32) := by rw [hv132]; exact own_lo _ i2 (i3.mp hc316)
  obtain ⟨cq133, kq133, q133a, q133b, q133c⟩ := isOf hZ e131 E_w132
  obtain ⟨_, _, ⟨T133, L133, k133, n133⟩, -, X133, ⟨Lc133, hQ133, l133, y133, z133⟩, st133⟩ := X131.virtualBack hx (y := (⟨"com/example/lean_broker/leanbroker/codec/ReasonCode", "isFailure", "()Z"⟩ : MethodName)) (z := (⟨"com/example/lean_broker/leanbroker/codec/ReasonCode", "isFailure", "()Z"⟩ : MethodName)) hown (mvT hZ (hw _ (List.mem_of_getElem? (i := 91) rfl))) (mvT hZ (hw _ (List.mem_of_getElem? (i := 92) rfl))) (notFace_of_selects (args := #[]) (mvT hZ (hw _ (List.mem_of_getElem? (i := 94) rfl)))) (mvT hZ (hw _ (List.mem_of_getElem? (i := 94) rfl))) (mvT hZ (hw _ (List.mem_of_getElem? (i := 93) rfl))) (by decide) (backOf (W := 0) (rm1b l Z a0 hw [] w132 v132 T131.heap n0 Z131 F_w132 c128) hZ (hw _ (List.mem_of_getElem? (i := 95) rfl)) (hw _ (List.mem_of_getElem? (i := 3) rfl)) (by decide) (by decide)) q133a q133c (g := (mkF m 327 #[.val (.int p1), .val (.ref b2), .val (.int ((p1 &&& (2147483647 : Int32)) % (43 : Int32))), .val (.ref w132), .val (.int (0 : Int32)), .unset, .unset] [(.ref w132)])) rfl (by rw [hml]; rfl) (Steps.refl _) (argsL := []) (rest := []) (lenOf pd_0_0 rfl) rfl (by show 2 * 0 + _ ≤ _; exact Nat.le_of_eq rfl) (hb hby at_327) (fun _ _ => ⟨rfl, e131, (by decide : 1 + 0 ≤ _), (by decide : 43 + 0 ≤ _)⟩)
  dsimp only [Pt.U, Pt.locs, Pt.cells, Pt.slots] at X133 l133 y133 z133 st133 hQ133
  subst l133 y133 z133
  obtain ⟨rfl, N133q, k133q⟩ := hQ133
  have N133 := Fr.app N131 N133q
  obtain ⟨cq134, kq134, q134a, q134b, q134c⟩ := isOf hZ rfl (show Exa Z T133.heap w132 _ by rw [k133q]; exact E_w132)
  obtain ⟨_, _, ⟨T134, L134, k134, n134⟩, -, X134, ⟨Lc134, hQ134, l134, y134, z134⟩, st134⟩ := X133.virtualBack hx (y := (⟨"com/example/lean_broker/leanbroker/codec/ReasonCode", "code", "()I"⟩ : MethodName)) (z := (⟨"com/example/lean_broker/leanbroker/codec/ReasonCode", "code", "()I"⟩ : MethodName)) hown (mvT hZ (hw _ (List.mem_of_getElem? (i := 98) rfl))) (mvT hZ (hw _ (List.mem_of_getElem? (i := 99) rfl))) (notFace_of_selects (args := #[]) (mvT hZ (hw _ (List.mem_of_getElem? (i := 101) rfl)))) (mvT hZ (hw _ (List.mem_of_getElem? (i := 101) rfl))) (mvT hZ (hw _ (List.mem_of_getElem? (i := 100) rfl))) (by decide) (backOf (W := 0) (rm2 l Z a0 hw [] w132 v132 T133.heap n0 (by rw [k133q]; exact Z131) (by rw [k133q]; exact F_w132)) hZ (hw _ (List.mem_of_getElem? (i := 102) rfl)) (hw _ (List.mem_of_getElem? (i := 3) rfl)) (by decide) (by decide)) q134a q134c (g := (mkF m 333 #[.val (.int p1), .val (.ref b2), .val (.int ((p1 &&& (2147483647 : Int32)) % (43 : Int32))), .val (.ref w132), .val (.int (0 : Int32)), .val (.int (0 : Int32)), .unset] [(.ref w132)])) rfl (by rw [hml]; rfl) (Steps.refl _) (argsL := []) (rest := []) (lenOf pd_0_1 rfl) rfl (by show 2 * 0 + _ ≤ _; exact Nat.le_of_eq rfl) (hb hby at_333) (fun _ _ => ⟨rfl, rfl, (by decide : 1 + 0 ≤ _), (by decide : 43 + 0 ≤ _)⟩)
  dsimp only [Pt.U, Pt.locs, Pt.cells, Pt.slots] at X134 l134 y134 z134 st134 hQ134
  subst l134 y134 z134
  obtain ⟨rfl, N134q, k134q⟩ := hQ134
  have N134 := Fr.app N133 N134q
  obtain ⟨fs, hr, hrun, hended, hW, hsame⟩ := X134.leave (v := some (.int (1 : Int32))) (fun h => by rw [Bd.returns] at h; cases h)
  refine ⟨_, _, pre0 _ ?_, hrun, hended, _, _, rfl, ?_, ⟨_, rfl⟩, hW, hsame.mono (by decide) (by decide)⟩
  · show Steps p.tables e below (s₁.setTop (mkF m 0 #[.val (.int p1), .unset, .unset, .unset, .unset, .unset, .unset] [])) _
    refine XS.bipush X0.here hx rfl (hb hby at_0) ?_
    show Steps p.tables e below (s₁.setTop (mkF m 2 #[.val (.int p1), .unset, .unset, .unset, .unset, .unset, .unset] [(.int (43 : Int32))])) _
    refine st2 _ ?_
    show Steps p.tables e below (T2.setTop (mkF m 5 #[.val (.int p1), .unset, .unset, .unset, .unset, .unset, .unset] [(.ref b2)])) _
    refine st131 _ ?_
    show Steps p.tables e below (T131.setTop (mkF m 300 #[.val (.int p1), .unset, .unset, .unset, .unset, .unset, .unset] [(.ref b2)])) _
    refine XS.astoreN X131.here hx rfl (hb hby at_300) rfl rfl (l' := #[.val (.int p1), .val (.ref b2), .unset, .unset, .unset, .unset, .unset]) rfl ?_
    show Steps p.tables e below (T131.setTop (mkF m 301 #[.val (.int p1), .val (.ref b2), .unset, .unset, .unset, .unset, .unset] [])) _
    refine XS.iloadN X131.here hx rfl (hb hby at_301) rfl ?_
    show Steps p.tables e below (T131.setTop (mkF m 302 #[.val (.int p1), .val (.ref b2), .unset, .unset, .unset, .unset, .unset] [(.int p1)])) _
    refine X131.ldcInt hx hown (mvT hZ (hw _ (List.mem_of_getElem? (i := 90) rfl))) (g := (mkF m 302 #[.val (.int p1), .val (.ref b2), .unset, .unset, .unset, .unset, .unset] [(.int p1)])) rfl (hb hby at_302) _ ?_
    show Steps p.tables e below (T131.setTop (mkF m 304 #[.val (.int p1), .val (.ref b2), .unset, .unset, .unset, .unset, .unset] [(.int (2147483647 : Int32)), (.int p1)])) _
    refine XS.iand X131.here hx rfl (hb hby at_304) rfl ?_
    show Steps p.tables e below (T131.setTop (mkF m 305 #[.val (.int p1), .val (.ref b2), .unset, .unset, .unset, .unset, .unset] [(.int (p1 &&& (2147483647 : Int32)))])) _
    refine XS.bipush X131.here hx rfl (hb hby at_305) ?_
    show Steps p.tables e below (T131.setTop (mkF m 307 #[.val (.int p1), .val (.ref b2), .unset, .unset, .unset, .unset, .unset] [(.int (43 : Int32)), (.int (p1 &&& (2147483647 : Int32)))])) _
    refine iremM X131 hx rfl (hb hby at_307) rfl (by decide) ?_
    show Steps p.tables e below (T131.setTop (mkF m 308 #[.val (.int p1), .val (.ref b2), .unset, .unset, .unset, .unset, .unset] [(.int ((p1 &&& (2147483647 : Int32)) % (43 : Int32)))])) _
    refine XS.istoreN X131.here hx rfl (hb hby at_308) rfl (l' := #[.val (.int p1), .val (.ref b2), .val (.int ((p1 &&& (2147483647 : Int32)) % (43 : Int32))), .unset, .unset, .unset, .unset]) rfl ?_
    show Steps p.tables e below (T131.setTop (mkF m 309 #[.val (.int p1), .val (.ref b2), .val (.int ((p1 &&& (2147483647 : Int32)) % (43 : Int32))), .unset, .unset, .unset, .unset] [])) _
    refine XS.aloadN X131.here hx rfl (hb hby at_309) rfl rfl ?_
    show Steps p.tables e below (T131.setTop (mkF m 310 #[.val (.int p1), .val (.ref b2), .val (.int ((p1 &&& (2147483647 : Int32)) % (43 : Int32))), .unset, .unset, .unset, .unset] [(.ref b2)])) _
    refine XS.iloadN X131.here hx rfl (hb hby at_310) rfl ?_
    show Steps p.tables e below (T131.setTop (mkF m 311 #[.val (.int p1), .val (.ref b2), .val (.int ((p1 &&& (2147483647 : Int32)) % (43 : Int32))), .unset, .unset, .unset, .unset] [(.int ((p1 &&& (2147483647 : Int32)) % (43 : Int32))), (.ref b2)])) _
    refine X131.aaload hx (j := ((p1 &&& (2147483647 : Int32)) % (43 : Int32))) (v := (.ref w132)) (by rw [e131]; exact Ar_b2.1) (State.isArrayOf_alike hZ.alike Ar_b2.2.1) rfl Ar_b2.2.2 hin311 hat311 (g := (mkF m 311 #[.val (.int p1), .val (.ref b2), .val (.int ((p1 &&& (2147483647 : Int32)) % (43 : Int32))), .unset, .unset, .unset, .unset] [(.int ((p1 &&& (2147483647 : Int32)) % (43 : Int32))), (.ref b2)])) rfl rfl (hb hby at_311) _ ?_
    show Steps p.tables e below (T131.setTop (mkF m 312 #[.val (.int p1), .val (.ref b2), .val (.int ((p1 &&& (2147483647 : Int32)) % (43 : Int32))), .unset, .unset, .unset, .unset] [(.ref w132)])) _
    refine XS.astoreN X131.here hx rfl (hb hby at_312) rfl rfl (l' := #[.val (.int p1), .val (.ref b2), .val (.int ((p1 &&& (2147483647 : Int32)) % (43 : Int32))), .val (.ref w132), .unset, .unset, .unset]) rfl ?_
    show Steps p.tables e below (T131.setTop (mkF m 313 #[.val (.int p1), .val (.ref b2), .val (.int ((p1 &&& (2147483647 : Int32)) % (43 : Int32))), .val (.ref w132), .unset, .unset, .unset] [])) _
    refine XS.iloadN X131.here hx rfl (hb hby at_313) rfl ?_
    show Steps p.tables e below (T131.setTop (mkF m 314 #[.val (.int p1), .val (.ref b2), .val (.int ((p1 &&& (2147483647 : Int32)) % (43 : Int32))), .val (.ref w132), .unset, .unset, .unset] [(.int ((p1 &&& (2147483647 : Int32)) % (43 : Int32)))])) _
    refine XS.bipush X131.here hx rfl (hb hby at_314) ?_
    show Steps p.tables e below (T131.setTop (mkF m 316 #[.val (.int p1), .val (.ref b2), .val (.int ((p1 &&& (2147483647 : Int32)) % (43 : Int32))), .val (.ref w132), .unset, .unset, .unset] [(.int (8 : Int32)), (.int ((p1 &&& (2147483647 : Int32)) % (43 : Int32)))])) _
    refine XS.icmpYes X131.here hx rfl (pc0 := 316) (pc' := 323) rfl (hb hby at_316) rfl (tlt hc316).1 (by decide) (by decide) ?_
    show Steps p.tables e below (T131.setTop (mkF m 323 #[.val (.int p1), .val (.ref b2), .val (.int ((p1 &&& (2147483647 : Int32)) % (43 : Int32))), .val (.ref w132), .unset, .unset, .unset] [])) _
    refine XS.iconst X131.here hx rfl (hb hby at_323) ?_
    show Steps p.tables e below (T131.setTop (mkF m 324 #[.val (.int p1), .val (.ref b2), .val (.int ((p1 &&& (2147483647 : Int32)) % (43 : Int32))), .val (.ref w132), .unset, .unset, .unset] [(.int (0 : Int32))])) _
    refine XS.istore X131.here hx rfl (hb hby at_324) rfl (l' := #[.val (.int p1), .val (.ref b2), .val (.int ((p1 &&& (2147483647 : Int32)) % (43 : Int32))), .val (.ref w132), .val (.int (0 : Int32)), .unset, .unset]) rfl ?_
    show Steps p.tables e below (T131.setTop (mkF m 326 #[.val (.int p1), .val (.ref b2), .val (.int ((p1 &&& (2147483647 : Int32)) % (43 : Int32))), .val (.ref w132), .val (.int (0 : Int32)), .unset, .unset] [])) _
    refine XS.aloadN X131.here hx rfl (hb hby at_326) rfl rfl ?_
    show Steps p.tables e below (T131.setTop (mkF m 327 #[.val (.int p1), .val (.ref b2), .val (.int ((p1 &&& (2147483647 : Int32)) % (43 : Int32))), .val (.ref w132), .val (.int (0 : Int32)), .unset, .unset] [(.ref w132)])) _
    refine st133.trans ?_
    show Steps p.tables e below (T133.setTop (mkF m 330 #[.val (.int p1), .val (.ref b2), .val (.int ((p1 &&& (2147483647 : Int32)) % (43 : Int32))), .val (.ref w132), .val (.int (0 : Int32)), .unset, .unset] [(.int (0 : Int32))])) _
    refine XS.istore X133.here hx rfl (hb hby at_330) rfl (l' := #[.val (.int p1), .val (.ref b2), .val (.int ((p1 &&& (2147483647 : Int32)) % (43 : Int32))), .val (.ref w132), .val (.int (0 : Int32)), .val (.int (0 : Int32)), .unset]) rfl ?_
    show Steps p.tables e below (T133.setTop (mkF m 332 #[.val (.int p1), .val (.ref b2), .val (.int ((p1 &&& (2147483647 : Int32)) % (43 : Int32))), .val (.ref w132), .val (.int (0 : Int32)), .val (.int (0 : Int32)), .unset] [])) _
    refine XS.aloadN X133.here hx rfl (hb hby at_332) rfl rfl ?_
    show Steps p.tables e below (T133.setTop (mkF m 333 #[.val (.int p1), .val (.ref b2), .val (.int ((p1 &&& (2147483647 : Int32)) % (43 : Int32))), .val (.ref w132), .val (.int (0 : Int32)), .val (.int (0 : Int32)), .unset] [(.ref w132)])) _
    refine st134.trans ?_
    show Steps p.tables e below (T134.setTop (mkF m 336 #[.val (.int p1), .val (.ref b2), .val (.int ((p1 &&& (2147483647 : Int32)) % (43 : Int32))), .val (.ref w132), .val (.int (0 : Int32)), .val (.int (0 : Int32)), .unset] [(.int v132)])) _
    refine XS.istore X134.here hx rfl (hb hby at_336) rfl (l' := #[.val (.int p1), .val (.ref b2), .val (.int ((p1 &&& (2147483647 : Int32)) % (43 : Int32))), .val (.ref w132), .val (.int (0 : Int32)), .val (.int (0 : Int32)), .val (.int v132)]) rfl ?_
    show Steps p.tables e below (T134.setTop (mkF m 338 #[.val (.int p1), .val (.ref b2), .val (.int ((p1 &&& (2147483647 : Int32)) % (43 : Int32))), .val (.ref w132), .val (.int (0 : Int32)), .val (.int (0 : Int32)), .val (.int v132)] [])) _
    refine XS.iload X134.here hx rfl (hb hby at_338) rfl ?_
    show Steps p.tables e below (T134.setTop (mkF m 340 #[.val (.int p1), .val (.ref b2), .val (.int ((p1 &&& (2147483647 : Int32)) % (43 : Int32))), .val (.ref w132), .val (.int (0 : Int32)), .val (.int (0 : Int32)), .val (.int v132)] [(.int (0 : Int32))])) _
    refine XS.iload X134.here hx rfl (hb hby at_340) rfl ?_
    show Steps p.tables e below (T134.setTop (mkF m 342 #[.val (.int p1), .val (.ref b2), .val (.int ((p1 &&& (2147483647 : Int32)) % (43 : Int32))), .val (.ref w132), .val (.int (0 : Int32)), .val (.int (0 : Int32)), .val (.int v132)] [(.int (0 : Int32)), (.int (0 : Int32))])) _
    refine XS.icmpNo X134.here hx rfl (hb hby at_342) rfl (teq (by decide : (0 : Int32) = (0 : Int32))).2 ?_
    show Steps p.tables e below (T134.setTop (mkF m 345 #[.val (.int p1), .val (.ref b2), .val (.int ((p1 &&& (2147483647 : Int32)) % (43 : Int32))), .val (.ref w132), .val (.int (0 : Int32)), .val (.int (0 : Int32)), .val (.int v132)] [])) _
    refine XS.iload X134.here hx rfl (hb hby at_345) rfl ?_
    show Steps p.tables e below (T134.setTop (mkF m 347 #[.val (.int p1), .val (.ref b2), .val (.int ((p1 &&& (2147483647 : Int32)) % (43 : Int32))), .val (.ref w132), .val (.int (0 : Int32)), .val (.int (0 : Int32)), .val (.int v132)] [(.int (0 : Int32))])) _
    refine XS.iload X134.here hx rfl (hb hby at_347) rfl ?_
    show Steps p.tables e below (T134.setTop (mkF m 349 #[.val (.int p1), .val (.ref b2), .val (.int ((p1 &&& (2147483647 : Int32)) % (43 : Int32))), .val (.ref w132), .val (.int (0 : Int32)), .val (.int (0 : Int32)), .val (.int v132)] [(.int v132), (.int (0 : Int32))])) _
    refine XS.sipush X134.here hx rfl (hb hby at_349) ?_
    show Steps p.tables e below (T134.setTop (mkF m 352 #[.val (.int p1), .val (.ref b2), .val (.int ((p1 &&& (2147483647 : Int32)) % (43 : Int32))), .val (.ref w132), .val (.int (0 : Int32)), .val (.int (0 : Int32)), .val (.int v132)] [(.int (128 : Int32)), (.int v132), (.int (0 : Int32))])) _
    refine XS.icmpYes X134.here hx rfl (pc0 := 352) (pc' := 359) rfl (hb hby at_352) rfl (tlt c128).1 (by decide) (by decide) ?_
    show Steps p.tables e below (T134.setTop (mkF m 359 #[.val (.int p1), .val (.ref b2), .val (.int ((p1 &&& (2147483647 : Int32)) % (43 : Int32))), .val (.ref w132), .val (.int (0 : Int32)), .val (.int (0 : Int32)), .val (.int v132)] [(.int (0 : Int32))])) _
    refine XS.iconst X134.here hx rfl (hb hby at_359) ?_
    show Steps p.tables e below (T134.setTop (mkF m 360 #[.val (.int p1), .val (.ref b2), .val (.int ((p1 &&& (2147483647 : Int32)) % (43 : Int32))), .val (.ref w132), .val (.int (0 : Int32)), .val (.int (0 : Int32)), .val (.int v132)] [(.int (0 : Int32)), (.int (0 : Int32))])) _
    refine XS.icmpNo X134.here hx rfl (hb hby at_360) rfl (teq (by decide : (0 : Int32) = (0 : Int32))).2 ?_
    show Steps p.tables e below (T134.setTop (mkF m 363 #[.val (.int p1), .val (.ref b2), .val (.int ((p1 &&& (2147483647 : Int32)) % (43 : Int32))), .val (.ref w132), .val (.int (0 : Int32)), .val (.int (0 : Int32)), .val (.int v132)] [])) _
    refine XS.iconst X134.here hx rfl (hb hby at_363) ?_
    show Steps p.tables e below (T134.setTop (mkF m 364 #[.val (.int p1), .val (.ref b2), .val (.int ((p1 &&& (2147483647 : Int32)) % (43 : Int32))), .val (.ref w132), .val (.int (0 : Int32)), .val (.int (0 : Int32)), .val (.int v132)] [(.int (1 : Int32))])) _
    refine XS.goto X134.here hx rfl (pc0 := 364) (pc' := 368) rfl (hb hby at_364) (by decide) (by decide) ?_
    show Steps p.tables e below (T134.setTop (mkF m 368 #[.val (.int p1), .val (.ref b2), .val (.int ((p1 &&& (2147483647 : Int32)) % (43 : Int32))), .val (.ref w132), .val (.int (0 : Int32)), .val (.int (0 : Int32)), .val (.int v132)] [(.int (1 : Int32))])) _
    exact retN X134 hx (t := .boolean) Bd.returns (by simp) (hb hby at_368) hr
  · show Q0b Z p1 h0 n0 _ T134.heap _
    exact ⟨rfl, N134⟩
set_option maxRecDepth 65536 in
set_option maxHeartbeats 40000000 in
theorem comes_1 {Post : Tables → Env → Array Value → State → Outcome → State → Prop} (hpost : ∀ tb e args s v u, (limb_1_1.after args s (.returned v) u = true ∧ limb_1_2.after args s (.returned v) u = true ∧ True) → FrameEnd s (.returned v) u (Jvm.fieldLocs frame_1_writes args s ++ Jvm.arrayLocs frame_1_arrays args s ++ Jvm.staticLocs frame_1_statics s) 16 192 → Post tb e args s (.returned v) u) :
    ArmFor flags0 classFile x code maxLocals ret World_1 tables_1 room_1 Calls_1 rest_1 Pre_1 Post := by
  intro l hfl _ _ p e ha hc hk s m args below hf hA hF happ hP
  obtain ⟨hcalls, hrest, hpre⟩ := hP
  obtain ⟨-, -, -, hnamed, -, -, -, hat⟩ := (Spec.applies_iff hf).mp happ
  obtain ⟨hg, hn⟩ := and_e (Cond.before_iff.mp (show (Jvm.Cond.and given_1 narrow_1).before args s = true from hpre))
  obtain ⟨g135, g136⟩ := and_e hg
  obtain ⟨w0, rfl⟩ : ∃ w0 : Value, args = #[w0] := by
    have hs : args.size = 1 := by simpa [Cond.value, given_1] using g135
    obtain ⟨L⟩ := args
    match L, hs with
    | [w0], _ => exact ⟨w0, rfl⟩
  have hw := fun d (hd : d ∈ tables_1) => atoms_spec (ws := Jvm.Cond.code x code maxLocals ret :: tables_1) hat d (List.mem_cons_of_mem _ hd)
  have hfit : Fit s := fun {y c} hc i hi => by
    obtain ⟨ha, rfl⟩ := Array.getElem?_eq_some_iff.mp hc
    have q := List.all_eq_true.mp ((Array.all_eq_true_iff_forall_mem.mp hF) _ (Array.getElem_mem ha)) i (List.mem_range.mpr hi)
    simpa [Array.getElem?_eq_getElem hi] using q
  obtain ⟨i0, ei0⟩ := is_v g136
  obtain rfl : w0 = (.int i0) := Option.some.inj ei0
  obtain ⟨n0, hn⟩ := and_e hn
  obtain ⟨n1, hn⟩ := and_e hn
  obtain ⟨n2, hn⟩ := and_e hn
  obtain ⟨n3, hn⟩ := and_e hn
  obtain ⟨n4, hn⟩ := and_e hn
  obtain ⟨n5, hn⟩ := and_e hn
  obtain ⟨n6, hn⟩ := and_e hn
  obtain ⟨n7, hn⟩ := and_e hn
  obtain ⟨n8, hn⟩ := and_e hn
  obtain ⟨n9, hn⟩ := and_e hn
  obtain ⟨n10, hn⟩ := and_e hn
  obtain ⟨n11, hn⟩ := and_e hn
  obtain ⟨n12, hn⟩ := and_e hn
  obtain ⟨n13, hn⟩ := and_e hn
  obtain ⟨n14, hn⟩ := and_e hn
  obtain ⟨n15, hn⟩ := and_e hn
  obtain ⟨n16, hn⟩ := and_e hn
  obtain ⟨n17, hn⟩ := and_e hn
  obtain ⟨n18, hn⟩ := and_e hn
  obtain ⟨n19, hn⟩ := and_e hn
  obtain ⟨n20, hn⟩ := and_e hn
  obtain ⟨n21, hn⟩ := and_e hn
  obtain ⟨n22, hn⟩ := and_e hn
  obtain ⟨n23, hn⟩ := and_e hn
  obtain ⟨n24, hn⟩ := and_e hn
  obtain ⟨n25, hn⟩ := and_e hn
  obtain ⟨n26, hn⟩ := and_e hn
  obtain ⟨n27, hn⟩ := and_e hn
  obtain ⟨n28, hn⟩ := and_e hn
  obtain ⟨n29, hn⟩ := and_e hn
  obtain ⟨n30, hn⟩ := and_e hn
  obtain ⟨n31, hn⟩ := and_e hn
  obtain ⟨n32, hn⟩ := and_e hn
  obtain ⟨n33, hn⟩ := and_e hn
  obtain ⟨n34, hn⟩ := and_e hn
  obtain ⟨n35, hn⟩ := and_e hn
  obtain ⟨n36, hn⟩ := and_e hn
  obtain ⟨n37, hn⟩ := and_e hn
  obtain ⟨n38, hn⟩ := and_e hn
  obtain ⟨n39, hn⟩ := and_e hn
  obtain ⟨n40, hn⟩ := and_e hn
  obtain ⟨n41, hn⟩ := and_e hn
  obtain ⟨n42, hn⟩ := and_e hn
  obtain ⟨n43, hn⟩ := and_e hn
  obtain ⟨n44, hn⟩ := and_e hn
  obtain ⟨n45, hn⟩ := and_e hn
  obtain ⟨n46, hn⟩ := and_e hn
  obtain ⟨n47, hn⟩ := and_e hn
  obtain ⟨n48, hn⟩ := and_e hn
  obtain ⟨n49, hn⟩ := and_e hn
  obtain ⟨n50, hn⟩ := and_e hn
  obtain ⟨n51, hn⟩ := and_e hn
  obtain ⟨n52, hn⟩ := and_e hn
  obtain ⟨n53, hn⟩ := and_e hn
  obtain ⟨n54, hn⟩ := and_e hn
  obtain ⟨n55, hn⟩ := and_e hn
  obtain ⟨n56, hn⟩ := and_e hn
  obtain ⟨n57, hn⟩ := and_e hn
  obtain ⟨n58, hn⟩ := and_e hn
  obtain ⟨n59, hn⟩ := and_e hn
  obtain ⟨n60, hn⟩ := and_e hn
  obtain ⟨n61, hn⟩ := and_e hn
  obtain ⟨n62, hn⟩ := and_e hn
  obtain ⟨n63, hn⟩ := and_e hn
  obtain ⟨n64, hn⟩ := and_e hn
  obtain ⟨n65, hn⟩ := and_e hn
  obtain ⟨n66, hn⟩ := and_e hn
  obtain ⟨n67, hn⟩ := and_e hn
  obtain ⟨n68, hn⟩ := and_e hn
  obtain ⟨n69, hn⟩ := and_e hn
  obtain ⟨n70, hn⟩ := and_e hn
  obtain ⟨n71, hn⟩ := and_e hn
  obtain ⟨n72, hn⟩ := and_e hn
  obtain ⟨n73, hn⟩ := and_e hn
  obtain ⟨n74, hn⟩ := and_e hn
  obtain ⟨n75, hn⟩ := and_e hn
  obtain ⟨n76, hn⟩ := and_e hn
  obtain ⟨n77, hn⟩ := and_e hn
  obtain ⟨n78, hn⟩ := and_e hn
  obtain ⟨n79, hn⟩ := and_e hn
  obtain ⟨n80, hn⟩ := and_e hn
  obtain ⟨n81, hn⟩ := and_e hn
  obtain ⟨n82, hn⟩ := and_e hn
  obtain ⟨n83, hn⟩ := and_e hn
  obtain ⟨n84, hn⟩ := and_e hn
  have n85 := hn
  have hini := hw _ (List.mem_of_getElem? (i := 3) rfl)
  obtain ⟨a_0, v_0, s_0, x_0⟩ := own_sta n0 hini (hw _ (List.mem_of_getElem? (i := 4) rfl))
  have f_0 := own_fint v_0 n43
  obtain ⟨a_1, v_1, s_1, x_1⟩ := own_sta n1 hini (hw _ (List.mem_of_getElem? (i := 7) rfl))
  have f_1 := own_fint v_1 n54
  obtain ⟨a_2, v_2, s_2, x_2⟩ := own_sta n2 hini (hw _ (List.mem_of_getElem? (i := 9) rfl))
  have f_2 := own_fint v_2 n50
  obtain ⟨a_3, v_3, s_3, x_3⟩ := own_sta n3 hini (hw _ (List.mem_of_getElem? (i := 11) rfl))
  have f_3 := own_fint v_3 n44
  obtain ⟨a_4, v_4, s_4, x_4⟩ := own_sta n4 hini (hw _ (List.mem_of_getElem? (i := 13) rfl))
  have f_4 := own_fint v_4 n77
  obtain ⟨a_5, v_5, s_5, x_5⟩ := own_sta n5 hini (hw _ (List.mem_of_getElem? (i := 15) rfl))
  have f_5 := own_fint v_5 n57
  obtain ⟨a_6, v_6, s_6, x_6⟩ := own_sta n6 hini (hw _ (List.mem_of_getElem? (i := 17) rfl))
  have f_6 := own_fint v_6 n52
  obtain ⟨a_7, v_7, s_7, x_7⟩ := own_sta n7 hini (hw _ (List.mem_of_getElem? (i := 19) rfl))
  have f_7 := own_fint v_7 n49
  obtain ⟨a_8, v_8, s_8, x_8⟩ := own_sta n8 hini (hw _ (List.mem_of_getElem? (i := 21) rfl))
  have f_8 := own_fint v_8 n53
  obtain ⟨a_9, v_9, s_9, x_9⟩ := own_sta n9 hini (hw _ (List.mem_of_getElem? (i := 23) rfl))
  have f_9 := own_fint v_9 n72
  obtain ⟨a_10, v_10, s_10, x_10⟩ := own_sta n10 hini (hw _ (List.mem_of_getElem? (i := 25) rfl))
  have f_10 := own_fint v_10 n58
  obtain ⟨a_11, v_11, s_11, x_11⟩ := own_sta n11 hini (hw _ (List.mem_of_getElem? (i := 27) rfl))
  have f_11 := own_fint v_11 n51
  obtain ⟨a_12, v_12, s_12, x_12⟩ := own_sta n12 hini (hw _ (List.mem_of_getElem? (i := 29) rfl))
  have f_12 := own_fint v_12 n73
  obtain ⟨a_13, v_13, s_13, x_13⟩ := own_sta n13 hini (hw _ (List.mem_of_getElem? (i := 31) rfl))
  have f_13 := own_fint v_13 n59
  obtain ⟨a_14, v_14, s_14, x_14⟩ := own_sta n14 hini (hw _ (List.mem_of_getElem? (i := 33) rfl))
  have f_14 := own_fint v_14 n70
  obtain ⟨a_15, v_15, s_15, x_15⟩ := own_sta n15 hini (hw _ (List.mem_of_getElem? (i := 35) rfl))
  have f_15 := own_fint v_15 n63
  obtain ⟨a_16, v_16, s_16, x_16⟩ := own_sta n16 hini (hw _ (List.mem_of_getElem? (i := 37) rfl))
  have f_16 := own_fint v_16 n60
  obtain ⟨a_17, v_17, s_17, x_17⟩ := own_sta n17 hini (hw _ (List.mem_of_getElem? (i := 39) rfl))
  have f_17 := own_fint v_17 n75
  obtain ⟨a_18, v_18, s_18, x_18⟩ := own_sta n18 hini (hw _ (List.mem_of_getElem? (i := 41) rfl))
  have f_18 := own_fint v_18 n67
  obtain ⟨a_19, v_19, s_19, x_19⟩ := own_sta n19 hini (hw _ (List.mem_of_getElem? (i := 43) rfl))
  have f_19 := own_fint v_19 n62
  obtain ⟨a_20, v_20, s_20, x_20⟩ := own_sta n20 hini (hw _ (List.mem_of_getElem? (i := 45) rfl))
  have f_20 := own_fint v_20 n68
  obtain ⟨a_21, v_21, s_21, x_21⟩ := own_sta n21 hini (hw _ (List.mem_of_getElem? (i := 47) rfl))
  have f_21 := own_fint v_21 n78
  obtain ⟨a_22, v_22, s_22, x_22⟩ := own_sta n22 hini (hw _ (List.mem_of_getElem? (i := 49) rfl))
  have f_22 := own_fint v_22 n83
  obtain ⟨a_23, v_23, s_23, x_23⟩ := own_sta n23 hini (hw _ (List.mem_of_getElem? (i := 51) rfl))
  have f_23 := own_fint v_23 n85
  obtain ⟨a_24, v_24, s_24, x_24⟩ := own_sta n24 hini (hw _ (List.mem_of_getElem? (i := 53) rfl))
  have f_24 := own_fint v_24 n45
  obtain ⟨a_25, v_25, s_25, x_25⟩ := own_sta n25 hini (hw _ (List.mem_of_getElem? (i := 55) rfl))
  have f_25 := own_fint v_25 n81
  obtain ⟨a_26, v_26, s_26, x_26⟩ := own_sta n26 hini (hw _ (List.mem_of_getElem? (i := 57) rfl))
  have f_26 := own_fint v_26 n76
  obtain ⟨a_27, v_27, s_27, x_27⟩ := own_sta n27 hini (hw _ (List.mem_of_getElem? (i := 59) rfl))
  have f_27 := own_fint v_27 n80
  obtain ⟨a_28, v_28, s_28, x_28⟩ := own_sta n28 hini (hw _ (List.mem_of_getElem? (i := 61) rfl))
  have f_28 := own_fint v_28 n79
  obtain ⟨a_29, v_29, s_29, x_29⟩ := own_sta n29 hini (hw _ (List.mem_of_getElem? (i := 63) rfl))
  have f_29 := own_fint v_29 n56
  obtain ⟨a_30, v_30, s_30, x_30⟩ := own_sta n30 hini (hw _ (List.mem_of_getElem? (i := 65) rfl))
  have f_30 := own_fint v_30 n82
  obtain ⟨a_31, v_31, s_31, x_31⟩ := own_sta n31 hini (hw _ (List.mem_of_getElem? (i := 67) rfl))
  have f_31 := own_fint v_31 n48
  obtain ⟨a_32, v_32, s_32, x_32⟩ := own_sta n32 hini (hw _ (List.mem_of_getElem? (i := 69) rfl))
  have f_32 := own_fint v_32 n61
  obtain ⟨a_33, v_33, s_33, x_33⟩ := own_sta n33 hini (hw _ (List.mem_of_getElem? (i := 71) rfl))
  have f_33 := own_fint v_33 n55
  obtain ⟨a_34, v_34, s_34, x_34⟩ := own_sta n34 hini (hw _ (List.mem_of_getElem? (i := 73) rfl))
  have f_34 := own_fint v_34 n47
  obtain ⟨a_35, v_35, s_35, x_35⟩ := own_sta n35 hini (hw _ (List.mem_of_getElem? (i := 75) rfl))
  have f_35 := own_fint v_35 n65
  obtain ⟨a_36, v_36, s_36, x_36⟩ := own_sta n36 hini (hw _ (List.mem_of_getElem? (i := 77) rfl))
  have f_36 := own_fint v_36 n84
  obtain ⟨a_37, v_37, s_37, x_37⟩ := own_sta n37 hini (hw _ (List.mem_of_getElem? (i := 79) rfl))
  have f_37 := own_fint v_37 n64
  obtain ⟨a_38, v_38, s_38, x_38⟩ := own_sta n38 hini (hw _ (List.mem_of_getElem? (i := 81) rfl))
  have f_38 := own_fint v_38 n69
  obtain ⟨a_39, v_39, s_39, x_39⟩ := own_sta n39 hini (hw _ (List.mem_of_getElem? (i := 83) rfl))
  have f_39 := own_fint v_39 n46
  obtain ⟨a_40, v_40, s_40, x_40⟩ := own_sta n40 hini (hw _ (List.mem_of_getElem? (i := 85) rfl))
  have f_40 := own_fint v_40 n74
  obtain ⟨a_41, v_41, s_41, x_41⟩ := own_sta n41 hini (hw _ (List.mem_of_getElem? (i := 87) rfl))
  have f_41 := own_fint v_41 n66
  obtain ⟨a_42, v_42, s_42, x_42⟩ := own_sta n42 hini (hw _ (List.mem_of_getElem? (i := 89) rfl))
  have f_42 := own_fint v_42 n71
  obtain ⟨W, hWd⟩ : ∃ W : Nat → Addr, W = fun k => ([a_0, a_1, a_2, a_3, a_4, a_5, a_6, a_7, a_8, a_9, a_10, a_11, a_12, a_13, a_14, a_15, a_16, a_17, a_18, a_19, a_20, a_21, a_22, a_23, a_24, a_25, a_26, a_27, a_28, a_29, a_30, a_31, a_32, a_33, a_34, a_35, a_36, a_37, a_38, a_39, a_40, a_41, a_42] : List Addr).getD k 0 := ⟨_, rfl⟩
  have hS : ∀ k, k < 43 → Sta s s.heap "com/example/lean_broker/leanbroker/codec/ReasonCode" (own_nm k) "Lcom/example/lean_broker/leanbroker/codec/ReasonCode;" (.ref (W k)) := by
    rw [hWd]
    exact fun k hk => match k, hk with | 0, _ => s_0 | 1, _ => s_1 | 2, _ => s_2 | 3, _ => s_3 | 4, _ => s_4 | 5, _ => s_5 | 6, _ => s_6 | 7, _ => s_7 | 8, _ => s_8 | 9, _ => s_9 | 10, _ => s_10 | 11, _ => s_11 | 12, _ => s_12 | 13, _ => s_13 | 14, _ => s_14 | 15, _ => s_15 | 16, _ => s_16 | 17, _ => s_17 | 18, _ => s_18 | 19, _ => s_19 | 20, _ => s_20 | 21, _ => s_21 | 22, _ => s_22 | 23, _ => s_23 | 24, _ => s_24 | 25, _ => s_25 | 26, _ => s_26 | 27, _ => s_27 | 28, _ => s_28 | 29, _ => s_29 | 30, _ => s_30 | 31, _ => s_31 | 32, _ => s_32 | 33, _ => s_33 | 34, _ => s_34 | 35, _ => s_35 | 36, _ => s_36 | 37, _ => s_37 | 38, _ => s_38 | 39, _ => s_39 | 40, _ => s_40 | 41, _ => s_41 | 42, _ => s_42 | n + 43, h => absurd h (by omega)
  have hE : ∀ k, k < 43 → Exa s s.heap (W k) "com/example/lean_broker/leanbroker/codec/ReasonCode" := by
    rw [hWd]
    exact fun k hk => match k, hk with | 0, _ => x_0 | 1, _ => x_1 | 2, _ => x_2 | 3, _ => x_3 | 4, _ => x_4 | 5, _ => x_5 | 6, _ => x_6 | 7, _ => x_7 | 8, _ => x_8 | 9, _ => x_9 | 10, _ => x_10 | 11, _ => x_11 | 12, _ => x_12 | 13, _ => x_13 | 14, _ => x_14 | 15, _ => x_15 | 16, _ => x_16 | 17, _ => x_17 | 18, _ => x_18 | 19, _ => x_19 | 20, _ => x_20 | 21, _ => x_21 | 22, _ => x_22 | 23, _ => x_23 | 24, _ => x_24 | 25, _ => x_25 | 26, _ => x_26 | 27, _ => x_27 | 28, _ => x_28 | 29, _ => x_29 | 30, _ => x_30 | 31, _ => x_31 | 32, _ => x_32 | 33, _ => x_33 | 34, _ => x_34 | 35, _ => x_35 | 36, _ => x_36 | 37, _ => x_37 | 38, _ => x_38 | 39, _ => x_39 | 40, _ => x_40 | 41, _ => x_41 | 42, _ => x_42 | n + 43, h => absurd h (by omega)
  have hFk : ∀ k, k < 43 → Fld s s.heap (W k) "com/example/lean_broker/leanbroker/codec/ReasonCode" "code" "I" (.int (own_cv k)) := by
    rw [hWd]
    exact fun k hk => match k, hk with | 0, _ => f_0 | 1, _ => f_1 | 2, _ => f_2 | 3, _ => f_3 | 4, _ => f_4 | 5, _ => f_5 | 6, _ => f_6 | 7, _ => f_7 | 8, _ => f_8 | 9, _ => f_9 | 10, _ => f_10 | 11, _ => f_11 | 12, _ => f_12 | 13, _ => f_13 | 14, _ => f_14 | 15, _ => f_15 | 16, _ => f_16 | 17, _ => f_17 | 18, _ => f_18 | 19, _ => f_19 | 20, _ => f_20 | 21, _ => f_21 | 22, _ => f_22 | 23, _ => f_23 | 24, _ => f_24 | 25, _ => f_25 | 26, _ => f_26 | 27, _ => f_27 | 28, _ => f_28 | 29, _ => f_29 | 30, _ => f_30 | 31, _ => f_31 | 32, _ => f_32 | 33, _ => f_33 | 34, _ => f_34 | 35, _ => f_35 | 36, _ => f_36 | 37, _ => f_37 | 38, _ => f_38 | 39, _ => f_39 | 40, _ => f_40 | 41, _ => f_41 | 42, _ => f_42 | n + 43, h => absurd h (by omega)
  by_cases c316 : ((i0 &&& (2147483647 : Int32)) % (43 : Int32)) < (8 : Int32)
  · obtain ⟨n, o, h1, h2, h3, _, L, rfl, ⟨rfl, N⟩, hq⟩ := rm0b l s _ hw tables_1 i0 W s.heap s.heap.size (Nat.le_refl _) hS hE hFk c316 p e ha hc hk s m _ below hf ((Spec.applies_iff_loose hf).mp happ).1 ⟨rfl, State.Warmed39.refl s, rfl⟩ trivial
    refine ⟨n, _, h1, h2, h3, hpost _ _ _ _ _ _ ⟨Cond.after_iff.mpr rfl, Cond.after_iff.mpr (eq_i res_at (Term.int_eval (1)) rfl), trivial⟩ ⟨hq.1, hq.2.1, (hq.2.2.sift fun y hy => Or.inr (N y hy)).mono (by decide) (by decide)⟩⟩
  · obtain ⟨n, o, h1, h2, h3, _, L, rfl, ⟨rfl, N⟩, hq⟩ := rm0a l s _ hw tables_1 i0 W s.heap s.heap.size (Nat.le_refl _) hS hE hFk c316 p e ha hc hk s m _ below hf ((Spec.applies_iff_loose hf).mp happ).1 ⟨rfl, State.Warmed39.refl s, rfl⟩ trivial
    refine ⟨n, _, h1, h2, h3, hpost _ _ _ _ _ _ ⟨Cond.after_iff.mpr rfl, Cond.after_iff.mpr (eq_i res_at (Term.int_eval (1)) rfl), trivial⟩ ⟨hq.1, hq.2.1, (hq.2.2.sift fun y hy => Or.inr (N y hy)).mono (by decide) (by decide)⟩⟩
theorem main_1_1 : Claimed_1_1 := comes_1 fun _ _ _ _ _ _ h hF => ⟨h.1, hF⟩
theorem main_1_2 : Claimed_1_2 := comes_1 fun _ _ _ _ _ _ h hF => ⟨h.2.1, hF⟩
end Jvm.Pilot.@@N@@
namespace Jvm.Pilot.@@N@@
open Jvm Jvm.ClassFile Sem Op Lib Jvm.Free Jvm.Stand Jvm.Pilot.@@N@@.Jvm.D
/-! MADE BY PROGRAM (witnessworld.py) out of the Statement's table words and the real class files: 13 classes; the members and pool entries that the words name. The judged class is class 1, her method 1. -/
namespace start1
open Jvm.ClassFile
def u (s : String) : CpInfo := .utf8 (stringToUtf16 s)
/-- a pool by its gaps: so many unusable entries, then the entry; so many at the end -/
def gap : Nat → List CpInfo → List CpInfo
  | 0, r => r
  | n + 1, r => .unusable :: gap n r
def poolList (es : List (Nat × CpInfo)) (last : Nat) : List CpInfo := es.foldr (fun e r => gap e.1 (e.2 :: r)) (gap last [])
def pool (es : List (Nat × CpInfo)) (last : Nat) : Array CpInfo := ⟨poolList es last⟩
def fileOf (pool : Array CpInfo) (this : Nat) (attrs : Array Attribute := #[]) (ms : Array MethodInfo := #[]) (fl : Nat := 33) (sup : Nat := 0) (ifs : Array Nat := #[]) (fds : Array FieldInfo := #[]) : ClassFile where
  minorVersion := 0
  majorVersion := 65
  constantPool := pool
  accessFlags := fl
  thisClass := this
  superClass := sup
  interfaces := ifs
  fields := fds
  methods := ms
  attributes := attrs
def plain (name : String) (sup : Option ClassId) : Class where
  name := name
  kind := .ordinary
  loader := none
  accessFlags := 33
  super := sup
  interfaces := #[]
  cf := none
  fields := #[]
  methods := #[]
  instanceTypes := #[]
  staticTypes := #[]
  resolved := #[]
  callSites := []
  init := .initialized
  statics := none
  mirror := none

def pool0 : Array CpInfo := pool [(5, u "<init>"), (0, u "()V"), (1, .class_ 10), (1, u "java/lang/Object")] 113

def k0m0 : Method := { name := "<init>", desc := "()V", sig := { parameters := [], returnType := none }, accessFlags := 1, code := none }
/-- java/lang/Object -/
def k0 : Class := { plain "java/lang/Object" none with
  accessFlags := 33
  interfaces := #[]
  cf := some (fileOf pool0 8 #[] #[{ accessFlags := 1, nameIndex := 5, descriptorIndex := 6, attributes := #[] }] 33 0 #[] #[])
  fields := #[]
  methods := #[k0m0]
  instanceTypes := #[]
  staticTypes := #[]
  resolved := Array.replicate 124 none
  statics := none }

def pool1 : Array CpInfo := pool [(2, .class_ 4), (1, u "java/lang/Object"), (0, u "<init>"), (0, u "()V"), (0, .class_ 8), (0, u "com/example/lean_broker/leanbroker/codec/ReasonCode"), (0, .fieldref 7 10), (0, .nameAndType 11 12), (0, u "SUCCESS"), (0, u "Lcom/example/lean_broker/leanbroker/codec/ReasonCode;"), (0, .fieldref 7 14), (0, .nameAndType 15 12), (0, u "GRANTED_QOS_1"), (0, .fieldref 7 17), (0, .nameAndType 18 12), (0, u "GRANTED_QOS_2"), (0, .fieldref 7 20), (0, .nameAndType 21 12), (0, u "DISCONNECT_WITH_WILL_MESSAGE"), (0, .fieldref 7 23), (0, .nameAndType 24 12), (0, u "NO_MATCHING_SUBSCRIBERS"), (0, .fieldref 7 26), (0, .nameAndType 27 12), (0, u "NO_SUBSCRIPTION_EXISTED"), (0, .fieldref 7 29), (0, .nameAndType 30 12), (0, u "CONTINUE_AUTHENTICATION"), (0, .fieldref 7 32), (0, .nameAndType 33 12), (0, u "RE_AUTHENTICATE"), (0, .fieldref 7 35), (0, .nameAndType 36 12), (0, u "UNSPECIFIED_ERROR"), (0, .fieldref 7 38), (0, .nameAndType 39 12), (0, u "MALFORMED_PACKET"), (0, .fieldref 7 41), (0, .nameAndType 42 12), (0, u "PROTOCOL_ERROR"), (0, .fieldref 7 44), (0, .nameAndType 45 12), (0, u "IMPLEMENTATION_SPECIFIC_ERROR"), (0, .fieldref 7 47), (0, .nameAndType 48 12), (0, u "UNSUPPORTED_PROTOCOL_VERSION"), (0, .fieldref 7 50), (0, .nameAndType 51 12), (0, u "CLIENT_IDENTIFIER_NOT_VALID"), (0, .fieldref 7 53), (0, .nameAndType 54 12), (0, u "BAD_USER_NAME_OR_PASSWORD"), (0, .fieldref 7 56), (0, .nameAndType 57 12), (0, u "NOT_AUTHORIZED"), (0, .fieldref 7 59), (0, .nameAndType 60 12), (0, u "SERVER_UNAVAILABLE"), (0, .fieldref 7 62), (0, .nameAndType 63 12), (0, u "SERVER_BUSY"), (0, .fieldref 7 65), (0, .nameAndType 66 12), (0, u "BANNED"), (0, .fieldref 7 68), (0, .nameAndType 69 12), (0, u "SERVER_SHUTTING_DOWN"), (0, .fieldref 7 71), (0, .nameAndType 72 12), (0, u "BAD_AUTHENTICATION_METHOD"), (0, .fieldref 7 74), (0, .nameAndType 75 12), (0, u "KEEP_ALIVE_TIMEOUT"), (0, .fieldref 7 77), (0, .nameAndType 78 12), (0, u "SESSION_TAKEN_OVER"), (0, .fieldref 7 80), (0, .nameAndType 81 12), (0, u "TOPIC_FILTER_INVALID"), (0, .fieldref 7 83), (0, .nameAndType 84 12), (0, u "TOPIC_NAME_INVALID"), (0, .fieldref 7 86), (0, .nameAndType 87 12), (0, u "PACKET_IDENTIFIER_IN_USE"), (0, .fieldref 7 89), (0, .nameAndType 90 12), (0, u "PACKET_IDENTIFIER_NOT_FOUND"), (0, .fieldref 7 92), (0, .nameAndType 93 12), (0, u "RECEIVE_MAXIMUM_EXCEEDED"), (0, .fieldref 7 95), (0, .nameAndType 96 12), (0, u "TOPIC_ALIAS_INVALID"), (0, .fieldref 7 98), (0, .nameAndType 99 12), (0, u "PACKET_TOO_LARGE"), (0, .fieldref 7 101), (0, .nameAndType 102 12), (0, u "MESSAGE_RATE_TOO_HIGH"), (0, .fieldref 7 104), (0, .nameAndType 105 12), (0, u "QUOTA_EXCEEDED"), (0, .fieldref 7 107), (0, .nameAndType 108 12), (0, u "ADMINISTRATIVE_ACTION"), (0, .fieldref 7 110), (0, .nameAndType 111 12), (0, u "PAYLOAD_FORMAT_INVALID"), (0, .fieldref 7 113), (0, .nameAndType 114 12), (0, u "RETAIN_NOT_SUPPORTED"), (0, .fieldref 7 116), (0, .nameAndType 117 12), (0, u "QOS_NOT_SUPPORTED"), (0, .fieldref 7 119), (0, .nameAndType 120 12), (0, u "USE_ANOTHER_SERVER"), (0, .fieldref 7 122), (0, .nameAndType 123 12), (0, u "SERVER_MOVED"), (0, .fieldref 7 125), (0, .nameAndType 126 12), (0, u "SHARED_SUBSCRIPTIONS_NOT_SUPPORTED"), (0, .fieldref 7 128), (0, .nameAndType 129 12), (0, u "CONNECTION_RATE_EXCEEDED"), (0, .fieldref 7 131), (0, .nameAndType 132 12), (0, u "MAXIMUM_CONNECT_TIME"), (0, .fieldref 7 134), (0, .nameAndType 135 12), (0, u "SUBSCRIPTION_IDENTIFIERS_NOT_SUPPORTED"), (0, .fieldref 7 137), (0, .nameAndType 138 12), (0, u "WILDCARD_SUBSCRIPTIONS_NOT_SUPPORTED"), (0, .integer 2147483647), (0, .methodref 7 141), (0, .nameAndType 142 143), (0, u "isFailure"), (0, u "()Z"), (0, .methodref 7 145), (0, .nameAndType 146 147), (0, u "code"), (0, u "()I"), (0, .class_ 149), (0, u "com/example/lean_broker/leanbroker/codec/ReasonCodeIsFailurePinLaw"), (2, u "law"), (0, u "(I)Z")] 5

def k1m0 : Method := { name := "<init>", desc := "()V", sig := { parameters := [], returnType := none }, accessFlags := 1, code := none }
def k1c1 : Code := { maxStack := 4, maxLocals := 7, code := code, exceptionTable := #[], attributes := #[] }
def k1m1 : Method := { name := "law", desc := "(I)Z", sig := { parameters := [.int], returnType := some .boolean }, accessFlags := 9, code := some k1c1 }
/-- com/example/lean_broker/leanbroker/codec/ReasonCodeIsFailurePinLaw -/
def k1 : Class := { plain "com/example/lean_broker/leanbroker/codec/ReasonCodeIsFailurePinLaw" (some 0) with
  accessFlags := 49
  interfaces := #[]
  cf := some (fileOf pool1 148 #[] #[{ accessFlags := 1, nameIndex := 5, descriptorIndex := 6, attributes := #[] }, { accessFlags := 9, nameIndex := 152, descriptorIndex := 153, attributes := #[] }] 49 2 #[] #[])
  fields := #[]
  methods := #[k1m0, k1m1]
  instanceTypes := #[]
  staticTypes := #[]
  resolved := Array.replicate 159 none
  statics := none }

def pool2 : Array CpInfo := pool [(1, .class_ 2), (0, u "java/lang/constant/Constable"), (0, .class_ 4), (0, u "java/lang/Object")] 6

/-- java/lang/constant/Constable -/
def k2 : Class := { plain "java/lang/constant/Constable" (some 0) with
  accessFlags := 1537
  interfaces := #[]
  cf := some (fileOf pool2 1 #[] #[] 1537 3 #[] #[])
  fields := #[]
  methods := #[]
  instanceTypes := #[]
  staticTypes := #[]
  resolved := Array.replicate 11 none
  statics := none }

def pool3 : Array CpInfo := pool [(1, .class_ 2), (0, u "java/lang/Comparable"), (0, .class_ 4), (0, u "java/lang/Object")] 7

/-- java/lang/Comparable -/
def k3 : Class := { plain "java/lang/Comparable" (some 0) with
  accessFlags := 1537
  interfaces := #[]
  cf := some (fileOf pool3 1 #[] #[] 1537 3 #[] #[])
  fields := #[]
  methods := #[]
  instanceTypes := #[]
  staticTypes := #[]
  resolved := Array.replicate 12 none
  statics := none }

def pool4 : Array CpInfo := pool [(1, .class_ 2), (0, u "java/io/Serializable"), (0, .class_ 4), (0, u "java/lang/Object")] 2

/-- java/io/Serializable -/
def k4 : Class := { plain "java/io/Serializable" (some 0) with
  accessFlags := 1537
  interfaces := #[]
  cf := some (fileOf pool4 1 #[] #[] 1537 3 #[] #[])
  fields := #[]
  methods := #[]
  instanceTypes := #[]
  staticTypes := #[]
  resolved := Array.replicate 7 none
  statics := none }

def pool5 : Array CpInfo := pool [(2, .class_ 4), (1, u "java/lang/Enum"), (0, u "name"), (0, u "Ljava/lang/String;"), (2, u "ordinal"), (0, u "I"), (1, .class_ 14), (1, u "java/lang/Object"), (4, u "hash"), (86, .class_ 108), (1, u "java/lang/Enum$EnumDesc"), (2, .class_ 112), (0, u "java/lang/constant/Constable"), (0, .class_ 114), (0, u "java/lang/Comparable"), (0, .class_ 116), (0, u "java/io/Serializable")] 87

/-- java/lang/Enum -/
def k5 : Class := { plain "java/lang/Enum" (some 0) with
  accessFlags := 1057
  interfaces := #[2, 3, 4]
  cf := some (fileOf pool5 2 #[.nestMembers #[106]] #[] 1057 12 #[111, 113, 115] #[{ accessFlags := 18, nameIndex := 5, descriptorIndex := 6, attributes := #[] }, { accessFlags := 18, nameIndex := 9, descriptorIndex := 10, attributes := #[] }, { accessFlags := 2, nameIndex := 19, descriptorIndex := 10, attributes := #[] }])
  fields := #[{ name := "name", type := (.object "java/lang/String"), accessFlags := 18, slot := 0, constantValue := 0 }, { name := "ordinal", type := .int, accessFlags := 18, slot := 1, constantValue := 0 }, { name := "hash", type := .int, accessFlags := 2, slot := 2, constantValue := 0 }]
  methods := #[]
  instanceTypes := #[(.object "java/lang/String"), .int, .int]
  staticTypes := #[]
  resolved := Array.replicate 204 none
  statics := none }

def pool6 : Array CpInfo := pool [(1, .class_ 2), (0, u "com/example/lean_broker/leanbroker/codec/ReasonCode"), (2, u "SUCCESS"), (0, u "Lcom/example/lean_broker/leanbroker/codec/ReasonCode;"), (2, u "GRANTED_QOS_1"), (2, u "GRANTED_QOS_2"), (2, u "DISCONNECT_WITH_WILL_MESSAGE"), (2, u "NO_MATCHING_SUBSCRIBERS"), (2, u "NO_SUBSCRIPTION_EXISTED"), (2, u "CONTINUE_AUTHENTICATION"), (2, u "RE_AUTHENTICATE"), (2, u "UNSPECIFIED_ERROR"), (2, u "MALFORMED_PACKET"), (2, u "PROTOCOL_ERROR"), (2, u "IMPLEMENTATION_SPECIFIC_ERROR"), (2, u "UNSUPPORTED_PROTOCOL_VERSION"), (2, u "CLIENT_IDENTIFIER_NOT_VALID"), (2, u "BAD_USER_NAME_OR_PASSWORD"), (2, u "NOT_AUTHORIZED"), (2, u "SERVER_UNAVAILABLE"), (2, u "SERVER_BUSY"), (2, u "BANNED"), (2, u "SERVER_SHUTTING_DOWN"), (2, u "BAD_AUTHENTICATION_METHOD"), (2, u "KEEP_ALIVE_TIMEOUT"), (2, u "SESSION_TAKEN_OVER"), (2, u "TOPIC_FILTER_INVALID"), (2, u "TOPIC_NAME_INVALID"), (2, u "PACKET_IDENTIFIER_IN_USE"), (2, u "PACKET_IDENTIFIER_NOT_FOUND"), (2, u "RECEIVE_MAXIMUM_EXCEEDED"), (2, u "TOPIC_ALIAS_INVALID"), (2, u "PACKET_TOO_LARGE"), (2, u "MESSAGE_RATE_TOO_HIGH"), (2, u "QUOTA_EXCEEDED"), (2, u "ADMINISTRATIVE_ACTION"), (2, u "PAYLOAD_FORMAT_INVALID"), (2, u "RETAIN_NOT_SUPPORTED"), (2, u "QOS_NOT_SUPPORTED"), (2, u "USE_ANOTHER_SERVER"), (2, u "SERVER_MOVED"), (2, u "SHARED_SUBSCRIPTIONS_NOT_SUPPORTED"), (2, u "CONNECTION_RATE_EXCEEDED"), (2, u "MAXIMUM_CONNECT_TIME"), (2, u "SUBSCRIPTION_IDENTIFIERS_NOT_SUPPORTED"), (2, u "WILDCARD_SUBSCRIPTIONS_NOT_SUPPORTED"), (2, u "$VALUES"), (0, u "[Lcom/example/lean_broker/leanbroker/codec/ReasonCode;"), (6, .class_ 145), (1, u "java/lang/Enum"), (6, .fieldref 1 153), (0, .nameAndType 154 155), (0, u "code"), (0, u "I"), (2, u "title"), (0, u "Ljava/lang/String;"), (8, u "packets"), (0, u "Ljava/util/Set;"), (2, u "CODES"), (197, u "FAILURE"), (12, u "()I"), (2, u "isFailure"), (0, u "()Z")] 7

def k6c0 : Code := { maxStack := 1, maxLocals := 1, code := prog_4_method_5_code, exceptionTable := #[], attributes := #[] }
def k6m0 : Method := { name := "code", desc := "()I", sig := { parameters := [], returnType := some .int }, accessFlags := 1, code := some k6c0 }
def k6c1 : Code := { maxStack := 2, maxLocals := 1, code := prog_4_method_7_code, exceptionTable := #[], attributes := #[] }
def k6m1 : Method := { name := "isFailure", desc := "()Z", sig := { parameters := [], returnType := some .boolean }, accessFlags := 1, code := some k6c1 }
/-- com/example/lean_broker/leanbroker/codec/ReasonCode -/
def k6 : Class := { plain "com/example/lean_broker/leanbroker/codec/ReasonCode" (some 5) with
  accessFlags := 16433
  interfaces := #[]
  cf := some (fileOf pool6 1 #[] #[{ accessFlags := 1, nameIndex := 154, descriptorIndex := 383, attributes := #[] }, { accessFlags := 1, nameIndex := 386, descriptorIndex := 387, attributes := #[] }] 16433 143 #[] #[{ accessFlags := 16409, nameIndex := 5, descriptorIndex := 6, attributes := #[] }, { accessFlags := 16409, nameIndex := 9, descriptorIndex := 6, attributes := #[] }, { accessFlags := 16409, nameIndex := 12, descriptorIndex := 6, attributes := #[] }, { accessFlags := 16409, nameIndex := 15, descriptorIndex := 6, attributes := #[] }, { accessFlags := 16409, nameIndex := 18, descriptorIndex := 6, attributes := #[] }, { accessFlags := 16409, nameIndex := 21, descriptorIndex := 6, attributes := #[] }, { accessFlags := 16409, nameIndex := 24, descriptorIndex := 6, attributes := #[] }, { accessFlags := 16409, nameIndex := 27, descriptorIndex := 6, attributes := #[] }, { accessFlags := 16409, nameIndex := 30, descriptorIndex := 6, attributes := #[] }, { accessFlags := 16409, nameIndex := 33, descriptorIndex := 6, attributes := #[] }, { accessFlags := 16409, nameIndex := 36, descriptorIndex := 6, attributes := #[] }, { accessFlags := 16409, nameIndex := 39, descriptorIndex := 6, attributes := #[] }, { accessFlags := 16409, nameIndex := 42, descriptorIndex := 6, attributes := #[] }, { accessFlags := 16409, nameIndex := 45, descriptorIndex := 6, attributes := #[] }, { accessFlags := 16409, nameIndex := 48, descriptorIndex := 6, attributes := #[] }, { accessFlags := 16409, nameIndex := 51, descriptorIndex := 6, attributes := #[] }, { accessFlags := 16409, nameIndex := 54, descriptorIndex := 6, attributes := #[] }, { accessFlags := 16409, nameIndex := 57, descriptorIndex := 6, attributes := #[] }, { accessFlags := 16409, nameIndex := 60, descriptorIndex := 6, attributes := #[] }, { accessFlags := 16409, nameIndex := 63, descriptorIndex := 6, attributes := #[] }, { accessFlags := 16409, nameIndex := 66, descriptorIndex := 6, attributes := #[] }, { accessFlags := 16409, nameIndex := 69, descriptorIndex := 6, attributes := #[] }, { accessFlags := 16409, nameIndex := 72, descriptorIndex := 6, attributes := #[] }, { accessFlags := 16409, nameIndex := 75, descriptorIndex := 6, attributes := #[] }, { accessFlags := 16409, nameIndex := 78, descriptorIndex := 6, attributes := #[] }, { accessFlags := 16409, nameIndex := 81, descriptorIndex := 6, attributes := #[] }, { accessFlags := 16409, nameIndex := 84, descriptorIndex := 6, attributes := #[] }, { accessFlags := 16409, nameIndex := 87, descriptorIndex := 6, attributes := #[] }, { accessFlags := 16409, nameIndex := 90, descriptorIndex := 6, attributes := #[] }, { accessFlags := 16409, nameIndex := 93, descriptorIndex := 6, attributes := #[] }, { accessFlags := 16409, nameIndex := 96, descriptorIndex := 6, attributes := #[] }, { accessFlags := 16409, nameIndex := 99, descriptorIndex := 6, attributes := #[] }, { accessFlags := 16409, nameIndex := 102, descriptorIndex := 6, attributes := #[] }, { accessFlags := 16409, nameIndex := 105, descriptorIndex := 6, attributes := #[] }, { accessFlags := 16409, nameIndex := 108, descriptorIndex := 6, attributes := #[] }, { accessFlags := 16409, nameIndex := 111, descriptorIndex := 6, attributes := #[] }, { accessFlags := 16409, nameIndex := 114, descriptorIndex := 6, attributes := #[] }, { accessFlags := 16409, nameIndex := 117, descriptorIndex := 6, attributes := #[] }, { accessFlags := 16409, nameIndex := 120, descriptorIndex := 6, attributes := #[] }, { accessFlags := 16409, nameIndex := 123, descriptorIndex := 6, attributes := #[] }, { accessFlags := 16409, nameIndex := 126, descriptorIndex := 6, attributes := #[] }, { accessFlags := 16409, nameIndex := 129, descriptorIndex := 6, attributes := #[] }, { accessFlags := 16409, nameIndex := 132, descriptorIndex := 6, attributes := #[] }, { accessFlags := 26, nameIndex := 172, descriptorIndex := 136, attributes := #[] }, { accessFlags := 26, nameIndex := 370, descriptorIndex := 155, attributes := #[] }, { accessFlags := 18, nameIndex := 154, descriptorIndex := 155, attributes := #[] }, { accessFlags := 18, nameIndex := 158, descriptorIndex := 159, attributes := #[] }, { accessFlags := 18, nameIndex := 168, descriptorIndex := 169, attributes := #[] }, { accessFlags := 4122, nameIndex := 135, descriptorIndex := 136, attributes := #[] }])
  fields := #[{ name := "SUCCESS", type := (.object "com/example/lean_broker/leanbroker/codec/ReasonCode"), accessFlags := 16409, slot := 0, constantValue := 0 }, { name := "GRANTED_QOS_1", type := (.object "com/example/lean_broker/leanbroker/codec/ReasonCode"), accessFlags := 16409, slot := 1, constantValue := 0 }, { name := "GRANTED_QOS_2", type := (.object "com/example/lean_broker/leanbroker/codec/ReasonCode"), accessFlags := 16409, slot := 2, constantValue := 0 }, { name := "DISCONNECT_WITH_WILL_MESSAGE", type := (.object "com/example/lean_broker/leanbroker/codec/ReasonCode"), accessFlags := 16409, slot := 3, constantValue := 0 }, { name := "NO_MATCHING_SUBSCRIBERS", type := (.object "com/example/lean_broker/leanbroker/codec/ReasonCode"), accessFlags := 16409, slot := 4, constantValue := 0 }, { name := "NO_SUBSCRIPTION_EXISTED", type := (.object "com/example/lean_broker/leanbroker/codec/ReasonCode"), accessFlags := 16409, slot := 5, constantValue := 0 }, { name := "CONTINUE_AUTHENTICATION", type := (.object "com/example/lean_broker/leanbroker/codec/ReasonCode"), accessFlags := 16409, slot := 6, constantValue := 0 }, { name := "RE_AUTHENTICATE", type := (.object "com/example/lean_broker/leanbroker/codec/ReasonCode"), accessFlags := 16409, slot := 7, constantValue := 0 }, { name := "UNSPECIFIED_ERROR", type := (.object "com/example/lean_broker/leanbroker/codec/ReasonCode"), accessFlags := 16409, slot := 8, constantValue := 0 }, { name := "MALFORMED_PACKET", type := (.object "com/example/lean_broker/leanbroker/codec/ReasonCode"), accessFlags := 16409, slot := 9, constantValue := 0 }, { name := "PROTOCOL_ERROR", type := (.object "com/example/lean_broker/leanbroker/codec/ReasonCode"), accessFlags := 16409, slot := 10, constantValue := 0 }, { name := "IMPLEMENTATION_SPECIFIC_ERROR", type := (.object "com/example/lean_broker/leanbroker/codec/ReasonCode"), accessFlags := 16409, slot := 11, constantValue := 0 }, { name := "UNSUPPORTED_PROTOCOL_VERSION", type := (.object "com/example/lean_broker/leanbroker/codec/ReasonCode"), accessFlags := 16409, slot := 12, constantValue := 0 }, { name := "CLIENT_IDENTIFIER_NOT_VALID", type := (.object "com/example/lean_broker/leanbroker/codec/ReasonCode"), accessFlags := 16409, slot := 13, constantValue := 0 }, { name := "BAD_USER_NAME_OR_PASSWORD", type := (.object "com/example/lean_broker/leanbroker/codec/ReasonCode"), accessFlags := 16409, slot := 14, constantValue := 0 }, { name := "NOT_AUTHORIZED", type := (.object "com/example/lean_broker/leanbroker/codec/ReasonCode"), accessFlags := 16409, slot := 15, constantValue := 0 }, { name := "SERVER_UNAVAILABLE", type := (.object "com/example/lean_broker/leanbroker/codec/ReasonCode"), accessFlags := 16409, slot := 16, constantValue := 0 }, { name := "SERVER_BUSY", type := (.object "com/example/lean_broker/leanbroker/codec/ReasonCode"), accessFlags := 16409, slot := 17, constantValue := 0 }, { name := "BANNED", type := (.object "com/example/lean_broker/leanbroker/codec/ReasonCode"), accessFlags := 16409, slot := 18, constantValue := 0 }, { name := "SERVER_SHUTTING_DOWN", type := (.object "com/example/lean_broker/leanbroker/codec/ReasonCode"), accessFlags := 16409, slot := 19, constantValue := 0 }, { name := "BAD_AUTHENTICATION_METHOD", type := (.object "com/example/lean_broker/leanbroker/codec/ReasonCode"), accessFlags := 16409, slot := 20, constantValue := 0 }, { name := "KEEP_ALIVE_TIMEOUT", type := (.object "com/example/lean_broker/leanbroker/codec/ReasonCode"), accessFlags := 16409, slot := 21, constantValue := 0 }, { name := "SESSION_TAKEN_OVER", type := (.object "com/example/lean_broker/leanbroker/codec/ReasonCode"), accessFlags := 16409, slot := 22, constantValue := 0 }, { name := "TOPIC_FILTER_INVALID", type := (.object "com/example/lean_broker/leanbroker/codec/ReasonCode"), accessFlags := 16409, slot := 23, constantValue := 0 }, { name := "TOPIC_NAME_INVALID", type := (.object "com/example/lean_broker/leanbroker/codec/ReasonCode"), accessFlags := 16409, slot := 24, constantValue := 0 }, { name := "PACKET_IDENTIFIER_IN_USE", type := (.object "com/example/lean_broker/leanbroker/codec/ReasonCode"), accessFlags := 16409, slot := 25, constantValue := 0 }, { name := "PACKET_IDENTIFIER_NOT_FOUND", type := (.object "com/example/lean_broker/leanbroker/codec/ReasonCode"), accessFlags := 16409, slot := 26, constantValue := 0 }, { name := "RECEIVE_MAXIMUM_EXCEEDED", type := (.object "com/example/lean_broker/leanbroker/codec/ReasonCode"), accessFlags := 16409, slot := 27, constantValue := 0 }, { name := "TOPIC_ALIAS_INVALID", type := (.object "com/example/lean_broker/leanbroker/codec/ReasonCode"), accessFlags := 16409, slot := 28, constantValue := 0 }, { name := "PACKET_TOO_LARGE", type := (.object "com/example/lean_broker/leanbroker/codec/ReasonCode"), accessFlags := 16409, slot := 29, constantValue := 0 }, { name := "MESSAGE_RATE_TOO_HIGH", type := (.object "com/example/lean_broker/leanbroker/codec/ReasonCode"), accessFlags := 16409, slot := 30, constantValue := 0 }, { name := "QUOTA_EXCEEDED", type := (.object "com/example/lean_broker/leanbroker/codec/ReasonCode"), accessFlags := 16409, slot := 31, constantValue := 0 }, { name := "ADMINISTRATIVE_ACTION", type := (.object "com/example/lean_broker/leanbroker/codec/ReasonCode"), accessFlags := 16409, slot := 32, constantValue := 0 }, { name := "PAYLOAD_FORMAT_INVALID", type := (.object "com/example/lean_broker/leanbroker/codec/ReasonCode"), accessFlags := 16409, slot := 33, constantValue := 0 }, { name := "RETAIN_NOT_SUPPORTED", type := (.object "com/example/lean_broker/leanbroker/codec/ReasonCode"), accessFlags := 16409, slot := 34, constantValue := 0 }, { name := "QOS_NOT_SUPPORTED", type := (.object "com/example/lean_broker/leanbroker/codec/ReasonCode"), accessFlags := 16409, slot := 35, constantValue := 0 }, { name := "USE_ANOTHER_SERVER", type := (.object "com/example/lean_broker/leanbroker/codec/ReasonCode"), accessFlags := 16409, slot := 36, constantValue := 0 }, { name := "SERVER_MOVED", type := (.object "com/example/lean_broker/leanbroker/codec/ReasonCode"), accessFlags := 16409, slot := 37, constantValue := 0 }, { name := "SHARED_SUBSCRIPTIONS_NOT_SUPPORTED", type := (.object "com/example/lean_broker/leanbroker/codec/ReasonCode"), accessFlags := 16409, slot := 38, constantValue := 0 }, { name := "CONNECTION_RATE_EXCEEDED", type := (.object "com/example/lean_broker/leanbroker/codec/ReasonCode"), accessFlags := 16409, slot := 39, constantValue := 0 }, { name := "MAXIMUM_CONNECT_TIME", type := (.object "com/example/lean_broker/leanbroker/codec/ReasonCode"), accessFlags := 16409, slot := 40, constantValue := 0 }, { name := "SUBSCRIPTION_IDENTIFIERS_NOT_SUPPORTED", type := (.object "com/example/lean_broker/leanbroker/codec/ReasonCode"), accessFlags := 16409, slot := 41, constantValue := 0 }, { name := "WILDCARD_SUBSCRIPTIONS_NOT_SUPPORTED", type := (.object "com/example/lean_broker/leanbroker/codec/ReasonCode"), accessFlags := 16409, slot := 42, constantValue := 0 }, { name := "CODES", type := (.array (.object "com/example/lean_broker/leanbroker/codec/ReasonCode")), accessFlags := 26, slot := 43, constantValue := 0 }, { name := "FAILURE", type := .int, accessFlags := 26, slot := 44, constantValue := 0 }, { name := "code", type := .int, accessFlags := 18, slot := 3, constantValue := 0 }, { name := "title", type := (.object "java/lang/String"), accessFlags := 18, slot := 4, constantValue := 0 }, { name := "packets", type := (.object "java/util/Set"), accessFlags := 18, slot := 5, constantValue := 0 }, { name := "$VALUES", type := (.array (.object "com/example/lean_broker/leanbroker/codec/ReasonCode")), accessFlags := 4122, slot := 45, constantValue := 0 }]
  methods := #[k6m0, k6m1]
  instanceTypes := #[(.object "java/lang/String"), .int, .int, .int, (.object "java/lang/String"), (.object "java/util/Set")]
  staticTypes := #[(.object "com/example/lean_broker/leanbroker/codec/ReasonCode"), (.object "com/example/lean_broker/leanbroker/codec/ReasonCode"), (.object "com/example/lean_broker/leanbroker/codec/ReasonCode"), (.object "com/example/lean_broker/leanbroker/codec/ReasonCode"), (.object "com/example/lean_broker/leanbroker/codec/ReasonCode"), (.object "com/example/lean_broker/leanbroker/codec/ReasonCode"), (.object "com/example/lean_broker/leanbroker/codec/ReasonCode"), (.object "com/example/lean_broker/leanbroker/codec/ReasonCode"), (.object "com/example/lean_broker/leanbroker/codec/ReasonCode"), (.object "com/example/lean_broker/leanbroker/codec/ReasonCode"), (.object "com/example/lean_broker/leanbroker/codec/ReasonCode"), (.object "com/example/lean_broker/leanbroker/codec/ReasonCode"), (.object "com/example/lean_broker/leanbroker/codec/ReasonCode"), (.object "com/example/lean_broker/leanbroker/codec/ReasonCode"), (.object "com/example/lean_broker/leanbroker/codec/ReasonCode"), (.object "com/example/lean_broker/leanbroker/codec/ReasonCode"), (.object "com/example/lean_broker/leanbroker/codec/ReasonCode"), (.object "com/example/lean_broker/leanbroker/codec/ReasonCode"), (.object "com/example/lean_broker/leanbroker/codec/ReasonCode"), (.object "com/example/lean_broker/leanbroker/codec/ReasonCode"), (.object "com/example/lean_broker/leanbroker/codec/ReasonCode"), (.object "com/example/lean_broker/leanbroker/codec/ReasonCode"), (.object "com/example/lean_broker/leanbroker/codec/ReasonCode"), (.object "com/example/lean_broker/leanbroker/codec/ReasonCode"), (.object "com/example/lean_broker/leanbroker/codec/ReasonCode"), (.object "com/example/lean_broker/leanbroker/codec/ReasonCode"), (.object "com/example/lean_broker/leanbroker/codec/ReasonCode"), (.object "com/example/lean_broker/leanbroker/codec/ReasonCode"), (.object "com/example/lean_broker/leanbroker/codec/ReasonCode"), (.object "com/example/lean_broker/leanbroker/codec/ReasonCode"), (.object "com/example/lean_broker/leanbroker/codec/ReasonCode"), (.object "com/example/lean_broker/leanbroker/codec/ReasonCode"), (.object "com/example/lean_broker/leanbroker/codec/ReasonCode"), (.object "com/example/lean_broker/leanbroker/codec/ReasonCode"), (.object "com/example/lean_broker/leanbroker/codec/ReasonCode"), (.object "com/example/lean_broker/leanbroker/codec/ReasonCode"), (.object "com/example/lean_broker/leanbroker/codec/ReasonCode"), (.object "com/example/lean_broker/leanbroker/codec/ReasonCode"), (.object "com/example/lean_broker/leanbroker/codec/ReasonCode"), (.object "com/example/lean_broker/leanbroker/codec/ReasonCode"), (.object "com/example/lean_broker/leanbroker/codec/ReasonCode"), (.object "com/example/lean_broker/leanbroker/codec/ReasonCode"), (.object "com/example/lean_broker/leanbroker/codec/ReasonCode"), (.array (.object "com/example/lean_broker/leanbroker/codec/ReasonCode")), .int, (.array (.object "com/example/lean_broker/leanbroker/codec/ReasonCode"))]
  resolved := Array.replicate 395 none
  statics := some 0 }

def pool7 : Array CpInfo := pool [(1, u "java/lang/Cloneable"), (0, .class_ 1), (0, u "java/lang/Object"), (0, .class_ 3)] 3

/-- java/lang/Cloneable -/
def k7 : Class := { plain "java/lang/Cloneable" (some 0) with
  accessFlags := 1537
  interfaces := #[]
  cf := some (fileOf pool7 2 #[] #[] 1537 4 #[] #[])
  fields := #[]
  methods := #[]
  instanceTypes := #[]
  staticTypes := #[]
  resolved := Array.replicate 8 none
  statics := none }

/-- the primitive byte -/
def k8 : Class := { plain "byte" none with kind := .primitive 'B', accessFlags := 0x411 }
/-- [B -/
def k9 : Class := { plain "[B" (some 0) with kind := .array 8 .byte, interfaces := #[7, 4], accessFlags := 1041 }

/-- the primitive int -/
def k10 : Class := { plain "int" none with kind := .primitive 'I', accessFlags := 0x411 }
/-- [I -/
def k11 : Class := { plain "[I" (some 0) with kind := .array 10 .int, interfaces := #[7, 4], accessFlags := 1041 }

/-- [Lcom/example/lean_broker/leanbroker/codec/ReasonCode; -/
def k12 : Class := { plain "[Lcom/example/lean_broker/leanbroker/codec/ReasonCode;" (some 0) with kind := .array 6 (.object "com/example/lean_broker/leanbroker/codec/ReasonCode"), interfaces := #[7, 4], accessFlags := 1041 }

def heap : Heap := #[{ cls := 6, slots := #[.ref 1, .ref 2, .ref 3, .ref 4, .ref 5, .ref 6, .ref 7, .ref 8, .ref 9, .ref 10, .ref 11, .ref 12, .ref 13, .ref 14, .ref 15, .ref 16, .ref 17, .ref 18, .ref 19, .ref 20, .ref 21, .ref 22, .ref 23, .ref 24, .ref 25, .ref 26, .ref 27, .ref 28, .ref 29, .ref 30, .ref 31, .ref 32, .ref 33, .ref 34, .ref 35, .ref 36, .ref 37, .ref 38, .ref 39, .ref 40, .ref 41, .ref 42, .ref 43, .null, .int 0, .null], vm := .statics 6 },
  { cls := 6, slots := #[.null, .int 0, .int 0, .int 0, .null, .null], vm := .none },
  { cls := 6, slots := #[.null, .int 1, .int 0, .int 1, .null, .null], vm := .none },
  { cls := 6, slots := #[.null, .int 2, .int 0, .int 2, .null, .null], vm := .none },
  { cls := 6, slots := #[.null, .int 3, .int 0, .int 4, .null, .null], vm := .none },
  { cls := 6, slots := #[.null, .int 4, .int 0, .int 16, .null, .null], vm := .none },
  { cls := 6, slots := #[.null, .int 5, .int 0, .int 17, .null, .null], vm := .none },
  { cls := 6, slots := #[.null, .int 6, .int 0, .int 24, .null, .null], vm := .none },
  { cls := 6, slots := #[.null, .int 7, .int 0, .int 25, .null, .null], vm := .none },
  { cls := 6, slots := #[.null, .int 8, .int 0, .int 128, .null, .null], vm := .none },
  { cls := 6, slots := #[.null, .int 9, .int 0, .int 129, .null, .null], vm := .none },
  { cls := 6, slots := #[.null, .int 10, .int 0, .int 130, .null, .null], vm := .none },
  { cls := 6, slots := #[.null, .int 11, .int 0, .int 131, .null, .null], vm := .none },
  { cls := 6, slots := #[.null, .int 12, .int 0, .int 132, .null, .null], vm := .none },
  { cls := 6, slots := #[.null, .int 13, .int 0, .int 133, .null, .null], vm := .none },
  { cls := 6, slots := #[.null, .int 14, .int 0, .int 134, .null, .null], vm := .none },
  { cls := 6, slots := #[.null, .int 15, .int 0, .int 135, .null, .null], vm := .none },
  { cls := 6, slots := #[.null, .int 16, .int 0, .int 136, .null, .null], vm := .none },
  { cls := 6, slots := #[.null, .int 17, .int 0, .int 137, .null, .null], vm := .none },
  { cls := 6, slots := #[.null, .int 18, .int 0, .int 138, .null, .null], vm := .none },
  { cls := 6, slots := #[.null, .int 19, .int 0, .int 139, .null, .null], vm := .none },
  { cls := 6, slots := #[.null, .int 20, .int 0, .int 140, .null, .null], vm := .none },
  { cls := 6, slots := #[.null, .int 21, .int 0, .int 141, .null, .null], vm := .none },
  { cls := 6, slots := #[.null, .int 22, .int 0, .int 142, .null, .null], vm := .none },
  { cls := 6, slots := #[.null, .int 23, .int 0, .int 143, .null, .null], vm := .none },
  { cls := 6, slots := #[.null, .int 24, .int 0, .int 144, .null, .null], vm := .none },
  { cls := 6, slots := #[.null, .int 25, .int 0, .int 145, .null, .null], vm := .none },
  { cls := 6, slots := #[.null, .int 26, .int 0, .int 146, .null, .null], vm := .none },
  { cls := 6, slots := #[.null, .int 27, .int 0, .int 147, .null, .null], vm := .none },
  { cls := 6, slots := #[.null, .int 28, .int 0, .int 148, .null, .null], vm := .none },
  { cls := 6, slots := #[.null, .int 29, .int 0, .int 149, .null, .null], vm := .none },
  { cls := 6, slots := #[.null, .int 30, .int 0, .int 150, .null, .null], vm := .none },
  { cls := 6, slots := #[.null, .int 31, .int 0, .int 151, .null, .null], vm := .none },
  { cls := 6, slots := #[.null, .int 32, .int 0, .int 152, .null, .null], vm := .none },
  { cls := 6, slots := #[.null, .int 33, .int 0, .int 153, .null, .null], vm := .none },
  { cls := 6, slots := #[.null, .int 34, .int 0, .int 154, .null, .null], vm := .none },
  { cls := 6, slots := #[.null, .int 35, .int 0, .int 155, .null, .null], vm := .none },
  { cls := 6, slots := #[.null, .int 36, .int 0, .int 156, .null, .null], vm := .none },
  { cls := 6, slots := #[.null, .int 37, .int 0, .int 157, .null, .null], vm := .none },
  { cls := 6, slots := #[.null, .int 38, .int 0, .int 158, .null, .null], vm := .none },
  { cls := 6, slots := #[.null, .int 39, .int 0, .int 159, .null, .null], vm := .none },
  { cls := 6, slots := #[.null, .int 40, .int 0, .int 160, .null, .null], vm := .none },
  { cls := 6, slots := #[.null, .int 41, .int 0, .int 161, .null, .null], vm := .none },
  { cls := 6, slots := #[.null, .int 42, .int 0, .int 162, .null, .null], vm := .none }]
def classes : Array Class := #[k0, k1, k2, k3, k4, k5, k6, k7, k8, k9, k10, k11, k12]
def interned : List (Array UInt16 × Addr) := []
def slotsUsed : Nat := 304
def theMethod : MethodId := ⟨1, 1⟩
def args0 : Array Value := #[.int 5]
def aboutOver (below : List Frame) : State where
  vm := { classes := classes, interned := interned.toArray }
  heap := heap
  slotsUsed := slotsUsed
  threads := #[{ frames := .invoking theMethod args0 :: below }]
def below0 : List Frame := [.native { method := ⟨0, 0⟩, args := #[] }]
def about1 : State := aboutOver below0
def p0 : Program := .bare "" "" ""
def e0 : Env := launch0.env 0 0 0
theorem w_frames : about1.frames = Frame.invoking theMethod args0 :: below0 := rfl
set_option maxRecDepth 65536 in
theorem w_args : argsFit about1.vm theMethod args0 = true := by decide +kernel
set_option maxRecDepth 65536 in
theorem w_heap : heapFits about1 = true := by decide +kernel
set_option maxRecDepth 65536 in
theorem w_runnable : about1.curStatus? = some .runnable := by decide +kernel
set_option maxRecDepth 65536 in
theorem w_alone : about1.alone = true := by decide +kernel
set_option maxRecDepth 65536 in
theorem w_named : about1.methodNamed? x = some theMethod := by decide +kernel
set_option maxRecDepth 65536 in
theorem w_hears : about1.hears theMethod below0 = true := by decide +kernel
set_option maxRecDepth 65536 in
theorem w_ripe : about1.ripe theMethod args0 below0 = true := by decide +kernel
theorem w_running : about1.status = .running := rfl
set_option maxRecDepth 65536 in
theorem w_room : about1.hasRoom e0.platform room_1 = true :=
  launch0.hasRoom_least _ room_1 (by decide +kernel) (by decide +kernel) (by decide +kernel) (by decide +kernel) (by decide +kernel) (by decide +kernel)
theorem allAtoms_all (ts : List Jvm.Cond) (a : Array Jvm.Value) (st : Jvm.State) : (allAtoms ts).before a st = ts.all (fun c => c.before a st) := by
  induction ts with
  | nil => rfl
  | cons c t ih =>
    show (Jvm.Cond.and c (allAtoms t)).before a st = _
    rw [Jvm.Cond.before_and, ih, List.all_cons]
def words1 : List Jvm.Cond := Jvm.Cond.code x code maxLocals ret :: tables_1
/-- a 'code' word, met by the world's own term for the bytes: nothing is compared byte by byte -/
theorem code_word {y : MethodName} {bytes : ByteArray} {mx : Nat} {rt : Option FieldType} {a : Array Value} {s : State} {m : MethodId} {meth : Method} {c : Code} (h1 : s.methodNamed? y = some m) (h2 : s.vm.method? m = some meth) (h3 : meth.code = some c) (h4 : c.code = bytes)
    (h5 : (c.maxLocals == mx && c.exceptionTable.isEmpty && decide (c.maxStack ≤ mostOperands) && decide (meth.sig.returnType = rt) && !meth.locks && decide (parseMethodDescriptor y.desc = some meth.sig)) = true) : (Jvm.Cond.code y bytes mx rt).before a s = true := by
  simp only [Bool.and_eq_true, beq_iff_eq, Bool.not_eq_true', decide_eq_true_eq] at h5
  obtain ⟨⟨⟨⟨⟨g1, g2⟩, g3⟩, g4⟩, g5⟩, g6⟩ := h5
  simp [Cond.before, Cond.holds, Cond.value, h1, h2, h3, h4, g1, g2, g3, g4, g5, g6]
def isCode : Jvm.Cond → Bool
  | .code _ _ _ _ => true
  | _ => false
theorem all_split {L : List Jvm.Cond} {P : Jvm.Cond → Bool} (h1 : L.all (fun c => isCode c || P c) = true) (h2 : ∀ c ∈ L.filter isCode, P c = true) : L.all P = true := by
  refine List.all_eq_true.mpr fun c hc => ?_
  have h := List.all_eq_true.mp h1 c hc
  rcases Bool.eq_false_or_eq_true (isCode c) with hi | hi
  · exact h2 c (List.mem_filter.mpr ⟨hc, hi⟩)
  · simpa [hi] using h
set_option maxRecDepth 65536 in
theorem w_c0 : (Jvm.Cond.code x code maxLocals ret).before args0 about1 = true := code_word (m := ⟨1, 1⟩) (meth := k1m1) (c := k1c1) (by decide +kernel) rfl rfl rfl (by decide +kernel)
set_option maxRecDepth 65536 in
theorem w_c1 : (Jvm.Cond.code ({ cls := "com/example/lean_broker/leanbroker/codec/ReasonCode", name := "isFailure", desc := "()Z" } : Jvm.MethodName) prog_4_method_7_code (1 : Nat) (Option.some Jvm.ClassFile.FieldType.boolean)).before args0 about1 = true := code_word (m := ⟨6, 1⟩) (meth := k6m1) (c := k6c1) (by decide +kernel) rfl rfl rfl (by decide +kernel)
set_option maxRecDepth 65536 in
theorem w_c2 : (Jvm.Cond.code ({ cls := "com/example/lean_broker/leanbroker/codec/ReasonCode", name := "code", desc := "()I" } : Jvm.MethodName) prog_4_method_5_code (1 : Nat) (Option.some Jvm.ClassFile.FieldType.int)).before args0 about1 = true := code_word (m := ⟨6, 0⟩) (meth := k6m0) (c := k6c0) (by decide +kernel) rfl rfl rfl (by decide +kernel)
def codes1 : List Jvm.Cond := [Jvm.Cond.code x code maxLocals ret, Jvm.Cond.code ({ cls := "com/example/lean_broker/leanbroker/codec/ReasonCode", name := "isFailure", desc := "()Z" } : Jvm.MethodName) prog_4_method_7_code (1 : Nat) (Option.some Jvm.ClassFile.FieldType.boolean), Jvm.Cond.code ({ cls := "com/example/lean_broker/leanbroker/codec/ReasonCode", name := "code", desc := "()I" } : Jvm.MethodName) prog_4_method_5_code (1 : Nat) (Option.some Jvm.ClassFile.FieldType.int)]
set_option maxRecDepth 65536 in
theorem codes_eq : words1.filter isCode = codes1 := rfl
theorem w_codes : ∀ c ∈ words1.filter isCode, c.before args0 about1 = true := by
  rw [codes_eq]
  intro c hc
  simp only [codes1, List.mem_cons, List.not_mem_nil, or_false] at hc
  rcases hc with rfl | rfl | rfl
  · exact w_c0
  · exact w_c1
  · exact w_c2
set_option maxRecDepth 65536 in
theorem w_t1 : (words1.take 24).all (fun c => isCode c || c.before args0 about1) = true := by decide +kernel
set_option maxRecDepth 65536 in
theorem w_t2 : ((words1.drop 24).take 24).all (fun c => isCode c || c.before args0 about1) = true := by decide +kernel
set_option maxRecDepth 65536 in
theorem w_t3 : (((words1.drop 24).drop 24).take 24).all (fun c => isCode c || c.before args0 about1) = true := by decide +kernel
set_option maxRecDepth 65536 in
theorem w_t4 : ((((words1.drop 24).drop 24).drop 24).take 24).all (fun c => isCode c || c.before args0 about1) = true := by decide +kernel
set_option maxRecDepth 65536 in
theorem w_t5 : ((((words1.drop 24).drop 24).drop 24).drop 24).all (fun c => isCode c || c.before args0 about1) = true := by decide +kernel
theorem w_tables : (allAtoms (Jvm.Cond.code x code maxLocals ret :: tables_1)).before args0 about1 = true := by
  rw [allAtoms_all]
  show words1.all (fun c => c.before args0 about1) = true
  refine all_split ?_ w_codes
  rw [← List.take_append_drop 24 words1, List.all_append, w_t1, ← List.take_append_drop 24 (words1.drop 24), List.all_append, w_t2, ← List.take_append_drop 24 ((words1.drop 24).drop 24), List.all_append, w_t3, ← List.take_append_drop 24 (((words1.drop 24).drop 24).drop 24), List.all_append, w_t4, w_t5]
  rfl
set_option maxRecDepth 65536 in
theorem w_case : (Jvm.Cond.and given_1 narrow_1).before args0 about1 = true := by decide +kernel
theorem w_applies : (headSpec (Jvm.Cond.code x code maxLocals ret :: tables_1) room_1).applies x e0.platform about1 = true :=
  (Spec.applies_iff w_frames).mpr ⟨w_running, w_runnable, w_alone, w_named, w_hears, w_ripe, w_room, w_tables⟩
theorem atStart : AtStart classFile x code maxLocals ret World_1 tables_1 room_1 Calls_1 rest_1 Pre_1 launch0 p0 e0 about1 theMethod args0 below0 :=
  ⟨lists_1, trivial, launch0.admits_env _ _ _, launch0.least_env, fairChoices_fair.cas, fairChoices_fair.clock, w_frames, w_args, w_heap, w_applies, trivial, trivial, w_case⟩
end start1
theorem witness_1 : WitnessClaimed_1 := ⟨start1.p0, start1.e0, start1.about1, start1.theMethod, start1.args0, start1.below0, start1.atStart⟩
end Jvm.Pilot.@@N@@
