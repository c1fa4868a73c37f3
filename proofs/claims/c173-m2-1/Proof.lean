import JvmDerived
import JvmDerived.Pilot.@@N@@Statement
import JvmDerived.Pilot.@@N@@Code
set_option linter.unusedVariables false
set_option linter.unusedSimpArgs false
namespace Jvm.RoadKit
open Sem ClassFile Op Lib Jvm.Stand Jvm.Free Jvm.LawKit
section New
variable {p : Program} {l : Launch} {e : Env} {R : Room} {s : State} {m : MethodId} {args : Array Value} {below : List Frame} {meth : Method} {c : Code} {T : State} {locs : List Loc} {cells slots : Nat}
theorem retI (X : Stand p l e R s m args below meth c T locs cells slots) (hx : p.tables.exec = Jvm.exec) {pc : Nat} {Ls : Array Slot} {z : Int32} {rest : List Value} (hret : meth.sig.returnType = some .int) (hd : decode c.code pc = .ok (.ireturn, 1)) {fs : List Frame}
    (hl : ∀ (f : JFrame) (acts : List Action), f.method = m → f.locked = none → f.entered = [] → (doReturn e (T.setTop f) acts (some (.int z))).1 = T.setFrames fs) : Steps p.tables e below (T.setTop (mkF m pc Ls (.int z :: rest))) (T.setFrames fs) := by
  have hm' : T.vm.method? m = some meth := X.method'
  have hn : narrow .int (.int z) = .int z := rfl
  show Steps p.tables e below (T.setTop { method := m, pc := pc, locals := Ls, stack := _ :: rest, locked := none }) _
  jvm_step X.here [X.here.top, hx, hd, hm', hret, hn]
  first | (intro acts; rw [hl _ acts rfl rfl rfl]) | rw [hl _ _ rfl rfl rfl]
  exact Steps.refl _
end New
end Jvm.RoadKit
/- laws to paste: Road.backV (cut by pick.py; bodies as the Statement names them) -/
namespace Jvm.Pilot.@@N@@
namespace StrChars
open Jvm Sem ClassFile Op Lib Jvm.Stand Jvm.Free.XT Jvm.Free.ALB Jvm.Free.JM Jvm.Free
open Jvm.Lib.Cold (StaticIs)
/-- a char array whose places are chars -/
def Ch (a : Addr) (A : Cell) (U : State) : Prop := Arr .char a A U ∧ Typed .char A
theorem Ch.mv {a : Addr} {A : Cell} {U U' : State} (h : Ch a A U) (hal : U.vm.Alike U'.vm) (hh : U'.heap = U.heap) : Ch a A U' := ⟨h.1.mv hal hh, h.2⟩
theorem Ch.keep {a : Addr} {A : Cell} {U U' : State} (h : Ch a A U) (hal : U.vm.Alike U'.vm) (hk : U'.heap[a]? = some A) : Ch a A U' := ⟨h.1.keep hal hk, h.2⟩
/-- what place i of a char[]'s cell holds -/
def cv (A : Cell) (i : Nat) : Int32 := match A.slots[i]? with | some (.int x) => x | _ => 0
theorem Ch.get {a : Addr} {A : Cell} {U : State} (h : Ch a A U) {i : Nat} (hi : i < A.slots.size) : A.slots[i]? = some (.int (cv A i)) := by
  have e := Array.getElem?_eq_getElem hi
  have f := h.2 i _ e
  unfold cv; rw [e]
  generalize A.slots[i] = v at f
  cases v <;> simp [fits] at f ⊢
/-- the byte that i2b leaves of a char -/
def lo8 (x : Int32) : Int32 := x.toInt8.toInt32
theorem fits_lo8 (y : Int32) : fits .byte (.int (lo8 y)) = true := by
  have h1 := y.toInt8.le_toInt
  have h2 := y.toInt8.toInt_lt
  simp only [lo8, fits, Bool.and_eq_true, decide_eq_true_eq, Int32.le_iff_toInt_le, Int8.toInt_toInt32, show (-128 : Int32).toInt = -128 from by decide, show (127 : Int32).toInt = 127 from by decide]
  omega
/-- A' is A but that each place j of lo .. hi - 1 holds f j -/
def Laid (A A' : Cell) (lo hi : Nat) (f : Nat → Value) : Prop := A'.cls = A.cls ∧ A'.vm = A.vm ∧ A'.slots.size = A.slots.size ∧ ∀ i, A'.slots[i]? = if lo ≤ i ∧ i < hi then some (f i) else A.slots[i]?
theorem Laid.zero (A : Cell) (lo : Nat) (f : Nat → Value) : Laid A A lo (lo + 0) f := ⟨rfl, rfl, rfl, fun i => by rw [if_neg (by omega)]⟩
theorem Laid.step {A Ak : Cell} {lo k : Nat} {f : Nat → Value} {v : Value} (h : Laid A Ak lo k f) (hlo : lo ≤ k) (hk : k < Ak.slots.size) (hv : v = f k) : Laid A (Ak.setSlot k v) lo (k + 1) f := by
  refine ⟨h.1, h.2.1, by simpa [Cell.setSlot] using h.2.2.1, fun i => ?_⟩
  by_cases e : k = i
  · subst e; rw [Cell.slots_setSlot_self v hk, if_pos (by omega), hv]
  · rw [Cell.slots_setSlot_ne v e, h.2.2.2 i]
    by_cases q : lo ≤ i ∧ i < k
    · rw [if_pos q, if_pos (by omega)]
    · rw [if_neg q, if_neg (by omega)]
def U16 : String := "java/lang/StringUTF16"
namespace Cmp5
def yN : MethodName := ⟨"java/lang/StringUTF16", "compress", "([CI[BII)I"⟩
abbrev yB : ByteArray := jdk_52_method_21_code
theorem d0 : decode yB 0 = .ok (.iconst 0, 1) := by decide +kernel
theorem d1 : decode yB 1 = .ok (.istore 5, 2) := by decide +kernel
theorem d3 : decode yB 3 = .ok (.iload 5, 2) := by decide +kernel
theorem d5 : decode yB 5 = .ok (.iload 4, 2) := by decide +kernel
theorem d7 : decode yB 7 = .ok (.if_icmp (.ge) 37, 3) := by decide +kernel
theorem d10 : decode yB 10 = .ok (.aload_n 0, 1) := by decide +kernel
theorem d11 : decode yB 11 = .ok (.iload_n 1, 1) := by decide +kernel
theorem d12 : decode yB 12 = .ok (.caload, 1) := by decide +kernel
theorem d13 : decode yB 13 = .ok (.istore 6, 2) := by decide +kernel
theorem d15 : decode yB 15 = .ok (.iload 6, 2) := by decide +kernel
theorem d17 : decode yB 17 = .ok (.sipush 255, 3) := by decide +kernel
theorem d20 : decode yB 20 = .ok (.if_icmp (.le) 6, 3) := by decide +kernel
theorem d26 : decode yB 26 = .ok (.aload_n 2, 1) := by decide +kernel
theorem d27 : decode yB 27 = .ok (.iload_n 3, 1) := by decide +kernel
theorem d28 : decode yB 28 = .ok (.iload 6, 2) := by decide +kernel
theorem d30 : decode yB 30 = .ok (.i2b, 1) := by decide +kernel
theorem d31 : decode yB 31 = .ok (.bastore, 1) := by decide +kernel
theorem d32 : decode yB 32 = .ok (.iinc 1 1, 3) := by decide +kernel
theorem d35 : decode yB 35 = .ok (.iinc 3 1, 3) := by decide +kernel
theorem d38 : decode yB 38 = .ok (.iinc 5 1, 3) := by decide +kernel
theorem d41 : decode yB 41 = .ok (.goto (-38), 3) := by decide +kernel
theorem d44 : decode yB 44 = .ok (.iload 4, 2) := by decide +kernel
theorem d46 : decode yB 46 = .ok (.ireturn, 1) := by decide +kernel
def site : List Cond := []
def tab : Cond := tabOf yN yB 7 (some .int) site
def P (b : Addr) (A : Cell) (d : Addr) (B : Cell) (o q len : Nat) (args : Array Value) (s : State) : Prop := args = #[.ref b, .int (Int32.ofNat o), .ref d, .int (Int32.ofNat q), .int (Int32.ofNat len)] ∧ Ch b A s ∧ Arr .byte d B s ∧ b ≠ d ∧ o + len ≤ A.slots.size ∧ q + len ≤ B.slots.size ∧ ∀ i, i < len → ¬ 255 < cv A (o + i)
def E (b : Addr) (A : Cell) (d : Addr) (B : Cell) (o q len : Nat) (r : Option Value) (s u : State) : Prop := r = some (.int (Int32.ofNat len)) ∧ ∃ B', Put d B' s u ∧ Laid B B' q (q + len) (fun j => Value.int (lo8 (cv A (o + (j - q)))))
/-- no char of the range above 255: len; the places written hold each char's low byte -/
theorem law (l : Launch) (b : Addr) (A : Cell) (d : Addr) (B : Cell) (o q len : Nat) : Law l yN 5 5 0 0 yB 7 (some .int) site (P b A d B o q len) (E b A d B o q len) (copyLocs d q len) 0 0 := by
  refine Law.of_walk (plainFor_of_name (by decide +kernel)) (by decide +kernel) (by decide +kernel) (by decide) (fun _ _ h => by rw [h.1]; rfl) (fun _ U U' hal hh h => ⟨h.1, h.2.1.mv hal hh, h.2.2.1.mv hal hh, h.2.2.2⟩) (fun r U U' V V' h1 hal h2 h => ⟨h.1, h.2.elim fun B' q => ⟨B', q.1.mv h1 h2, q.2⟩⟩) ?_
  intro p e s m args below meth c s₁ X0 hexec hbytes hml hret hlk hnm hown hh0 W hP
  obtain ⟨rfl, hA, hB, hne, l1, l2, hp⟩ := hP
  have c1 : Steps p.tables e below (s₁.setTop (entryFrame m #[.ref b, .int (Int32.ofNat o), .ref d, .int (Int32.ofNat q), .int (Int32.ofNat len)] 7)) (s₁.setTop (mkF m 0 #[.val (.ref b), .val (.int (Int32.ofNat o)), .val (.ref d), .val (.int (Int32.ofNat q)), .val (.int (Int32.ofNat len)), .unset, .unset] [])) := entry rfl
  have hA0 := hA.1.mv X0.warmed.alike hh0
  have hB0 := hB.mv X0.warmed.alike hh0
  have a31 := hA.1.2.2.2
  have c2 : Steps p.tables e below (s₁.setTop (entryFrame m #[.ref b, .int (Int32.ofNat o), .ref d, .int (Int32.ofNat q), .int (Int32.ofNat len)] 7)) (s₁.setTop (mkF m 3 #[.val (.ref b), .val (.int (Int32.ofNat o)), .val (.ref d), .val (.int (Int32.ofNat q)), .val (.int (Int32.ofNat len)), .val (.int 0), .unset] [])) := c1.trans (by
    refine iconstV X0.here hexec rfl 0 (hb hbytes d0) (by decide) ?_
    refine XS.istore X0.here hexec rfl (hb hbytes d1) rfl rfl ?_
    exact Steps.refl _)
  have loop : ∀ (r i : Nat), i + r = len → ∀ (z : Slot), (z = .unset ∨ ∃ w, z = .val w ∧ w.category = 1) → ∀ (Tl : State) (Bk : Cell), Stand p l e { frames := 0, locals := 0, cells := 0, slots := 0 } s m #[.ref b, .int (Int32.ofNat o), .ref d, .int (Int32.ofNat q), .int (Int32.ofNat len)] below meth c Tl ([] ++ copyLocs d q i) 0 0 → Put d Bk s₁ Tl → Laid B Bk q (q + i) (fun j => Value.int (lo8 (cv A (o + (j - q))))) →
      Steps p.tables e below (s₁.setTop (entryFrame m #[.ref b, .int (Int32.ofNat o), .ref d, .int (Int32.ofNat q), .int (Int32.ofNat len)] 7)) (Tl.setTop (mkF m 3 #[.val (.ref b), .val (.int (Int32.ofNat (o + i))), .val (.ref d), .val (.int (Int32.ofNat (q + i))), .val (.int (Int32.ofNat len)), .val (.int (Int32.ofNat i)), z] [])) → ∃ (T' : State) (B' : Cell) (z' : Slot), Stand p l e { frames := 0, locals := 0, cells := 0, slots := 0 } s m #[.ref b, .int (Int32.ofNat o), .ref d, .int (Int32.ofNat q), .int (Int32.ofNat len)] below meth c T' ([] ++ copyLocs d q len) 0 0 ∧ Put d B' s₁ T' ∧ Laid B B' q (q + len) (fun j => Value.int (lo8 (cv A (o + (j - q))))) ∧
      Steps p.tables e below (s₁.setTop (entryFrame m #[.ref b, .int (Int32.ofNat o), .ref d, .int (Int32.ofNat q), .int (Int32.ofNat len)] 7)) (T'.setTop (mkF m 3 #[.val (.ref b), .val (.int (Int32.ofNat (o + len))), .val (.ref d), .val (.int (Int32.ofNat (q + len))), .val (.int (Int32.ofNat len)), .val (.int (Int32.ofNat len)), z'] [])) := by
    intro r
    induction r with
    | zero =>
      intro i hi z hz Tl Bk Xl pl fl cl
      have hil : i = len := by omega
      rw [hil] at Xl fl cl
      exact ⟨Tl, Bk, z, Xl, pl, fl, cl⟩
    | succ r ih =>
      intro i hi z hz Tl Bk Xl pl fl cl
      have all := X0.warmed.alike.symm.trans Xl.warmed.alike
      have hAl := hA0.keep all (pl.other hne hA0.1)
      have hBk := hB0.like all pl.1 fl.1 fl.2.1 fl.2.2.1
      have hlt : q + i < Bk.slots.size := by rw [fl.2.2.1]; omega
      have c3 : Steps p.tables e below (s₁.setTop (entryFrame m #[.ref b, .int (Int32.ofNat o), .ref d, .int (Int32.ofNat q), .int (Int32.ofNat len)] 7)) (Tl.setTop (mkF m 12 #[.val (.ref b), .val (.int (Int32.ofNat (o + i))), .val (.ref d), .val (.int (Int32.ofNat (q + i))), .val (.int (Int32.ofNat len)), .val (.int (Int32.ofNat i)), z] [.int (Int32.ofNat (o + i)), .ref b])) := cl.trans (by
        refine XS.iload Xl.here hexec rfl (hb hbytes d3) rfl ?_
        refine XS.iload Xl.here hexec rfl (hb hbytes d5) rfl ?_
        refine XS.icmpNo Xl.here hexec rfl (hb hbytes d7) rfl (ii_ge_f (lt32 (by omega) (by omega))) ?_
        refine XS.aloadN Xl.here hexec rfl (hb hbytes d10) rfl rfl ?_
        refine XS.iloadN Xl.here hexec rfl (hb hbytes d11) rfl ?_
        exact Steps.refl _)
      have c4 : Steps p.tables e below (s₁.setTop (entryFrame m #[.ref b, .int (Int32.ofNat o), .ref d, .int (Int32.ofNat q), .int (Int32.ofNat len)] 7)) (Tl.setTop (mkF m 13 #[.val (.ref b), .val (.int (Int32.ofNat (o + i))), .val (.ref d), .val (.int (Int32.ofNat (q + i))), .val (.int (Int32.ofNat len)), .val (.int (Int32.ofNat i)), z] [.int (cv A (o + i))])) := c3.trans (by
        refine Xl.aget hexec hAl rfl (hA.get (i := o + i) (by omega)) rfl rfl (hb hbytes d12) ?_
        exact Steps.refl _)
      have c5 : Steps p.tables e below (s₁.setTop (entryFrame m #[.ref b, .int (Int32.ofNat o), .ref d, .int (Int32.ofNat q), .int (Int32.ofNat len)] 7)) (Tl.setTop (mkF m 15 #[.val (.ref b), .val (.int (Int32.ofNat (o + i))), .val (.ref d), .val (.int (Int32.ofNat (q + i))), .val (.int (Int32.ofNat len)), .val (.int (Int32.ofNat i)), .val (.int (cv A (o + i)))] [])) := c4.trans (by
        refine XS.istoreS Xl.here hexec rfl (hb hbytes d13) rfl rfl hz ?_
        exact Steps.refl _)
      have c6 : Steps p.tables e below (s₁.setTop (entryFrame m #[.ref b, .int (Int32.ofNat o), .ref d, .int (Int32.ofNat q), .int (Int32.ofNat len)] 7)) (Tl.setTop (mkF m 31 #[.val (.ref b), .val (.int (Int32.ofNat (o + i))), .val (.ref d), .val (.int (Int32.ofNat (q + i))), .val (.int (Int32.ofNat len)), .val (.int (Int32.ofNat i)), .val (.int (cv A (o + i)))] [.int (lo8 (cv A (o + i))), .int (Int32.ofNat (q + i)), .ref d])) := c5.trans (by
        refine XS.iload Xl.here hexec rfl (hb hbytes d15) rfl ?_
        refine sipushV Xl.here hexec rfl 255 (hb hbytes d17) (by decide) ?_
        refine XS.icmpYes Xl.here hexec rfl (pc0 := 20) rfl (hb hbytes d20) rfl (ii_le_t (hp i (by omega))) (by decide) rfl ?_
        refine XS.aloadN Xl.here hexec rfl (hb hbytes d26) rfl rfl ?_
        refine XS.iloadN Xl.here hexec rfl (hb hbytes d27) rfl ?_
        refine XS.iload Xl.here hexec rfl (hb hbytes d28) rfl ?_
        refine i2b Xl.here hexec rfl (hb hbytes d30) rfl ?_
        exact Steps.refl _)
      obtain ⟨T7, X7, p7, st7⟩ := Xl.aput hexec hBk rfl hlt rfl (fits_lo8 (cv A (o + i))) (g := (mkF m 31 #[.val (.ref b), .val (.int (Int32.ofNat (o + i))), .val (.ref d), .val (.int (Int32.ofNat (q + i))), .val (.int (Int32.ofNat len)), .val (.int (Int32.ofNat i)), .val (.int (cv A (o + i)))] [.int (lo8 (cv A (o + i))), .int (Int32.ofNat (q + i)), .ref d])) rfl (rest := []) rfl (hb hbytes d31)
      have c8 : Steps p.tables e below (s₁.setTop (entryFrame m #[.ref b, .int (Int32.ofNat o), .ref d, .int (Int32.ofNat q), .int (Int32.ofNat len)] 7)) (T7.setTop (mkF m 32 #[.val (.ref b), .val (.int (Int32.ofNat (o + i))), .val (.ref d), .val (.int (Int32.ofNat (q + i))), .val (.int (Int32.ofNat len)), .val (.int (Int32.ofNat i)), .val (.int (cv A (o + i)))] [])) := c6.trans (st7 _ (Steps.refl _))
      have c9 : Steps p.tables e below (s₁.setTop (entryFrame m #[.ref b, .int (Int32.ofNat o), .ref d, .int (Int32.ofNat q), .int (Int32.ofNat len)] 7)) (T7.setTop (mkF m 3 #[.val (.ref b), .val (.int (Int32.ofNat (o + i) + 1)), .val (.ref d), .val (.int (Int32.ofNat (q + i) + 1)), .val (.int (Int32.ofNat len)), .val (.int (Int32.ofNat i + 1)), .val (.int (cv A (o + i)))] [])) := c8.trans (by
        refine iincV X7.here hexec rfl 1 (hb hbytes d32) (by decide) rfl rfl ?_
        refine iincV X7.here hexec rfl 1 (hb hbytes d35) (by decide) rfl rfl ?_
        refine iincV X7.here hexec rfl 1 (hb hbytes d38) (by decide) rfl rfl ?_
        refine XS.goto X7.here hexec rfl (pc0 := 41) rfl (hb hbytes d41) (by decide) rfl ?_
        exact Steps.refl _)
      have c10 : Steps p.tables e below (s₁.setTop (entryFrame m #[.ref b, .int (Int32.ofNat o), .ref d, .int (Int32.ofNat q), .int (Int32.ofNat len)] 7)) (T7.setTop (mkF m 3 #[.val (.ref b), .val (.int (Int32.ofNat (o + (i + 1)))), .val (.ref d), .val (.int (Int32.ofNat (q + (i + 1)))), .val (.int (Int32.ofNat len)), .val (.int (Int32.ofNat (i + 1))), .val (.int (cv A (o + i)))] [])) := by
        have := c9
        rw [succ32, succ32, succ32] at this
        exact this
      exact ih (i + 1) (by omega) _ (Or.inr ⟨_, rfl, rfl⟩) T7 _ (by rw [copyLocs_step, ← List.append_assoc]; exact X7) (pl.trans p7) (fl.step (by omega) hlt (by simp)) c10
  obtain ⟨T9, B9, z9, X9, p9, f9, g9⟩ := loop len 0 (by omega) .unset (Or.inl rfl) s₁ B (by simpa [copyLocs] using X0) ⟨hB0.1, fun _ _ => rfl, rfl⟩ (Laid.zero _ _ _) c2
  have c11 : Steps p.tables e below (s₁.setTop (entryFrame m #[.ref b, .int (Int32.ofNat o), .ref d, .int (Int32.ofNat q), .int (Int32.ofNat len)] 7)) (T9.setTop (mkF m 46 #[.val (.ref b), .val (.int (Int32.ofNat (o + len))), .val (.ref d), .val (.int (Int32.ofNat (q + len))), .val (.int (Int32.ofNat len)), .val (.int (Int32.ofNat len)), z9] [.int (Int32.ofNat len)])) := g9.trans (by
    refine XS.iload X9.here hexec rfl (hb hbytes d3) rfl ?_
    refine XS.iload X9.here hexec rfl (hb hbytes d5) rfl ?_
    refine XS.icmpYes X9.here hexec rfl (pc0 := 7) rfl (hb hbytes d7) rfl (ii_ge_t (nlt32 (by omega) (Nat.le_refl _))) (by decide) rfl ?_
    refine XS.iload X9.here hexec rfl (hb hbytes d44) rfl ?_
    exact Steps.refl _)
  exact ⟨T9, some (.int (Int32.ofNat len)), _, _, _, X9, by simp, rfl, rfl, (fun h => by cases h), ⟨rfl, B9, p9.from hh0, f9⟩, fun fs hl => c11.trans (X9.ireturnOut hexec hret rfl (Or.inl rfl) (hb hbytes d46) hl)⟩
end Cmp5
namespace Cmp3
def yN : MethodName := ⟨"java/lang/StringUTF16", "compress", "([CII)[B"⟩
abbrev yB : ByteArray := jdk_52_method_16_code
theorem d0 : decode yB 0 = .ok (.iload_n 2, 1) := by decide +kernel
theorem d1 : decode yB 1 = .ok (.newarray .byte, 2) := by decide +kernel
theorem d3 : decode yB 3 = .ok (.astore_n 3, 1) := by decide +kernel
theorem d4 : decode yB 4 = .ok (.aload_n 0, 1) := by decide +kernel
theorem d5 : decode yB 5 = .ok (.iload_n 1, 1) := by decide +kernel
theorem d6 : decode yB 6 = .ok (.aload_n 3, 1) := by decide +kernel
theorem d7 : decode yB 7 = .ok (.iconst 0, 1) := by decide +kernel
theorem d8 : decode yB 8 = .ok (.iload_n 2, 1) := by decide +kernel
theorem d9 : decode yB 9 = .ok (.invokestatic 115, 3) := by decide +kernel
theorem d12 : decode yB 12 = .ok (.istore 4, 2) := by decide +kernel
theorem d14 : decode yB 14 = .ok (.iload 4, 2) := by decide +kernel
theorem d16 : decode yB 16 = .ok (.iload_n 2, 1) := by decide +kernel
theorem d17 : decode yB 17 = .ok (.if_icmp (.eq) 40, 3) := by decide +kernel
theorem d57 : decode yB 57 = .ok (.aload_n 3, 1) := by decide +kernel
theorem d58 : decode yB 58 = .ok (.areturn, 1) := by decide +kernel
def site : List Cond := [.arrayClass .byte, Cmp5.tab] ++ staticW U16 115 Cmp5.yN
def tab : Cond := tabOf yN yB 6 (some (.array .byte)) site
def P (b : Addr) (A : Cell) (o len : Nat) (args : Array Value) (s : State) : Prop := args = #[.ref b, .int (Int32.ofNat o), .int (Int32.ofNat len)] ∧ Ch b A s ∧ o + len ≤ A.slots.size ∧ len ≤ 536870912 ∧ ∀ i, i < len → ¬ 255 < cv A (o + i)
def E (b : Addr) (A : Cell) (o len : Nat) (r : Option Value) (s u : State) : Prop := NewArr .byte "[B" len (fun j => .int (lo8 (cv A (o + j)))) r s u ∧ u.heap.size = s.heap.size + 1
/-- no char of the range above 255: a new byte[] of their low bytes -/
theorem law (l : Launch) (b : Addr) (A : Cell) (o len : Nat) : Law l yN 3 3 1 18 yB 6 (some (.array .byte)) site (P b A o len) (E b A o len) [] 1 len := by
  refine Law.of_walk (plainFor_of_name (by decide +kernel)) (by decide +kernel) (by decide +kernel) (by decide) (fun _ _ h => by rw [h.1]; rfl) (fun _ U U' hal hh h => ⟨h.1, h.2.1.mv hal hh, h.2.2⟩) (fun r U U' V V' h1 hal h2 h => ⟨NewArr.mv r U U' V V' h1 hal h2 h.1, by rw [h1, h2]; exact h.2⟩) ?_
  intro p e s m args below meth c s₁ X0 hexec hbytes hml hret hlk hnm hown hh0 W hP
  obtain ⟨rfl, hA, l1, l2, hp⟩ := hP
  have a31 := hA.1.2.2.2
  have c1 : Steps p.tables e below (s₁.setTop (entryFrame m #[.ref b, .int (Int32.ofNat o), .int (Int32.ofNat len)] 6)) (s₁.setTop (mkF m 0 #[.val (.ref b), .val (.int (Int32.ofNat o)), .val (.int (Int32.ofNat len)), .unset, .unset, .unset] [])) := entry rfl
  have c2 : Steps p.tables e below (s₁.setTop (entryFrame m #[.ref b, .int (Int32.ofNat o), .int (Int32.ofNat len)] 6)) (s₁.setTop (mkF m 1 #[.val (.ref b), .val (.int (Int32.ofNat o)), .val (.int (Int32.ofNat len)), .unset, .unset, .unset] [.int (Int32.ofNat len)])) := c1.trans (by
    refine XS.iloadN X0.here hexec rfl (hb hbytes d0) rfl ?_
    exact Steps.refl _)
  obtain ⟨T3, B3, X3, ba3, bs3, bv3, bh3, bf3, st3⟩ := X0.anew hexec (atype := .byte) (wk W (.arrayClass .byte)) rfl (by show len * 1 ≤ _; omega) (by omega) (g := (mkF m 1 #[.val (.ref b), .val (.int (Int32.ofNat o)), .val (.int (Int32.ofNat len)), .unset, .unset, .unset] [.int (Int32.ofNat len)])) rfl (hb hbytes d1) (rest := []) rfl (Nat.le_refl _) (by show 0 + len ≤ len; omega)
  rw [hh0] at ba3 st3
  have kp3 : XT.Kept s T3 := (XT.Kept.of_eq hh0).push bh3
  have hA3 := hA.keep X3.warmed.alike (kp3 _ _ hA.1.1)
  have hne : b ≠ s.heap.size := hA.1.ne
  have c4 : Steps p.tables e below (s₁.setTop (entryFrame m #[.ref b, .int (Int32.ofNat o), .int (Int32.ofNat len)] 6)) (T3.setTop (mkF m 3 #[.val (.ref b), .val (.int (Int32.ofNat o)), .val (.int (Int32.ofNat len)), .unset, .unset, .unset] [.ref s.heap.size])) := c2.trans (st3 _ (Steps.refl _))
  have c5 : Steps p.tables e below (s₁.setTop (entryFrame m #[.ref b, .int (Int32.ofNat o), .int (Int32.ofNat len)] 6)) (T3.setTop (mkF m 9 #[.val (.ref b), .val (.int (Int32.ofNat o)), .val (.int (Int32.ofNat len)), .val (.ref s.heap.size), .unset, .unset] [.int (Int32.ofNat len), .int 0, .ref s.heap.size, .int (Int32.ofNat o), .ref b])) := c4.trans (by
    refine XS.astoreN X3.here hexec rfl (hb hbytes d3) rfl rfl rfl ?_
    refine XS.aloadN X3.here hexec rfl (hb hbytes d4) rfl rfl ?_
    refine XS.iloadN X3.here hexec rfl (hb hbytes d5) rfl ?_
    refine XS.aloadN X3.here hexec rfl (hb hbytes d6) rfl rfl ?_
    refine iconstV X3.here hexec rfl 0 (hb hbytes d7) (by decide) ?_
    refine XS.iloadN X3.here hexec rfl (hb hbytes d8) rfl ?_
    exact Steps.refl _)
  obtain ⟨v6, T6, X6, E6, g6⟩ := X3.callS hexec (Cmp5.law l b A s.heap.size B3 o 0 len) hown (wks W (staticW U16 115 Cmp5.yN)) (wk W Cmp5.tab) (W := 0) (Nat.le_of_ble_eq_true rfl) (Nat.le_of_ble_eq_true rfl) (Nat.le_refl _) (by show 0 + len + 0 ≤ len; omega) (g := (mkF m 9 #[.val (.ref b), .val (.int (Int32.ofNat o)), .val (.int (Int32.ofNat len)), .val (.ref s.heap.size), .unset, .unset] [.int (Int32.ofNat len), .int (Int32.ofNat 0), .ref s.heap.size, .int (Int32.ofNat o), .ref b])) rfl (by rw [hml]; rfl) c5 (argsL := [.ref b, .int (Int32.ofNat o), .ref s.heap.size, .int (Int32.ofNat 0), .int (Int32.ofNat len)]) (rest := []) rfl rfl (by show 2 * 0 + 0 ≤ _; decide) (hb hbytes d9) (⟨rfl, hA3, ba3, hne, l1, by rw [bs3]; simp, hp⟩)
  obtain ⟨rfl, B6, p6, f6⟩ := E6
  have c7 : Steps p.tables e below (s₁.setTop (entryFrame m #[.ref b, .int (Int32.ofNat o), .int (Int32.ofNat len)] 6)) (T6.setTop (mkF m 12 #[.val (.ref b), .val (.int (Int32.ofNat o)), .val (.int (Int32.ofNat len)), .val (.ref s.heap.size), .unset, .unset] [.int (Int32.ofNat len)])) := g6
  have c8 : Steps p.tables e below (s₁.setTop (entryFrame m #[.ref b, .int (Int32.ofNat o), .int (Int32.ofNat len)] 6)) (T6.setTop (mkF m 58 #[.val (.ref b), .val (.int (Int32.ofNat o)), .val (.int (Int32.ofNat len)), .val (.ref s.heap.size), .val (.int (Int32.ofNat len)), .unset] [.ref s.heap.size])) := c7.trans (by
    refine XS.istore X6.here hexec rfl (hb hbytes d12) rfl rfl ?_
    refine XS.iload X6.here hexec rfl (hb hbytes d14) rfl ?_
    refine XS.iloadN X6.here hexec rfl (hb hbytes d16) rfl ?_
    refine XS.icmpYes X6.here hexec rfl (pc0 := 17) rfl (hb hbytes d17) rfl (ii_eq_t rfl) (by decide) rfl ?_
    refine XS.aloadN X6.here hexec rfl (hb hbytes d57) rfl rfl ?_
    exact Steps.refl _)
  have X8 := X6.wide (L' := []) (cells' := 1) (slots' := len) (fun x hx hlt => by
    simp only [List.nil_append, copyLocs, List.mem_map, List.mem_range] at hx
    obtain ⟨i, -, rfl⟩ := hx
    exact absurd hlt (Nat.lt_irrefl _)) (Nat.le_refl _) (by omega)
  exact ⟨T6, some (.ref s.heap.size), _, _, _, X8, rfl, rfl, rfl, (fun h => by cases h), ⟨⟨rfl, B6, ba3.like (X3.warmed.alike.symm.trans X6.warmed.alike) p6.1 f6.1 f6.2.1 f6.2.2.1, f6.2.1.trans bv3, by rw [X6.warmed.alike.findClass, f6.1]; exact bf3, by rw [f6.2.2.1, bs3]; simp, fun j hj => by rw [f6.2.2.2 j, if_pos (by omega)]; rfl, kp3.put p6 (Nat.le_refl _)⟩, by rw [p6.2.2, bh3, hh0]; simp⟩, fun fs hl => c8.trans (X8.areturnOut hexec rfl hret rfl (hb hbytes d58) hl)⟩
end Cmp3
namespace CodL
def yN : MethodName := ⟨"java/lang/StringUTF16", "coderFromArrayLen", "([BI)B"⟩
abbrev yB : ByteArray := jdk_52_method_15_code
theorem d0 : decode yB 0 = .ok (.iload_n 1, 1) := by decide +kernel
theorem d1 : decode yB 1 = .ok (.aload_n 0, 1) := by decide +kernel
theorem d2 : decode yB 2 = .ok (.arraylength, 1) := by decide +kernel
theorem d3 : decode yB 3 = .ok (.isub, 1) := by decide +kernel
theorem d4 : decode yB 4 = .ok (.bipush 31, 2) := by decide +kernel
theorem d6 : decode yB 6 = .ok (.iushr, 1) := by decide +kernel
theorem d7 : decode yB 7 = .ok (.i2b, 1) := by decide +kernel
theorem d8 : decode yB 8 = .ok (.ireturn, 1) := by decide +kernel
def site : List Cond := []
def tab : Cond := tabOf yN yB 2 (some .byte) site
def P (d : Addr) (B : Cell) (args : Array Value) (s : State) : Prop := args = #[.ref d, .int (Int32.ofNat B.slots.size)] ∧ Arr .byte d B s
def E (r : Option Value) (s u : State) : Prop := XT.PureE (some (.int 0)) r s u
/-- an array as long as the number of chars: LATIN1 -/
theorem law (l : Launch) (d : Addr) (B : Cell) : Law l yN 2 2 0 0 yB 2 (some .byte) site (P d B) E [] 0 0 := by
  refine Law.of_walk (plainFor_of_name (by decide +kernel)) (by decide +kernel) (by decide +kernel) (by decide) (fun _ _ h => by rw [h.1]; rfl) (fun _ U U' hal hh h => ⟨h.1, h.2.mv hal hh⟩) (fun r U U' V V' h1 hal h2 h => XT.PureE.mv r U U' V V' h1 hal h2 h) ?_
  intro p e s m args below meth c s₁ X0 hexec hbytes hml hret hlk hnm hown hh0 W hP
  obtain ⟨rfl, hB⟩ := hP
  have hB0 := hB.mv X0.warmed.alike hh0
  have c1 : Steps p.tables e below (s₁.setTop (entryFrame m #[.ref d, .int (Int32.ofNat B.slots.size)] 2)) (s₁.setTop (mkF m 0 #[.val (.ref d), .val (.int (Int32.ofNat B.slots.size))] [])) := entry rfl
  have c2 : Steps p.tables e below (s₁.setTop (entryFrame m #[.ref d, .int (Int32.ofNat B.slots.size)] 2)) (s₁.setTop (mkF m 2 #[.val (.ref d), .val (.int (Int32.ofNat B.slots.size))] [.ref d, .int (Int32.ofNat B.slots.size)])) := c1.trans (by
    refine XS.iloadN X0.here hexec rfl (hb hbytes d0) rfl ?_
    refine XS.aloadN X0.here hexec rfl (hb hbytes d1) rfl rfl ?_
    exact Steps.refl _)
  have c3 : Steps p.tables e below (s₁.setTop (entryFrame m #[.ref d, .int (Int32.ofNat B.slots.size)] 2)) (s₁.setTop (mkF m 8 #[.val (.ref d), .val (.int (Int32.ofNat B.slots.size))] [.int (lo8 (ushr (Int32.ofNat B.slots.size - Int32.ofNat B.slots.size) 31))])) := c2.trans (by
    refine X0.alen hexec hB0 rfl rfl (hb hbytes d2) ?_
    refine XS.isub X0.here hexec rfl (hb hbytes d3) rfl ?_
    refine bipushV X0.here hexec rfl 31 (hb hbytes d4) (by decide) ?_
    refine iushr X0.here hexec rfl (hb hbytes d6) rfl ?_
    refine i2b X0.here hexec rfl (hb hbytes d7) rfl ?_
    exact Steps.refl _)
  have e0 : lo8 (ushr (Int32.ofNat B.slots.size - Int32.ofNat B.slots.size) 31) = 0 := by rw [Int32.sub_self]; decide
  rw [e0] at c3
  exact ⟨s₁, some (.int 0), _, _, _, X0, rfl, rfl, rfl, (fun h => by cases h), ⟨rfl, hh0⟩, fun fs hl => c3.trans (X0.ireturnOut hexec hret rfl (Or.inr (Or.inr (Or.inl rfl))) (hb hbytes d8) hl)⟩
end CodL
/-- the String at a is Latin-1 over a new byte[] (the heap's one new cell): the low bytes of the len chars of A from o on; every cell but a is kept -/
def Got (a : Addr) (D : Cell) (fV fC : Field) (A : Cell) (o len : Nat) (r : Option Value) (s u : State) : Prop := r = none ∧ ∃ D' V : Cell, Blank "java/lang/String" a D' u ∧ Same D D' [fV.slot, fC.slot] ∧ D'.slots[fV.slot]? = some (.ref s.heap.size) ∧ D'.slots[fC.slot]? = some (.int 0) ∧ Arr .byte s.heap.size V u ∧ V.vm = .none ∧ u.vm.findClass "[B" = some V.cls ∧ V.slots.size = len ∧ (∀ j, j < len → V.slots[j]? = some (.int (lo8 (cv A (o + j))))) ∧ (∀ (y : Addr) (c : Cell), y ≠ a → s.heap[y]? = some c → u.heap[y]? = some c) ∧ u.heap.size = s.heap.size + 1
theorem Got.mv {a : Addr} {D A : Cell} {fV fC : Field} {o len : Nat} : ∀ r (U U' V V' : State), U'.heap = U.heap → V.vm.Alike V'.vm → V'.heap = V.heap → Got a D fV fC A o len r U V → Got a D fV fC A o len r U' V' :=
  fun r U U' V V' h1 hal h2 ⟨e0, D', X, a1, a2, a3, a4, a5, a6, a7, a8, a9, a10, a11⟩ => ⟨e0, D', X, a1.mv hal h2, a2, by rw [h1]; exact a3, a4, by rw [h1]; exact a5.mv hal h2, a6, by rw [hal.findClass]; exact a7, a8, a9, by rw [h1, h2]; exact a10, by rw [h1, h2]; exact a11⟩
namespace New4
def yN : MethodName := ⟨"java/lang/String", "<init>", "([CIILjava/lang/Void;)V"⟩
abbrev yB : ByteArray := jdk_42_method_149_code
theorem d0 : decode yB 0 = .ok (.aload_n 0, 1) := by decide +kernel
theorem d1 : decode yB 1 = .ok (.invokespecial 1, 3) := by decide +kernel
theorem d4 : decode yB 4 = .ok (.iload_n 3, 1) := by decide +kernel
theorem d5 : decode yB 5 = .ok (.ifCond (.ne) 22, 3) := by decide +kernel
theorem d27 : decode yB 27 = .ok (.getstatic 38, 3) := by decide +kernel
theorem d30 : decode yB 30 = .ok (.ifCond (.eq) 28, 3) := by decide +kernel
theorem d33 : decode yB 33 = .ok (.aload_n 1, 1) := by decide +kernel
theorem d34 : decode yB 34 = .ok (.iload_n 2, 1) := by decide +kernel
theorem d35 : decode yB 35 = .ok (.iload_n 3, 1) := by decide +kernel
theorem d36 : decode yB 36 = .ok (.invokestatic 177, 3) := by decide +kernel
theorem d39 : decode yB 39 = .ok (.astore 5, 2) := by decide +kernel
theorem d41 : decode yB 41 = .ok (.aload_n 0, 1) := by decide +kernel
theorem d42 : decode yB 42 = .ok (.aload 5, 2) := by decide +kernel
theorem d44 : decode yB 44 = .ok (.iload_n 3, 1) := by decide +kernel
theorem d45 : decode yB 45 = .ok (.invokestatic 47, 3) := by decide +kernel
theorem d48 : decode yB 48 = .ok (.putfield 15, 3) := by decide +kernel
theorem d51 : decode yB 51 = .ok (.aload_n 0, 1) := by decide +kernel
theorem d52 : decode yB 52 = .ok (.aload 5, 2) := by decide +kernel
theorem d54 : decode yB 54 = .ok (.putfield 9, 3) := by decide +kernel
theorem d57 : decode yB 57 = .ok (.return_, 1) := by decide +kernel
def site : List Cond := [.fieldLink "java/lang/String" 38 "java/lang/String" "COMPACT_STRINGS" "Z", Cmp3.tab, CodL.tab, .laysFinal "java/lang/String" "java/lang/String" "value" "[B", .fieldLink "java/lang/String" 9 "java/lang/String" "value" "[B", .laysFinal "java/lang/String" "java/lang/String" "coder" "B", .fieldLink "java/lang/String" 15 "java/lang/String" "coder" "B"] ++ objW "java/lang/String" 1 ++ staticW "java/lang/String" 177 Cmp3.yN ++ staticW "java/lang/String" 47 CodL.yN
def tab : Cond := tabOf yN yB 6 none site
def P (a : Addr) (D : Cell) (fV fC : Field) (b : Addr) (A : Cell) (z : Int32) (o len : Nat) (args : Array Value) (s : State) : Prop := args = #[.ref a, .ref b, .int (Int32.ofNat o), .int (Int32.ofNat len), .null] ∧ Blank "java/lang/String" a D s ∧ Found "java/lang/String" "value" "[B" fV s ∧ Found "java/lang/String" "coder" "B" fC s ∧ Ch b A s ∧ StaticIs s "java/lang/String" "COMPACT_STRINGS" "Z" (.int z) ∧ ¬ z = 0 ∧ 0 < len ∧ o + len ≤ A.slots.size ∧ len ≤ 536870912 ∧ ∀ i, i < len → ¬ 255 < cv A (o + i)
def E (a : Addr) (D : Cell) (fV fC : Field) (A : Cell) (o len : Nat) (r : Option Value) (s u : State) : Prop := Got a D fV fC A o len r s u
/-- len > 0, no char of the range above 255: a Latin-1 String of their low bytes -/
theorem law (l : Launch) (a : Addr) (D : Cell) (fV fC : Field) (b : Addr) (A : Cell) (z : Int32) (o len : Nat) : Law l yN 5 4 2 35 yB 6 none site (P a D fV fC b A z o len) (E a D fV fC A o len) [⟨a, fC.slot⟩, ⟨a, fV.slot⟩] 1 len := by
  refine Law.of_walk (plainFor_of_name (by decide +kernel)) (by decide +kernel) (by decide +kernel) (by decide) (fun _ _ h => by rw [h.1]; rfl) (fun _ U U' hal hh h => ⟨h.1, h.2.1.mv hal hh, h.2.2.1.al hal, h.2.2.2.1.al hal, h.2.2.2.2.1.mv hal hh, h.2.2.2.2.2.1.there hal hh, h.2.2.2.2.2.2⟩) (fun r U U' V V' h1 hal h2 h => Got.mv r U U' V V' h1 hal h2 h) ?_
  intro p e s m args below meth c s₁ X0 hexec hbytes hml hret hlk hnm hown hh0 W hP
  obtain ⟨rfl, hB, f1, f2, hA, s1, hz, l0, l1, l2, hp⟩ := hP
  have a31 := hA.1.2.2.2
  have c1 : Steps p.tables e below (s₁.setTop (entryFrame m #[.ref a, .ref b, .int (Int32.ofNat o), .int (Int32.ofNat len), .null] 6)) (s₁.setTop (mkF m 0 #[.val (.ref a), .val (.ref b), .val (.int (Int32.ofNat o)), .val (.int (Int32.ofNat len)), .val .null, .unset] [])) := entry rfl
  have c2 : Steps p.tables e below (s₁.setTop (entryFrame m #[.ref a, .ref b, .int (Int32.ofNat o), .int (Int32.ofNat len), .null] 6)) (s₁.setTop (mkF m 1 #[.val (.ref a), .val (.ref b), .val (.int (Int32.ofNat o)), .val (.int (Int32.ofNat len)), .val .null, .unset] [.ref a])) := c1.trans (by
    refine XS.aloadN X0.here hexec rfl (hb hbytes d0) rfl rfl ?_
    exact Steps.refl _)
  obtain ⟨T3, X3, q3, st3⟩ := X0.oinit hexec hown (wks W (objW "java/lang/String" 1)) (g := (mkF m 1 #[.val (.ref a), .val (.ref b), .val (.int (Int32.ofNat o)), .val (.int (Int32.ofNat len)), .val .null, .unset] [.ref a])) rfl (by rw [hml]; rfl) (rest := []) rfl (hb hbytes d1) (W := 0) (by show 2 * 0 + 0 ≤ _; decide) (Nat.le_of_ble_eq_true rfl) (Nat.le_of_ble_eq_true rfl)
  have hh3 := q3.trans hh0
  have c4 : Steps p.tables e below (s₁.setTop (entryFrame m #[.ref a, .ref b, .int (Int32.ofNat o), .int (Int32.ofNat len), .null] 6)) (T3.setTop (mkF m 27 #[.val (.ref a), .val (.ref b), .val (.int (Int32.ofNat o)), .val (.int (Int32.ofNat len)), .val .null, .unset] [])) := (c2.trans (st3 _ (Steps.refl _))).trans (by
    refine XS.iloadN X3.here hexec rfl (hb hbytes d4) rfl ?_
    refine XS.ifYes X3.here hexec rfl (pc0 := 5) rfl (hb hbytes d5) rfl (i0_ne_t (nz32 (by omega) l0)) (by decide) rfl ?_
    exact Steps.refl _)
  obtain ⟨T5, X5, q5, st5⟩ := X3.sget hexec hown (wk W (.fieldLink "java/lang/String" 38 "java/lang/String" "COMPACT_STRINGS" "Z")) s1 (fun _ _ h => by rw [hh3]; exact h) (g := (mkF m 27 #[.val (.ref a), .val (.ref b), .val (.int (Int32.ofNat o)), .val (.int (Int32.ofNat len)), .val .null, .unset] [])) rfl (hb hbytes d27)
  have hh5 := q5.trans hh3
  have c6 : Steps p.tables e below (s₁.setTop (entryFrame m #[.ref a, .ref b, .int (Int32.ofNat o), .int (Int32.ofNat len), .null] 6)) (T5.setTop (mkF m 30 #[.val (.ref a), .val (.ref b), .val (.int (Int32.ofNat o)), .val (.int (Int32.ofNat len)), .val .null, .unset] [.int z])) := c4.trans (st5 _ (Steps.refl _))
  have c7 : Steps p.tables e below (s₁.setTop (entryFrame m #[.ref a, .ref b, .int (Int32.ofNat o), .int (Int32.ofNat len), .null] 6)) (T5.setTop (mkF m 36 #[.val (.ref a), .val (.ref b), .val (.int (Int32.ofNat o)), .val (.int (Int32.ofNat len)), .val .null, .unset] [.int (Int32.ofNat len), .int (Int32.ofNat o), .ref b])) := c6.trans (by
    refine XS.ifNo X5.here hexec rfl (hb hbytes d30) rfl (i0_eq_f hz) ?_
    refine XS.aloadN X5.here hexec rfl (hb hbytes d33) rfl rfl ?_
    refine XS.iloadN X5.here hexec rfl (hb hbytes d34) rfl ?_
    refine XS.iloadN X5.here hexec rfl (hb hbytes d35) rfl ?_
    exact Steps.refl _)
  obtain ⟨v8, T8, X8, E8, g8⟩ := X5.callS hexec (Cmp3.law l b A o len) hown (wks W (staticW "java/lang/String" 177 Cmp3.yN)) (wk W Cmp3.tab) (W := 0) (Nat.le_of_ble_eq_true rfl) (Nat.le_of_ble_eq_true rfl) (Nat.le_refl _) (by show 0 + len ≤ len; omega) (g := (mkF m 36 #[.val (.ref a), .val (.ref b), .val (.int (Int32.ofNat o)), .val (.int (Int32.ofNat len)), .val .null, .unset] [.int (Int32.ofNat len), .int (Int32.ofNat o), .ref b])) rfl (by rw [hml]; rfl) c7 (argsL := [.ref b, .int (Int32.ofNat o), .int (Int32.ofNat len)]) (rest := []) rfl rfl (by show 2 * 0 + 0 ≤ _; decide) (hb hbytes d36) (⟨rfl, hA.mv X5.warmed.alike hh5, l1, l2, hp⟩)
  obtain ⟨e8, z8⟩ := E8
  obtain ⟨rfl, N, n1, n2, n3, n4, n5, n6⟩ := NewArr.mv _ T5 s _ _ hh5.symm (Vm.Alike.refl _) rfl e8
  rw [hh5] at z8
  have hB1 := hB.keep X8.warmed.alike (n6 _ _ hB.1)
  have hne : s.heap.size ≠ a := (Nat.ne_of_lt (Array.getElem?_eq_some_iff.mp hB.1).1).symm
  have c9 : Steps p.tables e below (s₁.setTop (entryFrame m #[.ref a, .ref b, .int (Int32.ofNat o), .int (Int32.ofNat len), .null] 6)) (T8.setTop (mkF m 39 #[.val (.ref a), .val (.ref b), .val (.int (Int32.ofNat o)), .val (.int (Int32.ofNat len)), .val .null, .unset] [.ref s.heap.size])) := g8
  have c10 : Steps p.tables e below (s₁.setTop (entryFrame m #[.ref a, .ref b, .int (Int32.ofNat o), .int (Int32.ofNat len), .null] 6)) (T8.setTop (mkF m 45 #[.val (.ref a), .val (.ref b), .val (.int (Int32.ofNat o)), .val (.int (Int32.ofNat len)), .val .null, .val (.ref s.heap.size)] [.int (Int32.ofNat N.slots.size), .ref s.heap.size, .ref a])) := by
    have hc : Steps p.tables e below (s₁.setTop (entryFrame m #[.ref a, .ref b, .int (Int32.ofNat o), .int (Int32.ofNat len), .null] 6)) (T8.setTop (mkF m 45 #[.val (.ref a), .val (.ref b), .val (.int (Int32.ofNat o)), .val (.int (Int32.ofNat len)), .val .null, .val (.ref s.heap.size)] [.int (Int32.ofNat len), .ref s.heap.size, .ref a])) := c9.trans (by
      refine XS.astore X8.here hexec rfl (hb hbytes d39) rfl rfl rfl ?_
      refine XS.aloadN X8.here hexec rfl (hb hbytes d41) rfl rfl ?_
      refine XS.aload X8.here hexec rfl (hb hbytes d42) rfl rfl ?_
      refine XS.iloadN X8.here hexec rfl (hb hbytes d44) rfl ?_
      exact Steps.refl _)
    rw [n4]; exact hc
  obtain ⟨v11, T11, X11, E11, g11⟩ := X8.callS hexec (CodL.law l s.heap.size N) hown (wks W (staticW "java/lang/String" 47 CodL.yN)) (wk W CodL.tab) (W := 1) (Nat.le_of_ble_eq_true rfl) (Nat.le_of_ble_eq_true rfl) (Nat.le_refl _) (by show 0 + len + 0 ≤ len; omega) (g := (mkF m 45 #[.val (.ref a), .val (.ref b), .val (.int (Int32.ofNat o)), .val (.int (Int32.ofNat len)), .val .null, .val (.ref s.heap.size)] [.int (Int32.ofNat N.slots.size), .ref s.heap.size, .ref a])) rfl (by rw [hml]; rfl) c10 (argsL := [.ref s.heap.size, .int (Int32.ofNat N.slots.size)]) (rest := [.ref a]) rfl rfl (by show 2 * 0 + (1 + 0) ≤ _; decide) (hb hbytes d45) (⟨rfl, n1⟩)
  obtain ⟨rfl, q11⟩ := E11
  have hB11 := hB1.mv (X8.warmed.alike.symm.trans X11.warmed.alike) q11
  have c12 : Steps p.tables e below (s₁.setTop (entryFrame m #[.ref a, .ref b, .int (Int32.ofNat o), .int (Int32.ofNat len), .null] 6)) (T11.setTop (mkF m 48 #[.val (.ref a), .val (.ref b), .val (.int (Int32.ofNat o)), .val (.int (Int32.ofNat len)), .val .null, .val (.ref s.heap.size)] [.int 0, .ref a])) := g11
  obtain ⟨T13, X13, p13, bl13, sl13, st13⟩ := X11.finit hexec hown (wk W (.fieldLink "java/lang/String" 15 "java/lang/String" "coder" "B")) (Or.inr ⟨_, (wk W (.laysFinal "java/lang/String" "java/lang/String" "coder" "B"))⟩) (Or.inl ⟨rfl, hnm⟩) f2 (Or.inl rfl) hB11 (t := .byte) (by decide +kernel) rfl (g := (mkF m 48 #[.val (.ref a), .val (.ref b), .val (.int (Int32.ofNat o)), .val (.int (Int32.ofNat len)), .val .null, .val (.ref s.heap.size)] [.int 0, .ref a])) rfl (rest := []) rfl (hb hbytes d48)
  have c14 : Steps p.tables e below (s₁.setTop (entryFrame m #[.ref a, .ref b, .int (Int32.ofNat o), .int (Int32.ofNat len), .null] 6)) (T13.setTop (mkF m 54 #[.val (.ref a), .val (.ref b), .val (.int (Int32.ofNat o)), .val (.int (Int32.ofNat len)), .val .null, .val (.ref s.heap.size)] [.ref s.heap.size, .ref a])) := (c12.trans (st13 _ (Steps.refl _))).trans (by
    refine XS.aloadN X13.here hexec rfl (hb hbytes d51) rfl rfl ?_
    refine XS.aload X13.here hexec rfl (hb hbytes d52) rfl rfl ?_
    exact Steps.refl _)
  obtain ⟨T15, X15, p15, bl15, sl15, st15⟩ := X13.finit hexec hown (wk W (.fieldLink "java/lang/String" 9 "java/lang/String" "value" "[B")) (Or.inr ⟨_, (wk W (.laysFinal "java/lang/String" "java/lang/String" "value" "[B"))⟩) (Or.inl ⟨rfl, hnm⟩) f1 (Or.inl rfl) bl13 (t := (.array .byte)) (by decide +kernel) rfl (g := (mkF m 54 #[.val (.ref a), .val (.ref b), .val (.int (Int32.ofNat o)), .val (.int (Int32.ofNat len)), .val .null, .val (.ref s.heap.size)] [.ref s.heap.size, .ref a])) rfl (rest := []) rfl (hb hbytes d54)
  have c16 : Steps p.tables e below (s₁.setTop (entryFrame m #[.ref a, .ref b, .int (Int32.ofNat o), .int (Int32.ofNat len), .null] 6)) (T15.setTop (mkF m 57 #[.val (.ref a), .val (.ref b), .val (.int (Int32.ofNat o)), .val (.int (Int32.ofNat len)), .val .null, .val (.ref s.heap.size)] [])) := c14.trans (st15 _ (Steps.refl _))
  have ap := apart (Or.inr ⟨_, (wk W (.laysFinal "java/lang/String" "java/lang/String" "value" "[B"))⟩) (Or.inr ⟨_, (wk W (.laysFinal "java/lang/String" "java/lang/String" "coder" "B"))⟩) f1 f2 (t₁ := .array .byte) (t₂ := .byte) (by decide +kernel) (by decide +kernel) (by decide)
  have al := X8.warmed.alike.symm.trans X15.warmed.alike
  have n7 : T11.heap[s.heap.size]? = some N := by rw [q11]; exact n1.1
  exact ⟨T15, none, _, _, _, X15, by simp, rfl, by omega, (fun _ => rfl), ⟨rfl, _, N, bl15, ((Same.refl D _).set _ (by simp)).set _ (by simp), sl15, (Cell.slots_setSlot_ne _ ap).trans sl13, n1.keep al (p15.other hne (p13.other hne n7)), n2, by rw [al.findClass]; exact n3, n4, n5, fun y c h1 h2 => p15.other h1 (p13.other h1 (by rw [q11]; exact n6 y c h2)), by rw [p15.2.2, p13.2.2, q11]; exact z8⟩, fun fs hl => c16.trans (X15.returnOut hexec hret (hb hbytes d57) hl)⟩
end New4
namespace New1
def yN : MethodName := ⟨"java/lang/String", "<init>", "([C)V"⟩
abbrev yB : ByteArray := jdk_42_method_3_code
theorem d0 : decode yB 0 = .ok (.aload_n 0, 1) := by decide +kernel
theorem d1 : decode yB 1 = .ok (.aload_n 1, 1) := by decide +kernel
theorem d2 : decode yB 2 = .ok (.iconst 0, 1) := by decide +kernel
theorem d3 : decode yB 3 = .ok (.aload_n 1, 1) := by decide +kernel
theorem d4 : decode yB 4 = .ok (.arraylength, 1) := by decide +kernel
theorem d5 : decode yB 5 = .ok (.aconst_null, 1) := by decide +kernel
theorem d6 : decode yB 6 = .ok (.invokespecial 27, 3) := by decide +kernel
theorem d9 : decode yB 9 = .ok (.return_, 1) := by decide +kernel
def site : List Cond := [New4.tab] ++ initW "java/lang/String" 27 New4.yN
def tab : Cond := tabOf yN yB 2 none site
def P (a : Addr) (D : Cell) (fV fC : Field) (b : Addr) (A : Cell) (z : Int32) (args : Array Value) (s : State) : Prop := args = #[.ref a, .ref b] ∧ Blank "java/lang/String" a D s ∧ Found "java/lang/String" "value" "[B" fV s ∧ Found "java/lang/String" "coder" "B" fC s ∧ Ch b A s ∧ StaticIs s "java/lang/String" "COMPACT_STRINGS" "Z" (.int z) ∧ ¬ z = 0 ∧ 0 < A.slots.size ∧ A.slots.size ≤ 536870912 ∧ ∀ i, i < A.slots.size → ¬ 255 < cv A i
def E (a : Addr) (D : Cell) (fV fC : Field) (A : Cell) (r : Option Value) (s u : State) : Prop := Got a D fV fC A 0 A.slots.size r s u
/-- new String(chars), not empty, no char above 255: a Latin-1 String of their low bytes -/
theorem law (l : Launch) (a : Addr) (D : Cell) (fV fC : Field) (b : Addr) (A : Cell) (z : Int32) : Law l yN 2 1 3 52 yB 2 none site (P a D fV fC b A z) (E a D fV fC A) [⟨a, fC.slot⟩, ⟨a, fV.slot⟩] 1 A.slots.size := by
  refine Law.of_walk (plainFor_of_name (by decide +kernel)) (by decide +kernel) (by decide +kernel) (by decide) (fun _ _ h => by rw [h.1]; rfl) (fun _ U U' hal hh h => ⟨h.1, h.2.1.mv hal hh, h.2.2.1.al hal, h.2.2.2.1.al hal, h.2.2.2.2.1.mv hal hh, h.2.2.2.2.2.1.there hal hh, h.2.2.2.2.2.2⟩) (fun r U U' V V' h1 hal h2 h => Got.mv r U U' V V' h1 hal h2 h) ?_
  intro p e s m args below meth c s₁ X0 hexec hbytes hml hret hlk hnm hown hh0 W hP
  obtain ⟨rfl, hB, f1, f2, hA, s1, hz, l0, l2, hp⟩ := hP
  have c1 : Steps p.tables e below (s₁.setTop (entryFrame m #[.ref a, .ref b] 2)) (s₁.setTop (mkF m 0 #[.val (.ref a), .val (.ref b)] [])) := entry rfl
  have c2 : Steps p.tables e below (s₁.setTop (entryFrame m #[.ref a, .ref b] 2)) (s₁.setTop (mkF m 6 #[.val (.ref a), .val (.ref b)] [.null, .int (Int32.ofNat A.slots.size), .int 0, .ref b, .ref a])) := c1.trans (by
    refine XS.aloadN X0.here hexec rfl (hb hbytes d0) rfl rfl ?_
    refine XS.aloadN X0.here hexec rfl (hb hbytes d1) rfl rfl ?_
    refine iconstV X0.here hexec rfl 0 (hb hbytes d2) (by decide) ?_
    refine XS.aloadN X0.here hexec rfl (hb hbytes d3) rfl rfl ?_
    refine X0.alen hexec (hA.1.mv X0.warmed.alike hh0) rfl rfl (hb hbytes d4) ?_
    refine XS.aconstNull X0.here hexec rfl (hb hbytes d5) ?_
    exact Steps.refl _)
  obtain ⟨v3, T3, X3, E3, g3⟩ := X0.callN hexec (New4.law l a D fV fC b A z 0 A.slots.size) rfl hown (wks W (initW "java/lang/String" 27 New4.yN)) (W New4.tab (by simp only [site, List.mem_cons, List.mem_append, true_or, or_true])) (W := 0) (Nat.le_of_ble_eq_true rfl) (Nat.le_of_ble_eq_true rfl) (Nat.le_refl _) (by show 0 + A.slots.size ≤ A.slots.size; omega) (g := (mkF m 6 #[.val (.ref a), .val (.ref b)] [.null, .int (Int32.ofNat A.slots.size), .int (Int32.ofNat 0), .ref b, .ref a])) rfl (by rw [hml]; rfl) c2 (argsL := [.ref b, .int (Int32.ofNat 0), .int (Int32.ofNat A.slots.size), .null]) (rest := []) rfl rfl (by show 2 * 0 + 0 ≤ _; decide) (hb hbytes d6) (⟨rfl, hB.mv X0.warmed.alike hh0, f1.al X0.warmed.alike, f2.al X0.warmed.alike, hA.mv X0.warmed.alike hh0, s1.there X0.warmed.alike hh0, hz, l0, by omega, l2, fun i hi => by rw [Nat.zero_add]; exact hp i hi⟩)
  have e0 := Got.mv _ s₁ s _ _ hh0.symm (Vm.Alike.refl _) rfl E3
  obtain rfl := e0.1
  have c4 : Steps p.tables e below (s₁.setTop (entryFrame m #[.ref a, .ref b] 2)) (T3.setTop (mkF m 9 #[.val (.ref a), .val (.ref b)] [])) := g3
  exact ⟨T3, none, _, _, _, X3, by simp, rfl, by omega, (fun _ => rfl), e0, fun fs hl => c4.trans (X3.returnOut hexec hret (hb hbytes d9) hl)⟩
theorem pays {l : Launch} {R : Room} {p : Program} {e : Env} {below : List Frame} {s : State} {sargs : Array Value} {len W : Nat} (a : Addr) (D : Cell) (fV fC : Field) (b : Addr) (A : Cell) (z : Int32) (htab : tab.before sargs s = true) (hfr : 4 ≤ R.frames) (hlo : W + 65 ≤ R.locals) :
    Back l R p e below s sargs yN len W (fun A₁ a₁ => A₁.cells + 1 ≤ R.cells ∧ A₁.slots + A.slots.size ≤ R.slots ∧ P a D fV fC b A z a₁ A₁.U) (fun A₁ _ v₁ B₁ => E a D fV fC A v₁ A₁.U B₁.U ∧ B₁.locs = A₁.locs ++ [⟨a, fC.slot⟩, ⟨a, fV.slot⟩] ∧ B₁.cells = A₁.cells + 1 ∧ B₁.slots = A₁.slots + A.slots.size) :=
  (law l a D fV fC b A z).pays htab hfr (by omega)
end New1
end StrChars
namespace StrChars.Road
open Jvm Sem ClassFile Op Lib Jvm.Stand Jvm.Free Jvm.Free.XT
open Jvm.Lib.Cold (StaticIs)
abbrev ST : String := "java/lang/String"
/-- every table word that New1's law asks, flat -/
abbrev words : List Jvm.Cond := [.code New1.yN New1.yB 2 none, .initialized ST, .methodLink ST 27 New4.yN, .instanceMethod New4.yN,
  .code New4.yN New4.yB 6 none, .fieldLink ST 38 ST "COMPACT_STRINGS" "Z", .laysFinal ST ST "value" "[B", .fieldLink ST 9 ST "value" "[B", .laysFinal ST ST "coder" "B", .fieldLink ST 15 ST "coder" "B",
  .methodLink ST 1 Lib.objectInit, .instanceMethod Lib.objectInit, .code Lib.objectInit ⟨#[0xb1]⟩ 1 none, .methodLink ST 177 Cmp3.yN, .static Cmp3.yN, .methodLink ST 47 CodL.yN, .static CodL.yN,
  .code Cmp3.yN Cmp3.yB 6 (some (.array .byte)), .initialized U16, .arrayClass .byte, .methodLink U16 115 Cmp5.yN, .static Cmp5.yN, .code Cmp5.yN Cmp5.yB 7 (some .int), .code CodL.yN CodL.yB 2 (some .byte)]
theorem tab_of {a : Array Value} {s : State} (h : ∀ w ∈ words, w.before a s = true) : New1.tab.before a s = true := by
  have h5 : Cmp5.tab.before a s = true := unparts (wk h (.code Cmp5.yN Cmp5.yB 7 (some .int))) (wks h (.initialized Cmp5.yN.cls :: Cmp5.site))
  have hc : CodL.tab.before a s = true := unparts (wk h (.code CodL.yN CodL.yB 2 (some .byte))) (wks h (.initialized CodL.yN.cls :: CodL.site))
  have q5 : ∀ w ∈ Cmp5.tab :: words, w.before a s = true := fun w hw => (List.mem_cons.mp hw).elim (fun e => e ▸ h5) (h w)
  have h3 : Cmp3.tab.before a s = true := unparts (wk q5 (.code Cmp3.yN Cmp3.yB 6 (some (.array .byte)))) (wks q5 (.initialized Cmp3.yN.cls :: Cmp3.site))
  have q3 : ∀ w ∈ Cmp3.tab :: CodL.tab :: words, w.before a s = true := fun w hw => (List.mem_cons.mp hw).elim (fun e => e ▸ h3) fun hw => (List.mem_cons.mp hw).elim (fun e => e ▸ hc) (h w)
  have h4 : New4.tab.before a s = true := unparts (wk q3 (.code New4.yN New4.yB 6 none)) (wks q3 (.initialized New4.yN.cls :: New4.site))
  have q4 : ∀ w ∈ New4.tab :: words, w.before a s = true := fun w hw => (List.mem_cons.mp hw).elim (fun e => e ▸ h4) (h w)
  exact unparts (wk q4 (.code New1.yN New1.yB 2 none)) (wks q4 (.initialized New1.yN.cls :: New1.site))
/-- the words ride from the start Z to the walk's own state -/
theorem moved {Z s : State} {a0 args : Array Value} (hZ : Z.Warmed39 s.vm) (hw : ∀ d ∈ words, d.before a0 Z = true) : ∀ d ∈ words, d.before args s = true := fun d hd => by
  have q := hw d hd
  have t : ∀ d ∈ words, d = .arrayClass .byte ∨ (d.onTables && d.keepsFace) = true := by decide +kernel
  rcases t d hd with rfl | t
  · exact RoadKit.mvA hZ q
  · exact RoadKit.mv hZ q t
/-- WHAT COMES BACK, over the tables of the start Z: h the heap at the call, h' behind it -/
def Q (Z : State) (x : Addr) (A : Cell) (h : Heap) (v : Option Value) (h' : Heap) (L : List Loc) : Prop := v = none ∧ (∀ y ∈ L, y.base = x) ∧ RoadKit.Keep h h' [x] ∧ h'.size = h.size + 1 ∧ RoadKit.Exa Z h' x ST ∧ RoadKit.Fld Z h' x ST "value" "[B" (.ref h.size) ∧ RoadKit.Fld Z h' x ST "coder" "B" (.int 0) ∧
  (∃ V : Cell, RoadKit.Arr Z h' h.size V .byte ∧ V.vm = .none ∧ Z.vm.findClass "[B" = some V.cls ∧ V.slots.size = A.slots.size ∧ ∀ j, j < A.slots.size → V.slots[j]? = some (.int (lo8 (cv A j)))) ∧
  ∀ (O n d : String) (w : Value), RoadKit.Fld Z h x O n d w → RoadKit.slotOf Z O n d ≠ RoadKit.slotOf Z ST "value" "[B" → RoadKit.slotOf Z O n d ≠ RoadKit.slotOf Z ST "coder" "B" → RoadKit.Fld Z h' x O n d w
/-- **new String(chars) AT A CALL, IN THE ROAD'S FORM**: for specialBack behind newO: x the fresh String, b the char[] with the cell A -/
theorem back {p : Program} {l : Launch} {e : Env} {R : Room} {s : State} {args : Array Value} {below : List Frame} {len W : Nat} {Z : State} {a0 : Array Value} {h : Heap} (hZ : Z.Warmed39 s.vm) (hw : ∀ d ∈ words, d.before a0 Z = true) {kI : Nat} (wi : (Jvm.Cond.instantiable ST kI).before a0 Z = true)
    {x b : Addr} {A : Cell} {z : Int32} {v0 c0 : Value} (E : RoadKit.Exa Z h x ST) (V : RoadKit.Fld Z h x ST "value" "[B" v0) (C : RoadKit.Fld Z h x ST "coder" "B" c0) (K : RoadKit.Arr Z h b A .char) (hty : Typed .char A) (S : RoadKit.Sta Z h ST "COMPACT_STRINGS" "Z" (.int z)) (hz : ¬ z = 0)
    (l0 : 0 < A.slots.size) (l2 : A.slots.size ≤ 536870912) (hp : ∀ i, i < A.slots.size → ¬ 255 < cv A i) (hfr : 4 ≤ R.frames) (hlo : W + 65 ≤ R.locals) :
    Back l R p e below s args New1.yN len W (fun P a => a = #[.ref x, .ref b] ∧ P.U.heap = h ∧ P.cells + 1 ≤ R.cells ∧ P.slots + A.slots.size ≤ R.slots)
      (fun P _ v B => ∃ L, Q Z x A h v B.U.heap L ∧ B.locs = P.locs ++ L ∧ B.cells = P.cells + 1 ∧ B.slots = P.slots + A.slots.size) := by
  intro m meth c P g ig mk a X hg hsize hdg hW hn hp'
  obtain ⟨rfl, rfl, r1, r2⟩ := hp'
  have al : Z.vm.Alike P.U.vm := hZ.alike.trans X.warmed.alike
  obtain ⟨D, cfV, kV, iV, fV, hD, gV, stV, knV, obV, asV, slV⟩ := id V
  obtain ⟨D', cfC, kC, iC, fC, hD', gC, stC, -, -, asC, slC⟩ := id C
  cases hD.symm.trans hD'
  obtain ⟨D2, kD, e1, e2, e3, e4, e5⟩ := id E
  cases hD.symm.trans e1
  obtain ⟨c2, k2, i1, i2, i3, -⟩ := Cond.instantiable_spec wi
  cases e2.symm.trans i1
  cases e3.symm.trans i2
  obtain ⟨kU, u1, u2⟩ := al.2.2 _ _ e3
  have hB : Blank ST x D P.U := ⟨hD, ⟨knV, fun q hq => by rw [hq] at obV; cases obV⟩, by rw [al.findClass]; exact e2, kU, u1, by rw [u2]; exact i3, by rw [u2]; exact e5 i3⟩
  have F1 : Found ST "value" "[B" fV P.U := ⟨SBG.found_only al ⟨cfV, kV, iV, gV⟩, stV⟩
  have F2 : Found ST "coder" "B" fC P.U := ⟨SBG.found_only al ⟨cfC, kC, iC, gC⟩, stC⟩
  have hA : Ch b A P.U := ⟨⟨K.1, State.isArrayOf_alike al K.2.1, K.2.2, by omega⟩, hty⟩
  have hS : StaticIs P.U ST "COMPACT_STRINGS" "Z" (.int z) := by
    obtain ⟨cfS, iS, kS, fS, st, cS, t1, t2, t3, t4, t5, t6, t7⟩ := S
    exact StaticIs.there (s := { Z with heap := P.U.heap }) ⟨cfS, iS, kS, fS, st, cS, t1, t2, t3, t4, t5, (fun q => by rw [q] at t6; cases t6), t7⟩ al rfl
  obtain ⟨v, B, X', ⟨⟨hv, E', V', q1, q2, q3, q4, q5, q6, q7, q8, q9, q10, q11⟩, hl, hc, hs⟩, st⟩ := New1.pays x D fV fC b A z (tab_of (moved hZ hw)) hfr hlo m meth c P g ig mk _ X hg hsize hdg hW hn ⟨r1, r2, rfl, hB, F1, F2, hA, hS, hz, l0, l2, hp⟩
  have al' : Z.vm.Alike B.U.vm := hZ.alike.trans X'.warmed.alike
  have hsz : E'.slots.size = D.slots.size := by
    obtain ⟨-, -, -, kB, w1, w2, w3⟩ := q1
    obtain ⟨kB', y1, y2⟩ := al'.2.2 _ _ e3
    rw [q2.2.1] at w1
    cases w1.symm.trans y1
    rw [w3, e5 i3, y2]
  refine ⟨v, B, X', ⟨_, ⟨hv, ?_, ⟨by omega, fun y cy hy hn' => q10 y cy (by simpa using hn') hy, fun y cy hy => ?_⟩, q11, ⟨E', _, q1.1, by rw [q2.2.1]; exact e2, by rw [q2.2.1]; exact e3, by rw [q2.1]; exact obV, fun _ => by rw [hsz]; exact e5 i3⟩,
    ⟨E', cfV, kV, iV, fV, q1.1, gV, stV, by rw [q2.1]; exact knV, by rw [q2.1]; exact obV, by rw [q2.2.1]; exact asV, q3⟩, ⟨E', cfC, kC, iC, fC, q1.1, gC, stC, by rw [q2.1]; exact knV, by rw [q2.1]; exact obV, by rw [q2.2.1]; exact asC, q4⟩,
    ⟨V', ⟨q5.1, State.isArrayOf_alike al'.symm q5.2.1, q5.2.2.1⟩, q6, by rw [← al'.findClass]; exact q7, q8, fun j hj => by have := q9 j hj; rwa [Nat.zero_add] at this⟩, fun O n d w F n1 n2 => ?_⟩, hl, hc, hs⟩, st⟩
  · intro y hy
    simp only [List.mem_cons, List.not_mem_nil, or_false] at hy
    rcases hy with rfl | rfl <;> rfl
  · by_cases q : y = x
    · subst q
      cases hD.symm.trans hy
      exact ⟨E', q1.1, q2.2.1, q2.1, hsz⟩
    · exact ⟨cy, q10 y cy q hy, rfl, rfl, rfl⟩
  · obtain ⟨D3, cf, k, i, f, g1, g2, g3, g4, g5, g6, g7⟩ := F
    cases hD.symm.trans g1
    simp only [RoadKit.slotOf, g2, gV, gC, Option.map_some, Option.getD_some] at n1 n2
    exact ⟨E', cf, k, i, f, q1.1, g2, g3, by rw [q2.1]; exact g4, by rw [q2.1]; exact g5, by rw [q2.2.1]; exact g6, by rw [q2.2.2 f.slot (by simp [n1, n2])]; exact g7⟩
end StrChars.Road
namespace StrChars.Road
open Jvm Sem ClassFile Op Lib Jvm.Stand Jvm.Free Jvm.Free.XT
/-- WHAT COMES BACK, the byte[] as a list of values -/
def QA (Z : State) (x : Addr) (zn : Int32) (cs : List Int32) (h : Heap) (v : Option Value) (h' : Heap) (L : List Loc) : Prop := v = none ∧ (∀ y ∈ L, y.base = x) ∧ RoadKit.Keep h h' [x] ∧ h'.size = h.size + 1 ∧ RoadKit.Exa Z h' x ST ∧ RoadKit.Fld Z h' x ST "value" "[B" (.ref h.size) ∧ RoadKit.Fld Z h' x ST "coder" "B" (.int 0) ∧
  (∃ kb, Z.vm.findClass "[B" = some kb ∧ RoadKit.Arv Z h' h.size kb .byte zn (cs.map fun c => .int (lo8 c)) (.int 0)) ∧
  ∀ (O n d : String) (w : Value), RoadKit.Fld Z h x O n d w → RoadKit.slotOf Z O n d ≠ RoadKit.slotOf Z ST "value" "[B" → RoadKit.slotOf Z O n d ≠ RoadKit.slotOf Z ST "coder" "B" → RoadKit.Fld Z h' x O n d w
/-- **new String(chars) AT A CALL, THE ARRAYS AS LISTS**: the char[] at b holds cs, not empty, no char above 255 -/
theorem backArv {p : Program} {l : Launch} {e : Env} {R : Room} {s : State} {args : Array Value} {below : List Frame} {len W : Nat} {Z : State} {a0 : Array Value} {h : Heap} (hZ : Z.Warmed39 s.vm) (hw : ∀ d ∈ words, d.before a0 Z = true) {kI : Nat} (wi : (Jvm.Cond.instantiable ST kI).before a0 Z = true)
    {x b : Addr} {k : ClassId} {zn z : Int32} {cs : List Int32} {dv v0 c0 : Value} (E : RoadKit.Exa Z h x ST) (V : RoadKit.Fld Z h x ST "value" "[B" v0) (C : RoadKit.Fld Z h x ST "coder" "B" c0) (K : RoadKit.Arv Z h b k .char zn (cs.map Value.int) dv) (S : RoadKit.Sta Z h ST "COMPACT_STRINGS" "Z" (.int z)) (hz : ¬ z = 0)
    (hlen : zn.toNatClampNeg = cs.length) (h0 : 0 < cs.length) (hbig : cs.length ≤ 536870912) (hall : ∀ c ∈ cs, ¬ 255 < c) (hfr : 4 ≤ R.frames) (hlo : W + 65 ≤ R.locals) :
    Back l R p e below s args New1.yN len W (fun P a => a = #[.ref x, .ref b] ∧ P.U.heap = h ∧ P.cells + 1 ≤ R.cells ∧ P.slots + cs.length ≤ R.slots)
      (fun P _ v B => ∃ L, QA Z x zn cs h v B.U.heap L ∧ B.locs = P.locs ++ L ∧ B.cells = P.cells + 1 ∧ B.slots = P.slots + cs.length) := by
  obtain ⟨A, K1, K2, K3, K4, K5, K6⟩ := K
  have e : A.slots.size = cs.length := K3.trans hlen
  have hat : ∀ (i : Nat) (hi : i < cs.length), A.slots[i]? = some (.int cs[i]) := fun i hi => by rw [K5 i (by omega)]; simp [List.getD_eq_getElem?_getD, hi]
  have hcv : ∀ (i : Nat) (hi : i < cs.length), cv A i = cs[i] := fun i hi => by unfold cv; rw [hat i hi]
  have hty : Typed .char A := fun i v hv => by
    have hi : i < A.slots.size := (Array.getElem?_eq_some_iff.mp hv).1
    have q := K5 i hi
    rw [hv] at q
    rw [Option.some.inj q]
    exact K6 i hi
  refine Back.mono (back hZ hw wi E V C K1 hty S hz (by omega) (by omega) (fun i hi => by rw [hcv i (by omega)]; exact hall _ (List.getElem_mem _)) hfr hlo) (fun P a hp => ⟨hp.1, hp.2.1, hp.2.2.1, by rw [e]; exact hp.2.2.2⟩) (fun P a v B hp hq => ?_)
  obtain ⟨L, ⟨q1, q2, q3, q4, q5, q6, q7, ⟨V', v1, v2, v3, v4, v5⟩, q9⟩, hl, hc, hs⟩ := hq
  refine ⟨L, ⟨q1, q2, q3, q4, q5, q6, q7, ⟨V'.cls, v3, V', v1, rfl, by rw [v4, e, hlen], K4, fun i hi => ?_, fun i hi => ?_⟩, q9⟩, hl, hc, by rw [hs, e]⟩
  · have hi' : i < cs.length := by omega
    rw [v5 i (by omega), hcv i hi']; simp [List.getD_eq_getElem?_getD, hi']
  · have hi' : i < cs.length := by omega
    simp only [List.getD_eq_getElem?_getD, List.getElem?_map, List.getElem?_eq_getElem hi', Option.map_some, Option.getD_some]
    exact fits_lo8 _
end StrChars.Road
namespace StrChars.Road
open Jvm Sem ClassFile Op Lib Jvm.Stand Jvm.Free Jvm.Free.XT
/-- WHAT COMES BACK, in the writer's own shape -/
def QV (Z : State) (x : Addr) (N : Int32) (bs : List Int32) (h : Heap) (n0 : Nat) (v : Option Value) (h' : Heap) (L : List Loc) : Prop := v = none ∧ RoadKit.Fr n0 L ∧ RoadKit.Keep h h' [x] ∧ RoadKit.Exa Z h' x ST ∧ RoadKit.Fld Z h' x ST "coder" "B" (.int 0) ∧
  ∃ (t : Addr) (kb : ClassId), n0 ≤ t ∧ h.size ≤ t ∧ ¬ t = x ∧ RoadKit.Fld Z h' x ST "value" "[B" (.ref t) ∧ RoadKit.Arv Z h' t kb .byte N (bs.map Value.int) (.int 0)
/-- **new String(chars) AT A CALL, FOR THE WRITER**: a char[] of n known ints, each 0 to 255 -/
theorem backV {p : Program} {l : Launch} {e : Env} {R : Room} {s : State} {args : Array Value} {below : List Frame} {len W : Nat} {Z : State} {a0 : Array Value} {h : Heap} (hZ : Z.Warmed39 s.vm) (hw : ∀ d ∈ words, d.before a0 Z = true) {kI : Nat} (wi : (Jvm.Cond.instantiable ST kI).before a0 Z = true)
    {x b : Addr} {kC : ClassId} {cs bs : List Int32} {d v0 c0 : Value} {z N : Int32} {n n0 : Nat} (hx0 : n0 ≤ x) (hh0 : n0 ≤ h.size) (E : RoadKit.Exa Z h x ST) (V : RoadKit.Fld Z h x ST "value" "[B" v0) (C : RoadKit.Fld Z h x ST "coder" "B" c0) (K : RoadKit.Arv Z h b kC .char N (cs.map Value.int) d) (S : RoadKit.Sta Z h ST "COMPACT_STRINGS" "Z" (.int z)) (hz : ¬ z = 0)
    (hn : cs.length = n) (hN : N = Int32.ofNat n) (l0 : 0 < n) (l2 : n ≤ 4000) (hp : ∀ c ∈ cs, ¬ c < 0 ∧ ¬ (255 : Int32) < c) (hb : bs = cs.map (fun c => c.toInt8.toInt32)) (hfr : 4 ≤ R.frames) (hlo : W + 65 ≤ R.locals) :
    Back l R p e below s args (⟨"java/lang/String", "<init>", "([C)V"⟩ : MethodName) len W (fun P a => a = #[.ref x, .ref b] ∧ P.U.heap = h ∧ P.cells + 1 ≤ R.cells ∧ P.slots + n ≤ R.slots)
      (fun P _ v B => ∃ L, QV Z x N bs h n0 v B.U.heap L ∧ B.locs = P.locs ++ L ∧ B.cells = P.cells + 1 ∧ B.slots = P.slots + n) := by
  subst hn hN hb
  refine Back.mono (backArv hZ hw wi E V C K S hz (n32 (by omega)) l0 (by omega) (fun c hc => (hp c hc).2) hfr hlo) (fun P a hp => hp) (fun P a v B hp hq => ?_)
  obtain ⟨L, ⟨q1, q2, q3, q4, q5, q6, q7, ⟨kb, v1, v2⟩, q9⟩, hl, hc, hs⟩ := hq
  exact ⟨L, ⟨q1, fun y hy => by rw [q2 y hy]; exact hx0, q3, q5, q7, h.size, kb, hh0, Nat.le_refl _, Nat.ne_of_gt E.lt, q6, by rw [List.map_map]; exact v2⟩, hl, hc, hs⟩
end StrChars.Road
end Jvm.Pilot.@@N@@
namespace Jvm.Pilot.@@N@@
open Jvm Jvm.ClassFile Sem Op Lib Jvm.Free Jvm.Stand Jvm.LawKit Jvm.RoadKit Bundle Jvm.Pilot.@@N@@.Jvm.D
theorem own_sn {P : Prop} {Z : State} {a0 : Array Value} {C O n d O' n' d' : String} (L : Laid Z a0 C O n d) (L' : Laid Z a0 C O' n' d') (hn : n ≠ n' ∧ (parseFieldDescriptor d).isSome = true ∧ (parseFieldDescriptor d').isSome = true) : P ∨ Jvm.RoadKit.slotOf Z O n d ≠ Jvm.RoadKit.slotOf Z O' n' d' := by
  obtain ⟨t, ht⟩ := Option.isSome_iff_exists.mp hn.2.1
  obtain ⟨t', ht'⟩ := Option.isSome_iff_exists.mp hn.2.2
  exact Or.inr (slot_ne L L' hn.1 ht ht')
theorem wd {a0 : Array Value} {Z : State} {d : Jvm.Cond} (hw : ∀ d ∈ tables_1, d.before a0 Z = true) (i : Nat) (h : tables_1[i]? = some d) : d.before a0 Z = true := hw d (List.mem_of_getElem? h)
def mN0 : MethodName := ⟨"com/example/tenacious_courier/tenaciouscourier/model/Endpoint", "<init>", "(Ljava/lang/String;Ljava/lang/String;Ljava/lang/String;Ljava/util/List;Lcom/example/tenacious_courier/tenaciouscourier/model/EndpointStatus;Lcom/example/tenacious_courier/tenaciouscourier/model/DisabledReason;Ljava/time/Instant;Lcom/example/tenacious_courier/tenaciouscourier/model/BreakerState;I)V"⟩
def mN1 : MethodName := ⟨"com/example/tenacious_courier/tenaciouscourier/model/Endpoint", "breaker", "()Lcom/example/tenacious_courier/tenaciouscourier/model/BreakerState;"⟩
def mN2 : MethodName := ⟨"com/example/tenacious_courier/tenaciouscourier/model/Endpoint", "consecutiveFailures", "()I"⟩
def mN3 : MethodName := ⟨"com/example/tenacious_courier/tenaciouscourier/model/Endpoint", "disabledAt", "()Ljava/time/Instant;"⟩
def mN4 : MethodName := ⟨"com/example/tenacious_courier/tenaciouscourier/model/Endpoint", "disabledReason", "()Lcom/example/tenacious_courier/tenaciouscourier/model/DisabledReason;"⟩
def mN5 : MethodName := ⟨"com/example/tenacious_courier/tenaciouscourier/model/Endpoint", "eventTypes", "()Ljava/util/List;"⟩
def mN6 : MethodName := ⟨"com/example/tenacious_courier/tenaciouscourier/model/Endpoint", "id", "()Ljava/lang/String;"⟩
def mN7 : MethodName := ⟨"com/example/tenacious_courier/tenaciouscourier/model/Endpoint", "registered", "(Ljava/lang/String;Ljava/lang/String;Ljava/lang/String;Ljava/util/List;)Lcom/example/tenacious_courier/tenaciouscourier/model/Endpoint;"⟩
def mN8 : MethodName := ⟨"com/example/tenacious_courier/tenaciouscourier/model/Endpoint", "status", "()Lcom/example/tenacious_courier/tenaciouscourier/model/EndpointStatus;"⟩
def mN9 : MethodName := ⟨"com/example/tenacious_courier/tenaciouscourier/model/Endpoint", "tenant", "()Ljava/lang/String;"⟩
def mN10 : MethodName := ⟨"com/example/tenacious_courier/tenaciouscourier/model/Endpoint", "url", "()Ljava/lang/String;"⟩
def mN11 : MethodName := ⟨"com/example/tenacious_courier/tenaciouscourier/model/EndpointRegisteredPinLaw", "str", "(I)Ljava/lang/String;"⟩
def mN12 : MethodName := ⟨"java/lang/Math", "max", "(II)I"⟩
def mN13 : MethodName := ⟨"java/lang/Math", "min", "(II)I"⟩
def mN14 : MethodName := ⟨"java/lang/String", "<init>", "([C)V"⟩
def mN15 : MethodName := ⟨"java/lang/String", "<init>", "([CIILjava/lang/Void;)V"⟩
def mN16 : MethodName := ⟨"java/lang/String", "equals", "(Ljava/lang/Object;)Z"⟩
def mN17 : MethodName := ⟨"java/util/AbstractCollection", "<init>", "()V"⟩
def mN18 : MethodName := ⟨"java/util/AbstractList", "<init>", "()V"⟩
def mN19 : MethodName := ⟨"java/util/ArrayList", "<init>", "()V"⟩
def mN20 : MethodName := ⟨"java/util/ArrayList", "add", "(Ljava/lang/Object;)Z"⟩
def mN21 : MethodName := ⟨"java/util/ArrayList", "add", "(Ljava/lang/Object;[Ljava/lang/Object;I)V"⟩
def mN22 : MethodName := ⟨"java/util/ArrayList", "grow", "()[Ljava/lang/Object;"⟩
def mN23 : MethodName := ⟨"java/util/ArrayList", "grow", "(I)[Ljava/lang/Object;"⟩
def mN24 : MethodName := ⟨"java/util/ArrayList", "isEmpty", "()Z"⟩
def mN25 : MethodName := ⟨"java/util/ArrayList", "toArray", "()[Ljava/lang/Object;"⟩
def mN26 : MethodName := ⟨"java/util/Arrays", "copyOf", "([Ljava/lang/Object;I)[Ljava/lang/Object;"⟩
def mN27 : MethodName := ⟨"java/util/Arrays", "copyOf", "([Ljava/lang/Object;ILjava/lang/Class;)[Ljava/lang/Object;"⟩
def mN28 : MethodName := ⟨"java/util/Collection", "isEmpty", "()Z"⟩
def mN29 : MethodName := ⟨"java/util/Collection", "toArray", "()[Ljava/lang/Object;"⟩
def mN30 : MethodName := ⟨"java/util/ImmutableCollections", "listCopy", "(Ljava/util/Collection;)Ljava/util/List;"⟩
def mN31 : MethodName := ⟨"java/util/ImmutableCollections", "listFromArray", "([Ljava/lang/Object;)Ljava/util/List;"⟩
def mN32 : MethodName := ⟨"java/util/ImmutableCollections$AbstractImmutableCollection", "<init>", "()V"⟩
def mN33 : MethodName := ⟨"java/util/ImmutableCollections$AbstractImmutableList", "<init>", "()V"⟩
def mN34 : MethodName := ⟨"java/util/ImmutableCollections$List12", "<init>", "(Ljava/lang/Object;)V"⟩
def mN35 : MethodName := ⟨"java/util/ImmutableCollections$List12", "<init>", "(Ljava/lang/Object;Ljava/lang/Object;)V"⟩
def mN36 : MethodName := ⟨"java/util/ImmutableCollections$List12", "get", "(I)Ljava/lang/Object;"⟩
def mN37 : MethodName := ⟨"java/util/ImmutableCollections$List12", "size", "()I"⟩
def mN38 : MethodName := ⟨"java/util/ImmutableCollections$ListN", "<init>", "([Ljava/lang/Object;Z)V"⟩
def mN39 : MethodName := ⟨"java/util/ImmutableCollections$ListN", "get", "(I)Ljava/lang/Object;"⟩
def mN40 : MethodName := ⟨"java/util/ImmutableCollections$ListN", "size", "()I"⟩
def mN41 : MethodName := ⟨"java/util/List", "add", "(Ljava/lang/Object;)Z"⟩
def mN42 : MethodName := ⟨"java/util/List", "copyOf", "(Ljava/util/Collection;)Ljava/util/List;"⟩
def mN43 : MethodName := ⟨"java/util/List", "get", "(I)Ljava/lang/Object;"⟩
def mN44 : MethodName := ⟨"java/util/List", "of", "()Ljava/util/List;"⟩
def mN45 : MethodName := ⟨"java/util/List", "of", "([Ljava/lang/Object;)Ljava/util/List;"⟩
def mN46 : MethodName := ⟨"java/util/List", "size", "()I"⟩
def mN47 : MethodName := ⟨"java/util/Objects", "requireNonNull", "(Ljava/lang/Object;)Ljava/lang/Object;"⟩
def own_EL : List (String × Nat) := [("java/lang/String", 7)]
theorem own_EW {Z : State} {a0 : Array Value} (hw : ∀ d ∈ tables_1, d.before a0 Z = true) : EW Z a0 own_EL := EW.cons (wd hw 18 rfl) (by intro c hc; first | (simp at hc; done) | (revert c; decide)) (EW.nil)
theorem own_wS {Z : State} {a0 : Array Value} (hw : ∀ d ∈ tables_1, d.before a0 Z = true) : ∀ d ∈ Bundle.stringAtoms, d.before a0 Z = true := fun d hd => hw d ((by decide +kernel : ∀ d ∈ Bundle.stringAtoms, d ∈ tables_1) d hd)
theorem own_staK {Z : State} {h h' : Heap} {C n d : String} {v : Value} (S : Sta Z h C n d v) (K : Keep h h' []) : Sta Z h' C n d v := by
  obtain ⟨cf, i, k, f, st, cell, h1, h2, h3, h4, h5, r⟩ := S
  exact ⟨cf, i, k, f, st, cell, h1, h2, h3, h4, K.2.1 _ _ h5 nin0, r⟩
/-- a String without bytes yet is no literal -/
theorem own_safe {Z : State} {EL : List (String × Nat)} {vm : Vm} {h : Heap} {x : Addr} (hal : Z.vm.Alike vm) (E : Exa Z h x "java/lang/String") (F : Fld Z h x "java/lang/String" "value" "[B" .null) : Safe Z EL vm h x := fun B => by
  obtain ⟨p, -, u, a, -, q, -, G, rfl | rfl⟩ := B
  · obtain ⟨cS, ⟨⟨s1, s2, s3, ⟨cv, kv, iv, s4, s4'⟩, -, s6, s7, s8, -⟩, -, -⟩, -⟩ := G
    obtain ⟨kv', z4⟩ := ff_back (U := Wst Z vm h) hal s4
    have F2 : Fld Z h q.sa "java/lang/String" "value" "[B" (.ref q.sd) := ⟨q.sC, cv, kv', iv, q.fSV, s1, z4, s6, s2, s3, by rw [← hal.assignable]; exact s4', s8⟩
    exact Fld.ne F F2 (fun e => nomatch e) rfl
  · obtain ⟨cell, k, e1, e2, e3, -, -⟩ := E
    cases (show h[q.sd]? = some q.SA from G.hd).symm.trans e1
    obtain ⟨cS, -, -, f, -⟩ := G
    have f : vm.findClass "[B" = some q.SA.cls := f
    rw [hal.findClass] at f
    obtain ⟨k1, q1, q2⟩ := Vm.findClass_spec f
    obtain ⟨k2, q3, q4⟩ := Vm.findClass_spec e2
    cases q1.symm.trans q3
    exact absurd (q2.symm.trans q4) (by decide)
/-- a contract without interning, in the invariant's shape -/
theorem own_lift {l : Launch} {y : MethodName} {S : Spec} {Z : State} {a0 as' : Array Value} {EL : List (String × Nat)} {h : Heap} {Q : Option Value → Heap → List Loc → Prop} {k n k' n' : Nat} (hEL : EW Z a0 EL) (hQ : ∀ v h' L, Q v h' L → Keep h h' [])
    (hM : MetFree l y S (fun a U => a = as' ∧ Z.Warmed39 U.vm ∧ U.heap = h) (fun _ _ _ _ _ => True) (fun _ U o U' => ∃ v L, o = .returned v ∧ Q v U'.heap L ∧ FrameEnd U o U' L k n)) (hk : k ≤ k') (hn : n ≤ n') :
    MetFree l y S (fun a U => a = as' ∧ Z.Warmed39 U.vm ∧ U.heap = h ∧ CHv Z EL U.vm h) (fun _ _ _ _ _ => True) (fun _ U o U' => ∃ v L, o = .returned v ∧ Q v U'.heap L ∧ CHr Z EL U.vm U.heap U'.vm U'.heap ∧ ReturnedEndW U o U' L k' n') := by
  intro p e h1 h2 h3 s m args below h4 h5 hP hK
  obtain ⟨n1, o, g1, g2, g3, v, L, g4, g5, g6⟩ := hM p e h1 h2 h3 s m args below h4 h5 ⟨hP.1, hP.2.1, hP.2.2.1⟩ hK
  refine ⟨n1, o, g1, g2, g3, v, L, g4, g5, ?_, ReturnedEndW.of_narrow g6.1 g6.2.1 (g6.2.2.mono hk hn)⟩
  obtain ⟨-, hZ, hh, hC⟩ := hP
  rw [hh]
  have A := CHr.keep (hQ _ _ _ g5) sf0 hC
  have B := CHv.later (h' := (stepsAlone p.tables e n1 s).heap) hZ (show (Wst Z s.vm (stepsAlone p.tables e n1 s).heap).Warmed39 (stepsAlone p.tables e n1 s).vm from g6.2.1.wide) hEL ⟨Nat.le_refl _, fun _ _ q => q⟩ (Or.inl g6.2.1.interned_eq) A.1
  exact A.trans ⟨B.1, Nat.le_refl _, B.2⟩
/-- a String of z bytes -/
def own_Str (Z : State) (h : Heap) (x : Addr) (z : Int32) (vs : List Value) : Prop := Exa Z h x "java/lang/String" ∧ Fld Z h x "java/lang/String" "coder" "B" (.int (0 : Int32)) ∧ ∃ (t : Addr) (kb : ClassId), Fld Z h x "java/lang/String" "value" "[B" (.ref t) ∧ Arv Z h t kb .byte z vs (.int (0 : Int32))
theorem own_Str.keep {Z : State} {h h' : Heap} {x : Addr} {z : Int32} {vs : List Value} (S : own_Str Z h x z vs) (K : Keep h h' []) : own_Str Z h' x z vs := by
  obtain ⟨a, b, t, kb, c, d⟩ := S
  exact ⟨a.keep K, b.keep K nin0, t, kb, c.keep K nin0, d.keep K nin0⟩
theorem d3_0 : decode jdk_42_method_149_code 0 = .ok (.aload_n 0, 1) := by decide +kernel
theorem d3_1 : decode jdk_42_method_149_code 1 = .ok (.invokespecial 1, 3) := by decide +kernel
theorem d3_4 : decode jdk_42_method_149_code 4 = .ok (.iload_n 3, 1) := by decide +kernel
theorem d3_5 : decode jdk_42_method_149_code 5 = .ok (.ifCond .ne 22, 3) := by decide +kernel
theorem d3_8 : decode jdk_42_method_149_code 8 = .ok (.aload_n 0, 1) := by decide +kernel
theorem d3_9 : decode jdk_42_method_149_code 9 = .ok (.ldc 7, 2) := by decide +kernel
theorem d3_11 : decode jdk_42_method_149_code 11 = .ok (.getfield 9, 3) := by decide +kernel
theorem d3_14 : decode jdk_42_method_149_code 14 = .ok (.putfield 9, 3) := by decide +kernel
theorem d3_17 : decode jdk_42_method_149_code 17 = .ok (.aload_n 0, 1) := by decide +kernel
theorem d3_18 : decode jdk_42_method_149_code 18 = .ok (.ldc 7, 2) := by decide +kernel
theorem d3_20 : decode jdk_42_method_149_code 20 = .ok (.getfield 15, 3) := by decide +kernel
theorem d3_23 : decode jdk_42_method_149_code 23 = .ok (.putfield 15, 3) := by decide +kernel
theorem d3_26 : decode jdk_42_method_149_code 26 = .ok (.return_, 1) := by decide +kernel
theorem pn_3 : plainName "java/lang/String" = true := by first | (simp [plainName, overriddenIn]; done) | decide +kernel
theorem ef_e3 (m : MethodId) (x0 : Addr) (x1 : Addr) (x2 : Int32) (x3 : Int32) : entryFrame m #[(.ref x0), (.ref x1), (.int x2), (.int x3), .null] 6 = mkF m 0 #[.val (.ref x0), .val (.ref x1), .val (.int x2), .val (.int x3), .val .null, .unset] [] := by first | (simp [entryFrame, mkF, argsToLocals, Value.category]; done) | rfl
def own_QE (Z : State) (a1 : Addr) (h0 : Heap) (n0 : Nat) (v : Option Value) (h : Heap) (L : List Loc) : Prop := v = none ∧ Fr n0 L ∧ Keep h0 h [a1] ∧ own_Str Z h a1 (0 : Int32) []
set_option maxRecDepth 65536 in
set_option maxHeartbeats 40000000 in
theorem own_e3 (l : Launch) (Z : State) (a0 : Array Value) (hw : ∀ d ∈ tables_1, d.before a0 Z = true) (ws : List Jvm.Cond) (a1 a2 : Addr) (c0 : Value) (h0 : Heap) (n0 : Nat) (Z0 : n0 ≤ h0.size) (E_a1 : Exa Z h0 a1 "java/lang/String") (Fv : Fld Z h0 a1 "java/lang/String" "value" "[B" .null) (Fc : Fld Z h0 a1 "java/lang/String" "coder" "B" c0) (g_a1 : n0 ≤ a1) :
    MetFree l mN15 (head1 (Jvm.Cond.code mN15 jdk_42_method_149_code 6 none :: ws) ({ frames := 1, cells := 2, slots := 4, locals := 14 } : Room)) (fun a U => a = #[(.ref a1), (.ref a2), (.int (0 : Int32)), (.int (0 : Int32)), .null] ∧ Z.Warmed39 U.vm ∧ U.heap = h0 ∧ CHv Z own_EL U.vm h0) (fun _ _ _ _ _ => True) (fun _ U o U' => ∃ v L, o = .returned v ∧ own_QE Z a1 h0 n0 v U'.heap L ∧ CHr Z own_EL U.vm U.heap U'.vm U'.heap ∧ ReturnedEndW U o U' L ({ frames := 1, cells := 2, slots := 4, locals := 14 } : Room).cells ({ frames := 1, cells := 2, slots := 4, locals := 14 } : Room).slots) := by
  refine MetFree.of_bodySF (plainFor_of_name pn_3) hisR ?_
  intro p e s m args below meth c s₁ Bd hml0 hP hK
  obtain ⟨rfl, hZ, hh, hCH⟩ := hP
  have hx := Bd.exec
  have hby := Bd.bytes
  have hml : c.maxLocals = 6 := hml0
  have hown : s.vm.findClass "java/lang/String" = some m.cls := findClass_of_methodNamed Bd.named
  have hnm := (name_of_methodNamed Bd.named Bd.method).1
  have X0 : Stand p l e ({ frames := 1, cells := 2, slots := 4, locals := 14 } : Room) s m #[(.ref a1), (.ref a2), (.int (0 : Int32)), (.int (0 : Int32)), .null] below meth c s₁ [] 0 0 := Stand.of_body Bd
  have e0 : s₁.heap = h0 := by rw [← hh, Bd.state]; rfl
  have N0 := Fr.nil n0
  have pre0 : ∀ t, Steps p.tables e below (s₁.setTop (mkF m 0 #[.val (.ref a1), .val (.ref a2), .val (.int (0 : Int32)), .val (.int (0 : Int32)), .val .null, .unset] [])) t → Steps p.tables e below (s₁.setTop (entryFrame m #[(.ref a1), (.ref a2), (.int (0 : Int32)), (.int (0 : Int32)), .null] 6)) t := fun t k => castTop (ef_e3 m a1 a2 0 0) k
  obtain ⟨T4, X4, e4, st4⟩ := initO X0 hx hZ hown (wd hw 15 rfl) (wd hw 16 rfl) (wd hw 17 rfl) e0 (g := (mkF m 1 #[.val (.ref a1), .val (.ref a2), .val (.int (0 : Int32)), .val (.int (0 : Int32)), .val .null, .unset] [(.ref a1)])) rfl (by rw [hml]; rfl) rfl (hb hby d3_1) (by decide) (W := 0) (by show 2 * 0 + _ ≤ _; exact Nat.le_of_eq rfl) (by decide)
  have X4' : Stand p l e ({ frames := 1, cells := 2, slots := 4, locals := 14 } : Room) (s.setVm s.vm) m #[(.ref a1), (.ref a2), (.int (0 : Int32)), (.int (0 : Int32)), .null] below meth c T4 [] 0 0 := X4
  have hEL := own_EW hw
  obtain ⟨a, T5, h5, k5, b, kb, X5, e5, E5, hS5, hk5, hZ5, hown5, Ex5, Fc5, Fv5, V5, la, lb, C5, Lt5, hne5, st5⟩ := ldcCH (s := s) (vm0 := s.vm) X4' hx hZ hown (wd hw 18 rfl) (own_wS hw) e4 ((State.WarmedH.refl s).since 0) (Nat.zero_le _) hEL (by simp [own_EL]) hCH (vs := []) (z := (0 : Int32)) ⟨by intro c hc; simp at hc, rfl⟩ (by decide) rfl (g := (mkF m 9 #[.val (.ref a1), .val (.ref a2), .val (.int (0 : Int32)), .val (.int (0 : Int32)), .val .null, .unset] [(.ref a1)])) rfl (hb hby d3_9) (n := 0) (by decide) (by decide) (by decide) (by decide)
  have hal5 : Z.vm.Alike T5.vm := State.Warmed39.alike (s := Z) hZ5
  have S5 : Safe Z own_EL T5.vm h5 a1 := own_safe hal5 (E_a1.ext E5) (Fv.ext E5)
  obtain ⟨ha, hb5⟩ := hne5 a1 S5
  obtain ⟨T6, X6, e6, st6⟩ := getF X5 hx hZ5 hown5 (host := "") (Or.inl (wd hw 24 rfl)) Via.refl e5 Fv5 (g := (mkF m 11 #[.val (.ref a1), .val (.ref a2), .val (.int (0 : Int32)), .val (.int (0 : Int32)), .val .null, .unset] [(.ref a), (.ref a1)])) rfl rfl (hb hby d3_11)
  obtain ⟨T7, h7, X7, e7, W7, st7⟩ := putF X6 hx hZ5 hown5 (host := "") (Or.inl (wd hw 24 rfl)) Via.refl e6 (Fv.ext E5) (E_a1.ext E5) (Or.inr ⟨(wd hw 20 rfl), rfl, hnm⟩) (wd hw 5 rfl) (ty := (.array .byte)) (by decide) rfl rfl (g := (mkF m 14 #[.val (.ref a1), .val (.ref a2), .val (.int (0 : Int32)), .val (.int (0 : Int32)), .val .null, .unset] [(.ref b), (.ref a1)])) rfl rfl (hb hby d3_14)
  have Fw7 := (Fv.ext E5).same W7
  have K5 : Keep h0 h5 [a1] := (Keep.refl h0 [a1]).ext E5
  have K7 : Keep h0 h7 [a1] := K5.wr W7 (Or.inl (List.mem_of_getElem? (i := 0) rfl))
  have N7 := Fr.snoc X7 N0 g_a1
  have C7 := C5.trans (CHr.wr W7 S5 C5.1)
  have S7 := Safe.wr W7 S5 C5.1 S5
  have st8 := ldcAgain (s := s) (vm0 := T5.vm) X7 hx hZ5 hown5 (wd hw 18 rfl) Lt5 (g := (mkF m 18 #[.val (.ref a1), .val (.ref a2), .val (.int (0 : Int32)), .val (.int (0 : Int32)), .val .null, .unset] [(.ref a1)])) rfl (hb hby d3_18)
  obtain ⟨T9, X9, e9, st9⟩ := getF X7 hx hZ5 hown5 (host := "") (Or.inl (wd hw 25 rfl)) Via.refl e7 (Fc5.other W7 (Or.inl (Ne.symm ha))) (g := (mkF m 20 #[.val (.ref a1), .val (.ref a2), .val (.int (0 : Int32)), .val (.int (0 : Int32)), .val .null, .unset] [(.ref a), (.ref a1)])) rfl rfl (hb hby d3_20)
  obtain ⟨T10, h10, X10, e10, W10, st10⟩ := putFN X9 hx hZ5 hown5 (wd hw 25 rfl) Via.refl e9 ((Fc.ext E5).other W7 (own_sn (Or.inr (wd hw 21 rfl)) (Or.inr (wd hw 20 rfl)) (by decide))) ((E_a1.ext E5).wr W7) (Or.inr ⟨(wd hw 21 rfl), rfl, hnm⟩) (wd hw 5 rfl) (ty := .byte) (v' := .int (0 : Int32)) (by decide) rfl (by decide) (g := (mkF m 23 #[.val (.ref a1), .val (.ref a2), .val (.int (0 : Int32)), .val (.int (0 : Int32)), .val .null, .unset] [(.int (0 : Int32)), (.ref a1)])) rfl rfl (hb hby d3_23)
  have Fw10 := ((Fc.ext E5).other W7 (own_sn (Or.inr (wd hw 21 rfl)) (Or.inr (wd hw 20 rfl)) (by decide))).same W10
  have K10 : Keep h0 h10 [a1] := K7.wr W10 (Or.inl (List.mem_of_getElem? (i := 0) rfl))
  have N10 := Fr.snoc X10 N7 g_a1
  have C10 := C7.trans (CHr.wr W10 S7 C7.1)
  have Cend := C10.trans (CHv.at (s := s) (vm0 := T5.vm) X10 hZ5 hEL C10.1)
  obtain ⟨fs, hr, hrun, hended, hEnd⟩ := X10.leaveW hS5 (by rw [e10]; exact Nat.le_trans hk5 (Nat.le_trans (Keep.of_wr W7).1 (Keep.of_wr W10).1)) (v := none) (fun _ => rfl)
  refine ⟨_, _, pre0 _ ?_, hrun, hended, _, _, rfl, ?_, ?_, hEnd⟩
  · show Steps p.tables e below (s₁.setTop (mkF m 0 #[.val (.ref a1), .val (.ref a2), .val (.int (0 : Int32)), .val (.int (0 : Int32)), .val .null, .unset] [])) _
    refine XS.aloadN X0.here hx rfl (hb hby d3_0) rfl rfl ?_
    show Steps p.tables e below (s₁.setTop (mkF m 1 #[.val (.ref a1), .val (.ref a2), .val (.int (0 : Int32)), .val (.int (0 : Int32)), .val .null, .unset] [(.ref a1)])) _
    refine st4 _ ?_
    show Steps p.tables e below (T4.setTop (mkF m 4 #[.val (.ref a1), .val (.ref a2), .val (.int (0 : Int32)), .val (.int (0 : Int32)), .val .null, .unset] [])) _
    refine XS.iloadN X4.here hx rfl (hb hby d3_4) rfl ?_
    refine XS.ifNo X4.here hx rfl (hb hby d3_5) rfl ((if0 _ _).trans (teq (rfl : (0 : Int32) = 0)).2) ?_
    show Steps p.tables e below (T4.setTop (mkF m 8 #[.val (.ref a1), .val (.ref a2), .val (.int (0 : Int32)), .val (.int (0 : Int32)), .val .null, .unset] [])) _
    refine XS.aloadN X4.here hx rfl (hb hby d3_8) rfl rfl ?_
    show Steps p.tables e below (T4.setTop (mkF m 9 #[.val (.ref a1), .val (.ref a2), .val (.int (0 : Int32)), .val (.int (0 : Int32)), .val .null, .unset] [(.ref a1)])) _
    refine st5 _ ?_
    show Steps p.tables e below (T5.setTop (mkF m 11 #[.val (.ref a1), .val (.ref a2), .val (.int (0 : Int32)), .val (.int (0 : Int32)), .val .null, .unset] [(.ref a), (.ref a1)])) _
    refine st6 _ ?_
    show Steps p.tables e below (T6.setTop (mkF m 14 #[.val (.ref a1), .val (.ref a2), .val (.int (0 : Int32)), .val (.int (0 : Int32)), .val .null, .unset] [(.ref b), (.ref a1)])) _
    refine st7 _ ?_
    show Steps p.tables e below (T7.setTop (mkF m 17 #[.val (.ref a1), .val (.ref a2), .val (.int (0 : Int32)), .val (.int (0 : Int32)), .val .null, .unset] [])) _
    refine XS.aloadN X7.here hx rfl (hb hby d3_17) rfl rfl ?_
    show Steps p.tables e below (T7.setTop (mkF m 18 #[.val (.ref a1), .val (.ref a2), .val (.int (0 : Int32)), .val (.int (0 : Int32)), .val .null, .unset] [(.ref a1)])) _
    refine st8 _ ?_
    show Steps p.tables e below (T7.setTop (mkF m 20 #[.val (.ref a1), .val (.ref a2), .val (.int (0 : Int32)), .val (.int (0 : Int32)), .val .null, .unset] [(.ref a), (.ref a1)])) _
    refine st9 _ ?_
    show Steps p.tables e below (T9.setTop (mkF m 23 #[.val (.ref a1), .val (.ref a2), .val (.int (0 : Int32)), .val (.int (0 : Int32)), .val .null, .unset] [(.int (0 : Int32)), (.ref a1)])) _
    refine st10 _ ?_
    show Steps p.tables e below (T10.setTop (mkF m 26 #[.val (.ref a1), .val (.ref a2), .val (.int (0 : Int32)), .val (.int (0 : Int32)), .val .null, .unset] [])) _
    exact X10.returnOut hx Bd.returns (hb hby d3_26) hr
  · show own_QE Z a1 h0 n0 _ T10.heap _
    rw [e10]
    exact ⟨rfl, N10, K10, (((E_a1.ext E5).wr W7).wr W10), Fw10, b, kb, Fw7.other W10 (own_sn (Or.inr (wd hw 20 rfl)) (Or.inr (wd hw 21 rfl)) (by decide)), (V5.other W7 (Ne.symm hb5)).other W10 (Ne.symm hb5)⟩
  · show CHr Z own_EL s.vm s.heap T10.vm T10.heap
    rw [hh, e10]; exact Cend
theorem d2_0 : decode jdk_42_method_3_code 0 = .ok (.aload_n 0, 1) := by decide +kernel
theorem d2_1 : decode jdk_42_method_3_code 1 = .ok (.aload_n 1, 1) := by decide +kernel
theorem d2_2 : decode jdk_42_method_3_code 2 = .ok (.iconst 0, 1) := by decide +kernel
theorem d2_3 : decode jdk_42_method_3_code 3 = .ok (.aload_n 1, 1) := by decide +kernel
theorem d2_4 : decode jdk_42_method_3_code 4 = .ok (.arraylength, 1) := by decide +kernel
theorem d2_5 : decode jdk_42_method_3_code 5 = .ok (.aconst_null, 1) := by decide +kernel
theorem d2_6 : decode jdk_42_method_3_code 6 = .ok (.invokespecial 27, 3) := by decide +kernel
theorem d2_9 : decode jdk_42_method_3_code 9 = .ok (.return_, 1) := by decide +kernel
theorem pn_2 : plainName "java/lang/String" = true := by first | (simp [plainName, overriddenIn]; done) | decide +kernel
theorem pd_e2 : parseMethodDescriptor "([CIILjava/lang/Void;)V" = some ⟨[(.array .char), .int, .int, (.object "java/lang/Void")], none⟩ := by decide +kernel
theorem ef_e2 (m : MethodId) (x0 : Addr) (x1 : Addr) : entryFrame m #[(.ref x0), (.ref x1)] 2 = mkF m 0 #[.val (.ref x0), .val (.ref x1)] [] := by first | (simp [entryFrame, mkF, argsToLocals, Value.category]; done) | rfl
set_option maxRecDepth 65536 in
set_option maxHeartbeats 40000000 in
theorem own_e2 (l : Launch) (Z : State) (a0 : Array Value) (hw : ∀ d ∈ tables_1, d.before a0 Z = true) (ws : List Jvm.Cond) (a1 a2 : Addr) (c0 : Value) (kC : ClassId) (dv : Value) (h0 : Heap) (n0 : Nat) (Z0 : n0 ≤ h0.size) (E_a1 : Exa Z h0 a1 "java/lang/String") (Fv : Fld Z h0 a1 "java/lang/String" "value" "[B" .null) (Fc : Fld Z h0 a1 "java/lang/String" "coder" "B" c0) (g_a1 : n0 ≤ a1) (VA : Arv Z h0 a2 kC .char (0 : Int32) [] dv) :
    MetFree l mN14 (head1 (Jvm.Cond.code mN14 jdk_42_method_3_code 2 none :: ws) ({ frames := 2, cells := 2, slots := 4, locals := 31 } : Room)) (fun a U => a = #[(.ref a1), (.ref a2)] ∧ Z.Warmed39 U.vm ∧ U.heap = h0 ∧ CHv Z own_EL U.vm h0) (fun _ _ _ _ _ => True) (fun _ U o U' => ∃ v L, o = .returned v ∧ own_QE Z a1 h0 n0 v U'.heap L ∧ CHr Z own_EL U.vm U.heap U'.vm U'.heap ∧ ReturnedEndW U o U' L ({ frames := 2, cells := 2, slots := 4, locals := 31 } : Room).cells ({ frames := 2, cells := 2, slots := 4, locals := 31 } : Room).slots) := by
  refine MetFree.of_bodySF (plainFor_of_name pn_2) hisR ?_
  intro p e s m args below meth c s₁ Bd hml0 hP hK
  obtain ⟨rfl, hZ, hh, hCH⟩ := hP
  have hx := Bd.exec
  have hby := Bd.bytes
  have hml : c.maxLocals = 2 := hml0
  have hown : s.vm.findClass "java/lang/String" = some m.cls := findClass_of_methodNamed Bd.named
  have X0 : Stand p l e ({ frames := 2, cells := 2, slots := 4, locals := 31 } : Room) s m #[(.ref a1), (.ref a2)] below meth c s₁ [] 0 0 := Stand.of_body Bd
  have e0 : s₁.heap = h0 := by rw [← hh, Bd.state]; rfl
  have N0 := Fr.nil n0
  have pre0 : ∀ t, Steps p.tables e below (s₁.setTop (mkF m 0 #[.val (.ref a1), .val (.ref a2)] [])) t → Steps p.tables e below (s₁.setTop (entryFrame m #[(.ref a1), (.ref a2)] 2)) t := fun t k => castTop (ef_e2 m a1 a2) k
  have hEL := own_EW hw
  obtain ⟨cl, Ar, -, S_a2, N_a2, -, -⟩ := VA
  have X0' : Stand p l e ({ frames := 2, cells := 2, slots := 4, locals := 31 } : Room) (s.setVm s.vm) m #[(.ref a1), (.ref a2)] below meth c s₁ [] 0 0 := X0
  have hZ' : Z.Warmed39 (s.setVm s.vm).vm := hZ
  obtain ⟨v3, vm3, ⟨T3, L3, k3, n3⟩, -, X3, hS3, hg3, ⟨Lc3, hQ3, l3, y3, z3, hC3⟩, st3⟩ := X0'.specialBackS hx (y := mN15) rfl hown (mvT hZ' (wd hw 11 rfl)) (mvT hZ' (wd hw 12 rfl)) (mvT hZ' (wd hw 14 rfl)) (by decide) (backOfSH (W := 0) (own_e3 l Z a0 hw [] a1 a2 c0 h0 n0 Z0 E_a1 Fv Fc g_a1) hZ (wd hw 14 rfl) (wd hw 6 rfl) (by decide) (by decide) hEL hCH) (g := (mkF m 6 #[.val (.ref a1), .val (.ref a2)] [.null, (.int (0 : Int32)), (.int (0 : Int32)), (.ref a2), (.ref a1)])) rfl (by rw [hml]; rfl) (Steps.refl _) (a := a1) (argsL := [(.ref a2), (.int (0 : Int32)), (.int (0 : Int32)), .null]) (rest := []) (lenOf pd_e2 rfl) rfl (by show 2 * 0 + _ ≤ _; exact Nat.le_of_eq rfl) (hb hby d2_6) (fun _ _ => ⟨rfl, e0, (by decide : 0 + 2 ≤ _), (by decide : 0 + 4 ≤ _)⟩)
  dsimp only [Pt.U, Pt.locs, Pt.cells, Pt.slots] at X3 l3 y3 z3 st3 hQ3 hS3 hg3 hC3
  subst l3 y3 z3
  obtain ⟨rfl, N3q, K3, Q3⟩ := hQ3
  obtain ⟨X3', hS3', hZ3, hown3⟩ := rebS (own := "java/lang/String") ((State.WarmedH.refl s).since 0) (Nat.zero_le _) X3 hS3 hg3 hZ' hown
  obtain ⟨fs, hr, hrun, hended, hEnd⟩ := X3'.leaveW hS3' (Nat.le_refl _) (v := none) (fun _ => rfl)
  refine ⟨_, _, pre0 _ ?_, hrun, hended, _, _, rfl, ?_, ?_, hEnd⟩
  · show Steps p.tables e below (s₁.setTop (mkF m 0 #[.val (.ref a1), .val (.ref a2)] [])) _
    refine XS.aloadN X0.here hx rfl (hb hby d2_0) rfl rfl ?_
    refine XS.aloadN X0.here hx rfl (hb hby d2_1) rfl rfl ?_
    show Steps p.tables e below (s₁.setTop (mkF m 2 #[.val (.ref a1), .val (.ref a2)] [(.ref a2), (.ref a1)])) _
    refine XS.iconst X0.here hx rfl (hb hby d2_2) ?_
    refine XS.aloadN X0.here hx rfl (hb hby d2_3) rfl rfl ?_
    show Steps p.tables e below (s₁.setTop (mkF m 4 #[.val (.ref a1), .val (.ref a2)] [(.ref a2), (.int (0 : Int32)), (.ref a2), (.ref a1)])) _
    refine X0.arraylength hx (by rw [e0]; exact Ar.1) (State.isArrayOf_alike hZ.alike Ar.2.1) (g := (mkF m 4 #[.val (.ref a1), .val (.ref a2)] [(.ref a2), (.int (0 : Int32)), (.ref a2), (.ref a1)])) rfl rfl (hb hby d2_4) _ ?_
    rw [len_of S_a2 N_a2]
    show Steps p.tables e below (s₁.setTop (mkF m 5 #[.val (.ref a1), .val (.ref a2)] [(.int (0 : Int32)), (.int (0 : Int32)), (.ref a2), (.ref a1)])) _
    refine XS.aconstNull X0.here hx rfl (hb hby d2_5) ?_
    show Steps p.tables e below (s₁.setTop (mkF m 6 #[.val (.ref a1), .val (.ref a2)] [.null, (.int (0 : Int32)), (.int (0 : Int32)), (.ref a2), (.ref a1)])) _
    refine st3.trans ?_
    show Steps p.tables e below (T3.setTop (mkF m 9 #[.val (.ref a1), .val (.ref a2)] [])) _
    exact X3'.returnOut hx Bd.returns (hb hby d2_9) hr
  · show own_QE Z a1 h0 n0 _ T3.heap _
    exact ⟨rfl, Fr.app N0 N3q, K3, Q3⟩
  · show CHr Z own_EL s.vm s.heap T3.vm T3.heap
    rw [hh]; exact hC3
theorem own_ch (x : Int32) : ¬ nar .char ((x &&& (255 : Int32)).toUInt32.toUInt16.toUInt32.toInt32) < 0 ∧ ¬ (255 : Int32) < nar .char ((x &&& (255 : Int32)).toUInt32.toUInt16.toUInt32.toInt32) := by
  rw [show nar .char ((x &&& (255 : Int32)).toUInt32.toUInt16.toUInt32.toInt32) = x &&& 255 from by simp only [nar, i2c_mask]]
  have h1 := c_mask x (255 : Int32) 8 (by decide) (by decide)
  constructor
  · rw [Int32.lt_iff_toInt_lt]; have : (0 : Int32).toInt = 0 := by decide
    omega
  · rw [Int32.lt_iff_toInt_lt]; have : (255 : Int32).toInt = 255 := by decide
    omega
theorem own_c255 (x : Int32) : ¬ (255 : Int32) < ((x &&& (255 : Int32)).toUInt32.toUInt16.toUInt32.toInt32) := by
  rw [i2c_mask]
  have h1 := c_mask x (255 : Int32) 8 (by decide) (by decide)
  rw [Int32.lt_iff_toInt_lt]; have : (255 : Int32).toInt = 255 := by decide
  omega
theorem own_shr (z : Int32) : z >>> ((0 : Int32) &&& 31) = z := by
  rw [show ((0 : Int32) &&& 31) = 0 from by decide +kernel]
  exact Int32.shiftRight_zero
theorem own_monoW {s t : State} {o : Outcome} {L : List Loc} {k n k' n' : Nat} (h : ReturnedEndW s o t L k n) (hk : k ≤ k') (hn : n ≤ n') : ReturnedEndW s o t L k' n' := ⟨h.1, h.2.1, h.2.2.1, h.2.2.2.mono hk hn⟩
theorem d22_0 : decode jdk_42_method_66_code 0 = .ok (.aload_n 0, 1) := by decide +kernel
theorem d22_1 : decode jdk_42_method_66_code 1 = .ok (.aload_n 1, 1) := by decide +kernel
theorem d22_2 : decode jdk_42_method_66_code 2 = .ok (.if_acmp .ne 5, 3) := by decide +kernel
theorem d22_5 : decode jdk_42_method_66_code 5 = .ok (.iconst 1, 1) := by decide +kernel
theorem d22_6 : decode jdk_42_method_66_code 6 = .ok (.ireturn, 1) := by decide +kernel
theorem pn_22 : plainName "java/lang/String" = true := by first | (simp [plainName, overriddenIn]; done) | decide +kernel
theorem ef_22 (m : MethodId) (x0 : Addr) (x1 : Addr) : entryFrame m #[(.ref x0), (.ref x1)] 3 = mkF m 0 #[.val (.ref x0), .val (.ref x1), .unset] [] := by first | (simp [entryFrame, mkF, argsToLocals, Value.category]; done) | rfl
def Q22 (Z : State) (a1 : Addr) (a2 : Addr) (h0 : Heap) (n0 : Nat) (v : Option Value) (h : Heap) (L : List Loc) : Prop := v = some (.int (1 : Int32)) ∧ Fr n0 L ∧ h = h0
set_option maxRecDepth 65536 in
set_option maxHeartbeats 40000000 in
theorem rm22 (l : Launch) (Z : State) (a0 : Array Value) (hw : ∀ d ∈ tables_1, d.before a0 Z = true) (ws : List Jvm.Cond) (a1 : Addr) (a2 : Addr) (h0 : Heap) (n0 : Nat) (Z0 : n0 ≤ h0.size) (ha2 : a1 = a2) :
    MetFree l mN16 (head1 (Jvm.Cond.code mN16 jdk_42_method_66_code 3 (some .boolean) :: ws) ({ frames := 0, cells := 0, slots := 0, locals := 0 } : Room)) (fun a U => a = #[(.ref a1), (.ref a2)] ∧ Z.Warmed39 U.vm ∧ U.heap = h0) (fun _ _ _ _ _ => True) (fun _ U o U' => ∃ v L, o = .returned v ∧ Q22 Z a1 a2 h0 n0 v U'.heap L ∧ FrameEnd U o U' L ({ frames := 0, cells := 0, slots := 0, locals := 0 } : Room).cells ({ frames := 0, cells := 0, slots := 0, locals := 0 } : Room).slots) := by
  refine MetFree.of_bodySF (plainFor_of_name pn_22) hisR ?_
  intro p e s m args below meth c s₁ Bd hml0 hP hK
  obtain ⟨rfl, hZ, hh⟩ := hP
  have hx := Bd.exec
  have hby := Bd.bytes
  have hml : c.maxLocals = 3 := hml0
  have hown : s.vm.findClass "java/lang/String" = some m.cls := findClass_of_methodNamed Bd.named
  have hnm := (name_of_methodNamed Bd.named Bd.method).1
  have X0 : Stand p l e ({ frames := 0, cells := 0, slots := 0, locals := 0 } : Room) s m #[(.ref a1), (.ref a2)] below meth c s₁ [] 0 0 := Stand.of_body Bd
  have e0 : s₁.heap = h0 := by rw [← hh, Bd.state]; rfl
  have N0 := Fr.nil n0
  have pre0 : ∀ t, Steps p.tables e below (s₁.setTop (mkF m 0 #[.val (.ref a1), .val (.ref a2), .unset] [])) t → Steps p.tables e below (s₁.setTop (entryFrame m #[(.ref a1), (.ref a2)] 3)) t := fun t k => castTop (ef_22 m a1 a2) k

  obtain ⟨fs, hr, hrun, hended, hW, hsame⟩ := X0.leave (v := some (.int (1 : Int32))) (fun h => by rw [Bd.returns] at h; cases h)
  refine ⟨_, _, pre0 _ ?_, hrun, hended, _, _, rfl, ?_, ⟨_, rfl⟩, hW, hsame.mono (by decide) (by decide)⟩
  · show Steps p.tables e below (s₁.setTop (mkF m 0 #[.val (.ref a1), .val (.ref a2), .unset] [])) _
    refine XS.aloadN X0.here hx rfl (hb hby d22_0) rfl rfl ?_
    refine XS.aloadN X0.here hx rfl (hb hby d22_1) rfl rfl ?_
    show Steps p.tables e below (s₁.setTop (mkF m 2 #[.val (.ref a1), .val (.ref a2), .unset] [(.ref a2), (.ref a1)])) _
    refine Jvm.RoadKit.acmp (g := (mkF m 2 #[.val (.ref a1), .val (.ref a2), .unset] [(.ref a2), (.ref a1)])) X0 hx rfl rfl rfl (pc0 := 2) (pc' := 5) (same := true) rfl (hb hby d22_2) rfl (decide_eq_true (congrArg Value.ref ha2)) (by decide) (by decide) ?_
    show Steps p.tables e below (s₁.setTop (mkF m 5 #[.val (.ref a1), .val (.ref a2), .unset] [])) _
    refine XS.iconst X0.here hx rfl (hb hby d22_5) ?_
    show Steps p.tables e below (s₁.setTop (mkF m 6 #[.val (.ref a1), .val (.ref a2), .unset] [(.int (1 : Int32))])) _
    exact retN X0 hx (t := .boolean) Bd.returns (by simp) (hb hby d22_6) hr
  · show Q22 Z a1 a2 h0 n0 _ s₁.heap _
    rw [e0]
    exact ⟨rfl, N0, rfl⟩
/-- C's chain of superclasses doesn't meet K, K an instantiable class -/
theorem own_nsroot {Z : State} {a0 : Array Value} {O K : String} {n : Nat} (w : (Jvm.Cond.noSuperclass O).before a0 Z = true) (wk : (Jvm.Cond.instantiable K n).before a0 Z = true) (hn : O ≠ K) : NS Z O K := by
  obtain ⟨c, k, h1, h2, h3, -, -⟩ := Cond.noSuperclass_spec w
  obtain ⟨t, kt, g1, -⟩ := Cond.instantiable_spec wk
  have ne := ids_ne h1 g1 hn
  refine ⟨c, t, h1, g1, fun fuel => ?_⟩
  cases fuel with
  | zero => rfl
  | succ f => simp [Vm.isSubclassAux, ne, h2, h3]
theorem own_nsno {Z : State} {a0 : Array Value} {C S K : String} {n : Nat} (w : (Jvm.Cond.superclass C S).before a0 Z = true) (wk : (Jvm.Cond.instantiable K n).before a0 Z = true) (m : NS Z C K) (hn : C ≠ K) : ∃ c t, Z.vm.findClass C = some c ∧ Z.vm.findClass K = some t ∧ Z.vm.assignable c t = false := by
  obtain ⟨c, t, h0, g0, n3⟩ := m
  obtain ⟨p, k, kp, h1, h2, h3, h4, h5, -, h7⟩ := Cond.superclass_spec h0 w
  obtain ⟨t', k', g1, g2, g5, g7, -, -⟩ := Cond.instantiable_spec wk
  cases g0.symm.trans g1
  have g8 : k'.isInterface = false := by cases hq : k'.isInterface <;> simp [hq] at g7 ⊢
  have ne := ids_ne h0 g0 hn
  refine ⟨c, t, h0, g0, ?_⟩
  show Z.vm.assignableAux (255 + 1) c t = false
  simp [Vm.assignableAux, ne, h2, g2, h5, g5, g8, Vm.isSubclass, n3]
section own_mir
variable {p : Program} {l : Launch} {e : Env} {R : Room} {s : State} {m : MethodId} {args : Array Value} {below : List Frame} {meth : Method} {c : Code} {T : State} {locs : List Loc} {cells slots : Nat} {Z : State} {h : Heap}
theorem own_ldcM (X : Stand p l e R s m args below meth c T locs cells slots) (hx : p.tables.exec = Jvm.exec) (hZ : Z.Warmed39 s.vm) {a0 : Array Value} {own C : String} {index : Nat} (hown : s.vm.findClass own = some m.cls) (w : (Jvm.Cond.classLink own index C).before a0 Z = true) (eT : T.heap = h) {mr : Addr} (M : Mir Z C mr)
    {g : JFrame} (hg : g.method = m) (hd : decode c.code g.pc = .ok (.ldc index, 2)) :
    ∃ T', Stand p l e R s m args below meth c T' locs cells slots ∧ T'.heap = h ∧ ∀ target, Steps p.tables e below (T'.setTop { g with pc := g.pc + 2, stack := .ref mr :: g.stack }) target → Steps p.tables e below (T.setTop g) target := by
  obtain ⟨cc, k, m1, m2, m3, -⟩ := M
  obtain ⟨k', q, ek⟩ := hZ.alike.2.2 _ _ m2
  have hev : (Term.mirror C).eval args s none [] s = some (.ref mr) := by
    have f : s.vm.findClass C = some cc := by rw [hZ.alike.findClass]; exact m1
    have mm : k'.mirror = some mr := by rw [ek]; exact m3
    simp [Term.eval, f, q, mm]
  obtain ⟨vm', X', st⟩ := X.ldcMirror hx hown (mvT hZ w) hev hg hd
  exact ⟨_, X', eT, st⟩
end own_mir
theorem own_staE {Z : State} {h h' : Heap} {C n d K : String} {v : Value} {a : Addr} (S : Sta Z h C n d v) (E : Exa Z h a K) (Kp : Keep h h' [a]) : Sta Z h' C n d v := by
  obtain ⟨cf, i, k, f, st, cell, h1, h2, h3, h4, h5, h6, r⟩ := S
  have hne : st ≠ a := fun e => by
    obtain ⟨c2, k2, e1, -, -, e4, -⟩ := E
    subst e
    cases h5.symm.trans e1
    rw [h6] at e4; cases e4
  exact ⟨cf, i, k, f, st, cell, h1, h2, h3, h4, Kp.2.1 _ _ h5 (ninS hne nin0), h6, r⟩
def own_QS (Z : State) (h0 : Heap) (n0 : Nat) (v : Option Value) (h : Heap) (L : List Loc) : Prop := ∃ (x : Addr) (z : Int32) (vs : List Value), v = some (.ref x) ∧ Fr n0 L ∧ Keep h0 h [] ∧ own_Str Z h x z vs
theorem d1_0 : decode method_2_code 0 = .ok (.iload_n 0, 1) := by decide +kernel
theorem d1_1 : decode method_2_code 1 = .ok (.bipush 16, 2) := by decide +kernel
theorem d1_3 : decode method_2_code 3 = .ok (.iushr, 1) := by decide +kernel
theorem d1_4 : decode method_2_code 4 = .ok (.iconst 3, 1) := by decide +kernel
theorem d1_5 : decode method_2_code 5 = .ok (.iand, 1) := by decide +kernel
theorem d1_6 : decode method_2_code 6 = .ok (.istore_n 1, 1) := by decide +kernel
theorem d1_7 : decode method_2_code 7 = .ok (.iload_n 0, 1) := by decide +kernel
theorem d1_8 : decode method_2_code 8 = .ok (.sipush 255, 3) := by decide +kernel
theorem d1_11 : decode method_2_code 11 = .ok (.iand, 1) := by decide +kernel
theorem d1_12 : decode method_2_code 12 = .ok (.i2c, 1) := by decide +kernel
theorem d1_13 : decode method_2_code 13 = .ok (.istore_n 2, 1) := by decide +kernel
theorem d1_14 : decode method_2_code 14 = .ok (.iload_n 0, 1) := by decide +kernel
theorem d1_15 : decode method_2_code 15 = .ok (.bipush 8, 2) := by decide +kernel
theorem d1_17 : decode method_2_code 17 = .ok (.iushr, 1) := by decide +kernel
theorem d1_18 : decode method_2_code 18 = .ok (.sipush 255, 3) := by decide +kernel
theorem d1_21 : decode method_2_code 21 = .ok (.iand, 1) := by decide +kernel
theorem d1_22 : decode method_2_code 22 = .ok (.i2c, 1) := by decide +kernel
theorem d1_23 : decode method_2_code 23 = .ok (.istore_n 3, 1) := by decide +kernel
theorem d1_24 : decode method_2_code 24 = .ok (.iload_n 1, 1) := by decide +kernel
theorem d1_25 : decode method_2_code 25 = .ok (.ifCond .ne 14, 3) := by decide +kernel
theorem d1_39 : decode method_2_code 39 = .ok (.iload_n 1, 1) := by decide +kernel
theorem d1_40 : decode method_2_code 40 = .ok (.iconst 1, 1) := by decide +kernel
theorem d1_41 : decode method_2_code 41 = .ok (.if_icmp .ne 18, 3) := by decide +kernel
theorem d1_44 : decode method_2_code 44 = .ok (.new 7, 3) := by decide +kernel
theorem d1_47 : decode method_2_code 47 = .ok (.dup, 1) := by decide +kernel
theorem d1_48 : decode method_2_code 48 = .ok (.iconst 1, 1) := by decide +kernel
theorem d1_49 : decode method_2_code 49 = .ok (.newarray .char, 2) := by decide +kernel
theorem d1_51 : decode method_2_code 51 = .ok (.dup, 1) := by decide +kernel
theorem d1_52 : decode method_2_code 52 = .ok (.iconst 0, 1) := by decide +kernel
theorem d1_53 : decode method_2_code 53 = .ok (.iload_n 2, 1) := by decide +kernel
theorem d1_54 : decode method_2_code 54 = .ok (.castore, 1) := by decide +kernel
theorem d1_55 : decode method_2_code 55 = .ok (.invokespecial 9, 3) := by decide +kernel
theorem d1_58 : decode method_2_code 58 = .ok (.areturn, 1) := by decide +kernel
theorem pn_1 : plainName "com/example/tenacious_courier/tenaciouscourier/model/EndpointRegisteredPinLaw" = true := by first | (simp [plainName, overriddenIn]; done) | decide +kernel
theorem pd_1_1 : parseMethodDescriptor "([C)V" = some ⟨[(.array .char)], none⟩ := by decide +kernel
theorem ef_1 (m : MethodId) (x0 : Int32) : entryFrame m #[(.int x0)] 4 = mkF m 0 #[.val (.int x0), .unset, .unset, .unset] [] := by first | (simp [entryFrame, mkF, argsToLocals, Value.category]; done) | rfl
set_option maxRecDepth 65536 in
set_option maxHeartbeats 40000000 in
theorem rm1b (l : Launch) (Z : State) (a0 : Array Value) (hw : ∀ d ∈ tables_1, d.before a0 Z = true) (ws : List Jvm.Cond) (p2 w : Int32) (h0 : Heap) (n0 : Nat) (Z0 : n0 ≤ h0.size) (S_CS : Sta Z h0 "java/lang/String" "COMPACT_STRINGS" "Z" (.int w)) (hcs : ¬ (w = (0 : Int32))) (hc25 : ¬ ((((p2.toUInt32 >>> ((16 : Int32) &&& 31).toUInt32).toInt32) &&& (3 : Int32)) = (0 : Int32))) (hc41 : (((p2.toUInt32 >>> ((16 : Int32) &&& 31).toUInt32).toInt32) &&& (3 : Int32)) = (1 : Int32)) :
    MetFree l mN11 (head1 (Jvm.Cond.code mN11 method_2_code 4 (some (.object "java/lang/String")) :: ws) ({ frames := 4, cells := 4, slots := 12, locals := 66 } : Room)) (fun a U => a = #[(.int p2)] ∧ Z.Warmed39 U.vm ∧ U.heap = h0) (fun _ _ _ _ _ => True) (fun _ U o U' => ∃ v L, o = .returned v ∧ own_QS Z  h0 n0 v U'.heap L ∧ FrameEnd U o U' L ({ frames := 4, cells := 4, slots := 12, locals := 66 } : Room).cells ({ frames := 4, cells := 4, slots := 12, locals := 66 } : Room).slots) := by
  refine MetFree.of_bodySF (plainFor_of_name pn_1) hisR ?_
  intro p e s m args below meth c s₁ Bd hml0 hP hK
  obtain ⟨rfl, hZ, hh⟩ := hP
  have hx := Bd.exec
  have hby := Bd.bytes
  have hml : c.maxLocals = 4 := hml0
  have hown : s.vm.findClass "com/example/tenacious_courier/tenaciouscourier/model/EndpointRegisteredPinLaw" = some m.cls := findClass_of_methodNamed Bd.named
  have hnm := (name_of_methodNamed Bd.named Bd.method).1
  have X0 : Stand p l e ({ frames := 4, cells := 4, slots := 12, locals := 66 } : Room) s m #[(.int p2)] below meth c s₁ [] 0 0 := Stand.of_body Bd
  have e0 : s₁.heap = h0 := by rw [← hh, Bd.state]; rfl
  have N0 := Fr.nil n0
  have pre0 : ∀ t, Steps p.tables e below (s₁.setTop (mkF m 0 #[.val (.int p2), .unset, .unset, .unset] [])) t → Steps p.tables e below (s₁.setTop (entryFrame m #[(.int p2)] 4)) t := fun t k => castTop (ef_1 m p2) k
  obtain ⟨T3, h3, X3, e3, E3, A3, D3, -, st3⟩ := newO X0 hx hZ hown (wd hw 4 rfl) (wd hw 5 rfl) (wd hw 6 rfl) e0 (g := (mkF m 44 #[.val (.int p2), .val (.int (((p2.toUInt32 >>> ((16 : Int32) &&& 31).toUInt32).toInt32) &&& (3 : Int32))), .val (.int ((p2 &&& (255 : Int32)).toUInt32.toUInt16.toUInt32.toInt32)), .val (.int ((((p2.toUInt32 >>> ((8 : Int32) &&& 31).toUInt32).toInt32) &&& (255 : Int32)).toUInt32.toUInt16.toUInt32.toInt32))] [])) rfl (hb hby d1_44) (by decide) (by decide)
  obtain ⟨b3, g3⟩ : ∃ z, z = h0.size := ⟨_, rfl⟩
  rw [← g3] at A3 D3 st3
  have F_value_b3 : Fld Z h3 b3 "java/lang/String" "value" "[B" .null := D3 (Or.inr (wd hw 20 rfl)) (ty := (.array .byte)) (by decide)
  have F_coder_b3 : Fld Z h3 b3 "java/lang/String" "coder" "B" (.int (0 : Int32)) := D3 (Or.inr (wd hw 21 rfl)) (ty := .byte) (by decide)
  have E_b3 := A3
  have g_b3 : n0 ≤ b3 := Nat.le_trans Z0 (Nat.le_of_eq g3.symm)
  have sz_b3 : h0.size ≤ b3 := (Nat.le_trans (Keep.refl h0 []).1 (Nat.le_of_eq g3.symm))
  have K3 : Keep h0 h3 [] := (Keep.refl h0 []).ext E3
  obtain ⟨T4, h4, k4, X4, e4, E4, A4, st4⟩ := newP X3 hx hZ (wd hw 7 rfl) e3 (g := (mkF m 49 #[.val (.int p2), .val (.int (((p2.toUInt32 >>> ((16 : Int32) &&& 31).toUInt32).toInt32) &&& (3 : Int32))), .val (.int ((p2 &&& (255 : Int32)).toUInt32.toUInt16.toUInt32.toInt32)), .val (.int ((((p2.toUInt32 >>> ((8 : Int32) &&& 31).toUInt32).toInt32) &&& (255 : Int32)).toUInt32.toUInt16.toUInt32.toInt32))] [(.int (1 : Int32)), (.ref b3), (.ref b3)])) rfl (hb hby d1_49) rfl (by decide) (cap := 1) (by decide) (by decide) (by decide) (by decide)
  obtain ⟨b4, g4⟩ : ∃ z, z = h3.size := ⟨_, rfl⟩
  rw [← g4] at A4 st4
  have V_b4 : Arv Z h4 b4 k4 .char (1 : Int32) [(.int (0 : Int32))] (.int (0 : Int32)) := (Arv.new A4 (by decide)).pad (pad_rep [] (.int (0 : Int32)) 1)
  have g_b4 : n0 ≤ b4 := Nat.le_trans (Nat.le_trans Z0 E3.1) (Nat.le_of_eq g4.symm)
  have sz_b4 : h0.size ≤ b4 := (Nat.le_trans K3.1 (Nat.le_of_eq g4.symm))
  have K4 : Keep h0 h4 [] := K3.ext E4
  obtain ⟨cl_b4_54, Ar_b4, q_b4, S_b4, N_b4, H_b4, G_b4⟩ := V_b4
  have hin54 : ¬ ((0 : Int32) < 0 ∨ cl_b4_54.slots.size ≤ ((0 : Int32)).toNatClampNeg) := inb_of S_b4 ⟨by decide, by decide⟩
  obtain ⟨T5, h5, X5, e5, W5, st5⟩ := stC X4 hx hZ e4 Ar_b4 (j := (0 : Int32)) hin54 (g := (mkF m 54 #[.val (.int p2), .val (.int (((p2.toUInt32 >>> ((16 : Int32) &&& 31).toUInt32).toInt32) &&& (3 : Int32))), .val (.int ((p2 &&& (255 : Int32)).toUInt32.toUInt16.toUInt32.toInt32)), .val (.int ((((p2.toUInt32 >>> ((8 : Int32) &&& 31).toUInt32).toInt32) &&& (255 : Int32)).toUInt32.toUInt16.toUInt32.toInt32))] [(.int ((p2 &&& (255 : Int32)).toUInt32.toUInt16.toUInt32.toInt32)), (.int (0 : Int32)), (.ref b4), (.ref b4), (.ref b3), (.ref b3)])) rfl rfl (hb hby d1_54)
  have V_b4_5 := Arv.set Ar_b4 q_b4 S_b4 N_b4 H_b4 G_b4 (fits_nar_char _) W5 0 rfl (Nat.le_of_ble_eq_true rfl)
  have K5 : Keep h0 h5 [] := K4.wr W5 (Or.inr sz_b4)
  have N5 := Fr.snoc X5 N0 g_b4
  have hws : ∀ d ∈ StrChars.Road.words, d.before a0 Z = true := fun d hd => hw d ((by decide +kernel : ∀ d ∈ StrChars.Road.words, d ∈ tables_1) d hd)
  have hlat : ∀ c ∈ [nar .char ((p2 &&& (255 : Int32)).toUInt32.toUInt16.toUInt32.toInt32)], ¬ c < 0 ∧ ¬ (255 : Int32) < c := by
    intro c hc
    simp only [List.mem_cons, List.not_mem_nil, or_false] at hc
    rcases hc with rfl
    all_goals exact own_ch _
  have ne34 : b3 ≠ b4 := Nat.ne_of_lt (Nat.lt_of_lt_of_le E_b3.lt (Nat.le_of_eq g4.symm))
  obtain ⟨_, _, ⟨T6, L6, k6, n6⟩, -, X6, ⟨Lc6, hQ6, l6, y6, z6⟩, st6⟩ := X5.specialBack hx (y := mN14) rfl hown (mvT hZ (wd hw 8 rfl)) (mvT hZ (wd hw 9 rfl)) (mvT hZ (wd hw 10 rfl)) (by decide) (StrChars.Road.backV (W := 1) hZ hws (kI := 4) (wd hw 5 rfl) (x := b3) (b := b4) (cs := [nar .char ((p2 &&& (255 : Int32)).toUInt32.toUInt16.toUInt32.toInt32)]) (bs := [(nar .char ((p2 &&& (255 : Int32)).toUInt32.toUInt16.toUInt32.toInt32)).toInt8.toInt32]) (n := 1) (n0 := n0) g_b3 (Nat.le_trans Z0 K5.1) ((E_b3.ext E4).wr W5) ((F_value_b3.ext E4).other W5 (Or.inl ne34)) ((F_coder_b3.ext E4).other W5 (Or.inl ne34)) V_b4_5 (own_staK S_CS K5) hcs rfl rfl (by decide) (by decide) hlat rfl (by decide) (by decide)) (g := (mkF m 55 #[.val (.int p2), .val (.int (((p2.toUInt32 >>> ((16 : Int32) &&& 31).toUInt32).toInt32) &&& (3 : Int32))), .val (.int ((p2 &&& (255 : Int32)).toUInt32.toUInt16.toUInt32.toInt32)), .val (.int ((((p2.toUInt32 >>> ((8 : Int32) &&& 31).toUInt32).toInt32) &&& (255 : Int32)).toUInt32.toUInt16.toUInt32.toInt32))] [(.ref b4), (.ref b3), (.ref b3)])) rfl (by rw [hml]; rfl) (Steps.refl _) (a := b3) (argsL := [(.ref b4)]) (rest := [(.ref b3)]) (lenOf pd_1_1 rfl) rfl (by show 2 * 0 + _ ≤ _; exact Nat.le_of_eq rfl) (hb hby d1_55) (fun _ _ => ⟨rfl, e5, (by decide : 2 + 1 ≤ _), (by decide : 5 + 1 ≤ _)⟩)
  dsimp only [Pt.U, Pt.locs, Pt.cells, Pt.slots] at X6 l6 y6 z6 st6 hQ6
  subst l6 y6 z6
  obtain ⟨rfl, N6q, KQ, EQ, FcQ, tQ, kQ, -, -, -, FvQ, VQ⟩ := hQ6
  have N6 := Fr.app N5 N6q
  obtain ⟨fs, hr, hrun, hended, hW, hsame⟩ := X6.leave (v := some (.ref b3)) (fun h => by rw [Bd.returns] at h; cases h)
  refine ⟨_, _, pre0 _ ?_, hrun, hended, _, _, rfl, ?_, ⟨_, rfl⟩, hW, hsame.mono (by decide) (by decide)⟩
  · show Steps p.tables e below (s₁.setTop (mkF m 0 #[.val (.int p2), .unset, .unset, .unset] [])) _
    refine XS.iloadN X0.here hx rfl (hb hby d1_0) rfl ?_
    refine XS.bipush X0.here hx rfl (hb hby d1_1) ?_
    show Steps p.tables e below (s₁.setTop (mkF m 3 #[.val (.int p2), .unset, .unset, .unset] [(.int (16 : Int32)), (.int p2)])) _
    refine XS.iushr X0.here hx rfl (hb hby d1_3) rfl ?_
    refine XS.iconst X0.here hx rfl (hb hby d1_4) ?_
    show Steps p.tables e below (s₁.setTop (mkF m 5 #[.val (.int p2), .unset, .unset, .unset] [(.int (3 : Int32)), (.int ((p2.toUInt32 >>> ((16 : Int32) &&& 31).toUInt32).toInt32))])) _
    refine XS.iand X0.here hx rfl (hb hby d1_5) rfl ?_
    refine XS.istoreN X0.here hx rfl (hb hby d1_6) rfl (l' := #[.val (.int p2), .val (.int (((p2.toUInt32 >>> ((16 : Int32) &&& 31).toUInt32).toInt32) &&& (3 : Int32))), .unset, .unset]) rfl ?_
    show Steps p.tables e below (s₁.setTop (mkF m 7 #[.val (.int p2), .val (.int (((p2.toUInt32 >>> ((16 : Int32) &&& 31).toUInt32).toInt32) &&& (3 : Int32))), .unset, .unset] [])) _
    refine XS.iloadN X0.here hx rfl (hb hby d1_7) rfl ?_
    refine XS.sipush X0.here hx rfl (hb hby d1_8) ?_
    show Steps p.tables e below (s₁.setTop (mkF m 11 #[.val (.int p2), .val (.int (((p2.toUInt32 >>> ((16 : Int32) &&& 31).toUInt32).toInt32) &&& (3 : Int32))), .unset, .unset] [(.int (255 : Int32)), (.int p2)])) _
    refine XS.iand X0.here hx rfl (hb hby d1_11) rfl ?_
    refine XS.i2c X0.here hx rfl (hb hby d1_12) rfl ?_
    show Steps p.tables e below (s₁.setTop (mkF m 13 #[.val (.int p2), .val (.int (((p2.toUInt32 >>> ((16 : Int32) &&& 31).toUInt32).toInt32) &&& (3 : Int32))), .unset, .unset] [(.int ((p2 &&& (255 : Int32)).toUInt32.toUInt16.toUInt32.toInt32))])) _
    refine XS.istoreN X0.here hx rfl (hb hby d1_13) rfl (l' := #[.val (.int p2), .val (.int (((p2.toUInt32 >>> ((16 : Int32) &&& 31).toUInt32).toInt32) &&& (3 : Int32))), .val (.int ((p2 &&& (255 : Int32)).toUInt32.toUInt16.toUInt32.toInt32)), .unset]) rfl ?_
    refine XS.iloadN X0.here hx rfl (hb hby d1_14) rfl ?_
    show Steps p.tables e below (s₁.setTop (mkF m 15 #[.val (.int p2), .val (.int (((p2.toUInt32 >>> ((16 : Int32) &&& 31).toUInt32).toInt32) &&& (3 : Int32))), .val (.int ((p2 &&& (255 : Int32)).toUInt32.toUInt16.toUInt32.toInt32)), .unset] [(.int p2)])) _
    refine XS.bipush X0.here hx rfl (hb hby d1_15) ?_
    refine XS.iushr X0.here hx rfl (hb hby d1_17) rfl ?_
    show Steps p.tables e below (s₁.setTop (mkF m 18 #[.val (.int p2), .val (.int (((p2.toUInt32 >>> ((16 : Int32) &&& 31).toUInt32).toInt32) &&& (3 : Int32))), .val (.int ((p2 &&& (255 : Int32)).toUInt32.toUInt16.toUInt32.toInt32)), .unset] [(.int ((p2.toUInt32 >>> ((8 : Int32) &&& 31).toUInt32).toInt32))])) _
    refine XS.sipush X0.here hx rfl (hb hby d1_18) ?_
    refine XS.iand X0.here hx rfl (hb hby d1_21) rfl ?_
    show Steps p.tables e below (s₁.setTop (mkF m 22 #[.val (.int p2), .val (.int (((p2.toUInt32 >>> ((16 : Int32) &&& 31).toUInt32).toInt32) &&& (3 : Int32))), .val (.int ((p2 &&& (255 : Int32)).toUInt32.toUInt16.toUInt32.toInt32)), .unset] [(.int (((p2.toUInt32 >>> ((8 : Int32) &&& 31).toUInt32).toInt32) &&& (255 : Int32)))])) _
    refine XS.i2c X0.here hx rfl (hb hby d1_22) rfl ?_
    refine XS.istoreN X0.here hx rfl (hb hby d1_23) rfl (l' := #[.val (.int p2), .val (.int (((p2.toUInt32 >>> ((16 : Int32) &&& 31).toUInt32).toInt32) &&& (3 : Int32))), .val (.int ((p2 &&& (255 : Int32)).toUInt32.toUInt16.toUInt32.toInt32)), .val (.int ((((p2.toUInt32 >>> ((8 : Int32) &&& 31).toUInt32).toInt32) &&& (255 : Int32)).toUInt32.toUInt16.toUInt32.toInt32))]) rfl ?_
    show Steps p.tables e below (s₁.setTop (mkF m 24 #[.val (.int p2), .val (.int (((p2.toUInt32 >>> ((16 : Int32) &&& 31).toUInt32).toInt32) &&& (3 : Int32))), .val (.int ((p2 &&& (255 : Int32)).toUInt32.toUInt16.toUInt32.toInt32)), .val (.int ((((p2.toUInt32 >>> ((8 : Int32) &&& 31).toUInt32).toInt32) &&& (255 : Int32)).toUInt32.toUInt16.toUInt32.toInt32))] [])) _
    refine XS.iloadN X0.here hx rfl (hb hby d1_24) rfl ?_
    refine XS.ifYes X0.here hx rfl (pc0 := 25) (pc' := 39) rfl (hb hby d1_25) rfl ((if0 _ _).trans (feq hc25).2) (by decide) (by decide) ?_
    show Steps p.tables e below (s₁.setTop (mkF m 39 #[.val (.int p2), .val (.int (((p2.toUInt32 >>> ((16 : Int32) &&& 31).toUInt32).toInt32) &&& (3 : Int32))), .val (.int ((p2 &&& (255 : Int32)).toUInt32.toUInt16.toUInt32.toInt32)), .val (.int ((((p2.toUInt32 >>> ((8 : Int32) &&& 31).toUInt32).toInt32) &&& (255 : Int32)).toUInt32.toUInt16.toUInt32.toInt32))] [])) _
    refine XS.iloadN X0.here hx rfl (hb hby d1_39) rfl ?_
    refine XS.iconst X0.here hx rfl (hb hby d1_40) ?_
    show Steps p.tables e below (s₁.setTop (mkF m 41 #[.val (.int p2), .val (.int (((p2.toUInt32 >>> ((16 : Int32) &&& 31).toUInt32).toInt32) &&& (3 : Int32))), .val (.int ((p2 &&& (255 : Int32)).toUInt32.toUInt16.toUInt32.toInt32)), .val (.int ((((p2.toUInt32 >>> ((8 : Int32) &&& 31).toUInt32).toInt32) &&& (255 : Int32)).toUInt32.toUInt16.toUInt32.toInt32))] [(.int (1 : Int32)), (.int (((p2.toUInt32 >>> ((16 : Int32) &&& 31).toUInt32).toInt32) &&& (3 : Int32)))])) _
    refine XS.icmpNo X0.here hx rfl (hb hby d1_41) rfl (teq hc41).2 ?_
    show Steps p.tables e below (s₁.setTop (mkF m 44 #[.val (.int p2), .val (.int (((p2.toUInt32 >>> ((16 : Int32) &&& 31).toUInt32).toInt32) &&& (3 : Int32))), .val (.int ((p2 &&& (255 : Int32)).toUInt32.toUInt16.toUInt32.toInt32)), .val (.int ((((p2.toUInt32 >>> ((8 : Int32) &&& 31).toUInt32).toInt32) &&& (255 : Int32)).toUInt32.toUInt16.toUInt32.toInt32))] [])) _
    refine st3 _ ?_
    show Steps p.tables e below (T3.setTop (mkF m 47 #[.val (.int p2), .val (.int (((p2.toUInt32 >>> ((16 : Int32) &&& 31).toUInt32).toInt32) &&& (3 : Int32))), .val (.int ((p2 &&& (255 : Int32)).toUInt32.toUInt16.toUInt32.toInt32)), .val (.int ((((p2.toUInt32 >>> ((8 : Int32) &&& 31).toUInt32).toInt32) &&& (255 : Int32)).toUInt32.toUInt16.toUInt32.toInt32))] [(.ref b3)])) _
    refine XS.dup X3.here hx rfl (hb hby d1_47) rfl rfl ?_
    refine XS.iconst X3.here hx rfl (hb hby d1_48) ?_
    show Steps p.tables e below (T3.setTop (mkF m 49 #[.val (.int p2), .val (.int (((p2.toUInt32 >>> ((16 : Int32) &&& 31).toUInt32).toInt32) &&& (3 : Int32))), .val (.int ((p2 &&& (255 : Int32)).toUInt32.toUInt16.toUInt32.toInt32)), .val (.int ((((p2.toUInt32 >>> ((8 : Int32) &&& 31).toUInt32).toInt32) &&& (255 : Int32)).toUInt32.toUInt16.toUInt32.toInt32))] [(.int (1 : Int32)), (.ref b3), (.ref b3)])) _
    refine st4 _ ?_
    show Steps p.tables e below (T4.setTop (mkF m 51 #[.val (.int p2), .val (.int (((p2.toUInt32 >>> ((16 : Int32) &&& 31).toUInt32).toInt32) &&& (3 : Int32))), .val (.int ((p2 &&& (255 : Int32)).toUInt32.toUInt16.toUInt32.toInt32)), .val (.int ((((p2.toUInt32 >>> ((8 : Int32) &&& 31).toUInt32).toInt32) &&& (255 : Int32)).toUInt32.toUInt16.toUInt32.toInt32))] [(.ref b4), (.ref b3), (.ref b3)])) _
    refine XS.dup X4.here hx rfl (hb hby d1_51) rfl rfl ?_
    refine XS.iconst X4.here hx rfl (hb hby d1_52) ?_
    show Steps p.tables e below (T4.setTop (mkF m 53 #[.val (.int p2), .val (.int (((p2.toUInt32 >>> ((16 : Int32) &&& 31).toUInt32).toInt32) &&& (3 : Int32))), .val (.int ((p2 &&& (255 : Int32)).toUInt32.toUInt16.toUInt32.toInt32)), .val (.int ((((p2.toUInt32 >>> ((8 : Int32) &&& 31).toUInt32).toInt32) &&& (255 : Int32)).toUInt32.toUInt16.toUInt32.toInt32))] [(.int (0 : Int32)), (.ref b4), (.ref b4), (.ref b3), (.ref b3)])) _
    refine XS.iloadN X4.here hx rfl (hb hby d1_53) rfl ?_
    show Steps p.tables e below (T4.setTop (mkF m 54 #[.val (.int p2), .val (.int (((p2.toUInt32 >>> ((16 : Int32) &&& 31).toUInt32).toInt32) &&& (3 : Int32))), .val (.int ((p2 &&& (255 : Int32)).toUInt32.toUInt16.toUInt32.toInt32)), .val (.int ((((p2.toUInt32 >>> ((8 : Int32) &&& 31).toUInt32).toInt32) &&& (255 : Int32)).toUInt32.toUInt16.toUInt32.toInt32))] [(.int ((p2 &&& (255 : Int32)).toUInt32.toUInt16.toUInt32.toInt32)), (.int (0 : Int32)), (.ref b4), (.ref b4), (.ref b3), (.ref b3)])) _
    refine st5 _ ?_
    show Steps p.tables e below (T5.setTop (mkF m 55 #[.val (.int p2), .val (.int (((p2.toUInt32 >>> ((16 : Int32) &&& 31).toUInt32).toInt32) &&& (3 : Int32))), .val (.int ((p2 &&& (255 : Int32)).toUInt32.toUInt16.toUInt32.toInt32)), .val (.int ((((p2.toUInt32 >>> ((8 : Int32) &&& 31).toUInt32).toInt32) &&& (255 : Int32)).toUInt32.toUInt16.toUInt32.toInt32))] [(.ref b4), (.ref b3), (.ref b3)])) _
    refine st6.trans ?_
    show Steps p.tables e below (T6.setTop (mkF m 58 #[.val (.int p2), .val (.int (((p2.toUInt32 >>> ((16 : Int32) &&& 31).toUInt32).toInt32) &&& (3 : Int32))), .val (.int ((p2 &&& (255 : Int32)).toUInt32.toUInt16.toUInt32.toInt32)), .val (.int ((((p2.toUInt32 >>> ((8 : Int32) &&& 31).toUInt32).toInt32) &&& (255 : Int32)).toUInt32.toUInt16.toUInt32.toInt32))] [(.ref b3)])) _
    jvm_step X6.here [X6.here.top, hx, (hb hby d1_58), X6.method', Bd.returns, Value.isRef, FieldType.isReference]
    first | (intro acts; rw [hr _ acts rfl rfl rfl]) | rw [hr _ _ rfl rfl rfl]
    exact Steps.refl _
  · show own_QS Z  h0 n0 _ T6.heap _
    exact ⟨b3, _, _, rfl, N6, K5.trans KQ (fun x hx => Or.inr (by cases List.mem_singleton.mp hx; exact sz_b3)), ⟨EQ, FcQ, tQ, kQ, FvQ, VQ⟩⟩
theorem d1_59 : decode method_2_code 59 = .ok (.new 7, 3) := by decide +kernel
theorem d1_62 : decode method_2_code 62 = .ok (.dup, 1) := by decide +kernel
theorem d1_63 : decode method_2_code 63 = .ok (.iconst 2, 1) := by decide +kernel
theorem d1_64 : decode method_2_code 64 = .ok (.newarray .char, 2) := by decide +kernel
theorem d1_66 : decode method_2_code 66 = .ok (.dup, 1) := by decide +kernel
theorem d1_67 : decode method_2_code 67 = .ok (.iconst 0, 1) := by decide +kernel
theorem d1_68 : decode method_2_code 68 = .ok (.iload_n 2, 1) := by decide +kernel
theorem d1_69 : decode method_2_code 69 = .ok (.castore, 1) := by decide +kernel
theorem d1_70 : decode method_2_code 70 = .ok (.dup, 1) := by decide +kernel
theorem d1_71 : decode method_2_code 71 = .ok (.iconst 1, 1) := by decide +kernel
theorem d1_72 : decode method_2_code 72 = .ok (.iload_n 3, 1) := by decide +kernel
theorem d1_73 : decode method_2_code 73 = .ok (.castore, 1) := by decide +kernel
theorem d1_74 : decode method_2_code 74 = .ok (.invokespecial 9, 3) := by decide +kernel
theorem d1_77 : decode method_2_code 77 = .ok (.areturn, 1) := by decide +kernel
set_option maxRecDepth 65536 in
set_option maxHeartbeats 40000000 in
theorem rm1c (l : Launch) (Z : State) (a0 : Array Value) (hw : ∀ d ∈ tables_1, d.before a0 Z = true) (ws : List Jvm.Cond) (p2 w : Int32) (h0 : Heap) (n0 : Nat) (Z0 : n0 ≤ h0.size) (S_CS : Sta Z h0 "java/lang/String" "COMPACT_STRINGS" "Z" (.int w)) (hcs : ¬ (w = (0 : Int32))) (hc25 : ¬ ((((p2.toUInt32 >>> ((16 : Int32) &&& 31).toUInt32).toInt32) &&& (3 : Int32)) = (0 : Int32))) (hc41 : ¬ ((((p2.toUInt32 >>> ((16 : Int32) &&& 31).toUInt32).toInt32) &&& (3 : Int32)) = (1 : Int32))) :
    MetFree l mN11 (head1 (Jvm.Cond.code mN11 method_2_code 4 (some (.object "java/lang/String")) :: ws) ({ frames := 4, cells := 4, slots := 12, locals := 66 } : Room)) (fun a U => a = #[(.int p2)] ∧ Z.Warmed39 U.vm ∧ U.heap = h0) (fun _ _ _ _ _ => True) (fun _ U o U' => ∃ v L, o = .returned v ∧ own_QS Z  h0 n0 v U'.heap L ∧ FrameEnd U o U' L ({ frames := 4, cells := 4, slots := 12, locals := 66 } : Room).cells ({ frames := 4, cells := 4, slots := 12, locals := 66 } : Room).slots) := by
  refine MetFree.of_bodySF (plainFor_of_name pn_1) hisR ?_
  intro p e s m args below meth c s₁ Bd hml0 hP hK
  obtain ⟨rfl, hZ, hh⟩ := hP
  have hx := Bd.exec
  have hby := Bd.bytes
  have hml : c.maxLocals = 4 := hml0
  have hown : s.vm.findClass "com/example/tenacious_courier/tenaciouscourier/model/EndpointRegisteredPinLaw" = some m.cls := findClass_of_methodNamed Bd.named
  have hnm := (name_of_methodNamed Bd.named Bd.method).1
  have X0 : Stand p l e ({ frames := 4, cells := 4, slots := 12, locals := 66 } : Room) s m #[(.int p2)] below meth c s₁ [] 0 0 := Stand.of_body Bd
  have e0 : s₁.heap = h0 := by rw [← hh, Bd.state]; rfl
  have N0 := Fr.nil n0
  have pre0 : ∀ t, Steps p.tables e below (s₁.setTop (mkF m 0 #[.val (.int p2), .unset, .unset, .unset] [])) t → Steps p.tables e below (s₁.setTop (entryFrame m #[(.int p2)] 4)) t := fun t k => castTop (ef_1 m p2) k
  obtain ⟨T3, h3, X3, e3, E3, A3, D3, -, st3⟩ := newO X0 hx hZ hown (wd hw 4 rfl) (wd hw 5 rfl) (wd hw 6 rfl) e0 (g := (mkF m 59 #[.val (.int p2), .val (.int (((p2.toUInt32 >>> ((16 : Int32) &&& 31).toUInt32).toInt32) &&& (3 : Int32))), .val (.int ((p2 &&& (255 : Int32)).toUInt32.toUInt16.toUInt32.toInt32)), .val (.int ((((p2.toUInt32 >>> ((8 : Int32) &&& 31).toUInt32).toInt32) &&& (255 : Int32)).toUInt32.toUInt16.toUInt32.toInt32))] [])) rfl (hb hby d1_59) (by decide) (by decide)
  obtain ⟨b3, g3⟩ : ∃ z, z = h0.size := ⟨_, rfl⟩
  rw [← g3] at A3 D3 st3
  have F_value_b3 : Fld Z h3 b3 "java/lang/String" "value" "[B" .null := D3 (Or.inr (wd hw 20 rfl)) (ty := (.array .byte)) (by decide)
  have F_coder_b3 : Fld Z h3 b3 "java/lang/String" "coder" "B" (.int (0 : Int32)) := D3 (Or.inr (wd hw 21 rfl)) (ty := .byte) (by decide)
  have E_b3 := A3
  have g_b3 : n0 ≤ b3 := Nat.le_trans Z0 (Nat.le_of_eq g3.symm)
  have sz_b3 : h0.size ≤ b3 := (Nat.le_trans (Keep.refl h0 []).1 (Nat.le_of_eq g3.symm))
  have K3 : Keep h0 h3 [] := (Keep.refl h0 []).ext E3
  obtain ⟨T4, h4, k4, X4, e4, E4, A4, st4⟩ := newP X3 hx hZ (wd hw 7 rfl) e3 (g := (mkF m 64 #[.val (.int p2), .val (.int (((p2.toUInt32 >>> ((16 : Int32) &&& 31).toUInt32).toInt32) &&& (3 : Int32))), .val (.int ((p2 &&& (255 : Int32)).toUInt32.toUInt16.toUInt32.toInt32)), .val (.int ((((p2.toUInt32 >>> ((8 : Int32) &&& 31).toUInt32).toInt32) &&& (255 : Int32)).toUInt32.toUInt16.toUInt32.toInt32))] [(.int (2 : Int32)), (.ref b3), (.ref b3)])) rfl (hb hby d1_64) rfl (by decide) (cap := 2) (by decide) (by decide) (by decide) (by decide)
  obtain ⟨b4, g4⟩ : ∃ z, z = h3.size := ⟨_, rfl⟩
  rw [← g4] at A4 st4
  have V_b4 : Arv Z h4 b4 k4 .char (2 : Int32) [(.int (0 : Int32)), (.int (0 : Int32))] (.int (0 : Int32)) := (Arv.new A4 (by decide)).pad (pad_rep [] (.int (0 : Int32)) 2)
  have g_b4 : n0 ≤ b4 := Nat.le_trans (Nat.le_trans Z0 E3.1) (Nat.le_of_eq g4.symm)
  have sz_b4 : h0.size ≤ b4 := (Nat.le_trans K3.1 (Nat.le_of_eq g4.symm))
  have K4 : Keep h0 h4 [] := K3.ext E4
  obtain ⟨cl_b4_69, Ar_b4, q_b4, S_b4, N_b4, H_b4, G_b4⟩ := V_b4
  have hin69 : ¬ ((0 : Int32) < 0 ∨ cl_b4_69.slots.size ≤ ((0 : Int32)).toNatClampNeg) := inb_of S_b4 ⟨by decide, by decide⟩
  obtain ⟨T5, h5, X5, e5, W5, st5⟩ := stC X4 hx hZ e4 Ar_b4 (j := (0 : Int32)) hin69 (g := (mkF m 69 #[.val (.int p2), .val (.int (((p2.toUInt32 >>> ((16 : Int32) &&& 31).toUInt32).toInt32) &&& (3 : Int32))), .val (.int ((p2 &&& (255 : Int32)).toUInt32.toUInt16.toUInt32.toInt32)), .val (.int ((((p2.toUInt32 >>> ((8 : Int32) &&& 31).toUInt32).toInt32) &&& (255 : Int32)).toUInt32.toUInt16.toUInt32.toInt32))] [(.int ((p2 &&& (255 : Int32)).toUInt32.toUInt16.toUInt32.toInt32)), (.int (0 : Int32)), (.ref b4), (.ref b4), (.ref b3), (.ref b3)])) rfl rfl (hb hby d1_69)
  have V_b4_5 := Arv.set Ar_b4 q_b4 S_b4 N_b4 H_b4 G_b4 (fits_nar_char _) W5 0 rfl (Nat.le_of_ble_eq_true rfl)
  have K5 : Keep h0 h5 [] := K4.wr W5 (Or.inr sz_b4)
  have N5 := Fr.snoc X5 N0 g_b4
  obtain ⟨cl_b4_73, Ar_b4, q_b4, S_b4, N_b4, H_b4, G_b4⟩ := V_b4_5
  have hin73 : ¬ ((1 : Int32) < 0 ∨ cl_b4_73.slots.size ≤ ((1 : Int32)).toNatClampNeg) := inb_of S_b4 ⟨by decide, by decide⟩
  obtain ⟨T6, h6, X6, e6, W6, st6⟩ := stC X5 hx hZ e5 Ar_b4 (j := (1 : Int32)) hin73 (g := (mkF m 73 #[.val (.int p2), .val (.int (((p2.toUInt32 >>> ((16 : Int32) &&& 31).toUInt32).toInt32) &&& (3 : Int32))), .val (.int ((p2 &&& (255 : Int32)).toUInt32.toUInt16.toUInt32.toInt32)), .val (.int ((((p2.toUInt32 >>> ((8 : Int32) &&& 31).toUInt32).toInt32) &&& (255 : Int32)).toUInt32.toUInt16.toUInt32.toInt32))] [(.int ((((p2.toUInt32 >>> ((8 : Int32) &&& 31).toUInt32).toInt32) &&& (255 : Int32)).toUInt32.toUInt16.toUInt32.toInt32)), (.int (1 : Int32)), (.ref b4), (.ref b4), (.ref b3), (.ref b3)])) rfl rfl (hb hby d1_73)
  have V_b4_6 := Arv.set Ar_b4 q_b4 S_b4 N_b4 H_b4 G_b4 (fits_nar_char _) W6 1 rfl (Nat.le_of_ble_eq_true rfl)
  have K6 : Keep h0 h6 [] := K5.wr W6 (Or.inr sz_b4)
  have N6 := Fr.snoc X6 N5 g_b4
  have hws : ∀ d ∈ StrChars.Road.words, d.before a0 Z = true := fun d hd => hw d ((by decide +kernel : ∀ d ∈ StrChars.Road.words, d ∈ tables_1) d hd)
  have hlat : ∀ c ∈ [nar .char ((p2 &&& (255 : Int32)).toUInt32.toUInt16.toUInt32.toInt32), nar .char ((((p2.toUInt32 >>> ((8 : Int32) &&& 31).toUInt32).toInt32) &&& (255 : Int32)).toUInt32.toUInt16.toUInt32.toInt32)], ¬ c < 0 ∧ ¬ (255 : Int32) < c := by
    intro c hc
    simp only [List.mem_cons, List.not_mem_nil, or_false] at hc
    rcases hc with rfl | rfl
    all_goals exact own_ch _
  have ne34 : b3 ≠ b4 := Nat.ne_of_lt (Nat.lt_of_lt_of_le E_b3.lt (Nat.le_of_eq g4.symm))
  obtain ⟨_, _, ⟨T7, L7, k7, n7⟩, -, X7, ⟨Lc7, hQ7, l7, y7, z7⟩, st7⟩ := X6.specialBack hx (y := mN14) rfl hown (mvT hZ (wd hw 8 rfl)) (mvT hZ (wd hw 9 rfl)) (mvT hZ (wd hw 10 rfl)) (by decide) (StrChars.Road.backV (W := 1) hZ hws (kI := 4) (wd hw 5 rfl) (x := b3) (b := b4) (cs := [nar .char ((p2 &&& (255 : Int32)).toUInt32.toUInt16.toUInt32.toInt32), nar .char ((((p2.toUInt32 >>> ((8 : Int32) &&& 31).toUInt32).toInt32) &&& (255 : Int32)).toUInt32.toUInt16.toUInt32.toInt32)]) (bs := [(nar .char ((p2 &&& (255 : Int32)).toUInt32.toUInt16.toUInt32.toInt32)).toInt8.toInt32, (nar .char ((((p2.toUInt32 >>> ((8 : Int32) &&& 31).toUInt32).toInt32) &&& (255 : Int32)).toUInt32.toUInt16.toUInt32.toInt32)).toInt8.toInt32]) (n := 2) (n0 := n0) g_b3 (Nat.le_trans Z0 K6.1) (((E_b3.ext E4).wr W5).wr W6) (((F_value_b3.ext E4).other W5 (Or.inl ne34)).other W6 (Or.inl ne34)) (((F_coder_b3.ext E4).other W5 (Or.inl ne34)).other W6 (Or.inl ne34)) V_b4_6 (own_staK S_CS K6) hcs rfl rfl (by decide) (by decide) hlat rfl (by decide) (by decide)) (g := (mkF m 74 #[.val (.int p2), .val (.int (((p2.toUInt32 >>> ((16 : Int32) &&& 31).toUInt32).toInt32) &&& (3 : Int32))), .val (.int ((p2 &&& (255 : Int32)).toUInt32.toUInt16.toUInt32.toInt32)), .val (.int ((((p2.toUInt32 >>> ((8 : Int32) &&& 31).toUInt32).toInt32) &&& (255 : Int32)).toUInt32.toUInt16.toUInt32.toInt32))] [(.ref b4), (.ref b3), (.ref b3)])) rfl (by rw [hml]; rfl) (Steps.refl _) (a := b3) (argsL := [(.ref b4)]) (rest := [(.ref b3)]) (lenOf pd_1_1 rfl) rfl (by show 2 * 0 + _ ≤ _; exact Nat.le_of_eq rfl) (hb hby d1_74) (fun _ _ => ⟨rfl, e6, (by decide : 2 + 1 ≤ _), (by decide : 6 + 2 ≤ _)⟩)
  dsimp only [Pt.U, Pt.locs, Pt.cells, Pt.slots] at X7 l7 y7 z7 st7 hQ7
  subst l7 y7 z7
  obtain ⟨rfl, N7q, KQ, EQ, FcQ, tQ, kQ, -, -, -, FvQ, VQ⟩ := hQ7
  have N7 := Fr.app N6 N7q
  obtain ⟨fs, hr, hrun, hended, hW, hsame⟩ := X7.leave (v := some (.ref b3)) (fun h => by rw [Bd.returns] at h; cases h)
  refine ⟨_, _, pre0 _ ?_, hrun, hended, _, _, rfl, ?_, ⟨_, rfl⟩, hW, hsame.mono (by decide) (by decide)⟩
  · show Steps p.tables e below (s₁.setTop (mkF m 0 #[.val (.int p2), .unset, .unset, .unset] [])) _
    refine XS.iloadN X0.here hx rfl (hb hby d1_0) rfl ?_
    refine XS.bipush X0.here hx rfl (hb hby d1_1) ?_
    show Steps p.tables e below (s₁.setTop (mkF m 3 #[.val (.int p2), .unset, .unset, .unset] [(.int (16 : Int32)), (.int p2)])) _
    refine XS.iushr X0.here hx rfl (hb hby d1_3) rfl ?_
    refine XS.iconst X0.here hx rfl (hb hby d1_4) ?_
    show Steps p.tables e below (s₁.setTop (mkF m 5 #[.val (.int p2), .unset, .unset, .unset] [(.int (3 : Int32)), (.int ((p2.toUInt32 >>> ((16 : Int32) &&& 31).toUInt32).toInt32))])) _
    refine XS.iand X0.here hx rfl (hb hby d1_5) rfl ?_
    refine XS.istoreN X0.here hx rfl (hb hby d1_6) rfl (l' := #[.val (.int p2), .val (.int (((p2.toUInt32 >>> ((16 : Int32) &&& 31).toUInt32).toInt32) &&& (3 : Int32))), .unset, .unset]) rfl ?_
    show Steps p.tables e below (s₁.setTop (mkF m 7 #[.val (.int p2), .val (.int (((p2.toUInt32 >>> ((16 : Int32) &&& 31).toUInt32).toInt32) &&& (3 : Int32))), .unset, .unset] [])) _
    refine XS.iloadN X0.here hx rfl (hb hby d1_7) rfl ?_
    refine XS.sipush X0.here hx rfl (hb hby d1_8) ?_
    show Steps p.tables e below (s₁.setTop (mkF m 11 #[.val (.int p2), .val (.int (((p2.toUInt32 >>> ((16 : Int32) &&& 31).toUInt32).toInt32) &&& (3 : Int32))), .unset, .unset] [(.int (255 : Int32)), (.int p2)])) _
    refine XS.iand X0.here hx rfl (hb hby d1_11) rfl ?_
    refine XS.i2c X0.here hx rfl (hb hby d1_12) rfl ?_
    show Steps p.tables e below (s₁.setTop (mkF m 13 #[.val (.int p2), .val (.int (((p2.toUInt32 >>> ((16 : Int32) &&& 31).toUInt32).toInt32) &&& (3 : Int32))), .unset, .unset] [(.int ((p2 &&& (255 : Int32)).toUInt32.toUInt16.toUInt32.toInt32))])) _
    refine XS.istoreN X0.here hx rfl (hb hby d1_13) rfl (l' := #[.val (.int p2), .val (.int (((p2.toUInt32 >>> ((16 : Int32) &&& 31).toUInt32).toInt32) &&& (3 : Int32))), .val (.int ((p2 &&& (255 : Int32)).toUInt32.toUInt16.toUInt32.toInt32)), .unset]) rfl ?_
    refine XS.iloadN X0.here hx rfl (hb hby d1_14) rfl ?_
    show Steps p.tables e below (s₁.setTop (mkF m 15 #[.val (.int p2), .val (.int (((p2.toUInt32 >>> ((16 : Int32) &&& 31).toUInt32).toInt32) &&& (3 : Int32))), .val (.int ((p2 &&& (255 : Int32)).toUInt32.toUInt16.toUInt32.toInt32)), .unset] [(.int p2)])) _
    refine XS.bipush X0.here hx rfl (hb hby d1_15) ?_
    refine XS.iushr X0.here hx rfl (hb hby d1_17) rfl ?_
    show Steps p.tables e below (s₁.setTop (mkF m 18 #[.val (.int p2), .val (.int (((p2.toUInt32 >>> ((16 : Int32) &&& 31).toUInt32).toInt32) &&& (3 : Int32))), .val (.int ((p2 &&& (255 : Int32)).toUInt32.toUInt16.toUInt32.toInt32)), .unset] [(.int ((p2.toUInt32 >>> ((8 : Int32) &&& 31).toUInt32).toInt32))])) _
    refine XS.sipush X0.here hx rfl (hb hby d1_18) ?_
    refine XS.iand X0.here hx rfl (hb hby d1_21) rfl ?_
    show Steps p.tables e below (s₁.setTop (mkF m 22 #[.val (.int p2), .val (.int (((p2.toUInt32 >>> ((16 : Int32) &&& 31).toUInt32).toInt32) &&& (3 : Int32))), .val (.int ((p2 &&& (255 : Int32)).toUInt32.toUInt16.toUInt32.toInt32)), .unset] [(.int (((p2.toUInt32 >>> ((8 : Int32) &&& 31).toUInt32).toInt32) &&& (255 : Int32)))])) _
    refine XS.i2c X0.here hx rfl (hb hby d1_22) rfl ?_
    refine XS.istoreN X0.here hx rfl (hb hby d1_23) rfl (l' := #[.val (.int p2), .val (.int (((p2.toUInt32 >>> ((16 : Int32) &&& 31).toUInt32).toInt32) &&& (3 : Int32))), .val (.int ((p2 &&& (255 : Int32)).toUInt32.toUInt16.toUInt32.toInt32)), .val (.int ((((p2.toUInt32 >>> ((8 : Int32) &&& 31).toUInt32).toInt32) &&& (255 : Int32)).toUInt32.toUInt16.toUInt32.toInt32))]) rfl ?_
    show Steps p.tables e below (s₁.setTop (mkF m 24 #[.val (.int p2), .val (.int (((p2.toUInt32 >>> ((16 : Int32) &&& 31).toUInt32).toInt32) &&& (3 : Int32))), .val (.int ((p2 &&& (255 : Int32)).toUInt32.toUInt16.toUInt32.toInt32)), .val (.int ((((p2.toUInt32 >>> ((8 : Int32) &&& 31).toUInt32).toInt32) &&& (255 : Int32)).toUInt32.toUInt16.toUInt32.toInt32))] [])) _
    refine XS.iloadN X0.here hx rfl (hb hby d1_24) rfl ?_
    refine XS.ifYes X0.here hx rfl (pc0 := 25) (pc' := 39) rfl (hb hby d1_25) rfl ((if0 _ _).trans (feq hc25).2) (by decide) (by decide) ?_
    show Steps p.tables e below (s₁.setTop (mkF m 39 #[.val (.int p2), .val (.int (((p2.toUInt32 >>> ((16 : Int32) &&& 31).toUInt32).toInt32) &&& (3 : Int32))), .val (.int ((p2 &&& (255 : Int32)).toUInt32.toUInt16.toUInt32.toInt32)), .val (.int ((((p2.toUInt32 >>> ((8 : Int32) &&& 31).toUInt32).toInt32) &&& (255 : Int32)).toUInt32.toUInt16.toUInt32.toInt32))] [])) _
    refine XS.iloadN X0.here hx rfl (hb hby d1_39) rfl ?_
    refine XS.iconst X0.here hx rfl (hb hby d1_40) ?_
    show Steps p.tables e below (s₁.setTop (mkF m 41 #[.val (.int p2), .val (.int (((p2.toUInt32 >>> ((16 : Int32) &&& 31).toUInt32).toInt32) &&& (3 : Int32))), .val (.int ((p2 &&& (255 : Int32)).toUInt32.toUInt16.toUInt32.toInt32)), .val (.int ((((p2.toUInt32 >>> ((8 : Int32) &&& 31).toUInt32).toInt32) &&& (255 : Int32)).toUInt32.toUInt16.toUInt32.toInt32))] [(.int (1 : Int32)), (.int (((p2.toUInt32 >>> ((16 : Int32) &&& 31).toUInt32).toInt32) &&& (3 : Int32)))])) _
    refine XS.icmpYes X0.here hx rfl (pc0 := 41) (pc' := 59) rfl (hb hby d1_41) rfl (feq hc41).2 (by decide) (by decide) ?_
    show Steps p.tables e below (s₁.setTop (mkF m 59 #[.val (.int p2), .val (.int (((p2.toUInt32 >>> ((16 : Int32) &&& 31).toUInt32).toInt32) &&& (3 : Int32))), .val (.int ((p2 &&& (255 : Int32)).toUInt32.toUInt16.toUInt32.toInt32)), .val (.int ((((p2.toUInt32 >>> ((8 : Int32) &&& 31).toUInt32).toInt32) &&& (255 : Int32)).toUInt32.toUInt16.toUInt32.toInt32))] [])) _
    refine st3 _ ?_
    show Steps p.tables e below (T3.setTop (mkF m 62 #[.val (.int p2), .val (.int (((p2.toUInt32 >>> ((16 : Int32) &&& 31).toUInt32).toInt32) &&& (3 : Int32))), .val (.int ((p2 &&& (255 : Int32)).toUInt32.toUInt16.toUInt32.toInt32)), .val (.int ((((p2.toUInt32 >>> ((8 : Int32) &&& 31).toUInt32).toInt32) &&& (255 : Int32)).toUInt32.toUInt16.toUInt32.toInt32))] [(.ref b3)])) _
    refine XS.dup X3.here hx rfl (hb hby d1_62) rfl rfl ?_
    refine XS.iconst X3.here hx rfl (hb hby d1_63) ?_
    show Steps p.tables e below (T3.setTop (mkF m 64 #[.val (.int p2), .val (.int (((p2.toUInt32 >>> ((16 : Int32) &&& 31).toUInt32).toInt32) &&& (3 : Int32))), .val (.int ((p2 &&& (255 : Int32)).toUInt32.toUInt16.toUInt32.toInt32)), .val (.int ((((p2.toUInt32 >>> ((8 : Int32) &&& 31).toUInt32).toInt32) &&& (255 : Int32)).toUInt32.toUInt16.toUInt32.toInt32))] [(.int (2 : Int32)), (.ref b3), (.ref b3)])) _
    refine st4 _ ?_
    show Steps p.tables e below (T4.setTop (mkF m 66 #[.val (.int p2), .val (.int (((p2.toUInt32 >>> ((16 : Int32) &&& 31).toUInt32).toInt32) &&& (3 : Int32))), .val (.int ((p2 &&& (255 : Int32)).toUInt32.toUInt16.toUInt32.toInt32)), .val (.int ((((p2.toUInt32 >>> ((8 : Int32) &&& 31).toUInt32).toInt32) &&& (255 : Int32)).toUInt32.toUInt16.toUInt32.toInt32))] [(.ref b4), (.ref b3), (.ref b3)])) _
    refine XS.dup X4.here hx rfl (hb hby d1_66) rfl rfl ?_
    refine XS.iconst X4.here hx rfl (hb hby d1_67) ?_
    show Steps p.tables e below (T4.setTop (mkF m 68 #[.val (.int p2), .val (.int (((p2.toUInt32 >>> ((16 : Int32) &&& 31).toUInt32).toInt32) &&& (3 : Int32))), .val (.int ((p2 &&& (255 : Int32)).toUInt32.toUInt16.toUInt32.toInt32)), .val (.int ((((p2.toUInt32 >>> ((8 : Int32) &&& 31).toUInt32).toInt32) &&& (255 : Int32)).toUInt32.toUInt16.toUInt32.toInt32))] [(.int (0 : Int32)), (.ref b4), (.ref b4), (.ref b3), (.ref b3)])) _
    refine XS.iloadN X4.here hx rfl (hb hby d1_68) rfl ?_
    show Steps p.tables e below (T4.setTop (mkF m 69 #[.val (.int p2), .val (.int (((p2.toUInt32 >>> ((16 : Int32) &&& 31).toUInt32).toInt32) &&& (3 : Int32))), .val (.int ((p2 &&& (255 : Int32)).toUInt32.toUInt16.toUInt32.toInt32)), .val (.int ((((p2.toUInt32 >>> ((8 : Int32) &&& 31).toUInt32).toInt32) &&& (255 : Int32)).toUInt32.toUInt16.toUInt32.toInt32))] [(.int ((p2 &&& (255 : Int32)).toUInt32.toUInt16.toUInt32.toInt32)), (.int (0 : Int32)), (.ref b4), (.ref b4), (.ref b3), (.ref b3)])) _
    refine st5 _ ?_
    show Steps p.tables e below (T5.setTop (mkF m 70 #[.val (.int p2), .val (.int (((p2.toUInt32 >>> ((16 : Int32) &&& 31).toUInt32).toInt32) &&& (3 : Int32))), .val (.int ((p2 &&& (255 : Int32)).toUInt32.toUInt16.toUInt32.toInt32)), .val (.int ((((p2.toUInt32 >>> ((8 : Int32) &&& 31).toUInt32).toInt32) &&& (255 : Int32)).toUInt32.toUInt16.toUInt32.toInt32))] [(.ref b4), (.ref b3), (.ref b3)])) _
    refine XS.dup X5.here hx rfl (hb hby d1_70) rfl rfl ?_
    refine XS.iconst X5.here hx rfl (hb hby d1_71) ?_
    show Steps p.tables e below (T5.setTop (mkF m 72 #[.val (.int p2), .val (.int (((p2.toUInt32 >>> ((16 : Int32) &&& 31).toUInt32).toInt32) &&& (3 : Int32))), .val (.int ((p2 &&& (255 : Int32)).toUInt32.toUInt16.toUInt32.toInt32)), .val (.int ((((p2.toUInt32 >>> ((8 : Int32) &&& 31).toUInt32).toInt32) &&& (255 : Int32)).toUInt32.toUInt16.toUInt32.toInt32))] [(.int (1 : Int32)), (.ref b4), (.ref b4), (.ref b3), (.ref b3)])) _
    refine XS.iloadN X5.here hx rfl (hb hby d1_72) rfl ?_
    show Steps p.tables e below (T5.setTop (mkF m 73 #[.val (.int p2), .val (.int (((p2.toUInt32 >>> ((16 : Int32) &&& 31).toUInt32).toInt32) &&& (3 : Int32))), .val (.int ((p2 &&& (255 : Int32)).toUInt32.toUInt16.toUInt32.toInt32)), .val (.int ((((p2.toUInt32 >>> ((8 : Int32) &&& 31).toUInt32).toInt32) &&& (255 : Int32)).toUInt32.toUInt16.toUInt32.toInt32))] [(.int ((((p2.toUInt32 >>> ((8 : Int32) &&& 31).toUInt32).toInt32) &&& (255 : Int32)).toUInt32.toUInt16.toUInt32.toInt32)), (.int (1 : Int32)), (.ref b4), (.ref b4), (.ref b3), (.ref b3)])) _
    refine st6 _ ?_
    show Steps p.tables e below (T6.setTop (mkF m 74 #[.val (.int p2), .val (.int (((p2.toUInt32 >>> ((16 : Int32) &&& 31).toUInt32).toInt32) &&& (3 : Int32))), .val (.int ((p2 &&& (255 : Int32)).toUInt32.toUInt16.toUInt32.toInt32)), .val (.int ((((p2.toUInt32 >>> ((8 : Int32) &&& 31).toUInt32).toInt32) &&& (255 : Int32)).toUInt32.toUInt16.toUInt32.toInt32))] [(.ref b4), (.ref b3), (.ref b3)])) _
    refine st7.trans ?_
    show Steps p.tables e below (T7.setTop (mkF m 77 #[.val (.int p2), .val (.int (((p2.toUInt32 >>> ((16 : Int32) &&& 31).toUInt32).toInt32) &&& (3 : Int32))), .val (.int ((p2 &&& (255 : Int32)).toUInt32.toUInt16.toUInt32.toInt32)), .val (.int ((((p2.toUInt32 >>> ((8 : Int32) &&& 31).toUInt32).toInt32) &&& (255 : Int32)).toUInt32.toUInt16.toUInt32.toInt32))] [(.ref b3)])) _
    jvm_step X7.here [X7.here.top, hx, (hb hby d1_77), X7.method', Bd.returns, Value.isRef, FieldType.isReference]
    first | (intro acts; rw [hr _ acts rfl rfl rfl]) | rw [hr _ _ rfl rfl rfl]
    exact Steps.refl _
  · show own_QS Z  h0 n0 _ T7.heap _
    exact ⟨b3, _, _, rfl, N7, K6.trans KQ (fun x hx => Or.inr (by cases List.mem_singleton.mp hx; exact sz_b3)), ⟨EQ, FcQ, tQ, kQ, FvQ, VQ⟩⟩
theorem d1_28 : decode method_2_code 28 = .ok (.new 7, 3) := by decide +kernel
theorem d1_31 : decode method_2_code 31 = .ok (.dup, 1) := by decide +kernel
theorem d1_32 : decode method_2_code 32 = .ok (.iconst 0, 1) := by decide +kernel
theorem d1_33 : decode method_2_code 33 = .ok (.newarray .char, 2) := by decide +kernel
theorem d1_35 : decode method_2_code 35 = .ok (.invokespecial 9, 3) := by decide +kernel
theorem d1_38 : decode method_2_code 38 = .ok (.areturn, 1) := by decide +kernel
set_option maxRecDepth 65536 in
set_option maxHeartbeats 40000000 in
theorem rm1a (l : Launch) (Z : State) (a0 : Array Value) (hw : ∀ d ∈ tables_1, d.before a0 Z = true) (ws : List Jvm.Cond) (p2 w : Int32) (h0 : Heap) (n0 : Nat) (Z0 : n0 ≤ h0.size) (hc25 : (((p2.toUInt32 >>> ((16 : Int32) &&& 31).toUInt32).toInt32) &&& (3 : Int32)) = (0 : Int32)) :
    MetFree l mN11 (head1 (Jvm.Cond.code mN11 method_2_code 4 (some (.object "java/lang/String")) :: ws) ({ frames := 4, cells := 4, slots := 12, locals := 66 } : Room)) (fun a U => a = #[(.int p2)] ∧ Z.Warmed39 U.vm ∧ U.heap = h0 ∧ CHv Z own_EL U.vm h0) (fun _ _ _ _ _ => True) (fun _ U o U' => ∃ v L, o = .returned v ∧ own_QS Z  h0 n0 v U'.heap L ∧ CHr Z own_EL U.vm U.heap U'.vm U'.heap ∧ ReturnedEndW U o U' L ({ frames := 4, cells := 4, slots := 12, locals := 66 } : Room).cells ({ frames := 4, cells := 4, slots := 12, locals := 66 } : Room).slots) := by
  refine MetFree.of_bodySF (plainFor_of_name pn_1) hisR ?_
  intro p e s m args below meth c s₁ Bd hml0 hP hK
  obtain ⟨rfl, hZ, hh, hCH⟩ := hP
  have hEL := own_EW hw
  have hZ' : Z.Warmed39 (s.setVm s.vm).vm := hZ
  have hx := Bd.exec
  have hby := Bd.bytes
  have hml : c.maxLocals = 4 := hml0
  have hown : s.vm.findClass "com/example/tenacious_courier/tenaciouscourier/model/EndpointRegisteredPinLaw" = some m.cls := findClass_of_methodNamed Bd.named
  have hnm := (name_of_methodNamed Bd.named Bd.method).1
  have X0 : Stand p l e ({ frames := 4, cells := 4, slots := 12, locals := 66 } : Room) s m #[(.int p2)] below meth c s₁ [] 0 0 := Stand.of_body Bd
  have e0 : s₁.heap = h0 := by rw [← hh, Bd.state]; rfl
  have N0 := Fr.nil n0
  have pre0 : ∀ t, Steps p.tables e below (s₁.setTop (mkF m 0 #[.val (.int p2), .unset, .unset, .unset] [])) t → Steps p.tables e below (s₁.setTop (entryFrame m #[(.int p2)] 4)) t := fun t k => castTop (ef_1 m p2) k
  obtain ⟨T3, h3, X3, e3, E3, A3, D3, -, st3⟩ := newO X0 hx hZ hown (wd hw 4 rfl) (wd hw 5 rfl) (wd hw 6 rfl) e0 (g := (mkF m 28 #[.val (.int p2), .val (.int (((p2.toUInt32 >>> ((16 : Int32) &&& 31).toUInt32).toInt32) &&& (3 : Int32))), .val (.int ((p2 &&& (255 : Int32)).toUInt32.toUInt16.toUInt32.toInt32)), .val (.int ((((p2.toUInt32 >>> ((8 : Int32) &&& 31).toUInt32).toInt32) &&& (255 : Int32)).toUInt32.toUInt16.toUInt32.toInt32))] [])) rfl (hb hby d1_28) (by decide) (by decide)
  obtain ⟨b3, g3⟩ : ∃ z, z = h0.size := ⟨_, rfl⟩
  rw [← g3] at A3 D3 st3
  have F_value_b3 : Fld Z h3 b3 "java/lang/String" "value" "[B" .null := D3 (Or.inr (wd hw 20 rfl)) (ty := (.array .byte)) (by decide)
  have F_coder_b3 : Fld Z h3 b3 "java/lang/String" "coder" "B" (.int (0 : Int32)) := D3 (Or.inr (wd hw 21 rfl)) (ty := .byte) (by decide)
  have E_b3 := A3
  have g_b3 : n0 ≤ b3 := Nat.le_trans Z0 (Nat.le_of_eq g3.symm)
  have sz_b3 : h0.size ≤ b3 := (Nat.le_trans (Keep.refl h0 []).1 (Nat.le_of_eq g3.symm))
  have K3 : Keep h0 h3 [] := (Keep.refl h0 []).ext E3
  obtain ⟨T4, h4, k4, X4, e4, E4, A4, st4⟩ := newP X3 hx hZ (wd hw 7 rfl) e3 (g := (mkF m 33 #[.val (.int p2), .val (.int (((p2.toUInt32 >>> ((16 : Int32) &&& 31).toUInt32).toInt32) &&& (3 : Int32))), .val (.int ((p2 &&& (255 : Int32)).toUInt32.toUInt16.toUInt32.toInt32)), .val (.int ((((p2.toUInt32 >>> ((8 : Int32) &&& 31).toUInt32).toInt32) &&& (255 : Int32)).toUInt32.toUInt16.toUInt32.toInt32))] [(.int (0 : Int32)), (.ref b3), (.ref b3)])) rfl (hb hby d1_33) rfl (by decide) (cap := 0) (by decide) (by decide) (by decide) (by decide)
  obtain ⟨b4, g4⟩ : ∃ z, z = h3.size := ⟨_, rfl⟩
  rw [← g4] at A4 st4
  have V_b4 := Arv.new A4 (by decide)
  have g_b4 : n0 ≤ b4 := Nat.le_trans (Nat.le_trans Z0 E3.1) (Nat.le_of_eq g4.symm)
  have sz_b4 : h0.size ≤ b4 := (Nat.le_trans K3.1 (Nat.le_of_eq g4.symm))
  have K4 : Keep h0 h4 [] := K3.ext E4
  have hCH4 : CHv Z own_EL s.vm h4 := CHv.ext E4 (CHv.ext E3 hCH)
  have X4' := (X4 : Stand p l e _ (s.setVm s.vm) m _ below meth c T4 _ _ _)
  obtain ⟨_, _, ⟨T5, L5, k5, n5⟩, -, X5r, hS5r, hg5, ⟨Lc5, hQ5, l5, y5, z5, hC5⟩, st5⟩ := X4'.specialBackS hx (y := mN14) rfl hown (mvT hZ' (wd hw 8 rfl)) (mvT hZ' (wd hw 9 rfl)) (mvT hZ' (wd hw 10 rfl)) (by decide) (backOfSH (W := 1) (own_e2 l Z a0 hw [] b3 b4 (.int (0 : Int32)) k4 _ h4 n0 (Nat.le_trans Z0 K4.1) (E_b3.ext E4) (F_value_b3.ext E4) (F_coder_b3.ext E4) g_b3 V_b4) hZ (wd hw 10 rfl) (wd hw 6 rfl) (by decide) (by decide) hEL hCH4) (g := (mkF m 35 #[.val (.int p2), .val (.int (((p2.toUInt32 >>> ((16 : Int32) &&& 31).toUInt32).toInt32) &&& (3 : Int32))), .val (.int ((p2 &&& (255 : Int32)).toUInt32.toUInt16.toUInt32.toInt32)), .val (.int ((((p2.toUInt32 >>> ((8 : Int32) &&& 31).toUInt32).toInt32) &&& (255 : Int32)).toUInt32.toUInt16.toUInt32.toInt32))] [(.ref b4), (.ref b3), (.ref b3)])) rfl (by rw [hml]; rfl) (Steps.refl _) (a := b3) (argsL := [(.ref b4)]) (rest := [(.ref b3)]) (lenOf pd_1_1 rfl) rfl (by show 2 * 0 + _ ≤ _; exact Nat.le_of_eq rfl) (hb hby d1_35) (fun _ _ => ⟨rfl, e4, (by decide : 2 + 2 ≤ _), (by decide : 4 + 4 ≤ _)⟩)
  dsimp only [Pt.U, Pt.locs, Pt.cells, Pt.slots] at X5r l5 y5 z5 st5 hQ5 hS5r hg5 hC5
  subst l5 y5 z5
  obtain ⟨rfl, N5q, KQ, SQ⟩ := hQ5
  obtain ⟨X5, hS5, hZ5, hown5⟩ := rebS (own := "com/example/tenacious_courier/tenaciouscourier/model/EndpointRegisteredPinLaw") ((State.WarmedH.refl s).since 0) (Nat.zero_le _) X5r hS5r hg5 hZ' hown
  have N5 := Fr.app N0 N5q
  obtain ⟨fs, hr, hrun, hended, hEnd⟩ := X5.leaveW hS5 (Nat.le_refl _) (v := some (.ref b3)) (fun h => by rw [Bd.returns] at h; cases h)
  refine ⟨_, _, pre0 _ ?_, hrun, hended, _, _, rfl, ?_, ?_, own_monoW hEnd (by decide) (by decide)⟩
  · show Steps p.tables e below (s₁.setTop (mkF m 0 #[.val (.int p2), .unset, .unset, .unset] [])) _
    refine XS.iloadN X0.here hx rfl (hb hby d1_0) rfl ?_
    refine XS.bipush X0.here hx rfl (hb hby d1_1) ?_
    show Steps p.tables e below (s₁.setTop (mkF m 3 #[.val (.int p2), .unset, .unset, .unset] [(.int (16 : Int32)), (.int p2)])) _
    refine XS.iushr X0.here hx rfl (hb hby d1_3) rfl ?_
    refine XS.iconst X0.here hx rfl (hb hby d1_4) ?_
    show Steps p.tables e below (s₁.setTop (mkF m 5 #[.val (.int p2), .unset, .unset, .unset] [(.int (3 : Int32)), (.int ((p2.toUInt32 >>> ((16 : Int32) &&& 31).toUInt32).toInt32))])) _
    refine XS.iand X0.here hx rfl (hb hby d1_5) rfl ?_
    refine XS.istoreN X0.here hx rfl (hb hby d1_6) rfl (l' := #[.val (.int p2), .val (.int (((p2.toUInt32 >>> ((16 : Int32) &&& 31).toUInt32).toInt32) &&& (3 : Int32))), .unset, .unset]) rfl ?_
    show Steps p.tables e below (s₁.setTop (mkF m 7 #[.val (.int p2), .val (.int (((p2.toUInt32 >>> ((16 : Int32) &&& 31).toUInt32).toInt32) &&& (3 : Int32))), .unset, .unset] [])) _
    refine XS.iloadN X0.here hx rfl (hb hby d1_7) rfl ?_
    refine XS.sipush X0.here hx rfl (hb hby d1_8) ?_
    show Steps p.tables e below (s₁.setTop (mkF m 11 #[.val (.int p2), .val (.int (((p2.toUInt32 >>> ((16 : Int32) &&& 31).toUInt32).toInt32) &&& (3 : Int32))), .unset, .unset] [(.int (255 : Int32)), (.int p2)])) _
    refine XS.iand X0.here hx rfl (hb hby d1_11) rfl ?_
    refine XS.i2c X0.here hx rfl (hb hby d1_12) rfl ?_
    show Steps p.tables e below (s₁.setTop (mkF m 13 #[.val (.int p2), .val (.int (((p2.toUInt32 >>> ((16 : Int32) &&& 31).toUInt32).toInt32) &&& (3 : Int32))), .unset, .unset] [(.int ((p2 &&& (255 : Int32)).toUInt32.toUInt16.toUInt32.toInt32))])) _
    refine XS.istoreN X0.here hx rfl (hb hby d1_13) rfl (l' := #[.val (.int p2), .val (.int (((p2.toUInt32 >>> ((16 : Int32) &&& 31).toUInt32).toInt32) &&& (3 : Int32))), .val (.int ((p2 &&& (255 : Int32)).toUInt32.toUInt16.toUInt32.toInt32)), .unset]) rfl ?_
    refine XS.iloadN X0.here hx rfl (hb hby d1_14) rfl ?_
    show Steps p.tables e below (s₁.setTop (mkF m 15 #[.val (.int p2), .val (.int (((p2.toUInt32 >>> ((16 : Int32) &&& 31).toUInt32).toInt32) &&& (3 : Int32))), .val (.int ((p2 &&& (255 : Int32)).toUInt32.toUInt16.toUInt32.toInt32)), .unset] [(.int p2)])) _
    refine XS.bipush X0.here hx rfl (hb hby d1_15) ?_
    refine XS.iushr X0.here hx rfl (hb hby d1_17) rfl ?_
    show Steps p.tables e below (s₁.setTop (mkF m 18 #[.val (.int p2), .val (.int (((p2.toUInt32 >>> ((16 : Int32) &&& 31).toUInt32).toInt32) &&& (3 : Int32))), .val (.int ((p2 &&& (255 : Int32)).toUInt32.toUInt16.toUInt32.toInt32)), .unset] [(.int ((p2.toUInt32 >>> ((8 : Int32) &&& 31).toUInt32).toInt32))])) _
    refine XS.sipush X0.here hx rfl (hb hby d1_18) ?_
    refine XS.iand X0.here hx rfl (hb hby d1_21) rfl ?_
    show Steps p.tables e below (s₁.setTop (mkF m 22 #[.val (.int p2), .val (.int (((p2.toUInt32 >>> ((16 : Int32) &&& 31).toUInt32).toInt32) &&& (3 : Int32))), .val (.int ((p2 &&& (255 : Int32)).toUInt32.toUInt16.toUInt32.toInt32)), .unset] [(.int (((p2.toUInt32 >>> ((8 : Int32) &&& 31).toUInt32).toInt32) &&& (255 : Int32)))])) _
    refine XS.i2c X0.here hx rfl (hb hby d1_22) rfl ?_
    refine XS.istoreN X0.here hx rfl (hb hby d1_23) rfl (l' := #[.val (.int p2), .val (.int (((p2.toUInt32 >>> ((16 : Int32) &&& 31).toUInt32).toInt32) &&& (3 : Int32))), .val (.int ((p2 &&& (255 : Int32)).toUInt32.toUInt16.toUInt32.toInt32)), .val (.int ((((p2.toUInt32 >>> ((8 : Int32) &&& 31).toUInt32).toInt32) &&& (255 : Int32)).toUInt32.toUInt16.toUInt32.toInt32))]) rfl ?_
    show Steps p.tables e below (s₁.setTop (mkF m 24 #[.val (.int p2), .val (.int (((p2.toUInt32 >>> ((16 : Int32) &&& 31).toUInt32).toInt32) &&& (3 : Int32))), .val (.int ((p2 &&& (255 : Int32)).toUInt32.toUInt16.toUInt32.toInt32)), .val (.int ((((p2.toUInt32 >>> ((8 : Int32) &&& 31).toUInt32).toInt32) &&& (255 : Int32)).toUInt32.toUInt16.toUInt32.toInt32))] [])) _
    refine XS.iloadN X0.here hx rfl (hb hby d1_24) rfl ?_
    refine XS.ifNo X0.here hx rfl (hb hby d1_25) rfl ((if0 _ _).trans (teq hc25).2) ?_
    show Steps p.tables e below (s₁.setTop (mkF m 28 #[.val (.int p2), .val (.int (((p2.toUInt32 >>> ((16 : Int32) &&& 31).toUInt32).toInt32) &&& (3 : Int32))), .val (.int ((p2 &&& (255 : Int32)).toUInt32.toUInt16.toUInt32.toInt32)), .val (.int ((((p2.toUInt32 >>> ((8 : Int32) &&& 31).toUInt32).toInt32) &&& (255 : Int32)).toUInt32.toUInt16.toUInt32.toInt32))] [])) _
    refine st3 _ ?_
    show Steps p.tables e below (T3.setTop (mkF m 31 #[.val (.int p2), .val (.int (((p2.toUInt32 >>> ((16 : Int32) &&& 31).toUInt32).toInt32) &&& (3 : Int32))), .val (.int ((p2 &&& (255 : Int32)).toUInt32.toUInt16.toUInt32.toInt32)), .val (.int ((((p2.toUInt32 >>> ((8 : Int32) &&& 31).toUInt32).toInt32) &&& (255 : Int32)).toUInt32.toUInt16.toUInt32.toInt32))] [(.ref b3)])) _
    refine XS.dup X3.here hx rfl (hb hby d1_31) rfl rfl ?_
    refine XS.iconst X3.here hx rfl (hb hby d1_32) ?_
    show Steps p.tables e below (T3.setTop (mkF m 33 #[.val (.int p2), .val (.int (((p2.toUInt32 >>> ((16 : Int32) &&& 31).toUInt32).toInt32) &&& (3 : Int32))), .val (.int ((p2 &&& (255 : Int32)).toUInt32.toUInt16.toUInt32.toInt32)), .val (.int ((((p2.toUInt32 >>> ((8 : Int32) &&& 31).toUInt32).toInt32) &&& (255 : Int32)).toUInt32.toUInt16.toUInt32.toInt32))] [(.int (0 : Int32)), (.ref b3), (.ref b3)])) _
    refine st4 _ ?_
    show Steps p.tables e below (T4.setTop (mkF m 35 #[.val (.int p2), .val (.int (((p2.toUInt32 >>> ((16 : Int32) &&& 31).toUInt32).toInt32) &&& (3 : Int32))), .val (.int ((p2 &&& (255 : Int32)).toUInt32.toUInt16.toUInt32.toInt32)), .val (.int ((((p2.toUInt32 >>> ((8 : Int32) &&& 31).toUInt32).toInt32) &&& (255 : Int32)).toUInt32.toUInt16.toUInt32.toInt32))] [(.ref b4), (.ref b3), (.ref b3)])) _
    refine st5.trans ?_
    show Steps p.tables e below (T5.setTop (mkF m 38 #[.val (.int p2), .val (.int (((p2.toUInt32 >>> ((16 : Int32) &&& 31).toUInt32).toInt32) &&& (3 : Int32))), .val (.int ((p2 &&& (255 : Int32)).toUInt32.toUInt16.toUInt32.toInt32)), .val (.int ((((p2.toUInt32 >>> ((8 : Int32) &&& 31).toUInt32).toInt32) &&& (255 : Int32)).toUInt32.toUInt16.toUInt32.toInt32))] [(.ref b3)])) _
    jvm_step X5.here [X5.here.top, hx, (hb hby d1_38), X5.method', Bd.returns, Value.isRef, FieldType.isReference]
    first | (intro acts; rw [hr _ acts rfl rfl rfl]) | rw [hr _ _ rfl rfl rfl]
    exact Steps.refl _
  · show own_QS Z  h0 n0 _ T5.heap _
    exact ⟨b3, _, _, rfl, N5, K4.trans KQ (fun x hx => Or.inr (by cases List.mem_singleton.mp hx; exact sz_b3)), SQ⟩
  · show CHr Z own_EL s.vm s.heap T5.vm T5.heap
    rw [hh]; exact ((CHr.ext E3 hCH).trans (CHr.ext E4 (CHv.ext E3 hCH))).trans hC5
theorem own_str (l : Launch) (Z : State) (a0 : Array Value) (hw : ∀ d ∈ tables_1, d.before a0 Z = true) (ws : List Jvm.Cond) (p2 w : Int32) (h0 : Heap) (n0 : Nat) (Z0 : n0 ≤ h0.size) (S_CS : Sta Z h0 "java/lang/String" "COMPACT_STRINGS" "Z" (.int w)) (hcs : ¬ (w = (0 : Int32))) :
    MetFree l mN11 (head1 (Jvm.Cond.code mN11 method_2_code 4 (some (.object "java/lang/String")) :: ws) ({ frames := 4, cells := 4, slots := 12, locals := 66 } : Room)) (fun a U => a = #[(.int p2)] ∧ Z.Warmed39 U.vm ∧ U.heap = h0 ∧ CHv Z own_EL U.vm h0) (fun _ _ _ _ _ => True) (fun _ U o U' => ∃ v L, o = .returned v ∧ own_QS Z h0 n0 v U'.heap L ∧ CHr Z own_EL U.vm U.heap U'.vm U'.heap ∧ ReturnedEndW U o U' L ({ frames := 4, cells := 4, slots := 12, locals := 66 } : Room).cells ({ frames := 4, cells := 4, slots := 12, locals := 66 } : Room).slots) := by
  have hEL := own_EW hw
  have hK : ∀ v h' L, own_QS Z h0 n0 v h' L → Keep h0 h' [] := fun v h' L ⟨x, z, vs, _, _, K, _⟩ => K
  by_cases c0 : (((p2.toUInt32 >>> ((16 : Int32) &&& 31).toUInt32).toInt32) &&& (3 : Int32)) = (0 : Int32)
  · exact rm1a l Z a0 hw ws p2 w h0 n0 Z0 c0
  by_cases c1 : (((p2.toUInt32 >>> ((16 : Int32) &&& 31).toUInt32).toInt32) &&& (3 : Int32)) = (1 : Int32)
  · exact own_lift hEL hK (rm1b l Z a0 hw ws p2 w h0 n0 Z0 S_CS hcs c0 c1) (Nat.le_refl _) (Nat.le_refl _)
  · exact own_lift hEL hK (rm1c l Z a0 hw ws p2 w h0 n0 Z0 S_CS hcs c0 c1) (Nat.le_refl _) (Nat.le_refl _)
def own_LS (Z : State) (h : Heap) (a1 d : Addr) (k : ClassId) (mc sz : Int32) (vs : List Value) : Prop :=
  Exa Z h a1 "java/util/ArrayList" ∧ Fld Z h a1 "java/util/AbstractList" "modCount" "I" (.int mc) ∧ Fld Z h a1 "java/util/ArrayList" "elementData" "[Ljava/lang/Object;" (.ref d) ∧ Fld Z h a1 "java/util/ArrayList" "size" "I" (.int sz) ∧ Arv Z h d k (.object "java/lang/Object") (10 : Int32) vs .null ∧ Ovr Z k "java/lang/Object" ∧ Exa Z h d "[Ljava/lang/Object;"
theorem own_LS.keep {Z : State} {h h' : Heap} {a1 d : Addr} {k : ClassId} {mc sz : Int32} {vs : List Value} (S : own_LS Z h a1 d k mc sz vs) (K : Keep h h' []) : own_LS Z h' a1 d k mc sz vs := by
  obtain ⟨a, b, c, e, f, g, i⟩ := S
  exact ⟨a.keep K, b.keep K nin0, c.keep K nin0, e.keep K nin0, f.keep K nin0, g, i.keep K⟩
def own_Gr (Z : State) (a1 : Addr) (mc sz : Int32) (h0 : Heap) (n0 : Nat) (v : Option Value) (h : Heap) (L : List Loc) : Prop :=
  ∃ (d : Addr) (k : ClassId), v = some (.ref d) ∧ Fr n0 L ∧ Keep h0 h [a1] ∧ h0.size ≤ d ∧ own_LS Z h a1 d k mc sz [.null, .null, .null, .null, .null, .null, .null, .null, .null, .null]
def own_A1 (Z : State) (a1 a2 : Addr) (mc : Int32) (r : Option Value) (h0 : Heap) (n0 : Nat) (v : Option Value) (h : Heap) (L : List Loc) : Prop :=
  ∃ (d : Addr) (k : ClassId), v = r ∧ Fr n0 L ∧ Keep h0 h [a1] ∧ h0.size ≤ d ∧ own_LS Z h a1 d k mc (1 : Int32) [(.ref a2), .null, .null, .null, .null, .null, .null, .null, .null, .null]
def own_A2 (Z : State) (a1 d a2 : Addr) (k : ClassId) (mc sz : Int32) (i : Nat) (vs : List Value) (r : Option Value) (h0 : Heap) (n0 : Nat) (v : Option Value) (h : Heap) (L : List Loc) : Prop :=
  v = r ∧ Fr n0 L ∧ Keep h0 h [d, a1] ∧ own_LS Z h a1 d k mc (sz + (1 : Int32)) (vs.set i (.ref a2))
theorem d7_0 : decode jdk_22_method_1_code 0 = .ok (.aload_n 0, 1) := by decide +kernel
theorem d7_1 : decode jdk_22_method_1_code 1 = .ok (.invokespecial 1, 3) := by decide +kernel
theorem d7_4 : decode jdk_22_method_1_code 4 = .ok (.return_, 1) := by decide +kernel
theorem pn_7 : plainName "java/util/AbstractCollection" = true := by first | (simp [plainName, overriddenIn]; done) | decide +kernel
theorem ef_7 (m : MethodId) (x0 : Addr) : entryFrame m #[(.ref x0)] 1 = mkF m 0 #[.val (.ref x0)] [] := by first | (simp [entryFrame, mkF, argsToLocals, Value.category]; done) | rfl
def Q7 (Z : State) (a1 : Addr) (h0 : Heap) (n0 : Nat) (v : Option Value) (h : Heap) (L : List Loc) : Prop := v = none ∧ Fr n0 L ∧ h = h0
set_option maxRecDepth 65536 in
set_option maxHeartbeats 40000000 in
theorem rm7 (l : Launch) (Z : State) (a0 : Array Value) (hw : ∀ d ∈ tables_1, d.before a0 Z = true) (ws : List Jvm.Cond) (a1 : Addr) (h0 : Heap) (n0 : Nat) (Z0 : n0 ≤ h0.size) :
    MetFree l mN17 (head1 (Jvm.Cond.code mN17 jdk_22_method_1_code 1 none :: ws) ({ frames := 1, cells := 0, slots := 0, locals := 12 } : Room)) (fun a U => a = #[(.ref a1)] ∧ Z.Warmed39 U.vm ∧ U.heap = h0) (fun _ _ _ _ _ => True) (fun _ U o U' => ∃ v L, o = .returned v ∧ Q7 Z a1 h0 n0 v U'.heap L ∧ FrameEnd U o U' L ({ frames := 1, cells := 0, slots := 0, locals := 12 } : Room).cells ({ frames := 1, cells := 0, slots := 0, locals := 12 } : Room).slots) := by
  refine MetFree.of_bodySF (plainFor_of_name pn_7) hisR ?_
  intro p e s m args below meth c s₁ Bd hml0 hP hK
  obtain ⟨rfl, hZ, hh⟩ := hP
  have hx := Bd.exec
  have hby := Bd.bytes
  have hml : c.maxLocals = 1 := hml0
  have hown : s.vm.findClass "java/util/AbstractCollection" = some m.cls := findClass_of_methodNamed Bd.named
  have hnm := (name_of_methodNamed Bd.named Bd.method).1
  have X0 : Stand p l e ({ frames := 1, cells := 0, slots := 0, locals := 12 } : Room) s m #[(.ref a1)] below meth c s₁ [] 0 0 := Stand.of_body Bd
  have e0 : s₁.heap = h0 := by rw [← hh, Bd.state]; rfl
  have N0 := Fr.nil n0
  have pre0 : ∀ t, Steps p.tables e below (s₁.setTop (mkF m 0 #[.val (.ref a1)] [])) t → Steps p.tables e below (s₁.setTop (entryFrame m #[(.ref a1)] 1)) t := fun t k => castTop (ef_7 m a1) k
  obtain ⟨T2, X2, e2, st2⟩ := initO X0 hx hZ hown (wd hw 44 rfl) (wd hw 16 rfl) (wd hw 17 rfl) e0 (g := (mkF m 1 #[.val (.ref a1)] [(.ref a1)])) rfl (by rw [hml]; rfl) rfl (hb hby d7_1) (by decide) (W := 0) (by show 2 * 0 + _ ≤ _; exact Nat.le_of_eq rfl) (by decide)
  obtain ⟨fs, hr, hrun, hended, hW, hsame⟩ := X2.leave (v := none) (fun _ => rfl)
  refine ⟨_, _, pre0 _ ?_, hrun, hended, _, _, rfl, ?_, ⟨_, rfl⟩, hW, hsame.mono (by decide) (by decide)⟩
  · show Steps p.tables e below (s₁.setTop (mkF m 0 #[.val (.ref a1)] [])) _
    refine XS.aloadN X0.here hx rfl (hb hby d7_0) rfl rfl ?_
    show Steps p.tables e below (s₁.setTop (mkF m 1 #[.val (.ref a1)] [(.ref a1)])) _
    refine st2 _ ?_
    show Steps p.tables e below (T2.setTop (mkF m 4 #[.val (.ref a1)] [])) _
    exact X2.returnOut hx Bd.returns (hb hby d7_4) hr
  · show Q7 Z a1 h0 n0 _ T2.heap _
    rw [e2]
    exact ⟨rfl, N0, rfl⟩
theorem d6_0 : decode jdk_39_method_1_code 0 = .ok (.aload_n 0, 1) := by decide +kernel
theorem d6_1 : decode jdk_39_method_1_code 1 = .ok (.invokespecial 1, 3) := by decide +kernel
theorem d6_4 : decode jdk_39_method_1_code 4 = .ok (.aload_n 0, 1) := by decide +kernel
theorem d6_5 : decode jdk_39_method_1_code 5 = .ok (.iconst 0, 1) := by decide +kernel
theorem d6_6 : decode jdk_39_method_1_code 6 = .ok (.putfield 7, 3) := by decide +kernel
theorem d6_9 : decode jdk_39_method_1_code 9 = .ok (.return_, 1) := by decide +kernel
theorem pn_6 : plainName "java/util/AbstractList" = true := by first | (simp [plainName, overriddenIn]; done) | decide +kernel
theorem pd_6_3 : parseMethodDescriptor "()V" = some ⟨[], none⟩ := by decide +kernel
theorem ef_6 (m : MethodId) (x0 : Addr) : entryFrame m #[(.ref x0)] 1 = mkF m 0 #[.val (.ref x0)] [] := by first | (simp [entryFrame, mkF, argsToLocals, Value.category]; done) | rfl
def Q6 (Z : State) (a1 : Addr) (u_modCount_a1 : Value) (h0 : Heap) (n0 : Nat) (v : Option Value) (h : Heap) (L : List Loc) : Prop := v = none ∧ Fr n0 L ∧ Wr h0 h a1 (Jvm.RoadKit.slotOf Z "java/util/AbstractList" "modCount" "I") (.int (0 : Int32))
set_option maxRecDepth 65536 in
set_option maxHeartbeats 40000000 in
theorem rm6 (l : Launch) (Z : State) (a0 : Array Value) (hw : ∀ d ∈ tables_1, d.before a0 Z = true) (ws : List Jvm.Cond) (a1 : Addr) (u_modCount_a1 : Value) (h0 : Heap) (n0 : Nat) (Z0 : n0 ≤ h0.size) (E_a1 : Exa Z h0 a1 "java/util/ArrayList") (F_modCount_a1 : Fld Z h0 a1 "java/util/AbstractList" "modCount" "I" u_modCount_a1) (g_a1 : n0 ≤ a1) :
    MetFree l mN18 (head1 (Jvm.Cond.code mN18 jdk_39_method_1_code 1 none :: ws) ({ frames := 2, cells := 0, slots := 0, locals := 24 } : Room)) (fun a U => a = #[(.ref a1)] ∧ Z.Warmed39 U.vm ∧ U.heap = h0) (fun _ _ _ _ _ => True) (fun _ U o U' => ∃ v L, o = .returned v ∧ Q6 Z a1 u_modCount_a1 h0 n0 v U'.heap L ∧ FrameEnd U o U' L ({ frames := 2, cells := 0, slots := 0, locals := 24 } : Room).cells ({ frames := 2, cells := 0, slots := 0, locals := 24 } : Room).slots) := by
  refine MetFree.of_bodySF (plainFor_of_name pn_6) hisR ?_
  intro p e s m args below meth c s₁ Bd hml0 hP hK
  obtain ⟨rfl, hZ, hh⟩ := hP
  have hx := Bd.exec
  have hby := Bd.bytes
  have hml : c.maxLocals = 1 := hml0
  have hown : s.vm.findClass "java/util/AbstractList" = some m.cls := findClass_of_methodNamed Bd.named
  have hnm := (name_of_methodNamed Bd.named Bd.method).1
  have X0 : Stand p l e ({ frames := 2, cells := 0, slots := 0, locals := 24 } : Room) s m #[(.ref a1)] below meth c s₁ [] 0 0 := Stand.of_body Bd
  have e0 : s₁.heap = h0 := by rw [← hh, Bd.state]; rfl
  have N0 := Fr.nil n0
  have pre0 : ∀ t, Steps p.tables e below (s₁.setTop (mkF m 0 #[.val (.ref a1)] [])) t → Steps p.tables e below (s₁.setTop (entryFrame m #[(.ref a1)] 1)) t := fun t k => castTop (ef_6 m a1) k
  obtain ⟨_, _, ⟨T2, L2, k2, n2⟩, -, X2, ⟨Lc2, hQ2, l2, y2, z2⟩, st2⟩ := X0.specialBack hx (y := mN17) rfl hown (mvT hZ (wd hw 38 rfl)) (mvT hZ (wd hw 39 rfl)) (mvT hZ (wd hw 43 rfl)) (by decide) (backOf (W := 0) (rm7 l Z a0 hw [] a1 h0 n0 Z0) hZ (wd hw 43 rfl) (wd hw 42 rfl) (by decide) (by decide)) (g := (mkF m 1 #[.val (.ref a1)] [(.ref a1)])) rfl (by rw [hml]; rfl) (Steps.refl _) (a := a1) (argsL := []) (rest := []) (lenOf pd_6_3 rfl) rfl (by show 2 * 0 + _ ≤ _; exact Nat.le_of_eq rfl) (hb hby d6_1) (fun _ _ => ⟨rfl, e0, (by decide : 0 + 0 ≤ _), (by decide : 0 + 0 ≤ _)⟩)
  dsimp only [Pt.U, Pt.locs, Pt.cells, Pt.slots] at X2 l2 y2 z2 st2 hQ2
  subst l2 y2 z2
  obtain ⟨rfl, N2q, k2q⟩ := hQ2
  have N2 := Fr.app N0 N2q
  obtain ⟨T3, h3, X3, e3, W3, st3⟩ := putF X2 hx hZ hown (host := "") (Or.inl (wd hw 45 rfl)) Via.refl k2q F_modCount_a1 E_a1 (Or.inl (wd hw 46 rfl)) (wd hw 27 rfl) (ty := .int) (by decide) rfl rfl (g := (mkF m 6 #[.val (.ref a1)] [(.int (0 : Int32)), (.ref a1)])) rfl rfl (hb hby d6_6)
  have N3 := Fr.snoc X3 N2 g_a1
  obtain ⟨fs, hr, hrun, hended, hW, hsame⟩ := X3.leave (v := none) (fun _ => rfl)
  refine ⟨_, _, pre0 _ ?_, hrun, hended, _, _, rfl, ?_, ⟨_, rfl⟩, hW, hsame.mono (by decide) (by decide)⟩
  · show Steps p.tables e below (s₁.setTop (mkF m 0 #[.val (.ref a1)] [])) _
    refine XS.aloadN X0.here hx rfl (hb hby d6_0) rfl rfl ?_
    show Steps p.tables e below (s₁.setTop (mkF m 1 #[.val (.ref a1)] [(.ref a1)])) _
    refine st2.trans ?_
    show Steps p.tables e below (T2.setTop (mkF m 4 #[.val (.ref a1)] [])) _
    refine XS.aloadN X2.here hx rfl (hb hby d6_4) rfl rfl ?_
    refine XS.iconst X2.here hx rfl (hb hby d6_5) ?_
    show Steps p.tables e below (T2.setTop (mkF m 6 #[.val (.ref a1)] [(.int (0 : Int32)), (.ref a1)])) _
    refine st3 _ ?_
    show Steps p.tables e below (T3.setTop (mkF m 9 #[.val (.ref a1)] [])) _
    exact X3.returnOut hx Bd.returns (hb hby d6_9) hr
  · show Q6 Z a1 u_modCount_a1 h0 n0 _ T3.heap _
    rw [e3]
    exact ⟨rfl, N3, W3⟩
theorem d5_0 : decode jdk_38_method_2_code 0 = .ok (.aload_n 0, 1) := by decide +kernel
theorem d5_1 : decode jdk_38_method_2_code 1 = .ok (.invokespecial 1, 3) := by decide +kernel
theorem d5_4 : decode jdk_38_method_2_code 4 = .ok (.aload_n 0, 1) := by decide +kernel
theorem d5_5 : decode jdk_38_method_2_code 5 = .ok (.getstatic 39, 3) := by decide +kernel
theorem d5_8 : decode jdk_38_method_2_code 8 = .ok (.putfield 9, 3) := by decide +kernel
theorem d5_11 : decode jdk_38_method_2_code 11 = .ok (.return_, 1) := by decide +kernel
theorem pn_5 : plainName "java/util/ArrayList" = true := by first | (simp [plainName, overriddenIn]; done) | decide +kernel
theorem pd_5_3 : parseMethodDescriptor "()V" = some ⟨[], none⟩ := by decide +kernel
theorem ef_5 (m : MethodId) (x0 : Addr) : entryFrame m #[(.ref x0)] 1 = mkF m 0 #[.val (.ref x0)] [] := by first | (simp [entryFrame, mkF, argsToLocals, Value.category]; done) | rfl
def Q5 (Z : State) (a1 : Addr) (w3 : Addr) (u_modCount_a1 : Value) (u_elementData_a1 : Value) (h0 : Heap) (n0 : Nat) (v : Option Value) (h : Heap) (L : List Loc) : Prop := v = none ∧ Fr n0 L ∧ Keep h0 h [a1] ∧ Exa Z h a1 "java/util/ArrayList" ∧ Fld Z h a1 "java/util/AbstractList" "modCount" "I" (.int (0 : Int32)) ∧ Fld Z h a1 "java/util/ArrayList" "elementData" "[Ljava/lang/Object;" (.ref w3) ∧ Fld Z h a1 "java/util/ArrayList" "size" "I" (.int (0 : Int32))
set_option maxRecDepth 65536 in
set_option maxHeartbeats 40000000 in
theorem rm5 (l : Launch) (Z : State) (a0 : Array Value) (hw : ∀ d ∈ tables_1, d.before a0 Z = true) (ws : List Jvm.Cond) (a1 : Addr) (w3 : Addr) (u_modCount_a1 : Value) (u_elementData_a1 : Value) (h0 : Heap) (n0 : Nat) (Z0 : n0 ≤ h0.size) (S_DEF : Sta Z h0 "java/util/ArrayList" "DEFAULTCAPACITY_EMPTY_ELEMENTDATA" "[Ljava/lang/Object;" (.ref w3)) (E_a1 : Exa Z h0 a1 "java/util/ArrayList") (F_modCount_a1 : Fld Z h0 a1 "java/util/AbstractList" "modCount" "I" u_modCount_a1) (F_elementData_a1 : Fld Z h0 a1 "java/util/ArrayList" "elementData" "[Ljava/lang/Object;" u_elementData_a1) (F_size_a1 : Fld Z h0 a1 "java/util/ArrayList" "size" "I" (.int (0 : Int32))) (g_a1 : n0 ≤ a1) :
    MetFree l mN19 (head1 (Jvm.Cond.code mN19 jdk_38_method_2_code 1 none :: ws) ({ frames := 3, cells := 0, slots := 0, locals := 36 } : Room)) (fun a U => a = #[(.ref a1)] ∧ Z.Warmed39 U.vm ∧ U.heap = h0) (fun _ _ _ _ _ => True) (fun _ U o U' => ∃ v L, o = .returned v ∧ Q5 Z a1 w3 u_modCount_a1 u_elementData_a1 h0 n0 v U'.heap L ∧ FrameEnd U o U' L ({ frames := 3, cells := 0, slots := 0, locals := 36 } : Room).cells ({ frames := 3, cells := 0, slots := 0, locals := 36 } : Room).slots) := by
  refine MetFree.of_bodySF (plainFor_of_name pn_5) hisR ?_
  intro p e s m args below meth c s₁ Bd hml0 hP hK
  obtain ⟨rfl, hZ, hh⟩ := hP
  have hx := Bd.exec
  have hby := Bd.bytes
  have hml : c.maxLocals = 1 := hml0
  have hown : s.vm.findClass "java/util/ArrayList" = some m.cls := findClass_of_methodNamed Bd.named
  have hnm := (name_of_methodNamed Bd.named Bd.method).1
  have X0 : Stand p l e ({ frames := 3, cells := 0, slots := 0, locals := 36 } : Room) s m #[(.ref a1)] below meth c s₁ [] 0 0 := Stand.of_body Bd
  have e0 : s₁.heap = h0 := by rw [← hh, Bd.state]; rfl
  have N0 := Fr.nil n0
  have pre0 : ∀ t, Steps p.tables e below (s₁.setTop (mkF m 0 #[.val (.ref a1)] [])) t → Steps p.tables e below (s₁.setTop (entryFrame m #[(.ref a1)] 1)) t := fun t k => castTop (ef_5 m a1) k
  obtain ⟨_, _, ⟨T2, L2, k2, n2⟩, -, X2, ⟨Lc2, hQ2, l2, y2, z2⟩, st2⟩ := X0.specialBack hx (y := mN18) rfl hown (mvT hZ (wd hw 32 rfl)) (mvT hZ (wd hw 33 rfl)) (mvT hZ (wd hw 37 rfl)) (by decide) (backOf (W := 0) (rm6 l Z a0 hw [] a1 u_modCount_a1 h0 n0 Z0 E_a1 F_modCount_a1 g_a1) hZ (wd hw 37 rfl) (wd hw 36 rfl) (by decide) (by decide)) (g := (mkF m 1 #[.val (.ref a1)] [(.ref a1)])) rfl (by rw [hml]; rfl) (Steps.refl _) (a := a1) (argsL := []) (rest := []) (lenOf pd_5_3 rfl) rfl (by show 2 * 0 + _ ≤ _; exact Nat.le_of_eq rfl) (hb hby d5_1) (fun _ _ => ⟨rfl, e0, (by decide : 0 + 0 ≤ _), (by decide : 0 + 0 ≤ _)⟩)
  dsimp only [Pt.U, Pt.locs, Pt.cells, Pt.slots] at X2 l2 y2 z2 st2 hQ2
  subst l2 y2 z2
  obtain ⟨rfl, N2q, W2q⟩ := hQ2
  have N2 := Fr.app N0 N2q
  obtain ⟨T4, X4, e4, st4⟩ := getS2 X2 hx hZ hown (host := "") (Or.inl (wd hw 47 rfl)) Via.refl rfl (S_DEF.wr W2q) (g := (mkF m 5 #[.val (.ref a1)] [(.ref a1)])) rfl (hb hby d5_5)
  obtain ⟨T5, h5, X5, e5, W5, st5⟩ := putF X4 hx hZ hown (host := "") (Or.inl (wd hw 48 rfl)) Via.refl e4 (F_elementData_a1.other W2q (own_sn (Or.inl (wd hw 49 rfl)) (Or.inl (wd hw 46 rfl)) (by decide))) (E_a1.wr W2q) (Or.inl (wd hw 49 rfl)) (wd hw 27 rfl) (ty := (.array (.object "java/lang/Object"))) (by decide) rfl rfl (g := (mkF m 8 #[.val (.ref a1)] [(.ref w3), (.ref a1)])) rfl rfl (hb hby d5_8)
  have Fw5 := (F_elementData_a1.other W2q (own_sn (Or.inl (wd hw 49 rfl)) (Or.inl (wd hw 46 rfl)) (by decide))).same W5
  have N5 := Fr.snoc X5 N2 g_a1
  obtain ⟨fs, hr, hrun, hended, hW, hsame⟩ := X5.leave (v := none) (fun _ => rfl)
  refine ⟨_, _, pre0 _ ?_, hrun, hended, _, _, rfl, ?_, ⟨_, rfl⟩, hW, hsame.mono (by decide) (by decide)⟩
  · show Steps p.tables e below (s₁.setTop (mkF m 0 #[.val (.ref a1)] [])) _
    refine XS.aloadN X0.here hx rfl (hb hby d5_0) rfl rfl ?_
    show Steps p.tables e below (s₁.setTop (mkF m 1 #[.val (.ref a1)] [(.ref a1)])) _
    refine st2.trans ?_
    show Steps p.tables e below (T2.setTop (mkF m 4 #[.val (.ref a1)] [])) _
    refine XS.aloadN X2.here hx rfl (hb hby d5_4) rfl rfl ?_
    show Steps p.tables e below (T2.setTop (mkF m 5 #[.val (.ref a1)] [(.ref a1)])) _
    refine st4 _ ?_
    show Steps p.tables e below (T4.setTop (mkF m 8 #[.val (.ref a1)] [(.ref w3), (.ref a1)])) _
    refine st5 _ ?_
    show Steps p.tables e below (T5.setTop (mkF m 11 #[.val (.ref a1)] [])) _
    exact X5.returnOut hx Bd.returns (hb hby d5_11) hr
  · show Q5 Z a1 w3 u_modCount_a1 u_elementData_a1 h0 n0 _ T5.heap _
    rw [e5]
    exact ⟨rfl, N5, ((Keep.refl h0 [a1]).wr W2q (Or.inl (List.mem_of_getElem? (i := 0) rfl))).wr W5 (Or.inl (List.mem_of_getElem? (i := 0) rfl)), (E_a1.wr W2q).wr W5, (F_modCount_a1.same W2q).other W5 (own_sn (Or.inl (wd hw 46 rfl)) (Or.inl (wd hw 49 rfl)) (by decide)), Fw5, (F_size_a1.other W2q (own_sn (Or.inl (wd hw 96 rfl)) (Or.inl (wd hw 46 rfl)) (by decide))).other W5 (own_sn (Or.inl (wd hw 96 rfl)) (Or.inl (wd hw 49 rfl)) (by decide))⟩
theorem d18_0 : decode jdk_29_method_65_code 0 = .ok (.iload_n 0, 1) := by decide +kernel
theorem d18_1 : decode jdk_29_method_65_code 1 = .ok (.iload_n 1, 1) := by decide +kernel
theorem d18_2 : decode jdk_29_method_65_code 2 = .ok (.if_icmp .lt 7, 3) := by decide +kernel
theorem d18_5 : decode jdk_29_method_65_code 5 = .ok (.iload_n 0, 1) := by decide +kernel
theorem d18_6 : decode jdk_29_method_65_code 6 = .ok (.goto 4, 3) := by decide +kernel
theorem d18_10 : decode jdk_29_method_65_code 10 = .ok (.ireturn, 1) := by decide +kernel
theorem ef_18 (m : MethodId) (x0 : Int32) (x1 : Int32) : entryFrame m #[(.int x0), (.int x1)] 2 = mkF m 0 #[.val (.int x0), .val (.int x1)] [] := by first | (simp [entryFrame, mkF, argsToLocals, Value.category]; done) | rfl
def Q18 (Z : State) (p1 : Int32) (p2 : Int32) (h0 : Heap) (n0 : Nat) (v : Option Value) (h : Heap) (L : List Loc) : Prop := v = some (.int p1) ∧ Fr n0 L ∧ h = h0
set_option maxRecDepth 65536 in
set_option maxHeartbeats 40000000 in
theorem rm18 (l : Launch) (Z : State) (a0 : Array Value) (hw : ∀ d ∈ tables_1, d.before a0 Z = true) (ws : List Jvm.Cond) (p1 : Int32) (p2 : Int32) (h0 : Heap) (n0 : Nat) (Z0 : n0 ≤ h0.size) (hc2 : ¬ (p1 < p2)) :
    MetFree l mN12 (head1 (Jvm.Cond.code mN12 jdk_29_method_65_code 2 (some .int) :: ws) ({ frames := 0, cells := 0, slots := 0, locals := 0 } : Room)) (fun a U => a = #[(.int p1), (.int p2)] ∧ Z.Warmed39 U.vm ∧ U.heap = h0) (fun _ _ _ _ _ => True) (fun _ U o U' => ∃ v L, o = .returned v ∧ Q18 Z p1 p2 h0 n0 v U'.heap L ∧ FrameEnd U o U' L ({ frames := 0, cells := 0, slots := 0, locals := 0 } : Room).cells ({ frames := 0, cells := 0, slots := 0, locals := 0 } : Room).slots) := by
  refine MetFree.of_bodySF (Jvm.Free.JP.mathPlain rfl (by decide +kernel)) hisR ?_
  intro p e s m args below meth c s₁ Bd hml0 hP hK
  obtain ⟨rfl, hZ, hh⟩ := hP
  have hx := Bd.exec
  have hby := Bd.bytes
  have hml : c.maxLocals = 2 := hml0
  have hown : s.vm.findClass "java/lang/Math" = some m.cls := findClass_of_methodNamed Bd.named
  have hnm := (name_of_methodNamed Bd.named Bd.method).1
  have X0 : Stand p l e ({ frames := 0, cells := 0, slots := 0, locals := 0 } : Room) s m #[(.int p1), (.int p2)] below meth c s₁ [] 0 0 := Stand.of_body Bd
  have e0 : s₁.heap = h0 := by rw [← hh, Bd.state]; rfl
  have N0 := Fr.nil n0
  have pre0 : ∀ t, Steps p.tables e below (s₁.setTop (mkF m 0 #[.val (.int p1), .val (.int p2)] [])) t → Steps p.tables e below (s₁.setTop (entryFrame m #[(.int p1), (.int p2)] 2)) t := fun t k => castTop (ef_18 m p1 p2) k

  obtain ⟨fs, hr, hrun, hended, hW, hsame⟩ := X0.leave (v := some (.int p1)) (fun h => by rw [Bd.returns] at h; cases h)
  refine ⟨_, _, pre0 _ ?_, hrun, hended, _, _, rfl, ?_, ⟨_, rfl⟩, hW, hsame.mono (by decide) (by decide)⟩
  · show Steps p.tables e below (s₁.setTop (mkF m 0 #[.val (.int p1), .val (.int p2)] [])) _
    refine XS.iloadN X0.here hx rfl (hb hby d18_0) rfl ?_
    refine XS.iloadN X0.here hx rfl (hb hby d18_1) rfl ?_
    show Steps p.tables e below (s₁.setTop (mkF m 2 #[.val (.int p1), .val (.int p2)] [(.int p2), (.int p1)])) _
    refine XS.icmpNo X0.here hx rfl (hb hby d18_2) rfl (flt hc2).1 ?_
    refine XS.iloadN X0.here hx rfl (hb hby d18_5) rfl ?_
    show Steps p.tables e below (s₁.setTop (mkF m 6 #[.val (.int p1), .val (.int p2)] [(.int p1)])) _
    refine XS.goto X0.here hx rfl (pc0 := 6) (pc' := 10) rfl (hb hby d18_6) (by decide) (by decide) ?_
    show Steps p.tables e below (s₁.setTop (mkF m 10 #[.val (.int p1), .val (.int p2)] [(.int p1)])) _
    exact retI X0 hx Bd.returns (hb hby d18_10) hr
  · show Q18 Z p1 p2 h0 n0 _ s₁.heap _
    rw [e0]
    exact ⟨rfl, N0, rfl⟩
theorem d17_0 : decode jdk_38_method_6_code 0 = .ok (.aload_n 0, 1) := by decide +kernel
theorem d17_1 : decode jdk_38_method_6_code 1 = .ok (.getfield 9, 3) := by decide +kernel
theorem d17_4 : decode jdk_38_method_6_code 4 = .ok (.arraylength, 1) := by decide +kernel
theorem d17_5 : decode jdk_38_method_6_code 5 = .ok (.istore_n 2, 1) := by decide +kernel
theorem d17_6 : decode jdk_38_method_6_code 6 = .ok (.iload_n 2, 1) := by decide +kernel
theorem d17_7 : decode jdk_38_method_6_code 7 = .ok (.ifCond .gt 13, 3) := by decide +kernel
theorem d17_10 : decode jdk_38_method_6_code 10 = .ok (.aload_n 0, 1) := by decide +kernel
theorem d17_11 : decode jdk_38_method_6_code 11 = .ok (.getfield 9, 3) := by decide +kernel
theorem d17_14 : decode jdk_38_method_6_code 14 = .ok (.getstatic 39, 3) := by decide +kernel
theorem d17_17 : decode jdk_38_method_6_code 17 = .ok (.if_acmp .eq 28, 3) := by decide +kernel
theorem d17_45 : decode jdk_38_method_6_code 45 = .ok (.aload_n 0, 1) := by decide +kernel
theorem d17_46 : decode jdk_38_method_6_code 46 = .ok (.bipush 10, 2) := by decide +kernel
theorem d17_48 : decode jdk_38_method_6_code 48 = .ok (.iload_n 1, 1) := by decide +kernel
theorem d17_49 : decode jdk_38_method_6_code 49 = .ok (.invokestatic 79, 3) := by decide +kernel
theorem d17_52 : decode jdk_38_method_6_code 52 = .ok (.anewarray 7, 3) := by decide +kernel
theorem d17_55 : decode jdk_38_method_6_code 55 = .ok (.dup_x1, 1) := by decide +kernel
theorem d17_56 : decode jdk_38_method_6_code 56 = .ok (.putfield 9, 3) := by decide +kernel
theorem d17_59 : decode jdk_38_method_6_code 59 = .ok (.areturn, 1) := by decide +kernel
theorem pn_17 : plainName "java/util/ArrayList" = true := by first | (simp [plainName, overriddenIn]; done) | decide +kernel
theorem pd_17_13 : parseMethodDescriptor "(II)I" = some ⟨[.int, .int], some .int⟩ := by decide +kernel
theorem ef_17 (m : MethodId) (x0 : Addr) (x1 : Int32) : entryFrame m #[(.ref x0), (.int x1)] 4 = mkF m 0 #[.val (.ref x0), .val (.int x1), .unset, .unset] [] := by first | (simp [entryFrame, mkF, argsToLocals, Value.category]; done) | rfl
set_option maxRecDepth 65536 in
set_option maxHeartbeats 40000000 in
theorem rm17 (l : Launch) (Z : State) (a0 : Array Value) (hw : ∀ d ∈ tables_1, d.before a0 Z = true) (ws : List Jvm.Cond) (a1 : Addr) (p2 : Int32) (w3 : Addr) (cl_w3 : Cell) (mc : Int32) (sz : Int32) (h0 : Heap) (n0 : Nat) (Z0 : n0 ≤ h0.size) (F_elementData_a1 : Fld Z h0 a1 "java/util/ArrayList" "elementData" "[Ljava/lang/Object;" (.ref w3)) (Ar_w3 : Arr Z h0 w3 cl_w3 (.object "java/lang/Object")) (S_w3 : cl_w3.slots.size = (0 : Int32).toNatClampNeg) (S_DEF : Sta Z h0 "java/util/ArrayList" "DEFAULTCAPACITY_EMPTY_ELEMENTDATA" "[Ljava/lang/Object;" (.ref w3)) (E_a1 : Exa Z h0 a1 "java/util/ArrayList") (F_modCount_a1 : Fld Z h0 a1 "java/util/AbstractList" "modCount" "I" (.int mc)) (F_size_a1 : Fld Z h0 a1 "java/util/ArrayList" "size" "I" (.int sz)) (g_a1 : n0 ≤ a1) (hp : ¬ ((10 : Int32) < p2)) :
    MetFree l mN23 (head1 (Jvm.Cond.code mN23 jdk_38_method_6_code 4 (some (.array (.object "java/lang/Object"))) :: ws) ({ frames := 1, cells := 1, slots := 10, locals := 14 } : Room)) (fun a U => a = #[(.ref a1), (.int p2)] ∧ Z.Warmed39 U.vm ∧ U.heap = h0) (fun _ _ _ _ _ => True) (fun _ U o U' => ∃ v L, o = .returned v ∧ own_Gr Z a1 mc sz h0 n0 v U'.heap L ∧ FrameEnd U o U' L ({ frames := 1, cells := 1, slots := 10, locals := 14 } : Room).cells ({ frames := 1, cells := 1, slots := 10, locals := 14 } : Room).slots) := by
  refine MetFree.of_bodySF (plainFor_of_name pn_17) hisR ?_
  intro p e s m args below meth c s₁ Bd hml0 hP hK
  obtain ⟨rfl, hZ, hh⟩ := hP
  have hx := Bd.exec
  have hby := Bd.bytes
  have hml : c.maxLocals = 4 := hml0
  have hown : s.vm.findClass "java/util/ArrayList" = some m.cls := findClass_of_methodNamed Bd.named
  have hnm := (name_of_methodNamed Bd.named Bd.method).1
  have X0 : Stand p l e ({ frames := 1, cells := 1, slots := 10, locals := 14 } : Room) s m #[(.ref a1), (.int p2)] below meth c s₁ [] 0 0 := Stand.of_body Bd
  have e0 : s₁.heap = h0 := by rw [← hh, Bd.state]; rfl
  have N0 := Fr.nil n0
  have pre0 : ∀ t, Steps p.tables e below (s₁.setTop (mkF m 0 #[.val (.ref a1), .val (.int p2), .unset, .unset] [])) t → Steps p.tables e below (s₁.setTop (entryFrame m #[(.ref a1), (.int p2)] 4)) t := fun t k => castTop (ef_17 m a1 p2) k
  have N_w3 : ¬ (0 : Int32) < 0 := by decide
  obtain ⟨T4, X4, e4, st4⟩ := getF X0 hx hZ hown (host := "") (Or.inl (wd hw 48 rfl)) Via.refl e0 F_elementData_a1 (g := (mkF m 1 #[.val (.ref a1), .val (.int p2), .unset, .unset] [(.ref a1)])) rfl rfl (hb hby d17_1)
  obtain ⟨T5, X5, e5, st5⟩ := getF X4 hx hZ hown (host := "") (Or.inl (wd hw 48 rfl)) Via.refl e4 F_elementData_a1 (g := (mkF m 11 #[.val (.ref a1), .val (.int p2), .val (.int (0 : Int32)), .unset] [(.ref a1)])) rfl rfl (hb hby d17_11)
  obtain ⟨T7, X7, e7, st7⟩ := getS2 X5 hx hZ hown (host := "") (Or.inl (wd hw 47 rfl)) Via.refl e5 S_DEF (g := (mkF m 14 #[.val (.ref a1), .val (.int p2), .val (.int (0 : Int32)), .unset] [(.ref w3)])) rfl (hb hby d17_14)
  obtain ⟨_, _, ⟨T8, L8, k8, n8⟩, -, X8, ⟨Lc8, hQ8, l8, y8, z8⟩, st8⟩ := Jvm.LawKit.callS X7 hx (y := mN12) hown (mvT hZ (wd hw 139 rfl)) (mvT hZ (wd hw 140 rfl)) (mvT hZ (wd hw 141 rfl)) (mvT hZ (wd hw 142 rfl)) (by decide) (backOf (W := 1) (rm18 l Z a0 hw [] (10 : Int32) p2 h0 n0 Z0 hp) hZ (wd hw 142 rfl) (wd hw 141 rfl) (by decide) (by decide)) (g := (mkF m 49 #[.val (.ref a1), .val (.int p2), .val (.int (0 : Int32)), .unset] [(.int p2), (.int (10 : Int32)), (.ref a1)])) rfl (by rw [hml]; rfl) (argsL := [(.int (10 : Int32)), (.int p2)]) (rest := [(.ref a1)]) (lenOf pd_17_13 rfl) rfl (by show 2 * 0 + _ ≤ _; exact Nat.le_of_eq rfl) (hb hby d17_49) (fun _ _ => ⟨rfl, e7, (by decide : 0 + 0 ≤ _), (by decide : 0 + 0 ≤ _)⟩)
  dsimp only [Pt.U, Pt.locs, Pt.cells, Pt.slots] at X8 l8 y8 z8 st8 hQ8
  subst l8 y8 z8
  obtain ⟨rfl, N8q, k8q⟩ := hQ8
  have N8 := Fr.app N0 N8q
  obtain ⟨T9, h9, k9, X9, e9, E9, A9, EA9, O9, st9⟩ := newRE (ad := "[Ljava/lang/Object;") (had := by decide) X8 hx hZ hown (wd hw 143 rfl) (wd hw 144 rfl) k8q (g := (mkF m 52 #[.val (.ref a1), .val (.int p2), .val (.int (0 : Int32)), .unset] [(.int (10 : Int32)), (.ref a1)])) rfl (hb hby d17_52) rfl (by decide) (cap := 10) (by decide) (by decide) (by decide) (by decide)
  obtain ⟨b9, g9⟩ : ∃ z, z = h0.size := ⟨_, rfl⟩
  rw [← g9] at A9 EA9 st9
  have V_b9 := (Arv.new A9 (by decide)).pad (vs' := [.null, .null, .null, .null, .null, .null, .null, .null, .null, .null]) (pad_rep [] .null 10)
  have g_b9 : n0 ≤ b9 := Nat.le_trans Z0 (Nat.le_of_eq g9.symm)
  have sz_b9 : h0.size ≤ b9 := Nat.le_of_eq g9.symm
  have K9 : Keep h0 h9 [a1] := (Keep.refl h0 [a1]).ext E9
  obtain ⟨T10, h10, X10, e10, W10, st10⟩ := putF X9 hx hZ hown (host := "") (Or.inl (wd hw 48 rfl)) Via.refl e9 (F_elementData_a1.ext E9) (E_a1.ext E9) (Or.inl (wd hw 49 rfl)) (wd hw 27 rfl) (ty := (.array (.object "java/lang/Object"))) (by decide) rfl rfl (g := (mkF m 56 #[.val (.ref a1), .val (.int p2), .val (.int (0 : Int32)), .unset] [(.ref b9), (.ref a1), (.ref b9)])) rfl rfl (hb hby d17_56)
  have Fw10 := (F_elementData_a1.ext E9).same W10
  have K10 : Keep h0 h10 [a1] := K9.wr W10 (Or.inl (List.mem_of_getElem? (i := 0) rfl))
  have N10 := Fr.snoc X10 N8 g_a1
  obtain ⟨fs, hr, hrun, hended, hW, hsame⟩ := X10.leave (v := some (.ref b9)) (fun h => by rw [Bd.returns] at h; cases h)
  refine ⟨_, _, pre0 _ ?_, hrun, hended, _, _, rfl, ?_, ⟨_, rfl⟩, hW, hsame.mono (by decide) (by decide)⟩
  · show Steps p.tables e below (s₁.setTop (mkF m 0 #[.val (.ref a1), .val (.int p2), .unset, .unset] [])) _
    refine XS.aloadN X0.here hx rfl (hb hby d17_0) rfl rfl ?_
    show Steps p.tables e below (s₁.setTop (mkF m 1 #[.val (.ref a1), .val (.int p2), .unset, .unset] [(.ref a1)])) _
    refine st4 _ ?_
    show Steps p.tables e below (T4.setTop (mkF m 4 #[.val (.ref a1), .val (.int p2), .unset, .unset] [(.ref w3)])) _
    refine X4.arraylength hx (by rw [e4]; exact Ar_w3.1) (State.isArrayOf_alike hZ.alike Ar_w3.2.1) (g := (mkF m 4 #[.val (.ref a1), .val (.int p2), .unset, .unset] [(.ref w3)])) rfl rfl (hb hby d17_4) _ ?_
    rw [len_of S_w3 N_w3]
    show Steps p.tables e below (T4.setTop (mkF m 5 #[.val (.ref a1), .val (.int p2), .unset, .unset] [(.int (0 : Int32))])) _
    refine XS.istoreN X4.here hx rfl (hb hby d17_5) rfl (l' := #[.val (.ref a1), .val (.int p2), .val (.int (0 : Int32)), .unset]) rfl ?_
    refine XS.iloadN X4.here hx rfl (hb hby d17_6) rfl ?_
    show Steps p.tables e below (T4.setTop (mkF m 7 #[.val (.ref a1), .val (.int p2), .val (.int (0 : Int32)), .unset] [(.int (0 : Int32))])) _
    refine XS.ifNo X4.here hx rfl (hb hby d17_7) rfl ((if0 _ _).trans (flt (by decide : ¬ ((0 : Int32) < (0 : Int32)))).2.2.1) ?_
    refine XS.aloadN X4.here hx rfl (hb hby d17_10) rfl rfl ?_
    show Steps p.tables e below (T4.setTop (mkF m 11 #[.val (.ref a1), .val (.int p2), .val (.int (0 : Int32)), .unset] [(.ref a1)])) _
    refine st5 _ ?_
    show Steps p.tables e below (T5.setTop (mkF m 14 #[.val (.ref a1), .val (.int p2), .val (.int (0 : Int32)), .unset] [(.ref w3)])) _
    refine st7 _ ?_
    show Steps p.tables e below (T7.setTop (mkF m 17 #[.val (.ref a1), .val (.int p2), .val (.int (0 : Int32)), .unset] [(.ref w3), (.ref w3)])) _
    refine Jvm.RoadKit.acmp (g := (mkF m 17 #[.val (.ref a1), .val (.int p2), .val (.int (0 : Int32)), .unset] [(.ref w3), (.ref w3)])) X7 hx rfl rfl rfl (pc0 := 17) (pc' := 45) (same := true) rfl (hb hby d17_17) rfl (decide_eq_true (congrArg Value.ref rfl)) (by decide) (by decide) ?_
    show Steps p.tables e below (T7.setTop (mkF m 45 #[.val (.ref a1), .val (.int p2), .val (.int (0 : Int32)), .unset] [])) _
    refine XS.aloadN X7.here hx rfl (hb hby d17_45) rfl rfl ?_
    refine XS.bipush X7.here hx rfl (hb hby d17_46) ?_
    show Steps p.tables e below (T7.setTop (mkF m 48 #[.val (.ref a1), .val (.int p2), .val (.int (0 : Int32)), .unset] [(.int (10 : Int32)), (.ref a1)])) _
    refine XS.iloadN X7.here hx rfl (hb hby d17_48) rfl ?_
    show Steps p.tables e below (T7.setTop (mkF m 49 #[.val (.ref a1), .val (.int p2), .val (.int (0 : Int32)), .unset] [(.int p2), (.int (10 : Int32)), (.ref a1)])) _
    refine st8 _ ?_
    show Steps p.tables e below (T8.setTop (mkF m 52 #[.val (.ref a1), .val (.int p2), .val (.int (0 : Int32)), .unset] [(.int (10 : Int32)), (.ref a1)])) _
    refine st9 _ ?_
    show Steps p.tables e below (T9.setTop (mkF m 55 #[.val (.ref a1), .val (.int p2), .val (.int (0 : Int32)), .unset] [(.ref b9), (.ref a1)])) _
    refine XS.dupX1 X9.here hx rfl (hb hby d17_55) rfl rfl rfl ?_
    show Steps p.tables e below (T9.setTop (mkF m 56 #[.val (.ref a1), .val (.int p2), .val (.int (0 : Int32)), .unset] [(.ref b9), (.ref a1), (.ref b9)])) _
    refine st10 _ ?_
    show Steps p.tables e below (T10.setTop (mkF m 59 #[.val (.ref a1), .val (.int p2), .val (.int (0 : Int32)), .unset] [(.ref b9)])) _
    jvm_step X10.here [X10.here.top, hx, (hb hby d17_59), X10.method', Bd.returns, Value.isRef, FieldType.isReference]
    first | (intro acts; rw [hr _ acts rfl rfl rfl]) | rw [hr _ _ rfl rfl rfl]
    exact Steps.refl _
  · show own_Gr Z a1 mc sz h0 n0 _ T10.heap _
    rw [e10]
    have nb : b9 ≠ a1 := Nat.ne_of_gt (Nat.lt_of_lt_of_eq E_a1.lt g9.symm)
    exact ⟨b9, k9, rfl, N10, K10, sz_b9, (E_a1.ext E9).wr W10, (F_modCount_a1.ext E9).other W10 (own_sn (Or.inl (wd hw 46 rfl)) (Or.inl (wd hw 49 rfl)) (by decide)), Fw10, (F_size_a1.ext E9).other W10 (own_sn (Or.inl (wd hw 96 rfl)) (Or.inl (wd hw 49 rfl)) (by decide)), V_b9.other W10 nb, O9, EA9.wr W10⟩
theorem d16_0 : decode jdk_38_method_7_code 0 = .ok (.aload_n 0, 1) := by decide +kernel
theorem d16_1 : decode jdk_38_method_7_code 1 = .ok (.aload_n 0, 1) := by decide +kernel
theorem d16_2 : decode jdk_38_method_7_code 2 = .ok (.getfield 48, 3) := by decide +kernel
theorem d16_5 : decode jdk_38_method_7_code 5 = .ok (.iconst 1, 1) := by decide +kernel
theorem d16_6 : decode jdk_38_method_7_code 6 = .ok (.iadd, 1) := by decide +kernel
theorem d16_7 : decode jdk_38_method_7_code 7 = .ok (.invokevirtual 69, 3) := by decide +kernel
theorem d16_10 : decode jdk_38_method_7_code 10 = .ok (.areturn, 1) := by decide +kernel
theorem pn_16 : plainName "java/util/ArrayList" = true := by first | (simp [plainName, overriddenIn]; done) | decide +kernel
theorem pd_16_12 : parseMethodDescriptor "(I)[Ljava/lang/Object;" = some ⟨[.int], some (.array (.object "java/lang/Object"))⟩ := by decide +kernel
theorem ef_16 (m : MethodId) (x0 : Addr) : entryFrame m #[(.ref x0)] 1 = mkF m 0 #[.val (.ref x0)] [] := by first | (simp [entryFrame, mkF, argsToLocals, Value.category]; done) | rfl
set_option maxRecDepth 65536 in
set_option maxHeartbeats 40000000 in
theorem rm16 (l : Launch) (Z : State) (a0 : Array Value) (hw : ∀ d ∈ tables_1, d.before a0 Z = true) (ws : List Jvm.Cond) (a1 : Addr) (w3 : Addr) (cl_w3 : Cell) (mc : Int32) (sz : Int32) (h0 : Heap) (n0 : Nat) (Z0 : n0 ≤ h0.size) (F_elementData_a1 : Fld Z h0 a1 "java/util/ArrayList" "elementData" "[Ljava/lang/Object;" (.ref w3)) (Ar_w3 : Arr Z h0 w3 cl_w3 (.object "java/lang/Object")) (S_w3 : cl_w3.slots.size = (0 : Int32).toNatClampNeg) (S_DEF : Sta Z h0 "java/util/ArrayList" "DEFAULTCAPACITY_EMPTY_ELEMENTDATA" "[Ljava/lang/Object;" (.ref w3)) (E_a1 : Exa Z h0 a1 "java/util/ArrayList") (F_modCount_a1 : Fld Z h0 a1 "java/util/AbstractList" "modCount" "I" (.int mc)) (F_size_a1 : Fld Z h0 a1 "java/util/ArrayList" "size" "I" (.int sz)) (g_a1 : n0 ≤ a1) (hp : ¬ ((10 : Int32) < (sz + (1 : Int32)))) :
    MetFree l mN22 (head1 (Jvm.Cond.code mN22 jdk_38_method_7_code 1 (some (.array (.object "java/lang/Object"))) :: ws) ({ frames := 2, cells := 1, slots := 10, locals := 29 } : Room)) (fun a U => a = #[(.ref a1)] ∧ Z.Warmed39 U.vm ∧ U.heap = h0) (fun _ _ _ _ _ => True) (fun _ U o U' => ∃ v L, o = .returned v ∧ own_Gr Z a1 mc sz h0 n0 v U'.heap L ∧ FrameEnd U o U' L ({ frames := 2, cells := 1, slots := 10, locals := 29 } : Room).cells ({ frames := 2, cells := 1, slots := 10, locals := 29 } : Room).slots) := by
  refine MetFree.of_bodySF (plainFor_of_name pn_16) hisR ?_
  intro p e s m args below meth c s₁ Bd hml0 hP hK
  obtain ⟨rfl, hZ, hh⟩ := hP
  have hx := Bd.exec
  have hby := Bd.bytes
  have hml : c.maxLocals = 1 := hml0
  have hown : s.vm.findClass "java/util/ArrayList" = some m.cls := findClass_of_methodNamed Bd.named
  have hnm := (name_of_methodNamed Bd.named Bd.method).1
  have X0 : Stand p l e ({ frames := 2, cells := 1, slots := 10, locals := 29 } : Room) s m #[(.ref a1)] below meth c s₁ [] 0 0 := Stand.of_body Bd
  have e0 : s₁.heap = h0 := by rw [← hh, Bd.state]; rfl
  have N0 := Fr.nil n0
  have pre0 : ∀ t, Steps p.tables e below (s₁.setTop (mkF m 0 #[.val (.ref a1)] [])) t → Steps p.tables e below (s₁.setTop (entryFrame m #[(.ref a1)] 1)) t := fun t k => castTop (ef_16 m a1) k
  obtain ⟨T3, X3, e3, st3⟩ := getF X0 hx hZ hown (host := "") (Or.inl (wd hw 95 rfl)) Via.refl e0 F_size_a1 (g := (mkF m 2 #[.val (.ref a1)] [(.ref a1), (.ref a1)])) rfl rfl (hb hby d16_2)
  obtain ⟨cq4, q4, q4'⟩ := E_a1.cell
  obtain ⟨_, _, ⟨T4, L4, k4, n4⟩, -, X4, ⟨Lc4, hQ4, l4, y4, z4⟩, st4⟩ := X3.privateBack hx (y := mN23) hown (mvT hZ (wd hw 134 rfl)) (mvT hZ (wd hw 135 rfl)) (mvT hZ (wd hw 137 rfl)) (Cond.privateMethod_at (mvP hZ (wd hw 136 rfl) (args := #[]))) (mvT hZ (wd hw 138 rfl)) (by decide) (backOf (W := 0) (rm17 l Z a0 hw [] a1 (sz + (1 : Int32)) w3 cl_w3 mc sz h0 n0 Z0 F_elementData_a1 Ar_w3 S_w3 S_DEF E_a1 F_modCount_a1 F_size_a1 g_a1 hp) hZ (wd hw 138 rfl) (wd hw 28 rfl) (by decide) (by decide)) (g := (mkF m 7 #[.val (.ref a1)] [(.int (sz + (1 : Int32))), (.ref a1)])) rfl (by rw [hml]; rfl) (Steps.refl _) (a := a1) (by rw [e3]; exact q4) q4' (argsL := [(.int (sz + (1 : Int32)))]) (rest := []) (lenOf pd_16_12 rfl) rfl (by show 2 * 0 + _ ≤ _; exact Nat.le_of_eq rfl) (hb hby d16_7) (fun _ _ => ⟨rfl, e3, (by decide : 0 + 1 ≤ _), (by decide : 0 + 10 ≤ _)⟩)
  dsimp only [Pt.U, Pt.locs, Pt.cells, Pt.slots] at X4 l4 y4 z4 st4 hQ4
  subst l4 y4 z4
  obtain ⟨d, kd, rfl, N4q, K5q, z5q, S5q⟩ := hQ4
  have N4 := Fr.app N0 N4q
  obtain ⟨fs, hr, hrun, hended, hW, hsame⟩ := X4.leave (v := some (.ref d)) (fun h => by rw [Bd.returns] at h; cases h)
  refine ⟨_, _, pre0 _ ?_, hrun, hended, _, _, rfl, ?_, ⟨_, rfl⟩, hW, hsame.mono (by decide) (by decide)⟩
  · show Steps p.tables e below (s₁.setTop (mkF m 0 #[.val (.ref a1)] [])) _
    refine XS.aloadN X0.here hx rfl (hb hby d16_0) rfl rfl ?_
    refine XS.aloadN X0.here hx rfl (hb hby d16_1) rfl rfl ?_
    show Steps p.tables e below (s₁.setTop (mkF m 2 #[.val (.ref a1)] [(.ref a1), (.ref a1)])) _
    refine st3 _ ?_
    show Steps p.tables e below (T3.setTop (mkF m 5 #[.val (.ref a1)] [(.int sz), (.ref a1)])) _
    refine XS.iconst X3.here hx rfl (hb hby d16_5) ?_
    refine XS.iadd X3.here hx rfl (hb hby d16_6) rfl ?_
    show Steps p.tables e below (T3.setTop (mkF m 7 #[.val (.ref a1)] [(.int (sz + (1 : Int32))), (.ref a1)])) _
    refine st4.trans ?_
    show Steps p.tables e below (T4.setTop (mkF m 10 #[.val (.ref a1)] [(.ref d)])) _
    jvm_step X4.here [X4.here.top, hx, (hb hby d16_10), X4.method', Bd.returns, Value.isRef, FieldType.isReference]
    first | (intro acts; rw [hr _ acts rfl rfl rfl]) | rw [hr _ _ rfl rfl rfl]
    exact Steps.refl _
  · show own_Gr Z a1 mc sz h0 n0 _ T4.heap _
    exact ⟨d, kd, rfl, N4, K5q, z5q, S5q⟩
theorem d15_0 : decode jdk_38_method_24_code 0 = .ok (.iload_n 3, 1) := by decide +kernel
theorem d15_1 : decode jdk_38_method_24_code 1 = .ok (.aload_n 2, 1) := by decide +kernel
theorem d15_2 : decode jdk_38_method_24_code 2 = .ok (.arraylength, 1) := by decide +kernel
theorem d15_3 : decode jdk_38_method_24_code 3 = .ok (.if_icmp .ne 8, 3) := by decide +kernel
theorem d15_6 : decode jdk_38_method_24_code 6 = .ok (.aload_n 0, 1) := by decide +kernel
theorem d15_7 : decode jdk_38_method_24_code 7 = .ok (.invokevirtual 129, 3) := by decide +kernel
theorem d15_10 : decode jdk_38_method_24_code 10 = .ok (.astore_n 2, 1) := by decide +kernel
theorem d15_11 : decode jdk_38_method_24_code 11 = .ok (.aload_n 2, 1) := by decide +kernel
theorem d15_12 : decode jdk_38_method_24_code 12 = .ok (.iload_n 3, 1) := by decide +kernel
theorem d15_13 : decode jdk_38_method_24_code 13 = .ok (.aload_n 1, 1) := by decide +kernel
theorem d15_14 : decode jdk_38_method_24_code 14 = .ok (.aastore, 1) := by decide +kernel
theorem d15_15 : decode jdk_38_method_24_code 15 = .ok (.aload_n 0, 1) := by decide +kernel
theorem d15_16 : decode jdk_38_method_24_code 16 = .ok (.iload_n 3, 1) := by decide +kernel
theorem d15_17 : decode jdk_38_method_24_code 17 = .ok (.iconst 1, 1) := by decide +kernel
theorem d15_18 : decode jdk_38_method_24_code 18 = .ok (.iadd, 1) := by decide +kernel
theorem d15_19 : decode jdk_38_method_24_code 19 = .ok (.putfield 48, 3) := by decide +kernel
theorem d15_22 : decode jdk_38_method_24_code 22 = .ok (.return_, 1) := by decide +kernel
theorem pn_15 : plainName "java/util/ArrayList" = true := by first | (simp [plainName, overriddenIn]; done) | decide +kernel
theorem pd_15_11 : parseMethodDescriptor "()[Ljava/lang/Object;" = some ⟨[], some (.array (.object "java/lang/Object"))⟩ := by decide +kernel
theorem ef_15 (m : MethodId) (x0 : Addr) (x1 : Addr) (x2 : Addr) (x3 : Int32) : entryFrame m #[(.ref x0), (.ref x1), (.ref x2), (.int x3)] 4 = mkF m 0 #[.val (.ref x0), .val (.ref x1), .val (.ref x2), .val (.int x3)] [] := by first | (simp [entryFrame, mkF, argsToLocals, Value.category]; done) | rfl
set_option maxRecDepth 65536 in
set_option maxHeartbeats 40000000 in
theorem rm15f (l : Launch) (Z : State) (a0 : Array Value) (hw : ∀ d ∈ tables_1, d.before a0 Z = true) (ws : List Jvm.Cond) (a1 : Addr) (a2 : Addr) (a3 : Addr) (cl_a3 : Cell) (mc : Int32) (h0 : Heap) (n0 : Nat) (Z0 : n0 ≤ h0.size) (F_elementData_a1 : Fld Z h0 a1 "java/util/ArrayList" "elementData" "[Ljava/lang/Object;" (.ref a3)) (Ar_a3 : Arr Z h0 a3 cl_a3 (.object "java/lang/Object")) (S_a3 : cl_a3.slots.size = (0 : Int32).toNatClampNeg) (S_DEF : Sta Z h0 "java/util/ArrayList" "DEFAULTCAPACITY_EMPTY_ELEMENTDATA" "[Ljava/lang/Object;" (.ref a3)) (E_a1 : Exa Z h0 a1 "java/util/ArrayList") (F_modCount_a1 : Fld Z h0 a1 "java/util/AbstractList" "modCount" "I" (.int mc)) (F_size_a1 : Fld Z h0 a1 "java/util/ArrayList" "size" "I" (.int (0 : Int32))) (g_a1 : n0 ≤ a1) (E_a2 : Exa Z h0 a2 "java/lang/String") :
    MetFree l mN21 (head1 (Jvm.Cond.code mN21 jdk_38_method_24_code 4 none :: ws) ({ frames := 3, cells := 1, slots := 10, locals := 41 } : Room)) (fun a U => a = #[(.ref a1), (.ref a2), (.ref a3), (.int (0 : Int32))] ∧ Z.Warmed39 U.vm ∧ U.heap = h0) (fun _ _ _ _ _ => True) (fun _ U o U' => ∃ v L, o = .returned v ∧ own_A1 Z a1 a2 mc none h0 n0 v U'.heap L ∧ FrameEnd U o U' L ({ frames := 3, cells := 1, slots := 10, locals := 41 } : Room).cells ({ frames := 3, cells := 1, slots := 10, locals := 41 } : Room).slots) := by
  refine MetFree.of_bodySF (plainFor_of_name pn_15) hisR ?_
  intro p e s m args below meth c s₁ Bd hml0 hP hK
  obtain ⟨rfl, hZ, hh⟩ := hP
  have hx := Bd.exec
  have hby := Bd.bytes
  have hml : c.maxLocals = 4 := hml0
  have hown : s.vm.findClass "java/util/ArrayList" = some m.cls := findClass_of_methodNamed Bd.named
  have hnm := (name_of_methodNamed Bd.named Bd.method).1
  have X0 : Stand p l e ({ frames := 3, cells := 1, slots := 10, locals := 41 } : Room) s m #[(.ref a1), (.ref a2), (.ref a3), (.int (0 : Int32))] below meth c s₁ [] 0 0 := Stand.of_body Bd
  have e0 : s₁.heap = h0 := by rw [← hh, Bd.state]; rfl
  have N0 := Fr.nil n0
  have pre0 : ∀ t, Steps p.tables e below (s₁.setTop (mkF m 0 #[.val (.ref a1), .val (.ref a2), .val (.ref a3), .val (.int (0 : Int32))] [])) t → Steps p.tables e below (s₁.setTop (entryFrame m #[(.ref a1), (.ref a2), (.ref a3), (.int (0 : Int32))] 4)) t := fun t k => castTop (ef_15 m a1 a2 a3 (0 : Int32)) k
  have N_a3 : ¬ (0 : Int32) < 0 := by decide
  obtain ⟨cq5, q5, q5'⟩ := E_a1.cell
  obtain ⟨_, _, ⟨T5, L5, k5, n5⟩, -, X5, ⟨Lc5, hQ5, l5, y5, z5⟩, st5⟩ := X0.privateBack hx (y := mN22) hown (mvT hZ (wd hw 129 rfl)) (mvT hZ (wd hw 130 rfl)) (mvT hZ (wd hw 132 rfl)) (Cond.privateMethod_at (mvP hZ (wd hw 131 rfl) (args := #[]))) (mvT hZ (wd hw 133 rfl)) (by decide) (backOf (W := 0) (rm16 l Z a0 hw [] a1 a3 cl_a3 mc (0 : Int32) h0 n0 Z0 F_elementData_a1 Ar_a3 S_a3 S_DEF E_a1 F_modCount_a1 F_size_a1 g_a1 (by decide)) hZ (wd hw 133 rfl) (wd hw 28 rfl) (by decide) (by decide)) (g := (mkF m 7 #[.val (.ref a1), .val (.ref a2), .val (.ref a3), .val (.int (0 : Int32))] [(.ref a1)])) rfl (by rw [hml]; rfl) (Steps.refl _) (a := a1) (by rw [e0]; exact q5) q5' (argsL := []) (rest := []) (lenOf pd_15_11 rfl) rfl (by show 2 * 0 + _ ≤ _; exact Nat.le_of_eq rfl) (hb hby d15_7) (fun _ _ => ⟨rfl, e0, (by decide : 0 + 1 ≤ _), (by decide : 0 + 10 ≤ _)⟩)
  dsimp only [Pt.U, Pt.locs, Pt.cells, Pt.slots] at X5 l5 y5 z5 st5 hQ5
  subst l5 y5 z5
  obtain ⟨d, kd, rfl, N5q, K5q, z5q, E5q, M5q, D5q, S5q, V5q, O5q, XE5⟩ := hQ5
  obtain ⟨cl5, Ar5, q5c, S5, Nn5, H5, G5⟩ := V5q
  have hin14 : ¬ ((0 : Int32) < 0 ∨ cl5.slots.size ≤ ((0 : Int32)).toNatClampNeg) := inb_of S5 ⟨by decide, by decide⟩
  have Sto14 : Sto Z T5.heap d (.ref a2) := Sto.ofV Ar5 q5c O5q (Ins.of_exa (E_a2.keep K5q) (wd hw 145 rfl))
  have g_d : n0 ≤ d := Nat.le_trans Z0 z5q
  have na : a1 ≠ d := Nat.ne_of_lt (Nat.lt_of_lt_of_le E_a1.lt z5q)
  have N5 := Fr.app N0 N5q
  obtain ⟨T6, h6, X6, e6, W6, st6⟩ := stR X5 hx hZ rfl Ar5 (j := (0 : Int32)) hin14 rfl Sto14 (g := (mkF m 14 #[.val (.ref a1), .val (.ref a2), .val (.ref d), .val (.int (0 : Int32))] [(.ref a2), (.int (0 : Int32)), (.ref d)])) rfl rfl (hb hby d15_14)
  have N6 := Fr.snoc X6 N5 g_d
  have V6 := Arv.set Ar5 q5c S5 Nn5 H5 G5 (v := .ref a2) rfl W6 0 rfl (Nat.le_of_ble_eq_true rfl)
  obtain ⟨T7, h7, X7, e7, W7, st7⟩ := putF X6 hx hZ hown (host := "") (Or.inl (wd hw 95 rfl)) Via.refl e6 (S5q.other W6 (Or.inl na)) (E5q.wr W6) (Or.inl (wd hw 96 rfl)) (wd hw 27 rfl) (ty := .int) (by decide) rfl rfl (g := (mkF m 19 #[.val (.ref a1), .val (.ref a2), .val (.ref d), .val (.int (0 : Int32))] [(.int ((0 : Int32) + (1 : Int32))), (.ref a1)])) rfl rfl (hb hby d15_19)
  have Fw7 := (S5q.other W6 (Or.inl na)).same W7
  have K7 : Keep h0 h7 [a1] := (K5q.wr W6 (Or.inr z5q)).wr W7 (Or.inl (List.mem_of_getElem? (i := 0) rfl))
  have N7 := Fr.snoc X7 N6 g_a1
  obtain ⟨fs, hr, hrun, hended, hW, hsame⟩ := X7.leave (v := none) (fun _ => rfl)
  refine ⟨_, _, pre0 _ ?_, hrun, hended, _, _, rfl, ?_, ⟨_, rfl⟩, hW, hsame.mono (by decide) (by decide)⟩
  · show Steps p.tables e below (s₁.setTop (mkF m 0 #[.val (.ref a1), .val (.ref a2), .val (.ref a3), .val (.int (0 : Int32))] [])) _
    refine XS.iloadN X0.here hx rfl (hb hby d15_0) rfl ?_
    refine XS.aloadN X0.here hx rfl (hb hby d15_1) rfl rfl ?_
    show Steps p.tables e below (s₁.setTop (mkF m 2 #[.val (.ref a1), .val (.ref a2), .val (.ref a3), .val (.int (0 : Int32))] [(.ref a3), (.int (0 : Int32))])) _
    refine X0.arraylength hx (by rw [e0]; exact Ar_a3.1) (State.isArrayOf_alike hZ.alike Ar_a3.2.1) (g := (mkF m 2 #[.val (.ref a1), .val (.ref a2), .val (.ref a3), .val (.int (0 : Int32))] [(.ref a3), (.int (0 : Int32))])) rfl rfl (hb hby d15_2) _ ?_
    rw [len_of S_a3 N_a3]
    show Steps p.tables e below (s₁.setTop (mkF m 3 #[.val (.ref a1), .val (.ref a2), .val (.ref a3), .val (.int (0 : Int32))] [(.int (0 : Int32)), (.int (0 : Int32))])) _
    refine XS.icmpNo X0.here hx rfl (hb hby d15_3) rfl (teq (rfl : (0 : Int32) = (0 : Int32))).2 ?_
    refine XS.aloadN X0.here hx rfl (hb hby d15_6) rfl rfl ?_
    show Steps p.tables e below (s₁.setTop (mkF m 7 #[.val (.ref a1), .val (.ref a2), .val (.ref a3), .val (.int (0 : Int32))] [(.ref a1)])) _
    refine st5.trans ?_
    show Steps p.tables e below (T5.setTop (mkF m 10 #[.val (.ref a1), .val (.ref a2), .val (.ref a3), .val (.int (0 : Int32))] [(.ref d)])) _
    refine XS.astoreN X5.here hx rfl (hb hby d15_10) rfl rfl (l' := #[.val (.ref a1), .val (.ref a2), .val (.ref d), .val (.int (0 : Int32))]) rfl ?_
    refine XS.aloadN X5.here hx rfl (hb hby d15_11) rfl rfl ?_
    show Steps p.tables e below (T5.setTop (mkF m 12 #[.val (.ref a1), .val (.ref a2), .val (.ref d), .val (.int (0 : Int32))] [(.ref d)])) _
    refine XS.iloadN X5.here hx rfl (hb hby d15_12) rfl ?_
    refine XS.aloadN X5.here hx rfl (hb hby d15_13) rfl rfl ?_
    show Steps p.tables e below (T5.setTop (mkF m 14 #[.val (.ref a1), .val (.ref a2), .val (.ref d), .val (.int (0 : Int32))] [(.ref a2), (.int (0 : Int32)), (.ref d)])) _
    refine st6 _ ?_
    show Steps p.tables e below (T6.setTop (mkF m 15 #[.val (.ref a1), .val (.ref a2), .val (.ref d), .val (.int (0 : Int32))] [])) _
    refine XS.aloadN X6.here hx rfl (hb hby d15_15) rfl rfl ?_
    refine XS.iloadN X6.here hx rfl (hb hby d15_16) rfl ?_
    show Steps p.tables e below (T6.setTop (mkF m 17 #[.val (.ref a1), .val (.ref a2), .val (.ref d), .val (.int (0 : Int32))] [(.int (0 : Int32)), (.ref a1)])) _
    refine XS.iconst X6.here hx rfl (hb hby d15_17) ?_
    refine XS.iadd X6.here hx rfl (hb hby d15_18) rfl ?_
    show Steps p.tables e below (T6.setTop (mkF m 19 #[.val (.ref a1), .val (.ref a2), .val (.ref d), .val (.int (0 : Int32))] [(.int ((0 : Int32) + (1 : Int32))), (.ref a1)])) _
    refine st7 _ ?_
    show Steps p.tables e below (T7.setTop (mkF m 22 #[.val (.ref a1), .val (.ref a2), .val (.ref d), .val (.int (0 : Int32))] [])) _
    exact X7.returnOut hx Bd.returns (hb hby d15_22) hr
  · show own_A1 Z a1 a2 mc none h0 n0 _ T7.heap _
    rw [e7]
    exact ⟨d, kd, rfl, N7, K7, z5q, (E5q.wr W6).wr W7, (M5q.other W6 (Or.inl na)).other W7 (own_sn (Or.inl (wd hw 46 rfl)) (Or.inl (wd hw 96 rfl)) (by decide)), (D5q.other W6 (Or.inl na)).other W7 (own_sn (Or.inl (wd hw 49 rfl)) (Or.inl (wd hw 96 rfl)) (by decide)), Fw7, V6.other W7 (Ne.symm na), O5q, (XE5.wr W6).wr W7⟩
set_option maxRecDepth 65536 in
set_option maxHeartbeats 40000000 in
theorem rm15t (l : Launch) (Z : State) (a0 : Array Value) (hw : ∀ d ∈ tables_1, d.before a0 Z = true) (ws : List Jvm.Cond) (a1 a2 a3 : Addr) (k : ClassId) (mc p4 : Int32) (i : Nat) (vs : List Value) (h0 : Heap) (n0 : Nat) (Z0 : n0 ≤ h0.size) (hL : own_LS Z h0 a1 a3 k mc p4 vs) (g_a1 : n0 ≤ a1) (g_a3 : n0 ≤ a3) (E_a2 : Exa Z h0 a2 "java/lang/String") (hsz : p4.toNatClampNeg = i) (hp0 : ¬ (p4 < (0 : Int32))) (hp1 : p4 < (10 : Int32)) (hc3 : ¬ (p4 = (10 : Int32))) (hi : i < vs.length) :
    MetFree l mN21 (head1 (Jvm.Cond.code mN21 jdk_38_method_24_code 4 none :: ws) ({ frames := 0, cells := 0, slots := 0, locals := 0 } : Room)) (fun a U => a = #[(.ref a1), (.ref a2), (.ref a3), (.int p4)] ∧ Z.Warmed39 U.vm ∧ U.heap = h0) (fun _ _ _ _ _ => True) (fun _ U o U' => ∃ v L, o = .returned v ∧ own_A2 Z a1 a3 a2 k mc p4 i vs none h0 n0 v U'.heap L ∧ FrameEnd U o U' L ({ frames := 0, cells := 0, slots := 0, locals := 0 } : Room).cells ({ frames := 0, cells := 0, slots := 0, locals := 0 } : Room).slots) := by
  refine MetFree.of_bodySF (plainFor_of_name pn_15) hisR ?_
  intro p e s m args below meth c s₁ Bd hml0 hP hK
  obtain ⟨rfl, hZ, hh⟩ := hP
  have hx := Bd.exec
  have hby := Bd.bytes
  have hml : c.maxLocals = 4 := hml0
  have hown : s.vm.findClass "java/util/ArrayList" = some m.cls := findClass_of_methodNamed Bd.named
  have hnm := (name_of_methodNamed Bd.named Bd.method).1
  have X0 : Stand p l e ({ frames := 0, cells := 0, slots := 0, locals := 0 } : Room) s m #[(.ref a1), (.ref a2), (.ref a3), (.int p4)] below meth c s₁ [] 0 0 := Stand.of_body Bd
  have e0 : s₁.heap = h0 := by rw [← hh, Bd.state]; rfl
  have N0 := Fr.nil n0
  have pre0 : ∀ t, Steps p.tables e below (s₁.setTop (mkF m 0 #[.val (.ref a1), .val (.ref a2), .val (.ref a3), .val (.int p4)] [])) t → Steps p.tables e below (s₁.setTop (entryFrame m #[(.ref a1), (.ref a2), (.ref a3), (.int p4)] 4)) t := fun t k => castTop (ef_15 m a1 a2 a3 p4) k
  obtain ⟨E_a1, F_mc, F_ed, F_size_a1, V_a3, O_a3, EX_a3⟩ := hL
  have na : a1 ≠ a3 := E_a1.neArv V_a3 (wd hw 27 rfl)
  obtain ⟨cl_a3, Ar_a3, q_a3, S_a3, N_a3, H_a3, G_a3⟩ := V_a3
  have hin14 : ¬ (p4 < 0 ∨ cl_a3.slots.size ≤ p4.toNatClampNeg) := inb_of S_a3 ⟨hp0, hp1⟩
  have Sto14 : Sto Z h0 a3 (.ref a2) := Sto.ofV Ar_a3 q_a3 O_a3 (Ins.of_exa E_a2 (wd hw 145 rfl))
  obtain ⟨T5, h5, X5, e5, W5, st5⟩ := stR X0 hx hZ e0 Ar_a3 (j := p4) hin14 rfl Sto14 (g := (mkF m 14 #[.val (.ref a1), .val (.ref a2), .val (.ref a3), .val (.int p4)] [(.ref a2), (.int p4), (.ref a3)])) rfl rfl (hb hby d15_14)
  have N5 := Fr.snoc X5 N0 g_a3
  have K5 : Keep h0 h5 [a3, a1] := (Keep.refl h0 [a3, a1]).wr W5 (Or.inl (List.mem_of_getElem? (i := 0) rfl))
  obtain ⟨T6, h6, X6, e6, W6, st6⟩ := putF X5 hx hZ hown (host := "") (Or.inl (wd hw 95 rfl)) Via.refl e5 (F_size_a1.other W5 (Or.inl na)) (E_a1.wr W5) (Or.inl (wd hw 96 rfl)) (wd hw 27 rfl) (ty := .int) (by decide) rfl rfl (g := (mkF m 19 #[.val (.ref a1), .val (.ref a2), .val (.ref a3), .val (.int p4)] [(.int (p4 + (1 : Int32))), (.ref a1)])) rfl rfl (hb hby d15_19)
  have Fw6 := (F_size_a1.other W5 (Or.inl na)).same W6
  have K6 : Keep h0 h6 [a3, a1] := K5.wr W6 (Or.inl (List.mem_of_getElem? (i := 1) rfl))
  have N6 := Fr.snoc X6 N5 g_a1
  obtain ⟨fs, hr, hrun, hended, hW, hsame⟩ := X6.leave (v := none) (fun _ => rfl)
  refine ⟨_, _, pre0 _ ?_, hrun, hended, _, _, rfl, ?_, ⟨_, rfl⟩, hW, hsame.mono (by decide) (by decide)⟩
  · show Steps p.tables e below (s₁.setTop (mkF m 0 #[.val (.ref a1), .val (.ref a2), .val (.ref a3), .val (.int p4)] [])) _
    refine XS.iloadN X0.here hx rfl (hb hby d15_0) rfl ?_
    refine XS.aloadN X0.here hx rfl (hb hby d15_1) rfl rfl ?_
    show Steps p.tables e below (s₁.setTop (mkF m 2 #[.val (.ref a1), .val (.ref a2), .val (.ref a3), .val (.int p4)] [(.ref a3), (.int p4)])) _
    refine X0.arraylength hx (by rw [e0]; exact Ar_a3.1) (State.isArrayOf_alike hZ.alike Ar_a3.2.1) (g := (mkF m 2 #[.val (.ref a1), .val (.ref a2), .val (.ref a3), .val (.int p4)] [(.ref a3), (.int p4)])) rfl rfl (hb hby d15_2) _ ?_
    rw [len_of S_a3 N_a3]
    show Steps p.tables e below (s₁.setTop (mkF m 3 #[.val (.ref a1), .val (.ref a2), .val (.ref a3), .val (.int p4)] [(.int (10 : Int32)), (.int p4)])) _
    refine XS.icmpYes X0.here hx rfl (pc0 := 3) (pc' := 11) rfl (hb hby d15_3) rfl (feq hc3).2 (by decide) (by decide) ?_
    refine XS.aloadN X0.here hx rfl (hb hby d15_11) rfl rfl ?_
    show Steps p.tables e below (s₁.setTop (mkF m 12 #[.val (.ref a1), .val (.ref a2), .val (.ref a3), .val (.int p4)] [(.ref a3)])) _
    refine XS.iloadN X0.here hx rfl (hb hby d15_12) rfl ?_
    refine XS.aloadN X0.here hx rfl (hb hby d15_13) rfl rfl ?_
    show Steps p.tables e below (s₁.setTop (mkF m 14 #[.val (.ref a1), .val (.ref a2), .val (.ref a3), .val (.int p4)] [(.ref a2), (.int p4), (.ref a3)])) _
    refine st5 _ ?_
    show Steps p.tables e below (T5.setTop (mkF m 15 #[.val (.ref a1), .val (.ref a2), .val (.ref a3), .val (.int p4)] [])) _
    refine XS.aloadN X5.here hx rfl (hb hby d15_15) rfl rfl ?_
    refine XS.iloadN X5.here hx rfl (hb hby d15_16) rfl ?_
    show Steps p.tables e below (T5.setTop (mkF m 17 #[.val (.ref a1), .val (.ref a2), .val (.ref a3), .val (.int p4)] [(.int p4), (.ref a1)])) _
    refine XS.iconst X5.here hx rfl (hb hby d15_17) ?_
    refine XS.iadd X5.here hx rfl (hb hby d15_18) rfl ?_
    show Steps p.tables e below (T5.setTop (mkF m 19 #[.val (.ref a1), .val (.ref a2), .val (.ref a3), .val (.int p4)] [(.int (p4 + (1 : Int32))), (.ref a1)])) _
    refine st6 _ ?_
    show Steps p.tables e below (T6.setTop (mkF m 22 #[.val (.ref a1), .val (.ref a2), .val (.ref a3), .val (.int p4)] [])) _
    exact X6.returnOut hx Bd.returns (hb hby d15_22) hr
  · show own_A2 Z a1 a3 a2 k mc p4 i vs none h0 n0 _ T6.heap _
    rw [e6]
    have V6 := Arv.set Ar_a3 q_a3 S_a3 N_a3 H_a3 G_a3 (v := .ref a2) rfl W5 i hsz hi
    exact ⟨rfl, N6, K6, (E_a1.wr W5).wr W6, (F_mc.other W5 (Or.inl na)).other W6 (own_sn (Or.inl (wd hw 46 rfl)) (Or.inl (wd hw 96 rfl)) (by decide)), (F_ed.other W5 (Or.inl na)).other W6 (own_sn (Or.inl (wd hw 49 rfl)) (Or.inl (wd hw 96 rfl)) (by decide)), Fw6, V6.other W6 (Ne.symm na), O_a3, (EX_a3.wr W5).wr W6⟩
theorem d14_0 : decode jdk_38_method_25_code 0 = .ok (.aload_n 0, 1) := by decide +kernel
theorem d14_1 : decode jdk_38_method_25_code 1 = .ok (.dup, 1) := by decide +kernel
theorem d14_2 : decode jdk_38_method_25_code 2 = .ok (.getfield 63, 3) := by decide +kernel
theorem d14_5 : decode jdk_38_method_25_code 5 = .ok (.iconst 1, 1) := by decide +kernel
theorem d14_6 : decode jdk_38_method_25_code 6 = .ok (.iadd, 1) := by decide +kernel
theorem d14_7 : decode jdk_38_method_25_code 7 = .ok (.putfield 63, 3) := by decide +kernel
theorem d14_10 : decode jdk_38_method_25_code 10 = .ok (.aload_n 0, 1) := by decide +kernel
theorem d14_11 : decode jdk_38_method_25_code 11 = .ok (.aload_n 1, 1) := by decide +kernel
theorem d14_12 : decode jdk_38_method_25_code 12 = .ok (.aload_n 0, 1) := by decide +kernel
theorem d14_13 : decode jdk_38_method_25_code 13 = .ok (.getfield 9, 3) := by decide +kernel
theorem d14_16 : decode jdk_38_method_25_code 16 = .ok (.aload_n 0, 1) := by decide +kernel
theorem d14_17 : decode jdk_38_method_25_code 17 = .ok (.getfield 48, 3) := by decide +kernel
theorem d14_20 : decode jdk_38_method_25_code 20 = .ok (.invokevirtual 131, 3) := by decide +kernel
theorem d14_23 : decode jdk_38_method_25_code 23 = .ok (.iconst 1, 1) := by decide +kernel
theorem d14_24 : decode jdk_38_method_25_code 24 = .ok (.ireturn, 1) := by decide +kernel
theorem pn_14 : plainName "java/util/ArrayList" = true := by first | (simp [plainName, overriddenIn]; done) | decide +kernel
theorem pd_14_10 : parseMethodDescriptor "(Ljava/lang/Object;[Ljava/lang/Object;I)V" = some ⟨[(.object "java/lang/Object"), (.array (.object "java/lang/Object")), .int], none⟩ := by decide +kernel
theorem ef_14 (m : MethodId) (x0 : Addr) (x1 : Addr) : entryFrame m #[(.ref x0), (.ref x1)] 2 = mkF m 0 #[.val (.ref x0), .val (.ref x1)] [] := by first | (simp [entryFrame, mkF, argsToLocals, Value.category]; done) | rfl
set_option maxRecDepth 65536 in
set_option maxHeartbeats 40000000 in
theorem rm14a (l : Launch) (Z : State) (a0 : Array Value) (hw : ∀ d ∈ tables_1, d.before a0 Z = true) (ws : List Jvm.Cond) (a1 : Addr) (a2 : Addr) (w6 : Addr) (cl_w6 : Cell) (h0 : Heap) (n0 : Nat) (Z0 : n0 ≤ h0.size) (F_elementData_a1 : Fld Z h0 a1 "java/util/ArrayList" "elementData" "[Ljava/lang/Object;" (.ref w6)) (Ar_w6 : Arr Z h0 w6 cl_w6 (.object "java/lang/Object")) (S_w6 : cl_w6.slots.size = (0 : Int32).toNatClampNeg) (S_DEF : Sta Z h0 "java/util/ArrayList" "DEFAULTCAPACITY_EMPTY_ELEMENTDATA" "[Ljava/lang/Object;" (.ref w6)) (E_a1 : Exa Z h0 a1 "java/util/ArrayList") (F_modCount_a1 : Fld Z h0 a1 "java/util/AbstractList" "modCount" "I" (.int (0 : Int32))) (F_size_a1 : Fld Z h0 a1 "java/util/ArrayList" "size" "I" (.int (0 : Int32))) (g_a1 : n0 ≤ a1) (E_a2 : Exa Z h0 a2 "java/lang/String") :
    MetFree l mN20 (head1 (Jvm.Cond.code mN20 jdk_38_method_25_code 2 (some .boolean) :: ws) ({ frames := 4, cells := 1, slots := 10, locals := 56 } : Room)) (fun a U => a = #[(.ref a1), (.ref a2)] ∧ Z.Warmed39 U.vm ∧ U.heap = h0) (fun _ _ _ _ _ => True) (fun _ U o U' => ∃ v L, o = .returned v ∧ own_A1 Z a1 a2 ((0 : Int32) + (1 : Int32)) (some (.int (1 : Int32))) h0 n0 v U'.heap L ∧ FrameEnd U o U' L ({ frames := 4, cells := 1, slots := 10, locals := 56 } : Room).cells ({ frames := 4, cells := 1, slots := 10, locals := 56 } : Room).slots) := by
  refine MetFree.of_bodySF (plainFor_of_name pn_14) hisR ?_
  intro p e s m args below meth c s₁ Bd hml0 hP hK
  obtain ⟨rfl, hZ, hh⟩ := hP
  have hx := Bd.exec
  have hby := Bd.bytes
  have hml : c.maxLocals = 2 := hml0
  have hown : s.vm.findClass "java/util/ArrayList" = some m.cls := findClass_of_methodNamed Bd.named
  have hnm := (name_of_methodNamed Bd.named Bd.method).1
  have X0 : Stand p l e ({ frames := 4, cells := 1, slots := 10, locals := 56 } : Room) s m #[(.ref a1), (.ref a2)] below meth c s₁ [] 0 0 := Stand.of_body Bd
  have e0 : s₁.heap = h0 := by rw [← hh, Bd.state]; rfl
  have N0 := Fr.nil n0
  have pre0 : ∀ t, Steps p.tables e below (s₁.setTop (mkF m 0 #[.val (.ref a1), .val (.ref a2)] [])) t → Steps p.tables e below (s₁.setTop (entryFrame m #[(.ref a1), (.ref a2)] 2)) t := fun t k => castTop (ef_14 m a1 a2) k
  obtain ⟨T4, X4, e4, st4⟩ := getF X0 hx hZ hown (host := "") (Or.inl (wd hw 122 rfl)) (Via.of (wd hw 123 rfl)) e0 F_modCount_a1 (g := (mkF m 2 #[.val (.ref a1), .val (.ref a2)] [(.ref a1), (.ref a1)])) rfl rfl (hb hby d14_2)
  obtain ⟨T5, h5, X5, e5, W5, st5⟩ := putF X4 hx hZ hown (host := "") (Or.inl (wd hw 122 rfl)) (Via.of (wd hw 123 rfl)) e4 F_modCount_a1 E_a1 (Or.inl (wd hw 46 rfl)) (wd hw 27 rfl) (ty := .int) (by decide) rfl rfl (g := (mkF m 7 #[.val (.ref a1), .val (.ref a2)] [(.int ((0 : Int32) + (1 : Int32))), (.ref a1)])) rfl rfl (hb hby d14_7)
  have Fw5 := F_modCount_a1.same W5
  have K5 : Keep h0 h5 [a1] := (Keep.refl h0 [a1]).wr W5 (Or.inl (List.mem_of_getElem? (i := 0) rfl))
  have N5 := Fr.snoc X5 N0 g_a1
  obtain ⟨T7, X7, e7, st7⟩ := getF X5 hx hZ hown (host := "") (Or.inl (wd hw 48 rfl)) Via.refl e5 (F_elementData_a1.other W5 (own_sn (Or.inl (wd hw 49 rfl)) (Or.inl (wd hw 46 rfl)) (by decide))) (g := (mkF m 13 #[.val (.ref a1), .val (.ref a2)] [(.ref a1), (.ref a2), (.ref a1)])) rfl rfl (hb hby d14_13)
  obtain ⟨T9, X9, e9, st9⟩ := getF X7 hx hZ hown (host := "") (Or.inl (wd hw 95 rfl)) Via.refl e7 (F_size_a1.other W5 (own_sn (Or.inl (wd hw 96 rfl)) (Or.inl (wd hw 46 rfl)) (by decide))) (g := (mkF m 17 #[.val (.ref a1), .val (.ref a2)] [(.ref a1), (.ref w6), (.ref a2), (.ref a1)])) rfl rfl (hb hby d14_17)
  have nw : w6 ≠ a1 := fun q => by subst q; exact ne_arr E_a1 (wd hw 27 rfl) Ar_w6 rfl
  obtain ⟨cq10, q10, q10'⟩ := (E_a1.wr W5).cell
  obtain ⟨_, _, ⟨T10, L10, k10, n10⟩, -, X10, ⟨Lc10, hQ10, l10, y10, z10⟩, st10⟩ := X9.privateBack hx (y := mN21) hown (mvT hZ (wd hw 124 rfl)) (mvT hZ (wd hw 125 rfl)) (mvT hZ (wd hw 127 rfl)) (Cond.privateMethod_at (mvP hZ (wd hw 126 rfl) (args := #[]))) (mvT hZ (wd hw 128 rfl)) (by decide) (backOf (W := 0) (rm15f l Z a0 hw [] a1 a2 w6 cl_w6 ((0 : Int32) + (1 : Int32)) h5 n0 (Nat.le_trans Z0 K5.1) (F_elementData_a1.other W5 (own_sn (Or.inl (wd hw 49 rfl)) (Or.inl (wd hw 46 rfl)) (by decide))) (Ar_w6.other W5 nw) S_w6 (S_DEF.wr W5) (E_a1.wr W5) Fw5 (F_size_a1.other W5 (own_sn (Or.inl (wd hw 96 rfl)) (Or.inl (wd hw 46 rfl)) (by decide))) g_a1 (E_a2.wr W5)) hZ (wd hw 128 rfl) (wd hw 28 rfl) (by decide) (by decide)) (g := (mkF m 20 #[.val (.ref a1), .val (.ref a2)] [(.int (0 : Int32)), (.ref w6), (.ref a2), (.ref a1)])) rfl (by rw [hml]; rfl) (Steps.refl _) (a := a1) (by rw [e9]; exact q10) q10' (argsL := [(.ref a2), (.ref w6), (.int (0 : Int32))]) (rest := []) (lenOf pd_14_10 rfl) rfl (by show 2 * 0 + _ ≤ _; exact Nat.le_of_eq rfl) (hb hby d14_20) (fun _ _ => ⟨rfl, e9, (by decide : 0 + 1 ≤ _), (by decide : 0 + 10 ≤ _)⟩)
  dsimp only [Pt.U, Pt.locs, Pt.cells, Pt.slots] at X10 l10 y10 z10 st10 hQ10
  subst l10 y10 z10
  obtain ⟨d, kd, rfl, N10q, K10q, z10q, S10q⟩ := hQ10
  have N10 := Fr.app N5 N10q
  obtain ⟨fs, hr, hrun, hended, hW, hsame⟩ := X10.leave (v := some (.int (1 : Int32))) (fun h => by rw [Bd.returns] at h; cases h)
  refine ⟨_, _, pre0 _ ?_, hrun, hended, _, _, rfl, ?_, ⟨_, rfl⟩, hW, hsame.mono (by decide) (by decide)⟩
  · show Steps p.tables e below (s₁.setTop (mkF m 0 #[.val (.ref a1), .val (.ref a2)] [])) _
    refine XS.aloadN X0.here hx rfl (hb hby d14_0) rfl rfl ?_
    refine XS.dup X0.here hx rfl (hb hby d14_1) rfl rfl ?_
    show Steps p.tables e below (s₁.setTop (mkF m 2 #[.val (.ref a1), .val (.ref a2)] [(.ref a1), (.ref a1)])) _
    refine st4 _ ?_
    show Steps p.tables e below (T4.setTop (mkF m 5 #[.val (.ref a1), .val (.ref a2)] [(.int (0 : Int32)), (.ref a1)])) _
    refine XS.iconst X4.here hx rfl (hb hby d14_5) ?_
    refine XS.iadd X4.here hx rfl (hb hby d14_6) rfl ?_
    show Steps p.tables e below (T4.setTop (mkF m 7 #[.val (.ref a1), .val (.ref a2)] [(.int ((0 : Int32) + (1 : Int32))), (.ref a1)])) _
    refine st5 _ ?_
    show Steps p.tables e below (T5.setTop (mkF m 10 #[.val (.ref a1), .val (.ref a2)] [])) _
    refine XS.aloadN X5.here hx rfl (hb hby d14_10) rfl rfl ?_
    refine XS.aloadN X5.here hx rfl (hb hby d14_11) rfl rfl ?_
    show Steps p.tables e below (T5.setTop (mkF m 12 #[.val (.ref a1), .val (.ref a2)] [(.ref a2), (.ref a1)])) _
    refine XS.aloadN X5.here hx rfl (hb hby d14_12) rfl rfl ?_
    show Steps p.tables e below (T5.setTop (mkF m 13 #[.val (.ref a1), .val (.ref a2)] [(.ref a1), (.ref a2), (.ref a1)])) _
    refine st7 _ ?_
    show Steps p.tables e below (T7.setTop (mkF m 16 #[.val (.ref a1), .val (.ref a2)] [(.ref w6), (.ref a2), (.ref a1)])) _
    refine XS.aloadN X7.here hx rfl (hb hby d14_16) rfl rfl ?_
    show Steps p.tables e below (T7.setTop (mkF m 17 #[.val (.ref a1), .val (.ref a2)] [(.ref a1), (.ref w6), (.ref a2), (.ref a1)])) _
    refine st9 _ ?_
    show Steps p.tables e below (T9.setTop (mkF m 20 #[.val (.ref a1), .val (.ref a2)] [(.int (0 : Int32)), (.ref w6), (.ref a2), (.ref a1)])) _
    refine st10.trans ?_
    show Steps p.tables e below (T10.setTop (mkF m 23 #[.val (.ref a1), .val (.ref a2)] [])) _
    refine XS.iconst X10.here hx rfl (hb hby d14_23) ?_
    show Steps p.tables e below (T10.setTop (mkF m 24 #[.val (.ref a1), .val (.ref a2)] [(.int (1 : Int32))])) _
    exact retN X10 hx (t := .boolean) Bd.returns (by simp) (hb hby d14_24) hr
  · show own_A1 Z a1 a2 ((0 : Int32) + (1 : Int32)) (some (.int (1 : Int32))) h0 n0 _ T10.heap _
    exact ⟨d, kd, rfl, N10, K5.trans K10q (fun x hx => Or.inl hx), Nat.le_trans K5.1 z10q, S10q⟩
set_option maxRecDepth 65536 in
set_option maxHeartbeats 40000000 in
theorem rm14b (l : Launch) (Z : State) (a0 : Array Value) (hw : ∀ d ∈ tables_1, d.before a0 Z = true) (ws : List Jvm.Cond) (a1 a2 a3 : Addr) (k : ClassId) (mc p4 : Int32) (i : Nat) (vs : List Value) (h0 : Heap) (n0 : Nat) (Z0 : n0 ≤ h0.size) (hL : own_LS Z h0 a1 a3 k mc p4 vs) (g_a1 : n0 ≤ a1) (g_a3 : n0 ≤ a3) (E_a2 : Exa Z h0 a2 "java/lang/String") (hsz : p4.toNatClampNeg = i) (hp0 : ¬ (p4 < (0 : Int32))) (hp1 : p4 < (10 : Int32)) (hc3 : ¬ (p4 = (10 : Int32))) (hi : i < vs.length) :
    MetFree l mN20 (head1 (Jvm.Cond.code mN20 jdk_38_method_25_code 2 (some .boolean) :: ws) ({ frames := 1, cells := 0, slots := 0, locals := 15 } : Room)) (fun a U => a = #[(.ref a1), (.ref a2)] ∧ Z.Warmed39 U.vm ∧ U.heap = h0) (fun _ _ _ _ _ => True) (fun _ U o U' => ∃ v L, o = .returned v ∧ own_A2 Z a1 a3 a2 k (mc + (1 : Int32)) p4 i vs (some (.int (1 : Int32))) h0 n0 v U'.heap L ∧ FrameEnd U o U' L ({ frames := 1, cells := 0, slots := 0, locals := 15 } : Room).cells ({ frames := 1, cells := 0, slots := 0, locals := 15 } : Room).slots) := by
  refine MetFree.of_bodySF (plainFor_of_name pn_14) hisR ?_
  intro p e s m args below meth c s₁ Bd hml0 hP hK
  obtain ⟨rfl, hZ, hh⟩ := hP
  have hx := Bd.exec
  have hby := Bd.bytes
  have hml : c.maxLocals = 2 := hml0
  have hown : s.vm.findClass "java/util/ArrayList" = some m.cls := findClass_of_methodNamed Bd.named
  have hnm := (name_of_methodNamed Bd.named Bd.method).1
  have X0 : Stand p l e ({ frames := 1, cells := 0, slots := 0, locals := 15 } : Room) s m #[(.ref a1), (.ref a2)] below meth c s₁ [] 0 0 := Stand.of_body Bd
  have e0 : s₁.heap = h0 := by rw [← hh, Bd.state]; rfl
  have N0 := Fr.nil n0
  have pre0 : ∀ t, Steps p.tables e below (s₁.setTop (mkF m 0 #[.val (.ref a1), .val (.ref a2)] [])) t → Steps p.tables e below (s₁.setTop (entryFrame m #[(.ref a1), (.ref a2)] 2)) t := fun t k => castTop (ef_14 m a1 a2) k
  obtain ⟨E_a1, F_modCount_a1, F_elementData_a1, F_size_a1, V_a3, O_a3, EX_a3⟩ := hL
  have na : a1 ≠ a3 := E_a1.neArv V_a3 (wd hw 27 rfl)
  obtain ⟨T4, X4, e4, st4⟩ := getF X0 hx hZ hown (host := "") (Or.inl (wd hw 122 rfl)) (Via.of (wd hw 123 rfl)) e0 F_modCount_a1 (g := (mkF m 2 #[.val (.ref a1), .val (.ref a2)] [(.ref a1), (.ref a1)])) rfl rfl (hb hby d14_2)
  obtain ⟨T5, h5, X5, e5, W5, st5⟩ := putF X4 hx hZ hown (host := "") (Or.inl (wd hw 122 rfl)) (Via.of (wd hw 123 rfl)) e4 F_modCount_a1 E_a1 (Or.inl (wd hw 46 rfl)) (wd hw 27 rfl) (ty := .int) (by decide) rfl rfl (g := (mkF m 7 #[.val (.ref a1), .val (.ref a2)] [(.int (mc + (1 : Int32))), (.ref a1)])) rfl rfl (hb hby d14_7)
  have Fw5 := F_modCount_a1.same W5
  have K5 : Keep h0 h5 [a1] := (Keep.refl h0 [a1]).wr W5 (Or.inl (List.mem_of_getElem? (i := 0) rfl))
  have N5 := Fr.snoc X5 N0 g_a1
  obtain ⟨T7, X7, e7, st7⟩ := getF X5 hx hZ hown (host := "") (Or.inl (wd hw 48 rfl)) Via.refl e5 (F_elementData_a1.other W5 (own_sn (Or.inl (wd hw 49 rfl)) (Or.inl (wd hw 46 rfl)) (by decide))) (g := (mkF m 13 #[.val (.ref a1), .val (.ref a2)] [(.ref a1), (.ref a2), (.ref a1)])) rfl rfl (hb hby d14_13)
  obtain ⟨T9, X9, e9, st9⟩ := getF X7 hx hZ hown (host := "") (Or.inl (wd hw 95 rfl)) Via.refl e7 (F_size_a1.other W5 (own_sn (Or.inl (wd hw 96 rfl)) (Or.inl (wd hw 46 rfl)) (by decide))) (g := (mkF m 17 #[.val (.ref a1), .val (.ref a2)] [(.ref a1), (.ref a3), (.ref a2), (.ref a1)])) rfl rfl (hb hby d14_17)
  obtain ⟨cq10, q10, q10'⟩ := (E_a1.wr W5).cell
  obtain ⟨_, _, ⟨T10, L10, k10, n10⟩, -, X10, ⟨Lc10, hQ10, l10, y10, z10⟩, st10⟩ := X9.privateBack hx (y := mN21) hown (mvT hZ (wd hw 124 rfl)) (mvT hZ (wd hw 125 rfl)) (mvT hZ (wd hw 127 rfl)) (Cond.privateMethod_at (mvP hZ (wd hw 126 rfl) (args := #[]))) (mvT hZ (wd hw 128 rfl)) (by decide) (backOf (W := 0) (rm15t l Z a0 hw [] a1 a2 a3 k (mc + (1 : Int32)) p4 i vs h5 n0 (Nat.le_trans Z0 K5.1) ⟨E_a1.wr W5, Fw5, F_elementData_a1.other W5 (own_sn (Or.inl (wd hw 49 rfl)) (Or.inl (wd hw 46 rfl)) (by decide)), F_size_a1.other W5 (own_sn (Or.inl (wd hw 96 rfl)) (Or.inl (wd hw 46 rfl)) (by decide)), V_a3.other W5 (Ne.symm na), O_a3, EX_a3.wr W5⟩ g_a1 g_a3 (E_a2.wr W5) hsz hp0 hp1 hc3 hi) hZ (wd hw 128 rfl) (wd hw 28 rfl) (by decide) (by decide)) (g := (mkF m 20 #[.val (.ref a1), .val (.ref a2)] [(.int p4), (.ref a3), (.ref a2), (.ref a1)])) rfl (by rw [hml]; rfl) (Steps.refl _) (a := a1) (by rw [e9]; exact q10) q10' (argsL := [(.ref a2), (.ref a3), (.int p4)]) (rest := []) (lenOf pd_14_10 rfl) rfl (by show 2 * 0 + _ ≤ _; exact Nat.le_of_eq rfl) (hb hby d14_20) (fun _ _ => ⟨rfl, e9, (by decide : 0 + 0 ≤ _), (by decide : 0 + 0 ≤ _)⟩)
  dsimp only [Pt.U, Pt.locs, Pt.cells, Pt.slots] at X10 l10 y10 z10 st10 hQ10
  subst l10 y10 z10
  obtain ⟨rfl, N10q, K10q, S10q⟩ := hQ10
  have N10 := Fr.app N5 N10q
  obtain ⟨fs, hr, hrun, hended, hW, hsame⟩ := X10.leave (v := some (.int (1 : Int32))) (fun h => by rw [Bd.returns] at h; cases h)
  refine ⟨_, _, pre0 _ ?_, hrun, hended, _, _, rfl, ?_, ⟨_, rfl⟩, hW, hsame.mono (by decide) (by decide)⟩
  · show Steps p.tables e below (s₁.setTop (mkF m 0 #[.val (.ref a1), .val (.ref a2)] [])) _
    refine XS.aloadN X0.here hx rfl (hb hby d14_0) rfl rfl ?_
    refine XS.dup X0.here hx rfl (hb hby d14_1) rfl rfl ?_
    show Steps p.tables e below (s₁.setTop (mkF m 2 #[.val (.ref a1), .val (.ref a2)] [(.ref a1), (.ref a1)])) _
    refine st4 _ ?_
    show Steps p.tables e below (T4.setTop (mkF m 5 #[.val (.ref a1), .val (.ref a2)] [(.int mc), (.ref a1)])) _
    refine XS.iconst X4.here hx rfl (hb hby d14_5) ?_
    refine XS.iadd X4.here hx rfl (hb hby d14_6) rfl ?_
    show Steps p.tables e below (T4.setTop (mkF m 7 #[.val (.ref a1), .val (.ref a2)] [(.int (mc + (1 : Int32))), (.ref a1)])) _
    refine st5 _ ?_
    show Steps p.tables e below (T5.setTop (mkF m 10 #[.val (.ref a1), .val (.ref a2)] [])) _
    refine XS.aloadN X5.here hx rfl (hb hby d14_10) rfl rfl ?_
    refine XS.aloadN X5.here hx rfl (hb hby d14_11) rfl rfl ?_
    show Steps p.tables e below (T5.setTop (mkF m 12 #[.val (.ref a1), .val (.ref a2)] [(.ref a2), (.ref a1)])) _
    refine XS.aloadN X5.here hx rfl (hb hby d14_12) rfl rfl ?_
    show Steps p.tables e below (T5.setTop (mkF m 13 #[.val (.ref a1), .val (.ref a2)] [(.ref a1), (.ref a2), (.ref a1)])) _
    refine st7 _ ?_
    show Steps p.tables e below (T7.setTop (mkF m 16 #[.val (.ref a1), .val (.ref a2)] [(.ref a3), (.ref a2), (.ref a1)])) _
    refine XS.aloadN X7.here hx rfl (hb hby d14_16) rfl rfl ?_
    show Steps p.tables e below (T7.setTop (mkF m 17 #[.val (.ref a1), .val (.ref a2)] [(.ref a1), (.ref a3), (.ref a2), (.ref a1)])) _
    refine st9 _ ?_
    show Steps p.tables e below (T9.setTop (mkF m 20 #[.val (.ref a1), .val (.ref a2)] [(.int p4), (.ref a3), (.ref a2), (.ref a1)])) _
    refine st10.trans ?_
    show Steps p.tables e below (T10.setTop (mkF m 23 #[.val (.ref a1), .val (.ref a2)] [])) _
    refine XS.iconst X10.here hx rfl (hb hby d14_23) ?_
    show Steps p.tables e below (T10.setTop (mkF m 24 #[.val (.ref a1), .val (.ref a2)] [(.int (1 : Int32))])) _
    exact retN X10 hx (t := .boolean) Bd.returns (by simp) (hb hby d14_24) hr
  · show own_A2 Z a1 a3 a2 k (mc + (1 : Int32)) p4 i vs (some (.int (1 : Int32))) h0 n0 _ T10.heap _
    exact ⟨rfl, N10, ((Keep.refl h0 [a3, a1]).wr W5 (Or.inl (List.mem_of_getElem? (i := 1) rfl))).trans K10q (fun x hx => Or.inl hx), S10q⟩
theorem d12_0 : decode jdk_38_method_9_code 0 = .ok (.aload_n 0, 1) := by decide +kernel
theorem d12_1 : decode jdk_38_method_9_code 1 = .ok (.getfield 48, 3) := by decide +kernel
theorem d12_4 : decode jdk_38_method_9_code 4 = .ok (.ifCond .ne 7, 3) := by decide +kernel
theorem d12_7 : decode jdk_38_method_9_code 7 = .ok (.iconst 1, 1) := by decide +kernel
theorem d12_8 : decode jdk_38_method_9_code 8 = .ok (.goto 4, 3) := by decide +kernel
theorem d12_12 : decode jdk_38_method_9_code 12 = .ok (.ireturn, 1) := by decide +kernel
theorem pn_12 : plainName "java/util/ArrayList" = true := by first | (simp [plainName, overriddenIn]; done) | decide +kernel
theorem ef_12 (m : MethodId) (x0 : Addr) : entryFrame m #[(.ref x0)] 1 = mkF m 0 #[.val (.ref x0)] [] := by first | (simp [entryFrame, mkF, argsToLocals, Value.category]; done) | rfl
def Q12f (Z : State) (a1 : Addr) (w2 : Int32) (h0 : Heap) (n0 : Nat) (v : Option Value) (h : Heap) (L : List Loc) : Prop := v = some (.int (1 : Int32)) ∧ Fr n0 L ∧ h = h0
set_option maxRecDepth 65536 in
set_option maxHeartbeats 40000000 in
theorem rm12f (l : Launch) (Z : State) (a0 : Array Value) (hw : ∀ d ∈ tables_1, d.before a0 Z = true) (ws : List Jvm.Cond) (a1 : Addr) (w2 : Int32) (h0 : Heap) (n0 : Nat) (Z0 : n0 ≤ h0.size) (F_size_a1 : Fld Z h0 a1 "java/util/ArrayList" "size" "I" (.int w2)) (hc4 : w2 = (0 : Int32)) :
    MetFree l mN24 (head1 (Jvm.Cond.code mN24 jdk_38_method_9_code 1 (some .boolean) :: ws) ({ frames := 0, cells := 0, slots := 0, locals := 0 } : Room)) (fun a U => a = #[(.ref a1)] ∧ Z.Warmed39 U.vm ∧ U.heap = h0) (fun _ _ _ _ _ => True) (fun _ U o U' => ∃ v L, o = .returned v ∧ Q12f Z a1 w2 h0 n0 v U'.heap L ∧ FrameEnd U o U' L ({ frames := 0, cells := 0, slots := 0, locals := 0 } : Room).cells ({ frames := 0, cells := 0, slots := 0, locals := 0 } : Room).slots) := by
  refine MetFree.of_bodySF (plainFor_of_name pn_12) hisR ?_
  intro p e s m args below meth c s₁ Bd hml0 hP hK
  obtain ⟨rfl, hZ, hh⟩ := hP
  have hx := Bd.exec
  have hby := Bd.bytes
  have hml : c.maxLocals = 1 := hml0
  have hown : s.vm.findClass "java/util/ArrayList" = some m.cls := findClass_of_methodNamed Bd.named
  have hnm := (name_of_methodNamed Bd.named Bd.method).1
  have X0 : Stand p l e ({ frames := 0, cells := 0, slots := 0, locals := 0 } : Room) s m #[(.ref a1)] below meth c s₁ [] 0 0 := Stand.of_body Bd
  have e0 : s₁.heap = h0 := by rw [← hh, Bd.state]; rfl
  have N0 := Fr.nil n0
  have pre0 : ∀ t, Steps p.tables e below (s₁.setTop (mkF m 0 #[.val (.ref a1)] [])) t → Steps p.tables e below (s₁.setTop (entryFrame m #[(.ref a1)] 1)) t := fun t k => castTop (ef_12 m a1) k
  obtain ⟨T3, X3, e3, st3⟩ := getF X0 hx hZ hown (host := "") (Or.inl (wd hw 95 rfl)) Via.refl e0 F_size_a1 (g := (mkF m 1 #[.val (.ref a1)] [(.ref a1)])) rfl rfl (hb hby d12_1)
  obtain ⟨fs, hr, hrun, hended, hW, hsame⟩ := X3.leave (v := some (.int (1 : Int32))) (fun h => by rw [Bd.returns] at h; cases h)
  refine ⟨_, _, pre0 _ ?_, hrun, hended, _, _, rfl, ?_, ⟨_, rfl⟩, hW, hsame.mono (by decide) (by decide)⟩
  · show Steps p.tables e below (s₁.setTop (mkF m 0 #[.val (.ref a1)] [])) _
    refine XS.aloadN X0.here hx rfl (hb hby d12_0) rfl rfl ?_
    show Steps p.tables e below (s₁.setTop (mkF m 1 #[.val (.ref a1)] [(.ref a1)])) _
    refine st3 _ ?_
    show Steps p.tables e below (T3.setTop (mkF m 4 #[.val (.ref a1)] [(.int w2)])) _
    refine XS.ifNo X3.here hx rfl (hb hby d12_4) rfl ((if0 _ _).trans (teq hc4).2) ?_
    refine XS.iconst X3.here hx rfl (hb hby d12_7) ?_
    show Steps p.tables e below (T3.setTop (mkF m 8 #[.val (.ref a1)] [(.int (1 : Int32))])) _
    refine XS.goto X3.here hx rfl (pc0 := 8) (pc' := 12) rfl (hb hby d12_8) (by decide) (by decide) ?_
    show Steps p.tables e below (T3.setTop (mkF m 12 #[.val (.ref a1)] [(.int (1 : Int32))])) _
    exact retN X3 hx (t := .boolean) Bd.returns (by simp) (hb hby d12_12) hr
  · show Q12f Z a1 w2 h0 n0 _ T3.heap _
    rw [e3]
    exact ⟨rfl, N0, rfl⟩
theorem d12_11 : decode jdk_38_method_9_code 11 = .ok (.iconst 0, 1) := by decide +kernel
def Q12t (Z : State) (a1 : Addr) (w2 : Int32) (h0 : Heap) (n0 : Nat) (v : Option Value) (h : Heap) (L : List Loc) : Prop := v = some (.int (0 : Int32)) ∧ Fr n0 L ∧ h = h0
set_option maxRecDepth 65536 in
set_option maxHeartbeats 40000000 in
theorem rm12t (l : Launch) (Z : State) (a0 : Array Value) (hw : ∀ d ∈ tables_1, d.before a0 Z = true) (ws : List Jvm.Cond) (a1 : Addr) (w2 : Int32) (h0 : Heap) (n0 : Nat) (Z0 : n0 ≤ h0.size) (F_size_a1 : Fld Z h0 a1 "java/util/ArrayList" "size" "I" (.int w2)) (hc4 : ¬ (w2 = (0 : Int32))) :
    MetFree l mN24 (head1 (Jvm.Cond.code mN24 jdk_38_method_9_code 1 (some .boolean) :: ws) ({ frames := 0, cells := 0, slots := 0, locals := 0 } : Room)) (fun a U => a = #[(.ref a1)] ∧ Z.Warmed39 U.vm ∧ U.heap = h0) (fun _ _ _ _ _ => True) (fun _ U o U' => ∃ v L, o = .returned v ∧ Q12t Z a1 w2 h0 n0 v U'.heap L ∧ FrameEnd U o U' L ({ frames := 0, cells := 0, slots := 0, locals := 0 } : Room).cells ({ frames := 0, cells := 0, slots := 0, locals := 0 } : Room).slots) := by
  refine MetFree.of_bodySF (plainFor_of_name pn_12) hisR ?_
  intro p e s m args below meth c s₁ Bd hml0 hP hK
  obtain ⟨rfl, hZ, hh⟩ := hP
  have hx := Bd.exec
  have hby := Bd.bytes
  have hml : c.maxLocals = 1 := hml0
  have hown : s.vm.findClass "java/util/ArrayList" = some m.cls := findClass_of_methodNamed Bd.named
  have hnm := (name_of_methodNamed Bd.named Bd.method).1
  have X0 : Stand p l e ({ frames := 0, cells := 0, slots := 0, locals := 0 } : Room) s m #[(.ref a1)] below meth c s₁ [] 0 0 := Stand.of_body Bd
  have e0 : s₁.heap = h0 := by rw [← hh, Bd.state]; rfl
  have N0 := Fr.nil n0
  have pre0 : ∀ t, Steps p.tables e below (s₁.setTop (mkF m 0 #[.val (.ref a1)] [])) t → Steps p.tables e below (s₁.setTop (entryFrame m #[(.ref a1)] 1)) t := fun t k => castTop (ef_12 m a1) k
  obtain ⟨T3, X3, e3, st3⟩ := getF X0 hx hZ hown (host := "") (Or.inl (wd hw 95 rfl)) Via.refl e0 F_size_a1 (g := (mkF m 1 #[.val (.ref a1)] [(.ref a1)])) rfl rfl (hb hby d12_1)
  obtain ⟨fs, hr, hrun, hended, hW, hsame⟩ := X3.leave (v := some (.int (0 : Int32))) (fun h => by rw [Bd.returns] at h; cases h)
  refine ⟨_, _, pre0 _ ?_, hrun, hended, _, _, rfl, ?_, ⟨_, rfl⟩, hW, hsame.mono (by decide) (by decide)⟩
  · show Steps p.tables e below (s₁.setTop (mkF m 0 #[.val (.ref a1)] [])) _
    refine XS.aloadN X0.here hx rfl (hb hby d12_0) rfl rfl ?_
    show Steps p.tables e below (s₁.setTop (mkF m 1 #[.val (.ref a1)] [(.ref a1)])) _
    refine st3 _ ?_
    show Steps p.tables e below (T3.setTop (mkF m 4 #[.val (.ref a1)] [(.int w2)])) _
    refine XS.ifYes X3.here hx rfl (pc0 := 4) (pc' := 11) rfl (hb hby d12_4) rfl ((if0 _ _).trans (feq hc4).2) (by decide) (by decide) ?_
    refine XS.iconst X3.here hx rfl (hb hby d12_11) ?_
    show Steps p.tables e below (T3.setTop (mkF m 12 #[.val (.ref a1)] [(.int (0 : Int32))])) _
    exact retN X3 hx (t := .boolean) Bd.returns (by simp) (hb hby d12_12) hr
  · show Q12t Z a1 w2 h0 n0 _ T3.heap _
    rw [e3]
    exact ⟨rfl, N0, rfl⟩
theorem d13_0 : decode jdk_40_method_36_code 0 = .ok (.getstatic 90, 3) := by decide +kernel
theorem d13_3 : decode jdk_40_method_36_code 3 = .ok (.areturn, 1) := by decide +kernel
theorem pn_13 : plainName "java/util/List" = true := by first | (simp [plainName, overriddenIn]; done) | decide +kernel
theorem ef_13 (m : MethodId)  : entryFrame m #[] 0 = mkF m 0 #[] [] := by first | (simp [entryFrame, mkF, argsToLocals, Value.category]; done) | rfl
def Q13 (Z : State) (w1 : Addr) (h0 : Heap) (n0 : Nat) (v : Option Value) (h : Heap) (L : List Loc) : Prop := v = some (.ref w1) ∧ Fr n0 L ∧ h = h0
set_option maxRecDepth 65536 in
set_option maxHeartbeats 40000000 in
theorem rm13 (l : Launch) (Z : State) (a0 : Array Value) (hw : ∀ d ∈ tables_1, d.before a0 Z = true) (ws : List Jvm.Cond) (w1 : Addr) (h0 : Heap) (n0 : Nat) (Z0 : n0 ≤ h0.size) (S_EMPTY_LIST : Sta Z h0 "java/util/ImmutableCollections" "EMPTY_LIST" "Ljava/util/ImmutableCollections$ListN;" (.ref w1)) :
    MetFree l mN44 (head1 (Jvm.Cond.code mN44 jdk_40_method_36_code 0 (some (.object "java/util/List")) :: ws) ({ frames := 0, cells := 0, slots := 0, locals := 0 } : Room)) (fun a U => a = #[] ∧ Z.Warmed39 U.vm ∧ U.heap = h0) (fun _ _ _ _ _ => True) (fun _ U o U' => ∃ v L, o = .returned v ∧ Q13 Z w1 h0 n0 v U'.heap L ∧ FrameEnd U o U' L ({ frames := 0, cells := 0, slots := 0, locals := 0 } : Room).cells ({ frames := 0, cells := 0, slots := 0, locals := 0 } : Room).slots) := by
  refine MetFree.of_bodySF (plainFor_of_name pn_13) hisR ?_
  intro p e s m args below meth c s₁ Bd hml0 hP hK
  obtain ⟨rfl, hZ, hh⟩ := hP
  have hx := Bd.exec
  have hby := Bd.bytes
  have hml : c.maxLocals = 0 := hml0
  have hown : s.vm.findClass "java/util/List" = some m.cls := findClass_of_methodNamed Bd.named
  have hnm := (name_of_methodNamed Bd.named Bd.method).1
  have X0 : Stand p l e ({ frames := 0, cells := 0, slots := 0, locals := 0 } : Room) s m #[] below meth c s₁ [] 0 0 := Stand.of_body Bd
  have e0 : s₁.heap = h0 := by rw [← hh, Bd.state]; rfl
  have N0 := Fr.nil n0
  have pre0 : ∀ t, Steps p.tables e below (s₁.setTop (mkF m 0 #[] [])) t → Steps p.tables e below (s₁.setTop (entryFrame m #[] 0)) t := fun t k => castTop (ef_13 m ) k
  obtain ⟨T2, X2, e2, st2⟩ := getS2 X0 hx hZ hown (host := "") (Or.inl (wd hw 100 rfl)) Via.refl e0 S_EMPTY_LIST (g := (mkF m 0 #[] [])) rfl (hb hby d13_0)
  obtain ⟨fs, hr, hrun, hended, hW, hsame⟩ := X2.leave (v := some (.ref w1)) (fun h => by rw [Bd.returns] at h; cases h)
  refine ⟨_, _, pre0 _ ?_, hrun, hended, _, _, rfl, ?_, ⟨_, rfl⟩, hW, hsame.mono (by decide) (by decide)⟩
  · show Steps p.tables e below (s₁.setTop (mkF m 0 #[] [])) _
    refine st2 _ ?_
    show Steps p.tables e below (T2.setTop (mkF m 3 #[] [(.ref w1)])) _
    jvm_step X2.here [X2.here.top, hx, (hb hby d13_3), X2.method', Bd.returns, Value.isRef, FieldType.isReference]
    first | (intro acts; rw [hr _ acts rfl rfl rfl]) | rw [hr _ _ rfl rfl rfl]
    exact Steps.refl _
  · show Q13 Z w1 h0 n0 _ T2.heap _
    rw [e2]
    exact ⟨rfl, N0, rfl⟩
theorem d36_0 : decode jdk_29_method_69_code 0 = .ok (.iload_n 0, 1) := by decide +kernel
theorem d36_1 : decode jdk_29_method_69_code 1 = .ok (.iload_n 1, 1) := by decide +kernel
theorem d36_2 : decode jdk_29_method_69_code 2 = .ok (.if_icmp .gt 7, 3) := by decide +kernel
theorem d36_9 : decode jdk_29_method_69_code 9 = .ok (.iload_n 1, 1) := by decide +kernel
theorem d36_10 : decode jdk_29_method_69_code 10 = .ok (.ireturn, 1) := by decide +kernel
theorem ef_36 (m : MethodId) (x0 : Int32) (x1 : Int32) : entryFrame m #[(.int x0), (.int x1)] 2 = mkF m 0 #[.val (.int x0), .val (.int x1)] [] := by first | (simp [entryFrame, mkF, argsToLocals, Value.category]; done) | rfl
def Q36 (Z : State) (p1 : Int32) (p2 : Int32) (h0 : Heap) (n0 : Nat) (v : Option Value) (h : Heap) (L : List Loc) : Prop := v = some (.int p2) ∧ Fr n0 L ∧ h = h0
set_option maxRecDepth 65536 in
set_option maxHeartbeats 40000000 in
theorem rm36 (l : Launch) (Z : State) (a0 : Array Value) (hw : ∀ d ∈ tables_1, d.before a0 Z = true) (ws : List Jvm.Cond) (p1 : Int32) (p2 : Int32) (h0 : Heap) (n0 : Nat) (Z0 : n0 ≤ h0.size) (hc2 : p2 < p1) :
    MetFree l mN13 (head1 (Jvm.Cond.code mN13 jdk_29_method_69_code 2 (some .int) :: ws) ({ frames := 0, cells := 0, slots := 0, locals := 0 } : Room)) (fun a U => a = #[(.int p1), (.int p2)] ∧ Z.Warmed39 U.vm ∧ U.heap = h0) (fun _ _ _ _ _ => True) (fun _ U o U' => ∃ v L, o = .returned v ∧ Q36 Z p1 p2 h0 n0 v U'.heap L ∧ FrameEnd U o U' L ({ frames := 0, cells := 0, slots := 0, locals := 0 } : Room).cells ({ frames := 0, cells := 0, slots := 0, locals := 0 } : Room).slots) := by
  refine MetFree.of_bodySF (Jvm.Free.JP.mathPlain rfl (by decide +kernel)) hisR ?_
  intro p e s m args below meth c s₁ Bd hml0 hP hK
  obtain ⟨rfl, hZ, hh⟩ := hP
  have hx := Bd.exec
  have hby := Bd.bytes
  have hml : c.maxLocals = 2 := hml0
  have hown : s.vm.findClass "java/lang/Math" = some m.cls := findClass_of_methodNamed Bd.named
  have hnm := (name_of_methodNamed Bd.named Bd.method).1
  have X0 : Stand p l e ({ frames := 0, cells := 0, slots := 0, locals := 0 } : Room) s m #[(.int p1), (.int p2)] below meth c s₁ [] 0 0 := Stand.of_body Bd
  have e0 : s₁.heap = h0 := by rw [← hh, Bd.state]; rfl
  have N0 := Fr.nil n0
  have pre0 : ∀ t, Steps p.tables e below (s₁.setTop (mkF m 0 #[.val (.int p1), .val (.int p2)] [])) t → Steps p.tables e below (s₁.setTop (entryFrame m #[(.int p1), (.int p2)] 2)) t := fun t k => castTop (ef_36 m p1 p2) k

  obtain ⟨fs, hr, hrun, hended, hW, hsame⟩ := X0.leave (v := some (.int p2)) (fun h => by rw [Bd.returns] at h; cases h)
  refine ⟨_, _, pre0 _ ?_, hrun, hended, _, _, rfl, ?_, ⟨_, rfl⟩, hW, hsame.mono (by decide) (by decide)⟩
  · show Steps p.tables e below (s₁.setTop (mkF m 0 #[.val (.int p1), .val (.int p2)] [])) _
    refine XS.iloadN X0.here hx rfl (hb hby d36_0) rfl ?_
    refine XS.iloadN X0.here hx rfl (hb hby d36_1) rfl ?_
    show Steps p.tables e below (s₁.setTop (mkF m 2 #[.val (.int p1), .val (.int p2)] [(.int p2), (.int p1)])) _
    refine XS.icmpYes X0.here hx rfl (pc0 := 2) (pc' := 9) rfl (hb hby d36_2) rfl (tlt hc2).2.2.1 (by decide) (by decide) ?_
    refine XS.iloadN X0.here hx rfl (hb hby d36_9) rfl ?_
    show Steps p.tables e below (s₁.setTop (mkF m 10 #[.val (.int p1), .val (.int p2)] [(.int p2)])) _
    exact retI X0 hx Bd.returns (hb hby d36_10) hr
  · show Q36 Z p1 p2 h0 n0 _ s₁.heap _
    rw [e0]
    exact ⟨rfl, N0, rfl⟩
theorem d40_0 : decode jdk_47_method_1_code 0 = .ok (.aload_n 0, 1) := by decide +kernel
theorem d40_1 : decode jdk_47_method_1_code 1 = .ok (.invokespecial 1, 3) := by decide +kernel
theorem d40_4 : decode jdk_47_method_1_code 4 = .ok (.return_, 1) := by decide +kernel
theorem pn_40 : plainName "java/util/ImmutableCollections$AbstractImmutableCollection" = true := by first | (simp [plainName, overriddenIn]; done) | decide +kernel
theorem pd_40_3 : parseMethodDescriptor "()V" = some ⟨[], none⟩ := by decide +kernel
theorem ef_40 (m : MethodId) (x0 : Addr) : entryFrame m #[(.ref x0)] 1 = mkF m 0 #[.val (.ref x0)] [] := by first | (simp [entryFrame, mkF, argsToLocals, Value.category]; done) | rfl
def Q40 (Z : State) (a1 : Addr) (h0 : Heap) (n0 : Nat) (v : Option Value) (h : Heap) (L : List Loc) : Prop := v = none ∧ Fr n0 L ∧ h = h0
set_option maxRecDepth 65536 in
set_option maxHeartbeats 40000000 in
theorem rm40 (l : Launch) (Z : State) (a0 : Array Value) (hw : ∀ d ∈ tables_1, d.before a0 Z = true) (ws : List Jvm.Cond) (a1 : Addr) (h0 : Heap) (n0 : Nat) (Z0 : n0 ≤ h0.size)  :
    MetFree l mN32 (head1 (Jvm.Cond.code mN32 jdk_47_method_1_code 1 none :: ws) ({ frames := 2, cells := 0, slots := 0, locals := 24 } : Room)) (fun a U => a = #[(.ref a1)] ∧ Z.Warmed39 U.vm ∧ U.heap = h0) (fun _ _ _ _ _ => True) (fun _ U o U' => ∃ v L, o = .returned v ∧ Q40 Z a1 h0 n0 v U'.heap L ∧ FrameEnd U o U' L ({ frames := 2, cells := 0, slots := 0, locals := 24 } : Room).cells ({ frames := 2, cells := 0, slots := 0, locals := 24 } : Room).slots) := by
  refine MetFree.of_bodySF (plainFor_of_name pn_40) hisR ?_
  intro p e s m args below meth c s₁ Bd hml0 hP hK
  obtain ⟨rfl, hZ, hh⟩ := hP
  have hx := Bd.exec
  have hby := Bd.bytes
  have hml : c.maxLocals = 1 := hml0
  have hown : s.vm.findClass "java/util/ImmutableCollections$AbstractImmutableCollection" = some m.cls := findClass_of_methodNamed Bd.named
  have hnm := (name_of_methodNamed Bd.named Bd.method).1
  have X0 : Stand p l e ({ frames := 2, cells := 0, slots := 0, locals := 24 } : Room) s m #[(.ref a1)] below meth c s₁ [] 0 0 := Stand.of_body Bd
  have e0 : s₁.heap = h0 := by rw [← hh, Bd.state]; rfl
  have N0 := Fr.nil n0
  have pre0 : ∀ t, Steps p.tables e below (s₁.setTop (mkF m 0 #[.val (.ref a1)] [])) t → Steps p.tables e below (s₁.setTop (entryFrame m #[(.ref a1)] 1)) t := fun t k => castTop (ef_40 m a1) k
  obtain ⟨_, _, ⟨T2, L2, k2, n2⟩, -, X2, ⟨Lc2, hQ2, l2, y2, z2⟩, st2⟩ := X0.specialBack hx (y := mN17) rfl hown (mvT hZ (wd hw 273 rfl)) (mvT hZ (wd hw 39 rfl)) (mvT hZ (wd hw 43 rfl)) (by decide) (backOf (W := 0) (rm7 l Z a0 hw [] a1 h0 n0 Z0) hZ (wd hw 43 rfl) (wd hw 42 rfl) (by decide) (by decide)) (g := (mkF m 1 #[.val (.ref a1)] [(.ref a1)])) rfl (by rw [hml]; rfl) (Steps.refl _) (a := a1) (argsL := []) (rest := []) (lenOf pd_40_3 rfl) rfl (by show 2 * 0 + _ ≤ _; exact Nat.le_of_eq rfl) (hb hby d40_1) (fun _ _ => ⟨rfl, e0, (by decide : 0 + 0 ≤ _), (by decide : 0 + 0 ≤ _)⟩)
  dsimp only [Pt.U, Pt.locs, Pt.cells, Pt.slots] at X2 l2 y2 z2 st2 hQ2
  subst l2 y2 z2
  obtain ⟨rfl, N2q, k2q⟩ := hQ2
  have N2 := Fr.app N0 N2q
  obtain ⟨fs, hr, hrun, hended, hW, hsame⟩ := X2.leave (v := none) (fun _ => rfl)
  refine ⟨_, _, pre0 _ ?_, hrun, hended, _, _, rfl, ?_, ⟨_, rfl⟩, hW, hsame.mono (by decide) (by decide)⟩
  · show Steps p.tables e below (s₁.setTop (mkF m 0 #[.val (.ref a1)] [])) _
    refine XS.aloadN X0.here hx rfl (hb hby d40_0) rfl rfl ?_
    show Steps p.tables e below (s₁.setTop (mkF m 1 #[.val (.ref a1)] [(.ref a1)])) _
    refine st2.trans ?_
    show Steps p.tables e below (T2.setTop (mkF m 4 #[.val (.ref a1)] [])) _
    exact X2.returnOut hx Bd.returns (hb hby d40_4) hr
  · show Q40 Z a1 h0 n0 _ T2.heap _
    exact ⟨rfl, N2, k2q⟩
theorem d39_0 : decode jdk_46_method_1_code 0 = .ok (.aload_n 0, 1) := by decide +kernel
theorem d39_1 : decode jdk_46_method_1_code 1 = .ok (.invokespecial 1, 3) := by decide +kernel
theorem d39_4 : decode jdk_46_method_1_code 4 = .ok (.return_, 1) := by decide +kernel
theorem pn_39 : plainName "java/util/ImmutableCollections$AbstractImmutableList" = true := by first | (simp [plainName, overriddenIn]; done) | decide +kernel
theorem pd_39_3 : parseMethodDescriptor "()V" = some ⟨[], none⟩ := by decide +kernel
theorem ef_39 (m : MethodId) (x0 : Addr) : entryFrame m #[(.ref x0)] 1 = mkF m 0 #[.val (.ref x0)] [] := by first | (simp [entryFrame, mkF, argsToLocals, Value.category]; done) | rfl
def Q39 (Z : State) (a1 : Addr) (h0 : Heap) (n0 : Nat) (v : Option Value) (h : Heap) (L : List Loc) : Prop := v = none ∧ Fr n0 L ∧ h = h0
set_option maxRecDepth 65536 in
set_option maxHeartbeats 40000000 in
theorem rm39 (l : Launch) (Z : State) (a0 : Array Value) (hw : ∀ d ∈ tables_1, d.before a0 Z = true) (ws : List Jvm.Cond) (a1 : Addr) (h0 : Heap) (n0 : Nat) (Z0 : n0 ≤ h0.size)  :
    MetFree l mN33 (head1 (Jvm.Cond.code mN33 jdk_46_method_1_code 1 none :: ws) ({ frames := 3, cells := 0, slots := 0, locals := 36 } : Room)) (fun a U => a = #[(.ref a1)] ∧ Z.Warmed39 U.vm ∧ U.heap = h0) (fun _ _ _ _ _ => True) (fun _ U o U' => ∃ v L, o = .returned v ∧ Q39 Z a1 h0 n0 v U'.heap L ∧ FrameEnd U o U' L ({ frames := 3, cells := 0, slots := 0, locals := 36 } : Room).cells ({ frames := 3, cells := 0, slots := 0, locals := 36 } : Room).slots) := by
  refine MetFree.of_bodySF (plainFor_of_name pn_39) hisR ?_
  intro p e s m args below meth c s₁ Bd hml0 hP hK
  obtain ⟨rfl, hZ, hh⟩ := hP
  have hx := Bd.exec
  have hby := Bd.bytes
  have hml : c.maxLocals = 1 := hml0
  have hown : s.vm.findClass "java/util/ImmutableCollections$AbstractImmutableList" = some m.cls := findClass_of_methodNamed Bd.named
  have hnm := (name_of_methodNamed Bd.named Bd.method).1
  have X0 : Stand p l e ({ frames := 3, cells := 0, slots := 0, locals := 36 } : Room) s m #[(.ref a1)] below meth c s₁ [] 0 0 := Stand.of_body Bd
  have e0 : s₁.heap = h0 := by rw [← hh, Bd.state]; rfl
  have N0 := Fr.nil n0
  have pre0 : ∀ t, Steps p.tables e below (s₁.setTop (mkF m 0 #[.val (.ref a1)] [])) t → Steps p.tables e below (s₁.setTop (entryFrame m #[(.ref a1)] 1)) t := fun t k => castTop (ef_39 m a1) k
  obtain ⟨_, _, ⟨T2, L2, k2, n2⟩, -, X2, ⟨Lc2, hQ2, l2, y2, z2⟩, st2⟩ := X0.specialBack hx (y := mN32) rfl hown (mvT hZ (wd hw 267 rfl)) (mvT hZ (wd hw 268 rfl)) (mvT hZ (wd hw 272 rfl)) (by decide) (backOf (W := 0) (rm40 l Z a0 hw [] a1 h0 n0 Z0) hZ (wd hw 272 rfl) (wd hw 271 rfl) (by decide) (by decide)) (g := (mkF m 1 #[.val (.ref a1)] [(.ref a1)])) rfl (by rw [hml]; rfl) (Steps.refl _) (a := a1) (argsL := []) (rest := []) (lenOf pd_39_3 rfl) rfl (by show 2 * 0 + _ ≤ _; exact Nat.le_of_eq rfl) (hb hby d39_1) (fun _ _ => ⟨rfl, e0, (by decide : 0 + 0 ≤ _), (by decide : 0 + 0 ≤ _)⟩)
  dsimp only [Pt.U, Pt.locs, Pt.cells, Pt.slots] at X2 l2 y2 z2 st2 hQ2
  subst l2 y2 z2
  obtain ⟨rfl, N2q, k2q⟩ := hQ2
  have N2 := Fr.app N0 N2q
  obtain ⟨fs, hr, hrun, hended, hW, hsame⟩ := X2.leave (v := none) (fun _ => rfl)
  refine ⟨_, _, pre0 _ ?_, hrun, hended, _, _, rfl, ?_, ⟨_, rfl⟩, hW, hsame.mono (by decide) (by decide)⟩
  · show Steps p.tables e below (s₁.setTop (mkF m 0 #[.val (.ref a1)] [])) _
    refine XS.aloadN X0.here hx rfl (hb hby d39_0) rfl rfl ?_
    show Steps p.tables e below (s₁.setTop (mkF m 1 #[.val (.ref a1)] [(.ref a1)])) _
    refine st2.trans ?_
    show Steps p.tables e below (T2.setTop (mkF m 4 #[.val (.ref a1)] [])) _
    exact X2.returnOut hx Bd.returns (hb hby d39_4) hr
  · show Q39 Z a1 h0 n0 _ T2.heap _
    exact ⟨rfl, N2, k2q⟩
theorem d41_0 : decode jdk_31_method_10_code 0 = .ok (.aload_n 0, 1) := by decide +kernel
theorem d41_1 : decode jdk_31_method_10_code 1 = .ok (.ifnonnull 11, 3) := by decide +kernel
theorem d41_12 : decode jdk_31_method_10_code 12 = .ok (.aload_n 0, 1) := by decide +kernel
theorem d41_13 : decode jdk_31_method_10_code 13 = .ok (.areturn, 1) := by decide +kernel
theorem pn_41 : plainName "java/util/Objects" = true := by first | (simp [plainName, overriddenIn]; done) | decide +kernel
theorem ef_41 (m : MethodId) (x0 : Addr) : entryFrame m #[(.ref x0)] 1 = mkF m 0 #[.val (.ref x0)] [] := by first | (simp [entryFrame, mkF, argsToLocals, Value.category]; done) | rfl
def Q41 (Z : State) (a1 : Addr) (h0 : Heap) (n0 : Nat) (v : Option Value) (h : Heap) (L : List Loc) : Prop := v = some (.ref a1) ∧ Fr n0 L ∧ h = h0
set_option maxRecDepth 65536 in
set_option maxHeartbeats 40000000 in
theorem rm41 (l : Launch) (Z : State) (a0 : Array Value) (hw : ∀ d ∈ tables_1, d.before a0 Z = true) (ws : List Jvm.Cond) (a1 : Addr) (h0 : Heap) (n0 : Nat) (Z0 : n0 ≤ h0.size) :
    MetFree l mN47 (head1 (Jvm.Cond.code mN47 jdk_31_method_10_code 1 (some (.object "java/lang/Object")) :: ws) ({ frames := 0, cells := 0, slots := 0, locals := 0 } : Room)) (fun a U => a = #[(.ref a1)] ∧ Z.Warmed39 U.vm ∧ U.heap = h0) (fun _ _ _ _ _ => True) (fun _ U o U' => ∃ v L, o = .returned v ∧ Q41 Z a1 h0 n0 v U'.heap L ∧ FrameEnd U o U' L ({ frames := 0, cells := 0, slots := 0, locals := 0 } : Room).cells ({ frames := 0, cells := 0, slots := 0, locals := 0 } : Room).slots) := by
  refine MetFree.of_bodySF (plainFor_of_name pn_41) hisR ?_
  intro p e s m args below meth c s₁ Bd hml0 hP hK
  obtain ⟨rfl, hZ, hh⟩ := hP
  have hx := Bd.exec
  have hby := Bd.bytes
  have hml : c.maxLocals = 1 := hml0
  have hown : s.vm.findClass "java/util/Objects" = some m.cls := findClass_of_methodNamed Bd.named
  have hnm := (name_of_methodNamed Bd.named Bd.method).1
  have X0 : Stand p l e ({ frames := 0, cells := 0, slots := 0, locals := 0 } : Room) s m #[(.ref a1)] below meth c s₁ [] 0 0 := Stand.of_body Bd
  have e0 : s₁.heap = h0 := by rw [← hh, Bd.state]; rfl
  have N0 := Fr.nil n0
  have pre0 : ∀ t, Steps p.tables e below (s₁.setTop (mkF m 0 #[.val (.ref a1)] [])) t → Steps p.tables e below (s₁.setTop (entryFrame m #[(.ref a1)] 1)) t := fun t k => castTop (ef_41 m a1) k

  obtain ⟨fs, hr, hrun, hended, hW, hsame⟩ := X0.leave (v := some (.ref a1)) (fun h => by rw [Bd.returns] at h; cases h)
  refine ⟨_, _, pre0 _ ?_, hrun, hended, _, _, rfl, ?_, ⟨_, rfl⟩, hW, hsame.mono (by decide) (by decide)⟩
  · show Steps p.tables e below (s₁.setTop (mkF m 0 #[.val (.ref a1)] [])) _
    refine XS.aloadN X0.here hx rfl (hb hby d41_0) rfl rfl ?_
    refine XS.ifnonnullYes X0.here hx rfl (pc0 := 1) (pc' := 12) rfl (hb hby d41_1) rfl (by decide) (by decide) ?_
    show Steps p.tables e below (s₁.setTop (mkF m 12 #[.val (.ref a1)] [])) _
    refine XS.aloadN X0.here hx rfl (hb hby d41_12) rfl rfl ?_
    show Steps p.tables e below (s₁.setTop (mkF m 13 #[.val (.ref a1)] [(.ref a1)])) _
    jvm_step X0.here [X0.here.top, hx, (hb hby d41_13), X0.method', Bd.returns, Value.isRef, FieldType.isReference]
    first | (intro acts; rw [hr _ acts rfl rfl rfl]) | rw [hr _ _ rfl rfl rfl]
    exact Steps.refl _
  · show Q41 Z a1 h0 n0 _ s₁.heap _
    rw [e0]
    exact ⟨rfl, N0, rfl⟩
theorem d38_0 : decode jdk_44_method_2_code 0 = .ok (.aload_n 0, 1) := by decide +kernel
theorem d38_1 : decode jdk_44_method_2_code 1 = .ok (.invokespecial 1, 3) := by decide +kernel
theorem d38_4 : decode jdk_44_method_2_code 4 = .ok (.aload_n 0, 1) := by decide +kernel
theorem d38_5 : decode jdk_44_method_2_code 5 = .ok (.aload_n 1, 1) := by decide +kernel
theorem d38_6 : decode jdk_44_method_2_code 6 = .ok (.invokestatic 7, 3) := by decide +kernel
theorem d38_9 : decode jdk_44_method_2_code 9 = .ok (.putfield 13, 3) := by decide +kernel
theorem d38_12 : decode jdk_44_method_2_code 12 = .ok (.aload_n 0, 1) := by decide +kernel
theorem d38_13 : decode jdk_44_method_2_code 13 = .ok (.aload_n 2, 1) := by decide +kernel
theorem d38_14 : decode jdk_44_method_2_code 14 = .ok (.invokestatic 7, 3) := by decide +kernel
theorem d38_17 : decode jdk_44_method_2_code 17 = .ok (.putfield 24, 3) := by decide +kernel
theorem d38_20 : decode jdk_44_method_2_code 20 = .ok (.return_, 1) := by decide +kernel
theorem pn_38 : plainName "java/util/ImmutableCollections$List12" = true := by first | (simp [plainName, overriddenIn]; done) | decide +kernel
theorem pd_38_3 : parseMethodDescriptor "()V" = some ⟨[], none⟩ := by decide +kernel
theorem pd_38_29 : parseMethodDescriptor "(Ljava/lang/Object;)Ljava/lang/Object;" = some ⟨[(.object "java/lang/Object")], some (.object "java/lang/Object")⟩ := by decide +kernel
theorem ef_38 (m : MethodId) (x0 : Addr) (x1 : Addr) (x2 : Addr) : entryFrame m #[(.ref x0), (.ref x1), (.ref x2)] 3 = mkF m 0 #[.val (.ref x0), .val (.ref x1), .val (.ref x2)] [] := by first | (simp [entryFrame, mkF, argsToLocals, Value.category]; done) | rfl
def Q38 (Z : State) (a1 a2 a3 : Addr) (u1 u2 : Value) (h0 : Heap) (n0 : Nat) (v : Option Value) (h : Heap) (L : List Loc) : Prop := v = none ∧ Fr n0 L ∧ Keep h0 h [a1] ∧ Exa Z h a1 "java/util/ImmutableCollections$List12" ∧ Fld Z h a1 "java/util/ImmutableCollections$List12" "e0" "Ljava/lang/Object;" (.ref a2) ∧ Fld Z h a1 "java/util/ImmutableCollections$List12" "e1" "Ljava/lang/Object;" (.ref a3)
set_option maxRecDepth 65536 in
set_option maxHeartbeats 40000000 in
theorem rm38 (l : Launch) (Z : State) (a0 : Array Value) (hw : ∀ d ∈ tables_1, d.before a0 Z = true) (ws : List Jvm.Cond) (a1 a2 a3 : Addr) (u1 u2 : Value) (h0 : Heap) (n0 : Nat) (Z0 : n0 ≤ h0.size) (E_a1 : Exa Z h0 a1 "java/util/ImmutableCollections$List12") (F_e0_a1 : Fld Z h0 a1 "java/util/ImmutableCollections$List12" "e0" "Ljava/lang/Object;" u1) (F_e1_a1 : Fld Z h0 a1 "java/util/ImmutableCollections$List12" "e1" "Ljava/lang/Object;" u2) (g_a1 : n0 ≤ a1) :
    MetFree l mN35 (head1 (Jvm.Cond.code mN35 jdk_44_method_2_code 3 none :: ws) ({ frames := 4, cells := 0, slots := 0, locals := 48 } : Room)) (fun a U => a = #[(.ref a1), (.ref a2), (.ref a3)] ∧ Z.Warmed39 U.vm ∧ U.heap = h0) (fun _ _ _ _ _ => True) (fun _ U o U' => ∃ v L, o = .returned v ∧ Q38 Z a1 a2 a3 u1 u2 h0 n0 v U'.heap L ∧ FrameEnd U o U' L ({ frames := 4, cells := 0, slots := 0, locals := 48 } : Room).cells ({ frames := 4, cells := 0, slots := 0, locals := 48 } : Room).slots) := by
  refine MetFree.of_bodySF (plainFor_of_name pn_38) hisR ?_
  intro p e s m args below meth c s₁ Bd hml0 hP hK
  obtain ⟨rfl, hZ, hh⟩ := hP
  have hx := Bd.exec
  have hby := Bd.bytes
  have hml : c.maxLocals = 3 := hml0
  have hown : s.vm.findClass "java/util/ImmutableCollections$List12" = some m.cls := findClass_of_methodNamed Bd.named
  have hnm := (name_of_methodNamed Bd.named Bd.method).1
  have X0 : Stand p l e ({ frames := 4, cells := 0, slots := 0, locals := 48 } : Room) s m #[(.ref a1), (.ref a2), (.ref a3)] below meth c s₁ [] 0 0 := Stand.of_body Bd
  have e0 : s₁.heap = h0 := by rw [← hh, Bd.state]; rfl
  have N0 := Fr.nil n0
  have pre0 : ∀ t, Steps p.tables e below (s₁.setTop (mkF m 0 #[.val (.ref a1), .val (.ref a2), .val (.ref a3)] [])) t → Steps p.tables e below (s₁.setTop (entryFrame m #[(.ref a1), (.ref a2), (.ref a3)] 3)) t := fun t k => castTop (ef_38 m a1 a2 a3) k
  obtain ⟨_, _, ⟨T4, L4, k4, n4⟩, -, X4, ⟨Lc4, hQ4, l4, y4, z4⟩, st4⟩ := X0.specialBack hx (y := mN33) rfl hown (mvT hZ (wd hw 261 rfl)) (mvT hZ (wd hw 262 rfl)) (mvT hZ (wd hw 266 rfl)) (by decide) (backOf (W := 0) (rm39 l Z a0 hw [] a1 h0 n0 Z0) hZ (wd hw 266 rfl) (wd hw 265 rfl) (by decide) (by decide)) (g := (mkF m 1 #[.val (.ref a1), .val (.ref a2), .val (.ref a3)] [(.ref a1)])) rfl (by rw [hml]; rfl) (Steps.refl _) (a := a1) (argsL := []) (rest := []) (lenOf pd_38_3 rfl) rfl (by show 2 * 0 + _ ≤ _; exact Nat.le_of_eq rfl) (hb hby d38_1) (fun _ _ => ⟨rfl, e0, (by decide : 0 + 0 ≤ _), (by decide : 0 + 0 ≤ _)⟩)
  dsimp only [Pt.U, Pt.locs, Pt.cells, Pt.slots] at X4 l4 y4 z4 st4 hQ4
  subst l4 y4 z4
  obtain ⟨rfl, N4q, k4q⟩ := hQ4
  have Kc4 : Keep h0 T4.heap [] := by rw [k4q]; exact Keep.refl _ []
  have Kh4 : Keep h0 T4.heap [a1] := by rw [k4q]; exact Keep.refl h0 [a1]
  have N4 := Fr.app N0 N4q
  obtain ⟨_, _, ⟨T5, L5, k5, n5⟩, -, X5, ⟨Lc5, hQ5, l5, y5, z5⟩, st5⟩ := Jvm.LawKit.callS X4 hx (y := mN47) hown (mvT hZ (wd hw 275 rfl)) (mvT hZ (wd hw 276 rfl)) (mvT hZ (wd hw 277 rfl)) (mvT hZ (wd hw 278 rfl)) (by decide) (backOf (W := 1) (rm41 l Z a0 hw [] a2 T4.heap n0 (Nat.le_trans Z0 Kh4.1)) hZ (wd hw 278 rfl) (wd hw 277 rfl) (by decide) (by decide)) (g := (mkF m 6 #[.val (.ref a1), .val (.ref a2), .val (.ref a3)] [(.ref a2), (.ref a1)])) rfl (by rw [hml]; rfl) (argsL := [(.ref a2)]) (rest := [(.ref a1)]) (lenOf pd_38_29 rfl) rfl (by show 2 * 0 + _ ≤ _; exact Nat.le_of_eq rfl) (hb hby d38_6) (fun _ _ => ⟨rfl, rfl, (by decide : 0 + 0 ≤ _), (by decide : 0 + 0 ≤ _)⟩)
  dsimp only [Pt.U, Pt.locs, Pt.cells, Pt.slots] at X5 l5 y5 z5 st5 hQ5
  subst l5 y5 z5
  obtain ⟨rfl, N5q, k5q⟩ := hQ5
  have Kc5 : Keep T4.heap T5.heap [] := by rw [k5q]; exact Keep.refl _ []
  have Kh5 : Keep h0 T5.heap [a1] := by rw [k5q]; exact Kh4
  have N5 := Fr.app N4 N5q
  obtain ⟨T6, h6, X6, e6, W6, st6⟩ := putF X5 hx hZ hown (host := "") (Or.inl (wd hw 279 rfl)) Via.refl rfl ((F_e0_a1.keep Kc4 nin0).keep Kc5 nin0) ((E_a1.keep Kc4).keep Kc5) (Or.inr ⟨(wd hw 280 rfl), rfl, hnm⟩) (wd hw 255 rfl) (ty := (.object "java/lang/Object")) (by decide) rfl rfl (g := (mkF m 9 #[.val (.ref a1), .val (.ref a2), .val (.ref a3)] [(.ref a2), (.ref a1)])) rfl rfl (hb hby d38_9)
  have Fw6 := ((F_e0_a1.keep Kc4 nin0).keep Kc5 nin0).same W6
  have K6 : Keep h0 h6 [a1] := Kh5.wr W6 (Or.inl (List.mem_of_getElem? (i := 0) rfl))
  have N6 := Fr.snoc X6 N5 g_a1
  obtain ⟨_, _, ⟨T7, L7, k7, n7⟩, -, X7, ⟨Lc7, hQ7, l7, y7, z7⟩, st7⟩ := Jvm.LawKit.callS X6 hx (y := mN47) hown (mvT hZ (wd hw 275 rfl)) (mvT hZ (wd hw 276 rfl)) (mvT hZ (wd hw 277 rfl)) (mvT hZ (wd hw 278 rfl)) (by decide) (backOf (W := 1) (rm41 l Z a0 hw [] a3 h6 n0 (Nat.le_trans Z0 K6.1)) hZ (wd hw 278 rfl) (wd hw 277 rfl) (by decide) (by decide)) (g := (mkF m 14 #[.val (.ref a1), .val (.ref a2), .val (.ref a3)] [(.ref a3), (.ref a1)])) rfl (by rw [hml]; rfl) (argsL := [(.ref a3)]) (rest := [(.ref a1)]) (lenOf pd_38_29 rfl) rfl (by show 2 * 0 + _ ≤ _; exact Nat.le_of_eq rfl) (hb hby d38_14) (fun _ _ => ⟨rfl, e6, (by decide : 0 + 0 ≤ _), (by decide : 0 + 0 ≤ _)⟩)
  dsimp only [Pt.U, Pt.locs, Pt.cells, Pt.slots] at X7 l7 y7 z7 st7 hQ7
  subst l7 y7 z7
  obtain ⟨rfl, N7q, k7q⟩ := hQ7
  have Kc7 : Keep h6 T7.heap [] := by rw [k7q]; exact Keep.refl _ []
  have Kh7 : Keep h0 T7.heap [a1] := by rw [k7q]; exact K6
  have N7 := Fr.app N6 N7q
  obtain ⟨T8, h8, X8, e8, W8, st8⟩ := putF X7 hx hZ hown (host := "") (Or.inl (wd hw 281 rfl)) Via.refl rfl ((((F_e1_a1.keep Kc4 nin0).keep Kc5 nin0).other W6 (own_sn (Or.inr (wd hw 282 rfl)) (Or.inr (wd hw 280 rfl)) (by decide))).keep Kc7 nin0) ((((E_a1.keep Kc4).keep Kc5).wr W6).keep Kc7) (Or.inr ⟨(wd hw 282 rfl), rfl, hnm⟩) (wd hw 255 rfl) (ty := (.object "java/lang/Object")) (by decide) rfl rfl (g := (mkF m 17 #[.val (.ref a1), .val (.ref a2), .val (.ref a3)] [(.ref a3), (.ref a1)])) rfl rfl (hb hby d38_17)
  have Fw8 := ((((F_e1_a1.keep Kc4 nin0).keep Kc5 nin0).other W6 (own_sn (Or.inr (wd hw 282 rfl)) (Or.inr (wd hw 280 rfl)) (by decide))).keep Kc7 nin0).same W8
  have K8 : Keep h0 h8 [a1] := Kh7.wr W8 (Or.inl (List.mem_of_getElem? (i := 0) rfl))
  have N8 := Fr.snoc X8 N7 g_a1
  obtain ⟨fs, hr, hrun, hended, hW, hsame⟩ := X8.leave (v := none) (fun _ => rfl)
  refine ⟨_, _, pre0 _ ?_, hrun, hended, _, _, rfl, ?_, ⟨_, rfl⟩, hW, hsame.mono (by decide) (by decide)⟩
  · show Steps p.tables e below (s₁.setTop (mkF m 0 #[.val (.ref a1), .val (.ref a2), .val (.ref a3)] [])) _
    refine XS.aloadN X0.here hx rfl (hb hby d38_0) rfl rfl ?_
    show Steps p.tables e below (s₁.setTop (mkF m 1 #[.val (.ref a1), .val (.ref a2), .val (.ref a3)] [(.ref a1)])) _
    refine st4.trans ?_
    show Steps p.tables e below (T4.setTop (mkF m 4 #[.val (.ref a1), .val (.ref a2), .val (.ref a3)] [])) _
    refine XS.aloadN X4.here hx rfl (hb hby d38_4) rfl rfl ?_
    refine XS.aloadN X4.here hx rfl (hb hby d38_5) rfl rfl ?_
    show Steps p.tables e below (T4.setTop (mkF m 6 #[.val (.ref a1), .val (.ref a2), .val (.ref a3)] [(.ref a2), (.ref a1)])) _
    refine st5 _ ?_
    show Steps p.tables e below (T5.setTop (mkF m 9 #[.val (.ref a1), .val (.ref a2), .val (.ref a3)] [(.ref a2), (.ref a1)])) _
    refine st6 _ ?_
    show Steps p.tables e below (T6.setTop (mkF m 12 #[.val (.ref a1), .val (.ref a2), .val (.ref a3)] [])) _
    refine XS.aloadN X6.here hx rfl (hb hby d38_12) rfl rfl ?_
    refine XS.aloadN X6.here hx rfl (hb hby d38_13) rfl rfl ?_
    show Steps p.tables e below (T6.setTop (mkF m 14 #[.val (.ref a1), .val (.ref a2), .val (.ref a3)] [(.ref a3), (.ref a1)])) _
    refine st7 _ ?_
    show Steps p.tables e below (T7.setTop (mkF m 17 #[.val (.ref a1), .val (.ref a2), .val (.ref a3)] [(.ref a3), (.ref a1)])) _
    refine st8 _ ?_
    show Steps p.tables e below (T8.setTop (mkF m 20 #[.val (.ref a1), .val (.ref a2), .val (.ref a3)] [])) _
    exact X8.returnOut hx Bd.returns (hb hby d38_20) hr
  · show Q38 Z a1 a2 a3 u1 u2 h0 n0 _ T8.heap _
    rw [e8]
    exact ⟨rfl, N8, K8, E_a1.keep K8, (Fw6.keep Kc7 nin0).other W8 (own_sn (Or.inr (wd hw 280 rfl)) (Or.inr (wd hw 282 rfl)) (by decide)), Fw8⟩
theorem d47_0 : decode jdk_44_method_1_code 0 = .ok (.aload_n 0, 1) := by decide +kernel
theorem d47_1 : decode jdk_44_method_1_code 1 = .ok (.invokespecial 1, 3) := by decide +kernel
theorem d47_4 : decode jdk_44_method_1_code 4 = .ok (.aload_n 0, 1) := by decide +kernel
theorem d47_5 : decode jdk_44_method_1_code 5 = .ok (.aload_n 1, 1) := by decide +kernel
theorem d47_6 : decode jdk_44_method_1_code 6 = .ok (.invokestatic 7, 3) := by decide +kernel
theorem d47_9 : decode jdk_44_method_1_code 9 = .ok (.putfield 13, 3) := by decide +kernel
theorem d47_12 : decode jdk_44_method_1_code 12 = .ok (.aload_n 0, 1) := by decide +kernel
theorem d47_13 : decode jdk_44_method_1_code 13 = .ok (.getstatic 19, 3) := by decide +kernel
theorem d47_16 : decode jdk_44_method_1_code 16 = .ok (.putfield 24, 3) := by decide +kernel
theorem d47_19 : decode jdk_44_method_1_code 19 = .ok (.return_, 1) := by decide +kernel
theorem pn_47 : plainName "java/util/ImmutableCollections$List12" = true := by first | (simp [plainName, overriddenIn]; done) | decide +kernel
theorem pd_47_3 : parseMethodDescriptor "()V" = some ⟨[], none⟩ := by decide +kernel
theorem pd_47_29 : parseMethodDescriptor "(Ljava/lang/Object;)Ljava/lang/Object;" = some ⟨[(.object "java/lang/Object")], some (.object "java/lang/Object")⟩ := by decide +kernel
theorem ef_47 (m : MethodId) (x0 : Addr) (x1 : Addr) : entryFrame m #[(.ref x0), (.ref x1)] 2 = mkF m 0 #[.val (.ref x0), .val (.ref x1)] [] := by first | (simp [entryFrame, mkF, argsToLocals, Value.category]; done) | rfl
def Q47 (Z : State) (a1 a2 wEm : Addr) (u1 u2 : Value) (h0 : Heap) (n0 : Nat) (v : Option Value) (h : Heap) (L : List Loc) : Prop := v = none ∧ Fr n0 L ∧ Keep h0 h [a1] ∧ Exa Z h a1 "java/util/ImmutableCollections$List12" ∧ Fld Z h a1 "java/util/ImmutableCollections$List12" "e0" "Ljava/lang/Object;" (.ref a2) ∧ Fld Z h a1 "java/util/ImmutableCollections$List12" "e1" "Ljava/lang/Object;" (.ref wEm)
set_option maxRecDepth 65536 in
set_option maxHeartbeats 40000000 in
theorem rm47 (l : Launch) (Z : State) (a0 : Array Value) (hw : ∀ d ∈ tables_1, d.before a0 Z = true) (ws : List Jvm.Cond) (a1 a2 wEm : Addr) (u1 u2 : Value) (h0 : Heap) (n0 : Nat) (Z0 : n0 ≤ h0.size) (E_a1 : Exa Z h0 a1 "java/util/ImmutableCollections$List12") (F_e0_a1 : Fld Z h0 a1 "java/util/ImmutableCollections$List12" "e0" "Ljava/lang/Object;" u1) (F_e1_a1 : Fld Z h0 a1 "java/util/ImmutableCollections$List12" "e1" "Ljava/lang/Object;" u2) (g_a1 : n0 ≤ a1) (S_EMPTY : Sta Z h0 "java/util/ImmutableCollections" "EMPTY" "Ljava/lang/Object;" (.ref wEm)) :
    MetFree l mN34 (head1 (Jvm.Cond.code mN34 jdk_44_method_1_code 2 none :: ws) ({ frames := 4, cells := 0, slots := 0, locals := 48 } : Room)) (fun a U => a = #[(.ref a1), (.ref a2)] ∧ Z.Warmed39 U.vm ∧ U.heap = h0) (fun _ _ _ _ _ => True) (fun _ U o U' => ∃ v L, o = .returned v ∧ Q47 Z a1 a2 wEm u1 u2 h0 n0 v U'.heap L ∧ FrameEnd U o U' L ({ frames := 4, cells := 0, slots := 0, locals := 48 } : Room).cells ({ frames := 4, cells := 0, slots := 0, locals := 48 } : Room).slots) := by
  refine MetFree.of_bodySF (plainFor_of_name pn_47) hisR ?_
  intro p e s m args below meth c s₁ Bd hml0 hP hK
  obtain ⟨rfl, hZ, hh⟩ := hP
  have hx := Bd.exec
  have hby := Bd.bytes
  have hml : c.maxLocals = 2 := hml0
  have hown : s.vm.findClass "java/util/ImmutableCollections$List12" = some m.cls := findClass_of_methodNamed Bd.named
  have hnm := (name_of_methodNamed Bd.named Bd.method).1
  have X0 : Stand p l e ({ frames := 4, cells := 0, slots := 0, locals := 48 } : Room) s m #[(.ref a1), (.ref a2)] below meth c s₁ [] 0 0 := Stand.of_body Bd
  have e0 : s₁.heap = h0 := by rw [← hh, Bd.state]; rfl
  have N0 := Fr.nil n0
  have pre0 : ∀ t, Steps p.tables e below (s₁.setTop (mkF m 0 #[.val (.ref a1), .val (.ref a2)] [])) t → Steps p.tables e below (s₁.setTop (entryFrame m #[(.ref a1), (.ref a2)] 2)) t := fun t k => castTop (ef_47 m a1 a2) k
  obtain ⟨_, _, ⟨T3, L3, k3, n3⟩, -, X3, ⟨Lc3, hQ3, l3, y3, z3⟩, st3⟩ := X0.specialBack hx (y := mN33) rfl hown (mvT hZ (wd hw 261 rfl)) (mvT hZ (wd hw 262 rfl)) (mvT hZ (wd hw 266 rfl)) (by decide) (backOf (W := 0) (rm39 l Z a0 hw [] a1 h0 n0 Z0) hZ (wd hw 266 rfl) (wd hw 265 rfl) (by decide) (by decide)) (g := (mkF m 1 #[.val (.ref a1), .val (.ref a2)] [(.ref a1)])) rfl (by rw [hml]; rfl) (Steps.refl _) (a := a1) (argsL := []) (rest := []) (lenOf pd_47_3 rfl) rfl (by show 2 * 0 + _ ≤ _; exact Nat.le_of_eq rfl) (hb hby d47_1) (fun _ _ => ⟨rfl, e0, (by decide : 0 + 0 ≤ _), (by decide : 0 + 0 ≤ _)⟩)
  dsimp only [Pt.U, Pt.locs, Pt.cells, Pt.slots] at X3 l3 y3 z3 st3 hQ3
  subst l3 y3 z3
  obtain ⟨rfl, N3q, k3q⟩ := hQ3
  have Kc3 : Keep h0 T3.heap [] := by rw [k3q]; exact Keep.refl _ []
  have Kh3 : Keep h0 T3.heap [a1] := by rw [k3q]; exact Keep.refl h0 [a1]
  have N3 := Fr.app N0 N3q
  obtain ⟨_, _, ⟨T4, L4, k4, n4⟩, -, X4, ⟨Lc4, hQ4, l4, y4, z4⟩, st4⟩ := Jvm.LawKit.callS X3 hx (y := mN47) hown (mvT hZ (wd hw 275 rfl)) (mvT hZ (wd hw 276 rfl)) (mvT hZ (wd hw 277 rfl)) (mvT hZ (wd hw 278 rfl)) (by decide) (backOf (W := 1) (rm41 l Z a0 hw [] a2 T3.heap n0 (Nat.le_trans Z0 Kh3.1)) hZ (wd hw 278 rfl) (wd hw 277 rfl) (by decide) (by decide)) (g := (mkF m 6 #[.val (.ref a1), .val (.ref a2)] [(.ref a2), (.ref a1)])) rfl (by rw [hml]; rfl) (argsL := [(.ref a2)]) (rest := [(.ref a1)]) (lenOf pd_47_29 rfl) rfl (by show 2 * 0 + _ ≤ _; exact Nat.le_of_eq rfl) (hb hby d47_6) (fun _ _ => ⟨rfl, rfl, (by decide : 0 + 0 ≤ _), (by decide : 0 + 0 ≤ _)⟩)
  dsimp only [Pt.U, Pt.locs, Pt.cells, Pt.slots] at X4 l4 y4 z4 st4 hQ4
  subst l4 y4 z4
  obtain ⟨rfl, N4q, k4q⟩ := hQ4
  have Kc4 : Keep T3.heap T4.heap [] := by rw [k4q]; exact Keep.refl _ []
  have Kh4 : Keep h0 T4.heap [a1] := by rw [k4q]; exact Kh3
  have N4 := Fr.app N3 N4q
  obtain ⟨T5, h5, X5, e5, W5, st5⟩ := putF X4 hx hZ hown (host := "") (Or.inl (wd hw 279 rfl)) Via.refl rfl ((F_e0_a1.keep Kc3 nin0).keep Kc4 nin0) ((E_a1.keep Kc3).keep Kc4) (Or.inr ⟨(wd hw 280 rfl), rfl, hnm⟩) (wd hw 255 rfl) (ty := (.object "java/lang/Object")) (by decide) rfl rfl (g := (mkF m 9 #[.val (.ref a1), .val (.ref a2)] [(.ref a2), (.ref a1)])) rfl rfl (hb hby d47_9)
  have Fw5 := ((F_e0_a1.keep Kc3 nin0).keep Kc4 nin0).same W5
  have K5 : Keep h0 h5 [a1] := Kh4.wr W5 (Or.inl (List.mem_of_getElem? (i := 0) rfl))
  have N5 := Fr.snoc X5 N4 g_a1
  obtain ⟨T7, X7, e7, st7⟩ := getS2 X5 hx hZ hown (Or.inr (wd hw 289 rfl)) Via.refl e5 (own_staE S_EMPTY E_a1 K5) (g := (mkF m 13 #[.val (.ref a1), .val (.ref a2)] [(.ref a1)])) rfl (hb hby d47_13)
  obtain ⟨T8, h8, X8, e8, W8, st8⟩ := putF X7 hx hZ hown (host := "") (Or.inl (wd hw 281 rfl)) Via.refl e7 (((F_e1_a1.keep Kc3 nin0).keep Kc4 nin0).other W5 (own_sn (Or.inr (wd hw 282 rfl)) (Or.inr (wd hw 280 rfl)) (by decide))) (((E_a1.keep Kc3).keep Kc4).wr W5) (Or.inr ⟨(wd hw 282 rfl), rfl, hnm⟩) (wd hw 255 rfl) (ty := (.object "java/lang/Object")) (by decide) rfl rfl (g := (mkF m 16 #[.val (.ref a1), .val (.ref a2)] [(.ref wEm), (.ref a1)])) rfl rfl (hb hby d47_16)
  have Fw8 := (((F_e1_a1.keep Kc3 nin0).keep Kc4 nin0).other W5 (own_sn (Or.inr (wd hw 282 rfl)) (Or.inr (wd hw 280 rfl)) (by decide))).same W8
  have K8 : Keep h0 h8 [a1] := K5.wr W8 (Or.inl (List.mem_of_getElem? (i := 0) rfl))
  have N8 := Fr.snoc X8 N5 g_a1
  obtain ⟨fs, hr, hrun, hended, hW, hsame⟩ := X8.leave (v := none) (fun _ => rfl)
  refine ⟨_, _, pre0 _ ?_, hrun, hended, _, _, rfl, ?_, ⟨_, rfl⟩, hW, hsame.mono (by decide) (by decide)⟩
  · show Steps p.tables e below (s₁.setTop (mkF m 0 #[.val (.ref a1), .val (.ref a2)] [])) _
    refine XS.aloadN X0.here hx rfl (hb hby d47_0) rfl rfl ?_
    show Steps p.tables e below (s₁.setTop (mkF m 1 #[.val (.ref a1), .val (.ref a2)] [(.ref a1)])) _
    refine st3.trans ?_
    show Steps p.tables e below (T3.setTop (mkF m 4 #[.val (.ref a1), .val (.ref a2)] [])) _
    refine XS.aloadN X3.here hx rfl (hb hby d47_4) rfl rfl ?_
    refine XS.aloadN X3.here hx rfl (hb hby d47_5) rfl rfl ?_
    show Steps p.tables e below (T3.setTop (mkF m 6 #[.val (.ref a1), .val (.ref a2)] [(.ref a2), (.ref a1)])) _
    refine st4 _ ?_
    show Steps p.tables e below (T4.setTop (mkF m 9 #[.val (.ref a1), .val (.ref a2)] [(.ref a2), (.ref a1)])) _
    refine st5 _ ?_
    show Steps p.tables e below (T5.setTop (mkF m 12 #[.val (.ref a1), .val (.ref a2)] [])) _
    refine XS.aloadN X5.here hx rfl (hb hby d47_12) rfl rfl ?_
    show Steps p.tables e below (T5.setTop (mkF m 13 #[.val (.ref a1), .val (.ref a2)] [(.ref a1)])) _
    refine st7 _ ?_
    show Steps p.tables e below (T7.setTop (mkF m 16 #[.val (.ref a1), .val (.ref a2)] [(.ref wEm), (.ref a1)])) _
    refine st8 _ ?_
    show Steps p.tables e below (T8.setTop (mkF m 19 #[.val (.ref a1), .val (.ref a2)] [])) _
    exact X8.returnOut hx Bd.returns (hb hby d47_19) hr
  · show Q47 Z a1 a2 wEm u1 u2 h0 n0 _ T8.heap _
    rw [e8]
    exact ⟨rfl, N8, K8, E_a1.keep K8, Fw5.other W8 (own_sn (Or.inr (wd hw 280 rfl)) (Or.inr (wd hw 282 rfl)) (by decide)), Fw8⟩
theorem d45_0 : decode jdk_45_method_1_code 0 = .ok (.aload_n 0, 1) := by decide +kernel
theorem d45_1 : decode jdk_45_method_1_code 1 = .ok (.invokespecial 1, 3) := by decide +kernel
theorem d45_4 : decode jdk_45_method_1_code 4 = .ok (.aload_n 0, 1) := by decide +kernel
theorem d45_5 : decode jdk_45_method_1_code 5 = .ok (.aload_n 1, 1) := by decide +kernel
theorem d45_6 : decode jdk_45_method_1_code 6 = .ok (.putfield 7, 3) := by decide +kernel
theorem d45_9 : decode jdk_45_method_1_code 9 = .ok (.aload_n 0, 1) := by decide +kernel
theorem d45_10 : decode jdk_45_method_1_code 10 = .ok (.iload_n 2, 1) := by decide +kernel
theorem d45_11 : decode jdk_45_method_1_code 11 = .ok (.putfield 13, 3) := by decide +kernel
theorem d45_14 : decode jdk_45_method_1_code 14 = .ok (.return_, 1) := by decide +kernel
theorem pn_45 : plainName "java/util/ImmutableCollections$ListN" = true := by first | (simp [plainName, overriddenIn]; done) | decide +kernel
theorem pd_45_3 : parseMethodDescriptor "()V" = some ⟨[], none⟩ := by decide +kernel
theorem ef_45 (m : MethodId) (x0 : Addr) (x1 : Addr) (x2 : Int32) : entryFrame m #[(.ref x0), (.ref x1), (.int x2)] 3 = mkF m 0 #[.val (.ref x0), .val (.ref x1), .val (.int x2)] [] := by first | (simp [entryFrame, mkF, argsToLocals, Value.category]; done) | rfl
def Q45 (Z : State) (a1 a2 : Addr) (u1 u2 : Value) (h0 : Heap) (n0 : Nat) (v : Option Value) (h : Heap) (L : List Loc) : Prop := v = none ∧ Fr n0 L ∧ Keep h0 h [a1] ∧ Exa Z h a1 "java/util/ImmutableCollections$ListN" ∧ Fld Z h a1 "java/util/ImmutableCollections$ListN" "elements" "[Ljava/lang/Object;" (.ref a2)
set_option maxRecDepth 65536 in
set_option maxHeartbeats 40000000 in
theorem rm45 (l : Launch) (Z : State) (a0 : Array Value) (hw : ∀ d ∈ tables_1, d.before a0 Z = true) (ws : List Jvm.Cond) (a1 a2 : Addr) (u1 u2 : Value) (h0 : Heap) (n0 : Nat) (Z0 : n0 ≤ h0.size) (E_a1 : Exa Z h0 a1 "java/util/ImmutableCollections$ListN") (F_elements_a1 : Fld Z h0 a1 "java/util/ImmutableCollections$ListN" "elements" "[Ljava/lang/Object;" u1) (F_allowNulls_a1 : Fld Z h0 a1 "java/util/ImmutableCollections$ListN" "allowNulls" "Z" u2) (g_a1 : n0 ≤ a1) :
    MetFree l mN38 (head1 (Jvm.Cond.code mN38 jdk_45_method_1_code 3 none :: ws) ({ frames := 4, cells := 0, slots := 0, locals := 48 } : Room)) (fun a U => a = #[(.ref a1), (.ref a2), (.int (0 : Int32))] ∧ Z.Warmed39 U.vm ∧ U.heap = h0) (fun _ _ _ _ _ => True) (fun _ U o U' => ∃ v L, o = .returned v ∧ Q45 Z a1 a2 u1 u2 h0 n0 v U'.heap L ∧ FrameEnd U o U' L ({ frames := 4, cells := 0, slots := 0, locals := 48 } : Room).cells ({ frames := 4, cells := 0, slots := 0, locals := 48 } : Room).slots) := by
  refine MetFree.of_bodySF (plainFor_of_name pn_45) hisR ?_
  intro p e s m args below meth c s₁ Bd hml0 hP hK
  obtain ⟨rfl, hZ, hh⟩ := hP
  have hx := Bd.exec
  have hby := Bd.bytes
  have hml : c.maxLocals = 3 := hml0
  have hown : s.vm.findClass "java/util/ImmutableCollections$ListN" = some m.cls := findClass_of_methodNamed Bd.named
  have hnm := (name_of_methodNamed Bd.named Bd.method).1
  have X0 : Stand p l e ({ frames := 4, cells := 0, slots := 0, locals := 48 } : Room) s m #[(.ref a1), (.ref a2), (.int (0 : Int32))] below meth c s₁ [] 0 0 := Stand.of_body Bd
  have e0 : s₁.heap = h0 := by rw [← hh, Bd.state]; rfl
  have N0 := Fr.nil n0
  have pre0 : ∀ t, Steps p.tables e below (s₁.setTop (mkF m 0 #[.val (.ref a1), .val (.ref a2), .val (.int (0 : Int32))] [])) t → Steps p.tables e below (s₁.setTop (entryFrame m #[(.ref a1), (.ref a2), (.int (0 : Int32))] 3)) t := fun t k => castTop (ef_45 m a1 a2 (0 : Int32)) k
  obtain ⟨_, _, ⟨T4, L4, k4, n4⟩, -, X4, ⟨Lc4, hQ4, l4, y4, z4⟩, st4⟩ := X0.specialBack hx (y := mN33) rfl hown (mvT hZ (wd hw 308 rfl)) (mvT hZ (wd hw 262 rfl)) (mvT hZ (wd hw 266 rfl)) (by decide) (backOf (W := 0) (rm39 l Z a0 hw [] a1 h0 n0 Z0) hZ (wd hw 266 rfl) (wd hw 265 rfl) (by decide) (by decide)) (g := (mkF m 1 #[.val (.ref a1), .val (.ref a2), .val (.int (0 : Int32))] [(.ref a1)])) rfl (by rw [hml]; rfl) (Steps.refl _) (a := a1) (argsL := []) (rest := []) (lenOf pd_45_3 rfl) rfl (by show 2 * 0 + _ ≤ _; exact Nat.le_of_eq rfl) (hb hby d45_1) (fun _ _ => ⟨rfl, e0, (by decide : 0 + 0 ≤ _), (by decide : 0 + 0 ≤ _)⟩)
  dsimp only [Pt.U, Pt.locs, Pt.cells, Pt.slots] at X4 l4 y4 z4 st4 hQ4
  subst l4 y4 z4
  obtain ⟨rfl, N4q, k4q⟩ := hQ4
  have Kc4 : Keep h0 T4.heap [] := by rw [k4q]; exact Keep.refl _ []
  have Kh4 : Keep h0 T4.heap [a1] := by rw [k4q]; exact Keep.refl h0 [a1]
  have N4 := Fr.app N0 N4q
  obtain ⟨T5, h5, X5, e5, W5, st5⟩ := putF X4 hx hZ hown (host := "") (Or.inl (wd hw 161 rfl)) Via.refl rfl (F_elements_a1.keep Kc4 nin0) (E_a1.keep Kc4) (Or.inr ⟨(wd hw 162 rfl), rfl, hnm⟩) (wd hw 303 rfl) (ty := (.array (.object "java/lang/Object"))) (by decide) rfl rfl (g := (mkF m 6 #[.val (.ref a1), .val (.ref a2), .val (.int (0 : Int32))] [(.ref a2), (.ref a1)])) rfl rfl (hb hby d45_6)
  have Fw5 := (F_elements_a1.keep Kc4 nin0).same W5
  have K5 : Keep h0 h5 [a1] := Kh4.wr W5 (Or.inl (List.mem_of_getElem? (i := 0) rfl))
  have N5 := Fr.snoc X5 N4 g_a1
  obtain ⟨T6, h6, X6, e6, W6, st6⟩ := putFN X5 hx hZ hown (wd hw 312 rfl) Via.refl e5 ((F_allowNulls_a1.keep Kc4 nin0).other W5 (own_sn (Or.inr (wd hw 313 rfl)) (Or.inr (wd hw 162 rfl)) (by decide))) ((E_a1.keep Kc4).wr W5) (Or.inr ⟨(wd hw 313 rfl), rfl, hnm⟩) (wd hw 303 rfl) (ty := .boolean) (v' := .int (0 : Int32)) (by decide) rfl (by decide) (g := (mkF m 11 #[.val (.ref a1), .val (.ref a2), .val (.int (0 : Int32))] [(.int (0 : Int32)), (.ref a1)])) rfl rfl (hb hby d45_11)
  have Fw6 := ((F_allowNulls_a1.keep Kc4 nin0).other W5 (own_sn (Or.inr (wd hw 313 rfl)) (Or.inr (wd hw 162 rfl)) (by decide))).same W6
  have K6 : Keep h0 h6 [a1] := K5.wr W6 (Or.inl (List.mem_of_getElem? (i := 0) rfl))
  have N6 := Fr.snoc X6 N5 g_a1
  obtain ⟨fs, hr, hrun, hended, hW, hsame⟩ := X6.leave (v := none) (fun _ => rfl)
  refine ⟨_, _, pre0 _ ?_, hrun, hended, _, _, rfl, ?_, ⟨_, rfl⟩, hW, hsame.mono (by decide) (by decide)⟩
  · show Steps p.tables e below (s₁.setTop (mkF m 0 #[.val (.ref a1), .val (.ref a2), .val (.int (0 : Int32))] [])) _
    refine XS.aloadN X0.here hx rfl (hb hby d45_0) rfl rfl ?_
    show Steps p.tables e below (s₁.setTop (mkF m 1 #[.val (.ref a1), .val (.ref a2), .val (.int (0 : Int32))] [(.ref a1)])) _
    refine st4.trans ?_
    show Steps p.tables e below (T4.setTop (mkF m 4 #[.val (.ref a1), .val (.ref a2), .val (.int (0 : Int32))] [])) _
    refine XS.aloadN X4.here hx rfl (hb hby d45_4) rfl rfl ?_
    refine XS.aloadN X4.here hx rfl (hb hby d45_5) rfl rfl ?_
    show Steps p.tables e below (T4.setTop (mkF m 6 #[.val (.ref a1), .val (.ref a2), .val (.int (0 : Int32))] [(.ref a2), (.ref a1)])) _
    refine st5 _ ?_
    show Steps p.tables e below (T5.setTop (mkF m 9 #[.val (.ref a1), .val (.ref a2), .val (.int (0 : Int32))] [])) _
    refine XS.aloadN X5.here hx rfl (hb hby d45_9) rfl rfl ?_
    refine XS.iloadN X5.here hx rfl (hb hby d45_10) rfl ?_
    show Steps p.tables e below (T5.setTop (mkF m 11 #[.val (.ref a1), .val (.ref a2), .val (.int (0 : Int32))] [(.int (0 : Int32)), (.ref a1)])) _
    refine st6 _ ?_
    show Steps p.tables e below (T6.setTop (mkF m 14 #[.val (.ref a1), .val (.ref a2), .val (.int (0 : Int32))] [])) _
    exact X6.returnOut hx Bd.returns (hb hby d45_14) hr
  · show Q45 Z a1 a2 u1 u2 h0 n0 _ T6.heap _
    rw [e6]
    exact ⟨rfl, N6, K6, E_a1.keep K6, Fw5.other W6 (own_sn (Or.inr (wd hw 162 rfl)) (Or.inr (wd hw 313 rfl)) (by decide))⟩
theorem d20_0 : decode jdk_45_method_3_code 0 = .ok (.aload_n 0, 1) := by decide +kernel
theorem d20_1 : decode jdk_45_method_3_code 1 = .ok (.getfield 7, 3) := by decide +kernel
theorem d20_4 : decode jdk_45_method_3_code 4 = .ok (.arraylength, 1) := by decide +kernel
theorem d20_5 : decode jdk_45_method_3_code 5 = .ok (.ireturn, 1) := by decide +kernel
theorem pn_20 : plainName "java/util/ImmutableCollections$ListN" = true := by first | (simp [plainName, overriddenIn]; done) | decide +kernel
theorem ef_20 (m : MethodId) (x0 : Addr) : entryFrame m #[(.ref x0)] 1 = mkF m 0 #[.val (.ref x0)] [] := by first | (simp [entryFrame, mkF, argsToLocals, Value.category]; done) | rfl
def Q20 (Z : State) (a1 : Addr) (w2 : Addr) (cl_w2 : Cell) (z_w2 : Int32) (h0 : Heap) (n0 : Nat) (v : Option Value) (h : Heap) (L : List Loc) : Prop := v = some (.int z_w2) ∧ Fr n0 L ∧ h = h0
set_option maxRecDepth 65536 in
set_option maxHeartbeats 40000000 in
theorem rm20 (l : Launch) (Z : State) (a0 : Array Value) (hw : ∀ d ∈ tables_1, d.before a0 Z = true) (ws : List Jvm.Cond) (a1 : Addr) (w2 : Addr) (cl_w2 : Cell) (z_w2 : Int32) (h0 : Heap) (n0 : Nat) (Z0 : n0 ≤ h0.size) (F_elements_a1 : Fld Z h0 a1 "java/util/ImmutableCollections$ListN" "elements" "[Ljava/lang/Object;" (.ref w2)) (Ar_w2 : Arr Z h0 w2 cl_w2 (.object "java/lang/Object")) (S_w2 : cl_w2.slots.size = z_w2.toNatClampNeg) (N_w2 : ¬ z_w2 < 0) :
    MetFree l mN40 (head1 (Jvm.Cond.code mN40 jdk_45_method_3_code 1 (some .int) :: ws) ({ frames := 0, cells := 0, slots := 0, locals := 0 } : Room)) (fun a U => a = #[(.ref a1)] ∧ Z.Warmed39 U.vm ∧ U.heap = h0) (fun _ _ _ _ _ => True) (fun _ U o U' => ∃ v L, o = .returned v ∧ Q20 Z a1 w2 cl_w2 z_w2 h0 n0 v U'.heap L ∧ FrameEnd U o U' L ({ frames := 0, cells := 0, slots := 0, locals := 0 } : Room).cells ({ frames := 0, cells := 0, slots := 0, locals := 0 } : Room).slots) := by
  refine MetFree.of_bodySF (plainFor_of_name pn_20) hisR ?_
  intro p e s m args below meth c s₁ Bd hml0 hP hK
  obtain ⟨rfl, hZ, hh⟩ := hP
  have hx := Bd.exec
  have hby := Bd.bytes
  have hml : c.maxLocals = 1 := hml0
  have hown : s.vm.findClass "java/util/ImmutableCollections$ListN" = some m.cls := findClass_of_methodNamed Bd.named
  have hnm := (name_of_methodNamed Bd.named Bd.method).1
  have X0 : Stand p l e ({ frames := 0, cells := 0, slots := 0, locals := 0 } : Room) s m #[(.ref a1)] below meth c s₁ [] 0 0 := Stand.of_body Bd
  have e0 : s₁.heap = h0 := by rw [← hh, Bd.state]; rfl
  have N0 := Fr.nil n0
  have pre0 : ∀ t, Steps p.tables e below (s₁.setTop (mkF m 0 #[.val (.ref a1)] [])) t → Steps p.tables e below (s₁.setTop (entryFrame m #[(.ref a1)] 1)) t := fun t k => castTop (ef_20 m a1) k
  obtain ⟨T3, X3, e3, st3⟩ := getF X0 hx hZ hown (host := "") (Or.inl (wd hw 161 rfl)) Via.refl e0 F_elements_a1 (g := (mkF m 1 #[.val (.ref a1)] [(.ref a1)])) rfl rfl (hb hby d20_1)
  obtain ⟨fs, hr, hrun, hended, hW, hsame⟩ := X3.leave (v := some (.int z_w2)) (fun h => by rw [Bd.returns] at h; cases h)
  refine ⟨_, _, pre0 _ ?_, hrun, hended, _, _, rfl, ?_, ⟨_, rfl⟩, hW, hsame.mono (by decide) (by decide)⟩
  · show Steps p.tables e below (s₁.setTop (mkF m 0 #[.val (.ref a1)] [])) _
    refine XS.aloadN X0.here hx rfl (hb hby d20_0) rfl rfl ?_
    show Steps p.tables e below (s₁.setTop (mkF m 1 #[.val (.ref a1)] [(.ref a1)])) _
    refine st3 _ ?_
    show Steps p.tables e below (T3.setTop (mkF m 4 #[.val (.ref a1)] [(.ref w2)])) _
    refine X3.arraylength hx (by rw [e3]; exact Ar_w2.1) (State.isArrayOf_alike hZ.alike Ar_w2.2.1) (g := (mkF m 4 #[.val (.ref a1)] [(.ref w2)])) rfl rfl (hb hby d20_4) _ ?_
    rw [len_of S_w2 N_w2]
    show Steps p.tables e below (T3.setTop (mkF m 5 #[.val (.ref a1)] [(.int z_w2)])) _
    exact retI X3 hx Bd.returns (hb hby d20_5) hr
  · show Q20 Z a1 w2 cl_w2 z_w2 h0 n0 _ T3.heap _
    rw [e3]
    exact ⟨rfl, N0, rfl⟩
theorem d42_0 : decode jdk_44_method_3_code 0 = .ok (.aload_n 0, 1) := by decide +kernel
theorem d42_1 : decode jdk_44_method_3_code 1 = .ok (.getfield 24, 3) := by decide +kernel
theorem d42_4 : decode jdk_44_method_3_code 4 = .ok (.getstatic 19, 3) := by decide +kernel
theorem d42_7 : decode jdk_44_method_3_code 7 = .ok (.if_acmp .eq 7, 3) := by decide +kernel
theorem d42_10 : decode jdk_44_method_3_code 10 = .ok (.iconst 2, 1) := by decide +kernel
theorem d42_11 : decode jdk_44_method_3_code 11 = .ok (.goto 4, 3) := by decide +kernel
theorem d42_15 : decode jdk_44_method_3_code 15 = .ok (.ireturn, 1) := by decide +kernel
theorem pn_42 : plainName "java/util/ImmutableCollections$List12" = true := by first | (simp [plainName, overriddenIn]; done) | decide +kernel
theorem ef_42 (m : MethodId) (x0 : Addr) : entryFrame m #[(.ref x0)] 1 = mkF m 0 #[.val (.ref x0)] [] := by first | (simp [entryFrame, mkF, argsToLocals, Value.category]; done) | rfl
def Q42f (Z : State) (a1 : Addr) (w2 : Addr) (w4 : Addr) (h0 : Heap) (n0 : Nat) (v : Option Value) (h : Heap) (L : List Loc) : Prop := v = some (.int (2 : Int32)) ∧ Fr n0 L ∧ h = h0
set_option maxRecDepth 65536 in
set_option maxHeartbeats 40000000 in
theorem rm42f (l : Launch) (Z : State) (a0 : Array Value) (hw : ∀ d ∈ tables_1, d.before a0 Z = true) (ws : List Jvm.Cond) (a1 : Addr) (w2 : Addr) (w4 : Addr) (h0 : Heap) (n0 : Nat) (Z0 : n0 ≤ h0.size) (F_e1_a1 : Fld Z h0 a1 "java/util/ImmutableCollections$List12" "e1" "Ljava/lang/Object;" (.ref w2)) (S_EMPTY : Sta Z h0 "java/util/ImmutableCollections" "EMPTY" "Ljava/lang/Object;" (.ref w4)) (ha7 : ¬ (w2 = w4)) :
    MetFree l mN37 (head1 (Jvm.Cond.code mN37 jdk_44_method_3_code 1 (some .int) :: ws) ({ frames := 0, cells := 0, slots := 0, locals := 0 } : Room)) (fun a U => a = #[(.ref a1)] ∧ Z.Warmed39 U.vm ∧ U.heap = h0) (fun _ _ _ _ _ => True) (fun _ U o U' => ∃ v L, o = .returned v ∧ Q42f Z a1 w2 w4 h0 n0 v U'.heap L ∧ FrameEnd U o U' L ({ frames := 0, cells := 0, slots := 0, locals := 0 } : Room).cells ({ frames := 0, cells := 0, slots := 0, locals := 0 } : Room).slots) := by
  refine MetFree.of_bodySF (plainFor_of_name pn_42) hisR ?_
  intro p e s m args below meth c s₁ Bd hml0 hP hK
  obtain ⟨rfl, hZ, hh⟩ := hP
  have hx := Bd.exec
  have hby := Bd.bytes
  have hml : c.maxLocals = 1 := hml0
  have hown : s.vm.findClass "java/util/ImmutableCollections$List12" = some m.cls := findClass_of_methodNamed Bd.named
  have hnm := (name_of_methodNamed Bd.named Bd.method).1
  have X0 : Stand p l e ({ frames := 0, cells := 0, slots := 0, locals := 0 } : Room) s m #[(.ref a1)] below meth c s₁ [] 0 0 := Stand.of_body Bd
  have e0 : s₁.heap = h0 := by rw [← hh, Bd.state]; rfl
  have N0 := Fr.nil n0
  have pre0 : ∀ t, Steps p.tables e below (s₁.setTop (mkF m 0 #[.val (.ref a1)] [])) t → Steps p.tables e below (s₁.setTop (entryFrame m #[(.ref a1)] 1)) t := fun t k => castTop (ef_42 m a1) k
  obtain ⟨T3, X3, e3, st3⟩ := getF X0 hx hZ hown (host := "") (Or.inl (wd hw 281 rfl)) Via.refl e0 F_e1_a1 (g := (mkF m 1 #[.val (.ref a1)] [(.ref a1)])) rfl rfl (hb hby d42_1)
  obtain ⟨T5, X5, e5, st5⟩ := getS2 X3 hx hZ hown (Or.inr (wd hw 289 rfl)) Via.refl e3 S_EMPTY (g := (mkF m 4 #[.val (.ref a1)] [(.ref w2)])) rfl (hb hby d42_4)
  obtain ⟨fs, hr, hrun, hended, hW, hsame⟩ := X5.leave (v := some (.int (2 : Int32))) (fun h => by rw [Bd.returns] at h; cases h)
  refine ⟨_, _, pre0 _ ?_, hrun, hended, _, _, rfl, ?_, ⟨_, rfl⟩, hW, hsame.mono (by decide) (by decide)⟩
  · show Steps p.tables e below (s₁.setTop (mkF m 0 #[.val (.ref a1)] [])) _
    refine XS.aloadN X0.here hx rfl (hb hby d42_0) rfl rfl ?_
    show Steps p.tables e below (s₁.setTop (mkF m 1 #[.val (.ref a1)] [(.ref a1)])) _
    refine st3 _ ?_
    show Steps p.tables e below (T3.setTop (mkF m 4 #[.val (.ref a1)] [(.ref w2)])) _
    refine st5 _ ?_
    show Steps p.tables e below (T5.setTop (mkF m 7 #[.val (.ref a1)] [(.ref w4), (.ref w2)])) _
    refine Jvm.RoadKit.acmp (g := (mkF m 7 #[.val (.ref a1)] [(.ref w4), (.ref w2)])) X5 hx rfl rfl rfl (pc0 := 7) (pc' := 10) (same := false) rfl (hb hby d42_7) rfl (decide_eq_false fun q => ha7 (Value.ref.inj q)) (by decide) (by decide) ?_
    show Steps p.tables e below (T5.setTop (mkF m 10 #[.val (.ref a1)] [])) _
    refine XS.iconst X5.here hx rfl (hb hby d42_10) ?_
    refine XS.goto X5.here hx rfl (pc0 := 11) (pc' := 15) rfl (hb hby d42_11) (by decide) (by decide) ?_
    show Steps p.tables e below (T5.setTop (mkF m 15 #[.val (.ref a1)] [(.int (2 : Int32))])) _
    exact retI X5 hx Bd.returns (hb hby d42_15) hr
  · show Q42f Z a1 w2 w4 h0 n0 _ T5.heap _
    rw [e5]
    exact ⟨rfl, N0, rfl⟩
theorem d42_14 : decode jdk_44_method_3_code 14 = .ok (.iconst 1, 1) := by decide +kernel
def Q42t (Z : State) (a1 : Addr) (w2 : Addr) (w4 : Addr) (h0 : Heap) (n0 : Nat) (v : Option Value) (h : Heap) (L : List Loc) : Prop := v = some (.int (1 : Int32)) ∧ Fr n0 L ∧ h = h0
set_option maxRecDepth 65536 in
set_option maxHeartbeats 40000000 in
theorem rm42t (l : Launch) (Z : State) (a0 : Array Value) (hw : ∀ d ∈ tables_1, d.before a0 Z = true) (ws : List Jvm.Cond) (a1 : Addr) (w2 : Addr) (w4 : Addr) (h0 : Heap) (n0 : Nat) (Z0 : n0 ≤ h0.size) (F_e1_a1 : Fld Z h0 a1 "java/util/ImmutableCollections$List12" "e1" "Ljava/lang/Object;" (.ref w2)) (S_EMPTY : Sta Z h0 "java/util/ImmutableCollections" "EMPTY" "Ljava/lang/Object;" (.ref w4)) (ha7 : w2 = w4) :
    MetFree l mN37 (head1 (Jvm.Cond.code mN37 jdk_44_method_3_code 1 (some .int) :: ws) ({ frames := 0, cells := 0, slots := 0, locals := 0 } : Room)) (fun a U => a = #[(.ref a1)] ∧ Z.Warmed39 U.vm ∧ U.heap = h0) (fun _ _ _ _ _ => True) (fun _ U o U' => ∃ v L, o = .returned v ∧ Q42t Z a1 w2 w4 h0 n0 v U'.heap L ∧ FrameEnd U o U' L ({ frames := 0, cells := 0, slots := 0, locals := 0 } : Room).cells ({ frames := 0, cells := 0, slots := 0, locals := 0 } : Room).slots) := by
  refine MetFree.of_bodySF (plainFor_of_name pn_42) hisR ?_
  intro p e s m args below meth c s₁ Bd hml0 hP hK
  obtain ⟨rfl, hZ, hh⟩ := hP
  have hx := Bd.exec
  have hby := Bd.bytes
  have hml : c.maxLocals = 1 := hml0
  have hown : s.vm.findClass "java/util/ImmutableCollections$List12" = some m.cls := findClass_of_methodNamed Bd.named
  have hnm := (name_of_methodNamed Bd.named Bd.method).1
  have X0 : Stand p l e ({ frames := 0, cells := 0, slots := 0, locals := 0 } : Room) s m #[(.ref a1)] below meth c s₁ [] 0 0 := Stand.of_body Bd
  have e0 : s₁.heap = h0 := by rw [← hh, Bd.state]; rfl
  have N0 := Fr.nil n0
  have pre0 : ∀ t, Steps p.tables e below (s₁.setTop (mkF m 0 #[.val (.ref a1)] [])) t → Steps p.tables e below (s₁.setTop (entryFrame m #[(.ref a1)] 1)) t := fun t k => castTop (ef_42 m a1) k
  obtain ⟨T3, X3, e3, st3⟩ := getF X0 hx hZ hown (host := "") (Or.inl (wd hw 281 rfl)) Via.refl e0 F_e1_a1 (g := (mkF m 1 #[.val (.ref a1)] [(.ref a1)])) rfl rfl (hb hby d42_1)
  obtain ⟨T5, X5, e5, st5⟩ := getS2 X3 hx hZ hown (Or.inr (wd hw 289 rfl)) Via.refl e3 S_EMPTY (g := (mkF m 4 #[.val (.ref a1)] [(.ref w2)])) rfl (hb hby d42_4)
  obtain ⟨fs, hr, hrun, hended, hW, hsame⟩ := X5.leave (v := some (.int (1 : Int32))) (fun h => by rw [Bd.returns] at h; cases h)
  refine ⟨_, _, pre0 _ ?_, hrun, hended, _, _, rfl, ?_, ⟨_, rfl⟩, hW, hsame.mono (by decide) (by decide)⟩
  · show Steps p.tables e below (s₁.setTop (mkF m 0 #[.val (.ref a1)] [])) _
    refine XS.aloadN X0.here hx rfl (hb hby d42_0) rfl rfl ?_
    show Steps p.tables e below (s₁.setTop (mkF m 1 #[.val (.ref a1)] [(.ref a1)])) _
    refine st3 _ ?_
    show Steps p.tables e below (T3.setTop (mkF m 4 #[.val (.ref a1)] [(.ref w2)])) _
    refine st5 _ ?_
    show Steps p.tables e below (T5.setTop (mkF m 7 #[.val (.ref a1)] [(.ref w4), (.ref w2)])) _
    refine Jvm.RoadKit.acmp (g := (mkF m 7 #[.val (.ref a1)] [(.ref w4), (.ref w2)])) X5 hx rfl rfl rfl (pc0 := 7) (pc' := 14) (same := true) rfl (hb hby d42_7) rfl (decide_eq_true (congrArg Value.ref ha7)) (by decide) (by decide) ?_
    show Steps p.tables e below (T5.setTop (mkF m 14 #[.val (.ref a1)] [])) _
    refine XS.iconst X5.here hx rfl (hb hby d42_14) ?_
    show Steps p.tables e below (T5.setTop (mkF m 15 #[.val (.ref a1)] [(.int (1 : Int32))])) _
    exact retI X5 hx Bd.returns (hb hby d42_15) hr
  · show Q42t Z a1 w2 w4 h0 n0 _ T5.heap _
    rw [e5]
    exact ⟨rfl, N0, rfl⟩
theorem d43_0 : decode jdk_44_method_5_code 0 = .ok (.iload_n 1, 1) := by decide +kernel
theorem d43_1 : decode jdk_44_method_5_code 1 = .ok (.ifCond .ne 8, 3) := by decide +kernel
theorem d43_4 : decode jdk_44_method_5_code 4 = .ok (.aload_n 0, 1) := by decide +kernel
theorem d43_5 : decode jdk_44_method_5_code 5 = .ok (.getfield 13, 3) := by decide +kernel
theorem d43_8 : decode jdk_44_method_5_code 8 = .ok (.areturn, 1) := by decide +kernel
theorem pn_43 : plainName "java/util/ImmutableCollections$List12" = true := by first | (simp [plainName, overriddenIn]; done) | decide +kernel
theorem ef_43 (m : MethodId) (x0 : Addr) (x1 : Int32) : entryFrame m #[(.ref x0), (.int x1)] 2 = mkF m 0 #[.val (.ref x0), .val (.int x1)] [] := by first | (simp [entryFrame, mkF, argsToLocals, Value.category]; done) | rfl
def Q43f (Z : State) (a1 : Addr) (p2 : Int32) (w3 : Addr) (h0 : Heap) (n0 : Nat) (v : Option Value) (h : Heap) (L : List Loc) : Prop := v = some (.ref w3) ∧ Fr n0 L ∧ h = h0
set_option maxRecDepth 65536 in
set_option maxHeartbeats 40000000 in
theorem rm43f (l : Launch) (Z : State) (a0 : Array Value) (hw : ∀ d ∈ tables_1, d.before a0 Z = true) (ws : List Jvm.Cond) (a1 : Addr) (p2 : Int32) (w3 : Addr) (h0 : Heap) (n0 : Nat) (Z0 : n0 ≤ h0.size) (F_e0_a1 : Fld Z h0 a1 "java/util/ImmutableCollections$List12" "e0" "Ljava/lang/Object;" (.ref w3)) (hc1 : p2 = (0 : Int32)) :
    MetFree l mN36 (head1 (Jvm.Cond.code mN36 jdk_44_method_5_code 2 (some (.object "java/lang/Object")) :: ws) ({ frames := 0, cells := 0, slots := 0, locals := 0 } : Room)) (fun a U => a = #[(.ref a1), (.int p2)] ∧ Z.Warmed39 U.vm ∧ U.heap = h0) (fun _ _ _ _ _ => True) (fun _ U o U' => ∃ v L, o = .returned v ∧ Q43f Z a1 p2 w3 h0 n0 v U'.heap L ∧ FrameEnd U o U' L ({ frames := 0, cells := 0, slots := 0, locals := 0 } : Room).cells ({ frames := 0, cells := 0, slots := 0, locals := 0 } : Room).slots) := by
  refine MetFree.of_bodySF (plainFor_of_name pn_43) hisR ?_
  intro p e s m args below meth c s₁ Bd hml0 hP hK
  obtain ⟨rfl, hZ, hh⟩ := hP
  have hx := Bd.exec
  have hby := Bd.bytes
  have hml : c.maxLocals = 2 := hml0
  have hown : s.vm.findClass "java/util/ImmutableCollections$List12" = some m.cls := findClass_of_methodNamed Bd.named
  have hnm := (name_of_methodNamed Bd.named Bd.method).1
  have X0 : Stand p l e ({ frames := 0, cells := 0, slots := 0, locals := 0 } : Room) s m #[(.ref a1), (.int p2)] below meth c s₁ [] 0 0 := Stand.of_body Bd
  have e0 : s₁.heap = h0 := by rw [← hh, Bd.state]; rfl
  have N0 := Fr.nil n0
  have pre0 : ∀ t, Steps p.tables e below (s₁.setTop (mkF m 0 #[.val (.ref a1), .val (.int p2)] [])) t → Steps p.tables e below (s₁.setTop (entryFrame m #[(.ref a1), (.int p2)] 2)) t := fun t k => castTop (ef_43 m a1 p2) k
  obtain ⟨T4, X4, e4, st4⟩ := getF X0 hx hZ hown (host := "") (Or.inl (wd hw 279 rfl)) Via.refl e0 F_e0_a1 (g := (mkF m 5 #[.val (.ref a1), .val (.int p2)] [(.ref a1)])) rfl rfl (hb hby d43_5)
  obtain ⟨fs, hr, hrun, hended, hW, hsame⟩ := X4.leave (v := some (.ref w3)) (fun h => by rw [Bd.returns] at h; cases h)
  refine ⟨_, _, pre0 _ ?_, hrun, hended, _, _, rfl, ?_, ⟨_, rfl⟩, hW, hsame.mono (by decide) (by decide)⟩
  · show Steps p.tables e below (s₁.setTop (mkF m 0 #[.val (.ref a1), .val (.int p2)] [])) _
    refine XS.iloadN X0.here hx rfl (hb hby d43_0) rfl ?_
    refine XS.ifNo X0.here hx rfl (hb hby d43_1) rfl ((if0 _ _).trans (teq hc1).2) ?_
    show Steps p.tables e below (s₁.setTop (mkF m 4 #[.val (.ref a1), .val (.int p2)] [])) _
    refine XS.aloadN X0.here hx rfl (hb hby d43_4) rfl rfl ?_
    show Steps p.tables e below (s₁.setTop (mkF m 5 #[.val (.ref a1), .val (.int p2)] [(.ref a1)])) _
    refine st4 _ ?_
    show Steps p.tables e below (T4.setTop (mkF m 8 #[.val (.ref a1), .val (.int p2)] [(.ref w3)])) _
    jvm_step X4.here [X4.here.top, hx, (hb hby d43_8), X4.method', Bd.returns, Value.isRef, FieldType.isReference]
    first | (intro acts; rw [hr _ acts rfl rfl rfl]) | rw [hr _ _ rfl rfl rfl]
    exact Steps.refl _
  · show Q43f Z a1 p2 w3 h0 n0 _ T4.heap _
    rw [e4]
    exact ⟨rfl, N0, rfl⟩
theorem d43_9 : decode jdk_44_method_5_code 9 = .ok (.iload_n 1, 1) := by decide +kernel
theorem d43_10 : decode jdk_44_method_5_code 10 = .ok (.iconst 1, 1) := by decide +kernel
theorem d43_11 : decode jdk_44_method_5_code 11 = .ok (.if_icmp .ne 18, 3) := by decide +kernel
theorem d43_14 : decode jdk_44_method_5_code 14 = .ok (.aload_n 0, 1) := by decide +kernel
theorem d43_15 : decode jdk_44_method_5_code 15 = .ok (.getfield 24, 3) := by decide +kernel
theorem d43_18 : decode jdk_44_method_5_code 18 = .ok (.getstatic 19, 3) := by decide +kernel
theorem d43_21 : decode jdk_44_method_5_code 21 = .ok (.if_acmp .eq 8, 3) := by decide +kernel
theorem d43_24 : decode jdk_44_method_5_code 24 = .ok (.aload_n 0, 1) := by decide +kernel
theorem d43_25 : decode jdk_44_method_5_code 25 = .ok (.getfield 24, 3) := by decide +kernel
theorem d43_28 : decode jdk_44_method_5_code 28 = .ok (.areturn, 1) := by decide +kernel
def Q43t (Z : State) (a1 : Addr) (p2 : Int32) (w3 : Addr) (w5 : Addr) (h0 : Heap) (n0 : Nat) (v : Option Value) (h : Heap) (L : List Loc) : Prop := v = some (.ref w3) ∧ Fr n0 L ∧ h = h0
set_option maxRecDepth 65536 in
set_option maxHeartbeats 40000000 in
theorem rm43t (l : Launch) (Z : State) (a0 : Array Value) (hw : ∀ d ∈ tables_1, d.before a0 Z = true) (ws : List Jvm.Cond) (a1 : Addr) (p2 : Int32) (w3 : Addr) (w5 : Addr) (h0 : Heap) (n0 : Nat) (Z0 : n0 ≤ h0.size) (F_e1_a1 : Fld Z h0 a1 "java/util/ImmutableCollections$List12" "e1" "Ljava/lang/Object;" (.ref w3)) (S_EMPTY : Sta Z h0 "java/util/ImmutableCollections" "EMPTY" "Ljava/lang/Object;" (.ref w5)) (hc1 : ¬ (p2 = (0 : Int32))) (hc11 : p2 = (1 : Int32)) (ha21 : ¬ (w3 = w5)) :
    MetFree l mN36 (head1 (Jvm.Cond.code mN36 jdk_44_method_5_code 2 (some (.object "java/lang/Object")) :: ws) ({ frames := 0, cells := 0, slots := 0, locals := 0 } : Room)) (fun a U => a = #[(.ref a1), (.int p2)] ∧ Z.Warmed39 U.vm ∧ U.heap = h0) (fun _ _ _ _ _ => True) (fun _ U o U' => ∃ v L, o = .returned v ∧ Q43t Z a1 p2 w3 w5 h0 n0 v U'.heap L ∧ FrameEnd U o U' L ({ frames := 0, cells := 0, slots := 0, locals := 0 } : Room).cells ({ frames := 0, cells := 0, slots := 0, locals := 0 } : Room).slots) := by
  refine MetFree.of_bodySF (plainFor_of_name pn_43) hisR ?_
  intro p e s m args below meth c s₁ Bd hml0 hP hK
  obtain ⟨rfl, hZ, hh⟩ := hP
  have hx := Bd.exec
  have hby := Bd.bytes
  have hml : c.maxLocals = 2 := hml0
  have hown : s.vm.findClass "java/util/ImmutableCollections$List12" = some m.cls := findClass_of_methodNamed Bd.named
  have hnm := (name_of_methodNamed Bd.named Bd.method).1
  have X0 : Stand p l e ({ frames := 0, cells := 0, slots := 0, locals := 0 } : Room) s m #[(.ref a1), (.int p2)] below meth c s₁ [] 0 0 := Stand.of_body Bd
  have e0 : s₁.heap = h0 := by rw [← hh, Bd.state]; rfl
  have N0 := Fr.nil n0
  have pre0 : ∀ t, Steps p.tables e below (s₁.setTop (mkF m 0 #[.val (.ref a1), .val (.int p2)] [])) t → Steps p.tables e below (s₁.setTop (entryFrame m #[(.ref a1), (.int p2)] 2)) t := fun t k => castTop (ef_43 m a1 p2) k
  obtain ⟨T4, X4, e4, st4⟩ := getF X0 hx hZ hown (host := "") (Or.inl (wd hw 281 rfl)) Via.refl e0 F_e1_a1 (g := (mkF m 15 #[.val (.ref a1), .val (.int p2)] [(.ref a1)])) rfl rfl (hb hby d43_15)
  obtain ⟨T6, X6, e6, st6⟩ := getS2 X4 hx hZ hown (Or.inr (wd hw 289 rfl)) Via.refl e4 S_EMPTY (g := (mkF m 18 #[.val (.ref a1), .val (.int p2)] [(.ref w3)])) rfl (hb hby d43_18)
  obtain ⟨T7, X7, e7, st7⟩ := getF X6 hx hZ hown (host := "") (Or.inl (wd hw 281 rfl)) Via.refl e6 F_e1_a1 (g := (mkF m 25 #[.val (.ref a1), .val (.int p2)] [(.ref a1)])) rfl rfl (hb hby d43_25)
  obtain ⟨fs, hr, hrun, hended, hW, hsame⟩ := X7.leave (v := some (.ref w3)) (fun h => by rw [Bd.returns] at h; cases h)
  refine ⟨_, _, pre0 _ ?_, hrun, hended, _, _, rfl, ?_, ⟨_, rfl⟩, hW, hsame.mono (by decide) (by decide)⟩
  · show Steps p.tables e below (s₁.setTop (mkF m 0 #[.val (.ref a1), .val (.int p2)] [])) _
    refine XS.iloadN X0.here hx rfl (hb hby d43_0) rfl ?_
    refine XS.ifYes X0.here hx rfl (pc0 := 1) (pc' := 9) rfl (hb hby d43_1) rfl ((if0 _ _).trans (feq hc1).2) (by decide) (by decide) ?_
    show Steps p.tables e below (s₁.setTop (mkF m 9 #[.val (.ref a1), .val (.int p2)] [])) _
    refine XS.iloadN X0.here hx rfl (hb hby d43_9) rfl ?_
    refine XS.iconst X0.here hx rfl (hb hby d43_10) ?_
    show Steps p.tables e below (s₁.setTop (mkF m 11 #[.val (.ref a1), .val (.int p2)] [(.int (1 : Int32)), (.int p2)])) _
    refine XS.icmpNo X0.here hx rfl (hb hby d43_11) rfl (teq hc11).2 ?_
    refine XS.aloadN X0.here hx rfl (hb hby d43_14) rfl rfl ?_
    show Steps p.tables e below (s₁.setTop (mkF m 15 #[.val (.ref a1), .val (.int p2)] [(.ref a1)])) _
    refine st4 _ ?_
    show Steps p.tables e below (T4.setTop (mkF m 18 #[.val (.ref a1), .val (.int p2)] [(.ref w3)])) _
    refine st6 _ ?_
    show Steps p.tables e below (T6.setTop (mkF m 21 #[.val (.ref a1), .val (.int p2)] [(.ref w5), (.ref w3)])) _
    refine Jvm.RoadKit.acmp (g := (mkF m 21 #[.val (.ref a1), .val (.int p2)] [(.ref w5), (.ref w3)])) X6 hx rfl rfl rfl (pc0 := 21) (pc' := 24) (same := false) rfl (hb hby d43_21) rfl (decide_eq_false fun q => ha21 (Value.ref.inj q)) (by decide) (by decide) ?_
    show Steps p.tables e below (T6.setTop (mkF m 24 #[.val (.ref a1), .val (.int p2)] [])) _
    refine XS.aloadN X6.here hx rfl (hb hby d43_24) rfl rfl ?_
    show Steps p.tables e below (T6.setTop (mkF m 25 #[.val (.ref a1), .val (.int p2)] [(.ref a1)])) _
    refine st7 _ ?_
    show Steps p.tables e below (T7.setTop (mkF m 28 #[.val (.ref a1), .val (.int p2)] [(.ref w3)])) _
    jvm_step X7.here [X7.here.top, hx, (hb hby d43_28), X7.method', Bd.returns, Value.isRef, FieldType.isReference]
    first | (intro acts; rw [hr _ acts rfl rfl rfl]) | rw [hr _ _ rfl rfl rfl]
    exact Steps.refl _
  · show Q43t Z a1 p2 w3 w5 h0 n0 _ T7.heap _
    rw [e7]
    exact ⟨rfl, N0, rfl⟩
theorem d46_0 : decode jdk_45_method_4_code 0 = .ok (.aload_n 0, 1) := by decide +kernel
theorem d46_1 : decode jdk_45_method_4_code 1 = .ok (.getfield 7, 3) := by decide +kernel
theorem d46_4 : decode jdk_45_method_4_code 4 = .ok (.iload_n 1, 1) := by decide +kernel
theorem d46_5 : decode jdk_45_method_4_code 5 = .ok (.aaload, 1) := by decide +kernel
theorem d46_6 : decode jdk_45_method_4_code 6 = .ok (.areturn, 1) := by decide +kernel
theorem pn_46 : plainName "java/util/ImmutableCollections$ListN" = true := by first | (simp [plainName, overriddenIn]; done) | decide +kernel
theorem ef_46 (m : MethodId) (x0 : Addr) (x1 : Int32) : entryFrame m #[(.ref x0), (.int x1)] 2 = mkF m 0 #[.val (.ref x0), .val (.int x1)] [] := by first | (simp [entryFrame, mkF, argsToLocals, Value.category]; done) | rfl
def Q46 (Z : State) (a1 : Addr) (p2 : Int32) (w3 : Addr) (w5 : Addr) (cl_w3 : Cell) (h0 : Heap) (n0 : Nat) (v : Option Value) (h : Heap) (L : List Loc) : Prop := v = some (.ref w5) ∧ Fr n0 L ∧ h = h0
set_option maxRecDepth 65536 in
set_option maxHeartbeats 40000000 in
theorem rm46 (l : Launch) (Z : State) (a0 : Array Value) (hw : ∀ d ∈ tables_1, d.before a0 Z = true) (ws : List Jvm.Cond) (a1 : Addr) (p2 : Int32) (w3 : Addr) (w5 : Addr) (cl_w3 : Cell) (h0 : Heap) (n0 : Nat) (Z0 : n0 ≤ h0.size) (F_elements_a1 : Fld Z h0 a1 "java/util/ImmutableCollections$ListN" "elements" "[Ljava/lang/Object;" (.ref w3)) (Ar_w3 : Arr Z h0 w3 cl_w3 (.object "java/lang/Object")) (hin5 : ¬ (p2 < 0 ∨ cl_w3.slots.size ≤ (p2).toNatClampNeg)) (hat5 : cl_w3.slots[(p2).toNatClampNeg]? = some (.ref w5)) :
    MetFree l mN39 (head1 (Jvm.Cond.code mN39 jdk_45_method_4_code 2 (some (.object "java/lang/Object")) :: ws) ({ frames := 0, cells := 0, slots := 0, locals := 0 } : Room)) (fun a U => a = #[(.ref a1), (.int p2)] ∧ Z.Warmed39 U.vm ∧ U.heap = h0) (fun _ _ _ _ _ => True) (fun _ U o U' => ∃ v L, o = .returned v ∧ Q46 Z a1 p2 w3 w5 cl_w3 h0 n0 v U'.heap L ∧ FrameEnd U o U' L ({ frames := 0, cells := 0, slots := 0, locals := 0 } : Room).cells ({ frames := 0, cells := 0, slots := 0, locals := 0 } : Room).slots) := by
  refine MetFree.of_bodySF (plainFor_of_name pn_46) hisR ?_
  intro p e s m args below meth c s₁ Bd hml0 hP hK
  obtain ⟨rfl, hZ, hh⟩ := hP
  have hx := Bd.exec
  have hby := Bd.bytes
  have hml : c.maxLocals = 2 := hml0
  have hown : s.vm.findClass "java/util/ImmutableCollections$ListN" = some m.cls := findClass_of_methodNamed Bd.named
  have hnm := (name_of_methodNamed Bd.named Bd.method).1
  have X0 : Stand p l e ({ frames := 0, cells := 0, slots := 0, locals := 0 } : Room) s m #[(.ref a1), (.int p2)] below meth c s₁ [] 0 0 := Stand.of_body Bd
  have e0 : s₁.heap = h0 := by rw [← hh, Bd.state]; rfl
  have N0 := Fr.nil n0
  have pre0 : ∀ t, Steps p.tables e below (s₁.setTop (mkF m 0 #[.val (.ref a1), .val (.int p2)] [])) t → Steps p.tables e below (s₁.setTop (entryFrame m #[(.ref a1), (.int p2)] 2)) t := fun t k => castTop (ef_46 m a1 p2) k
  obtain ⟨T4, X4, e4, st4⟩ := getF X0 hx hZ hown (host := "") (Or.inl (wd hw 161 rfl)) Via.refl e0 F_elements_a1 (g := (mkF m 1 #[.val (.ref a1), .val (.int p2)] [(.ref a1)])) rfl rfl (hb hby d46_1)
  obtain ⟨fs, hr, hrun, hended, hW, hsame⟩ := X4.leave (v := some (.ref w5)) (fun h => by rw [Bd.returns] at h; cases h)
  refine ⟨_, _, pre0 _ ?_, hrun, hended, _, _, rfl, ?_, ⟨_, rfl⟩, hW, hsame.mono (by decide) (by decide)⟩
  · show Steps p.tables e below (s₁.setTop (mkF m 0 #[.val (.ref a1), .val (.int p2)] [])) _
    refine XS.aloadN X0.here hx rfl (hb hby d46_0) rfl rfl ?_
    show Steps p.tables e below (s₁.setTop (mkF m 1 #[.val (.ref a1), .val (.int p2)] [(.ref a1)])) _
    refine st4 _ ?_
    show Steps p.tables e below (T4.setTop (mkF m 4 #[.val (.ref a1), .val (.int p2)] [(.ref w3)])) _
    refine XS.iloadN X4.here hx rfl (hb hby d46_4) rfl ?_
    show Steps p.tables e below (T4.setTop (mkF m 5 #[.val (.ref a1), .val (.int p2)] [(.int p2), (.ref w3)])) _
    refine X4.aaload hx (j := p2) (v := (.ref w5)) (by rw [e4]; exact Ar_w3.1) (State.isArrayOf_alike hZ.alike Ar_w3.2.1) rfl Ar_w3.2.2 hin5 hat5 (g := (mkF m 5 #[.val (.ref a1), .val (.int p2)] [(.int p2), (.ref w3)])) rfl rfl (hb hby d46_5) _ ?_
    show Steps p.tables e below (T4.setTop (mkF m 6 #[.val (.ref a1), .val (.int p2)] [(.ref w5)])) _
    jvm_step X4.here [X4.here.top, hx, (hb hby d46_6), X4.method', Bd.returns, Value.isRef, FieldType.isReference]
    first | (intro acts; rw [hr _ acts rfl rfl rfl]) | rw [hr _ _ rfl rfl rfl]
    exact Steps.refl _
  · show Q46 Z a1 p2 w3 w5 cl_w3 h0 n0 _ T4.heap _
    rw [e4]
    exact ⟨rfl, N0, rfl⟩
theorem d19_0 : decode prog_18_method_6_code 0 = .ok (.aload_n 0, 1) := by decide +kernel
theorem d19_1 : decode prog_18_method_6_code 1 = .ok (.getfield 25, 3) := by decide +kernel
theorem d19_4 : decode prog_18_method_6_code 4 = .ok (.areturn, 1) := by decide +kernel
theorem pn_19 : plainName "com/example/tenacious_courier/tenaciouscourier/model/Endpoint" = true := by first | (simp [plainName, overriddenIn]; done) | decide +kernel
theorem ef_19 (m : MethodId) (x0 : Addr) : entryFrame m #[(.ref x0)] 1 = mkF m 0 #[.val (.ref x0)] [] := by first | (simp [entryFrame, mkF, argsToLocals, Value.category]; done) | rfl
def Q19 (Z : State) (a1 : Addr) (w2 : Addr) (h0 : Heap) (n0 : Nat) (v : Option Value) (h : Heap) (L : List Loc) : Prop := v = some (.ref w2) ∧ Fr n0 L ∧ h = h0
set_option maxRecDepth 65536 in
set_option maxHeartbeats 40000000 in
theorem rm19 (l : Launch) (Z : State) (a0 : Array Value) (hw : ∀ d ∈ tables_1, d.before a0 Z = true) (ws : List Jvm.Cond) (a1 : Addr) (w2 : Addr) (h0 : Heap) (n0 : Nat) (Z0 : n0 ≤ h0.size) (F_eventTypes_a1 : Fld Z h0 a1 "com/example/tenacious_courier/tenaciouscourier/model/Endpoint" "eventTypes" "Ljava/util/List;" (.ref w2)) :
    MetFree l mN5 (head1 (Jvm.Cond.code mN5 prog_18_method_6_code 1 (some (.object "java/util/List")) :: ws) ({ frames := 0, cells := 0, slots := 0, locals := 0 } : Room)) (fun a U => a = #[(.ref a1)] ∧ Z.Warmed39 U.vm ∧ U.heap = h0) (fun _ _ _ _ _ => True) (fun _ U o U' => ∃ v L, o = .returned v ∧ Q19 Z a1 w2 h0 n0 v U'.heap L ∧ FrameEnd U o U' L ({ frames := 0, cells := 0, slots := 0, locals := 0 } : Room).cells ({ frames := 0, cells := 0, slots := 0, locals := 0 } : Room).slots) := by
  refine MetFree.of_bodySF (plainFor_of_name pn_19) hisR ?_
  intro p e s m args below meth c s₁ Bd hml0 hP hK
  obtain ⟨rfl, hZ, hh⟩ := hP
  have hx := Bd.exec
  have hby := Bd.bytes
  have hml : c.maxLocals = 1 := hml0
  have hown : s.vm.findClass "com/example/tenacious_courier/tenaciouscourier/model/Endpoint" = some m.cls := findClass_of_methodNamed Bd.named
  have hnm := (name_of_methodNamed Bd.named Bd.method).1
  have X0 : Stand p l e ({ frames := 0, cells := 0, slots := 0, locals := 0 } : Room) s m #[(.ref a1)] below meth c s₁ [] 0 0 := Stand.of_body Bd
  have e0 : s₁.heap = h0 := by rw [← hh, Bd.state]; rfl
  have N0 := Fr.nil n0
  have pre0 : ∀ t, Steps p.tables e below (s₁.setTop (mkF m 0 #[.val (.ref a1)] [])) t → Steps p.tables e below (s₁.setTop (entryFrame m #[(.ref a1)] 1)) t := fun t k => castTop (ef_19 m a1) k
  obtain ⟨T3, X3, e3, st3⟩ := getF X0 hx hZ hown (host := "") (Or.inl (wd hw 101 rfl)) Via.refl e0 F_eventTypes_a1 (g := (mkF m 1 #[.val (.ref a1)] [(.ref a1)])) rfl rfl (hb hby d19_1)
  obtain ⟨fs, hr, hrun, hended, hW, hsame⟩ := X3.leave (v := some (.ref w2)) (fun h => by rw [Bd.returns] at h; cases h)
  refine ⟨_, _, pre0 _ ?_, hrun, hended, _, _, rfl, ?_, ⟨_, rfl⟩, hW, hsame.mono (by decide) (by decide)⟩
  · show Steps p.tables e below (s₁.setTop (mkF m 0 #[.val (.ref a1)] [])) _
    refine XS.aloadN X0.here hx rfl (hb hby d19_0) rfl rfl ?_
    show Steps p.tables e below (s₁.setTop (mkF m 1 #[.val (.ref a1)] [(.ref a1)])) _
    refine st3 _ ?_
    show Steps p.tables e below (T3.setTop (mkF m 4 #[.val (.ref a1)] [(.ref w2)])) _
    jvm_step X3.here [X3.here.top, hx, (hb hby d19_4), X3.method', Bd.returns, Value.isRef, FieldType.isReference]
    first | (intro acts; rw [hr _ acts rfl rfl rfl]) | rw [hr _ _ rfl rfl rfl]
    exact Steps.refl _
  · show Q19 Z a1 w2 h0 n0 _ T3.heap _
    rw [e3]
    exact ⟨rfl, N0, rfl⟩
theorem d21_0 : decode prog_18_method_3_code 0 = .ok (.aload_n 0, 1) := by decide +kernel
theorem d21_1 : decode prog_18_method_3_code 1 = .ok (.getfield 7, 3) := by decide +kernel
theorem d21_4 : decode prog_18_method_3_code 4 = .ok (.areturn, 1) := by decide +kernel
theorem pn_21 : plainName "com/example/tenacious_courier/tenaciouscourier/model/Endpoint" = true := by first | (simp [plainName, overriddenIn]; done) | decide +kernel
theorem ef_21 (m : MethodId) (x0 : Addr) : entryFrame m #[(.ref x0)] 1 = mkF m 0 #[.val (.ref x0)] [] := by first | (simp [entryFrame, mkF, argsToLocals, Value.category]; done) | rfl
def Q21 (Z : State) (a1 : Addr) (w2 : Addr) (h0 : Heap) (n0 : Nat) (v : Option Value) (h : Heap) (L : List Loc) : Prop := v = some (.ref w2) ∧ Fr n0 L ∧ h = h0
set_option maxRecDepth 65536 in
set_option maxHeartbeats 40000000 in
theorem rm21 (l : Launch) (Z : State) (a0 : Array Value) (hw : ∀ d ∈ tables_1, d.before a0 Z = true) (ws : List Jvm.Cond) (a1 : Addr) (w2 : Addr) (h0 : Heap) (n0 : Nat) (Z0 : n0 ≤ h0.size) (F_id_a1 : Fld Z h0 a1 "com/example/tenacious_courier/tenaciouscourier/model/Endpoint" "id" "Ljava/lang/String;" (.ref w2)) :
    MetFree l mN6 (head1 (Jvm.Cond.code mN6 prog_18_method_3_code 1 (some (.object "java/lang/String")) :: ws) ({ frames := 0, cells := 0, slots := 0, locals := 0 } : Room)) (fun a U => a = #[(.ref a1)] ∧ Z.Warmed39 U.vm ∧ U.heap = h0) (fun _ _ _ _ _ => True) (fun _ U o U' => ∃ v L, o = .returned v ∧ Q21 Z a1 w2 h0 n0 v U'.heap L ∧ FrameEnd U o U' L ({ frames := 0, cells := 0, slots := 0, locals := 0 } : Room).cells ({ frames := 0, cells := 0, slots := 0, locals := 0 } : Room).slots) := by
  refine MetFree.of_bodySF (plainFor_of_name pn_21) hisR ?_
  intro p e s m args below meth c s₁ Bd hml0 hP hK
  obtain ⟨rfl, hZ, hh⟩ := hP
  have hx := Bd.exec
  have hby := Bd.bytes
  have hml : c.maxLocals = 1 := hml0
  have hown : s.vm.findClass "com/example/tenacious_courier/tenaciouscourier/model/Endpoint" = some m.cls := findClass_of_methodNamed Bd.named
  have hnm := (name_of_methodNamed Bd.named Bd.method).1
  have X0 : Stand p l e ({ frames := 0, cells := 0, slots := 0, locals := 0 } : Room) s m #[(.ref a1)] below meth c s₁ [] 0 0 := Stand.of_body Bd
  have e0 : s₁.heap = h0 := by rw [← hh, Bd.state]; rfl
  have N0 := Fr.nil n0
  have pre0 : ∀ t, Steps p.tables e below (s₁.setTop (mkF m 0 #[.val (.ref a1)] [])) t → Steps p.tables e below (s₁.setTop (entryFrame m #[(.ref a1)] 1)) t := fun t k => castTop (ef_21 m a1) k
  obtain ⟨T3, X3, e3, st3⟩ := getF X0 hx hZ hown (host := "") (Or.inl (wd hw 66 rfl)) Via.refl e0 F_id_a1 (g := (mkF m 1 #[.val (.ref a1)] [(.ref a1)])) rfl rfl (hb hby d21_1)
  obtain ⟨fs, hr, hrun, hended, hW, hsame⟩ := X3.leave (v := some (.ref w2)) (fun h => by rw [Bd.returns] at h; cases h)
  refine ⟨_, _, pre0 _ ?_, hrun, hended, _, _, rfl, ?_, ⟨_, rfl⟩, hW, hsame.mono (by decide) (by decide)⟩
  · show Steps p.tables e below (s₁.setTop (mkF m 0 #[.val (.ref a1)] [])) _
    refine XS.aloadN X0.here hx rfl (hb hby d21_0) rfl rfl ?_
    show Steps p.tables e below (s₁.setTop (mkF m 1 #[.val (.ref a1)] [(.ref a1)])) _
    refine st3 _ ?_
    show Steps p.tables e below (T3.setTop (mkF m 4 #[.val (.ref a1)] [(.ref w2)])) _
    jvm_step X3.here [X3.here.top, hx, (hb hby d21_4), X3.method', Bd.returns, Value.isRef, FieldType.isReference]
    first | (intro acts; rw [hr _ acts rfl rfl rfl]) | rw [hr _ _ rfl rfl rfl]
    exact Steps.refl _
  · show Q21 Z a1 w2 h0 n0 _ T3.heap _
    rw [e3]
    exact ⟨rfl, N0, rfl⟩
theorem d23_0 : decode prog_18_method_4_code 0 = .ok (.aload_n 0, 1) := by decide +kernel
theorem d23_1 : decode prog_18_method_4_code 1 = .ok (.getfield 13, 3) := by decide +kernel
theorem d23_4 : decode prog_18_method_4_code 4 = .ok (.areturn, 1) := by decide +kernel
theorem pn_23 : plainName "com/example/tenacious_courier/tenaciouscourier/model/Endpoint" = true := by first | (simp [plainName, overriddenIn]; done) | decide +kernel
theorem ef_23 (m : MethodId) (x0 : Addr) : entryFrame m #[(.ref x0)] 1 = mkF m 0 #[.val (.ref x0)] [] := by first | (simp [entryFrame, mkF, argsToLocals, Value.category]; done) | rfl
def Q23 (Z : State) (a1 : Addr) (w2 : Addr) (h0 : Heap) (n0 : Nat) (v : Option Value) (h : Heap) (L : List Loc) : Prop := v = some (.ref w2) ∧ Fr n0 L ∧ h = h0
set_option maxRecDepth 65536 in
set_option maxHeartbeats 40000000 in
theorem rm23 (l : Launch) (Z : State) (a0 : Array Value) (hw : ∀ d ∈ tables_1, d.before a0 Z = true) (ws : List Jvm.Cond) (a1 : Addr) (w2 : Addr) (h0 : Heap) (n0 : Nat) (Z0 : n0 ≤ h0.size) (F_tenant_a1 : Fld Z h0 a1 "com/example/tenacious_courier/tenaciouscourier/model/Endpoint" "tenant" "Ljava/lang/String;" (.ref w2)) :
    MetFree l mN9 (head1 (Jvm.Cond.code mN9 prog_18_method_4_code 1 (some (.object "java/lang/String")) :: ws) ({ frames := 0, cells := 0, slots := 0, locals := 0 } : Room)) (fun a U => a = #[(.ref a1)] ∧ Z.Warmed39 U.vm ∧ U.heap = h0) (fun _ _ _ _ _ => True) (fun _ U o U' => ∃ v L, o = .returned v ∧ Q23 Z a1 w2 h0 n0 v U'.heap L ∧ FrameEnd U o U' L ({ frames := 0, cells := 0, slots := 0, locals := 0 } : Room).cells ({ frames := 0, cells := 0, slots := 0, locals := 0 } : Room).slots) := by
  refine MetFree.of_bodySF (plainFor_of_name pn_23) hisR ?_
  intro p e s m args below meth c s₁ Bd hml0 hP hK
  obtain ⟨rfl, hZ, hh⟩ := hP
  have hx := Bd.exec
  have hby := Bd.bytes
  have hml : c.maxLocals = 1 := hml0
  have hown : s.vm.findClass "com/example/tenacious_courier/tenaciouscourier/model/Endpoint" = some m.cls := findClass_of_methodNamed Bd.named
  have hnm := (name_of_methodNamed Bd.named Bd.method).1
  have X0 : Stand p l e ({ frames := 0, cells := 0, slots := 0, locals := 0 } : Room) s m #[(.ref a1)] below meth c s₁ [] 0 0 := Stand.of_body Bd
  have e0 : s₁.heap = h0 := by rw [← hh, Bd.state]; rfl
  have N0 := Fr.nil n0
  have pre0 : ∀ t, Steps p.tables e below (s₁.setTop (mkF m 0 #[.val (.ref a1)] [])) t → Steps p.tables e below (s₁.setTop (entryFrame m #[(.ref a1)] 1)) t := fun t k => castTop (ef_23 m a1) k
  obtain ⟨T3, X3, e3, st3⟩ := getF X0 hx hZ hown (host := "") (Or.inl (wd hw 68 rfl)) Via.refl e0 F_tenant_a1 (g := (mkF m 1 #[.val (.ref a1)] [(.ref a1)])) rfl rfl (hb hby d23_1)
  obtain ⟨fs, hr, hrun, hended, hW, hsame⟩ := X3.leave (v := some (.ref w2)) (fun h => by rw [Bd.returns] at h; cases h)
  refine ⟨_, _, pre0 _ ?_, hrun, hended, _, _, rfl, ?_, ⟨_, rfl⟩, hW, hsame.mono (by decide) (by decide)⟩
  · show Steps p.tables e below (s₁.setTop (mkF m 0 #[.val (.ref a1)] [])) _
    refine XS.aloadN X0.here hx rfl (hb hby d23_0) rfl rfl ?_
    show Steps p.tables e below (s₁.setTop (mkF m 1 #[.val (.ref a1)] [(.ref a1)])) _
    refine st3 _ ?_
    show Steps p.tables e below (T3.setTop (mkF m 4 #[.val (.ref a1)] [(.ref w2)])) _
    jvm_step X3.here [X3.here.top, hx, (hb hby d23_4), X3.method', Bd.returns, Value.isRef, FieldType.isReference]
    first | (intro acts; rw [hr _ acts rfl rfl rfl]) | rw [hr _ _ rfl rfl rfl]
    exact Steps.refl _
  · show Q23 Z a1 w2 h0 n0 _ T3.heap _
    rw [e3]
    exact ⟨rfl, N0, rfl⟩
theorem d24_0 : decode prog_18_method_5_code 0 = .ok (.aload_n 0, 1) := by decide +kernel
theorem d24_1 : decode prog_18_method_5_code 1 = .ok (.getfield 16, 3) := by decide +kernel
theorem d24_4 : decode prog_18_method_5_code 4 = .ok (.areturn, 1) := by decide +kernel
theorem pn_24 : plainName "com/example/tenacious_courier/tenaciouscourier/model/Endpoint" = true := by first | (simp [plainName, overriddenIn]; done) | decide +kernel
theorem ef_24 (m : MethodId) (x0 : Addr) : entryFrame m #[(.ref x0)] 1 = mkF m 0 #[.val (.ref x0)] [] := by first | (simp [entryFrame, mkF, argsToLocals, Value.category]; done) | rfl
def Q24 (Z : State) (a1 : Addr) (w2 : Addr) (h0 : Heap) (n0 : Nat) (v : Option Value) (h : Heap) (L : List Loc) : Prop := v = some (.ref w2) ∧ Fr n0 L ∧ h = h0
set_option maxRecDepth 65536 in
set_option maxHeartbeats 40000000 in
theorem rm24 (l : Launch) (Z : State) (a0 : Array Value) (hw : ∀ d ∈ tables_1, d.before a0 Z = true) (ws : List Jvm.Cond) (a1 : Addr) (w2 : Addr) (h0 : Heap) (n0 : Nat) (Z0 : n0 ≤ h0.size) (F_url_a1 : Fld Z h0 a1 "com/example/tenacious_courier/tenaciouscourier/model/Endpoint" "url" "Ljava/lang/String;" (.ref w2)) :
    MetFree l mN10 (head1 (Jvm.Cond.code mN10 prog_18_method_5_code 1 (some (.object "java/lang/String")) :: ws) ({ frames := 0, cells := 0, slots := 0, locals := 0 } : Room)) (fun a U => a = #[(.ref a1)] ∧ Z.Warmed39 U.vm ∧ U.heap = h0) (fun _ _ _ _ _ => True) (fun _ U o U' => ∃ v L, o = .returned v ∧ Q24 Z a1 w2 h0 n0 v U'.heap L ∧ FrameEnd U o U' L ({ frames := 0, cells := 0, slots := 0, locals := 0 } : Room).cells ({ frames := 0, cells := 0, slots := 0, locals := 0 } : Room).slots) := by
  refine MetFree.of_bodySF (plainFor_of_name pn_24) hisR ?_
  intro p e s m args below meth c s₁ Bd hml0 hP hK
  obtain ⟨rfl, hZ, hh⟩ := hP
  have hx := Bd.exec
  have hby := Bd.bytes
  have hml : c.maxLocals = 1 := hml0
  have hown : s.vm.findClass "com/example/tenacious_courier/tenaciouscourier/model/Endpoint" = some m.cls := findClass_of_methodNamed Bd.named
  have hnm := (name_of_methodNamed Bd.named Bd.method).1
  have X0 : Stand p l e ({ frames := 0, cells := 0, slots := 0, locals := 0 } : Room) s m #[(.ref a1)] below meth c s₁ [] 0 0 := Stand.of_body Bd
  have e0 : s₁.heap = h0 := by rw [← hh, Bd.state]; rfl
  have N0 := Fr.nil n0
  have pre0 : ∀ t, Steps p.tables e below (s₁.setTop (mkF m 0 #[.val (.ref a1)] [])) t → Steps p.tables e below (s₁.setTop (entryFrame m #[(.ref a1)] 1)) t := fun t k => castTop (ef_24 m a1) k
  obtain ⟨T3, X3, e3, st3⟩ := getF X0 hx hZ hown (host := "") (Or.inl (wd hw 70 rfl)) Via.refl e0 F_url_a1 (g := (mkF m 1 #[.val (.ref a1)] [(.ref a1)])) rfl rfl (hb hby d24_1)
  obtain ⟨fs, hr, hrun, hended, hW, hsame⟩ := X3.leave (v := some (.ref w2)) (fun h => by rw [Bd.returns] at h; cases h)
  refine ⟨_, _, pre0 _ ?_, hrun, hended, _, _, rfl, ?_, ⟨_, rfl⟩, hW, hsame.mono (by decide) (by decide)⟩
  · show Steps p.tables e below (s₁.setTop (mkF m 0 #[.val (.ref a1)] [])) _
    refine XS.aloadN X0.here hx rfl (hb hby d24_0) rfl rfl ?_
    show Steps p.tables e below (s₁.setTop (mkF m 1 #[.val (.ref a1)] [(.ref a1)])) _
    refine st3 _ ?_
    show Steps p.tables e below (T3.setTop (mkF m 4 #[.val (.ref a1)] [(.ref w2)])) _
    jvm_step X3.here [X3.here.top, hx, (hb hby d24_4), X3.method', Bd.returns, Value.isRef, FieldType.isReference]
    first | (intro acts; rw [hr _ acts rfl rfl rfl]) | rw [hr _ _ rfl rfl rfl]
    exact Steps.refl _
  · show Q24 Z a1 w2 h0 n0 _ T3.heap _
    rw [e3]
    exact ⟨rfl, N0, rfl⟩
theorem d25_0 : decode prog_18_method_7_code 0 = .ok (.aload_n 0, 1) := by decide +kernel
theorem d25_1 : decode prog_18_method_7_code 1 = .ok (.getfield 29, 3) := by decide +kernel
theorem d25_4 : decode prog_18_method_7_code 4 = .ok (.areturn, 1) := by decide +kernel
theorem pn_25 : plainName "com/example/tenacious_courier/tenaciouscourier/model/Endpoint" = true := by first | (simp [plainName, overriddenIn]; done) | decide +kernel
theorem ef_25 (m : MethodId) (x0 : Addr) : entryFrame m #[(.ref x0)] 1 = mkF m 0 #[.val (.ref x0)] [] := by first | (simp [entryFrame, mkF, argsToLocals, Value.category]; done) | rfl
def Q25 (Z : State) (a1 : Addr) (w2 : Addr) (h0 : Heap) (n0 : Nat) (v : Option Value) (h : Heap) (L : List Loc) : Prop := v = some (.ref w2) ∧ Fr n0 L ∧ h = h0
set_option maxRecDepth 65536 in
set_option maxHeartbeats 40000000 in
theorem rm25 (l : Launch) (Z : State) (a0 : Array Value) (hw : ∀ d ∈ tables_1, d.before a0 Z = true) (ws : List Jvm.Cond) (a1 : Addr) (w2 : Addr) (h0 : Heap) (n0 : Nat) (Z0 : n0 ≤ h0.size) (F_status_a1 : Fld Z h0 a1 "com/example/tenacious_courier/tenaciouscourier/model/Endpoint" "status" "Lcom/example/tenacious_courier/tenaciouscourier/model/EndpointStatus;" (.ref w2)) :
    MetFree l mN8 (head1 (Jvm.Cond.code mN8 prog_18_method_7_code 1 (some (.object "com/example/tenacious_courier/tenaciouscourier/model/EndpointStatus")) :: ws) ({ frames := 0, cells := 0, slots := 0, locals := 0 } : Room)) (fun a U => a = #[(.ref a1)] ∧ Z.Warmed39 U.vm ∧ U.heap = h0) (fun _ _ _ _ _ => True) (fun _ U o U' => ∃ v L, o = .returned v ∧ Q25 Z a1 w2 h0 n0 v U'.heap L ∧ FrameEnd U o U' L ({ frames := 0, cells := 0, slots := 0, locals := 0 } : Room).cells ({ frames := 0, cells := 0, slots := 0, locals := 0 } : Room).slots) := by
  refine MetFree.of_bodySF (plainFor_of_name pn_25) hisR ?_
  intro p e s m args below meth c s₁ Bd hml0 hP hK
  obtain ⟨rfl, hZ, hh⟩ := hP
  have hx := Bd.exec
  have hby := Bd.bytes
  have hml : c.maxLocals = 1 := hml0
  have hown : s.vm.findClass "com/example/tenacious_courier/tenaciouscourier/model/Endpoint" = some m.cls := findClass_of_methodNamed Bd.named
  have hnm := (name_of_methodNamed Bd.named Bd.method).1
  have X0 : Stand p l e ({ frames := 0, cells := 0, slots := 0, locals := 0 } : Room) s m #[(.ref a1)] below meth c s₁ [] 0 0 := Stand.of_body Bd
  have e0 : s₁.heap = h0 := by rw [← hh, Bd.state]; rfl
  have N0 := Fr.nil n0
  have pre0 : ∀ t, Steps p.tables e below (s₁.setTop (mkF m 0 #[.val (.ref a1)] [])) t → Steps p.tables e below (s₁.setTop (entryFrame m #[(.ref a1)] 1)) t := fun t k => castTop (ef_25 m a1) k
  obtain ⟨T3, X3, e3, st3⟩ := getF X0 hx hZ hown (host := "") (Or.inl (wd hw 103 rfl)) Via.refl e0 F_status_a1 (g := (mkF m 1 #[.val (.ref a1)] [(.ref a1)])) rfl rfl (hb hby d25_1)
  obtain ⟨fs, hr, hrun, hended, hW, hsame⟩ := X3.leave (v := some (.ref w2)) (fun h => by rw [Bd.returns] at h; cases h)
  refine ⟨_, _, pre0 _ ?_, hrun, hended, _, _, rfl, ?_, ⟨_, rfl⟩, hW, hsame.mono (by decide) (by decide)⟩
  · show Steps p.tables e below (s₁.setTop (mkF m 0 #[.val (.ref a1)] [])) _
    refine XS.aloadN X0.here hx rfl (hb hby d25_0) rfl rfl ?_
    show Steps p.tables e below (s₁.setTop (mkF m 1 #[.val (.ref a1)] [(.ref a1)])) _
    refine st3 _ ?_
    show Steps p.tables e below (T3.setTop (mkF m 4 #[.val (.ref a1)] [(.ref w2)])) _
    jvm_step X3.here [X3.here.top, hx, (hb hby d25_4), X3.method', Bd.returns, Value.isRef, FieldType.isReference]
    first | (intro acts; rw [hr _ acts rfl rfl rfl]) | rw [hr _ _ rfl rfl rfl]
    exact Steps.refl _
  · show Q25 Z a1 w2 h0 n0 _ T3.heap _
    rw [e3]
    exact ⟨rfl, N0, rfl⟩
theorem d28_0 : decode prog_18_method_10_code 0 = .ok (.aload_n 0, 1) := by decide +kernel
theorem d28_1 : decode prog_18_method_10_code 1 = .ok (.getfield 41, 3) := by decide +kernel
theorem d28_4 : decode prog_18_method_10_code 4 = .ok (.areturn, 1) := by decide +kernel
theorem pn_28 : plainName "com/example/tenacious_courier/tenaciouscourier/model/Endpoint" = true := by first | (simp [plainName, overriddenIn]; done) | decide +kernel
theorem ef_28 (m : MethodId) (x0 : Addr) : entryFrame m #[(.ref x0)] 1 = mkF m 0 #[.val (.ref x0)] [] := by first | (simp [entryFrame, mkF, argsToLocals, Value.category]; done) | rfl
def Q28 (Z : State) (a1 : Addr) (w2 : Addr) (h0 : Heap) (n0 : Nat) (v : Option Value) (h : Heap) (L : List Loc) : Prop := v = some (.ref w2) ∧ Fr n0 L ∧ h = h0
set_option maxRecDepth 65536 in
set_option maxHeartbeats 40000000 in
theorem rm28 (l : Launch) (Z : State) (a0 : Array Value) (hw : ∀ d ∈ tables_1, d.before a0 Z = true) (ws : List Jvm.Cond) (a1 : Addr) (w2 : Addr) (h0 : Heap) (n0 : Nat) (Z0 : n0 ≤ h0.size) (F_breaker_a1 : Fld Z h0 a1 "com/example/tenacious_courier/tenaciouscourier/model/Endpoint" "breaker" "Lcom/example/tenacious_courier/tenaciouscourier/model/BreakerState;" (.ref w2)) :
    MetFree l mN1 (head1 (Jvm.Cond.code mN1 prog_18_method_10_code 1 (some (.object "com/example/tenacious_courier/tenaciouscourier/model/BreakerState")) :: ws) ({ frames := 0, cells := 0, slots := 0, locals := 0 } : Room)) (fun a U => a = #[(.ref a1)] ∧ Z.Warmed39 U.vm ∧ U.heap = h0) (fun _ _ _ _ _ => True) (fun _ U o U' => ∃ v L, o = .returned v ∧ Q28 Z a1 w2 h0 n0 v U'.heap L ∧ FrameEnd U o U' L ({ frames := 0, cells := 0, slots := 0, locals := 0 } : Room).cells ({ frames := 0, cells := 0, slots := 0, locals := 0 } : Room).slots) := by
  refine MetFree.of_bodySF (plainFor_of_name pn_28) hisR ?_
  intro p e s m args below meth c s₁ Bd hml0 hP hK
  obtain ⟨rfl, hZ, hh⟩ := hP
  have hx := Bd.exec
  have hby := Bd.bytes
  have hml : c.maxLocals = 1 := hml0
  have hown : s.vm.findClass "com/example/tenacious_courier/tenaciouscourier/model/Endpoint" = some m.cls := findClass_of_methodNamed Bd.named
  have hnm := (name_of_methodNamed Bd.named Bd.method).1
  have X0 : Stand p l e ({ frames := 0, cells := 0, slots := 0, locals := 0 } : Room) s m #[(.ref a1)] below meth c s₁ [] 0 0 := Stand.of_body Bd
  have e0 : s₁.heap = h0 := by rw [← hh, Bd.state]; rfl
  have N0 := Fr.nil n0
  have pre0 : ∀ t, Steps p.tables e below (s₁.setTop (mkF m 0 #[.val (.ref a1)] [])) t → Steps p.tables e below (s₁.setTop (entryFrame m #[(.ref a1)] 1)) t := fun t k => castTop (ef_28 m a1) k
  obtain ⟨T3, X3, e3, st3⟩ := getF X0 hx hZ hown (host := "") (Or.inl (wd hw 109 rfl)) Via.refl e0 F_breaker_a1 (g := (mkF m 1 #[.val (.ref a1)] [(.ref a1)])) rfl rfl (hb hby d28_1)
  obtain ⟨fs, hr, hrun, hended, hW, hsame⟩ := X3.leave (v := some (.ref w2)) (fun h => by rw [Bd.returns] at h; cases h)
  refine ⟨_, _, pre0 _ ?_, hrun, hended, _, _, rfl, ?_, ⟨_, rfl⟩, hW, hsame.mono (by decide) (by decide)⟩
  · show Steps p.tables e below (s₁.setTop (mkF m 0 #[.val (.ref a1)] [])) _
    refine XS.aloadN X0.here hx rfl (hb hby d28_0) rfl rfl ?_
    show Steps p.tables e below (s₁.setTop (mkF m 1 #[.val (.ref a1)] [(.ref a1)])) _
    refine st3 _ ?_
    show Steps p.tables e below (T3.setTop (mkF m 4 #[.val (.ref a1)] [(.ref w2)])) _
    jvm_step X3.here [X3.here.top, hx, (hb hby d28_4), X3.method', Bd.returns, Value.isRef, FieldType.isReference]
    first | (intro acts; rw [hr _ acts rfl rfl rfl]) | rw [hr _ _ rfl rfl rfl]
    exact Steps.refl _
  · show Q28 Z a1 w2 h0 n0 _ T3.heap _
    rw [e3]
    exact ⟨rfl, N0, rfl⟩
theorem d29_0 : decode prog_18_method_11_code 0 = .ok (.aload_n 0, 1) := by decide +kernel
theorem d29_1 : decode prog_18_method_11_code 1 = .ok (.getfield 45, 3) := by decide +kernel
theorem d29_4 : decode prog_18_method_11_code 4 = .ok (.ireturn, 1) := by decide +kernel
theorem pn_29 : plainName "com/example/tenacious_courier/tenaciouscourier/model/Endpoint" = true := by first | (simp [plainName, overriddenIn]; done) | decide +kernel
theorem ef_29 (m : MethodId) (x0 : Addr) : entryFrame m #[(.ref x0)] 1 = mkF m 0 #[.val (.ref x0)] [] := by first | (simp [entryFrame, mkF, argsToLocals, Value.category]; done) | rfl
def Q29 (Z : State) (a1 : Addr) (w2 : Int32) (h0 : Heap) (n0 : Nat) (v : Option Value) (h : Heap) (L : List Loc) : Prop := v = some (.int w2) ∧ Fr n0 L ∧ h = h0
set_option maxRecDepth 65536 in
set_option maxHeartbeats 40000000 in
theorem rm29 (l : Launch) (Z : State) (a0 : Array Value) (hw : ∀ d ∈ tables_1, d.before a0 Z = true) (ws : List Jvm.Cond) (a1 : Addr) (w2 : Int32) (h0 : Heap) (n0 : Nat) (Z0 : n0 ≤ h0.size) (F_consecutiveFailures_a1 : Fld Z h0 a1 "com/example/tenacious_courier/tenaciouscourier/model/Endpoint" "consecutiveFailures" "I" (.int w2)) :
    MetFree l mN2 (head1 (Jvm.Cond.code mN2 prog_18_method_11_code 1 (some .int) :: ws) ({ frames := 0, cells := 0, slots := 0, locals := 0 } : Room)) (fun a U => a = #[(.ref a1)] ∧ Z.Warmed39 U.vm ∧ U.heap = h0) (fun _ _ _ _ _ => True) (fun _ U o U' => ∃ v L, o = .returned v ∧ Q29 Z a1 w2 h0 n0 v U'.heap L ∧ FrameEnd U o U' L ({ frames := 0, cells := 0, slots := 0, locals := 0 } : Room).cells ({ frames := 0, cells := 0, slots := 0, locals := 0 } : Room).slots) := by
  refine MetFree.of_bodySF (plainFor_of_name pn_29) hisR ?_
  intro p e s m args below meth c s₁ Bd hml0 hP hK
  obtain ⟨rfl, hZ, hh⟩ := hP
  have hx := Bd.exec
  have hby := Bd.bytes
  have hml : c.maxLocals = 1 := hml0
  have hown : s.vm.findClass "com/example/tenacious_courier/tenaciouscourier/model/Endpoint" = some m.cls := findClass_of_methodNamed Bd.named
  have hnm := (name_of_methodNamed Bd.named Bd.method).1
  have X0 : Stand p l e ({ frames := 0, cells := 0, slots := 0, locals := 0 } : Room) s m #[(.ref a1)] below meth c s₁ [] 0 0 := Stand.of_body Bd
  have e0 : s₁.heap = h0 := by rw [← hh, Bd.state]; rfl
  have N0 := Fr.nil n0
  have pre0 : ∀ t, Steps p.tables e below (s₁.setTop (mkF m 0 #[.val (.ref a1)] [])) t → Steps p.tables e below (s₁.setTop (entryFrame m #[(.ref a1)] 1)) t := fun t k => castTop (ef_29 m a1) k
  obtain ⟨T3, X3, e3, st3⟩ := getF X0 hx hZ hown (host := "") (Or.inl (wd hw 111 rfl)) Via.refl e0 F_consecutiveFailures_a1 (g := (mkF m 1 #[.val (.ref a1)] [(.ref a1)])) rfl rfl (hb hby d29_1)
  obtain ⟨fs, hr, hrun, hended, hW, hsame⟩ := X3.leave (v := some (.int w2)) (fun h => by rw [Bd.returns] at h; cases h)
  refine ⟨_, _, pre0 _ ?_, hrun, hended, _, _, rfl, ?_, ⟨_, rfl⟩, hW, hsame.mono (by decide) (by decide)⟩
  · show Steps p.tables e below (s₁.setTop (mkF m 0 #[.val (.ref a1)] [])) _
    refine XS.aloadN X0.here hx rfl (hb hby d29_0) rfl rfl ?_
    show Steps p.tables e below (s₁.setTop (mkF m 1 #[.val (.ref a1)] [(.ref a1)])) _
    refine st3 _ ?_
    show Steps p.tables e below (T3.setTop (mkF m 4 #[.val (.ref a1)] [(.int w2)])) _
    exact retI X3 hx Bd.returns (hb hby d29_4) hr
  · show Q29 Z a1 w2 h0 n0 _ T3.heap _
    rw [e3]
    exact ⟨rfl, N0, rfl⟩
theorem d26_0 : decode prog_18_method_8_code 0 = .ok (.aload_n 0, 1) := by decide +kernel
theorem d26_1 : decode prog_18_method_8_code 1 = .ok (.getfield 33, 3) := by decide +kernel
theorem d26_4 : decode prog_18_method_8_code 4 = .ok (.areturn, 1) := by decide +kernel
theorem pn_26 : plainName "com/example/tenacious_courier/tenaciouscourier/model/Endpoint" = true := by first | (simp [plainName, overriddenIn]; done) | decide +kernel
theorem ef_26 (m : MethodId) (x0 : Addr) : entryFrame m #[(.ref x0)] 1 = mkF m 0 #[.val (.ref x0)] [] := by first | (simp [entryFrame, mkF, argsToLocals, Value.category]; done) | rfl
def Q26 (Z : State) (a1 : Addr) (w2 : Addr) (h0 : Heap) (n0 : Nat) (v : Option Value) (h : Heap) (L : List Loc) : Prop := v = some .null ∧ Fr n0 L ∧ h = h0
set_option maxRecDepth 65536 in
set_option maxHeartbeats 40000000 in
theorem rm26 (l : Launch) (Z : State) (a0 : Array Value) (hw : ∀ d ∈ tables_1, d.before a0 Z = true) (ws : List Jvm.Cond) (a1 : Addr) (w2 : Addr) (h0 : Heap) (n0 : Nat) (Z0 : n0 ≤ h0.size) (F_disabledReason_a1 : Fld Z h0 a1 "com/example/tenacious_courier/tenaciouscourier/model/Endpoint" "disabledReason" "Lcom/example/tenacious_courier/tenaciouscourier/model/DisabledReason;" .null) :
    MetFree l mN4 (head1 (Jvm.Cond.code mN4 prog_18_method_8_code 1 (some (.object "com/example/tenacious_courier/tenaciouscourier/model/DisabledReason")) :: ws) ({ frames := 0, cells := 0, slots := 0, locals := 0 } : Room)) (fun a U => a = #[(.ref a1)] ∧ Z.Warmed39 U.vm ∧ U.heap = h0) (fun _ _ _ _ _ => True) (fun _ U o U' => ∃ v L, o = .returned v ∧ Q26 Z a1 w2 h0 n0 v U'.heap L ∧ FrameEnd U o U' L ({ frames := 0, cells := 0, slots := 0, locals := 0 } : Room).cells ({ frames := 0, cells := 0, slots := 0, locals := 0 } : Room).slots) := by
  refine MetFree.of_bodySF (plainFor_of_name pn_26) hisR ?_
  intro p e s m args below meth c s₁ Bd hml0 hP hK
  obtain ⟨rfl, hZ, hh⟩ := hP
  have hx := Bd.exec
  have hby := Bd.bytes
  have hml : c.maxLocals = 1 := hml0
  have hown : s.vm.findClass "com/example/tenacious_courier/tenaciouscourier/model/Endpoint" = some m.cls := findClass_of_methodNamed Bd.named
  have hnm := (name_of_methodNamed Bd.named Bd.method).1
  have X0 : Stand p l e ({ frames := 0, cells := 0, slots := 0, locals := 0 } : Room) s m #[(.ref a1)] below meth c s₁ [] 0 0 := Stand.of_body Bd
  have e0 : s₁.heap = h0 := by rw [← hh, Bd.state]; rfl
  have N0 := Fr.nil n0
  have pre0 : ∀ t, Steps p.tables e below (s₁.setTop (mkF m 0 #[.val (.ref a1)] [])) t → Steps p.tables e below (s₁.setTop (entryFrame m #[(.ref a1)] 1)) t := fun t k => castTop (ef_26 m a1) k
  obtain ⟨T3, X3, e3, st3⟩ := getF X0 hx hZ hown (host := "") (Or.inl (wd hw 105 rfl)) Via.refl e0 F_disabledReason_a1 (g := (mkF m 1 #[.val (.ref a1)] [(.ref a1)])) rfl rfl (hb hby d26_1)
  obtain ⟨fs, hr, hrun, hended, hW, hsame⟩ := X3.leave (v := some .null) (fun h => by rw [Bd.returns] at h; cases h)
  refine ⟨_, _, pre0 _ ?_, hrun, hended, _, _, rfl, ?_, ⟨_, rfl⟩, hW, hsame.mono (by decide) (by decide)⟩
  · show Steps p.tables e below (s₁.setTop (mkF m 0 #[.val (.ref a1)] [])) _
    refine XS.aloadN X0.here hx rfl (hb hby d26_0) rfl rfl ?_
    show Steps p.tables e below (s₁.setTop (mkF m 1 #[.val (.ref a1)] [(.ref a1)])) _
    refine st3 _ ?_
    show Steps p.tables e below (T3.setTop (mkF m 4 #[.val (.ref a1)] [.null])) _
    jvm_step X3.here [X3.here.top, hx, (hb hby d26_4), X3.method', Bd.returns, Value.isRef, FieldType.isReference]
    first | (intro acts; rw [hr _ acts rfl rfl rfl]) | rw [hr _ _ rfl rfl rfl]
    exact Steps.refl _
  · show Q26 Z a1 w2 h0 n0 _ T3.heap _
    rw [e3]
    exact ⟨rfl, N0, rfl⟩
theorem d27_0 : decode prog_18_method_9_code 0 = .ok (.aload_n 0, 1) := by decide +kernel
theorem d27_1 : decode prog_18_method_9_code 1 = .ok (.getfield 37, 3) := by decide +kernel
theorem d27_4 : decode prog_18_method_9_code 4 = .ok (.areturn, 1) := by decide +kernel
theorem pn_27 : plainName "com/example/tenacious_courier/tenaciouscourier/model/Endpoint" = true := by first | (simp [plainName, overriddenIn]; done) | decide +kernel
theorem ef_27 (m : MethodId) (x0 : Addr) : entryFrame m #[(.ref x0)] 1 = mkF m 0 #[.val (.ref x0)] [] := by first | (simp [entryFrame, mkF, argsToLocals, Value.category]; done) | rfl
def Q27 (Z : State) (a1 : Addr) (w2 : Addr) (h0 : Heap) (n0 : Nat) (v : Option Value) (h : Heap) (L : List Loc) : Prop := v = some .null ∧ Fr n0 L ∧ h = h0
set_option maxRecDepth 65536 in
set_option maxHeartbeats 40000000 in
theorem rm27 (l : Launch) (Z : State) (a0 : Array Value) (hw : ∀ d ∈ tables_1, d.before a0 Z = true) (ws : List Jvm.Cond) (a1 : Addr) (w2 : Addr) (h0 : Heap) (n0 : Nat) (Z0 : n0 ≤ h0.size) (F_disabledAt_a1 : Fld Z h0 a1 "com/example/tenacious_courier/tenaciouscourier/model/Endpoint" "disabledAt" "Ljava/time/Instant;" .null) :
    MetFree l mN3 (head1 (Jvm.Cond.code mN3 prog_18_method_9_code 1 (some (.object "java/time/Instant")) :: ws) ({ frames := 0, cells := 0, slots := 0, locals := 0 } : Room)) (fun a U => a = #[(.ref a1)] ∧ Z.Warmed39 U.vm ∧ U.heap = h0) (fun _ _ _ _ _ => True) (fun _ U o U' => ∃ v L, o = .returned v ∧ Q27 Z a1 w2 h0 n0 v U'.heap L ∧ FrameEnd U o U' L ({ frames := 0, cells := 0, slots := 0, locals := 0 } : Room).cells ({ frames := 0, cells := 0, slots := 0, locals := 0 } : Room).slots) := by
  refine MetFree.of_bodySF (plainFor_of_name pn_27) hisR ?_
  intro p e s m args below meth c s₁ Bd hml0 hP hK
  obtain ⟨rfl, hZ, hh⟩ := hP
  have hx := Bd.exec
  have hby := Bd.bytes
  have hml : c.maxLocals = 1 := hml0
  have hown : s.vm.findClass "com/example/tenacious_courier/tenaciouscourier/model/Endpoint" = some m.cls := findClass_of_methodNamed Bd.named
  have hnm := (name_of_methodNamed Bd.named Bd.method).1
  have X0 : Stand p l e ({ frames := 0, cells := 0, slots := 0, locals := 0 } : Room) s m #[(.ref a1)] below meth c s₁ [] 0 0 := Stand.of_body Bd
  have e0 : s₁.heap = h0 := by rw [← hh, Bd.state]; rfl
  have N0 := Fr.nil n0
  have pre0 : ∀ t, Steps p.tables e below (s₁.setTop (mkF m 0 #[.val (.ref a1)] [])) t → Steps p.tables e below (s₁.setTop (entryFrame m #[(.ref a1)] 1)) t := fun t k => castTop (ef_27 m a1) k
  obtain ⟨T3, X3, e3, st3⟩ := getF X0 hx hZ hown (host := "") (Or.inl (wd hw 107 rfl)) Via.refl e0 F_disabledAt_a1 (g := (mkF m 1 #[.val (.ref a1)] [(.ref a1)])) rfl rfl (hb hby d27_1)
  obtain ⟨fs, hr, hrun, hended, hW, hsame⟩ := X3.leave (v := some .null) (fun h => by rw [Bd.returns] at h; cases h)
  refine ⟨_, _, pre0 _ ?_, hrun, hended, _, _, rfl, ?_, ⟨_, rfl⟩, hW, hsame.mono (by decide) (by decide)⟩
  · show Steps p.tables e below (s₁.setTop (mkF m 0 #[.val (.ref a1)] [])) _
    refine XS.aloadN X0.here hx rfl (hb hby d27_0) rfl rfl ?_
    show Steps p.tables e below (s₁.setTop (mkF m 1 #[.val (.ref a1)] [(.ref a1)])) _
    refine st3 _ ?_
    show Steps p.tables e below (T3.setTop (mkF m 4 #[.val (.ref a1)] [.null])) _
    jvm_step X3.here [X3.here.top, hx, (hb hby d27_4), X3.method', Bd.returns, Value.isRef, FieldType.isReference]
    first | (intro acts; rw [hr _ acts rfl rfl rfl]) | rw [hr _ _ rfl rfl rfl]
    exact Steps.refl _
  · show Q27 Z a1 w2 h0 n0 _ T3.heap _
    rw [e3]
    exact ⟨rfl, N0, rfl⟩
def own_C1 (Z : State) (x0 : Addr) (h0 : Heap) (n0 : Nat) (v : Option Value) (h : Heap) (L : List Loc) : Prop := ∃ (d : Addr) (k : ClassId), v = some (.ref d) ∧ Fr n0 L ∧ Keep h0 h [] ∧ h0.size ≤ d ∧ Arv Z h d k (.object "java/lang/Object") (1 : Int32) [(.ref x0)] .null
theorem d35_0 : decode jdk_65_method_120_code 0 = .ok (.aload_n 2, 1) := by decide +kernel
theorem d35_1 : decode jdk_65_method_120_code 1 = .ok (.ldc 110, 2) := by decide +kernel
theorem d35_3 : decode jdk_65_method_120_code 3 = .ok (.if_acmp .ne 10, 3) := by decide +kernel
theorem d35_6 : decode jdk_65_method_120_code 6 = .ok (.iload_n 1, 1) := by decide +kernel
theorem d35_7 : decode jdk_65_method_120_code 7 = .ok (.anewarray 2, 3) := by decide +kernel
theorem d35_10 : decode jdk_65_method_120_code 10 = .ok (.goto 14, 3) := by decide +kernel
theorem d35_24 : decode jdk_65_method_120_code 24 = .ok (.astore_n 3, 1) := by decide +kernel
theorem d35_25 : decode jdk_65_method_120_code 25 = .ok (.aload_n 0, 1) := by decide +kernel
theorem d35_26 : decode jdk_65_method_120_code 26 = .ok (.iconst 0, 1) := by decide +kernel
theorem d35_27 : decode jdk_65_method_120_code 27 = .ok (.aload_n 3, 1) := by decide +kernel
theorem d35_28 : decode jdk_65_method_120_code 28 = .ok (.iconst 0, 1) := by decide +kernel
theorem d35_29 : decode jdk_65_method_120_code 29 = .ok (.aload_n 0, 1) := by decide +kernel
theorem d35_30 : decode jdk_65_method_120_code 30 = .ok (.arraylength, 1) := by decide +kernel
theorem d35_31 : decode jdk_65_method_120_code 31 = .ok (.iload_n 1, 1) := by decide +kernel
theorem d35_32 : decode jdk_65_method_120_code 32 = .ok (.invokestatic 304, 3) := by decide +kernel
theorem d35_35 : decode jdk_65_method_120_code 35 = .ok (.invokestatic 150, 3) := by decide +kernel
theorem d35_38 : decode jdk_65_method_120_code 38 = .ok (.aload_n 3, 1) := by decide +kernel
theorem d35_39 : decode jdk_65_method_120_code 39 = .ok (.areturn, 1) := by decide +kernel
theorem pn_35 : plainName "java/util/Arrays" = true := by first | (simp [plainName, overriddenIn]; done) | decide +kernel
theorem pd_35_13 : parseMethodDescriptor "(II)I" = some ⟨[.int, .int], some .int⟩ := by decide +kernel
theorem ef_35 (m : MethodId) (x0 : Addr) (x1 : Int32) (x2 : Addr) : entryFrame m #[(.ref x0), (.int x1), (.ref x2)] 4 = mkF m 0 #[.val (.ref x0), .val (.int x1), .val (.ref x2), .unset] [] := by first | (simp [entryFrame, mkF, argsToLocals, Value.category]; done) | rfl
set_option maxRecDepth 65536 in
set_option maxHeartbeats 40000000 in
theorem rm35p1 (l : Launch) (Z : State) (a0 : Array Value) (hw : ∀ d ∈ tables_1, d.before a0 Z = true) (ws : List Jvm.Cond) (a1 mr : Addr) (k : ClassId) (x0 : Addr) (h0 : Heap) (n0 : Nat) (Z0 : n0 ≤ h0.size) (VA : Arv Z h0 a1 k (.object "java/lang/Object") (10 : Int32) [(.ref x0), .null, .null, .null, .null, .null, .null, .null, .null, .null] .null) (MIR : Mir Z "[Ljava/lang/Object;" mr) (Ex0 : Exa Z h0 x0 "java/lang/String") :
    MetFree l mN27 (head1 (Jvm.Cond.code mN27 jdk_65_method_120_code 4 (some (.array (.object "java/lang/Object"))) :: ws) ({ frames := 1, cells := 1, slots := 1, locals := 40 } : Room)) (fun a U => a = #[(.ref a1), (.int (1 : Int32)), (.ref mr)] ∧ Z.Warmed39 U.vm ∧ U.heap = h0) (fun _ _ _ _ _ => True) (fun _ U o U' => ∃ v L, o = .returned v ∧ own_C1 Z x0 h0 n0 v U'.heap L ∧ FrameEnd U o U' L ({ frames := 1, cells := 1, slots := 1, locals := 40 } : Room).cells ({ frames := 1, cells := 1, slots := 1, locals := 40 } : Room).slots) := by
  refine MetFree.of_bodySF (plainFor_of_name pn_35) hisR ?_
  intro p e s m args below meth c s₁ Bd hml0 hP hK
  obtain ⟨rfl, hZ, hh⟩ := hP
  have hx := Bd.exec
  have hby := Bd.bytes
  have hml : c.maxLocals = 4 := hml0
  have hown : s.vm.findClass "java/util/Arrays" = some m.cls := findClass_of_methodNamed Bd.named
  have hnm := (name_of_methodNamed Bd.named Bd.method).1
  have X0 : Stand p l e ({ frames := 1, cells := 1, slots := 1, locals := 40 } : Room) s m #[(.ref a1), (.int (1 : Int32)), (.ref mr)] below meth c s₁ [] 0 0 := Stand.of_body Bd
  have e0 : s₁.heap = h0 := by rw [← hh, Bd.state]; rfl
  have N0 := Fr.nil n0
  have pre0 : ∀ t, Steps p.tables e below (s₁.setTop (mkF m 0 #[.val (.ref a1), .val (.int (1 : Int32)), .val (.ref mr), .unset] [])) t → Steps p.tables e below (s₁.setTop (entryFrame m #[(.ref a1), (.int (1 : Int32)), (.ref mr)] 4)) t := fun t k => castTop (ef_35 m a1 (1 : Int32) mr) k
  obtain ⟨cl_a1, Ar_a1, q_a1, S_a1, N_a1, -, -⟩ := id VA
  obtain ⟨T4, X4, e4, st4⟩ := own_ldcM X0 hx hZ hown (wd hw 242 rfl) e0 MIR (g := (mkF m 1 #[.val (.ref a1), .val (.int (1 : Int32)), .val (.ref mr), .unset] [(.ref mr)])) rfl (hb hby d35_1)
  obtain ⟨T5, h5, k5, X5, e5, E5, A5, O5, st5⟩ := newR X4 hx hZ hown (wd hw 243 rfl) (wd hw 144 rfl) e4 (g := (mkF m 7 #[.val (.ref a1), .val (.int (1 : Int32)), .val (.ref mr), .unset] [(.int (1 : Int32))])) rfl (hb hby d35_7) rfl (by decide) (cap := 1) (by decide) (by decide) (by decide) (by decide)
  obtain ⟨b5, g5⟩ : ∃ z, z = h0.size := ⟨_, rfl⟩
  rw [← g5] at A5 st5
  have V_b5 := (Arv.new A5 (by decide)).pad (vs' := [.null]) (pad_rep [] .null 1)
  have g_b5 : n0 ≤ b5 := Nat.le_trans Z0 (Nat.le_of_eq g5.symm)
  have sz_b5 : h0.size ≤ b5 := (Nat.le_trans (Keep.refl h0 []).1 (Nat.le_of_eq g5.symm))
  have K5 : Keep h0 h5 [] := (Keep.refl h0 []).ext E5
  obtain ⟨_, _, ⟨T6, L6, k6, n6⟩, -, X6, ⟨Lc6, hQ6, l6, y6, z6⟩, st6⟩ := Jvm.LawKit.callS X5 hx (y := mN13) hown (mvT hZ (wd hw 244 rfl)) (mvT hZ (wd hw 245 rfl)) (mvT hZ (wd hw 141 rfl)) (mvT hZ (wd hw 246 rfl)) (by decide) (backOf (W := 4) (rm36 l Z a0 hw [] (10 : Int32) (1 : Int32) h5 n0 (Nat.le_trans Z0 K5.1) (by decide)) hZ (wd hw 246 rfl) (wd hw 141 rfl) (by decide) (by decide)) (g := (mkF m 32 #[.val (.ref a1), .val (.int (1 : Int32)), .val (.ref mr), .val (.ref b5)] [(.int (1 : Int32)), (.int (10 : Int32)), (.int (0 : Int32)), (.ref b5), (.int (0 : Int32)), (.ref a1)])) rfl (by rw [hml]; rfl) (argsL := [(.int (10 : Int32)), (.int (1 : Int32))]) (rest := [(.int (0 : Int32)), (.ref b5), (.int (0 : Int32)), (.ref a1)]) (lenOf pd_35_13 rfl) rfl (by show 2 * 0 + _ ≤ _; exact Nat.le_of_eq rfl) (hb hby d35_32) (fun _ _ => ⟨rfl, e5, (by decide : 1 + 0 ≤ _), (by decide : 1 + 0 ≤ _)⟩)
  dsimp only [Pt.U, Pt.locs, Pt.cells, Pt.slots] at X6 l6 y6 z6 st6 hQ6
  subst l6 y6 z6
  obtain ⟨rfl, N6q, k6q⟩ := hQ6
  have N6 := Fr.app N0 N6q
  have Kc6 : Keep h5 T6.heap [] := by rw [k6q]; exact Keep.refl _ []
  have VA6 := (VA.ext E5).keep Kc6 nin0
  have VB6 := V_b5.keep Kc6 nin0
  obtain ⟨clb, Arb, qb, -⟩ := id VB6
  obtain ⟨T7, h7, Lx7, X7, e7, Nx7, Kx7, Vx7, st7⟩ := cpA X6 hx hZ hown (wd hw 247 rfl) (wd hw 250 rfl) (wd hw 248 rfl) (wd hw 249 rfl) rfl VA6 VB6 (us := [(.ref x0)]) (Or.inr ⟨rfl, rfl, ⟨Sto.ofV Arb qb O5 (Ins.of_exa ((Ex0.ext E5).keep Kc6) (wd hw 145 rfl)), trivial⟩⟩) (by decide) (by decide) (by decide) (by decide) (by decide) (by rw [show (0 : Int32).toNatClampNeg = 0 from by decide, show (1 : Int32).toNatClampNeg = 1 from by decide]; rfl) (by decide) N6 g_b5 (g := (mkF m 35 #[.val (.ref a1), .val (.int (1 : Int32)), .val (.ref mr), .val (.ref b5)] [(.int (1 : Int32)), (.int (0 : Int32)), (.ref b5), (.int (0 : Int32)), (.ref a1)])) rfl (by rw [hml]; rfl) rfl (hb hby d35_35) (by decide) (W := 0) (by show 2 * 0 + _ ≤ _; exact Nat.le_of_eq rfl) (by decide)
  obtain ⟨fs, hr, hrun, hended, hW, hsame⟩ := X7.leave (v := some (.ref b5)) (fun h => by rw [Bd.returns] at h; cases h)
  refine ⟨_, _, pre0 _ ?_, hrun, hended, _, _, rfl, ?_, ⟨_, rfl⟩, hW, hsame.mono (by decide) (by decide)⟩
  · show Steps p.tables e below (s₁.setTop (mkF m 0 #[.val (.ref a1), .val (.int (1 : Int32)), .val (.ref mr), .unset] [])) _
    refine XS.aloadN X0.here hx rfl (hb hby d35_0) rfl rfl ?_
    show Steps p.tables e below (s₁.setTop (mkF m 1 #[.val (.ref a1), .val (.int (1 : Int32)), .val (.ref mr), .unset] [(.ref mr)])) _
    refine st4 _ ?_
    show Steps p.tables e below (T4.setTop (mkF m 3 #[.val (.ref a1), .val (.int (1 : Int32)), .val (.ref mr), .unset] [(.ref mr), (.ref mr)])) _
    refine Jvm.RoadKit.acmp (g := (mkF m 3 #[.val (.ref a1), .val (.int (1 : Int32)), .val (.ref mr), .unset] [(.ref mr), (.ref mr)])) X4 hx rfl rfl rfl (pc0 := 3) (pc' := 6) (same := true) rfl (hb hby d35_3) rfl (decide_eq_true (congrArg Value.ref rfl)) (by decide) (by decide) ?_
    show Steps p.tables e below (T4.setTop (mkF m 6 #[.val (.ref a1), .val (.int (1 : Int32)), .val (.ref mr), .unset] [])) _
    refine XS.iloadN X4.here hx rfl (hb hby d35_6) rfl ?_
    show Steps p.tables e below (T4.setTop (mkF m 7 #[.val (.ref a1), .val (.int (1 : Int32)), .val (.ref mr), .unset] [(.int (1 : Int32))])) _
    refine st5 _ ?_
    show Steps p.tables e below (T5.setTop (mkF m 10 #[.val (.ref a1), .val (.int (1 : Int32)), .val (.ref mr), .unset] [(.ref b5)])) _
    refine XS.goto X5.here hx rfl (pc0 := 10) (pc' := 24) rfl (hb hby d35_10) (by decide) (by decide) ?_
    refine XS.astoreN X5.here hx rfl (hb hby d35_24) rfl rfl (l' := #[.val (.ref a1), .val (.int (1 : Int32)), .val (.ref mr), .val (.ref b5)]) rfl ?_
    show Steps p.tables e below (T5.setTop (mkF m 25 #[.val (.ref a1), .val (.int (1 : Int32)), .val (.ref mr), .val (.ref b5)] [])) _
    refine XS.aloadN X5.here hx rfl (hb hby d35_25) rfl rfl ?_
    refine XS.iconst X5.here hx rfl (hb hby d35_26) ?_
    show Steps p.tables e below (T5.setTop (mkF m 27 #[.val (.ref a1), .val (.int (1 : Int32)), .val (.ref mr), .val (.ref b5)] [(.int (0 : Int32)), (.ref a1)])) _
    refine XS.aloadN X5.here hx rfl (hb hby d35_27) rfl rfl ?_
    refine XS.iconst X5.here hx rfl (hb hby d35_28) ?_
    show Steps p.tables e below (T5.setTop (mkF m 29 #[.val (.ref a1), .val (.int (1 : Int32)), .val (.ref mr), .val (.ref b5)] [(.int (0 : Int32)), (.ref b5), (.int (0 : Int32)), (.ref a1)])) _
    refine XS.aloadN X5.here hx rfl (hb hby d35_29) rfl rfl ?_
    show Steps p.tables e below (T5.setTop (mkF m 30 #[.val (.ref a1), .val (.int (1 : Int32)), .val (.ref mr), .val (.ref b5)] [(.ref a1), (.int (0 : Int32)), (.ref b5), (.int (0 : Int32)), (.ref a1)])) _
    refine X5.arraylength hx (by rw [e5]; exact (Ar_a1.ext E5).1) (State.isArrayOf_alike hZ.alike Ar_a1.2.1) (g := (mkF m 30 #[.val (.ref a1), .val (.int (1 : Int32)), .val (.ref mr), .val (.ref b5)] [(.ref a1), (.int (0 : Int32)), (.ref b5), (.int (0 : Int32)), (.ref a1)])) rfl rfl (hb hby d35_30) _ ?_
    rw [len_of S_a1 N_a1]
    show Steps p.tables e below (T5.setTop (mkF m 31 #[.val (.ref a1), .val (.int (1 : Int32)), .val (.ref mr), .val (.ref b5)] [(.int (10 : Int32)), (.int (0 : Int32)), (.ref b5), (.int (0 : Int32)), (.ref a1)])) _
    refine XS.iloadN X5.here hx rfl (hb hby d35_31) rfl ?_
    show Steps p.tables e below (T5.setTop (mkF m 32 #[.val (.ref a1), .val (.int (1 : Int32)), .val (.ref mr), .val (.ref b5)] [(.int (1 : Int32)), (.int (10 : Int32)), (.int (0 : Int32)), (.ref b5), (.int (0 : Int32)), (.ref a1)])) _
    refine st6 _ ?_
    show Steps p.tables e below (T6.setTop (mkF m 35 #[.val (.ref a1), .val (.int (1 : Int32)), .val (.ref mr), .val (.ref b5)] [(.int (1 : Int32)), (.int (0 : Int32)), (.ref b5), (.int (0 : Int32)), (.ref a1)])) _
    refine st7 _ ?_
    show Steps p.tables e below (T7.setTop (mkF m 38 #[.val (.ref a1), .val (.int (1 : Int32)), .val (.ref mr), .val (.ref b5)] [])) _
    refine XS.aloadN X7.here hx rfl (hb hby d35_38) rfl rfl ?_
    show Steps p.tables e below (T7.setTop (mkF m 39 #[.val (.ref a1), .val (.int (1 : Int32)), .val (.ref mr), .val (.ref b5)] [(.ref b5)])) _
    jvm_step X7.here [X7.here.top, hx, (hb hby d35_39), X7.method', Bd.returns, Value.isRef, FieldType.isReference]
    first | (intro acts; rw [hr _ acts rfl rfl rfl]) | rw [hr _ _ rfl rfl rfl]
    exact Steps.refl _
  · show own_C1 Z x0 h0 n0 _ T7.heap _
    rw [e7]
    rw [show (0 : Int32).toNatClampNeg = 0 from by decide, show (1 : Int32).toNatClampNeg = 1 from by decide] at Vx7
    exact ⟨b5, k5, rfl, Nx7, (K5.trans Kc6 (fun x hx => nomatch hx)).trans Kx7 (fun x hx => Or.inr (by cases List.mem_singleton.mp hx; exact sz_b5)), sz_b5, Vx7⟩
def own_C2 (Z : State) (x0 x1 : Addr) (h0 : Heap) (n0 : Nat) (v : Option Value) (h : Heap) (L : List Loc) : Prop := ∃ (d : Addr) (k : ClassId), v = some (.ref d) ∧ Fr n0 L ∧ Keep h0 h [] ∧ h0.size ≤ d ∧ Arv Z h d k (.object "java/lang/Object") (2 : Int32) [(.ref x0), (.ref x1)] .null
set_option maxRecDepth 65536 in
set_option maxHeartbeats 40000000 in
theorem rm35p2 (l : Launch) (Z : State) (a0 : Array Value) (hw : ∀ d ∈ tables_1, d.before a0 Z = true) (ws : List Jvm.Cond) (a1 mr : Addr) (k : ClassId) (x0 x1 : Addr) (h0 : Heap) (n0 : Nat) (Z0 : n0 ≤ h0.size) (VA : Arv Z h0 a1 k (.object "java/lang/Object") (10 : Int32) [(.ref x0), (.ref x1), .null, .null, .null, .null, .null, .null, .null, .null] .null) (MIR : Mir Z "[Ljava/lang/Object;" mr) (Ex0 : Exa Z h0 x0 "java/lang/String") (Ex1 : Exa Z h0 x1 "java/lang/String") :
    MetFree l mN27 (head1 (Jvm.Cond.code mN27 jdk_65_method_120_code 4 (some (.array (.object "java/lang/Object"))) :: ws) ({ frames := 1, cells := 1, slots := 2, locals := 40 } : Room)) (fun a U => a = #[(.ref a1), (.int (2 : Int32)), (.ref mr)] ∧ Z.Warmed39 U.vm ∧ U.heap = h0) (fun _ _ _ _ _ => True) (fun _ U o U' => ∃ v L, o = .returned v ∧ own_C2 Z x0 x1 h0 n0 v U'.heap L ∧ FrameEnd U o U' L ({ frames := 1, cells := 1, slots := 2, locals := 40 } : Room).cells ({ frames := 1, cells := 1, slots := 2, locals := 40 } : Room).slots) := by
  refine MetFree.of_bodySF (plainFor_of_name pn_35) hisR ?_
  intro p e s m args below meth c s₁ Bd hml0 hP hK
  obtain ⟨rfl, hZ, hh⟩ := hP
  have hx := Bd.exec
  have hby := Bd.bytes
  have hml : c.maxLocals = 4 := hml0
  have hown : s.vm.findClass "java/util/Arrays" = some m.cls := findClass_of_methodNamed Bd.named
  have hnm := (name_of_methodNamed Bd.named Bd.method).1
  have X0 : Stand p l e ({ frames := 1, cells := 1, slots := 2, locals := 40 } : Room) s m #[(.ref a1), (.int (2 : Int32)), (.ref mr)] below meth c s₁ [] 0 0 := Stand.of_body Bd
  have e0 : s₁.heap = h0 := by rw [← hh, Bd.state]; rfl
  have N0 := Fr.nil n0
  have pre0 : ∀ t, Steps p.tables e below (s₁.setTop (mkF m 0 #[.val (.ref a1), .val (.int (2 : Int32)), .val (.ref mr), .unset] [])) t → Steps p.tables e below (s₁.setTop (entryFrame m #[(.ref a1), (.int (2 : Int32)), (.ref mr)] 4)) t := fun t k => castTop (ef_35 m a1 (2 : Int32) mr) k
  obtain ⟨cl_a1, Ar_a1, q_a1, S_a1, N_a1, -, -⟩ := id VA
  obtain ⟨T4, X4, e4, st4⟩ := own_ldcM X0 hx hZ hown (wd hw 242 rfl) e0 MIR (g := (mkF m 1 #[.val (.ref a1), .val (.int (2 : Int32)), .val (.ref mr), .unset] [(.ref mr)])) rfl (hb hby d35_1)
  obtain ⟨T5, h5, k5, X5, e5, E5, A5, O5, st5⟩ := newR X4 hx hZ hown (wd hw 243 rfl) (wd hw 144 rfl) e4 (g := (mkF m 7 #[.val (.ref a1), .val (.int (2 : Int32)), .val (.ref mr), .unset] [(.int (2 : Int32))])) rfl (hb hby d35_7) rfl (by decide) (cap := 2) (by decide) (by decide) (by decide) (by decide)
  obtain ⟨b5, g5⟩ : ∃ z, z = h0.size := ⟨_, rfl⟩
  rw [← g5] at A5 st5
  have V_b5 := (Arv.new A5 (by decide)).pad (vs' := [.null, .null]) (pad_rep [] .null 2)
  have g_b5 : n0 ≤ b5 := Nat.le_trans Z0 (Nat.le_of_eq g5.symm)
  have sz_b5 : h0.size ≤ b5 := (Nat.le_trans (Keep.refl h0 []).1 (Nat.le_of_eq g5.symm))
  have K5 : Keep h0 h5 [] := (Keep.refl h0 []).ext E5
  obtain ⟨_, _, ⟨T6, L6, k6, n6⟩, -, X6, ⟨Lc6, hQ6, l6, y6, z6⟩, st6⟩ := Jvm.LawKit.callS X5 hx (y := mN13) hown (mvT hZ (wd hw 244 rfl)) (mvT hZ (wd hw 245 rfl)) (mvT hZ (wd hw 141 rfl)) (mvT hZ (wd hw 246 rfl)) (by decide) (backOf (W := 4) (rm36 l Z a0 hw [] (10 : Int32) (2 : Int32) h5 n0 (Nat.le_trans Z0 K5.1) (by decide)) hZ (wd hw 246 rfl) (wd hw 141 rfl) (by decide) (by decide)) (g := (mkF m 32 #[.val (.ref a1), .val (.int (2 : Int32)), .val (.ref mr), .val (.ref b5)] [(.int (2 : Int32)), (.int (10 : Int32)), (.int (0 : Int32)), (.ref b5), (.int (0 : Int32)), (.ref a1)])) rfl (by rw [hml]; rfl) (argsL := [(.int (10 : Int32)), (.int (2 : Int32))]) (rest := [(.int (0 : Int32)), (.ref b5), (.int (0 : Int32)), (.ref a1)]) (lenOf pd_35_13 rfl) rfl (by show 2 * 0 + _ ≤ _; exact Nat.le_of_eq rfl) (hb hby d35_32) (fun _ _ => ⟨rfl, e5, (by decide : 1 + 0 ≤ _), (by decide : 2 + 0 ≤ _)⟩)
  dsimp only [Pt.U, Pt.locs, Pt.cells, Pt.slots] at X6 l6 y6 z6 st6 hQ6
  subst l6 y6 z6
  obtain ⟨rfl, N6q, k6q⟩ := hQ6
  have N6 := Fr.app N0 N6q
  have Kc6 : Keep h5 T6.heap [] := by rw [k6q]; exact Keep.refl _ []
  have VA6 := (VA.ext E5).keep Kc6 nin0
  have VB6 := V_b5.keep Kc6 nin0
  obtain ⟨clb, Arb, qb, -⟩ := id VB6
  obtain ⟨T7, h7, Lx7, X7, e7, Nx7, Kx7, Vx7, st7⟩ := cpA X6 hx hZ hown (wd hw 247 rfl) (wd hw 250 rfl) (wd hw 248 rfl) (wd hw 249 rfl) rfl VA6 VB6 (us := [(.ref x0), (.ref x1)]) (Or.inr ⟨rfl, rfl, ⟨Sto.ofV Arb qb O5 (Ins.of_exa ((Ex0.ext E5).keep Kc6) (wd hw 145 rfl)), Sto.ofV Arb qb O5 (Ins.of_exa ((Ex1.ext E5).keep Kc6) (wd hw 145 rfl)), trivial⟩⟩) (by decide) (by decide) (by decide) (by decide) (by decide) (by rw [show (0 : Int32).toNatClampNeg = 0 from by decide, show (2 : Int32).toNatClampNeg = 2 from by decide]; rfl) (by decide) N6 g_b5 (g := (mkF m 35 #[.val (.ref a1), .val (.int (2 : Int32)), .val (.ref mr), .val (.ref b5)] [(.int (2 : Int32)), (.int (0 : Int32)), (.ref b5), (.int (0 : Int32)), (.ref a1)])) rfl (by rw [hml]; rfl) rfl (hb hby d35_35) (by decide) (W := 0) (by show 2 * 0 + _ ≤ _; exact Nat.le_of_eq rfl) (by decide)
  obtain ⟨fs, hr, hrun, hended, hW, hsame⟩ := X7.leave (v := some (.ref b5)) (fun h => by rw [Bd.returns] at h; cases h)
  refine ⟨_, _, pre0 _ ?_, hrun, hended, _, _, rfl, ?_, ⟨_, rfl⟩, hW, hsame.mono (by decide) (by decide)⟩
  · show Steps p.tables e below (s₁.setTop (mkF m 0 #[.val (.ref a1), .val (.int (2 : Int32)), .val (.ref mr), .unset] [])) _
    refine XS.aloadN X0.here hx rfl (hb hby d35_0) rfl rfl ?_
    show Steps p.tables e below (s₁.setTop (mkF m 1 #[.val (.ref a1), .val (.int (2 : Int32)), .val (.ref mr), .unset] [(.ref mr)])) _
    refine st4 _ ?_
    show Steps p.tables e below (T4.setTop (mkF m 3 #[.val (.ref a1), .val (.int (2 : Int32)), .val (.ref mr), .unset] [(.ref mr), (.ref mr)])) _
    refine Jvm.RoadKit.acmp (g := (mkF m 3 #[.val (.ref a1), .val (.int (2 : Int32)), .val (.ref mr), .unset] [(.ref mr), (.ref mr)])) X4 hx rfl rfl rfl (pc0 := 3) (pc' := 6) (same := true) rfl (hb hby d35_3) rfl (decide_eq_true (congrArg Value.ref rfl)) (by decide) (by decide) ?_
    show Steps p.tables e below (T4.setTop (mkF m 6 #[.val (.ref a1), .val (.int (2 : Int32)), .val (.ref mr), .unset] [])) _
    refine XS.iloadN X4.here hx rfl (hb hby d35_6) rfl ?_
    show Steps p.tables e below (T4.setTop (mkF m 7 #[.val (.ref a1), .val (.int (2 : Int32)), .val (.ref mr), .unset] [(.int (2 : Int32))])) _
    refine st5 _ ?_
    show Steps p.tables e below (T5.setTop (mkF m 10 #[.val (.ref a1), .val (.int (2 : Int32)), .val (.ref mr), .unset] [(.ref b5)])) _
    refine XS.goto X5.here hx rfl (pc0 := 10) (pc' := 24) rfl (hb hby d35_10) (by decide) (by decide) ?_
    refine XS.astoreN X5.here hx rfl (hb hby d35_24) rfl rfl (l' := #[.val (.ref a1), .val (.int (2 : Int32)), .val (.ref mr), .val (.ref b5)]) rfl ?_
    show Steps p.tables e below (T5.setTop (mkF m 25 #[.val (.ref a1), .val (.int (2 : Int32)), .val (.ref mr), .val (.ref b5)] [])) _
    refine XS.aloadN X5.here hx rfl (hb hby d35_25) rfl rfl ?_
    refine XS.iconst X5.here hx rfl (hb hby d35_26) ?_
    show Steps p.tables e below (T5.setTop (mkF m 27 #[.val (.ref a1), .val (.int (2 : Int32)), .val (.ref mr), .val (.ref b5)] [(.int (0 : Int32)), (.ref a1)])) _
    refine XS.aloadN X5.here hx rfl (hb hby d35_27) rfl rfl ?_
    refine XS.iconst X5.here hx rfl (hb hby d35_28) ?_
    show Steps p.tables e below (T5.setTop (mkF m 29 #[.val (.ref a1), .val (.int (2 : Int32)), .val (.ref mr), .val (.ref b5)] [(.int (0 : Int32)), (.ref b5), (.int (0 : Int32)), (.ref a1)])) _
    refine XS.aloadN X5.here hx rfl (hb hby d35_29) rfl rfl ?_
    show Steps p.tables e below (T5.setTop (mkF m 30 #[.val (.ref a1), .val (.int (2 : Int32)), .val (.ref mr), .val (.ref b5)] [(.ref a1), (.int (0 : Int32)), (.ref b5), (.int (0 : Int32)), (.ref a1)])) _
    refine X5.arraylength hx (by rw [e5]; exact (Ar_a1.ext E5).1) (State.isArrayOf_alike hZ.alike Ar_a1.2.1) (g := (mkF m 30 #[.val (.ref a1), .val (.int (2 : Int32)), .val (.ref mr), .val (.ref b5)] [(.ref a1), (.int (0 : Int32)), (.ref b5), (.int (0 : Int32)), (.ref a1)])) rfl rfl (hb hby d35_30) _ ?_
    rw [len_of S_a1 N_a1]
    show Steps p.tables e below (T5.setTop (mkF m 31 #[.val (.ref a1), .val (.int (2 : Int32)), .val (.ref mr), .val (.ref b5)] [(.int (10 : Int32)), (.int (0 : Int32)), (.ref b5), (.int (0 : Int32)), (.ref a1)])) _
    refine XS.iloadN X5.here hx rfl (hb hby d35_31) rfl ?_
    show Steps p.tables e below (T5.setTop (mkF m 32 #[.val (.ref a1), .val (.int (2 : Int32)), .val (.ref mr), .val (.ref b5)] [(.int (2 : Int32)), (.int (10 : Int32)), (.int (0 : Int32)), (.ref b5), (.int (0 : Int32)), (.ref a1)])) _
    refine st6 _ ?_
    show Steps p.tables e below (T6.setTop (mkF m 35 #[.val (.ref a1), .val (.int (2 : Int32)), .val (.ref mr), .val (.ref b5)] [(.int (2 : Int32)), (.int (0 : Int32)), (.ref b5), (.int (0 : Int32)), (.ref a1)])) _
    refine st7 _ ?_
    show Steps p.tables e below (T7.setTop (mkF m 38 #[.val (.ref a1), .val (.int (2 : Int32)), .val (.ref mr), .val (.ref b5)] [])) _
    refine XS.aloadN X7.here hx rfl (hb hby d35_38) rfl rfl ?_
    show Steps p.tables e below (T7.setTop (mkF m 39 #[.val (.ref a1), .val (.int (2 : Int32)), .val (.ref mr), .val (.ref b5)] [(.ref b5)])) _
    jvm_step X7.here [X7.here.top, hx, (hb hby d35_39), X7.method', Bd.returns, Value.isRef, FieldType.isReference]
    first | (intro acts; rw [hr _ acts rfl rfl rfl]) | rw [hr _ _ rfl rfl rfl]
    exact Steps.refl _
  · show own_C2 Z x0 x1 h0 n0 _ T7.heap _
    rw [e7]
    rw [show (0 : Int32).toNatClampNeg = 0 from by decide, show (2 : Int32).toNatClampNeg = 2 from by decide] at Vx7
    exact ⟨b5, k5, rfl, Nx7, (K5.trans Kc6 (fun x hx => nomatch hx)).trans Kx7 (fun x hx => Or.inr (by cases List.mem_singleton.mp hx; exact sz_b5)), sz_b5, Vx7⟩
def own_C3 (Z : State) (x0 x1 x2 : Addr) (h0 : Heap) (n0 : Nat) (v : Option Value) (h : Heap) (L : List Loc) : Prop := ∃ (d : Addr) (k : ClassId), v = some (.ref d) ∧ Fr n0 L ∧ Keep h0 h [] ∧ h0.size ≤ d ∧ Arv Z h d k (.object "java/lang/Object") (3 : Int32) [(.ref x0), (.ref x1), (.ref x2)] .null
set_option maxRecDepth 65536 in
set_option maxHeartbeats 40000000 in
theorem rm35p3 (l : Launch) (Z : State) (a0 : Array Value) (hw : ∀ d ∈ tables_1, d.before a0 Z = true) (ws : List Jvm.Cond) (a1 mr : Addr) (k : ClassId) (x0 x1 x2 : Addr) (h0 : Heap) (n0 : Nat) (Z0 : n0 ≤ h0.size) (VA : Arv Z h0 a1 k (.object "java/lang/Object") (10 : Int32) [(.ref x0), (.ref x1), (.ref x2), .null, .null, .null, .null, .null, .null, .null] .null) (MIR : Mir Z "[Ljava/lang/Object;" mr) (Ex0 : Exa Z h0 x0 "java/lang/String") (Ex1 : Exa Z h0 x1 "java/lang/String") (Ex2 : Exa Z h0 x2 "java/lang/String") :
    MetFree l mN27 (head1 (Jvm.Cond.code mN27 jdk_65_method_120_code 4 (some (.array (.object "java/lang/Object"))) :: ws) ({ frames := 1, cells := 1, slots := 3, locals := 40 } : Room)) (fun a U => a = #[(.ref a1), (.int (3 : Int32)), (.ref mr)] ∧ Z.Warmed39 U.vm ∧ U.heap = h0) (fun _ _ _ _ _ => True) (fun _ U o U' => ∃ v L, o = .returned v ∧ own_C3 Z x0 x1 x2 h0 n0 v U'.heap L ∧ FrameEnd U o U' L ({ frames := 1, cells := 1, slots := 3, locals := 40 } : Room).cells ({ frames := 1, cells := 1, slots := 3, locals := 40 } : Room).slots) := by
  refine MetFree.of_bodySF (plainFor_of_name pn_35) hisR ?_
  intro p e s m args below meth c s₁ Bd hml0 hP hK
  obtain ⟨rfl, hZ, hh⟩ := hP
  have hx := Bd.exec
  have hby := Bd.bytes
  have hml : c.maxLocals = 4 := hml0
  have hown : s.vm.findClass "java/util/Arrays" = some m.cls := findClass_of_methodNamed Bd.named
  have hnm := (name_of_methodNamed Bd.named Bd.method).1
  have X0 : Stand p l e ({ frames := 1, cells := 1, slots := 3, locals := 40 } : Room) s m #[(.ref a1), (.int (3 : Int32)), (.ref mr)] below meth c s₁ [] 0 0 := Stand.of_body Bd
  have e0 : s₁.heap = h0 := by rw [← hh, Bd.state]; rfl
  have N0 := Fr.nil n0
  have pre0 : ∀ t, Steps p.tables e below (s₁.setTop (mkF m 0 #[.val (.ref a1), .val (.int (3 : Int32)), .val (.ref mr), .unset] [])) t → Steps p.tables e below (s₁.setTop (entryFrame m #[(.ref a1), (.int (3 : Int32)), (.ref mr)] 4)) t := fun t k => castTop (ef_35 m a1 (3 : Int32) mr) k
  obtain ⟨cl_a1, Ar_a1, q_a1, S_a1, N_a1, -, -⟩ := id VA
  obtain ⟨T4, X4, e4, st4⟩ := own_ldcM X0 hx hZ hown (wd hw 242 rfl) e0 MIR (g := (mkF m 1 #[.val (.ref a1), .val (.int (3 : Int32)), .val (.ref mr), .unset] [(.ref mr)])) rfl (hb hby d35_1)
  obtain ⟨T5, h5, k5, X5, e5, E5, A5, O5, st5⟩ := newR X4 hx hZ hown (wd hw 243 rfl) (wd hw 144 rfl) e4 (g := (mkF m 7 #[.val (.ref a1), .val (.int (3 : Int32)), .val (.ref mr), .unset] [(.int (3 : Int32))])) rfl (hb hby d35_7) rfl (by decide) (cap := 3) (by decide) (by decide) (by decide) (by decide)
  obtain ⟨b5, g5⟩ : ∃ z, z = h0.size := ⟨_, rfl⟩
  rw [← g5] at A5 st5
  have V_b5 := (Arv.new A5 (by decide)).pad (vs' := [.null, .null, .null]) (pad_rep [] .null 3)
  have g_b5 : n0 ≤ b5 := Nat.le_trans Z0 (Nat.le_of_eq g5.symm)
  have sz_b5 : h0.size ≤ b5 := (Nat.le_trans (Keep.refl h0 []).1 (Nat.le_of_eq g5.symm))
  have K5 : Keep h0 h5 [] := (Keep.refl h0 []).ext E5
  obtain ⟨_, _, ⟨T6, L6, k6, n6⟩, -, X6, ⟨Lc6, hQ6, l6, y6, z6⟩, st6⟩ := Jvm.LawKit.callS X5 hx (y := mN13) hown (mvT hZ (wd hw 244 rfl)) (mvT hZ (wd hw 245 rfl)) (mvT hZ (wd hw 141 rfl)) (mvT hZ (wd hw 246 rfl)) (by decide) (backOf (W := 4) (rm36 l Z a0 hw [] (10 : Int32) (3 : Int32) h5 n0 (Nat.le_trans Z0 K5.1) (by decide)) hZ (wd hw 246 rfl) (wd hw 141 rfl) (by decide) (by decide)) (g := (mkF m 32 #[.val (.ref a1), .val (.int (3 : Int32)), .val (.ref mr), .val (.ref b5)] [(.int (3 : Int32)), (.int (10 : Int32)), (.int (0 : Int32)), (.ref b5), (.int (0 : Int32)), (.ref a1)])) rfl (by rw [hml]; rfl) (argsL := [(.int (10 : Int32)), (.int (3 : Int32))]) (rest := [(.int (0 : Int32)), (.ref b5), (.int (0 : Int32)), (.ref a1)]) (lenOf pd_35_13 rfl) rfl (by show 2 * 0 + _ ≤ _; exact Nat.le_of_eq rfl) (hb hby d35_32) (fun _ _ => ⟨rfl, e5, (by decide : 1 + 0 ≤ _), (by decide : 3 + 0 ≤ _)⟩)
  dsimp only [Pt.U, Pt.locs, Pt.cells, Pt.slots] at X6 l6 y6 z6 st6 hQ6
  subst l6 y6 z6
  obtain ⟨rfl, N6q, k6q⟩ := hQ6
  have N6 := Fr.app N0 N6q
  have Kc6 : Keep h5 T6.heap [] := by rw [k6q]; exact Keep.refl _ []
  have VA6 := (VA.ext E5).keep Kc6 nin0
  have VB6 := V_b5.keep Kc6 nin0
  obtain ⟨clb, Arb, qb, -⟩ := id VB6
  obtain ⟨T7, h7, Lx7, X7, e7, Nx7, Kx7, Vx7, st7⟩ := cpA X6 hx hZ hown (wd hw 247 rfl) (wd hw 250 rfl) (wd hw 248 rfl) (wd hw 249 rfl) rfl VA6 VB6 (us := [(.ref x0), (.ref x1), (.ref x2)]) (Or.inr ⟨rfl, rfl, ⟨Sto.ofV Arb qb O5 (Ins.of_exa ((Ex0.ext E5).keep Kc6) (wd hw 145 rfl)), Sto.ofV Arb qb O5 (Ins.of_exa ((Ex1.ext E5).keep Kc6) (wd hw 145 rfl)), Sto.ofV Arb qb O5 (Ins.of_exa ((Ex2.ext E5).keep Kc6) (wd hw 145 rfl)), trivial⟩⟩) (by decide) (by decide) (by decide) (by decide) (by decide) (by rw [show (0 : Int32).toNatClampNeg = 0 from by decide, show (3 : Int32).toNatClampNeg = 3 from by decide]; rfl) (by decide) N6 g_b5 (g := (mkF m 35 #[.val (.ref a1), .val (.int (3 : Int32)), .val (.ref mr), .val (.ref b5)] [(.int (3 : Int32)), (.int (0 : Int32)), (.ref b5), (.int (0 : Int32)), (.ref a1)])) rfl (by rw [hml]; rfl) rfl (hb hby d35_35) (by decide) (W := 0) (by show 2 * 0 + _ ≤ _; exact Nat.le_of_eq rfl) (by decide)
  obtain ⟨fs, hr, hrun, hended, hW, hsame⟩ := X7.leave (v := some (.ref b5)) (fun h => by rw [Bd.returns] at h; cases h)
  refine ⟨_, _, pre0 _ ?_, hrun, hended, _, _, rfl, ?_, ⟨_, rfl⟩, hW, hsame.mono (by decide) (by decide)⟩
  · show Steps p.tables e below (s₁.setTop (mkF m 0 #[.val (.ref a1), .val (.int (3 : Int32)), .val (.ref mr), .unset] [])) _
    refine XS.aloadN X0.here hx rfl (hb hby d35_0) rfl rfl ?_
    show Steps p.tables e below (s₁.setTop (mkF m 1 #[.val (.ref a1), .val (.int (3 : Int32)), .val (.ref mr), .unset] [(.ref mr)])) _
    refine st4 _ ?_
    show Steps p.tables e below (T4.setTop (mkF m 3 #[.val (.ref a1), .val (.int (3 : Int32)), .val (.ref mr), .unset] [(.ref mr), (.ref mr)])) _
    refine Jvm.RoadKit.acmp (g := (mkF m 3 #[.val (.ref a1), .val (.int (3 : Int32)), .val (.ref mr), .unset] [(.ref mr), (.ref mr)])) X4 hx rfl rfl rfl (pc0 := 3) (pc' := 6) (same := true) rfl (hb hby d35_3) rfl (decide_eq_true (congrArg Value.ref rfl)) (by decide) (by decide) ?_
    show Steps p.tables e below (T4.setTop (mkF m 6 #[.val (.ref a1), .val (.int (3 : Int32)), .val (.ref mr), .unset] [])) _
    refine XS.iloadN X4.here hx rfl (hb hby d35_6) rfl ?_
    show Steps p.tables e below (T4.setTop (mkF m 7 #[.val (.ref a1), .val (.int (3 : Int32)), .val (.ref mr), .unset] [(.int (3 : Int32))])) _
    refine st5 _ ?_
    show Steps p.tables e below (T5.setTop (mkF m 10 #[.val (.ref a1), .val (.int (3 : Int32)), .val (.ref mr), .unset] [(.ref b5)])) _
    refine XS.goto X5.here hx rfl (pc0 := 10) (pc' := 24) rfl (hb hby d35_10) (by decide) (by decide) ?_
    refine XS.astoreN X5.here hx rfl (hb hby d35_24) rfl rfl (l' := #[.val (.ref a1), .val (.int (3 : Int32)), .val (.ref mr), .val (.ref b5)]) rfl ?_
    show Steps p.tables e below (T5.setTop (mkF m 25 #[.val (.ref a1), .val (.int (3 : Int32)), .val (.ref mr), .val (.ref b5)] [])) _
    refine XS.aloadN X5.here hx rfl (hb hby d35_25) rfl rfl ?_
    refine XS.iconst X5.here hx rfl (hb hby d35_26) ?_
    show Steps p.tables e below (T5.setTop (mkF m 27 #[.val (.ref a1), .val (.int (3 : Int32)), .val (.ref mr), .val (.ref b5)] [(.int (0 : Int32)), (.ref a1)])) _
    refine XS.aloadN X5.here hx rfl (hb hby d35_27) rfl rfl ?_
    refine XS.iconst X5.here hx rfl (hb hby d35_28) ?_
    show Steps p.tables e below (T5.setTop (mkF m 29 #[.val (.ref a1), .val (.int (3 : Int32)), .val (.ref mr), .val (.ref b5)] [(.int (0 : Int32)), (.ref b5), (.int (0 : Int32)), (.ref a1)])) _
    refine XS.aloadN X5.here hx rfl (hb hby d35_29) rfl rfl ?_
    show Steps p.tables e below (T5.setTop (mkF m 30 #[.val (.ref a1), .val (.int (3 : Int32)), .val (.ref mr), .val (.ref b5)] [(.ref a1), (.int (0 : Int32)), (.ref b5), (.int (0 : Int32)), (.ref a1)])) _
    refine X5.arraylength hx (by rw [e5]; exact (Ar_a1.ext E5).1) (State.isArrayOf_alike hZ.alike Ar_a1.2.1) (g := (mkF m 30 #[.val (.ref a1), .val (.int (3 : Int32)), .val (.ref mr), .val (.ref b5)] [(.ref a1), (.int (0 : Int32)), (.ref b5), (.int (0 : Int32)), (.ref a1)])) rfl rfl (hb hby d35_30) _ ?_
    rw [len_of S_a1 N_a1]
    show Steps p.tables e below (T5.setTop (mkF m 31 #[.val (.ref a1), .val (.int (3 : Int32)), .val (.ref mr), .val (.ref b5)] [(.int (10 : Int32)), (.int (0 : Int32)), (.ref b5), (.int (0 : Int32)), (.ref a1)])) _
    refine XS.iloadN X5.here hx rfl (hb hby d35_31) rfl ?_
    show Steps p.tables e below (T5.setTop (mkF m 32 #[.val (.ref a1), .val (.int (3 : Int32)), .val (.ref mr), .val (.ref b5)] [(.int (3 : Int32)), (.int (10 : Int32)), (.int (0 : Int32)), (.ref b5), (.int (0 : Int32)), (.ref a1)])) _
    refine st6 _ ?_
    show Steps p.tables e below (T6.setTop (mkF m 35 #[.val (.ref a1), .val (.int (3 : Int32)), .val (.ref mr), .val (.ref b5)] [(.int (3 : Int32)), (.int (0 : Int32)), (.ref b5), (.int (0 : Int32)), (.ref a1)])) _
    refine st7 _ ?_
    show Steps p.tables e below (T7.setTop (mkF m 38 #[.val (.ref a1), .val (.int (3 : Int32)), .val (.ref mr), .val (.ref b5)] [])) _
    refine XS.aloadN X7.here hx rfl (hb hby d35_38) rfl rfl ?_
    show Steps p.tables e below (T7.setTop (mkF m 39 #[.val (.ref a1), .val (.int (3 : Int32)), .val (.ref mr), .val (.ref b5)] [(.ref b5)])) _
    jvm_step X7.here [X7.here.top, hx, (hb hby d35_39), X7.method', Bd.returns, Value.isRef, FieldType.isReference]
    first | (intro acts; rw [hr _ acts rfl rfl rfl]) | rw [hr _ _ rfl rfl rfl]
    exact Steps.refl _
  · show own_C3 Z x0 x1 x2 h0 n0 _ T7.heap _
    rw [e7]
    rw [show (0 : Int32).toNatClampNeg = 0 from by decide, show (3 : Int32).toNatClampNeg = 3 from by decide] at Vx7
    exact ⟨b5, k5, rfl, Nx7, (K5.trans Kc6 (fun x hx => nomatch hx)).trans Kx7 (fun x hx => Or.inr (by cases List.mem_singleton.mp hx; exact sz_b5)), sz_b5, Vx7⟩
theorem d34_0 : decode jdk_65_method_119_code 0 = .ok (.aload_n 0, 1) := by decide +kernel
theorem d34_1 : decode jdk_65_method_119_code 1 = .ok (.iload_n 1, 1) := by decide +kernel
theorem d34_2 : decode jdk_65_method_119_code 2 = .ok (.aload_n 0, 1) := by decide +kernel
theorem d34_3 : decode jdk_65_method_119_code 3 = .ok (.invokevirtual 86, 3) := by decide +kernel
theorem d34_6 : decode jdk_65_method_119_code 6 = .ok (.invokestatic 300, 3) := by decide +kernel
theorem d34_9 : decode jdk_65_method_119_code 9 = .ok (.areturn, 1) := by decide +kernel
theorem pn_34 : plainName "java/util/Arrays" = true := by first | (simp [plainName, overriddenIn]; done) | decide +kernel
theorem pd_34_25 : parseMethodDescriptor "([Ljava/lang/Object;ILjava/lang/Class;)[Ljava/lang/Object;" = some ⟨[(.array (.object "java/lang/Object")), .int, (.object "java/lang/Class")], some (.array (.object "java/lang/Object"))⟩ := by decide +kernel
theorem ef_34 (m : MethodId) (x0 : Addr) (x1 : Int32) : entryFrame m #[(.ref x0), (.int x1)] 2 = mkF m 0 #[.val (.ref x0), .val (.int x1)] [] := by first | (simp [entryFrame, mkF, argsToLocals, Value.category]; done) | rfl
set_option maxRecDepth 65536 in
set_option maxHeartbeats 40000000 in
theorem rm34p1 (l : Launch) (Z : State) (a0 : Array Value) (hw : ∀ d ∈ tables_1, d.before a0 Z = true) (ws : List Jvm.Cond) (a1 mr : Addr) (k : ClassId) (x0 : Addr) (h0 : Heap) (n0 : Nat) (Z0 : n0 ≤ h0.size) (VA : Arv Z h0 a1 k (.object "java/lang/Object") (10 : Int32) [(.ref x0), .null, .null, .null, .null, .null, .null, .null, .null, .null] .null) (EXA : Exa Z h0 a1 "[Ljava/lang/Object;") (MIR : Mir Z "[Ljava/lang/Object;" mr) (Ex0 : Exa Z h0 x0 "java/lang/String") :
    MetFree l mN26 (head1 (Jvm.Cond.code mN26 jdk_65_method_119_code 2 (some (.array (.object "java/lang/Object"))) :: ws) ({ frames := 2, cells := 1, slots := 1, locals := 55 } : Room)) (fun a U => a = #[(.ref a1), (.int (1 : Int32))] ∧ Z.Warmed39 U.vm ∧ U.heap = h0) (fun _ _ _ _ _ => True) (fun _ U o U' => ∃ v L, o = .returned v ∧ own_C1 Z x0 h0 n0 v U'.heap L ∧ FrameEnd U o U' L ({ frames := 2, cells := 1, slots := 1, locals := 55 } : Room).cells ({ frames := 2, cells := 1, slots := 1, locals := 55 } : Room).slots) := by
  refine MetFree.of_bodySF (plainFor_of_name pn_34) hisR ?_
  intro p e s m args below meth c s₁ Bd hml0 hP hK
  obtain ⟨rfl, hZ, hh⟩ := hP
  have hx := Bd.exec
  have hby := Bd.bytes
  have hml : c.maxLocals = 2 := hml0
  have hown : s.vm.findClass "java/util/Arrays" = some m.cls := findClass_of_methodNamed Bd.named
  have hnm := (name_of_methodNamed Bd.named Bd.method).1
  have X0 : Stand p l e ({ frames := 2, cells := 1, slots := 1, locals := 55 } : Room) s m #[(.ref a1), (.int (1 : Int32))] below meth c s₁ [] 0 0 := Stand.of_body Bd
  have e0 : s₁.heap = h0 := by rw [← hh, Bd.state]; rfl
  have N0 := Fr.nil n0
  have pre0 : ∀ t, Steps p.tables e below (s₁.setTop (mkF m 0 #[.val (.ref a1), .val (.int (1 : Int32))] [])) t → Steps p.tables e below (s₁.setTop (entryFrame m #[(.ref a1), (.int (1 : Int32))] 2)) t := fun t k => castTop (ef_34 m a1 (1 : Int32)) k
  obtain ⟨T3, X3, e3, st3⟩ := gcls X0 hx hZ hown (wd hw 233 rfl) (wd hw 234 rfl) (wd hw 84 rfl) (wd hw 236 rfl) (wd hw 235 rfl) (wd hw 237 rfl) e0 EXA MIR (g := (mkF m 3 #[.val (.ref a1), .val (.int (1 : Int32))] [(.ref a1), (.int (1 : Int32)), (.ref a1)])) rfl (by rw [hml]; rfl) rfl (hb hby d34_3) (by decide) (W := 2) (by show 2 * 0 + _ ≤ _; exact Nat.le_of_eq rfl) (by decide)
  obtain ⟨_, _, ⟨T4, L4, k4, n4⟩, -, X4, ⟨Lc4, hQ4, l4, y4, z4⟩, st4⟩ := Jvm.LawKit.callS X3 hx (y := mN27) hown (mvT hZ (wd hw 239 rfl)) (mvT hZ (wd hw 240 rfl)) (mvT hZ (wd hw 231 rfl)) (mvT hZ (wd hw 241 rfl)) (by decide) (backOf (W := 0) (rm35p1 l Z a0 hw [] a1 mr k x0 h0 n0 Z0 VA MIR Ex0) hZ (wd hw 241 rfl) (wd hw 231 rfl) (by decide) (by decide)) (g := (mkF m 6 #[.val (.ref a1), .val (.int (1 : Int32))] [(.ref mr), (.int (1 : Int32)), (.ref a1)])) rfl (by rw [hml]; rfl) (argsL := [(.ref a1), (.int (1 : Int32)), (.ref mr)]) (rest := []) (lenOf pd_34_25 rfl) rfl (by show 2 * 0 + _ ≤ _; exact Nat.le_of_eq rfl) (hb hby d34_6) (fun _ _ => ⟨rfl, e3, (by decide : 0 + 1 ≤ _), (by decide : 0 + 1 ≤ _)⟩)
  dsimp only [Pt.U, Pt.locs, Pt.cells, Pt.slots] at X4 l4 y4 z4 st4 hQ4
  subst l4 y4 z4
  obtain ⟨d, kd, rfl, N4q, K4q, z4q, V4q⟩ := hQ4
  have N4 := Fr.app N0 N4q
  obtain ⟨fs, hr, hrun, hended, hW, hsame⟩ := X4.leave (v := some (.ref d)) (fun h => by rw [Bd.returns] at h; cases h)
  refine ⟨_, _, pre0 _ ?_, hrun, hended, _, _, rfl, ?_, ⟨_, rfl⟩, hW, hsame.mono (by decide) (by decide)⟩
  · show Steps p.tables e below (s₁.setTop (mkF m 0 #[.val (.ref a1), .val (.int (1 : Int32))] [])) _
    refine XS.aloadN X0.here hx rfl (hb hby d34_0) rfl rfl ?_
    refine XS.iloadN X0.here hx rfl (hb hby d34_1) rfl ?_
    show Steps p.tables e below (s₁.setTop (mkF m 2 #[.val (.ref a1), .val (.int (1 : Int32))] [(.int (1 : Int32)), (.ref a1)])) _
    refine XS.aloadN X0.here hx rfl (hb hby d34_2) rfl rfl ?_
    show Steps p.tables e below (s₁.setTop (mkF m 3 #[.val (.ref a1), .val (.int (1 : Int32))] [(.ref a1), (.int (1 : Int32)), (.ref a1)])) _
    refine st3 _ ?_
    show Steps p.tables e below (T3.setTop (mkF m 6 #[.val (.ref a1), .val (.int (1 : Int32))] [(.ref mr), (.int (1 : Int32)), (.ref a1)])) _
    refine st4 _ ?_
    show Steps p.tables e below (T4.setTop (mkF m 9 #[.val (.ref a1), .val (.int (1 : Int32))] [(.ref d)])) _
    jvm_step X4.here [X4.here.top, hx, (hb hby d34_9), X4.method', Bd.returns, Value.isRef, FieldType.isReference]
    first | (intro acts; rw [hr _ acts rfl rfl rfl]) | rw [hr _ _ rfl rfl rfl]
    exact Steps.refl _
  · show own_C1 Z x0 h0 n0 _ T4.heap _
    exact ⟨d, kd, rfl, N4, K4q, z4q, V4q⟩
theorem d33_0 : decode jdk_38_method_16_code 0 = .ok (.aload_n 0, 1) := by decide +kernel
theorem d33_1 : decode jdk_38_method_16_code 1 = .ok (.getfield 9, 3) := by decide +kernel
theorem d33_4 : decode jdk_38_method_16_code 4 = .ok (.aload_n 0, 1) := by decide +kernel
theorem d33_5 : decode jdk_38_method_16_code 5 = .ok (.getfield 48, 3) := by decide +kernel
theorem d33_8 : decode jdk_38_method_16_code 8 = .ok (.invokestatic 66, 3) := by decide +kernel
theorem d33_11 : decode jdk_38_method_16_code 11 = .ok (.areturn, 1) := by decide +kernel
theorem pn_33 : plainName "java/util/ArrayList" = true := by first | (simp [plainName, overriddenIn]; done) | decide +kernel
theorem pd_33_23 : parseMethodDescriptor "([Ljava/lang/Object;I)[Ljava/lang/Object;" = some ⟨[(.array (.object "java/lang/Object")), .int], some (.array (.object "java/lang/Object"))⟩ := by decide +kernel
theorem ef_33 (m : MethodId) (x0 : Addr) : entryFrame m #[(.ref x0)] 1 = mkF m 0 #[.val (.ref x0)] [] := by first | (simp [entryFrame, mkF, argsToLocals, Value.category]; done) | rfl
set_option maxRecDepth 65536 in
set_option maxHeartbeats 40000000 in
theorem rm33p1 (l : Launch) (Z : State) (a0 : Array Value) (hw : ∀ d ∈ tables_1, d.before a0 Z = true) (ws : List Jvm.Cond) (a1 a3 mr : Addr) (k : ClassId) (mc : Int32) (x0 : Addr) (h0 : Heap) (n0 : Nat) (Z0 : n0 ≤ h0.size) (hL : own_LS Z h0 a1 a3 k mc (1 : Int32) [(.ref x0), .null, .null, .null, .null, .null, .null, .null, .null, .null]) (MIR : Mir Z "[Ljava/lang/Object;" mr) (Ex0 : Exa Z h0 x0 "java/lang/String") :
    MetFree l mN25 (head1 (Jvm.Cond.code mN25 jdk_38_method_16_code 1 (some (.array (.object "java/lang/Object"))) :: ws) ({ frames := 3, cells := 1, slots := 1, locals := 68 } : Room)) (fun a U => a = #[(.ref a1)] ∧ Z.Warmed39 U.vm ∧ U.heap = h0) (fun _ _ _ _ _ => True) (fun _ U o U' => ∃ v L, o = .returned v ∧ own_C1 Z x0 h0 n0 v U'.heap L ∧ FrameEnd U o U' L ({ frames := 3, cells := 1, slots := 1, locals := 68 } : Room).cells ({ frames := 3, cells := 1, slots := 1, locals := 68 } : Room).slots) := by
  refine MetFree.of_bodySF (plainFor_of_name pn_33) hisR ?_
  intro p e s m args below meth c s₁ Bd hml0 hP hK
  obtain ⟨rfl, hZ, hh⟩ := hP
  have hx := Bd.exec
  have hby := Bd.bytes
  have hml : c.maxLocals = 1 := hml0
  have hown : s.vm.findClass "java/util/ArrayList" = some m.cls := findClass_of_methodNamed Bd.named
  have hnm := (name_of_methodNamed Bd.named Bd.method).1
  have X0 : Stand p l e ({ frames := 3, cells := 1, slots := 1, locals := 68 } : Room) s m #[(.ref a1)] below meth c s₁ [] 0 0 := Stand.of_body Bd
  have e0 : s₁.heap = h0 := by rw [← hh, Bd.state]; rfl
  have N0 := Fr.nil n0
  have pre0 : ∀ t, Steps p.tables e below (s₁.setTop (mkF m 0 #[.val (.ref a1)] [])) t → Steps p.tables e below (s₁.setTop (entryFrame m #[(.ref a1)] 1)) t := fun t k => castTop (ef_33 m a1) k
  obtain ⟨E_a1, F_mc, F_elementData_a1, F_size_a1, VA, O_a3, EX_a3⟩ := hL
  obtain ⟨T3, X3, e3, st3⟩ := getF X0 hx hZ hown (host := "") (Or.inl (wd hw 48 rfl)) Via.refl e0 F_elementData_a1 (g := (mkF m 1 #[.val (.ref a1)] [(.ref a1)])) rfl rfl (hb hby d33_1)
  obtain ⟨T5, X5, e5, st5⟩ := getF X3 hx hZ hown (host := "") (Or.inl (wd hw 95 rfl)) Via.refl e3 F_size_a1 (g := (mkF m 5 #[.val (.ref a1)] [(.ref a1), (.ref a3)])) rfl rfl (hb hby d33_5)
  obtain ⟨_, _, ⟨T6, L6, k6, n6⟩, -, X6, ⟨Lc6, hQ6, l6, y6, z6⟩, st6⟩ := Jvm.LawKit.callS X5 hx (y := mN26) hown (mvT hZ (wd hw 229 rfl)) (mvT hZ (wd hw 230 rfl)) (mvT hZ (wd hw 231 rfl)) (mvT hZ (wd hw 232 rfl)) (by decide) (backOf (W := 0) (rm34p1 l Z a0 hw [] a3 mr k x0 h0 n0 Z0 VA EX_a3 MIR Ex0) hZ (wd hw 232 rfl) (wd hw 231 rfl) (by decide) (by decide)) (g := (mkF m 8 #[.val (.ref a1)] [(.int (1 : Int32)), (.ref a3)])) rfl (by rw [hml]; rfl) (argsL := [(.ref a3), (.int (1 : Int32))]) (rest := []) (lenOf pd_33_23 rfl) rfl (by show 2 * 0 + _ ≤ _; exact Nat.le_of_eq rfl) (hb hby d33_8) (fun _ _ => ⟨rfl, e5, (by decide : 0 + 1 ≤ _), (by decide : 0 + 1 ≤ _)⟩)
  dsimp only [Pt.U, Pt.locs, Pt.cells, Pt.slots] at X6 l6 y6 z6 st6 hQ6
  subst l6 y6 z6
  obtain ⟨d, kd, rfl, N6q, K6q, z6q, V6q⟩ := hQ6
  have N6 := Fr.app N0 N6q
  obtain ⟨fs, hr, hrun, hended, hW, hsame⟩ := X6.leave (v := some (.ref d)) (fun h => by rw [Bd.returns] at h; cases h)
  refine ⟨_, _, pre0 _ ?_, hrun, hended, _, _, rfl, ?_, ⟨_, rfl⟩, hW, hsame.mono (by decide) (by decide)⟩
  · show Steps p.tables e below (s₁.setTop (mkF m 0 #[.val (.ref a1)] [])) _
    refine XS.aloadN X0.here hx rfl (hb hby d33_0) rfl rfl ?_
    show Steps p.tables e below (s₁.setTop (mkF m 1 #[.val (.ref a1)] [(.ref a1)])) _
    refine st3 _ ?_
    show Steps p.tables e below (T3.setTop (mkF m 4 #[.val (.ref a1)] [(.ref a3)])) _
    refine XS.aloadN X3.here hx rfl (hb hby d33_4) rfl rfl ?_
    show Steps p.tables e below (T3.setTop (mkF m 5 #[.val (.ref a1)] [(.ref a1), (.ref a3)])) _
    refine st5 _ ?_
    show Steps p.tables e below (T5.setTop (mkF m 8 #[.val (.ref a1)] [(.int (1 : Int32)), (.ref a3)])) _
    refine st6 _ ?_
    show Steps p.tables e below (T6.setTop (mkF m 11 #[.val (.ref a1)] [(.ref d)])) _
    jvm_step X6.here [X6.here.top, hx, (hb hby d33_11), X6.method', Bd.returns, Value.isRef, FieldType.isReference]
    first | (intro acts; rw [hr _ acts rfl rfl rfl]) | rw [hr _ _ rfl rfl rfl]
    exact Steps.refl _
  · show own_C1 Z x0 h0 n0 _ T6.heap _
    exact ⟨d, kd, rfl, N6, K6q, z6q, V6q⟩
set_option maxRecDepth 65536 in
set_option maxHeartbeats 40000000 in
theorem rm34p2 (l : Launch) (Z : State) (a0 : Array Value) (hw : ∀ d ∈ tables_1, d.before a0 Z = true) (ws : List Jvm.Cond) (a1 mr : Addr) (k : ClassId) (x0 x1 : Addr) (h0 : Heap) (n0 : Nat) (Z0 : n0 ≤ h0.size) (VA : Arv Z h0 a1 k (.object "java/lang/Object") (10 : Int32) [(.ref x0), (.ref x1), .null, .null, .null, .null, .null, .null, .null, .null] .null) (EXA : Exa Z h0 a1 "[Ljava/lang/Object;") (MIR : Mir Z "[Ljava/lang/Object;" mr) (Ex0 : Exa Z h0 x0 "java/lang/String") (Ex1 : Exa Z h0 x1 "java/lang/String") :
    MetFree l mN26 (head1 (Jvm.Cond.code mN26 jdk_65_method_119_code 2 (some (.array (.object "java/lang/Object"))) :: ws) ({ frames := 2, cells := 1, slots := 2, locals := 55 } : Room)) (fun a U => a = #[(.ref a1), (.int (2 : Int32))] ∧ Z.Warmed39 U.vm ∧ U.heap = h0) (fun _ _ _ _ _ => True) (fun _ U o U' => ∃ v L, o = .returned v ∧ own_C2 Z x0 x1 h0 n0 v U'.heap L ∧ FrameEnd U o U' L ({ frames := 2, cells := 1, slots := 2, locals := 55 } : Room).cells ({ frames := 2, cells := 1, slots := 2, locals := 55 } : Room).slots) := by
  refine MetFree.of_bodySF (plainFor_of_name pn_34) hisR ?_
  intro p e s m args below meth c s₁ Bd hml0 hP hK
  obtain ⟨rfl, hZ, hh⟩ := hP
  have hx := Bd.exec
  have hby := Bd.bytes
  have hml : c.maxLocals = 2 := hml0
  have hown : s.vm.findClass "java/util/Arrays" = some m.cls := findClass_of_methodNamed Bd.named
  have hnm := (name_of_methodNamed Bd.named Bd.method).1
  have X0 : Stand p l e ({ frames := 2, cells := 1, slots := 2, locals := 55 } : Room) s m #[(.ref a1), (.int (2 : Int32))] below meth c s₁ [] 0 0 := Stand.of_body Bd
  have e0 : s₁.heap = h0 := by rw [← hh, Bd.state]; rfl
  have N0 := Fr.nil n0
  have pre0 : ∀ t, Steps p.tables e below (s₁.setTop (mkF m 0 #[.val (.ref a1), .val (.int (2 : Int32))] [])) t → Steps p.tables e below (s₁.setTop (entryFrame m #[(.ref a1), (.int (2 : Int32))] 2)) t := fun t k => castTop (ef_34 m a1 (2 : Int32)) k
  obtain ⟨T3, X3, e3, st3⟩ := gcls X0 hx hZ hown (wd hw 233 rfl) (wd hw 234 rfl) (wd hw 84 rfl) (wd hw 236 rfl) (wd hw 235 rfl) (wd hw 237 rfl) e0 EXA MIR (g := (mkF m 3 #[.val (.ref a1), .val (.int (2 : Int32))] [(.ref a1), (.int (2 : Int32)), (.ref a1)])) rfl (by rw [hml]; rfl) rfl (hb hby d34_3) (by decide) (W := 2) (by show 2 * 0 + _ ≤ _; exact Nat.le_of_eq rfl) (by decide)
  obtain ⟨_, _, ⟨T4, L4, k4, n4⟩, -, X4, ⟨Lc4, hQ4, l4, y4, z4⟩, st4⟩ := Jvm.LawKit.callS X3 hx (y := mN27) hown (mvT hZ (wd hw 239 rfl)) (mvT hZ (wd hw 240 rfl)) (mvT hZ (wd hw 231 rfl)) (mvT hZ (wd hw 241 rfl)) (by decide) (backOf (W := 0) (rm35p2 l Z a0 hw [] a1 mr k x0 x1 h0 n0 Z0 VA MIR Ex0 Ex1) hZ (wd hw 241 rfl) (wd hw 231 rfl) (by decide) (by decide)) (g := (mkF m 6 #[.val (.ref a1), .val (.int (2 : Int32))] [(.ref mr), (.int (2 : Int32)), (.ref a1)])) rfl (by rw [hml]; rfl) (argsL := [(.ref a1), (.int (2 : Int32)), (.ref mr)]) (rest := []) (lenOf pd_34_25 rfl) rfl (by show 2 * 0 + _ ≤ _; exact Nat.le_of_eq rfl) (hb hby d34_6) (fun _ _ => ⟨rfl, e3, (by decide : 0 + 1 ≤ _), (by decide : 0 + 2 ≤ _)⟩)
  dsimp only [Pt.U, Pt.locs, Pt.cells, Pt.slots] at X4 l4 y4 z4 st4 hQ4
  subst l4 y4 z4
  obtain ⟨d, kd, rfl, N4q, K4q, z4q, V4q⟩ := hQ4
  have N4 := Fr.app N0 N4q
  obtain ⟨fs, hr, hrun, hended, hW, hsame⟩ := X4.leave (v := some (.ref d)) (fun h => by rw [Bd.returns] at h; cases h)
  refine ⟨_, _, pre0 _ ?_, hrun, hended, _, _, rfl, ?_, ⟨_, rfl⟩, hW, hsame.mono (by decide) (by decide)⟩
  · show Steps p.tables e below (s₁.setTop (mkF m 0 #[.val (.ref a1), .val (.int (2 : Int32))] [])) _
    refine XS.aloadN X0.here hx rfl (hb hby d34_0) rfl rfl ?_
    refine XS.iloadN X0.here hx rfl (hb hby d34_1) rfl ?_
    show Steps p.tables e below (s₁.setTop (mkF m 2 #[.val (.ref a1), .val (.int (2 : Int32))] [(.int (2 : Int32)), (.ref a1)])) _
    refine XS.aloadN X0.here hx rfl (hb hby d34_2) rfl rfl ?_
    show Steps p.tables e below (s₁.setTop (mkF m 3 #[.val (.ref a1), .val (.int (2 : Int32))] [(.ref a1), (.int (2 : Int32)), (.ref a1)])) _
    refine st3 _ ?_
    show Steps p.tables e below (T3.setTop (mkF m 6 #[.val (.ref a1), .val (.int (2 : Int32))] [(.ref mr), (.int (2 : Int32)), (.ref a1)])) _
    refine st4 _ ?_
    show Steps p.tables e below (T4.setTop (mkF m 9 #[.val (.ref a1), .val (.int (2 : Int32))] [(.ref d)])) _
    jvm_step X4.here [X4.here.top, hx, (hb hby d34_9), X4.method', Bd.returns, Value.isRef, FieldType.isReference]
    first | (intro acts; rw [hr _ acts rfl rfl rfl]) | rw [hr _ _ rfl rfl rfl]
    exact Steps.refl _
  · show own_C2 Z x0 x1 h0 n0 _ T4.heap _
    exact ⟨d, kd, rfl, N4, K4q, z4q, V4q⟩
set_option maxRecDepth 65536 in
set_option maxHeartbeats 40000000 in
theorem rm33p2 (l : Launch) (Z : State) (a0 : Array Value) (hw : ∀ d ∈ tables_1, d.before a0 Z = true) (ws : List Jvm.Cond) (a1 a3 mr : Addr) (k : ClassId) (mc : Int32) (x0 x1 : Addr) (h0 : Heap) (n0 : Nat) (Z0 : n0 ≤ h0.size) (hL : own_LS Z h0 a1 a3 k mc (2 : Int32) [(.ref x0), (.ref x1), .null, .null, .null, .null, .null, .null, .null, .null]) (MIR : Mir Z "[Ljava/lang/Object;" mr) (Ex0 : Exa Z h0 x0 "java/lang/String") (Ex1 : Exa Z h0 x1 "java/lang/String") :
    MetFree l mN25 (head1 (Jvm.Cond.code mN25 jdk_38_method_16_code 1 (some (.array (.object "java/lang/Object"))) :: ws) ({ frames := 3, cells := 1, slots := 2, locals := 68 } : Room)) (fun a U => a = #[(.ref a1)] ∧ Z.Warmed39 U.vm ∧ U.heap = h0) (fun _ _ _ _ _ => True) (fun _ U o U' => ∃ v L, o = .returned v ∧ own_C2 Z x0 x1 h0 n0 v U'.heap L ∧ FrameEnd U o U' L ({ frames := 3, cells := 1, slots := 2, locals := 68 } : Room).cells ({ frames := 3, cells := 1, slots := 2, locals := 68 } : Room).slots) := by
  refine MetFree.of_bodySF (plainFor_of_name pn_33) hisR ?_
  intro p e s m args below meth c s₁ Bd hml0 hP hK
  obtain ⟨rfl, hZ, hh⟩ := hP
  have hx := Bd.exec
  have hby := Bd.bytes
  have hml : c.maxLocals = 1 := hml0
  have hown : s.vm.findClass "java/util/ArrayList" = some m.cls := findClass_of_methodNamed Bd.named
  have hnm := (name_of_methodNamed Bd.named Bd.method).1
  have X0 : Stand p l e ({ frames := 3, cells := 1, slots := 2, locals := 68 } : Room) s m #[(.ref a1)] below meth c s₁ [] 0 0 := Stand.of_body Bd
  have e0 : s₁.heap = h0 := by rw [← hh, Bd.state]; rfl
  have N0 := Fr.nil n0
  have pre0 : ∀ t, Steps p.tables e below (s₁.setTop (mkF m 0 #[.val (.ref a1)] [])) t → Steps p.tables e below (s₁.setTop (entryFrame m #[(.ref a1)] 1)) t := fun t k => castTop (ef_33 m a1) k
  obtain ⟨E_a1, F_mc, F_elementData_a1, F_size_a1, VA, O_a3, EX_a3⟩ := hL
  obtain ⟨T3, X3, e3, st3⟩ := getF X0 hx hZ hown (host := "") (Or.inl (wd hw 48 rfl)) Via.refl e0 F_elementData_a1 (g := (mkF m 1 #[.val (.ref a1)] [(.ref a1)])) rfl rfl (hb hby d33_1)
  obtain ⟨T5, X5, e5, st5⟩ := getF X3 hx hZ hown (host := "") (Or.inl (wd hw 95 rfl)) Via.refl e3 F_size_a1 (g := (mkF m 5 #[.val (.ref a1)] [(.ref a1), (.ref a3)])) rfl rfl (hb hby d33_5)
  obtain ⟨_, _, ⟨T6, L6, k6, n6⟩, -, X6, ⟨Lc6, hQ6, l6, y6, z6⟩, st6⟩ := Jvm.LawKit.callS X5 hx (y := mN26) hown (mvT hZ (wd hw 229 rfl)) (mvT hZ (wd hw 230 rfl)) (mvT hZ (wd hw 231 rfl)) (mvT hZ (wd hw 232 rfl)) (by decide) (backOf (W := 0) (rm34p2 l Z a0 hw [] a3 mr k x0 x1 h0 n0 Z0 VA EX_a3 MIR Ex0 Ex1) hZ (wd hw 232 rfl) (wd hw 231 rfl) (by decide) (by decide)) (g := (mkF m 8 #[.val (.ref a1)] [(.int (2 : Int32)), (.ref a3)])) rfl (by rw [hml]; rfl) (argsL := [(.ref a3), (.int (2 : Int32))]) (rest := []) (lenOf pd_33_23 rfl) rfl (by show 2 * 0 + _ ≤ _; exact Nat.le_of_eq rfl) (hb hby d33_8) (fun _ _ => ⟨rfl, e5, (by decide : 0 + 1 ≤ _), (by decide : 0 + 2 ≤ _)⟩)
  dsimp only [Pt.U, Pt.locs, Pt.cells, Pt.slots] at X6 l6 y6 z6 st6 hQ6
  subst l6 y6 z6
  obtain ⟨d, kd, rfl, N6q, K6q, z6q, V6q⟩ := hQ6
  have N6 := Fr.app N0 N6q
  obtain ⟨fs, hr, hrun, hended, hW, hsame⟩ := X6.leave (v := some (.ref d)) (fun h => by rw [Bd.returns] at h; cases h)
  refine ⟨_, _, pre0 _ ?_, hrun, hended, _, _, rfl, ?_, ⟨_, rfl⟩, hW, hsame.mono (by decide) (by decide)⟩
  · show Steps p.tables e below (s₁.setTop (mkF m 0 #[.val (.ref a1)] [])) _
    refine XS.aloadN X0.here hx rfl (hb hby d33_0) rfl rfl ?_
    show Steps p.tables e below (s₁.setTop (mkF m 1 #[.val (.ref a1)] [(.ref a1)])) _
    refine st3 _ ?_
    show Steps p.tables e below (T3.setTop (mkF m 4 #[.val (.ref a1)] [(.ref a3)])) _
    refine XS.aloadN X3.here hx rfl (hb hby d33_4) rfl rfl ?_
    show Steps p.tables e below (T3.setTop (mkF m 5 #[.val (.ref a1)] [(.ref a1), (.ref a3)])) _
    refine st5 _ ?_
    show Steps p.tables e below (T5.setTop (mkF m 8 #[.val (.ref a1)] [(.int (2 : Int32)), (.ref a3)])) _
    refine st6 _ ?_
    show Steps p.tables e below (T6.setTop (mkF m 11 #[.val (.ref a1)] [(.ref d)])) _
    jvm_step X6.here [X6.here.top, hx, (hb hby d33_11), X6.method', Bd.returns, Value.isRef, FieldType.isReference]
    first | (intro acts; rw [hr _ acts rfl rfl rfl]) | rw [hr _ _ rfl rfl rfl]
    exact Steps.refl _
  · show own_C2 Z x0 x1 h0 n0 _ T6.heap _
    exact ⟨d, kd, rfl, N6, K6q, z6q, V6q⟩
set_option maxRecDepth 65536 in
set_option maxHeartbeats 40000000 in
theorem rm34p3 (l : Launch) (Z : State) (a0 : Array Value) (hw : ∀ d ∈ tables_1, d.before a0 Z = true) (ws : List Jvm.Cond) (a1 mr : Addr) (k : ClassId) (x0 x1 x2 : Addr) (h0 : Heap) (n0 : Nat) (Z0 : n0 ≤ h0.size) (VA : Arv Z h0 a1 k (.object "java/lang/Object") (10 : Int32) [(.ref x0), (.ref x1), (.ref x2), .null, .null, .null, .null, .null, .null, .null] .null) (EXA : Exa Z h0 a1 "[Ljava/lang/Object;") (MIR : Mir Z "[Ljava/lang/Object;" mr) (Ex0 : Exa Z h0 x0 "java/lang/String") (Ex1 : Exa Z h0 x1 "java/lang/String") (Ex2 : Exa Z h0 x2 "java/lang/String") :
    MetFree l mN26 (head1 (Jvm.Cond.code mN26 jdk_65_method_119_code 2 (some (.array (.object "java/lang/Object"))) :: ws) ({ frames := 2, cells := 1, slots := 3, locals := 55 } : Room)) (fun a U => a = #[(.ref a1), (.int (3 : Int32))] ∧ Z.Warmed39 U.vm ∧ U.heap = h0) (fun _ _ _ _ _ => True) (fun _ U o U' => ∃ v L, o = .returned v ∧ own_C3 Z x0 x1 x2 h0 n0 v U'.heap L ∧ FrameEnd U o U' L ({ frames := 2, cells := 1, slots := 3, locals := 55 } : Room).cells ({ frames := 2, cells := 1, slots := 3, locals := 55 } : Room).slots) := by
  refine MetFree.of_bodySF (plainFor_of_name pn_34) hisR ?_
  intro p e s m args below meth c s₁ Bd hml0 hP hK
  obtain ⟨rfl, hZ, hh⟩ := hP
  have hx := Bd.exec
  have hby := Bd.bytes
  have hml : c.maxLocals = 2 := hml0
  have hown : s.vm.findClass "java/util/Arrays" = some m.cls := findClass_of_methodNamed Bd.named
  have hnm := (name_of_methodNamed Bd.named Bd.method).1
  have X0 : Stand p l e ({ frames := 2, cells := 1, slots := 3, locals := 55 } : Room) s m #[(.ref a1), (.int (3 : Int32))] below meth c s₁ [] 0 0 := Stand.of_body Bd
  have e0 : s₁.heap = h0 := by rw [← hh, Bd.state]; rfl
  have N0 := Fr.nil n0
  have pre0 : ∀ t, Steps p.tables e below (s₁.setTop (mkF m 0 #[.val (.ref a1), .val (.int (3 : Int32))] [])) t → Steps p.tables e below (s₁.setTop (entryFrame m #[(.ref a1), (.int (3 : Int32))] 2)) t := fun t k => castTop (ef_34 m a1 (3 : Int32)) k
  obtain ⟨T3, X3, e3, st3⟩ := gcls X0 hx hZ hown (wd hw 233 rfl) (wd hw 234 rfl) (wd hw 84 rfl) (wd hw 236 rfl) (wd hw 235 rfl) (wd hw 237 rfl) e0 EXA MIR (g := (mkF m 3 #[.val (.ref a1), .val (.int (3 : Int32))] [(.ref a1), (.int (3 : Int32)), (.ref a1)])) rfl (by rw [hml]; rfl) rfl (hb hby d34_3) (by decide) (W := 2) (by show 2 * 0 + _ ≤ _; exact Nat.le_of_eq rfl) (by decide)
  obtain ⟨_, _, ⟨T4, L4, k4, n4⟩, -, X4, ⟨Lc4, hQ4, l4, y4, z4⟩, st4⟩ := Jvm.LawKit.callS X3 hx (y := mN27) hown (mvT hZ (wd hw 239 rfl)) (mvT hZ (wd hw 240 rfl)) (mvT hZ (wd hw 231 rfl)) (mvT hZ (wd hw 241 rfl)) (by decide) (backOf (W := 0) (rm35p3 l Z a0 hw [] a1 mr k x0 x1 x2 h0 n0 Z0 VA MIR Ex0 Ex1 Ex2) hZ (wd hw 241 rfl) (wd hw 231 rfl) (by decide) (by decide)) (g := (mkF m 6 #[.val (.ref a1), .val (.int (3 : Int32))] [(.ref mr), (.int (3 : Int32)), (.ref a1)])) rfl (by rw [hml]; rfl) (argsL := [(.ref a1), (.int (3 : Int32)), (.ref mr)]) (rest := []) (lenOf pd_34_25 rfl) rfl (by show 2 * 0 + _ ≤ _; exact Nat.le_of_eq rfl) (hb hby d34_6) (fun _ _ => ⟨rfl, e3, (by decide : 0 + 1 ≤ _), (by decide : 0 + 3 ≤ _)⟩)
  dsimp only [Pt.U, Pt.locs, Pt.cells, Pt.slots] at X4 l4 y4 z4 st4 hQ4
  subst l4 y4 z4
  obtain ⟨d, kd, rfl, N4q, K4q, z4q, V4q⟩ := hQ4
  have N4 := Fr.app N0 N4q
  obtain ⟨fs, hr, hrun, hended, hW, hsame⟩ := X4.leave (v := some (.ref d)) (fun h => by rw [Bd.returns] at h; cases h)
  refine ⟨_, _, pre0 _ ?_, hrun, hended, _, _, rfl, ?_, ⟨_, rfl⟩, hW, hsame.mono (by decide) (by decide)⟩
  · show Steps p.tables e below (s₁.setTop (mkF m 0 #[.val (.ref a1), .val (.int (3 : Int32))] [])) _
    refine XS.aloadN X0.here hx rfl (hb hby d34_0) rfl rfl ?_
    refine XS.iloadN X0.here hx rfl (hb hby d34_1) rfl ?_
    show Steps p.tables e below (s₁.setTop (mkF m 2 #[.val (.ref a1), .val (.int (3 : Int32))] [(.int (3 : Int32)), (.ref a1)])) _
    refine XS.aloadN X0.here hx rfl (hb hby d34_2) rfl rfl ?_
    show Steps p.tables e below (s₁.setTop (mkF m 3 #[.val (.ref a1), .val (.int (3 : Int32))] [(.ref a1), (.int (3 : Int32)), (.ref a1)])) _
    refine st3 _ ?_
    show Steps p.tables e below (T3.setTop (mkF m 6 #[.val (.ref a1), .val (.int (3 : Int32))] [(.ref mr), (.int (3 : Int32)), (.ref a1)])) _
    refine st4 _ ?_
    show Steps p.tables e below (T4.setTop (mkF m 9 #[.val (.ref a1), .val (.int (3 : Int32))] [(.ref d)])) _
    jvm_step X4.here [X4.here.top, hx, (hb hby d34_9), X4.method', Bd.returns, Value.isRef, FieldType.isReference]
    first | (intro acts; rw [hr _ acts rfl rfl rfl]) | rw [hr _ _ rfl rfl rfl]
    exact Steps.refl _
  · show own_C3 Z x0 x1 x2 h0 n0 _ T4.heap _
    exact ⟨d, kd, rfl, N4, K4q, z4q, V4q⟩
set_option maxRecDepth 65536 in
set_option maxHeartbeats 40000000 in
theorem rm33p3 (l : Launch) (Z : State) (a0 : Array Value) (hw : ∀ d ∈ tables_1, d.before a0 Z = true) (ws : List Jvm.Cond) (a1 a3 mr : Addr) (k : ClassId) (mc : Int32) (x0 x1 x2 : Addr) (h0 : Heap) (n0 : Nat) (Z0 : n0 ≤ h0.size) (hL : own_LS Z h0 a1 a3 k mc (3 : Int32) [(.ref x0), (.ref x1), (.ref x2), .null, .null, .null, .null, .null, .null, .null]) (MIR : Mir Z "[Ljava/lang/Object;" mr) (Ex0 : Exa Z h0 x0 "java/lang/String") (Ex1 : Exa Z h0 x1 "java/lang/String") (Ex2 : Exa Z h0 x2 "java/lang/String") :
    MetFree l mN25 (head1 (Jvm.Cond.code mN25 jdk_38_method_16_code 1 (some (.array (.object "java/lang/Object"))) :: ws) ({ frames := 3, cells := 1, slots := 3, locals := 68 } : Room)) (fun a U => a = #[(.ref a1)] ∧ Z.Warmed39 U.vm ∧ U.heap = h0) (fun _ _ _ _ _ => True) (fun _ U o U' => ∃ v L, o = .returned v ∧ own_C3 Z x0 x1 x2 h0 n0 v U'.heap L ∧ FrameEnd U o U' L ({ frames := 3, cells := 1, slots := 3, locals := 68 } : Room).cells ({ frames := 3, cells := 1, slots := 3, locals := 68 } : Room).slots) := by
  refine MetFree.of_bodySF (plainFor_of_name pn_33) hisR ?_
  intro p e s m args below meth c s₁ Bd hml0 hP hK
  obtain ⟨rfl, hZ, hh⟩ := hP
  have hx := Bd.exec
  have hby := Bd.bytes
  have hml : c.maxLocals = 1 := hml0
  have hown : s.vm.findClass "java/util/ArrayList" = some m.cls := findClass_of_methodNamed Bd.named
  have hnm := (name_of_methodNamed Bd.named Bd.method).1
  have X0 : Stand p l e ({ frames := 3, cells := 1, slots := 3, locals := 68 } : Room) s m #[(.ref a1)] below meth c s₁ [] 0 0 := Stand.of_body Bd
  have e0 : s₁.heap = h0 := by rw [← hh, Bd.state]; rfl
  have N0 := Fr.nil n0
  have pre0 : ∀ t, Steps p.tables e below (s₁.setTop (mkF m 0 #[.val (.ref a1)] [])) t → Steps p.tables e below (s₁.setTop (entryFrame m #[(.ref a1)] 1)) t := fun t k => castTop (ef_33 m a1) k
  obtain ⟨E_a1, F_mc, F_elementData_a1, F_size_a1, VA, O_a3, EX_a3⟩ := hL
  obtain ⟨T3, X3, e3, st3⟩ := getF X0 hx hZ hown (host := "") (Or.inl (wd hw 48 rfl)) Via.refl e0 F_elementData_a1 (g := (mkF m 1 #[.val (.ref a1)] [(.ref a1)])) rfl rfl (hb hby d33_1)
  obtain ⟨T5, X5, e5, st5⟩ := getF X3 hx hZ hown (host := "") (Or.inl (wd hw 95 rfl)) Via.refl e3 F_size_a1 (g := (mkF m 5 #[.val (.ref a1)] [(.ref a1), (.ref a3)])) rfl rfl (hb hby d33_5)
  obtain ⟨_, _, ⟨T6, L6, k6, n6⟩, -, X6, ⟨Lc6, hQ6, l6, y6, z6⟩, st6⟩ := Jvm.LawKit.callS X5 hx (y := mN26) hown (mvT hZ (wd hw 229 rfl)) (mvT hZ (wd hw 230 rfl)) (mvT hZ (wd hw 231 rfl)) (mvT hZ (wd hw 232 rfl)) (by decide) (backOf (W := 0) (rm34p3 l Z a0 hw [] a3 mr k x0 x1 x2 h0 n0 Z0 VA EX_a3 MIR Ex0 Ex1 Ex2) hZ (wd hw 232 rfl) (wd hw 231 rfl) (by decide) (by decide)) (g := (mkF m 8 #[.val (.ref a1)] [(.int (3 : Int32)), (.ref a3)])) rfl (by rw [hml]; rfl) (argsL := [(.ref a3), (.int (3 : Int32))]) (rest := []) (lenOf pd_33_23 rfl) rfl (by show 2 * 0 + _ ≤ _; exact Nat.le_of_eq rfl) (hb hby d33_8) (fun _ _ => ⟨rfl, e5, (by decide : 0 + 1 ≤ _), (by decide : 0 + 3 ≤ _)⟩)
  dsimp only [Pt.U, Pt.locs, Pt.cells, Pt.slots] at X6 l6 y6 z6 st6 hQ6
  subst l6 y6 z6
  obtain ⟨d, kd, rfl, N6q, K6q, z6q, V6q⟩ := hQ6
  have N6 := Fr.app N0 N6q
  obtain ⟨fs, hr, hrun, hended, hW, hsame⟩ := X6.leave (v := some (.ref d)) (fun h => by rw [Bd.returns] at h; cases h)
  refine ⟨_, _, pre0 _ ?_, hrun, hended, _, _, rfl, ?_, ⟨_, rfl⟩, hW, hsame.mono (by decide) (by decide)⟩
  · show Steps p.tables e below (s₁.setTop (mkF m 0 #[.val (.ref a1)] [])) _
    refine XS.aloadN X0.here hx rfl (hb hby d33_0) rfl rfl ?_
    show Steps p.tables e below (s₁.setTop (mkF m 1 #[.val (.ref a1)] [(.ref a1)])) _
    refine st3 _ ?_
    show Steps p.tables e below (T3.setTop (mkF m 4 #[.val (.ref a1)] [(.ref a3)])) _
    refine XS.aloadN X3.here hx rfl (hb hby d33_4) rfl rfl ?_
    show Steps p.tables e below (T3.setTop (mkF m 5 #[.val (.ref a1)] [(.ref a1), (.ref a3)])) _
    refine st5 _ ?_
    show Steps p.tables e below (T5.setTop (mkF m 8 #[.val (.ref a1)] [(.int (3 : Int32)), (.ref a3)])) _
    refine st6 _ ?_
    show Steps p.tables e below (T6.setTop (mkF m 11 #[.val (.ref a1)] [(.ref d)])) _
    jvm_step X6.here [X6.here.top, hx, (hb hby d33_11), X6.method', Bd.returns, Value.isRef, FieldType.isReference]
    first | (intro acts; rw [hr _ acts rfl rfl rfl]) | rw [hr _ _ rfl rfl rfl]
    exact Steps.refl _
  · show own_C3 Z x0 x1 x2 h0 n0 _ T6.heap _
    exact ⟨d, kd, rfl, N6, K6q, z6q, V6q⟩
def own_L0 (Z : State) (h : Heap) (x : Addr) : Prop := Exa Z h x "java/util/ImmutableCollections$ListN" ∧ ∃ (d : Addr) (cl : Cell), Fld Z h x "java/util/ImmutableCollections$ListN" "elements" "[Ljava/lang/Object;" (.ref d) ∧ Arr Z h d cl (.object "java/lang/Object") ∧ cl.slots.size = (0 : Int32).toNatClampNeg
def own_MG (Z : State) (B : Heap → Addr → Prop) (h0 : Heap) (n0 : Nat) (v : Option Value) (h : Heap) (L : List Loc) : Prop := ∃ x : Addr, v = some (.ref x) ∧ Fr n0 L ∧ Keep h0 h [] ∧ B h x
def own_L1 (Z : State) (h : Heap) (x x0 wEm : Addr) : Prop := Exa Z h x "java/util/ImmutableCollections$List12" ∧ Fld Z h x "java/util/ImmutableCollections$List12" "e0" "Ljava/lang/Object;" (.ref x0) ∧ Fld Z h x "java/util/ImmutableCollections$List12" "e1" "Ljava/lang/Object;" (.ref wEm)
def own_L2 (Z : State) (h : Heap) (x x0 x1 : Addr) : Prop := Exa Z h x "java/util/ImmutableCollections$List12" ∧ Fld Z h x "java/util/ImmutableCollections$List12" "e0" "Ljava/lang/Object;" (.ref x0) ∧ Fld Z h x "java/util/ImmutableCollections$List12" "e1" "Ljava/lang/Object;" (.ref x1)
def own_L3 (Z : State) (h : Heap) (x x0 x1 x2 : Addr) : Prop := Exa Z h x "java/util/ImmutableCollections$ListN" ∧ ∃ (d : Addr) (k : ClassId), Fld Z h x "java/util/ImmutableCollections$ListN" "elements" "[Ljava/lang/Object;" (.ref d) ∧ Arv Z h d k (.object "java/lang/Object") (3 : Int32) [(.ref x0), (.ref x1), (.ref x2)] .null
theorem own_L1.keep {Z : State} {h h' : Heap} {x x0 x1 : Addr} {ws : List Addr} (S : own_L1 Z h x x0 x1) (K : Keep h h' ws) (q : x ∉ ws) : own_L1 Z h' x x0 x1 := ⟨S.1.keep K, S.2.1.keep K q, S.2.2.keep K q⟩
theorem own_L2.keep {Z : State} {h h' : Heap} {x x0 x1 : Addr} {ws : List Addr} (S : own_L2 Z h x x0 x1) (K : Keep h h' ws) (q : x ∉ ws) : own_L2 Z h' x x0 x1 := ⟨S.1.keep K, S.2.1.keep K q, S.2.2.keep K q⟩
def own_M1 (Z : State) (x0 wEm : Addr) (h0 : Heap) (n0 : Nat) (v : Option Value) (h : Heap) (L : List Loc) : Prop := ∃ x : Addr, v = some (.ref x) ∧ Fr n0 L ∧ Keep h0 h [] ∧ h0.size ≤ x ∧ own_L1 Z h x x0 wEm
def own_M2 (Z : State) (x0 x1 : Addr) (h0 : Heap) (n0 : Nat) (v : Option Value) (h : Heap) (L : List Loc) : Prop := ∃ x : Addr, v = some (.ref x) ∧ Fr n0 L ∧ Keep h0 h [] ∧ h0.size ≤ x ∧ own_L2 Z h x x0 x1
def own_M3 (Z : State) (x0 x1 x2 : Addr) (h0 : Heap) (n0 : Nat) (v : Option Value) (h : Heap) (L : List Loc) : Prop := ∃ x : Addr, v = some (.ref x) ∧ Fr n0 L ∧ Keep h0 h [] ∧ h0.size ≤ x ∧ own_L3 Z h x x0 x1 x2
theorem own_mvM {Z s : State} {a0 args : Array Value} {own host : String} {index : Nat} {y : MethodName} (hZ : Z.Warmed39 s.vm) (w : (Cond.methodLinkNest own index y host).before a0 Z = true) : (Cond.methodLinkNest own index y host).before args s = true := (Cond.methodLinkNest_wide hZ w :)
theorem d44_0 : decode jdk_56_method_4_code 0 = .ok (.aload_n 0, 1) := by decide +kernel
theorem d44_1 : decode jdk_56_method_4_code 1 = .ok (.arraylength, 1) := by decide +kernel
theorem d44_2 : decode jdk_56_method_4_code 2 = .ok (.anewarray 2, 3) := by decide +kernel
theorem d44_5 : decode jdk_56_method_4_code 5 = .ok (.astore_n 1, 1) := by decide +kernel
theorem d44_6 : decode jdk_56_method_4_code 6 = .ok (.iconst 0, 1) := by decide +kernel
theorem d44_7 : decode jdk_56_method_4_code 7 = .ok (.istore_n 2, 1) := by decide +kernel
theorem d44_8 : decode jdk_56_method_4_code 8 = .ok (.iload_n 2, 1) := by decide +kernel
theorem d44_9 : decode jdk_56_method_4_code 9 = .ok (.aload_n 0, 1) := by decide +kernel
theorem d44_10 : decode jdk_56_method_4_code 10 = .ok (.arraylength, 1) := by decide +kernel
theorem d44_11 : decode jdk_56_method_4_code 11 = .ok (.if_icmp .ge 18, 3) := by decide +kernel
theorem d44_14 : decode jdk_56_method_4_code 14 = .ok (.aload_n 1, 1) := by decide +kernel
theorem d44_15 : decode jdk_56_method_4_code 15 = .ok (.iload_n 2, 1) := by decide +kernel
theorem d44_16 : decode jdk_56_method_4_code 16 = .ok (.aload_n 0, 1) := by decide +kernel
theorem d44_17 : decode jdk_56_method_4_code 17 = .ok (.iload_n 2, 1) := by decide +kernel
theorem d44_18 : decode jdk_56_method_4_code 18 = .ok (.aaload, 1) := by decide +kernel
theorem d44_19 : decode jdk_56_method_4_code 19 = .ok (.invokestatic 37, 3) := by decide +kernel
theorem d44_22 : decode jdk_56_method_4_code 22 = .ok (.aastore, 1) := by decide +kernel
theorem d44_23 : decode jdk_56_method_4_code 23 = .ok (.iinc 2 1, 3) := by decide +kernel
theorem d44_26 : decode jdk_56_method_4_code 26 = .ok (.goto (-18), 3) := by decide +kernel
theorem d44_29 : decode jdk_56_method_4_code 29 = .ok (.new 12, 3) := by decide +kernel
theorem d44_32 : decode jdk_56_method_4_code 32 = .ok (.dup, 1) := by decide +kernel
theorem d44_33 : decode jdk_56_method_4_code 33 = .ok (.aload_n 1, 1) := by decide +kernel
theorem d44_34 : decode jdk_56_method_4_code 34 = .ok (.iconst 0, 1) := by decide +kernel
theorem d44_35 : decode jdk_56_method_4_code 35 = .ok (.invokespecial 43, 3) := by decide +kernel
theorem d44_38 : decode jdk_56_method_4_code 38 = .ok (.areturn, 1) := by decide +kernel
theorem pn_44 : plainName "java/util/ImmutableCollections" = true := by first | (simp [plainName, overriddenIn]; done) | decide +kernel
theorem pd_44_29 : parseMethodDescriptor "(Ljava/lang/Object;)Ljava/lang/Object;" = some ⟨[(.object "java/lang/Object")], some (.object "java/lang/Object")⟩ := by decide +kernel
theorem pd_44_31 : parseMethodDescriptor "([Ljava/lang/Object;Z)V" = some ⟨[(.array (.object "java/lang/Object")), .boolean], none⟩ := by decide +kernel
theorem ef_44 (m : MethodId) (x0 : Addr) : entryFrame m #[(.ref x0)] 3 = mkF m 0 #[.val (.ref x0), .unset, .unset] [] := by first | (simp [entryFrame, mkF, argsToLocals, Value.category]; done) | rfl
set_option maxRecDepth 65536 in
set_option maxHeartbeats 40000000 in
theorem rm44 (l : Launch) (Z : State) (a0 : Array Value) (hw : ∀ d ∈ tables_1, d.before a0 Z = true) (ws : List Jvm.Cond) (a1 : Addr) (k : ClassId) (x0 x1 x2 : Addr) (h0 : Heap) (n0 : Nat) (Z0 : n0 ≤ h0.size) (VA : Arv Z h0 a1 k (.object "java/lang/Object") (3 : Int32) [(.ref x0), (.ref x1), (.ref x2)] .null) (Ex0 : Exa Z h0 x0 "java/lang/String") (Ex1 : Exa Z h0 x1 "java/lang/String") (Ex2 : Exa Z h0 x2 "java/lang/String") :
    MetFree l mN31 (head1 (Jvm.Cond.code mN31 jdk_56_method_4_code 3 (some (.object "java/util/List")) :: ws) ({ frames := 5, cells := 2, slots := 5, locals := 63 } : Room)) (fun a U => a = #[(.ref a1)] ∧ Z.Warmed39 U.vm ∧ U.heap = h0) (fun _ _ _ _ _ => True) (fun _ U o U' => ∃ v L, o = .returned v ∧ own_M3 Z x0 x1 x2 h0 n0 v U'.heap L ∧ FrameEnd U o U' L ({ frames := 5, cells := 2, slots := 5, locals := 63 } : Room).cells ({ frames := 5, cells := 2, slots := 5, locals := 63 } : Room).slots) := by
  refine MetFree.of_bodySF (plainFor_of_name pn_44) hisR ?_
  intro p e s m args below meth c s₁ Bd hml0 hP hK
  obtain ⟨rfl, hZ, hh⟩ := hP
  have hx := Bd.exec
  have hby := Bd.bytes
  have hml : c.maxLocals = 3 := hml0
  have hown : s.vm.findClass "java/util/ImmutableCollections" = some m.cls := findClass_of_methodNamed Bd.named
  have hnm := (name_of_methodNamed Bd.named Bd.method).1
  have X0 : Stand p l e ({ frames := 5, cells := 2, slots := 5, locals := 63 } : Room) s m #[(.ref a1)] below meth c s₁ [] 0 0 := Stand.of_body Bd
  have e0 : s₁.heap = h0 := by rw [← hh, Bd.state]; rfl
  have N0 := Fr.nil n0
  have pre0 : ∀ t, Steps p.tables e below (s₁.setTop (mkF m 0 #[.val (.ref a1), .unset, .unset] [])) t → Steps p.tables e below (s₁.setTop (entryFrame m #[(.ref a1)] 3)) t := fun t k => castTop (ef_44 m a1) k
  obtain ⟨cl_a1, Ar_a1, q_a1, S_a1, N_a1, H_a1, G_a1⟩ := id VA
  have hin18a : ¬ ((0 : Int32) < 0 ∨ cl_a1.slots.size ≤ ((0 : Int32)).toNatClampNeg) := inb_of S_a1 ⟨by decide, by decide⟩
  have hat18a : cl_a1.slots[((0 : Int32)).toNatClampNeg]? = some (.ref x0) := H_a1 0 (by rw [S_a1]; decide)
  have hin18b : ¬ (((0 : Int32) + (1 : Int32)) < 0 ∨ cl_a1.slots.size ≤ (((0 : Int32) + (1 : Int32))).toNatClampNeg) := inb_of S_a1 ⟨by decide, by decide⟩
  have hat18b : cl_a1.slots[(((0 : Int32) + (1 : Int32))).toNatClampNeg]? = some (.ref x1) := H_a1 1 (by rw [S_a1]; decide)
  have hin18c : ¬ ((((0 : Int32) + (1 : Int32)) + (1 : Int32)) < 0 ∨ cl_a1.slots.size ≤ ((((0 : Int32) + (1 : Int32)) + (1 : Int32))).toNatClampNeg) := inb_of S_a1 ⟨by decide, by decide⟩
  have hat18c : cl_a1.slots[((((0 : Int32) + (1 : Int32)) + (1 : Int32))).toNatClampNeg]? = some (.ref x2) := H_a1 2 (by rw [S_a1]; decide)
  obtain ⟨T2, h2, k2, X2, e2, E2, A2, O2, st2⟩ := newR X0 hx hZ hown (wd hw 301 rfl) (wd hw 144 rfl) e0 (g := (mkF m 2 #[.val (.ref a1), .unset, .unset] [(.int (3 : Int32))])) rfl (hb hby d44_2) rfl (by decide) (cap := 3) (by decide) (by decide) (by decide) (by decide)
  obtain ⟨b2, g2⟩ : ∃ z, z = h0.size := ⟨_, rfl⟩
  rw [← g2] at A2 st2
  have VB2 := (Arv.new A2 (by decide)).pad (vs' := [.null, .null, .null]) (pad_rep [] .null 3)
  have na : a1 ≠ b2 := Nat.ne_of_lt (Nat.lt_of_lt_of_le VA.lt (Nat.le_of_eq g2.symm))
  have Ar2 := Ar_a1.ext E2
  have g_b2 : n0 ≤ b2 := Nat.le_trans Z0 (Nat.le_of_eq g2.symm)
  have sz_b2 : h0.size ≤ b2 := (Nat.le_trans (Keep.refl h0 []).1 (Nat.le_of_eq g2.symm))
  have K2 : Keep h0 h2 [] := (Keep.refl h0 []).ext E2
  obtain ⟨_, _, ⟨T4, L4, k4, n4⟩, -, X4, ⟨Lc4, hQ4, l4, y4, z4⟩, st4⟩ := Jvm.LawKit.callS X2 hx (y := mN47) hown (mvT hZ (wd hw 302 rfl)) (mvT hZ (wd hw 276 rfl)) (mvT hZ (wd hw 277 rfl)) (mvT hZ (wd hw 278 rfl)) (by decide) (backOf (W := 2) (rm41 l Z a0 hw [] x0 h2 n0 (Nat.le_trans Z0 K2.1)) hZ (wd hw 278 rfl) (wd hw 277 rfl) (by decide) (by decide)) (g := (mkF m 19 #[.val (.ref a1), .val (.ref b2), .val (.int (0 : Int32))] [(.ref x0), (.int (0 : Int32)), (.ref b2)])) rfl (by rw [hml]; rfl) (argsL := [(.ref x0)]) (rest := [(.int (0 : Int32)), (.ref b2)]) (lenOf pd_44_29 rfl) rfl (by show 2 * 0 + _ ≤ _; exact Nat.le_of_eq rfl) (hb hby d44_19) (fun _ _ => ⟨rfl, e2, (by decide : 1 + 0 ≤ _), (by decide : 3 + 0 ≤ _)⟩)
  dsimp only [Pt.U, Pt.locs, Pt.cells, Pt.slots] at X4 l4 y4 z4 st4 hQ4
  subst l4 y4 z4
  obtain ⟨rfl, N4q, k4q⟩ := hQ4
  have Kc4 : Keep h2 T4.heap [] := by rw [k4q]; exact Keep.refl _ []
  have Kh4 : Keep h0 T4.heap [] := by rw [k4q]; exact K2
  have N4 := Fr.app N0 N4q
  obtain ⟨cb4, Arb4, qb4, Sb4, Nb4, Hb4, Gb4⟩ := VB2.keep Kc4 nin0
  have hin22_5 : ¬ ((0 : Int32) < 0 ∨ cb4.slots.size ≤ ((0 : Int32)).toNatClampNeg) := inb_of Sb4 ⟨by decide, by decide⟩
  have Sto22_5 : Sto Z T4.heap b2 (.ref x0) := Sto.ofV Arb4 qb4 O2 (Ins.of_exa (Ex0.keep Kh4) (wd hw 145 rfl))
  obtain ⟨T5, h5, X5, e5, W5, st5⟩ := stR X4 hx hZ rfl Arb4 (j := (0 : Int32)) hin22_5 rfl Sto22_5 (g := (mkF m 22 #[.val (.ref a1), .val (.ref b2), .val (.int (0 : Int32))] [(.ref x0), (.int (0 : Int32)), (.ref b2)])) rfl rfl (hb hby d44_22)
  have N5 := Fr.snoc X5 N4 g_b2
  have VB5 := Arv.set Arb4 qb4 Sb4 Nb4 Hb4 Gb4 (v := .ref x0) rfl W5 0 rfl (Nat.le_of_ble_eq_true rfl)
  have Ar5 : Arr Z h5 a1 cl_a1 (.object "java/lang/Object") := Arr.other W5 (by rw [k4q]; exact Ar2) na
  have K5 : Keep h0 h5 [] := Kh4.wr W5 (Or.inr sz_b2)
  obtain ⟨_, _, ⟨T7, L7, k7, n7⟩, -, X7, ⟨Lc7, hQ7, l7, y7, z7⟩, st7⟩ := Jvm.LawKit.callS X5 hx (y := mN47) hown (mvT hZ (wd hw 302 rfl)) (mvT hZ (wd hw 276 rfl)) (mvT hZ (wd hw 277 rfl)) (mvT hZ (wd hw 278 rfl)) (by decide) (backOf (W := 2) (rm41 l Z a0 hw [] x1 h5 n0 (Nat.le_trans Z0 K5.1)) hZ (wd hw 278 rfl) (wd hw 277 rfl) (by decide) (by decide)) (g := (mkF m 19 #[.val (.ref a1), .val (.ref b2), .val (.int ((0 : Int32) + (1 : Int32)))] [(.ref x1), (.int ((0 : Int32) + (1 : Int32))), (.ref b2)])) rfl (by rw [hml]; rfl) (argsL := [(.ref x1)]) (rest := [(.int ((0 : Int32) + (1 : Int32))), (.ref b2)]) (lenOf pd_44_29 rfl) rfl (by show 2 * 0 + _ ≤ _; exact Nat.le_of_eq rfl) (hb hby d44_19) (fun _ _ => ⟨rfl, e5, (by decide : 1 + 0 ≤ _), (by decide : 3 + 0 ≤ _)⟩)
  dsimp only [Pt.U, Pt.locs, Pt.cells, Pt.slots] at X7 l7 y7 z7 st7 hQ7
  subst l7 y7 z7
  obtain ⟨rfl, N7q, k7q⟩ := hQ7
  have Kc7 : Keep h5 T7.heap [] := by rw [k7q]; exact Keep.refl _ []
  have Kh7 : Keep h0 T7.heap [] := by rw [k7q]; exact K5
  have N7 := Fr.app N5 N7q
  obtain ⟨cb7, Arb7, qb7, Sb7, Nb7, Hb7, Gb7⟩ := VB5.keep Kc7 nin0
  have hin22_8 : ¬ (((0 : Int32) + (1 : Int32)) < 0 ∨ cb7.slots.size ≤ (((0 : Int32) + (1 : Int32))).toNatClampNeg) := inb_of Sb7 ⟨by decide, by decide⟩
  have Sto22_8 : Sto Z T7.heap b2 (.ref x1) := Sto.ofV Arb7 qb7 O2 (Ins.of_exa (Ex1.keep Kh7) (wd hw 145 rfl))
  obtain ⟨T8, h8, X8, e8, W8, st8⟩ := stR X7 hx hZ rfl Arb7 (j := ((0 : Int32) + (1 : Int32))) hin22_8 rfl Sto22_8 (g := (mkF m 22 #[.val (.ref a1), .val (.ref b2), .val (.int ((0 : Int32) + (1 : Int32)))] [(.ref x1), (.int ((0 : Int32) + (1 : Int32))), (.ref b2)])) rfl rfl (hb hby d44_22)
  have N8 := Fr.snoc X8 N7 g_b2
  have VB8 := Arv.set Arb7 qb7 Sb7 Nb7 Hb7 Gb7 (v := .ref x1) rfl W8 1 rfl (Nat.le_of_ble_eq_true rfl)
  have Ar8 : Arr Z h8 a1 cl_a1 (.object "java/lang/Object") := Arr.other W8 (by rw [k7q]; exact Ar5) na
  have K8 : Keep h0 h8 [] := Kh7.wr W8 (Or.inr sz_b2)
  obtain ⟨_, _, ⟨T10, L10, k10, n10⟩, -, X10, ⟨Lc10, hQ10, l10, y10, z10⟩, st10⟩ := Jvm.LawKit.callS X8 hx (y := mN47) hown (mvT hZ (wd hw 302 rfl)) (mvT hZ (wd hw 276 rfl)) (mvT hZ (wd hw 277 rfl)) (mvT hZ (wd hw 278 rfl)) (by decide) (backOf (W := 2) (rm41 l Z a0 hw [] x2 h8 n0 (Nat.le_trans Z0 K8.1)) hZ (wd hw 278 rfl) (wd hw 277 rfl) (by decide) (by decide)) (g := (mkF m 19 #[.val (.ref a1), .val (.ref b2), .val (.int (((0 : Int32) + (1 : Int32)) + (1 : Int32)))] [(.ref x2), (.int (((0 : Int32) + (1 : Int32)) + (1 : Int32))), (.ref b2)])) rfl (by rw [hml]; rfl) (argsL := [(.ref x2)]) (rest := [(.int (((0 : Int32) + (1 : Int32)) + (1 : Int32))), (.ref b2)]) (lenOf pd_44_29 rfl) rfl (by show 2 * 0 + _ ≤ _; exact Nat.le_of_eq rfl) (hb hby d44_19) (fun _ _ => ⟨rfl, e8, (by decide : 1 + 0 ≤ _), (by decide : 3 + 0 ≤ _)⟩)
  dsimp only [Pt.U, Pt.locs, Pt.cells, Pt.slots] at X10 l10 y10 z10 st10 hQ10
  subst l10 y10 z10
  obtain ⟨rfl, N10q, k10q⟩ := hQ10
  have Kc10 : Keep h8 T10.heap [] := by rw [k10q]; exact Keep.refl _ []
  have Kh10 : Keep h0 T10.heap [] := by rw [k10q]; exact K8
  have N10 := Fr.app N8 N10q
  obtain ⟨cb10, Arb10, qb10, Sb10, Nb10, Hb10, Gb10⟩ := VB8.keep Kc10 nin0
  have hin22_11 : ¬ ((((0 : Int32) + (1 : Int32)) + (1 : Int32)) < 0 ∨ cb10.slots.size ≤ ((((0 : Int32) + (1 : Int32)) + (1 : Int32))).toNatClampNeg) := inb_of Sb10 ⟨by decide, by decide⟩
  have Sto22_11 : Sto Z T10.heap b2 (.ref x2) := Sto.ofV Arb10 qb10 O2 (Ins.of_exa (Ex2.keep Kh10) (wd hw 145 rfl))
  obtain ⟨T11, h11, X11, e11, W11, st11⟩ := stR X10 hx hZ rfl Arb10 (j := (((0 : Int32) + (1 : Int32)) + (1 : Int32))) hin22_11 rfl Sto22_11 (g := (mkF m 22 #[.val (.ref a1), .val (.ref b2), .val (.int (((0 : Int32) + (1 : Int32)) + (1 : Int32)))] [(.ref x2), (.int (((0 : Int32) + (1 : Int32)) + (1 : Int32))), (.ref b2)])) rfl rfl (hb hby d44_22)
  have N11 := Fr.snoc X11 N10 g_b2
  have VB11 := Arv.set Arb10 qb10 Sb10 Nb10 Hb10 Gb10 (v := .ref x2) rfl W11 2 rfl (Nat.le_of_ble_eq_true rfl)
  have Ar11 : Arr Z h11 a1 cl_a1 (.object "java/lang/Object") := Arr.other W11 (by rw [k10q]; exact Ar8) na
  have K11 : Keep h0 h11 [] := Kh10.wr W11 (Or.inr sz_b2)
  obtain ⟨T12, h12, X12, e12, E12, A12, D12, -, st12⟩ := newO X11 hx hZ hown (wd hw 85 rfl) (wd hw 303 rfl) (wd hw 159 rfl) e11 (g := (mkF m 29 #[.val (.ref a1), .val (.ref b2), .val (.int ((((0 : Int32) + (1 : Int32)) + (1 : Int32)) + (1 : Int32)))] [])) rfl (hb hby d44_29) (by decide) (by decide)
  obtain ⟨b12, g12⟩ : ∃ z, z = h11.size := ⟨_, rfl⟩
  rw [← g12] at A12 D12 st12
  have F_elements_b12 : Fld Z h12 b12 "java/util/ImmutableCollections$ListN" "elements" "[Ljava/lang/Object;" .null := D12 (Or.inr (wd hw 162 rfl)) (ty := (.array (.object "java/lang/Object"))) (by decide)
  have F_allowNulls_b12 : Fld Z h12 b12 "java/util/ImmutableCollections$ListN" "allowNulls" "Z" (.int (0 : Int32)) := D12 (Or.inr (wd hw 313 rfl)) (ty := .boolean) (by decide)
  have E_b12 := A12
  have g_b12 : n0 ≤ b12 := Nat.le_trans (Nat.le_trans (Nat.le_trans (Nat.le_trans (Nat.le_trans (Nat.le_trans (Nat.le_trans (Nat.le_trans Z0 E2.1) Kc4.1) (Keep.of_wr W5).1) Kc7.1) (Keep.of_wr W8).1) Kc10.1) (Keep.of_wr W11).1) (Nat.le_of_eq g12.symm)
  have sz_b12 : h0.size ≤ b12 := (Nat.le_trans K11.1 (Nat.le_of_eq g12.symm))
  have K12 : Keep h0 h12 [] := K11.ext E12
  obtain ⟨_, _, ⟨T13, L13, k13, n13⟩, -, X13, ⟨Lc13, hQ13, l13, y13, z13⟩, st13⟩ := X12.specialBackNest hx (y := mN38) rfl hown (own_mvM hZ (wd hw 304 rfl)) (mvT hZ (wd hw 305 rfl)) (mvT hZ (wd hw 307 rfl)) (by decide) (backOf (W := 1) (rm45 l Z a0 hw [] b12 b2 .null (.int (0 : Int32)) h12 n0 (Nat.le_trans Z0 K12.1) E_b12 F_elements_b12 F_allowNulls_b12 g_b12) hZ (wd hw 307 rfl) (wd hw 159 rfl) (by decide) (by decide)) (g := (mkF m 35 #[.val (.ref a1), .val (.ref b2), .val (.int ((((0 : Int32) + (1 : Int32)) + (1 : Int32)) + (1 : Int32)))] [(.int (0 : Int32)), (.ref b2), (.ref b12), (.ref b12)])) rfl (by rw [hml]; rfl) (Steps.refl _) (a := b12) (argsL := [(.ref b2), (.int (0 : Int32))]) (rest := [(.ref b12)]) (lenOf pd_44_31 rfl) rfl (by show 2 * 0 + _ ≤ _; exact Nat.le_of_eq rfl) (hb hby d44_35) (fun _ _ => ⟨rfl, e12, (by decide : 2 + 0 ≤ _), (by decide : 5 + 0 ≤ _)⟩)
  dsimp only [Pt.U, Pt.locs, Pt.cells, Pt.slots] at X13 l13 y13 z13 st13 hQ13
  subst l13 y13 z13
  obtain ⟨rfl, N13q, KQ, EQ, FQ⟩ := hQ13
  have N13 := Fr.app N11 N13q
  obtain ⟨fs, hr, hrun, hended, hW, hsame⟩ := X13.leave (v := some (.ref b12)) (fun h => by rw [Bd.returns] at h; cases h)
  refine ⟨_, _, pre0 _ ?_, hrun, hended, _, _, rfl, ?_, ⟨_, rfl⟩, hW, hsame.mono (by decide) (by decide)⟩
  · show Steps p.tables e below (s₁.setTop (mkF m 0 #[.val (.ref a1), .unset, .unset] [])) _
    refine XS.aloadN X0.here hx rfl (hb hby d44_0) rfl rfl ?_
    show Steps p.tables e below (s₁.setTop (mkF m 1 #[.val (.ref a1), .unset, .unset] [(.ref a1)])) _
    refine X0.arraylength hx (by rw [e0]; exact Ar_a1.1) (State.isArrayOf_alike hZ.alike Ar_a1.2.1) (g := (mkF m 1 #[.val (.ref a1), .unset, .unset] [(.ref a1)])) rfl rfl (hb hby d44_1) _ ?_
    rw [len_of S_a1 N_a1]
    show Steps p.tables e below (s₁.setTop (mkF m 2 #[.val (.ref a1), .unset, .unset] [(.int (3 : Int32))])) _
    refine st2 _ ?_
    show Steps p.tables e below (T2.setTop (mkF m 5 #[.val (.ref a1), .unset, .unset] [(.ref b2)])) _
    refine XS.astoreN X2.here hx rfl (hb hby d44_5) rfl rfl (l' := #[.val (.ref a1), .val (.ref b2), .unset]) rfl ?_
    refine XS.iconst X2.here hx rfl (hb hby d44_6) ?_
    show Steps p.tables e below (T2.setTop (mkF m 7 #[.val (.ref a1), .val (.ref b2), .unset] [(.int (0 : Int32))])) _
    refine XS.istoreN X2.here hx rfl (hb hby d44_7) rfl (l' := #[.val (.ref a1), .val (.ref b2), .val (.int (0 : Int32))]) rfl ?_
    refine XS.iloadN X2.here hx rfl (hb hby d44_8) rfl ?_
    show Steps p.tables e below (T2.setTop (mkF m 9 #[.val (.ref a1), .val (.ref b2), .val (.int (0 : Int32))] [(.int (0 : Int32))])) _
    refine XS.aloadN X2.here hx rfl (hb hby d44_9) rfl rfl ?_
    show Steps p.tables e below (T2.setTop (mkF m 10 #[.val (.ref a1), .val (.ref b2), .val (.int (0 : Int32))] [(.ref a1), (.int (0 : Int32))])) _
    refine X2.arraylength hx (by rw [e2]; exact Ar2.1) (State.isArrayOf_alike hZ.alike Ar_a1.2.1) (g := (mkF m 10 #[.val (.ref a1), .val (.ref b2), .val (.int (0 : Int32))] [(.ref a1), (.int (0 : Int32))])) rfl rfl (hb hby d44_10) _ ?_
    rw [len_of S_a1 N_a1]
    show Steps p.tables e below (T2.setTop (mkF m 11 #[.val (.ref a1), .val (.ref b2), .val (.int (0 : Int32))] [(.int (3 : Int32)), (.int (0 : Int32))])) _
    refine XS.icmpNo X2.here hx rfl (hb hby d44_11) rfl (tlt (by decide : (0 : Int32) < (3 : Int32))).2.1 ?_
    refine XS.aloadN X2.here hx rfl (hb hby d44_14) rfl rfl ?_
    show Steps p.tables e below (T2.setTop (mkF m 15 #[.val (.ref a1), .val (.ref b2), .val (.int (0 : Int32))] [(.ref b2)])) _
    refine XS.iloadN X2.here hx rfl (hb hby d44_15) rfl ?_
    refine XS.aloadN X2.here hx rfl (hb hby d44_16) rfl rfl ?_
    show Steps p.tables e below (T2.setTop (mkF m 17 #[.val (.ref a1), .val (.ref b2), .val (.int (0 : Int32))] [(.ref a1), (.int (0 : Int32)), (.ref b2)])) _
    refine XS.iloadN X2.here hx rfl (hb hby d44_17) rfl ?_
    show Steps p.tables e below (T2.setTop (mkF m 18 #[.val (.ref a1), .val (.ref b2), .val (.int (0 : Int32))] [(.int (0 : Int32)), (.ref a1), (.int (0 : Int32)), (.ref b2)])) _
    refine X2.aaload hx (j := (0 : Int32)) (v := (.ref x0)) (by rw [e2]; exact Ar2.1) (State.isArrayOf_alike hZ.alike Ar_a1.2.1) rfl Ar_a1.2.2 hin18a hat18a (g := (mkF m 18 #[.val (.ref a1), .val (.ref b2), .val (.int (0 : Int32))] [(.int (0 : Int32)), (.ref a1), (.int (0 : Int32)), (.ref b2)])) rfl rfl (hb hby d44_18) _ ?_
    show Steps p.tables e below (T2.setTop (mkF m 19 #[.val (.ref a1), .val (.ref b2), .val (.int (0 : Int32))] [(.ref x0), (.int (0 : Int32)), (.ref b2)])) _
    refine st4 _ ?_
    show Steps p.tables e below (T4.setTop (mkF m 22 #[.val (.ref a1), .val (.ref b2), .val (.int (0 : Int32))] [(.ref x0), (.int (0 : Int32)), (.ref b2)])) _
    refine st5 _ ?_
    show Steps p.tables e below (T5.setTop (mkF m 23 #[.val (.ref a1), .val (.ref b2), .val (.int (0 : Int32))] [])) _
    refine XS.iinc X5.here hx rfl (hb hby d44_23) rfl (l' := #[.val (.ref a1), .val (.ref b2), .val (.int ((0 : Int32) + (1 : Int32)))]) rfl ?_
    refine XS.goto X5.here hx rfl (pc0 := 26) (pc' := 8) rfl (hb hby d44_26) (by decide) (by decide) ?_
    show Steps p.tables e below (T5.setTop (mkF m 8 #[.val (.ref a1), .val (.ref b2), .val (.int ((0 : Int32) + (1 : Int32)))] [])) _
    refine XS.iloadN X5.here hx rfl (hb hby d44_8) rfl ?_
    refine XS.aloadN X5.here hx rfl (hb hby d44_9) rfl rfl ?_
    show Steps p.tables e below (T5.setTop (mkF m 10 #[.val (.ref a1), .val (.ref b2), .val (.int ((0 : Int32) + (1 : Int32)))] [(.ref a1), (.int ((0 : Int32) + (1 : Int32)))])) _
    refine X5.arraylength hx (by rw [e5]; exact Ar5.1) (State.isArrayOf_alike hZ.alike Ar_a1.2.1) (g := (mkF m 10 #[.val (.ref a1), .val (.ref b2), .val (.int ((0 : Int32) + (1 : Int32)))] [(.ref a1), (.int ((0 : Int32) + (1 : Int32)))])) rfl rfl (hb hby d44_10) _ ?_
    rw [len_of S_a1 N_a1]
    show Steps p.tables e below (T5.setTop (mkF m 11 #[.val (.ref a1), .val (.ref b2), .val (.int ((0 : Int32) + (1 : Int32)))] [(.int (3 : Int32)), (.int ((0 : Int32) + (1 : Int32)))])) _
    refine XS.icmpNo X5.here hx rfl (hb hby d44_11) rfl (tlt (by decide : ((0 : Int32) + (1 : Int32)) < (3 : Int32))).2.1 ?_
    refine XS.aloadN X5.here hx rfl (hb hby d44_14) rfl rfl ?_
    show Steps p.tables e below (T5.setTop (mkF m 15 #[.val (.ref a1), .val (.ref b2), .val (.int ((0 : Int32) + (1 : Int32)))] [(.ref b2)])) _
    refine XS.iloadN X5.here hx rfl (hb hby d44_15) rfl ?_
    refine XS.aloadN X5.here hx rfl (hb hby d44_16) rfl rfl ?_
    show Steps p.tables e below (T5.setTop (mkF m 17 #[.val (.ref a1), .val (.ref b2), .val (.int ((0 : Int32) + (1 : Int32)))] [(.ref a1), (.int ((0 : Int32) + (1 : Int32))), (.ref b2)])) _
    refine XS.iloadN X5.here hx rfl (hb hby d44_17) rfl ?_
    show Steps p.tables e below (T5.setTop (mkF m 18 #[.val (.ref a1), .val (.ref b2), .val (.int ((0 : Int32) + (1 : Int32)))] [(.int ((0 : Int32) + (1 : Int32))), (.ref a1), (.int ((0 : Int32) + (1 : Int32))), (.ref b2)])) _
    refine X5.aaload hx (j := ((0 : Int32) + (1 : Int32))) (v := (.ref x1)) (by rw [e5]; exact Ar5.1) (State.isArrayOf_alike hZ.alike Ar_a1.2.1) rfl Ar_a1.2.2 hin18b hat18b (g := (mkF m 18 #[.val (.ref a1), .val (.ref b2), .val (.int ((0 : Int32) + (1 : Int32)))] [(.int ((0 : Int32) + (1 : Int32))), (.ref a1), (.int ((0 : Int32) + (1 : Int32))), (.ref b2)])) rfl rfl (hb hby d44_18) _ ?_
    show Steps p.tables e below (T5.setTop (mkF m 19 #[.val (.ref a1), .val (.ref b2), .val (.int ((0 : Int32) + (1 : Int32)))] [(.ref x1), (.int ((0 : Int32) + (1 : Int32))), (.ref b2)])) _
    refine st7 _ ?_
    show Steps p.tables e below (T7.setTop (mkF m 22 #[.val (.ref a1), .val (.ref b2), .val (.int ((0 : Int32) + (1 : Int32)))] [(.ref x1), (.int ((0 : Int32) + (1 : Int32))), (.ref b2)])) _
    refine st8 _ ?_
    show Steps p.tables e below (T8.setTop (mkF m 23 #[.val (.ref a1), .val (.ref b2), .val (.int ((0 : Int32) + (1 : Int32)))] [])) _
    refine XS.iinc X8.here hx rfl (hb hby d44_23) rfl (l' := #[.val (.ref a1), .val (.ref b2), .val (.int (((0 : Int32) + (1 : Int32)) + (1 : Int32)))]) rfl ?_
    refine XS.goto X8.here hx rfl (pc0 := 26) (pc' := 8) rfl (hb hby d44_26) (by decide) (by decide) ?_
    show Steps p.tables e below (T8.setTop (mkF m 8 #[.val (.ref a1), .val (.ref b2), .val (.int (((0 : Int32) + (1 : Int32)) + (1 : Int32)))] [])) _
    refine XS.iloadN X8.here hx rfl (hb hby d44_8) rfl ?_
    refine XS.aloadN X8.here hx rfl (hb hby d44_9) rfl rfl ?_
    show Steps p.tables e below (T8.setTop (mkF m 10 #[.val (.ref a1), .val (.ref b2), .val (.int (((0 : Int32) + (1 : Int32)) + (1 : Int32)))] [(.ref a1), (.int (((0 : Int32) + (1 : Int32)) + (1 : Int32)))])) _
    refine X8.arraylength hx (by rw [e8]; exact Ar8.1) (State.isArrayOf_alike hZ.alike Ar_a1.2.1) (g := (mkF m 10 #[.val (.ref a1), .val (.ref b2), .val (.int (((0 : Int32) + (1 : Int32)) + (1 : Int32)))] [(.ref a1), (.int (((0 : Int32) + (1 : Int32)) + (1 : Int32)))])) rfl rfl (hb hby d44_10) _ ?_
    rw [len_of S_a1 N_a1]
    show Steps p.tables e below (T8.setTop (mkF m 11 #[.val (.ref a1), .val (.ref b2), .val (.int (((0 : Int32) + (1 : Int32)) + (1 : Int32)))] [(.int (3 : Int32)), (.int (((0 : Int32) + (1 : Int32)) + (1 : Int32)))])) _
    refine XS.icmpNo X8.here hx rfl (hb hby d44_11) rfl (tlt (by decide : (((0 : Int32) + (1 : Int32)) + (1 : Int32)) < (3 : Int32))).2.1 ?_
    refine XS.aloadN X8.here hx rfl (hb hby d44_14) rfl rfl ?_
    show Steps p.tables e below (T8.setTop (mkF m 15 #[.val (.ref a1), .val (.ref b2), .val (.int (((0 : Int32) + (1 : Int32)) + (1 : Int32)))] [(.ref b2)])) _
    refine XS.iloadN X8.here hx rfl (hb hby d44_15) rfl ?_
    refine XS.aloadN X8.here hx rfl (hb hby d44_16) rfl rfl ?_
    show Steps p.tables e below (T8.setTop (mkF m 17 #[.val (.ref a1), .val (.ref b2), .val (.int (((0 : Int32) + (1 : Int32)) + (1 : Int32)))] [(.ref a1), (.int (((0 : Int32) + (1 : Int32)) + (1 : Int32))), (.ref b2)])) _
    refine XS.iloadN X8.here hx rfl (hb hby d44_17) rfl ?_
    show Steps p.tables e below (T8.setTop (mkF m 18 #[.val (.ref a1), .val (.ref b2), .val (.int (((0 : Int32) + (1 : Int32)) + (1 : Int32)))] [(.int (((0 : Int32) + (1 : Int32)) + (1 : Int32))), (.ref a1), (.int (((0 : Int32) + (1 : Int32)) + (1 : Int32))), (.ref b2)])) _
    refine X8.aaload hx (j := (((0 : Int32) + (1 : Int32)) + (1 : Int32))) (v := (.ref x2)) (by rw [e8]; exact Ar8.1) (State.isArrayOf_alike hZ.alike Ar_a1.2.1) rfl Ar_a1.2.2 hin18c hat18c (g := (mkF m 18 #[.val (.ref a1), .val (.ref b2), .val (.int (((0 : Int32) + (1 : Int32)) + (1 : Int32)))] [(.int (((0 : Int32) + (1 : Int32)) + (1 : Int32))), (.ref a1), (.int (((0 : Int32) + (1 : Int32)) + (1 : Int32))), (.ref b2)])) rfl rfl (hb hby d44_18) _ ?_
    show Steps p.tables e below (T8.setTop (mkF m 19 #[.val (.ref a1), .val (.ref b2), .val (.int (((0 : Int32) + (1 : Int32)) + (1 : Int32)))] [(.ref x2), (.int (((0 : Int32) + (1 : Int32)) + (1 : Int32))), (.ref b2)])) _
    refine st10 _ ?_
    show Steps p.tables e below (T10.setTop (mkF m 22 #[.val (.ref a1), .val (.ref b2), .val (.int (((0 : Int32) + (1 : Int32)) + (1 : Int32)))] [(.ref x2), (.int (((0 : Int32) + (1 : Int32)) + (1 : Int32))), (.ref b2)])) _
    refine st11 _ ?_
    show Steps p.tables e below (T11.setTop (mkF m 23 #[.val (.ref a1), .val (.ref b2), .val (.int (((0 : Int32) + (1 : Int32)) + (1 : Int32)))] [])) _
    refine XS.iinc X11.here hx rfl (hb hby d44_23) rfl (l' := #[.val (.ref a1), .val (.ref b2), .val (.int ((((0 : Int32) + (1 : Int32)) + (1 : Int32)) + (1 : Int32)))]) rfl ?_
    refine XS.goto X11.here hx rfl (pc0 := 26) (pc' := 8) rfl (hb hby d44_26) (by decide) (by decide) ?_
    show Steps p.tables e below (T11.setTop (mkF m 8 #[.val (.ref a1), .val (.ref b2), .val (.int ((((0 : Int32) + (1 : Int32)) + (1 : Int32)) + (1 : Int32)))] [])) _
    refine XS.iloadN X11.here hx rfl (hb hby d44_8) rfl ?_
    refine XS.aloadN X11.here hx rfl (hb hby d44_9) rfl rfl ?_
    show Steps p.tables e below (T11.setTop (mkF m 10 #[.val (.ref a1), .val (.ref b2), .val (.int ((((0 : Int32) + (1 : Int32)) + (1 : Int32)) + (1 : Int32)))] [(.ref a1), (.int ((((0 : Int32) + (1 : Int32)) + (1 : Int32)) + (1 : Int32)))])) _
    refine X11.arraylength hx (by rw [e11]; exact Ar11.1) (State.isArrayOf_alike hZ.alike Ar_a1.2.1) (g := (mkF m 10 #[.val (.ref a1), .val (.ref b2), .val (.int ((((0 : Int32) + (1 : Int32)) + (1 : Int32)) + (1 : Int32)))] [(.ref a1), (.int ((((0 : Int32) + (1 : Int32)) + (1 : Int32)) + (1 : Int32)))])) rfl rfl (hb hby d44_10) _ ?_
    rw [len_of S_a1 N_a1]
    show Steps p.tables e below (T11.setTop (mkF m 11 #[.val (.ref a1), .val (.ref b2), .val (.int ((((0 : Int32) + (1 : Int32)) + (1 : Int32)) + (1 : Int32)))] [(.int (3 : Int32)), (.int ((((0 : Int32) + (1 : Int32)) + (1 : Int32)) + (1 : Int32)))])) _
    refine XS.icmpYes X11.here hx rfl (pc0 := 11) (pc' := 29) rfl (hb hby d44_11) rfl (flt (by decide : ¬ (((((0 : Int32) + (1 : Int32)) + (1 : Int32)) + (1 : Int32)) < (3 : Int32)))).2.1 (by decide) (by decide) ?_
    show Steps p.tables e below (T11.setTop (mkF m 29 #[.val (.ref a1), .val (.ref b2), .val (.int ((((0 : Int32) + (1 : Int32)) + (1 : Int32)) + (1 : Int32)))] [])) _
    refine st12 _ ?_
    show Steps p.tables e below (T12.setTop (mkF m 32 #[.val (.ref a1), .val (.ref b2), .val (.int ((((0 : Int32) + (1 : Int32)) + (1 : Int32)) + (1 : Int32)))] [(.ref b12)])) _
    refine XS.dup X12.here hx rfl (hb hby d44_32) rfl rfl ?_
    refine XS.aloadN X12.here hx rfl (hb hby d44_33) rfl rfl ?_
    show Steps p.tables e below (T12.setTop (mkF m 34 #[.val (.ref a1), .val (.ref b2), .val (.int ((((0 : Int32) + (1 : Int32)) + (1 : Int32)) + (1 : Int32)))] [(.ref b2), (.ref b12), (.ref b12)])) _
    refine XS.iconst X12.here hx rfl (hb hby d44_34) ?_
    show Steps p.tables e below (T12.setTop (mkF m 35 #[.val (.ref a1), .val (.ref b2), .val (.int ((((0 : Int32) + (1 : Int32)) + (1 : Int32)) + (1 : Int32)))] [(.int (0 : Int32)), (.ref b2), (.ref b12), (.ref b12)])) _
    refine st13.trans ?_
    show Steps p.tables e below (T13.setTop (mkF m 38 #[.val (.ref a1), .val (.ref b2), .val (.int ((((0 : Int32) + (1 : Int32)) + (1 : Int32)) + (1 : Int32)))] [(.ref b12)])) _
    jvm_step X13.here [X13.here.top, hx, (hb hby d44_38), X13.method', Bd.returns, Value.isRef, FieldType.isReference]
    first | (intro acts; rw [hr _ acts rfl rfl rfl]) | rw [hr _ _ rfl rfl rfl]
    exact Steps.refl _
  · show own_M3 Z x0 x1 x2 h0 n0 _ T13.heap _
    have nb : b2 ∉ [b12] := fun q => Nat.lt_irrefl _ (Nat.lt_of_lt_of_le (VB11.lt) (Nat.le_of_eq ((List.mem_singleton.mp q).trans g12).symm))
    exact ⟨b12, rfl, N13, K12.trans KQ (fun x hx => Or.inr (by cases List.mem_singleton.mp hx; exact sz_b12)), sz_b12, EQ, b2, k2, FQ, (VB11.ext E12).keep KQ nb⟩
theorem d37_0 : decode jdk_40_method_47_code 0 = .ok (.aload_n 0, 1) := by decide +kernel
theorem d37_1 : decode jdk_40_method_47_code 1 = .ok (.arraylength, 1) := by decide +kernel
theorem d37_2 : decode jdk_40_method_47_code 2 = .ok (.tableswitch 57 0 2 #[26, 32, 43], 26) := by decide +kernel
theorem d37_34 : decode jdk_40_method_47_code 34 = .ok (.new 96, 3) := by decide +kernel
theorem d37_37 : decode jdk_40_method_47_code 37 = .ok (.dup, 1) := by decide +kernel
theorem d37_38 : decode jdk_40_method_47_code 38 = .ok (.aload_n 0, 1) := by decide +kernel
theorem d37_39 : decode jdk_40_method_47_code 39 = .ok (.iconst 0, 1) := by decide +kernel
theorem d37_40 : decode jdk_40_method_47_code 40 = .ok (.aaload, 1) := by decide +kernel
theorem d37_41 : decode jdk_40_method_47_code 41 = .ok (.invokespecial 98, 3) := by decide +kernel
theorem d37_44 : decode jdk_40_method_47_code 44 = .ok (.areturn, 1) := by decide +kernel
theorem pn_37 : plainName "java/util/List" = true := by first | (simp [plainName, overriddenIn]; done) | decide +kernel
theorem pd_37_32 : parseMethodDescriptor "(Ljava/lang/Object;)V" = some ⟨[(.object "java/lang/Object")], none⟩ := by decide +kernel
theorem ef_37 (m : MethodId) (x0 : Addr) : entryFrame m #[(.ref x0)] 2 = mkF m 0 #[.val (.ref x0), .unset] [] := by first | (simp [entryFrame, mkF, argsToLocals, Value.category]; done) | rfl
set_option maxRecDepth 65536 in
set_option maxHeartbeats 40000000 in
theorem rm37p1 (l : Launch) (Z : State) (a0 : Array Value) (hw : ∀ d ∈ tables_1, d.before a0 Z = true) (ws : List Jvm.Cond) (a1 : Addr) (k : ClassId) (x0 wEm : Addr) (h0 : Heap) (n0 : Nat) (Z0 : n0 ≤ h0.size) (VA : Arv Z h0 a1 k (.object "java/lang/Object") (1 : Int32) [(.ref x0)] .null) (S_EMPTY : Sta Z h0 "java/util/ImmutableCollections" "EMPTY" "Ljava/lang/Object;" (.ref wEm)) :
    MetFree l mN45 (head1 (Jvm.Cond.code mN45 jdk_40_method_47_code 2 (some (.object "java/util/List")) :: ws) ({ frames := 5, cells := 1, slots := 2, locals := 62 } : Room)) (fun a U => a = #[(.ref a1)] ∧ Z.Warmed39 U.vm ∧ U.heap = h0) (fun _ _ _ _ _ => True) (fun _ U o U' => ∃ v L, o = .returned v ∧ own_M1 Z x0 wEm h0 n0 v U'.heap L ∧ FrameEnd U o U' L ({ frames := 5, cells := 1, slots := 2, locals := 62 } : Room).cells ({ frames := 5, cells := 1, slots := 2, locals := 62 } : Room).slots) := by
  refine MetFree.of_bodySF (plainFor_of_name pn_37) hisR ?_
  intro p e s m args below meth c s₁ Bd hml0 hP hK
  obtain ⟨rfl, hZ, hh⟩ := hP
  have hx := Bd.exec
  have hby := Bd.bytes
  have hml : c.maxLocals = 2 := hml0
  have hown : s.vm.findClass "java/util/List" = some m.cls := findClass_of_methodNamed Bd.named
  have hnm := (name_of_methodNamed Bd.named Bd.method).1
  have X0 : Stand p l e ({ frames := 5, cells := 1, slots := 2, locals := 62 } : Room) s m #[(.ref a1)] below meth c s₁ [] 0 0 := Stand.of_body Bd
  have e0 : s₁.heap = h0 := by rw [← hh, Bd.state]; rfl
  have N0 := Fr.nil n0
  have pre0 : ∀ t, Steps p.tables e below (s₁.setTop (mkF m 0 #[.val (.ref a1), .unset] [])) t → Steps p.tables e below (s₁.setTop (entryFrame m #[(.ref a1)] 2)) t := fun t k => castTop (ef_37 m a1) k
  obtain ⟨cl_a1, Ar_a1, q_a1, S_a1, N_a1, H_a1, G_a1⟩ := id VA
  have hin40 : ¬ ((0 : Int32) < 0 ∨ cl_a1.slots.size ≤ ((0 : Int32)).toNatClampNeg) := inb_of S_a1 ⟨by decide, by decide⟩
  have hat40 : cl_a1.slots[((0 : Int32)).toNatClampNeg]? = some (.ref x0) := H_a1 0 (by rw [S_a1]; decide)
  obtain ⟨T2, h2, X2, e2, E2, A2, D2, -, st2⟩ := newO X0 hx hZ hown (wd hw 254 rfl) (wd hw 255 rfl) (wd hw 256 rfl) e0 (g := (mkF m 34 #[.val (.ref a1), .unset] [])) rfl (hb hby d37_34) (by decide) (by decide)
  obtain ⟨b2, g2⟩ : ∃ z, z = h0.size := ⟨_, rfl⟩
  rw [← g2] at A2 D2 st2
  have F_e0_b2 : Fld Z h2 b2 "java/util/ImmutableCollections$List12" "e0" "Ljava/lang/Object;" .null := D2 (Or.inr (wd hw 280 rfl)) (ty := (.object "java/lang/Object")) (by decide)
  have F_e1_b2 : Fld Z h2 b2 "java/util/ImmutableCollections$List12" "e1" "Ljava/lang/Object;" .null := D2 (Or.inr (wd hw 282 rfl)) (ty := (.object "java/lang/Object")) (by decide)
  have E_b2 := A2
  have g_b2 : n0 ≤ b2 := Nat.le_trans Z0 (Nat.le_of_eq g2.symm)
  have sz_b2 : h0.size ≤ b2 := (Nat.le_trans (Keep.refl h0 []).1 (Nat.le_of_eq g2.symm))
  have K2 : Keep h0 h2 [] := (Keep.refl h0 []).ext E2
  obtain ⟨_, _, ⟨T4, L4, k4, n4⟩, -, X4, ⟨Lc4, hQ4, l4, y4, z4⟩, st4⟩ := X2.specialBack hx (y := mN34) rfl hown (mvT hZ (wd hw 319 rfl)) (mvT hZ (wd hw 320 rfl)) (mvT hZ (wd hw 321 rfl)) (by decide) (backOf (W := 1) (rm47 l Z a0 hw [] b2 x0 wEm .null .null h2 n0 (Nat.le_trans Z0 K2.1) E_b2 F_e0_b2 F_e1_b2 g_b2 (S_EMPTY.ext E2)) hZ (wd hw 321 rfl) (wd hw 256 rfl) (by decide) (by decide)) (g := (mkF m 41 #[.val (.ref a1), .unset] [(.ref x0), (.ref b2), (.ref b2)])) rfl (by rw [hml]; rfl) (Steps.refl _) (a := b2) (argsL := [(.ref x0)]) (rest := [(.ref b2)]) (lenOf pd_37_32 rfl) rfl (by show 2 * 0 + _ ≤ _; exact Nat.le_of_eq rfl) (hb hby d37_41) (fun _ _ => ⟨rfl, e2, (by decide : 1 + 0 ≤ _), (by decide : 2 + 0 ≤ _)⟩)
  dsimp only [Pt.U, Pt.locs, Pt.cells, Pt.slots] at X4 l4 y4 z4 st4 hQ4
  subst l4 y4 z4
  obtain ⟨rfl, N4q, KQ, EQ, F0Q, F1Q⟩ := hQ4
  have N4 := Fr.app N0 N4q
  obtain ⟨fs, hr, hrun, hended, hW, hsame⟩ := X4.leave (v := some (.ref b2)) (fun h => by rw [Bd.returns] at h; cases h)
  refine ⟨_, _, pre0 _ ?_, hrun, hended, _, _, rfl, ?_, ⟨_, rfl⟩, hW, hsame.mono (by decide) (by decide)⟩
  · show Steps p.tables e below (s₁.setTop (mkF m 0 #[.val (.ref a1), .unset] [])) _
    refine XS.aloadN X0.here hx rfl (hb hby d37_0) rfl rfl ?_
    show Steps p.tables e below (s₁.setTop (mkF m 1 #[.val (.ref a1), .unset] [(.ref a1)])) _
    refine X0.arraylength hx (by rw [e0]; exact Ar_a1.1) (State.isArrayOf_alike hZ.alike Ar_a1.2.1) (g := (mkF m 1 #[.val (.ref a1), .unset] [(.ref a1)])) rfl rfl (hb hby d37_1) _ ?_
    rw [len_of S_a1 N_a1]
    show Steps p.tables e below (s₁.setTop (mkF m 2 #[.val (.ref a1), .unset] [(.int (1 : Int32))])) _
    refine XS.tswIn X0.here hx rfl (pc0 := 2) (pc' := 34) rfl (hb hby d37_2) rfl (by decide) (o := 32) (by decide) (by decide) (by decide) ?_
    show Steps p.tables e below (s₁.setTop (mkF m 34 #[.val (.ref a1), .unset] [])) _
    refine st2 _ ?_
    show Steps p.tables e below (T2.setTop (mkF m 37 #[.val (.ref a1), .unset] [(.ref b2)])) _
    refine XS.dup X2.here hx rfl (hb hby d37_37) rfl rfl ?_
    refine XS.aloadN X2.here hx rfl (hb hby d37_38) rfl rfl ?_
    show Steps p.tables e below (T2.setTop (mkF m 39 #[.val (.ref a1), .unset] [(.ref a1), (.ref b2), (.ref b2)])) _
    refine XS.iconst X2.here hx rfl (hb hby d37_39) ?_
    show Steps p.tables e below (T2.setTop (mkF m 40 #[.val (.ref a1), .unset] [(.int (0 : Int32)), (.ref a1), (.ref b2), (.ref b2)])) _
    refine X2.aaload hx (j := (0 : Int32)) (v := (.ref x0)) (by rw [e2]; exact (Ar_a1.ext E2).1) (State.isArrayOf_alike hZ.alike Ar_a1.2.1) rfl Ar_a1.2.2 hin40 hat40 (g := (mkF m 40 #[.val (.ref a1), .unset] [(.int (0 : Int32)), (.ref a1), (.ref b2), (.ref b2)])) rfl rfl (hb hby d37_40) _ ?_
    show Steps p.tables e below (T2.setTop (mkF m 41 #[.val (.ref a1), .unset] [(.ref x0), (.ref b2), (.ref b2)])) _
    refine st4.trans ?_
    show Steps p.tables e below (T4.setTop (mkF m 44 #[.val (.ref a1), .unset] [(.ref b2)])) _
    jvm_step X4.here [X4.here.top, hx, (hb hby d37_44), X4.method', Bd.returns, Value.isRef, FieldType.isReference]
    first | (intro acts; rw [hr _ acts rfl rfl rfl]) | rw [hr _ _ rfl rfl rfl]
    exact Steps.refl _
  · show own_M1 Z x0 wEm h0 n0 _ T4.heap _
    exact ⟨b2, rfl, N4, K2.trans KQ (fun x hx => Or.inr (by cases List.mem_singleton.mp hx; exact sz_b2)), sz_b2, EQ, F0Q, F1Q⟩
theorem d37_45 : decode jdk_40_method_47_code 45 = .ok (.new 96, 3) := by decide +kernel
theorem d37_48 : decode jdk_40_method_47_code 48 = .ok (.dup, 1) := by decide +kernel
theorem d37_49 : decode jdk_40_method_47_code 49 = .ok (.aload_n 0, 1) := by decide +kernel
theorem d37_50 : decode jdk_40_method_47_code 50 = .ok (.iconst 0, 1) := by decide +kernel
theorem d37_51 : decode jdk_40_method_47_code 51 = .ok (.aaload, 1) := by decide +kernel
theorem d37_52 : decode jdk_40_method_47_code 52 = .ok (.aload_n 0, 1) := by decide +kernel
theorem d37_53 : decode jdk_40_method_47_code 53 = .ok (.iconst 1, 1) := by decide +kernel
theorem d37_54 : decode jdk_40_method_47_code 54 = .ok (.aaload, 1) := by decide +kernel
theorem d37_55 : decode jdk_40_method_47_code 55 = .ok (.invokespecial 100, 3) := by decide +kernel
theorem d37_58 : decode jdk_40_method_47_code 58 = .ok (.areturn, 1) := by decide +kernel
theorem pd_37_28 : parseMethodDescriptor "(Ljava/lang/Object;Ljava/lang/Object;)V" = some ⟨[(.object "java/lang/Object"), (.object "java/lang/Object")], none⟩ := by decide +kernel
set_option maxRecDepth 65536 in
set_option maxHeartbeats 40000000 in
theorem rm37p2 (l : Launch) (Z : State) (a0 : Array Value) (hw : ∀ d ∈ tables_1, d.before a0 Z = true) (ws : List Jvm.Cond) (a1 : Addr) (k : ClassId) (x0 x1 : Addr) (h0 : Heap) (n0 : Nat) (Z0 : n0 ≤ h0.size) (VA : Arv Z h0 a1 k (.object "java/lang/Object") (2 : Int32) [(.ref x0), (.ref x1)] .null) :
    MetFree l mN45 (head1 (Jvm.Cond.code mN45 jdk_40_method_47_code 2 (some (.object "java/util/List")) :: ws) ({ frames := 5, cells := 1, slots := 2, locals := 63 } : Room)) (fun a U => a = #[(.ref a1)] ∧ Z.Warmed39 U.vm ∧ U.heap = h0) (fun _ _ _ _ _ => True) (fun _ U o U' => ∃ v L, o = .returned v ∧ own_M2 Z x0 x1 h0 n0 v U'.heap L ∧ FrameEnd U o U' L ({ frames := 5, cells := 1, slots := 2, locals := 63 } : Room).cells ({ frames := 5, cells := 1, slots := 2, locals := 63 } : Room).slots) := by
  refine MetFree.of_bodySF (plainFor_of_name pn_37) hisR ?_
  intro p e s m args below meth c s₁ Bd hml0 hP hK
  obtain ⟨rfl, hZ, hh⟩ := hP
  have hx := Bd.exec
  have hby := Bd.bytes
  have hml : c.maxLocals = 2 := hml0
  have hown : s.vm.findClass "java/util/List" = some m.cls := findClass_of_methodNamed Bd.named
  have hnm := (name_of_methodNamed Bd.named Bd.method).1
  have X0 : Stand p l e ({ frames := 5, cells := 1, slots := 2, locals := 63 } : Room) s m #[(.ref a1)] below meth c s₁ [] 0 0 := Stand.of_body Bd
  have e0 : s₁.heap = h0 := by rw [← hh, Bd.state]; rfl
  have N0 := Fr.nil n0
  have pre0 : ∀ t, Steps p.tables e below (s₁.setTop (mkF m 0 #[.val (.ref a1), .unset] [])) t → Steps p.tables e below (s₁.setTop (entryFrame m #[(.ref a1)] 2)) t := fun t k => castTop (ef_37 m a1) k
  obtain ⟨cl_a1, Ar_a1, q_a1, S_a1, N_a1, H_a1, G_a1⟩ := id VA
  have hin51 : ¬ ((0 : Int32) < 0 ∨ cl_a1.slots.size ≤ ((0 : Int32)).toNatClampNeg) := inb_of S_a1 ⟨by decide, by decide⟩
  have hat51 : cl_a1.slots[((0 : Int32)).toNatClampNeg]? = some (.ref x0) := H_a1 0 (by rw [S_a1]; decide)
  have hin54 : ¬ ((1 : Int32) < 0 ∨ cl_a1.slots.size ≤ ((1 : Int32)).toNatClampNeg) := inb_of S_a1 ⟨by decide, by decide⟩
  have hat54 : cl_a1.slots[((1 : Int32)).toNatClampNeg]? = some (.ref x1) := H_a1 1 (by rw [S_a1]; decide)
  obtain ⟨T2, h2, X2, e2, E2, A2, D2, -, st2⟩ := newO X0 hx hZ hown (wd hw 254 rfl) (wd hw 255 rfl) (wd hw 256 rfl) e0 (g := (mkF m 45 #[.val (.ref a1), .unset] [])) rfl (hb hby d37_45) (by decide) (by decide)
  obtain ⟨b2, g2⟩ : ∃ z, z = h0.size := ⟨_, rfl⟩
  rw [← g2] at A2 D2 st2
  have F_e0_b2 : Fld Z h2 b2 "java/util/ImmutableCollections$List12" "e0" "Ljava/lang/Object;" .null := D2 (Or.inr (wd hw 280 rfl)) (ty := (.object "java/lang/Object")) (by decide)
  have F_e1_b2 : Fld Z h2 b2 "java/util/ImmutableCollections$List12" "e1" "Ljava/lang/Object;" .null := D2 (Or.inr (wd hw 282 rfl)) (ty := (.object "java/lang/Object")) (by decide)
  have E_b2 := A2
  have g_b2 : n0 ≤ b2 := Nat.le_trans Z0 (Nat.le_of_eq g2.symm)
  have sz_b2 : h0.size ≤ b2 := (Nat.le_trans (Keep.refl h0 []).1 (Nat.le_of_eq g2.symm))
  have K2 : Keep h0 h2 [] := (Keep.refl h0 []).ext E2
  obtain ⟨_, _, ⟨T5, L5, k5, n5⟩, -, X5, ⟨Lc5, hQ5, l5, y5, z5⟩, st5⟩ := X2.specialBack hx (y := mN35) rfl hown (mvT hZ (wd hw 257 rfl)) (mvT hZ (wd hw 258 rfl)) (mvT hZ (wd hw 260 rfl)) (by decide) (backOf (W := 1) (rm38 l Z a0 hw [] b2 x0 x1 .null .null h2 n0 (Nat.le_trans Z0 K2.1) E_b2 F_e0_b2 F_e1_b2 g_b2) hZ (wd hw 260 rfl) (wd hw 256 rfl) (by decide) (by decide)) (g := (mkF m 55 #[.val (.ref a1), .unset] [(.ref x1), (.ref x0), (.ref b2), (.ref b2)])) rfl (by rw [hml]; rfl) (Steps.refl _) (a := b2) (argsL := [(.ref x0), (.ref x1)]) (rest := [(.ref b2)]) (lenOf pd_37_28 rfl) rfl (by show 2 * 0 + _ ≤ _; exact Nat.le_of_eq rfl) (hb hby d37_55) (fun _ _ => ⟨rfl, e2, (by decide : 1 + 0 ≤ _), (by decide : 2 + 0 ≤ _)⟩)
  dsimp only [Pt.U, Pt.locs, Pt.cells, Pt.slots] at X5 l5 y5 z5 st5 hQ5
  subst l5 y5 z5
  obtain ⟨rfl, N5q, KQ, EQ, F0Q, F1Q⟩ := hQ5
  have N5 := Fr.app N0 N5q
  obtain ⟨fs, hr, hrun, hended, hW, hsame⟩ := X5.leave (v := some (.ref b2)) (fun h => by rw [Bd.returns] at h; cases h)
  refine ⟨_, _, pre0 _ ?_, hrun, hended, _, _, rfl, ?_, ⟨_, rfl⟩, hW, hsame.mono (by decide) (by decide)⟩
  · show Steps p.tables e below (s₁.setTop (mkF m 0 #[.val (.ref a1), .unset] [])) _
    refine XS.aloadN X0.here hx rfl (hb hby d37_0) rfl rfl ?_
    show Steps p.tables e below (s₁.setTop (mkF m 1 #[.val (.ref a1), .unset] [(.ref a1)])) _
    refine X0.arraylength hx (by rw [e0]; exact Ar_a1.1) (State.isArrayOf_alike hZ.alike Ar_a1.2.1) (g := (mkF m 1 #[.val (.ref a1), .unset] [(.ref a1)])) rfl rfl (hb hby d37_1) _ ?_
    rw [len_of S_a1 N_a1]
    show Steps p.tables e below (s₁.setTop (mkF m 2 #[.val (.ref a1), .unset] [(.int (2 : Int32))])) _
    refine XS.tswIn X0.here hx rfl (pc0 := 2) (pc' := 45) rfl (hb hby d37_2) rfl (by decide) (o := 43) (by decide) (by decide) (by decide) ?_
    show Steps p.tables e below (s₁.setTop (mkF m 45 #[.val (.ref a1), .unset] [])) _
    refine st2 _ ?_
    show Steps p.tables e below (T2.setTop (mkF m 48 #[.val (.ref a1), .unset] [(.ref b2)])) _
    refine XS.dup X2.here hx rfl (hb hby d37_48) rfl rfl ?_
    refine XS.aloadN X2.here hx rfl (hb hby d37_49) rfl rfl ?_
    show Steps p.tables e below (T2.setTop (mkF m 50 #[.val (.ref a1), .unset] [(.ref a1), (.ref b2), (.ref b2)])) _
    refine XS.iconst X2.here hx rfl (hb hby d37_50) ?_
    show Steps p.tables e below (T2.setTop (mkF m 51 #[.val (.ref a1), .unset] [(.int (0 : Int32)), (.ref a1), (.ref b2), (.ref b2)])) _
    refine X2.aaload hx (j := (0 : Int32)) (v := (.ref x0)) (by rw [e2]; exact (Ar_a1.ext E2).1) (State.isArrayOf_alike hZ.alike Ar_a1.2.1) rfl Ar_a1.2.2 hin51 hat51 (g := (mkF m 51 #[.val (.ref a1), .unset] [(.int (0 : Int32)), (.ref a1), (.ref b2), (.ref b2)])) rfl rfl (hb hby d37_51) _ ?_
    show Steps p.tables e below (T2.setTop (mkF m 52 #[.val (.ref a1), .unset] [(.ref x0), (.ref b2), (.ref b2)])) _
    refine XS.aloadN X2.here hx rfl (hb hby d37_52) rfl rfl ?_
    refine XS.iconst X2.here hx rfl (hb hby d37_53) ?_
    show Steps p.tables e below (T2.setTop (mkF m 54 #[.val (.ref a1), .unset] [(.int (1 : Int32)), (.ref a1), (.ref x0), (.ref b2), (.ref b2)])) _
    refine X2.aaload hx (j := (1 : Int32)) (v := (.ref x1)) (by rw [e2]; exact (Ar_a1.ext E2).1) (State.isArrayOf_alike hZ.alike Ar_a1.2.1) rfl Ar_a1.2.2 hin54 hat54 (g := (mkF m 54 #[.val (.ref a1), .unset] [(.int (1 : Int32)), (.ref a1), (.ref x0), (.ref b2), (.ref b2)])) rfl rfl (hb hby d37_54) _ ?_
    show Steps p.tables e below (T2.setTop (mkF m 55 #[.val (.ref a1), .unset] [(.ref x1), (.ref x0), (.ref b2), (.ref b2)])) _
    refine st5.trans ?_
    show Steps p.tables e below (T5.setTop (mkF m 58 #[.val (.ref a1), .unset] [(.ref b2)])) _
    jvm_step X5.here [X5.here.top, hx, (hb hby d37_58), X5.method', Bd.returns, Value.isRef, FieldType.isReference]
    first | (intro acts; rw [hr _ acts rfl rfl rfl]) | rw [hr _ _ rfl rfl rfl]
    exact Steps.refl _
  · show own_M2 Z x0 x1 h0 n0 _ T5.heap _
    exact ⟨b2, rfl, N5, K2.trans KQ (fun x hx => Or.inr (by cases List.mem_singleton.mp hx; exact sz_b2)), sz_b2, EQ, F0Q, F1Q⟩
theorem d37_59 : decode jdk_40_method_47_code 59 = .ok (.aload_n 0, 1) := by decide +kernel
theorem d37_60 : decode jdk_40_method_47_code 60 = .ok (.invokestatic 109, 3) := by decide +kernel
theorem d37_63 : decode jdk_40_method_47_code 63 = .ok (.areturn, 1) := by decide +kernel
theorem pd_37_27 : parseMethodDescriptor "([Ljava/lang/Object;)Ljava/util/List;" = some ⟨[(.array (.object "java/lang/Object"))], some (.object "java/util/List")⟩ := by decide +kernel
set_option maxRecDepth 65536 in
set_option maxHeartbeats 40000000 in
theorem rm37p3 (l : Launch) (Z : State) (a0 : Array Value) (hw : ∀ d ∈ tables_1, d.before a0 Z = true) (ws : List Jvm.Cond) (a1 : Addr) (k : ClassId) (x0 x1 x2 : Addr) (h0 : Heap) (n0 : Nat) (Z0 : n0 ≤ h0.size) (VA : Arv Z h0 a1 k (.object "java/lang/Object") (3 : Int32) [(.ref x0), (.ref x1), (.ref x2)] .null) (Ex0 : Exa Z h0 x0 "java/lang/String") (Ex1 : Exa Z h0 x1 "java/lang/String") (Ex2 : Exa Z h0 x2 "java/lang/String") :
    MetFree l mN45 (head1 (Jvm.Cond.code mN45 jdk_40_method_47_code 2 (some (.object "java/util/List")) :: ws) ({ frames := 6, cells := 2, slots := 5, locals := 77 } : Room)) (fun a U => a = #[(.ref a1)] ∧ Z.Warmed39 U.vm ∧ U.heap = h0) (fun _ _ _ _ _ => True) (fun _ U o U' => ∃ v L, o = .returned v ∧ own_M3 Z x0 x1 x2 h0 n0 v U'.heap L ∧ FrameEnd U o U' L ({ frames := 6, cells := 2, slots := 5, locals := 77 } : Room).cells ({ frames := 6, cells := 2, slots := 5, locals := 77 } : Room).slots) := by
  refine MetFree.of_bodySF (plainFor_of_name pn_37) hisR ?_
  intro p e s m args below meth c s₁ Bd hml0 hP hK
  obtain ⟨rfl, hZ, hh⟩ := hP
  have hx := Bd.exec
  have hby := Bd.bytes
  have hml : c.maxLocals = 2 := hml0
  have hown : s.vm.findClass "java/util/List" = some m.cls := findClass_of_methodNamed Bd.named
  have hnm := (name_of_methodNamed Bd.named Bd.method).1
  have X0 : Stand p l e ({ frames := 6, cells := 2, slots := 5, locals := 77 } : Room) s m #[(.ref a1)] below meth c s₁ [] 0 0 := Stand.of_body Bd
  have e0 : s₁.heap = h0 := by rw [← hh, Bd.state]; rfl
  have N0 := Fr.nil n0
  have pre0 : ∀ t, Steps p.tables e below (s₁.setTop (mkF m 0 #[.val (.ref a1), .unset] [])) t → Steps p.tables e below (s₁.setTop (entryFrame m #[(.ref a1)] 2)) t := fun t k => castTop (ef_37 m a1) k
  obtain ⟨cl_a1, Ar_a1, q_a1, S_a1, N_a1, H_a1, G_a1⟩ := id VA
  obtain ⟨_, _, ⟨T2, L2, k2, n2⟩, -, X2, ⟨Lc2, hQ2, l2, y2, z2⟩, st2⟩ := Jvm.LawKit.callS X0 hx (y := mN31) hown (mvT hZ (wd hw 298 rfl)) (mvT hZ (wd hw 299 rfl)) (mvT hZ (wd hw 78 rfl)) (mvT hZ (wd hw 300 rfl)) (by decide) (backOf (W := 0) (rm44 l Z a0 hw [] a1 k x0 x1 x2 h0 n0 Z0 VA Ex0 Ex1 Ex2) hZ (wd hw 300 rfl) (wd hw 78 rfl) (by decide) (by decide)) (g := (mkF m 60 #[.val (.ref a1), .unset] [(.ref a1)])) rfl (by rw [hml]; rfl) (argsL := [(.ref a1)]) (rest := []) (lenOf pd_37_27 rfl) rfl (by show 2 * 0 + _ ≤ _; exact Nat.le_of_eq rfl) (hb hby d37_60) (fun _ _ => ⟨rfl, e0, (by decide : 0 + 2 ≤ _), (by decide : 0 + 5 ≤ _)⟩)
  dsimp only [Pt.U, Pt.locs, Pt.cells, Pt.slots] at X2 l2 y2 z2 st2 hQ2
  subst l2 y2 z2
  obtain ⟨x, rfl, N2q, K2q, z2q, S2q⟩ := hQ2
  have N2 := Fr.app N0 N2q
  obtain ⟨fs, hr, hrun, hended, hW, hsame⟩ := X2.leave (v := some (.ref x)) (fun h => by rw [Bd.returns] at h; cases h)
  refine ⟨_, _, pre0 _ ?_, hrun, hended, _, _, rfl, ?_, ⟨_, rfl⟩, hW, hsame.mono (by decide) (by decide)⟩
  · show Steps p.tables e below (s₁.setTop (mkF m 0 #[.val (.ref a1), .unset] [])) _
    refine XS.aloadN X0.here hx rfl (hb hby d37_0) rfl rfl ?_
    show Steps p.tables e below (s₁.setTop (mkF m 1 #[.val (.ref a1), .unset] [(.ref a1)])) _
    refine X0.arraylength hx (by rw [e0]; exact Ar_a1.1) (State.isArrayOf_alike hZ.alike Ar_a1.2.1) (g := (mkF m 1 #[.val (.ref a1), .unset] [(.ref a1)])) rfl rfl (hb hby d37_1) _ ?_
    rw [len_of S_a1 N_a1]
    show Steps p.tables e below (s₁.setTop (mkF m 2 #[.val (.ref a1), .unset] [(.int (3 : Int32))])) _
    refine XS.tswOut X0.here hx rfl (pc0 := 2) (pc' := 59) rfl (hb hby d37_2) rfl (by decide) (by decide) (by decide) ?_
    refine XS.aloadN X0.here hx rfl (hb hby d37_59) rfl rfl ?_
    show Steps p.tables e below (s₁.setTop (mkF m 60 #[.val (.ref a1), .unset] [(.ref a1)])) _
    refine st2 _ ?_
    show Steps p.tables e below (T2.setTop (mkF m 63 #[.val (.ref a1), .unset] [(.ref x)])) _
    jvm_step X2.here [X2.here.top, hx, (hb hby d37_63), X2.method', Bd.returns, Value.isRef, FieldType.isReference]
    first | (intro acts; rw [hr _ acts rfl rfl rfl]) | rw [hr _ _ rfl rfl rfl]
    exact Steps.refl _
  · show own_M3 Z x0 x1 x2 h0 n0 _ T2.heap _
    exact ⟨x, rfl, N2, K2q, z2q, S2q⟩
theorem d11_0 : decode jdk_56_method_3_code 0 = .ok (.aload_n 0, 1) := by decide +kernel
theorem d11_1 : decode jdk_56_method_3_code 1 = .ok (.instanceof 10, 3) := by decide +kernel
theorem d11_4 : decode jdk_56_method_3_code 4 = .ok (.ifCond .ne 22, 3) := by decide +kernel
theorem d11_7 : decode jdk_56_method_3_code 7 = .ok (.aload_n 0, 1) := by decide +kernel
theorem d11_8 : decode jdk_56_method_3_code 8 = .ok (.instanceof 12, 3) := by decide +kernel
theorem d11_11 : decode jdk_56_method_3_code 11 = .ok (.ifCond .eq 20, 3) := by decide +kernel
theorem d11_31 : decode jdk_56_method_3_code 31 = .ok (.aload_n 0, 1) := by decide +kernel
theorem d11_32 : decode jdk_56_method_3_code 32 = .ok (.invokeinterface 20 1, 5) := by decide +kernel
theorem d11_37 : decode jdk_56_method_3_code 37 = .ok (.ifCond .eq 7, 3) := by decide +kernel
theorem d11_44 : decode jdk_56_method_3_code 44 = .ok (.aload_n 0, 1) := by decide +kernel
theorem d11_45 : decode jdk_56_method_3_code 45 = .ok (.invokeinterface 30 1, 5) := by decide +kernel
theorem d11_50 : decode jdk_56_method_3_code 50 = .ok (.invokestatic 34, 3) := by decide +kernel
theorem d11_53 : decode jdk_56_method_3_code 53 = .ok (.areturn, 1) := by decide +kernel
theorem pn_11 : plainName "java/util/ImmutableCollections" = true := by first | (simp [plainName, overriddenIn]; done) | decide +kernel
theorem pd_11_7 : parseMethodDescriptor "()Z" = some ⟨[], some .boolean⟩ := by decide +kernel
theorem pd_11_11 : parseMethodDescriptor "()[Ljava/lang/Object;" = some ⟨[], some (.array (.object "java/lang/Object"))⟩ := by decide +kernel
theorem pd_11_27 : parseMethodDescriptor "([Ljava/lang/Object;)Ljava/util/List;" = some ⟨[(.array (.object "java/lang/Object"))], some (.object "java/util/List")⟩ := by decide +kernel
theorem ef_11 (m : MethodId) (x0 : Addr) : entryFrame m #[(.ref x0)] 2 = mkF m 0 #[.val (.ref x0), .unset] [] := by first | (simp [entryFrame, mkF, argsToLocals, Value.category]; done) | rfl
set_option maxRecDepth 65536 in
set_option maxHeartbeats 40000000 in
theorem rm11p1 (l : Launch) (Z : State) (a0 : Array Value) (hw : ∀ d ∈ tables_1, d.before a0 Z = true) (ws : List Jvm.Cond) (a1 a3 mr : Addr) (k : ClassId) (mc : Int32) (x0 wEm : Addr) (h0 : Heap) (n0 : Nat) (Z0 : n0 ≤ h0.size) (hL : own_LS Z h0 a1 a3 k mc (1 : Int32) [(.ref x0), .null, .null, .null, .null, .null, .null, .null, .null, .null]) (MIR : Mir Z "[Ljava/lang/Object;" mr) (Ex0 : Exa Z h0 x0 "java/lang/String") (S_EMPTY : Sta Z h0 "java/util/ImmutableCollections" "EMPTY" "Ljava/lang/Object;" (.ref wEm)) :
    MetFree l mN30 (head1 (Jvm.Cond.code mN30 jdk_56_method_3_code 2 (some (.object "java/util/List")) :: ws) ({ frames := 6, cells := 2, slots := 3, locals := 80 } : Room)) (fun a U => a = #[(.ref a1)] ∧ Z.Warmed39 U.vm ∧ U.heap = h0) (fun _ _ _ _ _ => True) (fun _ U o U' => ∃ v L, o = .returned v ∧ own_M1 Z x0 wEm h0 n0 v U'.heap L ∧ FrameEnd U o U' L ({ frames := 6, cells := 2, slots := 3, locals := 80 } : Room).cells ({ frames := 6, cells := 2, slots := 3, locals := 80 } : Room).slots) := by
  refine MetFree.of_bodySF (plainFor_of_name pn_11) hisR ?_
  intro p e s m args below meth c s₁ Bd hml0 hP hK
  obtain ⟨rfl, hZ, hh⟩ := hP
  have hx := Bd.exec
  have hby := Bd.bytes
  have hml : c.maxLocals = 2 := hml0
  have hown : s.vm.findClass "java/util/ImmutableCollections" = some m.cls := findClass_of_methodNamed Bd.named
  have hnm := (name_of_methodNamed Bd.named Bd.method).1
  have X0 : Stand p l e ({ frames := 6, cells := 2, slots := 3, locals := 80 } : Room) s m #[(.ref a1)] below meth c s₁ [] 0 0 := Stand.of_body Bd
  have e0 : s₁.heap = h0 := by rw [← hh, Bd.state]; rfl
  have N0 := Fr.nil n0
  have pre0 : ∀ t, Steps p.tables e below (s₁.setTop (mkF m 0 #[.val (.ref a1), .unset] [])) t → Steps p.tables e below (s₁.setTop (entryFrame m #[(.ref a1)] 2)) t := fun t k => castTop (ef_11 m a1) k
  obtain ⟨E_a1, F_mc, F_ed, F_size_a1, VA, O_a3, EX_a3⟩ := id hL
  obtain ⟨T2, X2, e2, st2⟩ := instNo X0 hx hZ hown (wd hw 80 rfl) e0 E_a1 (own_nsno (wd hw 81 rfl) (wd hw 255 rfl) (NS.step (wd hw 81 rfl) (NS.step (wd hw 82 rfl) (NS.step (wd hw 83 rfl) (own_nsroot (wd hw 84 rfl) (wd hw 255 rfl) (by decide)) (by decide)) (by decide)) (by decide)) (by decide)) (g := (mkF m 1 #[.val (.ref a1), .unset] [(.ref a1)])) rfl rfl (hb hby d11_1)
  obtain ⟨T3, X3, e3, st3⟩ := instNo X2 hx hZ hown (wd hw 85 rfl) e2 E_a1 (own_nsno (wd hw 81 rfl) (wd hw 303 rfl) (NS.step (wd hw 81 rfl) (NS.step (wd hw 82 rfl) (NS.step (wd hw 83 rfl) (own_nsroot (wd hw 84 rfl) (wd hw 303 rfl) (by decide)) (by decide)) (by decide)) (by decide)) (by decide)) (g := (mkF m 8 #[.val (.ref a1), .unset] [(.ref a1)])) rfl rfl (hb hby d11_8)
  obtain ⟨cq4, kq4, q4a, q4b, q4c⟩ := isOf hZ e3 E_a1
  obtain ⟨_, _, ⟨T4, L4, k4, n4⟩, -, X4, ⟨Lc4, hQ4, l4, y4, z4⟩, st4⟩ := X3.interfaceBack hx (xi := mN28) (y := mN24) hown (mvT hZ (wd hw 86 rfl)) (mvT hZ (wd hw 87 rfl)) (mvT hZ (wd hw 88 rfl)) (mvT hZ (wd hw 89 rfl)) (mvT hZ (wd hw 90 rfl)) (mvT hZ (wd hw 91 rfl)) (mvT hZ (wd hw 92 rfl)) (mvT hZ (wd hw 93 rfl)) (by decide) (backOf (W := 0) (rm12t l Z a0 hw [] a1 (1 : Int32) h0 n0 Z0 F_size_a1 (by decide)) hZ (wd hw 94 rfl) (wd hw 28 rfl) (by decide) (by decide)) q4a q4b q4c (g := (mkF m 32 #[.val (.ref a1), .unset] [(.ref a1)])) rfl (by rw [hml]; rfl) (Steps.refl _) (argsL := []) (rest := []) (lenOf pd_11_7 rfl) rfl (by show 2 * 0 + _ ≤ _; exact Nat.le_of_eq rfl) (hb hby d11_32) (fun _ _ => ⟨rfl, e3, (by decide : 0 + 0 ≤ _), (by decide : 0 + 0 ≤ _)⟩)
  dsimp only [Pt.U, Pt.locs, Pt.cells, Pt.slots] at X4 l4 y4 z4 st4 hQ4
  subst l4 y4 z4
  obtain ⟨rfl, N4q, k4q⟩ := hQ4
  have Kc4 : Keep h0 T4.heap [] := by rw [k4q]; exact Keep.refl _ []
  have Kh4 : Keep h0 T4.heap [] := by rw [k4q]; exact Keep.refl h0 []
  have N4 := Fr.app N0 N4q
  obtain ⟨cq5, kq5, q5a, q5b, q5c⟩ := isOf hZ rfl (E_a1.keep Kc4)
  obtain ⟨_, _, ⟨T5, L5, k5, n5⟩, -, X5, ⟨Lc5, hQ5, l5, y5, z5⟩, st5⟩ := X4.interfaceBack hx (xi := mN29) (y := mN25) hown (mvT hZ (wd hw 221 rfl)) (mvT hZ (wd hw 222 rfl)) (mvT hZ (wd hw 223 rfl)) (mvT hZ (wd hw 224 rfl)) (mvT hZ (wd hw 225 rfl)) (mvT hZ (wd hw 226 rfl)) (mvT hZ (wd hw 227 rfl)) (mvT hZ (wd hw 93 rfl)) (by decide) (backOf (W := 0) (rm33p1 l Z a0 hw [] a1 a3 mr k mc x0 T4.heap n0 (Nat.le_trans Z0 Kc4.1) (hL.keep Kc4) MIR (Ex0.keep Kc4)) hZ (wd hw 228 rfl) (wd hw 28 rfl) (by decide) (by decide)) q5a q5b q5c (g := (mkF m 45 #[.val (.ref a1), .unset] [(.ref a1)])) rfl (by rw [hml]; rfl) (Steps.refl _) (argsL := []) (rest := []) (lenOf pd_11_11 rfl) rfl (by show 2 * 0 + _ ≤ _; exact Nat.le_of_eq rfl) (hb hby d11_45) (fun _ _ => ⟨rfl, rfl, (by decide : 0 + 1 ≤ _), (by decide : 0 + 1 ≤ _)⟩)
  dsimp only [Pt.U, Pt.locs, Pt.cells, Pt.slots] at X5 l5 y5 z5 st5 hQ5
  subst l5 y5 z5
  obtain ⟨d, kd, rfl, N5q, K5q, z5q, V5q⟩ := hQ5
  have K5h : Keep h0 T5.heap [] := Kc4.trans K5q (fun x hx => nomatch hx)
  have N5 := Fr.app N4 N5q
  obtain ⟨_, _, ⟨T6, L6, k6, n6⟩, -, X6, ⟨Lc6, hQ6, l6, y6, z6⟩, st6⟩ := Jvm.LawKit.callS X5 hx (y := mN45) hown (mvT hZ (wd hw 251 rfl)) (mvT hZ (wd hw 252 rfl)) (mvT hZ (wd hw 74 rfl)) (mvT hZ (wd hw 253 rfl)) (by decide) (backOf (W := 0) (rm37p1 l Z a0 hw [] d kd x0 wEm T5.heap n0 (Nat.le_trans Z0 K5h.1) V5q (own_staK S_EMPTY K5h)) hZ (wd hw 253 rfl) (wd hw 74 rfl) (by decide) (by decide)) (g := (mkF m 50 #[.val (.ref a1), .unset] [(.ref d)])) rfl (by rw [hml]; rfl) (argsL := [(.ref d)]) (rest := []) (lenOf pd_11_27 rfl) rfl (by show 2 * 0 + _ ≤ _; exact Nat.le_of_eq rfl) (hb hby d11_50) (fun _ _ => ⟨rfl, rfl, (by decide : 1 + 1 ≤ _), (by decide : 1 + 2 ≤ _)⟩)
  dsimp only [Pt.U, Pt.locs, Pt.cells, Pt.slots] at X6 l6 y6 z6 st6 hQ6
  subst l6 y6 z6
  obtain ⟨x, rfl, N6q, K6q, z6q, S6q⟩ := hQ6
  have N6 := Fr.app N5 N6q
  obtain ⟨fs, hr, hrun, hended, hW, hsame⟩ := X6.leave (v := some (.ref x)) (fun h => by rw [Bd.returns] at h; cases h)
  refine ⟨_, _, pre0 _ ?_, hrun, hended, _, _, rfl, ?_, ⟨_, rfl⟩, hW, hsame.mono (by decide) (by decide)⟩
  · show Steps p.tables e below (s₁.setTop (mkF m 0 #[.val (.ref a1), .unset] [])) _
    refine XS.aloadN X0.here hx rfl (hb hby d11_0) rfl rfl ?_
    show Steps p.tables e below (s₁.setTop (mkF m 1 #[.val (.ref a1), .unset] [(.ref a1)])) _
    refine st2 _ ?_
    show Steps p.tables e below (T2.setTop (mkF m 4 #[.val (.ref a1), .unset] [(.int (0 : Int32))])) _
    refine XS.ifNo X2.here hx rfl (hb hby d11_4) rfl ((if0 _ _).trans (teq (rfl : (0 : Int32) = (0 : Int32))).2) ?_
    refine XS.aloadN X2.here hx rfl (hb hby d11_7) rfl rfl ?_
    show Steps p.tables e below (T2.setTop (mkF m 8 #[.val (.ref a1), .unset] [(.ref a1)])) _
    refine st3 _ ?_
    show Steps p.tables e below (T3.setTop (mkF m 11 #[.val (.ref a1), .unset] [(.int (0 : Int32))])) _
    refine XS.ifYes X3.here hx rfl (pc0 := 11) (pc' := 31) rfl (hb hby d11_11) rfl ((if0 _ _).trans (teq (rfl : (0 : Int32) = (0 : Int32))).1) (by decide) (by decide) ?_
    refine XS.aloadN X3.here hx rfl (hb hby d11_31) rfl rfl ?_
    show Steps p.tables e below (T3.setTop (mkF m 32 #[.val (.ref a1), .unset] [(.ref a1)])) _
    refine st4.trans ?_
    show Steps p.tables e below (T4.setTop (mkF m 37 #[.val (.ref a1), .unset] [(.int (0 : Int32))])) _
    refine XS.ifYes X4.here hx rfl (pc0 := 37) (pc' := 44) rfl (hb hby d11_37) rfl ((if0 _ _).trans (teq (rfl : (0 : Int32) = (0 : Int32))).1) (by decide) (by decide) ?_
    refine XS.aloadN X4.here hx rfl (hb hby d11_44) rfl rfl ?_
    show Steps p.tables e below (T4.setTop (mkF m 45 #[.val (.ref a1), .unset] [(.ref a1)])) _
    refine st5.trans ?_
    show Steps p.tables e below (T5.setTop (mkF m 50 #[.val (.ref a1), .unset] [(.ref d)])) _
    refine st6 _ ?_
    show Steps p.tables e below (T6.setTop (mkF m 53 #[.val (.ref a1), .unset] [(.ref x)])) _
    jvm_step X6.here [X6.here.top, hx, (hb hby d11_53), X6.method', Bd.returns, Value.isRef, FieldType.isReference]
    first | (intro acts; rw [hr _ acts rfl rfl rfl]) | rw [hr _ _ rfl rfl rfl]
    exact Steps.refl _
  · show own_M1 Z x0 wEm h0 n0 _ T6.heap _
    exact ⟨x, rfl, N6, K5h.trans K6q (fun x hx => nomatch hx), Nat.le_trans K5h.1 z6q, S6q⟩
theorem d10_0 : decode jdk_40_method_48_code 0 = .ok (.aload_n 0, 1) := by decide +kernel
theorem d10_1 : decode jdk_40_method_48_code 1 = .ok (.invokestatic 112, 3) := by decide +kernel
theorem d10_4 : decode jdk_40_method_48_code 4 = .ok (.areturn, 1) := by decide +kernel
theorem pn_10 : plainName "java/util/List" = true := by first | (simp [plainName, overriddenIn]; done) | decide +kernel
theorem pd_10_6 : parseMethodDescriptor "(Ljava/util/Collection;)Ljava/util/List;" = some ⟨[(.object "java/util/Collection")], some (.object "java/util/List")⟩ := by decide +kernel
theorem ef_10 (m : MethodId) (x0 : Addr) : entryFrame m #[(.ref x0)] 1 = mkF m 0 #[.val (.ref x0)] [] := by first | (simp [entryFrame, mkF, argsToLocals, Value.category]; done) | rfl
set_option maxRecDepth 65536 in
set_option maxHeartbeats 40000000 in
theorem rm10p1 (l : Launch) (Z : State) (a0 : Array Value) (hw : ∀ d ∈ tables_1, d.before a0 Z = true) (ws : List Jvm.Cond) (a1 a3 mr : Addr) (k : ClassId) (mc : Int32) (x0 wEm : Addr) (h0 : Heap) (n0 : Nat) (Z0 : n0 ≤ h0.size) (hL : own_LS Z h0 a1 a3 k mc (1 : Int32) [(.ref x0), .null, .null, .null, .null, .null, .null, .null, .null, .null]) (MIR : Mir Z "[Ljava/lang/Object;" mr) (Ex0 : Exa Z h0 x0 "java/lang/String") (S_EMPTY : Sta Z h0 "java/util/ImmutableCollections" "EMPTY" "Ljava/lang/Object;" (.ref wEm)) :
    MetFree l mN42 (head1 (Jvm.Cond.code mN42 jdk_40_method_48_code 1 (some (.object "java/util/List")) :: ws) ({ frames := 8, cells := 3, slots := 8, locals := 103 } : Room)) (fun a U => a = #[(.ref a1)] ∧ Z.Warmed39 U.vm ∧ U.heap = h0) (fun _ _ _ _ _ => True) (fun _ U o U' => ∃ v L, o = .returned v ∧ own_MG Z (fun h x => own_L1 Z h x x0 wEm) h0 n0 v U'.heap L ∧ FrameEnd U o U' L ({ frames := 8, cells := 3, slots := 8, locals := 103 } : Room).cells ({ frames := 8, cells := 3, slots := 8, locals := 103 } : Room).slots) := by
  refine MetFree.of_bodySF (plainFor_of_name pn_10) hisR ?_
  intro p e s m args below meth c s₁ Bd hml0 hP hK
  obtain ⟨rfl, hZ, hh⟩ := hP
  have hx := Bd.exec
  have hby := Bd.bytes
  have hml : c.maxLocals = 1 := hml0
  have hown : s.vm.findClass "java/util/List" = some m.cls := findClass_of_methodNamed Bd.named
  have hnm := (name_of_methodNamed Bd.named Bd.method).1
  have X0 : Stand p l e ({ frames := 8, cells := 3, slots := 8, locals := 103 } : Room) s m #[(.ref a1)] below meth c s₁ [] 0 0 := Stand.of_body Bd
  have e0 : s₁.heap = h0 := by rw [← hh, Bd.state]; rfl
  have N0 := Fr.nil n0
  have pre0 : ∀ t, Steps p.tables e below (s₁.setTop (mkF m 0 #[.val (.ref a1)] [])) t → Steps p.tables e below (s₁.setTop (entryFrame m #[(.ref a1)] 1)) t := fun t k => castTop (ef_10 m a1) k
  obtain ⟨_, _, ⟨T2, L2, k2, n2⟩, -, X2, ⟨Lc2, hQ2, l2, y2, z2⟩, st2⟩ := Jvm.LawKit.callS X0 hx (y := mN30) hown (mvT hZ (wd hw 76 rfl)) (mvT hZ (wd hw 77 rfl)) (mvT hZ (wd hw 78 rfl)) (mvT hZ (wd hw 79 rfl)) (by decide) (backOf (W := 0) (rm11p1 l Z a0 hw [] a1 a3 mr k mc x0 wEm h0 n0 Z0 hL MIR (Ex0) S_EMPTY) hZ (wd hw 79 rfl) (wd hw 78 rfl) (by decide) (by decide)) (g := (mkF m 1 #[.val (.ref a1)] [(.ref a1)])) rfl (by rw [hml]; rfl) (argsL := [(.ref a1)]) (rest := []) (lenOf pd_10_6 rfl) rfl (by show 2 * 0 + _ ≤ _; exact Nat.le_of_eq rfl) (hb hby d10_1) (fun _ _ => ⟨rfl, e0, (by decide : 0 + 2 ≤ _), (by decide : 0 + 3 ≤ _)⟩)
  dsimp only [Pt.U, Pt.locs, Pt.cells, Pt.slots] at X2 l2 y2 z2 st2 hQ2
  subst l2 y2 z2
  obtain ⟨x, rfl, N2q, K2q, z2q, S2q⟩ := hQ2
  have N2 := Fr.app N0 N2q
  obtain ⟨fs, hr, hrun, hended, hW, hsame⟩ := X2.leave (v := some (.ref x)) (fun h => by rw [Bd.returns] at h; cases h)
  refine ⟨_, _, pre0 _ ?_, hrun, hended, _, _, rfl, ?_, ⟨_, rfl⟩, hW, hsame.mono (by decide) (by decide)⟩
  · show Steps p.tables e below (s₁.setTop (mkF m 0 #[.val (.ref a1)] [])) _
    refine XS.aloadN X0.here hx rfl (hb hby d10_0) rfl rfl ?_
    show Steps p.tables e below (s₁.setTop (mkF m 1 #[.val (.ref a1)] [(.ref a1)])) _
    refine st2 _ ?_
    show Steps p.tables e below (T2.setTop (mkF m 4 #[.val (.ref a1)] [(.ref x)])) _
    jvm_step X2.here [X2.here.top, hx, (hb hby d10_4), X2.method', Bd.returns, Value.isRef, FieldType.isReference]
    first | (intro acts; rw [hr _ acts rfl rfl rfl]) | rw [hr _ _ rfl rfl rfl]
    exact Steps.refl _
  · show own_MG Z (fun h x => own_L1 Z h x x0 wEm) h0 n0 _ T2.heap _
    exact ⟨x, rfl, N2, K2q, S2q⟩
set_option maxRecDepth 65536 in
set_option maxHeartbeats 40000000 in
theorem rm11p2 (l : Launch) (Z : State) (a0 : Array Value) (hw : ∀ d ∈ tables_1, d.before a0 Z = true) (ws : List Jvm.Cond) (a1 a3 mr : Addr) (k : ClassId) (mc : Int32) (x0 x1 : Addr) (h0 : Heap) (n0 : Nat) (Z0 : n0 ≤ h0.size) (hL : own_LS Z h0 a1 a3 k mc (2 : Int32) [(.ref x0), (.ref x1), .null, .null, .null, .null, .null, .null, .null, .null]) (MIR : Mir Z "[Ljava/lang/Object;" mr) (Ex0 : Exa Z h0 x0 "java/lang/String") (Ex1 : Exa Z h0 x1 "java/lang/String") :
    MetFree l mN30 (head1 (Jvm.Cond.code mN30 jdk_56_method_3_code 2 (some (.object "java/util/List")) :: ws) ({ frames := 6, cells := 2, slots := 4, locals := 80 } : Room)) (fun a U => a = #[(.ref a1)] ∧ Z.Warmed39 U.vm ∧ U.heap = h0) (fun _ _ _ _ _ => True) (fun _ U o U' => ∃ v L, o = .returned v ∧ own_M2 Z x0 x1 h0 n0 v U'.heap L ∧ FrameEnd U o U' L ({ frames := 6, cells := 2, slots := 4, locals := 80 } : Room).cells ({ frames := 6, cells := 2, slots := 4, locals := 80 } : Room).slots) := by
  refine MetFree.of_bodySF (plainFor_of_name pn_11) hisR ?_
  intro p e s m args below meth c s₁ Bd hml0 hP hK
  obtain ⟨rfl, hZ, hh⟩ := hP
  have hx := Bd.exec
  have hby := Bd.bytes
  have hml : c.maxLocals = 2 := hml0
  have hown : s.vm.findClass "java/util/ImmutableCollections" = some m.cls := findClass_of_methodNamed Bd.named
  have hnm := (name_of_methodNamed Bd.named Bd.method).1
  have X0 : Stand p l e ({ frames := 6, cells := 2, slots := 4, locals := 80 } : Room) s m #[(.ref a1)] below meth c s₁ [] 0 0 := Stand.of_body Bd
  have e0 : s₁.heap = h0 := by rw [← hh, Bd.state]; rfl
  have N0 := Fr.nil n0
  have pre0 : ∀ t, Steps p.tables e below (s₁.setTop (mkF m 0 #[.val (.ref a1), .unset] [])) t → Steps p.tables e below (s₁.setTop (entryFrame m #[(.ref a1)] 2)) t := fun t k => castTop (ef_11 m a1) k
  obtain ⟨E_a1, F_mc, F_ed, F_size_a1, VA, O_a3, EX_a3⟩ := id hL
  obtain ⟨T2, X2, e2, st2⟩ := instNo X0 hx hZ hown (wd hw 80 rfl) e0 E_a1 (own_nsno (wd hw 81 rfl) (wd hw 255 rfl) (NS.step (wd hw 81 rfl) (NS.step (wd hw 82 rfl) (NS.step (wd hw 83 rfl) (own_nsroot (wd hw 84 rfl) (wd hw 255 rfl) (by decide)) (by decide)) (by decide)) (by decide)) (by decide)) (g := (mkF m 1 #[.val (.ref a1), .unset] [(.ref a1)])) rfl rfl (hb hby d11_1)
  obtain ⟨T3, X3, e3, st3⟩ := instNo X2 hx hZ hown (wd hw 85 rfl) e2 E_a1 (own_nsno (wd hw 81 rfl) (wd hw 303 rfl) (NS.step (wd hw 81 rfl) (NS.step (wd hw 82 rfl) (NS.step (wd hw 83 rfl) (own_nsroot (wd hw 84 rfl) (wd hw 303 rfl) (by decide)) (by decide)) (by decide)) (by decide)) (by decide)) (g := (mkF m 8 #[.val (.ref a1), .unset] [(.ref a1)])) rfl rfl (hb hby d11_8)
  obtain ⟨cq4, kq4, q4a, q4b, q4c⟩ := isOf hZ e3 E_a1
  obtain ⟨_, _, ⟨T4, L4, k4, n4⟩, -, X4, ⟨Lc4, hQ4, l4, y4, z4⟩, st4⟩ := X3.interfaceBack hx (xi := mN28) (y := mN24) hown (mvT hZ (wd hw 86 rfl)) (mvT hZ (wd hw 87 rfl)) (mvT hZ (wd hw 88 rfl)) (mvT hZ (wd hw 89 rfl)) (mvT hZ (wd hw 90 rfl)) (mvT hZ (wd hw 91 rfl)) (mvT hZ (wd hw 92 rfl)) (mvT hZ (wd hw 93 rfl)) (by decide) (backOf (W := 0) (rm12t l Z a0 hw [] a1 (2 : Int32) h0 n0 Z0 F_size_a1 (by decide)) hZ (wd hw 94 rfl) (wd hw 28 rfl) (by decide) (by decide)) q4a q4b q4c (g := (mkF m 32 #[.val (.ref a1), .unset] [(.ref a1)])) rfl (by rw [hml]; rfl) (Steps.refl _) (argsL := []) (rest := []) (lenOf pd_11_7 rfl) rfl (by show 2 * 0 + _ ≤ _; exact Nat.le_of_eq rfl) (hb hby d11_32) (fun _ _ => ⟨rfl, e3, (by decide : 0 + 0 ≤ _), (by decide : 0 + 0 ≤ _)⟩)
  dsimp only [Pt.U, Pt.locs, Pt.cells, Pt.slots] at X4 l4 y4 z4 st4 hQ4
  subst l4 y4 z4
  obtain ⟨rfl, N4q, k4q⟩ := hQ4
  have Kc4 : Keep h0 T4.heap [] := by rw [k4q]; exact Keep.refl _ []
  have Kh4 : Keep h0 T4.heap [] := by rw [k4q]; exact Keep.refl h0 []
  have N4 := Fr.app N0 N4q
  obtain ⟨cq5, kq5, q5a, q5b, q5c⟩ := isOf hZ rfl (E_a1.keep Kc4)
  obtain ⟨_, _, ⟨T5, L5, k5, n5⟩, -, X5, ⟨Lc5, hQ5, l5, y5, z5⟩, st5⟩ := X4.interfaceBack hx (xi := mN29) (y := mN25) hown (mvT hZ (wd hw 221 rfl)) (mvT hZ (wd hw 222 rfl)) (mvT hZ (wd hw 223 rfl)) (mvT hZ (wd hw 224 rfl)) (mvT hZ (wd hw 225 rfl)) (mvT hZ (wd hw 226 rfl)) (mvT hZ (wd hw 227 rfl)) (mvT hZ (wd hw 93 rfl)) (by decide) (backOf (W := 0) (rm33p2 l Z a0 hw [] a1 a3 mr k mc x0 x1 T4.heap n0 (Nat.le_trans Z0 Kc4.1) (hL.keep Kc4) MIR (Ex0.keep Kc4) (Ex1.keep Kc4)) hZ (wd hw 228 rfl) (wd hw 28 rfl) (by decide) (by decide)) q5a q5b q5c (g := (mkF m 45 #[.val (.ref a1), .unset] [(.ref a1)])) rfl (by rw [hml]; rfl) (Steps.refl _) (argsL := []) (rest := []) (lenOf pd_11_11 rfl) rfl (by show 2 * 0 + _ ≤ _; exact Nat.le_of_eq rfl) (hb hby d11_45) (fun _ _ => ⟨rfl, rfl, (by decide : 0 + 1 ≤ _), (by decide : 0 + 2 ≤ _)⟩)
  dsimp only [Pt.U, Pt.locs, Pt.cells, Pt.slots] at X5 l5 y5 z5 st5 hQ5
  subst l5 y5 z5
  obtain ⟨d, kd, rfl, N5q, K5q, z5q, V5q⟩ := hQ5
  have K5h : Keep h0 T5.heap [] := Kc4.trans K5q (fun x hx => nomatch hx)
  have N5 := Fr.app N4 N5q
  obtain ⟨_, _, ⟨T6, L6, k6, n6⟩, -, X6, ⟨Lc6, hQ6, l6, y6, z6⟩, st6⟩ := Jvm.LawKit.callS X5 hx (y := mN45) hown (mvT hZ (wd hw 251 rfl)) (mvT hZ (wd hw 252 rfl)) (mvT hZ (wd hw 74 rfl)) (mvT hZ (wd hw 253 rfl)) (by decide) (backOf (W := 0) (rm37p2 l Z a0 hw [] d kd x0 x1 T5.heap n0 (Nat.le_trans Z0 K5h.1) V5q) hZ (wd hw 253 rfl) (wd hw 74 rfl) (by decide) (by decide)) (g := (mkF m 50 #[.val (.ref a1), .unset] [(.ref d)])) rfl (by rw [hml]; rfl) (argsL := [(.ref d)]) (rest := []) (lenOf pd_11_27 rfl) rfl (by show 2 * 0 + _ ≤ _; exact Nat.le_of_eq rfl) (hb hby d11_50) (fun _ _ => ⟨rfl, rfl, (by decide : 1 + 1 ≤ _), (by decide : 2 + 2 ≤ _)⟩)
  dsimp only [Pt.U, Pt.locs, Pt.cells, Pt.slots] at X6 l6 y6 z6 st6 hQ6
  subst l6 y6 z6
  obtain ⟨x, rfl, N6q, K6q, z6q, S6q⟩ := hQ6
  have N6 := Fr.app N5 N6q
  obtain ⟨fs, hr, hrun, hended, hW, hsame⟩ := X6.leave (v := some (.ref x)) (fun h => by rw [Bd.returns] at h; cases h)
  refine ⟨_, _, pre0 _ ?_, hrun, hended, _, _, rfl, ?_, ⟨_, rfl⟩, hW, hsame.mono (by decide) (by decide)⟩
  · show Steps p.tables e below (s₁.setTop (mkF m 0 #[.val (.ref a1), .unset] [])) _
    refine XS.aloadN X0.here hx rfl (hb hby d11_0) rfl rfl ?_
    show Steps p.tables e below (s₁.setTop (mkF m 1 #[.val (.ref a1), .unset] [(.ref a1)])) _
    refine st2 _ ?_
    show Steps p.tables e below (T2.setTop (mkF m 4 #[.val (.ref a1), .unset] [(.int (0 : Int32))])) _
    refine XS.ifNo X2.here hx rfl (hb hby d11_4) rfl ((if0 _ _).trans (teq (rfl : (0 : Int32) = (0 : Int32))).2) ?_
    refine XS.aloadN X2.here hx rfl (hb hby d11_7) rfl rfl ?_
    show Steps p.tables e below (T2.setTop (mkF m 8 #[.val (.ref a1), .unset] [(.ref a1)])) _
    refine st3 _ ?_
    show Steps p.tables e below (T3.setTop (mkF m 11 #[.val (.ref a1), .unset] [(.int (0 : Int32))])) _
    refine XS.ifYes X3.here hx rfl (pc0 := 11) (pc' := 31) rfl (hb hby d11_11) rfl ((if0 _ _).trans (teq (rfl : (0 : Int32) = (0 : Int32))).1) (by decide) (by decide) ?_
    refine XS.aloadN X3.here hx rfl (hb hby d11_31) rfl rfl ?_
    show Steps p.tables e below (T3.setTop (mkF m 32 #[.val (.ref a1), .unset] [(.ref a1)])) _
    refine st4.trans ?_
    show Steps p.tables e below (T4.setTop (mkF m 37 #[.val (.ref a1), .unset] [(.int (0 : Int32))])) _
    refine XS.ifYes X4.here hx rfl (pc0 := 37) (pc' := 44) rfl (hb hby d11_37) rfl ((if0 _ _).trans (teq (rfl : (0 : Int32) = (0 : Int32))).1) (by decide) (by decide) ?_
    refine XS.aloadN X4.here hx rfl (hb hby d11_44) rfl rfl ?_
    show Steps p.tables e below (T4.setTop (mkF m 45 #[.val (.ref a1), .unset] [(.ref a1)])) _
    refine st5.trans ?_
    show Steps p.tables e below (T5.setTop (mkF m 50 #[.val (.ref a1), .unset] [(.ref d)])) _
    refine st6 _ ?_
    show Steps p.tables e below (T6.setTop (mkF m 53 #[.val (.ref a1), .unset] [(.ref x)])) _
    jvm_step X6.here [X6.here.top, hx, (hb hby d11_53), X6.method', Bd.returns, Value.isRef, FieldType.isReference]
    first | (intro acts; rw [hr _ acts rfl rfl rfl]) | rw [hr _ _ rfl rfl rfl]
    exact Steps.refl _
  · show own_M2 Z x0 x1 h0 n0 _ T6.heap _
    exact ⟨x, rfl, N6, K5h.trans K6q (fun x hx => nomatch hx), Nat.le_trans K5h.1 z6q, S6q⟩
set_option maxRecDepth 65536 in
set_option maxHeartbeats 40000000 in
theorem rm10p2 (l : Launch) (Z : State) (a0 : Array Value) (hw : ∀ d ∈ tables_1, d.before a0 Z = true) (ws : List Jvm.Cond) (a1 a3 mr : Addr) (k : ClassId) (mc : Int32) (x0 x1 : Addr) (h0 : Heap) (n0 : Nat) (Z0 : n0 ≤ h0.size) (hL : own_LS Z h0 a1 a3 k mc (2 : Int32) [(.ref x0), (.ref x1), .null, .null, .null, .null, .null, .null, .null, .null]) (MIR : Mir Z "[Ljava/lang/Object;" mr) (Ex0 : Exa Z h0 x0 "java/lang/String") (Ex1 : Exa Z h0 x1 "java/lang/String") :
    MetFree l mN42 (head1 (Jvm.Cond.code mN42 jdk_40_method_48_code 1 (some (.object "java/util/List")) :: ws) ({ frames := 8, cells := 3, slots := 8, locals := 103 } : Room)) (fun a U => a = #[(.ref a1)] ∧ Z.Warmed39 U.vm ∧ U.heap = h0) (fun _ _ _ _ _ => True) (fun _ U o U' => ∃ v L, o = .returned v ∧ own_MG Z (fun h x => own_L2 Z h x x0 x1) h0 n0 v U'.heap L ∧ FrameEnd U o U' L ({ frames := 8, cells := 3, slots := 8, locals := 103 } : Room).cells ({ frames := 8, cells := 3, slots := 8, locals := 103 } : Room).slots) := by
  refine MetFree.of_bodySF (plainFor_of_name pn_10) hisR ?_
  intro p e s m args below meth c s₁ Bd hml0 hP hK
  obtain ⟨rfl, hZ, hh⟩ := hP
  have hx := Bd.exec
  have hby := Bd.bytes
  have hml : c.maxLocals = 1 := hml0
  have hown : s.vm.findClass "java/util/List" = some m.cls := findClass_of_methodNamed Bd.named
  have hnm := (name_of_methodNamed Bd.named Bd.method).1
  have X0 : Stand p l e ({ frames := 8, cells := 3, slots := 8, locals := 103 } : Room) s m #[(.ref a1)] below meth c s₁ [] 0 0 := Stand.of_body Bd
  have e0 : s₁.heap = h0 := by rw [← hh, Bd.state]; rfl
  have N0 := Fr.nil n0
  have pre0 : ∀ t, Steps p.tables e below (s₁.setTop (mkF m 0 #[.val (.ref a1)] [])) t → Steps p.tables e below (s₁.setTop (entryFrame m #[(.ref a1)] 1)) t := fun t k => castTop (ef_10 m a1) k
  obtain ⟨_, _, ⟨T2, L2, k2, n2⟩, -, X2, ⟨Lc2, hQ2, l2, y2, z2⟩, st2⟩ := Jvm.LawKit.callS X0 hx (y := mN30) hown (mvT hZ (wd hw 76 rfl)) (mvT hZ (wd hw 77 rfl)) (mvT hZ (wd hw 78 rfl)) (mvT hZ (wd hw 79 rfl)) (by decide) (backOf (W := 0) (rm11p2 l Z a0 hw [] a1 a3 mr k mc x0 x1 h0 n0 Z0 hL MIR (Ex0) (Ex1)) hZ (wd hw 79 rfl) (wd hw 78 rfl) (by decide) (by decide)) (g := (mkF m 1 #[.val (.ref a1)] [(.ref a1)])) rfl (by rw [hml]; rfl) (argsL := [(.ref a1)]) (rest := []) (lenOf pd_10_6 rfl) rfl (by show 2 * 0 + _ ≤ _; exact Nat.le_of_eq rfl) (hb hby d10_1) (fun _ _ => ⟨rfl, e0, (by decide : 0 + 2 ≤ _), (by decide : 0 + 4 ≤ _)⟩)
  dsimp only [Pt.U, Pt.locs, Pt.cells, Pt.slots] at X2 l2 y2 z2 st2 hQ2
  subst l2 y2 z2
  obtain ⟨x, rfl, N2q, K2q, z2q, S2q⟩ := hQ2
  have N2 := Fr.app N0 N2q
  obtain ⟨fs, hr, hrun, hended, hW, hsame⟩ := X2.leave (v := some (.ref x)) (fun h => by rw [Bd.returns] at h; cases h)
  refine ⟨_, _, pre0 _ ?_, hrun, hended, _, _, rfl, ?_, ⟨_, rfl⟩, hW, hsame.mono (by decide) (by decide)⟩
  · show Steps p.tables e below (s₁.setTop (mkF m 0 #[.val (.ref a1)] [])) _
    refine XS.aloadN X0.here hx rfl (hb hby d10_0) rfl rfl ?_
    show Steps p.tables e below (s₁.setTop (mkF m 1 #[.val (.ref a1)] [(.ref a1)])) _
    refine st2 _ ?_
    show Steps p.tables e below (T2.setTop (mkF m 4 #[.val (.ref a1)] [(.ref x)])) _
    jvm_step X2.here [X2.here.top, hx, (hb hby d10_4), X2.method', Bd.returns, Value.isRef, FieldType.isReference]
    first | (intro acts; rw [hr _ acts rfl rfl rfl]) | rw [hr _ _ rfl rfl rfl]
    exact Steps.refl _
  · show own_MG Z (fun h x => own_L2 Z h x x0 x1) h0 n0 _ T2.heap _
    exact ⟨x, rfl, N2, K2q, S2q⟩
set_option maxRecDepth 65536 in
set_option maxHeartbeats 40000000 in
theorem rm11p3 (l : Launch) (Z : State) (a0 : Array Value) (hw : ∀ d ∈ tables_1, d.before a0 Z = true) (ws : List Jvm.Cond) (a1 a3 mr : Addr) (k : ClassId) (mc : Int32) (x0 x1 x2 : Addr) (h0 : Heap) (n0 : Nat) (Z0 : n0 ≤ h0.size) (hL : own_LS Z h0 a1 a3 k mc (3 : Int32) [(.ref x0), (.ref x1), (.ref x2), .null, .null, .null, .null, .null, .null, .null]) (MIR : Mir Z "[Ljava/lang/Object;" mr) (Ex0 : Exa Z h0 x0 "java/lang/String") (Ex1 : Exa Z h0 x1 "java/lang/String") (Ex2 : Exa Z h0 x2 "java/lang/String") :
    MetFree l mN30 (head1 (Jvm.Cond.code mN30 jdk_56_method_3_code 2 (some (.object "java/util/List")) :: ws) ({ frames := 7, cells := 3, slots := 8, locals := 90 } : Room)) (fun a U => a = #[(.ref a1)] ∧ Z.Warmed39 U.vm ∧ U.heap = h0) (fun _ _ _ _ _ => True) (fun _ U o U' => ∃ v L, o = .returned v ∧ own_M3 Z x0 x1 x2 h0 n0 v U'.heap L ∧ FrameEnd U o U' L ({ frames := 7, cells := 3, slots := 8, locals := 90 } : Room).cells ({ frames := 7, cells := 3, slots := 8, locals := 90 } : Room).slots) := by
  refine MetFree.of_bodySF (plainFor_of_name pn_11) hisR ?_
  intro p e s m args below meth c s₁ Bd hml0 hP hK
  obtain ⟨rfl, hZ, hh⟩ := hP
  have hx := Bd.exec
  have hby := Bd.bytes
  have hml : c.maxLocals = 2 := hml0
  have hown : s.vm.findClass "java/util/ImmutableCollections" = some m.cls := findClass_of_methodNamed Bd.named
  have hnm := (name_of_methodNamed Bd.named Bd.method).1
  have X0 : Stand p l e ({ frames := 7, cells := 3, slots := 8, locals := 90 } : Room) s m #[(.ref a1)] below meth c s₁ [] 0 0 := Stand.of_body Bd
  have e0 : s₁.heap = h0 := by rw [← hh, Bd.state]; rfl
  have N0 := Fr.nil n0
  have pre0 : ∀ t, Steps p.tables e below (s₁.setTop (mkF m 0 #[.val (.ref a1), .unset] [])) t → Steps p.tables e below (s₁.setTop (entryFrame m #[(.ref a1)] 2)) t := fun t k => castTop (ef_11 m a1) k
  obtain ⟨E_a1, F_mc, F_ed, F_size_a1, VA, O_a3, EX_a3⟩ := id hL
  obtain ⟨T2, X2, e2, st2⟩ := instNo X0 hx hZ hown (wd hw 80 rfl) e0 E_a1 (own_nsno (wd hw 81 rfl) (wd hw 255 rfl) (NS.step (wd hw 81 rfl) (NS.step (wd hw 82 rfl) (NS.step (wd hw 83 rfl) (own_nsroot (wd hw 84 rfl) (wd hw 255 rfl) (by decide)) (by decide)) (by decide)) (by decide)) (by decide)) (g := (mkF m 1 #[.val (.ref a1), .unset] [(.ref a1)])) rfl rfl (hb hby d11_1)
  obtain ⟨T3, X3, e3, st3⟩ := instNo X2 hx hZ hown (wd hw 85 rfl) e2 E_a1 (own_nsno (wd hw 81 rfl) (wd hw 303 rfl) (NS.step (wd hw 81 rfl) (NS.step (wd hw 82 rfl) (NS.step (wd hw 83 rfl) (own_nsroot (wd hw 84 rfl) (wd hw 303 rfl) (by decide)) (by decide)) (by decide)) (by decide)) (by decide)) (g := (mkF m 8 #[.val (.ref a1), .unset] [(.ref a1)])) rfl rfl (hb hby d11_8)
  obtain ⟨cq4, kq4, q4a, q4b, q4c⟩ := isOf hZ e3 E_a1
  obtain ⟨_, _, ⟨T4, L4, k4, n4⟩, -, X4, ⟨Lc4, hQ4, l4, y4, z4⟩, st4⟩ := X3.interfaceBack hx (xi := mN28) (y := mN24) hown (mvT hZ (wd hw 86 rfl)) (mvT hZ (wd hw 87 rfl)) (mvT hZ (wd hw 88 rfl)) (mvT hZ (wd hw 89 rfl)) (mvT hZ (wd hw 90 rfl)) (mvT hZ (wd hw 91 rfl)) (mvT hZ (wd hw 92 rfl)) (mvT hZ (wd hw 93 rfl)) (by decide) (backOf (W := 0) (rm12t l Z a0 hw [] a1 (3 : Int32) h0 n0 Z0 F_size_a1 (by decide)) hZ (wd hw 94 rfl) (wd hw 28 rfl) (by decide) (by decide)) q4a q4b q4c (g := (mkF m 32 #[.val (.ref a1), .unset] [(.ref a1)])) rfl (by rw [hml]; rfl) (Steps.refl _) (argsL := []) (rest := []) (lenOf pd_11_7 rfl) rfl (by show 2 * 0 + _ ≤ _; exact Nat.le_of_eq rfl) (hb hby d11_32) (fun _ _ => ⟨rfl, e3, (by decide : 0 + 0 ≤ _), (by decide : 0 + 0 ≤ _)⟩)
  dsimp only [Pt.U, Pt.locs, Pt.cells, Pt.slots] at X4 l4 y4 z4 st4 hQ4
  subst l4 y4 z4
  obtain ⟨rfl, N4q, k4q⟩ := hQ4
  have Kc4 : Keep h0 T4.heap [] := by rw [k4q]; exact Keep.refl _ []
  have Kh4 : Keep h0 T4.heap [] := by rw [k4q]; exact Keep.refl h0 []
  have N4 := Fr.app N0 N4q
  obtain ⟨cq5, kq5, q5a, q5b, q5c⟩ := isOf hZ rfl (E_a1.keep Kc4)
  obtain ⟨_, _, ⟨T5, L5, k5, n5⟩, -, X5, ⟨Lc5, hQ5, l5, y5, z5⟩, st5⟩ := X4.interfaceBack hx (xi := mN29) (y := mN25) hown (mvT hZ (wd hw 221 rfl)) (mvT hZ (wd hw 222 rfl)) (mvT hZ (wd hw 223 rfl)) (mvT hZ (wd hw 224 rfl)) (mvT hZ (wd hw 225 rfl)) (mvT hZ (wd hw 226 rfl)) (mvT hZ (wd hw 227 rfl)) (mvT hZ (wd hw 93 rfl)) (by decide) (backOf (W := 0) (rm33p3 l Z a0 hw [] a1 a3 mr k mc x0 x1 x2 T4.heap n0 (Nat.le_trans Z0 Kc4.1) (hL.keep Kc4) MIR (Ex0.keep Kc4) (Ex1.keep Kc4) (Ex2.keep Kc4)) hZ (wd hw 228 rfl) (wd hw 28 rfl) (by decide) (by decide)) q5a q5b q5c (g := (mkF m 45 #[.val (.ref a1), .unset] [(.ref a1)])) rfl (by rw [hml]; rfl) (Steps.refl _) (argsL := []) (rest := []) (lenOf pd_11_11 rfl) rfl (by show 2 * 0 + _ ≤ _; exact Nat.le_of_eq rfl) (hb hby d11_45) (fun _ _ => ⟨rfl, rfl, (by decide : 0 + 1 ≤ _), (by decide : 0 + 3 ≤ _)⟩)
  dsimp only [Pt.U, Pt.locs, Pt.cells, Pt.slots] at X5 l5 y5 z5 st5 hQ5
  subst l5 y5 z5
  obtain ⟨d, kd, rfl, N5q, K5q, z5q, V5q⟩ := hQ5
  have K5h : Keep h0 T5.heap [] := Kc4.trans K5q (fun x hx => nomatch hx)
  have N5 := Fr.app N4 N5q
  obtain ⟨_, _, ⟨T6, L6, k6, n6⟩, -, X6, ⟨Lc6, hQ6, l6, y6, z6⟩, st6⟩ := Jvm.LawKit.callS X5 hx (y := mN45) hown (mvT hZ (wd hw 251 rfl)) (mvT hZ (wd hw 252 rfl)) (mvT hZ (wd hw 74 rfl)) (mvT hZ (wd hw 253 rfl)) (by decide) (backOf (W := 0) (rm37p3 l Z a0 hw [] d kd x0 x1 x2 T5.heap n0 (Nat.le_trans Z0 K5h.1) V5q (Ex0.keep K5h) (Ex1.keep K5h) (Ex2.keep K5h)) hZ (wd hw 253 rfl) (wd hw 74 rfl) (by decide) (by decide)) (g := (mkF m 50 #[.val (.ref a1), .unset] [(.ref d)])) rfl (by rw [hml]; rfl) (argsL := [(.ref d)]) (rest := []) (lenOf pd_11_27 rfl) rfl (by show 2 * 0 + _ ≤ _; exact Nat.le_of_eq rfl) (hb hby d11_50) (fun _ _ => ⟨rfl, rfl, (by decide : 1 + 2 ≤ _), (by decide : 3 + 5 ≤ _)⟩)
  dsimp only [Pt.U, Pt.locs, Pt.cells, Pt.slots] at X6 l6 y6 z6 st6 hQ6
  subst l6 y6 z6
  obtain ⟨x, rfl, N6q, K6q, z6q, S6q⟩ := hQ6
  have N6 := Fr.app N5 N6q
  obtain ⟨fs, hr, hrun, hended, hW, hsame⟩ := X6.leave (v := some (.ref x)) (fun h => by rw [Bd.returns] at h; cases h)
  refine ⟨_, _, pre0 _ ?_, hrun, hended, _, _, rfl, ?_, ⟨_, rfl⟩, hW, hsame.mono (by decide) (by decide)⟩
  · show Steps p.tables e below (s₁.setTop (mkF m 0 #[.val (.ref a1), .unset] [])) _
    refine XS.aloadN X0.here hx rfl (hb hby d11_0) rfl rfl ?_
    show Steps p.tables e below (s₁.setTop (mkF m 1 #[.val (.ref a1), .unset] [(.ref a1)])) _
    refine st2 _ ?_
    show Steps p.tables e below (T2.setTop (mkF m 4 #[.val (.ref a1), .unset] [(.int (0 : Int32))])) _
    refine XS.ifNo X2.here hx rfl (hb hby d11_4) rfl ((if0 _ _).trans (teq (rfl : (0 : Int32) = (0 : Int32))).2) ?_
    refine XS.aloadN X2.here hx rfl (hb hby d11_7) rfl rfl ?_
    show Steps p.tables e below (T2.setTop (mkF m 8 #[.val (.ref a1), .unset] [(.ref a1)])) _
    refine st3 _ ?_
    show Steps p.tables e below (T3.setTop (mkF m 11 #[.val (.ref a1), .unset] [(.int (0 : Int32))])) _
    refine XS.ifYes X3.here hx rfl (pc0 := 11) (pc' := 31) rfl (hb hby d11_11) rfl ((if0 _ _).trans (teq (rfl : (0 : Int32) = (0 : Int32))).1) (by decide) (by decide) ?_
    refine XS.aloadN X3.here hx rfl (hb hby d11_31) rfl rfl ?_
    show Steps p.tables e below (T3.setTop (mkF m 32 #[.val (.ref a1), .unset] [(.ref a1)])) _
    refine st4.trans ?_
    show Steps p.tables e below (T4.setTop (mkF m 37 #[.val (.ref a1), .unset] [(.int (0 : Int32))])) _
    refine XS.ifYes X4.here hx rfl (pc0 := 37) (pc' := 44) rfl (hb hby d11_37) rfl ((if0 _ _).trans (teq (rfl : (0 : Int32) = (0 : Int32))).1) (by decide) (by decide) ?_
    refine XS.aloadN X4.here hx rfl (hb hby d11_44) rfl rfl ?_
    show Steps p.tables e below (T4.setTop (mkF m 45 #[.val (.ref a1), .unset] [(.ref a1)])) _
    refine st5.trans ?_
    show Steps p.tables e below (T5.setTop (mkF m 50 #[.val (.ref a1), .unset] [(.ref d)])) _
    refine st6 _ ?_
    show Steps p.tables e below (T6.setTop (mkF m 53 #[.val (.ref a1), .unset] [(.ref x)])) _
    jvm_step X6.here [X6.here.top, hx, (hb hby d11_53), X6.method', Bd.returns, Value.isRef, FieldType.isReference]
    first | (intro acts; rw [hr _ acts rfl rfl rfl]) | rw [hr _ _ rfl rfl rfl]
    exact Steps.refl _
  · show own_M3 Z x0 x1 x2 h0 n0 _ T6.heap _
    exact ⟨x, rfl, N6, K5h.trans K6q (fun x hx => nomatch hx), Nat.le_trans K5h.1 z6q, S6q⟩
set_option maxRecDepth 65536 in
set_option maxHeartbeats 40000000 in
theorem rm10p3 (l : Launch) (Z : State) (a0 : Array Value) (hw : ∀ d ∈ tables_1, d.before a0 Z = true) (ws : List Jvm.Cond) (a1 a3 mr : Addr) (k : ClassId) (mc : Int32) (x0 x1 x2 : Addr) (h0 : Heap) (n0 : Nat) (Z0 : n0 ≤ h0.size) (hL : own_LS Z h0 a1 a3 k mc (3 : Int32) [(.ref x0), (.ref x1), (.ref x2), .null, .null, .null, .null, .null, .null, .null]) (MIR : Mir Z "[Ljava/lang/Object;" mr) (Ex0 : Exa Z h0 x0 "java/lang/String") (Ex1 : Exa Z h0 x1 "java/lang/String") (Ex2 : Exa Z h0 x2 "java/lang/String") :
    MetFree l mN42 (head1 (Jvm.Cond.code mN42 jdk_40_method_48_code 1 (some (.object "java/util/List")) :: ws) ({ frames := 8, cells := 3, slots := 8, locals := 103 } : Room)) (fun a U => a = #[(.ref a1)] ∧ Z.Warmed39 U.vm ∧ U.heap = h0) (fun _ _ _ _ _ => True) (fun _ U o U' => ∃ v L, o = .returned v ∧ own_MG Z (fun h x => own_L3 Z h x x0 x1 x2) h0 n0 v U'.heap L ∧ FrameEnd U o U' L ({ frames := 8, cells := 3, slots := 8, locals := 103 } : Room).cells ({ frames := 8, cells := 3, slots := 8, locals := 103 } : Room).slots) := by
  refine MetFree.of_bodySF (plainFor_of_name pn_10) hisR ?_
  intro p e s m args below meth c s₁ Bd hml0 hP hK
  obtain ⟨rfl, hZ, hh⟩ := hP
  have hx := Bd.exec
  have hby := Bd.bytes
  have hml : c.maxLocals = 1 := hml0
  have hown : s.vm.findClass "java/util/List" = some m.cls := findClass_of_methodNamed Bd.named
  have hnm := (name_of_methodNamed Bd.named Bd.method).1
  have X0 : Stand p l e ({ frames := 8, cells := 3, slots := 8, locals := 103 } : Room) s m #[(.ref a1)] below meth c s₁ [] 0 0 := Stand.of_body Bd
  have e0 : s₁.heap = h0 := by rw [← hh, Bd.state]; rfl
  have N0 := Fr.nil n0
  have pre0 : ∀ t, Steps p.tables e below (s₁.setTop (mkF m 0 #[.val (.ref a1)] [])) t → Steps p.tables e below (s₁.setTop (entryFrame m #[(.ref a1)] 1)) t := fun t k => castTop (ef_10 m a1) k
  obtain ⟨_, _, ⟨T2, L2, k2, n2⟩, -, X2, ⟨Lc2, hQ2, l2, y2, z2⟩, st2⟩ := Jvm.LawKit.callS X0 hx (y := mN30) hown (mvT hZ (wd hw 76 rfl)) (mvT hZ (wd hw 77 rfl)) (mvT hZ (wd hw 78 rfl)) (mvT hZ (wd hw 79 rfl)) (by decide) (backOf (W := 0) (rm11p3 l Z a0 hw [] a1 a3 mr k mc x0 x1 x2 h0 n0 Z0 hL MIR (Ex0) (Ex1) (Ex2)) hZ (wd hw 79 rfl) (wd hw 78 rfl) (by decide) (by decide)) (g := (mkF m 1 #[.val (.ref a1)] [(.ref a1)])) rfl (by rw [hml]; rfl) (argsL := [(.ref a1)]) (rest := []) (lenOf pd_10_6 rfl) rfl (by show 2 * 0 + _ ≤ _; exact Nat.le_of_eq rfl) (hb hby d10_1) (fun _ _ => ⟨rfl, e0, (by decide : 0 + 3 ≤ _), (by decide : 0 + 8 ≤ _)⟩)
  dsimp only [Pt.U, Pt.locs, Pt.cells, Pt.slots] at X2 l2 y2 z2 st2 hQ2
  subst l2 y2 z2
  obtain ⟨x, rfl, N2q, K2q, z2q, S2q⟩ := hQ2
  have N2 := Fr.app N0 N2q
  obtain ⟨fs, hr, hrun, hended, hW, hsame⟩ := X2.leave (v := some (.ref x)) (fun h => by rw [Bd.returns] at h; cases h)
  refine ⟨_, _, pre0 _ ?_, hrun, hended, _, _, rfl, ?_, ⟨_, rfl⟩, hW, hsame.mono (by decide) (by decide)⟩
  · show Steps p.tables e below (s₁.setTop (mkF m 0 #[.val (.ref a1)] [])) _
    refine XS.aloadN X0.here hx rfl (hb hby d10_0) rfl rfl ?_
    show Steps p.tables e below (s₁.setTop (mkF m 1 #[.val (.ref a1)] [(.ref a1)])) _
    refine st2 _ ?_
    show Steps p.tables e below (T2.setTop (mkF m 4 #[.val (.ref a1)] [(.ref x)])) _
    jvm_step X2.here [X2.here.top, hx, (hb hby d10_4), X2.method', Bd.returns, Value.isRef, FieldType.isReference]
    first | (intro acts; rw [hr _ acts rfl rfl rfl]) | rw [hr _ _ rfl rfl rfl]
    exact Steps.refl _
  · show own_MG Z (fun h x => own_L3 Z h x x0 x1 x2) h0 n0 _ T2.heap _
    exact ⟨x, rfl, N2, K2q, S2q⟩
theorem d11_40 : decode jdk_56_method_3_code 40 = .ok (.invokestatic 26, 3) := by decide +kernel
theorem d11_43 : decode jdk_56_method_3_code 43 = .ok (.areturn, 1) := by decide +kernel
theorem pd_11_8 : parseMethodDescriptor "()Ljava/util/List;" = some ⟨[], some (.object "java/util/List")⟩ := by decide +kernel
def Q11p0 (Z : State) (a1 wEL : Addr) (h0 : Heap) (n0 : Nat) (v : Option Value) (h : Heap) (L : List Loc) : Prop := v = some (.ref wEL) ∧ Fr n0 L ∧ h = h0
set_option maxRecDepth 65536 in
set_option maxHeartbeats 40000000 in
theorem rm11p0 (l : Launch) (Z : State) (a0 : Array Value) (hw : ∀ d ∈ tables_1, d.before a0 Z = true) (ws : List Jvm.Cond) (a1 wEL : Addr) (h0 : Heap) (n0 : Nat) (Z0 : n0 ≤ h0.size) (E_a1 : Exa Z h0 a1 "java/util/ArrayList") (F_size_a1 : Fld Z h0 a1 "java/util/ArrayList" "size" "I" (.int (0 : Int32))) (S_EMPTY_LIST : Sta Z h0 "java/util/ImmutableCollections" "EMPTY_LIST" "Ljava/util/ImmutableCollections$ListN;" (.ref wEL)) :
    MetFree l mN30 (head1 (Jvm.Cond.code mN30 jdk_56_method_3_code 2 (some (.object "java/util/List")) :: ws) ({ frames := 1, cells := 0, slots := 0, locals := 12 } : Room)) (fun a U => a = #[(.ref a1)] ∧ Z.Warmed39 U.vm ∧ U.heap = h0) (fun _ _ _ _ _ => True) (fun _ U o U' => ∃ v L, o = .returned v ∧ Q11p0 Z a1 wEL h0 n0 v U'.heap L ∧ FrameEnd U o U' L ({ frames := 1, cells := 0, slots := 0, locals := 12 } : Room).cells ({ frames := 1, cells := 0, slots := 0, locals := 12 } : Room).slots) := by
  refine MetFree.of_bodySF (plainFor_of_name pn_11) hisR ?_
  intro p e s m args below meth c s₁ Bd hml0 hP hK
  obtain ⟨rfl, hZ, hh⟩ := hP
  have hx := Bd.exec
  have hby := Bd.bytes
  have hml : c.maxLocals = 2 := hml0
  have hown : s.vm.findClass "java/util/ImmutableCollections" = some m.cls := findClass_of_methodNamed Bd.named
  have hnm := (name_of_methodNamed Bd.named Bd.method).1
  have X0 : Stand p l e ({ frames := 1, cells := 0, slots := 0, locals := 12 } : Room) s m #[(.ref a1)] below meth c s₁ [] 0 0 := Stand.of_body Bd
  have e0 : s₁.heap = h0 := by rw [← hh, Bd.state]; rfl
  have N0 := Fr.nil n0
  have pre0 : ∀ t, Steps p.tables e below (s₁.setTop (mkF m 0 #[.val (.ref a1), .unset] [])) t → Steps p.tables e below (s₁.setTop (entryFrame m #[(.ref a1)] 2)) t := fun t k => castTop (ef_11 m a1) k
  obtain ⟨T2, X2, e2, st2⟩ := instNo X0 hx hZ hown (wd hw 80 rfl) e0 E_a1 (own_nsno (wd hw 81 rfl) (wd hw 255 rfl) (NS.step (wd hw 81 rfl) (NS.step (wd hw 82 rfl) (NS.step (wd hw 83 rfl) (own_nsroot (wd hw 84 rfl) (wd hw 255 rfl) (by decide)) (by decide)) (by decide)) (by decide)) (by decide)) (g := (mkF m 1 #[.val (.ref a1), .unset] [(.ref a1)])) rfl rfl (hb hby d11_1)
  obtain ⟨T3, X3, e3, st3⟩ := instNo X2 hx hZ hown (wd hw 85 rfl) e2 E_a1 (own_nsno (wd hw 81 rfl) (wd hw 303 rfl) (NS.step (wd hw 81 rfl) (NS.step (wd hw 82 rfl) (NS.step (wd hw 83 rfl) (own_nsroot (wd hw 84 rfl) (wd hw 303 rfl) (by decide)) (by decide)) (by decide)) (by decide)) (by decide)) (g := (mkF m 8 #[.val (.ref a1), .unset] [(.ref a1)])) rfl rfl (hb hby d11_8)
  obtain ⟨cq4, kq4, q4a, q4b, q4c⟩ := isOf hZ e3 E_a1
  obtain ⟨_, _, ⟨T4, L4, k4, n4⟩, -, X4, ⟨Lc4, hQ4, l4, y4, z4⟩, st4⟩ := X3.interfaceBack hx (xi := mN28) (y := mN24) hown (mvT hZ (wd hw 86 rfl)) (mvT hZ (wd hw 87 rfl)) (mvT hZ (wd hw 88 rfl)) (mvT hZ (wd hw 89 rfl)) (mvT hZ (wd hw 90 rfl)) (mvT hZ (wd hw 91 rfl)) (mvT hZ (wd hw 92 rfl)) (mvT hZ (wd hw 93 rfl)) (by decide) (backOf (W := 0) (rm12f l Z a0 hw [] a1 (0 : Int32) h0 n0 Z0 F_size_a1 rfl) hZ (wd hw 94 rfl) (wd hw 28 rfl) (by decide) (by decide)) q4a q4b q4c (g := (mkF m 32 #[.val (.ref a1), .unset] [(.ref a1)])) rfl (by rw [hml]; rfl) (Steps.refl _) (argsL := []) (rest := []) (lenOf pd_11_7 rfl) rfl (by show 2 * 0 + _ ≤ _; exact Nat.le_of_eq rfl) (hb hby d11_32) (fun _ _ => ⟨rfl, e3, (by decide : 0 + 0 ≤ _), (by decide : 0 + 0 ≤ _)⟩)
  dsimp only [Pt.U, Pt.locs, Pt.cells, Pt.slots] at X4 l4 y4 z4 st4 hQ4
  subst l4 y4 z4
  obtain ⟨rfl, N4q, k4q⟩ := hQ4
  have N4 := Fr.app N0 N4q
  obtain ⟨_, _, ⟨T5, L5, k5, n5⟩, -, X5, ⟨Lc5, hQ5, l5, y5, z5⟩, st5⟩ := Jvm.LawKit.callS X4 hx (y := mN44) hown (mvT hZ (wd hw 97 rfl)) (mvT hZ (wd hw 98 rfl)) (mvT hZ (wd hw 74 rfl)) (mvT hZ (wd hw 99 rfl)) (by decide) (backOf (W := 0) (rm13 l Z a0 hw [] wEL T4.heap n0 (by rw [k4q]; exact Z0) (by rw [k4q]; exact S_EMPTY_LIST)) hZ (wd hw 99 rfl) (wd hw 74 rfl) (by decide) (by decide)) (g := (mkF m 40 #[.val (.ref a1), .unset] [])) rfl (by rw [hml]; rfl) (argsL := []) (rest := []) (lenOf pd_11_8 rfl) rfl (by show 2 * 0 + _ ≤ _; exact Nat.le_of_eq rfl) (hb hby d11_40) (fun _ _ => ⟨rfl, rfl, (by decide : 0 + 0 ≤ _), (by decide : 0 + 0 ≤ _)⟩)
  dsimp only [Pt.U, Pt.locs, Pt.cells, Pt.slots] at X5 l5 y5 z5 st5 hQ5
  subst l5 y5 z5
  obtain ⟨rfl, N5q, k5q⟩ := hQ5
  have N5 := Fr.app N4 N5q
  obtain ⟨fs, hr, hrun, hended, hW, hsame⟩ := X5.leave (v := some (.ref wEL)) (fun h => by rw [Bd.returns] at h; cases h)
  refine ⟨_, _, pre0 _ ?_, hrun, hended, _, _, rfl, ?_, ⟨_, rfl⟩, hW, hsame.mono (by decide) (by decide)⟩
  · show Steps p.tables e below (s₁.setTop (mkF m 0 #[.val (.ref a1), .unset] [])) _
    refine XS.aloadN X0.here hx rfl (hb hby d11_0) rfl rfl ?_
    show Steps p.tables e below (s₁.setTop (mkF m 1 #[.val (.ref a1), .unset] [(.ref a1)])) _
    refine st2 _ ?_
    show Steps p.tables e below (T2.setTop (mkF m 4 #[.val (.ref a1), .unset] [(.int (0 : Int32))])) _
    refine XS.ifNo X2.here hx rfl (hb hby d11_4) rfl ((if0 _ _).trans (teq (rfl : (0 : Int32) = (0 : Int32))).2) ?_
    refine XS.aloadN X2.here hx rfl (hb hby d11_7) rfl rfl ?_
    show Steps p.tables e below (T2.setTop (mkF m 8 #[.val (.ref a1), .unset] [(.ref a1)])) _
    refine st3 _ ?_
    show Steps p.tables e below (T3.setTop (mkF m 11 #[.val (.ref a1), .unset] [(.int (0 : Int32))])) _
    refine XS.ifYes X3.here hx rfl (pc0 := 11) (pc' := 31) rfl (hb hby d11_11) rfl ((if0 _ _).trans (teq (rfl : (0 : Int32) = (0 : Int32))).1) (by decide) (by decide) ?_
    refine XS.aloadN X3.here hx rfl (hb hby d11_31) rfl rfl ?_
    show Steps p.tables e below (T3.setTop (mkF m 32 #[.val (.ref a1), .unset] [(.ref a1)])) _
    refine st4.trans ?_
    show Steps p.tables e below (T4.setTop (mkF m 37 #[.val (.ref a1), .unset] [(.int (1 : Int32))])) _
    refine XS.ifNo X4.here hx rfl (hb hby d11_37) rfl ((if0 _ _).trans (feq (by decide : ¬ ((1 : Int32) = (0 : Int32)))).1) ?_
    show Steps p.tables e below (T4.setTop (mkF m 40 #[.val (.ref a1), .unset] [])) _
    refine st5 _ ?_
    show Steps p.tables e below (T5.setTop (mkF m 43 #[.val (.ref a1), .unset] [(.ref wEL)])) _
    jvm_step X5.here [X5.here.top, hx, (hb hby d11_43), X5.method', Bd.returns, Value.isRef, FieldType.isReference]
    first | (intro acts; rw [hr _ acts rfl rfl rfl]) | rw [hr _ _ rfl rfl rfl]
    exact Steps.refl _
  · show Q11p0 Z a1 wEL h0 n0 _ T5.heap _
    exact ⟨rfl, N5, k5q.trans k4q⟩
set_option maxRecDepth 65536 in
set_option maxHeartbeats 40000000 in
theorem rm10p0 (l : Launch) (Z : State) (a0 : Array Value) (hw : ∀ d ∈ tables_1, d.before a0 Z = true) (ws : List Jvm.Cond) (a1 wEL : Addr) (h0 : Heap) (n0 : Nat) (Z0 : n0 ≤ h0.size) (E_a1 : Exa Z h0 a1 "java/util/ArrayList") (F_size_a1 : Fld Z h0 a1 "java/util/ArrayList" "size" "I" (.int (0 : Int32))) (S_EMPTY_LIST : Sta Z h0 "java/util/ImmutableCollections" "EMPTY_LIST" "Ljava/util/ImmutableCollections$ListN;" (.ref wEL)) (hE : own_L0 Z h0 wEL) :
    MetFree l mN42 (head1 (Jvm.Cond.code mN42 jdk_40_method_48_code 1 (some (.object "java/util/List")) :: ws) ({ frames := 8, cells := 3, slots := 8, locals := 103 } : Room)) (fun a U => a = #[(.ref a1)] ∧ Z.Warmed39 U.vm ∧ U.heap = h0) (fun _ _ _ _ _ => True) (fun _ U o U' => ∃ v L, o = .returned v ∧ own_MG Z (fun h x => own_L0 Z h x) h0 n0 v U'.heap L ∧ FrameEnd U o U' L ({ frames := 8, cells := 3, slots := 8, locals := 103 } : Room).cells ({ frames := 8, cells := 3, slots := 8, locals := 103 } : Room).slots) := by
  refine MetFree.of_bodySF (plainFor_of_name pn_10) hisR ?_
  intro p e s m args below meth c s₁ Bd hml0 hP hK
  obtain ⟨rfl, hZ, hh⟩ := hP
  have hx := Bd.exec
  have hby := Bd.bytes
  have hml : c.maxLocals = 1 := hml0
  have hown : s.vm.findClass "java/util/List" = some m.cls := findClass_of_methodNamed Bd.named
  have hnm := (name_of_methodNamed Bd.named Bd.method).1
  have X0 : Stand p l e ({ frames := 8, cells := 3, slots := 8, locals := 103 } : Room) s m #[(.ref a1)] below meth c s₁ [] 0 0 := Stand.of_body Bd
  have e0 : s₁.heap = h0 := by rw [← hh, Bd.state]; rfl
  have N0 := Fr.nil n0
  have pre0 : ∀ t, Steps p.tables e below (s₁.setTop (mkF m 0 #[.val (.ref a1)] [])) t → Steps p.tables e below (s₁.setTop (entryFrame m #[(.ref a1)] 1)) t := fun t k => castTop (ef_10 m a1) k
  obtain ⟨_, _, ⟨T2, L2, k2, n2⟩, -, X2, ⟨Lc2, hQ2, l2, y2, z2⟩, st2⟩ := Jvm.LawKit.callS X0 hx (y := mN30) hown (mvT hZ (wd hw 76 rfl)) (mvT hZ (wd hw 77 rfl)) (mvT hZ (wd hw 78 rfl)) (mvT hZ (wd hw 79 rfl)) (by decide) (backOf (W := 0) (rm11p0 l Z a0 hw [] a1 wEL h0 n0 Z0 E_a1 F_size_a1 S_EMPTY_LIST) hZ (wd hw 79 rfl) (wd hw 78 rfl) (by decide) (by decide)) (g := (mkF m 1 #[.val (.ref a1)] [(.ref a1)])) rfl (by rw [hml]; rfl) (argsL := [(.ref a1)]) (rest := []) (lenOf pd_10_6 rfl) rfl (by show 2 * 0 + _ ≤ _; exact Nat.le_of_eq rfl) (hb hby d10_1) (fun _ _ => ⟨rfl, e0, (by decide : 0 + 0 ≤ _), (by decide : 0 + 0 ≤ _)⟩)
  dsimp only [Pt.U, Pt.locs, Pt.cells, Pt.slots] at X2 l2 y2 z2 st2 hQ2
  subst l2 y2 z2
  obtain ⟨rfl, N2q, k2q⟩ := hQ2
  have N2 := Fr.app N0 N2q
  obtain ⟨fs, hr, hrun, hended, hW, hsame⟩ := X2.leave (v := some (.ref wEL)) (fun h => by rw [Bd.returns] at h; cases h)
  refine ⟨_, _, pre0 _ ?_, hrun, hended, _, _, rfl, ?_, ⟨_, rfl⟩, hW, hsame.mono (by decide) (by decide)⟩
  · show Steps p.tables e below (s₁.setTop (mkF m 0 #[.val (.ref a1)] [])) _
    refine XS.aloadN X0.here hx rfl (hb hby d10_0) rfl rfl ?_
    show Steps p.tables e below (s₁.setTop (mkF m 1 #[.val (.ref a1)] [(.ref a1)])) _
    refine st2 _ ?_
    show Steps p.tables e below (T2.setTop (mkF m 4 #[.val (.ref a1)] [(.ref wEL)])) _
    jvm_step X2.here [X2.here.top, hx, (hb hby d10_4), X2.method', Bd.returns, Value.isRef, FieldType.isReference]
    first | (intro acts; rw [hr _ acts rfl rfl rfl]) | rw [hr _ _ rfl rfl rfl]
    exact Steps.refl _
  · show own_MG Z (fun h x => own_L0 Z h x) h0 n0 _ T2.heap _
    exact ⟨wEL, rfl, N2, by rw [k2q]; exact Keep.refl _ [], by show own_L0 Z T2.heap wEL; rw [k2q]; exact hE⟩
def own_EP (Z : State) (h : Heap) (a i t u x st br : Addr) : Prop := Exa Z h a "com/example/tenacious_courier/tenaciouscourier/model/Endpoint" ∧ Fld Z h a "com/example/tenacious_courier/tenaciouscourier/model/Endpoint" "id" "Ljava/lang/String;" (.ref i) ∧ Fld Z h a "com/example/tenacious_courier/tenaciouscourier/model/Endpoint" "tenant" "Ljava/lang/String;" (.ref t) ∧ Fld Z h a "com/example/tenacious_courier/tenaciouscourier/model/Endpoint" "url" "Ljava/lang/String;" (.ref u) ∧ Fld Z h a "com/example/tenacious_courier/tenaciouscourier/model/Endpoint" "eventTypes" "Ljava/util/List;" (.ref x) ∧ Fld Z h a "com/example/tenacious_courier/tenaciouscourier/model/Endpoint" "status" "Lcom/example/tenacious_courier/tenaciouscourier/model/EndpointStatus;" (.ref st) ∧ Fld Z h a "com/example/tenacious_courier/tenaciouscourier/model/Endpoint" "disabledReason" "Lcom/example/tenacious_courier/tenaciouscourier/model/DisabledReason;" .null ∧ Fld Z h a "com/example/tenacious_courier/tenaciouscourier/model/Endpoint" "disabledAt" "Ljava/time/Instant;" .null ∧ Fld Z h a "com/example/tenacious_courier/tenaciouscourier/model/Endpoint" "breaker" "Lcom/example/tenacious_courier/tenaciouscourier/model/BreakerState;" (.ref br) ∧ Fld Z h a "com/example/tenacious_courier/tenaciouscourier/model/Endpoint" "consecutiveFailures" "I" (.int (0 : Int32))
theorem own_EP.keep {Z : State} {h h' : Heap} {a i t u x st br : Addr} {ws : List Addr} (S : own_EP Z h a i t u x st br) (K : Keep h h' ws) (q : a ∉ ws) : own_EP Z h' a i t u x st br := by
  obtain ⟨s0, s1, s2, s3, s4, s5, s6, s7, s8, s9⟩ := S
  exact ⟨s0.keep K, s1.keep K q, s2.keep K q, s3.keep K q, s4.keep K q, s5.keep K q, s6.keep K q, s7.keep K q, s8.keep K q, s9.keep K q⟩
theorem own_L0.keepE {Z : State} {h h' : Heap} {x a : Addr} {n : Nat} {a0 : Array Value} (wi : (Jvm.Cond.instantiable "com/example/tenacious_courier/tenaciouscourier/model/Endpoint" n).before a0 Z = true) (S : own_L0 Z h x) (E : Exa Z h a "com/example/tenacious_courier/tenaciouscourier/model/Endpoint") (K : Keep h h' [a]) : own_L0 Z h' x := by
  obtain ⟨s0, d, cl, s1, s2, s3⟩ := S
  have q : x ∉ [a] := fun e => s0.ne E (by decide) (List.mem_singleton.mp e)
  have q2 : d ∉ [a] := fun e => by cases List.mem_singleton.mp e; exact ne_arr E wi s2 rfl
  exact ⟨s0.keep K, d, cl, s1.keep K q, ⟨K.2.1 d cl s2.1 q2, s2.2⟩, s3⟩
theorem own_L0.keep {Z : State} {h h' : Heap} {x : Addr} (S : own_L0 Z h x) (K : Keep h h' []) : own_L0 Z h' x := by
  obtain ⟨s0, d, cl, s1, s2, s3⟩ := S
  exact ⟨s0.keep K, d, cl, s1.keep K nin0, ⟨K.2.1 d cl s2.1 nin0, s2.2⟩, s3⟩
theorem own_L1.keepE {Z : State} {h h' : Heap} {x a x0 x1 : Addr} {n : Nat} {a0 : Array Value} (wi : (Jvm.Cond.instantiable "com/example/tenacious_courier/tenaciouscourier/model/Endpoint" n).before a0 Z = true) (S : own_L1 Z h x x0 x1) (E : Exa Z h a "com/example/tenacious_courier/tenaciouscourier/model/Endpoint") (K : Keep h h' [a]) : own_L1 Z h' x x0 x1 := S.keep K (fun e => S.1.ne E (by decide) (List.mem_singleton.mp e))
theorem own_L2.keepE {Z : State} {h h' : Heap} {x a x0 x1 : Addr} {n : Nat} {a0 : Array Value} (wi : (Jvm.Cond.instantiable "com/example/tenacious_courier/tenaciouscourier/model/Endpoint" n).before a0 Z = true) (S : own_L2 Z h x x0 x1) (E : Exa Z h a "com/example/tenacious_courier/tenaciouscourier/model/Endpoint") (K : Keep h h' [a]) : own_L2 Z h' x x0 x1 := S.keep K (fun e => S.1.ne E (by decide) (List.mem_singleton.mp e))
theorem own_L3.keepE {Z : State} {h h' : Heap} {x a x0 x1 x2 : Addr} {n : Nat} {a0 : Array Value} (wi : (Jvm.Cond.instantiable "com/example/tenacious_courier/tenaciouscourier/model/Endpoint" n).before a0 Z = true) (S : own_L3 Z h x x0 x1 x2) (E : Exa Z h a "com/example/tenacious_courier/tenaciouscourier/model/Endpoint") (K : Keep h h' [a]) : own_L3 Z h' x x0 x1 x2 := by
  obtain ⟨s0, d, k, s1, s2⟩ := S
  have q : x ∉ [a] := fun e => s0.ne E (by decide) (List.mem_singleton.mp e)
  have q2 : d ∉ [a] := fun e => E.neArv s2 wi (List.mem_singleton.mp e).symm
  exact ⟨s0.keep K, d, k, s1.keep K q, s2.keep K q2⟩
theorem own_L3.keep {Z : State} {h h' : Heap} {x x0 x1 x2 : Addr} (S : own_L3 Z h x x0 x1 x2) (K : Keep h h' []) : own_L3 Z h' x x0 x1 x2 := by
  obtain ⟨s0, d, k, s1, s2⟩ := S
  exact ⟨s0.keep K, d, k, s1.keep K nin0, s2.keep K nin0⟩
def own_NG (Z : State) (B : Heap → Addr → Prop) (a i t u st br : Addr) (h0 : Heap) (n0 : Nat) (v : Option Value) (h : Heap) (L : List Loc) : Prop := ∃ x : Addr, v = none ∧ Fr n0 L ∧ Keep h0 h [a] ∧ own_EP Z h a i t u x st br ∧ B h x
def own_RG (Z : State) (B : Heap → Addr → Prop) (i t u st br : Addr) (h0 : Heap) (n0 : Nat) (v : Option Value) (h : Heap) (L : List Loc) : Prop := ∃ a x : Addr, v = some (.ref a) ∧ Fr n0 L ∧ Keep h0 h [] ∧ h0.size ≤ a ∧ own_EP Z h a i t u x st br ∧ B h x
theorem d9_0 : decode prog_18_method_1_code 0 = .ok (.aload_n 0, 1) := by decide +kernel
theorem d9_1 : decode prog_18_method_1_code 1 = .ok (.invokespecial 1, 3) := by decide +kernel
theorem d9_4 : decode prog_18_method_1_code 4 = .ok (.aload_n 0, 1) := by decide +kernel
theorem d9_5 : decode prog_18_method_1_code 5 = .ok (.aload_n 1, 1) := by decide +kernel
theorem d9_6 : decode prog_18_method_1_code 6 = .ok (.putfield 7, 3) := by decide +kernel
theorem d9_9 : decode prog_18_method_1_code 9 = .ok (.aload_n 0, 1) := by decide +kernel
theorem d9_10 : decode prog_18_method_1_code 10 = .ok (.aload_n 2, 1) := by decide +kernel
theorem d9_11 : decode prog_18_method_1_code 11 = .ok (.putfield 13, 3) := by decide +kernel
theorem d9_14 : decode prog_18_method_1_code 14 = .ok (.aload_n 0, 1) := by decide +kernel
theorem d9_15 : decode prog_18_method_1_code 15 = .ok (.aload_n 3, 1) := by decide +kernel
theorem d9_16 : decode prog_18_method_1_code 16 = .ok (.putfield 16, 3) := by decide +kernel
theorem d9_19 : decode prog_18_method_1_code 19 = .ok (.aload_n 0, 1) := by decide +kernel
theorem d9_20 : decode prog_18_method_1_code 20 = .ok (.aload 4, 2) := by decide +kernel
theorem d9_22 : decode prog_18_method_1_code 22 = .ok (.invokestatic 19, 3) := by decide +kernel
theorem d9_25 : decode prog_18_method_1_code 25 = .ok (.putfield 25, 3) := by decide +kernel
theorem d9_28 : decode prog_18_method_1_code 28 = .ok (.aload_n 0, 1) := by decide +kernel
theorem d9_29 : decode prog_18_method_1_code 29 = .ok (.aload 5, 2) := by decide +kernel
theorem d9_31 : decode prog_18_method_1_code 31 = .ok (.putfield 29, 3) := by decide +kernel
theorem d9_34 : decode prog_18_method_1_code 34 = .ok (.aload_n 0, 1) := by decide +kernel
theorem d9_35 : decode prog_18_method_1_code 35 = .ok (.aload 6, 2) := by decide +kernel
theorem d9_37 : decode prog_18_method_1_code 37 = .ok (.putfield 33, 3) := by decide +kernel
theorem d9_40 : decode prog_18_method_1_code 40 = .ok (.aload_n 0, 1) := by decide +kernel
theorem d9_41 : decode prog_18_method_1_code 41 = .ok (.aload 7, 2) := by decide +kernel
theorem d9_43 : decode prog_18_method_1_code 43 = .ok (.putfield 37, 3) := by decide +kernel
theorem d9_46 : decode prog_18_method_1_code 46 = .ok (.aload_n 0, 1) := by decide +kernel
theorem d9_47 : decode prog_18_method_1_code 47 = .ok (.aload 8, 2) := by decide +kernel
theorem d9_49 : decode prog_18_method_1_code 49 = .ok (.putfield 41, 3) := by decide +kernel
theorem d9_52 : decode prog_18_method_1_code 52 = .ok (.aload_n 0, 1) := by decide +kernel
theorem d9_53 : decode prog_18_method_1_code 53 = .ok (.iload 9, 2) := by decide +kernel
theorem d9_55 : decode prog_18_method_1_code 55 = .ok (.putfield 45, 3) := by decide +kernel
theorem d9_58 : decode prog_18_method_1_code 58 = .ok (.return_, 1) := by decide +kernel
theorem pn_9 : plainName "com/example/tenacious_courier/tenaciouscourier/model/Endpoint" = true := by first | (simp [plainName, overriddenIn]; done) | decide +kernel
theorem pd_9_6 : parseMethodDescriptor "(Ljava/util/Collection;)Ljava/util/List;" = some ⟨[(.object "java/util/Collection")], some (.object "java/util/List")⟩ := by decide +kernel
theorem ef_9 (m : MethodId) (x0 : Addr) (x1 : Addr) (x2 : Addr) (x3 : Addr) (x4 : Addr) (x5 : Addr) (x8 : Addr) (x9 : Int32) : entryFrame m #[(.ref x0), (.ref x1), (.ref x2), (.ref x3), (.ref x4), (.ref x5), .null, .null, (.ref x8), (.int x9)] 10 = mkF m 0 #[.val (.ref x0), .val (.ref x1), .val (.ref x2), .val (.ref x3), .val (.ref x4), .val (.ref x5), .val .null, .val .null, .val (.ref x8), .val (.int x9)] [] := by first | (simp [entryFrame, mkF, argsToLocals, Value.category]; done) | rfl
set_option maxRecDepth 65536 in
set_option maxHeartbeats 40000000 in
theorem rm9 (l : Launch) (Z : State) (a0 : Array Value) (hw : ∀ d ∈ tables_1, d.before a0 Z = true) (ws : List Jvm.Cond) (B : Heap → Addr → Prop) (a1 a2 a3 a4 a5 a6 a7 : Addr) (h0 : Heap) (n0 : Nat) (Z0 : n0 ≤ h0.size) (E_a1 : Exa Z h0 a1 "com/example/tenacious_courier/tenaciouscourier/model/Endpoint") (g_a1 : n0 ≤ a1) (F_id_a1 : Fld Z h0 a1 "com/example/tenacious_courier/tenaciouscourier/model/Endpoint" "id" "Ljava/lang/String;" .null) (F_tenant_a1 : Fld Z h0 a1 "com/example/tenacious_courier/tenaciouscourier/model/Endpoint" "tenant" "Ljava/lang/String;" .null) (F_url_a1 : Fld Z h0 a1 "com/example/tenacious_courier/tenaciouscourier/model/Endpoint" "url" "Ljava/lang/String;" .null) (F_eventTypes_a1 : Fld Z h0 a1 "com/example/tenacious_courier/tenaciouscourier/model/Endpoint" "eventTypes" "Ljava/util/List;" .null) (F_status_a1 : Fld Z h0 a1 "com/example/tenacious_courier/tenaciouscourier/model/Endpoint" "status" "Lcom/example/tenacious_courier/tenaciouscourier/model/EndpointStatus;" .null) (F_disabledReason_a1 : Fld Z h0 a1 "com/example/tenacious_courier/tenaciouscourier/model/Endpoint" "disabledReason" "Lcom/example/tenacious_courier/tenaciouscourier/model/DisabledReason;" .null) (F_disabledAt_a1 : Fld Z h0 a1 "com/example/tenacious_courier/tenaciouscourier/model/Endpoint" "disabledAt" "Ljava/time/Instant;" .null) (F_breaker_a1 : Fld Z h0 a1 "com/example/tenacious_courier/tenaciouscourier/model/Endpoint" "breaker" "Lcom/example/tenacious_courier/tenaciouscourier/model/BreakerState;" .null) (F_consecutiveFailures_a1 : Fld Z h0 a1 "com/example/tenacious_courier/tenaciouscourier/model/Endpoint" "consecutiveFailures" "I" (.int (0 : Int32))) (hcopy : ∀ h' : Heap, Keep h0 h' [a1] → MetFree l mN42 (head1 (Jvm.Cond.code mN42 jdk_40_method_48_code 1 (some (.object "java/util/List")) :: []) ({ frames := 8, cells := 3, slots := 8, locals := 103 } : Room)) (fun a U => a = #[(.ref a5)] ∧ Z.Warmed39 U.vm ∧ U.heap = h') (fun _ _ _ _ _ => True) (fun _ U o U' => ∃ v L, o = .returned v ∧ own_MG Z B h' n0 v U'.heap L ∧ FrameEnd U o U' L ({ frames := 8, cells := 3, slots := 8, locals := 103 } : Room).cells ({ frames := 8, cells := 3, slots := 8, locals := 103 } : Room).slots)) (hB : ∀ (h h' : Heap) (x a : Addr), B h x → Exa Z h a "com/example/tenacious_courier/tenaciouscourier/model/Endpoint" → Keep h h' [a] → B h' x) :
    MetFree l mN0 (head1 (Jvm.Cond.code mN0 prog_18_method_1_code 10 none :: ws) ({ frames := 9, cells := 3, slots := 8, locals := 116 } : Room)) (fun a U => a = #[(.ref a1), (.ref a2), (.ref a3), (.ref a4), (.ref a5), (.ref a6), .null, .null, (.ref a7), (.int (0 : Int32))] ∧ Z.Warmed39 U.vm ∧ U.heap = h0) (fun _ _ _ _ _ => True) (fun _ U o U' => ∃ v L, o = .returned v ∧ own_NG Z B a1 a2 a3 a4 a6 a7 h0 n0 v U'.heap L ∧ FrameEnd U o U' L ({ frames := 9, cells := 3, slots := 8, locals := 116 } : Room).cells ({ frames := 9, cells := 3, slots := 8, locals := 116 } : Room).slots) := by
  refine MetFree.of_bodySF (plainFor_of_name pn_9) hisR ?_
  intro p e s m args below meth c s₁ Bd hml0 hP hK
  obtain ⟨rfl, hZ, hh⟩ := hP
  have hx := Bd.exec
  have hby := Bd.bytes
  have hml : c.maxLocals = 10 := hml0
  have hown : s.vm.findClass "com/example/tenacious_courier/tenaciouscourier/model/Endpoint" = some m.cls := findClass_of_methodNamed Bd.named
  have hnm := (name_of_methodNamed Bd.named Bd.method).1
  have X0 : Stand p l e ({ frames := 9, cells := 3, slots := 8, locals := 116 } : Room) s m #[(.ref a1), (.ref a2), (.ref a3), (.ref a4), (.ref a5), (.ref a6), .null, .null, (.ref a7), (.int (0 : Int32))] below meth c s₁ [] 0 0 := Stand.of_body Bd
  have e0 : s₁.heap = h0 := by rw [← hh, Bd.state]; rfl
  have N0 := Fr.nil n0
  have pre0 : ∀ t, Steps p.tables e below (s₁.setTop (mkF m 0 #[.val (.ref a1), .val (.ref a2), .val (.ref a3), .val (.ref a4), .val (.ref a5), .val (.ref a6), .val .null, .val .null, .val (.ref a7), .val (.int (0 : Int32))] [])) t → Steps p.tables e below (s₁.setTop (entryFrame m #[(.ref a1), (.ref a2), (.ref a3), (.ref a4), (.ref a5), (.ref a6), .null, .null, (.ref a7), (.int (0 : Int32))] 10)) t := fun t k => castTop (ef_9 m a1 a2 a3 a4 a5 a6 a7 (0 : Int32)) k
  obtain ⟨T9, X9, e9, st9⟩ := initO X0 hx hZ hown (wd hw 65 rfl) (wd hw 16 rfl) (wd hw 17 rfl) e0 (g := (mkF m 1 #[.val (.ref a1), .val (.ref a2), .val (.ref a3), .val (.ref a4), .val (.ref a5), .val (.ref a6), .val .null, .val .null, .val (.ref a7), .val (.int (0 : Int32))] [(.ref a1)])) rfl (by rw [hml]; rfl) rfl (hb hby d9_1) (by decide) (W := 0) (by show 2 * 0 + _ ≤ _; exact Nat.le_of_eq rfl) (by decide)
  obtain ⟨T10, h10, X10, e10, W10, st10⟩ := putF X9 hx hZ hown (host := "") (Or.inl (wd hw 66 rfl)) Via.refl e9 F_id_a1 E_a1 (Or.inr ⟨(wd hw 67 rfl), rfl, hnm⟩) (wd hw 55 rfl) (ty := (.object "java/lang/String")) (by decide) rfl rfl (g := (mkF m 6 #[.val (.ref a1), .val (.ref a2), .val (.ref a3), .val (.ref a4), .val (.ref a5), .val (.ref a6), .val .null, .val .null, .val (.ref a7), .val (.int (0 : Int32))] [(.ref a2), (.ref a1)])) rfl rfl (hb hby d9_6)
  have Fw10 := F_id_a1.same W10
  have K10 : Keep h0 h10 [a1] := (Keep.refl h0 [a1]).wr W10 (Or.inl (List.mem_of_getElem? (i := 0) rfl))
  have N10 := Fr.snoc X10 N0 g_a1
  obtain ⟨T11, h11, X11, e11, W11, st11⟩ := putF X10 hx hZ hown (host := "") (Or.inl (wd hw 68 rfl)) Via.refl e10 (F_tenant_a1.other W10 (own_sn (Or.inr (wd hw 69 rfl)) (Or.inr (wd hw 67 rfl)) (by decide))) (E_a1.wr W10) (Or.inr ⟨(wd hw 69 rfl), rfl, hnm⟩) (wd hw 55 rfl) (ty := (.object "java/lang/String")) (by decide) rfl rfl (g := (mkF m 11 #[.val (.ref a1), .val (.ref a2), .val (.ref a3), .val (.ref a4), .val (.ref a5), .val (.ref a6), .val .null, .val .null, .val (.ref a7), .val (.int (0 : Int32))] [(.ref a3), (.ref a1)])) rfl rfl (hb hby d9_11)
  have Fw11 := (F_tenant_a1.other W10 (own_sn (Or.inr (wd hw 69 rfl)) (Or.inr (wd hw 67 rfl)) (by decide))).same W11
  have K11 : Keep h0 h11 [a1] := K10.wr W11 (Or.inl (List.mem_of_getElem? (i := 0) rfl))
  have N11 := Fr.snoc X11 N10 g_a1
  obtain ⟨T12, h12, X12, e12, W12, st12⟩ := putF X11 hx hZ hown (host := "") (Or.inl (wd hw 70 rfl)) Via.refl e11 ((F_url_a1.other W10 (own_sn (Or.inr (wd hw 71 rfl)) (Or.inr (wd hw 67 rfl)) (by decide))).other W11 (own_sn (Or.inr (wd hw 71 rfl)) (Or.inr (wd hw 69 rfl)) (by decide))) ((E_a1.wr W10).wr W11) (Or.inr ⟨(wd hw 71 rfl), rfl, hnm⟩) (wd hw 55 rfl) (ty := (.object "java/lang/String")) (by decide) rfl rfl (g := (mkF m 16 #[.val (.ref a1), .val (.ref a2), .val (.ref a3), .val (.ref a4), .val (.ref a5), .val (.ref a6), .val .null, .val .null, .val (.ref a7), .val (.int (0 : Int32))] [(.ref a4), (.ref a1)])) rfl rfl (hb hby d9_16)
  have Fw12 := ((F_url_a1.other W10 (own_sn (Or.inr (wd hw 71 rfl)) (Or.inr (wd hw 67 rfl)) (by decide))).other W11 (own_sn (Or.inr (wd hw 71 rfl)) (Or.inr (wd hw 69 rfl)) (by decide))).same W12
  have K12 : Keep h0 h12 [a1] := K11.wr W12 (Or.inl (List.mem_of_getElem? (i := 0) rfl))
  have N12 := Fr.snoc X12 N11 g_a1
  obtain ⟨_, _, ⟨T13, L13, k13, n13⟩, -, X13, ⟨Lc13, hQ13, l13, y13, z13⟩, st13⟩ := Jvm.LawKit.callS X12 hx (y := mN42) hown (mvT hZ (wd hw 72 rfl)) (mvT hZ (wd hw 73 rfl)) (mvT hZ (wd hw 74 rfl)) (mvT hZ (wd hw 75 rfl)) (by decide) (backOf (W := 1) (hcopy h12 K12) hZ (wd hw 75 rfl) (wd hw 74 rfl) (by decide) (by decide)) (g := (mkF m 22 #[.val (.ref a1), .val (.ref a2), .val (.ref a3), .val (.ref a4), .val (.ref a5), .val (.ref a6), .val .null, .val .null, .val (.ref a7), .val (.int (0 : Int32))] [(.ref a5), (.ref a1)])) rfl (by rw [hml]; rfl) (argsL := [(.ref a5)]) (rest := [(.ref a1)]) (lenOf pd_9_6 rfl) rfl (by show 2 * 0 + _ ≤ _; exact Nat.le_of_eq rfl) (hb hby d9_22) (fun _ _ => ⟨rfl, e12, (by decide : 0 + 3 ≤ _), (by decide : 0 + 8 ≤ _)⟩)
  dsimp only [Pt.U, Pt.locs, Pt.cells, Pt.slots] at X13 l13 y13 z13 st13 hQ13
  subst l13 y13 z13
  obtain ⟨x, rfl, N13q, Kc13, SB13⟩ := hQ13
  have Kh13 : Keep h0 T13.heap [a1] := K12.trans Kc13 (fun x hx => nomatch hx)
  have N13 := Fr.app N12 N13q
  obtain ⟨T14, h14, X14, e14, W14, st14⟩ := putF X13 hx hZ hown (host := "") (Or.inl (wd hw 101 rfl)) Via.refl rfl ((((F_eventTypes_a1.other W10 (own_sn (Or.inr (wd hw 102 rfl)) (Or.inr (wd hw 67 rfl)) (by decide))).other W11 (own_sn (Or.inr (wd hw 102 rfl)) (Or.inr (wd hw 69 rfl)) (by decide))).other W12 (own_sn (Or.inr (wd hw 102 rfl)) (Or.inr (wd hw 71 rfl)) (by decide))).keep Kc13 nin0) ((((E_a1.wr W10).wr W11).wr W12).keep Kc13) (Or.inr ⟨(wd hw 102 rfl), rfl, hnm⟩) (wd hw 55 rfl) (ty := (.object "java/util/List")) (by decide) rfl rfl (g := (mkF m 25 #[.val (.ref a1), .val (.ref a2), .val (.ref a3), .val (.ref a4), .val (.ref a5), .val (.ref a6), .val .null, .val .null, .val (.ref a7), .val (.int (0 : Int32))] [(.ref x), (.ref a1)])) rfl rfl (hb hby d9_25)
  have Fw14 := ((((F_eventTypes_a1.other W10 (own_sn (Or.inr (wd hw 102 rfl)) (Or.inr (wd hw 67 rfl)) (by decide))).other W11 (own_sn (Or.inr (wd hw 102 rfl)) (Or.inr (wd hw 69 rfl)) (by decide))).other W12 (own_sn (Or.inr (wd hw 102 rfl)) (Or.inr (wd hw 71 rfl)) (by decide))).keep Kc13 nin0).same W14
  have K14 : Keep h0 h14 [a1] := Kh13.wr W14 (Or.inl (List.mem_of_getElem? (i := 0) rfl))
  have N14 := Fr.snoc X14 N13 g_a1
  obtain ⟨T15, h15, X15, e15, W15, st15⟩ := putF X14 hx hZ hown (host := "") (Or.inl (wd hw 103 rfl)) Via.refl e14 (((((F_status_a1.other W10 (own_sn (Or.inr (wd hw 104 rfl)) (Or.inr (wd hw 67 rfl)) (by decide))).other W11 (own_sn (Or.inr (wd hw 104 rfl)) (Or.inr (wd hw 69 rfl)) (by decide))).other W12 (own_sn (Or.inr (wd hw 104 rfl)) (Or.inr (wd hw 71 rfl)) (by decide))).keep Kc13 nin0).other W14 (own_sn (Or.inr (wd hw 104 rfl)) (Or.inr (wd hw 102 rfl)) (by decide))) (((((E_a1.wr W10).wr W11).wr W12).keep Kc13).wr W14) (Or.inr ⟨(wd hw 104 rfl), rfl, hnm⟩) (wd hw 55 rfl) (ty := (.object "com/example/tenacious_courier/tenaciouscourier/model/EndpointStatus")) (by decide) rfl rfl (g := (mkF m 31 #[.val (.ref a1), .val (.ref a2), .val (.ref a3), .val (.ref a4), .val (.ref a5), .val (.ref a6), .val .null, .val .null, .val (.ref a7), .val (.int (0 : Int32))] [(.ref a6), (.ref a1)])) rfl rfl (hb hby d9_31)
  have Fw15 := (((((F_status_a1.other W10 (own_sn (Or.inr (wd hw 104 rfl)) (Or.inr (wd hw 67 rfl)) (by decide))).other W11 (own_sn (Or.inr (wd hw 104 rfl)) (Or.inr (wd hw 69 rfl)) (by decide))).other W12 (own_sn (Or.inr (wd hw 104 rfl)) (Or.inr (wd hw 71 rfl)) (by decide))).keep Kc13 nin0).other W14 (own_sn (Or.inr (wd hw 104 rfl)) (Or.inr (wd hw 102 rfl)) (by decide))).same W15
  have K15 : Keep h0 h15 [a1] := K14.wr W15 (Or.inl (List.mem_of_getElem? (i := 0) rfl))
  have N15 := Fr.snoc X15 N14 g_a1
  obtain ⟨T16, h16, X16, e16, W16, st16⟩ := putF X15 hx hZ hown (host := "") (Or.inl (wd hw 105 rfl)) Via.refl e15 ((((((F_disabledReason_a1.other W10 (own_sn (Or.inr (wd hw 106 rfl)) (Or.inr (wd hw 67 rfl)) (by decide))).other W11 (own_sn (Or.inr (wd hw 106 rfl)) (Or.inr (wd hw 69 rfl)) (by decide))).other W12 (own_sn (Or.inr (wd hw 106 rfl)) (Or.inr (wd hw 71 rfl)) (by decide))).keep Kc13 nin0).other W14 (own_sn (Or.inr (wd hw 106 rfl)) (Or.inr (wd hw 102 rfl)) (by decide))).other W15 (own_sn (Or.inr (wd hw 106 rfl)) (Or.inr (wd hw 104 rfl)) (by decide))) ((((((E_a1.wr W10).wr W11).wr W12).keep Kc13).wr W14).wr W15) (Or.inr ⟨(wd hw 106 rfl), rfl, hnm⟩) (wd hw 55 rfl) (ty := (.object "com/example/tenacious_courier/tenaciouscourier/model/DisabledReason")) (by decide) rfl rfl (g := (mkF m 37 #[.val (.ref a1), .val (.ref a2), .val (.ref a3), .val (.ref a4), .val (.ref a5), .val (.ref a6), .val .null, .val .null, .val (.ref a7), .val (.int (0 : Int32))] [.null, (.ref a1)])) rfl rfl (hb hby d9_37)
  have Fw16 := ((((((F_disabledReason_a1.other W10 (own_sn (Or.inr (wd hw 106 rfl)) (Or.inr (wd hw 67 rfl)) (by decide))).other W11 (own_sn (Or.inr (wd hw 106 rfl)) (Or.inr (wd hw 69 rfl)) (by decide))).other W12 (own_sn (Or.inr (wd hw 106 rfl)) (Or.inr (wd hw 71 rfl)) (by decide))).keep Kc13 nin0).other W14 (own_sn (Or.inr (wd hw 106 rfl)) (Or.inr (wd hw 102 rfl)) (by decide))).other W15 (own_sn (Or.inr (wd hw 106 rfl)) (Or.inr (wd hw 104 rfl)) (by decide))).same W16
  have K16 : Keep h0 h16 [a1] := K15.wr W16 (Or.inl (List.mem_of_getElem? (i := 0) rfl))
  have N16 := Fr.snoc X16 N15 g_a1
  obtain ⟨T17, h17, X17, e17, W17, st17⟩ := putF X16 hx hZ hown (host := "") (Or.inl (wd hw 107 rfl)) Via.refl e16 (((((((F_disabledAt_a1.other W10 (own_sn (Or.inr (wd hw 108 rfl)) (Or.inr (wd hw 67 rfl)) (by decide))).other W11 (own_sn (Or.inr (wd hw 108 rfl)) (Or.inr (wd hw 69 rfl)) (by decide))).other W12 (own_sn (Or.inr (wd hw 108 rfl)) (Or.inr (wd hw 71 rfl)) (by decide))).keep Kc13 nin0).other W14 (own_sn (Or.inr (wd hw 108 rfl)) (Or.inr (wd hw 102 rfl)) (by decide))).other W15 (own_sn (Or.inr (wd hw 108 rfl)) (Or.inr (wd hw 104 rfl)) (by decide))).other W16 (own_sn (Or.inr (wd hw 108 rfl)) (Or.inr (wd hw 106 rfl)) (by decide))) (((((((E_a1.wr W10).wr W11).wr W12).keep Kc13).wr W14).wr W15).wr W16) (Or.inr ⟨(wd hw 108 rfl), rfl, hnm⟩) (wd hw 55 rfl) (ty := (.object "java/time/Instant")) (by decide) rfl rfl (g := (mkF m 43 #[.val (.ref a1), .val (.ref a2), .val (.ref a3), .val (.ref a4), .val (.ref a5), .val (.ref a6), .val .null, .val .null, .val (.ref a7), .val (.int (0 : Int32))] [.null, (.ref a1)])) rfl rfl (hb hby d9_43)
  have Fw17 := (((((((F_disabledAt_a1.other W10 (own_sn (Or.inr (wd hw 108 rfl)) (Or.inr (wd hw 67 rfl)) (by decide))).other W11 (own_sn (Or.inr (wd hw 108 rfl)) (Or.inr (wd hw 69 rfl)) (by decide))).other W12 (own_sn (Or.inr (wd hw 108 rfl)) (Or.inr (wd hw 71 rfl)) (by decide))).keep Kc13 nin0).other W14 (own_sn (Or.inr (wd hw 108 rfl)) (Or.inr (wd hw 102 rfl)) (by decide))).other W15 (own_sn (Or.inr (wd hw 108 rfl)) (Or.inr (wd hw 104 rfl)) (by decide))).other W16 (own_sn (Or.inr (wd hw 108 rfl)) (Or.inr (wd hw 106 rfl)) (by decide))).same W17
  have K17 : Keep h0 h17 [a1] := K16.wr W17 (Or.inl (List.mem_of_getElem? (i := 0) rfl))
  have N17 := Fr.snoc X17 N16 g_a1
  obtain ⟨T18, h18, X18, e18, W18, st18⟩ := putF X17 hx hZ hown (host := "") (Or.inl (wd hw 109 rfl)) Via.refl e17 ((((((((F_breaker_a1.other W10 (own_sn (Or.inr (wd hw 110 rfl)) (Or.inr (wd hw 67 rfl)) (by decide))).other W11 (own_sn (Or.inr (wd hw 110 rfl)) (Or.inr (wd hw 69 rfl)) (by decide))).other W12 (own_sn (Or.inr (wd hw 110 rfl)) (Or.inr (wd hw 71 rfl)) (by decide))).keep Kc13 nin0).other W14 (own_sn (Or.inr (wd hw 110 rfl)) (Or.inr (wd hw 102 rfl)) (by decide))).other W15 (own_sn (Or.inr (wd hw 110 rfl)) (Or.inr (wd hw 104 rfl)) (by decide))).other W16 (own_sn (Or.inr (wd hw 110 rfl)) (Or.inr (wd hw 106 rfl)) (by decide))).other W17 (own_sn (Or.inr (wd hw 110 rfl)) (Or.inr (wd hw 108 rfl)) (by decide))) ((((((((E_a1.wr W10).wr W11).wr W12).keep Kc13).wr W14).wr W15).wr W16).wr W17) (Or.inr ⟨(wd hw 110 rfl), rfl, hnm⟩) (wd hw 55 rfl) (ty := (.object "com/example/tenacious_courier/tenaciouscourier/model/BreakerState")) (by decide) rfl rfl (g := (mkF m 49 #[.val (.ref a1), .val (.ref a2), .val (.ref a3), .val (.ref a4), .val (.ref a5), .val (.ref a6), .val .null, .val .null, .val (.ref a7), .val (.int (0 : Int32))] [(.ref a7), (.ref a1)])) rfl rfl (hb hby d9_49)
  have Fw18 := ((((((((F_breaker_a1.other W10 (own_sn (Or.inr (wd hw 110 rfl)) (Or.inr (wd hw 67 rfl)) (by decide))).other W11 (own_sn (Or.inr (wd hw 110 rfl)) (Or.inr (wd hw 69 rfl)) (by decide))).other W12 (own_sn (Or.inr (wd hw 110 rfl)) (Or.inr (wd hw 71 rfl)) (by decide))).keep Kc13 nin0).other W14 (own_sn (Or.inr (wd hw 110 rfl)) (Or.inr (wd hw 102 rfl)) (by decide))).other W15 (own_sn (Or.inr (wd hw 110 rfl)) (Or.inr (wd hw 104 rfl)) (by decide))).other W16 (own_sn (Or.inr (wd hw 110 rfl)) (Or.inr (wd hw 106 rfl)) (by decide))).other W17 (own_sn (Or.inr (wd hw 110 rfl)) (Or.inr (wd hw 108 rfl)) (by decide))).same W18
  have K18 : Keep h0 h18 [a1] := K17.wr W18 (Or.inl (List.mem_of_getElem? (i := 0) rfl))
  have N18 := Fr.snoc X18 N17 g_a1
  obtain ⟨T19, h19, X19, e19, W19, st19⟩ := putF X18 hx hZ hown (host := "") (Or.inl (wd hw 111 rfl)) Via.refl e18 (((((((((F_consecutiveFailures_a1.other W10 (own_sn (Or.inr (wd hw 112 rfl)) (Or.inr (wd hw 67 rfl)) (by decide))).other W11 (own_sn (Or.inr (wd hw 112 rfl)) (Or.inr (wd hw 69 rfl)) (by decide))).other W12 (own_sn (Or.inr (wd hw 112 rfl)) (Or.inr (wd hw 71 rfl)) (by decide))).keep Kc13 nin0).other W14 (own_sn (Or.inr (wd hw 112 rfl)) (Or.inr (wd hw 102 rfl)) (by decide))).other W15 (own_sn (Or.inr (wd hw 112 rfl)) (Or.inr (wd hw 104 rfl)) (by decide))).other W16 (own_sn (Or.inr (wd hw 112 rfl)) (Or.inr (wd hw 106 rfl)) (by decide))).other W17 (own_sn (Or.inr (wd hw 112 rfl)) (Or.inr (wd hw 108 rfl)) (by decide))).other W18 (own_sn (Or.inr (wd hw 112 rfl)) (Or.inr (wd hw 110 rfl)) (by decide))) (((((((((E_a1.wr W10).wr W11).wr W12).keep Kc13).wr W14).wr W15).wr W16).wr W17).wr W18) (Or.inr ⟨(wd hw 112 rfl), rfl, hnm⟩) (wd hw 55 rfl) (ty := .int) (by decide) rfl rfl (g := (mkF m 55 #[.val (.ref a1), .val (.ref a2), .val (.ref a3), .val (.ref a4), .val (.ref a5), .val (.ref a6), .val .null, .val .null, .val (.ref a7), .val (.int (0 : Int32))] [(.int (0 : Int32)), (.ref a1)])) rfl rfl (hb hby d9_55)
  have Fw19 := (((((((((F_consecutiveFailures_a1.other W10 (own_sn (Or.inr (wd hw 112 rfl)) (Or.inr (wd hw 67 rfl)) (by decide))).other W11 (own_sn (Or.inr (wd hw 112 rfl)) (Or.inr (wd hw 69 rfl)) (by decide))).other W12 (own_sn (Or.inr (wd hw 112 rfl)) (Or.inr (wd hw 71 rfl)) (by decide))).keep Kc13 nin0).other W14 (own_sn (Or.inr (wd hw 112 rfl)) (Or.inr (wd hw 102 rfl)) (by decide))).other W15 (own_sn (Or.inr (wd hw 112 rfl)) (Or.inr (wd hw 104 rfl)) (by decide))).other W16 (own_sn (Or.inr (wd hw 112 rfl)) (Or.inr (wd hw 106 rfl)) (by decide))).other W17 (own_sn (Or.inr (wd hw 112 rfl)) (Or.inr (wd hw 108 rfl)) (by decide))).other W18 (own_sn (Or.inr (wd hw 112 rfl)) (Or.inr (wd hw 110 rfl)) (by decide))).same W19
  have K19 : Keep h0 h19 [a1] := K18.wr W19 (Or.inl (List.mem_of_getElem? (i := 0) rfl))
  have N19 := Fr.snoc X19 N18 g_a1
  obtain ⟨fs, hr, hrun, hended, hW, hsame⟩ := X19.leave (v := none) (fun _ => rfl)
  refine ⟨_, _, pre0 _ ?_, hrun, hended, _, _, rfl, ?_, ⟨_, rfl⟩, hW, hsame.mono (by decide) (by decide)⟩
  · show Steps p.tables e below (s₁.setTop (mkF m 0 #[.val (.ref a1), .val (.ref a2), .val (.ref a3), .val (.ref a4), .val (.ref a5), .val (.ref a6), .val .null, .val .null, .val (.ref a7), .val (.int (0 : Int32))] [])) _
    refine XS.aloadN X0.here hx rfl (hb hby d9_0) rfl rfl ?_
    show Steps p.tables e below (s₁.setTop (mkF m 1 #[.val (.ref a1), .val (.ref a2), .val (.ref a3), .val (.ref a4), .val (.ref a5), .val (.ref a6), .val .null, .val .null, .val (.ref a7), .val (.int (0 : Int32))] [(.ref a1)])) _
    refine st9 _ ?_
    show Steps p.tables e below (T9.setTop (mkF m 4 #[.val (.ref a1), .val (.ref a2), .val (.ref a3), .val (.ref a4), .val (.ref a5), .val (.ref a6), .val .null, .val .null, .val (.ref a7), .val (.int (0 : Int32))] [])) _
    refine XS.aloadN X9.here hx rfl (hb hby d9_4) rfl rfl ?_
    refine XS.aloadN X9.here hx rfl (hb hby d9_5) rfl rfl ?_
    show Steps p.tables e below (T9.setTop (mkF m 6 #[.val (.ref a1), .val (.ref a2), .val (.ref a3), .val (.ref a4), .val (.ref a5), .val (.ref a6), .val .null, .val .null, .val (.ref a7), .val (.int (0 : Int32))] [(.ref a2), (.ref a1)])) _
    refine st10 _ ?_
    show Steps p.tables e below (T10.setTop (mkF m 9 #[.val (.ref a1), .val (.ref a2), .val (.ref a3), .val (.ref a4), .val (.ref a5), .val (.ref a6), .val .null, .val .null, .val (.ref a7), .val (.int (0 : Int32))] [])) _
    refine XS.aloadN X10.here hx rfl (hb hby d9_9) rfl rfl ?_
    refine XS.aloadN X10.here hx rfl (hb hby d9_10) rfl rfl ?_
    show Steps p.tables e below (T10.setTop (mkF m 11 #[.val (.ref a1), .val (.ref a2), .val (.ref a3), .val (.ref a4), .val (.ref a5), .val (.ref a6), .val .null, .val .null, .val (.ref a7), .val (.int (0 : Int32))] [(.ref a3), (.ref a1)])) _
    refine st11 _ ?_
    show Steps p.tables e below (T11.setTop (mkF m 14 #[.val (.ref a1), .val (.ref a2), .val (.ref a3), .val (.ref a4), .val (.ref a5), .val (.ref a6), .val .null, .val .null, .val (.ref a7), .val (.int (0 : Int32))] [])) _
    refine XS.aloadN X11.here hx rfl (hb hby d9_14) rfl rfl ?_
    refine XS.aloadN X11.here hx rfl (hb hby d9_15) rfl rfl ?_
    show Steps p.tables e below (T11.setTop (mkF m 16 #[.val (.ref a1), .val (.ref a2), .val (.ref a3), .val (.ref a4), .val (.ref a5), .val (.ref a6), .val .null, .val .null, .val (.ref a7), .val (.int (0 : Int32))] [(.ref a4), (.ref a1)])) _
    refine st12 _ ?_
    show Steps p.tables e below (T12.setTop (mkF m 19 #[.val (.ref a1), .val (.ref a2), .val (.ref a3), .val (.ref a4), .val (.ref a5), .val (.ref a6), .val .null, .val .null, .val (.ref a7), .val (.int (0 : Int32))] [])) _
    refine XS.aloadN X12.here hx rfl (hb hby d9_19) rfl rfl ?_
    refine XS.aload X12.here hx rfl (hb hby d9_20) rfl rfl ?_
    show Steps p.tables e below (T12.setTop (mkF m 22 #[.val (.ref a1), .val (.ref a2), .val (.ref a3), .val (.ref a4), .val (.ref a5), .val (.ref a6), .val .null, .val .null, .val (.ref a7), .val (.int (0 : Int32))] [(.ref a5), (.ref a1)])) _
    refine st13 _ ?_
    show Steps p.tables e below (T13.setTop (mkF m 25 #[.val (.ref a1), .val (.ref a2), .val (.ref a3), .val (.ref a4), .val (.ref a5), .val (.ref a6), .val .null, .val .null, .val (.ref a7), .val (.int (0 : Int32))] [(.ref x), (.ref a1)])) _
    refine st14 _ ?_
    show Steps p.tables e below (T14.setTop (mkF m 28 #[.val (.ref a1), .val (.ref a2), .val (.ref a3), .val (.ref a4), .val (.ref a5), .val (.ref a6), .val .null, .val .null, .val (.ref a7), .val (.int (0 : Int32))] [])) _
    refine XS.aloadN X14.here hx rfl (hb hby d9_28) rfl rfl ?_
    refine XS.aload X14.here hx rfl (hb hby d9_29) rfl rfl ?_
    show Steps p.tables e below (T14.setTop (mkF m 31 #[.val (.ref a1), .val (.ref a2), .val (.ref a3), .val (.ref a4), .val (.ref a5), .val (.ref a6), .val .null, .val .null, .val (.ref a7), .val (.int (0 : Int32))] [(.ref a6), (.ref a1)])) _
    refine st15 _ ?_
    show Steps p.tables e below (T15.setTop (mkF m 34 #[.val (.ref a1), .val (.ref a2), .val (.ref a3), .val (.ref a4), .val (.ref a5), .val (.ref a6), .val .null, .val .null, .val (.ref a7), .val (.int (0 : Int32))] [])) _
    refine XS.aloadN X15.here hx rfl (hb hby d9_34) rfl rfl ?_
    refine XS.aload X15.here hx rfl (hb hby d9_35) rfl rfl ?_
    show Steps p.tables e below (T15.setTop (mkF m 37 #[.val (.ref a1), .val (.ref a2), .val (.ref a3), .val (.ref a4), .val (.ref a5), .val (.ref a6), .val .null, .val .null, .val (.ref a7), .val (.int (0 : Int32))] [.null, (.ref a1)])) _
    refine st16 _ ?_
    show Steps p.tables e below (T16.setTop (mkF m 40 #[.val (.ref a1), .val (.ref a2), .val (.ref a3), .val (.ref a4), .val (.ref a5), .val (.ref a6), .val .null, .val .null, .val (.ref a7), .val (.int (0 : Int32))] [])) _
    refine XS.aloadN X16.here hx rfl (hb hby d9_40) rfl rfl ?_
    refine XS.aload X16.here hx rfl (hb hby d9_41) rfl rfl ?_
    show Steps p.tables e below (T16.setTop (mkF m 43 #[.val (.ref a1), .val (.ref a2), .val (.ref a3), .val (.ref a4), .val (.ref a5), .val (.ref a6), .val .null, .val .null, .val (.ref a7), .val (.int (0 : Int32))] [.null, (.ref a1)])) _
    refine st17 _ ?_
    show Steps p.tables e below (T17.setTop (mkF m 46 #[.val (.ref a1), .val (.ref a2), .val (.ref a3), .val (.ref a4), .val (.ref a5), .val (.ref a6), .val .null, .val .null, .val (.ref a7), .val (.int (0 : Int32))] [])) _
    refine XS.aloadN X17.here hx rfl (hb hby d9_46) rfl rfl ?_
    refine XS.aload X17.here hx rfl (hb hby d9_47) rfl rfl ?_
    show Steps p.tables e below (T17.setTop (mkF m 49 #[.val (.ref a1), .val (.ref a2), .val (.ref a3), .val (.ref a4), .val (.ref a5), .val (.ref a6), .val .null, .val .null, .val (.ref a7), .val (.int (0 : Int32))] [(.ref a7), (.ref a1)])) _
    refine st18 _ ?_
    show Steps p.tables e below (T18.setTop (mkF m 52 #[.val (.ref a1), .val (.ref a2), .val (.ref a3), .val (.ref a4), .val (.ref a5), .val (.ref a6), .val .null, .val .null, .val (.ref a7), .val (.int (0 : Int32))] [])) _
    refine XS.aloadN X18.here hx rfl (hb hby d9_52) rfl rfl ?_
    refine XS.iload X18.here hx rfl (hb hby d9_53) rfl ?_
    show Steps p.tables e below (T18.setTop (mkF m 55 #[.val (.ref a1), .val (.ref a2), .val (.ref a3), .val (.ref a4), .val (.ref a5), .val (.ref a6), .val .null, .val .null, .val (.ref a7), .val (.int (0 : Int32))] [(.int (0 : Int32)), (.ref a1)])) _
    refine st19 _ ?_
    show Steps p.tables e below (T19.setTop (mkF m 58 #[.val (.ref a1), .val (.ref a2), .val (.ref a3), .val (.ref a4), .val (.ref a5), .val (.ref a6), .val .null, .val .null, .val (.ref a7), .val (.int (0 : Int32))] [])) _
    exact X19.returnOut hx Bd.returns (hb hby d9_58) hr
  · show own_NG Z B a1 a2 a3 a4 a6 a7 h0 n0 _ T19.heap _
    rw [e19]
    have K1 : Keep T13.heap h19 [a1] := (((((Keep.of_wr W14).wr W15 (Or.inl (List.mem_of_getElem? (i := 0) rfl))).wr W16 (Or.inl (List.mem_of_getElem? (i := 0) rfl))).wr W17 (Or.inl (List.mem_of_getElem? (i := 0) rfl))).wr W18 (Or.inl (List.mem_of_getElem? (i := 0) rfl))).wr W19 (Or.inl (List.mem_of_getElem? (i := 0) rfl))
    exact ⟨x, rfl, N19, K19, ⟨E_a1.keep K19, (((((((((Fw10.other W11 (own_sn (Or.inr (wd hw 67 rfl)) (Or.inr (wd hw 69 rfl)) (by decide))).other W12 (own_sn (Or.inr (wd hw 67 rfl)) (Or.inr (wd hw 71 rfl)) (by decide))).keep Kc13 nin0).other W14 (own_sn (Or.inr (wd hw 67 rfl)) (Or.inr (wd hw 102 rfl)) (by decide))).other W15 (own_sn (Or.inr (wd hw 67 rfl)) (Or.inr (wd hw 104 rfl)) (by decide))).other W16 (own_sn (Or.inr (wd hw 67 rfl)) (Or.inr (wd hw 106 rfl)) (by decide))).other W17 (own_sn (Or.inr (wd hw 67 rfl)) (Or.inr (wd hw 108 rfl)) (by decide))).other W18 (own_sn (Or.inr (wd hw 67 rfl)) (Or.inr (wd hw 110 rfl)) (by decide))).other W19 (own_sn (Or.inr (wd hw 67 rfl)) (Or.inr (wd hw 112 rfl)) (by decide))), ((((((((Fw11.other W12 (own_sn (Or.inr (wd hw 69 rfl)) (Or.inr (wd hw 71 rfl)) (by decide))).keep Kc13 nin0).other W14 (own_sn (Or.inr (wd hw 69 rfl)) (Or.inr (wd hw 102 rfl)) (by decide))).other W15 (own_sn (Or.inr (wd hw 69 rfl)) (Or.inr (wd hw 104 rfl)) (by decide))).other W16 (own_sn (Or.inr (wd hw 69 rfl)) (Or.inr (wd hw 106 rfl)) (by decide))).other W17 (own_sn (Or.inr (wd hw 69 rfl)) (Or.inr (wd hw 108 rfl)) (by decide))).other W18 (own_sn (Or.inr (wd hw 69 rfl)) (Or.inr (wd hw 110 rfl)) (by decide))).other W19 (own_sn (Or.inr (wd hw 69 rfl)) (Or.inr (wd hw 112 rfl)) (by decide))), (((((((Fw12.keep Kc13 nin0).other W14 (own_sn (Or.inr (wd hw 71 rfl)) (Or.inr (wd hw 102 rfl)) (by decide))).other W15 (own_sn (Or.inr (wd hw 71 rfl)) (Or.inr (wd hw 104 rfl)) (by decide))).other W16 (own_sn (Or.inr (wd hw 71 rfl)) (Or.inr (wd hw 106 rfl)) (by decide))).other W17 (own_sn (Or.inr (wd hw 71 rfl)) (Or.inr (wd hw 108 rfl)) (by decide))).other W18 (own_sn (Or.inr (wd hw 71 rfl)) (Or.inr (wd hw 110 rfl)) (by decide))).other W19 (own_sn (Or.inr (wd hw 71 rfl)) (Or.inr (wd hw 112 rfl)) (by decide))), (((((Fw14.other W15 (own_sn (Or.inr (wd hw 102 rfl)) (Or.inr (wd hw 104 rfl)) (by decide))).other W16 (own_sn (Or.inr (wd hw 102 rfl)) (Or.inr (wd hw 106 rfl)) (by decide))).other W17 (own_sn (Or.inr (wd hw 102 rfl)) (Or.inr (wd hw 108 rfl)) (by decide))).other W18 (own_sn (Or.inr (wd hw 102 rfl)) (Or.inr (wd hw 110 rfl)) (by decide))).other W19 (own_sn (Or.inr (wd hw 102 rfl)) (Or.inr (wd hw 112 rfl)) (by decide))), ((((Fw15.other W16 (own_sn (Or.inr (wd hw 104 rfl)) (Or.inr (wd hw 106 rfl)) (by decide))).other W17 (own_sn (Or.inr (wd hw 104 rfl)) (Or.inr (wd hw 108 rfl)) (by decide))).other W18 (own_sn (Or.inr (wd hw 104 rfl)) (Or.inr (wd hw 110 rfl)) (by decide))).other W19 (own_sn (Or.inr (wd hw 104 rfl)) (Or.inr (wd hw 112 rfl)) (by decide))), (((Fw16.other W17 (own_sn (Or.inr (wd hw 106 rfl)) (Or.inr (wd hw 108 rfl)) (by decide))).other W18 (own_sn (Or.inr (wd hw 106 rfl)) (Or.inr (wd hw 110 rfl)) (by decide))).other W19 (own_sn (Or.inr (wd hw 106 rfl)) (Or.inr (wd hw 112 rfl)) (by decide))), ((Fw17.other W18 (own_sn (Or.inr (wd hw 108 rfl)) (Or.inr (wd hw 110 rfl)) (by decide))).other W19 (own_sn (Or.inr (wd hw 108 rfl)) (Or.inr (wd hw 112 rfl)) (by decide))), (Fw18.other W19 (own_sn (Or.inr (wd hw 110 rfl)) (Or.inr (wd hw 112 rfl)) (by decide))), Fw19⟩, hB _ _ x a1 SB13 (E_a1.keep Kh13) K1⟩
theorem d8_0 : decode prog_18_method_2_code 0 = .ok (.new 8, 3) := by decide +kernel
theorem d8_3 : decode prog_18_method_2_code 3 = .ok (.dup, 1) := by decide +kernel
theorem d8_4 : decode prog_18_method_2_code 4 = .ok (.aload_n 0, 1) := by decide +kernel
theorem d8_5 : decode prog_18_method_2_code 5 = .ok (.aload_n 1, 1) := by decide +kernel
theorem d8_6 : decode prog_18_method_2_code 6 = .ok (.aload_n 2, 1) := by decide +kernel
theorem d8_7 : decode prog_18_method_2_code 7 = .ok (.aload_n 3, 1) := by decide +kernel
theorem d8_8 : decode prog_18_method_2_code 8 = .ok (.getstatic 49, 3) := by decide +kernel
theorem d8_11 : decode prog_18_method_2_code 11 = .ok (.aconst_null, 1) := by decide +kernel
theorem d8_12 : decode prog_18_method_2_code 12 = .ok (.aconst_null, 1) := by decide +kernel
theorem d8_13 : decode prog_18_method_2_code 13 = .ok (.getstatic 54, 3) := by decide +kernel
theorem d8_16 : decode prog_18_method_2_code 16 = .ok (.iconst 0, 1) := by decide +kernel
theorem d8_17 : decode prog_18_method_2_code 17 = .ok (.invokespecial 59, 3) := by decide +kernel
theorem d8_20 : decode prog_18_method_2_code 20 = .ok (.areturn, 1) := by decide +kernel
theorem pn_8 : plainName "com/example/tenacious_courier/tenaciouscourier/model/Endpoint" = true := by first | (simp [plainName, overriddenIn]; done) | decide +kernel
theorem pd_8_5 : parseMethodDescriptor "(Ljava/lang/String;Ljava/lang/String;Ljava/lang/String;Ljava/util/List;Lcom/example/tenacious_courier/tenaciouscourier/model/EndpointStatus;Lcom/example/tenacious_courier/tenaciouscourier/model/DisabledReason;Ljava/time/Instant;Lcom/example/tenacious_courier/tenaciouscourier/model/BreakerState;I)V" = some ⟨[(.object "java/lang/String"), (.object "java/lang/String"), (.object "java/lang/String"), (.object "java/util/List"), (.object "com/example/tenacious_courier/tenaciouscourier/model/EndpointStatus"), (.object "com/example/tenacious_courier/tenaciouscourier/model/DisabledReason"), (.object "java/time/Instant"), (.object "com/example/tenacious_courier/tenaciouscourier/model/BreakerState"), .int], none⟩ := by decide +kernel
theorem ef_8 (m : MethodId) (x0 : Addr) (x1 : Addr) (x2 : Addr) (x3 : Addr) : entryFrame m #[(.ref x0), (.ref x1), (.ref x2), (.ref x3)] 4 = mkF m 0 #[.val (.ref x0), .val (.ref x1), .val (.ref x2), .val (.ref x3)] [] := by first | (simp [entryFrame, mkF, argsToLocals, Value.category]; done) | rfl
set_option maxRecDepth 65536 in
set_option maxHeartbeats 40000000 in
theorem rm8 (l : Launch) (Z : State) (a0 : Array Value) (hw : ∀ d ∈ tables_1, d.before a0 Z = true) (ws : List Jvm.Cond) (B : Heap → Addr → Prop) (a1 a2 a3 a4 st br : Addr) (h0 : Heap) (n0 : Nat) (Z0 : n0 ≤ h0.size) (S_ACTIVE : Sta Z h0 "com/example/tenacious_courier/tenaciouscourier/model/EndpointStatus" "ACTIVE" "Lcom/example/tenacious_courier/tenaciouscourier/model/EndpointStatus;" (.ref st)) (S_CLOSED : Sta Z h0 "com/example/tenacious_courier/tenaciouscourier/model/BreakerState" "CLOSED" "Lcom/example/tenacious_courier/tenaciouscourier/model/BreakerState;" (.ref br)) (hcopy : ∀ h' : Heap, Keep h0 h' [] → MetFree l mN42 (head1 (Jvm.Cond.code mN42 jdk_40_method_48_code 1 (some (.object "java/util/List")) :: []) ({ frames := 8, cells := 3, slots := 8, locals := 103 } : Room)) (fun a U => a = #[(.ref a4)] ∧ Z.Warmed39 U.vm ∧ U.heap = h') (fun _ _ _ _ _ => True) (fun _ U o U' => ∃ v L, o = .returned v ∧ own_MG Z B h' n0 v U'.heap L ∧ FrameEnd U o U' L ({ frames := 8, cells := 3, slots := 8, locals := 103 } : Room).cells ({ frames := 8, cells := 3, slots := 8, locals := 103 } : Room).slots)) (hB : ∀ (h h' : Heap) (x a : Addr), B h x → Exa Z h a "com/example/tenacious_courier/tenaciouscourier/model/Endpoint" → Keep h h' [a] → B h' x) :
    MetFree l mN7 (head1 (Jvm.Cond.code mN7 prog_18_method_2_code 4 (some (.object "com/example/tenacious_courier/tenaciouscourier/model/Endpoint")) :: ws) ({ frames := 10, cells := 4, slots := 17, locals := 138 } : Room)) (fun a U => a = #[(.ref a1), (.ref a2), (.ref a3), (.ref a4)] ∧ Z.Warmed39 U.vm ∧ U.heap = h0) (fun _ _ _ _ _ => True) (fun _ U o U' => ∃ v L, o = .returned v ∧ own_RG Z B a1 a2 a3 st br h0 n0 v U'.heap L ∧ FrameEnd U o U' L ({ frames := 10, cells := 4, slots := 17, locals := 138 } : Room).cells ({ frames := 10, cells := 4, slots := 17, locals := 138 } : Room).slots) := by
  refine MetFree.of_bodySF (plainFor_of_name pn_8) hisR ?_
  intro p e s m args below meth c s₁ Bd hml0 hP hK
  obtain ⟨rfl, hZ, hh⟩ := hP
  have hx := Bd.exec
  have hby := Bd.bytes
  have hml : c.maxLocals = 4 := hml0
  have hown : s.vm.findClass "com/example/tenacious_courier/tenaciouscourier/model/Endpoint" = some m.cls := findClass_of_methodNamed Bd.named
  have hnm := (name_of_methodNamed Bd.named Bd.method).1
  have X0 : Stand p l e ({ frames := 10, cells := 4, slots := 17, locals := 138 } : Room) s m #[(.ref a1), (.ref a2), (.ref a3), (.ref a4)] below meth c s₁ [] 0 0 := Stand.of_body Bd
  have e0 : s₁.heap = h0 := by rw [← hh, Bd.state]; rfl
  have N0 := Fr.nil n0
  have pre0 : ∀ t, Steps p.tables e below (s₁.setTop (mkF m 0 #[.val (.ref a1), .val (.ref a2), .val (.ref a3), .val (.ref a4)] [])) t → Steps p.tables e below (s₁.setTop (entryFrame m #[(.ref a1), (.ref a2), (.ref a3), (.ref a4)] 4)) t := fun t k => castTop (ef_8 m a1 a2 a3 a4) k
  obtain ⟨T5, h5, X5, e5, E5, A5, D5, -, st5⟩ := newO X0 hx hZ hown (wd hw 54 rfl) (wd hw 55 rfl) (wd hw 52 rfl) e0 (g := (mkF m 0 #[.val (.ref a1), .val (.ref a2), .val (.ref a3), .val (.ref a4)] [])) rfl (hb hby d8_0) (by decide) (by decide)
  obtain ⟨b5, g5⟩ : ∃ z, z = h0.size := ⟨_, rfl⟩
  rw [← g5] at A5 D5 st5
  have F_id_b5 : Fld Z h5 b5 "com/example/tenacious_courier/tenaciouscourier/model/Endpoint" "id" "Ljava/lang/String;" .null := D5 (Or.inr (wd hw 67 rfl)) (ty := (.object "java/lang/String")) (by decide)
  have F_tenant_b5 : Fld Z h5 b5 "com/example/tenacious_courier/tenaciouscourier/model/Endpoint" "tenant" "Ljava/lang/String;" .null := D5 (Or.inr (wd hw 69 rfl)) (ty := (.object "java/lang/String")) (by decide)
  have F_url_b5 : Fld Z h5 b5 "com/example/tenacious_courier/tenaciouscourier/model/Endpoint" "url" "Ljava/lang/String;" .null := D5 (Or.inr (wd hw 71 rfl)) (ty := (.object "java/lang/String")) (by decide)
  have F_eventTypes_b5 : Fld Z h5 b5 "com/example/tenacious_courier/tenaciouscourier/model/Endpoint" "eventTypes" "Ljava/util/List;" .null := D5 (Or.inr (wd hw 102 rfl)) (ty := (.object "java/util/List")) (by decide)
  have F_status_b5 : Fld Z h5 b5 "com/example/tenacious_courier/tenaciouscourier/model/Endpoint" "status" "Lcom/example/tenacious_courier/tenaciouscourier/model/EndpointStatus;" .null := D5 (Or.inr (wd hw 104 rfl)) (ty := (.object "com/example/tenacious_courier/tenaciouscourier/model/EndpointStatus")) (by decide)
  have F_disabledReason_b5 : Fld Z h5 b5 "com/example/tenacious_courier/tenaciouscourier/model/Endpoint" "disabledReason" "Lcom/example/tenacious_courier/tenaciouscourier/model/DisabledReason;" .null := D5 (Or.inr (wd hw 106 rfl)) (ty := (.object "com/example/tenacious_courier/tenaciouscourier/model/DisabledReason")) (by decide)
  have F_disabledAt_b5 : Fld Z h5 b5 "com/example/tenacious_courier/tenaciouscourier/model/Endpoint" "disabledAt" "Ljava/time/Instant;" .null := D5 (Or.inr (wd hw 108 rfl)) (ty := (.object "java/time/Instant")) (by decide)
  have F_breaker_b5 : Fld Z h5 b5 "com/example/tenacious_courier/tenaciouscourier/model/Endpoint" "breaker" "Lcom/example/tenacious_courier/tenaciouscourier/model/BreakerState;" .null := D5 (Or.inr (wd hw 110 rfl)) (ty := (.object "com/example/tenacious_courier/tenaciouscourier/model/BreakerState")) (by decide)
  have F_consecutiveFailures_b5 : Fld Z h5 b5 "com/example/tenacious_courier/tenaciouscourier/model/Endpoint" "consecutiveFailures" "I" (.int (0 : Int32)) := D5 (Or.inr (wd hw 112 rfl)) (ty := .int) (by decide)
  have E_b5 := A5
  have g_b5 : n0 ≤ b5 := Nat.le_trans Z0 (Nat.le_of_eq g5.symm)
  have sz_b5 : h0.size ≤ b5 := (Nat.le_trans (Keep.refl h0 []).1 (Nat.le_of_eq g5.symm))
  have K5 : Keep h0 h5 [] := (Keep.refl h0 []).ext E5
  obtain ⟨T7, X7, e7, st7⟩ := getS2 X5 hx hZ hown (host := "") (Or.inl (wd hw 56 rfl)) Via.refl e5 (S_ACTIVE.ext E5) (g := (mkF m 8 #[.val (.ref a1), .val (.ref a2), .val (.ref a3), .val (.ref a4)] [(.ref a4), (.ref a3), (.ref a2), (.ref a1), (.ref b5), (.ref b5)])) rfl (hb hby d8_8)
  obtain ⟨T9, X9, e9, st9⟩ := getS2 X7 hx hZ hown (host := "") (Or.inl (wd hw 59 rfl)) Via.refl e7 (S_CLOSED.ext E5) (g := (mkF m 13 #[.val (.ref a1), .val (.ref a2), .val (.ref a3), .val (.ref a4)] [.null, .null, (.ref st), (.ref a4), (.ref a3), (.ref a2), (.ref a1), (.ref b5), (.ref b5)])) rfl (hb hby d8_13)
  obtain ⟨_, _, ⟨T10, L10, k10, n10⟩, -, X10, ⟨Lc10, hQ10, l10, y10, z10⟩, st10⟩ := X9.specialBack hx (y := mN0) rfl hown (mvT hZ (wd hw 62 rfl)) (mvT hZ (wd hw 63 rfl)) (mvT hZ (wd hw 64 rfl)) (by decide) (backOf (W := 1) (rm9 l Z a0 hw [] B b5 a1 a2 a3 a4 st br h5 n0 (Nat.le_trans Z0 K5.1) E_b5 g_b5 F_id_b5 F_tenant_b5 F_url_b5 F_eventTypes_b5 F_status_b5 F_disabledReason_b5 F_disabledAt_b5 F_breaker_b5 F_consecutiveFailures_b5 (fun h' K => hcopy h' (K5.trans K (fun x hx => Or.inr (by cases List.mem_singleton.mp hx; exact sz_b5)))) hB) hZ (wd hw 64 rfl) (wd hw 52 rfl) (by decide) (by decide)) (g := (mkF m 17 #[.val (.ref a1), .val (.ref a2), .val (.ref a3), .val (.ref a4)] [(.int (0 : Int32)), (.ref br), .null, .null, (.ref st), (.ref a4), (.ref a3), (.ref a2), (.ref a1), (.ref b5), (.ref b5)])) rfl (by rw [hml]; rfl) (Steps.refl _) (a := b5) (argsL := [(.ref a1), (.ref a2), (.ref a3), (.ref a4), (.ref st), .null, .null, (.ref br), (.int (0 : Int32))]) (rest := [(.ref b5)]) (lenOf pd_8_5 rfl) rfl (by show 2 * 0 + _ ≤ _; exact Nat.le_of_eq rfl) (hb hby d8_17) (fun _ _ => ⟨rfl, e9, (by decide : 1 + 3 ≤ _), (by decide : 9 + 8 ≤ _)⟩)
  dsimp only [Pt.U, Pt.locs, Pt.cells, Pt.slots] at X10 l10 y10 z10 st10 hQ10
  subst l10 y10 z10
  obtain ⟨x, rfl, N10q, K10q, S10q, B10q⟩ := hQ10
  have N10 := Fr.app N0 N10q
  obtain ⟨fs, hr, hrun, hended, hW, hsame⟩ := X10.leave (v := some (.ref b5)) (fun h => by rw [Bd.returns] at h; cases h)
  refine ⟨_, _, pre0 _ ?_, hrun, hended, _, _, rfl, ?_, ⟨_, rfl⟩, hW, hsame.mono (by decide) (by decide)⟩
  · show Steps p.tables e below (s₁.setTop (mkF m 0 #[.val (.ref a1), .val (.ref a2), .val (.ref a3), .val (.ref a4)] [])) _
    refine st5 _ ?_
    show Steps p.tables e below (T5.setTop (mkF m 3 #[.val (.ref a1), .val (.ref a2), .val (.ref a3), .val (.ref a4)] [(.ref b5)])) _
    refine XS.dup X5.here hx rfl (hb hby d8_3) rfl rfl ?_
    refine XS.aloadN X5.here hx rfl (hb hby d8_4) rfl rfl ?_
    show Steps p.tables e below (T5.setTop (mkF m 5 #[.val (.ref a1), .val (.ref a2), .val (.ref a3), .val (.ref a4)] [(.ref a1), (.ref b5), (.ref b5)])) _
    refine XS.aloadN X5.here hx rfl (hb hby d8_5) rfl rfl ?_
    refine XS.aloadN X5.here hx rfl (hb hby d8_6) rfl rfl ?_
    show Steps p.tables e below (T5.setTop (mkF m 7 #[.val (.ref a1), .val (.ref a2), .val (.ref a3), .val (.ref a4)] [(.ref a3), (.ref a2), (.ref a1), (.ref b5), (.ref b5)])) _
    refine XS.aloadN X5.here hx rfl (hb hby d8_7) rfl rfl ?_
    show Steps p.tables e below (T5.setTop (mkF m 8 #[.val (.ref a1), .val (.ref a2), .val (.ref a3), .val (.ref a4)] [(.ref a4), (.ref a3), (.ref a2), (.ref a1), (.ref b5), (.ref b5)])) _
    refine st7 _ ?_
    show Steps p.tables e below (T7.setTop (mkF m 11 #[.val (.ref a1), .val (.ref a2), .val (.ref a3), .val (.ref a4)] [(.ref st), (.ref a4), (.ref a3), (.ref a2), (.ref a1), (.ref b5), (.ref b5)])) _
    refine XS.aconstNull X7.here hx rfl (hb hby d8_11) ?_
    refine XS.aconstNull X7.here hx rfl (hb hby d8_12) ?_
    show Steps p.tables e below (T7.setTop (mkF m 13 #[.val (.ref a1), .val (.ref a2), .val (.ref a3), .val (.ref a4)] [.null, .null, (.ref st), (.ref a4), (.ref a3), (.ref a2), (.ref a1), (.ref b5), (.ref b5)])) _
    refine st9 _ ?_
    show Steps p.tables e below (T9.setTop (mkF m 16 #[.val (.ref a1), .val (.ref a2), .val (.ref a3), .val (.ref a4)] [(.ref br), .null, .null, (.ref st), (.ref a4), (.ref a3), (.ref a2), (.ref a1), (.ref b5), (.ref b5)])) _
    refine XS.iconst X9.here hx rfl (hb hby d8_16) ?_
    show Steps p.tables e below (T9.setTop (mkF m 17 #[.val (.ref a1), .val (.ref a2), .val (.ref a3), .val (.ref a4)] [(.int (0 : Int32)), (.ref br), .null, .null, (.ref st), (.ref a4), (.ref a3), (.ref a2), (.ref a1), (.ref b5), (.ref b5)])) _
    refine st10.trans ?_
    show Steps p.tables e below (T10.setTop (mkF m 20 #[.val (.ref a1), .val (.ref a2), .val (.ref a3), .val (.ref a4)] [(.ref b5)])) _
    jvm_step X10.here [X10.here.top, hx, (hb hby d8_20), X10.method', Bd.returns, Value.isRef, FieldType.isReference]
    first | (intro acts; rw [hr _ acts rfl rfl rfl]) | rw [hr _ _ rfl rfl rfl]
    exact Steps.refl _
  · show own_RG Z B a1 a2 a3 st br h0 n0 _ T10.heap _
    exact ⟨b5, x, rfl, N10, K5.trans K10q (fun x hx => Or.inr (by cases List.mem_singleton.mp hx; exact sz_b5)), sz_b5, S10q, B10q⟩
def own_G (Z : State) (h : Heap) (w : Int32) (wD wEL wEm st br mr : Addr) (cD : Cell) : Prop :=
  Sta Z h "java/lang/String" "COMPACT_STRINGS" "Z" (.int w) ∧ ¬ (w = (0 : Int32)) ∧ Sta Z h "java/util/ArrayList" "DEFAULTCAPACITY_EMPTY_ELEMENTDATA" "[Ljava/lang/Object;" (.ref wD) ∧ Arr Z h wD cD (.object "java/lang/Object") ∧ cD.slots.size = (0 : Int32).toNatClampNeg ∧ Sta Z h "java/util/ImmutableCollections" "EMPTY_LIST" "Ljava/util/ImmutableCollections$ListN;" (.ref wEL) ∧ own_L0 Z h wEL ∧ Sta Z h "java/util/ImmutableCollections" "EMPTY" "Ljava/lang/Object;" (.ref wEm) ∧ Exa Z h wEm "java/lang/Object" ∧ Sta Z h "com/example/tenacious_courier/tenaciouscourier/model/EndpointStatus" "ACTIVE" "Lcom/example/tenacious_courier/tenaciouscourier/model/EndpointStatus;" (.ref st) ∧ Sta Z h "com/example/tenacious_courier/tenaciouscourier/model/BreakerState" "CLOSED" "Lcom/example/tenacious_courier/tenaciouscourier/model/BreakerState;" (.ref br) ∧ Mir Z "[Ljava/lang/Object;" mr
theorem own_arK {Z : State} {h h' : Heap} {a : Addr} {cl : Cell} {ty : FieldType} (A : Arr Z h a cl ty) (K : Keep h h' []) : Arr Z h' a cl ty := ⟨K.2.1 a cl A.1 nin0, A.2⟩
theorem own_L0.keepW {Z : State} {h h' : Heap} {x : Addr} {ws : List Addr} (S : own_L0 Z h x) (K : Keep h h' ws) (q : x ∉ ws) (q2 : ∀ (d : Addr) (cl : Cell), Arr Z h d cl (.object "java/lang/Object") → d ∉ ws) : own_L0 Z h' x := by
  obtain ⟨s0, d, cl, s1, s2, s3⟩ := S
  exact ⟨s0.keep K, d, cl, s1.keep K q, ⟨K.2.1 d cl s2.1 (q2 d cl s2), s2.2⟩, s3⟩
theorem own_L3.keepW {Z : State} {h h' : Heap} {x x0 x1 x2 : Addr} {ws : List Addr} (S : own_L3 Z h x x0 x1 x2) (K : Keep h h' ws) (q : x ∉ ws) (q2 : ∀ (d : Addr) (k : ClassId), Arv Z h d k (.object "java/lang/Object") (3 : Int32) [(.ref x0), (.ref x1), (.ref x2)] .null → d ∉ ws) : own_L3 Z h' x x0 x1 x2 := by
  obtain ⟨s0, d, k, s1, s2⟩ := S
  exact ⟨s0.keep K, d, k, s1.keep K q, s2.keep K (q2 d k s2)⟩
theorem own_neA {Z : State} {h : Heap} {a b : Addr} {k k' : ClassId} {ty ty' : FieldType} {vs vs' : List Value} {dv dv' : Value} (A : Arv Z h a k ty (3 : Int32) vs dv) (B : Arv Z h b k' ty' (10 : Int32) vs' dv') : a ≠ b := fun e => by
  obtain ⟨c, A1, -, A2, -⟩ := A
  obtain ⟨c', B1, -, B2, -⟩ := B
  subst e
  cases A1.1.symm.trans B1.1
  rw [A2] at B2
  exact absurd B2 (by decide)
def vr (a : Addr) : Slot := .val (.ref a)
def vi (z : Int32) : Slot := .val (.int z)
def own_S (p1 p2 p3 p4 p5 p6 : Int32) (a b c d e f : Addr) (n : Int32) (s1 s2 s3 s4 : Slot) : Array Slot := #[.val (.int p1), .val (.int p2), .val (.int p3), .val (.int p4), .val (.int p5), .val (.int p6), .val (.ref a), .val (.ref b), .val (.ref c), .val (.ref d), .val (.ref e), .val (.ref f), .val (.int n), s1, s2, s3, s4]
theorem pn_0 : plainName "com/example/tenacious_courier/tenaciouscourier/model/EndpointRegisteredPinLaw" = true := by first | (simp [plainName, overriddenIn]; done) | decide +kernel
theorem pd_0_0 : parseMethodDescriptor "(I)Ljava/lang/String;" = some ⟨[.int], some (.object "java/lang/String")⟩ := by decide +kernel
theorem pd_0_3 : parseMethodDescriptor "()V" = some ⟨[], none⟩ := by decide +kernel
theorem pd_0_4 : parseMethodDescriptor "(Ljava/lang/String;Ljava/lang/String;Ljava/lang/String;Ljava/util/List;)Lcom/example/tenacious_courier/tenaciouscourier/model/Endpoint;" = some ⟨[(.object "java/lang/String"), (.object "java/lang/String"), (.object "java/lang/String"), (.object "java/util/List")], some (.object "com/example/tenacious_courier/tenaciouscourier/model/Endpoint")⟩ := by decide +kernel
theorem pd_0_9 : parseMethodDescriptor "(Ljava/lang/Object;)Z" = some ⟨[(.object "java/lang/Object")], some .boolean⟩ := by decide +kernel
theorem pd_0_8 : parseMethodDescriptor "()Ljava/util/List;" = some ⟨[], some (.object "java/util/List")⟩ := by decide +kernel
theorem pd_0_14 : parseMethodDescriptor "()I" = some ⟨[], some .int⟩ := by decide +kernel
theorem pd_0_15 : parseMethodDescriptor "()Ljava/lang/String;" = some ⟨[], some (.object "java/lang/String")⟩ := by decide +kernel
theorem pd_0_16 : parseMethodDescriptor "()Lcom/example/tenacious_courier/tenaciouscourier/model/EndpointStatus;" = some ⟨[], some (.object "com/example/tenacious_courier/tenaciouscourier/model/EndpointStatus")⟩ := by decide +kernel
theorem pd_0_17 : parseMethodDescriptor "()Lcom/example/tenacious_courier/tenaciouscourier/model/DisabledReason;" = some ⟨[], some (.object "com/example/tenacious_courier/tenaciouscourier/model/DisabledReason")⟩ := by decide +kernel
theorem pd_0_18 : parseMethodDescriptor "()Ljava/time/Instant;" = some ⟨[], some (.object "java/time/Instant")⟩ := by decide +kernel
theorem pd_0_19 : parseMethodDescriptor "()Lcom/example/tenacious_courier/tenaciouscourier/model/BreakerState;" = some ⟨[], some (.object "com/example/tenacious_courier/tenaciouscourier/model/BreakerState")⟩ := by decide +kernel
theorem ef_0 (m : MethodId) (x0 : Int32) (x1 : Int32) (x2 : Int32) (x3 : Int32) (x4 : Int32) (x5 : Int32) : entryFrame m #[(.int x0), (.int x1), (.int x2), (.int x3), (.int x4), (.int x5)] maxLocals = mkF m 0 #[.val (.int x0), .val (.int x1), .val (.int x2), .val (.int x3), .val (.int x4), .val (.int x5), .unset, .unset, .unset, .unset, .unset, .unset, .unset, .unset, .unset, .unset, .unset] [] := by first | (simp [entryFrame, mkF, argsToLocals, Value.category, maxLocals]; done) | rfl
def Q0a (Z : State) (p1 p2 p3 p4 p5 p6 w : Int32) (wD wEL wEm st br mr : Addr) (cD : Cell) (h0 : Heap) (n0 : Nat) (v : Option Value) (h : Heap) (L : List Loc) : Prop := v = some (.int (1 : Int32)) ∧ Fr n0 L
set_option maxRecDepth 65536 in
set_option maxHeartbeats 40000000 in
theorem rm0a (l : Launch) (Z : State) (a0 : Array Value) (hw : ∀ d ∈ tables_1, d.before a0 Z = true) (ws : List Jvm.Cond) (p1 p2 p3 p4 p5 p6 w : Int32) (wD wEL wEm st br mr : Addr) (cD : Cell) (h0 : Heap) (n0 : Nat) (Z0 : n0 ≤ h0.size) (hG : own_G Z h0 w wD wEL wEm st br mr cD) (hn : (((p4.toUInt32 >>> ((24 : Int32) &&& 31).toUInt32).toInt32) &&& (3 : Int32)) = (0 : Int32)) :
    MetFree l x (head1 (Jvm.Cond.code x code maxLocals ret :: ws) room_1) (fun a U => a = #[(.int p1), (.int p2), (.int p3), (.int p4), (.int p5), (.int p6)] ∧ Z.Warmed39 U.vm ∧ U.heap = h0 ∧ CHv Z own_EL U.vm h0) (fun _ _ _ _ _ => True) (fun _ U o U' => ∃ v L, o = .returned v ∧ Q0a Z p1 p2 p3 p4 p5 p6 w wD wEL wEm st br mr cD h0 n0 v U'.heap L ∧ ReturnedEndW U o U' L room_1.cells room_1.slots) := by
  refine MetFree.of_bodySF (plainFor_of_name pn_0) hisR ?_
  intro p e s m args below meth c s₁ Bd hml0 hP hK
  obtain ⟨rfl, hZ, hh, hCH⟩ := hP
  have hEL := own_EW hw
  have hZ' : Z.Warmed39 (s.setVm s.vm).vm := hZ
  have hx := Bd.exec
  have hby := Bd.bytes
  have hml : c.maxLocals = 17 := hml0
  have hown : s.vm.findClass "com/example/tenacious_courier/tenaciouscourier/model/EndpointRegisteredPinLaw" = some m.cls := findClass_of_methodNamed Bd.named
  have hnm := (name_of_methodNamed Bd.named Bd.method).1
  have X0 : Stand p l e room_1 s m #[(.int p1), (.int p2), (.int p3), (.int p4), (.int p5), (.int p6)] below meth c s₁ [] 0 0 := Stand.of_body Bd
  have e0 : s₁.heap = h0 := by rw [← hh, Bd.state]; rfl
  have N0 := Fr.nil n0
  have pre0 : ∀ t, Steps p.tables e below (s₁.setTop (mkF m 0 #[.val (.int p1), .val (.int p2), .val (.int p3), .val (.int p4), .val (.int p5), .val (.int p6), .unset, .unset, .unset, .unset, .unset, .unset, .unset, .unset, .unset, .unset, .unset] [])) t → Steps p.tables e below (s₁.setTop (entryFrame m #[(.int p1), (.int p2), (.int p3), (.int p4), (.int p5), (.int p6)] maxLocals)) t := fun t k => castTop (ef_0 m p1 p2 p3 p4 p5 p6) k
  obtain ⟨S_CS, hcs, S_D, A_D, S_Z, S_EL, L_EL, S_EM, X_EM, S_AC, S_CL, MIR⟩ := hG
  have X0s := (X0 : Stand p l e _ (s.setVm s.vm) m _ below meth c s₁ _ _ _)
  obtain ⟨_, _, ⟨T7, L7, k7, n7⟩, -, X7r, hS7r, hg7, ⟨Lc7, hQ7, l7, y7, z7, hC7⟩, st7⟩ := callSS X0s hx (y := mN11) hown (mvT hZ' (wd hw 0 rfl)) (mvT hZ' (wd hw 1 rfl)) (mvT hZ' (wd hw 2 rfl)) (mvT hZ' (wd hw 3 rfl)) (by decide) (backOfSH (W := 0) (own_str l Z a0 hw [] p1 w h0 n0 Z0 S_CS hcs) hZ (wd hw 3 rfl) (wd hw 2 rfl) (by decide) (by decide) hEL (hCH)) (g := (mkF m 1 #[.val (.int p1), .val (.int p2), .val (.int p3), .val (.int p4), .val (.int p5), .val (.int p6), .unset, .unset, .unset, .unset, .unset, .unset, .unset, .unset, .unset, .unset, .unset] [(.int p1)])) rfl (by rw [hml]; rfl) (argsL := [(.int p1)]) (rest := []) (lenOf pd_0_0 rfl) rfl (by show 2 * 0 + _ ≤ _; exact Nat.le_of_eq rfl) (hb hby at_1) (fun _ _ => ⟨rfl, e0, (by decide : 0 + 4 ≤ _), (by decide : 0 + 12 ≤ _)⟩)
  dsimp only [Pt.U, Pt.locs, Pt.cells, Pt.slots] at X7r hS7r hg7 hC7 l7 y7 z7 st7 hQ7
  obtain rfl : k7 = 4 := y7
  obtain rfl : n7 = 12 := z7
  obtain ⟨X7, hS7, hZ7, hown7⟩ := rebS (own := "com/example/tenacious_courier/tenaciouscourier/model/EndpointRegisteredPinLaw") ((State.WarmedH.refl s).since 0) (Nat.zero_le _) X7r hS7r hg7 hZ' hown
  obtain ⟨x7, zz7, vs7, rfl, N7q, K7q, S7q⟩ := hQ7
  have K7 : Keep h0 T7.heap [] := K7q
  have Z7 : n0 ≤ T7.heap.size := Nat.le_trans Z0 K7.1
  have CS7 := own_staK S_CS K7
  have N7 : Fr n0 L7 := by rw [l7]; exact Fr.app N0 N7q
  obtain ⟨_, _, ⟨T8, L8, k8, n8⟩, -, X8r, hS8r, hg8, ⟨Lc8, hQ8, l8, y8, z8, hC8⟩, st8⟩ := callSS X7 hx (y := mN11) hown7 (mvT hZ7 (wd hw 0 rfl)) (mvT hZ7 (wd hw 1 rfl)) (mvT hZ7 (wd hw 2 rfl)) (mvT hZ7 (wd hw 3 rfl)) (by decide) (backOfSH (W := 0) (own_str l Z a0 hw [] p2 w T7.heap n0 Z7 CS7 hcs) hZ7 (wd hw 3 rfl) (wd hw 2 rfl) (by decide) (by decide) hEL (hC7.1)) (g := (mkF m 7 #[.val (.int p1), .val (.int p2), .val (.int p3), .val (.int p4), .val (.int p5), .val (.int p6), .val (.ref x7), .unset, .unset, .unset, .unset, .unset, .unset, .unset, .unset, .unset, .unset] [(.int p2)])) rfl (by rw [hml]; rfl) (argsL := [(.int p2)]) (rest := []) (lenOf pd_0_0 rfl) rfl (by show 2 * 0 + _ ≤ _; exact Nat.le_of_eq rfl) (hb hby at_7) (fun _ _ => ⟨rfl, rfl, (by decide : 4 + 4 ≤ _), (by decide : 12 + 12 ≤ _)⟩)
  dsimp only [Pt.U, Pt.locs, Pt.cells, Pt.slots] at X8r hS8r hg8 hC8 l8 y8 z8 st8 hQ8
  obtain rfl : k8 = 8 := y8
  obtain rfl : n8 = 24 := z8
  obtain ⟨X8, hS8, hZ8, hown8⟩ := rebS (own := "com/example/tenacious_courier/tenaciouscourier/model/EndpointRegisteredPinLaw") hS7 (Nat.le_refl _) X8r hS8r hg8 hZ7 hown7
  obtain ⟨x8, zz8, vs8, rfl, N8q, K8q, S8q⟩ := hQ8
  have K8 : Keep h0 T8.heap [] := K7.trans K8q (fun x hx => nomatch hx)
  have Z8 : n0 ≤ T8.heap.size := Nat.le_trans Z0 K8.1
  have CS8 := own_staK S_CS K8
  have N8 : Fr n0 L8 := by rw [l8]; exact Fr.app N7 N8q
  obtain ⟨_, _, ⟨T9, L9, k9, n9⟩, -, X9r, hS9r, hg9, ⟨Lc9, hQ9, l9, y9, z9, hC9⟩, st9⟩ := callSS X8 hx (y := mN11) hown8 (mvT hZ8 (wd hw 0 rfl)) (mvT hZ8 (wd hw 1 rfl)) (mvT hZ8 (wd hw 2 rfl)) (mvT hZ8 (wd hw 3 rfl)) (by decide) (backOfSH (W := 0) (own_str l Z a0 hw [] p3 w T8.heap n0 Z8 CS8 hcs) hZ8 (wd hw 3 rfl) (wd hw 2 rfl) (by decide) (by decide) hEL (hC8.1)) (g := (mkF m 13 #[.val (.int p1), .val (.int p2), .val (.int p3), .val (.int p4), .val (.int p5), .val (.int p6), .val (.ref x7), .val (.ref x8), .unset, .unset, .unset, .unset, .unset, .unset, .unset, .unset, .unset] [(.int p3)])) rfl (by rw [hml]; rfl) (argsL := [(.int p3)]) (rest := []) (lenOf pd_0_0 rfl) rfl (by show 2 * 0 + _ ≤ _; exact Nat.le_of_eq rfl) (hb hby at_13) (fun _ _ => ⟨rfl, rfl, (by decide : 8 + 4 ≤ _), (by decide : 24 + 12 ≤ _)⟩)
  dsimp only [Pt.U, Pt.locs, Pt.cells, Pt.slots] at X9r hS9r hg9 hC9 l9 y9 z9 st9 hQ9
  obtain rfl : k9 = 12 := y9
  obtain rfl : n9 = 36 := z9
  obtain ⟨X9, hS9, hZ9, hown9⟩ := rebS (own := "com/example/tenacious_courier/tenaciouscourier/model/EndpointRegisteredPinLaw") hS8 (Nat.le_refl _) X9r hS9r hg9 hZ8 hown8
  obtain ⟨x9, zz9, vs9, rfl, N9q, K9q, S9q⟩ := hQ9
  have K9 : Keep h0 T9.heap [] := K8.trans K9q (fun x hx => nomatch hx)
  have Z9 : n0 ≤ T9.heap.size := Nat.le_trans Z0 K9.1
  have CS9 := own_staK S_CS K9
  have N9 : Fr n0 L9 := by rw [l9]; exact Fr.app N8 N9q
  obtain ⟨_, _, ⟨T10, L10, k10, n10⟩, -, X10r, hS10r, hg10, ⟨Lc10, hQ10, l10, y10, z10, hC10⟩, st10⟩ := callSS X9 hx (y := mN11) hown9 (mvT hZ9 (wd hw 0 rfl)) (mvT hZ9 (wd hw 1 rfl)) (mvT hZ9 (wd hw 2 rfl)) (mvT hZ9 (wd hw 3 rfl)) (by decide) (backOfSH (W := 0) (own_str l Z a0 hw [] p4 w T9.heap n0 Z9 CS9 hcs) hZ9 (wd hw 3 rfl) (wd hw 2 rfl) (by decide) (by decide) hEL (hC9.1)) (g := (mkF m 19 #[.val (.int p1), .val (.int p2), .val (.int p3), .val (.int p4), .val (.int p5), .val (.int p6), .val (.ref x7), .val (.ref x8), .val (.ref x9), .unset, .unset, .unset, .unset, .unset, .unset, .unset, .unset] [(.int p4)])) rfl (by rw [hml]; rfl) (argsL := [(.int p4)]) (rest := []) (lenOf pd_0_0 rfl) rfl (by show 2 * 0 + _ ≤ _; exact Nat.le_of_eq rfl) (hb hby at_19) (fun _ _ => ⟨rfl, rfl, (by decide : 12 + 4 ≤ _), (by decide : 36 + 12 ≤ _)⟩)
  dsimp only [Pt.U, Pt.locs, Pt.cells, Pt.slots] at X10r hS10r hg10 hC10 l10 y10 z10 st10 hQ10
  obtain rfl : k10 = 16 := y10
  obtain rfl : n10 = 48 := z10
  obtain ⟨X10, hS10, hZ10, hown10⟩ := rebS (own := "com/example/tenacious_courier/tenaciouscourier/model/EndpointRegisteredPinLaw") hS9 (Nat.le_refl _) X10r hS10r hg10 hZ9 hown9
  obtain ⟨x10, zz10, vs10, rfl, N10q, K10q, S10q⟩ := hQ10
  have K10 : Keep h0 T10.heap [] := K9.trans K10q (fun x hx => nomatch hx)
  have Z10 : n0 ≤ T10.heap.size := Nat.le_trans Z0 K10.1
  have CS10 := own_staK S_CS K10
  have N10 : Fr n0 L10 := by rw [l10]; exact Fr.app N9 N10q
  obtain ⟨_, _, ⟨T11, L11, k11, n11⟩, -, X11r, hS11r, hg11, ⟨Lc11, hQ11, l11, y11, z11, hC11⟩, st11⟩ := callSS X10 hx (y := mN11) hown10 (mvT hZ10 (wd hw 0 rfl)) (mvT hZ10 (wd hw 1 rfl)) (mvT hZ10 (wd hw 2 rfl)) (mvT hZ10 (wd hw 3 rfl)) (by decide) (backOfSH (W := 0) (own_str l Z a0 hw [] p5 w T10.heap n0 Z10 CS10 hcs) hZ10 (wd hw 3 rfl) (wd hw 2 rfl) (by decide) (by decide) hEL (hC10.1)) (g := (mkF m 26 #[.val (.int p1), .val (.int p2), .val (.int p3), .val (.int p4), .val (.int p5), .val (.int p6), .val (.ref x7), .val (.ref x8), .val (.ref x9), .val (.ref x10), .unset, .unset, .unset, .unset, .unset, .unset, .unset] [(.int p5)])) rfl (by rw [hml]; rfl) (argsL := [(.int p5)]) (rest := []) (lenOf pd_0_0 rfl) rfl (by show 2 * 0 + _ ≤ _; exact Nat.le_of_eq rfl) (hb hby at_26) (fun _ _ => ⟨rfl, rfl, (by decide : 16 + 4 ≤ _), (by decide : 48 + 12 ≤ _)⟩)
  dsimp only [Pt.U, Pt.locs, Pt.cells, Pt.slots] at X11r hS11r hg11 hC11 l11 y11 z11 st11 hQ11
  obtain rfl : k11 = 20 := y11
  obtain rfl : n11 = 60 := z11
  obtain ⟨X11, hS11, hZ11, hown11⟩ := rebS (own := "com/example/tenacious_courier/tenaciouscourier/model/EndpointRegisteredPinLaw") hS10 (Nat.le_refl _) X11r hS11r hg11 hZ10 hown10
  obtain ⟨x11, zz11, vs11, rfl, N11q, K11q, S11q⟩ := hQ11
  have K11 : Keep h0 T11.heap [] := K10.trans K11q (fun x hx => nomatch hx)
  have Z11 : n0 ≤ T11.heap.size := Nat.le_trans Z0 K11.1
  have CS11 := own_staK S_CS K11
  have N11 : Fr n0 L11 := by rw [l11]; exact Fr.app N10 N11q
  obtain ⟨_, _, ⟨T12, L12, k12, n12⟩, -, X12r, hS12r, hg12, ⟨Lc12, hQ12, l12, y12, z12, hC12⟩, st12⟩ := callSS X11 hx (y := mN11) hown11 (mvT hZ11 (wd hw 0 rfl)) (mvT hZ11 (wd hw 1 rfl)) (mvT hZ11 (wd hw 2 rfl)) (mvT hZ11 (wd hw 3 rfl)) (by decide) (backOfSH (W := 0) (own_str l Z a0 hw [] p6 w T11.heap n0 Z11 CS11 hcs) hZ11 (wd hw 3 rfl) (wd hw 2 rfl) (by decide) (by decide) hEL (hC11.1)) (g := (mkF m 33 #[.val (.int p1), .val (.int p2), .val (.int p3), .val (.int p4), .val (.int p5), .val (.int p6), .val (.ref x7), .val (.ref x8), .val (.ref x9), .val (.ref x10), .val (.ref x11), .unset, .unset, .unset, .unset, .unset, .unset] [(.int p6)])) rfl (by rw [hml]; rfl) (argsL := [(.int p6)]) (rest := []) (lenOf pd_0_0 rfl) rfl (by show 2 * 0 + _ ≤ _; exact Nat.le_of_eq rfl) (hb hby at_33) (fun _ _ => ⟨rfl, rfl, (by decide : 20 + 4 ≤ _), (by decide : 60 + 12 ≤ _)⟩)
  dsimp only [Pt.U, Pt.locs, Pt.cells, Pt.slots] at X12r hS12r hg12 hC12 l12 y12 z12 st12 hQ12
  obtain rfl : k12 = 24 := y12
  obtain rfl : n12 = 72 := z12
  obtain ⟨X12, hS12, hZ12, hown12⟩ := rebS (own := "com/example/tenacious_courier/tenaciouscourier/model/EndpointRegisteredPinLaw") hS11 (Nat.le_refl _) X12r hS12r hg12 hZ11 hown11
  obtain ⟨x12, zz12, vs12, rfl, N12q, K12q, S12q⟩ := hQ12
  have K12 : Keep h0 T12.heap [] := K11.trans K12q (fun x hx => nomatch hx)
  have Z12 : n0 ≤ T12.heap.size := Nat.le_trans Z0 K12.1
  have CS12 := own_staK S_CS K12
  have A7_12 := (((((S7q.1.keep K8q).keep K9q).keep K10q).keep K11q).keep K12q)
  have A8_12 := ((((S8q.1.keep K9q).keep K10q).keep K11q).keep K12q)
  have A9_12 := (((S9q.1.keep K10q).keep K11q).keep K12q)
  have A10_12 := ((S10q.1.keep K11q).keep K12q)
  have A11_12 := (S11q.1.keep K12q)
  have A12_12 := S12q.1
  have N12 : Fr n0 L12 := by rw [l12]; exact Fr.app N11 N12q
  obtain ⟨T13, h13, X13, e13, E13, A13, D13, -, st13⟩ := newO X12 hx hZ12 hown12 (wd hw 26 rfl) (wd hw 27 rfl) (wd hw 28 rfl) rfl (g := (mkF m 46 (own_S p1 p2 p3 p4 p5 p6 x7 x8 x9 x10 x11 x12 0 .unset .unset .unset .unset) [])) rfl (hb hby at_46) (by decide) (by decide)
  obtain ⟨b13, g13⟩ : ∃ z, z = T12.heap.size := ⟨_, rfl⟩
  rw [← g13] at A13 D13 st13
  have F_modCount_b13 : Fld Z h13 b13 "java/util/AbstractList" "modCount" "I" (.int (0 : Int32)) := D13 (Or.inl (wd hw 46 rfl)) (ty := .int) (by decide)
  have F_elementData_b13 : Fld Z h13 b13 "java/util/ArrayList" "elementData" "[Ljava/lang/Object;" .null := D13 (Or.inl (wd hw 49 rfl)) (ty := (.array (.object "java/lang/Object"))) (by decide)
  have F_size_b13 : Fld Z h13 b13 "java/util/ArrayList" "size" "I" (.int (0 : Int32)) := D13 (Or.inl (wd hw 96 rfl)) (ty := .int) (by decide)
  have E_b13 := A13
  have g_b13 : n0 ≤ b13 := Nat.le_trans Z0 (Nat.le_trans K12.1 (Nat.le_of_eq g13.symm))
  have sz_b13 : h0.size ≤ b13 := (Nat.le_trans K12.1 (Nat.le_of_eq g13.symm))
  have K13 : Keep h0 h13 [] := K12.ext E13
  obtain ⟨_, _, ⟨T14, L14, k14, n14⟩, -, X14, ⟨Lc14, hQ14, l14, y14, z14⟩, st14⟩ := X13.specialBack hx (y := mN19) rfl hown12 (mvT hZ12 (wd hw 29 rfl)) (mvT hZ12 (wd hw 30 rfl)) (mvT hZ12 (wd hw 31 rfl)) (by decide) (backOf (W := 1) (rm5 l Z a0 hw [] b13 wD (.int (0 : Int32)) .null h13 n0 (Nat.le_trans Z0 K13.1) (own_staK S_D K13) E_b13 F_modCount_b13 F_elementData_b13 F_size_b13 g_b13) hZ12 (wd hw 31 rfl) (wd hw 28 rfl) (by decide) (by decide)) (g := (mkF m 50 (own_S p1 p2 p3 p4 p5 p6 x7 x8 x9 x10 x11 x12 0 .unset .unset .unset .unset) [(.ref b13), (.ref b13)])) rfl (by rw [hml]; rfl) (Steps.refl _) (a := b13) (argsL := []) (rest := [(.ref b13)]) (lenOf pd_0_3 rfl) rfl (by show 2 * 0 + _ ≤ _; exact Nat.le_of_eq rfl) (hb hby at_50) (fun _ _ => ⟨rfl, e13, (by decide : 25 + 0 ≤ _), (by decide : 75 + 0 ≤ _)⟩)
  dsimp only [Pt.U, Pt.locs, Pt.cells, Pt.slots] at X14 l14 y14 z14 st14 hQ14
  obtain rfl : k14 = 25 := y14
  obtain rfl : n14 = 75 := z14
  obtain ⟨rfl, N14q, K14q, E14, M14, D14, F14⟩ := hQ14
  have K14 : Keep h0 T14.heap [] := K13.trans K14q (fun x hx => Or.inr (by cases List.mem_singleton.mp hx; exact sz_b13))
  have Z14 : n0 ≤ T14.heap.size := Nat.le_trans Z0 K14.1
  have AD14 := own_arK A_D K14
  have SD14 := own_staK S_D K14
  have A7_14 := (A7_12.ext E13).keep K14q
  have A8_14 := (A8_12.ext E13).keep K14q
  have A9_14 := (A9_12.ext E13).keep K14q
  have A10_14 := (A10_12.ext E13).keep K14q
  have A11_14 := (A11_12.ext E13).keep K14q
  have A12_14 := (A12_12.ext E13).keep K14q
  have N14 : Fr n0 L14 := by rw [l14]; exact Fr.app N12 N14q
  obtain ⟨_, _, ⟨T15, L15, k15, n15⟩, -, X15, ⟨Lc15, hQ15, l15, y15, z15⟩, st15⟩ := Jvm.LawKit.callS X14 hx (y := mN7) hown12 (mvT hZ12 (wd hw 50 rfl)) (mvT hZ12 (wd hw 51 rfl)) (mvT hZ12 (wd hw 52 rfl)) (mvT hZ12 (wd hw 53 rfl)) (by decide) (backOf (W := 0) (rm8 l Z a0 hw [] (fun h x => own_L0 Z h x) x7 x8 x9 b13 st br T14.heap n0 Z14 (own_staK S_AC K14) (own_staK S_CL K14) (fun h' K => rm10p0 l Z a0 hw [] b13 wEL h' n0 (Nat.le_trans Z14 K.1) (E14.keep K) (F14.keep K nin0) (own_staK (own_staK S_EL K14) K) ((L_EL.keep K14).keep K)) (fun h h' x a S E K => own_L0.keepE (wd hw 55 rfl) S E K)) hZ12 (wd hw 53 rfl) (wd hw 52 rfl) (by decide) (by decide)) (g := (mkF m 110 (own_S p1 p2 p3 p4 p5 p6 x7 x8 x9 x10 x11 x12 0 (vr b13) .unset .unset .unset) [(.ref b13), (.ref x9), (.ref x8), (.ref x7)])) rfl (by rw [hml]; rfl) (argsL := [(.ref x7), (.ref x8), (.ref x9), (.ref b13)]) (rest := []) (lenOf pd_0_4 rfl) rfl (by show 2 * 0 + _ ≤ _; exact Nat.le_of_eq rfl) (hb hby at_110) (fun _ _ => ⟨rfl, rfl, (by decide : 25 + 4 ≤ _), (by decide : 75 + 17 ≤ _)⟩)
  dsimp only [Pt.U, Pt.locs, Pt.cells, Pt.slots] at X15 l15 y15 z15 st15 hQ15
  obtain rfl : k15 = 29 := y15
  obtain rfl : n15 = 92 := z15
  obtain ⟨ep, xl, rfl, N15q, K15q, z15q, EPr, BLr⟩ := hQ15
  have K15 : Keep h0 T15.heap [] := K14.trans K15q (fun x hx => nomatch hx)
  have Z15 : n0 ≤ T15.heap.size := Nat.le_trans Z0 K15.1
  have A7_15 := A7_14.keep K15q
  have A8_15 := A8_14.keep K15q
  have A9_15 := A9_14.keep K15q
  have A10_15 := A10_14.keep K15q
  have A11_15 := A11_14.keep K15q
  have A12_15 := A12_14.keep K15q
  have N15 : Fr n0 L15 := by rw [l15]; exact Fr.app N14 N15q
  obtain ⟨cq16, kq16, q16a, q16b, q16c⟩ := isOf hZ12 rfl (E14.keep K15q)
  obtain ⟨_, _, ⟨T16, L16, k16, n16⟩, -, X16, ⟨Lc16, hQ16, l16, y16, z16⟩, st16⟩ := X15.interfaceBack hx (xi := mN41) (y := mN20) hown12 (mvT hZ12 (wd hw 113 rfl)) (mvT hZ12 (wd hw 114 rfl)) (mvT hZ12 (wd hw 115 rfl)) (mvT hZ12 (wd hw 116 rfl)) (mvT hZ12 (wd hw 117 rfl)) (mvT hZ12 (wd hw 118 rfl)) (mvT hZ12 (wd hw 119 rfl)) (mvT hZ12 (wd hw 120 rfl)) (by decide) (backOf (W := 0) (rm14a l Z a0 hw [] b13 x11 wD cD T15.heap n0 Z15 (D14.keep K15q nin0) (own_arK AD14 K15q) S_Z (own_staK SD14 K15q) (E14.keep K15q) (M14.keep K15q nin0) (F14.keep K15q nin0) g_b13 A11_15) hZ12 (wd hw 121 rfl) (wd hw 28 rfl) (by decide) (by decide)) q16a q16b q16c (g := (mkF m 119 (own_S p1 p2 p3 p4 p5 p6 x7 x8 x9 x10 x11 x12 0 (vr b13) (vr ep) .unset .unset) [(.ref x11), (.ref b13)])) rfl (by rw [hml]; rfl) (Steps.refl _) (argsL := [(.ref x11)]) (rest := []) (lenOf pd_0_9 rfl) rfl (by show 2 * 0 + _ ≤ _; exact Nat.le_of_eq rfl) (hb hby at_119) (fun _ _ => ⟨rfl, rfl, (by decide : 29 + 1 ≤ _), (by decide : 92 + 10 ≤ _)⟩)
  dsimp only [Pt.U, Pt.locs, Pt.cells, Pt.slots] at X16 l16 y16 z16 st16 hQ16
  obtain rfl : k16 = 30 := y16
  obtain rfl : n16 = 102 := z16
  obtain ⟨ad, kd, rfl, N16q, K16q, z16q, LS16⟩ := hQ16
  have K16 : Keep h0 T16.heap [] := K15.trans K16q (fun x hx => Or.inr (by cases List.mem_singleton.mp hx; exact sz_b13))
  have Z16 : n0 ≤ T16.heap.size := Nat.le_trans Z0 K16.1
  have sz_ad : h0.size ≤ ad := Nat.le_trans K15.1 z16q
  have g_ad : n0 ≤ ad := Nat.le_trans Z0 sz_ad
  have A7_16 := A7_15.keep K16q
  have A8_16 := A8_15.keep K16q
  have A9_16 := A9_15.keep K16q
  have A10_16 := A10_15.keep K16q
  have A11_16 := A11_15.keep K16q
  have A12_16 := A12_15.keep K16q
  have qe := ninS (EPr.1.ne (E14.keep K15q) (by decide)) nin0
  obtain ⟨lx, ld, lcl, lF, lA, lS⟩ := own_L0.keepW BLr K16q (ninS (BLr.1.ne (E14.keep K15q) (by decide)) nin0) (fun d cl A => ninS (Ne.symm (ne_arr (E14.keep K15q) (wd hw 27 rfl) A)) nin0)
  obtain ⟨c0, c1, c2, c3, c4, c5, c6, c7, c8, c9⟩ := EPr.keep K16q qe
  have SAC := own_staK S_AC K16
  have SCL := own_staK S_CL K16
  have N16 : Fr n0 L16 := by rw [l16]; exact Fr.app N15 N16q
  obtain ⟨cq17, kq17, q17a, q17b, q17c⟩ := isOf hZ12 rfl c0
  obtain ⟨_, _, ⟨T17, L17, k17, n17⟩, -, X17, ⟨Lc17, hQ17, l17, y17, z17⟩, st17⟩ := X16.virtualBack hx (y := mN5) (z := mN5) hown12 (mvT hZ12 (wd hw 146 rfl)) (mvT hZ12 (wd hw 147 rfl)) (notFace_of_selects (args := #[]) (mvT hZ12 (wd hw 149 rfl))) (mvT hZ12 (wd hw 149 rfl)) (mvT hZ12 (wd hw 148 rfl)) (by decide) (backOf (W := 0) (rm19 l Z a0 hw [] ep xl T16.heap n0 Z16 c4) hZ12 (wd hw 150 rfl) (wd hw 52 rfl) (by decide) (by decide)) q17a q17c (g := (mkF m 127 (own_S p1 p2 p3 p4 p5 p6 x7 x8 x9 x10 x11 x12 0 (vr b13) (vr ep) .unset .unset) [(.ref ep)])) rfl (by rw [hml]; rfl) (Steps.refl _) (argsL := []) (rest := []) (lenOf pd_0_8 rfl) rfl (by show 2 * 0 + _ ≤ _; exact Nat.le_of_eq rfl) (hb hby at_127) (fun _ _ => ⟨rfl, rfl, (by decide : 30 + 0 ≤ _), (by decide : 102 + 0 ≤ _)⟩)
  dsimp only [Pt.U, Pt.locs, Pt.cells, Pt.slots] at X17 l17 y17 z17 st17 hQ17
  obtain rfl : k17 = 30 := y17
  obtain rfl : n17 = 102 := z17
  obtain ⟨rfl, N17q, k17q⟩ := hQ17
  have N17 : Fr n0 L17 := by rw [l17]; exact Fr.app N16 N17q
  obtain ⟨cq18, kq18, q18a, q18b, q18c⟩ := isOf hZ12 k17q lx
  obtain ⟨_, _, ⟨T18, L18, k18, n18⟩, -, X18, ⟨Lc18, hQ18, l18, y18, z18⟩, st18⟩ := X17.interfaceBack hx (xi := mN46) (y := mN40) hown12 (mvT hZ12 (wd hw 151 rfl)) (mvT hZ12 (wd hw 152 rfl)) (mvT hZ12 (wd hw 153 rfl)) (mvT hZ12 (wd hw 154 rfl)) (mvT hZ12 (wd hw 155 rfl)) (mvT hZ12 (wd hw 156 rfl)) (mvT hZ12 (wd hw 157 rfl)) (mvT hZ12 (wd hw 158 rfl)) (by decide) (backOf (W := 0) (rm20 l Z a0 hw [] xl ld lcl (0 : Int32) T16.heap n0 Z16 lF lA lS (by decide)) hZ12 (wd hw 160 rfl) (wd hw 159 rfl) (by decide) (by decide)) q18a q18b q18c (g := (mkF m 139 (own_S p1 p2 p3 p4 p5 p6 x7 x8 x9 x10 x11 x12 0 (vr b13) (vr ep) (vr xl) .unset) [(.ref xl)])) rfl (by rw [hml]; rfl) (Steps.refl _) (argsL := []) (rest := []) (lenOf pd_0_14 rfl) rfl (by show 2 * 0 + _ ≤ _; exact Nat.le_of_eq rfl) (hb hby at_139) (fun _ _ => ⟨rfl, k17q, (by decide : 30 + 0 ≤ _), (by decide : 102 + 0 ≤ _)⟩)
  dsimp only [Pt.U, Pt.locs, Pt.cells, Pt.slots] at X18 l18 y18 z18 st18 hQ18
  obtain rfl : k18 = 30 := y18
  obtain rfl : n18 = 102 := z18
  obtain ⟨rfl, N18q, k18q⟩ := hQ18
  have N18 : Fr n0 L18 := by rw [l18]; exact Fr.app N17 N18q
  obtain ⟨cq19, kq19, q19a, q19b, q19c⟩ := isOf hZ12 k18q c0
  obtain ⟨_, _, ⟨T19, L19, k19, n19⟩, -, X19, ⟨Lc19, hQ19, l19, y19, z19⟩, st19⟩ := X18.virtualBack hx (y := mN6) (z := mN6) hown12 (mvT hZ12 (wd hw 163 rfl)) (mvT hZ12 (wd hw 164 rfl)) (notFace_of_selects (args := #[]) (mvT hZ12 (wd hw 166 rfl))) (mvT hZ12 (wd hw 166 rfl)) (mvT hZ12 (wd hw 165 rfl)) (by decide) (backOf (W := 1) (rm21 l Z a0 hw [] ep x7 T16.heap n0 Z16 c1) hZ12 (wd hw 167 rfl) (wd hw 52 rfl) (by decide) (by decide)) q19a q19c (g := (mkF m 242 (own_S p1 p2 p3 p4 p5 p6 x7 x8 x9 x10 x11 x12 0 (vr b13) (vr ep) (vr xl) (vi 1)) [(.ref ep), (.ref x7)])) rfl (by rw [hml]; rfl) (Steps.refl _) (argsL := []) (rest := [(.ref x7)]) (lenOf pd_0_15 rfl) rfl (by show 2 * 0 + _ ≤ _; exact Nat.le_of_eq rfl) (hb hby at_242) (fun _ _ => ⟨rfl, k18q, (by decide : 30 + 0 ≤ _), (by decide : 102 + 0 ≤ _)⟩)
  dsimp only [Pt.U, Pt.locs, Pt.cells, Pt.slots] at X19 l19 y19 z19 st19 hQ19
  obtain rfl : k19 = 30 := y19
  obtain rfl : n19 = 102 := z19
  obtain ⟨rfl, N19q, k19q⟩ := hQ19
  have N19 : Fr n0 L19 := by rw [l19]; exact Fr.app N18 N19q
  obtain ⟨cq20, kq20, q20a, q20b, q20c⟩ := isOf hZ12 k19q A7_16
  obtain ⟨_, _, ⟨T20, L20, k20, n20⟩, -, X20, ⟨Lc20, hQ20, l20, y20, z20⟩, st20⟩ := X19.virtualBack hx (y := mN16) (z := mN16) hown12 (mvT hZ12 (wd hw 168 rfl)) (mvT hZ12 (wd hw 169 rfl)) (notFace_of_selects (args := #[]) (mvT hZ12 (wd hw 171 rfl))) (mvT hZ12 (wd hw 171 rfl)) (mvT hZ12 (wd hw 170 rfl)) (by decide) (backOf (W := 0) (rm22 l Z a0 hw [] x7 x7 T16.heap n0 Z16 rfl) hZ12 (wd hw 172 rfl) (wd hw 6 rfl) (by decide) (by decide)) q20a q20c (g := (mkF m 245 (own_S p1 p2 p3 p4 p5 p6 x7 x8 x9 x10 x11 x12 0 (vr b13) (vr ep) (vr xl) (vi 1)) [(.ref x7), (.ref x7)])) rfl (by rw [hml]; rfl) (Steps.refl _) (argsL := [(.ref x7)]) (rest := []) (lenOf pd_0_9 rfl) rfl (by show 2 * 0 + _ ≤ _; exact Nat.le_of_eq rfl) (hb hby at_245) (fun _ _ => ⟨rfl, k19q, (by decide : 30 + 0 ≤ _), (by decide : 102 + 0 ≤ _)⟩)
  dsimp only [Pt.U, Pt.locs, Pt.cells, Pt.slots] at X20 l20 y20 z20 st20 hQ20
  obtain rfl : k20 = 30 := y20
  obtain rfl : n20 = 102 := z20
  obtain ⟨rfl, N20q, k20q⟩ := hQ20
  have N20 : Fr n0 L20 := by rw [l20]; exact Fr.app N19 N20q
  obtain ⟨cq21, kq21, q21a, q21b, q21c⟩ := isOf hZ12 k20q c0
  obtain ⟨_, _, ⟨T21, L21, k21, n21⟩, -, X21, ⟨Lc21, hQ21, l21, y21, z21⟩, st21⟩ := X20.virtualBack hx (y := mN9) (z := mN9) hown12 (mvT hZ12 (wd hw 173 rfl)) (mvT hZ12 (wd hw 174 rfl)) (notFace_of_selects (args := #[]) (mvT hZ12 (wd hw 176 rfl))) (mvT hZ12 (wd hw 176 rfl)) (mvT hZ12 (wd hw 175 rfl)) (by decide) (backOf (W := 1) (rm23 l Z a0 hw [] ep x8 T16.heap n0 Z16 c2) hZ12 (wd hw 177 rfl) (wd hw 52 rfl) (by decide) (by decide)) q21a q21c (g := (mkF m 255 (own_S p1 p2 p3 p4 p5 p6 x7 x8 x9 x10 x11 x12 0 (vr b13) (vr ep) (vr xl) (vi 1)) [(.ref ep), (.ref x8)])) rfl (by rw [hml]; rfl) (Steps.refl _) (argsL := []) (rest := [(.ref x8)]) (lenOf pd_0_15 rfl) rfl (by show 2 * 0 + _ ≤ _; exact Nat.le_of_eq rfl) (hb hby at_255) (fun _ _ => ⟨rfl, k20q, (by decide : 30 + 0 ≤ _), (by decide : 102 + 0 ≤ _)⟩)
  dsimp only [Pt.U, Pt.locs, Pt.cells, Pt.slots] at X21 l21 y21 z21 st21 hQ21
  obtain rfl : k21 = 30 := y21
  obtain rfl : n21 = 102 := z21
  obtain ⟨rfl, N21q, k21q⟩ := hQ21
  have N21 : Fr n0 L21 := by rw [l21]; exact Fr.app N20 N21q
  obtain ⟨cq22, kq22, q22a, q22b, q22c⟩ := isOf hZ12 k21q A8_16
  obtain ⟨_, _, ⟨T22, L22, k22, n22⟩, -, X22, ⟨Lc22, hQ22, l22, y22, z22⟩, st22⟩ := X21.virtualBack hx (y := mN16) (z := mN16) hown12 (mvT hZ12 (wd hw 168 rfl)) (mvT hZ12 (wd hw 169 rfl)) (notFace_of_selects (args := #[]) (mvT hZ12 (wd hw 171 rfl))) (mvT hZ12 (wd hw 171 rfl)) (mvT hZ12 (wd hw 170 rfl)) (by decide) (backOf (W := 0) (rm22 l Z a0 hw [] x8 x8 T16.heap n0 Z16 rfl) hZ12 (wd hw 172 rfl) (wd hw 6 rfl) (by decide) (by decide)) q22a q22c (g := (mkF m 258 (own_S p1 p2 p3 p4 p5 p6 x7 x8 x9 x10 x11 x12 0 (vr b13) (vr ep) (vr xl) (vi 1)) [(.ref x8), (.ref x8)])) rfl (by rw [hml]; rfl) (Steps.refl _) (argsL := [(.ref x8)]) (rest := []) (lenOf pd_0_9 rfl) rfl (by show 2 * 0 + _ ≤ _; exact Nat.le_of_eq rfl) (hb hby at_258) (fun _ _ => ⟨rfl, k21q, (by decide : 30 + 0 ≤ _), (by decide : 102 + 0 ≤ _)⟩)
  dsimp only [Pt.U, Pt.locs, Pt.cells, Pt.slots] at X22 l22 y22 z22 st22 hQ22
  obtain rfl : k22 = 30 := y22
  obtain rfl : n22 = 102 := z22
  obtain ⟨rfl, N22q, k22q⟩ := hQ22
  have N22 : Fr n0 L22 := by rw [l22]; exact Fr.app N21 N22q
  obtain ⟨cq23, kq23, q23a, q23b, q23c⟩ := isOf hZ12 k22q c0
  obtain ⟨_, _, ⟨T23, L23, k23, n23⟩, -, X23, ⟨Lc23, hQ23, l23, y23, z23⟩, st23⟩ := X22.virtualBack hx (y := mN10) (z := mN10) hown12 (mvT hZ12 (wd hw 178 rfl)) (mvT hZ12 (wd hw 179 rfl)) (notFace_of_selects (args := #[]) (mvT hZ12 (wd hw 181 rfl))) (mvT hZ12 (wd hw 181 rfl)) (mvT hZ12 (wd hw 180 rfl)) (by decide) (backOf (W := 1) (rm24 l Z a0 hw [] ep x9 T16.heap n0 Z16 c3) hZ12 (wd hw 182 rfl) (wd hw 52 rfl) (by decide) (by decide)) q23a q23c (g := (mkF m 268 (own_S p1 p2 p3 p4 p5 p6 x7 x8 x9 x10 x11 x12 0 (vr b13) (vr ep) (vr xl) (vi 1)) [(.ref ep), (.ref x9)])) rfl (by rw [hml]; rfl) (Steps.refl _) (argsL := []) (rest := [(.ref x9)]) (lenOf pd_0_15 rfl) rfl (by show 2 * 0 + _ ≤ _; exact Nat.le_of_eq rfl) (hb hby at_268) (fun _ _ => ⟨rfl, k22q, (by decide : 30 + 0 ≤ _), (by decide : 102 + 0 ≤ _)⟩)
  dsimp only [Pt.U, Pt.locs, Pt.cells, Pt.slots] at X23 l23 y23 z23 st23 hQ23
  obtain rfl : k23 = 30 := y23
  obtain rfl : n23 = 102 := z23
  obtain ⟨rfl, N23q, k23q⟩ := hQ23
  have N23 : Fr n0 L23 := by rw [l23]; exact Fr.app N22 N23q
  obtain ⟨cq24, kq24, q24a, q24b, q24c⟩ := isOf hZ12 k23q A9_16
  obtain ⟨_, _, ⟨T24, L24, k24, n24⟩, -, X24, ⟨Lc24, hQ24, l24, y24, z24⟩, st24⟩ := X23.virtualBack hx (y := mN16) (z := mN16) hown12 (mvT hZ12 (wd hw 168 rfl)) (mvT hZ12 (wd hw 169 rfl)) (notFace_of_selects (args := #[]) (mvT hZ12 (wd hw 171 rfl))) (mvT hZ12 (wd hw 171 rfl)) (mvT hZ12 (wd hw 170 rfl)) (by decide) (backOf (W := 0) (rm22 l Z a0 hw [] x9 x9 T16.heap n0 Z16 rfl) hZ12 (wd hw 172 rfl) (wd hw 6 rfl) (by decide) (by decide)) q24a q24c (g := (mkF m 271 (own_S p1 p2 p3 p4 p5 p6 x7 x8 x9 x10 x11 x12 0 (vr b13) (vr ep) (vr xl) (vi 1)) [(.ref x9), (.ref x9)])) rfl (by rw [hml]; rfl) (Steps.refl _) (argsL := [(.ref x9)]) (rest := []) (lenOf pd_0_9 rfl) rfl (by show 2 * 0 + _ ≤ _; exact Nat.le_of_eq rfl) (hb hby at_271) (fun _ _ => ⟨rfl, k23q, (by decide : 30 + 0 ≤ _), (by decide : 102 + 0 ≤ _)⟩)
  dsimp only [Pt.U, Pt.locs, Pt.cells, Pt.slots] at X24 l24 y24 z24 st24 hQ24
  obtain rfl : k24 = 30 := y24
  obtain rfl : n24 = 102 := z24
  obtain ⟨rfl, N24q, k24q⟩ := hQ24
  have N24 : Fr n0 L24 := by rw [l24]; exact Fr.app N23 N24q
  obtain ⟨cq25, kq25, q25a, q25b, q25c⟩ := isOf hZ12 k24q c0
  obtain ⟨_, _, ⟨T25, L25, k25, n25⟩, -, X25, ⟨Lc25, hQ25, l25, y25, z25⟩, st25⟩ := X24.virtualBack hx (y := mN8) (z := mN8) hown12 (mvT hZ12 (wd hw 183 rfl)) (mvT hZ12 (wd hw 184 rfl)) (notFace_of_selects (args := #[]) (mvT hZ12 (wd hw 186 rfl))) (mvT hZ12 (wd hw 186 rfl)) (mvT hZ12 (wd hw 185 rfl)) (by decide) (backOf (W := 0) (rm25 l Z a0 hw [] ep st T16.heap n0 Z16 c5) hZ12 (wd hw 187 rfl) (wd hw 52 rfl) (by decide) (by decide)) q25a q25c (g := (mkF m 291 (own_S p1 p2 p3 p4 p5 p6 x7 x8 x9 x10 x11 x12 0 (vr b13) (vr ep) (vr xl) (vi 1)) [(.ref ep)])) rfl (by rw [hml]; rfl) (Steps.refl _) (argsL := []) (rest := []) (lenOf pd_0_16 rfl) rfl (by show 2 * 0 + _ ≤ _; exact Nat.le_of_eq rfl) (hb hby at_291) (fun _ _ => ⟨rfl, k24q, (by decide : 30 + 0 ≤ _), (by decide : 102 + 0 ≤ _)⟩)
  dsimp only [Pt.U, Pt.locs, Pt.cells, Pt.slots] at X25 l25 y25 z25 st25 hQ25
  obtain rfl : k25 = 30 := y25
  obtain rfl : n25 = 102 := z25
  obtain ⟨rfl, N25q, k25q⟩ := hQ25
  have N25 : Fr n0 L25 := by rw [l25]; exact Fr.app N24 N25q
  obtain ⟨T27, X27, e27, st27⟩ := getS2 X25 hx hZ12 hown12 (host := "") (Or.inl (wd hw 188 rfl)) Via.refl k25q SAC (g := (mkF m 294 (own_S p1 p2 p3 p4 p5 p6 x7 x8 x9 x10 x11 x12 0 (vr b13) (vr ep) (vr xl) (vi 1)) [(.ref st)])) rfl (hb hby at_294)
  obtain ⟨cq28, kq28, q28a, q28b, q28c⟩ := isOf hZ12 e27 c0
  obtain ⟨_, _, ⟨T28, L28, k28, n28⟩, -, X28, ⟨Lc28, hQ28, l28, y28, z28⟩, st28⟩ := X27.virtualBack hx (y := mN4) (z := mN4) hown12 (mvT hZ12 (wd hw 189 rfl)) (mvT hZ12 (wd hw 190 rfl)) (notFace_of_selects (args := #[]) (mvT hZ12 (wd hw 192 rfl))) (mvT hZ12 (wd hw 192 rfl)) (mvT hZ12 (wd hw 191 rfl)) (by decide) (backOf (W := 0) (rm26 l Z a0 hw [] ep ep T16.heap n0 Z16 c6) hZ12 (wd hw 193 rfl) (wd hw 52 rfl) (by decide) (by decide)) q28a q28c (g := (mkF m 314 (own_S p1 p2 p3 p4 p5 p6 x7 x8 x9 x10 x11 x12 0 (vr b13) (vr ep) (vr xl) (vi 1)) [(.ref ep)])) rfl (by rw [hml]; rfl) (Steps.refl _) (argsL := []) (rest := []) (lenOf pd_0_17 rfl) rfl (by show 2 * 0 + _ ≤ _; exact Nat.le_of_eq rfl) (hb hby at_314) (fun _ _ => ⟨rfl, e27, (by decide : 30 + 0 ≤ _), (by decide : 102 + 0 ≤ _)⟩)
  dsimp only [Pt.U, Pt.locs, Pt.cells, Pt.slots] at X28 l28 y28 z28 st28 hQ28
  obtain rfl : k28 = 30 := y28
  obtain rfl : n28 = 102 := z28
  obtain ⟨rfl, N28q, k28q⟩ := hQ28
  have N28 : Fr n0 L28 := by rw [l28]; exact Fr.app N25 N28q
  obtain ⟨cq29, kq29, q29a, q29b, q29c⟩ := isOf hZ12 k28q c0
  obtain ⟨_, _, ⟨T29, L29, k29, n29⟩, -, X29, ⟨Lc29, hQ29, l29, y29, z29⟩, st29⟩ := X28.virtualBack hx (y := mN3) (z := mN3) hown12 (mvT hZ12 (wd hw 194 rfl)) (mvT hZ12 (wd hw 195 rfl)) (notFace_of_selects (args := #[]) (mvT hZ12 (wd hw 197 rfl))) (mvT hZ12 (wd hw 197 rfl)) (mvT hZ12 (wd hw 196 rfl)) (by decide) (backOf (W := 0) (rm27 l Z a0 hw [] ep ep T16.heap n0 Z16 c7) hZ12 (wd hw 198 rfl) (wd hw 52 rfl) (by decide) (by decide)) q29a q29c (g := (mkF m 334 (own_S p1 p2 p3 p4 p5 p6 x7 x8 x9 x10 x11 x12 0 (vr b13) (vr ep) (vr xl) (vi 1)) [(.ref ep)])) rfl (by rw [hml]; rfl) (Steps.refl _) (argsL := []) (rest := []) (lenOf pd_0_18 rfl) rfl (by show 2 * 0 + _ ≤ _; exact Nat.le_of_eq rfl) (hb hby at_334) (fun _ _ => ⟨rfl, k28q, (by decide : 30 + 0 ≤ _), (by decide : 102 + 0 ≤ _)⟩)
  dsimp only [Pt.U, Pt.locs, Pt.cells, Pt.slots] at X29 l29 y29 z29 st29 hQ29
  obtain rfl : k29 = 30 := y29
  obtain rfl : n29 = 102 := z29
  obtain ⟨rfl, N29q, k29q⟩ := hQ29
  have N29 : Fr n0 L29 := by rw [l29]; exact Fr.app N28 N29q
  obtain ⟨cq30, kq30, q30a, q30b, q30c⟩ := isOf hZ12 k29q c0
  obtain ⟨_, _, ⟨T30, L30, k30, n30⟩, -, X30, ⟨Lc30, hQ30, l30, y30, z30⟩, st30⟩ := X29.virtualBack hx (y := mN1) (z := mN1) hown12 (mvT hZ12 (wd hw 199 rfl)) (mvT hZ12 (wd hw 200 rfl)) (notFace_of_selects (args := #[]) (mvT hZ12 (wd hw 202 rfl))) (mvT hZ12 (wd hw 202 rfl)) (mvT hZ12 (wd hw 201 rfl)) (by decide) (backOf (W := 0) (rm28 l Z a0 hw [] ep br T16.heap n0 Z16 c8) hZ12 (wd hw 203 rfl) (wd hw 52 rfl) (by decide) (by decide)) q30a q30c (g := (mkF m 354 (own_S p1 p2 p3 p4 p5 p6 x7 x8 x9 x10 x11 x12 0 (vr b13) (vr ep) (vr xl) (vi 1)) [(.ref ep)])) rfl (by rw [hml]; rfl) (Steps.refl _) (argsL := []) (rest := []) (lenOf pd_0_19 rfl) rfl (by show 2 * 0 + _ ≤ _; exact Nat.le_of_eq rfl) (hb hby at_354) (fun _ _ => ⟨rfl, k29q, (by decide : 30 + 0 ≤ _), (by decide : 102 + 0 ≤ _)⟩)
  dsimp only [Pt.U, Pt.locs, Pt.cells, Pt.slots] at X30 l30 y30 z30 st30 hQ30
  obtain rfl : k30 = 30 := y30
  obtain rfl : n30 = 102 := z30
  obtain ⟨rfl, N30q, k30q⟩ := hQ30
  have N30 : Fr n0 L30 := by rw [l30]; exact Fr.app N29 N30q
  obtain ⟨T32, X32, e32, st32⟩ := getS2 X30 hx hZ12 hown12 (host := "") (Or.inl (wd hw 204 rfl)) Via.refl k30q SCL (g := (mkF m 357 (own_S p1 p2 p3 p4 p5 p6 x7 x8 x9 x10 x11 x12 0 (vr b13) (vr ep) (vr xl) (vi 1)) [(.ref br)])) rfl (hb hby at_357)
  obtain ⟨cq33, kq33, q33a, q33b, q33c⟩ := isOf hZ12 e32 c0
  obtain ⟨_, _, ⟨T33, L33, k33, n33⟩, -, X33, ⟨Lc33, hQ33, l33, y33, z33⟩, st33⟩ := X32.virtualBack hx (y := mN2) (z := mN2) hown12 (mvT hZ12 (wd hw 205 rfl)) (mvT hZ12 (wd hw 206 rfl)) (notFace_of_selects (args := #[]) (mvT hZ12 (wd hw 208 rfl))) (mvT hZ12 (wd hw 208 rfl)) (mvT hZ12 (wd hw 207 rfl)) (by decide) (backOf (W := 0) (rm29 l Z a0 hw [] ep (0 : Int32) T16.heap n0 Z16 c9) hZ12 (wd hw 209 rfl) (wd hw 52 rfl) (by decide) (by decide)) q33a q33c (g := (mkF m 377 (own_S p1 p2 p3 p4 p5 p6 x7 x8 x9 x10 x11 x12 0 (vr b13) (vr ep) (vr xl) (vi 1)) [(.ref ep)])) rfl (by rw [hml]; rfl) (Steps.refl _) (argsL := []) (rest := []) (lenOf pd_0_14 rfl) rfl (by show 2 * 0 + _ ≤ _; exact Nat.le_of_eq rfl) (hb hby at_377) (fun _ _ => ⟨rfl, e32, (by decide : 30 + 0 ≤ _), (by decide : 102 + 0 ≤ _)⟩)
  dsimp only [Pt.U, Pt.locs, Pt.cells, Pt.slots] at X33 l33 y33 z33 st33 hQ33
  obtain rfl : k33 = 30 := y33
  obtain rfl : n33 = 102 := z33
  obtain ⟨rfl, N33q, k33q⟩ := hQ33
  have N33 : Fr n0 L33 := by rw [l33]; exact Fr.app N30 N33q
  obtain ⟨fs, hr, hrun, hended, hEnd⟩ := X33.leaveW hS12 (by rw [k33q]; exact (Nat.le_trans E13.1 (Nat.le_trans K14q.1 (Nat.le_trans K15q.1 K16q.1)))) (v := some (.int (1 : Int32))) (fun h => by rw [Bd.returns] at h; cases h)
  refine ⟨_, _, pre0 _ ?_, hrun, hended, _, _, rfl, ?_, own_monoW hEnd (by decide) (by decide)⟩
  · show Steps p.tables e below (s₁.setTop (mkF m 0 #[.val (.int p1), .val (.int p2), .val (.int p3), .val (.int p4), .val (.int p5), .val (.int p6), .unset, .unset, .unset, .unset, .unset, .unset, .unset, .unset, .unset, .unset, .unset] [])) _
    refine XS.iloadN X0.here hx rfl (hb hby at_0) rfl ?_
    show Steps p.tables e below (s₁.setTop (mkF m 1 #[.val (.int p1), .val (.int p2), .val (.int p3), .val (.int p4), .val (.int p5), .val (.int p6), .unset, .unset, .unset, .unset, .unset, .unset, .unset, .unset, .unset, .unset, .unset] [(.int p1)])) _
    refine st7.trans ?_
    show Steps p.tables e below (T7.setTop (mkF m 4 #[.val (.int p1), .val (.int p2), .val (.int p3), .val (.int p4), .val (.int p5), .val (.int p6), .unset, .unset, .unset, .unset, .unset, .unset, .unset, .unset, .unset, .unset, .unset] [(.ref x7)])) _
    refine XS.astore X7.here hx rfl (hb hby at_4) rfl rfl (l' := #[.val (.int p1), .val (.int p2), .val (.int p3), .val (.int p4), .val (.int p5), .val (.int p6), .val (.ref x7), .unset, .unset, .unset, .unset, .unset, .unset, .unset, .unset, .unset, .unset]) rfl ?_
    refine XS.iloadN X7.here hx rfl (hb hby at_6) rfl ?_
    show Steps p.tables e below (T7.setTop (mkF m 7 #[.val (.int p1), .val (.int p2), .val (.int p3), .val (.int p4), .val (.int p5), .val (.int p6), .val (.ref x7), .unset, .unset, .unset, .unset, .unset, .unset, .unset, .unset, .unset, .unset] [(.int p2)])) _
    refine st8.trans ?_
    show Steps p.tables e below (T8.setTop (mkF m 10 #[.val (.int p1), .val (.int p2), .val (.int p3), .val (.int p4), .val (.int p5), .val (.int p6), .val (.ref x7), .unset, .unset, .unset, .unset, .unset, .unset, .unset, .unset, .unset, .unset] [(.ref x8)])) _
    refine XS.astore X8.here hx rfl (hb hby at_10) rfl rfl (l' := #[.val (.int p1), .val (.int p2), .val (.int p3), .val (.int p4), .val (.int p5), .val (.int p6), .val (.ref x7), .val (.ref x8), .unset, .unset, .unset, .unset, .unset, .unset, .unset, .unset, .unset]) rfl ?_
    refine XS.iloadN X8.here hx rfl (hb hby at_12) rfl ?_
    show Steps p.tables e below (T8.setTop (mkF m 13 #[.val (.int p1), .val (.int p2), .val (.int p3), .val (.int p4), .val (.int p5), .val (.int p6), .val (.ref x7), .val (.ref x8), .unset, .unset, .unset, .unset, .unset, .unset, .unset, .unset, .unset] [(.int p3)])) _
    refine st9.trans ?_
    show Steps p.tables e below (T9.setTop (mkF m 16 #[.val (.int p1), .val (.int p2), .val (.int p3), .val (.int p4), .val (.int p5), .val (.int p6), .val (.ref x7), .val (.ref x8), .unset, .unset, .unset, .unset, .unset, .unset, .unset, .unset, .unset] [(.ref x9)])) _
    refine XS.astore X9.here hx rfl (hb hby at_16) rfl rfl (l' := #[.val (.int p1), .val (.int p2), .val (.int p3), .val (.int p4), .val (.int p5), .val (.int p6), .val (.ref x7), .val (.ref x8), .val (.ref x9), .unset, .unset, .unset, .unset, .unset, .unset, .unset, .unset]) rfl ?_
    refine XS.iloadN X9.here hx rfl (hb hby at_18) rfl ?_
    show Steps p.tables e below (T9.setTop (mkF m 19 #[.val (.int p1), .val (.int p2), .val (.int p3), .val (.int p4), .val (.int p5), .val (.int p6), .val (.ref x7), .val (.ref x8), .val (.ref x9), .unset, .unset, .unset, .unset, .unset, .unset, .unset, .unset] [(.int p4)])) _
    refine st10.trans ?_
    show Steps p.tables e below (T10.setTop (mkF m 22 #[.val (.int p1), .val (.int p2), .val (.int p3), .val (.int p4), .val (.int p5), .val (.int p6), .val (.ref x7), .val (.ref x8), .val (.ref x9), .unset, .unset, .unset, .unset, .unset, .unset, .unset, .unset] [(.ref x10)])) _
    refine XS.astore X10.here hx rfl (hb hby at_22) rfl rfl (l' := #[.val (.int p1), .val (.int p2), .val (.int p3), .val (.int p4), .val (.int p5), .val (.int p6), .val (.ref x7), .val (.ref x8), .val (.ref x9), .val (.ref x10), .unset, .unset, .unset, .unset, .unset, .unset, .unset]) rfl ?_
    refine XS.iload X10.here hx rfl (hb hby at_24) rfl ?_
    show Steps p.tables e below (T10.setTop (mkF m 26 #[.val (.int p1), .val (.int p2), .val (.int p3), .val (.int p4), .val (.int p5), .val (.int p6), .val (.ref x7), .val (.ref x8), .val (.ref x9), .val (.ref x10), .unset, .unset, .unset, .unset, .unset, .unset, .unset] [(.int p5)])) _
    refine st11.trans ?_
    show Steps p.tables e below (T11.setTop (mkF m 29 #[.val (.int p1), .val (.int p2), .val (.int p3), .val (.int p4), .val (.int p5), .val (.int p6), .val (.ref x7), .val (.ref x8), .val (.ref x9), .val (.ref x10), .unset, .unset, .unset, .unset, .unset, .unset, .unset] [(.ref x11)])) _
    refine XS.astore X11.here hx rfl (hb hby at_29) rfl rfl (l' := #[.val (.int p1), .val (.int p2), .val (.int p3), .val (.int p4), .val (.int p5), .val (.int p6), .val (.ref x7), .val (.ref x8), .val (.ref x9), .val (.ref x10), .val (.ref x11), .unset, .unset, .unset, .unset, .unset, .unset]) rfl ?_
    refine XS.iload X11.here hx rfl (hb hby at_31) rfl ?_
    show Steps p.tables e below (T11.setTop (mkF m 33 #[.val (.int p1), .val (.int p2), .val (.int p3), .val (.int p4), .val (.int p5), .val (.int p6), .val (.ref x7), .val (.ref x8), .val (.ref x9), .val (.ref x10), .val (.ref x11), .unset, .unset, .unset, .unset, .unset, .unset] [(.int p6)])) _
    refine st12.trans ?_
    show Steps p.tables e below (T12.setTop (mkF m 36 #[.val (.int p1), .val (.int p2), .val (.int p3), .val (.int p4), .val (.int p5), .val (.int p6), .val (.ref x7), .val (.ref x8), .val (.ref x9), .val (.ref x10), .val (.ref x11), .unset, .unset, .unset, .unset, .unset, .unset] [(.ref x12)])) _
    refine XS.astore X12.here hx rfl (hb hby at_36) rfl rfl (l' := #[.val (.int p1), .val (.int p2), .val (.int p3), .val (.int p4), .val (.int p5), .val (.int p6), .val (.ref x7), .val (.ref x8), .val (.ref x9), .val (.ref x10), .val (.ref x11), .val (.ref x12), .unset, .unset, .unset, .unset, .unset]) rfl ?_
    refine XS.iloadN X12.here hx rfl (hb hby at_38) rfl ?_
    show Steps p.tables e below (T12.setTop (mkF m 39 #[.val (.int p1), .val (.int p2), .val (.int p3), .val (.int p4), .val (.int p5), .val (.int p6), .val (.ref x7), .val (.ref x8), .val (.ref x9), .val (.ref x10), .val (.ref x11), .val (.ref x12), .unset, .unset, .unset, .unset, .unset] [(.int p4)])) _
    refine XS.bipush X12.here hx rfl (hb hby at_39) ?_
    refine XS.iushr X12.here hx rfl (hb hby at_41) rfl ?_
    show Steps p.tables e below (T12.setTop (mkF m 42 #[.val (.int p1), .val (.int p2), .val (.int p3), .val (.int p4), .val (.int p5), .val (.int p6), .val (.ref x7), .val (.ref x8), .val (.ref x9), .val (.ref x10), .val (.ref x11), .val (.ref x12), .unset, .unset, .unset, .unset, .unset] [(.int ((p4.toUInt32 >>> ((24 : Int32) &&& 31).toUInt32).toInt32))])) _
    refine XS.iconst X12.here hx rfl (hb hby at_42) ?_
    refine XS.iand X12.here hx rfl (hb hby at_43) rfl ?_
    show Steps p.tables e below (T12.setTop (mkF m 44 #[.val (.int p1), .val (.int p2), .val (.int p3), .val (.int p4), .val (.int p5), .val (.int p6), .val (.ref x7), .val (.ref x8), .val (.ref x9), .val (.ref x10), .val (.ref x11), .val (.ref x12), .unset, .unset, .unset, .unset, .unset] [(.int (((p4.toUInt32 >>> ((24 : Int32) &&& 31).toUInt32).toInt32) &&& (3 : Int32)))])) _
    rw [hn]
    show Steps p.tables e below (T12.setTop (mkF m 44 #[.val (.int p1), .val (.int p2), .val (.int p3), .val (.int p4), .val (.int p5), .val (.int p6), .val (.ref x7), .val (.ref x8), .val (.ref x9), .val (.ref x10), .val (.ref x11), .val (.ref x12), .unset, .unset, .unset, .unset, .unset] [(.int (0 : Int32))])) _
    refine XS.istore X12.here hx rfl (hb hby at_44) rfl (l' := (own_S p1 p2 p3 p4 p5 p6 x7 x8 x9 x10 x11 x12 0 .unset .unset .unset .unset)) rfl ?_
    show Steps p.tables e below (T12.setTop (mkF m 46 (own_S p1 p2 p3 p4 p5 p6 x7 x8 x9 x10 x11 x12 0 .unset .unset .unset .unset) [])) _
    refine st13 _ ?_
    show Steps p.tables e below (T13.setTop (mkF m 49 (own_S p1 p2 p3 p4 p5 p6 x7 x8 x9 x10 x11 x12 0 .unset .unset .unset .unset) [(.ref b13)])) _
    refine XS.dup X13.here hx rfl (hb hby at_49) rfl rfl ?_
    show Steps p.tables e below (T13.setTop (mkF m 50 (own_S p1 p2 p3 p4 p5 p6 x7 x8 x9 x10 x11 x12 0 .unset .unset .unset .unset) [(.ref b13), (.ref b13)])) _
    refine st14.trans ?_
    show Steps p.tables e below (T14.setTop (mkF m 53 (own_S p1 p2 p3 p4 p5 p6 x7 x8 x9 x10 x11 x12 0 .unset .unset .unset .unset) [(.ref b13)])) _
    refine XS.astore X14.here hx rfl (hb hby at_53) rfl rfl (l' := (own_S p1 p2 p3 p4 p5 p6 x7 x8 x9 x10 x11 x12 0 (vr b13) .unset .unset .unset)) rfl ?_
    refine XS.iload X14.here hx rfl (hb hby at_55) rfl ?_
    show Steps p.tables e below (T14.setTop (mkF m 57 (own_S p1 p2 p3 p4 p5 p6 x7 x8 x9 x10 x11 x12 0 (vr b13) .unset .unset .unset) [(.int (0 : Int32))])) _
    refine XS.ifYes X14.here hx rfl (pc0 := 57) (pc' := 70) rfl (hb hby at_57) rfl ((if0 _ _).trans (flt (by decide : ¬ ((0 : Int32) < (0 : Int32)))).2.2.2) (by decide) (by decide) ?_
    refine XS.iload X14.here hx rfl (hb hby at_70) rfl ?_
    show Steps p.tables e below (T14.setTop (mkF m 72 (own_S p1 p2 p3 p4 p5 p6 x7 x8 x9 x10 x11 x12 0 (vr b13) .unset .unset .unset) [(.int (0 : Int32))])) _
    refine XS.iconst X14.here hx rfl (hb hby at_72) ?_
    refine XS.icmpYes X14.here hx rfl (pc0 := 73) (pc' := 86) rfl (hb hby at_73) rfl (flt (by decide : ¬ ((1 : Int32) < (0 : Int32)))).2.2.2 (by decide) (by decide) ?_
    show Steps p.tables e below (T14.setTop (mkF m 86 (own_S p1 p2 p3 p4 p5 p6 x7 x8 x9 x10 x11 x12 0 (vr b13) .unset .unset .unset) [])) _
    refine XS.iload X14.here hx rfl (hb hby at_86) rfl ?_
    refine XS.iconst X14.here hx rfl (hb hby at_88) ?_
    show Steps p.tables e below (T14.setTop (mkF m 89 (own_S p1 p2 p3 p4 p5 p6 x7 x8 x9 x10 x11 x12 0 (vr b13) .unset .unset .unset) [(.int (2 : Int32)), (.int (0 : Int32))])) _
    refine XS.icmpYes X14.here hx rfl (pc0 := 89) (pc' := 102) rfl (hb hby at_89) rfl (flt (by decide : ¬ ((2 : Int32) < (0 : Int32)))).2.2.2 (by decide) (by decide) ?_
    refine XS.aload X14.here hx rfl (hb hby at_102) rfl rfl ?_
    show Steps p.tables e below (T14.setTop (mkF m 104 (own_S p1 p2 p3 p4 p5 p6 x7 x8 x9 x10 x11 x12 0 (vr b13) .unset .unset .unset) [(.ref x7)])) _
    refine XS.aload X14.here hx rfl (hb hby at_104) rfl rfl ?_
    refine XS.aload X14.here hx rfl (hb hby at_106) rfl rfl ?_
    show Steps p.tables e below (T14.setTop (mkF m 108 (own_S p1 p2 p3 p4 p5 p6 x7 x8 x9 x10 x11 x12 0 (vr b13) .unset .unset .unset) [(.ref x9), (.ref x8), (.ref x7)])) _
    refine XS.aload X14.here hx rfl (hb hby at_108) rfl rfl ?_
    show Steps p.tables e below (T14.setTop (mkF m 110 (own_S p1 p2 p3 p4 p5 p6 x7 x8 x9 x10 x11 x12 0 (vr b13) .unset .unset .unset) [(.ref b13), (.ref x9), (.ref x8), (.ref x7)])) _
    refine st15 _ ?_
    show Steps p.tables e below (T15.setTop (mkF m 113 (own_S p1 p2 p3 p4 p5 p6 x7 x8 x9 x10 x11 x12 0 (vr b13) .unset .unset .unset) [(.ref ep)])) _
    refine XS.astore X15.here hx rfl (hb hby at_113) rfl rfl (l' := (own_S p1 p2 p3 p4 p5 p6 x7 x8 x9 x10 x11 x12 0 (vr b13) (vr ep) .unset .unset)) rfl ?_
    refine XS.aload X15.here hx rfl (hb hby at_115) rfl rfl ?_
    show Steps p.tables e below (T15.setTop (mkF m 117 (own_S p1 p2 p3 p4 p5 p6 x7 x8 x9 x10 x11 x12 0 (vr b13) (vr ep) .unset .unset) [(.ref b13)])) _
    refine XS.aload X15.here hx rfl (hb hby at_117) rfl rfl ?_
    show Steps p.tables e below (T15.setTop (mkF m 119 (own_S p1 p2 p3 p4 p5 p6 x7 x8 x9 x10 x11 x12 0 (vr b13) (vr ep) .unset .unset) [(.ref x11), (.ref b13)])) _
    refine st16.trans ?_
    show Steps p.tables e below (T16.setTop (mkF m 124 (own_S p1 p2 p3 p4 p5 p6 x7 x8 x9 x10 x11 x12 0 (vr b13) (vr ep) .unset .unset) [(.int (1 : Int32))])) _
    refine XS.pop X16.here hx rfl (hb hby at_124) rfl rfl ?_
    refine XS.aload X16.here hx rfl (hb hby at_125) rfl rfl ?_
    show Steps p.tables e below (T16.setTop (mkF m 127 (own_S p1 p2 p3 p4 p5 p6 x7 x8 x9 x10 x11 x12 0 (vr b13) (vr ep) .unset .unset) [(.ref ep)])) _
    refine st17.trans ?_
    show Steps p.tables e below (T17.setTop (mkF m 130 (own_S p1 p2 p3 p4 p5 p6 x7 x8 x9 x10 x11 x12 0 (vr b13) (vr ep) .unset .unset) [(.ref xl)])) _
    refine XS.astore X17.here hx rfl (hb hby at_130) rfl rfl (l' := (own_S p1 p2 p3 p4 p5 p6 x7 x8 x9 x10 x11 x12 0 (vr b13) (vr ep) (vr xl) .unset)) rfl ?_
    refine XS.aload X17.here hx rfl (hb hby at_132) rfl rfl ?_
    show Steps p.tables e below (T17.setTop (mkF m 134 (own_S p1 p2 p3 p4 p5 p6 x7 x8 x9 x10 x11 x12 0 (vr b13) (vr ep) (vr xl) .unset) [(.ref xl)])) _
    refine XS.ifnullNo X17.here hx rfl (hb hby at_134) rfl ?_
    refine XS.aload X17.here hx rfl (hb hby at_137) rfl rfl ?_
    show Steps p.tables e below (T17.setTop (mkF m 139 (own_S p1 p2 p3 p4 p5 p6 x7 x8 x9 x10 x11 x12 0 (vr b13) (vr ep) (vr xl) .unset) [(.ref xl)])) _
    refine st18.trans ?_
    show Steps p.tables e below (T18.setTop (mkF m 144 (own_S p1 p2 p3 p4 p5 p6 x7 x8 x9 x10 x11 x12 0 (vr b13) (vr ep) (vr xl) .unset) [(.int (0 : Int32))])) _
    refine XS.iload X18.here hx rfl (hb hby at_144) rfl ?_
    refine XS.icmpNo X18.here hx rfl (hb hby at_146) rfl (teq (by decide : (0 : Int32) = (0 : Int32))).2 ?_
    show Steps p.tables e below (T18.setTop (mkF m 149 (own_S p1 p2 p3 p4 p5 p6 x7 x8 x9 x10 x11 x12 0 (vr b13) (vr ep) (vr xl) .unset) [])) _
    refine XS.iconst X18.here hx rfl (hb hby at_149) ?_
    refine XS.goto X18.here hx rfl (pc0 := 150) (pc' := 154) rfl (hb hby at_150) (by decide) (by decide) ?_
    show Steps p.tables e below (T18.setTop (mkF m 154 (own_S p1 p2 p3 p4 p5 p6 x7 x8 x9 x10 x11 x12 0 (vr b13) (vr ep) (vr xl) .unset) [(.int (1 : Int32))])) _
    refine XS.istore X18.here hx rfl (hb hby at_154) rfl (l' := (own_S p1 p2 p3 p4 p5 p6 x7 x8 x9 x10 x11 x12 0 (vr b13) (vr ep) (vr xl) (vi 1))) rfl ?_
    refine XS.iload X18.here hx rfl (hb hby at_156) rfl ?_
    show Steps p.tables e below (T18.setTop (mkF m 158 (own_S p1 p2 p3 p4 p5 p6 x7 x8 x9 x10 x11 x12 0 (vr b13) (vr ep) (vr xl) (vi 1)) [(.int (1 : Int32))])) _
    refine XS.ifNo X18.here hx rfl (hb hby at_158) rfl ((if0 _ _).trans (feq (by decide : ¬ ((1 : Int32) = (0 : Int32)))).1) ?_
    refine XS.iload X18.here hx rfl (hb hby at_161) rfl ?_
    show Steps p.tables e below (T18.setTop (mkF m 163 (own_S p1 p2 p3 p4 p5 p6 x7 x8 x9 x10 x11 x12 0 (vr b13) (vr ep) (vr xl) (vi 1)) [(.int (0 : Int32))])) _
    refine XS.ifYes X18.here hx rfl (pc0 := 163) (pc' := 181) rfl (hb hby at_163) rfl ((if0 _ _).trans (flt (by decide : ¬ ((0 : Int32) < (0 : Int32)))).2.2.2) (by decide) (by decide) ?_
    refine XS.iload X18.here hx rfl (hb hby at_181) rfl ?_
    show Steps p.tables e below (T18.setTop (mkF m 183 (own_S p1 p2 p3 p4 p5 p6 x7 x8 x9 x10 x11 x12 0 (vr b13) (vr ep) (vr xl) (vi 1)) [(.int (1 : Int32))])) _
    refine XS.ifNo X18.here hx rfl (hb hby at_183) rfl ((if0 _ _).trans (feq (by decide : ¬ ((1 : Int32) = (0 : Int32)))).1) ?_
    refine XS.iload X18.here hx rfl (hb hby at_186) rfl ?_
    show Steps p.tables e below (T18.setTop (mkF m 188 (own_S p1 p2 p3 p4 p5 p6 x7 x8 x9 x10 x11 x12 0 (vr b13) (vr ep) (vr xl) (vi 1)) [(.int (0 : Int32))])) _
    refine XS.iconst X18.here hx rfl (hb hby at_188) ?_
    refine XS.icmpYes X18.here hx rfl (pc0 := 189) (pc' := 207) rfl (hb hby at_189) rfl (flt (by decide : ¬ ((1 : Int32) < (0 : Int32)))).2.2.2 (by decide) (by decide) ?_
    show Steps p.tables e below (T18.setTop (mkF m 207 (own_S p1 p2 p3 p4 p5 p6 x7 x8 x9 x10 x11 x12 0 (vr b13) (vr ep) (vr xl) (vi 1)) [])) _
    refine XS.iload X18.here hx rfl (hb hby at_207) rfl ?_
    refine XS.ifNo X18.here hx rfl (hb hby at_209) rfl ((if0 _ _).trans (feq (by decide : ¬ ((1 : Int32) = (0 : Int32)))).1) ?_
    show Steps p.tables e below (T18.setTop (mkF m 212 (own_S p1 p2 p3 p4 p5 p6 x7 x8 x9 x10 x11 x12 0 (vr b13) (vr ep) (vr xl) (vi 1)) [])) _
    refine XS.iload X18.here hx rfl (hb hby at_212) rfl ?_
    refine XS.iconst X18.here hx rfl (hb hby at_214) ?_
    show Steps p.tables e below (T18.setTop (mkF m 215 (own_S p1 p2 p3 p4 p5 p6 x7 x8 x9 x10 x11 x12 0 (vr b13) (vr ep) (vr xl) (vi 1)) [(.int (2 : Int32)), (.int (0 : Int32))])) _
    refine XS.icmpYes X18.here hx rfl (pc0 := 215) (pc' := 233) rfl (hb hby at_215) rfl (flt (by decide : ¬ ((2 : Int32) < (0 : Int32)))).2.2.2 (by decide) (by decide) ?_
    refine XS.iload X18.here hx rfl (hb hby at_233) rfl ?_
    show Steps p.tables e below (T18.setTop (mkF m 235 (own_S p1 p2 p3 p4 p5 p6 x7 x8 x9 x10 x11 x12 0 (vr b13) (vr ep) (vr xl) (vi 1)) [(.int (1 : Int32))])) _
    refine XS.ifNo X18.here hx rfl (hb hby at_235) rfl ((if0 _ _).trans (feq (by decide : ¬ ((1 : Int32) = (0 : Int32)))).1) ?_
    refine XS.aload X18.here hx rfl (hb hby at_238) rfl rfl ?_
    show Steps p.tables e below (T18.setTop (mkF m 240 (own_S p1 p2 p3 p4 p5 p6 x7 x8 x9 x10 x11 x12 0 (vr b13) (vr ep) (vr xl) (vi 1)) [(.ref x7)])) _
    refine XS.aload X18.here hx rfl (hb hby at_240) rfl rfl ?_
    show Steps p.tables e below (T18.setTop (mkF m 242 (own_S p1 p2 p3 p4 p5 p6 x7 x8 x9 x10 x11 x12 0 (vr b13) (vr ep) (vr xl) (vi 1)) [(.ref ep), (.ref x7)])) _
    refine st19.trans ?_
    show Steps p.tables e below (T19.setTop (mkF m 245 (own_S p1 p2 p3 p4 p5 p6 x7 x8 x9 x10 x11 x12 0 (vr b13) (vr ep) (vr xl) (vi 1)) [(.ref x7), (.ref x7)])) _
    refine st20.trans ?_
    show Steps p.tables e below (T20.setTop (mkF m 248 (own_S p1 p2 p3 p4 p5 p6 x7 x8 x9 x10 x11 x12 0 (vr b13) (vr ep) (vr xl) (vi 1)) [(.int (1 : Int32))])) _
    refine XS.ifNo X20.here hx rfl (hb hby at_248) rfl ((if0 _ _).trans (feq (by decide : ¬ ((1 : Int32) = (0 : Int32)))).1) ?_
    refine XS.aload X20.here hx rfl (hb hby at_251) rfl rfl ?_
    show Steps p.tables e below (T20.setTop (mkF m 253 (own_S p1 p2 p3 p4 p5 p6 x7 x8 x9 x10 x11 x12 0 (vr b13) (vr ep) (vr xl) (vi 1)) [(.ref x8)])) _
    refine XS.aload X20.here hx rfl (hb hby at_253) rfl rfl ?_
    show Steps p.tables e below (T20.setTop (mkF m 255 (own_S p1 p2 p3 p4 p5 p6 x7 x8 x9 x10 x11 x12 0 (vr b13) (vr ep) (vr xl) (vi 1)) [(.ref ep), (.ref x8)])) _
    refine st21.trans ?_
    show Steps p.tables e below (T21.setTop (mkF m 258 (own_S p1 p2 p3 p4 p5 p6 x7 x8 x9 x10 x11 x12 0 (vr b13) (vr ep) (vr xl) (vi 1)) [(.ref x8), (.ref x8)])) _
    refine st22.trans ?_
    show Steps p.tables e below (T22.setTop (mkF m 261 (own_S p1 p2 p3 p4 p5 p6 x7 x8 x9 x10 x11 x12 0 (vr b13) (vr ep) (vr xl) (vi 1)) [(.int (1 : Int32))])) _
    refine XS.ifNo X22.here hx rfl (hb hby at_261) rfl ((if0 _ _).trans (feq (by decide : ¬ ((1 : Int32) = (0 : Int32)))).1) ?_
    refine XS.aload X22.here hx rfl (hb hby at_264) rfl rfl ?_
    show Steps p.tables e below (T22.setTop (mkF m 266 (own_S p1 p2 p3 p4 p5 p6 x7 x8 x9 x10 x11 x12 0 (vr b13) (vr ep) (vr xl) (vi 1)) [(.ref x9)])) _
    refine XS.aload X22.here hx rfl (hb hby at_266) rfl rfl ?_
    show Steps p.tables e below (T22.setTop (mkF m 268 (own_S p1 p2 p3 p4 p5 p6 x7 x8 x9 x10 x11 x12 0 (vr b13) (vr ep) (vr xl) (vi 1)) [(.ref ep), (.ref x9)])) _
    refine st23.trans ?_
    show Steps p.tables e below (T23.setTop (mkF m 271 (own_S p1 p2 p3 p4 p5 p6 x7 x8 x9 x10 x11 x12 0 (vr b13) (vr ep) (vr xl) (vi 1)) [(.ref x9), (.ref x9)])) _
    refine st24.trans ?_
    show Steps p.tables e below (T24.setTop (mkF m 274 (own_S p1 p2 p3 p4 p5 p6 x7 x8 x9 x10 x11 x12 0 (vr b13) (vr ep) (vr xl) (vi 1)) [(.int (1 : Int32))])) _
    refine XS.ifNo X24.here hx rfl (hb hby at_274) rfl ((if0 _ _).trans (feq (by decide : ¬ ((1 : Int32) = (0 : Int32)))).1) ?_
    refine XS.iconst X24.here hx rfl (hb hby at_277) ?_
    show Steps p.tables e below (T24.setTop (mkF m 278 (own_S p1 p2 p3 p4 p5 p6 x7 x8 x9 x10 x11 x12 0 (vr b13) (vr ep) (vr xl) (vi 1)) [(.int (1 : Int32))])) _
    refine XS.goto X24.here hx rfl (pc0 := 278) (pc' := 282) rfl (hb hby at_278) (by decide) (by decide) ?_
    refine XS.istore X24.here hx rfl (hb hby at_282) rfl (l' := (own_S p1 p2 p3 p4 p5 p6 x7 x8 x9 x10 x11 x12 0 (vr b13) (vr ep) (vr xl) (vi 1))) rfl ?_
    show Steps p.tables e below (T24.setTop (mkF m 284 (own_S p1 p2 p3 p4 p5 p6 x7 x8 x9 x10 x11 x12 0 (vr b13) (vr ep) (vr xl) (vi 1)) [])) _
    refine XS.iload X24.here hx rfl (hb hby at_284) rfl ?_
    refine XS.ifNo X24.here hx rfl (hb hby at_286) rfl ((if0 _ _).trans (feq (by decide : ¬ ((1 : Int32) = (0 : Int32)))).1) ?_
    show Steps p.tables e below (T24.setTop (mkF m 289 (own_S p1 p2 p3 p4 p5 p6 x7 x8 x9 x10 x11 x12 0 (vr b13) (vr ep) (vr xl) (vi 1)) [])) _
    refine XS.aload X24.here hx rfl (hb hby at_289) rfl rfl ?_
    show Steps p.tables e below (T24.setTop (mkF m 291 (own_S p1 p2 p3 p4 p5 p6 x7 x8 x9 x10 x11 x12 0 (vr b13) (vr ep) (vr xl) (vi 1)) [(.ref ep)])) _
    refine st25.trans ?_
    show Steps p.tables e below (T25.setTop (mkF m 294 (own_S p1 p2 p3 p4 p5 p6 x7 x8 x9 x10 x11 x12 0 (vr b13) (vr ep) (vr xl) (vi 1)) [(.ref st)])) _
    refine st27 _ ?_
    show Steps p.tables e below (T27.setTop (mkF m 297 (own_S p1 p2 p3 p4 p5 p6 x7 x8 x9 x10 x11 x12 0 (vr b13) (vr ep) (vr xl) (vi 1)) [(.ref st), (.ref st)])) _
    refine Jvm.RoadKit.acmp (g := (mkF m 297 (own_S p1 p2 p3 p4 p5 p6 x7 x8 x9 x10 x11 x12 0 (vr b13) (vr ep) (vr xl) (vi 1)) [(.ref st), (.ref st)])) X27 hx rfl rfl rfl (pc0 := 297) (pc' := 300) (same := true) rfl (hb hby at_297) rfl (decide_eq_true (rfl : Value.ref _ = _)) (by decide) (by decide) ?_
    show Steps p.tables e below (T27.setTop (mkF m 300 (own_S p1 p2 p3 p4 p5 p6 x7 x8 x9 x10 x11 x12 0 (vr b13) (vr ep) (vr xl) (vi 1)) [])) _
    refine XS.iconst X27.here hx rfl (hb hby at_300) ?_
    refine XS.goto X27.here hx rfl (pc0 := 301) (pc' := 305) rfl (hb hby at_301) (by decide) (by decide) ?_
    show Steps p.tables e below (T27.setTop (mkF m 305 (own_S p1 p2 p3 p4 p5 p6 x7 x8 x9 x10 x11 x12 0 (vr b13) (vr ep) (vr xl) (vi 1)) [(.int (1 : Int32))])) _
    refine XS.istore X27.here hx rfl (hb hby at_305) rfl (l' := (own_S p1 p2 p3 p4 p5 p6 x7 x8 x9 x10 x11 x12 0 (vr b13) (vr ep) (vr xl) (vi 1))) rfl ?_
    refine XS.iload X27.here hx rfl (hb hby at_307) rfl ?_
    show Steps p.tables e below (T27.setTop (mkF m 309 (own_S p1 p2 p3 p4 p5 p6 x7 x8 x9 x10 x11 x12 0 (vr b13) (vr ep) (vr xl) (vi 1)) [(.int (1 : Int32))])) _
    refine XS.ifNo X27.here hx rfl (hb hby at_309) rfl ((if0 _ _).trans (feq (by decide : ¬ ((1 : Int32) = (0 : Int32)))).1) ?_
    refine XS.aload X27.here hx rfl (hb hby at_312) rfl rfl ?_
    show Steps p.tables e below (T27.setTop (mkF m 314 (own_S p1 p2 p3 p4 p5 p6 x7 x8 x9 x10 x11 x12 0 (vr b13) (vr ep) (vr xl) (vi 1)) [(.ref ep)])) _
    refine st28.trans ?_
    show Steps p.tables e below (T28.setTop (mkF m 317 (own_S p1 p2 p3 p4 p5 p6 x7 x8 x9 x10 x11 x12 0 (vr b13) (vr ep) (vr xl) (vi 1)) [.null])) _
    refine XS.ifnonnullNo X28.here hx rfl (hb hby at_317) rfl ?_
    refine XS.iconst X28.here hx rfl (hb hby at_320) ?_
    show Steps p.tables e below (T28.setTop (mkF m 321 (own_S p1 p2 p3 p4 p5 p6 x7 x8 x9 x10 x11 x12 0 (vr b13) (vr ep) (vr xl) (vi 1)) [(.int (1 : Int32))])) _
    refine XS.goto X28.here hx rfl (pc0 := 321) (pc' := 325) rfl (hb hby at_321) (by decide) (by decide) ?_
    refine XS.istore X28.here hx rfl (hb hby at_325) rfl (l' := (own_S p1 p2 p3 p4 p5 p6 x7 x8 x9 x10 x11 x12 0 (vr b13) (vr ep) (vr xl) (vi 1))) rfl ?_
    show Steps p.tables e below (T28.setTop (mkF m 327 (own_S p1 p2 p3 p4 p5 p6 x7 x8 x9 x10 x11 x12 0 (vr b13) (vr ep) (vr xl) (vi 1)) [])) _
    refine XS.iload X28.here hx rfl (hb hby at_327) rfl ?_
    refine XS.ifNo X28.here hx rfl (hb hby at_329) rfl ((if0 _ _).trans (feq (by decide : ¬ ((1 : Int32) = (0 : Int32)))).1) ?_
    show Steps p.tables e below (T28.setTop (mkF m 332 (own_S p1 p2 p3 p4 p5 p6 x7 x8 x9 x10 x11 x12 0 (vr b13) (vr ep) (vr xl) (vi 1)) [])) _
    refine XS.aload X28.here hx rfl (hb hby at_332) rfl rfl ?_
    show Steps p.tables e below (T28.setTop (mkF m 334 (own_S p1 p2 p3 p4 p5 p6 x7 x8 x9 x10 x11 x12 0 (vr b13) (vr ep) (vr xl) (vi 1)) [(.ref ep)])) _
    refine st29.trans ?_
    show Steps p.tables e below (T29.setTop (mkF m 337 (own_S p1 p2 p3 p4 p5 p6 x7 x8 x9 x10 x11 x12 0 (vr b13) (vr ep) (vr xl) (vi 1)) [.null])) _
    refine XS.ifnonnullNo X29.here hx rfl (hb hby at_337) rfl ?_
    refine XS.iconst X29.here hx rfl (hb hby at_340) ?_
    show Steps p.tables e below (T29.setTop (mkF m 341 (own_S p1 p2 p3 p4 p5 p6 x7 x8 x9 x10 x11 x12 0 (vr b13) (vr ep) (vr xl) (vi 1)) [(.int (1 : Int32))])) _
    refine XS.goto X29.here hx rfl (pc0 := 341) (pc' := 345) rfl (hb hby at_341) (by decide) (by decide) ?_
    refine XS.istore X29.here hx rfl (hb hby at_345) rfl (l' := (own_S p1 p2 p3 p4 p5 p6 x7 x8 x9 x10 x11 x12 0 (vr b13) (vr ep) (vr xl) (vi 1))) rfl ?_
    show Steps p.tables e below (T29.setTop (mkF m 347 (own_S p1 p2 p3 p4 p5 p6 x7 x8 x9 x10 x11 x12 0 (vr b13) (vr ep) (vr xl) (vi 1)) [])) _
    refine XS.iload X29.here hx rfl (hb hby at_347) rfl ?_
    refine XS.ifNo X29.here hx rfl (hb hby at_349) rfl ((if0 _ _).trans (feq (by decide : ¬ ((1 : Int32) = (0 : Int32)))).1) ?_
    show Steps p.tables e below (T29.setTop (mkF m 352 (own_S p1 p2 p3 p4 p5 p6 x7 x8 x9 x10 x11 x12 0 (vr b13) (vr ep) (vr xl) (vi 1)) [])) _
    refine XS.aload X29.here hx rfl (hb hby at_352) rfl rfl ?_
    show Steps p.tables e below (T29.setTop (mkF m 354 (own_S p1 p2 p3 p4 p5 p6 x7 x8 x9 x10 x11 x12 0 (vr b13) (vr ep) (vr xl) (vi 1)) [(.ref ep)])) _
    refine st30.trans ?_
    show Steps p.tables e below (T30.setTop (mkF m 357 (own_S p1 p2 p3 p4 p5 p6 x7 x8 x9 x10 x11 x12 0 (vr b13) (vr ep) (vr xl) (vi 1)) [(.ref br)])) _
    refine st32 _ ?_
    show Steps p.tables e below (T32.setTop (mkF m 360 (own_S p1 p2 p3 p4 p5 p6 x7 x8 x9 x10 x11 x12 0 (vr b13) (vr ep) (vr xl) (vi 1)) [(.ref br), (.ref br)])) _
    refine Jvm.RoadKit.acmp (g := (mkF m 360 (own_S p1 p2 p3 p4 p5 p6 x7 x8 x9 x10 x11 x12 0 (vr b13) (vr ep) (vr xl) (vi 1)) [(.ref br), (.ref br)])) X32 hx rfl rfl rfl (pc0 := 360) (pc' := 363) (same := true) rfl (hb hby at_360) rfl (decide_eq_true (rfl : Value.ref _ = _)) (by decide) (by decide) ?_
    show Steps p.tables e below (T32.setTop (mkF m 363 (own_S p1 p2 p3 p4 p5 p6 x7 x8 x9 x10 x11 x12 0 (vr b13) (vr ep) (vr xl) (vi 1)) [])) _
    refine XS.iconst X32.here hx rfl (hb hby at_363) ?_
    refine XS.goto X32.here hx rfl (pc0 := 364) (pc' := 368) rfl (hb hby at_364) (by decide) (by decide) ?_
    show Steps p.tables e below (T32.setTop (mkF m 368 (own_S p1 p2 p3 p4 p5 p6 x7 x8 x9 x10 x11 x12 0 (vr b13) (vr ep) (vr xl) (vi 1)) [(.int (1 : Int32))])) _
    refine XS.istore X32.here hx rfl (hb hby at_368) rfl (l' := (own_S p1 p2 p3 p4 p5 p6 x7 x8 x9 x10 x11 x12 0 (vr b13) (vr ep) (vr xl) (vi 1))) rfl ?_
    refine XS.iload X32.here hx rfl (hb hby at_370) rfl ?_
    show Steps p.tables e below (T32.setTop (mkF m 372 (own_S p1 p2 p3 p4 p5 p6 x7 x8 x9 x10 x11 x12 0 (vr b13) (vr ep) (vr xl) (vi 1)) [(.int (1 : Int32))])) _
    refine XS.ifNo X32.here hx rfl (hb hby at_372) rfl ((if0 _ _).trans (feq (by decide : ¬ ((1 : Int32) = (0 : Int32)))).1) ?_
    refine XS.aload X32.here hx rfl (hb hby at_375) rfl rfl ?_
    show Steps p.tables e below (T32.setTop (mkF m 377 (own_S p1 p2 p3 p4 p5 p6 x7 x8 x9 x10 x11 x12 0 (vr b13) (vr ep) (vr xl) (vi 1)) [(.ref ep)])) _
    refine st33.trans ?_
    show Steps p.tables e below (T33.setTop (mkF m 380 (own_S p1 p2 p3 p4 p5 p6 x7 x8 x9 x10 x11 x12 0 (vr b13) (vr ep) (vr xl) (vi 1)) [(.int (0 : Int32))])) _
    refine XS.ifNo X33.here hx rfl (hb hby at_380) rfl ((if0 _ _).trans (teq (by decide : (0 : Int32) = (0 : Int32))).2) ?_
    refine XS.iconst X33.here hx rfl (hb hby at_383) ?_
    show Steps p.tables e below (T33.setTop (mkF m 384 (own_S p1 p2 p3 p4 p5 p6 x7 x8 x9 x10 x11 x12 0 (vr b13) (vr ep) (vr xl) (vi 1)) [(.int (1 : Int32))])) _
    refine XS.goto X33.here hx rfl (pc0 := 384) (pc' := 388) rfl (hb hby at_384) (by decide) (by decide) ?_
    refine XS.istore X33.here hx rfl (hb hby at_388) rfl (l' := (own_S p1 p2 p3 p4 p5 p6 x7 x8 x9 x10 x11 x12 0 (vr b13) (vr ep) (vr xl) (vi 1))) rfl ?_
    show Steps p.tables e below (T33.setTop (mkF m 390 (own_S p1 p2 p3 p4 p5 p6 x7 x8 x9 x10 x11 x12 0 (vr b13) (vr ep) (vr xl) (vi 1)) [])) _
    refine XS.iload X33.here hx rfl (hb hby at_390) rfl ?_
    show Steps p.tables e below (T33.setTop (mkF m 392 (own_S p1 p2 p3 p4 p5 p6 x7 x8 x9 x10 x11 x12 0 (vr b13) (vr ep) (vr xl) (vi 1)) [(.int (1 : Int32))])) _
    exact retN X33 hx (t := .boolean) Bd.returns (by simp) (hb hby at_392) hr
  · show Q0a Z p1 p2 p3 p4 p5 p6 w wD wEL wEm st br mr cD h0 n0 _ T33.heap _
    exact ⟨rfl, N33⟩
theorem pd_0_30 : parseMethodDescriptor "(I)Ljava/lang/Object;" = some ⟨[.int], some (.object "java/lang/Object")⟩ := by decide +kernel
def Q0b (Z : State) (p1 p2 p3 p4 p5 p6 w : Int32) (wD wEL wEm st br mr : Addr) (cD : Cell) (h0 : Heap) (n0 : Nat) (v : Option Value) (h : Heap) (L : List Loc) : Prop := v = some (.int (1 : Int32)) ∧ Fr n0 L
set_option maxRecDepth 65536 in
set_option maxHeartbeats 40000000 in
theorem rm0b (l : Launch) (Z : State) (a0 : Array Value) (hw : ∀ d ∈ tables_1, d.before a0 Z = true) (ws : List Jvm.Cond) (p1 p2 p3 p4 p5 p6 w : Int32) (wD wEL wEm st br mr : Addr) (cD : Cell) (h0 : Heap) (n0 : Nat) (Z0 : n0 ≤ h0.size) (hG : own_G Z h0 w wD wEL wEm st br mr cD) (hn : (((p4.toUInt32 >>> ((24 : Int32) &&& 31).toUInt32).toInt32) &&& (3 : Int32)) = (1 : Int32)) :
    MetFree l x (head1 (Jvm.Cond.code x code maxLocals ret :: ws) room_1) (fun a U => a = #[(.int p1), (.int p2), (.int p3), (.int p4), (.int p5), (.int p6)] ∧ Z.Warmed39 U.vm ∧ U.heap = h0 ∧ CHv Z own_EL U.vm h0) (fun _ _ _ _ _ => True) (fun _ U o U' => ∃ v L, o = .returned v ∧ Q0b Z p1 p2 p3 p4 p5 p6 w wD wEL wEm st br mr cD h0 n0 v U'.heap L ∧ ReturnedEndW U o U' L room_1.cells room_1.slots) := by
  refine MetFree.of_bodySF (plainFor_of_name pn_0) hisR ?_
  intro p e s m args below meth c s₁ Bd hml0 hP hK
  obtain ⟨rfl, hZ, hh, hCH⟩ := hP
  have hEL := own_EW hw
  have hZ' : Z.Warmed39 (s.setVm s.vm).vm := hZ
  have hx := Bd.exec
  have hby := Bd.bytes
  have hml : c.maxLocals = 17 := hml0
  have hown : s.vm.findClass "com/example/tenacious_courier/tenaciouscourier/model/EndpointRegisteredPinLaw" = some m.cls := findClass_of_methodNamed Bd.named
  have hnm := (name_of_methodNamed Bd.named Bd.method).1
  have X0 : Stand p l e room_1 s m #[(.int p1), (.int p2), (.int p3), (.int p4), (.int p5), (.int p6)] below meth c s₁ [] 0 0 := Stand.of_body Bd
  have e0 : s₁.heap = h0 := by rw [← hh, Bd.state]; rfl
  have N0 := Fr.nil n0
  have pre0 : ∀ t, Steps p.tables e below (s₁.setTop (mkF m 0 #[.val (.int p1), .val (.int p2), .val (.int p3), .val (.int p4), .val (.int p5), .val (.int p6), .unset, .unset, .unset, .unset, .unset, .unset, .unset, .unset, .unset, .unset, .unset] [])) t → Steps p.tables e below (s₁.setTop (entryFrame m #[(.int p1), (.int p2), (.int p3), (.int p4), (.int p5), (.int p6)] maxLocals)) t := fun t k => castTop (ef_0 m p1 p2 p3 p4 p5 p6) k
  obtain ⟨S_CS, hcs, S_D, A_D, S_Z, S_EL, L_EL, S_EM, X_EM, S_AC, S_CL, MIR⟩ := hG
  have X0s := (X0 : Stand p l e _ (s.setVm s.vm) m _ below meth c s₁ _ _ _)
  obtain ⟨_, _, ⟨T7, L7, k7, n7⟩, -, X7r, hS7r, hg7, ⟨Lc7, hQ7, l7, y7, z7, hC7⟩, st7⟩ := callSS X0s hx (y := mN11) hown (mvT hZ' (wd hw 0 rfl)) (mvT hZ' (wd hw 1 rfl)) (mvT hZ' (wd hw 2 rfl)) (mvT hZ' (wd hw 3 rfl)) (by decide) (backOfSH (W := 0) (own_str l Z a0 hw [] p1 w h0 n0 Z0 S_CS hcs) hZ (wd hw 3 rfl) (wd hw 2 rfl) (by decide) (by decide) hEL (hCH)) (g := (mkF m 1 #[.val (.int p1), .val (.int p2), .val (.int p3), .val (.int p4), .val (.int p5), .val (.int p6), .unset, .unset, .unset, .unset, .unset, .unset, .unset, .unset, .unset, .unset, .unset] [(.int p1)])) rfl (by rw [hml]; rfl) (argsL := [(.int p1)]) (rest := []) (lenOf pd_0_0 rfl) rfl (by show 2 * 0 + _ ≤ _; exact Nat.le_of_eq rfl) (hb hby at_1) (fun _ _ => ⟨rfl, e0, (by decide : 0 + 4 ≤ _), (by decide : 0 + 12 ≤ _)⟩)
  dsimp only [Pt.U, Pt.locs, Pt.cells, Pt.slots] at X7r hS7r hg7 hC7 l7 y7 z7 st7 hQ7
  obtain rfl : k7 = 4 := y7
  obtain rfl : n7 = 12 := z7
  obtain ⟨X7, hS7, hZ7, hown7⟩ := rebS (own := "com/example/tenacious_courier/tenaciouscourier/model/EndpointRegisteredPinLaw") ((State.WarmedH.refl s).since 0) (Nat.zero_le _) X7r hS7r hg7 hZ' hown
  obtain ⟨x7, zz7, vs7, rfl, N7q, K7q, S7q⟩ := hQ7
  have K7 : Keep h0 T7.heap [] := K7q
  have Z7 : n0 ≤ T7.heap.size := Nat.le_trans Z0 K7.1
  have CS7 := own_staK S_CS K7
  have N7 : Fr n0 L7 := by rw [l7]; exact Fr.app N0 N7q
  obtain ⟨_, _, ⟨T8, L8, k8, n8⟩, -, X8r, hS8r, hg8, ⟨Lc8, hQ8, l8, y8, z8, hC8⟩, st8⟩ := callSS X7 hx (y := mN11) hown7 (mvT hZ7 (wd hw 0 rfl)) (mvT hZ7 (wd hw 1 rfl)) (mvT hZ7 (wd hw 2 rfl)) (mvT hZ7 (wd hw 3 rfl)) (by decide) (backOfSH (W := 0) (own_str l Z a0 hw [] p2 w T7.heap n0 Z7 CS7 hcs) hZ7 (wd hw 3 rfl) (wd hw 2 rfl) (by decide) (by decide) hEL (hC7.1)) (g := (mkF m 7 #[.val (.int p1), .val (.int p2), .val (.int p3), .val (.int p4), .val (.int p5), .val (.int p6), .val (.ref x7), .unset, .unset, .unset, .unset, .unset, .unset, .unset, .unset, .unset, .unset] [(.int p2)])) rfl (by rw [hml]; rfl) (argsL := [(.int p2)]) (rest := []) (lenOf pd_0_0 rfl) rfl (by show 2 * 0 + _ ≤ _; exact Nat.le_of_eq rfl) (hb hby at_7) (fun _ _ => ⟨rfl, rfl, (by decide : 4 + 4 ≤ _), (by decide : 12 + 12 ≤ _)⟩)
  dsimp only [Pt.U, Pt.locs, Pt.cells, Pt.slots] at X8r hS8r hg8 hC8 l8 y8 z8 st8 hQ8
  obtain rfl : k8 = 8 := y8
  obtain rfl : n8 = 24 := z8
  obtain ⟨X8, hS8, hZ8, hown8⟩ := rebS (own := "com/example/tenacious_courier/tenaciouscourier/model/EndpointRegisteredPinLaw") hS7 (Nat.le_refl _) X8r hS8r hg8 hZ7 hown7
  obtain ⟨x8, zz8, vs8, rfl, N8q, K8q, S8q⟩ := hQ8
  have K8 : Keep h0 T8.heap [] := K7.trans K8q (fun x hx => nomatch hx)
  have Z8 : n0 ≤ T8.heap.size := Nat.le_trans Z0 K8.1
  have CS8 := own_staK S_CS K8
  have N8 : Fr n0 L8 := by rw [l8]; exact Fr.app N7 N8q
  obtain ⟨_, _, ⟨T9, L9, k9, n9⟩, -, X9r, hS9r, hg9, ⟨Lc9, hQ9, l9, y9, z9, hC9⟩, st9⟩ := callSS X8 hx (y := mN11) hown8 (mvT hZ8 (wd hw 0 rfl)) (mvT hZ8 (wd hw 1 rfl)) (mvT hZ8 (wd hw 2 rfl)) (mvT hZ8 (wd hw 3 rfl)) (by decide) (backOfSH (W := 0) (own_str l Z a0 hw [] p3 w T8.heap n0 Z8 CS8 hcs) hZ8 (wd hw 3 rfl) (wd hw 2 rfl) (by decide) (by decide) hEL (hC8.1)) (g := (mkF m 13 #[.val (.int p1), .val (.int p2), .val (.int p3), .val (.int p4), .val (.int p5), .val (.int p6), .val (.ref x7), .val (.ref x8), .unset, .unset, .unset, .unset, .unset, .unset, .unset, .unset, .unset] [(.int p3)])) rfl (by rw [hml]; rfl) (argsL := [(.int p3)]) (rest := []) (lenOf pd_0_0 rfl) rfl (by show 2 * 0 + _ ≤ _; exact Nat.le_of_eq rfl) (hb hby at_13) (fun _ _ => ⟨rfl, rfl, (by decide : 8 + 4 ≤ _), (by decide : 24 + 12 ≤ _)⟩)
  dsimp only [Pt.U, Pt.locs, Pt.cells, Pt.slots] at X9r hS9r hg9 hC9 l9 y9 z9 st9 hQ9
  obtain rfl : k9 = 12 := y9
  obtain rfl : n9 = 36 := z9
  obtain ⟨X9, hS9, hZ9, hown9⟩ := rebS (own := "com/example/tenacious_courier/tenaciouscourier/model/EndpointRegisteredPinLaw") hS8 (Nat.le_refl _) X9r hS9r hg9 hZ8 hown8
  obtain ⟨x9, zz9, vs9, rfl, N9q, K9q, S9q⟩ := hQ9
  have K9 : Keep h0 T9.heap [] := K8.trans K9q (fun x hx => nomatch hx)
  have Z9 : n0 ≤ T9.heap.size := Nat.le_trans Z0 K9.1
  have CS9 := own_staK S_CS K9
  have N9 : Fr n0 L9 := by rw [l9]; exact Fr.app N8 N9q
  obtain ⟨_, _, ⟨T10, L10, k10, n10⟩, -, X10r, hS10r, hg10, ⟨Lc10, hQ10, l10, y10, z10, hC10⟩, st10⟩ := callSS X9 hx (y := mN11) hown9 (mvT hZ9 (wd hw 0 rfl)) (mvT hZ9 (wd hw 1 rfl)) (mvT hZ9 (wd hw 2 rfl)) (mvT hZ9 (wd hw 3 rfl)) (by decide) (backOfSH (W := 0) (own_str l Z a0 hw [] p4 w T9.heap n0 Z9 CS9 hcs) hZ9 (wd hw 3 rfl) (wd hw 2 rfl) (by decide) (by decide) hEL (hC9.1)) (g := (mkF m 19 #[.val (.int p1), .val (.int p2), .val (.int p3), .val (.int p4), .val (.int p5), .val (.int p6), .val (.ref x7), .val (.ref x8), .val (.ref x9), .unset, .unset, .unset, .unset, .unset, .unset, .unset, .unset] [(.int p4)])) rfl (by rw [hml]; rfl) (argsL := [(.int p4)]) (rest := []) (lenOf pd_0_0 rfl) rfl (by show 2 * 0 + _ ≤ _; exact Nat.le_of_eq rfl) (hb hby at_19) (fun _ _ => ⟨rfl, rfl, (by decide : 12 + 4 ≤ _), (by decide : 36 + 12 ≤ _)⟩)
  dsimp only [Pt.U, Pt.locs, Pt.cells, Pt.slots] at X10r hS10r hg10 hC10 l10 y10 z10 st10 hQ10
  obtain rfl : k10 = 16 := y10
  obtain rfl : n10 = 48 := z10
  obtain ⟨X10, hS10, hZ10, hown10⟩ := rebS (own := "com/example/tenacious_courier/tenaciouscourier/model/EndpointRegisteredPinLaw") hS9 (Nat.le_refl _) X10r hS10r hg10 hZ9 hown9
  obtain ⟨x10, zz10, vs10, rfl, N10q, K10q, S10q⟩ := hQ10
  have K10 : Keep h0 T10.heap [] := K9.trans K10q (fun x hx => nomatch hx)
  have Z10 : n0 ≤ T10.heap.size := Nat.le_trans Z0 K10.1
  have CS10 := own_staK S_CS K10
  have N10 : Fr n0 L10 := by rw [l10]; exact Fr.app N9 N10q
  obtain ⟨_, _, ⟨T11, L11, k11, n11⟩, -, X11r, hS11r, hg11, ⟨Lc11, hQ11, l11, y11, z11, hC11⟩, st11⟩ := callSS X10 hx (y := mN11) hown10 (mvT hZ10 (wd hw 0 rfl)) (mvT hZ10 (wd hw 1 rfl)) (mvT hZ10 (wd hw 2 rfl)) (mvT hZ10 (wd hw 3 rfl)) (by decide) (backOfSH (W := 0) (own_str l Z a0 hw [] p5 w T10.heap n0 Z10 CS10 hcs) hZ10 (wd hw 3 rfl) (wd hw 2 rfl) (by decide) (by decide) hEL (hC10.1)) (g := (mkF m 26 #[.val (.int p1), .val (.int p2), .val (.int p3), .val (.int p4), .val (.int p5), .val (.int p6), .val (.ref x7), .val (.ref x8), .val (.ref x9), .val (.ref x10), .unset, .unset, .unset, .unset, .unset, .unset, .unset] [(.int p5)])) rfl (by rw [hml]; rfl) (argsL := [(.int p5)]) (rest := []) (lenOf pd_0_0 rfl) rfl (by show 2 * 0 + _ ≤ _; exact Nat.le_of_eq rfl) (hb hby at_26) (fun _ _ => ⟨rfl, rfl, (by decide : 16 + 4 ≤ _), (by decide : 48 + 12 ≤ _)⟩)
  dsimp only [Pt.U, Pt.locs, Pt.cells, Pt.slots] at X11r hS11r hg11 hC11 l11 y11 z11 st11 hQ11
  obtain rfl : k11 = 20 := y11
  obtain rfl : n11 = 60 := z11
  obtain ⟨X11, hS11, hZ11, hown11⟩ := rebS (own := "com/example/tenacious_courier/tenaciouscourier/model/EndpointRegisteredPinLaw") hS10 (Nat.le_refl _) X11r hS11r hg11 hZ10 hown10
  obtain ⟨x11, zz11, vs11, rfl, N11q, K11q, S11q⟩ := hQ11
  have K11 : Keep h0 T11.heap [] := K10.trans K11q (fun x hx => nomatch hx)
  have Z11 : n0 ≤ T11.heap.size := Nat.le_trans Z0 K11.1
  have CS11 := own_staK S_CS K11
  have N11 : Fr n0 L11 := by rw [l11]; exact Fr.app N10 N11q
  obtain ⟨_, _, ⟨T12, L12, k12, n12⟩, -, X12r, hS12r, hg12, ⟨Lc12, hQ12, l12, y12, z12, hC12⟩, st12⟩ := callSS X11 hx (y := mN11) hown11 (mvT hZ11 (wd hw 0 rfl)) (mvT hZ11 (wd hw 1 rfl)) (mvT hZ11 (wd hw 2 rfl)) (mvT hZ11 (wd hw 3 rfl)) (by decide) (backOfSH (W := 0) (own_str l Z a0 hw [] p6 w T11.heap n0 Z11 CS11 hcs) hZ11 (wd hw 3 rfl) (wd hw 2 rfl) (by decide) (by decide) hEL (hC11.1)) (g := (mkF m 33 #[.val (.int p1), .val (.int p2), .val (.int p3), .val (.int p4), .val (.int p5), .val (.int p6), .val (.ref x7), .val (.ref x8), .val (.ref x9), .val (.ref x10), .val (.ref x11), .unset, .unset, .unset, .unset, .unset, .unset] [(.int p6)])) rfl (by rw [hml]; rfl) (argsL := [(.int p6)]) (rest := []) (lenOf pd_0_0 rfl) rfl (by show 2 * 0 + _ ≤ _; exact Nat.le_of_eq rfl) (hb hby at_33) (fun _ _ => ⟨rfl, rfl, (by decide : 20 + 4 ≤ _), (by decide : 60 + 12 ≤ _)⟩)
  dsimp only [Pt.U, Pt.locs, Pt.cells, Pt.slots] at X12r hS12r hg12 hC12 l12 y12 z12 st12 hQ12
  obtain rfl : k12 = 24 := y12
  obtain rfl : n12 = 72 := z12
  obtain ⟨X12, hS12, hZ12, hown12⟩ := rebS (own := "com/example/tenacious_courier/tenaciouscourier/model/EndpointRegisteredPinLaw") hS11 (Nat.le_refl _) X12r hS12r hg12 hZ11 hown11
  obtain ⟨x12, zz12, vs12, rfl, N12q, K12q, S12q⟩ := hQ12
  have K12 : Keep h0 T12.heap [] := K11.trans K12q (fun x hx => nomatch hx)
  have Z12 : n0 ≤ T12.heap.size := Nat.le_trans Z0 K12.1
  have CS12 := own_staK S_CS K12
  have A7_12 := (((((S7q.1.keep K8q).keep K9q).keep K10q).keep K11q).keep K12q)
  have A8_12 := ((((S8q.1.keep K9q).keep K10q).keep K11q).keep K12q)
  have A9_12 := (((S9q.1.keep K10q).keep K11q).keep K12q)
  have A10_12 := ((S10q.1.keep K11q).keep K12q)
  have A11_12 := (S11q.1.keep K12q)
  have A12_12 := S12q.1
  have N12 : Fr n0 L12 := by rw [l12]; exact Fr.app N11 N12q
  obtain ⟨T13, h13, X13, e13, E13, A13, D13, -, st13⟩ := newO X12 hx hZ12 hown12 (wd hw 26 rfl) (wd hw 27 rfl) (wd hw 28 rfl) rfl (g := (mkF m 46 (own_S p1 p2 p3 p4 p5 p6 x7 x8 x9 x10 x11 x12 1 .unset .unset .unset .unset) [])) rfl (hb hby at_46) (by decide) (by decide)
  obtain ⟨b13, g13⟩ : ∃ z, z = T12.heap.size := ⟨_, rfl⟩
  rw [← g13] at A13 D13 st13
  have F_modCount_b13 : Fld Z h13 b13 "java/util/AbstractList" "modCount" "I" (.int (0 : Int32)) := D13 (Or.inl (wd hw 46 rfl)) (ty := .int) (by decide)
  have F_elementData_b13 : Fld Z h13 b13 "java/util/ArrayList" "elementData" "[Ljava/lang/Object;" .null := D13 (Or.inl (wd hw 49 rfl)) (ty := (.array (.object "java/lang/Object"))) (by decide)
  have F_size_b13 : Fld Z h13 b13 "java/util/ArrayList" "size" "I" (.int (0 : Int32)) := D13 (Or.inl (wd hw 96 rfl)) (ty := .int) (by decide)
  have E_b13 := A13
  have g_b13 : n0 ≤ b13 := Nat.le_trans Z0 (Nat.le_trans K12.1 (Nat.le_of_eq g13.symm))
  have sz_b13 : h0.size ≤ b13 := (Nat.le_trans K12.1 (Nat.le_of_eq g13.symm))
  have K13 : Keep h0 h13 [] := K12.ext E13
  obtain ⟨_, _, ⟨T14, L14, k14, n14⟩, -, X14, ⟨Lc14, hQ14, l14, y14, z14⟩, st14⟩ := X13.specialBack hx (y := mN19) rfl hown12 (mvT hZ12 (wd hw 29 rfl)) (mvT hZ12 (wd hw 30 rfl)) (mvT hZ12 (wd hw 31 rfl)) (by decide) (backOf (W := 1) (rm5 l Z a0 hw [] b13 wD (.int (0 : Int32)) .null h13 n0 (Nat.le_trans Z0 K13.1) (own_staK S_D K13) E_b13 F_modCount_b13 F_elementData_b13 F_size_b13 g_b13) hZ12 (wd hw 31 rfl) (wd hw 28 rfl) (by decide) (by decide)) (g := (mkF m 50 (own_S p1 p2 p3 p4 p5 p6 x7 x8 x9 x10 x11 x12 1 .unset .unset .unset .unset) [(.ref b13), (.ref b13)])) rfl (by rw [hml]; rfl) (Steps.refl _) (a := b13) (argsL := []) (rest := [(.ref b13)]) (lenOf pd_0_3 rfl) rfl (by show 2 * 0 + _ ≤ _; exact Nat.le_of_eq rfl) (hb hby at_50) (fun _ _ => ⟨rfl, e13, (by decide : 25 + 0 ≤ _), (by decide : 75 + 0 ≤ _)⟩)
  dsimp only [Pt.U, Pt.locs, Pt.cells, Pt.slots] at X14 l14 y14 z14 st14 hQ14
  obtain rfl : k14 = 25 := y14
  obtain rfl : n14 = 75 := z14
  obtain ⟨rfl, N14q, K14q, E14, M14, D14, F14⟩ := hQ14
  have K14 : Keep h0 T14.heap [] := K13.trans K14q (fun x hx => Or.inr (by cases List.mem_singleton.mp hx; exact sz_b13))
  have Z14 : n0 ≤ T14.heap.size := Nat.le_trans Z0 K14.1
  have AD14 := own_arK A_D K14
  have SD14 := own_staK S_D K14
  have A7_14 := (A7_12.ext E13).keep K14q
  have A8_14 := (A8_12.ext E13).keep K14q
  have A9_14 := (A9_12.ext E13).keep K14q
  have A10_14 := (A10_12.ext E13).keep K14q
  have A11_14 := (A11_12.ext E13).keep K14q
  have A12_14 := (A12_12.ext E13).keep K14q
  have N14 : Fr n0 L14 := by rw [l14]; exact Fr.app N12 N14q
  obtain ⟨cq15, kq15, q15a, q15b, q15c⟩ := isOf hZ12 rfl E14
  obtain ⟨_, _, ⟨T15, L15, k15, n15⟩, -, X15, ⟨Lc15, hQ15, l15, y15, z15⟩, st15⟩ := X14.interfaceBack hx (xi := mN41) (y := mN20) hown12 (mvT hZ12 (wd hw 113 rfl)) (mvT hZ12 (wd hw 114 rfl)) (mvT hZ12 (wd hw 115 rfl)) (mvT hZ12 (wd hw 116 rfl)) (mvT hZ12 (wd hw 117 rfl)) (mvT hZ12 (wd hw 118 rfl)) (mvT hZ12 (wd hw 119 rfl)) (mvT hZ12 (wd hw 120 rfl)) (by decide) (backOf (W := 0) (rm14a l Z a0 hw [] b13 x10 wD cD T14.heap n0 Z14 D14 AD14 S_Z SD14 E14 M14 F14 g_b13 A10_14) hZ12 (wd hw 121 rfl) (wd hw 28 rfl) (by decide) (by decide)) q15a q15b q15c (g := (mkF m 64 (own_S p1 p2 p3 p4 p5 p6 x7 x8 x9 x10 x11 x12 1 (vr b13) .unset .unset .unset) [(.ref x10), (.ref b13)])) rfl (by rw [hml]; rfl) (Steps.refl _) (argsL := [(.ref x10)]) (rest := []) (lenOf pd_0_9 rfl) rfl (by show 2 * 0 + _ ≤ _; exact Nat.le_of_eq rfl) (hb hby at_64) (fun _ _ => ⟨rfl, rfl, (by decide : 25 + 1 ≤ _), (by decide : 75 + 10 ≤ _)⟩)
  dsimp only [Pt.U, Pt.locs, Pt.cells, Pt.slots] at X15 l15 y15 z15 st15 hQ15
  obtain rfl : k15 = 26 := y15
  obtain rfl : n15 = 85 := z15
  obtain ⟨ad, kd, rfl, N15q, K15q, z15q, LS15⟩ := hQ15
  have K15 : Keep h0 T15.heap [] := K14.trans K15q (fun x hx => Or.inr (by cases List.mem_singleton.mp hx; exact sz_b13))
  have Z15 : n0 ≤ T15.heap.size := Nat.le_trans Z0 K15.1
  have sz_ad : h0.size ≤ ad := Nat.le_trans K14.1 z15q
  have g_ad : n0 ≤ ad := Nat.le_trans Z0 sz_ad
  have A7_15 := A7_14.keep K15q
  have A8_15 := A8_14.keep K15q
  have A9_15 := A9_14.keep K15q
  have A10_15 := A10_14.keep K15q
  have A11_15 := A11_14.keep K15q
  have A12_15 := A12_14.keep K15q
  have N15 : Fr n0 L15 := by rw [l15]; exact Fr.app N14 N15q
  obtain ⟨_, _, ⟨T16, L16, k16, n16⟩, -, X16, ⟨Lc16, hQ16, l16, y16, z16⟩, st16⟩ := Jvm.LawKit.callS X15 hx (y := mN7) hown12 (mvT hZ12 (wd hw 50 rfl)) (mvT hZ12 (wd hw 51 rfl)) (mvT hZ12 (wd hw 52 rfl)) (mvT hZ12 (wd hw 53 rfl)) (by decide) (backOf (W := 0) (rm8 l Z a0 hw [] (fun h x => own_L1 Z h x x10 wEm) x7 x8 x9 b13 st br T15.heap n0 Z15 (own_staK S_AC K15) (own_staK S_CL K15) (fun h' K => rm10p1 l Z a0 hw [] b13 ad mr kd _ x10 wEm h' n0 (Nat.le_trans Z15 K.1) (LS15.keep K) MIR (A10_15.keep K) (own_staK (own_staK S_EM K15) K)) (fun h h' x a S E K => own_L1.keepE (wd hw 55 rfl) S E K)) hZ12 (wd hw 53 rfl) (wd hw 52 rfl) (by decide) (by decide)) (g := (mkF m 110 (own_S p1 p2 p3 p4 p5 p6 x7 x8 x9 x10 x11 x12 1 (vr b13) .unset .unset .unset) [(.ref b13), (.ref x9), (.ref x8), (.ref x7)])) rfl (by rw [hml]; rfl) (argsL := [(.ref x7), (.ref x8), (.ref x9), (.ref b13)]) (rest := []) (lenOf pd_0_4 rfl) rfl (by show 2 * 0 + _ ≤ _; exact Nat.le_of_eq rfl) (hb hby at_110) (fun _ _ => ⟨rfl, rfl, (by decide : 26 + 4 ≤ _), (by decide : 85 + 17 ≤ _)⟩)
  dsimp only [Pt.U, Pt.locs, Pt.cells, Pt.slots] at X16 l16 y16 z16 st16 hQ16
  obtain rfl : k16 = 30 := y16
  obtain rfl : n16 = 102 := z16
  obtain ⟨ep, xl, rfl, N16q, K16q, z16q, EPr, BLr⟩ := hQ16
  have K16 : Keep h0 T16.heap [] := K15.trans K16q (fun x hx => nomatch hx)
  have Z16 : n0 ≤ T16.heap.size := Nat.le_trans Z0 K16.1
  have A7_16 := A7_15.keep K16q
  have A8_16 := A8_15.keep K16q
  have A9_16 := A9_15.keep K16q
  have A10_16 := A10_15.keep K16q
  have A11_16 := A11_15.keep K16q
  have A12_16 := A12_15.keep K16q
  have LS16 := LS15.keep K16q
  have N16 : Fr n0 L16 := by rw [l16]; exact Fr.app N15 N16q
  obtain ⟨cq17, kq17, q17a, q17b, q17c⟩ := isOf hZ12 rfl LS16.1
  obtain ⟨_, _, ⟨T17, L17, k17, n17⟩, -, X17, ⟨Lc17, hQ17, l17, y17, z17⟩, st17⟩ := X16.interfaceBack hx (xi := mN41) (y := mN20) hown12 (mvT hZ12 (wd hw 113 rfl)) (mvT hZ12 (wd hw 114 rfl)) (mvT hZ12 (wd hw 115 rfl)) (mvT hZ12 (wd hw 116 rfl)) (mvT hZ12 (wd hw 117 rfl)) (mvT hZ12 (wd hw 118 rfl)) (mvT hZ12 (wd hw 119 rfl)) (mvT hZ12 (wd hw 120 rfl)) (by decide) (backOf (W := 0) (rm14b l Z a0 hw [] b13 x11 ad kd _ (1 : Int32) 1 [(.ref x10), .null, .null, .null, .null, .null, .null, .null, .null, .null] T16.heap n0 Z16 LS16 g_b13 g_ad A11_16 rfl (by decide) (by decide) (by decide) (Nat.le_of_ble_eq_true rfl)) hZ12 (wd hw 121 rfl) (wd hw 28 rfl) (by decide) (by decide)) q17a q17b q17c (g := (mkF m 119 (own_S p1 p2 p3 p4 p5 p6 x7 x8 x9 x10 x11 x12 1 (vr b13) (vr ep) .unset .unset) [(.ref x11), (.ref b13)])) rfl (by rw [hml]; rfl) (Steps.refl _) (argsL := [(.ref x11)]) (rest := []) (lenOf pd_0_9 rfl) rfl (by show 2 * 0 + _ ≤ _; exact Nat.le_of_eq rfl) (hb hby at_119) (fun _ _ => ⟨rfl, rfl, (by decide : 30 + 0 ≤ _), (by decide : 102 + 0 ≤ _)⟩)
  dsimp only [Pt.U, Pt.locs, Pt.cells, Pt.slots] at X17 l17 y17 z17 st17 hQ17
  obtain rfl : k17 = 30 := y17
  obtain rfl : n17 = 102 := z17
  obtain ⟨rfl, N17q, K17q, LS17q⟩ := hQ17
  rw [show ((1 : Int32) + (1 : Int32)) = (2 : Int32) from by decide] at LS17q
  have LS17 : own_LS Z T17.heap b13 ad kd _ (2 : Int32) [(.ref x10), (.ref x11), .null, .null, .null, .null, .null, .null, .null, .null] := LS17q
  have K17 : Keep h0 T17.heap [] := K16.trans K17q (fun x hx => Or.inr (by rcases List.mem_cons.mp hx with rfl | hx; exact sz_ad; cases List.mem_singleton.mp hx; exact sz_b13))
  have Z17 : n0 ≤ T17.heap.size := Nat.le_trans Z0 K17.1
  have A7_17 := A7_16.keep K17q
  have A8_17 := A8_16.keep K17q
  have A9_17 := A9_16.keep K17q
  have A10_17 := A10_16.keep K17q
  have A11_17 := A11_16.keep K17q
  have A12_17 := A12_16.keep K17q
  have qe := ninS (EPr.1.neArv LS16.2.2.2.2.1 (wd hw 55 rfl)) (ninS (EPr.1.ne LS16.1 (by decide)) nin0)
  have ql := ninS (BLr.1.neArv LS16.2.2.2.2.1 (wd hw 255 rfl)) (ninS (BLr.1.ne LS16.1 (by decide)) nin0)
  obtain ⟨lx, f0, f1⟩ := own_L1.keep BLr K17q ql
  have SEM := own_staK S_EM K17
  obtain ⟨c0, c1, c2, c3, c4, c5, c6, c7, c8, c9⟩ := EPr.keep K17q qe
  have SAC := own_staK S_AC K17
  have SCL := own_staK S_CL K17
  have N17 : Fr n0 L17 := by rw [l17]; exact Fr.app N16 N17q
  obtain ⟨cq18, kq18, q18a, q18b, q18c⟩ := isOf hZ12 rfl c0
  obtain ⟨_, _, ⟨T18, L18, k18, n18⟩, -, X18, ⟨Lc18, hQ18, l18, y18, z18⟩, st18⟩ := X17.virtualBack hx (y := mN5) (z := mN5) hown12 (mvT hZ12 (wd hw 146 rfl)) (mvT hZ12 (wd hw 147 rfl)) (notFace_of_selects (args := #[]) (mvT hZ12 (wd hw 149 rfl))) (mvT hZ12 (wd hw 149 rfl)) (mvT hZ12 (wd hw 148 rfl)) (by decide) (backOf (W := 0) (rm19 l Z a0 hw [] ep xl T17.heap n0 Z17 c4) hZ12 (wd hw 150 rfl) (wd hw 52 rfl) (by decide) (by decide)) q18a q18c (g := (mkF m 127 (own_S p1 p2 p3 p4 p5 p6 x7 x8 x9 x10 x11 x12 1 (vr b13) (vr ep) .unset .unset) [(.ref ep)])) rfl (by rw [hml]; rfl) (Steps.refl _) (argsL := []) (rest := []) (lenOf pd_0_8 rfl) rfl (by show 2 * 0 + _ ≤ _; exact Nat.le_of_eq rfl) (hb hby at_127) (fun _ _ => ⟨rfl, rfl, (by decide : 30 + 0 ≤ _), (by decide : 102 + 0 ≤ _)⟩)
  dsimp only [Pt.U, Pt.locs, Pt.cells, Pt.slots] at X18 l18 y18 z18 st18 hQ18
  obtain rfl : k18 = 30 := y18
  obtain rfl : n18 = 102 := z18
  obtain ⟨rfl, N18q, k18q⟩ := hQ18
  have N18 : Fr n0 L18 := by rw [l18]; exact Fr.app N17 N18q
  obtain ⟨cq19, kq19, q19a, q19b, q19c⟩ := isOf hZ12 k18q lx
  obtain ⟨_, _, ⟨T19, L19, k19, n19⟩, -, X19, ⟨Lc19, hQ19, l19, y19, z19⟩, st19⟩ := X18.interfaceBack hx (xi := mN46) (y := mN37) hown12 (mvT hZ12 (wd hw 151 rfl)) (mvT hZ12 (wd hw 152 rfl)) (mvT hZ12 (wd hw 153 rfl)) (mvT hZ12 (wd hw 283 rfl)) (mvT hZ12 (wd hw 284 rfl)) (mvT hZ12 (wd hw 285 rfl)) (mvT hZ12 (wd hw 286 rfl)) (mvT hZ12 (wd hw 287 rfl)) (by decide) (backOf (W := 0) (rm42t l Z a0 hw [] xl wEm wEm T17.heap n0 Z17 f1 SEM rfl) hZ12 (wd hw 288 rfl) (wd hw 256 rfl) (by decide) (by decide)) q19a q19b q19c (g := (mkF m 139 (own_S p1 p2 p3 p4 p5 p6 x7 x8 x9 x10 x11 x12 1 (vr b13) (vr ep) (vr xl) .unset) [(.ref xl)])) rfl (by rw [hml]; rfl) (Steps.refl _) (argsL := []) (rest := []) (lenOf pd_0_14 rfl) rfl (by show 2 * 0 + _ ≤ _; exact Nat.le_of_eq rfl) (hb hby at_139) (fun _ _ => ⟨rfl, k18q, (by decide : 30 + 0 ≤ _), (by decide : 102 + 0 ≤ _)⟩)
  dsimp only [Pt.U, Pt.locs, Pt.cells, Pt.slots] at X19 l19 y19 z19 st19 hQ19
  obtain rfl : k19 = 30 := y19
  obtain rfl : n19 = 102 := z19
  obtain ⟨rfl, N19q, k19q⟩ := hQ19
  have N19 : Fr n0 L19 := by rw [l19]; exact Fr.app N18 N19q
  obtain ⟨cq20, kq20, q20a, q20b, q20c⟩ := isOf hZ12 k19q lx
  obtain ⟨_, _, ⟨T20, L20, k20, n20⟩, -, X20, ⟨Lc20, hQ20, l20, y20, z20⟩, st20⟩ := X19.interfaceBack hx (xi := mN43) (y := mN36) hown12 (mvT hZ12 (wd hw 290 rfl)) (mvT hZ12 (wd hw 291 rfl)) (mvT hZ12 (wd hw 292 rfl)) (mvT hZ12 (wd hw 293 rfl)) (mvT hZ12 (wd hw 294 rfl)) (mvT hZ12 (wd hw 295 rfl)) (mvT hZ12 (wd hw 296 rfl)) (mvT hZ12 (wd hw 287 rfl)) (by decide) (backOf (W := 1) (rm43f l Z a0 hw [] xl (0 : Int32) x10 T17.heap n0 Z17 f0 rfl) hZ12 (wd hw 297 rfl) (wd hw 256 rfl) (by decide) (by decide)) q20a q20b q20c (g := (mkF m 171 (own_S p1 p2 p3 p4 p5 p6 x7 x8 x9 x10 x11 x12 1 (vr b13) (vr ep) (vr xl) (vi 1)) [(.int (0 : Int32)), (.ref xl), (.ref x10)])) rfl (by rw [hml]; rfl) (Steps.refl _) (argsL := [(.int (0 : Int32))]) (rest := [(.ref x10)]) (lenOf pd_0_30 rfl) rfl (by show 2 * 0 + _ ≤ _; exact Nat.le_of_eq rfl) (hb hby at_171) (fun _ _ => ⟨rfl, k19q, (by decide : 30 + 0 ≤ _), (by decide : 102 + 0 ≤ _)⟩)
  dsimp only [Pt.U, Pt.locs, Pt.cells, Pt.slots] at X20 l20 y20 z20 st20 hQ20
  obtain rfl : k20 = 30 := y20
  obtain rfl : n20 = 102 := z20
  obtain ⟨rfl, N20q, k20q⟩ := hQ20
  have N20 : Fr n0 L20 := by rw [l20]; exact Fr.app N19 N20q
  obtain ⟨cq21, kq21, q21a, q21b, q21c⟩ := isOf hZ12 k20q A10_17
  obtain ⟨_, _, ⟨T21, L21, k21, n21⟩, -, X21, ⟨Lc21, hQ21, l21, y21, z21⟩, st21⟩ := X20.virtualBack hx (y := mN16) (z := mN16) hown12 (mvT hZ12 (wd hw 168 rfl)) (mvT hZ12 (wd hw 169 rfl)) (notFace_of_selects (args := #[]) (mvT hZ12 (wd hw 171 rfl))) (mvT hZ12 (wd hw 171 rfl)) (mvT hZ12 (wd hw 170 rfl)) (by decide) (backOf (W := 0) (rm22 l Z a0 hw [] x10 x10 T17.heap n0 Z17 rfl) hZ12 (wd hw 172 rfl) (wd hw 6 rfl) (by decide) (by decide)) q21a q21c (g := (mkF m 176 (own_S p1 p2 p3 p4 p5 p6 x7 x8 x9 x10 x11 x12 1 (vr b13) (vr ep) (vr xl) (vi 1)) [(.ref x10), (.ref x10)])) rfl (by rw [hml]; rfl) (Steps.refl _) (argsL := [(.ref x10)]) (rest := []) (lenOf pd_0_9 rfl) rfl (by show 2 * 0 + _ ≤ _; exact Nat.le_of_eq rfl) (hb hby at_176) (fun _ _ => ⟨rfl, k20q, (by decide : 30 + 0 ≤ _), (by decide : 102 + 0 ≤ _)⟩)
  dsimp only [Pt.U, Pt.locs, Pt.cells, Pt.slots] at X21 l21 y21 z21 st21 hQ21
  obtain rfl : k21 = 30 := y21
  obtain rfl : n21 = 102 := z21
  obtain ⟨rfl, N21q, k21q⟩ := hQ21
  have N21 : Fr n0 L21 := by rw [l21]; exact Fr.app N20 N21q
  obtain ⟨cq22, kq22, q22a, q22b, q22c⟩ := isOf hZ12 k21q c0
  obtain ⟨_, _, ⟨T22, L22, k22, n22⟩, -, X22, ⟨Lc22, hQ22, l22, y22, z22⟩, st22⟩ := X21.virtualBack hx (y := mN6) (z := mN6) hown12 (mvT hZ12 (wd hw 163 rfl)) (mvT hZ12 (wd hw 164 rfl)) (notFace_of_selects (args := #[]) (mvT hZ12 (wd hw 166 rfl))) (mvT hZ12 (wd hw 166 rfl)) (mvT hZ12 (wd hw 165 rfl)) (by decide) (backOf (W := 1) (rm21 l Z a0 hw [] ep x7 T17.heap n0 Z17 c1) hZ12 (wd hw 167 rfl) (wd hw 52 rfl) (by decide) (by decide)) q22a q22c (g := (mkF m 242 (own_S p1 p2 p3 p4 p5 p6 x7 x8 x9 x10 x11 x12 1 (vr b13) (vr ep) (vr xl) (vi 1)) [(.ref ep), (.ref x7)])) rfl (by rw [hml]; rfl) (Steps.refl _) (argsL := []) (rest := [(.ref x7)]) (lenOf pd_0_15 rfl) rfl (by show 2 * 0 + _ ≤ _; exact Nat.le_of_eq rfl) (hb hby at_242) (fun _ _ => ⟨rfl, k21q, (by decide : 30 + 0 ≤ _), (by decide : 102 + 0 ≤ _)⟩)
  dsimp only [Pt.U, Pt.locs, Pt.cells, Pt.slots] at X22 l22 y22 z22 st22 hQ22
  obtain rfl : k22 = 30 := y22
  obtain rfl : n22 = 102 := z22
  obtain ⟨rfl, N22q, k22q⟩ := hQ22
  have N22 : Fr n0 L22 := by rw [l22]; exact Fr.app N21 N22q
  obtain ⟨cq23, kq23, q23a, q23b, q23c⟩ := isOf hZ12 k22q A7_17
  obtain ⟨_, _, ⟨T23, L23, k23, n23⟩, -, X23, ⟨Lc23, hQ23, l23, y23, z23⟩, st23⟩ := X22.virtualBack hx (y := mN16) (z := mN16) hown12 (mvT hZ12 (wd hw 168 rfl)) (mvT hZ12 (wd hw 169 rfl)) (notFace_of_selects (args := #[]) (mvT hZ12 (wd hw 171 rfl))) (mvT hZ12 (wd hw 171 rfl)) (mvT hZ12 (wd hw 170 rfl)) (by decide) (backOf (W := 0) (rm22 l Z a0 hw [] x7 x7 T17.heap n0 Z17 rfl) hZ12 (wd hw 172 rfl) (wd hw 6 rfl) (by decide) (by decide)) q23a q23c (g := (mkF m 245 (own_S p1 p2 p3 p4 p5 p6 x7 x8 x9 x10 x11 x12 1 (vr b13) (vr ep) (vr xl) (vi 1)) [(.ref x7), (.ref x7)])) rfl (by rw [hml]; rfl) (Steps.refl _) (argsL := [(.ref x7)]) (rest := []) (lenOf pd_0_9 rfl) rfl (by show 2 * 0 + _ ≤ _; exact Nat.le_of_eq rfl) (hb hby at_245) (fun _ _ => ⟨rfl, k22q, (by decide : 30 + 0 ≤ _), (by decide : 102 + 0 ≤ _)⟩)
  dsimp only [Pt.U, Pt.locs, Pt.cells, Pt.slots] at X23 l23 y23 z23 st23 hQ23
  obtain rfl : k23 = 30 := y23
  obtain rfl : n23 = 102 := z23
  obtain ⟨rfl, N23q, k23q⟩ := hQ23
  have N23 : Fr n0 L23 := by rw [l23]; exact Fr.app N22 N23q
  obtain ⟨cq24, kq24, q24a, q24b, q24c⟩ := isOf hZ12 k23q c0
  obtain ⟨_, _, ⟨T24, L24, k24, n24⟩, -, X24, ⟨Lc24, hQ24, l24, y24, z24⟩, st24⟩ := X23.virtualBack hx (y := mN9) (z := mN9) hown12 (mvT hZ12 (wd hw 173 rfl)) (mvT hZ12 (wd hw 174 rfl)) (notFace_of_selects (args := #[]) (mvT hZ12 (wd hw 176 rfl))) (mvT hZ12 (wd hw 176 rfl)) (mvT hZ12 (wd hw 175 rfl)) (by decide) (backOf (W := 1) (rm23 l Z a0 hw [] ep x8 T17.heap n0 Z17 c2) hZ12 (wd hw 177 rfl) (wd hw 52 rfl) (by decide) (by decide)) q24a q24c (g := (mkF m 255 (own_S p1 p2 p3 p4 p5 p6 x7 x8 x9 x10 x11 x12 1 (vr b13) (vr ep) (vr xl) (vi 1)) [(.ref ep), (.ref x8)])) rfl (by rw [hml]; rfl) (Steps.refl _) (argsL := []) (rest := [(.ref x8)]) (lenOf pd_0_15 rfl) rfl (by show 2 * 0 + _ ≤ _; exact Nat.le_of_eq rfl) (hb hby at_255) (fun _ _ => ⟨rfl, k23q, (by decide : 30 + 0 ≤ _), (by decide : 102 + 0 ≤ _)⟩)
  dsimp only [Pt.U, Pt.locs, Pt.cells, Pt.slots] at X24 l24 y24 z24 st24 hQ24
  obtain rfl : k24 = 30 := y24
  obtain rfl : n24 = 102 := z24
  obtain ⟨rfl, N24q, k24q⟩ := hQ24
  have N24 : Fr n0 L24 := by rw [l24]; exact Fr.app N23 N24q
  obtain ⟨cq25, kq25, q25a, q25b, q25c⟩ := isOf hZ12 k24q A8_17
  obtain ⟨_, _, ⟨T25, L25, k25, n25⟩, -, X25, ⟨Lc25, hQ25, l25, y25, z25⟩, st25⟩ := X24.virtualBack hx (y := mN16) (z := mN16) hown12 (mvT hZ12 (wd hw 168 rfl)) (mvT hZ12 (wd hw 169 rfl)) (notFace_of_selects (args := #[]) (mvT hZ12 (wd hw 171 rfl))) (mvT hZ12 (wd hw 171 rfl)) (mvT hZ12 (wd hw 170 rfl)) (by decide) (backOf (W := 0) (rm22 l Z a0 hw [] x8 x8 T17.heap n0 Z17 rfl) hZ12 (wd hw 172 rfl) (wd hw 6 rfl) (by decide) (by decide)) q25a q25c (g := (mkF m 258 (own_S p1 p2 p3 p4 p5 p6 x7 x8 x9 x10 x11 x12 1 (vr b13) (vr ep) (vr xl) (vi 1)) [(.ref x8), (.ref x8)])) rfl (by rw [hml]; rfl) (Steps.refl _) (argsL := [(.ref x8)]) (rest := []) (lenOf pd_0_9 rfl) rfl (by show 2 * 0 + _ ≤ _; exact Nat.le_of_eq rfl) (hb hby at_258) (fun _ _ => ⟨rfl, k24q, (by decide : 30 + 0 ≤ _), (by decide : 102 + 0 ≤ _)⟩)
  dsimp only [Pt.U, Pt.locs, Pt.cells, Pt.slots] at X25 l25 y25 z25 st25 hQ25
  obtain rfl : k25 = 30 := y25
  obtain rfl : n25 = 102 := z25
  obtain ⟨rfl, N25q, k25q⟩ := hQ25
  have N25 : Fr n0 L25 := by rw [l25]; exact Fr.app N24 N25q
  obtain ⟨cq26, kq26, q26a, q26b, q26c⟩ := isOf hZ12 k25q c0
  obtain ⟨_, _, ⟨T26, L26, k26, n26⟩, -, X26, ⟨Lc26, hQ26, l26, y26, z26⟩, st26⟩ := X25.virtualBack hx (y := mN10) (z := mN10) hown12 (mvT hZ12 (wd hw 178 rfl)) (mvT hZ12 (wd hw 179 rfl)) (notFace_of_selects (args := #[]) (mvT hZ12 (wd hw 181 rfl))) (mvT hZ12 (wd hw 181 rfl)) (mvT hZ12 (wd hw 180 rfl)) (by decide) (backOf (W := 1) (rm24 l Z a0 hw [] ep x9 T17.heap n0 Z17 c3) hZ12 (wd hw 182 rfl) (wd hw 52 rfl) (by decide) (by decide)) q26a q26c (g := (mkF m 268 (own_S p1 p2 p3 p4 p5 p6 x7 x8 x9 x10 x11 x12 1 (vr b13) (vr ep) (vr xl) (vi 1)) [(.ref ep), (.ref x9)])) rfl (by rw [hml]; rfl) (Steps.refl _) (argsL := []) (rest := [(.ref x9)]) (lenOf pd_0_15 rfl) rfl (by show 2 * 0 + _ ≤ _; exact Nat.le_of_eq rfl) (hb hby at_268) (fun _ _ => ⟨rfl, k25q, (by decide : 30 + 0 ≤ _), (by decide : 102 + 0 ≤ _)⟩)
  dsimp only [Pt.U, Pt.locs, Pt.cells, Pt.slots] at X26 l26 y26 z26 st26 hQ26
  obtain rfl : k26 = 30 := y26
  obtain rfl : n26 = 102 := z26
  obtain ⟨rfl, N26q, k26q⟩ := hQ26
  have N26 : Fr n0 L26 := by rw [l26]; exact Fr.app N25 N26q
  obtain ⟨cq27, kq27, q27a, q27b, q27c⟩ := isOf hZ12 k26q A9_17
  obtain ⟨_, _, ⟨T27, L27, k27, n27⟩, -, X27, ⟨Lc27, hQ27, l27, y27, z27⟩, st27⟩ := X26.virtualBack hx (y := mN16) (z := mN16) hown12 (mvT hZ12 (wd hw 168 rfl)) (mvT hZ12 (wd hw 169 rfl)) (notFace_of_selects (args := #[]) (mvT hZ12 (wd hw 171 rfl))) (mvT hZ12 (wd hw 171 rfl)) (mvT hZ12 (wd hw 170 rfl)) (by decide) (backOf (W := 0) (rm22 l Z a0 hw [] x9 x9 T17.heap n0 Z17 rfl) hZ12 (wd hw 172 rfl) (wd hw 6 rfl) (by decide) (by decide)) q27a q27c (g := (mkF m 271 (own_S p1 p2 p3 p4 p5 p6 x7 x8 x9 x10 x11 x12 1 (vr b13) (vr ep) (vr xl) (vi 1)) [(.ref x9), (.ref x9)])) rfl (by rw [hml]; rfl) (Steps.refl _) (argsL := [(.ref x9)]) (rest := []) (lenOf pd_0_9 rfl) rfl (by show 2 * 0 + _ ≤ _; exact Nat.le_of_eq rfl) (hb hby at_271) (fun _ _ => ⟨rfl, k26q, (by decide : 30 + 0 ≤ _), (by decide : 102 + 0 ≤ _)⟩)
  dsimp only [Pt.U, Pt.locs, Pt.cells, Pt.slots] at X27 l27 y27 z27 st27 hQ27
  obtain rfl : k27 = 30 := y27
  obtain rfl : n27 = 102 := z27
  obtain ⟨rfl, N27q, k27q⟩ := hQ27
  have N27 : Fr n0 L27 := by rw [l27]; exact Fr.app N26 N27q
  obtain ⟨cq28, kq28, q28a, q28b, q28c⟩ := isOf hZ12 k27q c0
  obtain ⟨_, _, ⟨T28, L28, k28, n28⟩, -, X28, ⟨Lc28, hQ28, l28, y28, z28⟩, st28⟩ := X27.virtualBack hx (y := mN8) (z := mN8) hown12 (mvT hZ12 (wd hw 183 rfl)) (mvT hZ12 (wd hw 184 rfl)) (notFace_of_selects (args := #[]) (mvT hZ12 (wd hw 186 rfl))) (mvT hZ12 (wd hw 186 rfl)) (mvT hZ12 (wd hw 185 rfl)) (by decide) (backOf (W := 0) (rm25 l Z a0 hw [] ep st T17.heap n0 Z17 c5) hZ12 (wd hw 187 rfl) (wd hw 52 rfl) (by decide) (by decide)) q28a q28c (g := (mkF m 291 (own_S p1 p2 p3 p4 p5 p6 x7 x8 x9 x10 x11 x12 1 (vr b13) (vr ep) (vr xl) (vi 1)) [(.ref ep)])) rfl (by rw [hml]; rfl) (Steps.refl _) (argsL := []) (rest := []) (lenOf pd_0_16 rfl) rfl (by show 2 * 0 + _ ≤ _; exact Nat.le_of_eq rfl) (hb hby at_291) (fun _ _ => ⟨rfl, k27q, (by decide : 30 + 0 ≤ _), (by decide : 102 + 0 ≤ _)⟩)
  dsimp only [Pt.U, Pt.locs, Pt.cells, Pt.slots] at X28 l28 y28 z28 st28 hQ28
  obtain rfl : k28 = 30 := y28
  obtain rfl : n28 = 102 := z28
  obtain ⟨rfl, N28q, k28q⟩ := hQ28
  have N28 : Fr n0 L28 := by rw [l28]; exact Fr.app N27 N28q
  obtain ⟨T30, X30, e30, st30⟩ := getS2 X28 hx hZ12 hown12 (host := "") (Or.inl (wd hw 188 rfl)) Via.refl k28q SAC (g := (mkF m 294 (own_S p1 p2 p3 p4 p5 p6 x7 x8 x9 x10 x11 x12 1 (vr b13) (vr ep) (vr xl) (vi 1)) [(.ref st)])) rfl (hb hby at_294)
  obtain ⟨cq31, kq31, q31a, q31b, q31c⟩ := isOf hZ12 e30 c0
  obtain ⟨_, _, ⟨T31, L31, k31, n31⟩, -, X31, ⟨Lc31, hQ31, l31, y31, z31⟩, st31⟩ := X30.virtualBack hx (y := mN4) (z := mN4) hown12 (mvT hZ12 (wd hw 189 rfl)) (mvT hZ12 (wd hw 190 rfl)) (notFace_of_selects (args := #[]) (mvT hZ12 (wd hw 192 rfl))) (mvT hZ12 (wd hw 192 rfl)) (mvT hZ12 (wd hw 191 rfl)) (by decide) (backOf (W := 0) (rm26 l Z a0 hw [] ep ep T17.heap n0 Z17 c6) hZ12 (wd hw 193 rfl) (wd hw 52 rfl) (by decide) (by decide)) q31a q31c (g := (mkF m 314 (own_S p1 p2 p3 p4 p5 p6 x7 x8 x9 x10 x11 x12 1 (vr b13) (vr ep) (vr xl) (vi 1)) [(.ref ep)])) rfl (by rw [hml]; rfl) (Steps.refl _) (argsL := []) (rest := []) (lenOf pd_0_17 rfl) rfl (by show 2 * 0 + _ ≤ _; exact Nat.le_of_eq rfl) (hb hby at_314) (fun _ _ => ⟨rfl, e30, (by decide : 30 + 0 ≤ _), (by decide : 102 + 0 ≤ _)⟩)
  dsimp only [Pt.U, Pt.locs, Pt.cells, Pt.slots] at X31 l31 y31 z31 st31 hQ31
  obtain rfl : k31 = 30 := y31
  obtain rfl : n31 = 102 := z31
  obtain ⟨rfl, N31q, k31q⟩ := hQ31
  have N31 : Fr n0 L31 := by rw [l31]; exact Fr.app N28 N31q
  obtain ⟨cq32, kq32, q32a, q32b, q32c⟩ := isOf hZ12 k31q c0
  obtain ⟨_, _, ⟨T32, L32, k32, n32⟩, -, X32, ⟨Lc32, hQ32, l32, y32, z32⟩, st32⟩ := X31.virtualBack hx (y := mN3) (z := mN3) hown12 (mvT hZ12 (wd hw 194 rfl)) (mvT hZ12 (wd hw 195 rfl)) (notFace_of_selects (args := #[]) (mvT hZ12 (wd hw 197 rfl))) (mvT hZ12 (wd hw 197 rfl)) (mvT hZ12 (wd hw 196 rfl)) (by decide) (backOf (W := 0) (rm27 l Z a0 hw [] ep ep T17.heap n0 Z17 c7) hZ12 (wd hw 198 rfl) (wd hw 52 rfl) (by decide) (by decide)) q32a q32c (g := (mkF m 334 (own_S p1 p2 p3 p4 p5 p6 x7 x8 x9 x10 x11 x12 1 (vr b13) (vr ep) (vr xl) (vi 1)) [(.ref ep)])) rfl (by rw [hml]; rfl) (Steps.refl _) (argsL := []) (rest := []) (lenOf pd_0_18 rfl) rfl (by show 2 * 0 + _ ≤ _; exact Nat.le_of_eq rfl) (hb hby at_334) (fun _ _ => ⟨rfl, k31q, (by decide : 30 + 0 ≤ _), (by decide : 102 + 0 ≤ _)⟩)
  dsimp only [Pt.U, Pt.locs, Pt.cells, Pt.slots] at X32 l32 y32 z32 st32 hQ32
  obtain rfl : k32 = 30 := y32
  obtain rfl : n32 = 102 := z32
  obtain ⟨rfl, N32q, k32q⟩ := hQ32
  have N32 : Fr n0 L32 := by rw [l32]; exact Fr.app N31 N32q
  obtain ⟨cq33, kq33, q33a, q33b, q33c⟩ := isOf hZ12 k32q c0
  obtain ⟨_, _, ⟨T33, L33, k33, n33⟩, -, X33, ⟨Lc33, hQ33, l33, y33, z33⟩, st33⟩ := X32.virtualBack hx (y := mN1) (z := mN1) hown12 (mvT hZ12 (wd hw 199 rfl)) (mvT hZ12 (wd hw 200 rfl)) (notFace_of_selects (args := #[]) (mvT hZ12 (wd hw 202 rfl))) (mvT hZ12 (wd hw 202 rfl)) (mvT hZ12 (wd hw 201 rfl)) (by decide) (backOf (W := 0) (rm28 l Z a0 hw [] ep br T17.heap n0 Z17 c8) hZ12 (wd hw 203 rfl) (wd hw 52 rfl) (by decide) (by decide)) q33a q33c (g := (mkF m 354 (own_S p1 p2 p3 p4 p5 p6 x7 x8 x9 x10 x11 x12 1 (vr b13) (vr ep) (vr xl) (vi 1)) [(.ref ep)])) rfl (by rw [hml]; rfl) (Steps.refl _) (argsL := []) (rest := []) (lenOf pd_0_19 rfl) rfl (by show 2 * 0 + _ ≤ _; exact Nat.le_of_eq rfl) (hb hby at_354) (fun _ _ => ⟨rfl, k32q, (by decide : 30 + 0 ≤ _), (by decide : 102 + 0 ≤ _)⟩)
  dsimp only [Pt.U, Pt.locs, Pt.cells, Pt.slots] at X33 l33 y33 z33 st33 hQ33
  obtain rfl : k33 = 30 := y33
  obtain rfl : n33 = 102 := z33
  obtain ⟨rfl, N33q, k33q⟩ := hQ33
  have N33 : Fr n0 L33 := by rw [l33]; exact Fr.app N32 N33q
  obtain ⟨T35, X35, e35, st35⟩ := getS2 X33 hx hZ12 hown12 (host := "") (Or.inl (wd hw 204 rfl)) Via.refl k33q SCL (g := (mkF m 357 (own_S p1 p2 p3 p4 p5 p6 x7 x8 x9 x10 x11 x12 1 (vr b13) (vr ep) (vr xl) (vi 1)) [(.ref br)])) rfl (hb hby at_357)
  obtain ⟨cq36, kq36, q36a, q36b, q36c⟩ := isOf hZ12 e35 c0
  obtain ⟨_, _, ⟨T36, L36, k36, n36⟩, -, X36, ⟨Lc36, hQ36, l36, y36, z36⟩, st36⟩ := X35.virtualBack hx (y := mN2) (z := mN2) hown12 (mvT hZ12 (wd hw 205 rfl)) (mvT hZ12 (wd hw 206 rfl)) (notFace_of_selects (args := #[]) (mvT hZ12 (wd hw 208 rfl))) (mvT hZ12 (wd hw 208 rfl)) (mvT hZ12 (wd hw 207 rfl)) (by decide) (backOf (W := 0) (rm29 l Z a0 hw [] ep (0 : Int32) T17.heap n0 Z17 c9) hZ12 (wd hw 209 rfl) (wd hw 52 rfl) (by decide) (by decide)) q36a q36c (g := (mkF m 377 (own_S p1 p2 p3 p4 p5 p6 x7 x8 x9 x10 x11 x12 1 (vr b13) (vr ep) (vr xl) (vi 1)) [(.ref ep)])) rfl (by rw [hml]; rfl) (Steps.refl _) (argsL := []) (rest := []) (lenOf pd_0_14 rfl) rfl (by show 2 * 0 + _ ≤ _; exact Nat.le_of_eq rfl) (hb hby at_377) (fun _ _ => ⟨rfl, e35, (by decide : 30 + 0 ≤ _), (by decide : 102 + 0 ≤ _)⟩)
  dsimp only [Pt.U, Pt.locs, Pt.cells, Pt.slots] at X36 l36 y36 z36 st36 hQ36
  obtain rfl : k36 = 30 := y36
  obtain rfl : n36 = 102 := z36
  obtain ⟨rfl, N36q, k36q⟩ := hQ36
  have N36 : Fr n0 L36 := by rw [l36]; exact Fr.app N33 N36q
  obtain ⟨fs, hr, hrun, hended, hEnd⟩ := X36.leaveW hS12 (by rw [k36q]; exact (Nat.le_trans E13.1 (Nat.le_trans K14q.1 (Nat.le_trans K15q.1 (Nat.le_trans K16q.1 K17q.1))))) (v := some (.int (1 : Int32))) (fun h => by rw [Bd.returns] at h; cases h)
  refine ⟨_, _, pre0 _ ?_, hrun, hended, _, _, rfl, ?_, own_monoW hEnd (by decide) (by decide)⟩
  · show Steps p.tables e below (s₁.setTop (mkF m 0 #[.val (.int p1), .val (.int p2), .val (.int p3), .val (.int p4), .val (.int p5), .val (.int p6), .unset, .unset, .unset, .unset, .unset, .unset, .unset, .unset, .unset, .unset, .unset] [])) _
    refine XS.iloadN X0.here hx rfl (hb hby at_0) rfl ?_
    show Steps p.tables e below (s₁.setTop (mkF m 1 #[.val (.int p1), .val (.int p2), .val (.int p3), .val (.int p4), .val (.int p5), .val (.int p6), .unset, .unset, .unset, .unset, .unset, .unset, .unset, .unset, .unset, .unset, .unset] [(.int p1)])) _
    refine st7.trans ?_
    show Steps p.tables e below (T7.setTop (mkF m 4 #[.val (.int p1), .val (.int p2), .val (.int p3), .val (.int p4), .val (.int p5), .val (.int p6), .unset, .unset, .unset, .unset, .unset, .unset, .unset, .unset, .unset, .unset, .unset] [(.ref x7)])) _
    refine XS.astore X7.here hx rfl (hb hby at_4) rfl rfl (l' := #[.val (.int p1), .val (.int p2), .val (.int p3), .val (.int p4), .val (.int p5), .val (.int p6), .val (.ref x7), .unset, .unset, .unset, .unset, .unset, .unset, .unset, .unset, .unset, .unset]) rfl ?_
    refine XS.iloadN X7.here hx rfl (hb hby at_6) rfl ?_
    show Steps p.tables e below (T7.setTop (mkF m 7 #[.val (.int p1), .val (.int p2), .val (.int p3), .val (.int p4), .val (.int p5), .val (.int p6), .val (.ref x7), .unset, .unset, .unset, .unset, .unset, .unset, .unset, .unset, .unset, .unset] [(.int p2)])) _
    refine st8.trans ?_
    show Steps p.tables e below (T8.setTop (mkF m 10 #[.val (.int p1), .val (.int p2), .val (.int p3), .val (.int p4), .val (.int p5), .val (.int p6), .val (.ref x7), .unset, .unset, .unset, .unset, .unset, .unset, .unset, .unset, .unset, .unset] [(.ref x8)])) _
    refine XS.astore X8.here hx rfl (hb hby at_10) rfl rfl (l' := #[.val (.int p1), .val (.int p2), .val (.int p3), .val (.int p4), .val (.int p5), .val (.int p6), .val (.ref x7), .val (.ref x8), .unset, .unset, .unset, .unset, .unset, .unset, .unset, .unset, .unset]) rfl ?_
    refine XS.iloadN X8.here hx rfl (hb hby at_12) rfl ?_
    show Steps p.tables e below (T8.setTop (mkF m 13 #[.val (.int p1), .val (.int p2), .val (.int p3), .val (.int p4), .val (.int p5), .val (.int p6), .val (.ref x7), .val (.ref x8), .unset, .unset, .unset, .unset, .unset, .unset, .unset, .unset, .unset] [(.int p3)])) _
    refine st9.trans ?_
    show Steps p.tables e below (T9.setTop (mkF m 16 #[.val (.int p1), .val (.int p2), .val (.int p3), .val (.int p4), .val (.int p5), .val (.int p6), .val (.ref x7), .val (.ref x8), .unset, .unset, .unset, .unset, .unset, .unset, .unset, .unset, .unset] [(.ref x9)])) _
    refine XS.astore X9.here hx rfl (hb hby at_16) rfl rfl (l' := #[.val (.int p1), .val (.int p2), .val (.int p3), .val (.int p4), .val (.int p5), .val (.int p6), .val (.ref x7), .val (.ref x8), .val (.ref x9), .unset, .unset, .unset, .unset, .unset, .unset, .unset, .unset]) rfl ?_
    refine XS.iloadN X9.here hx rfl (hb hby at_18) rfl ?_
    show Steps p.tables e below (T9.setTop (mkF m 19 #[.val (.int p1), .val (.int p2), .val (.int p3), .val (.int p4), .val (.int p5), .val (.int p6), .val (.ref x7), .val (.ref x8), .val (.ref x9), .unset, .unset, .unset, .unset, .unset, .unset, .unset, .unset] [(.int p4)])) _
    refine st10.trans ?_
    show Steps p.tables e below (T10.setTop (mkF m 22 #[.val (.int p1), .val (.int p2), .val (.int p3), .val (.int p4), .val (.int p5), .val (.int p6), .val (.ref x7), .val (.ref x8), .val (.ref x9), .unset, .unset, .unset, .unset, .unset, .unset, .unset, .unset] [(.ref x10)])) _
    refine XS.astore X10.here hx rfl (hb hby at_22) rfl rfl (l' := #[.val (.int p1), .val (.int p2), .val (.int p3), .val (.int p4), .val (.int p5), .val (.int p6), .val (.ref x7), .val (.ref x8), .val (.ref x9), .val (.ref x10), .unset, .unset, .unset, .unset, .unset, .unset, .unset]) rfl ?_
    refine XS.iload X10.here hx rfl (hb hby at_24) rfl ?_
    show Steps p.tables e below (T10.setTop (mkF m 26 #[.val (.int p1), .val (.int p2), .val (.int p3), .val (.int p4), .val (.int p5), .val (.int p6), .val (.ref x7), .val (.ref x8), .val (.ref x9), .val (.ref x10), .unset, .unset, .unset, .unset, .unset, .unset, .unset] [(.int p5)])) _
    refine st11.trans ?_
    show Steps p.tables e below (T11.setTop (mkF m 29 #[.val (.int p1), .val (.int p2), .val (.int p3), .val (.int p4), .val (.int p5), .val (.int p6), .val (.ref x7), .val (.ref x8), .val (.ref x9), .val (.ref x10), .unset, .unset, .unset, .unset, .unset, .unset, .unset] [(.ref x11)])) _
    refine XS.astore X11.here hx rfl (hb hby at_29) rfl rfl (l' := #[.val (.int p1), .val (.int p2), .val (.int p3), .val (.int p4), .val (.int p5), .val (.int p6), .val (.ref x7), .val (.ref x8), .val (.ref x9), .val (.ref x10), .val (.ref x11), .unset, .unset, .unset, .unset, .unset, .unset]) rfl ?_
    refine XS.iload X11.here hx rfl (hb hby at_31) rfl ?_
    show Steps p.tables e below (T11.setTop (mkF m 33 #[.val (.int p1), .val (.int p2), .val (.int p3), .val (.int p4), .val (.int p5), .val (.int p6), .val (.ref x7), .val (.ref x8), .val (.ref x9), .val (.ref x10), .val (.ref x11), .unset, .unset, .unset, .unset, .unset, .unset] [(.int p6)])) _
    refine st12.trans ?_
    show Steps p.tables e below (T12.setTop (mkF m 36 #[.val (.int p1), .val (.int p2), .val (.int p3), .val (.int p4), .val (.int p5), .val (.int p6), .val (.ref x7), .val (.ref x8), .val (.ref x9), .val (.ref x10), .val (.ref x11), .unset, .unset, .unset, .unset, .unset, .unset] [(.ref x12)])) _
    refine XS.astore X12.here hx rfl (hb hby at_36) rfl rfl (l' := #[.val (.int p1), .val (.int p2), .val (.int p3), .val (.int p4), .val (.int p5), .val (.int p6), .val (.ref x7), .val (.ref x8), .val (.ref x9), .val (.ref x10), .val (.ref x11), .val (.ref x12), .unset, .unset, .unset, .unset, .unset]) rfl ?_
    refine XS.iloadN X12.here hx rfl (hb hby at_38) rfl ?_
    show Steps p.tables e below (T12.setTop (mkF m 39 #[.val (.int p1), .val (.int p2), .val (.int p3), .val (.int p4), .val (.int p5), .val (.int p6), .val (.ref x7), .val (.ref x8), .val (.ref x9), .val (.ref x10), .val (.ref x11), .val (.ref x12), .unset, .unset, .unset, .unset, .unset] [(.int p4)])) _
    refine XS.bipush X12.here hx rfl (hb hby at_39) ?_
    refine XS.iushr X12.here hx rfl (hb hby at_41) rfl ?_
    show Steps p.tables e below (T12.setTop (mkF m 42 #[.val (.int p1), .val (.int p2), .val (.int p3), .val (.int p4), .val (.int p5), .val (.int p6), .val (.ref x7), .val (.ref x8), .val (.ref x9), .val (.ref x10), .val (.ref x11), .val (.ref x12), .unset, .unset, .unset, .unset, .unset] [(.int ((p4.toUInt32 >>> ((24 : Int32) &&& 31).toUInt32).toInt32))])) _
    refine XS.iconst X12.here hx rfl (hb hby at_42) ?_
    refine XS.iand X12.here hx rfl (hb hby at_43) rfl ?_
    show Steps p.tables e below (T12.setTop (mkF m 44 #[.val (.int p1), .val (.int p2), .val (.int p3), .val (.int p4), .val (.int p5), .val (.int p6), .val (.ref x7), .val (.ref x8), .val (.ref x9), .val (.ref x10), .val (.ref x11), .val (.ref x12), .unset, .unset, .unset, .unset, .unset] [(.int (((p4.toUInt32 >>> ((24 : Int32) &&& 31).toUInt32).toInt32) &&& (3 : Int32)))])) _
    rw [hn]
    show Steps p.tables e below (T12.setTop (mkF m 44 #[.val (.int p1), .val (.int p2), .val (.int p3), .val (.int p4), .val (.int p5), .val (.int p6), .val (.ref x7), .val (.ref x8), .val (.ref x9), .val (.ref x10), .val (.ref x11), .val (.ref x12), .unset, .unset, .unset, .unset, .unset] [(.int (1 : Int32))])) _
    refine XS.istore X12.here hx rfl (hb hby at_44) rfl (l' := (own_S p1 p2 p3 p4 p5 p6 x7 x8 x9 x10 x11 x12 1 .unset .unset .unset .unset)) rfl ?_
    show Steps p.tables e below (T12.setTop (mkF m 46 (own_S p1 p2 p3 p4 p5 p6 x7 x8 x9 x10 x11 x12 1 .unset .unset .unset .unset) [])) _
    refine st13 _ ?_
    show Steps p.tables e below (T13.setTop (mkF m 49 (own_S p1 p2 p3 p4 p5 p6 x7 x8 x9 x10 x11 x12 1 .unset .unset .unset .unset) [(.ref b13)])) _
    refine XS.dup X13.here hx rfl (hb hby at_49) rfl rfl ?_
    show Steps p.tables e below (T13.setTop (mkF m 50 (own_S p1 p2 p3 p4 p5 p6 x7 x8 x9 x10 x11 x12 1 .unset .unset .unset .unset) [(.ref b13), (.ref b13)])) _
    refine st14.trans ?_
    show Steps p.tables e below (T14.setTop (mkF m 53 (own_S p1 p2 p3 p4 p5 p6 x7 x8 x9 x10 x11 x12 1 .unset .unset .unset .unset) [(.ref b13)])) _
    refine XS.astore X14.here hx rfl (hb hby at_53) rfl rfl (l' := (own_S p1 p2 p3 p4 p5 p6 x7 x8 x9 x10 x11 x12 1 (vr b13) .unset .unset .unset)) rfl ?_
    refine XS.iload X14.here hx rfl (hb hby at_55) rfl ?_
    show Steps p.tables e below (T14.setTop (mkF m 57 (own_S p1 p2 p3 p4 p5 p6 x7 x8 x9 x10 x11 x12 1 (vr b13) .unset .unset .unset) [(.int (1 : Int32))])) _
    refine XS.ifNo X14.here hx rfl (hb hby at_57) rfl ((if0 _ _).trans (tlt (by decide : (0 : Int32) < (1 : Int32))).2.2.2) ?_
    refine XS.aload X14.here hx rfl (hb hby at_60) rfl rfl ?_
    show Steps p.tables e below (T14.setTop (mkF m 62 (own_S p1 p2 p3 p4 p5 p6 x7 x8 x9 x10 x11 x12 1 (vr b13) .unset .unset .unset) [(.ref b13)])) _
    refine XS.aload X14.here hx rfl (hb hby at_62) rfl rfl ?_
    show Steps p.tables e below (T14.setTop (mkF m 64 (own_S p1 p2 p3 p4 p5 p6 x7 x8 x9 x10 x11 x12 1 (vr b13) .unset .unset .unset) [(.ref x10), (.ref b13)])) _
    refine st15.trans ?_
    show Steps p.tables e below (T15.setTop (mkF m 69 (own_S p1 p2 p3 p4 p5 p6 x7 x8 x9 x10 x11 x12 1 (vr b13) .unset .unset .unset) [(.int (1 : Int32))])) _
    refine XS.pop X15.here hx rfl (hb hby at_69) rfl rfl ?_
    refine XS.iload X15.here hx rfl (hb hby at_70) rfl ?_
    show Steps p.tables e below (T15.setTop (mkF m 72 (own_S p1 p2 p3 p4 p5 p6 x7 x8 x9 x10 x11 x12 1 (vr b13) .unset .unset .unset) [(.int (1 : Int32))])) _
    refine XS.iconst X15.here hx rfl (hb hby at_72) ?_
    refine XS.icmpYes X15.here hx rfl (pc0 := 73) (pc' := 86) rfl (hb hby at_73) rfl (flt (by decide : ¬ ((1 : Int32) < (1 : Int32)))).2.2.2 (by decide) (by decide) ?_
    show Steps p.tables e below (T15.setTop (mkF m 86 (own_S p1 p2 p3 p4 p5 p6 x7 x8 x9 x10 x11 x12 1 (vr b13) .unset .unset .unset) [])) _
    refine XS.iload X15.here hx rfl (hb hby at_86) rfl ?_
    refine XS.iconst X15.here hx rfl (hb hby at_88) ?_
    show Steps p.tables e below (T15.setTop (mkF m 89 (own_S p1 p2 p3 p4 p5 p6 x7 x8 x9 x10 x11 x12 1 (vr b13) .unset .unset .unset) [(.int (2 : Int32)), (.int (1 : Int32))])) _
    refine XS.icmpYes X15.here hx rfl (pc0 := 89) (pc' := 102) rfl (hb hby at_89) rfl (flt (by decide : ¬ ((2 : Int32) < (1 : Int32)))).2.2.2 (by decide) (by decide) ?_
    refine XS.aload X15.here hx rfl (hb hby at_102) rfl rfl ?_
    show Steps p.tables e below (T15.setTop (mkF m 104 (own_S p1 p2 p3 p4 p5 p6 x7 x8 x9 x10 x11 x12 1 (vr b13) .unset .unset .unset) [(.ref x7)])) _
    refine XS.aload X15.here hx rfl (hb hby at_104) rfl rfl ?_
    refine XS.aload X15.here hx rfl (hb hby at_106) rfl rfl ?_
    show Steps p.tables e below (T15.setTop (mkF m 108 (own_S p1 p2 p3 p4 p5 p6 x7 x8 x9 x10 x11 x12 1 (vr b13) .unset .unset .unset) [(.ref x9), (.ref x8), (.ref x7)])) _
    refine XS.aload X15.here hx rfl (hb hby at_108) rfl rfl ?_
    show Steps p.tables e below (T15.setTop (mkF m 110 (own_S p1 p2 p3 p4 p5 p6 x7 x8 x9 x10 x11 x12 1 (vr b13) .unset .unset .unset) [(.ref b13), (.ref x9), (.ref x8), (.ref x7)])) _
    refine st16 _ ?_
    show Steps p.tables e below (T16.setTop (mkF m 113 (own_S p1 p2 p3 p4 p5 p6 x7 x8 x9 x10 x11 x12 1 (vr b13) .unset .unset .unset) [(.ref ep)])) _
    refine XS.astore X16.here hx rfl (hb hby at_113) rfl rfl (l' := (own_S p1 p2 p3 p4 p5 p6 x7 x8 x9 x10 x11 x12 1 (vr b13) (vr ep) .unset .unset)) rfl ?_
    refine XS.aload X16.here hx rfl (hb hby at_115) rfl rfl ?_
    show Steps p.tables e below (T16.setTop (mkF m 117 (own_S p1 p2 p3 p4 p5 p6 x7 x8 x9 x10 x11 x12 1 (vr b13) (vr ep) .unset .unset) [(.ref b13)])) _
    refine XS.aload X16.here hx rfl (hb hby at_117) rfl rfl ?_
    show Steps p.tables e below (T16.setTop (mkF m 119 (own_S p1 p2 p3 p4 p5 p6 x7 x8 x9 x10 x11 x12 1 (vr b13) (vr ep) .unset .unset) [(.ref x11), (.ref b13)])) _
    refine st17.trans ?_
    show Steps p.tables e below (T17.setTop (mkF m 124 (own_S p1 p2 p3 p4 p5 p6 x7 x8 x9 x10 x11 x12 1 (vr b13) (vr ep) .unset .unset) [(.int (1 : Int32))])) _
    refine XS.pop X17.here hx rfl (hb hby at_124) rfl rfl ?_
    refine XS.aload X17.here hx rfl (hb hby at_125) rfl rfl ?_
    show Steps p.tables e below (T17.setTop (mkF m 127 (own_S p1 p2 p3 p4 p5 p6 x7 x8 x9 x10 x11 x12 1 (vr b13) (vr ep) .unset .unset) [(.ref ep)])) _
    refine st18.trans ?_
    show Steps p.tables e below (T18.setTop (mkF m 130 (own_S p1 p2 p3 p4 p5 p6 x7 x8 x9 x10 x11 x12 1 (vr b13) (vr ep) .unset .unset) [(.ref xl)])) _
    refine XS.astore X18.here hx rfl (hb hby at_130) rfl rfl (l' := (own_S p1 p2 p3 p4 p5 p6 x7 x8 x9 x10 x11 x12 1 (vr b13) (vr ep) (vr xl) .unset)) rfl ?_
    refine XS.aload X18.here hx rfl (hb hby at_132) rfl rfl ?_
    show Steps p.tables e below (T18.setTop (mkF m 134 (own_S p1 p2 p3 p4 p5 p6 x7 x8 x9 x10 x11 x12 1 (vr b13) (vr ep) (vr xl) .unset) [(.ref xl)])) _
    refine XS.ifnullNo X18.here hx rfl (hb hby at_134) rfl ?_
    refine XS.aload X18.here hx rfl (hb hby at_137) rfl rfl ?_
    show Steps p.tables e below (T18.setTop (mkF m 139 (own_S p1 p2 p3 p4 p5 p6 x7 x8 x9 x10 x11 x12 1 (vr b13) (vr ep) (vr xl) .unset) [(.ref xl)])) _
    refine st19.trans ?_
    show Steps p.tables e below (T19.setTop (mkF m 144 (own_S p1 p2 p3 p4 p5 p6 x7 x8 x9 x10 x11 x12 1 (vr b13) (vr ep) (vr xl) .unset) [(.int (1 : Int32))])) _
    refine XS.iload X19.here hx rfl (hb hby at_144) rfl ?_
    refine XS.icmpNo X19.here hx rfl (hb hby at_146) rfl (teq (by decide : (1 : Int32) = (1 : Int32))).2 ?_
    show Steps p.tables e below (T19.setTop (mkF m 149 (own_S p1 p2 p3 p4 p5 p6 x7 x8 x9 x10 x11 x12 1 (vr b13) (vr ep) (vr xl) .unset) [])) _
    refine XS.iconst X19.here hx rfl (hb hby at_149) ?_
    refine XS.goto X19.here hx rfl (pc0 := 150) (pc' := 154) rfl (hb hby at_150) (by decide) (by decide) ?_
    show Steps p.tables e below (T19.setTop (mkF m 154 (own_S p1 p2 p3 p4 p5 p6 x7 x8 x9 x10 x11 x12 1 (vr b13) (vr ep) (vr xl) .unset) [(.int (1 : Int32))])) _
    refine XS.istore X19.here hx rfl (hb hby at_154) rfl (l' := (own_S p1 p2 p3 p4 p5 p6 x7 x8 x9 x10 x11 x12 1 (vr b13) (vr ep) (vr xl) (vi 1))) rfl ?_
    refine XS.iload X19.here hx rfl (hb hby at_156) rfl ?_
    show Steps p.tables e below (T19.setTop (mkF m 158 (own_S p1 p2 p3 p4 p5 p6 x7 x8 x9 x10 x11 x12 1 (vr b13) (vr ep) (vr xl) (vi 1)) [(.int (1 : Int32))])) _
    refine XS.ifNo X19.here hx rfl (hb hby at_158) rfl ((if0 _ _).trans (feq (by decide : ¬ ((1 : Int32) = (0 : Int32)))).1) ?_
    refine XS.iload X19.here hx rfl (hb hby at_161) rfl ?_
    show Steps p.tables e below (T19.setTop (mkF m 163 (own_S p1 p2 p3 p4 p5 p6 x7 x8 x9 x10 x11 x12 1 (vr b13) (vr ep) (vr xl) (vi 1)) [(.int (1 : Int32))])) _
    refine XS.ifNo X19.here hx rfl (hb hby at_163) rfl ((if0 _ _).trans (tlt (by decide : (0 : Int32) < (1 : Int32))).2.2.2) ?_
    refine XS.aload X19.here hx rfl (hb hby at_166) rfl rfl ?_
    show Steps p.tables e below (T19.setTop (mkF m 168 (own_S p1 p2 p3 p4 p5 p6 x7 x8 x9 x10 x11 x12 1 (vr b13) (vr ep) (vr xl) (vi 1)) [(.ref x10)])) _
    refine XS.aload X19.here hx rfl (hb hby at_168) rfl rfl ?_
    refine XS.iconst X19.here hx rfl (hb hby at_170) ?_
    show Steps p.tables e below (T19.setTop (mkF m 171 (own_S p1 p2 p3 p4 p5 p6 x7 x8 x9 x10 x11 x12 1 (vr b13) (vr ep) (vr xl) (vi 1)) [(.int (0 : Int32)), (.ref xl), (.ref x10)])) _
    refine st20.trans ?_
    show Steps p.tables e below (T20.setTop (mkF m 176 (own_S p1 p2 p3 p4 p5 p6 x7 x8 x9 x10 x11 x12 1 (vr b13) (vr ep) (vr xl) (vi 1)) [(.ref x10), (.ref x10)])) _
    refine st21.trans ?_
    show Steps p.tables e below (T21.setTop (mkF m 179 (own_S p1 p2 p3 p4 p5 p6 x7 x8 x9 x10 x11 x12 1 (vr b13) (vr ep) (vr xl) (vi 1)) [(.int (1 : Int32))])) _
    refine XS.istore X21.here hx rfl (hb hby at_179) rfl (l' := (own_S p1 p2 p3 p4 p5 p6 x7 x8 x9 x10 x11 x12 1 (vr b13) (vr ep) (vr xl) (vi 1))) rfl ?_
    refine XS.iload X21.here hx rfl (hb hby at_181) rfl ?_
    show Steps p.tables e below (T21.setTop (mkF m 183 (own_S p1 p2 p3 p4 p5 p6 x7 x8 x9 x10 x11 x12 1 (vr b13) (vr ep) (vr xl) (vi 1)) [(.int (1 : Int32))])) _
    refine XS.ifNo X21.here hx rfl (hb hby at_183) rfl ((if0 _ _).trans (feq (by decide : ¬ ((1 : Int32) = (0 : Int32)))).1) ?_
    refine XS.iload X21.here hx rfl (hb hby at_186) rfl ?_
    show Steps p.tables e below (T21.setTop (mkF m 188 (own_S p1 p2 p3 p4 p5 p6 x7 x8 x9 x10 x11 x12 1 (vr b13) (vr ep) (vr xl) (vi 1)) [(.int (1 : Int32))])) _
    refine XS.iconst X21.here hx rfl (hb hby at_188) ?_
    refine XS.icmpYes X21.here hx rfl (pc0 := 189) (pc' := 207) rfl (hb hby at_189) rfl (flt (by decide : ¬ ((1 : Int32) < (1 : Int32)))).2.2.2 (by decide) (by decide) ?_
    show Steps p.tables e below (T21.setTop (mkF m 207 (own_S p1 p2 p3 p4 p5 p6 x7 x8 x9 x10 x11 x12 1 (vr b13) (vr ep) (vr xl) (vi 1)) [])) _
    refine XS.iload X21.here hx rfl (hb hby at_207) rfl ?_
    refine XS.ifNo X21.here hx rfl (hb hby at_209) rfl ((if0 _ _).trans (feq (by decide : ¬ ((1 : Int32) = (0 : Int32)))).1) ?_
    show Steps p.tables e below (T21.setTop (mkF m 212 (own_S p1 p2 p3 p4 p5 p6 x7 x8 x9 x10 x11 x12 1 (vr b13) (vr ep) (vr xl) (vi 1)) [])) _
    refine XS.iload X21.here hx rfl (hb hby at_212) rfl ?_
    refine XS.iconst X21.here hx rfl (hb hby at_214) ?_
    show Steps p.tables e below (T21.setTop (mkF m 215 (own_S p1 p2 p3 p4 p5 p6 x7 x8 x9 x10 x11 x12 1 (vr b13) (vr ep) (vr xl) (vi 1)) [(.int (2 : Int32)), (.int (1 : Int32))])) _
    refine XS.icmpYes X21.here hx rfl (pc0 := 215) (pc' := 233) rfl (hb hby at_215) rfl (flt (by decide : ¬ ((2 : Int32) < (1 : Int32)))).2.2.2 (by decide) (by decide) ?_
    refine XS.iload X21.here hx rfl (hb hby at_233) rfl ?_
    show Steps p.tables e below (T21.setTop (mkF m 235 (own_S p1 p2 p3 p4 p5 p6 x7 x8 x9 x10 x11 x12 1 (vr b13) (vr ep) (vr xl) (vi 1)) [(.int (1 : Int32))])) _
    refine XS.ifNo X21.here hx rfl (hb hby at_235) rfl ((if0 _ _).trans (feq (by decide : ¬ ((1 : Int32) = (0 : Int32)))).1) ?_
    refine XS.aload X21.here hx rfl (hb hby at_238) rfl rfl ?_
    show Steps p.tables e below (T21.setTop (mkF m 240 (own_S p1 p2 p3 p4 p5 p6 x7 x8 x9 x10 x11 x12 1 (vr b13) (vr ep) (vr xl) (vi 1)) [(.ref x7)])) _
    refine XS.aload X21.here hx rfl (hb hby at_240) rfl rfl ?_
    show Steps p.tables e below (T21.setTop (mkF m 242 (own_S p1 p2 p3 p4 p5 p6 x7 x8 x9 x10 x11 x12 1 (vr b13) (vr ep) (vr xl) (vi 1)) [(.ref ep), (.ref x7)])) _
    refine st22.trans ?_
    show Steps p.tables e below (T22.setTop (mkF m 245 (own_S p1 p2 p3 p4 p5 p6 x7 x8 x9 x10 x11 x12 1 (vr b13) (vr ep) (vr xl) (vi 1)) [(.ref x7), (.ref x7)])) _
    refine st23.trans ?_
    show Steps p.tables e below (T23.setTop (mkF m 248 (own_S p1 p2 p3 p4 p5 p6 x7 x8 x9 x10 x11 x12 1 (vr b13) (vr ep) (vr xl) (vi 1)) [(.int (1 : Int32))])) _
    refine XS.ifNo X23.here hx rfl (hb hby at_248) rfl ((if0 _ _).trans (feq (by decide : ¬ ((1 : Int32) = (0 : Int32)))).1) ?_
    refine XS.aload X23.here hx rfl (hb hby at_251) rfl rfl ?_
    show Steps p.tables e below (T23.setTop (mkF m 253 (own_S p1 p2 p3 p4 p5 p6 x7 x8 x9 x10 x11 x12 1 (vr b13) (vr ep) (vr xl) (vi 1)) [(.ref x8)])) _
    refine XS.aload X23.here hx rfl (hb hby at_253) rfl rfl ?_
    show Steps p.tables e below (T23.setTop (mkF m 255 (own_S p1 p2 p3 p4 p5 p6 x7 x8 x9 x10 x11 x12 1 (vr b13) (vr ep) (vr xl) (vi 1)) [(.ref ep), (.ref x8)])) _
    refine st24.trans ?_
    show Steps p.tables e below (T24.setTop (mkF m 258 (own_S p1 p2 p3 p4 p5 p6 x7 x8 x9 x10 x11 x12 1 (vr b13) (vr ep) (vr xl) (vi 1)) [(.ref x8), (.ref x8)])) _
    refine st25.trans ?_
    show Steps p.tables e below (T25.setTop (mkF m 261 (own_S p1 p2 p3 p4 p5 p6 x7 x8 x9 x10 x11 x12 1 (vr b13) (vr ep) (vr xl) (vi 1)) [(.int (1 : Int32))])) _
    refine XS.ifNo X25.here hx rfl (hb hby at_261) rfl ((if0 _ _).trans (feq (by decide : ¬ ((1 : Int32) = (0 : Int32)))).1) ?_
    refine XS.aload X25.here hx rfl (hb hby at_264) rfl rfl ?_
    show Steps p.tables e below (T25.setTop (mkF m 266 (own_S p1 p2 p3 p4 p5 p6 x7 x8 x9 x10 x11 x12 1 (vr b13) (vr ep) (vr xl) (vi 1)) [(.ref x9)])) _
    refine XS.aload X25.here hx rfl (hb hby at_266) rfl rfl ?_
    show Steps p.tables e below (T25.setTop (mkF m 268 (own_S p1 p2 p3 p4 p5 p6 x7 x8 x9 x10 x11 x12 1 (vr b13) (vr ep) (vr xl) (vi 1)) [(.ref ep), (.ref x9)])) _
    refine st26.trans ?_
    show Steps p.tables e below (T26.setTop (mkF m 271 (own_S p1 p2 p3 p4 p5 p6 x7 x8 x9 x10 x11 x12 1 (vr b13) (vr ep) (vr xl) (vi 1)) [(.ref x9), (.ref x9)])) _
    refine st27.trans ?_
    show Steps p.tables e below (T27.setTop (mkF m 274 (own_S p1 p2 p3 p4 p5 p6 x7 x8 x9 x10 x11 x12 1 (vr b13) (vr ep) (vr xl) (vi 1)) [(.int (1 : Int32))])) _
    refine XS.ifNo X27.here hx rfl (hb hby at_274) rfl ((if0 _ _).trans (feq (by decide : ¬ ((1 : Int32) = (0 : Int32)))).1) ?_
    refine XS.iconst X27.here hx rfl (hb hby at_277) ?_
    show Steps p.tables e below (T27.setTop (mkF m 278 (own_S p1 p2 p3 p4 p5 p6 x7 x8 x9 x10 x11 x12 1 (vr b13) (vr ep) (vr xl) (vi 1)) [(.int (1 : Int32))])) _
    refine XS.goto X27.here hx rfl (pc0 := 278) (pc' := 282) rfl (hb hby at_278) (by decide) (by decide) ?_
    refine XS.istore X27.here hx rfl (hb hby at_282) rfl (l' := (own_S p1 p2 p3 p4 p5 p6 x7 x8 x9 x10 x11 x12 1 (vr b13) (vr ep) (vr xl) (vi 1))) rfl ?_
    show Steps p.tables e below (T27.setTop (mkF m 284 (own_S p1 p2 p3 p4 p5 p6 x7 x8 x9 x10 x11 x12 1 (vr b13) (vr ep) (vr xl) (vi 1)) [])) _
    refine XS.iload X27.here hx rfl (hb hby at_284) rfl ?_
    refine XS.ifNo X27.here hx rfl (hb hby at_286) rfl ((if0 _ _).trans (feq (by decide : ¬ ((1 : Int32) = (0 : Int32)))).1) ?_
    show Steps p.tables e below (T27.setTop (mkF m 289 (own_S p1 p2 p3 p4 p5 p6 x7 x8 x9 x10 x11 x12 1 (vr b13) (vr ep) (vr xl) (vi 1)) [])) _
    refine XS.aload X27.here hx rfl (hb hby at_289) rfl rfl ?_
    show Steps p.tables e below (T27.setTop (mkF m 291 (own_S p1 p2 p3 p4 p5 p6 x7 x8 x9 x10 x11 x12 1 (vr b13) (vr ep) (vr xl) (vi 1)) [(.ref ep)])) _
    refine st28.trans ?_
    show Steps p.tables e below (T28.setTop (mkF m 294 (own_S p1 p2 p3 p4 p5 p6 x7 x8 x9 x10 x11 x12 1 (vr b13) (vr ep) (vr xl) (vi 1)) [(.ref st)])) _
    refine st30 _ ?_
    show Steps p.tables e below (T30.setTop (mkF m 297 (own_S p1 p2 p3 p4 p5 p6 x7 x8 x9 x10 x11 x12 1 (vr b13) (vr ep) (vr xl) (vi 1)) [(.ref st), (.ref st)])) _
    refine Jvm.RoadKit.acmp (g := (mkF m 297 (own_S p1 p2 p3 p4 p5 p6 x7 x8 x9 x10 x11 x12 1 (vr b13) (vr ep) (vr xl) (vi 1)) [(.ref st), (.ref st)])) X30 hx rfl rfl rfl (pc0 := 297) (pc' := 300) (same := true) rfl (hb hby at_297) rfl (decide_eq_true (rfl : Value.ref _ = _)) (by decide) (by decide) ?_
    show Steps p.tables e below (T30.setTop (mkF m 300 (own_S p1 p2 p3 p4 p5 p6 x7 x8 x9 x10 x11 x12 1 (vr b13) (vr ep) (vr xl) (vi 1)) [])) _
    refine XS.iconst X30.here hx rfl (hb hby at_300) ?_
    refine XS.goto X30.here hx rfl (pc0 := 301) (pc' := 305) rfl (hb hby at_301) (by decide) (by decide) ?_
    show Steps p.tables e below (T30.setTop (mkF m 305 (own_S p1 p2 p3 p4 p5 p6 x7 x8 x9 x10 x11 x12 1 (vr b13) (vr ep) (vr xl) (vi 1)) [(.int (1 : Int32))])) _
    refine XS.istore X30.here hx rfl (hb hby at_305) rfl (l' := (own_S p1 p2 p3 p4 p5 p6 x7 x8 x9 x10 x11 x12 1 (vr b13) (vr ep) (vr xl) (vi 1))) rfl ?_
    refine XS.iload X30.here hx rfl (hb hby at_307) rfl ?_
    show Steps p.tables e below (T30.setTop (mkF m 309 (own_S p1 p2 p3 p4 p5 p6 x7 x8 x9 x10 x11 x12 1 (vr b13) (vr ep) (vr xl) (vi 1)) [(.int (1 : Int32))])) _
    refine XS.ifNo X30.here hx rfl (hb hby at_309) rfl ((if0 _ _).trans (feq (by decide : ¬ ((1 : Int32) = (0 : Int32)))).1) ?_
    refine XS.aload X30.here hx rfl (hb hby at_312) rfl rfl ?_
    show Steps p.tables e below (T30.setTop (mkF m 314 (own_S p1 p2 p3 p4 p5 p6 x7 x8 x9 x10 x11 x12 1 (vr b13) (vr ep) (vr xl) (vi 1)) [(.ref ep)])) _
    refine st31.trans ?_
    show Steps p.tables e below (T31.setTop (mkF m 317 (own_S p1 p2 p3 p4 p5 p6 x7 x8 x9 x10 x11 x12 1 (vr b13) (vr ep) (vr xl) (vi 1)) [.null])) _
    refine XS.ifnonnullNo X31.here hx rfl (hb hby at_317) rfl ?_
    refine XS.iconst X31.here hx rfl (hb hby at_320) ?_
    show Steps p.tables e below (T31.setTop (mkF m 321 (own_S p1 p2 p3 p4 p5 p6 x7 x8 x9 x10 x11 x12 1 (vr b13) (vr ep) (vr xl) (vi 1)) [(.int (1 : Int32))])) _
    refine XS.goto X31.here hx rfl (pc0 := 321) (pc' := 325) rfl (hb hby at_321) (by decide) (by decide) ?_
    refine XS.istore X31.here hx rfl (hb hby at_325) rfl (l' := (own_S p1 p2 p3 p4 p5 p6 x7 x8 x9 x10 x11 x12 1 (vr b13) (vr ep) (vr xl) (vi 1))) rfl ?_
    show Steps p.tables e below (T31.setTop (mkF m 327 (own_S p1 p2 p3 p4 p5 p6 x7 x8 x9 x10 x11 x12 1 (vr b13) (vr ep) (vr xl) (vi 1)) [])) _
    refine XS.iload X31.here hx rfl (hb hby at_327) rfl ?_
    refine XS.ifNo X31.here hx rfl (hb hby at_329) rfl ((if0 _ _).trans (feq (by decide : ¬ ((1 : Int32) = (0 : Int32)))).1) ?_
    show Steps p.tables e below (T31.setTop (mkF m 332 (own_S p1 p2 p3 p4 p5 p6 x7 x8 x9 x10 x11 x12 1 (vr b13) (vr ep) (vr xl) (vi 1)) [])) _
    refine XS.aload X31.here hx rfl (hb hby at_332) rfl rfl ?_
    show Steps p.tables e below (T31.setTop (mkF m 334 (own_S p1 p2 p3 p4 p5 p6 x7 x8 x9 x10 x11 x12 1 (vr b13) (vr ep) (vr xl) (vi 1)) [(.ref ep)])) _
    refine st32.trans ?_
    show Steps p.tables e below (T32.setTop (mkF m 337 (own_S p1 p2 p3 p4 p5 p6 x7 x8 x9 x10 x11 x12 1 (vr b13) (vr ep) (vr xl) (vi 1)) [.null])) _
    refine XS.ifnonnullNo X32.here hx rfl (hb hby at_337) rfl ?_
    refine XS.iconst X32.here hx rfl (hb hby at_340) ?_
    show Steps p.tables e below (T32.setTop (mkF m 341 (own_S p1 p2 p3 p4 p5 p6 x7 x8 x9 x10 x11 x12 1 (vr b13) (vr ep) (vr xl) (vi 1)) [(.int (1 : Int32))])) _
    refine XS.goto X32.here hx rfl (pc0 := 341) (pc' := 345) rfl (hb hby at_341) (by decide) (by decide) ?_
    refine XS.istore X32.here hx rfl (hb hby at_345) rfl (l' := (own_S p1 p2 p3 p4 p5 p6 x7 x8 x9 x10 x11 x12 1 (vr b13) (vr ep) (vr xl) (vi 1))) rfl ?_
    show Steps p.tables e below (T32.setTop (mkF m 347 (own_S p1 p2 p3 p4 p5 p6 x7 x8 x9 x10 x11 x12 1 (vr b13) (vr ep) (vr xl) (vi 1)) [])) _
    refine XS.iload X32.here hx rfl (hb hby at_347) rfl ?_
    refine XS.ifNo X32.here hx rfl (hb hby at_349) rfl ((if0 _ _).trans (feq (by decide : ¬ ((1 : Int32) = (0 : Int32)))).1) ?_
    show Steps p.tables e below (T32.setTop (mkF m 352 (own_S p1 p2 p3 p4 p5 p6 x7 x8 x9 x10 x11 x12 1 (vr b13) (vr ep) (vr xl) (vi 1)) [])) _
    refine XS.aload X32.here hx rfl (hb hby at_352) rfl rfl ?_
    show Steps p.tables e below (T32.setTop (mkF m 354 (own_S p1 p2 p3 p4 p5 p6 x7 x8 x9 x10 x11 x12 1 (vr b13) (vr ep) (vr xl) (vi 1)) [(.ref ep)])) _
    refine st33.trans ?_
    show Steps p.tables e below (T33.setTop (mkF m 357 (own_S p1 p2 p3 p4 p5 p6 x7 x8 x9 x10 x11 x12 1 (vr b13) (vr ep) (vr xl) (vi 1)) [(.ref br)])) _
    refine st35 _ ?_
    show Steps p.tables e below (T35.setTop (mkF m 360 (own_S p1 p2 p3 p4 p5 p6 x7 x8 x9 x10 x11 x12 1 (vr b13) (vr ep) (vr xl) (vi 1)) [(.ref br), (.ref br)])) _
    refine Jvm.RoadKit.acmp (g := (mkF m 360 (own_S p1 p2 p3 p4 p5 p6 x7 x8 x9 x10 x11 x12 1 (vr b13) (vr ep) (vr xl) (vi 1)) [(.ref br), (.ref br)])) X35 hx rfl rfl rfl (pc0 := 360) (pc' := 363) (same := true) rfl (hb hby at_360) rfl (decide_eq_true (rfl : Value.ref _ = _)) (by decide) (by decide) ?_
    show Steps p.tables e below (T35.setTop (mkF m 363 (own_S p1 p2 p3 p4 p5 p6 x7 x8 x9 x10 x11 x12 1 (vr b13) (vr ep) (vr xl) (vi 1)) [])) _
    refine XS.iconst X35.here hx rfl (hb hby at_363) ?_
    refine XS.goto X35.here hx rfl (pc0 := 364) (pc' := 368) rfl (hb hby at_364) (by decide) (by decide) ?_
    show Steps p.tables e below (T35.setTop (mkF m 368 (own_S p1 p2 p3 p4 p5 p6 x7 x8 x9 x10 x11 x12 1 (vr b13) (vr ep) (vr xl) (vi 1)) [(.int (1 : Int32))])) _
    refine XS.istore X35.here hx rfl (hb hby at_368) rfl (l' := (own_S p1 p2 p3 p4 p5 p6 x7 x8 x9 x10 x11 x12 1 (vr b13) (vr ep) (vr xl) (vi 1))) rfl ?_
    refine XS.iload X35.here hx rfl (hb hby at_370) rfl ?_
    show Steps p.tables e below (T35.setTop (mkF m 372 (own_S p1 p2 p3 p4 p5 p6 x7 x8 x9 x10 x11 x12 1 (vr b13) (vr ep) (vr xl) (vi 1)) [(.int (1 : Int32))])) _
    refine XS.ifNo X35.here hx rfl (hb hby at_372) rfl ((if0 _ _).trans (feq (by decide : ¬ ((1 : Int32) = (0 : Int32)))).1) ?_
    refine XS.aload X35.here hx rfl (hb hby at_375) rfl rfl ?_
    show Steps p.tables e below (T35.setTop (mkF m 377 (own_S p1 p2 p3 p4 p5 p6 x7 x8 x9 x10 x11 x12 1 (vr b13) (vr ep) (vr xl) (vi 1)) [(.ref ep)])) _
    refine st36.trans ?_
    show Steps p.tables e below (T36.setTop (mkF m 380 (own_S p1 p2 p3 p4 p5 p6 x7 x8 x9 x10 x11 x12 1 (vr b13) (vr ep) (vr xl) (vi 1)) [(.int (0 : Int32))])) _
    refine XS.ifNo X36.here hx rfl (hb hby at_380) rfl ((if0 _ _).trans (teq (by decide : (0 : Int32) = (0 : Int32))).2) ?_
    refine XS.iconst X36.here hx rfl (hb hby at_383) ?_
    show Steps p.tables e below (T36.setTop (mkF m 384 (own_S p1 p2 p3 p4 p5 p6 x7 x8 x9 x10 x11 x12 1 (vr b13) (vr ep) (vr xl) (vi 1)) [(.int (1 : Int32))])) _
    refine XS.goto X36.here hx rfl (pc0 := 384) (pc' := 388) rfl (hb hby at_384) (by decide) (by decide) ?_
    refine XS.istore X36.here hx rfl (hb hby at_388) rfl (l' := (own_S p1 p2 p3 p4 p5 p6 x7 x8 x9 x10 x11 x12 1 (vr b13) (vr ep) (vr xl) (vi 1))) rfl ?_
    show Steps p.tables e below (T36.setTop (mkF m 390 (own_S p1 p2 p3 p4 p5 p6 x7 x8 x9 x10 x11 x12 1 (vr b13) (vr ep) (vr xl) (vi 1)) [])) _
    refine XS.iload X36.here hx rfl (hb hby at_390) rfl ?_
    show Steps p.tables e below (T36.setTop (mkF m 392 (own_S p1 p2 p3 p4 p5 p6 x7 x8 x9 x10 x11 x12 1 (vr b13) (vr ep) (vr xl) (vi 1)) [(.int (1 : Int32))])) _
    exact retN X36 hx (t := .boolean) Bd.returns (by simp) (hb hby at_392) hr
  · show Q0b Z p1 p2 p3 p4 p5 p6 w wD wEL wEm st br mr cD h0 n0 _ T36.heap _
    exact ⟨rfl, N36⟩
def Q0c (Z : State) (p1 p2 p3 p4 p5 p6 w : Int32) (wD wEL wEm st br mr : Addr) (cD : Cell) (h0 : Heap) (n0 : Nat) (v : Option Value) (h : Heap) (L : List Loc) : Prop := v = some (.int (1 : Int32)) ∧ Fr n0 L
set_option maxRecDepth 65536 in
set_option maxHeartbeats 40000000 in
theorem rm0c (l : Launch) (Z : State) (a0 : Array Value) (hw : ∀ d ∈ tables_1, d.before a0 Z = true) (ws : List Jvm.Cond) (p1 p2 p3 p4 p5 p6 w : Int32) (wD wEL wEm st br mr : Addr) (cD : Cell) (h0 : Heap) (n0 : Nat) (Z0 : n0 ≤ h0.size) (hG : own_G Z h0 w wD wEL wEm st br mr cD) (hn : (((p4.toUInt32 >>> ((24 : Int32) &&& 31).toUInt32).toInt32) &&& (3 : Int32)) = (2 : Int32)) :
    MetFree l x (head1 (Jvm.Cond.code x code maxLocals ret :: ws) room_1) (fun a U => a = #[(.int p1), (.int p2), (.int p3), (.int p4), (.int p5), (.int p6)] ∧ Z.Warmed39 U.vm ∧ U.heap = h0 ∧ CHv Z own_EL U.vm h0) (fun _ _ _ _ _ => True) (fun _ U o U' => ∃ v L, o = .returned v ∧ Q0c Z p1 p2 p3 p4 p5 p6 w wD wEL wEm st br mr cD h0 n0 v U'.heap L ∧ ReturnedEndW U o U' L room_1.cells room_1.slots) := by
  refine MetFree.of_bodySF (plainFor_of_name pn_0) hisR ?_
  intro p e s m args below meth c s₁ Bd hml0 hP hK
  obtain ⟨rfl, hZ, hh, hCH⟩ := hP
  have hEL := own_EW hw
  have hZ' : Z.Warmed39 (s.setVm s.vm).vm := hZ
  have hx := Bd.exec
  have hby := Bd.bytes
  have hml : c.maxLocals = 17 := hml0
  have hown : s.vm.findClass "com/example/tenacious_courier/tenaciouscourier/model/EndpointRegisteredPinLaw" = some m.cls := findClass_of_methodNamed Bd.named
  have hnm := (name_of_methodNamed Bd.named Bd.method).1
  have X0 : Stand p l e room_1 s m #[(.int p1), (.int p2), (.int p3), (.int p4), (.int p5), (.int p6)] below meth c s₁ [] 0 0 := Stand.of_body Bd
  have e0 : s₁.heap = h0 := by rw [← hh, Bd.state]; rfl
  have N0 := Fr.nil n0
  have pre0 : ∀ t, Steps p.tables e below (s₁.setTop (mkF m 0 #[.val (.int p1), .val (.int p2), .val (.int p3), .val (.int p4), .val (.int p5), .val (.int p6), .unset, .unset, .unset, .unset, .unset, .unset, .unset, .unset, .unset, .unset, .unset] [])) t → Steps p.tables e below (s₁.setTop (entryFrame m #[(.int p1), (.int p2), (.int p3), (.int p4), (.int p5), (.int p6)] maxLocals)) t := fun t k => castTop (ef_0 m p1 p2 p3 p4 p5 p6) k
  obtain ⟨S_CS, hcs, S_D, A_D, S_Z, S_EL, L_EL, S_EM, X_EM, S_AC, S_CL, MIR⟩ := hG
  have X0s := (X0 : Stand p l e _ (s.setVm s.vm) m _ below meth c s₁ _ _ _)
  obtain ⟨_, _, ⟨T7, L7, k7, n7⟩, -, X7r, hS7r, hg7, ⟨Lc7, hQ7, l7, y7, z7, hC7⟩, st7⟩ := callSS X0s hx (y := mN11) hown (mvT hZ' (wd hw 0 rfl)) (mvT hZ' (wd hw 1 rfl)) (mvT hZ' (wd hw 2 rfl)) (mvT hZ' (wd hw 3 rfl)) (by decide) (backOfSH (W := 0) (own_str l Z a0 hw [] p1 w h0 n0 Z0 S_CS hcs) hZ (wd hw 3 rfl) (wd hw 2 rfl) (by decide) (by decide) hEL (hCH)) (g := (mkF m 1 #[.val (.int p1), .val (.int p2), .val (.int p3), .val (.int p4), .val (.int p5), .val (.int p6), .unset, .unset, .unset, .unset, .unset, .unset, .unset, .unset, .unset, .unset, .unset] [(.int p1)])) rfl (by rw [hml]; rfl) (argsL := [(.int p1)]) (rest := []) (lenOf pd_0_0 rfl) rfl (by show 2 * 0 + _ ≤ _; exact Nat.le_of_eq rfl) (hb hby at_1) (fun _ _ => ⟨rfl, e0, (by decide : 0 + 4 ≤ _), (by decide : 0 + 12 ≤ _)⟩)
  dsimp only [Pt.U, Pt.locs, Pt.cells, Pt.slots] at X7r hS7r hg7 hC7 l7 y7 z7 st7 hQ7
  obtain rfl : k7 = 4 := y7
  obtain rfl : n7 = 12 := z7
  obtain ⟨X7, hS7, hZ7, hown7⟩ := rebS (own := "com/example/tenacious_courier/tenaciouscourier/model/EndpointRegisteredPinLaw") ((State.WarmedH.refl s).since 0) (Nat.zero_le _) X7r hS7r hg7 hZ' hown
  obtain ⟨x7, zz7, vs7, rfl, N7q, K7q, S7q⟩ := hQ7
  have K7 : Keep h0 T7.heap [] := K7q
  have Z7 : n0 ≤ T7.heap.size := Nat.le_trans Z0 K7.1
  have CS7 := own_staK S_CS K7
  have N7 : Fr n0 L7 := by rw [l7]; exact Fr.app N0 N7q
  obtain ⟨_, _, ⟨T8, L8, k8, n8⟩, -, X8r, hS8r, hg8, ⟨Lc8, hQ8, l8, y8, z8, hC8⟩, st8⟩ := callSS X7 hx (y := mN11) hown7 (mvT hZ7 (wd hw 0 rfl)) (mvT hZ7 (wd hw 1 rfl)) (mvT hZ7 (wd hw 2 rfl)) (mvT hZ7 (wd hw 3 rfl)) (by decide) (backOfSH (W := 0) (own_str l Z a0 hw [] p2 w T7.heap n0 Z7 CS7 hcs) hZ7 (wd hw 3 rfl) (wd hw 2 rfl) (by decide) (by decide) hEL (hC7.1)) (g := (mkF m 7 #[.val (.int p1), .val (.int p2), .val (.int p3), .val (.int p4), .val (.int p5), .val (.int p6), .val (.ref x7), .unset, .unset, .unset, .unset, .unset, .unset, .unset, .unset, .unset, .unset] [(.int p2)])) rfl (by rw [hml]; rfl) (argsL := [(.int p2)]) (rest := []) (lenOf pd_0_0 rfl) rfl (by show 2 * 0 + _ ≤ _; exact Nat.le_of_eq rfl) (hb hby at_7) (fun _ _ => ⟨rfl, rfl, (by decide : 4 + 4 ≤ _), (by decide : 12 + 12 ≤ _)⟩)
  dsimp only [Pt.U, Pt.locs, Pt.cells, Pt.slots] at X8r hS8r hg8 hC8 l8 y8 z8 st8 hQ8
  obtain rfl : k8 = 8 := y8
  obtain rfl : n8 = 24 := z8
  obtain ⟨X8, hS8, hZ8, hown8⟩ := rebS (own := "com/example/tenacious_courier/tenaciouscourier/model/EndpointRegisteredPinLaw") hS7 (Nat.le_refl _) X8r hS8r hg8 hZ7 hown7
  obtain ⟨x8, zz8, vs8, rfl, N8q, K8q, S8q⟩ := hQ8
  have K8 : Keep h0 T8.heap [] := K7.trans K8q (fun x hx => nomatch hx)
  have Z8 : n0 ≤ T8.heap.size := Nat.le_trans Z0 K8.1
  have CS8 := own_staK S_CS K8
  have N8 : Fr n0 L8 := by rw [l8]; exact Fr.app N7 N8q
  obtain ⟨_, _, ⟨T9, L9, k9, n9⟩, -, X9r, hS9r, hg9, ⟨Lc9, hQ9, l9, y9, z9, hC9⟩, st9⟩ := callSS X8 hx (y := mN11) hown8 (mvT hZ8 (wd hw 0 rfl)) (mvT hZ8 (wd hw 1 rfl)) (mvT hZ8 (wd hw 2 rfl)) (mvT hZ8 (wd hw 3 rfl)) (by decide) (backOfSH (W := 0) (own_str l Z a0 hw [] p3 w T8.heap n0 Z8 CS8 hcs) hZ8 (wd hw 3 rfl) (wd hw 2 rfl) (by decide) (by decide) hEL (hC8.1)) (g := (mkF m 13 #[.val (.int p1), .val (.int p2), .val (.int p3), .val (.int p4), .val (.int p5), .val (.int p6), .val (.ref x7), .val (.ref x8), .unset, .unset, .unset, .unset, .unset, .unset, .unset, .unset, .unset] [(.int p3)])) rfl (by rw [hml]; rfl) (argsL := [(.int p3)]) (rest := []) (lenOf pd_0_0 rfl) rfl (by show 2 * 0 + _ ≤ _; exact Nat.le_of_eq rfl) (hb hby at_13) (fun _ _ => ⟨rfl, rfl, (by decide : 8 + 4 ≤ _), (by decide : 24 + 12 ≤ _)⟩)
  dsimp only [Pt.U, Pt.locs, Pt.cells, Pt.slots] at X9r hS9r hg9 hC9 l9 y9 z9 st9 hQ9
  obtain rfl : k9 = 12 := y9
  obtain rfl : n9 = 36 := z9
  obtain ⟨X9, hS9, hZ9, hown9⟩ := rebS (own := "com/example/tenacious_courier/tenaciouscourier/model/EndpointRegisteredPinLaw") hS8 (Nat.le_refl _) X9r hS9r hg9 hZ8 hown8
  obtain ⟨x9, zz9, vs9, rfl, N9q, K9q, S9q⟩ := hQ9
  have K9 : Keep h0 T9.heap [] := K8.trans K9q (fun x hx => nomatch hx)
  have Z9 : n0 ≤ T9.heap.size := Nat.le_trans Z0 K9.1
  have CS9 := own_staK S_CS K9
  have N9 : Fr n0 L9 := by rw [l9]; exact Fr.app N8 N9q
  obtain ⟨_, _, ⟨T10, L10, k10, n10⟩, -, X10r, hS10r, hg10, ⟨Lc10, hQ10, l10, y10, z10, hC10⟩, st10⟩ := callSS X9 hx (y := mN11) hown9 (mvT hZ9 (wd hw 0 rfl)) (mvT hZ9 (wd hw 1 rfl)) (mvT hZ9 (wd hw 2 rfl)) (mvT hZ9 (wd hw 3 rfl)) (by decide) (backOfSH (W := 0) (own_str l Z a0 hw [] p4 w T9.heap n0 Z9 CS9 hcs) hZ9 (wd hw 3 rfl) (wd hw 2 rfl) (by decide) (by decide) hEL (hC9.1)) (g := (mkF m 19 #[.val (.int p1), .val (.int p2), .val (.int p3), .val (.int p4), .val (.int p5), .val (.int p6), .val (.ref x7), .val (.ref x8), .val (.ref x9), .unset, .unset, .unset, .unset, .unset, .unset, .unset, .unset] [(.int p4)])) rfl (by rw [hml]; rfl) (argsL := [(.int p4)]) (rest := []) (lenOf pd_0_0 rfl) rfl (by show 2 * 0 + _ ≤ _; exact Nat.le_of_eq rfl) (hb hby at_19) (fun _ _ => ⟨rfl, rfl, (by decide : 12 + 4 ≤ _), (by decide : 36 + 12 ≤ _)⟩)
  dsimp only [Pt.U, Pt.locs, Pt.cells, Pt.slots] at X10r hS10r hg10 hC10 l10 y10 z10 st10 hQ10
  obtain rfl : k10 = 16 := y10
  obtain rfl : n10 = 48 := z10
  obtain ⟨X10, hS10, hZ10, hown10⟩ := rebS (own := "com/example/tenacious_courier/tenaciouscourier/model/EndpointRegisteredPinLaw") hS9 (Nat.le_refl _) X10r hS10r hg10 hZ9 hown9
  obtain ⟨x10, zz10, vs10, rfl, N10q, K10q, S10q⟩ := hQ10
  have K10 : Keep h0 T10.heap [] := K9.trans K10q (fun x hx => nomatch hx)
  have Z10 : n0 ≤ T10.heap.size := Nat.le_trans Z0 K10.1
  have CS10 := own_staK S_CS K10
  have N10 : Fr n0 L10 := by rw [l10]; exact Fr.app N9 N10q
  obtain ⟨_, _, ⟨T11, L11, k11, n11⟩, -, X11r, hS11r, hg11, ⟨Lc11, hQ11, l11, y11, z11, hC11⟩, st11⟩ := callSS X10 hx (y := mN11) hown10 (mvT hZ10 (wd hw 0 rfl)) (mvT hZ10 (wd hw 1 rfl)) (mvT hZ10 (wd hw 2 rfl)) (mvT hZ10 (wd hw 3 rfl)) (by decide) (backOfSH (W := 0) (own_str l Z a0 hw [] p5 w T10.heap n0 Z10 CS10 hcs) hZ10 (wd hw 3 rfl) (wd hw 2 rfl) (by decide) (by decide) hEL (hC10.1)) (g := (mkF m 26 #[.val (.int p1), .val (.int p2), .val (.int p3), .val (.int p4), .val (.int p5), .val (.int p6), .val (.ref x7), .val (.ref x8), .val (.ref x9), .val (.ref x10), .unset, .unset, .unset, .unset, .unset, .unset, .unset] [(.int p5)])) rfl (by rw [hml]; rfl) (argsL := [(.int p5)]) (rest := []) (lenOf pd_0_0 rfl) rfl (by show 2 * 0 + _ ≤ _; exact Nat.le_of_eq rfl) (hb hby at_26) (fun _ _ => ⟨rfl, rfl, (by decide : 16 + 4 ≤ _), (by decide : 48 + 12 ≤ _)⟩)
  dsimp only [Pt.U, Pt.locs, Pt.cells, Pt.slots] at X11r hS11r hg11 hC11 l11 y11 z11 st11 hQ11
  obtain rfl : k11 = 20 := y11
  obtain rfl : n11 = 60 := z11
  obtain ⟨X11, hS11, hZ11, hown11⟩ := rebS (own := "com/example/tenacious_courier/tenaciouscourier/model/EndpointRegisteredPinLaw") hS10 (Nat.le_refl _) X11r hS11r hg11 hZ10 hown10
  obtain ⟨x11, zz11, vs11, rfl, N11q, K11q, S11q⟩ := hQ11
  have K11 : Keep h0 T11.heap [] := K10.trans K11q (fun x hx => nomatch hx)
  have Z11 : n0 ≤ T11.heap.size := Nat.le_trans Z0 K11.1
  have CS11 := own_staK S_CS K11
  have N11 : Fr n0 L11 := by rw [l11]; exact Fr.app N10 N11q
  obtain ⟨_, _, ⟨T12, L12, k12, n12⟩, -, X12r, hS12r, hg12, ⟨Lc12, hQ12, l12, y12, z12, hC12⟩, st12⟩ := callSS X11 hx (y := mN11) hown11 (mvT hZ11 (wd hw 0 rfl)) (mvT hZ11 (wd hw 1 rfl)) (mvT hZ11 (wd hw 2 rfl)) (mvT hZ11 (wd hw 3 rfl)) (by decide) (backOfSH (W := 0) (own_str l Z a0 hw [] p6 w T11.heap n0 Z11 CS11 hcs) hZ11 (wd hw 3 rfl) (wd hw 2 rfl) (by decide) (by decide) hEL (hC11.1)) (g := (mkF m 33 #[.val (.int p1), .val (.int p2), .val (.int p3), .val (.int p4), .val (.int p5), .val (.int p6), .val (.ref x7), .val (.ref x8), .val (.ref x9), .val (.ref x10), .val (.ref x11), .unset, .unset, .unset, .unset, .unset, .unset] [(.int p6)])) rfl (by rw [hml]; rfl) (argsL := [(.int p6)]) (rest := []) (lenOf pd_0_0 rfl) rfl (by show 2 * 0 + _ ≤ _; exact Nat.le_of_eq rfl) (hb hby at_33) (fun _ _ => ⟨rfl, rfl, (by decide : 20 + 4 ≤ _), (by decide : 60 + 12 ≤ _)⟩)
  dsimp only [Pt.U, Pt.locs, Pt.cells, Pt.slots] at X12r hS12r hg12 hC12 l12 y12 z12 st12 hQ12
  obtain rfl : k12 = 24 := y12
  obtain rfl : n12 = 72 := z12
  obtain ⟨X12, hS12, hZ12, hown12⟩ := rebS (own := "com/example/tenacious_courier/tenaciouscourier/model/EndpointRegisteredPinLaw") hS11 (Nat.le_refl _) X12r hS12r hg12 hZ11 hown11
  obtain ⟨x12, zz12, vs12, rfl, N12q, K12q, S12q⟩ := hQ12
  have K12 : Keep h0 T12.heap [] := K11.trans K12q (fun x hx => nomatch hx)
  have Z12 : n0 ≤ T12.heap.size := Nat.le_trans Z0 K12.1
  have CS12 := own_staK S_CS K12
  have A7_12 := (((((S7q.1.keep K8q).keep K9q).keep K10q).keep K11q).keep K12q)
  have A8_12 := ((((S8q.1.keep K9q).keep K10q).keep K11q).keep K12q)
  have A9_12 := (((S9q.1.keep K10q).keep K11q).keep K12q)
  have A10_12 := ((S10q.1.keep K11q).keep K12q)
  have A11_12 := (S11q.1.keep K12q)
  have A12_12 := S12q.1
  have N12 : Fr n0 L12 := by rw [l12]; exact Fr.app N11 N12q
  obtain ⟨T13, h13, X13, e13, E13, A13, D13, -, st13⟩ := newO X12 hx hZ12 hown12 (wd hw 26 rfl) (wd hw 27 rfl) (wd hw 28 rfl) rfl (g := (mkF m 46 (own_S p1 p2 p3 p4 p5 p6 x7 x8 x9 x10 x11 x12 2 .unset .unset .unset .unset) [])) rfl (hb hby at_46) (by decide) (by decide)
  obtain ⟨b13, g13⟩ : ∃ z, z = T12.heap.size := ⟨_, rfl⟩
  rw [← g13] at A13 D13 st13
  have F_modCount_b13 : Fld Z h13 b13 "java/util/AbstractList" "modCount" "I" (.int (0 : Int32)) := D13 (Or.inl (wd hw 46 rfl)) (ty := .int) (by decide)
  have F_elementData_b13 : Fld Z h13 b13 "java/util/ArrayList" "elementData" "[Ljava/lang/Object;" .null := D13 (Or.inl (wd hw 49 rfl)) (ty := (.array (.object "java/lang/Object"))) (by decide)
  have F_size_b13 : Fld Z h13 b13 "java/util/ArrayList" "size" "I" (.int (0 : Int32)) := D13 (Or.inl (wd hw 96 rfl)) (ty := .int) (by decide)
  have E_b13 := A13
  have g_b13 : n0 ≤ b13 := Nat.le_trans Z0 (Nat.le_trans K12.1 (Nat.le_of_eq g13.symm))
  have sz_b13 : h0.size ≤ b13 := (Nat.le_trans K12.1 (Nat.le_of_eq g13.symm))
  have K13 : Keep h0 h13 [] := K12.ext E13
  obtain ⟨_, _, ⟨T14, L14, k14, n14⟩, -, X14, ⟨Lc14, hQ14, l14, y14, z14⟩, st14⟩ := X13.specialBack hx (y := mN19) rfl hown12 (mvT hZ12 (wd hw 29 rfl)) (mvT hZ12 (wd hw 30 rfl)) (mvT hZ12 (wd hw 31 rfl)) (by decide) (backOf (W := 1) (rm5 l Z a0 hw [] b13 wD (.int (0 : Int32)) .null h13 n0 (Nat.le_trans Z0 K13.1) (own_staK S_D K13) E_b13 F_modCount_b13 F_elementData_b13 F_size_b13 g_b13) hZ12 (wd hw 31 rfl) (wd hw 28 rfl) (by decide) (by decide)) (g := (mkF m 50 (own_S p1 p2 p3 p4 p5 p6 x7 x8 x9 x10 x11 x12 2 .unset .unset .unset .unset) [(.ref b13), (.ref b13)])) rfl (by rw [hml]; rfl) (Steps.refl _) (a := b13) (argsL := []) (rest := [(.ref b13)]) (lenOf pd_0_3 rfl) rfl (by show 2 * 0 + _ ≤ _; exact Nat.le_of_eq rfl) (hb hby at_50) (fun _ _ => ⟨rfl, e13, (by decide : 25 + 0 ≤ _), (by decide : 75 + 0 ≤ _)⟩)
  dsimp only [Pt.U, Pt.locs, Pt.cells, Pt.slots] at X14 l14 y14 z14 st14 hQ14
  obtain rfl : k14 = 25 := y14
  obtain rfl : n14 = 75 := z14
  obtain ⟨rfl, N14q, K14q, E14, M14, D14, F14⟩ := hQ14
  have K14 : Keep h0 T14.heap [] := K13.trans K14q (fun x hx => Or.inr (by cases List.mem_singleton.mp hx; exact sz_b13))
  have Z14 : n0 ≤ T14.heap.size := Nat.le_trans Z0 K14.1
  have AD14 := own_arK A_D K14
  have SD14 := own_staK S_D K14
  have A7_14 := (A7_12.ext E13).keep K14q
  have A8_14 := (A8_12.ext E13).keep K14q
  have A9_14 := (A9_12.ext E13).keep K14q
  have A10_14 := (A10_12.ext E13).keep K14q
  have A11_14 := (A11_12.ext E13).keep K14q
  have A12_14 := (A12_12.ext E13).keep K14q
  have N14 : Fr n0 L14 := by rw [l14]; exact Fr.app N12 N14q
  obtain ⟨cq15, kq15, q15a, q15b, q15c⟩ := isOf hZ12 rfl E14
  obtain ⟨_, _, ⟨T15, L15, k15, n15⟩, -, X15, ⟨Lc15, hQ15, l15, y15, z15⟩, st15⟩ := X14.interfaceBack hx (xi := mN41) (y := mN20) hown12 (mvT hZ12 (wd hw 113 rfl)) (mvT hZ12 (wd hw 114 rfl)) (mvT hZ12 (wd hw 115 rfl)) (mvT hZ12 (wd hw 116 rfl)) (mvT hZ12 (wd hw 117 rfl)) (mvT hZ12 (wd hw 118 rfl)) (mvT hZ12 (wd hw 119 rfl)) (mvT hZ12 (wd hw 120 rfl)) (by decide) (backOf (W := 0) (rm14a l Z a0 hw [] b13 x10 wD cD T14.heap n0 Z14 D14 AD14 S_Z SD14 E14 M14 F14 g_b13 A10_14) hZ12 (wd hw 121 rfl) (wd hw 28 rfl) (by decide) (by decide)) q15a q15b q15c (g := (mkF m 64 (own_S p1 p2 p3 p4 p5 p6 x7 x8 x9 x10 x11 x12 2 (vr b13) .unset .unset .unset) [(.ref x10), (.ref b13)])) rfl (by rw [hml]; rfl) (Steps.refl _) (argsL := [(.ref x10)]) (rest := []) (lenOf pd_0_9 rfl) rfl (by show 2 * 0 + _ ≤ _; exact Nat.le_of_eq rfl) (hb hby at_64) (fun _ _ => ⟨rfl, rfl, (by decide : 25 + 1 ≤ _), (by decide : 75 + 10 ≤ _)⟩)
  dsimp only [Pt.U, Pt.locs, Pt.cells, Pt.slots] at X15 l15 y15 z15 st15 hQ15
  obtain rfl : k15 = 26 := y15
  obtain rfl : n15 = 85 := z15
  obtain ⟨ad, kd, rfl, N15q, K15q, z15q, LS15⟩ := hQ15
  have K15 : Keep h0 T15.heap [] := K14.trans K15q (fun x hx => Or.inr (by cases List.mem_singleton.mp hx; exact sz_b13))
  have Z15 : n0 ≤ T15.heap.size := Nat.le_trans Z0 K15.1
  have sz_ad : h0.size ≤ ad := Nat.le_trans K14.1 z15q
  have g_ad : n0 ≤ ad := Nat.le_trans Z0 sz_ad
  have A7_15 := A7_14.keep K15q
  have A8_15 := A8_14.keep K15q
  have A9_15 := A9_14.keep K15q
  have A10_15 := A10_14.keep K15q
  have A11_15 := A11_14.keep K15q
  have A12_15 := A12_14.keep K15q
  have N15 : Fr n0 L15 := by rw [l15]; exact Fr.app N14 N15q
  obtain ⟨cq16, kq16, q16a, q16b, q16c⟩ := isOf hZ12 rfl LS15.1
  obtain ⟨_, _, ⟨T16, L16, k16, n16⟩, -, X16, ⟨Lc16, hQ16, l16, y16, z16⟩, st16⟩ := X15.interfaceBack hx (xi := mN41) (y := mN20) hown12 (mvT hZ12 (wd hw 113 rfl)) (mvT hZ12 (wd hw 114 rfl)) (mvT hZ12 (wd hw 115 rfl)) (mvT hZ12 (wd hw 116 rfl)) (mvT hZ12 (wd hw 117 rfl)) (mvT hZ12 (wd hw 118 rfl)) (mvT hZ12 (wd hw 119 rfl)) (mvT hZ12 (wd hw 120 rfl)) (by decide) (backOf (W := 0) (rm14b l Z a0 hw [] b13 x11 ad kd _ (1 : Int32) 1 [(.ref x10), .null, .null, .null, .null, .null, .null, .null, .null, .null] T15.heap n0 Z15 LS15 g_b13 g_ad A11_15 rfl (by decide) (by decide) (by decide) (Nat.le_of_ble_eq_true rfl)) hZ12 (wd hw 121 rfl) (wd hw 28 rfl) (by decide) (by decide)) q16a q16b q16c (g := (mkF m 80 (own_S p1 p2 p3 p4 p5 p6 x7 x8 x9 x10 x11 x12 2 (vr b13) .unset .unset .unset) [(.ref x11), (.ref b13)])) rfl (by rw [hml]; rfl) (Steps.refl _) (argsL := [(.ref x11)]) (rest := []) (lenOf pd_0_9 rfl) rfl (by show 2 * 0 + _ ≤ _; exact Nat.le_of_eq rfl) (hb hby at_80) (fun _ _ => ⟨rfl, rfl, (by decide : 26 + 0 ≤ _), (by decide : 85 + 0 ≤ _)⟩)
  dsimp only [Pt.U, Pt.locs, Pt.cells, Pt.slots] at X16 l16 y16 z16 st16 hQ16
  obtain rfl : k16 = 26 := y16
  obtain rfl : n16 = 85 := z16
  obtain ⟨rfl, N16q, K16q, LS16q⟩ := hQ16
  rw [show ((1 : Int32) + (1 : Int32)) = (2 : Int32) from by decide] at LS16q
  have LS16 : own_LS Z T16.heap b13 ad kd _ (2 : Int32) [(.ref x10), (.ref x11), .null, .null, .null, .null, .null, .null, .null, .null] := LS16q
  have K16 : Keep h0 T16.heap [] := K15.trans K16q (fun x hx => Or.inr (by rcases List.mem_cons.mp hx with rfl | hx; exact sz_ad; cases List.mem_singleton.mp hx; exact sz_b13))
  have Z16 : n0 ≤ T16.heap.size := Nat.le_trans Z0 K16.1
  have A7_16 := A7_15.keep K16q
  have A8_16 := A8_15.keep K16q
  have A9_16 := A9_15.keep K16q
  have A10_16 := A10_15.keep K16q
  have A11_16 := A11_15.keep K16q
  have A12_16 := A12_15.keep K16q
  have N16 : Fr n0 L16 := by rw [l16]; exact Fr.app N15 N16q
  obtain ⟨_, _, ⟨T17, L17, k17, n17⟩, -, X17, ⟨Lc17, hQ17, l17, y17, z17⟩, st17⟩ := Jvm.LawKit.callS X16 hx (y := mN7) hown12 (mvT hZ12 (wd hw 50 rfl)) (mvT hZ12 (wd hw 51 rfl)) (mvT hZ12 (wd hw 52 rfl)) (mvT hZ12 (wd hw 53 rfl)) (by decide) (backOf (W := 0) (rm8 l Z a0 hw [] (fun h x => own_L2 Z h x x10 x11) x7 x8 x9 b13 st br T16.heap n0 Z16 (own_staK S_AC K16) (own_staK S_CL K16) (fun h' K => rm10p2 l Z a0 hw [] b13 ad mr kd _ x10 x11 h' n0 (Nat.le_trans Z16 K.1) (LS16.keep K) MIR (A10_16.keep K) (A11_16.keep K)) (fun h h' x a S E K => own_L2.keepE (wd hw 55 rfl) S E K)) hZ12 (wd hw 53 rfl) (wd hw 52 rfl) (by decide) (by decide)) (g := (mkF m 110 (own_S p1 p2 p3 p4 p5 p6 x7 x8 x9 x10 x11 x12 2 (vr b13) .unset .unset .unset) [(.ref b13), (.ref x9), (.ref x8), (.ref x7)])) rfl (by rw [hml]; rfl) (argsL := [(.ref x7), (.ref x8), (.ref x9), (.ref b13)]) (rest := []) (lenOf pd_0_4 rfl) rfl (by show 2 * 0 + _ ≤ _; exact Nat.le_of_eq rfl) (hb hby at_110) (fun _ _ => ⟨rfl, rfl, (by decide : 26 + 4 ≤ _), (by decide : 85 + 17 ≤ _)⟩)
  dsimp only [Pt.U, Pt.locs, Pt.cells, Pt.slots] at X17 l17 y17 z17 st17 hQ17
  obtain rfl : k17 = 30 := y17
  obtain rfl : n17 = 102 := z17
  obtain ⟨ep, xl, rfl, N17q, K17q, z17q, EPr, BLr⟩ := hQ17
  have K17 : Keep h0 T17.heap [] := K16.trans K17q (fun x hx => nomatch hx)
  have Z17 : n0 ≤ T17.heap.size := Nat.le_trans Z0 K17.1
  have A7_17 := A7_16.keep K17q
  have A8_17 := A8_16.keep K17q
  have A9_17 := A9_16.keep K17q
  have A10_17 := A10_16.keep K17q
  have A11_17 := A11_16.keep K17q
  have A12_17 := A12_16.keep K17q
  have LS17 := LS16.keep K17q
  have N17 : Fr n0 L17 := by rw [l17]; exact Fr.app N16 N17q
  obtain ⟨cq18, kq18, q18a, q18b, q18c⟩ := isOf hZ12 rfl LS17.1
  obtain ⟨_, _, ⟨T18, L18, k18, n18⟩, -, X18, ⟨Lc18, hQ18, l18, y18, z18⟩, st18⟩ := X17.interfaceBack hx (xi := mN41) (y := mN20) hown12 (mvT hZ12 (wd hw 113 rfl)) (mvT hZ12 (wd hw 114 rfl)) (mvT hZ12 (wd hw 115 rfl)) (mvT hZ12 (wd hw 116 rfl)) (mvT hZ12 (wd hw 117 rfl)) (mvT hZ12 (wd hw 118 rfl)) (mvT hZ12 (wd hw 119 rfl)) (mvT hZ12 (wd hw 120 rfl)) (by decide) (backOf (W := 0) (rm14b l Z a0 hw [] b13 x11 ad kd _ (2 : Int32) 2 [(.ref x10), (.ref x11), .null, .null, .null, .null, .null, .null, .null, .null] T17.heap n0 Z17 LS17 g_b13 g_ad A11_17 rfl (by decide) (by decide) (by decide) (Nat.le_of_ble_eq_true rfl)) hZ12 (wd hw 121 rfl) (wd hw 28 rfl) (by decide) (by decide)) q18a q18b q18c (g := (mkF m 119 (own_S p1 p2 p3 p4 p5 p6 x7 x8 x9 x10 x11 x12 2 (vr b13) (vr ep) .unset .unset) [(.ref x11), (.ref b13)])) rfl (by rw [hml]; rfl) (Steps.refl _) (argsL := [(.ref x11)]) (rest := []) (lenOf pd_0_9 rfl) rfl (by show 2 * 0 + _ ≤ _; exact Nat.le_of_eq rfl) (hb hby at_119) (fun _ _ => ⟨rfl, rfl, (by decide : 30 + 0 ≤ _), (by decide : 102 + 0 ≤ _)⟩)
  dsimp only [Pt.U, Pt.locs, Pt.cells, Pt.slots] at X18 l18 y18 z18 st18 hQ18
  obtain rfl : k18 = 30 := y18
  obtain rfl : n18 = 102 := z18
  obtain ⟨rfl, N18q, K18q, LS18q⟩ := hQ18
  rw [show ((2 : Int32) + (1 : Int32)) = (3 : Int32) from by decide] at LS18q
  have LS18 : own_LS Z T18.heap b13 ad kd _ (3 : Int32) [(.ref x10), (.ref x11), (.ref x11), .null, .null, .null, .null, .null, .null, .null] := LS18q
  have K18 : Keep h0 T18.heap [] := K17.trans K18q (fun x hx => Or.inr (by rcases List.mem_cons.mp hx with rfl | hx; exact sz_ad; cases List.mem_singleton.mp hx; exact sz_b13))
  have Z18 : n0 ≤ T18.heap.size := Nat.le_trans Z0 K18.1
  have A7_18 := A7_17.keep K18q
  have A8_18 := A8_17.keep K18q
  have A9_18 := A9_17.keep K18q
  have A10_18 := A10_17.keep K18q
  have A11_18 := A11_17.keep K18q
  have A12_18 := A12_17.keep K18q
  have qe := ninS (EPr.1.neArv LS17.2.2.2.2.1 (wd hw 55 rfl)) (ninS (EPr.1.ne LS17.1 (by decide)) nin0)
  have ql := ninS (BLr.1.neArv LS17.2.2.2.2.1 (wd hw 255 rfl)) (ninS (BLr.1.ne LS17.1 (by decide)) nin0)
  obtain ⟨lx, f0, f1⟩ := own_L2.keep BLr K18q ql
  have SEM := own_staK S_EM K18
  have nem : ¬ (x11 = wEm) := A11_18.ne (X_EM.keep K18) (by decide)
  obtain ⟨c0, c1, c2, c3, c4, c5, c6, c7, c8, c9⟩ := EPr.keep K18q qe
  have SAC := own_staK S_AC K18
  have SCL := own_staK S_CL K18
  have N18 : Fr n0 L18 := by rw [l18]; exact Fr.app N17 N18q
  obtain ⟨cq19, kq19, q19a, q19b, q19c⟩ := isOf hZ12 rfl c0
  obtain ⟨_, _, ⟨T19, L19, k19, n19⟩, -, X19, ⟨Lc19, hQ19, l19, y19, z19⟩, st19⟩ := X18.virtualBack hx (y := mN5) (z := mN5) hown12 (mvT hZ12 (wd hw 146 rfl)) (mvT hZ12 (wd hw 147 rfl)) (notFace_of_selects (args := #[]) (mvT hZ12 (wd hw 149 rfl))) (mvT hZ12 (wd hw 149 rfl)) (mvT hZ12 (wd hw 148 rfl)) (by decide) (backOf (W := 0) (rm19 l Z a0 hw [] ep xl T18.heap n0 Z18 c4) hZ12 (wd hw 150 rfl) (wd hw 52 rfl) (by decide) (by decide)) q19a q19c (g := (mkF m 127 (own_S p1 p2 p3 p4 p5 p6 x7 x8 x9 x10 x11 x12 2 (vr b13) (vr ep) .unset .unset) [(.ref ep)])) rfl (by rw [hml]; rfl) (Steps.refl _) (argsL := []) (rest := []) (lenOf pd_0_8 rfl) rfl (by show 2 * 0 + _ ≤ _; exact Nat.le_of_eq rfl) (hb hby at_127) (fun _ _ => ⟨rfl, rfl, (by decide : 30 + 0 ≤ _), (by decide : 102 + 0 ≤ _)⟩)
  dsimp only [Pt.U, Pt.locs, Pt.cells, Pt.slots] at X19 l19 y19 z19 st19 hQ19
  obtain rfl : k19 = 30 := y19
  obtain rfl : n19 = 102 := z19
  obtain ⟨rfl, N19q, k19q⟩ := hQ19
  have N19 : Fr n0 L19 := by rw [l19]; exact Fr.app N18 N19q
  obtain ⟨cq20, kq20, q20a, q20b, q20c⟩ := isOf hZ12 k19q lx
  obtain ⟨_, _, ⟨T20, L20, k20, n20⟩, -, X20, ⟨Lc20, hQ20, l20, y20, z20⟩, st20⟩ := X19.interfaceBack hx (xi := mN46) (y := mN37) hown12 (mvT hZ12 (wd hw 151 rfl)) (mvT hZ12 (wd hw 152 rfl)) (mvT hZ12 (wd hw 153 rfl)) (mvT hZ12 (wd hw 283 rfl)) (mvT hZ12 (wd hw 284 rfl)) (mvT hZ12 (wd hw 285 rfl)) (mvT hZ12 (wd hw 286 rfl)) (mvT hZ12 (wd hw 287 rfl)) (by decide) (backOf (W := 0) (rm42f l Z a0 hw [] xl x11 wEm T18.heap n0 Z18 f1 SEM nem) hZ12 (wd hw 288 rfl) (wd hw 256 rfl) (by decide) (by decide)) q20a q20b q20c (g := (mkF m 139 (own_S p1 p2 p3 p4 p5 p6 x7 x8 x9 x10 x11 x12 2 (vr b13) (vr ep) (vr xl) .unset) [(.ref xl)])) rfl (by rw [hml]; rfl) (Steps.refl _) (argsL := []) (rest := []) (lenOf pd_0_14 rfl) rfl (by show 2 * 0 + _ ≤ _; exact Nat.le_of_eq rfl) (hb hby at_139) (fun _ _ => ⟨rfl, k19q, (by decide : 30 + 0 ≤ _), (by decide : 102 + 0 ≤ _)⟩)
  dsimp only [Pt.U, Pt.locs, Pt.cells, Pt.slots] at X20 l20 y20 z20 st20 hQ20
  obtain rfl : k20 = 30 := y20
  obtain rfl : n20 = 102 := z20
  obtain ⟨rfl, N20q, k20q⟩ := hQ20
  have N20 : Fr n0 L20 := by rw [l20]; exact Fr.app N19 N20q
  obtain ⟨cq21, kq21, q21a, q21b, q21c⟩ := isOf hZ12 k20q lx
  obtain ⟨_, _, ⟨T21, L21, k21, n21⟩, -, X21, ⟨Lc21, hQ21, l21, y21, z21⟩, st21⟩ := X20.interfaceBack hx (xi := mN43) (y := mN36) hown12 (mvT hZ12 (wd hw 290 rfl)) (mvT hZ12 (wd hw 291 rfl)) (mvT hZ12 (wd hw 292 rfl)) (mvT hZ12 (wd hw 293 rfl)) (mvT hZ12 (wd hw 294 rfl)) (mvT hZ12 (wd hw 295 rfl)) (mvT hZ12 (wd hw 296 rfl)) (mvT hZ12 (wd hw 287 rfl)) (by decide) (backOf (W := 1) (rm43f l Z a0 hw [] xl (0 : Int32) x10 T18.heap n0 Z18 f0 rfl) hZ12 (wd hw 297 rfl) (wd hw 256 rfl) (by decide) (by decide)) q21a q21b q21c (g := (mkF m 171 (own_S p1 p2 p3 p4 p5 p6 x7 x8 x9 x10 x11 x12 2 (vr b13) (vr ep) (vr xl) (vi 1)) [(.int (0 : Int32)), (.ref xl), (.ref x10)])) rfl (by rw [hml]; rfl) (Steps.refl _) (argsL := [(.int (0 : Int32))]) (rest := [(.ref x10)]) (lenOf pd_0_30 rfl) rfl (by show 2 * 0 + _ ≤ _; exact Nat.le_of_eq rfl) (hb hby at_171) (fun _ _ => ⟨rfl, k20q, (by decide : 30 + 0 ≤ _), (by decide : 102 + 0 ≤ _)⟩)
  dsimp only [Pt.U, Pt.locs, Pt.cells, Pt.slots] at X21 l21 y21 z21 st21 hQ21
  obtain rfl : k21 = 30 := y21
  obtain rfl : n21 = 102 := z21
  obtain ⟨rfl, N21q, k21q⟩ := hQ21
  have N21 : Fr n0 L21 := by rw [l21]; exact Fr.app N20 N21q
  obtain ⟨cq22, kq22, q22a, q22b, q22c⟩ := isOf hZ12 k21q A10_18
  obtain ⟨_, _, ⟨T22, L22, k22, n22⟩, -, X22, ⟨Lc22, hQ22, l22, y22, z22⟩, st22⟩ := X21.virtualBack hx (y := mN16) (z := mN16) hown12 (mvT hZ12 (wd hw 168 rfl)) (mvT hZ12 (wd hw 169 rfl)) (notFace_of_selects (args := #[]) (mvT hZ12 (wd hw 171 rfl))) (mvT hZ12 (wd hw 171 rfl)) (mvT hZ12 (wd hw 170 rfl)) (by decide) (backOf (W := 0) (rm22 l Z a0 hw [] x10 x10 T18.heap n0 Z18 rfl) hZ12 (wd hw 172 rfl) (wd hw 6 rfl) (by decide) (by decide)) q22a q22c (g := (mkF m 176 (own_S p1 p2 p3 p4 p5 p6 x7 x8 x9 x10 x11 x12 2 (vr b13) (vr ep) (vr xl) (vi 1)) [(.ref x10), (.ref x10)])) rfl (by rw [hml]; rfl) (Steps.refl _) (argsL := [(.ref x10)]) (rest := []) (lenOf pd_0_9 rfl) rfl (by show 2 * 0 + _ ≤ _; exact Nat.le_of_eq rfl) (hb hby at_176) (fun _ _ => ⟨rfl, k21q, (by decide : 30 + 0 ≤ _), (by decide : 102 + 0 ≤ _)⟩)
  dsimp only [Pt.U, Pt.locs, Pt.cells, Pt.slots] at X22 l22 y22 z22 st22 hQ22
  obtain rfl : k22 = 30 := y22
  obtain rfl : n22 = 102 := z22
  obtain ⟨rfl, N22q, k22q⟩ := hQ22
  have N22 : Fr n0 L22 := by rw [l22]; exact Fr.app N21 N22q
  obtain ⟨cq23, kq23, q23a, q23b, q23c⟩ := isOf hZ12 k22q lx
  obtain ⟨_, _, ⟨T23, L23, k23, n23⟩, -, X23, ⟨Lc23, hQ23, l23, y23, z23⟩, st23⟩ := X22.interfaceBack hx (xi := mN43) (y := mN36) hown12 (mvT hZ12 (wd hw 290 rfl)) (mvT hZ12 (wd hw 291 rfl)) (mvT hZ12 (wd hw 292 rfl)) (mvT hZ12 (wd hw 293 rfl)) (mvT hZ12 (wd hw 294 rfl)) (mvT hZ12 (wd hw 295 rfl)) (mvT hZ12 (wd hw 296 rfl)) (mvT hZ12 (wd hw 287 rfl)) (by decide) (backOf (W := 1) (rm43t l Z a0 hw [] xl (1 : Int32) x11 wEm T18.heap n0 Z18 f1 SEM (by decide) rfl nem) hZ12 (wd hw 297 rfl) (wd hw 256 rfl) (by decide) (by decide)) q23a q23b q23c (g := (mkF m 197 (own_S p1 p2 p3 p4 p5 p6 x7 x8 x9 x10 x11 x12 2 (vr b13) (vr ep) (vr xl) (vi 1)) [(.int (1 : Int32)), (.ref xl), (.ref x11)])) rfl (by rw [hml]; rfl) (Steps.refl _) (argsL := [(.int (1 : Int32))]) (rest := [(.ref x11)]) (lenOf pd_0_30 rfl) rfl (by show 2 * 0 + _ ≤ _; exact Nat.le_of_eq rfl) (hb hby at_197) (fun _ _ => ⟨rfl, k22q, (by decide : 30 + 0 ≤ _), (by decide : 102 + 0 ≤ _)⟩)
  dsimp only [Pt.U, Pt.locs, Pt.cells, Pt.slots] at X23 l23 y23 z23 st23 hQ23
  obtain rfl : k23 = 30 := y23
  obtain rfl : n23 = 102 := z23
  obtain ⟨rfl, N23q, k23q⟩ := hQ23
  have N23 : Fr n0 L23 := by rw [l23]; exact Fr.app N22 N23q
  obtain ⟨cq24, kq24, q24a, q24b, q24c⟩ := isOf hZ12 k23q A11_18
  obtain ⟨_, _, ⟨T24, L24, k24, n24⟩, -, X24, ⟨Lc24, hQ24, l24, y24, z24⟩, st24⟩ := X23.virtualBack hx (y := mN16) (z := mN16) hown12 (mvT hZ12 (wd hw 168 rfl)) (mvT hZ12 (wd hw 169 rfl)) (notFace_of_selects (args := #[]) (mvT hZ12 (wd hw 171 rfl))) (mvT hZ12 (wd hw 171 rfl)) (mvT hZ12 (wd hw 170 rfl)) (by decide) (backOf (W := 0) (rm22 l Z a0 hw [] x11 x11 T18.heap n0 Z18 rfl) hZ12 (wd hw 172 rfl) (wd hw 6 rfl) (by decide) (by decide)) q24a q24c (g := (mkF m 202 (own_S p1 p2 p3 p4 p5 p6 x7 x8 x9 x10 x11 x12 2 (vr b13) (vr ep) (vr xl) (vi 1)) [(.ref x11), (.ref x11)])) rfl (by rw [hml]; rfl) (Steps.refl _) (argsL := [(.ref x11)]) (rest := []) (lenOf pd_0_9 rfl) rfl (by show 2 * 0 + _ ≤ _; exact Nat.le_of_eq rfl) (hb hby at_202) (fun _ _ => ⟨rfl, k23q, (by decide : 30 + 0 ≤ _), (by decide : 102 + 0 ≤ _)⟩)
  dsimp only [Pt.U, Pt.locs, Pt.cells, Pt.slots] at X24 l24 y24 z24 st24 hQ24
  obtain rfl : k24 = 30 := y24
  obtain rfl : n24 = 102 := z24
  obtain ⟨rfl, N24q, k24q⟩ := hQ24
  have N24 : Fr n0 L24 := by rw [l24]; exact Fr.app N23 N24q
  obtain ⟨cq25, kq25, q25a, q25b, q25c⟩ := isOf hZ12 k24q c0
  obtain ⟨_, _, ⟨T25, L25, k25, n25⟩, -, X25, ⟨Lc25, hQ25, l25, y25, z25⟩, st25⟩ := X24.virtualBack hx (y := mN6) (z := mN6) hown12 (mvT hZ12 (wd hw 163 rfl)) (mvT hZ12 (wd hw 164 rfl)) (notFace_of_selects (args := #[]) (mvT hZ12 (wd hw 166 rfl))) (mvT hZ12 (wd hw 166 rfl)) (mvT hZ12 (wd hw 165 rfl)) (by decide) (backOf (W := 1) (rm21 l Z a0 hw [] ep x7 T18.heap n0 Z18 c1) hZ12 (wd hw 167 rfl) (wd hw 52 rfl) (by decide) (by decide)) q25a q25c (g := (mkF m 242 (own_S p1 p2 p3 p4 p5 p6 x7 x8 x9 x10 x11 x12 2 (vr b13) (vr ep) (vr xl) (vi 1)) [(.ref ep), (.ref x7)])) rfl (by rw [hml]; rfl) (Steps.refl _) (argsL := []) (rest := [(.ref x7)]) (lenOf pd_0_15 rfl) rfl (by show 2 * 0 + _ ≤ _; exact Nat.le_of_eq rfl) (hb hby at_242) (fun _ _ => ⟨rfl, k24q, (by decide : 30 + 0 ≤ _), (by decide : 102 + 0 ≤ _)⟩)
  dsimp only [Pt.U, Pt.locs, Pt.cells, Pt.slots] at X25 l25 y25 z25 st25 hQ25
  obtain rfl : k25 = 30 := y25
  obtain rfl : n25 = 102 := z25
  obtain ⟨rfl, N25q, k25q⟩ := hQ25
  have N25 : Fr n0 L25 := by rw [l25]; exact Fr.app N24 N25q
  obtain ⟨cq26, kq26, q26a, q26b, q26c⟩ := isOf hZ12 k25q A7_18
  obtain ⟨_, _, ⟨T26, L26, k26, n26⟩, -, X26, ⟨Lc26, hQ26, l26, y26, z26⟩, st26⟩ := X25.virtualBack hx (y := mN16) (z := mN16) hown12 (mvT hZ12 (wd hw 168 rfl)) (mvT hZ12 (wd hw 169 rfl)) (notFace_of_selects (args := #[]) (mvT hZ12 (wd hw 171 rfl))) (mvT hZ12 (wd hw 171 rfl)) (mvT hZ12 (wd hw 170 rfl)) (by decide) (backOf (W := 0) (rm22 l Z a0 hw [] x7 x7 T18.heap n0 Z18 rfl) hZ12 (wd hw 172 rfl) (wd hw 6 rfl) (by decide) (by decide)) q26a q26c (g := (mkF m 245 (own_S p1 p2 p3 p4 p5 p6 x7 x8 x9 x10 x11 x12 2 (vr b13) (vr ep) (vr xl) (vi 1)) [(.ref x7), (.ref x7)])) rfl (by rw [hml]; rfl) (Steps.refl _) (argsL := [(.ref x7)]) (rest := []) (lenOf pd_0_9 rfl) rfl (by show 2 * 0 + _ ≤ _; exact Nat.le_of_eq rfl) (hb hby at_245) (fun _ _ => ⟨rfl, k25q, (by decide : 30 + 0 ≤ _), (by decide : 102 + 0 ≤ _)⟩)
  dsimp only [Pt.U, Pt.locs, Pt.cells, Pt.slots] at X26 l26 y26 z26 st26 hQ26
  obtain rfl : k26 = 30 := y26
  obtain rfl : n26 = 102 := z26
  obtain ⟨rfl, N26q, k26q⟩ := hQ26
  have N26 : Fr n0 L26 := by rw [l26]; exact Fr.app N25 N26q
  obtain ⟨cq27, kq27, q27a, q27b, q27c⟩ := isOf hZ12 k26q c0
  obtain ⟨_, _, ⟨T27, L27, k27, n27⟩, -, X27, ⟨Lc27, hQ27, l27, y27, z27⟩, st27⟩ := X26.virtualBack hx (y := mN9) (z := mN9) hown12 (mvT hZ12 (wd hw 173 rfl)) (mvT hZ12 (wd hw 174 rfl)) (notFace_of_selects (args := #[]) (mvT hZ12 (wd hw 176 rfl))) (mvT hZ12 (wd hw 176 rfl)) (mvT hZ12 (wd hw 175 rfl)) (by decide) (backOf (W := 1) (rm23 l Z a0 hw [] ep x8 T18.heap n0 Z18 c2) hZ12 (wd hw 177 rfl) (wd hw 52 rfl) (by decide) (by decide)) q27a q27c (g := (mkF m 255 (own_S p1 p2 p3 p4 p5 p6 x7 x8 x9 x10 x11 x12 2 (vr b13) (vr ep) (vr xl) (vi 1)) [(.ref ep), (.ref x8)])) rfl (by rw [hml]; rfl) (Steps.refl _) (argsL := []) (rest := [(.ref x8)]) (lenOf pd_0_15 rfl) rfl (by show 2 * 0 + _ ≤ _; exact Nat.le_of_eq rfl) (hb hby at_255) (fun _ _ => ⟨rfl, k26q, (by decide : 30 + 0 ≤ _), (by decide : 102 + 0 ≤ _)⟩)
  dsimp only [Pt.U, Pt.locs, Pt.cells, Pt.slots] at X27 l27 y27 z27 st27 hQ27
  obtain rfl : k27 = 30 := y27
  obtain rfl : n27 = 102 := z27
  obtain ⟨rfl, N27q, k27q⟩ := hQ27
  have N27 : Fr n0 L27 := by rw [l27]; exact Fr.app N26 N27q
  obtain ⟨cq28, kq28, q28a, q28b, q28c⟩ := isOf hZ12 k27q A8_18
  obtain ⟨_, _, ⟨T28, L28, k28, n28⟩, -, X28, ⟨Lc28, hQ28, l28, y28, z28⟩, st28⟩ := X27.virtualBack hx (y := mN16) (z := mN16) hown12 (mvT hZ12 (wd hw 168 rfl)) (mvT hZ12 (wd hw 169 rfl)) (notFace_of_selects (args := #[]) (mvT hZ12 (wd hw 171 rfl))) (mvT hZ12 (wd hw 171 rfl)) (mvT hZ12 (wd hw 170 rfl)) (by decide) (backOf (W := 0) (rm22 l Z a0 hw [] x8 x8 T18.heap n0 Z18 rfl) hZ12 (wd hw 172 rfl) (wd hw 6 rfl) (by decide) (by decide)) q28a q28c (g := (mkF m 258 (own_S p1 p2 p3 p4 p5 p6 x7 x8 x9 x10 x11 x12 2 (vr b13) (vr ep) (vr xl) (vi 1)) [(.ref x8), (.ref x8)])) rfl (by rw [hml]; rfl) (Steps.refl _) (argsL := [(.ref x8)]) (rest := []) (lenOf pd_0_9 rfl) rfl (by show 2 * 0 + _ ≤ _; exact Nat.le_of_eq rfl) (hb hby at_258) (fun _ _ => ⟨rfl, k27q, (by decide : 30 + 0 ≤ _), (by decide : 102 + 0 ≤ _)⟩)
  dsimp only [Pt.U, Pt.locs, Pt.cells, Pt.slots] at X28 l28 y28 z28 st28 hQ28
  obtain rfl : k28 = 30 := y28
  obtain rfl : n28 = 102 := z28
  obtain ⟨rfl, N28q, k28q⟩ := hQ28
  have N28 : Fr n0 L28 := by rw [l28]; exact Fr.app N27 N28q
  obtain ⟨cq29, kq29, q29a, q29b, q29c⟩ := isOf hZ12 k28q c0
  obtain ⟨_, _, ⟨T29, L29, k29, n29⟩, -, X29, ⟨Lc29, hQ29, l29, y29, z29⟩, st29⟩ := X28.virtualBack hx (y := mN10) (z := mN10) hown12 (mvT hZ12 (wd hw 178 rfl)) (mvT hZ12 (wd hw 179 rfl)) (notFace_of_selects (args := #[]) (mvT hZ12 (wd hw 181 rfl))) (mvT hZ12 (wd hw 181 rfl)) (mvT hZ12 (wd hw 180 rfl)) (by decide) (backOf (W := 1) (rm24 l Z a0 hw [] ep x9 T18.heap n0 Z18 c3) hZ12 (wd hw 182 rfl) (wd hw 52 rfl) (by decide) (by decide)) q29a q29c (g := (mkF m 268 (own_S p1 p2 p3 p4 p5 p6 x7 x8 x9 x10 x11 x12 2 (vr b13) (vr ep) (vr xl) (vi 1)) [(.ref ep), (.ref x9)])) rfl (by rw [hml]; rfl) (Steps.refl _) (argsL := []) (rest := [(.ref x9)]) (lenOf pd_0_15 rfl) rfl (by show 2 * 0 + _ ≤ _; exact Nat.le_of_eq rfl) (hb hby at_268) (fun _ _ => ⟨rfl, k28q, (by decide : 30 + 0 ≤ _), (by decide : 102 + 0 ≤ _)⟩)
  dsimp only [Pt.U, Pt.locs, Pt.cells, Pt.slots] at X29 l29 y29 z29 st29 hQ29
  obtain rfl : k29 = 30 := y29
  obtain rfl : n29 = 102 := z29
  obtain ⟨rfl, N29q, k29q⟩ := hQ29
  have N29 : Fr n0 L29 := by rw [l29]; exact Fr.app N28 N29q
  obtain ⟨cq30, kq30, q30a, q30b, q30c⟩ := isOf hZ12 k29q A9_18
  obtain ⟨_, _, ⟨T30, L30, k30, n30⟩, -, X30, ⟨Lc30, hQ30, l30, y30, z30⟩, st30⟩ := X29.virtualBack hx (y := mN16) (z := mN16) hown12 (mvT hZ12 (wd hw 168 rfl)) (mvT hZ12 (wd hw 169 rfl)) (notFace_of_selects (args := #[]) (mvT hZ12 (wd hw 171 rfl))) (mvT hZ12 (wd hw 171 rfl)) (mvT hZ12 (wd hw 170 rfl)) (by decide) (backOf (W := 0) (rm22 l Z a0 hw [] x9 x9 T18.heap n0 Z18 rfl) hZ12 (wd hw 172 rfl) (wd hw 6 rfl) (by decide) (by decide)) q30a q30c (g := (mkF m 271 (own_S p1 p2 p3 p4 p5 p6 x7 x8 x9 x10 x11 x12 2 (vr b13) (vr ep) (vr xl) (vi 1)) [(.ref x9), (.ref x9)])) rfl (by rw [hml]; rfl) (Steps.refl _) (argsL := [(.ref x9)]) (rest := []) (lenOf pd_0_9 rfl) rfl (by show 2 * 0 + _ ≤ _; exact Nat.le_of_eq rfl) (hb hby at_271) (fun _ _ => ⟨rfl, k29q, (by decide : 30 + 0 ≤ _), (by decide : 102 + 0 ≤ _)⟩)
  dsimp only [Pt.U, Pt.locs, Pt.cells, Pt.slots] at X30 l30 y30 z30 st30 hQ30
  obtain rfl : k30 = 30 := y30
  obtain rfl : n30 = 102 := z30
  obtain ⟨rfl, N30q, k30q⟩ := hQ30
  have N30 : Fr n0 L30 := by rw [l30]; exact Fr.app N29 N30q
  obtain ⟨cq31, kq31, q31a, q31b, q31c⟩ := isOf hZ12 k30q c0
  obtain ⟨_, _, ⟨T31, L31, k31, n31⟩, -, X31, ⟨Lc31, hQ31, l31, y31, z31⟩, st31⟩ := X30.virtualBack hx (y := mN8) (z := mN8) hown12 (mvT hZ12 (wd hw 183 rfl)) (mvT hZ12 (wd hw 184 rfl)) (notFace_of_selects (args := #[]) (mvT hZ12 (wd hw 186 rfl))) (mvT hZ12 (wd hw 186 rfl)) (mvT hZ12 (wd hw 185 rfl)) (by decide) (backOf (W := 0) (rm25 l Z a0 hw [] ep st T18.heap n0 Z18 c5) hZ12 (wd hw 187 rfl) (wd hw 52 rfl) (by decide) (by decide)) q31a q31c (g := (mkF m 291 (own_S p1 p2 p3 p4 p5 p6 x7 x8 x9 x10 x11 x12 2 (vr b13) (vr ep) (vr xl) (vi 1)) [(.ref ep)])) rfl (by rw [hml]; rfl) (Steps.refl _) (argsL := []) (rest := []) (lenOf pd_0_16 rfl) rfl (by show 2 * 0 + _ ≤ _; exact Nat.le_of_eq rfl) (hb hby at_291) (fun _ _ => ⟨rfl, k30q, (by decide : 30 + 0 ≤ _), (by decide : 102 + 0 ≤ _)⟩)
  dsimp only [Pt.U, Pt.locs, Pt.cells, Pt.slots] at X31 l31 y31 z31 st31 hQ31
  obtain rfl : k31 = 30 := y31
  obtain rfl : n31 = 102 := z31
  obtain ⟨rfl, N31q, k31q⟩ := hQ31
  have N31 : Fr n0 L31 := by rw [l31]; exact Fr.app N30 N31q
  obtain ⟨T33, X33, e33, st33⟩ := getS2 X31 hx hZ12 hown12 (host := "") (Or.inl (wd hw 188 rfl)) Via.refl k31q SAC (g := (mkF m 294 (own_S p1 p2 p3 p4 p5 p6 x7 x8 x9 x10 x11 x12 2 (vr b13) (vr ep) (vr xl) (vi 1)) [(.ref st)])) rfl (hb hby at_294)
  obtain ⟨cq34, kq34, q34a, q34b, q34c⟩ := isOf hZ12 e33 c0
  obtain ⟨_, _, ⟨T34, L34, k34, n34⟩, -, X34, ⟨Lc34, hQ34, l34, y34, z34⟩, st34⟩ := X33.virtualBack hx (y := mN4) (z := mN4) hown12 (mvT hZ12 (wd hw 189 rfl)) (mvT hZ12 (wd hw 190 rfl)) (notFace_of_selects (args := #[]) (mvT hZ12 (wd hw 192 rfl))) (mvT hZ12 (wd hw 192 rfl)) (mvT hZ12 (wd hw 191 rfl)) (by decide) (backOf (W := 0) (rm26 l Z a0 hw [] ep ep T18.heap n0 Z18 c6) hZ12 (wd hw 193 rfl) (wd hw 52 rfl) (by decide) (by decide)) q34a q34c (g := (mkF m 314 (own_S p1 p2 p3 p4 p5 p6 x7 x8 x9 x10 x11 x12 2 (vr b13) (vr ep) (vr xl) (vi 1)) [(.ref ep)])) rfl (by rw [hml]; rfl) (Steps.refl _) (argsL := []) (rest := []) (lenOf pd_0_17 rfl) rfl (by show 2 * 0 + _ ≤ _; exact Nat.le_of_eq rfl) (hb hby at_314) (fun _ _ => ⟨rfl, e33, (by decide : 30 + 0 ≤ _), (by decide : 102 + 0 ≤ _)⟩)
  dsimp only [Pt.U, Pt.locs, Pt.cells, Pt.slots] at X34 l34 y34 z34 st34 hQ34
  obtain rfl : k34 = 30 := y34
  obtain rfl : n34 = 102 := z34
  obtain ⟨rfl, N34q, k34q⟩ := hQ34
  have N34 : Fr n0 L34 := by rw [l34]; exact Fr.app N31 N34q
  obtain ⟨cq35, kq35, q35a, q35b, q35c⟩ := isOf hZ12 k34q c0
  obtain ⟨_, _, ⟨T35, L35, k35, n35⟩, -, X35, ⟨Lc35, hQ35, l35, y35, z35⟩, st35⟩ := X34.virtualBack hx (y := mN3) (z := mN3) hown12 (mvT hZ12 (wd hw 194 rfl)) (mvT hZ12 (wd hw 195 rfl)) (notFace_of_selects (args := #[]) (mvT hZ12 (wd hw 197 rfl))) (mvT hZ12 (wd hw 197 rfl)) (mvT hZ12 (wd hw 196 rfl)) (by decide) (backOf (W := 0) (rm27 l Z a0 hw [] ep ep T18.heap n0 Z18 c7) hZ12 (wd hw 198 rfl) (wd hw 52 rfl) (by decide) (by decide)) q35a q35c (g := (mkF m 334 (own_S p1 p2 p3 p4 p5 p6 x7 x8 x9 x10 x11 x12 2 (vr b13) (vr ep) (vr xl) (vi 1)) [(.ref ep)])) rfl (by rw [hml]; rfl) (Steps.refl _) (argsL := []) (rest := []) (lenOf pd_0_18 rfl) rfl (by show 2 * 0 + _ ≤ _; exact Nat.le_of_eq rfl) (hb hby at_334) (fun _ _ => ⟨rfl, k34q, (by decide : 30 + 0 ≤ _), (by decide : 102 + 0 ≤ _)⟩)
  dsimp only [Pt.U, Pt.locs, Pt.cells, Pt.slots] at X35 l35 y35 z35 st35 hQ35
  obtain rfl : k35 = 30 := y35
  obtain rfl : n35 = 102 := z35
  obtain ⟨rfl, N35q, k35q⟩ := hQ35
  have N35 : Fr n0 L35 := by rw [l35]; exact Fr.app N34 N35q
  obtain ⟨cq36, kq36, q36a, q36b, q36c⟩ := isOf hZ12 k35q c0
  obtain ⟨_, _, ⟨T36, L36, k36, n36⟩, -, X36, ⟨Lc36, hQ36, l36, y36, z36⟩, st36⟩ := X35.virtualBack hx (y := mN1) (z := mN1) hown12 (mvT hZ12 (wd hw 199 rfl)) (mvT hZ12 (wd hw 200 rfl)) (notFace_of_selects (args := #[]) (mvT hZ12 (wd hw 202 rfl))) (mvT hZ12 (wd hw 202 rfl)) (mvT hZ12 (wd hw 201 rfl)) (by decide) (backOf (W := 0) (rm28 l Z a0 hw [] ep br T18.heap n0 Z18 c8) hZ12 (wd hw 203 rfl) (wd hw 52 rfl) (by decide) (by decide)) q36a q36c (g := (mkF m 354 (own_S p1 p2 p3 p4 p5 p6 x7 x8 x9 x10 x11 x12 2 (vr b13) (vr ep) (vr xl) (vi 1)) [(.ref ep)])) rfl (by rw [hml]; rfl) (Steps.refl _) (argsL := []) (rest := []) (lenOf pd_0_19 rfl) rfl (by show 2 * 0 + _ ≤ _; exact Nat.le_of_eq rfl) (hb hby at_354) (fun _ _ => ⟨rfl, k35q, (by decide : 30 + 0 ≤ _), (by decide : 102 + 0 ≤ _)⟩)
  dsimp only [Pt.U, Pt.locs, Pt.cells, Pt.slots] at X36 l36 y36 z36 st36 hQ36
  obtain rfl : k36 = 30 := y36
  obtain rfl : n36 = 102 := z36
  obtain ⟨rfl, N36q, k36q⟩ := hQ36
  have N36 : Fr n0 L36 := by rw [l36]; exact Fr.app N35 N36q
  obtain ⟨T38, X38, e38, st38⟩ := getS2 X36 hx hZ12 hown12 (host := "") (Or.inl (wd hw 204 rfl)) Via.refl k36q SCL (g := (mkF m 357 (own_S p1 p2 p3 p4 p5 p6 x7 x8 x9 x10 x11 x12 2 (vr b13) (vr ep) (vr xl) (vi 1)) [(.ref br)])) rfl (hb hby at_357)
  obtain ⟨cq39, kq39, q39a, q39b, q39c⟩ := isOf hZ12 e38 c0
  obtain ⟨_, _, ⟨T39, L39, k39, n39⟩, -, X39, ⟨Lc39, hQ39, l39, y39, z39⟩, st39⟩ := X38.virtualBack hx (y := mN2) (z := mN2) hown12 (mvT hZ12 (wd hw 205 rfl)) (mvT hZ12 (wd hw 206 rfl)) (notFace_of_selects (args := #[]) (mvT hZ12 (wd hw 208 rfl))) (mvT hZ12 (wd hw 208 rfl)) (mvT hZ12 (wd hw 207 rfl)) (by decide) (backOf (W := 0) (rm29 l Z a0 hw [] ep (0 : Int32) T18.heap n0 Z18 c9) hZ12 (wd hw 209 rfl) (wd hw 52 rfl) (by decide) (by decide)) q39a q39c (g := (mkF m 377 (own_S p1 p2 p3 p4 p5 p6 x7 x8 x9 x10 x11 x12 2 (vr b13) (vr ep) (vr xl) (vi 1)) [(.ref ep)])) rfl (by rw [hml]; rfl) (Steps.refl _) (argsL := []) (rest := []) (lenOf pd_0_14 rfl) rfl (by show 2 * 0 + _ ≤ _; exact Nat.le_of_eq rfl) (hb hby at_377) (fun _ _ => ⟨rfl, e38, (by decide : 30 + 0 ≤ _), (by decide : 102 + 0 ≤ _)⟩)
  dsimp only [Pt.U, Pt.locs, Pt.cells, Pt.slots] at X39 l39 y39 z39 st39 hQ39
  obtain rfl : k39 = 30 := y39
  obtain rfl : n39 = 102 := z39
  obtain ⟨rfl, N39q, k39q⟩ := hQ39
  have N39 : Fr n0 L39 := by rw [l39]; exact Fr.app N36 N39q
  obtain ⟨fs, hr, hrun, hended, hEnd⟩ := X39.leaveW hS12 (by rw [k39q]; exact (Nat.le_trans E13.1 (Nat.le_trans K14q.1 (Nat.le_trans K15q.1 (Nat.le_trans K16q.1 (Nat.le_trans K17q.1 K18q.1)))))) (v := some (.int (1 : Int32))) (fun h => by rw [Bd.returns] at h; cases h)
  refine ⟨_, _, pre0 _ ?_, hrun, hended, _, _, rfl, ?_, own_monoW hEnd (by decide) (by decide)⟩
  · show Steps p.tables e below (s₁.setTop (mkF m 0 #[.val (.int p1), .val (.int p2), .val (.int p3), .val (.int p4), .val (.int p5), .val (.int p6), .unset, .unset, .unset, .unset, .unset, .unset, .unset, .unset, .unset, .unset, .unset] [])) _
    refine XS.iloadN X0.here hx rfl (hb hby at_0) rfl ?_
    show Steps p.tables e below (s₁.setTop (mkF m 1 #[.val (.int p1), .val (.int p2), .val (.int p3), .val (.int p4), .val (.int p5), .val (.int p6), .unset, .unset, .unset, .unset, .unset, .unset, .unset, .unset, .unset, .unset, .unset] [(.int p1)])) _
    refine st7.trans ?_
    show Steps p.tables e below (T7.setTop (mkF m 4 #[.val (.int p1), .val (.int p2), .val (.int p3), .val (.int p4), .val (.int p5), .val (.int p6), .unset, .unset, .unset, .unset, .unset, .unset, .unset, .unset, .unset, .unset, .unset] [(.ref x7)])) _
    refine XS.astore X7.here hx rfl (hb hby at_4) rfl rfl (l' := #[.val (.int p1), .val (.int p2), .val (.int p3), .val (.int p4), .val (.int p5), .val (.int p6), .val (.ref x7), .unset, .unset, .unset, .unset, .unset, .unset, .unset, .unset, .unset, .unset]) rfl ?_
    refine XS.iloadN X7.here hx rfl (hb hby at_6) rfl ?_
    show Steps p.tables e below (T7.setTop (mkF m 7 #[.val (.int p1), .val (.int p2), .val (.int p3), .val (.int p4), .val (.int p5), .val (.int p6), .val (.ref x7), .unset, .unset, .unset, .unset, .unset, .unset, .unset, .unset, .unset, .unset] [(.int p2)])) _
    refine st8.trans ?_
    show Steps p.tables e below (T8.setTop (mkF m 10 #[.val (.int p1), .val (.int p2), .val (.int p3), .val (.int p4), .val (.int p5), .val (.int p6), .val (.ref x7), .unset, .unset, .unset, .unset, .unset, .unset, .unset, .unset, .unset, .unset] [(.ref x8)])) _
    refine XS.astore X8.here hx rfl (hb hby at_10) rfl rfl (l' := #[.val (.int p1), .val (.int p2), .val (.int p3), .val (.int p4), .val (.int p5), .val (.int p6), .val (.ref x7), .val (.ref x8), .unset, .unset, .unset, .unset, .unset, .unset, .unset, .unset, .unset]) rfl ?_
    refine XS.iloadN X8.here hx rfl (hb hby at_12) rfl ?_
    show Steps p.tables e below (T8.setTop (mkF m 13 #[.val (.int p1), .val (.int p2), .val (.int p3), .val (.int p4), .val (.int p5), .val (.int p6), .val (.ref x7), .val (.ref x8), .unset, .unset, .unset, .unset, .unset, .unset, .unset, .unset, .unset] [(.int p3)])) _
    refine st9.trans ?_
    show Steps p.tables e below (T9.setTop (mkF m 16 #[.val (.int p1), .val (.int p2), .val (.int p3), .val (.int p4), .val (.int p5), .val (.int p6), .val (.ref x7), .val (.ref x8), .unset, .unset, .unset, .unset, .unset, .unset, .unset, .unset, .unset] [(.ref x9)])) _
    refine XS.astore X9.here hx rfl (hb hby at_16) rfl rfl (l' := #[.val (.int p1), .val (.int p2), .val (.int p3), .val (.int p4), .val (.int p5), .val (.int p6), .val (.ref x7), .val (.ref x8), .val (.ref x9), .unset, .unset, .unset, .unset, .unset, .unset, .unset, .unset]) rfl ?_
    refine XS.iloadN X9.here hx rfl (hb hby at_18) rfl ?_
    show Steps p.tables e below (T9.setTop (mkF m 19 #[.val (.int p1), .val (.int p2), .val (.int p3), .val (.int p4), .val (.int p5), .val (.int p6), .val (.ref x7), .val (.ref x8), .val (.ref x9), .unset, .unset, .unset, .unset, .unset, .unset, .unset, .unset] [(.int p4)])) _
    refine st10.trans ?_
    show Steps p.tables e below (T10.setTop (mkF m 22 #[.val (.int p1), .val (.int p2), .val (.int p3), .val (.int p4), .val (.int p5), .val (.int p6), .val (.ref x7), .val (.ref x8), .val (.ref x9), .unset, .unset, .unset, .unset, .unset, .unset, .unset, .unset] [(.ref x10)])) _
    refine XS.astore X10.here hx rfl (hb hby at_22) rfl rfl (l' := #[.val (.int p1), .val (.int p2), .val (.int p3), .val (.int p4), .val (.int p5), .val (.int p6), .val (.ref x7), .val (.ref x8), .val (.ref x9), .val (.ref x10), .unset, .unset, .unset, .unset, .unset, .unset, .unset]) rfl ?_
    refine XS.iload X10.here hx rfl (hb hby at_24) rfl ?_
    show Steps p.tables e below (T10.setTop (mkF m 26 #[.val (.int p1), .val (.int p2), .val (.int p3), .val (.int p4), .val (.int p5), .val (.int p6), .val (.ref x7), .val (.ref x8), .val (.ref x9), .val (.ref x10), .unset, .unset, .unset, .unset, .unset, .unset, .unset] [(.int p5)])) _
    refine st11.trans ?_
    show Steps p.tables e below (T11.setTop (mkF m 29 #[.val (.int p1), .val (.int p2), .val (.int p3), .val (.int p4), .val (.int p5), .val (.int p6), .val (.ref x7), .val (.ref x8), .val (.ref x9), .val (.ref x10), .unset, .unset, .unset, .unset, .unset, .unset, .unset] [(.ref x11)])) _
    refine XS.astore X11.here hx rfl (hb hby at_29) rfl rfl (l' := #[.val (.int p1), .val (.int p2), .val (.int p3), .val (.int p4), .val (.int p5), .val (.int p6), .val (.ref x7), .val (.ref x8), .val (.ref x9), .val (.ref x10), .val (.ref x11), .unset, .unset, .unset, .unset, .unset, .unset]) rfl ?_
    refine XS.iload X11.here hx rfl (hb hby at_31) rfl ?_
    show Steps p.tables e below (T11.setTop (mkF m 33 #[.val (.int p1), .val (.int p2), .val (.int p3), .val (.int p4), .val (.int p5), .val (.int p6), .val (.ref x7), .val (.ref x8), .val (.ref x9), .val (.ref x10), .val (.ref x11), .unset, .unset, .unset, .unset, .unset, .unset] [(.int p6)])) _
    refine st12.trans ?_
    show Steps p.tables e below (T12.setTop (mkF m 36 #[.val (.int p1), .val (.int p2), .val (.int p3), .val (.int p4), .val (.int p5), .val (.int p6), .val (.ref x7), .val (.ref x8), .val (.ref x9), .val (.ref x10), .val (.ref x11), .unset, .unset, .unset, .unset, .unset, .unset] [(.ref x12)])) _
    refine XS.astore X12.here hx rfl (hb hby at_36) rfl rfl (l' := #[.val (.int p1), .val (.int p2), .val (.int p3), .val (.int p4), .val (.int p5), .val (.int p6), .val (.ref x7), .val (.ref x8), .val (.ref x9), .val (.ref x10), .val (.ref x11), .val (.ref x12), .unset, .unset, .unset, .unset, .unset]) rfl ?_
    refine XS.iloadN X12.here hx rfl (hb hby at_38) rfl ?_
    show Steps p.tables e below (T12.setTop (mkF m 39 #[.val (.int p1), .val (.int p2), .val (.int p3), .val (.int p4), .val (.int p5), .val (.int p6), .val (.ref x7), .val (.ref x8), .val (.ref x9), .val (.ref x10), .val (.ref x11), .val (.ref x12), .unset, .unset, .unset, .unset, .unset] [(.int p4)])) _
    refine XS.bipush X12.here hx rfl (hb hby at_39) ?_
    refine XS.iushr X12.here hx rfl (hb hby at_41) rfl ?_
    show Steps p.tables e below (T12.setTop (mkF m 42 #[.val (.int p1), .val (.int p2), .val (.int p3), .val (.int p4), .val (.int p5), .val (.int p6), .val (.ref x7), .val (.ref x8), .val (.ref x9), .val (.ref x10), .val (.ref x11), .val (.ref x12), .unset, .unset, .unset, .unset, .unset] [(.int ((p4.toUInt32 >>> ((24 : Int32) &&& 31).toUInt32).toInt32))])) _
    refine XS.iconst X12.here hx rfl (hb hby at_42) ?_
    refine XS.iand X12.here hx rfl (hb hby at_43) rfl ?_
    show Steps p.tables e below (T12.setTop (mkF m 44 #[.val (.int p1), .val (.int p2), .val (.int p3), .val (.int p4), .val (.int p5), .val (.int p6), .val (.ref x7), .val (.ref x8), .val (.ref x9), .val (.ref x10), .val (.ref x11), .val (.ref x12), .unset, .unset, .unset, .unset, .unset] [(.int (((p4.toUInt32 >>> ((24 : Int32) &&& 31).toUInt32).toInt32) &&& (3 : Int32)))])) _
    rw [hn]
    show Steps p.tables e below (T12.setTop (mkF m 44 #[.val (.int p1), .val (.int p2), .val (.int p3), .val (.int p4), .val (.int p5), .val (.int p6), .val (.ref x7), .val (.ref x8), .val (.ref x9), .val (.ref x10), .val (.ref x11), .val (.ref x12), .unset, .unset, .unset, .unset, .unset] [(.int (2 : Int32))])) _
    refine XS.istore X12.here hx rfl (hb hby at_44) rfl (l' := (own_S p1 p2 p3 p4 p5 p6 x7 x8 x9 x10 x11 x12 2 .unset .unset .unset .unset)) rfl ?_
    show Steps p.tables e below (T12.setTop (mkF m 46 (own_S p1 p2 p3 p4 p5 p6 x7 x8 x9 x10 x11 x12 2 .unset .unset .unset .unset) [])) _
    refine st13 _ ?_
    show Steps p.tables e below (T13.setTop (mkF m 49 (own_S p1 p2 p3 p4 p5 p6 x7 x8 x9 x10 x11 x12 2 .unset .unset .unset .unset) [(.ref b13)])) _
    refine XS.dup X13.here hx rfl (hb hby at_49) rfl rfl ?_
    show Steps p.tables e below (T13.setTop (mkF m 50 (own_S p1 p2 p3 p4 p5 p6 x7 x8 x9 x10 x11 x12 2 .unset .unset .unset .unset) [(.ref b13), (.ref b13)])) _
    refine st14.trans ?_
    show Steps p.tables e below (T14.setTop (mkF m 53 (own_S p1 p2 p3 p4 p5 p6 x7 x8 x9 x10 x11 x12 2 .unset .unset .unset .unset) [(.ref b13)])) _
    refine XS.astore X14.here hx rfl (hb hby at_53) rfl rfl (l' := (own_S p1 p2 p3 p4 p5 p6 x7 x8 x9 x10 x11 x12 2 (vr b13) .unset .unset .unset)) rfl ?_
    refine XS.iload X14.here hx rfl (hb hby at_55) rfl ?_
    show Steps p.tables e below (T14.setTop (mkF m 57 (own_S p1 p2 p3 p4 p5 p6 x7 x8 x9 x10 x11 x12 2 (vr b13) .unset .unset .unset) [(.int (2 : Int32))])) _
    refine XS.ifNo X14.here hx rfl (hb hby at_57) rfl ((if0 _ _).trans (tlt (by decide : (0 : Int32) < (2 : Int32))).2.2.2) ?_
    refine XS.aload X14.here hx rfl (hb hby at_60) rfl rfl ?_
    show Steps p.tables e below (T14.setTop (mkF m 62 (own_S p1 p2 p3 p4 p5 p6 x7 x8 x9 x10 x11 x12 2 (vr b13) .unset .unset .unset) [(.ref b13)])) _
    refine XS.aload X14.here hx rfl (hb hby at_62) rfl rfl ?_
    show Steps p.tables e below (T14.setTop (mkF m 64 (own_S p1 p2 p3 p4 p5 p6 x7 x8 x9 x10 x11 x12 2 (vr b13) .unset .unset .unset) [(.ref x10), (.ref b13)])) _
    refine st15.trans ?_
    show Steps p.tables e below (T15.setTop (mkF m 69 (own_S p1 p2 p3 p4 p5 p6 x7 x8 x9 x10 x11 x12 2 (vr b13) .unset .unset .unset) [(.int (1 : Int32))])) _
    refine XS.pop X15.here hx rfl (hb hby at_69) rfl rfl ?_
    refine XS.iload X15.here hx rfl (hb hby at_70) rfl ?_
    show Steps p.tables e below (T15.setTop (mkF m 72 (own_S p1 p2 p3 p4 p5 p6 x7 x8 x9 x10 x11 x12 2 (vr b13) .unset .unset .unset) [(.int (2 : Int32))])) _
    refine XS.iconst X15.here hx rfl (hb hby at_72) ?_
    refine XS.icmpNo X15.here hx rfl (hb hby at_73) rfl (tlt (by decide : (1 : Int32) < (2 : Int32))).2.2.2 ?_
    show Steps p.tables e below (T15.setTop (mkF m 76 (own_S p1 p2 p3 p4 p5 p6 x7 x8 x9 x10 x11 x12 2 (vr b13) .unset .unset .unset) [])) _
    refine XS.aload X15.here hx rfl (hb hby at_76) rfl rfl ?_
    refine XS.aload X15.here hx rfl (hb hby at_78) rfl rfl ?_
    show Steps p.tables e below (T15.setTop (mkF m 80 (own_S p1 p2 p3 p4 p5 p6 x7 x8 x9 x10 x11 x12 2 (vr b13) .unset .unset .unset) [(.ref x11), (.ref b13)])) _
    refine st16.trans ?_
    show Steps p.tables e below (T16.setTop (mkF m 85 (own_S p1 p2 p3 p4 p5 p6 x7 x8 x9 x10 x11 x12 2 (vr b13) .unset .unset .unset) [(.int (1 : Int32))])) _
    refine XS.pop X16.here hx rfl (hb hby at_85) rfl rfl ?_
    refine XS.iload X16.here hx rfl (hb hby at_86) rfl ?_
    show Steps p.tables e below (T16.setTop (mkF m 88 (own_S p1 p2 p3 p4 p5 p6 x7 x8 x9 x10 x11 x12 2 (vr b13) .unset .unset .unset) [(.int (2 : Int32))])) _
    refine XS.iconst X16.here hx rfl (hb hby at_88) ?_
    refine XS.icmpYes X16.here hx rfl (pc0 := 89) (pc' := 102) rfl (hb hby at_89) rfl (flt (by decide : ¬ ((2 : Int32) < (2 : Int32)))).2.2.2 (by decide) (by decide) ?_
    show Steps p.tables e below (T16.setTop (mkF m 102 (own_S p1 p2 p3 p4 p5 p6 x7 x8 x9 x10 x11 x12 2 (vr b13) .unset .unset .unset) [])) _
    refine XS.aload X16.here hx rfl (hb hby at_102) rfl rfl ?_
    refine XS.aload X16.here hx rfl (hb hby at_104) rfl rfl ?_
    show Steps p.tables e below (T16.setTop (mkF m 106 (own_S p1 p2 p3 p4 p5 p6 x7 x8 x9 x10 x11 x12 2 (vr b13) .unset .unset .unset) [(.ref x8), (.ref x7)])) _
    refine XS.aload X16.here hx rfl (hb hby at_106) rfl rfl ?_
    refine XS.aload X16.here hx rfl (hb hby at_108) rfl rfl ?_
    show Steps p.tables e below (T16.setTop (mkF m 110 (own_S p1 p2 p3 p4 p5 p6 x7 x8 x9 x10 x11 x12 2 (vr b13) .unset .unset .unset) [(.ref b13), (.ref x9), (.ref x8), (.ref x7)])) _
    refine st17 _ ?_
    show Steps p.tables e below (T17.setTop (mkF m 113 (own_S p1 p2 p3 p4 p5 p6 x7 x8 x9 x10 x11 x12 2 (vr b13) .unset .unset .unset) [(.ref ep)])) _
    refine XS.astore X17.here hx rfl (hb hby at_113) rfl rfl (l' := (own_S p1 p2 p3 p4 p5 p6 x7 x8 x9 x10 x11 x12 2 (vr b13) (vr ep) .unset .unset)) rfl ?_
    refine XS.aload X17.here hx rfl (hb hby at_115) rfl rfl ?_
    show Steps p.tables e below (T17.setTop (mkF m 117 (own_S p1 p2 p3 p4 p5 p6 x7 x8 x9 x10 x11 x12 2 (vr b13) (vr ep) .unset .unset) [(.ref b13)])) _
    refine XS.aload X17.here hx rfl (hb hby at_117) rfl rfl ?_
    show Steps p.tables e below (T17.setTop (mkF m 119 (own_S p1 p2 p3 p4 p5 p6 x7 x8 x9 x10 x11 x12 2 (vr b13) (vr ep) .unset .unset) [(.ref x11), (.ref b13)])) _
    refine st18.trans ?_
    show Steps p.tables e below (T18.setTop (mkF m 124 (own_S p1 p2 p3 p4 p5 p6 x7 x8 x9 x10 x11 x12 2 (vr b13) (vr ep) .unset .unset) [(.int (1 : Int32))])) _
    refine XS.pop X18.here hx rfl (hb hby at_124) rfl rfl ?_
    refine XS.aload X18.here hx rfl (hb hby at_125) rfl rfl ?_
    show Steps p.tables e below (T18.setTop (mkF m 127 (own_S p1 p2 p3 p4 p5 p6 x7 x8 x9 x10 x11 x12 2 (vr b13) (vr ep) .unset .unset) [(.ref ep)])) _
    refine st19.trans ?_
    show Steps p.tables e below (T19.setTop (mkF m 130 (own_S p1 p2 p3 p4 p5 p6 x7 x8 x9 x10 x11 x12 2 (vr b13) (vr ep) .unset .unset) [(.ref xl)])) _
    refine XS.astore X19.here hx rfl (hb hby at_130) rfl rfl (l' := (own_S p1 p2 p3 p4 p5 p6 x7 x8 x9 x10 x11 x12 2 (vr b13) (vr ep) (vr xl) .unset)) rfl ?_
    refine XS.aload X19.here hx rfl (hb hby at_132) rfl rfl ?_
    show Steps p.tables e below (T19.setTop (mkF m 134 (own_S p1 p2 p3 p4 p5 p6 x7 x8 x9 x10 x11 x12 2 (vr b13) (vr ep) (vr xl) .unset) [(.ref xl)])) _
    refine XS.ifnullNo X19.here hx rfl (hb hby at_134) rfl ?_
    refine XS.aload X19.here hx rfl (hb hby at_137) rfl rfl ?_
    show Steps p.tables e below (T19.setTop (mkF m 139 (own_S p1 p2 p3 p4 p5 p6 x7 x8 x9 x10 x11 x12 2 (vr b13) (vr ep) (vr xl) .unset) [(.ref xl)])) _
    refine st20.trans ?_
    show Steps p.tables e below (T20.setTop (mkF m 144 (own_S p1 p2 p3 p4 p5 p6 x7 x8 x9 x10 x11 x12 2 (vr b13) (vr ep) (vr xl) .unset) [(.int (2 : Int32))])) _
    refine XS.iload X20.here hx rfl (hb hby at_144) rfl ?_
    refine XS.icmpNo X20.here hx rfl (hb hby at_146) rfl (teq (by decide : (2 : Int32) = (2 : Int32))).2 ?_
    show Steps p.tables e below (T20.setTop (mkF m 149 (own_S p1 p2 p3 p4 p5 p6 x7 x8 x9 x10 x11 x12 2 (vr b13) (vr ep) (vr xl) .unset) [])) _
    refine XS.iconst X20.here hx rfl (hb hby at_149) ?_
    refine XS.goto X20.here hx rfl (pc0 := 150) (pc' := 154) rfl (hb hby at_150) (by decide) (by decide) ?_
    show Steps p.tables e below (T20.setTop (mkF m 154 (own_S p1 p2 p3 p4 p5 p6 x7 x8 x9 x10 x11 x12 2 (vr b13) (vr ep) (vr xl) .unset) [(.int (1 : Int32))])) _
    refine XS.istore X20.here hx rfl (hb hby at_154) rfl (l' := (own_S p1 p2 p3 p4 p5 p6 x7 x8 x9 x10 x11 x12 2 (vr b13) (vr ep) (vr xl) (vi 1))) rfl ?_
    refine XS.iload X20.here hx rfl (hb hby at_156) rfl ?_
    show Steps p.tables e below (T20.setTop (mkF m 158 (own_S p1 p2 p3 p4 p5 p6 x7 x8 x9 x10 x11 x12 2 (vr b13) (vr ep) (vr xl) (vi 1)) [(.int (1 : Int32))])) _
    refine XS.ifNo X20.here hx rfl (hb hby at_158) rfl ((if0 _ _).trans (feq (by decide : ¬ ((1 : Int32) = (0 : Int32)))).1) ?_
    refine XS.iload X20.here hx rfl (hb hby at_161) rfl ?_
    show Steps p.tables e below (T20.setTop (mkF m 163 (own_S p1 p2 p3 p4 p5 p6 x7 x8 x9 x10 x11 x12 2 (vr b13) (vr ep) (vr xl) (vi 1)) [(.int (2 : Int32))])) _
    refine XS.ifNo X20.here hx rfl (hb hby at_163) rfl ((if0 _ _).trans (tlt (by decide : (0 : Int32) < (2 : Int32))).2.2.2) ?_
    refine XS.aload X20.here hx rfl (hb hby at_166) rfl rfl ?_
    show Steps p.tables e below (T20.setTop (mkF m 168 (own_S p1 p2 p3 p4 p5 p6 x7 x8 x9 x10 x11 x12 2 (vr b13) (vr ep) (vr xl) (vi 1)) [(.ref x10)])) _
    refine XS.aload X20.here hx rfl (hb hby at_168) rfl rfl ?_
    refine XS.iconst X20.here hx rfl (hb hby at_170) ?_
    show Steps p.tables e below (T20.setTop (mkF m 171 (own_S p1 p2 p3 p4 p5 p6 x7 x8 x9 x10 x11 x12 2 (vr b13) (vr ep) (vr xl) (vi 1)) [(.int (0 : Int32)), (.ref xl), (.ref x10)])) _
    refine st21.trans ?_
    show Steps p.tables e below (T21.setTop (mkF m 176 (own_S p1 p2 p3 p4 p5 p6 x7 x8 x9 x10 x11 x12 2 (vr b13) (vr ep) (vr xl) (vi 1)) [(.ref x10), (.ref x10)])) _
    refine st22.trans ?_
    show Steps p.tables e below (T22.setTop (mkF m 179 (own_S p1 p2 p3 p4 p5 p6 x7 x8 x9 x10 x11 x12 2 (vr b13) (vr ep) (vr xl) (vi 1)) [(.int (1 : Int32))])) _
    refine XS.istore X22.here hx rfl (hb hby at_179) rfl (l' := (own_S p1 p2 p3 p4 p5 p6 x7 x8 x9 x10 x11 x12 2 (vr b13) (vr ep) (vr xl) (vi 1))) rfl ?_
    refine XS.iload X22.here hx rfl (hb hby at_181) rfl ?_
    show Steps p.tables e below (T22.setTop (mkF m 183 (own_S p1 p2 p3 p4 p5 p6 x7 x8 x9 x10 x11 x12 2 (vr b13) (vr ep) (vr xl) (vi 1)) [(.int (1 : Int32))])) _
    refine XS.ifNo X22.here hx rfl (hb hby at_183) rfl ((if0 _ _).trans (feq (by decide : ¬ ((1 : Int32) = (0 : Int32)))).1) ?_
    refine XS.iload X22.here hx rfl (hb hby at_186) rfl ?_
    show Steps p.tables e below (T22.setTop (mkF m 188 (own_S p1 p2 p3 p4 p5 p6 x7 x8 x9 x10 x11 x12 2 (vr b13) (vr ep) (vr xl) (vi 1)) [(.int (2 : Int32))])) _
    refine XS.iconst X22.here hx rfl (hb hby at_188) ?_
    refine XS.icmpNo X22.here hx rfl (hb hby at_189) rfl (tlt (by decide : (1 : Int32) < (2 : Int32))).2.2.2 ?_
    show Steps p.tables e below (T22.setTop (mkF m 192 (own_S p1 p2 p3 p4 p5 p6 x7 x8 x9 x10 x11 x12 2 (vr b13) (vr ep) (vr xl) (vi 1)) [])) _
    refine XS.aload X22.here hx rfl (hb hby at_192) rfl rfl ?_
    refine XS.aload X22.here hx rfl (hb hby at_194) rfl rfl ?_
    show Steps p.tables e below (T22.setTop (mkF m 196 (own_S p1 p2 p3 p4 p5 p6 x7 x8 x9 x10 x11 x12 2 (vr b13) (vr ep) (vr xl) (vi 1)) [(.ref xl), (.ref x11)])) _
    refine XS.iconst X22.here hx rfl (hb hby at_196) ?_
    show Steps p.tables e below (T22.setTop (mkF m 197 (own_S p1 p2 p3 p4 p5 p6 x7 x8 x9 x10 x11 x12 2 (vr b13) (vr ep) (vr xl) (vi 1)) [(.int (1 : Int32)), (.ref xl), (.ref x11)])) _
    refine st23.trans ?_
    show Steps p.tables e below (T23.setTop (mkF m 202 (own_S p1 p2 p3 p4 p5 p6 x7 x8 x9 x10 x11 x12 2 (vr b13) (vr ep) (vr xl) (vi 1)) [(.ref x11), (.ref x11)])) _
    refine st24.trans ?_
    show Steps p.tables e below (T24.setTop (mkF m 205 (own_S p1 p2 p3 p4 p5 p6 x7 x8 x9 x10 x11 x12 2 (vr b13) (vr ep) (vr xl) (vi 1)) [(.int (1 : Int32))])) _
    refine XS.istore X24.here hx rfl (hb hby at_205) rfl (l' := (own_S p1 p2 p3 p4 p5 p6 x7 x8 x9 x10 x11 x12 2 (vr b13) (vr ep) (vr xl) (vi 1))) rfl ?_
    refine XS.iload X24.here hx rfl (hb hby at_207) rfl ?_
    show Steps p.tables e below (T24.setTop (mkF m 209 (own_S p1 p2 p3 p4 p5 p6 x7 x8 x9 x10 x11 x12 2 (vr b13) (vr ep) (vr xl) (vi 1)) [(.int (1 : Int32))])) _
    refine XS.ifNo X24.here hx rfl (hb hby at_209) rfl ((if0 _ _).trans (feq (by decide : ¬ ((1 : Int32) = (0 : Int32)))).1) ?_
    refine XS.iload X24.here hx rfl (hb hby at_212) rfl ?_
    show Steps p.tables e below (T24.setTop (mkF m 214 (own_S p1 p2 p3 p4 p5 p6 x7 x8 x9 x10 x11 x12 2 (vr b13) (vr ep) (vr xl) (vi 1)) [(.int (2 : Int32))])) _
    refine XS.iconst X24.here hx rfl (hb hby at_214) ?_
    refine XS.icmpYes X24.here hx rfl (pc0 := 215) (pc' := 233) rfl (hb hby at_215) rfl (flt (by decide : ¬ ((2 : Int32) < (2 : Int32)))).2.2.2 (by decide) (by decide) ?_
    show Steps p.tables e below (T24.setTop (mkF m 233 (own_S p1 p2 p3 p4 p5 p6 x7 x8 x9 x10 x11 x12 2 (vr b13) (vr ep) (vr xl) (vi 1)) [])) _
    refine XS.iload X24.here hx rfl (hb hby at_233) rfl ?_
    refine XS.ifNo X24.here hx rfl (hb hby at_235) rfl ((if0 _ _).trans (feq (by decide : ¬ ((1 : Int32) = (0 : Int32)))).1) ?_
    show Steps p.tables e below (T24.setTop (mkF m 238 (own_S p1 p2 p3 p4 p5 p6 x7 x8 x9 x10 x11 x12 2 (vr b13) (vr ep) (vr xl) (vi 1)) [])) _
    refine XS.aload X24.here hx rfl (hb hby at_238) rfl rfl ?_
    refine XS.aload X24.here hx rfl (hb hby at_240) rfl rfl ?_
    show Steps p.tables e below (T24.setTop (mkF m 242 (own_S p1 p2 p3 p4 p5 p6 x7 x8 x9 x10 x11 x12 2 (vr b13) (vr ep) (vr xl) (vi 1)) [(.ref ep), (.ref x7)])) _
    refine st25.trans ?_
    show Steps p.tables e below (T25.setTop (mkF m 245 (own_S p1 p2 p3 p4 p5 p6 x7 x8 x9 x10 x11 x12 2 (vr b13) (vr ep) (vr xl) (vi 1)) [(.ref x7), (.ref x7)])) _
    refine st26.trans ?_
    show Steps p.tables e below (T26.setTop (mkF m 248 (own_S p1 p2 p3 p4 p5 p6 x7 x8 x9 x10 x11 x12 2 (vr b13) (vr ep) (vr xl) (vi 1)) [(.int (1 : Int32))])) _
    refine XS.ifNo X26.here hx rfl (hb hby at_248) rfl ((if0 _ _).trans (feq (by decide : ¬ ((1 : Int32) = (0 : Int32)))).1) ?_
    refine XS.aload X26.here hx rfl (hb hby at_251) rfl rfl ?_
    show Steps p.tables e below (T26.setTop (mkF m 253 (own_S p1 p2 p3 p4 p5 p6 x7 x8 x9 x10 x11 x12 2 (vr b13) (vr ep) (vr xl) (vi 1)) [(.ref x8)])) _
    refine XS.aload X26.here hx rfl (hb hby at_253) rfl rfl ?_
    show Steps p.tables e below (T26.setTop (mkF m 255 (own_S p1 p2 p3 p4 p5 p6 x7 x8 x9 x10 x11 x12 2 (vr b13) (vr ep) (vr xl) (vi 1)) [(.ref ep), (.ref x8)])) _
    refine st27.trans ?_
    show Steps p.tables e below (T27.setTop (mkF m 258 (own_S p1 p2 p3 p4 p5 p6 x7 x8 x9 x10 x11 x12 2 (vr b13) (vr ep) (vr xl) (vi 1)) [(.ref x8), (.ref x8)])) _
    refine st28.trans ?_
    show Steps p.tables e below (T28.setTop (mkF m 261 (own_S p1 p2 p3 p4 p5 p6 x7 x8 x9 x10 x11 x12 2 (vr b13) (vr ep) (vr xl) (vi 1)) [(.int (1 : Int32))])) _
    refine XS.ifNo X28.here hx rfl (hb hby at_261) rfl ((if0 _ _).trans (feq (by decide : ¬ ((1 : Int32) = (0 : Int32)))).1) ?_
    refine XS.aload X28.here hx rfl (hb hby at_264) rfl rfl ?_
    show Steps p.tables e below (T28.setTop (mkF m 266 (own_S p1 p2 p3 p4 p5 p6 x7 x8 x9 x10 x11 x12 2 (vr b13) (vr ep) (vr xl) (vi 1)) [(.ref x9)])) _
    refine XS.aload X28.here hx rfl (hb hby at_266) rfl rfl ?_
    show Steps p.tables e below (T28.setTop (mkF m 268 (own_S p1 p2 p3 p4 p5 p6 x7 x8 x9 x10 x11 x12 2 (vr b13) (vr ep) (vr xl) (vi 1)) [(.ref ep), (.ref x9)])) _
    refine st29.trans ?_
    show Steps p.tables e below (T29.setTop (mkF m 271 (own_S p1 p2 p3 p4 p5 p6 x7 x8 x9 x10 x11 x12 2 (vr b13) (vr ep) (vr xl) (vi 1)) [(.ref x9), (.ref x9)])) _
    refine st30.trans ?_
    show Steps p.tables e below (T30.setTop (mkF m 274 (own_S p1 p2 p3 p4 p5 p6 x7 x8 x9 x10 x11 x12 2 (vr b13) (vr ep) (vr xl) (vi 1)) [(.int (1 : Int32))])) _
    refine XS.ifNo X30.here hx rfl (hb hby at_274) rfl ((if0 _ _).trans (feq (by decide : ¬ ((1 : Int32) = (0 : Int32)))).1) ?_
    refine XS.iconst X30.here hx rfl (hb hby at_277) ?_
    show Steps p.tables e below (T30.setTop (mkF m 278 (own_S p1 p2 p3 p4 p5 p6 x7 x8 x9 x10 x11 x12 2 (vr b13) (vr ep) (vr xl) (vi 1)) [(.int (1 : Int32))])) _
    refine XS.goto X30.here hx rfl (pc0 := 278) (pc' := 282) rfl (hb hby at_278) (by decide) (by decide) ?_
    refine XS.istore X30.here hx rfl (hb hby at_282) rfl (l' := (own_S p1 p2 p3 p4 p5 p6 x7 x8 x9 x10 x11 x12 2 (vr b13) (vr ep) (vr xl) (vi 1))) rfl ?_
    show Steps p.tables e below (T30.setTop (mkF m 284 (own_S p1 p2 p3 p4 p5 p6 x7 x8 x9 x10 x11 x12 2 (vr b13) (vr ep) (vr xl) (vi 1)) [])) _
    refine XS.iload X30.here hx rfl (hb hby at_284) rfl ?_
    refine XS.ifNo X30.here hx rfl (hb hby at_286) rfl ((if0 _ _).trans (feq (by decide : ¬ ((1 : Int32) = (0 : Int32)))).1) ?_
    show Steps p.tables e below (T30.setTop (mkF m 289 (own_S p1 p2 p3 p4 p5 p6 x7 x8 x9 x10 x11 x12 2 (vr b13) (vr ep) (vr xl) (vi 1)) [])) _
    refine XS.aload X30.here hx rfl (hb hby at_289) rfl rfl ?_
    show Steps p.tables e below (T30.setTop (mkF m 291 (own_S p1 p2 p3 p4 p5 p6 x7 x8 x9 x10 x11 x12 2 (vr b13) (vr ep) (vr xl) (vi 1)) [(.ref ep)])) _
    refine st31.trans ?_
    show Steps p.tables e below (T31.setTop (mkF m 294 (own_S p1 p2 p3 p4 p5 p6 x7 x8 x9 x10 x11 x12 2 (vr b13) (vr ep) (vr xl) (vi 1)) [(.ref st)])) _
    refine st33 _ ?_
    show Steps p.tables e below (T33.setTop (mkF m 297 (own_S p1 p2 p3 p4 p5 p6 x7 x8 x9 x10 x11 x12 2 (vr b13) (vr ep) (vr xl) (vi 1)) [(.ref st), (.ref st)])) _
    refine Jvm.RoadKit.acmp (g := (mkF m 297 (own_S p1 p2 p3 p4 p5 p6 x7 x8 x9 x10 x11 x12 2 (vr b13) (vr ep) (vr xl) (vi 1)) [(.ref st), (.ref st)])) X33 hx rfl rfl rfl (pc0 := 297) (pc' := 300) (same := true) rfl (hb hby at_297) rfl (decide_eq_true (rfl : Value.ref _ = _)) (by decide) (by decide) ?_
    show Steps p.tables e below (T33.setTop (mkF m 300 (own_S p1 p2 p3 p4 p5 p6 x7 x8 x9 x10 x11 x12 2 (vr b13) (vr ep) (vr xl) (vi 1)) [])) _
    refine XS.iconst X33.here hx rfl (hb hby at_300) ?_
    refine XS.goto X33.here hx rfl (pc0 := 301) (pc' := 305) rfl (hb hby at_301) (by decide) (by decide) ?_
    show Steps p.tables e below (T33.setTop (mkF m 305 (own_S p1 p2 p3 p4 p5 p6 x7 x8 x9 x10 x11 x12 2 (vr b13) (vr ep) (vr xl) (vi 1)) [(.int (1 : Int32))])) _
    refine XS.istore X33.here hx rfl (hb hby at_305) rfl (l' := (own_S p1 p2 p3 p4 p5 p6 x7 x8 x9 x10 x11 x12 2 (vr b13) (vr ep) (vr xl) (vi 1))) rfl ?_
    refine XS.iload X33.here hx rfl (hb hby at_307) rfl ?_
    show Steps p.tables e below (T33.setTop (mkF m 309 (own_S p1 p2 p3 p4 p5 p6 x7 x8 x9 x10 x11 x12 2 (vr b13) (vr ep) (vr xl) (vi 1)) [(.int (1 : Int32))])) _
    refine XS.ifNo X33.here hx rfl (hb hby at_309) rfl ((if0 _ _).trans (feq (by decide : ¬ ((1 : Int32) = (0 : Int32)))).1) ?_
    refine XS.aload X33.here hx rfl (hb hby at_312) rfl rfl ?_
    show Steps p.tables e below (T33.setTop (mkF m 314 (own_S p1 p2 p3 p4 p5 p6 x7 x8 x9 x10 x11 x12 2 (vr b13) (vr ep) (vr xl) (vi 1)) [(.ref ep)])) _
    refine st34.trans ?_
    show Steps p.tables e below (T34.setTop (mkF m 317 (own_S p1 p2 p3 p4 p5 p6 x7 x8 x9 x10 x11 x12 2 (vr b13) (vr ep) (vr xl) (vi 1)) [.null])) _
    refine XS.ifnonnullNo X34.here hx rfl (hb hby at_317) rfl ?_
    refine XS.iconst X34.here hx rfl (hb hby at_320) ?_
    show Steps p.tables e below (T34.setTop (mkF m 321 (own_S p1 p2 p3 p4 p5 p6 x7 x8 x9 x10 x11 x12 2 (vr b13) (vr ep) (vr xl) (vi 1)) [(.int (1 : Int32))])) _
    refine XS.goto X34.here hx rfl (pc0 := 321) (pc' := 325) rfl (hb hby at_321) (by decide) (by decide) ?_
    refine XS.istore X34.here hx rfl (hb hby at_325) rfl (l' := (own_S p1 p2 p3 p4 p5 p6 x7 x8 x9 x10 x11 x12 2 (vr b13) (vr ep) (vr xl) (vi 1))) rfl ?_
    show Steps p.tables e below (T34.setTop (mkF m 327 (own_S p1 p2 p3 p4 p5 p6 x7 x8 x9 x10 x11 x12 2 (vr b13) (vr ep) (vr xl) (vi 1)) [])) _
    refine XS.iload X34.here hx rfl (hb hby at_327) rfl ?_
    refine XS.ifNo X34.here hx rfl (hb hby at_329) rfl ((if0 _ _).trans (feq (by decide : ¬ ((1 : Int32) = (0 : Int32)))).1) ?_
    show Steps p.tables e below (T34.setTop (mkF m 332 (own_S p1 p2 p3 p4 p5 p6 x7 x8 x9 x10 x11 x12 2 (vr b13) (vr ep) (vr xl) (vi 1)) [])) _
    refine XS.aload X34.here hx rfl (hb hby at_332) rfl rfl ?_
    show Steps p.tables e below (T34.setTop (mkF m 334 (own_S p1 p2 p3 p4 p5 p6 x7 x8 x9 x10 x11 x12 2 (vr b13) (vr ep) (vr xl) (vi 1)) [(.ref ep)])) _
    refine st35.trans ?_
    show Steps p.tables e below (T35.setTop (mkF m 337 (own_S p1 p2 p3 p4 p5 p6 x7 x8 x9 x10 x11 x12 2 (vr b13) (vr ep) (vr xl) (vi 1)) [.null])) _
    refine XS.ifnonnullNo X35.here hx rfl (hb hby at_337) rfl ?_
    refine XS.iconst X35.here hx rfl (hb hby at_340) ?_
    show Steps p.tables e below (T35.setTop (mkF m 341 (own_S p1 p2 p3 p4 p5 p6 x7 x8 x9 x10 x11 x12 2 (vr b13) (vr ep) (vr xl) (vi 1)) [(.int (1 : Int32))])) _
    refine XS.goto X35.here hx rfl (pc0 := 341) (pc' := 345) rfl (hb hby at_341) (by decide) (by decide) ?_
    refine XS.istore X35.here hx rfl (hb hby at_345) rfl (l' := (own_S p1 p2 p3 p4 p5 p6 x7 x8 x9 x10 x11 x12 2 (vr b13) (vr ep) (vr xl) (vi 1))) rfl ?_
    show Steps p.tables e below (T35.setTop (mkF m 347 (own_S p1 p2 p3 p4 p5 p6 x7 x8 x9 x10 x11 x12 2 (vr b13) (vr ep) (vr xl) (vi 1)) [])) _
    refine XS.iload X35.here hx rfl (hb hby at_347) rfl ?_
    refine XS.ifNo X35.here hx rfl (hb hby at_349) rfl ((if0 _ _).trans (feq (by decide : ¬ ((1 : Int32) = (0 : Int32)))).1) ?_
    show Steps p.tables e below (T35.setTop (mkF m 352 (own_S p1 p2 p3 p4 p5 p6 x7 x8 x9 x10 x11 x12 2 (vr b13) (vr ep) (vr xl) (vi 1)) [])) _
    refine XS.aload X35.here hx rfl (hb hby at_352) rfl rfl ?_
    show Steps p.tables e below (T35.setTop (mkF m 354 (own_S p1 p2 p3 p4 p5 p6 x7 x8 x9 x10 x11 x12 2 (vr b13) (vr ep) (vr xl) (vi 1)) [(.ref ep)])) _
    refine st36.trans ?_
    show Steps p.tables e below (T36.setTop (mkF m 357 (own_S p1 p2 p3 p4 p5 p6 x7 x8 x9 x10 x11 x12 2 (vr b13) (vr ep) (vr xl) (vi 1)) [(.ref br)])) _
    refine st38 _ ?_
    show Steps p.tables e below (T38.setTop (mkF m 360 (own_S p1 p2 p3 p4 p5 p6 x7 x8 x9 x10 x11 x12 2 (vr b13) (vr ep) (vr xl) (vi 1)) [(.ref br), (.ref br)])) _
    refine Jvm.RoadKit.acmp (g := (mkF m 360 (own_S p1 p2 p3 p4 p5 p6 x7 x8 x9 x10 x11 x12 2 (vr b13) (vr ep) (vr xl) (vi 1)) [(.ref br), (.ref br)])) X38 hx rfl rfl rfl (pc0 := 360) (pc' := 363) (same := true) rfl (hb hby at_360) rfl (decide_eq_true (rfl : Value.ref _ = _)) (by decide) (by decide) ?_
    show Steps p.tables e below (T38.setTop (mkF m 363 (own_S p1 p2 p3 p4 p5 p6 x7 x8 x9 x10 x11 x12 2 (vr b13) (vr ep) (vr xl) (vi 1)) [])) _
    refine XS.iconst X38.here hx rfl (hb hby at_363) ?_
    refine XS.goto X38.here hx rfl (pc0 := 364) (pc' := 368) rfl (hb hby at_364) (by decide) (by decide) ?_
    show Steps p.tables e below (T38.setTop (mkF m 368 (own_S p1 p2 p3 p4 p5 p6 x7 x8 x9 x10 x11 x12 2 (vr b13) (vr ep) (vr xl) (vi 1)) [(.int (1 : Int32))])) _
    refine XS.istore X38.here hx rfl (hb hby at_368) rfl (l' := (own_S p1 p2 p3 p4 p5 p6 x7 x8 x9 x10 x11 x12 2 (vr b13) (vr ep) (vr xl) (vi 1))) rfl ?_
    refine XS.iload X38.here hx rfl (hb hby at_370) rfl ?_
    show Steps p.tables e below (T38.setTop (mkF m 372 (own_S p1 p2 p3 p4 p5 p6 x7 x8 x9 x10 x11 x12 2 (vr b13) (vr ep) (vr xl) (vi 1)) [(.int (1 : Int32))])) _
    refine XS.ifNo X38.here hx rfl (hb hby at_372) rfl ((if0 _ _).trans (feq (by decide : ¬ ((1 : Int32) = (0 : Int32)))).1) ?_
    refine XS.aload X38.here hx rfl (hb hby at_375) rfl rfl ?_
    show Steps p.tables e below (T38.setTop (mkF m 377 (own_S p1 p2 p3 p4 p5 p6 x7 x8 x9 x10 x11 x12 2 (vr b13) (vr ep) (vr xl) (vi 1)) [(.ref ep)])) _
    refine st39.trans ?_
    show Steps p.tables e below (T39.setTop (mkF m 380 (own_S p1 p2 p3 p4 p5 p6 x7 x8 x9 x10 x11 x12 2 (vr b13) (vr ep) (vr xl) (vi 1)) [(.int (0 : Int32))])) _
    refine XS.ifNo X39.here hx rfl (hb hby at_380) rfl ((if0 _ _).trans (teq (by decide : (0 : Int32) = (0 : Int32))).2) ?_
    refine XS.iconst X39.here hx rfl (hb hby at_383) ?_
    show Steps p.tables e below (T39.setTop (mkF m 384 (own_S p1 p2 p3 p4 p5 p6 x7 x8 x9 x10 x11 x12 2 (vr b13) (vr ep) (vr xl) (vi 1)) [(.int (1 : Int32))])) _
    refine XS.goto X39.here hx rfl (pc0 := 384) (pc' := 388) rfl (hb hby at_384) (by decide) (by decide) ?_
    refine XS.istore X39.here hx rfl (hb hby at_388) rfl (l' := (own_S p1 p2 p3 p4 p5 p6 x7 x8 x9 x10 x11 x12 2 (vr b13) (vr ep) (vr xl) (vi 1))) rfl ?_
    show Steps p.tables e below (T39.setTop (mkF m 390 (own_S p1 p2 p3 p4 p5 p6 x7 x8 x9 x10 x11 x12 2 (vr b13) (vr ep) (vr xl) (vi 1)) [])) _
    refine XS.iload X39.here hx rfl (hb hby at_390) rfl ?_
    show Steps p.tables e below (T39.setTop (mkF m 392 (own_S p1 p2 p3 p4 p5 p6 x7 x8 x9 x10 x11 x12 2 (vr b13) (vr ep) (vr xl) (vi 1)) [(.int (1 : Int32))])) _
    exact retN X39 hx (t := .boolean) Bd.returns (by simp) (hb hby at_392) hr
  · show Q0c Z p1 p2 p3 p4 p5 p6 w wD wEL wEm st br mr cD h0 n0 _ T39.heap _
    exact ⟨rfl, N39⟩
def Q0d (Z : State) (p1 p2 p3 p4 p5 p6 w : Int32) (wD wEL wEm st br mr : Addr) (cD : Cell) (h0 : Heap) (n0 : Nat) (v : Option Value) (h : Heap) (L : List Loc) : Prop := v = some (.int (1 : Int32)) ∧ Fr n0 L
set_option maxRecDepth 65536 in
set_option maxHeartbeats 40000000 in
theorem rm0d (l : Launch) (Z : State) (a0 : Array Value) (hw : ∀ d ∈ tables_1, d.before a0 Z = true) (ws : List Jvm.Cond) (p1 p2 p3 p4 p5 p6 w : Int32) (wD wEL wEm st br mr : Addr) (cD : Cell) (h0 : Heap) (n0 : Nat) (Z0 : n0 ≤ h0.size) (hG : own_G Z h0 w wD wEL wEm st br mr cD) (hn : (((p4.toUInt32 >>> ((24 : Int32) &&& 31).toUInt32).toInt32) &&& (3 : Int32)) = (3 : Int32)) :
    MetFree l x (head1 (Jvm.Cond.code x code maxLocals ret :: ws) room_1) (fun a U => a = #[(.int p1), (.int p2), (.int p3), (.int p4), (.int p5), (.int p6)] ∧ Z.Warmed39 U.vm ∧ U.heap = h0 ∧ CHv Z own_EL U.vm h0) (fun _ _ _ _ _ => True) (fun _ U o U' => ∃ v L, o = .returned v ∧ Q0d Z p1 p2 p3 p4 p5 p6 w wD wEL wEm st br mr cD h0 n0 v U'.heap L ∧ ReturnedEndW U o U' L room_1.cells room_1.slots) := by
  refine MetFree.of_bodySF (plainFor_of_name pn_0) hisR ?_
  intro p e s m args below meth c s₁ Bd hml0 hP hK
  obtain ⟨rfl, hZ, hh, hCH⟩ := hP
  have hEL := own_EW hw
  have hZ' : Z.Warmed39 (s.setVm s.vm).vm := hZ
  have hx := Bd.exec
  have hby := Bd.bytes
  have hml : c.maxLocals = 17 := hml0
  have hown : s.vm.findClass "com/example/tenacious_courier/tenaciouscourier/model/EndpointRegisteredPinLaw" = some m.cls := findClass_of_methodNamed Bd.named
  have hnm := (name_of_methodNamed Bd.named Bd.method).1
  have X0 : Stand p l e room_1 s m #[(.int p1), (.int p2), (.int p3), (.int p4), (.int p5), (.int p6)] below meth c s₁ [] 0 0 := Stand.of_body Bd
  have e0 : s₁.heap = h0 := by rw [← hh, Bd.state]; rfl
  have N0 := Fr.nil n0
  have pre0 : ∀ t, Steps p.tables e below (s₁.setTop (mkF m 0 #[.val (.int p1), .val (.int p2), .val (.int p3), .val (.int p4), .val (.int p5), .val (.int p6), .unset, .unset, .unset, .unset, .unset, .unset, .unset, .unset, .unset, .unset, .unset] [])) t → Steps p.tables e below (s₁.setTop (entryFrame m #[(.int p1), (.int p2), (.int p3), (.int p4), (.int p5), (.int p6)] maxLocals)) t := fun t k => castTop (ef_0 m p1 p2 p3 p4 p5 p6) k
  obtain ⟨S_CS, hcs, S_D, A_D, S_Z, S_EL, L_EL, S_EM, X_EM, S_AC, S_CL, MIR⟩ := hG
  have X0s := (X0 : Stand p l e _ (s.setVm s.vm) m _ below meth c s₁ _ _ _)
  obtain ⟨_, _, ⟨T7, L7, k7, n7⟩, -, X7r, hS7r, hg7, ⟨Lc7, hQ7, l7, y7, z7, hC7⟩, st7⟩ := callSS X0s hx (y := mN11) hown (mvT hZ' (wd hw 0 rfl)) (mvT hZ' (wd hw 1 rfl)) (mvT hZ' (wd hw 2 rfl)) (mvT hZ' (wd hw 3 rfl)) (by decide) (backOfSH (W := 0) (own_str l Z a0 hw [] p1 w h0 n0 Z0 S_CS hcs) hZ (wd hw 3 rfl) (wd hw 2 rfl) (by decide) (by decide) hEL (hCH)) (g := (mkF m 1 #[.val (.int p1), .val (.int p2), .val (.int p3), .val (.int p4), .val (.int p5), .val (.int p6), .unset, .unset, .unset, .unset, .unset, .unset, .unset, .unset, .unset, .unset, .unset] [(.int p1)])) rfl (by rw [hml]; rfl) (argsL := [(.int p1)]) (rest := []) (lenOf pd_0_0 rfl) rfl (by show 2 * 0 + _ ≤ _; exact Nat.le_of_eq rfl) (hb hby at_1) (fun _ _ => ⟨rfl, e0, (by decide : 0 + 4 ≤ _), (by decide : 0 + 12 ≤ _)⟩)
  dsimp only [Pt.U, Pt.locs, Pt.cells, Pt.slots] at X7r hS7r hg7 hC7 l7 y7 z7 st7 hQ7
  obtain rfl : k7 = 4 := y7
  obtain rfl : n7 = 12 := z7
  obtain ⟨X7, hS7, hZ7, hown7⟩ := rebS (own := "com/example/tenacious_courier/tenaciouscourier/model/EndpointRegisteredPinLaw") ((State.WarmedH.refl s).since 0) (Nat.zero_le _) X7r hS7r hg7 hZ' hown
  obtain ⟨x7, zz7, vs7, rfl, N7q, K7q, S7q⟩ := hQ7
  have K7 : Keep h0 T7.heap [] := K7q
  have Z7 : n0 ≤ T7.heap.size := Nat.le_trans Z0 K7.1
  have CS7 := own_staK S_CS K7
  have N7 : Fr n0 L7 := by rw [l7]; exact Fr.app N0 N7q
  obtain ⟨_, _, ⟨T8, L8, k8, n8⟩, -, X8r, hS8r, hg8, ⟨Lc8, hQ8, l8, y8, z8, hC8⟩, st8⟩ := callSS X7 hx (y := mN11) hown7 (mvT hZ7 (wd hw 0 rfl)) (mvT hZ7 (wd hw 1 rfl)) (mvT hZ7 (wd hw 2 rfl)) (mvT hZ7 (wd hw 3 rfl)) (by decide) (backOfSH (W := 0) (own_str l Z a0 hw [] p2 w T7.heap n0 Z7 CS7 hcs) hZ7 (wd hw 3 rfl) (wd hw 2 rfl) (by decide) (by decide) hEL (hC7.1)) (g := (mkF m 7 #[.val (.int p1), .val (.int p2), .val (.int p3), .val (.int p4), .val (.int p5), .val (.int p6), .val (.ref x7), .unset, .unset, .unset, .unset, .unset, .unset, .unset, .unset, .unset, .unset] [(.int p2)])) rfl (by rw [hml]; rfl) (argsL := [(.int p2)]) (rest := []) (lenOf pd_0_0 rfl) rfl (by show 2 * 0 + _ ≤ _; exact Nat.le_of_eq rfl) (hb hby at_7) (fun _ _ => ⟨rfl, rfl, (by decide : 4 + 4 ≤ _), (by decide : 12 + 12 ≤ _)⟩)
  dsimp only [Pt.U, Pt.locs, Pt.cells, Pt.slots] at X8r hS8r hg8 hC8 l8 y8 z8 st8 hQ8
  obtain rfl : k8 = 8 := y8
  obtain rfl : n8 = 24 := z8
  obtain ⟨X8, hS8, hZ8, hown8⟩ := rebS (own := "com/example/tenacious_courier/tenaciouscourier/model/EndpointRegisteredPinLaw") hS7 (Nat.le_refl _) X8r hS8r hg8 hZ7 hown7
  obtain ⟨x8, zz8, vs8, rfl, N8q, K8q, S8q⟩ := hQ8
  have K8 : Keep h0 T8.heap [] := K7.trans K8q (fun x hx => nomatch hx)
  have Z8 : n0 ≤ T8.heap.size := Nat.le_trans Z0 K8.1
  have CS8 := own_staK S_CS K8
  have N8 : Fr n0 L8 := by rw [l8]; exact Fr.app N7 N8q
  obtain ⟨_, _, ⟨T9, L9, k9, n9⟩, -, X9r, hS9r, hg9, ⟨Lc9, hQ9, l9, y9, z9, hC9⟩, st9⟩ := callSS X8 hx (y := mN11) hown8 (mvT hZ8 (wd hw 0 rfl)) (mvT hZ8 (wd hw 1 rfl)) (mvT hZ8 (wd hw 2 rfl)) (mvT hZ8 (wd hw 3 rfl)) (by decide) (backOfSH (W := 0) (own_str l Z a0 hw [] p3 w T8.heap n0 Z8 CS8 hcs) hZ8 (wd hw 3 rfl) (wd hw 2 rfl) (by decide) (by decide) hEL (hC8.1)) (g := (mkF m 13 #[.val (.int p1), .val (.int p2), .val (.int p3), .val (.int p4), .val (.int p5), .val (.int p6), .val (.ref x7), .val (.ref x8), .unset, .unset, .unset, .unset, .unset, .unset, .unset, .unset, .unset] [(.int p3)])) rfl (by rw [hml]; rfl) (argsL := [(.int p3)]) (rest := []) (lenOf pd_0_0 rfl) rfl (by show 2 * 0 + _ ≤ _; exact Nat.le_of_eq rfl) (hb hby at_13) (fun _ _ => ⟨rfl, rfl, (by decide : 8 + 4 ≤ _), (by decide : 24 + 12 ≤ _)⟩)
  dsimp only [Pt.U, Pt.locs, Pt.cells, Pt.slots] at X9r hS9r hg9 hC9 l9 y9 z9 st9 hQ9
  obtain rfl : k9 = 12 := y9
  obtain rfl : n9 = 36 := z9
  obtain ⟨X9, hS9, hZ9, hown9⟩ := rebS (own := "com/example/tenacious_courier/tenaciouscourier/model/EndpointRegisteredPinLaw") hS8 (Nat.le_refl _) X9r hS9r hg9 hZ8 hown8
  obtain ⟨x9, zz9, vs9, rfl, N9q, K9q, S9q⟩ := hQ9
  have K9 : Keep h0 T9.heap [] := K8.trans K9q (fun x hx => nomatch hx)
  have Z9 : n0 ≤ T9.heap.size := Nat.le_trans Z0 K9.1
  have CS9 := own_staK S_CS K9
  have N9 : Fr n0 L9 := by rw [l9]; exact Fr.app N8 N9q
  obtain ⟨_, _, ⟨T10, L10, k10, n10⟩, -, X10r, hS10r, hg10, ⟨Lc10, hQ10, l10, y10, z10, hC10⟩, st10⟩ := callSS X9 hx (y := mN11) hown9 (mvT hZ9 (wd hw 0 rfl)) (mvT hZ9 (wd hw 1 rfl)) (mvT hZ9 (wd hw 2 rfl)) (mvT hZ9 (wd hw 3 rfl)) (by decide) (backOfSH (W := 0) (own_str l Z a0 hw [] p4 w T9.heap n0 Z9 CS9 hcs) hZ9 (wd hw 3 rfl) (wd hw 2 rfl) (by decide) (by decide) hEL (hC9.1)) (g := (mkF m 19 #[.val (.int p1), .val (.int p2), .val (.int p3), .val (.int p4), .val (.int p5), .val (.int p6), .val (.ref x7), .val (.ref x8), .val (.ref x9), .unset, .unset, .unset, .unset, .unset, .unset, .unset, .unset] [(.int p4)])) rfl (by rw [hml]; rfl) (argsL := [(.int p4)]) (rest := []) (lenOf pd_0_0 rfl) rfl (by show 2 * 0 + _ ≤ _; exact Nat.le_of_eq rfl) (hb hby at_19) (fun _ _ => ⟨rfl, rfl, (by decide : 12 + 4 ≤ _), (by decide : 36 + 12 ≤ _)⟩)
  dsimp only [Pt.U, Pt.locs, Pt.cells, Pt.slots] at X10r hS10r hg10 hC10 l10 y10 z10 st10 hQ10
  obtain rfl : k10 = 16 := y10
  obtain rfl : n10 = 48 := z10
  obtain ⟨X10, hS10, hZ10, hown10⟩ := rebS (own := "com/example/tenacious_courier/tenaciouscourier/model/EndpointRegisteredPinLaw") hS9 (Nat.le_refl _) X10r hS10r hg10 hZ9 hown9
  obtain ⟨x10, zz10, vs10, rfl, N10q, K10q, S10q⟩ := hQ10
  have K10 : Keep h0 T10.heap [] := K9.trans K10q (fun x hx => nomatch hx)
  have Z10 : n0 ≤ T10.heap.size := Nat.le_trans Z0 K10.1
  have CS10 := own_staK S_CS K10
  have N10 : Fr n0 L10 := by rw [l10]; exact Fr.app N9 N10q
  obtain ⟨_, _, ⟨T11, L11, k11, n11⟩, -, X11r, hS11r, hg11, ⟨Lc11, hQ11, l11, y11, z11, hC11⟩, st11⟩ := callSS X10 hx (y := mN11) hown10 (mvT hZ10 (wd hw 0 rfl)) (mvT hZ10 (wd hw 1 rfl)) (mvT hZ10 (wd hw 2 rfl)) (mvT hZ10 (wd hw 3 rfl)) (by decide) (backOfSH (W := 0) (own_str l Z a0 hw [] p5 w T10.heap n0 Z10 CS10 hcs) hZ10 (wd hw 3 rfl) (wd hw 2 rfl) (by decide) (by decide) hEL (hC10.1)) (g := (mkF m 26 #[.val (.int p1), .val (.int p2), .val (.int p3), .val (.int p4), .val (.int p5), .val (.int p6), .val (.ref x7), .val (.ref x8), .val (.ref x9), .val (.ref x10), .unset, .unset, .unset, .unset, .unset, .unset, .unset] [(.int p5)])) rfl (by rw [hml]; rfl) (argsL := [(.int p5)]) (rest := []) (lenOf pd_0_0 rfl) rfl (by show 2 * 0 + _ ≤ _; exact Nat.le_of_eq rfl) (hb hby at_26) (fun _ _ => ⟨rfl, rfl, (by decide : 16 + 4 ≤ _), (by decide : 48 + 12 ≤ _)⟩)
  dsimp only [Pt.U, Pt.locs, Pt.cells, Pt.slots] at X11r hS11r hg11 hC11 l11 y11 z11 st11 hQ11
  obtain rfl : k11 = 20 := y11
  obtain rfl : n11 = 60 := z11
  obtain ⟨X11, hS11, hZ11, hown11⟩ := rebS (own := "com/example/tenacious_courier/tenaciouscourier/model/EndpointRegisteredPinLaw") hS10 (Nat.le_refl _) X11r hS11r hg11 hZ10 hown10
  obtain ⟨x11, zz11, vs11, rfl, N11q, K11q, S11q⟩ := hQ11
  have K11 : Keep h0 T11.heap [] := K10.trans K11q (fun x hx => nomatch hx)
  have Z11 : n0 ≤ T11.heap.size := Nat.le_trans Z0 K11.1
  have CS11 := own_staK S_CS K11
  have N11 : Fr n0 L11 := by rw [l11]; exact Fr.app N10 N11q
  obtain ⟨_, _, ⟨T12, L12, k12, n12⟩, -, X12r, hS12r, hg12, ⟨Lc12, hQ12, l12, y12, z12, hC12⟩, st12⟩ := callSS X11 hx (y := mN11) hown11 (mvT hZ11 (wd hw 0 rfl)) (mvT hZ11 (wd hw 1 rfl)) (mvT hZ11 (wd hw 2 rfl)) (mvT hZ11 (wd hw 3 rfl)) (by decide) (backOfSH (W := 0) (own_str l Z a0 hw [] p6 w T11.heap n0 Z11 CS11 hcs) hZ11 (wd hw 3 rfl) (wd hw 2 rfl) (by decide) (by decide) hEL (hC11.1)) (g := (mkF m 33 #[.val (.int p1), .val (.int p2), .val (.int p3), .val (.int p4), .val (.int p5), .val (.int p6), .val (.ref x7), .val (.ref x8), .val (.ref x9), .val (.ref x10), .val (.ref x11), .unset, .unset, .unset, .unset, .unset, .unset] [(.int p6)])) rfl (by rw [hml]; rfl) (argsL := [(.int p6)]) (rest := []) (lenOf pd_0_0 rfl) rfl (by show 2 * 0 + _ ≤ _; exact Nat.le_of_eq rfl) (hb hby at_33) (fun _ _ => ⟨rfl, rfl, (by decide : 20 + 4 ≤ _), (by decide : 60 + 12 ≤ _)⟩)
  dsimp only [Pt.U, Pt.locs, Pt.cells, Pt.slots] at X12r hS12r hg12 hC12 l12 y12 z12 st12 hQ12
  obtain rfl : k12 = 24 := y12
  obtain rfl : n12 = 72 := z12
  obtain ⟨X12, hS12, hZ12, hown12⟩ := rebS (own := "com/example/tenacious_courier/tenaciouscourier/model/EndpointRegisteredPinLaw") hS11 (Nat.le_refl _) X12r hS12r hg12 hZ11 hown11
  obtain ⟨x12, zz12, vs12, rfl, N12q, K12q, S12q⟩ := hQ12
  have K12 : Keep h0 T12.heap [] := K11.trans K12q (fun x hx => nomatch hx)
  have Z12 : n0 ≤ T12.heap.size := Nat.le_trans Z0 K12.1
  have CS12 := own_staK S_CS K12
  have A7_12 := (((((S7q.1.keep K8q).keep K9q).keep K10q).keep K11q).keep K12q)
  have A8_12 := ((((S8q.1.keep K9q).keep K10q).keep K11q).keep K12q)
  have A9_12 := (((S9q.1.keep K10q).keep K11q).keep K12q)
  have A10_12 := ((S10q.1.keep K11q).keep K12q)
  have A11_12 := (S11q.1.keep K12q)
  have A12_12 := S12q.1
  have N12 : Fr n0 L12 := by rw [l12]; exact Fr.app N11 N12q
  obtain ⟨T13, h13, X13, e13, E13, A13, D13, -, st13⟩ := newO X12 hx hZ12 hown12 (wd hw 26 rfl) (wd hw 27 rfl) (wd hw 28 rfl) rfl (g := (mkF m 46 (own_S p1 p2 p3 p4 p5 p6 x7 x8 x9 x10 x11 x12 3 .unset .unset .unset .unset) [])) rfl (hb hby at_46) (by decide) (by decide)
  obtain ⟨b13, g13⟩ : ∃ z, z = T12.heap.size := ⟨_, rfl⟩
  rw [← g13] at A13 D13 st13
  have F_modCount_b13 : Fld Z h13 b13 "java/util/AbstractList" "modCount" "I" (.int (0 : Int32)) := D13 (Or.inl (wd hw 46 rfl)) (ty := .int) (by decide)
  have F_elementData_b13 : Fld Z h13 b13 "java/util/ArrayList" "elementData" "[Ljava/lang/Object;" .null := D13 (Or.inl (wd hw 49 rfl)) (ty := (.array (.object "java/lang/Object"))) (by decide)
  have F_size_b13 : Fld Z h13 b13 "java/util/ArrayList" "size" "I" (.int (0 : Int32)) := D13 (Or.inl (wd hw 96 rfl)) (ty := .int) (by decide)
  have E_b13 := A13
  have g_b13 : n0 ≤ b13 := Nat.le_trans Z0 (Nat.le_trans K12.1 (Nat.le_of_eq g13.symm))
  have sz_b13 : h0.size ≤ b13 := (Nat.le_trans K12.1 (Nat.le_of_eq g13.symm))
  have K13 : Keep h0 h13 [] := K12.ext E13
  obtain ⟨_, _, ⟨T14, L14, k14, n14⟩, -, X14, ⟨Lc14, hQ14, l14, y14, z14⟩, st14⟩ := X13.specialBack hx (y := mN19) rfl hown12 (mvT hZ12 (wd hw 29 rfl)) (mvT hZ12 (wd hw 30 rfl)) (mvT hZ12 (wd hw 31 rfl)) (by decide) (backOf (W := 1) (rm5 l Z a0 hw [] b13 wD (.int (0 : Int32)) .null h13 n0 (Nat.le_trans Z0 K13.1) (own_staK S_D K13) E_b13 F_modCount_b13 F_elementData_b13 F_size_b13 g_b13) hZ12 (wd hw 31 rfl) (wd hw 28 rfl) (by decide) (by decide)) (g := (mkF m 50 (own_S p1 p2 p3 p4 p5 p6 x7 x8 x9 x10 x11 x12 3 .unset .unset .unset .unset) [(.ref b13), (.ref b13)])) rfl (by rw [hml]; rfl) (Steps.refl _) (a := b13) (argsL := []) (rest := [(.ref b13)]) (lenOf pd_0_3 rfl) rfl (by show 2 * 0 + _ ≤ _; exact Nat.le_of_eq rfl) (hb hby at_50) (fun _ _ => ⟨rfl, e13, (by decide : 25 + 0 ≤ _), (by decide : 75 + 0 ≤ _)⟩)
  dsimp only [Pt.U, Pt.locs, Pt.cells, Pt.slots] at X14 l14 y14 z14 st14 hQ14
  obtain rfl : k14 = 25 := y14
  obtain rfl : n14 = 75 := z14
  obtain ⟨rfl, N14q, K14q, E14, M14, D14, F14⟩ := hQ14
  have K14 : Keep h0 T14.heap [] := K13.trans K14q (fun x hx => Or.inr (by cases List.mem_singleton.mp hx; exact sz_b13))
  have Z14 : n0 ≤ T14.heap.size := Nat.le_trans Z0 K14.1
  have AD14 := own_arK A_D K14
  have SD14 := own_staK S_D K14
  have A7_14 := (A7_12.ext E13).keep K14q
  have A8_14 := (A8_12.ext E13).keep K14q
  have A9_14 := (A9_12.ext E13).keep K14q
  have A10_14 := (A10_12.ext E13).keep K14q
  have A11_14 := (A11_12.ext E13).keep K14q
  have A12_14 := (A12_12.ext E13).keep K14q
  have N14 : Fr n0 L14 := by rw [l14]; exact Fr.app N12 N14q
  obtain ⟨cq15, kq15, q15a, q15b, q15c⟩ := isOf hZ12 rfl E14
  obtain ⟨_, _, ⟨T15, L15, k15, n15⟩, -, X15, ⟨Lc15, hQ15, l15, y15, z15⟩, st15⟩ := X14.interfaceBack hx (xi := mN41) (y := mN20) hown12 (mvT hZ12 (wd hw 113 rfl)) (mvT hZ12 (wd hw 114 rfl)) (mvT hZ12 (wd hw 115 rfl)) (mvT hZ12 (wd hw 116 rfl)) (mvT hZ12 (wd hw 117 rfl)) (mvT hZ12 (wd hw 118 rfl)) (mvT hZ12 (wd hw 119 rfl)) (mvT hZ12 (wd hw 120 rfl)) (by decide) (backOf (W := 0) (rm14a l Z a0 hw [] b13 x10 wD cD T14.heap n0 Z14 D14 AD14 S_Z SD14 E14 M14 F14 g_b13 A10_14) hZ12 (wd hw 121 rfl) (wd hw 28 rfl) (by decide) (by decide)) q15a q15b q15c (g := (mkF m 64 (own_S p1 p2 p3 p4 p5 p6 x7 x8 x9 x10 x11 x12 3 (vr b13) .unset .unset .unset) [(.ref x10), (.ref b13)])) rfl (by rw [hml]; rfl) (Steps.refl _) (argsL := [(.ref x10)]) (rest := []) (lenOf pd_0_9 rfl) rfl (by show 2 * 0 + _ ≤ _; exact Nat.le_of_eq rfl) (hb hby at_64) (fun _ _ => ⟨rfl, rfl, (by decide : 25 + 1 ≤ _), (by decide : 75 + 10 ≤ _)⟩)
  dsimp only [Pt.U, Pt.locs, Pt.cells, Pt.slots] at X15 l15 y15 z15 st15 hQ15
  obtain rfl : k15 = 26 := y15
  obtain rfl : n15 = 85 := z15
  obtain ⟨ad, kd, rfl, N15q, K15q, z15q, LS15⟩ := hQ15
  have K15 : Keep h0 T15.heap [] := K14.trans K15q (fun x hx => Or.inr (by cases List.mem_singleton.mp hx; exact sz_b13))
  have Z15 : n0 ≤ T15.heap.size := Nat.le_trans Z0 K15.1
  have sz_ad : h0.size ≤ ad := Nat.le_trans K14.1 z15q
  have g_ad : n0 ≤ ad := Nat.le_trans Z0 sz_ad
  have A7_15 := A7_14.keep K15q
  have A8_15 := A8_14.keep K15q
  have A9_15 := A9_14.keep K15q
  have A10_15 := A10_14.keep K15q
  have A11_15 := A11_14.keep K15q
  have A12_15 := A12_14.keep K15q
  have N15 : Fr n0 L15 := by rw [l15]; exact Fr.app N14 N15q
  obtain ⟨cq16, kq16, q16a, q16b, q16c⟩ := isOf hZ12 rfl LS15.1
  obtain ⟨_, _, ⟨T16, L16, k16, n16⟩, -, X16, ⟨Lc16, hQ16, l16, y16, z16⟩, st16⟩ := X15.interfaceBack hx (xi := mN41) (y := mN20) hown12 (mvT hZ12 (wd hw 113 rfl)) (mvT hZ12 (wd hw 114 rfl)) (mvT hZ12 (wd hw 115 rfl)) (mvT hZ12 (wd hw 116 rfl)) (mvT hZ12 (wd hw 117 rfl)) (mvT hZ12 (wd hw 118 rfl)) (mvT hZ12 (wd hw 119 rfl)) (mvT hZ12 (wd hw 120 rfl)) (by decide) (backOf (W := 0) (rm14b l Z a0 hw [] b13 x11 ad kd _ (1 : Int32) 1 [(.ref x10), .null, .null, .null, .null, .null, .null, .null, .null, .null] T15.heap n0 Z15 LS15 g_b13 g_ad A11_15 rfl (by decide) (by decide) (by decide) (Nat.le_of_ble_eq_true rfl)) hZ12 (wd hw 121 rfl) (wd hw 28 rfl) (by decide) (by decide)) q16a q16b q16c (g := (mkF m 80 (own_S p1 p2 p3 p4 p5 p6 x7 x8 x9 x10 x11 x12 3 (vr b13) .unset .unset .unset) [(.ref x11), (.ref b13)])) rfl (by rw [hml]; rfl) (Steps.refl _) (argsL := [(.ref x11)]) (rest := []) (lenOf pd_0_9 rfl) rfl (by show 2 * 0 + _ ≤ _; exact Nat.le_of_eq rfl) (hb hby at_80) (fun _ _ => ⟨rfl, rfl, (by decide : 26 + 0 ≤ _), (by decide : 85 + 0 ≤ _)⟩)
  dsimp only [Pt.U, Pt.locs, Pt.cells, Pt.slots] at X16 l16 y16 z16 st16 hQ16
  obtain rfl : k16 = 26 := y16
  obtain rfl : n16 = 85 := z16
  obtain ⟨rfl, N16q, K16q, LS16q⟩ := hQ16
  rw [show ((1 : Int32) + (1 : Int32)) = (2 : Int32) from by decide] at LS16q
  have LS16 : own_LS Z T16.heap b13 ad kd _ (2 : Int32) [(.ref x10), (.ref x11), .null, .null, .null, .null, .null, .null, .null, .null] := LS16q
  have K16 : Keep h0 T16.heap [] := K15.trans K16q (fun x hx => Or.inr (by rcases List.mem_cons.mp hx with rfl | hx; exact sz_ad; cases List.mem_singleton.mp hx; exact sz_b13))
  have Z16 : n0 ≤ T16.heap.size := Nat.le_trans Z0 K16.1
  have A7_16 := A7_15.keep K16q
  have A8_16 := A8_15.keep K16q
  have A9_16 := A9_15.keep K16q
  have A10_16 := A10_15.keep K16q
  have A11_16 := A11_15.keep K16q
  have A12_16 := A12_15.keep K16q
  have N16 : Fr n0 L16 := by rw [l16]; exact Fr.app N15 N16q
  obtain ⟨cq17, kq17, q17a, q17b, q17c⟩ := isOf hZ12 rfl LS16.1
  obtain ⟨_, _, ⟨T17, L17, k17, n17⟩, -, X17, ⟨Lc17, hQ17, l17, y17, z17⟩, st17⟩ := X16.interfaceBack hx (xi := mN41) (y := mN20) hown12 (mvT hZ12 (wd hw 113 rfl)) (mvT hZ12 (wd hw 114 rfl)) (mvT hZ12 (wd hw 115 rfl)) (mvT hZ12 (wd hw 116 rfl)) (mvT hZ12 (wd hw 117 rfl)) (mvT hZ12 (wd hw 118 rfl)) (mvT hZ12 (wd hw 119 rfl)) (mvT hZ12 (wd hw 120 rfl)) (by decide) (backOf (W := 0) (rm14b l Z a0 hw [] b13 x12 ad kd _ (2 : Int32) 2 [(.ref x10), (.ref x11), .null, .null, .null, .null, .null, .null, .null, .null] T16.heap n0 Z16 LS16 g_b13 g_ad A12_16 rfl (by decide) (by decide) (by decide) (Nat.le_of_ble_eq_true rfl)) hZ12 (wd hw 121 rfl) (wd hw 28 rfl) (by decide) (by decide)) q17a q17b q17c (g := (mkF m 96 (own_S p1 p2 p3 p4 p5 p6 x7 x8 x9 x10 x11 x12 3 (vr b13) .unset .unset .unset) [(.ref x12), (.ref b13)])) rfl (by rw [hml]; rfl) (Steps.refl _) (argsL := [(.ref x12)]) (rest := []) (lenOf pd_0_9 rfl) rfl (by show 2 * 0 + _ ≤ _; exact Nat.le_of_eq rfl) (hb hby at_96) (fun _ _ => ⟨rfl, rfl, (by decide : 26 + 0 ≤ _), (by decide : 85 + 0 ≤ _)⟩)
  dsimp only [Pt.U, Pt.locs, Pt.cells, Pt.slots] at X17 l17 y17 z17 st17 hQ17
  obtain rfl : k17 = 26 := y17
  obtain rfl : n17 = 85 := z17
  obtain ⟨rfl, N17q, K17q, LS17q⟩ := hQ17
  rw [show ((2 : Int32) + (1 : Int32)) = (3 : Int32) from by decide] at LS17q
  have LS17 : own_LS Z T17.heap b13 ad kd _ (3 : Int32) [(.ref x10), (.ref x11), (.ref x12), .null, .null, .null, .null, .null, .null, .null] := LS17q
  have K17 : Keep h0 T17.heap [] := K16.trans K17q (fun x hx => Or.inr (by rcases List.mem_cons.mp hx with rfl | hx; exact sz_ad; cases List.mem_singleton.mp hx; exact sz_b13))
  have Z17 : n0 ≤ T17.heap.size := Nat.le_trans Z0 K17.1
  have A7_17 := A7_16.keep K17q
  have A8_17 := A8_16.keep K17q
  have A9_17 := A9_16.keep K17q
  have A10_17 := A10_16.keep K17q
  have A11_17 := A11_16.keep K17q
  have A12_17 := A12_16.keep K17q
  have N17 : Fr n0 L17 := by rw [l17]; exact Fr.app N16 N17q
  obtain ⟨_, _, ⟨T18, L18, k18, n18⟩, -, X18, ⟨Lc18, hQ18, l18, y18, z18⟩, st18⟩ := Jvm.LawKit.callS X17 hx (y := mN7) hown12 (mvT hZ12 (wd hw 50 rfl)) (mvT hZ12 (wd hw 51 rfl)) (mvT hZ12 (wd hw 52 rfl)) (mvT hZ12 (wd hw 53 rfl)) (by decide) (backOf (W := 0) (rm8 l Z a0 hw [] (fun h x => own_L3 Z h x x10 x11 x12) x7 x8 x9 b13 st br T17.heap n0 Z17 (own_staK S_AC K17) (own_staK S_CL K17) (fun h' K => rm10p3 l Z a0 hw [] b13 ad mr kd _ x10 x11 x12 h' n0 (Nat.le_trans Z17 K.1) (LS17.keep K) MIR (A10_17.keep K) (A11_17.keep K) (A12_17.keep K)) (fun h h' x a S E K => own_L3.keepE (wd hw 55 rfl) S E K)) hZ12 (wd hw 53 rfl) (wd hw 52 rfl) (by decide) (by decide)) (g := (mkF m 110 (own_S p1 p2 p3 p4 p5 p6 x7 x8 x9 x10 x11 x12 3 (vr b13) .unset .unset .unset) [(.ref b13), (.ref x9), (.ref x8), (.ref x7)])) rfl (by rw [hml]; rfl) (argsL := [(.ref x7), (.ref x8), (.ref x9), (.ref b13)]) (rest := []) (lenOf pd_0_4 rfl) rfl (by show 2 * 0 + _ ≤ _; exact Nat.le_of_eq rfl) (hb hby at_110) (fun _ _ => ⟨rfl, rfl, (by decide : 26 + 4 ≤ _), (by decide : 85 + 17 ≤ _)⟩)
  dsimp only [Pt.U, Pt.locs, Pt.cells, Pt.slots] at X18 l18 y18 z18 st18 hQ18
  obtain rfl : k18 = 30 := y18
  obtain rfl : n18 = 102 := z18
  obtain ⟨ep, xl, rfl, N18q, K18q, z18q, EPr, BLr⟩ := hQ18
  have K18 : Keep h0 T18.heap [] := K17.trans K18q (fun x hx => nomatch hx)
  have Z18 : n0 ≤ T18.heap.size := Nat.le_trans Z0 K18.1
  have A7_18 := A7_17.keep K18q
  have A8_18 := A8_17.keep K18q
  have A9_18 := A9_17.keep K18q
  have A10_18 := A10_17.keep K18q
  have A11_18 := A11_17.keep K18q
  have A12_18 := A12_17.keep K18q
  have LS18 := LS17.keep K18q
  have N18 : Fr n0 L18 := by rw [l18]; exact Fr.app N17 N18q
  obtain ⟨cq19, kq19, q19a, q19b, q19c⟩ := isOf hZ12 rfl LS18.1
  obtain ⟨_, _, ⟨T19, L19, k19, n19⟩, -, X19, ⟨Lc19, hQ19, l19, y19, z19⟩, st19⟩ := X18.interfaceBack hx (xi := mN41) (y := mN20) hown12 (mvT hZ12 (wd hw 113 rfl)) (mvT hZ12 (wd hw 114 rfl)) (mvT hZ12 (wd hw 115 rfl)) (mvT hZ12 (wd hw 116 rfl)) (mvT hZ12 (wd hw 117 rfl)) (mvT hZ12 (wd hw 118 rfl)) (mvT hZ12 (wd hw 119 rfl)) (mvT hZ12 (wd hw 120 rfl)) (by decide) (backOf (W := 0) (rm14b l Z a0 hw [] b13 x11 ad kd _ (3 : Int32) 3 [(.ref x10), (.ref x11), (.ref x12), .null, .null, .null, .null, .null, .null, .null] T18.heap n0 Z18 LS18 g_b13 g_ad A11_18 rfl (by decide) (by decide) (by decide) (Nat.le_of_ble_eq_true rfl)) hZ12 (wd hw 121 rfl) (wd hw 28 rfl) (by decide) (by decide)) q19a q19b q19c (g := (mkF m 119 (own_S p1 p2 p3 p4 p5 p6 x7 x8 x9 x10 x11 x12 3 (vr b13) (vr ep) .unset .unset) [(.ref x11), (.ref b13)])) rfl (by rw [hml]; rfl) (Steps.refl _) (argsL := [(.ref x11)]) (rest := []) (lenOf pd_0_9 rfl) rfl (by show 2 * 0 + _ ≤ _; exact Nat.le_of_eq rfl) (hb hby at_119) (fun _ _ => ⟨rfl, rfl, (by decide : 30 + 0 ≤ _), (by decide : 102 + 0 ≤ _)⟩)
  dsimp only [Pt.U, Pt.locs, Pt.cells, Pt.slots] at X19 l19 y19 z19 st19 hQ19
  obtain rfl : k19 = 30 := y19
  obtain rfl : n19 = 102 := z19
  obtain ⟨rfl, N19q, K19q, LS19q⟩ := hQ19
  rw [show ((3 : Int32) + (1 : Int32)) = (4 : Int32) from by decide] at LS19q
  have LS19 : own_LS Z T19.heap b13 ad kd _ (4 : Int32) [(.ref x10), (.ref x11), (.ref x12), (.ref x11), .null, .null, .null, .null, .null, .null] := LS19q
  have K19 : Keep h0 T19.heap [] := K18.trans K19q (fun x hx => Or.inr (by rcases List.mem_cons.mp hx with rfl | hx; exact sz_ad; cases List.mem_singleton.mp hx; exact sz_b13))
  have Z19 : n0 ≤ T19.heap.size := Nat.le_trans Z0 K19.1
  have A7_19 := A7_18.keep K19q
  have A8_19 := A8_18.keep K19q
  have A9_19 := A9_18.keep K19q
  have A10_19 := A10_18.keep K19q
  have A11_19 := A11_18.keep K19q
  have A12_19 := A12_18.keep K19q
  have qe := ninS (EPr.1.neArv LS18.2.2.2.2.1 (wd hw 55 rfl)) (ninS (EPr.1.ne LS18.1 (by decide)) nin0)
  have ql := ninS (BLr.1.neArv LS18.2.2.2.2.1 (wd hw 303 rfl)) (ninS (BLr.1.ne LS18.1 (by decide)) nin0)
  obtain ⟨lx, ld, lk, lF, lV⟩ := own_L3.keepW BLr K19q ql (fun d k V => ninS (own_neA V LS18.2.2.2.2.1) (ninS (Ne.symm (LS18.1.neArv V (wd hw 27 rfl))) nin0))
  obtain ⟨lcl, lA, -, lS, lN, lH, -⟩ := lV
  obtain ⟨c0, c1, c2, c3, c4, c5, c6, c7, c8, c9⟩ := EPr.keep K19q qe
  have SAC := own_staK S_AC K19
  have SCL := own_staK S_CL K19
  have N19 : Fr n0 L19 := by rw [l19]; exact Fr.app N18 N19q
  obtain ⟨cq20, kq20, q20a, q20b, q20c⟩ := isOf hZ12 rfl c0
  obtain ⟨_, _, ⟨T20, L20, k20, n20⟩, -, X20, ⟨Lc20, hQ20, l20, y20, z20⟩, st20⟩ := X19.virtualBack hx (y := mN5) (z := mN5) hown12 (mvT hZ12 (wd hw 146 rfl)) (mvT hZ12 (wd hw 147 rfl)) (notFace_of_selects (args := #[]) (mvT hZ12 (wd hw 149 rfl))) (mvT hZ12 (wd hw 149 rfl)) (mvT hZ12 (wd hw 148 rfl)) (by decide) (backOf (W := 0) (rm19 l Z a0 hw [] ep xl T19.heap n0 Z19 c4) hZ12 (wd hw 150 rfl) (wd hw 52 rfl) (by decide) (by decide)) q20a q20c (g := (mkF m 127 (own_S p1 p2 p3 p4 p5 p6 x7 x8 x9 x10 x11 x12 3 (vr b13) (vr ep) .unset .unset) [(.ref ep)])) rfl (by rw [hml]; rfl) (Steps.refl _) (argsL := []) (rest := []) (lenOf pd_0_8 rfl) rfl (by show 2 * 0 + _ ≤ _; exact Nat.le_of_eq rfl) (hb hby at_127) (fun _ _ => ⟨rfl, rfl, (by decide : 30 + 0 ≤ _), (by decide : 102 + 0 ≤ _)⟩)
  dsimp only [Pt.U, Pt.locs, Pt.cells, Pt.slots] at X20 l20 y20 z20 st20 hQ20
  obtain rfl : k20 = 30 := y20
  obtain rfl : n20 = 102 := z20
  obtain ⟨rfl, N20q, k20q⟩ := hQ20
  have N20 : Fr n0 L20 := by rw [l20]; exact Fr.app N19 N20q
  obtain ⟨cq21, kq21, q21a, q21b, q21c⟩ := isOf hZ12 k20q lx
  obtain ⟨_, _, ⟨T21, L21, k21, n21⟩, -, X21, ⟨Lc21, hQ21, l21, y21, z21⟩, st21⟩ := X20.interfaceBack hx (xi := mN46) (y := mN40) hown12 (mvT hZ12 (wd hw 151 rfl)) (mvT hZ12 (wd hw 152 rfl)) (mvT hZ12 (wd hw 153 rfl)) (mvT hZ12 (wd hw 154 rfl)) (mvT hZ12 (wd hw 155 rfl)) (mvT hZ12 (wd hw 156 rfl)) (mvT hZ12 (wd hw 157 rfl)) (mvT hZ12 (wd hw 158 rfl)) (by decide) (backOf (W := 0) (rm20 l Z a0 hw [] xl ld lcl (3 : Int32) T19.heap n0 Z19 lF lA lS lN) hZ12 (wd hw 160 rfl) (wd hw 159 rfl) (by decide) (by decide)) q21a q21b q21c (g := (mkF m 139 (own_S p1 p2 p3 p4 p5 p6 x7 x8 x9 x10 x11 x12 3 (vr b13) (vr ep) (vr xl) .unset) [(.ref xl)])) rfl (by rw [hml]; rfl) (Steps.refl _) (argsL := []) (rest := []) (lenOf pd_0_14 rfl) rfl (by show 2 * 0 + _ ≤ _; exact Nat.le_of_eq rfl) (hb hby at_139) (fun _ _ => ⟨rfl, k20q, (by decide : 30 + 0 ≤ _), (by decide : 102 + 0 ≤ _)⟩)
  dsimp only [Pt.U, Pt.locs, Pt.cells, Pt.slots] at X21 l21 y21 z21 st21 hQ21
  obtain rfl : k21 = 30 := y21
  obtain rfl : n21 = 102 := z21
  obtain ⟨rfl, N21q, k21q⟩ := hQ21
  have N21 : Fr n0 L21 := by rw [l21]; exact Fr.app N20 N21q
  obtain ⟨cq22, kq22, q22a, q22b, q22c⟩ := isOf hZ12 k21q lx
  obtain ⟨_, _, ⟨T22, L22, k22, n22⟩, -, X22, ⟨Lc22, hQ22, l22, y22, z22⟩, st22⟩ := X21.interfaceBack hx (xi := mN43) (y := mN39) hown12 (mvT hZ12 (wd hw 290 rfl)) (mvT hZ12 (wd hw 291 rfl)) (mvT hZ12 (wd hw 292 rfl)) (mvT hZ12 (wd hw 314 rfl)) (mvT hZ12 (wd hw 315 rfl)) (mvT hZ12 (wd hw 316 rfl)) (mvT hZ12 (wd hw 317 rfl)) (mvT hZ12 (wd hw 158 rfl)) (by decide) (backOf (W := 1) (rm46 l Z a0 hw [] xl (0 : Int32) ld x10 lcl T19.heap n0 Z19 lF lA (inb_of lS ⟨by decide, by decide⟩) (lH 0 (by rw [lS]; decide))) hZ12 (wd hw 318 rfl) (wd hw 159 rfl) (by decide) (by decide)) q22a q22b q22c (g := (mkF m 171 (own_S p1 p2 p3 p4 p5 p6 x7 x8 x9 x10 x11 x12 3 (vr b13) (vr ep) (vr xl) (vi 1)) [(.int (0 : Int32)), (.ref xl), (.ref x10)])) rfl (by rw [hml]; rfl) (Steps.refl _) (argsL := [(.int (0 : Int32))]) (rest := [(.ref x10)]) (lenOf pd_0_30 rfl) rfl (by show 2 * 0 + _ ≤ _; exact Nat.le_of_eq rfl) (hb hby at_171) (fun _ _ => ⟨rfl, k21q, (by decide : 30 + 0 ≤ _), (by decide : 102 + 0 ≤ _)⟩)
  dsimp only [Pt.U, Pt.locs, Pt.cells, Pt.slots] at X22 l22 y22 z22 st22 hQ22
  obtain rfl : k22 = 30 := y22
  obtain rfl : n22 = 102 := z22
  obtain ⟨rfl, N22q, k22q⟩ := hQ22
  have N22 : Fr n0 L22 := by rw [l22]; exact Fr.app N21 N22q
  obtain ⟨cq23, kq23, q23a, q23b, q23c⟩ := isOf hZ12 k22q A10_19
  obtain ⟨_, _, ⟨T23, L23, k23, n23⟩, -, X23, ⟨Lc23, hQ23, l23, y23, z23⟩, st23⟩ := X22.virtualBack hx (y := mN16) (z := mN16) hown12 (mvT hZ12 (wd hw 168 rfl)) (mvT hZ12 (wd hw 169 rfl)) (notFace_of_selects (args := #[]) (mvT hZ12 (wd hw 171 rfl))) (mvT hZ12 (wd hw 171 rfl)) (mvT hZ12 (wd hw 170 rfl)) (by decide) (backOf (W := 0) (rm22 l Z a0 hw [] x10 x10 T19.heap n0 Z19 rfl) hZ12 (wd hw 172 rfl) (wd hw 6 rfl) (by decide) (by decide)) q23a q23c (g := (mkF m 176 (own_S p1 p2 p3 p4 p5 p6 x7 x8 x9 x10 x11 x12 3 (vr b13) (vr ep) (vr xl) (vi 1)) [(.ref x10), (.ref x10)])) rfl (by rw [hml]; rfl) (Steps.refl _) (argsL := [(.ref x10)]) (rest := []) (lenOf pd_0_9 rfl) rfl (by show 2 * 0 + _ ≤ _; exact Nat.le_of_eq rfl) (hb hby at_176) (fun _ _ => ⟨rfl, k22q, (by decide : 30 + 0 ≤ _), (by decide : 102 + 0 ≤ _)⟩)
  dsimp only [Pt.U, Pt.locs, Pt.cells, Pt.slots] at X23 l23 y23 z23 st23 hQ23
  obtain rfl : k23 = 30 := y23
  obtain rfl : n23 = 102 := z23
  obtain ⟨rfl, N23q, k23q⟩ := hQ23
  have N23 : Fr n0 L23 := by rw [l23]; exact Fr.app N22 N23q
  obtain ⟨cq24, kq24, q24a, q24b, q24c⟩ := isOf hZ12 k23q lx
  obtain ⟨_, _, ⟨T24, L24, k24, n24⟩, -, X24, ⟨Lc24, hQ24, l24, y24, z24⟩, st24⟩ := X23.interfaceBack hx (xi := mN43) (y := mN39) hown12 (mvT hZ12 (wd hw 290 rfl)) (mvT hZ12 (wd hw 291 rfl)) (mvT hZ12 (wd hw 292 rfl)) (mvT hZ12 (wd hw 314 rfl)) (mvT hZ12 (wd hw 315 rfl)) (mvT hZ12 (wd hw 316 rfl)) (mvT hZ12 (wd hw 317 rfl)) (mvT hZ12 (wd hw 158 rfl)) (by decide) (backOf (W := 1) (rm46 l Z a0 hw [] xl (1 : Int32) ld x11 lcl T19.heap n0 Z19 lF lA (inb_of lS ⟨by decide, by decide⟩) (lH 1 (by rw [lS]; decide))) hZ12 (wd hw 318 rfl) (wd hw 159 rfl) (by decide) (by decide)) q24a q24b q24c (g := (mkF m 197 (own_S p1 p2 p3 p4 p5 p6 x7 x8 x9 x10 x11 x12 3 (vr b13) (vr ep) (vr xl) (vi 1)) [(.int (1 : Int32)), (.ref xl), (.ref x11)])) rfl (by rw [hml]; rfl) (Steps.refl _) (argsL := [(.int (1 : Int32))]) (rest := [(.ref x11)]) (lenOf pd_0_30 rfl) rfl (by show 2 * 0 + _ ≤ _; exact Nat.le_of_eq rfl) (hb hby at_197) (fun _ _ => ⟨rfl, k23q, (by decide : 30 + 0 ≤ _), (by decide : 102 + 0 ≤ _)⟩)
  dsimp only [Pt.U, Pt.locs, Pt.cells, Pt.slots] at X24 l24 y24 z24 st24 hQ24
  obtain rfl : k24 = 30 := y24
  obtain rfl : n24 = 102 := z24
  obtain ⟨rfl, N24q, k24q⟩ := hQ24
  have N24 : Fr n0 L24 := by rw [l24]; exact Fr.app N23 N24q
  obtain ⟨cq25, kq25, q25a, q25b, q25c⟩ := isOf hZ12 k24q A11_19
  obtain ⟨_, _, ⟨T25, L25, k25, n25⟩, -, X25, ⟨Lc25, hQ25, l25, y25, z25⟩, st25⟩ := X24.virtualBack hx (y := mN16) (z := mN16) hown12 (mvT hZ12 (wd hw 168 rfl)) (mvT hZ12 (wd hw 169 rfl)) (notFace_of_selects (args := #[]) (mvT hZ12 (wd hw 171 rfl))) (mvT hZ12 (wd hw 171 rfl)) (mvT hZ12 (wd hw 170 rfl)) (by decide) (backOf (W := 0) (rm22 l Z a0 hw [] x11 x11 T19.heap n0 Z19 rfl) hZ12 (wd hw 172 rfl) (wd hw 6 rfl) (by decide) (by decide)) q25a q25c (g := (mkF m 202 (own_S p1 p2 p3 p4 p5 p6 x7 x8 x9 x10 x11 x12 3 (vr b13) (vr ep) (vr xl) (vi 1)) [(.ref x11), (.ref x11)])) rfl (by rw [hml]; rfl) (Steps.refl _) (argsL := [(.ref x11)]) (rest := []) (lenOf pd_0_9 rfl) rfl (by show 2 * 0 + _ ≤ _; exact Nat.le_of_eq rfl) (hb hby at_202) (fun _ _ => ⟨rfl, k24q, (by decide : 30 + 0 ≤ _), (by decide : 102 + 0 ≤ _)⟩)
  dsimp only [Pt.U, Pt.locs, Pt.cells, Pt.slots] at X25 l25 y25 z25 st25 hQ25
  obtain rfl : k25 = 30 := y25
  obtain rfl : n25 = 102 := z25
  obtain ⟨rfl, N25q, k25q⟩ := hQ25
  have N25 : Fr n0 L25 := by rw [l25]; exact Fr.app N24 N25q
  obtain ⟨cq26, kq26, q26a, q26b, q26c⟩ := isOf hZ12 k25q lx
  obtain ⟨_, _, ⟨T26, L26, k26, n26⟩, -, X26, ⟨Lc26, hQ26, l26, y26, z26⟩, st26⟩ := X25.interfaceBack hx (xi := mN43) (y := mN39) hown12 (mvT hZ12 (wd hw 290 rfl)) (mvT hZ12 (wd hw 291 rfl)) (mvT hZ12 (wd hw 292 rfl)) (mvT hZ12 (wd hw 314 rfl)) (mvT hZ12 (wd hw 315 rfl)) (mvT hZ12 (wd hw 316 rfl)) (mvT hZ12 (wd hw 317 rfl)) (mvT hZ12 (wd hw 158 rfl)) (by decide) (backOf (W := 1) (rm46 l Z a0 hw [] xl (2 : Int32) ld x12 lcl T19.heap n0 Z19 lF lA (inb_of lS ⟨by decide, by decide⟩) (lH 2 (by rw [lS]; decide))) hZ12 (wd hw 318 rfl) (wd hw 159 rfl) (by decide) (by decide)) q26a q26b q26c (g := (mkF m 223 (own_S p1 p2 p3 p4 p5 p6 x7 x8 x9 x10 x11 x12 3 (vr b13) (vr ep) (vr xl) (vi 1)) [(.int (2 : Int32)), (.ref xl), (.ref x12)])) rfl (by rw [hml]; rfl) (Steps.refl _) (argsL := [(.int (2 : Int32))]) (rest := [(.ref x12)]) (lenOf pd_0_30 rfl) rfl (by show 2 * 0 + _ ≤ _; exact Nat.le_of_eq rfl) (hb hby at_223) (fun _ _ => ⟨rfl, k25q, (by decide : 30 + 0 ≤ _), (by decide : 102 + 0 ≤ _)⟩)
  dsimp only [Pt.U, Pt.locs, Pt.cells, Pt.slots] at X26 l26 y26 z26 st26 hQ26
  obtain rfl : k26 = 30 := y26
  obtain rfl : n26 = 102 := z26
  obtain ⟨rfl, N26q, k26q⟩ := hQ26
  have N26 : Fr n0 L26 := by rw [l26]; exact Fr.app N25 N26q
  obtain ⟨cq27, kq27, q27a, q27b, q27c⟩ := isOf hZ12 k26q A12_19
  obtain ⟨_, _, ⟨T27, L27, k27, n27⟩, -, X27, ⟨Lc27, hQ27, l27, y27, z27⟩, st27⟩ := X26.virtualBack hx (y := mN16) (z := mN16) hown12 (mvT hZ12 (wd hw 168 rfl)) (mvT hZ12 (wd hw 169 rfl)) (notFace_of_selects (args := #[]) (mvT hZ12 (wd hw 171 rfl))) (mvT hZ12 (wd hw 171 rfl)) (mvT hZ12 (wd hw 170 rfl)) (by decide) (backOf (W := 0) (rm22 l Z a0 hw [] x12 x12 T19.heap n0 Z19 rfl) hZ12 (wd hw 172 rfl) (wd hw 6 rfl) (by decide) (by decide)) q27a q27c (g := (mkF m 228 (own_S p1 p2 p3 p4 p5 p6 x7 x8 x9 x10 x11 x12 3 (vr b13) (vr ep) (vr xl) (vi 1)) [(.ref x12), (.ref x12)])) rfl (by rw [hml]; rfl) (Steps.refl _) (argsL := [(.ref x12)]) (rest := []) (lenOf pd_0_9 rfl) rfl (by show 2 * 0 + _ ≤ _; exact Nat.le_of_eq rfl) (hb hby at_228) (fun _ _ => ⟨rfl, k26q, (by decide : 30 + 0 ≤ _), (by decide : 102 + 0 ≤ _)⟩)
  dsimp only [Pt.U, Pt.locs, Pt.cells, Pt.slots] at X27 l27 y27 z27 st27 hQ27
  obtain rfl : k27 = 30 := y27
  obtain rfl : n27 = 102 := z27
  obtain ⟨rfl, N27q, k27q⟩ := hQ27
  have N27 : Fr n0 L27 := by rw [l27]; exact Fr.app N26 N27q
  obtain ⟨cq28, kq28, q28a, q28b, q28c⟩ := isOf hZ12 k27q c0
  obtain ⟨_, _, ⟨T28, L28, k28, n28⟩, -, X28, ⟨Lc28, hQ28, l28, y28, z28⟩, st28⟩ := X27.virtualBack hx (y := mN6) (z := mN6) hown12 (mvT hZ12 (wd hw 163 rfl)) (mvT hZ12 (wd hw 164 rfl)) (notFace_of_selects (args := #[]) (mvT hZ12 (wd hw 166 rfl))) (mvT hZ12 (wd hw 166 rfl)) (mvT hZ12 (wd hw 165 rfl)) (by decide) (backOf (W := 1) (rm21 l Z a0 hw [] ep x7 T19.heap n0 Z19 c1) hZ12 (wd hw 167 rfl) (wd hw 52 rfl) (by decide) (by decide)) q28a q28c (g := (mkF m 242 (own_S p1 p2 p3 p4 p5 p6 x7 x8 x9 x10 x11 x12 3 (vr b13) (vr ep) (vr xl) (vi 1)) [(.ref ep), (.ref x7)])) rfl (by rw [hml]; rfl) (Steps.refl _) (argsL := []) (rest := [(.ref x7)]) (lenOf pd_0_15 rfl) rfl (by show 2 * 0 + _ ≤ _; exact Nat.le_of_eq rfl) (hb hby at_242) (fun _ _ => ⟨rfl, k27q, (by decide : 30 + 0 ≤ _), (by decide : 102 + 0 ≤ _)⟩)
  dsimp only [Pt.U, Pt.locs, Pt.cells, Pt.slots] at X28 l28 y28 z28 st28 hQ28
  obtain rfl : k28 = 30 := y28
  obtain rfl : n28 = 102 := z28
  obtain ⟨rfl, N28q, k28q⟩ := hQ28
  have N28 : Fr n0 L28 := by rw [l28]; exact Fr.app N27 N28q
  obtain ⟨cq29, kq29, q29a, q29b, q29c⟩ := isOf hZ12 k28q A7_19
  obtain ⟨_, _, ⟨T29, L29, k29, n29⟩, -, X29, ⟨Lc29, hQ29, l29, y29, z29⟩, st29⟩ := X28.virtualBack hx (y := mN16) (z := mN16) hown12 (mvT hZ12 (wd hw 168 rfl)) (mvT hZ12 (wd hw 169 rfl)) (notFace_of_selects (args := #[]) (mvT hZ12 (wd hw 171 rfl))) (mvT hZ12 (wd hw 171 rfl)) (mvT hZ12 (wd hw 170 rfl)) (by decide) (backOf (W := 0) (rm22 l Z a0 hw [] x7 x7 T19.heap n0 Z19 rfl) hZ12 (wd hw 172 rfl) (wd hw 6 rfl) (by decide) (by decide)) q29a q29c (g := (mkF m 245 (own_S p1 p2 p3 p4 p5 p6 x7 x8 x9 x10 x11 x12 3 (vr b13) (vr ep) (vr xl) (vi 1)) [(.ref x7), (.ref x7)])) rfl (by rw [hml]; rfl) (Steps.refl _) (argsL := [(.ref x7)]) (rest := []) (lenOf pd_0_9 rfl) rfl (by show 2 * 0 + _ ≤ _; exact Nat.le_of_eq rfl) (hb hby at_245) (fun _ _ => ⟨rfl, k28q, (by decide : 30 + 0 ≤ _), (by decide : 102 + 0 ≤ _)⟩)
  dsimp only [Pt.U, Pt.locs, Pt.cells, Pt.slots] at X29 l29 y29 z29 st29 hQ29
  obtain rfl : k29 = 30 := y29
  obtain rfl : n29 = 102 := z29
  obtain ⟨rfl, N29q, k29q⟩ := hQ29
  have N29 : Fr n0 L29 := by rw [l29]; exact Fr.app N28 N29q
  obtain ⟨cq30, kq30, q30a, q30b, q30c⟩ := isOf hZ12 k29q c0
  obtain ⟨_, _, ⟨T30, L30, k30, n30⟩, -, X30, ⟨Lc30, hQ30, l30, y30, z30⟩, st30⟩ := X29.virtualBack hx (y := mN9) (z := mN9) hown12 (mvT hZ12 (wd hw 173 rfl)) (mvT hZ12 (wd hw 174 rfl)) (notFace_of_selects (args := #[]) (mvT hZ12 (wd hw 176 rfl))) (mvT hZ12 (wd hw 176 rfl)) (mvT hZ12 (wd hw 175 rfl)) (by decide) (backOf (W := 1) (rm23 l Z a0 hw [] ep x8 T19.heap n0 Z19 c2) hZ12 (wd hw 177 rfl) (wd hw 52 rfl) (by decide) (by decide)) q30a q30c (g := (mkF m 255 (own_S p1 p2 p3 p4 p5 p6 x7 x8 x9 x10 x11 x12 3 (vr b13) (vr ep) (vr xl) (vi 1)) [(.ref ep), (.ref x8)])) rfl (by rw [hml]; rfl) (Steps.refl _) (argsL := []) (rest := [(.ref x8)]) (lenOf pd_0_15 rfl) rfl (by show 2 * 0 + _ ≤ _; exact Nat.le_of_eq rfl) (hb hby at_255) (fun _ _ => ⟨rfl, k29q, (by decide : 30 + 0 ≤ _), (by decide : 102 + 0 ≤ _)⟩)
  dsimp only [Pt.U, Pt.locs, Pt.cells, Pt.slots] at X30 l30 y30 z30 st30 hQ30
  obtain rfl : k30 = 30 := y30
  obtain rfl : n30 = 102 := z30
  obtain ⟨rfl, N30q, k30q⟩ := hQ30
  have N30 : Fr n0 L30 := by rw [l30]; exact Fr.app N29 N30q
  obtain ⟨cq31, kq31, q31a, q31b, q31c⟩ := isOf hZ12 k30q A8_19
  obtain ⟨_, _, ⟨T31, L31, k31, n31⟩, -, X31, ⟨Lc31, hQ31, l31, y31, z31⟩, st31⟩ := X30.virtualBack hx (y := mN16) (z := mN16) hown12 (mvT hZ12 (wd hw 168 rfl)) (mvT hZ12 (wd hw 169 rfl)) (notFace_of_selects (args := #[]) (mvT hZ12 (wd hw 171 rfl))) (mvT hZ12 (wd hw 171 rfl)) (mvT hZ12 (wd hw 170 rfl)) (by decide) (backOf (W := 0) (rm22 l Z a0 hw [] x8 x8 T19.heap n0 Z19 rfl) hZ12 (wd hw 172 rfl) (wd hw 6 rfl) (by decide) (by decide)) q31a q31c (g := (mkF m 258 (own_S p1 p2 p3 p4 p5 p6 x7 x8 x9 x10 x11 x12 3 (vr b13) (vr ep) (vr xl) (vi 1)) [(.ref x8), (.ref x8)])) rfl (by rw [hml]; rfl) (Steps.refl _) (argsL := [(.ref x8)]) (rest := []) (lenOf pd_0_9 rfl) rfl (by show 2 * 0 + _ ≤ _; exact Nat.le_of_eq rfl) (hb hby at_258) (fun _ _ => ⟨rfl, k30q, (by decide : 30 + 0 ≤ _), (by decide : 102 + 0 ≤ _)⟩)
  dsimp only [Pt.U, Pt.locs, Pt.cells, Pt.slots] at X31 l31 y31 z31 st31 hQ31
  obtain rfl : k31 = 30 := y31
  obtain rfl : n31 = 102 := z31
  obtain ⟨rfl, N31q, k31q⟩ := hQ31
  have N31 : Fr n0 L31 := by rw [l31]; exact Fr.app N30 N31q
  obtain ⟨cq32, kq32, q32a, q32b, q32c⟩ := isOf hZ12 k31q c0
  obtain ⟨_, _, ⟨T32, L32, k32, n32⟩, -, X32, ⟨Lc32, hQ32, l32, y32, z32⟩, st32⟩ := X31.virtualBack hx (y := mN10) (z := mN10) hown12 (mvT hZ12 (wd hw 178 rfl)) (mvT hZ12 (wd hw 179 rfl)) (notFace_of_selects (args := #[]) (mvT hZ12 (wd hw 181 rfl))) (mvT hZ12 (wd hw 181 rfl)) (mvT hZ12 (wd hw 180 rfl)) (by decide) (backOf (W := 1) (rm24 l Z a0 hw [] ep x9 T19.heap n0 Z19 c3) hZ12 (wd hw 182 rfl) (wd hw 52 rfl) (by decide) (by decide)) q32a q32c (g := (mkF m 268 (own_S p1 p2 p3 p4 p5 p6 x7 x8 x9 x10 x11 x12 3 (vr b13) (vr ep) (vr xl) (vi 1)) [(.ref ep), (.ref x9)])) rfl (by rw [hml]; rfl) (Steps.refl _) (argsL := []) (rest := [(.ref x9)]) (lenOf pd_0_15 rfl) rfl (by show 2 * 0 + _ ≤ _; exact Nat.le_of_eq rfl) (hb hby at_268) (fun _ _ => ⟨rfl, k31q, (by decide : 30 + 0 ≤ _), (by decide : 102 + 0 ≤ _)⟩)
  dsimp only [Pt.U, Pt.locs, Pt.cells, Pt.slots] at X32 l32 y32 z32 st32 hQ32
  obtain rfl : k32 = 30 := y32
  obtain rfl : n32 = 102 := z32
  obtain ⟨rfl, N32q, k32q⟩ := hQ32
  have N32 : Fr n0 L32 := by rw [l32]; exact Fr.app N31 N32q
  obtain ⟨cq33, kq33, q33a, q33b, q33c⟩ := isOf hZ12 k32q A9_19
  obtain ⟨_, _, ⟨T33, L33, k33, n33⟩, -, X33, ⟨Lc33, hQ33, l33, y33, z33⟩, st33⟩ := X32.virtualBack hx (y := mN16) (z := mN16) hown12 (mvT hZ12 (wd hw 168 rfl)) (mvT hZ12 (wd hw 169 rfl)) (notFace_of_selects (args := #[]) (mvT hZ12 (wd hw 171 rfl))) (mvT hZ12 (wd hw 171 rfl)) (mvT hZ12 (wd hw 170 rfl)) (by decide) (backOf (W := 0) (rm22 l Z a0 hw [] x9 x9 T19.heap n0 Z19 rfl) hZ12 (wd hw 172 rfl) (wd hw 6 rfl) (by decide) (by decide)) q33a q33c (g := (mkF m 271 (own_S p1 p2 p3 p4 p5 p6 x7 x8 x9 x10 x11 x12 3 (vr b13) (vr ep) (vr xl) (vi 1)) [(.ref x9), (.ref x9)])) rfl (by rw [hml]; rfl) (Steps.refl _) (argsL := [(.ref x9)]) (rest := []) (lenOf pd_0_9 rfl) rfl (by show 2 * 0 + _ ≤ _; exact Nat.le_of_eq rfl) (hb hby at_271) (fun _ _ => ⟨rfl, k32q, (by decide : 30 + 0 ≤ _), (by decide : 102 + 0 ≤ _)⟩)
  dsimp only [Pt.U, Pt.locs, Pt.cells, Pt.slots] at X33 l33 y33 z33 st33 hQ33
  obtain rfl : k33 = 30 := y33
  obtain rfl : n33 = 102 := z33
  obtain ⟨rfl, N33q, k33q⟩ := hQ33
  have N33 : Fr n0 L33 := by rw [l33]; exact Fr.app N32 N33q
  obtain ⟨cq34, kq34, q34a, q34b, q34c⟩ := isOf hZ12 k33q c0
  obtain ⟨_, _, ⟨T34, L34, k34, n34⟩, -, X34, ⟨Lc34, hQ34, l34, y34, z34⟩, st34⟩ := X33.virtualBack hx (y := mN8) (z := mN8) hown12 (mvT hZ12 (wd hw 183 rfl)) (mvT hZ12 (wd hw 184 rfl)) (notFace_of_selects (args := #[]) (mvT hZ12 (wd hw 186 rfl))) (mvT hZ12 (wd hw 186 rfl)) (mvT hZ12 (wd hw 185 rfl)) (by decide) (backOf (W := 0) (rm25 l Z a0 hw [] ep st T19.heap n0 Z19 c5) hZ12 (wd hw 187 rfl) (wd hw 52 rfl) (by decide) (by decide)) q34a q34c (g := (mkF m 291 (own_S p1 p2 p3 p4 p5 p6 x7 x8 x9 x10 x11 x12 3 (vr b13) (vr ep) (vr xl) (vi 1)) [(.ref ep)])) rfl (by rw [hml]; rfl) (Steps.refl _) (argsL := []) (rest := []) (lenOf pd_0_16 rfl) rfl (by show 2 * 0 + _ ≤ _; exact Nat.le_of_eq rfl) (hb hby at_291) (fun _ _ => ⟨rfl, k33q, (by decide : 30 + 0 ≤ _), (by decide : 102 + 0 ≤ _)⟩)
  dsimp only [Pt.U, Pt.locs, Pt.cells, Pt.slots] at X34 l34 y34 z34 st34 hQ34
  obtain rfl : k34 = 30 := y34
  obtain rfl : n34 = 102 := z34
  obtain ⟨rfl, N34q, k34q⟩ := hQ34
  have N34 : Fr n0 L34 := by rw [l34]; exact Fr.app N33 N34q
  obtain ⟨T36, X36, e36, st36⟩ := getS2 X34 hx hZ12 hown12 (host := "") (Or.inl (wd hw 188 rfl)) Via.refl k34q SAC (g := (mkF m 294 (own_S p1 p2 p3 p4 p5 p6 x7 x8 x9 x10 x11 x12 3 (vr b13) (vr ep) (vr xl) (vi 1)) [(.ref st)])) rfl (hb hby at_294)
  obtain ⟨cq37, kq37, q37a, q37b, q37c⟩ := isOf hZ12 e36 c0
  obtain ⟨_, _, ⟨T37, L37, k37, n37⟩, -, X37, ⟨Lc37, hQ37, l37, y37, z37⟩, st37⟩ := X36.virtualBack hx (y := mN4) (z := mN4) hown12 (mvT hZ12 (wd hw 189 rfl)) (mvT hZ12 (wd hw 190 rfl)) (notFace_of_selects (args := #[]) (mvT hZ12 (wd hw 192 rfl))) (mvT hZ12 (wd hw 192 rfl)) (mvT hZ12 (wd hw 191 rfl)) (by decide) (backOf (W := 0) (rm26 l Z a0 hw [] ep ep T19.heap n0 Z19 c6) hZ12 (wd hw 193 rfl) (wd hw 52 rfl) (by decide) (by decide)) q37a q37c (g := (mkF m 314 (own_S p1 p2 p3 p4 p5 p6 x7 x8 x9 x10 x11 x12 3 (vr b13) (vr ep) (vr xl) (vi 1)) [(.ref ep)])) rfl (by rw [hml]; rfl) (Steps.refl _) (argsL := []) (rest := []) (lenOf pd_0_17 rfl) rfl (by show 2 * 0 + _ ≤ _; exact Nat.le_of_eq rfl) (hb hby at_314) (fun _ _ => ⟨rfl, e36, (by decide : 30 + 0 ≤ _), (by decide : 102 + 0 ≤ _)⟩)
  dsimp only [Pt.U, Pt.locs, Pt.cells, Pt.slots] at X37 l37 y37 z37 st37 hQ37
  obtain rfl : k37 = 30 := y37
  obtain rfl : n37 = 102 := z37
  obtain ⟨rfl, N37q, k37q⟩ := hQ37
  have N37 : Fr n0 L37 := by rw [l37]; exact Fr.app N34 N37q
  obtain ⟨cq38, kq38, q38a, q38b, q38c⟩ := isOf hZ12 k37q c0
  obtain ⟨_, _, ⟨T38, L38, k38, n38⟩, -, X38, ⟨Lc38, hQ38, l38, y38, z38⟩, st38⟩ := X37.virtualBack hx (y := mN3) (z := mN3) hown12 (mvT hZ12 (wd hw 194 rfl)) (mvT hZ12 (wd hw 195 rfl)) (notFace_of_selects (args := #[]) (mvT hZ12 (wd hw 197 rfl))) (mvT hZ12 (wd hw 197 rfl)) (mvT hZ12 (wd hw 196 rfl)) (by decide) (backOf (W := 0) (rm27 l Z a0 hw [] ep ep T19.heap n0 Z19 c7) hZ12 (wd hw 198 rfl) (wd hw 52 rfl) (by decide) (by decide)) q38a q38c (g := (mkF m 334 (own_S p1 p2 p3 p4 p5 p6 x7 x8 x9 x10 x11 x12 3 (vr b13) (vr ep) (vr xl) (vi 1)) [(.ref ep)])) rfl (by rw [hml]; rfl) (Steps.refl _) (argsL := []) (rest := []) (lenOf pd_0_18 rfl) rfl (by show 2 * 0 + _ ≤ _; exact Nat.le_of_eq rfl) (hb hby at_334) (fun _ _ => ⟨rfl, k37q, (by decide : 30 + 0 ≤ _), (by decide : 102 + 0 ≤ _)⟩)
  dsimp only [Pt.U, Pt.locs, Pt.cells, Pt.slots] at X38 l38 y38 z38 st38 hQ38
  obtain rfl : k38 = 30 := y38
  obtain rfl : n38 = 102 := z38
  obtain ⟨rfl, N38q, k38q⟩ := hQ38
  have N38 : Fr n0 L38 := by rw [l38]; exact Fr.app N37 N38q
  obtain ⟨cq39, kq39, q39a, q39b, q39c⟩ := isOf hZ12 k38q c0
  obtain ⟨_, _, ⟨T39, L39, k39, n39⟩, -, X39, ⟨Lc39, hQ39, l39, y39, z39⟩, st39⟩ := X38.virtualBack hx (y := mN1) (z := mN1) hown12 (mvT hZ12 (wd hw 199 rfl)) (mvT hZ12 (wd hw 200 rfl)) (notFace_of_selects (args := #[]) (mvT hZ12 (wd hw 202 rfl))) (mvT hZ12 (wd hw 202 rfl)) (mvT hZ12 (wd hw 201 rfl)) (by decide) (backOf (W := 0) (rm28 l Z a0 hw [] ep br T19.heap n0 Z19 c8) hZ12 (wd hw 203 rfl) (wd hw 52 rfl) (by decide) (by decide)) q39a q39c (g := (mkF m 354 (own_S p1 p2 p3 p4 p5 p6 x7 x8 x9 x10 x11 x12 3 (vr b13) (vr ep) (vr xl) (vi 1)) [(.ref ep)])) rfl (by rw [hml]; rfl) (Steps.refl _) (argsL := []) (rest := []) (lenOf pd_0_19 rfl) rfl (by show 2 * 0 + _ ≤ _; exact Nat.le_of_eq rfl) (hb hby at_354) (fun _ _ => ⟨rfl, k38q, (by decide : 30 + 0 ≤ _), (by decide : 102 + 0 ≤ _)⟩)
  dsimp only [Pt.U, Pt.locs, Pt.cells, Pt.slots] at X39 l39 y39 z39 st39 hQ39
  obtain rfl : k39 = 30 := y39
  obtain rfl : n39 = 102 := z39
  obtain ⟨rfl, N39q, k39q⟩ := hQ39
  have N39 : Fr n0 L39 := by rw [l39]; exact Fr.app N38 N39q
  obtain ⟨T41, X41, e41, st41⟩ := getS2 X39 hx hZ12 hown12 (host := "") (Or.inl (wd hw 204 rfl)) Via.refl k39q SCL (g := (mkF m 357 (own_S p1 p2 p3 p4 p5 p6 x7 x8 x9 x10 x11 x12 3 (vr b13) (vr ep) (vr xl) (vi 1)) [(.ref br)])) rfl (hb hby at_357)
  obtain ⟨cq42, kq42, q42a, q42b, q42c⟩ := isOf hZ12 e41 c0
  obtain ⟨_, _, ⟨T42, L42, k42, n42⟩, -, X42, ⟨Lc42, hQ42, l42, y42, z42⟩, st42⟩ := X41.virtualBack hx (y := mN2) (z := mN2) hown12 (mvT hZ12 (wd hw 205 rfl)) (mvT hZ12 (wd hw 206 rfl)) (notFace_of_selects (args := #[]) (mvT hZ12 (wd hw 208 rfl))) (mvT hZ12 (wd hw 208 rfl)) (mvT hZ12 (wd hw 207 rfl)) (by decide) (backOf (W := 0) (rm29 l Z a0 hw [] ep (0 : Int32) T19.heap n0 Z19 c9) hZ12 (wd hw 209 rfl) (wd hw 52 rfl) (by decide) (by decide)) q42a q42c (g := (mkF m 377 (own_S p1 p2 p3 p4 p5 p6 x7 x8 x9 x10 x11 x12 3 (vr b13) (vr ep) (vr xl) (vi 1)) [(.ref ep)])) rfl (by rw [hml]; rfl) (Steps.refl _) (argsL := []) (rest := []) (lenOf pd_0_14 rfl) rfl (by show 2 * 0 + _ ≤ _; exact Nat.le_of_eq rfl) (hb hby at_377) (fun _ _ => ⟨rfl, e41, (by decide : 30 + 0 ≤ _), (by decide : 102 + 0 ≤ _)⟩)
  dsimp only [Pt.U, Pt.locs, Pt.cells, Pt.slots] at X42 l42 y42 z42 st42 hQ42
  obtain rfl : k42 = 30 := y42
  obtain rfl : n42 = 102 := z42
  obtain ⟨rfl, N42q, k42q⟩ := hQ42
  have N42 : Fr n0 L42 := by rw [l42]; exact Fr.app N39 N42q
  obtain ⟨fs, hr, hrun, hended, hEnd⟩ := X42.leaveW hS12 (by rw [k42q]; exact (Nat.le_trans E13.1 (Nat.le_trans K14q.1 (Nat.le_trans K15q.1 (Nat.le_trans K16q.1 (Nat.le_trans K17q.1 (Nat.le_trans K18q.1 K19q.1))))))) (v := some (.int (1 : Int32))) (fun h => by rw [Bd.returns] at h; cases h)
  refine ⟨_, _, pre0 _ ?_, hrun, hended, _, _, rfl, ?_, own_monoW hEnd (by decide) (by decide)⟩
  · show Steps p.tables e below (s₁.setTop (mkF m 0 #[.val (.int p1), .val (.int p2), .val (.int p3), .val (.int p4), .val (.int p5), .val (.int p6), .unset, .unset, .unset, .unset, .unset, .unset, .unset, .unset, .unset, .unset, .unset] [])) _
    refine XS.iloadN X0.here hx rfl (hb hby at_0) rfl ?_
    show Steps p.tables e below (s₁.setTop (mkF m 1 #[.val (.int p1), .val (.int p2), .val (.int p3), .val (.int p4), .val (.int p5), .val (.int p6), .unset, .unset, .unset, .unset, .unset, .unset, .unset, .unset, .unset, .unset, .unset] [(.int p1)])) _
    refine st7.trans ?_
    show Steps p.tables e below (T7.setTop (mkF m 4 #[.val (.int p1), .val (.int p2), .val (.int p3), .val (.int p4), .val (.int p5), .val (.int p6), .unset, .unset, .unset, .unset, .unset, .unset, .unset, .unset, .unset, .unset, .unset] [(.ref x7)])) _
    refine XS.astore X7.here hx rfl (hb hby at_4) rfl rfl (l' := #[.val (.int p1), .val (.int p2), .val (.int p3), .val (.int p4), .val (.int p5), .val (.int p6), .val (.ref x7), .unset, .unset, .unset, .unset, .unset, .unset, .unset, .unset, .unset, .unset]) rfl ?_
    refine XS.iloadN X7.here hx rfl (hb hby at_6) rfl ?_
    show Steps p.tables e below (T7.setTop (mkF m 7 #[.val (.int p1), .val (.int p2), .val (.int p3), .val (.int p4), .val (.int p5), .val (.int p6), .val (.ref x7), .unset, .unset, .unset, .unset, .unset, .unset, .unset, .unset, .unset, .unset] [(.int p2)])) _
    refine st8.trans ?_
    show Steps p.tables e below (T8.setTop (mkF m 10 #[.val (.int p1), .val (.int p2), .val (.int p3), .val (.int p4), .val (.int p5), .val (.int p6), .val (.ref x7), .unset, .unset, .unset, .unset, .unset, .unset, .unset, .unset, .unset, .unset] [(.ref x8)])) _
    refine XS.astore X8.here hx rfl (hb hby at_10) rfl rfl (l' := #[.val (.int p1), .val (.int p2), .val (.int p3), .val (.int p4), .val (.int p5), .val (.int p6), .val (.ref x7), .val (.ref x8), .unset, .unset, .unset, .unset, .unset, .unset, .unset, .unset, .unset]) rfl ?_
    refine XS.iloadN X8.here hx rfl (hb hby at_12) rfl ?_
    show Steps p.tables e below (T8.setTop (mkF m 13 #[.val (.int p1), .val (.int p2), .val (.int p3), .val (.int p4), .val (.int p5), .val (.int p6), .val (.ref x7), .val (.ref x8), .unset, .unset, .unset, .unset, .unset, .unset, .unset, .unset, .unset] [(.int p3)])) _
    refine st9.trans ?_
    show Steps p.tables e below (T9.setTop (mkF m 16 #[.val (.int p1), .val (.int p2), .val (.int p3), .val (.int p4), .val (.int p5), .val (.int p6), .val (.ref x7), .val (.ref x8), .unset, .unset, .unset, .unset, .unset, .unset, .unset, .unset, .unset] [(.ref x9)])) _
    refine XS.astore X9.here hx rfl (hb hby at_16) rfl rfl (l' := #[.val (.int p1), .val (.int p2), .val (.int p3), .val (.int p4), .val (.int p5), .val (.int p6), .val (.ref x7), .val (.ref x8), .val (.ref x9), .unset, .unset, .unset, .unset, .unset, .unset, .unset, .unset]) rfl ?_
    refine XS.iloadN X9.here hx rfl (hb hby at_18) rfl ?_
    show Steps p.tables e below (T9.setTop (mkF m 19 #[.val (.int p1), .val (.int p2), .val (.int p3), .val (.int p4), .val (.int p5), .val (.int p6), .val (.ref x7), .val (.ref x8), .val (.ref x9), .unset, .unset, .unset, .unset, .unset, .unset, .unset, .unset] [(.int p4)])) _
    refine st10.trans ?_
    show Steps p.tables e below (T10.setTop (mkF m 22 #[.val (.int p1), .val (.int p2), .val (.int p3), .val (.int p4), .val (.int p5), .val (.int p6), .val (.ref x7), .val (.ref x8), .val (.ref x9), .unset, .unset, .unset, .unset, .unset, .unset, .unset, .unset] [(.ref x10)])) _
    refine XS.astore X10.here hx rfl (hb hby at_22) rfl rfl (l' := #[.val (.int p1), .val (.int p2), .val (.int p3), .val (.int p4), .val (.int p5), .val (.int p6), .val (.ref x7), .val (.ref x8), .val (.ref x9), .val (.ref x10), .unset, .unset, .unset, .unset, .unset, .unset, .unset]) rfl ?_
    refine XS.iload X10.here hx rfl (hb hby at_24) rfl ?_
    show Steps p.tables e below (T10.setTop (mkF m 26 #[.val (.int p1), .val (.int p2), .val (.int p3), .val (.int p4), .val (.int p5), .val (.int p6), .val (.ref x7), .val (.ref x8), .val (.ref x9), .val (.ref x10), .unset, .unset, .unset, .unset, .unset, .unset, .unset] [(.int p5)])) _
    refine st11.trans ?_
    show Steps p.tables e below (T11.setTop (mkF m 29 #[.val (.int p1), .val (.int p2), .val (.int p3), .val (.int p4), .val (.int p5), .val (.int p6), .val (.ref x7), .val (.ref x8), .val (.ref x9), .val (.ref x10), .unset, .unset, .unset, .unset, .unset, .unset, .unset] [(.ref x11)])) _
    refine XS.astore X11.here hx rfl (hb hby at_29) rfl rfl (l' := #[.val (.int p1), .val (.int p2), .val (.int p3), .val (.int p4), .val (.int p5), .val (.int p6), .val (.ref x7), .val (.ref x8), .val (.ref x9), .val (.ref x10), .val (.ref x11), .unset, .unset, .unset, .unset, .unset, .unset]) rfl ?_
    refine XS.iload X11.here hx rfl (hb hby at_31) rfl ?_
    show Steps p.tables e below (T11.setTop (mkF m 33 #[.val (.int p1), .val (.int p2), .val (.int p3), .val (.int p4), .val (.int p5), .val (.int p6), .val (.ref x7), .val (.ref x8), .val (.ref x9), .val (.ref x10), .val (.ref x11), .unset, .unset, .unset, .unset, .unset, .unset] [(.int p6)])) _
    refine st12.trans ?_
    show Steps p.tables e below (T12.setTop (mkF m 36 #[.val (.int p1), .val (.int p2), .val (.int p3), .val (.int p4), .val (.int p5), .val (.int p6), .val (.ref x7), .val (.ref x8), .val (.ref x9), .val (.ref x10), .val (.ref x11), .unset, .unset, .unset, .unset, .unset, .unset] [(.ref x12)])) _
    refine XS.astore X12.here hx rfl (hb hby at_36) rfl rfl (l' := #[.val (.int p1), .val (.int p2), .val (.int p3), .val (.int p4), .val (.int p5), .val (.int p6), .val (.ref x7), .val (.ref x8), .val (.ref x9), .val (.ref x10), .val (.ref x11), .val (.ref x12), .unset, .unset, .unset, .unset, .unset]) rfl ?_
    refine XS.iloadN X12.here hx rfl (hb hby at_38) rfl ?_
    show Steps p.tables e below (T12.setTop (mkF m 39 #[.val (.int p1), .val (.int p2), .val (.int p3), .val (.int p4), .val (.int p5), .val (.int p6), .val (.ref x7), .val (.ref x8), .val (.ref x9), .val (.ref x10), .val (.ref x11), .val (.ref x12), .unset, .unset, .unset, .unset, .unset] [(.int p4)])) _
    refine XS.bipush X12.here hx rfl (hb hby at_39) ?_
    refine XS.iushr X12.here hx rfl (hb hby at_41) rfl ?_
    show Steps p.tables e below (T12.setTop (mkF m 42 #[.val (.int p1), .val (.int p2), .val (.int p3), .val (.int p4), .val (.int p5), .val (.int p6), .val (.ref x7), .val (.ref x8), .val (.ref x9), .val (.ref x10), .val (.ref x11), .val (.ref x12), .unset, .unset, .unset, .unset, .unset] [(.int ((p4.toUInt32 >>> ((24 : Int32) &&& 31).toUInt32).toInt32))])) _
    refine XS.iconst X12.here hx rfl (hb hby at_42) ?_
    refine XS.iand X12.here hx rfl (hb hby at_43) rfl ?_
    show Steps p.tables e below (T12.setTop (mkF m 44 #[.val (.int p1), .val (.int p2), .val (.int p3), .val (.int p4), .val (.int p5), .val (.int p6), .val (.ref x7), .val (.ref x8), .val (.ref x9), .val (.ref x10), .val (.ref x11), .val (.ref x12), .unset, .unset, .unset, .unset, .unset] [(.int (((p4.toUInt32 >>> ((24 : Int32) &&& 31).toUInt32).toInt32) &&& (3 : Int32)))])) _
    rw [hn]
    show Steps p.tables e below (T12.setTop (mkF m 44 #[.val (.int p1), .val (.int p2), .val (.int p3), .val (.int p4), .val (.int p5), .val (.int p6), .val (.ref x7), .val (.ref x8), .val (.ref x9), .val (.ref x10), .val (.ref x11), .val (.ref x12), .unset, .unset, .unset, .unset, .unset] [(.int (3 : Int32))])) _
    refine XS.istore X12.here hx rfl (hb hby at_44) rfl (l' := (own_S p1 p2 p3 p4 p5 p6 x7 x8 x9 x10 x11 x12 3 .unset .unset .unset .unset)) rfl ?_
    show Steps p.tables e below (T12.setTop (mkF m 46 (own_S p1 p2 p3 p4 p5 p6 x7 x8 x9 x10 x11 x12 3 .unset .unset .unset .unset) [])) _
    refine st13 _ ?_
    show Steps p.tables e below (T13.setTop (mkF m 49 (own_S p1 p2 p3 p4 p5 p6 x7 x8 x9 x10 x11 x12 3 .unset .unset .unset .unset) [(.ref b13)])) _
    refine XS.dup X13.here hx rfl (hb hby at_49) rfl rfl ?_
    show Steps p.tables e below (T13.setTop (mkF m 50 (own_S p1 p2 p3 p4 p5 p6 x7 x8 x9 x10 x11 x12 3 .unset .unset .unset .unset) [(.ref b13), (.ref b13)])) _
    refine st14.trans ?_
    show Steps p.tables e below (T14.setTop (mkF m 53 (own_S p1 p2 p3 p4 p5 p6 x7 x8 x9 x10 x11 x12 3 .unset .unset .unset .unset) [(.ref b13)])) _
    refine XS.astore X14.here hx rfl (hb hby at_53) rfl rfl (l' := (own_S p1 p2 p3 p4 p5 p6 x7 x8 x9 x10 x11 x12 3 (vr b13) .unset .unset .unset)) rfl ?_
    refine XS.iload X14.here hx rfl (hb hby at_55) rfl ?_
    show Steps p.tables e below (T14.setTop (mkF m 57 (own_S p1 p2 p3 p4 p5 p6 x7 x8 x9 x10 x11 x12 3 (vr b13) .unset .unset .unset) [(.int (3 : Int32))])) _
    refine XS.ifNo X14.here hx rfl (hb hby at_57) rfl ((if0 _ _).trans (tlt (by decide : (0 : Int32) < (3 : Int32))).2.2.2) ?_
    refine XS.aload X14.here hx rfl (hb hby at_60) rfl rfl ?_
    show Steps p.tables e below (T14.setTop (mkF m 62 (own_S p1 p2 p3 p4 p5 p6 x7 x8 x9 x10 x11 x12 3 (vr b13) .unset .unset .unset) [(.ref b13)])) _
    refine XS.aload X14.here hx rfl (hb hby at_62) rfl rfl ?_
    show Steps p.tables e below (T14.setTop (mkF m 64 (own_S p1 p2 p3 p4 p5 p6 x7 x8 x9 x10 x11 x12 3 (vr b13) .unset .unset .unset) [(.ref x10), (.ref b13)])) _
    refine st15.trans ?_
    show Steps p.tables e below (T15.setTop (mkF m 69 (own_S p1 p2 p3 p4 p5 p6 x7 x8 x9 x10 x11 x12 3 (vr b13) .unset .unset .unset) [(.int (1 : Int32))])) _
    refine XS.pop X15.here hx rfl (hb hby at_69) rfl rfl ?_
    refine XS.iload X15.here hx rfl (hb hby at_70) rfl ?_
    show Steps p.tables e below (T15.setTop (mkF m 72 (own_S p1 p2 p3 p4 p5 p6 x7 x8 x9 x10 x11 x12 3 (vr b13) .unset .unset .unset) [(.int (3 : Int32))])) _
    refine XS.iconst X15.here hx rfl (hb hby at_72) ?_
    refine XS.icmpNo X15.here hx rfl (hb hby at_73) rfl (tlt (by decide : (1 : Int32) < (3 : Int32))).2.2.2 ?_
    show Steps p.tables e below (T15.setTop (mkF m 76 (own_S p1 p2 p3 p4 p5 p6 x7 x8 x9 x10 x11 x12 3 (vr b13) .unset .unset .unset) [])) _
    refine XS.aload X15.here hx rfl (hb hby at_76) rfl rfl ?_
    refine XS.aload X15.here hx rfl (hb hby at_78) rfl rfl ?_
    show Steps p.tables e below (T15.setTop (mkF m 80 (own_S p1 p2 p3 p4 p5 p6 x7 x8 x9 x10 x11 x12 3 (vr b13) .unset .unset .unset) [(.ref x11), (.ref b13)])) _
    refine st16.trans ?_
    show Steps p.tables e below (T16.setTop (mkF m 85 (own_S p1 p2 p3 p4 p5 p6 x7 x8 x9 x10 x11 x12 3 (vr b13) .unset .unset .unset) [(.int (1 : Int32))])) _
    refine XS.pop X16.here hx rfl (hb hby at_85) rfl rfl ?_
    refine XS.iload X16.here hx rfl (hb hby at_86) rfl ?_
    show Steps p.tables e below (T16.setTop (mkF m 88 (own_S p1 p2 p3 p4 p5 p6 x7 x8 x9 x10 x11 x12 3 (vr b13) .unset .unset .unset) [(.int (3 : Int32))])) _
    refine XS.iconst X16.here hx rfl (hb hby at_88) ?_
    refine XS.icmpNo X16.here hx rfl (hb hby at_89) rfl (tlt (by decide : (2 : Int32) < (3 : Int32))).2.2.2 ?_
    show Steps p.tables e below (T16.setTop (mkF m 92 (own_S p1 p2 p3 p4 p5 p6 x7 x8 x9 x10 x11 x12 3 (vr b13) .unset .unset .unset) [])) _
    refine XS.aload X16.here hx rfl (hb hby at_92) rfl rfl ?_
    refine XS.aload X16.here hx rfl (hb hby at_94) rfl rfl ?_
    show Steps p.tables e below (T16.setTop (mkF m 96 (own_S p1 p2 p3 p4 p5 p6 x7 x8 x9 x10 x11 x12 3 (vr b13) .unset .unset .unset) [(.ref x12), (.ref b13)])) _
    refine st17.trans ?_
    show Steps p.tables e below (T17.setTop (mkF m 101 (own_S p1 p2 p3 p4 p5 p6 x7 x8 x9 x10 x11 x12 3 (vr b13) .unset .unset .unset) [(.int (1 : Int32))])) _
    refine XS.pop X17.here hx rfl (hb hby at_101) rfl rfl ?_
    refine XS.aload X17.here hx rfl (hb hby at_102) rfl rfl ?_
    show Steps p.tables e below (T17.setTop (mkF m 104 (own_S p1 p2 p3 p4 p5 p6 x7 x8 x9 x10 x11 x12 3 (vr b13) .unset .unset .unset) [(.ref x7)])) _
    refine XS.aload X17.here hx rfl (hb hby at_104) rfl rfl ?_
    refine XS.aload X17.here hx rfl (hb hby at_106) rfl rfl ?_
    show Steps p.tables e below (T17.setTop (mkF m 108 (own_S p1 p2 p3 p4 p5 p6 x7 x8 x9 x10 x11 x12 3 (vr b13) .unset .unset .unset) [(.ref x9), (.ref x8), (.ref x7)])) _
    refine XS.aload X17.here hx rfl (hb hby at_108) rfl rfl ?_
    show Steps p.tables e below (T17.setTop (mkF m 110 (own_S p1 p2 p3 p4 p5 p6 x7 x8 x9 x10 x11 x12 3 (vr b13) .unset .unset .unset) [(.ref b13), (.ref x9), (.ref x8), (.ref x7)])) _
    refine st18 _ ?_
    show Steps p.tables e below (T18.setTop (mkF m 113 (own_S p1 p2 p3 p4 p5 p6 x7 x8 x9 x10 x11 x12 3 (vr b13) .unset .unset .unset) [(.ref ep)])) _
    refine XS.astore X18.here hx rfl (hb hby at_113) rfl rfl (l' := (own_S p1 p2 p3 p4 p5 p6 x7 x8 x9 x10 x11 x12 3 (vr b13) (vr ep) .unset .unset)) rfl ?_
    refine XS.aload X18.here hx rfl (hb hby at_115) rfl rfl ?_
    show Steps p.tables e below (T18.setTop (mkF m 117 (own_S p1 p2 p3 p4 p5 p6 x7 x8 x9 x10 x11 x12 3 (vr b13) (vr ep) .unset .unset) [(.ref b13)])) _
    refine XS.aload X18.here hx rfl (hb hby at_117) rfl rfl ?_
    show Steps p.tables e below (T18.setTop (mkF m 119 (own_S p1 p2 p3 p4 p5 p6 x7 x8 x9 x10 x11 x12 3 (vr b13) (vr ep) .unset .unset) [(.ref x11), (.ref b13)])) _
    refine st19.trans ?_
    show Steps p.tables e below (T19.setTop (mkF m 124 (own_S p1 p2 p3 p4 p5 p6 x7 x8 x9 x10 x11 x12 3 (vr b13) (vr ep) .unset .unset) [(.int (1 : Int32))])) _
    refine XS.pop X19.here hx rfl (hb hby at_124) rfl rfl ?_
    refine XS.aload X19.here hx rfl (hb hby at_125) rfl rfl ?_
    show Steps p.tables e below (T19.setTop (mkF m 127 (own_S p1 p2 p3 p4 p5 p6 x7 x8 x9 x10 x11 x12 3 (vr b13) (vr ep) .unset .unset) [(.ref ep)])) _
    refine st20.trans ?_
    show Steps p.tables e below (T20.setTop (mkF m 130 (own_S p1 p2 p3 p4 p5 p6 x7 x8 x9 x10 x11 x12 3 (vr b13) (vr ep) .unset .unset) [(.ref xl)])) _
    refine XS.astore X20.here hx rfl (hb hby at_130) rfl rfl (l' := (own_S p1 p2 p3 p4 p5 p6 x7 x8 x9 x10 x11 x12 3 (vr b13) (vr ep) (vr xl) .unset)) rfl ?_
    refine XS.aload X20.here hx rfl (hb hby at_132) rfl rfl ?_
    show Steps p.tables e below (T20.setTop (mkF m 134 (own_S p1 p2 p3 p4 p5 p6 x7 x8 x9 x10 x11 x12 3 (vr b13) (vr ep) (vr xl) .unset) [(.ref xl)])) _
    refine XS.ifnullNo X20.here hx rfl (hb hby at_134) rfl ?_
    refine XS.aload X20.here hx rfl (hb hby at_137) rfl rfl ?_
    show Steps p.tables e below (T20.setTop (mkF m 139 (own_S p1 p2 p3 p4 p5 p6 x7 x8 x9 x10 x11 x12 3 (vr b13) (vr ep) (vr xl) .unset) [(.ref xl)])) _
    refine st21.trans ?_
    show Steps p.tables e below (T21.setTop (mkF m 144 (own_S p1 p2 p3 p4 p5 p6 x7 x8 x9 x10 x11 x12 3 (vr b13) (vr ep) (vr xl) .unset) [(.int (3 : Int32))])) _
    refine XS.iload X21.here hx rfl (hb hby at_144) rfl ?_
    refine XS.icmpNo X21.here hx rfl (hb hby at_146) rfl (teq (by decide : (3 : Int32) = (3 : Int32))).2 ?_
    show Steps p.tables e below (T21.setTop (mkF m 149 (own_S p1 p2 p3 p4 p5 p6 x7 x8 x9 x10 x11 x12 3 (vr b13) (vr ep) (vr xl) .unset) [])) _
    refine XS.iconst X21.here hx rfl (hb hby at_149) ?_
    refine XS.goto X21.here hx rfl (pc0 := 150) (pc' := 154) rfl (hb hby at_150) (by decide) (by decide) ?_
    show Steps p.tables e below (T21.setTop (mkF m 154 (own_S p1 p2 p3 p4 p5 p6 x7 x8 x9 x10 x11 x12 3 (vr b13) (vr ep) (vr xl) .unset) [(.int (1 : Int32))])) _
    refine XS.istore X21.here hx rfl (hb hby at_154) rfl (l' := (own_S p1 p2 p3 p4 p5 p6 x7 x8 x9 x10 x11 x12 3 (vr b13) (vr ep) (vr xl) (vi 1))) rfl ?_
    refine XS.iload X21.here hx rfl (hb hby at_156) rfl ?_
    show Steps p.tables e below (T21.setTop (mkF m 158 (own_S p1 p2 p3 p4 p5 p6 x7 x8 x9 x10 x11 x12 3 (vr b13) (vr ep) (vr xl) (vi 1)) [(.int (1 : Int32))])) _
    refine XS.ifNo X21.here hx rfl (hb hby at_158) rfl ((if0 _ _).trans (feq (by decide : ¬ ((1 : Int32) = (0 : Int32)))).1) ?_
    refine XS.iload X21.here hx rfl (hb hby at_161) rfl ?_
    show Steps p.tables e below (T21.setTop (mkF m 163 (own_S p1 p2 p3 p4 p5 p6 x7 x8 x9 x10 x11 x12 3 (vr b13) (vr ep) (vr xl) (vi 1)) [(.int (3 : Int32))])) _
    refine XS.ifNo X21.here hx rfl (hb hby at_163) rfl ((if0 _ _).trans (tlt (by decide : (0 : Int32) < (3 : Int32))).2.2.2) ?_
    refine XS.aload X21.here hx rfl (hb hby at_166) rfl rfl ?_
    show Steps p.tables e below (T21.setTop (mkF m 168 (own_S p1 p2 p3 p4 p5 p6 x7 x8 x9 x10 x11 x12 3 (vr b13) (vr ep) (vr xl) (vi 1)) [(.ref x10)])) _
    refine XS.aload X21.here hx rfl (hb hby at_168) rfl rfl ?_
    refine XS.iconst X21.here hx rfl (hb hby at_170) ?_
    show Steps p.tables e below (T21.setTop (mkF m 171 (own_S p1 p2 p3 p4 p5 p6 x7 x8 x9 x10 x11 x12 3 (vr b13) (vr ep) (vr xl) (vi 1)) [(.int (0 : Int32)), (.ref xl), (.ref x10)])) _
    refine st22.trans ?_
    show Steps p.tables e below (T22.setTop (mkF m 176 (own_S p1 p2 p3 p4 p5 p6 x7 x8 x9 x10 x11 x12 3 (vr b13) (vr ep) (vr xl) (vi 1)) [(.ref x10), (.ref x10)])) _
    refine st23.trans ?_
    show Steps p.tables e below (T23.setTop (mkF m 179 (own_S p1 p2 p3 p4 p5 p6 x7 x8 x9 x10 x11 x12 3 (vr b13) (vr ep) (vr xl) (vi 1)) [(.int (1 : Int32))])) _
    refine XS.istore X23.here hx rfl (hb hby at_179) rfl (l' := (own_S p1 p2 p3 p4 p5 p6 x7 x8 x9 x10 x11 x12 3 (vr b13) (vr ep) (vr xl) (vi 1))) rfl ?_
    refine XS.iload X23.here hx rfl (hb hby at_181) rfl ?_
    show Steps p.tables e below (T23.setTop (mkF m 183 (own_S p1 p2 p3 p4 p5 p6 x7 x8 x9 x10 x11 x12 3 (vr b13) (vr ep) (vr xl) (vi 1)) [(.int (1 : Int32))])) _
    refine XS.ifNo X23.here hx rfl (hb hby at_183) rfl ((if0 _ _).trans (feq (by decide : ¬ ((1 : Int32) = (0 : Int32)))).1) ?_
    refine XS.iload X23.here hx rfl (hb hby at_186) rfl ?_
    show Steps p.tables e below (T23.setTop (mkF m 188 (own_S p1 p2 p3 p4 p5 p6 x7 x8 x9 x10 x11 x12 3 (vr b13) (vr ep) (vr xl) (vi 1)) [(.int (3 : Int32))])) _
    refine XS.iconst X23.here hx rfl (hb hby at_188) ?_
    refine XS.icmpNo X23.here hx rfl (hb hby at_189) rfl (tlt (by decide : (1 : Int32) < (3 : Int32))).2.2.2 ?_
    show Steps p.tables e below (T23.setTop (mkF m 192 (own_S p1 p2 p3 p4 p5 p6 x7 x8 x9 x10 x11 x12 3 (vr b13) (vr ep) (vr xl) (vi 1)) [])) _
    refine XS.aload X23.here hx rfl (hb hby at_192) rfl rfl ?_
    refine XS.aload X23.here hx rfl (hb hby at_194) rfl rfl ?_
    show Steps p.tables e below (T23.setTop (mkF m 196 (own_S p1 p2 p3 p4 p5 p6 x7 x8 x9 x10 x11 x12 3 (vr b13) (vr ep) (vr xl) (vi 1)) [(.ref xl), (.ref x11)])) _
    refine XS.iconst X23.here hx rfl (hb hby at_196) ?_
    show Steps p.tables e below (T23.setTop (mkF m 197 (own_S p1 p2 p3 p4 p5 p6 x7 x8 x9 x10 x11 x12 3 (vr b13) (vr ep) (vr xl) (vi 1)) [(.int (1 : Int32)), (.ref xl), (.ref x11)])) _
    refine st24.trans ?_
    show Steps p.tables e below (T24.setTop (mkF m 202 (own_S p1 p2 p3 p4 p5 p6 x7 x8 x9 x10 x11 x12 3 (vr b13) (vr ep) (vr xl) (vi 1)) [(.ref x11), (.ref x11)])) _
    refine st25.trans ?_
    show Steps p.tables e below (T25.setTop (mkF m 205 (own_S p1 p2 p3 p4 p5 p6 x7 x8 x9 x10 x11 x12 3 (vr b13) (vr ep) (vr xl) (vi 1)) [(.int (1 : Int32))])) _
    refine XS.istore X25.here hx rfl (hb hby at_205) rfl (l' := (own_S p1 p2 p3 p4 p5 p6 x7 x8 x9 x10 x11 x12 3 (vr b13) (vr ep) (vr xl) (vi 1))) rfl ?_
    refine XS.iload X25.here hx rfl (hb hby at_207) rfl ?_
    show Steps p.tables e below (T25.setTop (mkF m 209 (own_S p1 p2 p3 p4 p5 p6 x7 x8 x9 x10 x11 x12 3 (vr b13) (vr ep) (vr xl) (vi 1)) [(.int (1 : Int32))])) _
    refine XS.ifNo X25.here hx rfl (hb hby at_209) rfl ((if0 _ _).trans (feq (by decide : ¬ ((1 : Int32) = (0 : Int32)))).1) ?_
    refine XS.iload X25.here hx rfl (hb hby at_212) rfl ?_
    show Steps p.tables e below (T25.setTop (mkF m 214 (own_S p1 p2 p3 p4 p5 p6 x7 x8 x9 x10 x11 x12 3 (vr b13) (vr ep) (vr xl) (vi 1)) [(.int (3 : Int32))])) _
    refine XS.iconst X25.here hx rfl (hb hby at_214) ?_
    refine XS.icmpNo X25.here hx rfl (hb hby at_215) rfl (tlt (by decide : (2 : Int32) < (3 : Int32))).2.2.2 ?_
    show Steps p.tables e below (T25.setTop (mkF m 218 (own_S p1 p2 p3 p4 p5 p6 x7 x8 x9 x10 x11 x12 3 (vr b13) (vr ep) (vr xl) (vi 1)) [])) _
    refine XS.aload X25.here hx rfl (hb hby at_218) rfl rfl ?_
    refine XS.aload X25.here hx rfl (hb hby at_220) rfl rfl ?_
    show Steps p.tables e below (T25.setTop (mkF m 222 (own_S p1 p2 p3 p4 p5 p6 x7 x8 x9 x10 x11 x12 3 (vr b13) (vr ep) (vr xl) (vi 1)) [(.ref xl), (.ref x12)])) _
    refine XS.iconst X25.here hx rfl (hb hby at_222) ?_
    show Steps p.tables e below (T25.setTop (mkF m 223 (own_S p1 p2 p3 p4 p5 p6 x7 x8 x9 x10 x11 x12 3 (vr b13) (vr ep) (vr xl) (vi 1)) [(.int (2 : Int32)), (.ref xl), (.ref x12)])) _
    refine st26.trans ?_
    show Steps p.tables e below (T26.setTop (mkF m 228 (own_S p1 p2 p3 p4 p5 p6 x7 x8 x9 x10 x11 x12 3 (vr b13) (vr ep) (vr xl) (vi 1)) [(.ref x12), (.ref x12)])) _
    refine st27.trans ?_
    show Steps p.tables e below (T27.setTop (mkF m 231 (own_S p1 p2 p3 p4 p5 p6 x7 x8 x9 x10 x11 x12 3 (vr b13) (vr ep) (vr xl) (vi 1)) [(.int (1 : Int32))])) _
    refine XS.istore X27.here hx rfl (hb hby at_231) rfl (l' := (own_S p1 p2 p3 p4 p5 p6 x7 x8 x9 x10 x11 x12 3 (vr b13) (vr ep) (vr xl) (vi 1))) rfl ?_
    refine XS.iload X27.here hx rfl (hb hby at_233) rfl ?_
    show Steps p.tables e below (T27.setTop (mkF m 235 (own_S p1 p2 p3 p4 p5 p6 x7 x8 x9 x10 x11 x12 3 (vr b13) (vr ep) (vr xl) (vi 1)) [(.int (1 : Int32))])) _
    refine XS.ifNo X27.here hx rfl (hb hby at_235) rfl ((if0 _ _).trans (feq (by decide : ¬ ((1 : Int32) = (0 : Int32)))).1) ?_
    refine XS.aload X27.here hx rfl (hb hby at_238) rfl rfl ?_
    show Steps p.tables e below (T27.setTop (mkF m 240 (own_S p1 p2 p3 p4 p5 p6 x7 x8 x9 x10 x11 x12 3 (vr b13) (vr ep) (vr xl) (vi 1)) [(.ref x7)])) _
    refine XS.aload X27.here hx rfl (hb hby at_240) rfl rfl ?_
    show Steps p.tables e below (T27.setTop (mkF m 242 (own_S p1 p2 p3 p4 p5 p6 x7 x8 x9 x10 x11 x12 3 (vr b13) (vr ep) (vr xl) (vi 1)) [(.ref ep), (.ref x7)])) _
    refine st28.trans ?_
    show Steps p.tables e below (T28.setTop (mkF m 245 (own_S p1 p2 p3 p4 p5 p6 x7 x8 x9 x10 x11 x12 3 (vr b13) (vr ep) (vr xl) (vi 1)) [(.ref x7), (.ref x7)])) _
    refine st29.trans ?_
    show Steps p.tables e below (T29.setTop (mkF m 248 (own_S p1 p2 p3 p4 p5 p6 x7 x8 x9 x10 x11 x12 3 (vr b13) (vr ep) (vr xl) (vi 1)) [(.int (1 : Int32))])) _
    refine XS.ifNo X29.here hx rfl (hb hby at_248) rfl ((if0 _ _).trans (feq (by decide : ¬ ((1 : Int32) = (0 : Int32)))).1) ?_
    refine XS.aload X29.here hx rfl (hb hby at_251) rfl rfl ?_
    show Steps p.tables e below (T29.setTop (mkF m 253 (own_S p1 p2 p3 p4 p5 p6 x7 x8 x9 x10 x11 x12 3 (vr b13) (vr ep) (vr xl) (vi 1)) [(.ref x8)])) _
    refine XS.aload X29.here hx rfl (hb hby at_253) rfl rfl ?_
    show Steps p.tables e below (T29.setTop (mkF m 255 (own_S p1 p2 p3 p4 p5 p6 x7 x8 x9 x10 x11 x12 3 (vr b13) (vr ep) (vr xl) (vi 1)) [(.ref ep), (.ref x8)])) _
    refine st30.trans ?_
    show Steps p.tables e below (T30.setTop (mkF m 258 (own_S p1 p2 p3 p4 p5 p6 x7 x8 x9 x10 x11 x12 3 (vr b13) (vr ep) (vr xl) (vi 1)) [(.ref x8), (.ref x8)])) _
    refine st31.trans ?_
    show Steps p.tables e below (T31.setTop (mkF m 261 (own_S p1 p2 p3 p4 p5 p6 x7 x8 x9 x10 x11 x12 3 (vr b13) (vr ep) (vr xl) (vi 1)) [(.int (1 : Int32))])) _
    refine XS.ifNo X31.here hx rfl (hb hby at_261) rfl ((if0 _ _).trans (feq (by decide : ¬ ((1 : Int32) = (0 : Int32)))).1) ?_
    refine XS.aload X31.here hx rfl (hb hby at_264) rfl rfl ?_
    show Steps p.tables e below (T31.setTop (mkF m 266 (own_S p1 p2 p3 p4 p5 p6 x7 x8 x9 x10 x11 x12 3 (vr b13) (vr ep) (vr xl) (vi 1)) [(.ref x9)])) _
    refine XS.aload X31.here hx rfl (hb hby at_266) rfl rfl ?_
    show Steps p.tables e below (T31.setTop (mkF m 268 (own_S p1 p2 p3 p4 p5 p6 x7 x8 x9 x10 x11 x12 3 (vr b13) (vr ep) (vr xl) (vi 1)) [(.ref ep), (.ref x9)])) _
    refine st32.trans ?_
    show Steps p.tables e below (T32.setTop (mkF m 271 (own_S p1 p2 p3 p4 p5 p6 x7 x8 x9 x10 x11 x12 3 (vr b13) (vr ep) (vr xl) (vi 1)) [(.ref x9), (.ref x9)])) _
    refine st33.trans ?_
    show Steps p.tables e below (T33.setTop (mkF m 274 (own_S p1 p2 p3 p4 p5 p6 x7 x8 x9 x10 x11 x12 3 (vr b13) (vr ep) (vr xl) (vi 1)) [(.int (1 : Int32))])) _
    refine XS.ifNo X33.here hx rfl (hb hby at_274) rfl ((if0 _ _).trans (feq (by decide : ¬ ((1 : Int32) = (0 : Int32)))).1) ?_
    refine XS.iconst X33.here hx rfl (hb hby at_277) ?_
    show Steps p.tables e below (T33.setTop (mkF m 278 (own_S p1 p2 p3 p4 p5 p6 x7 x8 x9 x10 x11 x12 3 (vr b13) (vr ep) (vr xl) (vi 1)) [(.int (1 : Int32))])) _
    refine XS.goto X33.here hx rfl (pc0 := 278) (pc' := 282) rfl (hb hby at_278) (by decide) (by decide) ?_
    refine XS.istore X33.here hx rfl (hb hby at_282) rfl (l' := (own_S p1 p2 p3 p4 p5 p6 x7 x8 x9 x10 x11 x12 3 (vr b13) (vr ep) (vr xl) (vi 1))) rfl ?_
    show Steps p.tables e below (T33.setTop (mkF m 284 (own_S p1 p2 p3 p4 p5 p6 x7 x8 x9 x10 x11 x12 3 (vr b13) (vr ep) (vr xl) (vi 1)) [])) _
    refine XS.iload X33.here hx rfl (hb hby at_284) rfl ?_
    refine XS.ifNo X33.here hx rfl (hb hby at_286) rfl ((if0 _ _).trans (feq (by decide : ¬ ((1 : Int32) = (0 : Int32)))).1) ?_
    show Steps p.tables e below (T33.setTop (mkF m 289 (own_S p1 p2 p3 p4 p5 p6 x7 x8 x9 x10 x11 x12 3 (vr b13) (vr ep) (vr xl) (vi 1)) [])) _
    refine XS.aload X33.here hx rfl (hb hby at_289) rfl rfl ?_
    show Steps p.tables e below (T33.setTop (mkF m 291 (own_S p1 p2 p3 p4 p5 p6 x7 x8 x9 x10 x11 x12 3 (vr b13) (vr ep) (vr xl) (vi 1)) [(.ref ep)])) _
    refine st34.trans ?_
    show Steps p.tables e below (T34.setTop (mkF m 294 (own_S p1 p2 p3 p4 p5 p6 x7 x8 x9 x10 x11 x12 3 (vr b13) (vr ep) (vr xl) (vi 1)) [(.ref st)])) _
    refine st36 _ ?_
    show Steps p.tables e below (T36.setTop (mkF m 297 (own_S p1 p2 p3 p4 p5 p6 x7 x8 x9 x10 x11 x12 3 (vr b13) (vr ep) (vr xl) (vi 1)) [(.ref st), (.ref st)])) _
    refine Jvm.RoadKit.acmp (g := (mkF m 297 (own_S p1 p2 p3 p4 p5 p6 x7 x8 x9 x10 x11 x12 3 (vr b13) (vr ep) (vr xl) (vi 1)) [(.ref st), (.ref st)])) X36 hx rfl rfl rfl (pc0 := 297) (pc' := 300) (same := true) rfl (hb hby at_297) rfl (decide_eq_true (rfl : Value.ref _ = _)) (by decide) (by decide) ?_
    show Steps p.tables e below (T36.setTop (mkF m 300 (own_S p1 p2 p3 p4 p5 p6 x7 x8 x9 x10 x11 x12 3 (vr b13) (vr ep) (vr xl) (vi 1)) [])) _
    refine XS.iconst X36.here hx rfl (hb hby at_300) ?_
    refine XS.goto X36.here hx rfl (pc0 := 301) (pc' := 305) rfl (hb hby at_301) (by decide) (by decide) ?_
    show Steps p.tables e below (T36.setTop (mkF m 305 (own_S p1 p2 p3 p4 p5 p6 x7 x8 x9 x10 x11 x12 3 (vr b13) (vr ep) (vr xl) (vi 1)) [(.int (1 : Int32))])) _
    refine XS.istore X36.here hx rfl (hb hby at_305) rfl (l' := (own_S p1 p2 p3 p4 p5 p6 x7 x8 x9 x10 x11 x12 3 (vr b13) (vr ep) (vr xl) (vi 1))) rfl ?_
    refine XS.iload X36.here hx rfl (hb hby at_307) rfl ?_
    show Steps p.tables e below (T36.setTop (mkF m 309 (own_S p1 p2 p3 p4 p5 p6 x7 x8 x9 x10 x11 x12 3 (vr b13) (vr ep) (vr xl) (vi 1)) [(.int (1 : Int32))])) _
    refine XS.ifNo X36.here hx rfl (hb hby at_309) rfl ((if0 _ _).trans (feq (by decide : ¬ ((1 : Int32) = (0 : Int32)))).1) ?_
    refine XS.aload X36.here hx rfl (hb hby at_312) rfl rfl ?_
    show Steps p.tables e below (T36.setTop (mkF m 314 (own_S p1 p2 p3 p4 p5 p6 x7 x8 x9 x10 x11 x12 3 (vr b13) (vr ep) (vr xl) (vi 1)) [(.ref ep)])) _
    refine st37.trans ?_
    show Steps p.tables e below (T37.setTop (mkF m 317 (own_S p1 p2 p3 p4 p5 p6 x7 x8 x9 x10 x11 x12 3 (vr b13) (vr ep) (vr xl) (vi 1)) [.null])) _
    refine XS.ifnonnullNo X37.here hx rfl (hb hby at_317) rfl ?_
    refine XS.iconst X37.here hx rfl (hb hby at_320) ?_
    show Steps p.tables e below (T37.setTop (mkF m 321 (own_S p1 p2 p3 p4 p5 p6 x7 x8 x9 x10 x11 x12 3 (vr b13) (vr ep) (vr xl) (vi 1)) [(.int (1 : Int32))])) _
    refine XS.goto X37.here hx rfl (pc0 := 321) (pc' := 325) rfl (hb hby at_321) (by decide) (by decide) ?_
    refine XS.istore X37.here hx rfl (hb hby at_325) rfl (l' := (own_S p1 p2 p3 p4 p5 p6 x7 x8 x9 x10 x11 x12 3 (vr b13) (vr ep) (vr xl) (vi 1))) rfl ?_
    show Steps p.tables e below (T37.setTop (mkF m 327 (own_S p1 p2 p3 p4 p5 p6 x7 x8 x9 x10 x11 x12 3 (vr b13) (vr ep) (vr xl) (vi 1)) [])) _
    refine XS.iload X37.here hx rfl (hb hby at_327) rfl ?_
    refine XS.ifNo X37.here hx rfl (hb hby at_329) rfl ((if0 _ _).trans (feq (by decide : ¬ ((1 : Int32) = (0 : Int32)))).1) ?_
    show Steps p.tables e below (T37.setTop (mkF m 332 (own_S p1 p2 p3 p4 p5 p6 x7 x8 x9 x10 x11 x12 3 (vr b13) (vr ep) (vr xl) (vi 1)) [])) _
    refine XS.aload X37.here hx rfl (hb hby at_332) rfl rfl ?_
    show Steps p.tables e below (T37.setTop (mkF m 334 (own_S p1 p2 p3 p4 p5 p6 x7 x8 x9 x10 x11 x12 3 (vr b13) (vr ep) (vr xl) (vi 1)) [(.ref ep)])) _
    refine st38.trans ?_
    show Steps p.tables e below (T38.setTop (mkF m 337 (own_S p1 p2 p3 p4 p5 p6 x7 x8 x9 x10 x11 x12 3 (vr b13) (vr ep) (vr xl) (vi 1)) [.null])) _
    refine XS.ifnonnullNo X38.here hx rfl (hb hby at_337) rfl ?_
    refine XS.iconst X38.here hx rfl (hb hby at_340) ?_
    show Steps p.tables e below (T38.setTop (mkF m 341 (own_S p1 p2 p3 p4 p5 p6 x7 x8 x9 x10 x11 x12 3 (vr b13) (vr ep) (vr xl) (vi 1)) [(.int (1 : Int32))])) _
    refine XS.goto X38.here hx rfl (pc0 := 341) (pc' := 345) rfl (hb hby at_341) (by decide) (by decide) ?_
    refine XS.istore X38.here hx rfl (hb hby at_345) rfl (l' := (own_S p1 p2 p3 p4 p5 p6 x7 x8 x9 x10 x11 x12 3 (vr b13) (vr ep) (vr xl) (vi 1))) rfl ?_
    show Steps p.tables e below (T38.setTop (mkF m 347 (own_S p1 p2 p3 p4 p5 p6 x7 x8 x9 x10 x11 x12 3 (vr b13) (vr ep) (vr xl) (vi 1)) [])) _
    refine XS.iload X38.here hx rfl (hb hby at_347) rfl ?_
    refine XS.ifNo X38.here hx rfl (hb hby at_349) rfl ((if0 _ _).trans (feq (by decide : ¬ ((1 : Int32) = (0 : Int32)))).1) ?_
    show Steps p.tables e below (T38.setTop (mkF m 352 (own_S p1 p2 p3 p4 p5 p6 x7 x8 x9 x10 x11 x12 3 (vr b13) (vr ep) (vr xl) (vi 1)) [])) _
    refine XS.aload X38.here hx rfl (hb hby at_352) rfl rfl ?_
    show Steps p.tables e below (T38.setTop (mkF m 354 (own_S p1 p2 p3 p4 p5 p6 x7 x8 x9 x10 x11 x12 3 (vr b13) (vr ep) (vr xl) (vi 1)) [(.ref ep)])) _
    refine st39.trans ?_
    show Steps p.tables e below (T39.setTop (mkF m 357 (own_S p1 p2 p3 p4 p5 p6 x7 x8 x9 x10 x11 x12 3 (vr b13) (vr ep) (vr xl) (vi 1)) [(.ref br)])) _
    refine st41 _ ?_
    show Steps p.tables e below (T41.setTop (mkF m 360 (own_S p1 p2 p3 p4 p5 p6 x7 x8 x9 x10 x11 x12 3 (vr b13) (vr ep) (vr xl) (vi 1)) [(.ref br), (.ref br)])) _
    refine Jvm.RoadKit.acmp (g := (mkF m 360 (own_S p1 p2 p3 p4 p5 p6 x7 x8 x9 x10 x11 x12 3 (vr b13) (vr ep) (vr xl) (vi 1)) [(.ref br), (.ref br)])) X41 hx rfl rfl rfl (pc0 := 360) (pc' := 363) (same := true) rfl (hb hby at_360) rfl (decide_eq_true (rfl : Value.ref _ = _)) (by decide) (by decide) ?_
    show Steps p.tables e below (T41.setTop (mkF m 363 (own_S p1 p2 p3 p4 p5 p6 x7 x8 x9 x10 x11 x12 3 (vr b13) (vr ep) (vr xl) (vi 1)) [])) _
    refine XS.iconst X41.here hx rfl (hb hby at_363) ?_
    refine XS.goto X41.here hx rfl (pc0 := 364) (pc' := 368) rfl (hb hby at_364) (by decide) (by decide) ?_
    show Steps p.tables e below (T41.setTop (mkF m 368 (own_S p1 p2 p3 p4 p5 p6 x7 x8 x9 x10 x11 x12 3 (vr b13) (vr ep) (vr xl) (vi 1)) [(.int (1 : Int32))])) _
    refine XS.istore X41.here hx rfl (hb hby at_368) rfl (l' := (own_S p1 p2 p3 p4 p5 p6 x7 x8 x9 x10 x11 x12 3 (vr b13) (vr ep) (vr xl) (vi 1))) rfl ?_
    refine XS.iload X41.here hx rfl (hb hby at_370) rfl ?_
    show Steps p.tables e below (T41.setTop (mkF m 372 (own_S p1 p2 p3 p4 p5 p6 x7 x8 x9 x10 x11 x12 3 (vr b13) (vr ep) (vr xl) (vi 1)) [(.int (1 : Int32))])) _
    refine XS.ifNo X41.here hx rfl (hb hby at_372) rfl ((if0 _ _).trans (feq (by decide : ¬ ((1 : Int32) = (0 : Int32)))).1) ?_
    refine XS.aload X41.here hx rfl (hb hby at_375) rfl rfl ?_
    show Steps p.tables e below (T41.setTop (mkF m 377 (own_S p1 p2 p3 p4 p5 p6 x7 x8 x9 x10 x11 x12 3 (vr b13) (vr ep) (vr xl) (vi 1)) [(.ref ep)])) _
    refine st42.trans ?_
    show Steps p.tables e below (T42.setTop (mkF m 380 (own_S p1 p2 p3 p4 p5 p6 x7 x8 x9 x10 x11 x12 3 (vr b13) (vr ep) (vr xl) (vi 1)) [(.int (0 : Int32))])) _
    refine XS.ifNo X42.here hx rfl (hb hby at_380) rfl ((if0 _ _).trans (teq (by decide : (0 : Int32) = (0 : Int32))).2) ?_
    refine XS.iconst X42.here hx rfl (hb hby at_383) ?_
    show Steps p.tables e below (T42.setTop (mkF m 384 (own_S p1 p2 p3 p4 p5 p6 x7 x8 x9 x10 x11 x12 3 (vr b13) (vr ep) (vr xl) (vi 1)) [(.int (1 : Int32))])) _
    refine XS.goto X42.here hx rfl (pc0 := 384) (pc' := 388) rfl (hb hby at_384) (by decide) (by decide) ?_
    refine XS.istore X42.here hx rfl (hb hby at_388) rfl (l' := (own_S p1 p2 p3 p4 p5 p6 x7 x8 x9 x10 x11 x12 3 (vr b13) (vr ep) (vr xl) (vi 1))) rfl ?_
    show Steps p.tables e below (T42.setTop (mkF m 390 (own_S p1 p2 p3 p4 p5 p6 x7 x8 x9 x10 x11 x12 3 (vr b13) (vr ep) (vr xl) (vi 1)) [])) _
    refine XS.iload X42.here hx rfl (hb hby at_390) rfl ?_
    show Steps p.tables e below (T42.setTop (mkF m 392 (own_S p1 p2 p3 p4 p5 p6 x7 x8 x9 x10 x11 x12 3 (vr b13) (vr ep) (vr xl) (vi 1)) [(.int (1 : Int32))])) _
    exact retN X42 hx (t := .boolean) Bd.returns (by simp) (hb hby at_392) hr
  · show Q0d Z p1 p2 p3 p4 p5 p6 w wD wEL wEm st br mr cD h0 n0 _ T42.heap _
    exact ⟨rfl, N42⟩

theorem own_sta {args : Array Value} {Z : State} {C n d K : String} (h : (Jvm.Cond.exactly (Term.static C n d) K).value args Z none Z [] = some true) (hi : (Jvm.Cond.initialized C).before args Z = true) (hl : (Jvm.Cond.laysStatic C n d).before args Z = true) : ∃ a, (Term.static C n d).eval args Z none [] Z = some (.ref a) ∧ Sta Z Z.heap C n d (.ref a) ∧ Exa Z Z.heap a K := by
  obtain ⟨a, ev⟩ := exa_v h
  exact ⟨a, ev, Sta.start ev (Or.inr ⟨hi, hl⟩), Exa.start ev h⟩
theorem own_fint {args : Array Value} {Z : State} {t : Term} {a : Addr} {C n d : String} {z : Int32} (ev : t.eval args Z none [] Z = some (.ref a)) (h : (Jvm.Cond.eq (Term.field t C n d) (Term.int z)).value args Z none Z [] = some true) : Fld Z Z.heap a C n d (.int z) := by
  refine Fld.start ?_
  cases hf : Z.fieldOf? a C n d with
  | none => simp [Cond.value, Term.eval, ev, hf] at h
  | some v => cases v <;> simp [Cond.value, Term.eval, ev, hf] at h ⊢; exact h
theorem own_fnull {args : Array Value} {Z : State} {t : Term} {a : Addr} {C n d : String} (ev : t.eval args Z none [] Z = some (.ref a)) (h : (Jvm.Cond.eq (Term.field t C n d) Term.null).value args Z none Z [] = some true) : Fld Z Z.heap a C n d .null := by
  refine Fld.start ?_
  cases hf : Z.fieldOf? a C n d with
  | none => simp [Cond.value, Term.eval, ev, hf] at h
  | some v => cases v <;> simp [Cond.value, Term.eval, ev, hf] at h ⊢
theorem own_fref {args : Array Value} {Z : State} {t : Term} {a : Addr} {C n d K : String} (ev : t.eval args Z none [] Z = some (.ref a)) (h : (Jvm.Cond.exactly (Term.field t C n d) K).value args Z none Z [] = some true) : ∃ x, Fld Z Z.heap a C n d (.ref x) := by
  obtain ⟨x, hx⟩ := exa_v h
  exact ⟨x, Fld.start ((fld_at ev).symm.trans hx)⟩
theorem own_length {args : Array Value} {Z : State} {t : Term} {a : Addr} {c : Cell} {ty : FieldType} (ht : t.eval args Z none [] Z = some (.ref a)) (A : Arr Z Z.heap a c ty) (h : (Jvm.Cond.eq (Term.length t) (Term.int (0 : Int32))).value args Z none Z [] = some true) : c.slots.size = (0 : Int32).toNatClampNeg := by
  have ha := A.fin (Vm.Alike.refl _)
  by_cases hl : c.slots.size < 2 ^ 31
  · have e := len_f ht ha hl
    have e2 : (Term.int (0 : Int32)).eval args Z none [] Z = some (.int (0 : Int32)) := rfl
    simp only [Cond.value, e, e2] at h
    have h2 : c.slots.size.toInt32 = (0 : Int32) := by simpa using h
    have q := len_toInt hl
    rw [h2] at q
    have z : (0 : Int32).toInt = 0 := by decide
    have z2 : (0 : Int32).toNatClampNeg = 0 := by decide
    omega
  · simp [Cond.value, Term.eval, ht, ha, hl] at h
theorem own_n4 (y : Int32) : y &&& (3 : Int32) = 0 ∨ y &&& (3 : Int32) = 1 ∨ y &&& (3 : Int32) = 2 ∨ y &&& (3 : Int32) = 3 := by
  have h : (y &&& (3 : Int32)).toBitVec.toNat = y.toBitVec.toNat % 4 := by
    rw [Int32.toBitVec_and, BitVec.toNat_and]
    exact Nat.and_two_pow_sub_one_eq_mod _ 2
  have e : ∀ k : Nat, ∀ z : Int32, z.toBitVec.toNat = k → y.toBitVec.toNat % 4 = k → y &&& (3 : Int32) = z := fun k z hz hk => Int32.toBitVec_inj.mp (BitVec.eq_of_toNat_eq (by rw [h, hk, hz]))
  rcases (by omega : y.toBitVec.toNat % 4 = 0 ∨ y.toBitVec.toNat % 4 = 1 ∨ y.toBitVec.toNat % 4 = 2 ∨ y.toBitVec.toNat % 4 = 3) with q | q | q | q
  · exact Or.inl (e 0 0 (by decide) q)
  · exact Or.inr (Or.inl (e 1 1 (by decide) q))
  · exact Or.inr (Or.inr (Or.inl (e 2 2 (by decide) q)))
  · exact Or.inr (Or.inr (Or.inr (e 3 3 (by decide) q)))
set_option maxRecDepth 65536 in
set_option maxHeartbeats 40000000 in
theorem comes_1 {Post : Tables → Env → Array Value → State → Outcome → State → Prop} (hpost : ∀ tb e args s v u, (limb_1_1.after args s (.returned v) u = true ∧ limb_1_2.after args s (.returned v) u = true ∧ True) → Jvm.D.FramedW s (.returned v) u (Jvm.fieldLocs frame_1_writes args s ++ Jvm.arrayLocs frame_1_arrays args s ++ Jvm.staticLocs frame_1_statics s) 64 1280 → Post tb e args s (.returned v) u) :
    ArmFor flags0 classFile x code maxLocals ret World_1 tables_1 room_1 Calls_1 rest_1 Pre_1 Post := by
  intro l hfl _ _ p e ha hc hk s m args below hf hA hF happ hP
  obtain ⟨hcalls, hrest, hpre⟩ := hP
  obtain ⟨-, -, -, hnamed, -, -, -, hat⟩ := (Spec.applies_iff hf).mp happ
  obtain ⟨hg, hn⟩ := and_e (Cond.before_iff.mp (show (Jvm.Cond.and given_1 narrow_1).before args s = true from hpre))
  obtain ⟨g43, g44⟩ := and_e hg
  obtain ⟨g45, g46⟩ := and_e g44
  obtain ⟨g47, g48⟩ := and_e g46
  obtain ⟨g49, g50⟩ := and_e g48
  obtain ⟨g51, g52⟩ := and_e g50
  obtain ⟨g53, g54⟩ := and_e g52
  obtain ⟨w0, w1, w2, w3, w4, w5, rfl⟩ : ∃ w0 w1 w2 w3 w4 w5 : Value, args = #[w0, w1, w2, w3, w4, w5] := by
    have hs : args.size = 6 := by simpa [Cond.value, given_1] using g43
    obtain ⟨L⟩ := args
    match L, hs with
    | [w0, w1, w2, w3, w4, w5], _ => exact ⟨w0, w1, w2, w3, w4, w5, rfl⟩
  have hw := fun d (hd : d ∈ tables_1) => atoms_spec (ws := Jvm.Cond.code x code maxLocals ret :: tables_1) hat d (List.mem_cons_of_mem _ hd)
  have hfit : Fit s := fun {y c} hc i hi => by
    obtain ⟨ha, rfl⟩ := Array.getElem?_eq_some_iff.mp hc
    have q := List.all_eq_true.mp ((Array.all_eq_true_iff_forall_mem.mp hF) _ (Array.getElem_mem ha)) i (List.mem_range.mpr hi)
    simpa [Array.getElem?_eq_getElem hi] using q
  obtain ⟨hsets, hown0⟩ := atoms_of _ (rest_1_c_eq ▸ (show rest_1_c.before _ s = true from hrest))
  have hr0 := Cond.before_iff.mp hown0
  obtain ⟨i0, ei0⟩ := is_v g45
  obtain rfl : w0 = (.int i0) := Option.some.inj ei0
  obtain ⟨i1, ei1⟩ := is_v g47
  obtain rfl : w1 = (.int i1) := Option.some.inj ei1
  obtain ⟨i2, ei2⟩ := is_v g49
  obtain rfl : w2 = (.int i2) := Option.some.inj ei2
  obtain ⟨i3, ei3⟩ := is_v g51
  obtain rfl : w3 = (.int i3) := Option.some.inj ei3
  obtain ⟨i4, ei4⟩ := is_v g53
  obtain rfl : w4 = (.int i4) := Option.some.inj ei4
  obtain ⟨i5, ei5⟩ := is_v g54
  obtain rfl : w5 = (.int i5) := Option.some.inj ei5
  obtain ⟨wc, ewc⟩ := is_v (Cond.before_iff.mp (hsets _ (List.mem_of_getElem? (i := 17) rfl)))
  have S_CS : Sta s s.heap "java/lang/String" "COMPACT_STRINGS" "Z" (.int wc) := Sta.start ewc (Or.inl (hsets _ (List.mem_of_getElem? (i := 16) rfl)))
  have hcw : Jvm.Lit.compactW.before _ s = true := (hsets _ (List.mem_of_getElem? (i := 18) rfl))
  have hcs : ¬ (wc = (0 : Int32)) := fun h => by
    have q := not_v (Cond.before_iff.mp (show (Jvm.Cond.not (Jvm.Cond.eq (Jvm.Term.static "java/lang/String" "COMPACT_STRINGS" "Z") (Jvm.Term.int (0 : Int32)))).before _ s = true from hcw))
    rw [eq_i ewc (Term.int_eval (0)) (by rw [h])] at q
    cases q
  have hCH0 : CHv s own_EL s.vm s.heap := CHv.start (own_EW hw) (fun p hp => hcalls.2.1 p hp) hcw (wd hw 19 rfl) (wd hw 5 rfl)
  have hmm : Jvm.D.MirrorMade s "[Ljava/lang/Object;" := hcalls.1
  obtain ⟨mc_, mk_, mr, m1, m2, m3, m4⟩ := hmm
  obtain ⟨aD, vD, sD, xD⟩ := own_sta (Cond.before_iff.mp (hsets _ (List.mem_of_getElem? (i := 7) rfl))) (wd hw 28 rfl) (hsets _ (List.mem_of_getElem? (i := 2) rfl))
  obtain ⟨cD, AD⟩ := Arr.start vD (Cond.before_iff.mp (hsets _ (List.mem_of_getElem? (i := 6) rfl)))
  have zD := own_length vD AD (Cond.before_iff.mp (hsets _ (List.mem_of_getElem? (i := 8) rfl)))
  obtain ⟨aL, vL⟩ := exa_v (Cond.before_iff.mp (hsets _ (List.mem_of_getElem? (i := 11) rfl)))
  have sL := Sta.start vL (Or.inl (hsets _ (List.mem_of_getElem? (i := 10) rfl)))
  have xL := Exa.start vL (Cond.before_iff.mp (hsets _ (List.mem_of_getElem? (i := 11) rfl)))
  obtain ⟨ld, vld⟩ := arr_v (Cond.before_iff.mp (hsets _ (List.mem_of_getElem? (i := 12) rfl)))
  have fL : Fld s s.heap aL "java/util/ImmutableCollections$ListN" "elements" "[Ljava/lang/Object;" (.ref ld) := Fld.start ((fld_at vL).symm.trans vld)
  obtain ⟨cL, AL_⟩ := Arr.start vld (Cond.before_iff.mp (hsets _ (List.mem_of_getElem? (i := 12) rfl)))
  have zL := own_length vld AL_ (Cond.before_iff.mp (hsets _ (List.mem_of_getElem? (i := 14) rfl)))
  obtain ⟨aM, vM⟩ := exa_v (Cond.before_iff.mp (hsets _ (List.mem_of_getElem? (i := 27) rfl)))
  have sM := Sta.start vM (Or.inl (hsets _ (List.mem_of_getElem? (i := 26) rfl)))
  have xM := Exa.start vM (Cond.before_iff.mp (hsets _ (List.mem_of_getElem? (i := 27) rfl)))
  obtain ⟨na, nb⟩ := and_e hn
  obtain ⟨aA, vA, sA, xA⟩ := own_sta na (wd hw 57 rfl) (wd hw 58 rfl)
  obtain ⟨aC, vC, sC, xC⟩ := own_sta nb (wd hw 60 rfl) (wd hw 61 rfl)
  have hG : own_G s s.heap wc aD aL aM aA aC mr cD := ⟨S_CS, hcs, sD, AD, zD, sL, ⟨xL, ld, cL, fL, AL_, zL⟩, sM, xM, sA, sC, ⟨mc_, mk_, m1, m2, m3, m4⟩⟩
  rcases own_n4 ((i3.toUInt32 >>> ((24 : Int32) &&& 31).toUInt32).toInt32) with hcase | hcase | hcase | hcase
  · obtain ⟨n, o, h1, h2, h3, _, L, rfl, ⟨rfl, N⟩, hq⟩ := rm0a l s _ hw tables_1 i0 i1 i2 i3 i4 i5 wc aD aL aM aA aC mr cD s.heap s.heap.size (Nat.le_refl _) hG hcase p e ha hc hk s m _ below hf ((Spec.applies_iff_loose hf).mp happ).1 ⟨rfl, State.Warmed39.refl s, rfl, hCH0⟩ trivial
    refine ⟨n, _, h1, h2, h3, hpost _ _ _ _ _ _ ⟨Cond.after_iff.mpr rfl, Cond.after_iff.mpr (eq_i res_at (Term.int_eval (1)) rfl), trivial⟩ ⟨hq.1, hq.2.1, hq.2.2.1, (hq.2.2.2.sift fun y hy => Or.inr (N y hy)).mono (by decide) (by decide)⟩⟩
  · obtain ⟨n, o, h1, h2, h3, _, L, rfl, ⟨rfl, N⟩, hq⟩ := rm0b l s _ hw tables_1 i0 i1 i2 i3 i4 i5 wc aD aL aM aA aC mr cD s.heap s.heap.size (Nat.le_refl _) hG hcase p e ha hc hk s m _ below hf ((Spec.applies_iff_loose hf).mp happ).1 ⟨rfl, State.Warmed39.refl s, rfl, hCH0⟩ trivial
    refine ⟨n, _, h1, h2, h3, hpost _ _ _ _ _ _ ⟨Cond.after_iff.mpr rfl, Cond.after_iff.mpr (eq_i res_at (Term.int_eval (1)) rfl), trivial⟩ ⟨hq.1, hq.2.1, hq.2.2.1, (hq.2.2.2.sift fun y hy => Or.inr (N y hy)).mono (by decide) (by decide)⟩⟩
  · obtain ⟨n, o, h1, h2, h3, _, L, rfl, ⟨rfl, N⟩, hq⟩ := rm0c l s _ hw tables_1 i0 i1 i2 i3 i4 i5 wc aD aL aM aA aC mr cD s.heap s.heap.size (Nat.le_refl _) hG hcase p e ha hc hk s m _ below hf ((Spec.applies_iff_loose hf).mp happ).1 ⟨rfl, State.Warmed39.refl s, rfl, hCH0⟩ trivial
    refine ⟨n, _, h1, h2, h3, hpost _ _ _ _ _ _ ⟨Cond.after_iff.mpr rfl, Cond.after_iff.mpr (eq_i res_at (Term.int_eval (1)) rfl), trivial⟩ ⟨hq.1, hq.2.1, hq.2.2.1, (hq.2.2.2.sift fun y hy => Or.inr (N y hy)).mono (by decide) (by decide)⟩⟩
  · obtain ⟨n, o, h1, h2, h3, _, L, rfl, ⟨rfl, N⟩, hq⟩ := rm0d l s _ hw tables_1 i0 i1 i2 i3 i4 i5 wc aD aL aM aA aC mr cD s.heap s.heap.size (Nat.le_refl _) hG hcase p e ha hc hk s m _ below hf ((Spec.applies_iff_loose hf).mp happ).1 ⟨rfl, State.Warmed39.refl s, rfl, hCH0⟩ trivial
    refine ⟨n, _, h1, h2, h3, hpost _ _ _ _ _ _ ⟨Cond.after_iff.mpr rfl, Cond.after_iff.mpr (eq_i res_at (Term.int_eval (1)) rfl), trivial⟩ ⟨hq.1, hq.2.1, hq.2.2.1, (hq.2.2.2.sift fun y hy => Or.inr (N y hy)).mono (by decide) (by decide)⟩⟩
theorem main_1_1 : Claimed_1_1 := comes_1 fun _ _ _ _ _ _ h hF => ⟨h.1, hF⟩
theorem main_1_2 : Claimed_1_2 := comes_1 fun _ _ _ _ _ _ h hF => ⟨h.2.1, hF⟩
end Jvm.Pilot.@@N@@
namespace Jvm.Pilot.@@N@@
open Jvm Jvm.ClassFile Sem Op Lib Jvm.Free Jvm.Stand Jvm.Pilot.@@N@@.Jvm.D
namespace start1
open Jvm.ClassFile
def u (s : String) : CpInfo := .utf8 (stringToUtf16 s)
/-- a pool by its gaps: so many unusable entries, then the entry; so many at the end -/
def gap : Nat → List CpInfo → List CpInfo
  | 0, r => r
  | n + 1, r => .unusable :: gap n r
def poolList (es : List (Nat × CpInfo)) (last : Nat) : List CpInfo := es.foldr (fun e r => gap e.1 (e.2 :: r)) (gap last [])
def pool (es : List (Nat × CpInfo)) (last : Nat) : Array CpInfo := ⟨poolList es last⟩
def fileOf (pool : Array CpInfo) (this : Nat) (attrs : Array Attribute := #[]) (ms : Array MethodInfo := #[]) (fl : Nat := 33) (sup : Nat := 0) (ifs : Array Nat := #[]) (fds : Array FieldInfo := #[]) : ClassFile where
  minorVersion := 0
  majorVersion := 65
  constantPool := pool
  accessFlags := fl
  thisClass := this
  superClass := sup
  interfaces := ifs
  fields := fds
  methods := ms
  attributes := attrs
def plain (name : String) (sup : Option ClassId) : Class where
  name := name
  kind := .ordinary
  loader := none
  accessFlags := 33
  super := sup
  interfaces := #[]
  cf := none
  fields := #[]
  methods := #[]
  instanceTypes := #[]
  staticTypes := #[]
  resolved := #[]
  callSites := []
  init := .initialized
  statics := none
  mirror := none

def pool0 : Array CpInfo := pool [(5, u "<init>"), (0, u "()V"), (1, .class_ 10), (1, u "java/lang/Object"), (0, u "getClass"), (0, u "()Ljava/lang/Class;")] 111

def k0c0 : Code := { maxStack := 0, maxLocals := 1, code := object_method_1_code, exceptionTable := #[], attributes := #[] }
def k0m0 : Method := { name := "<init>", desc := "()V", sig := { parameters := [], returnType := none }, accessFlags := 1, code := some k0c0 }
def k0m1 : Method := { name := "getClass", desc := "()Ljava/lang/Class;", sig := { parameters := [], returnType := some (.object "java/lang/Class") }, accessFlags := 273, code := none }
def k0 : Class := { plain "java/lang/Object" none with
  accessFlags := 33
  interfaces := #[]
  cf := some (fileOf pool0 8 #[] #[{ accessFlags := 1, nameIndex := 5, descriptorIndex := 6, attributes := #[] }, { accessFlags := 273, nameIndex := 11, descriptorIndex := 12, attributes := #[] }] 33 0 #[] #[])
  fields := #[]
  methods := #[k0m0, k0m1]
  instanceTypes := #[]
  staticTypes := #[]
  resolved := Array.replicate 124 none
  statics := none }

def pool1 : Array CpInfo := pool [(2, .class_ 4), (0, .nameAndType 5 6), (0, u "java/lang/Object"), (0, u "<init>"), (0, u "()V"), (0, .class_ 8), (0, u "java/lang/String"), (0, .methodref 7 10), (0, .nameAndType 5 11), (0, u "([C)V"), (0, .methodref 13 14), (0, .class_ 15), (0, .nameAndType 16 17), (0, u "com/example/tenacious_courier/tenaciouscourier/model/EndpointRegisteredPinLaw"), (0, u "str"), (0, u "(I)Ljava/lang/String;"), (0, .class_ 19), (0, u "java/util/ArrayList"), (0, .methodref 18 3), (0, .interfaceMethodref 22 23), (0, .class_ 24), (0, .nameAndType 25 26), (0, u "java/util/List"), (0, u "add"), (0, u "(Ljava/lang/Object;)Z"), (0, .methodref 28 29), (0, .class_ 30), (0, .nameAndType 31 32), (0, u "com/example/tenacious_courier/tenaciouscourier/model/Endpoint"), (0, u "registered"), (0, u "(Ljava/lang/String;Ljava/lang/String;Ljava/lang/String;Ljava/util/List;)Lcom/example/tenacious_courier/tenaciouscourier/model/Endpoint;"), (0, .methodref 28 34), (0, .nameAndType 35 36), (0, u "eventTypes"), (0, u "()Ljava/util/List;"), (0, .interfaceMethodref 22 38), (0, .nameAndType 39 40), (0, u "size"), (0, u "()I"), (0, .interfaceMethodref 22 42), (0, .nameAndType 43 44), (0, u "get"), (0, u "(I)Ljava/lang/Object;"), (0, .methodref 7 46), (0, .nameAndType 47 26), (0, u "equals"), (0, .methodref 28 49), (0, .nameAndType 50 51), (0, u "id"), (0, u "()Ljava/lang/String;"), (0, .methodref 28 53), (0, .nameAndType 54 51), (0, u "tenant"), (0, .methodref 28 56), (0, .nameAndType 57 51), (0, u "url"), (0, .methodref 28 59), (0, .nameAndType 60 61), (0, u "status"), (0, u "()Lcom/example/tenacious_courier/tenaciouscourier/model/EndpointStatus;"), (0, .fieldref 63 64), (0, .class_ 65), (0, .nameAndType 66 67), (0, u "com/example/tenacious_courier/tenaciouscourier/model/EndpointStatus"), (0, u "ACTIVE"), (0, u "Lcom/example/tenacious_courier/tenaciouscourier/model/EndpointStatus;"), (0, .methodref 28 69), (0, .nameAndType 70 71), (0, u "disabledReason"), (0, u "()Lcom/example/tenacious_courier/tenaciouscourier/model/DisabledReason;"), (0, .methodref 28 73), (0, .nameAndType 74 75), (0, u "disabledAt"), (0, u "()Ljava/time/Instant;"), (0, .methodref 28 77), (0, .nameAndType 78 79), (0, u "breaker"), (0, u "()Lcom/example/tenacious_courier/tenaciouscourier/model/BreakerState;"), (0, .fieldref 81 82), (0, .class_ 83), (0, .nameAndType 84 85), (0, u "com/example/tenacious_courier/tenaciouscourier/model/BreakerState"), (0, u "CLOSED"), (0, u "Lcom/example/tenacious_courier/tenaciouscourier/model/BreakerState;"), (0, .methodref 28 87), (0, .nameAndType 88 40), (0, u "consecutiveFailures"), (3, u "law"), (0, u "(IIIIII)Z")] 2

def k1m0 : Method := { name := "<init>", desc := "()V", sig := { parameters := [], returnType := none }, accessFlags := 1, code := none }
def k1c1 : Code := { maxStack := 6, maxLocals := 4, code := method_2_code, exceptionTable := #[], attributes := #[] }
def k1m1 : Method := { name := "str", desc := "(I)Ljava/lang/String;", sig := { parameters := [.int], returnType := some (.object "java/lang/String") }, accessFlags := 10, code := some k1c1 }
def k1c2 : Code := { maxStack := 4, maxLocals := 17, code := code, exceptionTable := #[], attributes := #[] }
def k1m2 : Method := { name := "law", desc := "(IIIIII)Z", sig := { parameters := [.int, .int, .int, .int, .int, .int], returnType := some .boolean }, accessFlags := 9, code := some k1c2 }
def k1 : Class := { plain "com/example/tenacious_courier/tenaciouscourier/model/EndpointRegisteredPinLaw" (some 0) with
  accessFlags := 49
  interfaces := #[]
  cf := some (fileOf pool1 13 #[] #[{ accessFlags := 1, nameIndex := 5, descriptorIndex := 6, attributes := #[] }, { accessFlags := 10, nameIndex := 16, descriptorIndex := 17, attributes := #[] }, { accessFlags := 9, nameIndex := 92, descriptorIndex := 93, attributes := #[] }] 49 2 #[] #[])
  fields := #[]
  methods := #[k1m0, k1m1, k1m2]
  instanceTypes := #[]
  staticTypes := #[]
  resolved := Array.replicate 96 none
  statics := none }

def pool2 : Array CpInfo := pool [(1, .class_ 2), (0, u "java/io/Serializable"), (0, .class_ 4), (0, u "java/lang/Object")] 2

def k2 : Class := { plain "java/io/Serializable" (some 0) with
  accessFlags := 1537
  interfaces := #[]
  cf := some (fileOf pool2 1 #[] #[] 1537 3 #[] #[])
  fields := #[]
  methods := #[]
  instanceTypes := #[]
  staticTypes := #[]
  resolved := Array.replicate 7 none
  statics := none }

def pool3 : Array CpInfo := pool [(1, .class_ 2), (0, u "java/lang/Comparable"), (0, .class_ 4), (0, u "java/lang/Object")] 7

def k3 : Class := { plain "java/lang/Comparable" (some 0) with
  accessFlags := 1537
  interfaces := #[]
  cf := some (fileOf pool3 1 #[] #[] 1537 3 #[] #[])
  fields := #[]
  methods := #[]
  instanceTypes := #[]
  staticTypes := #[]
  resolved := Array.replicate 12 none
  statics := none }

def pool4 : Array CpInfo := pool [(2, .class_ 4), (1, u "java/lang/CharSequence"), (42, .class_ 48), (0, u "java/lang/CharSequence$1CodePointIterator"), (10, .class_ 60), (0, u "java/lang/CharSequence$1CharIterator"), (5, .class_ 67), (0, u "java/lang/Object")] 63

def k4 : Class := { plain "java/lang/CharSequence" (some 0) with
  accessFlags := 1537
  interfaces := #[]
  cf := some (fileOf pool4 2 #[.nestMembers #[47, 59]] #[] 1537 66 #[] #[])
  fields := #[]
  methods := #[]
  instanceTypes := #[]
  staticTypes := #[]
  resolved := Array.replicate 131 none
  statics := none }

def pool5 : Array CpInfo := pool [(1, .class_ 2), (0, u "java/lang/constant/Constable"), (0, .class_ 4), (0, u "java/lang/Object")] 6

def k5 : Class := { plain "java/lang/constant/Constable" (some 0) with
  accessFlags := 1537
  interfaces := #[]
  cf := some (fileOf pool5 1 #[] #[] 1537 3 #[] #[])
  fields := #[]
  methods := #[]
  instanceTypes := #[]
  staticTypes := #[]
  resolved := Array.replicate 11 none
  statics := none }

def pool6 : Array CpInfo := pool [(1, .class_ 2), (0, u "java/lang/constant/ConstantDesc"), (0, .class_ 4), (0, u "java/lang/Object")] 32

def k6 : Class := { plain "java/lang/constant/ConstantDesc" (some 0) with
  accessFlags := 1537
  interfaces := #[]
  cf := some (fileOf pool6 1 #[] #[] 1537 3 #[] #[])
  fields := #[]
  methods := #[]
  instanceTypes := #[]
  staticTypes := #[]
  resolved := Array.replicate 37 none
  statics := none }

def pool7 : Array CpInfo := pool [(1, .methodref 2 3), (0, .class_ 4), (0, .nameAndType 5 6), (0, u "java/lang/Object"), (0, u "<init>"), (0, u "()V"), (0, .string 8), (0, u ""), (0, .fieldref 10 11), (0, .class_ 12), (0, .nameAndType 13 14), (0, u "java/lang/String"), (0, u "value"), (0, u "[B"), (0, .fieldref 10 16), (0, .nameAndType 17 18), (0, u "coder"), (0, u "B"), (2, u "hash"), (0, u "I"), (2, u "hashIsZero"), (0, u "Z"), (0, .methodref 10 28), (0, .nameAndType 5 29), (0, u "([CIILjava/lang/Void;)V"), (8, .fieldref 10 39), (0, .nameAndType 40 26), (0, u "COMPACT_STRINGS"), (1, .class_ 44), (1, u "java/lang/StringUTF16"), (0, u "compress"), (1, .methodref 42 48), (0, .nameAndType 49 50), (0, u "coderFromArrayLen"), (0, u "([BI)B"), (126, .methodref 42 178), (0, .nameAndType 45 179), (0, u "([CII)[B"), (363, u "equals"), (29, u "(Ljava/lang/Object;)Z"), (1, .class_ 576), (0, u "java/lang/CharSequence"), (22, u "CASE_INSENSITIVE_ORDER"), (0, u "Ljava/util/Comparator;"), (409, u "([C)V"), (90, u "serialPersistentFields"), (0, u "[Ljava/io/ObjectStreamField;"), (0, .class_ 1104), (0, u "java/lang/String$CaseInsensitiveComparator"), (1, .class_ 1107), (0, u "java/io/Serializable"), (0, .class_ 1109), (0, u "java/lang/Comparable"), (0, .class_ 1111), (0, u "java/lang/constant/Constable"), (0, .class_ 1113), (0, u "java/lang/constant/ConstantDesc"), (2, u "serialVersionUID"), (0, u "J"), (3, u "REPL"), (0, u "C"), (2, u "LATIN1"), (1, u "UTF16")] 323

def k7m0 : Method := { name := "<init>", desc := "()V", sig := { parameters := [], returnType := none }, accessFlags := 1, code := none }
def k7c1 : Code := { maxStack := 5, maxLocals := 2, code := jdk_42_method_3_code, exceptionTable := #[], attributes := #[] }
def k7m1 : Method := { name := "<init>", desc := "([C)V", sig := { parameters := [(.array .char)], returnType := none }, accessFlags := 1, code := some k7c1 }
def k7c2 : Code := { maxStack := 2, maxLocals := 3, code := jdk_42_method_66_code, exceptionTable := #[], attributes := #[] }
def k7m2 : Method := { name := "equals", desc := "(Ljava/lang/Object;)Z", sig := { parameters := [(.object "java/lang/Object")], returnType := some .boolean }, accessFlags := 1, code := some k7c2 }
def k7c3 : Code := { maxStack := 4, maxLocals := 6, code := jdk_42_method_149_code, exceptionTable := #[], attributes := #[] }
def k7m3 : Method := { name := "<init>", desc := "([CIILjava/lang/Void;)V", sig := { parameters := [(.array .char), .int, .int, (.object "java/lang/Void")], returnType := none }, accessFlags := 2, code := some k7c3 }
def k7 : Class := { plain "java/lang/String" (some 0) with
  accessFlags := 49
  interfaces := #[2, 3, 4, 5, 6]
  cf := some (fileOf pool7 10 #[.nestMembers #[1103]] #[{ accessFlags := 1, nameIndex := 5, descriptorIndex := 6, attributes := #[] }, { accessFlags := 1, nameIndex := 5, descriptorIndex := 1010, attributes := #[] }, { accessFlags := 1, nameIndex := 543, descriptorIndex := 573, attributes := #[] }, { accessFlags := 2, nameIndex := 5, descriptorIndex := 29, attributes := #[] }] 49 2 #[1106, 1108, 575, 1110, 1112] #[{ accessFlags := 18, nameIndex := 13, descriptorIndex := 14, attributes := #[] }, { accessFlags := 18, nameIndex := 17, descriptorIndex := 18, attributes := #[] }, { accessFlags := 2, nameIndex := 21, descriptorIndex := 22, attributes := #[] }, { accessFlags := 2, nameIndex := 25, descriptorIndex := 26, attributes := #[] }, { accessFlags := 26, nameIndex := 1116, descriptorIndex := 1117, attributes := #[] }, { accessFlags := 24, nameIndex := 40, descriptorIndex := 26, attributes := #[] }, { accessFlags := 26, nameIndex := 1101, descriptorIndex := 1102, attributes := #[] }, { accessFlags := 26, nameIndex := 1121, descriptorIndex := 1122, attributes := #[] }, { accessFlags := 25, nameIndex := 599, descriptorIndex := 600, attributes := #[] }, { accessFlags := 24, nameIndex := 1125, descriptorIndex := 18, attributes := #[] }, { accessFlags := 24, nameIndex := 1127, descriptorIndex := 18, attributes := #[] }])
  fields := #[{ name := "value", type := (.array .byte), accessFlags := 18, slot := 0, constantValue := 0 }, { name := "coder", type := .byte, accessFlags := 18, slot := 1, constantValue := 0 }, { name := "hash", type := .int, accessFlags := 2, slot := 2, constantValue := 0 }, { name := "hashIsZero", type := .boolean, accessFlags := 2, slot := 3, constantValue := 0 }, { name := "serialVersionUID", type := .long, accessFlags := 26, slot := 0, constantValue := 0 }, { name := "COMPACT_STRINGS", type := .boolean, accessFlags := 24, slot := 1, constantValue := 0 }, { name := "serialPersistentFields", type := (.array (.object "java/io/ObjectStreamField")), accessFlags := 26, slot := 2, constantValue := 0 }, { name := "REPL", type := .char, accessFlags := 26, slot := 3, constantValue := 0 }, { name := "CASE_INSENSITIVE_ORDER", type := (.object "java/util/Comparator"), accessFlags := 25, slot := 4, constantValue := 0 }, { name := "LATIN1", type := .byte, accessFlags := 24, slot := 5, constantValue := 0 }, { name := "UTF16", type := .byte, accessFlags := 24, slot := 6, constantValue := 0 }]
  methods := #[k7m0, k7m1, k7m2, k7m3]
  instanceTypes := #[(.array .byte), .byte, .int, .boolean]
  staticTypes := #[.long, .boolean, (.array (.object "java/io/ObjectStreamField")), .char, (.object "java/util/Comparator"), .byte, .byte]
  resolved := Array.replicate 1451 none
  statics := some 0 }

def pool8 : Array CpInfo := pool [(8, .class_ 10), (1, u "java/lang/Iterable"), (24, .class_ 36), (0, u "java/lang/Object")] 25

def k8 : Class := { plain "java/lang/Iterable" (some 0) with
  accessFlags := 1537
  interfaces := #[]
  cf := some (fileOf pool8 8 #[] #[] 1537 35 #[] #[])
  fields := #[]
  methods := #[]
  instanceTypes := #[]
  staticTypes := #[]
  resolved := Array.replicate 62 none
  statics := none }

def pool9 : Array CpInfo := pool [(10, .class_ 12), (1, u "java/util/Collection"), (0, u "toArray"), (16, u "()Z"), (29, .class_ 61), (0, u "java/lang/Object"), (0, .class_ 63), (0, u "java/lang/Iterable"), (2, u "isEmpty"), (3, u "()[Ljava/lang/Object;")] 44

def k9m0 : Method := { name := "isEmpty", desc := "()Z", sig := { parameters := [], returnType := some .boolean }, accessFlags := 1025, code := none }
def k9m1 : Method := { name := "toArray", desc := "()[Ljava/lang/Object;", sig := { parameters := [], returnType := some (.array (.object "java/lang/Object")) }, accessFlags := 1025, code := none }
def k9 : Class := { plain "java/util/Collection" (some 0) with
  accessFlags := 1537
  interfaces := #[8]
  cf := some (fileOf pool9 10 #[] #[{ accessFlags := 1025, nameIndex := 66, descriptorIndex := 30, attributes := #[] }, { accessFlags := 1025, nameIndex := 13, descriptorIndex := 70, attributes := #[] }] 1537 60 #[62] #[])
  fields := #[]
  methods := #[k9m0, k9m1]
  instanceTypes := #[]
  staticTypes := #[]
  resolved := Array.replicate 115 none
  statics := none }

def pool10 : Array CpInfo := pool [(1, .methodref 2 3), (0, .class_ 4), (0, .nameAndType 5 6), (0, u "java/lang/Object"), (0, u "<init>"), (0, u "()V"), (1, .class_ 10), (1, u "java/util/AbstractCollection"), (66, .class_ 78), (0, u "java/util/Collection")] 81

def k10c0 : Code := { maxStack := 1, maxLocals := 1, code := jdk_22_method_1_code, exceptionTable := #[], attributes := #[] }
def k10m0 : Method := { name := "<init>", desc := "()V", sig := { parameters := [], returnType := none }, accessFlags := 4, code := some k10c0 }
def k10 : Class := { plain "java/util/AbstractCollection" (some 0) with
  accessFlags := 1057
  interfaces := #[9]
  cf := some (fileOf pool10 8 #[] #[{ accessFlags := 4, nameIndex := 5, descriptorIndex := 6, attributes := #[] }] 1057 2 #[77] #[])
  fields := #[]
  methods := #[k10m0]
  instanceTypes := #[]
  staticTypes := #[]
  resolved := Array.replicate 160 none
  statics := none }

def pool11 : Array CpInfo := pool [(8, .class_ 10), (1, u "java/util/SequencedCollection"), (15, .class_ 27), (0, u "java/lang/Object"), (0, .class_ 29), (0, u "java/util/Collection")] 27

def k11 : Class := { plain "java/util/SequencedCollection" (some 0) with
  accessFlags := 1537
  interfaces := #[9]
  cf := some (fileOf pool11 8 #[] #[] 1537 26 #[28] #[])
  fields := #[]
  methods := #[]
  instanceTypes := #[]
  staticTypes := #[]
  resolved := Array.replicate 57 none
  statics := none }

def pool12 : Array CpInfo := pool [(8, .class_ 10), (1, u "java/util/List"), (20, u "(Ljava/lang/Object;)V"), (16, u "<init>"), (11, u "add"), (3, u "(Ljava/lang/Object;)Z"), (10, u "get"), (0, u "(I)Ljava/lang/Object;"), (2, u "size"), (0, u "()I"), (7, u "of"), (1, .fieldref 91 92), (0, .class_ 93), (0, .nameAndType 94 95), (0, u "java/util/ImmutableCollections"), (0, u "EMPTY_LIST"), (0, u "Ljava/util/ImmutableCollections$ListN;"), (0, .class_ 97), (0, u "java/util/ImmutableCollections$List12"), (0, .methodref 96 99), (0, .nameAndType 48 31), (0, .methodref 96 101), (0, .nameAndType 48 102), (0, u "(Ljava/lang/Object;Ljava/lang/Object;)V"), (0, .class_ 104), (0, u "java/lang/Object"), (3, u "([Ljava/lang/Object;)Ljava/util/List;"), (0, .methodref 91 110), (0, .nameAndType 111 108), (0, u "listFromArray"), (0, .methodref 91 113), (0, .nameAndType 114 115), (0, u "listCopy"), (0, u "(Ljava/util/Collection;)Ljava/util/List;"), (3, u "()Ljava/util/List;"), (0, .class_ 121), (0, u "java/util/SequencedCollection"), (112, u "copyOf")] 16

def k12m0 : Method := { name := "size", desc := "()I", sig := { parameters := [], returnType := some .int }, accessFlags := 1025, code := none }
def k12m1 : Method := { name := "add", desc := "(Ljava/lang/Object;)Z", sig := { parameters := [(.object "java/lang/Object")], returnType := some .boolean }, accessFlags := 1025, code := none }
def k12m2 : Method := { name := "get", desc := "(I)Ljava/lang/Object;", sig := { parameters := [.int], returnType := some (.object "java/lang/Object") }, accessFlags := 1025, code := none }
def k12c3 : Code := { maxStack := 1, maxLocals := 0, code := jdk_40_method_36_code, exceptionTable := #[], attributes := #[] }
def k12m3 : Method := { name := "of", desc := "()Ljava/util/List;", sig := { parameters := [], returnType := some (.object "java/util/List") }, accessFlags := 9, code := some k12c3 }
def k12c4 : Code := { maxStack := 5, maxLocals := 2, code := jdk_40_method_47_code, exceptionTable := #[], attributes := #[] }
def k12m4 : Method := { name := "of", desc := "([Ljava/lang/Object;)Ljava/util/List;", sig := { parameters := [(.array (.object "java/lang/Object"))], returnType := some (.object "java/util/List") }, accessFlags := 137, code := some k12c4 }
def k12c5 : Code := { maxStack := 1, maxLocals := 1, code := jdk_40_method_48_code, exceptionTable := #[], attributes := #[] }
def k12m5 : Method := { name := "copyOf", desc := "(Ljava/util/Collection;)Ljava/util/List;", sig := { parameters := [(.object "java/util/Collection")], returnType := some (.object "java/util/List") }, accessFlags := 9, code := some k12c5 }
def k12 : Class := { plain "java/util/List" (some 0) with
  accessFlags := 1537
  interfaces := #[11]
  cf := some (fileOf pool12 8 #[] #[{ accessFlags := 1025, nameIndex := 79, descriptorIndex := 80, attributes := #[] }, { accessFlags := 1025, nameIndex := 60, descriptorIndex := 64, attributes := #[] }, { accessFlags := 1025, nameIndex := 75, descriptorIndex := 76, attributes := #[] }, { accessFlags := 9, nameIndex := 88, descriptorIndex := 119, attributes := #[] }, { accessFlags := 137, nameIndex := 88, descriptorIndex := 108, attributes := #[] }, { accessFlags := 9, nameIndex := 234, descriptorIndex := 115, attributes := #[] }] 1537 103 #[120] #[])
  fields := #[]
  methods := #[k12m0, k12m1, k12m2, k12m3, k12m4, k12m5]
  instanceTypes := #[]
  staticTypes := #[]
  resolved := Array.replicate 251 none
  statics := none }

def pool13 : Array CpInfo := pool [(1, .methodref 2 3), (0, .class_ 4), (0, .nameAndType 5 6), (0, u "java/util/AbstractCollection"), (0, u "<init>"), (0, u "()V"), (0, .fieldref 8 9), (0, .class_ 10), (0, .nameAndType 11 12), (0, u "java/util/AbstractList"), (0, u "modCount"), (0, u "I"), (64, .class_ 78), (0, u "java/util/AbstractList$Itr"), (3, .class_ 83), (0, u "java/util/AbstractList$ListItr"), (9, .class_ 94), (0, u "java/util/AbstractList$RandomAccessSubList"), (3, .class_ 99), (0, u "java/util/AbstractList$SubList"), (33, .class_ 134), (0, u "java/util/List"), (73, .class_ 209), (0, u "java/util/AbstractList$SubList$1"), (0, .class_ 211), (0, u "java/util/AbstractList$RandomAccessSpliterator")] 6

def k13c0 : Code := { maxStack := 2, maxLocals := 1, code := jdk_39_method_1_code, exceptionTable := #[], attributes := #[] }
def k13m0 : Method := { name := "<init>", desc := "()V", sig := { parameters := [], returnType := none }, accessFlags := 4, code := some k13c0 }
def k13 : Class := { plain "java/util/AbstractList" (some 10) with
  accessFlags := 1057
  interfaces := #[12]
  cf := some (fileOf pool13 8 #[.nestMembers #[93, 98, 208, 210, 82, 77]] #[{ accessFlags := 4, nameIndex := 5, descriptorIndex := 6, attributes := #[] }] 1057 2 #[133] #[{ accessFlags := 132, nameIndex := 11, descriptorIndex := 12, attributes := #[] }])
  fields := #[{ name := "modCount", type := .int, accessFlags := 132, slot := 0, constantValue := 0 }]
  methods := #[k13m0]
  instanceTypes := #[.int]
  staticTypes := #[]
  resolved := Array.replicate 218 none
  statics := none }

def pool14 : Array CpInfo := pool [(1, .class_ 2), (0, u "java/util/RandomAccess"), (0, .class_ 4), (0, u "java/lang/Object")] 2

def k14 : Class := { plain "java/util/RandomAccess" (some 0) with
  accessFlags := 1537
  interfaces := #[]
  cf := some (fileOf pool14 1 #[] #[] 1537 3 #[] #[])
  fields := #[]
  methods := #[]
  instanceTypes := #[]
  staticTypes := #[]
  resolved := Array.replicate 7 none
  statics := none }

def pool15 : Array CpInfo := pool [(1, .class_ 2), (0, u "java/lang/Cloneable"), (0, .class_ 4), (0, u "java/lang/Object")] 2

def k15 : Class := { plain "java/lang/Cloneable" (some 0) with
  accessFlags := 1537
  interfaces := #[]
  cf := some (fileOf pool15 1 #[] #[] 1537 3 #[] #[])
  fields := #[]
  methods := #[]
  instanceTypes := #[]
  staticTypes := #[]
  resolved := Array.replicate 7 none
  statics := none }

def pool16 : Array CpInfo := pool [(1, .methodref 2 3), (0, .class_ 4), (0, .nameAndType 5 6), (0, u "java/util/AbstractList"), (0, u "<init>"), (0, u "()V"), (0, .class_ 8), (0, u "java/lang/Object"), (0, .fieldref 10 11), (0, .class_ 12), (0, .nameAndType 13 14), (0, u "java/util/ArrayList"), (0, u "elementData"), (0, u "[Ljava/lang/Object;"), (2, u "EMPTY_ELEMENTDATA"), (21, .fieldref 10 40), (0, .nameAndType 41 14), (0, u "DEFAULTCAPACITY_EMPTY_ELEMENTDATA"), (4, u "toArray"), (0, u "()[Ljava/lang/Object;"), (0, .fieldref 10 49), (0, .nameAndType 50 51), (0, u "size"), (0, u "I"), (6, .class_ 60), (1, u "java/util/Arrays"), (0, u "copyOf"), (1, .fieldref 10 64), (0, .nameAndType 65 51), (0, u "modCount"), (0, .methodref 58 67), (0, .nameAndType 61 68), (0, u "([Ljava/lang/Object;I)[Ljava/lang/Object;"), (0, .methodref 10 70), (0, .nameAndType 71 72), (0, u "grow"), (0, u "(I)[Ljava/lang/Object;"), (6, .methodref 80 81), (0, .class_ 82), (0, .nameAndType 83 84), (0, u "java/lang/Math"), (0, u "max"), (0, u "(II)I"), (11, u "(Ljava/lang/Object;)Z"), (32, .methodref 10 130), (0, .nameAndType 71 47), (0, .methodref 10 132), (0, .nameAndType 133 134), (0, u "add"), (0, u "(Ljava/lang/Object;[Ljava/lang/Object;I)V"), (13, .class_ 149), (0, u "java/util/List"), (23, u "()Z"), (88, .class_ 263), (0, u "java/util/ArrayList$ListItr"), (3, .class_ 268), (0, u "java/util/ArrayList$Itr"), (7, .class_ 277), (0, u "java/util/ArrayList$SubList"), (12, .class_ 291), (0, u "java/util/ArrayList$ArrayListSpliterator"), (37, .class_ 330), (0, u "java/util/RandomAccess"), (0, .class_ 332), (0, u "java/lang/Cloneable"), (0, .class_ 334), (0, u "java/io/Serializable"), (0, u "serialVersionUID"), (0, u "J"), (3, u "DEFAULT_CAPACITY"), (22, u "isEmpty"), (136, .class_ 501), (0, u "java/util/ArrayList$SubList$2"), (0, .class_ 503), (0, u "java/util/ArrayList$SubList$1")] 5

def k16c0 : Code := { maxStack := 2, maxLocals := 1, code := jdk_38_method_2_code, exceptionTable := #[], attributes := #[] }
def k16m0 : Method := { name := "<init>", desc := "()V", sig := { parameters := [], returnType := none }, accessFlags := 1, code := some k16c0 }
def k16c1 : Code := { maxStack := 4, maxLocals := 4, code := jdk_38_method_6_code, exceptionTable := #[], attributes := #[] }
def k16m1 : Method := { name := "grow", desc := "(I)[Ljava/lang/Object;", sig := { parameters := [.int], returnType := some (.array (.object "java/lang/Object")) }, accessFlags := 2, code := some k16c1 }
def k16c2 : Code := { maxStack := 3, maxLocals := 1, code := jdk_38_method_7_code, exceptionTable := #[], attributes := #[] }
def k16m2 : Method := { name := "grow", desc := "()[Ljava/lang/Object;", sig := { parameters := [], returnType := some (.array (.object "java/lang/Object")) }, accessFlags := 2, code := some k16c2 }
def k16c3 : Code := { maxStack := 1, maxLocals := 1, code := jdk_38_method_9_code, exceptionTable := #[], attributes := #[] }
def k16m3 : Method := { name := "isEmpty", desc := "()Z", sig := { parameters := [], returnType := some .boolean }, accessFlags := 1, code := some k16c3 }
def k16c4 : Code := { maxStack := 2, maxLocals := 1, code := jdk_38_method_16_code, exceptionTable := #[], attributes := #[] }
def k16m4 : Method := { name := "toArray", desc := "()[Ljava/lang/Object;", sig := { parameters := [], returnType := some (.array (.object "java/lang/Object")) }, accessFlags := 1, code := some k16c4 }
def k16c5 : Code := { maxStack := 3, maxLocals := 4, code := jdk_38_method_24_code, exceptionTable := #[], attributes := #[] }
def k16m5 : Method := { name := "add", desc := "(Ljava/lang/Object;[Ljava/lang/Object;I)V", sig := { parameters := [(.object "java/lang/Object"), (.array (.object "java/lang/Object")), .int], returnType := none }, accessFlags := 2, code := some k16c5 }
def k16c6 : Code := { maxStack := 4, maxLocals := 2, code := jdk_38_method_25_code, exceptionTable := #[], attributes := #[] }
def k16m6 : Method := { name := "add", desc := "(Ljava/lang/Object;)Z", sig := { parameters := [(.object "java/lang/Object")], returnType := some .boolean }, accessFlags := 1, code := some k16c6 }
def k16 : Class := { plain "java/util/ArrayList" (some 13) with
  accessFlags := 33
  interfaces := #[12, 14, 15, 2]
  cf := some (fileOf pool16 10 #[.nestMembers #[290, 276, 500, 502, 262, 267]] #[{ accessFlags := 1, nameIndex := 5, descriptorIndex := 6, attributes := #[] }, { accessFlags := 2, nameIndex := 71, descriptorIndex := 72, attributes := #[] }, { accessFlags := 2, nameIndex := 71, descriptorIndex := 47, attributes := #[] }, { accessFlags := 1, nameIndex := 363, descriptorIndex := 173, attributes := #[] }, { accessFlags := 1, nameIndex := 46, descriptorIndex := 47, attributes := #[] }, { accessFlags := 2, nameIndex := 133, descriptorIndex := 134, attributes := #[] }, { accessFlags := 1, nameIndex := 133, descriptorIndex := 96, attributes := #[] }] 33 2 #[148, 329, 331, 333] #[{ accessFlags := 26, nameIndex := 335, descriptorIndex := 336, attributes := #[] }, { accessFlags := 26, nameIndex := 340, descriptorIndex := 51, attributes := #[] }, { accessFlags := 26, nameIndex := 17, descriptorIndex := 14, attributes := #[] }, { accessFlags := 26, nameIndex := 41, descriptorIndex := 14, attributes := #[] }, { accessFlags := 128, nameIndex := 13, descriptorIndex := 14, attributes := #[] }, { accessFlags := 2, nameIndex := 50, descriptorIndex := 51, attributes := #[] }])
  fields := #[{ name := "serialVersionUID", type := .long, accessFlags := 26, slot := 0, constantValue := 0 }, { name := "DEFAULT_CAPACITY", type := .int, accessFlags := 26, slot := 1, constantValue := 0 }, { name := "EMPTY_ELEMENTDATA", type := (.array (.object "java/lang/Object")), accessFlags := 26, slot := 2, constantValue := 0 }, { name := "DEFAULTCAPACITY_EMPTY_ELEMENTDATA", type := (.array (.object "java/lang/Object")), accessFlags := 26, slot := 3, constantValue := 0 }, { name := "elementData", type := (.array (.object "java/lang/Object")), accessFlags := 128, slot := 1, constantValue := 0 }, { name := "size", type := .int, accessFlags := 2, slot := 2, constantValue := 0 }]
  methods := #[k16m0, k16m1, k16m2, k16m3, k16m4, k16m5, k16m6]
  instanceTypes := #[.int, (.array (.object "java/lang/Object")), .int]
  staticTypes := #[.long, .int, (.array (.object "java/lang/Object")), (.array (.object "java/lang/Object"))]
  resolved := Array.replicate 509 none
  statics := some 1 }

def pool17 : Array CpInfo := pool [(1, .methodref 2 3), (0, .class_ 4), (0, .nameAndType 5 6), (0, u "java/lang/Object"), (0, u "<init>"), (0, u "()V"), (0, .fieldref 8 9), (0, .class_ 10), (0, .nameAndType 11 12), (0, u "com/example/tenacious_courier/tenaciouscourier/model/Endpoint"), (0, u "id"), (0, u "Ljava/lang/String;"), (0, .fieldref 8 14), (0, .nameAndType 15 12), (0, u "tenant"), (0, .fieldref 8 17), (0, .nameAndType 18 12), (0, u "url"), (0, .interfaceMethodref 20 21), (0, .class_ 22), (0, .nameAndType 23 24), (0, u "java/util/List"), (0, u "copyOf"), (0, u "(Ljava/util/Collection;)Ljava/util/List;"), (0, .fieldref 8 26), (0, .nameAndType 27 28), (0, u "eventTypes"), (0, u "Ljava/util/List;"), (0, .fieldref 8 30), (0, .nameAndType 31 32), (0, u "status"), (0, u "Lcom/example/tenacious_courier/tenaciouscourier/model/EndpointStatus;"), (0, .fieldref 8 34), (0, .nameAndType 35 36), (0, u "disabledReason"), (0, u "Lcom/example/tenacious_courier/tenaciouscourier/model/DisabledReason;"), (0, .fieldref 8 38), (0, .nameAndType 39 40), (0, u "disabledAt"), (0, u "Ljava/time/Instant;"), (0, .fieldref 8 42), (0, .nameAndType 43 44), (0, u "breaker"), (0, u "Lcom/example/tenacious_courier/tenaciouscourier/model/BreakerState;"), (0, .fieldref 8 46), (0, .nameAndType 47 48), (0, u "consecutiveFailures"), (0, u "I"), (0, .fieldref 50 51), (0, .class_ 52), (0, .nameAndType 53 32), (0, u "com/example/tenacious_courier/tenaciouscourier/model/EndpointStatus"), (0, u "ACTIVE"), (0, .fieldref 55 56), (0, .class_ 57), (0, .nameAndType 58 44), (0, u "com/example/tenacious_courier/tenaciouscourier/model/BreakerState"), (0, u "CLOSED"), (0, .methodref 8 60), (0, .nameAndType 5 61), (0, u "(Ljava/lang/String;Ljava/lang/String;Ljava/lang/String;Ljava/util/List;Lcom/example/tenacious_courier/tenaciouscourier/model/EndpointStatus;Lcom/example/tenacious_courier/tenaciouscourier/model/DisabledReason;Ljava/time/Instant;Lcom/example/tenacious_courier/tenaciouscourier/model/BreakerState;I)V"), (5, u "registered"), (0, u "(Ljava/lang/String;Ljava/lang/String;Ljava/lang/String;Ljava/util/List;)Lcom/example/tenacious_courier/tenaciouscourier/model/Endpoint;"), (1, u "()Ljava/lang/String;"), (0, u "()Ljava/util/List;"), (1, u "()Lcom/example/tenacious_courier/tenaciouscourier/model/EndpointStatus;"), (0, u "()Lcom/example/tenacious_courier/tenaciouscourier/model/DisabledReason;"), (0, u "()Ljava/time/Instant;"), (0, u "()Lcom/example/tenacious_courier/tenaciouscourier/model/BreakerState;"), (0, u "()I")] 2

def k17c0 : Code := { maxStack := 2, maxLocals := 10, code := prog_18_method_1_code, exceptionTable := #[], attributes := #[] }
def k17m0 : Method := { name := "<init>", desc := "(Ljava/lang/String;Ljava/lang/String;Ljava/lang/String;Ljava/util/List;Lcom/example/tenacious_courier/tenaciouscourier/model/EndpointStatus;Lcom/example/tenacious_courier/tenaciouscourier/model/DisabledReason;Ljava/time/Instant;Lcom/example/tenacious_courier/tenaciouscourier/model/BreakerState;I)V", sig := { parameters := [(.object "java/lang/String"), (.object "java/lang/String"), (.object "java/lang/String"), (.object "java/util/List"), (.object "com/example/tenacious_courier/tenaciouscourier/model/EndpointStatus"), (.object "com/example/tenacious_courier/tenaciouscourier/model/DisabledReason"), (.object "java/time/Instant"), (.object "com/example/tenacious_courier/tenaciouscourier/model/BreakerState"), .int], returnType := none }, accessFlags := 1, code := some k17c0 }
def k17c1 : Code := { maxStack := 11, maxLocals := 4, code := prog_18_method_2_code, exceptionTable := #[], attributes := #[] }
def k17m1 : Method := { name := "registered", desc := "(Ljava/lang/String;Ljava/lang/String;Ljava/lang/String;Ljava/util/List;)Lcom/example/tenacious_courier/tenaciouscourier/model/Endpoint;", sig := { parameters := [(.object "java/lang/String"), (.object "java/lang/String"), (.object "java/lang/String"), (.object "java/util/List")], returnType := some (.object "com/example/tenacious_courier/tenaciouscourier/model/Endpoint") }, accessFlags := 9, code := some k17c1 }
def k17c2 : Code := { maxStack := 1, maxLocals := 1, code := prog_18_method_3_code, exceptionTable := #[], attributes := #[] }
def k17m2 : Method := { name := "id", desc := "()Ljava/lang/String;", sig := { parameters := [], returnType := some (.object "java/lang/String") }, accessFlags := 1, code := some k17c2 }
def k17c3 : Code := { maxStack := 1, maxLocals := 1, code := prog_18_method_4_code, exceptionTable := #[], attributes := #[] }
def k17m3 : Method := { name := "tenant", desc := "()Ljava/lang/String;", sig := { parameters := [], returnType := some (.object "java/lang/String") }, accessFlags := 1, code := some k17c3 }
def k17c4 : Code := { maxStack := 1, maxLocals := 1, code := prog_18_method_5_code, exceptionTable := #[], attributes := #[] }
def k17m4 : Method := { name := "url", desc := "()Ljava/lang/String;", sig := { parameters := [], returnType := some (.object "java/lang/String") }, accessFlags := 1, code := some k17c4 }
def k17c5 : Code := { maxStack := 1, maxLocals := 1, code := prog_18_method_6_code, exceptionTable := #[], attributes := #[] }
def k17m5 : Method := { name := "eventTypes", desc := "()Ljava/util/List;", sig := { parameters := [], returnType := some (.object "java/util/List") }, accessFlags := 1, code := some k17c5 }
def k17c6 : Code := { maxStack := 1, maxLocals := 1, code := prog_18_method_7_code, exceptionTable := #[], attributes := #[] }
def k17m6 : Method := { name := "status", desc := "()Lcom/example/tenacious_courier/tenaciouscourier/model/EndpointStatus;", sig := { parameters := [], returnType := some (.object "com/example/tenacious_courier/tenaciouscourier/model/EndpointStatus") }, accessFlags := 1, code := some k17c6 }
def k17c7 : Code := { maxStack := 1, maxLocals := 1, code := prog_18_method_8_code, exceptionTable := #[], attributes := #[] }
def k17m7 : Method := { name := "disabledReason", desc := "()Lcom/example/tenacious_courier/tenaciouscourier/model/DisabledReason;", sig := { parameters := [], returnType := some (.object "com/example/tenacious_courier/tenaciouscourier/model/DisabledReason") }, accessFlags := 1, code := some k17c7 }
def k17c8 : Code := { maxStack := 1, maxLocals := 1, code := prog_18_method_9_code, exceptionTable := #[], attributes := #[] }
def k17m8 : Method := { name := "disabledAt", desc := "()Ljava/time/Instant;", sig := { parameters := [], returnType := some (.object "java/time/Instant") }, accessFlags := 1, code := some k17c8 }
def k17c9 : Code := { maxStack := 1, maxLocals := 1, code := prog_18_method_10_code, exceptionTable := #[], attributes := #[] }
def k17m9 : Method := { name := "breaker", desc := "()Lcom/example/tenacious_courier/tenaciouscourier/model/BreakerState;", sig := { parameters := [], returnType := some (.object "com/example/tenacious_courier/tenaciouscourier/model/BreakerState") }, accessFlags := 1, code := some k17c9 }
def k17c10 : Code := { maxStack := 1, maxLocals := 1, code := prog_18_method_11_code, exceptionTable := #[], attributes := #[] }
def k17m10 : Method := { name := "consecutiveFailures", desc := "()I", sig := { parameters := [], returnType := some .int }, accessFlags := 1, code := some k17c10 }
def k17 : Class := { plain "com/example/tenacious_courier/tenaciouscourier/model/Endpoint" (some 0) with
  accessFlags := 49
  interfaces := #[]
  cf := some (fileOf pool17 8 #[] #[{ accessFlags := 1, nameIndex := 5, descriptorIndex := 61, attributes := #[] }, { accessFlags := 9, nameIndex := 67, descriptorIndex := 68, attributes := #[] }, { accessFlags := 1, nameIndex := 11, descriptorIndex := 70, attributes := #[] }, { accessFlags := 1, nameIndex := 15, descriptorIndex := 70, attributes := #[] }, { accessFlags := 1, nameIndex := 18, descriptorIndex := 70, attributes := #[] }, { accessFlags := 1, nameIndex := 27, descriptorIndex := 71, attributes := #[] }, { accessFlags := 1, nameIndex := 31, descriptorIndex := 73, attributes := #[] }, { accessFlags := 1, nameIndex := 35, descriptorIndex := 74, attributes := #[] }, { accessFlags := 1, nameIndex := 39, descriptorIndex := 75, attributes := #[] }, { accessFlags := 1, nameIndex := 43, descriptorIndex := 76, attributes := #[] }, { accessFlags := 1, nameIndex := 47, descriptorIndex := 77, attributes := #[] }] 49 2 #[] #[{ accessFlags := 18, nameIndex := 11, descriptorIndex := 12, attributes := #[] }, { accessFlags := 18, nameIndex := 15, descriptorIndex := 12, attributes := #[] }, { accessFlags := 18, nameIndex := 18, descriptorIndex := 12, attributes := #[] }, { accessFlags := 18, nameIndex := 27, descriptorIndex := 28, attributes := #[] }, { accessFlags := 18, nameIndex := 31, descriptorIndex := 32, attributes := #[] }, { accessFlags := 18, nameIndex := 35, descriptorIndex := 36, attributes := #[] }, { accessFlags := 18, nameIndex := 39, descriptorIndex := 40, attributes := #[] }, { accessFlags := 18, nameIndex := 43, descriptorIndex := 44, attributes := #[] }, { accessFlags := 18, nameIndex := 47, descriptorIndex := 48, attributes := #[] }])
  fields := #[{ name := "id", type := (.object "java/lang/String"), accessFlags := 18, slot := 0, constantValue := 0 }, { name := "tenant", type := (.object "java/lang/String"), accessFlags := 18, slot := 1, constantValue := 0 }, { name := "url", type := (.object "java/lang/String"), accessFlags := 18, slot := 2, constantValue := 0 }, { name := "eventTypes", type := (.object "java/util/List"), accessFlags := 18, slot := 3, constantValue := 0 }, { name := "status", type := (.object "com/example/tenacious_courier/tenaciouscourier/model/EndpointStatus"), accessFlags := 18, slot := 4, constantValue := 0 }, { name := "disabledReason", type := (.object "com/example/tenacious_courier/tenaciouscourier/model/DisabledReason"), accessFlags := 18, slot := 5, constantValue := 0 }, { name := "disabledAt", type := (.object "java/time/Instant"), accessFlags := 18, slot := 6, constantValue := 0 }, { name := "breaker", type := (.object "com/example/tenacious_courier/tenaciouscourier/model/BreakerState"), accessFlags := 18, slot := 7, constantValue := 0 }, { name := "consecutiveFailures", type := .int, accessFlags := 18, slot := 8, constantValue := 0 }]
  methods := #[k17m0, k17m1, k17m2, k17m3, k17m4, k17m5, k17m6, k17m7, k17m8, k17m9, k17m10]
  instanceTypes := #[(.object "java/lang/String"), (.object "java/lang/String"), (.object "java/lang/String"), (.object "java/util/List"), (.object "com/example/tenacious_courier/tenaciouscourier/model/EndpointStatus"), (.object "com/example/tenacious_courier/tenaciouscourier/model/DisabledReason"), (.object "java/time/Instant"), (.object "com/example/tenacious_courier/tenaciouscourier/model/BreakerState"), .int]
  staticTypes := #[]
  resolved := Array.replicate 80 none
  statics := none }

def pool18 : Array CpInfo := pool [(2, .class_ 4), (1, u "java/lang/Enum"), (0, u "name"), (0, u "Ljava/lang/String;"), (2, u "ordinal"), (0, u "I"), (1, .class_ 14), (1, u "java/lang/Object"), (4, u "hash"), (86, .class_ 108), (1, u "java/lang/Enum$EnumDesc"), (2, .class_ 112), (0, u "java/lang/constant/Constable"), (0, .class_ 114), (0, u "java/lang/Comparable"), (0, .class_ 116), (0, u "java/io/Serializable")] 87

def k18 : Class := { plain "java/lang/Enum" (some 0) with
  accessFlags := 1057
  interfaces := #[5, 3, 2]
  cf := some (fileOf pool18 2 #[.nestMembers #[106]] #[] 1057 12 #[111, 113, 115] #[{ accessFlags := 18, nameIndex := 5, descriptorIndex := 6, attributes := #[] }, { accessFlags := 18, nameIndex := 9, descriptorIndex := 10, attributes := #[] }, { accessFlags := 2, nameIndex := 19, descriptorIndex := 10, attributes := #[] }])
  fields := #[{ name := "name", type := (.object "java/lang/String"), accessFlags := 18, slot := 0, constantValue := 0 }, { name := "ordinal", type := .int, accessFlags := 18, slot := 1, constantValue := 0 }, { name := "hash", type := .int, accessFlags := 2, slot := 2, constantValue := 0 }]
  methods := #[]
  instanceTypes := #[(.object "java/lang/String"), .int, .int]
  staticTypes := #[]
  resolved := Array.replicate 204 none
  statics := none }

def pool19 : Array CpInfo := pool [(2, .class_ 4), (1, u "com/example/tenacious_courier/tenaciouscourier/model/WireNamed"), (29, .class_ 35), (0, u "java/lang/Object")] 10

def k19 : Class := { plain "com/example/tenacious_courier/tenaciouscourier/model/WireNamed" (some 0) with
  accessFlags := 1537
  interfaces := #[]
  cf := some (fileOf pool19 2 #[] #[] 1537 34 #[] #[])
  fields := #[]
  methods := #[]
  instanceTypes := #[]
  staticTypes := #[]
  resolved := Array.replicate 46 none
  statics := none }

def pool20 : Array CpInfo := pool [(1, .class_ 2), (0, u "com/example/tenacious_courier/tenaciouscourier/model/EndpointStatus"), (2, u "ACTIVE"), (0, u "Lcom/example/tenacious_courier/tenaciouscourier/model/EndpointStatus;"), (2, u "PAUSED"), (2, u "DISABLED"), (2, u "$VALUES"), (0, u "[Lcom/example/tenacious_courier/tenaciouscourier/model/EndpointStatus;"), (6, .class_ 25), (1, u "java/lang/Enum"), (8, u "getsDeliveries"), (0, u "Z"), (24, .class_ 61), (0, u "com/example/tenacious_courier/tenaciouscourier/model/WireNamed")] 15

def k20 : Class := { plain "com/example/tenacious_courier/tenaciouscourier/model/EndpointStatus" (some 18) with
  accessFlags := 16433
  interfaces := #[19]
  cf := some (fileOf pool20 1 #[] #[] 16433 23 #[60] #[{ accessFlags := 16409, nameIndex := 5, descriptorIndex := 6, attributes := #[] }, { accessFlags := 16409, nameIndex := 9, descriptorIndex := 6, attributes := #[] }, { accessFlags := 16409, nameIndex := 12, descriptorIndex := 6, attributes := #[] }, { accessFlags := 18, nameIndex := 34, descriptorIndex := 35, attributes := #[] }, { accessFlags := 4122, nameIndex := 15, descriptorIndex := 16, attributes := #[] }])
  fields := #[{ name := "ACTIVE", type := (.object "com/example/tenacious_courier/tenaciouscourier/model/EndpointStatus"), accessFlags := 16409, slot := 0, constantValue := 0 }, { name := "PAUSED", type := (.object "com/example/tenacious_courier/tenaciouscourier/model/EndpointStatus"), accessFlags := 16409, slot := 1, constantValue := 0 }, { name := "DISABLED", type := (.object "com/example/tenacious_courier/tenaciouscourier/model/EndpointStatus"), accessFlags := 16409, slot := 2, constantValue := 0 }, { name := "getsDeliveries", type := .boolean, accessFlags := 18, slot := 3, constantValue := 0 }, { name := "$VALUES", type := (.array (.object "com/example/tenacious_courier/tenaciouscourier/model/EndpointStatus")), accessFlags := 4122, slot := 3, constantValue := 0 }]
  methods := #[]
  instanceTypes := #[(.object "java/lang/String"), .int, .int, .boolean]
  staticTypes := #[(.object "com/example/tenacious_courier/tenaciouscourier/model/EndpointStatus"), (.object "com/example/tenacious_courier/tenaciouscourier/model/EndpointStatus"), (.object "com/example/tenacious_courier/tenaciouscourier/model/EndpointStatus"), (.array (.object "com/example/tenacious_courier/tenaciouscourier/model/EndpointStatus"))]
  resolved := Array.replicate 77 none
  statics := some 2 }

def pool21 : Array CpInfo := pool [(1, .class_ 2), (0, u "com/example/tenacious_courier/tenaciouscourier/model/BreakerState"), (2, u "CLOSED"), (0, u "Lcom/example/tenacious_courier/tenaciouscourier/model/BreakerState;"), (2, u "OPEN"), (2, u "HALF_OPEN"), (2, u "$VALUES"), (0, u "[Lcom/example/tenacious_courier/tenaciouscourier/model/BreakerState;"), (6, .class_ 25), (1, u "java/lang/Enum"), (14, .class_ 41), (0, u "com/example/tenacious_courier/tenaciouscourier/model/WireNamed")] 11

def k21 : Class := { plain "com/example/tenacious_courier/tenaciouscourier/model/BreakerState" (some 18) with
  accessFlags := 16433
  interfaces := #[19]
  cf := some (fileOf pool21 1 #[] #[] 16433 23 #[40] #[{ accessFlags := 16409, nameIndex := 5, descriptorIndex := 6, attributes := #[] }, { accessFlags := 16409, nameIndex := 9, descriptorIndex := 6, attributes := #[] }, { accessFlags := 16409, nameIndex := 12, descriptorIndex := 6, attributes := #[] }, { accessFlags := 4122, nameIndex := 15, descriptorIndex := 16, attributes := #[] }])
  fields := #[{ name := "CLOSED", type := (.object "com/example/tenacious_courier/tenaciouscourier/model/BreakerState"), accessFlags := 16409, slot := 0, constantValue := 0 }, { name := "OPEN", type := (.object "com/example/tenacious_courier/tenaciouscourier/model/BreakerState"), accessFlags := 16409, slot := 1, constantValue := 0 }, { name := "HALF_OPEN", type := (.object "com/example/tenacious_courier/tenaciouscourier/model/BreakerState"), accessFlags := 16409, slot := 2, constantValue := 0 }, { name := "$VALUES", type := (.array (.object "com/example/tenacious_courier/tenaciouscourier/model/BreakerState")), accessFlags := 4122, slot := 3, constantValue := 0 }]
  methods := #[]
  instanceTypes := #[(.object "java/lang/String"), .int, .int]
  staticTypes := #[(.object "com/example/tenacious_courier/tenaciouscourier/model/BreakerState"), (.object "com/example/tenacious_courier/tenaciouscourier/model/BreakerState"), (.object "com/example/tenacious_courier/tenaciouscourier/model/BreakerState"), (.array (.object "com/example/tenacious_courier/tenaciouscourier/model/BreakerState"))]
  resolved := Array.replicate 53 none
  statics := some 3 }

def pool22 : Array CpInfo := pool [(2, .class_ 4), (1, u "java/lang/Object"), (0, u "<init>"), (0, u "()V"), (3, .class_ 11), (0, u "java/util/ImmutableCollections$List12"), (0, .class_ 13), (0, u "java/util/ImmutableCollections$ListN"), (3, u "Z"), (0, .class_ 19), (0, u "java/util/List"), (0, .interfaceMethodref 21 22), (0, .class_ 23), (0, .nameAndType 24 25), (0, u "java/util/Collection"), (0, u "isEmpty"), (0, u "()Z"), (0, .interfaceMethodref 18 27), (0, .nameAndType 28 29), (0, u "of"), (0, u "()Ljava/util/List;"), (0, .interfaceMethodref 21 31), (0, .nameAndType 32 33), (0, u "toArray"), (0, u "()[Ljava/lang/Object;"), (0, .interfaceMethodref 18 35), (0, .nameAndType 28 36), (0, u "([Ljava/lang/Object;)Ljava/util/List;"), (0, .methodref 38 39), (0, .class_ 40), (0, .nameAndType 41 42), (0, u "java/util/Objects"), (0, u "requireNonNull"), (0, u "(Ljava/lang/Object;)Ljava/lang/Object;"), (0, .methodref 12 44), (0, .nameAndType 5 45), (0, u "([Ljava/lang/Object;Z)V"), (1, .class_ 49), (1, u "java/util/ImmutableCollections"), (0, u "$assertionsDisabled"), (5, u "[Ljava/lang/Object;"), (5, u "EMPTY_LIST"), (0, u "Ljava/util/ImmutableCollections$ListN;"), (8, u "EMPTY_LIST_NULLS"), (22, u "SALT32L"), (0, u "J"), (2, u "REVERSE"), (6, u "archivedObjects"), (2, u "EMPTY"), (0, u "Ljava/lang/Object;"), (0, .class_ 112), (0, u "java/util/ImmutableCollections$SetN"), (5, u "EMPTY_SET"), (0, u "Ljava/util/ImmutableCollections$SetN;"), (0, .class_ 121), (0, u "java/util/ImmutableCollections$MapN"), (3, u "EMPTY_MAP"), (0, u "Ljava/util/ImmutableCollections$MapN;"), (4, u "EXPAND_FACTOR"), (0, u "I"), (9, u "listCopy"), (0, u "(Ljava/util/Collection;)Ljava/util/List;"), (7, u "listFromArray"), (17, .class_ 170), (0, u "java/util/ImmutableCollections$MapN$MapNIterator"), (0, .class_ 172), (0, u "java/util/ImmutableCollections$MapN$1"), (0, .class_ 174), (0, u "java/util/ImmutableCollections$Map1"), (0, .class_ 176), (0, u "java/util/ImmutableCollections$AbstractImmutableMap"), (0, .class_ 178), (0, u "java/util/ImmutableCollections$SetN$SetNIterator"), (0, .class_ 180), (0, u "java/util/ImmutableCollections$Set12"), (0, .class_ 182), (0, u "java/util/ImmutableCollections$Set12$1"), (0, .class_ 184), (0, u "java/util/ImmutableCollections$AbstractImmutableSet"), (0, .class_ 186), (0, u "java/util/ImmutableCollections$SubList"), (0, .class_ 188), (0, u "java/util/ImmutableCollections$ListItr"), (0, .class_ 190), (0, u "java/util/ImmutableCollections$AbstractImmutableList"), (0, .class_ 192), (0, u "java/util/ImmutableCollections$AbstractImmutableCollection"), (0, .class_ 194), (0, u "java/util/ImmutableCollections$Access"), (0, .class_ 196), (0, u "java/util/ImmutableCollections$Access$1")] 16

def k22m0 : Method := { name := "<init>", desc := "()V", sig := { parameters := [], returnType := none }, accessFlags := 2, code := none }
def k22c1 : Code := { maxStack := 1, maxLocals := 2, code := jdk_56_method_3_code, exceptionTable := #[], attributes := #[] }
def k22m1 : Method := { name := "listCopy", desc := "(Ljava/util/Collection;)Ljava/util/List;", sig := { parameters := [(.object "java/util/Collection")], returnType := some (.object "java/util/List") }, accessFlags := 8, code := some k22c1 }
def k22c2 : Code := { maxStack := 4, maxLocals := 3, code := jdk_56_method_4_code, exceptionTable := #[], attributes := #[] }
def k22m2 : Method := { name := "listFromArray", desc := "([Ljava/lang/Object;)Ljava/util/List;", sig := { parameters := [(.array (.object "java/lang/Object"))], returnType := some (.object "java/util/List") }, accessFlags := 136, code := some k22c2 }
def k22 : Class := { plain "java/util/ImmutableCollections" (some 0) with
  accessFlags := 32
  interfaces := #[]
  cf := some (fileOf pool22 47 #[.nestMembers #[120, 169, 171, 173, 175, 111, 177, 179, 181, 183, 12, 10, 185, 187, 189, 191, 193, 195]] #[{ accessFlags := 2, nameIndex := 5, descriptorIndex := 6, attributes := #[] }, { accessFlags := 8, nameIndex := 142, descriptorIndex := 143, attributes := #[] }, { accessFlags := 136, nameIndex := 151, descriptorIndex := 36, attributes := #[] }] 32 2 #[] #[{ accessFlags := 26, nameIndex := 95, descriptorIndex := 96, attributes := #[] }, { accessFlags := 26, nameIndex := 99, descriptorIndex := 17, attributes := #[] }, { accessFlags := 10, nameIndex := 106, descriptorIndex := 56, attributes := #[] }, { accessFlags := 26, nameIndex := 109, descriptorIndex := 110, attributes := #[] }, { accessFlags := 24, nameIndex := 62, descriptorIndex := 63, attributes := #[] }, { accessFlags := 24, nameIndex := 72, descriptorIndex := 63, attributes := #[] }, { accessFlags := 24, nameIndex := 118, descriptorIndex := 119, attributes := #[] }, { accessFlags := 24, nameIndex := 125, descriptorIndex := 126, attributes := #[] }, { accessFlags := 24, nameIndex := 131, descriptorIndex := 132, attributes := #[] }, { accessFlags := 4120, nameIndex := 50, descriptorIndex := 17, attributes := #[] }])
  fields := #[{ name := "SALT32L", type := .long, accessFlags := 26, slot := 0, constantValue := 0 }, { name := "REVERSE", type := .boolean, accessFlags := 26, slot := 1, constantValue := 0 }, { name := "archivedObjects", type := (.array (.object "java/lang/Object")), accessFlags := 10, slot := 2, constantValue := 0 }, { name := "EMPTY", type := (.object "java/lang/Object"), accessFlags := 26, slot := 3, constantValue := 0 }, { name := "EMPTY_LIST", type := (.object "java/util/ImmutableCollections$ListN"), accessFlags := 24, slot := 4, constantValue := 0 }, { name := "EMPTY_LIST_NULLS", type := (.object "java/util/ImmutableCollections$ListN"), accessFlags := 24, slot := 5, constantValue := 0 }, { name := "EMPTY_SET", type := (.object "java/util/ImmutableCollections$SetN"), accessFlags := 24, slot := 6, constantValue := 0 }, { name := "EMPTY_MAP", type := (.object "java/util/ImmutableCollections$MapN"), accessFlags := 24, slot := 7, constantValue := 0 }, { name := "EXPAND_FACTOR", type := .int, accessFlags := 24, slot := 8, constantValue := 0 }, { name := "$assertionsDisabled", type := .boolean, accessFlags := 4120, slot := 9, constantValue := 0 }]
  methods := #[k22m0, k22m1, k22m2]
  instanceTypes := #[]
  staticTypes := #[.long, .boolean, (.array (.object "java/lang/Object")), (.object "java/lang/Object"), (.object "java/util/ImmutableCollections$ListN"), (.object "java/util/ImmutableCollections$ListN"), (.object "java/util/ImmutableCollections$SetN"), (.object "java/util/ImmutableCollections$MapN"), .int, .boolean]
  resolved := Array.replicate 213 none
  statics := some 4 }

def pool23 : Array CpInfo := pool [(1, .methodref 2 3), (0, .class_ 4), (0, .nameAndType 5 6), (0, u "java/util/AbstractCollection"), (0, u "<init>"), (0, u "()V"), (1, .class_ 10), (1, u "java/util/ImmutableCollections"), (2, .class_ 14), (0, u "java/util/ImmutableCollections$AbstractImmutableCollection")] 41

def k23c0 : Code := { maxStack := 1, maxLocals := 1, code := jdk_47_method_1_code, exceptionTable := #[], attributes := #[] }
def k23m0 : Method := { name := "<init>", desc := "()V", sig := { parameters := [], returnType := none }, accessFlags := 0, code := some k23c0 }
def k23 : Class := { plain "java/util/ImmutableCollections$AbstractImmutableCollection" (some 10) with
  accessFlags := 1056
  interfaces := #[]
  cf := some (fileOf pool23 13 #[.nestHost 8] #[{ accessFlags := 0, nameIndex := 5, descriptorIndex := 6, attributes := #[] }] 1056 2 #[] #[])
  fields := #[]
  methods := #[k23m0]
  instanceTypes := #[]
  staticTypes := #[]
  resolved := Array.replicate 56 none
  statics := none }

def pool24 : Array CpInfo := pool [(1, .methodref 2 3), (0, .class_ 4), (0, .nameAndType 5 6), (0, u "java/util/ImmutableCollections$AbstractImmutableCollection"), (0, u "<init>"), (0, u "()V"), (1, .class_ 10), (1, u "java/util/ImmutableCollections"), (3, .class_ 16), (1, u "java/util/ImmutableCollections$AbstractImmutableList"), (60, .class_ 78), (0, u "java/util/List"), (45, .class_ 125), (0, u "java/util/RandomAccess")] 70

def k24c0 : Code := { maxStack := 1, maxLocals := 1, code := jdk_46_method_1_code, exceptionTable := #[], attributes := #[] }
def k24m0 : Method := { name := "<init>", desc := "()V", sig := { parameters := [], returnType := none }, accessFlags := 0, code := some k24c0 }
def k24 : Class := { plain "java/util/ImmutableCollections$AbstractImmutableList" (some 23) with
  accessFlags := 1056
  interfaces := #[12, 14]
  cf := some (fileOf pool24 14 #[.nestHost 8] #[{ accessFlags := 0, nameIndex := 5, descriptorIndex := 6, attributes := #[] }] 1056 2 #[77, 124] #[])
  fields := #[]
  methods := #[k24m0]
  instanceTypes := #[]
  staticTypes := #[]
  resolved := Array.replicate 196 none
  statics := none }

def pool25 : Array CpInfo := pool [(1, .methodref 2 3), (0, .class_ 4), (0, .nameAndType 5 6), (0, u "java/util/ImmutableCollections$AbstractImmutableList"), (0, u "<init>"), (0, u "()V"), (0, .methodref 8 9), (0, .class_ 10), (0, .nameAndType 11 12), (0, u "java/util/Objects"), (0, u "requireNonNull"), (0, u "(Ljava/lang/Object;)Ljava/lang/Object;"), (0, .fieldref 14 15), (0, .class_ 16), (0, .nameAndType 17 18), (0, u "java/util/ImmutableCollections$List12"), (0, u "e0"), (0, u "Ljava/lang/Object;"), (0, .fieldref 20 21), (0, .class_ 22), (0, .nameAndType 23 18), (0, u "java/util/ImmutableCollections"), (0, u "EMPTY"), (0, .fieldref 14 25), (0, .nameAndType 26 18), (0, u "e1"), (24, u "size"), (0, u "()I"), (17, .class_ 71), (0, u "java/io/Serializable"), (4, u "(Ljava/lang/Object;)V"), (8, u "(Ljava/lang/Object;Ljava/lang/Object;)V"), (4, u "get"), (0, u "(I)Ljava/lang/Object;")] 33

def k25c0 : Code := { maxStack := 2, maxLocals := 2, code := jdk_44_method_1_code, exceptionTable := #[], attributes := #[] }
def k25m0 : Method := { name := "<init>", desc := "(Ljava/lang/Object;)V", sig := { parameters := [(.object "java/lang/Object")], returnType := none }, accessFlags := 0, code := some k25c0 }
def k25c1 : Code := { maxStack := 2, maxLocals := 3, code := jdk_44_method_2_code, exceptionTable := #[], attributes := #[] }
def k25m1 : Method := { name := "<init>", desc := "(Ljava/lang/Object;Ljava/lang/Object;)V", sig := { parameters := [(.object "java/lang/Object"), (.object "java/lang/Object")], returnType := none }, accessFlags := 0, code := some k25c1 }
def k25c2 : Code := { maxStack := 2, maxLocals := 1, code := jdk_44_method_3_code, exceptionTable := #[], attributes := #[] }
def k25m2 : Method := { name := "size", desc := "()I", sig := { parameters := [], returnType := some .int }, accessFlags := 1, code := some k25c2 }
def k25c3 : Code := { maxStack := 2, maxLocals := 2, code := jdk_44_method_5_code, exceptionTable := #[], attributes := #[] }
def k25m3 : Method := { name := "get", desc := "(I)Ljava/lang/Object;", sig := { parameters := [.int], returnType := some (.object "java/lang/Object") }, accessFlags := 1, code := some k25c3 }
def k25 : Class := { plain "java/util/ImmutableCollections$List12" (some 24) with
  accessFlags := 48
  interfaces := #[2]
  cf := some (fileOf pool25 14 #[.nestHost 20] #[{ accessFlags := 0, nameIndex := 5, descriptorIndex := 76, attributes := #[] }, { accessFlags := 0, nameIndex := 5, descriptorIndex := 85, attributes := #[] }, { accessFlags := 1, nameIndex := 51, descriptorIndex := 52, attributes := #[] }, { accessFlags := 1, nameIndex := 90, descriptorIndex := 91, attributes := #[] }] 48 2 #[70] #[{ accessFlags := 18, nameIndex := 17, descriptorIndex := 18, attributes := #[] }, { accessFlags := 18, nameIndex := 26, descriptorIndex := 18, attributes := #[] }])
  fields := #[{ name := "e0", type := (.object "java/lang/Object"), accessFlags := 18, slot := 0, constantValue := 0 }, { name := "e1", type := (.object "java/lang/Object"), accessFlags := 18, slot := 1, constantValue := 0 }]
  methods := #[k25m0, k25m1, k25m2, k25m3]
  instanceTypes := #[(.object "java/lang/Object"), (.object "java/lang/Object")]
  staticTypes := #[]
  resolved := Array.replicate 125 none
  statics := none }

def pool26 : Array CpInfo := pool [(1, .methodref 2 3), (0, .class_ 4), (0, .nameAndType 5 6), (0, u "java/util/ImmutableCollections$AbstractImmutableList"), (0, u "<init>"), (0, u "()V"), (0, .fieldref 8 9), (0, .class_ 10), (0, .nameAndType 11 12), (0, u "java/util/ImmutableCollections$ListN"), (0, u "elements"), (0, u "[Ljava/lang/Object;"), (0, .fieldref 8 14), (0, .nameAndType 15 16), (0, u "allowNulls"), (0, u "Z"), (42, .class_ 60), (0, u "java/io/Serializable"), (4, u "([Ljava/lang/Object;Z)V"), (11, u "size"), (0, u "()I"), (0, u "get"), (0, u "(I)Ljava/lang/Object;"), (33, .class_ 115), (0, u "java/util/ImmutableCollections")] 3

def k26c0 : Code := { maxStack := 2, maxLocals := 3, code := jdk_45_method_1_code, exceptionTable := #[], attributes := #[] }
def k26m0 : Method := { name := "<init>", desc := "([Ljava/lang/Object;Z)V", sig := { parameters := [(.array (.object "java/lang/Object")), .boolean], returnType := none }, accessFlags := 2, code := some k26c0 }
def k26c1 : Code := { maxStack := 1, maxLocals := 1, code := jdk_45_method_3_code, exceptionTable := #[], attributes := #[] }
def k26m1 : Method := { name := "size", desc := "()I", sig := { parameters := [], returnType := some .int }, accessFlags := 1, code := some k26c1 }
def k26c2 : Code := { maxStack := 2, maxLocals := 2, code := jdk_45_method_4_code, exceptionTable := #[], attributes := #[] }
def k26m2 : Method := { name := "get", desc := "(I)Ljava/lang/Object;", sig := { parameters := [.int], returnType := some (.object "java/lang/Object") }, accessFlags := 1, code := some k26c2 }
def k26 : Class := { plain "java/util/ImmutableCollections$ListN" (some 24) with
  accessFlags := 48
  interfaces := #[2]
  cf := some (fileOf pool26 8 #[.nestHost 114] #[{ accessFlags := 2, nameIndex := 5, descriptorIndex := 65, attributes := #[] }, { accessFlags := 1, nameIndex := 77, descriptorIndex := 78, attributes := #[] }, { accessFlags := 1, nameIndex := 79, descriptorIndex := 80, attributes := #[] }] 48 2 #[59] #[{ accessFlags := 18, nameIndex := 11, descriptorIndex := 12, attributes := #[] }, { accessFlags := 18, nameIndex := 15, descriptorIndex := 16, attributes := #[] }])
  fields := #[{ name := "elements", type := (.array (.object "java/lang/Object")), accessFlags := 18, slot := 0, constantValue := 0 }, { name := "allowNulls", type := .boolean, accessFlags := 18, slot := 1, constantValue := 0 }]
  methods := #[k26m0, k26m1, k26m2]
  instanceTypes := #[(.array (.object "java/lang/Object")), .boolean]
  staticTypes := #[]
  resolved := Array.replicate 119 none
  statics := none }

def pool27 : Array CpInfo := pool [(1, .class_ 2), (0, u "java/lang/Math"), (1, .class_ 6), (1, u "java/lang/Object"), (0, u "<init>"), (0, u "()V"), (89, .class_ 100), (1, u "java/lang/Math$RandomNumberGeneratorHolder"), (71, u "negativeZeroFloatBits"), (0, u "J"), (2, u "negativeZeroDoubleBits"), (21, u "max"), (2, u "min"), (43, u "$assertionsDisabled"), (0, u "Z"), (88, u "(II)I"), (2, u "twoToTheDoubleScaleDown"), (0, u "D"), (4, u "twoToTheDoubleScaleUp"), (9, u "E"), (3, u "PI"), (2, u "TAU"), (2, u "DEGREES_TO_RADIANS"), (0, u "RADIANS_TO_DEGREES")] 94

def k27m0 : Method := { name := "<init>", desc := "()V", sig := { parameters := [], returnType := none }, accessFlags := 2, code := none }
def k27c1 : Code := { maxStack := 2, maxLocals := 2, code := jdk_29_method_65_code, exceptionTable := #[], attributes := #[] }
def k27m1 : Method := { name := "max", desc := "(II)I", sig := { parameters := [.int, .int], returnType := some .int }, accessFlags := 9, code := some k27c1 }
def k27c2 : Code := { maxStack := 2, maxLocals := 2, code := jdk_29_method_69_code, exceptionTable := #[], attributes := #[] }
def k27m2 : Method := { name := "min", desc := "(II)I", sig := { parameters := [.int, .int], returnType := some .int }, accessFlags := 9, code := some k27c2 }
def k27 : Class := { plain "java/lang/Math" (some 0) with
  accessFlags := 49
  interfaces := #[]
  cf := some (fileOf pool27 1 #[.nestMembers #[98]] #[{ accessFlags := 2, nameIndex := 7, descriptorIndex := 8, attributes := #[] }, { accessFlags := 9, nameIndex := 198, descriptorIndex := 335, attributes := #[] }, { accessFlags := 9, nameIndex := 201, descriptorIndex := 335, attributes := #[] }] 49 4 #[] #[{ accessFlags := 25, nameIndex := 354, descriptorIndex := 339, attributes := #[] }, { accessFlags := 25, nameIndex := 358, descriptorIndex := 339, attributes := #[] }, { accessFlags := 25, nameIndex := 361, descriptorIndex := 339, attributes := #[] }, { accessFlags := 26, nameIndex := 364, descriptorIndex := 339, attributes := #[] }, { accessFlags := 26, nameIndex := 365, descriptorIndex := 339, attributes := #[] }, { accessFlags := 26, nameIndex := 172, descriptorIndex := 173, attributes := #[] }, { accessFlags := 26, nameIndex := 176, descriptorIndex := 173, attributes := #[] }, { accessFlags := 8, nameIndex := 344, descriptorIndex := 339, attributes := #[] }, { accessFlags := 8, nameIndex := 338, descriptorIndex := 339, attributes := #[] }, { accessFlags := 4120, nameIndex := 245, descriptorIndex := 246, attributes := #[] }])
  fields := #[{ name := "E", type := .double, accessFlags := 25, slot := 0, constantValue := 0 }, { name := "PI", type := .double, accessFlags := 25, slot := 1, constantValue := 0 }, { name := "TAU", type := .double, accessFlags := 25, slot := 2, constantValue := 0 }, { name := "DEGREES_TO_RADIANS", type := .double, accessFlags := 26, slot := 3, constantValue := 0 }, { name := "RADIANS_TO_DEGREES", type := .double, accessFlags := 26, slot := 4, constantValue := 0 }, { name := "negativeZeroFloatBits", type := .long, accessFlags := 26, slot := 5, constantValue := 0 }, { name := "negativeZeroDoubleBits", type := .long, accessFlags := 26, slot := 6, constantValue := 0 }, { name := "twoToTheDoubleScaleUp", type := .double, accessFlags := 8, slot := 7, constantValue := 0 }, { name := "twoToTheDoubleScaleDown", type := .double, accessFlags := 8, slot := 8, constantValue := 0 }, { name := "$assertionsDisabled", type := .boolean, accessFlags := 4120, slot := 9, constantValue := 0 }]
  methods := #[k27m0, k27m1, k27m2]
  instanceTypes := #[]
  staticTypes := #[.double, .double, .double, .double, .double, .long, .long, .double, .double, .boolean]
  resolved := Array.replicate 460 none
  statics := none }

def pool28 : Array CpInfo := pool [(6, .class_ 8), (1, u "java/lang/Object"), (0, u "<init>"), (0, u "()V"), (1, .class_ 14), (1, u "java/lang/StringUTF16"), (31, u "$assertionsDisabled"), (0, u "Z"), (13, u "HI_BYTE_SHIFT"), (0, u "I"), (2, u "LO_BYTE_SHIFT"), (49, .methodref 12 116), (0, .nameAndType 117 118), (0, u "compress"), (0, u "([CI[BII)I"), (3, u "([CII)[B"), (138, u "coderFromArrayLen"), (0, u "([BI)B"), (106, .class_ 371), (1, u "java/lang/StringUTF16$LinesSpliterator"), (58, u "MAX_LENGTH"), (196, .class_ 628), (0, u "java/lang/StringUTF16$CodePointsSpliterator"), (0, .class_ 630), (0, u "java/lang/StringUTF16$CharsSpliterator")] 4

def k28m0 : Method := { name := "<init>", desc := "()V", sig := { parameters := [], returnType := none }, accessFlags := 0, code := none }
def k28c1 : Code := { maxStack := 2, maxLocals := 2, code := jdk_52_method_15_code, exceptionTable := #[], attributes := #[] }
def k28m1 : Method := { name := "coderFromArrayLen", desc := "([BI)B", sig := { parameters := [(.array .byte), .int], returnType := some .byte }, accessFlags := 8, code := some k28c1 }
def k28c2 : Code := { maxStack := 5, maxLocals := 6, code := jdk_52_method_16_code, exceptionTable := #[], attributes := #[] }
def k28m2 : Method := { name := "compress", desc := "([CII)[B", sig := { parameters := [(.array .char), .int, .int], returnType := some (.array .byte) }, accessFlags := 9, code := some k28c2 }
def k28c3 : Code := { maxStack := 3, maxLocals := 7, code := jdk_52_method_21_code, exceptionTable := #[], attributes := #[] }
def k28m3 : Method := { name := "compress", desc := "([CI[BII)I", sig := { parameters := [(.array .char), .int, (.array .byte), .int, .int], returnType := some .int }, accessFlags := 9, code := some k28c3 }
def k28 : Class := { plain "java/lang/StringUTF16" (some 0) with
  accessFlags := 48
  interfaces := #[]
  cf := some (fileOf pool28 12 #[.nestMembers #[627, 629, 369]] #[{ accessFlags := 0, nameIndex := 9, descriptorIndex := 10, attributes := #[] }, { accessFlags := 8, nameIndex := 261, descriptorIndex := 262, attributes := #[] }, { accessFlags := 9, nameIndex := 117, descriptorIndex := 122, attributes := #[] }, { accessFlags := 9, nameIndex := 117, descriptorIndex := 118, attributes := #[] }] 48 6 #[] #[{ accessFlags := 26, nameIndex := 61, descriptorIndex := 62, attributes := #[] }, { accessFlags := 26, nameIndex := 65, descriptorIndex := 62, attributes := #[] }, { accessFlags := 24, nameIndex := 430, descriptorIndex := 62, attributes := #[] }, { accessFlags := 4120, nameIndex := 46, descriptorIndex := 47, attributes := #[] }])
  fields := #[{ name := "HI_BYTE_SHIFT", type := .int, accessFlags := 26, slot := 0, constantValue := 0 }, { name := "LO_BYTE_SHIFT", type := .int, accessFlags := 26, slot := 1, constantValue := 0 }, { name := "MAX_LENGTH", type := .int, accessFlags := 24, slot := 2, constantValue := 0 }, { name := "$assertionsDisabled", type := .boolean, accessFlags := 4120, slot := 3, constantValue := 0 }]
  methods := #[k28m0, k28m1, k28m2, k28m3]
  instanceTypes := #[]
  staticTypes := #[.int, .int, .int, .boolean]
  resolved := Array.replicate 635 none
  statics := none }

def pool29 : Array CpInfo := pool [(2, .class_ 4), (1, u "java/lang/Object"), (0, u "<init>"), (0, u "()V"), (7, .class_ 16), (1, u "java/util/Arrays"), (57, .class_ 76), (1, u "java/util/Arrays$NaturalOrder"), (9, .methodref 2 87), (0, .nameAndType 88 89), (0, u "getClass"), (0, u "()Ljava/lang/Class;"), (20, .class_ 111), (0, u "[Ljava/lang/Object;"), (1, .class_ 115), (1, u "java/util/Arrays$LegacyMergeSort"), (1, u "Z"), (32, .methodref 151 152), (0, .class_ 153), (0, .nameAndType 154 155), (0, u "java/lang/System"), (0, u "arraycopy"), (0, u "(Ljava/lang/Object;ILjava/lang/Object;II)V"), (144, .methodref 14 301), (0, .nameAndType 302 303), (0, u "copyOf"), (0, u "([Ljava/lang/Object;ILjava/lang/Class;)[Ljava/lang/Object;"), (0, .methodref 305 306), (0, .class_ 307), (0, .nameAndType 308 309), (0, u "java/lang/Math"), (0, u "min"), (0, u "(II)I"), (65, .class_ 376), (0, u "java/util/Arrays$ArrayList"), (68, u "$assertionsDisabled"), (269, u "MIN_ARRAY_SORT_GRAN"), (0, u "I"), (2, u "INSERTIONSORT_THRESHOLD"), (140, u "([Ljava/lang/Object;I)[Ljava/lang/Object;"), (114, .class_ 976), (0, u "java/util/Arrays$ArrayItr")] 52

def k29m0 : Method := { name := "<init>", desc := "()V", sig := { parameters := [], returnType := none }, accessFlags := 2, code := none }
def k29c1 : Code := { maxStack := 3, maxLocals := 2, code := jdk_65_method_119_code, exceptionTable := #[], attributes := #[] }
def k29m1 : Method := { name := "copyOf", desc := "([Ljava/lang/Object;I)[Ljava/lang/Object;", sig := { parameters := [(.array (.object "java/lang/Object")), .int], returnType := some (.array (.object "java/lang/Object")) }, accessFlags := 9, code := some k29c1 }
def k29c2 : Code := { maxStack := 6, maxLocals := 4, code := jdk_65_method_120_code, exceptionTable := #[], attributes := #[] }
def k29m2 : Method := { name := "copyOf", desc := "([Ljava/lang/Object;ILjava/lang/Class;)[Ljava/lang/Object;", sig := { parameters := [(.array (.object "java/lang/Object")), .int, (.object "java/lang/Class")], returnType := some (.array (.object "java/lang/Object")) }, accessFlags := 9, code := some k29c2 }
def k29 : Class := { plain "java/util/Arrays" (some 0) with
  accessFlags := 49
  interfaces := #[]
  cf := some (fileOf pool29 14 #[.nestMembers #[975, 375, 113, 74]] #[{ accessFlags := 2, nameIndex := 5, descriptorIndex := 6, attributes := #[] }, { accessFlags := 9, nameIndex := 302, descriptorIndex := 860, attributes := #[] }, { accessFlags := 9, nameIndex := 302, descriptorIndex := 303, attributes := #[] }] 49 2 #[] #[{ accessFlags := 26, nameIndex := 715, descriptorIndex := 716, attributes := #[] }, { accessFlags := 26, nameIndex := 719, descriptorIndex := 716, attributes := #[] }, { accessFlags := 4120, nameIndex := 445, descriptorIndex := 117, attributes := #[] }])
  fields := #[{ name := "MIN_ARRAY_SORT_GRAN", type := .int, accessFlags := 26, slot := 0, constantValue := 0 }, { name := "INSERTIONSORT_THRESHOLD", type := .int, accessFlags := 26, slot := 1, constantValue := 0 }, { name := "$assertionsDisabled", type := .boolean, accessFlags := 4120, slot := 2, constantValue := 0 }]
  methods := #[k29m0, k29m1, k29m2]
  instanceTypes := #[]
  staticTypes := #[.int, .int, .boolean]
  resolved := Array.replicate 1029 none
  statics := none }

def pool30 : Array CpInfo := pool [(2, .class_ 4), (1, u "java/lang/Object"), (0, u "<init>"), (0, u "()V"), (1, .class_ 10), (1, u "java/lang/System"), (0, u "allowSecurityManager"), (0, u "I"), (16, u "cons"), (0, u "Ljava/io/Console;"), (77, .class_ 110), (1, u "java/lang/System$CallersHolder"), (43, u "initialErrStream"), (0, u "Ljava/io/PrintStream;"), (19, u "security"), (0, u "Ljava/lang/SecurityManager;"), (31, .class_ 209), (0, u "java/lang/System$1"), (7, u "props"), (0, u "Ljava/util/Properties;"), (2, u "lineSeparator"), (0, u "Ljava/lang/String;"), (96, .class_ 321), (1, u "java/lang/System$LoggerFinder"), (5, .class_ 328), (0, u "java/lang/System$Logger"), (67, u "err"), (2, u "out"), (91, u "notSupportedJnuEncoding"), (15, u "in"), (17, u "initialIn"), (0, u "Ljava/io/InputStream;"), (35, u "bootLayer"), (0, u "Ljava/lang/ModuleLayer;"), (99, .class_ 664), (0, u "java/lang/System$2"), (9, u "NEVER"), (2, u "MAYBE"), (49, u "arraycopy"), (0, u "(Ljava/lang/Object;ILjava/lang/Object;II)V"), (72, .class_ 802), (0, u "java/lang/System$Logger$Level")] 31

def k30m0 : Method := { name := "<init>", desc := "()V", sig := { parameters := [], returnType := none }, accessFlags := 2, code := none }
def k30m1 : Method := { name := "arraycopy", desc := "(Ljava/lang/Object;ILjava/lang/Object;II)V", sig := { parameters := [(.object "java/lang/Object"), .int, (.object "java/lang/Object"), .int, .int], returnType := none }, accessFlags := 265, code := none }
def k30 : Class := { plain "java/lang/System" (some 0) with
  accessFlags := 49
  interfaces := #[]
  cf := some (fileOf pool30 8 #[.nestMembers #[319, 327, 801, 108, 663, 208]] #[{ accessFlags := 2, nameIndex := 5, descriptorIndex := 6, attributes := #[] }, { accessFlags := 265, nameIndex := 727, descriptorIndex := 728, attributes := #[] }] 49 2 #[] #[{ accessFlags := 25, nameIndex := 507, descriptorIndex := 526, attributes := #[] }, { accessFlags := 25, nameIndex := 399, descriptorIndex := 155, attributes := #[] }, { accessFlags := 25, nameIndex := 396, descriptorIndex := 155, attributes := #[] }, { accessFlags := 10, nameIndex := 525, descriptorIndex := 526, attributes := #[] }, { accessFlags := 26, nameIndex := 674, descriptorIndex := 12, attributes := #[] }, { accessFlags := 26, nameIndex := 677, descriptorIndex := 12, attributes := #[] }, { accessFlags := 10, nameIndex := 11, descriptorIndex := 12, attributes := #[] }, { accessFlags := 74, nameIndex := 175, descriptorIndex := 176, attributes := #[] }, { accessFlags := 10, nameIndex := 491, descriptorIndex := 222, attributes := #[] }, { accessFlags := 74, nameIndex := 29, descriptorIndex := 30, attributes := #[] }, { accessFlags := 74, nameIndex := 154, descriptorIndex := 155, attributes := #[] }, { accessFlags := 10, nameIndex := 217, descriptorIndex := 218, attributes := #[] }, { accessFlags := 10, nameIndex := 221, descriptorIndex := 222, attributes := #[] }, { accessFlags := 8, nameIndex := 562, descriptorIndex := 563, attributes := #[] }])
  fields := #[{ name := "in", type := (.object "java/io/InputStream"), accessFlags := 25, slot := 0, constantValue := 0 }, { name := "out", type := (.object "java/io/PrintStream"), accessFlags := 25, slot := 1, constantValue := 0 }, { name := "err", type := (.object "java/io/PrintStream"), accessFlags := 25, slot := 2, constantValue := 0 }, { name := "initialIn", type := (.object "java/io/InputStream"), accessFlags := 10, slot := 3, constantValue := 0 }, { name := "NEVER", type := .int, accessFlags := 26, slot := 4, constantValue := 0 }, { name := "MAYBE", type := .int, accessFlags := 26, slot := 5, constantValue := 0 }, { name := "allowSecurityManager", type := .int, accessFlags := 10, slot := 6, constantValue := 0 }, { name := "security", type := (.object "java/lang/SecurityManager"), accessFlags := 74, slot := 7, constantValue := 0 }, { name := "notSupportedJnuEncoding", type := (.object "java/lang/String"), accessFlags := 10, slot := 8, constantValue := 0 }, { name := "cons", type := (.object "java/io/Console"), accessFlags := 74, slot := 9, constantValue := 0 }, { name := "initialErrStream", type := (.object "java/io/PrintStream"), accessFlags := 74, slot := 10, constantValue := 0 }, { name := "props", type := (.object "java/util/Properties"), accessFlags := 10, slot := 11, constantValue := 0 }, { name := "lineSeparator", type := (.object "java/lang/String"), accessFlags := 10, slot := 12, constantValue := 0 }, { name := "bootLayer", type := (.object "java/lang/ModuleLayer"), accessFlags := 8, slot := 13, constantValue := 0 }]
  methods := #[k30m0, k30m1]
  instanceTypes := #[]
  staticTypes := #[(.object "java/io/InputStream"), (.object "java/io/PrintStream"), (.object "java/io/PrintStream"), (.object "java/io/InputStream"), .int, .int, .int, (.object "java/lang/SecurityManager"), (.object "java/lang/String"), (.object "java/io/Console"), (.object "java/io/PrintStream"), (.object "java/util/Properties"), (.object "java/lang/String"), (.object "java/lang/ModuleLayer")]
  resolved := Array.replicate 834 none
  statics := none }

def pool31 : Array CpInfo := pool [(2, .class_ 4), (1, u "java/lang/Object"), (0, u "<init>"), (0, u "()V"), (35, .class_ 44), (1, u "java/util/Objects"), (0, u "requireNonNull"), (0, u "(Ljava/lang/Object;)Ljava/lang/Object;")] 137

def k31m0 : Method := { name := "<init>", desc := "()V", sig := { parameters := [], returnType := none }, accessFlags := 2, code := none }
def k31c1 : Code := { maxStack := 2, maxLocals := 1, code := jdk_31_method_10_code, exceptionTable := #[], attributes := #[] }
def k31m1 : Method := { name := "requireNonNull", desc := "(Ljava/lang/Object;)Ljava/lang/Object;", sig := { parameters := [(.object "java/lang/Object")], returnType := some (.object "java/lang/Object") }, accessFlags := 9, code := some k31c1 }
def k31 : Class := { plain "java/util/Objects" (some 0) with
  accessFlags := 49
  interfaces := #[]
  cf := some (fileOf pool31 42 #[] #[{ accessFlags := 2, nameIndex := 5, descriptorIndex := 6, attributes := #[] }, { accessFlags := 9, nameIndex := 45, descriptorIndex := 46, attributes := #[] }] 49 2 #[] #[])
  fields := #[]
  methods := #[k31m0, k31m1]
  instanceTypes := #[]
  staticTypes := #[]
  resolved := Array.replicate 184 none
  statics := none }

def pool32 : Array CpInfo := pool [(4, .class_ 6), (1, u "java/lang/Object"), (0, u "<init>"), (0, u "()V"), (5, .class_ 16), (1, u "java/lang/StringLatin1"), (104, u "$assertionsDisabled"), (0, u "Z"), (98, .class_ 223), (1, u "java/lang/StringLatin1$LinesSpliterator"), (166, .class_ 391), (0, u "java/lang/StringLatin1$CharsSpliterator")] 3

def k32m0 : Method := { name := "<init>", desc := "()V", sig := { parameters := [], returnType := none }, accessFlags := 0, code := none }
def k32 : Class := { plain "java/lang/StringLatin1" (some 0) with
  accessFlags := 48
  interfaces := #[]
  cf := some (fileOf pool32 14 #[.nestMembers #[390, 221]] #[{ accessFlags := 0, nameIndex := 7, descriptorIndex := 8, attributes := #[] }] 48 4 #[] #[{ accessFlags := 4120, nameIndex := 121, descriptorIndex := 122, attributes := #[] }])
  fields := #[{ name := "$assertionsDisabled", type := .boolean, accessFlags := 4120, slot := 0, constantValue := 0 }]
  methods := #[k32m0]
  instanceTypes := #[]
  staticTypes := #[.boolean]
  resolved := Array.replicate 395 none
  statics := none }

def pool33 : Array CpInfo := pool [(2, .class_ 4), (1, u "java/lang/Object"), (0, u "<init>"), (0, u "()V"), (17, .class_ 26), (1, u "jdk/internal/util/Preconditions"), (28, .class_ 56), (0, u "jdk/internal/util/Preconditions$4"), (57, .class_ 115), (0, u "jdk/internal/util/Preconditions$1"), (7, u "SIOOBE_FORMATTER"), (0, u "Ljava/util/function/BiFunction;"), (0, .class_ 126), (0, u "jdk/internal/util/Preconditions$2"), (3, u "AIOOBE_FORMATTER"), (0, .class_ 132), (0, u "jdk/internal/util/Preconditions$3"), (3, u "IOOBE_FORMATTER")] 57

def k33m0 : Method := { name := "<init>", desc := "()V", sig := { parameters := [], returnType := none }, accessFlags := 1, code := none }
def k33 : Class := { plain "jdk/internal/util/Preconditions" (some 0) with
  accessFlags := 33
  interfaces := #[]
  cf := some (fileOf pool33 24 #[.nestMembers #[55, 131, 125, 114]] #[{ accessFlags := 1, nameIndex := 5, descriptorIndex := 6, attributes := #[] }] 33 2 #[] #[{ accessFlags := 25, nameIndex := 123, descriptorIndex := 124, attributes := #[] }, { accessFlags := 25, nameIndex := 130, descriptorIndex := 124, attributes := #[] }, { accessFlags := 25, nameIndex := 136, descriptorIndex := 124, attributes := #[] }])
  fields := #[{ name := "SIOOBE_FORMATTER", type := (.object "java/util/function/BiFunction"), accessFlags := 25, slot := 0, constantValue := 0 }, { name := "AIOOBE_FORMATTER", type := (.object "java/util/function/BiFunction"), accessFlags := 25, slot := 1, constantValue := 0 }, { name := "IOOBE_FORMATTER", type := (.object "java/util/function/BiFunction"), accessFlags := 25, slot := 2, constantValue := 0 }]
  methods := #[k33m0]
  instanceTypes := #[]
  staticTypes := #[(.object "java/util/function/BiFunction"), (.object "java/util/function/BiFunction"), (.object "java/util/function/BiFunction")]
  resolved := Array.replicate 194 none
  statics := some 5 }

def pool34 : Array CpInfo := pool [(9, u "<init>"), (6, .class_ 18), (1, u "java/lang/Object"), (0, u "()V"), (1, .class_ 23), (1, u "jdk/internal/util/ArraysSupport"), (0, u "LOG2_ARRAY_LONG_INDEX_SCALE"), (0, u "I"), (2, u "U"), (0, u "Ljdk/internal/misc/Unsafe;"), (8, u "BIG_ENDIAN"), (0, u "Z"), (8, u "LOG2_BYTE_BIT_SIZE"), (4, u "LOG2_ARRAY_INT_INDEX_SCALE"), (54, u "JLA"), (0, u "Ljdk/internal/access/JavaLangAccess;"), (11, u "LOG2_ARRAY_BOOLEAN_INDEX_SCALE"), (9, u "LOG2_ARRAY_BYTE_INDEX_SCALE"), (5, u "LOG2_ARRAY_CHAR_INDEX_SCALE"), (5, u "LOG2_ARRAY_SHORT_INDEX_SCALE"), (18, u "LOG2_ARRAY_FLOAT_INDEX_SCALE"), (24, u "LOG2_ARRAY_DOUBLE_INDEX_SCALE"), (89, u "T_BOOLEAN"), (2, u "T_CHAR"), (1, u "T_FLOAT"), (1, u "T_DOUBLE"), (1, u "T_BYTE"), (1, u "T_SHORT"), (1, u "T_INT"), (1, u "T_LONG"), (1, u "SOFT_MAX_ARRAY_LENGTH")] 83

def k34m0 : Method := { name := "<init>", desc := "()V", sig := { parameters := [], returnType := none }, accessFlags := 2, code := none }
def k34 : Class := { plain "jdk/internal/util/ArraysSupport" (some 0) with
  accessFlags := 33
  interfaces := #[]
  cf := some (fileOf pool34 21 #[] #[{ accessFlags := 2, nameIndex := 9, descriptorIndex := 19, attributes := #[] }] 33 16 #[] #[{ accessFlags := 24, nameIndex := 28, descriptorIndex := 29, attributes := #[] }, { accessFlags := 26, nameIndex := 38, descriptorIndex := 39, attributes := #[] }, { accessFlags := 25, nameIndex := 121, descriptorIndex := 25, attributes := #[] }, { accessFlags := 25, nameIndex := 131, descriptorIndex := 25, attributes := #[] }, { accessFlags := 25, nameIndex := 137, descriptorIndex := 25, attributes := #[] }, { accessFlags := 25, nameIndex := 143, descriptorIndex := 25, attributes := #[] }, { accessFlags := 25, nameIndex := 53, descriptorIndex := 25, attributes := #[] }, { accessFlags := 25, nameIndex := 24, descriptorIndex := 25, attributes := #[] }, { accessFlags := 25, nameIndex := 162, descriptorIndex := 25, attributes := #[] }, { accessFlags := 25, nameIndex := 187, descriptorIndex := 25, attributes := #[] }, { accessFlags := 26, nameIndex := 48, descriptorIndex := 25, attributes := #[] }, { accessFlags := 25, nameIndex := 277, descriptorIndex := 25, attributes := #[] }, { accessFlags := 25, nameIndex := 280, descriptorIndex := 25, attributes := #[] }, { accessFlags := 25, nameIndex := 282, descriptorIndex := 25, attributes := #[] }, { accessFlags := 25, nameIndex := 284, descriptorIndex := 25, attributes := #[] }, { accessFlags := 25, nameIndex := 286, descriptorIndex := 25, attributes := #[] }, { accessFlags := 25, nameIndex := 288, descriptorIndex := 25, attributes := #[] }, { accessFlags := 25, nameIndex := 290, descriptorIndex := 25, attributes := #[] }, { accessFlags := 25, nameIndex := 292, descriptorIndex := 25, attributes := #[] }, { accessFlags := 26, nameIndex := 108, descriptorIndex := 109, attributes := #[] }, { accessFlags := 25, nameIndex := 294, descriptorIndex := 25, attributes := #[] }])
  fields := #[{ name := "U", type := (.object "jdk/internal/misc/Unsafe"), accessFlags := 24, slot := 0, constantValue := 0 }, { name := "BIG_ENDIAN", type := .boolean, accessFlags := 26, slot := 1, constantValue := 0 }, { name := "LOG2_ARRAY_BOOLEAN_INDEX_SCALE", type := .int, accessFlags := 25, slot := 2, constantValue := 0 }, { name := "LOG2_ARRAY_BYTE_INDEX_SCALE", type := .int, accessFlags := 25, slot := 3, constantValue := 0 }, { name := "LOG2_ARRAY_CHAR_INDEX_SCALE", type := .int, accessFlags := 25, slot := 4, constantValue := 0 }, { name := "LOG2_ARRAY_SHORT_INDEX_SCALE", type := .int, accessFlags := 25, slot := 5, constantValue := 0 }, { name := "LOG2_ARRAY_INT_INDEX_SCALE", type := .int, accessFlags := 25, slot := 6, constantValue := 0 }, { name := "LOG2_ARRAY_LONG_INDEX_SCALE", type := .int, accessFlags := 25, slot := 7, constantValue := 0 }, { name := "LOG2_ARRAY_FLOAT_INDEX_SCALE", type := .int, accessFlags := 25, slot := 8, constantValue := 0 }, { name := "LOG2_ARRAY_DOUBLE_INDEX_SCALE", type := .int, accessFlags := 25, slot := 9, constantValue := 0 }, { name := "LOG2_BYTE_BIT_SIZE", type := .int, accessFlags := 26, slot := 10, constantValue := 0 }, { name := "T_BOOLEAN", type := .int, accessFlags := 25, slot := 11, constantValue := 0 }, { name := "T_CHAR", type := .int, accessFlags := 25, slot := 12, constantValue := 0 }, { name := "T_FLOAT", type := .int, accessFlags := 25, slot := 13, constantValue := 0 }, { name := "T_DOUBLE", type := .int, accessFlags := 25, slot := 14, constantValue := 0 }, { name := "T_BYTE", type := .int, accessFlags := 25, slot := 15, constantValue := 0 }, { name := "T_SHORT", type := .int, accessFlags := 25, slot := 16, constantValue := 0 }, { name := "T_INT", type := .int, accessFlags := 25, slot := 17, constantValue := 0 }, { name := "T_LONG", type := .int, accessFlags := 25, slot := 18, constantValue := 0 }, { name := "JLA", type := (.object "jdk/internal/access/JavaLangAccess"), accessFlags := 26, slot := 19, constantValue := 0 }, { name := "SOFT_MAX_ARRAY_LENGTH", type := .int, accessFlags := 25, slot := 20, constantValue := 0 }]
  methods := #[k34m0]
  instanceTypes := #[]
  staticTypes := #[(.object "jdk/internal/misc/Unsafe"), .boolean, .int, .int, .int, .int, .int, .int, .int, .int, .int, .int, .int, .int, .int, .int, .int, .int, .int, (.object "jdk/internal/access/JavaLangAccess"), .int]
  resolved := Array.replicate 378 none
  statics := none }

def pool35 : Array CpInfo := pool [(1, u "java/lang/Class"), (0, .class_ 1), (0, u "java/lang/Object"), (0, .class_ 3)] 3

def k35 : Class := { plain "java/lang/Class" (some 0) with
  accessFlags := 49
  interfaces := #[]
  cf := some (fileOf pool35 2 #[] #[] 49 4 #[] #[])
  fields := #[]
  methods := #[]
  instanceTypes := #[]
  staticTypes := #[]
  resolved := Array.replicate 8 none
  statics := none }

/-- the primitive byte -/
def k36 : Class := { plain "byte" none with kind := .primitive 'B', accessFlags := 0x411 }
/-- [B -/
def k37 : Class := { plain "[B" (some 0) with kind := .array 36 .byte, interfaces := #[15, 2], accessFlags := 1041 }

/-- the primitive char -/
def k38 : Class := { plain "char" none with kind := .primitive 'C', accessFlags := 0x411 }
/-- [C -/
def k39 : Class := { plain "[C" (some 0) with kind := .array 38 .char, interfaces := #[15, 2], accessFlags := 1041 }

/-- the primitive int -/
def k40 : Class := { plain "int" none with kind := .primitive 'I', accessFlags := 0x411 }
/-- [I -/
def k41 : Class := { plain "[I" (some 0) with kind := .array 40 .int, interfaces := #[15, 2], accessFlags := 1041 }

def k42 : Class := { plain "[Ljava/lang/Object;" (some 0) with kind := .array 0 (.object "java/lang/Object"), interfaces := #[15, 2], accessFlags := 1041, mirror := some 6 }

def heap : Heap := #[{ cls := 7, slots := #[.long 0, .int 1, .null, .int 0, .null, .int 0, .int 0], vm := .statics 7 },
  { cls := 16, slots := #[.long 0, .int 0, .ref 11, .ref 12], vm := .statics 16 },
  { cls := 20, slots := #[.ref 9, .null, .null, .null], vm := .statics 20 },
  { cls := 21, slots := #[.ref 10, .null, .null, .null], vm := .statics 21 },
  { cls := 22, slots := #[.long 0, .int 0, .null, .ref 13, .ref 8, .null, .null, .null, .int 0, .int 1], vm := .statics 22 },
  { cls := 33, slots := #[.null, .null, .null], vm := .statics 33 },
  { cls := 35, slots := #[], vm := .mirror 42 },
  { cls := 42, slots := #[], vm := .none },
  { cls := 26, slots := #[.ref 7, .int 0], vm := .none },
  { cls := 20, slots := #[.null, .int 0, .int 0, .int 0], vm := .none },
  { cls := 21, slots := #[.null, .int 0, .int 0], vm := .none },
  { cls := 42, slots := #[], vm := .none },
  { cls := 42, slots := #[], vm := .none },
  { cls := 0, slots := #[], vm := .none }]
def classes : Array Class := #[k0, k1, k2, k3, k4, k5, k6, k7, k8, k9, k10, k11, k12, k13, k14, k15, k16, k17, k18, k19, k20, k21, k22, k23, k24, k25, k26, k27, k28, k29, k30, k31, k32, k33, k34, k35, k36, k37, k38, k39, k40, k41, k42]
def interned : List (Array UInt16 × Addr) := []
def slotsUsed : Nat := 41
def theMethod : MethodId := ⟨1, 2⟩
def args0 : Array Value := #[.int 5, .int 5, .int 5, .int 5, .int 5, .int 5]
def aboutOver (below : List Frame) : State where
  vm := { classes := classes, interned := interned.toArray }
  heap := heap
  slotsUsed := slotsUsed
  threads := #[{ frames := .invoking theMethod args0 :: below }]
def below0 : List Frame := [.native { method := ⟨0, 0⟩, args := #[] }]
def about1 : State := aboutOver below0
def p0 : Program := .bare "" "" ""
def e0 : Env := launch0.env 0 0 0
theorem w_frames : about1.frames = Frame.invoking theMethod args0 :: below0 := rfl
set_option maxRecDepth 65536 in
theorem w_args : argsFit about1.vm theMethod args0 = true := by decide +kernel
set_option maxRecDepth 65536 in
theorem w_heap : heapFits about1 = true := by decide +kernel
set_option maxRecDepth 65536 in
theorem w_runnable : about1.curStatus? = some .runnable := by decide +kernel
set_option maxRecDepth 65536 in
theorem w_alone : about1.alone = true := by decide +kernel
set_option maxRecDepth 65536 in
theorem w_named : about1.methodNamed? x = some theMethod := by decide +kernel
set_option maxRecDepth 65536 in
theorem w_hears : about1.hears theMethod below0 = true := by decide +kernel
set_option maxRecDepth 65536 in
theorem w_ripe : about1.ripe theMethod args0 below0 = true := by decide +kernel
theorem w_running : about1.status = .running := rfl
set_option maxRecDepth 65536 in
theorem w_room : about1.hasRoom e0.platform room_1 = true :=
  launch0.hasRoom_least _ room_1 (by decide +kernel) (by decide +kernel) (by decide +kernel) (by decide +kernel) (by decide +kernel) (by decide +kernel)
theorem allAtoms_all (ts : List Jvm.Cond) (a : Array Jvm.Value) (st : Jvm.State) : (allAtoms ts).before a st = ts.all (fun c => c.before a st) := by
  induction ts with
  | nil => rfl
  | cons c t ih =>
    show (Jvm.Cond.and c (allAtoms t)).before a st = _
    rw [Jvm.Cond.before_and, ih, List.all_cons]
def words1 : List Jvm.Cond := Jvm.Cond.code x code maxLocals ret :: tables_1
/-- a 'code' word, met by the world's own term for the bytes: nothing is compared byte by byte -/
theorem code_word {y : MethodName} {bytes : ByteArray} {mx : Nat} {rt : Option FieldType} {a : Array Value} {s : State} {m : MethodId} {meth : Method} {c : Code} (h1 : s.methodNamed? y = some m) (h2 : s.vm.method? m = some meth) (h3 : meth.code = some c) (h4 : c.code = bytes)
    (h5 : (c.maxLocals == mx && c.exceptionTable.isEmpty && decide (c.maxStack ≤ mostOperands) && decide (meth.sig.returnType = rt) && !meth.locks && decide (parseMethodDescriptor y.desc = some meth.sig)) = true) : (Jvm.Cond.code y bytes mx rt).before a s = true := by
  simp only [Bool.and_eq_true, beq_iff_eq, Bool.not_eq_true', decide_eq_true_eq] at h5
  obtain ⟨⟨⟨⟨⟨g1, g2⟩, g3⟩, g4⟩, g5⟩, g6⟩ := h5
  simp [Cond.before, Cond.holds, Cond.value, h1, h2, h3, h4, g1, g2, g3, g4, g5, g6]
def isCode : Jvm.Cond → Bool
  | .code _ _ _ _ => true
  | _ => false
theorem all_split {L : List Jvm.Cond} {P : Jvm.Cond → Bool} (h1 : L.all (fun c => isCode c || P c) = true) (h2 : ∀ c ∈ L.filter isCode, P c = true) : L.all P = true := by
  refine List.all_eq_true.mpr fun c hc => ?_
  have h := List.all_eq_true.mp h1 c hc
  rcases Bool.eq_false_or_eq_true (isCode c) with hi | hi
  · exact h2 c (List.mem_filter.mpr ⟨hc, hi⟩)
  · simpa [hi] using h
set_option maxRecDepth 65536 in
theorem w_c0 : (Jvm.Cond.code x code maxLocals ret).before args0 about1 = true := code_word (m := ⟨1, 2⟩) (meth := k1m2) (c := k1c2) (by decide +kernel) rfl rfl rfl (by decide +kernel)
set_option maxRecDepth 65536 in
theorem w_c1 : (Jvm.Cond.code ({ cls := "com/example/tenacious_courier/tenaciouscourier/model/EndpointRegisteredPinLaw", name := "str", desc := "(I)Ljava/lang/String;" } : Jvm.MethodName) method_2_code (4 : Nat) (Option.some (Jvm.ClassFile.FieldType.object "java/lang/String"))).before args0 about1 = true := code_word (m := ⟨1, 1⟩) (meth := k1m1) (c := k1c1) (by decide +kernel) rfl rfl rfl (by decide +kernel)
set_option maxRecDepth 65536 in
theorem w_c2 : (Jvm.Cond.code ({ cls := "java/lang/String", name := "<init>", desc := "([C)V" } : Jvm.MethodName) jdk_42_method_3_code (2 : Nat) (Option.none : Option Jvm.ClassFile.FieldType)).before args0 about1 = true := code_word (m := ⟨7, 1⟩) (meth := k7m1) (c := k7c1) (by decide +kernel) rfl rfl rfl (by decide +kernel)
set_option maxRecDepth 65536 in
theorem w_c3 : (Jvm.Cond.code ({ cls := "java/lang/String", name := "<init>", desc := "([CIILjava/lang/Void;)V" } : Jvm.MethodName) jdk_42_method_149_code (6 : Nat) (Option.none : Option Jvm.ClassFile.FieldType)).before args0 about1 = true := code_word (m := ⟨7, 3⟩) (meth := k7m3) (c := k7c3) (by decide +kernel) rfl rfl rfl (by decide +kernel)
set_option maxRecDepth 65536 in
theorem w_c4 : (Jvm.Cond.code ({ cls := "java/lang/Object", name := "<init>", desc := "()V" } : Jvm.MethodName) object_method_1_code (1 : Nat) (Option.none : Option Jvm.ClassFile.FieldType)).before args0 about1 = true := code_word (m := ⟨0, 0⟩) (meth := k0m0) (c := k0c0) (by decide +kernel) rfl rfl rfl (by decide +kernel)
set_option maxRecDepth 65536 in
theorem w_c5 : (Jvm.Cond.code ({ cls := "java/util/ArrayList", name := "<init>", desc := "()V" } : Jvm.MethodName) jdk_38_method_2_code (1 : Nat) (Option.none : Option Jvm.ClassFile.FieldType)).before args0 about1 = true := code_word (m := ⟨16, 0⟩) (meth := k16m0) (c := k16c0) (by decide +kernel) rfl rfl rfl (by decide +kernel)
set_option maxRecDepth 65536 in
theorem w_c6 : (Jvm.Cond.code ({ cls := "java/util/AbstractList", name := "<init>", desc := "()V" } : Jvm.MethodName) jdk_39_method_1_code (1 : Nat) (Option.none : Option Jvm.ClassFile.FieldType)).before args0 about1 = true := code_word (m := ⟨13, 0⟩) (meth := k13m0) (c := k13c0) (by decide +kernel) rfl rfl rfl (by decide +kernel)
set_option maxRecDepth 65536 in
theorem w_c7 : (Jvm.Cond.code ({ cls := "java/util/AbstractCollection", name := "<init>", desc := "()V" } : Jvm.MethodName) jdk_22_method_1_code (1 : Nat) (Option.none : Option Jvm.ClassFile.FieldType)).before args0 about1 = true := code_word (m := ⟨10, 0⟩) (meth := k10m0) (c := k10c0) (by decide +kernel) rfl rfl rfl (by decide +kernel)
set_option maxRecDepth 65536 in
theorem w_c8 : (Jvm.Cond.code ({ cls := "com/example/tenacious_courier/tenaciouscourier/model/Endpoint", name := "registered", desc := "(Ljava/lang/String;Ljava/lang/String;Ljava/lang/String;Ljava/util/List;)Lcom/example/tenacious_courier/tenaciouscourier/model/Endpoint;" } : Jvm.MethodName) prog_18_method_2_code (4 : Nat) (Option.some (Jvm.ClassFile.FieldType.object "com/example/tenacious_courier/tenaciouscourier/model/Endpoint"))).before args0 about1 = true := code_word (m := ⟨17, 1⟩) (meth := k17m1) (c := k17c1) (by decide +kernel) rfl rfl rfl (by decide +kernel)
set_option maxRecDepth 65536 in
theorem w_c9 : (Jvm.Cond.code ({ cls := "com/example/tenacious_courier/tenaciouscourier/model/Endpoint", name := "<init>", desc := "(Ljava/lang/String;Ljava/lang/String;Ljava/lang/String;Ljava/util/List;Lcom/example/tenacious_courier/tenaciouscourier/model/EndpointStatus;Lcom/example/tenacious_courier/tenaciouscourier/model/DisabledReason;Ljava/time/Instant;Lcom/example/tenacious_courier/tenaciouscourier/model/BreakerState;I)V" } : Jvm.MethodName) prog_18_method_1_code (10 : Nat) (Option.none : Option Jvm.ClassFile.FieldType)).before args0 about1 = true := code_word (m := ⟨17, 0⟩) (meth := k17m0) (c := k17c0) (by decide +kernel) rfl rfl rfl (by decide +kernel)
set_option maxRecDepth 65536 in
theorem w_c10 : (Jvm.Cond.code ({ cls := "java/util/List", name := "copyOf", desc := "(Ljava/util/Collection;)Ljava/util/List;" } : Jvm.MethodName) jdk_40_method_48_code (1 : Nat) (Option.some (Jvm.ClassFile.FieldType.object "java/util/List"))).before args0 about1 = true := code_word (m := ⟨12, 5⟩) (meth := k12m5) (c := k12c5) (by decide +kernel) rfl rfl rfl (by decide +kernel)
set_option maxRecDepth 65536 in
theorem w_c11 : (Jvm.Cond.code ({ cls := "java/util/ImmutableCollections", name := "listCopy", desc := "(Ljava/util/Collection;)Ljava/util/List;" } : Jvm.MethodName) jdk_56_method_3_code (2 : Nat) (Option.some (Jvm.ClassFile.FieldType.object "java/util/List"))).before args0 about1 = true := code_word (m := ⟨22, 1⟩) (meth := k22m1) (c := k22c1) (by decide +kernel) rfl rfl rfl (by decide +kernel)
set_option maxRecDepth 65536 in
theorem w_c12 : (Jvm.Cond.code ({ cls := "java/util/ArrayList", name := "isEmpty", desc := "()Z" } : Jvm.MethodName) jdk_38_method_9_code (1 : Nat) (Option.some Jvm.ClassFile.FieldType.boolean)).before args0 about1 = true := code_word (m := ⟨16, 3⟩) (meth := k16m3) (c := k16c3) (by decide +kernel) rfl rfl rfl (by decide +kernel)
set_option maxRecDepth 65536 in
theorem w_c13 : (Jvm.Cond.code ({ cls := "java/util/List", name := "of", desc := "()Ljava/util/List;" } : Jvm.MethodName) jdk_40_method_36_code (0 : Nat) (Option.some (Jvm.ClassFile.FieldType.object "java/util/List"))).before args0 about1 = true := code_word (m := ⟨12, 3⟩) (meth := k12m3) (c := k12c3) (by decide +kernel) rfl rfl rfl (by decide +kernel)
set_option maxRecDepth 65536 in
theorem w_c14 : (Jvm.Cond.code ({ cls := "java/util/ArrayList", name := "add", desc := "(Ljava/lang/Object;)Z" } : Jvm.MethodName) jdk_38_method_25_code (2 : Nat) (Option.some Jvm.ClassFile.FieldType.boolean)).before args0 about1 = true := code_word (m := ⟨16, 6⟩) (meth := k16m6) (c := k16c6) (by decide +kernel) rfl rfl rfl (by decide +kernel)
set_option maxRecDepth 65536 in
theorem w_c15 : (Jvm.Cond.code ({ cls := "java/util/ArrayList", name := "add", desc := "(Ljava/lang/Object;[Ljava/lang/Object;I)V" } : Jvm.MethodName) jdk_38_method_24_code (4 : Nat) (Option.none : Option Jvm.ClassFile.FieldType)).before args0 about1 = true := code_word (m := ⟨16, 5⟩) (meth := k16m5) (c := k16c5) (by decide +kernel) rfl rfl rfl (by decide +kernel)
set_option maxRecDepth 65536 in
theorem w_c16 : (Jvm.Cond.code ({ cls := "java/util/ArrayList", name := "grow", desc := "()[Ljava/lang/Object;" } : Jvm.MethodName) jdk_38_method_7_code (1 : Nat) (Option.some (Jvm.ClassFile.FieldType.array (Jvm.ClassFile.FieldType.object "java/lang/Object")))).before args0 about1 = true := code_word (m := ⟨16, 2⟩) (meth := k16m2) (c := k16c2) (by decide +kernel) rfl rfl rfl (by decide +kernel)
set_option maxRecDepth 65536 in
theorem w_c17 : (Jvm.Cond.code ({ cls := "java/util/ArrayList", name := "grow", desc := "(I)[Ljava/lang/Object;" } : Jvm.MethodName) jdk_38_method_6_code (4 : Nat) (Option.some (Jvm.ClassFile.FieldType.array (Jvm.ClassFile.FieldType.object "java/lang/Object")))).before args0 about1 = true := code_word (m := ⟨16, 1⟩) (meth := k16m1) (c := k16c1) (by decide +kernel) rfl rfl rfl (by decide +kernel)
set_option maxRecDepth 65536 in
theorem w_c18 : (Jvm.Cond.code ({ cls := "java/lang/Math", name := "max", desc := "(II)I" } : Jvm.MethodName) jdk_29_method_65_code (2 : Nat) (Option.some Jvm.ClassFile.FieldType.int)).before args0 about1 = true := code_word (m := ⟨27, 1⟩) (meth := k27m1) (c := k27c1) (by decide +kernel) rfl rfl rfl (by decide +kernel)
set_option maxRecDepth 65536 in
theorem w_c19 : (Jvm.Cond.code ({ cls := "com/example/tenacious_courier/tenaciouscourier/model/Endpoint", name := "eventTypes", desc := "()Ljava/util/List;" } : Jvm.MethodName) prog_18_method_6_code (1 : Nat) (Option.some (Jvm.ClassFile.FieldType.object "java/util/List"))).before args0 about1 = true := code_word (m := ⟨17, 5⟩) (meth := k17m5) (c := k17c5) (by decide +kernel) rfl rfl rfl (by decide +kernel)
set_option maxRecDepth 65536 in
theorem w_c20 : (Jvm.Cond.code ({ cls := "java/util/ImmutableCollections$ListN", name := "size", desc := "()I" } : Jvm.MethodName) jdk_45_method_3_code (1 : Nat) (Option.some Jvm.ClassFile.FieldType.int)).before args0 about1 = true := code_word (m := ⟨26, 1⟩) (meth := k26m1) (c := k26c1) (by decide +kernel) rfl rfl rfl (by decide +kernel)
set_option maxRecDepth 65536 in
theorem w_c21 : (Jvm.Cond.code ({ cls := "com/example/tenacious_courier/tenaciouscourier/model/Endpoint", name := "id", desc := "()Ljava/lang/String;" } : Jvm.MethodName) prog_18_method_3_code (1 : Nat) (Option.some (Jvm.ClassFile.FieldType.object "java/lang/String"))).before args0 about1 = true := code_word (m := ⟨17, 2⟩) (meth := k17m2) (c := k17c2) (by decide +kernel) rfl rfl rfl (by decide +kernel)
set_option maxRecDepth 65536 in
theorem w_c22 : (Jvm.Cond.code ({ cls := "java/lang/String", name := "equals", desc := "(Ljava/lang/Object;)Z" } : Jvm.MethodName) jdk_42_method_66_code (3 : Nat) (Option.some Jvm.ClassFile.FieldType.boolean)).before args0 about1 = true := code_word (m := ⟨7, 2⟩) (meth := k7m2) (c := k7c2) (by decide +kernel) rfl rfl rfl (by decide +kernel)
set_option maxRecDepth 65536 in
theorem w_c23 : (Jvm.Cond.code ({ cls := "com/example/tenacious_courier/tenaciouscourier/model/Endpoint", name := "tenant", desc := "()Ljava/lang/String;" } : Jvm.MethodName) prog_18_method_4_code (1 : Nat) (Option.some (Jvm.ClassFile.FieldType.object "java/lang/String"))).before args0 about1 = true := code_word (m := ⟨17, 3⟩) (meth := k17m3) (c := k17c3) (by decide +kernel) rfl rfl rfl (by decide +kernel)
set_option maxRecDepth 65536 in
theorem w_c24 : (Jvm.Cond.code ({ cls := "com/example/tenacious_courier/tenaciouscourier/model/Endpoint", name := "url", desc := "()Ljava/lang/String;" } : Jvm.MethodName) prog_18_method_5_code (1 : Nat) (Option.some (Jvm.ClassFile.FieldType.object "java/lang/String"))).before args0 about1 = true := code_word (m := ⟨17, 4⟩) (meth := k17m4) (c := k17c4) (by decide +kernel) rfl rfl rfl (by decide +kernel)
set_option maxRecDepth 65536 in
theorem w_c25 : (Jvm.Cond.code ({ cls := "com/example/tenacious_courier/tenaciouscourier/model/Endpoint", name := "status", desc := "()Lcom/example/tenacious_courier/tenaciouscourier/model/EndpointStatus;" } : Jvm.MethodName) prog_18_method_7_code (1 : Nat) (Option.some (Jvm.ClassFile.FieldType.object "com/example/tenacious_courier/tenaciouscourier/model/EndpointStatus"))).before args0 about1 = true := code_word (m := ⟨17, 6⟩) (meth := k17m6) (c := k17c6) (by decide +kernel) rfl rfl rfl (by decide +kernel)
set_option maxRecDepth 65536 in
theorem w_c26 : (Jvm.Cond.code ({ cls := "com/example/tenacious_courier/tenaciouscourier/model/Endpoint", name := "disabledReason", desc := "()Lcom/example/tenacious_courier/tenaciouscourier/model/DisabledReason;" } : Jvm.MethodName) prog_18_method_8_code (1 : Nat) (Option.some (Jvm.ClassFile.FieldType.object "com/example/tenacious_courier/tenaciouscourier/model/DisabledReason"))).before args0 about1 = true := code_word (m := ⟨17, 7⟩) (meth := k17m7) (c := k17c7) (by decide +kernel) rfl rfl rfl (by decide +kernel)
set_option maxRecDepth 65536 in
theorem w_c27 : (Jvm.Cond.code ({ cls := "com/example/tenacious_courier/tenaciouscourier/model/Endpoint", name := "disabledAt", desc := "()Ljava/time/Instant;" } : Jvm.MethodName) prog_18_method_9_code (1 : Nat) (Option.some (Jvm.ClassFile.FieldType.object "java/time/Instant"))).before args0 about1 = true := code_word (m := ⟨17, 8⟩) (meth := k17m8) (c := k17c8) (by decide +kernel) rfl rfl rfl (by decide +kernel)
set_option maxRecDepth 65536 in
theorem w_c28 : (Jvm.Cond.code ({ cls := "com/example/tenacious_courier/tenaciouscourier/model/Endpoint", name := "breaker", desc := "()Lcom/example/tenacious_courier/tenaciouscourier/model/BreakerState;" } : Jvm.MethodName) prog_18_method_10_code (1 : Nat) (Option.some (Jvm.ClassFile.FieldType.object "com/example/tenacious_courier/tenaciouscourier/model/BreakerState"))).before args0 about1 = true := code_word (m := ⟨17, 9⟩) (meth := k17m9) (c := k17c9) (by decide +kernel) rfl rfl rfl (by decide +kernel)
set_option maxRecDepth 65536 in
theorem w_c29 : (Jvm.Cond.code ({ cls := "com/example/tenacious_courier/tenaciouscourier/model/Endpoint", name := "consecutiveFailures", desc := "()I" } : Jvm.MethodName) prog_18_method_11_code (1 : Nat) (Option.some Jvm.ClassFile.FieldType.int)).before args0 about1 = true := code_word (m := ⟨17, 10⟩) (meth := k17m10) (c := k17c10) (by decide +kernel) rfl rfl rfl (by decide +kernel)
set_option maxRecDepth 65536 in
theorem w_c30 : (Jvm.Cond.code ({ cls := "java/lang/StringUTF16", name := "compress", desc := "([CII)[B" } : Jvm.MethodName) jdk_52_method_16_code (6 : Nat) (Option.some (Jvm.ClassFile.FieldType.array Jvm.ClassFile.FieldType.byte))).before args0 about1 = true := code_word (m := ⟨28, 2⟩) (meth := k28m2) (c := k28c2) (by decide +kernel) rfl rfl rfl (by decide +kernel)
set_option maxRecDepth 65536 in
theorem w_c31 : (Jvm.Cond.code ({ cls := "java/lang/StringUTF16", name := "compress", desc := "([CI[BII)I" } : Jvm.MethodName) jdk_52_method_21_code (7 : Nat) (Option.some Jvm.ClassFile.FieldType.int)).before args0 about1 = true := code_word (m := ⟨28, 3⟩) (meth := k28m3) (c := k28c3) (by decide +kernel) rfl rfl rfl (by decide +kernel)
set_option maxRecDepth 65536 in
theorem w_c32 : (Jvm.Cond.code ({ cls := "java/lang/StringUTF16", name := "coderFromArrayLen", desc := "([BI)B" } : Jvm.MethodName) jdk_52_method_15_code (2 : Nat) (Option.some Jvm.ClassFile.FieldType.byte)).before args0 about1 = true := code_word (m := ⟨28, 1⟩) (meth := k28m1) (c := k28c1) (by decide +kernel) rfl rfl rfl (by decide +kernel)
set_option maxRecDepth 65536 in
theorem w_c33 : (Jvm.Cond.code ({ cls := "java/util/ArrayList", name := "toArray", desc := "()[Ljava/lang/Object;" } : Jvm.MethodName) jdk_38_method_16_code (1 : Nat) (Option.some (Jvm.ClassFile.FieldType.array (Jvm.ClassFile.FieldType.object "java/lang/Object")))).before args0 about1 = true := code_word (m := ⟨16, 4⟩) (meth := k16m4) (c := k16c4) (by decide +kernel) rfl rfl rfl (by decide +kernel)
set_option maxRecDepth 65536 in
theorem w_c34 : (Jvm.Cond.code ({ cls := "java/util/Arrays", name := "copyOf", desc := "([Ljava/lang/Object;I)[Ljava/lang/Object;" } : Jvm.MethodName) jdk_65_method_119_code (2 : Nat) (Option.some (Jvm.ClassFile.FieldType.array (Jvm.ClassFile.FieldType.object "java/lang/Object")))).before args0 about1 = true := code_word (m := ⟨29, 1⟩) (meth := k29m1) (c := k29c1) (by decide +kernel) rfl rfl rfl (by decide +kernel)
set_option maxRecDepth 65536 in
theorem w_c35 : (Jvm.Cond.code ({ cls := "java/util/Arrays", name := "copyOf", desc := "([Ljava/lang/Object;ILjava/lang/Class;)[Ljava/lang/Object;" } : Jvm.MethodName) jdk_65_method_120_code (4 : Nat) (Option.some (Jvm.ClassFile.FieldType.array (Jvm.ClassFile.FieldType.object "java/lang/Object")))).before args0 about1 = true := code_word (m := ⟨29, 2⟩) (meth := k29m2) (c := k29c2) (by decide +kernel) rfl rfl rfl (by decide +kernel)
set_option maxRecDepth 65536 in
theorem w_c36 : (Jvm.Cond.code ({ cls := "java/lang/Math", name := "min", desc := "(II)I" } : Jvm.MethodName) jdk_29_method_69_code (2 : Nat) (Option.some Jvm.ClassFile.FieldType.int)).before args0 about1 = true := code_word (m := ⟨27, 2⟩) (meth := k27m2) (c := k27c2) (by decide +kernel) rfl rfl rfl (by decide +kernel)
set_option maxRecDepth 65536 in
theorem w_c37 : (Jvm.Cond.code ({ cls := "java/util/List", name := "of", desc := "([Ljava/lang/Object;)Ljava/util/List;" } : Jvm.MethodName) jdk_40_method_47_code (2 : Nat) (Option.some (Jvm.ClassFile.FieldType.object "java/util/List"))).before args0 about1 = true := code_word (m := ⟨12, 4⟩) (meth := k12m4) (c := k12c4) (by decide +kernel) rfl rfl rfl (by decide +kernel)
set_option maxRecDepth 65536 in
theorem w_c38 : (Jvm.Cond.code ({ cls := "java/util/ImmutableCollections$List12", name := "<init>", desc := "(Ljava/lang/Object;Ljava/lang/Object;)V" } : Jvm.MethodName) jdk_44_method_2_code (3 : Nat) (Option.none : Option Jvm.ClassFile.FieldType)).before args0 about1 = true := code_word (m := ⟨25, 1⟩) (meth := k25m1) (c := k25c1) (by decide +kernel) rfl rfl rfl (by decide +kernel)
set_option maxRecDepth 65536 in
theorem w_c39 : (Jvm.Cond.code ({ cls := "java/util/ImmutableCollections$AbstractImmutableList", name := "<init>", desc := "()V" } : Jvm.MethodName) jdk_46_method_1_code (1 : Nat) (Option.none : Option Jvm.ClassFile.FieldType)).before args0 about1 = true := code_word (m := ⟨24, 0⟩) (meth := k24m0) (c := k24c0) (by decide +kernel) rfl rfl rfl (by decide +kernel)
set_option maxRecDepth 65536 in
theorem w_c40 : (Jvm.Cond.code ({ cls := "java/util/ImmutableCollections$AbstractImmutableCollection", name := "<init>", desc := "()V" } : Jvm.MethodName) jdk_47_method_1_code (1 : Nat) (Option.none : Option Jvm.ClassFile.FieldType)).before args0 about1 = true := code_word (m := ⟨23, 0⟩) (meth := k23m0) (c := k23c0) (by decide +kernel) rfl rfl rfl (by decide +kernel)
set_option maxRecDepth 65536 in
theorem w_c41 : (Jvm.Cond.code ({ cls := "java/util/Objects", name := "requireNonNull", desc := "(Ljava/lang/Object;)Ljava/lang/Object;" } : Jvm.MethodName) jdk_31_method_10_code (1 : Nat) (Option.some (Jvm.ClassFile.FieldType.object "java/lang/Object"))).before args0 about1 = true := code_word (m := ⟨31, 1⟩) (meth := k31m1) (c := k31c1) (by decide +kernel) rfl rfl rfl (by decide +kernel)
set_option maxRecDepth 65536 in
theorem w_c42 : (Jvm.Cond.code ({ cls := "java/util/ImmutableCollections$List12", name := "size", desc := "()I" } : Jvm.MethodName) jdk_44_method_3_code (1 : Nat) (Option.some Jvm.ClassFile.FieldType.int)).before args0 about1 = true := code_word (m := ⟨25, 2⟩) (meth := k25m2) (c := k25c2) (by decide +kernel) rfl rfl rfl (by decide +kernel)
set_option maxRecDepth 65536 in
theorem w_c43 : (Jvm.Cond.code ({ cls := "java/util/ImmutableCollections$List12", name := "get", desc := "(I)Ljava/lang/Object;" } : Jvm.MethodName) jdk_44_method_5_code (2 : Nat) (Option.some (Jvm.ClassFile.FieldType.object "java/lang/Object"))).before args0 about1 = true := code_word (m := ⟨25, 3⟩) (meth := k25m3) (c := k25c3) (by decide +kernel) rfl rfl rfl (by decide +kernel)
set_option maxRecDepth 65536 in
theorem w_c44 : (Jvm.Cond.code ({ cls := "java/util/ImmutableCollections", name := "listFromArray", desc := "([Ljava/lang/Object;)Ljava/util/List;" } : Jvm.MethodName) jdk_56_method_4_code (3 : Nat) (Option.some (Jvm.ClassFile.FieldType.object "java/util/List"))).before args0 about1 = true := code_word (m := ⟨22, 2⟩) (meth := k22m2) (c := k22c2) (by decide +kernel) rfl rfl rfl (by decide +kernel)
set_option maxRecDepth 65536 in
theorem w_c45 : (Jvm.Cond.code ({ cls := "java/util/ImmutableCollections$ListN", name := "<init>", desc := "([Ljava/lang/Object;Z)V" } : Jvm.MethodName) jdk_45_method_1_code (3 : Nat) (Option.none : Option Jvm.ClassFile.FieldType)).before args0 about1 = true := code_word (m := ⟨26, 0⟩) (meth := k26m0) (c := k26c0) (by decide +kernel) rfl rfl rfl (by decide +kernel)
set_option maxRecDepth 65536 in
theorem w_c46 : (Jvm.Cond.code ({ cls := "java/util/ImmutableCollections$ListN", name := "get", desc := "(I)Ljava/lang/Object;" } : Jvm.MethodName) jdk_45_method_4_code (2 : Nat) (Option.some (Jvm.ClassFile.FieldType.object "java/lang/Object"))).before args0 about1 = true := code_word (m := ⟨26, 2⟩) (meth := k26m2) (c := k26c2) (by decide +kernel) rfl rfl rfl (by decide +kernel)
set_option maxRecDepth 65536 in
theorem w_c47 : (Jvm.Cond.code ({ cls := "java/util/ImmutableCollections$List12", name := "<init>", desc := "(Ljava/lang/Object;)V" } : Jvm.MethodName) jdk_44_method_1_code (2 : Nat) (Option.none : Option Jvm.ClassFile.FieldType)).before args0 about1 = true := code_word (m := ⟨25, 0⟩) (meth := k25m0) (c := k25c0) (by decide +kernel) rfl rfl rfl (by decide +kernel)
def codes1 : List Jvm.Cond := [Jvm.Cond.code x code maxLocals ret, Jvm.Cond.code ({ cls := "com/example/tenacious_courier/tenaciouscourier/model/EndpointRegisteredPinLaw", name := "str", desc := "(I)Ljava/lang/String;" } : Jvm.MethodName) method_2_code (4 : Nat) (Option.some (Jvm.ClassFile.FieldType.object "java/lang/String")), Jvm.Cond.code ({ cls := "java/lang/String", name := "<init>", desc := "([C)V" } : Jvm.MethodName) jdk_42_method_3_code (2 : Nat) (Option.none : Option Jvm.ClassFile.FieldType), Jvm.Cond.code ({ cls := "java/lang/String", name := "<init>", desc := "([CIILjava/lang/Void;)V" } : Jvm.MethodName) jdk_42_method_149_code (6 : Nat) (Option.none : Option Jvm.ClassFile.FieldType), Jvm.Cond.code ({ cls := "java/lang/Object", name := "<init>", desc := "()V" } : Jvm.MethodName) object_method_1_code (1 : Nat) (Option.none : Option Jvm.ClassFile.FieldType), Jvm.Cond.code ({ cls := "java/util/ArrayList", name := "<init>", desc := "()V" } : Jvm.MethodName) jdk_38_method_2_code (1 : Nat) (Option.none : Option Jvm.ClassFile.FieldType), Jvm.Cond.code ({ cls := "java/util/AbstractList", name := "<init>", desc := "()V" } : Jvm.MethodName) jdk_39_method_1_code (1 : Nat) (Option.none : Option Jvm.ClassFile.FieldType), Jvm.Cond.code ({ cls := "java/util/AbstractCollection", name := "<init>", desc := "()V" } : Jvm.MethodName) jdk_22_method_1_code (1 : Nat) (Option.none : Option Jvm.ClassFile.FieldType), Jvm.Cond.code ({ cls := "com/example/tenacious_courier/tenaciouscourier/model/Endpoint", name := "registered", desc := "(Ljava/lang/String;Ljava/lang/String;Ljava/lang/String;Ljava/util/List;)Lcom/example/tenacious_courier/tenaciouscourier/model/Endpoint;" } : Jvm.MethodName) prog_18_method_2_code (4 : Nat) (Option.some (Jvm.ClassFile.FieldType.object "com/example/tenacious_courier/tenaciouscourier/model/Endpoint")), Jvm.Cond.code ({ cls := "com/example/tenacious_courier/tenaciouscourier/model/Endpoint", name := "<init>", desc := "(Ljava/lang/String;Ljava/lang/String;Ljava/lang/String;Ljava/util/List;Lcom/example/tenacious_courier/tenaciouscourier/model/EndpointStatus;Lcom/example/tenacious_courier/tenaciouscourier/model/DisabledReason;Ljava/time/Instant;Lcom/example/tenacious_courier/tenaciouscourier/model/BreakerState;I)V" } : Jvm.MethodName) prog_18_method_1_code (10 : Nat) (Option.none : Option Jvm.ClassFile.FieldType), Jvm.Cond.code ({ cls := "java/util/List", name := "copyOf", desc := "(Ljava/util/Collection;)Ljava/util/List;" } : Jvm.MethodName) jdk_40_method_48_code (1 : Nat) (Option.some (Jvm.ClassFile.FieldType.object "java/util/List")), Jvm.Cond.code ({ cls := "java/util/ImmutableCollections", name := "listCopy", desc := "(Ljava/util/Collection;)Ljava/util/List;" } : Jvm.MethodName) jdk_56_method_3_code (2 : Nat) (Option.some (Jvm.ClassFile.FieldType.object "java/util/List")), Jvm.Cond.code ({ cls := "java/util/ArrayList", name := "isEmpty", desc := "()Z" } : Jvm.MethodName) jdk_38_method_9_code (1 : Nat) (Option.some Jvm.ClassFile.FieldType.boolean), Jvm.Cond.code ({ cls := "java/util/List", name := "of", desc := "()Ljava/util/List;" } : Jvm.MethodName) jdk_40_method_36_code (0 : Nat) (Option.some (Jvm.ClassFile.FieldType.object "java/util/List")), Jvm.Cond.code ({ cls := "java/util/ArrayList", name := "add", desc := "(Ljava/lang/Object;)Z" } : Jvm.MethodName) jdk_38_method_25_code (2 : Nat) (Option.some Jvm.ClassFile.FieldType.boolean), Jvm.Cond.code ({ cls := "java/util/ArrayList", name := "add", desc := "(Ljava/lang/Object;[Ljava/lang/Object;I)V" } : Jvm.MethodName) jdk_38_method_24_code (4 : Nat) (Option.none : Option Jvm.ClassFile.FieldType), Jvm.Cond.code ({ cls := "java/util/ArrayList", name := "grow", desc := "()[Ljava/lang/Object;" } : Jvm.MethodName) jdk_38_method_7_code (1 : Nat) (Option.some (Jvm.ClassFile.FieldType.array (Jvm.ClassFile.FieldType.object "java/lang/Object"))), Jvm.Cond.code ({ cls := "java/util/ArrayList", name := "grow", desc := "(I)[Ljava/lang/Object;" } : Jvm.MethodName) jdk_38_method_6_code (4 : Nat) (Option.some (Jvm.ClassFile.FieldType.array (Jvm.ClassFile.FieldType.object "java/lang/Object"))), Jvm.Cond.code ({ cls := "java/lang/Math", name := "max", desc := "(II)I" } : Jvm.MethodName) jdk_29_method_65_code (2 : Nat) (Option.some Jvm.ClassFile.FieldType.int), Jvm.Cond.code ({ cls := "com/example/tenacious_courier/tenaciouscourier/model/Endpoint", name := "eventTypes", desc := "()Ljava/util/List;" } : Jvm.MethodName) prog_18_method_6_code (1 : Nat) (Option.some (Jvm.ClassFile.FieldType.object "java/util/List")), Jvm.Cond.code ({ cls := "java/util/ImmutableCollections$ListN", name := "size", desc := "()I" } : Jvm.MethodName) jdk_45_method_3_code (1 : Nat) (Option.some Jvm.ClassFile.FieldType.int), Jvm.Cond.code ({ cls := "com/example/tenacious_courier/tenaciouscourier/model/Endpoint", name := "id", desc := "()Ljava/lang/String;" } : Jvm.MethodName) prog_18_method_3_code (1 : Nat) (Option.some (Jvm.ClassFile.FieldType.object "java/lang/String")), Jvm.Cond.code ({ cls := "java/lang/String", name := "equals", desc := "(Ljava/lang/Object;)Z" } : Jvm.MethodName) jdk_42_method_66_code (3 : Nat) (Option.some Jvm.ClassFile.FieldType.boolean), Jvm.Cond.code ({ cls := "com/example/tenacious_courier/tenaciouscourier/model/Endpoint", name := "tenant", desc := "()Ljava/lang/String;" } : Jvm.MethodName) prog_18_method_4_code (1 : Nat) (Option.some (Jvm.ClassFile.FieldType.object "java/lang/String")), Jvm.Cond.code ({ cls := "com/example/tenacious_courier/tenaciouscourier/model/Endpoint", name := "url", desc := "()Ljava/lang/String;" } : Jvm.MethodName) prog_18_method_5_code (1 : Nat) (Option.some (Jvm.ClassFile.FieldType.object "java/lang/String")), Jvm.Cond.code ({ cls := "com/example/tenacious_courier/tenaciouscourier/model/Endpoint", name := "status", desc := "()Lcom/example/tenacious_courier/tenaciouscourier/model/EndpointStatus;" } : Jvm.MethodName) prog_18_method_7_code (1 : Nat) (Option.some (Jvm.ClassFile.FieldType.object "com/example/tenacious_courier/tenaciouscourier/model/EndpointStatus")), Jvm.Cond.code ({ cls := "com/example/tenacious_courier/tenaciouscourier/model/Endpoint", name := "disabledReason", desc := "()Lcom/example/tenacious_courier/tenaciouscourier/model/DisabledReason;" } : Jvm.MethodName) prog_18_method_8_code (1 : Nat) (Option.some (Jvm.ClassFile.FieldType.object "com/example/tenacious_courier/tenaciouscourier/model/DisabledReason")), Jvm.Cond.code ({ cls := "com/example/tenacious_courier/tenaciouscourier/model/Endpoint", name := "disabledAt", desc := "()Ljava/time/Instant;" } : Jvm.MethodName) prog_18_method_9_code (1 : Nat) (Option.some (Jvm.ClassFile.FieldType.object "java/time/Instant")), Jvm.Cond.code ({ cls := "com/example/tenacious_courier/tenaciouscourier/model/Endpoint", name := "breaker", desc := "()Lcom/example/tenacious_courier/tenaciouscourier/model/BreakerState;" } : Jvm.MethodName) prog_18_method_10_code (1 : Nat) (Option.some (Jvm.ClassFile.FieldType.object "com/example/tenacious_courier/tenaciouscourier/model/BreakerState")), Jvm.Cond.code ({ cls := "com/example/tenacious_courier/tenaciouscourier/model/Endpoint", name := "consecutiveFailures", desc := "()I" } : Jvm.MethodName) prog_18_method_11_code (1 : Nat) (Option.some Jvm.ClassFile.FieldType.int), Jvm.Cond.code ({ cls := "java/lang/StringUTF16", name := "compress", desc := "([CII)[B" } : Jvm.MethodName) jdk_52_method_16_code (6 : Nat) (Option.some (Jvm.ClassFile.FieldType.array Jvm.ClassFile.FieldType.byte)), Jvm.Cond.code ({ cls := "java/lang/StringUTF16", name := "compress", desc := "([CI[BII)I" } : Jvm.MethodName) jdk_52_method_21_code (7 : Nat) (Option.some Jvm.ClassFile.FieldType.int), Jvm.Cond.code ({ cls := "java/lang/StringUTF16", name := "coderFromArrayLen", desc := "([BI)B" } : Jvm.MethodName) jdk_52_method_15_code (2 : Nat) (Option.some Jvm.ClassFile.FieldType.byte), Jvm.Cond.code ({ cls := "java/util/ArrayList", name := "toArray", desc := "()[Ljava/lang/Object;" } : Jvm.MethodName) jdk_38_method_16_code (1 : Nat) (Option.some (Jvm.ClassFile.FieldType.array (Jvm.ClassFile.FieldType.object "java/lang/Object"))), Jvm.Cond.code ({ cls := "java/util/Arrays", name := "copyOf", desc := "([Ljava/lang/Object;I)[Ljava/lang/Object;" } : Jvm.MethodName) jdk_65_method_119_code (2 : Nat) (Option.some (Jvm.ClassFile.FieldType.array (Jvm.ClassFile.FieldType.object "java/lang/Object"))), Jvm.Cond.code ({ cls := "java/util/Arrays", name := "copyOf", desc := "([Ljava/lang/Object;ILjava/lang/Class;)[Ljava/lang/Object;" } : Jvm.MethodName) jdk_65_method_120_code (4 : Nat) (Option.some (Jvm.ClassFile.FieldType.array (Jvm.ClassFile.FieldType.object "java/lang/Object"))), Jvm.Cond.code ({ cls := "java/lang/Math", name := "min", desc := "(II)I" } : Jvm.MethodName) jdk_29_method_69_code (2 : Nat) (Option.some Jvm.ClassFile.FieldType.int), Jvm.Cond.code ({ cls := "java/util/List", name := "of", desc := "([Ljava/lang/Object;)Ljava/util/List;" } : Jvm.MethodName) jdk_40_method_47_code (2 : Nat) (Option.some (Jvm.ClassFile.FieldType.object "java/util/List")), Jvm.Cond.code ({ cls := "java/util/ImmutableCollections$List12", name := "<init>", desc := "(Ljava/lang/Object;Ljava/lang/Object;)V" } : Jvm.MethodName) jdk_44_method_2_code (3 : Nat) (Option.none : Option Jvm.ClassFile.FieldType), Jvm.Cond.code ({ cls := "java/util/ImmutableCollections$AbstractImmutableList", name := "<init>", desc := "()V" } : Jvm.MethodName) jdk_46_method_1_code (1 : Nat) (Option.none : Option Jvm.ClassFile.FieldType), Jvm.Cond.code ({ cls := "java/util/ImmutableCollections$AbstractImmutableCollection", name := "<init>", desc := "()V" } : Jvm.MethodName) jdk_47_method_1_code (1 : Nat) (Option.none : Option Jvm.ClassFile.FieldType), Jvm.Cond.code ({ cls := "java/util/Objects", name := "requireNonNull", desc := "(Ljava/lang/Object;)Ljava/lang/Object;" } : Jvm.MethodName) jdk_31_method_10_code (1 : Nat) (Option.some (Jvm.ClassFile.FieldType.object "java/lang/Object")), Jvm.Cond.code ({ cls := "java/util/ImmutableCollections$List12", name := "size", desc := "()I" } : Jvm.MethodName) jdk_44_method_3_code (1 : Nat) (Option.some Jvm.ClassFile.FieldType.int), Jvm.Cond.code ({ cls := "java/util/ImmutableCollections$List12", name := "get", desc := "(I)Ljava/lang/Object;" } : Jvm.MethodName) jdk_44_method_5_code (2 : Nat) (Option.some (Jvm.ClassFile.FieldType.object "java/lang/Object")), Jvm.Cond.code ({ cls := "java/util/ImmutableCollections", name := "listFromArray", desc := "([Ljava/lang/Object;)Ljava/util/List;" } : Jvm.MethodName) jdk_56_method_4_code (3 : Nat) (Option.some (Jvm.ClassFile.FieldType.object "java/util/List")), Jvm.Cond.code ({ cls := "java/util/ImmutableCollections$ListN", name := "<init>", desc := "([Ljava/lang/Object;Z)V" } : Jvm.MethodName) jdk_45_method_1_code (3 : Nat) (Option.none : Option Jvm.ClassFile.FieldType), Jvm.Cond.code ({ cls := "java/util/ImmutableCollections$ListN", name := "get", desc := "(I)Ljava/lang/Object;" } : Jvm.MethodName) jdk_45_method_4_code (2 : Nat) (Option.some (Jvm.ClassFile.FieldType.object "java/lang/Object")), Jvm.Cond.code ({ cls := "java/util/ImmutableCollections$List12", name := "<init>", desc := "(Ljava/lang/Object;)V" } : Jvm.MethodName) jdk_44_method_1_code (2 : Nat) (Option.none : Option Jvm.ClassFile.FieldType)]
set_option maxRecDepth 65536 in
theorem codes_eq : words1.filter isCode = codes1 := rfl
theorem w_codes : ∀ c ∈ words1.filter isCode, c.before args0 about1 = true := by
  rw [codes_eq]
  intro c hc
  simp only [codes1, List.mem_cons, List.not_mem_nil, or_false] at hc
  rcases hc with rfl | rfl | rfl | rfl | rfl | rfl | rfl | rfl | rfl | rfl | rfl | rfl | rfl | rfl | rfl | rfl | rfl | rfl | rfl | rfl | rfl | rfl | rfl | rfl | rfl | rfl | rfl | rfl | rfl | rfl | rfl | rfl | rfl | rfl | rfl | rfl | rfl | rfl | rfl | rfl | rfl | rfl | rfl | rfl | rfl | rfl | rfl | rfl
  · exact w_c0
  · exact w_c1
  · exact w_c2
  · exact w_c3
  · exact w_c4
  · exact w_c5
  · exact w_c6
  · exact w_c7
  · exact w_c8
  · exact w_c9
  · exact w_c10
  · exact w_c11
  · exact w_c12
  · exact w_c13
  · exact w_c14
  · exact w_c15
  · exact w_c16
  · exact w_c17
  · exact w_c18
  · exact w_c19
  · exact w_c20
  · exact w_c21
  · exact w_c22
  · exact w_c23
  · exact w_c24
  · exact w_c25
  · exact w_c26
  · exact w_c27
  · exact w_c28
  · exact w_c29
  · exact w_c30
  · exact w_c31
  · exact w_c32
  · exact w_c33
  · exact w_c34
  · exact w_c35
  · exact w_c36
  · exact w_c37
  · exact w_c38
  · exact w_c39
  · exact w_c40
  · exact w_c41
  · exact w_c42
  · exact w_c43
  · exact w_c44
  · exact w_c45
  · exact w_c46
  · exact w_c47
set_option maxRecDepth 65536 in
theorem w_t1 : (words1.take 24).all (fun c => isCode c || c.before args0 about1) = true := by decide +kernel
set_option maxRecDepth 65536 in
theorem w_t2 : ((words1.drop 24).take 24).all (fun c => isCode c || c.before args0 about1) = true := by decide +kernel
set_option maxRecDepth 65536 in
theorem w_t3 : (((words1.drop 24).drop 24).take 24).all (fun c => isCode c || c.before args0 about1) = true := by decide +kernel
set_option maxRecDepth 65536 in
theorem w_t4 : ((((words1.drop 24).drop 24).drop 24).take 24).all (fun c => isCode c || c.before args0 about1) = true := by decide +kernel
set_option maxRecDepth 65536 in
theorem w_t5 : (((((words1.drop 24).drop 24).drop 24).drop 24).take 24).all (fun c => isCode c || c.before args0 about1) = true := by decide +kernel
set_option maxRecDepth 65536 in
theorem w_t6 : ((((((words1.drop 24).drop 24).drop 24).drop 24).drop 24).take 24).all (fun c => isCode c || c.before args0 about1) = true := by decide +kernel
set_option maxRecDepth 65536 in
theorem w_t7 : (((((((words1.drop 24).drop 24).drop 24).drop 24).drop 24).drop 24).take 24).all (fun c => isCode c || c.before args0 about1) = true := by decide +kernel
set_option maxRecDepth 65536 in
theorem w_t8 : ((((((((words1.drop 24).drop 24).drop 24).drop 24).drop 24).drop 24).drop 24).take 24).all (fun c => isCode c || c.before args0 about1) = true := by decide +kernel
set_option maxRecDepth 65536 in
theorem w_t9 : (((((((((words1.drop 24).drop 24).drop 24).drop 24).drop 24).drop 24).drop 24).drop 24).take 24).all (fun c => isCode c || c.before args0 about1) = true := by decide +kernel
set_option maxRecDepth 65536 in
theorem w_t10 : ((((((((((words1.drop 24).drop 24).drop 24).drop 24).drop 24).drop 24).drop 24).drop 24).drop 24).take 24).all (fun c => isCode c || c.before args0 about1) = true := by decide +kernel
set_option maxRecDepth 65536 in
theorem w_t11 : (((((((((((words1.drop 24).drop 24).drop 24).drop 24).drop 24).drop 24).drop 24).drop 24).drop 24).drop 24).take 24).all (fun c => isCode c || c.before args0 about1) = true := by decide +kernel
set_option maxRecDepth 65536 in
theorem w_t12 : ((((((((((((words1.drop 24).drop 24).drop 24).drop 24).drop 24).drop 24).drop 24).drop 24).drop 24).drop 24).drop 24).take 24).all (fun c => isCode c || c.before args0 about1) = true := by decide +kernel
set_option maxRecDepth 65536 in
theorem w_t13 : (((((((((((((words1.drop 24).drop 24).drop 24).drop 24).drop 24).drop 24).drop 24).drop 24).drop 24).drop 24).drop 24).drop 24).take 24).all (fun c => isCode c || c.before args0 about1) = true := by decide +kernel
set_option maxRecDepth 65536 in
theorem w_t14 : (((((((((((((words1.drop 24).drop 24).drop 24).drop 24).drop 24).drop 24).drop 24).drop 24).drop 24).drop 24).drop 24).drop 24).drop 24).all (fun c => isCode c || c.before args0 about1) = true := by decide +kernel
theorem w_tables : (allAtoms (Jvm.Cond.code x code maxLocals ret :: tables_1)).before args0 about1 = true := by
  rw [allAtoms_all]
  show words1.all (fun c => c.before args0 about1) = true
  refine all_split ?_ w_codes
  rw [← List.take_append_drop 24 words1, List.all_append, w_t1, ← List.take_append_drop 24 (words1.drop 24), List.all_append, w_t2, ← List.take_append_drop 24 ((words1.drop 24).drop 24), List.all_append, w_t3, ← List.take_append_drop 24 (((words1.drop 24).drop 24).drop 24), List.all_append, w_t4, ← List.take_append_drop 24 ((((words1.drop 24).drop 24).drop 24).drop 24), List.all_append, w_t5, ← List.take_append_drop 24 (((((words1.drop 24).drop 24).drop 24).drop 24).drop 24), List.all_append, w_t6, ← List.take_append_drop 24 ((((((words1.drop 24).drop 24).drop 24).drop 24).drop 24).drop 24), List.all_append, w_t7, ← List.take_append_drop 24 (((((((words1.drop 24).drop 24).drop 24).drop 24).drop 24).drop 24).drop 24), List.all_append, w_t8, ← List.take_append_drop 24 ((((((((words1.drop 24).drop 24).drop 24).drop 24).drop 24).drop 24).drop 24).drop 24), List.all_append, w_t9, ← List.take_append_drop 24 (((((((((words1.drop 24).drop 24).drop 24).drop 24).drop 24).drop 24).drop 24).drop 24).drop 24), List.all_append, w_t10, ← List.take_append_drop 24 ((((((((((words1.drop 24).drop 24).drop 24).drop 24).drop 24).drop 24).drop 24).drop 24).drop 24).drop 24), List.all_append, w_t11, ← List.take_append_drop 24 (((((((((((words1.drop 24).drop 24).drop 24).drop 24).drop 24).drop 24).drop 24).drop 24).drop 24).drop 24).drop 24), List.all_append, w_t12, ← List.take_append_drop 24 ((((((((((((words1.drop 24).drop 24).drop 24).drop 24).drop 24).drop 24).drop 24).drop 24).drop 24).drop 24).drop 24).drop 24), List.all_append, w_t13, w_t14]
  rfl
set_option maxRecDepth 65536 in
theorem w_rest : rest_1_c.before args0 about1 = true := by decide +kernel
set_option maxRecDepth 65536 in
theorem w_case : (Jvm.Cond.and given_1 narrow_1).before args0 about1 = true := by decide +kernel
set_option maxRecDepth 65536 in
theorem w_consts : constsHeld consts_1 about1 := Jvm.Lit.constsHeldB_iff.mp (by decide +kernel)
theorem w_applies : (headSpec (Jvm.Cond.code x code maxLocals ret :: tables_1) room_1).applies x e0.platform about1 = true :=
  (Spec.applies_iff w_frames).mpr ⟨w_running, w_runnable, w_alone, w_named, w_hears, w_ripe, w_room, w_tables⟩
theorem atStart : AtStart classFile x code maxLocals ret World_1 tables_1 room_1 Calls_1 rest_1 Pre_1 launch0 p0 e0 about1 theMethod args0 below0 :=
  ⟨lists_1, trivial, launch0.admits_env _ _ _, launch0.least_env, fairChoices_fair.cas, fairChoices_fair.clock, w_frames, w_args, w_heap, w_applies, ⟨⟨42, k42, 6, by decide +kernel, rfl, rfl, _, rfl, rfl⟩, ⟨w_consts, trivial⟩⟩, w_rest, w_case⟩
end start1
theorem witness_1 : WitnessClaimed_1 := ⟨start1.p0, start1.e0, start1.about1, start1.theMethod, start1.args0, start1.below0, start1.atStart⟩
end Jvm.Pilot.@@N@@
