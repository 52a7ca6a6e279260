import JvmDerived
import JvmDerived.Pilot.@@N@@Statement
import JvmDerived.Pilot.@@N@@Code
set_option linter.unusedVariables false
set_option linter.unusedSimpArgs false
namespace Jvm.RoadKit
open Sem ClassFile Op Lib Jvm.Stand Jvm.Free Jvm.LawKit
section New
variable {p : Program} {l : Launch} {e : Env} {R : Room} {s : State} {m : MethodId} {args : Array Value} {below : List Frame} {meth : Method} {c : Code} {T : State} {locs : List Loc} {cells slots : Nat}
theorem retI (X : Stand p l e R s m args below meth c T locs cells slots) (hx : p.tables.exec = Jvm.exec) {pc : Nat} {Ls : Array Slot} {z : Int32} {rest : List Value} (hret : meth.sig.returnType = some .int) (hd : decode c.code pc = .ok (.ireturn, 1)) {fs : List Frame}
    (hl : ∀ (f : JFrame) (acts : List Action), f.method = m → f.locked = none → f.entered = [] → (doReturn e (T.setTop f) acts (some (.int z))).1 = T.setFrames fs) : Steps p.tables e below (T.setTop (mkF m pc Ls (.int z :: rest))) (T.setFrames fs) := by
  have hm' : T.vm.method? m = some meth := X.method'
  have hn : narrow .int (.int z) = .int z := rfl
  show Steps p.tables e below (T.setTop { method := m, pc := pc, locals := Ls, stack := _ :: rest, locked := none }) _
  jvm_step X.here [X.here.top, hx, hd, hm', hret, hn]
  first | (intro acts; rw [hl _ acts rfl rfl rfl]) | rw [hl _ _ rfl rfl rfl]
  exact Steps.refl _
theorem own_retJ (X : Stand p l e R s m args below meth c T locs cells slots) (hx : p.tables.exec = Jvm.exec) {pc : Nat} {Ls : Array Slot} {z : Int64} {rest : List Value} (hret : meth.sig.returnType = some .long) (hd : decode c.code pc = .ok (.lreturn, 1)) {fs : List Frame}
    (hl : ∀ (f : JFrame) (acts : List Action), f.method = m → f.locked = none → f.entered = [] → (doReturn e (T.setTop f) acts (some (.long z))).1 = T.setFrames fs) : Steps p.tables e below (T.setTop (mkF m pc Ls (.long z :: rest))) (T.setFrames fs) := by
  have hm' : T.vm.method? m = some meth := X.method'
  show Steps p.tables e below (T.setTop { method := m, pc := pc, locals := Ls, stack := _ :: rest, locked := none }) _
  jvm_step X.here [X.here.top, hx, hd, hm', hret, narrow]
  first | (intro acts; rw [hl _ acts rfl rfl rfl]) | rw [hl _ _ rfl rfl rfl]
  exact Steps.refl _
theorem own_retA (X : Stand p l e R s m args below meth c T locs cells slots) (hx : p.tables.exec = Jvm.exec) {pc : Nat} {Ls : Array Slot} {z : Addr} {rest : List Value} {ty : FieldType} (hret : meth.sig.returnType = some ty) (hty : ty.isReference = true) (hd : decode c.code pc = .ok (.areturn, 1)) {fs : List Frame}
    (hl : ∀ (f : JFrame) (acts : List Action), f.method = m → f.locked = none → f.entered = [] → (doReturn e (T.setTop f) acts (some (.ref z))).1 = T.setFrames fs) : Steps p.tables e below (T.setTop (mkF m pc Ls (.ref z :: rest))) (T.setFrames fs) := by
  have hm' : T.vm.method? m = some meth := X.method'
  show Steps p.tables e below (T.setTop { method := m, pc := pc, locals := Ls, stack := _ :: rest, locked := none }) _
  jvm_step X.here [X.here.top, hx, hd, hm', hret, hty, Value.isRef]
  first | (intro acts; rw [hl _ acts rfl rfl rfl]) | rw [hl _ _ rfl rfl rfl]
  exact Steps.refl _
theorem own_retA0 (X : Stand p l e R s m args below meth c T locs cells slots) (hx : p.tables.exec = Jvm.exec) {pc : Nat} {Ls : Array Slot} {rest : List Value} {ty : FieldType} (hret : meth.sig.returnType = some ty) (hty : ty.isReference = true) (hd : decode c.code pc = .ok (.areturn, 1)) {fs : List Frame}
    (hl : ∀ (f : JFrame) (acts : List Action), f.method = m → f.locked = none → f.entered = [] → (doReturn e (T.setTop f) acts (some .null)).1 = T.setFrames fs) : Steps p.tables e below (T.setTop (mkF m pc Ls (.null :: rest))) (T.setFrames fs) := by
  have hm' : T.vm.method? m = some meth := X.method'
  show Steps p.tables e below (T.setTop { method := m, pc := pc, locals := Ls, stack := _ :: rest, locked := none }) _
  jvm_step X.here [X.here.top, hx, hd, hm', hret, hty, Value.isRef]
  first | (intro acts; rw [hl _ acts rfl rfl rfl]) | rw [hl _ _ rfl rfl rfl]
  exact Steps.refl _
end New
end Jvm.RoadKit
/- laws to paste: Road.backV, Road.eqW, Road.codOf (cut by pick.py; bodies as the Statement names them) -/
namespace Jvm.Pilot.@@N@@
namespace StrChars
open Jvm Sem ClassFile Op Lib Jvm.Stand Jvm.Free.XT Jvm.Free.ALB Jvm.Free.JM Jvm.Free
open Jvm.Lib.Cold (StaticIs)
/-- a char array whose places are chars -/
def Ch (a : Addr) (A : Cell) (U : State) : Prop := Arr .char a A U ∧ Typed .char A
theorem Ch.mv {a : Addr} {A : Cell} {U U' : State} (h : Ch a A U) (hal : U.vm.Alike U'.vm) (hh : U'.heap = U.heap) : Ch a A U' := ⟨h.1.mv hal hh, h.2⟩
theorem Ch.keep {a : Addr} {A : Cell} {U U' : State} (h : Ch a A U) (hal : U.vm.Alike U'.vm) (hk : U'.heap[a]? = some A) : Ch a A U' := ⟨h.1.keep hal hk, h.2⟩
/-- what place i of a char[]'s cell holds -/
def cv (A : Cell) (i : Nat) : Int32 := match A.slots[i]? with | some (.int x) => x | _ => 0
theorem Ch.get {a : Addr} {A : Cell} {U : State} (h : Ch a A U) {i : Nat} (hi : i < A.slots.size) : A.slots[i]? = some (.int (cv A i)) := by
  have e := Array.getElem?_eq_getElem hi
  have f := h.2 i _ e
  unfold cv; rw [e]
  generalize A.slots[i] = v at f
  cases v <;> simp [fits] at f ⊢
/-- the byte that i2b leaves of a char -/
def lo8 (x : Int32) : Int32 := x.toInt8.toInt32
theorem fits_lo8 (y : Int32) : fits .byte (.int (lo8 y)) = true := by
  have h1 := y.toInt8.le_toInt
  have h2 := y.toInt8.toInt_lt
  simp only [lo8, fits, Bool.and_eq_true, decide_eq_true_eq, Int32.le_iff_toInt_le, Int8.toInt_toInt32, show (-128 : Int32).toInt = -128 from by decide, show (127 : Int32).toInt = 127 from by decide]
  omega
/-- A' is A but that each place j of lo .. hi - 1 holds f j -/
def Laid (A A' : Cell) (lo hi : Nat) (f : Nat → Value) : Prop := A'.cls = A.cls ∧ A'.vm = A.vm ∧ A'.slots.size = A.slots.size ∧ ∀ i, A'.slots[i]? = if lo ≤ i ∧ i < hi then some (f i) else A.slots[i]?
theorem Laid.zero (A : Cell) (lo : Nat) (f : Nat → Value) : Laid A A lo (lo + 0) f := ⟨rfl, rfl, rfl, fun i => by rw [if_neg (by omega)]⟩
theorem Laid.step {A Ak : Cell} {lo k : Nat} {f : Nat → Value} {v : Value} (h : Laid A Ak lo k f) (hlo : lo ≤ k) (hk : k < Ak.slots.size) (hv : v = f k) : Laid A (Ak.setSlot k v) lo (k + 1) f := by
  refine ⟨h.1, h.2.1, by simpa [Cell.setSlot] using h.2.2.1, fun i => ?_⟩
  by_cases e : k = i
  · subst e; rw [Cell.slots_setSlot_self v hk, if_pos (by omega), hv]
  · rw [Cell.slots_setSlot_ne v e, h.2.2.2 i]
    by_cases q : lo ≤ i ∧ i < k
    · rw [if_pos q, if_pos (by omega)]
    · rw [if_neg q, if_neg (by omega)]
def U16 : String := "java/lang/StringUTF16"
namespace Cmp5
def yN : MethodName := ⟨"java/lang/StringUTF16", "compress", "([CI[BII)I"⟩
abbrev yB : ByteArray := jdk_52_method_21_code
theorem d0 : decode yB 0 = .ok (.iconst 0, 1) := by decide +kernel
theorem d1 : decode yB 1 = .ok (.istore 5, 2) := by decide +kernel
theorem d3 : decode yB 3 = .ok (.iload 5, 2) := by decide +kernel
theorem d5 : decode yB 5 = .ok (.iload 4, 2) := by decide +kernel
theorem d7 : decode yB 7 = .ok (.if_icmp (.ge) 37, 3) := by decide +kernel
theorem d10 : decode yB 10 = .ok (.aload_n 0, 1) := by decide +kernel
theorem d11 : decode yB 11 = .ok (.iload_n 1, 1) := by decide +kernel
theorem d12 : decode yB 12 = .ok (.caload, 1) := by decide +kernel
theorem d13 : decode yB 13 = .ok (.istore 6, 2) := by decide +kernel
theorem d15 : decode yB 15 = .ok (.iload 6, 2) := by decide +kernel
theorem d17 : decode yB 17 = .ok (.sipush 255, 3) := by decide +kernel
theorem d20 : decode yB 20 = .ok (.if_icmp (.le) 6, 3) := by decide +kernel
theorem d26 : decode yB 26 = .ok (.aload_n 2, 1) := by decide +kernel
theorem d27 : decode yB 27 = .ok (.iload_n 3, 1) := by decide +kernel
theorem d28 : decode yB 28 = .ok (.iload 6, 2) := by decide +kernel
theorem d30 : decode yB 30 = .ok (.i2b, 1) := by decide +kernel
theorem d31 : decode yB 31 = .ok (.bastore, 1) := by decide +kernel
theorem d32 : decode yB 32 = .ok (.iinc 1 1, 3) := by decide +kernel
theorem d35 : decode yB 35 = .ok (.iinc 3 1, 3) := by decide +kernel
theorem d38 : decode yB 38 = .ok (.iinc 5 1, 3) := by decide +kernel
theorem d41 : decode yB 41 = .ok (.goto (-38), 3) := by decide +kernel
theorem d44 : decode yB 44 = .ok (.iload 4, 2) := by decide +kernel
theorem d46 : decode yB 46 = .ok (.ireturn, 1) := by decide +kernel
def site : List Cond := []
def tab : Cond := tabOf yN yB 7 (some .int) site
def P (b : Addr) (A : Cell) (d : Addr) (B : Cell) (o q len : Nat) (args : Array Value) (s : State) : Prop := args = #[.ref b, .int (Int32.ofNat o), .ref d, .int (Int32.ofNat q), .int (Int32.ofNat len)] ∧ Ch b A s ∧ Arr .byte d B s ∧ b ≠ d ∧ o + len ≤ A.slots.size ∧ q + len ≤ B.slots.size ∧ ∀ i, i < len → ¬ 255 < cv A (o + i)
def E (b : Addr) (A : Cell) (d : Addr) (B : Cell) (o q len : Nat) (r : Option Value) (s u : State) : Prop := r = some (.int (Int32.ofNat len)) ∧ ∃ B', Put d B' s u ∧ Laid B B' q (q + len) (fun j => Value.int (lo8 (cv A (o + (j - q)))))
/-- no char of the range above 255: len; the places written hold each char's low byte -/
theorem law (l : Launch) (b : Addr) (A : Cell) (d : Addr) (B : Cell) (o q len : Nat) : Law l yN 5 5 0 0 yB 7 (some .int) site (P b A d B o q len) (E b A d B o q len) (copyLocs d q len) 0 0 := by
  refine Law.of_walk (plainFor_of_name (by decide +kernel)) (by decide +kernel) (by decide +kernel) (by decide) (fun _ _ h => by rw [h.1]; rfl) (fun _ U U' hal hh h => ⟨h.1, h.2.1.mv hal hh, h.2.2.1.mv hal hh, h.2.2.2⟩) (fun r U U' V V' h1 hal h2 h => ⟨h.1, h.2.elim fun B' q => ⟨B', q.1.mv h1 h2, q.2⟩⟩) ?_
  intro p e s m args below meth c s₁ X0 hexec hbytes hml hret hlk hnm hown hh0 W hP
  obtain ⟨rfl, hA, hB, hne, l1, l2, hp⟩ := hP
  have c1 : Steps p.tables e below (s₁.setTop (entryFrame m #[.ref b, .int (Int32.ofNat o), .ref d, .int (Int32.ofNat q), .int (Int32.ofNat len)] 7)) (s₁.setTop (mkF m 0 #[.val (.ref b), .val (.int (Int32.ofNat o)), .val (.ref d), .val (.int (Int32.ofNat q)), .val (.int (Int32.ofNat len)), .unset, .unset] [])) := entry rfl
  have hA0 := hA.1.mv X0.warmed.alike hh0
  have hB0 := hB.mv X0.warmed.alike hh0
  have a31 := hA.1.2.2.2
  have c2 : Steps p.tables e below (s₁.setTop (entryFrame m #[.ref b, .int (Int32.ofNat o), .ref d, .int (Int32.ofNat q), .int (Int32.ofNat len)] 7)) (s₁.setTop (mkF m 3 #[.val (.ref b), .val (.int (Int32.ofNat o)), .val (.ref d), .val (.int (Int32.ofNat q)), .val (.int (Int32.ofNat len)), .val (.int 0), .unset] [])) := c1.trans (by
    refine iconstV X0.here hexec rfl 0 (hb hbytes d0) (by decide) ?_
    refine XS.istore X0.here hexec rfl (hb hbytes d1) rfl rfl ?_
    exact Steps.refl _)
  have loop : ∀ (r i : Nat), i + r = len → ∀ (z : Slot), (z = .unset ∨ ∃ w, z = .val w ∧ w.category = 1) → ∀ (Tl : State) (Bk : Cell), Stand p l e { frames := 0, locals := 0, cells := 0, slots := 0 } s m #[.ref b, .int (Int32.ofNat o), .ref d, .int (Int32.ofNat q), .int (Int32.ofNat len)] below meth c Tl ([] ++ copyLocs d q i) 0 0 → Put d Bk s₁ Tl → Laid B Bk q (q + i) (fun j => Value.int (lo8 (cv A (o + (j - q))))) →
      Steps p.tables e below (s₁.setTop (entryFrame m #[.ref b, .int (Int32.ofNat o), .ref d, .int (Int32.ofNat q), .int (Int32.ofNat len)] 7)) (Tl.setTop (mkF m 3 #[.val (.ref b), .val (.int (Int32.ofNat (o + i))), .val (.ref d), .val (.int (Int32.ofNat (q + i))), .val (.int (Int32.ofNat len)), .val (.int (Int32.ofNat i)), z] [])) → ∃ (T' : State) (B' : Cell) (z' : Slot), Stand p l e { frames := 0, locals := 0, cells := 0, slots := 0 } s m #[.ref b, .int (Int32.ofNat o), .ref d, .int (Int32.ofNat q), .int (Int32.ofNat len)] below meth c T' ([] ++ copyLocs d q len) 0 0 ∧ Put d B' s₁ T' ∧ Laid B B' q (q + len) (fun j => Value.int (lo8 (cv A (o + (j - q))))) ∧
      Steps p.tables e below (s₁.setTop (entryFrame m #[.ref b, .int (Int32.ofNat o), .ref d, .int (Int32.ofNat q), .int (Int32.ofNat len)] 7)) (T'.setTop (mkF m 3 #[.val (.ref b), .val (.int (Int32.ofNat (o + len))), .val (.ref d), .val (.int (Int32.ofNat (q + len))), .val (.int (Int32.ofNat len)), .val (.int (Int32.ofNat len)), z'] [])) := by
    intro r
    induction r with
    | zero =>
      intro i hi z hz Tl Bk Xl pl fl cl
      have hil : i = len := by omega
      rw [hil] at Xl fl cl
      exact ⟨Tl, Bk, z, Xl, pl, fl, cl⟩
    | succ r ih =>
      intro i hi z hz Tl Bk Xl pl fl cl
      have all := X0.warmed.alike.symm.trans Xl.warmed.alike
      have hAl := hA0.keep all (pl.other hne hA0.1)
      have hBk := hB0.like all pl.1 fl.1 fl.2.1 fl.2.2.1
      have hlt : q + i < Bk.slots.size := by rw [fl.2.2.1]; omega
      have c3 : Steps p.tables e below (s₁.setTop (entryFrame m #[.ref b, .int (Int32.ofNat o), .ref d, .int (Int32.ofNat q), .int (Int32.ofNat len)] 7)) (Tl.setTop (mkF m 12 #[.val (.ref b), .val (.int (Int32.ofNat (o + i))), .val (.ref d), .val (.int (Int32.ofNat (q + i))), .val (.int (Int32.ofNat len)), .val (.int (Int32.ofNat i)), z] [.int (Int32.ofNat (o + i)), .ref b])) := cl.trans (by
        refine XS.iload Xl.here hexec rfl (hb hbytes d3) rfl ?_
        refine XS.iload Xl.here hexec rfl (hb hbytes d5) rfl ?_
        refine XS.icmpNo Xl.here hexec rfl (hb hbytes d7) rfl (ii_ge_f (lt32 (by omega) (by omega))) ?_
        refine XS.aloadN Xl.here hexec rfl (hb hbytes d10) rfl rfl ?_
        refine XS.iloadN Xl.here hexec rfl (hb hbytes d11) rfl ?_
        exact Steps.refl _)
      have c4 : Steps p.tables e below (s₁.setTop (entryFrame m #[.ref b, .int (Int32.ofNat o), .ref d, .int (Int32.ofNat q), .int (Int32.ofNat len)] 7)) (Tl.setTop (mkF m 13 #[.val (.ref b), .val (.int (Int32.ofNat (o + i))), .val (.ref d), .val (.int (Int32.ofNat (q + i))), .val (.int (Int32.ofNat len)), .val (.int (Int32.ofNat i)), z] [.int (cv A (o + i))])) := c3.trans (by
        refine Xl.aget hexec hAl rfl (hA.get (i := o + i) (by omega)) rfl rfl (hb hbytes d12) ?_
        exact Steps.refl _)
      have c5 : Steps p.tables e below (s₁.setTop (entryFrame m #[.ref b, .int (Int32.ofNat o), .ref d, .int (Int32.ofNat q), .int (Int32.ofNat len)] 7)) (Tl.setTop (mkF m 15 #[.val (.ref b), .val (.int (Int32.ofNat (o + i))), .val (.ref d), .val (.int (Int32.ofNat (q + i))), .val (.int (Int32.ofNat len)), .val (.int (Int32.ofNat i)), .val (.int (cv A (o + i)))] [])) := c4.trans (by
        refine XS.istoreS Xl.here hexec rfl (hb hbytes d13) rfl rfl hz ?_
        exact Steps.refl _)
      have c6 : Steps p.tables e below (s₁.setTop (entryFrame m #[.ref b, .int (Int32.ofNat o), .ref d, .int (Int32.ofNat q), .int (Int32.ofNat len)] 7)) (Tl.setTop (mkF m 31 #[.val (.ref b), .val (.int (Int32.ofNat (o + i))), .val (.ref d), .val (.int (Int32.ofNat (q + i))), .val (.int (Int32.ofNat len)), .val (.int (Int32.ofNat i)), .val (.int (cv A (o + i)))] [.int (lo8 (cv A (o + i))), .int (Int32.ofNat (q + i)), .ref d])) := c5.trans (by
        refine XS.iload Xl.here hexec rfl (hb hbytes d15) rfl ?_
        refine sipushV Xl.here hexec rfl 255 (hb hbytes d17) (by decide) ?_
        refine XS.icmpYes Xl.here hexec rfl (pc0 := 20) rfl (hb hbytes d20) rfl (ii_le_t (hp i (by omega))) (by decide) rfl ?_
        refine XS.aloadN Xl.here hexec rfl (hb hbytes d26) rfl rfl ?_
        refine XS.iloadN Xl.here hexec rfl (hb hbytes d27) rfl ?_
        refine XS.iload Xl.here hexec rfl (hb hbytes d28) rfl ?_
        refine i2b Xl.here hexec rfl (hb hbytes d30) rfl ?_
        exact Steps.refl _)
      obtain ⟨T7, X7, p7, st7⟩ := Xl.aput hexec hBk rfl hlt rfl (fits_lo8 (cv A (o + i))) (g := (mkF m 31 #[.val (.ref b), .val (.int (Int32.ofNat (o + i))), .val (.ref d), .val (.int (Int32.ofNat (q + i))), .val (.int (Int32.ofNat len)), .val (.int (Int32.ofNat i)), .val (.int (cv A (o + i)))] [.int (lo8 (cv A (o + i))), .int (Int32.ofNat (q + i)), .ref d])) rfl (rest := []) rfl (hb hbytes d31)
      have c8 : Steps p.tables e below (s₁.setTop (entryFrame m #[.ref b, .int (Int32.ofNat o), .ref d, .int (Int32.ofNat q), .int (Int32.ofNat len)] 7)) (T7.setTop (mkF m 32 #[.val (.ref b), .val (.int (Int32.ofNat (o + i))), .val (.ref d), .val (.int (Int32.ofNat (q + i))), .val (.int (Int32.ofNat len)), .val (.int (Int32.ofNat i)), .val (.int (cv A (o + i)))] [])) := c6.trans (st7 _ (Steps.refl _))
      have c9 : Steps p.tables e below (s₁.setTop (entryFrame m #[.ref b, .int (Int32.ofNat o), .ref d, .int (Int32.ofNat q), .int (Int32.ofNat len)] 7)) (T7.setTop (mkF m 3 #[.val (.ref b), .val (.int (Int32.ofNat (o + i) + 1)), .val (.ref d), .val (.int (Int32.ofNat (q + i) + 1)), .val (.int (Int32.ofNat len)), .val (.int (Int32.ofNat i + 1)), .val (.int (cv A (o + i)))] [])) := c8.trans (by
        refine iincV X7.here hexec rfl 1 (hb hbytes d32) (by decide) rfl rfl ?_
        refine iincV X7.here hexec rfl 1 (hb hbytes d35) (by decide) rfl rfl ?_
        refine iincV X7.here hexec rfl 1 (hb hbytes d38) (by decide) rfl rfl ?_
        refine XS.goto X7.here hexec rfl (pc0 := 41) rfl (hb hbytes d41) (by decide) rfl ?_
        exact Steps.refl _)
      have c10 : Steps p.tables e below (s₁.setTop (entryFrame m #[.ref b, .int (Int32.ofNat o), .ref d, .int (Int32.ofNat q), .int (Int32.ofNat len)] 7)) (T7.setTop (mkF m 3 #[.val (.ref b), .val (.int (Int32.ofNat (o + (i + 1)))), .val (.ref d), .val (.int (Int32.ofNat (q + (i + 1)))), .val (.int (Int32.ofNat len)), .val (.int (Int32.ofNat (i + 1))), .val (.int (cv A (o + i)))] [])) := by
        have := c9
        rw [succ32, succ32, succ32] at this
        exact this
      exact ih (i + 1) (by omega) _ (Or.inr ⟨_, rfl, rfl⟩) T7 _ (by rw [copyLocs_step, ← List.append_assoc]; exact X7) (pl.trans p7) (fl.step (by omega) hlt (by simp)) c10
  obtain ⟨T9, B9, z9, X9, p9, f9, g9⟩ := loop len 0 (by omega) .unset (Or.inl rfl) s₁ B (by simpa [copyLocs] using X0) ⟨hB0.1, fun _ _ => rfl, rfl⟩ (Laid.zero _ _ _) c2
  have c11 : Steps p.tables e below (s₁.setTop (entryFrame m #[.ref b, .int (Int32.ofNat o), .ref d, .int (Int32.ofNat q), .int (Int32.ofNat len)] 7)) (T9.setTop (mkF m 46 #[.val (.ref b), .val (.int (Int32.ofNat (o + len))), .val (.ref d), .val (.int (Int32.ofNat (q + len))), .val (.int (Int32.ofNat len)), .val (.int (Int32.ofNat len)), z9] [.int (Int32.ofNat len)])) := g9.trans (by
    refine XS.iload X9.here hexec rfl (hb hbytes d3) rfl ?_
    refine XS.iload X9.here hexec rfl (hb hbytes d5) rfl ?_
    refine XS.icmpYes X9.here hexec rfl (pc0 := 7) rfl (hb hbytes d7) rfl (ii_ge_t (nlt32 (by omega) (Nat.le_refl _))) (by decide) rfl ?_
    refine XS.iload X9.here hexec rfl (hb hbytes d44) rfl ?_
    exact Steps.refl _)
  exact ⟨T9, some (.int (Int32.ofNat len)), _, _, _, X9, by simp, rfl, rfl, (fun h => by cases h), ⟨rfl, B9, p9.from hh0, f9⟩, fun fs hl => c11.trans (X9.ireturnOut hexec hret rfl (Or.inl rfl) (hb hbytes d46) hl)⟩
end Cmp5
namespace Cmp3
def yN : MethodName := ⟨"java/lang/StringUTF16", "compress", "([CII)[B"⟩
abbrev yB : ByteArray := jdk_52_method_16_code
theorem d0 : decode yB 0 = .ok (.iload_n 2, 1) := by decide +kernel
theorem d1 : decode yB 1 = .ok (.newarray .byte, 2) := by decide +kernel
theorem d3 : decode yB 3 = .ok (.astore_n 3, 1) := by decide +kernel
theorem d4 : decode yB 4 = .ok (.aload_n 0, 1) := by decide +kernel
theorem d5 : decode yB 5 = .ok (.iload_n 1, 1) := by decide +kernel
theorem d6 : decode yB 6 = .ok (.aload_n 3, 1) := by decide +kernel
theorem d7 : decode yB 7 = .ok (.iconst 0, 1) := by decide +kernel
theorem d8 : decode yB 8 = .ok (.iload_n 2, 1) := by decide +kernel
theorem d9 : decode yB 9 = .ok (.invokestatic 115, 3) := by decide +kernel
theorem d12 : decode yB 12 = .ok (.istore 4, 2) := by decide +kernel
theorem d14 : decode yB 14 = .ok (.iload 4, 2) := by decide +kernel
theorem d16 : decode yB 16 = .ok (.iload_n 2, 1) := by decide +kernel
theorem d17 : decode yB 17 = .ok (.if_icmp (.eq) 40, 3) := by decide +kernel
theorem d57 : decode yB 57 = .ok (.aload_n 3, 1) := by decide +kernel
theorem d58 : decode yB 58 = .ok (.areturn, 1) := by decide +kernel
def site : List Cond := [.arrayClass .byte, Cmp5.tab] ++ staticW U16 115 Cmp5.yN
def tab : Cond := tabOf yN yB 6 (some (.array .byte)) site
def P (b : Addr) (A : Cell) (o len : Nat) (args : Array Value) (s : State) : Prop := args = #[.ref b, .int (Int32.ofNat o), .int (Int32.ofNat len)] ∧ Ch b A s ∧ o + len ≤ A.slots.size ∧ len ≤ 536870912 ∧ ∀ i, i < len → ¬ 255 < cv A (o + i)
def E (b : Addr) (A : Cell) (o len : Nat) (r : Option Value) (s u : State) : Prop := NewArr .byte "[B" len (fun j => .int (lo8 (cv A (o + j)))) r s u ∧ u.heap.size = s.heap.size + 1
/-- no char of the range above 255: a new byte[] of their low bytes -/
theorem law (l : Launch) (b : Addr) (A : Cell) (o len : Nat) : Law l yN 3 3 1 18 yB 6 (some (.array .byte)) site (P b A o len) (E b A o len) [] 1 len := by
  refine Law.of_walk (plainFor_of_name (by decide +kernel)) (by decide +kernel) (by decide +kernel) (by decide) (fun _ _ h => by rw [h.1]; rfl) (fun _ U U' hal hh h => ⟨h.1, h.2.1.mv hal hh, h.2.2⟩) (fun r U U' V V' h1 hal h2 h => ⟨NewArr.mv r U U' V V' h1 hal h2 h.1, by rw [h1, h2]; exact h.2⟩) ?_
  intro p e s m args below meth c s₁ X0 hexec hbytes hml hret hlk hnm hown hh0 W hP
  obtain ⟨rfl, hA, l1, l2, hp⟩ := hP
  have a31 := hA.1.2.2.2
  have c1 : Steps p.tables e below (s₁.setTop (entryFrame m #[.ref b, .int (Int32.ofNat o), .int (Int32.ofNat len)] 6)) (s₁.setTop (mkF m 0 #[.val (.ref b), .val (.int (Int32.ofNat o)), .val (.int (Int32.ofNat len)), .unset, .unset, .unset] [])) := entry rfl
  have c2 : Steps p.tables e below (s₁.setTop (entryFrame m #[.ref b, .int (Int32.ofNat o), .int (Int32.ofNat len)] 6)) (s₁.setTop (mkF m 1 #[.val (.ref b), .val (.int (Int32.ofNat o)), .val (.int (Int32.ofNat len)), .unset, .unset, .unset] [.int (Int32.ofNat len)])) := c1.trans (by
    refine XS.iloadN X0.here hexec rfl (hb hbytes d0) rfl ?_
    exact Steps.refl _)
  obtain ⟨T3, B3, X3, ba3, bs3, bv3, bh3, bf3, st3⟩ := X0.anew hexec (atype := .byte) (wk W (.arrayClass .byte)) rfl (by show len * 1 ≤ _; omega) (by omega) (g := (mkF m 1 #[.val (.ref b), .val (.int (Int32.ofNat o)), .val (.int (Int32.ofNat len)), .unset, .unset, .unset] [.int (Int32.ofNat len)])) rfl (hb hbytes d1) (rest := []) rfl (Nat.le_refl _) (by show 0 + len ≤ len; omega)
  rw [hh0] at ba3 st3
  have kp3 : XT.Kept s T3 := (XT.Kept.of_eq hh0).push bh3
  have hA3 := hA.keep X3.warmed.alike (kp3 _ _ hA.1.1)
  have hne : b ≠ s.heap.size := hA.1.ne
  have c4 : Steps p.tables e below (s₁.setTop (entryFrame m #[.ref b, .int (Int32.ofNat o), .int (Int32.ofNat len)] 6)) (T3.setTop (mkF m 3 #[.val (.ref b), .val (.int (Int32.ofNat o)), .val (.int (Int32.ofNat len)), .unset, .unset, .unset] [.ref s.heap.size])) := c2.trans (st3 _ (Steps.refl _))
  have c5 : Steps p.tables e below (s₁.setTop (entryFrame m #[.ref b, .int (Int32.ofNat o), .int (Int32.ofNat len)] 6)) (T3.setTop (mkF m 9 #[.val (.ref b), .val (.int (Int32.ofNat o)), .val (.int (Int32.ofNat len)), .val (.ref s.heap.size), .unset, .unset] [.int (Int32.ofNat len), .int 0, .ref s.heap.size, .int (Int32.ofNat o), .ref b])) := c4.trans (by
    refine XS.astoreN X3.here hexec rfl (hb hbytes d3) rfl rfl rfl ?_
    refine XS.aloadN X3.here hexec rfl (hb hbytes d4) rfl rfl ?_
    refine XS.iloadN X3.here hexec rfl (hb hbytes d5) rfl ?_
    refine XS.aloadN X3.here hexec rfl (hb hbytes d6) rfl rfl ?_
    refine iconstV X3.here hexec rfl 0 (hb hbytes d7) (by decide) ?_
    refine XS.iloadN X3.here hexec rfl (hb hbytes d8) rfl ?_
    exact Steps.refl _)
  obtain ⟨v6, T6, X6, E6, g6⟩ := X3.callS hexec (Cmp5.law l b A s.heap.size B3 o 0 len) hown (wks W (staticW U16 115 Cmp5.yN)) (wk W Cmp5.tab) (W := 0) (Nat.le_of_ble_eq_true rfl) (Nat.le_of_ble_eq_true rfl) (Nat.le_refl _) (by show 0 + len + 0 ≤ len; omega) (g := (mkF m 9 #[.val (.ref b), .val (.int (Int32.ofNat o)), .val (.int (Int32.ofNat len)), .val (.ref s.heap.size), .unset, .unset] [.int (Int32.ofNat len), .int (Int32.ofNat 0), .ref s.heap.size, .int (Int32.ofNat o), .ref b])) rfl (by rw [hml]; rfl) c5 (argsL := [.ref b, .int (Int32.ofNat o), .ref s.heap.size, .int (Int32.ofNat 0), .int (Int32.ofNat len)]) (rest := []) rfl rfl (by show 2 * 0 + 0 ≤ _; decide) (hb hbytes d9) (⟨rfl, hA3, ba3, hne, l1, by rw [bs3]; simp, hp⟩)
  obtain ⟨rfl, B6, p6, f6⟩ := E6
  have c7 : Steps p.tables e below (s₁.setTop (entryFrame m #[.ref b, .int (Int32.ofNat o), .int (Int32.ofNat len)] 6)) (T6.setTop (mkF m 12 #[.val (.ref b), .val (.int (Int32.ofNat o)), .val (.int (Int32.ofNat len)), .val (.ref s.heap.size), .unset, .unset] [.int (Int32.ofNat len)])) := g6
  have c8 : Steps p.tables e below (s₁.setTop (entryFrame m #[.ref b, .int (Int32.ofNat o), .int (Int32.ofNat len)] 6)) (T6.setTop (mkF m 58 #[.val (.ref b), .val (.int (Int32.ofNat o)), .val (.int (Int32.ofNat len)), .val (.ref s.heap.size), .val (.int (Int32.ofNat len)), .unset] [.ref s.heap.size])) := c7.trans (by
    refine XS.istore X6.here hexec rfl (hb hbytes d12) rfl rfl ?_
    refine XS.iload X6.here hexec rfl (hb hbytes d14) rfl ?_
    refine XS.iloadN X6.here hexec rfl (hb hbytes d16) rfl ?_
    refine XS.icmpYes X6.here hexec rfl (pc0 := 17) rfl (hb hbytes d17) rfl (ii_eq_t rfl) (by decide) rfl ?_
    refine XS.aloadN X6.here hexec rfl (hb hbytes d57) rfl rfl ?_
    exact Steps.refl _)
  have X8 := X6.wide (L' := []) (cells' := 1) (slots' := len) (fun x hx hlt => by
    simp only [List.nil_append, copyLocs, List.mem_map, List.mem_range] at hx
    obtain ⟨i, -, rfl⟩ := hx
    exact absurd hlt (Nat.lt_irrefl _)) (Nat.le_refl _) (by omega)
  exact ⟨T6, some (.ref s.heap.size), _, _, _, X8, rfl, rfl, rfl, (fun h => by cases h), ⟨⟨rfl, B6, ba3.like (X3.warmed.alike.symm.trans X6.warmed.alike) p6.1 f6.1 f6.2.1 f6.2.2.1, f6.2.1.trans bv3, by rw [X6.warmed.alike.findClass, f6.1]; exact bf3, by rw [f6.2.2.1, bs3]; simp, fun j hj => by rw [f6.2.2.2 j, if_pos (by omega)]; rfl, kp3.put p6 (Nat.le_refl _)⟩, by rw [p6.2.2, bh3, hh0]; simp⟩, fun fs hl => c8.trans (X8.areturnOut hexec rfl hret rfl (hb hbytes d58) hl)⟩
end Cmp3
namespace CodL
def yN : MethodName := ⟨"java/lang/StringUTF16", "coderFromArrayLen", "([BI)B"⟩
abbrev yB : ByteArray := jdk_52_method_15_code
theorem d0 : decode yB 0 = .ok (.iload_n 1, 1) := by decide +kernel
theorem d1 : decode yB 1 = .ok (.aload_n 0, 1) := by decide +kernel
theorem d2 : decode yB 2 = .ok (.arraylength, 1) := by decide +kernel
theorem d3 : decode yB 3 = .ok (.isub, 1) := by decide +kernel
theorem d4 : decode yB 4 = .ok (.bipush 31, 2) := by decide +kernel
theorem d6 : decode yB 6 = .ok (.iushr, 1) := by decide +kernel
theorem d7 : decode yB 7 = .ok (.i2b, 1) := by decide +kernel
theorem d8 : decode yB 8 = .ok (.ireturn, 1) := by decide +kernel
def site : List Cond := []
def tab : Cond := tabOf yN yB 2 (some .byte) site
def P (d : Addr) (B : Cell) (args : Array Value) (s : State) : Prop := args = #[.ref d, .int (Int32.ofNat B.slots.size)] ∧ Arr .byte d B s
def E (r : Option Value) (s u : State) : Prop := XT.PureE (some (.int 0)) r s u
/-- an array as long as the number of chars: LATIN1 -/
theorem law (l : Launch) (d : Addr) (B : Cell) : Law l yN 2 2 0 0 yB 2 (some .byte) site (P d B) E [] 0 0 := by
  refine Law.of_walk (plainFor_of_name (by decide +kernel)) (by decide +kernel) (by decide +kernel) (by decide) (fun _ _ h => by rw [h.1]; rfl) (fun _ U U' hal hh h => ⟨h.1, h.2.mv hal hh⟩) (fun r U U' V V' h1 hal h2 h => XT.PureE.mv r U U' V V' h1 hal h2 h) ?_
  intro p e s m args below meth c s₁ X0 hexec hbytes hml hret hlk hnm hown hh0 W hP
  obtain ⟨rfl, hB⟩ := hP
  have hB0 := hB.mv X0.warmed.alike hh0
  have c1 : Steps p.tables e below (s₁.setTop (entryFrame m #[.ref d, .int (Int32.ofNat B.slots.size)] 2)) (s₁.setTop (mkF m 0 #[.val (.ref d), .val (.int (Int32.ofNat B.slots.size))] [])) := entry rfl
  have c2 : Steps p.tables e below (s₁.setTop (entryFrame m #[.ref d, .int (Int32.ofNat B.slots.size)] 2)) (s₁.setTop (mkF m 2 #[.val (.ref d), .val (.int (Int32.ofNat B.slots.size))] [.ref d, .int (Int32.ofNat B.slots.size)])) := c1.trans (by
    refine XS.iloadN X0.here hexec rfl (hb hbytes d0) rfl ?_
    refine XS.aloadN X0.here hexec rfl (hb hbytes d1) rfl rfl ?_
    exact Steps.refl _)
  have c3 : Steps p.tables e below (s₁.setTop (entryFrame m #[.ref d, .int (Int32.ofNat B.slots.size)] 2)) (s₁.setTop (mkF m 8 #[.val (.ref d), .val (.int (Int32.ofNat B.slots.size))] [.int (lo8 (ushr (Int32.ofNat B.slots.size - Int32.ofNat B.slots.size) 31))])) := c2.trans (by
    refine X0.alen hexec hB0 rfl rfl (hb hbytes d2) ?_
    refine XS.isub X0.here hexec rfl (hb hbytes d3) rfl ?_
    refine bipushV X0.here hexec rfl 31 (hb hbytes d4) (by decide) ?_
    refine iushr X0.here hexec rfl (hb hbytes d6) rfl ?_
    refine i2b X0.here hexec rfl (hb hbytes d7) rfl ?_
    exact Steps.refl _)
  have e0 : lo8 (ushr (Int32.ofNat B.slots.size - Int32.ofNat B.slots.size) 31) = 0 := by rw [Int32.sub_self]; decide
  rw [e0] at c3
  exact ⟨s₁, some (.int 0), _, _, _, X0, rfl, rfl, rfl, (fun h => by cases h), ⟨rfl, hh0⟩, fun fs hl => c3.trans (X0.ireturnOut hexec hret rfl (Or.inr (Or.inr (Or.inl rfl))) (hb hbytes d8) hl)⟩
end CodL
/-- the String at a is Latin-1 over a new byte[] (the heap's one new cell): the low bytes of the len chars of A from o on; every cell but a is kept -/
def Got (a : Addr) (D : Cell) (fV fC : Field) (A : Cell) (o len : Nat) (r : Option Value) (s u : State) : Prop := r = none ∧ ∃ D' V : Cell, Blank "java/lang/String" a D' u ∧ Same D D' [fV.slot, fC.slot] ∧ D'.slots[fV.slot]? = some (.ref s.heap.size) ∧ D'.slots[fC.slot]? = some (.int 0) ∧ Arr .byte s.heap.size V u ∧ V.vm = .none ∧ u.vm.findClass "[B" = some V.cls ∧ V.slots.size = len ∧ (∀ j, j < len → V.slots[j]? = some (.int (lo8 (cv A (o + j))))) ∧ (∀ (y : Addr) (c : Cell), y ≠ a → s.heap[y]? = some c → u.heap[y]? = some c) ∧ u.heap.size = s.heap.size + 1
theorem Got.mv {a : Addr} {D A : Cell} {fV fC : Field} {o len : Nat} : ∀ r (U U' V V' : State), U'.heap = U.heap → V.vm.Alike V'.vm → V'.heap = V.heap → Got a D fV fC A o len r U V → Got a D fV fC A o len r U' V' :=
  fun r U U' V V' h1 hal h2 ⟨e0, D', X, a1, a2, a3, a4, a5, a6, a7, a8, a9, a10, a11⟩ => ⟨e0, D', X, a1.mv hal h2, a2, by rw [h1]; exact a3, a4, by rw [h1]; exact a5.mv hal h2, a6, by rw [hal.findClass]; exact a7, a8, a9, by rw [h1, h2]; exact a10, by rw [h1, h2]; exact a11⟩
namespace New4
def yN : MethodName := ⟨"java/lang/String", "<init>", "([CIILjava/lang/Void;)V"⟩
abbrev yB : ByteArray := jdk_42_method_149_code
theorem d0 : decode yB 0 = .ok (.aload_n 0, 1) := by decide +kernel
theorem d1 : decode yB 1 = .ok (.invokespecial 1, 3) := by decide +kernel
theorem d4 : decode yB 4 = .ok (.iload_n 3, 1) := by decide +kernel
theorem d5 : decode yB 5 = .ok (.ifCond (.ne) 22, 3) := by decide +kernel
theorem d27 : decode yB 27 = .ok (.getstatic 38, 3) := by decide +kernel
theorem d30 : decode yB 30 = .ok (.ifCond (.eq) 28, 3) := by decide +kernel
theorem d33 : decode yB 33 = .ok (.aload_n 1, 1) := by decide +kernel
theorem d34 : decode yB 34 = .ok (.iload_n 2, 1) := by decide +kernel
theorem d35 : decode yB 35 = .ok (.iload_n 3, 1) := by decide +kernel
theorem d36 : decode yB 36 = .ok (.invokestatic 177, 3) := by decide +kernel
theorem d39 : decode yB 39 = .ok (.astore 5, 2) := by decide +kernel
theorem d41 : decode yB 41 = .ok (.aload_n 0, 1) := by decide +kernel
theorem d42 : decode yB 42 = .ok (.aload 5, 2) := by decide +kernel
theorem d44 : decode yB 44 = .ok (.iload_n 3, 1) := by decide +kernel
theorem d45 : decode yB 45 = .ok (.invokestatic 47, 3) := by decide +kernel
theorem d48 : decode yB 48 = .ok (.putfield 15, 3) := by decide +kernel
theorem d51 : decode yB 51 = .ok (.aload_n 0, 1) := by decide +kernel
theorem d52 : decode yB 52 = .ok (.aload 5, 2) := by decide +kernel
theorem d54 : decode yB 54 = .ok (.putfield 9, 3) := by decide +kernel
theorem d57 : decode yB 57 = .ok (.return_, 1) := by decide +kernel
def site : List Cond := [.fieldLink "java/lang/String" 38 "java/lang/String" "COMPACT_STRINGS" "Z", Cmp3.tab, CodL.tab, .laysFinal "java/lang/String" "java/lang/String" "value" "[B", .fieldLink "java/lang/String" 9 "java/lang/String" "value" "[B", .laysFinal "java/lang/String" "java/lang/String" "coder" "B", .fieldLink "java/lang/String" 15 "java/lang/String" "coder" "B"] ++ objW "java/lang/String" 1 ++ staticW "java/lang/String" 177 Cmp3.yN ++ staticW "java/lang/String" 47 CodL.yN
def tab : Cond := tabOf yN yB 6 none site
def P (a : Addr) (D : Cell) (fV fC : Field) (b : Addr) (A : Cell) (z : Int32) (o len : Nat) (args : Array Value) (s : State) : Prop := args = #[.ref a, .ref b, .int (Int32.ofNat o), .int (Int32.ofNat len), .null] ∧ Blank "java/lang/String" a D s ∧ Found "java/lang/String" "value" "[B" fV s ∧ Found "java/lang/String" "coder" "B" fC s ∧ Ch b A s ∧ StaticIs s "java/lang/String" "COMPACT_STRINGS" "Z" (.int z) ∧ ¬ z = 0 ∧ 0 < len ∧ o + len ≤ A.slots.size ∧ len ≤ 536870912 ∧ ∀ i, i < len → ¬ 255 < cv A (o + i)
def E (a : Addr) (D : Cell) (fV fC : Field) (A : Cell) (o len : Nat) (r : Option Value) (s u : State) : Prop := Got a D fV fC A o len r s u
/-- len > 0, no char of the range above 255: a Latin-1 String of their low bytes -/
theorem law (l : Launch) (a : Addr) (D : Cell) (fV fC : Field) (b : Addr) (A : Cell) (z : Int32) (o len : Nat) : Law l yN 5 4 2 35 yB 6 none site (P a D fV fC b A z o len) (E a D fV fC A o len) [⟨a, fC.slot⟩, ⟨a, fV.slot⟩] 1 len := by
  refine Law.of_walk (plainFor_of_name (by decide +kernel)) (by decide +kernel) (by decide +kernel) (by decide) (fun _ _ h => by rw [h.1]; rfl) (fun _ U U' hal hh h => ⟨h.1, h.2.1.mv hal hh, h.2.2.1.al hal, h.2.2.2.1.al hal, h.2.2.2.2.1.mv hal hh, h.2.2.2.2.2.1.there hal hh, h.2.2.2.2.2.2⟩) (fun r U U' V V' h1 hal h2 h => Got.mv r U U' V V' h1 hal h2 h) ?_
  intro p e s m args below meth c s₁ X0 hexec hbytes hml hret hlk hnm hown hh0 W hP
  obtain ⟨rfl, hB, f1, f2, hA, s1, hz, l0, l1, l2, hp⟩ := hP
  have a31 := hA.1.2.2.2
  have c1 : Steps p.tables e below (s₁.setTop (entryFrame m #[.ref a, .ref b, .int (Int32.ofNat o), .int (Int32.ofNat len), .null] 6)) (s₁.setTop (mkF m 0 #[.val (.ref a), .val (.ref b), .val (.int (Int32.ofNat o)), .val (.int (Int32.ofNat len)), .val .null, .unset] [])) := entry rfl
  have c2 : Steps p.tables e below (s₁.setTop (entryFrame m #[.ref a, .ref b, .int (Int32.ofNat o), .int (Int32.ofNat len), .null] 6)) (s₁.setTop (mkF m 1 #[.val (.ref a), .val (.ref b), .val (.int (Int32.ofNat o)), .val (.int (Int32.ofNat len)), .val .null, .unset] [.ref a])) := c1.trans (by
    refine XS.aloadN X0.here hexec rfl (hb hbytes d0) rfl rfl ?_
    exact Steps.refl _)
  obtain ⟨T3, X3, q3, st3⟩ := X0.oinit hexec hown (wks W (objW "java/lang/String" 1)) (g := (mkF m 1 #[.val (.ref a), .val (.ref b), .val (.int (Int32.ofNat o)), .val (.int (Int32.ofNat len)), .val .null, .unset] [.ref a])) rfl (by rw [hml]; rfl) (rest := []) rfl (hb hbytes d1) (W := 0) (by show 2 * 0 + 0 ≤ _; decide) (Nat.le_of_ble_eq_true rfl) (Nat.le_of_ble_eq_true rfl)
  have hh3 := q3.trans hh0
  have c4 : Steps p.tables e below (s₁.setTop (entryFrame m #[.ref a, .ref b, .int (Int32.ofNat o), .int (Int32.ofNat len), .null] 6)) (T3.setTop (mkF m 27 #[.val (.ref a), .val (.ref b), .val (.int (Int32.ofNat o)), .val (.int (Int32.ofNat len)), .val .null, .unset] [])) := (c2.trans (st3 _ (Steps.refl _))).trans (by
    refine XS.iloadN X3.here hexec rfl (hb hbytes d4) rfl ?_
    refine XS.ifYes X3.here hexec rfl (pc0 := 5) rfl (hb hbytes d5) rfl (i0_ne_t (nz32 (by omega) l0)) (by decide) rfl ?_
    exact Steps.refl _)
  obtain ⟨T5, X5, q5, st5⟩ := X3.sget hexec hown (wk W (.fieldLink "java/lang/String" 38 "java/lang/String" "COMPACT_STRINGS" "Z")) s1 (fun _ _ h => by rw [hh3]; exact h) (g := (mkF m 27 #[.val (.ref a), .val (.ref b), .val (.int (Int32.ofNat o)), .val (.int (Int32.ofNat len)), .val .null, .unset] [])) rfl (hb hbytes d27)
  have hh5 := q5.trans hh3
  have c6 : Steps p.tables e below (s₁.setTop (entryFrame m #[.ref a, .ref b, .int (Int32.ofNat o), .int (Int32.ofNat len), .null] 6)) (T5.setTop (mkF m 30 #[.val (.ref a), .val (.ref b), .val (.int (Int32.ofNat o)), .val (.int (Int32.ofNat len)), .val .null, .unset] [.int z])) := c4.trans (st5 _ (Steps.refl _))
  have c7 : Steps p.tables e below (s₁.setTop (entryFrame m #[.ref a, .ref b, .int (Int32.ofNat o), .int (Int32.ofNat len), .null] 6)) (T5.setTop (mkF m 36 #[.val (.ref a), .val (.ref b), .val (.int (Int32.ofNat o)), .val (.int (Int32.ofNat len)), .val .null, .unset] [.int (Int32.ofNat len), .int (Int32.ofNat o), .ref b])) := c6.trans (by
    refine XS.ifNo X5.here hexec rfl (hb hbytes d30) rfl (i0_eq_f hz) ?_
    refine XS.aloadN X5.here hexec rfl (hb hbytes d33) rfl rfl ?_
    refine XS.iloadN X5.here hexec rfl (hb hbytes d34) rfl ?_
    refine XS.iloadN X5.here hexec rfl (hb hbytes d35) rfl ?_
    exact Steps.refl _)
  obtain ⟨v8, T8, X8, E8, g8⟩ := X5.callS hexec (Cmp3.law l b A o len) hown (wks W (staticW "java/lang/String" 177 Cmp3.yN)) (wk W Cmp3.tab) (W := 0) (Nat.le_of_ble_eq_true rfl) (Nat.le_of_ble_eq_true rfl) (Nat.le_refl _) (by show 0 + len ≤ len; omega) (g := (mkF m 36 #[.val (.ref a), .val (.ref b), .val (.int (Int32.ofNat o)), .val (.int (Int32.ofNat len)), .val .null, .unset] [.int (Int32.ofNat len), .int (Int32.ofNat o), .ref b])) rfl (by rw [hml]; rfl) c7 (argsL := [.ref b, .int (Int32.ofNat o), .int (Int32.ofNat len)]) (rest := []) rfl rfl (by show 2 * 0 + 0 ≤ _; decide) (hb hbytes d36) (⟨rfl, hA.mv X5.warmed.alike hh5, l1, l2, hp⟩)
  obtain ⟨e8, z8⟩ := E8
  obtain ⟨rfl, N, n1, n2, n3, n4, n5, n6⟩ := NewArr.mv _ T5 s _ _ hh5.symm (Vm.Alike.refl _) rfl e8
  rw [hh5] at z8
  have hB1 := hB.keep X8.warmed.alike (n6 _ _ hB.1)
  have hne : s.heap.size ≠ a := (Nat.ne_of_lt (Array.getElem?_eq_some_iff.mp hB.1).1).symm
  have c9 : Steps p.tables e below (s₁.setTop (entryFrame m #[.ref a, .ref b, .int (Int32.ofNat o), .int (Int32.ofNat len), .null] 6)) (T8.setTop (mkF m 39 #[.val (.ref a), .val (.ref b), .val (.int (Int32.ofNat o)), .val (.int (Int32.ofNat len)), .val .null, .unset] [.ref s.heap.size])) := g8
  have c10 : Steps p.tables e below (s₁.setTop (entryFrame m #[.ref a, .ref b, .int (Int32.ofNat o), .int (Int32.ofNat len), .null] 6)) (T8.setTop (mkF m 45 #[.val (.ref a), .val (.ref b), .val (.int (Int32.ofNat o)), .val (.int (Int32.ofNat len)), .val .null, .val (.ref s.heap.size)] [.int (Int32.ofNat N.slots.size), .ref s.heap.size, .ref a])) := by
    have hc : Steps p.tables e below (s₁.setTop (entryFrame m #[.ref a, .ref b, .int (Int32.ofNat o), .int (Int32.ofNat len), .null] 6)) (T8.setTop (mkF m 45 #[.val (.ref a), .val (.ref b), .val (.int (Int32.ofNat o)), .val (.int (Int32.ofNat len)), .val .null, .val (.ref s.heap.size)] [.int (Int32.ofNat len), .ref s.heap.size, .ref a])) := c9.trans (by
      refine XS.astore X8.here hexec rfl (hb hbytes d39) rfl rfl rfl ?_
      refine XS.aloadN X8.here hexec rfl (hb hbytes d41) rfl rfl ?_
      refine XS.aload X8.here hexec rfl (hb hbytes d42) rfl rfl ?_
      refine XS.iloadN X8.here hexec rfl (hb hbytes d44) rfl ?_
      exact Steps.refl _)
    rw [n4]; exact hc
  obtain ⟨v11, T11, X11, E11, g11⟩ := X8.callS hexec (CodL.law l s.heap.size N) hown (wks W (staticW "java/lang/String" 47 CodL.yN)) (wk W CodL.tab) (W := 1) (Nat.le_of_ble_eq_true rfl) (Nat.le_of_ble_eq_true rfl) (Nat.le_refl _) (by show 0 + len + 0 ≤ len; omega) (g := (mkF m 45 #[.val (.ref a), .val (.ref b), .val (.int (Int32.ofNat o)), .val (.int (Int32.ofNat len)), .val .null, .val (.ref s.heap.size)] [.int (Int32.ofNat N.slots.size), .ref s.heap.size, .ref a])) rfl (by rw [hml]; rfl) c10 (argsL := [.ref s.heap.size, .int (Int32.ofNat N.slots.size)]) (rest := [.ref a]) rfl rfl (by show 2 * 0 + (1 + 0) ≤ _; decide) (hb hbytes d45) (⟨rfl, n1⟩)
  obtain ⟨rfl, q11⟩ := E11
  have hB11 := hB1.mv (X8.warmed.alike.symm.trans X11.warmed.alike) q11
  have c12 : Steps p.tables e below (s₁.setTop (entryFrame m #[.ref a, .ref b, .int (Int32.ofNat o), .int (Int32.ofNat len), .null] 6)) (T11.setTop (mkF m 48 #[.val (.ref a), .val (.ref b), .val (.int (Int32.ofNat o)), .val (.int (Int32.ofNat len)), .val .null, .val (.ref s.heap.size)] [.int 0, .ref a])) := g11
  obtain ⟨T13, X13, p13, bl13, sl13, st13⟩ := X11.finit hexec hown (wk W (.fieldLink "java/lang/String" 15 "java/lang/String" "coder" "B")) (Or.inr ⟨_, (wk W (.laysFinal "java/lang/String" "java/lang/String" "coder" "B"))⟩) (Or.inl ⟨rfl, hnm⟩) f2 (Or.inl rfl) hB11 (t := .byte) (by decide +kernel) rfl (g := (mkF m 48 #[.val (.ref a), .val (.ref b), .val (.int (Int32.ofNat o)), .val (.int (Int32.ofNat len)), .val .null, .val (.ref s.heap.size)] [.int 0, .ref a])) rfl (rest := []) rfl (hb hbytes d48)
  have c14 : Steps p.tables e below (s₁.setTop (entryFrame m #[.ref a, .ref b, .int (Int32.ofNat o), .int (Int32.ofNat len), .null] 6)) (T13.setTop (mkF m 54 #[.val (.ref a), .val (.ref b), .val (.int (Int32.ofNat o)), .val (.int (Int32.ofNat len)), .val .null, .val (.ref s.heap.size)] [.ref s.heap.size, .ref a])) := (c12.trans (st13 _ (Steps.refl _))).trans (by
    refine XS.aloadN X13.here hexec rfl (hb hbytes d51) rfl rfl ?_
    refine XS.aload X13.here hexec rfl (hb hbytes d52) rfl rfl ?_
    exact Steps.refl _)
  obtain ⟨T15, X15, p15, bl15, sl15, st15⟩ := X13.finit hexec hown (wk W (.fieldLink "java/lang/String" 9 "java/lang/String" "value" "[B")) (Or.inr ⟨_, (wk W (.laysFinal "java/lang/String" "java/lang/String" "value" "[B"))⟩) (Or.inl ⟨rfl, hnm⟩) f1 (Or.inl rfl) bl13 (t := (.array .byte)) (by decide +kernel) rfl (g := (mkF m 54 #[.val (.ref a), .val (.ref b), .val (.int (Int32.ofNat o)), .val (.int (Int32.ofNat len)), .val .null, .val (.ref s.heap.size)] [.ref s.heap.size, .ref a])) rfl (rest := []) rfl (hb hbytes d54)
  have c16 : Steps p.tables e below (s₁.setTop (entryFrame m #[.ref a, .ref b, .int (Int32.ofNat o), .int (Int32.ofNat len), .null] 6)) (T15.setTop (mkF m 57 #[.val (.ref a), .val (.ref b), .val (.int (Int32.ofNat o)), .val (.int (Int32.ofNat len)), .val .null, .val (.ref s.heap.size)] [])) := c14.trans (st15 _ (Steps.refl _))
  have ap := apart (Or.inr ⟨_, (wk W (.laysFinal "java/lang/String" "java/lang/String" "value" "[B"))⟩) (Or.inr ⟨_, (wk W (.laysFinal "java/lang/String" "java/lang/String" "coder" "B"))⟩) f1 f2 (t₁ := .array .byte) (t₂ := .byte) (by decide +kernel) (by decide +kernel) (by decide)
  have al := X8.warmed.alike.symm.trans X15.warmed.alike
  have n7 : T11.heap[s.heap.size]? = some N := by rw [q11]; exact n1.1
  exact ⟨T15, none, _, _, _, X15, by simp, rfl, by omega, (fun _ => rfl), ⟨rfl, _, N, bl15, ((Same.refl D _).set _ (by simp)).set _ (by simp), sl15, (Cell.slots_setSlot_ne _ ap).trans sl13, n1.keep al (p15.other hne (p13.other hne n7)), n2, by rw [al.findClass]; exact n3, n4, n5, fun y c h1 h2 => p15.other h1 (p13.other h1 (by rw [q11]; exact n6 y c h2)), by rw [p15.2.2, p13.2.2, q11]; exact z8⟩, fun fs hl => c16.trans (X15.returnOut hexec hret (hb hbytes d57) hl)⟩
end New4
namespace New1
def yN : MethodName := ⟨"java/lang/String", "<init>", "([C)V"⟩
abbrev yB : ByteArray := jdk_42_method_3_code
theorem d0 : decode yB 0 = .ok (.aload_n 0, 1) := by decide +kernel
theorem d1 : decode yB 1 = .ok (.aload_n 1, 1) := by decide +kernel
theorem d2 : decode yB 2 = .ok (.iconst 0, 1) := by decide +kernel
theorem d3 : decode yB 3 = .ok (.aload_n 1, 1) := by decide +kernel
theorem d4 : decode yB 4 = .ok (.arraylength, 1) := by decide +kernel
theorem d5 : decode yB 5 = .ok (.aconst_null, 1) := by decide +kernel
theorem d6 : decode yB 6 = .ok (.invokespecial 27, 3) := by decide +kernel
theorem d9 : decode yB 9 = .ok (.return_, 1) := by decide +kernel
def site : List Cond := [New4.tab] ++ initW "java/lang/String" 27 New4.yN
def tab : Cond := tabOf yN yB 2 none site
def P (a : Addr) (D : Cell) (fV fC : Field) (b : Addr) (A : Cell) (z : Int32) (args : Array Value) (s : State) : Prop := args = #[.ref a, .ref b] ∧ Blank "java/lang/String" a D s ∧ Found "java/lang/String" "value" "[B" fV s ∧ Found "java/lang/String" "coder" "B" fC s ∧ Ch b A s ∧ StaticIs s "java/lang/String" "COMPACT_STRINGS" "Z" (.int z) ∧ ¬ z = 0 ∧ 0 < A.slots.size ∧ A.slots.size ≤ 536870912 ∧ ∀ i, i < A.slots.size → ¬ 255 < cv A i
def E (a : Addr) (D : Cell) (fV fC : Field) (A : Cell) (r : Option Value) (s u : State) : Prop := Got a D fV fC A 0 A.slots.size r s u
/-- new String(chars), not empty, no char above 255: a Latin-1 String of their low bytes -/
theorem law (l : Launch) (a : Addr) (D : Cell) (fV fC : Field) (b : Addr) (A : Cell) (z : Int32) : Law l yN 2 1 3 52 yB 2 none site (P a D fV fC b A z) (E a D fV fC A) [⟨a, fC.slot⟩, ⟨a, fV.slot⟩] 1 A.slots.size := by
  refine Law.of_walk (plainFor_of_name (by decide +kernel)) (by decide +kernel) (by decide +kernel) (by decide) (fun _ _ h => by rw [h.1]; rfl) (fun _ U U' hal hh h => ⟨h.1, h.2.1.mv hal hh, h.2.2.1.al hal, h.2.2.2.1.al hal, h.2.2.2.2.1.mv hal hh, h.2.2.2.2.2.1.there hal hh, h.2.2.2.2.2.2⟩) (fun r U U' V V' h1 hal h2 h => Got.mv r U U' V V' h1 hal h2 h) ?_
  intro p e s m args below meth c s₁ X0 hexec hbytes hml hret hlk hnm hown hh0 W hP
  obtain ⟨rfl, hB, f1, f2, hA, s1, hz, l0, l2, hp⟩ := hP
  have c1 : Steps p.tables e below (s₁.setTop (entryFrame m #[.ref a, .ref b] 2)) (s₁.setTop (mkF m 0 #[.val (.ref a), .val (.ref b)] [])) := entry rfl
  have c2 : Steps p.tables e below (s₁.setTop (entryFrame m #[.ref a, .ref b] 2)) (s₁.setTop (mkF m 6 #[.val (.ref a), .val (.ref b)] [.null, .int (Int32.ofNat A.slots.size), .int 0, .ref b, .ref a])) := c1.trans (by
    refine XS.aloadN X0.here hexec rfl (hb hbytes d0) rfl rfl ?_
    refine XS.aloadN X0.here hexec rfl (hb hbytes d1) rfl rfl ?_
    refine iconstV X0.here hexec rfl 0 (hb hbytes d2) (by decide) ?_
    refine XS.aloadN X0.here hexec rfl (hb hbytes d3) rfl rfl ?_
    refine X0.alen hexec (hA.1.mv X0.warmed.alike hh0) rfl rfl (hb hbytes d4) ?_
    refine XS.aconstNull X0.here hexec rfl (hb hbytes d5) ?_
    exact Steps.refl _)
  obtain ⟨v3, T3, X3, E3, g3⟩ := X0.callN hexec (New4.law l a D fV fC b A z 0 A.slots.size) rfl hown (wks W (initW "java/lang/String" 27 New4.yN)) (W New4.tab (by simp only [site, List.mem_cons, List.mem_append, true_or, or_true])) (W := 0) (Nat.le_of_ble_eq_true rfl) (Nat.le_of_ble_eq_true rfl) (Nat.le_refl _) (by show 0 + A.slots.size ≤ A.slots.size; omega) (g := (mkF m 6 #[.val (.ref a), .val (.ref b)] [.null, .int (Int32.ofNat A.slots.size), .int (Int32.ofNat 0), .ref b, .ref a])) rfl (by rw [hml]; rfl) c2 (argsL := [.ref b, .int (Int32.ofNat 0), .int (Int32.ofNat A.slots.size), .null]) (rest := []) rfl rfl (by show 2 * 0 + 0 ≤ _; decide) (hb hbytes d6) (⟨rfl, hB.mv X0.warmed.alike hh0, f1.al X0.warmed.alike, f2.al X0.warmed.alike, hA.mv X0.warmed.alike hh0, s1.there X0.warmed.alike hh0, hz, l0, by omega, l2, fun i hi => by rw [Nat.zero_add]; exact hp i hi⟩)
  have e0 := Got.mv _ s₁ s _ _ hh0.symm (Vm.Alike.refl _) rfl E3
  obtain rfl := e0.1
  have c4 : Steps p.tables e below (s₁.setTop (entryFrame m #[.ref a, .ref b] 2)) (T3.setTop (mkF m 9 #[.val (.ref a), .val (.ref b)] [])) := g3
  exact ⟨T3, none, _, _, _, X3, by simp, rfl, by omega, (fun _ => rfl), e0, fun fs hl => c4.trans (X3.returnOut hexec hret (hb hbytes d9) hl)⟩
theorem pays {l : Launch} {R : Room} {p : Program} {e : Env} {below : List Frame} {s : State} {sargs : Array Value} {len W : Nat} (a : Addr) (D : Cell) (fV fC : Field) (b : Addr) (A : Cell) (z : Int32) (htab : tab.before sargs s = true) (hfr : 4 ≤ R.frames) (hlo : W + 65 ≤ R.locals) :
    Back l R p e below s sargs yN len W (fun A₁ a₁ => A₁.cells + 1 ≤ R.cells ∧ A₁.slots + A.slots.size ≤ R.slots ∧ P a D fV fC b A z a₁ A₁.U) (fun A₁ _ v₁ B₁ => E a D fV fC A v₁ A₁.U B₁.U ∧ B₁.locs = A₁.locs ++ [⟨a, fC.slot⟩, ⟨a, fV.slot⟩] ∧ B₁.cells = A₁.cells + 1 ∧ B₁.slots = A₁.slots + A.slots.size) :=
  (law l a D fV fC b A z).pays htab hfr (by omega)
end New1
/-- the byte, read back as charAt reads it, is the char -/
theorem lo8_mask {x : Int32} (h0 : ¬ x < 0) (h1 : ¬ 255 < x) : lo8 x &&& 255 = x := by
  have t : ∀ k : Fin 256, lo8 (Int32.ofNat k.val) &&& 255 = Int32.ofNat k.val := by decide +kernel
  rw [Int32.lt_iff_toInt_lt] at h0 h1
  have e0 : (0 : Int32).toInt = 0 := rfl
  have e1 : (255 : Int32).toInt = 255 := rfl
  obtain ⟨k, hk⟩ : ∃ k : Nat, x.toInt = k := ⟨x.toInt.toNat, by omega⟩
  have hx : x = Int32.ofNat k := Int32.toInt_inj.mp (by rw [hk, Int32.toInt_ofNat_small (by omega)])
  rw [hx]
  exact t ⟨k, by omega⟩
end StrChars
namespace StrChars.Road
open Jvm Sem ClassFile Op Lib Jvm.Stand Jvm.Free Jvm.Free.XT
open Jvm.Lib.Cold (StaticIs)
abbrev ST : String := "java/lang/String"
/-- every table word that New1's law asks, flat -/
abbrev words : List Jvm.Cond := [.code New1.yN New1.yB 2 none, .initialized ST, .methodLink ST 27 New4.yN, .instanceMethod New4.yN,
  .code New4.yN New4.yB 6 none, .fieldLink ST 38 ST "COMPACT_STRINGS" "Z", .laysFinal ST ST "value" "[B", .fieldLink ST 9 ST "value" "[B", .laysFinal ST ST "coder" "B", .fieldLink ST 15 ST "coder" "B",
  .methodLink ST 1 Lib.objectInit, .instanceMethod Lib.objectInit, .code Lib.objectInit ⟨#[0xb1]⟩ 1 none, .methodLink ST 177 Cmp3.yN, .static Cmp3.yN, .methodLink ST 47 CodL.yN, .static CodL.yN,
  .code Cmp3.yN Cmp3.yB 6 (some (.array .byte)), .initialized U16, .arrayClass .byte, .methodLink U16 115 Cmp5.yN, .static Cmp5.yN, .code Cmp5.yN Cmp5.yB 7 (some .int), .code CodL.yN CodL.yB 2 (some .byte)]
theorem tab_of {a : Array Value} {s : State} (h : ∀ w ∈ words, w.before a s = true) : New1.tab.before a s = true := by
  have h5 : Cmp5.tab.before a s = true := unparts (wk h (.code Cmp5.yN Cmp5.yB 7 (some .int))) (wks h (.initialized Cmp5.yN.cls :: Cmp5.site))
  have hc : CodL.tab.before a s = true := unparts (wk h (.code CodL.yN CodL.yB 2 (some .byte))) (wks h (.initialized CodL.yN.cls :: CodL.site))
  have q5 : ∀ w ∈ Cmp5.tab :: words, w.before a s = true := fun w hw => (List.mem_cons.mp hw).elim (fun e => e ▸ h5) (h w)
  have h3 : Cmp3.tab.before a s = true := unparts (wk q5 (.code Cmp3.yN Cmp3.yB 6 (some (.array .byte)))) (wks q5 (.initialized Cmp3.yN.cls :: Cmp3.site))
  have q3 : ∀ w ∈ Cmp3.tab :: CodL.tab :: words, w.before a s = true := fun w hw => (List.mem_cons.mp hw).elim (fun e => e ▸ h3) fun hw => (List.mem_cons.mp hw).elim (fun e => e ▸ hc) (h w)
  have h4 : New4.tab.before a s = true := unparts (wk q3 (.code New4.yN New4.yB 6 none)) (wks q3 (.initialized New4.yN.cls :: New4.site))
  have q4 : ∀ w ∈ New4.tab :: words, w.before a s = true := fun w hw => (List.mem_cons.mp hw).elim (fun e => e ▸ h4) (h w)
  exact unparts (wk q4 (.code New1.yN New1.yB 2 none)) (wks q4 (.initialized New1.yN.cls :: New1.site))
/-- the words ride from the start Z to the walk's own state -/
theorem moved {Z s : State} {a0 args : Array Value} (hZ : Z.Warmed39 s.vm) (hw : ∀ d ∈ words, d.before a0 Z = true) : ∀ d ∈ words, d.before args s = true := fun d hd => by
  have q := hw d hd
  have t : ∀ d ∈ words, d = .arrayClass .byte ∨ (d.onTables && d.keepsFace) = true := by decide +kernel
  rcases t d hd with rfl | t
  · exact RoadKit.mvA hZ q
  · exact RoadKit.mv hZ q t
/-- WHAT COMES BACK, over the tables of the start Z: h the heap at the call, h' behind it -/
def Q (Z : State) (x : Addr) (A : Cell) (h : Heap) (v : Option Value) (h' : Heap) (L : List Loc) : Prop := v = none ∧ (∀ y ∈ L, y.base = x) ∧ RoadKit.Keep h h' [x] ∧ h'.size = h.size + 1 ∧ RoadKit.Exa Z h' x ST ∧ RoadKit.Fld Z h' x ST "value" "[B" (.ref h.size) ∧ RoadKit.Fld Z h' x ST "coder" "B" (.int 0) ∧
  (∃ V : Cell, RoadKit.Arr Z h' h.size V .byte ∧ V.vm = .none ∧ Z.vm.findClass "[B" = some V.cls ∧ V.slots.size = A.slots.size ∧ ∀ j, j < A.slots.size → V.slots[j]? = some (.int (lo8 (cv A j)))) ∧
  ∀ (O n d : String) (w : Value), RoadKit.Fld Z h x O n d w → RoadKit.slotOf Z O n d ≠ RoadKit.slotOf Z ST "value" "[B" → RoadKit.slotOf Z O n d ≠ RoadKit.slotOf Z ST "coder" "B" → RoadKit.Fld Z h' x O n d w
/-- **new String(chars) AT A CALL, IN THE ROAD'S FORM**: for specialBack behind newO: x the fresh String, b the char[] with the cell A -/
theorem back {p : Program} {l : Launch} {e : Env} {R : Room} {s : State} {args : Array Value} {below : List Frame} {len W : Nat} {Z : State} {a0 : Array Value} {h : Heap} (hZ : Z.Warmed39 s.vm) (hw : ∀ d ∈ words, d.before a0 Z = true) {kI : Nat} (wi : (Jvm.Cond.instantiable ST kI).before a0 Z = true)
    {x b : Addr} {A : Cell} {z : Int32} {v0 c0 : Value} (E : RoadKit.Exa Z h x ST) (V : RoadKit.Fld Z h x ST "value" "[B" v0) (C : RoadKit.Fld Z h x ST "coder" "B" c0) (K : RoadKit.Arr Z h b A .char) (hty : Typed .char A) (S : RoadKit.Sta Z h ST "COMPACT_STRINGS" "Z" (.int z)) (hz : ¬ z = 0)
    (l0 : 0 < A.slots.size) (l2 : A.slots.size ≤ 536870912) (hp : ∀ i, i < A.slots.size → ¬ 255 < cv A i) (hfr : 4 ≤ R.frames) (hlo : W + 65 ≤ R.locals) :
    Back l R p e below s args New1.yN len W (fun P a => a = #[.ref x, .ref b] ∧ P.U.heap = h ∧ P.cells + 1 ≤ R.cells ∧ P.slots + A.slots.size ≤ R.slots)
      (fun P _ v B => ∃ L, Q Z x A h v B.U.heap L ∧ B.locs = P.locs ++ L ∧ B.cells = P.cells + 1 ∧ B.slots = P.slots + A.slots.size) := by
  intro m meth c P g ig mk a X hg hsize hdg hW hn hp'
  obtain ⟨rfl, rfl, r1, r2⟩ := hp'
  have al : Z.vm.Alike P.U.vm := hZ.alike.trans X.warmed.alike
  obtain ⟨D, cfV, kV, iV, fV, hD, gV, stV, knV, obV, asV, slV⟩ := id V
  obtain ⟨D', cfC, kC, iC, fC, hD', gC, stC, -, -, asC, slC⟩ := id C
  cases hD.symm.trans hD'
  obtain ⟨D2, kD, e1, e2, e3, e4, e5⟩ := id E
  cases hD.symm.trans e1
  obtain ⟨c2, k2, i1, i2, i3, -⟩ := Cond.instantiable_spec wi
  cases e2.symm.trans i1
  cases e3.symm.trans i2
  obtain ⟨kU, u1, u2⟩ := al.2.2 _ _ e3
  have hB : Blank ST x D P.U := ⟨hD, ⟨knV, fun q hq => by rw [hq] at obV; cases obV⟩, by rw [al.findClass]; exact e2, kU, u1, by rw [u2]; exact i3, by rw [u2]; exact e5 i3⟩
  have F1 : Found ST "value" "[B" fV P.U := ⟨SBG.found_only al ⟨cfV, kV, iV, gV⟩, stV⟩
  have F2 : Found ST "coder" "B" fC P.U := ⟨SBG.found_only al ⟨cfC, kC, iC, gC⟩, stC⟩
  have hA : Ch b A P.U := ⟨⟨K.1, State.isArrayOf_alike al K.2.1, K.2.2, by omega⟩, hty⟩
  have hS : StaticIs P.U ST "COMPACT_STRINGS" "Z" (.int z) := by
    obtain ⟨cfS, iS, kS, fS, st, cS, t1, t2, t3, t4, t5, t6, t7⟩ := S
    exact StaticIs.there (s := { Z with heap := P.U.heap }) ⟨cfS, iS, kS, fS, st, cS, t1, t2, t3, t4, t5, (fun q => by rw [q] at t6; cases t6), t7⟩ al rfl
  obtain ⟨v, B, X', ⟨⟨hv, E', V', q1, q2, q3, q4, q5, q6, q7, q8, q9, q10, q11⟩, hl, hc, hs⟩, st⟩ := New1.pays x D fV fC b A z (tab_of (moved hZ hw)) hfr hlo m meth c P g ig mk _ X hg hsize hdg hW hn ⟨r1, r2, rfl, hB, F1, F2, hA, hS, hz, l0, l2, hp⟩
  have al' : Z.vm.Alike B.U.vm := hZ.alike.trans X'.warmed.alike
  have hsz : E'.slots.size = D.slots.size := by
    obtain ⟨-, -, -, kB, w1, w2, w3⟩ := q1
    obtain ⟨kB', y1, y2⟩ := al'.2.2 _ _ e3
    rw [q2.2.1] at w1
    cases w1.symm.trans y1
    rw [w3, e5 i3, y2]
  refine ⟨v, B, X', ⟨_, ⟨hv, ?_, ⟨by omega, fun y cy hy hn' => q10 y cy (by simpa using hn') hy, fun y cy hy => ?_⟩, q11, ⟨E', _, q1.1, by rw [q2.2.1]; exact e2, by rw [q2.2.1]; exact e3, by rw [q2.1]; exact obV, fun _ => by rw [hsz]; exact e5 i3⟩,
    ⟨E', cfV, kV, iV, fV, q1.1, gV, stV, by rw [q2.1]; exact knV, by rw [q2.1]; exact obV, by rw [q2.2.1]; exact asV, q3⟩, ⟨E', cfC, kC, iC, fC, q1.1, gC, stC, by rw [q2.1]; exact knV, by rw [q2.1]; exact obV, by rw [q2.2.1]; exact asC, q4⟩,
    ⟨V', ⟨q5.1, State.isArrayOf_alike al'.symm q5.2.1, q5.2.2.1⟩, q6, by rw [← al'.findClass]; exact q7, q8, fun j hj => by have := q9 j hj; rwa [Nat.zero_add] at this⟩, fun O n d w F n1 n2 => ?_⟩, hl, hc, hs⟩, st⟩
  · intro y hy
    simp only [List.mem_cons, List.not_mem_nil, or_false] at hy
    rcases hy with rfl | rfl <;> rfl
  · by_cases q : y = x
    · subst q
      cases hD.symm.trans hy
      exact ⟨E', q1.1, q2.2.1, q2.1, hsz⟩
    · exact ⟨cy, q10 y cy q hy, rfl, rfl, rfl⟩
  · obtain ⟨D3, cf, k, i, f, g1, g2, g3, g4, g5, g6, g7⟩ := F
    cases hD.symm.trans g1
    simp only [RoadKit.slotOf, g2, gV, gC, Option.map_some, Option.getD_some] at n1 n2
    exact ⟨E', cf, k, i, f, q1.1, g2, g3, by rw [q2.1]; exact g4, by rw [q2.1]; exact g5, by rw [q2.2.1]; exact g6, by rw [q2.2.2 f.slot (by simp [n1, n2])]; exact g7⟩
end StrChars.Road
namespace StrChars.Road
open Jvm Sem ClassFile Op Lib Jvm.Stand Jvm.Free Jvm.Free.XT
/-- WHAT COMES BACK, the byte[] as a list of values -/
def QA (Z : State) (x : Addr) (zn : Int32) (cs : List Int32) (h : Heap) (v : Option Value) (h' : Heap) (L : List Loc) : Prop := v = none ∧ (∀ y ∈ L, y.base = x) ∧ RoadKit.Keep h h' [x] ∧ h'.size = h.size + 1 ∧ RoadKit.Exa Z h' x ST ∧ RoadKit.Fld Z h' x ST "value" "[B" (.ref h.size) ∧ RoadKit.Fld Z h' x ST "coder" "B" (.int 0) ∧
  (∃ kb, Z.vm.findClass "[B" = some kb ∧ RoadKit.Arv Z h' h.size kb .byte zn (cs.map fun c => .int (lo8 c)) (.int 0)) ∧
  ∀ (O n d : String) (w : Value), RoadKit.Fld Z h x O n d w → RoadKit.slotOf Z O n d ≠ RoadKit.slotOf Z ST "value" "[B" → RoadKit.slotOf Z O n d ≠ RoadKit.slotOf Z ST "coder" "B" → RoadKit.Fld Z h' x O n d w
/-- **new String(chars) AT A CALL, THE ARRAYS AS LISTS**: the char[] at b holds cs, not empty, no char above 255 -/
theorem backArv {p : Program} {l : Launch} {e : Env} {R : Room} {s : State} {args : Array Value} {below : List Frame} {len W : Nat} {Z : State} {a0 : Array Value} {h : Heap} (hZ : Z.Warmed39 s.vm) (hw : ∀ d ∈ words, d.before a0 Z = true) {kI : Nat} (wi : (Jvm.Cond.instantiable ST kI).before a0 Z = true)
    {x b : Addr} {k : ClassId} {zn z : Int32} {cs : List Int32} {dv v0 c0 : Value} (E : RoadKit.Exa Z h x ST) (V : RoadKit.Fld Z h x ST "value" "[B" v0) (C : RoadKit.Fld Z h x ST "coder" "B" c0) (K : RoadKit.Arv Z h b k .char zn (cs.map Value.int) dv) (S : RoadKit.Sta Z h ST "COMPACT_STRINGS" "Z" (.int z)) (hz : ¬ z = 0)
    (hlen : zn.toNatClampNeg = cs.length) (h0 : 0 < cs.length) (hbig : cs.length ≤ 536870912) (hall : ∀ c ∈ cs, ¬ 255 < c) (hfr : 4 ≤ R.frames) (hlo : W + 65 ≤ R.locals) :
    Back l R p e below s args New1.yN len W (fun P a => a = #[.ref x, .ref b] ∧ P.U.heap = h ∧ P.cells + 1 ≤ R.cells ∧ P.slots + cs.length ≤ R.slots)
      (fun P _ v B => ∃ L, QA Z x zn cs h v B.U.heap L ∧ B.locs = P.locs ++ L ∧ B.cells = P.cells + 1 ∧ B.slots = P.slots + cs.length) := by
  obtain ⟨A, K1, K2, K3, K4, K5, K6⟩ := K
  have e : A.slots.size = cs.length := K3.trans hlen
  have hat : ∀ (i : Nat) (hi : i < cs.length), A.slots[i]? = some (.int cs[i]) := fun i hi => by rw [K5 i (by omega)]; simp [List.getD_eq_getElem?_getD, hi]
  have hcv : ∀ (i : Nat) (hi : i < cs.length), cv A i = cs[i] := fun i hi => by unfold cv; rw [hat i hi]
  have hty : Typed .char A := fun i v hv => by
    have hi : i < A.slots.size := (Array.getElem?_eq_some_iff.mp hv).1
    have q := K5 i hi
    rw [hv] at q
    rw [Option.some.inj q]
    exact K6 i hi
  refine Back.mono (back hZ hw wi E V C K1 hty S hz (by omega) (by omega) (fun i hi => by rw [hcv i (by omega)]; exact hall _ (List.getElem_mem _)) hfr hlo) (fun P a hp => ⟨hp.1, hp.2.1, hp.2.2.1, by rw [e]; exact hp.2.2.2⟩) (fun P a v B hp hq => ?_)
  obtain ⟨L, ⟨q1, q2, q3, q4, q5, q6, q7, ⟨V', v1, v2, v3, v4, v5⟩, q9⟩, hl, hc, hs⟩ := hq
  refine ⟨L, ⟨q1, q2, q3, q4, q5, q6, q7, ⟨V'.cls, v3, V', v1, rfl, by rw [v4, e, hlen], K4, fun i hi => ?_, fun i hi => ?_⟩, q9⟩, hl, hc, by rw [hs, e]⟩
  · have hi' : i < cs.length := by omega
    rw [v5 i (by omega), hcv i hi']; simp [List.getD_eq_getElem?_getD, hi']
  · have hi' : i < cs.length := by omega
    simp only [List.getD_eq_getElem?_getD, List.getElem?_map, List.getElem?_eq_getElem hi', Option.map_some, Option.getD_some]
    exact fits_lo8 _
end StrChars.Road
namespace StrChars.Road
open Jvm Sem ClassFile Op Lib Jvm.Stand Jvm.Free Jvm.Free.XT
/-- WHAT COMES BACK, in the writer's own shape -/
def QV (Z : State) (x : Addr) (N : Int32) (bs : List Int32) (h : Heap) (n0 : Nat) (v : Option Value) (h' : Heap) (L : List Loc) : Prop := v = none ∧ RoadKit.Fr n0 L ∧ RoadKit.Keep h h' [x] ∧ RoadKit.Exa Z h' x ST ∧ RoadKit.Fld Z h' x ST "coder" "B" (.int 0) ∧
  ∃ (t : Addr) (kb : ClassId), n0 ≤ t ∧ h.size ≤ t ∧ ¬ t = x ∧ RoadKit.Fld Z h' x ST "value" "[B" (.ref t) ∧ RoadKit.Arv Z h' t kb .byte N (bs.map Value.int) (.int 0)
/-- **new String(chars) AT A CALL, FOR THE WRITER**: a char[] of n known ints, each 0 to 255 -/
theorem backV {p : Program} {l : Launch} {e : Env} {R : Room} {s : State} {args : Array Value} {below : List Frame} {len W : Nat} {Z : State} {a0 : Array Value} {h : Heap} (hZ : Z.Warmed39 s.vm) (hw : ∀ d ∈ words, d.before a0 Z = true) {kI : Nat} (wi : (Jvm.Cond.instantiable ST kI).before a0 Z = true)
    {x b : Addr} {kC : ClassId} {cs bs : List Int32} {d v0 c0 : Value} {z N : Int32} {n n0 : Nat} (hx0 : n0 ≤ x) (hh0 : n0 ≤ h.size) (E : RoadKit.Exa Z h x ST) (V : RoadKit.Fld Z h x ST "value" "[B" v0) (C : RoadKit.Fld Z h x ST "coder" "B" c0) (K : RoadKit.Arv Z h b kC .char N (cs.map Value.int) d) (S : RoadKit.Sta Z h ST "COMPACT_STRINGS" "Z" (.int z)) (hz : ¬ z = 0)
    (hn : cs.length = n) (hN : N = Int32.ofNat n) (l0 : 0 < n) (l2 : n ≤ 4000) (hp : ∀ c ∈ cs, ¬ c < 0 ∧ ¬ (255 : Int32) < c) (hb : bs = cs.map (fun c => c.toInt8.toInt32)) (hfr : 4 ≤ R.frames) (hlo : W + 65 ≤ R.locals) :
    Back l R p e below s args (⟨"java/lang/String", "<init>", "([C)V"⟩ : MethodName) len W (fun P a => a = #[.ref x, .ref b] ∧ P.U.heap = h ∧ P.cells + 1 ≤ R.cells ∧ P.slots + n ≤ R.slots)
      (fun P _ v B => ∃ L, QV Z x N bs h n0 v B.U.heap L ∧ B.locs = P.locs ++ L ∧ B.cells = P.cells + 1 ∧ B.slots = P.slots + n) := by
  subst hn hN hb
  refine Back.mono (backArv hZ hw wi E V C K S hz (n32 (by omega)) l0 (by omega) (fun c hc => (hp c hc).2) hfr hlo) (fun P a hp => hp) (fun P a v B hp hq => ?_)
  obtain ⟨L, ⟨q1, q2, q3, q4, q5, q6, q7, ⟨kb, v1, v2⟩, q9⟩, hl, hc, hs⟩ := hq
  exact ⟨L, ⟨q1, fun y hy => by rw [q2 y hy]; exact hx0, q3, q5, q7, h.size, kb, hh0, Nat.le_refl _, Nat.ne_of_gt E.lt, q6, by rw [List.map_map]; exact v2⟩, hl, hc, hs⟩
end StrChars.Road
namespace StrChars
open Jvm Sem ClassFile Op Lib Jvm.Stand Jvm.Free.XT Jvm.Free.ALB Jvm.Free.JM Jvm.Free
open Jvm.Lib.Cold (StaticIs)
def hi8 (x : Int32) : Int32 := lo8 (x >>> ((8 : Int32) &&& 31))
/-- what StringUTF16.getChar makes of two bytes -/
def pairCh (u v : Int32) : Int32 := (((u &&& 255) <<< ((0 : Int32) &&& 31)) ||| ((v &&& 255) <<< ((8 : Int32) &&& 31))).toUInt32.toUInt16.toUInt32.toInt32
theorem lo8_and (x : Int32) : (lo8 x &&& 255).toBitVec.toNat = x.toBitVec.toNat % 256 := by
  have h : (lo8 x).toBitVec = (x.toBitVec.signExtend 8).signExtend 32 := by rw [lo8, Int8.toBitVec_toInt32, Int32.toBitVec_toInt8]
  rw [Int32.toBitVec_and, BitVec.toNat_and, h]
  have e : ((x.toBitVec.signExtend 8).signExtend 32).toNat % 256 = x.toBitVec.toNat % 256 := by
    rw [BitVec.toNat_signExtend]
    have hlt := x.toBitVec.isLt
    simp only [BitVec.toNat_setWidth, BitVec.toNat_signExtend]
    split <;> split <;> omega
  rw [← e]
  exact Nat.and_two_pow_sub_one_eq_mod _ 8
theorem pair_says {c : Int32} (h0 : ¬ c < 0) (h1 : ¬ 65535 < c) : pairCh (lo8 c) (hi8 c) = c := by
  rw [Int32.lt_iff_toInt_lt] at h0 h1
  have e0 : (0 : Int32).toInt = 0 := rfl
  have e1 : (65535 : Int32).toInt = 65535 := rfl
  have hc : c.toInt = c.toBitVec.toNat := by
    have := c.toBitVec.isLt
    have e : c.toInt = c.toBitVec.toInt := rfl
    rw [e] at h0 h1
    rw [e]
    rw [BitVec.toInt_eq_toNat_cond] at h0 h1 ⊢
    split at h0 <;> split <;> omega
  have hn : c.toBitVec.toNat < 65536 := by omega
  have a1 := lo8_and c
  have a2 : (hi8 c &&& 255).toBitVec.toNat = c.toBitVec.toNat / 256 := by
    rw [hi8, lo8_and]
    have e : ((8 : Int32) &&& 31) = 8 := by decide
    rw [e, Int32.toBitVec_shiftRight]
    have e2 : ((8 : Int32).toBitVec.smod 32) = 8#32 := by decide
    rw [e2, BitVec.sshiftRight_eq', BitVec.toNat_sshiftRight_of_msb_false (by rw [BitVec.msb_eq_false_iff_two_mul_lt]; omega)]
    show c.toBitVec.toNat >>> 8 % 256 = _
    rw [Nat.shiftRight_eq_div_pow]
    omega
  unfold pairCh
  apply Int32.toBitVec_inj.mp
  apply BitVec.eq_of_toNat_eq
  have f0 : ((0 : Int32) &&& 31) = 0 := by decide
  have f8 : ((8 : Int32) &&& 31) = 8 := by decide
  rw [f0, f8]
  have g : (((lo8 c &&& 255) <<< (0 : Int32)) ||| ((hi8 c &&& 255) <<< (8 : Int32))).toBitVec.toNat = c.toBitVec.toNat := by
    rw [Int32.toBitVec_or, Int32.toBitVec_shiftLeft, Int32.toBitVec_shiftLeft]
    have s0 : ((0 : Int32).toBitVec.smod 32) = 0#32 := by decide
    have s8 : ((8 : Int32).toBitVec.smod 32) = 8#32 := by decide
    rw [s0, s8, BitVec.toNat_or]
    simp only [BitVec.shiftLeft_eq', BitVec.toNat_shiftLeft, a1, a2]
    show (c.toBitVec.toNat % 256) <<< 0 % 2 ^ 32 ||| (c.toBitVec.toNat / 256) <<< 8 % 2 ^ 32 = _
    rw [Nat.shiftLeft_zero, Nat.mod_eq_of_lt (show c.toBitVec.toNat % 256 < 2 ^ 32 by omega), Nat.mod_eq_of_lt (show (c.toBitVec.toNat / 256) <<< 8 < 2 ^ 32 by rw [Nat.shiftLeft_eq]; omega), Nat.or_comm, ← Nat.shiftLeft_add_eq_or_of_lt (by omega), Nat.shiftLeft_eq]
    omega
  show BitVec.toNat (((((lo8 c &&& 255) <<< (0 : Int32)) ||| ((hi8 c &&& 255) <<< (8 : Int32))).toBitVec.setWidth 16).setWidth 32) = _
  rw [BitVec.toNat_setWidth, BitVec.toNat_setWidth, g]
  omega
end StrChars
namespace StrChars
open Jvm Sem ClassFile Op Lib Jvm.Stand Jvm.Free.XT Jvm.Free.ALB Jvm.Free.JM Jvm.Free
open Jvm.Lib.Cold (StaticIs)
/-- the array's cell V codes the n chars f 0 .. f (n - 1) by the coder cd, as the JDK does: coder 1 just where some char is above 255 -/
def Cod (cd : Int32) (n : Nat) (f : Nat → Int32) (V : Cell) : Prop := (cd = 0 ∧ V.slots.size = n ∧ ∀ j, j < n → V.slots[j]? = some (.int (lo8 (f j))) ∧ ¬ 255 < f j) ∨ (cd = 1 ∧ V.slots.size = 2 * n ∧ (∀ j, j < n → V.slots[2 * j]? = some (.int (lo8 (f j))) ∧ V.slots[2 * j + 1]? = some (.int (hi8 (f j)))) ∧ ∃ j, j < n ∧ 255 < f j)
/-- **x is a String of the n chars f 0 .. f (n - 1)**, Latin-1 or UTF-16; its array at t has the cell V -/
def Txt (x t : Addr) (V : Cell) (cd : Int32) (n : Nat) (f : Nat → Int32) (U : State) : Prop := Exact "java/lang/String" x U ∧ Has x "java/lang/String" "value" "[B" (.ref t) U ∧ Has x "java/lang/String" "coder" "B" (.int cd) U ∧ XT.Arr .byte t V U ∧ Cod cd n f V ∧ ∀ j, j < n → ¬ f j < 0 ∧ ¬ 65535 < f j
theorem Txt.mv {x t : Addr} {V : Cell} {cd : Int32} {n : Nat} {f : Nat → Int32} {U U' : State} (h : Txt x t V cd n f U) (hal : U.vm.Alike U'.vm) (hh : U'.heap = U.heap) : Txt x t V cd n f U' := ⟨h.1.mv hal hh, h.2.1.mv hal hh, h.2.2.1.mv hal hh, h.2.2.2.1.mv hal hh, h.2.2.2.2⟩
end StrChars
namespace StrChars.Road
open Jvm Sem ClassFile Op Lib Jvm.Stand Jvm.Free Jvm.Free.XT
open Jvm.Lib.Cold (StaticIs)
theorem consq {a : Array Value} {s : State} {c : Jvm.Cond} {L : List Jvm.Cond} (h0 : c.before a s = true) (h : ∀ w ∈ L, w.before a s = true) : ∀ w ∈ c :: L, w.before a s = true := fun w hw => (List.mem_cons.mp hw).elim (fun e => e ▸ h0) (h w)
/-- the bytes of the chars cs, low before high -/
def wideBytes : List Int32 → List Value
  | [] => []
  | c :: cs => .int (lo8 c) :: .int (hi8 c) :: wideBytes cs
theorem wide_lo (d : Value) : ∀ (cs : List Int32) (j : Nat), j < cs.length → (wideBytes cs).getD (2 * j) d = .int (lo8 (cs.getD j 0))
  | [], j, h => absurd h (Nat.not_lt_zero j)
  | c :: cs, 0, _ => rfl
  | c :: cs, j + 1, h => by
    have q := wide_lo d cs j (by simpa using h)
    rw [show 2 * (j + 1) = 2 * j + 1 + 1 from by omega]
    simpa [wideBytes] using q
theorem wide_hi (d : Value) : ∀ (cs : List Int32) (j : Nat), j < cs.length → (wideBytes cs).getD (2 * j + 1) d = .int (hi8 (cs.getD j 0))
  | [], j, h => absurd h (Nat.not_lt_zero j)
  | c :: cs, 0, _ => rfl
  | c :: cs, j + 1, h => by
    have q := wide_hi d cs j (by simpa using h)
    rw [show 2 * (j + 1) + 1 = 2 * j + 1 + 1 + 1 from by omega]
    simpa [wideBytes] using q
theorem low_at (d : Value) (cs : List Int32) (j : Nat) (h : j < cs.length) : (cs.map fun c => Value.int (lo8 c)).getD j d = .int (lo8 (cs.getD j 0)) := by
  simp [List.getD_eq_getElem?_getD, h]
/-- an array of N2 bytes vs codes the chars cs by the coder cd -/
def CodA (cs : List Int32) (cd N2 : Int32) (vs : List Value) : Prop := (cd = 0 ∧ N2 = Int32.ofNat cs.length ∧ vs = (cs.map fun c => Value.int (lo8 c)) ∧ ∀ c ∈ cs, ¬ 255 < c) ∨ (cd = 1 ∧ N2 = Int32.ofNat (2 * cs.length) ∧ vs = wideBytes cs ∧ ∃ c ∈ cs, 255 < c)
theorem CodA.cod {cs : List Int32} {cd N2 : Int32} {vs : List Value} {V : Cell} (h : CodA cs cd N2 vs) (hn : 2 * cs.length < 2 ^ 31) (hs : V.slots.size = N2.toNatClampNeg) (hv : RoadKit.Has V vs (.int 0)) : Cod cd cs.length (fun j => cs.getD j 0) V := by
  rcases h with ⟨rfl, rfl, rfl, h⟩ | ⟨rfl, rfl, rfl, c, hc, hw⟩
  · rw [n32 (by omega)] at hs
    exact Or.inl ⟨rfl, hs, fun j hj => ⟨by rw [hv j (by omega), low_at _ _ _ hj], by
      have e : cs.getD j 0 = cs[j] := by simp [List.getD_eq_getElem?_getD, hj]
      show ¬ 255 < cs.getD j 0
      rw [e]; exact h _ (List.getElem_mem _)⟩⟩
  · rw [n32 (by omega)] at hs
    obtain ⟨j, hj, rfl⟩ := List.getElem_of_mem hc
    exact Or.inr ⟨rfl, hs, fun j hj => ⟨by rw [hv _ (by omega), wide_lo _ _ _ hj], by rw [hv _ (by omega), wide_hi _ _ _ hj]⟩, j, hj, by
      have e : cs.getD j 0 = cs[j] := by simp [List.getD_eq_getElem?_getD, hj]
      show 255 < cs.getD j 0
      rw [e]; exact hw⟩
/-- an object of exactly java/lang/String, its two fields found: as the laws ask it -/
theorem strObj {Z U : State} {a0 : Array Value} {kI : Nat} (wi : (Jvm.Cond.instantiable ST kI).before a0 Z = true) (al : Z.vm.Alike U.vm) {x : Addr} {v0 c0 : Value} (E : RoadKit.Exa Z U.heap x ST) (V : RoadKit.Fld Z U.heap x ST "value" "[B" v0) (C : RoadKit.Fld Z U.heap x ST "coder" "B" c0) :
    ∃ (D : Cell) (fV fC : Field), Blank ST x D U ∧ Found ST "value" "[B" fV U ∧ Found ST "coder" "B" fC U ∧ D.slots[fV.slot]? = some v0 ∧ D.slots[fC.slot]? = some c0 ∧ RoadKit.slotOf Z ST "value" "[B" = fV.slot ∧ RoadKit.slotOf Z ST "coder" "B" = fC.slot := by
  obtain ⟨D, cfV, kV, iV, fV, hD, gV, stV, knV, obV, asV, slV⟩ := V
  obtain ⟨D', cfC, kC, iC, fC, hD', gC, stC, -, -, asC, slC⟩ := C
  cases hD.symm.trans hD'
  obtain ⟨D2, kD, e1, e2, e3, e4, e5⟩ := E
  cases hD.symm.trans e1
  obtain ⟨c2, k2, i1, i2, i3, -⟩ := Cond.instantiable_spec wi
  cases e2.symm.trans i1
  cases e3.symm.trans i2
  obtain ⟨kU, u1, u2⟩ := al.2.2 _ _ e3
  exact ⟨D, fV, fC, ⟨hD, ⟨knV, fun q hq => by rw [hq] at obV; cases obV⟩, by rw [al.findClass]; exact e2, kU, u1, by rw [u2]; exact i3, by rw [u2]; exact e5 i3⟩, ⟨SBG.found_only al ⟨cfV, kV, iV, gV⟩, stV⟩, ⟨SBG.found_only al ⟨cfC, kC, iC, gC⟩, stC⟩, slV, slC, by simp [RoadKit.slotOf, gV], by simp [RoadKit.slotOf, gC]⟩
theorem sta_is {Z U : State} (al : Z.vm.Alike U.vm) {C n d : String} {v : Value} (S : RoadKit.Sta Z U.heap C n d v) : StaticIs U C n d v := by
  obtain ⟨cfS, iS, kS, fS, st, cS, t1, t2, t3, t4, t5, t6, t7⟩ := S
  exact StaticIs.there (s := { Z with heap := U.heap }) ⟨cfS, iS, kS, fS, st, cS, t1, t2, t3, t4, t5, (fun q => by rw [q] at t6; cases t6), t7⟩ al rfl
end StrChars.Road
namespace StrChars
open Jvm Sem ClassFile Op Lib Jvm.Stand Jvm.Free.XT Jvm.Free.ALB Jvm.Free.JM Jvm.Free
open Jvm.Lib.Cold (StaticIs)
/-- what place i of a byte[]'s cell holds -/
def yv (A : Cell) (i : Nat) : Int32 := match A.slots[i]? with | some (.int x) => x | _ => 0
theorem yv_get {a : Addr} {A : Cell} {U : State} (h : XT.Arr .byte a A U) (ht : Typed .byte A) {i : Nat} (hi : i < A.slots.size) : A.slots[i]? = some (.int (yv A i)) := by
  have e := Array.getElem?_eq_getElem hi
  have f := ht i _ e
  unfold yv; rw [e]
  generalize A.slots[i] = v at f
  cases v <;> simp [fits] at f ⊢
/-- the two arrays are equal, place for place -/
def EqC (A B : Cell) : Prop := A.slots.size = B.slots.size ∧ ∀ i, i < A.slots.size → yv A i = yv B i
/-- a boolean that says whether p -/
def Says01 (q : Prop) (r : Option Value) (s u : State) : Prop := ∃ v : Int32, r = some (.int v) ∧ u.heap = s.heap ∧ ((v = 1 ∧ q) ∨ (v = 0 ∧ ¬ q))
theorem Says01.mv {q : Prop} : ∀ r (U U' V V' : State), U'.heap = U.heap → V.vm.Alike V'.vm → V'.heap = V.heap → Says01 q r U V → Says01 q r U' V' :=
  fun r U U' V V' h1 _ h2 ⟨v, a, b, c⟩ => ⟨v, a, by rw [h1, h2]; exact b, c⟩
namespace LEq
def yN : MethodName := ⟨"java/lang/StringLatin1", "equals", "([B[B)Z"⟩
abbrev yB : ByteArray := jdk_43_method_13_code
theorem d0 : decode yB 0 = .ok (.aload_n 0, 1) := by decide +kernel
theorem d1 : decode yB 1 = .ok (.arraylength, 1) := by decide +kernel
theorem d2 : decode yB 2 = .ok (.aload_n 1, 1) := by decide +kernel
theorem d3 : decode yB 3 = .ok (.arraylength, 1) := by decide +kernel
theorem d4 : decode yB 4 = .ok (.if_icmp (.ne) 30, 3) := by decide +kernel
theorem d7 : decode yB 7 = .ok (.iconst 0, 1) := by decide +kernel
theorem d8 : decode yB 8 = .ok (.istore_n 2, 1) := by decide +kernel
theorem d9 : decode yB 9 = .ok (.iload_n 2, 1) := by decide +kernel
theorem d10 : decode yB 10 = .ok (.aload_n 0, 1) := by decide +kernel
theorem d11 : decode yB 11 = .ok (.arraylength, 1) := by decide +kernel
theorem d12 : decode yB 12 = .ok (.if_icmp (.ge) 20, 3) := by decide +kernel
theorem d15 : decode yB 15 = .ok (.aload_n 0, 1) := by decide +kernel
theorem d16 : decode yB 16 = .ok (.iload_n 2, 1) := by decide +kernel
theorem d17 : decode yB 17 = .ok (.baload, 1) := by decide +kernel
theorem d18 : decode yB 18 = .ok (.aload_n 1, 1) := by decide +kernel
theorem d19 : decode yB 19 = .ok (.iload_n 2, 1) := by decide +kernel
theorem d20 : decode yB 20 = .ok (.baload, 1) := by decide +kernel
theorem d21 : decode yB 21 = .ok (.if_icmp (.eq) 5, 3) := by decide +kernel
theorem d24 : decode yB 24 = .ok (.iconst 0, 1) := by decide +kernel
theorem d25 : decode yB 25 = .ok (.ireturn, 1) := by decide +kernel
theorem d26 : decode yB 26 = .ok (.iinc 2 1, 3) := by decide +kernel
theorem d29 : decode yB 29 = .ok (.goto (-20), 3) := by decide +kernel
theorem d32 : decode yB 32 = .ok (.iconst 1, 1) := by decide +kernel
theorem d33 : decode yB 33 = .ok (.ireturn, 1) := by decide +kernel
theorem d34 : decode yB 34 = .ok (.iconst 0, 1) := by decide +kernel
theorem d35 : decode yB 35 = .ok (.ireturn, 1) := by decide +kernel
def site : List Cond := []
def tab : Cond := tabOf yN yB 3 (some .boolean) site
def P (a : Addr) (A : Cell) (b : Addr) (B : Cell) (args : Array Value) (s : State) : Prop := args = #[.ref a, .ref b] ∧ XT.Arr .byte a A s ∧ Typed .byte A ∧ XT.Arr .byte b B s ∧ Typed .byte B
/-- whether two byte[] are equal, place for place -/
theorem law (l : Launch) (a : Addr) (A : Cell) (b : Addr) (B : Cell) : Law l yN 2 2 0 0 yB 3 (some .boolean) site (P a A b B) (Says01 (EqC A B)) [] 0 0 := by
  refine Law.of_walk (plainFor_of_name (by decide +kernel)) (by decide +kernel) (by decide +kernel) (by decide) (fun _ _ h => by rw [h.1]; rfl) (fun _ U U' hal hh h => ⟨h.1, h.2.1.mv hal hh, h.2.2.1, h.2.2.2.1.mv hal hh, h.2.2.2.2⟩) (fun r U U' V V' h1 hal h2 h => Says01.mv r U U' V V' h1 hal h2 h) ?_
  intro p e s m args below meth c s₁ X0 hexec hbytes hml hret hlk hnm hown hh0 W hP
  obtain ⟨rfl, hA, tA, hB, tB⟩ := hP
  have a31 := hA.2.2.2
  have b31 := hB.2.2.2
  have hA0 := hA.mv X0.warmed.alike hh0
  have hB0 := hB.mv X0.warmed.alike hh0
  have c1 : Steps p.tables e below (s₁.setTop (entryFrame m #[.ref a, .ref b] 3)) (s₁.setTop (mkF m 0 #[.val (.ref a), .val (.ref b), .unset] [])) := entry rfl
  have c2 : Steps p.tables e below (s₁.setTop (entryFrame m #[.ref a, .ref b] 3)) (s₁.setTop (mkF m 4 #[.val (.ref a), .val (.ref b), .unset] [.int (Int32.ofNat B.slots.size), .int (Int32.ofNat A.slots.size)])) := c1.trans (by
    refine XS.aloadN X0.here hexec rfl (hb hbytes d0) rfl rfl ?_
    refine X0.alen hexec hA0 rfl rfl (hb hbytes d1) ?_
    refine XS.aloadN X0.here hexec rfl (hb hbytes d2) rfl rfl ?_
    refine X0.alen hexec hB0 rfl rfl (hb hbytes d3) ?_
    exact Steps.refl _)
  by_cases hs : A.slots.size = B.slots.size
  · have c3 : Steps p.tables e below (s₁.setTop (entryFrame m #[.ref a, .ref b] 3)) (s₁.setTop (mkF m 9 #[.val (.ref a), .val (.ref b), .val (.int 0)] [])) := c2.trans (by
      refine XS.icmpNo X0.here hexec rfl (hb hbytes d4) rfl (ii_ne_f (by rw [hs])) ?_
      refine iconstV X0.here hexec rfl 0 (hb hbytes d7) (by decide) ?_
      refine XS.istoreN X0.here hexec rfl (hb hbytes d8) rfl rfl ?_
      exact Steps.refl _)
    have loop : ∀ (r i : Nat), i + r = A.slots.size → (∀ j, j < i → yv A j = yv B j) → Steps p.tables e below (s₁.setTop (entryFrame m #[.ref a, .ref b] 3)) (s₁.setTop (mkF m 9 #[.val (.ref a), .val (.ref b), .val (.int (Int32.ofNat i))] [])) → ∃ (pc : Nat) (Ls : Array Slot) (v : Int32), (pc = 25 ∨ pc = 33) ∧ ((v = 1 ∧ EqC A B) ∨ (v = 0 ∧ ¬ EqC A B)) ∧ Steps p.tables e below (s₁.setTop (entryFrame m #[.ref a, .ref b] 3)) (s₁.setTop (mkF m pc Ls [.int v])) := by
      intro r
      induction r with
      | zero =>
        intro i hi he cl
        exact ⟨33, _, 1, Or.inr rfl, Or.inl ⟨rfl, hs, fun j hj => he j (by omega)⟩, cl.trans (by
          refine XS.iloadN X0.here hexec rfl (hb hbytes d9) rfl ?_
          refine XS.aloadN X0.here hexec rfl (hb hbytes d10) rfl rfl ?_
          refine X0.alen hexec hA0 rfl rfl (hb hbytes d11) ?_
          refine XS.icmpYes X0.here hexec rfl (pc0 := 12) rfl (hb hbytes d12) rfl (ii_ge_t (nlt32 (by omega) (by omega))) (by decide) rfl ?_
          refine iconstV X0.here hexec rfl 1 (hb hbytes d32) (by decide) ?_
          exact Steps.refl _)⟩
      | succ r ih =>
        intro i hi he cl
        have c4 : Steps p.tables e below (s₁.setTop (entryFrame m #[.ref a, .ref b] 3)) (s₁.setTop (mkF m 21 #[.val (.ref a), .val (.ref b), .val (.int (Int32.ofNat i))] [.int (yv B i), .int (yv A i)])) := cl.trans (by
          refine XS.iloadN X0.here hexec rfl (hb hbytes d9) rfl ?_
          refine XS.aloadN X0.here hexec rfl (hb hbytes d10) rfl rfl ?_
          refine X0.alen hexec hA0 rfl rfl (hb hbytes d11) ?_
          refine XS.icmpNo X0.here hexec rfl (hb hbytes d12) rfl (ii_ge_f (lt32 (by omega) (by omega))) ?_
          refine XS.aloadN X0.here hexec rfl (hb hbytes d15) rfl rfl ?_
          refine XS.iloadN X0.here hexec rfl (hb hbytes d16) rfl ?_
          refine X0.aget hexec hA0 rfl (yv_get hA tA (i := i) (by omega)) rfl rfl (hb hbytes d17) ?_
          refine XS.aloadN X0.here hexec rfl (hb hbytes d18) rfl rfl ?_
          refine XS.iloadN X0.here hexec rfl (hb hbytes d19) rfl ?_
          refine X0.aget hexec hB0 rfl (yv_get hB tB (i := i) (by omega)) rfl rfl (hb hbytes d20) ?_
          exact Steps.refl _)
        by_cases hv : yv A i = yv B i
        · have c5 : Steps p.tables e below (s₁.setTop (entryFrame m #[.ref a, .ref b] 3)) (s₁.setTop (mkF m 9 #[.val (.ref a), .val (.ref b), .val (.int (Int32.ofNat i + 1))] [])) := c4.trans (by
            refine XS.icmpYes X0.here hexec rfl (pc0 := 21) rfl (hb hbytes d21) rfl (ii_eq_t hv) (by decide) rfl ?_
            refine iincV X0.here hexec rfl 1 (hb hbytes d26) (by decide) rfl rfl ?_
            refine XS.goto X0.here hexec rfl (pc0 := 29) rfl (hb hbytes d29) (by decide) rfl ?_
            exact Steps.refl _)
          rw [succ32] at c5
          exact ih (i + 1) (by omega) (fun j hj => by
            by_cases e : j = i
            · rw [e]; exact hv
            · exact he j (by omega)) c5
        · exact ⟨25, _, 0, Or.inl rfl, Or.inr ⟨rfl, fun q => hv (q.2 i (by omega))⟩, c4.trans (by
            refine XS.icmpNo X0.here hexec rfl (hb hbytes d21) rfl (ii_eq_f hv) ?_
            refine iconstV X0.here hexec rfl 0 (hb hbytes d24) (by decide) ?_
            exact Steps.refl _)⟩
    obtain ⟨pc, Ls, v, hpc, hv, cz⟩ := loop A.slots.size 0 (by omega) (fun j hj => absurd hj (Nat.not_lt_zero j)) c3
    have nv : narrow .boolean (.int v) = .int v := by rcases hv with ⟨rfl, -⟩ | ⟨rfl, -⟩ <;> rfl
    rcases hpc with rfl | rfl
    · exact ⟨s₁, some (.int v), _, _, _, X0, rfl, rfl, rfl, (fun h => by cases h), ⟨v, rfl, hh0, hv⟩, fun fs hl => cz.trans (X0.ireturnOut hexec hret nv (Or.inr (Or.inl rfl)) (hb hbytes d25) hl)⟩
    · exact ⟨s₁, some (.int v), _, _, _, X0, rfl, rfl, rfl, (fun h => by cases h), ⟨v, rfl, hh0, hv⟩, fun fs hl => cz.trans (X0.ireturnOut hexec hret nv (Or.inr (Or.inl rfl)) (hb hbytes d33) hl)⟩
  · have c3 : Steps p.tables e below (s₁.setTop (entryFrame m #[.ref a, .ref b] 3)) (s₁.setTop (mkF m 35 #[.val (.ref a), .val (.ref b), .unset] [.int 0])) := c2.trans (by
      refine XS.icmpYes X0.here hexec rfl (pc0 := 4) rfl (hb hbytes d4) rfl (ii_ne_t (ne32 a31 b31 hs)) (by decide) rfl ?_
      refine iconstV X0.here hexec rfl 0 (hb hbytes d34) (by decide) ?_
      exact Steps.refl _)
    exact ⟨s₁, some (.int 0), _, _, _, X0, rfl, rfl, rfl, (fun h => by cases h), ⟨0, rfl, hh0, Or.inr ⟨rfl, fun q => hs q.1⟩⟩, fun fs hl => c3.trans (X0.ireturnOut hexec hret rfl (Or.inr (Or.inl rfl)) (hb hbytes d35) hl)⟩
end LEq
theorem Cod.ty {cd : Int32} {n : Nat} {f : Nat → Int32} {V : Cell} (h : Cod cd n f V) : Typed .byte V := fun i v hv => by
  have hi : i < V.slots.size := (Array.getElem?_eq_some_iff.mp hv).1
  rcases h with ⟨-, k1, k2⟩ | ⟨-, k1, k2, -⟩
  · rw [(k2 i (by omega)).1] at hv; cases hv; exact fits_lo8 _
  · rcases Nat.mod_two_eq_zero_or_one i with e | e
    · obtain ⟨j, rfl⟩ : ∃ j, i = 2 * j := ⟨i / 2, by omega⟩
      rw [(k2 j (by omega)).1] at hv; cases hv; exact fits_lo8 _
    · obtain ⟨j, rfl⟩ : ∃ j, i = 2 * j + 1 := ⟨i / 2, by omega⟩
      rw [(k2 j (by omega)).2] at hv; cases hv; exact fits_lo8 _
/-- the same text -/
def SameT (n : Nat) (f : Nat → Int32) (k : Nat) (g : Nat → Int32) : Prop := n = k ∧ ∀ j, j < n → f j = g j
theorem lo8_inj {x y : Int32} (h0 : ¬ x < 0) (h1 : ¬ 255 < x) (k0 : ¬ y < 0) (k1 : ¬ 255 < y) (h : lo8 x = lo8 y) : x = y := by
  rw [← lo8_mask h0 h1, ← lo8_mask k0 k1, h]
/-- arrays coded by one coder are equal just where the texts are -/
theorem Cod.eqv {cd : Int32} {n k : Nat} {f g : Nat → Int32} {V V' : Cell} (h : Cod cd n f V) (h' : Cod cd k g V') (hf : ∀ j, j < n → ¬ f j < 0 ∧ ¬ 65535 < f j) (hg : ∀ j, j < k → ¬ g j < 0 ∧ ¬ 65535 < g j) : EqC V V' ↔ SameT n f k g := by
  have yvv : ∀ {W : Cell} {i : Nat} {x : Int32}, W.slots[i]? = some (.int x) → yv W i = x := fun q => by unfold yv; rw [q]
  rcases h with ⟨rfl, k1, k2⟩ | ⟨rfl, k1, k2, -⟩
  · rcases h' with ⟨-, m1, m2⟩ | ⟨e, -⟩
    · constructor
      · rintro ⟨e1, e2⟩
        refine ⟨by omega, fun j hj => ?_⟩
        have q := e2 j (by omega)
        rw [yvv (k2 j hj).1, yvv (m2 j (by omega)).1] at q
        exact lo8_inj (hf j hj).1 (k2 j hj).2 (hg j (by omega)).1 (m2 j (by omega)).2 q
      · rintro ⟨rfl, e2⟩
        refine ⟨by omega, fun j hj => ?_⟩
        rw [yvv (k2 j (by omega)).1, yvv (m2 j (by omega)).1, e2 j (by omega)]
    · exact absurd e (by decide)
  · rcases h' with ⟨e, -⟩ | ⟨-, m1, m2, -⟩
    · exact absurd e (by decide)
    · constructor
      · rintro ⟨e1, e2⟩
        refine ⟨by omega, fun j hj => ?_⟩
        have q1 := e2 (2 * j) (by omega)
        have q2 := e2 (2 * j + 1) (by omega)
        rw [yvv (k2 j hj).1, yvv (m2 j (by omega)).1] at q1
        rw [yvv (k2 j hj).2, yvv (m2 j (by omega)).2] at q2
        rw [← pair_says (hf j hj).1 (hf j hj).2, ← pair_says (hg j (by omega)).1 (hg j (by omega)).2, q1, q2]
      · rintro ⟨rfl, e2⟩
        refine ⟨by omega, fun i hi => ?_⟩
        rcases Nat.mod_two_eq_zero_or_one i with e | e
        · obtain ⟨j, rfl⟩ : ∃ j, i = 2 * j := ⟨i / 2, by omega⟩
          rw [yvv (k2 j (by omega)).1, yvv (m2 j (by omega)).1, e2 j (by omega)]
        · obtain ⟨j, rfl⟩ : ∃ j, i = 2 * j + 1 := ⟨i / 2, by omega⟩
          rw [yvv (k2 j (by omega)).2, yvv (m2 j (by omega)).2, e2 j (by omega)]
/-- two codings differ: so do the texts -/
theorem Cod.dif {cd cd' : Int32} {n k : Nat} {f g : Nat → Int32} {V V' : Cell} (h : Cod cd n f V) (h' : Cod cd' k g V') (hne : ¬ cd = cd') : ¬ SameT n f k g := by
  rintro ⟨rfl, e⟩
  rcases h with ⟨rfl, -, k2⟩ | ⟨rfl, -, -, j, hj, hw⟩
  · rcases h' with ⟨rfl, -⟩ | ⟨-, -, -, j, hj, hw⟩
    · exact hne rfl
    · exact (k2 j hj).2 (by rw [e j hj]; exact hw)
  · rcases h' with ⟨-, -, m2⟩ | ⟨rfl, -⟩
    · exact (m2 j hj).2 (by rw [← e j hj]; exact hw)
    · exact hne rfl
/-- an object of exactly C is an instance of C -/
theorem cinst {p : Program} {l : Launch} {e : Env} {R : Room} {s : State} {m : MethodId} {args : Array Value} {below : List Frame} {meth : Method} {c : Code} {T : State} {locs : List Loc} {cells slots : Nat} (X : Stand p l e R s m args below meth c T locs cells slots) (hexec : p.tables.exec = Jvm.exec) {own C : String} {index : Nat} (hown : s.vm.findClass own = some m.cls) (hlink : (Cond.classLink own index C).before args s = true) {a : Addr} (hE : Exact C a T)
    {g : JFrame} (hg : g.method = m) {rest : List Value} (hstack : g.stack = .ref a :: rest) (hdg : decode c.code g.pc = .ok (.instanceof index, 3)) :
    ∃ T', Stand p l e R s m args below meth c T' locs cells slots ∧ T'.heap = T.heap ∧ ∀ target, Steps p.tables e below (T'.setTop { g with pc := g.pc + 3, stack := .int 1 :: rest }) target → Steps p.tables e below (T.setTop g) target := by
  obtain ⟨cB, h1, D, h2, h3, h4⟩ := hE
  have h1' : s.vm.findClass C = some cB := by rw [← X.warmed.alike.findClass]; exact h1
  obtain ⟨vm', X', st⟩ := X.instanceofYes hexec hown hlink h2 h4 h1' (by rw [h3]; exact Jvm.Free.SB.assignable_self _ _) hg hstack hdg
  exact ⟨_, X', rfl, st⟩
theorem cself {p : Program} {l : Launch} {e : Env} {R : Room} {s : State} {m : MethodId} {args : Array Value} {below : List Frame} {meth : Method} {c : Code} {T : State} {locs : List Loc} {cells slots : Nat} (X : Stand p l e R s m args below meth c T locs cells slots) (hexec : p.tables.exec = Jvm.exec) {own C : String} {index : Nat} (hown : s.vm.findClass own = some m.cls) (hlink : (Cond.classLink own index C).before args s = true) {a : Addr} (hE : Exact C a T)
    {g : JFrame} (hg : g.method = m) {rest : List Value} (hstack : g.stack = .ref a :: rest) (hdg : decode c.code g.pc = .ok (.checkcast index, 3)) :
    ∃ T', Stand p l e R s m args below meth c T' locs cells slots ∧ T'.heap = T.heap ∧ ∀ target, Steps p.tables e below (T'.setTop { g with pc := g.pc + 3, stack := .ref a :: rest }) target → Steps p.tables e below (T.setTop g) target := by
  obtain ⟨cB, h1, D, h2, h3, h4⟩ := hE
  have h1' : s.vm.findClass C = some cB := by rw [← X.warmed.alike.findClass]; exact h1
  obtain ⟨vm', X', st⟩ := X.checkcastYes hexec hown hlink h2 h4 h1' (by rw [h3]; exact Jvm.Free.SB.assignable_self _ _) hg hstack hdg
  exact ⟨_, X', rfl, fun t h => st t (by rw [← hstack] at h; exact h)⟩
namespace SEq
def yN : MethodName := ⟨"java/lang/String", "equals", "(Ljava/lang/Object;)Z"⟩
abbrev yB : ByteArray := jdk_42_method_66_code
theorem d0 : decode yB 0 = .ok (.aload_n 0, 1) := by decide +kernel
theorem d1 : decode yB 1 = .ok (.aload_n 1, 1) := by decide +kernel
theorem d2 : decode yB 2 = .ok (.if_acmp (.ne) 5, 3) := by decide +kernel
theorem d5 : decode yB 5 = .ok (.iconst 1, 1) := by decide +kernel
theorem d6 : decode yB 6 = .ok (.ireturn, 1) := by decide +kernel
theorem d7 : decode yB 7 = .ok (.aload_n 1, 1) := by decide +kernel
theorem d8 : decode yB 8 = .ok (.instanceof 10, 3) := by decide +kernel
theorem d11 : decode yB 11 = .ok (.ifCond (.eq) 43, 3) := by decide +kernel
theorem d14 : decode yB 14 = .ok (.aload_n 1, 1) := by decide +kernel
theorem d15 : decode yB 15 = .ok (.checkcast 10, 3) := by decide +kernel
theorem d18 : decode yB 18 = .ok (.astore_n 2, 1) := by decide +kernel
theorem d19 : decode yB 19 = .ok (.getstatic 38, 3) := by decide +kernel
theorem d22 : decode yB 22 = .ok (.ifCond (.eq) 14, 3) := by decide +kernel
theorem d25 : decode yB 25 = .ok (.aload_n 0, 1) := by decide +kernel
theorem d26 : decode yB 26 = .ok (.getfield 15, 3) := by decide +kernel
theorem d29 : decode yB 29 = .ok (.aload_n 2, 1) := by decide +kernel
theorem d30 : decode yB 30 = .ok (.getfield 15, 3) := by decide +kernel
theorem d33 : decode yB 33 = .ok (.if_icmp (.ne) 21, 3) := by decide +kernel
theorem d36 : decode yB 36 = .ok (.aload_n 0, 1) := by decide +kernel
theorem d37 : decode yB 37 = .ok (.getfield 9, 3) := by decide +kernel
theorem d40 : decode yB 40 = .ok (.aload_n 2, 1) := by decide +kernel
theorem d41 : decode yB 41 = .ok (.getfield 9, 3) := by decide +kernel
theorem d44 : decode yB 44 = .ok (.invokestatic 541, 3) := by decide +kernel
theorem d47 : decode yB 47 = .ok (.ifCond (.eq) 7, 3) := by decide +kernel
theorem d50 : decode yB 50 = .ok (.iconst 1, 1) := by decide +kernel
theorem d51 : decode yB 51 = .ok (.goto 4, 3) := by decide +kernel
theorem d54 : decode yB 54 = .ok (.iconst 0, 1) := by decide +kernel
theorem d55 : decode yB 55 = .ok (.ireturn, 1) := by decide +kernel
def site : List Cond := [.classLink "java/lang/String" 10 "java/lang/String", .fieldLink "java/lang/String" 38 "java/lang/String" "COMPACT_STRINGS" "Z", .fieldLink "java/lang/String" 15 "java/lang/String" "coder" "B", .fieldLink "java/lang/String" 9 "java/lang/String" "value" "[B", LEq.tab] ++ staticW "java/lang/String" 541 LEq.yN
def tab : Cond := tabOf yN yB 3 (some .boolean) site
def P (x t : Addr) (V : Cell) (cd : Int32) (n : Nat) (f : Nat → Int32) (y t' : Addr) (V' : Cell) (cd' : Int32) (k : Nat) (g : Nat → Int32) (z : Int32) (args : Array Value) (s : State) : Prop := args = #[.ref x, .ref y] ∧ Txt x t V cd n f s ∧ Txt y t' V' cd' k g s ∧ StaticIs s "java/lang/String" "COMPACT_STRINGS" "Z" (.int z) ∧ ¬ z = 0
/-- equals(Object) of two Strings: whether the texts are the same -/
theorem law (l : Launch) (x t : Addr) (V : Cell) (cd : Int32) (n : Nat) (f : Nat → Int32) (y t' : Addr) (V' : Cell) (cd' : Int32) (k : Nat) (g : Nat → Int32) (z : Int32) : Law l yN 2 1 1 14 yB 3 (some .boolean) site (P x t V cd n f y t' V' cd' k g z) (Says01 (SameT n f k g)) [] 0 0 := by
  refine Law.of_walk (plainFor_of_name (by decide +kernel)) (by decide +kernel) (by decide +kernel) (by decide) (fun _ _ h => by rw [h.1]; rfl) (fun _ U U' hal hh h => ⟨h.1, h.2.1.mv hal hh, h.2.2.1.mv hal hh, h.2.2.2.1.there hal hh, h.2.2.2.2⟩) (fun r U U' V V' h1 hal h2 h => Says01.mv r U U' V V' h1 hal h2 h) ?_
  intro p e s m args below meth c s₁ X0 hexec hbytes hml hret hlk hnm hown hh0 W hP
  obtain ⟨rfl, hx, hy, s1, hz⟩ := hP
  have c1 : Steps p.tables e below (s₁.setTop (entryFrame m #[.ref x, .ref y] 3)) (s₁.setTop (mkF m 2 #[.val (.ref x), .val (.ref y), .unset] [.ref y, .ref x])) := Steps.trans (entry rfl) (by
    show Steps p.tables e below (s₁.setTop (mkF m 0 #[.val (.ref x), .val (.ref y), .unset] [])) _
    refine XS.aloadN X0.here hexec rfl (hb hbytes d0) rfl rfl ?_
    refine XS.aloadN X0.here hexec rfl (hb hbytes d1) rfl rfl ?_
    exact Steps.refl _)
  by_cases hxy : x = y
  · have c2 : Steps p.tables e below (s₁.setTop (entryFrame m #[.ref x, .ref y] 3)) (s₁.setTop (mkF m 6 #[.val (.ref x), .val (.ref y), .unset] [.int 1])) := c1.trans (by
      refine acmpNo X0.here hexec rfl (hb hbytes d2) rfl rfl rfl (by simp [acmp, hxy]) ?_
      refine iconstV X0.here hexec rfl 1 (hb hbytes d5) (by decide) ?_
      exact Steps.refl _)
    subst hxy
    have ec : cd = cd' := by
      obtain ⟨D, fd, a1, a2, a3⟩ := hx.2.2.1
      obtain ⟨D', fd', b1, b2, b3⟩ := hy.2.2.1
      cases a1.symm.trans b1
      obtain ⟨q1, q2, q3, q4⟩ := a2.1
      obtain ⟨r1, r2, r3, r4⟩ := b2.1
      cases q4.symm.trans r4
      cases a3.symm.trans b3; rfl
    have et : t = t' := by
      obtain ⟨D, fd, a1, a2, a3⟩ := hx.2.1
      obtain ⟨D', fd', b1, b2, b3⟩ := hy.2.1
      cases a1.symm.trans b1
      obtain ⟨q1, q2, q3, q4⟩ := a2.1
      obtain ⟨r1, r2, r3, r4⟩ := b2.1
      cases q4.symm.trans r4
      cases a3.symm.trans b3; rfl
    subst ec et
    have ev : V = V' := by cases hx.2.2.2.1.1.symm.trans hy.2.2.2.1.1; rfl
    subst ev
    have hs : SameT n f k g := (Cod.eqv hx.2.2.2.2.1 hy.2.2.2.2.1 hx.2.2.2.2.2 hy.2.2.2.2.2).mp ⟨rfl, fun _ _ => rfl⟩
    exact ⟨s₁, some (.int 1), _, _, _, X0, rfl, rfl, rfl, (fun h => by cases h), ⟨1, rfl, hh0, Or.inl ⟨rfl, hs⟩⟩, fun fs hl => c2.trans (X0.ireturnOut hexec hret rfl (Or.inr (Or.inl rfl)) (hb hbytes d6) hl)⟩
  · have c2 : Steps p.tables e below (s₁.setTop (entryFrame m #[.ref x, .ref y] 3)) (s₁.setTop (mkF m 8 #[.val (.ref x), .val (.ref y), .unset] [.ref y])) := c1.trans (by
      refine acmpYes X0.here hexec rfl (pc0 := 2) rfl (hb hbytes d2) rfl rfl rfl (by simp [acmp, hxy]) (by decide) rfl ?_
      refine XS.aloadN X0.here hexec rfl (hb hbytes d7) rfl rfl ?_
      exact Steps.refl _)
    obtain ⟨T3, X3, q3, st3⟩ := cinst X0 hexec hown (wk W (.classLink "java/lang/String" 10 "java/lang/String")) (hy.mv X0.warmed.alike hh0).1 (g := (mkF m 8 #[.val (.ref x), .val (.ref y), .unset] [.ref y])) rfl (rest := []) rfl (hb hbytes d8)
    have hh3 := q3.trans hh0
    have c4 : Steps p.tables e below (s₁.setTop (entryFrame m #[.ref x, .ref y] 3)) (T3.setTop (mkF m 15 #[.val (.ref x), .val (.ref y), .unset] [.ref y])) := (c2.trans (st3 _ (Steps.refl _))).trans (by
      refine XS.ifNo X3.here hexec rfl (hb hbytes d11) rfl (i0_eq_f (by decide)) ?_
      refine XS.aloadN X3.here hexec rfl (hb hbytes d14) rfl rfl ?_
      exact Steps.refl _)
    obtain ⟨T5, X5, q5, st5⟩ := cself X3 hexec hown (wk W (.classLink "java/lang/String" 10 "java/lang/String")) (hy.mv X3.warmed.alike hh3).1 (g := (mkF m 15 #[.val (.ref x), .val (.ref y), .unset] [.ref y])) rfl (rest := []) rfl (hb hbytes d15)
    have hh5 := q5.trans hh3
    have c6 : Steps p.tables e below (s₁.setTop (entryFrame m #[.ref x, .ref y] 3)) (T5.setTop (mkF m 19 #[.val (.ref x), .val (.ref y), .val (.ref y)] [])) := (c4.trans (st5 _ (Steps.refl _))).trans (by
      refine XS.astoreN X5.here hexec rfl (hb hbytes d18) rfl rfl rfl ?_
      exact Steps.refl _)
    obtain ⟨T7, X7, q7, st7⟩ := X5.sget hexec hown (wk W (.fieldLink "java/lang/String" 38 "java/lang/String" "COMPACT_STRINGS" "Z")) s1 (fun _ _ h => by rw [hh5]; exact h) (g := (mkF m 19 #[.val (.ref x), .val (.ref y), .val (.ref y)] [])) rfl (hb hbytes d19)
    have hh7 := q7.trans hh5
    have c8 : Steps p.tables e below (s₁.setTop (entryFrame m #[.ref x, .ref y] 3)) (T7.setTop (mkF m 26 #[.val (.ref x), .val (.ref y), .val (.ref y)] [.ref x])) := (c6.trans (st7 _ (Steps.refl _))).trans (by
      refine XS.ifNo X7.here hexec rfl (hb hbytes d22) rfl (i0_eq_f hz) ?_
      refine XS.aloadN X7.here hexec rfl (hb hbytes d25) rfl rfl ?_
      exact Steps.refl _)
    obtain ⟨T9, X9, q9, st9⟩ := X7.hget hexec hown (wk W (.fieldLink "java/lang/String" 15 "java/lang/String" "coder" "B")) (hx.mv X7.warmed.alike hh7).2.2.1 (g := (mkF m 26 #[.val (.ref x), .val (.ref y), .val (.ref y)] [.ref x])) rfl (rest := []) rfl (hb hbytes d26)
    have hh9 := q9.trans hh7
    have c10 : Steps p.tables e below (s₁.setTop (entryFrame m #[.ref x, .ref y] 3)) (T9.setTop (mkF m 30 #[.val (.ref x), .val (.ref y), .val (.ref y)] [.ref y, .int cd])) := (c8.trans (st9 _ (Steps.refl _))).trans (by
      refine XS.aloadN X9.here hexec rfl (hb hbytes d29) rfl rfl ?_
      exact Steps.refl _)
    obtain ⟨T11, X11, q11, st11⟩ := X9.hget hexec hown (wk W (.fieldLink "java/lang/String" 15 "java/lang/String" "coder" "B")) (hy.mv X9.warmed.alike hh9).2.2.1 (g := (mkF m 30 #[.val (.ref x), .val (.ref y), .val (.ref y)] [.ref y, .int cd])) rfl (rest := [.int cd]) rfl (hb hbytes d30)
    have hh11 := q11.trans hh9
    have c12 : Steps p.tables e below (s₁.setTop (entryFrame m #[.ref x, .ref y] 3)) (T11.setTop (mkF m 33 #[.val (.ref x), .val (.ref y), .val (.ref y)] [.int cd', .int cd])) := c10.trans (st11 _ (Steps.refl _))
    by_cases hcd : cd = cd'
    · subst hcd
      have c13 : Steps p.tables e below (s₁.setTop (entryFrame m #[.ref x, .ref y] 3)) (T11.setTop (mkF m 37 #[.val (.ref x), .val (.ref y), .val (.ref y)] [.ref x])) := c12.trans (by
        refine XS.icmpNo X11.here hexec rfl (hb hbytes d33) rfl (ii_ne_f rfl) ?_
        refine XS.aloadN X11.here hexec rfl (hb hbytes d36) rfl rfl ?_
        exact Steps.refl _)
      obtain ⟨T14, X14, q14, st14⟩ := X11.hget hexec hown (wk W (.fieldLink "java/lang/String" 9 "java/lang/String" "value" "[B")) (hx.mv X11.warmed.alike hh11).2.1 (g := (mkF m 37 #[.val (.ref x), .val (.ref y), .val (.ref y)] [.ref x])) rfl (rest := []) rfl (hb hbytes d37)
      have hh14 := q14.trans hh11
      have c15 : Steps p.tables e below (s₁.setTop (entryFrame m #[.ref x, .ref y] 3)) (T14.setTop (mkF m 41 #[.val (.ref x), .val (.ref y), .val (.ref y)] [.ref y, .ref t])) := (c13.trans (st14 _ (Steps.refl _))).trans (by
        refine XS.aloadN X14.here hexec rfl (hb hbytes d40) rfl rfl ?_
        exact Steps.refl _)
      obtain ⟨T16, X16, q16, st16⟩ := X14.hget hexec hown (wk W (.fieldLink "java/lang/String" 9 "java/lang/String" "value" "[B")) (hy.mv X14.warmed.alike hh14).2.1 (g := (mkF m 41 #[.val (.ref x), .val (.ref y), .val (.ref y)] [.ref y, .ref t])) rfl (rest := [.ref t]) rfl (hb hbytes d41)
      have hh16 := q16.trans hh14
      have c17 : Steps p.tables e below (s₁.setTop (entryFrame m #[.ref x, .ref y] 3)) (T16.setTop (mkF m 44 #[.val (.ref x), .val (.ref y), .val (.ref y)] [.ref t', .ref t])) := c15.trans (st16 _ (Steps.refl _))
      obtain ⟨v18, T18, X18, E18, g18⟩ := X16.callS hexec (LEq.law l t V t' V') hown (wks W (staticW "java/lang/String" 541 LEq.yN)) (wk W LEq.tab) (W := 0) (Nat.le_of_ble_eq_true rfl) (Nat.le_of_ble_eq_true rfl) (Nat.le_refl _) (Nat.le_refl _) (g := (mkF m 44 #[.val (.ref x), .val (.ref y), .val (.ref y)] [.ref t', .ref t])) rfl (by rw [hml]; rfl) c17 (argsL := [.ref t, .ref t']) (rest := []) rfl rfl (by show 2 * 0 + 0 ≤ _; decide) (hb hbytes d44) (⟨rfl, hx.2.2.2.1.mv X16.warmed.alike hh16, hx.2.2.2.2.1.ty, hy.2.2.2.1.mv X16.warmed.alike hh16, hy.2.2.2.2.1.ty⟩)
      obtain ⟨v, rfl, q18, hv⟩ := E18
      have iff := Cod.eqv hx.2.2.2.2.1 hy.2.2.2.2.1 hx.2.2.2.2.2 hy.2.2.2.2.2
      rcases hv with ⟨rfl, he⟩ | ⟨rfl, he⟩
      · have c19 : Steps p.tables e below (s₁.setTop (entryFrame m #[.ref x, .ref y] 3)) (T18.setTop (mkF m 55 #[.val (.ref x), .val (.ref y), .val (.ref y)] [.int 1])) := Steps.trans g18 (by
          refine XS.ifNo X18.here hexec rfl (hb hbytes d47) rfl (i0_eq_f (by decide)) ?_
          refine iconstV X18.here hexec rfl 1 (hb hbytes d50) (by decide) ?_
          refine XS.goto X18.here hexec rfl (pc0 := 51) rfl (hb hbytes d51) (by decide) rfl ?_
          exact Steps.refl _)
        exact ⟨T18, some (.int 1), _, _, _, X18, rfl, rfl, rfl, (fun h => by cases h), ⟨1, rfl, q18.trans hh16, Or.inl ⟨rfl, iff.mp he⟩⟩, fun fs hl => c19.trans (X18.ireturnOut hexec hret rfl (Or.inr (Or.inl rfl)) (hb hbytes d55) hl)⟩
      · have c19 : Steps p.tables e below (s₁.setTop (entryFrame m #[.ref x, .ref y] 3)) (T18.setTop (mkF m 55 #[.val (.ref x), .val (.ref y), .val (.ref y)] [.int 0])) := Steps.trans g18 (by
          refine XS.ifYes X18.here hexec rfl (pc0 := 47) rfl (hb hbytes d47) rfl (i0_eq_t rfl) (by decide) rfl ?_
          refine iconstV X18.here hexec rfl 0 (hb hbytes d54) (by decide) ?_
          exact Steps.refl _)
        exact ⟨T18, some (.int 0), _, _, _, X18, rfl, rfl, rfl, (fun h => by cases h), ⟨0, rfl, q18.trans hh16, Or.inr ⟨rfl, fun q => he (iff.mpr q)⟩⟩, fun fs hl => c19.trans (X18.ireturnOut hexec hret rfl (Or.inr (Or.inl rfl)) (hb hbytes d55) hl)⟩
    · have c13 : Steps p.tables e below (s₁.setTop (entryFrame m #[.ref x, .ref y] 3)) (T11.setTop (mkF m 55 #[.val (.ref x), .val (.ref y), .val (.ref y)] [.int 0])) := c12.trans (by
        refine XS.icmpYes X11.here hexec rfl (pc0 := 33) rfl (hb hbytes d33) rfl (ii_ne_t hcd) (by decide) rfl ?_
        refine iconstV X11.here hexec rfl 0 (hb hbytes d54) (by decide) ?_
        exact Steps.refl _)
      exact ⟨T11, some (.int 0), _, _, _, X11, rfl, rfl, rfl, (fun h => by cases h), ⟨0, rfl, hh11, Or.inr ⟨rfl, Cod.dif hx.2.2.2.2.1 hy.2.2.2.2.1 hcd⟩⟩, fun fs hl => c13.trans (X11.ireturnOut hexec hret rfl (Or.inr (Or.inl rfl)) (hb hbytes d55) hl)⟩
theorem pays {l : Launch} {R : Room} {p : Program} {e : Env} {below : List Frame} {s : State} {sargs : Array Value} {len W : Nat} (x t : Addr) (V : Cell) (cd : Int32) (n : Nat) (f : Nat → Int32) (y t' : Addr) (V' : Cell) (cd' : Int32) (k : Nat) (g : Nat → Int32) (z : Int32) (htab : tab.before sargs s = true) (hfr : 2 ≤ R.frames) (hlo : W + 28 ≤ R.locals) :
    Back l R p e below s sargs yN len W (fun A₁ a₁ => A₁.cells + 0 ≤ R.cells ∧ A₁.slots + 0 ≤ R.slots ∧ P x t V cd n f y t' V' cd' k g z a₁ A₁.U) (fun A₁ _ v₁ B₁ => Says01 (SameT n f k g) v₁ A₁.U B₁.U ∧ B₁.locs = A₁.locs ++ [] ∧ B₁.cells = A₁.cells + 0 ∧ B₁.slots = A₁.slots + 0) :=
  (law l x t V cd n f y t' V' cd' k g z).pays htab hfr (by omega)
end SEq
end StrChars
namespace StrChars.Road
open Jvm Sem ClassFile Op Lib Jvm.Stand Jvm.Free Jvm.Free.XT
open Jvm.Lib.Cold (StaticIs)
/-- the words of String.equals(Object) -/
abbrev wordsEq : List Jvm.Cond := [.code SEq.yN SEq.yB 3 (some .boolean), .initialized ST, .classLink ST 10 ST, .fieldLink ST 38 ST "COMPACT_STRINGS" "Z", .fieldLink ST 15 ST "coder" "B", .fieldLink ST 9 ST "value" "[B", .methodLink ST 541 LEq.yN, .static LEq.yN, .code LEq.yN LEq.yB 3 (some .boolean), .initialized "java/lang/StringLatin1"]
theorem tabEq_of {a : Array Value} {s : State} (h : ∀ w ∈ wordsEq, w.before a s = true) : SEq.tab.before a s = true := by
  have hl : LEq.tab.before a s = true := unparts (wk h (.code LEq.yN LEq.yB 3 (some .boolean))) (wks h (.initialized LEq.yN.cls :: LEq.site))
  have q := consq hl h
  exact unparts (wk q (.code SEq.yN SEq.yB 3 (some .boolean))) (wks q (.initialized SEq.yN.cls :: SEq.site))
theorem movedEq {Z s : State} {a0 args : Array Value} (hZ : Z.Warmed39 s.vm) (hw : ∀ d ∈ wordsEq, d.before a0 Z = true) : ∀ d ∈ wordsEq, d.before args s = true := fun d hd => by
  have t : ∀ d ∈ wordsEq, (d.onTables && d.keepsFace) = true := by decide +kernel
  exact RoadKit.mv hZ (hw d hd) (t d hd)
/-- the road's facts of a String, as the laws ask it -/
theorem txt_of {Z U : State} {a0 : Array Value} {kI : Nat} (wi : (Jvm.Cond.instantiable ST kI).before a0 Z = true) (al : Z.vm.Alike U.vm) {x t : Addr} {kb : ClassId} {cs : List Int32} {cd N2 : Int32} {vs : List Value} (E : RoadKit.Exa Z U.heap x ST) (V : RoadKit.Fld Z U.heap x ST "value" "[B" (.ref t)) (C : RoadKit.Fld Z U.heap x ST "coder" "B" (.int cd)) (K : RoadKit.Arv Z U.heap t kb .byte N2 vs (.int 0)) (hc : CodA cs cd N2 vs) (hb : ∀ c ∈ cs, ¬ c < 0 ∧ ¬ (65535 : Int32) < c) (l2 : cs.length ≤ 4000) :
    ∃ A, Txt x t A cd cs.length (fun j => cs.getD j 0) U := by
  obtain ⟨A, K1, K2, K3, K4, K5, K6⟩ := K
  have hcod := hc.cod (by omega) K3 K5
  obtain ⟨D, fV, fC, hB, F1, F2, g1, g2, -, -⟩ := strObj wi al E V C
  exact ⟨A, ⟨_, hB.2.2.1, D, hB.1, rfl, by cases q : D.vm <;> first | rfl | exact absurd q (hB.2.1.2 _)⟩, Has.of hB F1 g1, Has.of hB F2 g2, ⟨K1.1, State.isArrayOf_alike al K1.2.1, K1.2.2, by rcases hcod with ⟨-, q, -⟩ | ⟨-, q, -⟩ <;> omega⟩, hcod, fun j hj => by
    have e : cs.getD j 0 = cs[j] := by simp [List.getD_eq_getElem?_getD, hj]
    show ¬ cs.getD j 0 < 0 ∧ ¬ 65535 < cs.getD j 0
    rw [e]; exact hb _ (List.getElem_mem _)⟩
theorem same_list (cs ds : List Int32) : SameT cs.length (fun j => cs.getD j 0) ds.length (fun j => ds.getD j 0) ↔ cs = ds := by
  constructor
  · rintro ⟨e, q⟩
    refine List.ext_getElem e fun j h1 h2 => ?_
    have := q j h1
    simpa [List.getD_eq_getElem?_getD, h1, h2] using this
  · rintro rfl
    exact ⟨rfl, fun _ _ => rfl⟩
/-- **equals(Object) OF TWO SUCH STRINGS**: 1 just where the chars are the same -/
theorem eqW {p : Program} {l : Launch} {e : Env} {R : Room} {s : State} {args : Array Value} {below : List Frame} {len W : Nat} {Z : State} {a0 : Array Value} {h : Heap} (hZ : Z.Warmed39 s.vm) (hw : ∀ d ∈ wordsEq, d.before a0 Z = true) {kI : Nat} (wi : (Jvm.Cond.instantiable ST kI).before a0 Z = true)
    {x t : Addr} {kb : ClassId} {cs : List Int32} {cd N2 : Int32} {vs : List Value} (E : RoadKit.Exa Z h x ST) (V : RoadKit.Fld Z h x ST "value" "[B" (.ref t)) (C : RoadKit.Fld Z h x ST "coder" "B" (.int cd)) (K : RoadKit.Arv Z h t kb .byte N2 vs (.int 0)) (hc : CodA cs cd N2 vs) (hb : ∀ c ∈ cs, ¬ c < 0 ∧ ¬ (65535 : Int32) < c) (l2 : cs.length ≤ 4000)
    {y t' : Addr} {kb' : ClassId} {ds : List Int32} {cd' N2' : Int32} {vs' : List Value} (E' : RoadKit.Exa Z h y ST) (V' : RoadKit.Fld Z h y ST "value" "[B" (.ref t')) (C' : RoadKit.Fld Z h y ST "coder" "B" (.int cd')) (K' : RoadKit.Arv Z h t' kb' .byte N2' vs' (.int 0)) (hc' : CodA ds cd' N2' vs') (hb' : ∀ c ∈ ds, ¬ c < 0 ∧ ¬ (65535 : Int32) < c) (l2' : ds.length ≤ 4000)
    {z : Int32} (S : RoadKit.Sta Z h ST "COMPACT_STRINGS" "Z" (.int z)) (hz : ¬ z = 0) (hfr : 2 ≤ R.frames) (hlo : W + 28 ≤ R.locals) :
    Back l R p e below s args (⟨"java/lang/String", "equals", "(Ljava/lang/Object;)Z"⟩ : MethodName) len W (fun P a => a = #[.ref x, .ref y] ∧ P.U.heap = h ∧ P.cells + 0 ≤ R.cells ∧ P.slots + 0 ≤ R.slots)
      (fun P _ v B => ∃ L, (((v = some (.int 1) ∧ cs = ds) ∨ (v = some (.int 0) ∧ ¬ cs = ds)) ∧ L = [] ∧ B.U.heap = h) ∧ B.locs = P.locs ++ L ∧ B.cells = P.cells + 0 ∧ B.slots = P.slots + 0) := by
  intro m meth c P g ig mk a X hg hsize hdg hW hn hp'
  obtain ⟨rfl, rfl, r1, r2⟩ := hp'
  have al : Z.vm.Alike P.U.vm := hZ.alike.trans X.warmed.alike
  obtain ⟨A, hx⟩ := txt_of wi al E V C K hc hb l2
  obtain ⟨A', hy⟩ := txt_of wi al E' V' C' K' hc' hb' l2'
  obtain ⟨v, B, X', ⟨⟨w, hv, hh, hq⟩, hl, hk, hs⟩, st⟩ := SEq.pays x t A cd cs.length (fun j => cs.getD j 0) y t' A' cd' ds.length (fun j => ds.getD j 0) z (tabEq_of (movedEq hZ hw)) hfr hlo m meth c P g ig mk _ X hg hsize hdg hW hn ⟨r1, r2, rfl, hx, hy, sta_is al S, hz⟩
  refine ⟨v, B, X', ⟨[], ⟨?_, rfl, hh⟩, hl, hk, hs⟩, st⟩
  rcases hq with ⟨rfl, q⟩ | ⟨rfl, q⟩
  · exact Or.inl ⟨hv, (same_list cs ds).mp q⟩
  · exact Or.inr ⟨hv, fun e => q ((same_list cs ds).mpr e)⟩
end StrChars.Road
namespace StrChars.Road
open Jvm Sem ClassFile Op Lib Jvm.Stand Jvm.Free Jvm.Free.XT
open Jvm.Lib.Cold (StaticIs)
/-- what backV says of its String, as the contracts of this text ask it: cs's low bytes, coder 0 -/
theorem codOf {cs : List Int32} {n : Nat} (hn : cs.length = n) (hb : ∀ c ∈ cs, ¬ 255 < c) : CodA cs 0 (Int32.ofNat n) ((cs.map lo8).map Value.int) := Or.inl ⟨rfl, by rw [hn], by simp [List.map_map, Function.comp_def], hb⟩
end StrChars.Road
end Jvm.Pilot.@@N@@
namespace Jvm.Pilot.@@N@@
open Jvm Jvm.ClassFile Sem Op Lib Jvm.Free Jvm.Stand Jvm.LawKit Jvm.RoadKit Bundle Jvm.Pilot.@@N@@.Jvm.D
/-- a body that leaves the heap as it is and returns w -/
def QV (w : Value) (h0 : Heap) (n0 : Nat) (v : Option Value) (h : Heap) (L : List Loc) : Prop := v = some w ∧ Fr n0 L ∧ h = h0
def QL (n0 : Nat) (v : Option Value) (h : Heap) (L : List Loc) : Prop := v = some (.int 1) ∧ Fr n0 L
theorem own_wS {a0 : Array Value} {Z : State} (hw : ∀ d ∈ tables_1, d.before a0 Z = true) : ∀ d ∈ Bundle.stringAtoms, d.before a0 Z = true := fun d hd => hw d ((by decide +kernel : ∀ d ∈ Bundle.stringAtoms, d ∈ tables_1) d hd)
theorem own_hk {T : State} {h : Heap} {k : Nat} (e : T.heap = h) (q : k ≤ h.size) : k ≤ T.heap.size := by rw [e]; exact q
theorem own_extK {h h' : Heap} (K : Keep h h' []) : Ext h h' := ⟨K.1, fun a c q => K.2.1 a c q (by simp)⟩
theorem own_nar (x : Int32) : nar .char (x.toUInt32.toUInt16.toUInt32.toInt32) = x.toUInt32.toUInt16.toUInt32.toInt32 := by simp only [nar, UInt32.toUInt32_toInt32, UInt16.toUInt16_toUInt32]
/-- a String whose bytes aren't laid yet is nobody's literal -/
theorem own_safe {Z : State} {EL : List (String × Nat)} {vm : Vm} {h : Heap} {y : Addr} (hal : Z.vm.Alike vm) (E : Exa Z h y "java/lang/String") (F : Fld Z h y "java/lang/String" "value" "[B" .null) : Safe Z EL vm h y := fun B => by
  obtain ⟨cell, cf, k, i, f, f1, f2, -, -, -, -, f7⟩ := F
  obtain ⟨c1, k1, e1, e2, e3, -, -⟩ := E
  cases e1.symm.trans f1
  obtain ⟨p, -, u, a, -, q, -, G, rfl | rfl⟩ := B
  · cases (show h[q.sa]? = some q.sC from G.ha).symm.trans f1
    obtain ⟨cS, ⟨⟨s1, s2, s3, ⟨cv, kv, iv, s4, -⟩, s5, s6, s7, s8, -⟩, -⟩, -⟩ := G
    obtain ⟨kv', z4⟩ := ff_back hal s4
    cases z4.symm.trans f2
    cases s8.symm.trans f7
  · cases (show h[q.sd]? = some q.SA from G.hd).symm.trans f1
    obtain ⟨cS, -, -, g, -⟩ := G
    have g' : vm.findClass "[B" = some q.SA.cls := g
    rw [hal.findClass] at g'
    obtain ⟨k2, q1, q2⟩ := Vm.findClass_spec g'
    obtain ⟨k3, q3, q4⟩ := Vm.findClass_spec e2
    cases q1.symm.trans q3
    exact absurd (q2.symm.trans q4) (by decide)
theorem own_safeA {Z : State} {EL : List (String × Nat)} {vm : Vm} {h : Heap} {y : Addr} {k : ClassId} {ty : FieldType} {n : Int32} {vs : List Value} {d : Value} (hal : Z.vm.Alike vm) (A : Arv Z h y k ty n vs d) (ht : ty ≠ .byte) : Safe Z EL vm h y := by
  obtain ⟨c, Ar, -⟩ := A
  exact Safe.arr hal Ar ht
theorem own_255 (x : Int32) : ¬ ((x &&& (255 : Int32)).toUInt32.toUInt16.toUInt32.toInt32) < 0 ∧ ¬ (255 : Int32) < ((x &&& (255 : Int32)).toUInt32.toUInt16.toUInt32.toInt32) := by
  have e : ((x &&& (255 : Int32)).toUInt32.toUInt16.toUInt32.toInt32).toBitVec = ((x.toBitVec &&& 255#32).setWidth 16).setWidth 32 := rfl
  have l : (((x.toBitVec &&& 255#32).setWidth 16).setWidth 32).toNat ≤ 255 := by
    rw [BitVec.toNat_setWidth, BitVec.toNat_setWidth, BitVec.toNat_and]
    exact Nat.le_trans (Nat.mod_le _ _) (Nat.le_trans (Nat.mod_le _ _) Nat.and_le_right)
  have q : ((x &&& (255 : Int32)).toUInt32.toUInt16.toUInt32.toInt32).toInt = ((((x.toBitVec &&& 255#32).setWidth 16).setWidth 32).toNat : Int) := by
    show ((x &&& (255 : Int32)).toUInt32.toUInt16.toUInt32.toInt32).toBitVec.toInt = _
    rw [e, BitVec.toInt_eq_toNat_of_lt (by omega)]
  have e0 : (0 : Int32).toInt = 0 := by decide
  have e1 : (255 : Int32).toInt = 255 := by decide
  constructor
  · rw [Int32.lt_iff_toInt_lt, q, e0]; omega
  · rw [Int32.lt_iff_toInt_lt, q, e1]; omega
theorem own_up (cs : List Int32) (h : ∀ c ∈ cs, ¬ c < 0 ∧ ¬ (255 : Int32) < c) : ∀ c ∈ cs, ¬ c < 0 ∧ ¬ (65535 : Int32) < c := fun c hc => ⟨(h c hc).1, fun q => (h c hc).2 (by
  rw [Int32.lt_iff_toInt_lt] at q ⊢
  have e1 : (65535 : Int32).toInt = 65535 := by decide
  have e2 : (255 : Int32).toInt = 255 := by decide
  omega)⟩
theorem own_and3 (x : Int32) : x &&& 3 = 0 ∨ x &&& 3 = 1 ∨ x &&& 3 = 2 ∨ x &&& 3 = 3 := by
  have h : (x &&& 3).toBitVec = 0#32 ∨ (x &&& 3).toBitVec = 1#32 ∨ (x &&& 3).toBitVec = 2#32 ∨ (x &&& 3).toBitVec = 3#32 := by
    have e : (x &&& 3).toBitVec = x.toBitVec &&& 3#32 := rfl
    rw [e]
    have l : (x.toBitVec &&& 3#32).toNat < 4 := by
      rw [BitVec.toNat_and]; exact Nat.lt_of_le_of_lt Nat.and_le_right (by decide)
    rcases (by omega : (x.toBitVec &&& 3#32).toNat = 0 ∨ (x.toBitVec &&& 3#32).toNat = 1 ∨ (x.toBitVec &&& 3#32).toNat = 2 ∨ (x.toBitVec &&& 3#32).toNat = 3) with q | q | q | q
    · exact Or.inl (BitVec.eq_of_toNat_eq q)
    · exact Or.inr (Or.inl (BitVec.eq_of_toNat_eq q))
    · exact Or.inr (Or.inr (Or.inl (BitVec.eq_of_toNat_eq q)))
    · exact Or.inr (Or.inr (Or.inr (BitVec.eq_of_toNat_eq q)))
  rcases h with h | h | h | h
  · exact Or.inl (Int32.toBitVec_inj.mp h)
  · exact Or.inr (Or.inl (Int32.toBitVec_inj.mp h))
  · exact Or.inr (Or.inr (Or.inl (Int32.toBitVec_inj.mp h)))
  · exact Or.inr (Or.inr (Or.inr (Int32.toBitVec_inj.mp h)))
theorem own_rem (y n z : Int32) (N : Nat) (hn : n.toInt = N) (h0 : 0 < N) (hz : z = (y &&& (2147483647 : Int32)) % n) : ∃ A : Nat, z.toInt = A ∧ A < N := by
  have e : (y &&& (2147483647 : Int32)).toBitVec = y.toBitVec &&& 2147483647#32 := rfl
  have l : (y.toBitVec &&& 2147483647#32).toNat ≤ 2147483647 := by rw [BitVec.toNat_and]; exact Nat.and_le_right
  have q : (y &&& (2147483647 : Int32)).toInt = ((y.toBitVec &&& 2147483647#32).toNat : Int) := by
    show (y &&& (2147483647 : Int32)).toBitVec.toInt = _
    rw [e, BitVec.toInt_eq_toNat_of_lt (by omega)]
  refine ⟨(y.toBitVec &&& 2147483647#32).toNat % N, ?_, Nat.mod_lt _ h0⟩
  rw [hz, Int32.toInt_mod, q, hn]
  rfl
theorem own_lit (z : Int32) (k : Nat) (h : z.toInt = k) (hk : k < 2 ^ 31) : z = Int32.ofNat k := by
  apply Int32.toInt_inj.mp
  rw [h, Int32.toInt_ofNat_of_lt hk]
theorem own_nine (z : Int32) (A : Nat) (h : z.toInt = A) (hA : A < 9) : z = 0 ∨ z = 1 ∨ z = 2 ∨ z = 3 ∨ z = 4 ∨ z = 5 ∨ z = 6 ∨ z = 7 ∨ z = 8 := by
  have e := own_lit z A h (by omega)
  rcases (by omega : A = 0 ∨ A = 1 ∨ A = 2 ∨ A = 3 ∨ A = 4 ∨ A = 5 ∨ A = 6 ∨ A = 7 ∨ A = 8) with rfl | rfl | rfl | rfl | rfl | rfl | rfl | rfl | rfl
  · exact Or.inl e
  · exact Or.inr (Or.inl e)
  · exact Or.inr (Or.inr (Or.inl e))
  · exact Or.inr (Or.inr (Or.inr (Or.inl e)))
  · exact Or.inr (Or.inr (Or.inr (Or.inr (Or.inl e))))
  · exact Or.inr (Or.inr (Or.inr (Or.inr (Or.inr (Or.inl e)))))
  · exact Or.inr (Or.inr (Or.inr (Or.inr (Or.inr (Or.inr (Or.inl e))))))
  · exact Or.inr (Or.inr (Or.inr (Or.inr (Or.inr (Or.inr (Or.inr (Or.inl e)))))))
  · exact Or.inr (Or.inr (Or.inr (Or.inr (Or.inr (Or.inr (Or.inr (Or.inr e)))))))
/-- a sign: 0 to 255 -/
def ok (c : Int32) : Prop := ¬ c < 0 ∧ ¬ (255 : Int32) < c
theorem own_narc (c : Int32) (h : ok c) : nar .char c = c := by
  obtain ⟨h1, h2⟩ := h
  rw [Int32.lt_iff_toInt_lt] at h1 h2
  have e0 : (0 : Int32).toInt = 0 := by decide
  have e1 : (255 : Int32).toInt = 255 := by decide
  rw [e0] at h1; rw [e1] at h2
  have hA : c = Int32.ofNat c.toInt.toNat := own_lit c _ (by omega) (by omega)
  have hb : c.toInt.toNat < 256 := by omega
  generalize c.toInt.toNat = A at hA hb
  subst hA
  have all : ∀ A : Fin 256, nar .char (Int32.ofNat A.1) = Int32.ofNat A.1 := by decide +kernel
  exact all ⟨A, hb⟩
theorem own_ok255 (y : Int32) : ok (nar .char ((y &&& (255 : Int32)).toUInt32.toUInt16.toUInt32.toInt32)) := by rw [own_nar]; exact own_255 y
theorem own_set8 (c0 c1 c2 c3 c4 c5 c6 c7 v : Int32) (k : Nat) (hk : k < 8) (h0 : ok c0) (h1 : ok c1) (h2 : ok c2) (h3 : ok c3) (h4 : ok c4) (h5 : ok c5) (h6 : ok c6) (h7 : ok c7) (hv : ok v) :
    ∃ d0 d1 d2 d3 d4 d5 d6 d7 : Int32, ([.int c0, .int c1, .int c2, .int c3, .int c4, .int c5, .int c6, .int c7] : List Value).set k (.int v) = [.int d0, .int d1, .int d2, .int d3, .int d4, .int d5, .int d6, .int d7] ∧ ok d0 ∧ ok d1 ∧ ok d2 ∧ ok d3 ∧ ok d4 ∧ ok d5 ∧ ok d6 ∧ ok d7 := by
  rcases (by omega : k = 0 ∨ k = 1 ∨ k = 2 ∨ k = 3 ∨ k = 4 ∨ k = 5 ∨ k = 6 ∨ k = 7) with rfl | rfl | rfl | rfl | rfl | rfl | rfl | rfl
  · exact ⟨v, c1, c2, c3, c4, c5, c6, c7, rfl, hv, h1, h2, h3, h4, h5, h6, h7⟩
  · exact ⟨c0, v, c2, c3, c4, c5, c6, c7, rfl, h0, hv, h2, h3, h4, h5, h6, h7⟩
  · exact ⟨c0, c1, v, c3, c4, c5, c6, c7, rfl, h0, h1, hv, h3, h4, h5, h6, h7⟩
  · exact ⟨c0, c1, c2, v, c4, c5, c6, c7, rfl, h0, h1, h2, hv, h4, h5, h6, h7⟩
  · exact ⟨c0, c1, c2, c3, v, c5, c6, c7, rfl, h0, h1, h2, h3, hv, h5, h6, h7⟩
  · exact ⟨c0, c1, c2, c3, c4, v, c6, c7, rfl, h0, h1, h2, h3, h4, hv, h6, h7⟩
  · exact ⟨c0, c1, c2, c3, c4, c5, v, c7, rfl, h0, h1, h2, h3, h4, h5, hv, h7⟩
  · exact ⟨c0, c1, c2, c3, c4, c5, c6, v, rfl, h0, h1, h2, h3, h4, h5, h6, hv⟩
theorem own_eq1 {v : Option Value} {A : Prop} (h : (v = some (.int 1) ∧ A) ∨ (v = some (.int 0) ∧ ¬ A)) (q : A) : v = some (.int 1) := h.elim (·.1) fun r => absurd q r.2
theorem own_eq0 {v : Option Value} {A : Prop} (h : (v = some (.int 1) ∧ A) ∨ (v = some (.int 0) ∧ ¬ A)) (q : ¬ A) : v = some (.int 0) := h.elim (fun r => absurd r.2 q) (·.1)
abbrev tNone : List Int32 := [110, 111, 110, 101]
abbrev tCsv : List Int32 := [99, 115, 118]
abbrev tData : List Int32 := [100, 97, 116, 97, 98, 97, 115, 101]
theorem own_cNone : StrChars.Road.CodA tNone 0 (4 : Int32) [.int (110 : Int32), .int (111 : Int32), .int (110 : Int32), .int (101 : Int32)] := StrChars.Road.codOf (cs := tNone) (n := 4) rfl (by decide)
theorem own_cCsv : StrChars.Road.CodA tCsv 0 (3 : Int32) [.int (99 : Int32), .int (115 : Int32), .int (118 : Int32)] := StrChars.Road.codOf (cs := tCsv) (n := 3) rfl (by decide)
theorem own_cData : StrChars.Road.CodA tData 0 (8 : Int32) [.int (100 : Int32), .int (97 : Int32), .int (116 : Int32), .int (97 : Int32), .int (98 : Int32), .int (97 : Int32), .int (115 : Int32), .int (101 : Int32)] := StrChars.Road.codOf (cs := tData) (n := 8) rfl (by decide)
theorem own_bNone : ∀ c ∈ tNone, ¬ c < 0 ∧ ¬ (65535 : Int32) < c := by decide
theorem own_bCsv : ∀ c ∈ tCsv, ¬ c < 0 ∧ ¬ (65535 : Int32) < c := by decide
theorem own_bData : ∀ c ∈ tData, ¬ c < 0 ∧ ¬ (65535 : Int32) < c := by decide
theorem own_eqR {args : Array Value} {first s : State} {o : Option Outcome} {idx : List Nat} {t u : Term} {a : Addr} (h : (Jvm.Cond.eq t u).value args first o s idx = some true) (hu : u.eval args first o idx s = some (.ref a)) : t.eval args first o idx s = some (.ref a) := by
  obtain ⟨y, w, e1, e2, -, -⟩ := cmp_v (Or.inl h)
  cases e2.symm.trans hu
  cases y <;> simp [Cond.value, e1, hu] at h ⊢
  exact h
theorem own_eqN {args : Array Value} {first s : State} {o : Option Outcome} {idx : List Nat} {t : Term} (h : (Jvm.Cond.eq t .null).value args first o s idx = some true) : t.eval args first o idx s = some .null := by
  obtain ⟨y, w, e1, e2, -, -⟩ := cmp_v (Or.inl h)
  have e3 : (Term.null).eval args first o idx s = some .null := rfl
  cases e2.symm.trans e3
  cases y <;> simp [Cond.value, e1, e3] at h ⊢
theorem own_hasL {c : Cell} {dv : Value} : ∀ (vs : List Value) (i : Nat), (∀ j, j < vs.length → c.slots[i + j]? = some (vs.getD j dv)) → HasL c i vs
  | [], _, _ => trivial
  | v :: r, i, h => ⟨h 0 (Nat.succ_pos _), own_hasL r (i + 1) fun j hj => by have := h (j + 1) (Nat.succ_lt_succ hj); rw [← Nat.add_assoc, Nat.add_right_comm] at this; exact this⟩
theorem own_arv {Z : State} {args : Array Value} {t : Term} {a : Addr} {ty : FieldType} {n : Int32} {vs : List Value} {dv : Value} (hf : Fit Z) (ht : t.eval args Z none [] Z = some (.ref a)) (ha : (Cond.arrayOf t ty).value args Z none Z [] = some true) (hl : (Term.length t).eval args Z none [] Z = some (.int n)) (hz : ¬ n < 0) (hn : n.toNatClampNeg = vs.length) (hm : vs.length < 2 ^ 31)
    (he : ∀ j : Nat, j < vs.length → (Term.elem t (.int (Int32.ofNat j))).eval args Z none [] Z = some (vs.getD j dv)) : ∃ k, Arv Z Z.heap a k ty n vs dv := by
  obtain ⟨cl, A⟩ := Arr.start ht ha
  have F := A.fin (U := Z) (Vm.Alike.refl _)
  have e3 : cl.slots.size < 2 ^ 31 := by
    rcases Nat.lt_or_ge cl.slots.size (2 ^ 31) with q | q
    · exact q
    · simp [Term.eval, ht, F, show ¬ cl.slots.size < 2147483648 by omega] at hl
  obtain ⟨y, cl', e1, e2, e4⟩ := Term.length_spec hl
  cases ht.symm.trans e1
  cases F.symm.trans e2
  cases e4
  refine ⟨cl.cls, Arv.start hf A e3 rfl hz hn (own_hasL (dv := dv) vs 0 fun j hj => ?_)⟩
  have q := he j hj
  rw [elem_f ht rfl F (by rw [Int32.lt_iff_toInt_lt, Int32.toInt_ofNat_of_lt (by omega)]; have : (0 : Int32).toInt = 0 := by decide
                          omega)] at q
  have r : (Int32.ofNat j).toNatClampNeg = j := by simp only [Int32.toNatClampNeg, Int32.toInt_ofNat_of_lt (show j < 2 ^ 31 by omega)]; rfl
  rw [r] at q
  rw [Nat.zero_add]; exact q
theorem own_eqv {args : Array Value} {first s : State} {o : Option Outcome} {idx : List Nat} {t : Term} {k : Int32} (h : (Jvm.Cond.eq t (.int k)).value args first o s idx = some true) : t.eval args first o idx s = some (.int k) := by
  obtain ⟨x, y, e1, e2, -, -⟩ := cmp_v (Or.inl h)
  obtain rfl : y = .int k := (Option.some.inj e2).symm
  have e3 : (Term.int k).eval args first o idx s = some (.int k) := rfl
  cases x <;> simp [Cond.value, e1, e3] at h ⊢
  exact h
theorem ww {a0 : Array Value} {Z : State} (hw : ∀ d ∈ tables_1, d.before a0 Z = true) (i : Nat) {d : Jvm.Cond} (h : tables_1[i]? = some d) : d.before a0 Z = true := hw d (List.mem_of_getElem? h)
abbrev ELs : List (String × Nat) := [("com/example/lifetable/lifetable/output/ExportFormatNamedPinLaw", 19), ("com/example/lifetable/lifetable/output/ExportFormatNamedPinLaw", 31), ("com/example/lifetable/lifetable/output/ExportFormatNamedPinLaw", 36), ("java/lang/String", 7)]
theorem own_EW {a0 : Array Value} {Z : State} (hw : ∀ d ∈ tables_1, d.before a0 Z = true) : EW Z a0 ELs := (EW.cons (ww hw 35 rfl) (by decide) (EW.cons (ww hw 48 rfl) (by decide) (EW.cons (ww hw 49 rfl) (by decide) (EW.cons (ww hw 104 rfl) (by decide) EW.nil))))
def World (Z : State) (h : Heap) (cz : Int32) (v_EMPTY vv : Addr) (kv : ClassId) (v_NONE n_NONE t_NONE : Addr) (k_NONE : ClassId) (v_CSV n_CSV t_CSV : Addr) (k_CSV : ClassId) (v_DATABASE n_DATABASE t_DATABASE : Addr) (k_DATABASE : ClassId) : Prop := Sta Z h "java/lang/String" "COMPACT_STRINGS" "Z" (.int cz) ∧ Sta Z h "java/util/Optional" "EMPTY" "Ljava/util/Optional;" (.ref v_EMPTY) ∧ Exa Z h v_EMPTY "java/util/Optional" ∧ Fld Z h v_EMPTY "java/util/Optional" "value" "Ljava/lang/Object;" .null ∧ Sta Z h "com/example/lifetable/lifetable/output/ExportFormat" "$VALUES" "[Lcom/example/lifetable/lifetable/output/ExportFormat;" (.ref vv) ∧ Exa Z h vv "[Lcom/example/lifetable/lifetable/output/ExportFormat;" ∧ Arv Z h vv kv (.object "com/example/lifetable/lifetable/output/ExportFormat") (3 : Int32) [(.ref v_NONE), (.ref v_CSV), (.ref v_DATABASE)] .null ∧ Sta Z h "com/example/lifetable/lifetable/output/ExportFormat" "NONE" "Lcom/example/lifetable/lifetable/output/ExportFormat;" (.ref v_NONE) ∧ Exa Z h v_NONE "com/example/lifetable/lifetable/output/ExportFormat" ∧ Fld Z h v_NONE "com/example/lifetable/lifetable/output/ExportFormat" "name" "Ljava/lang/String;" (.ref n_NONE) ∧ Exa Z h n_NONE "java/lang/String" ∧ Fld Z h n_NONE "java/lang/String" "coder" "B" (.int (0 : Int32)) ∧ Fld Z h n_NONE "java/lang/String" "value" "[B" (.ref t_NONE) ∧ Arv Z h t_NONE k_NONE .byte (4 : Int32) [(.int (110 : Int32)), (.int (111 : Int32)), (.int (110 : Int32)), (.int (101 : Int32))] (.int (0 : Int32)) ∧ Sta Z h "com/example/lifetable/lifetable/output/ExportFormat" "CSV" "Lcom/example/lifetable/lifetable/output/ExportFormat;" (.ref v_CSV) ∧ Exa Z h v_CSV "com/example/lifetable/lifetable/output/ExportFormat" ∧ Fld Z h v_CSV "com/example/lifetable/lifetable/output/ExportFormat" "name" "Ljava/lang/String;" (.ref n_CSV) ∧ Exa Z h n_CSV "java/lang/String" ∧ Fld Z h n_CSV "java/lang/String" "coder" "B" (.int (0 : Int32)) ∧ Fld Z h n_CSV "java/lang/String" "value" "[B" (.ref t_CSV) ∧ Arv Z h t_CSV k_CSV .byte (3 : Int32) [(.int (99 : Int32)), (.int (115 : Int32)), (.int (118 : Int32))] (.int (0 : Int32)) ∧ Sta Z h "com/example/lifetable/lifetable/output/ExportFormat" "DATABASE" "Lcom/example/lifetable/lifetable/output/ExportFormat;" (.ref v_DATABASE) ∧ Exa Z h v_DATABASE "com/example/lifetable/lifetable/output/ExportFormat" ∧ Fld Z h v_DATABASE "com/example/lifetable/lifetable/output/ExportFormat" "name" "Ljava/lang/String;" (.ref n_DATABASE) ∧ Exa Z h n_DATABASE "java/lang/String" ∧ Fld Z h n_DATABASE "java/lang/String" "coder" "B" (.int (0 : Int32)) ∧ Fld Z h n_DATABASE "java/lang/String" "value" "[B" (.ref t_DATABASE) ∧ Arv Z h t_DATABASE k_DATABASE .byte (8 : Int32) [(.int (100 : Int32)), (.int (97 : Int32)), (.int (116 : Int32)), (.int (97 : Int32)), (.int (98 : Int32)), (.int (97 : Int32)), (.int (115 : Int32)), (.int (101 : Int32))] (.int (0 : Int32))
theorem World.ext {Z : State} {h h' : Heap} {cz : Int32} {v_EMPTY vv : Addr} {kv : ClassId} {v_NONE n_NONE t_NONE : Addr} {k_NONE : ClassId} {v_CSV n_CSV t_CSV : Addr} {k_CSV : ClassId} {v_DATABASE n_DATABASE t_DATABASE : Addr} {k_DATABASE : ClassId} (W : World Z h cz v_EMPTY vv kv v_NONE n_NONE t_NONE k_NONE v_CSV n_CSV t_CSV k_CSV v_DATABASE n_DATABASE t_DATABASE k_DATABASE) (E : Ext h h') : World Z h' cz v_EMPTY vv kv v_NONE n_NONE t_NONE k_NONE v_CSV n_CSV t_CSV k_CSV v_DATABASE n_DATABASE t_DATABASE k_DATABASE := by
  obtain ⟨S_cs, S_EM, E_EM, F_EM, S_VAL, E_VAL, V_VAL, S_NONE, E_NONE, F_NONE, En_NONE, Cn_NONE, Vn_NONE, Kn_NONE, S_CSV, E_CSV, F_CSV, En_CSV, Cn_CSV, Vn_CSV, Kn_CSV, S_DATABASE, E_DATABASE, F_DATABASE, En_DATABASE, Cn_DATABASE, Vn_DATABASE, Kn_DATABASE⟩ := W
  exact ⟨S_cs.ext E, S_EM.ext E, E_EM.ext E, F_EM.ext E, S_VAL.ext E, E_VAL.ext E, V_VAL.ext E, S_NONE.ext E, E_NONE.ext E, F_NONE.ext E, En_NONE.ext E, Cn_NONE.ext E, Vn_NONE.ext E, Kn_NONE.ext E, S_CSV.ext E, E_CSV.ext E, F_CSV.ext E, En_CSV.ext E, Cn_CSV.ext E, Vn_CSV.ext E, Kn_CSV.ext E, S_DATABASE.ext E, E_DATABASE.ext E, F_DATABASE.ext E, En_DATABASE.ext E, Cn_DATABASE.ext E, Vn_DATABASE.ext E, Kn_DATABASE.ext E⟩
def QStr (Z : State) (cs : List Int32) (h0 : Heap) (n0 : Nat) (v : Option Value) (h : Heap) (L : List Loc) : Prop := Fr n0 L ∧ Keep h0 h [] ∧ ∃ (x t : Addr) (kb : ClassId), v = some (.ref x) ∧ h0.size ≤ x ∧ Exa Z h x "java/lang/String" ∧ Fld Z h x "java/lang/String" "coder" "B" (.int (0 : Int32)) ∧ Fld Z h x "java/lang/String" "value" "[B" (.ref t) ∧ Arv Z h t kb .byte (Int32.ofNat cs.length) ((cs.map fun c => c.toInt8.toInt32).map Value.int) (.int (0 : Int32))
theorem d1_0 : decode method_2_code 0 = .ok (.iload_n 1, 1) := by decide +kernel
theorem d1_1 : decode method_2_code 1 = .ok (.tableswitch 307 0 7 #[47, 58, 75, 98, 127, 162, 203, 251], 47) := by decide +kernel
theorem d1_59 : decode method_2_code 59 = .ok (.new 7, 3) := by decide +kernel
theorem d1_62 : decode method_2_code 62 = .ok (.dup, 1) := by decide +kernel
theorem d1_63 : decode method_2_code 63 = .ok (.iconst 1, 1) := by decide +kernel
theorem d1_64 : decode method_2_code 64 = .ok (.newarray .char, 2) := by decide +kernel
theorem d1_66 : decode method_2_code 66 = .ok (.dup, 1) := by decide +kernel
theorem d1_67 : decode method_2_code 67 = .ok (.iconst 0, 1) := by decide +kernel
theorem d1_68 : decode method_2_code 68 = .ok (.aload_n 0, 1) := by decide +kernel
theorem d1_69 : decode method_2_code 69 = .ok (.iconst 0, 1) := by decide +kernel
theorem d1_70 : decode method_2_code 70 = .ok (.caload, 1) := by decide +kernel
theorem d1_71 : decode method_2_code 71 = .ok (.castore, 1) := by decide +kernel
theorem d1_72 : decode method_2_code 72 = .ok (.invokespecial 9, 3) := by decide +kernel
theorem d1_75 : decode method_2_code 75 = .ok (.areturn, 1) := by decide +kernel
theorem pn_1 : plainName "com/example/lifetable/lifetable/output/ExportFormatNamedPinLaw" = true := by first | (simp [plainName, overriddenIn]; done) | decide +kernel
theorem pd_0 : parseMethodDescriptor "([C)V" = some ⟨[(.array .char)], none⟩ := by decide +kernel
theorem ef_rmStr1 (m : MethodId) (b : Addr) : entryFrame m #[(.ref b), (.int (1 : Int32))] 2 = mkF m 0 #[.val (.ref b), .val (.int (1 : Int32))] [] := by first | (simp [entryFrame, mkF, argsToLocals, Value.category]; done) | rfl
set_option maxRecDepth 65536 in
set_option maxHeartbeats 40000000 in
theorem rmStr1 (l : Launch) (Z : State) (a0 : Array Value) (hw : ∀ d ∈ tables_1, d.before a0 Z = true) (ws : List Jvm.Cond) (b : Addr) (kc : ClassId) (cz : Int32) (sg0 sg1 sg2 sg3 sg4 sg5 sg6 sg7 : Int32) (h0 : Heap) (n0 : Nat) (Z0 : n0 ≤ h0.size) (Vb : Arv Z h0 b kc .char (8 : Int32) [(.int sg0), (.int sg1), (.int sg2), (.int sg3), (.int sg4), (.int sg5), (.int sg6), (.int sg7)] (.int (0 : Int32))) (ok0 : ok sg0) (ok1 : ok sg1) (ok2 : ok sg2) (ok3 : ok sg3) (ok4 : ok sg4) (ok5 : ok sg5) (ok6 : ok sg6) (ok7 : ok sg7) (S_cs : Sta Z h0 "java/lang/String" "COMPACT_STRINGS" "Z" (.int cz)) (hcz : ¬ cz = 0) :
    MetFree l (⟨"com/example/lifetable/lifetable/output/ExportFormatNamedPinLaw", "str", "([CI)Ljava/lang/String;"⟩ : MethodName) (head1 (Jvm.Cond.code (⟨"com/example/lifetable/lifetable/output/ExportFormatNamedPinLaw", "str", "([CI)Ljava/lang/String;"⟩ : MethodName) method_2_code 2 (some (.object "java/lang/String")) :: ws) ({ frames := 4, cells := 3, slots := 6, locals := 66 } : Room)) (fun a_ U_ => a_ = #[(.ref b), (.int (1 : Int32))] ∧ Z.Warmed39 U_.vm ∧ U_.heap = h0) (fun _ _ _ _ _ => True) (fun _ U_ o_ U'_ => ∃ v_ L_, o_ = .returned v_ ∧ QStr Z [sg0] h0 n0 v_ U'_.heap L_ ∧ FrameEnd U_ o_ U'_ L_ ({ frames := 4, cells := 3, slots := 6, locals := 66 } : Room).cells ({ frames := 4, cells := 3, slots := 6, locals := 66 } : Room).slots) := by
  refine MetFree.of_bodySF (plainFor_of_name pn_1) hisR ?_
  intro p e s m args below meth c s₁ Bd hml0 hP hK
  obtain ⟨rfl, hZ, hh⟩ := hP
  have hx := Bd.exec
  have hby := Bd.bytes
  have hml : c.maxLocals = 2 := hml0
  have hown : s.vm.findClass "com/example/lifetable/lifetable/output/ExportFormatNamedPinLaw" = some m.cls := findClass_of_methodNamed Bd.named
  have hnm := (name_of_methodNamed Bd.named Bd.method).1
  have X0 : Stand p l e ({ frames := 4, cells := 3, slots := 6, locals := 66 } : Room) s m #[(.ref b), (.int (1 : Int32))] below meth c s₁ [] 0 0 := Stand.of_body Bd
  have e0 : s₁.heap = h0 := by rw [← hh, Bd.state]; rfl
  have N0 := Fr.nil n0
  have k0 : ∀ tg, Steps p.tables e below (s₁.setTop (mkF m 0 #[.val (.ref b), .val (.int (1 : Int32))] [])) tg → Steps p.tables e below (s₁.setTop (entryFrame m #[(.ref b), (.int (1 : Int32))] 2)) tg := fun tg kq_ => castTop (ef_rmStr1 m b) kq_
  obtain ⟨T1, h1, X1, e1, E1, A1, D1, -, st1⟩ := newO X0 hx hZ hown (ww hw 6 rfl) (ww hw 7 rfl) (ww hw 8 rfl) e0 (g := (mkF m 59 #[.val (.ref b), .val (.int (1 : Int32))] [])) rfl (hb hby d1_59) (by decide) (by decide)
  obtain ⟨b1, g1⟩ : ∃ z, z = h0.size := ⟨_, rfl⟩
  have ne_b_b1 : b ≠ b1 := Nat.ne_of_lt (Nat.lt_of_lt_of_le Vb.lt (Nat.le_of_eq g1.symm))
  have g_b1 : n0 ≤ b1 := Nat.le_trans Z0 (Nat.le_of_eq g1.symm)
  have sz_b1 : h0.size ≤ b1 := Nat.le_trans (Keep.refl h0 []).1 (Nat.le_of_eq g1.symm)
  rw [← g1] at A1 D1 st1
  have V1_b := Vb.ext E1
  have Z1 := Nat.le_trans Z0 E1.1
  have KP1 := (Keep.refl h0 []).ext E1
  have F_coder_b1 : Fld Z h1 b1 "java/lang/String" "coder" "B" (.int (0 : Int32)) := D1 (Or.inr (ww hw 32 rfl)) (ty := .byte) (by decide)
  have F_value_b1 : Fld Z h1 b1 "java/lang/String" "value" "[B" .null := D1 (Or.inr (ww hw 34 rfl)) (ty := (.array .byte)) (by decide)
  obtain ⟨T2, h2, c2, X2, e2, E2, A2, st2⟩ := newP X1 hx hZ (ww hw 0 rfl) e1 (g := (mkF m 64 #[.val (.ref b), .val (.int (1 : Int32))] [(.int (1 : Int32)), (.ref b1), (.ref b1)])) rfl (hb hby d1_64) rfl (by decide) (cap := 1) (by decide) (by decide) (by decide) (by decide)
  obtain ⟨b2, g2⟩ : ∃ z, z = h1.size := ⟨_, rfl⟩
  have ne_b_b2 : b ≠ b2 := Nat.ne_of_lt (Nat.lt_of_lt_of_le V1_b.lt (Nat.le_of_eq g2.symm))
  have ne_b1_b2 : b1 ≠ b2 := Nat.ne_of_lt (Nat.lt_of_lt_of_le A1.lt (Nat.le_of_eq g2.symm))
  have g_b2 : n0 ≤ b2 := Nat.le_trans Z1 (Nat.le_of_eq g2.symm)
  have sz_b2 : h0.size ≤ b2 := Nat.le_trans KP1.1 (Nat.le_of_eq g2.symm)
  rw [← g2] at A2 st2
  have V2_b := V1_b.ext E2
  have E2_b1 := A1.ext E2
  have F2_b1_coder := F_coder_b1.ext E2
  have F2_b1_value := F_value_b1.ext E2
  have Z2 := Nat.le_trans Z1 E2.1
  have KP2 := KP1.ext E2
  have V_b2 : Arv Z h2 b2 c2 .char (1 : Int32) [(.int (0 : Int32))] (.int (0 : Int32)) := (Arv.new A2 (by decide)).pad (pad_rep [] (.int (0 : Int32)) 1)
  obtain ⟨cl70_3, Ar70_3, q70_3, S70_3, N70_3_, H70_3, G70_3⟩ := id V2_b
  have hin70_3 : ¬ ((0 : Int32) < 0 ∨ cl70_3.slots.size ≤ ((0 : Int32)).toNatClampNeg) := inb_of S70_3 ⟨by decide, by decide⟩
  have hat70_3 : cl70_3.slots[((0 : Int32)).toNatClampNeg]? = some (.int sg0) := H70_3.at hin70_3 rfl
  obtain ⟨cl71_4, Ar71_4, q71_4, S71_4, N71_4_, H71_4, G71_4⟩ := id V_b2
  have hin71_4 : ¬ ((0 : Int32) < 0 ∨ cl71_4.slots.size ≤ ((0 : Int32)).toNatClampNeg) := inb_of S71_4 ⟨by decide, by decide⟩
  obtain ⟨T5, h5, X5, e5, W5, st5⟩ := stC X2 hx hZ e2 Ar71_4 (j := (0 : Int32)) hin71_4 (g := (mkF m 71 #[.val (.ref b), .val (.int (1 : Int32))] [(.int sg0), (.int (0 : Int32)), (.ref b2), (.ref b2), (.ref b1), (.ref b1)])) rfl rfl (hb hby d1_71)
  have V5_b := V2_b.other W5 ne_b_b2
  have E5_b1 := E2_b1.wr W5
  have F5_b1_coder := F2_b1_coder.other W5 (Or.inl ne_b1_b2)
  have F5_b1_value := F2_b1_value.other W5 (Or.inl ne_b1_b2)
  have Z5 := Nat.le_trans Z2 (Keep.of_wr W5).1
  have KP5 := KP2.wr W5 (Or.inr sz_b2)
  have N5 := Fr.snoc X5 N0 g_b2
  have V5_b2 : Arv Z h5 b2 c2 .char (1 : Int32) [(.int (nar .char sg0))] (.int (0 : Int32)) := Arv.set Ar71_4 q71_4 S71_4 N71_4_ H71_4 G71_4 (fits_nar_char _) W5 0 rfl (Nat.le_of_ble_eq_true rfl)
  have Vc : Arv Z h5 b2 c2 .char (1 : Int32) [(.int sg0)] (.int (0 : Int32)) := by
    have q := V5_b2
    rw [own_narc sg0 ok0] at q
    exact q
  have hp : ∀ c ∈ ([sg0] : List Int32), ¬ c < 0 ∧ ¬ (255 : Int32) < c := by
    intro c hc
    simp only [List.mem_cons, List.not_mem_nil, or_false] at hc
    subst hc; assumption
  have hws : ∀ d ∈ StrChars.Road.words, d.before a0 Z = true := fun d hd => hw d ((by decide +kernel : ∀ d ∈ StrChars.Road.words, d ∈ tables_1) d hd)
  obtain ⟨_, _, ⟨T6, L6, k6, n6⟩, -, X6, ⟨Lc6, hQ6, l6, y6, z6⟩, st6⟩ := X5.specialBack hx (y := (⟨"java/lang/String", "<init>", "([C)V"⟩ : MethodName)) rfl hown (mvT hZ (ww hw 9 rfl)) (mvT hZ (ww hw 10 rfl)) (mvT hZ (ww hw 11 rfl)) (by decide) (StrChars.Road.backV (W := 1) hZ hws (kI := 4) (ww hw 7 rfl) (cs := ([sg0] : List Int32)) (bs := ([sg0] : List Int32).map (fun c => c.toInt8.toInt32)) (n := 1) g_b1 Z5 E5_b1 F5_b1_value F5_b1_coder Vc (S_cs.ext (own_extK KP5)) hcz rfl rfl (by decide) (by decide) hp rfl (by decide) (by decide)) (g := (mkF m 72 #[.val (.ref b), .val (.int (1 : Int32))] [(.ref b2), (.ref b1), (.ref b1)])) rfl (by rw [hml]; rfl) (Steps.refl _) (a := b1) (argsL := [(.ref b2)]) (rest := [(.ref b1)]) (lenOf pd_0 rfl) rfl (by show 2 * 0 + _ ≤ _; exact Nat.le_of_eq rfl) (hb hby d1_72) (fun _ _ => ⟨rfl, e5, (by decide : 2 + 1 ≤ _), (by decide : 5 + 1 ≤ _)⟩)
  dsimp only [Pt.U, Pt.locs, Pt.cells, Pt.slots] at X6 l6 y6 z6 st6 hQ6
  subst l6 y6 z6
  obtain ⟨rfl, N6q, K6, E6x, C6x, bt6, kb6, -, le6, -, F6x, V6x⟩ := hQ6
  have N6 := Fr.app N5 N6q
  have ne_b_bt6 : b ≠ bt6 := Nat.ne_of_lt (Nat.lt_of_lt_of_le V5_b.lt le6)
  have ne_b1_bt6 : b1 ≠ bt6 := Nat.ne_of_lt (Nat.lt_of_lt_of_le E5_b1.lt le6)
  have ne_b2_bt6 : b2 ≠ bt6 := Nat.ne_of_lt (Nat.lt_of_lt_of_le V5_b2.lt le6)
  have g_bt6 : n0 ≤ bt6 := Nat.le_trans Z5 le6
  have sz_bt6 : h0.size ≤ bt6 := Nat.le_trans KP5.1 le6
  have V6_b2 := V5_b2.keep K6 (ninS (Ne.symm ne_b1_b2) nin0)
  have Z6 := Nat.le_trans Z5 K6.1
  have KP6 := KP5.trans K6 (allS (Or.inr sz_b1) all0)
  have k7 : ∀ tg, Steps p.tables e below (T6.setTop (mkF m 75 #[.val (.ref b), .val (.int (1 : Int32))] [(.ref b1)])) tg → Steps p.tables e below (s₁.setTop (entryFrame m #[(.ref b), (.int (1 : Int32))] 2)) tg := by
    intro tg kt
    refine k0 tg ?_
    show Steps p.tables e below (s₁.setTop (mkF m 0 #[.val (.ref b), .val (.int (1 : Int32))] [])) _
    refine XS.iloadN X0.here hx rfl (hb hby d1_0) rfl ?_
    refine XS.tswIn X0.here hx rfl (pc0 := 1) (pc' := 59) rfl (hb hby d1_1) rfl (by decide) (o := 58) (by decide) (by decide) (by decide) ?_
    refine st1 _ ?_
    show Steps p.tables e below (T1.setTop (mkF m 62 #[.val (.ref b), .val (.int (1 : Int32))] [(.ref b1)])) _
    refine XS.dup X1.here hx rfl (hb hby d1_62) rfl rfl ?_
    refine XS.iconst X1.here hx rfl (hb hby d1_63) ?_
    refine st2 _ ?_
    refine XS.dup X2.here hx rfl (hb hby d1_66) rfl rfl ?_
    refine XS.iconst X2.here hx rfl (hb hby d1_67) ?_
    refine XS.aloadN X2.here hx rfl (hb hby d1_68) rfl rfl ?_
    refine XS.iconst X2.here hx rfl (hb hby d1_69) ?_
    show Steps p.tables e below (T2.setTop (mkF m 70 #[.val (.ref b), .val (.int (1 : Int32))] [(.int (0 : Int32)), (.ref b), (.int (0 : Int32)), (.ref b2), (.ref b2), (.ref b1), (.ref b1)])) _
    refine X2.caload hx (j := (0 : Int32)) (v := (.int sg0)) (by rw [e2]; exact Ar70_3.1) (State.isArrayOf_alike hZ.alike Ar70_3.2.1) Ar70_3.2.2 hin70_3 hat70_3 (g := (mkF m 70 #[.val (.ref b), .val (.int (1 : Int32))] [(.int (0 : Int32)), (.ref b), (.int (0 : Int32)), (.ref b2), (.ref b2), (.ref b1), (.ref b1)])) rfl rfl (hb hby d1_70) _ ?_
    refine st5 _ ?_
    refine st6.trans ?_
    show Steps p.tables e below (T6.setTop (mkF m 75 #[.val (.ref b), .val (.int (1 : Int32))] [(.ref b1)])) _
    exact kt
  obtain ⟨fs, hr, hrun, hended, hW, hsame⟩ := X6.leave (v := some (.ref b1)) (fun h => by rw [Bd.returns] at h; cases h)
  refine ⟨_, _, k7 _ ?_, hrun, hended, _, _, rfl, ?_, ⟨_, rfl⟩, hW, hsame.mono (by decide) (by decide)⟩
  · exact own_retA X6 hx Bd.returns rfl (hb hby d1_75) hr
  · show QStr Z [sg0] h0 n0 _ T6.heap _
    exact ⟨N6, KP6, b1, bt6, kb6, rfl, sz_b1, E6x, C6x, F6x, V6x⟩
theorem d1_76 : decode method_2_code 76 = .ok (.new 7, 3) := by decide +kernel
theorem d1_79 : decode method_2_code 79 = .ok (.dup, 1) := by decide +kernel
theorem d1_80 : decode method_2_code 80 = .ok (.iconst 2, 1) := by decide +kernel
theorem d1_81 : decode method_2_code 81 = .ok (.newarray .char, 2) := by decide +kernel
theorem d1_83 : decode method_2_code 83 = .ok (.dup, 1) := by decide +kernel
theorem d1_84 : decode method_2_code 84 = .ok (.iconst 0, 1) := by decide +kernel
theorem d1_85 : decode method_2_code 85 = .ok (.aload_n 0, 1) := by decide +kernel
theorem d1_86 : decode method_2_code 86 = .ok (.iconst 0, 1) := by decide +kernel
theorem d1_87 : decode method_2_code 87 = .ok (.caload, 1) := by decide +kernel
theorem d1_88 : decode method_2_code 88 = .ok (.castore, 1) := by decide +kernel
theorem d1_89 : decode method_2_code 89 = .ok (.dup, 1) := by decide +kernel
theorem d1_90 : decode method_2_code 90 = .ok (.iconst 1, 1) := by decide +kernel
theorem d1_91 : decode method_2_code 91 = .ok (.aload_n 0, 1) := by decide +kernel
theorem d1_92 : decode method_2_code 92 = .ok (.iconst 1, 1) := by decide +kernel
theorem d1_93 : decode method_2_code 93 = .ok (.caload, 1) := by decide +kernel
theorem d1_94 : decode method_2_code 94 = .ok (.castore, 1) := by decide +kernel
theorem d1_95 : decode method_2_code 95 = .ok (.invokespecial 9, 3) := by decide +kernel
theorem d1_98 : decode method_2_code 98 = .ok (.areturn, 1) := by decide +kernel
theorem ef_rmStr2 (m : MethodId) (b : Addr) : entryFrame m #[(.ref b), (.int (2 : Int32))] 2 = mkF m 0 #[.val (.ref b), .val (.int (2 : Int32))] [] := by first | (simp [entryFrame, mkF, argsToLocals, Value.category]; done) | rfl
set_option maxRecDepth 65536 in
set_option maxHeartbeats 40000000 in
theorem rmStr2 (l : Launch) (Z : State) (a0 : Array Value) (hw : ∀ d ∈ tables_1, d.before a0 Z = true) (ws : List Jvm.Cond) (b : Addr) (kc : ClassId) (cz : Int32) (sg0 sg1 sg2 sg3 sg4 sg5 sg6 sg7 : Int32) (h0 : Heap) (n0 : Nat) (Z0 : n0 ≤ h0.size) (Vb : Arv Z h0 b kc .char (8 : Int32) [(.int sg0), (.int sg1), (.int sg2), (.int sg3), (.int sg4), (.int sg5), (.int sg6), (.int sg7)] (.int (0 : Int32))) (ok0 : ok sg0) (ok1 : ok sg1) (ok2 : ok sg2) (ok3 : ok sg3) (ok4 : ok sg4) (ok5 : ok sg5) (ok6 : ok sg6) (ok7 : ok sg7) (S_cs : Sta Z h0 "java/lang/String" "COMPACT_STRINGS" "Z" (.int cz)) (hcz : ¬ cz = 0) :
    MetFree l (⟨"com/example/lifetable/lifetable/output/ExportFormatNamedPinLaw", "str", "([CI)Ljava/lang/String;"⟩ : MethodName) (head1 (Jvm.Cond.code (⟨"com/example/lifetable/lifetable/output/ExportFormatNamedPinLaw", "str", "([CI)Ljava/lang/String;"⟩ : MethodName) method_2_code 2 (some (.object "java/lang/String")) :: ws) ({ frames := 4, cells := 3, slots := 8, locals := 66 } : Room)) (fun a_ U_ => a_ = #[(.ref b), (.int (2 : Int32))] ∧ Z.Warmed39 U_.vm ∧ U_.heap = h0) (fun _ _ _ _ _ => True) (fun _ U_ o_ U'_ => ∃ v_ L_, o_ = .returned v_ ∧ QStr Z [sg0, sg1] h0 n0 v_ U'_.heap L_ ∧ FrameEnd U_ o_ U'_ L_ ({ frames := 4, cells := 3, slots := 8, locals := 66 } : Room).cells ({ frames := 4, cells := 3, slots := 8, locals := 66 } : Room).slots) := by
  refine MetFree.of_bodySF (plainFor_of_name pn_1) hisR ?_
  intro p e s m args below meth c s₁ Bd hml0 hP hK
  obtain ⟨rfl, hZ, hh⟩ := hP
  have hx := Bd.exec
  have hby := Bd.bytes
  have hml : c.maxLocals = 2 := hml0
  have hown : s.vm.findClass "com/example/lifetable/lifetable/output/ExportFormatNamedPinLaw" = some m.cls := findClass_of_methodNamed Bd.named
  have hnm := (name_of_methodNamed Bd.named Bd.method).1
  have X0 : Stand p l e ({ frames := 4, cells := 3, slots := 8, locals := 66 } : Room) s m #[(.ref b), (.int (2 : Int32))] below meth c s₁ [] 0 0 := Stand.of_body Bd
  have e0 : s₁.heap = h0 := by rw [← hh, Bd.state]; rfl
  have N0 := Fr.nil n0
  have k0 : ∀ tg, Steps p.tables e below (s₁.setTop (mkF m 0 #[.val (.ref b), .val (.int (2 : Int32))] [])) tg → Steps p.tables e below (s₁.setTop (entryFrame m #[(.ref b), (.int (2 : Int32))] 2)) tg := fun tg kq_ => castTop (ef_rmStr2 m b) kq_
  obtain ⟨T1, h1, X1, e1, E1, A1, D1, -, st1⟩ := newO X0 hx hZ hown (ww hw 6 rfl) (ww hw 7 rfl) (ww hw 8 rfl) e0 (g := (mkF m 76 #[.val (.ref b), .val (.int (2 : Int32))] [])) rfl (hb hby d1_76) (by decide) (by decide)
  obtain ⟨b1, g1⟩ : ∃ z, z = h0.size := ⟨_, rfl⟩
  have ne_b_b1 : b ≠ b1 := Nat.ne_of_lt (Nat.lt_of_lt_of_le Vb.lt (Nat.le_of_eq g1.symm))
  have g_b1 : n0 ≤ b1 := Nat.le_trans Z0 (Nat.le_of_eq g1.symm)
  have sz_b1 : h0.size ≤ b1 := Nat.le_trans (Keep.refl h0 []).1 (Nat.le_of_eq g1.symm)
  rw [← g1] at A1 D1 st1
  have V1_b := Vb.ext E1
  have Z1 := Nat.le_trans Z0 E1.1
  have KP1 := (Keep.refl h0 []).ext E1
  have F_coder_b1 : Fld Z h1 b1 "java/lang/String" "coder" "B" (.int (0 : Int32)) := D1 (Or.inr (ww hw 32 rfl)) (ty := .byte) (by decide)
  have F_value_b1 : Fld Z h1 b1 "java/lang/String" "value" "[B" .null := D1 (Or.inr (ww hw 34 rfl)) (ty := (.array .byte)) (by decide)
  obtain ⟨T2, h2, c2, X2, e2, E2, A2, st2⟩ := newP X1 hx hZ (ww hw 0 rfl) e1 (g := (mkF m 81 #[.val (.ref b), .val (.int (2 : Int32))] [(.int (2 : Int32)), (.ref b1), (.ref b1)])) rfl (hb hby d1_81) rfl (by decide) (cap := 2) (by decide) (by decide) (by decide) (by decide)
  obtain ⟨b2, g2⟩ : ∃ z, z = h1.size := ⟨_, rfl⟩
  have ne_b_b2 : b ≠ b2 := Nat.ne_of_lt (Nat.lt_of_lt_of_le V1_b.lt (Nat.le_of_eq g2.symm))
  have ne_b1_b2 : b1 ≠ b2 := Nat.ne_of_lt (Nat.lt_of_lt_of_le A1.lt (Nat.le_of_eq g2.symm))
  have g_b2 : n0 ≤ b2 := Nat.le_trans Z1 (Nat.le_of_eq g2.symm)
  have sz_b2 : h0.size ≤ b2 := Nat.le_trans KP1.1 (Nat.le_of_eq g2.symm)
  rw [← g2] at A2 st2
  have V2_b := V1_b.ext E2
  have E2_b1 := A1.ext E2
  have F2_b1_coder := F_coder_b1.ext E2
  have F2_b1_value := F_value_b1.ext E2
  have Z2 := Nat.le_trans Z1 E2.1
  have KP2 := KP1.ext E2
  have V_b2 : Arv Z h2 b2 c2 .char (2 : Int32) [(.int (0 : Int32)), (.int (0 : Int32))] (.int (0 : Int32)) := (Arv.new A2 (by decide)).pad (pad_rep [] (.int (0 : Int32)) 2)
  obtain ⟨cl87_3, Ar87_3, q87_3, S87_3, N87_3_, H87_3, G87_3⟩ := id V2_b
  have hin87_3 : ¬ ((0 : Int32) < 0 ∨ cl87_3.slots.size ≤ ((0 : Int32)).toNatClampNeg) := inb_of S87_3 ⟨by decide, by decide⟩
  have hat87_3 : cl87_3.slots[((0 : Int32)).toNatClampNeg]? = some (.int sg0) := H87_3.at hin87_3 rfl
  obtain ⟨cl88_4, Ar88_4, q88_4, S88_4, N88_4_, H88_4, G88_4⟩ := id V_b2
  have hin88_4 : ¬ ((0 : Int32) < 0 ∨ cl88_4.slots.size ≤ ((0 : Int32)).toNatClampNeg) := inb_of S88_4 ⟨by decide, by decide⟩
  obtain ⟨T5, h5, X5, e5, W5, st5⟩ := stC X2 hx hZ e2 Ar88_4 (j := (0 : Int32)) hin88_4 (g := (mkF m 88 #[.val (.ref b), .val (.int (2 : Int32))] [(.int sg0), (.int (0 : Int32)), (.ref b2), (.ref b2), (.ref b1), (.ref b1)])) rfl rfl (hb hby d1_88)
  have V5_b := V2_b.other W5 ne_b_b2
  have E5_b1 := E2_b1.wr W5
  have F5_b1_coder := F2_b1_coder.other W5 (Or.inl ne_b1_b2)
  have F5_b1_value := F2_b1_value.other W5 (Or.inl ne_b1_b2)
  have Z5 := Nat.le_trans Z2 (Keep.of_wr W5).1
  have KP5 := KP2.wr W5 (Or.inr sz_b2)
  have N5 := Fr.snoc X5 N0 g_b2
  have V5_b2 : Arv Z h5 b2 c2 .char (2 : Int32) [(.int (nar .char sg0)), (.int (0 : Int32))] (.int (0 : Int32)) := Arv.set Ar88_4 q88_4 S88_4 N88_4_ H88_4 G88_4 (fits_nar_char _) W5 0 rfl (Nat.le_of_ble_eq_true rfl)
  obtain ⟨cl93_6, Ar93_6, q93_6, S93_6, N93_6_, H93_6, G93_6⟩ := id V5_b
  have hin93_6 : ¬ ((1 : Int32) < 0 ∨ cl93_6.slots.size ≤ ((1 : Int32)).toNatClampNeg) := inb_of S93_6 ⟨by decide, by decide⟩
  have hat93_6 : cl93_6.slots[((1 : Int32)).toNatClampNeg]? = some (.int sg1) := H93_6.at hin93_6 rfl
  obtain ⟨cl94_7, Ar94_7, q94_7, S94_7, N94_7_, H94_7, G94_7⟩ := id V5_b2
  have hin94_7 : ¬ ((1 : Int32) < 0 ∨ cl94_7.slots.size ≤ ((1 : Int32)).toNatClampNeg) := inb_of S94_7 ⟨by decide, by decide⟩
  obtain ⟨T8, h8, X8, e8, W8, st8⟩ := stC X5 hx hZ e5 Ar94_7 (j := (1 : Int32)) hin94_7 (g := (mkF m 94 #[.val (.ref b), .val (.int (2 : Int32))] [(.int sg1), (.int (1 : Int32)), (.ref b2), (.ref b2), (.ref b1), (.ref b1)])) rfl rfl (hb hby d1_94)
  have V8_b := V5_b.other W8 ne_b_b2
  have E8_b1 := E5_b1.wr W8
  have F8_b1_coder := F5_b1_coder.other W8 (Or.inl ne_b1_b2)
  have F8_b1_value := F5_b1_value.other W8 (Or.inl ne_b1_b2)
  have Z8 := Nat.le_trans Z5 (Keep.of_wr W8).1
  have KP8 := KP5.wr W8 (Or.inr sz_b2)
  have N8 := Fr.snoc X8 N5 g_b2
  have V8_b2 : Arv Z h8 b2 c2 .char (2 : Int32) [(.int (nar .char sg0)), (.int (nar .char sg1))] (.int (0 : Int32)) := Arv.set Ar94_7 q94_7 S94_7 N94_7_ H94_7 G94_7 (fits_nar_char _) W8 1 rfl (Nat.le_of_ble_eq_true rfl)
  have Vc : Arv Z h8 b2 c2 .char (2 : Int32) [(.int sg0), (.int sg1)] (.int (0 : Int32)) := by
    have q := V8_b2
    rw [own_narc sg0 ok0, own_narc sg1 ok1] at q
    exact q
  have hp : ∀ c ∈ ([sg0, sg1] : List Int32), ¬ c < 0 ∧ ¬ (255 : Int32) < c := by
    intro c hc
    simp only [List.mem_cons, List.not_mem_nil, or_false] at hc
    rcases hc with rfl | rfl <;> assumption
  have hws : ∀ d ∈ StrChars.Road.words, d.before a0 Z = true := fun d hd => hw d ((by decide +kernel : ∀ d ∈ StrChars.Road.words, d ∈ tables_1) d hd)
  obtain ⟨_, _, ⟨T9, L9, k9, n9⟩, -, X9, ⟨Lc9, hQ9, l9, y9, z9⟩, st9⟩ := X8.specialBack hx (y := (⟨"java/lang/String", "<init>", "([C)V"⟩ : MethodName)) rfl hown (mvT hZ (ww hw 9 rfl)) (mvT hZ (ww hw 10 rfl)) (mvT hZ (ww hw 11 rfl)) (by decide) (StrChars.Road.backV (W := 1) hZ hws (kI := 4) (ww hw 7 rfl) (cs := ([sg0, sg1] : List Int32)) (bs := ([sg0, sg1] : List Int32).map (fun c => c.toInt8.toInt32)) (n := 2) g_b1 Z8 E8_b1 F8_b1_value F8_b1_coder Vc (S_cs.ext (own_extK KP8)) hcz rfl rfl (by decide) (by decide) hp rfl (by decide) (by decide)) (g := (mkF m 95 #[.val (.ref b), .val (.int (2 : Int32))] [(.ref b2), (.ref b1), (.ref b1)])) rfl (by rw [hml]; rfl) (Steps.refl _) (a := b1) (argsL := [(.ref b2)]) (rest := [(.ref b1)]) (lenOf pd_0 rfl) rfl (by show 2 * 0 + _ ≤ _; exact Nat.le_of_eq rfl) (hb hby d1_95) (fun _ _ => ⟨rfl, e8, (by decide : 2 + 1 ≤ _), (by decide : 6 + 2 ≤ _)⟩)
  dsimp only [Pt.U, Pt.locs, Pt.cells, Pt.slots] at X9 l9 y9 z9 st9 hQ9
  subst l9 y9 z9
  obtain ⟨rfl, N9q, K9, E9x, C9x, bt9, kb9, -, le9, -, F9x, V9x⟩ := hQ9
  have N9 := Fr.app N8 N9q
  have ne_b_bt9 : b ≠ bt9 := Nat.ne_of_lt (Nat.lt_of_lt_of_le V8_b.lt le9)
  have ne_b1_bt9 : b1 ≠ bt9 := Nat.ne_of_lt (Nat.lt_of_lt_of_le E8_b1.lt le9)
  have ne_b2_bt9 : b2 ≠ bt9 := Nat.ne_of_lt (Nat.lt_of_lt_of_le V8_b2.lt le9)
  have g_bt9 : n0 ≤ bt9 := Nat.le_trans Z8 le9
  have sz_bt9 : h0.size ≤ bt9 := Nat.le_trans KP8.1 le9
  have V9_b2 := V8_b2.keep K9 (ninS (Ne.symm ne_b1_b2) nin0)
  have Z9 := Nat.le_trans Z8 K9.1
  have KP9 := KP8.trans K9 (allS (Or.inr sz_b1) all0)
  have k10 : ∀ tg, Steps p.tables e below (T9.setTop (mkF m 98 #[.val (.ref b), .val (.int (2 : Int32))] [(.ref b1)])) tg → Steps p.tables e below (s₁.setTop (entryFrame m #[(.ref b), (.int (2 : Int32))] 2)) tg := by
    intro tg kt
    refine k0 tg ?_
    show Steps p.tables e below (s₁.setTop (mkF m 0 #[.val (.ref b), .val (.int (2 : Int32))] [])) _
    refine XS.iloadN X0.here hx rfl (hb hby d1_0) rfl ?_
    refine XS.tswIn X0.here hx rfl (pc0 := 1) (pc' := 76) rfl (hb hby d1_1) rfl (by decide) (o := 75) (by decide) (by decide) (by decide) ?_
    refine st1 _ ?_
    show Steps p.tables e below (T1.setTop (mkF m 79 #[.val (.ref b), .val (.int (2 : Int32))] [(.ref b1)])) _
    refine XS.dup X1.here hx rfl (hb hby d1_79) rfl rfl ?_
    refine XS.iconst X1.here hx rfl (hb hby d1_80) ?_
    refine st2 _ ?_
    refine XS.dup X2.here hx rfl (hb hby d1_83) rfl rfl ?_
    refine XS.iconst X2.here hx rfl (hb hby d1_84) ?_
    refine XS.aloadN X2.here hx rfl (hb hby d1_85) rfl rfl ?_
    refine XS.iconst X2.here hx rfl (hb hby d1_86) ?_
    show Steps p.tables e below (T2.setTop (mkF m 87 #[.val (.ref b), .val (.int (2 : Int32))] [(.int (0 : Int32)), (.ref b), (.int (0 : Int32)), (.ref b2), (.ref b2), (.ref b1), (.ref b1)])) _
    refine X2.caload hx (j := (0 : Int32)) (v := (.int sg0)) (by rw [e2]; exact Ar87_3.1) (State.isArrayOf_alike hZ.alike Ar87_3.2.1) Ar87_3.2.2 hin87_3 hat87_3 (g := (mkF m 87 #[.val (.ref b), .val (.int (2 : Int32))] [(.int (0 : Int32)), (.ref b), (.int (0 : Int32)), (.ref b2), (.ref b2), (.ref b1), (.ref b1)])) rfl rfl (hb hby d1_87) _ ?_
    refine st5 _ ?_
    refine XS.dup X5.here hx rfl (hb hby d1_89) rfl rfl ?_
    refine XS.iconst X5.here hx rfl (hb hby d1_90) ?_
    refine XS.aloadN X5.here hx rfl (hb hby d1_91) rfl rfl ?_
    refine XS.iconst X5.here hx rfl (hb hby d1_92) ?_
    show Steps p.tables e below (T5.setTop (mkF m 93 #[.val (.ref b), .val (.int (2 : Int32))] [(.int (1 : Int32)), (.ref b), (.int (1 : Int32)), (.ref b2), (.ref b2), (.ref b1), (.ref b1)])) _
    refine X5.caload hx (j := (1 : Int32)) (v := (.int sg1)) (by rw [e5]; exact Ar93_6.1) (State.isArrayOf_alike hZ.alike Ar93_6.2.1) Ar93_6.2.2 hin93_6 hat93_6 (g := (mkF m 93 #[.val (.ref b), .val (.int (2 : Int32))] [(.int (1 : Int32)), (.ref b), (.int (1 : Int32)), (.ref b2), (.ref b2), (.ref b1), (.ref b1)])) rfl rfl (hb hby d1_93) _ ?_
    refine st8 _ ?_
    refine st9.trans ?_
    show Steps p.tables e below (T9.setTop (mkF m 98 #[.val (.ref b), .val (.int (2 : Int32))] [(.ref b1)])) _
    exact kt
  obtain ⟨fs, hr, hrun, hended, hW, hsame⟩ := X9.leave (v := some (.ref b1)) (fun h => by rw [Bd.returns] at h; cases h)
  refine ⟨_, _, k10 _ ?_, hrun, hended, _, _, rfl, ?_, ⟨_, rfl⟩, hW, hsame.mono (by decide) (by decide)⟩
  · exact own_retA X9 hx Bd.returns rfl (hb hby d1_98) hr
  · show QStr Z [sg0, sg1] h0 n0 _ T9.heap _
    exact ⟨N9, KP9, b1, bt9, kb9, rfl, sz_b1, E9x, C9x, F9x, V9x⟩
theorem d1_99 : decode method_2_code 99 = .ok (.new 7, 3) := by decide +kernel
theorem d1_102 : decode method_2_code 102 = .ok (.dup, 1) := by decide +kernel
theorem d1_103 : decode method_2_code 103 = .ok (.iconst 3, 1) := by decide +kernel
theorem d1_104 : decode method_2_code 104 = .ok (.newarray .char, 2) := by decide +kernel
theorem d1_106 : decode method_2_code 106 = .ok (.dup, 1) := by decide +kernel
theorem d1_107 : decode method_2_code 107 = .ok (.iconst 0, 1) := by decide +kernel
theorem d1_108 : decode method_2_code 108 = .ok (.aload_n 0, 1) := by decide +kernel
theorem d1_109 : decode method_2_code 109 = .ok (.iconst 0, 1) := by decide +kernel
theorem d1_110 : decode method_2_code 110 = .ok (.caload, 1) := by decide +kernel
theorem d1_111 : decode method_2_code 111 = .ok (.castore, 1) := by decide +kernel
theorem d1_112 : decode method_2_code 112 = .ok (.dup, 1) := by decide +kernel
theorem d1_113 : decode method_2_code 113 = .ok (.iconst 1, 1) := by decide +kernel
theorem d1_114 : decode method_2_code 114 = .ok (.aload_n 0, 1) := by decide +kernel
theorem d1_115 : decode method_2_code 115 = .ok (.iconst 1, 1) := by decide +kernel
theorem d1_116 : decode method_2_code 116 = .ok (.caload, 1) := by decide +kernel
theorem d1_117 : decode method_2_code 117 = .ok (.castore, 1) := by decide +kernel
theorem d1_118 : decode method_2_code 118 = .ok (.dup, 1) := by decide +kernel
theorem d1_119 : decode method_2_code 119 = .ok (.iconst 2, 1) := by decide +kernel
theorem d1_120 : decode method_2_code 120 = .ok (.aload_n 0, 1) := by decide +kernel
theorem d1_121 : decode method_2_code 121 = .ok (.iconst 2, 1) := by decide +kernel
theorem d1_122 : decode method_2_code 122 = .ok (.caload, 1) := by decide +kernel
theorem d1_123 : decode method_2_code 123 = .ok (.castore, 1) := by decide +kernel
theorem d1_124 : decode method_2_code 124 = .ok (.invokespecial 9, 3) := by decide +kernel
theorem d1_127 : decode method_2_code 127 = .ok (.areturn, 1) := by decide +kernel
theorem ef_rmStr3 (m : MethodId) (b : Addr) : entryFrame m #[(.ref b), (.int (3 : Int32))] 2 = mkF m 0 #[.val (.ref b), .val (.int (3 : Int32))] [] := by first | (simp [entryFrame, mkF, argsToLocals, Value.category]; done) | rfl
set_option maxRecDepth 65536 in
set_option maxHeartbeats 40000000 in
theorem rmStr3 (l : Launch) (Z : State) (a0 : Array Value) (hw : ∀ d ∈ tables_1, d.before a0 Z = true) (ws : List Jvm.Cond) (b : Addr) (kc : ClassId) (cz : Int32) (sg0 sg1 sg2 sg3 sg4 sg5 sg6 sg7 : Int32) (h0 : Heap) (n0 : Nat) (Z0 : n0 ≤ h0.size) (Vb : Arv Z h0 b kc .char (8 : Int32) [(.int sg0), (.int sg1), (.int sg2), (.int sg3), (.int sg4), (.int sg5), (.int sg6), (.int sg7)] (.int (0 : Int32))) (ok0 : ok sg0) (ok1 : ok sg1) (ok2 : ok sg2) (ok3 : ok sg3) (ok4 : ok sg4) (ok5 : ok sg5) (ok6 : ok sg6) (ok7 : ok sg7) (S_cs : Sta Z h0 "java/lang/String" "COMPACT_STRINGS" "Z" (.int cz)) (hcz : ¬ cz = 0) :
    MetFree l (⟨"com/example/lifetable/lifetable/output/ExportFormatNamedPinLaw", "str", "([CI)Ljava/lang/String;"⟩ : MethodName) (head1 (Jvm.Cond.code (⟨"com/example/lifetable/lifetable/output/ExportFormatNamedPinLaw", "str", "([CI)Ljava/lang/String;"⟩ : MethodName) method_2_code 2 (some (.object "java/lang/String")) :: ws) ({ frames := 4, cells := 3, slots := 10, locals := 66 } : Room)) (fun a_ U_ => a_ = #[(.ref b), (.int (3 : Int32))] ∧ Z.Warmed39 U_.vm ∧ U_.heap = h0) (fun _ _ _ _ _ => True) (fun _ U_ o_ U'_ => ∃ v_ L_, o_ = .returned v_ ∧ QStr Z [sg0, sg1, sg2] h0 n0 v_ U'_.heap L_ ∧ FrameEnd U_ o_ U'_ L_ ({ frames := 4, cells := 3, slots := 10, locals := 66 } : Room).cells ({ frames := 4, cells := 3, slots := 10, locals := 66 } : Room).slots) := by
  refine MetFree.of_bodySF (plainFor_of_name pn_1) hisR ?_
  intro p e s m args below meth c s₁ Bd hml0 hP hK
  obtain ⟨rfl, hZ, hh⟩ := hP
  have hx := Bd.exec
  have hby := Bd.bytes
  have hml : c.maxLocals = 2 := hml0
  have hown : s.vm.findClass "com/example/lifetable/lifetable/output/ExportFormatNamedPinLaw" = some m.cls := findClass_of_methodNamed Bd.named
  have hnm := (name_of_methodNamed Bd.named Bd.method).1
  have X0 : Stand p l e ({ frames := 4, cells := 3, slots := 10, locals := 66 } : Room) s m #[(.ref b), (.int (3 : Int32))] below meth c s₁ [] 0 0 := Stand.of_body Bd
  have e0 : s₁.heap = h0 := by rw [← hh, Bd.state]; rfl
  have N0 := Fr.nil n0
  have k0 : ∀ tg, Steps p.tables e below (s₁.setTop (mkF m 0 #[.val (.ref b), .val (.int (3 : Int32))] [])) tg → Steps p.tables e below (s₁.setTop (entryFrame m #[(.ref b), (.int (3 : Int32))] 2)) tg := fun tg kq_ => castTop (ef_rmStr3 m b) kq_
  obtain ⟨T1, h1, X1, e1, E1, A1, D1, -, st1⟩ := newO X0 hx hZ hown (ww hw 6 rfl) (ww hw 7 rfl) (ww hw 8 rfl) e0 (g := (mkF m 99 #[.val (.ref b), .val (.int (3 : Int32))] [])) rfl (hb hby d1_99) (by decide) (by decide)
  obtain ⟨b1, g1⟩ : ∃ z, z = h0.size := ⟨_, rfl⟩
  have ne_b_b1 : b ≠ b1 := Nat.ne_of_lt (Nat.lt_of_lt_of_le Vb.lt (Nat.le_of_eq g1.symm))
  have g_b1 : n0 ≤ b1 := Nat.le_trans Z0 (Nat.le_of_eq g1.symm)
  have sz_b1 : h0.size ≤ b1 := Nat.le_trans (Keep.refl h0 []).1 (Nat.le_of_eq g1.symm)
  rw [← g1] at A1 D1 st1
  have V1_b := Vb.ext E1
  have Z1 := Nat.le_trans Z0 E1.1
  have KP1 := (Keep.refl h0 []).ext E1
  have F_coder_b1 : Fld Z h1 b1 "java/lang/String" "coder" "B" (.int (0 : Int32)) := D1 (Or.inr (ww hw 32 rfl)) (ty := .byte) (by decide)
  have F_value_b1 : Fld Z h1 b1 "java/lang/String" "value" "[B" .null := D1 (Or.inr (ww hw 34 rfl)) (ty := (.array .byte)) (by decide)
  obtain ⟨T2, h2, c2, X2, e2, E2, A2, st2⟩ := newP X1 hx hZ (ww hw 0 rfl) e1 (g := (mkF m 104 #[.val (.ref b), .val (.int (3 : Int32))] [(.int (3 : Int32)), (.ref b1), (.ref b1)])) rfl (hb hby d1_104) rfl (by decide) (cap := 3) (by decide) (by decide) (by decide) (by decide)
  obtain ⟨b2, g2⟩ : ∃ z, z = h1.size := ⟨_, rfl⟩
  have ne_b_b2 : b ≠ b2 := Nat.ne_of_lt (Nat.lt_of_lt_of_le V1_b.lt (Nat.le_of_eq g2.symm))
  have ne_b1_b2 : b1 ≠ b2 := Nat.ne_of_lt (Nat.lt_of_lt_of_le A1.lt (Nat.le_of_eq g2.symm))
  have g_b2 : n0 ≤ b2 := Nat.le_trans Z1 (Nat.le_of_eq g2.symm)
  have sz_b2 : h0.size ≤ b2 := Nat.le_trans KP1.1 (Nat.le_of_eq g2.symm)
  rw [← g2] at A2 st2
  have V2_b := V1_b.ext E2
  have E2_b1 := A1.ext E2
  have F2_b1_coder := F_coder_b1.ext E2
  have F2_b1_value := F_value_b1.ext E2
  have Z2 := Nat.le_trans Z1 E2.1
  have KP2 := KP1.ext E2
  have V_b2 : Arv Z h2 b2 c2 .char (3 : Int32) [(.int (0 : Int32)), (.int (0 : Int32)), (.int (0 : Int32))] (.int (0 : Int32)) := (Arv.new A2 (by decide)).pad (pad_rep [] (.int (0 : Int32)) 3)
  obtain ⟨cl110_3, Ar110_3, q110_3, S110_3, N110_3_, H110_3, G110_3⟩ := id V2_b
  have hin110_3 : ¬ ((0 : Int32) < 0 ∨ cl110_3.slots.size ≤ ((0 : Int32)).toNatClampNeg) := inb_of S110_3 ⟨by decide, by decide⟩
  have hat110_3 : cl110_3.slots[((0 : Int32)).toNatClampNeg]? = some (.int sg0) := H110_3.at hin110_3 rfl
  obtain ⟨cl111_4, Ar111_4, q111_4, S111_4, N111_4_, H111_4, G111_4⟩ := id V_b2
  have hin111_4 : ¬ ((0 : Int32) < 0 ∨ cl111_4.slots.size ≤ ((0 : Int32)).toNatClampNeg) := inb_of S111_4 ⟨by decide, by decide⟩
  obtain ⟨T5, h5, X5, e5, W5, st5⟩ := stC X2 hx hZ e2 Ar111_4 (j := (0 : Int32)) hin111_4 (g := (mkF m 111 #[.val (.ref b), .val (.int (3 : Int32))] [(.int sg0), (.int (0 : Int32)), (.ref b2), (.ref b2), (.ref b1), (.ref b1)])) rfl rfl (hb hby d1_111)
  have V5_b := V2_b.other W5 ne_b_b2
  have E5_b1 := E2_b1.wr W5
  have F5_b1_coder := F2_b1_coder.other W5 (Or.inl ne_b1_b2)
  have F5_b1_value := F2_b1_value.other W5 (Or.inl ne_b1_b2)
  have Z5 := Nat.le_trans Z2 (Keep.of_wr W5).1
  have KP5 := KP2.wr W5 (Or.inr sz_b2)
  have N5 := Fr.snoc X5 N0 g_b2
  have V5_b2 : Arv Z h5 b2 c2 .char (3 : Int32) [(.int (nar .char sg0)), (.int (0 : Int32)), (.int (0 : Int32))] (.int (0 : Int32)) := Arv.set Ar111_4 q111_4 S111_4 N111_4_ H111_4 G111_4 (fits_nar_char _) W5 0 rfl (Nat.le_of_ble_eq_true rfl)
  obtain ⟨cl116_6, Ar116_6, q116_6, S116_6, N116_6_, H116_6, G116_6⟩ := id V5_b
  have hin116_6 : ¬ ((1 : Int32) < 0 ∨ cl116_6.slots.size ≤ ((1 : Int32)).toNatClampNeg) := inb_of S116_6 ⟨by decide, by decide⟩
  have hat116_6 : cl116_6.slots[((1 : Int32)).toNatClampNeg]? = some (.int sg1) := H116_6.at hin116_6 rfl
  obtain ⟨cl117_7, Ar117_7, q117_7, S117_7, N117_7_, H117_7, G117_7⟩ := id V5_b2
  have hin117_7 : ¬ ((1 : Int32) < 0 ∨ cl117_7.slots.size ≤ ((1 : Int32)).toNatClampNeg) := inb_of S117_7 ⟨by decide, by decide⟩
  obtain ⟨T8, h8, X8, e8, W8, st8⟩ := stC X5 hx hZ e5 Ar117_7 (j := (1 : Int32)) hin117_7 (g := (mkF m 117 #[.val (.ref b), .val (.int (3 : Int32))] [(.int sg1), (.int (1 : Int32)), (.ref b2), (.ref b2), (.ref b1), (.ref b1)])) rfl rfl (hb hby d1_117)
  have V8_b := V5_b.other W8 ne_b_b2
  have E8_b1 := E5_b1.wr W8
  have F8_b1_coder := F5_b1_coder.other W8 (Or.inl ne_b1_b2)
  have F8_b1_value := F5_b1_value.other W8 (Or.inl ne_b1_b2)
  have Z8 := Nat.le_trans Z5 (Keep.of_wr W8).1
  have KP8 := KP5.wr W8 (Or.inr sz_b2)
  have N8 := Fr.snoc X8 N5 g_b2
  have V8_b2 : Arv Z h8 b2 c2 .char (3 : Int32) [(.int (nar .char sg0)), (.int (nar .char sg1)), (.int (0 : Int32))] (.int (0 : Int32)) := Arv.set Ar117_7 q117_7 S117_7 N117_7_ H117_7 G117_7 (fits_nar_char _) W8 1 rfl (Nat.le_of_ble_eq_true rfl)
  obtain ⟨cl122_9, Ar122_9, q122_9, S122_9, N122_9_, H122_9, G122_9⟩ := id V8_b
  have hin122_9 : ¬ ((2 : Int32) < 0 ∨ cl122_9.slots.size ≤ ((2 : Int32)).toNatClampNeg) := inb_of S122_9 ⟨by decide, by decide⟩
  have hat122_9 : cl122_9.slots[((2 : Int32)).toNatClampNeg]? = some (.int sg2) := H122_9.at hin122_9 rfl
  obtain ⟨cl123_10, Ar123_10, q123_10, S123_10, N123_10_, H123_10, G123_10⟩ := id V8_b2
  have hin123_10 : ¬ ((2 : Int32) < 0 ∨ cl123_10.slots.size ≤ ((2 : Int32)).toNatClampNeg) := inb_of S123_10 ⟨by decide, by decide⟩
  obtain ⟨T11, h11, X11, e11, W11, st11⟩ := stC X8 hx hZ e8 Ar123_10 (j := (2 : Int32)) hin123_10 (g := (mkF m 123 #[.val (.ref b), .val (.int (3 : Int32))] [(.int sg2), (.int (2 : Int32)), (.ref b2), (.ref b2), (.ref b1), (.ref b1)])) rfl rfl (hb hby d1_123)
  have V11_b := V8_b.other W11 ne_b_b2
  have E11_b1 := E8_b1.wr W11
  have F11_b1_coder := F8_b1_coder.other W11 (Or.inl ne_b1_b2)
  have F11_b1_value := F8_b1_value.other W11 (Or.inl ne_b1_b2)
  have Z11 := Nat.le_trans Z8 (Keep.of_wr W11).1
  have KP11 := KP8.wr W11 (Or.inr sz_b2)
  have N11 := Fr.snoc X11 N8 g_b2
  have V11_b2 : Arv Z h11 b2 c2 .char (3 : Int32) [(.int (nar .char sg0)), (.int (nar .char sg1)), (.int (nar .char sg2))] (.int (0 : Int32)) := Arv.set Ar123_10 q123_10 S123_10 N123_10_ H123_10 G123_10 (fits_nar_char _) W11 2 rfl (Nat.le_of_ble_eq_true rfl)
  have Vc : Arv Z h11 b2 c2 .char (3 : Int32) [(.int sg0), (.int sg1), (.int sg2)] (.int (0 : Int32)) := by
    have q := V11_b2
    rw [own_narc sg0 ok0, own_narc sg1 ok1, own_narc sg2 ok2] at q
    exact q
  have hp : ∀ c ∈ ([sg0, sg1, sg2] : List Int32), ¬ c < 0 ∧ ¬ (255 : Int32) < c := by
    intro c hc
    simp only [List.mem_cons, List.not_mem_nil, or_false] at hc
    rcases hc with rfl | rfl | rfl <;> assumption
  have hws : ∀ d ∈ StrChars.Road.words, d.before a0 Z = true := fun d hd => hw d ((by decide +kernel : ∀ d ∈ StrChars.Road.words, d ∈ tables_1) d hd)
  obtain ⟨_, _, ⟨T12, L12, k12, n12⟩, -, X12, ⟨Lc12, hQ12, l12, y12, z12⟩, st12⟩ := X11.specialBack hx (y := (⟨"java/lang/String", "<init>", "([C)V"⟩ : MethodName)) rfl hown (mvT hZ (ww hw 9 rfl)) (mvT hZ (ww hw 10 rfl)) (mvT hZ (ww hw 11 rfl)) (by decide) (StrChars.Road.backV (W := 1) hZ hws (kI := 4) (ww hw 7 rfl) (cs := ([sg0, sg1, sg2] : List Int32)) (bs := ([sg0, sg1, sg2] : List Int32).map (fun c => c.toInt8.toInt32)) (n := 3) g_b1 Z11 E11_b1 F11_b1_value F11_b1_coder Vc (S_cs.ext (own_extK KP11)) hcz rfl rfl (by decide) (by decide) hp rfl (by decide) (by decide)) (g := (mkF m 124 #[.val (.ref b), .val (.int (3 : Int32))] [(.ref b2), (.ref b1), (.ref b1)])) rfl (by rw [hml]; rfl) (Steps.refl _) (a := b1) (argsL := [(.ref b2)]) (rest := [(.ref b1)]) (lenOf pd_0 rfl) rfl (by show 2 * 0 + _ ≤ _; exact Nat.le_of_eq rfl) (hb hby d1_124) (fun _ _ => ⟨rfl, e11, (by decide : 2 + 1 ≤ _), (by decide : 7 + 3 ≤ _)⟩)
  dsimp only [Pt.U, Pt.locs, Pt.cells, Pt.slots] at X12 l12 y12 z12 st12 hQ12
  subst l12 y12 z12
  obtain ⟨rfl, N12q, K12, E12x, C12x, bt12, kb12, -, le12, -, F12x, V12x⟩ := hQ12
  have N12 := Fr.app N11 N12q
  have ne_b_bt12 : b ≠ bt12 := Nat.ne_of_lt (Nat.lt_of_lt_of_le V11_b.lt le12)
  have ne_b1_bt12 : b1 ≠ bt12 := Nat.ne_of_lt (Nat.lt_of_lt_of_le E11_b1.lt le12)
  have ne_b2_bt12 : b2 ≠ bt12 := Nat.ne_of_lt (Nat.lt_of_lt_of_le V11_b2.lt le12)
  have g_bt12 : n0 ≤ bt12 := Nat.le_trans Z11 le12
  have sz_bt12 : h0.size ≤ bt12 := Nat.le_trans KP11.1 le12
  have V12_b2 := V11_b2.keep K12 (ninS (Ne.symm ne_b1_b2) nin0)
  have Z12 := Nat.le_trans Z11 K12.1
  have KP12 := KP11.trans K12 (allS (Or.inr sz_b1) all0)
  have k13 : ∀ tg, Steps p.tables e below (T12.setTop (mkF m 127 #[.val (.ref b), .val (.int (3 : Int32))] [(.ref b1)])) tg → Steps p.tables e below (s₁.setTop (entryFrame m #[(.ref b), (.int (3 : Int32))] 2)) tg := by
    intro tg kt
    refine k0 tg ?_
    show Steps p.tables e below (s₁.setTop (mkF m 0 #[.val (.ref b), .val (.int (3 : Int32))] [])) _
    refine XS.iloadN X0.here hx rfl (hb hby d1_0) rfl ?_
    refine XS.tswIn X0.here hx rfl (pc0 := 1) (pc' := 99) rfl (hb hby d1_1) rfl (by decide) (o := 98) (by decide) (by decide) (by decide) ?_
    refine st1 _ ?_
    show Steps p.tables e below (T1.setTop (mkF m 102 #[.val (.ref b), .val (.int (3 : Int32))] [(.ref b1)])) _
    refine XS.dup X1.here hx rfl (hb hby d1_102) rfl rfl ?_
    refine XS.iconst X1.here hx rfl (hb hby d1_103) ?_
    refine st2 _ ?_
    refine XS.dup X2.here hx rfl (hb hby d1_106) rfl rfl ?_
    refine XS.iconst X2.here hx rfl (hb hby d1_107) ?_
    refine XS.aloadN X2.here hx rfl (hb hby d1_108) rfl rfl ?_
    refine XS.iconst X2.here hx rfl (hb hby d1_109) ?_
    show Steps p.tables e below (T2.setTop (mkF m 110 #[.val (.ref b), .val (.int (3 : Int32))] [(.int (0 : Int32)), (.ref b), (.int (0 : Int32)), (.ref b2), (.ref b2), (.ref b1), (.ref b1)])) _
    refine X2.caload hx (j := (0 : Int32)) (v := (.int sg0)) (by rw [e2]; exact Ar110_3.1) (State.isArrayOf_alike hZ.alike Ar110_3.2.1) Ar110_3.2.2 hin110_3 hat110_3 (g := (mkF m 110 #[.val (.ref b), .val (.int (3 : Int32))] [(.int (0 : Int32)), (.ref b), (.int (0 : Int32)), (.ref b2), (.ref b2), (.ref b1), (.ref b1)])) rfl rfl (hb hby d1_110) _ ?_
    refine st5 _ ?_
    refine XS.dup X5.here hx rfl (hb hby d1_112) rfl rfl ?_
    refine XS.iconst X5.here hx rfl (hb hby d1_113) ?_
    refine XS.aloadN X5.here hx rfl (hb hby d1_114) rfl rfl ?_
    refine XS.iconst X5.here hx rfl (hb hby d1_115) ?_
    show Steps p.tables e below (T5.setTop (mkF m 116 #[.val (.ref b), .val (.int (3 : Int32))] [(.int (1 : Int32)), (.ref b), (.int (1 : Int32)), (.ref b2), (.ref b2), (.ref b1), (.ref b1)])) _
    refine X5.caload hx (j := (1 : Int32)) (v := (.int sg1)) (by rw [e5]; exact Ar116_6.1) (State.isArrayOf_alike hZ.alike Ar116_6.2.1) Ar116_6.2.2 hin116_6 hat116_6 (g := (mkF m 116 #[.val (.ref b), .val (.int (3 : Int32))] [(.int (1 : Int32)), (.ref b), (.int (1 : Int32)), (.ref b2), (.ref b2), (.ref b1), (.ref b1)])) rfl rfl (hb hby d1_116) _ ?_
    refine st8 _ ?_
    refine XS.dup X8.here hx rfl (hb hby d1_118) rfl rfl ?_
    refine XS.iconst X8.here hx rfl (hb hby d1_119) ?_
    refine XS.aloadN X8.here hx rfl (hb hby d1_120) rfl rfl ?_
    refine XS.iconst X8.here hx rfl (hb hby d1_121) ?_
    show Steps p.tables e below (T8.setTop (mkF m 122 #[.val (.ref b), .val (.int (3 : Int32))] [(.int (2 : Int32)), (.ref b), (.int (2 : Int32)), (.ref b2), (.ref b2), (.ref b1), (.ref b1)])) _
    refine X8.caload hx (j := (2 : Int32)) (v := (.int sg2)) (by rw [e8]; exact Ar122_9.1) (State.isArrayOf_alike hZ.alike Ar122_9.2.1) Ar122_9.2.2 hin122_9 hat122_9 (g := (mkF m 122 #[.val (.ref b), .val (.int (3 : Int32))] [(.int (2 : Int32)), (.ref b), (.int (2 : Int32)), (.ref b2), (.ref b2), (.ref b1), (.ref b1)])) rfl rfl (hb hby d1_122) _ ?_
    refine st11 _ ?_
    refine st12.trans ?_
    show Steps p.tables e below (T12.setTop (mkF m 127 #[.val (.ref b), .val (.int (3 : Int32))] [(.ref b1)])) _
    exact kt
  obtain ⟨fs, hr, hrun, hended, hW, hsame⟩ := X12.leave (v := some (.ref b1)) (fun h => by rw [Bd.returns] at h; cases h)
  refine ⟨_, _, k13 _ ?_, hrun, hended, _, _, rfl, ?_, ⟨_, rfl⟩, hW, hsame.mono (by decide) (by decide)⟩
  · exact own_retA X12 hx Bd.returns rfl (hb hby d1_127) hr
  · show QStr Z [sg0, sg1, sg2] h0 n0 _ T12.heap _
    exact ⟨N12, KP12, b1, bt12, kb12, rfl, sz_b1, E12x, C12x, F12x, V12x⟩
theorem d1_128 : decode method_2_code 128 = .ok (.new 7, 3) := by decide +kernel
theorem d1_131 : decode method_2_code 131 = .ok (.dup, 1) := by decide +kernel
theorem d1_132 : decode method_2_code 132 = .ok (.iconst 4, 1) := by decide +kernel
theorem d1_133 : decode method_2_code 133 = .ok (.newarray .char, 2) := by decide +kernel
theorem d1_135 : decode method_2_code 135 = .ok (.dup, 1) := by decide +kernel
theorem d1_136 : decode method_2_code 136 = .ok (.iconst 0, 1) := by decide +kernel
theorem d1_137 : decode method_2_code 137 = .ok (.aload_n 0, 1) := by decide +kernel
theorem d1_138 : decode method_2_code 138 = .ok (.iconst 0, 1) := by decide +kernel
theorem d1_139 : decode method_2_code 139 = .ok (.caload, 1) := by decide +kernel
theorem d1_140 : decode method_2_code 140 = .ok (.castore, 1) := by decide +kernel
theorem d1_141 : decode method_2_code 141 = .ok (.dup, 1) := by decide +kernel
theorem d1_142 : decode method_2_code 142 = .ok (.iconst 1, 1) := by decide +kernel
theorem d1_143 : decode method_2_code 143 = .ok (.aload_n 0, 1) := by decide +kernel
theorem d1_144 : decode method_2_code 144 = .ok (.iconst 1, 1) := by decide +kernel
theorem d1_145 : decode method_2_code 145 = .ok (.caload, 1) := by decide +kernel
theorem d1_146 : decode method_2_code 146 = .ok (.castore, 1) := by decide +kernel
theorem d1_147 : decode method_2_code 147 = .ok (.dup, 1) := by decide +kernel
theorem d1_148 : decode method_2_code 148 = .ok (.iconst 2, 1) := by decide +kernel
theorem d1_149 : decode method_2_code 149 = .ok (.aload_n 0, 1) := by decide +kernel
theorem d1_150 : decode method_2_code 150 = .ok (.iconst 2, 1) := by decide +kernel
theorem d1_151 : decode method_2_code 151 = .ok (.caload, 1) := by decide +kernel
theorem d1_152 : decode method_2_code 152 = .ok (.castore, 1) := by decide +kernel
theorem d1_153 : decode method_2_code 153 = .ok (.dup, 1) := by decide +kernel
theorem d1_154 : decode method_2_code 154 = .ok (.iconst 3, 1) := by decide +kernel
theorem d1_155 : decode method_2_code 155 = .ok (.aload_n 0, 1) := by decide +kernel
theorem d1_156 : decode method_2_code 156 = .ok (.iconst 3, 1) := by decide +kernel
theorem d1_157 : decode method_2_code 157 = .ok (.caload, 1) := by decide +kernel
theorem d1_158 : decode method_2_code 158 = .ok (.castore, 1) := by decide +kernel
theorem d1_159 : decode method_2_code 159 = .ok (.invokespecial 9, 3) := by decide +kernel
theorem d1_162 : decode method_2_code 162 = .ok (.areturn, 1) := by decide +kernel
theorem ef_rmStr4 (m : MethodId) (b : Addr) : entryFrame m #[(.ref b), (.int (4 : Int32))] 2 = mkF m 0 #[.val (.ref b), .val (.int (4 : Int32))] [] := by first | (simp [entryFrame, mkF, argsToLocals, Value.category]; done) | rfl
set_option maxRecDepth 65536 in
set_option maxHeartbeats 40000000 in
theorem rmStr4 (l : Launch) (Z : State) (a0 : Array Value) (hw : ∀ d ∈ tables_1, d.before a0 Z = true) (ws : List Jvm.Cond) (b : Addr) (kc : ClassId) (cz : Int32) (sg0 sg1 sg2 sg3 sg4 sg5 sg6 sg7 : Int32) (h0 : Heap) (n0 : Nat) (Z0 : n0 ≤ h0.size) (Vb : Arv Z h0 b kc .char (8 : Int32) [(.int sg0), (.int sg1), (.int sg2), (.int sg3), (.int sg4), (.int sg5), (.int sg6), (.int sg7)] (.int (0 : Int32))) (ok0 : ok sg0) (ok1 : ok sg1) (ok2 : ok sg2) (ok3 : ok sg3) (ok4 : ok sg4) (ok5 : ok sg5) (ok6 : ok sg6) (ok7 : ok sg7) (S_cs : Sta Z h0 "java/lang/String" "COMPACT_STRINGS" "Z" (.int cz)) (hcz : ¬ cz = 0) :
    MetFree l (⟨"com/example/lifetable/lifetable/output/ExportFormatNamedPinLaw", "str", "([CI)Ljava/lang/String;"⟩ : MethodName) (head1 (Jvm.Cond.code (⟨"com/example/lifetable/lifetable/output/ExportFormatNamedPinLaw", "str", "([CI)Ljava/lang/String;"⟩ : MethodName) method_2_code 2 (some (.object "java/lang/String")) :: ws) ({ frames := 4, cells := 3, slots := 12, locals := 66 } : Room)) (fun a_ U_ => a_ = #[(.ref b), (.int (4 : Int32))] ∧ Z.Warmed39 U_.vm ∧ U_.heap = h0) (fun _ _ _ _ _ => True) (fun _ U_ o_ U'_ => ∃ v_ L_, o_ = .returned v_ ∧ QStr Z [sg0, sg1, sg2, sg3] h0 n0 v_ U'_.heap L_ ∧ FrameEnd U_ o_ U'_ L_ ({ frames := 4, cells := 3, slots := 12, locals := 66 } : Room).cells ({ frames := 4, cells := 3, slots := 12, locals := 66 } : Room).slots) := by
  refine MetFree.of_bodySF (plainFor_of_name pn_1) hisR ?_
  intro p e s m args below meth c s₁ Bd hml0 hP hK
  obtain ⟨rfl, hZ, hh⟩ := hP
  have hx := Bd.exec
  have hby := Bd.bytes
  have hml : c.maxLocals = 2 := hml0
  have hown : s.vm.findClass "com/example/lifetable/lifetable/output/ExportFormatNamedPinLaw" = some m.cls := findClass_of_methodNamed Bd.named
  have hnm := (name_of_methodNamed Bd.named Bd.method).1
  have X0 : Stand p l e ({ frames := 4, cells := 3, slots := 12, locals := 66 } : Room) s m #[(.ref b), (.int (4 : Int32))] below meth c s₁ [] 0 0 := Stand.of_body Bd
  have e0 : s₁.heap = h0 := by rw [← hh, Bd.state]; rfl
  have N0 := Fr.nil n0
  have k0 : ∀ tg, Steps p.tables e below (s₁.setTop (mkF m 0 #[.val (.ref b), .val (.int (4 : Int32))] [])) tg → Steps p.tables e below (s₁.setTop (entryFrame m #[(.ref b), (.int (4 : Int32))] 2)) tg := fun tg kq_ => castTop (ef_rmStr4 m b) kq_
  obtain ⟨T1, h1, X1, e1, E1, A1, D1, -, st1⟩ := newO X0 hx hZ hown (ww hw 6 rfl) (ww hw 7 rfl) (ww hw 8 rfl) e0 (g := (mkF m 128 #[.val (.ref b), .val (.int (4 : Int32))] [])) rfl (hb hby d1_128) (by decide) (by decide)
  obtain ⟨b1, g1⟩ : ∃ z, z = h0.size := ⟨_, rfl⟩
  have ne_b_b1 : b ≠ b1 := Nat.ne_of_lt (Nat.lt_of_lt_of_le Vb.lt (Nat.le_of_eq g1.symm))
  have g_b1 : n0 ≤ b1 := Nat.le_trans Z0 (Nat.le_of_eq g1.symm)
  have sz_b1 : h0.size ≤ b1 := Nat.le_trans (Keep.refl h0 []).1 (Nat.le_of_eq g1.symm)
  rw [← g1] at A1 D1 st1
  have V1_b := Vb.ext E1
  have Z1 := Nat.le_trans Z0 E1.1
  have KP1 := (Keep.refl h0 []).ext E1
  have F_coder_b1 : Fld Z h1 b1 "java/lang/String" "coder" "B" (.int (0 : Int32)) := D1 (Or.inr (ww hw 32 rfl)) (ty := .byte) (by decide)
  have F_value_b1 : Fld Z h1 b1 "java/lang/String" "value" "[B" .null := D1 (Or.inr (ww hw 34 rfl)) (ty := (.array .byte)) (by decide)
  obtain ⟨T2, h2, c2, X2, e2, E2, A2, st2⟩ := newP X1 hx hZ (ww hw 0 rfl) e1 (g := (mkF m 133 #[.val (.ref b), .val (.int (4 : Int32))] [(.int (4 : Int32)), (.ref b1), (.ref b1)])) rfl (hb hby d1_133) rfl (by decide) (cap := 4) (by decide) (by decide) (by decide) (by decide)
  obtain ⟨b2, g2⟩ : ∃ z, z = h1.size := ⟨_, rfl⟩
  have ne_b_b2 : b ≠ b2 := Nat.ne_of_lt (Nat.lt_of_lt_of_le V1_b.lt (Nat.le_of_eq g2.symm))
  have ne_b1_b2 : b1 ≠ b2 := Nat.ne_of_lt (Nat.lt_of_lt_of_le A1.lt (Nat.le_of_eq g2.symm))
  have g_b2 : n0 ≤ b2 := Nat.le_trans Z1 (Nat.le_of_eq g2.symm)
  have sz_b2 : h0.size ≤ b2 := Nat.le_trans KP1.1 (Nat.le_of_eq g2.symm)
  rw [← g2] at A2 st2
  have V2_b := V1_b.ext E2
  have E2_b1 := A1.ext E2
  have F2_b1_coder := F_coder_b1.ext E2
  have F2_b1_value := F_value_b1.ext E2
  have Z2 := Nat.le_trans Z1 E2.1
  have KP2 := KP1.ext E2
  have V_b2 : Arv Z h2 b2 c2 .char (4 : Int32) [(.int (0 : Int32)), (.int (0 : Int32)), (.int (0 : Int32)), (.int (0 : Int32))] (.int (0 : Int32)) := (Arv.new A2 (by decide)).pad (pad_rep [] (.int (0 : Int32)) 4)
  obtain ⟨cl139_3, Ar139_3, q139_3, S139_3, N139_3_, H139_3, G139_3⟩ := id V2_b
  have hin139_3 : ¬ ((0 : Int32) < 0 ∨ cl139_3.slots.size ≤ ((0 : Int32)).toNatClampNeg) := inb_of S139_3 ⟨by decide, by decide⟩
  have hat139_3 : cl139_3.slots[((0 : Int32)).toNatClampNeg]? = some (.int sg0) := H139_3.at hin139_3 rfl
  obtain ⟨cl140_4, Ar140_4, q140_4, S140_4, N140_4_, H140_4, G140_4⟩ := id V_b2
  have hin140_4 : ¬ ((0 : Int32) < 0 ∨ cl140_4.slots.size ≤ ((0 : Int32)).toNatClampNeg) := inb_of S140_4 ⟨by decide, by decide⟩
  obtain ⟨T5, h5, X5, e5, W5, st5⟩ := stC X2 hx hZ e2 Ar140_4 (j := (0 : Int32)) hin140_4 (g := (mkF m 140 #[.val (.ref b), .val (.int (4 : Int32))] [(.int sg0), (.int (0 : Int32)), (.ref b2), (.ref b2), (.ref b1), (.ref b1)])) rfl rfl (hb hby d1_140)
  have V5_b := V2_b.other W5 ne_b_b2
  have E5_b1 := E2_b1.wr W5
  have F5_b1_coder := F2_b1_coder.other W5 (Or.inl ne_b1_b2)
  have F5_b1_value := F2_b1_value.other W5 (Or.inl ne_b1_b2)
  have Z5 := Nat.le_trans Z2 (Keep.of_wr W5).1
  have KP5 := KP2.wr W5 (Or.inr sz_b2)
  have N5 := Fr.snoc X5 N0 g_b2
  have V5_b2 : Arv Z h5 b2 c2 .char (4 : Int32) [(.int (nar .char sg0)), (.int (0 : Int32)), (.int (0 : Int32)), (.int (0 : Int32))] (.int (0 : Int32)) := Arv.set Ar140_4 q140_4 S140_4 N140_4_ H140_4 G140_4 (fits_nar_char _) W5 0 rfl (Nat.le_of_ble_eq_true rfl)
  obtain ⟨cl145_6, Ar145_6, q145_6, S145_6, N145_6_, H145_6, G145_6⟩ := id V5_b
  have hin145_6 : ¬ ((1 : Int32) < 0 ∨ cl145_6.slots.size ≤ ((1 : Int32)).toNatClampNeg) := inb_of S145_6 ⟨by decide, by decide⟩
  have hat145_6 : cl145_6.slots[((1 : Int32)).toNatClampNeg]? = some (.int sg1) := H145_6.at hin145_6 rfl
  obtain ⟨cl146_7, Ar146_7, q146_7, S146_7, N146_7_, H146_7, G146_7⟩ := id V5_b2
  have hin146_7 : ¬ ((1 : Int32) < 0 ∨ cl146_7.slots.size ≤ ((1 : Int32)).toNatClampNeg) := inb_of S146_7 ⟨by decide, by decide⟩
  obtain ⟨T8, h8, X8, e8, W8, st8⟩ := stC X5 hx hZ e5 Ar146_7 (j := (1 : Int32)) hin146_7 (g := (mkF m 146 #[.val (.ref b), .val (.int (4 : Int32))] [(.int sg1), (.int (1 : Int32)), (.ref b2), (.ref b2), (.ref b1), (.ref b1)])) rfl rfl (hb hby d1_146)
  have V8_b := V5_b.other W8 ne_b_b2
  have E8_b1 := E5_b1.wr W8
  have F8_b1_coder := F5_b1_coder.other W8 (Or.inl ne_b1_b2)
  have F8_b1_value := F5_b1_value.other W8 (Or.inl ne_b1_b2)
  have Z8 := Nat.le_trans Z5 (Keep.of_wr W8).1
  have KP8 := KP5.wr W8 (Or.inr sz_b2)
  have N8 := Fr.snoc X8 N5 g_b2
  have V8_b2 : Arv Z h8 b2 c2 .char (4 : Int32) [(.int (nar .char sg0)), (.int (nar .char sg1)), (.int (0 : Int32)), (.int (0 : Int32))] (.int (0 : Int32)) := Arv.set Ar146_7 q146_7 S146_7 N146_7_ H146_7 G146_7 (fits_nar_char _) W8 1 rfl (Nat.le_of_ble_eq_true rfl)
  obtain ⟨cl151_9, Ar151_9, q151_9, S151_9, N151_9_, H151_9, G151_9⟩ := id V8_b
  have hin151_9 : ¬ ((2 : Int32) < 0 ∨ cl151_9.slots.size ≤ ((2 : Int32)).toNatClampNeg) := inb_of S151_9 ⟨by decide, by decide⟩
  have hat151_9 : cl151_9.slots[((2 : Int32)).toNatClampNeg]? = some (.int sg2) := H151_9.at hin151_9 rfl
  obtain ⟨cl152_10, Ar152_10, q152_10, S152_10, N152_10_, H152_10, G152_10⟩ := id V8_b2
  have hin152_10 : ¬ ((2 : Int32) < 0 ∨ cl152_10.slots.size ≤ ((2 : Int32)).toNatClampNeg) := inb_of S152_10 ⟨by decide, by decide⟩
  obtain ⟨T11, h11, X11, e11, W11, st11⟩ := stC X8 hx hZ e8 Ar152_10 (j := (2 : Int32)) hin152_10 (g := (mkF m 152 #[.val (.ref b), .val (.int (4 : Int32))] [(.int sg2), (.int (2 : Int32)), (.ref b2), (.ref b2), (.ref b1), (.ref b1)])) rfl rfl (hb hby d1_152)
  have V11_b := V8_b.other W11 ne_b_b2
  have E11_b1 := E8_b1.wr W11
  have F11_b1_coder := F8_b1_coder.other W11 (Or.inl ne_b1_b2)
  have F11_b1_value := F8_b1_value.other W11 (Or.inl ne_b1_b2)
  have Z11 := Nat.le_trans Z8 (Keep.of_wr W11).1
  have KP11 := KP8.wr W11 (Or.inr sz_b2)
  have N11 := Fr.snoc X11 N8 g_b2
  have V11_b2 : Arv Z h11 b2 c2 .char (4 : Int32) [(.int (nar .char sg0)), (.int (nar .char sg1)), (.int (nar .char sg2)), (.int (0 : Int32))] (.int (0 : Int32)) := Arv.set Ar152_10 q152_10 S152_10 N152_10_ H152_10 G152_10 (fits_nar_char _) W11 2 rfl (Nat.le_of_ble_eq_true rfl)
  obtain ⟨cl157_12, Ar157_12, q157_12, S157_12, N157_12_, H157_12, G157_12⟩ := id V11_b
  have hin157_12 : ¬ ((3 : Int32) < 0 ∨ cl157_12.slots.size ≤ ((3 : Int32)).toNatClampNeg) := inb_of S157_12 ⟨by decide, by decide⟩
  have hat157_12 : cl157_12.slots[((3 : Int32)).toNatClampNeg]? = some (.int sg3) := H157_12.at hin157_12 rfl
  obtain ⟨cl158_13, Ar158_13, q158_13, S158_13, N158_13_, H158_13, G158_13⟩ := id V11_b2
  have hin158_13 : ¬ ((3 : Int32) < 0 ∨ cl158_13.slots.size ≤ ((3 : Int32)).toNatClampNeg) := inb_of S158_13 ⟨by decide, by decide⟩
  obtain ⟨T14, h14, X14, e14, W14, st14⟩ := stC X11 hx hZ e11 Ar158_13 (j := (3 : Int32)) hin158_13 (g := (mkF m 158 #[.val (.ref b), .val (.int (4 : Int32))] [(.int sg3), (.int (3 : Int32)), (.ref b2), (.ref b2), (.ref b1), (.ref b1)])) rfl rfl (hb hby d1_158)
  have V14_b := V11_b.other W14 ne_b_b2
  have E14_b1 := E11_b1.wr W14
  have F14_b1_coder := F11_b1_coder.other W14 (Or.inl ne_b1_b2)
  have F14_b1_value := F11_b1_value.other W14 (Or.inl ne_b1_b2)
  have Z14 := Nat.le_trans Z11 (Keep.of_wr W14).1
  have KP14 := KP11.wr W14 (Or.inr sz_b2)
  have N14 := Fr.snoc X14 N11 g_b2
  have V14_b2 : Arv Z h14 b2 c2 .char (4 : Int32) [(.int (nar .char sg0)), (.int (nar .char sg1)), (.int (nar .char sg2)), (.int (nar .char sg3))] (.int (0 : Int32)) := Arv.set Ar158_13 q158_13 S158_13 N158_13_ H158_13 G158_13 (fits_nar_char _) W14 3 rfl (Nat.le_of_ble_eq_true rfl)
  have Vc : Arv Z h14 b2 c2 .char (4 : Int32) [(.int sg0), (.int sg1), (.int sg2), (.int sg3)] (.int (0 : Int32)) := by
    have q := V14_b2
    rw [own_narc sg0 ok0, own_narc sg1 ok1, own_narc sg2 ok2, own_narc sg3 ok3] at q
    exact q
  have hp : ∀ c ∈ ([sg0, sg1, sg2, sg3] : List Int32), ¬ c < 0 ∧ ¬ (255 : Int32) < c := by
    intro c hc
    simp only [List.mem_cons, List.not_mem_nil, or_false] at hc
    rcases hc with rfl | rfl | rfl | rfl <;> assumption
  have hws : ∀ d ∈ StrChars.Road.words, d.before a0 Z = true := fun d hd => hw d ((by decide +kernel : ∀ d ∈ StrChars.Road.words, d ∈ tables_1) d hd)
  obtain ⟨_, _, ⟨T15, L15, k15, n15⟩, -, X15, ⟨Lc15, hQ15, l15, y15, z15⟩, st15⟩ := X14.specialBack hx (y := (⟨"java/lang/String", "<init>", "([C)V"⟩ : MethodName)) rfl hown (mvT hZ (ww hw 9 rfl)) (mvT hZ (ww hw 10 rfl)) (mvT hZ (ww hw 11 rfl)) (by decide) (StrChars.Road.backV (W := 1) hZ hws (kI := 4) (ww hw 7 rfl) (cs := ([sg0, sg1, sg2, sg3] : List Int32)) (bs := ([sg0, sg1, sg2, sg3] : List Int32).map (fun c => c.toInt8.toInt32)) (n := 4) g_b1 Z14 E14_b1 F14_b1_value F14_b1_coder Vc (S_cs.ext (own_extK KP14)) hcz rfl rfl (by decide) (by decide) hp rfl (by decide) (by decide)) (g := (mkF m 159 #[.val (.ref b), .val (.int (4 : Int32))] [(.ref b2), (.ref b1), (.ref b1)])) rfl (by rw [hml]; rfl) (Steps.refl _) (a := b1) (argsL := [(.ref b2)]) (rest := [(.ref b1)]) (lenOf pd_0 rfl) rfl (by show 2 * 0 + _ ≤ _; exact Nat.le_of_eq rfl) (hb hby d1_159) (fun _ _ => ⟨rfl, e14, (by decide : 2 + 1 ≤ _), (by decide : 8 + 4 ≤ _)⟩)
  dsimp only [Pt.U, Pt.locs, Pt.cells, Pt.slots] at X15 l15 y15 z15 st15 hQ15
  subst l15 y15 z15
  obtain ⟨rfl, N15q, K15, E15x, C15x, bt15, kb15, -, le15, -, F15x, V15x⟩ := hQ15
  have N15 := Fr.app N14 N15q
  have ne_b_bt15 : b ≠ bt15 := Nat.ne_of_lt (Nat.lt_of_lt_of_le V14_b.lt le15)
  have ne_b1_bt15 : b1 ≠ bt15 := Nat.ne_of_lt (Nat.lt_of_lt_of_le E14_b1.lt le15)
  have ne_b2_bt15 : b2 ≠ bt15 := Nat.ne_of_lt (Nat.lt_of_lt_of_le V14_b2.lt le15)
  have g_bt15 : n0 ≤ bt15 := Nat.le_trans Z14 le15
  have sz_bt15 : h0.size ≤ bt15 := Nat.le_trans KP14.1 le15
  have V15_b2 := V14_b2.keep K15 (ninS (Ne.symm ne_b1_b2) nin0)
  have Z15 := Nat.le_trans Z14 K15.1
  have KP15 := KP14.trans K15 (allS (Or.inr sz_b1) all0)
  have k16 : ∀ tg, Steps p.tables e below (T15.setTop (mkF m 162 #[.val (.ref b), .val (.int (4 : Int32))] [(.ref b1)])) tg → Steps p.tables e below (s₁.setTop (entryFrame m #[(.ref b), (.int (4 : Int32))] 2)) tg := by
    intro tg kt
    refine k0 tg ?_
    show Steps p.tables e below (s₁.setTop (mkF m 0 #[.val (.ref b), .val (.int (4 : Int32))] [])) _
    refine XS.iloadN X0.here hx rfl (hb hby d1_0) rfl ?_
    refine XS.tswIn X0.here hx rfl (pc0 := 1) (pc' := 128) rfl (hb hby d1_1) rfl (by decide) (o := 127) (by decide) (by decide) (by decide) ?_
    refine st1 _ ?_
    show Steps p.tables e below (T1.setTop (mkF m 131 #[.val (.ref b), .val (.int (4 : Int32))] [(.ref b1)])) _
    refine XS.dup X1.here hx rfl (hb hby d1_131) rfl rfl ?_
    refine XS.iconst X1.here hx rfl (hb hby d1_132) ?_
    refine st2 _ ?_
    refine XS.dup X2.here hx rfl (hb hby d1_135) rfl rfl ?_
    refine XS.iconst X2.here hx rfl (hb hby d1_136) ?_
    refine XS.aloadN X2.here hx rfl (hb hby d1_137) rfl rfl ?_
    refine XS.iconst X2.here hx rfl (hb hby d1_138) ?_
    show Steps p.tables e below (T2.setTop (mkF m 139 #[.val (.ref b), .val (.int (4 : Int32))] [(.int (0 : Int32)), (.ref b), (.int (0 : Int32)), (.ref b2), (.ref b2), (.ref b1), (.ref b1)])) _
    refine X2.caload hx (j := (0 : Int32)) (v := (.int sg0)) (by rw [e2]; exact Ar139_3.1) (State.isArrayOf_alike hZ.alike Ar139_3.2.1) Ar139_3.2.2 hin139_3 hat139_3 (g := (mkF m 139 #[.val (.ref b), .val (.int (4 : Int32))] [(.int (0 : Int32)), (.ref b), (.int (0 : Int32)), (.ref b2), (.ref b2), (.ref b1), (.ref b1)])) rfl rfl (hb hby d1_139) _ ?_
    refine st5 _ ?_
    refine XS.dup X5.here hx rfl (hb hby d1_141) rfl rfl ?_
    refine XS.iconst X5.here hx rfl (hb hby d1_142) ?_
    refine XS.aloadN X5.here hx rfl (hb hby d1_143) rfl rfl ?_
    refine XS.iconst X5.here hx rfl (hb hby d1_144) ?_
    show Steps p.tables e below (T5.setTop (mkF m 145 #[.val (.ref b), .val (.int (4 : Int32))] [(.int (1 : Int32)), (.ref b), (.int (1 : Int32)), (.ref b2), (.ref b2), (.ref b1), (.ref b1)])) _
    refine X5.caload hx (j := (1 : Int32)) (v := (.int sg1)) (by rw [e5]; exact Ar145_6.1) (State.isArrayOf_alike hZ.alike Ar145_6.2.1) Ar145_6.2.2 hin145_6 hat145_6 (g := (mkF m 145 #[.val (.ref b), .val (.int (4 : Int32))] [(.int (1 : Int32)), (.ref b), (.int (1 : Int32)), (.ref b2), (.ref b2), (.ref b1), (.ref b1)])) rfl rfl (hb hby d1_145) _ ?_
    refine st8 _ ?_
    refine XS.dup X8.here hx rfl (hb hby d1_147) rfl rfl ?_
    refine XS.iconst X8.here hx rfl (hb hby d1_148) ?_
    refine XS.aloadN X8.here hx rfl (hb hby d1_149) rfl rfl ?_
    refine XS.iconst X8.here hx rfl (hb hby d1_150) ?_
    show Steps p.tables e below (T8.setTop (mkF m 151 #[.val (.ref b), .val (.int (4 : Int32))] [(.int (2 : Int32)), (.ref b), (.int (2 : Int32)), (.ref b2), (.ref b2), (.ref b1), (.ref b1)])) _
    refine X8.caload hx (j := (2 : Int32)) (v := (.int sg2)) (by rw [e8]; exact Ar151_9.1) (State.isArrayOf_alike hZ.alike Ar151_9.2.1) Ar151_9.2.2 hin151_9 hat151_9 (g := (mkF m 151 #[.val (.ref b), .val (.int (4 : Int32))] [(.int (2 : Int32)), (.ref b), (.int (2 : Int32)), (.ref b2), (.ref b2), (.ref b1), (.ref b1)])) rfl rfl (hb hby d1_151) _ ?_
    refine st11 _ ?_
    refine XS.dup X11.here hx rfl (hb hby d1_153) rfl rfl ?_
    refine XS.iconst X11.here hx rfl (hb hby d1_154) ?_
    refine XS.aloadN X11.here hx rfl (hb hby d1_155) rfl rfl ?_
    refine XS.iconst X11.here hx rfl (hb hby d1_156) ?_
    show Steps p.tables e below (T11.setTop (mkF m 157 #[.val (.ref b), .val (.int (4 : Int32))] [(.int (3 : Int32)), (.ref b), (.int (3 : Int32)), (.ref b2), (.ref b2), (.ref b1), (.ref b1)])) _
    refine X11.caload hx (j := (3 : Int32)) (v := (.int sg3)) (by rw [e11]; exact Ar157_12.1) (State.isArrayOf_alike hZ.alike Ar157_12.2.1) Ar157_12.2.2 hin157_12 hat157_12 (g := (mkF m 157 #[.val (.ref b), .val (.int (4 : Int32))] [(.int (3 : Int32)), (.ref b), (.int (3 : Int32)), (.ref b2), (.ref b2), (.ref b1), (.ref b1)])) rfl rfl (hb hby d1_157) _ ?_
    refine st14 _ ?_
    refine st15.trans ?_
    show Steps p.tables e below (T15.setTop (mkF m 162 #[.val (.ref b), .val (.int (4 : Int32))] [(.ref b1)])) _
    exact kt
  obtain ⟨fs, hr, hrun, hended, hW, hsame⟩ := X15.leave (v := some (.ref b1)) (fun h => by rw [Bd.returns] at h; cases h)
  refine ⟨_, _, k16 _ ?_, hrun, hended, _, _, rfl, ?_, ⟨_, rfl⟩, hW, hsame.mono (by decide) (by decide)⟩
  · exact own_retA X15 hx Bd.returns rfl (hb hby d1_162) hr
  · show QStr Z [sg0, sg1, sg2, sg3] h0 n0 _ T15.heap _
    exact ⟨N15, KP15, b1, bt15, kb15, rfl, sz_b1, E15x, C15x, F15x, V15x⟩
theorem d1_163 : decode method_2_code 163 = .ok (.new 7, 3) := by decide +kernel
theorem d1_166 : decode method_2_code 166 = .ok (.dup, 1) := by decide +kernel
theorem d1_167 : decode method_2_code 167 = .ok (.iconst 5, 1) := by decide +kernel
theorem d1_168 : decode method_2_code 168 = .ok (.newarray .char, 2) := by decide +kernel
theorem d1_170 : decode method_2_code 170 = .ok (.dup, 1) := by decide +kernel
theorem d1_171 : decode method_2_code 171 = .ok (.iconst 0, 1) := by decide +kernel
theorem d1_172 : decode method_2_code 172 = .ok (.aload_n 0, 1) := by decide +kernel
theorem d1_173 : decode method_2_code 173 = .ok (.iconst 0, 1) := by decide +kernel
theorem d1_174 : decode method_2_code 174 = .ok (.caload, 1) := by decide +kernel
theorem d1_175 : decode method_2_code 175 = .ok (.castore, 1) := by decide +kernel
theorem d1_176 : decode method_2_code 176 = .ok (.dup, 1) := by decide +kernel
theorem d1_177 : decode method_2_code 177 = .ok (.iconst 1, 1) := by decide +kernel
theorem d1_178 : decode method_2_code 178 = .ok (.aload_n 0, 1) := by decide +kernel
theorem d1_179 : decode method_2_code 179 = .ok (.iconst 1, 1) := by decide +kernel
theorem d1_180 : decode method_2_code 180 = .ok (.caload, 1) := by decide +kernel
theorem d1_181 : decode method_2_code 181 = .ok (.castore, 1) := by decide +kernel
theorem d1_182 : decode method_2_code 182 = .ok (.dup, 1) := by decide +kernel
theorem d1_183 : decode method_2_code 183 = .ok (.iconst 2, 1) := by decide +kernel
theorem d1_184 : decode method_2_code 184 = .ok (.aload_n 0, 1) := by decide +kernel
theorem d1_185 : decode method_2_code 185 = .ok (.iconst 2, 1) := by decide +kernel
theorem d1_186 : decode method_2_code 186 = .ok (.caload, 1) := by decide +kernel
theorem d1_187 : decode method_2_code 187 = .ok (.castore, 1) := by decide +kernel
theorem d1_188 : decode method_2_code 188 = .ok (.dup, 1) := by decide +kernel
theorem d1_189 : decode method_2_code 189 = .ok (.iconst 3, 1) := by decide +kernel
theorem d1_190 : decode method_2_code 190 = .ok (.aload_n 0, 1) := by decide +kernel
theorem d1_191 : decode method_2_code 191 = .ok (.iconst 3, 1) := by decide +kernel
theorem d1_192 : decode method_2_code 192 = .ok (.caload, 1) := by decide +kernel
theorem d1_193 : decode method_2_code 193 = .ok (.castore, 1) := by decide +kernel
theorem d1_194 : decode method_2_code 194 = .ok (.dup, 1) := by decide +kernel
theorem d1_195 : decode method_2_code 195 = .ok (.iconst 4, 1) := by decide +kernel
theorem d1_196 : decode method_2_code 196 = .ok (.aload_n 0, 1) := by decide +kernel
theorem d1_197 : decode method_2_code 197 = .ok (.iconst 4, 1) := by decide +kernel
theorem d1_198 : decode method_2_code 198 = .ok (.caload, 1) := by decide +kernel
theorem d1_199 : decode method_2_code 199 = .ok (.castore, 1) := by decide +kernel
theorem d1_200 : decode method_2_code 200 = .ok (.invokespecial 9, 3) := by decide +kernel
theorem d1_203 : decode method_2_code 203 = .ok (.areturn, 1) := by decide +kernel
theorem ef_rmStr5 (m : MethodId) (b : Addr) : entryFrame m #[(.ref b), (.int (5 : Int32))] 2 = mkF m 0 #[.val (.ref b), .val (.int (5 : Int32))] [] := by first | (simp [entryFrame, mkF, argsToLocals, Value.category]; done) | rfl
set_option maxRecDepth 65536 in
set_option maxHeartbeats 40000000 in
theorem rmStr5 (l : Launch) (Z : State) (a0 : Array Value) (hw : ∀ d ∈ tables_1, d.before a0 Z = true) (ws : List Jvm.Cond) (b : Addr) (kc : ClassId) (cz : Int32) (sg0 sg1 sg2 sg3 sg4 sg5 sg6 sg7 : Int32) (h0 : Heap) (n0 : Nat) (Z0 : n0 ≤ h0.size) (Vb : Arv Z h0 b kc .char (8 : Int32) [(.int sg0), (.int sg1), (.int sg2), (.int sg3), (.int sg4), (.int sg5), (.int sg6), (.int sg7)] (.int (0 : Int32))) (ok0 : ok sg0) (ok1 : ok sg1) (ok2 : ok sg2) (ok3 : ok sg3) (ok4 : ok sg4) (ok5 : ok sg5) (ok6 : ok sg6) (ok7 : ok sg7) (S_cs : Sta Z h0 "java/lang/String" "COMPACT_STRINGS" "Z" (.int cz)) (hcz : ¬ cz = 0) :
    MetFree l (⟨"com/example/lifetable/lifetable/output/ExportFormatNamedPinLaw", "str", "([CI)Ljava/lang/String;"⟩ : MethodName) (head1 (Jvm.Cond.code (⟨"com/example/lifetable/lifetable/output/ExportFormatNamedPinLaw", "str", "([CI)Ljava/lang/String;"⟩ : MethodName) method_2_code 2 (some (.object "java/lang/String")) :: ws) ({ frames := 4, cells := 3, slots := 14, locals := 66 } : Room)) (fun a_ U_ => a_ = #[(.ref b), (.int (5 : Int32))] ∧ Z.Warmed39 U_.vm ∧ U_.heap = h0) (fun _ _ _ _ _ => True) (fun _ U_ o_ U'_ => ∃ v_ L_, o_ = .returned v_ ∧ QStr Z [sg0, sg1, sg2, sg3, sg4] h0 n0 v_ U'_.heap L_ ∧ FrameEnd U_ o_ U'_ L_ ({ frames := 4, cells := 3, slots := 14, locals := 66 } : Room).cells ({ frames := 4, cells := 3, slots := 14, locals := 66 } : Room).slots) := by
  refine MetFree.of_bodySF (plainFor_of_name pn_1) hisR ?_
  intro p e s m args below meth c s₁ Bd hml0 hP hK
  obtain ⟨rfl, hZ, hh⟩ := hP
  have hx := Bd.exec
  have hby := Bd.bytes
  have hml : c.maxLocals = 2 := hml0
  have hown : s.vm.findClass "com/example/lifetable/lifetable/output/ExportFormatNamedPinLaw" = some m.cls := findClass_of_methodNamed Bd.named
  have hnm := (name_of_methodNamed Bd.named Bd.method).1
  have X0 : Stand p l e ({ frames := 4, cells := 3, slots := 14, locals := 66 } : Room) s m #[(.ref b), (.int (5 : Int32))] below meth c s₁ [] 0 0 := Stand.of_body Bd
  have e0 : s₁.heap = h0 := by rw [← hh, Bd.state]; rfl
  have N0 := Fr.nil n0
  have k0 : ∀ tg, Steps p.tables e below (s₁.setTop (mkF m 0 #[.val (.ref b), .val (.int (5 : Int32))] [])) tg → Steps p.tables e below (s₁.setTop (entryFrame m #[(.ref b), (.int (5 : Int32))] 2)) tg := fun tg kq_ => castTop (ef_rmStr5 m b) kq_
  obtain ⟨T1, h1, X1, e1, E1, A1, D1, -, st1⟩ := newO X0 hx hZ hown (ww hw 6 rfl) (ww hw 7 rfl) (ww hw 8 rfl) e0 (g := (mkF m 163 #[.val (.ref b), .val (.int (5 : Int32))] [])) rfl (hb hby d1_163) (by decide) (by decide)
  obtain ⟨b1, g1⟩ : ∃ z, z = h0.size := ⟨_, rfl⟩
  have ne_b_b1 : b ≠ b1 := Nat.ne_of_lt (Nat.lt_of_lt_of_le Vb.lt (Nat.le_of_eq g1.symm))
  have g_b1 : n0 ≤ b1 := Nat.le_trans Z0 (Nat.le_of_eq g1.symm)
  have sz_b1 : h0.size ≤ b1 := Nat.le_trans (Keep.refl h0 []).1 (Nat.le_of_eq g1.symm)
  rw [← g1] at A1 D1 st1
  have V1_b := Vb.ext E1
  have Z1 := Nat.le_trans Z0 E1.1
  have KP1 := (Keep.refl h0 []).ext E1
  have F_coder_b1 : Fld Z h1 b1 "java/lang/String" "coder" "B" (.int (0 : Int32)) := D1 (Or.inr (ww hw 32 rfl)) (ty := .byte) (by decide)
  have F_value_b1 : Fld Z h1 b1 "java/lang/String" "value" "[B" .null := D1 (Or.inr (ww hw 34 rfl)) (ty := (.array .byte)) (by decide)
  obtain ⟨T2, h2, c2, X2, e2, E2, A2, st2⟩ := newP X1 hx hZ (ww hw 0 rfl) e1 (g := (mkF m 168 #[.val (.ref b), .val (.int (5 : Int32))] [(.int (5 : Int32)), (.ref b1), (.ref b1)])) rfl (hb hby d1_168) rfl (by decide) (cap := 5) (by decide) (by decide) (by decide) (by decide)
  obtain ⟨b2, g2⟩ : ∃ z, z = h1.size := ⟨_, rfl⟩
  have ne_b_b2 : b ≠ b2 := Nat.ne_of_lt (Nat.lt_of_lt_of_le V1_b.lt (Nat.le_of_eq g2.symm))
  have ne_b1_b2 : b1 ≠ b2 := Nat.ne_of_lt (Nat.lt_of_lt_of_le A1.lt (Nat.le_of_eq g2.symm))
  have g_b2 : n0 ≤ b2 := Nat.le_trans Z1 (Nat.le_of_eq g2.symm)
  have sz_b2 : h0.size ≤ b2 := Nat.le_trans KP1.1 (Nat.le_of_eq g2.symm)
  rw [← g2] at A2 st2
  have V2_b := V1_b.ext E2
  have E2_b1 := A1.ext E2
  have F2_b1_coder := F_coder_b1.ext E2
  have F2_b1_value := F_value_b1.ext E2
  have Z2 := Nat.le_trans Z1 E2.1
  have KP2 := KP1.ext E2
  have V_b2 : Arv Z h2 b2 c2 .char (5 : Int32) [(.int (0 : Int32)), (.int (0 : Int32)), (.int (0 : Int32)), (.int (0 : Int32)), (.int (0 : Int32))] (.int (0 : Int32)) := (Arv.new A2 (by decide)).pad (pad_rep [] (.int (0 : Int32)) 5)
  obtain ⟨cl174_3, Ar174_3, q174_3, S174_3, N174_3_, H174_3, G174_3⟩ := id V2_b
  have hin174_3 : ¬ ((0 : Int32) < 0 ∨ cl174_3.slots.size ≤ ((0 : Int32)).toNatClampNeg) := inb_of S174_3 ⟨by decide, by decide⟩
  have hat174_3 : cl174_3.slots[((0 : Int32)).toNatClampNeg]? = some (.int sg0) := H174_3.at hin174_3 rfl
  obtain ⟨cl175_4, Ar175_4, q175_4, S175_4, N175_4_, H175_4, G175_4⟩ := id V_b2
  have hin175_4 : ¬ ((0 : Int32) < 0 ∨ cl175_4.slots.size ≤ ((0 : Int32)).toNatClampNeg) := inb_of S175_4 ⟨by decide, by decide⟩
  obtain ⟨T5, h5, X5, e5, W5, st5⟩ := stC X2 hx hZ e2 Ar175_4 (j := (0 : Int32)) hin175_4 (g := (mkF m 175 #[.val (.ref b), .val (.int (5 : Int32))] [(.int sg0), (.int (0 : Int32)), (.ref b2), (.ref b2), (.ref b1), (.ref b1)])) rfl rfl (hb hby d1_175)
  have V5_b := V2_b.other W5 ne_b_b2
  have E5_b1 := E2_b1.wr W5
  have F5_b1_coder := F2_b1_coder.other W5 (Or.inl ne_b1_b2)
  have F5_b1_value := F2_b1_value.other W5 (Or.inl ne_b1_b2)
  have Z5 := Nat.le_trans Z2 (Keep.of_wr W5).1
  have KP5 := KP2.wr W5 (Or.inr sz_b2)
  have N5 := Fr.snoc X5 N0 g_b2
  have V5_b2 : Arv Z h5 b2 c2 .char (5 : Int32) [(.int (nar .char sg0)), (.int (0 : Int32)), (.int (0 : Int32)), (.int (0 : Int32)), (.int (0 : Int32))] (.int (0 : Int32)) := Arv.set Ar175_4 q175_4 S175_4 N175_4_ H175_4 G175_4 (fits_nar_char _) W5 0 rfl (Nat.le_of_ble_eq_true rfl)
  obtain ⟨cl180_6, Ar180_6, q180_6, S180_6, N180_6_, H180_6, G180_6⟩ := id V5_b
  have hin180_6 : ¬ ((1 : Int32) < 0 ∨ cl180_6.slots.size ≤ ((1 : Int32)).toNatClampNeg) := inb_of S180_6 ⟨by decide, by decide⟩
  have hat180_6 : cl180_6.slots[((1 : Int32)).toNatClampNeg]? = some (.int sg1) := H180_6.at hin180_6 rfl
  obtain ⟨cl181_7, Ar181_7, q181_7, S181_7, N181_7_, H181_7, G181_7⟩ := id V5_b2
  have hin181_7 : ¬ ((1 : Int32) < 0 ∨ cl181_7.slots.size ≤ ((1 : Int32)).toNatClampNeg) := inb_of S181_7 ⟨by decide, by decide⟩
  obtain ⟨T8, h8, X8, e8, W8, st8⟩ := stC X5 hx hZ e5 Ar181_7 (j := (1 : Int32)) hin181_7 (g := (mkF m 181 #[.val (.ref b), .val (.int (5 : Int32))] [(.int sg1), (.int (1 : Int32)), (.ref b2), (.ref b2), (.ref b1), (.ref b1)])) rfl rfl (hb hby d1_181)
  have V8_b := V5_b.other W8 ne_b_b2
  have E8_b1 := E5_b1.wr W8
  have F8_b1_coder := F5_b1_coder.other W8 (Or.inl ne_b1_b2)
  have F8_b1_value := F5_b1_value.other W8 (Or.inl ne_b1_b2)
  have Z8 := Nat.le_trans Z5 (Keep.of_wr W8).1
  have KP8 := KP5.wr W8 (Or.inr sz_b2)
  have N8 := Fr.snoc X8 N5 g_b2
  have V8_b2 : Arv Z h8 b2 c2 .char (5 : Int32) [(.int (nar .char sg0)), (.int (nar .char sg1)), (.int (0 : Int32)), (.int (0 : Int32)), (.int (0 : Int32))] (.int (0 : Int32)) := Arv.set Ar181_7 q181_7 S181_7 N181_7_ H181_7 G181_7 (fits_nar_char _) W8 1 rfl (Nat.le_of_ble_eq_true rfl)
  obtain ⟨cl186_9, Ar186_9, q186_9, S186_9, N186_9_, H186_9, G186_9⟩ := id V8_b
  have hin186_9 : ¬ ((2 : Int32) < 0 ∨ cl186_9.slots.size ≤ ((2 : Int32)).toNatClampNeg) := inb_of S186_9 ⟨by decide, by decide⟩
  have hat186_9 : cl186_9.slots[((2 : Int32)).toNatClampNeg]? = some (.int sg2) := H186_9.at hin186_9 rfl
  obtain ⟨cl187_10, Ar187_10, q187_10, S187_10, N187_10_, H187_10, G187_10⟩ := id V8_b2
  have hin187_10 : ¬ ((2 : Int32) < 0 ∨ cl187_10.slots.size ≤ ((2 : Int32)).toNatClampNeg) := inb_of S187_10 ⟨by decide, by decide⟩
  obtain ⟨T11, h11, X11, e11, W11, st11⟩ := stC X8 hx hZ e8 Ar187_10 (j := (2 : Int32)) hin187_10 (g := (mkF m 187 #[.val (.ref b), .val (.int (5 : Int32))] [(.int sg2), (.int (2 : Int32)), (.ref b2), (.ref b2), (.ref b1), (.ref b1)])) rfl rfl (hb hby d1_187)
  have V11_b := V8_b.other W11 ne_b_b2
  have E11_b1 := E8_b1.wr W11
  have F11_b1_coder := F8_b1_coder.other W11 (Or.inl ne_b1_b2)
  have F11_b1_value := F8_b1_value.other W11 (Or.inl ne_b1_b2)
  have Z11 := Nat.le_trans Z8 (Keep.of_wr W11).1
  have KP11 := KP8.wr W11 (Or.inr sz_b2)
  have N11 := Fr.snoc X11 N8 g_b2
  have V11_b2 : Arv Z h11 b2 c2 .char (5 : Int32) [(.int (nar .char sg0)), (.int (nar .char sg1)), (.int (nar .char sg2)), (.int (0 : Int32)), (.int (0 : Int32))] (.int (0 : Int32)) := Arv.set Ar187_10 q187_10 S187_10 N187_10_ H187_10 G187_10 (fits_nar_char _) W11 2 rfl (Nat.le_of_ble_eq_true rfl)
  obtain ⟨cl192_12, Ar192_12, q192_12, S192_12, N192_12_, H192_12, G192_12⟩ := id V11_b
  have hin192_12 : ¬ ((3 : Int32) < 0 ∨ cl192_12.slots.size ≤ ((3 : Int32)).toNatClampNeg) := inb_of S192_12 ⟨by decide, by decide⟩
  have hat192_12 : cl192_12.slots[((3 : Int32)).toNatClampNeg]? = some (.int sg3) := H192_12.at hin192_12 rfl
  obtain ⟨cl193_13, Ar193_13, q193_13, S193_13, N193_13_, H193_13, G193_13⟩ := id V11_b2
  have hin193_13 : ¬ ((3 : Int32) < 0 ∨ cl193_13.slots.size ≤ ((3 : Int32)).toNatClampNeg) := inb_of S193_13 ⟨by decide, by decide⟩
  obtain ⟨T14, h14, X14, e14, W14, st14⟩ := stC X11 hx hZ e11 Ar193_13 (j := (3 : Int32)) hin193_13 (g := (mkF m 193 #[.val (.ref b), .val (.int (5 : Int32))] [(.int sg3), (.int (3 : Int32)), (.ref b2), (.ref b2), (.ref b1), (.ref b1)])) rfl rfl (hb hby d1_193)
  have V14_b := V11_b.other W14 ne_b_b2
  have E14_b1 := E11_b1.wr W14
  have F14_b1_coder := F11_b1_coder.other W14 (Or.inl ne_b1_b2)
  have F14_b1_value := F11_b1_value.other W14 (Or.inl ne_b1_b2)
  have Z14 := Nat.le_trans Z11 (Keep.of_wr W14).1
  have KP14 := KP11.wr W14 (Or.inr sz_b2)
  have N14 := Fr.snoc X14 N11 g_b2
  have V14_b2 : Arv Z h14 b2 c2 .char (5 : Int32) [(.int (nar .char sg0)), (.int (nar .char sg1)), (.int (nar .char sg2)), (.int (nar .char sg3)), (.int (0 : Int32))] (.int (0 : Int32)) := Arv.set Ar193_13 q193_13 S193_13 N193_13_ H193_13 G193_13 (fits_nar_char _) W14 3 rfl (Nat.le_of_ble_eq_true rfl)
  obtain ⟨cl198_15, Ar198_15, q198_15, S198_15, N198_15_, H198_15, G198_15⟩ := id V14_b
  have hin198_15 : ¬ ((4 : Int32) < 0 ∨ cl198_15.slots.size ≤ ((4 : Int32)).toNatClampNeg) := inb_of S198_15 ⟨by decide, by decide⟩
  have hat198_15 : cl198_15.slots[((4 : Int32)).toNatClampNeg]? = some (.int sg4) := H198_15.at hin198_15 rfl
  obtain ⟨cl199_16, Ar199_16, q199_16, S199_16, N199_16_, H199_16, G199_16⟩ := id V14_b2
  have hin199_16 : ¬ ((4 : Int32) < 0 ∨ cl199_16.slots.size ≤ ((4 : Int32)).toNatClampNeg) := inb_of S199_16 ⟨by decide, by decide⟩
  obtain ⟨T17, h17, X17, e17, W17, st17⟩ := stC X14 hx hZ e14 Ar199_16 (j := (4 : Int32)) hin199_16 (g := (mkF m 199 #[.val (.ref b), .val (.int (5 : Int32))] [(.int sg4), (.int (4 : Int32)), (.ref b2), (.ref b2), (.ref b1), (.ref b1)])) rfl rfl (hb hby d1_199)
  have V17_b := V14_b.other W17 ne_b_b2
  have E17_b1 := E14_b1.wr W17
  have F17_b1_coder := F14_b1_coder.other W17 (Or.inl ne_b1_b2)
  have F17_b1_value := F14_b1_value.other W17 (Or.inl ne_b1_b2)
  have Z17 := Nat.le_trans Z14 (Keep.of_wr W17).1
  have KP17 := KP14.wr W17 (Or.inr sz_b2)
  have N17 := Fr.snoc X17 N14 g_b2
  have V17_b2 : Arv Z h17 b2 c2 .char (5 : Int32) [(.int (nar .char sg0)), (.int (nar .char sg1)), (.int (nar .char sg2)), (.int (nar .char sg3)), (.int (nar .char sg4))] (.int (0 : Int32)) := Arv.set Ar199_16 q199_16 S199_16 N199_16_ H199_16 G199_16 (fits_nar_char _) W17 4 rfl (Nat.le_of_ble_eq_true rfl)
  have Vc : Arv Z h17 b2 c2 .char (5 : Int32) [(.int sg0), (.int sg1), (.int sg2), (.int sg3), (.int sg4)] (.int (0 : Int32)) := by
    have q := V17_b2
    rw [own_narc sg0 ok0, own_narc sg1 ok1, own_narc sg2 ok2, own_narc sg3 ok3, own_narc sg4 ok4] at q
    exact q
  have hp : ∀ c ∈ ([sg0, sg1, sg2, sg3, sg4] : List Int32), ¬ c < 0 ∧ ¬ (255 : Int32) < c := by
    intro c hc
    simp only [List.mem_cons, List.not_mem_nil, or_false] at hc
    rcases hc with rfl | rfl | rfl | rfl | rfl <;> assumption
  have hws : ∀ d ∈ StrChars.Road.words, d.before a0 Z = true := fun d hd => hw d ((by decide +kernel : ∀ d ∈ StrChars.Road.words, d ∈ tables_1) d hd)
  obtain ⟨_, _, ⟨T18, L18, k18, n18⟩, -, X18, ⟨Lc18, hQ18, l18, y18, z18⟩, st18⟩ := X17.specialBack hx (y := (⟨"java/lang/String", "<init>", "([C)V"⟩ : MethodName)) rfl hown (mvT hZ (ww hw 9 rfl)) (mvT hZ (ww hw 10 rfl)) (mvT hZ (ww hw 11 rfl)) (by decide) (StrChars.Road.backV (W := 1) hZ hws (kI := 4) (ww hw 7 rfl) (cs := ([sg0, sg1, sg2, sg3, sg4] : List Int32)) (bs := ([sg0, sg1, sg2, sg3, sg4] : List Int32).map (fun c => c.toInt8.toInt32)) (n := 5) g_b1 Z17 E17_b1 F17_b1_value F17_b1_coder Vc (S_cs.ext (own_extK KP17)) hcz rfl rfl (by decide) (by decide) hp rfl (by decide) (by decide)) (g := (mkF m 200 #[.val (.ref b), .val (.int (5 : Int32))] [(.ref b2), (.ref b1), (.ref b1)])) rfl (by rw [hml]; rfl) (Steps.refl _) (a := b1) (argsL := [(.ref b2)]) (rest := [(.ref b1)]) (lenOf pd_0 rfl) rfl (by show 2 * 0 + _ ≤ _; exact Nat.le_of_eq rfl) (hb hby d1_200) (fun _ _ => ⟨rfl, e17, (by decide : 2 + 1 ≤ _), (by decide : 9 + 5 ≤ _)⟩)
  dsimp only [Pt.U, Pt.locs, Pt.cells, Pt.slots] at X18 l18 y18 z18 st18 hQ18
  subst l18 y18 z18
  obtain ⟨rfl, N18q, K18, E18x, C18x, bt18, kb18, -, le18, -, F18x, V18x⟩ := hQ18
  have N18 := Fr.app N17 N18q
  have ne_b_bt18 : b ≠ bt18 := Nat.ne_of_lt (Nat.lt_of_lt_of_le V17_b.lt le18)
  have ne_b1_bt18 : b1 ≠ bt18 := Nat.ne_of_lt (Nat.lt_of_lt_of_le E17_b1.lt le18)
  have ne_b2_bt18 : b2 ≠ bt18 := Nat.ne_of_lt (Nat.lt_of_lt_of_le V17_b2.lt le18)
  have g_bt18 : n0 ≤ bt18 := Nat.le_trans Z17 le18
  have sz_bt18 : h0.size ≤ bt18 := Nat.le_trans KP17.1 le18
  have V18_b2 := V17_b2.keep K18 (ninS (Ne.symm ne_b1_b2) nin0)
  have Z18 := Nat.le_trans Z17 K18.1
  have KP18 := KP17.trans K18 (allS (Or.inr sz_b1) all0)
  have k19 : ∀ tg, Steps p.tables e below (T18.setTop (mkF m 203 #[.val (.ref b), .val (.int (5 : Int32))] [(.ref b1)])) tg → Steps p.tables e below (s₁.setTop (entryFrame m #[(.ref b), (.int (5 : Int32))] 2)) tg := by
    intro tg kt
    refine k0 tg ?_
    show Steps p.tables e below (s₁.setTop (mkF m 0 #[.val (.ref b), .val (.int (5 : Int32))] [])) _
    refine XS.iloadN X0.here hx rfl (hb hby d1_0) rfl ?_
    refine XS.tswIn X0.here hx rfl (pc0 := 1) (pc' := 163) rfl (hb hby d1_1) rfl (by decide) (o := 162) (by decide) (by decide) (by decide) ?_
    refine st1 _ ?_
    show Steps p.tables e below (T1.setTop (mkF m 166 #[.val (.ref b), .val (.int (5 : Int32))] [(.ref b1)])) _
    refine XS.dup X1.here hx rfl (hb hby d1_166) rfl rfl ?_
    refine XS.iconst X1.here hx rfl (hb hby d1_167) ?_
    refine st2 _ ?_
    refine XS.dup X2.here hx rfl (hb hby d1_170) rfl rfl ?_
    refine XS.iconst X2.here hx rfl (hb hby d1_171) ?_
    refine XS.aloadN X2.here hx rfl (hb hby d1_172) rfl rfl ?_
    refine XS.iconst X2.here hx rfl (hb hby d1_173) ?_
    show Steps p.tables e below (T2.setTop (mkF m 174 #[.val (.ref b), .val (.int (5 : Int32))] [(.int (0 : Int32)), (.ref b), (.int (0 : Int32)), (.ref b2), (.ref b2), (.ref b1), (.ref b1)])) _
    refine X2.caload hx (j := (0 : Int32)) (v := (.int sg0)) (by rw [e2]; exact Ar174_3.1) (State.isArrayOf_alike hZ.alike Ar174_3.2.1) Ar174_3.2.2 hin174_3 hat174_3 (g := (mkF m 174 #[.val (.ref b), .val (.int (5 : Int32))] [(.int (0 : Int32)), (.ref b), (.int (0 : Int32)), (.ref b2), (.ref b2), (.ref b1), (.ref b1)])) rfl rfl (hb hby d1_174) _ ?_
    refine st5 _ ?_
    refine XS.dup X5.here hx rfl (hb hby d1_176) rfl rfl ?_
    refine XS.iconst X5.here hx rfl (hb hby d1_177) ?_
    refine XS.aloadN X5.here hx rfl (hb hby d1_178) rfl rfl ?_
    refine XS.iconst X5.here hx rfl (hb hby d1_179) ?_
    show Steps p.tables e below (T5.setTop (mkF m 180 #[.val (.ref b), .val (.int (5 : Int32))] [(.int (1 : Int32)), (.ref b), (.int (1 : Int32)), (.ref b2), (.ref b2), (.ref b1), (.ref b1)])) _
    refine X5.caload hx (j := (1 : Int32)) (v := (.int sg1)) (by rw [e5]; exact Ar180_6.1) (State.isArrayOf_alike hZ.alike Ar180_6.2.1) Ar180_6.2.2 hin180_6 hat180_6 (g := (mkF m 180 #[.val (.ref b), .val (.int (5 : Int32))] [(.int (1 : Int32)), (.ref b), (.int (1 : Int32)), (.ref b2), (.ref b2), (.ref b1), (.ref b1)])) rfl rfl (hb hby d1_180) _ ?_
    refine st8 _ ?_
    refine XS.dup X8.here hx rfl (hb hby d1_182) rfl rfl ?_
    refine XS.iconst X8.here hx rfl (hb hby d1_183) ?_
    refine XS.aloadN X8.here hx rfl (hb hby d1_184) rfl rfl ?_
    refine XS.iconst X8.here hx rfl (hb hby d1_185) ?_
    show Steps p.tables e below (T8.setTop (mkF m 186 #[.val (.ref b), .val (.int (5 : Int32))] [(.int (2 : Int32)), (.ref b), (.int (2 : Int32)), (.ref b2), (.ref b2), (.ref b1), (.ref b1)])) _
    refine X8.caload hx (j := (2 : Int32)) (v := (.int sg2)) (by rw [e8]; exact Ar186_9.1) (State.isArrayOf_alike hZ.alike Ar186_9.2.1) Ar186_9.2.2 hin186_9 hat186_9 (g := (mkF m 186 #[.val (.ref b), .val (.int (5 : Int32))] [(.int (2 : Int32)), (.ref b), (.int (2 : Int32)), (.ref b2), (.ref b2), (.ref b1), (.ref b1)])) rfl rfl (hb hby d1_186) _ ?_
    refine st11 _ ?_
    refine XS.dup X11.here hx rfl (hb hby d1_188) rfl rfl ?_
    refine XS.iconst X11.here hx rfl (hb hby d1_189) ?_
    refine XS.aloadN X11.here hx rfl (hb hby d1_190) rfl rfl ?_
    refine XS.iconst X11.here hx rfl (hb hby d1_191) ?_
    show Steps p.tables e below (T11.setTop (mkF m 192 #[.val (.ref b), .val (.int (5 : Int32))] [(.int (3 : Int32)), (.ref b), (.int (3 : Int32)), (.ref b2), (.ref b2), (.ref b1), (.ref b1)])) _
    refine X11.caload hx (j := (3 : Int32)) (v := (.int sg3)) (by rw [e11]; exact Ar192_12.1) (State.isArrayOf_alike hZ.alike Ar192_12.2.1) Ar192_12.2.2 hin192_12 hat192_12 (g := (mkF m 192 #[.val (.ref b), .val (.int (5 : Int32))] [(.int (3 : Int32)), (.ref b), (.int (3 : Int32)), (.ref b2), (.ref b2), (.ref b1), (.ref b1)])) rfl rfl (hb hby d1_192) _ ?_
    refine st14 _ ?_
    refine XS.dup X14.here hx rfl (hb hby d1_194) rfl rfl ?_
    refine XS.iconst X14.here hx rfl (hb hby d1_195) ?_
    refine XS.aloadN X14.here hx rfl (hb hby d1_196) rfl rfl ?_
    refine XS.iconst X14.here hx rfl (hb hby d1_197) ?_
    show Steps p.tables e below (T14.setTop (mkF m 198 #[.val (.ref b), .val (.int (5 : Int32))] [(.int (4 : Int32)), (.ref b), (.int (4 : Int32)), (.ref b2), (.ref b2), (.ref b1), (.ref b1)])) _
    refine X14.caload hx (j := (4 : Int32)) (v := (.int sg4)) (by rw [e14]; exact Ar198_15.1) (State.isArrayOf_alike hZ.alike Ar198_15.2.1) Ar198_15.2.2 hin198_15 hat198_15 (g := (mkF m 198 #[.val (.ref b), .val (.int (5 : Int32))] [(.int (4 : Int32)), (.ref b), (.int (4 : Int32)), (.ref b2), (.ref b2), (.ref b1), (.ref b1)])) rfl rfl (hb hby d1_198) _ ?_
    refine st17 _ ?_
    refine st18.trans ?_
    show Steps p.tables e below (T18.setTop (mkF m 203 #[.val (.ref b), .val (.int (5 : Int32))] [(.ref b1)])) _
    exact kt
  obtain ⟨fs, hr, hrun, hended, hW, hsame⟩ := X18.leave (v := some (.ref b1)) (fun h => by rw [Bd.returns] at h; cases h)
  refine ⟨_, _, k19 _ ?_, hrun, hended, _, _, rfl, ?_, ⟨_, rfl⟩, hW, hsame.mono (by decide) (by decide)⟩
  · exact own_retA X18 hx Bd.returns rfl (hb hby d1_203) hr
  · show QStr Z [sg0, sg1, sg2, sg3, sg4] h0 n0 _ T18.heap _
    exact ⟨N18, KP18, b1, bt18, kb18, rfl, sz_b1, E18x, C18x, F18x, V18x⟩
theorem d1_204 : decode method_2_code 204 = .ok (.new 7, 3) := by decide +kernel
theorem d1_207 : decode method_2_code 207 = .ok (.dup, 1) := by decide +kernel
theorem d1_208 : decode method_2_code 208 = .ok (.bipush 6, 2) := by decide +kernel
theorem d1_210 : decode method_2_code 210 = .ok (.newarray .char, 2) := by decide +kernel
theorem d1_212 : decode method_2_code 212 = .ok (.dup, 1) := by decide +kernel
theorem d1_213 : decode method_2_code 213 = .ok (.iconst 0, 1) := by decide +kernel
theorem d1_214 : decode method_2_code 214 = .ok (.aload_n 0, 1) := by decide +kernel
theorem d1_215 : decode method_2_code 215 = .ok (.iconst 0, 1) := by decide +kernel
theorem d1_216 : decode method_2_code 216 = .ok (.caload, 1) := by decide +kernel
theorem d1_217 : decode method_2_code 217 = .ok (.castore, 1) := by decide +kernel
theorem d1_218 : decode method_2_code 218 = .ok (.dup, 1) := by decide +kernel
theorem d1_219 : decode method_2_code 219 = .ok (.iconst 1, 1) := by decide +kernel
theorem d1_220 : decode method_2_code 220 = .ok (.aload_n 0, 1) := by decide +kernel
theorem d1_221 : decode method_2_code 221 = .ok (.iconst 1, 1) := by decide +kernel
theorem d1_222 : decode method_2_code 222 = .ok (.caload, 1) := by decide +kernel
theorem d1_223 : decode method_2_code 223 = .ok (.castore, 1) := by decide +kernel
theorem d1_224 : decode method_2_code 224 = .ok (.dup, 1) := by decide +kernel
theorem d1_225 : decode method_2_code 225 = .ok (.iconst 2, 1) := by decide +kernel
theorem d1_226 : decode method_2_code 226 = .ok (.aload_n 0, 1) := by decide +kernel
theorem d1_227 : decode method_2_code 227 = .ok (.iconst 2, 1) := by decide +kernel
theorem d1_228 : decode method_2_code 228 = .ok (.caload, 1) := by decide +kernel
theorem d1_229 : decode method_2_code 229 = .ok (.castore, 1) := by decide +kernel
theorem d1_230 : decode method_2_code 230 = .ok (.dup, 1) := by decide +kernel
theorem d1_231 : decode method_2_code 231 = .ok (.iconst 3, 1) := by decide +kernel
theorem d1_232 : decode method_2_code 232 = .ok (.aload_n 0, 1) := by decide +kernel
theorem d1_233 : decode method_2_code 233 = .ok (.iconst 3, 1) := by decide +kernel
theorem d1_234 : decode method_2_code 234 = .ok (.caload, 1) := by decide +kernel
theorem d1_235 : decode method_2_code 235 = .ok (.castore, 1) := by decide +kernel
theorem d1_236 : decode method_2_code 236 = .ok (.dup, 1) := by decide +kernel
theorem d1_237 : decode method_2_code 237 = .ok (.iconst 4, 1) := by decide +kernel
theorem d1_238 : decode method_2_code 238 = .ok (.aload_n 0, 1) := by decide +kernel
theorem d1_239 : decode method_2_code 239 = .ok (.iconst 4, 1) := by decide +kernel
theorem d1_240 : decode method_2_code 240 = .ok (.caload, 1) := by decide +kernel
theorem d1_241 : decode method_2_code 241 = .ok (.castore, 1) := by decide +kernel
theorem d1_242 : decode method_2_code 242 = .ok (.dup, 1) := by decide +kernel
theorem d1_243 : decode method_2_code 243 = .ok (.iconst 5, 1) := by decide +kernel
theorem d1_244 : decode method_2_code 244 = .ok (.aload_n 0, 1) := by decide +kernel
theorem d1_245 : decode method_2_code 245 = .ok (.iconst 5, 1) := by decide +kernel
theorem d1_246 : decode method_2_code 246 = .ok (.caload, 1) := by decide +kernel
theorem d1_247 : decode method_2_code 247 = .ok (.castore, 1) := by decide +kernel
theorem d1_248 : decode method_2_code 248 = .ok (.invokespecial 9, 3) := by decide +kernel
theorem d1_251 : decode method_2_code 251 = .ok (.areturn, 1) := by decide +kernel
theorem ef_rmStr6 (m : MethodId) (b : Addr) : entryFrame m #[(.ref b), (.int (6 : Int32))] 2 = mkF m 0 #[.val (.ref b), .val (.int (6 : Int32))] [] := by first | (simp [entryFrame, mkF, argsToLocals, Value.category]; done) | rfl
set_option maxRecDepth 65536 in
set_option maxHeartbeats 40000000 in
theorem rmStr6 (l : Launch) (Z : State) (a0 : Array Value) (hw : ∀ d ∈ tables_1, d.before a0 Z = true) (ws : List Jvm.Cond) (b : Addr) (kc : ClassId) (cz : Int32) (sg0 sg1 sg2 sg3 sg4 sg5 sg6 sg7 : Int32) (h0 : Heap) (n0 : Nat) (Z0 : n0 ≤ h0.size) (Vb : Arv Z h0 b kc .char (8 : Int32) [(.int sg0), (.int sg1), (.int sg2), (.int sg3), (.int sg4), (.int sg5), (.int sg6), (.int sg7)] (.int (0 : Int32))) (ok0 : ok sg0) (ok1 : ok sg1) (ok2 : ok sg2) (ok3 : ok sg3) (ok4 : ok sg4) (ok5 : ok sg5) (ok6 : ok sg6) (ok7 : ok sg7) (S_cs : Sta Z h0 "java/lang/String" "COMPACT_STRINGS" "Z" (.int cz)) (hcz : ¬ cz = 0) :
    MetFree l (⟨"com/example/lifetable/lifetable/output/ExportFormatNamedPinLaw", "str", "([CI)Ljava/lang/String;"⟩ : MethodName) (head1 (Jvm.Cond.code (⟨"com/example/lifetable/lifetable/output/ExportFormatNamedPinLaw", "str", "([CI)Ljava/lang/String;"⟩ : MethodName) method_2_code 2 (some (.object "java/lang/String")) :: ws) ({ frames := 4, cells := 3, slots := 16, locals := 66 } : Room)) (fun a_ U_ => a_ = #[(.ref b), (.int (6 : Int32))] ∧ Z.Warmed39 U_.vm ∧ U_.heap = h0) (fun _ _ _ _ _ => True) (fun _ U_ o_ U'_ => ∃ v_ L_, o_ = .returned v_ ∧ QStr Z [sg0, sg1, sg2, sg3, sg4, sg5] h0 n0 v_ U'_.heap L_ ∧ FrameEnd U_ o_ U'_ L_ ({ frames := 4, cells := 3, slots := 16, locals := 66 } : Room).cells ({ frames := 4, cells := 3, slots := 16, locals := 66 } : Room).slots) := by
  refine MetFree.of_bodySF (plainFor_of_name pn_1) hisR ?_
  intro p e s m args below meth c s₁ Bd hml0 hP hK
  obtain ⟨rfl, hZ, hh⟩ := hP
  have hx := Bd.exec
  have hby := Bd.bytes
  have hml : c.maxLocals = 2 := hml0
  have hown : s.vm.findClass "com/example/lifetable/lifetable/output/ExportFormatNamedPinLaw" = some m.cls := findClass_of_methodNamed Bd.named
  have hnm := (name_of_methodNamed Bd.named Bd.method).1
  have X0 : Stand p l e ({ frames := 4, cells := 3, slots := 16, locals := 66 } : Room) s m #[(.ref b), (.int (6 : Int32))] below meth c s₁ [] 0 0 := Stand.of_body Bd
  have e0 : s₁.heap = h0 := by rw [← hh, Bd.state]; rfl
  have N0 := Fr.nil n0
  have k0 : ∀ tg, Steps p.tables e below (s₁.setTop (mkF m 0 #[.val (.ref b), .val (.int (6 : Int32))] [])) tg → Steps p.tables e below (s₁.setTop (entryFrame m #[(.ref b), (.int (6 : Int32))] 2)) tg := fun tg kq_ => castTop (ef_rmStr6 m b) kq_
  obtain ⟨T1, h1, X1, e1, E1, A1, D1, -, st1⟩ := newO X0 hx hZ hown (ww hw 6 rfl) (ww hw 7 rfl) (ww hw 8 rfl) e0 (g := (mkF m 204 #[.val (.ref b), .val (.int (6 : Int32))] [])) rfl (hb hby d1_204) (by decide) (by decide)
  obtain ⟨b1, g1⟩ : ∃ z, z = h0.size := ⟨_, rfl⟩
  have ne_b_b1 : b ≠ b1 := Nat.ne_of_lt (Nat.lt_of_lt_of_le Vb.lt (Nat.le_of_eq g1.symm))
  have g_b1 : n0 ≤ b1 := Nat.le_trans Z0 (Nat.le_of_eq g1.symm)
  have sz_b1 : h0.size ≤ b1 := Nat.le_trans (Keep.refl h0 []).1 (Nat.le_of_eq g1.symm)
  rw [← g1] at A1 D1 st1
  have V1_b := Vb.ext E1
  have Z1 := Nat.le_trans Z0 E1.1
  have KP1 := (Keep.refl h0 []).ext E1
  have F_coder_b1 : Fld Z h1 b1 "java/lang/String" "coder" "B" (.int (0 : Int32)) := D1 (Or.inr (ww hw 32 rfl)) (ty := .byte) (by decide)
  have F_value_b1 : Fld Z h1 b1 "java/lang/String" "value" "[B" .null := D1 (Or.inr (ww hw 34 rfl)) (ty := (.array .byte)) (by decide)
  obtain ⟨T2, h2, c2, X2, e2, E2, A2, st2⟩ := newP X1 hx hZ (ww hw 0 rfl) e1 (g := (mkF m 210 #[.val (.ref b), .val (.int (6 : Int32))] [(.int (6 : Int32)), (.ref b1), (.ref b1)])) rfl (hb hby d1_210) rfl (by decide) (cap := 6) (by decide) (by decide) (by decide) (by decide)
  obtain ⟨b2, g2⟩ : ∃ z, z = h1.size := ⟨_, rfl⟩
  have ne_b_b2 : b ≠ b2 := Nat.ne_of_lt (Nat.lt_of_lt_of_le V1_b.lt (Nat.le_of_eq g2.symm))
  have ne_b1_b2 : b1 ≠ b2 := Nat.ne_of_lt (Nat.lt_of_lt_of_le A1.lt (Nat.le_of_eq g2.symm))
  have g_b2 : n0 ≤ b2 := Nat.le_trans Z1 (Nat.le_of_eq g2.symm)
  have sz_b2 : h0.size ≤ b2 := Nat.le_trans KP1.1 (Nat.le_of_eq g2.symm)
  rw [← g2] at A2 st2
  have V2_b := V1_b.ext E2
  have E2_b1 := A1.ext E2
  have F2_b1_coder := F_coder_b1.ext E2
  have F2_b1_value := F_value_b1.ext E2
  have Z2 := Nat.le_trans Z1 E2.1
  have KP2 := KP1.ext E2
  have V_b2 : Arv Z h2 b2 c2 .char (6 : Int32) [(.int (0 : Int32)), (.int (0 : Int32)), (.int (0 : Int32)), (.int (0 : Int32)), (.int (0 : Int32)), (.int (0 : Int32))] (.int (0 : Int32)) := (Arv.new A2 (by decide)).pad (pad_rep [] (.int (0 : Int32)) 6)
  obtain ⟨cl216_3, Ar216_3, q216_3, S216_3, N216_3_, H216_3, G216_3⟩ := id V2_b
  have hin216_3 : ¬ ((0 : Int32) < 0 ∨ cl216_3.slots.size ≤ ((0 : Int32)).toNatClampNeg) := inb_of S216_3 ⟨by decide, by decide⟩
  have hat216_3 : cl216_3.slots[((0 : Int32)).toNatClampNeg]? = some (.int sg0) := H216_3.at hin216_3 rfl
  obtain ⟨cl217_4, Ar217_4, q217_4, S217_4, N217_4_, H217_4, G217_4⟩ := id V_b2
  have hin217_4 : ¬ ((0 : Int32) < 0 ∨ cl217_4.slots.size ≤ ((0 : Int32)).toNatClampNeg) := inb_of S217_4 ⟨by decide, by decide⟩
  obtain ⟨T5, h5, X5, e5, W5, st5⟩ := stC X2 hx hZ e2 Ar217_4 (j := (0 : Int32)) hin217_4 (g := (mkF m 217 #[.val (.ref b), .val (.int (6 : Int32))] [(.int sg0), (.int (0 : Int32)), (.ref b2), (.ref b2), (.ref b1), (.ref b1)])) rfl rfl (hb hby d1_217)
  have V5_b := V2_b.other W5 ne_b_b2
  have E5_b1 := E2_b1.wr W5
  have F5_b1_coder := F2_b1_coder.other W5 (Or.inl ne_b1_b2)
  have F5_b1_value := F2_b1_value.other W5 (Or.inl ne_b1_b2)
  have Z5 := Nat.le_trans Z2 (Keep.of_wr W5).1
  have KP5 := KP2.wr W5 (Or.inr sz_b2)
  have N5 := Fr.snoc X5 N0 g_b2
  have V5_b2 : Arv Z h5 b2 c2 .char (6 : Int32) [(.int (nar .char sg0)), (.int (0 : Int32)), (.int (0 : Int32)), (.int (0 : Int32)), (.int (0 : Int32)), (.int (0 : Int32))] (.int (0 : Int32)) := Arv.set Ar217_4 q217_4 S217_4 N217_4_ H217_4 G217_4 (fits_nar_char _) W5 0 rfl (Nat.le_of_ble_eq_true rfl)
  obtain ⟨cl222_6, Ar222_6, q222_6, S222_6, N222_6_, H222_6, G222_6⟩ := id V5_b
  have hin222_6 : ¬ ((1 : Int32) < 0 ∨ cl222_6.slots.size ≤ ((1 : Int32)).toNatClampNeg) := inb_of S222_6 ⟨by decide, by decide⟩
  have hat222_6 : cl222_6.slots[((1 : Int32)).toNatClampNeg]? = some (.int sg1) := H222_6.at hin222_6 rfl
  obtain ⟨cl223_7, Ar223_7, q223_7, S223_7, N223_7_, H223_7, G223_7⟩ := id V5_b2
  have hin223_7 : ¬ ((1 : Int32) < 0 ∨ cl223_7.slots.size ≤ ((1 : Int32)).toNatClampNeg) := inb_of S223_7 ⟨by decide, by decide⟩
  obtain ⟨T8, h8, X8, e8, W8, st8⟩ := stC X5 hx hZ e5 Ar223_7 (j := (1 : Int32)) hin223_7 (g := (mkF m 223 #[.val (.ref b), .val (.int (6 : Int32))] [(.int sg1), (.int (1 : Int32)), (.ref b2), (.ref b2), (.ref b1), (.ref b1)])) rfl rfl (hb hby d1_223)
  have V8_b := V5_b.other W8 ne_b_b2
  have E8_b1 := E5_b1.wr W8
  have F8_b1_coder := F5_b1_coder.other W8 (Or.inl ne_b1_b2)
  have F8_b1_value := F5_b1_value.other W8 (Or.inl ne_b1_b2)
  have Z8 := Nat.le_trans Z5 (Keep.of_wr W8).1
  have KP8 := KP5.wr W8 (Or.inr sz_b2)
  have N8 := Fr.snoc X8 N5 g_b2
  have V8_b2 : Arv Z h8 b2 c2 .char (6 : Int32) [(.int (nar .char sg0)), (.int (nar .char sg1)), (.int (0 : Int32)), (.int (0 : Int32)), (.int (0 : Int32)), (.int (0 : Int32))] (.int (0 : Int32)) := Arv.set Ar223_7 q223_7 S223_7 N223_7_ H223_7 G223_7 (fits_nar_char _) W8 1 rfl (Nat.le_of_ble_eq_true rfl)
  obtain ⟨cl228_9, Ar228_9, q228_9, S228_9, N228_9_, H228_9, G228_9⟩ := id V8_b
  have hin228_9 : ¬ ((2 : Int32) < 0 ∨ cl228_9.slots.size ≤ ((2 : Int32)).toNatClampNeg) := inb_of S228_9 ⟨by decide, by decide⟩
  have hat228_9 : cl228_9.slots[((2 : Int32)).toNatClampNeg]? = some (.int sg2) := H228_9.at hin228_9 rfl
  obtain ⟨cl229_10, Ar229_10, q229_10, S229_10, N229_10_, H229_10, G229_10⟩ := id V8_b2
  have hin229_10 : ¬ ((2 : Int32) < 0 ∨ cl229_10.slots.size ≤ ((2 : Int32)).toNatClampNeg) := inb_of S229_10 ⟨by decide, by decide⟩
  obtain ⟨T11, h11, X11, e11, W11, st11⟩ := stC X8 hx hZ e8 Ar229_10 (j := (2 : Int32)) hin229_10 (g := (mkF m 229 #[.val (.ref b), .val (.int (6 : Int32))] [(.int sg2), (.int (2 : Int32)), (.ref b2), (.ref b2), (.ref b1), (.ref b1)])) rfl rfl (hb hby d1_229)
  have V11_b := V8_b.other W11 ne_b_b2
  have E11_b1 := E8_b1.wr W11
  have F11_b1_coder := F8_b1_coder.other W11 (Or.inl ne_b1_b2)
  have F11_b1_value := F8_b1_value.other W11 (Or.inl ne_b1_b2)
  have Z11 := Nat.le_trans Z8 (Keep.of_wr W11).1
  have KP11 := KP8.wr W11 (Or.inr sz_b2)
  have N11 := Fr.snoc X11 N8 g_b2
  have V11_b2 : Arv Z h11 b2 c2 .char (6 : Int32) [(.int (nar .char sg0)), (.int (nar .char sg1)), (.int (nar .char sg2)), (.int (0 : Int32)), (.int (0 : Int32)), (.int (0 : Int32))] (.int (0 : Int32)) := Arv.set Ar229_10 q229_10 S229_10 N229_10_ H229_10 G229_10 (fits_nar_char _) W11 2 rfl (Nat.le_of_ble_eq_true rfl)
  obtain ⟨cl234_12, Ar234_12, q234_12, S234_12, N234_12_, H234_12, G234_12⟩ := id V11_b
  have hin234_12 : ¬ ((3 : Int32) < 0 ∨ cl234_12.slots.size ≤ ((3 : Int32)).toNatClampNeg) := inb_of S234_12 ⟨by decide, by decide⟩
  have hat234_12 : cl234_12.slots[((3 : Int32)).toNatClampNeg]? = some (.int sg3) := H234_12.at hin234_12 rfl
  obtain ⟨cl235_13, Ar235_13, q235_13, S235_13, N235_13_, H235_13, G235_13⟩ := id V11_b2
  have hin235_13 : ¬ ((3 : Int32) < 0 ∨ cl235_13.slots.size ≤ ((3 : Int32)).toNatClampNeg) := inb_of S235_13 ⟨by decide, by decide⟩
  obtain ⟨T14, h14, X14, e14, W14, st14⟩ := stC X11 hx hZ e11 Ar235_13 (j := (3 : Int32)) hin235_13 (g := (mkF m 235 #[.val (.ref b), .val (.int (6 : Int32))] [(.int sg3), (.int (3 : Int32)), (.ref b2), (.ref b2), (.ref b1), (.ref b1)])) rfl rfl (hb hby d1_235)
  have V14_b := V11_b.other W14 ne_b_b2
  have E14_b1 := E11_b1.wr W14
  have F14_b1_coder := F11_b1_coder.other W14 (Or.inl ne_b1_b2)
  have F14_b1_value := F11_b1_value.other W14 (Or.inl ne_b1_b2)
  have Z14 := Nat.le_trans Z11 (Keep.of_wr W14).1
  have KP14 := KP11.wr W14 (Or.inr sz_b2)
  have N14 := Fr.snoc X14 N11 g_b2
  have V14_b2 : Arv Z h14 b2 c2 .char (6 : Int32) [(.int (nar .char sg0)), (.int (nar .char sg1)), (.int (nar .char sg2)), (.int (nar .char sg3)), (.int (0 : Int32)), (.int (0 : Int32))] (.int (0 : Int32)) := Arv.set Ar235_13 q235_13 S235_13 N235_13_ H235_13 G235_13 (fits_nar_char _) W14 3 rfl (Nat.le_of_ble_eq_true rfl)
  obtain ⟨cl240_15, Ar240_15, q240_15, S240_15, N240_15_, H240_15, G240_15⟩ := id V14_b
  have hin240_15 : ¬ ((4 : Int32) < 0 ∨ cl240_15.slots.size ≤ ((4 : Int32)).toNatClampNeg) := inb_of S240_15 ⟨by decide, by decide⟩
  have hat240_15 : cl240_15.slots[((4 : Int32)).toNatClampNeg]? = some (.int sg4) := H240_15.at hin240_15 rfl
  obtain ⟨cl241_16, Ar241_16, q241_16, S241_16, N241_16_, H241_16, G241_16⟩ := id V14_b2
  have hin241_16 : ¬ ((4 : Int32) < 0 ∨ cl241_16.slots.size ≤ ((4 : Int32)).toNatClampNeg) := inb_of S241_16 ⟨by decide, by decide⟩
  obtain ⟨T17, h17, X17, e17, W17, st17⟩ := stC X14 hx hZ e14 Ar241_16 (j := (4 : Int32)) hin241_16 (g := (mkF m 241 #[.val (.ref b), .val (.int (6 : Int32))] [(.int sg4), (.int (4 : Int32)), (.ref b2), (.ref b2), (.ref b1), (.ref b1)])) rfl rfl (hb hby d1_241)
  have V17_b := V14_b.other W17 ne_b_b2
  have E17_b1 := E14_b1.wr W17
  have F17_b1_coder := F14_b1_coder.other W17 (Or.inl ne_b1_b2)
  have F17_b1_value := F14_b1_value.other W17 (Or.inl ne_b1_b2)
  have Z17 := Nat.le_trans Z14 (Keep.of_wr W17).1
  have KP17 := KP14.wr W17 (Or.inr sz_b2)
  have N17 := Fr.snoc X17 N14 g_b2
  have V17_b2 : Arv Z h17 b2 c2 .char (6 : Int32) [(.int (nar .char sg0)), (.int (nar .char sg1)), (.int (nar .char sg2)), (.int (nar .char sg3)), (.int (nar .char sg4)), (.int (0 : Int32))] (.int (0 : Int32)) := Arv.set Ar241_16 q241_16 S241_16 N241_16_ H241_16 G241_16 (fits_nar_char _) W17 4 rfl (Nat.le_of_ble_eq_true rfl)
  obtain ⟨cl246_18, Ar246_18, q246_18, S246_18, N246_18_, H246_18, G246_18⟩ := id V17_b
  have hin246_18 : ¬ ((5 : Int32) < 0 ∨ cl246_18.slots.size ≤ ((5 : Int32)).toNatClampNeg) := inb_of S246_18 ⟨by decide, by decide⟩
  have hat246_18 : cl246_18.slots[((5 : Int32)).toNatClampNeg]? = some (.int sg5) := H246_18.at hin246_18 rfl
  obtain ⟨cl247_19, Ar247_19, q247_19, S247_19, N247_19_, H247_19, G247_19⟩ := id V17_b2
  have hin247_19 : ¬ ((5 : Int32) < 0 ∨ cl247_19.slots.size ≤ ((5 : Int32)).toNatClampNeg) := inb_of S247_19 ⟨by decide, by decide⟩
  obtain ⟨T20, h20, X20, e20, W20, st20⟩ := stC X17 hx hZ e17 Ar247_19 (j := (5 : Int32)) hin247_19 (g := (mkF m 247 #[.val (.ref b), .val (.int (6 : Int32))] [(.int sg5), (.int (5 : Int32)), (.ref b2), (.ref b2), (.ref b1), (.ref b1)])) rfl rfl (hb hby d1_247)
  have V20_b := V17_b.other W20 ne_b_b2
  have E20_b1 := E17_b1.wr W20
  have F20_b1_coder := F17_b1_coder.other W20 (Or.inl ne_b1_b2)
  have F20_b1_value := F17_b1_value.other W20 (Or.inl ne_b1_b2)
  have Z20 := Nat.le_trans Z17 (Keep.of_wr W20).1
  have KP20 := KP17.wr W20 (Or.inr sz_b2)
  have N20 := Fr.snoc X20 N17 g_b2
  have V20_b2 : Arv Z h20 b2 c2 .char (6 : Int32) [(.int (nar .char sg0)), (.int (nar .char sg1)), (.int (nar .char sg2)), (.int (nar .char sg3)), (.int (nar .char sg4)), (.int (nar .char sg5))] (.int (0 : Int32)) := Arv.set Ar247_19 q247_19 S247_19 N247_19_ H247_19 G247_19 (fits_nar_char _) W20 5 rfl (Nat.le_of_ble_eq_true rfl)
  have Vc : Arv Z h20 b2 c2 .char (6 : Int32) [(.int sg0), (.int sg1), (.int sg2), (.int sg3), (.int sg4), (.int sg5)] (.int (0 : Int32)) := by
    have q := V20_b2
    rw [own_narc sg0 ok0, own_narc sg1 ok1, own_narc sg2 ok2, own_narc sg3 ok3, own_narc sg4 ok4, own_narc sg5 ok5] at q
    exact q
  have hp : ∀ c ∈ ([sg0, sg1, sg2, sg3, sg4, sg5] : List Int32), ¬ c < 0 ∧ ¬ (255 : Int32) < c := by
    intro c hc
    simp only [List.mem_cons, List.not_mem_nil, or_false] at hc
    rcases hc with rfl | rfl | rfl | rfl | rfl | rfl <;> assumption
  have hws : ∀ d ∈ StrChars.Road.words, d.before a0 Z = true := fun d hd => hw d ((by decide +kernel : ∀ d ∈ StrChars.Road.words, d ∈ tables_1) d hd)
  obtain ⟨_, _, ⟨T21, L21, k21, n21⟩, -, X21, ⟨Lc21, hQ21, l21, y21, z21⟩, st21⟩ := X20.specialBack hx (y := (⟨"java/lang/String", "<init>", "([C)V"⟩ : MethodName)) rfl hown (mvT hZ (ww hw 9 rfl)) (mvT hZ (ww hw 10 rfl)) (mvT hZ (ww hw 11 rfl)) (by decide) (StrChars.Road.backV (W := 1) hZ hws (kI := 4) (ww hw 7 rfl) (cs := ([sg0, sg1, sg2, sg3, sg4, sg5] : List Int32)) (bs := ([sg0, sg1, sg2, sg3, sg4, sg5] : List Int32).map (fun c => c.toInt8.toInt32)) (n := 6) g_b1 Z20 E20_b1 F20_b1_value F20_b1_coder Vc (S_cs.ext (own_extK KP20)) hcz rfl rfl (by decide) (by decide) hp rfl (by decide) (by decide)) (g := (mkF m 248 #[.val (.ref b), .val (.int (6 : Int32))] [(.ref b2), (.ref b1), (.ref b1)])) rfl (by rw [hml]; rfl) (Steps.refl _) (a := b1) (argsL := [(.ref b2)]) (rest := [(.ref b1)]) (lenOf pd_0 rfl) rfl (by show 2 * 0 + _ ≤ _; exact Nat.le_of_eq rfl) (hb hby d1_248) (fun _ _ => ⟨rfl, e20, (by decide : 2 + 1 ≤ _), (by decide : 10 + 6 ≤ _)⟩)
  dsimp only [Pt.U, Pt.locs, Pt.cells, Pt.slots] at X21 l21 y21 z21 st21 hQ21
  subst l21 y21 z21
  obtain ⟨rfl, N21q, K21, E21x, C21x, bt21, kb21, -, le21, -, F21x, V21x⟩ := hQ21
  have N21 := Fr.app N20 N21q
  have ne_b_bt21 : b ≠ bt21 := Nat.ne_of_lt (Nat.lt_of_lt_of_le V20_b.lt le21)
  have ne_b1_bt21 : b1 ≠ bt21 := Nat.ne_of_lt (Nat.lt_of_lt_of_le E20_b1.lt le21)
  have ne_b2_bt21 : b2 ≠ bt21 := Nat.ne_of_lt (Nat.lt_of_lt_of_le V20_b2.lt le21)
  have g_bt21 : n0 ≤ bt21 := Nat.le_trans Z20 le21
  have sz_bt21 : h0.size ≤ bt21 := Nat.le_trans KP20.1 le21
  have V21_b2 := V20_b2.keep K21 (ninS (Ne.symm ne_b1_b2) nin0)
  have Z21 := Nat.le_trans Z20 K21.1
  have KP21 := KP20.trans K21 (allS (Or.inr sz_b1) all0)
  have k22 : ∀ tg, Steps p.tables e below (T21.setTop (mkF m 251 #[.val (.ref b), .val (.int (6 : Int32))] [(.ref b1)])) tg → Steps p.tables e below (s₁.setTop (entryFrame m #[(.ref b), (.int (6 : Int32))] 2)) tg := by
    intro tg kt
    refine k0 tg ?_
    show Steps p.tables e below (s₁.setTop (mkF m 0 #[.val (.ref b), .val (.int (6 : Int32))] [])) _
    refine XS.iloadN X0.here hx rfl (hb hby d1_0) rfl ?_
    refine XS.tswIn X0.here hx rfl (pc0 := 1) (pc' := 204) rfl (hb hby d1_1) rfl (by decide) (o := 203) (by decide) (by decide) (by decide) ?_
    refine st1 _ ?_
    show Steps p.tables e below (T1.setTop (mkF m 207 #[.val (.ref b), .val (.int (6 : Int32))] [(.ref b1)])) _
    refine XS.dup X1.here hx rfl (hb hby d1_207) rfl rfl ?_
    refine XS.bipush X1.here hx rfl (hb hby d1_208) ?_
    refine st2 _ ?_
    refine XS.dup X2.here hx rfl (hb hby d1_212) rfl rfl ?_
    refine XS.iconst X2.here hx rfl (hb hby d1_213) ?_
    refine XS.aloadN X2.here hx rfl (hb hby d1_214) rfl rfl ?_
    refine XS.iconst X2.here hx rfl (hb hby d1_215) ?_
    show Steps p.tables e below (T2.setTop (mkF m 216 #[.val (.ref b), .val (.int (6 : Int32))] [(.int (0 : Int32)), (.ref b), (.int (0 : Int32)), (.ref b2), (.ref b2), (.ref b1), (.ref b1)])) _
    refine X2.caload hx (j := (0 : Int32)) (v := (.int sg0)) (by rw [e2]; exact Ar216_3.1) (State.isArrayOf_alike hZ.alike Ar216_3.2.1) Ar216_3.2.2 hin216_3 hat216_3 (g := (mkF m 216 #[.val (.ref b), .val (.int (6 : Int32))] [(.int (0 : Int32)), (.ref b), (.int (0 : Int32)), (.ref b2), (.ref b2), (.ref b1), (.ref b1)])) rfl rfl (hb hby d1_216) _ ?_
    refine st5 _ ?_
    refine XS.dup X5.here hx rfl (hb hby d1_218) rfl rfl ?_
    refine XS.iconst X5.here hx rfl (hb hby d1_219) ?_
    refine XS.aloadN X5.here hx rfl (hb hby d1_220) rfl rfl ?_
    refine XS.iconst X5.here hx rfl (hb hby d1_221) ?_
    show Steps p.tables e below (T5.setTop (mkF m 222 #[.val (.ref b), .val (.int (6 : Int32))] [(.int (1 : Int32)), (.ref b), (.int (1 : Int32)), (.ref b2), (.ref b2), (.ref b1), (.ref b1)])) _
    refine X5.caload hx (j := (1 : Int32)) (v := (.int sg1)) (by rw [e5]; exact Ar222_6.1) (State.isArrayOf_alike hZ.alike Ar222_6.2.1) Ar222_6.2.2 hin222_6 hat222_6 (g := (mkF m 222 #[.val (.ref b), .val (.int (6 : Int32))] [(.int (1 : Int32)), (.ref b), (.int (1 : Int32)), (.ref b2), (.ref b2), (.ref b1), (.ref b1)])) rfl rfl (hb hby d1_222) _ ?_
    refine st8 _ ?_
    refine XS.dup X8.here hx rfl (hb hby d1_224) rfl rfl ?_
    refine XS.iconst X8.here hx rfl (hb hby d1_225) ?_
    refine XS.aloadN X8.here hx rfl (hb hby d1_226) rfl rfl ?_
    refine XS.iconst X8.here hx rfl (hb hby d1_227) ?_
    show Steps p.tables e below (T8.setTop (mkF m 228 #[.val (.ref b), .val (.int (6 : Int32))] [(.int (2 : Int32)), (.ref b), (.int (2 : Int32)), (.ref b2), (.ref b2), (.ref b1), (.ref b1)])) _
    refine X8.caload hx (j := (2 : Int32)) (v := (.int sg2)) (by rw [e8]; exact Ar228_9.1) (State.isArrayOf_alike hZ.alike Ar228_9.2.1) Ar228_9.2.2 hin228_9 hat228_9 (g := (mkF m 228 #[.val (.ref b), .val (.int (6 : Int32))] [(.int (2 : Int32)), (.ref b), (.int (2 : Int32)), (.ref b2), (.ref b2), (.ref b1), (.ref b1)])) rfl rfl (hb hby d1_228) _ ?_
    refine st11 _ ?_
    refine XS.dup X11.here hx rfl (hb hby d1_230) rfl rfl ?_
    refine XS.iconst X11.here hx rfl (hb hby d1_231) ?_
    refine XS.aloadN X11.here hx rfl (hb hby d1_232) rfl rfl ?_
    refine XS.iconst X11.here hx rfl (hb hby d1_233) ?_
    show Steps p.tables e below (T11.setTop (mkF m 234 #[.val (.ref b), .val (.int (6 : Int32))] [(.int (3 : Int32)), (.ref b), (.int (3 : Int32)), (.ref b2), (.ref b2), (.ref b1), (.ref b1)])) _
    refine X11.caload hx (j := (3 : Int32)) (v := (.int sg3)) (by rw [e11]; exact Ar234_12.1) (State.isArrayOf_alike hZ.alike Ar234_12.2.1) Ar234_12.2.2 hin234_12 hat234_12 (g := (mkF m 234 #[.val (.ref b), .val (.int (6 : Int32))] [(.int (3 : Int32)), (.ref b), (.int (3 : Int32)), (.ref b2), (.ref b2), (.ref b1), (.ref b1)])) rfl rfl (hb hby d1_234) _ ?_
    refine st14 _ ?_
    refine XS.dup X14.here hx rfl (hb hby d1_236) rfl rfl ?_
    refine XS.iconst X14.here hx rfl (hb hby d1_237) ?_
    refine XS.aloadN X14.here hx rfl (hb hby d1_238) rfl rfl ?_
    refine XS.iconst X14.here hx rfl (hb hby d1_239) ?_
    show Steps p.tables e below (T14.setTop (mkF m 240 #[.val (.ref b), .val (.int (6 : Int32))] [(.int (4 : Int32)), (.ref b), (.int (4 : Int32)), (.ref b2), (.ref b2), (.ref b1), (.ref b1)])) _
    refine X14.caload hx (j := (4 : Int32)) (v := (.int sg4)) (by rw [e14]; exact Ar240_15.1) (State.isArrayOf_alike hZ.alike Ar240_15.2.1) Ar240_15.2.2 hin240_15 hat240_15 (g := (mkF m 240 #[.val (.ref b), .val (.int (6 : Int32))] [(.int (4 : Int32)), (.ref b), (.int (4 : Int32)), (.ref b2), (.ref b2), (.ref b1), (.ref b1)])) rfl rfl (hb hby d1_240) _ ?_
    refine st17 _ ?_
    refine XS.dup X17.here hx rfl (hb hby d1_242) rfl rfl ?_
    refine XS.iconst X17.here hx rfl (hb hby d1_243) ?_
    refine XS.aloadN X17.here hx rfl (hb hby d1_244) rfl rfl ?_
    refine XS.iconst X17.here hx rfl (hb hby d1_245) ?_
    show Steps p.tables e below (T17.setTop (mkF m 246 #[.val (.ref b), .val (.int (6 : Int32))] [(.int (5 : Int32)), (.ref b), (.int (5 : Int32)), (.ref b2), (.ref b2), (.ref b1), (.ref b1)])) _
    refine X17.caload hx (j := (5 : Int32)) (v := (.int sg5)) (by rw [e17]; exact Ar246_18.1) (State.isArrayOf_alike hZ.alike Ar246_18.2.1) Ar246_18.2.2 hin246_18 hat246_18 (g := (mkF m 246 #[.val (.ref b), .val (.int (6 : Int32))] [(.int (5 : Int32)), (.ref b), (.int (5 : Int32)), (.ref b2), (.ref b2), (.ref b1), (.ref b1)])) rfl rfl (hb hby d1_246) _ ?_
    refine st20 _ ?_
    refine st21.trans ?_
    show Steps p.tables e below (T21.setTop (mkF m 251 #[.val (.ref b), .val (.int (6 : Int32))] [(.ref b1)])) _
    exact kt
  obtain ⟨fs, hr, hrun, hended, hW, hsame⟩ := X21.leave (v := some (.ref b1)) (fun h => by rw [Bd.returns] at h; cases h)
  refine ⟨_, _, k22 _ ?_, hrun, hended, _, _, rfl, ?_, ⟨_, rfl⟩, hW, hsame.mono (by decide) (by decide)⟩
  · exact own_retA X21 hx Bd.returns rfl (hb hby d1_251) hr
  · show QStr Z [sg0, sg1, sg2, sg3, sg4, sg5] h0 n0 _ T21.heap _
    exact ⟨N21, KP21, b1, bt21, kb21, rfl, sz_b1, E21x, C21x, F21x, V21x⟩
theorem d1_252 : decode method_2_code 252 = .ok (.new 7, 3) := by decide +kernel
theorem d1_255 : decode method_2_code 255 = .ok (.dup, 1) := by decide +kernel
theorem d1_256 : decode method_2_code 256 = .ok (.bipush 7, 2) := by decide +kernel
theorem d1_258 : decode method_2_code 258 = .ok (.newarray .char, 2) := by decide +kernel
theorem d1_260 : decode method_2_code 260 = .ok (.dup, 1) := by decide +kernel
theorem d1_261 : decode method_2_code 261 = .ok (.iconst 0, 1) := by decide +kernel
theorem d1_262 : decode method_2_code 262 = .ok (.aload_n 0, 1) := by decide +kernel
theorem d1_263 : decode method_2_code 263 = .ok (.iconst 0, 1) := by decide +kernel
theorem d1_264 : decode method_2_code 264 = .ok (.caload, 1) := by decide +kernel
theorem d1_265 : decode method_2_code 265 = .ok (.castore, 1) := by decide +kernel
theorem d1_266 : decode method_2_code 266 = .ok (.dup, 1) := by decide +kernel
theorem d1_267 : decode method_2_code 267 = .ok (.iconst 1, 1) := by decide +kernel
theorem d1_268 : decode method_2_code 268 = .ok (.aload_n 0, 1) := by decide +kernel
theorem d1_269 : decode method_2_code 269 = .ok (.iconst 1, 1) := by decide +kernel
theorem d1_270 : decode method_2_code 270 = .ok (.caload, 1) := by decide +kernel
theorem d1_271 : decode method_2_code 271 = .ok (.castore, 1) := by decide +kernel
theorem d1_272 : decode method_2_code 272 = .ok (.dup, 1) := by decide +kernel
theorem d1_273 : decode method_2_code 273 = .ok (.iconst 2, 1) := by decide +kernel
theorem d1_274 : decode method_2_code 274 = .ok (.aload_n 0, 1) := by decide +kernel
theorem d1_275 : decode method_2_code 275 = .ok (.iconst 2, 1) := by decide +kernel
theorem d1_276 : decode method_2_code 276 = .ok (.caload, 1) := by decide +kernel
theorem d1_277 : decode method_2_code 277 = .ok (.castore, 1) := by decide +kernel
theorem d1_278 : decode method_2_code 278 = .ok (.dup, 1) := by decide +kernel
theorem d1_279 : decode method_2_code 279 = .ok (.iconst 3, 1) := by decide +kernel
theorem d1_280 : decode method_2_code 280 = .ok (.aload_n 0, 1) := by decide +kernel
theorem d1_281 : decode method_2_code 281 = .ok (.iconst 3, 1) := by decide +kernel
theorem d1_282 : decode method_2_code 282 = .ok (.caload, 1) := by decide +kernel
theorem d1_283 : decode method_2_code 283 = .ok (.castore, 1) := by decide +kernel
theorem d1_284 : decode method_2_code 284 = .ok (.dup, 1) := by decide +kernel
theorem d1_285 : decode method_2_code 285 = .ok (.iconst 4, 1) := by decide +kernel
theorem d1_286 : decode method_2_code 286 = .ok (.aload_n 0, 1) := by decide +kernel
theorem d1_287 : decode method_2_code 287 = .ok (.iconst 4, 1) := by decide +kernel
theorem d1_288 : decode method_2_code 288 = .ok (.caload, 1) := by decide +kernel
theorem d1_289 : decode method_2_code 289 = .ok (.castore, 1) := by decide +kernel
theorem d1_290 : decode method_2_code 290 = .ok (.dup, 1) := by decide +kernel
theorem d1_291 : decode method_2_code 291 = .ok (.iconst 5, 1) := by decide +kernel
theorem d1_292 : decode method_2_code 292 = .ok (.aload_n 0, 1) := by decide +kernel
theorem d1_293 : decode method_2_code 293 = .ok (.iconst 5, 1) := by decide +kernel
theorem d1_294 : decode method_2_code 294 = .ok (.caload, 1) := by decide +kernel
theorem d1_295 : decode method_2_code 295 = .ok (.castore, 1) := by decide +kernel
theorem d1_296 : decode method_2_code 296 = .ok (.dup, 1) := by decide +kernel
theorem d1_297 : decode method_2_code 297 = .ok (.bipush 6, 2) := by decide +kernel
theorem d1_299 : decode method_2_code 299 = .ok (.aload_n 0, 1) := by decide +kernel
theorem d1_300 : decode method_2_code 300 = .ok (.bipush 6, 2) := by decide +kernel
theorem d1_302 : decode method_2_code 302 = .ok (.caload, 1) := by decide +kernel
theorem d1_303 : decode method_2_code 303 = .ok (.castore, 1) := by decide +kernel
theorem d1_304 : decode method_2_code 304 = .ok (.invokespecial 9, 3) := by decide +kernel
theorem d1_307 : decode method_2_code 307 = .ok (.areturn, 1) := by decide +kernel
theorem ef_rmStr7 (m : MethodId) (b : Addr) : entryFrame m #[(.ref b), (.int (7 : Int32))] 2 = mkF m 0 #[.val (.ref b), .val (.int (7 : Int32))] [] := by first | (simp [entryFrame, mkF, argsToLocals, Value.category]; done) | rfl
set_option maxRecDepth 65536 in
set_option maxHeartbeats 40000000 in
theorem rmStr7 (l : Launch) (Z : State) (a0 : Array Value) (hw : ∀ d ∈ tables_1, d.before a0 Z = true) (ws : List Jvm.Cond) (b : Addr) (kc : ClassId) (cz : Int32) (sg0 sg1 sg2 sg3 sg4 sg5 sg6 sg7 : Int32) (h0 : Heap) (n0 : Nat) (Z0 : n0 ≤ h0.size) (Vb : Arv Z h0 b kc .char (8 : Int32) [(.int sg0), (.int sg1), (.int sg2), (.int sg3), (.int sg4), (.int sg5), (.int sg6), (.int sg7)] (.int (0 : Int32))) (ok0 : ok sg0) (ok1 : ok sg1) (ok2 : ok sg2) (ok3 : ok sg3) (ok4 : ok sg4) (ok5 : ok sg5) (ok6 : ok sg6) (ok7 : ok sg7) (S_cs : Sta Z h0 "java/lang/String" "COMPACT_STRINGS" "Z" (.int cz)) (hcz : ¬ cz = 0) :
    MetFree l (⟨"com/example/lifetable/lifetable/output/ExportFormatNamedPinLaw", "str", "([CI)Ljava/lang/String;"⟩ : MethodName) (head1 (Jvm.Cond.code (⟨"com/example/lifetable/lifetable/output/ExportFormatNamedPinLaw", "str", "([CI)Ljava/lang/String;"⟩ : MethodName) method_2_code 2 (some (.object "java/lang/String")) :: ws) ({ frames := 4, cells := 3, slots := 18, locals := 66 } : Room)) (fun a_ U_ => a_ = #[(.ref b), (.int (7 : Int32))] ∧ Z.Warmed39 U_.vm ∧ U_.heap = h0) (fun _ _ _ _ _ => True) (fun _ U_ o_ U'_ => ∃ v_ L_, o_ = .returned v_ ∧ QStr Z [sg0, sg1, sg2, sg3, sg4, sg5, sg6] h0 n0 v_ U'_.heap L_ ∧ FrameEnd U_ o_ U'_ L_ ({ frames := 4, cells := 3, slots := 18, locals := 66 } : Room).cells ({ frames := 4, cells := 3, slots := 18, locals := 66 } : Room).slots) := by
  refine MetFree.of_bodySF (plainFor_of_name pn_1) hisR ?_
  intro p e s m args below meth c s₁ Bd hml0 hP hK
  obtain ⟨rfl, hZ, hh⟩ := hP
  have hx := Bd.exec
  have hby := Bd.bytes
  have hml : c.maxLocals = 2 := hml0
  have hown : s.vm.findClass "com/example/lifetable/lifetable/output/ExportFormatNamedPinLaw" = some m.cls := findClass_of_methodNamed Bd.named
  have hnm := (name_of_methodNamed Bd.named Bd.method).1
  have X0 : Stand p l e ({ frames := 4, cells := 3, slots := 18, locals := 66 } : Room) s m #[(.ref b), (.int (7 : Int32))] below meth c s₁ [] 0 0 := Stand.of_body Bd
  have e0 : s₁.heap = h0 := by rw [← hh, Bd.state]; rfl
  have N0 := Fr.nil n0
  have k0 : ∀ tg, Steps p.tables e below (s₁.setTop (mkF m 0 #[.val (.ref b), .val (.int (7 : Int32))] [])) tg → Steps p.tables e below (s₁.setTop (entryFrame m #[(.ref b), (.int (7 : Int32))] 2)) tg := fun tg kq_ => castTop (ef_rmStr7 m b) kq_
  obtain ⟨T1, h1, X1, e1, E1, A1, D1, -, st1⟩ := newO X0 hx hZ hown (ww hw 6 rfl) (ww hw 7 rfl) (ww hw 8 rfl) e0 (g := (mkF m 252 #[.val (.ref b), .val (.int (7 : Int32))] [])) rfl (hb hby d1_252) (by decide) (by decide)
  obtain ⟨b1, g1⟩ : ∃ z, z = h0.size := ⟨_, rfl⟩
  have ne_b_b1 : b ≠ b1 := Nat.ne_of_lt (Nat.lt_of_lt_of_le Vb.lt (Nat.le_of_eq g1.symm))
  have g_b1 : n0 ≤ b1 := Nat.le_trans Z0 (Nat.le_of_eq g1.symm)
  have sz_b1 : h0.size ≤ b1 := Nat.le_trans (Keep.refl h0 []).1 (Nat.le_of_eq g1.symm)
  rw [← g1] at A1 D1 st1
  have V1_b := Vb.ext E1
  have Z1 := Nat.le_trans Z0 E1.1
  have KP1 := (Keep.refl h0 []).ext E1
  have F_coder_b1 : Fld Z h1 b1 "java/lang/String" "coder" "B" (.int (0 : Int32)) := D1 (Or.inr (ww hw 32 rfl)) (ty := .byte) (by decide)
  have F_value_b1 : Fld Z h1 b1 "java/lang/String" "value" "[B" .null := D1 (Or.inr (ww hw 34 rfl)) (ty := (.array .byte)) (by decide)
  obtain ⟨T2, h2, c2, X2, e2, E2, A2, st2⟩ := newP X1 hx hZ (ww hw 0 rfl) e1 (g := (mkF m 258 #[.val (.ref b), .val (.int (7 : Int32))] [(.int (7 : Int32)), (.ref b1), (.ref b1)])) rfl (hb hby d1_258) rfl (by decide) (cap := 7) (by decide) (by decide) (by decide) (by decide)
  obtain ⟨b2, g2⟩ : ∃ z, z = h1.size := ⟨_, rfl⟩
  have ne_b_b2 : b ≠ b2 := Nat.ne_of_lt (Nat.lt_of_lt_of_le V1_b.lt (Nat.le_of_eq g2.symm))
  have ne_b1_b2 : b1 ≠ b2 := Nat.ne_of_lt (Nat.lt_of_lt_of_le A1.lt (Nat.le_of_eq g2.symm))
  have g_b2 : n0 ≤ b2 := Nat.le_trans Z1 (Nat.le_of_eq g2.symm)
  have sz_b2 : h0.size ≤ b2 := Nat.le_trans KP1.1 (Nat.le_of_eq g2.symm)
  rw [← g2] at A2 st2
  have V2_b := V1_b.ext E2
  have E2_b1 := A1.ext E2
  have F2_b1_coder := F_coder_b1.ext E2
  have F2_b1_value := F_value_b1.ext E2
  have Z2 := Nat.le_trans Z1 E2.1
  have KP2 := KP1.ext E2
  have V_b2 : Arv Z h2 b2 c2 .char (7 : Int32) [(.int (0 : Int32)), (.int (0 : Int32)), (.int (0 : Int32)), (.int (0 : Int32)), (.int (0 : Int32)), (.int (0 : Int32)), (.int (0 : Int32))] (.int (0 : Int32)) := (Arv.new A2 (by decide)).pad (pad_rep [] (.int (0 : Int32)) 7)
  obtain ⟨cl264_3, Ar264_3, q264_3, S264_3, N264_3_, H264_3, G264_3⟩ := id V2_b
  have hin264_3 : ¬ ((0 : Int32) < 0 ∨ cl264_3.slots.size ≤ ((0 : Int32)).toNatClampNeg) := inb_of S264_3 ⟨by decide, by decide⟩
  have hat264_3 : cl264_3.slots[((0 : Int32)).toNatClampNeg]? = some (.int sg0) := H264_3.at hin264_3 rfl
  obtain ⟨cl265_4, Ar265_4, q265_4, S265_4, N265_4_, H265_4, G265_4⟩ := id V_b2
  have hin265_4 : ¬ ((0 : Int32) < 0 ∨ cl265_4.slots.size ≤ ((0 : Int32)).toNatClampNeg) := inb_of S265_4 ⟨by decide, by decide⟩
  obtain ⟨T5, h5, X5, e5, W5, st5⟩ := stC X2 hx hZ e2 Ar265_4 (j := (0 : Int32)) hin265_4 (g := (mkF m 265 #[.val (.ref b), .val (.int (7 : Int32))] [(.int sg0), (.int (0 : Int32)), (.ref b2), (.ref b2), (.ref b1), (.ref b1)])) rfl rfl (hb hby d1_265)
  have V5_b := V2_b.other W5 ne_b_b2
  have E5_b1 := E2_b1.wr W5
  have F5_b1_coder := F2_b1_coder.other W5 (Or.inl ne_b1_b2)
  have F5_b1_value := F2_b1_value.other W5 (Or.inl ne_b1_b2)
  have Z5 := Nat.le_trans Z2 (Keep.of_wr W5).1
  have KP5 := KP2.wr W5 (Or.inr sz_b2)
  have N5 := Fr.snoc X5 N0 g_b2
  have V5_b2 : Arv Z h5 b2 c2 .char (7 : Int32) [(.int (nar .char sg0)), (.int (0 : Int32)), (.int (0 : Int32)), (.int (0 : Int32)), (.int (0 : Int32)), (.int (0 : Int32)), (.int (0 : Int32))] (.int (0 : Int32)) := Arv.set Ar265_4 q265_4 S265_4 N265_4_ H265_4 G265_4 (fits_nar_char _) W5 0 rfl (Nat.le_of_ble_eq_true rfl)
  obtain ⟨cl270_6, Ar270_6, q270_6, S270_6, N270_6_, H270_6, G270_6⟩ := id V5_b
  have hin270_6 : ¬ ((1 : Int32) < 0 ∨ cl270_6.slots.size ≤ ((1 : Int32)).toNatClampNeg) := inb_of S270_6 ⟨by decide, by decide⟩
  have hat270_6 : cl270_6.slots[((1 : Int32)).toNatClampNeg]? = some (.int sg1) := H270_6.at hin270_6 rfl
  obtain ⟨cl271_7, Ar271_7, q271_7, S271_7, N271_7_, H271_7, G271_7⟩ := id V5_b2
  have hin271_7 : ¬ ((1 : Int32) < 0 ∨ cl271_7.slots.size ≤ ((1 : Int32)).toNatClampNeg) := inb_of S271_7 ⟨by decide, by decide⟩
  obtain ⟨T8, h8, X8, e8, W8, st8⟩ := stC X5 hx hZ e5 Ar271_7 (j := (1 : Int32)) hin271_7 (g := (mkF m 271 #[.val (.ref b), .val (.int (7 : Int32))] [(.int sg1), (.int (1 : Int32)), (.ref b2), (.ref b2), (.ref b1), (.ref b1)])) rfl rfl (hb hby d1_271)
  have V8_b := V5_b.other W8 ne_b_b2
  have E8_b1 := E5_b1.wr W8
  have F8_b1_coder := F5_b1_coder.other W8 (Or.inl ne_b1_b2)
  have F8_b1_value := F5_b1_value.other W8 (Or.inl ne_b1_b2)
  have Z8 := Nat.le_trans Z5 (Keep.of_wr W8).1
  have KP8 := KP5.wr W8 (Or.inr sz_b2)
  have N8 := Fr.snoc X8 N5 g_b2
  have V8_b2 : Arv Z h8 b2 c2 .char (7 : Int32) [(.int (nar .char sg0)), (.int (nar .char sg1)), (.int (0 : Int32)), (.int (0 : Int32)), (.int (0 : Int32)), (.int (0 : Int32)), (.int (0 : Int32))] (.int (0 : Int32)) := Arv.set Ar271_7 q271_7 S271_7 N271_7_ H271_7 G271_7 (fits_nar_char _) W8 1 rfl (Nat.le_of_ble_eq_true rfl)
  obtain ⟨cl276_9, Ar276_9, q276_9, S276_9, N276_9_, H276_9, G276_9⟩ := id V8_b
  have hin276_9 : ¬ ((2 : Int32) < 0 ∨ cl276_9.slots.size ≤ ((2 : Int32)).toNatClampNeg) := inb_of S276_9 ⟨by decide, by decide⟩
  have hat276_9 : cl276_9.slots[((2 : Int32)).toNatClampNeg]? = some (.int sg2) := H276_9.at hin276_9 rfl
  obtain ⟨cl277_10, Ar277_10, q277_10, S277_10, N277_10_, H277_10, G277_10⟩ := id V8_b2
  have hin277_10 : ¬ ((2 : Int32) < 0 ∨ cl277_10.slots.size ≤ ((2 : Int32)).toNatClampNeg) := inb_of S277_10 ⟨by decide, by decide⟩
  obtain ⟨T11, h11, X11, e11, W11, st11⟩ := stC X8 hx hZ e8 Ar277_10 (j := (2 : Int32)) hin277_10 (g := (mkF m 277 #[.val (.ref b), .val (.int (7 : Int32))] [(.int sg2), (.int (2 : Int32)), (.ref b2), (.ref b2), (.ref b1), (.ref b1)])) rfl rfl (hb hby d1_277)
  have V11_b := V8_b.other W11 ne_b_b2
  have E11_b1 := E8_b1.wr W11
  have F11_b1_coder := F8_b1_coder.other W11 (Or.inl ne_b1_b2)
  have F11_b1_value := F8_b1_value.other W11 (Or.inl ne_b1_b2)
  have Z11 := Nat.le_trans Z8 (Keep.of_wr W11).1
  have KP11 := KP8.wr W11 (Or.inr sz_b2)
  have N11 := Fr.snoc X11 N8 g_b2
  have V11_b2 : Arv Z h11 b2 c2 .char (7 : Int32) [(.int (nar .char sg0)), (.int (nar .char sg1)), (.int (nar .char sg2)), (.int (0 : Int32)), (.int (0 : Int32)), (.int (0 : Int32)), (.int (0 : Int32))] (.int (0 : Int32)) := Arv.set Ar277_10 q277_10 S277_10 N277_10_ H277_10 G277_10 (fits_nar_char _) W11 2 rfl (Nat.le_of_ble_eq_true rfl)
  obtain ⟨cl282_12, Ar282_12, q282_12, S282_12, N282_12_, H282_12, G282_12⟩ := id V11_b
  have hin282_12 : ¬ ((3 : Int32) < 0 ∨ cl282_12.slots.size ≤ ((3 : Int32)).toNatClampNeg) := inb_of S282_12 ⟨by decide, by decide⟩
  have hat282_12 : cl282_12.slots[((3 : Int32)).toNatClampNeg]? = some (.int sg3) := H282_12.at hin282_12 rfl
  obtain ⟨cl283_13, Ar283_13, q283_13, S283_13, N283_13_, H283_13, G283_13⟩ := id V11_b2
  have hin283_13 : ¬ ((3 : Int32) < 0 ∨ cl283_13.slots.size ≤ ((3 : Int32)).toNatClampNeg) := inb_of S283_13 ⟨by decide, by decide⟩
  obtain ⟨T14, h14, X14, e14, W14, st14⟩ := stC X11 hx hZ e11 Ar283_13 (j := (3 : Int32)) hin283_13 (g := (mkF m 283 #[.val (.ref b), .val (.int (7 : Int32))] [(.int sg3), (.int (3 : Int32)), (.ref b2), (.ref b2), (.ref b1), (.ref b1)])) rfl rfl (hb hby d1_283)
  have V14_b := V11_b.other W14 ne_b_b2
  have E14_b1 := E11_b1.wr W14
  have F14_b1_coder := F11_b1_coder.other W14 (Or.inl ne_b1_b2)
  have F14_b1_value := F11_b1_value.other W14 (Or.inl ne_b1_b2)
  have Z14 := Nat.le_trans Z11 (Keep.of_wr W14).1
  have KP14 := KP11.wr W14 (Or.inr sz_b2)
  have N14 := Fr.snoc X14 N11 g_b2
  have V14_b2 : Arv Z h14 b2 c2 .char (7 : Int32) [(.int (nar .char sg0)), (.int (nar .char sg1)), (.int (nar .char sg2)), (.int (nar .char sg3)), (.int (0 : Int32)), (.int (0 : Int32)), (.int (0 : Int32))] (.int (0 : Int32)) := Arv.set Ar283_13 q283_13 S283_13 N283_13_ H283_13 G283_13 (fits_nar_char _) W14 3 rfl (Nat.le_of_ble_eq_true rfl)
  obtain ⟨cl288_15, Ar288_15, q288_15, S288_15, N288_15_, H288_15, G288_15⟩ := id V14_b
  have hin288_15 : ¬ ((4 : Int32) < 0 ∨ cl288_15.slots.size ≤ ((4 : Int32)).toNatClampNeg) := inb_of S288_15 ⟨by decide, by decide⟩
  have hat288_15 : cl288_15.slots[((4 : Int32)).toNatClampNeg]? = some (.int sg4) := H288_15.at hin288_15 rfl
  obtain ⟨cl289_16, Ar289_16, q289_16, S289_16, N289_16_, H289_16, G289_16⟩ := id V14_b2
  have hin289_16 : ¬ ((4 : Int32) < 0 ∨ cl289_16.slots.size ≤ ((4 : Int32)).toNatClampNeg) := inb_of S289_16 ⟨by decide, by decide⟩
  obtain ⟨T17, h17, X17, e17, W17, st17⟩ := stC X14 hx hZ e14 Ar289_16 (j := (4 : Int32)) hin289_16 (g := (mkF m 289 #[.val (.ref b), .val (.int (7 : Int32))] [(.int sg4), (.int (4 : Int32)), (.ref b2), (.ref b2), (.ref b1), (.ref b1)])) rfl rfl (hb hby d1_289)
  have V17_b := V14_b.other W17 ne_b_b2
  have E17_b1 := E14_b1.wr W17
  have F17_b1_coder := F14_b1_coder.other W17 (Or.inl ne_b1_b2)
  have F17_b1_value := F14_b1_value.other W17 (Or.inl ne_b1_b2)
  have Z17 := Nat.le_trans Z14 (Keep.of_wr W17).1
  have KP17 := KP14.wr W17 (Or.inr sz_b2)
  have N17 := Fr.snoc X17 N14 g_b2
  have V17_b2 : Arv Z h17 b2 c2 .char (7 : Int32) [(.int (nar .char sg0)), (.int (nar .char sg1)), (.int (nar .char sg2)), (.int (nar .char sg3)), (.int (nar .char sg4)), (.int (0 : Int32)), (.int (0 : Int32))] (.int (0 : Int32)) := Arv.set Ar289_16 q289_16 S289_16 N289_16_ H289_16 G289_16 (fits_nar_char _) W17 4 rfl (Nat.le_of_ble_eq_true rfl)
  obtain ⟨cl294_18, Ar294_18, q294_18, S294_18, N294_18_, H294_18, G294_18⟩ := id V17_b
  have hin294_18 : ¬ ((5 : Int32) < 0 ∨ cl294_18.slots.size ≤ ((5 : Int32)).toNatClampNeg) := inb_of S294_18 ⟨by decide, by decide⟩
  have hat294_18 : cl294_18.slots[((5 : Int32)).toNatClampNeg]? = some (.int sg5) := H294_18.at hin294_18 rfl
  obtain ⟨cl295_19, Ar295_19, q295_19, S295_19, N295_19_, H295_19, G295_19⟩ := id V17_b2
  have hin295_19 : ¬ ((5 : Int32) < 0 ∨ cl295_19.slots.size ≤ ((5 : Int32)).toNatClampNeg) := inb_of S295_19 ⟨by decide, by decide⟩
  obtain ⟨T20, h20, X20, e20, W20, st20⟩ := stC X17 hx hZ e17 Ar295_19 (j := (5 : Int32)) hin295_19 (g := (mkF m 295 #[.val (.ref b), .val (.int (7 : Int32))] [(.int sg5), (.int (5 : Int32)), (.ref b2), (.ref b2), (.ref b1), (.ref b1)])) rfl rfl (hb hby d1_295)
  have V20_b := V17_b.other W20 ne_b_b2
  have E20_b1 := E17_b1.wr W20
  have F20_b1_coder := F17_b1_coder.other W20 (Or.inl ne_b1_b2)
  have F20_b1_value := F17_b1_value.other W20 (Or.inl ne_b1_b2)
  have Z20 := Nat.le_trans Z17 (Keep.of_wr W20).1
  have KP20 := KP17.wr W20 (Or.inr sz_b2)
  have N20 := Fr.snoc X20 N17 g_b2
  have V20_b2 : Arv Z h20 b2 c2 .char (7 : Int32) [(.int (nar .char sg0)), (.int (nar .char sg1)), (.int (nar .char sg2)), (.int (nar .char sg3)), (.int (nar .char sg4)), (.int (nar .char sg5)), (.int (0 : Int32))] (.int (0 : Int32)) := Arv.set Ar295_19 q295_19 S295_19 N295_19_ H295_19 G295_19 (fits_nar_char _) W20 5 rfl (Nat.le_of_ble_eq_true rfl)
  obtain ⟨cl302_21, Ar302_21, q302_21, S302_21, N302_21_, H302_21, G302_21⟩ := id V20_b
  have hin302_21 : ¬ ((6 : Int32) < 0 ∨ cl302_21.slots.size ≤ ((6 : Int32)).toNatClampNeg) := inb_of S302_21 ⟨by decide, by decide⟩
  have hat302_21 : cl302_21.slots[((6 : Int32)).toNatClampNeg]? = some (.int sg6) := H302_21.at hin302_21 rfl
  obtain ⟨cl303_22, Ar303_22, q303_22, S303_22, N303_22_, H303_22, G303_22⟩ := id V20_b2
  have hin303_22 : ¬ ((6 : Int32) < 0 ∨ cl303_22.slots.size ≤ ((6 : Int32)).toNatClampNeg) := inb_of S303_22 ⟨by decide, by decide⟩
  obtain ⟨T23, h23, X23, e23, W23, st23⟩ := stC X20 hx hZ e20 Ar303_22 (j := (6 : Int32)) hin303_22 (g := (mkF m 303 #[.val (.ref b), .val (.int (7 : Int32))] [(.int sg6), (.int (6 : Int32)), (.ref b2), (.ref b2), (.ref b1), (.ref b1)])) rfl rfl (hb hby d1_303)
  have V23_b := V20_b.other W23 ne_b_b2
  have E23_b1 := E20_b1.wr W23
  have F23_b1_coder := F20_b1_coder.other W23 (Or.inl ne_b1_b2)
  have F23_b1_value := F20_b1_value.other W23 (Or.inl ne_b1_b2)
  have Z23 := Nat.le_trans Z20 (Keep.of_wr W23).1
  have KP23 := KP20.wr W23 (Or.inr sz_b2)
  have N23 := Fr.snoc X23 N20 g_b2
  have V23_b2 : Arv Z h23 b2 c2 .char (7 : Int32) [(.int (nar .char sg0)), (.int (nar .char sg1)), (.int (nar .char sg2)), (.int (nar .char sg3)), (.int (nar .char sg4)), (.int (nar .char sg5)), (.int (nar .char sg6))] (.int (0 : Int32)) := Arv.set Ar303_22 q303_22 S303_22 N303_22_ H303_22 G303_22 (fits_nar_char _) W23 6 rfl (Nat.le_of_ble_eq_true rfl)
  have Vc : Arv Z h23 b2 c2 .char (7 : Int32) [(.int sg0), (.int sg1), (.int sg2), (.int sg3), (.int sg4), (.int sg5), (.int sg6)] (.int (0 : Int32)) := by
    have q := V23_b2
    rw [own_narc sg0 ok0, own_narc sg1 ok1, own_narc sg2 ok2, own_narc sg3 ok3, own_narc sg4 ok4, own_narc sg5 ok5, own_narc sg6 ok6] at q
    exact q
  have hp : ∀ c ∈ ([sg0, sg1, sg2, sg3, sg4, sg5, sg6] : List Int32), ¬ c < 0 ∧ ¬ (255 : Int32) < c := by
    intro c hc
    simp only [List.mem_cons, List.not_mem_nil, or_false] at hc
    rcases hc with rfl | rfl | rfl | rfl | rfl | rfl | rfl <;> assumption
  have hws : ∀ d ∈ StrChars.Road.words, d.before a0 Z = true := fun d hd => hw d ((by decide +kernel : ∀ d ∈ StrChars.Road.words, d ∈ tables_1) d hd)
  obtain ⟨_, _, ⟨T24, L24, k24, n24⟩, -, X24, ⟨Lc24, hQ24, l24, y24, z24⟩, st24⟩ := X23.specialBack hx (y := (⟨"java/lang/String", "<init>", "([C)V"⟩ : MethodName)) rfl hown (mvT hZ (ww hw 9 rfl)) (mvT hZ (ww hw 10 rfl)) (mvT hZ (ww hw 11 rfl)) (by decide) (StrChars.Road.backV (W := 1) hZ hws (kI := 4) (ww hw 7 rfl) (cs := ([sg0, sg1, sg2, sg3, sg4, sg5, sg6] : List Int32)) (bs := ([sg0, sg1, sg2, sg3, sg4, sg5, sg6] : List Int32).map (fun c => c.toInt8.toInt32)) (n := 7) g_b1 Z23 E23_b1 F23_b1_value F23_b1_coder Vc (S_cs.ext (own_extK KP23)) hcz rfl rfl (by decide) (by decide) hp rfl (by decide) (by decide)) (g := (mkF m 304 #[.val (.ref b), .val (.int (7 : Int32))] [(.ref b2), (.ref b1), (.ref b1)])) rfl (by rw [hml]; rfl) (Steps.refl _) (a := b1) (argsL := [(.ref b2)]) (rest := [(.ref b1)]) (lenOf pd_0 rfl) rfl (by show 2 * 0 + _ ≤ _; exact Nat.le_of_eq rfl) (hb hby d1_304) (fun _ _ => ⟨rfl, e23, (by decide : 2 + 1 ≤ _), (by decide : 11 + 7 ≤ _)⟩)
  dsimp only [Pt.U, Pt.locs, Pt.cells, Pt.slots] at X24 l24 y24 z24 st24 hQ24
  subst l24 y24 z24
  obtain ⟨rfl, N24q, K24, E24x, C24x, bt24, kb24, -, le24, -, F24x, V24x⟩ := hQ24
  have N24 := Fr.app N23 N24q
  have ne_b_bt24 : b ≠ bt24 := Nat.ne_of_lt (Nat.lt_of_lt_of_le V23_b.lt le24)
  have ne_b1_bt24 : b1 ≠ bt24 := Nat.ne_of_lt (Nat.lt_of_lt_of_le E23_b1.lt le24)
  have ne_b2_bt24 : b2 ≠ bt24 := Nat.ne_of_lt (Nat.lt_of_lt_of_le V23_b2.lt le24)
  have g_bt24 : n0 ≤ bt24 := Nat.le_trans Z23 le24
  have sz_bt24 : h0.size ≤ bt24 := Nat.le_trans KP23.1 le24
  have V24_b2 := V23_b2.keep K24 (ninS (Ne.symm ne_b1_b2) nin0)
  have Z24 := Nat.le_trans Z23 K24.1
  have KP24 := KP23.trans K24 (allS (Or.inr sz_b1) all0)
  have k25 : ∀ tg, Steps p.tables e below (T24.setTop (mkF m 307 #[.val (.ref b), .val (.int (7 : Int32))] [(.ref b1)])) tg → Steps p.tables e below (s₁.setTop (entryFrame m #[(.ref b), (.int (7 : Int32))] 2)) tg := by
    intro tg kt
    refine k0 tg ?_
    show Steps p.tables e below (s₁.setTop (mkF m 0 #[.val (.ref b), .val (.int (7 : Int32))] [])) _
    refine XS.iloadN X0.here hx rfl (hb hby d1_0) rfl ?_
    refine XS.tswIn X0.here hx rfl (pc0 := 1) (pc' := 252) rfl (hb hby d1_1) rfl (by decide) (o := 251) (by decide) (by decide) (by decide) ?_
    refine st1 _ ?_
    show Steps p.tables e below (T1.setTop (mkF m 255 #[.val (.ref b), .val (.int (7 : Int32))] [(.ref b1)])) _
    refine XS.dup X1.here hx rfl (hb hby d1_255) rfl rfl ?_
    refine XS.bipush X1.here hx rfl (hb hby d1_256) ?_
    refine st2 _ ?_
    refine XS.dup X2.here hx rfl (hb hby d1_260) rfl rfl ?_
    refine XS.iconst X2.here hx rfl (hb hby d1_261) ?_
    refine XS.aloadN X2.here hx rfl (hb hby d1_262) rfl rfl ?_
    refine XS.iconst X2.here hx rfl (hb hby d1_263) ?_
    show Steps p.tables e below (T2.setTop (mkF m 264 #[.val (.ref b), .val (.int (7 : Int32))] [(.int (0 : Int32)), (.ref b), (.int (0 : Int32)), (.ref b2), (.ref b2), (.ref b1), (.ref b1)])) _
    refine X2.caload hx (j := (0 : Int32)) (v := (.int sg0)) (by rw [e2]; exact Ar264_3.1) (State.isArrayOf_alike hZ.alike Ar264_3.2.1) Ar264_3.2.2 hin264_3 hat264_3 (g := (mkF m 264 #[.val (.ref b), .val (.int (7 : Int32))] [(.int (0 : Int32)), (.ref b), (.int (0 : Int32)), (.ref b2), (.ref b2), (.ref b1), (.ref b1)])) rfl rfl (hb hby d1_264) _ ?_
    refine st5 _ ?_
    refine XS.dup X5.here hx rfl (hb hby d1_266) rfl rfl ?_
    refine XS.iconst X5.here hx rfl (hb hby d1_267) ?_
    refine XS.aloadN X5.here hx rfl (hb hby d1_268) rfl rfl ?_
    refine XS.iconst X5.here hx rfl (hb hby d1_269) ?_
    show Steps p.tables e below (T5.setTop (mkF m 270 #[.val (.ref b), .val (.int (7 : Int32))] [(.int (1 : Int32)), (.ref b), (.int (1 : Int32)), (.ref b2), (.ref b2), (.ref b1), (.ref b1)])) _
    refine X5.caload hx (j := (1 : Int32)) (v := (.int sg1)) (by rw [e5]; exact Ar270_6.1) (State.isArrayOf_alike hZ.alike Ar270_6.2.1) Ar270_6.2.2 hin270_6 hat270_6 (g := (mkF m 270 #[.val (.ref b), .val (.int (7 : Int32))] [(.int (1 : Int32)), (.ref b), (.int (1 : Int32)), (.ref b2), (.ref b2), (.ref b1), (.ref b1)])) rfl rfl (hb hby d1_270) _ ?_
    refine st8 _ ?_
    refine XS.dup X8.here hx rfl (hb hby d1_272) rfl rfl ?_
    refine XS.iconst X8.here hx rfl (hb hby d1_273) ?_
    refine XS.aloadN X8.here hx rfl (hb hby d1_274) rfl rfl ?_
    refine XS.iconst X8.here hx rfl (hb hby d1_275) ?_
    show Steps p.tables e below (T8.setTop (mkF m 276 #[.val (.ref b), .val (.int (7 : Int32))] [(.int (2 : Int32)), (.ref b), (.int (2 : Int32)), (.ref b2), (.ref b2), (.ref b1), (.ref b1)])) _
    refine X8.caload hx (j := (2 : Int32)) (v := (.int sg2)) (by rw [e8]; exact Ar276_9.1) (State.isArrayOf_alike hZ.alike Ar276_9.2.1) Ar276_9.2.2 hin276_9 hat276_9 (g := (mkF m 276 #[.val (.ref b), .val (.int (7 : Int32))] [(.int (2 : Int32)), (.ref b), (.int (2 : Int32)), (.ref b2), (.ref b2), (.ref b1), (.ref b1)])) rfl rfl (hb hby d1_276) _ ?_
    refine st11 _ ?_
    refine XS.dup X11.here hx rfl (hb hby d1_278) rfl rfl ?_
    refine XS.iconst X11.here hx rfl (hb hby d1_279) ?_
    refine XS.aloadN X11.here hx rfl (hb hby d1_280) rfl rfl ?_
    refine XS.iconst X11.here hx rfl (hb hby d1_281) ?_
    show Steps p.tables e below (T11.setTop (mkF m 282 #[.val (.ref b), .val (.int (7 : Int32))] [(.int (3 : Int32)), (.ref b), (.int (3 : Int32)), (.ref b2), (.ref b2), (.ref b1), (.ref b1)])) _
    refine X11.caload hx (j := (3 : Int32)) (v := (.int sg3)) (by rw [e11]; exact Ar282_12.1) (State.isArrayOf_alike hZ.alike Ar282_12.2.1) Ar282_12.2.2 hin282_12 hat282_12 (g := (mkF m 282 #[.val (.ref b), .val (.int (7 : Int32))] [(.int (3 : Int32)), (.ref b), (.int (3 : Int32)), (.ref b2), (.ref b2), (.ref b1), (.ref b1)])) rfl rfl (hb hby d1_282) _ ?_
    refine st14 _ ?_
    refine XS.dup X14.here hx rfl (hb hby d1_284) rfl rfl ?_
    refine XS.iconst X14.here hx rfl (hb hby d1_285) ?_
    refine XS.aloadN X14.here hx rfl (hb hby d1_286) rfl rfl ?_
    refine XS.iconst X14.here hx rfl (hb hby d1_287) ?_
    show Steps p.tables e below (T14.setTop (mkF m 288 #[.val (.ref b), .val (.int (7 : Int32))] [(.int (4 : Int32)), (.ref b), (.int (4 : Int32)), (.ref b2), (.ref b2), (.ref b1), (.ref b1)])) _
    refine X14.caload hx (j := (4 : Int32)) (v := (.int sg4)) (by rw [e14]; exact Ar288_15.1) (State.isArrayOf_alike hZ.alike Ar288_15.2.1) Ar288_15.2.2 hin288_15 hat288_15 (g := (mkF m 288 #[.val (.ref b), .val (.int (7 : Int32))] [(.int (4 : Int32)), (.ref b), (.int (4 : Int32)), (.ref b2), (.ref b2), (.ref b1), (.ref b1)])) rfl rfl (hb hby d1_288) _ ?_
    refine st17 _ ?_
    refine XS.dup X17.here hx rfl (hb hby d1_290) rfl rfl ?_
    refine XS.iconst X17.here hx rfl (hb hby d1_291) ?_
    refine XS.aloadN X17.here hx rfl (hb hby d1_292) rfl rfl ?_
    refine XS.iconst X17.here hx rfl (hb hby d1_293) ?_
    show Steps p.tables e below (T17.setTop (mkF m 294 #[.val (.ref b), .val (.int (7 : Int32))] [(.int (5 : Int32)), (.ref b), (.int (5 : Int32)), (.ref b2), (.ref b2), (.ref b1), (.ref b1)])) _
    refine X17.caload hx (j := (5 : Int32)) (v := (.int sg5)) (by rw [e17]; exact Ar294_18.1) (State.isArrayOf_alike hZ.alike Ar294_18.2.1) Ar294_18.2.2 hin294_18 hat294_18 (g := (mkF m 294 #[.val (.ref b), .val (.int (7 : Int32))] [(.int (5 : Int32)), (.ref b), (.int (5 : Int32)), (.ref b2), (.ref b2), (.ref b1), (.ref b1)])) rfl rfl (hb hby d1_294) _ ?_
    refine st20 _ ?_
    refine XS.dup X20.here hx rfl (hb hby d1_296) rfl rfl ?_
    refine XS.bipush X20.here hx rfl (hb hby d1_297) ?_
    refine XS.aloadN X20.here hx rfl (hb hby d1_299) rfl rfl ?_
    refine XS.bipush X20.here hx rfl (hb hby d1_300) ?_
    show Steps p.tables e below (T20.setTop (mkF m 302 #[.val (.ref b), .val (.int (7 : Int32))] [(.int (6 : Int32)), (.ref b), (.int (6 : Int32)), (.ref b2), (.ref b2), (.ref b1), (.ref b1)])) _
    refine X20.caload hx (j := (6 : Int32)) (v := (.int sg6)) (by rw [e20]; exact Ar302_21.1) (State.isArrayOf_alike hZ.alike Ar302_21.2.1) Ar302_21.2.2 hin302_21 hat302_21 (g := (mkF m 302 #[.val (.ref b), .val (.int (7 : Int32))] [(.int (6 : Int32)), (.ref b), (.int (6 : Int32)), (.ref b2), (.ref b2), (.ref b1), (.ref b1)])) rfl rfl (hb hby d1_302) _ ?_
    refine st23 _ ?_
    refine st24.trans ?_
    show Steps p.tables e below (T24.setTop (mkF m 307 #[.val (.ref b), .val (.int (7 : Int32))] [(.ref b1)])) _
    exact kt
  obtain ⟨fs, hr, hrun, hended, hW, hsame⟩ := X24.leave (v := some (.ref b1)) (fun h => by rw [Bd.returns] at h; cases h)
  refine ⟨_, _, k25 _ ?_, hrun, hended, _, _, rfl, ?_, ⟨_, rfl⟩, hW, hsame.mono (by decide) (by decide)⟩
  · exact own_retA X24 hx Bd.returns rfl (hb hby d1_307) hr
  · show QStr Z [sg0, sg1, sg2, sg3, sg4, sg5, sg6] h0 n0 _ T24.heap _
    exact ⟨N24, KP24, b1, bt24, kb24, rfl, sz_b1, E24x, C24x, F24x, V24x⟩
theorem d1_308 : decode method_2_code 308 = .ok (.new 7, 3) := by decide +kernel
theorem d1_311 : decode method_2_code 311 = .ok (.dup, 1) := by decide +kernel
theorem d1_312 : decode method_2_code 312 = .ok (.bipush 8, 2) := by decide +kernel
theorem d1_314 : decode method_2_code 314 = .ok (.newarray .char, 2) := by decide +kernel
theorem d1_316 : decode method_2_code 316 = .ok (.dup, 1) := by decide +kernel
theorem d1_317 : decode method_2_code 317 = .ok (.iconst 0, 1) := by decide +kernel
theorem d1_318 : decode method_2_code 318 = .ok (.aload_n 0, 1) := by decide +kernel
theorem d1_319 : decode method_2_code 319 = .ok (.iconst 0, 1) := by decide +kernel
theorem d1_320 : decode method_2_code 320 = .ok (.caload, 1) := by decide +kernel
theorem d1_321 : decode method_2_code 321 = .ok (.castore, 1) := by decide +kernel
theorem d1_322 : decode method_2_code 322 = .ok (.dup, 1) := by decide +kernel
theorem d1_323 : decode method_2_code 323 = .ok (.iconst 1, 1) := by decide +kernel
theorem d1_324 : decode method_2_code 324 = .ok (.aload_n 0, 1) := by decide +kernel
theorem d1_325 : decode method_2_code 325 = .ok (.iconst 1, 1) := by decide +kernel
theorem d1_326 : decode method_2_code 326 = .ok (.caload, 1) := by decide +kernel
theorem d1_327 : decode method_2_code 327 = .ok (.castore, 1) := by decide +kernel
theorem d1_328 : decode method_2_code 328 = .ok (.dup, 1) := by decide +kernel
theorem d1_329 : decode method_2_code 329 = .ok (.iconst 2, 1) := by decide +kernel
theorem d1_330 : decode method_2_code 330 = .ok (.aload_n 0, 1) := by decide +kernel
theorem d1_331 : decode method_2_code 331 = .ok (.iconst 2, 1) := by decide +kernel
theorem d1_332 : decode method_2_code 332 = .ok (.caload, 1) := by decide +kernel
theorem d1_333 : decode method_2_code 333 = .ok (.castore, 1) := by decide +kernel
theorem d1_334 : decode method_2_code 334 = .ok (.dup, 1) := by decide +kernel
theorem d1_335 : decode method_2_code 335 = .ok (.iconst 3, 1) := by decide +kernel
theorem d1_336 : decode method_2_code 336 = .ok (.aload_n 0, 1) := by decide +kernel
theorem d1_337 : decode method_2_code 337 = .ok (.iconst 3, 1) := by decide +kernel
theorem d1_338 : decode method_2_code 338 = .ok (.caload, 1) := by decide +kernel
theorem d1_339 : decode method_2_code 339 = .ok (.castore, 1) := by decide +kernel
theorem d1_340 : decode method_2_code 340 = .ok (.dup, 1) := by decide +kernel
theorem d1_341 : decode method_2_code 341 = .ok (.iconst 4, 1) := by decide +kernel
theorem d1_342 : decode method_2_code 342 = .ok (.aload_n 0, 1) := by decide +kernel
theorem d1_343 : decode method_2_code 343 = .ok (.iconst 4, 1) := by decide +kernel
theorem d1_344 : decode method_2_code 344 = .ok (.caload, 1) := by decide +kernel
theorem d1_345 : decode method_2_code 345 = .ok (.castore, 1) := by decide +kernel
theorem d1_346 : decode method_2_code 346 = .ok (.dup, 1) := by decide +kernel
theorem d1_347 : decode method_2_code 347 = .ok (.iconst 5, 1) := by decide +kernel
theorem d1_348 : decode method_2_code 348 = .ok (.aload_n 0, 1) := by decide +kernel
theorem d1_349 : decode method_2_code 349 = .ok (.iconst 5, 1) := by decide +kernel
theorem d1_350 : decode method_2_code 350 = .ok (.caload, 1) := by decide +kernel
theorem d1_351 : decode method_2_code 351 = .ok (.castore, 1) := by decide +kernel
theorem d1_352 : decode method_2_code 352 = .ok (.dup, 1) := by decide +kernel
theorem d1_353 : decode method_2_code 353 = .ok (.bipush 6, 2) := by decide +kernel
theorem d1_355 : decode method_2_code 355 = .ok (.aload_n 0, 1) := by decide +kernel
theorem d1_356 : decode method_2_code 356 = .ok (.bipush 6, 2) := by decide +kernel
theorem d1_358 : decode method_2_code 358 = .ok (.caload, 1) := by decide +kernel
theorem d1_359 : decode method_2_code 359 = .ok (.castore, 1) := by decide +kernel
theorem d1_360 : decode method_2_code 360 = .ok (.dup, 1) := by decide +kernel
theorem d1_361 : decode method_2_code 361 = .ok (.bipush 7, 2) := by decide +kernel
theorem d1_363 : decode method_2_code 363 = .ok (.aload_n 0, 1) := by decide +kernel
theorem d1_364 : decode method_2_code 364 = .ok (.bipush 7, 2) := by decide +kernel
theorem d1_366 : decode method_2_code 366 = .ok (.caload, 1) := by decide +kernel
theorem d1_367 : decode method_2_code 367 = .ok (.castore, 1) := by decide +kernel
theorem d1_368 : decode method_2_code 368 = .ok (.invokespecial 9, 3) := by decide +kernel
theorem d1_371 : decode method_2_code 371 = .ok (.areturn, 1) := by decide +kernel
theorem ef_rmStr8 (m : MethodId) (b : Addr) : entryFrame m #[(.ref b), (.int (8 : Int32))] 2 = mkF m 0 #[.val (.ref b), .val (.int (8 : Int32))] [] := by first | (simp [entryFrame, mkF, argsToLocals, Value.category]; done) | rfl
set_option maxRecDepth 65536 in
set_option maxHeartbeats 40000000 in
theorem rmStr8 (l : Launch) (Z : State) (a0 : Array Value) (hw : ∀ d ∈ tables_1, d.before a0 Z = true) (ws : List Jvm.Cond) (b : Addr) (kc : ClassId) (cz : Int32) (sg0 sg1 sg2 sg3 sg4 sg5 sg6 sg7 : Int32) (h0 : Heap) (n0 : Nat) (Z0 : n0 ≤ h0.size) (Vb : Arv Z h0 b kc .char (8 : Int32) [(.int sg0), (.int sg1), (.int sg2), (.int sg3), (.int sg4), (.int sg5), (.int sg6), (.int sg7)] (.int (0 : Int32))) (ok0 : ok sg0) (ok1 : ok sg1) (ok2 : ok sg2) (ok3 : ok sg3) (ok4 : ok sg4) (ok5 : ok sg5) (ok6 : ok sg6) (ok7 : ok sg7) (S_cs : Sta Z h0 "java/lang/String" "COMPACT_STRINGS" "Z" (.int cz)) (hcz : ¬ cz = 0) :
    MetFree l (⟨"com/example/lifetable/lifetable/output/ExportFormatNamedPinLaw", "str", "([CI)Ljava/lang/String;"⟩ : MethodName) (head1 (Jvm.Cond.code (⟨"com/example/lifetable/lifetable/output/ExportFormatNamedPinLaw", "str", "([CI)Ljava/lang/String;"⟩ : MethodName) method_2_code 2 (some (.object "java/lang/String")) :: ws) ({ frames := 4, cells := 3, slots := 20, locals := 66 } : Room)) (fun a_ U_ => a_ = #[(.ref b), (.int (8 : Int32))] ∧ Z.Warmed39 U_.vm ∧ U_.heap = h0) (fun _ _ _ _ _ => True) (fun _ U_ o_ U'_ => ∃ v_ L_, o_ = .returned v_ ∧ QStr Z [sg0, sg1, sg2, sg3, sg4, sg5, sg6, sg7] h0 n0 v_ U'_.heap L_ ∧ FrameEnd U_ o_ U'_ L_ ({ frames := 4, cells := 3, slots := 20, locals := 66 } : Room).cells ({ frames := 4, cells := 3, slots := 20, locals := 66 } : Room).slots) := by
  refine MetFree.of_bodySF (plainFor_of_name pn_1) hisR ?_
  intro p e s m args below meth c s₁ Bd hml0 hP hK
  obtain ⟨rfl, hZ, hh⟩ := hP
  have hx := Bd.exec
  have hby := Bd.bytes
  have hml : c.maxLocals = 2 := hml0
  have hown : s.vm.findClass "com/example/lifetable/lifetable/output/ExportFormatNamedPinLaw" = some m.cls := findClass_of_methodNamed Bd.named
  have hnm := (name_of_methodNamed Bd.named Bd.method).1
  have X0 : Stand p l e ({ frames := 4, cells := 3, slots := 20, locals := 66 } : Room) s m #[(.ref b), (.int (8 : Int32))] below meth c s₁ [] 0 0 := Stand.of_body Bd
  have e0 : s₁.heap = h0 := by rw [← hh, Bd.state]; rfl
  have N0 := Fr.nil n0
  have k0 : ∀ tg, Steps p.tables e below (s₁.setTop (mkF m 0 #[.val (.ref b), .val (.int (8 : Int32))] [])) tg → Steps p.tables e below (s₁.setTop (entryFrame m #[(.ref b), (.int (8 : Int32))] 2)) tg := fun tg kq_ => castTop (ef_rmStr8 m b) kq_
  obtain ⟨T1, h1, X1, e1, E1, A1, D1, -, st1⟩ := newO X0 hx hZ hown (ww hw 6 rfl) (ww hw 7 rfl) (ww hw 8 rfl) e0 (g := (mkF m 308 #[.val (.ref b), .val (.int (8 : Int32))] [])) rfl (hb hby d1_308) (by decide) (by decide)
  obtain ⟨b1, g1⟩ : ∃ z, z = h0.size := ⟨_, rfl⟩
  have ne_b_b1 : b ≠ b1 := Nat.ne_of_lt (Nat.lt_of_lt_of_le Vb.lt (Nat.le_of_eq g1.symm))
  have g_b1 : n0 ≤ b1 := Nat.le_trans Z0 (Nat.le_of_eq g1.symm)
  have sz_b1 : h0.size ≤ b1 := Nat.le_trans (Keep.refl h0 []).1 (Nat.le_of_eq g1.symm)
  rw [← g1] at A1 D1 st1
  have V1_b := Vb.ext E1
  have Z1 := Nat.le_trans Z0 E1.1
  have KP1 := (Keep.refl h0 []).ext E1
  have F_coder_b1 : Fld Z h1 b1 "java/lang/String" "coder" "B" (.int (0 : Int32)) := D1 (Or.inr (ww hw 32 rfl)) (ty := .byte) (by decide)
  have F_value_b1 : Fld Z h1 b1 "java/lang/String" "value" "[B" .null := D1 (Or.inr (ww hw 34 rfl)) (ty := (.array .byte)) (by decide)
  obtain ⟨T2, h2, c2, X2, e2, E2, A2, st2⟩ := newP X1 hx hZ (ww hw 0 rfl) e1 (g := (mkF m 314 #[.val (.ref b), .val (.int (8 : Int32))] [(.int (8 : Int32)), (.ref b1), (.ref b1)])) rfl (hb hby d1_314) rfl (by decide) (cap := 8) (by decide) (by decide) (by decide) (by decide)
  obtain ⟨b2, g2⟩ : ∃ z, z = h1.size := ⟨_, rfl⟩
  have ne_b_b2 : b ≠ b2 := Nat.ne_of_lt (Nat.lt_of_lt_of_le V1_b.lt (Nat.le_of_eq g2.symm))
  have ne_b1_b2 : b1 ≠ b2 := Nat.ne_of_lt (Nat.lt_of_lt_of_le A1.lt (Nat.le_of_eq g2.symm))
  have g_b2 : n0 ≤ b2 := Nat.le_trans Z1 (Nat.le_of_eq g2.symm)
  have sz_b2 : h0.size ≤ b2 := Nat.le_trans KP1.1 (Nat.le_of_eq g2.symm)
  rw [← g2] at A2 st2
  have V2_b := V1_b.ext E2
  have E2_b1 := A1.ext E2
  have F2_b1_coder := F_coder_b1.ext E2
  have F2_b1_value := F_value_b1.ext E2
  have Z2 := Nat.le_trans Z1 E2.1
  have KP2 := KP1.ext E2
  have V_b2 : Arv Z h2 b2 c2 .char (8 : Int32) [(.int (0 : Int32)), (.int (0 : Int32)), (.int (0 : Int32)), (.int (0 : Int32)), (.int (0 : Int32)), (.int (0 : Int32)), (.int (0 : Int32)), (.int (0 : Int32))] (.int (0 : Int32)) := (Arv.new A2 (by decide)).pad (pad_rep [] (.int (0 : Int32)) 8)
  obtain ⟨cl320_3, Ar320_3, q320_3, S320_3, N320_3_, H320_3, G320_3⟩ := id V2_b
  have hin320_3 : ¬ ((0 : Int32) < 0 ∨ cl320_3.slots.size ≤ ((0 : Int32)).toNatClampNeg) := inb_of S320_3 ⟨by decide, by decide⟩
  have hat320_3 : cl320_3.slots[((0 : Int32)).toNatClampNeg]? = some (.int sg0) := H320_3.at hin320_3 rfl
  obtain ⟨cl321_4, Ar321_4, q321_4, S321_4, N321_4_, H321_4, G321_4⟩ := id V_b2
  have hin321_4 : ¬ ((0 : Int32) < 0 ∨ cl321_4.slots.size ≤ ((0 : Int32)).toNatClampNeg) := inb_of S321_4 ⟨by decide, by decide⟩
  obtain ⟨T5, h5, X5, e5, W5, st5⟩ := stC X2 hx hZ e2 Ar321_4 (j := (0 : Int32)) hin321_4 (g := (mkF m 321 #[.val (.ref b), .val (.int (8 : Int32))] [(.int sg0), (.int (0 : Int32)), (.ref b2), (.ref b2), (.ref b1), (.ref b1)])) rfl rfl (hb hby d1_321)
  have V5_b := V2_b.other W5 ne_b_b2
  have E5_b1 := E2_b1.wr W5
  have F5_b1_coder := F2_b1_coder.other W5 (Or.inl ne_b1_b2)
  have F5_b1_value := F2_b1_value.other W5 (Or.inl ne_b1_b2)
  have Z5 := Nat.le_trans Z2 (Keep.of_wr W5).1
  have KP5 := KP2.wr W5 (Or.inr sz_b2)
  have N5 := Fr.snoc X5 N0 g_b2
  have V5_b2 : Arv Z h5 b2 c2 .char (8 : Int32) [(.int (nar .char sg0)), (.int (0 : Int32)), (.int (0 : Int32)), (.int (0 : Int32)), (.int (0 : Int32)), (.int (0 : Int32)), (.int (0 : Int32)), (.int (0 : Int32))] (.int (0 : Int32)) := Arv.set Ar321_4 q321_4 S321_4 N321_4_ H321_4 G321_4 (fits_nar_char _) W5 0 rfl (Nat.le_of_ble_eq_true rfl)
  obtain ⟨cl326_6, Ar326_6, q326_6, S326_6, N326_6_, H326_6, G326_6⟩ := id V5_b
  have hin326_6 : ¬ ((1 : Int32) < 0 ∨ cl326_6.slots.size ≤ ((1 : Int32)).toNatClampNeg) := inb_of S326_6 ⟨by decide, by decide⟩
  have hat326_6 : cl326_6.slots[((1 : Int32)).toNatClampNeg]? = some (.int sg1) := H326_6.at hin326_6 rfl
  obtain ⟨cl327_7, Ar327_7, q327_7, S327_7, N327_7_, H327_7, G327_7⟩ := id V5_b2
  have hin327_7 : ¬ ((1 : Int32) < 0 ∨ cl327_7.slots.size ≤ ((1 : Int32)).toNatClampNeg) := inb_of S327_7 ⟨by decide, by decide⟩
  obtain ⟨T8, h8, X8, e8, W8, st8⟩ := stC X5 hx hZ e5 Ar327_7 (j := (1 : Int32)) hin327_7 (g := (mkF m 327 #[.val (.ref b), .val (.int (8 : Int32))] [(.int sg1), (.int (1 : Int32)), (.ref b2), (.ref b2), (.ref b1), (.ref b1)])) rfl rfl (hb hby d1_327)
  have V8_b := V5_b.other W8 ne_b_b2
  have E8_b1 := E5_b1.wr W8
  have F8_b1_coder := F5_b1_coder.other W8 (Or.inl ne_b1_b2)
  have F8_b1_value := F5_b1_value.other W8 (Or.inl ne_b1_b2)
  have Z8 := Nat.le_trans Z5 (Keep.of_wr W8).1
  have KP8 := KP5.wr W8 (Or.inr sz_b2)
  have N8 := Fr.snoc X8 N5 g_b2
  have V8_b2 : Arv Z h8 b2 c2 .char (8 : Int32) [(.int (nar .char sg0)), (.int (nar .char sg1)), (.int (0 : Int32)), (.int (0 : Int32)), (.int (0 : Int32)), (.int (0 : Int32)), (.int (0 : Int32)), (.int (0 : Int32))] (.int (0 : Int32)) := Arv.set Ar327_7 q327_7 S327_7 N327_7_ H327_7 G327_7 (fits_nar_char _) W8 1 rfl (Nat.le_of_ble_eq_true rfl)
  obtain ⟨cl332_9, Ar332_9, q332_9, S332_9, N332_9_, H332_9, G332_9⟩ := id V8_b
  have hin332_9 : ¬ ((2 : Int32) < 0 ∨ cl332_9.slots.size ≤ ((2 : Int32)).toNatClampNeg) := inb_of S332_9 ⟨by decide, by decide⟩
  have hat332_9 : cl332_9.slots[((2 : Int32)).toNatClampNeg]? = some (.int sg2) := H332_9.at hin332_9 rfl
  obtain ⟨cl333_10, Ar333_10, q333_10, S333_10, N333_10_, H333_10, G333_10⟩ := id V8_b2
  have hin333_10 : ¬ ((2 : Int32) < 0 ∨ cl333_10.slots.size ≤ ((2 : Int32)).toNatClampNeg) := inb_of S333_10 ⟨by decide, by decide⟩
  obtain ⟨T11, h11, X11, e11, W11, st11⟩ := stC X8 hx hZ e8 Ar333_10 (j := (2 : Int32)) hin333_10 (g := (mkF m 333 #[.val (.ref b), .val (.int (8 : Int32))] [(.int sg2), (.int (2 : Int32)), (.ref b2), (.ref b2), (.ref b1), (.ref b1)])) rfl rfl (hb hby d1_333)
  have V11_b := V8_b.other W11 ne_b_b2
  have E11_b1 := E8_b1.wr W11
  have F11_b1_coder := F8_b1_coder.other W11 (Or.inl ne_b1_b2)
  have F11_b1_value := F8_b1_value.other W11 (Or.inl ne_b1_b2)
  have Z11 := Nat.le_trans Z8 (Keep.of_wr W11).1
  have KP11 := KP8.wr W11 (Or.inr sz_b2)
  have N11 := Fr.snoc X11 N8 g_b2
  have V11_b2 : Arv Z h11 b2 c2 .char (8 : Int32) [(.int (nar .char sg0)), (.int (nar .char sg1)), (.int (nar .char sg2)), (.int (0 : Int32)), (.int (0 : Int32)), (.int (0 : Int32)), (.int (0 : Int32)), (.int (0 : Int32))] (.int (0 : Int32)) := Arv.set Ar333_10 q333_10 S333_10 N333_10_ H333_10 G333_10 (fits_nar_char _) W11 2 rfl (Nat.le_of_ble_eq_true rfl)
  obtain ⟨cl338_12, Ar338_12, q338_12, S338_12, N338_12_, H338_12, G338_12⟩ := id V11_b
  have hin338_12 : ¬ ((3 : Int32) < 0 ∨ cl338_12.slots.size ≤ ((3 : Int32)).toNatClampNeg) := inb_of S338_12 ⟨by decide, by decide⟩
  have hat338_12 : cl338_12.slots[((3 : Int32)).toNatClampNeg]? = some (.int sg3) := H338_12.at hin338_12 rfl
  obtain ⟨cl339_13, Ar339_13, q339_13, S339_13, N339_13_, H339_13, G339_13⟩ := id V11_b2
  have hin339_13 : ¬ ((3 : Int32) < 0 ∨ cl339_13.slots.size ≤ ((3 : Int32)).toNatClampNeg) := inb_of S339_13 ⟨by decide, by decide⟩
  obtain ⟨T14, h14, X14, e14, W14, st14⟩ := stC X11 hx hZ e11 Ar339_13 (j := (3 : Int32)) hin339_13 (g := (mkF m 339 #[.val (.ref b), .val (.int (8 : Int32))] [(.int sg3), (.int (3 : Int32)), (.ref b2), (.ref b2), (.ref b1), (.ref b1)])) rfl rfl (hb hby d1_339)
  have V14_b := V11_b.other W14 ne_b_b2
  have E14_b1 := E11_b1.wr W14
  have F14_b1_coder := F11_b1_coder.other W14 (Or.inl ne_b1_b2)
  have F14_b1_value := F11_b1_value.other W14 (Or.inl ne_b1_b2)
  have Z14 := Nat.le_trans Z11 (Keep.of_wr W14).1
  have KP14 := KP11.wr W14 (Or.inr sz_b2)
  have N14 := Fr.snoc X14 N11 g_b2
  have V14_b2 : Arv Z h14 b2 c2 .char (8 : Int32) [(.int (nar .char sg0)), (.int (nar .char sg1)), (.int (nar .char sg2)), (.int (nar .char sg3)), (.int (0 : Int32)), (.int (0 : Int32)), (.int (0 : Int32)), (.int (0 : Int32))] (.int (0 : Int32)) := Arv.set Ar339_13 q339_13 S339_13 N339_13_ H339_13 G339_13 (fits_nar_char _) W14 3 rfl (Nat.le_of_ble_eq_true rfl)
  obtain ⟨cl344_15, Ar344_15, q344_15, S344_15, N344_15_, H344_15, G344_15⟩ := id V14_b
  have hin344_15 : ¬ ((4 : Int32) < 0 ∨ cl344_15.slots.size ≤ ((4 : Int32)).toNatClampNeg) := inb_of S344_15 ⟨by decide, by decide⟩
  have hat344_15 : cl344_15.slots[((4 : Int32)).toNatClampNeg]? = some (.int sg4) := H344_15.at hin344_15 rfl
  obtain ⟨cl345_16, Ar345_16, q345_16, S345_16, N345_16_, H345_16, G345_16⟩ := id V14_b2
  have hin345_16 : ¬ ((4 : Int32) < 0 ∨ cl345_16.slots.size ≤ ((4 : Int32)).toNatClampNeg) := inb_of S345_16 ⟨by decide, by decide⟩
  obtain ⟨T17, h17, X17, e17, W17, st17⟩ := stC X14 hx hZ e14 Ar345_16 (j := (4 : Int32)) hin345_16 (g := (mkF m 345 #[.val (.ref b), .val (.int (8 : Int32))] [(.int sg4), (.int (4 : Int32)), (.ref b2), (.ref b2), (.ref b1), (.ref b1)])) rfl rfl (hb hby d1_345)
  have V17_b := V14_b.other W17 ne_b_b2
  have E17_b1 := E14_b1.wr W17
  have F17_b1_coder := F14_b1_coder.other W17 (Or.inl ne_b1_b2)
  have F17_b1_value := F14_b1_value.other W17 (Or.inl ne_b1_b2)
  have Z17 := Nat.le_trans Z14 (Keep.of_wr W17).1
  have KP17 := KP14.wr W17 (Or.inr sz_b2)
  have N17 := Fr.snoc X17 N14 g_b2
  have V17_b2 : Arv Z h17 b2 c2 .char (8 : Int32) [(.int (nar .char sg0)), (.int (nar .char sg1)), (.int (nar .char sg2)), (.int (nar .char sg3)), (.int (nar .char sg4)), (.int (0 : Int32)), (.int (0 : Int32)), (.int (0 : Int32))] (.int (0 : Int32)) := Arv.set Ar345_16 q345_16 S345_16 N345_16_ H345_16 G345_16 (fits_nar_char _) W17 4 rfl (Nat.le_of_ble_eq_true rfl)
  obtain ⟨cl350_18, Ar350_18, q350_18, S350_18, N350_18_, H350_18, G350_18⟩ := id V17_b
  have hin350_18 : ¬ ((5 : Int32) < 0 ∨ cl350_18.slots.size ≤ ((5 : Int32)).toNatClampNeg) := inb_of S350_18 ⟨by decide, by decide⟩
  have hat350_18 : cl350_18.slots[((5 : Int32)).toNatClampNeg]? = some (.int sg5) := H350_18.at hin350_18 rfl
  obtain ⟨cl351_19, Ar351_19, q351_19, S351_19, N351_19_, H351_19, G351_19⟩ := id V17_b2
  have hin351_19 : ¬ ((5 : Int32) < 0 ∨ cl351_19.slots.size ≤ ((5 : Int32)).toNatClampNeg) := inb_of S351_19 ⟨by decide, by decide⟩
  obtain ⟨T20, h20, X20, e20, W20, st20⟩ := stC X17 hx hZ e17 Ar351_19 (j := (5 : Int32)) hin351_19 (g := (mkF m 351 #[.val (.ref b), .val (.int (8 : Int32))] [(.int sg5), (.int (5 : Int32)), (.ref b2), (.ref b2), (.ref b1), (.ref b1)])) rfl rfl (hb hby d1_351)
  have V20_b := V17_b.other W20 ne_b_b2
  have E20_b1 := E17_b1.wr W20
  have F20_b1_coder := F17_b1_coder.other W20 (Or.inl ne_b1_b2)
  have F20_b1_value := F17_b1_value.other W20 (Or.inl ne_b1_b2)
  have Z20 := Nat.le_trans Z17 (Keep.of_wr W20).1
  have KP20 := KP17.wr W20 (Or.inr sz_b2)
  have N20 := Fr.snoc X20 N17 g_b2
  have V20_b2 : Arv Z h20 b2 c2 .char (8 : Int32) [(.int (nar .char sg0)), (.int (nar .char sg1)), (.int (nar .char sg2)), (.int (nar .char sg3)), (.int (nar .char sg4)), (.int (nar .char sg5)), (.int (0 : Int32)), (.int (0 : Int32))] (.int (0 : Int32)) := Arv.set Ar351_19 q351_19 S351_19 N351_19_ H351_19 G351_19 (fits_nar_char _) W20 5 rfl (Nat.le_of_ble_eq_true rfl)
  obtain ⟨cl358_21, Ar358_21, q358_21, S358_21, N358_21_, H358_21, G358_21⟩ := id V20_b
  have hin358_21 : ¬ ((6 : Int32) < 0 ∨ cl358_21.slots.size ≤ ((6 : Int32)).toNatClampNeg) := inb_of S358_21 ⟨by decide, by decide⟩
  have hat358_21 : cl358_21.slots[((6 : Int32)).toNatClampNeg]? = some (.int sg6) := H358_21.at hin358_21 rfl
  obtain ⟨cl359_22, Ar359_22, q359_22, S359_22, N359_22_, H359_22, G359_22⟩ := id V20_b2
  have hin359_22 : ¬ ((6 : Int32) < 0 ∨ cl359_22.slots.size ≤ ((6 : Int32)).toNatClampNeg) := inb_of S359_22 ⟨by decide, by decide⟩
  obtain ⟨T23, h23, X23, e23, W23, st23⟩ := stC X20 hx hZ e20 Ar359_22 (j := (6 : Int32)) hin359_22 (g := (mkF m 359 #[.val (.ref b), .val (.int (8 : Int32))] [(.int sg6), (.int (6 : Int32)), (.ref b2), (.ref b2), (.ref b1), (.ref b1)])) rfl rfl (hb hby d1_359)
  have V23_b := V20_b.other W23 ne_b_b2
  have E23_b1 := E20_b1.wr W23
  have F23_b1_coder := F20_b1_coder.other W23 (Or.inl ne_b1_b2)
  have F23_b1_value := F20_b1_value.other W23 (Or.inl ne_b1_b2)
  have Z23 := Nat.le_trans Z20 (Keep.of_wr W23).1
  have KP23 := KP20.wr W23 (Or.inr sz_b2)
  have N23 := Fr.snoc X23 N20 g_b2
  have V23_b2 : Arv Z h23 b2 c2 .char (8 : Int32) [(.int (nar .char sg0)), (.int (nar .char sg1)), (.int (nar .char sg2)), (.int (nar .char sg3)), (.int (nar .char sg4)), (.int (nar .char sg5)), (.int (nar .char sg6)), (.int (0 : Int32))] (.int (0 : Int32)) := Arv.set Ar359_22 q359_22 S359_22 N359_22_ H359_22 G359_22 (fits_nar_char _) W23 6 rfl (Nat.le_of_ble_eq_true rfl)
  obtain ⟨cl366_24, Ar366_24, q366_24, S366_24, N366_24_, H366_24, G366_24⟩ := id V23_b
  have hin366_24 : ¬ ((7 : Int32) < 0 ∨ cl366_24.slots.size ≤ ((7 : Int32)).toNatClampNeg) := inb_of S366_24 ⟨by decide, by decide⟩
  have hat366_24 : cl366_24.slots[((7 : Int32)).toNatClampNeg]? = some (.int sg7) := H366_24.at hin366_24 rfl
  obtain ⟨cl367_25, Ar367_25, q367_25, S367_25, N367_25_, H367_25, G367_25⟩ := id V23_b2
  have hin367_25 : ¬ ((7 : Int32) < 0 ∨ cl367_25.slots.size ≤ ((7 : Int32)).toNatClampNeg) := inb_of S367_25 ⟨by decide, by decide⟩
  obtain ⟨T26, h26, X26, e26, W26, st26⟩ := stC X23 hx hZ e23 Ar367_25 (j := (7 : Int32)) hin367_25 (g := (mkF m 367 #[.val (.ref b), .val (.int (8 : Int32))] [(.int sg7), (.int (7 : Int32)), (.ref b2), (.ref b2), (.ref b1), (.ref b1)])) rfl rfl (hb hby d1_367)
  have V26_b := V23_b.other W26 ne_b_b2
  have E26_b1 := E23_b1.wr W26
  have F26_b1_coder := F23_b1_coder.other W26 (Or.inl ne_b1_b2)
  have F26_b1_value := F23_b1_value.other W26 (Or.inl ne_b1_b2)
  have Z26 := Nat.le_trans Z23 (Keep.of_wr W26).1
  have KP26 := KP23.wr W26 (Or.inr sz_b2)
  have N26 := Fr.snoc X26 N23 g_b2
  have V26_b2 : Arv Z h26 b2 c2 .char (8 : Int32) [(.int (nar .char sg0)), (.int (nar .char sg1)), (.int (nar .char sg2)), (.int (nar .char sg3)), (.int (nar .char sg4)), (.int (nar .char sg5)), (.int (nar .char sg6)), (.int (nar .char sg7))] (.int (0 : Int32)) := Arv.set Ar367_25 q367_25 S367_25 N367_25_ H367_25 G367_25 (fits_nar_char _) W26 7 rfl (Nat.le_of_ble_eq_true rfl)
  have Vc : Arv Z h26 b2 c2 .char (8 : Int32) [(.int sg0), (.int sg1), (.int sg2), (.int sg3), (.int sg4), (.int sg5), (.int sg6), (.int sg7)] (.int (0 : Int32)) := by
    have q := V26_b2
    rw [own_narc sg0 ok0, own_narc sg1 ok1, own_narc sg2 ok2, own_narc sg3 ok3, own_narc sg4 ok4, own_narc sg5 ok5, own_narc sg6 ok6, own_narc sg7 ok7] at q
    exact q
  have hp : ∀ c ∈ ([sg0, sg1, sg2, sg3, sg4, sg5, sg6, sg7] : List Int32), ¬ c < 0 ∧ ¬ (255 : Int32) < c := by
    intro c hc
    simp only [List.mem_cons, List.not_mem_nil, or_false] at hc
    rcases hc with rfl | rfl | rfl | rfl | rfl | rfl | rfl | rfl <;> assumption
  have hws : ∀ d ∈ StrChars.Road.words, d.before a0 Z = true := fun d hd => hw d ((by decide +kernel : ∀ d ∈ StrChars.Road.words, d ∈ tables_1) d hd)
  obtain ⟨_, _, ⟨T27, L27, k27, n27⟩, -, X27, ⟨Lc27, hQ27, l27, y27, z27⟩, st27⟩ := X26.specialBack hx (y := (⟨"java/lang/String", "<init>", "([C)V"⟩ : MethodName)) rfl hown (mvT hZ (ww hw 9 rfl)) (mvT hZ (ww hw 10 rfl)) (mvT hZ (ww hw 11 rfl)) (by decide) (StrChars.Road.backV (W := 1) hZ hws (kI := 4) (ww hw 7 rfl) (cs := ([sg0, sg1, sg2, sg3, sg4, sg5, sg6, sg7] : List Int32)) (bs := ([sg0, sg1, sg2, sg3, sg4, sg5, sg6, sg7] : List Int32).map (fun c => c.toInt8.toInt32)) (n := 8) g_b1 Z26 E26_b1 F26_b1_value F26_b1_coder Vc (S_cs.ext (own_extK KP26)) hcz rfl rfl (by decide) (by decide) hp rfl (by decide) (by decide)) (g := (mkF m 368 #[.val (.ref b), .val (.int (8 : Int32))] [(.ref b2), (.ref b1), (.ref b1)])) rfl (by rw [hml]; rfl) (Steps.refl _) (a := b1) (argsL := [(.ref b2)]) (rest := [(.ref b1)]) (lenOf pd_0 rfl) rfl (by show 2 * 0 + _ ≤ _; exact Nat.le_of_eq rfl) (hb hby d1_368) (fun _ _ => ⟨rfl, e26, (by decide : 2 + 1 ≤ _), (by decide : 12 + 8 ≤ _)⟩)
  dsimp only [Pt.U, Pt.locs, Pt.cells, Pt.slots] at X27 l27 y27 z27 st27 hQ27
  subst l27 y27 z27
  obtain ⟨rfl, N27q, K27, E27x, C27x, bt27, kb27, -, le27, -, F27x, V27x⟩ := hQ27
  have N27 := Fr.app N26 N27q
  have ne_b_bt27 : b ≠ bt27 := Nat.ne_of_lt (Nat.lt_of_lt_of_le V26_b.lt le27)
  have ne_b1_bt27 : b1 ≠ bt27 := Nat.ne_of_lt (Nat.lt_of_lt_of_le E26_b1.lt le27)
  have ne_b2_bt27 : b2 ≠ bt27 := Nat.ne_of_lt (Nat.lt_of_lt_of_le V26_b2.lt le27)
  have g_bt27 : n0 ≤ bt27 := Nat.le_trans Z26 le27
  have sz_bt27 : h0.size ≤ bt27 := Nat.le_trans KP26.1 le27
  have V27_b2 := V26_b2.keep K27 (ninS (Ne.symm ne_b1_b2) nin0)
  have Z27 := Nat.le_trans Z26 K27.1
  have KP27 := KP26.trans K27 (allS (Or.inr sz_b1) all0)
  have k28 : ∀ tg, Steps p.tables e below (T27.setTop (mkF m 371 #[.val (.ref b), .val (.int (8 : Int32))] [(.ref b1)])) tg → Steps p.tables e below (s₁.setTop (entryFrame m #[(.ref b), (.int (8 : Int32))] 2)) tg := by
    intro tg kt
    refine k0 tg ?_
    show Steps p.tables e below (s₁.setTop (mkF m 0 #[.val (.ref b), .val (.int (8 : Int32))] [])) _
    refine XS.iloadN X0.here hx rfl (hb hby d1_0) rfl ?_
    refine XS.tswOut X0.here hx rfl (pc0 := 1) (pc' := 308) rfl (hb hby d1_1) rfl (by decide) (by decide) (by decide) ?_
    refine st1 _ ?_
    show Steps p.tables e below (T1.setTop (mkF m 311 #[.val (.ref b), .val (.int (8 : Int32))] [(.ref b1)])) _
    refine XS.dup X1.here hx rfl (hb hby d1_311) rfl rfl ?_
    refine XS.bipush X1.here hx rfl (hb hby d1_312) ?_
    refine st2 _ ?_
    refine XS.dup X2.here hx rfl (hb hby d1_316) rfl rfl ?_
    refine XS.iconst X2.here hx rfl (hb hby d1_317) ?_
    refine XS.aloadN X2.here hx rfl (hb hby d1_318) rfl rfl ?_
    refine XS.iconst X2.here hx rfl (hb hby d1_319) ?_
    show Steps p.tables e below (T2.setTop (mkF m 320 #[.val (.ref b), .val (.int (8 : Int32))] [(.int (0 : Int32)), (.ref b), (.int (0 : Int32)), (.ref b2), (.ref b2), (.ref b1), (.ref b1)])) _
    refine X2.caload hx (j := (0 : Int32)) (v := (.int sg0)) (by rw [e2]; exact Ar320_3.1) (State.isArrayOf_alike hZ.alike Ar320_3.2.1) Ar320_3.2.2 hin320_3 hat320_3 (g := (mkF m 320 #[.val (.ref b), .val (.int (8 : Int32))] [(.int (0 : Int32)), (.ref b), (.int (0 : Int32)), (.ref b2), (.ref b2), (.ref b1), (.ref b1)])) rfl rfl (hb hby d1_320) _ ?_
    refine st5 _ ?_
    refine XS.dup X5.here hx rfl (hb hby d1_322) rfl rfl ?_
    refine XS.iconst X5.here hx rfl (hb hby d1_323) ?_
    refine XS.aloadN X5.here hx rfl (hb hby d1_324) rfl rfl ?_
    refine XS.iconst X5.here hx rfl (hb hby d1_325) ?_
    show Steps p.tables e below (T5.setTop (mkF m 326 #[.val (.ref b), .val (.int (8 : Int32))] [(.int (1 : Int32)), (.ref b), (.int (1 : Int32)), (.ref b2), (.ref b2), (.ref b1), (.ref b1)])) _
    refine X5.caload hx (j := (1 : Int32)) (v := (.int sg1)) (by rw [e5]; exact Ar326_6.1) (State.isArrayOf_alike hZ.alike Ar326_6.2.1) Ar326_6.2.2 hin326_6 hat326_6 (g := (mkF m 326 #[.val (.ref b), .val (.int (8 : Int32))] [(.int (1 : Int32)), (.ref b), (.int (1 : Int32)), (.ref b2), (.ref b2), (.ref b1), (.ref b1)])) rfl rfl (hb hby d1_326) _ ?_
    refine st8 _ ?_
    refine XS.dup X8.here hx rfl (hb hby d1_328) rfl rfl ?_
    refine XS.iconst X8.here hx rfl (hb hby d1_329) ?_
    refine XS.aloadN X8.here hx rfl (hb hby d1_330) rfl rfl ?_
    refine XS.iconst X8.here hx rfl (hb hby d1_331) ?_
    show Steps p.tables e below (T8.setTop (mkF m 332 #[.val (.ref b), .val (.int (8 : Int32))] [(.int (2 : Int32)), (.ref b), (.int (2 : Int32)), (.ref b2), (.ref b2), (.ref b1), (.ref b1)])) _
    refine X8.caload hx (j := (2 : Int32)) (v := (.int sg2)) (by rw [e8]; exact Ar332_9.1) (State.isArrayOf_alike hZ.alike Ar332_9.2.1) Ar332_9.2.2 hin332_9 hat332_9 (g := (mkF m 332 #[.val (.ref b), .val (.int (8 : Int32))] [(.int (2 : Int32)), (.ref b), (.int (2 : Int32)), (.ref b2), (.ref b2), (.ref b1), (.ref b1)])) rfl rfl (hb hby d1_332) _ ?_
    refine st11 _ ?_
    refine XS.dup X11.here hx rfl (hb hby d1_334) rfl rfl ?_
    refine XS.iconst X11.here hx rfl (hb hby d1_335) ?_
    refine XS.aloadN X11.here hx rfl (hb hby d1_336) rfl rfl ?_
    refine XS.iconst X11.here hx rfl (hb hby d1_337) ?_
    show Steps p.tables e below (T11.setTop (mkF m 338 #[.val (.ref b), .val (.int (8 : Int32))] [(.int (3 : Int32)), (.ref b), (.int (3 : Int32)), (.ref b2), (.ref b2), (.ref b1), (.ref b1)])) _
    refine X11.caload hx (j := (3 : Int32)) (v := (.int sg3)) (by rw [e11]; exact Ar338_12.1) (State.isArrayOf_alike hZ.alike Ar338_12.2.1) Ar338_12.2.2 hin338_12 hat338_12 (g := (mkF m 338 #[.val (.ref b), .val (.int (8 : Int32))] [(.int (3 : Int32)), (.ref b), (.int (3 : Int32)), (.ref b2), (.ref b2), (.ref b1), (.ref b1)])) rfl rfl (hb hby d1_338) _ ?_
    refine st14 _ ?_
    refine XS.dup X14.here hx rfl (hb hby d1_340) rfl rfl ?_
    refine XS.iconst X14.here hx rfl (hb hby d1_341) ?_
    refine XS.aloadN X14.here hx rfl (hb hby d1_342) rfl rfl ?_
    refine XS.iconst X14.here hx rfl (hb hby d1_343) ?_
    show Steps p.tables e below (T14.setTop (mkF m 344 #[.val (.ref b), .val (.int (8 : Int32))] [(.int (4 : Int32)), (.ref b), (.int (4 : Int32)), (.ref b2), (.ref b2), (.ref b1), (.ref b1)])) _
    refine X14.caload hx (j := (4 : Int32)) (v := (.int sg4)) (by rw [e14]; exact Ar344_15.1) (State.isArrayOf_alike hZ.alike Ar344_15.2.1) Ar344_15.2.2 hin344_15 hat344_15 (g := (mkF m 344 #[.val (.ref b), .val (.int (8 : Int32))] [(.int (4 : Int32)), (.ref b), (.int (4 : Int32)), (.ref b2), (.ref b2), (.ref b1), (.ref b1)])) rfl rfl (hb hby d1_344) _ ?_
    refine st17 _ ?_
    refine XS.dup X17.here hx rfl (hb hby d1_346) rfl rfl ?_
    refine XS.iconst X17.here hx rfl (hb hby d1_347) ?_
    refine XS.aloadN X17.here hx rfl (hb hby d1_348) rfl rfl ?_
    refine XS.iconst X17.here hx rfl (hb hby d1_349) ?_
    show Steps p.tables e below (T17.setTop (mkF m 350 #[.val (.ref b), .val (.int (8 : Int32))] [(.int (5 : Int32)), (.ref b), (.int (5 : Int32)), (.ref b2), (.ref b2), (.ref b1), (.ref b1)])) _
    refine X17.caload hx (j := (5 : Int32)) (v := (.int sg5)) (by rw [e17]; exact Ar350_18.1) (State.isArrayOf_alike hZ.alike Ar350_18.2.1) Ar350_18.2.2 hin350_18 hat350_18 (g := (mkF m 350 #[.val (.ref b), .val (.int (8 : Int32))] [(.int (5 : Int32)), (.ref b), (.int (5 : Int32)), (.ref b2), (.ref b2), (.ref b1), (.ref b1)])) rfl rfl (hb hby d1_350) _ ?_
    refine st20 _ ?_
    refine XS.dup X20.here hx rfl (hb hby d1_352) rfl rfl ?_
    refine XS.bipush X20.here hx rfl (hb hby d1_353) ?_
    refine XS.aloadN X20.here hx rfl (hb hby d1_355) rfl rfl ?_
    refine XS.bipush X20.here hx rfl (hb hby d1_356) ?_
    show Steps p.tables e below (T20.setTop (mkF m 358 #[.val (.ref b), .val (.int (8 : Int32))] [(.int (6 : Int32)), (.ref b), (.int (6 : Int32)), (.ref b2), (.ref b2), (.ref b1), (.ref b1)])) _
    refine X20.caload hx (j := (6 : Int32)) (v := (.int sg6)) (by rw [e20]; exact Ar358_21.1) (State.isArrayOf_alike hZ.alike Ar358_21.2.1) Ar358_21.2.2 hin358_21 hat358_21 (g := (mkF m 358 #[.val (.ref b), .val (.int (8 : Int32))] [(.int (6 : Int32)), (.ref b), (.int (6 : Int32)), (.ref b2), (.ref b2), (.ref b1), (.ref b1)])) rfl rfl (hb hby d1_358) _ ?_
    refine st23 _ ?_
    refine XS.dup X23.here hx rfl (hb hby d1_360) rfl rfl ?_
    refine XS.bipush X23.here hx rfl (hb hby d1_361) ?_
    refine XS.aloadN X23.here hx rfl (hb hby d1_363) rfl rfl ?_
    refine XS.bipush X23.here hx rfl (hb hby d1_364) ?_
    show Steps p.tables e below (T23.setTop (mkF m 366 #[.val (.ref b), .val (.int (8 : Int32))] [(.int (7 : Int32)), (.ref b), (.int (7 : Int32)), (.ref b2), (.ref b2), (.ref b1), (.ref b1)])) _
    refine X23.caload hx (j := (7 : Int32)) (v := (.int sg7)) (by rw [e23]; exact Ar366_24.1) (State.isArrayOf_alike hZ.alike Ar366_24.2.1) Ar366_24.2.2 hin366_24 hat366_24 (g := (mkF m 366 #[.val (.ref b), .val (.int (8 : Int32))] [(.int (7 : Int32)), (.ref b), (.int (7 : Int32)), (.ref b2), (.ref b2), (.ref b1), (.ref b1)])) rfl rfl (hb hby d1_366) _ ?_
    refine st26 _ ?_
    refine st27.trans ?_
    show Steps p.tables e below (T27.setTop (mkF m 371 #[.val (.ref b), .val (.int (8 : Int32))] [(.ref b1)])) _
    exact kt
  obtain ⟨fs, hr, hrun, hended, hW, hsame⟩ := X27.leave (v := some (.ref b1)) (fun h => by rw [Bd.returns] at h; cases h)
  refine ⟨_, _, k28 _ ?_, hrun, hended, _, _, rfl, ?_, ⟨_, rfl⟩, hW, hsame.mono (by decide) (by decide)⟩
  · exact own_retA X27 hx Bd.returns rfl (hb hby d1_371) hr
  · show QStr Z [sg0, sg1, sg2, sg3, sg4, sg5, sg6, sg7] h0 n0 _ T27.heap _
    exact ⟨N27, KP27, b1, bt27, kb27, rfl, sz_b1, E27x, C27x, F27x, V27x⟩
def QNew (Z : State) (o : Addr) (h0 : Heap) (n0 : Nat) (v : Option Value) (h : Heap) (L : List Loc) : Prop := v = none ∧ Fr n0 L ∧ Keep h0 h [o] ∧ ∃ (t : Addr) (kb : ClassId), Fld Z h o "java/lang/String" "coder" "B" (.int (0 : Int32)) ∧ Fld Z h o "java/lang/String" "value" "[B" (.ref t) ∧ Arv Z h t kb .byte (0 : Int32) [] (.int (0 : Int32))
theorem d3_0 : decode jdk_42_method_149_code 0 = .ok (.aload_n 0, 1) := by decide +kernel
theorem d3_1 : decode jdk_42_method_149_code 1 = .ok (.invokespecial 1, 3) := by decide +kernel
theorem d3_4 : decode jdk_42_method_149_code 4 = .ok (.iload_n 3, 1) := by decide +kernel
theorem d3_5 : decode jdk_42_method_149_code 5 = .ok (.ifCond .ne 22, 3) := by decide +kernel
theorem d3_8 : decode jdk_42_method_149_code 8 = .ok (.aload_n 0, 1) := by decide +kernel
theorem d3_9 : decode jdk_42_method_149_code 9 = .ok (.ldc 7, 2) := by decide +kernel
theorem d3_11 : decode jdk_42_method_149_code 11 = .ok (.getfield 9, 3) := by decide +kernel
theorem d3_14 : decode jdk_42_method_149_code 14 = .ok (.putfield 9, 3) := by decide +kernel
theorem d3_17 : decode jdk_42_method_149_code 17 = .ok (.aload_n 0, 1) := by decide +kernel
theorem d3_18 : decode jdk_42_method_149_code 18 = .ok (.ldc 7, 2) := by decide +kernel
theorem d3_20 : decode jdk_42_method_149_code 20 = .ok (.getfield 15, 3) := by decide +kernel
theorem d3_23 : decode jdk_42_method_149_code 23 = .ok (.putfield 15, 3) := by decide +kernel
theorem d3_26 : decode jdk_42_method_149_code 26 = .ok (.return_, 1) := by decide +kernel
theorem pn_3 : plainName "java/lang/String" = true := by first | (simp [plainName, overriddenIn]; done) | decide +kernel
theorem ef_rmNew4 (m : MethodId) (o : Addr) (b : Addr) : entryFrame m #[(.ref o), (.ref b), (.int (0 : Int32)), (.int (0 : Int32)), .null] 6 = mkF m 0 #[.val (.ref o), .val (.ref b), .val (.int (0 : Int32)), .val (.int (0 : Int32)), .val .null, .unset] [] := by first | (simp [entryFrame, mkF, argsToLocals, Value.category]; done) | rfl
set_option maxRecDepth 65536 in
set_option maxHeartbeats 40000000 in
theorem rmNew4 (l : Launch) (Z : State) (a0 : Array Value) (hw : ∀ d ∈ tables_1, d.before a0 Z = true) (ws : List Jvm.Cond) (o : Addr) (b : Addr)  (h0 : Heap) (n0 : Nat) (Z0 : n0 ≤ h0.size) (E_o : Exa Z h0 o "java/lang/String") (Fv : Fld Z h0 o "java/lang/String" "value" "[B" .null) (Fc : Fld Z h0 o "java/lang/String" "coder" "B" (.int (0 : Int32))) (g_o : n0 ≤ o) :
    MetFree l (⟨"java/lang/String", "<init>", "([CIILjava/lang/Void;)V"⟩ : MethodName) (head1 (Jvm.Cond.code (⟨"java/lang/String", "<init>", "([CIILjava/lang/Void;)V"⟩ : MethodName) jdk_42_method_149_code 6 none :: ws) ({ frames := 1, cells := 4, slots := 8, locals := 12 } : Room)) (fun a_ U_ => a_ = #[(.ref o), (.ref b), (.int (0 : Int32)), (.int (0 : Int32)), .null] ∧ Z.Warmed39 U_.vm ∧ U_.heap = h0 ∧ CHv Z ELs U_.vm h0) (fun _ _ _ _ _ => True) (fun _ U_ o_ U'_ => ∃ v_ L_, o_ = .returned v_ ∧ QNew Z o h0 n0 v_ U'_.heap L_ ∧ CHr Z ELs U_.vm U_.heap U'_.vm U'_.heap ∧ ReturnedEndW U_ o_ U'_ L_ ({ frames := 1, cells := 4, slots := 8, locals := 12 } : Room).cells ({ frames := 1, cells := 4, slots := 8, locals := 12 } : Room).slots) := by
  refine MetFree.of_bodySF (plainFor_of_name pn_3) hisR ?_
  intro p e s m args below meth c s₁ Bd hml0 hP hK
  obtain ⟨rfl, hZ, hh, hCH⟩ := hP
  have hx := Bd.exec
  have hby := Bd.bytes
  have hml : c.maxLocals = 6 := hml0
  have hown : s.vm.findClass "java/lang/String" = some m.cls := findClass_of_methodNamed Bd.named
  have hnm := (name_of_methodNamed Bd.named Bd.method).1
  have X0 : Stand p l e ({ frames := 1, cells := 4, slots := 8, locals := 12 } : Room) (s.setVm s.vm) m #[(.ref o), (.ref b), (.int (0 : Int32)), (.int (0 : Int32)), .null] below meth c s₁ [] 0 0 := Stand.of_body Bd
  have hZ : Z.Warmed39 (s.setVm s.vm).vm := hZ
  have hown : (s.setVm s.vm).vm.findClass "java/lang/String" = some m.cls := hown
  have hS : s.Since s.vm s.heap.size := (State.WarmedH.refl s).since _
  have HK0 : s.heap.size ≤ h0.size := Nat.le_of_eq (congrArg Array.size hh)
  have CH0 : CHr Z ELs s.vm h0 s.vm h0 := CHr.refl hCH
  have hEW := own_EW hw
  have e0 : s₁.heap = h0 := by rw [← hh, Bd.state]; rfl
  have N0 := Fr.nil n0
  have k0 : ∀ tg, Steps p.tables e below (s₁.setTop (mkF m 0 #[.val (.ref o), .val (.ref b), .val (.int (0 : Int32)), .val (.int (0 : Int32)), .val .null, .unset] [])) tg → Steps p.tables e below (s₁.setTop (entryFrame m #[(.ref o), (.ref b), (.int (0 : Int32)), (.int (0 : Int32)), .null] 6)) tg := fun tg kq_ => castTop (ef_rmNew4 m o b) kq_
  have SF0_o : Safe Z ELs s.vm h0 o := own_safe hZ.alike E_o Fv
  obtain ⟨T1, X1, e1, st1⟩ := initO X0 hx hZ hown (ww hw 16 rfl) (ww hw 17 rfl) (ww hw 18 rfl) e0 (g := (mkF m 1 #[.val (.ref o), .val (.ref b), .val (.int (0 : Int32)), .val (.int (0 : Int32)), .val .null, .unset] [(.ref o)])) rfl (by rw [hml]; rfl) rfl (hb hby d3_1) (by decide) (W := 0) (by show 2 * 0 + _ ≤ _; exact Nat.le_of_eq rfl) (by decide)
  have hd2 : (0 : Int32) = (0 : Int32) := rfl
  have k3 : ∀ tg, Steps p.tables e below (T1.setTop (mkF m 9 #[.val (.ref o), .val (.ref b), .val (.int (0 : Int32)), .val (.int (0 : Int32)), .val .null, .unset] [(.ref o)])) tg → Steps p.tables e below (s₁.setTop (entryFrame m #[(.ref o), (.ref b), (.int (0 : Int32)), (.int (0 : Int32)), .null] 6)) tg := by
    intro tg kt
    refine k0 tg ?_
    show Steps p.tables e below (s₁.setTop (mkF m 0 #[.val (.ref o), .val (.ref b), .val (.int (0 : Int32)), .val (.int (0 : Int32)), .val .null, .unset] [])) _
    refine XS.aloadN X0.here hx rfl (hb hby d3_0) rfl rfl ?_
    refine st1 _ ?_
    refine XS.iloadN X1.here hx rfl (hb hby d3_4) rfl ?_
    show Steps p.tables e below (T1.setTop (mkF m 5 #[.val (.ref o), .val (.ref b), .val (.int (0 : Int32)), .val (.int (0 : Int32)), .val .null, .unset] [(.int (0 : Int32))])) _
    refine XS.ifNo X1.here hx rfl (hb hby d3_5) rfl ((if0 _ _).trans (teq hd2).2) ?_
    refine XS.aloadN X1.here hx rfl (hb hby d3_8) rfl rfl ?_
    exact kt
  obtain ⟨lt4, T4, h4, kk4, bb4, kb4, X4, e4, E4, hS, HQ4, hZ, hown, Ex4, Fc4, Fv4, Va4, la4, lb4, CQ4, -, saf4, st4⟩ := ldcCH X1 hx hZ hown (ww hw 104 rfl) (own_wS hw) e1 hS HK0 hEW (by decide) CH0.1 (vs := []) (z := (0 : Int32)) ⟨by decide, by decide⟩ (by decide) (by decide) (g := (mkF m 9 #[.val (.ref o), .val (.ref b), .val (.int (0 : Int32)), .val (.int (0 : Int32)), .val .null, .unset] [(.ref o)])) rfl (hb hby d3_9) (n := 0) (by decide +kernel) (by decide) (by decide) (by decide)
  have SF4_o := CQ4.safe E_o.lt SF0_o
  have CH4 := CH0.trans CQ4
  have HK4 := Nat.le_trans HK0 E4.1
  have E4_o := E_o.ext E4
  have F4_o_value := Fv.ext E4
  have F4_o_coder := Fc.ext E4
  have Z4 := Nat.le_trans Z0 E4.1
  have KP4 := (Keep.refl h0 [o]).ext E4
  obtain ⟨ne_o_lt4, ne_o_bb4⟩ := saf4 _ SF4_o
  obtain ⟨T5, X5, e5, st5⟩ := getF X4 hx hZ hown (host := "") (Or.inl (ww hw 33 rfl)) Via.refl e4 Fv4 (g := (mkF m 11 #[.val (.ref o), .val (.ref b), .val (.int (0 : Int32)), .val (.int (0 : Int32)), .val .null, .unset] [(.ref lt4), (.ref o)])) rfl rfl (hb hby d3_11)
  obtain ⟨T6, h6, X6, e6, W6, st6⟩ := putF X5 hx hZ hown (host := "") (Or.inl (ww hw 33 rfl)) Via.refl e5 F4_o_value E4_o (Or.inr ⟨(ww hw 34 rfl), rfl, hnm⟩) (ww hw 7 rfl) (ty := (.array .byte)) (by decide) rfl rfl (g := (mkF m 14 #[.val (.ref o), .val (.ref b), .val (.int (0 : Int32)), .val (.int (0 : Int32)), .val .null, .unset] [(.ref bb4), (.ref o)])) rfl rfl (hb hby d3_14)
  have HK6 := Nat.le_trans HQ4 (Keep.of_wr W6).1
  have SF6_o := Safe.wr W6 SF4_o CH4.1 SF4_o
  have CH6 := CH4.trans (CHr.wr W6 SF4_o CH4.1)
  have E6_o := E4_o.wr W6
  have F6_o_coder := F4_o_coder.other W6 (Or.inr (slot_ne (Or.inr (ww hw 32 rfl)) (Or.inr (ww hw 34 rfl)) (by decide) (t := .byte) (t' := (.array .byte)) (by decide) (by decide)))
  have E6_lt4 := Ex4.wr W6
  have F6_lt4_coder := Fc4.other W6 (Or.inl (Ne.symm ne_o_lt4))
  have F6_lt4_value := Fv4.other W6 (Or.inl (Ne.symm ne_o_lt4))
  have V6_bb4 := Va4.other W6 (Ne.symm ne_o_bb4)
  have Z6 := Nat.le_trans Z4 (Keep.of_wr W6).1
  have KP6 := KP4.wr W6 (Or.inl (List.mem_of_getElem? (i := 0) rfl))
  have N6 := Fr.snoc X6 N0 g_o
  have F6_o_value := F4_o_value.same W6
  have k7 : ∀ tg, Steps p.tables e below (T6.setTop (mkF m 18 #[.val (.ref o), .val (.ref b), .val (.int (0 : Int32)), .val (.int (0 : Int32)), .val .null, .unset] [(.ref o)])) tg → Steps p.tables e below (s₁.setTop (entryFrame m #[(.ref o), (.ref b), (.int (0 : Int32)), (.int (0 : Int32)), .null] 6)) tg := by
    intro tg kt
    refine k3 tg ?_
    refine st4 _ ?_
    refine st5 _ ?_
    refine st6 _ ?_
    refine XS.aloadN X6.here hx rfl (hb hby d3_17) rfl rfl ?_
    exact kt
  obtain ⟨lt8, T8, h8, kk8, bb8, kb8, X8, e8, E8, hS, HQ8, hZ, hown, Ex8, Fc8, Fv8, Va8, la8, lb8, CQ8, -, saf8, st8⟩ := ldcCH X6 hx hZ hown (ww hw 104 rfl) (own_wS hw) e6 hS HK6 hEW (by decide) CH6.1 (vs := []) (z := (0 : Int32)) ⟨by decide, by decide⟩ (by decide) (by decide) (g := (mkF m 18 #[.val (.ref o), .val (.ref b), .val (.int (0 : Int32)), .val (.int (0 : Int32)), .val .null, .unset] [(.ref o)])) rfl (hb hby d3_18) (n := 0) (by decide +kernel) (by decide) (by decide) (by decide)
  have SF8_o := CQ8.safe E6_o.lt SF6_o
  have CH8 := CH6.trans CQ8
  have HK8 := Nat.le_trans HK6 E8.1
  have E8_o := E6_o.ext E8
  have F8_o_value := F6_o_value.ext E8
  have F8_o_coder := F6_o_coder.ext E8
  have E8_lt4 := E6_lt4.ext E8
  have F8_lt4_coder := F6_lt4_coder.ext E8
  have F8_lt4_value := F6_lt4_value.ext E8
  have V8_bb4 := V6_bb4.ext E8
  have Z8 := Nat.le_trans Z6 E8.1
  have KP8 := KP6.ext E8
  obtain ⟨ne_o_lt8, ne_o_bb8⟩ := saf8 _ SF8_o
  obtain ⟨T9, X9, e9, st9⟩ := getF X8 hx hZ hown (host := "") (Or.inl (ww hw 31 rfl)) Via.refl e8 Fc8 (g := (mkF m 20 #[.val (.ref o), .val (.ref b), .val (.int (0 : Int32)), .val (.int (0 : Int32)), .val .null, .unset] [(.ref lt8), (.ref o)])) rfl rfl (hb hby d3_20)
  obtain ⟨T10, h10, X10, e10, W10, st10⟩ := putFN X9 hx hZ hown (ww hw 31 rfl) Via.refl e9 F8_o_coder E8_o (Or.inr ⟨(ww hw 32 rfl), rfl, hnm⟩) (ww hw 7 rfl) (ty := .byte) (v' := (.int (0 : Int32))) (by decide) rfl rfl (g := (mkF m 23 #[.val (.ref o), .val (.ref b), .val (.int (0 : Int32)), .val (.int (0 : Int32)), .val .null, .unset] [(.int (0 : Int32)), (.ref o)])) rfl rfl (hb hby d3_23)
  have HK10 := Nat.le_trans HQ8 (Keep.of_wr W10).1
  have SF10_o := Safe.wr W10 SF8_o CH8.1 SF8_o
  have CH10 := CH8.trans (CHr.wr W10 SF8_o CH8.1)
  have E10_o := E8_o.wr W10
  have F10_o_value := F8_o_value.other W10 (Or.inr (slot_ne (Or.inr (ww hw 34 rfl)) (Or.inr (ww hw 32 rfl)) (by decide) (t := (.array .byte)) (t' := .byte) (by decide) (by decide)))
  have E10_lt4 := E8_lt4.wr W10
  have F10_lt4_coder := F8_lt4_coder.other W10 (Or.inl (Ne.symm ne_o_lt4))
  have F10_lt4_value := F8_lt4_value.other W10 (Or.inl (Ne.symm ne_o_lt4))
  have V10_bb4 := V8_bb4.other W10 (Ne.symm ne_o_bb4)
  have E10_lt8 := Ex8.wr W10
  have F10_lt8_coder := Fc8.other W10 (Or.inl (Ne.symm ne_o_lt8))
  have F10_lt8_value := Fv8.other W10 (Or.inl (Ne.symm ne_o_lt8))
  have V10_bb8 := Va8.other W10 (Ne.symm ne_o_bb8)
  have Z10 := Nat.le_trans Z8 (Keep.of_wr W10).1
  have KP10 := KP8.wr W10 (Or.inl (List.mem_of_getElem? (i := 0) rfl))
  have N10 := Fr.snoc X10 N6 g_o
  have F10_o_coder := F8_o_coder.same W10
  have k11 : ∀ tg, Steps p.tables e below (T10.setTop (mkF m 26 #[.val (.ref o), .val (.ref b), .val (.int (0 : Int32)), .val (.int (0 : Int32)), .val .null, .unset] [])) tg → Steps p.tables e below (s₁.setTop (entryFrame m #[(.ref o), (.ref b), (.int (0 : Int32)), (.int (0 : Int32)), .null] 6)) tg := by
    intro tg kt
    refine k7 tg ?_
    refine st8 _ ?_
    refine st9 _ ?_
    refine st10 _ ?_
    show Steps p.tables e below (T10.setTop (mkF m 26 #[.val (.ref o), .val (.ref b), .val (.int (0 : Int32)), .val (.int (0 : Int32)), .val .null, .unset] [])) _
    exact kt
  obtain ⟨fs, hr, hrun, hended, hRW⟩ := X10.leaveW hS (own_hk e10 HK10) (v := none) (fun _ => rfl)
  refine ⟨_, _, k11 _ ?_, hrun, hended, _, _, rfl, ?_, ?_, hRW.1, hRW.2.1, hRW.2.2.1, hRW.2.2.2.mono (by decide) (by decide)⟩
  · exact X10.returnOut hx Bd.returns (hb hby d3_26) hr
  · show QNew Z o h0 n0 _ T10.heap _
    rw [e10]
    exact ⟨rfl, N10, KP10, bb4, kb4, F10_o_coder, F10_o_value, V10_bb4⟩
  · rw [hh]
    show CHr _ _ _ _ T10.vm T10.heap
    rw [e10]
    exact CH10.trans (CHv.at X10 hZ hEW CH10.1)
theorem d2_0 : decode jdk_42_method_3_code 0 = .ok (.aload_n 0, 1) := by decide +kernel
theorem d2_1 : decode jdk_42_method_3_code 1 = .ok (.aload_n 1, 1) := by decide +kernel
theorem d2_2 : decode jdk_42_method_3_code 2 = .ok (.iconst 0, 1) := by decide +kernel
theorem d2_3 : decode jdk_42_method_3_code 3 = .ok (.aload_n 1, 1) := by decide +kernel
theorem d2_4 : decode jdk_42_method_3_code 4 = .ok (.arraylength, 1) := by decide +kernel
theorem d2_5 : decode jdk_42_method_3_code 5 = .ok (.aconst_null, 1) := by decide +kernel
theorem d2_6 : decode jdk_42_method_3_code 6 = .ok (.invokespecial 27, 3) := by decide +kernel
theorem d2_9 : decode jdk_42_method_3_code 9 = .ok (.return_, 1) := by decide +kernel
theorem pn_2 : plainName "java/lang/String" = true := by first | (simp [plainName, overriddenIn]; done) | decide +kernel
theorem pd_1 : parseMethodDescriptor "([CIILjava/lang/Void;)V" = some ⟨[(.array .char), .int, .int, (.object "java/lang/Void")], none⟩ := by decide +kernel
theorem ef_rmNew1 (m : MethodId) (o : Addr) (b : Addr) : entryFrame m #[(.ref o), (.ref b)] 2 = mkF m 0 #[.val (.ref o), .val (.ref b)] [] := by first | (simp [entryFrame, mkF, argsToLocals, Value.category]; done) | rfl
set_option maxRecDepth 65536 in
set_option maxHeartbeats 40000000 in
theorem rmNew1 (l : Launch) (Z : State) (a0 : Array Value) (hw : ∀ d ∈ tables_1, d.before a0 Z = true) (ws : List Jvm.Cond) (o : Addr) (b : Addr) (kc : ClassId) (h0 : Heap) (n0 : Nat) (Z0 : n0 ≤ h0.size) (E_o : Exa Z h0 o "java/lang/String") (Fv : Fld Z h0 o "java/lang/String" "value" "[B" .null) (Fc : Fld Z h0 o "java/lang/String" "coder" "B" (.int (0 : Int32))) (g_o : n0 ≤ o) (Vb : Arv Z h0 b kc .char (0 : Int32) [] (.int (0 : Int32))) :
    MetFree l (⟨"java/lang/String", "<init>", "([C)V"⟩ : MethodName) (head1 (Jvm.Cond.code (⟨"java/lang/String", "<init>", "([C)V"⟩ : MethodName) jdk_42_method_3_code 2 none :: ws) ({ frames := 2, cells := 4, slots := 8, locals := 29 } : Room)) (fun a_ U_ => a_ = #[(.ref o), (.ref b)] ∧ Z.Warmed39 U_.vm ∧ U_.heap = h0 ∧ CHv Z ELs U_.vm h0) (fun _ _ _ _ _ => True) (fun _ U_ o_ U'_ => ∃ v_ L_, o_ = .returned v_ ∧ QNew Z o h0 n0 v_ U'_.heap L_ ∧ CHr Z ELs U_.vm U_.heap U'_.vm U'_.heap ∧ ReturnedEndW U_ o_ U'_ L_ ({ frames := 2, cells := 4, slots := 8, locals := 29 } : Room).cells ({ frames := 2, cells := 4, slots := 8, locals := 29 } : Room).slots) := by
  refine MetFree.of_bodySF (plainFor_of_name pn_2) hisR ?_
  intro p e s m args below meth c s₁ Bd hml0 hP hK
  obtain ⟨rfl, hZ, hh, hCH⟩ := hP
  have hx := Bd.exec
  have hby := Bd.bytes
  have hml : c.maxLocals = 2 := hml0
  have hown : s.vm.findClass "java/lang/String" = some m.cls := findClass_of_methodNamed Bd.named
  have hnm := (name_of_methodNamed Bd.named Bd.method).1
  have X0 : Stand p l e ({ frames := 2, cells := 4, slots := 8, locals := 29 } : Room) (s.setVm s.vm) m #[(.ref o), (.ref b)] below meth c s₁ [] 0 0 := Stand.of_body Bd
  have hZ : Z.Warmed39 (s.setVm s.vm).vm := hZ
  have hown : (s.setVm s.vm).vm.findClass "java/lang/String" = some m.cls := hown
  have hS : s.Since s.vm s.heap.size := (State.WarmedH.refl s).since _
  have HK0 : s.heap.size ≤ h0.size := Nat.le_of_eq (congrArg Array.size hh)
  have CH0 : CHr Z ELs s.vm h0 s.vm h0 := CHr.refl hCH
  have hEW := own_EW hw
  have e0 : s₁.heap = h0 := by rw [← hh, Bd.state]; rfl
  have N0 := Fr.nil n0
  have k0 : ∀ tg, Steps p.tables e below (s₁.setTop (mkF m 0 #[.val (.ref o), .val (.ref b)] [])) tg → Steps p.tables e below (s₁.setTop (entryFrame m #[(.ref o), (.ref b)] 2)) tg := fun tg kq_ => castTop (ef_rmNew1 m o b) kq_
  obtain ⟨cl4_1, Ar4_1, q4_1, S4_1, N4_1_, H4_1, G4_1⟩ := id Vb
  have k3 : ∀ tg, Steps p.tables e below (s₁.setTop (mkF m 6 #[.val (.ref o), .val (.ref b)] [.null, (.int (0 : Int32)), (.int (0 : Int32)), (.ref b), (.ref o)])) tg → Steps p.tables e below (s₁.setTop (entryFrame m #[(.ref o), (.ref b)] 2)) tg := by
    intro tg kt
    refine k0 tg ?_
    show Steps p.tables e below (s₁.setTop (mkF m 0 #[.val (.ref o), .val (.ref b)] [])) _
    refine XS.aloadN X0.here hx rfl (hb hby d2_0) rfl rfl ?_
    refine XS.aloadN X0.here hx rfl (hb hby d2_1) rfl rfl ?_
    refine XS.iconst X0.here hx rfl (hb hby d2_2) ?_
    refine XS.aloadN X0.here hx rfl (hb hby d2_3) rfl rfl ?_
    show Steps p.tables e below (s₁.setTop (mkF m 4 #[.val (.ref o), .val (.ref b)] [(.ref b), (.int (0 : Int32)), (.ref b), (.ref o)])) _
    refine X0.arraylength hx (by rw [e0]; exact Ar4_1.1) (State.isArrayOf_alike hZ.alike Ar4_1.2.1) (g := (mkF m 4 #[.val (.ref o), .val (.ref b)] [(.ref b), (.int (0 : Int32)), (.ref b), (.ref o)])) rfl rfl (hb hby d2_4) _ ?_
    rw [len_of S4_1 N4_1_]
    show Steps p.tables e below (s₁.setTop (mkF m 5 #[.val (.ref o), .val (.ref b)] [(.int (0 : Int32)), (.int (0 : Int32)), (.ref b), (.ref o)])) _
    refine XS.aconstNull X0.here hx rfl (hb hby d2_5) ?_
    show Steps p.tables e below (s₁.setTop (mkF m 6 #[.val (.ref o), .val (.ref b)] [.null, (.int (0 : Int32)), (.int (0 : Int32)), (.ref b), (.ref o)])) _
    exact kt
  obtain ⟨_, _, ⟨T2, L2, k2, n2⟩, -, X2, S22, gr2, ⟨Lc2, hQ2, l2, y2, z2, CQ2⟩, st2⟩ := X0.specialBackS hx (y := (⟨"java/lang/String", "<init>", "([CIILjava/lang/Void;)V"⟩ : MethodName)) rfl hown (mvT hZ (ww hw 12 rfl)) (mvT hZ (ww hw 13 rfl)) (mvT hZ (ww hw 15 rfl)) (by decide) (backOfSH (W := 0) (rmNew4 l Z a0 hw [] o b  h0 n0 Z0 E_o Fv Fc g_o) hZ (ww hw 15 rfl) (ww hw 8 rfl) (by decide) (by decide) hEW CH0.1) (g := (mkF m 6 #[.val (.ref o), .val (.ref b)] [.null, (.int (0 : Int32)), (.int (0 : Int32)), (.ref b), (.ref o)])) rfl (by rw [hml]; rfl) (Steps.refl _) (a := o) (argsL := [(.ref b), (.int (0 : Int32)), (.int (0 : Int32)), .null]) (rest := []) (lenOf pd_1 rfl) rfl (by show 2 * 0 + _ ≤ _; exact Nat.le_of_eq rfl) (hb hby d2_6) (fun _ _ => ⟨rfl, e0, (by decide : 0 + 4 ≤ _), (by decide : 0 + 8 ≤ _)⟩)
  dsimp only [Pt.U, Pt.locs, Pt.cells, Pt.slots] at X2 l2 y2 z2 st2 hQ2 S22 gr2 CQ2
  subst l2 y2 z2
  obtain ⟨X2, hS, hZ, hown⟩ := rebS hS (own_hk e0 HK0) X2 S22 gr2 hZ hown
  have CH2 := CH0.trans CQ2
  obtain ⟨rfl, N2q, K2, bt2, kb2, C2x, F2x, V2x⟩ := hQ2
  have N2 := Fr.app N0 N2q
  have E2_o := E_o.keep K2
  have Z2 := Nat.le_trans Z0 K2.1
  have KP2 := (Keep.refl h0 [o]).trans K2 (allS (Or.inl (List.mem_of_getElem? (i := 0) rfl)) all0)
  have k4 : ∀ tg, Steps p.tables e below (T2.setTop (mkF m 9 #[.val (.ref o), .val (.ref b)] [])) tg → Steps p.tables e below (s₁.setTop (entryFrame m #[(.ref o), (.ref b)] 2)) tg := by
    intro tg kt
    refine k3 tg ?_
    refine st2.trans ?_
    show Steps p.tables e below (T2.setTop (mkF m 9 #[.val (.ref o), .val (.ref b)] [])) _
    exact kt
  obtain ⟨fs, hr, hrun, hended, hRW⟩ := X2.leaveW hS (own_hk rfl (Nat.le_refl _)) (v := none) (fun _ => rfl)
  refine ⟨_, _, k4 _ ?_, hrun, hended, _, _, rfl, ?_, ?_, hRW.1, hRW.2.1, hRW.2.2.1, hRW.2.2.2.mono (by decide) (by decide)⟩
  · exact X2.returnOut hx Bd.returns (hb hby d2_9) hr
  · show QNew Z o h0 n0 _ T2.heap _
    exact ⟨rfl, N2, KP2, bt2, kb2, C2x, F2x, V2x⟩
  · rw [hh]
    show CHr _ _ _ _ T2.vm T2.heap
    exact CH2.trans (CHv.at X2 hZ hEW CH2.1)
theorem d1_48 : decode method_2_code 48 = .ok (.new 7, 3) := by decide +kernel
theorem d1_51 : decode method_2_code 51 = .ok (.dup, 1) := by decide +kernel
theorem d1_52 : decode method_2_code 52 = .ok (.iconst 0, 1) := by decide +kernel
theorem d1_53 : decode method_2_code 53 = .ok (.newarray .char, 2) := by decide +kernel
theorem d1_55 : decode method_2_code 55 = .ok (.invokespecial 9, 3) := by decide +kernel
theorem d1_58 : decode method_2_code 58 = .ok (.areturn, 1) := by decide +kernel
theorem ef_rmStr0 (m : MethodId) (b : Addr) : entryFrame m #[(.ref b), (.int (0 : Int32))] 2 = mkF m 0 #[.val (.ref b), .val (.int (0 : Int32))] [] := by first | (simp [entryFrame, mkF, argsToLocals, Value.category]; done) | rfl
set_option maxRecDepth 65536 in
set_option maxHeartbeats 40000000 in
theorem rmStr0 (l : Launch) (Z : State) (a0 : Array Value) (hw : ∀ d ∈ tables_1, d.before a0 Z = true) (ws : List Jvm.Cond) (b : Addr)  (h0 : Heap) (n0 : Nat) (Z0 : n0 ≤ h0.size)  :
    MetFree l (⟨"com/example/lifetable/lifetable/output/ExportFormatNamedPinLaw", "str", "([CI)Ljava/lang/String;"⟩ : MethodName) (head1 (Jvm.Cond.code (⟨"com/example/lifetable/lifetable/output/ExportFormatNamedPinLaw", "str", "([CI)Ljava/lang/String;"⟩ : MethodName) method_2_code 2 (some (.object "java/lang/String")) :: ws) ({ frames := 3, cells := 6, slots := 12, locals := 43 } : Room)) (fun a_ U_ => a_ = #[(.ref b), (.int (0 : Int32))] ∧ Z.Warmed39 U_.vm ∧ U_.heap = h0 ∧ CHv Z ELs U_.vm h0) (fun _ _ _ _ _ => True) (fun _ U_ o_ U'_ => ∃ v_ L_, o_ = .returned v_ ∧ QStr Z [] h0 n0 v_ U'_.heap L_ ∧ CHr Z ELs U_.vm U_.heap U'_.vm U'_.heap ∧ ReturnedEndW U_ o_ U'_ L_ ({ frames := 3, cells := 6, slots := 12, locals := 43 } : Room).cells ({ frames := 3, cells := 6, slots := 12, locals := 43 } : Room).slots) := by
  refine MetFree.of_bodySF (plainFor_of_name pn_1) hisR ?_
  intro p e s m args below meth c s₁ Bd hml0 hP hK
  obtain ⟨rfl, hZ, hh, hCH⟩ := hP
  have hx := Bd.exec
  have hby := Bd.bytes
  have hml : c.maxLocals = 2 := hml0
  have hown : s.vm.findClass "com/example/lifetable/lifetable/output/ExportFormatNamedPinLaw" = some m.cls := findClass_of_methodNamed Bd.named
  have hnm := (name_of_methodNamed Bd.named Bd.method).1
  have X0 : Stand p l e ({ frames := 3, cells := 6, slots := 12, locals := 43 } : Room) (s.setVm s.vm) m #[(.ref b), (.int (0 : Int32))] below meth c s₁ [] 0 0 := Stand.of_body Bd
  have hZ : Z.Warmed39 (s.setVm s.vm).vm := hZ
  have hown : (s.setVm s.vm).vm.findClass "com/example/lifetable/lifetable/output/ExportFormatNamedPinLaw" = some m.cls := hown
  have hS : s.Since s.vm s.heap.size := (State.WarmedH.refl s).since _
  have HK0 : s.heap.size ≤ h0.size := Nat.le_of_eq (congrArg Array.size hh)
  have CH0 : CHr Z ELs s.vm h0 s.vm h0 := CHr.refl hCH
  have hEW := own_EW hw
  have e0 : s₁.heap = h0 := by rw [← hh, Bd.state]; rfl
  have N0 := Fr.nil n0
  have k0 : ∀ tg, Steps p.tables e below (s₁.setTop (mkF m 0 #[.val (.ref b), .val (.int (0 : Int32))] [])) tg → Steps p.tables e below (s₁.setTop (entryFrame m #[(.ref b), (.int (0 : Int32))] 2)) tg := fun tg kq_ => castTop (ef_rmStr0 m b) kq_
  obtain ⟨T1, h1, X1, e1, E1, A1, D1, -, st1⟩ := newO X0 hx hZ hown (ww hw 6 rfl) (ww hw 7 rfl) (ww hw 8 rfl) e0 (g := (mkF m 48 #[.val (.ref b), .val (.int (0 : Int32))] [])) rfl (hb hby d1_48) (by decide) (by decide)
  obtain ⟨b1, g1⟩ : ∃ z, z = h0.size := ⟨_, rfl⟩
  have g_b1 : n0 ≤ b1 := Nat.le_trans Z0 (Nat.le_of_eq g1.symm)
  have sz_b1 : h0.size ≤ b1 := Nat.le_trans (Keep.refl h0 []).1 (Nat.le_of_eq g1.symm)
  rw [← g1] at A1 D1 st1
  have HK1 := Nat.le_trans HK0 E1.1
  have CH1 := CH0.trans (CHr.ext E1 CH0.1)
  have Z1 := Nat.le_trans Z0 E1.1
  have KP1 := (Keep.refl h0 []).ext E1
  have F_coder_b1 : Fld Z h1 b1 "java/lang/String" "coder" "B" (.int (0 : Int32)) := D1 (Or.inr (ww hw 32 rfl)) (ty := .byte) (by decide)
  have F_value_b1 : Fld Z h1 b1 "java/lang/String" "value" "[B" .null := D1 (Or.inr (ww hw 34 rfl)) (ty := (.array .byte)) (by decide)
  obtain ⟨T2, h2, c2, X2, e2, E2, A2, st2⟩ := newP X1 hx hZ (ww hw 0 rfl) e1 (g := (mkF m 53 #[.val (.ref b), .val (.int (0 : Int32))] [(.int (0 : Int32)), (.ref b1), (.ref b1)])) rfl (hb hby d1_53) rfl (by decide) (cap := 0) (by decide) (by decide) (by decide) (by decide)
  obtain ⟨b2, g2⟩ : ∃ z, z = h1.size := ⟨_, rfl⟩
  have ne_b1_b2 : b1 ≠ b2 := Nat.ne_of_lt (Nat.lt_of_lt_of_le A1.lt (Nat.le_of_eq g2.symm))
  have g_b2 : n0 ≤ b2 := Nat.le_trans Z1 (Nat.le_of_eq g2.symm)
  have sz_b2 : h0.size ≤ b2 := Nat.le_trans KP1.1 (Nat.le_of_eq g2.symm)
  rw [← g2] at A2 st2
  have HK2 := Nat.le_trans HK1 E2.1
  have CH2 := CH1.trans (CHr.ext E2 CH1.1)
  have E2_b1 := A1.ext E2
  have F2_b1_coder := F_coder_b1.ext E2
  have F2_b1_value := F_value_b1.ext E2
  have Z2 := Nat.le_trans Z1 E2.1
  have KP2 := KP1.ext E2
  have V_b2 : Arv Z h2 b2 c2 .char (0 : Int32) [] (.int (0 : Int32)) := (Arv.new A2 (by decide)).pad (pad_rep [] (.int (0 : Int32)) 0)
  have k4 : ∀ tg, Steps p.tables e below (T2.setTop (mkF m 55 #[.val (.ref b), .val (.int (0 : Int32))] [(.ref b2), (.ref b1), (.ref b1)])) tg → Steps p.tables e below (s₁.setTop (entryFrame m #[(.ref b), (.int (0 : Int32))] 2)) tg := by
    intro tg kt
    refine k0 tg ?_
    show Steps p.tables e below (s₁.setTop (mkF m 0 #[.val (.ref b), .val (.int (0 : Int32))] [])) _
    refine XS.iloadN X0.here hx rfl (hb hby d1_0) rfl ?_
    refine XS.tswIn X0.here hx rfl (pc0 := 1) (pc' := 48) rfl (hb hby d1_1) rfl (by decide) (o := 47) (by decide) (by decide) (by decide) ?_
    refine st1 _ ?_
    show Steps p.tables e below (T1.setTop (mkF m 51 #[.val (.ref b), .val (.int (0 : Int32))] [(.ref b1)])) _
    refine XS.dup X1.here hx rfl (hb hby d1_51) rfl rfl ?_
    refine XS.iconst X1.here hx rfl (hb hby d1_52) ?_
    refine st2 _ ?_
    show Steps p.tables e below (T2.setTop (mkF m 55 #[.val (.ref b), .val (.int (0 : Int32))] [(.ref b2), (.ref b1), (.ref b1)])) _
    exact kt
  obtain ⟨_, _, ⟨T3, L3, k3, n3⟩, -, X3, S23, gr3, ⟨Lc3, hQ3, l3, y3, z3, CQ3⟩, st3⟩ := X2.specialBackS hx (y := (⟨"java/lang/String", "<init>", "([C)V"⟩ : MethodName)) rfl hown (mvT hZ (ww hw 9 rfl)) (mvT hZ (ww hw 10 rfl)) (mvT hZ (ww hw 11 rfl)) (by decide) (backOfSH (W := 1) (rmNew1 l Z a0 hw [] b1 b2 c2 h2 n0 Z2 E2_b1 F2_b1_value F2_b1_coder g_b1 V_b2) hZ (ww hw 11 rfl) (ww hw 8 rfl) (by decide) (by decide) hEW CH2.1) (g := (mkF m 55 #[.val (.ref b), .val (.int (0 : Int32))] [(.ref b2), (.ref b1), (.ref b1)])) rfl (by rw [hml]; rfl) (Steps.refl _) (a := b1) (argsL := [(.ref b2)]) (rest := [(.ref b1)]) (lenOf pd_0 rfl) rfl (by show 2 * 0 + _ ≤ _; exact Nat.le_of_eq rfl) (hb hby d1_55) (fun _ _ => ⟨rfl, e2, (by decide : 2 + 4 ≤ _), (by decide : 4 + 8 ≤ _)⟩)
  dsimp only [Pt.U, Pt.locs, Pt.cells, Pt.slots] at X3 l3 y3 z3 st3 hQ3 S23 gr3 CQ3
  subst l3 y3 z3
  obtain ⟨X3, hS, hZ, hown⟩ := rebS hS (own_hk e2 HK2) X3 S23 gr3 hZ hown
  have CH3 := CH2.trans CQ3
  obtain ⟨rfl, N3q, K3, bt3, kb3, C3x, F3x, V3x⟩ := hQ3
  have N3 := Fr.app N0 N3q
  have E3_b1 := E2_b1.keep K3
  have V3_b2 := V_b2.keep K3 (ninS (Ne.symm ne_b1_b2) nin0)
  have Z3 := Nat.le_trans Z2 K3.1
  have KP3 := KP2.trans K3 (allS (Or.inr sz_b1) all0)
  have k5 : ∀ tg, Steps p.tables e below (T3.setTop (mkF m 58 #[.val (.ref b), .val (.int (0 : Int32))] [(.ref b1)])) tg → Steps p.tables e below (s₁.setTop (entryFrame m #[(.ref b), (.int (0 : Int32))] 2)) tg := by
    intro tg kt
    refine k4 tg ?_
    refine st3.trans ?_
    show Steps p.tables e below (T3.setTop (mkF m 58 #[.val (.ref b), .val (.int (0 : Int32))] [(.ref b1)])) _
    exact kt
  obtain ⟨fs, hr, hrun, hended, hRW⟩ := X3.leaveW hS (own_hk rfl (Nat.le_refl _)) (v := some (.ref b1)) (fun h => by rw [Bd.returns] at h; cases h)
  refine ⟨_, _, k5 _ ?_, hrun, hended, _, _, rfl, ?_, ?_, hRW.1, hRW.2.1, hRW.2.2.1, hRW.2.2.2.mono (by decide) (by decide)⟩
  · exact own_retA X3 hx Bd.returns rfl (hb hby d1_58) hr
  · show QStr Z [] h0 n0 _ T3.heap _
    exact ⟨N3, KP3, b1, bt3, kb3, rfl, sz_b1, E3_b1, C3x, F3x, V3x⟩
  · rw [hh]
    show CHr _ _ _ _ T3.vm T3.heap
    exact CH3.trans (CHv.at X3 hZ hEW CH3.1)
theorem d11_0 : decode jdk_32_method_1_code 0 = .ok (.getstatic 1, 3) := by decide +kernel
theorem d11_3 : decode jdk_32_method_1_code 3 = .ok (.astore_n 0, 1) := by decide +kernel
theorem d11_4 : decode jdk_32_method_1_code 4 = .ok (.aload_n 0, 1) := by decide +kernel
theorem d11_5 : decode jdk_32_method_1_code 5 = .ok (.areturn, 1) := by decide +kernel
theorem pn_11 : plainName "java/util/Optional" = true := by first | (simp [plainName, overriddenIn]; done) | decide +kernel
theorem ef_rmEmpty (m : MethodId)  : entryFrame m #[] 1 = mkF m 0 #[.unset] [] := by first | (simp [entryFrame, mkF, argsToLocals, Value.category]; done) | rfl
set_option maxRecDepth 65536 in
set_option maxHeartbeats 40000000 in
theorem rmEmpty (l : Launch) (Z : State) (a0 : Array Value) (hw : ∀ d ∈ tables_1, d.before a0 Z = true) (ws : List Jvm.Cond)  (cz : Int32) (v_EMPTY vv : Addr) (kv : ClassId) (v_NONE n_NONE t_NONE : Addr) (k_NONE : ClassId) (v_CSV n_CSV t_CSV : Addr) (k_CSV : ClassId) (v_DATABASE n_DATABASE t_DATABASE : Addr) (k_DATABASE : ClassId) (h0 : Heap) (n0 : Nat) (hWd : World Z h0 cz v_EMPTY vv kv v_NONE n_NONE t_NONE k_NONE v_CSV n_CSV t_CSV k_CSV v_DATABASE n_DATABASE t_DATABASE k_DATABASE) :
    MetFree l (⟨"java/util/Optional", "empty", "()Ljava/util/Optional;"⟩ : MethodName) (head1 (Jvm.Cond.code (⟨"java/util/Optional", "empty", "()Ljava/util/Optional;"⟩ : MethodName) jdk_32_method_1_code 1 (some (.object "java/util/Optional")) :: ws) ({ frames := 0, cells := 0, slots := 0, locals := 0 } : Room)) (fun a_ U_ => a_ = #[] ∧ Z.Warmed39 U_.vm ∧ U_.heap = h0) (fun _ _ _ _ _ => True) (fun _ U_ o_ U'_ => ∃ v_ L_, o_ = .returned v_ ∧ QV (.ref v_EMPTY) h0 n0 v_ U'_.heap L_ ∧ FrameEnd U_ o_ U'_ L_ ({ frames := 0, cells := 0, slots := 0, locals := 0 } : Room).cells ({ frames := 0, cells := 0, slots := 0, locals := 0 } : Room).slots) := by
  refine MetFree.of_bodySF (plainFor_of_name pn_11) hisR ?_
  intro p e s m args below meth c s₁ Bd hml0 hP hK
  obtain ⟨rfl, hZ, hh⟩ := hP
  have hx := Bd.exec
  have hby := Bd.bytes
  have hml : c.maxLocals = 1 := hml0
  have hown : s.vm.findClass "java/util/Optional" = some m.cls := findClass_of_methodNamed Bd.named
  have hnm := (name_of_methodNamed Bd.named Bd.method).1
  have X0 : Stand p l e ({ frames := 0, cells := 0, slots := 0, locals := 0 } : Room) s m #[] below meth c s₁ [] 0 0 := Stand.of_body Bd
  have e0 : s₁.heap = h0 := by rw [← hh, Bd.state]; rfl
  have N0 := Fr.nil n0
  have k0 : ∀ tg, Steps p.tables e below (s₁.setTop (mkF m 0 #[.unset] [])) tg → Steps p.tables e below (s₁.setTop (entryFrame m #[] 1)) tg := fun tg kq_ => castTop (ef_rmEmpty m ) kq_
  obtain ⟨T1, X1, e1, st1⟩ := getS2 X0 hx hZ hown (host := "") (Or.inl (ww hw 58 rfl)) Via.refl e0 ((hWd.ext (own_extK (Keep.refl h0 []))).2.1) (g := (mkF m 0 #[.unset] [])) rfl (hb hby d11_0)
  have k2 : ∀ tg, Steps p.tables e below (T1.setTop (mkF m 5 #[.val (.ref v_EMPTY)] [(.ref v_EMPTY)])) tg → Steps p.tables e below (s₁.setTop (entryFrame m #[] 1)) tg := by
    intro tg kt
    refine k0 tg ?_
    show Steps p.tables e below (s₁.setTop (mkF m 0 #[.unset] [])) _
    refine st1 _ ?_
    refine XS.astoreN X1.here hx rfl (hb hby d11_3) rfl rfl (l' := #[.val (.ref v_EMPTY)]) rfl ?_
    refine XS.aloadN X1.here hx rfl (hb hby d11_4) rfl rfl ?_
    show Steps p.tables e below (T1.setTop (mkF m 5 #[.val (.ref v_EMPTY)] [(.ref v_EMPTY)])) _
    exact kt
  obtain ⟨fs, hr, hrun, hended, hW, hsame⟩ := X1.leave (v := some (.ref v_EMPTY)) (fun h => by rw [Bd.returns] at h; cases h)
  refine ⟨_, _, k2 _ ?_, hrun, hended, _, _, rfl, ?_, ⟨_, rfl⟩, hW, hsame.mono (by decide) (by decide)⟩
  · exact own_retA X1 hx Bd.returns rfl (hb hby d11_5) hr
  · show QV _ h0 n0 _ T1.heap _
    exact ⟨rfl, N0, e1⟩
theorem d15_0 : decode jdk_31_method_10_code 0 = .ok (.aload_n 0, 1) := by decide +kernel
theorem d15_1 : decode jdk_31_method_10_code 1 = .ok (.ifnonnull 11, 3) := by decide +kernel
theorem d15_12 : decode jdk_31_method_10_code 12 = .ok (.aload_n 0, 1) := by decide +kernel
theorem d15_13 : decode jdk_31_method_10_code 13 = .ok (.areturn, 1) := by decide +kernel
theorem pn_15 : plainName "java/util/Objects" = true := by first | (simp [plainName, overriddenIn]; done) | decide +kernel
theorem ef_rmReq (m : MethodId) (o : Addr) : entryFrame m #[(.ref o)] 1 = mkF m 0 #[.val (.ref o)] [] := by first | (simp [entryFrame, mkF, argsToLocals, Value.category]; done) | rfl
set_option maxRecDepth 65536 in
set_option maxHeartbeats 40000000 in
theorem rmReq (l : Launch) (Z : State) (a0 : Array Value) (hw : ∀ d ∈ tables_1, d.before a0 Z = true) (ws : List Jvm.Cond) (o : Addr)  (h0 : Heap) (n0 : Nat)  :
    MetFree l (⟨"java/util/Objects", "requireNonNull", "(Ljava/lang/Object;)Ljava/lang/Object;"⟩ : MethodName) (head1 (Jvm.Cond.code (⟨"java/util/Objects", "requireNonNull", "(Ljava/lang/Object;)Ljava/lang/Object;"⟩ : MethodName) jdk_31_method_10_code 1 (some (.object "java/lang/Object")) :: ws) ({ frames := 0, cells := 0, slots := 0, locals := 0 } : Room)) (fun a_ U_ => a_ = #[(.ref o)] ∧ Z.Warmed39 U_.vm ∧ U_.heap = h0) (fun _ _ _ _ _ => True) (fun _ U_ o_ U'_ => ∃ v_ L_, o_ = .returned v_ ∧ QV (.ref o) h0 n0 v_ U'_.heap L_ ∧ FrameEnd U_ o_ U'_ L_ ({ frames := 0, cells := 0, slots := 0, locals := 0 } : Room).cells ({ frames := 0, cells := 0, slots := 0, locals := 0 } : Room).slots) := by
  refine MetFree.of_bodySF (plainFor_of_name pn_15) hisR ?_
  intro p e s m args below meth c s₁ Bd hml0 hP hK
  obtain ⟨rfl, hZ, hh⟩ := hP
  have hx := Bd.exec
  have hby := Bd.bytes
  have hml : c.maxLocals = 1 := hml0
  have hown : s.vm.findClass "java/util/Objects" = some m.cls := findClass_of_methodNamed Bd.named
  have hnm := (name_of_methodNamed Bd.named Bd.method).1
  have X0 : Stand p l e ({ frames := 0, cells := 0, slots := 0, locals := 0 } : Room) s m #[(.ref o)] below meth c s₁ [] 0 0 := Stand.of_body Bd
  have e0 : s₁.heap = h0 := by rw [← hh, Bd.state]; rfl
  have N0 := Fr.nil n0
  have k0 : ∀ tg, Steps p.tables e below (s₁.setTop (mkF m 0 #[.val (.ref o)] [])) tg → Steps p.tables e below (s₁.setTop (entryFrame m #[(.ref o)] 1)) tg := fun tg kq_ => castTop (ef_rmReq m o) kq_
  have k1 : ∀ tg, Steps p.tables e below (s₁.setTop (mkF m 13 #[.val (.ref o)] [(.ref o)])) tg → Steps p.tables e below (s₁.setTop (entryFrame m #[(.ref o)] 1)) tg := by
    intro tg kt
    refine k0 tg ?_
    show Steps p.tables e below (s₁.setTop (mkF m 0 #[.val (.ref o)] [])) _
    refine XS.aloadN X0.here hx rfl (hb hby d15_0) rfl rfl ?_
    refine XS.ifnonnullYes X0.here hx rfl (pc0 := 1) (pc' := 12) rfl (hb hby d15_1) rfl (by decide) (by decide) ?_
    refine XS.aloadN X0.here hx rfl (hb hby d15_12) rfl rfl ?_
    show Steps p.tables e below (s₁.setTop (mkF m 13 #[.val (.ref o)] [(.ref o)])) _
    exact kt
  obtain ⟨fs, hr, hrun, hended, hW, hsame⟩ := X0.leave (v := some (.ref o)) (fun h => by rw [Bd.returns] at h; cases h)
  refine ⟨_, _, k1 _ ?_, hrun, hended, _, _, rfl, ?_, ⟨_, rfl⟩, hW, hsame.mono (by decide) (by decide)⟩
  · exact own_retA X0 hx Bd.returns rfl (hb hby d15_13) hr
  · show QV _ h0 n0 _ s₁.heap _
    exact ⟨rfl, N0, e0⟩
def QSet (Z : State) (o u : Addr) (h0 : Heap) (n0 : Nat) (v : Option Value) (h : Heap) (L : List Loc) : Prop := v = none ∧ Fr n0 L ∧ Keep h0 h [o] ∧ Fld Z h o "java/util/Optional" "value" "Ljava/lang/Object;" (.ref u)
theorem d16_0 : decode jdk_32_method_2_code 0 = .ok (.aload_n 0, 1) := by decide +kernel
theorem d16_1 : decode jdk_32_method_2_code 1 = .ok (.invokespecial 7, 3) := by decide +kernel
theorem d16_4 : decode jdk_32_method_2_code 4 = .ok (.aload_n 0, 1) := by decide +kernel
theorem d16_5 : decode jdk_32_method_2_code 5 = .ok (.aload_n 1, 1) := by decide +kernel
theorem d16_6 : decode jdk_32_method_2_code 6 = .ok (.putfield 13, 3) := by decide +kernel
theorem d16_9 : decode jdk_32_method_2_code 9 = .ok (.return_, 1) := by decide +kernel
theorem pn_16 : plainName "java/util/Optional" = true := by first | (simp [plainName, overriddenIn]; done) | decide +kernel
theorem ef_rmOInit (m : MethodId) (o : Addr) (u : Addr) : entryFrame m #[(.ref o), (.ref u)] 2 = mkF m 0 #[.val (.ref o), .val (.ref u)] [] := by first | (simp [entryFrame, mkF, argsToLocals, Value.category]; done) | rfl
set_option maxRecDepth 65536 in
set_option maxHeartbeats 40000000 in
theorem rmOInit (l : Launch) (Z : State) (a0 : Array Value) (hw : ∀ d ∈ tables_1, d.before a0 Z = true) (ws : List Jvm.Cond) (o : Addr) (u : Addr)  (h0 : Heap) (n0 : Nat) (Z0 : n0 ≤ h0.size) (E_o : Exa Z h0 o "java/util/Optional") (Fv : Fld Z h0 o "java/util/Optional" "value" "Ljava/lang/Object;" .null) (g_o : n0 ≤ o) :
    MetFree l (⟨"java/util/Optional", "<init>", "(Ljava/lang/Object;)V"⟩ : MethodName) (head1 (Jvm.Cond.code (⟨"java/util/Optional", "<init>", "(Ljava/lang/Object;)V"⟩ : MethodName) jdk_32_method_2_code 2 none :: ws) ({ frames := 1, cells := 0, slots := 0, locals := 12 } : Room)) (fun a_ U_ => a_ = #[(.ref o), (.ref u)] ∧ Z.Warmed39 U_.vm ∧ U_.heap = h0) (fun _ _ _ _ _ => True) (fun _ U_ o_ U'_ => ∃ v_ L_, o_ = .returned v_ ∧ QSet Z o u h0 n0 v_ U'_.heap L_ ∧ FrameEnd U_ o_ U'_ L_ ({ frames := 1, cells := 0, slots := 0, locals := 12 } : Room).cells ({ frames := 1, cells := 0, slots := 0, locals := 12 } : Room).slots) := by
  refine MetFree.of_bodySF (plainFor_of_name pn_16) hisR ?_
  intro p e s m args below meth c s₁ Bd hml0 hP hK
  obtain ⟨rfl, hZ, hh⟩ := hP
  have hx := Bd.exec
  have hby := Bd.bytes
  have hml : c.maxLocals = 2 := hml0
  have hown : s.vm.findClass "java/util/Optional" = some m.cls := findClass_of_methodNamed Bd.named
  have hnm := (name_of_methodNamed Bd.named Bd.method).1
  have X0 : Stand p l e ({ frames := 1, cells := 0, slots := 0, locals := 12 } : Room) s m #[(.ref o), (.ref u)] below meth c s₁ [] 0 0 := Stand.of_body Bd
  have e0 : s₁.heap = h0 := by rw [← hh, Bd.state]; rfl
  have N0 := Fr.nil n0
  have k0 : ∀ tg, Steps p.tables e below (s₁.setTop (mkF m 0 #[.val (.ref o), .val (.ref u)] [])) tg → Steps p.tables e below (s₁.setTop (entryFrame m #[(.ref o), (.ref u)] 2)) tg := fun tg kq_ => castTop (ef_rmOInit m o u) kq_
  obtain ⟨T1, X1, e1, st1⟩ := initO X0 hx hZ hown (ww hw 101 rfl) (ww hw 17 rfl) (ww hw 18 rfl) e0 (g := (mkF m 1 #[.val (.ref o), .val (.ref u)] [(.ref o)])) rfl (by rw [hml]; rfl) rfl (hb hby d16_1) (by decide) (W := 0) (by show 2 * 0 + _ ≤ _; exact Nat.le_of_eq rfl) (by decide)
  obtain ⟨T2, h2, X2, e2, W2, st2⟩ := putF X1 hx hZ hown (host := "") (Or.inl (ww hw 85 rfl)) Via.refl e1 Fv E_o (Or.inr ⟨(ww hw 86 rfl), rfl, hnm⟩) (ww hw 92 rfl) (ty := (.object "java/lang/Object")) (by decide) rfl rfl (g := (mkF m 6 #[.val (.ref o), .val (.ref u)] [(.ref u), (.ref o)])) rfl rfl (hb hby d16_6)
  have E2_o := E_o.wr W2
  have Z2 := Nat.le_trans Z0 (Keep.of_wr W2).1
  have KP2 := (Keep.refl h0 [o]).wr W2 (Or.inl (List.mem_of_getElem? (i := 0) rfl))
  have N2 := Fr.snoc X2 N0 g_o
  have F2_o_value := Fv.same W2
  have k3 : ∀ tg, Steps p.tables e below (T2.setTop (mkF m 9 #[.val (.ref o), .val (.ref u)] [])) tg → Steps p.tables e below (s₁.setTop (entryFrame m #[(.ref o), (.ref u)] 2)) tg := by
    intro tg kt
    refine k0 tg ?_
    show Steps p.tables e below (s₁.setTop (mkF m 0 #[.val (.ref o), .val (.ref u)] [])) _
    refine XS.aloadN X0.here hx rfl (hb hby d16_0) rfl rfl ?_
    refine st1 _ ?_
    refine XS.aloadN X1.here hx rfl (hb hby d16_4) rfl rfl ?_
    refine XS.aloadN X1.here hx rfl (hb hby d16_5) rfl rfl ?_
    show Steps p.tables e below (T1.setTop (mkF m 6 #[.val (.ref o), .val (.ref u)] [(.ref u), (.ref o)])) _
    refine st2 _ ?_
    show Steps p.tables e below (T2.setTop (mkF m 9 #[.val (.ref o), .val (.ref u)] [])) _
    exact kt
  obtain ⟨fs, hr, hrun, hended, hW, hsame⟩ := X2.leave (v := none) (fun _ => rfl)
  refine ⟨_, _, k3 _ ?_, hrun, hended, _, _, rfl, ?_, ⟨_, rfl⟩, hW, hsame.mono (by decide) (by decide)⟩
  · exact X2.returnOut hx Bd.returns (hb hby d16_9) hr
  · show QSet Z o u h0 n0 _ T2.heap _
    rw [e2]
    exact ⟨rfl, N2, KP2, F2_o_value⟩
def QOpt (Z : State) (u : Addr) (h0 : Heap) (n0 : Nat) (v : Option Value) (h : Heap) (L : List Loc) : Prop := Fr n0 L ∧ Keep h0 h [] ∧ ∃ o : Addr, v = some (.ref o) ∧ h0.size ≤ o ∧ Exa Z h o "java/util/Optional" ∧ Fld Z h o "java/util/Optional" "value" "Ljava/lang/Object;" (.ref u)
theorem d14_0 : decode jdk_32_method_3_code 0 = .ok (.new 2, 3) := by decide +kernel
theorem d14_3 : decode jdk_32_method_3_code 3 = .ok (.dup, 1) := by decide +kernel
theorem d14_4 : decode jdk_32_method_3_code 4 = .ok (.aload_n 0, 1) := by decide +kernel
theorem d14_5 : decode jdk_32_method_3_code 5 = .ok (.invokestatic 17, 3) := by decide +kernel
theorem d14_8 : decode jdk_32_method_3_code 8 = .ok (.invokespecial 23, 3) := by decide +kernel
theorem d14_11 : decode jdk_32_method_3_code 11 = .ok (.areturn, 1) := by decide +kernel
theorem pn_14 : plainName "java/util/Optional" = true := by first | (simp [plainName, overriddenIn]; done) | decide +kernel
theorem pd_2 : parseMethodDescriptor "(Ljava/lang/Object;)Ljava/lang/Object;" = some ⟨[(.object "java/lang/Object")], some (.object "java/lang/Object")⟩ := by decide +kernel
theorem pd_3 : parseMethodDescriptor "(Ljava/lang/Object;)V" = some ⟨[(.object "java/lang/Object")], none⟩ := by decide +kernel
theorem ef_rmOOf (m : MethodId) (u : Addr) : entryFrame m #[(.ref u)] 1 = mkF m 0 #[.val (.ref u)] [] := by first | (simp [entryFrame, mkF, argsToLocals, Value.category]; done) | rfl
set_option maxRecDepth 65536 in
set_option maxHeartbeats 40000000 in
theorem rmOOf (l : Launch) (Z : State) (a0 : Array Value) (hw : ∀ d ∈ tables_1, d.before a0 Z = true) (ws : List Jvm.Cond) (u : Addr)  (h0 : Heap) (n0 : Nat) (Z0 : n0 ≤ h0.size)  :
    MetFree l (⟨"java/util/Optional", "of", "(Ljava/lang/Object;)Ljava/util/Optional;"⟩ : MethodName) (head1 (Jvm.Cond.code (⟨"java/util/Optional", "of", "(Ljava/lang/Object;)Ljava/util/Optional;"⟩ : MethodName) jdk_32_method_3_code 1 (some (.object "java/util/Optional")) :: ws) ({ frames := 2, cells := 1, slots := 1, locals := 26 } : Room)) (fun a_ U_ => a_ = #[(.ref u)] ∧ Z.Warmed39 U_.vm ∧ U_.heap = h0) (fun _ _ _ _ _ => True) (fun _ U_ o_ U'_ => ∃ v_ L_, o_ = .returned v_ ∧ QOpt Z u h0 n0 v_ U'_.heap L_ ∧ FrameEnd U_ o_ U'_ L_ ({ frames := 2, cells := 1, slots := 1, locals := 26 } : Room).cells ({ frames := 2, cells := 1, slots := 1, locals := 26 } : Room).slots) := by
  refine MetFree.of_bodySF (plainFor_of_name pn_14) hisR ?_
  intro p e s m args below meth c s₁ Bd hml0 hP hK
  obtain ⟨rfl, hZ, hh⟩ := hP
  have hx := Bd.exec
  have hby := Bd.bytes
  have hml : c.maxLocals = 1 := hml0
  have hown : s.vm.findClass "java/util/Optional" = some m.cls := findClass_of_methodNamed Bd.named
  have hnm := (name_of_methodNamed Bd.named Bd.method).1
  have X0 : Stand p l e ({ frames := 2, cells := 1, slots := 1, locals := 26 } : Room) s m #[(.ref u)] below meth c s₁ [] 0 0 := Stand.of_body Bd
  have e0 : s₁.heap = h0 := by rw [← hh, Bd.state]; rfl
  have N0 := Fr.nil n0
  have k0 : ∀ tg, Steps p.tables e below (s₁.setTop (mkF m 0 #[.val (.ref u)] [])) tg → Steps p.tables e below (s₁.setTop (entryFrame m #[(.ref u)] 1)) tg := fun tg kq_ => castTop (ef_rmOOf m u) kq_
  obtain ⟨T1, h1, X1, e1, E1, A1, D1, -, st1⟩ := newO X0 hx hZ hown (ww hw 91 rfl) (ww hw 92 rfl) (ww hw 56 rfl) e0 (g := (mkF m 0 #[.val (.ref u)] [])) rfl (hb hby d14_0) (by decide) (by decide)
  obtain ⟨b1, g1⟩ : ∃ z, z = h0.size := ⟨_, rfl⟩
  have g_b1 : n0 ≤ b1 := Nat.le_trans Z0 (Nat.le_of_eq g1.symm)
  have sz_b1 : h0.size ≤ b1 := Nat.le_trans (Keep.refl h0 []).1 (Nat.le_of_eq g1.symm)
  rw [← g1] at A1 D1 st1
  have Z1 := Nat.le_trans Z0 E1.1
  have KP1 := (Keep.refl h0 []).ext E1
  have F_value_b1 : Fld Z h1 b1 "java/util/Optional" "value" "Ljava/lang/Object;" .null := D1 (Or.inr (ww hw 86 rfl)) (ty := (.object "java/lang/Object")) (by decide)
  obtain ⟨_, _, ⟨T2, L2, k2, n2⟩, -, X2, ⟨Lc2, hQ2, l2, y2, z2⟩, st2⟩ := Jvm.LawKit.callS X1 hx (y := (⟨"java/util/Objects", "requireNonNull", "(Ljava/lang/Object;)Ljava/lang/Object;"⟩ : MethodName)) hown (mvT hZ (ww hw 93 rfl)) (mvT hZ (ww hw 94 rfl)) (mvT hZ (ww hw 95 rfl)) (mvT hZ (ww hw 96 rfl)) (by decide) (backOf (W := 2) (rmReq l Z a0 hw [] u  h1 n0 ) hZ (ww hw 96 rfl) (ww hw 95 rfl) (by decide) (by decide)) (g := (mkF m 5 #[.val (.ref u)] [(.ref u), (.ref b1), (.ref b1)])) rfl (by rw [hml]; rfl) (argsL := [(.ref u)]) (rest := [(.ref b1), (.ref b1)]) (lenOf pd_2 rfl) rfl (by show 2 * 0 + _ ≤ _; exact Nat.le_of_eq rfl) (hb hby d14_5) (fun _ _ => ⟨rfl, e1, (by decide : 1 + 0 ≤ _), (by decide : 1 + 0 ≤ _)⟩)
  dsimp only [Pt.U, Pt.locs, Pt.cells, Pt.slots] at X2 l2 y2 z2 st2 hQ2
  subst l2 y2 z2
  obtain ⟨rfl, N2q, e2⟩ := hQ2
  have N2 := Fr.app N0 N2q
  obtain ⟨_, _, ⟨T3, L3, k3, n3⟩, -, X3, ⟨Lc3, hQ3, l3, y3, z3⟩, st3⟩ := X2.specialBack hx (y := (⟨"java/util/Optional", "<init>", "(Ljava/lang/Object;)V"⟩ : MethodName)) rfl hown (mvT hZ (ww hw 97 rfl)) (mvT hZ (ww hw 98 rfl)) (mvT hZ (ww hw 100 rfl)) (by decide) (backOf (W := 1) (rmOInit l Z a0 hw [] b1 u  h1 n0 Z1 A1 F_value_b1 g_b1) hZ (ww hw 100 rfl) (ww hw 56 rfl) (by decide) (by decide)) (g := (mkF m 8 #[.val (.ref u)] [(.ref u), (.ref b1), (.ref b1)])) rfl (by rw [hml]; rfl) (Steps.refl _) (a := b1) (argsL := [(.ref u)]) (rest := [(.ref b1)]) (lenOf pd_3 rfl) rfl (by show 2 * 0 + _ ≤ _; exact Nat.le_of_eq rfl) (hb hby d14_8) (fun _ _ => ⟨rfl, e2, (by decide : 1 + 0 ≤ _), (by decide : 1 + 0 ≤ _)⟩)
  dsimp only [Pt.U, Pt.locs, Pt.cells, Pt.slots] at X3 l3 y3 z3 st3 hQ3
  subst l3 y3 z3
  obtain ⟨rfl, N3q, K3, Fv3⟩ := hQ3
  have N3 := Fr.app N2 N3q
  have E3_b1 := A1.keep K3
  have Z3 := Nat.le_trans Z1 K3.1
  have KP3 := KP1.trans K3 (allS (Or.inr sz_b1) all0)
  have k4 : ∀ tg, Steps p.tables e below (T3.setTop (mkF m 11 #[.val (.ref u)] [(.ref b1)])) tg → Steps p.tables e below (s₁.setTop (entryFrame m #[(.ref u)] 1)) tg := by
    intro tg kt
    refine k0 tg ?_
    show Steps p.tables e below (s₁.setTop (mkF m 0 #[.val (.ref u)] [])) _
    refine st1 _ ?_
    refine XS.dup X1.here hx rfl (hb hby d14_3) rfl rfl ?_
    refine XS.aloadN X1.here hx rfl (hb hby d14_4) rfl rfl ?_
    show Steps p.tables e below (T1.setTop (mkF m 5 #[.val (.ref u)] [(.ref u), (.ref b1), (.ref b1)])) _
    refine st2 _ ?_
    refine st3.trans ?_
    show Steps p.tables e below (T3.setTop (mkF m 11 #[.val (.ref u)] [(.ref b1)])) _
    exact kt
  obtain ⟨fs, hr, hrun, hended, hW, hsame⟩ := X3.leave (v := some (.ref b1)) (fun h => by rw [Bd.returns] at h; cases h)
  refine ⟨_, _, k4 _ ?_, hrun, hended, _, _, rfl, ?_, ⟨_, rfl⟩, hW, hsame.mono (by decide) (by decide)⟩
  · exact own_retA X3 hx Bd.returns rfl (hb hby d14_11) hr
  · show QOpt Z u h0 n0 _ T3.heap _
    exact ⟨N3, KP3, b1, rfl, sz_b1, E3_b1, Fv3⟩
def QVal (Z : State) (kv : ClassId) (v_NONE v_CSV v_DATABASE : Addr) (h0 : Heap) (n0 : Nat) (v : Option Value) (h : Heap) (L : List Loc) : Prop := Fr n0 L ∧ Keep h0 h [] ∧ ∃ b : Addr, v = some (.ref b) ∧ h0.size ≤ b ∧ Arv Z h b kv (.object "com/example/lifetable/lifetable/output/ExportFormat") (3 : Int32) [(.ref v_NONE), (.ref v_CSV), (.ref v_DATABASE)] .null
theorem d12_0 : decode prog_26_method_1_code 0 = .ok (.getstatic 13, 3) := by decide +kernel
theorem d12_3 : decode prog_26_method_1_code 3 = .ok (.invokevirtual 17, 3) := by decide +kernel
theorem d12_6 : decode prog_26_method_1_code 6 = .ok (.checkcast 18, 3) := by decide +kernel
theorem d12_9 : decode prog_26_method_1_code 9 = .ok (.areturn, 1) := by decide +kernel
theorem pn_12 : plainName "com/example/lifetable/lifetable/output/ExportFormat" = true := by first | (simp [plainName, overriddenIn]; done) | decide +kernel
theorem ef_rmValues (m : MethodId)  : entryFrame m #[] 0 = mkF m 0 #[] [] := by first | (simp [entryFrame, mkF, argsToLocals, Value.category]; done) | rfl
set_option maxRecDepth 65536 in
set_option maxHeartbeats 40000000 in
theorem rmValues (l : Launch) (Z : State) (a0 : Array Value) (hw : ∀ d ∈ tables_1, d.before a0 Z = true) (ws : List Jvm.Cond)  (cz : Int32) (v_EMPTY vv : Addr) (kv : ClassId) (v_NONE n_NONE t_NONE : Addr) (k_NONE : ClassId) (v_CSV n_CSV t_CSV : Addr) (k_CSV : ClassId) (v_DATABASE n_DATABASE t_DATABASE : Addr) (k_DATABASE : ClassId) (h0 : Heap) (n0 : Nat) (Z0 : n0 ≤ h0.size) (hWd : World Z h0 cz v_EMPTY vv kv v_NONE n_NONE t_NONE k_NONE v_CSV n_CSV t_CSV k_CSV v_DATABASE n_DATABASE t_DATABASE k_DATABASE) :
    MetFree l (⟨"com/example/lifetable/lifetable/output/ExportFormat", "values", "()[Lcom/example/lifetable/lifetable/output/ExportFormat;"⟩ : MethodName) (head1 (Jvm.Cond.code (⟨"com/example/lifetable/lifetable/output/ExportFormat", "values", "()[Lcom/example/lifetable/lifetable/output/ExportFormat;"⟩ : MethodName) prog_26_method_1_code 0 (some (.array (.object "com/example/lifetable/lifetable/output/ExportFormat"))) :: ws) ({ frames := 1, cells := 1, slots := 3, locals := 14 } : Room)) (fun a_ U_ => a_ = #[] ∧ Z.Warmed39 U_.vm ∧ U_.heap = h0) (fun _ _ _ _ _ => True) (fun _ U_ o_ U'_ => ∃ v_ L_, o_ = .returned v_ ∧ QVal Z kv v_NONE v_CSV v_DATABASE h0 n0 v_ U'_.heap L_ ∧ FrameEnd U_ o_ U'_ L_ ({ frames := 1, cells := 1, slots := 3, locals := 14 } : Room).cells ({ frames := 1, cells := 1, slots := 3, locals := 14 } : Room).slots) := by
  refine MetFree.of_bodySF (plainFor_of_name pn_12) hisR ?_
  intro p e s m args below meth c s₁ Bd hml0 hP hK
  obtain ⟨rfl, hZ, hh⟩ := hP
  have hx := Bd.exec
  have hby := Bd.bytes
  have hml : c.maxLocals = 0 := hml0
  have hown : s.vm.findClass "com/example/lifetable/lifetable/output/ExportFormat" = some m.cls := findClass_of_methodNamed Bd.named
  have hnm := (name_of_methodNamed Bd.named Bd.method).1
  have X0 : Stand p l e ({ frames := 1, cells := 1, slots := 3, locals := 14 } : Room) s m #[] below meth c s₁ [] 0 0 := Stand.of_body Bd
  have e0 : s₁.heap = h0 := by rw [← hh, Bd.state]; rfl
  have N0 := Fr.nil n0
  have k0 : ∀ tg, Steps p.tables e below (s₁.setTop (mkF m 0 #[] [])) tg → Steps p.tables e below (s₁.setTop (entryFrame m #[] 0)) tg := fun tg kq_ => castTop (ef_rmValues m ) kq_
  obtain ⟨T1, X1, e1, st1⟩ := getS2 X0 hx hZ hown (host := "") (Or.inl (ww hw 62 rfl)) Via.refl e0 ((hWd.ext (own_extK (Keep.refl h0 []))).2.2.2.2.1) (g := (mkF m 0 #[] [])) rfl (hb hby d12_0)
  obtain ⟨T2, h2, X2, e2, E2, A2, Q2, st2⟩ := cloneH X1 hx hZ hown (ww hw 64 rfl) (ww hw 65 rfl) (ww hw 69 rfl) (ww hw 67 rfl) (ww hw 68 rfl) (ww hw 70 rfl) e1 (hs := []) ((hWd.ext (own_extK (Keep.refl h0 []))).2.2.2.2.2.2.1).arh ((hWd.ext (own_extK (Keep.refl h0 []))).2.2.2.2.2.1) (g := (mkF m 3 #[] [(.ref vv)])) rfl (by rw [hml]; rfl) rfl (hb hby d12_3) (by decide) (W := 0) (cap := 3) (by show 2 * 0 + _ ≤ _; exact Nat.le_of_eq rfl) (by decide) (by decide) (by decide) (by decide)
  obtain ⟨cl2, g2⟩ : ∃ z, z = h0.size := ⟨_, rfl⟩
  have g_cl2 : n0 ≤ cl2 := Nat.le_trans Z0 (Nat.le_of_eq g2.symm)
  have sz_cl2 : h0.size ≤ cl2 := Nat.le_trans (Keep.refl h0 []).1 (Nat.le_of_eq g2.symm)
  rw [← g2] at A2 Q2 st2
  have Z2 := Nat.le_trans Z0 E2.1
  have KP2 := (Keep.refl h0 []).ext E2
  have V_cl2 : Arv Z h2 cl2 kv (.object "com/example/lifetable/lifetable/output/ExportFormat") (3 : Int32) [(.ref v_NONE), (.ref v_CSV), (.ref v_DATABASE)] .null := A2
  obtain ⟨T3, X3, e3, st3⟩ := castY X2 hx hZ hown (ww hw 75 rfl) e2 (Ins.self Q2) (g := (mkF m 6 #[] [(.ref cl2)])) rfl rfl (hb hby d12_6)
  have k4 : ∀ tg, Steps p.tables e below (T3.setTop (mkF m 9 #[] [(.ref cl2)])) tg → Steps p.tables e below (s₁.setTop (entryFrame m #[] 0)) tg := by
    intro tg kt
    refine k0 tg ?_
    show Steps p.tables e below (s₁.setTop (mkF m 0 #[] [])) _
    refine st1 _ ?_
    refine st2 _ ?_
    refine st3 _ ?_
    show Steps p.tables e below (T3.setTop (mkF m 9 #[] [(.ref cl2)])) _
    exact kt
  obtain ⟨fs, hr, hrun, hended, hW, hsame⟩ := X3.leave (v := some (.ref cl2)) (fun h => by rw [Bd.returns] at h; cases h)
  refine ⟨_, _, k4 _ ?_, hrun, hended, _, _, rfl, ?_, ⟨_, rfl⟩, hW, hsame.mono (by decide) (by decide)⟩
  · exact own_retA X3 hx Bd.returns rfl (hb hby d12_9) hr
  · show QVal Z kv v_NONE v_CSV v_DATABASE h0 n0 _ T3.heap _
    rw [e3]
    exact ⟨N0, KP2, cl2, rfl, sz_cl2, V_cl2⟩
theorem d13_0 : decode jdk_32_method_15_code 0 = .ok (.aload_n 0, 1) := by decide +kernel
theorem d13_1 : decode jdk_32_method_15_code 1 = .ok (.getfield 13, 3) := by decide +kernel
theorem d13_4 : decode jdk_32_method_15_code 4 = .ok (.ifnull 10, 3) := by decide +kernel
theorem d13_14 : decode jdk_32_method_15_code 14 = .ok (.aload_n 1, 1) := by decide +kernel
theorem d13_15 : decode jdk_32_method_15_code 15 = .ok (.areturn, 1) := by decide +kernel
theorem pn_13 : plainName "java/util/Optional" = true := by first | (simp [plainName, overriddenIn]; done) | decide +kernel
theorem ef_rmOr0 (m : MethodId) (o : Addr) : entryFrame m #[(.ref o), .null] 2 = mkF m 0 #[.val (.ref o), .val .null] [] := by first | (simp [entryFrame, mkF, argsToLocals, Value.category]; done) | rfl
set_option maxRecDepth 65536 in
set_option maxHeartbeats 40000000 in
theorem rmOr0 (l : Launch) (Z : State) (a0 : Array Value) (hw : ∀ d ∈ tables_1, d.before a0 Z = true) (ws : List Jvm.Cond) (o : Addr)  (h0 : Heap) (n0 : Nat) (Fv : Fld Z h0 o "java/util/Optional" "value" "Ljava/lang/Object;" .null) :
    MetFree l (⟨"java/util/Optional", "orElse", "(Ljava/lang/Object;)Ljava/lang/Object;"⟩ : MethodName) (head1 (Jvm.Cond.code (⟨"java/util/Optional", "orElse", "(Ljava/lang/Object;)Ljava/lang/Object;"⟩ : MethodName) jdk_32_method_15_code 2 (some (.object "java/lang/Object")) :: ws) ({ frames := 0, cells := 0, slots := 0, locals := 0 } : Room)) (fun a_ U_ => a_ = #[(.ref o), .null] ∧ Z.Warmed39 U_.vm ∧ U_.heap = h0) (fun _ _ _ _ _ => True) (fun _ U_ o_ U'_ => ∃ v_ L_, o_ = .returned v_ ∧ QV .null h0 n0 v_ U'_.heap L_ ∧ FrameEnd U_ o_ U'_ L_ ({ frames := 0, cells := 0, slots := 0, locals := 0 } : Room).cells ({ frames := 0, cells := 0, slots := 0, locals := 0 } : Room).slots) := by
  refine MetFree.of_bodySF (plainFor_of_name pn_13) hisR ?_
  intro p e s m args below meth c s₁ Bd hml0 hP hK
  obtain ⟨rfl, hZ, hh⟩ := hP
  have hx := Bd.exec
  have hby := Bd.bytes
  have hml : c.maxLocals = 2 := hml0
  have hown : s.vm.findClass "java/util/Optional" = some m.cls := findClass_of_methodNamed Bd.named
  have hnm := (name_of_methodNamed Bd.named Bd.method).1
  have X0 : Stand p l e ({ frames := 0, cells := 0, slots := 0, locals := 0 } : Room) s m #[(.ref o), .null] below meth c s₁ [] 0 0 := Stand.of_body Bd
  have e0 : s₁.heap = h0 := by rw [← hh, Bd.state]; rfl
  have N0 := Fr.nil n0
  have k0 : ∀ tg, Steps p.tables e below (s₁.setTop (mkF m 0 #[.val (.ref o), .val .null] [])) tg → Steps p.tables e below (s₁.setTop (entryFrame m #[(.ref o), .null] 2)) tg := fun tg kq_ => castTop (ef_rmOr0 m o) kq_
  obtain ⟨T1, X1, e1, st1⟩ := getF X0 hx hZ hown (host := "") (Or.inl (ww hw 85 rfl)) Via.refl e0 Fv (g := (mkF m 1 #[.val (.ref o), .val .null] [(.ref o)])) rfl rfl (hb hby d13_1)
  have k2 : ∀ tg, Steps p.tables e below (T1.setTop (mkF m 15 #[.val (.ref o), .val .null] [.null])) tg → Steps p.tables e below (s₁.setTop (entryFrame m #[(.ref o), .null] 2)) tg := by
    intro tg kt
    refine k0 tg ?_
    show Steps p.tables e below (s₁.setTop (mkF m 0 #[.val (.ref o), .val .null] [])) _
    refine XS.aloadN X0.here hx rfl (hb hby d13_0) rfl rfl ?_
    refine st1 _ ?_
    refine XS.ifnullYes X1.here hx rfl (pc0 := 4) (pc' := 14) rfl (hb hby d13_4) rfl (by decide) (by decide) ?_
    show Steps p.tables e below (T1.setTop (mkF m 14 #[.val (.ref o), .val .null] [])) _
    refine XS.aloadN X1.here hx rfl (hb hby d13_14) rfl rfl ?_
    show Steps p.tables e below (T1.setTop (mkF m 15 #[.val (.ref o), .val .null] [.null])) _
    exact kt
  obtain ⟨fs, hr, hrun, hended, hW, hsame⟩ := X1.leave (v := some .null) (fun h => by rw [Bd.returns] at h; cases h)
  refine ⟨_, _, k2 _ ?_, hrun, hended, _, _, rfl, ?_, ⟨_, rfl⟩, hW, hsame.mono (by decide) (by decide)⟩
  · exact own_retA0 X1 hx Bd.returns rfl (hb hby d13_15) hr
  · show QV _ h0 n0 _ T1.heap _
    exact ⟨rfl, N0, e1⟩
theorem d13_7 : decode jdk_32_method_15_code 7 = .ok (.aload_n 0, 1) := by decide +kernel
theorem d13_8 : decode jdk_32_method_15_code 8 = .ok (.getfield 13, 3) := by decide +kernel
theorem d13_11 : decode jdk_32_method_15_code 11 = .ok (.goto 4, 3) := by decide +kernel
theorem ef_rmOr1 (m : MethodId) (o : Addr) : entryFrame m #[(.ref o), .null] 2 = mkF m 0 #[.val (.ref o), .val .null] [] := by first | (simp [entryFrame, mkF, argsToLocals, Value.category]; done) | rfl
set_option maxRecDepth 65536 in
set_option maxHeartbeats 40000000 in
theorem rmOr1 (l : Launch) (Z : State) (a0 : Array Value) (hw : ∀ d ∈ tables_1, d.before a0 Z = true) (ws : List Jvm.Cond) (o : Addr) (u : Addr) (h0 : Heap) (n0 : Nat) (Fv : Fld Z h0 o "java/util/Optional" "value" "Ljava/lang/Object;" (.ref u)) :
    MetFree l (⟨"java/util/Optional", "orElse", "(Ljava/lang/Object;)Ljava/lang/Object;"⟩ : MethodName) (head1 (Jvm.Cond.code (⟨"java/util/Optional", "orElse", "(Ljava/lang/Object;)Ljava/lang/Object;"⟩ : MethodName) jdk_32_method_15_code 2 (some (.object "java/lang/Object")) :: ws) ({ frames := 0, cells := 0, slots := 0, locals := 0 } : Room)) (fun a_ U_ => a_ = #[(.ref o), .null] ∧ Z.Warmed39 U_.vm ∧ U_.heap = h0) (fun _ _ _ _ _ => True) (fun _ U_ o_ U'_ => ∃ v_ L_, o_ = .returned v_ ∧ QV (.ref u) h0 n0 v_ U'_.heap L_ ∧ FrameEnd U_ o_ U'_ L_ ({ frames := 0, cells := 0, slots := 0, locals := 0 } : Room).cells ({ frames := 0, cells := 0, slots := 0, locals := 0 } : Room).slots) := by
  refine MetFree.of_bodySF (plainFor_of_name pn_13) hisR ?_
  intro p e s m args below meth c s₁ Bd hml0 hP hK
  obtain ⟨rfl, hZ, hh⟩ := hP
  have hx := Bd.exec
  have hby := Bd.bytes
  have hml : c.maxLocals = 2 := hml0
  have hown : s.vm.findClass "java/util/Optional" = some m.cls := findClass_of_methodNamed Bd.named
  have hnm := (name_of_methodNamed Bd.named Bd.method).1
  have X0 : Stand p l e ({ frames := 0, cells := 0, slots := 0, locals := 0 } : Room) s m #[(.ref o), .null] below meth c s₁ [] 0 0 := Stand.of_body Bd
  have e0 : s₁.heap = h0 := by rw [← hh, Bd.state]; rfl
  have N0 := Fr.nil n0
  have k0 : ∀ tg, Steps p.tables e below (s₁.setTop (mkF m 0 #[.val (.ref o), .val .null] [])) tg → Steps p.tables e below (s₁.setTop (entryFrame m #[(.ref o), .null] 2)) tg := fun tg kq_ => castTop (ef_rmOr1 m o) kq_
  obtain ⟨T1, X1, e1, st1⟩ := getF X0 hx hZ hown (host := "") (Or.inl (ww hw 85 rfl)) Via.refl e0 Fv (g := (mkF m 1 #[.val (.ref o), .val .null] [(.ref o)])) rfl rfl (hb hby d13_1)
  obtain ⟨T2, X2, e2, st2⟩ := getF X1 hx hZ hown (host := "") (Or.inl (ww hw 85 rfl)) Via.refl e1 Fv (g := (mkF m 8 #[.val (.ref o), .val .null] [(.ref o)])) rfl rfl (hb hby d13_8)
  have k3 : ∀ tg, Steps p.tables e below (T2.setTop (mkF m 15 #[.val (.ref o), .val .null] [(.ref u)])) tg → Steps p.tables e below (s₁.setTop (entryFrame m #[(.ref o), .null] 2)) tg := by
    intro tg kt
    refine k0 tg ?_
    show Steps p.tables e below (s₁.setTop (mkF m 0 #[.val (.ref o), .val .null] [])) _
    refine XS.aloadN X0.here hx rfl (hb hby d13_0) rfl rfl ?_
    refine st1 _ ?_
    refine XS.ifnullNo X1.here hx rfl (hb hby d13_4) rfl ?_
    show Steps p.tables e below (T1.setTop (mkF m 7 #[.val (.ref o), .val .null] [])) _
    refine XS.aloadN X1.here hx rfl (hb hby d13_7) rfl rfl ?_
    refine st2 _ ?_
    refine XS.goto X2.here hx rfl (pc0 := 11) (pc' := 15) rfl (hb hby d13_11) (by decide) (by decide) ?_
    show Steps p.tables e below (T2.setTop (mkF m 15 #[.val (.ref o), .val .null] [(.ref u)])) _
    exact kt
  obtain ⟨fs, hr, hrun, hended, hW, hsame⟩ := X2.leave (v := some (.ref u)) (fun h => by rw [Bd.returns] at h; cases h)
  refine ⟨_, _, k3 _ ?_, hrun, hended, _, _, rfl, ?_, ⟨_, rfl⟩, hW, hsame.mono (by decide) (by decide)⟩
  · exact own_retA X2 hx Bd.returns rfl (hb hby d13_15) hr
  · show QV _ h0 n0 _ T2.heap _
    exact ⟨rfl, N0, e2⟩
def QNm (Z : State) (val : Value) (h0 : Heap) (n0 : Nat) (v : Option Value) (h : Heap) (L : List Loc) : Prop := Fr n0 L ∧ Keep h0 h [] ∧ ∃ o : Addr, v = some (.ref o) ∧ Exa Z h o "java/util/Optional" ∧ Fld Z h o "java/util/Optional" "value" "Ljava/lang/Object;" val
theorem d10_0 : decode prog_26_method_4_code 0 = .ok (.invokestatic 36, 3) := by decide +kernel
theorem d10_3 : decode prog_26_method_4_code 3 = .ok (.astore_n 1, 1) := by decide +kernel
theorem d10_4 : decode prog_26_method_4_code 4 = .ok (.invokestatic 42, 3) := by decide +kernel
theorem d10_7 : decode prog_26_method_4_code 7 = .ok (.astore_n 2, 1) := by decide +kernel
theorem d10_8 : decode prog_26_method_4_code 8 = .ok (.aload_n 2, 1) := by decide +kernel
theorem d10_9 : decode prog_26_method_4_code 9 = .ok (.arraylength, 1) := by decide +kernel
theorem d10_10 : decode prog_26_method_4_code 10 = .ok (.istore_n 3, 1) := by decide +kernel
theorem d10_11 : decode prog_26_method_4_code 11 = .ok (.iconst 0, 1) := by decide +kernel
theorem d10_12 : decode prog_26_method_4_code 12 = .ok (.istore 4, 2) := by decide +kernel
theorem d10_14 : decode prog_26_method_4_code 14 = .ok (.iload 4, 2) := by decide +kernel
theorem d10_16 : decode prog_26_method_4_code 16 = .ok (.iload_n 3, 1) := by decide +kernel
theorem d10_17 : decode prog_26_method_4_code 17 = .ok (.if_icmp .ge 33, 3) := by decide +kernel
theorem d10_20 : decode prog_26_method_4_code 20 = .ok (.aload_n 2, 1) := by decide +kernel
theorem d10_21 : decode prog_26_method_4_code 21 = .ok (.iload 4, 2) := by decide +kernel
theorem d10_23 : decode prog_26_method_4_code 23 = .ok (.aaload, 1) := by decide +kernel
theorem d10_24 : decode prog_26_method_4_code 24 = .ok (.astore 5, 2) := by decide +kernel
theorem d10_26 : decode prog_26_method_4_code 26 = .ok (.aload 5, 2) := by decide +kernel
theorem d10_28 : decode prog_26_method_4_code 28 = .ok (.getfield 32, 3) := by decide +kernel
theorem d10_31 : decode prog_26_method_4_code 31 = .ok (.aload_n 0, 1) := by decide +kernel
theorem d10_32 : decode prog_26_method_4_code 32 = .ok (.invokevirtual 46, 3) := by decide +kernel
theorem d10_35 : decode prog_26_method_4_code 35 = .ok (.ifCond .eq 9, 3) := by decide +kernel
theorem d10_44 : decode prog_26_method_4_code 44 = .ok (.iinc 4 1, 3) := by decide +kernel
theorem d10_47 : decode prog_26_method_4_code 47 = .ok (.goto (-33), 3) := by decide +kernel
theorem d10_50 : decode prog_26_method_4_code 50 = .ok (.aload_n 1, 1) := by decide +kernel
theorem d10_51 : decode prog_26_method_4_code 51 = .ok (.areturn, 1) := by decide +kernel
theorem pn_10 : plainName "com/example/lifetable/lifetable/output/ExportFormat" = true := by first | (simp [plainName, overriddenIn]; done) | decide +kernel
theorem pd_4 : parseMethodDescriptor "()Ljava/util/Optional;" = some ⟨[], some (.object "java/util/Optional")⟩ := by decide +kernel
theorem pd_5 : parseMethodDescriptor "()[Lcom/example/lifetable/lifetable/output/ExportFormat;" = some ⟨[], some (.array (.object "com/example/lifetable/lifetable/output/ExportFormat"))⟩ := by decide +kernel
theorem pd_6 : parseMethodDescriptor "(Ljava/lang/Object;)Z" = some ⟨[(.object "java/lang/Object")], some .boolean⟩ := by decide +kernel
theorem ef_rmNamed0 (m : MethodId) (u : Addr) : entryFrame m #[(.ref u)] 6 = mkF m 0 #[.val (.ref u), .unset, .unset, .unset, .unset, .unset] [] := by first | (simp [entryFrame, mkF, argsToLocals, Value.category]; done) | rfl
set_option maxRecDepth 65536 in
set_option maxHeartbeats 40000000 in
theorem rmNamed0 (l : Launch) (Z : State) (a0 : Array Value) (hw : ∀ d ∈ tables_1, d.before a0 Z = true) (ws : List Jvm.Cond) (u : Addr) (cs : List Int32) (tx : Addr) (kx : ClassId) (N2 : Int32) (vs : List Value) (cz : Int32) (v_EMPTY vv : Addr) (kv : ClassId) (v_NONE n_NONE t_NONE : Addr) (k_NONE : ClassId) (v_CSV n_CSV t_CSV : Addr) (k_CSV : ClassId) (v_DATABASE n_DATABASE t_DATABASE : Addr) (k_DATABASE : ClassId) (h0 : Heap) (n0 : Nat) (Z0 : n0 ≤ h0.size) (hWd : World Z h0 cz v_EMPTY vv kv v_NONE n_NONE t_NONE k_NONE v_CSV n_CSV t_CSV k_CSV v_DATABASE n_DATABASE t_DATABASE k_DATABASE) (hcz : ¬ cz = 0) (E_u : Exa Z h0 u "java/lang/String") (V_u : Fld Z h0 u "java/lang/String" "value" "[B" (.ref tx)) (C_u : Fld Z h0 u "java/lang/String" "coder" "B" (.int (0 : Int32))) (K_u : Arv Z h0 tx kx .byte N2 vs (.int (0 : Int32))) (hcd : StrChars.Road.CodA cs 0 N2 vs) (hbd : ∀ c ∈ cs, ¬ c < 0 ∧ ¬ (65535 : Int32) < c) (hl2 : cs.length ≤ 4000) (q_NONE : ¬ tNone = cs) (q_CSV : ¬ tCsv = cs) (q_DATABASE : ¬ tData = cs) :
    MetFree l (⟨"com/example/lifetable/lifetable/output/ExportFormat", "named", "(Ljava/lang/String;)Ljava/util/Optional;"⟩ : MethodName) (head1 (Jvm.Cond.code (⟨"com/example/lifetable/lifetable/output/ExportFormat", "named", "(Ljava/lang/String;)Ljava/util/Optional;"⟩ : MethodName) prog_26_method_4_code 6 (some (.object "java/util/Optional")) :: ws) ({ frames := 2, cells := 1, slots := 3, locals := 28 } : Room)) (fun a_ U_ => a_ = #[(.ref u)] ∧ Z.Warmed39 U_.vm ∧ U_.heap = h0) (fun _ _ _ _ _ => True) (fun _ U_ o_ U'_ => ∃ v_ L_, o_ = .returned v_ ∧ QNm Z .null h0 n0 v_ U'_.heap L_ ∧ FrameEnd U_ o_ U'_ L_ ({ frames := 2, cells := 1, slots := 3, locals := 28 } : Room).cells ({ frames := 2, cells := 1, slots := 3, locals := 28 } : Room).slots) := by
  refine MetFree.of_bodySF (plainFor_of_name pn_10) hisR ?_
  intro p e s m args below meth c s₁ Bd hml0 hP hK
  obtain ⟨rfl, hZ, hh⟩ := hP
  have hx := Bd.exec
  have hby := Bd.bytes
  have hml : c.maxLocals = 6 := hml0
  have hown : s.vm.findClass "com/example/lifetable/lifetable/output/ExportFormat" = some m.cls := findClass_of_methodNamed Bd.named
  have hnm := (name_of_methodNamed Bd.named Bd.method).1
  have X0 : Stand p l e ({ frames := 2, cells := 1, slots := 3, locals := 28 } : Room) s m #[(.ref u)] below meth c s₁ [] 0 0 := Stand.of_body Bd
  have e0 : s₁.heap = h0 := by rw [← hh, Bd.state]; rfl
  have N0 := Fr.nil n0
  have k0 : ∀ tg, Steps p.tables e below (s₁.setTop (mkF m 0 #[.val (.ref u), .unset, .unset, .unset, .unset, .unset] [])) tg → Steps p.tables e below (s₁.setTop (entryFrame m #[(.ref u)] 6)) tg := fun tg kq_ => castTop (ef_rmNamed0 m u) kq_
  have hweq : ∀ d ∈ StrChars.Road.wordsEq, d.before a0 Z = true := fun d hd => hw d ((by decide +kernel : ∀ d ∈ StrChars.Road.wordsEq, d ∈ tables_1) d hd)
  obtain ⟨_, _, ⟨T1, L1, k1, n1⟩, -, X1, ⟨Lc1, hQ1, l1, y1, z1⟩, st1⟩ := Jvm.LawKit.callS X0 hx (y := (⟨"java/util/Optional", "empty", "()Ljava/util/Optional;"⟩ : MethodName)) hown (mvT hZ (ww hw 54 rfl)) (mvT hZ (ww hw 55 rfl)) (mvT hZ (ww hw 56 rfl)) (mvT hZ (ww hw 57 rfl)) (by decide) (backOf (W := 0) (rmEmpty l Z a0 hw []  cz v_EMPTY vv kv v_NONE n_NONE t_NONE k_NONE v_CSV n_CSV t_CSV k_CSV v_DATABASE n_DATABASE t_DATABASE k_DATABASE h0 n0 (hWd.ext (own_extK (Keep.refl h0 [])))) hZ (ww hw 57 rfl) (ww hw 56 rfl) (by decide) (by decide)) (g := (mkF m 0 #[.val (.ref u), .unset, .unset, .unset, .unset, .unset] [])) rfl (by rw [hml]; rfl) (argsL := []) (rest := []) (lenOf pd_4 rfl) rfl (by show 2 * 0 + _ ≤ _; exact Nat.le_of_eq rfl) (hb hby d10_0) (fun _ _ => ⟨rfl, e0, (by decide : 0 + 0 ≤ _), (by decide : 0 + 0 ≤ _)⟩)
  dsimp only [Pt.U, Pt.locs, Pt.cells, Pt.slots] at X1 l1 y1 z1 st1 hQ1
  subst l1 y1 z1
  obtain ⟨rfl, N1q, e1⟩ := hQ1
  have N1 := Fr.app N0 N1q
  obtain ⟨_, _, ⟨T2, L2, k2, n2⟩, -, X2, ⟨Lc2, hQ2, l2, y2, z2⟩, st2⟩ := Jvm.LawKit.callS X1 hx (y := (⟨"com/example/lifetable/lifetable/output/ExportFormat", "values", "()[Lcom/example/lifetable/lifetable/output/ExportFormat;"⟩ : MethodName)) hown (mvT hZ (ww hw 59 rfl)) (mvT hZ (ww hw 60 rfl)) (mvT hZ (ww hw 52 rfl)) (mvT hZ (ww hw 61 rfl)) (by decide) (backOf (W := 0) (rmValues l Z a0 hw []  cz v_EMPTY vv kv v_NONE n_NONE t_NONE k_NONE v_CSV n_CSV t_CSV k_CSV v_DATABASE n_DATABASE t_DATABASE k_DATABASE h0 n0 Z0 (hWd.ext (own_extK (Keep.refl h0 [])))) hZ (ww hw 61 rfl) (ww hw 52 rfl) (by decide) (by decide)) (g := (mkF m 4 #[.val (.ref u), .val (.ref v_EMPTY), .unset, .unset, .unset, .unset] [])) rfl (by rw [hml]; rfl) (argsL := []) (rest := []) (lenOf pd_5 rfl) rfl (by show 2 * 0 + _ ≤ _; exact Nat.le_of_eq rfl) (hb hby d10_4) (fun _ _ => ⟨rfl, e1, (by decide : 0 + 1 ≤ _), (by decide : 0 + 3 ≤ _)⟩)
  dsimp only [Pt.U, Pt.locs, Pt.cells, Pt.slots] at X2 l2 y2 z2 st2 hQ2
  subst l2 y2 z2
  obtain ⟨N2q, K2, va2, rfl, le2, V2b⟩ := hQ2
  have N2 := Fr.app N1 N2q
  have ne_u_va2 : u ≠ va2 := Nat.ne_of_lt (Nat.lt_of_lt_of_le E_u.lt le2)
  have ne_tx_va2 : tx ≠ va2 := Nat.ne_of_lt (Nat.lt_of_lt_of_le K_u.lt le2)
  have g_va2 : n0 ≤ va2 := Nat.le_trans Z0 le2
  have sz_va2 : h0.size ≤ va2 := Nat.le_trans (Keep.refl h0 []).1 le2
  have E2_u := E_u.keep K2
  have F2_u_value := V_u.keep K2 nin0
  have F2_u_coder := C_u.keep K2 nin0
  have V2_tx := K_u.keep K2 nin0
  have Z2 := Nat.le_trans Z0 K2.1
  have KP2 := (Keep.refl h0 []).trans K2 all0
  obtain ⟨cl9_3, Ar9_3, q9_3, S9_3, N9_3_, H9_3, G9_3⟩ := id V2b
  have hd4 : (0 : Int32) < (3 : Int32) := by decide
  obtain ⟨cl23_5, Ar23_5, q23_5, S23_5, N23_5_, H23_5, G23_5⟩ := id V2b
  have hin23_5 : ¬ ((0 : Int32) < 0 ∨ cl23_5.slots.size ≤ ((0 : Int32)).toNatClampNeg) := inb_of S23_5 ⟨by decide, by decide⟩
  have hat23_5 : cl23_5.slots[((0 : Int32)).toNatClampNeg]? = some (.ref v_NONE) := H23_5.at hin23_5 rfl
  obtain ⟨T6, X6, e6, st6⟩ := getF X2 hx hZ hown (host := "") (Or.inl (ww hw 77 rfl)) Via.refl rfl ((hWd.ext (own_extK KP2)).2.2.2.2.2.2.2.2.2.1) (g := (mkF m 28 #[.val (.ref u), .val (.ref v_EMPTY), .val (.ref va2), .val (.int (3 : Int32)), .val (.int (0 : Int32)), .val (.ref v_NONE)] [(.ref v_NONE)])) rfl rfl (hb hby d10_28)
  obtain ⟨cq7, kq7, q7a, q7b, q7c⟩ := isOf hZ e6 ((hWd.ext (own_extK KP2)).2.2.2.2.2.2.2.2.2.2.1)
  obtain ⟨_, _, ⟨T7, L7, k7, n7⟩, -, X7, ⟨Lc7, hQ7, l7, y7, z7⟩, st7⟩ := X6.virtualBack hx (y := (⟨"java/lang/String", "equals", "(Ljava/lang/Object;)Z"⟩ : MethodName)) (z := (⟨"java/lang/String", "equals", "(Ljava/lang/Object;)Z"⟩ : MethodName)) hown (mvT hZ (ww hw 79 rfl)) (mvT hZ (ww hw 39 rfl)) (notFace_of_selects (args := #[]) (mvT hZ (ww hw 41 rfl))) (mvT hZ (ww hw 41 rfl)) (mvT hZ (ww hw 40 rfl)) (by decide) (StrChars.Road.eqW (W := 0) hZ hweq (kI := 4) (ww hw 7 rfl) ((hWd.ext (own_extK KP2)).2.2.2.2.2.2.2.2.2.2.1) ((hWd.ext (own_extK KP2)).2.2.2.2.2.2.2.2.2.2.2.2.1) ((hWd.ext (own_extK KP2)).2.2.2.2.2.2.2.2.2.2.2.1) ((hWd.ext (own_extK KP2)).2.2.2.2.2.2.2.2.2.2.2.2.2.1) own_cNone own_bNone (Nat.le_of_ble_eq_true rfl) E2_u F2_u_value F2_u_coder V2_tx hcd hbd hl2 ((hWd.ext (own_extK KP2)).1) hcz (by decide) (by decide)) q7a q7c (g := (mkF m 32 #[.val (.ref u), .val (.ref v_EMPTY), .val (.ref va2), .val (.int (3 : Int32)), .val (.int (0 : Int32)), .val (.ref v_NONE)] [(.ref u), (.ref n_NONE)])) rfl (by rw [hml]; rfl) (Steps.refl _) (argsL := [(.ref u)]) (rest := []) (lenOf pd_6 rfl) rfl (by show 2 * 0 + _ ≤ _; exact Nat.le_of_eq rfl) (hb hby d10_32) (fun _ _ => ⟨rfl, e6, (by decide : 1 + 0 ≤ _), (by decide : 3 + 0 ≤ _)⟩)
  dsimp only [Pt.U, Pt.locs, Pt.cells, Pt.slots] at X7 l7 y7 z7 st7 hQ7
  subst l7 y7 z7
  obtain ⟨hv7, rfl, e7⟩ := hQ7
  obtain rfl := own_eq0 hv7 q_NONE
  have N7 := Fr.app N2 (Fr.nil n0)
  have hd8 : (0 : Int32) = (0 : Int32) := rfl
  have hd9 : (1 : Int32) < (3 : Int32) := by decide
  obtain ⟨cl23_10, Ar23_10, q23_10, S23_10, N23_10_, H23_10, G23_10⟩ := id V2b
  have hin23_10 : ¬ ((1 : Int32) < 0 ∨ cl23_10.slots.size ≤ ((1 : Int32)).toNatClampNeg) := inb_of S23_10 ⟨by decide, by decide⟩
  have hat23_10 : cl23_10.slots[((1 : Int32)).toNatClampNeg]? = some (.ref v_CSV) := H23_10.at hin23_10 rfl
  obtain ⟨T11, X11, e11, st11⟩ := getF X7 hx hZ hown (host := "") (Or.inl (ww hw 77 rfl)) Via.refl e7 ((hWd.ext (own_extK KP2)).2.2.2.2.2.2.2.2.2.2.2.2.2.2.2.2.1) (g := (mkF m 28 #[.val (.ref u), .val (.ref v_EMPTY), .val (.ref va2), .val (.int (3 : Int32)), .val (.int (1 : Int32)), .val (.ref v_CSV)] [(.ref v_CSV)])) rfl rfl (hb hby d10_28)
  obtain ⟨cq12, kq12, q12a, q12b, q12c⟩ := isOf hZ e11 ((hWd.ext (own_extK KP2)).2.2.2.2.2.2.2.2.2.2.2.2.2.2.2.2.2.1)
  obtain ⟨_, _, ⟨T12, L12, k12, n12⟩, -, X12, ⟨Lc12, hQ12, l12, y12, z12⟩, st12⟩ := X11.virtualBack hx (y := (⟨"java/lang/String", "equals", "(Ljava/lang/Object;)Z"⟩ : MethodName)) (z := (⟨"java/lang/String", "equals", "(Ljava/lang/Object;)Z"⟩ : MethodName)) hown (mvT hZ (ww hw 79 rfl)) (mvT hZ (ww hw 39 rfl)) (notFace_of_selects (args := #[]) (mvT hZ (ww hw 41 rfl))) (mvT hZ (ww hw 41 rfl)) (mvT hZ (ww hw 40 rfl)) (by decide) (StrChars.Road.eqW (W := 0) hZ hweq (kI := 4) (ww hw 7 rfl) ((hWd.ext (own_extK KP2)).2.2.2.2.2.2.2.2.2.2.2.2.2.2.2.2.2.1) ((hWd.ext (own_extK KP2)).2.2.2.2.2.2.2.2.2.2.2.2.2.2.2.2.2.2.2.1) ((hWd.ext (own_extK KP2)).2.2.2.2.2.2.2.2.2.2.2.2.2.2.2.2.2.2.1) ((hWd.ext (own_extK KP2)).2.2.2.2.2.2.2.2.2.2.2.2.2.2.2.2.2.2.2.2.1) own_cCsv own_bCsv (Nat.le_of_ble_eq_true rfl) E2_u F2_u_value F2_u_coder V2_tx hcd hbd hl2 ((hWd.ext (own_extK KP2)).1) hcz (by decide) (by decide)) q12a q12c (g := (mkF m 32 #[.val (.ref u), .val (.ref v_EMPTY), .val (.ref va2), .val (.int (3 : Int32)), .val (.int (1 : Int32)), .val (.ref v_CSV)] [(.ref u), (.ref n_CSV)])) rfl (by rw [hml]; rfl) (Steps.refl _) (argsL := [(.ref u)]) (rest := []) (lenOf pd_6 rfl) rfl (by show 2 * 0 + _ ≤ _; exact Nat.le_of_eq rfl) (hb hby d10_32) (fun _ _ => ⟨rfl, e11, (by decide : 1 + 0 ≤ _), (by decide : 3 + 0 ≤ _)⟩)
  dsimp only [Pt.U, Pt.locs, Pt.cells, Pt.slots] at X12 l12 y12 z12 st12 hQ12
  subst l12 y12 z12
  obtain ⟨hv12, rfl, e12⟩ := hQ12
  obtain rfl := own_eq0 hv12 q_CSV
  have N12 := Fr.app N7 (Fr.nil n0)
  have hd13 : (0 : Int32) = (0 : Int32) := rfl
  have hd14 : (2 : Int32) < (3 : Int32) := by decide
  obtain ⟨cl23_15, Ar23_15, q23_15, S23_15, N23_15_, H23_15, G23_15⟩ := id V2b
  have hin23_15 : ¬ ((2 : Int32) < 0 ∨ cl23_15.slots.size ≤ ((2 : Int32)).toNatClampNeg) := inb_of S23_15 ⟨by decide, by decide⟩
  have hat23_15 : cl23_15.slots[((2 : Int32)).toNatClampNeg]? = some (.ref v_DATABASE) := H23_15.at hin23_15 rfl
  obtain ⟨T16, X16, e16, st16⟩ := getF X12 hx hZ hown (host := "") (Or.inl (ww hw 77 rfl)) Via.refl e12 ((hWd.ext (own_extK KP2)).2.2.2.2.2.2.2.2.2.2.2.2.2.2.2.2.2.2.2.2.2.2.2.1) (g := (mkF m 28 #[.val (.ref u), .val (.ref v_EMPTY), .val (.ref va2), .val (.int (3 : Int32)), .val (.int (2 : Int32)), .val (.ref v_DATABASE)] [(.ref v_DATABASE)])) rfl rfl (hb hby d10_28)
  obtain ⟨cq17, kq17, q17a, q17b, q17c⟩ := isOf hZ e16 ((hWd.ext (own_extK KP2)).2.2.2.2.2.2.2.2.2.2.2.2.2.2.2.2.2.2.2.2.2.2.2.2.1)
  obtain ⟨_, _, ⟨T17, L17, k17, n17⟩, -, X17, ⟨Lc17, hQ17, l17, y17, z17⟩, st17⟩ := X16.virtualBack hx (y := (⟨"java/lang/String", "equals", "(Ljava/lang/Object;)Z"⟩ : MethodName)) (z := (⟨"java/lang/String", "equals", "(Ljava/lang/Object;)Z"⟩ : MethodName)) hown (mvT hZ (ww hw 79 rfl)) (mvT hZ (ww hw 39 rfl)) (notFace_of_selects (args := #[]) (mvT hZ (ww hw 41 rfl))) (mvT hZ (ww hw 41 rfl)) (mvT hZ (ww hw 40 rfl)) (by decide) (StrChars.Road.eqW (W := 0) hZ hweq (kI := 4) (ww hw 7 rfl) ((hWd.ext (own_extK KP2)).2.2.2.2.2.2.2.2.2.2.2.2.2.2.2.2.2.2.2.2.2.2.2.2.1) ((hWd.ext (own_extK KP2)).2.2.2.2.2.2.2.2.2.2.2.2.2.2.2.2.2.2.2.2.2.2.2.2.2.2.1) ((hWd.ext (own_extK KP2)).2.2.2.2.2.2.2.2.2.2.2.2.2.2.2.2.2.2.2.2.2.2.2.2.2.1) ((hWd.ext (own_extK KP2)).2.2.2.2.2.2.2.2.2.2.2.2.2.2.2.2.2.2.2.2.2.2.2.2.2.2.2) own_cData own_bData (Nat.le_of_ble_eq_true rfl) E2_u F2_u_value F2_u_coder V2_tx hcd hbd hl2 ((hWd.ext (own_extK KP2)).1) hcz (by decide) (by decide)) q17a q17c (g := (mkF m 32 #[.val (.ref u), .val (.ref v_EMPTY), .val (.ref va2), .val (.int (3 : Int32)), .val (.int (2 : Int32)), .val (.ref v_DATABASE)] [(.ref u), (.ref n_DATABASE)])) rfl (by rw [hml]; rfl) (Steps.refl _) (argsL := [(.ref u)]) (rest := []) (lenOf pd_6 rfl) rfl (by show 2 * 0 + _ ≤ _; exact Nat.le_of_eq rfl) (hb hby d10_32) (fun _ _ => ⟨rfl, e16, (by decide : 1 + 0 ≤ _), (by decide : 3 + 0 ≤ _)⟩)
  dsimp only [Pt.U, Pt.locs, Pt.cells, Pt.slots] at X17 l17 y17 z17 st17 hQ17
  subst l17 y17 z17
  obtain ⟨hv17, rfl, e17⟩ := hQ17
  obtain rfl := own_eq0 hv17 q_DATABASE
  have N17 := Fr.app N12 (Fr.nil n0)
  have hd18 : (0 : Int32) = (0 : Int32) := rfl
  have hd19 : ¬ ((3 : Int32) < (3 : Int32)) := by decide
  have k20 : ∀ tg, Steps p.tables e below (T17.setTop (mkF m 51 #[.val (.ref u), .val (.ref v_EMPTY), .val (.ref va2), .val (.int (3 : Int32)), .val (.int (3 : Int32)), .val (.ref v_DATABASE)] [(.ref v_EMPTY)])) tg → Steps p.tables e below (s₁.setTop (entryFrame m #[(.ref u)] 6)) tg := by
    intro tg kt
    refine k0 tg ?_
    show Steps p.tables e below (s₁.setTop (mkF m 0 #[.val (.ref u), .unset, .unset, .unset, .unset, .unset] [])) _
    refine st1 _ ?_
    refine XS.astoreN X1.here hx rfl (hb hby d10_3) rfl rfl (l' := #[.val (.ref u), .val (.ref v_EMPTY), .unset, .unset, .unset, .unset]) rfl ?_
    refine st2 _ ?_
    show Steps p.tables e below (T2.setTop (mkF m 7 #[.val (.ref u), .val (.ref v_EMPTY), .unset, .unset, .unset, .unset] [(.ref va2)])) _
    refine XS.astoreN X2.here hx rfl (hb hby d10_7) rfl rfl (l' := #[.val (.ref u), .val (.ref v_EMPTY), .val (.ref va2), .unset, .unset, .unset]) rfl ?_
    refine XS.aloadN X2.here hx rfl (hb hby d10_8) rfl rfl ?_
    refine X2.arraylength hx (by exact Ar9_3.1) (State.isArrayOf_alike hZ.alike Ar9_3.2.1) (g := (mkF m 9 #[.val (.ref u), .val (.ref v_EMPTY), .val (.ref va2), .unset, .unset, .unset] [(.ref va2)])) rfl rfl (hb hby d10_9) _ ?_
    rw [len_of S9_3 N9_3_]
    show Steps p.tables e below (T2.setTop (mkF m 10 #[.val (.ref u), .val (.ref v_EMPTY), .val (.ref va2), .unset, .unset, .unset] [(.int (3 : Int32))])) _
    refine XS.istoreN X2.here hx rfl (hb hby d10_10) rfl (l' := #[.val (.ref u), .val (.ref v_EMPTY), .val (.ref va2), .val (.int (3 : Int32)), .unset, .unset]) rfl ?_
    refine XS.iconst X2.here hx rfl (hb hby d10_11) ?_
    refine XS.istore X2.here hx rfl (hb hby d10_12) rfl (l' := #[.val (.ref u), .val (.ref v_EMPTY), .val (.ref va2), .val (.int (3 : Int32)), .val (.int (0 : Int32)), .unset]) rfl ?_
    refine XS.iload X2.here hx rfl (hb hby d10_14) rfl ?_
    refine XS.iloadN X2.here hx rfl (hb hby d10_16) rfl ?_
    show Steps p.tables e below (T2.setTop (mkF m 17 #[.val (.ref u), .val (.ref v_EMPTY), .val (.ref va2), .val (.int (3 : Int32)), .val (.int (0 : Int32)), .unset] [(.int (3 : Int32)), (.int (0 : Int32))])) _
    refine XS.icmpNo X2.here hx rfl (hb hby d10_17) rfl (tlt hd4).2.1 ?_
    refine XS.aloadN X2.here hx rfl (hb hby d10_20) rfl rfl ?_
    refine XS.iload X2.here hx rfl (hb hby d10_21) rfl ?_
    refine X2.aaload hx (j := (0 : Int32)) (v := (.ref v_NONE)) (by exact Ar23_5.1) (State.isArrayOf_alike hZ.alike Ar23_5.2.1) rfl Ar23_5.2.2 hin23_5 hat23_5 (g := (mkF m 23 #[.val (.ref u), .val (.ref v_EMPTY), .val (.ref va2), .val (.int (3 : Int32)), .val (.int (0 : Int32)), .unset] [(.int (0 : Int32)), (.ref va2)])) rfl rfl (hb hby d10_23) _ ?_
    show Steps p.tables e below (T2.setTop (mkF m 24 #[.val (.ref u), .val (.ref v_EMPTY), .val (.ref va2), .val (.int (3 : Int32)), .val (.int (0 : Int32)), .unset] [(.ref v_NONE)])) _
    refine XS.astore X2.here hx rfl (hb hby d10_24) rfl rfl (l' := #[.val (.ref u), .val (.ref v_EMPTY), .val (.ref va2), .val (.int (3 : Int32)), .val (.int (0 : Int32)), .val (.ref v_NONE)]) rfl ?_
    refine XS.aload X2.here hx rfl (hb hby d10_26) rfl rfl ?_
    refine st6 _ ?_
    refine XS.aloadN X6.here hx rfl (hb hby d10_31) rfl rfl ?_
    show Steps p.tables e below (T6.setTop (mkF m 32 #[.val (.ref u), .val (.ref v_EMPTY), .val (.ref va2), .val (.int (3 : Int32)), .val (.int (0 : Int32)), .val (.ref v_NONE)] [(.ref u), (.ref n_NONE)])) _
    refine st7.trans ?_
    refine XS.ifYes X7.here hx rfl (pc0 := 35) (pc' := 44) rfl (hb hby d10_35) rfl ((if0 _ _).trans (teq hd8).1) (by decide) (by decide) ?_
    refine XS.iinc X7.here hx rfl (hb hby d10_44) rfl (l' := #[.val (.ref u), .val (.ref v_EMPTY), .val (.ref va2), .val (.int (3 : Int32)), .val (.int ((0 : Int32) + (1 : Int32))), .val (.ref v_NONE)]) rfl ?_
    show Steps p.tables e below (T7.setTop (mkF m 47 #[.val (.ref u), .val (.ref v_EMPTY), .val (.ref va2), .val (.int (3 : Int32)), .val (.int ((0 : Int32) + (1 : Int32))), .val (.ref v_NONE)] [])) _
    rw [(by decide : ((0 : Int32) + (1 : Int32)) = (1 : Int32))]
    show Steps p.tables e below (T7.setTop (mkF m 47 #[.val (.ref u), .val (.ref v_EMPTY), .val (.ref va2), .val (.int (3 : Int32)), .val (.int (1 : Int32)), .val (.ref v_NONE)] [])) _
    refine XS.goto X7.here hx rfl (pc0 := 47) (pc' := 14) rfl (hb hby d10_47) (by decide) (by decide) ?_
    refine XS.iload X7.here hx rfl (hb hby d10_14) rfl ?_
    refine XS.iloadN X7.here hx rfl (hb hby d10_16) rfl ?_
    refine XS.icmpNo X7.here hx rfl (hb hby d10_17) rfl (tlt hd9).2.1 ?_
    show Steps p.tables e below (T7.setTop (mkF m 20 #[.val (.ref u), .val (.ref v_EMPTY), .val (.ref va2), .val (.int (3 : Int32)), .val (.int (1 : Int32)), .val (.ref v_NONE)] [])) _
    refine XS.aloadN X7.here hx rfl (hb hby d10_20) rfl rfl ?_
    refine XS.iload X7.here hx rfl (hb hby d10_21) rfl ?_
    refine X7.aaload hx (j := (1 : Int32)) (v := (.ref v_CSV)) (by rw [e7]; exact Ar23_10.1) (State.isArrayOf_alike hZ.alike Ar23_10.2.1) rfl Ar23_10.2.2 hin23_10 hat23_10 (g := (mkF m 23 #[.val (.ref u), .val (.ref v_EMPTY), .val (.ref va2), .val (.int (3 : Int32)), .val (.int (1 : Int32)), .val (.ref v_NONE)] [(.int (1 : Int32)), (.ref va2)])) rfl rfl (hb hby d10_23) _ ?_
    refine XS.astore X7.here hx rfl (hb hby d10_24) rfl rfl (l' := #[.val (.ref u), .val (.ref v_EMPTY), .val (.ref va2), .val (.int (3 : Int32)), .val (.int (1 : Int32)), .val (.ref v_CSV)]) rfl ?_
    refine XS.aload X7.here hx rfl (hb hby d10_26) rfl rfl ?_
    show Steps p.tables e below (T7.setTop (mkF m 28 #[.val (.ref u), .val (.ref v_EMPTY), .val (.ref va2), .val (.int (3 : Int32)), .val (.int (1 : Int32)), .val (.ref v_CSV)] [(.ref v_CSV)])) _
    refine st11 _ ?_
    refine XS.aloadN X11.here hx rfl (hb hby d10_31) rfl rfl ?_
    refine st12.trans ?_
    refine XS.ifYes X12.here hx rfl (pc0 := 35) (pc' := 44) rfl (hb hby d10_35) rfl ((if0 _ _).trans (teq hd13).1) (by decide) (by decide) ?_
    show Steps p.tables e below (T12.setTop (mkF m 44 #[.val (.ref u), .val (.ref v_EMPTY), .val (.ref va2), .val (.int (3 : Int32)), .val (.int (1 : Int32)), .val (.ref v_CSV)] [])) _
    refine XS.iinc X12.here hx rfl (hb hby d10_44) rfl (l' := #[.val (.ref u), .val (.ref v_EMPTY), .val (.ref va2), .val (.int (3 : Int32)), .val (.int ((1 : Int32) + (1 : Int32))), .val (.ref v_CSV)]) rfl ?_
    show Steps p.tables e below (T12.setTop (mkF m 47 #[.val (.ref u), .val (.ref v_EMPTY), .val (.ref va2), .val (.int (3 : Int32)), .val (.int ((1 : Int32) + (1 : Int32))), .val (.ref v_CSV)] [])) _
    rw [(by decide : ((1 : Int32) + (1 : Int32)) = (2 : Int32))]
    show Steps p.tables e below (T12.setTop (mkF m 47 #[.val (.ref u), .val (.ref v_EMPTY), .val (.ref va2), .val (.int (3 : Int32)), .val (.int (2 : Int32)), .val (.ref v_CSV)] [])) _
    refine XS.goto X12.here hx rfl (pc0 := 47) (pc' := 14) rfl (hb hby d10_47) (by decide) (by decide) ?_
    refine XS.iload X12.here hx rfl (hb hby d10_14) rfl ?_
    refine XS.iloadN X12.here hx rfl (hb hby d10_16) rfl ?_
    refine XS.icmpNo X12.here hx rfl (hb hby d10_17) rfl (tlt hd14).2.1 ?_
    show Steps p.tables e below (T12.setTop (mkF m 20 #[.val (.ref u), .val (.ref v_EMPTY), .val (.ref va2), .val (.int (3 : Int32)), .val (.int (2 : Int32)), .val (.ref v_CSV)] [])) _
    refine XS.aloadN X12.here hx rfl (hb hby d10_20) rfl rfl ?_
    refine XS.iload X12.here hx rfl (hb hby d10_21) rfl ?_
    refine X12.aaload hx (j := (2 : Int32)) (v := (.ref v_DATABASE)) (by rw [e12]; exact Ar23_15.1) (State.isArrayOf_alike hZ.alike Ar23_15.2.1) rfl Ar23_15.2.2 hin23_15 hat23_15 (g := (mkF m 23 #[.val (.ref u), .val (.ref v_EMPTY), .val (.ref va2), .val (.int (3 : Int32)), .val (.int (2 : Int32)), .val (.ref v_CSV)] [(.int (2 : Int32)), (.ref va2)])) rfl rfl (hb hby d10_23) _ ?_
    refine XS.astore X12.here hx rfl (hb hby d10_24) rfl rfl (l' := #[.val (.ref u), .val (.ref v_EMPTY), .val (.ref va2), .val (.int (3 : Int32)), .val (.int (2 : Int32)), .val (.ref v_DATABASE)]) rfl ?_
    refine XS.aload X12.here hx rfl (hb hby d10_26) rfl rfl ?_
    show Steps p.tables e below (T12.setTop (mkF m 28 #[.val (.ref u), .val (.ref v_EMPTY), .val (.ref va2), .val (.int (3 : Int32)), .val (.int (2 : Int32)), .val (.ref v_DATABASE)] [(.ref v_DATABASE)])) _
    refine st16 _ ?_
    refine XS.aloadN X16.here hx rfl (hb hby d10_31) rfl rfl ?_
    refine st17.trans ?_
    refine XS.ifYes X17.here hx rfl (pc0 := 35) (pc' := 44) rfl (hb hby d10_35) rfl ((if0 _ _).trans (teq hd18).1) (by decide) (by decide) ?_
    show Steps p.tables e below (T17.setTop (mkF m 44 #[.val (.ref u), .val (.ref v_EMPTY), .val (.ref va2), .val (.int (3 : Int32)), .val (.int (2 : Int32)), .val (.ref v_DATABASE)] [])) _
    refine XS.iinc X17.here hx rfl (hb hby d10_44) rfl (l' := #[.val (.ref u), .val (.ref v_EMPTY), .val (.ref va2), .val (.int (3 : Int32)), .val (.int ((2 : Int32) + (1 : Int32))), .val (.ref v_DATABASE)]) rfl ?_
    show Steps p.tables e below (T17.setTop (mkF m 47 #[.val (.ref u), .val (.ref v_EMPTY), .val (.ref va2), .val (.int (3 : Int32)), .val (.int ((2 : Int32) + (1 : Int32))), .val (.ref v_DATABASE)] [])) _
    rw [(by decide : ((2 : Int32) + (1 : Int32)) = (3 : Int32))]
    show Steps p.tables e below (T17.setTop (mkF m 47 #[.val (.ref u), .val (.ref v_EMPTY), .val (.ref va2), .val (.int (3 : Int32)), .val (.int (3 : Int32)), .val (.ref v_DATABASE)] [])) _
    refine XS.goto X17.here hx rfl (pc0 := 47) (pc' := 14) rfl (hb hby d10_47) (by decide) (by decide) ?_
    refine XS.iload X17.here hx rfl (hb hby d10_14) rfl ?_
    refine XS.iloadN X17.here hx rfl (hb hby d10_16) rfl ?_
    refine XS.icmpYes X17.here hx rfl (pc0 := 17) (pc' := 50) rfl (hb hby d10_17) rfl (flt hd19).2.1 (by decide) (by decide) ?_
    show Steps p.tables e below (T17.setTop (mkF m 50 #[.val (.ref u), .val (.ref v_EMPTY), .val (.ref va2), .val (.int (3 : Int32)), .val (.int (3 : Int32)), .val (.ref v_DATABASE)] [])) _
    refine XS.aloadN X17.here hx rfl (hb hby d10_50) rfl rfl ?_
    show Steps p.tables e below (T17.setTop (mkF m 51 #[.val (.ref u), .val (.ref v_EMPTY), .val (.ref va2), .val (.int (3 : Int32)), .val (.int (3 : Int32)), .val (.ref v_DATABASE)] [(.ref v_EMPTY)])) _
    exact kt
  obtain ⟨fs, hr, hrun, hended, hW, hsame⟩ := X17.leave (v := some (.ref v_EMPTY)) (fun h => by rw [Bd.returns] at h; cases h)
  refine ⟨_, _, k20 _ ?_, hrun, hended, _, _, rfl, ?_, ⟨_, rfl⟩, hW, hsame.mono (by decide) (by decide)⟩
  · exact own_retA X17 hx Bd.returns rfl (hb hby d10_51) hr
  · show QNm Z .null h0 n0 _ T17.heap _
    rw [e17]
    exact ⟨N17, KP2, v_EMPTY, rfl, ((hWd.ext (own_extK KP2)).2.2.1), ((hWd.ext (own_extK KP2)).2.2.2.1)⟩
theorem d10_38 : decode prog_26_method_4_code 38 = .ok (.aload 5, 2) := by decide +kernel
theorem d10_40 : decode prog_26_method_4_code 40 = .ok (.invokestatic 52, 3) := by decide +kernel
theorem d10_43 : decode prog_26_method_4_code 43 = .ok (.astore_n 1, 1) := by decide +kernel
theorem pd_7 : parseMethodDescriptor "(Ljava/lang/Object;)Ljava/util/Optional;" = some ⟨[(.object "java/lang/Object")], some (.object "java/util/Optional")⟩ := by decide +kernel
theorem ef_rmNamedNONE (m : MethodId) (u : Addr) : entryFrame m #[(.ref u)] 6 = mkF m 0 #[.val (.ref u), .unset, .unset, .unset, .unset, .unset] [] := by first | (simp [entryFrame, mkF, argsToLocals, Value.category]; done) | rfl
set_option maxRecDepth 65536 in
set_option maxHeartbeats 40000000 in
theorem rmNamedNONE (l : Launch) (Z : State) (a0 : Array Value) (hw : ∀ d ∈ tables_1, d.before a0 Z = true) (ws : List Jvm.Cond) (u : Addr) (cs : List Int32) (tx : Addr) (kx : ClassId) (N2 : Int32) (vs : List Value) (cz : Int32) (v_EMPTY vv : Addr) (kv : ClassId) (v_NONE n_NONE t_NONE : Addr) (k_NONE : ClassId) (v_CSV n_CSV t_CSV : Addr) (k_CSV : ClassId) (v_DATABASE n_DATABASE t_DATABASE : Addr) (k_DATABASE : ClassId) (h0 : Heap) (n0 : Nat) (Z0 : n0 ≤ h0.size) (hWd : World Z h0 cz v_EMPTY vv kv v_NONE n_NONE t_NONE k_NONE v_CSV n_CSV t_CSV k_CSV v_DATABASE n_DATABASE t_DATABASE k_DATABASE) (hcz : ¬ cz = 0) (E_u : Exa Z h0 u "java/lang/String") (V_u : Fld Z h0 u "java/lang/String" "value" "[B" (.ref tx)) (C_u : Fld Z h0 u "java/lang/String" "coder" "B" (.int (0 : Int32))) (K_u : Arv Z h0 tx kx .byte N2 vs (.int (0 : Int32))) (hcd : StrChars.Road.CodA cs 0 N2 vs) (hbd : ∀ c ∈ cs, ¬ c < 0 ∧ ¬ (65535 : Int32) < c) (hl2 : cs.length ≤ 4000) (q_NONE : tNone = cs) (q_CSV : ¬ tCsv = cs) (q_DATABASE : ¬ tData = cs) :
    MetFree l (⟨"com/example/lifetable/lifetable/output/ExportFormat", "named", "(Ljava/lang/String;)Ljava/util/Optional;"⟩ : MethodName) (head1 (Jvm.Cond.code (⟨"com/example/lifetable/lifetable/output/ExportFormat", "named", "(Ljava/lang/String;)Ljava/util/Optional;"⟩ : MethodName) prog_26_method_4_code 6 (some (.object "java/util/Optional")) :: ws) ({ frames := 3, cells := 2, slots := 4, locals := 38 } : Room)) (fun a_ U_ => a_ = #[(.ref u)] ∧ Z.Warmed39 U_.vm ∧ U_.heap = h0) (fun _ _ _ _ _ => True) (fun _ U_ o_ U'_ => ∃ v_ L_, o_ = .returned v_ ∧ QNm Z (.ref v_NONE) h0 n0 v_ U'_.heap L_ ∧ FrameEnd U_ o_ U'_ L_ ({ frames := 3, cells := 2, slots := 4, locals := 38 } : Room).cells ({ frames := 3, cells := 2, slots := 4, locals := 38 } : Room).slots) := by
  refine MetFree.of_bodySF (plainFor_of_name pn_10) hisR ?_
  intro p e s m args below meth c s₁ Bd hml0 hP hK
  obtain ⟨rfl, hZ, hh⟩ := hP
  have hx := Bd.exec
  have hby := Bd.bytes
  have hml : c.maxLocals = 6 := hml0
  have hown : s.vm.findClass "com/example/lifetable/lifetable/output/ExportFormat" = some m.cls := findClass_of_methodNamed Bd.named
  have hnm := (name_of_methodNamed Bd.named Bd.method).1
  have X0 : Stand p l e ({ frames := 3, cells := 2, slots := 4, locals := 38 } : Room) s m #[(.ref u)] below meth c s₁ [] 0 0 := Stand.of_body Bd
  have e0 : s₁.heap = h0 := by rw [← hh, Bd.state]; rfl
  have N0 := Fr.nil n0
  have k0 : ∀ tg, Steps p.tables e below (s₁.setTop (mkF m 0 #[.val (.ref u), .unset, .unset, .unset, .unset, .unset] [])) tg → Steps p.tables e below (s₁.setTop (entryFrame m #[(.ref u)] 6)) tg := fun tg kq_ => castTop (ef_rmNamedNONE m u) kq_
  have hweq : ∀ d ∈ StrChars.Road.wordsEq, d.before a0 Z = true := fun d hd => hw d ((by decide +kernel : ∀ d ∈ StrChars.Road.wordsEq, d ∈ tables_1) d hd)
  obtain ⟨_, _, ⟨T1, L1, k1, n1⟩, -, X1, ⟨Lc1, hQ1, l1, y1, z1⟩, st1⟩ := Jvm.LawKit.callS X0 hx (y := (⟨"java/util/Optional", "empty", "()Ljava/util/Optional;"⟩ : MethodName)) hown (mvT hZ (ww hw 54 rfl)) (mvT hZ (ww hw 55 rfl)) (mvT hZ (ww hw 56 rfl)) (mvT hZ (ww hw 57 rfl)) (by decide) (backOf (W := 0) (rmEmpty l Z a0 hw []  cz v_EMPTY vv kv v_NONE n_NONE t_NONE k_NONE v_CSV n_CSV t_CSV k_CSV v_DATABASE n_DATABASE t_DATABASE k_DATABASE h0 n0 (hWd.ext (own_extK (Keep.refl h0 [])))) hZ (ww hw 57 rfl) (ww hw 56 rfl) (by decide) (by decide)) (g := (mkF m 0 #[.val (.ref u), .unset, .unset, .unset, .unset, .unset] [])) rfl (by rw [hml]; rfl) (argsL := []) (rest := []) (lenOf pd_4 rfl) rfl (by show 2 * 0 + _ ≤ _; exact Nat.le_of_eq rfl) (hb hby d10_0) (fun _ _ => ⟨rfl, e0, (by decide : 0 + 0 ≤ _), (by decide : 0 + 0 ≤ _)⟩)
  dsimp only [Pt.U, Pt.locs, Pt.cells, Pt.slots] at X1 l1 y1 z1 st1 hQ1
  subst l1 y1 z1
  obtain ⟨rfl, N1q, e1⟩ := hQ1
  have N1 := Fr.app N0 N1q
  obtain ⟨_, _, ⟨T2, L2, k2, n2⟩, -, X2, ⟨Lc2, hQ2, l2, y2, z2⟩, st2⟩ := Jvm.LawKit.callS X1 hx (y := (⟨"com/example/lifetable/lifetable/output/ExportFormat", "values", "()[Lcom/example/lifetable/lifetable/output/ExportFormat;"⟩ : MethodName)) hown (mvT hZ (ww hw 59 rfl)) (mvT hZ (ww hw 60 rfl)) (mvT hZ (ww hw 52 rfl)) (mvT hZ (ww hw 61 rfl)) (by decide) (backOf (W := 0) (rmValues l Z a0 hw []  cz v_EMPTY vv kv v_NONE n_NONE t_NONE k_NONE v_CSV n_CSV t_CSV k_CSV v_DATABASE n_DATABASE t_DATABASE k_DATABASE h0 n0 Z0 (hWd.ext (own_extK (Keep.refl h0 [])))) hZ (ww hw 61 rfl) (ww hw 52 rfl) (by decide) (by decide)) (g := (mkF m 4 #[.val (.ref u), .val (.ref v_EMPTY), .unset, .unset, .unset, .unset] [])) rfl (by rw [hml]; rfl) (argsL := []) (rest := []) (lenOf pd_5 rfl) rfl (by show 2 * 0 + _ ≤ _; exact Nat.le_of_eq rfl) (hb hby d10_4) (fun _ _ => ⟨rfl, e1, (by decide : 0 + 1 ≤ _), (by decide : 0 + 3 ≤ _)⟩)
  dsimp only [Pt.U, Pt.locs, Pt.cells, Pt.slots] at X2 l2 y2 z2 st2 hQ2
  subst l2 y2 z2
  obtain ⟨N2q, K2, va2, rfl, le2, V2b⟩ := hQ2
  have N2 := Fr.app N1 N2q
  have ne_u_va2 : u ≠ va2 := Nat.ne_of_lt (Nat.lt_of_lt_of_le E_u.lt le2)
  have ne_tx_va2 : tx ≠ va2 := Nat.ne_of_lt (Nat.lt_of_lt_of_le K_u.lt le2)
  have g_va2 : n0 ≤ va2 := Nat.le_trans Z0 le2
  have sz_va2 : h0.size ≤ va2 := Nat.le_trans (Keep.refl h0 []).1 le2
  have E2_u := E_u.keep K2
  have F2_u_value := V_u.keep K2 nin0
  have F2_u_coder := C_u.keep K2 nin0
  have V2_tx := K_u.keep K2 nin0
  have Z2 := Nat.le_trans Z0 K2.1
  have KP2 := (Keep.refl h0 []).trans K2 all0
  obtain ⟨cl9_3, Ar9_3, q9_3, S9_3, N9_3_, H9_3, G9_3⟩ := id V2b
  have hd4 : (0 : Int32) < (3 : Int32) := by decide
  obtain ⟨cl23_5, Ar23_5, q23_5, S23_5, N23_5_, H23_5, G23_5⟩ := id V2b
  have hin23_5 : ¬ ((0 : Int32) < 0 ∨ cl23_5.slots.size ≤ ((0 : Int32)).toNatClampNeg) := inb_of S23_5 ⟨by decide, by decide⟩
  have hat23_5 : cl23_5.slots[((0 : Int32)).toNatClampNeg]? = some (.ref v_NONE) := H23_5.at hin23_5 rfl
  obtain ⟨T6, X6, e6, st6⟩ := getF X2 hx hZ hown (host := "") (Or.inl (ww hw 77 rfl)) Via.refl rfl ((hWd.ext (own_extK KP2)).2.2.2.2.2.2.2.2.2.1) (g := (mkF m 28 #[.val (.ref u), .val (.ref v_EMPTY), .val (.ref va2), .val (.int (3 : Int32)), .val (.int (0 : Int32)), .val (.ref v_NONE)] [(.ref v_NONE)])) rfl rfl (hb hby d10_28)
  obtain ⟨cq7, kq7, q7a, q7b, q7c⟩ := isOf hZ e6 ((hWd.ext (own_extK KP2)).2.2.2.2.2.2.2.2.2.2.1)
  obtain ⟨_, _, ⟨T7, L7, k7, n7⟩, -, X7, ⟨Lc7, hQ7, l7, y7, z7⟩, st7⟩ := X6.virtualBack hx (y := (⟨"java/lang/String", "equals", "(Ljava/lang/Object;)Z"⟩ : MethodName)) (z := (⟨"java/lang/String", "equals", "(Ljava/lang/Object;)Z"⟩ : MethodName)) hown (mvT hZ (ww hw 79 rfl)) (mvT hZ (ww hw 39 rfl)) (notFace_of_selects (args := #[]) (mvT hZ (ww hw 41 rfl))) (mvT hZ (ww hw 41 rfl)) (mvT hZ (ww hw 40 rfl)) (by decide) (StrChars.Road.eqW (W := 0) hZ hweq (kI := 4) (ww hw 7 rfl) ((hWd.ext (own_extK KP2)).2.2.2.2.2.2.2.2.2.2.1) ((hWd.ext (own_extK KP2)).2.2.2.2.2.2.2.2.2.2.2.2.1) ((hWd.ext (own_extK KP2)).2.2.2.2.2.2.2.2.2.2.2.1) ((hWd.ext (own_extK KP2)).2.2.2.2.2.2.2.2.2.2.2.2.2.1) own_cNone own_bNone (Nat.le_of_ble_eq_true rfl) E2_u F2_u_value F2_u_coder V2_tx hcd hbd hl2 ((hWd.ext (own_extK KP2)).1) hcz (by decide) (by decide)) q7a q7c (g := (mkF m 32 #[.val (.ref u), .val (.ref v_EMPTY), .val (.ref va2), .val (.int (3 : Int32)), .val (.int (0 : Int32)), .val (.ref v_NONE)] [(.ref u), (.ref n_NONE)])) rfl (by rw [hml]; rfl) (Steps.refl _) (argsL := [(.ref u)]) (rest := []) (lenOf pd_6 rfl) rfl (by show 2 * 0 + _ ≤ _; exact Nat.le_of_eq rfl) (hb hby d10_32) (fun _ _ => ⟨rfl, e6, (by decide : 1 + 0 ≤ _), (by decide : 3 + 0 ≤ _)⟩)
  dsimp only [Pt.U, Pt.locs, Pt.cells, Pt.slots] at X7 l7 y7 z7 st7 hQ7
  subst l7 y7 z7
  obtain ⟨hv7, rfl, e7⟩ := hQ7
  obtain rfl := own_eq1 hv7 q_NONE
  have N7 := Fr.app N2 (Fr.nil n0)
  have hd8 : ¬ ((1 : Int32) = (0 : Int32)) := by decide
  obtain ⟨_, _, ⟨T9, L9, k9, n9⟩, -, X9, ⟨Lc9, hQ9, l9, y9, z9⟩, st9⟩ := Jvm.LawKit.callS X7 hx (y := (⟨"java/util/Optional", "of", "(Ljava/lang/Object;)Ljava/util/Optional;"⟩ : MethodName)) hown (mvT hZ (ww hw 88 rfl)) (mvT hZ (ww hw 89 rfl)) (mvT hZ (ww hw 56 rfl)) (mvT hZ (ww hw 90 rfl)) (by decide) (backOf (W := 0) (rmOOf l Z a0 hw [] v_NONE  T2.heap n0 Z2) hZ (ww hw 90 rfl) (ww hw 56 rfl) (by decide) (by decide)) (g := (mkF m 40 #[.val (.ref u), .val (.ref v_EMPTY), .val (.ref va2), .val (.int (3 : Int32)), .val (.int (0 : Int32)), .val (.ref v_NONE)] [(.ref v_NONE)])) rfl (by rw [hml]; rfl) (argsL := [(.ref v_NONE)]) (rest := []) (lenOf pd_7 rfl) rfl (by show 2 * 0 + _ ≤ _; exact Nat.le_of_eq rfl) (hb hby d10_40) (fun _ _ => ⟨rfl, e7, (by decide : 1 + 1 ≤ _), (by decide : 3 + 1 ≤ _)⟩)
  dsimp only [Pt.U, Pt.locs, Pt.cells, Pt.slots] at X9 l9 y9 z9 st9 hQ9
  subst l9 y9 z9
  obtain ⟨N9q, K9, op9, rfl, le9, E9o, Fv9⟩ := hQ9
  have N9 := Fr.app N7 N9q
  have ne_u_op9 : u ≠ op9 := Nat.ne_of_lt (Nat.lt_of_lt_of_le E2_u.lt le9)
  have ne_tx_op9 : tx ≠ op9 := Nat.ne_of_lt (Nat.lt_of_lt_of_le V2_tx.lt le9)
  have ne_va2_op9 : va2 ≠ op9 := Nat.ne_of_lt (Nat.lt_of_lt_of_le V2b.lt le9)
  have g_op9 : n0 ≤ op9 := Nat.le_trans Z2 le9
  have sz_op9 : h0.size ≤ op9 := Nat.le_trans KP2.1 le9
  have E9_u := E2_u.keep K9
  have F9_u_value := F2_u_value.keep K9 nin0
  have F9_u_coder := F2_u_coder.keep K9 nin0
  have V9_tx := V2_tx.keep K9 nin0
  have V9_va2 := V2b.keep K9 nin0
  have Z9 := Nat.le_trans Z2 K9.1
  have KP9 := KP2.trans K9 all0
  have hd10 : (1 : Int32) < (3 : Int32) := by decide
  obtain ⟨cl23_11, Ar23_11, q23_11, S23_11, N23_11_, H23_11, G23_11⟩ := id V9_va2
  have hin23_11 : ¬ ((1 : Int32) < 0 ∨ cl23_11.slots.size ≤ ((1 : Int32)).toNatClampNeg) := inb_of S23_11 ⟨by decide, by decide⟩
  have hat23_11 : cl23_11.slots[((1 : Int32)).toNatClampNeg]? = some (.ref v_CSV) := H23_11.at hin23_11 rfl
  obtain ⟨T12, X12, e12, st12⟩ := getF X9 hx hZ hown (host := "") (Or.inl (ww hw 77 rfl)) Via.refl rfl ((hWd.ext (own_extK KP9)).2.2.2.2.2.2.2.2.2.2.2.2.2.2.2.2.1) (g := (mkF m 28 #[.val (.ref u), .val (.ref op9), .val (.ref va2), .val (.int (3 : Int32)), .val (.int (1 : Int32)), .val (.ref v_CSV)] [(.ref v_CSV)])) rfl rfl (hb hby d10_28)
  obtain ⟨cq13, kq13, q13a, q13b, q13c⟩ := isOf hZ e12 ((hWd.ext (own_extK KP9)).2.2.2.2.2.2.2.2.2.2.2.2.2.2.2.2.2.1)
  obtain ⟨_, _, ⟨T13, L13, k13, n13⟩, -, X13, ⟨Lc13, hQ13, l13, y13, z13⟩, st13⟩ := X12.virtualBack hx (y := (⟨"java/lang/String", "equals", "(Ljava/lang/Object;)Z"⟩ : MethodName)) (z := (⟨"java/lang/String", "equals", "(Ljava/lang/Object;)Z"⟩ : MethodName)) hown (mvT hZ (ww hw 79 rfl)) (mvT hZ (ww hw 39 rfl)) (notFace_of_selects (args := #[]) (mvT hZ (ww hw 41 rfl))) (mvT hZ (ww hw 41 rfl)) (mvT hZ (ww hw 40 rfl)) (by decide) (StrChars.Road.eqW (W := 0) hZ hweq (kI := 4) (ww hw 7 rfl) ((hWd.ext (own_extK KP9)).2.2.2.2.2.2.2.2.2.2.2.2.2.2.2.2.2.1) ((hWd.ext (own_extK KP9)).2.2.2.2.2.2.2.2.2.2.2.2.2.2.2.2.2.2.2.1) ((hWd.ext (own_extK KP9)).2.2.2.2.2.2.2.2.2.2.2.2.2.2.2.2.2.2.1) ((hWd.ext (own_extK KP9)).2.2.2.2.2.2.2.2.2.2.2.2.2.2.2.2.2.2.2.2.1) own_cCsv own_bCsv (Nat.le_of_ble_eq_true rfl) E9_u F9_u_value F9_u_coder V9_tx hcd hbd hl2 ((hWd.ext (own_extK KP9)).1) hcz (by decide) (by decide)) q13a q13c (g := (mkF m 32 #[.val (.ref u), .val (.ref op9), .val (.ref va2), .val (.int (3 : Int32)), .val (.int (1 : Int32)), .val (.ref v_CSV)] [(.ref u), (.ref n_CSV)])) rfl (by rw [hml]; rfl) (Steps.refl _) (argsL := [(.ref u)]) (rest := []) (lenOf pd_6 rfl) rfl (by show 2 * 0 + _ ≤ _; exact Nat.le_of_eq rfl) (hb hby d10_32) (fun _ _ => ⟨rfl, e12, (by decide : 2 + 0 ≤ _), (by decide : 4 + 0 ≤ _)⟩)
  dsimp only [Pt.U, Pt.locs, Pt.cells, Pt.slots] at X13 l13 y13 z13 st13 hQ13
  subst l13 y13 z13
  obtain ⟨hv13, rfl, e13⟩ := hQ13
  obtain rfl := own_eq0 hv13 q_CSV
  have N13 := Fr.app N9 (Fr.nil n0)
  have hd14 : (0 : Int32) = (0 : Int32) := rfl
  have hd15 : (2 : Int32) < (3 : Int32) := by decide
  obtain ⟨cl23_16, Ar23_16, q23_16, S23_16, N23_16_, H23_16, G23_16⟩ := id V9_va2
  have hin23_16 : ¬ ((2 : Int32) < 0 ∨ cl23_16.slots.size ≤ ((2 : Int32)).toNatClampNeg) := inb_of S23_16 ⟨by decide, by decide⟩
  have hat23_16 : cl23_16.slots[((2 : Int32)).toNatClampNeg]? = some (.ref v_DATABASE) := H23_16.at hin23_16 rfl
  obtain ⟨T17, X17, e17, st17⟩ := getF X13 hx hZ hown (host := "") (Or.inl (ww hw 77 rfl)) Via.refl e13 ((hWd.ext (own_extK KP9)).2.2.2.2.2.2.2.2.2.2.2.2.2.2.2.2.2.2.2.2.2.2.2.1) (g := (mkF m 28 #[.val (.ref u), .val (.ref op9), .val (.ref va2), .val (.int (3 : Int32)), .val (.int (2 : Int32)), .val (.ref v_DATABASE)] [(.ref v_DATABASE)])) rfl rfl (hb hby d10_28)
  obtain ⟨cq18, kq18, q18a, q18b, q18c⟩ := isOf hZ e17 ((hWd.ext (own_extK KP9)).2.2.2.2.2.2.2.2.2.2.2.2.2.2.2.2.2.2.2.2.2.2.2.2.1)
  obtain ⟨_, _, ⟨T18, L18, k18, n18⟩, -, X18, ⟨Lc18, hQ18, l18, y18, z18⟩, st18⟩ := X17.virtualBack hx (y := (⟨"java/lang/String", "equals", "(Ljava/lang/Object;)Z"⟩ : MethodName)) (z := (⟨"java/lang/String", "equals", "(Ljava/lang/Object;)Z"⟩ : MethodName)) hown (mvT hZ (ww hw 79 rfl)) (mvT hZ (ww hw 39 rfl)) (notFace_of_selects (args := #[]) (mvT hZ (ww hw 41 rfl))) (mvT hZ (ww hw 41 rfl)) (mvT hZ (ww hw 40 rfl)) (by decide) (StrChars.Road.eqW (W := 0) hZ hweq (kI := 4) (ww hw 7 rfl) ((hWd.ext (own_extK KP9)).2.2.2.2.2.2.2.2.2.2.2.2.2.2.2.2.2.2.2.2.2.2.2.2.1) ((hWd.ext (own_extK KP9)).2.2.2.2.2.2.2.2.2.2.2.2.2.2.2.2.2.2.2.2.2.2.2.2.2.2.1) ((hWd.ext (own_extK KP9)).2.2.2.2.2.2.2.2.2.2.2.2.2.2.2.2.2.2.2.2.2.2.2.2.2.1) ((hWd.ext (own_extK KP9)).2.2.2.2.2.2.2.2.2.2.2.2.2.2.2.2.2.2.2.2.2.2.2.2.2.2.2) own_cData own_bData (Nat.le_of_ble_eq_true rfl) E9_u F9_u_value F9_u_coder V9_tx hcd hbd hl2 ((hWd.ext (own_extK KP9)).1) hcz (by decide) (by decide)) q18a q18c (g := (mkF m 32 #[.val (.ref u), .val (.ref op9), .val (.ref va2), .val (.int (3 : Int32)), .val (.int (2 : Int32)), .val (.ref v_DATABASE)] [(.ref u), (.ref n_DATABASE)])) rfl (by rw [hml]; rfl) (Steps.refl _) (argsL := [(.ref u)]) (rest := []) (lenOf pd_6 rfl) rfl (by show 2 * 0 + _ ≤ _; exact Nat.le_of_eq rfl) (hb hby d10_32) (fun _ _ => ⟨rfl, e17, (by decide : 2 + 0 ≤ _), (by decide : 4 + 0 ≤ _)⟩)
  dsimp only [Pt.U, Pt.locs, Pt.cells, Pt.slots] at X18 l18 y18 z18 st18 hQ18
  subst l18 y18 z18
  obtain ⟨hv18, rfl, e18⟩ := hQ18
  obtain rfl := own_eq0 hv18 q_DATABASE
  have N18 := Fr.app N13 (Fr.nil n0)
  have hd19 : (0 : Int32) = (0 : Int32) := rfl
  have hd20 : ¬ ((3 : Int32) < (3 : Int32)) := by decide
  have k21 : ∀ tg, Steps p.tables e below (T18.setTop (mkF m 51 #[.val (.ref u), .val (.ref op9), .val (.ref va2), .val (.int (3 : Int32)), .val (.int (3 : Int32)), .val (.ref v_DATABASE)] [(.ref op9)])) tg → Steps p.tables e below (s₁.setTop (entryFrame m #[(.ref u)] 6)) tg := by
    intro tg kt
    refine k0 tg ?_
    show Steps p.tables e below (s₁.setTop (mkF m 0 #[.val (.ref u), .unset, .unset, .unset, .unset, .unset] [])) _
    refine st1 _ ?_
    refine XS.astoreN X1.here hx rfl (hb hby d10_3) rfl rfl (l' := #[.val (.ref u), .val (.ref v_EMPTY), .unset, .unset, .unset, .unset]) rfl ?_
    refine st2 _ ?_
    show Steps p.tables e below (T2.setTop (mkF m 7 #[.val (.ref u), .val (.ref v_EMPTY), .unset, .unset, .unset, .unset] [(.ref va2)])) _
    refine XS.astoreN X2.here hx rfl (hb hby d10_7) rfl rfl (l' := #[.val (.ref u), .val (.ref v_EMPTY), .val (.ref va2), .unset, .unset, .unset]) rfl ?_
    refine XS.aloadN X2.here hx rfl (hb hby d10_8) rfl rfl ?_
    refine X2.arraylength hx (by exact Ar9_3.1) (State.isArrayOf_alike hZ.alike Ar9_3.2.1) (g := (mkF m 9 #[.val (.ref u), .val (.ref v_EMPTY), .val (.ref va2), .unset, .unset, .unset] [(.ref va2)])) rfl rfl (hb hby d10_9) _ ?_
    rw [len_of S9_3 N9_3_]
    show Steps p.tables e below (T2.setTop (mkF m 10 #[.val (.ref u), .val (.ref v_EMPTY), .val (.ref va2), .unset, .unset, .unset] [(.int (3 : Int32))])) _
    refine XS.istoreN X2.here hx rfl (hb hby d10_10) rfl (l' := #[.val (.ref u), .val (.ref v_EMPTY), .val (.ref va2), .val (.int (3 : Int32)), .unset, .unset]) rfl ?_
    refine XS.iconst X2.here hx rfl (hb hby d10_11) ?_
    refine XS.istore X2.here hx rfl (hb hby d10_12) rfl (l' := #[.val (.ref u), .val (.ref v_EMPTY), .val (.ref va2), .val (.int (3 : Int32)), .val (.int (0 : Int32)), .unset]) rfl ?_
    refine XS.iload X2.here hx rfl (hb hby d10_14) rfl ?_
    refine XS.iloadN X2.here hx rfl (hb hby d10_16) rfl ?_
    show Steps p.tables e below (T2.setTop (mkF m 17 #[.val (.ref u), .val (.ref v_EMPTY), .val (.ref va2), .val (.int (3 : Int32)), .val (.int (0 : Int32)), .unset] [(.int (3 : Int32)), (.int (0 : Int32))])) _
    refine XS.icmpNo X2.here hx rfl (hb hby d10_17) rfl (tlt hd4).2.1 ?_
    refine XS.aloadN X2.here hx rfl (hb hby d10_20) rfl rfl ?_
    refine XS.iload X2.here hx rfl (hb hby d10_21) rfl ?_
    refine X2.aaload hx (j := (0 : Int32)) (v := (.ref v_NONE)) (by exact Ar23_5.1) (State.isArrayOf_alike hZ.alike Ar23_5.2.1) rfl Ar23_5.2.2 hin23_5 hat23_5 (g := (mkF m 23 #[.val (.ref u), .val (.ref v_EMPTY), .val (.ref va2), .val (.int (3 : Int32)), .val (.int (0 : Int32)), .unset] [(.int (0 : Int32)), (.ref va2)])) rfl rfl (hb hby d10_23) _ ?_
    show Steps p.tables e below (T2.setTop (mkF m 24 #[.val (.ref u), .val (.ref v_EMPTY), .val (.ref va2), .val (.int (3 : Int32)), .val (.int (0 : Int32)), .unset] [(.ref v_NONE)])) _
    refine XS.astore X2.here hx rfl (hb hby d10_24) rfl rfl (l' := #[.val (.ref u), .val (.ref v_EMPTY), .val (.ref va2), .val (.int (3 : Int32)), .val (.int (0 : Int32)), .val (.ref v_NONE)]) rfl ?_
    refine XS.aload X2.here hx rfl (hb hby d10_26) rfl rfl ?_
    refine st6 _ ?_
    refine XS.aloadN X6.here hx rfl (hb hby d10_31) rfl rfl ?_
    show Steps p.tables e below (T6.setTop (mkF m 32 #[.val (.ref u), .val (.ref v_EMPTY), .val (.ref va2), .val (.int (3 : Int32)), .val (.int (0 : Int32)), .val (.ref v_NONE)] [(.ref u), (.ref n_NONE)])) _
    refine st7.trans ?_
    refine XS.ifNo X7.here hx rfl (hb hby d10_35) rfl ((if0 _ _).trans (feq hd8).1) ?_
    refine XS.aload X7.here hx rfl (hb hby d10_38) rfl rfl ?_
    refine st9 _ ?_
    show Steps p.tables e below (T9.setTop (mkF m 43 #[.val (.ref u), .val (.ref v_EMPTY), .val (.ref va2), .val (.int (3 : Int32)), .val (.int (0 : Int32)), .val (.ref v_NONE)] [(.ref op9)])) _
    refine XS.astoreN X9.here hx rfl (hb hby d10_43) rfl rfl (l' := #[.val (.ref u), .val (.ref op9), .val (.ref va2), .val (.int (3 : Int32)), .val (.int (0 : Int32)), .val (.ref v_NONE)]) rfl ?_
    refine XS.iinc X9.here hx rfl (hb hby d10_44) rfl (l' := #[.val (.ref u), .val (.ref op9), .val (.ref va2), .val (.int (3 : Int32)), .val (.int ((0 : Int32) + (1 : Int32))), .val (.ref v_NONE)]) rfl ?_
    show Steps p.tables e below (T9.setTop (mkF m 47 #[.val (.ref u), .val (.ref op9), .val (.ref va2), .val (.int (3 : Int32)), .val (.int ((0 : Int32) + (1 : Int32))), .val (.ref v_NONE)] [])) _
    rw [(by decide : ((0 : Int32) + (1 : Int32)) = (1 : Int32))]
    show Steps p.tables e below (T9.setTop (mkF m 47 #[.val (.ref u), .val (.ref op9), .val (.ref va2), .val (.int (3 : Int32)), .val (.int (1 : Int32)), .val (.ref v_NONE)] [])) _
    refine XS.goto X9.here hx rfl (pc0 := 47) (pc' := 14) rfl (hb hby d10_47) (by decide) (by decide) ?_
    refine XS.iload X9.here hx rfl (hb hby d10_14) rfl ?_
    refine XS.iloadN X9.here hx rfl (hb hby d10_16) rfl ?_
    refine XS.icmpNo X9.here hx rfl (hb hby d10_17) rfl (tlt hd10).2.1 ?_
    show Steps p.tables e below (T9.setTop (mkF m 20 #[.val (.ref u), .val (.ref op9), .val (.ref va2), .val (.int (3 : Int32)), .val (.int (1 : Int32)), .val (.ref v_NONE)] [])) _
    refine XS.aloadN X9.here hx rfl (hb hby d10_20) rfl rfl ?_
    refine XS.iload X9.here hx rfl (hb hby d10_21) rfl ?_
    refine X9.aaload hx (j := (1 : Int32)) (v := (.ref v_CSV)) (by exact Ar23_11.1) (State.isArrayOf_alike hZ.alike Ar23_11.2.1) rfl Ar23_11.2.2 hin23_11 hat23_11 (g := (mkF m 23 #[.val (.ref u), .val (.ref op9), .val (.ref va2), .val (.int (3 : Int32)), .val (.int (1 : Int32)), .val (.ref v_NONE)] [(.int (1 : Int32)), (.ref va2)])) rfl rfl (hb hby d10_23) _ ?_
    refine XS.astore X9.here hx rfl (hb hby d10_24) rfl rfl (l' := #[.val (.ref u), .val (.ref op9), .val (.ref va2), .val (.int (3 : Int32)), .val (.int (1 : Int32)), .val (.ref v_CSV)]) rfl ?_
    refine XS.aload X9.here hx rfl (hb hby d10_26) rfl rfl ?_
    show Steps p.tables e below (T9.setTop (mkF m 28 #[.val (.ref u), .val (.ref op9), .val (.ref va2), .val (.int (3 : Int32)), .val (.int (1 : Int32)), .val (.ref v_CSV)] [(.ref v_CSV)])) _
    refine st12 _ ?_
    refine XS.aloadN X12.here hx rfl (hb hby d10_31) rfl rfl ?_
    refine st13.trans ?_
    refine XS.ifYes X13.here hx rfl (pc0 := 35) (pc' := 44) rfl (hb hby d10_35) rfl ((if0 _ _).trans (teq hd14).1) (by decide) (by decide) ?_
    show Steps p.tables e below (T13.setTop (mkF m 44 #[.val (.ref u), .val (.ref op9), .val (.ref va2), .val (.int (3 : Int32)), .val (.int (1 : Int32)), .val (.ref v_CSV)] [])) _
    refine XS.iinc X13.here hx rfl (hb hby d10_44) rfl (l' := #[.val (.ref u), .val (.ref op9), .val (.ref va2), .val (.int (3 : Int32)), .val (.int ((1 : Int32) + (1 : Int32))), .val (.ref v_CSV)]) rfl ?_
    show Steps p.tables e below (T13.setTop (mkF m 47 #[.val (.ref u), .val (.ref op9), .val (.ref va2), .val (.int (3 : Int32)), .val (.int ((1 : Int32) + (1 : Int32))), .val (.ref v_CSV)] [])) _
    rw [(by decide : ((1 : Int32) + (1 : Int32)) = (2 : Int32))]
    show Steps p.tables e below (T13.setTop (mkF m 47 #[.val (.ref u), .val (.ref op9), .val (.ref va2), .val (.int (3 : Int32)), .val (.int (2 : Int32)), .val (.ref v_CSV)] [])) _
    refine XS.goto X13.here hx rfl (pc0 := 47) (pc' := 14) rfl (hb hby d10_47) (by decide) (by decide) ?_
    refine XS.iload X13.here hx rfl (hb hby d10_14) rfl ?_
    refine XS.iloadN X13.here hx rfl (hb hby d10_16) rfl ?_
    refine XS.icmpNo X13.here hx rfl (hb hby d10_17) rfl (tlt hd15).2.1 ?_
    show Steps p.tables e below (T13.setTop (mkF m 20 #[.val (.ref u), .val (.ref op9), .val (.ref va2), .val (.int (3 : Int32)), .val (.int (2 : Int32)), .val (.ref v_CSV)] [])) _
    refine XS.aloadN X13.here hx rfl (hb hby d10_20) rfl rfl ?_
    refine XS.iload X13.here hx rfl (hb hby d10_21) rfl ?_
    refine X13.aaload hx (j := (2 : Int32)) (v := (.ref v_DATABASE)) (by rw [e13]; exact Ar23_16.1) (State.isArrayOf_alike hZ.alike Ar23_16.2.1) rfl Ar23_16.2.2 hin23_16 hat23_16 (g := (mkF m 23 #[.val (.ref u), .val (.ref op9), .val (.ref va2), .val (.int (3 : Int32)), .val (.int (2 : Int32)), .val (.ref v_CSV)] [(.int (2 : Int32)), (.ref va2)])) rfl rfl (hb hby d10_23) _ ?_
    refine XS.astore X13.here hx rfl (hb hby d10_24) rfl rfl (l' := #[.val (.ref u), .val (.ref op9), .val (.ref va2), .val (.int (3 : Int32)), .val (.int (2 : Int32)), .val (.ref v_DATABASE)]) rfl ?_
    refine XS.aload X13.here hx rfl (hb hby d10_26) rfl rfl ?_
    show Steps p.tables e below (T13.setTop (mkF m 28 #[.val (.ref u), .val (.ref op9), .val (.ref va2), .val (.int (3 : Int32)), .val (.int (2 : Int32)), .val (.ref v_DATABASE)] [(.ref v_DATABASE)])) _
    refine st17 _ ?_
    refine XS.aloadN X17.here hx rfl (hb hby d10_31) rfl rfl ?_
    refine st18.trans ?_
    refine XS.ifYes X18.here hx rfl (pc0 := 35) (pc' := 44) rfl (hb hby d10_35) rfl ((if0 _ _).trans (teq hd19).1) (by decide) (by decide) ?_
    show Steps p.tables e below (T18.setTop (mkF m 44 #[.val (.ref u), .val (.ref op9), .val (.ref va2), .val (.int (3 : Int32)), .val (.int (2 : Int32)), .val (.ref v_DATABASE)] [])) _
    refine XS.iinc X18.here hx rfl (hb hby d10_44) rfl (l' := #[.val (.ref u), .val (.ref op9), .val (.ref va2), .val (.int (3 : Int32)), .val (.int ((2 : Int32) + (1 : Int32))), .val (.ref v_DATABASE)]) rfl ?_
    show Steps p.tables e below (T18.setTop (mkF m 47 #[.val (.ref u), .val (.ref op9), .val (.ref va2), .val (.int (3 : Int32)), .val (.int ((2 : Int32) + (1 : Int32))), .val (.ref v_DATABASE)] [])) _
    rw [(by decide : ((2 : Int32) + (1 : Int32)) = (3 : Int32))]
    show Steps p.tables e below (T18.setTop (mkF m 47 #[.val (.ref u), .val (.ref op9), .val (.ref va2), .val (.int (3 : Int32)), .val (.int (3 : Int32)), .val (.ref v_DATABASE)] [])) _
    refine XS.goto X18.here hx rfl (pc0 := 47) (pc' := 14) rfl (hb hby d10_47) (by decide) (by decide) ?_
    refine XS.iload X18.here hx rfl (hb hby d10_14) rfl ?_
    refine XS.iloadN X18.here hx rfl (hb hby d10_16) rfl ?_
    refine XS.icmpYes X18.here hx rfl (pc0 := 17) (pc' := 50) rfl (hb hby d10_17) rfl (flt hd20).2.1 (by decide) (by decide) ?_
    show Steps p.tables e below (T18.setTop (mkF m 50 #[.val (.ref u), .val (.ref op9), .val (.ref va2), .val (.int (3 : Int32)), .val (.int (3 : Int32)), .val (.ref v_DATABASE)] [])) _
    refine XS.aloadN X18.here hx rfl (hb hby d10_50) rfl rfl ?_
    show Steps p.tables e below (T18.setTop (mkF m 51 #[.val (.ref u), .val (.ref op9), .val (.ref va2), .val (.int (3 : Int32)), .val (.int (3 : Int32)), .val (.ref v_DATABASE)] [(.ref op9)])) _
    exact kt
  obtain ⟨fs, hr, hrun, hended, hW, hsame⟩ := X18.leave (v := some (.ref op9)) (fun h => by rw [Bd.returns] at h; cases h)
  refine ⟨_, _, k21 _ ?_, hrun, hended, _, _, rfl, ?_, ⟨_, rfl⟩, hW, hsame.mono (by decide) (by decide)⟩
  · exact own_retA X18 hx Bd.returns rfl (hb hby d10_51) hr
  · show QNm Z (.ref v_NONE) h0 n0 _ T18.heap _
    rw [e18]
    exact ⟨N18, KP9, op9, rfl, E9o, Fv9⟩
theorem ef_rmNamedCSV (m : MethodId) (u : Addr) : entryFrame m #[(.ref u)] 6 = mkF m 0 #[.val (.ref u), .unset, .unset, .unset, .unset, .unset] [] := by first | (simp [entryFrame, mkF, argsToLocals, Value.category]; done) | rfl
set_option maxRecDepth 65536 in
set_option maxHeartbeats 40000000 in
theorem rmNamedCSV (l : Launch) (Z : State) (a0 : Array Value) (hw : ∀ d ∈ tables_1, d.before a0 Z = true) (ws : List Jvm.Cond) (u : Addr) (cs : List Int32) (tx : Addr) (kx : ClassId) (N2 : Int32) (vs : List Value) (cz : Int32) (v_EMPTY vv : Addr) (kv : ClassId) (v_NONE n_NONE t_NONE : Addr) (k_NONE : ClassId) (v_CSV n_CSV t_CSV : Addr) (k_CSV : ClassId) (v_DATABASE n_DATABASE t_DATABASE : Addr) (k_DATABASE : ClassId) (h0 : Heap) (n0 : Nat) (Z0 : n0 ≤ h0.size) (hWd : World Z h0 cz v_EMPTY vv kv v_NONE n_NONE t_NONE k_NONE v_CSV n_CSV t_CSV k_CSV v_DATABASE n_DATABASE t_DATABASE k_DATABASE) (hcz : ¬ cz = 0) (E_u : Exa Z h0 u "java/lang/String") (V_u : Fld Z h0 u "java/lang/String" "value" "[B" (.ref tx)) (C_u : Fld Z h0 u "java/lang/String" "coder" "B" (.int (0 : Int32))) (K_u : Arv Z h0 tx kx .byte N2 vs (.int (0 : Int32))) (hcd : StrChars.Road.CodA cs 0 N2 vs) (hbd : ∀ c ∈ cs, ¬ c < 0 ∧ ¬ (65535 : Int32) < c) (hl2 : cs.length ≤ 4000) (q_NONE : ¬ tNone = cs) (q_CSV : tCsv = cs) (q_DATABASE : ¬ tData = cs) :
    MetFree l (⟨"com/example/lifetable/lifetable/output/ExportFormat", "named", "(Ljava/lang/String;)Ljava/util/Optional;"⟩ : MethodName) (head1 (Jvm.Cond.code (⟨"com/example/lifetable/lifetable/output/ExportFormat", "named", "(Ljava/lang/String;)Ljava/util/Optional;"⟩ : MethodName) prog_26_method_4_code 6 (some (.object "java/util/Optional")) :: ws) ({ frames := 3, cells := 2, slots := 4, locals := 38 } : Room)) (fun a_ U_ => a_ = #[(.ref u)] ∧ Z.Warmed39 U_.vm ∧ U_.heap = h0) (fun _ _ _ _ _ => True) (fun _ U_ o_ U'_ => ∃ v_ L_, o_ = .returned v_ ∧ QNm Z (.ref v_CSV) h0 n0 v_ U'_.heap L_ ∧ FrameEnd U_ o_ U'_ L_ ({ frames := 3, cells := 2, slots := 4, locals := 38 } : Room).cells ({ frames := 3, cells := 2, slots := 4, locals := 38 } : Room).slots) := by
  refine MetFree.of_bodySF (plainFor_of_name pn_10) hisR ?_
  intro p e s m args below meth c s₁ Bd hml0 hP hK
  obtain ⟨rfl, hZ, hh⟩ := hP
  have hx := Bd.exec
  have hby := Bd.bytes
  have hml : c.maxLocals = 6 := hml0
  have hown : s.vm.findClass "com/example/lifetable/lifetable/output/ExportFormat" = some m.cls := findClass_of_methodNamed Bd.named
  have hnm := (name_of_methodNamed Bd.named Bd.method).1
  have X0 : Stand p l e ({ frames := 3, cells := 2, slots := 4, locals := 38 } : Room) s m #[(.ref u)] below meth c s₁ [] 0 0 := Stand.of_body Bd
  have e0 : s₁.heap = h0 := by rw [← hh, Bd.state]; rfl
  have N0 := Fr.nil n0
  have k0 : ∀ tg, Steps p.tables e below (s₁.setTop (mkF m 0 #[.val (.ref u), .unset, .unset, .unset, .unset, .unset] [])) tg → Steps p.tables e below (s₁.setTop (entryFrame m #[(.ref u)] 6)) tg := fun tg kq_ => castTop (ef_rmNamedCSV m u) kq_
  have hweq : ∀ d ∈ StrChars.Road.wordsEq, d.before a0 Z = true := fun d hd => hw d ((by decide +kernel : ∀ d ∈ StrChars.Road.wordsEq, d ∈ tables_1) d hd)
  obtain ⟨_, _, ⟨T1, L1, k1, n1⟩, -, X1, ⟨Lc1, hQ1, l1, y1, z1⟩, st1⟩ := Jvm.LawKit.callS X0 hx (y := (⟨"java/util/Optional", "empty", "()Ljava/util/Optional;"⟩ : MethodName)) hown (mvT hZ (ww hw 54 rfl)) (mvT hZ (ww hw 55 rfl)) (mvT hZ (ww hw 56 rfl)) (mvT hZ (ww hw 57 rfl)) (by decide) (backOf (W := 0) (rmEmpty l Z a0 hw []  cz v_EMPTY vv kv v_NONE n_NONE t_NONE k_NONE v_CSV n_CSV t_CSV k_CSV v_DATABASE n_DATABASE t_DATABASE k_DATABASE h0 n0 (hWd.ext (own_extK (Keep.refl h0 [])))) hZ (ww hw 57 rfl) (ww hw 56 rfl) (by decide) (by decide)) (g := (mkF m 0 #[.val (.ref u), .unset, .unset, .unset, .unset, .unset] [])) rfl (by rw [hml]; rfl) (argsL := []) (rest := []) (lenOf pd_4 rfl) rfl (by show 2 * 0 + _ ≤ _; exact Nat.le_of_eq rfl) (hb hby d10_0) (fun _ _ => ⟨rfl, e0, (by decide : 0 + 0 ≤ _), (by decide : 0 + 0 ≤ _)⟩)
  dsimp only [Pt.U, Pt.locs, Pt.cells, Pt.slots] at X1 l1 y1 z1 st1 hQ1
  subst l1 y1 z1
  obtain ⟨rfl, N1q, e1⟩ := hQ1
  have N1 := Fr.app N0 N1q
  obtain ⟨_, _, ⟨T2, L2, k2, n2⟩, -, X2, ⟨Lc2, hQ2, l2, y2, z2⟩, st2⟩ := Jvm.LawKit.callS X1 hx (y := (⟨"com/example/lifetable/lifetable/output/ExportFormat", "values", "()[Lcom/example/lifetable/lifetable/output/ExportFormat;"⟩ : MethodName)) hown (mvT hZ (ww hw 59 rfl)) (mvT hZ (ww hw 60 rfl)) (mvT hZ (ww hw 52 rfl)) (mvT hZ (ww hw 61 rfl)) (by decide) (backOf (W := 0) (rmValues l Z a0 hw []  cz v_EMPTY vv kv v_NONE n_NONE t_NONE k_NONE v_CSV n_CSV t_CSV k_CSV v_DATABASE n_DATABASE t_DATABASE k_DATABASE h0 n0 Z0 (hWd.ext (own_extK (Keep.refl h0 [])))) hZ (ww hw 61 rfl) (ww hw 52 rfl) (by decide) (by decide)) (g := (mkF m 4 #[.val (.ref u), .val (.ref v_EMPTY), .unset, .unset, .unset, .unset] [])) rfl (by rw [hml]; rfl) (argsL := []) (rest := []) (lenOf pd_5 rfl) rfl (by show 2 * 0 + _ ≤ _; exact Nat.le_of_eq rfl) (hb hby d10_4) (fun _ _ => ⟨rfl, e1, (by decide : 0 + 1 ≤ _), (by decide : 0 + 3 ≤ _)⟩)
  dsimp only [Pt.U, Pt.locs, Pt.cells, Pt.slots] at X2 l2 y2 z2 st2 hQ2
  subst l2 y2 z2
  obtain ⟨N2q, K2, va2, rfl, le2, V2b⟩ := hQ2
  have N2 := Fr.app N1 N2q
  have ne_u_va2 : u ≠ va2 := Nat.ne_of_lt (Nat.lt_of_lt_of_le E_u.lt le2)
  have ne_tx_va2 : tx ≠ va2 := Nat.ne_of_lt (Nat.lt_of_lt_of_le K_u.lt le2)
  have g_va2 : n0 ≤ va2 := Nat.le_trans Z0 le2
  have sz_va2 : h0.size ≤ va2 := Nat.le_trans (Keep.refl h0 []).1 le2
  have E2_u := E_u.keep K2
  have F2_u_value := V_u.keep K2 nin0
  have F2_u_coder := C_u.keep K2 nin0
  have V2_tx := K_u.keep K2 nin0
  have Z2 := Nat.le_trans Z0 K2.1
  have KP2 := (Keep.refl h0 []).trans K2 all0
  obtain ⟨cl9_3, Ar9_3, q9_3, S9_3, N9_3_, H9_3, G9_3⟩ := id V2b
  have hd4 : (0 : Int32) < (3 : Int32) := by decide
  obtain ⟨cl23_5, Ar23_5, q23_5, S23_5, N23_5_, H23_5, G23_5⟩ := id V2b
  have hin23_5 : ¬ ((0 : Int32) < 0 ∨ cl23_5.slots.size ≤ ((0 : Int32)).toNatClampNeg) := inb_of S23_5 ⟨by decide, by decide⟩
  have hat23_5 : cl23_5.slots[((0 : Int32)).toNatClampNeg]? = some (.ref v_NONE) := H23_5.at hin23_5 rfl
  obtain ⟨T6, X6, e6, st6⟩ := getF X2 hx hZ hown (host := "") (Or.inl (ww hw 77 rfl)) Via.refl rfl ((hWd.ext (own_extK KP2)).2.2.2.2.2.2.2.2.2.1) (g := (mkF m 28 #[.val (.ref u), .val (.ref v_EMPTY), .val (.ref va2), .val (.int (3 : Int32)), .val (.int (0 : Int32)), .val (.ref v_NONE)] [(.ref v_NONE)])) rfl rfl (hb hby d10_28)
  obtain ⟨cq7, kq7, q7a, q7b, q7c⟩ := isOf hZ e6 ((hWd.ext (own_extK KP2)).2.2.2.2.2.2.2.2.2.2.1)
  obtain ⟨_, _, ⟨T7, L7, k7, n7⟩, -, X7, ⟨Lc7, hQ7, l7, y7, z7⟩, st7⟩ := X6.virtualBack hx (y := (⟨"java/lang/String", "equals", "(Ljava/lang/Object;)Z"⟩ : MethodName)) (z := (⟨"java/lang/String", "equals", "(Ljava/lang/Object;)Z"⟩ : MethodName)) hown (mvT hZ (ww hw 79 rfl)) (mvT hZ (ww hw 39 rfl)) (notFace_of_selects (args := #[]) (mvT hZ (ww hw 41 rfl))) (mvT hZ (ww hw 41 rfl)) (mvT hZ (ww hw 40 rfl)) (by decide) (StrChars.Road.eqW (W := 0) hZ hweq (kI := 4) (ww hw 7 rfl) ((hWd.ext (own_extK KP2)).2.2.2.2.2.2.2.2.2.2.1) ((hWd.ext (own_extK KP2)).2.2.2.2.2.2.2.2.2.2.2.2.1) ((hWd.ext (own_extK KP2)).2.2.2.2.2.2.2.2.2.2.2.1) ((hWd.ext (own_extK KP2)).2.2.2.2.2.2.2.2.2.2.2.2.2.1) own_cNone own_bNone (Nat.le_of_ble_eq_true rfl) E2_u F2_u_value F2_u_coder V2_tx hcd hbd hl2 ((hWd.ext (own_extK KP2)).1) hcz (by decide) (by decide)) q7a q7c (g := (mkF m 32 #[.val (.ref u), .val (.ref v_EMPTY), .val (.ref va2), .val (.int (3 : Int32)), .val (.int (0 : Int32)), .val (.ref v_NONE)] [(.ref u), (.ref n_NONE)])) rfl (by rw [hml]; rfl) (Steps.refl _) (argsL := [(.ref u)]) (rest := []) (lenOf pd_6 rfl) rfl (by show 2 * 0 + _ ≤ _; exact Nat.le_of_eq rfl) (hb hby d10_32) (fun _ _ => ⟨rfl, e6, (by decide : 1 + 0 ≤ _), (by decide : 3 + 0 ≤ _)⟩)
  dsimp only [Pt.U, Pt.locs, Pt.cells, Pt.slots] at X7 l7 y7 z7 st7 hQ7
  subst l7 y7 z7
  obtain ⟨hv7, rfl, e7⟩ := hQ7
  obtain rfl := own_eq0 hv7 q_NONE
  have N7 := Fr.app N2 (Fr.nil n0)
  have hd8 : (0 : Int32) = (0 : Int32) := rfl
  have hd9 : (1 : Int32) < (3 : Int32) := by decide
  obtain ⟨cl23_10, Ar23_10, q23_10, S23_10, N23_10_, H23_10, G23_10⟩ := id V2b
  have hin23_10 : ¬ ((1 : Int32) < 0 ∨ cl23_10.slots.size ≤ ((1 : Int32)).toNatClampNeg) := inb_of S23_10 ⟨by decide, by decide⟩
  have hat23_10 : cl23_10.slots[((1 : Int32)).toNatClampNeg]? = some (.ref v_CSV) := H23_10.at hin23_10 rfl
  obtain ⟨T11, X11, e11, st11⟩ := getF X7 hx hZ hown (host := "") (Or.inl (ww hw 77 rfl)) Via.refl e7 ((hWd.ext (own_extK KP2)).2.2.2.2.2.2.2.2.2.2.2.2.2.2.2.2.1) (g := (mkF m 28 #[.val (.ref u), .val (.ref v_EMPTY), .val (.ref va2), .val (.int (3 : Int32)), .val (.int (1 : Int32)), .val (.ref v_CSV)] [(.ref v_CSV)])) rfl rfl (hb hby d10_28)
  obtain ⟨cq12, kq12, q12a, q12b, q12c⟩ := isOf hZ e11 ((hWd.ext (own_extK KP2)).2.2.2.2.2.2.2.2.2.2.2.2.2.2.2.2.2.1)
  obtain ⟨_, _, ⟨T12, L12, k12, n12⟩, -, X12, ⟨Lc12, hQ12, l12, y12, z12⟩, st12⟩ := X11.virtualBack hx (y := (⟨"java/lang/String", "equals", "(Ljava/lang/Object;)Z"⟩ : MethodName)) (z := (⟨"java/lang/String", "equals", "(Ljava/lang/Object;)Z"⟩ : MethodName)) hown (mvT hZ (ww hw 79 rfl)) (mvT hZ (ww hw 39 rfl)) (notFace_of_selects (args := #[]) (mvT hZ (ww hw 41 rfl))) (mvT hZ (ww hw 41 rfl)) (mvT hZ (ww hw 40 rfl)) (by decide) (StrChars.Road.eqW (W := 0) hZ hweq (kI := 4) (ww hw 7 rfl) ((hWd.ext (own_extK KP2)).2.2.2.2.2.2.2.2.2.2.2.2.2.2.2.2.2.1) ((hWd.ext (own_extK KP2)).2.2.2.2.2.2.2.2.2.2.2.2.2.2.2.2.2.2.2.1) ((hWd.ext (own_extK KP2)).2.2.2.2.2.2.2.2.2.2.2.2.2.2.2.2.2.2.1) ((hWd.ext (own_extK KP2)).2.2.2.2.2.2.2.2.2.2.2.2.2.2.2.2.2.2.2.2.1) own_cCsv own_bCsv (Nat.le_of_ble_eq_true rfl) E2_u F2_u_value F2_u_coder V2_tx hcd hbd hl2 ((hWd.ext (own_extK KP2)).1) hcz (by decide) (by decide)) q12a q12c (g := (mkF m 32 #[.val (.ref u), .val (.ref v_EMPTY), .val (.ref va2), .val (.int (3 : Int32)), .val (.int (1 : Int32)), .val (.ref v_CSV)] [(.ref u), (.ref n_CSV)])) rfl (by rw [hml]; rfl) (Steps.refl _) (argsL := [(.ref u)]) (rest := []) (lenOf pd_6 rfl) rfl (by show 2 * 0 + _ ≤ _; exact Nat.le_of_eq rfl) (hb hby d10_32) (fun _ _ => ⟨rfl, e11, (by decide : 1 + 0 ≤ _), (by decide : 3 + 0 ≤ _)⟩)
  dsimp only [Pt.U, Pt.locs, Pt.cells, Pt.slots] at X12 l12 y12 z12 st12 hQ12
  subst l12 y12 z12
  obtain ⟨hv12, rfl, e12⟩ := hQ12
  obtain rfl := own_eq1 hv12 q_CSV
  have N12 := Fr.app N7 (Fr.nil n0)
  have hd13 : ¬ ((1 : Int32) = (0 : Int32)) := by decide
  obtain ⟨_, _, ⟨T14, L14, k14, n14⟩, -, X14, ⟨Lc14, hQ14, l14, y14, z14⟩, st14⟩ := Jvm.LawKit.callS X12 hx (y := (⟨"java/util/Optional", "of", "(Ljava/lang/Object;)Ljava/util/Optional;"⟩ : MethodName)) hown (mvT hZ (ww hw 88 rfl)) (mvT hZ (ww hw 89 rfl)) (mvT hZ (ww hw 56 rfl)) (mvT hZ (ww hw 90 rfl)) (by decide) (backOf (W := 0) (rmOOf l Z a0 hw [] v_CSV  T2.heap n0 Z2) hZ (ww hw 90 rfl) (ww hw 56 rfl) (by decide) (by decide)) (g := (mkF m 40 #[.val (.ref u), .val (.ref v_EMPTY), .val (.ref va2), .val (.int (3 : Int32)), .val (.int (1 : Int32)), .val (.ref v_CSV)] [(.ref v_CSV)])) rfl (by rw [hml]; rfl) (argsL := [(.ref v_CSV)]) (rest := []) (lenOf pd_7 rfl) rfl (by show 2 * 0 + _ ≤ _; exact Nat.le_of_eq rfl) (hb hby d10_40) (fun _ _ => ⟨rfl, e12, (by decide : 1 + 1 ≤ _), (by decide : 3 + 1 ≤ _)⟩)
  dsimp only [Pt.U, Pt.locs, Pt.cells, Pt.slots] at X14 l14 y14 z14 st14 hQ14
  subst l14 y14 z14
  obtain ⟨N14q, K14, op14, rfl, le14, E14o, Fv14⟩ := hQ14
  have N14 := Fr.app N12 N14q
  have ne_u_op14 : u ≠ op14 := Nat.ne_of_lt (Nat.lt_of_lt_of_le E2_u.lt le14)
  have ne_tx_op14 : tx ≠ op14 := Nat.ne_of_lt (Nat.lt_of_lt_of_le V2_tx.lt le14)
  have ne_va2_op14 : va2 ≠ op14 := Nat.ne_of_lt (Nat.lt_of_lt_of_le V2b.lt le14)
  have g_op14 : n0 ≤ op14 := Nat.le_trans Z2 le14
  have sz_op14 : h0.size ≤ op14 := Nat.le_trans KP2.1 le14
  have E14_u := E2_u.keep K14
  have F14_u_value := F2_u_value.keep K14 nin0
  have F14_u_coder := F2_u_coder.keep K14 nin0
  have V14_tx := V2_tx.keep K14 nin0
  have V14_va2 := V2b.keep K14 nin0
  have Z14 := Nat.le_trans Z2 K14.1
  have KP14 := KP2.trans K14 all0
  have hd15 : (2 : Int32) < (3 : Int32) := by decide
  obtain ⟨cl23_16, Ar23_16, q23_16, S23_16, N23_16_, H23_16, G23_16⟩ := id V14_va2
  have hin23_16 : ¬ ((2 : Int32) < 0 ∨ cl23_16.slots.size ≤ ((2 : Int32)).toNatClampNeg) := inb_of S23_16 ⟨by decide, by decide⟩
  have hat23_16 : cl23_16.slots[((2 : Int32)).toNatClampNeg]? = some (.ref v_DATABASE) := H23_16.at hin23_16 rfl
  obtain ⟨T17, X17, e17, st17⟩ := getF X14 hx hZ hown (host := "") (Or.inl (ww hw 77 rfl)) Via.refl rfl ((hWd.ext (own_extK KP14)).2.2.2.2.2.2.2.2.2.2.2.2.2.2.2.2.2.2.2.2.2.2.2.1) (g := (mkF m 28 #[.val (.ref u), .val (.ref op14), .val (.ref va2), .val (.int (3 : Int32)), .val (.int (2 : Int32)), .val (.ref v_DATABASE)] [(.ref v_DATABASE)])) rfl rfl (hb hby d10_28)
  obtain ⟨cq18, kq18, q18a, q18b, q18c⟩ := isOf hZ e17 ((hWd.ext (own_extK KP14)).2.2.2.2.2.2.2.2.2.2.2.2.2.2.2.2.2.2.2.2.2.2.2.2.1)
  obtain ⟨_, _, ⟨T18, L18, k18, n18⟩, -, X18, ⟨Lc18, hQ18, l18, y18, z18⟩, st18⟩ := X17.virtualBack hx (y := (⟨"java/lang/String", "equals", "(Ljava/lang/Object;)Z"⟩ : MethodName)) (z := (⟨"java/lang/String", "equals", "(Ljava/lang/Object;)Z"⟩ : MethodName)) hown (mvT hZ (ww hw 79 rfl)) (mvT hZ (ww hw 39 rfl)) (notFace_of_selects (args := #[]) (mvT hZ (ww hw 41 rfl))) (mvT hZ (ww hw 41 rfl)) (mvT hZ (ww hw 40 rfl)) (by decide) (StrChars.Road.eqW (W := 0) hZ hweq (kI := 4) (ww hw 7 rfl) ((hWd.ext (own_extK KP14)).2.2.2.2.2.2.2.2.2.2.2.2.2.2.2.2.2.2.2.2.2.2.2.2.1) ((hWd.ext (own_extK KP14)).2.2.2.2.2.2.2.2.2.2.2.2.2.2.2.2.2.2.2.2.2.2.2.2.2.2.1) ((hWd.ext (own_extK KP14)).2.2.2.2.2.2.2.2.2.2.2.2.2.2.2.2.2.2.2.2.2.2.2.2.2.1) ((hWd.ext (own_extK KP14)).2.2.2.2.2.2.2.2.2.2.2.2.2.2.2.2.2.2.2.2.2.2.2.2.2.2.2) own_cData own_bData (Nat.le_of_ble_eq_true rfl) E14_u F14_u_value F14_u_coder V14_tx hcd hbd hl2 ((hWd.ext (own_extK KP14)).1) hcz (by decide) (by decide)) q18a q18c (g := (mkF m 32 #[.val (.ref u), .val (.ref op14), .val (.ref va2), .val (.int (3 : Int32)), .val (.int (2 : Int32)), .val (.ref v_DATABASE)] [(.ref u), (.ref n_DATABASE)])) rfl (by rw [hml]; rfl) (Steps.refl _) (argsL := [(.ref u)]) (rest := []) (lenOf pd_6 rfl) rfl (by show 2 * 0 + _ ≤ _; exact Nat.le_of_eq rfl) (hb hby d10_32) (fun _ _ => ⟨rfl, e17, (by decide : 2 + 0 ≤ _), (by decide : 4 + 0 ≤ _)⟩)
  dsimp only [Pt.U, Pt.locs, Pt.cells, Pt.slots] at X18 l18 y18 z18 st18 hQ18
  subst l18 y18 z18
  obtain ⟨hv18, rfl, e18⟩ := hQ18
  obtain rfl := own_eq0 hv18 q_DATABASE
  have N18 := Fr.app N14 (Fr.nil n0)
  have hd19 : (0 : Int32) = (0 : Int32) := rfl
  have hd20 : ¬ ((3 : Int32) < (3 : Int32)) := by decide
  have k21 : ∀ tg, Steps p.tables e below (T18.setTop (mkF m 51 #[.val (.ref u), .val (.ref op14), .val (.ref va2), .val (.int (3 : Int32)), .val (.int (3 : Int32)), .val (.ref v_DATABASE)] [(.ref op14)])) tg → Steps p.tables e below (s₁.setTop (entryFrame m #[(.ref u)] 6)) tg := by
    intro tg kt
    refine k0 tg ?_
    show Steps p.tables e below (s₁.setTop (mkF m 0 #[.val (.ref u), .unset, .unset, .unset, .unset, .unset] [])) _
    refine st1 _ ?_
    refine XS.astoreN X1.here hx rfl (hb hby d10_3) rfl rfl (l' := #[.val (.ref u), .val (.ref v_EMPTY), .unset, .unset, .unset, .unset]) rfl ?_
    refine st2 _ ?_
    show Steps p.tables e below (T2.setTop (mkF m 7 #[.val (.ref u), .val (.ref v_EMPTY), .unset, .unset, .unset, .unset] [(.ref va2)])) _
    refine XS.astoreN X2.here hx rfl (hb hby d10_7) rfl rfl (l' := #[.val (.ref u), .val (.ref v_EMPTY), .val (.ref va2), .unset, .unset, .unset]) rfl ?_
    refine XS.aloadN X2.here hx rfl (hb hby d10_8) rfl rfl ?_
    refine X2.arraylength hx (by exact Ar9_3.1) (State.isArrayOf_alike hZ.alike Ar9_3.2.1) (g := (mkF m 9 #[.val (.ref u), .val (.ref v_EMPTY), .val (.ref va2), .unset, .unset, .unset] [(.ref va2)])) rfl rfl (hb hby d10_9) _ ?_
    rw [len_of S9_3 N9_3_]
    show Steps p.tables e below (T2.setTop (mkF m 10 #[.val (.ref u), .val (.ref v_EMPTY), .val (.ref va2), .unset, .unset, .unset] [(.int (3 : Int32))])) _
    refine XS.istoreN X2.here hx rfl (hb hby d10_10) rfl (l' := #[.val (.ref u), .val (.ref v_EMPTY), .val (.ref va2), .val (.int (3 : Int32)), .unset, .unset]) rfl ?_
    refine XS.iconst X2.here hx rfl (hb hby d10_11) ?_
    refine XS.istore X2.here hx rfl (hb hby d10_12) rfl (l' := #[.val (.ref u), .val (.ref v_EMPTY), .val (.ref va2), .val (.int (3 : Int32)), .val (.int (0 : Int32)), .unset]) rfl ?_
    refine XS.iload X2.here hx rfl (hb hby d10_14) rfl ?_
    refine XS.iloadN X2.here hx rfl (hb hby d10_16) rfl ?_
    show Steps p.tables e below (T2.setTop (mkF m 17 #[.val (.ref u), .val (.ref v_EMPTY), .val (.ref va2), .val (.int (3 : Int32)), .val (.int (0 : Int32)), .unset] [(.int (3 : Int32)), (.int (0 : Int32))])) _
    refine XS.icmpNo X2.here hx rfl (hb hby d10_17) rfl (tlt hd4).2.1 ?_
    refine XS.aloadN X2.here hx rfl (hb hby d10_20) rfl rfl ?_
    refine XS.iload X2.here hx rfl (hb hby d10_21) rfl ?_
    refine X2.aaload hx (j := (0 : Int32)) (v := (.ref v_NONE)) (by exact Ar23_5.1) (State.isArrayOf_alike hZ.alike Ar23_5.2.1) rfl Ar23_5.2.2 hin23_5 hat23_5 (g := (mkF m 23 #[.val (.ref u), .val (.ref v_EMPTY), .val (.ref va2), .val (.int (3 : Int32)), .val (.int (0 : Int32)), .unset] [(.int (0 : Int32)), (.ref va2)])) rfl rfl (hb hby d10_23) _ ?_
    show Steps p.tables e below (T2.setTop (mkF m 24 #[.val (.ref u), .val (.ref v_EMPTY), .val (.ref va2), .val (.int (3 : Int32)), .val (.int (0 : Int32)), .unset] [(.ref v_NONE)])) _
    refine XS.astore X2.here hx rfl (hb hby d10_24) rfl rfl (l' := #[.val (.ref u), .val (.ref v_EMPTY), .val (.ref va2), .val (.int (3 : Int32)), .val (.int (0 : Int32)), .val (.ref v_NONE)]) rfl ?_
    refine XS.aload X2.here hx rfl (hb hby d10_26) rfl rfl ?_
    refine st6 _ ?_
    refine XS.aloadN X6.here hx rfl (hb hby d10_31) rfl rfl ?_
    show Steps p.tables e below (T6.setTop (mkF m 32 #[.val (.ref u), .val (.ref v_EMPTY), .val (.ref va2), .val (.int (3 : Int32)), .val (.int (0 : Int32)), .val (.ref v_NONE)] [(.ref u), (.ref n_NONE)])) _
    refine st7.trans ?_
    refine XS.ifYes X7.here hx rfl (pc0 := 35) (pc' := 44) rfl (hb hby d10_35) rfl ((if0 _ _).trans (teq hd8).1) (by decide) (by decide) ?_
    refine XS.iinc X7.here hx rfl (hb hby d10_44) rfl (l' := #[.val (.ref u), .val (.ref v_EMPTY), .val (.ref va2), .val (.int (3 : Int32)), .val (.int ((0 : Int32) + (1 : Int32))), .val (.ref v_NONE)]) rfl ?_
    show Steps p.tables e below (T7.setTop (mkF m 47 #[.val (.ref u), .val (.ref v_EMPTY), .val (.ref va2), .val (.int (3 : Int32)), .val (.int ((0 : Int32) + (1 : Int32))), .val (.ref v_NONE)] [])) _
    rw [(by decide : ((0 : Int32) + (1 : Int32)) = (1 : Int32))]
    show Steps p.tables e below (T7.setTop (mkF m 47 #[.val (.ref u), .val (.ref v_EMPTY), .val (.ref va2), .val (.int (3 : Int32)), .val (.int (1 : Int32)), .val (.ref v_NONE)] [])) _
    refine XS.goto X7.here hx rfl (pc0 := 47) (pc' := 14) rfl (hb hby d10_47) (by decide) (by decide) ?_
    refine XS.iload X7.here hx rfl (hb hby d10_14) rfl ?_
    refine XS.iloadN X7.here hx rfl (hb hby d10_16) rfl ?_
    refine XS.icmpNo X7.here hx rfl (hb hby d10_17) rfl (tlt hd9).2.1 ?_
    show Steps p.tables e below (T7.setTop (mkF m 20 #[.val (.ref u), .val (.ref v_EMPTY), .val (.ref va2), .val (.int (3 : Int32)), .val (.int (1 : Int32)), .val (.ref v_NONE)] [])) _
    refine XS.aloadN X7.here hx rfl (hb hby d10_20) rfl rfl ?_
    refine XS.iload X7.here hx rfl (hb hby d10_21) rfl ?_
    refine X7.aaload hx (j := (1 : Int32)) (v := (.ref v_CSV)) (by rw [e7]; exact Ar23_10.1) (State.isArrayOf_alike hZ.alike Ar23_10.2.1) rfl Ar23_10.2.2 hin23_10 hat23_10 (g := (mkF m 23 #[.val (.ref u), .val (.ref v_EMPTY), .val (.ref va2), .val (.int (3 : Int32)), .val (.int (1 : Int32)), .val (.ref v_NONE)] [(.int (1 : Int32)), (.ref va2)])) rfl rfl (hb hby d10_23) _ ?_
    refine XS.astore X7.here hx rfl (hb hby d10_24) rfl rfl (l' := #[.val (.ref u), .val (.ref v_EMPTY), .val (.ref va2), .val (.int (3 : Int32)), .val (.int (1 : Int32)), .val (.ref v_CSV)]) rfl ?_
    refine XS.aload X7.here hx rfl (hb hby d10_26) rfl rfl ?_
    show Steps p.tables e below (T7.setTop (mkF m 28 #[.val (.ref u), .val (.ref v_EMPTY), .val (.ref va2), .val (.int (3 : Int32)), .val (.int (1 : Int32)), .val (.ref v_CSV)] [(.ref v_CSV)])) _
    refine st11 _ ?_
    refine XS.aloadN X11.here hx rfl (hb hby d10_31) rfl rfl ?_
    refine st12.trans ?_
    refine XS.ifNo X12.here hx rfl (hb hby d10_35) rfl ((if0 _ _).trans (feq hd13).1) ?_
    show Steps p.tables e below (T12.setTop (mkF m 38 #[.val (.ref u), .val (.ref v_EMPTY), .val (.ref va2), .val (.int (3 : Int32)), .val (.int (1 : Int32)), .val (.ref v_CSV)] [])) _
    refine XS.aload X12.here hx rfl (hb hby d10_38) rfl rfl ?_
    refine st14 _ ?_
    refine XS.astoreN X14.here hx rfl (hb hby d10_43) rfl rfl (l' := #[.val (.ref u), .val (.ref op14), .val (.ref va2), .val (.int (3 : Int32)), .val (.int (1 : Int32)), .val (.ref v_CSV)]) rfl ?_
    refine XS.iinc X14.here hx rfl (hb hby d10_44) rfl (l' := #[.val (.ref u), .val (.ref op14), .val (.ref va2), .val (.int (3 : Int32)), .val (.int ((1 : Int32) + (1 : Int32))), .val (.ref v_CSV)]) rfl ?_
    show Steps p.tables e below (T14.setTop (mkF m 47 #[.val (.ref u), .val (.ref op14), .val (.ref va2), .val (.int (3 : Int32)), .val (.int ((1 : Int32) + (1 : Int32))), .val (.ref v_CSV)] [])) _
    rw [(by decide : ((1 : Int32) + (1 : Int32)) = (2 : Int32))]
    show Steps p.tables e below (T14.setTop (mkF m 47 #[.val (.ref u), .val (.ref op14), .val (.ref va2), .val (.int (3 : Int32)), .val (.int (2 : Int32)), .val (.ref v_CSV)] [])) _
    refine XS.goto X14.here hx rfl (pc0 := 47) (pc' := 14) rfl (hb hby d10_47) (by decide) (by decide) ?_
    refine XS.iload X14.here hx rfl (hb hby d10_14) rfl ?_
    refine XS.iloadN X14.here hx rfl (hb hby d10_16) rfl ?_
    refine XS.icmpNo X14.here hx rfl (hb hby d10_17) rfl (tlt hd15).2.1 ?_
    show Steps p.tables e below (T14.setTop (mkF m 20 #[.val (.ref u), .val (.ref op14), .val (.ref va2), .val (.int (3 : Int32)), .val (.int (2 : Int32)), .val (.ref v_CSV)] [])) _
    refine XS.aloadN X14.here hx rfl (hb hby d10_20) rfl rfl ?_
    refine XS.iload X14.here hx rfl (hb hby d10_21) rfl ?_
    refine X14.aaload hx (j := (2 : Int32)) (v := (.ref v_DATABASE)) (by exact Ar23_16.1) (State.isArrayOf_alike hZ.alike Ar23_16.2.1) rfl Ar23_16.2.2 hin23_16 hat23_16 (g := (mkF m 23 #[.val (.ref u), .val (.ref op14), .val (.ref va2), .val (.int (3 : Int32)), .val (.int (2 : Int32)), .val (.ref v_CSV)] [(.int (2 : Int32)), (.ref va2)])) rfl rfl (hb hby d10_23) _ ?_
    refine XS.astore X14.here hx rfl (hb hby d10_24) rfl rfl (l' := #[.val (.ref u), .val (.ref op14), .val (.ref va2), .val (.int (3 : Int32)), .val (.int (2 : Int32)), .val (.ref v_DATABASE)]) rfl ?_
    refine XS.aload X14.here hx rfl (hb hby d10_26) rfl rfl ?_
    show Steps p.tables e below (T14.setTop (mkF m 28 #[.val (.ref u), .val (.ref op14), .val (.ref va2), .val (.int (3 : Int32)), .val (.int (2 : Int32)), .val (.ref v_DATABASE)] [(.ref v_DATABASE)])) _
    refine st17 _ ?_
    refine XS.aloadN X17.here hx rfl (hb hby d10_31) rfl rfl ?_
    refine st18.trans ?_
    refine XS.ifYes X18.here hx rfl (pc0 := 35) (pc' := 44) rfl (hb hby d10_35) rfl ((if0 _ _).trans (teq hd19).1) (by decide) (by decide) ?_
    show Steps p.tables e below (T18.setTop (mkF m 44 #[.val (.ref u), .val (.ref op14), .val (.ref va2), .val (.int (3 : Int32)), .val (.int (2 : Int32)), .val (.ref v_DATABASE)] [])) _
    refine XS.iinc X18.here hx rfl (hb hby d10_44) rfl (l' := #[.val (.ref u), .val (.ref op14), .val (.ref va2), .val (.int (3 : Int32)), .val (.int ((2 : Int32) + (1 : Int32))), .val (.ref v_DATABASE)]) rfl ?_
    show Steps p.tables e below (T18.setTop (mkF m 47 #[.val (.ref u), .val (.ref op14), .val (.ref va2), .val (.int (3 : Int32)), .val (.int ((2 : Int32) + (1 : Int32))), .val (.ref v_DATABASE)] [])) _
    rw [(by decide : ((2 : Int32) + (1 : Int32)) = (3 : Int32))]
    show Steps p.tables e below (T18.setTop (mkF m 47 #[.val (.ref u), .val (.ref op14), .val (.ref va2), .val (.int (3 : Int32)), .val (.int (3 : Int32)), .val (.ref v_DATABASE)] [])) _
    refine XS.goto X18.here hx rfl (pc0 := 47) (pc' := 14) rfl (hb hby d10_47) (by decide) (by decide) ?_
    refine XS.iload X18.here hx rfl (hb hby d10_14) rfl ?_
    refine XS.iloadN X18.here hx rfl (hb hby d10_16) rfl ?_
    refine XS.icmpYes X18.here hx rfl (pc0 := 17) (pc' := 50) rfl (hb hby d10_17) rfl (flt hd20).2.1 (by decide) (by decide) ?_
    show Steps p.tables e below (T18.setTop (mkF m 50 #[.val (.ref u), .val (.ref op14), .val (.ref va2), .val (.int (3 : Int32)), .val (.int (3 : Int32)), .val (.ref v_DATABASE)] [])) _
    refine XS.aloadN X18.here hx rfl (hb hby d10_50) rfl rfl ?_
    show Steps p.tables e below (T18.setTop (mkF m 51 #[.val (.ref u), .val (.ref op14), .val (.ref va2), .val (.int (3 : Int32)), .val (.int (3 : Int32)), .val (.ref v_DATABASE)] [(.ref op14)])) _
    exact kt
  obtain ⟨fs, hr, hrun, hended, hW, hsame⟩ := X18.leave (v := some (.ref op14)) (fun h => by rw [Bd.returns] at h; cases h)
  refine ⟨_, _, k21 _ ?_, hrun, hended, _, _, rfl, ?_, ⟨_, rfl⟩, hW, hsame.mono (by decide) (by decide)⟩
  · exact own_retA X18 hx Bd.returns rfl (hb hby d10_51) hr
  · show QNm Z (.ref v_CSV) h0 n0 _ T18.heap _
    rw [e18]
    exact ⟨N18, KP14, op14, rfl, E14o, Fv14⟩
theorem ef_rmNamedDATABASE (m : MethodId) (u : Addr) : entryFrame m #[(.ref u)] 6 = mkF m 0 #[.val (.ref u), .unset, .unset, .unset, .unset, .unset] [] := by first | (simp [entryFrame, mkF, argsToLocals, Value.category]; done) | rfl
set_option maxRecDepth 65536 in
set_option maxHeartbeats 40000000 in
theorem rmNamedDATABASE (l : Launch) (Z : State) (a0 : Array Value) (hw : ∀ d ∈ tables_1, d.before a0 Z = true) (ws : List Jvm.Cond) (u : Addr) (cs : List Int32) (tx : Addr) (kx : ClassId) (N2 : Int32) (vs : List Value) (cz : Int32) (v_EMPTY vv : Addr) (kv : ClassId) (v_NONE n_NONE t_NONE : Addr) (k_NONE : ClassId) (v_CSV n_CSV t_CSV : Addr) (k_CSV : ClassId) (v_DATABASE n_DATABASE t_DATABASE : Addr) (k_DATABASE : ClassId) (h0 : Heap) (n0 : Nat) (Z0 : n0 ≤ h0.size) (hWd : World Z h0 cz v_EMPTY vv kv v_NONE n_NONE t_NONE k_NONE v_CSV n_CSV t_CSV k_CSV v_DATABASE n_DATABASE t_DATABASE k_DATABASE) (hcz : ¬ cz = 0) (E_u : Exa Z h0 u "java/lang/String") (V_u : Fld Z h0 u "java/lang/String" "value" "[B" (.ref tx)) (C_u : Fld Z h0 u "java/lang/String" "coder" "B" (.int (0 : Int32))) (K_u : Arv Z h0 tx kx .byte N2 vs (.int (0 : Int32))) (hcd : StrChars.Road.CodA cs 0 N2 vs) (hbd : ∀ c ∈ cs, ¬ c < 0 ∧ ¬ (65535 : Int32) < c) (hl2 : cs.length ≤ 4000) (q_NONE : ¬ tNone = cs) (q_CSV : ¬ tCsv = cs) (q_DATABASE : tData = cs) :
    MetFree l (⟨"com/example/lifetable/lifetable/output/ExportFormat", "named", "(Ljava/lang/String;)Ljava/util/Optional;"⟩ : MethodName) (head1 (Jvm.Cond.code (⟨"com/example/lifetable/lifetable/output/ExportFormat", "named", "(Ljava/lang/String;)Ljava/util/Optional;"⟩ : MethodName) prog_26_method_4_code 6 (some (.object "java/util/Optional")) :: ws) ({ frames := 3, cells := 2, slots := 4, locals := 38 } : Room)) (fun a_ U_ => a_ = #[(.ref u)] ∧ Z.Warmed39 U_.vm ∧ U_.heap = h0) (fun _ _ _ _ _ => True) (fun _ U_ o_ U'_ => ∃ v_ L_, o_ = .returned v_ ∧ QNm Z (.ref v_DATABASE) h0 n0 v_ U'_.heap L_ ∧ FrameEnd U_ o_ U'_ L_ ({ frames := 3, cells := 2, slots := 4, locals := 38 } : Room).cells ({ frames := 3, cells := 2, slots := 4, locals := 38 } : Room).slots) := by
  refine MetFree.of_bodySF (plainFor_of_name pn_10) hisR ?_
  intro p e s m args below meth c s₁ Bd hml0 hP hK
  obtain ⟨rfl, hZ, hh⟩ := hP
  have hx := Bd.exec
  have hby := Bd.bytes
  have hml : c.maxLocals = 6 := hml0
  have hown : s.vm.findClass "com/example/lifetable/lifetable/output/ExportFormat" = some m.cls := findClass_of_methodNamed Bd.named
  have hnm := (name_of_methodNamed Bd.named Bd.method).1
  have X0 : Stand p l e ({ frames := 3, cells := 2, slots := 4, locals := 38 } : Room) s m #[(.ref u)] below meth c s₁ [] 0 0 := Stand.of_body Bd
  have e0 : s₁.heap = h0 := by rw [← hh, Bd.state]; rfl
  have N0 := Fr.nil n0
  have k0 : ∀ tg, Steps p.tables e below (s₁.setTop (mkF m 0 #[.val (.ref u), .unset, .unset, .unset, .unset, .unset] [])) tg → Steps p.tables e below (s₁.setTop (entryFrame m #[(.ref u)] 6)) tg := fun tg kq_ => castTop (ef_rmNamedDATABASE m u) kq_
  have hweq : ∀ d ∈ StrChars.Road.wordsEq, d.before a0 Z = true := fun d hd => hw d ((by decide +kernel : ∀ d ∈ StrChars.Road.wordsEq, d ∈ tables_1) d hd)
  obtain ⟨_, _, ⟨T1, L1, k1, n1⟩, -, X1, ⟨Lc1, hQ1, l1, y1, z1⟩, st1⟩ := Jvm.LawKit.callS X0 hx (y := (⟨"java/util/Optional", "empty", "()Ljava/util/Optional;"⟩ : MethodName)) hown (mvT hZ (ww hw 54 rfl)) (mvT hZ (ww hw 55 rfl)) (mvT hZ (ww hw 56 rfl)) (mvT hZ (ww hw 57 rfl)) (by decide) (backOf (W := 0) (rmEmpty l Z a0 hw []  cz v_EMPTY vv kv v_NONE n_NONE t_NONE k_NONE v_CSV n_CSV t_CSV k_CSV v_DATABASE n_DATABASE t_DATABASE k_DATABASE h0 n0 (hWd.ext (own_extK (Keep.refl h0 [])))) hZ (ww hw 57 rfl) (ww hw 56 rfl) (by decide) (by decide)) (g := (mkF m 0 #[.val (.ref u), .unset, .unset, .unset, .unset, .unset] [])) rfl (by rw [hml]; rfl) (argsL := []) (rest := []) (lenOf pd_4 rfl) rfl (by show 2 * 0 + _ ≤ _; exact Nat.le_of_eq rfl) (hb hby d10_0) (fun _ _ => ⟨rfl, e0, (by decide : 0 + 0 ≤ _), (by decide : 0 + 0 ≤ _)⟩)
  dsimp only [Pt.U, Pt.locs, Pt.cells, Pt.slots] at X1 l1 y1 z1 st1 hQ1
  subst l1 y1 z1
  obtain ⟨rfl, N1q, e1⟩ := hQ1
  have N1 := Fr.app N0 N1q
  obtain ⟨_, _, ⟨T2, L2, k2, n2⟩, -, X2, ⟨Lc2, hQ2, l2, y2, z2⟩, st2⟩ := Jvm.LawKit.callS X1 hx (y := (⟨"com/example/lifetable/lifetable/output/ExportFormat", "values", "()[Lcom/example/lifetable/lifetable/output/ExportFormat;"⟩ : MethodName)) hown (mvT hZ (ww hw 59 rfl)) (mvT hZ (ww hw 60 rfl)) (mvT hZ (ww hw 52 rfl)) (mvT hZ (ww hw 61 rfl)) (by decide) (backOf (W := 0) (rmValues l Z a0 hw []  cz v_EMPTY vv kv v_NONE n_NONE t_NONE k_NONE v_CSV n_CSV t_CSV k_CSV v_DATABASE n_DATABASE t_DATABASE k_DATABASE h0 n0 Z0 (hWd.ext (own_extK (Keep.refl h0 [])))) hZ (ww hw 61 rfl) (ww hw 52 rfl) (by decide) (by decide)) (g := (mkF m 4 #[.val (.ref u), .val (.ref v_EMPTY), .unset, .unset, .unset, .unset] [])) rfl (by rw [hml]; rfl) (argsL := []) (rest := []) (lenOf pd_5 rfl) rfl (by show 2 * 0 + _ ≤ _; exact Nat.le_of_eq rfl) (hb hby d10_4) (fun _ _ => ⟨rfl, e1, (by decide : 0 + 1 ≤ _), (by decide : 0 + 3 ≤ _)⟩)
  dsimp only [Pt.U, Pt.locs, Pt.cells, Pt.slots] at X2 l2 y2 z2 st2 hQ2
  subst l2 y2 z2
  obtain ⟨N2q, K2, va2, rfl, le2, V2b⟩ := hQ2
  have N2 := Fr.app N1 N2q
  have ne_u_va2 : u ≠ va2 := Nat.ne_of_lt (Nat.lt_of_lt_of_le E_u.lt le2)
  have ne_tx_va2 : tx ≠ va2 := Nat.ne_of_lt (Nat.lt_of_lt_of_le K_u.lt le2)
  have g_va2 : n0 ≤ va2 := Nat.le_trans Z0 le2
  have sz_va2 : h0.size ≤ va2 := Nat.le_trans (Keep.refl h0 []).1 le2
  have E2_u := E_u.keep K2
  have F2_u_value := V_u.keep K2 nin0
  have F2_u_coder := C_u.keep K2 nin0
  have V2_tx := K_u.keep K2 nin0
  have Z2 := Nat.le_trans Z0 K2.1
  have KP2 := (Keep.refl h0 []).trans K2 all0
  obtain ⟨cl9_3, Ar9_3, q9_3, S9_3, N9_3_, H9_3, G9_3⟩ := id V2b
  have hd4 : (0 : Int32) < (3 : Int32) := by decide
  obtain ⟨cl23_5, Ar23_5, q23_5, S23_5, N23_5_, H23_5, G23_5⟩ := id V2b
  have hin23_5 : ¬ ((0 : Int32) < 0 ∨ cl23_5.slots.size ≤ ((0 : Int32)).toNatClampNeg) := inb_of S23_5 ⟨by decide, by decide⟩
  have hat23_5 : cl23_5.slots[((0 : Int32)).toNatClampNeg]? = some (.ref v_NONE) := H23_5.at hin23_5 rfl
  obtain ⟨T6, X6, e6, st6⟩ := getF X2 hx hZ hown (host := "") (Or.inl (ww hw 77 rfl)) Via.refl rfl ((hWd.ext (own_extK KP2)).2.2.2.2.2.2.2.2.2.1) (g := (mkF m 28 #[.val (.ref u), .val (.ref v_EMPTY), .val (.ref va2), .val (.int (3 : Int32)), .val (.int (0 : Int32)), .val (.ref v_NONE)] [(.ref v_NONE)])) rfl rfl (hb hby d10_28)
  obtain ⟨cq7, kq7, q7a, q7b, q7c⟩ := isOf hZ e6 ((hWd.ext (own_extK KP2)).2.2.2.2.2.2.2.2.2.2.1)
  obtain ⟨_, _, ⟨T7, L7, k7, n7⟩, -, X7, ⟨Lc7, hQ7, l7, y7, z7⟩, st7⟩ := X6.virtualBack hx (y := (⟨"java/lang/String", "equals", "(Ljava/lang/Object;)Z"⟩ : MethodName)) (z := (⟨"java/lang/String", "equals", "(Ljava/lang/Object;)Z"⟩ : MethodName)) hown (mvT hZ (ww hw 79 rfl)) (mvT hZ (ww hw 39 rfl)) (notFace_of_selects (args := #[]) (mvT hZ (ww hw 41 rfl))) (mvT hZ (ww hw 41 rfl)) (mvT hZ (ww hw 40 rfl)) (by decide) (StrChars.Road.eqW (W := 0) hZ hweq (kI := 4) (ww hw 7 rfl) ((hWd.ext (own_extK KP2)).2.2.2.2.2.2.2.2.2.2.1) ((hWd.ext (own_extK KP2)).2.2.2.2.2.2.2.2.2.2.2.2.1) ((hWd.ext (own_extK KP2)).2.2.2.2.2.2.2.2.2.2.2.1) ((hWd.ext (own_extK KP2)).2.2.2.2.2.2.2.2.2.2.2.2.2.1) own_cNone own_bNone (Nat.le_of_ble_eq_true rfl) E2_u F2_u_value F2_u_coder V2_tx hcd hbd hl2 ((hWd.ext (own_extK KP2)).1) hcz (by decide) (by decide)) q7a q7c (g := (mkF m 32 #[.val (.ref u), .val (.ref v_EMPTY), .val (.ref va2), .val (.int (3 : Int32)), .val (.int (0 : Int32)), .val (.ref v_NONE)] [(.ref u), (.ref n_NONE)])) rfl (by rw [hml]; rfl) (Steps.refl _) (argsL := [(.ref u)]) (rest := []) (lenOf pd_6 rfl) rfl (by show 2 * 0 + _ ≤ _; exact Nat.le_of_eq rfl) (hb hby d10_32) (fun _ _ => ⟨rfl, e6, (by decide : 1 + 0 ≤ _), (by decide : 3 + 0 ≤ _)⟩)
  dsimp only [Pt.U, Pt.locs, Pt.cells, Pt.slots] at X7 l7 y7 z7 st7 hQ7
  subst l7 y7 z7
  obtain ⟨hv7, rfl, e7⟩ := hQ7
  obtain rfl := own_eq0 hv7 q_NONE
  have N7 := Fr.app N2 (Fr.nil n0)
  have hd8 : (0 : Int32) = (0 : Int32) := rfl
  have hd9 : (1 : Int32) < (3 : Int32) := by decide
  obtain ⟨cl23_10, Ar23_10, q23_10, S23_10, N23_10_, H23_10, G23_10⟩ := id V2b
  have hin23_10 : ¬ ((1 : Int32) < 0 ∨ cl23_10.slots.size ≤ ((1 : Int32)).toNatClampNeg) := inb_of S23_10 ⟨by decide, by decide⟩
  have hat23_10 : cl23_10.slots[((1 : Int32)).toNatClampNeg]? = some (.ref v_CSV) := H23_10.at hin23_10 rfl
  obtain ⟨T11, X11, e11, st11⟩ := getF X7 hx hZ hown (host := "") (Or.inl (ww hw 77 rfl)) Via.refl e7 ((hWd.ext (own_extK KP2)).2.2.2.2.2.2.2.2.2.2.2.2.2.2.2.2.1) (g := (mkF m 28 #[.val (.ref u), .val (.ref v_EMPTY), .val (.ref va2), .val (.int (3 : Int32)), .val (.int (1 : Int32)), .val (.ref v_CSV)] [(.ref v_CSV)])) rfl rfl (hb hby d10_28)
  obtain ⟨cq12, kq12, q12a, q12b, q12c⟩ := isOf hZ e11 ((hWd.ext (own_extK KP2)).2.2.2.2.2.2.2.2.2.2.2.2.2.2.2.2.2.1)
  obtain ⟨_, _, ⟨T12, L12, k12, n12⟩, -, X12, ⟨Lc12, hQ12, l12, y12, z12⟩, st12⟩ := X11.virtualBack hx (y := (⟨"java/lang/String", "equals", "(Ljava/lang/Object;)Z"⟩ : MethodName)) (z := (⟨"java/lang/String", "equals", "(Ljava/lang/Object;)Z"⟩ : MethodName)) hown (mvT hZ (ww hw 79 rfl)) (mvT hZ (ww hw 39 rfl)) (notFace_of_selects (args := #[]) (mvT hZ (ww hw 41 rfl))) (mvT hZ (ww hw 41 rfl)) (mvT hZ (ww hw 40 rfl)) (by decide) (StrChars.Road.eqW (W := 0) hZ hweq (kI := 4) (ww hw 7 rfl) ((hWd.ext (own_extK KP2)).2.2.2.2.2.2.2.2.2.2.2.2.2.2.2.2.2.1) ((hWd.ext (own_extK KP2)).2.2.2.2.2.2.2.2.2.2.2.2.2.2.2.2.2.2.2.1) ((hWd.ext (own_extK KP2)).2.2.2.2.2.2.2.2.2.2.2.2.2.2.2.2.2.2.1) ((hWd.ext (own_extK KP2)).2.2.2.2.2.2.2.2.2.2.2.2.2.2.2.2.2.2.2.2.1) own_cCsv own_bCsv (Nat.le_of_ble_eq_true rfl) E2_u F2_u_value F2_u_coder V2_tx hcd hbd hl2 ((hWd.ext (own_extK KP2)).1) hcz (by decide) (by decide)) q12a q12c (g := (mkF m 32 #[.val (.ref u), .val (.ref v_EMPTY), .val (.ref va2), .val (.int (3 : Int32)), .val (.int (1 : Int32)), .val (.ref v_CSV)] [(.ref u), (.ref n_CSV)])) rfl (by rw [hml]; rfl) (Steps.refl _) (argsL := [(.ref u)]) (rest := []) (lenOf pd_6 rfl) rfl (by show 2 * 0 + _ ≤ _; exact Nat.le_of_eq rfl) (hb hby d10_32) (fun _ _ => ⟨rfl, e11, (by decide : 1 + 0 ≤ _), (by decide : 3 + 0 ≤ _)⟩)
  dsimp only [Pt.U, Pt.locs, Pt.cells, Pt.slots] at X12 l12 y12 z12 st12 hQ12
  subst l12 y12 z12
  obtain ⟨hv12, rfl, e12⟩ := hQ12
  obtain rfl := own_eq0 hv12 q_CSV
  have N12 := Fr.app N7 (Fr.nil n0)
  have hd13 : (0 : Int32) = (0 : Int32) := rfl
  have hd14 : (2 : Int32) < (3 : Int32) := by decide
  obtain ⟨cl23_15, Ar23_15, q23_15, S23_15, N23_15_, H23_15, G23_15⟩ := id V2b
  have hin23_15 : ¬ ((2 : Int32) < 0 ∨ cl23_15.slots.size ≤ ((2 : Int32)).toNatClampNeg) := inb_of S23_15 ⟨by decide, by decide⟩
  have hat23_15 : cl23_15.slots[((2 : Int32)).toNatClampNeg]? = some (.ref v_DATABASE) := H23_15.at hin23_15 rfl
  obtain ⟨T16, X16, e16, st16⟩ := getF X12 hx hZ hown (host := "") (Or.inl (ww hw 77 rfl)) Via.refl e12 ((hWd.ext (own_extK KP2)).2.2.2.2.2.2.2.2.2.2.2.2.2.2.2.2.2.2.2.2.2.2.2.1) (g := (mkF m 28 #[.val (.ref u), .val (.ref v_EMPTY), .val (.ref va2), .val (.int (3 : Int32)), .val (.int (2 : Int32)), .val (.ref v_DATABASE)] [(.ref v_DATABASE)])) rfl rfl (hb hby d10_28)
  obtain ⟨cq17, kq17, q17a, q17b, q17c⟩ := isOf hZ e16 ((hWd.ext (own_extK KP2)).2.2.2.2.2.2.2.2.2.2.2.2.2.2.2.2.2.2.2.2.2.2.2.2.1)
  obtain ⟨_, _, ⟨T17, L17, k17, n17⟩, -, X17, ⟨Lc17, hQ17, l17, y17, z17⟩, st17⟩ := X16.virtualBack hx (y := (⟨"java/lang/String", "equals", "(Ljava/lang/Object;)Z"⟩ : MethodName)) (z := (⟨"java/lang/String", "equals", "(Ljava/lang/Object;)Z"⟩ : MethodName)) hown (mvT hZ (ww hw 79 rfl)) (mvT hZ (ww hw 39 rfl)) (notFace_of_selects (args := #[]) (mvT hZ (ww hw 41 rfl))) (mvT hZ (ww hw 41 rfl)) (mvT hZ (ww hw 40 rfl)) (by decide) (StrChars.Road.eqW (W := 0) hZ hweq (kI := 4) (ww hw 7 rfl) ((hWd.ext (own_extK KP2)).2.2.2.2.2.2.2.2.2.2.2.2.2.2.2.2.2.2.2.2.2.2.2.2.1) ((hWd.ext (own_extK KP2)).2.2.2.2.2.2.2.2.2.2.2.2.2.2.2.2.2.2.2.2.2.2.2.2.2.2.1) ((hWd.ext (own_extK KP2)).2.2.2.2.2.2.2.2.2.2.2.2.2.2.2.2.2.2.2.2.2.2.2.2.2.1) ((hWd.ext (own_extK KP2)).2.2.2.2.2.2.2.2.2.2.2.2.2.2.2.2.2.2.2.2.2.2.2.2.2.2.2) own_cData own_bData (Nat.le_of_ble_eq_true rfl) E2_u F2_u_value F2_u_coder V2_tx hcd hbd hl2 ((hWd.ext (own_extK KP2)).1) hcz (by decide) (by decide)) q17a q17c (g := (mkF m 32 #[.val (.ref u), .val (.ref v_EMPTY), .val (.ref va2), .val (.int (3 : Int32)), .val (.int (2 : Int32)), .val (.ref v_DATABASE)] [(.ref u), (.ref n_DATABASE)])) rfl (by rw [hml]; rfl) (Steps.refl _) (argsL := [(.ref u)]) (rest := []) (lenOf pd_6 rfl) rfl (by show 2 * 0 + _ ≤ _; exact Nat.le_of_eq rfl) (hb hby d10_32) (fun _ _ => ⟨rfl, e16, (by decide : 1 + 0 ≤ _), (by decide : 3 + 0 ≤ _)⟩)
  dsimp only [Pt.U, Pt.locs, Pt.cells, Pt.slots] at X17 l17 y17 z17 st17 hQ17
  subst l17 y17 z17
  obtain ⟨hv17, rfl, e17⟩ := hQ17
  obtain rfl := own_eq1 hv17 q_DATABASE
  have N17 := Fr.app N12 (Fr.nil n0)
  have hd18 : ¬ ((1 : Int32) = (0 : Int32)) := by decide
  obtain ⟨_, _, ⟨T19, L19, k19, n19⟩, -, X19, ⟨Lc19, hQ19, l19, y19, z19⟩, st19⟩ := Jvm.LawKit.callS X17 hx (y := (⟨"java/util/Optional", "of", "(Ljava/lang/Object;)Ljava/util/Optional;"⟩ : MethodName)) hown (mvT hZ (ww hw 88 rfl)) (mvT hZ (ww hw 89 rfl)) (mvT hZ (ww hw 56 rfl)) (mvT hZ (ww hw 90 rfl)) (by decide) (backOf (W := 0) (rmOOf l Z a0 hw [] v_DATABASE  T2.heap n0 Z2) hZ (ww hw 90 rfl) (ww hw 56 rfl) (by decide) (by decide)) (g := (mkF m 40 #[.val (.ref u), .val (.ref v_EMPTY), .val (.ref va2), .val (.int (3 : Int32)), .val (.int (2 : Int32)), .val (.ref v_DATABASE)] [(.ref v_DATABASE)])) rfl (by rw [hml]; rfl) (argsL := [(.ref v_DATABASE)]) (rest := []) (lenOf pd_7 rfl) rfl (by show 2 * 0 + _ ≤ _; exact Nat.le_of_eq rfl) (hb hby d10_40) (fun _ _ => ⟨rfl, e17, (by decide : 1 + 1 ≤ _), (by decide : 3 + 1 ≤ _)⟩)
  dsimp only [Pt.U, Pt.locs, Pt.cells, Pt.slots] at X19 l19 y19 z19 st19 hQ19
  subst l19 y19 z19
  obtain ⟨N19q, K19, op19, rfl, le19, E19o, Fv19⟩ := hQ19
  have N19 := Fr.app N17 N19q
  have ne_u_op19 : u ≠ op19 := Nat.ne_of_lt (Nat.lt_of_lt_of_le E2_u.lt le19)
  have ne_tx_op19 : tx ≠ op19 := Nat.ne_of_lt (Nat.lt_of_lt_of_le V2_tx.lt le19)
  have ne_va2_op19 : va2 ≠ op19 := Nat.ne_of_lt (Nat.lt_of_lt_of_le V2b.lt le19)
  have g_op19 : n0 ≤ op19 := Nat.le_trans Z2 le19
  have sz_op19 : h0.size ≤ op19 := Nat.le_trans KP2.1 le19
  have E19_u := E2_u.keep K19
  have F19_u_value := F2_u_value.keep K19 nin0
  have F19_u_coder := F2_u_coder.keep K19 nin0
  have V19_tx := V2_tx.keep K19 nin0
  have V19_va2 := V2b.keep K19 nin0
  have Z19 := Nat.le_trans Z2 K19.1
  have KP19 := KP2.trans K19 all0
  have hd20 : ¬ ((3 : Int32) < (3 : Int32)) := by decide
  have k21 : ∀ tg, Steps p.tables e below (T19.setTop (mkF m 51 #[.val (.ref u), .val (.ref op19), .val (.ref va2), .val (.int (3 : Int32)), .val (.int (3 : Int32)), .val (.ref v_DATABASE)] [(.ref op19)])) tg → Steps p.tables e below (s₁.setTop (entryFrame m #[(.ref u)] 6)) tg := by
    intro tg kt
    refine k0 tg ?_
    show Steps p.tables e below (s₁.setTop (mkF m 0 #[.val (.ref u), .unset, .unset, .unset, .unset, .unset] [])) _
    refine st1 _ ?_
    refine XS.astoreN X1.here hx rfl (hb hby d10_3) rfl rfl (l' := #[.val (.ref u), .val (.ref v_EMPTY), .unset, .unset, .unset, .unset]) rfl ?_
    refine st2 _ ?_
    show Steps p.tables e below (T2.setTop (mkF m 7 #[.val (.ref u), .val (.ref v_EMPTY), .unset, .unset, .unset, .unset] [(.ref va2)])) _
    refine XS.astoreN X2.here hx rfl (hb hby d10_7) rfl rfl (l' := #[.val (.ref u), .val (.ref v_EMPTY), .val (.ref va2), .unset, .unset, .unset]) rfl ?_
    refine XS.aloadN X2.here hx rfl (hb hby d10_8) rfl rfl ?_
    refine X2.arraylength hx (by exact Ar9_3.1) (State.isArrayOf_alike hZ.alike Ar9_3.2.1) (g := (mkF m 9 #[.val (.ref u), .val (.ref v_EMPTY), .val (.ref va2), .unset, .unset, .unset] [(.ref va2)])) rfl rfl (hb hby d10_9) _ ?_
    rw [len_of S9_3 N9_3_]
    show Steps p.tables e below (T2.setTop (mkF m 10 #[.val (.ref u), .val (.ref v_EMPTY), .val (.ref va2), .unset, .unset, .unset] [(.int (3 : Int32))])) _
    refine XS.istoreN X2.here hx rfl (hb hby d10_10) rfl (l' := #[.val (.ref u), .val (.ref v_EMPTY), .val (.ref va2), .val (.int (3 : Int32)), .unset, .unset]) rfl ?_
    refine XS.iconst X2.here hx rfl (hb hby d10_11) ?_
    refine XS.istore X2.here hx rfl (hb hby d10_12) rfl (l' := #[.val (.ref u), .val (.ref v_EMPTY), .val (.ref va2), .val (.int (3 : Int32)), .val (.int (0 : Int32)), .unset]) rfl ?_
    refine XS.iload X2.here hx rfl (hb hby d10_14) rfl ?_
    refine XS.iloadN X2.here hx rfl (hb hby d10_16) rfl ?_
    show Steps p.tables e below (T2.setTop (mkF m 17 #[.val (.ref u), .val (.ref v_EMPTY), .val (.ref va2), .val (.int (3 : Int32)), .val (.int (0 : Int32)), .unset] [(.int (3 : Int32)), (.int (0 : Int32))])) _
    refine XS.icmpNo X2.here hx rfl (hb hby d10_17) rfl (tlt hd4).2.1 ?_
    refine XS.aloadN X2.here hx rfl (hb hby d10_20) rfl rfl ?_
    refine XS.iload X2.here hx rfl (hb hby d10_21) rfl ?_
    refine X2.aaload hx (j := (0 : Int32)) (v := (.ref v_NONE)) (by exact Ar23_5.1) (State.isArrayOf_alike hZ.alike Ar23_5.2.1) rfl Ar23_5.2.2 hin23_5 hat23_5 (g := (mkF m 23 #[.val (.ref u), .val (.ref v_EMPTY), .val (.ref va2), .val (.int (3 : Int32)), .val (.int (0 : Int32)), .unset] [(.int (0 : Int32)), (.ref va2)])) rfl rfl (hb hby d10_23) _ ?_
    show Steps p.tables e below (T2.setTop (mkF m 24 #[.val (.ref u), .val (.ref v_EMPTY), .val (.ref va2), .val (.int (3 : Int32)), .val (.int (0 : Int32)), .unset] [(.ref v_NONE)])) _
    refine XS.astore X2.here hx rfl (hb hby d10_24) rfl rfl (l' := #[.val (.ref u), .val (.ref v_EMPTY), .val (.ref va2), .val (.int (3 : Int32)), .val (.int (0 : Int32)), .val (.ref v_NONE)]) rfl ?_
    refine XS.aload X2.here hx rfl (hb hby d10_26) rfl rfl ?_
    refine st6 _ ?_
    refine XS.aloadN X6.here hx rfl (hb hby d10_31) rfl rfl ?_
    show Steps p.tables e below (T6.setTop (mkF m 32 #[.val (.ref u), .val (.ref v_EMPTY), .val (.ref va2), .val (.int (3 : Int32)), .val (.int (0 : Int32)), .val (.ref v_NONE)] [(.ref u), (.ref n_NONE)])) _
    refine st7.trans ?_
    refine XS.ifYes X7.here hx rfl (pc0 := 35) (pc' := 44) rfl (hb hby d10_35) rfl ((if0 _ _).trans (teq hd8).1) (by decide) (by decide) ?_
    refine XS.iinc X7.here hx rfl (hb hby d10_44) rfl (l' := #[.val (.ref u), .val (.ref v_EMPTY), .val (.ref va2), .val (.int (3 : Int32)), .val (.int ((0 : Int32) + (1 : Int32))), .val (.ref v_NONE)]) rfl ?_
    show Steps p.tables e below (T7.setTop (mkF m 47 #[.val (.ref u), .val (.ref v_EMPTY), .val (.ref va2), .val (.int (3 : Int32)), .val (.int ((0 : Int32) + (1 : Int32))), .val (.ref v_NONE)] [])) _
    rw [(by decide : ((0 : Int32) + (1 : Int32)) = (1 : Int32))]
    show Steps p.tables e below (T7.setTop (mkF m 47 #[.val (.ref u), .val (.ref v_EMPTY), .val (.ref va2), .val (.int (3 : Int32)), .val (.int (1 : Int32)), .val (.ref v_NONE)] [])) _
    refine XS.goto X7.here hx rfl (pc0 := 47) (pc' := 14) rfl (hb hby d10_47) (by decide) (by decide) ?_
    refine XS.iload X7.here hx rfl (hb hby d10_14) rfl ?_
    refine XS.iloadN X7.here hx rfl (hb hby d10_16) rfl ?_
    refine XS.icmpNo X7.here hx rfl (hb hby d10_17) rfl (tlt hd9).2.1 ?_
    show Steps p.tables e below (T7.setTop (mkF m 20 #[.val (.ref u), .val (.ref v_EMPTY), .val (.ref va2), .val (.int (3 : Int32)), .val (.int (1 : Int32)), .val (.ref v_NONE)] [])) _
    refine XS.aloadN X7.here hx rfl (hb hby d10_20) rfl rfl ?_
    refine XS.iload X7.here hx rfl (hb hby d10_21) rfl ?_
    refine X7.aaload hx (j := (1 : Int32)) (v := (.ref v_CSV)) (by rw [e7]; exact Ar23_10.1) (State.isArrayOf_alike hZ.alike Ar23_10.2.1) rfl Ar23_10.2.2 hin23_10 hat23_10 (g := (mkF m 23 #[.val (.ref u), .val (.ref v_EMPTY), .val (.ref va2), .val (.int (3 : Int32)), .val (.int (1 : Int32)), .val (.ref v_NONE)] [(.int (1 : Int32)), (.ref va2)])) rfl rfl (hb hby d10_23) _ ?_
    refine XS.astore X7.here hx rfl (hb hby d10_24) rfl rfl (l' := #[.val (.ref u), .val (.ref v_EMPTY), .val (.ref va2), .val (.int (3 : Int32)), .val (.int (1 : Int32)), .val (.ref v_CSV)]) rfl ?_
    refine XS.aload X7.here hx rfl (hb hby d10_26) rfl rfl ?_
    show Steps p.tables e below (T7.setTop (mkF m 28 #[.val (.ref u), .val (.ref v_EMPTY), .val (.ref va2), .val (.int (3 : Int32)), .val (.int (1 : Int32)), .val (.ref v_CSV)] [(.ref v_CSV)])) _
    refine st11 _ ?_
    refine XS.aloadN X11.here hx rfl (hb hby d10_31) rfl rfl ?_
    refine st12.trans ?_
    refine XS.ifYes X12.here hx rfl (pc0 := 35) (pc' := 44) rfl (hb hby d10_35) rfl ((if0 _ _).trans (teq hd13).1) (by decide) (by decide) ?_
    show Steps p.tables e below (T12.setTop (mkF m 44 #[.val (.ref u), .val (.ref v_EMPTY), .val (.ref va2), .val (.int (3 : Int32)), .val (.int (1 : Int32)), .val (.ref v_CSV)] [])) _
    refine XS.iinc X12.here hx rfl (hb hby d10_44) rfl (l' := #[.val (.ref u), .val (.ref v_EMPTY), .val (.ref va2), .val (.int (3 : Int32)), .val (.int ((1 : Int32) + (1 : Int32))), .val (.ref v_CSV)]) rfl ?_
    show Steps p.tables e below (T12.setTop (mkF m 47 #[.val (.ref u), .val (.ref v_EMPTY), .val (.ref va2), .val (.int (3 : Int32)), .val (.int ((1 : Int32) + (1 : Int32))), .val (.ref v_CSV)] [])) _
    rw [(by decide : ((1 : Int32) + (1 : Int32)) = (2 : Int32))]
    show Steps p.tables e below (T12.setTop (mkF m 47 #[.val (.ref u), .val (.ref v_EMPTY), .val (.ref va2), .val (.int (3 : Int32)), .val (.int (2 : Int32)), .val (.ref v_CSV)] [])) _
    refine XS.goto X12.here hx rfl (pc0 := 47) (pc' := 14) rfl (hb hby d10_47) (by decide) (by decide) ?_
    refine XS.iload X12.here hx rfl (hb hby d10_14) rfl ?_
    refine XS.iloadN X12.here hx rfl (hb hby d10_16) rfl ?_
    refine XS.icmpNo X12.here hx rfl (hb hby d10_17) rfl (tlt hd14).2.1 ?_
    show Steps p.tables e below (T12.setTop (mkF m 20 #[.val (.ref u), .val (.ref v_EMPTY), .val (.ref va2), .val (.int (3 : Int32)), .val (.int (2 : Int32)), .val (.ref v_CSV)] [])) _
    refine XS.aloadN X12.here hx rfl (hb hby d10_20) rfl rfl ?_
    refine XS.iload X12.here hx rfl (hb hby d10_21) rfl ?_
    refine X12.aaload hx (j := (2 : Int32)) (v := (.ref v_DATABASE)) (by rw [e12]; exact Ar23_15.1) (State.isArrayOf_alike hZ.alike Ar23_15.2.1) rfl Ar23_15.2.2 hin23_15 hat23_15 (g := (mkF m 23 #[.val (.ref u), .val (.ref v_EMPTY), .val (.ref va2), .val (.int (3 : Int32)), .val (.int (2 : Int32)), .val (.ref v_CSV)] [(.int (2 : Int32)), (.ref va2)])) rfl rfl (hb hby d10_23) _ ?_
    refine XS.astore X12.here hx rfl (hb hby d10_24) rfl rfl (l' := #[.val (.ref u), .val (.ref v_EMPTY), .val (.ref va2), .val (.int (3 : Int32)), .val (.int (2 : Int32)), .val (.ref v_DATABASE)]) rfl ?_
    refine XS.aload X12.here hx rfl (hb hby d10_26) rfl rfl ?_
    show Steps p.tables e below (T12.setTop (mkF m 28 #[.val (.ref u), .val (.ref v_EMPTY), .val (.ref va2), .val (.int (3 : Int32)), .val (.int (2 : Int32)), .val (.ref v_DATABASE)] [(.ref v_DATABASE)])) _
    refine st16 _ ?_
    refine XS.aloadN X16.here hx rfl (hb hby d10_31) rfl rfl ?_
    refine st17.trans ?_
    refine XS.ifNo X17.here hx rfl (hb hby d10_35) rfl ((if0 _ _).trans (feq hd18).1) ?_
    show Steps p.tables e below (T17.setTop (mkF m 38 #[.val (.ref u), .val (.ref v_EMPTY), .val (.ref va2), .val (.int (3 : Int32)), .val (.int (2 : Int32)), .val (.ref v_DATABASE)] [])) _
    refine XS.aload X17.here hx rfl (hb hby d10_38) rfl rfl ?_
    refine st19 _ ?_
    refine XS.astoreN X19.here hx rfl (hb hby d10_43) rfl rfl (l' := #[.val (.ref u), .val (.ref op19), .val (.ref va2), .val (.int (3 : Int32)), .val (.int (2 : Int32)), .val (.ref v_DATABASE)]) rfl ?_
    refine XS.iinc X19.here hx rfl (hb hby d10_44) rfl (l' := #[.val (.ref u), .val (.ref op19), .val (.ref va2), .val (.int (3 : Int32)), .val (.int ((2 : Int32) + (1 : Int32))), .val (.ref v_DATABASE)]) rfl ?_
    show Steps p.tables e below (T19.setTop (mkF m 47 #[.val (.ref u), .val (.ref op19), .val (.ref va2), .val (.int (3 : Int32)), .val (.int ((2 : Int32) + (1 : Int32))), .val (.ref v_DATABASE)] [])) _
    rw [(by decide : ((2 : Int32) + (1 : Int32)) = (3 : Int32))]
    show Steps p.tables e below (T19.setTop (mkF m 47 #[.val (.ref u), .val (.ref op19), .val (.ref va2), .val (.int (3 : Int32)), .val (.int (3 : Int32)), .val (.ref v_DATABASE)] [])) _
    refine XS.goto X19.here hx rfl (pc0 := 47) (pc' := 14) rfl (hb hby d10_47) (by decide) (by decide) ?_
    refine XS.iload X19.here hx rfl (hb hby d10_14) rfl ?_
    refine XS.iloadN X19.here hx rfl (hb hby d10_16) rfl ?_
    refine XS.icmpYes X19.here hx rfl (pc0 := 17) (pc' := 50) rfl (hb hby d10_17) rfl (flt hd20).2.1 (by decide) (by decide) ?_
    show Steps p.tables e below (T19.setTop (mkF m 50 #[.val (.ref u), .val (.ref op19), .val (.ref va2), .val (.int (3 : Int32)), .val (.int (3 : Int32)), .val (.ref v_DATABASE)] [])) _
    refine XS.aloadN X19.here hx rfl (hb hby d10_50) rfl rfl ?_
    show Steps p.tables e below (T19.setTop (mkF m 51 #[.val (.ref u), .val (.ref op19), .val (.ref va2), .val (.int (3 : Int32)), .val (.int (3 : Int32)), .val (.ref v_DATABASE)] [(.ref op19)])) _
    exact kt
  obtain ⟨fs, hr, hrun, hended, hW, hsame⟩ := X19.leave (v := some (.ref op19)) (fun h => by rw [Bd.returns] at h; cases h)
  refine ⟨_, _, k21 _ ?_, hrun, hended, _, _, rfl, ?_, ⟨_, rfl⟩, hW, hsame.mono (by decide) (by decide)⟩
  · exact own_retA X19 hx Bd.returns rfl (hb hby d10_51) hr
  · show QNm Z (.ref v_DATABASE) h0 n0 _ T19.heap _
    exact ⟨N19, KP19, op19, rfl, E19o, Fv19⟩
abbrev fL (q0 q1 q2 q3 q4 q5 : Int32) (l6 l7 l8 l9 l10 l11 : Slot) : Array Slot := #[.val (.int q0), .val (.int q1), .val (.int q2), .val (.int q3), .val (.int q4), .val (.int q5), l6, l7, l8, l9, l10, l11]
theorem pd_8 : parseMethodDescriptor "([CI)Ljava/lang/String;" = some ⟨[(.array .char), .int], some (.object "java/lang/String")⟩ := by decide +kernel
theorem pd_9 : parseMethodDescriptor "(Ljava/lang/String;)Ljava/util/Optional;" = some ⟨[(.object "java/lang/String")], some (.object "java/util/Optional")⟩ := by decide +kernel
set_option maxRecDepth 65536 in
set_option maxHeartbeats 40000000 in
theorem tail_0 (l : Launch) (Z : State) (a0 : Array Value) (hw : ∀ d ∈ tables_1, d.before a0 Z = true) {p : Program} {e : Env} {s : State} {m : MethodId} {below : List Frame} {meth : Method} {c : Code} {s₁ T0 : State} {locs0 : List Loc} (mode lo hi len pos ch : Int32) (w9 : Slot) (b : Addr) (kc : ClassId) (sg0 sg1 sg2 sg3 sg4 sg5 sg6 sg7 : Int32) (cz : Int32) (v_EMPTY vv : Addr) (kv : ClassId) (v_NONE n_NONE t_NONE : Addr) (k_NONE : ClassId) (v_CSV n_CSV t_CSV : Addr) (k_CSV : ClassId) (v_DATABASE n_DATABASE t_DATABASE : Addr) (k_DATABASE : ClassId) (h0 : Heap) (n0 : Nat) (Z0 : n0 ≤ h0.size)
    (hx : p.tables.exec = Jvm.exec) (hby : c.code = code) (hml : c.maxLocals = 12) (hbr : meth.sig.returnType = ret) (hlk : meth.locks = false) (hZ : Z.Warmed39 (s.setVm s.vm).vm) (hown : (s.setVm s.vm).vm.findClass "com/example/lifetable/lifetable/output/ExportFormatNamedPinLaw" = some m.cls) (X0 : Stand p l e room_1 (s.setVm s.vm) m #[(.int mode), (.int lo), (.int hi), (.int len), (.int pos), (.int ch)] below meth c T0 locs0 (0 + 1) (0 + 8)) (e0 : T0.heap = h0) (N0 : Fr n0 locs0) (hS : s.Since s.vm s.heap.size) (HK0 : s.heap.size ≤ h0.size) (hCH : CHv Z ELs s.vm h0)
    (hWd : World Z h0 cz v_EMPTY vv kv v_NONE n_NONE t_NONE k_NONE v_CSV n_CSV t_CSV k_CSV v_DATABASE n_DATABASE t_DATABASE k_DATABASE) (hcz : ¬ cz = 0) (Vb : Arv Z h0 b kc .char (8 : Int32) [(.int sg0), (.int sg1), (.int sg2), (.int sg3), (.int sg4), (.int sg5), (.int sg6), (.int sg7)] (.int (0 : Int32))) (ok0 : ok sg0) (ok1 : ok sg1) (ok2 : ok sg2) (ok3 : ok sg3) (ok4 : ok sg4) (ok5 : ok sg5) (ok6 : ok sg6) (ok7 : ok sg7) (h9 : ∀ y : Addr, storeLocals #[.val (.int mode), .val (.int lo), .val (.int hi), .val (.int len), .val (.int pos), .val (.int ch), .val (.int (mode &&& (3 : Int32))), .val (.ref b), .val (.int (0 : Int32)), w9, .unset, .unset] 9 (.ref y) = some #[.val (.int mode), .val (.int lo), .val (.int hi), .val (.int len), .val (.int pos), .val (.int ch), .val (.int (mode &&& (3 : Int32))), .val (.ref b), .val (.int (0 : Int32)), .val (.ref y), .unset, .unset]) (k0 : ∀ tg, Steps p.tables e below (T0.setTop (mkF m 336 (fL mode lo hi len pos ch (.val (.int (mode &&& (3 : Int32)))) (.val (.ref b)) (.val (.int (0 : Int32))) w9 .unset .unset) [])) tg → Steps p.tables e below (s₁.setTop (entryFrame m #[(.int mode), (.int lo), (.int hi), (.int len), (.int pos), (.int ch)] maxLocals)) tg) :
    ∃ s₂ o_, Steps p.tables e below (s₁.setTop (entryFrame m #[(.int mode), (.int lo), (.int hi), (.int len), (.int pos), (.int ch)] maxLocals)) s₂ ∧ s₂.status = .running ∧ Ended s₂ below o_ ∧ ∃ v_ L_, o_ = .returned v_ ∧ QL n0 v_ s₂.heap L_ ∧ ReturnedEndW s o_ s₂ L_ room_1.cells room_1.slots := by
  have CH0 : CHr Z ELs s.vm h0 s.vm h0 := CHr.refl hCH
  have hEW := own_EW hw
  have hweq : ∀ d ∈ StrChars.Road.wordsEq, d.before a0 Z = true := fun d hd => hw d ((by decide +kernel : ∀ d ∈ StrChars.Road.wordsEq, d ∈ tables_1) d hd)
  have hp : ∀ c ∈ ([] : List Int32), ¬ c < 0 ∧ ¬ (255 : Int32) < c := by
    intro c hc
    simp only [List.mem_cons, List.not_mem_nil, or_false] at hc
  have hcd : StrChars.Road.CodA ([] : List Int32) 0 (Int32.ofNat ([] : List Int32).length) ((([] : List Int32).map fun c => c.toInt8.toInt32).map Value.int) := StrChars.Road.codOf (n := 0) rfl (fun c hc => (hp c hc).2)
  have hbd := own_up _ hp
  have k2 : ∀ tg, Steps p.tables e below (T0.setTop (mkF m 340 (fL mode lo hi len pos ch (.val (.int (mode &&& (3 : Int32)))) (.val (.ref b)) (.val (.int (0 : Int32))) w9 .unset .unset) [(.int (0 : Int32)), (.ref b)])) tg → Steps p.tables e below (s₁.setTop (entryFrame m #[(.int mode), (.int lo), (.int hi), (.int len), (.int pos), (.int ch)] maxLocals)) tg := by
    intro tg kt
    refine k0 tg ?_
    show Steps p.tables e below (T0.setTop (mkF m 336 (fL mode lo hi len pos ch (.val (.int (mode &&& (3 : Int32)))) (.val (.ref b)) (.val (.int (0 : Int32))) w9 .unset .unset) [])) _
    refine XS.aload X0.here hx rfl (hb hby at_336) rfl rfl ?_
    refine XS.iload X0.here hx rfl (hb hby at_338) rfl ?_
    show Steps p.tables e below (T0.setTop (mkF m 340 (fL mode lo hi len pos ch (.val (.int (mode &&& (3 : Int32)))) (.val (.ref b)) (.val (.int (0 : Int32))) w9 .unset .unset) [(.int (0 : Int32)), (.ref b)])) _
    exact kt
  obtain ⟨_, _, ⟨T1, L1, k1, n1⟩, -, X1, S21, gr1, ⟨Lc1, hQ1, l1, y1, z1, CQ1⟩, st1⟩ := callSS X0 hx (y := (⟨"com/example/lifetable/lifetable/output/ExportFormatNamedPinLaw", "str", "([CI)Ljava/lang/String;"⟩ : MethodName)) hown (mvT hZ (ww hw 2 rfl)) (mvT hZ (ww hw 3 rfl)) (mvT hZ (ww hw 4 rfl)) (mvT hZ (ww hw 5 rfl)) (by decide) (backOfSH (W := 0) (rmStr0 l Z a0 hw [] b  h0 n0 Z0) hZ (ww hw 5 rfl) (ww hw 4 rfl) (by decide) (by decide) hEW CH0.1) (g := (mkF m 340 (fL mode lo hi len pos ch (.val (.int (mode &&& (3 : Int32)))) (.val (.ref b)) (.val (.int (0 : Int32))) w9 .unset .unset) [(.int (0 : Int32)), (.ref b)])) rfl (by rw [hml]; rfl) (argsL := [(.ref b), (.int (0 : Int32))]) (rest := []) (lenOf pd_8 rfl) rfl (by show 2 * 0 + _ ≤ _; exact Nat.le_of_eq rfl) (hb hby at_340) (fun _ _ => ⟨rfl, e0, (by decide : 1 + 6 ≤ _), (by decide : 8 + 12 ≤ _)⟩)
  dsimp only [Pt.U, Pt.locs, Pt.cells, Pt.slots] at X1 l1 y1 z1 st1 hQ1 S21 gr1 CQ1
  subst l1 y1 z1
  obtain ⟨X1, hS, hZ, hown⟩ := rebS hS (own_hk e0 HK0) X1 S21 gr1 hZ hown
  have CH1 := CH0.trans CQ1
  obtain ⟨N1q, K1, sx, bt1, kb1, rfl, le1, E1x, C1x, F1x, V1x⟩ := hQ1
  have N1 := Fr.app N0 N1q
  have ne_b_sx : b ≠ sx := Nat.ne_of_lt (Nat.lt_of_lt_of_le Vb.lt le1)
  have g_sx : n0 ≤ sx := Nat.le_trans Z0 le1
  have sz_sx : h0.size ≤ sx := Nat.le_trans (Keep.refl h0 []).1 le1
  have Z1 := Nat.le_trans Z0 K1.1
  have KP1 := (Keep.refl h0 []).trans K1 all0
  have k3 : ∀ tg, Steps p.tables e below (T1.setTop (mkF m 350 (fL mode lo hi len pos ch (.val (.int (mode &&& (3 : Int32)))) (.val (.ref b)) (.val (.int (0 : Int32))) (.val (.ref sx)) (.val .null) .unset) [(.ref sx)])) tg → Steps p.tables e below (s₁.setTop (entryFrame m #[(.int mode), (.int lo), (.int hi), (.int len), (.int pos), (.int ch)] maxLocals)) tg := by
    intro tg kt
    refine k2 tg ?_
    refine st1.trans ?_
    refine XS.astore X1.here hx rfl (hb hby at_343) rfl rfl (l' := (fL mode lo hi len pos ch (.val (.int (mode &&& (3 : Int32)))) (.val (.ref b)) (.val (.int (0 : Int32))) (.val (.ref sx)) .unset .unset)) (h9 _) ?_
    refine XS.aconstNull X1.here hx rfl (hb hby at_345) ?_
    refine XS.astore X1.here hx rfl (hb hby at_346) rfl rfl (l' := (fL mode lo hi len pos ch (.val (.int (mode &&& (3 : Int32)))) (.val (.ref b)) (.val (.int (0 : Int32))) (.val (.ref sx)) (.val .null) .unset)) rfl ?_
    refine XS.aload X1.here hx rfl (hb hby at_348) rfl rfl ?_
    show Steps p.tables e below (T1.setTop (mkF m 350 (fL mode lo hi len pos ch (.val (.int (mode &&& (3 : Int32)))) (.val (.ref b)) (.val (.int (0 : Int32))) (.val (.ref sx)) (.val .null) .unset) [(.ref sx)])) _
    exact kt
  obtain ⟨lt4, T4, h4, kk4, bb4, kb4, X4, e4, E4, hS, HQ4, hZ, hown, Ex4, Fc4, Fv4, Va4, la4, lb4, CQ4, -, saf4, st4⟩ := ldcCH X1 hx hZ hown (ww hw 35 rfl) (own_wS hw) rfl hS (Nat.le_refl _) hEW (by decide) CH1.1 (vs := [(.int (110 : Int32)), (.int (111 : Int32)), (.int (110 : Int32)), (.int (101 : Int32))]) (z := (4 : Int32)) ⟨by decide, by decide⟩ (by decide) (by decide) (g := (mkF m 350 (fL mode lo hi len pos ch (.val (.int (mode &&& (3 : Int32)))) (.val (.ref b)) (.val (.int (0 : Int32))) (.val (.ref sx)) (.val .null) .unset) [(.ref sx)])) rfl (hb hby at_350) (n := 16) (by decide +kernel) (by decide) (by decide) (by decide)
  have CH4 := CH1.trans CQ4
  have HK4 := Nat.le_trans (Nat.le_refl _) E4.1
  have E4_sx := E1x.ext E4
  have F4_sx_coder := C1x.ext E4
  have F4_sx_value := F1x.ext E4
  have V4_bt1 := V1x.ext E4
  have Z4 := Nat.le_trans Z1 E4.1
  have KP4 := KP1.ext E4
  obtain ⟨cq5, kq5, q5a, q5b, q5c⟩ := isOf hZ e4 E4_sx
  obtain ⟨_, _, ⟨T5, L5, k5, n5⟩, -, X5, ⟨Lc5, hQ5, l5, y5, z5⟩, st5⟩ := X4.virtualBack hx (y := (⟨"java/lang/String", "equals", "(Ljava/lang/Object;)Z"⟩ : MethodName)) (z := (⟨"java/lang/String", "equals", "(Ljava/lang/Object;)Z"⟩ : MethodName)) hown (mvT hZ (ww hw 38 rfl)) (mvT hZ (ww hw 39 rfl)) (notFace_of_selects (args := #[]) (mvT hZ (ww hw 41 rfl))) (mvT hZ (ww hw 41 rfl)) (mvT hZ (ww hw 40 rfl)) (by decide) (StrChars.Road.eqW (W := 0) hZ hweq (kI := 4) (ww hw 7 rfl) E4_sx F4_sx_value F4_sx_coder V4_bt1 hcd hbd (Nat.le_of_ble_eq_true rfl) Ex4 Fv4 Fc4 Va4 own_cNone own_bNone (Nat.le_of_ble_eq_true rfl) ((hWd.ext (own_extK KP4)).1) hcz (by decide) (by decide)) q5a q5c (g := (mkF m 352 (fL mode lo hi len pos ch (.val (.int (mode &&& (3 : Int32)))) (.val (.ref b)) (.val (.int (0 : Int32))) (.val (.ref sx)) (.val .null) .unset) [(.ref lt4), (.ref sx)])) rfl (by rw [hml]; rfl) (Steps.refl _) (argsL := [(.ref lt4)]) (rest := []) (lenOf pd_6 rfl) rfl (by show 2 * 0 + _ ≤ _; exact Nat.le_of_eq rfl) (hb hby at_352) (fun _ _ => ⟨rfl, e4, (by decide : 9 + 0 ≤ _), (by decide : 40 + 0 ≤ _)⟩)
  dsimp only [Pt.U, Pt.locs, Pt.cells, Pt.slots] at X5 l5 y5 z5 st5 hQ5
  subst l5 y5 z5
  obtain ⟨hv5, rfl, e5⟩ := hQ5
  obtain rfl := own_eq0 hv5 (by simp [tNone])
  have N5 := Fr.app N1 (Fr.nil n0)
  have hd6 : (0 : Int32) = (0 : Int32) := rfl
  have k7 : ∀ tg, Steps p.tables e below (T5.setTop (mkF m 368 (fL mode lo hi len pos ch (.val (.int (mode &&& (3 : Int32)))) (.val (.ref b)) (.val (.int (0 : Int32))) (.val (.ref sx)) (.val .null) .unset) [(.ref sx)])) tg → Steps p.tables e below (s₁.setTop (entryFrame m #[(.int mode), (.int lo), (.int hi), (.int len), (.int pos), (.int ch)] maxLocals)) tg := by
    intro tg kt
    refine k3 tg ?_
    refine st4 _ ?_
    refine st5.trans ?_
    refine XS.ifYes X5.here hx rfl (pc0 := 355) (pc' := 366) rfl (hb hby at_355) rfl ((if0 _ _).trans (teq hd6).1) (by decide) (by decide) ?_
    refine XS.aload X5.here hx rfl (hb hby at_366) rfl rfl ?_
    exact kt
  obtain ⟨lt8, T8, h8, kk8, bb8, kb8, X8, e8, E8, hS, HQ8, hZ, hown, Ex8, Fc8, Fv8, Va8, la8, lb8, CQ8, -, saf8, st8⟩ := ldcCH X5 hx hZ hown (ww hw 48 rfl) (own_wS hw) e5 hS HQ4 hEW (by decide) CH4.1 (vs := [(.int (99 : Int32)), (.int (115 : Int32)), (.int (118 : Int32))]) (z := (3 : Int32)) ⟨by decide, by decide⟩ (by decide) (by decide) (g := (mkF m 368 (fL mode lo hi len pos ch (.val (.int (mode &&& (3 : Int32)))) (.val (.ref b)) (.val (.int (0 : Int32))) (.val (.ref sx)) (.val .null) .unset) [(.ref sx)])) rfl (hb hby at_368) (n := 12) (by decide +kernel) (by decide) (by decide) (by decide)
  have CH8 := CH4.trans CQ8
  have HK8 := Nat.le_trans HQ4 E8.1
  have E8_sx := E4_sx.ext E8
  have F8_sx_coder := F4_sx_coder.ext E8
  have F8_sx_value := F4_sx_value.ext E8
  have V8_bt1 := V4_bt1.ext E8
  have E8_lt4 := Ex4.ext E8
  have F8_lt4_coder := Fc4.ext E8
  have F8_lt4_value := Fv4.ext E8
  have V8_bb4 := Va4.ext E8
  have Z8 := Nat.le_trans Z4 E8.1
  have KP8 := KP4.ext E8
  obtain ⟨cq9, kq9, q9a, q9b, q9c⟩ := isOf hZ e8 E8_sx
  obtain ⟨_, _, ⟨T9, L9, k9, n9⟩, -, X9, ⟨Lc9, hQ9, l9, y9, z9⟩, st9⟩ := X8.virtualBack hx (y := (⟨"java/lang/String", "equals", "(Ljava/lang/Object;)Z"⟩ : MethodName)) (z := (⟨"java/lang/String", "equals", "(Ljava/lang/Object;)Z"⟩ : MethodName)) hown (mvT hZ (ww hw 38 rfl)) (mvT hZ (ww hw 39 rfl)) (notFace_of_selects (args := #[]) (mvT hZ (ww hw 41 rfl))) (mvT hZ (ww hw 41 rfl)) (mvT hZ (ww hw 40 rfl)) (by decide) (StrChars.Road.eqW (W := 0) hZ hweq (kI := 4) (ww hw 7 rfl) E8_sx F8_sx_value F8_sx_coder V8_bt1 hcd hbd (Nat.le_of_ble_eq_true rfl) Ex8 Fv8 Fc8 Va8 own_cCsv own_bCsv (Nat.le_of_ble_eq_true rfl) ((hWd.ext (own_extK KP8)).1) hcz (by decide) (by decide)) q9a q9c (g := (mkF m 370 (fL mode lo hi len pos ch (.val (.int (mode &&& (3 : Int32)))) (.val (.ref b)) (.val (.int (0 : Int32))) (.val (.ref sx)) (.val .null) .unset) [(.ref lt8), (.ref sx)])) rfl (by rw [hml]; rfl) (Steps.refl _) (argsL := [(.ref lt8)]) (rest := []) (lenOf pd_6 rfl) rfl (by show 2 * 0 + _ ≤ _; exact Nat.le_of_eq rfl) (hb hby at_370) (fun _ _ => ⟨rfl, e8, (by decide : 11 + 0 ≤ _), (by decide : 56 + 0 ≤ _)⟩)
  dsimp only [Pt.U, Pt.locs, Pt.cells, Pt.slots] at X9 l9 y9 z9 st9 hQ9
  subst l9 y9 z9
  obtain ⟨hv9, rfl, e9⟩ := hQ9
  obtain rfl := own_eq0 hv9 (by simp [tCsv])
  have N9 := Fr.app N5 (Fr.nil n0)
  have hd10 : (0 : Int32) = (0 : Int32) := rfl
  have k11 : ∀ tg, Steps p.tables e below (T9.setTop (mkF m 386 (fL mode lo hi len pos ch (.val (.int (mode &&& (3 : Int32)))) (.val (.ref b)) (.val (.int (0 : Int32))) (.val (.ref sx)) (.val .null) .unset) [(.ref sx)])) tg → Steps p.tables e below (s₁.setTop (entryFrame m #[(.int mode), (.int lo), (.int hi), (.int len), (.int pos), (.int ch)] maxLocals)) tg := by
    intro tg kt
    refine k7 tg ?_
    refine st8 _ ?_
    refine st9.trans ?_
    refine XS.ifYes X9.here hx rfl (pc0 := 373) (pc' := 384) rfl (hb hby at_373) rfl ((if0 _ _).trans (teq hd10).1) (by decide) (by decide) ?_
    refine XS.aload X9.here hx rfl (hb hby at_384) rfl rfl ?_
    exact kt
  obtain ⟨lt12, T12, h12, kk12, bb12, kb12, X12, e12, E12, hS, HQ12, hZ, hown, Ex12, Fc12, Fv12, Va12, la12, lb12, CQ12, -, saf12, st12⟩ := ldcCH X9 hx hZ hown (ww hw 49 rfl) (own_wS hw) e9 hS HQ8 hEW (by decide) CH8.1 (vs := [(.int (100 : Int32)), (.int (97 : Int32)), (.int (116 : Int32)), (.int (97 : Int32)), (.int (98 : Int32)), (.int (97 : Int32)), (.int (115 : Int32)), (.int (101 : Int32))]) (z := (8 : Int32)) ⟨by decide, by decide⟩ (by decide) (by decide) (g := (mkF m 386 (fL mode lo hi len pos ch (.val (.int (mode &&& (3 : Int32)))) (.val (.ref b)) (.val (.int (0 : Int32))) (.val (.ref sx)) (.val .null) .unset) [(.ref sx)])) rfl (hb hby at_386) (n := 32) (by decide +kernel) (by decide) (by decide) (by decide)
  have CH12 := CH8.trans CQ12
  have HK12 := Nat.le_trans HQ8 E12.1
  have E12_sx := E8_sx.ext E12
  have F12_sx_coder := F8_sx_coder.ext E12
  have F12_sx_value := F8_sx_value.ext E12
  have V12_bt1 := V8_bt1.ext E12
  have E12_lt4 := E8_lt4.ext E12
  have F12_lt4_coder := F8_lt4_coder.ext E12
  have F12_lt4_value := F8_lt4_value.ext E12
  have V12_bb4 := V8_bb4.ext E12
  have E12_lt8 := Ex8.ext E12
  have F12_lt8_coder := Fc8.ext E12
  have F12_lt8_value := Fv8.ext E12
  have V12_bb8 := Va8.ext E12
  have Z12 := Nat.le_trans Z8 E12.1
  have KP12 := KP8.ext E12
  obtain ⟨cq13, kq13, q13a, q13b, q13c⟩ := isOf hZ e12 E12_sx
  obtain ⟨_, _, ⟨T13, L13, k13, n13⟩, -, X13, ⟨Lc13, hQ13, l13, y13, z13⟩, st13⟩ := X12.virtualBack hx (y := (⟨"java/lang/String", "equals", "(Ljava/lang/Object;)Z"⟩ : MethodName)) (z := (⟨"java/lang/String", "equals", "(Ljava/lang/Object;)Z"⟩ : MethodName)) hown (mvT hZ (ww hw 38 rfl)) (mvT hZ (ww hw 39 rfl)) (notFace_of_selects (args := #[]) (mvT hZ (ww hw 41 rfl))) (mvT hZ (ww hw 41 rfl)) (mvT hZ (ww hw 40 rfl)) (by decide) (StrChars.Road.eqW (W := 0) hZ hweq (kI := 4) (ww hw 7 rfl) E12_sx F12_sx_value F12_sx_coder V12_bt1 hcd hbd (Nat.le_of_ble_eq_true rfl) Ex12 Fv12 Fc12 Va12 own_cData own_bData (Nat.le_of_ble_eq_true rfl) ((hWd.ext (own_extK KP12)).1) hcz (by decide) (by decide)) q13a q13c (g := (mkF m 388 (fL mode lo hi len pos ch (.val (.int (mode &&& (3 : Int32)))) (.val (.ref b)) (.val (.int (0 : Int32))) (.val (.ref sx)) (.val .null) .unset) [(.ref lt12), (.ref sx)])) rfl (by rw [hml]; rfl) (Steps.refl _) (argsL := [(.ref lt12)]) (rest := []) (lenOf pd_6 rfl) rfl (by show 2 * 0 + _ ≤ _; exact Nat.le_of_eq rfl) (hb hby at_388) (fun _ _ => ⟨rfl, e12, (by decide : 13 + 0 ≤ _), (by decide : 92 + 0 ≤ _)⟩)
  dsimp only [Pt.U, Pt.locs, Pt.cells, Pt.slots] at X13 l13 y13 z13 st13 hQ13
  subst l13 y13 z13
  obtain ⟨hv13, rfl, e13⟩ := hQ13
  obtain rfl := own_eq0 hv13 (by simp [tData])
  have N13 := Fr.app N9 (Fr.nil n0)
  have hd14 : (0 : Int32) = (0 : Int32) := rfl
  obtain ⟨_, _, ⟨T15, L15, k15, n15⟩, -, X15, ⟨Lc15, hQ15, l15, y15, z15⟩, st15⟩ := Jvm.LawKit.callS X13 hx (y := (⟨"com/example/lifetable/lifetable/output/ExportFormat", "named", "(Ljava/lang/String;)Ljava/util/Optional;"⟩ : MethodName)) hown (mvT hZ (ww hw 50 rfl)) (mvT hZ (ww hw 51 rfl)) (mvT hZ (ww hw 52 rfl)) (mvT hZ (ww hw 53 rfl)) (by decide) (backOf (W := 0) (rmNamed0 l Z a0 hw [] sx ([] : List Int32) bt1 kb1 (Int32.ofNat ([] : List Int32).length) ((([] : List Int32).map fun c => c.toInt8.toInt32).map Value.int) cz v_EMPTY vv kv v_NONE n_NONE t_NONE k_NONE v_CSV n_CSV t_CSV k_CSV v_DATABASE n_DATABASE t_DATABASE k_DATABASE h12 n0 Z12 (hWd.ext (own_extK KP12)) hcz E12_sx F12_sx_value F12_sx_coder V12_bt1 hcd hbd (Nat.le_of_ble_eq_true rfl) (by simp [tNone]) (by simp [tCsv]) (by simp [tData])) hZ (ww hw 53 rfl) (ww hw 52 rfl) (by decide) (by decide)) (g := (mkF m 401 (fL mode lo hi len pos ch (.val (.int (mode &&& (3 : Int32)))) (.val (.ref b)) (.val (.int (0 : Int32))) (.val (.ref sx)) (.val .null) .unset) [(.ref sx)])) rfl (by rw [hml]; rfl) (argsL := [(.ref sx)]) (rest := []) (lenOf pd_9 rfl) rfl (by show 2 * 0 + _ ≤ _; exact Nat.le_of_eq rfl) (hb hby at_401) (fun _ _ => ⟨rfl, e13, (by decide : 13 + 1 ≤ _), (by decide : 92 + 3 ≤ _)⟩)
  dsimp only [Pt.U, Pt.locs, Pt.cells, Pt.slots] at X15 l15 y15 z15 st15 hQ15
  subst l15 y15 z15
  obtain ⟨N15q, K15, on15, rfl, E15o, Fv15⟩ := hQ15
  have N15 := Fr.app N13 N15q
  have HK15 := Nat.le_trans HQ12 K15.1
  have CH15 := CH12.trans (CHr.keep K15 all0 CH12.1)
  have E15_sx := E12_sx.keep K15
  have F15_sx_coder := F12_sx_coder.keep K15 nin0
  have F15_sx_value := F12_sx_value.keep K15 nin0
  have V15_bt1 := V12_bt1.keep K15 nin0
  have E15_lt4 := E12_lt4.keep K15
  have F15_lt4_coder := F12_lt4_coder.keep K15 nin0
  have F15_lt4_value := F12_lt4_value.keep K15 nin0
  have V15_bb4 := V12_bb4.keep K15 nin0
  have E15_lt8 := E12_lt8.keep K15
  have F15_lt8_coder := F12_lt8_coder.keep K15 nin0
  have F15_lt8_value := F12_lt8_value.keep K15 nin0
  have V15_bb8 := V12_bb8.keep K15 nin0
  have E15_lt12 := Ex12.keep K15
  have F15_lt12_coder := Fc12.keep K15 nin0
  have F15_lt12_value := Fv12.keep K15 nin0
  have V15_bb12 := Va12.keep K15 nin0
  have Z15 := Nat.le_trans Z12 K15.1
  have KP15 := KP12.trans K15 all0
  obtain ⟨cq16, kq16, q16a, q16b, q16c⟩ := isOf hZ rfl E15o
  obtain ⟨_, _, ⟨T16, L16, k16, n16⟩, -, X16, ⟨Lc16, hQ16, l16, y16, z16⟩, st16⟩ := X15.virtualBack hx (y := (⟨"java/util/Optional", "orElse", "(Ljava/lang/Object;)Ljava/lang/Object;"⟩ : MethodName)) (z := (⟨"java/util/Optional", "orElse", "(Ljava/lang/Object;)Ljava/lang/Object;"⟩ : MethodName)) hown (mvT hZ (ww hw 80 rfl)) (mvT hZ (ww hw 81 rfl)) (notFace_of_selects (args := #[]) (mvT hZ (ww hw 83 rfl))) (mvT hZ (ww hw 83 rfl)) (mvT hZ (ww hw 82 rfl)) (by decide) (backOf (W := 0) (rmOr0 l Z a0 hw [] on15  T15.heap n0 Fv15) hZ (ww hw 84 rfl) (ww hw 56 rfl) (by decide) (by decide)) q16a q16c (g := (mkF m 405 (fL mode lo hi len pos ch (.val (.int (mode &&& (3 : Int32)))) (.val (.ref b)) (.val (.int (0 : Int32))) (.val (.ref sx)) (.val .null) .unset) [.null, (.ref on15)])) rfl (by rw [hml]; rfl) (Steps.refl _) (argsL := [.null]) (rest := []) (lenOf pd_2 rfl) rfl (by show 2 * 0 + _ ≤ _; exact Nat.le_of_eq rfl) (hb hby at_405) (fun _ _ => ⟨rfl, rfl, (by decide : 14 + 0 ≤ _), (by decide : 95 + 0 ≤ _)⟩)
  dsimp only [Pt.U, Pt.locs, Pt.cells, Pt.slots] at X16 l16 y16 z16 st16 hQ16
  subst l16 y16 z16
  obtain ⟨rfl, N16q, e16⟩ := hQ16
  have N16 := Fr.app N15 N16q
  have k17 : ∀ tg, Steps p.tables e below (T16.setTop (mkF m 425 (fL mode lo hi len pos ch (.val (.int (mode &&& (3 : Int32)))) (.val (.ref b)) (.val (.int (0 : Int32))) (.val (.ref sx)) (.val .null) (.val .null)) [(.int (1 : Int32))])) tg → Steps p.tables e below (s₁.setTop (entryFrame m #[(.int mode), (.int lo), (.int hi), (.int len), (.int pos), (.int ch)] maxLocals)) tg := by
    intro tg kt
    refine k11 tg ?_
    refine st12 _ ?_
    refine st13.trans ?_
    refine XS.ifYes X13.here hx rfl (pc0 := 391) (pc' := 399) rfl (hb hby at_391) rfl ((if0 _ _).trans (teq hd14).1) (by decide) (by decide) ?_
    refine XS.aload X13.here hx rfl (hb hby at_399) rfl rfl ?_
    show Steps p.tables e below (T13.setTop (mkF m 401 (fL mode lo hi len pos ch (.val (.int (mode &&& (3 : Int32)))) (.val (.ref b)) (.val (.int (0 : Int32))) (.val (.ref sx)) (.val .null) .unset) [(.ref sx)])) _
    refine st15 _ ?_
    refine XS.aconstNull X15.here hx rfl (hb hby at_404) ?_
    refine st16.trans ?_
    refine X16.checkcastNull hx (g := (mkF m 408 (fL mode lo hi len pos ch (.val (.int (mode &&& (3 : Int32)))) (.val (.ref b)) (.val (.int (0 : Int32))) (.val (.ref sx)) (.val .null) .unset) [.null])) rfl rfl (hb hby at_408) _ ?_
    show Steps p.tables e below (T16.setTop (mkF m 411 (fL mode lo hi len pos ch (.val (.int (mode &&& (3 : Int32)))) (.val (.ref b)) (.val (.int (0 : Int32))) (.val (.ref sx)) (.val .null) .unset) [.null])) _
    refine XS.astore X16.here hx rfl (hb hby at_411) rfl rfl (l' := (fL mode lo hi len pos ch (.val (.int (mode &&& (3 : Int32)))) (.val (.ref b)) (.val (.int (0 : Int32))) (.val (.ref sx)) (.val .null) (.val .null))) rfl ?_
    refine XS.aload X16.here hx rfl (hb hby at_413) rfl rfl ?_
    refine XS.aload X16.here hx rfl (hb hby at_415) rfl rfl ?_
    refine Jvm.RoadKit.acmp (g := (mkF m 417 (fL mode lo hi len pos ch (.val (.int (mode &&& (3 : Int32)))) (.val (.ref b)) (.val (.int (0 : Int32))) (.val (.ref sx)) (.val .null) (.val .null)) [.null, .null])) X16 hx rfl rfl rfl (pc0 := 417) (pc' := 420) (same := true) rfl (hb hby at_417) rfl (decide_eq_true rfl) (by decide) (by decide) ?_
    show Steps p.tables e below (T16.setTop (mkF m 420 (fL mode lo hi len pos ch (.val (.int (mode &&& (3 : Int32)))) (.val (.ref b)) (.val (.int (0 : Int32))) (.val (.ref sx)) (.val .null) (.val .null)) [])) _
    refine XS.iconst X16.here hx rfl (hb hby at_420) ?_
    refine XS.goto X16.here hx rfl (pc0 := 421) (pc' := 425) rfl (hb hby at_421) (by decide) (by decide) ?_
    show Steps p.tables e below (T16.setTop (mkF m 425 (fL mode lo hi len pos ch (.val (.int (mode &&& (3 : Int32)))) (.val (.ref b)) (.val (.int (0 : Int32))) (.val (.ref sx)) (.val .null) (.val .null)) [(.int (1 : Int32))])) _
    exact kt
  obtain ⟨fs, hr, hrun, hended, hRW⟩ := X16.leaveW hS (own_hk e16 HK15) (v := some (.int (1 : Int32))) (fun h => by rw [hbr] at h; cases h)
  refine ⟨_, _, k17 _ ?_, hrun, hended, _, _, rfl, ?_, hRW.1, hRW.2.1, hRW.2.2.1, hRW.2.2.2.mono (by decide) (by decide)⟩
  · exact retN X16 hx (t := .boolean) hbr (by simp) (hb hby at_425) hr
  · show QL n0 _ T16.heap _
    exact ⟨rfl, N16⟩
set_option maxRecDepth 65536 in
set_option maxHeartbeats 40000000 in
theorem tail_1 (l : Launch) (Z : State) (a0 : Array Value) (hw : ∀ d ∈ tables_1, d.before a0 Z = true) {p : Program} {e : Env} {s : State} {m : MethodId} {below : List Frame} {meth : Method} {c : Code} {s₁ T0 : State} {locs0 : List Loc} (mode lo hi len pos ch : Int32) (w9 : Slot) (b : Addr) (kc : ClassId) (sg0 sg1 sg2 sg3 sg4 sg5 sg6 sg7 : Int32) (cz : Int32) (v_EMPTY vv : Addr) (kv : ClassId) (v_NONE n_NONE t_NONE : Addr) (k_NONE : ClassId) (v_CSV n_CSV t_CSV : Addr) (k_CSV : ClassId) (v_DATABASE n_DATABASE t_DATABASE : Addr) (k_DATABASE : ClassId) (h0 : Heap) (n0 : Nat) (Z0 : n0 ≤ h0.size)
    (hx : p.tables.exec = Jvm.exec) (hby : c.code = code) (hml : c.maxLocals = 12) (hbr : meth.sig.returnType = ret) (hlk : meth.locks = false) (hZ : Z.Warmed39 (s.setVm s.vm).vm) (hown : (s.setVm s.vm).vm.findClass "com/example/lifetable/lifetable/output/ExportFormatNamedPinLaw" = some m.cls) (X0 : Stand p l e room_1 (s.setVm s.vm) m #[(.int mode), (.int lo), (.int hi), (.int len), (.int pos), (.int ch)] below meth c T0 locs0 (0 + 1) (0 + 8)) (e0 : T0.heap = h0) (N0 : Fr n0 locs0) (hS : s.Since s.vm s.heap.size) (HK0 : s.heap.size ≤ h0.size) (hCH : CHv Z ELs s.vm h0)
    (hWd : World Z h0 cz v_EMPTY vv kv v_NONE n_NONE t_NONE k_NONE v_CSV n_CSV t_CSV k_CSV v_DATABASE n_DATABASE t_DATABASE k_DATABASE) (hcz : ¬ cz = 0) (Vb : Arv Z h0 b kc .char (8 : Int32) [(.int sg0), (.int sg1), (.int sg2), (.int sg3), (.int sg4), (.int sg5), (.int sg6), (.int sg7)] (.int (0 : Int32))) (ok0 : ok sg0) (ok1 : ok sg1) (ok2 : ok sg2) (ok3 : ok sg3) (ok4 : ok sg4) (ok5 : ok sg5) (ok6 : ok sg6) (ok7 : ok sg7) (h9 : ∀ y : Addr, storeLocals #[.val (.int mode), .val (.int lo), .val (.int hi), .val (.int len), .val (.int pos), .val (.int ch), .val (.int (mode &&& (3 : Int32))), .val (.ref b), .val (.int (1 : Int32)), w9, .unset, .unset] 9 (.ref y) = some #[.val (.int mode), .val (.int lo), .val (.int hi), .val (.int len), .val (.int pos), .val (.int ch), .val (.int (mode &&& (3 : Int32))), .val (.ref b), .val (.int (1 : Int32)), .val (.ref y), .unset, .unset]) (k0 : ∀ tg, Steps p.tables e below (T0.setTop (mkF m 336 (fL mode lo hi len pos ch (.val (.int (mode &&& (3 : Int32)))) (.val (.ref b)) (.val (.int (1 : Int32))) w9 .unset .unset) [])) tg → Steps p.tables e below (s₁.setTop (entryFrame m #[(.int mode), (.int lo), (.int hi), (.int len), (.int pos), (.int ch)] maxLocals)) tg) :
    ∃ s₂ o_, Steps p.tables e below (s₁.setTop (entryFrame m #[(.int mode), (.int lo), (.int hi), (.int len), (.int pos), (.int ch)] maxLocals)) s₂ ∧ s₂.status = .running ∧ Ended s₂ below o_ ∧ ∃ v_ L_, o_ = .returned v_ ∧ QL n0 v_ s₂.heap L_ ∧ ReturnedEndW s o_ s₂ L_ room_1.cells room_1.slots := by
  have CH0 : CHr Z ELs s.vm h0 s.vm h0 := CHr.refl hCH
  have hEW := own_EW hw
  have hweq : ∀ d ∈ StrChars.Road.wordsEq, d.before a0 Z = true := fun d hd => hw d ((by decide +kernel : ∀ d ∈ StrChars.Road.wordsEq, d ∈ tables_1) d hd)
  have hp : ∀ c ∈ ([sg0] : List Int32), ¬ c < 0 ∧ ¬ (255 : Int32) < c := by
    intro c hc
    simp only [List.mem_cons, List.not_mem_nil, or_false] at hc
    subst hc; assumption
  have hcd : StrChars.Road.CodA ([sg0] : List Int32) 0 (Int32.ofNat ([sg0] : List Int32).length) ((([sg0] : List Int32).map fun c => c.toInt8.toInt32).map Value.int) := StrChars.Road.codOf (n := 1) rfl (fun c hc => (hp c hc).2)
  have hbd := own_up _ hp
  obtain ⟨_, _, ⟨T1, L1, k1, n1⟩, -, X1, ⟨Lc1, hQ1, l1, y1, z1⟩, st1⟩ := Jvm.LawKit.callS X0 hx (y := (⟨"com/example/lifetable/lifetable/output/ExportFormatNamedPinLaw", "str", "([CI)Ljava/lang/String;"⟩ : MethodName)) hown (mvT hZ (ww hw 2 rfl)) (mvT hZ (ww hw 3 rfl)) (mvT hZ (ww hw 4 rfl)) (mvT hZ (ww hw 5 rfl)) (by decide) (backOf (W := 0) (rmStr1 l Z a0 hw [] b kc cz sg0 sg1 sg2 sg3 sg4 sg5 sg6 sg7 h0 n0 Z0 Vb ok0 ok1 ok2 ok3 ok4 ok5 ok6 ok7 ((hWd.ext (own_extK (Keep.refl h0 []))).1) hcz) hZ (ww hw 5 rfl) (ww hw 4 rfl) (by decide) (by decide)) (g := (mkF m 340 (fL mode lo hi len pos ch (.val (.int (mode &&& (3 : Int32)))) (.val (.ref b)) (.val (.int (1 : Int32))) w9 .unset .unset) [(.int (1 : Int32)), (.ref b)])) rfl (by rw [hml]; rfl) (argsL := [(.ref b), (.int (1 : Int32))]) (rest := []) (lenOf pd_8 rfl) rfl (by show 2 * 0 + _ ≤ _; exact Nat.le_of_eq rfl) (hb hby at_340) (fun _ _ => ⟨rfl, e0, (by decide : 1 + 3 ≤ _), (by decide : 8 + 6 ≤ _)⟩)
  dsimp only [Pt.U, Pt.locs, Pt.cells, Pt.slots] at X1 l1 y1 z1 st1 hQ1
  subst l1 y1 z1
  obtain ⟨N1q, K1, sx, bt1, kb1, rfl, le1, E1x, C1x, F1x, V1x⟩ := hQ1
  have N1 := Fr.app N0 N1q
  have ne_b_sx : b ≠ sx := Nat.ne_of_lt (Nat.lt_of_lt_of_le Vb.lt le1)
  have g_sx : n0 ≤ sx := Nat.le_trans Z0 le1
  have sz_sx : h0.size ≤ sx := Nat.le_trans (Keep.refl h0 []).1 le1
  have HK1 := Nat.le_trans HK0 K1.1
  have CH1 := CH0.trans (CHr.keep K1 all0 CH0.1)
  have Z1 := Nat.le_trans Z0 K1.1
  have KP1 := (Keep.refl h0 []).trans K1 all0
  have k2 : ∀ tg, Steps p.tables e below (T1.setTop (mkF m 350 (fL mode lo hi len pos ch (.val (.int (mode &&& (3 : Int32)))) (.val (.ref b)) (.val (.int (1 : Int32))) (.val (.ref sx)) (.val .null) .unset) [(.ref sx)])) tg → Steps p.tables e below (s₁.setTop (entryFrame m #[(.int mode), (.int lo), (.int hi), (.int len), (.int pos), (.int ch)] maxLocals)) tg := by
    intro tg kt
    refine k0 tg ?_
    show Steps p.tables e below (T0.setTop (mkF m 336 (fL mode lo hi len pos ch (.val (.int (mode &&& (3 : Int32)))) (.val (.ref b)) (.val (.int (1 : Int32))) w9 .unset .unset) [])) _
    refine XS.aload X0.here hx rfl (hb hby at_336) rfl rfl ?_
    refine XS.iload X0.here hx rfl (hb hby at_338) rfl ?_
    refine st1 _ ?_
    show Steps p.tables e below (T1.setTop (mkF m 343 (fL mode lo hi len pos ch (.val (.int (mode &&& (3 : Int32)))) (.val (.ref b)) (.val (.int (1 : Int32))) w9 .unset .unset) [(.ref sx)])) _
    refine XS.astore X1.here hx rfl (hb hby at_343) rfl rfl (l' := (fL mode lo hi len pos ch (.val (.int (mode &&& (3 : Int32)))) (.val (.ref b)) (.val (.int (1 : Int32))) (.val (.ref sx)) .unset .unset)) (h9 _) ?_
    refine XS.aconstNull X1.here hx rfl (hb hby at_345) ?_
    refine XS.astore X1.here hx rfl (hb hby at_346) rfl rfl (l' := (fL mode lo hi len pos ch (.val (.int (mode &&& (3 : Int32)))) (.val (.ref b)) (.val (.int (1 : Int32))) (.val (.ref sx)) (.val .null) .unset)) rfl ?_
    refine XS.aload X1.here hx rfl (hb hby at_348) rfl rfl ?_
    show Steps p.tables e below (T1.setTop (mkF m 350 (fL mode lo hi len pos ch (.val (.int (mode &&& (3 : Int32)))) (.val (.ref b)) (.val (.int (1 : Int32))) (.val (.ref sx)) (.val .null) .unset) [(.ref sx)])) _
    exact kt
  obtain ⟨lt3, T3, h3, kk3, bb3, kb3, X3, e3, E3, hS, HQ3, hZ, hown, Ex3, Fc3, Fv3, Va3, la3, lb3, CQ3, -, saf3, st3⟩ := ldcCH X1 hx hZ hown (ww hw 35 rfl) (own_wS hw) rfl hS HK1 hEW (by decide) CH1.1 (vs := [(.int (110 : Int32)), (.int (111 : Int32)), (.int (110 : Int32)), (.int (101 : Int32))]) (z := (4 : Int32)) ⟨by decide, by decide⟩ (by decide) (by decide) (g := (mkF m 350 (fL mode lo hi len pos ch (.val (.int (mode &&& (3 : Int32)))) (.val (.ref b)) (.val (.int (1 : Int32))) (.val (.ref sx)) (.val .null) .unset) [(.ref sx)])) rfl (hb hby at_350) (n := 16) (by decide +kernel) (by decide) (by decide) (by decide)
  have CH3 := CH1.trans CQ3
  have HK3 := Nat.le_trans HK1 E3.1
  have E3_sx := E1x.ext E3
  have F3_sx_coder := C1x.ext E3
  have F3_sx_value := F1x.ext E3
  have V3_bt1 := V1x.ext E3
  have Z3 := Nat.le_trans Z1 E3.1
  have KP3 := KP1.ext E3
  obtain ⟨cq4, kq4, q4a, q4b, q4c⟩ := isOf hZ e3 E3_sx
  obtain ⟨_, _, ⟨T4, L4, k4, n4⟩, -, X4, ⟨Lc4, hQ4, l4, y4, z4⟩, st4⟩ := X3.virtualBack hx (y := (⟨"java/lang/String", "equals", "(Ljava/lang/Object;)Z"⟩ : MethodName)) (z := (⟨"java/lang/String", "equals", "(Ljava/lang/Object;)Z"⟩ : MethodName)) hown (mvT hZ (ww hw 38 rfl)) (mvT hZ (ww hw 39 rfl)) (notFace_of_selects (args := #[]) (mvT hZ (ww hw 41 rfl))) (mvT hZ (ww hw 41 rfl)) (mvT hZ (ww hw 40 rfl)) (by decide) (StrChars.Road.eqW (W := 0) hZ hweq (kI := 4) (ww hw 7 rfl) E3_sx F3_sx_value F3_sx_coder V3_bt1 hcd hbd (Nat.le_of_ble_eq_true rfl) Ex3 Fv3 Fc3 Va3 own_cNone own_bNone (Nat.le_of_ble_eq_true rfl) ((hWd.ext (own_extK KP3)).1) hcz (by decide) (by decide)) q4a q4c (g := (mkF m 352 (fL mode lo hi len pos ch (.val (.int (mode &&& (3 : Int32)))) (.val (.ref b)) (.val (.int (1 : Int32))) (.val (.ref sx)) (.val .null) .unset) [(.ref lt3), (.ref sx)])) rfl (by rw [hml]; rfl) (Steps.refl _) (argsL := [(.ref lt3)]) (rest := []) (lenOf pd_6 rfl) rfl (by show 2 * 0 + _ ≤ _; exact Nat.le_of_eq rfl) (hb hby at_352) (fun _ _ => ⟨rfl, e3, (by decide : 6 + 0 ≤ _), (by decide : 34 + 0 ≤ _)⟩)
  dsimp only [Pt.U, Pt.locs, Pt.cells, Pt.slots] at X4 l4 y4 z4 st4 hQ4
  subst l4 y4 z4
  obtain ⟨hv4, rfl, e4⟩ := hQ4
  obtain rfl := own_eq0 hv4 (by simp [tNone])
  have N4 := Fr.app N1 (Fr.nil n0)
  have hd5 : (0 : Int32) = (0 : Int32) := rfl
  have k6 : ∀ tg, Steps p.tables e below (T4.setTop (mkF m 368 (fL mode lo hi len pos ch (.val (.int (mode &&& (3 : Int32)))) (.val (.ref b)) (.val (.int (1 : Int32))) (.val (.ref sx)) (.val .null) .unset) [(.ref sx)])) tg → Steps p.tables e below (s₁.setTop (entryFrame m #[(.int mode), (.int lo), (.int hi), (.int len), (.int pos), (.int ch)] maxLocals)) tg := by
    intro tg kt
    refine k2 tg ?_
    refine st3 _ ?_
    refine st4.trans ?_
    refine XS.ifYes X4.here hx rfl (pc0 := 355) (pc' := 366) rfl (hb hby at_355) rfl ((if0 _ _).trans (teq hd5).1) (by decide) (by decide) ?_
    refine XS.aload X4.here hx rfl (hb hby at_366) rfl rfl ?_
    exact kt
  obtain ⟨lt7, T7, h7, kk7, bb7, kb7, X7, e7, E7, hS, HQ7, hZ, hown, Ex7, Fc7, Fv7, Va7, la7, lb7, CQ7, -, saf7, st7⟩ := ldcCH X4 hx hZ hown (ww hw 48 rfl) (own_wS hw) e4 hS HQ3 hEW (by decide) CH3.1 (vs := [(.int (99 : Int32)), (.int (115 : Int32)), (.int (118 : Int32))]) (z := (3 : Int32)) ⟨by decide, by decide⟩ (by decide) (by decide) (g := (mkF m 368 (fL mode lo hi len pos ch (.val (.int (mode &&& (3 : Int32)))) (.val (.ref b)) (.val (.int (1 : Int32))) (.val (.ref sx)) (.val .null) .unset) [(.ref sx)])) rfl (hb hby at_368) (n := 12) (by decide +kernel) (by decide) (by decide) (by decide)
  have CH7 := CH3.trans CQ7
  have HK7 := Nat.le_trans HQ3 E7.1
  have E7_sx := E3_sx.ext E7
  have F7_sx_coder := F3_sx_coder.ext E7
  have F7_sx_value := F3_sx_value.ext E7
  have V7_bt1 := V3_bt1.ext E7
  have E7_lt3 := Ex3.ext E7
  have F7_lt3_coder := Fc3.ext E7
  have F7_lt3_value := Fv3.ext E7
  have V7_bb3 := Va3.ext E7
  have Z7 := Nat.le_trans Z3 E7.1
  have KP7 := KP3.ext E7
  obtain ⟨cq8, kq8, q8a, q8b, q8c⟩ := isOf hZ e7 E7_sx
  obtain ⟨_, _, ⟨T8, L8, k8, n8⟩, -, X8, ⟨Lc8, hQ8, l8, y8, z8⟩, st8⟩ := X7.virtualBack hx (y := (⟨"java/lang/String", "equals", "(Ljava/lang/Object;)Z"⟩ : MethodName)) (z := (⟨"java/lang/String", "equals", "(Ljava/lang/Object;)Z"⟩ : MethodName)) hown (mvT hZ (ww hw 38 rfl)) (mvT hZ (ww hw 39 rfl)) (notFace_of_selects (args := #[]) (mvT hZ (ww hw 41 rfl))) (mvT hZ (ww hw 41 rfl)) (mvT hZ (ww hw 40 rfl)) (by decide) (StrChars.Road.eqW (W := 0) hZ hweq (kI := 4) (ww hw 7 rfl) E7_sx F7_sx_value F7_sx_coder V7_bt1 hcd hbd (Nat.le_of_ble_eq_true rfl) Ex7 Fv7 Fc7 Va7 own_cCsv own_bCsv (Nat.le_of_ble_eq_true rfl) ((hWd.ext (own_extK KP7)).1) hcz (by decide) (by decide)) q8a q8c (g := (mkF m 370 (fL mode lo hi len pos ch (.val (.int (mode &&& (3 : Int32)))) (.val (.ref b)) (.val (.int (1 : Int32))) (.val (.ref sx)) (.val .null) .unset) [(.ref lt7), (.ref sx)])) rfl (by rw [hml]; rfl) (Steps.refl _) (argsL := [(.ref lt7)]) (rest := []) (lenOf pd_6 rfl) rfl (by show 2 * 0 + _ ≤ _; exact Nat.le_of_eq rfl) (hb hby at_370) (fun _ _ => ⟨rfl, e7, (by decide : 8 + 0 ≤ _), (by decide : 50 + 0 ≤ _)⟩)
  dsimp only [Pt.U, Pt.locs, Pt.cells, Pt.slots] at X8 l8 y8 z8 st8 hQ8
  subst l8 y8 z8
  obtain ⟨hv8, rfl, e8⟩ := hQ8
  obtain rfl := own_eq0 hv8 (by simp [tCsv])
  have N8 := Fr.app N4 (Fr.nil n0)
  have hd9 : (0 : Int32) = (0 : Int32) := rfl
  have k10 : ∀ tg, Steps p.tables e below (T8.setTop (mkF m 386 (fL mode lo hi len pos ch (.val (.int (mode &&& (3 : Int32)))) (.val (.ref b)) (.val (.int (1 : Int32))) (.val (.ref sx)) (.val .null) .unset) [(.ref sx)])) tg → Steps p.tables e below (s₁.setTop (entryFrame m #[(.int mode), (.int lo), (.int hi), (.int len), (.int pos), (.int ch)] maxLocals)) tg := by
    intro tg kt
    refine k6 tg ?_
    refine st7 _ ?_
    refine st8.trans ?_
    refine XS.ifYes X8.here hx rfl (pc0 := 373) (pc' := 384) rfl (hb hby at_373) rfl ((if0 _ _).trans (teq hd9).1) (by decide) (by decide) ?_
    refine XS.aload X8.here hx rfl (hb hby at_384) rfl rfl ?_
    exact kt
  obtain ⟨lt11, T11, h11, kk11, bb11, kb11, X11, e11, E11, hS, HQ11, hZ, hown, Ex11, Fc11, Fv11, Va11, la11, lb11, CQ11, -, saf11, st11⟩ := ldcCH X8 hx hZ hown (ww hw 49 rfl) (own_wS hw) e8 hS HQ7 hEW (by decide) CH7.1 (vs := [(.int (100 : Int32)), (.int (97 : Int32)), (.int (116 : Int32)), (.int (97 : Int32)), (.int (98 : Int32)), (.int (97 : Int32)), (.int (115 : Int32)), (.int (101 : Int32))]) (z := (8 : Int32)) ⟨by decide, by decide⟩ (by decide) (by decide) (g := (mkF m 386 (fL mode lo hi len pos ch (.val (.int (mode &&& (3 : Int32)))) (.val (.ref b)) (.val (.int (1 : Int32))) (.val (.ref sx)) (.val .null) .unset) [(.ref sx)])) rfl (hb hby at_386) (n := 32) (by decide +kernel) (by decide) (by decide) (by decide)
  have CH11 := CH7.trans CQ11
  have HK11 := Nat.le_trans HQ7 E11.1
  have E11_sx := E7_sx.ext E11
  have F11_sx_coder := F7_sx_coder.ext E11
  have F11_sx_value := F7_sx_value.ext E11
  have V11_bt1 := V7_bt1.ext E11
  have E11_lt3 := E7_lt3.ext E11
  have F11_lt3_coder := F7_lt3_coder.ext E11
  have F11_lt3_value := F7_lt3_value.ext E11
  have V11_bb3 := V7_bb3.ext E11
  have E11_lt7 := Ex7.ext E11
  have F11_lt7_coder := Fc7.ext E11
  have F11_lt7_value := Fv7.ext E11
  have V11_bb7 := Va7.ext E11
  have Z11 := Nat.le_trans Z7 E11.1
  have KP11 := KP7.ext E11
  obtain ⟨cq12, kq12, q12a, q12b, q12c⟩ := isOf hZ e11 E11_sx
  obtain ⟨_, _, ⟨T12, L12, k12, n12⟩, -, X12, ⟨Lc12, hQ12, l12, y12, z12⟩, st12⟩ := X11.virtualBack hx (y := (⟨"java/lang/String", "equals", "(Ljava/lang/Object;)Z"⟩ : MethodName)) (z := (⟨"java/lang/String", "equals", "(Ljava/lang/Object;)Z"⟩ : MethodName)) hown (mvT hZ (ww hw 38 rfl)) (mvT hZ (ww hw 39 rfl)) (notFace_of_selects (args := #[]) (mvT hZ (ww hw 41 rfl))) (mvT hZ (ww hw 41 rfl)) (mvT hZ (ww hw 40 rfl)) (by decide) (StrChars.Road.eqW (W := 0) hZ hweq (kI := 4) (ww hw 7 rfl) E11_sx F11_sx_value F11_sx_coder V11_bt1 hcd hbd (Nat.le_of_ble_eq_true rfl) Ex11 Fv11 Fc11 Va11 own_cData own_bData (Nat.le_of_ble_eq_true rfl) ((hWd.ext (own_extK KP11)).1) hcz (by decide) (by decide)) q12a q12c (g := (mkF m 388 (fL mode lo hi len pos ch (.val (.int (mode &&& (3 : Int32)))) (.val (.ref b)) (.val (.int (1 : Int32))) (.val (.ref sx)) (.val .null) .unset) [(.ref lt11), (.ref sx)])) rfl (by rw [hml]; rfl) (Steps.refl _) (argsL := [(.ref lt11)]) (rest := []) (lenOf pd_6 rfl) rfl (by show 2 * 0 + _ ≤ _; exact Nat.le_of_eq rfl) (hb hby at_388) (fun _ _ => ⟨rfl, e11, (by decide : 10 + 0 ≤ _), (by decide : 86 + 0 ≤ _)⟩)
  dsimp only [Pt.U, Pt.locs, Pt.cells, Pt.slots] at X12 l12 y12 z12 st12 hQ12
  subst l12 y12 z12
  obtain ⟨hv12, rfl, e12⟩ := hQ12
  obtain rfl := own_eq0 hv12 (by simp [tData])
  have N12 := Fr.app N8 (Fr.nil n0)
  have hd13 : (0 : Int32) = (0 : Int32) := rfl
  obtain ⟨_, _, ⟨T14, L14, k14, n14⟩, -, X14, ⟨Lc14, hQ14, l14, y14, z14⟩, st14⟩ := Jvm.LawKit.callS X12 hx (y := (⟨"com/example/lifetable/lifetable/output/ExportFormat", "named", "(Ljava/lang/String;)Ljava/util/Optional;"⟩ : MethodName)) hown (mvT hZ (ww hw 50 rfl)) (mvT hZ (ww hw 51 rfl)) (mvT hZ (ww hw 52 rfl)) (mvT hZ (ww hw 53 rfl)) (by decide) (backOf (W := 0) (rmNamed0 l Z a0 hw [] sx ([sg0] : List Int32) bt1 kb1 (Int32.ofNat ([sg0] : List Int32).length) ((([sg0] : List Int32).map fun c => c.toInt8.toInt32).map Value.int) cz v_EMPTY vv kv v_NONE n_NONE t_NONE k_NONE v_CSV n_CSV t_CSV k_CSV v_DATABASE n_DATABASE t_DATABASE k_DATABASE h11 n0 Z11 (hWd.ext (own_extK KP11)) hcz E11_sx F11_sx_value F11_sx_coder V11_bt1 hcd hbd (Nat.le_of_ble_eq_true rfl) (by simp [tNone]) (by simp [tCsv]) (by simp [tData])) hZ (ww hw 53 rfl) (ww hw 52 rfl) (by decide) (by decide)) (g := (mkF m 401 (fL mode lo hi len pos ch (.val (.int (mode &&& (3 : Int32)))) (.val (.ref b)) (.val (.int (1 : Int32))) (.val (.ref sx)) (.val .null) .unset) [(.ref sx)])) rfl (by rw [hml]; rfl) (argsL := [(.ref sx)]) (rest := []) (lenOf pd_9 rfl) rfl (by show 2 * 0 + _ ≤ _; exact Nat.le_of_eq rfl) (hb hby at_401) (fun _ _ => ⟨rfl, e12, (by decide : 10 + 1 ≤ _), (by decide : 86 + 3 ≤ _)⟩)
  dsimp only [Pt.U, Pt.locs, Pt.cells, Pt.slots] at X14 l14 y14 z14 st14 hQ14
  subst l14 y14 z14
  obtain ⟨N14q, K14, on14, rfl, E14o, Fv14⟩ := hQ14
  have N14 := Fr.app N12 N14q
  have HK14 := Nat.le_trans HQ11 K14.1
  have CH14 := CH11.trans (CHr.keep K14 all0 CH11.1)
  have E14_sx := E11_sx.keep K14
  have F14_sx_coder := F11_sx_coder.keep K14 nin0
  have F14_sx_value := F11_sx_value.keep K14 nin0
  have V14_bt1 := V11_bt1.keep K14 nin0
  have E14_lt3 := E11_lt3.keep K14
  have F14_lt3_coder := F11_lt3_coder.keep K14 nin0
  have F14_lt3_value := F11_lt3_value.keep K14 nin0
  have V14_bb3 := V11_bb3.keep K14 nin0
  have E14_lt7 := E11_lt7.keep K14
  have F14_lt7_coder := F11_lt7_coder.keep K14 nin0
  have F14_lt7_value := F11_lt7_value.keep K14 nin0
  have V14_bb7 := V11_bb7.keep K14 nin0
  have E14_lt11 := Ex11.keep K14
  have F14_lt11_coder := Fc11.keep K14 nin0
  have F14_lt11_value := Fv11.keep K14 nin0
  have V14_bb11 := Va11.keep K14 nin0
  have Z14 := Nat.le_trans Z11 K14.1
  have KP14 := KP11.trans K14 all0
  obtain ⟨cq15, kq15, q15a, q15b, q15c⟩ := isOf hZ rfl E14o
  obtain ⟨_, _, ⟨T15, L15, k15, n15⟩, -, X15, ⟨Lc15, hQ15, l15, y15, z15⟩, st15⟩ := X14.virtualBack hx (y := (⟨"java/util/Optional", "orElse", "(Ljava/lang/Object;)Ljava/lang/Object;"⟩ : MethodName)) (z := (⟨"java/util/Optional", "orElse", "(Ljava/lang/Object;)Ljava/lang/Object;"⟩ : MethodName)) hown (mvT hZ (ww hw 80 rfl)) (mvT hZ (ww hw 81 rfl)) (notFace_of_selects (args := #[]) (mvT hZ (ww hw 83 rfl))) (mvT hZ (ww hw 83 rfl)) (mvT hZ (ww hw 82 rfl)) (by decide) (backOf (W := 0) (rmOr0 l Z a0 hw [] on14  T14.heap n0 Fv14) hZ (ww hw 84 rfl) (ww hw 56 rfl) (by decide) (by decide)) q15a q15c (g := (mkF m 405 (fL mode lo hi len pos ch (.val (.int (mode &&& (3 : Int32)))) (.val (.ref b)) (.val (.int (1 : Int32))) (.val (.ref sx)) (.val .null) .unset) [.null, (.ref on14)])) rfl (by rw [hml]; rfl) (Steps.refl _) (argsL := [.null]) (rest := []) (lenOf pd_2 rfl) rfl (by show 2 * 0 + _ ≤ _; exact Nat.le_of_eq rfl) (hb hby at_405) (fun _ _ => ⟨rfl, rfl, (by decide : 11 + 0 ≤ _), (by decide : 89 + 0 ≤ _)⟩)
  dsimp only [Pt.U, Pt.locs, Pt.cells, Pt.slots] at X15 l15 y15 z15 st15 hQ15
  subst l15 y15 z15
  obtain ⟨rfl, N15q, e15⟩ := hQ15
  have N15 := Fr.app N14 N15q
  have k16 : ∀ tg, Steps p.tables e below (T15.setTop (mkF m 425 (fL mode lo hi len pos ch (.val (.int (mode &&& (3 : Int32)))) (.val (.ref b)) (.val (.int (1 : Int32))) (.val (.ref sx)) (.val .null) (.val .null)) [(.int (1 : Int32))])) tg → Steps p.tables e below (s₁.setTop (entryFrame m #[(.int mode), (.int lo), (.int hi), (.int len), (.int pos), (.int ch)] maxLocals)) tg := by
    intro tg kt
    refine k10 tg ?_
    refine st11 _ ?_
    refine st12.trans ?_
    refine XS.ifYes X12.here hx rfl (pc0 := 391) (pc' := 399) rfl (hb hby at_391) rfl ((if0 _ _).trans (teq hd13).1) (by decide) (by decide) ?_
    refine XS.aload X12.here hx rfl (hb hby at_399) rfl rfl ?_
    show Steps p.tables e below (T12.setTop (mkF m 401 (fL mode lo hi len pos ch (.val (.int (mode &&& (3 : Int32)))) (.val (.ref b)) (.val (.int (1 : Int32))) (.val (.ref sx)) (.val .null) .unset) [(.ref sx)])) _
    refine st14 _ ?_
    refine XS.aconstNull X14.here hx rfl (hb hby at_404) ?_
    refine st15.trans ?_
    refine X15.checkcastNull hx (g := (mkF m 408 (fL mode lo hi len pos ch (.val (.int (mode &&& (3 : Int32)))) (.val (.ref b)) (.val (.int (1 : Int32))) (.val (.ref sx)) (.val .null) .unset) [.null])) rfl rfl (hb hby at_408) _ ?_
    show Steps p.tables e below (T15.setTop (mkF m 411 (fL mode lo hi len pos ch (.val (.int (mode &&& (3 : Int32)))) (.val (.ref b)) (.val (.int (1 : Int32))) (.val (.ref sx)) (.val .null) .unset) [.null])) _
    refine XS.astore X15.here hx rfl (hb hby at_411) rfl rfl (l' := (fL mode lo hi len pos ch (.val (.int (mode &&& (3 : Int32)))) (.val (.ref b)) (.val (.int (1 : Int32))) (.val (.ref sx)) (.val .null) (.val .null))) rfl ?_
    refine XS.aload X15.here hx rfl (hb hby at_413) rfl rfl ?_
    refine XS.aload X15.here hx rfl (hb hby at_415) rfl rfl ?_
    refine Jvm.RoadKit.acmp (g := (mkF m 417 (fL mode lo hi len pos ch (.val (.int (mode &&& (3 : Int32)))) (.val (.ref b)) (.val (.int (1 : Int32))) (.val (.ref sx)) (.val .null) (.val .null)) [.null, .null])) X15 hx rfl rfl rfl (pc0 := 417) (pc' := 420) (same := true) rfl (hb hby at_417) rfl (decide_eq_true rfl) (by decide) (by decide) ?_
    show Steps p.tables e below (T15.setTop (mkF m 420 (fL mode lo hi len pos ch (.val (.int (mode &&& (3 : Int32)))) (.val (.ref b)) (.val (.int (1 : Int32))) (.val (.ref sx)) (.val .null) (.val .null)) [])) _
    refine XS.iconst X15.here hx rfl (hb hby at_420) ?_
    refine XS.goto X15.here hx rfl (pc0 := 421) (pc' := 425) rfl (hb hby at_421) (by decide) (by decide) ?_
    show Steps p.tables e below (T15.setTop (mkF m 425 (fL mode lo hi len pos ch (.val (.int (mode &&& (3 : Int32)))) (.val (.ref b)) (.val (.int (1 : Int32))) (.val (.ref sx)) (.val .null) (.val .null)) [(.int (1 : Int32))])) _
    exact kt
  obtain ⟨fs, hr, hrun, hended, hRW⟩ := X15.leaveW hS (own_hk e15 HK14) (v := some (.int (1 : Int32))) (fun h => by rw [hbr] at h; cases h)
  refine ⟨_, _, k16 _ ?_, hrun, hended, _, _, rfl, ?_, hRW.1, hRW.2.1, hRW.2.2.1, hRW.2.2.2.mono (by decide) (by decide)⟩
  · exact retN X15 hx (t := .boolean) hbr (by simp) (hb hby at_425) hr
  · show QL n0 _ T15.heap _
    exact ⟨rfl, N15⟩
set_option maxRecDepth 65536 in
set_option maxHeartbeats 40000000 in
theorem tail_2 (l : Launch) (Z : State) (a0 : Array Value) (hw : ∀ d ∈ tables_1, d.before a0 Z = true) {p : Program} {e : Env} {s : State} {m : MethodId} {below : List Frame} {meth : Method} {c : Code} {s₁ T0 : State} {locs0 : List Loc} (mode lo hi len pos ch : Int32) (w9 : Slot) (b : Addr) (kc : ClassId) (sg0 sg1 sg2 sg3 sg4 sg5 sg6 sg7 : Int32) (cz : Int32) (v_EMPTY vv : Addr) (kv : ClassId) (v_NONE n_NONE t_NONE : Addr) (k_NONE : ClassId) (v_CSV n_CSV t_CSV : Addr) (k_CSV : ClassId) (v_DATABASE n_DATABASE t_DATABASE : Addr) (k_DATABASE : ClassId) (h0 : Heap) (n0 : Nat) (Z0 : n0 ≤ h0.size)
    (hx : p.tables.exec = Jvm.exec) (hby : c.code = code) (hml : c.maxLocals = 12) (hbr : meth.sig.returnType = ret) (hlk : meth.locks = false) (hZ : Z.Warmed39 (s.setVm s.vm).vm) (hown : (s.setVm s.vm).vm.findClass "com/example/lifetable/lifetable/output/ExportFormatNamedPinLaw" = some m.cls) (X0 : Stand p l e room_1 (s.setVm s.vm) m #[(.int mode), (.int lo), (.int hi), (.int len), (.int pos), (.int ch)] below meth c T0 locs0 (0 + 1) (0 + 8)) (e0 : T0.heap = h0) (N0 : Fr n0 locs0) (hS : s.Since s.vm s.heap.size) (HK0 : s.heap.size ≤ h0.size) (hCH : CHv Z ELs s.vm h0)
    (hWd : World Z h0 cz v_EMPTY vv kv v_NONE n_NONE t_NONE k_NONE v_CSV n_CSV t_CSV k_CSV v_DATABASE n_DATABASE t_DATABASE k_DATABASE) (hcz : ¬ cz = 0) (Vb : Arv Z h0 b kc .char (8 : Int32) [(.int sg0), (.int sg1), (.int sg2), (.int sg3), (.int sg4), (.int sg5), (.int sg6), (.int sg7)] (.int (0 : Int32))) (ok0 : ok sg0) (ok1 : ok sg1) (ok2 : ok sg2) (ok3 : ok sg3) (ok4 : ok sg4) (ok5 : ok sg5) (ok6 : ok sg6) (ok7 : ok sg7) (h9 : ∀ y : Addr, storeLocals #[.val (.int mode), .val (.int lo), .val (.int hi), .val (.int len), .val (.int pos), .val (.int ch), .val (.int (mode &&& (3 : Int32))), .val (.ref b), .val (.int (2 : Int32)), w9, .unset, .unset] 9 (.ref y) = some #[.val (.int mode), .val (.int lo), .val (.int hi), .val (.int len), .val (.int pos), .val (.int ch), .val (.int (mode &&& (3 : Int32))), .val (.ref b), .val (.int (2 : Int32)), .val (.ref y), .unset, .unset]) (k0 : ∀ tg, Steps p.tables e below (T0.setTop (mkF m 336 (fL mode lo hi len pos ch (.val (.int (mode &&& (3 : Int32)))) (.val (.ref b)) (.val (.int (2 : Int32))) w9 .unset .unset) [])) tg → Steps p.tables e below (s₁.setTop (entryFrame m #[(.int mode), (.int lo), (.int hi), (.int len), (.int pos), (.int ch)] maxLocals)) tg) :
    ∃ s₂ o_, Steps p.tables e below (s₁.setTop (entryFrame m #[(.int mode), (.int lo), (.int hi), (.int len), (.int pos), (.int ch)] maxLocals)) s₂ ∧ s₂.status = .running ∧ Ended s₂ below o_ ∧ ∃ v_ L_, o_ = .returned v_ ∧ QL n0 v_ s₂.heap L_ ∧ ReturnedEndW s o_ s₂ L_ room_1.cells room_1.slots := by
  have CH0 : CHr Z ELs s.vm h0 s.vm h0 := CHr.refl hCH
  have hEW := own_EW hw
  have hweq : ∀ d ∈ StrChars.Road.wordsEq, d.before a0 Z = true := fun d hd => hw d ((by decide +kernel : ∀ d ∈ StrChars.Road.wordsEq, d ∈ tables_1) d hd)
  have hp : ∀ c ∈ ([sg0, sg1] : List Int32), ¬ c < 0 ∧ ¬ (255 : Int32) < c := by
    intro c hc
    simp only [List.mem_cons, List.not_mem_nil, or_false] at hc
    rcases hc with rfl | rfl <;> assumption
  have hcd : StrChars.Road.CodA ([sg0, sg1] : List Int32) 0 (Int32.ofNat ([sg0, sg1] : List Int32).length) ((([sg0, sg1] : List Int32).map fun c => c.toInt8.toInt32).map Value.int) := StrChars.Road.codOf (n := 2) rfl (fun c hc => (hp c hc).2)
  have hbd := own_up _ hp
  obtain ⟨_, _, ⟨T1, L1, k1, n1⟩, -, X1, ⟨Lc1, hQ1, l1, y1, z1⟩, st1⟩ := Jvm.LawKit.callS X0 hx (y := (⟨"com/example/lifetable/lifetable/output/ExportFormatNamedPinLaw", "str", "([CI)Ljava/lang/String;"⟩ : MethodName)) hown (mvT hZ (ww hw 2 rfl)) (mvT hZ (ww hw 3 rfl)) (mvT hZ (ww hw 4 rfl)) (mvT hZ (ww hw 5 rfl)) (by decide) (backOf (W := 0) (rmStr2 l Z a0 hw [] b kc cz sg0 sg1 sg2 sg3 sg4 sg5 sg6 sg7 h0 n0 Z0 Vb ok0 ok1 ok2 ok3 ok4 ok5 ok6 ok7 ((hWd.ext (own_extK (Keep.refl h0 []))).1) hcz) hZ (ww hw 5 rfl) (ww hw 4 rfl) (by decide) (by decide)) (g := (mkF m 340 (fL mode lo hi len pos ch (.val (.int (mode &&& (3 : Int32)))) (.val (.ref b)) (.val (.int (2 : Int32))) w9 .unset .unset) [(.int (2 : Int32)), (.ref b)])) rfl (by rw [hml]; rfl) (argsL := [(.ref b), (.int (2 : Int32))]) (rest := []) (lenOf pd_8 rfl) rfl (by show 2 * 0 + _ ≤ _; exact Nat.le_of_eq rfl) (hb hby at_340) (fun _ _ => ⟨rfl, e0, (by decide : 1 + 3 ≤ _), (by decide : 8 + 8 ≤ _)⟩)
  dsimp only [Pt.U, Pt.locs, Pt.cells, Pt.slots] at X1 l1 y1 z1 st1 hQ1
  subst l1 y1 z1
  obtain ⟨N1q, K1, sx, bt1, kb1, rfl, le1, E1x, C1x, F1x, V1x⟩ := hQ1
  have N1 := Fr.app N0 N1q
  have ne_b_sx : b ≠ sx := Nat.ne_of_lt (Nat.lt_of_lt_of_le Vb.lt le1)
  have g_sx : n0 ≤ sx := Nat.le_trans Z0 le1
  have sz_sx : h0.size ≤ sx := Nat.le_trans (Keep.refl h0 []).1 le1
  have HK1 := Nat.le_trans HK0 K1.1
  have CH1 := CH0.trans (CHr.keep K1 all0 CH0.1)
  have Z1 := Nat.le_trans Z0 K1.1
  have KP1 := (Keep.refl h0 []).trans K1 all0
  have k2 : ∀ tg, Steps p.tables e below (T1.setTop (mkF m 350 (fL mode lo hi len pos ch (.val (.int (mode &&& (3 : Int32)))) (.val (.ref b)) (.val (.int (2 : Int32))) (.val (.ref sx)) (.val .null) .unset) [(.ref sx)])) tg → Steps p.tables e below (s₁.setTop (entryFrame m #[(.int mode), (.int lo), (.int hi), (.int len), (.int pos), (.int ch)] maxLocals)) tg := by
    intro tg kt
    refine k0 tg ?_
    show Steps p.tables e below (T0.setTop (mkF m 336 (fL mode lo hi len pos ch (.val (.int (mode &&& (3 : Int32)))) (.val (.ref b)) (.val (.int (2 : Int32))) w9 .unset .unset) [])) _
    refine XS.aload X0.here hx rfl (hb hby at_336) rfl rfl ?_
    refine XS.iload X0.here hx rfl (hb hby at_338) rfl ?_
    refine st1 _ ?_
    show Steps p.tables e below (T1.setTop (mkF m 343 (fL mode lo hi len pos ch (.val (.int (mode &&& (3 : Int32)))) (.val (.ref b)) (.val (.int (2 : Int32))) w9 .unset .unset) [(.ref sx)])) _
    refine XS.astore X1.here hx rfl (hb hby at_343) rfl rfl (l' := (fL mode lo hi len pos ch (.val (.int (mode &&& (3 : Int32)))) (.val (.ref b)) (.val (.int (2 : Int32))) (.val (.ref sx)) .unset .unset)) (h9 _) ?_
    refine XS.aconstNull X1.here hx rfl (hb hby at_345) ?_
    refine XS.astore X1.here hx rfl (hb hby at_346) rfl rfl (l' := (fL mode lo hi len pos ch (.val (.int (mode &&& (3 : Int32)))) (.val (.ref b)) (.val (.int (2 : Int32))) (.val (.ref sx)) (.val .null) .unset)) rfl ?_
    refine XS.aload X1.here hx rfl (hb hby at_348) rfl rfl ?_
    show Steps p.tables e below (T1.setTop (mkF m 350 (fL mode lo hi len pos ch (.val (.int (mode &&& (3 : Int32)))) (.val (.ref b)) (.val (.int (2 : Int32))) (.val (.ref sx)) (.val .null) .unset) [(.ref sx)])) _
    exact kt
  obtain ⟨lt3, T3, h3, kk3, bb3, kb3, X3, e3, E3, hS, HQ3, hZ, hown, Ex3, Fc3, Fv3, Va3, la3, lb3, CQ3, -, saf3, st3⟩ := ldcCH X1 hx hZ hown (ww hw 35 rfl) (own_wS hw) rfl hS HK1 hEW (by decide) CH1.1 (vs := [(.int (110 : Int32)), (.int (111 : Int32)), (.int (110 : Int32)), (.int (101 : Int32))]) (z := (4 : Int32)) ⟨by decide, by decide⟩ (by decide) (by decide) (g := (mkF m 350 (fL mode lo hi len pos ch (.val (.int (mode &&& (3 : Int32)))) (.val (.ref b)) (.val (.int (2 : Int32))) (.val (.ref sx)) (.val .null) .unset) [(.ref sx)])) rfl (hb hby at_350) (n := 16) (by decide +kernel) (by decide) (by decide) (by decide)
  have CH3 := CH1.trans CQ3
  have HK3 := Nat.le_trans HK1 E3.1
  have E3_sx := E1x.ext E3
  have F3_sx_coder := C1x.ext E3
  have F3_sx_value := F1x.ext E3
  have V3_bt1 := V1x.ext E3
  have Z3 := Nat.le_trans Z1 E3.1
  have KP3 := KP1.ext E3
  obtain ⟨cq4, kq4, q4a, q4b, q4c⟩ := isOf hZ e3 E3_sx
  obtain ⟨_, _, ⟨T4, L4, k4, n4⟩, -, X4, ⟨Lc4, hQ4, l4, y4, z4⟩, st4⟩ := X3.virtualBack hx (y := (⟨"java/lang/String", "equals", "(Ljava/lang/Object;)Z"⟩ : MethodName)) (z := (⟨"java/lang/String", "equals", "(Ljava/lang/Object;)Z"⟩ : MethodName)) hown (mvT hZ (ww hw 38 rfl)) (mvT hZ (ww hw 39 rfl)) (notFace_of_selects (args := #[]) (mvT hZ (ww hw 41 rfl))) (mvT hZ (ww hw 41 rfl)) (mvT hZ (ww hw 40 rfl)) (by decide) (StrChars.Road.eqW (W := 0) hZ hweq (kI := 4) (ww hw 7 rfl) E3_sx F3_sx_value F3_sx_coder V3_bt1 hcd hbd (Nat.le_of_ble_eq_true rfl) Ex3 Fv3 Fc3 Va3 own_cNone own_bNone (Nat.le_of_ble_eq_true rfl) ((hWd.ext (own_extK KP3)).1) hcz (by decide) (by decide)) q4a q4c (g := (mkF m 352 (fL mode lo hi len pos ch (.val (.int (mode &&& (3 : Int32)))) (.val (.ref b)) (.val (.int (2 : Int32))) (.val (.ref sx)) (.val .null) .unset) [(.ref lt3), (.ref sx)])) rfl (by rw [hml]; rfl) (Steps.refl _) (argsL := [(.ref lt3)]) (rest := []) (lenOf pd_6 rfl) rfl (by show 2 * 0 + _ ≤ _; exact Nat.le_of_eq rfl) (hb hby at_352) (fun _ _ => ⟨rfl, e3, (by decide : 6 + 0 ≤ _), (by decide : 36 + 0 ≤ _)⟩)
  dsimp only [Pt.U, Pt.locs, Pt.cells, Pt.slots] at X4 l4 y4 z4 st4 hQ4
  subst l4 y4 z4
  obtain ⟨hv4, rfl, e4⟩ := hQ4
  obtain rfl := own_eq0 hv4 (by simp [tNone])
  have N4 := Fr.app N1 (Fr.nil n0)
  have hd5 : (0 : Int32) = (0 : Int32) := rfl
  have k6 : ∀ tg, Steps p.tables e below (T4.setTop (mkF m 368 (fL mode lo hi len pos ch (.val (.int (mode &&& (3 : Int32)))) (.val (.ref b)) (.val (.int (2 : Int32))) (.val (.ref sx)) (.val .null) .unset) [(.ref sx)])) tg → Steps p.tables e below (s₁.setTop (entryFrame m #[(.int mode), (.int lo), (.int hi), (.int len), (.int pos), (.int ch)] maxLocals)) tg := by
    intro tg kt
    refine k2 tg ?_
    refine st3 _ ?_
    refine st4.trans ?_
    refine XS.ifYes X4.here hx rfl (pc0 := 355) (pc' := 366) rfl (hb hby at_355) rfl ((if0 _ _).trans (teq hd5).1) (by decide) (by decide) ?_
    refine XS.aload X4.here hx rfl (hb hby at_366) rfl rfl ?_
    exact kt
  obtain ⟨lt7, T7, h7, kk7, bb7, kb7, X7, e7, E7, hS, HQ7, hZ, hown, Ex7, Fc7, Fv7, Va7, la7, lb7, CQ7, -, saf7, st7⟩ := ldcCH X4 hx hZ hown (ww hw 48 rfl) (own_wS hw) e4 hS HQ3 hEW (by decide) CH3.1 (vs := [(.int (99 : Int32)), (.int (115 : Int32)), (.int (118 : Int32))]) (z := (3 : Int32)) ⟨by decide, by decide⟩ (by decide) (by decide) (g := (mkF m 368 (fL mode lo hi len pos ch (.val (.int (mode &&& (3 : Int32)))) (.val (.ref b)) (.val (.int (2 : Int32))) (.val (.ref sx)) (.val .null) .unset) [(.ref sx)])) rfl (hb hby at_368) (n := 12) (by decide +kernel) (by decide) (by decide) (by decide)
  have CH7 := CH3.trans CQ7
  have HK7 := Nat.le_trans HQ3 E7.1
  have E7_sx := E3_sx.ext E7
  have F7_sx_coder := F3_sx_coder.ext E7
  have F7_sx_value := F3_sx_value.ext E7
  have V7_bt1 := V3_bt1.ext E7
  have E7_lt3 := Ex3.ext E7
  have F7_lt3_coder := Fc3.ext E7
  have F7_lt3_value := Fv3.ext E7
  have V7_bb3 := Va3.ext E7
  have Z7 := Nat.le_trans Z3 E7.1
  have KP7 := KP3.ext E7
  obtain ⟨cq8, kq8, q8a, q8b, q8c⟩ := isOf hZ e7 E7_sx
  obtain ⟨_, _, ⟨T8, L8, k8, n8⟩, -, X8, ⟨Lc8, hQ8, l8, y8, z8⟩, st8⟩ := X7.virtualBack hx (y := (⟨"java/lang/String", "equals", "(Ljava/lang/Object;)Z"⟩ : MethodName)) (z := (⟨"java/lang/String", "equals", "(Ljava/lang/Object;)Z"⟩ : MethodName)) hown (mvT hZ (ww hw 38 rfl)) (mvT hZ (ww hw 39 rfl)) (notFace_of_selects (args := #[]) (mvT hZ (ww hw 41 rfl))) (mvT hZ (ww hw 41 rfl)) (mvT hZ (ww hw 40 rfl)) (by decide) (StrChars.Road.eqW (W := 0) hZ hweq (kI := 4) (ww hw 7 rfl) E7_sx F7_sx_value F7_sx_coder V7_bt1 hcd hbd (Nat.le_of_ble_eq_true rfl) Ex7 Fv7 Fc7 Va7 own_cCsv own_bCsv (Nat.le_of_ble_eq_true rfl) ((hWd.ext (own_extK KP7)).1) hcz (by decide) (by decide)) q8a q8c (g := (mkF m 370 (fL mode lo hi len pos ch (.val (.int (mode &&& (3 : Int32)))) (.val (.ref b)) (.val (.int (2 : Int32))) (.val (.ref sx)) (.val .null) .unset) [(.ref lt7), (.ref sx)])) rfl (by rw [hml]; rfl) (Steps.refl _) (argsL := [(.ref lt7)]) (rest := []) (lenOf pd_6 rfl) rfl (by show 2 * 0 + _ ≤ _; exact Nat.le_of_eq rfl) (hb hby at_370) (fun _ _ => ⟨rfl, e7, (by decide : 8 + 0 ≤ _), (by decide : 52 + 0 ≤ _)⟩)
  dsimp only [Pt.U, Pt.locs, Pt.cells, Pt.slots] at X8 l8 y8 z8 st8 hQ8
  subst l8 y8 z8
  obtain ⟨hv8, rfl, e8⟩ := hQ8
  obtain rfl := own_eq0 hv8 (by simp [tCsv])
  have N8 := Fr.app N4 (Fr.nil n0)
  have hd9 : (0 : Int32) = (0 : Int32) := rfl
  have k10 : ∀ tg, Steps p.tables e below (T8.setTop (mkF m 386 (fL mode lo hi len pos ch (.val (.int (mode &&& (3 : Int32)))) (.val (.ref b)) (.val (.int (2 : Int32))) (.val (.ref sx)) (.val .null) .unset) [(.ref sx)])) tg → Steps p.tables e below (s₁.setTop (entryFrame m #[(.int mode), (.int lo), (.int hi), (.int len), (.int pos), (.int ch)] maxLocals)) tg := by
    intro tg kt
    refine k6 tg ?_
    refine st7 _ ?_
    refine st8.trans ?_
    refine XS.ifYes X8.here hx rfl (pc0 := 373) (pc' := 384) rfl (hb hby at_373) rfl ((if0 _ _).trans (teq hd9).1) (by decide) (by decide) ?_
    refine XS.aload X8.here hx rfl (hb hby at_384) rfl rfl ?_
    exact kt
  obtain ⟨lt11, T11, h11, kk11, bb11, kb11, X11, e11, E11, hS, HQ11, hZ, hown, Ex11, Fc11, Fv11, Va11, la11, lb11, CQ11, -, saf11, st11⟩ := ldcCH X8 hx hZ hown (ww hw 49 rfl) (own_wS hw) e8 hS HQ7 hEW (by decide) CH7.1 (vs := [(.int (100 : Int32)), (.int (97 : Int32)), (.int (116 : Int32)), (.int (97 : Int32)), (.int (98 : Int32)), (.int (97 : Int32)), (.int (115 : Int32)), (.int (101 : Int32))]) (z := (8 : Int32)) ⟨by decide, by decide⟩ (by decide) (by decide) (g := (mkF m 386 (fL mode lo hi len pos ch (.val (.int (mode &&& (3 : Int32)))) (.val (.ref b)) (.val (.int (2 : Int32))) (.val (.ref sx)) (.val .null) .unset) [(.ref sx)])) rfl (hb hby at_386) (n := 32) (by decide +kernel) (by decide) (by decide) (by decide)
  have CH11 := CH7.trans CQ11
  have HK11 := Nat.le_trans HQ7 E11.1
  have E11_sx := E7_sx.ext E11
  have F11_sx_coder := F7_sx_coder.ext E11
  have F11_sx_value := F7_sx_value.ext E11
  have V11_bt1 := V7_bt1.ext E11
  have E11_lt3 := E7_lt3.ext E11
  have F11_lt3_coder := F7_lt3_coder.ext E11
  have F11_lt3_value := F7_lt3_value.ext E11
  have V11_bb3 := V7_bb3.ext E11
  have E11_lt7 := Ex7.ext E11
  have F11_lt7_coder := Fc7.ext E11
  have F11_lt7_value := Fv7.ext E11
  have V11_bb7 := Va7.ext E11
  have Z11 := Nat.le_trans Z7 E11.1
  have KP11 := KP7.ext E11
  obtain ⟨cq12, kq12, q12a, q12b, q12c⟩ := isOf hZ e11 E11_sx
  obtain ⟨_, _, ⟨T12, L12, k12, n12⟩, -, X12, ⟨Lc12, hQ12, l12, y12, z12⟩, st12⟩ := X11.virtualBack hx (y := (⟨"java/lang/String", "equals", "(Ljava/lang/Object;)Z"⟩ : MethodName)) (z := (⟨"java/lang/String", "equals", "(Ljava/lang/Object;)Z"⟩ : MethodName)) hown (mvT hZ (ww hw 38 rfl)) (mvT hZ (ww hw 39 rfl)) (notFace_of_selects (args := #[]) (mvT hZ (ww hw 41 rfl))) (mvT hZ (ww hw 41 rfl)) (mvT hZ (ww hw 40 rfl)) (by decide) (StrChars.Road.eqW (W := 0) hZ hweq (kI := 4) (ww hw 7 rfl) E11_sx F11_sx_value F11_sx_coder V11_bt1 hcd hbd (Nat.le_of_ble_eq_true rfl) Ex11 Fv11 Fc11 Va11 own_cData own_bData (Nat.le_of_ble_eq_true rfl) ((hWd.ext (own_extK KP11)).1) hcz (by decide) (by decide)) q12a q12c (g := (mkF m 388 (fL mode lo hi len pos ch (.val (.int (mode &&& (3 : Int32)))) (.val (.ref b)) (.val (.int (2 : Int32))) (.val (.ref sx)) (.val .null) .unset) [(.ref lt11), (.ref sx)])) rfl (by rw [hml]; rfl) (Steps.refl _) (argsL := [(.ref lt11)]) (rest := []) (lenOf pd_6 rfl) rfl (by show 2 * 0 + _ ≤ _; exact Nat.le_of_eq rfl) (hb hby at_388) (fun _ _ => ⟨rfl, e11, (by decide : 10 + 0 ≤ _), (by decide : 88 + 0 ≤ _)⟩)
  dsimp only [Pt.U, Pt.locs, Pt.cells, Pt.slots] at X12 l12 y12 z12 st12 hQ12
  subst l12 y12 z12
  obtain ⟨hv12, rfl, e12⟩ := hQ12
  obtain rfl := own_eq0 hv12 (by simp [tData])
  have N12 := Fr.app N8 (Fr.nil n0)
  have hd13 : (0 : Int32) = (0 : Int32) := rfl
  obtain ⟨_, _, ⟨T14, L14, k14, n14⟩, -, X14, ⟨Lc14, hQ14, l14, y14, z14⟩, st14⟩ := Jvm.LawKit.callS X12 hx (y := (⟨"com/example/lifetable/lifetable/output/ExportFormat", "named", "(Ljava/lang/String;)Ljava/util/Optional;"⟩ : MethodName)) hown (mvT hZ (ww hw 50 rfl)) (mvT hZ (ww hw 51 rfl)) (mvT hZ (ww hw 52 rfl)) (mvT hZ (ww hw 53 rfl)) (by decide) (backOf (W := 0) (rmNamed0 l Z a0 hw [] sx ([sg0, sg1] : List Int32) bt1 kb1 (Int32.ofNat ([sg0, sg1] : List Int32).length) ((([sg0, sg1] : List Int32).map fun c => c.toInt8.toInt32).map Value.int) cz v_EMPTY vv kv v_NONE n_NONE t_NONE k_NONE v_CSV n_CSV t_CSV k_CSV v_DATABASE n_DATABASE t_DATABASE k_DATABASE h11 n0 Z11 (hWd.ext (own_extK KP11)) hcz E11_sx F11_sx_value F11_sx_coder V11_bt1 hcd hbd (Nat.le_of_ble_eq_true rfl) (by simp [tNone]) (by simp [tCsv]) (by simp [tData])) hZ (ww hw 53 rfl) (ww hw 52 rfl) (by decide) (by decide)) (g := (mkF m 401 (fL mode lo hi len pos ch (.val (.int (mode &&& (3 : Int32)))) (.val (.ref b)) (.val (.int (2 : Int32))) (.val (.ref sx)) (.val .null) .unset) [(.ref sx)])) rfl (by rw [hml]; rfl) (argsL := [(.ref sx)]) (rest := []) (lenOf pd_9 rfl) rfl (by show 2 * 0 + _ ≤ _; exact Nat.le_of_eq rfl) (hb hby at_401) (fun _ _ => ⟨rfl, e12, (by decide : 10 + 1 ≤ _), (by decide : 88 + 3 ≤ _)⟩)
  dsimp only [Pt.U, Pt.locs, Pt.cells, Pt.slots] at X14 l14 y14 z14 st14 hQ14
  subst l14 y14 z14
  obtain ⟨N14q, K14, on14, rfl, E14o, Fv14⟩ := hQ14
  have N14 := Fr.app N12 N14q
  have HK14 := Nat.le_trans HQ11 K14.1
  have CH14 := CH11.trans (CHr.keep K14 all0 CH11.1)
  have E14_sx := E11_sx.keep K14
  have F14_sx_coder := F11_sx_coder.keep K14 nin0
  have F14_sx_value := F11_sx_value.keep K14 nin0
  have V14_bt1 := V11_bt1.keep K14 nin0
  have E14_lt3 := E11_lt3.keep K14
  have F14_lt3_coder := F11_lt3_coder.keep K14 nin0
  have F14_lt3_value := F11_lt3_value.keep K14 nin0
  have V14_bb3 := V11_bb3.keep K14 nin0
  have E14_lt7 := E11_lt7.keep K14
  have F14_lt7_coder := F11_lt7_coder.keep K14 nin0
  have F14_lt7_value := F11_lt7_value.keep K14 nin0
  have V14_bb7 := V11_bb7.keep K14 nin0
  have E14_lt11 := Ex11.keep K14
  have F14_lt11_coder := Fc11.keep K14 nin0
  have F14_lt11_value := Fv11.keep K14 nin0
  have V14_bb11 := Va11.keep K14 nin0
  have Z14 := Nat.le_trans Z11 K14.1
  have KP14 := KP11.trans K14 all0
  obtain ⟨cq15, kq15, q15a, q15b, q15c⟩ := isOf hZ rfl E14o
  obtain ⟨_, _, ⟨T15, L15, k15, n15⟩, -, X15, ⟨Lc15, hQ15, l15, y15, z15⟩, st15⟩ := X14.virtualBack hx (y := (⟨"java/util/Optional", "orElse", "(Ljava/lang/Object;)Ljava/lang/Object;"⟩ : MethodName)) (z := (⟨"java/util/Optional", "orElse", "(Ljava/lang/Object;)Ljava/lang/Object;"⟩ : MethodName)) hown (mvT hZ (ww hw 80 rfl)) (mvT hZ (ww hw 81 rfl)) (notFace_of_selects (args := #[]) (mvT hZ (ww hw 83 rfl))) (mvT hZ (ww hw 83 rfl)) (mvT hZ (ww hw 82 rfl)) (by decide) (backOf (W := 0) (rmOr0 l Z a0 hw [] on14  T14.heap n0 Fv14) hZ (ww hw 84 rfl) (ww hw 56 rfl) (by decide) (by decide)) q15a q15c (g := (mkF m 405 (fL mode lo hi len pos ch (.val (.int (mode &&& (3 : Int32)))) (.val (.ref b)) (.val (.int (2 : Int32))) (.val (.ref sx)) (.val .null) .unset) [.null, (.ref on14)])) rfl (by rw [hml]; rfl) (Steps.refl _) (argsL := [.null]) (rest := []) (lenOf pd_2 rfl) rfl (by show 2 * 0 + _ ≤ _; exact Nat.le_of_eq rfl) (hb hby at_405) (fun _ _ => ⟨rfl, rfl, (by decide : 11 + 0 ≤ _), (by decide : 91 + 0 ≤ _)⟩)
  dsimp only [Pt.U, Pt.locs, Pt.cells, Pt.slots] at X15 l15 y15 z15 st15 hQ15
  subst l15 y15 z15
  obtain ⟨rfl, N15q, e15⟩ := hQ15
  have N15 := Fr.app N14 N15q
  have k16 : ∀ tg, Steps p.tables e below (T15.setTop (mkF m 425 (fL mode lo hi len pos ch (.val (.int (mode &&& (3 : Int32)))) (.val (.ref b)) (.val (.int (2 : Int32))) (.val (.ref sx)) (.val .null) (.val .null)) [(.int (1 : Int32))])) tg → Steps p.tables e below (s₁.setTop (entryFrame m #[(.int mode), (.int lo), (.int hi), (.int len), (.int pos), (.int ch)] maxLocals)) tg := by
    intro tg kt
    refine k10 tg ?_
    refine st11 _ ?_
    refine st12.trans ?_
    refine XS.ifYes X12.here hx rfl (pc0 := 391) (pc' := 399) rfl (hb hby at_391) rfl ((if0 _ _).trans (teq hd13).1) (by decide) (by decide) ?_
    refine XS.aload X12.here hx rfl (hb hby at_399) rfl rfl ?_
    show Steps p.tables e below (T12.setTop (mkF m 401 (fL mode lo hi len pos ch (.val (.int (mode &&& (3 : Int32)))) (.val (.ref b)) (.val (.int (2 : Int32))) (.val (.ref sx)) (.val .null) .unset) [(.ref sx)])) _
    refine st14 _ ?_
    refine XS.aconstNull X14.here hx rfl (hb hby at_404) ?_
    refine st15.trans ?_
    refine X15.checkcastNull hx (g := (mkF m 408 (fL mode lo hi len pos ch (.val (.int (mode &&& (3 : Int32)))) (.val (.ref b)) (.val (.int (2 : Int32))) (.val (.ref sx)) (.val .null) .unset) [.null])) rfl rfl (hb hby at_408) _ ?_
    show Steps p.tables e below (T15.setTop (mkF m 411 (fL mode lo hi len pos ch (.val (.int (mode &&& (3 : Int32)))) (.val (.ref b)) (.val (.int (2 : Int32))) (.val (.ref sx)) (.val .null) .unset) [.null])) _
    refine XS.astore X15.here hx rfl (hb hby at_411) rfl rfl (l' := (fL mode lo hi len pos ch (.val (.int (mode &&& (3 : Int32)))) (.val (.ref b)) (.val (.int (2 : Int32))) (.val (.ref sx)) (.val .null) (.val .null))) rfl ?_
    refine XS.aload X15.here hx rfl (hb hby at_413) rfl rfl ?_
    refine XS.aload X15.here hx rfl (hb hby at_415) rfl rfl ?_
    refine Jvm.RoadKit.acmp (g := (mkF m 417 (fL mode lo hi len pos ch (.val (.int (mode &&& (3 : Int32)))) (.val (.ref b)) (.val (.int (2 : Int32))) (.val (.ref sx)) (.val .null) (.val .null)) [.null, .null])) X15 hx rfl rfl rfl (pc0 := 417) (pc' := 420) (same := true) rfl (hb hby at_417) rfl (decide_eq_true rfl) (by decide) (by decide) ?_
    show Steps p.tables e below (T15.setTop (mkF m 420 (fL mode lo hi len pos ch (.val (.int (mode &&& (3 : Int32)))) (.val (.ref b)) (.val (.int (2 : Int32))) (.val (.ref sx)) (.val .null) (.val .null)) [])) _
    refine XS.iconst X15.here hx rfl (hb hby at_420) ?_
    refine XS.goto X15.here hx rfl (pc0 := 421) (pc' := 425) rfl (hb hby at_421) (by decide) (by decide) ?_
    show Steps p.tables e below (T15.setTop (mkF m 425 (fL mode lo hi len pos ch (.val (.int (mode &&& (3 : Int32)))) (.val (.ref b)) (.val (.int (2 : Int32))) (.val (.ref sx)) (.val .null) (.val .null)) [(.int (1 : Int32))])) _
    exact kt
  obtain ⟨fs, hr, hrun, hended, hRW⟩ := X15.leaveW hS (own_hk e15 HK14) (v := some (.int (1 : Int32))) (fun h => by rw [hbr] at h; cases h)
  refine ⟨_, _, k16 _ ?_, hrun, hended, _, _, rfl, ?_, hRW.1, hRW.2.1, hRW.2.2.1, hRW.2.2.2.mono (by decide) (by decide)⟩
  · exact retN X15 hx (t := .boolean) hbr (by simp) (hb hby at_425) hr
  · show QL n0 _ T15.heap _
    exact ⟨rfl, N15⟩
set_option maxRecDepth 65536 in
set_option maxHeartbeats 40000000 in
theorem tail_3 (l : Launch) (Z : State) (a0 : Array Value) (hw : ∀ d ∈ tables_1, d.before a0 Z = true) {p : Program} {e : Env} {s : State} {m : MethodId} {below : List Frame} {meth : Method} {c : Code} {s₁ T0 : State} {locs0 : List Loc} (mode lo hi len pos ch : Int32) (w9 : Slot) (b : Addr) (kc : ClassId) (sg0 sg1 sg2 sg3 sg4 sg5 sg6 sg7 : Int32) (cz : Int32) (v_EMPTY vv : Addr) (kv : ClassId) (v_NONE n_NONE t_NONE : Addr) (k_NONE : ClassId) (v_CSV n_CSV t_CSV : Addr) (k_CSV : ClassId) (v_DATABASE n_DATABASE t_DATABASE : Addr) (k_DATABASE : ClassId) (h0 : Heap) (n0 : Nat) (Z0 : n0 ≤ h0.size)
    (hx : p.tables.exec = Jvm.exec) (hby : c.code = code) (hml : c.maxLocals = 12) (hbr : meth.sig.returnType = ret) (hlk : meth.locks = false) (hZ : Z.Warmed39 (s.setVm s.vm).vm) (hown : (s.setVm s.vm).vm.findClass "com/example/lifetable/lifetable/output/ExportFormatNamedPinLaw" = some m.cls) (X0 : Stand p l e room_1 (s.setVm s.vm) m #[(.int mode), (.int lo), (.int hi), (.int len), (.int pos), (.int ch)] below meth c T0 locs0 (0 + 1) (0 + 8)) (e0 : T0.heap = h0) (N0 : Fr n0 locs0) (hS : s.Since s.vm s.heap.size) (HK0 : s.heap.size ≤ h0.size) (hCH : CHv Z ELs s.vm h0)
    (hWd : World Z h0 cz v_EMPTY vv kv v_NONE n_NONE t_NONE k_NONE v_CSV n_CSV t_CSV k_CSV v_DATABASE n_DATABASE t_DATABASE k_DATABASE) (hcz : ¬ cz = 0) (Vb : Arv Z h0 b kc .char (8 : Int32) [(.int sg0), (.int sg1), (.int sg2), (.int sg3), (.int sg4), (.int sg5), (.int sg6), (.int sg7)] (.int (0 : Int32))) (ok0 : ok sg0) (ok1 : ok sg1) (ok2 : ok sg2) (ok3 : ok sg3) (ok4 : ok sg4) (ok5 : ok sg5) (ok6 : ok sg6) (ok7 : ok sg7) (h9 : ∀ y : Addr, storeLocals #[.val (.int mode), .val (.int lo), .val (.int hi), .val (.int len), .val (.int pos), .val (.int ch), .val (.int (mode &&& (3 : Int32))), .val (.ref b), .val (.int (3 : Int32)), w9, .unset, .unset] 9 (.ref y) = some #[.val (.int mode), .val (.int lo), .val (.int hi), .val (.int len), .val (.int pos), .val (.int ch), .val (.int (mode &&& (3 : Int32))), .val (.ref b), .val (.int (3 : Int32)), .val (.ref y), .unset, .unset]) (k0 : ∀ tg, Steps p.tables e below (T0.setTop (mkF m 336 (fL mode lo hi len pos ch (.val (.int (mode &&& (3 : Int32)))) (.val (.ref b)) (.val (.int (3 : Int32))) w9 .unset .unset) [])) tg → Steps p.tables e below (s₁.setTop (entryFrame m #[(.int mode), (.int lo), (.int hi), (.int len), (.int pos), (.int ch)] maxLocals)) tg) :
    ∃ s₂ o_, Steps p.tables e below (s₁.setTop (entryFrame m #[(.int mode), (.int lo), (.int hi), (.int len), (.int pos), (.int ch)] maxLocals)) s₂ ∧ s₂.status = .running ∧ Ended s₂ below o_ ∧ ∃ v_ L_, o_ = .returned v_ ∧ QL n0 v_ s₂.heap L_ ∧ ReturnedEndW s o_ s₂ L_ room_1.cells room_1.slots := by
  have CH0 : CHr Z ELs s.vm h0 s.vm h0 := CHr.refl hCH
  have hEW := own_EW hw
  have hweq : ∀ d ∈ StrChars.Road.wordsEq, d.before a0 Z = true := fun d hd => hw d ((by decide +kernel : ∀ d ∈ StrChars.Road.wordsEq, d ∈ tables_1) d hd)
  have hp : ∀ c ∈ ([sg0, sg1, sg2] : List Int32), ¬ c < 0 ∧ ¬ (255 : Int32) < c := by
    intro c hc
    simp only [List.mem_cons, List.not_mem_nil, or_false] at hc
    rcases hc with rfl | rfl | rfl <;> assumption
  have hcd : StrChars.Road.CodA ([sg0, sg1, sg2] : List Int32) 0 (Int32.ofNat ([sg0, sg1, sg2] : List Int32).length) ((([sg0, sg1, sg2] : List Int32).map fun c => c.toInt8.toInt32).map Value.int) := StrChars.Road.codOf (n := 3) rfl (fun c hc => (hp c hc).2)
  have hbd := own_up _ hp
  by_cases hq : ([sg0, sg1, sg2] : List Int32) = tCsv
  · obtain ⟨_, _, ⟨T1, L1, k1, n1⟩, -, X1, ⟨Lc1, hQ1, l1, y1, z1⟩, st1⟩ := Jvm.LawKit.callS X0 hx (y := (⟨"com/example/lifetable/lifetable/output/ExportFormatNamedPinLaw", "str", "([CI)Ljava/lang/String;"⟩ : MethodName)) hown (mvT hZ (ww hw 2 rfl)) (mvT hZ (ww hw 3 rfl)) (mvT hZ (ww hw 4 rfl)) (mvT hZ (ww hw 5 rfl)) (by decide) (backOf (W := 0) (rmStr3 l Z a0 hw [] b kc cz sg0 sg1 sg2 sg3 sg4 sg5 sg6 sg7 h0 n0 Z0 Vb ok0 ok1 ok2 ok3 ok4 ok5 ok6 ok7 ((hWd.ext (own_extK (Keep.refl h0 []))).1) hcz) hZ (ww hw 5 rfl) (ww hw 4 rfl) (by decide) (by decide)) (g := (mkF m 340 (fL mode lo hi len pos ch (.val (.int (mode &&& (3 : Int32)))) (.val (.ref b)) (.val (.int (3 : Int32))) w9 .unset .unset) [(.int (3 : Int32)), (.ref b)])) rfl (by rw [hml]; rfl) (argsL := [(.ref b), (.int (3 : Int32))]) (rest := []) (lenOf pd_8 rfl) rfl (by show 2 * 0 + _ ≤ _; exact Nat.le_of_eq rfl) (hb hby at_340) (fun _ _ => ⟨rfl, e0, (by decide : 1 + 3 ≤ _), (by decide : 8 + 10 ≤ _)⟩)
    dsimp only [Pt.U, Pt.locs, Pt.cells, Pt.slots] at X1 l1 y1 z1 st1 hQ1
    subst l1 y1 z1
    obtain ⟨N1q, K1, sx, bt1, kb1, rfl, le1, E1x, C1x, F1x, V1x⟩ := hQ1
    have N1 := Fr.app N0 N1q
    have ne_b_sx : b ≠ sx := Nat.ne_of_lt (Nat.lt_of_lt_of_le Vb.lt le1)
    have g_sx : n0 ≤ sx := Nat.le_trans Z0 le1
    have sz_sx : h0.size ≤ sx := Nat.le_trans (Keep.refl h0 []).1 le1
    have HK1 := Nat.le_trans HK0 K1.1
    have CH1 := CH0.trans (CHr.keep K1 all0 CH0.1)
    have Z1 := Nat.le_trans Z0 K1.1
    have KP1 := (Keep.refl h0 []).trans K1 all0
    have k2 : ∀ tg, Steps p.tables e below (T1.setTop (mkF m 350 (fL mode lo hi len pos ch (.val (.int (mode &&& (3 : Int32)))) (.val (.ref b)) (.val (.int (3 : Int32))) (.val (.ref sx)) (.val .null) .unset) [(.ref sx)])) tg → Steps p.tables e below (s₁.setTop (entryFrame m #[(.int mode), (.int lo), (.int hi), (.int len), (.int pos), (.int ch)] maxLocals)) tg := by
      intro tg kt
      refine k0 tg ?_
      show Steps p.tables e below (T0.setTop (mkF m 336 (fL mode lo hi len pos ch (.val (.int (mode &&& (3 : Int32)))) (.val (.ref b)) (.val (.int (3 : Int32))) w9 .unset .unset) [])) _
      refine XS.aload X0.here hx rfl (hb hby at_336) rfl rfl ?_
      refine XS.iload X0.here hx rfl (hb hby at_338) rfl ?_
      refine st1 _ ?_
      show Steps p.tables e below (T1.setTop (mkF m 343 (fL mode lo hi len pos ch (.val (.int (mode &&& (3 : Int32)))) (.val (.ref b)) (.val (.int (3 : Int32))) w9 .unset .unset) [(.ref sx)])) _
      refine XS.astore X1.here hx rfl (hb hby at_343) rfl rfl (l' := (fL mode lo hi len pos ch (.val (.int (mode &&& (3 : Int32)))) (.val (.ref b)) (.val (.int (3 : Int32))) (.val (.ref sx)) .unset .unset)) (h9 _) ?_
      refine XS.aconstNull X1.here hx rfl (hb hby at_345) ?_
      refine XS.astore X1.here hx rfl (hb hby at_346) rfl rfl (l' := (fL mode lo hi len pos ch (.val (.int (mode &&& (3 : Int32)))) (.val (.ref b)) (.val (.int (3 : Int32))) (.val (.ref sx)) (.val .null) .unset)) rfl ?_
      refine XS.aload X1.here hx rfl (hb hby at_348) rfl rfl ?_
      show Steps p.tables e below (T1.setTop (mkF m 350 (fL mode lo hi len pos ch (.val (.int (mode &&& (3 : Int32)))) (.val (.ref b)) (.val (.int (3 : Int32))) (.val (.ref sx)) (.val .null) .unset) [(.ref sx)])) _
      exact kt
    obtain ⟨lt3, T3, h3, kk3, bb3, kb3, X3, e3, E3, hS, HQ3, hZ, hown, Ex3, Fc3, Fv3, Va3, la3, lb3, CQ3, -, saf3, st3⟩ := ldcCH X1 hx hZ hown (ww hw 35 rfl) (own_wS hw) rfl hS HK1 hEW (by decide) CH1.1 (vs := [(.int (110 : Int32)), (.int (111 : Int32)), (.int (110 : Int32)), (.int (101 : Int32))]) (z := (4 : Int32)) ⟨by decide, by decide⟩ (by decide) (by decide) (g := (mkF m 350 (fL mode lo hi len pos ch (.val (.int (mode &&& (3 : Int32)))) (.val (.ref b)) (.val (.int (3 : Int32))) (.val (.ref sx)) (.val .null) .unset) [(.ref sx)])) rfl (hb hby at_350) (n := 16) (by decide +kernel) (by decide) (by decide) (by decide)
    have CH3 := CH1.trans CQ3
    have HK3 := Nat.le_trans HK1 E3.1
    have E3_sx := E1x.ext E3
    have F3_sx_coder := C1x.ext E3
    have F3_sx_value := F1x.ext E3
    have V3_bt1 := V1x.ext E3
    have Z3 := Nat.le_trans Z1 E3.1
    have KP3 := KP1.ext E3
    obtain ⟨cq4, kq4, q4a, q4b, q4c⟩ := isOf hZ e3 E3_sx
    obtain ⟨_, _, ⟨T4, L4, k4, n4⟩, -, X4, ⟨Lc4, hQ4, l4, y4, z4⟩, st4⟩ := X3.virtualBack hx (y := (⟨"java/lang/String", "equals", "(Ljava/lang/Object;)Z"⟩ : MethodName)) (z := (⟨"java/lang/String", "equals", "(Ljava/lang/Object;)Z"⟩ : MethodName)) hown (mvT hZ (ww hw 38 rfl)) (mvT hZ (ww hw 39 rfl)) (notFace_of_selects (args := #[]) (mvT hZ (ww hw 41 rfl))) (mvT hZ (ww hw 41 rfl)) (mvT hZ (ww hw 40 rfl)) (by decide) (StrChars.Road.eqW (W := 0) hZ hweq (kI := 4) (ww hw 7 rfl) E3_sx F3_sx_value F3_sx_coder V3_bt1 hcd hbd (Nat.le_of_ble_eq_true rfl) Ex3 Fv3 Fc3 Va3 own_cNone own_bNone (Nat.le_of_ble_eq_true rfl) ((hWd.ext (own_extK KP3)).1) hcz (by decide) (by decide)) q4a q4c (g := (mkF m 352 (fL mode lo hi len pos ch (.val (.int (mode &&& (3 : Int32)))) (.val (.ref b)) (.val (.int (3 : Int32))) (.val (.ref sx)) (.val .null) .unset) [(.ref lt3), (.ref sx)])) rfl (by rw [hml]; rfl) (Steps.refl _) (argsL := [(.ref lt3)]) (rest := []) (lenOf pd_6 rfl) rfl (by show 2 * 0 + _ ≤ _; exact Nat.le_of_eq rfl) (hb hby at_352) (fun _ _ => ⟨rfl, e3, (by decide : 6 + 0 ≤ _), (by decide : 38 + 0 ≤ _)⟩)
    dsimp only [Pt.U, Pt.locs, Pt.cells, Pt.slots] at X4 l4 y4 z4 st4 hQ4
    subst l4 y4 z4
    obtain ⟨hv4, rfl, e4⟩ := hQ4
    obtain rfl := own_eq0 hv4 (by simp [tNone])
    have N4 := Fr.app N1 (Fr.nil n0)
    have hd5 : (0 : Int32) = (0 : Int32) := rfl
    have k6 : ∀ tg, Steps p.tables e below (T4.setTop (mkF m 368 (fL mode lo hi len pos ch (.val (.int (mode &&& (3 : Int32)))) (.val (.ref b)) (.val (.int (3 : Int32))) (.val (.ref sx)) (.val .null) .unset) [(.ref sx)])) tg → Steps p.tables e below (s₁.setTop (entryFrame m #[(.int mode), (.int lo), (.int hi), (.int len), (.int pos), (.int ch)] maxLocals)) tg := by
      intro tg kt
      refine k2 tg ?_
      refine st3 _ ?_
      refine st4.trans ?_
      refine XS.ifYes X4.here hx rfl (pc0 := 355) (pc' := 366) rfl (hb hby at_355) rfl ((if0 _ _).trans (teq hd5).1) (by decide) (by decide) ?_
      refine XS.aload X4.here hx rfl (hb hby at_366) rfl rfl ?_
      exact kt
    obtain ⟨lt7, T7, h7, kk7, bb7, kb7, X7, e7, E7, hS, HQ7, hZ, hown, Ex7, Fc7, Fv7, Va7, la7, lb7, CQ7, -, saf7, st7⟩ := ldcCH X4 hx hZ hown (ww hw 48 rfl) (own_wS hw) e4 hS HQ3 hEW (by decide) CH3.1 (vs := [(.int (99 : Int32)), (.int (115 : Int32)), (.int (118 : Int32))]) (z := (3 : Int32)) ⟨by decide, by decide⟩ (by decide) (by decide) (g := (mkF m 368 (fL mode lo hi len pos ch (.val (.int (mode &&& (3 : Int32)))) (.val (.ref b)) (.val (.int (3 : Int32))) (.val (.ref sx)) (.val .null) .unset) [(.ref sx)])) rfl (hb hby at_368) (n := 12) (by decide +kernel) (by decide) (by decide) (by decide)
    have CH7 := CH3.trans CQ7
    have HK7 := Nat.le_trans HQ3 E7.1
    have E7_sx := E3_sx.ext E7
    have F7_sx_coder := F3_sx_coder.ext E7
    have F7_sx_value := F3_sx_value.ext E7
    have V7_bt1 := V3_bt1.ext E7
    have E7_lt3 := Ex3.ext E7
    have F7_lt3_coder := Fc3.ext E7
    have F7_lt3_value := Fv3.ext E7
    have V7_bb3 := Va3.ext E7
    have Z7 := Nat.le_trans Z3 E7.1
    have KP7 := KP3.ext E7
    obtain ⟨cq8, kq8, q8a, q8b, q8c⟩ := isOf hZ e7 E7_sx
    obtain ⟨_, _, ⟨T8, L8, k8, n8⟩, -, X8, ⟨Lc8, hQ8, l8, y8, z8⟩, st8⟩ := X7.virtualBack hx (y := (⟨"java/lang/String", "equals", "(Ljava/lang/Object;)Z"⟩ : MethodName)) (z := (⟨"java/lang/String", "equals", "(Ljava/lang/Object;)Z"⟩ : MethodName)) hown (mvT hZ (ww hw 38 rfl)) (mvT hZ (ww hw 39 rfl)) (notFace_of_selects (args := #[]) (mvT hZ (ww hw 41 rfl))) (mvT hZ (ww hw 41 rfl)) (mvT hZ (ww hw 40 rfl)) (by decide) (StrChars.Road.eqW (W := 0) hZ hweq (kI := 4) (ww hw 7 rfl) E7_sx F7_sx_value F7_sx_coder V7_bt1 hcd hbd (Nat.le_of_ble_eq_true rfl) Ex7 Fv7 Fc7 Va7 own_cCsv own_bCsv (Nat.le_of_ble_eq_true rfl) ((hWd.ext (own_extK KP7)).1) hcz (by decide) (by decide)) q8a q8c (g := (mkF m 370 (fL mode lo hi len pos ch (.val (.int (mode &&& (3 : Int32)))) (.val (.ref b)) (.val (.int (3 : Int32))) (.val (.ref sx)) (.val .null) .unset) [(.ref lt7), (.ref sx)])) rfl (by rw [hml]; rfl) (Steps.refl _) (argsL := [(.ref lt7)]) (rest := []) (lenOf pd_6 rfl) rfl (by show 2 * 0 + _ ≤ _; exact Nat.le_of_eq rfl) (hb hby at_370) (fun _ _ => ⟨rfl, e7, (by decide : 8 + 0 ≤ _), (by decide : 54 + 0 ≤ _)⟩)
    dsimp only [Pt.U, Pt.locs, Pt.cells, Pt.slots] at X8 l8 y8 z8 st8 hQ8
    subst l8 y8 z8
    obtain ⟨hv8, rfl, e8⟩ := hQ8
    obtain rfl := own_eq1 hv8 hq
    have N8 := Fr.app N4 (Fr.nil n0)
    have hd9 : ¬ ((1 : Int32) = (0 : Int32)) := by decide
    obtain ⟨T10, X10, e10, st10⟩ := getS2 X8 hx hZ hown (host := "") (Or.inl (ww hw 87 rfl)) Via.refl e8 ((hWd.ext (own_extK KP7)).2.2.2.2.2.2.2.2.2.2.2.2.2.2.1) (g := (mkF m 376 (fL mode lo hi len pos ch (.val (.int (mode &&& (3 : Int32)))) (.val (.ref b)) (.val (.int (3 : Int32))) (.val (.ref sx)) (.val .null) .unset) [])) rfl (hb hby at_376)
    obtain ⟨_, _, ⟨T11, L11, k11, n11⟩, -, X11, ⟨Lc11, hQ11, l11, y11, z11⟩, st11⟩ := Jvm.LawKit.callS X10 hx (y := (⟨"com/example/lifetable/lifetable/output/ExportFormat", "named", "(Ljava/lang/String;)Ljava/util/Optional;"⟩ : MethodName)) hown (mvT hZ (ww hw 50 rfl)) (mvT hZ (ww hw 51 rfl)) (mvT hZ (ww hw 52 rfl)) (mvT hZ (ww hw 53 rfl)) (by decide) (backOf (W := 0) (rmNamedCSV l Z a0 hw [] sx ([sg0, sg1, sg2] : List Int32) bt1 kb1 (Int32.ofNat ([sg0, sg1, sg2] : List Int32).length) ((([sg0, sg1, sg2] : List Int32).map fun c => c.toInt8.toInt32).map Value.int) cz v_EMPTY vv kv v_NONE n_NONE t_NONE k_NONE v_CSV n_CSV t_CSV k_CSV v_DATABASE n_DATABASE t_DATABASE k_DATABASE h7 n0 Z7 (hWd.ext (own_extK KP7)) hcz E7_sx F7_sx_value F7_sx_coder V7_bt1 hcd hbd (Nat.le_of_ble_eq_true rfl) (by simp [tNone]) hq.symm (by simp [tData])) hZ (ww hw 53 rfl) (ww hw 52 rfl) (by decide) (by decide)) (g := (mkF m 401 (fL mode lo hi len pos ch (.val (.int (mode &&& (3 : Int32)))) (.val (.ref b)) (.val (.int (3 : Int32))) (.val (.ref sx)) (.val (.ref v_CSV)) .unset) [(.ref sx)])) rfl (by rw [hml]; rfl) (argsL := [(.ref sx)]) (rest := []) (lenOf pd_9 rfl) rfl (by show 2 * 0 + _ ≤ _; exact Nat.le_of_eq rfl) (hb hby at_401) (fun _ _ => ⟨rfl, e10, (by decide : 8 + 2 ≤ _), (by decide : 54 + 4 ≤ _)⟩)
    dsimp only [Pt.U, Pt.locs, Pt.cells, Pt.slots] at X11 l11 y11 z11 st11 hQ11
    subst l11 y11 z11
    obtain ⟨N11q, K11, on11, rfl, E11o, Fv11⟩ := hQ11
    have N11 := Fr.app N8 N11q
    have HK11 := Nat.le_trans HQ7 K11.1
    have CH11 := CH7.trans (CHr.keep K11 all0 CH7.1)
    have E11_sx := E7_sx.keep K11
    have F11_sx_coder := F7_sx_coder.keep K11 nin0
    have F11_sx_value := F7_sx_value.keep K11 nin0
    have V11_bt1 := V7_bt1.keep K11 nin0
    have E11_lt3 := E7_lt3.keep K11
    have F11_lt3_coder := F7_lt3_coder.keep K11 nin0
    have F11_lt3_value := F7_lt3_value.keep K11 nin0
    have V11_bb3 := V7_bb3.keep K11 nin0
    have E11_lt7 := Ex7.keep K11
    have F11_lt7_coder := Fc7.keep K11 nin0
    have F11_lt7_value := Fv7.keep K11 nin0
    have V11_bb7 := Va7.keep K11 nin0
    have Z11 := Nat.le_trans Z7 K11.1
    have KP11 := KP7.trans K11 all0
    obtain ⟨cq12, kq12, q12a, q12b, q12c⟩ := isOf hZ rfl E11o
    obtain ⟨_, _, ⟨T12, L12, k12, n12⟩, -, X12, ⟨Lc12, hQ12, l12, y12, z12⟩, st12⟩ := X11.virtualBack hx (y := (⟨"java/util/Optional", "orElse", "(Ljava/lang/Object;)Ljava/lang/Object;"⟩ : MethodName)) (z := (⟨"java/util/Optional", "orElse", "(Ljava/lang/Object;)Ljava/lang/Object;"⟩ : MethodName)) hown (mvT hZ (ww hw 80 rfl)) (mvT hZ (ww hw 81 rfl)) (notFace_of_selects (args := #[]) (mvT hZ (ww hw 83 rfl))) (mvT hZ (ww hw 83 rfl)) (mvT hZ (ww hw 82 rfl)) (by decide) (backOf (W := 0) (rmOr1 l Z a0 hw [] on11 v_CSV T11.heap n0 Fv11) hZ (ww hw 84 rfl) (ww hw 56 rfl) (by decide) (by decide)) q12a q12c (g := (mkF m 405 (fL mode lo hi len pos ch (.val (.int (mode &&& (3 : Int32)))) (.val (.ref b)) (.val (.int (3 : Int32))) (.val (.ref sx)) (.val (.ref v_CSV)) .unset) [.null, (.ref on11)])) rfl (by rw [hml]; rfl) (Steps.refl _) (argsL := [.null]) (rest := []) (lenOf pd_2 rfl) rfl (by show 2 * 0 + _ ≤ _; exact Nat.le_of_eq rfl) (hb hby at_405) (fun _ _ => ⟨rfl, rfl, (by decide : 10 + 0 ≤ _), (by decide : 58 + 0 ≤ _)⟩)
    dsimp only [Pt.U, Pt.locs, Pt.cells, Pt.slots] at X12 l12 y12 z12 st12 hQ12
    subst l12 y12 z12
    obtain ⟨rfl, N12q, e12⟩ := hQ12
    have N12 := Fr.app N11 N12q
    obtain ⟨T13, X13, e13, st13⟩ := castY X12 hx hZ hown (ww hw 102 rfl) e12 (Ins.self ((hWd.ext (own_extK KP11)).2.2.2.2.2.2.2.2.2.2.2.2.2.2.2.1)) (g := (mkF m 408 (fL mode lo hi len pos ch (.val (.int (mode &&& (3 : Int32)))) (.val (.ref b)) (.val (.int (3 : Int32))) (.val (.ref sx)) (.val (.ref v_CSV)) .unset) [(.ref v_CSV)])) rfl rfl (hb hby at_408)
    have k14 : ∀ tg, Steps p.tables e below (T13.setTop (mkF m 425 (fL mode lo hi len pos ch (.val (.int (mode &&& (3 : Int32)))) (.val (.ref b)) (.val (.int (3 : Int32))) (.val (.ref sx)) (.val (.ref v_CSV)) (.val (.ref v_CSV))) [(.int (1 : Int32))])) tg → Steps p.tables e below (s₁.setTop (entryFrame m #[(.int mode), (.int lo), (.int hi), (.int len), (.int pos), (.int ch)] maxLocals)) tg := by
      intro tg kt
      refine k6 tg ?_
      refine st7 _ ?_
      refine st8.trans ?_
      refine XS.ifNo X8.here hx rfl (hb hby at_373) rfl ((if0 _ _).trans (feq hd9).1) ?_
      refine st10 _ ?_
      show Steps p.tables e below (T10.setTop (mkF m 379 (fL mode lo hi len pos ch (.val (.int (mode &&& (3 : Int32)))) (.val (.ref b)) (.val (.int (3 : Int32))) (.val (.ref sx)) (.val .null) .unset) [(.ref v_CSV)])) _
      refine XS.astore X10.here hx rfl (hb hby at_379) rfl rfl (l' := (fL mode lo hi len pos ch (.val (.int (mode &&& (3 : Int32)))) (.val (.ref b)) (.val (.int (3 : Int32))) (.val (.ref sx)) (.val (.ref v_CSV)) .unset)) rfl ?_
      refine XS.goto X10.here hx rfl (pc0 := 381) (pc' := 399) rfl (hb hby at_381) (by decide) (by decide) ?_
      refine XS.aload X10.here hx rfl (hb hby at_399) rfl rfl ?_
      refine st11 _ ?_
      show Steps p.tables e below (T11.setTop (mkF m 404 (fL mode lo hi len pos ch (.val (.int (mode &&& (3 : Int32)))) (.val (.ref b)) (.val (.int (3 : Int32))) (.val (.ref sx)) (.val (.ref v_CSV)) .unset) [(.ref on11)])) _
      refine XS.aconstNull X11.here hx rfl (hb hby at_404) ?_
      refine st12.trans ?_
      refine st13 _ ?_
      refine XS.astore X13.here hx rfl (hb hby at_411) rfl rfl (l' := (fL mode lo hi len pos ch (.val (.int (mode &&& (3 : Int32)))) (.val (.ref b)) (.val (.int (3 : Int32))) (.val (.ref sx)) (.val (.ref v_CSV)) (.val (.ref v_CSV)))) rfl ?_
      refine XS.aload X13.here hx rfl (hb hby at_413) rfl rfl ?_
      refine XS.aload X13.here hx rfl (hb hby at_415) rfl rfl ?_
      show Steps p.tables e below (T13.setTop (mkF m 417 (fL mode lo hi len pos ch (.val (.int (mode &&& (3 : Int32)))) (.val (.ref b)) (.val (.int (3 : Int32))) (.val (.ref sx)) (.val (.ref v_CSV)) (.val (.ref v_CSV))) [(.ref v_CSV), (.ref v_CSV)])) _
      refine Jvm.RoadKit.acmp (g := (mkF m 417 (fL mode lo hi len pos ch (.val (.int (mode &&& (3 : Int32)))) (.val (.ref b)) (.val (.int (3 : Int32))) (.val (.ref sx)) (.val (.ref v_CSV)) (.val (.ref v_CSV))) [(.ref v_CSV), (.ref v_CSV)])) X13 hx rfl rfl rfl (pc0 := 417) (pc' := 420) (same := true) rfl (hb hby at_417) rfl (decide_eq_true rfl) (by decide) (by decide) ?_
      refine XS.iconst X13.here hx rfl (hb hby at_420) ?_
      refine XS.goto X13.here hx rfl (pc0 := 421) (pc' := 425) rfl (hb hby at_421) (by decide) (by decide) ?_
      show Steps p.tables e below (T13.setTop (mkF m 425 (fL mode lo hi len pos ch (.val (.int (mode &&& (3 : Int32)))) (.val (.ref b)) (.val (.int (3 : Int32))) (.val (.ref sx)) (.val (.ref v_CSV)) (.val (.ref v_CSV))) [(.int (1 : Int32))])) _
      exact kt
    obtain ⟨fs, hr, hrun, hended, hRW⟩ := X13.leaveW hS (own_hk e13 HK11) (v := some (.int (1 : Int32))) (fun h => by rw [hbr] at h; cases h)
    refine ⟨_, _, k14 _ ?_, hrun, hended, _, _, rfl, ?_, hRW.1, hRW.2.1, hRW.2.2.1, hRW.2.2.2.mono (by decide) (by decide)⟩
    · exact retN X13 hx (t := .boolean) hbr (by simp) (hb hby at_425) hr
    · show QL n0 _ T13.heap _
      exact ⟨rfl, N12⟩
  · obtain ⟨_, _, ⟨T15, L15, k15, n15⟩, -, X15, ⟨Lc15, hQ15, l15, y15, z15⟩, st15⟩ := Jvm.LawKit.callS X0 hx (y := (⟨"com/example/lifetable/lifetable/output/ExportFormatNamedPinLaw", "str", "([CI)Ljava/lang/String;"⟩ : MethodName)) hown (mvT hZ (ww hw 2 rfl)) (mvT hZ (ww hw 3 rfl)) (mvT hZ (ww hw 4 rfl)) (mvT hZ (ww hw 5 rfl)) (by decide) (backOf (W := 0) (rmStr3 l Z a0 hw [] b kc cz sg0 sg1 sg2 sg3 sg4 sg5 sg6 sg7 h0 n0 Z0 Vb ok0 ok1 ok2 ok3 ok4 ok5 ok6 ok7 ((hWd.ext (own_extK (Keep.refl h0 []))).1) hcz) hZ (ww hw 5 rfl) (ww hw 4 rfl) (by decide) (by decide)) (g := (mkF m 340 (fL mode lo hi len pos ch (.val (.int (mode &&& (3 : Int32)))) (.val (.ref b)) (.val (.int (3 : Int32))) w9 .unset .unset) [(.int (3 : Int32)), (.ref b)])) rfl (by rw [hml]; rfl) (argsL := [(.ref b), (.int (3 : Int32))]) (rest := []) (lenOf pd_8 rfl) rfl (by show 2 * 0 + _ ≤ _; exact Nat.le_of_eq rfl) (hb hby at_340) (fun _ _ => ⟨rfl, e0, (by decide : 1 + 3 ≤ _), (by decide : 8 + 10 ≤ _)⟩)
    dsimp only [Pt.U, Pt.locs, Pt.cells, Pt.slots] at X15 l15 y15 z15 st15 hQ15
    subst l15 y15 z15
    obtain ⟨N15q, K15, sx, bt15, kb15, rfl, le15, E15x, C15x, F15x, V15x⟩ := hQ15
    have N15 := Fr.app N0 N15q
    have ne_b_sx : b ≠ sx := Nat.ne_of_lt (Nat.lt_of_lt_of_le Vb.lt le15)
    have g_sx : n0 ≤ sx := Nat.le_trans Z0 le15
    have sz_sx : h0.size ≤ sx := Nat.le_trans (Keep.refl h0 []).1 le15
    have HK15 := Nat.le_trans HK0 K15.1
    have CH15 := CH0.trans (CHr.keep K15 all0 CH0.1)
    have Z15 := Nat.le_trans Z0 K15.1
    have KP15 := (Keep.refl h0 []).trans K15 all0
    have k16 : ∀ tg, Steps p.tables e below (T15.setTop (mkF m 350 (fL mode lo hi len pos ch (.val (.int (mode &&& (3 : Int32)))) (.val (.ref b)) (.val (.int (3 : Int32))) (.val (.ref sx)) (.val .null) .unset) [(.ref sx)])) tg → Steps p.tables e below (s₁.setTop (entryFrame m #[(.int mode), (.int lo), (.int hi), (.int len), (.int pos), (.int ch)] maxLocals)) tg := by
      intro tg kt
      refine k0 tg ?_
      show Steps p.tables e below (T0.setTop (mkF m 336 (fL mode lo hi len pos ch (.val (.int (mode &&& (3 : Int32)))) (.val (.ref b)) (.val (.int (3 : Int32))) w9 .unset .unset) [])) _
      refine XS.aload X0.here hx rfl (hb hby at_336) rfl rfl ?_
      refine XS.iload X0.here hx rfl (hb hby at_338) rfl ?_
      refine st15 _ ?_
      show Steps p.tables e below (T15.setTop (mkF m 343 (fL mode lo hi len pos ch (.val (.int (mode &&& (3 : Int32)))) (.val (.ref b)) (.val (.int (3 : Int32))) w9 .unset .unset) [(.ref sx)])) _
      refine XS.astore X15.here hx rfl (hb hby at_343) rfl rfl (l' := (fL mode lo hi len pos ch (.val (.int (mode &&& (3 : Int32)))) (.val (.ref b)) (.val (.int (3 : Int32))) (.val (.ref sx)) .unset .unset)) (h9 _) ?_
      refine XS.aconstNull X15.here hx rfl (hb hby at_345) ?_
      refine XS.astore X15.here hx rfl (hb hby at_346) rfl rfl (l' := (fL mode lo hi len pos ch (.val (.int (mode &&& (3 : Int32)))) (.val (.ref b)) (.val (.int (3 : Int32))) (.val (.ref sx)) (.val .null) .unset)) rfl ?_
      refine XS.aload X15.here hx rfl (hb hby at_348) rfl rfl ?_
      show Steps p.tables e below (T15.setTop (mkF m 350 (fL mode lo hi len pos ch (.val (.int (mode &&& (3 : Int32)))) (.val (.ref b)) (.val (.int (3 : Int32))) (.val (.ref sx)) (.val .null) .unset) [(.ref sx)])) _
      exact kt
    obtain ⟨lt17, T17, h17, kk17, bb17, kb17, X17, e17, E17, hS, HQ17, hZ, hown, Ex17, Fc17, Fv17, Va17, la17, lb17, CQ17, -, saf17, st17⟩ := ldcCH X15 hx hZ hown (ww hw 35 rfl) (own_wS hw) rfl hS HK15 hEW (by decide) CH15.1 (vs := [(.int (110 : Int32)), (.int (111 : Int32)), (.int (110 : Int32)), (.int (101 : Int32))]) (z := (4 : Int32)) ⟨by decide, by decide⟩ (by decide) (by decide) (g := (mkF m 350 (fL mode lo hi len pos ch (.val (.int (mode &&& (3 : Int32)))) (.val (.ref b)) (.val (.int (3 : Int32))) (.val (.ref sx)) (.val .null) .unset) [(.ref sx)])) rfl (hb hby at_350) (n := 16) (by decide +kernel) (by decide) (by decide) (by decide)
    have CH17 := CH15.trans CQ17
    have HK17 := Nat.le_trans HK15 E17.1
    have E17_sx := E15x.ext E17
    have F17_sx_coder := C15x.ext E17
    have F17_sx_value := F15x.ext E17
    have V17_bt15 := V15x.ext E17
    have Z17 := Nat.le_trans Z15 E17.1
    have KP17 := KP15.ext E17
    obtain ⟨cq18, kq18, q18a, q18b, q18c⟩ := isOf hZ e17 E17_sx
    obtain ⟨_, _, ⟨T18, L18, k18, n18⟩, -, X18, ⟨Lc18, hQ18, l18, y18, z18⟩, st18⟩ := X17.virtualBack hx (y := (⟨"java/lang/String", "equals", "(Ljava/lang/Object;)Z"⟩ : MethodName)) (z := (⟨"java/lang/String", "equals", "(Ljava/lang/Object;)Z"⟩ : MethodName)) hown (mvT hZ (ww hw 38 rfl)) (mvT hZ (ww hw 39 rfl)) (notFace_of_selects (args := #[]) (mvT hZ (ww hw 41 rfl))) (mvT hZ (ww hw 41 rfl)) (mvT hZ (ww hw 40 rfl)) (by decide) (StrChars.Road.eqW (W := 0) hZ hweq (kI := 4) (ww hw 7 rfl) E17_sx F17_sx_value F17_sx_coder V17_bt15 hcd hbd (Nat.le_of_ble_eq_true rfl) Ex17 Fv17 Fc17 Va17 own_cNone own_bNone (Nat.le_of_ble_eq_true rfl) ((hWd.ext (own_extK KP17)).1) hcz (by decide) (by decide)) q18a q18c (g := (mkF m 352 (fL mode lo hi len pos ch (.val (.int (mode &&& (3 : Int32)))) (.val (.ref b)) (.val (.int (3 : Int32))) (.val (.ref sx)) (.val .null) .unset) [(.ref lt17), (.ref sx)])) rfl (by rw [hml]; rfl) (Steps.refl _) (argsL := [(.ref lt17)]) (rest := []) (lenOf pd_6 rfl) rfl (by show 2 * 0 + _ ≤ _; exact Nat.le_of_eq rfl) (hb hby at_352) (fun _ _ => ⟨rfl, e17, (by decide : 6 + 0 ≤ _), (by decide : 38 + 0 ≤ _)⟩)
    dsimp only [Pt.U, Pt.locs, Pt.cells, Pt.slots] at X18 l18 y18 z18 st18 hQ18
    subst l18 y18 z18
    obtain ⟨hv18, rfl, e18⟩ := hQ18
    obtain rfl := own_eq0 hv18 (by simp [tNone])
    have N18 := Fr.app N15 (Fr.nil n0)
    have hd19 : (0 : Int32) = (0 : Int32) := rfl
    have k20 : ∀ tg, Steps p.tables e below (T18.setTop (mkF m 368 (fL mode lo hi len pos ch (.val (.int (mode &&& (3 : Int32)))) (.val (.ref b)) (.val (.int (3 : Int32))) (.val (.ref sx)) (.val .null) .unset) [(.ref sx)])) tg → Steps p.tables e below (s₁.setTop (entryFrame m #[(.int mode), (.int lo), (.int hi), (.int len), (.int pos), (.int ch)] maxLocals)) tg := by
      intro tg kt
      refine k16 tg ?_
      refine st17 _ ?_
      refine st18.trans ?_
      refine XS.ifYes X18.here hx rfl (pc0 := 355) (pc' := 366) rfl (hb hby at_355) rfl ((if0 _ _).trans (teq hd19).1) (by decide) (by decide) ?_
      refine XS.aload X18.here hx rfl (hb hby at_366) rfl rfl ?_
      exact kt
    obtain ⟨lt21, T21, h21, kk21, bb21, kb21, X21, e21, E21, hS, HQ21, hZ, hown, Ex21, Fc21, Fv21, Va21, la21, lb21, CQ21, -, saf21, st21⟩ := ldcCH X18 hx hZ hown (ww hw 48 rfl) (own_wS hw) e18 hS HQ17 hEW (by decide) CH17.1 (vs := [(.int (99 : Int32)), (.int (115 : Int32)), (.int (118 : Int32))]) (z := (3 : Int32)) ⟨by decide, by decide⟩ (by decide) (by decide) (g := (mkF m 368 (fL mode lo hi len pos ch (.val (.int (mode &&& (3 : Int32)))) (.val (.ref b)) (.val (.int (3 : Int32))) (.val (.ref sx)) (.val .null) .unset) [(.ref sx)])) rfl (hb hby at_368) (n := 12) (by decide +kernel) (by decide) (by decide) (by decide)
    have CH21 := CH17.trans CQ21
    have HK21 := Nat.le_trans HQ17 E21.1
    have E21_sx := E17_sx.ext E21
    have F21_sx_coder := F17_sx_coder.ext E21
    have F21_sx_value := F17_sx_value.ext E21
    have V21_bt15 := V17_bt15.ext E21
    have E21_lt17 := Ex17.ext E21
    have F21_lt17_coder := Fc17.ext E21
    have F21_lt17_value := Fv17.ext E21
    have V21_bb17 := Va17.ext E21
    have Z21 := Nat.le_trans Z17 E21.1
    have KP21 := KP17.ext E21
    obtain ⟨cq22, kq22, q22a, q22b, q22c⟩ := isOf hZ e21 E21_sx
    obtain ⟨_, _, ⟨T22, L22, k22, n22⟩, -, X22, ⟨Lc22, hQ22, l22, y22, z22⟩, st22⟩ := X21.virtualBack hx (y := (⟨"java/lang/String", "equals", "(Ljava/lang/Object;)Z"⟩ : MethodName)) (z := (⟨"java/lang/String", "equals", "(Ljava/lang/Object;)Z"⟩ : MethodName)) hown (mvT hZ (ww hw 38 rfl)) (mvT hZ (ww hw 39 rfl)) (notFace_of_selects (args := #[]) (mvT hZ (ww hw 41 rfl))) (mvT hZ (ww hw 41 rfl)) (mvT hZ (ww hw 40 rfl)) (by decide) (StrChars.Road.eqW (W := 0) hZ hweq (kI := 4) (ww hw 7 rfl) E21_sx F21_sx_value F21_sx_coder V21_bt15 hcd hbd (Nat.le_of_ble_eq_true rfl) Ex21 Fv21 Fc21 Va21 own_cCsv own_bCsv (Nat.le_of_ble_eq_true rfl) ((hWd.ext (own_extK KP21)).1) hcz (by decide) (by decide)) q22a q22c (g := (mkF m 370 (fL mode lo hi len pos ch (.val (.int (mode &&& (3 : Int32)))) (.val (.ref b)) (.val (.int (3 : Int32))) (.val (.ref sx)) (.val .null) .unset) [(.ref lt21), (.ref sx)])) rfl (by rw [hml]; rfl) (Steps.refl _) (argsL := [(.ref lt21)]) (rest := []) (lenOf pd_6 rfl) rfl (by show 2 * 0 + _ ≤ _; exact Nat.le_of_eq rfl) (hb hby at_370) (fun _ _ => ⟨rfl, e21, (by decide : 8 + 0 ≤ _), (by decide : 54 + 0 ≤ _)⟩)
    dsimp only [Pt.U, Pt.locs, Pt.cells, Pt.slots] at X22 l22 y22 z22 st22 hQ22
    subst l22 y22 z22
    obtain ⟨hv22, rfl, e22⟩ := hQ22
    obtain rfl := own_eq0 hv22 hq
    have N22 := Fr.app N18 (Fr.nil n0)
    have hd23 : (0 : Int32) = (0 : Int32) := rfl
    have k24 : ∀ tg, Steps p.tables e below (T22.setTop (mkF m 386 (fL mode lo hi len pos ch (.val (.int (mode &&& (3 : Int32)))) (.val (.ref b)) (.val (.int (3 : Int32))) (.val (.ref sx)) (.val .null) .unset) [(.ref sx)])) tg → Steps p.tables e below (s₁.setTop (entryFrame m #[(.int mode), (.int lo), (.int hi), (.int len), (.int pos), (.int ch)] maxLocals)) tg := by
      intro tg kt
      refine k20 tg ?_
      refine st21 _ ?_
      refine st22.trans ?_
      refine XS.ifYes X22.here hx rfl (pc0 := 373) (pc' := 384) rfl (hb hby at_373) rfl ((if0 _ _).trans (teq hd23).1) (by decide) (by decide) ?_
      refine XS.aload X22.here hx rfl (hb hby at_384) rfl rfl ?_
      exact kt
    obtain ⟨lt25, T25, h25, kk25, bb25, kb25, X25, e25, E25, hS, HQ25, hZ, hown, Ex25, Fc25, Fv25, Va25, la25, lb25, CQ25, -, saf25, st25⟩ := ldcCH X22 hx hZ hown (ww hw 49 rfl) (own_wS hw) e22 hS HQ21 hEW (by decide) CH21.1 (vs := [(.int (100 : Int32)), (.int (97 : Int32)), (.int (116 : Int32)), (.int (97 : Int32)), (.int (98 : Int32)), (.int (97 : Int32)), (.int (115 : Int32)), (.int (101 : Int32))]) (z := (8 : Int32)) ⟨by decide, by decide⟩ (by decide) (by decide) (g := (mkF m 386 (fL mode lo hi len pos ch (.val (.int (mode &&& (3 : Int32)))) (.val (.ref b)) (.val (.int (3 : Int32))) (.val (.ref sx)) (.val .null) .unset) [(.ref sx)])) rfl (hb hby at_386) (n := 32) (by decide +kernel) (by decide) (by decide) (by decide)
    have CH25 := CH21.trans CQ25
    have HK25 := Nat.le_trans HQ21 E25.1
    have E25_sx := E21_sx.ext E25
    have F25_sx_coder := F21_sx_coder.ext E25
    have F25_sx_value := F21_sx_value.ext E25
    have V25_bt15 := V21_bt15.ext E25
    have E25_lt17 := E21_lt17.ext E25
    have F25_lt17_coder := F21_lt17_coder.ext E25
    have F25_lt17_value := F21_lt17_value.ext E25
    have V25_bb17 := V21_bb17.ext E25
    have E25_lt21 := Ex21.ext E25
    have F25_lt21_coder := Fc21.ext E25
    have F25_lt21_value := Fv21.ext E25
    have V25_bb21 := Va21.ext E25
    have Z25 := Nat.le_trans Z21 E25.1
    have KP25 := KP21.ext E25
    obtain ⟨cq26, kq26, q26a, q26b, q26c⟩ := isOf hZ e25 E25_sx
    obtain ⟨_, _, ⟨T26, L26, k26, n26⟩, -, X26, ⟨Lc26, hQ26, l26, y26, z26⟩, st26⟩ := X25.virtualBack hx (y := (⟨"java/lang/String", "equals", "(Ljava/lang/Object;)Z"⟩ : MethodName)) (z := (⟨"java/lang/String", "equals", "(Ljava/lang/Object;)Z"⟩ : MethodName)) hown (mvT hZ (ww hw 38 rfl)) (mvT hZ (ww hw 39 rfl)) (notFace_of_selects (args := #[]) (mvT hZ (ww hw 41 rfl))) (mvT hZ (ww hw 41 rfl)) (mvT hZ (ww hw 40 rfl)) (by decide) (StrChars.Road.eqW (W := 0) hZ hweq (kI := 4) (ww hw 7 rfl) E25_sx F25_sx_value F25_sx_coder V25_bt15 hcd hbd (Nat.le_of_ble_eq_true rfl) Ex25 Fv25 Fc25 Va25 own_cData own_bData (Nat.le_of_ble_eq_true rfl) ((hWd.ext (own_extK KP25)).1) hcz (by decide) (by decide)) q26a q26c (g := (mkF m 388 (fL mode lo hi len pos ch (.val (.int (mode &&& (3 : Int32)))) (.val (.ref b)) (.val (.int (3 : Int32))) (.val (.ref sx)) (.val .null) .unset) [(.ref lt25), (.ref sx)])) rfl (by rw [hml]; rfl) (Steps.refl _) (argsL := [(.ref lt25)]) (rest := []) (lenOf pd_6 rfl) rfl (by show 2 * 0 + _ ≤ _; exact Nat.le_of_eq rfl) (hb hby at_388) (fun _ _ => ⟨rfl, e25, (by decide : 10 + 0 ≤ _), (by decide : 90 + 0 ≤ _)⟩)
    dsimp only [Pt.U, Pt.locs, Pt.cells, Pt.slots] at X26 l26 y26 z26 st26 hQ26
    subst l26 y26 z26
    obtain ⟨hv26, rfl, e26⟩ := hQ26
    obtain rfl := own_eq0 hv26 (by simp [tData])
    have N26 := Fr.app N22 (Fr.nil n0)
    have hd27 : (0 : Int32) = (0 : Int32) := rfl
    obtain ⟨_, _, ⟨T28, L28, k28, n28⟩, -, X28, ⟨Lc28, hQ28, l28, y28, z28⟩, st28⟩ := Jvm.LawKit.callS X26 hx (y := (⟨"com/example/lifetable/lifetable/output/ExportFormat", "named", "(Ljava/lang/String;)Ljava/util/Optional;"⟩ : MethodName)) hown (mvT hZ (ww hw 50 rfl)) (mvT hZ (ww hw 51 rfl)) (mvT hZ (ww hw 52 rfl)) (mvT hZ (ww hw 53 rfl)) (by decide) (backOf (W := 0) (rmNamed0 l Z a0 hw [] sx ([sg0, sg1, sg2] : List Int32) bt15 kb15 (Int32.ofNat ([sg0, sg1, sg2] : List Int32).length) ((([sg0, sg1, sg2] : List Int32).map fun c => c.toInt8.toInt32).map Value.int) cz v_EMPTY vv kv v_NONE n_NONE t_NONE k_NONE v_CSV n_CSV t_CSV k_CSV v_DATABASE n_DATABASE t_DATABASE k_DATABASE h25 n0 Z25 (hWd.ext (own_extK KP25)) hcz E25_sx F25_sx_value F25_sx_coder V25_bt15 hcd hbd (Nat.le_of_ble_eq_true rfl) (by simp [tNone]) (fun q => hq q.symm) (by simp [tData])) hZ (ww hw 53 rfl) (ww hw 52 rfl) (by decide) (by decide)) (g := (mkF m 401 (fL mode lo hi len pos ch (.val (.int (mode &&& (3 : Int32)))) (.val (.ref b)) (.val (.int (3 : Int32))) (.val (.ref sx)) (.val .null) .unset) [(.ref sx)])) rfl (by rw [hml]; rfl) (argsL := [(.ref sx)]) (rest := []) (lenOf pd_9 rfl) rfl (by show 2 * 0 + _ ≤ _; exact Nat.le_of_eq rfl) (hb hby at_401) (fun _ _ => ⟨rfl, e26, (by decide : 10 + 1 ≤ _), (by decide : 90 + 3 ≤ _)⟩)
    dsimp only [Pt.U, Pt.locs, Pt.cells, Pt.slots] at X28 l28 y28 z28 st28 hQ28
    subst l28 y28 z28
    obtain ⟨N28q, K28, on28, rfl, E28o, Fv28⟩ := hQ28
    have N28 := Fr.app N26 N28q
    have HK28 := Nat.le_trans HQ25 K28.1
    have CH28 := CH25.trans (CHr.keep K28 all0 CH25.1)
    have E28_sx := E25_sx.keep K28
    have F28_sx_coder := F25_sx_coder.keep K28 nin0
    have F28_sx_value := F25_sx_value.keep K28 nin0
    have V28_bt15 := V25_bt15.keep K28 nin0
    have E28_lt17 := E25_lt17.keep K28
    have F28_lt17_coder := F25_lt17_coder.keep K28 nin0
    have F28_lt17_value := F25_lt17_value.keep K28 nin0
    have V28_bb17 := V25_bb17.keep K28 nin0
    have E28_lt21 := E25_lt21.keep K28
    have F28_lt21_coder := F25_lt21_coder.keep K28 nin0
    have F28_lt21_value := F25_lt21_value.keep K28 nin0
    have V28_bb21 := V25_bb21.keep K28 nin0
    have E28_lt25 := Ex25.keep K28
    have F28_lt25_coder := Fc25.keep K28 nin0
    have F28_lt25_value := Fv25.keep K28 nin0
    have V28_bb25 := Va25.keep K28 nin0
    have Z28 := Nat.le_trans Z25 K28.1
    have KP28 := KP25.trans K28 all0
    obtain ⟨cq29, kq29, q29a, q29b, q29c⟩ := isOf hZ rfl E28o
    obtain ⟨_, _, ⟨T29, L29, k29, n29⟩, -, X29, ⟨Lc29, hQ29, l29, y29, z29⟩, st29⟩ := X28.virtualBack hx (y := (⟨"java/util/Optional", "orElse", "(Ljava/lang/Object;)Ljava/lang/Object;"⟩ : MethodName)) (z := (⟨"java/util/Optional", "orElse", "(Ljava/lang/Object;)Ljava/lang/Object;"⟩ : MethodName)) hown (mvT hZ (ww hw 80 rfl)) (mvT hZ (ww hw 81 rfl)) (notFace_of_selects (args := #[]) (mvT hZ (ww hw 83 rfl))) (mvT hZ (ww hw 83 rfl)) (mvT hZ (ww hw 82 rfl)) (by decide) (backOf (W := 0) (rmOr0 l Z a0 hw [] on28  T28.heap n0 Fv28) hZ (ww hw 84 rfl) (ww hw 56 rfl) (by decide) (by decide)) q29a q29c (g := (mkF m 405 (fL mode lo hi len pos ch (.val (.int (mode &&& (3 : Int32)))) (.val (.ref b)) (.val (.int (3 : Int32))) (.val (.ref sx)) (.val .null) .unset) [.null, (.ref on28)])) rfl (by rw [hml]; rfl) (Steps.refl _) (argsL := [.null]) (rest := []) (lenOf pd_2 rfl) rfl (by show 2 * 0 + _ ≤ _; exact Nat.le_of_eq rfl) (hb hby at_405) (fun _ _ => ⟨rfl, rfl, (by decide : 11 + 0 ≤ _), (by decide : 93 + 0 ≤ _)⟩)
    dsimp only [Pt.U, Pt.locs, Pt.cells, Pt.slots] at X29 l29 y29 z29 st29 hQ29
    subst l29 y29 z29
    obtain ⟨rfl, N29q, e29⟩ := hQ29
    have N29 := Fr.app N28 N29q
    have k30 : ∀ tg, Steps p.tables e below (T29.setTop (mkF m 425 (fL mode lo hi len pos ch (.val (.int (mode &&& (3 : Int32)))) (.val (.ref b)) (.val (.int (3 : Int32))) (.val (.ref sx)) (.val .null) (.val .null)) [(.int (1 : Int32))])) tg → Steps p.tables e below (s₁.setTop (entryFrame m #[(.int mode), (.int lo), (.int hi), (.int len), (.int pos), (.int ch)] maxLocals)) tg := by
      intro tg kt
      refine k24 tg ?_
      refine st25 _ ?_
      refine st26.trans ?_
      refine XS.ifYes X26.here hx rfl (pc0 := 391) (pc' := 399) rfl (hb hby at_391) rfl ((if0 _ _).trans (teq hd27).1) (by decide) (by decide) ?_
      refine XS.aload X26.here hx rfl (hb hby at_399) rfl rfl ?_
      show Steps p.tables e below (T26.setTop (mkF m 401 (fL mode lo hi len pos ch (.val (.int (mode &&& (3 : Int32)))) (.val (.ref b)) (.val (.int (3 : Int32))) (.val (.ref sx)) (.val .null) .unset) [(.ref sx)])) _
      refine st28 _ ?_
      refine XS.aconstNull X28.here hx rfl (hb hby at_404) ?_
      refine st29.trans ?_
      refine X29.checkcastNull hx (g := (mkF m 408 (fL mode lo hi len pos ch (.val (.int (mode &&& (3 : Int32)))) (.val (.ref b)) (.val (.int (3 : Int32))) (.val (.ref sx)) (.val .null) .unset) [.null])) rfl rfl (hb hby at_408) _ ?_
      show Steps p.tables e below (T29.setTop (mkF m 411 (fL mode lo hi len pos ch (.val (.int (mode &&& (3 : Int32)))) (.val (.ref b)) (.val (.int (3 : Int32))) (.val (.ref sx)) (.val .null) .unset) [.null])) _
      refine XS.astore X29.here hx rfl (hb hby at_411) rfl rfl (l' := (fL mode lo hi len pos ch (.val (.int (mode &&& (3 : Int32)))) (.val (.ref b)) (.val (.int (3 : Int32))) (.val (.ref sx)) (.val .null) (.val .null))) rfl ?_
      refine XS.aload X29.here hx rfl (hb hby at_413) rfl rfl ?_
      refine XS.aload X29.here hx rfl (hb hby at_415) rfl rfl ?_
      refine Jvm.RoadKit.acmp (g := (mkF m 417 (fL mode lo hi len pos ch (.val (.int (mode &&& (3 : Int32)))) (.val (.ref b)) (.val (.int (3 : Int32))) (.val (.ref sx)) (.val .null) (.val .null)) [.null, .null])) X29 hx rfl rfl rfl (pc0 := 417) (pc' := 420) (same := true) rfl (hb hby at_417) rfl (decide_eq_true rfl) (by decide) (by decide) ?_
      show Steps p.tables e below (T29.setTop (mkF m 420 (fL mode lo hi len pos ch (.val (.int (mode &&& (3 : Int32)))) (.val (.ref b)) (.val (.int (3 : Int32))) (.val (.ref sx)) (.val .null) (.val .null)) [])) _
      refine XS.iconst X29.here hx rfl (hb hby at_420) ?_
      refine XS.goto X29.here hx rfl (pc0 := 421) (pc' := 425) rfl (hb hby at_421) (by decide) (by decide) ?_
      show Steps p.tables e below (T29.setTop (mkF m 425 (fL mode lo hi len pos ch (.val (.int (mode &&& (3 : Int32)))) (.val (.ref b)) (.val (.int (3 : Int32))) (.val (.ref sx)) (.val .null) (.val .null)) [(.int (1 : Int32))])) _
      exact kt
    obtain ⟨fs, hr, hrun, hended, hRW⟩ := X29.leaveW hS (own_hk e29 HK28) (v := some (.int (1 : Int32))) (fun h => by rw [hbr] at h; cases h)
    refine ⟨_, _, k30 _ ?_, hrun, hended, _, _, rfl, ?_, hRW.1, hRW.2.1, hRW.2.2.1, hRW.2.2.2.mono (by decide) (by decide)⟩
    · exact retN X29 hx (t := .boolean) hbr (by simp) (hb hby at_425) hr
    · show QL n0 _ T29.heap _
      exact ⟨rfl, N29⟩
set_option maxRecDepth 65536 in
set_option maxHeartbeats 40000000 in
theorem tail_4 (l : Launch) (Z : State) (a0 : Array Value) (hw : ∀ d ∈ tables_1, d.before a0 Z = true) {p : Program} {e : Env} {s : State} {m : MethodId} {below : List Frame} {meth : Method} {c : Code} {s₁ T0 : State} {locs0 : List Loc} (mode lo hi len pos ch : Int32) (w9 : Slot) (b : Addr) (kc : ClassId) (sg0 sg1 sg2 sg3 sg4 sg5 sg6 sg7 : Int32) (cz : Int32) (v_EMPTY vv : Addr) (kv : ClassId) (v_NONE n_NONE t_NONE : Addr) (k_NONE : ClassId) (v_CSV n_CSV t_CSV : Addr) (k_CSV : ClassId) (v_DATABASE n_DATABASE t_DATABASE : Addr) (k_DATABASE : ClassId) (h0 : Heap) (n0 : Nat) (Z0 : n0 ≤ h0.size)
    (hx : p.tables.exec = Jvm.exec) (hby : c.code = code) (hml : c.maxLocals = 12) (hbr : meth.sig.returnType = ret) (hlk : meth.locks = false) (hZ : Z.Warmed39 (s.setVm s.vm).vm) (hown : (s.setVm s.vm).vm.findClass "com/example/lifetable/lifetable/output/ExportFormatNamedPinLaw" = some m.cls) (X0 : Stand p l e room_1 (s.setVm s.vm) m #[(.int mode), (.int lo), (.int hi), (.int len), (.int pos), (.int ch)] below meth c T0 locs0 (0 + 1) (0 + 8)) (e0 : T0.heap = h0) (N0 : Fr n0 locs0) (hS : s.Since s.vm s.heap.size) (HK0 : s.heap.size ≤ h0.size) (hCH : CHv Z ELs s.vm h0)
    (hWd : World Z h0 cz v_EMPTY vv kv v_NONE n_NONE t_NONE k_NONE v_CSV n_CSV t_CSV k_CSV v_DATABASE n_DATABASE t_DATABASE k_DATABASE) (hcz : ¬ cz = 0) (Vb : Arv Z h0 b kc .char (8 : Int32) [(.int sg0), (.int sg1), (.int sg2), (.int sg3), (.int sg4), (.int sg5), (.int sg6), (.int sg7)] (.int (0 : Int32))) (ok0 : ok sg0) (ok1 : ok sg1) (ok2 : ok sg2) (ok3 : ok sg3) (ok4 : ok sg4) (ok5 : ok sg5) (ok6 : ok sg6) (ok7 : ok sg7) (h9 : ∀ y : Addr, storeLocals #[.val (.int mode), .val (.int lo), .val (.int hi), .val (.int len), .val (.int pos), .val (.int ch), .val (.int (mode &&& (3 : Int32))), .val (.ref b), .val (.int (4 : Int32)), w9, .unset, .unset] 9 (.ref y) = some #[.val (.int mode), .val (.int lo), .val (.int hi), .val (.int len), .val (.int pos), .val (.int ch), .val (.int (mode &&& (3 : Int32))), .val (.ref b), .val (.int (4 : Int32)), .val (.ref y), .unset, .unset]) (k0 : ∀ tg, Steps p.tables e below (T0.setTop (mkF m 336 (fL mode lo hi len pos ch (.val (.int (mode &&& (3 : Int32)))) (.val (.ref b)) (.val (.int (4 : Int32))) w9 .unset .unset) [])) tg → Steps p.tables e below (s₁.setTop (entryFrame m #[(.int mode), (.int lo), (.int hi), (.int len), (.int pos), (.int ch)] maxLocals)) tg) :
    ∃ s₂ o_, Steps p.tables e below (s₁.setTop (entryFrame m #[(.int mode), (.int lo), (.int hi), (.int len), (.int pos), (.int ch)] maxLocals)) s₂ ∧ s₂.status = .running ∧ Ended s₂ below o_ ∧ ∃ v_ L_, o_ = .returned v_ ∧ QL n0 v_ s₂.heap L_ ∧ ReturnedEndW s o_ s₂ L_ room_1.cells room_1.slots := by
  have CH0 : CHr Z ELs s.vm h0 s.vm h0 := CHr.refl hCH
  have hEW := own_EW hw
  have hweq : ∀ d ∈ StrChars.Road.wordsEq, d.before a0 Z = true := fun d hd => hw d ((by decide +kernel : ∀ d ∈ StrChars.Road.wordsEq, d ∈ tables_1) d hd)
  have hp : ∀ c ∈ ([sg0, sg1, sg2, sg3] : List Int32), ¬ c < 0 ∧ ¬ (255 : Int32) < c := by
    intro c hc
    simp only [List.mem_cons, List.not_mem_nil, or_false] at hc
    rcases hc with rfl | rfl | rfl | rfl <;> assumption
  have hcd : StrChars.Road.CodA ([sg0, sg1, sg2, sg3] : List Int32) 0 (Int32.ofNat ([sg0, sg1, sg2, sg3] : List Int32).length) ((([sg0, sg1, sg2, sg3] : List Int32).map fun c => c.toInt8.toInt32).map Value.int) := StrChars.Road.codOf (n := 4) rfl (fun c hc => (hp c hc).2)
  have hbd := own_up _ hp
  by_cases hq : ([sg0, sg1, sg2, sg3] : List Int32) = tNone
  · obtain ⟨_, _, ⟨T1, L1, k1, n1⟩, -, X1, ⟨Lc1, hQ1, l1, y1, z1⟩, st1⟩ := Jvm.LawKit.callS X0 hx (y := (⟨"com/example/lifetable/lifetable/output/ExportFormatNamedPinLaw", "str", "([CI)Ljava/lang/String;"⟩ : MethodName)) hown (mvT hZ (ww hw 2 rfl)) (mvT hZ (ww hw 3 rfl)) (mvT hZ (ww hw 4 rfl)) (mvT hZ (ww hw 5 rfl)) (by decide) (backOf (W := 0) (rmStr4 l Z a0 hw [] b kc cz sg0 sg1 sg2 sg3 sg4 sg5 sg6 sg7 h0 n0 Z0 Vb ok0 ok1 ok2 ok3 ok4 ok5 ok6 ok7 ((hWd.ext (own_extK (Keep.refl h0 []))).1) hcz) hZ (ww hw 5 rfl) (ww hw 4 rfl) (by decide) (by decide)) (g := (mkF m 340 (fL mode lo hi len pos ch (.val (.int (mode &&& (3 : Int32)))) (.val (.ref b)) (.val (.int (4 : Int32))) w9 .unset .unset) [(.int (4 : Int32)), (.ref b)])) rfl (by rw [hml]; rfl) (argsL := [(.ref b), (.int (4 : Int32))]) (rest := []) (lenOf pd_8 rfl) rfl (by show 2 * 0 + _ ≤ _; exact Nat.le_of_eq rfl) (hb hby at_340) (fun _ _ => ⟨rfl, e0, (by decide : 1 + 3 ≤ _), (by decide : 8 + 12 ≤ _)⟩)
    dsimp only [Pt.U, Pt.locs, Pt.cells, Pt.slots] at X1 l1 y1 z1 st1 hQ1
    subst l1 y1 z1
    obtain ⟨N1q, K1, sx, bt1, kb1, rfl, le1, E1x, C1x, F1x, V1x⟩ := hQ1
    have N1 := Fr.app N0 N1q
    have ne_b_sx : b ≠ sx := Nat.ne_of_lt (Nat.lt_of_lt_of_le Vb.lt le1)
    have g_sx : n0 ≤ sx := Nat.le_trans Z0 le1
    have sz_sx : h0.size ≤ sx := Nat.le_trans (Keep.refl h0 []).1 le1
    have HK1 := Nat.le_trans HK0 K1.1
    have CH1 := CH0.trans (CHr.keep K1 all0 CH0.1)
    have Z1 := Nat.le_trans Z0 K1.1
    have KP1 := (Keep.refl h0 []).trans K1 all0
    have k2 : ∀ tg, Steps p.tables e below (T1.setTop (mkF m 350 (fL mode lo hi len pos ch (.val (.int (mode &&& (3 : Int32)))) (.val (.ref b)) (.val (.int (4 : Int32))) (.val (.ref sx)) (.val .null) .unset) [(.ref sx)])) tg → Steps p.tables e below (s₁.setTop (entryFrame m #[(.int mode), (.int lo), (.int hi), (.int len), (.int pos), (.int ch)] maxLocals)) tg := by
      intro tg kt
      refine k0 tg ?_
      show Steps p.tables e below (T0.setTop (mkF m 336 (fL mode lo hi len pos ch (.val (.int (mode &&& (3 : Int32)))) (.val (.ref b)) (.val (.int (4 : Int32))) w9 .unset .unset) [])) _
      refine XS.aload X0.here hx rfl (hb hby at_336) rfl rfl ?_
      refine XS.iload X0.here hx rfl (hb hby at_338) rfl ?_
      refine st1 _ ?_
      show Steps p.tables e below (T1.setTop (mkF m 343 (fL mode lo hi len pos ch (.val (.int (mode &&& (3 : Int32)))) (.val (.ref b)) (.val (.int (4 : Int32))) w9 .unset .unset) [(.ref sx)])) _
      refine XS.astore X1.here hx rfl (hb hby at_343) rfl rfl (l' := (fL mode lo hi len pos ch (.val (.int (mode &&& (3 : Int32)))) (.val (.ref b)) (.val (.int (4 : Int32))) (.val (.ref sx)) .unset .unset)) (h9 _) ?_
      refine XS.aconstNull X1.here hx rfl (hb hby at_345) ?_
      refine XS.astore X1.here hx rfl (hb hby at_346) rfl rfl (l' := (fL mode lo hi len pos ch (.val (.int (mode &&& (3 : Int32)))) (.val (.ref b)) (.val (.int (4 : Int32))) (.val (.ref sx)) (.val .null) .unset)) rfl ?_
      refine XS.aload X1.here hx rfl (hb hby at_348) rfl rfl ?_
      show Steps p.tables e below (T1.setTop (mkF m 350 (fL mode lo hi len pos ch (.val (.int (mode &&& (3 : Int32)))) (.val (.ref b)) (.val (.int (4 : Int32))) (.val (.ref sx)) (.val .null) .unset) [(.ref sx)])) _
      exact kt
    obtain ⟨lt3, T3, h3, kk3, bb3, kb3, X3, e3, E3, hS, HQ3, hZ, hown, Ex3, Fc3, Fv3, Va3, la3, lb3, CQ3, -, saf3, st3⟩ := ldcCH X1 hx hZ hown (ww hw 35 rfl) (own_wS hw) rfl hS HK1 hEW (by decide) CH1.1 (vs := [(.int (110 : Int32)), (.int (111 : Int32)), (.int (110 : Int32)), (.int (101 : Int32))]) (z := (4 : Int32)) ⟨by decide, by decide⟩ (by decide) (by decide) (g := (mkF m 350 (fL mode lo hi len pos ch (.val (.int (mode &&& (3 : Int32)))) (.val (.ref b)) (.val (.int (4 : Int32))) (.val (.ref sx)) (.val .null) .unset) [(.ref sx)])) rfl (hb hby at_350) (n := 16) (by decide +kernel) (by decide) (by decide) (by decide)
    have CH3 := CH1.trans CQ3
    have HK3 := Nat.le_trans HK1 E3.1
    have E3_sx := E1x.ext E3
    have F3_sx_coder := C1x.ext E3
    have F3_sx_value := F1x.ext E3
    have V3_bt1 := V1x.ext E3
    have Z3 := Nat.le_trans Z1 E3.1
    have KP3 := KP1.ext E3
    obtain ⟨cq4, kq4, q4a, q4b, q4c⟩ := isOf hZ e3 E3_sx
    obtain ⟨_, _, ⟨T4, L4, k4, n4⟩, -, X4, ⟨Lc4, hQ4, l4, y4, z4⟩, st4⟩ := X3.virtualBack hx (y := (⟨"java/lang/String", "equals", "(Ljava/lang/Object;)Z"⟩ : MethodName)) (z := (⟨"java/lang/String", "equals", "(Ljava/lang/Object;)Z"⟩ : MethodName)) hown (mvT hZ (ww hw 38 rfl)) (mvT hZ (ww hw 39 rfl)) (notFace_of_selects (args := #[]) (mvT hZ (ww hw 41 rfl))) (mvT hZ (ww hw 41 rfl)) (mvT hZ (ww hw 40 rfl)) (by decide) (StrChars.Road.eqW (W := 0) hZ hweq (kI := 4) (ww hw 7 rfl) E3_sx F3_sx_value F3_sx_coder V3_bt1 hcd hbd (Nat.le_of_ble_eq_true rfl) Ex3 Fv3 Fc3 Va3 own_cNone own_bNone (Nat.le_of_ble_eq_true rfl) ((hWd.ext (own_extK KP3)).1) hcz (by decide) (by decide)) q4a q4c (g := (mkF m 352 (fL mode lo hi len pos ch (.val (.int (mode &&& (3 : Int32)))) (.val (.ref b)) (.val (.int (4 : Int32))) (.val (.ref sx)) (.val .null) .unset) [(.ref lt3), (.ref sx)])) rfl (by rw [hml]; rfl) (Steps.refl _) (argsL := [(.ref lt3)]) (rest := []) (lenOf pd_6 rfl) rfl (by show 2 * 0 + _ ≤ _; exact Nat.le_of_eq rfl) (hb hby at_352) (fun _ _ => ⟨rfl, e3, (by decide : 6 + 0 ≤ _), (by decide : 40 + 0 ≤ _)⟩)
    dsimp only [Pt.U, Pt.locs, Pt.cells, Pt.slots] at X4 l4 y4 z4 st4 hQ4
    subst l4 y4 z4
    obtain ⟨hv4, rfl, e4⟩ := hQ4
    obtain rfl := own_eq1 hv4 hq
    have N4 := Fr.app N1 (Fr.nil n0)
    have hd5 : ¬ ((1 : Int32) = (0 : Int32)) := by decide
    obtain ⟨T6, X6, e6, st6⟩ := getS2 X4 hx hZ hown (host := "") (Or.inl (ww hw 106 rfl)) Via.refl e4 ((hWd.ext (own_extK KP3)).2.2.2.2.2.2.2.1) (g := (mkF m 358 (fL mode lo hi len pos ch (.val (.int (mode &&& (3 : Int32)))) (.val (.ref b)) (.val (.int (4 : Int32))) (.val (.ref sx)) (.val .null) .unset) [])) rfl (hb hby at_358)
    obtain ⟨_, _, ⟨T7, L7, k7, n7⟩, -, X7, ⟨Lc7, hQ7, l7, y7, z7⟩, st7⟩ := Jvm.LawKit.callS X6 hx (y := (⟨"com/example/lifetable/lifetable/output/ExportFormat", "named", "(Ljava/lang/String;)Ljava/util/Optional;"⟩ : MethodName)) hown (mvT hZ (ww hw 50 rfl)) (mvT hZ (ww hw 51 rfl)) (mvT hZ (ww hw 52 rfl)) (mvT hZ (ww hw 53 rfl)) (by decide) (backOf (W := 0) (rmNamedNONE l Z a0 hw [] sx ([sg0, sg1, sg2, sg3] : List Int32) bt1 kb1 (Int32.ofNat ([sg0, sg1, sg2, sg3] : List Int32).length) ((([sg0, sg1, sg2, sg3] : List Int32).map fun c => c.toInt8.toInt32).map Value.int) cz v_EMPTY vv kv v_NONE n_NONE t_NONE k_NONE v_CSV n_CSV t_CSV k_CSV v_DATABASE n_DATABASE t_DATABASE k_DATABASE h3 n0 Z3 (hWd.ext (own_extK KP3)) hcz E3_sx F3_sx_value F3_sx_coder V3_bt1 hcd hbd (Nat.le_of_ble_eq_true rfl) hq.symm (by simp [tCsv]) (by simp [tData])) hZ (ww hw 53 rfl) (ww hw 52 rfl) (by decide) (by decide)) (g := (mkF m 401 (fL mode lo hi len pos ch (.val (.int (mode &&& (3 : Int32)))) (.val (.ref b)) (.val (.int (4 : Int32))) (.val (.ref sx)) (.val (.ref v_NONE)) .unset) [(.ref sx)])) rfl (by rw [hml]; rfl) (argsL := [(.ref sx)]) (rest := []) (lenOf pd_9 rfl) rfl (by show 2 * 0 + _ ≤ _; exact Nat.le_of_eq rfl) (hb hby at_401) (fun _ _ => ⟨rfl, e6, (by decide : 6 + 2 ≤ _), (by decide : 40 + 4 ≤ _)⟩)
    dsimp only [Pt.U, Pt.locs, Pt.cells, Pt.slots] at X7 l7 y7 z7 st7 hQ7
    subst l7 y7 z7
    obtain ⟨N7q, K7, on7, rfl, E7o, Fv7⟩ := hQ7
    have N7 := Fr.app N4 N7q
    have HK7 := Nat.le_trans HQ3 K7.1
    have CH7 := CH3.trans (CHr.keep K7 all0 CH3.1)
    have E7_sx := E3_sx.keep K7
    have F7_sx_coder := F3_sx_coder.keep K7 nin0
    have F7_sx_value := F3_sx_value.keep K7 nin0
    have V7_bt1 := V3_bt1.keep K7 nin0
    have E7_lt3 := Ex3.keep K7
    have F7_lt3_coder := Fc3.keep K7 nin0
    have F7_lt3_value := Fv3.keep K7 nin0
    have V7_bb3 := Va3.keep K7 nin0
    have Z7 := Nat.le_trans Z3 K7.1
    have KP7 := KP3.trans K7 all0
    obtain ⟨cq8, kq8, q8a, q8b, q8c⟩ := isOf hZ rfl E7o
    obtain ⟨_, _, ⟨T8, L8, k8, n8⟩, -, X8, ⟨Lc8, hQ8, l8, y8, z8⟩, st8⟩ := X7.virtualBack hx (y := (⟨"java/util/Optional", "orElse", "(Ljava/lang/Object;)Ljava/lang/Object;"⟩ : MethodName)) (z := (⟨"java/util/Optional", "orElse", "(Ljava/lang/Object;)Ljava/lang/Object;"⟩ : MethodName)) hown (mvT hZ (ww hw 80 rfl)) (mvT hZ (ww hw 81 rfl)) (notFace_of_selects (args := #[]) (mvT hZ (ww hw 83 rfl))) (mvT hZ (ww hw 83 rfl)) (mvT hZ (ww hw 82 rfl)) (by decide) (backOf (W := 0) (rmOr1 l Z a0 hw [] on7 v_NONE T7.heap n0 Fv7) hZ (ww hw 84 rfl) (ww hw 56 rfl) (by decide) (by decide)) q8a q8c (g := (mkF m 405 (fL mode lo hi len pos ch (.val (.int (mode &&& (3 : Int32)))) (.val (.ref b)) (.val (.int (4 : Int32))) (.val (.ref sx)) (.val (.ref v_NONE)) .unset) [.null, (.ref on7)])) rfl (by rw [hml]; rfl) (Steps.refl _) (argsL := [.null]) (rest := []) (lenOf pd_2 rfl) rfl (by show 2 * 0 + _ ≤ _; exact Nat.le_of_eq rfl) (hb hby at_405) (fun _ _ => ⟨rfl, rfl, (by decide : 8 + 0 ≤ _), (by decide : 44 + 0 ≤ _)⟩)
    dsimp only [Pt.U, Pt.locs, Pt.cells, Pt.slots] at X8 l8 y8 z8 st8 hQ8
    subst l8 y8 z8
    obtain ⟨rfl, N8q, e8⟩ := hQ8
    have N8 := Fr.app N7 N8q
    obtain ⟨T9, X9, e9, st9⟩ := castY X8 hx hZ hown (ww hw 102 rfl) e8 (Ins.self ((hWd.ext (own_extK KP7)).2.2.2.2.2.2.2.2.1)) (g := (mkF m 408 (fL mode lo hi len pos ch (.val (.int (mode &&& (3 : Int32)))) (.val (.ref b)) (.val (.int (4 : Int32))) (.val (.ref sx)) (.val (.ref v_NONE)) .unset) [(.ref v_NONE)])) rfl rfl (hb hby at_408)
    have k10 : ∀ tg, Steps p.tables e below (T9.setTop (mkF m 425 (fL mode lo hi len pos ch (.val (.int (mode &&& (3 : Int32)))) (.val (.ref b)) (.val (.int (4 : Int32))) (.val (.ref sx)) (.val (.ref v_NONE)) (.val (.ref v_NONE))) [(.int (1 : Int32))])) tg → Steps p.tables e below (s₁.setTop (entryFrame m #[(.int mode), (.int lo), (.int hi), (.int len), (.int pos), (.int ch)] maxLocals)) tg := by
      intro tg kt
      refine k2 tg ?_
      refine st3 _ ?_
      refine st4.trans ?_
      refine XS.ifNo X4.here hx rfl (hb hby at_355) rfl ((if0 _ _).trans (feq hd5).1) ?_
      refine st6 _ ?_
      show Steps p.tables e below (T6.setTop (mkF m 361 (fL mode lo hi len pos ch (.val (.int (mode &&& (3 : Int32)))) (.val (.ref b)) (.val (.int (4 : Int32))) (.val (.ref sx)) (.val .null) .unset) [(.ref v_NONE)])) _
      refine XS.astore X6.here hx rfl (hb hby at_361) rfl rfl (l' := (fL mode lo hi len pos ch (.val (.int (mode &&& (3 : Int32)))) (.val (.ref b)) (.val (.int (4 : Int32))) (.val (.ref sx)) (.val (.ref v_NONE)) .unset)) rfl ?_
      refine XS.goto X6.here hx rfl (pc0 := 363) (pc' := 399) rfl (hb hby at_363) (by decide) (by decide) ?_
      refine XS.aload X6.here hx rfl (hb hby at_399) rfl rfl ?_
      refine st7 _ ?_
      show Steps p.tables e below (T7.setTop (mkF m 404 (fL mode lo hi len pos ch (.val (.int (mode &&& (3 : Int32)))) (.val (.ref b)) (.val (.int (4 : Int32))) (.val (.ref sx)) (.val (.ref v_NONE)) .unset) [(.ref on7)])) _
      refine XS.aconstNull X7.here hx rfl (hb hby at_404) ?_
      refine st8.trans ?_
      refine st9 _ ?_
      refine XS.astore X9.here hx rfl (hb hby at_411) rfl rfl (l' := (fL mode lo hi len pos ch (.val (.int (mode &&& (3 : Int32)))) (.val (.ref b)) (.val (.int (4 : Int32))) (.val (.ref sx)) (.val (.ref v_NONE)) (.val (.ref v_NONE)))) rfl ?_
      refine XS.aload X9.here hx rfl (hb hby at_413) rfl rfl ?_
      refine XS.aload X9.here hx rfl (hb hby at_415) rfl rfl ?_
      show Steps p.tables e below (T9.setTop (mkF m 417 (fL mode lo hi len pos ch (.val (.int (mode &&& (3 : Int32)))) (.val (.ref b)) (.val (.int (4 : Int32))) (.val (.ref sx)) (.val (.ref v_NONE)) (.val (.ref v_NONE))) [(.ref v_NONE), (.ref v_NONE)])) _
      refine Jvm.RoadKit.acmp (g := (mkF m 417 (fL mode lo hi len pos ch (.val (.int (mode &&& (3 : Int32)))) (.val (.ref b)) (.val (.int (4 : Int32))) (.val (.ref sx)) (.val (.ref v_NONE)) (.val (.ref v_NONE))) [(.ref v_NONE), (.ref v_NONE)])) X9 hx rfl rfl rfl (pc0 := 417) (pc' := 420) (same := true) rfl (hb hby at_417) rfl (decide_eq_true rfl) (by decide) (by decide) ?_
      refine XS.iconst X9.here hx rfl (hb hby at_420) ?_
      refine XS.goto X9.here hx rfl (pc0 := 421) (pc' := 425) rfl (hb hby at_421) (by decide) (by decide) ?_
      show Steps p.tables e below (T9.setTop (mkF m 425 (fL mode lo hi len pos ch (.val (.int (mode &&& (3 : Int32)))) (.val (.ref b)) (.val (.int (4 : Int32))) (.val (.ref sx)) (.val (.ref v_NONE)) (.val (.ref v_NONE))) [(.int (1 : Int32))])) _
      exact kt
    obtain ⟨fs, hr, hrun, hended, hRW⟩ := X9.leaveW hS (own_hk e9 HK7) (v := some (.int (1 : Int32))) (fun h => by rw [hbr] at h; cases h)
    refine ⟨_, _, k10 _ ?_, hrun, hended, _, _, rfl, ?_, hRW.1, hRW.2.1, hRW.2.2.1, hRW.2.2.2.mono (by decide) (by decide)⟩
    · exact retN X9 hx (t := .boolean) hbr (by simp) (hb hby at_425) hr
    · show QL n0 _ T9.heap _
      exact ⟨rfl, N8⟩
  · obtain ⟨_, _, ⟨T11, L11, k11, n11⟩, -, X11, ⟨Lc11, hQ11, l11, y11, z11⟩, st11⟩ := Jvm.LawKit.callS X0 hx (y := (⟨"com/example/lifetable/lifetable/output/ExportFormatNamedPinLaw", "str", "([CI)Ljava/lang/String;"⟩ : MethodName)) hown (mvT hZ (ww hw 2 rfl)) (mvT hZ (ww hw 3 rfl)) (mvT hZ (ww hw 4 rfl)) (mvT hZ (ww hw 5 rfl)) (by decide) (backOf (W := 0) (rmStr4 l Z a0 hw [] b kc cz sg0 sg1 sg2 sg3 sg4 sg5 sg6 sg7 h0 n0 Z0 Vb ok0 ok1 ok2 ok3 ok4 ok5 ok6 ok7 ((hWd.ext (own_extK (Keep.refl h0 []))).1) hcz) hZ (ww hw 5 rfl) (ww hw 4 rfl) (by decide) (by decide)) (g := (mkF m 340 (fL mode lo hi len pos ch (.val (.int (mode &&& (3 : Int32)))) (.val (.ref b)) (.val (.int (4 : Int32))) w9 .unset .unset) [(.int (4 : Int32)), (.ref b)])) rfl (by rw [hml]; rfl) (argsL := [(.ref b), (.int (4 : Int32))]) (rest := []) (lenOf pd_8 rfl) rfl (by show 2 * 0 + _ ≤ _; exact Nat.le_of_eq rfl) (hb hby at_340) (fun _ _ => ⟨rfl, e0, (by decide : 1 + 3 ≤ _), (by decide : 8 + 12 ≤ _)⟩)
    dsimp only [Pt.U, Pt.locs, Pt.cells, Pt.slots] at X11 l11 y11 z11 st11 hQ11
    subst l11 y11 z11
    obtain ⟨N11q, K11, sx, bt11, kb11, rfl, le11, E11x, C11x, F11x, V11x⟩ := hQ11
    have N11 := Fr.app N0 N11q
    have ne_b_sx : b ≠ sx := Nat.ne_of_lt (Nat.lt_of_lt_of_le Vb.lt le11)
    have g_sx : n0 ≤ sx := Nat.le_trans Z0 le11
    have sz_sx : h0.size ≤ sx := Nat.le_trans (Keep.refl h0 []).1 le11
    have HK11 := Nat.le_trans HK0 K11.1
    have CH11 := CH0.trans (CHr.keep K11 all0 CH0.1)
    have Z11 := Nat.le_trans Z0 K11.1
    have KP11 := (Keep.refl h0 []).trans K11 all0
    have k12 : ∀ tg, Steps p.tables e below (T11.setTop (mkF m 350 (fL mode lo hi len pos ch (.val (.int (mode &&& (3 : Int32)))) (.val (.ref b)) (.val (.int (4 : Int32))) (.val (.ref sx)) (.val .null) .unset) [(.ref sx)])) tg → Steps p.tables e below (s₁.setTop (entryFrame m #[(.int mode), (.int lo), (.int hi), (.int len), (.int pos), (.int ch)] maxLocals)) tg := by
      intro tg kt
      refine k0 tg ?_
      show Steps p.tables e below (T0.setTop (mkF m 336 (fL mode lo hi len pos ch (.val (.int (mode &&& (3 : Int32)))) (.val (.ref b)) (.val (.int (4 : Int32))) w9 .unset .unset) [])) _
      refine XS.aload X0.here hx rfl (hb hby at_336) rfl rfl ?_
      refine XS.iload X0.here hx rfl (hb hby at_338) rfl ?_
      refine st11 _ ?_
      show Steps p.tables e below (T11.setTop (mkF m 343 (fL mode lo hi len pos ch (.val (.int (mode &&& (3 : Int32)))) (.val (.ref b)) (.val (.int (4 : Int32))) w9 .unset .unset) [(.ref sx)])) _
      refine XS.astore X11.here hx rfl (hb hby at_343) rfl rfl (l' := (fL mode lo hi len pos ch (.val (.int (mode &&& (3 : Int32)))) (.val (.ref b)) (.val (.int (4 : Int32))) (.val (.ref sx)) .unset .unset)) (h9 _) ?_
      refine XS.aconstNull X11.here hx rfl (hb hby at_345) ?_
      refine XS.astore X11.here hx rfl (hb hby at_346) rfl rfl (l' := (fL mode lo hi len pos ch (.val (.int (mode &&& (3 : Int32)))) (.val (.ref b)) (.val (.int (4 : Int32))) (.val (.ref sx)) (.val .null) .unset)) rfl ?_
      refine XS.aload X11.here hx rfl (hb hby at_348) rfl rfl ?_
      show Steps p.tables e below (T11.setTop (mkF m 350 (fL mode lo hi len pos ch (.val (.int (mode &&& (3 : Int32)))) (.val (.ref b)) (.val (.int (4 : Int32))) (.val (.ref sx)) (.val .null) .unset) [(.ref sx)])) _
      exact kt
    obtain ⟨lt13, T13, h13, kk13, bb13, kb13, X13, e13, E13, hS, HQ13, hZ, hown, Ex13, Fc13, Fv13, Va13, la13, lb13, CQ13, -, saf13, st13⟩ := ldcCH X11 hx hZ hown (ww hw 35 rfl) (own_wS hw) rfl hS HK11 hEW (by decide) CH11.1 (vs := [(.int (110 : Int32)), (.int (111 : Int32)), (.int (110 : Int32)), (.int (101 : Int32))]) (z := (4 : Int32)) ⟨by decide, by decide⟩ (by decide) (by decide) (g := (mkF m 350 (fL mode lo hi len pos ch (.val (.int (mode &&& (3 : Int32)))) (.val (.ref b)) (.val (.int (4 : Int32))) (.val (.ref sx)) (.val .null) .unset) [(.ref sx)])) rfl (hb hby at_350) (n := 16) (by decide +kernel) (by decide) (by decide) (by decide)
    have CH13 := CH11.trans CQ13
    have HK13 := Nat.le_trans HK11 E13.1
    have E13_sx := E11x.ext E13
    have F13_sx_coder := C11x.ext E13
    have F13_sx_value := F11x.ext E13
    have V13_bt11 := V11x.ext E13
    have Z13 := Nat.le_trans Z11 E13.1
    have KP13 := KP11.ext E13
    obtain ⟨cq14, kq14, q14a, q14b, q14c⟩ := isOf hZ e13 E13_sx
    obtain ⟨_, _, ⟨T14, L14, k14, n14⟩, -, X14, ⟨Lc14, hQ14, l14, y14, z14⟩, st14⟩ := X13.virtualBack hx (y := (⟨"java/lang/String", "equals", "(Ljava/lang/Object;)Z"⟩ : MethodName)) (z := (⟨"java/lang/String", "equals", "(Ljava/lang/Object;)Z"⟩ : MethodName)) hown (mvT hZ (ww hw 38 rfl)) (mvT hZ (ww hw 39 rfl)) (notFace_of_selects (args := #[]) (mvT hZ (ww hw 41 rfl))) (mvT hZ (ww hw 41 rfl)) (mvT hZ (ww hw 40 rfl)) (by decide) (StrChars.Road.eqW (W := 0) hZ hweq (kI := 4) (ww hw 7 rfl) E13_sx F13_sx_value F13_sx_coder V13_bt11 hcd hbd (Nat.le_of_ble_eq_true rfl) Ex13 Fv13 Fc13 Va13 own_cNone own_bNone (Nat.le_of_ble_eq_true rfl) ((hWd.ext (own_extK KP13)).1) hcz (by decide) (by decide)) q14a q14c (g := (mkF m 352 (fL mode lo hi len pos ch (.val (.int (mode &&& (3 : Int32)))) (.val (.ref b)) (.val (.int (4 : Int32))) (.val (.ref sx)) (.val .null) .unset) [(.ref lt13), (.ref sx)])) rfl (by rw [hml]; rfl) (Steps.refl _) (argsL := [(.ref lt13)]) (rest := []) (lenOf pd_6 rfl) rfl (by show 2 * 0 + _ ≤ _; exact Nat.le_of_eq rfl) (hb hby at_352) (fun _ _ => ⟨rfl, e13, (by decide : 6 + 0 ≤ _), (by decide : 40 + 0 ≤ _)⟩)
    dsimp only [Pt.U, Pt.locs, Pt.cells, Pt.slots] at X14 l14 y14 z14 st14 hQ14
    subst l14 y14 z14
    obtain ⟨hv14, rfl, e14⟩ := hQ14
    obtain rfl := own_eq0 hv14 hq
    have N14 := Fr.app N11 (Fr.nil n0)
    have hd15 : (0 : Int32) = (0 : Int32) := rfl
    have k16 : ∀ tg, Steps p.tables e below (T14.setTop (mkF m 368 (fL mode lo hi len pos ch (.val (.int (mode &&& (3 : Int32)))) (.val (.ref b)) (.val (.int (4 : Int32))) (.val (.ref sx)) (.val .null) .unset) [(.ref sx)])) tg → Steps p.tables e below (s₁.setTop (entryFrame m #[(.int mode), (.int lo), (.int hi), (.int len), (.int pos), (.int ch)] maxLocals)) tg := by
      intro tg kt
      refine k12 tg ?_
      refine st13 _ ?_
      refine st14.trans ?_
      refine XS.ifYes X14.here hx rfl (pc0 := 355) (pc' := 366) rfl (hb hby at_355) rfl ((if0 _ _).trans (teq hd15).1) (by decide) (by decide) ?_
      refine XS.aload X14.here hx rfl (hb hby at_366) rfl rfl ?_
      exact kt
    obtain ⟨lt17, T17, h17, kk17, bb17, kb17, X17, e17, E17, hS, HQ17, hZ, hown, Ex17, Fc17, Fv17, Va17, la17, lb17, CQ17, -, saf17, st17⟩ := ldcCH X14 hx hZ hown (ww hw 48 rfl) (own_wS hw) e14 hS HQ13 hEW (by decide) CH13.1 (vs := [(.int (99 : Int32)), (.int (115 : Int32)), (.int (118 : Int32))]) (z := (3 : Int32)) ⟨by decide, by decide⟩ (by decide) (by decide) (g := (mkF m 368 (fL mode lo hi len pos ch (.val (.int (mode &&& (3 : Int32)))) (.val (.ref b)) (.val (.int (4 : Int32))) (.val (.ref sx)) (.val .null) .unset) [(.ref sx)])) rfl (hb hby at_368) (n := 12) (by decide +kernel) (by decide) (by decide) (by decide)
    have CH17 := CH13.trans CQ17
    have HK17 := Nat.le_trans HQ13 E17.1
    have E17_sx := E13_sx.ext E17
    have F17_sx_coder := F13_sx_coder.ext E17
    have F17_sx_value := F13_sx_value.ext E17
    have V17_bt11 := V13_bt11.ext E17
    have E17_lt13 := Ex13.ext E17
    have F17_lt13_coder := Fc13.ext E17
    have F17_lt13_value := Fv13.ext E17
    have V17_bb13 := Va13.ext E17
    have Z17 := Nat.le_trans Z13 E17.1
    have KP17 := KP13.ext E17
    obtain ⟨cq18, kq18, q18a, q18b, q18c⟩ := isOf hZ e17 E17_sx
    obtain ⟨_, _, ⟨T18, L18, k18, n18⟩, -, X18, ⟨Lc18, hQ18, l18, y18, z18⟩, st18⟩ := X17.virtualBack hx (y := (⟨"java/lang/String", "equals", "(Ljava/lang/Object;)Z"⟩ : MethodName)) (z := (⟨"java/lang/String", "equals", "(Ljava/lang/Object;)Z"⟩ : MethodName)) hown (mvT hZ (ww hw 38 rfl)) (mvT hZ (ww hw 39 rfl)) (notFace_of_selects (args := #[]) (mvT hZ (ww hw 41 rfl))) (mvT hZ (ww hw 41 rfl)) (mvT hZ (ww hw 40 rfl)) (by decide) (StrChars.Road.eqW (W := 0) hZ hweq (kI := 4) (ww hw 7 rfl) E17_sx F17_sx_value F17_sx_coder V17_bt11 hcd hbd (Nat.le_of_ble_eq_true rfl) Ex17 Fv17 Fc17 Va17 own_cCsv own_bCsv (Nat.le_of_ble_eq_true rfl) ((hWd.ext (own_extK KP17)).1) hcz (by decide) (by decide)) q18a q18c (g := (mkF m 370 (fL mode lo hi len pos ch (.val (.int (mode &&& (3 : Int32)))) (.val (.ref b)) (.val (.int (4 : Int32))) (.val (.ref sx)) (.val .null) .unset) [(.ref lt17), (.ref sx)])) rfl (by rw [hml]; rfl) (Steps.refl _) (argsL := [(.ref lt17)]) (rest := []) (lenOf pd_6 rfl) rfl (by show 2 * 0 + _ ≤ _; exact Nat.le_of_eq rfl) (hb hby at_370) (fun _ _ => ⟨rfl, e17, (by decide : 8 + 0 ≤ _), (by decide : 56 + 0 ≤ _)⟩)
    dsimp only [Pt.U, Pt.locs, Pt.cells, Pt.slots] at X18 l18 y18 z18 st18 hQ18
    subst l18 y18 z18
    obtain ⟨hv18, rfl, e18⟩ := hQ18
    obtain rfl := own_eq0 hv18 (by simp [tCsv])
    have N18 := Fr.app N14 (Fr.nil n0)
    have hd19 : (0 : Int32) = (0 : Int32) := rfl
    have k20 : ∀ tg, Steps p.tables e below (T18.setTop (mkF m 386 (fL mode lo hi len pos ch (.val (.int (mode &&& (3 : Int32)))) (.val (.ref b)) (.val (.int (4 : Int32))) (.val (.ref sx)) (.val .null) .unset) [(.ref sx)])) tg → Steps p.tables e below (s₁.setTop (entryFrame m #[(.int mode), (.int lo), (.int hi), (.int len), (.int pos), (.int ch)] maxLocals)) tg := by
      intro tg kt
      refine k16 tg ?_
      refine st17 _ ?_
      refine st18.trans ?_
      refine XS.ifYes X18.here hx rfl (pc0 := 373) (pc' := 384) rfl (hb hby at_373) rfl ((if0 _ _).trans (teq hd19).1) (by decide) (by decide) ?_
      refine XS.aload X18.here hx rfl (hb hby at_384) rfl rfl ?_
      exact kt
    obtain ⟨lt21, T21, h21, kk21, bb21, kb21, X21, e21, E21, hS, HQ21, hZ, hown, Ex21, Fc21, Fv21, Va21, la21, lb21, CQ21, -, saf21, st21⟩ := ldcCH X18 hx hZ hown (ww hw 49 rfl) (own_wS hw) e18 hS HQ17 hEW (by decide) CH17.1 (vs := [(.int (100 : Int32)), (.int (97 : Int32)), (.int (116 : Int32)), (.int (97 : Int32)), (.int (98 : Int32)), (.int (97 : Int32)), (.int (115 : Int32)), (.int (101 : Int32))]) (z := (8 : Int32)) ⟨by decide, by decide⟩ (by decide) (by decide) (g := (mkF m 386 (fL mode lo hi len pos ch (.val (.int (mode &&& (3 : Int32)))) (.val (.ref b)) (.val (.int (4 : Int32))) (.val (.ref sx)) (.val .null) .unset) [(.ref sx)])) rfl (hb hby at_386) (n := 32) (by decide +kernel) (by decide) (by decide) (by decide)
    have CH21 := CH17.trans CQ21
    have HK21 := Nat.le_trans HQ17 E21.1
    have E21_sx := E17_sx.ext E21
    have F21_sx_coder := F17_sx_coder.ext E21
    have F21_sx_value := F17_sx_value.ext E21
    have V21_bt11 := V17_bt11.ext E21
    have E21_lt13 := E17_lt13.ext E21
    have F21_lt13_coder := F17_lt13_coder.ext E21
    have F21_lt13_value := F17_lt13_value.ext E21
    have V21_bb13 := V17_bb13.ext E21
    have E21_lt17 := Ex17.ext E21
    have F21_lt17_coder := Fc17.ext E21
    have F21_lt17_value := Fv17.ext E21
    have V21_bb17 := Va17.ext E21
    have Z21 := Nat.le_trans Z17 E21.1
    have KP21 := KP17.ext E21
    obtain ⟨cq22, kq22, q22a, q22b, q22c⟩ := isOf hZ e21 E21_sx
    obtain ⟨_, _, ⟨T22, L22, k22, n22⟩, -, X22, ⟨Lc22, hQ22, l22, y22, z22⟩, st22⟩ := X21.virtualBack hx (y := (⟨"java/lang/String", "equals", "(Ljava/lang/Object;)Z"⟩ : MethodName)) (z := (⟨"java/lang/String", "equals", "(Ljava/lang/Object;)Z"⟩ : MethodName)) hown (mvT hZ (ww hw 38 rfl)) (mvT hZ (ww hw 39 rfl)) (notFace_of_selects (args := #[]) (mvT hZ (ww hw 41 rfl))) (mvT hZ (ww hw 41 rfl)) (mvT hZ (ww hw 40 rfl)) (by decide) (StrChars.Road.eqW (W := 0) hZ hweq (kI := 4) (ww hw 7 rfl) E21_sx F21_sx_value F21_sx_coder V21_bt11 hcd hbd (Nat.le_of_ble_eq_true rfl) Ex21 Fv21 Fc21 Va21 own_cData own_bData (Nat.le_of_ble_eq_true rfl) ((hWd.ext (own_extK KP21)).1) hcz (by decide) (by decide)) q22a q22c (g := (mkF m 388 (fL mode lo hi len pos ch (.val (.int (mode &&& (3 : Int32)))) (.val (.ref b)) (.val (.int (4 : Int32))) (.val (.ref sx)) (.val .null) .unset) [(.ref lt21), (.ref sx)])) rfl (by rw [hml]; rfl) (Steps.refl _) (argsL := [(.ref lt21)]) (rest := []) (lenOf pd_6 rfl) rfl (by show 2 * 0 + _ ≤ _; exact Nat.le_of_eq rfl) (hb hby at_388) (fun _ _ => ⟨rfl, e21, (by decide : 10 + 0 ≤ _), (by decide : 92 + 0 ≤ _)⟩)
    dsimp only [Pt.U, Pt.locs, Pt.cells, Pt.slots] at X22 l22 y22 z22 st22 hQ22
    subst l22 y22 z22
    obtain ⟨hv22, rfl, e22⟩ := hQ22
    obtain rfl := own_eq0 hv22 (by simp [tData])
    have N22 := Fr.app N18 (Fr.nil n0)
    have hd23 : (0 : Int32) = (0 : Int32) := rfl
    obtain ⟨_, _, ⟨T24, L24, k24, n24⟩, -, X24, ⟨Lc24, hQ24, l24, y24, z24⟩, st24⟩ := Jvm.LawKit.callS X22 hx (y := (⟨"com/example/lifetable/lifetable/output/ExportFormat", "named", "(Ljava/lang/String;)Ljava/util/Optional;"⟩ : MethodName)) hown (mvT hZ (ww hw 50 rfl)) (mvT hZ (ww hw 51 rfl)) (mvT hZ (ww hw 52 rfl)) (mvT hZ (ww hw 53 rfl)) (by decide) (backOf (W := 0) (rmNamed0 l Z a0 hw [] sx ([sg0, sg1, sg2, sg3] : List Int32) bt11 kb11 (Int32.ofNat ([sg0, sg1, sg2, sg3] : List Int32).length) ((([sg0, sg1, sg2, sg3] : List Int32).map fun c => c.toInt8.toInt32).map Value.int) cz v_EMPTY vv kv v_NONE n_NONE t_NONE k_NONE v_CSV n_CSV t_CSV k_CSV v_DATABASE n_DATABASE t_DATABASE k_DATABASE h21 n0 Z21 (hWd.ext (own_extK KP21)) hcz E21_sx F21_sx_value F21_sx_coder V21_bt11 hcd hbd (Nat.le_of_ble_eq_true rfl) (fun q => hq q.symm) (by simp [tCsv]) (by simp [tData])) hZ (ww hw 53 rfl) (ww hw 52 rfl) (by decide) (by decide)) (g := (mkF m 401 (fL mode lo hi len pos ch (.val (.int (mode &&& (3 : Int32)))) (.val (.ref b)) (.val (.int (4 : Int32))) (.val (.ref sx)) (.val .null) .unset) [(.ref sx)])) rfl (by rw [hml]; rfl) (argsL := [(.ref sx)]) (rest := []) (lenOf pd_9 rfl) rfl (by show 2 * 0 + _ ≤ _; exact Nat.le_of_eq rfl) (hb hby at_401) (fun _ _ => ⟨rfl, e22, (by decide : 10 + 1 ≤ _), (by decide : 92 + 3 ≤ _)⟩)
    dsimp only [Pt.U, Pt.locs, Pt.cells, Pt.slots] at X24 l24 y24 z24 st24 hQ24
    subst l24 y24 z24
    obtain ⟨N24q, K24, on24, rfl, E24o, Fv24⟩ := hQ24
    have N24 := Fr.app N22 N24q
    have HK24 := Nat.le_trans HQ21 K24.1
    have CH24 := CH21.trans (CHr.keep K24 all0 CH21.1)
    have E24_sx := E21_sx.keep K24
    have F24_sx_coder := F21_sx_coder.keep K24 nin0
    have F24_sx_value := F21_sx_value.keep K24 nin0
    have V24_bt11 := V21_bt11.keep K24 nin0
    have E24_lt13 := E21_lt13.keep K24
    have F24_lt13_coder := F21_lt13_coder.keep K24 nin0
    have F24_lt13_value := F21_lt13_value.keep K24 nin0
    have V24_bb13 := V21_bb13.keep K24 nin0
    have E24_lt17 := E21_lt17.keep K24
    have F24_lt17_coder := F21_lt17_coder.keep K24 nin0
    have F24_lt17_value := F21_lt17_value.keep K24 nin0
    have V24_bb17 := V21_bb17.keep K24 nin0
    have E24_lt21 := Ex21.keep K24
    have F24_lt21_coder := Fc21.keep K24 nin0
    have F24_lt21_value := Fv21.keep K24 nin0
    have V24_bb21 := Va21.keep K24 nin0
    have Z24 := Nat.le_trans Z21 K24.1
    have KP24 := KP21.trans K24 all0
    obtain ⟨cq25, kq25, q25a, q25b, q25c⟩ := isOf hZ rfl E24o
    obtain ⟨_, _, ⟨T25, L25, k25, n25⟩, -, X25, ⟨Lc25, hQ25, l25, y25, z25⟩, st25⟩ := X24.virtualBack hx (y := (⟨"java/util/Optional", "orElse", "(Ljava/lang/Object;)Ljava/lang/Object;"⟩ : MethodName)) (z := (⟨"java/util/Optional", "orElse", "(Ljava/lang/Object;)Ljava/lang/Object;"⟩ : MethodName)) hown (mvT hZ (ww hw 80 rfl)) (mvT hZ (ww hw 81 rfl)) (notFace_of_selects (args := #[]) (mvT hZ (ww hw 83 rfl))) (mvT hZ (ww hw 83 rfl)) (mvT hZ (ww hw 82 rfl)) (by decide) (backOf (W := 0) (rmOr0 l Z a0 hw [] on24  T24.heap n0 Fv24) hZ (ww hw 84 rfl) (ww hw 56 rfl) (by decide) (by decide)) q25a q25c (g := (mkF m 405 (fL mode lo hi len pos ch (.val (.int (mode &&& (3 : Int32)))) (.val (.ref b)) (.val (.int (4 : Int32))) (.val (.ref sx)) (.val .null) .unset) [.null, (.ref on24)])) rfl (by rw [hml]; rfl) (Steps.refl _) (argsL := [.null]) (rest := []) (lenOf pd_2 rfl) rfl (by show 2 * 0 + _ ≤ _; exact Nat.le_of_eq rfl) (hb hby at_405) (fun _ _ => ⟨rfl, rfl, (by decide : 11 + 0 ≤ _), (by decide : 95 + 0 ≤ _)⟩)
    dsimp only [Pt.U, Pt.locs, Pt.cells, Pt.slots] at X25 l25 y25 z25 st25 hQ25
    subst l25 y25 z25
    obtain ⟨rfl, N25q, e25⟩ := hQ25
    have N25 := Fr.app N24 N25q
    have k26 : ∀ tg, Steps p.tables e below (T25.setTop (mkF m 425 (fL mode lo hi len pos ch (.val (.int (mode &&& (3 : Int32)))) (.val (.ref b)) (.val (.int (4 : Int32))) (.val (.ref sx)) (.val .null) (.val .null)) [(.int (1 : Int32))])) tg → Steps p.tables e below (s₁.setTop (entryFrame m #[(.int mode), (.int lo), (.int hi), (.int len), (.int pos), (.int ch)] maxLocals)) tg := by
      intro tg kt
      refine k20 tg ?_
      refine st21 _ ?_
      refine st22.trans ?_
      refine XS.ifYes X22.here hx rfl (pc0 := 391) (pc' := 399) rfl (hb hby at_391) rfl ((if0 _ _).trans (teq hd23).1) (by decide) (by decide) ?_
      refine XS.aload X22.here hx rfl (hb hby at_399) rfl rfl ?_
      show Steps p.tables e below (T22.setTop (mkF m 401 (fL mode lo hi len pos ch (.val (.int (mode &&& (3 : Int32)))) (.val (.ref b)) (.val (.int (4 : Int32))) (.val (.ref sx)) (.val .null) .unset) [(.ref sx)])) _
      refine st24 _ ?_
      refine XS.aconstNull X24.here hx rfl (hb hby at_404) ?_
      refine st25.trans ?_
      refine X25.checkcastNull hx (g := (mkF m 408 (fL mode lo hi len pos ch (.val (.int (mode &&& (3 : Int32)))) (.val (.ref b)) (.val (.int (4 : Int32))) (.val (.ref sx)) (.val .null) .unset) [.null])) rfl rfl (hb hby at_408) _ ?_
      show Steps p.tables e below (T25.setTop (mkF m 411 (fL mode lo hi len pos ch (.val (.int (mode &&& (3 : Int32)))) (.val (.ref b)) (.val (.int (4 : Int32))) (.val (.ref sx)) (.val .null) .unset) [.null])) _
      refine XS.astore X25.here hx rfl (hb hby at_411) rfl rfl (l' := (fL mode lo hi len pos ch (.val (.int (mode &&& (3 : Int32)))) (.val (.ref b)) (.val (.int (4 : Int32))) (.val (.ref sx)) (.val .null) (.val .null))) rfl ?_
      refine XS.aload X25.here hx rfl (hb hby at_413) rfl rfl ?_
      refine XS.aload X25.here hx rfl (hb hby at_415) rfl rfl ?_
      refine Jvm.RoadKit.acmp (g := (mkF m 417 (fL mode lo hi len pos ch (.val (.int (mode &&& (3 : Int32)))) (.val (.ref b)) (.val (.int (4 : Int32))) (.val (.ref sx)) (.val .null) (.val .null)) [.null, .null])) X25 hx rfl rfl rfl (pc0 := 417) (pc' := 420) (same := true) rfl (hb hby at_417) rfl (decide_eq_true rfl) (by decide) (by decide) ?_
      show Steps p.tables e below (T25.setTop (mkF m 420 (fL mode lo hi len pos ch (.val (.int (mode &&& (3 : Int32)))) (.val (.ref b)) (.val (.int (4 : Int32))) (.val (.ref sx)) (.val .null) (.val .null)) [])) _
      refine XS.iconst X25.here hx rfl (hb hby at_420) ?_
      refine XS.goto X25.here hx rfl (pc0 := 421) (pc' := 425) rfl (hb hby at_421) (by decide) (by decide) ?_
      show Steps p.tables e below (T25.setTop (mkF m 425 (fL mode lo hi len pos ch (.val (.int (mode &&& (3 : Int32)))) (.val (.ref b)) (.val (.int (4 : Int32))) (.val (.ref sx)) (.val .null) (.val .null)) [(.int (1 : Int32))])) _
      exact kt
    obtain ⟨fs, hr, hrun, hended, hRW⟩ := X25.leaveW hS (own_hk e25 HK24) (v := some (.int (1 : Int32))) (fun h => by rw [hbr] at h; cases h)
    refine ⟨_, _, k26 _ ?_, hrun, hended, _, _, rfl, ?_, hRW.1, hRW.2.1, hRW.2.2.1, hRW.2.2.2.mono (by decide) (by decide)⟩
    · exact retN X25 hx (t := .boolean) hbr (by simp) (hb hby at_425) hr
    · show QL n0 _ T25.heap _
      exact ⟨rfl, N25⟩
set_option maxRecDepth 65536 in
set_option maxHeartbeats 40000000 in
theorem tail_5 (l : Launch) (Z : State) (a0 : Array Value) (hw : ∀ d ∈ tables_1, d.before a0 Z = true) {p : Program} {e : Env} {s : State} {m : MethodId} {below : List Frame} {meth : Method} {c : Code} {s₁ T0 : State} {locs0 : List Loc} (mode lo hi len pos ch : Int32) (w9 : Slot) (b : Addr) (kc : ClassId) (sg0 sg1 sg2 sg3 sg4 sg5 sg6 sg7 : Int32) (cz : Int32) (v_EMPTY vv : Addr) (kv : ClassId) (v_NONE n_NONE t_NONE : Addr) (k_NONE : ClassId) (v_CSV n_CSV t_CSV : Addr) (k_CSV : ClassId) (v_DATABASE n_DATABASE t_DATABASE : Addr) (k_DATABASE : ClassId) (h0 : Heap) (n0 : Nat) (Z0 : n0 ≤ h0.size)
    (hx : p.tables.exec = Jvm.exec) (hby : c.code = code) (hml : c.maxLocals = 12) (hbr : meth.sig.returnType = ret) (hlk : meth.locks = false) (hZ : Z.Warmed39 (s.setVm s.vm).vm) (hown : (s.setVm s.vm).vm.findClass "com/example/lifetable/lifetable/output/ExportFormatNamedPinLaw" = some m.cls) (X0 : Stand p l e room_1 (s.setVm s.vm) m #[(.int mode), (.int lo), (.int hi), (.int len), (.int pos), (.int ch)] below meth c T0 locs0 (0 + 1) (0 + 8)) (e0 : T0.heap = h0) (N0 : Fr n0 locs0) (hS : s.Since s.vm s.heap.size) (HK0 : s.heap.size ≤ h0.size) (hCH : CHv Z ELs s.vm h0)
    (hWd : World Z h0 cz v_EMPTY vv kv v_NONE n_NONE t_NONE k_NONE v_CSV n_CSV t_CSV k_CSV v_DATABASE n_DATABASE t_DATABASE k_DATABASE) (hcz : ¬ cz = 0) (Vb : Arv Z h0 b kc .char (8 : Int32) [(.int sg0), (.int sg1), (.int sg2), (.int sg3), (.int sg4), (.int sg5), (.int sg6), (.int sg7)] (.int (0 : Int32))) (ok0 : ok sg0) (ok1 : ok sg1) (ok2 : ok sg2) (ok3 : ok sg3) (ok4 : ok sg4) (ok5 : ok sg5) (ok6 : ok sg6) (ok7 : ok sg7) (h9 : ∀ y : Addr, storeLocals #[.val (.int mode), .val (.int lo), .val (.int hi), .val (.int len), .val (.int pos), .val (.int ch), .val (.int (mode &&& (3 : Int32))), .val (.ref b), .val (.int (5 : Int32)), w9, .unset, .unset] 9 (.ref y) = some #[.val (.int mode), .val (.int lo), .val (.int hi), .val (.int len), .val (.int pos), .val (.int ch), .val (.int (mode &&& (3 : Int32))), .val (.ref b), .val (.int (5 : Int32)), .val (.ref y), .unset, .unset]) (k0 : ∀ tg, Steps p.tables e below (T0.setTop (mkF m 336 (fL mode lo hi len pos ch (.val (.int (mode &&& (3 : Int32)))) (.val (.ref b)) (.val (.int (5 : Int32))) w9 .unset .unset) [])) tg → Steps p.tables e below (s₁.setTop (entryFrame m #[(.int mode), (.int lo), (.int hi), (.int len), (.int pos), (.int ch)] maxLocals)) tg) :
    ∃ s₂ o_, Steps p.tables e below (s₁.setTop (entryFrame m #[(.int mode), (.int lo), (.int hi), (.int len), (.int pos), (.int ch)] maxLocals)) s₂ ∧ s₂.status = .running ∧ Ended s₂ below o_ ∧ ∃ v_ L_, o_ = .returned v_ ∧ QL n0 v_ s₂.heap L_ ∧ ReturnedEndW s o_ s₂ L_ room_1.cells room_1.slots := by
  have CH0 : CHr Z ELs s.vm h0 s.vm h0 := CHr.refl hCH
  have hEW := own_EW hw
  have hweq : ∀ d ∈ StrChars.Road.wordsEq, d.before a0 Z = true := fun d hd => hw d ((by decide +kernel : ∀ d ∈ StrChars.Road.wordsEq, d ∈ tables_1) d hd)
  have hp : ∀ c ∈ ([sg0, sg1, sg2, sg3, sg4] : List Int32), ¬ c < 0 ∧ ¬ (255 : Int32) < c := by
    intro c hc
    simp only [List.mem_cons, List.not_mem_nil, or_false] at hc
    rcases hc with rfl | rfl | rfl | rfl | rfl <;> assumption
  have hcd : StrChars.Road.CodA ([sg0, sg1, sg2, sg3, sg4] : List Int32) 0 (Int32.ofNat ([sg0, sg1, sg2, sg3, sg4] : List Int32).length) ((([sg0, sg1, sg2, sg3, sg4] : List Int32).map fun c => c.toInt8.toInt32).map Value.int) := StrChars.Road.codOf (n := 5) rfl (fun c hc => (hp c hc).2)
  have hbd := own_up _ hp
  obtain ⟨_, _, ⟨T1, L1, k1, n1⟩, -, X1, ⟨Lc1, hQ1, l1, y1, z1⟩, st1⟩ := Jvm.LawKit.callS X0 hx (y := (⟨"com/example/lifetable/lifetable/output/ExportFormatNamedPinLaw", "str", "([CI)Ljava/lang/String;"⟩ : MethodName)) hown (mvT hZ (ww hw 2 rfl)) (mvT hZ (ww hw 3 rfl)) (mvT hZ (ww hw 4 rfl)) (mvT hZ (ww hw 5 rfl)) (by decide) (backOf (W := 0) (rmStr5 l Z a0 hw [] b kc cz sg0 sg1 sg2 sg3 sg4 sg5 sg6 sg7 h0 n0 Z0 Vb ok0 ok1 ok2 ok3 ok4 ok5 ok6 ok7 ((hWd.ext (own_extK (Keep.refl h0 []))).1) hcz) hZ (ww hw 5 rfl) (ww hw 4 rfl) (by decide) (by decide)) (g := (mkF m 340 (fL mode lo hi len pos ch (.val (.int (mode &&& (3 : Int32)))) (.val (.ref b)) (.val (.int (5 : Int32))) w9 .unset .unset) [(.int (5 : Int32)), (.ref b)])) rfl (by rw [hml]; rfl) (argsL := [(.ref b), (.int (5 : Int32))]) (rest := []) (lenOf pd_8 rfl) rfl (by show 2 * 0 + _ ≤ _; exact Nat.le_of_eq rfl) (hb hby at_340) (fun _ _ => ⟨rfl, e0, (by decide : 1 + 3 ≤ _), (by decide : 8 + 14 ≤ _)⟩)
  dsimp only [Pt.U, Pt.locs, Pt.cells, Pt.slots] at X1 l1 y1 z1 st1 hQ1
  subst l1 y1 z1
  obtain ⟨N1q, K1, sx, bt1, kb1, rfl, le1, E1x, C1x, F1x, V1x⟩ := hQ1
  have N1 := Fr.app N0 N1q
  have ne_b_sx : b ≠ sx := Nat.ne_of_lt (Nat.lt_of_lt_of_le Vb.lt le1)
  have g_sx : n0 ≤ sx := Nat.le_trans Z0 le1
  have sz_sx : h0.size ≤ sx := Nat.le_trans (Keep.refl h0 []).1 le1
  have HK1 := Nat.le_trans HK0 K1.1
  have CH1 := CH0.trans (CHr.keep K1 all0 CH0.1)
  have Z1 := Nat.le_trans Z0 K1.1
  have KP1 := (Keep.refl h0 []).trans K1 all0
  have k2 : ∀ tg, Steps p.tables e below (T1.setTop (mkF m 350 (fL mode lo hi len pos ch (.val (.int (mode &&& (3 : Int32)))) (.val (.ref b)) (.val (.int (5 : Int32))) (.val (.ref sx)) (.val .null) .unset) [(.ref sx)])) tg → Steps p.tables e below (s₁.setTop (entryFrame m #[(.int mode), (.int lo), (.int hi), (.int len), (.int pos), (.int ch)] maxLocals)) tg := by
    intro tg kt
    refine k0 tg ?_
    show Steps p.tables e below (T0.setTop (mkF m 336 (fL mode lo hi len pos ch (.val (.int (mode &&& (3 : Int32)))) (.val (.ref b)) (.val (.int (5 : Int32))) w9 .unset .unset) [])) _
    refine XS.aload X0.here hx rfl (hb hby at_336) rfl rfl ?_
    refine XS.iload X0.here hx rfl (hb hby at_338) rfl ?_
    refine st1 _ ?_
    show Steps p.tables e below (T1.setTop (mkF m 343 (fL mode lo hi len pos ch (.val (.int (mode &&& (3 : Int32)))) (.val (.ref b)) (.val (.int (5 : Int32))) w9 .unset .unset) [(.ref sx)])) _
    refine XS.astore X1.here hx rfl (hb hby at_343) rfl rfl (l' := (fL mode lo hi len pos ch (.val (.int (mode &&& (3 : Int32)))) (.val (.ref b)) (.val (.int (5 : Int32))) (.val (.ref sx)) .unset .unset)) (h9 _) ?_
    refine XS.aconstNull X1.here hx rfl (hb hby at_345) ?_
    refine XS.astore X1.here hx rfl (hb hby at_346) rfl rfl (l' := (fL mode lo hi len pos ch (.val (.int (mode &&& (3 : Int32)))) (.val (.ref b)) (.val (.int (5 : Int32))) (.val (.ref sx)) (.val .null) .unset)) rfl ?_
    refine XS.aload X1.here hx rfl (hb hby at_348) rfl rfl ?_
    show Steps p.tables e below (T1.setTop (mkF m 350 (fL mode lo hi len pos ch (.val (.int (mode &&& (3 : Int32)))) (.val (.ref b)) (.val (.int (5 : Int32))) (.val (.ref sx)) (.val .null) .unset) [(.ref sx)])) _
    exact kt
  obtain ⟨lt3, T3, h3, kk3, bb3, kb3, X3, e3, E3, hS, HQ3, hZ, hown, Ex3, Fc3, Fv3, Va3, la3, lb3, CQ3, -, saf3, st3⟩ := ldcCH X1 hx hZ hown (ww hw 35 rfl) (own_wS hw) rfl hS HK1 hEW (by decide) CH1.1 (vs := [(.int (110 : Int32)), (.int (111 : Int32)), (.int (110 : Int32)), (.int (101 : Int32))]) (z := (4 : Int32)) ⟨by decide, by decide⟩ (by decide) (by decide) (g := (mkF m 350 (fL mode lo hi len pos ch (.val (.int (mode &&& (3 : Int32)))) (.val (.ref b)) (.val (.int (5 : Int32))) (.val (.ref sx)) (.val .null) .unset) [(.ref sx)])) rfl (hb hby at_350) (n := 16) (by decide +kernel) (by decide) (by decide) (by decide)
  have CH3 := CH1.trans CQ3
  have HK3 := Nat.le_trans HK1 E3.1
  have E3_sx := E1x.ext E3
  have F3_sx_coder := C1x.ext E3
  have F3_sx_value := F1x.ext E3
  have V3_bt1 := V1x.ext E3
  have Z3 := Nat.le_trans Z1 E3.1
  have KP3 := KP1.ext E3
  obtain ⟨cq4, kq4, q4a, q4b, q4c⟩ := isOf hZ e3 E3_sx
  obtain ⟨_, _, ⟨T4, L4, k4, n4⟩, -, X4, ⟨Lc4, hQ4, l4, y4, z4⟩, st4⟩ := X3.virtualBack hx (y := (⟨"java/lang/String", "equals", "(Ljava/lang/Object;)Z"⟩ : MethodName)) (z := (⟨"java/lang/String", "equals", "(Ljava/lang/Object;)Z"⟩ : MethodName)) hown (mvT hZ (ww hw 38 rfl)) (mvT hZ (ww hw 39 rfl)) (notFace_of_selects (args := #[]) (mvT hZ (ww hw 41 rfl))) (mvT hZ (ww hw 41 rfl)) (mvT hZ (ww hw 40 rfl)) (by decide) (StrChars.Road.eqW (W := 0) hZ hweq (kI := 4) (ww hw 7 rfl) E3_sx F3_sx_value F3_sx_coder V3_bt1 hcd hbd (Nat.le_of_ble_eq_true rfl) Ex3 Fv3 Fc3 Va3 own_cNone own_bNone (Nat.le_of_ble_eq_true rfl) ((hWd.ext (own_extK KP3)).1) hcz (by decide) (by decide)) q4a q4c (g := (mkF m 352 (fL mode lo hi len pos ch (.val (.int (mode &&& (3 : Int32)))) (.val (.ref b)) (.val (.int (5 : Int32))) (.val (.ref sx)) (.val .null) .unset) [(.ref lt3), (.ref sx)])) rfl (by rw [hml]; rfl) (Steps.refl _) (argsL := [(.ref lt3)]) (rest := []) (lenOf pd_6 rfl) rfl (by show 2 * 0 + _ ≤ _; exact Nat.le_of_eq rfl) (hb hby at_352) (fun _ _ => ⟨rfl, e3, (by decide : 6 + 0 ≤ _), (by decide : 42 + 0 ≤ _)⟩)
  dsimp only [Pt.U, Pt.locs, Pt.cells, Pt.slots] at X4 l4 y4 z4 st4 hQ4
  subst l4 y4 z4
  obtain ⟨hv4, rfl, e4⟩ := hQ4
  obtain rfl := own_eq0 hv4 (by simp [tNone])
  have N4 := Fr.app N1 (Fr.nil n0)
  have hd5 : (0 : Int32) = (0 : Int32) := rfl
  have k6 : ∀ tg, Steps p.tables e below (T4.setTop (mkF m 368 (fL mode lo hi len pos ch (.val (.int (mode &&& (3 : Int32)))) (.val (.ref b)) (.val (.int (5 : Int32))) (.val (.ref sx)) (.val .null) .unset) [(.ref sx)])) tg → Steps p.tables e below (s₁.setTop (entryFrame m #[(.int mode), (.int lo), (.int hi), (.int len), (.int pos), (.int ch)] maxLocals)) tg := by
    intro tg kt
    refine k2 tg ?_
    refine st3 _ ?_
    refine st4.trans ?_
    refine XS.ifYes X4.here hx rfl (pc0 := 355) (pc' := 366) rfl (hb hby at_355) rfl ((if0 _ _).trans (teq hd5).1) (by decide) (by decide) ?_
    refine XS.aload X4.here hx rfl (hb hby at_366) rfl rfl ?_
    exact kt
  obtain ⟨lt7, T7, h7, kk7, bb7, kb7, X7, e7, E7, hS, HQ7, hZ, hown, Ex7, Fc7, Fv7, Va7, la7, lb7, CQ7, -, saf7, st7⟩ := ldcCH X4 hx hZ hown (ww hw 48 rfl) (own_wS hw) e4 hS HQ3 hEW (by decide) CH3.1 (vs := [(.int (99 : Int32)), (.int (115 : Int32)), (.int (118 : Int32))]) (z := (3 : Int32)) ⟨by decide, by decide⟩ (by decide) (by decide) (g := (mkF m 368 (fL mode lo hi len pos ch (.val (.int (mode &&& (3 : Int32)))) (.val (.ref b)) (.val (.int (5 : Int32))) (.val (.ref sx)) (.val .null) .unset) [(.ref sx)])) rfl (hb hby at_368) (n := 12) (by decide +kernel) (by decide) (by decide) (by decide)
  have CH7 := CH3.trans CQ7
  have HK7 := Nat.le_trans HQ3 E7.1
  have E7_sx := E3_sx.ext E7
  have F7_sx_coder := F3_sx_coder.ext E7
  have F7_sx_value := F3_sx_value.ext E7
  have V7_bt1 := V3_bt1.ext E7
  have E7_lt3 := Ex3.ext E7
  have F7_lt3_coder := Fc3.ext E7
  have F7_lt3_value := Fv3.ext E7
  have V7_bb3 := Va3.ext E7
  have Z7 := Nat.le_trans Z3 E7.1
  have KP7 := KP3.ext E7
  obtain ⟨cq8, kq8, q8a, q8b, q8c⟩ := isOf hZ e7 E7_sx
  obtain ⟨_, _, ⟨T8, L8, k8, n8⟩, -, X8, ⟨Lc8, hQ8, l8, y8, z8⟩, st8⟩ := X7.virtualBack hx (y := (⟨"java/lang/String", "equals", "(Ljava/lang/Object;)Z"⟩ : MethodName)) (z := (⟨"java/lang/String", "equals", "(Ljava/lang/Object;)Z"⟩ : MethodName)) hown (mvT hZ (ww hw 38 rfl)) (mvT hZ (ww hw 39 rfl)) (notFace_of_selects (args := #[]) (mvT hZ (ww hw 41 rfl))) (mvT hZ (ww hw 41 rfl)) (mvT hZ (ww hw 40 rfl)) (by decide) (StrChars.Road.eqW (W := 0) hZ hweq (kI := 4) (ww hw 7 rfl) E7_sx F7_sx_value F7_sx_coder V7_bt1 hcd hbd (Nat.le_of_ble_eq_true rfl) Ex7 Fv7 Fc7 Va7 own_cCsv own_bCsv (Nat.le_of_ble_eq_true rfl) ((hWd.ext (own_extK KP7)).1) hcz (by decide) (by decide)) q8a q8c (g := (mkF m 370 (fL mode lo hi len pos ch (.val (.int (mode &&& (3 : Int32)))) (.val (.ref b)) (.val (.int (5 : Int32))) (.val (.ref sx)) (.val .null) .unset) [(.ref lt7), (.ref sx)])) rfl (by rw [hml]; rfl) (Steps.refl _) (argsL := [(.ref lt7)]) (rest := []) (lenOf pd_6 rfl) rfl (by show 2 * 0 + _ ≤ _; exact Nat.le_of_eq rfl) (hb hby at_370) (fun _ _ => ⟨rfl, e7, (by decide : 8 + 0 ≤ _), (by decide : 58 + 0 ≤ _)⟩)
  dsimp only [Pt.U, Pt.locs, Pt.cells, Pt.slots] at X8 l8 y8 z8 st8 hQ8
  subst l8 y8 z8
  obtain ⟨hv8, rfl, e8⟩ := hQ8
  obtain rfl := own_eq0 hv8 (by simp [tCsv])
  have N8 := Fr.app N4 (Fr.nil n0)
  have hd9 : (0 : Int32) = (0 : Int32) := rfl
  have k10 : ∀ tg, Steps p.tables e below (T8.setTop (mkF m 386 (fL mode lo hi len pos ch (.val (.int (mode &&& (3 : Int32)))) (.val (.ref b)) (.val (.int (5 : Int32))) (.val (.ref sx)) (.val .null) .unset) [(.ref sx)])) tg → Steps p.tables e below (s₁.setTop (entryFrame m #[(.int mode), (.int lo), (.int hi), (.int len), (.int pos), (.int ch)] maxLocals)) tg := by
    intro tg kt
    refine k6 tg ?_
    refine st7 _ ?_
    refine st8.trans ?_
    refine XS.ifYes X8.here hx rfl (pc0 := 373) (pc' := 384) rfl (hb hby at_373) rfl ((if0 _ _).trans (teq hd9).1) (by decide) (by decide) ?_
    refine XS.aload X8.here hx rfl (hb hby at_384) rfl rfl ?_
    exact kt
  obtain ⟨lt11, T11, h11, kk11, bb11, kb11, X11, e11, E11, hS, HQ11, hZ, hown, Ex11, Fc11, Fv11, Va11, la11, lb11, CQ11, -, saf11, st11⟩ := ldcCH X8 hx hZ hown (ww hw 49 rfl) (own_wS hw) e8 hS HQ7 hEW (by decide) CH7.1 (vs := [(.int (100 : Int32)), (.int (97 : Int32)), (.int (116 : Int32)), (.int (97 : Int32)), (.int (98 : Int32)), (.int (97 : Int32)), (.int (115 : Int32)), (.int (101 : Int32))]) (z := (8 : Int32)) ⟨by decide, by decide⟩ (by decide) (by decide) (g := (mkF m 386 (fL mode lo hi len pos ch (.val (.int (mode &&& (3 : Int32)))) (.val (.ref b)) (.val (.int (5 : Int32))) (.val (.ref sx)) (.val .null) .unset) [(.ref sx)])) rfl (hb hby at_386) (n := 32) (by decide +kernel) (by decide) (by decide) (by decide)
  have CH11 := CH7.trans CQ11
  have HK11 := Nat.le_trans HQ7 E11.1
  have E11_sx := E7_sx.ext E11
  have F11_sx_coder := F7_sx_coder.ext E11
  have F11_sx_value := F7_sx_value.ext E11
  have V11_bt1 := V7_bt1.ext E11
  have E11_lt3 := E7_lt3.ext E11
  have F11_lt3_coder := F7_lt3_coder.ext E11
  have F11_lt3_value := F7_lt3_value.ext E11
  have V11_bb3 := V7_bb3.ext E11
  have E11_lt7 := Ex7.ext E11
  have F11_lt7_coder := Fc7.ext E11
  have F11_lt7_value := Fv7.ext E11
  have V11_bb7 := Va7.ext E11
  have Z11 := Nat.le_trans Z7 E11.1
  have KP11 := KP7.ext E11
  obtain ⟨cq12, kq12, q12a, q12b, q12c⟩ := isOf hZ e11 E11_sx
  obtain ⟨_, _, ⟨T12, L12, k12, n12⟩, -, X12, ⟨Lc12, hQ12, l12, y12, z12⟩, st12⟩ := X11.virtualBack hx (y := (⟨"java/lang/String", "equals", "(Ljava/lang/Object;)Z"⟩ : MethodName)) (z := (⟨"java/lang/String", "equals", "(Ljava/lang/Object;)Z"⟩ : MethodName)) hown (mvT hZ (ww hw 38 rfl)) (mvT hZ (ww hw 39 rfl)) (notFace_of_selects (args := #[]) (mvT hZ (ww hw 41 rfl))) (mvT hZ (ww hw 41 rfl)) (mvT hZ (ww hw 40 rfl)) (by decide) (StrChars.Road.eqW (W := 0) hZ hweq (kI := 4) (ww hw 7 rfl) E11_sx F11_sx_value F11_sx_coder V11_bt1 hcd hbd (Nat.le_of_ble_eq_true rfl) Ex11 Fv11 Fc11 Va11 own_cData own_bData (Nat.le_of_ble_eq_true rfl) ((hWd.ext (own_extK KP11)).1) hcz (by decide) (by decide)) q12a q12c (g := (mkF m 388 (fL mode lo hi len pos ch (.val (.int (mode &&& (3 : Int32)))) (.val (.ref b)) (.val (.int (5 : Int32))) (.val (.ref sx)) (.val .null) .unset) [(.ref lt11), (.ref sx)])) rfl (by rw [hml]; rfl) (Steps.refl _) (argsL := [(.ref lt11)]) (rest := []) (lenOf pd_6 rfl) rfl (by show 2 * 0 + _ ≤ _; exact Nat.le_of_eq rfl) (hb hby at_388) (fun _ _ => ⟨rfl, e11, (by decide : 10 + 0 ≤ _), (by decide : 94 + 0 ≤ _)⟩)
  dsimp only [Pt.U, Pt.locs, Pt.cells, Pt.slots] at X12 l12 y12 z12 st12 hQ12
  subst l12 y12 z12
  obtain ⟨hv12, rfl, e12⟩ := hQ12
  obtain rfl := own_eq0 hv12 (by simp [tData])
  have N12 := Fr.app N8 (Fr.nil n0)
  have hd13 : (0 : Int32) = (0 : Int32) := rfl
  obtain ⟨_, _, ⟨T14, L14, k14, n14⟩, -, X14, ⟨Lc14, hQ14, l14, y14, z14⟩, st14⟩ := Jvm.LawKit.callS X12 hx (y := (⟨"com/example/lifetable/lifetable/output/ExportFormat", "named", "(Ljava/lang/String;)Ljava/util/Optional;"⟩ : MethodName)) hown (mvT hZ (ww hw 50 rfl)) (mvT hZ (ww hw 51 rfl)) (mvT hZ (ww hw 52 rfl)) (mvT hZ (ww hw 53 rfl)) (by decide) (backOf (W := 0) (rmNamed0 l Z a0 hw [] sx ([sg0, sg1, sg2, sg3, sg4] : List Int32) bt1 kb1 (Int32.ofNat ([sg0, sg1, sg2, sg3, sg4] : List Int32).length) ((([sg0, sg1, sg2, sg3, sg4] : List Int32).map fun c => c.toInt8.toInt32).map Value.int) cz v_EMPTY vv kv v_NONE n_NONE t_NONE k_NONE v_CSV n_CSV t_CSV k_CSV v_DATABASE n_DATABASE t_DATABASE k_DATABASE h11 n0 Z11 (hWd.ext (own_extK KP11)) hcz E11_sx F11_sx_value F11_sx_coder V11_bt1 hcd hbd (Nat.le_of_ble_eq_true rfl) (by simp [tNone]) (by simp [tCsv]) (by simp [tData])) hZ (ww hw 53 rfl) (ww hw 52 rfl) (by decide) (by decide)) (g := (mkF m 401 (fL mode lo hi len pos ch (.val (.int (mode &&& (3 : Int32)))) (.val (.ref b)) (.val (.int (5 : Int32))) (.val (.ref sx)) (.val .null) .unset) [(.ref sx)])) rfl (by rw [hml]; rfl) (argsL := [(.ref sx)]) (rest := []) (lenOf pd_9 rfl) rfl (by show 2 * 0 + _ ≤ _; exact Nat.le_of_eq rfl) (hb hby at_401) (fun _ _ => ⟨rfl, e12, (by decide : 10 + 1 ≤ _), (by decide : 94 + 3 ≤ _)⟩)
  dsimp only [Pt.U, Pt.locs, Pt.cells, Pt.slots] at X14 l14 y14 z14 st14 hQ14
  subst l14 y14 z14
  obtain ⟨N14q, K14, on14, rfl, E14o, Fv14⟩ := hQ14
  have N14 := Fr.app N12 N14q
  have HK14 := Nat.le_trans HQ11 K14.1
  have CH14 := CH11.trans (CHr.keep K14 all0 CH11.1)
  have E14_sx := E11_sx.keep K14
  have F14_sx_coder := F11_sx_coder.keep K14 nin0
  have F14_sx_value := F11_sx_value.keep K14 nin0
  have V14_bt1 := V11_bt1.keep K14 nin0
  have E14_lt3 := E11_lt3.keep K14
  have F14_lt3_coder := F11_lt3_coder.keep K14 nin0
  have F14_lt3_value := F11_lt3_value.keep K14 nin0
  have V14_bb3 := V11_bb3.keep K14 nin0
  have E14_lt7 := E11_lt7.keep K14
  have F14_lt7_coder := F11_lt7_coder.keep K14 nin0
  have F14_lt7_value := F11_lt7_value.keep K14 nin0
  have V14_bb7 := V11_bb7.keep K14 nin0
  have E14_lt11 := Ex11.keep K14
  have F14_lt11_coder := Fc11.keep K14 nin0
  have F14_lt11_value := Fv11.keep K14 nin0
  have V14_bb11 := Va11.keep K14 nin0
  have Z14 := Nat.le_trans Z11 K14.1
  have KP14 := KP11.trans K14 all0
  obtain ⟨cq15, kq15, q15a, q15b, q15c⟩ := isOf hZ rfl E14o
  obtain ⟨_, _, ⟨T15, L15, k15, n15⟩, -, X15, ⟨Lc15, hQ15, l15, y15, z15⟩, st15⟩ := X14.virtualBack hx (y := (⟨"java/util/Optional", "orElse", "(Ljava/lang/Object;)Ljava/lang/Object;"⟩ : MethodName)) (z := (⟨"java/util/Optional", "orElse", "(Ljava/lang/Object;)Ljava/lang/Object;"⟩ : MethodName)) hown (mvT hZ (ww hw 80 rfl)) (mvT hZ (ww hw 81 rfl)) (notFace_of_selects (args := #[]) (mvT hZ (ww hw 83 rfl))) (mvT hZ (ww hw 83 rfl)) (mvT hZ (ww hw 82 rfl)) (by decide) (backOf (W := 0) (rmOr0 l Z a0 hw [] on14  T14.heap n0 Fv14) hZ (ww hw 84 rfl) (ww hw 56 rfl) (by decide) (by decide)) q15a q15c (g := (mkF m 405 (fL mode lo hi len pos ch (.val (.int (mode &&& (3 : Int32)))) (.val (.ref b)) (.val (.int (5 : Int32))) (.val (.ref sx)) (.val .null) .unset) [.null, (.ref on14)])) rfl (by rw [hml]; rfl) (Steps.refl _) (argsL := [.null]) (rest := []) (lenOf pd_2 rfl) rfl (by show 2 * 0 + _ ≤ _; exact Nat.le_of_eq rfl) (hb hby at_405) (fun _ _ => ⟨rfl, rfl, (by decide : 11 + 0 ≤ _), (by decide : 97 + 0 ≤ _)⟩)
  dsimp only [Pt.U, Pt.locs, Pt.cells, Pt.slots] at X15 l15 y15 z15 st15 hQ15
  subst l15 y15 z15
  obtain ⟨rfl, N15q, e15⟩ := hQ15
  have N15 := Fr.app N14 N15q
  have k16 : ∀ tg, Steps p.tables e below (T15.setTop (mkF m 425 (fL mode lo hi len pos ch (.val (.int (mode &&& (3 : Int32)))) (.val (.ref b)) (.val (.int (5 : Int32))) (.val (.ref sx)) (.val .null) (.val .null)) [(.int (1 : Int32))])) tg → Steps p.tables e below (s₁.setTop (entryFrame m #[(.int mode), (.int lo), (.int hi), (.int len), (.int pos), (.int ch)] maxLocals)) tg := by
    intro tg kt
    refine k10 tg ?_
    refine st11 _ ?_
    refine st12.trans ?_
    refine XS.ifYes X12.here hx rfl (pc0 := 391) (pc' := 399) rfl (hb hby at_391) rfl ((if0 _ _).trans (teq hd13).1) (by decide) (by decide) ?_
    refine XS.aload X12.here hx rfl (hb hby at_399) rfl rfl ?_
    show Steps p.tables e below (T12.setTop (mkF m 401 (fL mode lo hi len pos ch (.val (.int (mode &&& (3 : Int32)))) (.val (.ref b)) (.val (.int (5 : Int32))) (.val (.ref sx)) (.val .null) .unset) [(.ref sx)])) _
    refine st14 _ ?_
    refine XS.aconstNull X14.here hx rfl (hb hby at_404) ?_
    refine st15.trans ?_
    refine X15.checkcastNull hx (g := (mkF m 408 (fL mode lo hi len pos ch (.val (.int (mode &&& (3 : Int32)))) (.val (.ref b)) (.val (.int (5 : Int32))) (.val (.ref sx)) (.val .null) .unset) [.null])) rfl rfl (hb hby at_408) _ ?_
    show Steps p.tables e below (T15.setTop (mkF m 411 (fL mode lo hi len pos ch (.val (.int (mode &&& (3 : Int32)))) (.val (.ref b)) (.val (.int (5 : Int32))) (.val (.ref sx)) (.val .null) .unset) [.null])) _
    refine XS.astore X15.here hx rfl (hb hby at_411) rfl rfl (l' := (fL mode lo hi len pos ch (.val (.int (mode &&& (3 : Int32)))) (.val (.ref b)) (.val (.int (5 : Int32))) (.val (.ref sx)) (.val .null) (.val .null))) rfl ?_
    refine XS.aload X15.here hx rfl (hb hby at_413) rfl rfl ?_
    refine XS.aload X15.here hx rfl (hb hby at_415) rfl rfl ?_
    refine Jvm.RoadKit.acmp (g := (mkF m 417 (fL mode lo hi len pos ch (.val (.int (mode &&& (3 : Int32)))) (.val (.ref b)) (.val (.int (5 : Int32))) (.val (.ref sx)) (.val .null) (.val .null)) [.null, .null])) X15 hx rfl rfl rfl (pc0 := 417) (pc' := 420) (same := true) rfl (hb hby at_417) rfl (decide_eq_true rfl) (by decide) (by decide) ?_
    show Steps p.tables e below (T15.setTop (mkF m 420 (fL mode lo hi len pos ch (.val (.int (mode &&& (3 : Int32)))) (.val (.ref b)) (.val (.int (5 : Int32))) (.val (.ref sx)) (.val .null) (.val .null)) [])) _
    refine XS.iconst X15.here hx rfl (hb hby at_420) ?_
    refine XS.goto X15.here hx rfl (pc0 := 421) (pc' := 425) rfl (hb hby at_421) (by decide) (by decide) ?_
    show Steps p.tables e below (T15.setTop (mkF m 425 (fL mode lo hi len pos ch (.val (.int (mode &&& (3 : Int32)))) (.val (.ref b)) (.val (.int (5 : Int32))) (.val (.ref sx)) (.val .null) (.val .null)) [(.int (1 : Int32))])) _
    exact kt
  obtain ⟨fs, hr, hrun, hended, hRW⟩ := X15.leaveW hS (own_hk e15 HK14) (v := some (.int (1 : Int32))) (fun h => by rw [hbr] at h; cases h)
  refine ⟨_, _, k16 _ ?_, hrun, hended, _, _, rfl, ?_, hRW.1, hRW.2.1, hRW.2.2.1, hRW.2.2.2.mono (by decide) (by decide)⟩
  · exact retN X15 hx (t := .boolean) hbr (by simp) (hb hby at_425) hr
  · show QL n0 _ T15.heap _
    exact ⟨rfl, N15⟩
set_option maxRecDepth 65536 in
set_option maxHeartbeats 40000000 in
theorem tail_6 (l : Launch) (Z : State) (a0 : Array Value) (hw : ∀ d ∈ tables_1, d.before a0 Z = true) {p : Program} {e : Env} {s : State} {m : MethodId} {below : List Frame} {meth : Method} {c : Code} {s₁ T0 : State} {locs0 : List Loc} (mode lo hi len pos ch : Int32) (w9 : Slot) (b : Addr) (kc : ClassId) (sg0 sg1 sg2 sg3 sg4 sg5 sg6 sg7 : Int32) (cz : Int32) (v_EMPTY vv : Addr) (kv : ClassId) (v_NONE n_NONE t_NONE : Addr) (k_NONE : ClassId) (v_CSV n_CSV t_CSV : Addr) (k_CSV : ClassId) (v_DATABASE n_DATABASE t_DATABASE : Addr) (k_DATABASE : ClassId) (h0 : Heap) (n0 : Nat) (Z0 : n0 ≤ h0.size)
    (hx : p.tables.exec = Jvm.exec) (hby : c.code = code) (hml : c.maxLocals = 12) (hbr : meth.sig.returnType = ret) (hlk : meth.locks = false) (hZ : Z.Warmed39 (s.setVm s.vm).vm) (hown : (s.setVm s.vm).vm.findClass "com/example/lifetable/lifetable/output/ExportFormatNamedPinLaw" = some m.cls) (X0 : Stand p l e room_1 (s.setVm s.vm) m #[(.int mode), (.int lo), (.int hi), (.int len), (.int pos), (.int ch)] below meth c T0 locs0 (0 + 1) (0 + 8)) (e0 : T0.heap = h0) (N0 : Fr n0 locs0) (hS : s.Since s.vm s.heap.size) (HK0 : s.heap.size ≤ h0.size) (hCH : CHv Z ELs s.vm h0)
    (hWd : World Z h0 cz v_EMPTY vv kv v_NONE n_NONE t_NONE k_NONE v_CSV n_CSV t_CSV k_CSV v_DATABASE n_DATABASE t_DATABASE k_DATABASE) (hcz : ¬ cz = 0) (Vb : Arv Z h0 b kc .char (8 : Int32) [(.int sg0), (.int sg1), (.int sg2), (.int sg3), (.int sg4), (.int sg5), (.int sg6), (.int sg7)] (.int (0 : Int32))) (ok0 : ok sg0) (ok1 : ok sg1) (ok2 : ok sg2) (ok3 : ok sg3) (ok4 : ok sg4) (ok5 : ok sg5) (ok6 : ok sg6) (ok7 : ok sg7) (h9 : ∀ y : Addr, storeLocals #[.val (.int mode), .val (.int lo), .val (.int hi), .val (.int len), .val (.int pos), .val (.int ch), .val (.int (mode &&& (3 : Int32))), .val (.ref b), .val (.int (6 : Int32)), w9, .unset, .unset] 9 (.ref y) = some #[.val (.int mode), .val (.int lo), .val (.int hi), .val (.int len), .val (.int pos), .val (.int ch), .val (.int (mode &&& (3 : Int32))), .val (.ref b), .val (.int (6 : Int32)), .val (.ref y), .unset, .unset]) (k0 : ∀ tg, Steps p.tables e below (T0.setTop (mkF m 336 (fL mode lo hi len pos ch (.val (.int (mode &&& (3 : Int32)))) (.val (.ref b)) (.val (.int (6 : Int32))) w9 .unset .unset) [])) tg → Steps p.tables e below (s₁.setTop (entryFrame m #[(.int mode), (.int lo), (.int hi), (.int len), (.int pos), (.int ch)] maxLocals)) tg) :
    ∃ s₂ o_, Steps p.tables e below (s₁.setTop (entryFrame m #[(.int mode), (.int lo), (.int hi), (.int len), (.int pos), (.int ch)] maxLocals)) s₂ ∧ s₂.status = .running ∧ Ended s₂ below o_ ∧ ∃ v_ L_, o_ = .returned v_ ∧ QL n0 v_ s₂.heap L_ ∧ ReturnedEndW s o_ s₂ L_ room_1.cells room_1.slots := by
  have CH0 : CHr Z ELs s.vm h0 s.vm h0 := CHr.refl hCH
  have hEW := own_EW hw
  have hweq : ∀ d ∈ StrChars.Road.wordsEq, d.before a0 Z = true := fun d hd => hw d ((by decide +kernel : ∀ d ∈ StrChars.Road.wordsEq, d ∈ tables_1) d hd)
  have hp : ∀ c ∈ ([sg0, sg1, sg2, sg3, sg4, sg5] : List Int32), ¬ c < 0 ∧ ¬ (255 : Int32) < c := by
    intro c hc
    simp only [List.mem_cons, List.not_mem_nil, or_false] at hc
    rcases hc with rfl | rfl | rfl | rfl | rfl | rfl <;> assumption
  have hcd : StrChars.Road.CodA ([sg0, sg1, sg2, sg3, sg4, sg5] : List Int32) 0 (Int32.ofNat ([sg0, sg1, sg2, sg3, sg4, sg5] : List Int32).length) ((([sg0, sg1, sg2, sg3, sg4, sg5] : List Int32).map fun c => c.toInt8.toInt32).map Value.int) := StrChars.Road.codOf (n := 6) rfl (fun c hc => (hp c hc).2)
  have hbd := own_up _ hp
  obtain ⟨_, _, ⟨T1, L1, k1, n1⟩, -, X1, ⟨Lc1, hQ1, l1, y1, z1⟩, st1⟩ := Jvm.LawKit.callS X0 hx (y := (⟨"com/example/lifetable/lifetable/output/ExportFormatNamedPinLaw", "str", "([CI)Ljava/lang/String;"⟩ : MethodName)) hown (mvT hZ (ww hw 2 rfl)) (mvT hZ (ww hw 3 rfl)) (mvT hZ (ww hw 4 rfl)) (mvT hZ (ww hw 5 rfl)) (by decide) (backOf (W := 0) (rmStr6 l Z a0 hw [] b kc cz sg0 sg1 sg2 sg3 sg4 sg5 sg6 sg7 h0 n0 Z0 Vb ok0 ok1 ok2 ok3 ok4 ok5 ok6 ok7 ((hWd.ext (own_extK (Keep.refl h0 []))).1) hcz) hZ (ww hw 5 rfl) (ww hw 4 rfl) (by decide) (by decide)) (g := (mkF m 340 (fL mode lo hi len pos ch (.val (.int (mode &&& (3 : Int32)))) (.val (.ref b)) (.val (.int (6 : Int32))) w9 .unset .unset) [(.int (6 : Int32)), (.ref b)])) rfl (by rw [hml]; rfl) (argsL := [(.ref b), (.int (6 : Int32))]) (rest := []) (lenOf pd_8 rfl) rfl (by show 2 * 0 + _ ≤ _; exact Nat.le_of_eq rfl) (hb hby at_340) (fun _ _ => ⟨rfl, e0, (by decide : 1 + 3 ≤ _), (by decide : 8 + 16 ≤ _)⟩)
  dsimp only [Pt.U, Pt.locs, Pt.cells, Pt.slots] at X1 l1 y1 z1 st1 hQ1
  subst l1 y1 z1
  obtain ⟨N1q, K1, sx, bt1, kb1, rfl, le1, E1x, C1x, F1x, V1x⟩ := hQ1
  have N1 := Fr.app N0 N1q
  have ne_b_sx : b ≠ sx := Nat.ne_of_lt (Nat.lt_of_lt_of_le Vb.lt le1)
  have g_sx : n0 ≤ sx := Nat.le_trans Z0 le1
  have sz_sx : h0.size ≤ sx := Nat.le_trans (Keep.refl h0 []).1 le1
  have HK1 := Nat.le_trans HK0 K1.1
  have CH1 := CH0.trans (CHr.keep K1 all0 CH0.1)
  have Z1 := Nat.le_trans Z0 K1.1
  have KP1 := (Keep.refl h0 []).trans K1 all0
  have k2 : ∀ tg, Steps p.tables e below (T1.setTop (mkF m 350 (fL mode lo hi len pos ch (.val (.int (mode &&& (3 : Int32)))) (.val (.ref b)) (.val (.int (6 : Int32))) (.val (.ref sx)) (.val .null) .unset) [(.ref sx)])) tg → Steps p.tables e below (s₁.setTop (entryFrame m #[(.int mode), (.int lo), (.int hi), (.int len), (.int pos), (.int ch)] maxLocals)) tg := by
    intro tg kt
    refine k0 tg ?_
    show Steps p.tables e below (T0.setTop (mkF m 336 (fL mode lo hi len pos ch (.val (.int (mode &&& (3 : Int32)))) (.val (.ref b)) (.val (.int (6 : Int32))) w9 .unset .unset) [])) _
    refine XS.aload X0.here hx rfl (hb hby at_336) rfl rfl ?_
    refine XS.iload X0.here hx rfl (hb hby at_338) rfl ?_
    refine st1 _ ?_
    show Steps p.tables e below (T1.setTop (mkF m 343 (fL mode lo hi len pos ch (.val (.int (mode &&& (3 : Int32)))) (.val (.ref b)) (.val (.int (6 : Int32))) w9 .unset .unset) [(.ref sx)])) _
    refine XS.astore X1.here hx rfl (hb hby at_343) rfl rfl (l' := (fL mode lo hi len pos ch (.val (.int (mode &&& (3 : Int32)))) (.val (.ref b)) (.val (.int (6 : Int32))) (.val (.ref sx)) .unset .unset)) (h9 _) ?_
    refine XS.aconstNull X1.here hx rfl (hb hby at_345) ?_
    refine XS.astore X1.here hx rfl (hb hby at_346) rfl rfl (l' := (fL mode lo hi len pos ch (.val (.int (mode &&& (3 : Int32)))) (.val (.ref b)) (.val (.int (6 : Int32))) (.val (.ref sx)) (.val .null) .unset)) rfl ?_
    refine XS.aload X1.here hx rfl (hb hby at_348) rfl rfl ?_
    show Steps p.tables e below (T1.setTop (mkF m 350 (fL mode lo hi len pos ch (.val (.int (mode &&& (3 : Int32)))) (.val (.ref b)) (.val (.int (6 : Int32))) (.val (.ref sx)) (.val .null) .unset) [(.ref sx)])) _
    exact kt
  obtain ⟨lt3, T3, h3, kk3, bb3, kb3, X3, e3, E3, hS, HQ3, hZ, hown, Ex3, Fc3, Fv3, Va3, la3, lb3, CQ3, -, saf3, st3⟩ := ldcCH X1 hx hZ hown (ww hw 35 rfl) (own_wS hw) rfl hS HK1 hEW (by decide) CH1.1 (vs := [(.int (110 : Int32)), (.int (111 : Int32)), (.int (110 : Int32)), (.int (101 : Int32))]) (z := (4 : Int32)) ⟨by decide, by decide⟩ (by decide) (by decide) (g := (mkF m 350 (fL mode lo hi len pos ch (.val (.int (mode &&& (3 : Int32)))) (.val (.ref b)) (.val (.int (6 : Int32))) (.val (.ref sx)) (.val .null) .unset) [(.ref sx)])) rfl (hb hby at_350) (n := 16) (by decide +kernel) (by decide) (by decide) (by decide)
  have CH3 := CH1.trans CQ3
  have HK3 := Nat.le_trans HK1 E3.1
  have E3_sx := E1x.ext E3
  have F3_sx_coder := C1x.ext E3
  have F3_sx_value := F1x.ext E3
  have V3_bt1 := V1x.ext E3
  have Z3 := Nat.le_trans Z1 E3.1
  have KP3 := KP1.ext E3
  obtain ⟨cq4, kq4, q4a, q4b, q4c⟩ := isOf hZ e3 E3_sx
  obtain ⟨_, _, ⟨T4, L4, k4, n4⟩, -, X4, ⟨Lc4, hQ4, l4, y4, z4⟩, st4⟩ := X3.virtualBack hx (y := (⟨"java/lang/String", "equals", "(Ljava/lang/Object;)Z"⟩ : MethodName)) (z := (⟨"java/lang/String", "equals", "(Ljava/lang/Object;)Z"⟩ : MethodName)) hown (mvT hZ (ww hw 38 rfl)) (mvT hZ (ww hw 39 rfl)) (notFace_of_selects (args := #[]) (mvT hZ (ww hw 41 rfl))) (mvT hZ (ww hw 41 rfl)) (mvT hZ (ww hw 40 rfl)) (by decide) (StrChars.Road.eqW (W := 0) hZ hweq (kI := 4) (ww hw 7 rfl) E3_sx F3_sx_value F3_sx_coder V3_bt1 hcd hbd (Nat.le_of_ble_eq_true rfl) Ex3 Fv3 Fc3 Va3 own_cNone own_bNone (Nat.le_of_ble_eq_true rfl) ((hWd.ext (own_extK KP3)).1) hcz (by decide) (by decide)) q4a q4c (g := (mkF m 352 (fL mode lo hi len pos ch (.val (.int (mode &&& (3 : Int32)))) (.val (.ref b)) (.val (.int (6 : Int32))) (.val (.ref sx)) (.val .null) .unset) [(.ref lt3), (.ref sx)])) rfl (by rw [hml]; rfl) (Steps.refl _) (argsL := [(.ref lt3)]) (rest := []) (lenOf pd_6 rfl) rfl (by show 2 * 0 + _ ≤ _; exact Nat.le_of_eq rfl) (hb hby at_352) (fun _ _ => ⟨rfl, e3, (by decide : 6 + 0 ≤ _), (by decide : 44 + 0 ≤ _)⟩)
  dsimp only [Pt.U, Pt.locs, Pt.cells, Pt.slots] at X4 l4 y4 z4 st4 hQ4
  subst l4 y4 z4
  obtain ⟨hv4, rfl, e4⟩ := hQ4
  obtain rfl := own_eq0 hv4 (by simp [tNone])
  have N4 := Fr.app N1 (Fr.nil n0)
  have hd5 : (0 : Int32) = (0 : Int32) := rfl
  have k6 : ∀ tg, Steps p.tables e below (T4.setTop (mkF m 368 (fL mode lo hi len pos ch (.val (.int (mode &&& (3 : Int32)))) (.val (.ref b)) (.val (.int (6 : Int32))) (.val (.ref sx)) (.val .null) .unset) [(.ref sx)])) tg → Steps p.tables e below (s₁.setTop (entryFrame m #[(.int mode), (.int lo), (.int hi), (.int len), (.int pos), (.int ch)] maxLocals)) tg := by
    intro tg kt
    refine k2 tg ?_
    refine st3 _ ?_
    refine st4.trans ?_
    refine XS.ifYes X4.here hx rfl (pc0 := 355) (pc' := 366) rfl (hb hby at_355) rfl ((if0 _ _).trans (teq hd5).1) (by decide) (by decide) ?_
    refine XS.aload X4.here hx rfl (hb hby at_366) rfl rfl ?_
    exact kt
  obtain ⟨lt7, T7, h7, kk7, bb7, kb7, X7, e7, E7, hS, HQ7, hZ, hown, Ex7, Fc7, Fv7, Va7, la7, lb7, CQ7, -, saf7, st7⟩ := ldcCH X4 hx hZ hown (ww hw 48 rfl) (own_wS hw) e4 hS HQ3 hEW (by decide) CH3.1 (vs := [(.int (99 : Int32)), (.int (115 : Int32)), (.int (118 : Int32))]) (z := (3 : Int32)) ⟨by decide, by decide⟩ (by decide) (by decide) (g := (mkF m 368 (fL mode lo hi len pos ch (.val (.int (mode &&& (3 : Int32)))) (.val (.ref b)) (.val (.int (6 : Int32))) (.val (.ref sx)) (.val .null) .unset) [(.ref sx)])) rfl (hb hby at_368) (n := 12) (by decide +kernel) (by decide) (by decide) (by decide)
  have CH7 := CH3.trans CQ7
  have HK7 := Nat.le_trans HQ3 E7.1
  have E7_sx := E3_sx.ext E7
  have F7_sx_coder := F3_sx_coder.ext E7
  have F7_sx_value := F3_sx_value.ext E7
  have V7_bt1 := V3_bt1.ext E7
  have E7_lt3 := Ex3.ext E7
  have F7_lt3_coder := Fc3.ext E7
  have F7_lt3_value := Fv3.ext E7
  have V7_bb3 := Va3.ext E7
  have Z7 := Nat.le_trans Z3 E7.1
  have KP7 := KP3.ext E7
  obtain ⟨cq8, kq8, q8a, q8b, q8c⟩ := isOf hZ e7 E7_sx
  obtain ⟨_, _, ⟨T8, L8, k8, n8⟩, -, X8, ⟨Lc8, hQ8, l8, y8, z8⟩, st8⟩ := X7.virtualBack hx (y := (⟨"java/lang/String", "equals", "(Ljava/lang/Object;)Z"⟩ : MethodName)) (z := (⟨"java/lang/String", "equals", "(Ljava/lang/Object;)Z"⟩ : MethodName)) hown (mvT hZ (ww hw 38 rfl)) (mvT hZ (ww hw 39 rfl)) (notFace_of_selects (args := #[]) (mvT hZ (ww hw 41 rfl))) (mvT hZ (ww hw 41 rfl)) (mvT hZ (ww hw 40 rfl)) (by decide) (StrChars.Road.eqW (W := 0) hZ hweq (kI := 4) (ww hw 7 rfl) E7_sx F7_sx_value F7_sx_coder V7_bt1 hcd hbd (Nat.le_of_ble_eq_true rfl) Ex7 Fv7 Fc7 Va7 own_cCsv own_bCsv (Nat.le_of_ble_eq_true rfl) ((hWd.ext (own_extK KP7)).1) hcz (by decide) (by decide)) q8a q8c (g := (mkF m 370 (fL mode lo hi len pos ch (.val (.int (mode &&& (3 : Int32)))) (.val (.ref b)) (.val (.int (6 : Int32))) (.val (.ref sx)) (.val .null) .unset) [(.ref lt7), (.ref sx)])) rfl (by rw [hml]; rfl) (Steps.refl _) (argsL := [(.ref lt7)]) (rest := []) (lenOf pd_6 rfl) rfl (by show 2 * 0 + _ ≤ _; exact Nat.le_of_eq rfl) (hb hby at_370) (fun _ _ => ⟨rfl, e7, (by decide : 8 + 0 ≤ _), (by decide : 60 + 0 ≤ _)⟩)
  dsimp only [Pt.U, Pt.locs, Pt.cells, Pt.slots] at X8 l8 y8 z8 st8 hQ8
  subst l8 y8 z8
  obtain ⟨hv8, rfl, e8⟩ := hQ8
  obtain rfl := own_eq0 hv8 (by simp [tCsv])
  have N8 := Fr.app N4 (Fr.nil n0)
  have hd9 : (0 : Int32) = (0 : Int32) := rfl
  have k10 : ∀ tg, Steps p.tables e below (T8.setTop (mkF m 386 (fL mode lo hi len pos ch (.val (.int (mode &&& (3 : Int32)))) (.val (.ref b)) (.val (.int (6 : Int32))) (.val (.ref sx)) (.val .null) .unset) [(.ref sx)])) tg → Steps p.tables e below (s₁.setTop (entryFrame m #[(.int mode), (.int lo), (.int hi), (.int len), (.int pos), (.int ch)] maxLocals)) tg := by
    intro tg kt
    refine k6 tg ?_
    refine st7 _ ?_
    refine st8.trans ?_
    refine XS.ifYes X8.here hx rfl (pc0 := 373) (pc' := 384) rfl (hb hby at_373) rfl ((if0 _ _).trans (teq hd9).1) (by decide) (by decide) ?_
    refine XS.aload X8.here hx rfl (hb hby at_384) rfl rfl ?_
    exact kt
  obtain ⟨lt11, T11, h11, kk11, bb11, kb11, X11, e11, E11, hS, HQ11, hZ, hown, Ex11, Fc11, Fv11, Va11, la11, lb11, CQ11, -, saf11, st11⟩ := ldcCH X8 hx hZ hown (ww hw 49 rfl) (own_wS hw) e8 hS HQ7 hEW (by decide) CH7.1 (vs := [(.int (100 : Int32)), (.int (97 : Int32)), (.int (116 : Int32)), (.int (97 : Int32)), (.int (98 : Int32)), (.int (97 : Int32)), (.int (115 : Int32)), (.int (101 : Int32))]) (z := (8 : Int32)) ⟨by decide, by decide⟩ (by decide) (by decide) (g := (mkF m 386 (fL mode lo hi len pos ch (.val (.int (mode &&& (3 : Int32)))) (.val (.ref b)) (.val (.int (6 : Int32))) (.val (.ref sx)) (.val .null) .unset) [(.ref sx)])) rfl (hb hby at_386) (n := 32) (by decide +kernel) (by decide) (by decide) (by decide)
  have CH11 := CH7.trans CQ11
  have HK11 := Nat.le_trans HQ7 E11.1
  have E11_sx := E7_sx.ext E11
  have F11_sx_coder := F7_sx_coder.ext E11
  have F11_sx_value := F7_sx_value.ext E11
  have V11_bt1 := V7_bt1.ext E11
  have E11_lt3 := E7_lt3.ext E11
  have F11_lt3_coder := F7_lt3_coder.ext E11
  have F11_lt3_value := F7_lt3_value.ext E11
  have V11_bb3 := V7_bb3.ext E11
  have E11_lt7 := Ex7.ext E11
  have F11_lt7_coder := Fc7.ext E11
  have F11_lt7_value := Fv7.ext E11
  have V11_bb7 := Va7.ext E11
  have Z11 := Nat.le_trans Z7 E11.1
  have KP11 := KP7.ext E11
  obtain ⟨cq12, kq12, q12a, q12b, q12c⟩ := isOf hZ e11 E11_sx
  obtain ⟨_, _, ⟨T12, L12, k12, n12⟩, -, X12, ⟨Lc12, hQ12, l12, y12, z12⟩, st12⟩ := X11.virtualBack hx (y := (⟨"java/lang/String", "equals", "(Ljava/lang/Object;)Z"⟩ : MethodName)) (z := (⟨"java/lang/String", "equals", "(Ljava/lang/Object;)Z"⟩ : MethodName)) hown (mvT hZ (ww hw 38 rfl)) (mvT hZ (ww hw 39 rfl)) (notFace_of_selects (args := #[]) (mvT hZ (ww hw 41 rfl))) (mvT hZ (ww hw 41 rfl)) (mvT hZ (ww hw 40 rfl)) (by decide) (StrChars.Road.eqW (W := 0) hZ hweq (kI := 4) (ww hw 7 rfl) E11_sx F11_sx_value F11_sx_coder V11_bt1 hcd hbd (Nat.le_of_ble_eq_true rfl) Ex11 Fv11 Fc11 Va11 own_cData own_bData (Nat.le_of_ble_eq_true rfl) ((hWd.ext (own_extK KP11)).1) hcz (by decide) (by decide)) q12a q12c (g := (mkF m 388 (fL mode lo hi len pos ch (.val (.int (mode &&& (3 : Int32)))) (.val (.ref b)) (.val (.int (6 : Int32))) (.val (.ref sx)) (.val .null) .unset) [(.ref lt11), (.ref sx)])) rfl (by rw [hml]; rfl) (Steps.refl _) (argsL := [(.ref lt11)]) (rest := []) (lenOf pd_6 rfl) rfl (by show 2 * 0 + _ ≤ _; exact Nat.le_of_eq rfl) (hb hby at_388) (fun _ _ => ⟨rfl, e11, (by decide : 10 + 0 ≤ _), (by decide : 96 + 0 ≤ _)⟩)
  dsimp only [Pt.U, Pt.locs, Pt.cells, Pt.slots] at X12 l12 y12 z12 st12 hQ12
  subst l12 y12 z12
  obtain ⟨hv12, rfl, e12⟩ := hQ12
  obtain rfl := own_eq0 hv12 (by simp [tData])
  have N12 := Fr.app N8 (Fr.nil n0)
  have hd13 : (0 : Int32) = (0 : Int32) := rfl
  obtain ⟨_, _, ⟨T14, L14, k14, n14⟩, -, X14, ⟨Lc14, hQ14, l14, y14, z14⟩, st14⟩ := Jvm.LawKit.callS X12 hx (y := (⟨"com/example/lifetable/lifetable/output/ExportFormat", "named", "(Ljava/lang/String;)Ljava/util/Optional;"⟩ : MethodName)) hown (mvT hZ (ww hw 50 rfl)) (mvT hZ (ww hw 51 rfl)) (mvT hZ (ww hw 52 rfl)) (mvT hZ (ww hw 53 rfl)) (by decide) (backOf (W := 0) (rmNamed0 l Z a0 hw [] sx ([sg0, sg1, sg2, sg3, sg4, sg5] : List Int32) bt1 kb1 (Int32.ofNat ([sg0, sg1, sg2, sg3, sg4, sg5] : List Int32).length) ((([sg0, sg1, sg2, sg3, sg4, sg5] : List Int32).map fun c => c.toInt8.toInt32).map Value.int) cz v_EMPTY vv kv v_NONE n_NONE t_NONE k_NONE v_CSV n_CSV t_CSV k_CSV v_DATABASE n_DATABASE t_DATABASE k_DATABASE h11 n0 Z11 (hWd.ext (own_extK KP11)) hcz E11_sx F11_sx_value F11_sx_coder V11_bt1 hcd hbd (Nat.le_of_ble_eq_true rfl) (by simp [tNone]) (by simp [tCsv]) (by simp [tData])) hZ (ww hw 53 rfl) (ww hw 52 rfl) (by decide) (by decide)) (g := (mkF m 401 (fL mode lo hi len pos ch (.val (.int (mode &&& (3 : Int32)))) (.val (.ref b)) (.val (.int (6 : Int32))) (.val (.ref sx)) (.val .null) .unset) [(.ref sx)])) rfl (by rw [hml]; rfl) (argsL := [(.ref sx)]) (rest := []) (lenOf pd_9 rfl) rfl (by show 2 * 0 + _ ≤ _; exact Nat.le_of_eq rfl) (hb hby at_401) (fun _ _ => ⟨rfl, e12, (by decide : 10 + 1 ≤ _), (by decide : 96 + 3 ≤ _)⟩)
  dsimp only [Pt.U, Pt.locs, Pt.cells, Pt.slots] at X14 l14 y14 z14 st14 hQ14
  subst l14 y14 z14
  obtain ⟨N14q, K14, on14, rfl, E14o, Fv14⟩ := hQ14
  have N14 := Fr.app N12 N14q
  have HK14 := Nat.le_trans HQ11 K14.1
  have CH14 := CH11.trans (CHr.keep K14 all0 CH11.1)
  have E14_sx := E11_sx.keep K14
  have F14_sx_coder := F11_sx_coder.keep K14 nin0
  have F14_sx_value := F11_sx_value.keep K14 nin0
  have V14_bt1 := V11_bt1.keep K14 nin0
  have E14_lt3 := E11_lt3.keep K14
  have F14_lt3_coder := F11_lt3_coder.keep K14 nin0
  have F14_lt3_value := F11_lt3_value.keep K14 nin0
  have V14_bb3 := V11_bb3.keep K14 nin0
  have E14_lt7 := E11_lt7.keep K14
  have F14_lt7_coder := F11_lt7_coder.keep K14 nin0
  have F14_lt7_value := F11_lt7_value.keep K14 nin0
  have V14_bb7 := V11_bb7.keep K14 nin0
  have E14_lt11 := Ex11.keep K14
  have F14_lt11_coder := Fc11.keep K14 nin0
  have F14_lt11_value := Fv11.keep K14 nin0
  have V14_bb11 := Va11.keep K14 nin0
  have Z14 := Nat.le_trans Z11 K14.1
  have KP14 := KP11.trans K14 all0
  obtain ⟨cq15, kq15, q15a, q15b, q15c⟩ := isOf hZ rfl E14o
  obtain ⟨_, _, ⟨T15, L15, k15, n15⟩, -, X15, ⟨Lc15, hQ15, l15, y15, z15⟩, st15⟩ := X14.virtualBack hx (y := (⟨"java/util/Optional", "orElse", "(Ljava/lang/Object;)Ljava/lang/Object;"⟩ : MethodName)) (z := (⟨"java/util/Optional", "orElse", "(Ljava/lang/Object;)Ljava/lang/Object;"⟩ : MethodName)) hown (mvT hZ (ww hw 80 rfl)) (mvT hZ (ww hw 81 rfl)) (notFace_of_selects (args := #[]) (mvT hZ (ww hw 83 rfl))) (mvT hZ (ww hw 83 rfl)) (mvT hZ (ww hw 82 rfl)) (by decide) (backOf (W := 0) (rmOr0 l Z a0 hw [] on14  T14.heap n0 Fv14) hZ (ww hw 84 rfl) (ww hw 56 rfl) (by decide) (by decide)) q15a q15c (g := (mkF m 405 (fL mode lo hi len pos ch (.val (.int (mode &&& (3 : Int32)))) (.val (.ref b)) (.val (.int (6 : Int32))) (.val (.ref sx)) (.val .null) .unset) [.null, (.ref on14)])) rfl (by rw [hml]; rfl) (Steps.refl _) (argsL := [.null]) (rest := []) (lenOf pd_2 rfl) rfl (by show 2 * 0 + _ ≤ _; exact Nat.le_of_eq rfl) (hb hby at_405) (fun _ _ => ⟨rfl, rfl, (by decide : 11 + 0 ≤ _), (by decide : 99 + 0 ≤ _)⟩)
  dsimp only [Pt.U, Pt.locs, Pt.cells, Pt.slots] at X15 l15 y15 z15 st15 hQ15
  subst l15 y15 z15
  obtain ⟨rfl, N15q, e15⟩ := hQ15
  have N15 := Fr.app N14 N15q
  have k16 : ∀ tg, Steps p.tables e below (T15.setTop (mkF m 425 (fL mode lo hi len pos ch (.val (.int (mode &&& (3 : Int32)))) (.val (.ref b)) (.val (.int (6 : Int32))) (.val (.ref sx)) (.val .null) (.val .null)) [(.int (1 : Int32))])) tg → Steps p.tables e below (s₁.setTop (entryFrame m #[(.int mode), (.int lo), (.int hi), (.int len), (.int pos), (.int ch)] maxLocals)) tg := by
    intro tg kt
    refine k10 tg ?_
    refine st11 _ ?_
    refine st12.trans ?_
    refine XS.ifYes X12.here hx rfl (pc0 := 391) (pc' := 399) rfl (hb hby at_391) rfl ((if0 _ _).trans (teq hd13).1) (by decide) (by decide) ?_
    refine XS.aload X12.here hx rfl (hb hby at_399) rfl rfl ?_
    show Steps p.tables e below (T12.setTop (mkF m 401 (fL mode lo hi len pos ch (.val (.int (mode &&& (3 : Int32)))) (.val (.ref b)) (.val (.int (6 : Int32))) (.val (.ref sx)) (.val .null) .unset) [(.ref sx)])) _
    refine st14 _ ?_
    refine XS.aconstNull X14.here hx rfl (hb hby at_404) ?_
    refine st15.trans ?_
    refine X15.checkcastNull hx (g := (mkF m 408 (fL mode lo hi len pos ch (.val (.int (mode &&& (3 : Int32)))) (.val (.ref b)) (.val (.int (6 : Int32))) (.val (.ref sx)) (.val .null) .unset) [.null])) rfl rfl (hb hby at_408) _ ?_
    show Steps p.tables e below (T15.setTop (mkF m 411 (fL mode lo hi len pos ch (.val (.int (mode &&& (3 : Int32)))) (.val (.ref b)) (.val (.int (6 : Int32))) (.val (.ref sx)) (.val .null) .unset) [.null])) _
    refine XS.astore X15.here hx rfl (hb hby at_411) rfl rfl (l' := (fL mode lo hi len pos ch (.val (.int (mode &&& (3 : Int32)))) (.val (.ref b)) (.val (.int (6 : Int32))) (.val (.ref sx)) (.val .null) (.val .null))) rfl ?_
    refine XS.aload X15.here hx rfl (hb hby at_413) rfl rfl ?_
    refine XS.aload X15.here hx rfl (hb hby at_415) rfl rfl ?_
    refine Jvm.RoadKit.acmp (g := (mkF m 417 (fL mode lo hi len pos ch (.val (.int (mode &&& (3 : Int32)))) (.val (.ref b)) (.val (.int (6 : Int32))) (.val (.ref sx)) (.val .null) (.val .null)) [.null, .null])) X15 hx rfl rfl rfl (pc0 := 417) (pc' := 420) (same := true) rfl (hb hby at_417) rfl (decide_eq_true rfl) (by decide) (by decide) ?_
    show Steps p.tables e below (T15.setTop (mkF m 420 (fL mode lo hi len pos ch (.val (.int (mode &&& (3 : Int32)))) (.val (.ref b)) (.val (.int (6 : Int32))) (.val (.ref sx)) (.val .null) (.val .null)) [])) _
    refine XS.iconst X15.here hx rfl (hb hby at_420) ?_
    refine XS.goto X15.here hx rfl (pc0 := 421) (pc' := 425) rfl (hb hby at_421) (by decide) (by decide) ?_
    show Steps p.tables e below (T15.setTop (mkF m 425 (fL mode lo hi len pos ch (.val (.int (mode &&& (3 : Int32)))) (.val (.ref b)) (.val (.int (6 : Int32))) (.val (.ref sx)) (.val .null) (.val .null)) [(.int (1 : Int32))])) _
    exact kt
  obtain ⟨fs, hr, hrun, hended, hRW⟩ := X15.leaveW hS (own_hk e15 HK14) (v := some (.int (1 : Int32))) (fun h => by rw [hbr] at h; cases h)
  refine ⟨_, _, k16 _ ?_, hrun, hended, _, _, rfl, ?_, hRW.1, hRW.2.1, hRW.2.2.1, hRW.2.2.2.mono (by decide) (by decide)⟩
  · exact retN X15 hx (t := .boolean) hbr (by simp) (hb hby at_425) hr
  · show QL n0 _ T15.heap _
    exact ⟨rfl, N15⟩
set_option maxRecDepth 65536 in
set_option maxHeartbeats 40000000 in
theorem tail_7 (l : Launch) (Z : State) (a0 : Array Value) (hw : ∀ d ∈ tables_1, d.before a0 Z = true) {p : Program} {e : Env} {s : State} {m : MethodId} {below : List Frame} {meth : Method} {c : Code} {s₁ T0 : State} {locs0 : List Loc} (mode lo hi len pos ch : Int32) (w9 : Slot) (b : Addr) (kc : ClassId) (sg0 sg1 sg2 sg3 sg4 sg5 sg6 sg7 : Int32) (cz : Int32) (v_EMPTY vv : Addr) (kv : ClassId) (v_NONE n_NONE t_NONE : Addr) (k_NONE : ClassId) (v_CSV n_CSV t_CSV : Addr) (k_CSV : ClassId) (v_DATABASE n_DATABASE t_DATABASE : Addr) (k_DATABASE : ClassId) (h0 : Heap) (n0 : Nat) (Z0 : n0 ≤ h0.size)
    (hx : p.tables.exec = Jvm.exec) (hby : c.code = code) (hml : c.maxLocals = 12) (hbr : meth.sig.returnType = ret) (hlk : meth.locks = false) (hZ : Z.Warmed39 (s.setVm s.vm).vm) (hown : (s.setVm s.vm).vm.findClass "com/example/lifetable/lifetable/output/ExportFormatNamedPinLaw" = some m.cls) (X0 : Stand p l e room_1 (s.setVm s.vm) m #[(.int mode), (.int lo), (.int hi), (.int len), (.int pos), (.int ch)] below meth c T0 locs0 (0 + 1) (0 + 8)) (e0 : T0.heap = h0) (N0 : Fr n0 locs0) (hS : s.Since s.vm s.heap.size) (HK0 : s.heap.size ≤ h0.size) (hCH : CHv Z ELs s.vm h0)
    (hWd : World Z h0 cz v_EMPTY vv kv v_NONE n_NONE t_NONE k_NONE v_CSV n_CSV t_CSV k_CSV v_DATABASE n_DATABASE t_DATABASE k_DATABASE) (hcz : ¬ cz = 0) (Vb : Arv Z h0 b kc .char (8 : Int32) [(.int sg0), (.int sg1), (.int sg2), (.int sg3), (.int sg4), (.int sg5), (.int sg6), (.int sg7)] (.int (0 : Int32))) (ok0 : ok sg0) (ok1 : ok sg1) (ok2 : ok sg2) (ok3 : ok sg3) (ok4 : ok sg4) (ok5 : ok sg5) (ok6 : ok sg6) (ok7 : ok sg7) (h9 : ∀ y : Addr, storeLocals #[.val (.int mode), .val (.int lo), .val (.int hi), .val (.int len), .val (.int pos), .val (.int ch), .val (.int (mode &&& (3 : Int32))), .val (.ref b), .val (.int (7 : Int32)), w9, .unset, .unset] 9 (.ref y) = some #[.val (.int mode), .val (.int lo), .val (.int hi), .val (.int len), .val (.int pos), .val (.int ch), .val (.int (mode &&& (3 : Int32))), .val (.ref b), .val (.int (7 : Int32)), .val (.ref y), .unset, .unset]) (k0 : ∀ tg, Steps p.tables e below (T0.setTop (mkF m 336 (fL mode lo hi len pos ch (.val (.int (mode &&& (3 : Int32)))) (.val (.ref b)) (.val (.int (7 : Int32))) w9 .unset .unset) [])) tg → Steps p.tables e below (s₁.setTop (entryFrame m #[(.int mode), (.int lo), (.int hi), (.int len), (.int pos), (.int ch)] maxLocals)) tg) :
    ∃ s₂ o_, Steps p.tables e below (s₁.setTop (entryFrame m #[(.int mode), (.int lo), (.int hi), (.int len), (.int pos), (.int ch)] maxLocals)) s₂ ∧ s₂.status = .running ∧ Ended s₂ below o_ ∧ ∃ v_ L_, o_ = .returned v_ ∧ QL n0 v_ s₂.heap L_ ∧ ReturnedEndW s o_ s₂ L_ room_1.cells room_1.slots := by
  have CH0 : CHr Z ELs s.vm h0 s.vm h0 := CHr.refl hCH
  have hEW := own_EW hw
  have hweq : ∀ d ∈ StrChars.Road.wordsEq, d.before a0 Z = true := fun d hd => hw d ((by decide +kernel : ∀ d ∈ StrChars.Road.wordsEq, d ∈ tables_1) d hd)
  have hp : ∀ c ∈ ([sg0, sg1, sg2, sg3, sg4, sg5, sg6] : List Int32), ¬ c < 0 ∧ ¬ (255 : Int32) < c := by
    intro c hc
    simp only [List.mem_cons, List.not_mem_nil, or_false] at hc
    rcases hc with rfl | rfl | rfl | rfl | rfl | rfl | rfl <;> assumption
  have hcd : StrChars.Road.CodA ([sg0, sg1, sg2, sg3, sg4, sg5, sg6] : List Int32) 0 (Int32.ofNat ([sg0, sg1, sg2, sg3, sg4, sg5, sg6] : List Int32).length) ((([sg0, sg1, sg2, sg3, sg4, sg5, sg6] : List Int32).map fun c => c.toInt8.toInt32).map Value.int) := StrChars.Road.codOf (n := 7) rfl (fun c hc => (hp c hc).2)
  have hbd := own_up _ hp
  obtain ⟨_, _, ⟨T1, L1, k1, n1⟩, -, X1, ⟨Lc1, hQ1, l1, y1, z1⟩, st1⟩ := Jvm.LawKit.callS X0 hx (y := (⟨"com/example/lifetable/lifetable/output/ExportFormatNamedPinLaw", "str", "([CI)Ljava/lang/String;"⟩ : MethodName)) hown (mvT hZ (ww hw 2 rfl)) (mvT hZ (ww hw 3 rfl)) (mvT hZ (ww hw 4 rfl)) (mvT hZ (ww hw 5 rfl)) (by decide) (backOf (W := 0) (rmStr7 l Z a0 hw [] b kc cz sg0 sg1 sg2 sg3 sg4 sg5 sg6 sg7 h0 n0 Z0 Vb ok0 ok1 ok2 ok3 ok4 ok5 ok6 ok7 ((hWd.ext (own_extK (Keep.refl h0 []))).1) hcz) hZ (ww hw 5 rfl) (ww hw 4 rfl) (by decide) (by decide)) (g := (mkF m 340 (fL mode lo hi len pos ch (.val (.int (mode &&& (3 : Int32)))) (.val (.ref b)) (.val (.int (7 : Int32))) w9 .unset .unset) [(.int (7 : Int32)), (.ref b)])) rfl (by rw [hml]; rfl) (argsL := [(.ref b), (.int (7 : Int32))]) (rest := []) (lenOf pd_8 rfl) rfl (by show 2 * 0 + _ ≤ _; exact Nat.le_of_eq rfl) (hb hby at_340) (fun _ _ => ⟨rfl, e0, (by decide : 1 + 3 ≤ _), (by decide : 8 + 18 ≤ _)⟩)
  dsimp only [Pt.U, Pt.locs, Pt.cells, Pt.slots] at X1 l1 y1 z1 st1 hQ1
  subst l1 y1 z1
  obtain ⟨N1q, K1, sx, bt1, kb1, rfl, le1, E1x, C1x, F1x, V1x⟩ := hQ1
  have N1 := Fr.app N0 N1q
  have ne_b_sx : b ≠ sx := Nat.ne_of_lt (Nat.lt_of_lt_of_le Vb.lt le1)
  have g_sx : n0 ≤ sx := Nat.le_trans Z0 le1
  have sz_sx : h0.size ≤ sx := Nat.le_trans (Keep.refl h0 []).1 le1
  have HK1 := Nat.le_trans HK0 K1.1
  have CH1 := CH0.trans (CHr.keep K1 all0 CH0.1)
  have Z1 := Nat.le_trans Z0 K1.1
  have KP1 := (Keep.refl h0 []).trans K1 all0
  have k2 : ∀ tg, Steps p.tables e below (T1.setTop (mkF m 350 (fL mode lo hi len pos ch (.val (.int (mode &&& (3 : Int32)))) (.val (.ref b)) (.val (.int (7 : Int32))) (.val (.ref sx)) (.val .null) .unset) [(.ref sx)])) tg → Steps p.tables e below (s₁.setTop (entryFrame m #[(.int mode), (.int lo), (.int hi), (.int len), (.int pos), (.int ch)] maxLocals)) tg := by
    intro tg kt
    refine k0 tg ?_
    show Steps p.tables e below (T0.setTop (mkF m 336 (fL mode lo hi len pos ch (.val (.int (mode &&& (3 : Int32)))) (.val (.ref b)) (.val (.int (7 : Int32))) w9 .unset .unset) [])) _
    refine XS.aload X0.here hx rfl (hb hby at_336) rfl rfl ?_
    refine XS.iload X0.here hx rfl (hb hby at_338) rfl ?_
    refine st1 _ ?_
    show Steps p.tables e below (T1.setTop (mkF m 343 (fL mode lo hi len pos ch (.val (.int (mode &&& (3 : Int32)))) (.val (.ref b)) (.val (.int (7 : Int32))) w9 .unset .unset) [(.ref sx)])) _
    refine XS.astore X1.here hx rfl (hb hby at_343) rfl rfl (l' := (fL mode lo hi len pos ch (.val (.int (mode &&& (3 : Int32)))) (.val (.ref b)) (.val (.int (7 : Int32))) (.val (.ref sx)) .unset .unset)) (h9 _) ?_
    refine XS.aconstNull X1.here hx rfl (hb hby at_345) ?_
    refine XS.astore X1.here hx rfl (hb hby at_346) rfl rfl (l' := (fL mode lo hi len pos ch (.val (.int (mode &&& (3 : Int32)))) (.val (.ref b)) (.val (.int (7 : Int32))) (.val (.ref sx)) (.val .null) .unset)) rfl ?_
    refine XS.aload X1.here hx rfl (hb hby at_348) rfl rfl ?_
    show Steps p.tables e below (T1.setTop (mkF m 350 (fL mode lo hi len pos ch (.val (.int (mode &&& (3 : Int32)))) (.val (.ref b)) (.val (.int (7 : Int32))) (.val (.ref sx)) (.val .null) .unset) [(.ref sx)])) _
    exact kt
  obtain ⟨lt3, T3, h3, kk3, bb3, kb3, X3, e3, E3, hS, HQ3, hZ, hown, Ex3, Fc3, Fv3, Va3, la3, lb3, CQ3, -, saf3, st3⟩ := ldcCH X1 hx hZ hown (ww hw 35 rfl) (own_wS hw) rfl hS HK1 hEW (by decide) CH1.1 (vs := [(.int (110 : Int32)), (.int (111 : Int32)), (.int (110 : Int32)), (.int (101 : Int32))]) (z := (4 : Int32)) ⟨by decide, by decide⟩ (by decide) (by decide) (g := (mkF m 350 (fL mode lo hi len pos ch (.val (.int (mode &&& (3 : Int32)))) (.val (.ref b)) (.val (.int (7 : Int32))) (.val (.ref sx)) (.val .null) .unset) [(.ref sx)])) rfl (hb hby at_350) (n := 16) (by decide +kernel) (by decide) (by decide) (by decide)
  have CH3 := CH1.trans CQ3
  have HK3 := Nat.le_trans HK1 E3.1
  have E3_sx := E1x.ext E3
  have F3_sx_coder := C1x.ext E3
  have F3_sx_value := F1x.ext E3
  have V3_bt1 := V1x.ext E3
  have Z3 := Nat.le_trans Z1 E3.1
  have KP3 := KP1.ext E3
  obtain ⟨cq4, kq4, q4a, q4b, q4c⟩ := isOf hZ e3 E3_sx
  obtain ⟨_, _, ⟨T4, L4, k4, n4⟩, -, X4, ⟨Lc4, hQ4, l4, y4, z4⟩, st4⟩ := X3.virtualBack hx (y := (⟨"java/lang/String", "equals", "(Ljava/lang/Object;)Z"⟩ : MethodName)) (z := (⟨"java/lang/String", "equals", "(Ljava/lang/Object;)Z"⟩ : MethodName)) hown (mvT hZ (ww hw 38 rfl)) (mvT hZ (ww hw 39 rfl)) (notFace_of_selects (args := #[]) (mvT hZ (ww hw 41 rfl))) (mvT hZ (ww hw 41 rfl)) (mvT hZ (ww hw 40 rfl)) (by decide) (StrChars.Road.eqW (W := 0) hZ hweq (kI := 4) (ww hw 7 rfl) E3_sx F3_sx_value F3_sx_coder V3_bt1 hcd hbd (Nat.le_of_ble_eq_true rfl) Ex3 Fv3 Fc3 Va3 own_cNone own_bNone (Nat.le_of_ble_eq_true rfl) ((hWd.ext (own_extK KP3)).1) hcz (by decide) (by decide)) q4a q4c (g := (mkF m 352 (fL mode lo hi len pos ch (.val (.int (mode &&& (3 : Int32)))) (.val (.ref b)) (.val (.int (7 : Int32))) (.val (.ref sx)) (.val .null) .unset) [(.ref lt3), (.ref sx)])) rfl (by rw [hml]; rfl) (Steps.refl _) (argsL := [(.ref lt3)]) (rest := []) (lenOf pd_6 rfl) rfl (by show 2 * 0 + _ ≤ _; exact Nat.le_of_eq rfl) (hb hby at_352) (fun _ _ => ⟨rfl, e3, (by decide : 6 + 0 ≤ _), (by decide : 46 + 0 ≤ _)⟩)
  dsimp only [Pt.U, Pt.locs, Pt.cells, Pt.slots] at X4 l4 y4 z4 st4 hQ4
  subst l4 y4 z4
  obtain ⟨hv4, rfl, e4⟩ := hQ4
  obtain rfl := own_eq0 hv4 (by simp [tNone])
  have N4 := Fr.app N1 (Fr.nil n0)
  have hd5 : (0 : Int32) = (0 : Int32) := rfl
  have k6 : ∀ tg, Steps p.tables e below (T4.setTop (mkF m 368 (fL mode lo hi len pos ch (.val (.int (mode &&& (3 : Int32)))) (.val (.ref b)) (.val (.int (7 : Int32))) (.val (.ref sx)) (.val .null) .unset) [(.ref sx)])) tg → Steps p.tables e below (s₁.setTop (entryFrame m #[(.int mode), (.int lo), (.int hi), (.int len), (.int pos), (.int ch)] maxLocals)) tg := by
    intro tg kt
    refine k2 tg ?_
    refine st3 _ ?_
    refine st4.trans ?_
    refine XS.ifYes X4.here hx rfl (pc0 := 355) (pc' := 366) rfl (hb hby at_355) rfl ((if0 _ _).trans (teq hd5).1) (by decide) (by decide) ?_
    refine XS.aload X4.here hx rfl (hb hby at_366) rfl rfl ?_
    exact kt
  obtain ⟨lt7, T7, h7, kk7, bb7, kb7, X7, e7, E7, hS, HQ7, hZ, hown, Ex7, Fc7, Fv7, Va7, la7, lb7, CQ7, -, saf7, st7⟩ := ldcCH X4 hx hZ hown (ww hw 48 rfl) (own_wS hw) e4 hS HQ3 hEW (by decide) CH3.1 (vs := [(.int (99 : Int32)), (.int (115 : Int32)), (.int (118 : Int32))]) (z := (3 : Int32)) ⟨by decide, by decide⟩ (by decide) (by decide) (g := (mkF m 368 (fL mode lo hi len pos ch (.val (.int (mode &&& (3 : Int32)))) (.val (.ref b)) (.val (.int (7 : Int32))) (.val (.ref sx)) (.val .null) .unset) [(.ref sx)])) rfl (hb hby at_368) (n := 12) (by decide +kernel) (by decide) (by decide) (by decide)
  have CH7 := CH3.trans CQ7
  have HK7 := Nat.le_trans HQ3 E7.1
  have E7_sx := E3_sx.ext E7
  have F7_sx_coder := F3_sx_coder.ext E7
  have F7_sx_value := F3_sx_value.ext E7
  have V7_bt1 := V3_bt1.ext E7
  have E7_lt3 := Ex3.ext E7
  have F7_lt3_coder := Fc3.ext E7
  have F7_lt3_value := Fv3.ext E7
  have V7_bb3 := Va3.ext E7
  have Z7 := Nat.le_trans Z3 E7.1
  have KP7 := KP3.ext E7
  obtain ⟨cq8, kq8, q8a, q8b, q8c⟩ := isOf hZ e7 E7_sx
  obtain ⟨_, _, ⟨T8, L8, k8, n8⟩, -, X8, ⟨Lc8, hQ8, l8, y8, z8⟩, st8⟩ := X7.virtualBack hx (y := (⟨"java/lang/String", "equals", "(Ljava/lang/Object;)Z"⟩ : MethodName)) (z := (⟨"java/lang/String", "equals", "(Ljava/lang/Object;)Z"⟩ : MethodName)) hown (mvT hZ (ww hw 38 rfl)) (mvT hZ (ww hw 39 rfl)) (notFace_of_selects (args := #[]) (mvT hZ (ww hw 41 rfl))) (mvT hZ (ww hw 41 rfl)) (mvT hZ (ww hw 40 rfl)) (by decide) (StrChars.Road.eqW (W := 0) hZ hweq (kI := 4) (ww hw 7 rfl) E7_sx F7_sx_value F7_sx_coder V7_bt1 hcd hbd (Nat.le_of_ble_eq_true rfl) Ex7 Fv7 Fc7 Va7 own_cCsv own_bCsv (Nat.le_of_ble_eq_true rfl) ((hWd.ext (own_extK KP7)).1) hcz (by decide) (by decide)) q8a q8c (g := (mkF m 370 (fL mode lo hi len pos ch (.val (.int (mode &&& (3 : Int32)))) (.val (.ref b)) (.val (.int (7 : Int32))) (.val (.ref sx)) (.val .null) .unset) [(.ref lt7), (.ref sx)])) rfl (by rw [hml]; rfl) (Steps.refl _) (argsL := [(.ref lt7)]) (rest := []) (lenOf pd_6 rfl) rfl (by show 2 * 0 + _ ≤ _; exact Nat.le_of_eq rfl) (hb hby at_370) (fun _ _ => ⟨rfl, e7, (by decide : 8 + 0 ≤ _), (by decide : 62 + 0 ≤ _)⟩)
  dsimp only [Pt.U, Pt.locs, Pt.cells, Pt.slots] at X8 l8 y8 z8 st8 hQ8
  subst l8 y8 z8
  obtain ⟨hv8, rfl, e8⟩ := hQ8
  obtain rfl := own_eq0 hv8 (by simp [tCsv])
  have N8 := Fr.app N4 (Fr.nil n0)
  have hd9 : (0 : Int32) = (0 : Int32) := rfl
  have k10 : ∀ tg, Steps p.tables e below (T8.setTop (mkF m 386 (fL mode lo hi len pos ch (.val (.int (mode &&& (3 : Int32)))) (.val (.ref b)) (.val (.int (7 : Int32))) (.val (.ref sx)) (.val .null) .unset) [(.ref sx)])) tg → Steps p.tables e below (s₁.setTop (entryFrame m #[(.int mode), (.int lo), (.int hi), (.int len), (.int pos), (.int ch)] maxLocals)) tg := by
    intro tg kt
    refine k6 tg ?_
    refine st7 _ ?_
    refine st8.trans ?_
    refine XS.ifYes X8.here hx rfl (pc0 := 373) (pc' := 384) rfl (hb hby at_373) rfl ((if0 _ _).trans (teq hd9).1) (by decide) (by decide) ?_
    refine XS.aload X8.here hx rfl (hb hby at_384) rfl rfl ?_
    exact kt
  obtain ⟨lt11, T11, h11, kk11, bb11, kb11, X11, e11, E11, hS, HQ11, hZ, hown, Ex11, Fc11, Fv11, Va11, la11, lb11, CQ11, -, saf11, st11⟩ := ldcCH X8 hx hZ hown (ww hw 49 rfl) (own_wS hw) e8 hS HQ7 hEW (by decide) CH7.1 (vs := [(.int (100 : Int32)), (.int (97 : Int32)), (.int (116 : Int32)), (.int (97 : Int32)), (.int (98 : Int32)), (.int (97 : Int32)), (.int (115 : Int32)), (.int (101 : Int32))]) (z := (8 : Int32)) ⟨by decide, by decide⟩ (by decide) (by decide) (g := (mkF m 386 (fL mode lo hi len pos ch (.val (.int (mode &&& (3 : Int32)))) (.val (.ref b)) (.val (.int (7 : Int32))) (.val (.ref sx)) (.val .null) .unset) [(.ref sx)])) rfl (hb hby at_386) (n := 32) (by decide +kernel) (by decide) (by decide) (by decide)
  have CH11 := CH7.trans CQ11
  have HK11 := Nat.le_trans HQ7 E11.1
  have E11_sx := E7_sx.ext E11
  have F11_sx_coder := F7_sx_coder.ext E11
  have F11_sx_value := F7_sx_value.ext E11
  have V11_bt1 := V7_bt1.ext E11
  have E11_lt3 := E7_lt3.ext E11
  have F11_lt3_coder := F7_lt3_coder.ext E11
  have F11_lt3_value := F7_lt3_value.ext E11
  have V11_bb3 := V7_bb3.ext E11
  have E11_lt7 := Ex7.ext E11
  have F11_lt7_coder := Fc7.ext E11
  have F11_lt7_value := Fv7.ext E11
  have V11_bb7 := Va7.ext E11
  have Z11 := Nat.le_trans Z7 E11.1
  have KP11 := KP7.ext E11
  obtain ⟨cq12, kq12, q12a, q12b, q12c⟩ := isOf hZ e11 E11_sx
  obtain ⟨_, _, ⟨T12, L12, k12, n12⟩, -, X12, ⟨Lc12, hQ12, l12, y12, z12⟩, st12⟩ := X11.virtualBack hx (y := (⟨"java/lang/String", "equals", "(Ljava/lang/Object;)Z"⟩ : MethodName)) (z := (⟨"java/lang/String", "equals", "(Ljava/lang/Object;)Z"⟩ : MethodName)) hown (mvT hZ (ww hw 38 rfl)) (mvT hZ (ww hw 39 rfl)) (notFace_of_selects (args := #[]) (mvT hZ (ww hw 41 rfl))) (mvT hZ (ww hw 41 rfl)) (mvT hZ (ww hw 40 rfl)) (by decide) (StrChars.Road.eqW (W := 0) hZ hweq (kI := 4) (ww hw 7 rfl) E11_sx F11_sx_value F11_sx_coder V11_bt1 hcd hbd (Nat.le_of_ble_eq_true rfl) Ex11 Fv11 Fc11 Va11 own_cData own_bData (Nat.le_of_ble_eq_true rfl) ((hWd.ext (own_extK KP11)).1) hcz (by decide) (by decide)) q12a q12c (g := (mkF m 388 (fL mode lo hi len pos ch (.val (.int (mode &&& (3 : Int32)))) (.val (.ref b)) (.val (.int (7 : Int32))) (.val (.ref sx)) (.val .null) .unset) [(.ref lt11), (.ref sx)])) rfl (by rw [hml]; rfl) (Steps.refl _) (argsL := [(.ref lt11)]) (rest := []) (lenOf pd_6 rfl) rfl (by show 2 * 0 + _ ≤ _; exact Nat.le_of_eq rfl) (hb hby at_388) (fun _ _ => ⟨rfl, e11, (by decide : 10 + 0 ≤ _), (by decide : 98 + 0 ≤ _)⟩)
  dsimp only [Pt.U, Pt.locs, Pt.cells, Pt.slots] at X12 l12 y12 z12 st12 hQ12
  subst l12 y12 z12
  obtain ⟨hv12, rfl, e12⟩ := hQ12
  obtain rfl := own_eq0 hv12 (by simp [tData])
  have N12 := Fr.app N8 (Fr.nil n0)
  have hd13 : (0 : Int32) = (0 : Int32) := rfl
  obtain ⟨_, _, ⟨T14, L14, k14, n14⟩, -, X14, ⟨Lc14, hQ14, l14, y14, z14⟩, st14⟩ := Jvm.LawKit.callS X12 hx (y := (⟨"com/example/lifetable/lifetable/output/ExportFormat", "named", "(Ljava/lang/String;)Ljava/util/Optional;"⟩ : MethodName)) hown (mvT hZ (ww hw 50 rfl)) (mvT hZ (ww hw 51 rfl)) (mvT hZ (ww hw 52 rfl)) (mvT hZ (ww hw 53 rfl)) (by decide) (backOf (W := 0) (rmNamed0 l Z a0 hw [] sx ([sg0, sg1, sg2, sg3, sg4, sg5, sg6] : List Int32) bt1 kb1 (Int32.ofNat ([sg0, sg1, sg2, sg3, sg4, sg5, sg6] : List Int32).length) ((([sg0, sg1, sg2, sg3, sg4, sg5, sg6] : List Int32).map fun c => c.toInt8.toInt32).map Value.int) cz v_EMPTY vv kv v_NONE n_NONE t_NONE k_NONE v_CSV n_CSV t_CSV k_CSV v_DATABASE n_DATABASE t_DATABASE k_DATABASE h11 n0 Z11 (hWd.ext (own_extK KP11)) hcz E11_sx F11_sx_value F11_sx_coder V11_bt1 hcd hbd (Nat.le_of_ble_eq_true rfl) (by simp [tNone]) (by simp [tCsv]) (by simp [tData])) hZ (ww hw 53 rfl) (ww hw 52 rfl) (by decide) (by decide)) (g := (mkF m 401 (fL mode lo hi len pos ch (.val (.int (mode &&& (3 : Int32)))) (.val (.ref b)) (.val (.int (7 : Int32))) (.val (.ref sx)) (.val .null) .unset) [(.ref sx)])) rfl (by rw [hml]; rfl) (argsL := [(.ref sx)]) (rest := []) (lenOf pd_9 rfl) rfl (by show 2 * 0 + _ ≤ _; exact Nat.le_of_eq rfl) (hb hby at_401) (fun _ _ => ⟨rfl, e12, (by decide : 10 + 1 ≤ _), (by decide : 98 + 3 ≤ _)⟩)
  dsimp only [Pt.U, Pt.locs, Pt.cells, Pt.slots] at X14 l14 y14 z14 st14 hQ14
  subst l14 y14 z14
  obtain ⟨N14q, K14, on14, rfl, E14o, Fv14⟩ := hQ14
  have N14 := Fr.app N12 N14q
  have HK14 := Nat.le_trans HQ11 K14.1
  have CH14 := CH11.trans (CHr.keep K14 all0 CH11.1)
  have E14_sx := E11_sx.keep K14
  have F14_sx_coder := F11_sx_coder.keep K14 nin0
  have F14_sx_value := F11_sx_value.keep K14 nin0
  have V14_bt1 := V11_bt1.keep K14 nin0
  have E14_lt3 := E11_lt3.keep K14
  have F14_lt3_coder := F11_lt3_coder.keep K14 nin0
  have F14_lt3_value := F11_lt3_value.keep K14 nin0
  have V14_bb3 := V11_bb3.keep K14 nin0
  have E14_lt7 := E11_lt7.keep K14
  have F14_lt7_coder := F11_lt7_coder.keep K14 nin0
  have F14_lt7_value := F11_lt7_value.keep K14 nin0
  have V14_bb7 := V11_bb7.keep K14 nin0
  have E14_lt11 := Ex11.keep K14
  have F14_lt11_coder := Fc11.keep K14 nin0
  have F14_lt11_value := Fv11.keep K14 nin0
  have V14_bb11 := Va11.keep K14 nin0
  have Z14 := Nat.le_trans Z11 K14.1
  have KP14 := KP11.trans K14 all0
  obtain ⟨cq15, kq15, q15a, q15b, q15c⟩ := isOf hZ rfl E14o
  obtain ⟨_, _, ⟨T15, L15, k15, n15⟩, -, X15, ⟨Lc15, hQ15, l15, y15, z15⟩, st15⟩ := X14.virtualBack hx (y := (⟨"java/util/Optional", "orElse", "(Ljava/lang/Object;)Ljava/lang/Object;"⟩ : MethodName)) (z := (⟨"java/util/Optional", "orElse", "(Ljava/lang/Object;)Ljava/lang/Object;"⟩ : MethodName)) hown (mvT hZ (ww hw 80 rfl)) (mvT hZ (ww hw 81 rfl)) (notFace_of_selects (args := #[]) (mvT hZ (ww hw 83 rfl))) (mvT hZ (ww hw 83 rfl)) (mvT hZ (ww hw 82 rfl)) (by decide) (backOf (W := 0) (rmOr0 l Z a0 hw [] on14  T14.heap n0 Fv14) hZ (ww hw 84 rfl) (ww hw 56 rfl) (by decide) (by decide)) q15a q15c (g := (mkF m 405 (fL mode lo hi len pos ch (.val (.int (mode &&& (3 : Int32)))) (.val (.ref b)) (.val (.int (7 : Int32))) (.val (.ref sx)) (.val .null) .unset) [.null, (.ref on14)])) rfl (by rw [hml]; rfl) (Steps.refl _) (argsL := [.null]) (rest := []) (lenOf pd_2 rfl) rfl (by show 2 * 0 + _ ≤ _; exact Nat.le_of_eq rfl) (hb hby at_405) (fun _ _ => ⟨rfl, rfl, (by decide : 11 + 0 ≤ _), (by decide : 101 + 0 ≤ _)⟩)
  dsimp only [Pt.U, Pt.locs, Pt.cells, Pt.slots] at X15 l15 y15 z15 st15 hQ15
  subst l15 y15 z15
  obtain ⟨rfl, N15q, e15⟩ := hQ15
  have N15 := Fr.app N14 N15q
  have k16 : ∀ tg, Steps p.tables e below (T15.setTop (mkF m 425 (fL mode lo hi len pos ch (.val (.int (mode &&& (3 : Int32)))) (.val (.ref b)) (.val (.int (7 : Int32))) (.val (.ref sx)) (.val .null) (.val .null)) [(.int (1 : Int32))])) tg → Steps p.tables e below (s₁.setTop (entryFrame m #[(.int mode), (.int lo), (.int hi), (.int len), (.int pos), (.int ch)] maxLocals)) tg := by
    intro tg kt
    refine k10 tg ?_
    refine st11 _ ?_
    refine st12.trans ?_
    refine XS.ifYes X12.here hx rfl (pc0 := 391) (pc' := 399) rfl (hb hby at_391) rfl ((if0 _ _).trans (teq hd13).1) (by decide) (by decide) ?_
    refine XS.aload X12.here hx rfl (hb hby at_399) rfl rfl ?_
    show Steps p.tables e below (T12.setTop (mkF m 401 (fL mode lo hi len pos ch (.val (.int (mode &&& (3 : Int32)))) (.val (.ref b)) (.val (.int (7 : Int32))) (.val (.ref sx)) (.val .null) .unset) [(.ref sx)])) _
    refine st14 _ ?_
    refine XS.aconstNull X14.here hx rfl (hb hby at_404) ?_
    refine st15.trans ?_
    refine X15.checkcastNull hx (g := (mkF m 408 (fL mode lo hi len pos ch (.val (.int (mode &&& (3 : Int32)))) (.val (.ref b)) (.val (.int (7 : Int32))) (.val (.ref sx)) (.val .null) .unset) [.null])) rfl rfl (hb hby at_408) _ ?_
    show Steps p.tables e below (T15.setTop (mkF m 411 (fL mode lo hi len pos ch (.val (.int (mode &&& (3 : Int32)))) (.val (.ref b)) (.val (.int (7 : Int32))) (.val (.ref sx)) (.val .null) .unset) [.null])) _
    refine XS.astore X15.here hx rfl (hb hby at_411) rfl rfl (l' := (fL mode lo hi len pos ch (.val (.int (mode &&& (3 : Int32)))) (.val (.ref b)) (.val (.int (7 : Int32))) (.val (.ref sx)) (.val .null) (.val .null))) rfl ?_
    refine XS.aload X15.here hx rfl (hb hby at_413) rfl rfl ?_
    refine XS.aload X15.here hx rfl (hb hby at_415) rfl rfl ?_
    refine Jvm.RoadKit.acmp (g := (mkF m 417 (fL mode lo hi len pos ch (.val (.int (mode &&& (3 : Int32)))) (.val (.ref b)) (.val (.int (7 : Int32))) (.val (.ref sx)) (.val .null) (.val .null)) [.null, .null])) X15 hx rfl rfl rfl (pc0 := 417) (pc' := 420) (same := true) rfl (hb hby at_417) rfl (decide_eq_true rfl) (by decide) (by decide) ?_
    show Steps p.tables e below (T15.setTop (mkF m 420 (fL mode lo hi len pos ch (.val (.int (mode &&& (3 : Int32)))) (.val (.ref b)) (.val (.int (7 : Int32))) (.val (.ref sx)) (.val .null) (.val .null)) [])) _
    refine XS.iconst X15.here hx rfl (hb hby at_420) ?_
    refine XS.goto X15.here hx rfl (pc0 := 421) (pc' := 425) rfl (hb hby at_421) (by decide) (by decide) ?_
    show Steps p.tables e below (T15.setTop (mkF m 425 (fL mode lo hi len pos ch (.val (.int (mode &&& (3 : Int32)))) (.val (.ref b)) (.val (.int (7 : Int32))) (.val (.ref sx)) (.val .null) (.val .null)) [(.int (1 : Int32))])) _
    exact kt
  obtain ⟨fs, hr, hrun, hended, hRW⟩ := X15.leaveW hS (own_hk e15 HK14) (v := some (.int (1 : Int32))) (fun h => by rw [hbr] at h; cases h)
  refine ⟨_, _, k16 _ ?_, hrun, hended, _, _, rfl, ?_, hRW.1, hRW.2.1, hRW.2.2.1, hRW.2.2.2.mono (by decide) (by decide)⟩
  · exact retN X15 hx (t := .boolean) hbr (by simp) (hb hby at_425) hr
  · show QL n0 _ T15.heap _
    exact ⟨rfl, N15⟩
set_option maxRecDepth 65536 in
set_option maxHeartbeats 40000000 in
theorem tail_8 (l : Launch) (Z : State) (a0 : Array Value) (hw : ∀ d ∈ tables_1, d.before a0 Z = true) {p : Program} {e : Env} {s : State} {m : MethodId} {below : List Frame} {meth : Method} {c : Code} {s₁ T0 : State} {locs0 : List Loc} (mode lo hi len pos ch : Int32) (w9 : Slot) (b : Addr) (kc : ClassId) (sg0 sg1 sg2 sg3 sg4 sg5 sg6 sg7 : Int32) (cz : Int32) (v_EMPTY vv : Addr) (kv : ClassId) (v_NONE n_NONE t_NONE : Addr) (k_NONE : ClassId) (v_CSV n_CSV t_CSV : Addr) (k_CSV : ClassId) (v_DATABASE n_DATABASE t_DATABASE : Addr) (k_DATABASE : ClassId) (h0 : Heap) (n0 : Nat) (Z0 : n0 ≤ h0.size)
    (hx : p.tables.exec = Jvm.exec) (hby : c.code = code) (hml : c.maxLocals = 12) (hbr : meth.sig.returnType = ret) (hlk : meth.locks = false) (hZ : Z.Warmed39 (s.setVm s.vm).vm) (hown : (s.setVm s.vm).vm.findClass "com/example/lifetable/lifetable/output/ExportFormatNamedPinLaw" = some m.cls) (X0 : Stand p l e room_1 (s.setVm s.vm) m #[(.int mode), (.int lo), (.int hi), (.int len), (.int pos), (.int ch)] below meth c T0 locs0 (0 + 1) (0 + 8)) (e0 : T0.heap = h0) (N0 : Fr n0 locs0) (hS : s.Since s.vm s.heap.size) (HK0 : s.heap.size ≤ h0.size) (hCH : CHv Z ELs s.vm h0)
    (hWd : World Z h0 cz v_EMPTY vv kv v_NONE n_NONE t_NONE k_NONE v_CSV n_CSV t_CSV k_CSV v_DATABASE n_DATABASE t_DATABASE k_DATABASE) (hcz : ¬ cz = 0) (Vb : Arv Z h0 b kc .char (8 : Int32) [(.int sg0), (.int sg1), (.int sg2), (.int sg3), (.int sg4), (.int sg5), (.int sg6), (.int sg7)] (.int (0 : Int32))) (ok0 : ok sg0) (ok1 : ok sg1) (ok2 : ok sg2) (ok3 : ok sg3) (ok4 : ok sg4) (ok5 : ok sg5) (ok6 : ok sg6) (ok7 : ok sg7) (h9 : ∀ y : Addr, storeLocals #[.val (.int mode), .val (.int lo), .val (.int hi), .val (.int len), .val (.int pos), .val (.int ch), .val (.int (mode &&& (3 : Int32))), .val (.ref b), .val (.int (8 : Int32)), w9, .unset, .unset] 9 (.ref y) = some #[.val (.int mode), .val (.int lo), .val (.int hi), .val (.int len), .val (.int pos), .val (.int ch), .val (.int (mode &&& (3 : Int32))), .val (.ref b), .val (.int (8 : Int32)), .val (.ref y), .unset, .unset]) (k0 : ∀ tg, Steps p.tables e below (T0.setTop (mkF m 336 (fL mode lo hi len pos ch (.val (.int (mode &&& (3 : Int32)))) (.val (.ref b)) (.val (.int (8 : Int32))) w9 .unset .unset) [])) tg → Steps p.tables e below (s₁.setTop (entryFrame m #[(.int mode), (.int lo), (.int hi), (.int len), (.int pos), (.int ch)] maxLocals)) tg) :
    ∃ s₂ o_, Steps p.tables e below (s₁.setTop (entryFrame m #[(.int mode), (.int lo), (.int hi), (.int len), (.int pos), (.int ch)] maxLocals)) s₂ ∧ s₂.status = .running ∧ Ended s₂ below o_ ∧ ∃ v_ L_, o_ = .returned v_ ∧ QL n0 v_ s₂.heap L_ ∧ ReturnedEndW s o_ s₂ L_ room_1.cells room_1.slots := by
  have CH0 : CHr Z ELs s.vm h0 s.vm h0 := CHr.refl hCH
  have hEW := own_EW hw
  have hweq : ∀ d ∈ StrChars.Road.wordsEq, d.before a0 Z = true := fun d hd => hw d ((by decide +kernel : ∀ d ∈ StrChars.Road.wordsEq, d ∈ tables_1) d hd)
  have hp : ∀ c ∈ ([sg0, sg1, sg2, sg3, sg4, sg5, sg6, sg7] : List Int32), ¬ c < 0 ∧ ¬ (255 : Int32) < c := by
    intro c hc
    simp only [List.mem_cons, List.not_mem_nil, or_false] at hc
    rcases hc with rfl | rfl | rfl | rfl | rfl | rfl | rfl | rfl <;> assumption
  have hcd : StrChars.Road.CodA ([sg0, sg1, sg2, sg3, sg4, sg5, sg6, sg7] : List Int32) 0 (Int32.ofNat ([sg0, sg1, sg2, sg3, sg4, sg5, sg6, sg7] : List Int32).length) ((([sg0, sg1, sg2, sg3, sg4, sg5, sg6, sg7] : List Int32).map fun c => c.toInt8.toInt32).map Value.int) := StrChars.Road.codOf (n := 8) rfl (fun c hc => (hp c hc).2)
  have hbd := own_up _ hp
  by_cases hq : ([sg0, sg1, sg2, sg3, sg4, sg5, sg6, sg7] : List Int32) = tData
  · obtain ⟨_, _, ⟨T1, L1, k1, n1⟩, -, X1, ⟨Lc1, hQ1, l1, y1, z1⟩, st1⟩ := Jvm.LawKit.callS X0 hx (y := (⟨"com/example/lifetable/lifetable/output/ExportFormatNamedPinLaw", "str", "([CI)Ljava/lang/String;"⟩ : MethodName)) hown (mvT hZ (ww hw 2 rfl)) (mvT hZ (ww hw 3 rfl)) (mvT hZ (ww hw 4 rfl)) (mvT hZ (ww hw 5 rfl)) (by decide) (backOf (W := 0) (rmStr8 l Z a0 hw [] b kc cz sg0 sg1 sg2 sg3 sg4 sg5 sg6 sg7 h0 n0 Z0 Vb ok0 ok1 ok2 ok3 ok4 ok5 ok6 ok7 ((hWd.ext (own_extK (Keep.refl h0 []))).1) hcz) hZ (ww hw 5 rfl) (ww hw 4 rfl) (by decide) (by decide)) (g := (mkF m 340 (fL mode lo hi len pos ch (.val (.int (mode &&& (3 : Int32)))) (.val (.ref b)) (.val (.int (8 : Int32))) w9 .unset .unset) [(.int (8 : Int32)), (.ref b)])) rfl (by rw [hml]; rfl) (argsL := [(.ref b), (.int (8 : Int32))]) (rest := []) (lenOf pd_8 rfl) rfl (by show 2 * 0 + _ ≤ _; exact Nat.le_of_eq rfl) (hb hby at_340) (fun _ _ => ⟨rfl, e0, (by decide : 1 + 3 ≤ _), (by decide : 8 + 20 ≤ _)⟩)
    dsimp only [Pt.U, Pt.locs, Pt.cells, Pt.slots] at X1 l1 y1 z1 st1 hQ1
    subst l1 y1 z1
    obtain ⟨N1q, K1, sx, bt1, kb1, rfl, le1, E1x, C1x, F1x, V1x⟩ := hQ1
    have N1 := Fr.app N0 N1q
    have ne_b_sx : b ≠ sx := Nat.ne_of_lt (Nat.lt_of_lt_of_le Vb.lt le1)
    have g_sx : n0 ≤ sx := Nat.le_trans Z0 le1
    have sz_sx : h0.size ≤ sx := Nat.le_trans (Keep.refl h0 []).1 le1
    have HK1 := Nat.le_trans HK0 K1.1
    have CH1 := CH0.trans (CHr.keep K1 all0 CH0.1)
    have Z1 := Nat.le_trans Z0 K1.1
    have KP1 := (Keep.refl h0 []).trans K1 all0
    have k2 : ∀ tg, Steps p.tables e below (T1.setTop (mkF m 350 (fL mode lo hi len pos ch (.val (.int (mode &&& (3 : Int32)))) (.val (.ref b)) (.val (.int (8 : Int32))) (.val (.ref sx)) (.val .null) .unset) [(.ref sx)])) tg → Steps p.tables e below (s₁.setTop (entryFrame m #[(.int mode), (.int lo), (.int hi), (.int len), (.int pos), (.int ch)] maxLocals)) tg := by
      intro tg kt
      refine k0 tg ?_
      show Steps p.tables e below (T0.setTop (mkF m 336 (fL mode lo hi len pos ch (.val (.int (mode &&& (3 : Int32)))) (.val (.ref b)) (.val (.int (8 : Int32))) w9 .unset .unset) [])) _
      refine XS.aload X0.here hx rfl (hb hby at_336) rfl rfl ?_
      refine XS.iload X0.here hx rfl (hb hby at_338) rfl ?_
      refine st1 _ ?_
      show Steps p.tables e below (T1.setTop (mkF m 343 (fL mode lo hi len pos ch (.val (.int (mode &&& (3 : Int32)))) (.val (.ref b)) (.val (.int (8 : Int32))) w9 .unset .unset) [(.ref sx)])) _
      refine XS.astore X1.here hx rfl (hb hby at_343) rfl rfl (l' := (fL mode lo hi len pos ch (.val (.int (mode &&& (3 : Int32)))) (.val (.ref b)) (.val (.int (8 : Int32))) (.val (.ref sx)) .unset .unset)) (h9 _) ?_
      refine XS.aconstNull X1.here hx rfl (hb hby at_345) ?_
      refine XS.astore X1.here hx rfl (hb hby at_346) rfl rfl (l' := (fL mode lo hi len pos ch (.val (.int (mode &&& (3 : Int32)))) (.val (.ref b)) (.val (.int (8 : Int32))) (.val (.ref sx)) (.val .null) .unset)) rfl ?_
      refine XS.aload X1.here hx rfl (hb hby at_348) rfl rfl ?_
      show Steps p.tables e below (T1.setTop (mkF m 350 (fL mode lo hi len pos ch (.val (.int (mode &&& (3 : Int32)))) (.val (.ref b)) (.val (.int (8 : Int32))) (.val (.ref sx)) (.val .null) .unset) [(.ref sx)])) _
      exact kt
    obtain ⟨lt3, T3, h3, kk3, bb3, kb3, X3, e3, E3, hS, HQ3, hZ, hown, Ex3, Fc3, Fv3, Va3, la3, lb3, CQ3, -, saf3, st3⟩ := ldcCH X1 hx hZ hown (ww hw 35 rfl) (own_wS hw) rfl hS HK1 hEW (by decide) CH1.1 (vs := [(.int (110 : Int32)), (.int (111 : Int32)), (.int (110 : Int32)), (.int (101 : Int32))]) (z := (4 : Int32)) ⟨by decide, by decide⟩ (by decide) (by decide) (g := (mkF m 350 (fL mode lo hi len pos ch (.val (.int (mode &&& (3 : Int32)))) (.val (.ref b)) (.val (.int (8 : Int32))) (.val (.ref sx)) (.val .null) .unset) [(.ref sx)])) rfl (hb hby at_350) (n := 16) (by decide +kernel) (by decide) (by decide) (by decide)
    have CH3 := CH1.trans CQ3
    have HK3 := Nat.le_trans HK1 E3.1
    have E3_sx := E1x.ext E3
    have F3_sx_coder := C1x.ext E3
    have F3_sx_value := F1x.ext E3
    have V3_bt1 := V1x.ext E3
    have Z3 := Nat.le_trans Z1 E3.1
    have KP3 := KP1.ext E3
    obtain ⟨cq4, kq4, q4a, q4b, q4c⟩ := isOf hZ e3 E3_sx
    obtain ⟨_, _, ⟨T4, L4, k4, n4⟩, -, X4, ⟨Lc4, hQ4, l4, y4, z4⟩, st4⟩ := X3.virtualBack hx (y := (⟨"java/lang/String", "equals", "(Ljava/lang/Object;)Z"⟩ : MethodName)) (z := (⟨"java/lang/String", "equals", "(Ljava/lang/Object;)Z"⟩ : MethodName)) hown (mvT hZ (ww hw 38 rfl)) (mvT hZ (ww hw 39 rfl)) (notFace_of_selects (args := #[]) (mvT hZ (ww hw 41 rfl))) (mvT hZ (ww hw 41 rfl)) (mvT hZ (ww hw 40 rfl)) (by decide) (StrChars.Road.eqW (W := 0) hZ hweq (kI := 4) (ww hw 7 rfl) E3_sx F3_sx_value F3_sx_coder V3_bt1 hcd hbd (Nat.le_of_ble_eq_true rfl) Ex3 Fv3 Fc3 Va3 own_cNone own_bNone (Nat.le_of_ble_eq_true rfl) ((hWd.ext (own_extK KP3)).1) hcz (by decide) (by decide)) q4a q4c (g := (mkF m 352 (fL mode lo hi len pos ch (.val (.int (mode &&& (3 : Int32)))) (.val (.ref b)) (.val (.int (8 : Int32))) (.val (.ref sx)) (.val .null) .unset) [(.ref lt3), (.ref sx)])) rfl (by rw [hml]; rfl) (Steps.refl _) (argsL := [(.ref lt3)]) (rest := []) (lenOf pd_6 rfl) rfl (by show 2 * 0 + _ ≤ _; exact Nat.le_of_eq rfl) (hb hby at_352) (fun _ _ => ⟨rfl, e3, (by decide : 6 + 0 ≤ _), (by decide : 48 + 0 ≤ _)⟩)
    dsimp only [Pt.U, Pt.locs, Pt.cells, Pt.slots] at X4 l4 y4 z4 st4 hQ4
    subst l4 y4 z4
    obtain ⟨hv4, rfl, e4⟩ := hQ4
    obtain rfl := own_eq0 hv4 (by simp [tNone])
    have N4 := Fr.app N1 (Fr.nil n0)
    have hd5 : (0 : Int32) = (0 : Int32) := rfl
    have k6 : ∀ tg, Steps p.tables e below (T4.setTop (mkF m 368 (fL mode lo hi len pos ch (.val (.int (mode &&& (3 : Int32)))) (.val (.ref b)) (.val (.int (8 : Int32))) (.val (.ref sx)) (.val .null) .unset) [(.ref sx)])) tg → Steps p.tables e below (s₁.setTop (entryFrame m #[(.int mode), (.int lo), (.int hi), (.int len), (.int pos), (.int ch)] maxLocals)) tg := by
      intro tg kt
      refine k2 tg ?_
      refine st3 _ ?_
      refine st4.trans ?_
      refine XS.ifYes X4.here hx rfl (pc0 := 355) (pc' := 366) rfl (hb hby at_355) rfl ((if0 _ _).trans (teq hd5).1) (by decide) (by decide) ?_
      refine XS.aload X4.here hx rfl (hb hby at_366) rfl rfl ?_
      exact kt
    obtain ⟨lt7, T7, h7, kk7, bb7, kb7, X7, e7, E7, hS, HQ7, hZ, hown, Ex7, Fc7, Fv7, Va7, la7, lb7, CQ7, -, saf7, st7⟩ := ldcCH X4 hx hZ hown (ww hw 48 rfl) (own_wS hw) e4 hS HQ3 hEW (by decide) CH3.1 (vs := [(.int (99 : Int32)), (.int (115 : Int32)), (.int (118 : Int32))]) (z := (3 : Int32)) ⟨by decide, by decide⟩ (by decide) (by decide) (g := (mkF m 368 (fL mode lo hi len pos ch (.val (.int (mode &&& (3 : Int32)))) (.val (.ref b)) (.val (.int (8 : Int32))) (.val (.ref sx)) (.val .null) .unset) [(.ref sx)])) rfl (hb hby at_368) (n := 12) (by decide +kernel) (by decide) (by decide) (by decide)
    have CH7 := CH3.trans CQ7
    have HK7 := Nat.le_trans HQ3 E7.1
    have E7_sx := E3_sx.ext E7
    have F7_sx_coder := F3_sx_coder.ext E7
    have F7_sx_value := F3_sx_value.ext E7
    have V7_bt1 := V3_bt1.ext E7
    have E7_lt3 := Ex3.ext E7
    have F7_lt3_coder := Fc3.ext E7
    have F7_lt3_value := Fv3.ext E7
    have V7_bb3 := Va3.ext E7
    have Z7 := Nat.le_trans Z3 E7.1
    have KP7 := KP3.ext E7
    obtain ⟨cq8, kq8, q8a, q8b, q8c⟩ := isOf hZ e7 E7_sx
    obtain ⟨_, _, ⟨T8, L8, k8, n8⟩, -, X8, ⟨Lc8, hQ8, l8, y8, z8⟩, st8⟩ := X7.virtualBack hx (y := (⟨"java/lang/String", "equals", "(Ljava/lang/Object;)Z"⟩ : MethodName)) (z := (⟨"java/lang/String", "equals", "(Ljava/lang/Object;)Z"⟩ : MethodName)) hown (mvT hZ (ww hw 38 rfl)) (mvT hZ (ww hw 39 rfl)) (notFace_of_selects (args := #[]) (mvT hZ (ww hw 41 rfl))) (mvT hZ (ww hw 41 rfl)) (mvT hZ (ww hw 40 rfl)) (by decide) (StrChars.Road.eqW (W := 0) hZ hweq (kI := 4) (ww hw 7 rfl) E7_sx F7_sx_value F7_sx_coder V7_bt1 hcd hbd (Nat.le_of_ble_eq_true rfl) Ex7 Fv7 Fc7 Va7 own_cCsv own_bCsv (Nat.le_of_ble_eq_true rfl) ((hWd.ext (own_extK KP7)).1) hcz (by decide) (by decide)) q8a q8c (g := (mkF m 370 (fL mode lo hi len pos ch (.val (.int (mode &&& (3 : Int32)))) (.val (.ref b)) (.val (.int (8 : Int32))) (.val (.ref sx)) (.val .null) .unset) [(.ref lt7), (.ref sx)])) rfl (by rw [hml]; rfl) (Steps.refl _) (argsL := [(.ref lt7)]) (rest := []) (lenOf pd_6 rfl) rfl (by show 2 * 0 + _ ≤ _; exact Nat.le_of_eq rfl) (hb hby at_370) (fun _ _ => ⟨rfl, e7, (by decide : 8 + 0 ≤ _), (by decide : 64 + 0 ≤ _)⟩)
    dsimp only [Pt.U, Pt.locs, Pt.cells, Pt.slots] at X8 l8 y8 z8 st8 hQ8
    subst l8 y8 z8
    obtain ⟨hv8, rfl, e8⟩ := hQ8
    obtain rfl := own_eq0 hv8 (by simp [tCsv])
    have N8 := Fr.app N4 (Fr.nil n0)
    have hd9 : (0 : Int32) = (0 : Int32) := rfl
    have k10 : ∀ tg, Steps p.tables e below (T8.setTop (mkF m 386 (fL mode lo hi len pos ch (.val (.int (mode &&& (3 : Int32)))) (.val (.ref b)) (.val (.int (8 : Int32))) (.val (.ref sx)) (.val .null) .unset) [(.ref sx)])) tg → Steps p.tables e below (s₁.setTop (entryFrame m #[(.int mode), (.int lo), (.int hi), (.int len), (.int pos), (.int ch)] maxLocals)) tg := by
      intro tg kt
      refine k6 tg ?_
      refine st7 _ ?_
      refine st8.trans ?_
      refine XS.ifYes X8.here hx rfl (pc0 := 373) (pc' := 384) rfl (hb hby at_373) rfl ((if0 _ _).trans (teq hd9).1) (by decide) (by decide) ?_
      refine XS.aload X8.here hx rfl (hb hby at_384) rfl rfl ?_
      exact kt
    obtain ⟨lt11, T11, h11, kk11, bb11, kb11, X11, e11, E11, hS, HQ11, hZ, hown, Ex11, Fc11, Fv11, Va11, la11, lb11, CQ11, -, saf11, st11⟩ := ldcCH X8 hx hZ hown (ww hw 49 rfl) (own_wS hw) e8 hS HQ7 hEW (by decide) CH7.1 (vs := [(.int (100 : Int32)), (.int (97 : Int32)), (.int (116 : Int32)), (.int (97 : Int32)), (.int (98 : Int32)), (.int (97 : Int32)), (.int (115 : Int32)), (.int (101 : Int32))]) (z := (8 : Int32)) ⟨by decide, by decide⟩ (by decide) (by decide) (g := (mkF m 386 (fL mode lo hi len pos ch (.val (.int (mode &&& (3 : Int32)))) (.val (.ref b)) (.val (.int (8 : Int32))) (.val (.ref sx)) (.val .null) .unset) [(.ref sx)])) rfl (hb hby at_386) (n := 32) (by decide +kernel) (by decide) (by decide) (by decide)
    have CH11 := CH7.trans CQ11
    have HK11 := Nat.le_trans HQ7 E11.1
    have E11_sx := E7_sx.ext E11
    have F11_sx_coder := F7_sx_coder.ext E11
    have F11_sx_value := F7_sx_value.ext E11
    have V11_bt1 := V7_bt1.ext E11
    have E11_lt3 := E7_lt3.ext E11
    have F11_lt3_coder := F7_lt3_coder.ext E11
    have F11_lt3_value := F7_lt3_value.ext E11
    have V11_bb3 := V7_bb3.ext E11
    have E11_lt7 := Ex7.ext E11
    have F11_lt7_coder := Fc7.ext E11
    have F11_lt7_value := Fv7.ext E11
    have V11_bb7 := Va7.ext E11
    have Z11 := Nat.le_trans Z7 E11.1
    have KP11 := KP7.ext E11
    obtain ⟨cq12, kq12, q12a, q12b, q12c⟩ := isOf hZ e11 E11_sx
    obtain ⟨_, _, ⟨T12, L12, k12, n12⟩, -, X12, ⟨Lc12, hQ12, l12, y12, z12⟩, st12⟩ := X11.virtualBack hx (y := (⟨"java/lang/String", "equals", "(Ljava/lang/Object;)Z"⟩ : MethodName)) (z := (⟨"java/lang/String", "equals", "(Ljava/lang/Object;)Z"⟩ : MethodName)) hown (mvT hZ (ww hw 38 rfl)) (mvT hZ (ww hw 39 rfl)) (notFace_of_selects (args := #[]) (mvT hZ (ww hw 41 rfl))) (mvT hZ (ww hw 41 rfl)) (mvT hZ (ww hw 40 rfl)) (by decide) (StrChars.Road.eqW (W := 0) hZ hweq (kI := 4) (ww hw 7 rfl) E11_sx F11_sx_value F11_sx_coder V11_bt1 hcd hbd (Nat.le_of_ble_eq_true rfl) Ex11 Fv11 Fc11 Va11 own_cData own_bData (Nat.le_of_ble_eq_true rfl) ((hWd.ext (own_extK KP11)).1) hcz (by decide) (by decide)) q12a q12c (g := (mkF m 388 (fL mode lo hi len pos ch (.val (.int (mode &&& (3 : Int32)))) (.val (.ref b)) (.val (.int (8 : Int32))) (.val (.ref sx)) (.val .null) .unset) [(.ref lt11), (.ref sx)])) rfl (by rw [hml]; rfl) (Steps.refl _) (argsL := [(.ref lt11)]) (rest := []) (lenOf pd_6 rfl) rfl (by show 2 * 0 + _ ≤ _; exact Nat.le_of_eq rfl) (hb hby at_388) (fun _ _ => ⟨rfl, e11, (by decide : 10 + 0 ≤ _), (by decide : 100 + 0 ≤ _)⟩)
    dsimp only [Pt.U, Pt.locs, Pt.cells, Pt.slots] at X12 l12 y12 z12 st12 hQ12
    subst l12 y12 z12
    obtain ⟨hv12, rfl, e12⟩ := hQ12
    obtain rfl := own_eq1 hv12 hq
    have N12 := Fr.app N8 (Fr.nil n0)
    have hd13 : ¬ ((1 : Int32) = (0 : Int32)) := by decide
    obtain ⟨T14, X14, e14, st14⟩ := getS2 X12 hx hZ hown (host := "") (Or.inl (ww hw 105 rfl)) Via.refl e12 ((hWd.ext (own_extK KP11)).2.2.2.2.2.2.2.2.2.2.2.2.2.2.2.2.2.2.2.2.2.1) (g := (mkF m 394 (fL mode lo hi len pos ch (.val (.int (mode &&& (3 : Int32)))) (.val (.ref b)) (.val (.int (8 : Int32))) (.val (.ref sx)) (.val .null) .unset) [])) rfl (hb hby at_394)
    obtain ⟨_, _, ⟨T15, L15, k15, n15⟩, -, X15, ⟨Lc15, hQ15, l15, y15, z15⟩, st15⟩ := Jvm.LawKit.callS X14 hx (y := (⟨"com/example/lifetable/lifetable/output/ExportFormat", "named", "(Ljava/lang/String;)Ljava/util/Optional;"⟩ : MethodName)) hown (mvT hZ (ww hw 50 rfl)) (mvT hZ (ww hw 51 rfl)) (mvT hZ (ww hw 52 rfl)) (mvT hZ (ww hw 53 rfl)) (by decide) (backOf (W := 0) (rmNamedDATABASE l Z a0 hw [] sx ([sg0, sg1, sg2, sg3, sg4, sg5, sg6, sg7] : List Int32) bt1 kb1 (Int32.ofNat ([sg0, sg1, sg2, sg3, sg4, sg5, sg6, sg7] : List Int32).length) ((([sg0, sg1, sg2, sg3, sg4, sg5, sg6, sg7] : List Int32).map fun c => c.toInt8.toInt32).map Value.int) cz v_EMPTY vv kv v_NONE n_NONE t_NONE k_NONE v_CSV n_CSV t_CSV k_CSV v_DATABASE n_DATABASE t_DATABASE k_DATABASE h11 n0 Z11 (hWd.ext (own_extK KP11)) hcz E11_sx F11_sx_value F11_sx_coder V11_bt1 hcd hbd (Nat.le_of_ble_eq_true rfl) (by simp [tNone]) (by simp [tCsv]) hq.symm) hZ (ww hw 53 rfl) (ww hw 52 rfl) (by decide) (by decide)) (g := (mkF m 401 (fL mode lo hi len pos ch (.val (.int (mode &&& (3 : Int32)))) (.val (.ref b)) (.val (.int (8 : Int32))) (.val (.ref sx)) (.val (.ref v_DATABASE)) .unset) [(.ref sx)])) rfl (by rw [hml]; rfl) (argsL := [(.ref sx)]) (rest := []) (lenOf pd_9 rfl) rfl (by show 2 * 0 + _ ≤ _; exact Nat.le_of_eq rfl) (hb hby at_401) (fun _ _ => ⟨rfl, e14, (by decide : 10 + 2 ≤ _), (by decide : 100 + 4 ≤ _)⟩)
    dsimp only [Pt.U, Pt.locs, Pt.cells, Pt.slots] at X15 l15 y15 z15 st15 hQ15
    subst l15 y15 z15
    obtain ⟨N15q, K15, on15, rfl, E15o, Fv15⟩ := hQ15
    have N15 := Fr.app N12 N15q
    have HK15 := Nat.le_trans HQ11 K15.1
    have CH15 := CH11.trans (CHr.keep K15 all0 CH11.1)
    have E15_sx := E11_sx.keep K15
    have F15_sx_coder := F11_sx_coder.keep K15 nin0
    have F15_sx_value := F11_sx_value.keep K15 nin0
    have V15_bt1 := V11_bt1.keep K15 nin0
    have E15_lt3 := E11_lt3.keep K15
    have F15_lt3_coder := F11_lt3_coder.keep K15 nin0
    have F15_lt3_value := F11_lt3_value.keep K15 nin0
    have V15_bb3 := V11_bb3.keep K15 nin0
    have E15_lt7 := E11_lt7.keep K15
    have F15_lt7_coder := F11_lt7_coder.keep K15 nin0
    have F15_lt7_value := F11_lt7_value.keep K15 nin0
    have V15_bb7 := V11_bb7.keep K15 nin0
    have E15_lt11 := Ex11.keep K15
    have F15_lt11_coder := Fc11.keep K15 nin0
    have F15_lt11_value := Fv11.keep K15 nin0
    have V15_bb11 := Va11.keep K15 nin0
    have Z15 := Nat.le_trans Z11 K15.1
    have KP15 := KP11.trans K15 all0
    obtain ⟨cq16, kq16, q16a, q16b, q16c⟩ := isOf hZ rfl E15o
    obtain ⟨_, _, ⟨T16, L16, k16, n16⟩, -, X16, ⟨Lc16, hQ16, l16, y16, z16⟩, st16⟩ := X15.virtualBack hx (y := (⟨"java/util/Optional", "orElse", "(Ljava/lang/Object;)Ljava/lang/Object;"⟩ : MethodName)) (z := (⟨"java/util/Optional", "orElse", "(Ljava/lang/Object;)Ljava/lang/Object;"⟩ : MethodName)) hown (mvT hZ (ww hw 80 rfl)) (mvT hZ (ww hw 81 rfl)) (notFace_of_selects (args := #[]) (mvT hZ (ww hw 83 rfl))) (mvT hZ (ww hw 83 rfl)) (mvT hZ (ww hw 82 rfl)) (by decide) (backOf (W := 0) (rmOr1 l Z a0 hw [] on15 v_DATABASE T15.heap n0 Fv15) hZ (ww hw 84 rfl) (ww hw 56 rfl) (by decide) (by decide)) q16a q16c (g := (mkF m 405 (fL mode lo hi len pos ch (.val (.int (mode &&& (3 : Int32)))) (.val (.ref b)) (.val (.int (8 : Int32))) (.val (.ref sx)) (.val (.ref v_DATABASE)) .unset) [.null, (.ref on15)])) rfl (by rw [hml]; rfl) (Steps.refl _) (argsL := [.null]) (rest := []) (lenOf pd_2 rfl) rfl (by show 2 * 0 + _ ≤ _; exact Nat.le_of_eq rfl) (hb hby at_405) (fun _ _ => ⟨rfl, rfl, (by decide : 12 + 0 ≤ _), (by decide : 104 + 0 ≤ _)⟩)
    dsimp only [Pt.U, Pt.locs, Pt.cells, Pt.slots] at X16 l16 y16 z16 st16 hQ16
    subst l16 y16 z16
    obtain ⟨rfl, N16q, e16⟩ := hQ16
    have N16 := Fr.app N15 N16q
    obtain ⟨T17, X17, e17, st17⟩ := castY X16 hx hZ hown (ww hw 102 rfl) e16 (Ins.self ((hWd.ext (own_extK KP15)).2.2.2.2.2.2.2.2.2.2.2.2.2.2.2.2.2.2.2.2.2.2.1)) (g := (mkF m 408 (fL mode lo hi len pos ch (.val (.int (mode &&& (3 : Int32)))) (.val (.ref b)) (.val (.int (8 : Int32))) (.val (.ref sx)) (.val (.ref v_DATABASE)) .unset) [(.ref v_DATABASE)])) rfl rfl (hb hby at_408)
    have k18 : ∀ tg, Steps p.tables e below (T17.setTop (mkF m 425 (fL mode lo hi len pos ch (.val (.int (mode &&& (3 : Int32)))) (.val (.ref b)) (.val (.int (8 : Int32))) (.val (.ref sx)) (.val (.ref v_DATABASE)) (.val (.ref v_DATABASE))) [(.int (1 : Int32))])) tg → Steps p.tables e below (s₁.setTop (entryFrame m #[(.int mode), (.int lo), (.int hi), (.int len), (.int pos), (.int ch)] maxLocals)) tg := by
      intro tg kt
      refine k10 tg ?_
      refine st11 _ ?_
      refine st12.trans ?_
      refine XS.ifNo X12.here hx rfl (hb hby at_391) rfl ((if0 _ _).trans (feq hd13).1) ?_
      refine st14 _ ?_
      show Steps p.tables e below (T14.setTop (mkF m 397 (fL mode lo hi len pos ch (.val (.int (mode &&& (3 : Int32)))) (.val (.ref b)) (.val (.int (8 : Int32))) (.val (.ref sx)) (.val .null) .unset) [(.ref v_DATABASE)])) _
      refine XS.astore X14.here hx rfl (hb hby at_397) rfl rfl (l' := (fL mode lo hi len pos ch (.val (.int (mode &&& (3 : Int32)))) (.val (.ref b)) (.val (.int (8 : Int32))) (.val (.ref sx)) (.val (.ref v_DATABASE)) .unset)) rfl ?_
      refine XS.aload X14.here hx rfl (hb hby at_399) rfl rfl ?_
      refine st15 _ ?_
      refine XS.aconstNull X15.here hx rfl (hb hby at_404) ?_
      show Steps p.tables e below (T15.setTop (mkF m 405 (fL mode lo hi len pos ch (.val (.int (mode &&& (3 : Int32)))) (.val (.ref b)) (.val (.int (8 : Int32))) (.val (.ref sx)) (.val (.ref v_DATABASE)) .unset) [.null, (.ref on15)])) _
      refine st16.trans ?_
      refine st17 _ ?_
      refine XS.astore X17.here hx rfl (hb hby at_411) rfl rfl (l' := (fL mode lo hi len pos ch (.val (.int (mode &&& (3 : Int32)))) (.val (.ref b)) (.val (.int (8 : Int32))) (.val (.ref sx)) (.val (.ref v_DATABASE)) (.val (.ref v_DATABASE)))) rfl ?_
      refine XS.aload X17.here hx rfl (hb hby at_413) rfl rfl ?_
      refine XS.aload X17.here hx rfl (hb hby at_415) rfl rfl ?_
      show Steps p.tables e below (T17.setTop (mkF m 417 (fL mode lo hi len pos ch (.val (.int (mode &&& (3 : Int32)))) (.val (.ref b)) (.val (.int (8 : Int32))) (.val (.ref sx)) (.val (.ref v_DATABASE)) (.val (.ref v_DATABASE))) [(.ref v_DATABASE), (.ref v_DATABASE)])) _
      refine Jvm.RoadKit.acmp (g := (mkF m 417 (fL mode lo hi len pos ch (.val (.int (mode &&& (3 : Int32)))) (.val (.ref b)) (.val (.int (8 : Int32))) (.val (.ref sx)) (.val (.ref v_DATABASE)) (.val (.ref v_DATABASE))) [(.ref v_DATABASE), (.ref v_DATABASE)])) X17 hx rfl rfl rfl (pc0 := 417) (pc' := 420) (same := true) rfl (hb hby at_417) rfl (decide_eq_true rfl) (by decide) (by decide) ?_
      refine XS.iconst X17.here hx rfl (hb hby at_420) ?_
      refine XS.goto X17.here hx rfl (pc0 := 421) (pc' := 425) rfl (hb hby at_421) (by decide) (by decide) ?_
      show Steps p.tables e below (T17.setTop (mkF m 425 (fL mode lo hi len pos ch (.val (.int (mode &&& (3 : Int32)))) (.val (.ref b)) (.val (.int (8 : Int32))) (.val (.ref sx)) (.val (.ref v_DATABASE)) (.val (.ref v_DATABASE))) [(.int (1 : Int32))])) _
      exact kt
    obtain ⟨fs, hr, hrun, hended, hRW⟩ := X17.leaveW hS (own_hk e17 HK15) (v := some (.int (1 : Int32))) (fun h => by rw [hbr] at h; cases h)
    refine ⟨_, _, k18 _ ?_, hrun, hended, _, _, rfl, ?_, hRW.1, hRW.2.1, hRW.2.2.1, hRW.2.2.2.mono (by decide) (by decide)⟩
    · exact retN X17 hx (t := .boolean) hbr (by simp) (hb hby at_425) hr
    · show QL n0 _ T17.heap _
      exact ⟨rfl, N16⟩
  · obtain ⟨_, _, ⟨T19, L19, k19, n19⟩, -, X19, ⟨Lc19, hQ19, l19, y19, z19⟩, st19⟩ := Jvm.LawKit.callS X0 hx (y := (⟨"com/example/lifetable/lifetable/output/ExportFormatNamedPinLaw", "str", "([CI)Ljava/lang/String;"⟩ : MethodName)) hown (mvT hZ (ww hw 2 rfl)) (mvT hZ (ww hw 3 rfl)) (mvT hZ (ww hw 4 rfl)) (mvT hZ (ww hw 5 rfl)) (by decide) (backOf (W := 0) (rmStr8 l Z a0 hw [] b kc cz sg0 sg1 sg2 sg3 sg4 sg5 sg6 sg7 h0 n0 Z0 Vb ok0 ok1 ok2 ok3 ok4 ok5 ok6 ok7 ((hWd.ext (own_extK (Keep.refl h0 []))).1) hcz) hZ (ww hw 5 rfl) (ww hw 4 rfl) (by decide) (by decide)) (g := (mkF m 340 (fL mode lo hi len pos ch (.val (.int (mode &&& (3 : Int32)))) (.val (.ref b)) (.val (.int (8 : Int32))) w9 .unset .unset) [(.int (8 : Int32)), (.ref b)])) rfl (by rw [hml]; rfl) (argsL := [(.ref b), (.int (8 : Int32))]) (rest := []) (lenOf pd_8 rfl) rfl (by show 2 * 0 + _ ≤ _; exact Nat.le_of_eq rfl) (hb hby at_340) (fun _ _ => ⟨rfl, e0, (by decide : 1 + 3 ≤ _), (by decide : 8 + 20 ≤ _)⟩)
    dsimp only [Pt.U, Pt.locs, Pt.cells, Pt.slots] at X19 l19 y19 z19 st19 hQ19
    subst l19 y19 z19
    obtain ⟨N19q, K19, sx, bt19, kb19, rfl, le19, E19x, C19x, F19x, V19x⟩ := hQ19
    have N19 := Fr.app N0 N19q
    have ne_b_sx : b ≠ sx := Nat.ne_of_lt (Nat.lt_of_lt_of_le Vb.lt le19)
    have g_sx : n0 ≤ sx := Nat.le_trans Z0 le19
    have sz_sx : h0.size ≤ sx := Nat.le_trans (Keep.refl h0 []).1 le19
    have HK19 := Nat.le_trans HK0 K19.1
    have CH19 := CH0.trans (CHr.keep K19 all0 CH0.1)
    have Z19 := Nat.le_trans Z0 K19.1
    have KP19 := (Keep.refl h0 []).trans K19 all0
    have k20 : ∀ tg, Steps p.tables e below (T19.setTop (mkF m 350 (fL mode lo hi len pos ch (.val (.int (mode &&& (3 : Int32)))) (.val (.ref b)) (.val (.int (8 : Int32))) (.val (.ref sx)) (.val .null) .unset) [(.ref sx)])) tg → Steps p.tables e below (s₁.setTop (entryFrame m #[(.int mode), (.int lo), (.int hi), (.int len), (.int pos), (.int ch)] maxLocals)) tg := by
      intro tg kt
      refine k0 tg ?_
      show Steps p.tables e below (T0.setTop (mkF m 336 (fL mode lo hi len pos ch (.val (.int (mode &&& (3 : Int32)))) (.val (.ref b)) (.val (.int (8 : Int32))) w9 .unset .unset) [])) _
      refine XS.aload X0.here hx rfl (hb hby at_336) rfl rfl ?_
      refine XS.iload X0.here hx rfl (hb hby at_338) rfl ?_
      refine st19 _ ?_
      show Steps p.tables e below (T19.setTop (mkF m 343 (fL mode lo hi len pos ch (.val (.int (mode &&& (3 : Int32)))) (.val (.ref b)) (.val (.int (8 : Int32))) w9 .unset .unset) [(.ref sx)])) _
      refine XS.astore X19.here hx rfl (hb hby at_343) rfl rfl (l' := (fL mode lo hi len pos ch (.val (.int (mode &&& (3 : Int32)))) (.val (.ref b)) (.val (.int (8 : Int32))) (.val (.ref sx)) .unset .unset)) (h9 _) ?_
      refine XS.aconstNull X19.here hx rfl (hb hby at_345) ?_
      refine XS.astore X19.here hx rfl (hb hby at_346) rfl rfl (l' := (fL mode lo hi len pos ch (.val (.int (mode &&& (3 : Int32)))) (.val (.ref b)) (.val (.int (8 : Int32))) (.val (.ref sx)) (.val .null) .unset)) rfl ?_
      refine XS.aload X19.here hx rfl (hb hby at_348) rfl rfl ?_
      show Steps p.tables e below (T19.setTop (mkF m 350 (fL mode lo hi len pos ch (.val (.int (mode &&& (3 : Int32)))) (.val (.ref b)) (.val (.int (8 : Int32))) (.val (.ref sx)) (.val .null) .unset) [(.ref sx)])) _
      exact kt
    obtain ⟨lt21, T21, h21, kk21, bb21, kb21, X21, e21, E21, hS, HQ21, hZ, hown, Ex21, Fc21, Fv21, Va21, la21, lb21, CQ21, -, saf21, st21⟩ := ldcCH X19 hx hZ hown (ww hw 35 rfl) (own_wS hw) rfl hS HK19 hEW (by decide) CH19.1 (vs := [(.int (110 : Int32)), (.int (111 : Int32)), (.int (110 : Int32)), (.int (101 : Int32))]) (z := (4 : Int32)) ⟨by decide, by decide⟩ (by decide) (by decide) (g := (mkF m 350 (fL mode lo hi len pos ch (.val (.int (mode &&& (3 : Int32)))) (.val (.ref b)) (.val (.int (8 : Int32))) (.val (.ref sx)) (.val .null) .unset) [(.ref sx)])) rfl (hb hby at_350) (n := 16) (by decide +kernel) (by decide) (by decide) (by decide)
    have CH21 := CH19.trans CQ21
    have HK21 := Nat.le_trans HK19 E21.1
    have E21_sx := E19x.ext E21
    have F21_sx_coder := C19x.ext E21
    have F21_sx_value := F19x.ext E21
    have V21_bt19 := V19x.ext E21
    have Z21 := Nat.le_trans Z19 E21.1
    have KP21 := KP19.ext E21
    obtain ⟨cq22, kq22, q22a, q22b, q22c⟩ := isOf hZ e21 E21_sx
    obtain ⟨_, _, ⟨T22, L22, k22, n22⟩, -, X22, ⟨Lc22, hQ22, l22, y22, z22⟩, st22⟩ := X21.virtualBack hx (y := (⟨"java/lang/String", "equals", "(Ljava/lang/Object;)Z"⟩ : MethodName)) (z := (⟨"java/lang/String", "equals", "(Ljava/lang/Object;)Z"⟩ : MethodName)) hown (mvT hZ (ww hw 38 rfl)) (mvT hZ (ww hw 39 rfl)) (notFace_of_selects (args := #[]) (mvT hZ (ww hw 41 rfl))) (mvT hZ (ww hw 41 rfl)) (mvT hZ (ww hw 40 rfl)) (by decide) (StrChars.Road.eqW (W := 0) hZ hweq (kI := 4) (ww hw 7 rfl) E21_sx F21_sx_value F21_sx_coder V21_bt19 hcd hbd (Nat.le_of_ble_eq_true rfl) Ex21 Fv21 Fc21 Va21 own_cNone own_bNone (Nat.le_of_ble_eq_true rfl) ((hWd.ext (own_extK KP21)).1) hcz (by decide) (by decide)) q22a q22c (g := (mkF m 352 (fL mode lo hi len pos ch (.val (.int (mode &&& (3 : Int32)))) (.val (.ref b)) (.val (.int (8 : Int32))) (.val (.ref sx)) (.val .null) .unset) [(.ref lt21), (.ref sx)])) rfl (by rw [hml]; rfl) (Steps.refl _) (argsL := [(.ref lt21)]) (rest := []) (lenOf pd_6 rfl) rfl (by show 2 * 0 + _ ≤ _; exact Nat.le_of_eq rfl) (hb hby at_352) (fun _ _ => ⟨rfl, e21, (by decide : 6 + 0 ≤ _), (by decide : 48 + 0 ≤ _)⟩)
    dsimp only [Pt.U, Pt.locs, Pt.cells, Pt.slots] at X22 l22 y22 z22 st22 hQ22
    subst l22 y22 z22
    obtain ⟨hv22, rfl, e22⟩ := hQ22
    obtain rfl := own_eq0 hv22 (by simp [tNone])
    have N22 := Fr.app N19 (Fr.nil n0)
    have hd23 : (0 : Int32) = (0 : Int32) := rfl
    have k24 : ∀ tg, Steps p.tables e below (T22.setTop (mkF m 368 (fL mode lo hi len pos ch (.val (.int (mode &&& (3 : Int32)))) (.val (.ref b)) (.val (.int (8 : Int32))) (.val (.ref sx)) (.val .null) .unset) [(.ref sx)])) tg → Steps p.tables e below (s₁.setTop (entryFrame m #[(.int mode), (.int lo), (.int hi), (.int len), (.int pos), (.int ch)] maxLocals)) tg := by
      intro tg kt
      refine k20 tg ?_
      refine st21 _ ?_
      refine st22.trans ?_
      refine XS.ifYes X22.here hx rfl (pc0 := 355) (pc' := 366) rfl (hb hby at_355) rfl ((if0 _ _).trans (teq hd23).1) (by decide) (by decide) ?_
      refine XS.aload X22.here hx rfl (hb hby at_366) rfl rfl ?_
      exact kt
    obtain ⟨lt25, T25, h25, kk25, bb25, kb25, X25, e25, E25, hS, HQ25, hZ, hown, Ex25, Fc25, Fv25, Va25, la25, lb25, CQ25, -, saf25, st25⟩ := ldcCH X22 hx hZ hown (ww hw 48 rfl) (own_wS hw) e22 hS HQ21 hEW (by decide) CH21.1 (vs := [(.int (99 : Int32)), (.int (115 : Int32)), (.int (118 : Int32))]) (z := (3 : Int32)) ⟨by decide, by decide⟩ (by decide) (by decide) (g := (mkF m 368 (fL mode lo hi len pos ch (.val (.int (mode &&& (3 : Int32)))) (.val (.ref b)) (.val (.int (8 : Int32))) (.val (.ref sx)) (.val .null) .unset) [(.ref sx)])) rfl (hb hby at_368) (n := 12) (by decide +kernel) (by decide) (by decide) (by decide)
    have CH25 := CH21.trans CQ25
    have HK25 := Nat.le_trans HQ21 E25.1
    have E25_sx := E21_sx.ext E25
    have F25_sx_coder := F21_sx_coder.ext E25
    have F25_sx_value := F21_sx_value.ext E25
    have V25_bt19 := V21_bt19.ext E25
    have E25_lt21 := Ex21.ext E25
    have F25_lt21_coder := Fc21.ext E25
    have F25_lt21_value := Fv21.ext E25
    have V25_bb21 := Va21.ext E25
    have Z25 := Nat.le_trans Z21 E25.1
    have KP25 := KP21.ext E25
    obtain ⟨cq26, kq26, q26a, q26b, q26c⟩ := isOf hZ e25 E25_sx
    obtain ⟨_, _, ⟨T26, L26, k26, n26⟩, -, X26, ⟨Lc26, hQ26, l26, y26, z26⟩, st26⟩ := X25.virtualBack hx (y := (⟨"java/lang/String", "equals", "(Ljava/lang/Object;)Z"⟩ : MethodName)) (z := (⟨"java/lang/String", "equals", "(Ljava/lang/Object;)Z"⟩ : MethodName)) hown (mvT hZ (ww hw 38 rfl)) (mvT hZ (ww hw 39 rfl)) (notFace_of_selects (args := #[]) (mvT hZ (ww hw 41 rfl))) (mvT hZ (ww hw 41 rfl)) (mvT hZ (ww hw 40 rfl)) (by decide) (StrChars.Road.eqW (W := 0) hZ hweq (kI := 4) (ww hw 7 rfl) E25_sx F25_sx_value F25_sx_coder V25_bt19 hcd hbd (Nat.le_of_ble_eq_true rfl) Ex25 Fv25 Fc25 Va25 own_cCsv own_bCsv (Nat.le_of_ble_eq_true rfl) ((hWd.ext (own_extK KP25)).1) hcz (by decide) (by decide)) q26a q26c (g := (mkF m 370 (fL mode lo hi len pos ch (.val (.int (mode &&& (3 : Int32)))) (.val (.ref b)) (.val (.int (8 : Int32))) (.val (.ref sx)) (.val .null) .unset) [(.ref lt25), (.ref sx)])) rfl (by rw [hml]; rfl) (Steps.refl _) (argsL := [(.ref lt25)]) (rest := []) (lenOf pd_6 rfl) rfl (by show 2 * 0 + _ ≤ _; exact Nat.le_of_eq rfl) (hb hby at_370) (fun _ _ => ⟨rfl, e25, (by decide : 8 + 0 ≤ _), (by decide : 64 + 0 ≤ _)⟩)
    dsimp only [Pt.U, Pt.locs, Pt.cells, Pt.slots] at X26 l26 y26 z26 st26 hQ26
    subst l26 y26 z26
    obtain ⟨hv26, rfl, e26⟩ := hQ26
    obtain rfl := own_eq0 hv26 (by simp [tCsv])
    have N26 := Fr.app N22 (Fr.nil n0)
    have hd27 : (0 : Int32) = (0 : Int32) := rfl
    have k28 : ∀ tg, Steps p.tables e below (T26.setTop (mkF m 386 (fL mode lo hi len pos ch (.val (.int (mode &&& (3 : Int32)))) (.val (.ref b)) (.val (.int (8 : Int32))) (.val (.ref sx)) (.val .null) .unset) [(.ref sx)])) tg → Steps p.tables e below (s₁.setTop (entryFrame m #[(.int mode), (.int lo), (.int hi), (.int len), (.int pos), (.int ch)] maxLocals)) tg := by
      intro tg kt
      refine k24 tg ?_
      refine st25 _ ?_
      refine st26.trans ?_
      refine XS.ifYes X26.here hx rfl (pc0 := 373) (pc' := 384) rfl (hb hby at_373) rfl ((if0 _ _).trans (teq hd27).1) (by decide) (by decide) ?_
      refine XS.aload X26.here hx rfl (hb hby at_384) rfl rfl ?_
      exact kt
    obtain ⟨lt29, T29, h29, kk29, bb29, kb29, X29, e29, E29, hS, HQ29, hZ, hown, Ex29, Fc29, Fv29, Va29, la29, lb29, CQ29, -, saf29, st29⟩ := ldcCH X26 hx hZ hown (ww hw 49 rfl) (own_wS hw) e26 hS HQ25 hEW (by decide) CH25.1 (vs := [(.int (100 : Int32)), (.int (97 : Int32)), (.int (116 : Int32)), (.int (97 : Int32)), (.int (98 : Int32)), (.int (97 : Int32)), (.int (115 : Int32)), (.int (101 : Int32))]) (z := (8 : Int32)) ⟨by decide, by decide⟩ (by decide) (by decide) (g := (mkF m 386 (fL mode lo hi len pos ch (.val (.int (mode &&& (3 : Int32)))) (.val (.ref b)) (.val (.int (8 : Int32))) (.val (.ref sx)) (.val .null) .unset) [(.ref sx)])) rfl (hb hby at_386) (n := 32) (by decide +kernel) (by decide) (by decide) (by decide)
    have CH29 := CH25.trans CQ29
    have HK29 := Nat.le_trans HQ25 E29.1
    have E29_sx := E25_sx.ext E29
    have F29_sx_coder := F25_sx_coder.ext E29
    have F29_sx_value := F25_sx_value.ext E29
    have V29_bt19 := V25_bt19.ext E29
    have E29_lt21 := E25_lt21.ext E29
    have F29_lt21_coder := F25_lt21_coder.ext E29
    have F29_lt21_value := F25_lt21_value.ext E29
    have V29_bb21 := V25_bb21.ext E29
    have E29_lt25 := Ex25.ext E29
    have F29_lt25_coder := Fc25.ext E29
    have F29_lt25_value := Fv25.ext E29
    have V29_bb25 := Va25.ext E29
    have Z29 := Nat.le_trans Z25 E29.1
    have KP29 := KP25.ext E29
    obtain ⟨cq30, kq30, q30a, q30b, q30c⟩ := isOf hZ e29 E29_sx
    obtain ⟨_, _, ⟨T30, L30, k30, n30⟩, -, X30, ⟨Lc30, hQ30, l30, y30, z30⟩, st30⟩ := X29.virtualBack hx (y := (⟨"java/lang/String", "equals", "(Ljava/lang/Object;)Z"⟩ : MethodName)) (z := (⟨"java/lang/String", "equals", "(Ljava/lang/Object;)Z"⟩ : MethodName)) hown (mvT hZ (ww hw 38 rfl)) (mvT hZ (ww hw 39 rfl)) (notFace_of_selects (args := #[]) (mvT hZ (ww hw 41 rfl))) (mvT hZ (ww hw 41 rfl)) (mvT hZ (ww hw 40 rfl)) (by decide) (StrChars.Road.eqW (W := 0) hZ hweq (kI := 4) (ww hw 7 rfl) E29_sx F29_sx_value F29_sx_coder V29_bt19 hcd hbd (Nat.le_of_ble_eq_true rfl) Ex29 Fv29 Fc29 Va29 own_cData own_bData (Nat.le_of_ble_eq_true rfl) ((hWd.ext (own_extK KP29)).1) hcz (by decide) (by decide)) q30a q30c (g := (mkF m 388 (fL mode lo hi len pos ch (.val (.int (mode &&& (3 : Int32)))) (.val (.ref b)) (.val (.int (8 : Int32))) (.val (.ref sx)) (.val .null) .unset) [(.ref lt29), (.ref sx)])) rfl (by rw [hml]; rfl) (Steps.refl _) (argsL := [(.ref lt29)]) (rest := []) (lenOf pd_6 rfl) rfl (by show 2 * 0 + _ ≤ _; exact Nat.le_of_eq rfl) (hb hby at_388) (fun _ _ => ⟨rfl, e29, (by decide : 10 + 0 ≤ _), (by decide : 100 + 0 ≤ _)⟩)
    dsimp only [Pt.U, Pt.locs, Pt.cells, Pt.slots] at X30 l30 y30 z30 st30 hQ30
    subst l30 y30 z30
    obtain ⟨hv30, rfl, e30⟩ := hQ30
    obtain rfl := own_eq0 hv30 hq
    have N30 := Fr.app N26 (Fr.nil n0)
    have hd31 : (0 : Int32) = (0 : Int32) := rfl
    obtain ⟨_, _, ⟨T32, L32, k32, n32⟩, -, X32, ⟨Lc32, hQ32, l32, y32, z32⟩, st32⟩ := Jvm.LawKit.callS X30 hx (y := (⟨"com/example/lifetable/lifetable/output/ExportFormat", "named", "(Ljava/lang/String;)Ljava/util/Optional;"⟩ : MethodName)) hown (mvT hZ (ww hw 50 rfl)) (mvT hZ (ww hw 51 rfl)) (mvT hZ (ww hw 52 rfl)) (mvT hZ (ww hw 53 rfl)) (by decide) (backOf (W := 0) (rmNamed0 l Z a0 hw [] sx ([sg0, sg1, sg2, sg3, sg4, sg5, sg6, sg7] : List Int32) bt19 kb19 (Int32.ofNat ([sg0, sg1, sg2, sg3, sg4, sg5, sg6, sg7] : List Int32).length) ((([sg0, sg1, sg2, sg3, sg4, sg5, sg6, sg7] : List Int32).map fun c => c.toInt8.toInt32).map Value.int) cz v_EMPTY vv kv v_NONE n_NONE t_NONE k_NONE v_CSV n_CSV t_CSV k_CSV v_DATABASE n_DATABASE t_DATABASE k_DATABASE h29 n0 Z29 (hWd.ext (own_extK KP29)) hcz E29_sx F29_sx_value F29_sx_coder V29_bt19 hcd hbd (Nat.le_of_ble_eq_true rfl) (by simp [tNone]) (by simp [tCsv]) (fun q => hq q.symm)) hZ (ww hw 53 rfl) (ww hw 52 rfl) (by decide) (by decide)) (g := (mkF m 401 (fL mode lo hi len pos ch (.val (.int (mode &&& (3 : Int32)))) (.val (.ref b)) (.val (.int (8 : Int32))) (.val (.ref sx)) (.val .null) .unset) [(.ref sx)])) rfl (by rw [hml]; rfl) (argsL := [(.ref sx)]) (rest := []) (lenOf pd_9 rfl) rfl (by show 2 * 0 + _ ≤ _; exact Nat.le_of_eq rfl) (hb hby at_401) (fun _ _ => ⟨rfl, e30, (by decide : 10 + 1 ≤ _), (by decide : 100 + 3 ≤ _)⟩)
    dsimp only [Pt.U, Pt.locs, Pt.cells, Pt.slots] at X32 l32 y32 z32 st32 hQ32
    subst l32 y32 z32
    obtain ⟨N32q, K32, on32, rfl, E32o, Fv32⟩ := hQ32
    have N32 := Fr.app N30 N32q
    have HK32 := Nat.le_trans HQ29 K32.1
    have CH32 := CH29.trans (CHr.keep K32 all0 CH29.1)
    have E32_sx := E29_sx.keep K32
    have F32_sx_coder := F29_sx_coder.keep K32 nin0
    have F32_sx_value := F29_sx_value.keep K32 nin0
    have V32_bt19 := V29_bt19.keep K32 nin0
    have E32_lt21 := E29_lt21.keep K32
    have F32_lt21_coder := F29_lt21_coder.keep K32 nin0
    have F32_lt21_value := F29_lt21_value.keep K32 nin0
    have V32_bb21 := V29_bb21.keep K32 nin0
    have E32_lt25 := E29_lt25.keep K32
    have F32_lt25_coder := F29_lt25_coder.keep K32 nin0
    have F32_lt25_value := F29_lt25_value.keep K32 nin0
    have V32_bb25 := V29_bb25.keep K32 nin0
    have E32_lt29 := Ex29.keep K32
    have F32_lt29_coder := Fc29.keep K32 nin0
    have F32_lt29_value := Fv29.keep K32 nin0
    have V32_bb29 := Va29.keep K32 nin0
    have Z32 := Nat.le_trans Z29 K32.1
    have KP32 := KP29.trans K32 all0
    obtain ⟨cq33, kq33, q33a, q33b, q33c⟩ := isOf hZ rfl E32o
    obtain ⟨_, _, ⟨T33, L33, k33, n33⟩, -, X33, ⟨Lc33, hQ33, l33, y33, z33⟩, st33⟩ := X32.virtualBack hx (y := (⟨"java/util/Optional", "orElse", "(Ljava/lang/Object;)Ljava/lang/Object;"⟩ : MethodName)) (z := (⟨"java/util/Optional", "orElse", "(Ljava/lang/Object;)Ljava/lang/Object;"⟩ : MethodName)) hown (mvT hZ (ww hw 80 rfl)) (mvT hZ (ww hw 81 rfl)) (notFace_of_selects (args := #[]) (mvT hZ (ww hw 83 rfl))) (mvT hZ (ww hw 83 rfl)) (mvT hZ (ww hw 82 rfl)) (by decide) (backOf (W := 0) (rmOr0 l Z a0 hw [] on32  T32.heap n0 Fv32) hZ (ww hw 84 rfl) (ww hw 56 rfl) (by decide) (by decide)) q33a q33c (g := (mkF m 405 (fL mode lo hi len pos ch (.val (.int (mode &&& (3 : Int32)))) (.val (.ref b)) (.val (.int (8 : Int32))) (.val (.ref sx)) (.val .null) .unset) [.null, (.ref on32)])) rfl (by rw [hml]; rfl) (Steps.refl _) (argsL := [.null]) (rest := []) (lenOf pd_2 rfl) rfl (by show 2 * 0 + _ ≤ _; exact Nat.le_of_eq rfl) (hb hby at_405) (fun _ _ => ⟨rfl, rfl, (by decide : 11 + 0 ≤ _), (by decide : 103 + 0 ≤ _)⟩)
    dsimp only [Pt.U, Pt.locs, Pt.cells, Pt.slots] at X33 l33 y33 z33 st33 hQ33
    subst l33 y33 z33
    obtain ⟨rfl, N33q, e33⟩ := hQ33
    have N33 := Fr.app N32 N33q
    have k34 : ∀ tg, Steps p.tables e below (T33.setTop (mkF m 425 (fL mode lo hi len pos ch (.val (.int (mode &&& (3 : Int32)))) (.val (.ref b)) (.val (.int (8 : Int32))) (.val (.ref sx)) (.val .null) (.val .null)) [(.int (1 : Int32))])) tg → Steps p.tables e below (s₁.setTop (entryFrame m #[(.int mode), (.int lo), (.int hi), (.int len), (.int pos), (.int ch)] maxLocals)) tg := by
      intro tg kt
      refine k28 tg ?_
      refine st29 _ ?_
      refine st30.trans ?_
      refine XS.ifYes X30.here hx rfl (pc0 := 391) (pc' := 399) rfl (hb hby at_391) rfl ((if0 _ _).trans (teq hd31).1) (by decide) (by decide) ?_
      refine XS.aload X30.here hx rfl (hb hby at_399) rfl rfl ?_
      show Steps p.tables e below (T30.setTop (mkF m 401 (fL mode lo hi len pos ch (.val (.int (mode &&& (3 : Int32)))) (.val (.ref b)) (.val (.int (8 : Int32))) (.val (.ref sx)) (.val .null) .unset) [(.ref sx)])) _
      refine st32 _ ?_
      refine XS.aconstNull X32.here hx rfl (hb hby at_404) ?_
      refine st33.trans ?_
      refine X33.checkcastNull hx (g := (mkF m 408 (fL mode lo hi len pos ch (.val (.int (mode &&& (3 : Int32)))) (.val (.ref b)) (.val (.int (8 : Int32))) (.val (.ref sx)) (.val .null) .unset) [.null])) rfl rfl (hb hby at_408) _ ?_
      show Steps p.tables e below (T33.setTop (mkF m 411 (fL mode lo hi len pos ch (.val (.int (mode &&& (3 : Int32)))) (.val (.ref b)) (.val (.int (8 : Int32))) (.val (.ref sx)) (.val .null) .unset) [.null])) _
      refine XS.astore X33.here hx rfl (hb hby at_411) rfl rfl (l' := (fL mode lo hi len pos ch (.val (.int (mode &&& (3 : Int32)))) (.val (.ref b)) (.val (.int (8 : Int32))) (.val (.ref sx)) (.val .null) (.val .null))) rfl ?_
      refine XS.aload X33.here hx rfl (hb hby at_413) rfl rfl ?_
      refine XS.aload X33.here hx rfl (hb hby at_415) rfl rfl ?_
      refine Jvm.RoadKit.acmp (g := (mkF m 417 (fL mode lo hi len pos ch (.val (.int (mode &&& (3 : Int32)))) (.val (.ref b)) (.val (.int (8 : Int32))) (.val (.ref sx)) (.val .null) (.val .null)) [.null, .null])) X33 hx rfl rfl rfl (pc0 := 417) (pc' := 420) (same := true) rfl (hb hby at_417) rfl (decide_eq_true rfl) (by decide) (by decide) ?_
      show Steps p.tables e below (T33.setTop (mkF m 420 (fL mode lo hi len pos ch (.val (.int (mode &&& (3 : Int32)))) (.val (.ref b)) (.val (.int (8 : Int32))) (.val (.ref sx)) (.val .null) (.val .null)) [])) _
      refine XS.iconst X33.here hx rfl (hb hby at_420) ?_
      refine XS.goto X33.here hx rfl (pc0 := 421) (pc' := 425) rfl (hb hby at_421) (by decide) (by decide) ?_
      show Steps p.tables e below (T33.setTop (mkF m 425 (fL mode lo hi len pos ch (.val (.int (mode &&& (3 : Int32)))) (.val (.ref b)) (.val (.int (8 : Int32))) (.val (.ref sx)) (.val .null) (.val .null)) [(.int (1 : Int32))])) _
      exact kt
    obtain ⟨fs, hr, hrun, hended, hRW⟩ := X33.leaveW hS (own_hk e33 HK32) (v := some (.int (1 : Int32))) (fun h => by rw [hbr] at h; cases h)
    refine ⟨_, _, k34 _ ?_, hrun, hended, _, _, rfl, ?_, hRW.1, hRW.2.1, hRW.2.2.1, hRW.2.2.2.mono (by decide) (by decide)⟩
    · exact retN X33 hx (t := .boolean) hbr (by simp) (hb hby at_425) hr
    · show QL n0 _ T33.heap _
      exact ⟨rfl, N33⟩
theorem own_ge (z : Int32) (A : Nat) (h : z.toInt = A) : ¬ z < 0 := by
  rw [Int32.lt_iff_toInt_lt, h, show (0 : Int32).toInt = 0 by decide]; omega
theorem own_lt8 (z : Int32) (A : Nat) (h : z.toInt = A) (hA : A < 8) : z < (8 : Int32) := by
  rw [Int32.lt_iff_toInt_lt, h, show (8 : Int32).toInt = 8 by decide]; omega
theorem own_cl8 (z : Int32) (A : Nat) (h : z.toInt = A) (hA : A < 8) : z.toNatClampNeg < 8 := by
  simp only [Int32.toNatClampNeg, h]; omega
theorem pn_0 : plainName "com/example/lifetable/lifetable/output/ExportFormatNamedPinLaw" = true := by first | (simp [plainName, overriddenIn]; done) | decide +kernel
theorem ef_rm0 (m : MethodId) (mode : Int32) (lo : Int32) (hi : Int32) (len : Int32) (pos : Int32) (ch : Int32) : entryFrame m #[(.int mode), (.int lo), (.int hi), (.int len), (.int pos), (.int ch)] maxLocals = mkF m 0 #[.val (.int mode), .val (.int lo), .val (.int hi), .val (.int len), .val (.int pos), .val (.int ch), .unset, .unset, .unset, .unset, .unset, .unset] [] := by first | (simp [entryFrame, mkF, argsToLocals, Value.category, maxLocals]; done) | rfl
set_option maxRecDepth 65536 in
set_option maxHeartbeats 40000000 in
theorem rm0 (l : Launch) (Z : State) (a0 : Array Value) (hw : ∀ d ∈ tables_1, d.before a0 Z = true) (ws : List Jvm.Cond) (mode : Int32) (lo : Int32) (hi : Int32) (len : Int32) (pos : Int32) (ch : Int32) (cz : Int32) (v_EMPTY vv : Addr) (kv : ClassId) (v_NONE n_NONE t_NONE : Addr) (k_NONE : ClassId) (v_CSV n_CSV t_CSV : Addr) (k_CSV : ClassId) (v_DATABASE n_DATABASE t_DATABASE : Addr) (k_DATABASE : ClassId) (h0 : Heap) (n0 : Nat) (Z0 : n0 ≤ h0.size) (hWd : World Z h0 cz v_EMPTY vv kv v_NONE n_NONE t_NONE k_NONE v_CSV n_CSV t_CSV k_CSV v_DATABASE n_DATABASE t_DATABASE k_DATABASE) (hcz : ¬ cz = 0) :
    MetFree l x (head1 (Jvm.Cond.code x code maxLocals ret :: ws) room_1) (fun a_ U_ => a_ = #[(.int mode), (.int lo), (.int hi), (.int len), (.int pos), (.int ch)] ∧ Z.Warmed39 U_.vm ∧ U_.heap = h0 ∧ CHv Z ELs U_.vm h0) (fun _ _ _ _ _ => True) (fun _ U_ o_ U'_ => ∃ v_ L_, o_ = .returned v_ ∧ QL n0 v_ U'_.heap L_ ∧ ReturnedEndW U_ o_ U'_ L_ room_1.cells room_1.slots) := by
  refine MetFree.of_bodySF (plainFor_of_name pn_0) hisR ?_
  intro p e s m args below meth c s₁ Bd hml0 hP hK
  obtain ⟨rfl, hZ, hh, hCH⟩ := hP
  have hx := Bd.exec
  have hby := Bd.bytes
  have hml : c.maxLocals = 12 := hml0
  have hown : s.vm.findClass "com/example/lifetable/lifetable/output/ExportFormatNamedPinLaw" = some m.cls := findClass_of_methodNamed Bd.named
  have hnm := (name_of_methodNamed Bd.named Bd.method).1
  have X0 : Stand p l e room_1 (s.setVm s.vm) m #[(.int mode), (.int lo), (.int hi), (.int len), (.int pos), (.int ch)] below meth c s₁ [] 0 0 := Stand.of_body Bd
  have hZ : Z.Warmed39 (s.setVm s.vm).vm := hZ
  have hown : (s.setVm s.vm).vm.findClass "com/example/lifetable/lifetable/output/ExportFormatNamedPinLaw" = some m.cls := hown
  have hS : s.Since s.vm s.heap.size := (State.WarmedH.refl s).since _
  have HK0 : s.heap.size ≤ h0.size := Nat.le_of_eq (congrArg Array.size hh)
  have CH0 : CHr Z ELs s.vm h0 s.vm h0 := CHr.refl hCH
  have hEW := own_EW hw
  have e0 : s₁.heap = h0 := by rw [← hh, Bd.state]; rfl
  have N0 := Fr.nil n0
  have k0 : ∀ tg, Steps p.tables e below (s₁.setTop (mkF m 0 #[.val (.int mode), .val (.int lo), .val (.int hi), .val (.int len), .val (.int pos), .val (.int ch), .unset, .unset, .unset, .unset, .unset, .unset] [])) tg → Steps p.tables e below (s₁.setTop (entryFrame m #[(.int mode), (.int lo), (.int hi), (.int len), (.int pos), (.int ch)] maxLocals)) tg := fun tg kq_ => castTop (ef_rm0 m mode lo hi len pos ch) kq_
  have k1 : ∀ tg, Steps p.tables e below (s₁.setTop (mkF m 7 (fL mode lo hi len pos ch (.val (.int (mode &&& (3 : Int32)))) .unset .unset .unset .unset .unset) [(.int (mode &&& (3 : Int32)))])) tg → Steps p.tables e below (s₁.setTop (entryFrame m #[(.int mode), (.int lo), (.int hi), (.int len), (.int pos), (.int ch)] maxLocals)) tg := by
    intro tg kt
    refine k0 tg ?_
    show Steps p.tables e below (s₁.setTop (mkF m 0 (fL mode lo hi len pos ch .unset .unset .unset .unset .unset .unset) [])) _
    refine XS.iloadN X0.here hx rfl (hb hby at_0) rfl ?_
    refine XS.iconst X0.here hx rfl (hb hby at_1) ?_
    refine XS.iand X0.here hx rfl (hb hby at_2) rfl ?_
    refine XS.istore X0.here hx rfl (hb hby at_3) rfl (l' := (fL mode lo hi len pos ch (.val (.int (mode &&& (3 : Int32)))) .unset .unset .unset .unset .unset)) rfl ?_
    show Steps p.tables e below (s₁.setTop (mkF m 5 (fL mode lo hi len pos ch (.val (.int (mode &&& (3 : Int32)))) .unset .unset .unset .unset .unset) [])) _
    refine XS.iload X0.here hx rfl (hb hby at_5) rfl ?_
    show Steps p.tables e below (s₁.setTop (mkF m 7 (fL mode lo hi len pos ch (.val (.int (mode &&& (3 : Int32)))) .unset .unset .unset .unset .unset) [(.int (mode &&& (3 : Int32)))])) _
    exact kt
  by_cases hc2 : (mode &&& (3 : Int32)) = (0 : Int32)
  · obtain ⟨T3, h3, c3, X3, e3, E3, A3, st3⟩ := newP X0 hx hZ (ww hw 0 rfl) e0 (g := (mkF m 12 (fL mode lo hi len pos ch (.val (.int (mode &&& (3 : Int32)))) .unset .unset .unset .unset .unset) [(.int (8 : Int32))])) rfl (hb hby at_12) rfl (by decide) (cap := 8) (by decide) (by decide) (by decide) (by decide)
    obtain ⟨b3, g3⟩ : ∃ z, z = h0.size := ⟨_, rfl⟩
    have g_b3 : n0 ≤ b3 := Nat.le_trans Z0 (Nat.le_of_eq g3.symm)
    have sz_b3 : h0.size ≤ b3 := Nat.le_trans (Keep.refl h0 []).1 (Nat.le_of_eq g3.symm)
    rw [← g3] at A3 st3
    have HK3 := Nat.le_trans HK0 E3.1
    have CH3 := CH0.trans (CHr.ext E3 CH0.1)
    have Z3 := Nat.le_trans Z0 E3.1
    have KP3 := (Keep.refl h0 []).ext E3
    have V_b3 : Arv Z h3 b3 c3 .char (8 : Int32) [(.int (0 : Int32)), (.int (0 : Int32)), (.int (0 : Int32)), (.int (0 : Int32)), (.int (0 : Int32)), (.int (0 : Int32)), (.int (0 : Int32)), (.int (0 : Int32))] (.int (0 : Int32)) := (Arv.new A3 (by decide)).pad (pad_rep [] (.int (0 : Int32)) 8)
    obtain ⟨wc22, ewc22⟩ : ∃ z : Int32, z = ((lo &&& (255 : Int32)).toUInt32.toUInt16.toUInt32.toInt32) := ⟨_, rfl⟩
    obtain ⟨cl22_4, Ar22_4, q22_4, S22_4, N22_4_, H22_4, G22_4⟩ := id V_b3
    have hin22_4 : ¬ ((0 : Int32) < 0 ∨ cl22_4.slots.size ≤ ((0 : Int32)).toNatClampNeg) := inb_of S22_4 ⟨by decide, by decide⟩
    obtain ⟨T5, h5, X5, e5, W5, st5⟩ := stC X3 hx hZ e3 Ar22_4 (j := (0 : Int32)) hin22_4 (g := (mkF m 22 (fL mode lo hi len pos ch (.val (.int (mode &&& (3 : Int32)))) .unset .unset .unset .unset .unset) [(.int wc22), (.int (0 : Int32)), (.ref b3), (.ref b3)])) rfl rfl (hb hby at_22)
    have HK5 := Nat.le_trans HK3 (Keep.of_wr W5).1
    have CH5 := CH3.trans (CHr.wr W5 (own_safeA hZ.alike V_b3 (by decide)) CH3.1)
    have Z5 := Nat.le_trans Z3 (Keep.of_wr W5).1
    have KP5 := KP3.wr W5 (Or.inr sz_b3)
    have N5 := Fr.snoc X5 N0 g_b3
    have V5_b3 : Arv Z h5 b3 c3 .char (8 : Int32) [(.int (nar .char wc22)), (.int (0 : Int32)), (.int (0 : Int32)), (.int (0 : Int32)), (.int (0 : Int32)), (.int (0 : Int32)), (.int (0 : Int32)), (.int (0 : Int32))] (.int (0 : Int32)) := Arv.set Ar22_4 q22_4 S22_4 N22_4_ H22_4 G22_4 (fits_nar_char _) W5 0 rfl (Nat.le_of_ble_eq_true rfl)
    obtain ⟨wc34, ewc34⟩ : ∃ z : Int32, z = ((((lo.toUInt32 >>> ((8 : Int32) &&& 31).toUInt32).toInt32) &&& (255 : Int32)).toUInt32.toUInt16.toUInt32.toInt32) := ⟨_, rfl⟩
    obtain ⟨cl34_6, Ar34_6, q34_6, S34_6, N34_6_, H34_6, G34_6⟩ := id V5_b3
    have hin34_6 : ¬ ((1 : Int32) < 0 ∨ cl34_6.slots.size ≤ ((1 : Int32)).toNatClampNeg) := inb_of S34_6 ⟨by decide, by decide⟩
    obtain ⟨T7, h7, X7, e7, W7, st7⟩ := stC X5 hx hZ e5 Ar34_6 (j := (1 : Int32)) hin34_6 (g := (mkF m 34 (fL mode lo hi len pos ch (.val (.int (mode &&& (3 : Int32)))) .unset .unset .unset .unset .unset) [(.int wc34), (.int (1 : Int32)), (.ref b3), (.ref b3)])) rfl rfl (hb hby at_34)
    have HK7 := Nat.le_trans HK5 (Keep.of_wr W7).1
    have CH7 := CH5.trans (CHr.wr W7 (own_safeA hZ.alike V5_b3 (by decide)) CH5.1)
    have Z7 := Nat.le_trans Z5 (Keep.of_wr W7).1
    have KP7 := KP5.wr W7 (Or.inr sz_b3)
    have N7 := Fr.snoc X7 N5 g_b3
    have V7_b3 : Arv Z h7 b3 c3 .char (8 : Int32) [(.int (nar .char wc22)), (.int (nar .char wc34)), (.int (0 : Int32)), (.int (0 : Int32)), (.int (0 : Int32)), (.int (0 : Int32)), (.int (0 : Int32)), (.int (0 : Int32))] (.int (0 : Int32)) := Arv.set Ar34_6 q34_6 S34_6 N34_6_ H34_6 G34_6 (fits_nar_char _) W7 1 rfl (Nat.le_of_ble_eq_true rfl)
    obtain ⟨wc46, ewc46⟩ : ∃ z : Int32, z = ((((lo.toUInt32 >>> ((16 : Int32) &&& 31).toUInt32).toInt32) &&& (255 : Int32)).toUInt32.toUInt16.toUInt32.toInt32) := ⟨_, rfl⟩
    obtain ⟨cl46_8, Ar46_8, q46_8, S46_8, N46_8_, H46_8, G46_8⟩ := id V7_b3
    have hin46_8 : ¬ ((2 : Int32) < 0 ∨ cl46_8.slots.size ≤ ((2 : Int32)).toNatClampNeg) := inb_of S46_8 ⟨by decide, by decide⟩
    obtain ⟨T9, h9, X9, e9, W9, st9⟩ := stC X7 hx hZ e7 Ar46_8 (j := (2 : Int32)) hin46_8 (g := (mkF m 46 (fL mode lo hi len pos ch (.val (.int (mode &&& (3 : Int32)))) .unset .unset .unset .unset .unset) [(.int wc46), (.int (2 : Int32)), (.ref b3), (.ref b3)])) rfl rfl (hb hby at_46)
    have HK9 := Nat.le_trans HK7 (Keep.of_wr W9).1
    have CH9 := CH7.trans (CHr.wr W9 (own_safeA hZ.alike V7_b3 (by decide)) CH7.1)
    have Z9 := Nat.le_trans Z7 (Keep.of_wr W9).1
    have KP9 := KP7.wr W9 (Or.inr sz_b3)
    have N9 := Fr.snoc X9 N7 g_b3
    have V9_b3 : Arv Z h9 b3 c3 .char (8 : Int32) [(.int (nar .char wc22)), (.int (nar .char wc34)), (.int (nar .char wc46)), (.int (0 : Int32)), (.int (0 : Int32)), (.int (0 : Int32)), (.int (0 : Int32)), (.int (0 : Int32))] (.int (0 : Int32)) := Arv.set Ar46_8 q46_8 S46_8 N46_8_ H46_8 G46_8 (fits_nar_char _) W9 2 rfl (Nat.le_of_ble_eq_true rfl)
    obtain ⟨wc58, ewc58⟩ : ∃ z : Int32, z = ((((lo.toUInt32 >>> ((24 : Int32) &&& 31).toUInt32).toInt32) &&& (255 : Int32)).toUInt32.toUInt16.toUInt32.toInt32) := ⟨_, rfl⟩
    obtain ⟨cl58_10, Ar58_10, q58_10, S58_10, N58_10_, H58_10, G58_10⟩ := id V9_b3
    have hin58_10 : ¬ ((3 : Int32) < 0 ∨ cl58_10.slots.size ≤ ((3 : Int32)).toNatClampNeg) := inb_of S58_10 ⟨by decide, by decide⟩
    obtain ⟨T11, h11, X11, e11, W11, st11⟩ := stC X9 hx hZ e9 Ar58_10 (j := (3 : Int32)) hin58_10 (g := (mkF m 58 (fL mode lo hi len pos ch (.val (.int (mode &&& (3 : Int32)))) .unset .unset .unset .unset .unset) [(.int wc58), (.int (3 : Int32)), (.ref b3), (.ref b3)])) rfl rfl (hb hby at_58)
    have HK11 := Nat.le_trans HK9 (Keep.of_wr W11).1
    have CH11 := CH9.trans (CHr.wr W11 (own_safeA hZ.alike V9_b3 (by decide)) CH9.1)
    have Z11 := Nat.le_trans Z9 (Keep.of_wr W11).1
    have KP11 := KP9.wr W11 (Or.inr sz_b3)
    have N11 := Fr.snoc X11 N9 g_b3
    have V11_b3 : Arv Z h11 b3 c3 .char (8 : Int32) [(.int (nar .char wc22)), (.int (nar .char wc34)), (.int (nar .char wc46)), (.int (nar .char wc58)), (.int (0 : Int32)), (.int (0 : Int32)), (.int (0 : Int32)), (.int (0 : Int32))] (.int (0 : Int32)) := Arv.set Ar58_10 q58_10 S58_10 N58_10_ H58_10 G58_10 (fits_nar_char _) W11 3 rfl (Nat.le_of_ble_eq_true rfl)
    obtain ⟨wc67, ewc67⟩ : ∃ z : Int32, z = ((hi &&& (255 : Int32)).toUInt32.toUInt16.toUInt32.toInt32) := ⟨_, rfl⟩
    obtain ⟨cl67_12, Ar67_12, q67_12, S67_12, N67_12_, H67_12, G67_12⟩ := id V11_b3
    have hin67_12 : ¬ ((4 : Int32) < 0 ∨ cl67_12.slots.size ≤ ((4 : Int32)).toNatClampNeg) := inb_of S67_12 ⟨by decide, by decide⟩
    obtain ⟨T13, h13, X13, e13, W13, st13⟩ := stC X11 hx hZ e11 Ar67_12 (j := (4 : Int32)) hin67_12 (g := (mkF m 67 (fL mode lo hi len pos ch (.val (.int (mode &&& (3 : Int32)))) .unset .unset .unset .unset .unset) [(.int wc67), (.int (4 : Int32)), (.ref b3), (.ref b3)])) rfl rfl (hb hby at_67)
    have HK13 := Nat.le_trans HK11 (Keep.of_wr W13).1
    have CH13 := CH11.trans (CHr.wr W13 (own_safeA hZ.alike V11_b3 (by decide)) CH11.1)
    have Z13 := Nat.le_trans Z11 (Keep.of_wr W13).1
    have KP13 := KP11.wr W13 (Or.inr sz_b3)
    have N13 := Fr.snoc X13 N11 g_b3
    have V13_b3 : Arv Z h13 b3 c3 .char (8 : Int32) [(.int (nar .char wc22)), (.int (nar .char wc34)), (.int (nar .char wc46)), (.int (nar .char wc58)), (.int (nar .char wc67)), (.int (0 : Int32)), (.int (0 : Int32)), (.int (0 : Int32))] (.int (0 : Int32)) := Arv.set Ar67_12 q67_12 S67_12 N67_12_ H67_12 G67_12 (fits_nar_char _) W13 4 rfl (Nat.le_of_ble_eq_true rfl)
    obtain ⟨wc79, ewc79⟩ : ∃ z : Int32, z = ((((hi.toUInt32 >>> ((8 : Int32) &&& 31).toUInt32).toInt32) &&& (255 : Int32)).toUInt32.toUInt16.toUInt32.toInt32) := ⟨_, rfl⟩
    obtain ⟨cl79_14, Ar79_14, q79_14, S79_14, N79_14_, H79_14, G79_14⟩ := id V13_b3
    have hin79_14 : ¬ ((5 : Int32) < 0 ∨ cl79_14.slots.size ≤ ((5 : Int32)).toNatClampNeg) := inb_of S79_14 ⟨by decide, by decide⟩
    obtain ⟨T15, h15, X15, e15, W15, st15⟩ := stC X13 hx hZ e13 Ar79_14 (j := (5 : Int32)) hin79_14 (g := (mkF m 79 (fL mode lo hi len pos ch (.val (.int (mode &&& (3 : Int32)))) .unset .unset .unset .unset .unset) [(.int wc79), (.int (5 : Int32)), (.ref b3), (.ref b3)])) rfl rfl (hb hby at_79)
    have HK15 := Nat.le_trans HK13 (Keep.of_wr W15).1
    have CH15 := CH13.trans (CHr.wr W15 (own_safeA hZ.alike V13_b3 (by decide)) CH13.1)
    have Z15 := Nat.le_trans Z13 (Keep.of_wr W15).1
    have KP15 := KP13.wr W15 (Or.inr sz_b3)
    have N15 := Fr.snoc X15 N13 g_b3
    have V15_b3 : Arv Z h15 b3 c3 .char (8 : Int32) [(.int (nar .char wc22)), (.int (nar .char wc34)), (.int (nar .char wc46)), (.int (nar .char wc58)), (.int (nar .char wc67)), (.int (nar .char wc79)), (.int (0 : Int32)), (.int (0 : Int32))] (.int (0 : Int32)) := Arv.set Ar79_14 q79_14 S79_14 N79_14_ H79_14 G79_14 (fits_nar_char _) W15 5 rfl (Nat.le_of_ble_eq_true rfl)
    obtain ⟨wc92, ewc92⟩ : ∃ z : Int32, z = ((((hi.toUInt32 >>> ((16 : Int32) &&& 31).toUInt32).toInt32) &&& (255 : Int32)).toUInt32.toUInt16.toUInt32.toInt32) := ⟨_, rfl⟩
    obtain ⟨cl92_16, Ar92_16, q92_16, S92_16, N92_16_, H92_16, G92_16⟩ := id V15_b3
    have hin92_16 : ¬ ((6 : Int32) < 0 ∨ cl92_16.slots.size ≤ ((6 : Int32)).toNatClampNeg) := inb_of S92_16 ⟨by decide, by decide⟩
    obtain ⟨T17, h17, X17, e17, W17, st17⟩ := stC X15 hx hZ e15 Ar92_16 (j := (6 : Int32)) hin92_16 (g := (mkF m 92 (fL mode lo hi len pos ch (.val (.int (mode &&& (3 : Int32)))) .unset .unset .unset .unset .unset) [(.int wc92), (.int (6 : Int32)), (.ref b3), (.ref b3)])) rfl rfl (hb hby at_92)
    have HK17 := Nat.le_trans HK15 (Keep.of_wr W17).1
    have CH17 := CH15.trans (CHr.wr W17 (own_safeA hZ.alike V15_b3 (by decide)) CH15.1)
    have Z17 := Nat.le_trans Z15 (Keep.of_wr W17).1
    have KP17 := KP15.wr W17 (Or.inr sz_b3)
    have N17 := Fr.snoc X17 N15 g_b3
    have V17_b3 : Arv Z h17 b3 c3 .char (8 : Int32) [(.int (nar .char wc22)), (.int (nar .char wc34)), (.int (nar .char wc46)), (.int (nar .char wc58)), (.int (nar .char wc67)), (.int (nar .char wc79)), (.int (nar .char wc92)), (.int (0 : Int32))] (.int (0 : Int32)) := Arv.set Ar92_16 q92_16 S92_16 N92_16_ H92_16 G92_16 (fits_nar_char _) W17 6 rfl (Nat.le_of_ble_eq_true rfl)
    obtain ⟨wc105, ewc105⟩ : ∃ z : Int32, z = ((((hi.toUInt32 >>> ((24 : Int32) &&& 31).toUInt32).toInt32) &&& (255 : Int32)).toUInt32.toUInt16.toUInt32.toInt32) := ⟨_, rfl⟩
    obtain ⟨cl105_18, Ar105_18, q105_18, S105_18, N105_18_, H105_18, G105_18⟩ := id V17_b3
    have hin105_18 : ¬ ((7 : Int32) < 0 ∨ cl105_18.slots.size ≤ ((7 : Int32)).toNatClampNeg) := inb_of S105_18 ⟨by decide, by decide⟩
    obtain ⟨T19, h19, X19, e19, W19, st19⟩ := stC X17 hx hZ e17 Ar105_18 (j := (7 : Int32)) hin105_18 (g := (mkF m 105 (fL mode lo hi len pos ch (.val (.int (mode &&& (3 : Int32)))) .unset .unset .unset .unset .unset) [(.int wc105), (.int (7 : Int32)), (.ref b3), (.ref b3)])) rfl rfl (hb hby at_105)
    have HK19 := Nat.le_trans HK17 (Keep.of_wr W19).1
    have CH19 := CH17.trans (CHr.wr W19 (own_safeA hZ.alike V17_b3 (by decide)) CH17.1)
    have Z19 := Nat.le_trans Z17 (Keep.of_wr W19).1
    have KP19 := KP17.wr W19 (Or.inr sz_b3)
    have N19 := Fr.snoc X19 N17 g_b3
    have V19_b3 : Arv Z h19 b3 c3 .char (8 : Int32) [(.int (nar .char wc22)), (.int (nar .char wc34)), (.int (nar .char wc46)), (.int (nar .char wc58)), (.int (nar .char wc67)), (.int (nar .char wc79)), (.int (nar .char wc92)), (.int (nar .char wc105))] (.int (0 : Int32)) := Arv.set Ar105_18 q105_18 S105_18 N105_18_ H105_18 G105_18 (fits_nar_char _) W19 7 rfl (Nat.le_of_ble_eq_true rfl)
    obtain ⟨zn, ezn⟩ : ∃ z : Int32, z = ((len &&& (2147483647 : Int32)) % (9 : Int32)) := ⟨_, rfl⟩
    have k20 : ∀ tg, Steps p.tables e below (T19.setTop (mkF m 336 (fL mode lo hi len pos ch (.val (.int (mode &&& (3 : Int32)))) (.val (.ref b3)) (.val (.int zn)) .unset .unset .unset) [])) tg → Steps p.tables e below (s₁.setTop (entryFrame m #[(.int mode), (.int lo), (.int hi), (.int len), (.int pos), (.int ch)] maxLocals)) tg := by
      intro tg kt
      refine k1 tg ?_
      refine XS.ifNo X0.here hx rfl (hb hby at_7) rfl ((if0 _ _).trans (teq hc2).2) ?_
      refine XS.bipush X0.here hx rfl (hb hby at_10) ?_
      refine st3 _ ?_
      refine XS.dup X3.here hx rfl (hb hby at_14) rfl rfl ?_
      refine XS.iconst X3.here hx rfl (hb hby at_15) ?_
      refine XS.iloadN X3.here hx rfl (hb hby at_16) rfl ?_
      refine XS.sipush X3.here hx rfl (hb hby at_17) ?_
      show Steps p.tables e below (T3.setTop (mkF m 20 (fL mode lo hi len pos ch (.val (.int (mode &&& (3 : Int32)))) .unset .unset .unset .unset .unset) [(.int (255 : Int32)), (.int lo), (.int (0 : Int32)), (.ref b3), (.ref b3)])) _
      refine XS.iand X3.here hx rfl (hb hby at_20) rfl ?_
      refine XS.i2c X3.here hx rfl (hb hby at_21) rfl ?_
      show Steps p.tables e below (T3.setTop (mkF m 22 (fL mode lo hi len pos ch (.val (.int (mode &&& (3 : Int32)))) .unset .unset .unset .unset .unset) [(.int ((lo &&& (255 : Int32)).toUInt32.toUInt16.toUInt32.toInt32)), (.int (0 : Int32)), (.ref b3), (.ref b3)])) _
      rw [← ewc22]
      show Steps p.tables e below (T3.setTop (mkF m 22 (fL mode lo hi len pos ch (.val (.int (mode &&& (3 : Int32)))) .unset .unset .unset .unset .unset) [(.int wc22), (.int (0 : Int32)), (.ref b3), (.ref b3)])) _
      refine st5 _ ?_
      refine XS.dup X5.here hx rfl (hb hby at_23) rfl rfl ?_
      refine XS.iconst X5.here hx rfl (hb hby at_24) ?_
      refine XS.iloadN X5.here hx rfl (hb hby at_25) rfl ?_
      refine XS.bipush X5.here hx rfl (hb hby at_26) ?_
      show Steps p.tables e below (T5.setTop (mkF m 28 (fL mode lo hi len pos ch (.val (.int (mode &&& (3 : Int32)))) .unset .unset .unset .unset .unset) [(.int (8 : Int32)), (.int lo), (.int (1 : Int32)), (.ref b3), (.ref b3)])) _
      refine XS.iushr X5.here hx rfl (hb hby at_28) rfl ?_
      refine XS.sipush X5.here hx rfl (hb hby at_29) ?_
      refine XS.iand X5.here hx rfl (hb hby at_32) rfl ?_
      refine XS.i2c X5.here hx rfl (hb hby at_33) rfl ?_
      show Steps p.tables e below (T5.setTop (mkF m 34 (fL mode lo hi len pos ch (.val (.int (mode &&& (3 : Int32)))) .unset .unset .unset .unset .unset) [(.int ((((lo.toUInt32 >>> ((8 : Int32) &&& 31).toUInt32).toInt32) &&& (255 : Int32)).toUInt32.toUInt16.toUInt32.toInt32)), (.int (1 : Int32)), (.ref b3), (.ref b3)])) _
      rw [← ewc34]
      show Steps p.tables e below (T5.setTop (mkF m 34 (fL mode lo hi len pos ch (.val (.int (mode &&& (3 : Int32)))) .unset .unset .unset .unset .unset) [(.int wc34), (.int (1 : Int32)), (.ref b3), (.ref b3)])) _
      refine st7 _ ?_
      refine XS.dup X7.here hx rfl (hb hby at_35) rfl rfl ?_
      refine XS.iconst X7.here hx rfl (hb hby at_36) ?_
      refine XS.iloadN X7.here hx rfl (hb hby at_37) rfl ?_
      refine XS.bipush X7.here hx rfl (hb hby at_38) ?_
      show Steps p.tables e below (T7.setTop (mkF m 40 (fL mode lo hi len pos ch (.val (.int (mode &&& (3 : Int32)))) .unset .unset .unset .unset .unset) [(.int (16 : Int32)), (.int lo), (.int (2 : Int32)), (.ref b3), (.ref b3)])) _
      refine XS.iushr X7.here hx rfl (hb hby at_40) rfl ?_
      refine XS.sipush X7.here hx rfl (hb hby at_41) ?_
      refine XS.iand X7.here hx rfl (hb hby at_44) rfl ?_
      refine XS.i2c X7.here hx rfl (hb hby at_45) rfl ?_
      show Steps p.tables e below (T7.setTop (mkF m 46 (fL mode lo hi len pos ch (.val (.int (mode &&& (3 : Int32)))) .unset .unset .unset .unset .unset) [(.int ((((lo.toUInt32 >>> ((16 : Int32) &&& 31).toUInt32).toInt32) &&& (255 : Int32)).toUInt32.toUInt16.toUInt32.toInt32)), (.int (2 : Int32)), (.ref b3), (.ref b3)])) _
      rw [← ewc46]
      show Steps p.tables e below (T7.setTop (mkF m 46 (fL mode lo hi len pos ch (.val (.int (mode &&& (3 : Int32)))) .unset .unset .unset .unset .unset) [(.int wc46), (.int (2 : Int32)), (.ref b3), (.ref b3)])) _
      refine st9 _ ?_
      refine XS.dup X9.here hx rfl (hb hby at_47) rfl rfl ?_
      refine XS.iconst X9.here hx rfl (hb hby at_48) ?_
      refine XS.iloadN X9.here hx rfl (hb hby at_49) rfl ?_
      refine XS.bipush X9.here hx rfl (hb hby at_50) ?_
      show Steps p.tables e below (T9.setTop (mkF m 52 (fL mode lo hi len pos ch (.val (.int (mode &&& (3 : Int32)))) .unset .unset .unset .unset .unset) [(.int (24 : Int32)), (.int lo), (.int (3 : Int32)), (.ref b3), (.ref b3)])) _
      refine XS.iushr X9.here hx rfl (hb hby at_52) rfl ?_
      refine XS.sipush X9.here hx rfl (hb hby at_53) ?_
      refine XS.iand X9.here hx rfl (hb hby at_56) rfl ?_
      refine XS.i2c X9.here hx rfl (hb hby at_57) rfl ?_
      show Steps p.tables e below (T9.setTop (mkF m 58 (fL mode lo hi len pos ch (.val (.int (mode &&& (3 : Int32)))) .unset .unset .unset .unset .unset) [(.int ((((lo.toUInt32 >>> ((24 : Int32) &&& 31).toUInt32).toInt32) &&& (255 : Int32)).toUInt32.toUInt16.toUInt32.toInt32)), (.int (3 : Int32)), (.ref b3), (.ref b3)])) _
      rw [← ewc58]
      show Steps p.tables e below (T9.setTop (mkF m 58 (fL mode lo hi len pos ch (.val (.int (mode &&& (3 : Int32)))) .unset .unset .unset .unset .unset) [(.int wc58), (.int (3 : Int32)), (.ref b3), (.ref b3)])) _
      refine st11 _ ?_
      refine XS.dup X11.here hx rfl (hb hby at_59) rfl rfl ?_
      refine XS.iconst X11.here hx rfl (hb hby at_60) ?_
      refine XS.iloadN X11.here hx rfl (hb hby at_61) rfl ?_
      refine XS.sipush X11.here hx rfl (hb hby at_62) ?_
      show Steps p.tables e below (T11.setTop (mkF m 65 (fL mode lo hi len pos ch (.val (.int (mode &&& (3 : Int32)))) .unset .unset .unset .unset .unset) [(.int (255 : Int32)), (.int hi), (.int (4 : Int32)), (.ref b3), (.ref b3)])) _
      refine XS.iand X11.here hx rfl (hb hby at_65) rfl ?_
      refine XS.i2c X11.here hx rfl (hb hby at_66) rfl ?_
      show Steps p.tables e below (T11.setTop (mkF m 67 (fL mode lo hi len pos ch (.val (.int (mode &&& (3 : Int32)))) .unset .unset .unset .unset .unset) [(.int ((hi &&& (255 : Int32)).toUInt32.toUInt16.toUInt32.toInt32)), (.int (4 : Int32)), (.ref b3), (.ref b3)])) _
      rw [← ewc67]
      show Steps p.tables e below (T11.setTop (mkF m 67 (fL mode lo hi len pos ch (.val (.int (mode &&& (3 : Int32)))) .unset .unset .unset .unset .unset) [(.int wc67), (.int (4 : Int32)), (.ref b3), (.ref b3)])) _
      refine st13 _ ?_
      refine XS.dup X13.here hx rfl (hb hby at_68) rfl rfl ?_
      refine XS.iconst X13.here hx rfl (hb hby at_69) ?_
      refine XS.iloadN X13.here hx rfl (hb hby at_70) rfl ?_
      refine XS.bipush X13.here hx rfl (hb hby at_71) ?_
      show Steps p.tables e below (T13.setTop (mkF m 73 (fL mode lo hi len pos ch (.val (.int (mode &&& (3 : Int32)))) .unset .unset .unset .unset .unset) [(.int (8 : Int32)), (.int hi), (.int (5 : Int32)), (.ref b3), (.ref b3)])) _
      refine XS.iushr X13.here hx rfl (hb hby at_73) rfl ?_
      refine XS.sipush X13.here hx rfl (hb hby at_74) ?_
      refine XS.iand X13.here hx rfl (hb hby at_77) rfl ?_
      refine XS.i2c X13.here hx rfl (hb hby at_78) rfl ?_
      show Steps p.tables e below (T13.setTop (mkF m 79 (fL mode lo hi len pos ch (.val (.int (mode &&& (3 : Int32)))) .unset .unset .unset .unset .unset) [(.int ((((hi.toUInt32 >>> ((8 : Int32) &&& 31).toUInt32).toInt32) &&& (255 : Int32)).toUInt32.toUInt16.toUInt32.toInt32)), (.int (5 : Int32)), (.ref b3), (.ref b3)])) _
      rw [← ewc79]
      show Steps p.tables e below (T13.setTop (mkF m 79 (fL mode lo hi len pos ch (.val (.int (mode &&& (3 : Int32)))) .unset .unset .unset .unset .unset) [(.int wc79), (.int (5 : Int32)), (.ref b3), (.ref b3)])) _
      refine st15 _ ?_
      refine XS.dup X15.here hx rfl (hb hby at_80) rfl rfl ?_
      refine XS.bipush X15.here hx rfl (hb hby at_81) ?_
      refine XS.iloadN X15.here hx rfl (hb hby at_83) rfl ?_
      refine XS.bipush X15.here hx rfl (hb hby at_84) ?_
      show Steps p.tables e below (T15.setTop (mkF m 86 (fL mode lo hi len pos ch (.val (.int (mode &&& (3 : Int32)))) .unset .unset .unset .unset .unset) [(.int (16 : Int32)), (.int hi), (.int (6 : Int32)), (.ref b3), (.ref b3)])) _
      refine XS.iushr X15.here hx rfl (hb hby at_86) rfl ?_
      refine XS.sipush X15.here hx rfl (hb hby at_87) ?_
      refine XS.iand X15.here hx rfl (hb hby at_90) rfl ?_
      refine XS.i2c X15.here hx rfl (hb hby at_91) rfl ?_
      show Steps p.tables e below (T15.setTop (mkF m 92 (fL mode lo hi len pos ch (.val (.int (mode &&& (3 : Int32)))) .unset .unset .unset .unset .unset) [(.int ((((hi.toUInt32 >>> ((16 : Int32) &&& 31).toUInt32).toInt32) &&& (255 : Int32)).toUInt32.toUInt16.toUInt32.toInt32)), (.int (6 : Int32)), (.ref b3), (.ref b3)])) _
      rw [← ewc92]
      show Steps p.tables e below (T15.setTop (mkF m 92 (fL mode lo hi len pos ch (.val (.int (mode &&& (3 : Int32)))) .unset .unset .unset .unset .unset) [(.int wc92), (.int (6 : Int32)), (.ref b3), (.ref b3)])) _
      refine st17 _ ?_
      refine XS.dup X17.here hx rfl (hb hby at_93) rfl rfl ?_
      refine XS.bipush X17.here hx rfl (hb hby at_94) ?_
      refine XS.iloadN X17.here hx rfl (hb hby at_96) rfl ?_
      refine XS.bipush X17.here hx rfl (hb hby at_97) ?_
      show Steps p.tables e below (T17.setTop (mkF m 99 (fL mode lo hi len pos ch (.val (.int (mode &&& (3 : Int32)))) .unset .unset .unset .unset .unset) [(.int (24 : Int32)), (.int hi), (.int (7 : Int32)), (.ref b3), (.ref b3)])) _
      refine XS.iushr X17.here hx rfl (hb hby at_99) rfl ?_
      refine XS.sipush X17.here hx rfl (hb hby at_100) ?_
      refine XS.iand X17.here hx rfl (hb hby at_103) rfl ?_
      refine XS.i2c X17.here hx rfl (hb hby at_104) rfl ?_
      show Steps p.tables e below (T17.setTop (mkF m 105 (fL mode lo hi len pos ch (.val (.int (mode &&& (3 : Int32)))) .unset .unset .unset .unset .unset) [(.int ((((hi.toUInt32 >>> ((24 : Int32) &&& 31).toUInt32).toInt32) &&& (255 : Int32)).toUInt32.toUInt16.toUInt32.toInt32)), (.int (7 : Int32)), (.ref b3), (.ref b3)])) _
      rw [← ewc105]
      show Steps p.tables e below (T17.setTop (mkF m 105 (fL mode lo hi len pos ch (.val (.int (mode &&& (3 : Int32)))) .unset .unset .unset .unset .unset) [(.int wc105), (.int (7 : Int32)), (.ref b3), (.ref b3)])) _
      refine st19 _ ?_
      refine XS.astore X19.here hx rfl (hb hby at_106) rfl rfl (l' := (fL mode lo hi len pos ch (.val (.int (mode &&& (3 : Int32)))) (.val (.ref b3)) .unset .unset .unset .unset)) rfl ?_
      refine XS.iloadN X19.here hx rfl (hb hby at_108) rfl ?_
      refine X19.ldcInt hx hown (mvT hZ (ww hw 1 rfl)) (g := (mkF m 109 (fL mode lo hi len pos ch (.val (.int (mode &&& (3 : Int32)))) (.val (.ref b3)) .unset .unset .unset .unset) [(.int len)])) rfl (hb hby at_109) _ ?_
      refine XS.iand X19.here hx rfl (hb hby at_111) rfl ?_
      show Steps p.tables e below (T19.setTop (mkF m 112 (fL mode lo hi len pos ch (.val (.int (mode &&& (3 : Int32)))) (.val (.ref b3)) .unset .unset .unset .unset) [(.int (len &&& (2147483647 : Int32)))])) _
      refine XS.bipush X19.here hx rfl (hb hby at_112) ?_
      refine iremM X19 hx rfl (hb hby at_114) rfl (by decide) ?_
      refine XS.istore X19.here hx rfl (hb hby at_115) rfl (l' := (fL mode lo hi len pos ch (.val (.int (mode &&& (3 : Int32)))) (.val (.ref b3)) (.val (.int ((len &&& (2147483647 : Int32)) % (9 : Int32)))) .unset .unset .unset)) rfl ?_
      show Steps p.tables e below (T19.setTop (mkF m 117 (fL mode lo hi len pos ch (.val (.int (mode &&& (3 : Int32)))) (.val (.ref b3)) (.val (.int ((len &&& (2147483647 : Int32)) % (9 : Int32)))) .unset .unset .unset) [])) _
      rw [← ezn]
      show Steps p.tables e below (T19.setTop (mkF m 117 (fL mode lo hi len pos ch (.val (.int (mode &&& (3 : Int32)))) (.val (.ref b3)) (.val (.int zn)) .unset .unset .unset) [])) _
      refine XS.goto X19.here hx rfl (pc0 := 117) (pc' := 336) rfl (hb hby at_117) (by decide) (by decide) ?_
      show Steps p.tables e below (T19.setTop (mkF m 336 (fL mode lo hi len pos ch (.val (.int (mode &&& (3 : Int32)))) (.val (.ref b3)) (.val (.int zn)) .unset .unset .unset) [])) _
      exact kt
    obtain ⟨A9, eA9, lA9⟩ := own_rem len 9 zn 9 (by decide) (by decide) ezn
    rcases own_nine zn A9 eA9 lA9 with rfl | rfl | rfl | rfl | rfl | rfl | rfl | rfl | rfl
    · exact tail_0 l Z a0 hw mode lo hi len pos ch (.unset) b3 c3 (nar .char wc22) (nar .char wc34) (nar .char wc46) (nar .char wc58) (nar .char wc67) (nar .char wc79) (nar .char wc92) (nar .char wc105) cz v_EMPTY vv kv v_NONE n_NONE t_NONE k_NONE v_CSV n_CSV t_CSV k_CSV v_DATABASE n_DATABASE t_DATABASE k_DATABASE h19 n0 Z19 hx hby hml Bd.returns (BodyLoose.notSynchronized Bd) hZ hown X19 e19 N19 hS HK19 CH19.1 (hWd.ext (own_extK KP19)) hcz V19_b3 (by rw [ewc22]; exact own_ok255 _) (by rw [ewc34]; exact own_ok255 _) (by rw [ewc46]; exact own_ok255 _) (by rw [ewc58]; exact own_ok255 _) (by rw [ewc67]; exact own_ok255 _) (by rw [ewc79]; exact own_ok255 _) (by rw [ewc92]; exact own_ok255 _) (by rw [ewc105]; exact own_ok255 _) (fun _ => rfl) k20
    · exact tail_1 l Z a0 hw mode lo hi len pos ch (.unset) b3 c3 (nar .char wc22) (nar .char wc34) (nar .char wc46) (nar .char wc58) (nar .char wc67) (nar .char wc79) (nar .char wc92) (nar .char wc105) cz v_EMPTY vv kv v_NONE n_NONE t_NONE k_NONE v_CSV n_CSV t_CSV k_CSV v_DATABASE n_DATABASE t_DATABASE k_DATABASE h19 n0 Z19 hx hby hml Bd.returns (BodyLoose.notSynchronized Bd) hZ hown X19 e19 N19 hS HK19 CH19.1 (hWd.ext (own_extK KP19)) hcz V19_b3 (by rw [ewc22]; exact own_ok255 _) (by rw [ewc34]; exact own_ok255 _) (by rw [ewc46]; exact own_ok255 _) (by rw [ewc58]; exact own_ok255 _) (by rw [ewc67]; exact own_ok255 _) (by rw [ewc79]; exact own_ok255 _) (by rw [ewc92]; exact own_ok255 _) (by rw [ewc105]; exact own_ok255 _) (fun _ => rfl) k20
    · exact tail_2 l Z a0 hw mode lo hi len pos ch (.unset) b3 c3 (nar .char wc22) (nar .char wc34) (nar .char wc46) (nar .char wc58) (nar .char wc67) (nar .char wc79) (nar .char wc92) (nar .char wc105) cz v_EMPTY vv kv v_NONE n_NONE t_NONE k_NONE v_CSV n_CSV t_CSV k_CSV v_DATABASE n_DATABASE t_DATABASE k_DATABASE h19 n0 Z19 hx hby hml Bd.returns (BodyLoose.notSynchronized Bd) hZ hown X19 e19 N19 hS HK19 CH19.1 (hWd.ext (own_extK KP19)) hcz V19_b3 (by rw [ewc22]; exact own_ok255 _) (by rw [ewc34]; exact own_ok255 _) (by rw [ewc46]; exact own_ok255 _) (by rw [ewc58]; exact own_ok255 _) (by rw [ewc67]; exact own_ok255 _) (by rw [ewc79]; exact own_ok255 _) (by rw [ewc92]; exact own_ok255 _) (by rw [ewc105]; exact own_ok255 _) (fun _ => rfl) k20
    · exact tail_3 l Z a0 hw mode lo hi len pos ch (.unset) b3 c3 (nar .char wc22) (nar .char wc34) (nar .char wc46) (nar .char wc58) (nar .char wc67) (nar .char wc79) (nar .char wc92) (nar .char wc105) cz v_EMPTY vv kv v_NONE n_NONE t_NONE k_NONE v_CSV n_CSV t_CSV k_CSV v_DATABASE n_DATABASE t_DATABASE k_DATABASE h19 n0 Z19 hx hby hml Bd.returns (BodyLoose.notSynchronized Bd) hZ hown X19 e19 N19 hS HK19 CH19.1 (hWd.ext (own_extK KP19)) hcz V19_b3 (by rw [ewc22]; exact own_ok255 _) (by rw [ewc34]; exact own_ok255 _) (by rw [ewc46]; exact own_ok255 _) (by rw [ewc58]; exact own_ok255 _) (by rw [ewc67]; exact own_ok255 _) (by rw [ewc79]; exact own_ok255 _) (by rw [ewc92]; exact own_ok255 _) (by rw [ewc105]; exact own_ok255 _) (fun _ => rfl) k20
    · exact tail_4 l Z a0 hw mode lo hi len pos ch (.unset) b3 c3 (nar .char wc22) (nar .char wc34) (nar .char wc46) (nar .char wc58) (nar .char wc67) (nar .char wc79) (nar .char wc92) (nar .char wc105) cz v_EMPTY vv kv v_NONE n_NONE t_NONE k_NONE v_CSV n_CSV t_CSV k_CSV v_DATABASE n_DATABASE t_DATABASE k_DATABASE h19 n0 Z19 hx hby hml Bd.returns (BodyLoose.notSynchronized Bd) hZ hown X19 e19 N19 hS HK19 CH19.1 (hWd.ext (own_extK KP19)) hcz V19_b3 (by rw [ewc22]; exact own_ok255 _) (by rw [ewc34]; exact own_ok255 _) (by rw [ewc46]; exact own_ok255 _) (by rw [ewc58]; exact own_ok255 _) (by rw [ewc67]; exact own_ok255 _) (by rw [ewc79]; exact own_ok255 _) (by rw [ewc92]; exact own_ok255 _) (by rw [ewc105]; exact own_ok255 _) (fun _ => rfl) k20
    · exact tail_5 l Z a0 hw mode lo hi len pos ch (.unset) b3 c3 (nar .char wc22) (nar .char wc34) (nar .char wc46) (nar .char wc58) (nar .char wc67) (nar .char wc79) (nar .char wc92) (nar .char wc105) cz v_EMPTY vv kv v_NONE n_NONE t_NONE k_NONE v_CSV n_CSV t_CSV k_CSV v_DATABASE n_DATABASE t_DATABASE k_DATABASE h19 n0 Z19 hx hby hml Bd.returns (BodyLoose.notSynchronized Bd) hZ hown X19 e19 N19 hS HK19 CH19.1 (hWd.ext (own_extK KP19)) hcz V19_b3 (by rw [ewc22]; exact own_ok255 _) (by rw [ewc34]; exact own_ok255 _) (by rw [ewc46]; exact own_ok255 _) (by rw [ewc58]; exact own_ok255 _) (by rw [ewc67]; exact own_ok255 _) (by rw [ewc79]; exact own_ok255 _) (by rw [ewc92]; exact own_ok255 _) (by rw [ewc105]; exact own_ok255 _) (fun _ => rfl) k20
    · exact tail_6 l Z a0 hw mode lo hi len pos ch (.unset) b3 c3 (nar .char wc22) (nar .char wc34) (nar .char wc46) (nar .char wc58) (nar .char wc67) (nar .char wc79) (nar .char wc92) (nar .char wc105) cz v_EMPTY vv kv v_NONE n_NONE t_NONE k_NONE v_CSV n_CSV t_CSV k_CSV v_DATABASE n_DATABASE t_DATABASE k_DATABASE h19 n0 Z19 hx hby hml Bd.returns (BodyLoose.notSynchronized Bd) hZ hown X19 e19 N19 hS HK19 CH19.1 (hWd.ext (own_extK KP19)) hcz V19_b3 (by rw [ewc22]; exact own_ok255 _) (by rw [ewc34]; exact own_ok255 _) (by rw [ewc46]; exact own_ok255 _) (by rw [ewc58]; exact own_ok255 _) (by rw [ewc67]; exact own_ok255 _) (by rw [ewc79]; exact own_ok255 _) (by rw [ewc92]; exact own_ok255 _) (by rw [ewc105]; exact own_ok255 _) (fun _ => rfl) k20
    · exact tail_7 l Z a0 hw mode lo hi len pos ch (.unset) b3 c3 (nar .char wc22) (nar .char wc34) (nar .char wc46) (nar .char wc58) (nar .char wc67) (nar .char wc79) (nar .char wc92) (nar .char wc105) cz v_EMPTY vv kv v_NONE n_NONE t_NONE k_NONE v_CSV n_CSV t_CSV k_CSV v_DATABASE n_DATABASE t_DATABASE k_DATABASE h19 n0 Z19 hx hby hml Bd.returns (BodyLoose.notSynchronized Bd) hZ hown X19 e19 N19 hS HK19 CH19.1 (hWd.ext (own_extK KP19)) hcz V19_b3 (by rw [ewc22]; exact own_ok255 _) (by rw [ewc34]; exact own_ok255 _) (by rw [ewc46]; exact own_ok255 _) (by rw [ewc58]; exact own_ok255 _) (by rw [ewc67]; exact own_ok255 _) (by rw [ewc79]; exact own_ok255 _) (by rw [ewc92]; exact own_ok255 _) (by rw [ewc105]; exact own_ok255 _) (fun _ => rfl) k20
    · exact tail_8 l Z a0 hw mode lo hi len pos ch (.unset) b3 c3 (nar .char wc22) (nar .char wc34) (nar .char wc46) (nar .char wc58) (nar .char wc67) (nar .char wc79) (nar .char wc92) (nar .char wc105) cz v_EMPTY vv kv v_NONE n_NONE t_NONE k_NONE v_CSV n_CSV t_CSV k_CSV v_DATABASE n_DATABASE t_DATABASE k_DATABASE h19 n0 Z19 hx hby hml Bd.returns (BodyLoose.notSynchronized Bd) hZ hown X19 e19 N19 hS HK19 CH19.1 (hWd.ext (own_extK KP19)) hcz V19_b3 (by rw [ewc22]; exact own_ok255 _) (by rw [ewc34]; exact own_ok255 _) (by rw [ewc46]; exact own_ok255 _) (by rw [ewc58]; exact own_ok255 _) (by rw [ewc67]; exact own_ok255 _) (by rw [ewc79]; exact own_ok255 _) (by rw [ewc92]; exact own_ok255 _) (by rw [ewc105]; exact own_ok255 _) (fun _ => rfl) k20
  · have k21 : ∀ tg, Steps p.tables e below (s₁.setTop (mkF m 123 (fL mode lo hi len pos ch (.val (.int (mode &&& (3 : Int32)))) .unset .unset .unset .unset .unset) [(.int (1 : Int32)), (.int (mode &&& (3 : Int32)))])) tg → Steps p.tables e below (s₁.setTop (entryFrame m #[(.int mode), (.int lo), (.int hi), (.int len), (.int pos), (.int ch)] maxLocals)) tg := by
      intro tg kt
      refine k1 tg ?_
      refine XS.ifYes X0.here hx rfl (pc0 := 7) (pc' := 120) rfl (hb hby at_7) rfl ((if0 _ _).trans (feq hc2).2) (by decide) (by decide) ?_
      refine XS.iload X0.here hx rfl (hb hby at_120) rfl ?_
      refine XS.iconst X0.here hx rfl (hb hby at_122) ?_
      show Steps p.tables e below (s₁.setTop (mkF m 123 (fL mode lo hi len pos ch (.val (.int (mode &&& (3 : Int32)))) .unset .unset .unset .unset .unset) [(.int (1 : Int32)), (.int (mode &&& (3 : Int32)))])) _
      exact kt
    by_cases hc22 : (mode &&& (3 : Int32)) = (1 : Int32)
    · obtain ⟨T23, h23, c23, X23, e23, E23, A23, st23⟩ := newP X0 hx hZ (ww hw 0 rfl) e0 (g := (mkF m 128 (fL mode lo hi len pos ch (.val (.int (mode &&& (3 : Int32)))) .unset .unset .unset .unset .unset) [(.int (8 : Int32))])) rfl (hb hby at_128) rfl (by decide) (cap := 8) (by decide) (by decide) (by decide) (by decide)
      obtain ⟨b23, g23⟩ : ∃ z, z = h0.size := ⟨_, rfl⟩
      have g_b23 : n0 ≤ b23 := Nat.le_trans Z0 (Nat.le_of_eq g23.symm)
      have sz_b23 : h0.size ≤ b23 := Nat.le_trans (Keep.refl h0 []).1 (Nat.le_of_eq g23.symm)
      rw [← g23] at A23 st23
      have HK23 := Nat.le_trans HK0 E23.1
      have CH23 := CH0.trans (CHr.ext E23 CH0.1)
      have Z23 := Nat.le_trans Z0 E23.1
      have KP23 := (Keep.refl h0 []).ext E23
      have V_b23 : Arv Z h23 b23 c23 .char (8 : Int32) [(.int (0 : Int32)), (.int (0 : Int32)), (.int (0 : Int32)), (.int (0 : Int32)), (.int (0 : Int32)), (.int (0 : Int32)), (.int (0 : Int32)), (.int (0 : Int32))] (.int (0 : Int32)) := (Arv.new A23 (by decide)).pad (pad_rep [] (.int (0 : Int32)) 8)
      obtain ⟨cl134_24, Ar134_24, q134_24, S134_24, N134_24_, H134_24, G134_24⟩ := id V_b23
      have hin134_24 : ¬ ((0 : Int32) < 0 ∨ cl134_24.slots.size ≤ ((0 : Int32)).toNatClampNeg) := inb_of S134_24 ⟨by decide, by decide⟩
      obtain ⟨T25, h25, X25, e25, W25, st25⟩ := stC X23 hx hZ e23 Ar134_24 (j := (0 : Int32)) hin134_24 (g := (mkF m 134 (fL mode lo hi len pos ch (.val (.int (mode &&& (3 : Int32)))) .unset .unset .unset .unset .unset) [(.int (110 : Int32)), (.int (0 : Int32)), (.ref b23), (.ref b23)])) rfl rfl (hb hby at_134)
      have HK25 := Nat.le_trans HK23 (Keep.of_wr W25).1
      have CH25 := CH23.trans (CHr.wr W25 (own_safeA hZ.alike V_b23 (by decide)) CH23.1)
      have Z25 := Nat.le_trans Z23 (Keep.of_wr W25).1
      have KP25 := KP23.wr W25 (Or.inr sz_b23)
      have N25 := Fr.snoc X25 N0 g_b23
      have V25_b23 : Arv Z h25 b23 c23 .char (8 : Int32) [(.int (nar .char (110 : Int32))), (.int (0 : Int32)), (.int (0 : Int32)), (.int (0 : Int32)), (.int (0 : Int32)), (.int (0 : Int32)), (.int (0 : Int32)), (.int (0 : Int32))] (.int (0 : Int32)) := Arv.set Ar134_24 q134_24 S134_24 N134_24_ H134_24 G134_24 (fits_nar_char _) W25 0 rfl (Nat.le_of_ble_eq_true rfl)
      obtain ⟨cl139_26, Ar139_26, q139_26, S139_26, N139_26_, H139_26, G139_26⟩ := id V25_b23
      have hin139_26 : ¬ ((1 : Int32) < 0 ∨ cl139_26.slots.size ≤ ((1 : Int32)).toNatClampNeg) := inb_of S139_26 ⟨by decide, by decide⟩
      obtain ⟨T27, h27, X27, e27, W27, st27⟩ := stC X25 hx hZ e25 Ar139_26 (j := (1 : Int32)) hin139_26 (g := (mkF m 139 (fL mode lo hi len pos ch (.val (.int (mode &&& (3 : Int32)))) .unset .unset .unset .unset .unset) [(.int (111 : Int32)), (.int (1 : Int32)), (.ref b23), (.ref b23)])) rfl rfl (hb hby at_139)
      have HK27 := Nat.le_trans HK25 (Keep.of_wr W27).1
      have CH27 := CH25.trans (CHr.wr W27 (own_safeA hZ.alike V25_b23 (by decide)) CH25.1)
      have Z27 := Nat.le_trans Z25 (Keep.of_wr W27).1
      have KP27 := KP25.wr W27 (Or.inr sz_b23)
      have N27 := Fr.snoc X27 N25 g_b23
      have V27_b23 : Arv Z h27 b23 c23 .char (8 : Int32) [(.int (nar .char (110 : Int32))), (.int (nar .char (111 : Int32))), (.int (0 : Int32)), (.int (0 : Int32)), (.int (0 : Int32)), (.int (0 : Int32)), (.int (0 : Int32)), (.int (0 : Int32))] (.int (0 : Int32)) := Arv.set Ar139_26 q139_26 S139_26 N139_26_ H139_26 G139_26 (fits_nar_char _) W27 1 rfl (Nat.le_of_ble_eq_true rfl)
      obtain ⟨cl144_28, Ar144_28, q144_28, S144_28, N144_28_, H144_28, G144_28⟩ := id V27_b23
      have hin144_28 : ¬ ((2 : Int32) < 0 ∨ cl144_28.slots.size ≤ ((2 : Int32)).toNatClampNeg) := inb_of S144_28 ⟨by decide, by decide⟩
      obtain ⟨T29, h29, X29, e29, W29, st29⟩ := stC X27 hx hZ e27 Ar144_28 (j := (2 : Int32)) hin144_28 (g := (mkF m 144 (fL mode lo hi len pos ch (.val (.int (mode &&& (3 : Int32)))) .unset .unset .unset .unset .unset) [(.int (110 : Int32)), (.int (2 : Int32)), (.ref b23), (.ref b23)])) rfl rfl (hb hby at_144)
      have HK29 := Nat.le_trans HK27 (Keep.of_wr W29).1
      have CH29 := CH27.trans (CHr.wr W29 (own_safeA hZ.alike V27_b23 (by decide)) CH27.1)
      have Z29 := Nat.le_trans Z27 (Keep.of_wr W29).1
      have KP29 := KP27.wr W29 (Or.inr sz_b23)
      have N29 := Fr.snoc X29 N27 g_b23
      have V29_b23 : Arv Z h29 b23 c23 .char (8 : Int32) [(.int (nar .char (110 : Int32))), (.int (nar .char (111 : Int32))), (.int (nar .char (110 : Int32))), (.int (0 : Int32)), (.int (0 : Int32)), (.int (0 : Int32)), (.int (0 : Int32)), (.int (0 : Int32))] (.int (0 : Int32)) := Arv.set Ar144_28 q144_28 S144_28 N144_28_ H144_28 G144_28 (fits_nar_char _) W29 2 rfl (Nat.le_of_ble_eq_true rfl)
      obtain ⟨cl149_30, Ar149_30, q149_30, S149_30, N149_30_, H149_30, G149_30⟩ := id V29_b23
      have hin149_30 : ¬ ((3 : Int32) < 0 ∨ cl149_30.slots.size ≤ ((3 : Int32)).toNatClampNeg) := inb_of S149_30 ⟨by decide, by decide⟩
      obtain ⟨T31, h31, X31, e31, W31, st31⟩ := stC X29 hx hZ e29 Ar149_30 (j := (3 : Int32)) hin149_30 (g := (mkF m 149 (fL mode lo hi len pos ch (.val (.int (mode &&& (3 : Int32)))) .unset .unset .unset .unset .unset) [(.int (101 : Int32)), (.int (3 : Int32)), (.ref b23), (.ref b23)])) rfl rfl (hb hby at_149)
      have HK31 := Nat.le_trans HK29 (Keep.of_wr W31).1
      have CH31 := CH29.trans (CHr.wr W31 (own_safeA hZ.alike V29_b23 (by decide)) CH29.1)
      have Z31 := Nat.le_trans Z29 (Keep.of_wr W31).1
      have KP31 := KP29.wr W31 (Or.inr sz_b23)
      have N31 := Fr.snoc X31 N29 g_b23
      have V31_b23 : Arv Z h31 b23 c23 .char (8 : Int32) [(.int (nar .char (110 : Int32))), (.int (nar .char (111 : Int32))), (.int (nar .char (110 : Int32))), (.int (nar .char (101 : Int32))), (.int (0 : Int32)), (.int (0 : Int32)), (.int (0 : Int32)), (.int (0 : Int32))] (.int (0 : Int32)) := Arv.set Ar149_30 q149_30 S149_30 N149_30_ H149_30 G149_30 (fits_nar_char _) W31 3 rfl (Nat.le_of_ble_eq_true rfl)
      obtain ⟨cl154_32, Ar154_32, q154_32, S154_32, N154_32_, H154_32, G154_32⟩ := id V31_b23
      have hin154_32 : ¬ ((4 : Int32) < 0 ∨ cl154_32.slots.size ≤ ((4 : Int32)).toNatClampNeg) := inb_of S154_32 ⟨by decide, by decide⟩
      obtain ⟨T33, h33, X33, e33, W33, st33⟩ := stC X31 hx hZ e31 Ar154_32 (j := (4 : Int32)) hin154_32 (g := (mkF m 154 (fL mode lo hi len pos ch (.val (.int (mode &&& (3 : Int32)))) .unset .unset .unset .unset .unset) [(.int (120 : Int32)), (.int (4 : Int32)), (.ref b23), (.ref b23)])) rfl rfl (hb hby at_154)
      have HK33 := Nat.le_trans HK31 (Keep.of_wr W33).1
      have CH33 := CH31.trans (CHr.wr W33 (own_safeA hZ.alike V31_b23 (by decide)) CH31.1)
      have Z33 := Nat.le_trans Z31 (Keep.of_wr W33).1
      have KP33 := KP31.wr W33 (Or.inr sz_b23)
      have N33 := Fr.snoc X33 N31 g_b23
      have V33_b23 : Arv Z h33 b23 c23 .char (8 : Int32) [(.int (nar .char (110 : Int32))), (.int (nar .char (111 : Int32))), (.int (nar .char (110 : Int32))), (.int (nar .char (101 : Int32))), (.int (nar .char (120 : Int32))), (.int (0 : Int32)), (.int (0 : Int32)), (.int (0 : Int32))] (.int (0 : Int32)) := Arv.set Ar154_32 q154_32 S154_32 N154_32_ H154_32 G154_32 (fits_nar_char _) W33 4 rfl (Nat.le_of_ble_eq_true rfl)
      obtain ⟨cl159_34, Ar159_34, q159_34, S159_34, N159_34_, H159_34, G159_34⟩ := id V33_b23
      have hin159_34 : ¬ ((5 : Int32) < 0 ∨ cl159_34.slots.size ≤ ((5 : Int32)).toNatClampNeg) := inb_of S159_34 ⟨by decide, by decide⟩
      obtain ⟨T35, h35, X35, e35, W35, st35⟩ := stC X33 hx hZ e33 Ar159_34 (j := (5 : Int32)) hin159_34 (g := (mkF m 159 (fL mode lo hi len pos ch (.val (.int (mode &&& (3 : Int32)))) .unset .unset .unset .unset .unset) [(.int (120 : Int32)), (.int (5 : Int32)), (.ref b23), (.ref b23)])) rfl rfl (hb hby at_159)
      have HK35 := Nat.le_trans HK33 (Keep.of_wr W35).1
      have CH35 := CH33.trans (CHr.wr W35 (own_safeA hZ.alike V33_b23 (by decide)) CH33.1)
      have Z35 := Nat.le_trans Z33 (Keep.of_wr W35).1
      have KP35 := KP33.wr W35 (Or.inr sz_b23)
      have N35 := Fr.snoc X35 N33 g_b23
      have V35_b23 : Arv Z h35 b23 c23 .char (8 : Int32) [(.int (nar .char (110 : Int32))), (.int (nar .char (111 : Int32))), (.int (nar .char (110 : Int32))), (.int (nar .char (101 : Int32))), (.int (nar .char (120 : Int32))), (.int (nar .char (120 : Int32))), (.int (0 : Int32)), (.int (0 : Int32))] (.int (0 : Int32)) := Arv.set Ar159_34 q159_34 S159_34 N159_34_ H159_34 G159_34 (fits_nar_char _) W35 5 rfl (Nat.le_of_ble_eq_true rfl)
      obtain ⟨cl165_36, Ar165_36, q165_36, S165_36, N165_36_, H165_36, G165_36⟩ := id V35_b23
      have hin165_36 : ¬ ((6 : Int32) < 0 ∨ cl165_36.slots.size ≤ ((6 : Int32)).toNatClampNeg) := inb_of S165_36 ⟨by decide, by decide⟩
      obtain ⟨T37, h37, X37, e37, W37, st37⟩ := stC X35 hx hZ e35 Ar165_36 (j := (6 : Int32)) hin165_36 (g := (mkF m 165 (fL mode lo hi len pos ch (.val (.int (mode &&& (3 : Int32)))) .unset .unset .unset .unset .unset) [(.int (120 : Int32)), (.int (6 : Int32)), (.ref b23), (.ref b23)])) rfl rfl (hb hby at_165)
      have HK37 := Nat.le_trans HK35 (Keep.of_wr W37).1
      have CH37 := CH35.trans (CHr.wr W37 (own_safeA hZ.alike V35_b23 (by decide)) CH35.1)
      have Z37 := Nat.le_trans Z35 (Keep.of_wr W37).1
      have KP37 := KP35.wr W37 (Or.inr sz_b23)
      have N37 := Fr.snoc X37 N35 g_b23
      have V37_b23 : Arv Z h37 b23 c23 .char (8 : Int32) [(.int (nar .char (110 : Int32))), (.int (nar .char (111 : Int32))), (.int (nar .char (110 : Int32))), (.int (nar .char (101 : Int32))), (.int (nar .char (120 : Int32))), (.int (nar .char (120 : Int32))), (.int (nar .char (120 : Int32))), (.int (0 : Int32))] (.int (0 : Int32)) := Arv.set Ar165_36 q165_36 S165_36 N165_36_ H165_36 G165_36 (fits_nar_char _) W37 6 rfl (Nat.le_of_ble_eq_true rfl)
      obtain ⟨cl171_38, Ar171_38, q171_38, S171_38, N171_38_, H171_38, G171_38⟩ := id V37_b23
      have hin171_38 : ¬ ((7 : Int32) < 0 ∨ cl171_38.slots.size ≤ ((7 : Int32)).toNatClampNeg) := inb_of S171_38 ⟨by decide, by decide⟩
      obtain ⟨T39, h39, X39, e39, W39, st39⟩ := stC X37 hx hZ e37 Ar171_38 (j := (7 : Int32)) hin171_38 (g := (mkF m 171 (fL mode lo hi len pos ch (.val (.int (mode &&& (3 : Int32)))) .unset .unset .unset .unset .unset) [(.int (120 : Int32)), (.int (7 : Int32)), (.ref b23), (.ref b23)])) rfl rfl (hb hby at_171)
      have HK39 := Nat.le_trans HK37 (Keep.of_wr W39).1
      have CH39 := CH37.trans (CHr.wr W39 (own_safeA hZ.alike V37_b23 (by decide)) CH37.1)
      have Z39 := Nat.le_trans Z37 (Keep.of_wr W39).1
      have KP39 := KP37.wr W39 (Or.inr sz_b23)
      have N39 := Fr.snoc X39 N37 g_b23
      have V39_b23 : Arv Z h39 b23 c23 .char (8 : Int32) [(.int (nar .char (110 : Int32))), (.int (nar .char (111 : Int32))), (.int (nar .char (110 : Int32))), (.int (nar .char (101 : Int32))), (.int (nar .char (120 : Int32))), (.int (nar .char (120 : Int32))), (.int (nar .char (120 : Int32))), (.int (nar .char (120 : Int32)))] (.int (0 : Int32)) := Arv.set Ar171_38 q171_38 S171_38 N171_38_ H171_38 G171_38 (fits_nar_char _) W39 7 rfl (Nat.le_of_ble_eq_true rfl)
      have k40 : ∀ tg, Steps p.tables e below (T39.setTop (mkF m 297 (fL mode lo hi len pos ch (.val (.int (mode &&& (3 : Int32)))) (.val (.ref b23)) (.val (.int (4 : Int32))) .unset .unset .unset) [(.int ((mode >>> ((2 : Int32) &&& 31)) &&& (1 : Int32)))])) tg → Steps p.tables e below (s₁.setTop (entryFrame m #[(.int mode), (.int lo), (.int hi), (.int len), (.int pos), (.int ch)] maxLocals)) tg := by
        intro tg kt
        refine k21 tg ?_
        refine XS.icmpNo X0.here hx rfl (hb hby at_123) rfl (teq hc22).2 ?_
        refine XS.bipush X0.here hx rfl (hb hby at_126) ?_
        refine st23 _ ?_
        refine XS.dup X23.here hx rfl (hb hby at_130) rfl rfl ?_
        refine XS.iconst X23.here hx rfl (hb hby at_131) ?_
        refine XS.bipush X23.here hx rfl (hb hby at_132) ?_
        show Steps p.tables e below (T23.setTop (mkF m 134 (fL mode lo hi len pos ch (.val (.int (mode &&& (3 : Int32)))) .unset .unset .unset .unset .unset) [(.int (110 : Int32)), (.int (0 : Int32)), (.ref b23), (.ref b23)])) _
        refine st25 _ ?_
        refine XS.dup X25.here hx rfl (hb hby at_135) rfl rfl ?_
        refine XS.iconst X25.here hx rfl (hb hby at_136) ?_
        refine XS.bipush X25.here hx rfl (hb hby at_137) ?_
        show Steps p.tables e below (T25.setTop (mkF m 139 (fL mode lo hi len pos ch (.val (.int (mode &&& (3 : Int32)))) .unset .unset .unset .unset .unset) [(.int (111 : Int32)), (.int (1 : Int32)), (.ref b23), (.ref b23)])) _
        refine st27 _ ?_
        refine XS.dup X27.here hx rfl (hb hby at_140) rfl rfl ?_
        refine XS.iconst X27.here hx rfl (hb hby at_141) ?_
        refine XS.bipush X27.here hx rfl (hb hby at_142) ?_
        show Steps p.tables e below (T27.setTop (mkF m 144 (fL mode lo hi len pos ch (.val (.int (mode &&& (3 : Int32)))) .unset .unset .unset .unset .unset) [(.int (110 : Int32)), (.int (2 : Int32)), (.ref b23), (.ref b23)])) _
        refine st29 _ ?_
        refine XS.dup X29.here hx rfl (hb hby at_145) rfl rfl ?_
        refine XS.iconst X29.here hx rfl (hb hby at_146) ?_
        refine XS.bipush X29.here hx rfl (hb hby at_147) ?_
        show Steps p.tables e below (T29.setTop (mkF m 149 (fL mode lo hi len pos ch (.val (.int (mode &&& (3 : Int32)))) .unset .unset .unset .unset .unset) [(.int (101 : Int32)), (.int (3 : Int32)), (.ref b23), (.ref b23)])) _
        refine st31 _ ?_
        refine XS.dup X31.here hx rfl (hb hby at_150) rfl rfl ?_
        refine XS.iconst X31.here hx rfl (hb hby at_151) ?_
        refine XS.bipush X31.here hx rfl (hb hby at_152) ?_
        show Steps p.tables e below (T31.setTop (mkF m 154 (fL mode lo hi len pos ch (.val (.int (mode &&& (3 : Int32)))) .unset .unset .unset .unset .unset) [(.int (120 : Int32)), (.int (4 : Int32)), (.ref b23), (.ref b23)])) _
        refine st33 _ ?_
        refine XS.dup X33.here hx rfl (hb hby at_155) rfl rfl ?_
        refine XS.iconst X33.here hx rfl (hb hby at_156) ?_
        refine XS.bipush X33.here hx rfl (hb hby at_157) ?_
        show Steps p.tables e below (T33.setTop (mkF m 159 (fL mode lo hi len pos ch (.val (.int (mode &&& (3 : Int32)))) .unset .unset .unset .unset .unset) [(.int (120 : Int32)), (.int (5 : Int32)), (.ref b23), (.ref b23)])) _
        refine st35 _ ?_
        refine XS.dup X35.here hx rfl (hb hby at_160) rfl rfl ?_
        refine XS.bipush X35.here hx rfl (hb hby at_161) ?_
        refine XS.bipush X35.here hx rfl (hb hby at_163) ?_
        show Steps p.tables e below (T35.setTop (mkF m 165 (fL mode lo hi len pos ch (.val (.int (mode &&& (3 : Int32)))) .unset .unset .unset .unset .unset) [(.int (120 : Int32)), (.int (6 : Int32)), (.ref b23), (.ref b23)])) _
        refine st37 _ ?_
        refine XS.dup X37.here hx rfl (hb hby at_166) rfl rfl ?_
        refine XS.bipush X37.here hx rfl (hb hby at_167) ?_
        refine XS.bipush X37.here hx rfl (hb hby at_169) ?_
        show Steps p.tables e below (T37.setTop (mkF m 171 (fL mode lo hi len pos ch (.val (.int (mode &&& (3 : Int32)))) .unset .unset .unset .unset .unset) [(.int (120 : Int32)), (.int (7 : Int32)), (.ref b23), (.ref b23)])) _
        refine st39 _ ?_
        refine XS.astore X39.here hx rfl (hb hby at_172) rfl rfl (l' := (fL mode lo hi len pos ch (.val (.int (mode &&& (3 : Int32)))) (.val (.ref b23)) .unset .unset .unset .unset)) rfl ?_
        refine XS.iconst X39.here hx rfl (hb hby at_174) ?_
        refine XS.istore X39.here hx rfl (hb hby at_175) rfl (l' := (fL mode lo hi len pos ch (.val (.int (mode &&& (3 : Int32)))) (.val (.ref b23)) (.val (.int (4 : Int32))) .unset .unset .unset)) rfl ?_
        show Steps p.tables e below (T39.setTop (mkF m 177 (fL mode lo hi len pos ch (.val (.int (mode &&& (3 : Int32)))) (.val (.ref b23)) (.val (.int (4 : Int32))) .unset .unset .unset) [])) _
        refine XS.goto X39.here hx rfl (pc0 := 177) (pc' := 292) rfl (hb hby at_177) (by decide) (by decide) ?_
        refine XS.iloadN X39.here hx rfl (hb hby at_292) rfl ?_
        refine XS.iconst X39.here hx rfl (hb hby at_293) ?_
        refine XS.ishr X39.here hx rfl (hb hby at_294) rfl ?_
        refine XS.iconst X39.here hx rfl (hb hby at_295) ?_
        show Steps p.tables e below (T39.setTop (mkF m 296 (fL mode lo hi len pos ch (.val (.int (mode &&& (3 : Int32)))) (.val (.ref b23)) (.val (.int (4 : Int32))) .unset .unset .unset) [(.int (1 : Int32)), (.int (mode >>> ((2 : Int32) &&& 31)))])) _
        refine XS.iand X39.here hx rfl (hb hby at_296) rfl ?_
        show Steps p.tables e below (T39.setTop (mkF m 297 (fL mode lo hi len pos ch (.val (.int (mode &&& (3 : Int32)))) (.val (.ref b23)) (.val (.int (4 : Int32))) .unset .unset .unset) [(.int ((mode >>> ((2 : Int32) &&& 31)) &&& (1 : Int32)))])) _
        exact kt
      by_cases hc41 : ((mode >>> ((2 : Int32) &&& 31)) &&& (1 : Int32)) = (0 : Int32)
      · have k42 : ∀ tg, Steps p.tables e below (T39.setTop (mkF m 327 (fL mode lo hi len pos ch (.val (.int (mode &&& (3 : Int32)))) (.val (.ref b23)) (.val (.int (4 : Int32))) .unset .unset .unset) [(.int ((mode >>> ((3 : Int32) &&& 31)) &&& (1 : Int32)))])) tg → Steps p.tables e below (s₁.setTop (entryFrame m #[(.int mode), (.int lo), (.int hi), (.int len), (.int pos), (.int ch)] maxLocals)) tg := by
          intro tg kt
          refine k40 tg ?_
          refine XS.ifYes X39.here hx rfl (pc0 := 297) (pc' := 322) rfl (hb hby at_297) rfl ((if0 _ _).trans (teq hc41).1) (by decide) (by decide) ?_
          refine XS.iloadN X39.here hx rfl (hb hby at_322) rfl ?_
          refine XS.iconst X39.here hx rfl (hb hby at_323) ?_
          refine XS.ishr X39.here hx rfl (hb hby at_324) rfl ?_
          refine XS.iconst X39.here hx rfl (hb hby at_325) ?_
          show Steps p.tables e below (T39.setTop (mkF m 326 (fL mode lo hi len pos ch (.val (.int (mode &&& (3 : Int32)))) (.val (.ref b23)) (.val (.int (4 : Int32))) .unset .unset .unset) [(.int (1 : Int32)), (.int (mode >>> ((3 : Int32) &&& 31)))])) _
          refine XS.iand X39.here hx rfl (hb hby at_326) rfl ?_
          show Steps p.tables e below (T39.setTop (mkF m 327 (fL mode lo hi len pos ch (.val (.int (mode &&& (3 : Int32)))) (.val (.ref b23)) (.val (.int (4 : Int32))) .unset .unset .unset) [(.int ((mode >>> ((3 : Int32) &&& 31)) &&& (1 : Int32)))])) _
          exact kt
        have k46 : ∀ tg, Steps p.tables e below (T39.setTop (mkF m 336 (fL mode lo hi len pos ch (.val (.int (mode &&& (3 : Int32)))) (.val (.ref b23)) (.val (.int (if ((mode >>> ((3 : Int32) &&& 31)) &&& (1 : Int32)) = (0 : Int32) then (4 : Int32) else ((4 : Int32) - (1 : Int32))))) .unset .unset .unset) [])) tg → Steps p.tables e below (s₁.setTop (entryFrame m #[(.int mode), (.int lo), (.int hi), (.int len), (.int pos), (.int ch)] maxLocals)) tg := by
          intro tg kt
          refine k42 tg ?_
          show Steps p.tables e below (T39.setTop (mkF m 327 (fL mode lo hi len pos ch (.val (.int (mode &&& (3 : Int32)))) (.val (.ref b23)) (.val (.int (4 : Int32))) .unset .unset .unset) [(.int ((mode >>> ((3 : Int32) &&& 31)) &&& (1 : Int32)))])) _
          by_cases hc43 : ((mode >>> ((3 : Int32) &&& 31)) &&& (1 : Int32)) = (0 : Int32)
          · refine XS.ifYes X39.here hx rfl (pc0 := 327) (pc' := 336) rfl (hb hby at_327) rfl ((if0 _ _).trans (teq hc43).1) (by decide) (by decide) ?_
            show Steps p.tables e below (T39.setTop (mkF m 336 (fL mode lo hi len pos ch (.val (.int (mode &&& (3 : Int32)))) (.val (.ref b23)) (.val (.int (4 : Int32))) .unset .unset .unset) [])) _
            repeat rw [if_pos hc43] at kt
            exact kt
          · refine XS.ifNo X39.here hx rfl (hb hby at_327) rfl ((if0 _ _).trans (feq hc43).1) ?_
            show Steps p.tables e below (T39.setTop (mkF m 330 (fL mode lo hi len pos ch (.val (.int (mode &&& (3 : Int32)))) (.val (.ref b23)) (.val (.int (4 : Int32))) .unset .unset .unset) [])) _
            refine XS.iload X39.here hx rfl (hb hby at_330) rfl ?_
            show Steps p.tables e below (T39.setTop (mkF m 332 (fL mode lo hi len pos ch (.val (.int (mode &&& (3 : Int32)))) (.val (.ref b23)) (.val (.int (4 : Int32))) .unset .unset .unset) [(.int (4 : Int32))])) _
            refine XS.iconst X39.here hx rfl (hb hby at_332) ?_
            show Steps p.tables e below (T39.setTop (mkF m 333 (fL mode lo hi len pos ch (.val (.int (mode &&& (3 : Int32)))) (.val (.ref b23)) (.val (.int (4 : Int32))) .unset .unset .unset) [(.int (1 : Int32)), (.int (4 : Int32))])) _
            refine XS.isub X39.here hx rfl (hb hby at_333) rfl ?_
            show Steps p.tables e below (T39.setTop (mkF m 334 (fL mode lo hi len pos ch (.val (.int (mode &&& (3 : Int32)))) (.val (.ref b23)) (.val (.int (4 : Int32))) .unset .unset .unset) [(.int ((4 : Int32) - (1 : Int32)))])) _
            refine XS.istore X39.here hx rfl (hb hby at_334) rfl (l' := (fL mode lo hi len pos ch (.val (.int (mode &&& (3 : Int32)))) (.val (.ref b23)) (.val (.int ((4 : Int32) - (1 : Int32)))) .unset .unset .unset)) rfl ?_
            show Steps p.tables e below (T39.setTop (mkF m 336 (fL mode lo hi len pos ch (.val (.int (mode &&& (3 : Int32)))) (.val (.ref b23)) (.val (.int ((4 : Int32) - (1 : Int32)))) .unset .unset .unset) [])) _
            repeat rw [if_neg hc43] at kt
            exact kt
        obtain ⟨z47, ez47⟩ : ∃ z : Int32, z = (if ((mode >>> ((3 : Int32) &&& 31)) &&& (1 : Int32)) = (0 : Int32) then (4 : Int32) else ((4 : Int32) - (1 : Int32))) := ⟨_, rfl⟩
        have k48 : ∀ tg, Steps p.tables e below (T39.setTop (mkF m 336 (fL mode lo hi len pos ch (.val (.int (mode &&& (3 : Int32)))) (.val (.ref b23)) (.val (.int z47)) .unset .unset .unset) [])) tg → Steps p.tables e below (s₁.setTop (entryFrame m #[(.int mode), (.int lo), (.int hi), (.int len), (.int pos), (.int ch)] maxLocals)) tg := by
          intro tg kt
          refine k46 tg ?_
          show Steps p.tables e below (T39.setTop (mkF m 336 (fL mode lo hi len pos ch (.val (.int (mode &&& (3 : Int32)))) (.val (.ref b23)) (.val (.int (if ((mode >>> ((3 : Int32) &&& 31)) &&& (1 : Int32)) = (0 : Int32) then (4 : Int32) else ((4 : Int32) - (1 : Int32))))) .unset .unset .unset) [])) _
          rw [← ez47]
          show Steps p.tables e below (T39.setTop (mkF m 336 (fL mode lo hi len pos ch (.val (.int (mode &&& (3 : Int32)))) (.val (.ref b23)) (.val (.int z47)) .unset .unset .unset) [])) _
          exact kt
        have hz2 : z47 = (4 : Int32) ∨ z47 = (3 : Int32) := by
          rw [ez47]
          split <;> first | exact Or.inl rfl | exact Or.inr (by decide)
        rcases hz2 with rfl | rfl
        · exact tail_4 l Z a0 hw mode lo hi len pos ch (.unset) b23 c23 (nar .char (110 : Int32)) (nar .char (111 : Int32)) (nar .char (110 : Int32)) (nar .char (101 : Int32)) (nar .char (120 : Int32)) (nar .char (120 : Int32)) (nar .char (120 : Int32)) (nar .char (120 : Int32)) cz v_EMPTY vv kv v_NONE n_NONE t_NONE k_NONE v_CSV n_CSV t_CSV k_CSV v_DATABASE n_DATABASE t_DATABASE k_DATABASE h39 n0 Z39 hx hby hml Bd.returns (BodyLoose.notSynchronized Bd) hZ hown X39 e39 N39 hS HK39 CH39.1 (hWd.ext (own_extK KP39)) hcz V39_b23 ⟨by decide, by decide⟩ ⟨by decide, by decide⟩ ⟨by decide, by decide⟩ ⟨by decide, by decide⟩ ⟨by decide, by decide⟩ ⟨by decide, by decide⟩ ⟨by decide, by decide⟩ ⟨by decide, by decide⟩ (fun _ => rfl) k48
        · exact tail_3 l Z a0 hw mode lo hi len pos ch (.unset) b23 c23 (nar .char (110 : Int32)) (nar .char (111 : Int32)) (nar .char (110 : Int32)) (nar .char (101 : Int32)) (nar .char (120 : Int32)) (nar .char (120 : Int32)) (nar .char (120 : Int32)) (nar .char (120 : Int32)) cz v_EMPTY vv kv v_NONE n_NONE t_NONE k_NONE v_CSV n_CSV t_CSV k_CSV v_DATABASE n_DATABASE t_DATABASE k_DATABASE h39 n0 Z39 hx hby hml Bd.returns (BodyLoose.notSynchronized Bd) hZ hown X39 e39 N39 hS HK39 CH39.1 (hWd.ext (own_extK KP39)) hcz V39_b23 ⟨by decide, by decide⟩ ⟨by decide, by decide⟩ ⟨by decide, by decide⟩ ⟨by decide, by decide⟩ ⟨by decide, by decide⟩ ⟨by decide, by decide⟩ ⟨by decide, by decide⟩ ⟨by decide, by decide⟩ (fun _ => rfl) k48
      · obtain ⟨ix, eix⟩ : ∃ z : Int32, z = ((pos &&& (2147483647 : Int32)) % (4 : Int32)) := ⟨_, rfl⟩
        obtain ⟨AI, eAI, lAI⟩ := own_rem pos (4 : Int32) ix 4 (by decide) (by decide) eix
        have hix0 : ¬ ix < 0 := own_ge ix AI eAI
        have hix7 : ix < (8 : Int32) := own_lt8 ix AI eAI (by omega)
        have hix8 : ix.toNatClampNeg < 8 := own_cl8 ix AI eAI (by omega)
        obtain ⟨cl321_49, Ar321_49, q321_49, S321_49, N321_49_, H321_49, G321_49⟩ := id V39_b23
        have hin321_49 : ¬ (ix < 0 ∨ cl321_49.slots.size ≤ (ix).toNatClampNeg) := inb_of S321_49 ⟨hix0, hix7⟩
        obtain ⟨T50, h50, X50, e50, W50, st50⟩ := stC X39 hx hZ e39 Ar321_49 (j := ix) hin321_49 (g := (mkF m 321 (fL mode lo hi len pos ch (.val (.int (mode &&& (3 : Int32)))) (.val (.ref b23)) (.val (.int (4 : Int32))) (.val (.int ix)) .unset .unset) [(.int ((ch &&& (255 : Int32)).toUInt32.toUInt16.toUInt32.toInt32)), (.int ix), (.ref b23)])) rfl rfl (hb hby at_321)
        have HK50 := Nat.le_trans HK39 (Keep.of_wr W50).1
        have CH50 := CH39.trans (CHr.wr W50 (own_safeA hZ.alike V39_b23 (by decide)) CH39.1)
        have Z50 := Nat.le_trans Z39 (Keep.of_wr W50).1
        have KP50 := KP39.wr W50 (Or.inr sz_b23)
        have N50 := Fr.snoc X50 N39 g_b23
        have V50_b23 : Arv Z h50 b23 c23 .char (8 : Int32) ([(.int (nar .char (110 : Int32))), (.int (nar .char (111 : Int32))), (.int (nar .char (110 : Int32))), (.int (nar .char (101 : Int32))), (.int (nar .char (120 : Int32))), (.int (nar .char (120 : Int32))), (.int (nar .char (120 : Int32))), (.int (nar .char (120 : Int32)))].set ix.toNatClampNeg (.int (nar .char ((ch &&& (255 : Int32)).toUInt32.toUInt16.toUInt32.toInt32)))) (.int (0 : Int32)) := Arv.set Ar321_49 q321_49 S321_49 N321_49_ H321_49 G321_49 (fits_nar_char _) W50 ix.toNatClampNeg rfl hix8
        have k51 : ∀ tg, Steps p.tables e below (T50.setTop (mkF m 327 (fL mode lo hi len pos ch (.val (.int (mode &&& (3 : Int32)))) (.val (.ref b23)) (.val (.int (4 : Int32))) (.val (.int ix)) .unset .unset) [(.int ((mode >>> ((3 : Int32) &&& 31)) &&& (1 : Int32)))])) tg → Steps p.tables e below (s₁.setTop (entryFrame m #[(.int mode), (.int lo), (.int hi), (.int len), (.int pos), (.int ch)] maxLocals)) tg := by
          intro tg kt
          refine k40 tg ?_
          refine XS.ifNo X39.here hx rfl (hb hby at_297) rfl ((if0 _ _).trans (feq hc41).1) ?_
          refine XS.iload X39.here hx rfl (hb hby at_300) rfl ?_
          refine X39.ldcInt hx hown (mvT hZ (ww hw 1 rfl)) (g := (mkF m 302 (fL mode lo hi len pos ch (.val (.int (mode &&& (3 : Int32)))) (.val (.ref b23)) (.val (.int (4 : Int32))) .unset .unset .unset) [(.int pos)])) rfl (hb hby at_302) _ ?_
          refine XS.iand X39.here hx rfl (hb hby at_304) rfl ?_
          refine XS.iload X39.here hx rfl (hb hby at_305) rfl ?_
          show Steps p.tables e below (T39.setTop (mkF m 307 (fL mode lo hi len pos ch (.val (.int (mode &&& (3 : Int32)))) (.val (.ref b23)) (.val (.int (4 : Int32))) .unset .unset .unset) [(.int (4 : Int32)), (.int (pos &&& (2147483647 : Int32)))])) _
          refine iremM X39 hx rfl (hb hby at_307) rfl (by decide) ?_
          refine XS.istore X39.here hx rfl (hb hby at_308) rfl (l' := (fL mode lo hi len pos ch (.val (.int (mode &&& (3 : Int32)))) (.val (.ref b23)) (.val (.int (4 : Int32))) (.val (.int ((pos &&& (2147483647 : Int32)) % (4 : Int32)))) .unset .unset)) rfl ?_
          show Steps p.tables e below (T39.setTop (mkF m 310 (fL mode lo hi len pos ch (.val (.int (mode &&& (3 : Int32)))) (.val (.ref b23)) (.val (.int (4 : Int32))) (.val (.int ((pos &&& (2147483647 : Int32)) % (4 : Int32)))) .unset .unset) [])) _
          rw [← eix]
          show Steps p.tables e below (T39.setTop (mkF m 310 (fL mode lo hi len pos ch (.val (.int (mode &&& (3 : Int32)))) (.val (.ref b23)) (.val (.int (4 : Int32))) (.val (.int ix)) .unset .unset) [])) _
          refine XS.aload X39.here hx rfl (hb hby at_310) rfl rfl ?_
          refine XS.iload X39.here hx rfl (hb hby at_312) rfl ?_
          refine XS.iload X39.here hx rfl (hb hby at_314) rfl ?_
          refine XS.sipush X39.here hx rfl (hb hby at_316) ?_
          show Steps p.tables e below (T39.setTop (mkF m 319 (fL mode lo hi len pos ch (.val (.int (mode &&& (3 : Int32)))) (.val (.ref b23)) (.val (.int (4 : Int32))) (.val (.int ix)) .unset .unset) [(.int (255 : Int32)), (.int ch), (.int ix), (.ref b23)])) _
          refine XS.iand X39.here hx rfl (hb hby at_319) rfl ?_
          refine XS.i2c X39.here hx rfl (hb hby at_320) rfl ?_
          refine st50 _ ?_
          refine XS.iloadN X50.here hx rfl (hb hby at_322) rfl ?_
          refine XS.iconst X50.here hx rfl (hb hby at_323) ?_
          refine XS.ishr X50.here hx rfl (hb hby at_324) rfl ?_
          refine XS.iconst X50.here hx rfl (hb hby at_325) ?_
          show Steps p.tables e below (T50.setTop (mkF m 326 (fL mode lo hi len pos ch (.val (.int (mode &&& (3 : Int32)))) (.val (.ref b23)) (.val (.int (4 : Int32))) (.val (.int ix)) .unset .unset) [(.int (1 : Int32)), (.int (mode >>> ((3 : Int32) &&& 31)))])) _
          refine XS.iand X50.here hx rfl (hb hby at_326) rfl ?_
          show Steps p.tables e below (T50.setTop (mkF m 327 (fL mode lo hi len pos ch (.val (.int (mode &&& (3 : Int32)))) (.val (.ref b23)) (.val (.int (4 : Int32))) (.val (.int ix)) .unset .unset) [(.int ((mode >>> ((3 : Int32) &&& 31)) &&& (1 : Int32)))])) _
          exact kt
        have k55 : ∀ tg, Steps p.tables e below (T50.setTop (mkF m 336 (fL mode lo hi len pos ch (.val (.int (mode &&& (3 : Int32)))) (.val (.ref b23)) (.val (.int (if ((mode >>> ((3 : Int32) &&& 31)) &&& (1 : Int32)) = (0 : Int32) then (4 : Int32) else ((4 : Int32) - (1 : Int32))))) (.val (.int ix)) .unset .unset) [])) tg → Steps p.tables e below (s₁.setTop (entryFrame m #[(.int mode), (.int lo), (.int hi), (.int len), (.int pos), (.int ch)] maxLocals)) tg := by
          intro tg kt
          refine k51 tg ?_
          show Steps p.tables e below (T50.setTop (mkF m 327 (fL mode lo hi len pos ch (.val (.int (mode &&& (3 : Int32)))) (.val (.ref b23)) (.val (.int (4 : Int32))) (.val (.int ix)) .unset .unset) [(.int ((mode >>> ((3 : Int32) &&& 31)) &&& (1 : Int32)))])) _
          by_cases hc52 : ((mode >>> ((3 : Int32) &&& 31)) &&& (1 : Int32)) = (0 : Int32)
          · refine XS.ifYes X50.here hx rfl (pc0 := 327) (pc' := 336) rfl (hb hby at_327) rfl ((if0 _ _).trans (teq hc52).1) (by decide) (by decide) ?_
            show Steps p.tables e below (T50.setTop (mkF m 336 (fL mode lo hi len pos ch (.val (.int (mode &&& (3 : Int32)))) (.val (.ref b23)) (.val (.int (4 : Int32))) (.val (.int ix)) .unset .unset) [])) _
            repeat rw [if_pos hc52] at kt
            exact kt
          · refine XS.ifNo X50.here hx rfl (hb hby at_327) rfl ((if0 _ _).trans (feq hc52).1) ?_
            show Steps p.tables e below (T50.setTop (mkF m 330 (fL mode lo hi len pos ch (.val (.int (mode &&& (3 : Int32)))) (.val (.ref b23)) (.val (.int (4 : Int32))) (.val (.int ix)) .unset .unset) [])) _
            refine XS.iload X50.here hx rfl (hb hby at_330) rfl ?_
            show Steps p.tables e below (T50.setTop (mkF m 332 (fL mode lo hi len pos ch (.val (.int (mode &&& (3 : Int32)))) (.val (.ref b23)) (.val (.int (4 : Int32))) (.val (.int ix)) .unset .unset) [(.int (4 : Int32))])) _
            refine XS.iconst X50.here hx rfl (hb hby at_332) ?_
            show Steps p.tables e below (T50.setTop (mkF m 333 (fL mode lo hi len pos ch (.val (.int (mode &&& (3 : Int32)))) (.val (.ref b23)) (.val (.int (4 : Int32))) (.val (.int ix)) .unset .unset) [(.int (1 : Int32)), (.int (4 : Int32))])) _
            refine XS.isub X50.here hx rfl (hb hby at_333) rfl ?_
            show Steps p.tables e below (T50.setTop (mkF m 334 (fL mode lo hi len pos ch (.val (.int (mode &&& (3 : Int32)))) (.val (.ref b23)) (.val (.int (4 : Int32))) (.val (.int ix)) .unset .unset) [(.int ((4 : Int32) - (1 : Int32)))])) _
            refine XS.istore X50.here hx rfl (hb hby at_334) rfl (l' := (fL mode lo hi len pos ch (.val (.int (mode &&& (3 : Int32)))) (.val (.ref b23)) (.val (.int ((4 : Int32) - (1 : Int32)))) (.val (.int ix)) .unset .unset)) rfl ?_
            show Steps p.tables e below (T50.setTop (mkF m 336 (fL mode lo hi len pos ch (.val (.int (mode &&& (3 : Int32)))) (.val (.ref b23)) (.val (.int ((4 : Int32) - (1 : Int32)))) (.val (.int ix)) .unset .unset) [])) _
            repeat rw [if_neg hc52] at kt
            exact kt
        obtain ⟨z56, ez56⟩ : ∃ z : Int32, z = (if ((mode >>> ((3 : Int32) &&& 31)) &&& (1 : Int32)) = (0 : Int32) then (4 : Int32) else ((4 : Int32) - (1 : Int32))) := ⟨_, rfl⟩
        have k57 : ∀ tg, Steps p.tables e below (T50.setTop (mkF m 336 (fL mode lo hi len pos ch (.val (.int (mode &&& (3 : Int32)))) (.val (.ref b23)) (.val (.int z56)) (.val (.int ix)) .unset .unset) [])) tg → Steps p.tables e below (s₁.setTop (entryFrame m #[(.int mode), (.int lo), (.int hi), (.int len), (.int pos), (.int ch)] maxLocals)) tg := by
          intro tg kt
          refine k55 tg ?_
          show Steps p.tables e below (T50.setTop (mkF m 336 (fL mode lo hi len pos ch (.val (.int (mode &&& (3 : Int32)))) (.val (.ref b23)) (.val (.int (if ((mode >>> ((3 : Int32) &&& 31)) &&& (1 : Int32)) = (0 : Int32) then (4 : Int32) else ((4 : Int32) - (1 : Int32))))) (.val (.int ix)) .unset .unset) [])) _
          rw [← ez56]
          show Steps p.tables e below (T50.setTop (mkF m 336 (fL mode lo hi len pos ch (.val (.int (mode &&& (3 : Int32)))) (.val (.ref b23)) (.val (.int z56)) (.val (.int ix)) .unset .unset) [])) _
          exact kt
        obtain ⟨d0, d1, d2, d3, d4, d5, d6, d7, hl8, oo0, oo1, oo2, oo3, oo4, oo5, oo6, oo7⟩ := own_set8 (nar .char (110 : Int32)) (nar .char (111 : Int32)) (nar .char (110 : Int32)) (nar .char (101 : Int32)) (nar .char (120 : Int32)) (nar .char (120 : Int32)) (nar .char (120 : Int32)) (nar .char (120 : Int32)) (nar .char ((ch &&& (255 : Int32)).toUInt32.toUInt16.toUInt32.toInt32)) ix.toNatClampNeg hix8 ⟨by decide, by decide⟩ ⟨by decide, by decide⟩ ⟨by decide, by decide⟩ ⟨by decide, by decide⟩ ⟨by decide, by decide⟩ ⟨by decide, by decide⟩ ⟨by decide, by decide⟩ ⟨by decide, by decide⟩ (own_ok255 _)
        have V8 : Arv Z h50 b23 c23 .char (8 : Int32) [(.int d0), (.int d1), (.int d2), (.int d3), (.int d4), (.int d5), (.int d6), (.int d7)] (.int (0 : Int32)) := by
          have q := V50_b23
          rw [hl8] at q
          exact q
        have hz2 : z56 = (4 : Int32) ∨ z56 = (3 : Int32) := by
          rw [ez56]
          split <;> first | exact Or.inl rfl | exact Or.inr (by decide)
        rcases hz2 with rfl | rfl
        · exact tail_4 l Z a0 hw mode lo hi len pos ch (.val (.int ix)) b23 c23 d0 d1 d2 d3 d4 d5 d6 d7 cz v_EMPTY vv kv v_NONE n_NONE t_NONE k_NONE v_CSV n_CSV t_CSV k_CSV v_DATABASE n_DATABASE t_DATABASE k_DATABASE h50 n0 Z50 hx hby hml Bd.returns (BodyLoose.notSynchronized Bd) hZ hown X50 e50 N50 hS HK50 CH50.1 (hWd.ext (own_extK KP50)) hcz V8 oo0 oo1 oo2 oo3 oo4 oo5 oo6 oo7 (fun _ => rfl) k57
        · exact tail_3 l Z a0 hw mode lo hi len pos ch (.val (.int ix)) b23 c23 d0 d1 d2 d3 d4 d5 d6 d7 cz v_EMPTY vv kv v_NONE n_NONE t_NONE k_NONE v_CSV n_CSV t_CSV k_CSV v_DATABASE n_DATABASE t_DATABASE k_DATABASE h50 n0 Z50 hx hby hml Bd.returns (BodyLoose.notSynchronized Bd) hZ hown X50 e50 N50 hS HK50 CH50.1 (hWd.ext (own_extK KP50)) hcz V8 oo0 oo1 oo2 oo3 oo4 oo5 oo6 oo7 (fun _ => rfl) k57
    · have k58 : ∀ tg, Steps p.tables e below (s₁.setTop (mkF m 183 (fL mode lo hi len pos ch (.val (.int (mode &&& (3 : Int32)))) .unset .unset .unset .unset .unset) [(.int (2 : Int32)), (.int (mode &&& (3 : Int32)))])) tg → Steps p.tables e below (s₁.setTop (entryFrame m #[(.int mode), (.int lo), (.int hi), (.int len), (.int pos), (.int ch)] maxLocals)) tg := by
        intro tg kt
        refine k21 tg ?_
        refine XS.icmpYes X0.here hx rfl (pc0 := 123) (pc' := 180) rfl (hb hby at_123) rfl (feq hc22).2 (by decide) (by decide) ?_
        refine XS.iload X0.here hx rfl (hb hby at_180) rfl ?_
        refine XS.iconst X0.here hx rfl (hb hby at_182) ?_
        show Steps p.tables e below (s₁.setTop (mkF m 183 (fL mode lo hi len pos ch (.val (.int (mode &&& (3 : Int32)))) .unset .unset .unset .unset .unset) [(.int (2 : Int32)), (.int (mode &&& (3 : Int32)))])) _
        exact kt
      by_cases hc59 : (mode &&& (3 : Int32)) = (2 : Int32)
      · obtain ⟨T60, h60, c60, X60, e60, E60, A60, st60⟩ := newP X0 hx hZ (ww hw 0 rfl) e0 (g := (mkF m 188 (fL mode lo hi len pos ch (.val (.int (mode &&& (3 : Int32)))) .unset .unset .unset .unset .unset) [(.int (8 : Int32))])) rfl (hb hby at_188) rfl (by decide) (cap := 8) (by decide) (by decide) (by decide) (by decide)
        obtain ⟨b60, g60⟩ : ∃ z, z = h0.size := ⟨_, rfl⟩
        have g_b60 : n0 ≤ b60 := Nat.le_trans Z0 (Nat.le_of_eq g60.symm)
        have sz_b60 : h0.size ≤ b60 := Nat.le_trans (Keep.refl h0 []).1 (Nat.le_of_eq g60.symm)
        rw [← g60] at A60 st60
        have HK60 := Nat.le_trans HK0 E60.1
        have CH60 := CH0.trans (CHr.ext E60 CH0.1)
        have Z60 := Nat.le_trans Z0 E60.1
        have KP60 := (Keep.refl h0 []).ext E60
        have V_b60 : Arv Z h60 b60 c60 .char (8 : Int32) [(.int (0 : Int32)), (.int (0 : Int32)), (.int (0 : Int32)), (.int (0 : Int32)), (.int (0 : Int32)), (.int (0 : Int32)), (.int (0 : Int32)), (.int (0 : Int32))] (.int (0 : Int32)) := (Arv.new A60 (by decide)).pad (pad_rep [] (.int (0 : Int32)) 8)
        obtain ⟨cl194_61, Ar194_61, q194_61, S194_61, N194_61_, H194_61, G194_61⟩ := id V_b60
        have hin194_61 : ¬ ((0 : Int32) < 0 ∨ cl194_61.slots.size ≤ ((0 : Int32)).toNatClampNeg) := inb_of S194_61 ⟨by decide, by decide⟩
        obtain ⟨T62, h62, X62, e62, W62, st62⟩ := stC X60 hx hZ e60 Ar194_61 (j := (0 : Int32)) hin194_61 (g := (mkF m 194 (fL mode lo hi len pos ch (.val (.int (mode &&& (3 : Int32)))) .unset .unset .unset .unset .unset) [(.int (99 : Int32)), (.int (0 : Int32)), (.ref b60), (.ref b60)])) rfl rfl (hb hby at_194)
        have HK62 := Nat.le_trans HK60 (Keep.of_wr W62).1
        have CH62 := CH60.trans (CHr.wr W62 (own_safeA hZ.alike V_b60 (by decide)) CH60.1)
        have Z62 := Nat.le_trans Z60 (Keep.of_wr W62).1
        have KP62 := KP60.wr W62 (Or.inr sz_b60)
        have N62 := Fr.snoc X62 N0 g_b60
        have V62_b60 : Arv Z h62 b60 c60 .char (8 : Int32) [(.int (nar .char (99 : Int32))), (.int (0 : Int32)), (.int (0 : Int32)), (.int (0 : Int32)), (.int (0 : Int32)), (.int (0 : Int32)), (.int (0 : Int32)), (.int (0 : Int32))] (.int (0 : Int32)) := Arv.set Ar194_61 q194_61 S194_61 N194_61_ H194_61 G194_61 (fits_nar_char _) W62 0 rfl (Nat.le_of_ble_eq_true rfl)
        obtain ⟨cl199_63, Ar199_63, q199_63, S199_63, N199_63_, H199_63, G199_63⟩ := id V62_b60
        have hin199_63 : ¬ ((1 : Int32) < 0 ∨ cl199_63.slots.size ≤ ((1 : Int32)).toNatClampNeg) := inb_of S199_63 ⟨by decide, by decide⟩
        obtain ⟨T64, h64, X64, e64, W64, st64⟩ := stC X62 hx hZ e62 Ar199_63 (j := (1 : Int32)) hin199_63 (g := (mkF m 199 (fL mode lo hi len pos ch (.val (.int (mode &&& (3 : Int32)))) .unset .unset .unset .unset .unset) [(.int (115 : Int32)), (.int (1 : Int32)), (.ref b60), (.ref b60)])) rfl rfl (hb hby at_199)
        have HK64 := Nat.le_trans HK62 (Keep.of_wr W64).1
        have CH64 := CH62.trans (CHr.wr W64 (own_safeA hZ.alike V62_b60 (by decide)) CH62.1)
        have Z64 := Nat.le_trans Z62 (Keep.of_wr W64).1
        have KP64 := KP62.wr W64 (Or.inr sz_b60)
        have N64 := Fr.snoc X64 N62 g_b60
        have V64_b60 : Arv Z h64 b60 c60 .char (8 : Int32) [(.int (nar .char (99 : Int32))), (.int (nar .char (115 : Int32))), (.int (0 : Int32)), (.int (0 : Int32)), (.int (0 : Int32)), (.int (0 : Int32)), (.int (0 : Int32)), (.int (0 : Int32))] (.int (0 : Int32)) := Arv.set Ar199_63 q199_63 S199_63 N199_63_ H199_63 G199_63 (fits_nar_char _) W64 1 rfl (Nat.le_of_ble_eq_true rfl)
        obtain ⟨cl204_65, Ar204_65, q204_65, S204_65, N204_65_, H204_65, G204_65⟩ := id V64_b60
        have hin204_65 : ¬ ((2 : Int32) < 0 ∨ cl204_65.slots.size ≤ ((2 : Int32)).toNatClampNeg) := inb_of S204_65 ⟨by decide, by decide⟩
        obtain ⟨T66, h66, X66, e66, W66, st66⟩ := stC X64 hx hZ e64 Ar204_65 (j := (2 : Int32)) hin204_65 (g := (mkF m 204 (fL mode lo hi len pos ch (.val (.int (mode &&& (3 : Int32)))) .unset .unset .unset .unset .unset) [(.int (118 : Int32)), (.int (2 : Int32)), (.ref b60), (.ref b60)])) rfl rfl (hb hby at_204)
        have HK66 := Nat.le_trans HK64 (Keep.of_wr W66).1
        have CH66 := CH64.trans (CHr.wr W66 (own_safeA hZ.alike V64_b60 (by decide)) CH64.1)
        have Z66 := Nat.le_trans Z64 (Keep.of_wr W66).1
        have KP66 := KP64.wr W66 (Or.inr sz_b60)
        have N66 := Fr.snoc X66 N64 g_b60
        have V66_b60 : Arv Z h66 b60 c60 .char (8 : Int32) [(.int (nar .char (99 : Int32))), (.int (nar .char (115 : Int32))), (.int (nar .char (118 : Int32))), (.int (0 : Int32)), (.int (0 : Int32)), (.int (0 : Int32)), (.int (0 : Int32)), (.int (0 : Int32))] (.int (0 : Int32)) := Arv.set Ar204_65 q204_65 S204_65 N204_65_ H204_65 G204_65 (fits_nar_char _) W66 2 rfl (Nat.le_of_ble_eq_true rfl)
        obtain ⟨cl209_67, Ar209_67, q209_67, S209_67, N209_67_, H209_67, G209_67⟩ := id V66_b60
        have hin209_67 : ¬ ((3 : Int32) < 0 ∨ cl209_67.slots.size ≤ ((3 : Int32)).toNatClampNeg) := inb_of S209_67 ⟨by decide, by decide⟩
        obtain ⟨T68, h68, X68, e68, W68, st68⟩ := stC X66 hx hZ e66 Ar209_67 (j := (3 : Int32)) hin209_67 (g := (mkF m 209 (fL mode lo hi len pos ch (.val (.int (mode &&& (3 : Int32)))) .unset .unset .unset .unset .unset) [(.int (120 : Int32)), (.int (3 : Int32)), (.ref b60), (.ref b60)])) rfl rfl (hb hby at_209)
        have HK68 := Nat.le_trans HK66 (Keep.of_wr W68).1
        have CH68 := CH66.trans (CHr.wr W68 (own_safeA hZ.alike V66_b60 (by decide)) CH66.1)
        have Z68 := Nat.le_trans Z66 (Keep.of_wr W68).1
        have KP68 := KP66.wr W68 (Or.inr sz_b60)
        have N68 := Fr.snoc X68 N66 g_b60
        have V68_b60 : Arv Z h68 b60 c60 .char (8 : Int32) [(.int (nar .char (99 : Int32))), (.int (nar .char (115 : Int32))), (.int (nar .char (118 : Int32))), (.int (nar .char (120 : Int32))), (.int (0 : Int32)), (.int (0 : Int32)), (.int (0 : Int32)), (.int (0 : Int32))] (.int (0 : Int32)) := Arv.set Ar209_67 q209_67 S209_67 N209_67_ H209_67 G209_67 (fits_nar_char _) W68 3 rfl (Nat.le_of_ble_eq_true rfl)
        obtain ⟨cl214_69, Ar214_69, q214_69, S214_69, N214_69_, H214_69, G214_69⟩ := id V68_b60
        have hin214_69 : ¬ ((4 : Int32) < 0 ∨ cl214_69.slots.size ≤ ((4 : Int32)).toNatClampNeg) := inb_of S214_69 ⟨by decide, by decide⟩
        obtain ⟨T70, h70, X70, e70, W70, st70⟩ := stC X68 hx hZ e68 Ar214_69 (j := (4 : Int32)) hin214_69 (g := (mkF m 214 (fL mode lo hi len pos ch (.val (.int (mode &&& (3 : Int32)))) .unset .unset .unset .unset .unset) [(.int (120 : Int32)), (.int (4 : Int32)), (.ref b60), (.ref b60)])) rfl rfl (hb hby at_214)
        have HK70 := Nat.le_trans HK68 (Keep.of_wr W70).1
        have CH70 := CH68.trans (CHr.wr W70 (own_safeA hZ.alike V68_b60 (by decide)) CH68.1)
        have Z70 := Nat.le_trans Z68 (Keep.of_wr W70).1
        have KP70 := KP68.wr W70 (Or.inr sz_b60)
        have N70 := Fr.snoc X70 N68 g_b60
        have V70_b60 : Arv Z h70 b60 c60 .char (8 : Int32) [(.int (nar .char (99 : Int32))), (.int (nar .char (115 : Int32))), (.int (nar .char (118 : Int32))), (.int (nar .char (120 : Int32))), (.int (nar .char (120 : Int32))), (.int (0 : Int32)), (.int (0 : Int32)), (.int (0 : Int32))] (.int (0 : Int32)) := Arv.set Ar214_69 q214_69 S214_69 N214_69_ H214_69 G214_69 (fits_nar_char _) W70 4 rfl (Nat.le_of_ble_eq_true rfl)
        obtain ⟨cl219_71, Ar219_71, q219_71, S219_71, N219_71_, H219_71, G219_71⟩ := id V70_b60
        have hin219_71 : ¬ ((5 : Int32) < 0 ∨ cl219_71.slots.size ≤ ((5 : Int32)).toNatClampNeg) := inb_of S219_71 ⟨by decide, by decide⟩
        obtain ⟨T72, h72, X72, e72, W72, st72⟩ := stC X70 hx hZ e70 Ar219_71 (j := (5 : Int32)) hin219_71 (g := (mkF m 219 (fL mode lo hi len pos ch (.val (.int (mode &&& (3 : Int32)))) .unset .unset .unset .unset .unset) [(.int (120 : Int32)), (.int (5 : Int32)), (.ref b60), (.ref b60)])) rfl rfl (hb hby at_219)
        have HK72 := Nat.le_trans HK70 (Keep.of_wr W72).1
        have CH72 := CH70.trans (CHr.wr W72 (own_safeA hZ.alike V70_b60 (by decide)) CH70.1)
        have Z72 := Nat.le_trans Z70 (Keep.of_wr W72).1
        have KP72 := KP70.wr W72 (Or.inr sz_b60)
        have N72 := Fr.snoc X72 N70 g_b60
        have V72_b60 : Arv Z h72 b60 c60 .char (8 : Int32) [(.int (nar .char (99 : Int32))), (.int (nar .char (115 : Int32))), (.int (nar .char (118 : Int32))), (.int (nar .char (120 : Int32))), (.int (nar .char (120 : Int32))), (.int (nar .char (120 : Int32))), (.int (0 : Int32)), (.int (0 : Int32))] (.int (0 : Int32)) := Arv.set Ar219_71 q219_71 S219_71 N219_71_ H219_71 G219_71 (fits_nar_char _) W72 5 rfl (Nat.le_of_ble_eq_true rfl)
        obtain ⟨cl225_73, Ar225_73, q225_73, S225_73, N225_73_, H225_73, G225_73⟩ := id V72_b60
        have hin225_73 : ¬ ((6 : Int32) < 0 ∨ cl225_73.slots.size ≤ ((6 : Int32)).toNatClampNeg) := inb_of S225_73 ⟨by decide, by decide⟩
        obtain ⟨T74, h74, X74, e74, W74, st74⟩ := stC X72 hx hZ e72 Ar225_73 (j := (6 : Int32)) hin225_73 (g := (mkF m 225 (fL mode lo hi len pos ch (.val (.int (mode &&& (3 : Int32)))) .unset .unset .unset .unset .unset) [(.int (120 : Int32)), (.int (6 : Int32)), (.ref b60), (.ref b60)])) rfl rfl (hb hby at_225)
        have HK74 := Nat.le_trans HK72 (Keep.of_wr W74).1
        have CH74 := CH72.trans (CHr.wr W74 (own_safeA hZ.alike V72_b60 (by decide)) CH72.1)
        have Z74 := Nat.le_trans Z72 (Keep.of_wr W74).1
        have KP74 := KP72.wr W74 (Or.inr sz_b60)
        have N74 := Fr.snoc X74 N72 g_b60
        have V74_b60 : Arv Z h74 b60 c60 .char (8 : Int32) [(.int (nar .char (99 : Int32))), (.int (nar .char (115 : Int32))), (.int (nar .char (118 : Int32))), (.int (nar .char (120 : Int32))), (.int (nar .char (120 : Int32))), (.int (nar .char (120 : Int32))), (.int (nar .char (120 : Int32))), (.int (0 : Int32))] (.int (0 : Int32)) := Arv.set Ar225_73 q225_73 S225_73 N225_73_ H225_73 G225_73 (fits_nar_char _) W74 6 rfl (Nat.le_of_ble_eq_true rfl)
        obtain ⟨cl231_75, Ar231_75, q231_75, S231_75, N231_75_, H231_75, G231_75⟩ := id V74_b60
        have hin231_75 : ¬ ((7 : Int32) < 0 ∨ cl231_75.slots.size ≤ ((7 : Int32)).toNatClampNeg) := inb_of S231_75 ⟨by decide, by decide⟩
        obtain ⟨T76, h76, X76, e76, W76, st76⟩ := stC X74 hx hZ e74 Ar231_75 (j := (7 : Int32)) hin231_75 (g := (mkF m 231 (fL mode lo hi len pos ch (.val (.int (mode &&& (3 : Int32)))) .unset .unset .unset .unset .unset) [(.int (120 : Int32)), (.int (7 : Int32)), (.ref b60), (.ref b60)])) rfl rfl (hb hby at_231)
        have HK76 := Nat.le_trans HK74 (Keep.of_wr W76).1
        have CH76 := CH74.trans (CHr.wr W76 (own_safeA hZ.alike V74_b60 (by decide)) CH74.1)
        have Z76 := Nat.le_trans Z74 (Keep.of_wr W76).1
        have KP76 := KP74.wr W76 (Or.inr sz_b60)
        have N76 := Fr.snoc X76 N74 g_b60
        have V76_b60 : Arv Z h76 b60 c60 .char (8 : Int32) [(.int (nar .char (99 : Int32))), (.int (nar .char (115 : Int32))), (.int (nar .char (118 : Int32))), (.int (nar .char (120 : Int32))), (.int (nar .char (120 : Int32))), (.int (nar .char (120 : Int32))), (.int (nar .char (120 : Int32))), (.int (nar .char (120 : Int32)))] (.int (0 : Int32)) := Arv.set Ar231_75 q231_75 S231_75 N231_75_ H231_75 G231_75 (fits_nar_char _) W76 7 rfl (Nat.le_of_ble_eq_true rfl)
        have k77 : ∀ tg, Steps p.tables e below (T76.setTop (mkF m 297 (fL mode lo hi len pos ch (.val (.int (mode &&& (3 : Int32)))) (.val (.ref b60)) (.val (.int (3 : Int32))) .unset .unset .unset) [(.int ((mode >>> ((2 : Int32) &&& 31)) &&& (1 : Int32)))])) tg → Steps p.tables e below (s₁.setTop (entryFrame m #[(.int mode), (.int lo), (.int hi), (.int len), (.int pos), (.int ch)] maxLocals)) tg := by
          intro tg kt
          refine k58 tg ?_
          refine XS.icmpNo X0.here hx rfl (hb hby at_183) rfl (teq hc59).2 ?_
          refine XS.bipush X0.here hx rfl (hb hby at_186) ?_
          refine st60 _ ?_
          refine XS.dup X60.here hx rfl (hb hby at_190) rfl rfl ?_
          refine XS.iconst X60.here hx rfl (hb hby at_191) ?_
          refine XS.bipush X60.here hx rfl (hb hby at_192) ?_
          show Steps p.tables e below (T60.setTop (mkF m 194 (fL mode lo hi len pos ch (.val (.int (mode &&& (3 : Int32)))) .unset .unset .unset .unset .unset) [(.int (99 : Int32)), (.int (0 : Int32)), (.ref b60), (.ref b60)])) _
          refine st62 _ ?_
          refine XS.dup X62.here hx rfl (hb hby at_195) rfl rfl ?_
          refine XS.iconst X62.here hx rfl (hb hby at_196) ?_
          refine XS.bipush X62.here hx rfl (hb hby at_197) ?_
          show Steps p.tables e below (T62.setTop (mkF m 199 (fL mode lo hi len pos ch (.val (.int (mode &&& (3 : Int32)))) .unset .unset .unset .unset .unset) [(.int (115 : Int32)), (.int (1 : Int32)), (.ref b60), (.ref b60)])) _
          refine st64 _ ?_
          refine XS.dup X64.here hx rfl (hb hby at_200) rfl rfl ?_
          refine XS.iconst X64.here hx rfl (hb hby at_201) ?_
          refine XS.bipush X64.here hx rfl (hb hby at_202) ?_
          show Steps p.tables e below (T64.setTop (mkF m 204 (fL mode lo hi len pos ch (.val (.int (mode &&& (3 : Int32)))) .unset .unset .unset .unset .unset) [(.int (118 : Int32)), (.int (2 : Int32)), (.ref b60), (.ref b60)])) _
          refine st66 _ ?_
          refine XS.dup X66.here hx rfl (hb hby at_205) rfl rfl ?_
          refine XS.iconst X66.here hx rfl (hb hby at_206) ?_
          refine XS.bipush X66.here hx rfl (hb hby at_207) ?_
          show Steps p.tables e below (T66.setTop (mkF m 209 (fL mode lo hi len pos ch (.val (.int (mode &&& (3 : Int32)))) .unset .unset .unset .unset .unset) [(.int (120 : Int32)), (.int (3 : Int32)), (.ref b60), (.ref b60)])) _
          refine st68 _ ?_
          refine XS.dup X68.here hx rfl (hb hby at_210) rfl rfl ?_
          refine XS.iconst X68.here hx rfl (hb hby at_211) ?_
          refine XS.bipush X68.here hx rfl (hb hby at_212) ?_
          show Steps p.tables e below (T68.setTop (mkF m 214 (fL mode lo hi len pos ch (.val (.int (mode &&& (3 : Int32)))) .unset .unset .unset .unset .unset) [(.int (120 : Int32)), (.int (4 : Int32)), (.ref b60), (.ref b60)])) _
          refine st70 _ ?_
          refine XS.dup X70.here hx rfl (hb hby at_215) rfl rfl ?_
          refine XS.iconst X70.here hx rfl (hb hby at_216) ?_
          refine XS.bipush X70.here hx rfl (hb hby at_217) ?_
          show Steps p.tables e below (T70.setTop (mkF m 219 (fL mode lo hi len pos ch (.val (.int (mode &&& (3 : Int32)))) .unset .unset .unset .unset .unset) [(.int (120 : Int32)), (.int (5 : Int32)), (.ref b60), (.ref b60)])) _
          refine st72 _ ?_
          refine XS.dup X72.here hx rfl (hb hby at_220) rfl rfl ?_
          refine XS.bipush X72.here hx rfl (hb hby at_221) ?_
          refine XS.bipush X72.here hx rfl (hb hby at_223) ?_
          show Steps p.tables e below (T72.setTop (mkF m 225 (fL mode lo hi len pos ch (.val (.int (mode &&& (3 : Int32)))) .unset .unset .unset .unset .unset) [(.int (120 : Int32)), (.int (6 : Int32)), (.ref b60), (.ref b60)])) _
          refine st74 _ ?_
          refine XS.dup X74.here hx rfl (hb hby at_226) rfl rfl ?_
          refine XS.bipush X74.here hx rfl (hb hby at_227) ?_
          refine XS.bipush X74.here hx rfl (hb hby at_229) ?_
          show Steps p.tables e below (T74.setTop (mkF m 231 (fL mode lo hi len pos ch (.val (.int (mode &&& (3 : Int32)))) .unset .unset .unset .unset .unset) [(.int (120 : Int32)), (.int (7 : Int32)), (.ref b60), (.ref b60)])) _
          refine st76 _ ?_
          refine XS.astore X76.here hx rfl (hb hby at_232) rfl rfl (l' := (fL mode lo hi len pos ch (.val (.int (mode &&& (3 : Int32)))) (.val (.ref b60)) .unset .unset .unset .unset)) rfl ?_
          refine XS.iconst X76.here hx rfl (hb hby at_234) ?_
          refine XS.istore X76.here hx rfl (hb hby at_235) rfl (l' := (fL mode lo hi len pos ch (.val (.int (mode &&& (3 : Int32)))) (.val (.ref b60)) (.val (.int (3 : Int32))) .unset .unset .unset)) rfl ?_
          show Steps p.tables e below (T76.setTop (mkF m 237 (fL mode lo hi len pos ch (.val (.int (mode &&& (3 : Int32)))) (.val (.ref b60)) (.val (.int (3 : Int32))) .unset .unset .unset) [])) _
          refine XS.goto X76.here hx rfl (pc0 := 237) (pc' := 292) rfl (hb hby at_237) (by decide) (by decide) ?_
          refine XS.iloadN X76.here hx rfl (hb hby at_292) rfl ?_
          refine XS.iconst X76.here hx rfl (hb hby at_293) ?_
          refine XS.ishr X76.here hx rfl (hb hby at_294) rfl ?_
          refine XS.iconst X76.here hx rfl (hb hby at_295) ?_
          show Steps p.tables e below (T76.setTop (mkF m 296 (fL mode lo hi len pos ch (.val (.int (mode &&& (3 : Int32)))) (.val (.ref b60)) (.val (.int (3 : Int32))) .unset .unset .unset) [(.int (1 : Int32)), (.int (mode >>> ((2 : Int32) &&& 31)))])) _
          refine XS.iand X76.here hx rfl (hb hby at_296) rfl ?_
          show Steps p.tables e below (T76.setTop (mkF m 297 (fL mode lo hi len pos ch (.val (.int (mode &&& (3 : Int32)))) (.val (.ref b60)) (.val (.int (3 : Int32))) .unset .unset .unset) [(.int ((mode >>> ((2 : Int32) &&& 31)) &&& (1 : Int32)))])) _
          exact kt
        by_cases hc78 : ((mode >>> ((2 : Int32) &&& 31)) &&& (1 : Int32)) = (0 : Int32)
        · have k79 : ∀ tg, Steps p.tables e below (T76.setTop (mkF m 327 (fL mode lo hi len pos ch (.val (.int (mode &&& (3 : Int32)))) (.val (.ref b60)) (.val (.int (3 : Int32))) .unset .unset .unset) [(.int ((mode >>> ((3 : Int32) &&& 31)) &&& (1 : Int32)))])) tg → Steps p.tables e below (s₁.setTop (entryFrame m #[(.int mode), (.int lo), (.int hi), (.int len), (.int pos), (.int ch)] maxLocals)) tg := by
            intro tg kt
            refine k77 tg ?_
            refine XS.ifYes X76.here hx rfl (pc0 := 297) (pc' := 322) rfl (hb hby at_297) rfl ((if0 _ _).trans (teq hc78).1) (by decide) (by decide) ?_
            refine XS.iloadN X76.here hx rfl (hb hby at_322) rfl ?_
            refine XS.iconst X76.here hx rfl (hb hby at_323) ?_
            refine XS.ishr X76.here hx rfl (hb hby at_324) rfl ?_
            refine XS.iconst X76.here hx rfl (hb hby at_325) ?_
            show Steps p.tables e below (T76.setTop (mkF m 326 (fL mode lo hi len pos ch (.val (.int (mode &&& (3 : Int32)))) (.val (.ref b60)) (.val (.int (3 : Int32))) .unset .unset .unset) [(.int (1 : Int32)), (.int (mode >>> ((3 : Int32) &&& 31)))])) _
            refine XS.iand X76.here hx rfl (hb hby at_326) rfl ?_
            show Steps p.tables e below (T76.setTop (mkF m 327 (fL mode lo hi len pos ch (.val (.int (mode &&& (3 : Int32)))) (.val (.ref b60)) (.val (.int (3 : Int32))) .unset .unset .unset) [(.int ((mode >>> ((3 : Int32) &&& 31)) &&& (1 : Int32)))])) _
            exact kt
          have k83 : ∀ tg, Steps p.tables e below (T76.setTop (mkF m 336 (fL mode lo hi len pos ch (.val (.int (mode &&& (3 : Int32)))) (.val (.ref b60)) (.val (.int (if ((mode >>> ((3 : Int32) &&& 31)) &&& (1 : Int32)) = (0 : Int32) then (3 : Int32) else ((3 : Int32) - (1 : Int32))))) .unset .unset .unset) [])) tg → Steps p.tables e below (s₁.setTop (entryFrame m #[(.int mode), (.int lo), (.int hi), (.int len), (.int pos), (.int ch)] maxLocals)) tg := by
            intro tg kt
            refine k79 tg ?_
            show Steps p.tables e below (T76.setTop (mkF m 327 (fL mode lo hi len pos ch (.val (.int (mode &&& (3 : Int32)))) (.val (.ref b60)) (.val (.int (3 : Int32))) .unset .unset .unset) [(.int ((mode >>> ((3 : Int32) &&& 31)) &&& (1 : Int32)))])) _
            by_cases hc80 : ((mode >>> ((3 : Int32) &&& 31)) &&& (1 : Int32)) = (0 : Int32)
            · refine XS.ifYes X76.here hx rfl (pc0 := 327) (pc' := 336) rfl (hb hby at_327) rfl ((if0 _ _).trans (teq hc80).1) (by decide) (by decide) ?_
              show Steps p.tables e below (T76.setTop (mkF m 336 (fL mode lo hi len pos ch (.val (.int (mode &&& (3 : Int32)))) (.val (.ref b60)) (.val (.int (3 : Int32))) .unset .unset .unset) [])) _
              repeat rw [if_pos hc80] at kt
              exact kt
            · refine XS.ifNo X76.here hx rfl (hb hby at_327) rfl ((if0 _ _).trans (feq hc80).1) ?_
              show Steps p.tables e below (T76.setTop (mkF m 330 (fL mode lo hi len pos ch (.val (.int (mode &&& (3 : Int32)))) (.val (.ref b60)) (.val (.int (3 : Int32))) .unset .unset .unset) [])) _
              refine XS.iload X76.here hx rfl (hb hby at_330) rfl ?_
              show Steps p.tables e below (T76.setTop (mkF m 332 (fL mode lo hi len pos ch (.val (.int (mode &&& (3 : Int32)))) (.val (.ref b60)) (.val (.int (3 : Int32))) .unset .unset .unset) [(.int (3 : Int32))])) _
              refine XS.iconst X76.here hx rfl (hb hby at_332) ?_
              show Steps p.tables e below (T76.setTop (mkF m 333 (fL mode lo hi len pos ch (.val (.int (mode &&& (3 : Int32)))) (.val (.ref b60)) (.val (.int (3 : Int32))) .unset .unset .unset) [(.int (1 : Int32)), (.int (3 : Int32))])) _
              refine XS.isub X76.here hx rfl (hb hby at_333) rfl ?_
              show Steps p.tables e below (T76.setTop (mkF m 334 (fL mode lo hi len pos ch (.val (.int (mode &&& (3 : Int32)))) (.val (.ref b60)) (.val (.int (3 : Int32))) .unset .unset .unset) [(.int ((3 : Int32) - (1 : Int32)))])) _
              refine XS.istore X76.here hx rfl (hb hby at_334) rfl (l' := (fL mode lo hi len pos ch (.val (.int (mode &&& (3 : Int32)))) (.val (.ref b60)) (.val (.int ((3 : Int32) - (1 : Int32)))) .unset .unset .unset)) rfl ?_
              show Steps p.tables e below (T76.setTop (mkF m 336 (fL mode lo hi len pos ch (.val (.int (mode &&& (3 : Int32)))) (.val (.ref b60)) (.val (.int ((3 : Int32) - (1 : Int32)))) .unset .unset .unset) [])) _
              repeat rw [if_neg hc80] at kt
              exact kt
          obtain ⟨z84, ez84⟩ : ∃ z : Int32, z = (if ((mode >>> ((3 : Int32) &&& 31)) &&& (1 : Int32)) = (0 : Int32) then (3 : Int32) else ((3 : Int32) - (1 : Int32))) := ⟨_, rfl⟩
          have k85 : ∀ tg, Steps p.tables e below (T76.setTop (mkF m 336 (fL mode lo hi len pos ch (.val (.int (mode &&& (3 : Int32)))) (.val (.ref b60)) (.val (.int z84)) .unset .unset .unset) [])) tg → Steps p.tables e below (s₁.setTop (entryFrame m #[(.int mode), (.int lo), (.int hi), (.int len), (.int pos), (.int ch)] maxLocals)) tg := by
            intro tg kt
            refine k83 tg ?_
            show Steps p.tables e below (T76.setTop (mkF m 336 (fL mode lo hi len pos ch (.val (.int (mode &&& (3 : Int32)))) (.val (.ref b60)) (.val (.int (if ((mode >>> ((3 : Int32) &&& 31)) &&& (1 : Int32)) = (0 : Int32) then (3 : Int32) else ((3 : Int32) - (1 : Int32))))) .unset .unset .unset) [])) _
            rw [← ez84]
            show Steps p.tables e below (T76.setTop (mkF m 336 (fL mode lo hi len pos ch (.val (.int (mode &&& (3 : Int32)))) (.val (.ref b60)) (.val (.int z84)) .unset .unset .unset) [])) _
            exact kt
          have hz2 : z84 = (3 : Int32) ∨ z84 = (2 : Int32) := by
            rw [ez84]
            split <;> first | exact Or.inl rfl | exact Or.inr (by decide)
          rcases hz2 with rfl | rfl
          · exact tail_3 l Z a0 hw mode lo hi len pos ch (.unset) b60 c60 (nar .char (99 : Int32)) (nar .char (115 : Int32)) (nar .char (118 : Int32)) (nar .char (120 : Int32)) (nar .char (120 : Int32)) (nar .char (120 : Int32)) (nar .char (120 : Int32)) (nar .char (120 : Int32)) cz v_EMPTY vv kv v_NONE n_NONE t_NONE k_NONE v_CSV n_CSV t_CSV k_CSV v_DATABASE n_DATABASE t_DATABASE k_DATABASE h76 n0 Z76 hx hby hml Bd.returns (BodyLoose.notSynchronized Bd) hZ hown X76 e76 N76 hS HK76 CH76.1 (hWd.ext (own_extK KP76)) hcz V76_b60 ⟨by decide, by decide⟩ ⟨by decide, by decide⟩ ⟨by decide, by decide⟩ ⟨by decide, by decide⟩ ⟨by decide, by decide⟩ ⟨by decide, by decide⟩ ⟨by decide, by decide⟩ ⟨by decide, by decide⟩ (fun _ => rfl) k85
          · exact tail_2 l Z a0 hw mode lo hi len pos ch (.unset) b60 c60 (nar .char (99 : Int32)) (nar .char (115 : Int32)) (nar .char (118 : Int32)) (nar .char (120 : Int32)) (nar .char (120 : Int32)) (nar .char (120 : Int32)) (nar .char (120 : Int32)) (nar .char (120 : Int32)) cz v_EMPTY vv kv v_NONE n_NONE t_NONE k_NONE v_CSV n_CSV t_CSV k_CSV v_DATABASE n_DATABASE t_DATABASE k_DATABASE h76 n0 Z76 hx hby hml Bd.returns (BodyLoose.notSynchronized Bd) hZ hown X76 e76 N76 hS HK76 CH76.1 (hWd.ext (own_extK KP76)) hcz V76_b60 ⟨by decide, by decide⟩ ⟨by decide, by decide⟩ ⟨by decide, by decide⟩ ⟨by decide, by decide⟩ ⟨by decide, by decide⟩ ⟨by decide, by decide⟩ ⟨by decide, by decide⟩ ⟨by decide, by decide⟩ (fun _ => rfl) k85
        · obtain ⟨ix, eix⟩ : ∃ z : Int32, z = ((pos &&& (2147483647 : Int32)) % (3 : Int32)) := ⟨_, rfl⟩
          obtain ⟨AI, eAI, lAI⟩ := own_rem pos (3 : Int32) ix 3 (by decide) (by decide) eix
          have hix0 : ¬ ix < 0 := own_ge ix AI eAI
          have hix7 : ix < (8 : Int32) := own_lt8 ix AI eAI (by omega)
          have hix8 : ix.toNatClampNeg < 8 := own_cl8 ix AI eAI (by omega)
          obtain ⟨cl321_86, Ar321_86, q321_86, S321_86, N321_86_, H321_86, G321_86⟩ := id V76_b60
          have hin321_86 : ¬ (ix < 0 ∨ cl321_86.slots.size ≤ (ix).toNatClampNeg) := inb_of S321_86 ⟨hix0, hix7⟩
          obtain ⟨T87, h87, X87, e87, W87, st87⟩ := stC X76 hx hZ e76 Ar321_86 (j := ix) hin321_86 (g := (mkF m 321 (fL mode lo hi len pos ch (.val (.int (mode &&& (3 : Int32)))) (.val (.ref b60)) (.val (.int (3 : Int32))) (.val (.int ix)) .unset .unset) [(.int ((ch &&& (255 : Int32)).toUInt32.toUInt16.toUInt32.toInt32)), (.int ix), (.ref b60)])) rfl rfl (hb hby at_321)
          have HK87 := Nat.le_trans HK76 (Keep.of_wr W87).1
          have CH87 := CH76.trans (CHr.wr W87 (own_safeA hZ.alike V76_b60 (by decide)) CH76.1)
          have Z87 := Nat.le_trans Z76 (Keep.of_wr W87).1
          have KP87 := KP76.wr W87 (Or.inr sz_b60)
          have N87 := Fr.snoc X87 N76 g_b60
          have V87_b60 : Arv Z h87 b60 c60 .char (8 : Int32) ([(.int (nar .char (99 : Int32))), (.int (nar .char (115 : Int32))), (.int (nar .char (118 : Int32))), (.int (nar .char (120 : Int32))), (.int (nar .char (120 : Int32))), (.int (nar .char (120 : Int32))), (.int (nar .char (120 : Int32))), (.int (nar .char (120 : Int32)))].set ix.toNatClampNeg (.int (nar .char ((ch &&& (255 : Int32)).toUInt32.toUInt16.toUInt32.toInt32)))) (.int (0 : Int32)) := Arv.set Ar321_86 q321_86 S321_86 N321_86_ H321_86 G321_86 (fits_nar_char _) W87 ix.toNatClampNeg rfl hix8
          have k88 : ∀ tg, Steps p.tables e below (T87.setTop (mkF m 327 (fL mode lo hi len pos ch (.val (.int (mode &&& (3 : Int32)))) (.val (.ref b60)) (.val (.int (3 : Int32))) (.val (.int ix)) .unset .unset) [(.int ((mode >>> ((3 : Int32) &&& 31)) &&& (1 : Int32)))])) tg → Steps p.tables e below (s₁.setTop (entryFrame m #[(.int mode), (.int lo), (.int hi), (.int len), (.int pos), (.int ch)] maxLocals)) tg := by
            intro tg kt
            refine k77 tg ?_
            refine XS.ifNo X76.here hx rfl (hb hby at_297) rfl ((if0 _ _).trans (feq hc78).1) ?_
            refine XS.iload X76.here hx rfl (hb hby at_300) rfl ?_
            refine X76.ldcInt hx hown (mvT hZ (ww hw 1 rfl)) (g := (mkF m 302 (fL mode lo hi len pos ch (.val (.int (mode &&& (3 : Int32)))) (.val (.ref b60)) (.val (.int (3 : Int32))) .unset .unset .unset) [(.int pos)])) rfl (hb hby at_302) _ ?_
            refine XS.iand X76.here hx rfl (hb hby at_304) rfl ?_
            refine XS.iload X76.here hx rfl (hb hby at_305) rfl ?_
            show Steps p.tables e below (T76.setTop (mkF m 307 (fL mode lo hi len pos ch (.val (.int (mode &&& (3 : Int32)))) (.val (.ref b60)) (.val (.int (3 : Int32))) .unset .unset .unset) [(.int (3 : Int32)), (.int (pos &&& (2147483647 : Int32)))])) _
            refine iremM X76 hx rfl (hb hby at_307) rfl (by decide) ?_
            refine XS.istore X76.here hx rfl (hb hby at_308) rfl (l' := (fL mode lo hi len pos ch (.val (.int (mode &&& (3 : Int32)))) (.val (.ref b60)) (.val (.int (3 : Int32))) (.val (.int ((pos &&& (2147483647 : Int32)) % (3 : Int32)))) .unset .unset)) rfl ?_
            show Steps p.tables e below (T76.setTop (mkF m 310 (fL mode lo hi len pos ch (.val (.int (mode &&& (3 : Int32)))) (.val (.ref b60)) (.val (.int (3 : Int32))) (.val (.int ((pos &&& (2147483647 : Int32)) % (3 : Int32)))) .unset .unset) [])) _
            rw [← eix]
            show Steps p.tables e below (T76.setTop (mkF m 310 (fL mode lo hi len pos ch (.val (.int (mode &&& (3 : Int32)))) (.val (.ref b60)) (.val (.int (3 : Int32))) (.val (.int ix)) .unset .unset) [])) _
            refine XS.aload X76.here hx rfl (hb hby at_310) rfl rfl ?_
            refine XS.iload X76.here hx rfl (hb hby at_312) rfl ?_
            refine XS.iload X76.here hx rfl (hb hby at_314) rfl ?_
            refine XS.sipush X76.here hx rfl (hb hby at_316) ?_
            show Steps p.tables e below (T76.setTop (mkF m 319 (fL mode lo hi len pos ch (.val (.int (mode &&& (3 : Int32)))) (.val (.ref b60)) (.val (.int (3 : Int32))) (.val (.int ix)) .unset .unset) [(.int (255 : Int32)), (.int ch), (.int ix), (.ref b60)])) _
            refine XS.iand X76.here hx rfl (hb hby at_319) rfl ?_
            refine XS.i2c X76.here hx rfl (hb hby at_320) rfl ?_
            refine st87 _ ?_
            refine XS.iloadN X87.here hx rfl (hb hby at_322) rfl ?_
            refine XS.iconst X87.here hx rfl (hb hby at_323) ?_
            refine XS.ishr X87.here hx rfl (hb hby at_324) rfl ?_
            refine XS.iconst X87.here hx rfl (hb hby at_325) ?_
            show Steps p.tables e below (T87.setTop (mkF m 326 (fL mode lo hi len pos ch (.val (.int (mode &&& (3 : Int32)))) (.val (.ref b60)) (.val (.int (3 : Int32))) (.val (.int ix)) .unset .unset) [(.int (1 : Int32)), (.int (mode >>> ((3 : Int32) &&& 31)))])) _
            refine XS.iand X87.here hx rfl (hb hby at_326) rfl ?_
            show Steps p.tables e below (T87.setTop (mkF m 327 (fL mode lo hi len pos ch (.val (.int (mode &&& (3 : Int32)))) (.val (.ref b60)) (.val (.int (3 : Int32))) (.val (.int ix)) .unset .unset) [(.int ((mode >>> ((3 : Int32) &&& 31)) &&& (1 : Int32)))])) _
            exact kt
          have k92 : ∀ tg, Steps p.tables e below (T87.setTop (mkF m 336 (fL mode lo hi len pos ch (.val (.int (mode &&& (3 : Int32)))) (.val (.ref b60)) (.val (.int (if ((mode >>> ((3 : Int32) &&& 31)) &&& (1 : Int32)) = (0 : Int32) then (3 : Int32) else ((3 : Int32) - (1 : Int32))))) (.val (.int ix)) .unset .unset) [])) tg → Steps p.tables e below (s₁.setTop (entryFrame m #[(.int mode), (.int lo), (.int hi), (.int len), (.int pos), (.int ch)] maxLocals)) tg := by
            intro tg kt
            refine k88 tg ?_
            show Steps p.tables e below (T87.setTop (mkF m 327 (fL mode lo hi len pos ch (.val (.int (mode &&& (3 : Int32)))) (.val (.ref b60)) (.val (.int (3 : Int32))) (.val (.int ix)) .unset .unset) [(.int ((mode >>> ((3 : Int32) &&& 31)) &&& (1 : Int32)))])) _
            by_cases hc89 : ((mode >>> ((3 : Int32) &&& 31)) &&& (1 : Int32)) = (0 : Int32)
            · refine XS.ifYes X87.here hx rfl (pc0 := 327) (pc' := 336) rfl (hb hby at_327) rfl ((if0 _ _).trans (teq hc89).1) (by decide) (by decide) ?_
              show Steps p.tables e below (T87.setTop (mkF m 336 (fL mode lo hi len pos ch (.val (.int (mode &&& (3 : Int32)))) (.val (.ref b60)) (.val (.int (3 : Int32))) (.val (.int ix)) .unset .unset) [])) _
              repeat rw [if_pos hc89] at kt
              exact kt
            · refine XS.ifNo X87.here hx rfl (hb hby at_327) rfl ((if0 _ _).trans (feq hc89).1) ?_
              show Steps p.tables e below (T87.setTop (mkF m 330 (fL mode lo hi len pos ch (.val (.int (mode &&& (3 : Int32)))) (.val (.ref b60)) (.val (.int (3 : Int32))) (.val (.int ix)) .unset .unset) [])) _
              refine XS.iload X87.here hx rfl (hb hby at_330) rfl ?_
              show Steps p.tables e below (T87.setTop (mkF m 332 (fL mode lo hi len pos ch (.val (.int (mode &&& (3 : Int32)))) (.val (.ref b60)) (.val (.int (3 : Int32))) (.val (.int ix)) .unset .unset) [(.int (3 : Int32))])) _
              refine XS.iconst X87.here hx rfl (hb hby at_332) ?_
              show Steps p.tables e below (T87.setTop (mkF m 333 (fL mode lo hi len pos ch (.val (.int (mode &&& (3 : Int32)))) (.val (.ref b60)) (.val (.int (3 : Int32))) (.val (.int ix)) .unset .unset) [(.int (1 : Int32)), (.int (3 : Int32))])) _
              refine XS.isub X87.here hx rfl (hb hby at_333) rfl ?_
              show Steps p.tables e below (T87.setTop (mkF m 334 (fL mode lo hi len pos ch (.val (.int (mode &&& (3 : Int32)))) (.val (.ref b60)) (.val (.int (3 : Int32))) (.val (.int ix)) .unset .unset) [(.int ((3 : Int32) - (1 : Int32)))])) _
              refine XS.istore X87.here hx rfl (hb hby at_334) rfl (l' := (fL mode lo hi len pos ch (.val (.int (mode &&& (3 : Int32)))) (.val (.ref b60)) (.val (.int ((3 : Int32) - (1 : Int32)))) (.val (.int ix)) .unset .unset)) rfl ?_
              show Steps p.tables e below (T87.setTop (mkF m 336 (fL mode lo hi len pos ch (.val (.int (mode &&& (3 : Int32)))) (.val (.ref b60)) (.val (.int ((3 : Int32) - (1 : Int32)))) (.val (.int ix)) .unset .unset) [])) _
              repeat rw [if_neg hc89] at kt
              exact kt
          obtain ⟨z93, ez93⟩ : ∃ z : Int32, z = (if ((mode >>> ((3 : Int32) &&& 31)) &&& (1 : Int32)) = (0 : Int32) then (3 : Int32) else ((3 : Int32) - (1 : Int32))) := ⟨_, rfl⟩
          have k94 : ∀ tg, Steps p.tables e below (T87.setTop (mkF m 336 (fL mode lo hi len pos ch (.val (.int (mode &&& (3 : Int32)))) (.val (.ref b60)) (.val (.int z93)) (.val (.int ix)) .unset .unset) [])) tg → Steps p.tables e below (s₁.setTop (entryFrame m #[(.int mode), (.int lo), (.int hi), (.int len), (.int pos), (.int ch)] maxLocals)) tg := by
            intro tg kt
            refine k92 tg ?_
            show Steps p.tables e below (T87.setTop (mkF m 336 (fL mode lo hi len pos ch (.val (.int (mode &&& (3 : Int32)))) (.val (.ref b60)) (.val (.int (if ((mode >>> ((3 : Int32) &&& 31)) &&& (1 : Int32)) = (0 : Int32) then (3 : Int32) else ((3 : Int32) - (1 : Int32))))) (.val (.int ix)) .unset .unset) [])) _
            rw [← ez93]
            show Steps p.tables e below (T87.setTop (mkF m 336 (fL mode lo hi len pos ch (.val (.int (mode &&& (3 : Int32)))) (.val (.ref b60)) (.val (.int z93)) (.val (.int ix)) .unset .unset) [])) _
            exact kt
          obtain ⟨d0, d1, d2, d3, d4, d5, d6, d7, hl8, oo0, oo1, oo2, oo3, oo4, oo5, oo6, oo7⟩ := own_set8 (nar .char (99 : Int32)) (nar .char (115 : Int32)) (nar .char (118 : Int32)) (nar .char (120 : Int32)) (nar .char (120 : Int32)) (nar .char (120 : Int32)) (nar .char (120 : Int32)) (nar .char (120 : Int32)) (nar .char ((ch &&& (255 : Int32)).toUInt32.toUInt16.toUInt32.toInt32)) ix.toNatClampNeg hix8 ⟨by decide, by decide⟩ ⟨by decide, by decide⟩ ⟨by decide, by decide⟩ ⟨by decide, by decide⟩ ⟨by decide, by decide⟩ ⟨by decide, by decide⟩ ⟨by decide, by decide⟩ ⟨by decide, by decide⟩ (own_ok255 _)
          have V8 : Arv Z h87 b60 c60 .char (8 : Int32) [(.int d0), (.int d1), (.int d2), (.int d3), (.int d4), (.int d5), (.int d6), (.int d7)] (.int (0 : Int32)) := by
            have q := V87_b60
            rw [hl8] at q
            exact q
          have hz2 : z93 = (3 : Int32) ∨ z93 = (2 : Int32) := by
            rw [ez93]
            split <;> first | exact Or.inl rfl | exact Or.inr (by decide)
          rcases hz2 with rfl | rfl
          · exact tail_3 l Z a0 hw mode lo hi len pos ch (.val (.int ix)) b60 c60 d0 d1 d2 d3 d4 d5 d6 d7 cz v_EMPTY vv kv v_NONE n_NONE t_NONE k_NONE v_CSV n_CSV t_CSV k_CSV v_DATABASE n_DATABASE t_DATABASE k_DATABASE h87 n0 Z87 hx hby hml Bd.returns (BodyLoose.notSynchronized Bd) hZ hown X87 e87 N87 hS HK87 CH87.1 (hWd.ext (own_extK KP87)) hcz V8 oo0 oo1 oo2 oo3 oo4 oo5 oo6 oo7 (fun _ => rfl) k94
          · exact tail_2 l Z a0 hw mode lo hi len pos ch (.val (.int ix)) b60 c60 d0 d1 d2 d3 d4 d5 d6 d7 cz v_EMPTY vv kv v_NONE n_NONE t_NONE k_NONE v_CSV n_CSV t_CSV k_CSV v_DATABASE n_DATABASE t_DATABASE k_DATABASE h87 n0 Z87 hx hby hml Bd.returns (BodyLoose.notSynchronized Bd) hZ hown X87 e87 N87 hS HK87 CH87.1 (hWd.ext (own_extK KP87)) hcz V8 oo0 oo1 oo2 oo3 oo4 oo5 oo6 oo7 (fun _ => rfl) k94
      · obtain ⟨T95, h95, c95, X95, e95, E95, A95, st95⟩ := newP X0 hx hZ (ww hw 0 rfl) e0 (g := (mkF m 242 (fL mode lo hi len pos ch (.val (.int (mode &&& (3 : Int32)))) .unset .unset .unset .unset .unset) [(.int (8 : Int32))])) rfl (hb hby at_242) rfl (by decide) (cap := 8) (by decide) (by decide) (by decide) (by decide)
        obtain ⟨b95, g95⟩ : ∃ z, z = h0.size := ⟨_, rfl⟩
        have g_b95 : n0 ≤ b95 := Nat.le_trans Z0 (Nat.le_of_eq g95.symm)
        have sz_b95 : h0.size ≤ b95 := Nat.le_trans (Keep.refl h0 []).1 (Nat.le_of_eq g95.symm)
        rw [← g95] at A95 st95
        have HK95 := Nat.le_trans HK0 E95.1
        have CH95 := CH0.trans (CHr.ext E95 CH0.1)
        have Z95 := Nat.le_trans Z0 E95.1
        have KP95 := (Keep.refl h0 []).ext E95
        have V_b95 : Arv Z h95 b95 c95 .char (8 : Int32) [(.int (0 : Int32)), (.int (0 : Int32)), (.int (0 : Int32)), (.int (0 : Int32)), (.int (0 : Int32)), (.int (0 : Int32)), (.int (0 : Int32)), (.int (0 : Int32))] (.int (0 : Int32)) := (Arv.new A95 (by decide)).pad (pad_rep [] (.int (0 : Int32)) 8)
        obtain ⟨cl248_96, Ar248_96, q248_96, S248_96, N248_96_, H248_96, G248_96⟩ := id V_b95
        have hin248_96 : ¬ ((0 : Int32) < 0 ∨ cl248_96.slots.size ≤ ((0 : Int32)).toNatClampNeg) := inb_of S248_96 ⟨by decide, by decide⟩
        obtain ⟨T97, h97, X97, e97, W97, st97⟩ := stC X95 hx hZ e95 Ar248_96 (j := (0 : Int32)) hin248_96 (g := (mkF m 248 (fL mode lo hi len pos ch (.val (.int (mode &&& (3 : Int32)))) .unset .unset .unset .unset .unset) [(.int (100 : Int32)), (.int (0 : Int32)), (.ref b95), (.ref b95)])) rfl rfl (hb hby at_248)
        have HK97 := Nat.le_trans HK95 (Keep.of_wr W97).1
        have CH97 := CH95.trans (CHr.wr W97 (own_safeA hZ.alike V_b95 (by decide)) CH95.1)
        have Z97 := Nat.le_trans Z95 (Keep.of_wr W97).1
        have KP97 := KP95.wr W97 (Or.inr sz_b95)
        have N97 := Fr.snoc X97 N0 g_b95
        have V97_b95 : Arv Z h97 b95 c95 .char (8 : Int32) [(.int (nar .char (100 : Int32))), (.int (0 : Int32)), (.int (0 : Int32)), (.int (0 : Int32)), (.int (0 : Int32)), (.int (0 : Int32)), (.int (0 : Int32)), (.int (0 : Int32))] (.int (0 : Int32)) := Arv.set Ar248_96 q248_96 S248_96 N248_96_ H248_96 G248_96 (fits_nar_char _) W97 0 rfl (Nat.le_of_ble_eq_true rfl)
        obtain ⟨cl253_98, Ar253_98, q253_98, S253_98, N253_98_, H253_98, G253_98⟩ := id V97_b95
        have hin253_98 : ¬ ((1 : Int32) < 0 ∨ cl253_98.slots.size ≤ ((1 : Int32)).toNatClampNeg) := inb_of S253_98 ⟨by decide, by decide⟩
        obtain ⟨T99, h99, X99, e99, W99, st99⟩ := stC X97 hx hZ e97 Ar253_98 (j := (1 : Int32)) hin253_98 (g := (mkF m 253 (fL mode lo hi len pos ch (.val (.int (mode &&& (3 : Int32)))) .unset .unset .unset .unset .unset) [(.int (97 : Int32)), (.int (1 : Int32)), (.ref b95), (.ref b95)])) rfl rfl (hb hby at_253)
        have HK99 := Nat.le_trans HK97 (Keep.of_wr W99).1
        have CH99 := CH97.trans (CHr.wr W99 (own_safeA hZ.alike V97_b95 (by decide)) CH97.1)
        have Z99 := Nat.le_trans Z97 (Keep.of_wr W99).1
        have KP99 := KP97.wr W99 (Or.inr sz_b95)
        have N99 := Fr.snoc X99 N97 g_b95
        have V99_b95 : Arv Z h99 b95 c95 .char (8 : Int32) [(.int (nar .char (100 : Int32))), (.int (nar .char (97 : Int32))), (.int (0 : Int32)), (.int (0 : Int32)), (.int (0 : Int32)), (.int (0 : Int32)), (.int (0 : Int32)), (.int (0 : Int32))] (.int (0 : Int32)) := Arv.set Ar253_98 q253_98 S253_98 N253_98_ H253_98 G253_98 (fits_nar_char _) W99 1 rfl (Nat.le_of_ble_eq_true rfl)
        obtain ⟨cl258_100, Ar258_100, q258_100, S258_100, N258_100_, H258_100, G258_100⟩ := id V99_b95
        have hin258_100 : ¬ ((2 : Int32) < 0 ∨ cl258_100.slots.size ≤ ((2 : Int32)).toNatClampNeg) := inb_of S258_100 ⟨by decide, by decide⟩
        obtain ⟨T101, h101, X101, e101, W101, st101⟩ := stC X99 hx hZ e99 Ar258_100 (j := (2 : Int32)) hin258_100 (g := (mkF m 258 (fL mode lo hi len pos ch (.val (.int (mode &&& (3 : Int32)))) .unset .unset .unset .unset .unset) [(.int (116 : Int32)), (.int (2 : Int32)), (.ref b95), (.ref b95)])) rfl rfl (hb hby at_258)
        have HK101 := Nat.le_trans HK99 (Keep.of_wr W101).1
        have CH101 := CH99.trans (CHr.wr W101 (own_safeA hZ.alike V99_b95 (by decide)) CH99.1)
        have Z101 := Nat.le_trans Z99 (Keep.of_wr W101).1
        have KP101 := KP99.wr W101 (Or.inr sz_b95)
        have N101 := Fr.snoc X101 N99 g_b95
        have V101_b95 : Arv Z h101 b95 c95 .char (8 : Int32) [(.int (nar .char (100 : Int32))), (.int (nar .char (97 : Int32))), (.int (nar .char (116 : Int32))), (.int (0 : Int32)), (.int (0 : Int32)), (.int (0 : Int32)), (.int (0 : Int32)), (.int (0 : Int32))] (.int (0 : Int32)) := Arv.set Ar258_100 q258_100 S258_100 N258_100_ H258_100 G258_100 (fits_nar_char _) W101 2 rfl (Nat.le_of_ble_eq_true rfl)
        obtain ⟨cl263_102, Ar263_102, q263_102, S263_102, N263_102_, H263_102, G263_102⟩ := id V101_b95
        have hin263_102 : ¬ ((3 : Int32) < 0 ∨ cl263_102.slots.size ≤ ((3 : Int32)).toNatClampNeg) := inb_of S263_102 ⟨by decide, by decide⟩
        obtain ⟨T103, h103, X103, e103, W103, st103⟩ := stC X101 hx hZ e101 Ar263_102 (j := (3 : Int32)) hin263_102 (g := (mkF m 263 (fL mode lo hi len pos ch (.val (.int (mode &&& (3 : Int32)))) .unset .unset .unset .unset .unset) [(.int (97 : Int32)), (.int (3 : Int32)), (.ref b95), (.ref b95)])) rfl rfl (hb hby at_263)
        have HK103 := Nat.le_trans HK101 (Keep.of_wr W103).1
        have CH103 := CH101.trans (CHr.wr W103 (own_safeA hZ.alike V101_b95 (by decide)) CH101.1)
        have Z103 := Nat.le_trans Z101 (Keep.of_wr W103).1
        have KP103 := KP101.wr W103 (Or.inr sz_b95)
        have N103 := Fr.snoc X103 N101 g_b95
        have V103_b95 : Arv Z h103 b95 c95 .char (8 : Int32) [(.int (nar .char (100 : Int32))), (.int (nar .char (97 : Int32))), (.int (nar .char (116 : Int32))), (.int (nar .char (97 : Int32))), (.int (0 : Int32)), (.int (0 : Int32)), (.int (0 : Int32)), (.int (0 : Int32))] (.int (0 : Int32)) := Arv.set Ar263_102 q263_102 S263_102 N263_102_ H263_102 G263_102 (fits_nar_char _) W103 3 rfl (Nat.le_of_ble_eq_true rfl)
        obtain ⟨cl268_104, Ar268_104, q268_104, S268_104, N268_104_, H268_104, G268_104⟩ := id V103_b95
        have hin268_104 : ¬ ((4 : Int32) < 0 ∨ cl268_104.slots.size ≤ ((4 : Int32)).toNatClampNeg) := inb_of S268_104 ⟨by decide, by decide⟩
        obtain ⟨T105, h105, X105, e105, W105, st105⟩ := stC X103 hx hZ e103 Ar268_104 (j := (4 : Int32)) hin268_104 (g := (mkF m 268 (fL mode lo hi len pos ch (.val (.int (mode &&& (3 : Int32)))) .unset .unset .unset .unset .unset) [(.int (98 : Int32)), (.int (4 : Int32)), (.ref b95), (.ref b95)])) rfl rfl (hb hby at_268)
        have HK105 := Nat.le_trans HK103 (Keep.of_wr W105).1
        have CH105 := CH103.trans (CHr.wr W105 (own_safeA hZ.alike V103_b95 (by decide)) CH103.1)
        have Z105 := Nat.le_trans Z103 (Keep.of_wr W105).1
        have KP105 := KP103.wr W105 (Or.inr sz_b95)
        have N105 := Fr.snoc X105 N103 g_b95
        have V105_b95 : Arv Z h105 b95 c95 .char (8 : Int32) [(.int (nar .char (100 : Int32))), (.int (nar .char (97 : Int32))), (.int (nar .char (116 : Int32))), (.int (nar .char (97 : Int32))), (.int (nar .char (98 : Int32))), (.int (0 : Int32)), (.int (0 : Int32)), (.int (0 : Int32))] (.int (0 : Int32)) := Arv.set Ar268_104 q268_104 S268_104 N268_104_ H268_104 G268_104 (fits_nar_char _) W105 4 rfl (Nat.le_of_ble_eq_true rfl)
        obtain ⟨cl273_106, Ar273_106, q273_106, S273_106, N273_106_, H273_106, G273_106⟩ := id V105_b95
        have hin273_106 : ¬ ((5 : Int32) < 0 ∨ cl273_106.slots.size ≤ ((5 : Int32)).toNatClampNeg) := inb_of S273_106 ⟨by decide, by decide⟩
        obtain ⟨T107, h107, X107, e107, W107, st107⟩ := stC X105 hx hZ e105 Ar273_106 (j := (5 : Int32)) hin273_106 (g := (mkF m 273 (fL mode lo hi len pos ch (.val (.int (mode &&& (3 : Int32)))) .unset .unset .unset .unset .unset) [(.int (97 : Int32)), (.int (5 : Int32)), (.ref b95), (.ref b95)])) rfl rfl (hb hby at_273)
        have HK107 := Nat.le_trans HK105 (Keep.of_wr W107).1
        have CH107 := CH105.trans (CHr.wr W107 (own_safeA hZ.alike V105_b95 (by decide)) CH105.1)
        have Z107 := Nat.le_trans Z105 (Keep.of_wr W107).1
        have KP107 := KP105.wr W107 (Or.inr sz_b95)
        have N107 := Fr.snoc X107 N105 g_b95
        have V107_b95 : Arv Z h107 b95 c95 .char (8 : Int32) [(.int (nar .char (100 : Int32))), (.int (nar .char (97 : Int32))), (.int (nar .char (116 : Int32))), (.int (nar .char (97 : Int32))), (.int (nar .char (98 : Int32))), (.int (nar .char (97 : Int32))), (.int (0 : Int32)), (.int (0 : Int32))] (.int (0 : Int32)) := Arv.set Ar273_106 q273_106 S273_106 N273_106_ H273_106 G273_106 (fits_nar_char _) W107 5 rfl (Nat.le_of_ble_eq_true rfl)
        obtain ⟨cl279_108, Ar279_108, q279_108, S279_108, N279_108_, H279_108, G279_108⟩ := id V107_b95
        have hin279_108 : ¬ ((6 : Int32) < 0 ∨ cl279_108.slots.size ≤ ((6 : Int32)).toNatClampNeg) := inb_of S279_108 ⟨by decide, by decide⟩
        obtain ⟨T109, h109, X109, e109, W109, st109⟩ := stC X107 hx hZ e107 Ar279_108 (j := (6 : Int32)) hin279_108 (g := (mkF m 279 (fL mode lo hi len pos ch (.val (.int (mode &&& (3 : Int32)))) .unset .unset .unset .unset .unset) [(.int (115 : Int32)), (.int (6 : Int32)), (.ref b95), (.ref b95)])) rfl rfl (hb hby at_279)
        have HK109 := Nat.le_trans HK107 (Keep.of_wr W109).1
        have CH109 := CH107.trans (CHr.wr W109 (own_safeA hZ.alike V107_b95 (by decide)) CH107.1)
        have Z109 := Nat.le_trans Z107 (Keep.of_wr W109).1
        have KP109 := KP107.wr W109 (Or.inr sz_b95)
        have N109 := Fr.snoc X109 N107 g_b95
        have V109_b95 : Arv Z h109 b95 c95 .char (8 : Int32) [(.int (nar .char (100 : Int32))), (.int (nar .char (97 : Int32))), (.int (nar .char (116 : Int32))), (.int (nar .char (97 : Int32))), (.int (nar .char (98 : Int32))), (.int (nar .char (97 : Int32))), (.int (nar .char (115 : Int32))), (.int (0 : Int32))] (.int (0 : Int32)) := Arv.set Ar279_108 q279_108 S279_108 N279_108_ H279_108 G279_108 (fits_nar_char _) W109 6 rfl (Nat.le_of_ble_eq_true rfl)
        obtain ⟨cl285_110, Ar285_110, q285_110, S285_110, N285_110_, H285_110, G285_110⟩ := id V109_b95
        have hin285_110 : ¬ ((7 : Int32) < 0 ∨ cl285_110.slots.size ≤ ((7 : Int32)).toNatClampNeg) := inb_of S285_110 ⟨by decide, by decide⟩
        obtain ⟨T111, h111, X111, e111, W111, st111⟩ := stC X109 hx hZ e109 Ar285_110 (j := (7 : Int32)) hin285_110 (g := (mkF m 285 (fL mode lo hi len pos ch (.val (.int (mode &&& (3 : Int32)))) .unset .unset .unset .unset .unset) [(.int (101 : Int32)), (.int (7 : Int32)), (.ref b95), (.ref b95)])) rfl rfl (hb hby at_285)
        have HK111 := Nat.le_trans HK109 (Keep.of_wr W111).1
        have CH111 := CH109.trans (CHr.wr W111 (own_safeA hZ.alike V109_b95 (by decide)) CH109.1)
        have Z111 := Nat.le_trans Z109 (Keep.of_wr W111).1
        have KP111 := KP109.wr W111 (Or.inr sz_b95)
        have N111 := Fr.snoc X111 N109 g_b95
        have V111_b95 : Arv Z h111 b95 c95 .char (8 : Int32) [(.int (nar .char (100 : Int32))), (.int (nar .char (97 : Int32))), (.int (nar .char (116 : Int32))), (.int (nar .char (97 : Int32))), (.int (nar .char (98 : Int32))), (.int (nar .char (97 : Int32))), (.int (nar .char (115 : Int32))), (.int (nar .char (101 : Int32)))] (.int (0 : Int32)) := Arv.set Ar285_110 q285_110 S285_110 N285_110_ H285_110 G285_110 (fits_nar_char _) W111 7 rfl (Nat.le_of_ble_eq_true rfl)
        have k112 : ∀ tg, Steps p.tables e below (T111.setTop (mkF m 297 (fL mode lo hi len pos ch (.val (.int (mode &&& (3 : Int32)))) (.val (.ref b95)) (.val (.int (8 : Int32))) .unset .unset .unset) [(.int ((mode >>> ((2 : Int32) &&& 31)) &&& (1 : Int32)))])) tg → Steps p.tables e below (s₁.setTop (entryFrame m #[(.int mode), (.int lo), (.int hi), (.int len), (.int pos), (.int ch)] maxLocals)) tg := by
          intro tg kt
          refine k58 tg ?_
          refine XS.icmpYes X0.here hx rfl (pc0 := 183) (pc' := 240) rfl (hb hby at_183) rfl (feq hc59).2 (by decide) (by decide) ?_
          refine XS.bipush X0.here hx rfl (hb hby at_240) ?_
          refine st95 _ ?_
          refine XS.dup X95.here hx rfl (hb hby at_244) rfl rfl ?_
          refine XS.iconst X95.here hx rfl (hb hby at_245) ?_
          refine XS.bipush X95.here hx rfl (hb hby at_246) ?_
          show Steps p.tables e below (T95.setTop (mkF m 248 (fL mode lo hi len pos ch (.val (.int (mode &&& (3 : Int32)))) .unset .unset .unset .unset .unset) [(.int (100 : Int32)), (.int (0 : Int32)), (.ref b95), (.ref b95)])) _
          refine st97 _ ?_
          refine XS.dup X97.here hx rfl (hb hby at_249) rfl rfl ?_
          refine XS.iconst X97.here hx rfl (hb hby at_250) ?_
          refine XS.bipush X97.here hx rfl (hb hby at_251) ?_
          show Steps p.tables e below (T97.setTop (mkF m 253 (fL mode lo hi len pos ch (.val (.int (mode &&& (3 : Int32)))) .unset .unset .unset .unset .unset) [(.int (97 : Int32)), (.int (1 : Int32)), (.ref b95), (.ref b95)])) _
          refine st99 _ ?_
          refine XS.dup X99.here hx rfl (hb hby at_254) rfl rfl ?_
          refine XS.iconst X99.here hx rfl (hb hby at_255) ?_
          refine XS.bipush X99.here hx rfl (hb hby at_256) ?_
          show Steps p.tables e below (T99.setTop (mkF m 258 (fL mode lo hi len pos ch (.val (.int (mode &&& (3 : Int32)))) .unset .unset .unset .unset .unset) [(.int (116 : Int32)), (.int (2 : Int32)), (.ref b95), (.ref b95)])) _
          refine st101 _ ?_
          refine XS.dup X101.here hx rfl (hb hby at_259) rfl rfl ?_
          refine XS.iconst X101.here hx rfl (hb hby at_260) ?_
          refine XS.bipush X101.here hx rfl (hb hby at_261) ?_
          show Steps p.tables e below (T101.setTop (mkF m 263 (fL mode lo hi len pos ch (.val (.int (mode &&& (3 : Int32)))) .unset .unset .unset .unset .unset) [(.int (97 : Int32)), (.int (3 : Int32)), (.ref b95), (.ref b95)])) _
          refine st103 _ ?_
          refine XS.dup X103.here hx rfl (hb hby at_264) rfl rfl ?_
          refine XS.iconst X103.here hx rfl (hb hby at_265) ?_
          refine XS.bipush X103.here hx rfl (hb hby at_266) ?_
          show Steps p.tables e below (T103.setTop (mkF m 268 (fL mode lo hi len pos ch (.val (.int (mode &&& (3 : Int32)))) .unset .unset .unset .unset .unset) [(.int (98 : Int32)), (.int (4 : Int32)), (.ref b95), (.ref b95)])) _
          refine st105 _ ?_
          refine XS.dup X105.here hx rfl (hb hby at_269) rfl rfl ?_
          refine XS.iconst X105.here hx rfl (hb hby at_270) ?_
          refine XS.bipush X105.here hx rfl (hb hby at_271) ?_
          show Steps p.tables e below (T105.setTop (mkF m 273 (fL mode lo hi len pos ch (.val (.int (mode &&& (3 : Int32)))) .unset .unset .unset .unset .unset) [(.int (97 : Int32)), (.int (5 : Int32)), (.ref b95), (.ref b95)])) _
          refine st107 _ ?_
          refine XS.dup X107.here hx rfl (hb hby at_274) rfl rfl ?_
          refine XS.bipush X107.here hx rfl (hb hby at_275) ?_
          refine XS.bipush X107.here hx rfl (hb hby at_277) ?_
          show Steps p.tables e below (T107.setTop (mkF m 279 (fL mode lo hi len pos ch (.val (.int (mode &&& (3 : Int32)))) .unset .unset .unset .unset .unset) [(.int (115 : Int32)), (.int (6 : Int32)), (.ref b95), (.ref b95)])) _
          refine st109 _ ?_
          refine XS.dup X109.here hx rfl (hb hby at_280) rfl rfl ?_
          refine XS.bipush X109.here hx rfl (hb hby at_281) ?_
          refine XS.bipush X109.here hx rfl (hb hby at_283) ?_
          show Steps p.tables e below (T109.setTop (mkF m 285 (fL mode lo hi len pos ch (.val (.int (mode &&& (3 : Int32)))) .unset .unset .unset .unset .unset) [(.int (101 : Int32)), (.int (7 : Int32)), (.ref b95), (.ref b95)])) _
          refine st111 _ ?_
          refine XS.astore X111.here hx rfl (hb hby at_286) rfl rfl (l' := (fL mode lo hi len pos ch (.val (.int (mode &&& (3 : Int32)))) (.val (.ref b95)) .unset .unset .unset .unset)) rfl ?_
          refine XS.bipush X111.here hx rfl (hb hby at_288) ?_
          refine XS.istore X111.here hx rfl (hb hby at_290) rfl (l' := (fL mode lo hi len pos ch (.val (.int (mode &&& (3 : Int32)))) (.val (.ref b95)) (.val (.int (8 : Int32))) .unset .unset .unset)) rfl ?_
          show Steps p.tables e below (T111.setTop (mkF m 292 (fL mode lo hi len pos ch (.val (.int (mode &&& (3 : Int32)))) (.val (.ref b95)) (.val (.int (8 : Int32))) .unset .unset .unset) [])) _
          refine XS.iloadN X111.here hx rfl (hb hby at_292) rfl ?_
          refine XS.iconst X111.here hx rfl (hb hby at_293) ?_
          refine XS.ishr X111.here hx rfl (hb hby at_294) rfl ?_
          refine XS.iconst X111.here hx rfl (hb hby at_295) ?_
          show Steps p.tables e below (T111.setTop (mkF m 296 (fL mode lo hi len pos ch (.val (.int (mode &&& (3 : Int32)))) (.val (.ref b95)) (.val (.int (8 : Int32))) .unset .unset .unset) [(.int (1 : Int32)), (.int (mode >>> ((2 : Int32) &&& 31)))])) _
          refine XS.iand X111.here hx rfl (hb hby at_296) rfl ?_
          show Steps p.tables e below (T111.setTop (mkF m 297 (fL mode lo hi len pos ch (.val (.int (mode &&& (3 : Int32)))) (.val (.ref b95)) (.val (.int (8 : Int32))) .unset .unset .unset) [(.int ((mode >>> ((2 : Int32) &&& 31)) &&& (1 : Int32)))])) _
          exact kt
        by_cases hc113 : ((mode >>> ((2 : Int32) &&& 31)) &&& (1 : Int32)) = (0 : Int32)
        · have k114 : ∀ tg, Steps p.tables e below (T111.setTop (mkF m 327 (fL mode lo hi len pos ch (.val (.int (mode &&& (3 : Int32)))) (.val (.ref b95)) (.val (.int (8 : Int32))) .unset .unset .unset) [(.int ((mode >>> ((3 : Int32) &&& 31)) &&& (1 : Int32)))])) tg → Steps p.tables e below (s₁.setTop (entryFrame m #[(.int mode), (.int lo), (.int hi), (.int len), (.int pos), (.int ch)] maxLocals)) tg := by
            intro tg kt
            refine k112 tg ?_
            refine XS.ifYes X111.here hx rfl (pc0 := 297) (pc' := 322) rfl (hb hby at_297) rfl ((if0 _ _).trans (teq hc113).1) (by decide) (by decide) ?_
            refine XS.iloadN X111.here hx rfl (hb hby at_322) rfl ?_
            refine XS.iconst X111.here hx rfl (hb hby at_323) ?_
            refine XS.ishr X111.here hx rfl (hb hby at_324) rfl ?_
            refine XS.iconst X111.here hx rfl (hb hby at_325) ?_
            show Steps p.tables e below (T111.setTop (mkF m 326 (fL mode lo hi len pos ch (.val (.int (mode &&& (3 : Int32)))) (.val (.ref b95)) (.val (.int (8 : Int32))) .unset .unset .unset) [(.int (1 : Int32)), (.int (mode >>> ((3 : Int32) &&& 31)))])) _
            refine XS.iand X111.here hx rfl (hb hby at_326) rfl ?_
            show Steps p.tables e below (T111.setTop (mkF m 327 (fL mode lo hi len pos ch (.val (.int (mode &&& (3 : Int32)))) (.val (.ref b95)) (.val (.int (8 : Int32))) .unset .unset .unset) [(.int ((mode >>> ((3 : Int32) &&& 31)) &&& (1 : Int32)))])) _
            exact kt
          have k118 : ∀ tg, Steps p.tables e below (T111.setTop (mkF m 336 (fL mode lo hi len pos ch (.val (.int (mode &&& (3 : Int32)))) (.val (.ref b95)) (.val (.int (if ((mode >>> ((3 : Int32) &&& 31)) &&& (1 : Int32)) = (0 : Int32) then (8 : Int32) else ((8 : Int32) - (1 : Int32))))) .unset .unset .unset) [])) tg → Steps p.tables e below (s₁.setTop (entryFrame m #[(.int mode), (.int lo), (.int hi), (.int len), (.int pos), (.int ch)] maxLocals)) tg := by
            intro tg kt
            refine k114 tg ?_
            show Steps p.tables e below (T111.setTop (mkF m 327 (fL mode lo hi len pos ch (.val (.int (mode &&& (3 : Int32)))) (.val (.ref b95)) (.val (.int (8 : Int32))) .unset .unset .unset) [(.int ((mode >>> ((3 : Int32) &&& 31)) &&& (1 : Int32)))])) _
            by_cases hc115 : ((mode >>> ((3 : Int32) &&& 31)) &&& (1 : Int32)) = (0 : Int32)
            · refine XS.ifYes X111.here hx rfl (pc0 := 327) (pc' := 336) rfl (hb hby at_327) rfl ((if0 _ _).trans (teq hc115).1) (by decide) (by decide) ?_
              show Steps p.tables e below (T111.setTop (mkF m 336 (fL mode lo hi len pos ch (.val (.int (mode &&& (3 : Int32)))) (.val (.ref b95)) (.val (.int (8 : Int32))) .unset .unset .unset) [])) _
              repeat rw [if_pos hc115] at kt
              exact kt
            · refine XS.ifNo X111.here hx rfl (hb hby at_327) rfl ((if0 _ _).trans (feq hc115).1) ?_
              show Steps p.tables e below (T111.setTop (mkF m 330 (fL mode lo hi len pos ch (.val (.int (mode &&& (3 : Int32)))) (.val (.ref b95)) (.val (.int (8 : Int32))) .unset .unset .unset) [])) _
              refine XS.iload X111.here hx rfl (hb hby at_330) rfl ?_
              show Steps p.tables e below (T111.setTop (mkF m 332 (fL mode lo hi len pos ch (.val (.int (mode &&& (3 : Int32)))) (.val (.ref b95)) (.val (.int (8 : Int32))) .unset .unset .unset) [(.int (8 : Int32))])) _
              refine XS.iconst X111.here hx rfl (hb hby at_332) ?_
              show Steps p.tables e below (T111.setTop (mkF m 333 (fL mode lo hi len pos ch (.val (.int (mode &&& (3 : Int32)))) (.val (.ref b95)) (.val (.int (8 : Int32))) .unset .unset .unset) [(.int (1 : Int32)), (.int (8 : Int32))])) _
              refine XS.isub X111.here hx rfl (hb hby at_333) rfl ?_
              show Steps p.tables e below (T111.setTop (mkF m 334 (fL mode lo hi len pos ch (.val (.int (mode &&& (3 : Int32)))) (.val (.ref b95)) (.val (.int (8 : Int32))) .unset .unset .unset) [(.int ((8 : Int32) - (1 : Int32)))])) _
              refine XS.istore X111.here hx rfl (hb hby at_334) rfl (l' := (fL mode lo hi len pos ch (.val (.int (mode &&& (3 : Int32)))) (.val (.ref b95)) (.val (.int ((8 : Int32) - (1 : Int32)))) .unset .unset .unset)) rfl ?_
              show Steps p.tables e below (T111.setTop (mkF m 336 (fL mode lo hi len pos ch (.val (.int (mode &&& (3 : Int32)))) (.val (.ref b95)) (.val (.int ((8 : Int32) - (1 : Int32)))) .unset .unset .unset) [])) _
              repeat rw [if_neg hc115] at kt
              exact kt
          obtain ⟨z119, ez119⟩ : ∃ z : Int32, z = (if ((mode >>> ((3 : Int32) &&& 31)) &&& (1 : Int32)) = (0 : Int32) then (8 : Int32) else ((8 : Int32) - (1 : Int32))) := ⟨_, rfl⟩
          have k120 : ∀ tg, Steps p.tables e below (T111.setTop (mkF m 336 (fL mode lo hi len pos ch (.val (.int (mode &&& (3 : Int32)))) (.val (.ref b95)) (.val (.int z119)) .unset .unset .unset) [])) tg → Steps p.tables e below (s₁.setTop (entryFrame m #[(.int mode), (.int lo), (.int hi), (.int len), (.int pos), (.int ch)] maxLocals)) tg := by
            intro tg kt
            refine k118 tg ?_
            show Steps p.tables e below (T111.setTop (mkF m 336 (fL mode lo hi len pos ch (.val (.int (mode &&& (3 : Int32)))) (.val (.ref b95)) (.val (.int (if ((mode >>> ((3 : Int32) &&& 31)) &&& (1 : Int32)) = (0 : Int32) then (8 : Int32) else ((8 : Int32) - (1 : Int32))))) .unset .unset .unset) [])) _
            rw [← ez119]
            show Steps p.tables e below (T111.setTop (mkF m 336 (fL mode lo hi len pos ch (.val (.int (mode &&& (3 : Int32)))) (.val (.ref b95)) (.val (.int z119)) .unset .unset .unset) [])) _
            exact kt
          have hz2 : z119 = (8 : Int32) ∨ z119 = (7 : Int32) := by
            rw [ez119]
            split <;> first | exact Or.inl rfl | exact Or.inr (by decide)
          rcases hz2 with rfl | rfl
          · exact tail_8 l Z a0 hw mode lo hi len pos ch (.unset) b95 c95 (nar .char (100 : Int32)) (nar .char (97 : Int32)) (nar .char (116 : Int32)) (nar .char (97 : Int32)) (nar .char (98 : Int32)) (nar .char (97 : Int32)) (nar .char (115 : Int32)) (nar .char (101 : Int32)) cz v_EMPTY vv kv v_NONE n_NONE t_NONE k_NONE v_CSV n_CSV t_CSV k_CSV v_DATABASE n_DATABASE t_DATABASE k_DATABASE h111 n0 Z111 hx hby hml Bd.returns (BodyLoose.notSynchronized Bd) hZ hown X111 e111 N111 hS HK111 CH111.1 (hWd.ext (own_extK KP111)) hcz V111_b95 ⟨by decide, by decide⟩ ⟨by decide, by decide⟩ ⟨by decide, by decide⟩ ⟨by decide, by decide⟩ ⟨by decide, by decide⟩ ⟨by decide, by decide⟩ ⟨by decide, by decide⟩ ⟨by decide, by decide⟩ (fun _ => rfl) k120
          · exact tail_7 l Z a0 hw mode lo hi len pos ch (.unset) b95 c95 (nar .char (100 : Int32)) (nar .char (97 : Int32)) (nar .char (116 : Int32)) (nar .char (97 : Int32)) (nar .char (98 : Int32)) (nar .char (97 : Int32)) (nar .char (115 : Int32)) (nar .char (101 : Int32)) cz v_EMPTY vv kv v_NONE n_NONE t_NONE k_NONE v_CSV n_CSV t_CSV k_CSV v_DATABASE n_DATABASE t_DATABASE k_DATABASE h111 n0 Z111 hx hby hml Bd.returns (BodyLoose.notSynchronized Bd) hZ hown X111 e111 N111 hS HK111 CH111.1 (hWd.ext (own_extK KP111)) hcz V111_b95 ⟨by decide, by decide⟩ ⟨by decide, by decide⟩ ⟨by decide, by decide⟩ ⟨by decide, by decide⟩ ⟨by decide, by decide⟩ ⟨by decide, by decide⟩ ⟨by decide, by decide⟩ ⟨by decide, by decide⟩ (fun _ => rfl) k120
        · obtain ⟨ix, eix⟩ : ∃ z : Int32, z = ((pos &&& (2147483647 : Int32)) % (8 : Int32)) := ⟨_, rfl⟩
          obtain ⟨AI, eAI, lAI⟩ := own_rem pos (8 : Int32) ix 8 (by decide) (by decide) eix
          have hix0 : ¬ ix < 0 := own_ge ix AI eAI
          have hix7 : ix < (8 : Int32) := own_lt8 ix AI eAI (by omega)
          have hix8 : ix.toNatClampNeg < 8 := own_cl8 ix AI eAI (by omega)
          obtain ⟨cl321_121, Ar321_121, q321_121, S321_121, N321_121_, H321_121, G321_121⟩ := id V111_b95
          have hin321_121 : ¬ (ix < 0 ∨ cl321_121.slots.size ≤ (ix).toNatClampNeg) := inb_of S321_121 ⟨hix0, hix7⟩
          obtain ⟨T122, h122, X122, e122, W122, st122⟩ := stC X111 hx hZ e111 Ar321_121 (j := ix) hin321_121 (g := (mkF m 321 (fL mode lo hi len pos ch (.val (.int (mode &&& (3 : Int32)))) (.val (.ref b95)) (.val (.int (8 : Int32))) (.val (.int ix)) .unset .unset) [(.int ((ch &&& (255 : Int32)).toUInt32.toUInt16.toUInt32.toInt32)), (.int ix), (.ref b95)])) rfl rfl (hb hby at_321)
          have HK122 := Nat.le_trans HK111 (Keep.of_wr W122).1
          have CH122 := CH111.trans (CHr.wr W122 (own_safeA hZ.alike V111_b95 (by decide)) CH111.1)
          have Z122 := Nat.le_trans Z111 (Keep.of_wr W122).1
          have KP122 := KP111.wr W122 (Or.inr sz_b95)
          have N122 := Fr.snoc X122 N111 g_b95
          have V122_b95 : Arv Z h122 b95 c95 .char (8 : Int32) ([(.int (nar .char (100 : Int32))), (.int (nar .char (97 : Int32))), (.int (nar .char (116 : Int32))), (.int (nar .char (97 : Int32))), (.int (nar .char (98 : Int32))), (.int (nar .char (97 : Int32))), (.int (nar .char (115 : Int32))), (.int (nar .char (101 : Int32)))].set ix.toNatClampNeg (.int (nar .char ((ch &&& (255 : Int32)).toUInt32.toUInt16.toUInt32.toInt32)))) (.int (0 : Int32)) := Arv.set Ar321_121 q321_121 S321_121 N321_121_ H321_121 G321_121 (fits_nar_char _) W122 ix.toNatClampNeg rfl hix8
          have k123 : ∀ tg, Steps p.tables e below (T122.setTop (mkF m 327 (fL mode lo hi len pos ch (.val (.int (mode &&& (3 : Int32)))) (.val (.ref b95)) (.val (.int (8 : Int32))) (.val (.int ix)) .unset .unset) [(.int ((mode >>> ((3 : Int32) &&& 31)) &&& (1 : Int32)))])) tg → Steps p.tables e below (s₁.setTop (entryFrame m #[(.int mode), (.int lo), (.int hi), (.int len), (.int pos), (.int ch)] maxLocals)) tg := by
            intro tg kt
            refine k112 tg ?_
            refine XS.ifNo X111.here hx rfl (hb hby at_297) rfl ((if0 _ _).trans (feq hc113).1) ?_
            refine XS.iload X111.here hx rfl (hb hby at_300) rfl ?_
            refine X111.ldcInt hx hown (mvT hZ (ww hw 1 rfl)) (g := (mkF m 302 (fL mode lo hi len pos ch (.val (.int (mode &&& (3 : Int32)))) (.val (.ref b95)) (.val (.int (8 : Int32))) .unset .unset .unset) [(.int pos)])) rfl (hb hby at_302) _ ?_
            refine XS.iand X111.here hx rfl (hb hby at_304) rfl ?_
            refine XS.iload X111.here hx rfl (hb hby at_305) rfl ?_
            show Steps p.tables e below (T111.setTop (mkF m 307 (fL mode lo hi len pos ch (.val (.int (mode &&& (3 : Int32)))) (.val (.ref b95)) (.val (.int (8 : Int32))) .unset .unset .unset) [(.int (8 : Int32)), (.int (pos &&& (2147483647 : Int32)))])) _
            refine iremM X111 hx rfl (hb hby at_307) rfl (by decide) ?_
            refine XS.istore X111.here hx rfl (hb hby at_308) rfl (l' := (fL mode lo hi len pos ch (.val (.int (mode &&& (3 : Int32)))) (.val (.ref b95)) (.val (.int (8 : Int32))) (.val (.int ((pos &&& (2147483647 : Int32)) % (8 : Int32)))) .unset .unset)) rfl ?_
            show Steps p.tables e below (T111.setTop (mkF m 310 (fL mode lo hi len pos ch (.val (.int (mode &&& (3 : Int32)))) (.val (.ref b95)) (.val (.int (8 : Int32))) (.val (.int ((pos &&& (2147483647 : Int32)) % (8 : Int32)))) .unset .unset) [])) _
            rw [← eix]
            show Steps p.tables e below (T111.setTop (mkF m 310 (fL mode lo hi len pos ch (.val (.int (mode &&& (3 : Int32)))) (.val (.ref b95)) (.val (.int (8 : Int32))) (.val (.int ix)) .unset .unset) [])) _
            refine XS.aload X111.here hx rfl (hb hby at_310) rfl rfl ?_
            refine XS.iload X111.here hx rfl (hb hby at_312) rfl ?_
            refine XS.iload X111.here hx rfl (hb hby at_314) rfl ?_
            refine XS.sipush X111.here hx rfl (hb hby at_316) ?_
            show Steps p.tables e below (T111.setTop (mkF m 319 (fL mode lo hi len pos ch (.val (.int (mode &&& (3 : Int32)))) (.val (.ref b95)) (.val (.int (8 : Int32))) (.val (.int ix)) .unset .unset) [(.int (255 : Int32)), (.int ch), (.int ix), (.ref b95)])) _
            refine XS.iand X111.here hx rfl (hb hby at_319) rfl ?_
            refine XS.i2c X111.here hx rfl (hb hby at_320) rfl ?_
            refine st122 _ ?_
            refine XS.iloadN X122.here hx rfl (hb hby at_322) rfl ?_
            refine XS.iconst X122.here hx rfl (hb hby at_323) ?_
            refine XS.ishr X122.here hx rfl (hb hby at_324) rfl ?_
            refine XS.iconst X122.here hx rfl (hb hby at_325) ?_
            show Steps p.tables e below (T122.setTop (mkF m 326 (fL mode lo hi len pos ch (.val (.int (mode &&& (3 : Int32)))) (.val (.ref b95)) (.val (.int (8 : Int32))) (.val (.int ix)) .unset .unset) [(.int (1 : Int32)), (.int (mode >>> ((3 : Int32) &&& 31)))])) _
            refine XS.iand X122.here hx rfl (hb hby at_326) rfl ?_
            show Steps p.tables e below (T122.setTop (mkF m 327 (fL mode lo hi len pos ch (.val (.int (mode &&& (3 : Int32)))) (.val (.ref b95)) (.val (.int (8 : Int32))) (.val (.int ix)) .unset .unset) [(.int ((mode >>> ((3 : Int32) &&& 31)) &&& (1 : Int32)))])) _
            exact kt
          have k127 : ∀ tg, Steps p.tables e below (T122.setTop (mkF m 336 (fL mode lo hi len pos ch (.val (.int (mode &&& (3 : Int32)))) (.val (.ref b95)) (.val (.int (if ((mode >>> ((3 : Int32) &&& 31)) &&& (1 : Int32)) = (0 : Int32) then (8 : Int32) else ((8 : Int32) - (1 : Int32))))) (.val (.int ix)) .unset .unset) [])) tg → Steps p.tables e below (s₁.setTop (entryFrame m #[(.int mode), (.int lo), (.int hi), (.int len), (.int pos), (.int ch)] maxLocals)) tg := by
            intro tg kt
            refine k123 tg ?_
            show Steps p.tables e below (T122.setTop (mkF m 327 (fL mode lo hi len pos ch (.val (.int (mode &&& (3 : Int32)))) (.val (.ref b95)) (.val (.int (8 : Int32))) (.val (.int ix)) .unset .unset) [(.int ((mode >>> ((3 : Int32) &&& 31)) &&& (1 : Int32)))])) _
            by_cases hc124 : ((mode >>> ((3 : Int32) &&& 31)) &&& (1 : Int32)) = (0 : Int32)
            · refine XS.ifYes X122.here hx rfl (pc0 := 327) (pc' := 336) rfl (hb hby at_327) rfl ((if0 _ _).trans (teq hc124).1) (by decide) (by decide) ?_
              show Steps p.tables e below (T122.setTop (mkF m 336 (fL mode lo hi len pos ch (.val (.int (mode &&& (3 : Int32)))) (.val (.ref b95)) (.val (.int (8 : Int32))) (.val (.int ix)) .unset .unset) [])) _
              repeat rw [if_pos hc124] at kt
              exact kt
            · refine XS.ifNo X122.here hx rfl (hb hby at_327) rfl ((if0 _ _).trans (feq hc124).1) ?_
              show Steps p.tables e below (T122.setTop (mkF m 330 (fL mode lo hi len pos ch (.val (.int (mode &&& (3 : Int32)))) (.val (.ref b95)) (.val (.int (8 : Int32))) (.val (.int ix)) .unset .unset) [])) _
              refine XS.iload X122.here hx rfl (hb hby at_330) rfl ?_
              show Steps p.tables e below (T122.setTop (mkF m 332 (fL mode lo hi len pos ch (.val (.int (mode &&& (3 : Int32)))) (.val (.ref b95)) (.val (.int (8 : Int32))) (.val (.int ix)) .unset .unset) [(.int (8 : Int32))])) _
              refine XS.iconst X122.here hx rfl (hb hby at_332) ?_
              show Steps p.tables e below (T122.setTop (mkF m 333 (fL mode lo hi len pos ch (.val (.int (mode &&& (3 : Int32)))) (.val (.ref b95)) (.val (.int (8 : Int32))) (.val (.int ix)) .unset .unset) [(.int (1 : Int32)), (.int (8 : Int32))])) _
              refine XS.isub X122.here hx rfl (hb hby at_333) rfl ?_
              show Steps p.tables e below (T122.setTop (mkF m 334 (fL mode lo hi len pos ch (.val (.int (mode &&& (3 : Int32)))) (.val (.ref b95)) (.val (.int (8 : Int32))) (.val (.int ix)) .unset .unset) [(.int ((8 : Int32) - (1 : Int32)))])) _
              refine XS.istore X122.here hx rfl (hb hby at_334) rfl (l' := (fL mode lo hi len pos ch (.val (.int (mode &&& (3 : Int32)))) (.val (.ref b95)) (.val (.int ((8 : Int32) - (1 : Int32)))) (.val (.int ix)) .unset .unset)) rfl ?_
              show Steps p.tables e below (T122.setTop (mkF m 336 (fL mode lo hi len pos ch (.val (.int (mode &&& (3 : Int32)))) (.val (.ref b95)) (.val (.int ((8 : Int32) - (1 : Int32)))) (.val (.int ix)) .unset .unset) [])) _
              repeat rw [if_neg hc124] at kt
              exact kt
          obtain ⟨z128, ez128⟩ : ∃ z : Int32, z = (if ((mode >>> ((3 : Int32) &&& 31)) &&& (1 : Int32)) = (0 : Int32) then (8 : Int32) else ((8 : Int32) - (1 : Int32))) := ⟨_, rfl⟩
          have k129 : ∀ tg, Steps p.tables e below (T122.setTop (mkF m 336 (fL mode lo hi len pos ch (.val (.int (mode &&& (3 : Int32)))) (.val (.ref b95)) (.val (.int z128)) (.val (.int ix)) .unset .unset) [])) tg → Steps p.tables e below (s₁.setTop (entryFrame m #[(.int mode), (.int lo), (.int hi), (.int len), (.int pos), (.int ch)] maxLocals)) tg := by
            intro tg kt
            refine k127 tg ?_
            show Steps p.tables e below (T122.setTop (mkF m 336 (fL mode lo hi len pos ch (.val (.int (mode &&& (3 : Int32)))) (.val (.ref b95)) (.val (.int (if ((mode >>> ((3 : Int32) &&& 31)) &&& (1 : Int32)) = (0 : Int32) then (8 : Int32) else ((8 : Int32) - (1 : Int32))))) (.val (.int ix)) .unset .unset) [])) _
            rw [← ez128]
            show Steps p.tables e below (T122.setTop (mkF m 336 (fL mode lo hi len pos ch (.val (.int (mode &&& (3 : Int32)))) (.val (.ref b95)) (.val (.int z128)) (.val (.int ix)) .unset .unset) [])) _
            exact kt
          obtain ⟨d0, d1, d2, d3, d4, d5, d6, d7, hl8, oo0, oo1, oo2, oo3, oo4, oo5, oo6, oo7⟩ := own_set8 (nar .char (100 : Int32)) (nar .char (97 : Int32)) (nar .char (116 : Int32)) (nar .char (97 : Int32)) (nar .char (98 : Int32)) (nar .char (97 : Int32)) (nar .char (115 : Int32)) (nar .char (101 : Int32)) (nar .char ((ch &&& (255 : Int32)).toUInt32.toUInt16.toUInt32.toInt32)) ix.toNatClampNeg hix8 ⟨by decide, by decide⟩ ⟨by decide, by decide⟩ ⟨by decide, by decide⟩ ⟨by decide, by decide⟩ ⟨by decide, by decide⟩ ⟨by decide, by decide⟩ ⟨by decide, by decide⟩ ⟨by decide, by decide⟩ (own_ok255 _)
          have V8 : Arv Z h122 b95 c95 .char (8 : Int32) [(.int d0), (.int d1), (.int d2), (.int d3), (.int d4), (.int d5), (.int d6), (.int d7)] (.int (0 : Int32)) := by
            have q := V122_b95
            rw [hl8] at q
            exact q
          have hz2 : z128 = (8 : Int32) ∨ z128 = (7 : Int32) := by
            rw [ez128]
            split <;> first | exact Or.inl rfl | exact Or.inr (by decide)
          rcases hz2 with rfl | rfl
          · exact tail_8 l Z a0 hw mode lo hi len pos ch (.val (.int ix)) b95 c95 d0 d1 d2 d3 d4 d5 d6 d7 cz v_EMPTY vv kv v_NONE n_NONE t_NONE k_NONE v_CSV n_CSV t_CSV k_CSV v_DATABASE n_DATABASE t_DATABASE k_DATABASE h122 n0 Z122 hx hby hml Bd.returns (BodyLoose.notSynchronized Bd) hZ hown X122 e122 N122 hS HK122 CH122.1 (hWd.ext (own_extK KP122)) hcz V8 oo0 oo1 oo2 oo3 oo4 oo5 oo6 oo7 (fun _ => rfl) k129
          · exact tail_7 l Z a0 hw mode lo hi len pos ch (.val (.int ix)) b95 c95 d0 d1 d2 d3 d4 d5 d6 d7 cz v_EMPTY vv kv v_NONE n_NONE t_NONE k_NONE v_CSV n_CSV t_CSV k_CSV v_DATABASE n_DATABASE t_DATABASE k_DATABASE h122 n0 Z122 hx hby hml Bd.returns (BodyLoose.notSynchronized Bd) hZ hown X122 e122 N122 hS HK122 CH122.1 (hWd.ext (own_extK KP122)) hcz V8 oo0 oo1 oo2 oo3 oo4 oo5 oo6 oo7 (fun _ => rfl) k129
set_option maxRecDepth 65536 in
set_option maxHeartbeats 40000000 in
theorem comes_1 {Post : Tables → Env → Array Value → State → Outcome → State → Prop} (hpost : ∀ tb e args s v u, (limb_1_1.after args s (.returned v) u = true ∧ limb_1_2.after args s (.returned v) u = true ∧ True) → Jvm.D.FramedW s (.returned v) u (Jvm.fieldLocs frame_1_writes args s ++ Jvm.arrayLocs frame_1_arrays args s ++ Jvm.staticLocs frame_1_statics s) 32 4288 → Post tb e args s (.returned v) u) :
    ArmFor flags0 classFile x code maxLocals ret World_1 tables_1 room_1 Calls_1 rest_1 Pre_1 Post := by
  intro l hfl _ _ p e ha hc hk s m args below hf hA hF happ hP
  obtain ⟨hcalls, hrest, hpre⟩ := hP
  obtain ⟨-, -, -, hnamed, -, -, -, hat⟩ := (Spec.applies_iff hf).mp happ
  obtain ⟨hg, hn⟩ := and_e (Cond.before_iff.mp (show (Jvm.Cond.and given_1 narrow_1).before args s = true from hpre))
  obtain ⟨g1, g2⟩ := and_e hg
  obtain ⟨g3, g4⟩ := and_e g2
  obtain ⟨g5, g6⟩ := and_e g4
  obtain ⟨g7, g8⟩ := and_e g6
  obtain ⟨g9, g10⟩ := and_e g8
  obtain ⟨g11, g12⟩ := and_e g10
  obtain ⟨w0, w1, w2, w3, w4, w5, rfl⟩ : ∃ w0 w1 w2 w3 w4 w5 : Value, args = #[w0, w1, w2, w3, w4, w5] := by
    have hs : args.size = 6 := by simpa [Cond.value, given_1] using g1
    obtain ⟨L⟩ := args
    match L, hs with
    | [w0, w1, w2, w3, w4, w5], _ => exact ⟨w0, w1, w2, w3, w4, w5, rfl⟩
  have hw := fun d (hd : d ∈ tables_1) => atoms_spec (ws := Jvm.Cond.code x code maxLocals ret :: tables_1) hat d (List.mem_cons_of_mem _ hd)
  have hfit : Fit s := fun {y c} hc i hi => by
    obtain ⟨ha, rfl⟩ := Array.getElem?_eq_some_iff.mp hc
    have q := List.all_eq_true.mp ((Array.all_eq_true_iff_forall_mem.mp hF) _ (Array.getElem_mem ha)) i (List.mem_range.mpr hi)
    simpa [Array.getElem?_eq_getElem hi] using q
  obtain ⟨hsets, hown0⟩ := atoms_of _ (rest_1_c_eq ▸ (show rest_1_c.before _ s = true from hrest))
  have hr0 := Cond.before_iff.mp hown0
  obtain ⟨i0, ei0⟩ := is_v g3
  obtain rfl : w0 = (.int i0) := Option.some.inj ei0
  obtain ⟨i1, ei1⟩ := is_v g5
  obtain rfl : w1 = (.int i1) := Option.some.inj ei1
  obtain ⟨i2, ei2⟩ := is_v g7
  obtain rfl : w2 = (.int i2) := Option.some.inj ei2
  obtain ⟨i3, ei3⟩ := is_v g9
  obtain rfl : w3 = (.int i3) := Option.some.inj ei3
  obtain ⟨i4, ei4⟩ := is_v g11
  obtain rfl : w4 = (.int i4) := Option.some.inj ei4
  obtain ⟨i5, ei5⟩ := is_v g12
  obtain rfl : w5 = (.int i5) := Option.some.inj ei5
  obtain ⟨cz, ecz⟩ := is_v (Cond.before_iff.mp (hsets _ (List.mem_of_getElem? (i := 1) rfl)))
  have S_cs : Sta s s.heap "java/lang/String" "COMPACT_STRINGS" "Z" (.int cz) := Sta.start ecz (Or.inl (hsets _ (List.mem_of_getElem? (i := 0) rfl)))
  have hcz : ¬ (cz = (0 : Int32)) := gotF (Cond.eq_ints ecz (Term.int_eval (0))) (not_v (Cond.before_iff.mp (hsets _ (List.mem_of_getElem? (i := 2) rfl))))
  have hCH : CHv s ELs s.vm s.heap := CHv.start (own_EW hw) (fun q hq => hcalls.1 q ((by decide : ∀ q ∈ ELs, q ∈ consts_1) q hq)) (hsets _ (List.mem_of_getElem? (i := 2) rfl)) (ww hw 24 rfl) (ww hw 7 rfl)
  have exE := Cond.before_iff.mp (hsets _ (List.mem_of_getElem? (i := 11) rfl))
  obtain ⟨v_EMPTY, ev_EM⟩ := exa_v exE
  have E_EM := Exa.start ev_EM exE
  have S_EM := Sta.start ev_EM (Or.inl (hsets _ (List.mem_of_getElem? (i := 10) rfl)))
  have F_EM := Fld.start ((fld_at ev_EM).symm.trans (own_eqN (Cond.before_iff.mp (hsets _ (List.mem_of_getElem? (i := 12) rfl)))))
  obtain ⟨nn1, nn2⟩ := and_e hn
  obtain ⟨nn3, nn4⟩ := and_e nn2
  obtain ⟨nn5, nn6⟩ := and_e nn4
  obtain ⟨nn7, nn8⟩ := and_e nn6
  obtain ⟨nn9, nn10⟩ := and_e nn8
  obtain ⟨nn11, nn12⟩ := and_e nn10
  obtain ⟨nn13, nn14⟩ := and_e nn12
  obtain ⟨nn15, nn16⟩ := and_e nn14
  obtain ⟨nn17, nn18⟩ := and_e nn16
  obtain ⟨nn19, nn20⟩ := and_e nn18
  obtain ⟨nn21, nn22⟩ := and_e nn20
  obtain ⟨nn23, nn24⟩ := and_e nn22
  obtain ⟨nn25, nn26⟩ := and_e nn24
  obtain ⟨nn27, nn28⟩ := and_e nn26
  obtain ⟨nn29, nn30⟩ := and_e nn28
  obtain ⟨nn31, nn32⟩ := and_e nn30
  obtain ⟨nn33, nn34⟩ := and_e nn32
  obtain ⟨nn35, nn36⟩ := and_e nn34
  obtain ⟨nn37, nn38⟩ := and_e nn36
  obtain ⟨nn39, nn40⟩ := and_e nn38
  obtain ⟨nn41, nn42⟩ := and_e nn40
  obtain ⟨nn43, nn44⟩ := and_e nn42
  obtain ⟨nn45, nn46⟩ := and_e nn44
  obtain ⟨nn47, nn48⟩ := and_e nn46
  obtain ⟨nn49, nn50⟩ := and_e nn48
  obtain ⟨nn51, nn52⟩ := and_e nn50
  obtain ⟨nn53, nn54⟩ := and_e nn52
  obtain ⟨nn55, nn56⟩ := and_e nn54
  obtain ⟨nn57, nn58⟩ := and_e nn56
  obtain ⟨nn59, nn60⟩ := and_e nn58
  obtain ⟨nn61, nn62⟩ := and_e nn60
  obtain ⟨nn63, nn64⟩ := and_e nn62
  obtain ⟨nn65, nn66⟩ := and_e nn64
  obtain ⟨nn67, nn68⟩ := and_e nn66
  obtain ⟨nn69, nn70⟩ := and_e nn68
  obtain ⟨vv, ev_VAL⟩ := exa_v nn3
  have E_VAL := Exa.start ev_VAL nn3
  have S_VAL := Sta.start ev_VAL (Or.inr ⟨(ww hw 52 rfl), (ww hw 63 rfl)⟩)
  obtain ⟨v_NONE, ev_NONE⟩ := exa_v nn7
  have E_NONE := Exa.start ev_NONE nn7
  have S_NONE := Sta.start ev_NONE (Or.inr ⟨(ww hw 52 rfl), (ww hw 71 rfl)⟩)
  obtain ⟨n_NONE, en_NONE⟩ := exa_v nn19
  have En_NONE := Exa.start en_NONE nn19
  have F_NONE := Fld.start ((fld_at ev_NONE).symm.trans en_NONE)
  have Cn_NONE := Fld.start ((fld_at en_NONE).symm.trans (own_eqv nn21))
  have hl_NONE := own_eqv nn25
  obtain ⟨t_NONE, et_NONE⟩ := len_v hl_NONE
  have Vn_NONE := Fld.start ((fld_at en_NONE).symm.trans et_NONE)
  obtain ⟨k_NONE, Kn_NONE⟩ := own_arv (vs := [(.int (110 : Int32)), (.int (111 : Int32)), (.int (110 : Int32)), (.int (101 : Int32))]) (dv := .int (0 : Int32)) hfit et_NONE nn23 hl_NONE (by decide) (by decide) (by decide) (fun j hj => by
      match j, hj with
      | 0, _ => exact own_eqv nn49
      | 1, _ => exact own_eqv nn51
      | 2, _ => exact own_eqv nn53
      | 3, _ => exact own_eqv nn55)
  obtain ⟨v_CSV, ev_CSV⟩ := exa_v nn11
  have E_CSV := Exa.start ev_CSV nn11
  have S_CSV := Sta.start ev_CSV (Or.inr ⟨(ww hw 52 rfl), (ww hw 72 rfl)⟩)
  obtain ⟨n_CSV, en_CSV⟩ := exa_v nn27
  have En_CSV := Exa.start en_CSV nn27
  have F_CSV := Fld.start ((fld_at ev_CSV).symm.trans en_CSV)
  have Cn_CSV := Fld.start ((fld_at en_CSV).symm.trans (own_eqv nn29))
  have hl_CSV := own_eqv nn33
  obtain ⟨t_CSV, et_CSV⟩ := len_v hl_CSV
  have Vn_CSV := Fld.start ((fld_at en_CSV).symm.trans et_CSV)
  obtain ⟨k_CSV, Kn_CSV⟩ := own_arv (vs := [(.int (99 : Int32)), (.int (115 : Int32)), (.int (118 : Int32))]) (dv := .int (0 : Int32)) hfit et_CSV nn31 hl_CSV (by decide) (by decide) (by decide) (fun j hj => by
      match j, hj with
      | 0, _ => exact own_eqv nn43
      | 1, _ => exact own_eqv nn45
      | 2, _ => exact own_eqv nn47)
  obtain ⟨v_DATABASE, ev_DATABASE⟩ := exa_v nn15
  have E_DATABASE := Exa.start ev_DATABASE nn15
  have S_DATABASE := Sta.start ev_DATABASE (Or.inr ⟨(ww hw 52 rfl), (ww hw 73 rfl)⟩)
  obtain ⟨n_DATABASE, en_DATABASE⟩ := exa_v nn35
  have En_DATABASE := Exa.start en_DATABASE nn35
  have F_DATABASE := Fld.start ((fld_at ev_DATABASE).symm.trans en_DATABASE)
  have Cn_DATABASE := Fld.start ((fld_at en_DATABASE).symm.trans (own_eqv nn37))
  have hl_DATABASE := own_eqv nn41
  obtain ⟨t_DATABASE, et_DATABASE⟩ := len_v hl_DATABASE
  have Vn_DATABASE := Fld.start ((fld_at en_DATABASE).symm.trans et_DATABASE)
  obtain ⟨k_DATABASE, Kn_DATABASE⟩ := own_arv (vs := [(.int (100 : Int32)), (.int (97 : Int32)), (.int (116 : Int32)), (.int (97 : Int32)), (.int (98 : Int32)), (.int (97 : Int32)), (.int (115 : Int32)), (.int (101 : Int32))]) (dv := .int (0 : Int32)) hfit et_DATABASE nn39 hl_DATABASE (by decide) (by decide) (by decide) (fun j hj => by
      match j, hj with
      | 0, _ => exact own_eqv nn57
      | 1, _ => exact own_eqv nn59
      | 2, _ => exact own_eqv nn61
      | 3, _ => exact own_eqv nn63
      | 4, _ => exact own_eqv nn65
      | 5, _ => exact own_eqv nn67
      | 6, _ => exact own_eqv nn69
      | 7, _ => exact own_eqv nn70)
  obtain ⟨kv, V_VAL⟩ := own_arv (vs := [(.ref v_NONE), (.ref v_CSV), (.ref v_DATABASE)]) (dv := .null) hfit ev_VAL nn1 (own_eqv nn5) (by decide) rfl (Nat.le_of_ble_eq_true rfl) (fun j hj => by
      match j, hj with
      | 0, _ => exact own_eqR nn9 ev_NONE
      | 1, _ => exact own_eqR nn13 ev_CSV
      | 2, _ => exact own_eqR nn17 ev_DATABASE)
  have hWd : World s s.heap cz v_EMPTY vv kv v_NONE n_NONE t_NONE k_NONE v_CSV n_CSV t_CSV k_CSV v_DATABASE n_DATABASE t_DATABASE k_DATABASE := ⟨S_cs, S_EM, E_EM, F_EM, S_VAL, E_VAL, V_VAL, S_NONE, E_NONE, F_NONE, En_NONE, Cn_NONE, Vn_NONE, Kn_NONE, S_CSV, E_CSV, F_CSV, En_CSV, Cn_CSV, Vn_CSV, Kn_CSV, S_DATABASE, E_DATABASE, F_DATABASE, En_DATABASE, Cn_DATABASE, Vn_DATABASE, Kn_DATABASE⟩
  have ht_ := trivial
  · obtain ⟨n, o, h1, h2, h3, _, L, rfl, ⟨rfl, N⟩, hq⟩ := rm0 l s _ hw tables_1 i0 i1 i2 i3 i4 i5 cz v_EMPTY vv kv v_NONE n_NONE t_NONE k_NONE v_CSV n_CSV t_CSV k_CSV v_DATABASE n_DATABASE t_DATABASE k_DATABASE s.heap s.heap.size (Nat.le_refl _) hWd hcz p e ha hc hk s m _ below hf ((Spec.applies_iff_loose hf).mp happ).1 ⟨rfl, State.Warmed39.refl s, rfl, hCH⟩ trivial
    exact ⟨n, _, h1, h2, h3, hpost _ _ _ _ _ _ ⟨Cond.after_iff.mpr rfl, Cond.after_iff.mpr (eq_i res_at (Term.int_eval (1)) rfl), trivial⟩ ⟨hq.1, hq.2.1, hq.2.2.1, (hq.2.2.2.sift fun y hy => Or.inr (N y hy)).mono (by decide) (by decide)⟩⟩
theorem main_1_1 : Claimed_1_1 := comes_1 fun _ _ _ _ _ _ h hF => ⟨h.1, hF⟩
theorem main_1_2 : Claimed_1_2 := comes_1 fun _ _ _ _ _ _ h hF => ⟨h.2.1, hF⟩
end Jvm.Pilot.@@N@@
namespace Jvm.Pilot.@@N@@
open Jvm Jvm.ClassFile Sem Op Lib Jvm.Free Jvm.Stand Jvm.Pilot.@@N@@.Jvm.D
/-! MADE BY PROGRAM (witnessworld.py) out of the Statement's table words and the real class files: 24 classes; the members and pool entries that the words name. The judged class is class 1, her method 2. -/
namespace start1
open Jvm.ClassFile
def u (s : String) : CpInfo := .utf8 (stringToUtf16 s)
/-- a pool by its gaps: so many unusable entries, then the entry; so many at the end -/
def gap : Nat → List CpInfo → List CpInfo
  | 0, r => r
  | n + 1, r => .unusable :: gap n r
def poolList (es : List (Nat × CpInfo)) (last : Nat) : List CpInfo := es.foldr (fun e r => gap e.1 (e.2 :: r)) (gap last [])
def pool (es : List (Nat × CpInfo)) (last : Nat) : Array CpInfo := ⟨poolList es last⟩
def fileOf (pool : Array CpInfo) (this : Nat) (attrs : Array Attribute := #[]) (ms : Array MethodInfo := #[]) (fl : Nat := 33) (sup : Nat := 0) (ifs : Array Nat := #[]) (fds : Array FieldInfo := #[]) : ClassFile where
  minorVersion := 0
  majorVersion := 65
  constantPool := pool
  accessFlags := fl
  thisClass := this
  superClass := sup
  interfaces := ifs
  fields := fds
  methods := ms
  attributes := attrs
def plain (name : String) (sup : Option ClassId) : Class where
  name := name
  kind := .ordinary
  loader := none
  accessFlags := 33
  super := sup
  interfaces := #[]
  cf := none
  fields := #[]
  methods := #[]
  instanceTypes := #[]
  staticTypes := #[]
  resolved := #[]
  callSites := []
  init := .initialized
  statics := none
  mirror := none

def pool0 : Array CpInfo := pool [(5, u "<init>"), (0, u "()V"), (1, .class_ 10), (1, u "java/lang/Object"), (85, u "clone"), (0, u "()Ljava/lang/Object;")] 26

def k0c0 : Code := { maxStack := 0, maxLocals := 1, code := object_method_1_code, exceptionTable := #[], attributes := #[] }
def k0m0 : Method := { name := "<init>", desc := "()V", sig := { parameters := [], returnType := none }, accessFlags := 1, code := some k0c0 }
def k0m1 : Method := { name := "clone", desc := "()Ljava/lang/Object;", sig := { parameters := [], returnType := some (.object "java/lang/Object") }, accessFlags := 260, code := none }
/-- java/lang/Object -/
def k0 : Class := { plain "java/lang/Object" none with
  accessFlags := 33
  interfaces := #[]
  cf := some (fileOf pool0 8 #[] #[{ accessFlags := 1, nameIndex := 5, descriptorIndex := 6, attributes := #[] }, { accessFlags := 260, nameIndex := 96, descriptorIndex := 97, attributes := #[] }] 33 0 #[] #[])
  fields := #[]
  methods := #[k0m0, k0m1]
  instanceTypes := #[]
  staticTypes := #[]
  resolved := Array.replicate 124 none
  statics := none }

def pool1 : Array CpInfo := pool [(2, .class_ 4), (1, u "java/lang/Object"), (0, u "<init>"), (0, u "()V"), (0, .class_ 8), (0, u "java/lang/String"), (0, .methodref 7 10), (0, .nameAndType 5 11), (0, u "([C)V"), (0, .integer 2147483647), (0, .methodref 14 15), (0, .class_ 16), (0, .nameAndType 17 18), (0, u "com/example/lifetable/lifetable/output/ExportFormatNamedPinLaw"), (0, u "str"), (0, u "([CI)Ljava/lang/String;"), (0, .string 20), (0, u "none"), (0, .methodref 7 22), (0, .nameAndType 23 24), (0, u "equals"), (0, u "(Ljava/lang/Object;)Z"), (0, .fieldref 26 27), (0, .class_ 28), (0, .nameAndType 29 30), (0, u "com/example/lifetable/lifetable/output/ExportFormat"), (0, u "NONE"), (0, u "Lcom/example/lifetable/lifetable/output/ExportFormat;"), (0, .string 32), (0, u "csv"), (0, .fieldref 26 34), (0, .nameAndType 35 30), (0, u "CSV"), (0, .string 37), (0, u "database"), (0, .fieldref 26 39), (0, .nameAndType 40 30), (0, u "DATABASE"), (0, .methodref 26 42), (0, .nameAndType 43 44), (0, u "named"), (0, u "(Ljava/lang/String;)Ljava/util/Optional;"), (0, .methodref 46 47), (0, .class_ 48), (0, .nameAndType 49 50), (0, u "java/util/Optional"), (0, u "orElse"), (0, u "(Ljava/lang/Object;)Ljava/lang/Object;"), (3, u "law"), (0, u "(IIIIII)Z")] 4

def k1m0 : Method := { name := "<init>", desc := "()V", sig := { parameters := [], returnType := none }, accessFlags := 2, code := none }
def k1c1 : Code := { maxStack := 7, maxLocals := 2, code := method_2_code, exceptionTable := #[], attributes := #[] }
def k1m1 : Method := { name := "str", desc := "([CI)Ljava/lang/String;", sig := { parameters := [(.array .char), .int], returnType := some (.object "java/lang/String") }, accessFlags := 10, code := some k1c1 }
def k1c2 : Code := { maxStack := 5, maxLocals := 12, code := code, exceptionTable := #[], attributes := #[] }
def k1m2 : Method := { name := "law", desc := "(IIIIII)Z", sig := { parameters := [.int, .int, .int, .int, .int, .int], returnType := some .boolean }, accessFlags := 9, code := some k1c2 }
/-- com/example/lifetable/lifetable/output/ExportFormatNamedPinLaw -/
def k1 : Class := { plain "com/example/lifetable/lifetable/output/ExportFormatNamedPinLaw" (some 0) with
  accessFlags := 49
  interfaces := #[]
  cf := some (fileOf pool1 14 #[] #[{ accessFlags := 2, nameIndex := 5, descriptorIndex := 6, attributes := #[] }, { accessFlags := 10, nameIndex := 17, descriptorIndex := 18, attributes := #[] }, { accessFlags := 9, nameIndex := 54, descriptorIndex := 55, attributes := #[] }] 49 2 #[] #[])
  fields := #[]
  methods := #[k1m0, k1m1, k1m2]
  instanceTypes := #[]
  staticTypes := #[]
  resolved := Array.replicate 60 none
  statics := none }

def pool2 : Array CpInfo := pool [(1, .class_ 2), (0, u "java/io/Serializable"), (0, .class_ 4), (0, u "java/lang/Object")] 2

/-- java/io/Serializable -/
def k2 : Class := { plain "java/io/Serializable" (some 0) with
  accessFlags := 1537
  interfaces := #[]
  cf := some (fileOf pool2 1 #[] #[] 1537 3 #[] #[])
  fields := #[]
  methods := #[]
  instanceTypes := #[]
  staticTypes := #[]
  resolved := Array.replicate 7 none
  statics := none }

def pool3 : Array CpInfo := pool [(1, .class_ 2), (0, u "java/lang/Comparable"), (0, .class_ 4), (0, u "java/lang/Object")] 7

/-- java/lang/Comparable -/
def k3 : Class := { plain "java/lang/Comparable" (some 0) with
  accessFlags := 1537
  interfaces := #[]
  cf := some (fileOf pool3 1 #[] #[] 1537 3 #[] #[])
  fields := #[]
  methods := #[]
  instanceTypes := #[]
  staticTypes := #[]
  resolved := Array.replicate 12 none
  statics := none }

def pool4 : Array CpInfo := pool [(2, .class_ 4), (1, u "java/lang/CharSequence"), (42, .class_ 48), (0, u "java/lang/CharSequence$1CodePointIterator"), (10, .class_ 60), (0, u "java/lang/CharSequence$1CharIterator"), (5, .class_ 67), (0, u "java/lang/Object")] 63

/-- java/lang/CharSequence -/
def k4 : Class := { plain "java/lang/CharSequence" (some 0) with
  accessFlags := 1537
  interfaces := #[]
  cf := some (fileOf pool4 2 #[.nestMembers #[47, 59]] #[] 1537 66 #[] #[])
  fields := #[]
  methods := #[]
  instanceTypes := #[]
  staticTypes := #[]
  resolved := Array.replicate 131 none
  statics := none }

def pool5 : Array CpInfo := pool [(1, .class_ 2), (0, u "java/lang/constant/Constable"), (0, .class_ 4), (0, u "java/lang/Object")] 6

/-- java/lang/constant/Constable -/
def k5 : Class := { plain "java/lang/constant/Constable" (some 0) with
  accessFlags := 1537
  interfaces := #[]
  cf := some (fileOf pool5 1 #[] #[] 1537 3 #[] #[])
  fields := #[]
  methods := #[]
  instanceTypes := #[]
  staticTypes := #[]
  resolved := Array.replicate 11 none
  statics := none }

def pool6 : Array CpInfo := pool [(1, .class_ 2), (0, u "java/lang/constant/ConstantDesc"), (0, .class_ 4), (0, u "java/lang/Object")] 32

/-- java/lang/constant/ConstantDesc -/
def k6 : Class := { plain "java/lang/constant/ConstantDesc" (some 0) with
  accessFlags := 1537
  interfaces := #[]
  cf := some (fileOf pool6 1 #[] #[] 1537 3 #[] #[])
  fields := #[]
  methods := #[]
  instanceTypes := #[]
  staticTypes := #[]
  resolved := Array.replicate 37 none
  statics := none }

def pool7 : Array CpInfo := pool [(1, .methodref 2 3), (0, .class_ 4), (0, .nameAndType 5 6), (0, u "java/lang/Object"), (0, u "<init>"), (0, u "()V"), (0, .string 8), (0, u ""), (0, .fieldref 10 11), (0, .class_ 12), (0, .nameAndType 13 14), (0, u "java/lang/String"), (0, u "value"), (0, u "[B"), (0, .fieldref 10 16), (0, .nameAndType 17 18), (0, u "coder"), (0, u "B"), (2, u "hash"), (0, u "I"), (2, u "hashIsZero"), (0, u "Z"), (0, .methodref 10 28), (0, .nameAndType 5 29), (0, u "([CIILjava/lang/Void;)V"), (8, .fieldref 10 39), (0, .nameAndType 40 26), (0, u "COMPACT_STRINGS"), (1, .class_ 44), (1, u "java/lang/StringUTF16"), (0, u "compress"), (1, .methodref 42 48), (0, .nameAndType 49 50), (0, u "coderFromArrayLen"), (0, u "([BI)B"), (56, .class_ 109), (1, u "java/lang/StringLatin1"), (67, .methodref 42 178), (0, .nameAndType 45 179), (0, u "([CII)[B"), (361, .methodref 107 542), (0, .nameAndType 543 544), (0, u "equals"), (0, u "([B[B)Z"), (28, u "(Ljava/lang/Object;)Z"), (1, .class_ 576), (0, u "java/lang/CharSequence"), (22, u "CASE_INSENSITIVE_ORDER"), (0, u "Ljava/util/Comparator;"), (409, u "([C)V"), (90, u "serialPersistentFields"), (0, u "[Ljava/io/ObjectStreamField;"), (0, .class_ 1104), (0, u "java/lang/String$CaseInsensitiveComparator"), (1, .class_ 1107), (0, u "java/io/Serializable"), (0, .class_ 1109), (0, u "java/lang/Comparable"), (0, .class_ 1111), (0, u "java/lang/constant/Constable"), (0, .class_ 1113), (0, u "java/lang/constant/ConstantDesc"), (2, u "serialVersionUID"), (0, u "J"), (3, u "REPL"), (0, u "C"), (2, u "LATIN1"), (1, u "UTF16")] 323

def k7m0 : Method := { name := "<init>", desc := "()V", sig := { parameters := [], returnType := none }, accessFlags := 1, code := none }
def k7c1 : Code := { maxStack := 5, maxLocals := 2, code := jdk_42_method_3_code, exceptionTable := #[], attributes := #[] }
def k7m1 : Method := { name := "<init>", desc := "([C)V", sig := { parameters := [(.array .char)], returnType := none }, accessFlags := 1, code := some k7c1 }
def k7c2 : Code := { maxStack := 2, maxLocals := 3, code := jdk_42_method_66_code, exceptionTable := #[], attributes := #[] }
def k7m2 : Method := { name := "equals", desc := "(Ljava/lang/Object;)Z", sig := { parameters := [(.object "java/lang/Object")], returnType := some .boolean }, accessFlags := 1, code := some k7c2 }
def k7c3 : Code := { maxStack := 4, maxLocals := 6, code := jdk_42_method_149_code, exceptionTable := #[], attributes := #[] }
def k7m3 : Method := { name := "<init>", desc := "([CIILjava/lang/Void;)V", sig := { parameters := [(.array .char), .int, .int, (.object "java/lang/Void")], returnType := none }, accessFlags := 2, code := some k7c3 }
/-- java/lang/String -/
def k7 : Class := { plain "java/lang/String" (some 0) with
  accessFlags := 49
  interfaces := #[2, 3, 4, 5, 6]
  cf := some (fileOf pool7 10 #[.nestMembers #[1103]] #[{ accessFlags := 1, nameIndex := 5, descriptorIndex := 6, attributes := #[] }, { accessFlags := 1, nameIndex := 5, descriptorIndex := 1010, attributes := #[] }, { accessFlags := 1, nameIndex := 543, descriptorIndex := 573, attributes := #[] }, { accessFlags := 2, nameIndex := 5, descriptorIndex := 29, attributes := #[] }] 49 2 #[1106, 1108, 575, 1110, 1112] #[{ accessFlags := 18, nameIndex := 13, descriptorIndex := 14, attributes := #[] }, { accessFlags := 18, nameIndex := 17, descriptorIndex := 18, attributes := #[] }, { accessFlags := 2, nameIndex := 21, descriptorIndex := 22, attributes := #[] }, { accessFlags := 2, nameIndex := 25, descriptorIndex := 26, attributes := #[] }, { accessFlags := 26, nameIndex := 1116, descriptorIndex := 1117, attributes := #[] }, { accessFlags := 24, nameIndex := 40, descriptorIndex := 26, attributes := #[] }, { accessFlags := 26, nameIndex := 1101, descriptorIndex := 1102, attributes := #[] }, { accessFlags := 26, nameIndex := 1121, descriptorIndex := 1122, attributes := #[] }, { accessFlags := 25, nameIndex := 599, descriptorIndex := 600, attributes := #[] }, { accessFlags := 24, nameIndex := 1125, descriptorIndex := 18, attributes := #[] }, { accessFlags := 24, nameIndex := 1127, descriptorIndex := 18, attributes := #[] }])
  fields := #[{ name := "value", type := (.array .byte), accessFlags := 18, slot := 0, constantValue := 0 }, { name := "coder", type := .byte, accessFlags := 18, slot := 1, constantValue := 0 }, { name := "hash", type := .int, accessFlags := 2, slot := 2, constantValue := 0 }, { name := "hashIsZero", type := .boolean, accessFlags := 2, slot := 3, constantValue := 0 }, { name := "serialVersionUID", type := .long, accessFlags := 26, slot := 0, constantValue := 0 }, { name := "COMPACT_STRINGS", type := .boolean, accessFlags := 24, slot := 1, constantValue := 0 }, { name := "serialPersistentFields", type := (.array (.object "java/io/ObjectStreamField")), accessFlags := 26, slot := 2, constantValue := 0 }, { name := "REPL", type := .char, accessFlags := 26, slot := 3, constantValue := 0 }, { name := "CASE_INSENSITIVE_ORDER", type := (.object "java/util/Comparator"), accessFlags := 25, slot := 4, constantValue := 0 }, { name := "LATIN1", type := .byte, accessFlags := 24, slot := 5, constantValue := 0 }, { name := "UTF16", type := .byte, accessFlags := 24, slot := 6, constantValue := 0 }]
  methods := #[k7m0, k7m1, k7m2, k7m3]
  instanceTypes := #[(.array .byte), .byte, .int, .boolean]
  staticTypes := #[.long, .boolean, (.array (.object "java/io/ObjectStreamField")), .char, (.object "java/util/Comparator"), .byte, .byte]
  resolved := Array.replicate 1451 none
  statics := some 0 }

def pool8 : Array CpInfo := pool [(6, .class_ 8), (1, u "java/lang/Object"), (0, u "<init>"), (0, u "()V"), (1, .class_ 14), (1, u "java/lang/StringUTF16"), (31, u "$assertionsDisabled"), (0, u "Z"), (13, u "HI_BYTE_SHIFT"), (0, u "I"), (2, u "LO_BYTE_SHIFT"), (49, .methodref 12 116), (0, .nameAndType 117 118), (0, u "compress"), (0, u "([CI[BII)I"), (3, u "([CII)[B"), (138, u "coderFromArrayLen"), (0, u "([BI)B"), (106, .class_ 371), (1, u "java/lang/StringUTF16$LinesSpliterator"), (58, u "MAX_LENGTH"), (196, .class_ 628), (0, u "java/lang/StringUTF16$CodePointsSpliterator"), (0, .class_ 630), (0, u "java/lang/StringUTF16$CharsSpliterator")] 4

def k8m0 : Method := { name := "<init>", desc := "()V", sig := { parameters := [], returnType := none }, accessFlags := 0, code := none }
def k8c1 : Code := { maxStack := 2, maxLocals := 2, code := jdk_52_method_15_code, exceptionTable := #[], attributes := #[] }
def k8m1 : Method := { name := "coderFromArrayLen", desc := "([BI)B", sig := { parameters := [(.array .byte), .int], returnType := some .byte }, accessFlags := 8, code := some k8c1 }
def k8c2 : Code := { maxStack := 5, maxLocals := 6, code := jdk_52_method_16_code, exceptionTable := #[], attributes := #[] }
def k8m2 : Method := { name := "compress", desc := "([CII)[B", sig := { parameters := [(.array .char), .int, .int], returnType := some (.array .byte) }, accessFlags := 9, code := some k8c2 }
def k8c3 : Code := { maxStack := 3, maxLocals := 7, code := jdk_52_method_21_code, exceptionTable := #[], attributes := #[] }
def k8m3 : Method := { name := "compress", desc := "([CI[BII)I", sig := { parameters := [(.array .char), .int, (.array .byte), .int, .int], returnType := some .int }, accessFlags := 9, code := some k8c3 }
/-- java/lang/StringUTF16 -/
def k8 : Class := { plain "java/lang/StringUTF16" (some 0) with
  accessFlags := 48
  interfaces := #[]
  cf := some (fileOf pool8 12 #[.nestMembers #[627, 629, 369]] #[{ accessFlags := 0, nameIndex := 9, descriptorIndex := 10, attributes := #[] }, { accessFlags := 8, nameIndex := 261, descriptorIndex := 262, attributes := #[] }, { accessFlags := 9, nameIndex := 117, descriptorIndex := 122, attributes := #[] }, { accessFlags := 9, nameIndex := 117, descriptorIndex := 118, attributes := #[] }] 48 6 #[] #[{ accessFlags := 26, nameIndex := 61, descriptorIndex := 62, attributes := #[] }, { accessFlags := 26, nameIndex := 65, descriptorIndex := 62, attributes := #[] }, { accessFlags := 24, nameIndex := 430, descriptorIndex := 62, attributes := #[] }, { accessFlags := 4120, nameIndex := 46, descriptorIndex := 47, attributes := #[] }])
  fields := #[{ name := "HI_BYTE_SHIFT", type := .int, accessFlags := 26, slot := 0, constantValue := 0 }, { name := "LO_BYTE_SHIFT", type := .int, accessFlags := 26, slot := 1, constantValue := 0 }, { name := "MAX_LENGTH", type := .int, accessFlags := 24, slot := 2, constantValue := 0 }, { name := "$assertionsDisabled", type := .boolean, accessFlags := 4120, slot := 3, constantValue := 0 }]
  methods := #[k8m0, k8m1, k8m2, k8m3]
  instanceTypes := #[]
  staticTypes := #[.int, .int, .int, .boolean]
  resolved := Array.replicate 635 none
  statics := none }

def pool9 : Array CpInfo := pool [(4, .class_ 6), (1, u "java/lang/Object"), (0, u "<init>"), (0, u "()V"), (5, .class_ 16), (1, u "java/lang/StringLatin1"), (104, u "$assertionsDisabled"), (0, u "Z"), (98, .class_ 223), (1, u "java/lang/StringLatin1$LinesSpliterator"), (57, u "equals"), (0, u "([B[B)Z"), (107, .class_ 391), (0, u "java/lang/StringLatin1$CharsSpliterator")] 3

def k9m0 : Method := { name := "<init>", desc := "()V", sig := { parameters := [], returnType := none }, accessFlags := 0, code := none }
def k9c1 : Code := { maxStack := 3, maxLocals := 3, code := jdk_43_method_13_code, exceptionTable := #[], attributes := #[] }
def k9m1 : Method := { name := "equals", desc := "([B[B)Z", sig := { parameters := [(.array .byte), (.array .byte)], returnType := some .boolean }, accessFlags := 9, code := some k9c1 }
/-- java/lang/StringLatin1 -/
def k9 : Class := { plain "java/lang/StringLatin1" (some 0) with
  accessFlags := 48
  interfaces := #[]
  cf := some (fileOf pool9 14 #[.nestMembers #[390, 221]] #[{ accessFlags := 0, nameIndex := 7, descriptorIndex := 8, attributes := #[] }, { accessFlags := 9, nameIndex := 281, descriptorIndex := 282, attributes := #[] }] 48 4 #[] #[{ accessFlags := 4120, nameIndex := 121, descriptorIndex := 122, attributes := #[] }])
  fields := #[{ name := "$assertionsDisabled", type := .boolean, accessFlags := 4120, slot := 0, constantValue := 0 }]
  methods := #[k9m0, k9m1]
  instanceTypes := #[]
  staticTypes := #[.boolean]
  resolved := Array.replicate 395 none
  statics := none }

def pool10 : Array CpInfo := pool [(2, .class_ 4), (1, u "java/lang/Enum"), (0, u "name"), (0, u "Ljava/lang/String;"), (2, u "ordinal"), (0, u "I"), (1, .class_ 14), (1, u "java/lang/Object"), (4, u "hash"), (86, .class_ 108), (1, u "java/lang/Enum$EnumDesc"), (2, .class_ 112), (0, u "java/lang/constant/Constable"), (0, .class_ 114), (0, u "java/lang/Comparable"), (0, .class_ 116), (0, u "java/io/Serializable")] 87

/-- java/lang/Enum -/
def k10 : Class := { plain "java/lang/Enum" (some 0) with
  accessFlags := 1057
  interfaces := #[5, 3, 2]
  cf := some (fileOf pool10 2 #[.nestMembers #[106]] #[] 1057 12 #[111, 113, 115] #[{ accessFlags := 18, nameIndex := 5, descriptorIndex := 6, attributes := #[] }, { accessFlags := 18, nameIndex := 9, descriptorIndex := 10, attributes := #[] }, { accessFlags := 2, nameIndex := 19, descriptorIndex := 10, attributes := #[] }])
  fields := #[{ name := "name", type := (.object "java/lang/String"), accessFlags := 18, slot := 0, constantValue := 0 }, { name := "ordinal", type := .int, accessFlags := 18, slot := 1, constantValue := 0 }, { name := "hash", type := .int, accessFlags := 2, slot := 2, constantValue := 0 }]
  methods := #[]
  instanceTypes := #[(.object "java/lang/String"), .int, .int]
  staticTypes := #[]
  resolved := Array.replicate 204 none
  statics := none }

def pool11 : Array CpInfo := pool [(1, .class_ 2), (0, u "com/example/lifetable/lifetable/output/ExportFormat"), (2, u "NONE"), (0, u "Lcom/example/lifetable/lifetable/output/ExportFormat;"), (2, u "CSV"), (2, u "DATABASE"), (0, .fieldref 1 14), (0, .nameAndType 15 16), (0, u "$VALUES"), (0, u "[Lcom/example/lifetable/lifetable/output/ExportFormat;"), (0, .methodref 18 19), (0, .class_ 16), (0, .nameAndType 20 21), (0, u "clone"), (0, u "()Ljava/lang/Object;"), (1, .class_ 25), (1, u "java/lang/Enum"), (6, .fieldref 1 33), (0, .nameAndType 34 35), (0, u "name"), (0, u "Ljava/lang/String;"), (0, .methodref 37 38), (0, .class_ 39), (0, .nameAndType 40 41), (0, u "java/util/Optional"), (0, u "empty"), (0, u "()Ljava/util/Optional;"), (0, .methodref 1 43), (0, .nameAndType 44 45), (0, u "values"), (0, u "()[Lcom/example/lifetable/lifetable/output/ExportFormat;"), (0, .methodref 47 48), (0, .class_ 49), (0, .nameAndType 50 51), (0, u "java/lang/String"), (0, u "equals"), (0, u "(Ljava/lang/Object;)Z"), (0, .methodref 37 53), (0, .nameAndType 54 55), (0, u "of"), (0, u "(Ljava/lang/Object;)Ljava/util/Optional;"), (21, u "named"), (0, u "(Ljava/lang/String;)Ljava/util/Optional;")] 9

def k11c0 : Code := { maxStack := 1, maxLocals := 0, code := prog_26_method_1_code, exceptionTable := #[], attributes := #[] }
def k11m0 : Method := { name := "values", desc := "()[Lcom/example/lifetable/lifetable/output/ExportFormat;", sig := { parameters := [], returnType := some (.array (.object "com/example/lifetable/lifetable/output/ExportFormat")) }, accessFlags := 9, code := some k11c0 }
def k11c1 : Code := { maxStack := 2, maxLocals := 6, code := prog_26_method_4_code, exceptionTable := #[], attributes := #[] }
def k11m1 : Method := { name := "named", desc := "(Ljava/lang/String;)Ljava/util/Optional;", sig := { parameters := [(.object "java/lang/String")], returnType := some (.object "java/util/Optional") }, accessFlags := 9, code := some k11c1 }
/-- com/example/lifetable/lifetable/output/ExportFormat -/
def k11 : Class := { plain "com/example/lifetable/lifetable/output/ExportFormat" (some 10) with
  accessFlags := 16433
  interfaces := #[]
  cf := some (fileOf pool11 1 #[] #[{ accessFlags := 9, nameIndex := 44, descriptorIndex := 45, attributes := #[] }, { accessFlags := 9, nameIndex := 77, descriptorIndex := 78, attributes := #[] }] 16433 23 #[] #[{ accessFlags := 16409, nameIndex := 5, descriptorIndex := 6, attributes := #[] }, { accessFlags := 16409, nameIndex := 9, descriptorIndex := 6, attributes := #[] }, { accessFlags := 16409, nameIndex := 12, descriptorIndex := 6, attributes := #[] }, { accessFlags := 18, nameIndex := 34, descriptorIndex := 35, attributes := #[] }, { accessFlags := 4122, nameIndex := 15, descriptorIndex := 16, attributes := #[] }])
  fields := #[{ name := "NONE", type := (.object "com/example/lifetable/lifetable/output/ExportFormat"), accessFlags := 16409, slot := 0, constantValue := 0 }, { name := "CSV", type := (.object "com/example/lifetable/lifetable/output/ExportFormat"), accessFlags := 16409, slot := 1, constantValue := 0 }, { name := "DATABASE", type := (.object "com/example/lifetable/lifetable/output/ExportFormat"), accessFlags := 16409, slot := 2, constantValue := 0 }, { name := "name", type := (.object "java/lang/String"), accessFlags := 18, slot := 3, constantValue := 0 }, { name := "$VALUES", type := (.array (.object "com/example/lifetable/lifetable/output/ExportFormat")), accessFlags := 4122, slot := 3, constantValue := 0 }]
  methods := #[k11m0, k11m1]
  instanceTypes := #[(.object "java/lang/String"), .int, .int, (.object "java/lang/String")]
  staticTypes := #[(.object "com/example/lifetable/lifetable/output/ExportFormat"), (.object "com/example/lifetable/lifetable/output/ExportFormat"), (.object "com/example/lifetable/lifetable/output/ExportFormat"), (.array (.object "com/example/lifetable/lifetable/output/ExportFormat"))]
  resolved := Array.replicate 88 none
  statics := some 1 }

def pool12 : Array CpInfo := pool [(1, .fieldref 2 3), (0, .class_ 4), (0, .nameAndType 5 6), (0, u "java/util/Optional"), (0, u "EMPTY"), (0, u "Ljava/util/Optional;"), (0, .methodref 8 9), (0, .class_ 10), (0, .nameAndType 11 12), (0, u "java/lang/Object"), (0, u "<init>"), (0, u "()V"), (0, .fieldref 2 14), (0, .nameAndType 15 16), (0, u "value"), (0, u "Ljava/lang/Object;"), (0, .methodref 18 19), (0, .class_ 20), (0, .nameAndType 21 22), (0, u "java/util/Objects"), (0, u "requireNonNull"), (0, u "(Ljava/lang/Object;)Ljava/lang/Object;"), (0, .methodref 2 24), (0, .nameAndType 11 25), (0, u "(Ljava/lang/Object;)V"), (29, u "empty"), (0, u "()Ljava/util/Optional;"), (8, u "(Ljava/lang/Object;)Ljava/util/Optional;"), (16, u "of"), (82, u "orElse")] 21

def k12c0 : Code := { maxStack := 1, maxLocals := 1, code := jdk_32_method_1_code, exceptionTable := #[], attributes := #[] }
def k12m0 : Method := { name := "empty", desc := "()Ljava/util/Optional;", sig := { parameters := [], returnType := some (.object "java/util/Optional") }, accessFlags := 9, code := some k12c0 }
def k12c1 : Code := { maxStack := 2, maxLocals := 2, code := jdk_32_method_2_code, exceptionTable := #[], attributes := #[] }
def k12m1 : Method := { name := "<init>", desc := "(Ljava/lang/Object;)V", sig := { parameters := [(.object "java/lang/Object")], returnType := none }, accessFlags := 2, code := some k12c1 }
def k12c2 : Code := { maxStack := 3, maxLocals := 1, code := jdk_32_method_3_code, exceptionTable := #[], attributes := #[] }
def k12m2 : Method := { name := "of", desc := "(Ljava/lang/Object;)Ljava/util/Optional;", sig := { parameters := [(.object "java/lang/Object")], returnType := some (.object "java/util/Optional") }, accessFlags := 9, code := some k12c2 }
def k12c3 : Code := { maxStack := 1, maxLocals := 2, code := jdk_32_method_15_code, exceptionTable := #[], attributes := #[] }
def k12m3 : Method := { name := "orElse", desc := "(Ljava/lang/Object;)Ljava/lang/Object;", sig := { parameters := [(.object "java/lang/Object")], returnType := some (.object "java/lang/Object") }, accessFlags := 1, code := some k12c3 }
/-- java/util/Optional -/
def k12 : Class := { plain "java/util/Optional" (some 0) with
  accessFlags := 49
  interfaces := #[]
  cf := some (fileOf pool12 2 #[] #[{ accessFlags := 9, nameIndex := 55, descriptorIndex := 56, attributes := #[] }, { accessFlags := 2, nameIndex := 11, descriptorIndex := 25, attributes := #[] }, { accessFlags := 9, nameIndex := 82, descriptorIndex := 65, attributes := #[] }, { accessFlags := 1, nameIndex := 165, descriptorIndex := 22, attributes := #[] }] 49 8 #[] #[{ accessFlags := 26, nameIndex := 5, descriptorIndex := 6, attributes := #[] }, { accessFlags := 18, nameIndex := 15, descriptorIndex := 16, attributes := #[] }])
  fields := #[{ name := "EMPTY", type := (.object "java/util/Optional"), accessFlags := 26, slot := 0, constantValue := 0 }, { name := "value", type := (.object "java/lang/Object"), accessFlags := 18, slot := 0, constantValue := 0 }]
  methods := #[k12m0, k12m1, k12m2, k12m3]
  instanceTypes := #[(.object "java/lang/Object")]
  staticTypes := #[(.object "java/util/Optional")]
  resolved := Array.replicate 187 none
  statics := some 2 }

def pool13 : Array CpInfo := pool [(1, .class_ 2), (0, u "java/lang/Cloneable"), (0, .class_ 4), (0, u "java/lang/Object")] 2

/-- java/lang/Cloneable -/
def k13 : Class := { plain "java/lang/Cloneable" (some 0) with
  accessFlags := 1537
  interfaces := #[]
  cf := some (fileOf pool13 1 #[] #[] 1537 3 #[] #[])
  fields := #[]
  methods := #[]
  instanceTypes := #[]
  staticTypes := #[]
  resolved := Array.replicate 7 none
  statics := none }

def pool14 : Array CpInfo := pool [(2, .class_ 4), (1, u "java/lang/Object"), (0, u "<init>"), (0, u "()V"), (35, .class_ 44), (1, u "java/util/Objects"), (0, u "requireNonNull"), (0, u "(Ljava/lang/Object;)Ljava/lang/Object;")] 137

def k14m0 : Method := { name := "<init>", desc := "()V", sig := { parameters := [], returnType := none }, accessFlags := 2, code := none }
def k14c1 : Code := { maxStack := 2, maxLocals := 1, code := jdk_31_method_10_code, exceptionTable := #[], attributes := #[] }
def k14m1 : Method := { name := "requireNonNull", desc := "(Ljava/lang/Object;)Ljava/lang/Object;", sig := { parameters := [(.object "java/lang/Object")], returnType := some (.object "java/lang/Object") }, accessFlags := 9, code := some k14c1 }
/-- java/util/Objects -/
def k14 : Class := { plain "java/util/Objects" (some 0) with
  accessFlags := 49
  interfaces := #[]
  cf := some (fileOf pool14 42 #[] #[{ accessFlags := 2, nameIndex := 5, descriptorIndex := 6, attributes := #[] }, { accessFlags := 9, nameIndex := 45, descriptorIndex := 46, attributes := #[] }] 49 2 #[] #[])
  fields := #[]
  methods := #[k14m0, k14m1]
  instanceTypes := #[]
  staticTypes := #[]
  resolved := Array.replicate 184 none
  statics := none }

def pool15 : Array CpInfo := pool [(2, .class_ 4), (1, u "java/lang/Object"), (0, u "<init>"), (0, u "()V"), (17, .class_ 26), (1, u "jdk/internal/util/Preconditions"), (28, .class_ 56), (0, u "jdk/internal/util/Preconditions$4"), (57, .class_ 115), (0, u "jdk/internal/util/Preconditions$1"), (7, u "SIOOBE_FORMATTER"), (0, u "Ljava/util/function/BiFunction;"), (0, .class_ 126), (0, u "jdk/internal/util/Preconditions$2"), (3, u "AIOOBE_FORMATTER"), (0, .class_ 132), (0, u "jdk/internal/util/Preconditions$3"), (3, u "IOOBE_FORMATTER")] 57

def k15m0 : Method := { name := "<init>", desc := "()V", sig := { parameters := [], returnType := none }, accessFlags := 1, code := none }
/-- jdk/internal/util/Preconditions -/
def k15 : Class := { plain "jdk/internal/util/Preconditions" (some 0) with
  accessFlags := 33
  interfaces := #[]
  cf := some (fileOf pool15 24 #[.nestMembers #[55, 131, 125, 114]] #[{ accessFlags := 1, nameIndex := 5, descriptorIndex := 6, attributes := #[] }] 33 2 #[] #[{ accessFlags := 25, nameIndex := 123, descriptorIndex := 124, attributes := #[] }, { accessFlags := 25, nameIndex := 130, descriptorIndex := 124, attributes := #[] }, { accessFlags := 25, nameIndex := 136, descriptorIndex := 124, attributes := #[] }])
  fields := #[{ name := "SIOOBE_FORMATTER", type := (.object "java/util/function/BiFunction"), accessFlags := 25, slot := 0, constantValue := 0 }, { name := "AIOOBE_FORMATTER", type := (.object "java/util/function/BiFunction"), accessFlags := 25, slot := 1, constantValue := 0 }, { name := "IOOBE_FORMATTER", type := (.object "java/util/function/BiFunction"), accessFlags := 25, slot := 2, constantValue := 0 }]
  methods := #[k15m0]
  instanceTypes := #[]
  staticTypes := #[(.object "java/util/function/BiFunction"), (.object "java/util/function/BiFunction"), (.object "java/util/function/BiFunction")]
  resolved := Array.replicate 194 none
  statics := some 3 }

def pool16 : Array CpInfo := pool [(9, u "<init>"), (6, .class_ 18), (1, u "java/lang/Object"), (0, u "()V"), (1, .class_ 23), (1, u "jdk/internal/util/ArraysSupport"), (0, u "LOG2_ARRAY_LONG_INDEX_SCALE"), (0, u "I"), (2, u "U"), (0, u "Ljdk/internal/misc/Unsafe;"), (8, u "BIG_ENDIAN"), (0, u "Z"), (8, u "LOG2_BYTE_BIT_SIZE"), (4, u "LOG2_ARRAY_INT_INDEX_SCALE"), (54, u "JLA"), (0, u "Ljdk/internal/access/JavaLangAccess;"), (11, u "LOG2_ARRAY_BOOLEAN_INDEX_SCALE"), (9, u "LOG2_ARRAY_BYTE_INDEX_SCALE"), (5, u "LOG2_ARRAY_CHAR_INDEX_SCALE"), (5, u "LOG2_ARRAY_SHORT_INDEX_SCALE"), (18, u "LOG2_ARRAY_FLOAT_INDEX_SCALE"), (24, u "LOG2_ARRAY_DOUBLE_INDEX_SCALE"), (89, u "T_BOOLEAN"), (2, u "T_CHAR"), (1, u "T_FLOAT"), (1, u "T_DOUBLE"), (1, u "T_BYTE"), (1, u "T_SHORT"), (1, u "T_INT"), (1, u "T_LONG"), (1, u "SOFT_MAX_ARRAY_LENGTH")] 83

def k16m0 : Method := { name := "<init>", desc := "()V", sig := { parameters := [], returnType := none }, accessFlags := 2, code := none }
/-- jdk/internal/util/ArraysSupport -/
def k16 : Class := { plain "jdk/internal/util/ArraysSupport" (some 0) with
  accessFlags := 33
  interfaces := #[]
  cf := some (fileOf pool16 21 #[] #[{ accessFlags := 2, nameIndex := 9, descriptorIndex := 19, attributes := #[] }] 33 16 #[] #[{ accessFlags := 24, nameIndex := 28, descriptorIndex := 29, attributes := #[] }, { accessFlags := 26, nameIndex := 38, descriptorIndex := 39, attributes := #[] }, { accessFlags := 25, nameIndex := 121, descriptorIndex := 25, attributes := #[] }, { accessFlags := 25, nameIndex := 131, descriptorIndex := 25, attributes := #[] }, { accessFlags := 25, nameIndex := 137, descriptorIndex := 25, attributes := #[] }, { accessFlags := 25, nameIndex := 143, descriptorIndex := 25, attributes := #[] }, { accessFlags := 25, nameIndex := 53, descriptorIndex := 25, attributes := #[] }, { accessFlags := 25, nameIndex := 24, descriptorIndex := 25, attributes := #[] }, { accessFlags := 25, nameIndex := 162, descriptorIndex := 25, attributes := #[] }, { accessFlags := 25, nameIndex := 187, descriptorIndex := 25, attributes := #[] }, { accessFlags := 26, nameIndex := 48, descriptorIndex := 25, attributes := #[] }, { accessFlags := 25, nameIndex := 277, descriptorIndex := 25, attributes := #[] }, { accessFlags := 25, nameIndex := 280, descriptorIndex := 25, attributes := #[] }, { accessFlags := 25, nameIndex := 282, descriptorIndex := 25, attributes := #[] }, { accessFlags := 25, nameIndex := 284, descriptorIndex := 25, attributes := #[] }, { accessFlags := 25, nameIndex := 286, descriptorIndex := 25, attributes := #[] }, { accessFlags := 25, nameIndex := 288, descriptorIndex := 25, attributes := #[] }, { accessFlags := 25, nameIndex := 290, descriptorIndex := 25, attributes := #[] }, { accessFlags := 25, nameIndex := 292, descriptorIndex := 25, attributes := #[] }, { accessFlags := 26, nameIndex := 108, descriptorIndex := 109, attributes := #[] }, { accessFlags := 25, nameIndex := 294, descriptorIndex := 25, attributes := #[] }])
  fields := #[{ name := "U", type := (.object "jdk/internal/misc/Unsafe"), accessFlags := 24, slot := 0, constantValue := 0 }, { name := "BIG_ENDIAN", type := .boolean, accessFlags := 26, slot := 1, constantValue := 0 }, { name := "LOG2_ARRAY_BOOLEAN_INDEX_SCALE", type := .int, accessFlags := 25, slot := 2, constantValue := 0 }, { name := "LOG2_ARRAY_BYTE_INDEX_SCALE", type := .int, accessFlags := 25, slot := 3, constantValue := 0 }, { name := "LOG2_ARRAY_CHAR_INDEX_SCALE", type := .int, accessFlags := 25, slot := 4, constantValue := 0 }, { name := "LOG2_ARRAY_SHORT_INDEX_SCALE", type := .int, accessFlags := 25, slot := 5, constantValue := 0 }, { name := "LOG2_ARRAY_INT_INDEX_SCALE", type := .int, accessFlags := 25, slot := 6, constantValue := 0 }, { name := "LOG2_ARRAY_LONG_INDEX_SCALE", type := .int, accessFlags := 25, slot := 7, constantValue := 0 }, { name := "LOG2_ARRAY_FLOAT_INDEX_SCALE", type := .int, accessFlags := 25, slot := 8, constantValue := 0 }, { name := "LOG2_ARRAY_DOUBLE_INDEX_SCALE", type := .int, accessFlags := 25, slot := 9, constantValue := 0 }, { name := "LOG2_BYTE_BIT_SIZE", type := .int, accessFlags := 26, slot := 10, constantValue := 0 }, { name := "T_BOOLEAN", type := .int, accessFlags := 25, slot := 11, constantValue := 0 }, { name := "T_CHAR", type := .int, accessFlags := 25, slot := 12, constantValue := 0 }, { name := "T_FLOAT", type := .int, accessFlags := 25, slot := 13, constantValue := 0 }, { name := "T_DOUBLE", type := .int, accessFlags := 25, slot := 14, constantValue := 0 }, { name := "T_BYTE", type := .int, accessFlags := 25, slot := 15, constantValue := 0 }, { name := "T_SHORT", type := .int, accessFlags := 25, slot := 16, constantValue := 0 }, { name := "T_INT", type := .int, accessFlags := 25, slot := 17, constantValue := 0 }, { name := "T_LONG", type := .int, accessFlags := 25, slot := 18, constantValue := 0 }, { name := "JLA", type := (.object "jdk/internal/access/JavaLangAccess"), accessFlags := 26, slot := 19, constantValue := 0 }, { name := "SOFT_MAX_ARRAY_LENGTH", type := .int, accessFlags := 25, slot := 20, constantValue := 0 }]
  methods := #[k16m0]
  instanceTypes := #[]
  staticTypes := #[(.object "jdk/internal/misc/Unsafe"), .boolean, .int, .int, .int, .int, .int, .int, .int, .int, .int, .int, .int, .int, .int, .int, .int, .int, .int, (.object "jdk/internal/access/JavaLangAccess"), .int]
  resolved := Array.replicate 378 none
  statics := none }

/-- the primitive byte -/
def k17 : Class := { plain "byte" none with kind := .primitive 'B', accessFlags := 0x411 }
/-- [B -/
def k18 : Class := { plain "[B" (some 0) with kind := .array 17 .byte, interfaces := #[13, 2], accessFlags := 1041 }

/-- the primitive char -/
def k19 : Class := { plain "char" none with kind := .primitive 'C', accessFlags := 0x411 }
/-- [C -/
def k20 : Class := { plain "[C" (some 0) with kind := .array 19 .char, interfaces := #[13, 2], accessFlags := 1041 }

/-- the primitive int -/
def k21 : Class := { plain "int" none with kind := .primitive 'I', accessFlags := 0x411 }
/-- [I -/
def k22 : Class := { plain "[I" (some 0) with kind := .array 21 .int, interfaces := #[13, 2], accessFlags := 1041 }

/-- [Lcom/example/lifetable/lifetable/output/ExportFormat; -/
def k23 : Class := { plain "[Lcom/example/lifetable/lifetable/output/ExportFormat;" (some 0) with kind := .array 11 (.object "com/example/lifetable/lifetable/output/ExportFormat"), interfaces := #[13, 2], accessFlags := 1041 }

def heap : Heap := #[{ cls := 7, slots := #[.long 0, .int 1, .null, .int 0, .null, .int 0, .int 0], vm := .statics 7 },
  { cls := 11, slots := #[.ref 5, .ref 6, .ref 7, .ref 4], vm := .statics 11 },
  { cls := 12, slots := #[.ref 14], vm := .statics 12 },
  { cls := 15, slots := #[.null, .null, .null], vm := .statics 15 },
  { cls := 23, slots := #[.ref 5, .ref 6, .ref 7], vm := .none },
  { cls := 11, slots := #[.null, .int 0, .int 0, .ref 8], vm := .none },
  { cls := 11, slots := #[.null, .int 1, .int 0, .ref 9], vm := .none },
  { cls := 11, slots := #[.null, .int 2, .int 0, .ref 10], vm := .none },
  { cls := 7, slots := #[.ref 11, .int 0, .int 0, .int 0], vm := .none },
  { cls := 7, slots := #[.ref 12, .int 0, .int 0, .int 0], vm := .none },
  { cls := 7, slots := #[.ref 13, .int 0, .int 0, .int 0], vm := .none },
  { cls := 18, slots := #[.int 110, .int 111, .int 110, .int 101], vm := .none },
  { cls := 18, slots := #[.int 99, .int 115, .int 118], vm := .none },
  { cls := 18, slots := #[.int 100, .int 97, .int 116, .int 97, .int 98, .int 97, .int 115, .int 101], vm := .none },
  { cls := 12, slots := #[.null], vm := .none }]
def classes : Array Class := #[k0, k1, k2, k3, k4, k5, k6, k7, k8, k9, k10, k11, k12, k13, k14, k15, k16, k17, k18, k19, k20, k21, k22, k23]
def interned : List (Array UInt16 × Addr) := []
def slotsUsed : Nat := 58
def theMethod : MethodId := ⟨1, 2⟩
def args0 : Array Value := #[.int 5, .int 2, .int 7, .int 8, .int 9, .int 65]
def aboutOver (below : List Frame) : State where
  vm := { classes := classes, interned := interned.toArray }
  heap := heap
  slotsUsed := slotsUsed
  threads := #[{ frames := .invoking theMethod args0 :: below }]
def below0 : List Frame := [.native { method := ⟨0, 0⟩, args := #[] }]
def about1 : State := aboutOver below0
def p0 : Program := .bare "" "" ""
def e0 : Env := launch0.env 0 0 0
theorem w_frames : about1.frames = Frame.invoking theMethod args0 :: below0 := rfl
set_option maxRecDepth 65536 in
theorem w_args : argsFit about1.vm theMethod args0 = true := by decide +kernel
set_option maxRecDepth 65536 in
theorem w_heap : heapFits about1 = true := by decide +kernel
set_option maxRecDepth 65536 in
theorem w_runnable : about1.curStatus? = some .runnable := by decide +kernel
set_option maxRecDepth 65536 in
theorem w_alone : about1.alone = true := by decide +kernel
set_option maxRecDepth 65536 in
theorem w_named : about1.methodNamed? x = some theMethod := by decide +kernel
set_option maxRecDepth 65536 in
theorem w_hears : about1.hears theMethod below0 = true := by decide +kernel
set_option maxRecDepth 65536 in
theorem w_ripe : about1.ripe theMethod args0 below0 = true := by decide +kernel
theorem w_running : about1.status = .running := rfl
set_option maxRecDepth 65536 in
theorem w_room : about1.hasRoom e0.platform room_1 = true :=
  launch0.hasRoom_least _ room_1 (by decide +kernel) (by decide +kernel) (by decide +kernel) (by decide +kernel) (by decide +kernel) (by decide +kernel)
theorem allAtoms_all (ts : List Jvm.Cond) (a : Array Jvm.Value) (st : Jvm.State) : (allAtoms ts).before a st = ts.all (fun c => c.before a st) := by
  induction ts with
  | nil => rfl
  | cons c t ih =>
    show (Jvm.Cond.and c (allAtoms t)).before a st = _
    rw [Jvm.Cond.before_and, ih, List.all_cons]
def words1 : List Jvm.Cond := Jvm.Cond.code x code maxLocals ret :: tables_1
/-- a 'code' word, met by the world's own term for the bytes: nothing is compared byte by byte -/
theorem code_word {y : MethodName} {bytes : ByteArray} {mx : Nat} {rt : Option FieldType} {a : Array Value} {s : State} {m : MethodId} {meth : Method} {c : Code} (h1 : s.methodNamed? y = some m) (h2 : s.vm.method? m = some meth) (h3 : meth.code = some c) (h4 : c.code = bytes)
    (h5 : (c.maxLocals == mx && c.exceptionTable.isEmpty && decide (c.maxStack ≤ mostOperands) && decide (meth.sig.returnType = rt) && !meth.locks && decide (parseMethodDescriptor y.desc = some meth.sig)) = true) : (Jvm.Cond.code y bytes mx rt).before a s = true := by
  simp only [Bool.and_eq_true, beq_iff_eq, Bool.not_eq_true', decide_eq_true_eq] at h5
  obtain ⟨⟨⟨⟨⟨g1, g2⟩, g3⟩, g4⟩, g5⟩, g6⟩ := h5
  simp [Cond.before, Cond.holds, Cond.value, h1, h2, h3, h4, g1, g2, g3, g4, g5, g6]
def isCode : Jvm.Cond → Bool
  | .code _ _ _ _ => true
  | _ => false
theorem all_split {L : List Jvm.Cond} {P : Jvm.Cond → Bool} (h1 : L.all (fun c => isCode c || P c) = true) (h2 : ∀ c ∈ L.filter isCode, P c = true) : L.all P = true := by
  refine List.all_eq_true.mpr fun c hc => ?_
  have h := List.all_eq_true.mp h1 c hc
  rcases Bool.eq_false_or_eq_true (isCode c) with hi | hi
  · exact h2 c (List.mem_filter.mpr ⟨hc, hi⟩)
  · simpa [hi] using h
set_option maxRecDepth 65536 in
theorem w_c0 : (Jvm.Cond.code x code maxLocals ret).before args0 about1 = true := code_word (m := ⟨1, 2⟩) (meth := k1m2) (c := k1c2) (by decide +kernel) rfl rfl rfl (by decide +kernel)
set_option maxRecDepth 65536 in
theorem w_c1 : (Jvm.Cond.code ({ cls := "com/example/lifetable/lifetable/output/ExportFormatNamedPinLaw", name := "str", desc := "([CI)Ljava/lang/String;" } : Jvm.MethodName) method_2_code (2 : Nat) (Option.some (Jvm.ClassFile.FieldType.object "java/lang/String"))).before args0 about1 = true := code_word (m := ⟨1, 1⟩) (meth := k1m1) (c := k1c1) (by decide +kernel) rfl rfl rfl (by decide +kernel)
set_option maxRecDepth 65536 in
theorem w_c2 : (Jvm.Cond.code ({ cls := "java/lang/String", name := "<init>", desc := "([C)V" } : Jvm.MethodName) jdk_42_method_3_code (2 : Nat) (Option.none : Option Jvm.ClassFile.FieldType)).before args0 about1 = true := code_word (m := ⟨7, 1⟩) (meth := k7m1) (c := k7c1) (by decide +kernel) rfl rfl rfl (by decide +kernel)
set_option maxRecDepth 65536 in
theorem w_c3 : (Jvm.Cond.code ({ cls := "java/lang/String", name := "<init>", desc := "([CIILjava/lang/Void;)V" } : Jvm.MethodName) jdk_42_method_149_code (6 : Nat) (Option.none : Option Jvm.ClassFile.FieldType)).before args0 about1 = true := code_word (m := ⟨7, 3⟩) (meth := k7m3) (c := k7c3) (by decide +kernel) rfl rfl rfl (by decide +kernel)
set_option maxRecDepth 65536 in
theorem w_c4 : (Jvm.Cond.code ({ cls := "java/lang/Object", name := "<init>", desc := "()V" } : Jvm.MethodName) object_method_1_code (1 : Nat) (Option.none : Option Jvm.ClassFile.FieldType)).before args0 about1 = true := code_word (m := ⟨0, 0⟩) (meth := k0m0) (c := k0c0) (by decide +kernel) rfl rfl rfl (by decide +kernel)
set_option maxRecDepth 65536 in
theorem w_c5 : (Jvm.Cond.code ({ cls := "java/lang/StringUTF16", name := "compress", desc := "([CII)[B" } : Jvm.MethodName) jdk_52_method_16_code (6 : Nat) (Option.some (Jvm.ClassFile.FieldType.array Jvm.ClassFile.FieldType.byte))).before args0 about1 = true := code_word (m := ⟨8, 2⟩) (meth := k8m2) (c := k8c2) (by decide +kernel) rfl rfl rfl (by decide +kernel)
set_option maxRecDepth 65536 in
theorem w_c6 : (Jvm.Cond.code ({ cls := "java/lang/StringUTF16", name := "compress", desc := "([CI[BII)I" } : Jvm.MethodName) jdk_52_method_21_code (7 : Nat) (Option.some Jvm.ClassFile.FieldType.int)).before args0 about1 = true := code_word (m := ⟨8, 3⟩) (meth := k8m3) (c := k8c3) (by decide +kernel) rfl rfl rfl (by decide +kernel)
set_option maxRecDepth 65536 in
theorem w_c7 : (Jvm.Cond.code ({ cls := "java/lang/StringUTF16", name := "coderFromArrayLen", desc := "([BI)B" } : Jvm.MethodName) jdk_52_method_15_code (2 : Nat) (Option.some Jvm.ClassFile.FieldType.byte)).before args0 about1 = true := code_word (m := ⟨8, 1⟩) (meth := k8m1) (c := k8c1) (by decide +kernel) rfl rfl rfl (by decide +kernel)
set_option maxRecDepth 65536 in
theorem w_c8 : (Jvm.Cond.code ({ cls := "java/lang/String", name := "equals", desc := "(Ljava/lang/Object;)Z" } : Jvm.MethodName) jdk_42_method_66_code (3 : Nat) (Option.some Jvm.ClassFile.FieldType.boolean)).before args0 about1 = true := code_word (m := ⟨7, 2⟩) (meth := k7m2) (c := k7c2) (by decide +kernel) rfl rfl rfl (by decide +kernel)
set_option maxRecDepth 65536 in
theorem w_c9 : (Jvm.Cond.code ({ cls := "java/lang/StringLatin1", name := "equals", desc := "([B[B)Z" } : Jvm.MethodName) jdk_43_method_13_code (3 : Nat) (Option.some Jvm.ClassFile.FieldType.boolean)).before args0 about1 = true := code_word (m := ⟨9, 1⟩) (meth := k9m1) (c := k9c1) (by decide +kernel) rfl rfl rfl (by decide +kernel)
set_option maxRecDepth 65536 in
theorem w_c10 : (Jvm.Cond.code ({ cls := "com/example/lifetable/lifetable/output/ExportFormat", name := "named", desc := "(Ljava/lang/String;)Ljava/util/Optional;" } : Jvm.MethodName) prog_26_method_4_code (6 : Nat) (Option.some (Jvm.ClassFile.FieldType.object "java/util/Optional"))).before args0 about1 = true := code_word (m := ⟨11, 1⟩) (meth := k11m1) (c := k11c1) (by decide +kernel) rfl rfl rfl (by decide +kernel)
set_option maxRecDepth 65536 in
theorem w_c11 : (Jvm.Cond.code ({ cls := "java/util/Optional", name := "empty", desc := "()Ljava/util/Optional;" } : Jvm.MethodName) jdk_32_method_1_code (1 : Nat) (Option.some (Jvm.ClassFile.FieldType.object "java/util/Optional"))).before args0 about1 = true := code_word (m := ⟨12, 0⟩) (meth := k12m0) (c := k12c0) (by decide +kernel) rfl rfl rfl (by decide +kernel)
set_option maxRecDepth 65536 in
theorem w_c12 : (Jvm.Cond.code ({ cls := "com/example/lifetable/lifetable/output/ExportFormat", name := "values", desc := "()[Lcom/example/lifetable/lifetable/output/ExportFormat;" } : Jvm.MethodName) prog_26_method_1_code (0 : Nat) (Option.some (Jvm.ClassFile.FieldType.array (Jvm.ClassFile.FieldType.object "com/example/lifetable/lifetable/output/ExportFormat")))).before args0 about1 = true := code_word (m := ⟨11, 0⟩) (meth := k11m0) (c := k11c0) (by decide +kernel) rfl rfl rfl (by decide +kernel)
set_option maxRecDepth 65536 in
theorem w_c13 : (Jvm.Cond.code ({ cls := "java/util/Optional", name := "orElse", desc := "(Ljava/lang/Object;)Ljava/lang/Object;" } : Jvm.MethodName) jdk_32_method_15_code (2 : Nat) (Option.some (Jvm.ClassFile.FieldType.object "java/lang/Object"))).before args0 about1 = true := code_word (m := ⟨12, 3⟩) (meth := k12m3) (c := k12c3) (by decide +kernel) rfl rfl rfl (by decide +kernel)
set_option maxRecDepth 65536 in
theorem w_c14 : (Jvm.Cond.code ({ cls := "java/util/Optional", name := "of", desc := "(Ljava/lang/Object;)Ljava/util/Optional;" } : Jvm.MethodName) jdk_32_method_3_code (1 : Nat) (Option.some (Jvm.ClassFile.FieldType.object "java/util/Optional"))).before args0 about1 = true := code_word (m := ⟨12, 2⟩) (meth := k12m2) (c := k12c2) (by decide +kernel) rfl rfl rfl (by decide +kernel)
set_option maxRecDepth 65536 in
theorem w_c15 : (Jvm.Cond.code ({ cls := "java/util/Objects", name := "requireNonNull", desc := "(Ljava/lang/Object;)Ljava/lang/Object;" } : Jvm.MethodName) jdk_31_method_10_code (1 : Nat) (Option.some (Jvm.ClassFile.FieldType.object "java/lang/Object"))).before args0 about1 = true := code_word (m := ⟨14, 1⟩) (meth := k14m1) (c := k14c1) (by decide +kernel) rfl rfl rfl (by decide +kernel)
set_option maxRecDepth 65536 in
theorem w_c16 : (Jvm.Cond.code ({ cls := "java/util/Optional", name := "<init>", desc := "(Ljava/lang/Object;)V" } : Jvm.MethodName) jdk_32_method_2_code (2 : Nat) (Option.none : Option Jvm.ClassFile.FieldType)).before args0 about1 = true := code_word (m := ⟨12, 1⟩) (meth := k12m1) (c := k12c1) (by decide +kernel) rfl rfl rfl (by decide +kernel)
def codes1 : List Jvm.Cond := [Jvm.Cond.code x code maxLocals ret, Jvm.Cond.code ({ cls := "com/example/lifetable/lifetable/output/ExportFormatNamedPinLaw", name := "str", desc := "([CI)Ljava/lang/String;" } : Jvm.MethodName) method_2_code (2 : Nat) (Option.some (Jvm.ClassFile.FieldType.object "java/lang/String")), Jvm.Cond.code ({ cls := "java/lang/String", name := "<init>", desc := "([C)V" } : Jvm.MethodName) jdk_42_method_3_code (2 : Nat) (Option.none : Option Jvm.ClassFile.FieldType), Jvm.Cond.code ({ cls := "java/lang/String", name := "<init>", desc := "([CIILjava/lang/Void;)V" } : Jvm.MethodName) jdk_42_method_149_code (6 : Nat) (Option.none : Option Jvm.ClassFile.FieldType), Jvm.Cond.code ({ cls := "java/lang/Object", name := "<init>", desc := "()V" } : Jvm.MethodName) object_method_1_code (1 : Nat) (Option.none : Option Jvm.ClassFile.FieldType), Jvm.Cond.code ({ cls := "java/lang/StringUTF16", name := "compress", desc := "([CII)[B" } : Jvm.MethodName) jdk_52_method_16_code (6 : Nat) (Option.some (Jvm.ClassFile.FieldType.array Jvm.ClassFile.FieldType.byte)), Jvm.Cond.code ({ cls := "java/lang/StringUTF16", name := "compress", desc := "([CI[BII)I" } : Jvm.MethodName) jdk_52_method_21_code (7 : Nat) (Option.some Jvm.ClassFile.FieldType.int), Jvm.Cond.code ({ cls := "java/lang/StringUTF16", name := "coderFromArrayLen", desc := "([BI)B" } : Jvm.MethodName) jdk_52_method_15_code (2 : Nat) (Option.some Jvm.ClassFile.FieldType.byte), Jvm.Cond.code ({ cls := "java/lang/String", name := "equals", desc := "(Ljava/lang/Object;)Z" } : Jvm.MethodName) jdk_42_method_66_code (3 : Nat) (Option.some Jvm.ClassFile.FieldType.boolean), Jvm.Cond.code ({ cls := "java/lang/StringLatin1", name := "equals", desc := "([B[B)Z" } : Jvm.MethodName) jdk_43_method_13_code (3 : Nat) (Option.some Jvm.ClassFile.FieldType.boolean), Jvm.Cond.code ({ cls := "com/example/lifetable/lifetable/output/ExportFormat", name := "named", desc := "(Ljava/lang/String;)Ljava/util/Optional;" } : Jvm.MethodName) prog_26_method_4_code (6 : Nat) (Option.some (Jvm.ClassFile.FieldType.object "java/util/Optional")), Jvm.Cond.code ({ cls := "java/util/Optional", name := "empty", desc := "()Ljava/util/Optional;" } : Jvm.MethodName) jdk_32_method_1_code (1 : Nat) (Option.some (Jvm.ClassFile.FieldType.object "java/util/Optional")), Jvm.Cond.code ({ cls := "com/example/lifetable/lifetable/output/ExportFormat", name := "values", desc := "()[Lcom/example/lifetable/lifetable/output/ExportFormat;" } : Jvm.MethodName) prog_26_method_1_code (0 : Nat) (Option.some (Jvm.ClassFile.FieldType.array (Jvm.ClassFile.FieldType.object "com/example/lifetable/lifetable/output/ExportFormat"))), Jvm.Cond.code ({ cls := "java/util/Optional", name := "orElse", desc := "(Ljava/lang/Object;)Ljava/lang/Object;" } : Jvm.MethodName) jdk_32_method_15_code (2 : Nat) (Option.some (Jvm.ClassFile.FieldType.object "java/lang/Object")), Jvm.Cond.code ({ cls := "java/util/Optional", name := "of", desc := "(Ljava/lang/Object;)Ljava/util/Optional;" } : Jvm.MethodName) jdk_32_method_3_code (1 : Nat) (Option.some (Jvm.ClassFile.FieldType.object "java/util/Optional")), Jvm.Cond.code ({ cls := "java/util/Objects", name := "requireNonNull", desc := "(Ljava/lang/Object;)Ljava/lang/Object;" } : Jvm.MethodName) jdk_31_method_10_code (1 : Nat) (Option.some (Jvm.ClassFile.FieldType.object "java/lang/Object")), Jvm.Cond.code ({ cls := "java/util/Optional", name := "<init>", desc := "(Ljava/lang/Object;)V" } : Jvm.MethodName) jdk_32_method_2_code (2 : Nat) (Option.none : Option Jvm.ClassFile.FieldType)]
set_option maxRecDepth 65536 in
theorem codes_eq : words1.filter isCode = codes1 := rfl
theorem w_codes : ∀ c ∈ words1.filter isCode, c.before args0 about1 = true := by
  rw [codes_eq]
  intro c hc
  simp only [codes1, List.mem_cons, List.not_mem_nil, or_false] at hc
  rcases hc with rfl | rfl | rfl | rfl | rfl | rfl | rfl | rfl | rfl | rfl | rfl | rfl | rfl | rfl | rfl | rfl | rfl
  · exact w_c0
  · exact w_c1
  · exact w_c2
  · exact w_c3
  · exact w_c4
  · exact w_c5
  · exact w_c6
  · exact w_c7
  · exact w_c8
  · exact w_c9
  · exact w_c10
  · exact w_c11
  · exact w_c12
  · exact w_c13
  · exact w_c14
  · exact w_c15
  · exact w_c16
set_option maxRecDepth 65536 in
theorem w_t1 : (words1.take 24).all (fun c => isCode c || c.before args0 about1) = true := by decide +kernel
set_option maxRecDepth 65536 in
theorem w_t2 : ((words1.drop 24).take 24).all (fun c => isCode c || c.before args0 about1) = true := by decide +kernel
set_option maxRecDepth 65536 in
theorem w_t3 : (((words1.drop 24).drop 24).take 24).all (fun c => isCode c || c.before args0 about1) = true := by decide +kernel
set_option maxRecDepth 65536 in
theorem w_t4 : ((((words1.drop 24).drop 24).drop 24).take 24).all (fun c => isCode c || c.before args0 about1) = true := by decide +kernel
set_option maxRecDepth 65536 in
theorem w_t5 : ((((words1.drop 24).drop 24).drop 24).drop 24).all (fun c => isCode c || c.before args0 about1) = true := by decide +kernel
theorem w_tables : (allAtoms (Jvm.Cond.code x code maxLocals ret :: tables_1)).before args0 about1 = true := by
  rw [allAtoms_all]
  show words1.all (fun c => c.before args0 about1) = true
  refine all_split ?_ w_codes
  rw [← List.take_append_drop 24 words1, List.all_append, w_t1, ← List.take_append_drop 24 (words1.drop 24), List.all_append, w_t2, ← List.take_append_drop 24 ((words1.drop 24).drop 24), List.all_append, w_t3, ← List.take_append_drop 24 (((words1.drop 24).drop 24).drop 24), List.all_append, w_t4, w_t5]
  rfl
set_option maxRecDepth 65536 in
theorem w_rest : rest_1_c.before args0 about1 = true := by decide +kernel
set_option maxRecDepth 65536 in
theorem w_case : (Jvm.Cond.and given_1 narrow_1).before args0 about1 = true := by decide +kernel
set_option maxRecDepth 65536 in
theorem w_consts : constsHeld consts_1 about1 := Jvm.Lit.constsHeldB_iff.mp (by decide +kernel)
theorem w_applies : (headSpec (Jvm.Cond.code x code maxLocals ret :: tables_1) room_1).applies x e0.platform about1 = true :=
  (Spec.applies_iff w_frames).mpr ⟨w_running, w_runnable, w_alone, w_named, w_hears, w_ripe, w_room, w_tables⟩
theorem atStart : AtStart classFile x code maxLocals ret World_1 tables_1 room_1 Calls_1 rest_1 Pre_1 launch0 p0 e0 about1 theMethod args0 below0 :=
  ⟨lists_1, trivial, launch0.admits_env _ _ _, launch0.least_env, fairChoices_fair.cas, fairChoices_fair.clock, w_frames, w_args, w_heap, w_applies, ⟨w_consts, trivial⟩, w_rest, w_case⟩
end start1
theorem witness_1 : WitnessClaimed_1 := ⟨start1.p0, start1.e0, start1.about1, start1.theMethod, start1.args0, start1.below0, start1.atStart⟩
end Jvm.Pilot.@@N@@
