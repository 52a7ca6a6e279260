import JvmDerived
import JvmDerived.Pilot.@@N@@Statement
import JvmDerived.Pilot.@@N@@Code
set_option linter.unusedVariables false
set_option linter.unusedSimpArgs false
namespace Jvm.RoadKit
open Sem ClassFile Op Lib Jvm.Stand Jvm.Free Jvm.LawKit
section New
variable {p : Program} {l : Launch} {e : Env} {R : Room} {s : State} {m : MethodId} {args : Array Value} {below : List Frame} {meth : Method} {c : Code} {T : State} {locs : List Loc} {cells slots : Nat}
theorem retI (X : Stand p l e R s m args below meth c T locs cells slots) (hx : p.tables.exec = Jvm.exec) {pc : Nat} {Ls : Array Slot} {z : Int32} {rest : List Value} (hret : meth.sig.returnType = some .int) (hd : decode c.code pc = .ok (.ireturn, 1)) {fs : List Frame}
    (hl : ∀ (f : JFrame) (acts : List Action), f.method = m → f.locked = none → f.entered = [] → (doReturn e (T.setTop f) acts (some (.int z))).1 = T.setFrames fs) : Steps p.tables e below (T.setTop (mkF m pc Ls (.int z :: rest))) (T.setFrames fs) := by
  have hm' : T.vm.method? m = some meth := X.method'
  have hn : narrow .int (.int z) = .int z := rfl
  show Steps p.tables e below (T.setTop { method := m, pc := pc, locals := Ls, stack := _ :: rest, locked := none }) _
  jvm_step X.here [X.here.top, hx, hd, hm', hret, hn]
  first | (intro acts; rw [hl _ acts rfl rfl rfl]) | rw [hl _ _ rfl rfl rfl]
  exact Steps.refl _
theorem own_retJ (X : Stand p l e R s m args below meth c T locs cells slots) (hx : p.tables.exec = Jvm.exec) {pc : Nat} {Ls : Array Slot} {z : Int64} {rest : List Value} (hret : meth.sig.returnType = some .long) (hd : decode c.code pc = .ok (.lreturn, 1)) {fs : List Frame}
    (hl : ∀ (f : JFrame) (acts : List Action), f.method = m → f.locked = none → f.entered = [] → (doReturn e (T.setTop f) acts (some (.long z))).1 = T.setFrames fs) : Steps p.tables e below (T.setTop (mkF m pc Ls (.long z :: rest))) (T.setFrames fs) := by
  have hm' : T.vm.method? m = some meth := X.method'
  show Steps p.tables e below (T.setTop { method := m, pc := pc, locals := Ls, stack := _ :: rest, locked := none }) _
  jvm_step X.here [X.here.top, hx, hd, hm', hret, narrow]
  first | (intro acts; rw [hl _ acts rfl rfl rfl]) | rw [hl _ _ rfl rfl rfl]
  exact Steps.refl _
theorem own_retA (X : Stand p l e R s m args below meth c T locs cells slots) (hx : p.tables.exec = Jvm.exec) {pc : Nat} {Ls : Array Slot} {z : Addr} {rest : List Value} {ty : FieldType} (hret : meth.sig.returnType = some ty) (hty : ty.isReference = true) (hd : decode c.code pc = .ok (.areturn, 1)) {fs : List Frame}
    (hl : ∀ (f : JFrame) (acts : List Action), f.method = m → f.locked = none → f.entered = [] → (doReturn e (T.setTop f) acts (some (.ref z))).1 = T.setFrames fs) : Steps p.tables e below (T.setTop (mkF m pc Ls (.ref z :: rest))) (T.setFrames fs) := by
  have hm' : T.vm.method? m = some meth := X.method'
  show Steps p.tables e below (T.setTop { method := m, pc := pc, locals := Ls, stack := _ :: rest, locked := none }) _
  jvm_step X.here [X.here.top, hx, hd, hm', hret, hty, Value.isRef]
  first | (intro acts; rw [hl _ acts rfl rfl rfl]) | rw [hl _ _ rfl rfl rfl]
  exact Steps.refl _
end New
end Jvm.RoadKit
/- laws to paste: Road.backV, Road.lenW, Road.chN, Road.codOf (cut by pick.py; bodies as the Statement names them) -/
namespace Jvm.Pilot.@@N@@
namespace StrChars
open Jvm Sem ClassFile Op Lib Jvm.Stand Jvm.Free.XT Jvm.Free.ALB Jvm.Free.JM Jvm.Free
open Jvm.Lib.Cold (StaticIs)
/-- a char array whose places are chars -/
def Ch (a : Addr) (A : Cell) (U : State) : Prop := Arr .char a A U ∧ Typed .char A
theorem Ch.mv {a : Addr} {A : Cell} {U U' : State} (h : Ch a A U) (hal : U.vm.Alike U'.vm) (hh : U'.heap = U.heap) : Ch a A U' := ⟨h.1.mv hal hh, h.2⟩
theorem Ch.keep {a : Addr} {A : Cell} {U U' : State} (h : Ch a A U) (hal : U.vm.Alike U'.vm) (hk : U'.heap[a]? = some A) : Ch a A U' := ⟨h.1.keep hal hk, h.2⟩
/-- what place i of a char[]'s cell holds -/
def cv (A : Cell) (i : Nat) : Int32 := match A.slots[i]? with | some (.int x) => x | _ => 0
theorem Ch.get {a : Addr} {A : Cell} {U : State} (h : Ch a A U) {i : Nat} (hi : i < A.slots.size) : A.slots[i]? = some (.int (cv A i)) := by
  have e := Array.getElem?_eq_getElem hi
  have f := h.2 i _ e
  unfold cv; rw [e]
  generalize A.slots[i] = v at f
  cases v <;> simp [fits] at f ⊢
/-- the byte that i2b leaves of a char -/
def lo8 (x : Int32) : Int32 := x.toInt8.toInt32
theorem fits_lo8 (y : Int32) : fits .byte (.int (lo8 y)) = true := by
  have h1 := y.toInt8.le_toInt
  have h2 := y.toInt8.toInt_lt
  simp only [lo8, fits, Bool.and_eq_true, decide_eq_true_eq, Int32.le_iff_toInt_le, Int8.toInt_toInt32, show (-128 : Int32).toInt = -128 from by decide, show (127 : Int32).toInt = 127 from by decide]
  omega
/-- A' is A but that each place j of lo .. hi - 1 holds f j -/
def Laid (A A' : Cell) (lo hi : Nat) (f : Nat → Value) : Prop := A'.cls = A.cls ∧ A'.vm = A.vm ∧ A'.slots.size = A.slots.size ∧ ∀ i, A'.slots[i]? = if lo ≤ i ∧ i < hi then some (f i) else A.slots[i]?
theorem Laid.zero (A : Cell) (lo : Nat) (f : Nat → Value) : Laid A A lo (lo + 0) f := ⟨rfl, rfl, rfl, fun i => by rw [if_neg (by omega)]⟩
theorem Laid.step {A Ak : Cell} {lo k : Nat} {f : Nat → Value} {v : Value} (h : Laid A Ak lo k f) (hlo : lo ≤ k) (hk : k < Ak.slots.size) (hv : v = f k) : Laid A (Ak.setSlot k v) lo (k + 1) f := by
  refine ⟨h.1, h.2.1, by simpa [Cell.setSlot] using h.2.2.1, fun i => ?_⟩
  by_cases e : k = i
  · subst e; rw [Cell.slots_setSlot_self v hk, if_pos (by omega), hv]
  · rw [Cell.slots_setSlot_ne v e, h.2.2.2 i]
    by_cases q : lo ≤ i ∧ i < k
    · rw [if_pos q, if_pos (by omega)]
    · rw [if_neg q, if_neg (by omega)]
def U16 : String := "java/lang/StringUTF16"
namespace Cmp5
def yN : MethodName := ⟨"java/lang/StringUTF16", "compress", "([CI[BII)I"⟩
abbrev yB : ByteArray := jdk_52_method_21_code
theorem d0 : decode yB 0 = .ok (.iconst 0, 1) := by decide +kernel
theorem d1 : decode yB 1 = .ok (.istore 5, 2) := by decide +kernel
theorem d3 : decode yB 3 = .ok (.iload 5, 2) := by decide +kernel
theorem d5 : decode yB 5 = .ok (.iload 4, 2) := by decide +kernel
theorem d7 : decode yB 7 = .ok (.if_icmp (.ge) 37, 3) := by decide +kernel
theorem d10 : decode yB 10 = .ok (.aload_n 0, 1) := by decide +kernel
theorem d11 : decode yB 11 = .ok (.iload_n 1, 1) := by decide +kernel
theorem d12 : decode yB 12 = .ok (.caload, 1) := by decide +kernel
theorem d13 : decode yB 13 = .ok (.istore 6, 2) := by decide +kernel
theorem d15 : decode yB 15 = .ok (.iload 6, 2) := by decide +kernel
theorem d17 : decode yB 17 = .ok (.sipush 255, 3) := by decide +kernel
theorem d20 : decode yB 20 = .ok (.if_icmp (.le) 6, 3) := by decide +kernel
theorem d26 : decode yB 26 = .ok (.aload_n 2, 1) := by decide +kernel
theorem d27 : decode yB 27 = .ok (.iload_n 3, 1) := by decide +kernel
theorem d28 : decode yB 28 = .ok (.iload 6, 2) := by decide +kernel
theorem d30 : decode yB 30 = .ok (.i2b, 1) := by decide +kernel
theorem d31 : decode yB 31 = .ok (.bastore, 1) := by decide +kernel
theorem d32 : decode yB 32 = .ok (.iinc 1 1, 3) := by decide +kernel
theorem d35 : decode yB 35 = .ok (.iinc 3 1, 3) := by decide +kernel
theorem d38 : decode yB 38 = .ok (.iinc 5 1, 3) := by decide +kernel
theorem d41 : decode yB 41 = .ok (.goto (-38), 3) := by decide +kernel
theorem d44 : decode yB 44 = .ok (.iload 4, 2) := by decide +kernel
theorem d46 : decode yB 46 = .ok (.ireturn, 1) := by decide +kernel
def site : List Cond := []
def tab : Cond := tabOf yN yB 7 (some .int) site
def P (b : Addr) (A : Cell) (d : Addr) (B : Cell) (o q len : Nat) (args : Array Value) (s : State) : Prop := args = #[.ref b, .int (Int32.ofNat o), .ref d, .int (Int32.ofNat q), .int (Int32.ofNat len)] ∧ Ch b A s ∧ Arr .byte d B s ∧ b ≠ d ∧ o + len ≤ A.slots.size ∧ q + len ≤ B.slots.size ∧ ∀ i, i < len → ¬ 255 < cv A (o + i)
def E (b : Addr) (A : Cell) (d : Addr) (B : Cell) (o q len : Nat) (r : Option Value) (s u : State) : Prop := r = some (.int (Int32.ofNat len)) ∧ ∃ B', Put d B' s u ∧ Laid B B' q (q + len) (fun j => Value.int (lo8 (cv A (o + (j - q)))))
/-- no char of the range above 255: len; the places written hold each char's low byte -/
theorem law (l : Launch) (b : Addr) (A : Cell) (d : Addr) (B : Cell) (o q len : Nat) : Law l yN 5 5 0 0 yB 7 (some .int) site (P b A d B o q len) (E b A d B o q len) (copyLocs d q len) 0 0 := by
  refine Law.of_walk (plainFor_of_name (by decide +kernel)) (by decide +kernel) (by decide +kernel) (by decide) (fun _ _ h => by rw [h.1]; rfl) (fun _ U U' hal hh h => ⟨h.1, h.2.1.mv hal hh, h.2.2.1.mv hal hh, h.2.2.2⟩) (fun r U U' V V' h1 hal h2 h => ⟨h.1, h.2.elim fun B' q => ⟨B', q.1.mv h1 h2, q.2⟩⟩) ?_
  intro p e s m args below meth c s₁ X0 hexec hbytes hml hret hlk hnm hown hh0 W hP
  obtain ⟨rfl, hA, hB, hne, l1, l2, hp⟩ := hP
  have c1 : Steps p.tables e below (s₁.setTop (entryFrame m #[.ref b, .int (Int32.ofNat o), .ref d, .int (Int32.ofNat q), .int (Int32.ofNat len)] 7)) (s₁.setTop (mkF m 0 #[.val (.ref b), .val (.int (Int32.ofNat o)), .val (.ref d), .val (.int (Int32.ofNat q)), .val (.int (Int32.ofNat len)), .unset, .unset] [])) := entry rfl
  have hA0 := hA.1.mv X0.warmed.alike hh0
  have hB0 := hB.mv X0.warmed.alike hh0
  have a31 := hA.1.2.2.2
  have c2 : Steps p.tables e below (s₁.setTop (entryFrame m #[.ref b, .int (Int32.ofNat o), .ref d, .int (Int32.ofNat q), .int (Int32.ofNat len)] 7)) (s₁.setTop (mkF m 3 #[.val (.ref b), .val (.int (Int32.ofNat o)), .val (.ref d), .val (.int (Int32.ofNat q)), .val (.int (Int32.ofNat len)), .val (.int 0), .unset] [])) := c1.trans (by
    refine iconstV X0.here hexec rfl 0 (hb hbytes d0) (by decide) ?_
    refine XS.istore X0.here hexec rfl (hb hbytes d1) rfl rfl ?_
    exact Steps.refl _)
  have loop : ∀ (r i : Nat), i + r = len → ∀ (z : Slot), (z = .unset ∨ ∃ w, z = .val w ∧ w.category = 1) → ∀ (Tl : State) (Bk : Cell), Stand p l e { frames := 0, locals := 0, cells := 0, slots := 0 } s m #[.ref b, .int (Int32.ofNat o), .ref d, .int (Int32.ofNat q), .int (Int32.ofNat len)] below meth c Tl ([] ++ copyLocs d q i) 0 0 → Put d Bk s₁ Tl → Laid B Bk q (q + i) (fun j => Value.int (lo8 (cv A (o + (j - q))))) →
      Steps p.tables e below (s₁.setTop (entryFrame m #[.ref b, .int (Int32.ofNat o), .ref d, .int (Int32.ofNat q), .int (Int32.ofNat len)] 7)) (Tl.setTop (mkF m 3 #[.val (.ref b), .val (.int (Int32.ofNat (o + i))), .val (.ref d), .val (.int (Int32.ofNat (q + i))), .val (.int (Int32.ofNat len)), .val (.int (Int32.ofNat i)), z] [])) → ∃ (T' : State) (B' : Cell) (z' : Slot), Stand p l e { frames := 0, locals := 0, cells := 0, slots := 0 } s m #[.ref b, .int (Int32.ofNat o), .ref d, .int (Int32.ofNat q), .int (Int32.ofNat len)] below meth c T' ([] ++ copyLocs d q len) 0 0 ∧ Put d B' s₁ T' ∧ Laid B B' q (q + len) (fun j => Value.int (lo8 (cv A (o + (j - q))))) ∧
      Steps p.tables e below (s₁.setTop (entryFrame m #[.ref b, .int (Int32.ofNat o), .ref d, .int (Int32.ofNat q), .int (Int32.ofNat len)] 7)) (T'.setTop (mkF m 3 #[.val (.ref b), .val (.int (Int32.ofNat (o + len))), .val (.ref d), .val (.int (Int32.ofNat (q + len))), .val (.int (Int32.ofNat len)), .val (.int (Int32.ofNat len)), z'] [])) := by
    intro r
    induction r with
    | zero =>
      intro i hi z hz Tl Bk Xl pl fl cl
      have hil : i = len := by omega
      rw [hil] at Xl fl cl
      exact ⟨Tl, Bk, z, Xl, pl, fl, cl⟩
    | succ r ih =>
      intro i hi z hz Tl Bk Xl pl fl cl
      have all := X0.warmed.alike.symm.trans Xl.warmed.alike
      have hAl := hA0.keep all (pl.other hne hA0.1)
      have hBk := hB0.like all pl.1 fl.1 fl.2.1 fl.2.2.1
      have hlt : q + i < Bk.slots.size := by rw [fl.2.2.1]; omega
      have c3 : Steps p.tables e below (s₁.setTop (entryFrame m #[.ref b, .int (Int32.ofNat o), .ref d, .int (Int32.ofNat q), .int (Int32.ofNat len)] 7)) (Tl.setTop (mkF m 12 #[.val (.ref b), .val (.int (Int32.ofNat (o + i))), .val (.ref d), .val (.int (Int32.ofNat (q + i))), .val (.int (Int32.ofNat len)), .val (.int (Int32.ofNat i)), z] [.int (Int32.ofNat (o + i)), .ref b])) := cl.trans (by
        refine XS.iload Xl.here hexec rfl (hb hbytes d3) rfl ?_
        refine XS.iload Xl.here hexec rfl (hb hbytes d5) rfl ?_
        refine XS.icmpNo Xl.here hexec rfl (hb hbytes d7) rfl (ii_ge_f (lt32 (by omega) (by omega))) ?_
        refine XS.aloadN Xl.here hexec rfl (hb hbytes d10) rfl rfl ?_
        refine XS.iloadN Xl.here hexec rfl (hb hbytes d11) rfl ?_
        exact Steps.refl _)
      have c4 : Steps p.tables e below (s₁.setTop (entryFrame m #[.ref b, .int (Int32.ofNat o), .ref d, .int (Int32.ofNat q), .int (Int32.ofNat len)] 7)) (Tl.setTop (mkF m 13 #[.val (.ref b), .val (.int (Int32.ofNat (o + i))), .val (.ref d), .val (.int (Int32.ofNat (q + i))), .val (.int (Int32.ofNat len)), .val (.int (Int32.ofNat i)), z] [.int (cv A (o + i))])) := c3.trans (by
        refine Xl.aget hexec hAl rfl (hA.get (i := o + i) (by omega)) rfl rfl (hb hbytes d12) ?_
        exact Steps.refl _)
      have c5 : Steps p.tables e below (s₁.setTop (entryFrame m #[.ref b, .int (Int32.ofNat o), .ref d, .int (Int32.ofNat q), .int (Int32.ofNat len)] 7)) (Tl.setTop (mkF m 15 #[.val (.ref b), .val (.int (Int32.ofNat (o + i))), .val (.ref d), .val (.int (Int32.ofNat (q + i))), .val (.int (Int32.ofNat len)), .val (.int (Int32.ofNat i)), .val (.int (cv A (o + i)))] [])) := c4.trans (by
        refine XS.istoreS Xl.here hexec rfl (hb hbytes d13) rfl rfl hz ?_
        exact Steps.refl _)
      have c6 : Steps p.tables e below (s₁.setTop (entryFrame m #[.ref b, .int (Int32.ofNat o), .ref d, .int (Int32.ofNat q), .int (Int32.ofNat len)] 7)) (Tl.setTop (mkF m 31 #[.val (.ref b), .val (.int (Int32.ofNat (o + i))), .val (.ref d), .val (.int (Int32.ofNat (q + i))), .val (.int (Int32.ofNat len)), .val (.int (Int32.ofNat i)), .val (.int (cv A (o + i)))] [.int (lo8 (cv A (o + i))), .int (Int32.ofNat (q + i)), .ref d])) := c5.trans (by
        refine XS.iload Xl.here hexec rfl (hb hbytes d15) rfl ?_
        refine sipushV Xl.here hexec rfl 255 (hb hbytes d17) (by decide) ?_
        refine XS.icmpYes Xl.here hexec rfl (pc0 := 20) rfl (hb hbytes d20) rfl (ii_le_t (hp i (by omega))) (by decide) rfl ?_
        refine XS.aloadN Xl.here hexec rfl (hb hbytes d26) rfl rfl ?_
        refine XS.iloadN Xl.here hexec rfl (hb hbytes d27) rfl ?_
        refine XS.iload Xl.here hexec rfl (hb hbytes d28) rfl ?_
        refine i2b Xl.here hexec rfl (hb hbytes d30) rfl ?_
        exact Steps.refl _)
      obtain ⟨T7, X7, p7, st7⟩ := Xl.aput hexec hBk rfl hlt rfl (fits_lo8 (cv A (o + i))) (g := (mkF m 31 #[.val (.ref b), .val (.int (Int32.ofNat (o + i))), .val (.ref d), .val (.int (Int32.ofNat (q + i))), .val (.int (Int32.ofNat len)), .val (.int (Int32.ofNat i)), .val (.int (cv A (o + i)))] [.int (lo8 (cv A (o + i))), .int (Int32.ofNat (q + i)), .ref d])) rfl (rest := []) rfl (hb hbytes d31)
      have c8 : Steps p.tables e below (s₁.setTop (entryFrame m #[.ref b, .int (Int32.ofNat o), .ref d, .int (Int32.ofNat q), .int (Int32.ofNat len)] 7)) (T7.setTop (mkF m 32 #[.val (.ref b), .val (.int (Int32.ofNat (o + i))), .val (.ref d), .val (.int (Int32.ofNat (q + i))), .val (.int (Int32.ofNat len)), .val (.int (Int32.ofNat i)), .val (.int (cv A (o + i)))] [])) := c6.trans (st7 _ (Steps.refl _))
      have c9 : Steps p.tables e below (s₁.setTop (entryFrame m #[.ref b, .int (Int32.ofNat o), .ref d, .int (Int32.ofNat q), .int (Int32.ofNat len)] 7)) (T7.setTop (mkF m 3 #[.val (.ref b), .val (.int (Int32.ofNat (o + i) + 1)), .val (.ref d), .val (.int (Int32.ofNat (q + i) + 1)), .val (.int (Int32.ofNat len)), .val (.int (Int32.ofNat i + 1)), .val (.int (cv A (o + i)))] [])) := c8.trans (by
        refine iincV X7.here hexec rfl 1 (hb hbytes d32) (by decide) rfl rfl ?_
        refine iincV X7.here hexec rfl 1 (hb hbytes d35) (by decide) rfl rfl ?_
        refine iincV X7.here hexec rfl 1 (hb hbytes d38) (by decide) rfl rfl ?_
        refine XS.goto X7.here hexec rfl (pc0 := 41) rfl (hb hbytes d41) (by decide) rfl ?_
        exact Steps.refl _)
      have c10 : Steps p.tables e below (s₁.setTop (entryFrame m #[.ref b, .int (Int32.ofNat o), .ref d, .int (Int32.ofNat q), .int (Int32.ofNat len)] 7)) (T7.setTop (mkF m 3 #[.val (.ref b), .val (.int (Int32.ofNat (o + (i + 1)))), .val (.ref d), .val (.int (Int32.ofNat (q + (i + 1)))), .val (.int (Int32.ofNat len)), .val (.int (Int32.ofNat (i + 1))), .val (.int (cv A (o + i)))] [])) := by
        have := c9
        rw [succ32, succ32, succ32] at this
        exact this
      exact ih (i + 1) (by omega) _ (Or.inr ⟨_, rfl, rfl⟩) T7 _ (by rw [copyLocs_step, ← List.append_assoc]; exact X7) (pl.trans p7) (fl.step (by omega) hlt (by simp)) c10
  obtain ⟨T9, B9, z9, X9, p9, f9, g9⟩ := loop len 0 (by omega) .unset (Or.inl rfl) s₁ B (by simpa [copyLocs] using X0) ⟨hB0.1, fun _ _ => rfl, rfl⟩ (Laid.zero _ _ _) c2
  have c11 : Steps p.tables e below (s₁.setTop (entryFrame m #[.ref b, .int (Int32.ofNat o), .ref d, .int (Int32.ofNat q), .int (Int32.ofNat len)] 7)) (T9.setTop (mkF m 46 #[.val (.ref b), .val (.int (Int32.ofNat (o + len))), .val (.ref d), .val (.int (Int32.ofNat (q + len))), .val (.int (Int32.ofNat len)), .val (.int (Int32.ofNat len)), z9] [.int (Int32.ofNat len)])) := g9.trans (by
    refine XS.iload X9.here hexec rfl (hb hbytes d3) rfl ?_
    refine XS.iload X9.here hexec rfl (hb hbytes d5) rfl ?_
    refine XS.icmpYes X9.here hexec rfl (pc0 := 7) rfl (hb hbytes d7) rfl (ii_ge_t (nlt32 (by omega) (Nat.le_refl _))) (by decide) rfl ?_
    refine XS.iload X9.here hexec rfl (hb hbytes d44) rfl ?_
    exact Steps.refl _)
  exact ⟨T9, some (.int (Int32.ofNat len)), _, _, _, X9, by simp, rfl, rfl, (fun h => by cases h), ⟨rfl, B9, p9.from hh0, f9⟩, fun fs hl => c11.trans (X9.ireturnOut hexec hret rfl (Or.inl rfl) (hb hbytes d46) hl)⟩
end Cmp5
namespace Cmp3
def yN : MethodName := ⟨"java/lang/StringUTF16", "compress", "([CII)[B"⟩
abbrev yB : ByteArray := jdk_52_method_16_code
theorem d0 : decode yB 0 = .ok (.iload_n 2, 1) := by decide +kernel
theorem d1 : decode yB 1 = .ok (.newarray .byte, 2) := by decide +kernel
theorem d3 : decode yB 3 = .ok (.astore_n 3, 1) := by decide +kernel
theorem d4 : decode yB 4 = .ok (.aload_n 0, 1) := by decide +kernel
theorem d5 : decode yB 5 = .ok (.iload_n 1, 1) := by decide +kernel
theorem d6 : decode yB 6 = .ok (.aload_n 3, 1) := by decide +kernel
theorem d7 : decode yB 7 = .ok (.iconst 0, 1) := by decide +kernel
theorem d8 : decode yB 8 = .ok (.iload_n 2, 1) := by decide +kernel
theorem d9 : decode yB 9 = .ok (.invokestatic 115, 3) := by decide +kernel
theorem d12 : decode yB 12 = .ok (.istore 4, 2) := by decide +kernel
theorem d14 : decode yB 14 = .ok (.iload 4, 2) := by decide +kernel
theorem d16 : decode yB 16 = .ok (.iload_n 2, 1) := by decide +kernel
theorem d17 : decode yB 17 = .ok (.if_icmp (.eq) 40, 3) := by decide +kernel
theorem d57 : decode yB 57 = .ok (.aload_n 3, 1) := by decide +kernel
theorem d58 : decode yB 58 = .ok (.areturn, 1) := by decide +kernel
def site : List Cond := [.arrayClass .byte, Cmp5.tab] ++ staticW U16 115 Cmp5.yN
def tab : Cond := tabOf yN yB 6 (some (.array .byte)) site
def P (b : Addr) (A : Cell) (o len : Nat) (args : Array Value) (s : State) : Prop := args = #[.ref b, .int (Int32.ofNat o), .int (Int32.ofNat len)] ∧ Ch b A s ∧ o + len ≤ A.slots.size ∧ len ≤ 536870912 ∧ ∀ i, i < len → ¬ 255 < cv A (o + i)
def E (b : Addr) (A : Cell) (o len : Nat) (r : Option Value) (s u : State) : Prop := NewArr .byte "[B" len (fun j => .int (lo8 (cv A (o + j)))) r s u ∧ u.heap.size = s.heap.size + 1
/-- no char of the range above 255: a new byte[] of their low bytes -/
theorem law (l : Launch) (b : Addr) (A : Cell) (o len : Nat) : Law l yN 3 3 1 18 yB 6 (some (.array .byte)) site (P b A o len) (E b A o len) [] 1 len := by
  refine Law.of_walk (plainFor_of_name (by decide +kernel)) (by decide +kernel) (by decide +kernel) (by decide) (fun _ _ h => by rw [h.1]; rfl) (fun _ U U' hal hh h => ⟨h.1, h.2.1.mv hal hh, h.2.2⟩) (fun r U U' V V' h1 hal h2 h => ⟨NewArr.mv r U U' V V' h1 hal h2 h.1, by rw [h1, h2]; exact h.2⟩) ?_
  intro p e s m args below meth c s₁ X0 hexec hbytes hml hret hlk hnm hown hh0 W hP
  obtain ⟨rfl, hA, l1, l2, hp⟩ := hP
  have a31 := hA.1.2.2.2
  have c1 : Steps p.tables e below (s₁.setTop (entryFrame m #[.ref b, .int (Int32.ofNat o), .int (Int32.ofNat len)] 6)) (s₁.setTop (mkF m 0 #[.val (.ref b), .val (.int (Int32.ofNat o)), .val (.int (Int32.ofNat len)), .unset, .unset, .unset] [])) := entry rfl
  have c2 : Steps p.tables e below (s₁.setTop (entryFrame m #[.ref b, .int (Int32.ofNat o), .int (Int32.ofNat len)] 6)) (s₁.setTop (mkF m 1 #[.val (.ref b), .val (.int (Int32.ofNat o)), .val (.int (Int32.ofNat len)), .unset, .unset, .unset] [.int (Int32.ofNat len)])) := c1.trans (by
    refine XS.iloadN X0.here hexec rfl (hb hbytes d0) rfl ?_
    exact Steps.refl _)
  obtain ⟨T3, B3, X3, ba3, bs3, bv3, bh3, bf3, st3⟩ := X0.anew hexec (atype := .byte) (wk W (.arrayClass .byte)) rfl (by show len * 1 ≤ _; omega) (by omega) (g := (mkF m 1 #[.val (.ref b), .val (.int (Int32.ofNat o)), .val (.int (Int32.ofNat len)), .unset, .unset, .unset] [.int (Int32.ofNat len)])) rfl (hb hbytes d1) (rest := []) rfl (Nat.le_refl _) (by show 0 + len ≤ len; omega)
  rw [hh0] at ba3 st3
  have kp3 : XT.Kept s T3 := (XT.Kept.of_eq hh0).push bh3
  have hA3 := hA.keep X3.warmed.alike (kp3 _ _ hA.1.1)
  have hne : b ≠ s.heap.size := hA.1.ne
  have c4 : Steps p.tables e below (s₁.setTop (entryFrame m #[.ref b, .int (Int32.ofNat o), .int (Int32.ofNat len)] 6)) (T3.setTop (mkF m 3 #[.val (.ref b), .val (.int (Int32.ofNat o)), .val (.int (Int32.ofNat len)), .unset, .unset, .unset] [.ref s.heap.size])) := c2.trans (st3 _ (Steps.refl _))
  have c5 : Steps p.tables e below (s₁.setTop (entryFrame m #[.ref b, .int (Int32.ofNat o), .int (Int32.ofNat len)] 6)) (T3.setTop (mkF m 9 #[.val (.ref b), .val (.int (Int32.ofNat o)), .val (.int (Int32.ofNat len)), .val (.ref s.heap.size), .unset, .unset] [.int (Int32.ofNat len), .int 0, .ref s.heap.size, .int (Int32.ofNat o), .ref b])) := c4.trans (by
    refine XS.astoreN X3.here hexec rfl (hb hbytes d3) rfl rfl rfl ?_
    refine XS.aloadN X3.here hexec rfl (hb hbytes d4) rfl rfl ?_
    refine XS.iloadN X3.here hexec rfl (hb hbytes d5) rfl ?_
    refine XS.aloadN X3.here hexec rfl (hb hbytes d6) rfl rfl ?_
    refine iconstV X3.here hexec rfl 0 (hb hbytes d7) (by decide) ?_
    refine XS.iloadN X3.here hexec rfl (hb hbytes d8) rfl ?_
    exact Steps.refl _)
  obtain ⟨v6, T6, X6, E6, g6⟩ := X3.callS hexec (Cmp5.law l b A s.heap.size B3 o 0 len) hown (wks W (staticW U16 115 Cmp5.yN)) (wk W Cmp5.tab) (W := 0) (Nat.le_of_ble_eq_true rfl) (Nat.le_of_ble_eq_true rfl) (Nat.le_refl _) (by show 0 + len + 0 ≤ len; omega) (g := (mkF m 9 #[.val (.ref b), .val (.int (Int32.ofNat o)), .val (.int (Int32.ofNat len)), .val (.ref s.heap.size), .unset, .unset] [.int (Int32.ofNat len), .int (Int32.ofNat 0), .ref s.heap.size, .int (Int32.ofNat o), .ref b])) rfl (by rw [hml]; rfl) c5 (argsL := [.ref b, .int (Int32.ofNat o), .ref s.heap.size, .int (Int32.ofNat 0), .int (Int32.ofNat len)]) (rest := []) rfl rfl (by show 2 * 0 + 0 ≤ _; decide) (hb hbytes d9) (⟨rfl, hA3, ba3, hne, l1, by rw [bs3]; simp, hp⟩)
  obtain ⟨rfl, B6, p6, f6⟩ := E6
  have c7 : Steps p.tables e below (s₁.setTop (entryFrame m #[.ref b, .int (Int32.ofNat o), .int (Int32.ofNat len)] 6)) (T6.setTop (mkF m 12 #[.val (.ref b), .val (.int (Int32.ofNat o)), .val (.int (Int32.ofNat len)), .val (.ref s.heap.size), .unset, .unset] [.int (Int32.ofNat len)])) := g6
  have c8 : Steps p.tables e below (s₁.setTop (entryFrame m #[.ref b, .int (Int32.ofNat o), .int (Int32.ofNat len)] 6)) (T6.setTop (mkF m 58 #[.val (.ref b), .val (.int (Int32.ofNat o)), .val (.int (Int32.ofNat len)), .val (.ref s.heap.size), .val (.int (Int32.ofNat len)), .unset] [.ref s.heap.size])) := c7.trans (by
    refine XS.istore X6.here hexec rfl (hb hbytes d12) rfl rfl ?_
    refine XS.iload X6.here hexec rfl (hb hbytes d14) rfl ?_
    refine XS.iloadN X6.here hexec rfl (hb hbytes d16) rfl ?_
    refine XS.icmpYes X6.here hexec rfl (pc0 := 17) rfl (hb hbytes d17) rfl (ii_eq_t rfl) (by decide) rfl ?_
    refine XS.aloadN X6.here hexec rfl (hb hbytes d57) rfl rfl ?_
    exact Steps.refl _)
  have X8 := X6.wide (L' := []) (cells' := 1) (slots' := len) (fun x hx hlt => by
    simp only [List.nil_append, copyLocs, List.mem_map, List.mem_range] at hx
    obtain ⟨i, -, rfl⟩ := hx
    exact absurd hlt (Nat.lt_irrefl _)) (Nat.le_refl _) (by omega)
  exact ⟨T6, some (.ref s.heap.size), _, _, _, X8, rfl, rfl, rfl, (fun h => by cases h), ⟨⟨rfl, B6, ba3.like (X3.warmed.alike.symm.trans X6.warmed.alike) p6.1 f6.1 f6.2.1 f6.2.2.1, f6.2.1.trans bv3, by rw [X6.warmed.alike.findClass, f6.1]; exact bf3, by rw [f6.2.2.1, bs3]; simp, fun j hj => by rw [f6.2.2.2 j, if_pos (by omega)]; rfl, kp3.put p6 (Nat.le_refl _)⟩, by rw [p6.2.2, bh3, hh0]; simp⟩, fun fs hl => c8.trans (X8.areturnOut hexec rfl hret rfl (hb hbytes d58) hl)⟩
end Cmp3
namespace CodL
def yN : MethodName := ⟨"java/lang/StringUTF16", "coderFromArrayLen", "([BI)B"⟩
abbrev yB : ByteArray := jdk_52_method_15_code
theorem d0 : decode yB 0 = .ok (.iload_n 1, 1) := by decide +kernel
theorem d1 : decode yB 1 = .ok (.aload_n 0, 1) := by decide +kernel
theorem d2 : decode yB 2 = .ok (.arraylength, 1) := by decide +kernel
theorem d3 : decode yB 3 = .ok (.isub, 1) := by decide +kernel
theorem d4 : decode yB 4 = .ok (.bipush 31, 2) := by decide +kernel
theorem d6 : decode yB 6 = .ok (.iushr, 1) := by decide +kernel
theorem d7 : decode yB 7 = .ok (.i2b, 1) := by decide +kernel
theorem d8 : decode yB 8 = .ok (.ireturn, 1) := by decide +kernel
def site : List Cond := []
def tab : Cond := tabOf yN yB 2 (some .byte) site
def P (d : Addr) (B : Cell) (args : Array Value) (s : State) : Prop := args = #[.ref d, .int (Int32.ofNat B.slots.size)] ∧ Arr .byte d B s
def E (r : Option Value) (s u : State) : Prop := XT.PureE (some (.int 0)) r s u
/-- an array as long as the number of chars: LATIN1 -/
theorem law (l : Launch) (d : Addr) (B : Cell) : Law l yN 2 2 0 0 yB 2 (some .byte) site (P d B) E [] 0 0 := by
  refine Law.of_walk (plainFor_of_name (by decide +kernel)) (by decide +kernel) (by decide +kernel) (by decide) (fun _ _ h => by rw [h.1]; rfl) (fun _ U U' hal hh h => ⟨h.1, h.2.mv hal hh⟩) (fun r U U' V V' h1 hal h2 h => XT.PureE.mv r U U' V V' h1 hal h2 h) ?_
  intro p e s m args below meth c s₁ X0 hexec hbytes hml hret hlk hnm hown hh0 W hP
  obtain ⟨rfl, hB⟩ := hP
  have hB0 := hB.mv X0.warmed.alike hh0
  have c1 : Steps p.tables e below (s₁.setTop (entryFrame m #[.ref d, .int (Int32.ofNat B.slots.size)] 2)) (s₁.setTop (mkF m 0 #[.val (.ref d), .val (.int (Int32.ofNat B.slots.size))] [])) := entry rfl
  have c2 : Steps p.tables e below (s₁.setTop (entryFrame m #[.ref d, .int (Int32.ofNat B.slots.size)] 2)) (s₁.setTop (mkF m 2 #[.val (.ref d), .val (.int (Int32.ofNat B.slots.size))] [.ref d, .int (Int32.ofNat B.slots.size)])) := c1.trans (by
    refine XS.iloadN X0.here hexec rfl (hb hbytes d0) rfl ?_
    refine XS.aloadN X0.here hexec rfl (hb hbytes d1) rfl rfl ?_
    exact Steps.refl _)
  have c3 : Steps p.tables e below (s₁.setTop (entryFrame m #[.ref d, .int (Int32.ofNat B.slots.size)] 2)) (s₁.setTop (mkF m 8 #[.val (.ref d), .val (.int (Int32.ofNat B.slots.size))] [.int (lo8 (ushr (Int32.ofNat B.slots.size - Int32.ofNat B.slots.size) 31))])) := c2.trans (by
    refine X0.alen hexec hB0 rfl rfl (hb hbytes d2) ?_
    refine XS.isub X0.here hexec rfl (hb hbytes d3) rfl ?_
    refine bipushV X0.here hexec rfl 31 (hb hbytes d4) (by decide) ?_
    refine iushr X0.here hexec rfl (hb hbytes d6) rfl ?_
    refine i2b X0.here hexec rfl (hb hbytes d7) rfl ?_
    exact Steps.refl _)
  have e0 : lo8 (ushr (Int32.ofNat B.slots.size - Int32.ofNat B.slots.size) 31) = 0 := by rw [Int32.sub_self]; decide
  rw [e0] at c3
  exact ⟨s₁, some (.int 0), _, _, _, X0, rfl, rfl, rfl, (fun h => by cases h), ⟨rfl, hh0⟩, fun fs hl => c3.trans (X0.ireturnOut hexec hret rfl (Or.inr (Or.inr (Or.inl rfl))) (hb hbytes d8) hl)⟩
end CodL
/-- the String at a is Latin-1 over a new byte[] (the heap's one new cell): the low bytes of the len chars of A from o on; every cell but a is kept -/
def Got (a : Addr) (D : Cell) (fV fC : Field) (A : Cell) (o len : Nat) (r : Option Value) (s u : State) : Prop := r = none ∧ ∃ D' V : Cell, Blank "java/lang/String" a D' u ∧ Same D D' [fV.slot, fC.slot] ∧ D'.slots[fV.slot]? = some (.ref s.heap.size) ∧ D'.slots[fC.slot]? = some (.int 0) ∧ Arr .byte s.heap.size V u ∧ V.vm = .none ∧ u.vm.findClass "[B" = some V.cls ∧ V.slots.size = len ∧ (∀ j, j < len → V.slots[j]? = some (.int (lo8 (cv A (o + j))))) ∧ (∀ (y : Addr) (c : Cell), y ≠ a → s.heap[y]? = some c → u.heap[y]? = some c) ∧ u.heap.size = s.heap.size + 1
theorem Got.mv {a : Addr} {D A : Cell} {fV fC : Field} {o len : Nat} : ∀ r (U U' V V' : State), U'.heap = U.heap → V.vm.Alike V'.vm → V'.heap = V.heap → Got a D fV fC A o len r U V → Got a D fV fC A o len r U' V' :=
  fun r U U' V V' h1 hal h2 ⟨e0, D', X, a1, a2, a3, a4, a5, a6, a7, a8, a9, a10, a11⟩ => ⟨e0, D', X, a1.mv hal h2, a2, by rw [h1]; exact a3, a4, by rw [h1]; exact a5.mv hal h2, a6, by rw [hal.findClass]; exact a7, a8, a9, by rw [h1, h2]; exact a10, by rw [h1, h2]; exact a11⟩
namespace New4
def yN : MethodName := ⟨"java/lang/String", "<init>", "([CIILjava/lang/Void;)V"⟩
abbrev yB : ByteArray := jdk_42_method_149_code
theorem d0 : decode yB 0 = .ok (.aload_n 0, 1) := by decide +kernel
theorem d1 : decode yB 1 = .ok (.invokespecial 1, 3) := by decide +kernel
theorem d4 : decode yB 4 = .ok (.iload_n 3, 1) := by decide +kernel
theorem d5 : decode yB 5 = .ok (.ifCond (.ne) 22, 3) := by decide +kernel
theorem d27 : decode yB 27 = .ok (.getstatic 38, 3) := by decide +kernel
theorem d30 : decode yB 30 = .ok (.ifCond (.eq) 28, 3) := by decide +kernel
theorem d33 : decode yB 33 = .ok (.aload_n 1, 1) := by decide +kernel
theorem d34 : decode yB 34 = .ok (.iload_n 2, 1) := by decide +kernel
theorem d35 : decode yB 35 = .ok (.iload_n 3, 1) := by decide +kernel
theorem d36 : decode yB 36 = .ok (.invokestatic 177, 3) := by decide +kernel
theorem d39 : decode yB 39 = .ok (.astore 5, 2) := by decide +kernel
theorem d41 : decode yB 41 = .ok (.aload_n 0, 1) := by decide +kernel
theorem d42 : decode yB 42 = .ok (.aload 5, 2) := by decide +kernel
theorem d44 : decode yB 44 = .ok (.iload_n 3, 1) := by decide +kernel
theorem d45 : decode yB 45 = .ok (.invokestatic 47, 3) := by decide +kernel
theorem d48 : decode yB 48 = .ok (.putfield 15, 3) := by decide +kernel
theorem d51 : decode yB 51 = .ok (.aload_n 0, 1) := by decide +kernel
theorem d52 : decode yB 52 = .ok (.aload 5, 2) := by decide +kernel
theorem d54 : decode yB 54 = .ok (.putfield 9, 3) := by decide +kernel
theorem d57 : decode yB 57 = .ok (.return_, 1) := by decide +kernel
def site : List Cond := [.fieldLink "java/lang/String" 38 "java/lang/String" "COMPACT_STRINGS" "Z", Cmp3.tab, CodL.tab, .laysFinal "java/lang/String" "java/lang/String" "value" "[B", .fieldLink "java/lang/String" 9 "java/lang/String" "value" "[B", .laysFinal "java/lang/String" "java/lang/String" "coder" "B", .fieldLink "java/lang/String" 15 "java/lang/String" "coder" "B"] ++ objW "java/lang/String" 1 ++ staticW "java/lang/String" 177 Cmp3.yN ++ staticW "java/lang/String" 47 CodL.yN
def tab : Cond := tabOf yN yB 6 none site
def P (a : Addr) (D : Cell) (fV fC : Field) (b : Addr) (A : Cell) (z : Int32) (o len : Nat) (args : Array Value) (s : State) : Prop := args = #[.ref a, .ref b, .int (Int32.ofNat o), .int (Int32.ofNat len), .null] ∧ Blank "java/lang/String" a D s ∧ Found "java/lang/String" "value" "[B" fV s ∧ Found "java/lang/String" "coder" "B" fC s ∧ Ch b A s ∧ StaticIs s "java/lang/String" "COMPACT_STRINGS" "Z" (.int z) ∧ ¬ z = 0 ∧ 0 < len ∧ o + len ≤ A.slots.size ∧ len ≤ 536870912 ∧ ∀ i, i < len → ¬ 255 < cv A (o + i)
def E (a : Addr) (D : Cell) (fV fC : Field) (A : Cell) (o len : Nat) (r : Option Value) (s u : State) : Prop := Got a D fV fC A o len r s u
/-- len > 0, no char of the range above 255: a Latin-1 String of their low bytes -/
theorem law (l : Launch) (a : Addr) (D : Cell) (fV fC : Field) (b : Addr) (A : Cell) (z : Int32) (o len : Nat) : Law l yN 5 4 2 35 yB 6 none site (P a D fV fC b A z o len) (E a D fV fC A o len) [⟨a, fC.slot⟩, ⟨a, fV.slot⟩] 1 len := by
  refine Law.of_walk (plainFor_of_name (by decide +kernel)) (by decide +kernel) (by decide +kernel) (by decide) (fun _ _ h => by rw [h.1]; rfl) (fun _ U U' hal hh h => ⟨h.1, h.2.1.mv hal hh, h.2.2.1.al hal, h.2.2.2.1.al hal, h.2.2.2.2.1.mv hal hh, h.2.2.2.2.2.1.there hal hh, h.2.2.2.2.2.2⟩) (fun r U U' V V' h1 hal h2 h => Got.mv r U U' V V' h1 hal h2 h) ?_
  intro p e s m args below meth c s₁ X0 hexec hbytes hml hret hlk hnm hown hh0 W hP
  obtain ⟨rfl, hB, f1, f2, hA, s1, hz, l0, l1, l2, hp⟩ := hP
  have a31 := hA.1.2.2.2
  have c1 : Steps p.tables e below (s₁.setTop (entryFrame m #[.ref a, .ref b, .int (Int32.ofNat o), .int (Int32.ofNat len), .null] 6)) (s₁.setTop (mkF m 0 #[.val (.ref a), .val (.ref b), .val (.int (Int32.ofNat o)), .val (.int (Int32.ofNat len)), .val .null, .unset] [])) := entry rfl
  have c2 : Steps p.tables e below (s₁.setTop (entryFrame m #[.ref a, .ref b, .int (Int32.ofNat o), .int (Int32.ofNat len), .null] 6)) (s₁.setTop (mkF m 1 #[.val (.ref a), .val (.ref b), .val (.int (Int32.ofNat o)), .val (.int (Int32.ofNat len)), .val .null, .unset] [.ref a])) := c1.trans (by
    refine XS.aloadN X0.here hexec rfl (hb hbytes d0) rfl rfl ?_
    exact Steps.refl _)
  obtain ⟨T3, X3, q3, st3⟩ := X0.oinit hexec hown (wks W (objW "java/lang/String" 1)) (g := (mkF m 1 #[.val (.ref a), .val (.ref b), .val (.int (Int32.ofNat o)), .val (.int (Int32.ofNat len)), .val .null, .unset] [.ref a])) rfl (by rw [hml]; rfl) (rest := []) rfl (hb hbytes d1) (W := 0) (by show 2 * 0 + 0 ≤ _; decide) (Nat.le_of_ble_eq_true rfl) (Nat.le_of_ble_eq_true rfl)
  have hh3 := q3.trans hh0
  have c4 : Steps p.tables e below (s₁.setTop (entryFrame m #[.ref a, .ref b, .int (Int32.ofNat o), .int (Int32.ofNat len), .null] 6)) (T3.setTop (mkF m 27 #[.val (.ref a), .val (.ref b), .val (.int (Int32.ofNat o)), .val (.int (Int32.ofNat len)), .val .null, .unset] [])) := (c2.trans (st3 _ (Steps.refl _))).trans (by
    refine XS.iloadN X3.here hexec rfl (hb hbytes d4) rfl ?_
    refine XS.ifYes X3.here hexec rfl (pc0 := 5) rfl (hb hbytes d5) rfl (i0_ne_t (nz32 (by omega) l0)) (by decide) rfl ?_
    exact Steps.refl _)
  obtain ⟨T5, X5, q5, st5⟩ := X3.sget hexec hown (wk W (.fieldLink "java/lang/String" 38 "java/lang/String" "COMPACT_STRINGS" "Z")) s1 (fun _ _ h => by rw [hh3]; exact h) (g := (mkF m 27 #[.val (.ref a), .val (.ref b), .val (.int (Int32.ofNat o)), .val (.int (Int32.ofNat len)), .val .null, .unset] [])) rfl (hb hbytes d27)
  have hh5 := q5.trans hh3
  have c6 : Steps p.tables e below (s₁.setTop (entryFrame m #[.ref a, .ref b, .int (Int32.ofNat o), .int (Int32.ofNat len), .null] 6)) (T5.setTop (mkF m 30 #[.val (.ref a), .val (.ref b), .val (.int (Int32.ofNat o)), .val (.int (Int32.ofNat len)), .val .null, .unset] [.int z])) := c4.trans (st5 _ (Steps.refl _))
  have c7 : Steps p.tables e below (s₁.setTop (entryFrame m #[.ref a, .ref b, .int (Int32.ofNat o), .int (Int32.ofNat len), .null] 6)) (T5.setTop (mkF m 36 #[.val (.ref a), .val (.ref b), .val (.int (Int32.ofNat o)), .val (.int (Int32.ofNat len)), .val .null, .unset] [.int (Int32.ofNat len), .int (Int32.ofNat o), .ref b])) := c6.trans (by
    refine XS.ifNo X5.here hexec rfl (hb hbytes d30) rfl (i0_eq_f hz) ?_
    refine XS.aloadN X5.here hexec rfl (hb hbytes d33) rfl rfl ?_
    refine XS.iloadN X5.here hexec rfl (hb hbytes d34) rfl ?_
    refine XS.iloadN X5.here hexec rfl (hb hbytes d35) rfl ?_
    exact Steps.refl _)
  obtain ⟨v8, T8, X8, E8, g8⟩ := X5.callS hexec (Cmp3.law l b A o len) hown (wks W (staticW "java/lang/String" 177 Cmp3.yN)) (wk W Cmp3.tab) (W := 0) (Nat.le_of_ble_eq_true rfl) (Nat.le_of_ble_eq_true rfl) (Nat.le_refl _) (by show 0 + len ≤ len; omega) (g := (mkF m 36 #[.val (.ref a), .val (.ref b), .val (.int (Int32.ofNat o)), .val (.int (Int32.ofNat len)), .val .null, .unset] [.int (Int32.ofNat len), .int (Int32.ofNat o), .ref b])) rfl (by rw [hml]; rfl) c7 (argsL := [.ref b, .int (Int32.ofNat o), .int (Int32.ofNat len)]) (rest := []) rfl rfl (by show 2 * 0 + 0 ≤ _; decide) (hb hbytes d36) (⟨rfl, hA.mv X5.warmed.alike hh5, l1, l2, hp⟩)
  obtain ⟨e8, z8⟩ := E8
  obtain ⟨rfl, N, n1, n2, n3, n4, n5, n6⟩ := NewArr.mv _ T5 s _ _ hh5.symm (Vm.Alike.refl _) rfl e8
  rw [hh5] at z8
  have hB1 := hB.keep X8.warmed.alike (n6 _ _ hB.1)
  have hne : s.heap.size ≠ a := (Nat.ne_of_lt (Array.getElem?_eq_some_iff.mp hB.1).1).symm
  have c9 : Steps p.tables e below (s₁.setTop (entryFrame m #[.ref a, .ref b, .int (Int32.ofNat o), .int (Int32.ofNat len), .null] 6)) (T8.setTop (mkF m 39 #[.val (.ref a), .val (.ref b), .val (.int (Int32.ofNat o)), .val (.int (Int32.ofNat len)), .val .null, .unset] [.ref s.heap.size])) := g8
  have c10 : Steps p.tables e below (s₁.setTop (entryFrame m #[.ref a, .ref b, .int (Int32.ofNat o), .int (Int32.ofNat len), .null] 6)) (T8.setTop (mkF m 45 #[.val (.ref a), .val (.ref b), .val (.int (Int32.ofNat o)), .val (.int (Int32.ofNat len)), .val .null, .val (.ref s.heap.size)] [.int (Int32.ofNat N.slots.size), .ref s.heap.size, .ref a])) := by
    have hc : Steps p.tables e below (s₁.setTop (entryFrame m #[.ref a, .ref b, .int (Int32.ofNat o), .int (Int32.ofNat len), .null] 6)) (T8.setTop (mkF m 45 #[.val (.ref a), .val (.ref b), .val (.int (Int32.ofNat o)), .val (.int (Int32.ofNat len)), .val .null, .val (.ref s.heap.size)] [.int (Int32.ofNat len), .ref s.heap.size, .ref a])) := c9.trans (by
      refine XS.astore X8.here hexec rfl (hb hbytes d39) rfl rfl rfl ?_
      refine XS.aloadN X8.here hexec rfl (hb hbytes d41) rfl rfl ?_
      refine XS.aload X8.here hexec rfl (hb hbytes d42) rfl rfl ?_
      refine XS.iloadN X8.here hexec rfl (hb hbytes d44) rfl ?_
      exact Steps.refl _)
    rw [n4]; exact hc
  obtain ⟨v11, T11, X11, E11, g11⟩ := X8.callS hexec (CodL.law l s.heap.size N) hown (wks W (staticW "java/lang/String" 47 CodL.yN)) (wk W CodL.tab) (W := 1) (Nat.le_of_ble_eq_true rfl) (Nat.le_of_ble_eq_true rfl) (Nat.le_refl _) (by show 0 + len + 0 ≤ len; omega) (g := (mkF m 45 #[.val (.ref a), .val (.ref b), .val (.int (Int32.ofNat o)), .val (.int (Int32.ofNat len)), .val .null, .val (.ref s.heap.size)] [.int (Int32.ofNat N.slots.size), .ref s.heap.size, .ref a])) rfl (by rw [hml]; rfl) c10 (argsL := [.ref s.heap.size, .int (Int32.ofNat N.slots.size)]) (rest := [.ref a]) rfl rfl (by show 2 * 0 + (1 + 0) ≤ _; decide) (hb hbytes d45) (⟨rfl, n1⟩)
  obtain ⟨rfl, q11⟩ := E11
  have hB11 := hB1.mv (X8.warmed.alike.symm.trans X11.warmed.alike) q11
  have c12 : Steps p.tables e below (s₁.setTop (entryFrame m #[.ref a, .ref b, .int (Int32.ofNat o), .int (Int32.ofNat len), .null] 6)) (T11.setTop (mkF m 48 #[.val (.ref a), .val (.ref b), .val (.int (Int32.ofNat o)), .val (.int (Int32.ofNat len)), .val .null, .val (.ref s.heap.size)] [.int 0, .ref a])) := g11
  obtain ⟨T13, X13, p13, bl13, sl13, st13⟩ := X11.finit hexec hown (wk W (.fieldLink "java/lang/String" 15 "java/lang/String" "coder" "B")) (Or.inr ⟨_, (wk W (.laysFinal "java/lang/String" "java/lang/String" "coder" "B"))⟩) (Or.inl ⟨rfl, hnm⟩) f2 (Or.inl rfl) hB11 (t := .byte) (by decide +kernel) rfl (g := (mkF m 48 #[.val (.ref a), .val (.ref b), .val (.int (Int32.ofNat o)), .val (.int (Int32.ofNat len)), .val .null, .val (.ref s.heap.size)] [.int 0, .ref a])) rfl (rest := []) rfl (hb hbytes d48)
  have c14 : Steps p.tables e below (s₁.setTop (entryFrame m #[.ref a, .ref b, .int (Int32.ofNat o), .int (Int32.ofNat len), .null] 6)) (T13.setTop (mkF m 54 #[.val (.ref a), .val (.ref b), .val (.int (Int32.ofNat o)), .val (.int (Int32.ofNat len)), .val .null, .val (.ref s.heap.size)] [.ref s.heap.size, .ref a])) := (c12.trans (st13 _ (Steps.refl _))).trans (by
    refine XS.aloadN X13.here hexec rfl (hb hbytes d51) rfl rfl ?_
    refine XS.aload X13.here hexec rfl (hb hbytes d52) rfl rfl ?_
    exact Steps.refl _)
  obtain ⟨T15, X15, p15, bl15, sl15, st15⟩ := X13.finit hexec hown (wk W (.fieldLink "java/lang/String" 9 "java/lang/String" "value" "[B")) (Or.inr ⟨_, (wk W (.laysFinal "java/lang/String" "java/lang/String" "value" "[B"))⟩) (Or.inl ⟨rfl, hnm⟩) f1 (Or.inl rfl) bl13 (t := (.array .byte)) (by decide +kernel) rfl (g := (mkF m 54 #[.val (.ref a), .val (.ref b), .val (.int (Int32.ofNat o)), .val (.int (Int32.ofNat len)), .val .null, .val (.ref s.heap.size)] [.ref s.heap.size, .ref a])) rfl (rest := []) rfl (hb hbytes d54)
  have c16 : Steps p.tables e below (s₁.setTop (entryFrame m #[.ref a, .ref b, .int (Int32.ofNat o), .int (Int32.ofNat len), .null] 6)) (T15.setTop (mkF m 57 #[.val (.ref a), .val (.ref b), .val (.int (Int32.ofNat o)), .val (.int (Int32.ofNat len)), .val .null, .val (.ref s.heap.size)] [])) := c14.trans (st15 _ (Steps.refl _))
  have ap := apart (Or.inr ⟨_, (wk W (.laysFinal "java/lang/String" "java/lang/String" "value" "[B"))⟩) (Or.inr ⟨_, (wk W (.laysFinal "java/lang/String" "java/lang/String" "coder" "B"))⟩) f1 f2 (t₁ := .array .byte) (t₂ := .byte) (by decide +kernel) (by decide +kernel) (by decide)
  have al := X8.warmed.alike.symm.trans X15.warmed.alike
  have n7 : T11.heap[s.heap.size]? = some N := by rw [q11]; exact n1.1
  exact ⟨T15, none, _, _, _, X15, by simp, rfl, by omega, (fun _ => rfl), ⟨rfl, _, N, bl15, ((Same.refl D _).set _ (by simp)).set _ (by simp), sl15, (Cell.slots_setSlot_ne _ ap).trans sl13, n1.keep al (p15.other hne (p13.other hne n7)), n2, by rw [al.findClass]; exact n3, n4, n5, fun y c h1 h2 => p15.other h1 (p13.other h1 (by rw [q11]; exact n6 y c h2)), by rw [p15.2.2, p13.2.2, q11]; exact z8⟩, fun fs hl => c16.trans (X15.returnOut hexec hret (hb hbytes d57) hl)⟩
end New4
namespace New1
def yN : MethodName := ⟨"java/lang/String", "<init>", "([C)V"⟩
abbrev yB : ByteArray := jdk_42_method_3_code
theorem d0 : decode yB 0 = .ok (.aload_n 0, 1) := by decide +kernel
theorem d1 : decode yB 1 = .ok (.aload_n 1, 1) := by decide +kernel
theorem d2 : decode yB 2 = .ok (.iconst 0, 1) := by decide +kernel
theorem d3 : decode yB 3 = .ok (.aload_n 1, 1) := by decide +kernel
theorem d4 : decode yB 4 = .ok (.arraylength, 1) := by decide +kernel
theorem d5 : decode yB 5 = .ok (.aconst_null, 1) := by decide +kernel
theorem d6 : decode yB 6 = .ok (.invokespecial 27, 3) := by decide +kernel
theorem d9 : decode yB 9 = .ok (.return_, 1) := by decide +kernel
def site : List Cond := [New4.tab] ++ initW "java/lang/String" 27 New4.yN
def tab : Cond := tabOf yN yB 2 none site
def P (a : Addr) (D : Cell) (fV fC : Field) (b : Addr) (A : Cell) (z : Int32) (args : Array Value) (s : State) : Prop := args = #[.ref a, .ref b] ∧ Blank "java/lang/String" a D s ∧ Found "java/lang/String" "value" "[B" fV s ∧ Found "java/lang/String" "coder" "B" fC s ∧ Ch b A s ∧ StaticIs s "java/lang/String" "COMPACT_STRINGS" "Z" (.int z) ∧ ¬ z = 0 ∧ 0 < A.slots.size ∧ A.slots.size ≤ 536870912 ∧ ∀ i, i < A.slots.size → ¬ 255 < cv A i
def E (a : Addr) (D : Cell) (fV fC : Field) (A : Cell) (r : Option Value) (s u : State) : Prop := Got a D fV fC A 0 A.slots.size r s u
/-- new String(chars), not empty, no char above 255: a Latin-1 String of their low bytes -/
theorem law (l : Launch) (a : Addr) (D : Cell) (fV fC : Field) (b : Addr) (A : Cell) (z : Int32) : Law l yN 2 1 3 52 yB 2 none site (P a D fV fC b A z) (E a D fV fC A) [⟨a, fC.slot⟩, ⟨a, fV.slot⟩] 1 A.slots.size := by
  refine Law.of_walk (plainFor_of_name (by decide +kernel)) (by decide +kernel) (by decide +kernel) (by decide) (fun _ _ h => by rw [h.1]; rfl) (fun _ U U' hal hh h => ⟨h.1, h.2.1.mv hal hh, h.2.2.1.al hal, h.2.2.2.1.al hal, h.2.2.2.2.1.mv hal hh, h.2.2.2.2.2.1.there hal hh, h.2.2.2.2.2.2⟩) (fun r U U' V V' h1 hal h2 h => Got.mv r U U' V V' h1 hal h2 h) ?_
  intro p e s m args below meth c s₁ X0 hexec hbytes hml hret hlk hnm hown hh0 W hP
  obtain ⟨rfl, hB, f1, f2, hA, s1, hz, l0, l2, hp⟩ := hP
  have c1 : Steps p.tables e below (s₁.setTop (entryFrame m #[.ref a, .ref b] 2)) (s₁.setTop (mkF m 0 #[.val (.ref a), .val (.ref b)] [])) := entry rfl
  have c2 : Steps p.tables e below (s₁.setTop (entryFrame m #[.ref a, .ref b] 2)) (s₁.setTop (mkF m 6 #[.val (.ref a), .val (.ref b)] [.null, .int (Int32.ofNat A.slots.size), .int 0, .ref b, .ref a])) := c1.trans (by
    refine XS.aloadN X0.here hexec rfl (hb hbytes d0) rfl rfl ?_
    refine XS.aloadN X0.here hexec rfl (hb hbytes d1) rfl rfl ?_
    refine iconstV X0.here hexec rfl 0 (hb hbytes d2) (by decide) ?_
    refine XS.aloadN X0.here hexec rfl (hb hbytes d3) rfl rfl ?_
    refine X0.alen hexec (hA.1.mv X0.warmed.alike hh0) rfl rfl (hb hbytes d4) ?_
    refine XS.aconstNull X0.here hexec rfl (hb hbytes d5) ?_
    exact Steps.refl _)
  obtain ⟨v3, T3, X3, E3, g3⟩ := X0.callN hexec (New4.law l a D fV fC b A z 0 A.slots.size) rfl hown (wks W (initW "java/lang/String" 27 New4.yN)) (W New4.tab (by simp only [site, List.mem_cons, List.mem_append, true_or, or_true])) (W := 0) (Nat.le_of_ble_eq_true rfl) (Nat.le_of_ble_eq_true rfl) (Nat.le_refl _) (by show 0 + A.slots.size ≤ A.slots.size; omega) (g := (mkF m 6 #[.val (.ref a), .val (.ref b)] [.null, .int (Int32.ofNat A.slots.size), .int (Int32.ofNat 0), .ref b, .ref a])) rfl (by rw [hml]; rfl) c2 (argsL := [.ref b, .int (Int32.ofNat 0), .int (Int32.ofNat A.slots.size), .null]) (rest := []) rfl rfl (by show 2 * 0 + 0 ≤ _; decide) (hb hbytes d6) (⟨rfl, hB.mv X0.warmed.alike hh0, f1.al X0.warmed.alike, f2.al X0.warmed.alike, hA.mv X0.warmed.alike hh0, s1.there X0.warmed.alike hh0, hz, l0, by omega, l2, fun i hi => by rw [Nat.zero_add]; exact hp i hi⟩)
  have e0 := Got.mv _ s₁ s _ _ hh0.symm (Vm.Alike.refl _) rfl E3
  obtain rfl := e0.1
  have c4 : Steps p.tables e below (s₁.setTop (entryFrame m #[.ref a, .ref b] 2)) (T3.setTop (mkF m 9 #[.val (.ref a), .val (.ref b)] [])) := g3
  exact ⟨T3, none, _, _, _, X3, by simp, rfl, by omega, (fun _ => rfl), e0, fun fs hl => c4.trans (X3.returnOut hexec hret (hb hbytes d9) hl)⟩
theorem pays {l : Launch} {R : Room} {p : Program} {e : Env} {below : List Frame} {s : State} {sargs : Array Value} {len W : Nat} (a : Addr) (D : Cell) (fV fC : Field) (b : Addr) (A : Cell) (z : Int32) (htab : tab.before sargs s = true) (hfr : 4 ≤ R.frames) (hlo : W + 65 ≤ R.locals) :
    Back l R p e below s sargs yN len W (fun A₁ a₁ => A₁.cells + 1 ≤ R.cells ∧ A₁.slots + A.slots.size ≤ R.slots ∧ P a D fV fC b A z a₁ A₁.U) (fun A₁ _ v₁ B₁ => E a D fV fC A v₁ A₁.U B₁.U ∧ B₁.locs = A₁.locs ++ [⟨a, fC.slot⟩, ⟨a, fV.slot⟩] ∧ B₁.cells = A₁.cells + 1 ∧ B₁.slots = A₁.slots + A.slots.size) :=
  (law l a D fV fC b A z).pays htab hfr (by omega)
end New1
/-- the byte, read back as charAt reads it, is the char -/
theorem lo8_mask {x : Int32} (h0 : ¬ x < 0) (h1 : ¬ 255 < x) : lo8 x &&& 255 = x := by
  have t : ∀ k : Fin 256, lo8 (Int32.ofNat k.val) &&& 255 = Int32.ofNat k.val := by decide +kernel
  rw [Int32.lt_iff_toInt_lt] at h0 h1
  have e0 : (0 : Int32).toInt = 0 := rfl
  have e1 : (255 : Int32).toInt = 255 := rfl
  obtain ⟨k, hk⟩ : ∃ k : Nat, x.toInt = k := ⟨x.toInt.toNat, by omega⟩
  have hx : x = Int32.ofNat k := Int32.toInt_inj.mp (by rw [hk, Int32.toInt_ofNat_small (by omega)])
  rw [hx]
  exact t ⟨k, by omega⟩
end StrChars
namespace StrChars.Road
open Jvm Sem ClassFile Op Lib Jvm.Stand Jvm.Free Jvm.Free.XT
open Jvm.Lib.Cold (StaticIs)
abbrev ST : String := "java/lang/String"
/-- every table word that New1's law asks, flat -/
abbrev words : List Jvm.Cond := [.code New1.yN New1.yB 2 none, .initialized ST, .methodLink ST 27 New4.yN, .instanceMethod New4.yN,
  .code New4.yN New4.yB 6 none, .fieldLink ST 38 ST "COMPACT_STRINGS" "Z", .laysFinal ST ST "value" "[B", .fieldLink ST 9 ST "value" "[B", .laysFinal ST ST "coder" "B", .fieldLink ST 15 ST "coder" "B",
  .methodLink ST 1 Lib.objectInit, .instanceMethod Lib.objectInit, .code Lib.objectInit ⟨#[0xb1]⟩ 1 none, .methodLink ST 177 Cmp3.yN, .static Cmp3.yN, .methodLink ST 47 CodL.yN, .static CodL.yN,
  .code Cmp3.yN Cmp3.yB 6 (some (.array .byte)), .initialized U16, .arrayClass .byte, .methodLink U16 115 Cmp5.yN, .static Cmp5.yN, .code Cmp5.yN Cmp5.yB 7 (some .int), .code CodL.yN CodL.yB 2 (some .byte)]
theorem tab_of {a : Array Value} {s : State} (h : ∀ w ∈ words, w.before a s = true) : New1.tab.before a s = true := by
  have h5 : Cmp5.tab.before a s = true := unparts (wk h (.code Cmp5.yN Cmp5.yB 7 (some .int))) (wks h (.initialized Cmp5.yN.cls :: Cmp5.site))
  have hc : CodL.tab.before a s = true := unparts (wk h (.code CodL.yN CodL.yB 2 (some .byte))) (wks h (.initialized CodL.yN.cls :: CodL.site))
  have q5 : ∀ w ∈ Cmp5.tab :: words, w.before a s = true := fun w hw => (List.mem_cons.mp hw).elim (fun e => e ▸ h5) (h w)
  have h3 : Cmp3.tab.before a s = true := unparts (wk q5 (.code Cmp3.yN Cmp3.yB 6 (some (.array .byte)))) (wks q5 (.initialized Cmp3.yN.cls :: Cmp3.site))
  have q3 : ∀ w ∈ Cmp3.tab :: CodL.tab :: words, w.before a s = true := fun w hw => (List.mem_cons.mp hw).elim (fun e => e ▸ h3) fun hw => (List.mem_cons.mp hw).elim (fun e => e ▸ hc) (h w)
  have h4 : New4.tab.before a s = true := unparts (wk q3 (.code New4.yN New4.yB 6 none)) (wks q3 (.initialized New4.yN.cls :: New4.site))
  have q4 : ∀ w ∈ New4.tab :: words, w.before a s = true := fun w hw => (List.mem_cons.mp hw).elim (fun e => e ▸ h4) (h w)
  exact unparts (wk q4 (.code New1.yN New1.yB 2 none)) (wks q4 (.initialized New1.yN.cls :: New1.site))
/-- the words ride from the start Z to the walk's own state -/
theorem moved {Z s : State} {a0 args : Array Value} (hZ : Z.Warmed39 s.vm) (hw : ∀ d ∈ words, d.before a0 Z = true) : ∀ d ∈ words, d.before args s = true := fun d hd => by
  have q := hw d hd
  have t : ∀ d ∈ words, d = .arrayClass .byte ∨ (d.onTables && d.keepsFace) = true := by decide +kernel
  rcases t d hd with rfl | t
  · exact RoadKit.mvA hZ q
  · exact RoadKit.mv hZ q t
/-- WHAT COMES BACK, over the tables of the start Z: h the heap at the call, h' behind it -/
def Q (Z : State) (x : Addr) (A : Cell) (h : Heap) (v : Option Value) (h' : Heap) (L : List Loc) : Prop := v = none ∧ (∀ y ∈ L, y.base = x) ∧ RoadKit.Keep h h' [x] ∧ h'.size = h.size + 1 ∧ RoadKit.Exa Z h' x ST ∧ RoadKit.Fld Z h' x ST "value" "[B" (.ref h.size) ∧ RoadKit.Fld Z h' x ST "coder" "B" (.int 0) ∧
  (∃ V : Cell, RoadKit.Arr Z h' h.size V .byte ∧ V.vm = .none ∧ Z.vm.findClass "[B" = some V.cls ∧ V.slots.size = A.slots.size ∧ ∀ j, j < A.slots.size → V.slots[j]? = some (.int (lo8 (cv A j)))) ∧
  ∀ (O n d : String) (w : Value), RoadKit.Fld Z h x O n d w → RoadKit.slotOf Z O n d ≠ RoadKit.slotOf Z ST "value" "[B" → RoadKit.slotOf Z O n d ≠ RoadKit.slotOf Z ST "coder" "B" → RoadKit.Fld Z h' x O n d w
/-- **new String(chars) AT A CALL, IN THE ROAD'S FORM**: for specialBack behind newO: x the fresh String, b the char[] with the cell A -/
theorem back {p : Program} {l : Launch} {e : Env} {R : Room} {s : State} {args : Array Value} {below : List Frame} {len W : Nat} {Z : State} {a0 : Array Value} {h : Heap} (hZ : Z.Warmed39 s.vm) (hw : ∀ d ∈ words, d.before a0 Z = true) {kI : Nat} (wi : (Jvm.Cond.instantiable ST kI).before a0 Z = true)
    {x b : Addr} {A : Cell} {z : Int32} {v0 c0 : Value} (E : RoadKit.Exa Z h x ST) (V : RoadKit.Fld Z h x ST "value" "[B" v0) (C : RoadKit.Fld Z h x ST "coder" "B" c0) (K : RoadKit.Arr Z h b A .char) (hty : Typed .char A) (S : RoadKit.Sta Z h ST "COMPACT_STRINGS" "Z" (.int z)) (hz : ¬ z = 0)
    (l0 : 0 < A.slots.size) (l2 : A.slots.size ≤ 536870912) (hp : ∀ i, i < A.slots.size → ¬ 255 < cv A i) (hfr : 4 ≤ R.frames) (hlo : W + 65 ≤ R.locals) :
    Back l R p e below s args New1.yN len W (fun P a => a = #[.ref x, .ref b] ∧ P.U.heap = h ∧ P.cells + 1 ≤ R.cells ∧ P.slots + A.slots.size ≤ R.slots)
      (fun P _ v B => ∃ L, Q Z x A h v B.U.heap L ∧ B.locs = P.locs ++ L ∧ B.cells = P.cells + 1 ∧ B.slots = P.slots + A.slots.size) := by
  intro m meth c P g ig mk a X hg hsize hdg hW hn hp'
  obtain ⟨rfl, rfl, r1, r2⟩ := hp'
  have al : Z.vm.Alike P.U.vm := hZ.alike.trans X.warmed.alike
  obtain ⟨D, cfV, kV, iV, fV, hD, gV, stV, knV, obV, asV, slV⟩ := id V
  obtain ⟨D', cfC, kC, iC, fC, hD', gC, stC, -, -, asC, slC⟩ := id C
  cases hD.symm.trans hD'
  obtain ⟨D2, kD, e1, e2, e3, e4, e5⟩ := id E
  cases hD.symm.trans e1
  obtain ⟨c2, k2, i1, i2, i3, -⟩ := Cond.instantiable_spec wi
  cases e2.symm.trans i1
  cases e3.symm.trans i2
  obtain ⟨kU, u1, u2⟩ := al.2.2 _ _ e3
  have hB : Blank ST x D P.U := ⟨hD, ⟨knV, fun q hq => by rw [hq] at obV; cases obV⟩, by rw [al.findClass]; exact e2, kU, u1, by rw [u2]; exact i3, by rw [u2]; exact e5 i3⟩
  have F1 : Found ST "value" "[B" fV P.U := ⟨SBG.found_only al ⟨cfV, kV, iV, gV⟩, stV⟩
  have F2 : Found ST "coder" "B" fC P.U := ⟨SBG.found_only al ⟨cfC, kC, iC, gC⟩, stC⟩
  have hA : Ch b A P.U := ⟨⟨K.1, State.isArrayOf_alike al K.2.1, K.2.2, by omega⟩, hty⟩
  have hS : StaticIs P.U ST "COMPACT_STRINGS" "Z" (.int z) := by
    obtain ⟨cfS, iS, kS, fS, st, cS, t1, t2, t3, t4, t5, t6, t7⟩ := S
    exact StaticIs.there (s := { Z with heap := P.U.heap }) ⟨cfS, iS, kS, fS, st, cS, t1, t2, t3, t4, t5, (fun q => by rw [q] at t6; cases t6), t7⟩ al rfl
  obtain ⟨v, B, X', ⟨⟨hv, E', V', q1, q2, q3, q4, q5, q6, q7, q8, q9, q10, q11⟩, hl, hc, hs⟩, st⟩ := New1.pays x D fV fC b A z (tab_of (moved hZ hw)) hfr hlo m meth c P g ig mk _ X hg hsize hdg hW hn ⟨r1, r2, rfl, hB, F1, F2, hA, hS, hz, l0, l2, hp⟩
  have al' : Z.vm.Alike B.U.vm := hZ.alike.trans X'.warmed.alike
  have hsz : E'.slots.size = D.slots.size := by
    obtain ⟨-, -, -, kB, w1, w2, w3⟩ := q1
    obtain ⟨kB', y1, y2⟩ := al'.2.2 _ _ e3
    rw [q2.2.1] at w1
    cases w1.symm.trans y1
    rw [w3, e5 i3, y2]
  refine ⟨v, B, X', ⟨_, ⟨hv, ?_, ⟨by omega, fun y cy hy hn' => q10 y cy (by simpa using hn') hy, fun y cy hy => ?_⟩, q11, ⟨E', _, q1.1, by rw [q2.2.1]; exact e2, by rw [q2.2.1]; exact e3, by rw [q2.1]; exact obV, fun _ => by rw [hsz]; exact e5 i3⟩,
    ⟨E', cfV, kV, iV, fV, q1.1, gV, stV, by rw [q2.1]; exact knV, by rw [q2.1]; exact obV, by rw [q2.2.1]; exact asV, q3⟩, ⟨E', cfC, kC, iC, fC, q1.1, gC, stC, by rw [q2.1]; exact knV, by rw [q2.1]; exact obV, by rw [q2.2.1]; exact asC, q4⟩,
    ⟨V', ⟨q5.1, State.isArrayOf_alike al'.symm q5.2.1, q5.2.2.1⟩, q6, by rw [← al'.findClass]; exact q7, q8, fun j hj => by have := q9 j hj; rwa [Nat.zero_add] at this⟩, fun O n d w F n1 n2 => ?_⟩, hl, hc, hs⟩, st⟩
  · intro y hy
    simp only [List.mem_cons, List.not_mem_nil, or_false] at hy
    rcases hy with rfl | rfl <;> rfl
  · by_cases q : y = x
    · subst q
      cases hD.symm.trans hy
      exact ⟨E', q1.1, q2.2.1, q2.1, hsz⟩
    · exact ⟨cy, q10 y cy q hy, rfl, rfl, rfl⟩
  · obtain ⟨D3, cf, k, i, f, g1, g2, g3, g4, g5, g6, g7⟩ := F
    cases hD.symm.trans g1
    simp only [RoadKit.slotOf, g2, gV, gC, Option.map_some, Option.getD_some] at n1 n2
    exact ⟨E', cf, k, i, f, q1.1, g2, g3, by rw [q2.1]; exact g4, by rw [q2.1]; exact g5, by rw [q2.2.1]; exact g6, by rw [q2.2.2 f.slot (by simp [n1, n2])]; exact g7⟩
end StrChars.Road
namespace StrChars.Road
open Jvm Sem ClassFile Op Lib Jvm.Stand Jvm.Free Jvm.Free.XT
/-- WHAT COMES BACK, the byte[] as a list of values -/
def QA (Z : State) (x : Addr) (zn : Int32) (cs : List Int32) (h : Heap) (v : Option Value) (h' : Heap) (L : List Loc) : Prop := v = none ∧ (∀ y ∈ L, y.base = x) ∧ RoadKit.Keep h h' [x] ∧ h'.size = h.size + 1 ∧ RoadKit.Exa Z h' x ST ∧ RoadKit.Fld Z h' x ST "value" "[B" (.ref h.size) ∧ RoadKit.Fld Z h' x ST "coder" "B" (.int 0) ∧
  (∃ kb, Z.vm.findClass "[B" = some kb ∧ RoadKit.Arv Z h' h.size kb .byte zn (cs.map fun c => .int (lo8 c)) (.int 0)) ∧
  ∀ (O n d : String) (w : Value), RoadKit.Fld Z h x O n d w → RoadKit.slotOf Z O n d ≠ RoadKit.slotOf Z ST "value" "[B" → RoadKit.slotOf Z O n d ≠ RoadKit.slotOf Z ST "coder" "B" → RoadKit.Fld Z h' x O n d w
/-- **new String(chars) AT A CALL, THE ARRAYS AS LISTS**: the char[] at b holds cs, not empty, no char above 255 -/
theorem backArv {p : Program} {l : Launch} {e : Env} {R : Room} {s : State} {args : Array Value} {below : List Frame} {len W : Nat} {Z : State} {a0 : Array Value} {h : Heap} (hZ : Z.Warmed39 s.vm) (hw : ∀ d ∈ words, d.before a0 Z = true) {kI : Nat} (wi : (Jvm.Cond.instantiable ST kI).before a0 Z = true)
    {x b : Addr} {k : ClassId} {zn z : Int32} {cs : List Int32} {dv v0 c0 : Value} (E : RoadKit.Exa Z h x ST) (V : RoadKit.Fld Z h x ST "value" "[B" v0) (C : RoadKit.Fld Z h x ST "coder" "B" c0) (K : RoadKit.Arv Z h b k .char zn (cs.map Value.int) dv) (S : RoadKit.Sta Z h ST "COMPACT_STRINGS" "Z" (.int z)) (hz : ¬ z = 0)
    (hlen : zn.toNatClampNeg = cs.length) (h0 : 0 < cs.length) (hbig : cs.length ≤ 536870912) (hall : ∀ c ∈ cs, ¬ 255 < c) (hfr : 4 ≤ R.frames) (hlo : W + 65 ≤ R.locals) :
    Back l R p e below s args New1.yN len W (fun P a => a = #[.ref x, .ref b] ∧ P.U.heap = h ∧ P.cells + 1 ≤ R.cells ∧ P.slots + cs.length ≤ R.slots)
      (fun P _ v B => ∃ L, QA Z x zn cs h v B.U.heap L ∧ B.locs = P.locs ++ L ∧ B.cells = P.cells + 1 ∧ B.slots = P.slots + cs.length) := by
  obtain ⟨A, K1, K2, K3, K4, K5, K6⟩ := K
  have e : A.slots.size = cs.length := K3.trans hlen
  have hat : ∀ (i : Nat) (hi : i < cs.length), A.slots[i]? = some (.int cs[i]) := fun i hi => by rw [K5 i (by omega)]; simp [List.getD_eq_getElem?_getD, hi]
  have hcv : ∀ (i : Nat) (hi : i < cs.length), cv A i = cs[i] := fun i hi => by unfold cv; rw [hat i hi]
  have hty : Typed .char A := fun i v hv => by
    have hi : i < A.slots.size := (Array.getElem?_eq_some_iff.mp hv).1
    have q := K5 i hi
    rw [hv] at q
    rw [Option.some.inj q]
    exact K6 i hi
  refine Back.mono (back hZ hw wi E V C K1 hty S hz (by omega) (by omega) (fun i hi => by rw [hcv i (by omega)]; exact hall _ (List.getElem_mem _)) hfr hlo) (fun P a hp => ⟨hp.1, hp.2.1, hp.2.2.1, by rw [e]; exact hp.2.2.2⟩) (fun P a v B hp hq => ?_)
  obtain ⟨L, ⟨q1, q2, q3, q4, q5, q6, q7, ⟨V', v1, v2, v3, v4, v5⟩, q9⟩, hl, hc, hs⟩ := hq
  refine ⟨L, ⟨q1, q2, q3, q4, q5, q6, q7, ⟨V'.cls, v3, V', v1, rfl, by rw [v4, e, hlen], K4, fun i hi => ?_, fun i hi => ?_⟩, q9⟩, hl, hc, by rw [hs, e]⟩
  · have hi' : i < cs.length := by omega
    rw [v5 i (by omega), hcv i hi']; simp [List.getD_eq_getElem?_getD, hi']
  · have hi' : i < cs.length := by omega
    simp only [List.getD_eq_getElem?_getD, List.getElem?_map, List.getElem?_eq_getElem hi', Option.map_some, Option.getD_some]
    exact fits_lo8 _
end StrChars.Road
namespace StrChars.Road
open Jvm Sem ClassFile Op Lib Jvm.Stand Jvm.Free Jvm.Free.XT
/-- WHAT COMES BACK, in the writer's own shape -/
def QV (Z : State) (x : Addr) (N : Int32) (bs : List Int32) (h : Heap) (n0 : Nat) (v : Option Value) (h' : Heap) (L : List Loc) : Prop := v = none ∧ RoadKit.Fr n0 L ∧ RoadKit.Keep h h' [x] ∧ RoadKit.Exa Z h' x ST ∧ RoadKit.Fld Z h' x ST "coder" "B" (.int 0) ∧
  ∃ (t : Addr) (kb : ClassId), n0 ≤ t ∧ h.size ≤ t ∧ ¬ t = x ∧ RoadKit.Fld Z h' x ST "value" "[B" (.ref t) ∧ RoadKit.Arv Z h' t kb .byte N (bs.map Value.int) (.int 0)
/-- **new String(chars) AT A CALL, FOR THE WRITER**: a char[] of n known ints, each 0 to 255 -/
theorem backV {p : Program} {l : Launch} {e : Env} {R : Room} {s : State} {args : Array Value} {below : List Frame} {len W : Nat} {Z : State} {a0 : Array Value} {h : Heap} (hZ : Z.Warmed39 s.vm) (hw : ∀ d ∈ words, d.before a0 Z = true) {kI : Nat} (wi : (Jvm.Cond.instantiable ST kI).before a0 Z = true)
    {x b : Addr} {kC : ClassId} {cs bs : List Int32} {d v0 c0 : Value} {z N : Int32} {n n0 : Nat} (hx0 : n0 ≤ x) (hh0 : n0 ≤ h.size) (E : RoadKit.Exa Z h x ST) (V : RoadKit.Fld Z h x ST "value" "[B" v0) (C : RoadKit.Fld Z h x ST "coder" "B" c0) (K : RoadKit.Arv Z h b kC .char N (cs.map Value.int) d) (S : RoadKit.Sta Z h ST "COMPACT_STRINGS" "Z" (.int z)) (hz : ¬ z = 0)
    (hn : cs.length = n) (hN : N = Int32.ofNat n) (l0 : 0 < n) (l2 : n ≤ 4000) (hp : ∀ c ∈ cs, ¬ c < 0 ∧ ¬ (255 : Int32) < c) (hb : bs = cs.map (fun c => c.toInt8.toInt32)) (hfr : 4 ≤ R.frames) (hlo : W + 65 ≤ R.locals) :
    Back l R p e below s args (⟨"java/lang/String", "<init>", "([C)V"⟩ : MethodName) len W (fun P a => a = #[.ref x, .ref b] ∧ P.U.heap = h ∧ P.cells + 1 ≤ R.cells ∧ P.slots + n ≤ R.slots)
      (fun P _ v B => ∃ L, QV Z x N bs h n0 v B.U.heap L ∧ B.locs = P.locs ++ L ∧ B.cells = P.cells + 1 ∧ B.slots = P.slots + n) := by
  subst hn hN hb
  refine Back.mono (backArv hZ hw wi E V C K S hz (n32 (by omega)) l0 (by omega) (fun c hc => (hp c hc).2) hfr hlo) (fun P a hp => hp) (fun P a v B hp hq => ?_)
  obtain ⟨L, ⟨q1, q2, q3, q4, q5, q6, q7, ⟨kb, v1, v2⟩, q9⟩, hl, hc, hs⟩ := hq
  exact ⟨L, ⟨q1, fun y hy => by rw [q2 y hy]; exact hx0, q3, q5, q7, h.size, kb, hh0, Nat.le_refl _, Nat.ne_of_gt E.lt, q6, by rw [List.map_map]; exact v2⟩, hl, hc, hs⟩
end StrChars.Road
namespace StrChars
open Jvm Sem ClassFile Op Lib Jvm.Stand Jvm.Free.XT Jvm.Free.ALB Jvm.Free.JM Jvm.Free
open Jvm.Lib.Cold (StaticIs)
def hi8 (x : Int32) : Int32 := lo8 (x >>> ((8 : Int32) &&& 31))
/-- what StringUTF16.getChar makes of two bytes -/
def pairCh (u v : Int32) : Int32 := (((u &&& 255) <<< ((0 : Int32) &&& 31)) ||| ((v &&& 255) <<< ((8 : Int32) &&& 31))).toUInt32.toUInt16.toUInt32.toInt32
theorem shr0 (c : Int32) : c >>> ((0 : Int32) &&& 31) = c := by
  have e : ((0 : Int32) &&& 31) = 0 := by decide
  rw [e]
  apply Int32.toBitVec_inj.mp
  rw [Int32.toBitVec_shiftRight]
  have e1 : ((0 : Int32).toBitVec.smod 32) = 0#32 := by decide
  rw [e1, BitVec.sshiftRight_eq']
  exact BitVec.sshiftRight_zero
theorem lo8_and (x : Int32) : (lo8 x &&& 255).toBitVec.toNat = x.toBitVec.toNat % 256 := by
  have h : (lo8 x).toBitVec = (x.toBitVec.signExtend 8).signExtend 32 := by rw [lo8, Int8.toBitVec_toInt32, Int32.toBitVec_toInt8]
  rw [Int32.toBitVec_and, BitVec.toNat_and, h]
  have e : ((x.toBitVec.signExtend 8).signExtend 32).toNat % 256 = x.toBitVec.toNat % 256 := by
    rw [BitVec.toNat_signExtend]
    have hlt := x.toBitVec.isLt
    simp only [BitVec.toNat_setWidth, BitVec.toNat_signExtend]
    split <;> split <;> omega
  rw [← e]
  exact Nat.and_two_pow_sub_one_eq_mod _ 8
theorem pair_says {c : Int32} (h0 : ¬ c < 0) (h1 : ¬ 65535 < c) : pairCh (lo8 c) (hi8 c) = c := by
  rw [Int32.lt_iff_toInt_lt] at h0 h1
  have e0 : (0 : Int32).toInt = 0 := rfl
  have e1 : (65535 : Int32).toInt = 65535 := rfl
  have hc : c.toInt = c.toBitVec.toNat := by
    have := c.toBitVec.isLt
    have e : c.toInt = c.toBitVec.toInt := rfl
    rw [e] at h0 h1
    rw [e]
    rw [BitVec.toInt_eq_toNat_cond] at h0 h1 ⊢
    split at h0 <;> split <;> omega
  have hn : c.toBitVec.toNat < 65536 := by omega
  have a1 := lo8_and c
  have a2 : (hi8 c &&& 255).toBitVec.toNat = c.toBitVec.toNat / 256 := by
    rw [hi8, lo8_and]
    have e : ((8 : Int32) &&& 31) = 8 := by decide
    rw [e, Int32.toBitVec_shiftRight]
    have e2 : ((8 : Int32).toBitVec.smod 32) = 8#32 := by decide
    rw [e2, BitVec.sshiftRight_eq', BitVec.toNat_sshiftRight_of_msb_false (by rw [BitVec.msb_eq_false_iff_two_mul_lt]; omega)]
    show c.toBitVec.toNat >>> 8 % 256 = _
    rw [Nat.shiftRight_eq_div_pow]
    omega
  unfold pairCh
  apply Int32.toBitVec_inj.mp
  apply BitVec.eq_of_toNat_eq
  have f0 : ((0 : Int32) &&& 31) = 0 := by decide
  have f8 : ((8 : Int32) &&& 31) = 8 := by decide
  rw [f0, f8]
  have g : (((lo8 c &&& 255) <<< (0 : Int32)) ||| ((hi8 c &&& 255) <<< (8 : Int32))).toBitVec.toNat = c.toBitVec.toNat := by
    rw [Int32.toBitVec_or, Int32.toBitVec_shiftLeft, Int32.toBitVec_shiftLeft]
    have s0 : ((0 : Int32).toBitVec.smod 32) = 0#32 := by decide
    have s8 : ((8 : Int32).toBitVec.smod 32) = 8#32 := by decide
    rw [s0, s8, BitVec.toNat_or]
    simp only [BitVec.shiftLeft_eq', BitVec.toNat_shiftLeft, a1, a2]
    show (c.toBitVec.toNat % 256) <<< 0 % 2 ^ 32 ||| (c.toBitVec.toNat / 256) <<< 8 % 2 ^ 32 = _
    rw [Nat.shiftLeft_zero, Nat.mod_eq_of_lt (show c.toBitVec.toNat % 256 < 2 ^ 32 by omega), Nat.mod_eq_of_lt (show (c.toBitVec.toNat / 256) <<< 8 < 2 ^ 32 by rw [Nat.shiftLeft_eq]; omega), Nat.or_comm, ← Nat.shiftLeft_add_eq_or_of_lt (by omega), Nat.shiftLeft_eq]
    omega
  show BitVec.toNat (((((lo8 c &&& 255) <<< (0 : Int32)) ||| ((hi8 c &&& 255) <<< (8 : Int32))).toBitVec.setWidth 16).setWidth 32) = _
  rw [BitVec.toNat_setWidth, BitVec.toNat_setWidth, g]
  omega
end StrChars
namespace StrChars
open Jvm Sem ClassFile Op Lib Jvm.Stand Jvm.Free.XT Jvm.Free.ALB Jvm.Free.JM Jvm.Free
open Jvm.Lib.Cold (StaticIs)
theorem shr1 {n : Nat} (h : 2 * n < 2 ^ 31) : Int32.ofNat (2 * n) >>> ((1 : Int32) &&& 31) = Int32.ofNat n := by
  have e : ((1 : Int32) &&& 31) = 1 := by decide
  rw [e]
  apply Int32.toBitVec_inj.mp
  rw [Int32.toBitVec_shiftRight]
  have e1 : ((1 : Int32).toBitVec.smod 32) = 1#32 := by decide
  have hm : (BitVec.ofNat 32 (2 * n)).toNat = 2 * n := by rw [BitVec.toNat_ofNat, Nat.mod_eq_of_lt (by omega)]
  rw [e1, BitVec.sshiftRight_eq']
  apply BitVec.eq_of_toNat_eq
  show ((BitVec.ofNat 32 (2 * n)).sshiftRight 1).toNat = (BitVec.ofNat 32 n).toNat
  rw [BitVec.toNat_sshiftRight_of_msb_false (by rw [BitVec.msb_eq_false_iff_two_mul_lt, hm]; omega), hm, BitVec.toNat_ofNat, Nat.shiftRight_eq_div_pow]
  omega
/-- charAt's cast of a byte read back -/
def chr8 (u : Int32) : Int32 := (u &&& 255).toUInt32.toUInt16.toUInt32.toInt32
theorem chr8_lo8 {c : Int32} (h0 : ¬ c < 0) (h1 : ¬ 255 < c) : chr8 (lo8 c) = c := by
  have t : ∀ k : Fin 256, (Int32.ofNat k.val).toUInt32.toUInt16.toUInt32.toInt32 = Int32.ofNat k.val := by decide +kernel
  unfold chr8
  rw [lo8_mask h0 h1]
  rw [Int32.lt_iff_toInt_lt] at h0 h1
  have e0 : (0 : Int32).toInt = 0 := rfl
  have e1 : (255 : Int32).toInt = 255 := rfl
  obtain ⟨k, hk⟩ : ∃ k : Nat, c.toInt = k := ⟨c.toInt.toNat, by omega⟩
  have hx : c = Int32.ofNat k := Int32.toInt_inj.mp (by rw [hk, Int32.toInt_ofNat_small (by omega)])
  rw [hx]
  exact t ⟨k, by omega⟩
theorem narrow_ch {c : Int32} (h0 : ¬ c < 0) (h1 : ¬ 65535 < c) : narrow .char (.int c) = .int c := by
  have q : narrow .char (.int (pairCh (lo8 c) (hi8 c))) = .int (pairCh (lo8 c) (hi8 c)) := narrow_c _
  rwa [pair_says h0 h1] at q
/-- the array's cell V codes the n chars f 0 .. f (n - 1) by the coder cd, as the JDK does: coder 1 just where some char is above 255 -/
def Cod (cd : Int32) (n : Nat) (f : Nat → Int32) (V : Cell) : Prop := (cd = 0 ∧ V.slots.size = n ∧ ∀ j, j < n → V.slots[j]? = some (.int (lo8 (f j))) ∧ ¬ 255 < f j) ∨ (cd = 1 ∧ V.slots.size = 2 * n ∧ (∀ j, j < n → V.slots[2 * j]? = some (.int (lo8 (f j))) ∧ V.slots[2 * j + 1]? = some (.int (hi8 (f j)))) ∧ ∃ j, j < n ∧ 255 < f j)
theorem Cod.cd {cd : Int32} {n : Nat} {f : Nat → Int32} {V : Cell} (h : Cod cd n f V) : cd = 0 ∨ cd = 1 := h.imp (fun q => q.1) fun q => q.1
theorem Cod.len {cd : Int32} {n : Nat} {f : Nat → Int32} {V : Cell} (h : Cod cd n f V) (hs : V.slots.size < 2 ^ 31) : Int32.ofNat V.slots.size >>> (cd &&& 31) = Int32.ofNat n := by
  rcases h with ⟨rfl, h, -⟩ | ⟨rfl, h, -⟩
  · rw [shr0, h]
  · rw [h, shr1 (by omega)]
/-- **x is a String of the n chars f 0 .. f (n - 1)**, Latin-1 or UTF-16; its array at t has the cell V -/
def Txt (x t : Addr) (V : Cell) (cd : Int32) (n : Nat) (f : Nat → Int32) (U : State) : Prop := Exact "java/lang/String" x U ∧ Has x "java/lang/String" "value" "[B" (.ref t) U ∧ Has x "java/lang/String" "coder" "B" (.int cd) U ∧ XT.Arr .byte t V U ∧ Cod cd n f V ∧ ∀ j, j < n → ¬ f j < 0 ∧ ¬ 65535 < f j
theorem Txt.mv {x t : Addr} {V : Cell} {cd : Int32} {n : Nat} {f : Nat → Int32} {U U' : State} (h : Txt x t V cd n f U) (hal : U.vm.Alike U'.vm) (hh : U'.heap = U.heap) : Txt x t V cd n f U' := ⟨h.1.mv hal hh, h.2.1.mv hal hh, h.2.2.1.mv hal hh, h.2.2.2.1.mv hal hh, h.2.2.2.2⟩
namespace Cdr
def yN : MethodName := ⟨"java/lang/String", "coder", "()B"⟩
abbrev yB : ByteArray := jdk_42_method_152_code
theorem d0 : decode yB 0 = .ok (.getstatic 38, 3) := by decide +kernel
theorem d3 : decode yB 3 = .ok (.ifCond (.eq) 10, 3) := by decide +kernel
theorem d6 : decode yB 6 = .ok (.aload_n 0, 1) := by decide +kernel
theorem d7 : decode yB 7 = .ok (.getfield 15, 3) := by decide +kernel
theorem d10 : decode yB 10 = .ok (.goto 4, 3) := by decide +kernel
theorem d14 : decode yB 14 = .ok (.ireturn, 1) := by decide +kernel
def site : List Cond := [.fieldLink "java/lang/String" 38 "java/lang/String" "COMPACT_STRINGS" "Z", .fieldLink "java/lang/String" 15 "java/lang/String" "coder" "B"]
def tab : Cond := tabOf yN yB 1 (some .byte) site
def P (x : Addr) (cd z : Int32) (args : Array Value) (s : State) : Prop := args = #[.ref x] ∧ Has x "java/lang/String" "coder" "B" (.int cd) s ∧ (cd = 0 ∨ cd = 1) ∧ StaticIs s "java/lang/String" "COMPACT_STRINGS" "Z" (.int z) ∧ ¬ z = 0
def E (cd : Int32) (r : Option Value) (s u : State) : Prop := XT.PureE (some (.int cd)) r s u
theorem law (l : Launch) (x : Addr) (cd z : Int32) : Law l yN 1 0 0 0 yB 1 (some .byte) site (P x cd z) (E cd) [] 0 0 := by
  refine Law.of_walk (plainFor_of_name (by decide +kernel)) (by decide +kernel) (by decide +kernel) (by decide) (fun _ _ h => by rw [h.1]; rfl) (fun _ U U' hal hh h => ⟨h.1, h.2.1.mv hal hh, h.2.2.1, h.2.2.2.1.there hal hh, h.2.2.2.2⟩) (fun r U U' V V' h1 hal h2 h => XT.PureE.mv r U U' V V' h1 hal h2 h) ?_
  intro p e s m args below meth c s₁ X0 hexec hbytes hml hret hlk hnm hown hh0 W hP
  obtain ⟨rfl, hx, hc, s1, hz⟩ := hP
  have c1 : Steps p.tables e below (s₁.setTop (entryFrame m #[.ref x] 1)) (s₁.setTop (mkF m 0 #[.val (.ref x)] [])) := entry rfl
  obtain ⟨T2, X2, q2, st2⟩ := X0.sget hexec hown (wk W (.fieldLink "java/lang/String" 38 "java/lang/String" "COMPACT_STRINGS" "Z")) s1 (fun _ _ h => by rw [hh0]; exact h) (g := (mkF m 0 #[.val (.ref x)] [])) rfl (hb hbytes d0)
  have hh2 := q2.trans hh0
  have c3 : Steps p.tables e below (s₁.setTop (entryFrame m #[.ref x] 1)) (T2.setTop (mkF m 7 #[.val (.ref x)] [.ref x])) := (c1.trans (st2 _ (Steps.refl _))).trans (by
    refine XS.ifNo X2.here hexec rfl (hb hbytes d3) rfl (i0_eq_f hz) ?_
    refine XS.aloadN X2.here hexec rfl (hb hbytes d6) rfl rfl ?_
    exact Steps.refl _)
  obtain ⟨T4, X4, q4, st4⟩ := X2.hget hexec hown (wk W (.fieldLink "java/lang/String" 15 "java/lang/String" "coder" "B")) (hx.mv X2.warmed.alike hh2) (g := (mkF m 7 #[.val (.ref x)] [.ref x])) rfl (rest := []) rfl (hb hbytes d7)
  have c5 : Steps p.tables e below (s₁.setTop (entryFrame m #[.ref x] 1)) (T4.setTop (mkF m 14 #[.val (.ref x)] [.int cd])) := (c3.trans (st4 _ (Steps.refl _))).trans (by
    refine XS.goto X4.here hexec rfl (pc0 := 10) rfl (hb hbytes d10) (by decide) rfl ?_
    exact Steps.refl _)
  exact ⟨T4, some (.int cd), _, _, _, X4, rfl, rfl, rfl, (fun h => by cases h), ⟨rfl, q4.trans hh2⟩, fun fs hl => c5.trans (X4.ireturnOut hexec hret (by rcases hc with rfl | rfl <;> rfl) (Or.inr (Or.inr (Or.inl rfl))) (hb hbytes d14) hl)⟩
end Cdr
namespace Len
def yN : MethodName := ⟨"java/lang/String", "length", "()I"⟩
abbrev yB : ByteArray := jdk_42_method_54_code
theorem d0 : decode yB 0 = .ok (.aload_n 0, 1) := by decide +kernel
theorem d1 : decode yB 1 = .ok (.getfield 9, 3) := by decide +kernel
theorem d4 : decode yB 4 = .ok (.arraylength, 1) := by decide +kernel
theorem d5 : decode yB 5 = .ok (.aload_n 0, 1) := by decide +kernel
theorem d6 : decode yB 6 = .ok (.invokevirtual 335, 3) := by decide +kernel
theorem d9 : decode yB 9 = .ok (.ishr, 1) := by decide +kernel
theorem d10 : decode yB 10 = .ok (.ireturn, 1) := by decide +kernel
def site : List Cond := [.fieldLink "java/lang/String" 9 "java/lang/String" "value" "[B", Cdr.tab] ++ virtW "java/lang/String" 335 "java/lang/String" Cdr.yN Cdr.yN
def tab : Cond := tabOf yN yB 1 (some .int) site
def P (x t : Addr) (V : Cell) (cd : Int32) (n : Nat) (f : Nat → Int32) (z : Int32) (args : Array Value) (s : State) : Prop := args = #[.ref x] ∧ Txt x t V cd n f s ∧ StaticIs s "java/lang/String" "COMPACT_STRINGS" "Z" (.int z) ∧ ¬ z = 0
def E (n : Nat) (r : Option Value) (s u : State) : Prop := XT.PureE (some (.int (Int32.ofNat n))) r s u
/-- length() of a String of n chars, in either coding -/
theorem law (l : Launch) (x t : Addr) (V : Cell) (cd : Int32) (n : Nat) (f : Nat → Int32) (z : Int32) : Law l yN 1 0 1 13 yB 1 (some .int) site (P x t V cd n f z) (E n) [] 0 0 := by
  refine Law.of_walk (plainFor_of_name (by decide +kernel)) (by decide +kernel) (by decide +kernel) (by decide) (fun _ _ h => by rw [h.1]; rfl) (fun _ U U' hal hh h => ⟨h.1, h.2.1.mv hal hh, h.2.2.1.there hal hh, h.2.2.2⟩) (fun r U U' V V' h1 hal h2 h => XT.PureE.mv r U U' V V' h1 hal h2 h) ?_
  intro p e s m args below meth c s₁ X0 hexec hbytes hml hret hlk hnm hown hh0 W hP
  obtain ⟨rfl, hx, s1, hz⟩ := hP
  have v31 := hx.2.2.2.1.2.2.2
  have c1 : Steps p.tables e below (s₁.setTop (entryFrame m #[.ref x] 1)) (s₁.setTop (mkF m 1 #[.val (.ref x)] [.ref x])) := Steps.trans (entry rfl) (by
    show Steps p.tables e below (s₁.setTop (mkF m 0 #[.val (.ref x)] [])) _
    refine XS.aloadN X0.here hexec rfl (hb hbytes d0) rfl rfl ?_
    exact Steps.refl _)
  obtain ⟨T2, X2, q2, st2⟩ := X0.hget hexec hown (wk W (.fieldLink "java/lang/String" 9 "java/lang/String" "value" "[B")) (hx.mv X0.warmed.alike hh0).2.1 (g := (mkF m 1 #[.val (.ref x)] [.ref x])) rfl (rest := []) rfl (hb hbytes d1)
  have hh2 := q2.trans hh0
  have hx2 := hx.mv X2.warmed.alike hh2
  have c3 : Steps p.tables e below (s₁.setTop (entryFrame m #[.ref x] 1)) (T2.setTop (mkF m 6 #[.val (.ref x)] [.ref x, .int (Int32.ofNat V.slots.size)])) := (c1.trans (st2 _ (Steps.refl _))).trans (by
    refine X2.alen hexec hx2.2.2.2.1 rfl rfl (hb hbytes d4) ?_
    refine XS.aloadN X2.here hexec rfl (hb hbytes d5) rfl rfl ?_
    exact Steps.refl _)
  obtain ⟨v4, T4, X4, E4, g4⟩ := X2.callV hexec (Cdr.law l x cd z) hown (wks W (virtW "java/lang/String" 335 "java/lang/String" Cdr.yN Cdr.yN)) rfl (by decide) (wk W Cdr.tab) (W := 1) (Nat.le_of_ble_eq_true rfl) (Nat.le_of_ble_eq_true rfl) (Nat.le_refl _) (Nat.le_refl _) (hx2.1.fc X2.warmed.alike) hx2.1.is (g := (mkF m 6 #[.val (.ref x)] [.ref x, .int (Int32.ofNat V.slots.size)])) rfl (by rw [hml]; rfl) c3 (argsL := []) (rest := [.int (Int32.ofNat V.slots.size)]) rfl rfl (by show 2 * 0 + (1 + 0) ≤ _; decide) (hb hbytes d6) (⟨rfl, hx2.2.2.1, hx.2.2.2.2.1.cd, s1.there X2.warmed.alike hh2, hz⟩)
  obtain ⟨rfl, q4⟩ := E4
  have c5 : Steps p.tables e below (s₁.setTop (entryFrame m #[.ref x] 1)) (T4.setTop (mkF m 10 #[.val (.ref x)] [.int (Int32.ofNat V.slots.size >>> (cd &&& 31))])) := Steps.trans g4 (by
    refine ishr X4.here hexec rfl (hb hbytes d9) rfl ?_
    exact Steps.refl _)
  rw [hx.2.2.2.2.1.len v31] at c5
  exact ⟨T4, some (.int (Int32.ofNat n)), _, _, _, X4, rfl, rfl, rfl, (fun h => by cases h), ⟨rfl, q4.trans hh2⟩, fun fs hl => c5.trans (X4.ireturnOut hexec hret rfl (Or.inl rfl) (hb hbytes d10) hl)⟩
theorem pays {l : Launch} {R : Room} {p : Program} {e : Env} {below : List Frame} {s : State} {sargs : Array Value} {len W : Nat} (x t : Addr) (V : Cell) (cd : Int32) (n : Nat) (f : Nat → Int32) (z : Int32) (htab : tab.before sargs s = true) (hfr : 2 ≤ R.frames) (hlo : W + 25 ≤ R.locals) :
    Back l R p e below s sargs yN len W (fun A₁ a₁ => A₁.cells + 0 ≤ R.cells ∧ A₁.slots + 0 ≤ R.slots ∧ P x t V cd n f z a₁ A₁.U) (fun A₁ _ v₁ B₁ => E n v₁ A₁.U B₁.U ∧ B₁.locs = A₁.locs ++ [] ∧ B₁.cells = A₁.cells + 0 ∧ B₁.slots = A₁.slots + 0) :=
  (law l x t V cd n f z).pays htab hfr (by omega)
end Len
namespace IsL
def yN : MethodName := ⟨"java/lang/String", "isLatin1", "()Z"⟩
abbrev yB : ByteArray := jdk_42_method_154_code
theorem d0 : decode yB 0 = .ok (.getstatic 38, 3) := by decide +kernel
theorem d3 : decode yB 3 = .ok (.ifCond (.eq) 14, 3) := by decide +kernel
theorem d6 : decode yB 6 = .ok (.aload_n 0, 1) := by decide +kernel
theorem d7 : decode yB 7 = .ok (.getfield 15, 3) := by decide +kernel
theorem d10 : decode yB 10 = .ok (.ifCond (.ne) 7, 3) := by decide +kernel
theorem d13 : decode yB 13 = .ok (.iconst 1, 1) := by decide +kernel
theorem d14 : decode yB 14 = .ok (.goto 4, 3) := by decide +kernel
theorem d17 : decode yB 17 = .ok (.iconst 0, 1) := by decide +kernel
theorem d18 : decode yB 18 = .ok (.ireturn, 1) := by decide +kernel
def site : List Cond := [.fieldLink "java/lang/String" 38 "java/lang/String" "COMPACT_STRINGS" "Z", .fieldLink "java/lang/String" 15 "java/lang/String" "coder" "B"]
def tab : Cond := tabOf yN yB 1 (some .boolean) site
def P (x : Addr) (cd z : Int32) (args : Array Value) (s : State) : Prop := args = #[.ref x] ∧ Has x "java/lang/String" "coder" "B" (.int cd) s ∧ (cd = 0 ∨ cd = 1) ∧ StaticIs s "java/lang/String" "COMPACT_STRINGS" "Z" (.int z) ∧ ¬ z = 0
def E (cd : Int32) (r : Option Value) (s u : State) : Prop := XT.PureE (some (.int (1 - cd))) r s u
theorem law (l : Launch) (x : Addr) (cd z : Int32) : Law l yN 1 0 0 0 yB 1 (some .boolean) site (P x cd z) (E cd) [] 0 0 := by
  refine Law.of_walk (plainFor_of_name (by decide +kernel)) (by decide +kernel) (by decide +kernel) (by decide) (fun _ _ h => by rw [h.1]; rfl) (fun _ U U' hal hh h => ⟨h.1, h.2.1.mv hal hh, h.2.2.1, h.2.2.2.1.there hal hh, h.2.2.2.2⟩) (fun r U U' V V' h1 hal h2 h => XT.PureE.mv r U U' V V' h1 hal h2 h) ?_
  intro p e s m args below meth c s₁ X0 hexec hbytes hml hret hlk hnm hown hh0 W hP
  obtain ⟨rfl, hx, hc, s1, hz⟩ := hP
  have c1 : Steps p.tables e below (s₁.setTop (entryFrame m #[.ref x] 1)) (s₁.setTop (mkF m 0 #[.val (.ref x)] [])) := entry rfl
  obtain ⟨T2, X2, q2, st2⟩ := X0.sget hexec hown (wk W (.fieldLink "java/lang/String" 38 "java/lang/String" "COMPACT_STRINGS" "Z")) s1 (fun _ _ h => by rw [hh0]; exact h) (g := (mkF m 0 #[.val (.ref x)] [])) rfl (hb hbytes d0)
  have hh2 := q2.trans hh0
  have c3 : Steps p.tables e below (s₁.setTop (entryFrame m #[.ref x] 1)) (T2.setTop (mkF m 7 #[.val (.ref x)] [.ref x])) := (c1.trans (st2 _ (Steps.refl _))).trans (by
    refine XS.ifNo X2.here hexec rfl (hb hbytes d3) rfl (i0_eq_f hz) ?_
    refine XS.aloadN X2.here hexec rfl (hb hbytes d6) rfl rfl ?_
    exact Steps.refl _)
  obtain ⟨T4, X4, q4, st4⟩ := X2.hget hexec hown (wk W (.fieldLink "java/lang/String" 15 "java/lang/String" "coder" "B")) (hx.mv X2.warmed.alike hh2) (g := (mkF m 7 #[.val (.ref x)] [.ref x])) rfl (rest := []) rfl (hb hbytes d7)
  have c5 : Steps p.tables e below (s₁.setTop (entryFrame m #[.ref x] 1)) (T4.setTop (mkF m 10 #[.val (.ref x)] [.int cd])) := c3.trans (st4 _ (Steps.refl _))
  have c6 : Steps p.tables e below (s₁.setTop (entryFrame m #[.ref x] 1)) (T4.setTop (mkF m 18 #[.val (.ref x)] [.int (1 - cd)])) := by
    rcases hc with rfl | rfl
    · exact c5.trans (by
        refine XS.ifNo X4.here hexec rfl (hb hbytes d10) rfl (i0_ne_f rfl) ?_
        refine iconstV X4.here hexec rfl 1 (hb hbytes d13) (by decide) ?_
        refine XS.goto X4.here hexec rfl (pc0 := 14) rfl (hb hbytes d14) (by decide) rfl ?_
        exact Steps.refl _)
    · exact c5.trans (by
        refine XS.ifYes X4.here hexec rfl (pc0 := 10) rfl (hb hbytes d10) rfl (i0_ne_t (by decide)) (by decide) rfl ?_
        refine iconstV X4.here hexec rfl 0 (hb hbytes d17) (by decide) ?_
        exact Steps.refl _)
  exact ⟨T4, some (.int (1 - cd)), _, _, _, X4, rfl, rfl, rfl, (fun h => by cases h), ⟨rfl, q4.trans hh2⟩, fun fs hl => c6.trans (X4.ireturnOut hexec hret (by rcases hc with rfl | rfl <;> rfl) (Or.inr (Or.inl rfl)) (hb hbytes d18) hl)⟩
end IsL
namespace LChA
def yN : MethodName := ⟨"java/lang/StringLatin1", "charAt", "([BI)C"⟩
abbrev yB : ByteArray := jdk_43_method_2_code
theorem d0 : decode yB 0 = .ok (.iload_n 1, 1) := by decide +kernel
theorem d1 : decode yB 1 = .ok (.aload_n 0, 1) := by decide +kernel
theorem d2 : decode yB 2 = .ok (.arraylength, 1) := by decide +kernel
theorem d3 : decode yB 3 = .ok (.invokestatic 9, 3) := by decide +kernel
theorem d6 : decode yB 6 = .ok (.aload_n 0, 1) := by decide +kernel
theorem d7 : decode yB 7 = .ok (.iload_n 1, 1) := by decide +kernel
theorem d8 : decode yB 8 = .ok (.baload, 1) := by decide +kernel
theorem d9 : decode yB 9 = .ok (.sipush 255, 3) := by decide +kernel
theorem d12 : decode yB 12 = .ok (.iand, 1) := by decide +kernel
theorem d13 : decode yB 13 = .ok (.i2c, 1) := by decide +kernel
theorem d14 : decode yB 14 = .ok (.ireturn, 1) := by decide +kernel
def site : List Cond := [JO.Str_checkIndex.tab] ++ staticW "java/lang/StringLatin1" 9 JO.Str_checkIndex.yN
def tab : Cond := tabOf yN yB 2 (some .char) site
def P (t : Addr) (V : Cell) (i : Nat) (u : Int32) (fm : Value) (args : Array Value) (s : State) : Prop := args = #[.ref t, .int (Int32.ofNat i)] ∧ XT.Arr .byte t V s ∧ V.slots[i]? = some (.int u) ∧ (StaticIs s "jdk/internal/util/Preconditions" "SIOOBE_FORMATTER" "Ljava/util/function/BiFunction;" fm ∧ fm.isRef = true)
def E (u : Int32) (r : Option Value) (s w : State) : Prop := XT.PureE (some (.int (chr8 u))) r s w
theorem law (l : Launch) (t : Addr) (V : Cell) (i : Nat) (u : Int32) (fm : Value) : Law l yN 2 2 2 27 yB 2 (some .char) site (P t V i u fm) (E u) [] 0 0 := by
  refine Law.of_walk (plainFor_of_name (by decide +kernel)) (by decide +kernel) (by decide +kernel) (by decide) (fun _ _ h => by rw [h.1]; rfl) (fun _ U U' hal hh h => ⟨h.1, h.2.1.mv hal hh, h.2.2.1, h.2.2.2.1.there hal hh, h.2.2.2.2⟩) (fun r U U' V V' h1 hal h2 h => XT.PureE.mv r U U' V V' h1 hal h2 h) ?_
  intro p e s m args below meth c s₁ X0 hexec hbytes hml hret hlk hnm hown hh0 W hP
  obtain ⟨rfl, hV, hu, s1, rf⟩ := hP
  have v31 := hV.2.2.2
  have hi : i < V.slots.size := (Array.getElem?_eq_some_iff.mp hu).1
  have c1 : Steps p.tables e below (s₁.setTop (entryFrame m #[.ref t, .int (Int32.ofNat i)] 2)) (s₁.setTop (mkF m 0 #[.val (.ref t), .val (.int (Int32.ofNat i))] [])) := entry rfl
  have c2 : Steps p.tables e below (s₁.setTop (entryFrame m #[.ref t, .int (Int32.ofNat i)] 2)) (s₁.setTop (mkF m 3 #[.val (.ref t), .val (.int (Int32.ofNat i))] [.int (Int32.ofNat V.slots.size), .int (Int32.ofNat i)])) := c1.trans (by
    refine XS.iloadN X0.here hexec rfl (hb hbytes d0) rfl ?_
    refine XS.aloadN X0.here hexec rfl (hb hbytes d1) rfl rfl ?_
    refine X0.alen hexec (hV.mv X0.warmed.alike hh0) rfl rfl (hb hbytes d2) ?_
    exact Steps.refl _)
  obtain ⟨v3, T3, X3, E3, g3⟩ := X0.callS hexec (JO.Str_checkIndex.law l (Int32.ofNat i) (Int32.ofNat V.slots.size) fm) hown (wks W (staticW "java/lang/StringLatin1" 9 JO.Str_checkIndex.yN)) (wk W JO.Str_checkIndex.tab) (W := 0) (Nat.le_of_ble_eq_true rfl) (Nat.le_of_ble_eq_true rfl) (Nat.le_refl _) (Nat.le_refl _) (g := (mkF m 3 #[.val (.ref t), .val (.int (Int32.ofNat i))] [.int (Int32.ofNat V.slots.size), .int (Int32.ofNat i)])) rfl (by rw [hml]; rfl) c2 (argsL := [.int (Int32.ofNat i), .int (Int32.ofNat V.slots.size)]) (rest := []) rfl rfl (by show 2 * 0 + 0 ≤ _; decide) (hb hbytes d3) (⟨rfl, rf, s1.there X0.warmed.alike hh0, Int32.ofNat_not_neg (by omega), lt32 v31 hi⟩)
  obtain ⟨rfl, q3⟩ := E3
  have hh3 := q3.trans hh0
  have c4 : Steps p.tables e below (s₁.setTop (entryFrame m #[.ref t, .int (Int32.ofNat i)] 2)) (T3.setTop (mkF m 14 #[.val (.ref t), .val (.int (Int32.ofNat i))] [.int (chr8 u)])) := Steps.trans g3 (by
    refine XS.aloadN X3.here hexec rfl (hb hbytes d6) rfl rfl ?_
    refine XS.iloadN X3.here hexec rfl (hb hbytes d7) rfl ?_
    refine X3.aget hexec (hV.mv X3.warmed.alike hh3) rfl hu rfl rfl (hb hbytes d8) ?_
    refine sipushV X3.here hexec rfl 255 (hb hbytes d9) (by decide) ?_
    refine XS.iand X3.here hexec rfl (hb hbytes d12) rfl ?_
    refine i2c X3.here hexec rfl (hb hbytes d13) rfl ?_
    exact Steps.refl _)
  exact ⟨T3, some (.int (chr8 u)), _, _, _, X3, rfl, rfl, rfl, (fun h => by cases h), ⟨rfl, hh3⟩, fun fs hl => c4.trans (X3.ireturnOut hexec hret (narrow_c _) (Or.inr (Or.inr (Or.inr (Or.inl rfl)))) (hb hbytes d14) hl)⟩
end LChA
end StrChars
namespace StrChars.Road
open Jvm Sem ClassFile Op Lib Jvm.Stand Jvm.Free Jvm.Free.XT
open Jvm.Lib.Cold (StaticIs)
theorem consq {a : Array Value} {s : State} {c : Jvm.Cond} {L : List Jvm.Cond} (h0 : c.before a s = true) (h : ∀ w ∈ L, w.before a s = true) : ∀ w ∈ c :: L, w.before a s = true := fun w hw => (List.mem_cons.mp hw).elim (fun e => e ▸ h0) (h w)
/-- the words of String.length(), either coding -/
abbrev wordsLen : List Jvm.Cond := [.code Len.yN Len.yB 1 (some .int), .initialized ST, .fieldLink ST 9 ST "value" "[B", .fieldLink ST 38 ST "COMPACT_STRINGS" "Z", .fieldLink ST 15 ST "coder" "B", .code Cdr.yN Cdr.yB 1 (some .byte), .methodLink ST 335 Cdr.yN, .declares Cdr.yN, .selects ST Cdr.yN Cdr.yN, .instanceMethod Cdr.yN]
theorem tabLen_of {a : Array Value} {s : State} (h : ∀ w ∈ wordsLen, w.before a s = true) : Len.tab.before a s = true := by
  have hc : Cdr.tab.before a s = true := unparts (wk h (.code Cdr.yN Cdr.yB 1 (some .byte))) (wks h (.initialized Cdr.yN.cls :: Cdr.site))
  have q := consq hc h
  exact unparts (wk q (.code Len.yN Len.yB 1 (some .int))) (wks q (.initialized Len.yN.cls :: Len.site))
theorem movedLen {Z s : State} {a0 args : Array Value} (hZ : Z.Warmed39 s.vm) (hw : ∀ d ∈ wordsLen, d.before a0 Z = true) : ∀ d ∈ wordsLen, d.before args s = true := fun d hd => by
  have q := hw d hd
  have t : ∀ d ∈ wordsLen, d = .arrayClass .byte ∨ (d.onTables && d.keepsFace) = true := by decide +kernel
  rcases t d hd with rfl | t
  · exact RoadKit.mvA hZ q
  · exact RoadKit.mv hZ q t
/-- the bytes of the chars cs, low before high -/
def wideBytes : List Int32 → List Value
  | [] => []
  | c :: cs => .int (lo8 c) :: .int (hi8 c) :: wideBytes cs
theorem wide_lo (d : Value) : ∀ (cs : List Int32) (j : Nat), j < cs.length → (wideBytes cs).getD (2 * j) d = .int (lo8 (cs.getD j 0))
  | [], j, h => absurd h (Nat.not_lt_zero j)
  | c :: cs, 0, _ => rfl
  | c :: cs, j + 1, h => by
    have q := wide_lo d cs j (by simpa using h)
    rw [show 2 * (j + 1) = 2 * j + 1 + 1 from by omega]
    simpa [wideBytes] using q
theorem wide_hi (d : Value) : ∀ (cs : List Int32) (j : Nat), j < cs.length → (wideBytes cs).getD (2 * j + 1) d = .int (hi8 (cs.getD j 0))
  | [], j, h => absurd h (Nat.not_lt_zero j)
  | c :: cs, 0, _ => rfl
  | c :: cs, j + 1, h => by
    have q := wide_hi d cs j (by simpa using h)
    rw [show 2 * (j + 1) + 1 = 2 * j + 1 + 1 + 1 from by omega]
    simpa [wideBytes] using q
theorem low_at (d : Value) (cs : List Int32) (j : Nat) (h : j < cs.length) : (cs.map fun c => Value.int (lo8 c)).getD j d = .int (lo8 (cs.getD j 0)) := by
  simp [List.getD_eq_getElem?_getD, h]
/-- an array of N2 bytes vs codes the chars cs by the coder cd -/
def CodA (cs : List Int32) (cd N2 : Int32) (vs : List Value) : Prop := (cd = 0 ∧ N2 = Int32.ofNat cs.length ∧ vs = (cs.map fun c => Value.int (lo8 c)) ∧ ∀ c ∈ cs, ¬ 255 < c) ∨ (cd = 1 ∧ N2 = Int32.ofNat (2 * cs.length) ∧ vs = wideBytes cs ∧ ∃ c ∈ cs, 255 < c)
theorem CodA.cod {cs : List Int32} {cd N2 : Int32} {vs : List Value} {V : Cell} (h : CodA cs cd N2 vs) (hn : 2 * cs.length < 2 ^ 31) (hs : V.slots.size = N2.toNatClampNeg) (hv : RoadKit.Has V vs (.int 0)) : Cod cd cs.length (fun j => cs.getD j 0) V := by
  rcases h with ⟨rfl, rfl, rfl, h⟩ | ⟨rfl, rfl, rfl, c, hc, hw⟩
  · rw [n32 (by omega)] at hs
    exact Or.inl ⟨rfl, hs, fun j hj => ⟨by rw [hv j (by omega), low_at _ _ _ hj], by
      have e : cs.getD j 0 = cs[j] := by simp [List.getD_eq_getElem?_getD, hj]
      show ¬ 255 < cs.getD j 0
      rw [e]; exact h _ (List.getElem_mem _)⟩⟩
  · rw [n32 (by omega)] at hs
    obtain ⟨j, hj, rfl⟩ := List.getElem_of_mem hc
    exact Or.inr ⟨rfl, hs, fun j hj => ⟨by rw [hv _ (by omega), wide_lo _ _ _ hj], by rw [hv _ (by omega), wide_hi _ _ _ hj]⟩, j, hj, by
      have e : cs.getD j 0 = cs[j] := by simp [List.getD_eq_getElem?_getD, hj]
      show 255 < cs.getD j 0
      rw [e]; exact hw⟩
/-- an object of exactly java/lang/String, its two fields found: as the laws ask it -/
theorem strObj {Z U : State} {a0 : Array Value} {kI : Nat} (wi : (Jvm.Cond.instantiable ST kI).before a0 Z = true) (al : Z.vm.Alike U.vm) {x : Addr} {v0 c0 : Value} (E : RoadKit.Exa Z U.heap x ST) (V : RoadKit.Fld Z U.heap x ST "value" "[B" v0) (C : RoadKit.Fld Z U.heap x ST "coder" "B" c0) :
    ∃ (D : Cell) (fV fC : Field), Blank ST x D U ∧ Found ST "value" "[B" fV U ∧ Found ST "coder" "B" fC U ∧ D.slots[fV.slot]? = some v0 ∧ D.slots[fC.slot]? = some c0 ∧ RoadKit.slotOf Z ST "value" "[B" = fV.slot ∧ RoadKit.slotOf Z ST "coder" "B" = fC.slot := by
  obtain ⟨D, cfV, kV, iV, fV, hD, gV, stV, knV, obV, asV, slV⟩ := V
  obtain ⟨D', cfC, kC, iC, fC, hD', gC, stC, -, -, asC, slC⟩ := C
  cases hD.symm.trans hD'
  obtain ⟨D2, kD, e1, e2, e3, e4, e5⟩ := E
  cases hD.symm.trans e1
  obtain ⟨c2, k2, i1, i2, i3, -⟩ := Cond.instantiable_spec wi
  cases e2.symm.trans i1
  cases e3.symm.trans i2
  obtain ⟨kU, u1, u2⟩ := al.2.2 _ _ e3
  exact ⟨D, fV, fC, ⟨hD, ⟨knV, fun q hq => by rw [hq] at obV; cases obV⟩, by rw [al.findClass]; exact e2, kU, u1, by rw [u2]; exact i3, by rw [u2]; exact e5 i3⟩, ⟨SBG.found_only al ⟨cfV, kV, iV, gV⟩, stV⟩, ⟨SBG.found_only al ⟨cfC, kC, iC, gC⟩, stC⟩, slV, slC, by simp [RoadKit.slotOf, gV], by simp [RoadKit.slotOf, gC]⟩
theorem sta_is {Z U : State} (al : Z.vm.Alike U.vm) {C n d : String} {v : Value} (S : RoadKit.Sta Z U.heap C n d v) : StaticIs U C n d v := by
  obtain ⟨cfS, iS, kS, fS, st, cS, t1, t2, t3, t4, t5, t6, t7⟩ := S
  exact StaticIs.there (s := { Z with heap := U.heap }) ⟨cfS, iS, kS, fS, st, cS, t1, t2, t3, t4, t5, (fun q => by rw [q] at t6; cases t6), t7⟩ al rfl
/-- **length() OF SUCH A STRING** -/
theorem lenW {p : Program} {l : Launch} {e : Env} {R : Room} {s : State} {args : Array Value} {below : List Frame} {len W : Nat} {Z : State} {a0 : Array Value} {h : Heap} (hZ : Z.Warmed39 s.vm) (hw : ∀ d ∈ wordsLen, d.before a0 Z = true) {kI : Nat} (wi : (Jvm.Cond.instantiable ST kI).before a0 Z = true)
    {x t : Addr} {kb : ClassId} {cs : List Int32} {cd N2 z : Int32} {vs : List Value} (E : RoadKit.Exa Z h x ST) (V : RoadKit.Fld Z h x ST "value" "[B" (.ref t)) (C : RoadKit.Fld Z h x ST "coder" "B" (.int cd)) (K : RoadKit.Arv Z h t kb .byte N2 vs (.int 0)) (hc : CodA cs cd N2 vs) (hb : ∀ c ∈ cs, ¬ c < 0 ∧ ¬ (65535 : Int32) < c)
    (S : RoadKit.Sta Z h ST "COMPACT_STRINGS" "Z" (.int z)) (hz : ¬ z = 0) (l2 : cs.length ≤ 4000) (hfr : 2 ≤ R.frames) (hlo : W + 25 ≤ R.locals) :
    Back l R p e below s args (⟨"java/lang/String", "length", "()I"⟩ : MethodName) len W (fun P a => a = #[.ref x] ∧ P.U.heap = h ∧ P.cells + 0 ≤ R.cells ∧ P.slots + 0 ≤ R.slots)
      (fun P _ v B => ∃ L, (v = some (.int (Int32.ofNat cs.length)) ∧ L = [] ∧ B.U.heap = h) ∧ B.locs = P.locs ++ L ∧ B.cells = P.cells + 0 ∧ B.slots = P.slots + 0) := by
  obtain ⟨A, K1, K2, K3, K4, K5, K6⟩ := K
  have hcod := hc.cod (by omega) K3 K5
  intro m meth c P g ig mk a X hg hsize hdg hW hn hp'
  obtain ⟨rfl, rfl, r1, r2⟩ := hp'
  have al : Z.vm.Alike P.U.vm := hZ.alike.trans X.warmed.alike
  obtain ⟨D, fV, fC, hB, F1, F2, g1, g2, -, -⟩ := strObj wi al E V C
  have hx : Txt x t A cd cs.length (fun j => cs.getD j 0) P.U := ⟨⟨_, hB.2.2.1, D, hB.1, rfl, by cases q : D.vm <;> first | rfl | exact absurd q (hB.2.1.2 _)⟩, Has.of hB F1 g1, Has.of hB F2 g2, ⟨K1.1, State.isArrayOf_alike al K1.2.1, K1.2.2, by rcases hcod with ⟨-, q, -⟩ | ⟨-, q, -⟩ <;> omega⟩, hcod, fun j hj => by
    have e : cs.getD j 0 = cs[j] := by simp [List.getD_eq_getElem?_getD, hj]
    show ¬ cs.getD j 0 < 0 ∧ ¬ 65535 < cs.getD j 0
    rw [e]; exact hb _ (List.getElem_mem _)⟩
  obtain ⟨v, B, X', ⟨⟨hv, hh⟩, hl, hk, hs⟩, st⟩ := Len.pays x t A cd cs.length (fun j => cs.getD j 0) z (tabLen_of (movedLen hZ hw)) hfr hlo m meth c P g ig mk _ X hg hsize hdg hW hn ⟨r1, r2, rfl, hx, sta_is al S, hz⟩
  exact ⟨v, B, X', ⟨[], ⟨hv, rfl, hh⟩, hl, hk, hs⟩, st⟩
end StrChars.Road
namespace StrChars.Road
open Jvm Sem ClassFile Op Lib Jvm.Stand Jvm.Free Jvm.Free.XT
open Jvm.Lib.Cold (StaticIs)
/-- the road's facts of a String, as the laws ask it -/
theorem txt_of {Z U : State} {a0 : Array Value} {kI : Nat} (wi : (Jvm.Cond.instantiable ST kI).before a0 Z = true) (al : Z.vm.Alike U.vm) {x t : Addr} {kb : ClassId} {cs : List Int32} {cd N2 : Int32} {vs : List Value} (E : RoadKit.Exa Z U.heap x ST) (V : RoadKit.Fld Z U.heap x ST "value" "[B" (.ref t)) (C : RoadKit.Fld Z U.heap x ST "coder" "B" (.int cd)) (K : RoadKit.Arv Z U.heap t kb .byte N2 vs (.int 0)) (hc : CodA cs cd N2 vs) (hb : ∀ c ∈ cs, ¬ c < 0 ∧ ¬ (65535 : Int32) < c) (l2 : cs.length ≤ 4000) :
    ∃ A, Txt x t A cd cs.length (fun j => cs.getD j 0) U := by
  obtain ⟨A, K1, K2, K3, K4, K5, K6⟩ := K
  have hcod := hc.cod (by omega) K3 K5
  obtain ⟨D, fV, fC, hB, F1, F2, g1, g2, -, -⟩ := strObj wi al E V C
  exact ⟨A, ⟨_, hB.2.2.1, D, hB.1, rfl, by cases q : D.vm <;> first | rfl | exact absurd q (hB.2.1.2 _)⟩, Has.of hB F1 g1, Has.of hB F2 g2, ⟨K1.1, State.isArrayOf_alike al K1.2.1, K1.2.2, by rcases hcod with ⟨-, q, -⟩ | ⟨-, q, -⟩ <;> omega⟩, hcod, fun j hj => by
    have e : cs.getD j 0 = cs[j] := by simp [List.getD_eq_getElem?_getD, hj]
    show ¬ cs.getD j 0 < 0 ∧ ¬ 65535 < cs.getD j 0
    rw [e]; exact hb _ (List.getElem_mem _)⟩
end StrChars.Road
namespace StrChars
open Jvm Sem ClassFile Op Lib Jvm.Stand Jvm.Free.XT Jvm.Free.ALB Jvm.Free.JM Jvm.Free
open Jvm.Lib.Cold (StaticIs)
namespace ChN
def yN : MethodName := ⟨"java/lang/String", "charAt", "(I)C"⟩
abbrev yB : ByteArray := jdk_42_method_56_code
theorem d0 : decode yB 0 = .ok (.aload_n 0, 1) := by decide +kernel
theorem d1 : decode yB 1 = .ok (.invokevirtual 492, 3) := by decide +kernel
theorem d4 : decode yB 4 = .ok (.ifCond (.eq) 12, 3) := by decide +kernel
theorem d7 : decode yB 7 = .ok (.aload_n 0, 1) := by decide +kernel
theorem d8 : decode yB 8 = .ok (.getfield 9, 3) := by decide +kernel
theorem d11 : decode yB 11 = .ok (.iload_n 1, 1) := by decide +kernel
theorem d12 : decode yB 12 = .ok (.invokestatic 495, 3) := by decide +kernel
theorem d15 : decode yB 15 = .ok (.ireturn, 1) := by decide +kernel
def site : List Cond := [.fieldLink "java/lang/String" 9 "java/lang/String" "value" "[B", IsL.tab, LChA.tab] ++ virtW "java/lang/String" 492 "java/lang/String" IsL.yN IsL.yN ++ staticW "java/lang/String" 495 LChA.yN
def tab : Cond := tabOf yN yB 2 (some .char) site
def P (x t : Addr) (V : Cell) (n : Nat) (f : Nat → Int32) (z : Int32) (fm : Value) (i : Nat) (args : Array Value) (s : State) : Prop := args = #[.ref x, .int (Int32.ofNat i)] ∧ Txt x t V 0 n f s ∧ i < n ∧ StaticIs s "java/lang/String" "COMPACT_STRINGS" "Z" (.int z) ∧ ¬ z = 0 ∧ StaticIs s "jdk/internal/util/Preconditions" "SIOOBE_FORMATTER" "Ljava/util/function/BiFunction;" fm ∧ fm.isRef = true
def E (f : Nat → Int32) (i : Nat) (r : Option Value) (s u : State) : Prop := XT.PureE (some (.int (f i))) r s u
/-- charAt(i) of a Latin-1 String of n chars, i < n: f i -/
theorem law (l : Launch) (x t : Addr) (V : Cell) (n : Nat) (f : Nat → Int32) (z : Int32) (fm : Value) (i : Nat) : Law l yN 2 1 3 40 yB 2 (some .char) site (P x t V n f z fm i) (E f i) [] 0 0 := by
  refine Law.of_walk (plainFor_of_name (by decide +kernel)) (by decide +kernel) (by decide +kernel) (by decide) (fun _ _ h => by rw [h.1]; rfl) (fun _ U U' hal hh h => ⟨h.1, h.2.1.mv hal hh, h.2.2.1, h.2.2.2.1.there hal hh, h.2.2.2.2.1, h.2.2.2.2.2.1.there hal hh, h.2.2.2.2.2.2⟩) (fun r U U' V V' h1 hal h2 h => XT.PureE.mv r U U' V V' h1 hal h2 h) ?_
  intro p e s m args below meth c s₁ X0 hexec hbytes hml hret hlk hnm hown hh0 W hP
  obtain ⟨rfl, hx, hi, s1, hz, s3, rf⟩ := hP
  have v31 := hx.2.2.2.1.2.2.2
  have hr := hx.2.2.2.2.2 i hi
  have hx0 := hx.mv X0.warmed.alike hh0
  have c1 : Steps p.tables e below (s₁.setTop (entryFrame m #[.ref x, .int (Int32.ofNat i)] 2)) (s₁.setTop (mkF m 1 #[.val (.ref x), .val (.int (Int32.ofNat i))] [.ref x])) := Steps.trans (entry rfl) (by
    show Steps p.tables e below (s₁.setTop (mkF m 0 #[.val (.ref x), .val (.int (Int32.ofNat i))] [])) _
    refine XS.aloadN X0.here hexec rfl (hb hbytes d0) rfl rfl ?_
    exact Steps.refl _)
  obtain ⟨v2, T2, X2, E2, g2⟩ := X0.callV hexec (IsL.law l x 0 z) hown (wks W (virtW "java/lang/String" 492 "java/lang/String" IsL.yN IsL.yN)) rfl (by decide) (wk W IsL.tab) (W := 0) (Nat.le_of_ble_eq_true rfl) (Nat.le_of_ble_eq_true rfl) (Nat.le_refl _) (Nat.le_refl _) (hx0.1.fc X0.warmed.alike) hx0.1.is (g := (mkF m 1 #[.val (.ref x), .val (.int (Int32.ofNat i))] [.ref x])) rfl (by rw [hml]; rfl) c1 (argsL := []) (rest := []) rfl rfl (by show 2 * 0 + 0 ≤ _; decide) (hb hbytes d1) (⟨rfl, hx0.2.2.1, hx.2.2.2.2.1.cd, s1.there X0.warmed.alike hh0, hz⟩)
  obtain ⟨rfl, q2⟩ := E2
  have hh2 := q2.trans hh0
  have hx2 := hx.mv X2.warmed.alike hh2
  obtain ⟨-, k1, k2⟩ | ⟨k0, -⟩ := hx.2.2.2.2.1
  · have c3 : Steps p.tables e below (s₁.setTop (entryFrame m #[.ref x, .int (Int32.ofNat i)] 2)) (T2.setTop (mkF m 8 #[.val (.ref x), .val (.int (Int32.ofNat i))] [.ref x])) := Steps.trans g2 (by
      refine XS.ifNo X2.here hexec rfl (hb hbytes d4) rfl (i0_eq_f (by decide)) ?_
      refine XS.aloadN X2.here hexec rfl (hb hbytes d7) rfl rfl ?_
      exact Steps.refl _)
    obtain ⟨T4, X4, q4, st4⟩ := X2.hget hexec hown (wk W (.fieldLink "java/lang/String" 9 "java/lang/String" "value" "[B")) hx2.2.1 (g := (mkF m 8 #[.val (.ref x), .val (.int (Int32.ofNat i))] [.ref x])) rfl (rest := []) rfl (hb hbytes d8)
    have hh4 := q4.trans hh2
    have c5 : Steps p.tables e below (s₁.setTop (entryFrame m #[.ref x, .int (Int32.ofNat i)] 2)) (T4.setTop (mkF m 12 #[.val (.ref x), .val (.int (Int32.ofNat i))] [.int (Int32.ofNat i), .ref t])) := (c3.trans (st4 _ (Steps.refl _))).trans (by
      refine XS.iloadN X4.here hexec rfl (hb hbytes d11) rfl ?_
      exact Steps.refl _)
    obtain ⟨v6, T6, X6, E6, g6⟩ := X4.callS hexec (LChA.law l t V i (lo8 (f i)) fm) hown (wks W (staticW "java/lang/String" 495 LChA.yN)) (wk W LChA.tab) (W := 0) (Nat.le_of_ble_eq_true rfl) (Nat.le_of_ble_eq_true rfl) (Nat.le_refl _) (Nat.le_refl _) (g := (mkF m 12 #[.val (.ref x), .val (.int (Int32.ofNat i))] [.int (Int32.ofNat i), .ref t])) rfl (by rw [hml]; rfl) c5 (argsL := [.ref t, .int (Int32.ofNat i)]) (rest := []) rfl rfl (by show 2 * 0 + 0 ≤ _; decide) (hb hbytes d12) (⟨rfl, hx.2.2.2.1.mv X4.warmed.alike hh4, (k2 i hi).1, s3.there X4.warmed.alike hh4, rf⟩)
    obtain ⟨rfl, q6⟩ := E6
    rw [chr8_lo8 hr.1 (k2 i hi).2] at g6
    exact ⟨T6, some (.int (f i)), _, _, _, X6, rfl, rfl, rfl, (fun h => by cases h), ⟨rfl, q6.trans hh4⟩, fun fs hl => Steps.trans g6 (X6.ireturnOut hexec hret (narrow_ch hr.1 hr.2) (Or.inr (Or.inr (Or.inr (Or.inl rfl)))) (hb hbytes d15) hl)⟩
  · exact absurd k0 (by decide)
theorem pays {l : Launch} {R : Room} {p : Program} {e : Env} {below : List Frame} {s : State} {sargs : Array Value} {len W : Nat} (x t : Addr) (V : Cell) (n : Nat) (f : Nat → Int32) (z : Int32) (fm : Value) (i : Nat) (htab : tab.before sargs s = true) (hfr : 4 ≤ R.frames) (hlo : W + 53 ≤ R.locals) :
    Back l R p e below s sargs yN len W (fun A₁ a₁ => A₁.cells + 0 ≤ R.cells ∧ A₁.slots + 0 ≤ R.slots ∧ P x t V n f z fm i a₁ A₁.U) (fun A₁ _ v₁ B₁ => E f i v₁ A₁.U B₁.U ∧ B₁.locs = A₁.locs ++ [] ∧ B₁.cells = A₁.cells + 0 ∧ B₁.slots = A₁.slots + 0) :=
  (law l x t V n f z fm i).pays htab hfr (by omega)
end ChN
end StrChars
namespace StrChars.Road
open Jvm Sem ClassFile Op Lib Jvm.Stand Jvm.Free Jvm.Free.XT
open Jvm.Lib.Cold (StaticIs)
/-- the words of String.charAt(int), the Latin-1 road alone -/
abbrev wordsChN : List Jvm.Cond := [.code ChN.yN ChN.yB 2 (some .char), .initialized ST, .fieldLink ST 9 ST "value" "[B", .fieldLink ST 38 ST "COMPACT_STRINGS" "Z", .fieldLink ST 15 ST "coder" "B", .code IsL.yN IsL.yB 1 (some .boolean), .methodLink ST 492 IsL.yN, .declares IsL.yN, .selects ST IsL.yN IsL.yN, .instanceMethod IsL.yN,
  .methodLink ST 495 LChA.yN, .static LChA.yN, .code LChA.yN LChA.yB 2 (some .char), .initialized "java/lang/StringLatin1", .methodLink "java/lang/StringLatin1" 9 JO.Str_checkIndex.yN, .static JO.Str_checkIndex.yN, .code JO.Str_checkIndex.yN JO.Str_checkIndex.yB 2 none,
  .fieldLink ST 1053 "jdk/internal/util/Preconditions" "SIOOBE_FORMATTER" "Ljava/util/function/BiFunction;", .methodLink ST 1059 JC.PreCheck.yN, .static JC.PreCheck.yN, .code JC.PreCheck.yN JC.PreCheck.yB 3 (some .int), .initialized "jdk/internal/util/Preconditions"]
theorem tabChN_of {a : Array Value} {s : State} (h : ∀ w ∈ wordsChN, w.before a s = true) : ChN.tab.before a s = true := by
  have hp : JC.PreCheck.tab.before a s = true := unparts (wk h (.code JC.PreCheck.yN JC.PreCheck.yB 3 (some .int))) (wks h (.initialized JC.PreCheck.yN.cls :: JC.PreCheck.site))
  have qk := consq hp h
  have hk : JO.Str_checkIndex.tab.before a s = true := unparts (wk qk (.code JO.Str_checkIndex.yN JO.Str_checkIndex.yB 2 none)) (wks qk (.initialized JO.Str_checkIndex.yN.cls :: JO.Str_checkIndex.site))
  have ql := consq hk h
  have hl : LChA.tab.before a s = true := unparts (wk ql (.code LChA.yN LChA.yB 2 (some .char))) (wks ql (.initialized LChA.yN.cls :: LChA.site))
  have hi : IsL.tab.before a s = true := unparts (wk h (.code IsL.yN IsL.yB 1 (some .boolean))) (wks h (.initialized IsL.yN.cls :: IsL.site))
  have q := consq hi (consq hl h)
  exact unparts (wk q (.code ChN.yN ChN.yB 2 (some .char))) (wks q (.initialized ChN.yN.cls :: ChN.site))
theorem movedChN {Z s : State} {a0 args : Array Value} (hZ : Z.Warmed39 s.vm) (hw : ∀ d ∈ wordsChN, d.before a0 Z = true) : ∀ d ∈ wordsChN, d.before args s = true := fun d hd => by
  have t : ∀ d ∈ wordsChN, (d.onTables && d.keepsFace) = true := by decide +kernel
  exact RoadKit.mv hZ (hw d hd) (t d hd)
/-- **charAt(i) OF A LATIN-1 STRING**, i < n: the char -/
theorem chN {p : Program} {l : Launch} {e : Env} {R : Room} {s : State} {args : Array Value} {below : List Frame} {len W : Nat} {Z : State} {a0 : Array Value} {h : Heap} (hZ : Z.Warmed39 s.vm) (hw : ∀ d ∈ wordsChN, d.before a0 Z = true) {kI : Nat} (wi : (Jvm.Cond.instantiable ST kI).before a0 Z = true)
    {x t : Addr} {kb : ClassId} {cs : List Int32} {N2 z : Int32} {vs : List Value} {fm : Value} {i : Nat} {j : Int32} (E : RoadKit.Exa Z h x ST) (V : RoadKit.Fld Z h x ST "value" "[B" (.ref t)) (C : RoadKit.Fld Z h x ST "coder" "B" (.int 0)) (K : RoadKit.Arv Z h t kb .byte N2 vs (.int 0)) (hc : CodA cs 0 N2 vs) (hb : ∀ c ∈ cs, ¬ c < 0 ∧ ¬ (65535 : Int32) < c)
    (S : RoadKit.Sta Z h ST "COMPACT_STRINGS" "Z" (.int z)) (hz : ¬ z = 0) (F : RoadKit.Sta Z h "jdk/internal/util/Preconditions" "SIOOBE_FORMATTER" "Ljava/util/function/BiFunction;" fm) (rf : fm.isRef = true) (l2 : cs.length ≤ 4000) (hi : i < cs.length) (hj : j = Int32.ofNat i) (hfr : 4 ≤ R.frames) (hlo : W + 53 ≤ R.locals) :
    Back l R p e below s args (⟨"java/lang/String", "charAt", "(I)C"⟩ : MethodName) len W (fun P a => a = #[.ref x, .int j] ∧ P.U.heap = h ∧ P.cells + 0 ≤ R.cells ∧ P.slots + 0 ≤ R.slots)
      (fun P _ v B => ∃ L, (v = some (.int (cs.getD i 0)) ∧ L = [] ∧ B.U.heap = h) ∧ B.locs = P.locs ++ L ∧ B.cells = P.cells + 0 ∧ B.slots = P.slots + 0) := by
  subst hj
  intro m meth c P g ig mk a X hg hsize hdg hW hn hp'
  obtain ⟨rfl, rfl, r1, r2⟩ := hp'
  have al : Z.vm.Alike P.U.vm := hZ.alike.trans X.warmed.alike
  obtain ⟨A, hx⟩ := txt_of wi al E V C K hc hb l2
  obtain ⟨v, B, X', ⟨⟨hv, hh⟩, hl, hk, hs⟩, st⟩ := ChN.pays x t A cs.length (fun j => cs.getD j 0) z fm i (tabChN_of (movedChN hZ hw)) hfr hlo m meth c P g ig mk _ X hg hsize hdg hW hn ⟨r1, r2, rfl, hx, hi, sta_is al S, hz, sta_is al F, rf⟩
  exact ⟨v, B, X', ⟨[], ⟨hv, rfl, hh⟩, hl, hk, hs⟩, st⟩
/-- what backV says of its String, as the contracts of this text ask it: cs's low bytes, coder 0 -/
theorem codOf {cs : List Int32} {n : Nat} (hn : cs.length = n) (hb : ∀ c ∈ cs, ¬ 255 < c) : CodA cs 0 (Int32.ofNat n) ((cs.map lo8).map Value.int) := Or.inl ⟨rfl, by rw [hn], by simp [List.map_map, Function.comp_def], hb⟩
end StrChars.Road
end Jvm.Pilot.@@N@@
namespace Jvm.Pilot.@@N@@
open Jvm Jvm.ClassFile Sem Op Lib Jvm.Free Jvm.Stand Jvm.LawKit Jvm.RoadKit Bundle Jvm.Pilot.@@N@@.Jvm.D
/-- a body that leaves the heap as it is and returns w -/
def QV (w : Value) (h0 : Heap) (n0 : Nat) (v : Option Value) (h : Heap) (L : List Loc) : Prop := v = some w ∧ Fr n0 L ∧ h = h0
def QL (n0 : Nat) (v : Option Value) (h : Heap) (L : List Loc) : Prop := v = some (.int 1) ∧ Fr n0 L
theorem own_wS {a0 : Array Value} {Z : State} (hw : ∀ d ∈ tables_1, d.before a0 Z = true) : ∀ d ∈ Bundle.stringAtoms, d.before a0 Z = true := fun d hd => hw d ((by decide +kernel : ∀ d ∈ Bundle.stringAtoms, d ∈ tables_1) d hd)
theorem own_hk {T : State} {h : Heap} {k : Nat} (e : T.heap = h) (q : k ≤ h.size) : k ≤ T.heap.size := by rw [e]; exact q
theorem own_extK {h h' : Heap} (K : Keep h h' []) : Ext h h' := ⟨K.1, fun a c q => K.2.1 a c q (by simp)⟩
theorem own_nar (x : Int32) : nar .char (x.toUInt32.toUInt16.toUInt32.toInt32) = x.toUInt32.toUInt16.toUInt32.toInt32 := by simp only [nar, UInt32.toUInt32_toInt32, UInt16.toUInt16_toUInt32]
/-- a String whose bytes aren't laid yet is nobody's literal -/
theorem own_safe {Z : State} {EL : List (String × Nat)} {vm : Vm} {h : Heap} {y : Addr} (hal : Z.vm.Alike vm) (E : Exa Z h y "java/lang/String") (F : Fld Z h y "java/lang/String" "value" "[B" .null) : Safe Z EL vm h y := fun B => by
  obtain ⟨cell, cf, k, i, f, f1, f2, -, -, -, -, f7⟩ := F
  obtain ⟨c1, k1, e1, e2, e3, -, -⟩ := E
  cases e1.symm.trans f1
  obtain ⟨p, -, u, a, -, q, -, G, rfl | rfl⟩ := B
  · cases (show h[q.sa]? = some q.sC from G.ha).symm.trans f1
    obtain ⟨cS, ⟨⟨s1, s2, s3, ⟨cv, kv, iv, s4, -⟩, s5, s6, s7, s8, -⟩, -⟩, -⟩ := G
    obtain ⟨kv', z4⟩ := ff_back hal s4
    cases z4.symm.trans f2
    cases s8.symm.trans f7
  · cases (show h[q.sd]? = some q.SA from G.hd).symm.trans f1
    obtain ⟨cS, -, -, g, -⟩ := G
    have g' : vm.findClass "[B" = some q.SA.cls := g
    rw [hal.findClass] at g'
    obtain ⟨k2, q1, q2⟩ := Vm.findClass_spec g'
    obtain ⟨k3, q3, q4⟩ := Vm.findClass_spec e2
    cases q1.symm.trans q3
    exact absurd (q2.symm.trans q4) (by decide)
theorem own_safeA {Z : State} {EL : List (String × Nat)} {vm : Vm} {h : Heap} {y : Addr} {k : ClassId} {ty : FieldType} {n : Int32} {vs : List Value} {d : Value} (hal : Z.vm.Alike vm) (A : Arv Z h y k ty n vs d) (ht : ty ≠ .byte) : Safe Z EL vm h y := by
  obtain ⟨c, Ar, -⟩ := A
  exact Safe.arr hal Ar ht
theorem own_255 (x : Int32) : ¬ ((x &&& (255 : Int32)).toUInt32.toUInt16.toUInt32.toInt32) < 0 ∧ ¬ (255 : Int32) < ((x &&& (255 : Int32)).toUInt32.toUInt16.toUInt32.toInt32) := by
  have e : ((x &&& (255 : Int32)).toUInt32.toUInt16.toUInt32.toInt32).toBitVec = ((x.toBitVec &&& 255#32).setWidth 16).setWidth 32 := rfl
  have l : (((x.toBitVec &&& 255#32).setWidth 16).setWidth 32).toNat ≤ 255 := by
    rw [BitVec.toNat_setWidth, BitVec.toNat_setWidth, BitVec.toNat_and]
    exact Nat.le_trans (Nat.mod_le _ _) (Nat.le_trans (Nat.mod_le _ _) Nat.and_le_right)
  have q : ((x &&& (255 : Int32)).toUInt32.toUInt16.toUInt32.toInt32).toInt = ((((x.toBitVec &&& 255#32).setWidth 16).setWidth 32).toNat : Int) := by
    show ((x &&& (255 : Int32)).toUInt32.toUInt16.toUInt32.toInt32).toBitVec.toInt = _
    rw [e, BitVec.toInt_eq_toNat_of_lt (by omega)]
  have e0 : (0 : Int32).toInt = 0 := by decide
  have e1 : (255 : Int32).toInt = 255 := by decide
  constructor
  · rw [Int32.lt_iff_toInt_lt, q, e0]; omega
  · rw [Int32.lt_iff_toInt_lt, q, e1]; omega
theorem own_up (cs : List Int32) (h : ∀ c ∈ cs, ¬ c < 0 ∧ ¬ (255 : Int32) < c) : ∀ c ∈ cs, ¬ c < 0 ∧ ¬ (65535 : Int32) < c := fun c hc => ⟨(h c hc).1, fun q => (h c hc).2 (by
  rw [Int32.lt_iff_toInt_lt] at q ⊢
  have e1 : (65535 : Int32).toInt = 65535 := by decide
  have e2 : (255 : Int32).toInt = 255 := by decide
  omega)⟩
theorem own_and3 (x : Int32) : x &&& 3 = 0 ∨ x &&& 3 = 1 ∨ x &&& 3 = 2 ∨ x &&& 3 = 3 := by
  have h : (x &&& 3).toBitVec = 0#32 ∨ (x &&& 3).toBitVec = 1#32 ∨ (x &&& 3).toBitVec = 2#32 ∨ (x &&& 3).toBitVec = 3#32 := by
    have e : (x &&& 3).toBitVec = x.toBitVec &&& 3#32 := rfl
    rw [e]
    have l : (x.toBitVec &&& 3#32).toNat < 4 := by
      rw [BitVec.toNat_and]; exact Nat.lt_of_le_of_lt Nat.and_le_right (by decide)
    rcases (by omega : (x.toBitVec &&& 3#32).toNat = 0 ∨ (x.toBitVec &&& 3#32).toNat = 1 ∨ (x.toBitVec &&& 3#32).toNat = 2 ∨ (x.toBitVec &&& 3#32).toNat = 3) with q | q | q | q
    · exact Or.inl (BitVec.eq_of_toNat_eq q)
    · exact Or.inr (Or.inl (BitVec.eq_of_toNat_eq q))
    · exact Or.inr (Or.inr (Or.inl (BitVec.eq_of_toNat_eq q)))
    · exact Or.inr (Or.inr (Or.inr (BitVec.eq_of_toNat_eq q)))
  rcases h with h | h | h | h
  · exact Or.inl (Int32.toBitVec_inj.mp h)
  · exact Or.inr (Or.inl (Int32.toBitVec_inj.mp h))
  · exact Or.inr (Or.inr (Or.inl (Int32.toBitVec_inj.mp h)))
  · exact Or.inr (Or.inr (Or.inr (Int32.toBitVec_inj.mp h)))
abbrev ELs : List (String × Nat) := [("java/lang/String", 7)]
theorem own_EW {a0 : Array Value} {Z : State} (hw : ∀ d ∈ tables_1, d.before a0 Z = true) : EW Z a0 ELs := EW.cons (hw _ (List.mem_of_getElem? (i := 113) rfl)) (by decide) EW.nil
def QDraw (Z : State) (cs : List Int32) (h0 : Heap) (n0 : Nat) (v : Option Value) (h : Heap) (L : List Loc) : Prop := Fr n0 L ∧ Keep h0 h [] ∧ ∃ (x t : Addr) (kb : ClassId), v = some (.ref x) ∧ h0.size ≤ x ∧ Exa Z h x "java/lang/String" ∧ Fld Z h x "java/lang/String" "coder" "B" (.int (0 : Int32)) ∧ Fld Z h x "java/lang/String" "value" "[B" (.ref t) ∧ Arv Z h t kb .byte (Int32.ofNat cs.length) ((cs.map fun c => c.toInt8.toInt32).map Value.int) (.int (0 : Int32))
theorem d1_0 : decode method_2_code 0 = .ok (.iload_n 1, 1) := by decide +kernel
theorem d1_1 : decode method_2_code 1 = .ok (.sipush 255, 3) := by decide +kernel
theorem d1_4 : decode method_2_code 4 = .ok (.iand, 1) := by decide +kernel
theorem d1_5 : decode method_2_code 5 = .ok (.i2c, 1) := by decide +kernel
theorem d1_6 : decode method_2_code 6 = .ok (.istore 4, 2) := by decide +kernel
theorem d1_8 : decode method_2_code 8 = .ok (.iload_n 2, 1) := by decide +kernel
theorem d1_9 : decode method_2_code 9 = .ok (.sipush 255, 3) := by decide +kernel
theorem d1_12 : decode method_2_code 12 = .ok (.iand, 1) := by decide +kernel
theorem d1_13 : decode method_2_code 13 = .ok (.i2c, 1) := by decide +kernel
theorem d1_14 : decode method_2_code 14 = .ok (.istore 5, 2) := by decide +kernel
theorem d1_16 : decode method_2_code 16 = .ok (.iload_n 3, 1) := by decide +kernel
theorem d1_17 : decode method_2_code 17 = .ok (.sipush 255, 3) := by decide +kernel
theorem d1_20 : decode method_2_code 20 = .ok (.iand, 1) := by decide +kernel
theorem d1_21 : decode method_2_code 21 = .ok (.i2c, 1) := by decide +kernel
theorem d1_22 : decode method_2_code 22 = .ok (.istore 6, 2) := by decide +kernel
theorem d1_24 : decode method_2_code 24 = .ok (.iload_n 0, 1) := by decide +kernel
theorem d1_25 : decode method_2_code 25 = .ok (.ifCond .ne 14, 3) := by decide +kernel
theorem d1_39 : decode method_2_code 39 = .ok (.iload_n 0, 1) := by decide +kernel
theorem d1_40 : decode method_2_code 40 = .ok (.iconst 1, 1) := by decide +kernel
theorem d1_41 : decode method_2_code 41 = .ok (.if_icmp .ne 19, 3) := by decide +kernel
theorem d1_44 : decode method_2_code 44 = .ok (.new 7, 3) := by decide +kernel
theorem d1_47 : decode method_2_code 47 = .ok (.dup, 1) := by decide +kernel
theorem d1_48 : decode method_2_code 48 = .ok (.iconst 1, 1) := by decide +kernel
theorem d1_49 : decode method_2_code 49 = .ok (.newarray .char, 2) := by decide +kernel
theorem d1_51 : decode method_2_code 51 = .ok (.dup, 1) := by decide +kernel
theorem d1_52 : decode method_2_code 52 = .ok (.iconst 0, 1) := by decide +kernel
theorem d1_53 : decode method_2_code 53 = .ok (.iload 4, 2) := by decide +kernel
theorem d1_55 : decode method_2_code 55 = .ok (.castore, 1) := by decide +kernel
theorem d1_56 : decode method_2_code 56 = .ok (.invokespecial 9, 3) := by decide +kernel
theorem d1_59 : decode method_2_code 59 = .ok (.areturn, 1) := by decide +kernel
theorem pn_1 : plainName "com/example/lifetable/lifetable/output/ColumnOfPinLaw" = true := by first | (simp [plainName, overriddenIn]; done) | decide +kernel
theorem pd_0 : parseMethodDescriptor "([C)V" = some ⟨[(.array .char)], none⟩ := by decide +kernel
theorem ef_rmDraw1 (m : MethodId) (ya : Int32) (yb : Int32) (yc : Int32) : entryFrame m #[(.int (1 : Int32)), (.int ya), (.int yb), (.int yc)] 7 = mkF m 0 #[.val (.int (1 : Int32)), .val (.int ya), .val (.int yb), .val (.int yc), .unset, .unset, .unset] [] := by first | (simp [entryFrame, mkF, argsToLocals, Value.category]; done) | rfl
set_option maxRecDepth 65536 in
set_option maxHeartbeats 40000000 in
theorem rmDraw1 (l : Launch) (Z : State) (a0 : Array Value) (hw : ∀ d ∈ tables_1, d.before a0 Z = true) (ws : List Jvm.Cond) (ya : Int32) (yb : Int32) (yc : Int32) (cz : Int32) (h0 : Heap) (n0 : Nat) (Z0 : n0 ≤ h0.size) (S_cs : Sta Z h0 "java/lang/String" "COMPACT_STRINGS" "Z" (.int cz)) (hcz : ¬ cz = 0) :
    MetFree l (⟨"com/example/lifetable/lifetable/output/ColumnOfPinLaw", "draw", "(IIII)Ljava/lang/String;"⟩ : MethodName) (head1 (Jvm.Cond.code (⟨"com/example/lifetable/lifetable/output/ColumnOfPinLaw", "draw", "(IIII)Ljava/lang/String;"⟩ : MethodName) method_2_code 7 (some (.object "java/lang/String")) :: ws) ({ frames := 4, cells := 3, slots := 6, locals := 66 } : Room)) (fun a_ U_ => a_ = #[(.int (1 : Int32)), (.int ya), (.int yb), (.int yc)] ∧ Z.Warmed39 U_.vm ∧ U_.heap = h0) (fun _ _ _ _ _ => True) (fun _ U_ o_ U'_ => ∃ v_ L_, o_ = .returned v_ ∧ QDraw Z [((ya &&& (255 : Int32)).toUInt32.toUInt16.toUInt32.toInt32)] h0 n0 v_ U'_.heap L_ ∧ FrameEnd U_ o_ U'_ L_ ({ frames := 4, cells := 3, slots := 6, locals := 66 } : Room).cells ({ frames := 4, cells := 3, slots := 6, locals := 66 } : Room).slots) := by
  refine MetFree.of_bodySF (plainFor_of_name pn_1) hisR ?_
  intro p e s m args below meth c s₁ Bd hml0 hP hK
  obtain ⟨rfl, hZ, hh⟩ := hP
  have hx := Bd.exec
  have hby := Bd.bytes
  have hml : c.maxLocals = 7 := hml0
  have hown : s.vm.findClass "com/example/lifetable/lifetable/output/ColumnOfPinLaw" = some m.cls := findClass_of_methodNamed Bd.named
  have hnm := (name_of_methodNamed Bd.named Bd.method).1
  have X0 : Stand p l e ({ frames := 4, cells := 3, slots := 6, locals := 66 } : Room) s m #[(.int (1 : Int32)), (.int ya), (.int yb), (.int yc)] below meth c s₁ [] 0 0 := Stand.of_body Bd
  have e0 : s₁.heap = h0 := by rw [← hh, Bd.state]; rfl
  have N0 := Fr.nil n0
  have k0 : ∀ tg, Steps p.tables e below (s₁.setTop (mkF m 0 #[.val (.int (1 : Int32)), .val (.int ya), .val (.int yb), .val (.int yc), .unset, .unset, .unset] [])) tg → Steps p.tables e below (s₁.setTop (entryFrame m #[(.int (1 : Int32)), (.int ya), (.int yb), (.int yc)] 7)) tg := fun tg kq_ => castTop (ef_rmDraw1 m ya yb yc) kq_
  have hd1 : ¬ ((1 : Int32) = (0 : Int32)) := by decide
  have hd2 : (1 : Int32) = (1 : Int32) := rfl
  obtain ⟨T3, h3, X3, e3, E3, A3, D3, -, st3⟩ := newO X0 hx hZ hown (hw _ (List.mem_of_getElem? (i := 4) rfl)) (hw _ (List.mem_of_getElem? (i := 5) rfl)) (hw _ (List.mem_of_getElem? (i := 6) rfl)) e0 (g := (mkF m 44 #[.val (.int (1 : Int32)), .val (.int ya), .val (.int yb), .val (.int yc), .val (.int ((ya &&& (255 : Int32)).toUInt32.toUInt16.toUInt32.toInt32)), .val (.int ((yb &&& (255 : Int32)).toUInt32.toUInt16.toUInt32.toInt32)), .val (.int ((yc &&& (255 : Int32)).toUInt32.toUInt16.toUInt32.toInt32))] [])) rfl (hb hby d1_44) (by decide) (by decide)
  obtain ⟨b3, g3⟩ : ∃ z, z = h0.size := ⟨_, rfl⟩
  have g_b3 : n0 ≤ b3 := Nat.le_trans Z0 (Nat.le_of_eq g3.symm)
  have sz_b3 : h0.size ≤ b3 := Nat.le_trans (Keep.refl h0 []).1 (Nat.le_of_eq g3.symm)
  rw [← g3] at A3 D3 st3
  have Z3 := Nat.le_trans Z0 E3.1
  have KP3 := (Keep.refl h0 []).ext E3
  have F_coder_b3 : Fld Z h3 b3 "java/lang/String" "coder" "B" (.int (0 : Int32)) := D3 (Or.inr (hw _ (List.mem_of_getElem? (i := 31) rfl))) (ty := .byte) (by decide)
  have F_value_b3 : Fld Z h3 b3 "java/lang/String" "value" "[B" .null := D3 (Or.inr (hw _ (List.mem_of_getElem? (i := 33) rfl))) (ty := (.array .byte)) (by decide)
  obtain ⟨T4, h4, c4, X4, e4, E4, A4, st4⟩ := newP X3 hx hZ (hw _ (List.mem_of_getElem? (i := 7) rfl)) e3 (g := (mkF m 49 #[.val (.int (1 : Int32)), .val (.int ya), .val (.int yb), .val (.int yc), .val (.int ((ya &&& (255 : Int32)).toUInt32.toUInt16.toUInt32.toInt32)), .val (.int ((yb &&& (255 : Int32)).toUInt32.toUInt16.toUInt32.toInt32)), .val (.int ((yc &&& (255 : Int32)).toUInt32.toUInt16.toUInt32.toInt32))] [(.int (1 : Int32)), (.ref b3), (.ref b3)])) rfl (hb hby d1_49) rfl (by decide) (cap := 1) (by decide) (by decide) (by decide) (by decide)
  obtain ⟨b4, g4⟩ : ∃ z, z = h3.size := ⟨_, rfl⟩
  have ne_b3_b4 : b3 ≠ b4 := Nat.ne_of_lt (Nat.lt_of_lt_of_le A3.lt (Nat.le_of_eq g4.symm))
  have g_b4 : n0 ≤ b4 := Nat.le_trans Z3 (Nat.le_of_eq g4.symm)
  have sz_b4 : h0.size ≤ b4 := Nat.le_trans KP3.1 (Nat.le_of_eq g4.symm)
  rw [← g4] at A4 st4
  have E4_b3 := A3.ext E4
  have F4_b3_coder := F_coder_b3.ext E4
  have F4_b3_value := F_value_b3.ext E4
  have Z4 := Nat.le_trans Z3 E4.1
  have KP4 := KP3.ext E4
  have V_b4 : Arv Z h4 b4 c4 .char (1 : Int32) [(.int (0 : Int32))] (.int (0 : Int32)) := (Arv.new A4 (by decide)).pad (pad_rep [] (.int (0 : Int32)) 1)
  obtain ⟨cl55_5, Ar55_5, q55_5, S55_5, N55_5_, H55_5, G55_5⟩ := id V_b4
  have hin55_5 : ¬ ((0 : Int32) < 0 ∨ cl55_5.slots.size ≤ ((0 : Int32)).toNatClampNeg) := inb_of S55_5 ⟨by decide, by decide⟩
  obtain ⟨T6, h6, X6, e6, W6, st6⟩ := stC X4 hx hZ e4 Ar55_5 (j := (0 : Int32)) hin55_5 (g := (mkF m 55 #[.val (.int (1 : Int32)), .val (.int ya), .val (.int yb), .val (.int yc), .val (.int ((ya &&& (255 : Int32)).toUInt32.toUInt16.toUInt32.toInt32)), .val (.int ((yb &&& (255 : Int32)).toUInt32.toUInt16.toUInt32.toInt32)), .val (.int ((yc &&& (255 : Int32)).toUInt32.toUInt16.toUInt32.toInt32))] [(.int ((ya &&& (255 : Int32)).toUInt32.toUInt16.toUInt32.toInt32)), (.int (0 : Int32)), (.ref b4), (.ref b4), (.ref b3), (.ref b3)])) rfl rfl (hb hby d1_55)
  have E6_b3 := E4_b3.wr W6
  have F6_b3_coder := F4_b3_coder.other W6 (Or.inl ne_b3_b4)
  have F6_b3_value := F4_b3_value.other W6 (Or.inl ne_b3_b4)
  have Z6 := Nat.le_trans Z4 (Keep.of_wr W6).1
  have KP6 := KP4.wr W6 (Or.inr sz_b4)
  have N6 := Fr.snoc X6 N0 g_b4
  have V6_b4 : Arv Z h6 b4 c4 .char (1 : Int32) [(.int (nar .char ((ya &&& (255 : Int32)).toUInt32.toUInt16.toUInt32.toInt32)))] (.int (0 : Int32)) := Arv.set Ar55_5 q55_5 S55_5 N55_5_ H55_5 G55_5 (fits_nar_char _) W6 0 rfl (Nat.le_of_ble_eq_true rfl)
  have Vc : Arv Z h6 b4 c4 .char (1 : Int32) [(.int ((ya &&& (255 : Int32)).toUInt32.toUInt16.toUInt32.toInt32))] (.int (0 : Int32)) := by simpa only [own_nar] using V6_b4
  have hp : ∀ c ∈ ([((ya &&& (255 : Int32)).toUInt32.toUInt16.toUInt32.toInt32)] : List Int32), ¬ c < 0 ∧ ¬ (255 : Int32) < c := by
    intro c hc
    simp only [List.mem_cons, List.not_mem_nil, or_false] at hc
    subst hc
    exact own_255 _
  have hws : ∀ d ∈ StrChars.Road.words, d.before a0 Z = true := fun d hd => hw d ((by decide +kernel : ∀ d ∈ StrChars.Road.words, d ∈ tables_1) d hd)
  obtain ⟨_, _, ⟨T7, L7, k7, n7⟩, -, X7, ⟨Lc7, hQ7, l7, y7, z7⟩, st7⟩ := X6.specialBack hx (y := (⟨"java/lang/String", "<init>", "([C)V"⟩ : MethodName)) rfl hown (mvT hZ (hw _ (List.mem_of_getElem? (i := 8) rfl))) (mvT hZ (hw _ (List.mem_of_getElem? (i := 9) rfl))) (mvT hZ (hw _ (List.mem_of_getElem? (i := 10) rfl))) (by decide) (StrChars.Road.backV (W := 1) hZ hws (kI := 4) (hw _ (List.mem_of_getElem? (i := 5) rfl)) (cs := ([((ya &&& (255 : Int32)).toUInt32.toUInt16.toUInt32.toInt32)] : List Int32)) (bs := ([((ya &&& (255 : Int32)).toUInt32.toUInt16.toUInt32.toInt32)] : List Int32).map (fun c => c.toInt8.toInt32)) (n := 1) g_b3 Z6 E6_b3 F6_b3_value F6_b3_coder Vc (S_cs.ext (own_extK KP6)) hcz rfl rfl (by decide) (by decide) hp rfl (by decide) (by decide)) (g := (mkF m 56 #[.val (.int (1 : Int32)), .val (.int ya), .val (.int yb), .val (.int yc), .val (.int ((ya &&& (255 : Int32)).toUInt32.toUInt16.toUInt32.toInt32)), .val (.int ((yb &&& (255 : Int32)).toUInt32.toUInt16.toUInt32.toInt32)), .val (.int ((yc &&& (255 : Int32)).toUInt32.toUInt16.toUInt32.toInt32))] [(.ref b4), (.ref b3), (.ref b3)])) rfl (by rw [hml]; rfl) (Steps.refl _) (a := b3) (argsL := [(.ref b4)]) (rest := [(.ref b3)]) (lenOf pd_0 rfl) rfl (by show 2 * 0 + _ ≤ _; exact Nat.le_of_eq rfl) (hb hby d1_56) (fun _ _ => ⟨rfl, e6, (by decide : 2 + 1 ≤ _), (by decide : 5 + 1 ≤ _)⟩)
  dsimp only [Pt.U, Pt.locs, Pt.cells, Pt.slots] at X7 l7 y7 z7 st7 hQ7
  subst l7 y7 z7
  obtain ⟨rfl, N7q, K7, E7x, C7x, bt7, kb7, -, le7, -, F7x, V7x⟩ := hQ7
  have N7 := Fr.app N6 N7q
  have ne_b3_bt7 : b3 ≠ bt7 := Nat.ne_of_lt (Nat.lt_of_lt_of_le E6_b3.lt le7)
  have ne_b4_bt7 : b4 ≠ bt7 := Nat.ne_of_lt (Nat.lt_of_lt_of_le V6_b4.lt le7)
  have g_bt7 : n0 ≤ bt7 := Nat.le_trans Z6 le7
  have sz_bt7 : h0.size ≤ bt7 := Nat.le_trans KP6.1 le7
  have V7_b4 := V6_b4.keep K7 (ninS (Ne.symm ne_b3_b4) nin0)
  have Z7 := Nat.le_trans Z6 K7.1
  have KP7 := KP6.trans K7 (allS (Or.inr sz_b3) all0)
  have k8 : ∀ tg, Steps p.tables e below (T7.setTop (mkF m 59 #[.val (.int (1 : Int32)), .val (.int ya), .val (.int yb), .val (.int yc), .val (.int ((ya &&& (255 : Int32)).toUInt32.toUInt16.toUInt32.toInt32)), .val (.int ((yb &&& (255 : Int32)).toUInt32.toUInt16.toUInt32.toInt32)), .val (.int ((yc &&& (255 : Int32)).toUInt32.toUInt16.toUInt32.toInt32))] [(.ref b3)])) tg → Steps p.tables e below (s₁.setTop (entryFrame m #[(.int (1 : Int32)), (.int ya), (.int yb), (.int yc)] 7)) tg := by
    intro tg kt
    refine k0 tg ?_
    show Steps p.tables e below (s₁.setTop (mkF m 0 #[.val (.int (1 : Int32)), .val (.int ya), .val (.int yb), .val (.int yc), .unset, .unset, .unset] [])) _
    refine XS.iloadN X0.here hx rfl (hb hby d1_0) rfl ?_
    show Steps p.tables e below (s₁.setTop (mkF m 1 #[.val (.int (1 : Int32)), .val (.int ya), .val (.int yb), .val (.int yc), .unset, .unset, .unset] [(.int ya)])) _
    refine XS.sipush X0.here hx rfl (hb hby d1_1) ?_
    show Steps p.tables e below (s₁.setTop (mkF m 4 #[.val (.int (1 : Int32)), .val (.int ya), .val (.int yb), .val (.int yc), .unset, .unset, .unset] [(.int (255 : Int32)), (.int ya)])) _
    refine XS.iand X0.here hx rfl (hb hby d1_4) rfl ?_
    show Steps p.tables e below (s₁.setTop (mkF m 5 #[.val (.int (1 : Int32)), .val (.int ya), .val (.int yb), .val (.int yc), .unset, .unset, .unset] [(.int (ya &&& (255 : Int32)))])) _
    refine XS.i2c X0.here hx rfl (hb hby d1_5) rfl ?_
    show Steps p.tables e below (s₁.setTop (mkF m 6 #[.val (.int (1 : Int32)), .val (.int ya), .val (.int yb), .val (.int yc), .unset, .unset, .unset] [(.int ((ya &&& (255 : Int32)).toUInt32.toUInt16.toUInt32.toInt32))])) _
    refine XS.istore X0.here hx rfl (hb hby d1_6) rfl (l' := #[.val (.int (1 : Int32)), .val (.int ya), .val (.int yb), .val (.int yc), .val (.int ((ya &&& (255 : Int32)).toUInt32.toUInt16.toUInt32.toInt32)), .unset, .unset]) rfl ?_
    show Steps p.tables e below (s₁.setTop (mkF m 8 #[.val (.int (1 : Int32)), .val (.int ya), .val (.int yb), .val (.int yc), .val (.int ((ya &&& (255 : Int32)).toUInt32.toUInt16.toUInt32.toInt32)), .unset, .unset] [])) _
    refine XS.iloadN X0.here hx rfl (hb hby d1_8) rfl ?_
    show Steps p.tables e below (s₁.setTop (mkF m 9 #[.val (.int (1 : Int32)), .val (.int ya), .val (.int yb), .val (.int yc), .val (.int ((ya &&& (255 : Int32)).toUInt32.toUInt16.toUInt32.toInt32)), .unset, .unset] [(.int yb)])) _
    refine XS.sipush X0.here hx rfl (hb hby d1_9) ?_
    show Steps p.tables e below (s₁.setTop (mkF m 12 #[.val (.int (1 : Int32)), .val (.int ya), .val (.int yb), .val (.int yc), .val (.int ((ya &&& (255 : Int32)).toUInt32.toUInt16.toUInt32.toInt32)), .unset, .unset] [(.int (255 : Int32)), (.int yb)])) _
    refine XS.iand X0.here hx rfl (hb hby d1_12) rfl ?_
    show Steps p.tables e below (s₁.setTop (mkF m 13 #[.val (.int (1 : Int32)), .val (.int ya), .val (.int yb), .val (.int yc), .val (.int ((ya &&& (255 : Int32)).toUInt32.toUInt16.toUInt32.toInt32)), .unset, .unset] [(.int (yb &&& (255 : Int32)))])) _
    refine XS.i2c X0.here hx rfl (hb hby d1_13) rfl ?_
    show Steps p.tables e below (s₁.setTop (mkF m 14 #[.val (.int (1 : Int32)), .val (.int ya), .val (.int yb), .val (.int yc), .val (.int ((ya &&& (255 : Int32)).toUInt32.toUInt16.toUInt32.toInt32)), .unset, .unset] [(.int ((yb &&& (255 : Int32)).toUInt32.toUInt16.toUInt32.toInt32))])) _
    refine XS.istore X0.here hx rfl (hb hby d1_14) rfl (l' := #[.val (.int (1 : Int32)), .val (.int ya), .val (.int yb), .val (.int yc), .val (.int ((ya &&& (255 : Int32)).toUInt32.toUInt16.toUInt32.toInt32)), .val (.int ((yb &&& (255 : Int32)).toUInt32.toUInt16.toUInt32.toInt32)), .unset]) rfl ?_
    show Steps p.tables e below (s₁.setTop (mkF m 16 #[.val (.int (1 : Int32)), .val (.int ya), .val (.int yb), .val (.int yc), .val (.int ((ya &&& (255 : Int32)).toUInt32.toUInt16.toUInt32.toInt32)), .val (.int ((yb &&& (255 : Int32)).toUInt32.toUInt16.toUInt32.toInt32)), .unset] [])) _
    refine XS.iloadN X0.here hx rfl (hb hby d1_16) rfl ?_
    show Steps p.tables e below (s₁.setTop (mkF m 17 #[.val (.int (1 : Int32)), .val (.int ya), .val (.int yb), .val (.int yc), .val (.int ((ya &&& (255 : Int32)).toUInt32.toUInt16.toUInt32.toInt32)), .val (.int ((yb &&& (255 : Int32)).toUInt32.toUInt16.toUInt32.toInt32)), .unset] [(.int yc)])) _
    refine XS.sipush X0.here hx rfl (hb hby d1_17) ?_
    show Steps p.tables e below (s₁.setTop (mkF m 20 #[.val (.int (1 : Int32)), .val (.int ya), .val (.int yb), .val (.int yc), .val (.int ((ya &&& (255 : Int32)).toUInt32.toUInt16.toUInt32.toInt32)), .val (.int ((yb &&& (255 : Int32)).toUInt32.toUInt16.toUInt32.toInt32)), .unset] [(.int (255 : Int32)), (.int yc)])) _
    refine XS.iand X0.here hx rfl (hb hby d1_20) rfl ?_
    show Steps p.tables e below (s₁.setTop (mkF m 21 #[.val (.int (1 : Int32)), .val (.int ya), .val (.int yb), .val (.int yc), .val (.int ((ya &&& (255 : Int32)).toUInt32.toUInt16.toUInt32.toInt32)), .val (.int ((yb &&& (255 : Int32)).toUInt32.toUInt16.toUInt32.toInt32)), .unset] [(.int (yc &&& (255 : Int32)))])) _
    refine XS.i2c X0.here hx rfl (hb hby d1_21) rfl ?_
    show Steps p.tables e below (s₁.setTop (mkF m 22 #[.val (.int (1 : Int32)), .val (.int ya), .val (.int yb), .val (.int yc), .val (.int ((ya &&& (255 : Int32)).toUInt32.toUInt16.toUInt32.toInt32)), .val (.int ((yb &&& (255 : Int32)).toUInt32.toUInt16.toUInt32.toInt32)), .unset] [(.int ((yc &&& (255 : Int32)).toUInt32.toUInt16.toUInt32.toInt32))])) _
    refine XS.istore X0.here hx rfl (hb hby d1_22) rfl (l' := #[.val (.int (1 : Int32)), .val (.int ya), .val (.int yb), .val (.int yc), .val (.int ((ya &&& (255 : Int32)).toUInt32.toUInt16.toUInt32.toInt32)), .val (.int ((yb &&& (255 : Int32)).toUInt32.toUInt16.toUInt32.toInt32)), .val (.int ((yc &&& (255 : Int32)).toUInt32.toUInt16.toUInt32.toInt32))]) rfl ?_
    show Steps p.tables e below (s₁.setTop (mkF m 24 #[.val (.int (1 : Int32)), .val (.int ya), .val (.int yb), .val (.int yc), .val (.int ((ya &&& (255 : Int32)).toUInt32.toUInt16.toUInt32.toInt32)), .val (.int ((yb &&& (255 : Int32)).toUInt32.toUInt16.toUInt32.toInt32)), .val (.int ((yc &&& (255 : Int32)).toUInt32.toUInt16.toUInt32.toInt32))] [])) _
    refine XS.iloadN X0.here hx rfl (hb hby d1_24) rfl ?_
    show Steps p.tables e below (s₁.setTop (mkF m 25 #[.val (.int (1 : Int32)), .val (.int ya), .val (.int yb), .val (.int yc), .val (.int ((ya &&& (255 : Int32)).toUInt32.toUInt16.toUInt32.toInt32)), .val (.int ((yb &&& (255 : Int32)).toUInt32.toUInt16.toUInt32.toInt32)), .val (.int ((yc &&& (255 : Int32)).toUInt32.toUInt16.toUInt32.toInt32))] [(.int (1 : Int32))])) _
    refine XS.ifYes X0.here hx rfl (pc0 := 25) (pc' := 39) rfl (hb hby d1_25) rfl ((if0 _ _).trans (feq hd1).2) (by decide) (by decide) ?_
    show Steps p.tables e below (s₁.setTop (mkF m 39 #[.val (.int (1 : Int32)), .val (.int ya), .val (.int yb), .val (.int yc), .val (.int ((ya &&& (255 : Int32)).toUInt32.toUInt16.toUInt32.toInt32)), .val (.int ((yb &&& (255 : Int32)).toUInt32.toUInt16.toUInt32.toInt32)), .val (.int ((yc &&& (255 : Int32)).toUInt32.toUInt16.toUInt32.toInt32))] [])) _
    refine XS.iloadN X0.here hx rfl (hb hby d1_39) rfl ?_
    show Steps p.tables e below (s₁.setTop (mkF m 40 #[.val (.int (1 : Int32)), .val (.int ya), .val (.int yb), .val (.int yc), .val (.int ((ya &&& (255 : Int32)).toUInt32.toUInt16.toUInt32.toInt32)), .val (.int ((yb &&& (255 : Int32)).toUInt32.toUInt16.toUInt32.toInt32)), .val (.int ((yc &&& (255 : Int32)).toUInt32.toUInt16.toUInt32.toInt32))] [(.int (1 : Int32))])) _
    refine XS.iconst X0.here hx rfl (hb hby d1_40) ?_
    show Steps p.tables e below (s₁.setTop (mkF m 41 #[.val (.int (1 : Int32)), .val (.int ya), .val (.int yb), .val (.int yc), .val (.int ((ya &&& (255 : Int32)).toUInt32.toUInt16.toUInt32.toInt32)), .val (.int ((yb &&& (255 : Int32)).toUInt32.toUInt16.toUInt32.toInt32)), .val (.int ((yc &&& (255 : Int32)).toUInt32.toUInt16.toUInt32.toInt32))] [(.int (1 : Int32)), (.int (1 : Int32))])) _
    refine XS.icmpNo X0.here hx rfl (hb hby d1_41) rfl (teq hd2).2 ?_
    show Steps p.tables e below (s₁.setTop (mkF m 44 #[.val (.int (1 : Int32)), .val (.int ya), .val (.int yb), .val (.int yc), .val (.int ((ya &&& (255 : Int32)).toUInt32.toUInt16.toUInt32.toInt32)), .val (.int ((yb &&& (255 : Int32)).toUInt32.toUInt16.toUInt32.toInt32)), .val (.int ((yc &&& (255 : Int32)).toUInt32.toUInt16.toUInt32.toInt32))] [])) _
    refine st3 _ ?_
    show Steps p.tables e below (T3.setTop (mkF m 47 #[.val (.int (1 : Int32)), .val (.int ya), .val (.int yb), .val (.int yc), .val (.int ((ya &&& (255 : Int32)).toUInt32.toUInt16.toUInt32.toInt32)), .val (.int ((yb &&& (255 : Int32)).toUInt32.toUInt16.toUInt32.toInt32)), .val (.int ((yc &&& (255 : Int32)).toUInt32.toUInt16.toUInt32.toInt32))] [(.ref b3)])) _
    refine XS.dup X3.here hx rfl (hb hby d1_47) rfl rfl ?_
    show Steps p.tables e below (T3.setTop (mkF m 48 #[.val (.int (1 : Int32)), .val (.int ya), .val (.int yb), .val (.int yc), .val (.int ((ya &&& (255 : Int32)).toUInt32.toUInt16.toUInt32.toInt32)), .val (.int ((yb &&& (255 : Int32)).toUInt32.toUInt16.toUInt32.toInt32)), .val (.int ((yc &&& (255 : Int32)).toUInt32.toUInt16.toUInt32.toInt32))] [(.ref b3), (.ref b3)])) _
    refine XS.iconst X3.here hx rfl (hb hby d1_48) ?_
    show Steps p.tables e below (T3.setTop (mkF m 49 #[.val (.int (1 : Int32)), .val (.int ya), .val (.int yb), .val (.int yc), .val (.int ((ya &&& (255 : Int32)).toUInt32.toUInt16.toUInt32.toInt32)), .val (.int ((yb &&& (255 : Int32)).toUInt32.toUInt16.toUInt32.toInt32)), .val (.int ((yc &&& (255 : Int32)).toUInt32.toUInt16.toUInt32.toInt32))] [(.int (1 : Int32)), (.ref b3), (.ref b3)])) _
    refine st4 _ ?_
    show Steps p.tables e below (T4.setTop (mkF m 51 #[.val (.int (1 : Int32)), .val (.int ya), .val (.int yb), .val (.int yc), .val (.int ((ya &&& (255 : Int32)).toUInt32.toUInt16.toUInt32.toInt32)), .val (.int ((yb &&& (255 : Int32)).toUInt32.toUInt16.toUInt32.toInt32)), .val (.int ((yc &&& (255 : Int32)).toUInt32.toUInt16.toUInt32.toInt32))] [(.ref b4), (.ref b3), (.ref b3)])) _
    refine XS.dup X4.here hx rfl (hb hby d1_51) rfl rfl ?_
    show Steps p.tables e below (T4.setTop (mkF m 52 #[.val (.int (1 : Int32)), .val (.int ya), .val (.int yb), .val (.int yc), .val (.int ((ya &&& (255 : Int32)).toUInt32.toUInt16.toUInt32.toInt32)), .val (.int ((yb &&& (255 : Int32)).toUInt32.toUInt16.toUInt32.toInt32)), .val (.int ((yc &&& (255 : Int32)).toUInt32.toUInt16.toUInt32.toInt32))] [(.ref b4), (.ref b4), (.ref b3), (.ref b3)])) _
    refine XS.iconst X4.here hx rfl (hb hby d1_52) ?_
    show Steps p.tables e below (T4.setTop (mkF m 53 #[.val (.int (1 : Int32)), .val (.int ya), .val (.int yb), .val (.int yc), .val (.int ((ya &&& (255 : Int32)).toUInt32.toUInt16.toUInt32.toInt32)), .val (.int ((yb &&& (255 : Int32)).toUInt32.toUInt16.toUInt32.toInt32)), .val (.int ((yc &&& (255 : Int32)).toUInt32.toUInt16.toUInt32.toInt32))] [(.int (0 : Int32)), (.ref b4), (.ref b4), (.ref b3), (.ref b3)])) _
    refine XS.iload X4.here hx rfl (hb hby d1_53) rfl ?_
    show Steps p.tables e below (T4.setTop (mkF m 55 #[.val (.int (1 : Int32)), .val (.int ya), .val (.int yb), .val (.int yc), .val (.int ((ya &&& (255 : Int32)).toUInt32.toUInt16.toUInt32.toInt32)), .val (.int ((yb &&& (255 : Int32)).toUInt32.toUInt16.toUInt32.toInt32)), .val (.int ((yc &&& (255 : Int32)).toUInt32.toUInt16.toUInt32.toInt32))] [(.int ((ya &&& (255 : Int32)).toUInt32.toUInt16.toUInt32.toInt32)), (.int (0 : Int32)), (.ref b4), (.ref b4), (.ref b3), (.ref b3)])) _
    refine st6 _ ?_
    show Steps p.tables e below (T6.setTop (mkF m 56 #[.val (.int (1 : Int32)), .val (.int ya), .val (.int yb), .val (.int yc), .val (.int ((ya &&& (255 : Int32)).toUInt32.toUInt16.toUInt32.toInt32)), .val (.int ((yb &&& (255 : Int32)).toUInt32.toUInt16.toUInt32.toInt32)), .val (.int ((yc &&& (255 : Int32)).toUInt32.toUInt16.toUInt32.toInt32))] [(.ref b4), (.ref b3), (.ref b3)])) _
    refine st7.trans ?_
    show Steps p.tables e below (T7.setTop (mkF m 59 #[.val (.int (1 : Int32)), .val (.int ya), .val (.int yb), .val (.int yc), .val (.int ((ya &&& (255 : Int32)).toUInt32.toUInt16.toUInt32.toInt32)), .val (.int ((yb &&& (255 : Int32)).toUInt32.toUInt16.toUInt32.toInt32)), .val (.int ((yc &&& (255 : Int32)).toUInt32.toUInt16.toUInt32.toInt32))] [(.ref b3)])) _
    exact kt
  obtain ⟨fs, hr, hrun, hended, hW, hsame⟩ := X7.leave (v := some (.ref b3)) (fun h => by rw [Bd.returns] at h; cases h)
  refine ⟨_, _, k8 _ ?_, hrun, hended, _, _, rfl, ?_, ⟨_, rfl⟩, hW, hsame.mono (by decide) (by decide)⟩
  · exact own_retA X7 hx Bd.returns rfl (hb hby d1_59) hr
  · show QDraw Z [((ya &&& (255 : Int32)).toUInt32.toUInt16.toUInt32.toInt32)] h0 n0 _ T7.heap _
    exact ⟨N7, KP7, b3, bt7, kb7, rfl, sz_b3, E7x, C7x, F7x, V7x⟩
theorem d1_60 : decode method_2_code 60 = .ok (.iload_n 0, 1) := by decide +kernel
theorem d1_61 : decode method_2_code 61 = .ok (.iconst 2, 1) := by decide +kernel
theorem d1_62 : decode method_2_code 62 = .ok (.if_icmp .ne 24, 3) := by decide +kernel
theorem d1_65 : decode method_2_code 65 = .ok (.new 7, 3) := by decide +kernel
theorem d1_68 : decode method_2_code 68 = .ok (.dup, 1) := by decide +kernel
theorem d1_69 : decode method_2_code 69 = .ok (.iconst 2, 1) := by decide +kernel
theorem d1_70 : decode method_2_code 70 = .ok (.newarray .char, 2) := by decide +kernel
theorem d1_72 : decode method_2_code 72 = .ok (.dup, 1) := by decide +kernel
theorem d1_73 : decode method_2_code 73 = .ok (.iconst 0, 1) := by decide +kernel
theorem d1_74 : decode method_2_code 74 = .ok (.iload 4, 2) := by decide +kernel
theorem d1_76 : decode method_2_code 76 = .ok (.castore, 1) := by decide +kernel
theorem d1_77 : decode method_2_code 77 = .ok (.dup, 1) := by decide +kernel
theorem d1_78 : decode method_2_code 78 = .ok (.iconst 1, 1) := by decide +kernel
theorem d1_79 : decode method_2_code 79 = .ok (.iload 5, 2) := by decide +kernel
theorem d1_81 : decode method_2_code 81 = .ok (.castore, 1) := by decide +kernel
theorem d1_82 : decode method_2_code 82 = .ok (.invokespecial 9, 3) := by decide +kernel
theorem d1_85 : decode method_2_code 85 = .ok (.areturn, 1) := by decide +kernel
theorem ef_rmDraw2 (m : MethodId) (ya : Int32) (yb : Int32) (yc : Int32) : entryFrame m #[(.int (2 : Int32)), (.int ya), (.int yb), (.int yc)] 7 = mkF m 0 #[.val (.int (2 : Int32)), .val (.int ya), .val (.int yb), .val (.int yc), .unset, .unset, .unset] [] := by first | (simp [entryFrame, mkF, argsToLocals, Value.category]; done) | rfl
set_option maxRecDepth 65536 in
set_option maxHeartbeats 40000000 in
theorem rmDraw2 (l : Launch) (Z : State) (a0 : Array Value) (hw : ∀ d ∈ tables_1, d.before a0 Z = true) (ws : List Jvm.Cond) (ya : Int32) (yb : Int32) (yc : Int32) (cz : Int32) (h0 : Heap) (n0 : Nat) (Z0 : n0 ≤ h0.size) (S_cs : Sta Z h0 "java/lang/String" "COMPACT_STRINGS" "Z" (.int cz)) (hcz : ¬ cz = 0) :
    MetFree l (⟨"com/example/lifetable/lifetable/output/ColumnOfPinLaw", "draw", "(IIII)Ljava/lang/String;"⟩ : MethodName) (head1 (Jvm.Cond.code (⟨"com/example/lifetable/lifetable/output/ColumnOfPinLaw", "draw", "(IIII)Ljava/lang/String;"⟩ : MethodName) method_2_code 7 (some (.object "java/lang/String")) :: ws) ({ frames := 4, cells := 3, slots := 8, locals := 66 } : Room)) (fun a_ U_ => a_ = #[(.int (2 : Int32)), (.int ya), (.int yb), (.int yc)] ∧ Z.Warmed39 U_.vm ∧ U_.heap = h0) (fun _ _ _ _ _ => True) (fun _ U_ o_ U'_ => ∃ v_ L_, o_ = .returned v_ ∧ QDraw Z [((ya &&& (255 : Int32)).toUInt32.toUInt16.toUInt32.toInt32), ((yb &&& (255 : Int32)).toUInt32.toUInt16.toUInt32.toInt32)] h0 n0 v_ U'_.heap L_ ∧ FrameEnd U_ o_ U'_ L_ ({ frames := 4, cells := 3, slots := 8, locals := 66 } : Room).cells ({ frames := 4, cells := 3, slots := 8, locals := 66 } : Room).slots) := by
  refine MetFree.of_bodySF (plainFor_of_name pn_1) hisR ?_
  intro p e s m args below meth c s₁ Bd hml0 hP hK
  obtain ⟨rfl, hZ, hh⟩ := hP
  have hx := Bd.exec
  have hby := Bd.bytes
  have hml : c.maxLocals = 7 := hml0
  have hown : s.vm.findClass "com/example/lifetable/lifetable/output/ColumnOfPinLaw" = some m.cls := findClass_of_methodNamed Bd.named
  have hnm := (name_of_methodNamed Bd.named Bd.method).1
  have X0 : Stand p l e ({ frames := 4, cells := 3, slots := 8, locals := 66 } : Room) s m #[(.int (2 : Int32)), (.int ya), (.int yb), (.int yc)] below meth c s₁ [] 0 0 := Stand.of_body Bd
  have e0 : s₁.heap = h0 := by rw [← hh, Bd.state]; rfl
  have N0 := Fr.nil n0
  have k0 : ∀ tg, Steps p.tables e below (s₁.setTop (mkF m 0 #[.val (.int (2 : Int32)), .val (.int ya), .val (.int yb), .val (.int yc), .unset, .unset, .unset] [])) tg → Steps p.tables e below (s₁.setTop (entryFrame m #[(.int (2 : Int32)), (.int ya), (.int yb), (.int yc)] 7)) tg := fun tg kq_ => castTop (ef_rmDraw2 m ya yb yc) kq_
  have hd1 : ¬ ((2 : Int32) = (0 : Int32)) := by decide
  have hd2 : ¬ ((2 : Int32) = (1 : Int32)) := by decide
  have hd3 : (2 : Int32) = (2 : Int32) := rfl
  obtain ⟨T4, h4, X4, e4, E4, A4, D4, -, st4⟩ := newO X0 hx hZ hown (hw _ (List.mem_of_getElem? (i := 4) rfl)) (hw _ (List.mem_of_getElem? (i := 5) rfl)) (hw _ (List.mem_of_getElem? (i := 6) rfl)) e0 (g := (mkF m 65 #[.val (.int (2 : Int32)), .val (.int ya), .val (.int yb), .val (.int yc), .val (.int ((ya &&& (255 : Int32)).toUInt32.toUInt16.toUInt32.toInt32)), .val (.int ((yb &&& (255 : Int32)).toUInt32.toUInt16.toUInt32.toInt32)), .val (.int ((yc &&& (255 : Int32)).toUInt32.toUInt16.toUInt32.toInt32))] [])) rfl (hb hby d1_65) (by decide) (by decide)
  obtain ⟨b4, g4⟩ : ∃ z, z = h0.size := ⟨_, rfl⟩
  have g_b4 : n0 ≤ b4 := Nat.le_trans Z0 (Nat.le_of_eq g4.symm)
  have sz_b4 : h0.size ≤ b4 := Nat.le_trans (Keep.refl h0 []).1 (Nat.le_of_eq g4.symm)
  rw [← g4] at A4 D4 st4
  have Z4 := Nat.le_trans Z0 E4.1
  have KP4 := (Keep.refl h0 []).ext E4
  have F_coder_b4 : Fld Z h4 b4 "java/lang/String" "coder" "B" (.int (0 : Int32)) := D4 (Or.inr (hw _ (List.mem_of_getElem? (i := 31) rfl))) (ty := .byte) (by decide)
  have F_value_b4 : Fld Z h4 b4 "java/lang/String" "value" "[B" .null := D4 (Or.inr (hw _ (List.mem_of_getElem? (i := 33) rfl))) (ty := (.array .byte)) (by decide)
  obtain ⟨T5, h5, c5, X5, e5, E5, A5, st5⟩ := newP X4 hx hZ (hw _ (List.mem_of_getElem? (i := 7) rfl)) e4 (g := (mkF m 70 #[.val (.int (2 : Int32)), .val (.int ya), .val (.int yb), .val (.int yc), .val (.int ((ya &&& (255 : Int32)).toUInt32.toUInt16.toUInt32.toInt32)), .val (.int ((yb &&& (255 : Int32)).toUInt32.toUInt16.toUInt32.toInt32)), .val (.int ((yc &&& (255 : Int32)).toUInt32.toUInt16.toUInt32.toInt32))] [(.int (2 : Int32)), (.ref b4), (.ref b4)])) rfl (hb hby d1_70) rfl (by decide) (cap := 2) (by decide) (by decide) (by decide) (by decide)
  obtain ⟨b5, g5⟩ : ∃ z, z = h4.size := ⟨_, rfl⟩
  have ne_b4_b5 : b4 ≠ b5 := Nat.ne_of_lt (Nat.lt_of_lt_of_le A4.lt (Nat.le_of_eq g5.symm))
  have g_b5 : n0 ≤ b5 := Nat.le_trans Z4 (Nat.le_of_eq g5.symm)
  have sz_b5 : h0.size ≤ b5 := Nat.le_trans KP4.1 (Nat.le_of_eq g5.symm)
  rw [← g5] at A5 st5
  have E5_b4 := A4.ext E5
  have F5_b4_coder := F_coder_b4.ext E5
  have F5_b4_value := F_value_b4.ext E5
  have Z5 := Nat.le_trans Z4 E5.1
  have KP5 := KP4.ext E5
  have V_b5 : Arv Z h5 b5 c5 .char (2 : Int32) [(.int (0 : Int32)), (.int (0 : Int32))] (.int (0 : Int32)) := (Arv.new A5 (by decide)).pad (pad_rep [] (.int (0 : Int32)) 2)
  obtain ⟨cl76_6, Ar76_6, q76_6, S76_6, N76_6_, H76_6, G76_6⟩ := id V_b5
  have hin76_6 : ¬ ((0 : Int32) < 0 ∨ cl76_6.slots.size ≤ ((0 : Int32)).toNatClampNeg) := inb_of S76_6 ⟨by decide, by decide⟩
  obtain ⟨T7, h7, X7, e7, W7, st7⟩ := stC X5 hx hZ e5 Ar76_6 (j := (0 : Int32)) hin76_6 (g := (mkF m 76 #[.val (.int (2 : Int32)), .val (.int ya), .val (.int yb), .val (.int yc), .val (.int ((ya &&& (255 : Int32)).toUInt32.toUInt16.toUInt32.toInt32)), .val (.int ((yb &&& (255 : Int32)).toUInt32.toUInt16.toUInt32.toInt32)), .val (.int ((yc &&& (255 : Int32)).toUInt32.toUInt16.toUInt32.toInt32))] [(.int ((ya &&& (255 : Int32)).toUInt32.toUInt16.toUInt32.toInt32)), (.int (0 : Int32)), (.ref b5), (.ref b5), (.ref b4), (.ref b4)])) rfl rfl (hb hby d1_76)
  have E7_b4 := E5_b4.wr W7
  have F7_b4_coder := F5_b4_coder.other W7 (Or.inl ne_b4_b5)
  have F7_b4_value := F5_b4_value.other W7 (Or.inl ne_b4_b5)
  have Z7 := Nat.le_trans Z5 (Keep.of_wr W7).1
  have KP7 := KP5.wr W7 (Or.inr sz_b5)
  have N7 := Fr.snoc X7 N0 g_b5
  have V7_b5 : Arv Z h7 b5 c5 .char (2 : Int32) [(.int (nar .char ((ya &&& (255 : Int32)).toUInt32.toUInt16.toUInt32.toInt32))), (.int (0 : Int32))] (.int (0 : Int32)) := Arv.set Ar76_6 q76_6 S76_6 N76_6_ H76_6 G76_6 (fits_nar_char _) W7 0 rfl (Nat.le_of_ble_eq_true rfl)
  obtain ⟨cl81_8, Ar81_8, q81_8, S81_8, N81_8_, H81_8, G81_8⟩ := id V7_b5
  have hin81_8 : ¬ ((1 : Int32) < 0 ∨ cl81_8.slots.size ≤ ((1 : Int32)).toNatClampNeg) := inb_of S81_8 ⟨by decide, by decide⟩
  obtain ⟨T9, h9, X9, e9, W9, st9⟩ := stC X7 hx hZ e7 Ar81_8 (j := (1 : Int32)) hin81_8 (g := (mkF m 81 #[.val (.int (2 : Int32)), .val (.int ya), .val (.int yb), .val (.int yc), .val (.int ((ya &&& (255 : Int32)).toUInt32.toUInt16.toUInt32.toInt32)), .val (.int ((yb &&& (255 : Int32)).toUInt32.toUInt16.toUInt32.toInt32)), .val (.int ((yc &&& (255 : Int32)).toUInt32.toUInt16.toUInt32.toInt32))] [(.int ((yb &&& (255 : Int32)).toUInt32.toUInt16.toUInt32.toInt32)), (.int (1 : Int32)), (.ref b5), (.ref b5), (.ref b4), (.ref b4)])) rfl rfl (hb hby d1_81)
  have E9_b4 := E7_b4.wr W9
  have F9_b4_coder := F7_b4_coder.other W9 (Or.inl ne_b4_b5)
  have F9_b4_value := F7_b4_value.other W9 (Or.inl ne_b4_b5)
  have Z9 := Nat.le_trans Z7 (Keep.of_wr W9).1
  have KP9 := KP7.wr W9 (Or.inr sz_b5)
  have N9 := Fr.snoc X9 N7 g_b5
  have V9_b5 : Arv Z h9 b5 c5 .char (2 : Int32) [(.int (nar .char ((ya &&& (255 : Int32)).toUInt32.toUInt16.toUInt32.toInt32))), (.int (nar .char ((yb &&& (255 : Int32)).toUInt32.toUInt16.toUInt32.toInt32)))] (.int (0 : Int32)) := Arv.set Ar81_8 q81_8 S81_8 N81_8_ H81_8 G81_8 (fits_nar_char _) W9 1 rfl (Nat.le_of_ble_eq_true rfl)
  have Vc : Arv Z h9 b5 c5 .char (2 : Int32) [(.int ((ya &&& (255 : Int32)).toUInt32.toUInt16.toUInt32.toInt32)), (.int ((yb &&& (255 : Int32)).toUInt32.toUInt16.toUInt32.toInt32))] (.int (0 : Int32)) := by simpa only [own_nar] using V9_b5
  have hp : ∀ c ∈ ([((ya &&& (255 : Int32)).toUInt32.toUInt16.toUInt32.toInt32), ((yb &&& (255 : Int32)).toUInt32.toUInt16.toUInt32.toInt32)] : List Int32), ¬ c < 0 ∧ ¬ (255 : Int32) < c := by
    intro c hc
    simp only [List.mem_cons, List.not_mem_nil, or_false] at hc
    rcases hc with rfl | rfl
    · exact own_255 _
    · exact own_255 _
  have hws : ∀ d ∈ StrChars.Road.words, d.before a0 Z = true := fun d hd => hw d ((by decide +kernel : ∀ d ∈ StrChars.Road.words, d ∈ tables_1) d hd)
  obtain ⟨_, _, ⟨T10, L10, k10, n10⟩, -, X10, ⟨Lc10, hQ10, l10, y10, z10⟩, st10⟩ := X9.specialBack hx (y := (⟨"java/lang/String", "<init>", "([C)V"⟩ : MethodName)) rfl hown (mvT hZ (hw _ (List.mem_of_getElem? (i := 8) rfl))) (mvT hZ (hw _ (List.mem_of_getElem? (i := 9) rfl))) (mvT hZ (hw _ (List.mem_of_getElem? (i := 10) rfl))) (by decide) (StrChars.Road.backV (W := 1) hZ hws (kI := 4) (hw _ (List.mem_of_getElem? (i := 5) rfl)) (cs := ([((ya &&& (255 : Int32)).toUInt32.toUInt16.toUInt32.toInt32), ((yb &&& (255 : Int32)).toUInt32.toUInt16.toUInt32.toInt32)] : List Int32)) (bs := ([((ya &&& (255 : Int32)).toUInt32.toUInt16.toUInt32.toInt32), ((yb &&& (255 : Int32)).toUInt32.toUInt16.toUInt32.toInt32)] : List Int32).map (fun c => c.toInt8.toInt32)) (n := 2) g_b4 Z9 E9_b4 F9_b4_value F9_b4_coder Vc (S_cs.ext (own_extK KP9)) hcz rfl rfl (by decide) (by decide) hp rfl (by decide) (by decide)) (g := (mkF m 82 #[.val (.int (2 : Int32)), .val (.int ya), .val (.int yb), .val (.int yc), .val (.int ((ya &&& (255 : Int32)).toUInt32.toUInt16.toUInt32.toInt32)), .val (.int ((yb &&& (255 : Int32)).toUInt32.toUInt16.toUInt32.toInt32)), .val (.int ((yc &&& (255 : Int32)).toUInt32.toUInt16.toUInt32.toInt32))] [(.ref b5), (.ref b4), (.ref b4)])) rfl (by rw [hml]; rfl) (Steps.refl _) (a := b4) (argsL := [(.ref b5)]) (rest := [(.ref b4)]) (lenOf pd_0 rfl) rfl (by show 2 * 0 + _ ≤ _; exact Nat.le_of_eq rfl) (hb hby d1_82) (fun _ _ => ⟨rfl, e9, (by decide : 2 + 1 ≤ _), (by decide : 6 + 2 ≤ _)⟩)
  dsimp only [Pt.U, Pt.locs, Pt.cells, Pt.slots] at X10 l10 y10 z10 st10 hQ10
  subst l10 y10 z10
  obtain ⟨rfl, N10q, K10, E10x, C10x, bt10, kb10, -, le10, -, F10x, V10x⟩ := hQ10
  have N10 := Fr.app N9 N10q
  have ne_b4_bt10 : b4 ≠ bt10 := Nat.ne_of_lt (Nat.lt_of_lt_of_le E9_b4.lt le10)
  have ne_b5_bt10 : b5 ≠ bt10 := Nat.ne_of_lt (Nat.lt_of_lt_of_le V9_b5.lt le10)
  have g_bt10 : n0 ≤ bt10 := Nat.le_trans Z9 le10
  have sz_bt10 : h0.size ≤ bt10 := Nat.le_trans KP9.1 le10
  have V10_b5 := V9_b5.keep K10 (ninS (Ne.symm ne_b4_b5) nin0)
  have Z10 := Nat.le_trans Z9 K10.1
  have KP10 := KP9.trans K10 (allS (Or.inr sz_b4) all0)
  have k11 : ∀ tg, Steps p.tables e below (T10.setTop (mkF m 85 #[.val (.int (2 : Int32)), .val (.int ya), .val (.int yb), .val (.int yc), .val (.int ((ya &&& (255 : Int32)).toUInt32.toUInt16.toUInt32.toInt32)), .val (.int ((yb &&& (255 : Int32)).toUInt32.toUInt16.toUInt32.toInt32)), .val (.int ((yc &&& (255 : Int32)).toUInt32.toUInt16.toUInt32.toInt32))] [(.ref b4)])) tg → Steps p.tables e below (s₁.setTop (entryFrame m #[(.int (2 : Int32)), (.int ya), (.int yb), (.int yc)] 7)) tg := by
    intro tg kt
    refine k0 tg ?_
    show Steps p.tables e below (s₁.setTop (mkF m 0 #[.val (.int (2 : Int32)), .val (.int ya), .val (.int yb), .val (.int yc), .unset, .unset, .unset] [])) _
    refine XS.iloadN X0.here hx rfl (hb hby d1_0) rfl ?_
    show Steps p.tables e below (s₁.setTop (mkF m 1 #[.val (.int (2 : Int32)), .val (.int ya), .val (.int yb), .val (.int yc), .unset, .unset, .unset] [(.int ya)])) _
    refine XS.sipush X0.here hx rfl (hb hby d1_1) ?_
    show Steps p.tables e below (s₁.setTop (mkF m 4 #[.val (.int (2 : Int32)), .val (.int ya), .val (.int yb), .val (.int yc), .unset, .unset, .unset] [(.int (255 : Int32)), (.int ya)])) _
    refine XS.iand X0.here hx rfl (hb hby d1_4) rfl ?_
    show Steps p.tables e below (s₁.setTop (mkF m 5 #[.val (.int (2 : Int32)), .val (.int ya), .val (.int yb), .val (.int yc), .unset, .unset, .unset] [(.int (ya &&& (255 : Int32)))])) _
    refine XS.i2c X0.here hx rfl (hb hby d1_5) rfl ?_
    show Steps p.tables e below (s₁.setTop (mkF m 6 #[.val (.int (2 : Int32)), .val (.int ya), .val (.int yb), .val (.int yc), .unset, .unset, .unset] [(.int ((ya &&& (255 : Int32)).toUInt32.toUInt16.toUInt32.toInt32))])) _
    refine XS.istore X0.here hx rfl (hb hby d1_6) rfl (l' := #[.val (.int (2 : Int32)), .val (.int ya), .val (.int yb), .val (.int yc), .val (.int ((ya &&& (255 : Int32)).toUInt32.toUInt16.toUInt32.toInt32)), .unset, .unset]) rfl ?_
    show Steps p.tables e below (s₁.setTop (mkF m 8 #[.val (.int (2 : Int32)), .val (.int ya), .val (.int yb), .val (.int yc), .val (.int ((ya &&& (255 : Int32)).toUInt32.toUInt16.toUInt32.toInt32)), .unset, .unset] [])) _
    refine XS.iloadN X0.here hx rfl (hb hby d1_8) rfl ?_
    show Steps p.tables e below (s₁.setTop (mkF m 9 #[.val (.int (2 : Int32)), .val (.int ya), .val (.int yb), .val (.int yc), .val (.int ((ya &&& (255 : Int32)).toUInt32.toUInt16.toUInt32.toInt32)), .unset, .unset] [(.int yb)])) _
    refine XS.sipush X0.here hx rfl (hb hby d1_9) ?_
    show Steps p.tables e below (s₁.setTop (mkF m 12 #[.val (.int (2 : Int32)), .val (.int ya), .val (.int yb), .val (.int yc), .val (.int ((ya &&& (255 : Int32)).toUInt32.toUInt16.toUInt32.toInt32)), .unset, .unset] [(.int (255 : Int32)), (.int yb)])) _
    refine XS.iand X0.here hx rfl (hb hby d1_12) rfl ?_
    show Steps p.tables e below (s₁.setTop (mkF m 13 #[.val (.int (2 : Int32)), .val (.int ya), .val (.int yb), .val (.int yc), .val (.int ((ya &&& (255 : Int32)).toUInt32.toUInt16.toUInt32.toInt32)), .unset, .unset] [(.int (yb &&& (255 : Int32)))])) _
    refine XS.i2c X0.here hx rfl (hb hby d1_13) rfl ?_
    show Steps p.tables e below (s₁.setTop (mkF m 14 #[.val (.int (2 : Int32)), .val (.int ya), .val (.int yb), .val (.int yc), .val (.int ((ya &&& (255 : Int32)).toUInt32.toUInt16.toUInt32.toInt32)), .unset, .unset] [(.int ((yb &&& (255 : Int32)).toUInt32.toUInt16.toUInt32.toInt32))])) _
    refine XS.istore X0.here hx rfl (hb hby d1_14) rfl (l' := #[.val (.int (2 : Int32)), .val (.int ya), .val (.int yb), .val (.int yc), .val (.int ((ya &&& (255 : Int32)).toUInt32.toUInt16.toUInt32.toInt32)), .val (.int ((yb &&& (255 : Int32)).toUInt32.toUInt16.toUInt32.toInt32)), .unset]) rfl ?_
    show Steps p.tables e below (s₁.setTop (mkF m 16 #[.val (.int (2 : Int32)), .val (.int ya), .val (.int yb), .val (.int yc), .val (.int ((ya &&& (255 : Int32)).toUInt32.toUInt16.toUInt32.toInt32)), .val (.int ((yb &&& (255 : Int32)).toUInt32.toUInt16.toUInt32.toInt32)), .unset] [])) _
    refine XS.iloadN X0.here hx rfl (hb hby d1_16) rfl ?_
    show Steps p.tables e below (s₁.setTop (mkF m 17 #[.val (.int (2 : Int32)), .val (.int ya), .val (.int yb), .val (.int yc), .val (.int ((ya &&& (255 : Int32)).toUInt32.toUInt16.toUInt32.toInt32)), .val (.int ((yb &&& (255 : Int32)).toUInt32.toUInt16.toUInt32.toInt32)), .unset] [(.int yc)])) _
    refine XS.sipush X0.here hx rfl (hb hby d1_17) ?_
    show Steps p.tables e below (s₁.setTop (mkF m 20 #[.val (.int (2 : Int32)), .val (.int ya), .val (.int yb), .val (.int yc), .val (.int ((ya &&& (255 : Int32)).toUInt32.toUInt16.toUInt32.toInt32)), .val (.int ((yb &&& (255 : Int32)).toUInt32.toUInt16.toUInt32.toInt32)), .unset] [(.int (255 : Int32)), (.int yc)])) _
    refine XS.iand X0.here hx rfl (hb hby d1_20) rfl ?_
    show Steps p.tables e below (s₁.setTop (mkF m 21 #[.val (.int (2 : Int32)), .val (.int ya), .val (.int yb), .val (.int yc), .val (.int ((ya &&& (255 : Int32)).toUInt32.toUInt16.toUInt32.toInt32)), .val (.int ((yb &&& (255 : Int32)).toUInt32.toUInt16.toUInt32.toInt32)), .unset] [(.int (yc &&& (255 : Int32)))])) _
    refine XS.i2c X0.here hx rfl (hb hby d1_21) rfl ?_
    show Steps p.tables e below (s₁.setTop (mkF m 22 #[.val (.int (2 : Int32)), .val (.int ya), .val (.int yb), .val (.int yc), .val (.int ((ya &&& (255 : Int32)).toUInt32.toUInt16.toUInt32.toInt32)), .val (.int ((yb &&& (255 : Int32)).toUInt32.toUInt16.toUInt32.toInt32)), .unset] [(.int ((yc &&& (255 : Int32)).toUInt32.toUInt16.toUInt32.toInt32))])) _
    refine XS.istore X0.here hx rfl (hb hby d1_22) rfl (l' := #[.val (.int (2 : Int32)), .val (.int ya), .val (.int yb), .val (.int yc), .val (.int ((ya &&& (255 : Int32)).toUInt32.toUInt16.toUInt32.toInt32)), .val (.int ((yb &&& (255 : Int32)).toUInt32.toUInt16.toUInt32.toInt32)), .val (.int ((yc &&& (255 : Int32)).toUInt32.toUInt16.toUInt32.toInt32))]) rfl ?_
    show Steps p.tables e below (s₁.setTop (mkF m 24 #[.val (.int (2 : Int32)), .val (.int ya), .val (.int yb), .val (.int yc), .val (.int ((ya &&& (255 : Int32)).toUInt32.toUInt16.toUInt32.toInt32)), .val (.int ((yb &&& (255 : Int32)).toUInt32.toUInt16.toUInt32.toInt32)), .val (.int ((yc &&& (255 : Int32)).toUInt32.toUInt16.toUInt32.toInt32))] [])) _
    refine XS.iloadN X0.here hx rfl (hb hby d1_24) rfl ?_
    show Steps p.tables e below (s₁.setTop (mkF m 25 #[.val (.int (2 : Int32)), .val (.int ya), .val (.int yb), .val (.int yc), .val (.int ((ya &&& (255 : Int32)).toUInt32.toUInt16.toUInt32.toInt32)), .val (.int ((yb &&& (255 : Int32)).toUInt32.toUInt16.toUInt32.toInt32)), .val (.int ((yc &&& (255 : Int32)).toUInt32.toUInt16.toUInt32.toInt32))] [(.int (2 : Int32))])) _
    refine XS.ifYes X0.here hx rfl (pc0 := 25) (pc' := 39) rfl (hb hby d1_25) rfl ((if0 _ _).trans (feq hd1).2) (by decide) (by decide) ?_
    show Steps p.tables e below (s₁.setTop (mkF m 39 #[.val (.int (2 : Int32)), .val (.int ya), .val (.int yb), .val (.int yc), .val (.int ((ya &&& (255 : Int32)).toUInt32.toUInt16.toUInt32.toInt32)), .val (.int ((yb &&& (255 : Int32)).toUInt32.toUInt16.toUInt32.toInt32)), .val (.int ((yc &&& (255 : Int32)).toUInt32.toUInt16.toUInt32.toInt32))] [])) _
    refine XS.iloadN X0.here hx rfl (hb hby d1_39) rfl ?_
    show Steps p.tables e below (s₁.setTop (mkF m 40 #[.val (.int (2 : Int32)), .val (.int ya), .val (.int yb), .val (.int yc), .val (.int ((ya &&& (255 : Int32)).toUInt32.toUInt16.toUInt32.toInt32)), .val (.int ((yb &&& (255 : Int32)).toUInt32.toUInt16.toUInt32.toInt32)), .val (.int ((yc &&& (255 : Int32)).toUInt32.toUInt16.toUInt32.toInt32))] [(.int (2 : Int32))])) _
    refine XS.iconst X0.here hx rfl (hb hby d1_40) ?_
    show Steps p.tables e below (s₁.setTop (mkF m 41 #[.val (.int (2 : Int32)), .val (.int ya), .val (.int yb), .val (.int yc), .val (.int ((ya &&& (255 : Int32)).toUInt32.toUInt16.toUInt32.toInt32)), .val (.int ((yb &&& (255 : Int32)).toUInt32.toUInt16.toUInt32.toInt32)), .val (.int ((yc &&& (255 : Int32)).toUInt32.toUInt16.toUInt32.toInt32))] [(.int (1 : Int32)), (.int (2 : Int32))])) _
    refine XS.icmpYes X0.here hx rfl (pc0 := 41) (pc' := 60) rfl (hb hby d1_41) rfl (feq hd2).2 (by decide) (by decide) ?_
    show Steps p.tables e below (s₁.setTop (mkF m 60 #[.val (.int (2 : Int32)), .val (.int ya), .val (.int yb), .val (.int yc), .val (.int ((ya &&& (255 : Int32)).toUInt32.toUInt16.toUInt32.toInt32)), .val (.int ((yb &&& (255 : Int32)).toUInt32.toUInt16.toUInt32.toInt32)), .val (.int ((yc &&& (255 : Int32)).toUInt32.toUInt16.toUInt32.toInt32))] [])) _
    refine XS.iloadN X0.here hx rfl (hb hby d1_60) rfl ?_
    show Steps p.tables e below (s₁.setTop (mkF m 61 #[.val (.int (2 : Int32)), .val (.int ya), .val (.int yb), .val (.int yc), .val (.int ((ya &&& (255 : Int32)).toUInt32.toUInt16.toUInt32.toInt32)), .val (.int ((yb &&& (255 : Int32)).toUInt32.toUInt16.toUInt32.toInt32)), .val (.int ((yc &&& (255 : Int32)).toUInt32.toUInt16.toUInt32.toInt32))] [(.int (2 : Int32))])) _
    refine XS.iconst X0.here hx rfl (hb hby d1_61) ?_
    show Steps p.tables e below (s₁.setTop (mkF m 62 #[.val (.int (2 : Int32)), .val (.int ya), .val (.int yb), .val (.int yc), .val (.int ((ya &&& (255 : Int32)).toUInt32.toUInt16.toUInt32.toInt32)), .val (.int ((yb &&& (255 : Int32)).toUInt32.toUInt16.toUInt32.toInt32)), .val (.int ((yc &&& (255 : Int32)).toUInt32.toUInt16.toUInt32.toInt32))] [(.int (2 : Int32)), (.int (2 : Int32))])) _
    refine XS.icmpNo X0.here hx rfl (hb hby d1_62) rfl (teq hd3).2 ?_
    show Steps p.tables e below (s₁.setTop (mkF m 65 #[.val (.int (2 : Int32)), .val (.int ya), .val (.int yb), .val (.int yc), .val (.int ((ya &&& (255 : Int32)).toUInt32.toUInt16.toUInt32.toInt32)), .val (.int ((yb &&& (255 : Int32)).toUInt32.toUInt16.toUInt32.toInt32)), .val (.int ((yc &&& (255 : Int32)).toUInt32.toUInt16.toUInt32.toInt32))] [])) _
    refine st4 _ ?_
    show Steps p.tables e below (T4.setTop (mkF m 68 #[.val (.int (2 : Int32)), .val (.int ya), .val (.int yb), .val (.int yc), .val (.int ((ya &&& (255 : Int32)).toUInt32.toUInt16.toUInt32.toInt32)), .val (.int ((yb &&& (255 : Int32)).toUInt32.toUInt16.toUInt32.toInt32)), .val (.int ((yc &&& (255 : Int32)).toUInt32.toUInt16.toUInt32.toInt32))] [(.ref b4)])) _
    refine XS.dup X4.here hx rfl (hb hby d1_68) rfl rfl ?_
    show Steps p.tables e below (T4.setTop (mkF m 69 #[.val (.int (2 : Int32)), .val (.int ya), .val (.int yb), .val (.int yc), .val (.int ((ya &&& (255 : Int32)).toUInt32.toUInt16.toUInt32.toInt32)), .val (.int ((yb &&& (255 : Int32)).toUInt32.toUInt16.toUInt32.toInt32)), .val (.int ((yc &&& (255 : Int32)).toUInt32.toUInt16.toUInt32.toInt32))] [(.ref b4), (.ref b4)])) _
    refine XS.iconst X4.here hx rfl (hb hby d1_69) ?_
    show Steps p.tables e below (T4.setTop (mkF m 70 #[.val (.int (2 : Int32)), .val (.int ya), .val (.int yb), .val (.int yc), .val (.int ((ya &&& (255 : Int32)).toUInt32.toUInt16.toUInt32.toInt32)), .val (.int ((yb &&& (255 : Int32)).toUInt32.toUInt16.toUInt32.toInt32)), .val (.int ((yc &&& (255 : Int32)).toUInt32.toUInt16.toUInt32.toInt32))] [(.int (2 : Int32)), (.ref b4), (.ref b4)])) _
    refine st5 _ ?_
    show Steps p.tables e below (T5.setTop (mkF m 72 #[.val (.int (2 : Int32)), .val (.int ya), .val (.int yb), .val (.int yc), .val (.int ((ya &&& (255 : Int32)).toUInt32.toUInt16.toUInt32.toInt32)), .val (.int ((yb &&& (255 : Int32)).toUInt32.toUInt16.toUInt32.toInt32)), .val (.int ((yc &&& (255 : Int32)).toUInt32.toUInt16.toUInt32.toInt32))] [(.ref b5), (.ref b4), (.ref b4)])) _
    refine XS.dup X5.here hx rfl (hb hby d1_72) rfl rfl ?_
    show Steps p.tables e below (T5.setTop (mkF m 73 #[.val (.int (2 : Int32)), .val (.int ya), .val (.int yb), .val (.int yc), .val (.int ((ya &&& (255 : Int32)).toUInt32.toUInt16.toUInt32.toInt32)), .val (.int ((yb &&& (255 : Int32)).toUInt32.toUInt16.toUInt32.toInt32)), .val (.int ((yc &&& (255 : Int32)).toUInt32.toUInt16.toUInt32.toInt32))] [(.ref b5), (.ref b5), (.ref b4), (.ref b4)])) _
    refine XS.iconst X5.here hx rfl (hb hby d1_73) ?_
    show Steps p.tables e below (T5.setTop (mkF m 74 #[.val (.int (2 : Int32)), .val (.int ya), .val (.int yb), .val (.int yc), .val (.int ((ya &&& (255 : Int32)).toUInt32.toUInt16.toUInt32.toInt32)), .val (.int ((yb &&& (255 : Int32)).toUInt32.toUInt16.toUInt32.toInt32)), .val (.int ((yc &&& (255 : Int32)).toUInt32.toUInt16.toUInt32.toInt32))] [(.int (0 : Int32)), (.ref b5), (.ref b5), (.ref b4), (.ref b4)])) _
    refine XS.iload X5.here hx rfl (hb hby d1_74) rfl ?_
    show Steps p.tables e below (T5.setTop (mkF m 76 #[.val (.int (2 : Int32)), .val (.int ya), .val (.int yb), .val (.int yc), .val (.int ((ya &&& (255 : Int32)).toUInt32.toUInt16.toUInt32.toInt32)), .val (.int ((yb &&& (255 : Int32)).toUInt32.toUInt16.toUInt32.toInt32)), .val (.int ((yc &&& (255 : Int32)).toUInt32.toUInt16.toUInt32.toInt32))] [(.int ((ya &&& (255 : Int32)).toUInt32.toUInt16.toUInt32.toInt32)), (.int (0 : Int32)), (.ref b5), (.ref b5), (.ref b4), (.ref b4)])) _
    refine st7 _ ?_
    show Steps p.tables e below (T7.setTop (mkF m 77 #[.val (.int (2 : Int32)), .val (.int ya), .val (.int yb), .val (.int yc), .val (.int ((ya &&& (255 : Int32)).toUInt32.toUInt16.toUInt32.toInt32)), .val (.int ((yb &&& (255 : Int32)).toUInt32.toUInt16.toUInt32.toInt32)), .val (.int ((yc &&& (255 : Int32)).toUInt32.toUInt16.toUInt32.toInt32))] [(.ref b5), (.ref b4), (.ref b4)])) _
    refine XS.dup X7.here hx rfl (hb hby d1_77) rfl rfl ?_
    show Steps p.tables e below (T7.setTop (mkF m 78 #[.val (.int (2 : Int32)), .val (.int ya), .val (.int yb), .val (.int yc), .val (.int ((ya &&& (255 : Int32)).toUInt32.toUInt16.toUInt32.toInt32)), .val (.int ((yb &&& (255 : Int32)).toUInt32.toUInt16.toUInt32.toInt32)), .val (.int ((yc &&& (255 : Int32)).toUInt32.toUInt16.toUInt32.toInt32))] [(.ref b5), (.ref b5), (.ref b4), (.ref b4)])) _
    refine XS.iconst X7.here hx rfl (hb hby d1_78) ?_
    show Steps p.tables e below (T7.setTop (mkF m 79 #[.val (.int (2 : Int32)), .val (.int ya), .val (.int yb), .val (.int yc), .val (.int ((ya &&& (255 : Int32)).toUInt32.toUInt16.toUInt32.toInt32)), .val (.int ((yb &&& (255 : Int32)).toUInt32.toUInt16.toUInt32.toInt32)), .val (.int ((yc &&& (255 : Int32)).toUInt32.toUInt16.toUInt32.toInt32))] [(.int (1 : Int32)), (.ref b5), (.ref b5), (.ref b4), (.ref b4)])) _
    refine XS.iload X7.here hx rfl (hb hby d1_79) rfl ?_
    show Steps p.tables e below (T7.setTop (mkF m 81 #[.val (.int (2 : Int32)), .val (.int ya), .val (.int yb), .val (.int yc), .val (.int ((ya &&& (255 : Int32)).toUInt32.toUInt16.toUInt32.toInt32)), .val (.int ((yb &&& (255 : Int32)).toUInt32.toUInt16.toUInt32.toInt32)), .val (.int ((yc &&& (255 : Int32)).toUInt32.toUInt16.toUInt32.toInt32))] [(.int ((yb &&& (255 : Int32)).toUInt32.toUInt16.toUInt32.toInt32)), (.int (1 : Int32)), (.ref b5), (.ref b5), (.ref b4), (.ref b4)])) _
    refine st9 _ ?_
    show Steps p.tables e below (T9.setTop (mkF m 82 #[.val (.int (2 : Int32)), .val (.int ya), .val (.int yb), .val (.int yc), .val (.int ((ya &&& (255 : Int32)).toUInt32.toUInt16.toUInt32.toInt32)), .val (.int ((yb &&& (255 : Int32)).toUInt32.toUInt16.toUInt32.toInt32)), .val (.int ((yc &&& (255 : Int32)).toUInt32.toUInt16.toUInt32.toInt32))] [(.ref b5), (.ref b4), (.ref b4)])) _
    refine st10.trans ?_
    show Steps p.tables e below (T10.setTop (mkF m 85 #[.val (.int (2 : Int32)), .val (.int ya), .val (.int yb), .val (.int yc), .val (.int ((ya &&& (255 : Int32)).toUInt32.toUInt16.toUInt32.toInt32)), .val (.int ((yb &&& (255 : Int32)).toUInt32.toUInt16.toUInt32.toInt32)), .val (.int ((yc &&& (255 : Int32)).toUInt32.toUInt16.toUInt32.toInt32))] [(.ref b4)])) _
    exact kt
  obtain ⟨fs, hr, hrun, hended, hW, hsame⟩ := X10.leave (v := some (.ref b4)) (fun h => by rw [Bd.returns] at h; cases h)
  refine ⟨_, _, k11 _ ?_, hrun, hended, _, _, rfl, ?_, ⟨_, rfl⟩, hW, hsame.mono (by decide) (by decide)⟩
  · exact own_retA X10 hx Bd.returns rfl (hb hby d1_85) hr
  · show QDraw Z [((ya &&& (255 : Int32)).toUInt32.toUInt16.toUInt32.toInt32), ((yb &&& (255 : Int32)).toUInt32.toUInt16.toUInt32.toInt32)] h0 n0 _ T10.heap _
    exact ⟨N10, KP10, b4, bt10, kb10, rfl, sz_b4, E10x, C10x, F10x, V10x⟩
theorem d1_86 : decode method_2_code 86 = .ok (.new 7, 3) := by decide +kernel
theorem d1_89 : decode method_2_code 89 = .ok (.dup, 1) := by decide +kernel
theorem d1_90 : decode method_2_code 90 = .ok (.iconst 3, 1) := by decide +kernel
theorem d1_91 : decode method_2_code 91 = .ok (.newarray .char, 2) := by decide +kernel
theorem d1_93 : decode method_2_code 93 = .ok (.dup, 1) := by decide +kernel
theorem d1_94 : decode method_2_code 94 = .ok (.iconst 0, 1) := by decide +kernel
theorem d1_95 : decode method_2_code 95 = .ok (.iload 4, 2) := by decide +kernel
theorem d1_97 : decode method_2_code 97 = .ok (.castore, 1) := by decide +kernel
theorem d1_98 : decode method_2_code 98 = .ok (.dup, 1) := by decide +kernel
theorem d1_99 : decode method_2_code 99 = .ok (.iconst 1, 1) := by decide +kernel
theorem d1_100 : decode method_2_code 100 = .ok (.iload 5, 2) := by decide +kernel
theorem d1_102 : decode method_2_code 102 = .ok (.castore, 1) := by decide +kernel
theorem d1_103 : decode method_2_code 103 = .ok (.dup, 1) := by decide +kernel
theorem d1_104 : decode method_2_code 104 = .ok (.iconst 2, 1) := by decide +kernel
theorem d1_105 : decode method_2_code 105 = .ok (.iload 6, 2) := by decide +kernel
theorem d1_107 : decode method_2_code 107 = .ok (.castore, 1) := by decide +kernel
theorem d1_108 : decode method_2_code 108 = .ok (.invokespecial 9, 3) := by decide +kernel
theorem d1_111 : decode method_2_code 111 = .ok (.areturn, 1) := by decide +kernel
theorem ef_rmDraw3 (m : MethodId) (ya : Int32) (yb : Int32) (yc : Int32) : entryFrame m #[(.int (3 : Int32)), (.int ya), (.int yb), (.int yc)] 7 = mkF m 0 #[.val (.int (3 : Int32)), .val (.int ya), .val (.int yb), .val (.int yc), .unset, .unset, .unset] [] := by first | (simp [entryFrame, mkF, argsToLocals, Value.category]; done) | rfl
set_option maxRecDepth 65536 in
set_option maxHeartbeats 40000000 in
theorem rmDraw3 (l : Launch) (Z : State) (a0 : Array Value) (hw : ∀ d ∈ tables_1, d.before a0 Z = true) (ws : List Jvm.Cond) (ya : Int32) (yb : Int32) (yc : Int32) (cz : Int32) (h0 : Heap) (n0 : Nat) (Z0 : n0 ≤ h0.size) (S_cs : Sta Z h0 "java/lang/String" "COMPACT_STRINGS" "Z" (.int cz)) (hcz : ¬ cz = 0) :
    MetFree l (⟨"com/example/lifetable/lifetable/output/ColumnOfPinLaw", "draw", "(IIII)Ljava/lang/String;"⟩ : MethodName) (head1 (Jvm.Cond.code (⟨"com/example/lifetable/lifetable/output/ColumnOfPinLaw", "draw", "(IIII)Ljava/lang/String;"⟩ : MethodName) method_2_code 7 (some (.object "java/lang/String")) :: ws) ({ frames := 4, cells := 3, slots := 10, locals := 66 } : Room)) (fun a_ U_ => a_ = #[(.int (3 : Int32)), (.int ya), (.int yb), (.int yc)] ∧ Z.Warmed39 U_.vm ∧ U_.heap = h0) (fun _ _ _ _ _ => True) (fun _ U_ o_ U'_ => ∃ v_ L_, o_ = .returned v_ ∧ QDraw Z [((ya &&& (255 : Int32)).toUInt32.toUInt16.toUInt32.toInt32), ((yb &&& (255 : Int32)).toUInt32.toUInt16.toUInt32.toInt32), ((yc &&& (255 : Int32)).toUInt32.toUInt16.toUInt32.toInt32)] h0 n0 v_ U'_.heap L_ ∧ FrameEnd U_ o_ U'_ L_ ({ frames := 4, cells := 3, slots := 10, locals := 66 } : Room).cells ({ frames := 4, cells := 3, slots := 10, locals := 66 } : Room).slots) := by
  refine MetFree.of_bodySF (plainFor_of_name pn_1) hisR ?_
  intro p e s m args below meth c s₁ Bd hml0 hP hK
  obtain ⟨rfl, hZ, hh⟩ := hP
  have hx := Bd.exec
  have hby := Bd.bytes
  have hml : c.maxLocals = 7 := hml0
  have hown : s.vm.findClass "com/example/lifetable/lifetable/output/ColumnOfPinLaw" = some m.cls := findClass_of_methodNamed Bd.named
  have hnm := (name_of_methodNamed Bd.named Bd.method).1
  have X0 : Stand p l e ({ frames := 4, cells := 3, slots := 10, locals := 66 } : Room) s m #[(.int (3 : Int32)), (.int ya), (.int yb), (.int yc)] below meth c s₁ [] 0 0 := Stand.of_body Bd
  have e0 : s₁.heap = h0 := by rw [← hh, Bd.state]; rfl
  have N0 := Fr.nil n0
  have k0 : ∀ tg, Steps p.tables e below (s₁.setTop (mkF m 0 #[.val (.int (3 : Int32)), .val (.int ya), .val (.int yb), .val (.int yc), .unset, .unset, .unset] [])) tg → Steps p.tables e below (s₁.setTop (entryFrame m #[(.int (3 : Int32)), (.int ya), (.int yb), (.int yc)] 7)) tg := fun tg kq_ => castTop (ef_rmDraw3 m ya yb yc) kq_
  have hd1 : ¬ ((3 : Int32) = (0 : Int32)) := by decide
  have hd2 : ¬ ((3 : Int32) = (1 : Int32)) := by decide
  have hd3 : ¬ ((3 : Int32) = (2 : Int32)) := by decide
  obtain ⟨T4, h4, X4, e4, E4, A4, D4, -, st4⟩ := newO X0 hx hZ hown (hw _ (List.mem_of_getElem? (i := 4) rfl)) (hw _ (List.mem_of_getElem? (i := 5) rfl)) (hw _ (List.mem_of_getElem? (i := 6) rfl)) e0 (g := (mkF m 86 #[.val (.int (3 : Int32)), .val (.int ya), .val (.int yb), .val (.int yc), .val (.int ((ya &&& (255 : Int32)).toUInt32.toUInt16.toUInt32.toInt32)), .val (.int ((yb &&& (255 : Int32)).toUInt32.toUInt16.toUInt32.toInt32)), .val (.int ((yc &&& (255 : Int32)).toUInt32.toUInt16.toUInt32.toInt32))] [])) rfl (hb hby d1_86) (by decide) (by decide)
  obtain ⟨b4, g4⟩ : ∃ z, z = h0.size := ⟨_, rfl⟩
  have g_b4 : n0 ≤ b4 := Nat.le_trans Z0 (Nat.le_of_eq g4.symm)
  have sz_b4 : h0.size ≤ b4 := Nat.le_trans (Keep.refl h0 []).1 (Nat.le_of_eq g4.symm)
  rw [← g4] at A4 D4 st4
  have Z4 := Nat.le_trans Z0 E4.1
  have KP4 := (Keep.refl h0 []).ext E4
  have F_coder_b4 : Fld Z h4 b4 "java/lang/String" "coder" "B" (.int (0 : Int32)) := D4 (Or.inr (hw _ (List.mem_of_getElem? (i := 31) rfl))) (ty := .byte) (by decide)
  have F_value_b4 : Fld Z h4 b4 "java/lang/String" "value" "[B" .null := D4 (Or.inr (hw _ (List.mem_of_getElem? (i := 33) rfl))) (ty := (.array .byte)) (by decide)
  obtain ⟨T5, h5, c5, X5, e5, E5, A5, st5⟩ := newP X4 hx hZ (hw _ (List.mem_of_getElem? (i := 7) rfl)) e4 (g := (mkF m 91 #[.val (.int (3 : Int32)), .val (.int ya), .val (.int yb), .val (.int yc), .val (.int ((ya &&& (255 : Int32)).toUInt32.toUInt16.toUInt32.toInt32)), .val (.int ((yb &&& (255 : Int32)).toUInt32.toUInt16.toUInt32.toInt32)), .val (.int ((yc &&& (255 : Int32)).toUInt32.toUInt16.toUInt32.toInt32))] [(.int (3 : Int32)), (.ref b4), (.ref b4)])) rfl (hb hby d1_91) rfl (by decide) (cap := 3) (by decide) (by decide) (by decide) (by decide)
  obtain ⟨b5, g5⟩ : ∃ z, z = h4.size := ⟨_, rfl⟩
  have ne_b4_b5 : b4 ≠ b5 := Nat.ne_of_lt (Nat.lt_of_lt_of_le A4.lt (Nat.le_of_eq g5.symm))
  have g_b5 : n0 ≤ b5 := Nat.le_trans Z4 (Nat.le_of_eq g5.symm)
  have sz_b5 : h0.size ≤ b5 := Nat.le_trans KP4.1 (Nat.le_of_eq g5.symm)
  rw [← g5] at A5 st5
  have E5_b4 := A4.ext E5
  have F5_b4_coder := F_coder_b4.ext E5
  have F5_b4_value := F_value_b4.ext E5
  have Z5 := Nat.le_trans Z4 E5.1
  have KP5 := KP4.ext E5
  have V_b5 : Arv Z h5 b5 c5 .char (3 : Int32) [(.int (0 : Int32)), (.int (0 : Int32)), (.int (0 : Int32))] (.int (0 : Int32)) := (Arv.new A5 (by decide)).pad (pad_rep [] (.int (0 : Int32)) 3)
  obtain ⟨cl97_6, Ar97_6, q97_6, S97_6, N97_6_, H97_6, G97_6⟩ := id V_b5
  have hin97_6 : ¬ ((0 : Int32) < 0 ∨ cl97_6.slots.size ≤ ((0 : Int32)).toNatClampNeg) := inb_of S97_6 ⟨by decide, by decide⟩
  obtain ⟨T7, h7, X7, e7, W7, st7⟩ := stC X5 hx hZ e5 Ar97_6 (j := (0 : Int32)) hin97_6 (g := (mkF m 97 #[.val (.int (3 : Int32)), .val (.int ya), .val (.int yb), .val (.int yc), .val (.int ((ya &&& (255 : Int32)).toUInt32.toUInt16.toUInt32.toInt32)), .val (.int ((yb &&& (255 : Int32)).toUInt32.toUInt16.toUInt32.toInt32)), .val (.int ((yc &&& (255 : Int32)).toUInt32.toUInt16.toUInt32.toInt32))] [(.int ((ya &&& (255 : Int32)).toUInt32.toUInt16.toUInt32.toInt32)), (.int (0 : Int32)), (.ref b5), (.ref b5), (.ref b4), (.ref b4)])) rfl rfl (hb hby d1_97)
  have E7_b4 := E5_b4.wr W7
  have F7_b4_coder := F5_b4_coder.other W7 (Or.inl ne_b4_b5)
  have F7_b4_value := F5_b4_value.other W7 (Or.inl ne_b4_b5)
  have Z7 := Nat.le_trans Z5 (Keep.of_wr W7).1
  have KP7 := KP5.wr W7 (Or.inr sz_b5)
  have N7 := Fr.snoc X7 N0 g_b5
  have V7_b5 : Arv Z h7 b5 c5 .char (3 : Int32) [(.int (nar .char ((ya &&& (255 : Int32)).toUInt32.toUInt16.toUInt32.toInt32))), (.int (0 : Int32)), (.int (0 : Int32))] (.int (0 : Int32)) := Arv.set Ar97_6 q97_6 S97_6 N97_6_ H97_6 G97_6 (fits_nar_char _) W7 0 rfl (Nat.le_of_ble_eq_true rfl)
  obtain ⟨cl102_8, Ar102_8, q102_8, S102_8, N102_8_, H102_8, G102_8⟩ := id V7_b5
  have hin102_8 : ¬ ((1 : Int32) < 0 ∨ cl102_8.slots.size ≤ ((1 : Int32)).toNatClampNeg) := inb_of S102_8 ⟨by decide, by decide⟩
  obtain ⟨T9, h9, X9, e9, W9, st9⟩ := stC X7 hx hZ e7 Ar102_8 (j := (1 : Int32)) hin102_8 (g := (mkF m 102 #[.val (.int (3 : Int32)), .val (.int ya), .val (.int yb), .val (.int yc), .val (.int ((ya &&& (255 : Int32)).toUInt32.toUInt16.toUInt32.toInt32)), .val (.int ((yb &&& (255 : Int32)).toUInt32.toUInt16.toUInt32.toInt32)), .val (.int ((yc &&& (255 : Int32)).toUInt32.toUInt16.toUInt32.toInt32))] [(.int ((yb &&& (255 : Int32)).toUInt32.toUInt16.toUInt32.toInt32)), (.int (1 : Int32)), (.ref b5), (.ref b5), (.ref b4), (.ref b4)])) rfl rfl (hb hby d1_102)
  have E9_b4 := E7_b4.wr W9
  have F9_b4_coder := F7_b4_coder.other W9 (Or.inl ne_b4_b5)
  have F9_b4_value := F7_b4_value.other W9 (Or.inl ne_b4_b5)
  have Z9 := Nat.le_trans Z7 (Keep.of_wr W9).1
  have KP9 := KP7.wr W9 (Or.inr sz_b5)
  have N9 := Fr.snoc X9 N7 g_b5
  have V9_b5 : Arv Z h9 b5 c5 .char (3 : Int32) [(.int (nar .char ((ya &&& (255 : Int32)).toUInt32.toUInt16.toUInt32.toInt32))), (.int (nar .char ((yb &&& (255 : Int32)).toUInt32.toUInt16.toUInt32.toInt32))), (.int (0 : Int32))] (.int (0 : Int32)) := Arv.set Ar102_8 q102_8 S102_8 N102_8_ H102_8 G102_8 (fits_nar_char _) W9 1 rfl (Nat.le_of_ble_eq_true rfl)
  obtain ⟨cl107_10, Ar107_10, q107_10, S107_10, N107_10_, H107_10, G107_10⟩ := id V9_b5
  have hin107_10 : ¬ ((2 : Int32) < 0 ∨ cl107_10.slots.size ≤ ((2 : Int32)).toNatClampNeg) := inb_of S107_10 ⟨by decide, by decide⟩
  obtain ⟨T11, h11, X11, e11, W11, st11⟩ := stC X9 hx hZ e9 Ar107_10 (j := (2 : Int32)) hin107_10 (g := (mkF m 107 #[.val (.int (3 : Int32)), .val (.int ya), .val (.int yb), .val (.int yc), .val (.int ((ya &&& (255 : Int32)).toUInt32.toUInt16.toUInt32.toInt32)), .val (.int ((yb &&& (255 : Int32)).toUInt32.toUInt16.toUInt32.toInt32)), .val (.int ((yc &&& (255 : Int32)).toUInt32.toUInt16.toUInt32.toInt32))] [(.int ((yc &&& (255 : Int32)).toUInt32.toUInt16.toUInt32.toInt32)), (.int (2 : Int32)), (.ref b5), (.ref b5), (.ref b4), (.ref b4)])) rfl rfl (hb hby d1_107)
  have E11_b4 := E9_b4.wr W11
  have F11_b4_coder := F9_b4_coder.other W11 (Or.inl ne_b4_b5)
  have F11_b4_value := F9_b4_value.other W11 (Or.inl ne_b4_b5)
  have Z11 := Nat.le_trans Z9 (Keep.of_wr W11).1
  have KP11 := KP9.wr W11 (Or.inr sz_b5)
  have N11 := Fr.snoc X11 N9 g_b5
  have V11_b5 : Arv Z h11 b5 c5 .char (3 : Int32) [(.int (nar .char ((ya &&& (255 : Int32)).toUInt32.toUInt16.toUInt32.toInt32))), (.int (nar .char ((yb &&& (255 : Int32)).toUInt32.toUInt16.toUInt32.toInt32))), (.int (nar .char ((yc &&& (255 : Int32)).toUInt32.toUInt16.toUInt32.toInt32)))] (.int (0 : Int32)) := Arv.set Ar107_10 q107_10 S107_10 N107_10_ H107_10 G107_10 (fits_nar_char _) W11 2 rfl (Nat.le_of_ble_eq_true rfl)
  have Vc : Arv Z h11 b5 c5 .char (3 : Int32) [(.int ((ya &&& (255 : Int32)).toUInt32.toUInt16.toUInt32.toInt32)), (.int ((yb &&& (255 : Int32)).toUInt32.toUInt16.toUInt32.toInt32)), (.int ((yc &&& (255 : Int32)).toUInt32.toUInt16.toUInt32.toInt32))] (.int (0 : Int32)) := by simpa only [own_nar] using V11_b5
  have hp : ∀ c ∈ ([((ya &&& (255 : Int32)).toUInt32.toUInt16.toUInt32.toInt32), ((yb &&& (255 : Int32)).toUInt32.toUInt16.toUInt32.toInt32), ((yc &&& (255 : Int32)).toUInt32.toUInt16.toUInt32.toInt32)] : List Int32), ¬ c < 0 ∧ ¬ (255 : Int32) < c := by
    intro c hc
    simp only [List.mem_cons, List.not_mem_nil, or_false] at hc
    rcases hc with rfl | rfl | rfl
    · exact own_255 _
    · exact own_255 _
    · exact own_255 _
  have hws : ∀ d ∈ StrChars.Road.words, d.before a0 Z = true := fun d hd => hw d ((by decide +kernel : ∀ d ∈ StrChars.Road.words, d ∈ tables_1) d hd)
  obtain ⟨_, _, ⟨T12, L12, k12, n12⟩, -, X12, ⟨Lc12, hQ12, l12, y12, z12⟩, st12⟩ := X11.specialBack hx (y := (⟨"java/lang/String", "<init>", "([C)V"⟩ : MethodName)) rfl hown (mvT hZ (hw _ (List.mem_of_getElem? (i := 8) rfl))) (mvT hZ (hw _ (List.mem_of_getElem? (i := 9) rfl))) (mvT hZ (hw _ (List.mem_of_getElem? (i := 10) rfl))) (by decide) (StrChars.Road.backV (W := 1) hZ hws (kI := 4) (hw _ (List.mem_of_getElem? (i := 5) rfl)) (cs := ([((ya &&& (255 : Int32)).toUInt32.toUInt16.toUInt32.toInt32), ((yb &&& (255 : Int32)).toUInt32.toUInt16.toUInt32.toInt32), ((yc &&& (255 : Int32)).toUInt32.toUInt16.toUInt32.toInt32)] : List Int32)) (bs := ([((ya &&& (255 : Int32)).toUInt32.toUInt16.toUInt32.toInt32), ((yb &&& (255 : Int32)).toUInt32.toUInt16.toUInt32.toInt32), ((yc &&& (255 : Int32)).toUInt32.toUInt16.toUInt32.toInt32)] : List Int32).map (fun c => c.toInt8.toInt32)) (n := 3) g_b4 Z11 E11_b4 F11_b4_value F11_b4_coder Vc (S_cs.ext (own_extK KP11)) hcz rfl rfl (by decide) (by decide) hp rfl (by decide) (by decide)) (g := (mkF m 108 #[.val (.int (3 : Int32)), .val (.int ya), .val (.int yb), .val (.int yc), .val (.int ((ya &&& (255 : Int32)).toUInt32.toUInt16.toUInt32.toInt32)), .val (.int ((yb &&& (255 : Int32)).toUInt32.toUInt16.toUInt32.toInt32)), .val (.int ((yc &&& (255 : Int32)).toUInt32.toUInt16.toUInt32.toInt32))] [(.ref b5), (.ref b4), (.ref b4)])) rfl (by rw [hml]; rfl) (Steps.refl _) (a := b4) (argsL := [(.ref b5)]) (rest := [(.ref b4)]) (lenOf pd_0 rfl) rfl (by show 2 * 0 + _ ≤ _; exact Nat.le_of_eq rfl) (hb hby d1_108) (fun _ _ => ⟨rfl, e11, (by decide : 2 + 1 ≤ _), (by decide : 7 + 3 ≤ _)⟩)
  dsimp only [Pt.U, Pt.locs, Pt.cells, Pt.slots] at X12 l12 y12 z12 st12 hQ12
  subst l12 y12 z12
  obtain ⟨rfl, N12q, K12, E12x, C12x, bt12, kb12, -, le12, -, F12x, V12x⟩ := hQ12
  have N12 := Fr.app N11 N12q
  have ne_b4_bt12 : b4 ≠ bt12 := Nat.ne_of_lt (Nat.lt_of_lt_of_le E11_b4.lt le12)
  have ne_b5_bt12 : b5 ≠ bt12 := Nat.ne_of_lt (Nat.lt_of_lt_of_le V11_b5.lt le12)
  have g_bt12 : n0 ≤ bt12 := Nat.le_trans Z11 le12
  have sz_bt12 : h0.size ≤ bt12 := Nat.le_trans KP11.1 le12
  have V12_b5 := V11_b5.keep K12 (ninS (Ne.symm ne_b4_b5) nin0)
  have Z12 := Nat.le_trans Z11 K12.1
  have KP12 := KP11.trans K12 (allS (Or.inr sz_b4) all0)
  have k13 : ∀ tg, Steps p.tables e below (T12.setTop (mkF m 111 #[.val (.int (3 : Int32)), .val (.int ya), .val (.int yb), .val (.int yc), .val (.int ((ya &&& (255 : Int32)).toUInt32.toUInt16.toUInt32.toInt32)), .val (.int ((yb &&& (255 : Int32)).toUInt32.toUInt16.toUInt32.toInt32)), .val (.int ((yc &&& (255 : Int32)).toUInt32.toUInt16.toUInt32.toInt32))] [(.ref b4)])) tg → Steps p.tables e below (s₁.setTop (entryFrame m #[(.int (3 : Int32)), (.int ya), (.int yb), (.int yc)] 7)) tg := by
    intro tg kt
    refine k0 tg ?_
    show Steps p.tables e below (s₁.setTop (mkF m 0 #[.val (.int (3 : Int32)), .val (.int ya), .val (.int yb), .val (.int yc), .unset, .unset, .unset] [])) _
    refine XS.iloadN X0.here hx rfl (hb hby d1_0) rfl ?_
    show Steps p.tables e below (s₁.setTop (mkF m 1 #[.val (.int (3 : Int32)), .val (.int ya), .val (.int yb), .val (.int yc), .unset, .unset, .unset] [(.int ya)])) _
    refine XS.sipush X0.here hx rfl (hb hby d1_1) ?_
    show Steps p.tables e below (s₁.setTop (mkF m 4 #[.val (.int (3 : Int32)), .val (.int ya), .val (.int yb), .val (.int yc), .unset, .unset, .unset] [(.int (255 : Int32)), (.int ya)])) _
    refine XS.iand X0.here hx rfl (hb hby d1_4) rfl ?_
    show Steps p.tables e below (s₁.setTop (mkF m 5 #[.val (.int (3 : Int32)), .val (.int ya), .val (.int yb), .val (.int yc), .unset, .unset, .unset] [(.int (ya &&& (255 : Int32)))])) _
    refine XS.i2c X0.here hx rfl (hb hby d1_5) rfl ?_
    show Steps p.tables e below (s₁.setTop (mkF m 6 #[.val (.int (3 : Int32)), .val (.int ya), .val (.int yb), .val (.int yc), .unset, .unset, .unset] [(.int ((ya &&& (255 : Int32)).toUInt32.toUInt16.toUInt32.toInt32))])) _
    refine XS.istore X0.here hx rfl (hb hby d1_6) rfl (l' := #[.val (.int (3 : Int32)), .val (.int ya), .val (.int yb), .val (.int yc), .val (.int ((ya &&& (255 : Int32)).toUInt32.toUInt16.toUInt32.toInt32)), .unset, .unset]) rfl ?_
    show Steps p.tables e below (s₁.setTop (mkF m 8 #[.val (.int (3 : Int32)), .val (.int ya), .val (.int yb), .val (.int yc), .val (.int ((ya &&& (255 : Int32)).toUInt32.toUInt16.toUInt32.toInt32)), .unset, .unset] [])) _
    refine XS.iloadN X0.here hx rfl (hb hby d1_8) rfl ?_
    show Steps p.tables e below (s₁.setTop (mkF m 9 #[.val (.int (3 : Int32)), .val (.int ya), .val (.int yb), .val (.int yc), .val (.int ((ya &&& (255 : Int32)).toUInt32.toUInt16.toUInt32.toInt32)), .unset, .unset] [(.int yb)])) _
    refine XS.sipush X0.here hx rfl (hb hby d1_9) ?_
    show Steps p.tables e below (s₁.setTop (mkF m 12 #[.val (.int (3 : Int32)), .val (.int ya), .val (.int yb), .val (.int yc), .val (.int ((ya &&& (255 : Int32)).toUInt32.toUInt16.toUInt32.toInt32)), .unset, .unset] [(.int (255 : Int32)), (.int yb)])) _
    refine XS.iand X0.here hx rfl (hb hby d1_12) rfl ?_
    show Steps p.tables e below (s₁.setTop (mkF m 13 #[.val (.int (3 : Int32)), .val (.int ya), .val (.int yb), .val (.int yc), .val (.int ((ya &&& (255 : Int32)).toUInt32.toUInt16.toUInt32.toInt32)), .unset, .unset] [(.int (yb &&& (255 : Int32)))])) _
    refine XS.i2c X0.here hx rfl (hb hby d1_13) rfl ?_
    show Steps p.tables e below (s₁.setTop (mkF m 14 #[.val (.int (3 : Int32)), .val (.int ya), .val (.int yb), .val (.int yc), .val (.int ((ya &&& (255 : Int32)).toUInt32.toUInt16.toUInt32.toInt32)), .unset, .unset] [(.int ((yb &&& (255 : Int32)).toUInt32.toUInt16.toUInt32.toInt32))])) _
    refine XS.istore X0.here hx rfl (hb hby d1_14) rfl (l' := #[.val (.int (3 : Int32)), .val (.int ya), .val (.int yb), .val (.int yc), .val (.int ((ya &&& (255 : Int32)).toUInt32.toUInt16.toUInt32.toInt32)), .val (.int ((yb &&& (255 : Int32)).toUInt32.toUInt16.toUInt32.toInt32)), .unset]) rfl ?_
    show Steps p.tables e below (s₁.setTop (mkF m 16 #[.val (.int (3 : Int32)), .val (.int ya), .val (.int yb), .val (.int yc), .val (.int ((ya &&& (255 : Int32)).toUInt32.toUInt16.toUInt32.toInt32)), .val (.int ((yb &&& (255 : Int32)).toUInt32.toUInt16.toUInt32.toInt32)), .unset] [])) _
    refine XS.iloadN X0.here hx rfl (hb hby d1_16) rfl ?_
    show Steps p.tables e below (s₁.setTop (mkF m 17 #[.val (.int (3 : Int32)), .val (.int ya), .val (.int yb), .val (.int yc), .val (.int ((ya &&& (255 : Int32)).toUInt32.toUInt16.toUInt32.toInt32)), .val (.int ((yb &&& (255 : Int32)).toUInt32.toUInt16.toUInt32.toInt32)), .unset] [(.int yc)])) _
    refine XS.sipush X0.here hx rfl (hb hby d1_17) ?_
    show Steps p.tables e below (s₁.setTop (mkF m 20 #[.val (.int (3 : Int32)), .val (.int ya), .val (.int yb), .val (.int yc), .val (.int ((ya &&& (255 : Int32)).toUInt32.toUInt16.toUInt32.toInt32)), .val (.int ((yb &&& (255 : Int32)).toUInt32.toUInt16.toUInt32.toInt32)), .unset] [(.int (255 : Int32)), (.int yc)])) _
    refine XS.iand X0.here hx rfl (hb hby d1_20) rfl ?_
    show Steps p.tables e below (s₁.setTop (mkF m 21 #[.val (.int (3 : Int32)), .val (.int ya), .val (.int yb), .val (.int yc), .val (.int ((ya &&& (255 : Int32)).toUInt32.toUInt16.toUInt32.toInt32)), .val (.int ((yb &&& (255 : Int32)).toUInt32.toUInt16.toUInt32.toInt32)), .unset] [(.int (yc &&& (255 : Int32)))])) _
    refine XS.i2c X0.here hx rfl (hb hby d1_21) rfl ?_
    show Steps p.tables e below (s₁.setTop (mkF m 22 #[.val (.int (3 : Int32)), .val (.int ya), .val (.int yb), .val (.int yc), .val (.int ((ya &&& (255 : Int32)).toUInt32.toUInt16.toUInt32.toInt32)), .val (.int ((yb &&& (255 : Int32)).toUInt32.toUInt16.toUInt32.toInt32)), .unset] [(.int ((yc &&& (255 : Int32)).toUInt32.toUInt16.toUInt32.toInt32))])) _
    refine XS.istore X0.here hx rfl (hb hby d1_22) rfl (l' := #[.val (.int (3 : Int32)), .val (.int ya), .val (.int yb), .val (.int yc), .val (.int ((ya &&& (255 : Int32)).toUInt32.toUInt16.toUInt32.toInt32)), .val (.int ((yb &&& (255 : Int32)).toUInt32.toUInt16.toUInt32.toInt32)), .val (.int ((yc &&& (255 : Int32)).toUInt32.toUInt16.toUInt32.toInt32))]) rfl ?_
    show Steps p.tables e below (s₁.setTop (mkF m 24 #[.val (.int (3 : Int32)), .val (.int ya), .val (.int yb), .val (.int yc), .val (.int ((ya &&& (255 : Int32)).toUInt32.toUInt16.toUInt32.toInt32)), .val (.int ((yb &&& (255 : Int32)).toUInt32.toUInt16.toUInt32.toInt32)), .val (.int ((yc &&& (255 : Int32)).toUInt32.toUInt16.toUInt32.toInt32))] [])) _
    refine XS.iloadN X0.here hx rfl (hb hby d1_24) rfl ?_
    show Steps p.tables e below (s₁.setTop (mkF m 25 #[.val (.int (3 : Int32)), .val (.int ya), .val (.int yb), .val (.int yc), .val (.int ((ya &&& (255 : Int32)).toUInt32.toUInt16.toUInt32.toInt32)), .val (.int ((yb &&& (255 : Int32)).toUInt32.toUInt16.toUInt32.toInt32)), .val (.int ((yc &&& (255 : Int32)).toUInt32.toUInt16.toUInt32.toInt32))] [(.int (3 : Int32))])) _
    refine XS.ifYes X0.here hx rfl (pc0 := 25) (pc' := 39) rfl (hb hby d1_25) rfl ((if0 _ _).trans (feq hd1).2) (by decide) (by decide) ?_
    show Steps p.tables e below (s₁.setTop (mkF m 39 #[.val (.int (3 : Int32)), .val (.int ya), .val (.int yb), .val (.int yc), .val (.int ((ya &&& (255 : Int32)).toUInt32.toUInt16.toUInt32.toInt32)), .val (.int ((yb &&& (255 : Int32)).toUInt32.toUInt16.toUInt32.toInt32)), .val (.int ((yc &&& (255 : Int32)).toUInt32.toUInt16.toUInt32.toInt32))] [])) _
    refine XS.iloadN X0.here hx rfl (hb hby d1_39) rfl ?_
    show Steps p.tables e below (s₁.setTop (mkF m 40 #[.val (.int (3 : Int32)), .val (.int ya), .val (.int yb), .val (.int yc), .val (.int ((ya &&& (255 : Int32)).toUInt32.toUInt16.toUInt32.toInt32)), .val (.int ((yb &&& (255 : Int32)).toUInt32.toUInt16.toUInt32.toInt32)), .val (.int ((yc &&& (255 : Int32)).toUInt32.toUInt16.toUInt32.toInt32))] [(.int (3 : Int32))])) _
    refine XS.iconst X0.here hx rfl (hb hby d1_40) ?_
    show Steps p.tables e below (s₁.setTop (mkF m 41 #[.val (.int (3 : Int32)), .val (.int ya), .val (.int yb), .val (.int yc), .val (.int ((ya &&& (255 : Int32)).toUInt32.toUInt16.toUInt32.toInt32)), .val (.int ((yb &&& (255 : Int32)).toUInt32.toUInt16.toUInt32.toInt32)), .val (.int ((yc &&& (255 : Int32)).toUInt32.toUInt16.toUInt32.toInt32))] [(.int (1 : Int32)), (.int (3 : Int32))])) _
    refine XS.icmpYes X0.here hx rfl (pc0 := 41) (pc' := 60) rfl (hb hby d1_41) rfl (feq hd2).2 (by decide) (by decide) ?_
    show Steps p.tables e below (s₁.setTop (mkF m 60 #[.val (.int (3 : Int32)), .val (.int ya), .val (.int yb), .val (.int yc), .val (.int ((ya &&& (255 : Int32)).toUInt32.toUInt16.toUInt32.toInt32)), .val (.int ((yb &&& (255 : Int32)).toUInt32.toUInt16.toUInt32.toInt32)), .val (.int ((yc &&& (255 : Int32)).toUInt32.toUInt16.toUInt32.toInt32))] [])) _
    refine XS.iloadN X0.here hx rfl (hb hby d1_60) rfl ?_
    show Steps p.tables e below (s₁.setTop (mkF m 61 #[.val (.int (3 : Int32)), .val (.int ya), .val (.int yb), .val (.int yc), .val (.int ((ya &&& (255 : Int32)).toUInt32.toUInt16.toUInt32.toInt32)), .val (.int ((yb &&& (255 : Int32)).toUInt32.toUInt16.toUInt32.toInt32)), .val (.int ((yc &&& (255 : Int32)).toUInt32.toUInt16.toUInt32.toInt32))] [(.int (3 : Int32))])) _
    refine XS.iconst X0.here hx rfl (hb hby d1_61) ?_
    show Steps p.tables e below (s₁.setTop (mkF m 62 #[.val (.int (3 : Int32)), .val (.int ya), .val (.int yb), .val (.int yc), .val (.int ((ya &&& (255 : Int32)).toUInt32.toUInt16.toUInt32.toInt32)), .val (.int ((yb &&& (255 : Int32)).toUInt32.toUInt16.toUInt32.toInt32)), .val (.int ((yc &&& (255 : Int32)).toUInt32.toUInt16.toUInt32.toInt32))] [(.int (2 : Int32)), (.int (3 : Int32))])) _
    refine XS.icmpYes X0.here hx rfl (pc0 := 62) (pc' := 86) rfl (hb hby d1_62) rfl (feq hd3).2 (by decide) (by decide) ?_
    show Steps p.tables e below (s₁.setTop (mkF m 86 #[.val (.int (3 : Int32)), .val (.int ya), .val (.int yb), .val (.int yc), .val (.int ((ya &&& (255 : Int32)).toUInt32.toUInt16.toUInt32.toInt32)), .val (.int ((yb &&& (255 : Int32)).toUInt32.toUInt16.toUInt32.toInt32)), .val (.int ((yc &&& (255 : Int32)).toUInt32.toUInt16.toUInt32.toInt32))] [])) _
    refine st4 _ ?_
    show Steps p.tables e below (T4.setTop (mkF m 89 #[.val (.int (3 : Int32)), .val (.int ya), .val (.int yb), .val (.int yc), .val (.int ((ya &&& (255 : Int32)).toUInt32.toUInt16.toUInt32.toInt32)), .val (.int ((yb &&& (255 : Int32)).toUInt32.toUInt16.toUInt32.toInt32)), .val (.int ((yc &&& (255 : Int32)).toUInt32.toUInt16.toUInt32.toInt32))] [(.ref b4)])) _
    refine XS.dup X4.here hx rfl (hb hby d1_89) rfl rfl ?_
    show Steps p.tables e below (T4.setTop (mkF m 90 #[.val (.int (3 : Int32)), .val (.int ya), .val (.int yb), .val (.int yc), .val (.int ((ya &&& (255 : Int32)).toUInt32.toUInt16.toUInt32.toInt32)), .val (.int ((yb &&& (255 : Int32)).toUInt32.toUInt16.toUInt32.toInt32)), .val (.int ((yc &&& (255 : Int32)).toUInt32.toUInt16.toUInt32.toInt32))] [(.ref b4), (.ref b4)])) _
    refine XS.iconst X4.here hx rfl (hb hby d1_90) ?_
    show Steps p.tables e below (T4.setTop (mkF m 91 #[.val (.int (3 : Int32)), .val (.int ya), .val (.int yb), .val (.int yc), .val (.int ((ya &&& (255 : Int32)).toUInt32.toUInt16.toUInt32.toInt32)), .val (.int ((yb &&& (255 : Int32)).toUInt32.toUInt16.toUInt32.toInt32)), .val (.int ((yc &&& (255 : Int32)).toUInt32.toUInt16.toUInt32.toInt32))] [(.int (3 : Int32)), (.ref b4), (.ref b4)])) _
    refine st5 _ ?_
    show Steps p.tables e below (T5.setTop (mkF m 93 #[.val (.int (3 : Int32)), .val (.int ya), .val (.int yb), .val (.int yc), .val (.int ((ya &&& (255 : Int32)).toUInt32.toUInt16.toUInt32.toInt32)), .val (.int ((yb &&& (255 : Int32)).toUInt32.toUInt16.toUInt32.toInt32)), .val (.int ((yc &&& (255 : Int32)).toUInt32.toUInt16.toUInt32.toInt32))] [(.ref b5), (.ref b4), (.ref b4)])) _
    refine XS.dup X5.here hx rfl (hb hby d1_93) rfl rfl ?_
    show Steps p.tables e below (T5.setTop (mkF m 94 #[.val (.int (3 : Int32)), .val (.int ya), .val (.int yb), .val (.int yc), .val (.int ((ya &&& (255 : Int32)).toUInt32.toUInt16.toUInt32.toInt32)), .val (.int ((yb &&& (255 : Int32)).toUInt32.toUInt16.toUInt32.toInt32)), .val (.int ((yc &&& (255 : Int32)).toUInt32.toUInt16.toUInt32.toInt32))] [(.ref b5), (.ref b5), (.ref b4), (.ref b4)])) _
    refine XS.iconst X5.here hx rfl (hb hby d1_94) ?_
    show Steps p.tables e below (T5.setTop (mkF m 95 #[.val (.int (3 : Int32)), .val (.int ya), .val (.int yb), .val (.int yc), .val (.int ((ya &&& (255 : Int32)).toUInt32.toUInt16.toUInt32.toInt32)), .val (.int ((yb &&& (255 : Int32)).toUInt32.toUInt16.toUInt32.toInt32)), .val (.int ((yc &&& (255 : Int32)).toUInt32.toUInt16.toUInt32.toInt32))] [(.int (0 : Int32)), (.ref b5), (.ref b5), (.ref b4), (.ref b4)])) _
    refine XS.iload X5.here hx rfl (hb hby d1_95) rfl ?_
    show Steps p.tables e below (T5.setTop (mkF m 97 #[.val (.int (3 : Int32)), .val (.int ya), .val (.int yb), .val (.int yc), .val (.int ((ya &&& (255 : Int32)).toUInt32.toUInt16.toUInt32.toInt32)), .val (.int ((yb &&& (255 : Int32)).toUInt32.toUInt16.toUInt32.toInt32)), .val (.int ((yc &&& (255 : Int32)).toUInt32.toUInt16.toUInt32.toInt32))] [(.int ((ya &&& (255 : Int32)).toUInt32.toUInt16.toUInt32.toInt32)), (.int (0 : Int32)), (.ref b5), (.ref b5), (.ref b4), (.ref b4)])) _
    refine st7 _ ?_
    show Steps p.tables e below (T7.setTop (mkF m 98 #[.val (.int (3 : Int32)), .val (.int ya), .val (.int yb), .val (.int yc), .val (.int ((ya &&& (255 : Int32)).toUInt32.toUInt16.toUInt32.toInt32)), .val (.int ((yb &&& (255 : Int32)).toUInt32.toUInt16.toUInt32.toInt32)), .val (.int ((yc &&& (255 : Int32)).toUInt32.toUInt16.toUInt32.toInt32))] [(.ref b5), (.ref b4), (.ref b4)])) _
    refine XS.dup X7.here hx rfl (hb hby d1_98) rfl rfl ?_
    show Steps p.tables e below (T7.setTop (mkF m 99 #[.val (.int (3 : Int32)), .val (.int ya), .val (.int yb), .val (.int yc), .val (.int ((ya &&& (255 : Int32)).toUInt32.toUInt16.toUInt32.toInt32)), .val (.int ((yb &&& (255 : Int32)).toUInt32.toUInt16.toUInt32.toInt32)), .val (.int ((yc &&& (255 : Int32)).toUInt32.toUInt16.toUInt32.toInt32))] [(.ref b5), (.ref b5), (.ref b4), (.ref b4)])) _
    refine XS.iconst X7.here hx rfl (hb hby d1_99) ?_
    show Steps p.tables e below (T7.setTop (mkF m 100 #[.val (.int (3 : Int32)), .val (.int ya), .val (.int yb), .val (.int yc), .val (.int ((ya &&& (255 : Int32)).toUInt32.toUInt16.toUInt32.toInt32)), .val (.int ((yb &&& (255 : Int32)).toUInt32.toUInt16.toUInt32.toInt32)), .val (.int ((yc &&& (255 : Int32)).toUInt32.toUInt16.toUInt32.toInt32))] [(.int (1 : Int32)), (.ref b5), (.ref b5), (.ref b4), (.ref b4)])) _
    refine XS.iload X7.here hx rfl (hb hby d1_100) rfl ?_
    show Steps p.tables e below (T7.setTop (mkF m 102 #[.val (.int (3 : Int32)), .val (.int ya), .val (.int yb), .val (.int yc), .val (.int ((ya &&& (255 : Int32)).toUInt32.toUInt16.toUInt32.toInt32)), .val (.int ((yb &&& (255 : Int32)).toUInt32.toUInt16.toUInt32.toInt32)), .val (.int ((yc &&& (255 : Int32)).toUInt32.toUInt16.toUInt32.toInt32))] [(.int ((yb &&& (255 : Int32)).toUInt32.toUInt16.toUInt32.toInt32)), (.int (1 : Int32)), (.ref b5), (.ref b5), (.ref b4), (.ref b4)])) _
    refine st9 _ ?_
    show Steps p.tables e below (T9.setTop (mkF m 103 #[.val (.int (3 : Int32)), .val (.int ya), .val (.int yb), .val (.int yc), .val (.int ((ya &&& (255 : Int32)).toUInt32.toUInt16.toUInt32.toInt32)), .val (.int ((yb &&& (255 : Int32)).toUInt32.toUInt16.toUInt32.toInt32)), .val (.int ((yc &&& (255 : Int32)).toUInt32.toUInt16.toUInt32.toInt32))] [(.ref b5), (.ref b4), (.ref b4)])) _
    refine XS.dup X9.here hx rfl (hb hby d1_103) rfl rfl ?_
    show Steps p.tables e below (T9.setTop (mkF m 104 #[.val (.int (3 : Int32)), .val (.int ya), .val (.int yb), .val (.int yc), .val (.int ((ya &&& (255 : Int32)).toUInt32.toUInt16.toUInt32.toInt32)), .val (.int ((yb &&& (255 : Int32)).toUInt32.toUInt16.toUInt32.toInt32)), .val (.int ((yc &&& (255 : Int32)).toUInt32.toUInt16.toUInt32.toInt32))] [(.ref b5), (.ref b5), (.ref b4), (.ref b4)])) _
    refine XS.iconst X9.here hx rfl (hb hby d1_104) ?_
    show Steps p.tables e below (T9.setTop (mkF m 105 #[.val (.int (3 : Int32)), .val (.int ya), .val (.int yb), .val (.int yc), .val (.int ((ya &&& (255 : Int32)).toUInt32.toUInt16.toUInt32.toInt32)), .val (.int ((yb &&& (255 : Int32)).toUInt32.toUInt16.toUInt32.toInt32)), .val (.int ((yc &&& (255 : Int32)).toUInt32.toUInt16.toUInt32.toInt32))] [(.int (2 : Int32)), (.ref b5), (.ref b5), (.ref b4), (.ref b4)])) _
    refine XS.iload X9.here hx rfl (hb hby d1_105) rfl ?_
    show Steps p.tables e below (T9.setTop (mkF m 107 #[.val (.int (3 : Int32)), .val (.int ya), .val (.int yb), .val (.int yc), .val (.int ((ya &&& (255 : Int32)).toUInt32.toUInt16.toUInt32.toInt32)), .val (.int ((yb &&& (255 : Int32)).toUInt32.toUInt16.toUInt32.toInt32)), .val (.int ((yc &&& (255 : Int32)).toUInt32.toUInt16.toUInt32.toInt32))] [(.int ((yc &&& (255 : Int32)).toUInt32.toUInt16.toUInt32.toInt32)), (.int (2 : Int32)), (.ref b5), (.ref b5), (.ref b4), (.ref b4)])) _
    refine st11 _ ?_
    show Steps p.tables e below (T11.setTop (mkF m 108 #[.val (.int (3 : Int32)), .val (.int ya), .val (.int yb), .val (.int yc), .val (.int ((ya &&& (255 : Int32)).toUInt32.toUInt16.toUInt32.toInt32)), .val (.int ((yb &&& (255 : Int32)).toUInt32.toUInt16.toUInt32.toInt32)), .val (.int ((yc &&& (255 : Int32)).toUInt32.toUInt16.toUInt32.toInt32))] [(.ref b5), (.ref b4), (.ref b4)])) _
    refine st12.trans ?_
    show Steps p.tables e below (T12.setTop (mkF m 111 #[.val (.int (3 : Int32)), .val (.int ya), .val (.int yb), .val (.int yc), .val (.int ((ya &&& (255 : Int32)).toUInt32.toUInt16.toUInt32.toInt32)), .val (.int ((yb &&& (255 : Int32)).toUInt32.toUInt16.toUInt32.toInt32)), .val (.int ((yc &&& (255 : Int32)).toUInt32.toUInt16.toUInt32.toInt32))] [(.ref b4)])) _
    exact kt
  obtain ⟨fs, hr, hrun, hended, hW, hsame⟩ := X12.leave (v := some (.ref b4)) (fun h => by rw [Bd.returns] at h; cases h)
  refine ⟨_, _, k13 _ ?_, hrun, hended, _, _, rfl, ?_, ⟨_, rfl⟩, hW, hsame.mono (by decide) (by decide)⟩
  · exact own_retA X12 hx Bd.returns rfl (hb hby d1_111) hr
  · show QDraw Z [((ya &&& (255 : Int32)).toUInt32.toUInt16.toUInt32.toInt32), ((yb &&& (255 : Int32)).toUInt32.toUInt16.toUInt32.toInt32), ((yc &&& (255 : Int32)).toUInt32.toUInt16.toUInt32.toInt32)] h0 n0 _ T12.heap _
    exact ⟨N12, KP12, b4, bt12, kb12, rfl, sz_b4, E12x, C12x, F12x, V12x⟩
def QNew (Z : State) (o : Addr) (h0 : Heap) (n0 : Nat) (v : Option Value) (h : Heap) (L : List Loc) : Prop := v = none ∧ Fr n0 L ∧ Keep h0 h [o] ∧ ∃ (t : Addr) (kb : ClassId), Fld Z h o "java/lang/String" "coder" "B" (.int (0 : Int32)) ∧ Fld Z h o "java/lang/String" "value" "[B" (.ref t) ∧ Arv Z h t kb .byte (0 : Int32) [] (.int (0 : Int32))
theorem d3_0 : decode jdk_42_method_149_code 0 = .ok (.aload_n 0, 1) := by decide +kernel
theorem d3_1 : decode jdk_42_method_149_code 1 = .ok (.invokespecial 1, 3) := by decide +kernel
theorem d3_4 : decode jdk_42_method_149_code 4 = .ok (.iload_n 3, 1) := by decide +kernel
theorem d3_5 : decode jdk_42_method_149_code 5 = .ok (.ifCond .ne 22, 3) := by decide +kernel
theorem d3_8 : decode jdk_42_method_149_code 8 = .ok (.aload_n 0, 1) := by decide +kernel
theorem d3_9 : decode jdk_42_method_149_code 9 = .ok (.ldc 7, 2) := by decide +kernel
theorem d3_11 : decode jdk_42_method_149_code 11 = .ok (.getfield 9, 3) := by decide +kernel
theorem d3_14 : decode jdk_42_method_149_code 14 = .ok (.putfield 9, 3) := by decide +kernel
theorem d3_17 : decode jdk_42_method_149_code 17 = .ok (.aload_n 0, 1) := by decide +kernel
theorem d3_18 : decode jdk_42_method_149_code 18 = .ok (.ldc 7, 2) := by decide +kernel
theorem d3_20 : decode jdk_42_method_149_code 20 = .ok (.getfield 15, 3) := by decide +kernel
theorem d3_23 : decode jdk_42_method_149_code 23 = .ok (.putfield 15, 3) := by decide +kernel
theorem d3_26 : decode jdk_42_method_149_code 26 = .ok (.return_, 1) := by decide +kernel
theorem pn_3 : plainName "java/lang/String" = true := by first | (simp [plainName, overriddenIn]; done) | decide +kernel
theorem ef_rmNew4 (m : MethodId) (o : Addr) (b : Addr) : entryFrame m #[(.ref o), (.ref b), (.int (0 : Int32)), (.int (0 : Int32)), .null] 6 = mkF m 0 #[.val (.ref o), .val (.ref b), .val (.int (0 : Int32)), .val (.int (0 : Int32)), .val .null, .unset] [] := by first | (simp [entryFrame, mkF, argsToLocals, Value.category]; done) | rfl
set_option maxRecDepth 65536 in
set_option maxHeartbeats 40000000 in
theorem rmNew4 (l : Launch) (Z : State) (a0 : Array Value) (hw : ∀ d ∈ tables_1, d.before a0 Z = true) (ws : List Jvm.Cond) (o : Addr) (b : Addr)  (h0 : Heap) (n0 : Nat) (Z0 : n0 ≤ h0.size) (E_o : Exa Z h0 o "java/lang/String") (Fv : Fld Z h0 o "java/lang/String" "value" "[B" .null) (Fc : Fld Z h0 o "java/lang/String" "coder" "B" (.int (0 : Int32))) (g_o : n0 ≤ o) :
    MetFree l (⟨"java/lang/String", "<init>", "([CIILjava/lang/Void;)V"⟩ : MethodName) (head1 (Jvm.Cond.code (⟨"java/lang/String", "<init>", "([CIILjava/lang/Void;)V"⟩ : MethodName) jdk_42_method_149_code 6 none :: ws) ({ frames := 1, cells := 4, slots := 8, locals := 12 } : Room)) (fun a_ U_ => a_ = #[(.ref o), (.ref b), (.int (0 : Int32)), (.int (0 : Int32)), .null] ∧ Z.Warmed39 U_.vm ∧ U_.heap = h0 ∧ CHv Z ELs U_.vm h0) (fun _ _ _ _ _ => True) (fun _ U_ o_ U'_ => ∃ v_ L_, o_ = .returned v_ ∧ QNew Z o h0 n0 v_ U'_.heap L_ ∧ CHr Z ELs U_.vm U_.heap U'_.vm U'_.heap ∧ ReturnedEndW U_ o_ U'_ L_ ({ frames := 1, cells := 4, slots := 8, locals := 12 } : Room).cells ({ frames := 1, cells := 4, slots := 8, locals := 12 } : Room).slots) := by
  refine MetFree.of_bodySF (plainFor_of_name pn_3) hisR ?_
  intro p e s m args below meth c s₁ Bd hml0 hP hK
  obtain ⟨rfl, hZ, hh, hCH⟩ := hP
  have hx := Bd.exec
  have hby := Bd.bytes
  have hml : c.maxLocals = 6 := hml0
  have hown : s.vm.findClass "java/lang/String" = some m.cls := findClass_of_methodNamed Bd.named
  have hnm := (name_of_methodNamed Bd.named Bd.method).1
  have X0 : Stand p l e ({ frames := 1, cells := 4, slots := 8, locals := 12 } : Room) (s.setVm s.vm) m #[(.ref o), (.ref b), (.int (0 : Int32)), (.int (0 : Int32)), .null] below meth c s₁ [] 0 0 := Stand.of_body Bd
  have hZ : Z.Warmed39 (s.setVm s.vm).vm := hZ
  have hown : (s.setVm s.vm).vm.findClass "java/lang/String" = some m.cls := hown
  have hS : s.Since s.vm s.heap.size := (State.WarmedH.refl s).since _
  have HK0 : s.heap.size ≤ h0.size := Nat.le_of_eq (congrArg Array.size hh)
  have CH0 : CHr Z ELs s.vm h0 s.vm h0 := CHr.refl hCH
  have hEW := own_EW hw
  have e0 : s₁.heap = h0 := by rw [← hh, Bd.state]; rfl
  have N0 := Fr.nil n0
  have k0 : ∀ tg, Steps p.tables e below (s₁.setTop (mkF m 0 #[.val (.ref o), .val (.ref b), .val (.int (0 : Int32)), .val (.int (0 : Int32)), .val .null, .unset] [])) tg → Steps p.tables e below (s₁.setTop (entryFrame m #[(.ref o), (.ref b), (.int (0 : Int32)), (.int (0 : Int32)), .null] 6)) tg := fun tg kq_ => castTop (ef_rmNew4 m o b) kq_
  have SF0_o : Safe Z ELs s.vm h0 o := own_safe hZ.alike E_o Fv
  obtain ⟨T1, X1, e1, st1⟩ := initO X0 hx hZ hown (hw _ (List.mem_of_getElem? (i := 15) rfl)) (hw _ (List.mem_of_getElem? (i := 16) rfl)) (hw _ (List.mem_of_getElem? (i := 17) rfl)) e0 (g := (mkF m 1 #[.val (.ref o), .val (.ref b), .val (.int (0 : Int32)), .val (.int (0 : Int32)), .val .null, .unset] [(.ref o)])) rfl (by rw [hml]; rfl) rfl (hb hby d3_1) (by decide) (W := 0) (by show 2 * 0 + _ ≤ _; exact Nat.le_of_eq rfl) (by decide)
  have hd2 : (0 : Int32) = (0 : Int32) := rfl
  have k3 : ∀ tg, Steps p.tables e below (T1.setTop (mkF m 9 #[.val (.ref o), .val (.ref b), .val (.int (0 : Int32)), .val (.int (0 : Int32)), .val .null, .unset] [(.ref o)])) tg → Steps p.tables e below (s₁.setTop (entryFrame m #[(.ref o), (.ref b), (.int (0 : Int32)), (.int (0 : Int32)), .null] 6)) tg := by
    intro tg kt
    refine k0 tg ?_
    show Steps p.tables e below (s₁.setTop (mkF m 0 #[.val (.ref o), .val (.ref b), .val (.int (0 : Int32)), .val (.int (0 : Int32)), .val .null, .unset] [])) _
    refine XS.aloadN X0.here hx rfl (hb hby d3_0) rfl rfl ?_
    show Steps p.tables e below (s₁.setTop (mkF m 1 #[.val (.ref o), .val (.ref b), .val (.int (0 : Int32)), .val (.int (0 : Int32)), .val .null, .unset] [(.ref o)])) _
    refine st1 _ ?_
    show Steps p.tables e below (T1.setTop (mkF m 4 #[.val (.ref o), .val (.ref b), .val (.int (0 : Int32)), .val (.int (0 : Int32)), .val .null, .unset] [])) _
    refine XS.iloadN X1.here hx rfl (hb hby d3_4) rfl ?_
    show Steps p.tables e below (T1.setTop (mkF m 5 #[.val (.ref o), .val (.ref b), .val (.int (0 : Int32)), .val (.int (0 : Int32)), .val .null, .unset] [(.int (0 : Int32))])) _
    refine XS.ifNo X1.here hx rfl (hb hby d3_5) rfl ((if0 _ _).trans (teq hd2).2) ?_
    show Steps p.tables e below (T1.setTop (mkF m 8 #[.val (.ref o), .val (.ref b), .val (.int (0 : Int32)), .val (.int (0 : Int32)), .val .null, .unset] [])) _
    refine XS.aloadN X1.here hx rfl (hb hby d3_8) rfl rfl ?_
    show Steps p.tables e below (T1.setTop (mkF m 9 #[.val (.ref o), .val (.ref b), .val (.int (0 : Int32)), .val (.int (0 : Int32)), .val .null, .unset] [(.ref o)])) _
    exact kt
  obtain ⟨lt4, T4, h4, kk4, bb4, kb4, X4, e4, E4, hS, HQ4, hZ, hown, Ex4, Fc4, Fv4, Va4, la4, lb4, CQ4, -, saf4, st4⟩ := ldcCH X1 hx hZ hown (hw _ (List.mem_of_getElem? (i := 113) rfl)) (own_wS hw) e1 hS HK0 hEW (by decide) CH0.1 (vs := []) (z := (0 : Int32)) ⟨by decide, by decide⟩ (by decide) (by decide) (g := (mkF m 9 #[.val (.ref o), .val (.ref b), .val (.int (0 : Int32)), .val (.int (0 : Int32)), .val .null, .unset] [(.ref o)])) rfl (hb hby d3_9) (n := 0) (by decide +kernel) (by decide) (by decide) (by decide)
  have SF4_o := CQ4.safe E_o.lt SF0_o
  have CH4 := CH0.trans CQ4
  have HK4 := Nat.le_trans HK0 E4.1
  have E4_o := E_o.ext E4
  have F4_o_value := Fv.ext E4
  have F4_o_coder := Fc.ext E4
  have Z4 := Nat.le_trans Z0 E4.1
  have KP4 := (Keep.refl h0 [o]).ext E4
  obtain ⟨ne_o_lt4, ne_o_bb4⟩ := saf4 _ SF4_o
  obtain ⟨T5, X5, e5, st5⟩ := getF X4 hx hZ hown (host := "") (Or.inl (hw _ (List.mem_of_getElem? (i := 32) rfl))) Via.refl e4 Fv4 (g := (mkF m 11 #[.val (.ref o), .val (.ref b), .val (.int (0 : Int32)), .val (.int (0 : Int32)), .val .null, .unset] [(.ref lt4), (.ref o)])) rfl rfl (hb hby d3_11)
  obtain ⟨T6, h6, X6, e6, W6, st6⟩ := putF X5 hx hZ hown (host := "") (Or.inl (hw _ (List.mem_of_getElem? (i := 32) rfl))) Via.refl e5 F4_o_value E4_o (Or.inr ⟨(hw _ (List.mem_of_getElem? (i := 33) rfl)), rfl, hnm⟩) (hw _ (List.mem_of_getElem? (i := 5) rfl)) (ty := (.array .byte)) (by decide) rfl rfl (g := (mkF m 14 #[.val (.ref o), .val (.ref b), .val (.int (0 : Int32)), .val (.int (0 : Int32)), .val .null, .unset] [(.ref bb4), (.ref o)])) rfl rfl (hb hby d3_14)
  have HK6 := Nat.le_trans HQ4 (Keep.of_wr W6).1
  have SF6_o := Safe.wr W6 SF4_o CH4.1 SF4_o
  have CH6 := CH4.trans (CHr.wr W6 SF4_o CH4.1)
  have E6_o := E4_o.wr W6
  have F6_o_coder := F4_o_coder.other W6 (Or.inr (slot_ne (Or.inr (hw _ (List.mem_of_getElem? (i := 31) rfl))) (Or.inr (hw _ (List.mem_of_getElem? (i := 33) rfl))) (by decide) (t := .byte) (t' := (.array .byte)) (by decide) (by decide)))
  have E6_lt4 := Ex4.wr W6
  have F6_lt4_coder := Fc4.other W6 (Or.inl (Ne.symm ne_o_lt4))
  have F6_lt4_value := Fv4.other W6 (Or.inl (Ne.symm ne_o_lt4))
  have V6_bb4 := Va4.other W6 (Ne.symm ne_o_bb4)
  have Z6 := Nat.le_trans Z4 (Keep.of_wr W6).1
  have KP6 := KP4.wr W6 (Or.inl (List.mem_of_getElem? (i := 0) rfl))
  have N6 := Fr.snoc X6 N0 g_o
  have F6_o_value := F4_o_value.same W6
  have k7 : ∀ tg, Steps p.tables e below (T6.setTop (mkF m 18 #[.val (.ref o), .val (.ref b), .val (.int (0 : Int32)), .val (.int (0 : Int32)), .val .null, .unset] [(.ref o)])) tg → Steps p.tables e below (s₁.setTop (entryFrame m #[(.ref o), (.ref b), (.int (0 : Int32)), (.int (0 : Int32)), .null] 6)) tg := by
    intro tg kt
    refine k3 tg ?_
    refine st4 _ ?_
    show Steps p.tables e below (T4.setTop (mkF m 11 #[.val (.ref o), .val (.ref b), .val (.int (0 : Int32)), .val (.int (0 : Int32)), .val .null, .unset] [(.ref lt4), (.ref o)])) _
    refine st5 _ ?_
    show Steps p.tables e below (T5.setTop (mkF m 14 #[.val (.ref o), .val (.ref b), .val (.int (0 : Int32)), .val (.int (0 : Int32)), .val .null, .unset] [(.ref bb4), (.ref o)])) _
    refine st6 _ ?_
    show Steps p.tables e below (T6.setTop (mkF m 17 #[.val (.ref o), .val (.ref b), .val (.int (0 : Int32)), .val (.int (0 : Int32)), .val .null, .unset] [])) _
    refine XS.aloadN X6.here hx rfl (hb hby d3_17) rfl rfl ?_
    show Steps p.tables e below (T6.setTop (mkF m 18 #[.val (.ref o), .val (.ref b), .val (.int (0 : Int32)), .val (.int (0 : Int32)), .val .null, .unset] [(.ref o)])) _
    exact kt
  obtain ⟨lt8, T8, h8, kk8, bb8, kb8, X8, e8, E8, hS, HQ8, hZ, hown, Ex8, Fc8, Fv8, Va8, la8, lb8, CQ8, -, saf8, st8⟩ := ldcCH X6 hx hZ hown (hw _ (List.mem_of_getElem? (i := 113) rfl)) (own_wS hw) e6 hS HK6 hEW (by decide) CH6.1 (vs := []) (z := (0 : Int32)) ⟨by decide, by decide⟩ (by decide) (by decide) (g := (mkF m 18 #[.val (.ref o), .val (.ref b), .val (.int (0 : Int32)), .val (.int (0 : Int32)), .val .null, .unset] [(.ref o)])) rfl (hb hby d3_18) (n := 0) (by decide +kernel) (by decide) (by decide) (by decide)
  have SF8_o := CQ8.safe E6_o.lt SF6_o
  have CH8 := CH6.trans CQ8
  have HK8 := Nat.le_trans HK6 E8.1
  have E8_o := E6_o.ext E8
  have F8_o_value := F6_o_value.ext E8
  have F8_o_coder := F6_o_coder.ext E8
  have E8_lt4 := E6_lt4.ext E8
  have F8_lt4_coder := F6_lt4_coder.ext E8
  have F8_lt4_value := F6_lt4_value.ext E8
  have V8_bb4 := V6_bb4.ext E8
  have Z8 := Nat.le_trans Z6 E8.1
  have KP8 := KP6.ext E8
  obtain ⟨ne_o_lt8, ne_o_bb8⟩ := saf8 _ SF8_o
  obtain ⟨T9, X9, e9, st9⟩ := getF X8 hx hZ hown (host := "") (Or.inl (hw _ (List.mem_of_getElem? (i := 30) rfl))) Via.refl e8 Fc8 (g := (mkF m 20 #[.val (.ref o), .val (.ref b), .val (.int (0 : Int32)), .val (.int (0 : Int32)), .val .null, .unset] [(.ref lt8), (.ref o)])) rfl rfl (hb hby d3_20)
  obtain ⟨T10, h10, X10, e10, W10, st10⟩ := putFN X9 hx hZ hown (hw _ (List.mem_of_getElem? (i := 30) rfl)) Via.refl e9 F8_o_coder E8_o (Or.inr ⟨(hw _ (List.mem_of_getElem? (i := 31) rfl)), rfl, hnm⟩) (hw _ (List.mem_of_getElem? (i := 5) rfl)) (ty := .byte) (v' := (.int (0 : Int32))) (by decide) rfl rfl (g := (mkF m 23 #[.val (.ref o), .val (.ref b), .val (.int (0 : Int32)), .val (.int (0 : Int32)), .val .null, .unset] [(.int (0 : Int32)), (.ref o)])) rfl rfl (hb hby d3_23)
  have HK10 := Nat.le_trans HQ8 (Keep.of_wr W10).1
  have SF10_o := Safe.wr W10 SF8_o CH8.1 SF8_o
  have CH10 := CH8.trans (CHr.wr W10 SF8_o CH8.1)
  have E10_o := E8_o.wr W10
  have F10_o_value := F8_o_value.other W10 (Or.inr (slot_ne (Or.inr (hw _ (List.mem_of_getElem? (i := 33) rfl))) (Or.inr (hw _ (List.mem_of_getElem? (i := 31) rfl))) (by decide) (t := (.array .byte)) (t' := .byte) (by decide) (by decide)))
  have E10_lt4 := E8_lt4.wr W10
  have F10_lt4_coder := F8_lt4_coder.other W10 (Or.inl (Ne.symm ne_o_lt4))
  have F10_lt4_value := F8_lt4_value.other W10 (Or.inl (Ne.symm ne_o_lt4))
  have V10_bb4 := V8_bb4.other W10 (Ne.symm ne_o_bb4)
  have E10_lt8 := Ex8.wr W10
  have F10_lt8_coder := Fc8.other W10 (Or.inl (Ne.symm ne_o_lt8))
  have F10_lt8_value := Fv8.other W10 (Or.inl (Ne.symm ne_o_lt8))
  have V10_bb8 := Va8.other W10 (Ne.symm ne_o_bb8)
  have Z10 := Nat.le_trans Z8 (Keep.of_wr W10).1
  have KP10 := KP8.wr W10 (Or.inl (List.mem_of_getElem? (i := 0) rfl))
  have N10 := Fr.snoc X10 N6 g_o
  have F10_o_coder := F8_o_coder.same W10
  have k11 : ∀ tg, Steps p.tables e below (T10.setTop (mkF m 26 #[.val (.ref o), .val (.ref b), .val (.int (0 : Int32)), .val (.int (0 : Int32)), .val .null, .unset] [])) tg → Steps p.tables e below (s₁.setTop (entryFrame m #[(.ref o), (.ref b), (.int (0 : Int32)), (.int (0 : Int32)), .null] 6)) tg := by
    intro tg kt
    refine k7 tg ?_
    refine st8 _ ?_
    show Steps p.tables e below (T8.setTop (mkF m 20 #[.val (.ref o), .val (.ref b), .val (.int (0 : Int32)), .val (.int (0 : Int32)), .val .null, .unset] [(.ref lt8), (.ref o)])) _
    refine st9 _ ?_
    show Steps p.tables e below (T9.setTop (mkF m 23 #[.val (.ref o), .val (.ref b), .val (.int (0 : Int32)), .val (.int (0 : Int32)), .val .null, .unset] [(.int (0 : Int32)), (.ref o)])) _
    refine st10 _ ?_
    show Steps p.tables e below (T10.setTop (mkF m 26 #[.val (.ref o), .val (.ref b), .val (.int (0 : Int32)), .val (.int (0 : Int32)), .val .null, .unset] [])) _
    exact kt
  obtain ⟨fs, hr, hrun, hended, hRW⟩ := X10.leaveW hS (own_hk e10 HK10) (v := none) (fun _ => rfl)
  refine ⟨_, _, k11 _ ?_, hrun, hended, _, _, rfl, ?_, ?_, hRW.1, hRW.2.1, hRW.2.2.1, hRW.2.2.2.mono (by decide) (by decide)⟩
  · exact X10.returnOut hx Bd.returns (hb hby d3_26) hr
  · show QNew Z o h0 n0 _ T10.heap _
    rw [e10]
    exact ⟨rfl, N10, KP10, bb4, kb4, F10_o_coder, F10_o_value, V10_bb4⟩
  · rw [hh]
    show CHr _ _ _ _ T10.vm T10.heap
    rw [e10]
    exact CH10.trans (CHv.at X10 hZ hEW CH10.1)
theorem d2_0 : decode jdk_42_method_3_code 0 = .ok (.aload_n 0, 1) := by decide +kernel
theorem d2_1 : decode jdk_42_method_3_code 1 = .ok (.aload_n 1, 1) := by decide +kernel
theorem d2_2 : decode jdk_42_method_3_code 2 = .ok (.iconst 0, 1) := by decide +kernel
theorem d2_3 : decode jdk_42_method_3_code 3 = .ok (.aload_n 1, 1) := by decide +kernel
theorem d2_4 : decode jdk_42_method_3_code 4 = .ok (.arraylength, 1) := by decide +kernel
theorem d2_5 : decode jdk_42_method_3_code 5 = .ok (.aconst_null, 1) := by decide +kernel
theorem d2_6 : decode jdk_42_method_3_code 6 = .ok (.invokespecial 27, 3) := by decide +kernel
theorem d2_9 : decode jdk_42_method_3_code 9 = .ok (.return_, 1) := by decide +kernel
theorem pn_2 : plainName "java/lang/String" = true := by first | (simp [plainName, overriddenIn]; done) | decide +kernel
theorem pd_1 : parseMethodDescriptor "([CIILjava/lang/Void;)V" = some ⟨[(.array .char), .int, .int, (.object "java/lang/Void")], none⟩ := by decide +kernel
theorem ef_rmNew1 (m : MethodId) (o : Addr) (b : Addr) : entryFrame m #[(.ref o), (.ref b)] 2 = mkF m 0 #[.val (.ref o), .val (.ref b)] [] := by first | (simp [entryFrame, mkF, argsToLocals, Value.category]; done) | rfl
set_option maxRecDepth 65536 in
set_option maxHeartbeats 40000000 in
theorem rmNew1 (l : Launch) (Z : State) (a0 : Array Value) (hw : ∀ d ∈ tables_1, d.before a0 Z = true) (ws : List Jvm.Cond) (o : Addr) (b : Addr) (kc : ClassId) (h0 : Heap) (n0 : Nat) (Z0 : n0 ≤ h0.size) (E_o : Exa Z h0 o "java/lang/String") (Fv : Fld Z h0 o "java/lang/String" "value" "[B" .null) (Fc : Fld Z h0 o "java/lang/String" "coder" "B" (.int (0 : Int32))) (g_o : n0 ≤ o) (Vb : Arv Z h0 b kc .char (0 : Int32) [] (.int (0 : Int32))) :
    MetFree l (⟨"java/lang/String", "<init>", "([C)V"⟩ : MethodName) (head1 (Jvm.Cond.code (⟨"java/lang/String", "<init>", "([C)V"⟩ : MethodName) jdk_42_method_3_code 2 none :: ws) ({ frames := 2, cells := 4, slots := 8, locals := 29 } : Room)) (fun a_ U_ => a_ = #[(.ref o), (.ref b)] ∧ Z.Warmed39 U_.vm ∧ U_.heap = h0 ∧ CHv Z ELs U_.vm h0) (fun _ _ _ _ _ => True) (fun _ U_ o_ U'_ => ∃ v_ L_, o_ = .returned v_ ∧ QNew Z o h0 n0 v_ U'_.heap L_ ∧ CHr Z ELs U_.vm U_.heap U'_.vm U'_.heap ∧ ReturnedEndW U_ o_ U'_ L_ ({ frames := 2, cells := 4, slots := 8, locals := 29 } : Room).cells ({ frames := 2, cells := 4, slots := 8, locals := 29 } : Room).slots) := by
  refine MetFree.of_bodySF (plainFor_of_name pn_2) hisR ?_
  intro p e s m args below meth c s₁ Bd hml0 hP hK
  obtain ⟨rfl, hZ, hh, hCH⟩ := hP
  have hx := Bd.exec
  have hby := Bd.bytes
  have hml : c.maxLocals = 2 := hml0
  have hown : s.vm.findClass "java/lang/String" = some m.cls := findClass_of_methodNamed Bd.named
  have hnm := (name_of_methodNamed Bd.named Bd.method).1
  have X0 : Stand p l e ({ frames := 2, cells := 4, slots := 8, locals := 29 } : Room) (s.setVm s.vm) m #[(.ref o), (.ref b)] below meth c s₁ [] 0 0 := Stand.of_body Bd
  have hZ : Z.Warmed39 (s.setVm s.vm).vm := hZ
  have hown : (s.setVm s.vm).vm.findClass "java/lang/String" = some m.cls := hown
  have hS : s.Since s.vm s.heap.size := (State.WarmedH.refl s).since _
  have HK0 : s.heap.size ≤ h0.size := Nat.le_of_eq (congrArg Array.size hh)
  have CH0 : CHr Z ELs s.vm h0 s.vm h0 := CHr.refl hCH
  have hEW := own_EW hw
  have e0 : s₁.heap = h0 := by rw [← hh, Bd.state]; rfl
  have N0 := Fr.nil n0
  have k0 : ∀ tg, Steps p.tables e below (s₁.setTop (mkF m 0 #[.val (.ref o), .val (.ref b)] [])) tg → Steps p.tables e below (s₁.setTop (entryFrame m #[(.ref o), (.ref b)] 2)) tg := fun tg kq_ => castTop (ef_rmNew1 m o b) kq_
  obtain ⟨cl4_1, Ar4_1, q4_1, S4_1, N4_1_, H4_1, G4_1⟩ := id Vb
  have k3 : ∀ tg, Steps p.tables e below (s₁.setTop (mkF m 6 #[.val (.ref o), .val (.ref b)] [.null, (.int (0 : Int32)), (.int (0 : Int32)), (.ref b), (.ref o)])) tg → Steps p.tables e below (s₁.setTop (entryFrame m #[(.ref o), (.ref b)] 2)) tg := by
    intro tg kt
    refine k0 tg ?_
    show Steps p.tables e below (s₁.setTop (mkF m 0 #[.val (.ref o), .val (.ref b)] [])) _
    refine XS.aloadN X0.here hx rfl (hb hby d2_0) rfl rfl ?_
    show Steps p.tables e below (s₁.setTop (mkF m 1 #[.val (.ref o), .val (.ref b)] [(.ref o)])) _
    refine XS.aloadN X0.here hx rfl (hb hby d2_1) rfl rfl ?_
    show Steps p.tables e below (s₁.setTop (mkF m 2 #[.val (.ref o), .val (.ref b)] [(.ref b), (.ref o)])) _
    refine XS.iconst X0.here hx rfl (hb hby d2_2) ?_
    show Steps p.tables e below (s₁.setTop (mkF m 3 #[.val (.ref o), .val (.ref b)] [(.int (0 : Int32)), (.ref b), (.ref o)])) _
    refine XS.aloadN X0.here hx rfl (hb hby d2_3) rfl rfl ?_
    show Steps p.tables e below (s₁.setTop (mkF m 4 #[.val (.ref o), .val (.ref b)] [(.ref b), (.int (0 : Int32)), (.ref b), (.ref o)])) _
    refine X0.arraylength hx (by rw [e0]; exact Ar4_1.1) (State.isArrayOf_alike hZ.alike Ar4_1.2.1) (g := (mkF m 4 #[.val (.ref o), .val (.ref b)] [(.ref b), (.int (0 : Int32)), (.ref b), (.ref o)])) rfl rfl (hb hby d2_4) _ ?_
    rw [len_of S4_1 N4_1_]
    show Steps p.tables e below (s₁.setTop (mkF m 5 #[.val (.ref o), .val (.ref b)] [(.int (0 : Int32)), (.int (0 : Int32)), (.ref b), (.ref o)])) _
    refine XS.aconstNull X0.here hx rfl (hb hby d2_5) ?_
    show Steps p.tables e below (s₁.setTop (mkF m 6 #[.val (.ref o), .val (.ref b)] [.null, (.int (0 : Int32)), (.int (0 : Int32)), (.ref b), (.ref o)])) _
    exact kt
  obtain ⟨_, _, ⟨T2, L2, k2, n2⟩, -, X2, S22, gr2, ⟨Lc2, hQ2, l2, y2, z2, CQ2⟩, st2⟩ := X0.specialBackS hx (y := (⟨"java/lang/String", "<init>", "([CIILjava/lang/Void;)V"⟩ : MethodName)) rfl hown (mvT hZ (hw _ (List.mem_of_getElem? (i := 11) rfl))) (mvT hZ (hw _ (List.mem_of_getElem? (i := 12) rfl))) (mvT hZ (hw _ (List.mem_of_getElem? (i := 14) rfl))) (by decide) (backOfSH (W := 0) (rmNew4 l Z a0 hw [] o b  h0 n0 Z0 E_o Fv Fc g_o) hZ (hw _ (List.mem_of_getElem? (i := 14) rfl)) (hw _ (List.mem_of_getElem? (i := 6) rfl)) (by decide) (by decide) hEW CH0.1) (g := (mkF m 6 #[.val (.ref o), .val (.ref b)] [.null, (.int (0 : Int32)), (.int (0 : Int32)), (.ref b), (.ref o)])) rfl (by rw [hml]; rfl) (Steps.refl _) (a := o) (argsL := [(.ref b), (.int (0 : Int32)), (.int (0 : Int32)), .null]) (rest := []) (lenOf pd_1 rfl) rfl (by show 2 * 0 + _ ≤ _; exact Nat.le_of_eq rfl) (hb hby d2_6) (fun _ _ => ⟨rfl, e0, (by decide : 0 + 4 ≤ _), (by decide : 0 + 8 ≤ _)⟩)
  dsimp only [Pt.U, Pt.locs, Pt.cells, Pt.slots] at X2 l2 y2 z2 st2 hQ2 S22 gr2 CQ2
  subst l2 y2 z2
  obtain ⟨X2, hS, hZ, hown⟩ := rebS hS (own_hk e0 HK0) X2 S22 gr2 hZ hown
  have CH2 := CH0.trans CQ2
  obtain ⟨rfl, N2q, K2, bt2, kb2, C2x, F2x, V2x⟩ := hQ2
  have N2 := Fr.app N0 N2q
  have E2_o := E_o.keep K2
  have Z2 := Nat.le_trans Z0 K2.1
  have KP2 := (Keep.refl h0 [o]).trans K2 (allS (Or.inl (List.mem_of_getElem? (i := 0) rfl)) all0)
  have k4 : ∀ tg, Steps p.tables e below (T2.setTop (mkF m 9 #[.val (.ref o), .val (.ref b)] [])) tg → Steps p.tables e below (s₁.setTop (entryFrame m #[(.ref o), (.ref b)] 2)) tg := by
    intro tg kt
    refine k3 tg ?_
    refine st2.trans ?_
    show Steps p.tables e below (T2.setTop (mkF m 9 #[.val (.ref o), .val (.ref b)] [])) _
    exact kt
  obtain ⟨fs, hr, hrun, hended, hRW⟩ := X2.leaveW hS (own_hk rfl (Nat.le_refl _)) (v := none) (fun _ => rfl)
  refine ⟨_, _, k4 _ ?_, hrun, hended, _, _, rfl, ?_, ?_, hRW.1, hRW.2.1, hRW.2.2.1, hRW.2.2.2.mono (by decide) (by decide)⟩
  · exact X2.returnOut hx Bd.returns (hb hby d2_9) hr
  · show QNew Z o h0 n0 _ T2.heap _
    exact ⟨rfl, N2, KP2, bt2, kb2, C2x, F2x, V2x⟩
  · rw [hh]
    show CHr _ _ _ _ T2.vm T2.heap
    exact CH2.trans (CHv.at X2 hZ hEW CH2.1)
theorem d1_28 : decode method_2_code 28 = .ok (.new 7, 3) := by decide +kernel
theorem d1_31 : decode method_2_code 31 = .ok (.dup, 1) := by decide +kernel
theorem d1_32 : decode method_2_code 32 = .ok (.iconst 0, 1) := by decide +kernel
theorem d1_33 : decode method_2_code 33 = .ok (.newarray .char, 2) := by decide +kernel
theorem d1_35 : decode method_2_code 35 = .ok (.invokespecial 9, 3) := by decide +kernel
theorem d1_38 : decode method_2_code 38 = .ok (.areturn, 1) := by decide +kernel
theorem ef_rmDraw0 (m : MethodId) (ya : Int32) (yb : Int32) (yc : Int32) : entryFrame m #[(.int (0 : Int32)), (.int ya), (.int yb), (.int yc)] 7 = mkF m 0 #[.val (.int (0 : Int32)), .val (.int ya), .val (.int yb), .val (.int yc), .unset, .unset, .unset] [] := by first | (simp [entryFrame, mkF, argsToLocals, Value.category]; done) | rfl
set_option maxRecDepth 65536 in
set_option maxHeartbeats 40000000 in
theorem rmDraw0 (l : Launch) (Z : State) (a0 : Array Value) (hw : ∀ d ∈ tables_1, d.before a0 Z = true) (ws : List Jvm.Cond) (ya : Int32) (yb : Int32) (yc : Int32)  (h0 : Heap) (n0 : Nat) (Z0 : n0 ≤ h0.size)  :
    MetFree l (⟨"com/example/lifetable/lifetable/output/ColumnOfPinLaw", "draw", "(IIII)Ljava/lang/String;"⟩ : MethodName) (head1 (Jvm.Cond.code (⟨"com/example/lifetable/lifetable/output/ColumnOfPinLaw", "draw", "(IIII)Ljava/lang/String;"⟩ : MethodName) method_2_code 7 (some (.object "java/lang/String")) :: ws) ({ frames := 3, cells := 6, slots := 12, locals := 43 } : Room)) (fun a_ U_ => a_ = #[(.int (0 : Int32)), (.int ya), (.int yb), (.int yc)] ∧ Z.Warmed39 U_.vm ∧ U_.heap = h0 ∧ CHv Z ELs U_.vm h0) (fun _ _ _ _ _ => True) (fun _ U_ o_ U'_ => ∃ v_ L_, o_ = .returned v_ ∧ QDraw Z [] h0 n0 v_ U'_.heap L_ ∧ CHr Z ELs U_.vm U_.heap U'_.vm U'_.heap ∧ ReturnedEndW U_ o_ U'_ L_ ({ frames := 3, cells := 6, slots := 12, locals := 43 } : Room).cells ({ frames := 3, cells := 6, slots := 12, locals := 43 } : Room).slots) := by
  refine MetFree.of_bodySF (plainFor_of_name pn_1) hisR ?_
  intro p e s m args below meth c s₁ Bd hml0 hP hK
  obtain ⟨rfl, hZ, hh, hCH⟩ := hP
  have hx := Bd.exec
  have hby := Bd.bytes
  have hml : c.maxLocals = 7 := hml0
  have hown : s.vm.findClass "com/example/lifetable/lifetable/output/ColumnOfPinLaw" = some m.cls := findClass_of_methodNamed Bd.named
  have hnm := (name_of_methodNamed Bd.named Bd.method).1
  have X0 : Stand p l e ({ frames := 3, cells := 6, slots := 12, locals := 43 } : Room) (s.setVm s.vm) m #[(.int (0 : Int32)), (.int ya), (.int yb), (.int yc)] below meth c s₁ [] 0 0 := Stand.of_body Bd
  have hZ : Z.Warmed39 (s.setVm s.vm).vm := hZ
  have hown : (s.setVm s.vm).vm.findClass "com/example/lifetable/lifetable/output/ColumnOfPinLaw" = some m.cls := hown
  have hS : s.Since s.vm s.heap.size := (State.WarmedH.refl s).since _
  have HK0 : s.heap.size ≤ h0.size := Nat.le_of_eq (congrArg Array.size hh)
  have CH0 : CHr Z ELs s.vm h0 s.vm h0 := CHr.refl hCH
  have hEW := own_EW hw
  have e0 : s₁.heap = h0 := by rw [← hh, Bd.state]; rfl
  have N0 := Fr.nil n0
  have k0 : ∀ tg, Steps p.tables e below (s₁.setTop (mkF m 0 #[.val (.int (0 : Int32)), .val (.int ya), .val (.int yb), .val (.int yc), .unset, .unset, .unset] [])) tg → Steps p.tables e below (s₁.setTop (entryFrame m #[(.int (0 : Int32)), (.int ya), (.int yb), (.int yc)] 7)) tg := fun tg kq_ => castTop (ef_rmDraw0 m ya yb yc) kq_
  have hd1 : (0 : Int32) = (0 : Int32) := rfl
  obtain ⟨T2, h2, X2, e2, E2, A2, D2, -, st2⟩ := newO X0 hx hZ hown (hw _ (List.mem_of_getElem? (i := 4) rfl)) (hw _ (List.mem_of_getElem? (i := 5) rfl)) (hw _ (List.mem_of_getElem? (i := 6) rfl)) e0 (g := (mkF m 28 #[.val (.int (0 : Int32)), .val (.int ya), .val (.int yb), .val (.int yc), .val (.int ((ya &&& (255 : Int32)).toUInt32.toUInt16.toUInt32.toInt32)), .val (.int ((yb &&& (255 : Int32)).toUInt32.toUInt16.toUInt32.toInt32)), .val (.int ((yc &&& (255 : Int32)).toUInt32.toUInt16.toUInt32.toInt32))] [])) rfl (hb hby d1_28) (by decide) (by decide)
  obtain ⟨b2, g2⟩ : ∃ z, z = h0.size := ⟨_, rfl⟩
  have g_b2 : n0 ≤ b2 := Nat.le_trans Z0 (Nat.le_of_eq g2.symm)
  have sz_b2 : h0.size ≤ b2 := Nat.le_trans (Keep.refl h0 []).1 (Nat.le_of_eq g2.symm)
  rw [← g2] at A2 D2 st2
  have HK2 := Nat.le_trans HK0 E2.1
  have CH2 := CH0.trans (CHr.ext E2 CH0.1)
  have Z2 := Nat.le_trans Z0 E2.1
  have KP2 := (Keep.refl h0 []).ext E2
  have F_coder_b2 : Fld Z h2 b2 "java/lang/String" "coder" "B" (.int (0 : Int32)) := D2 (Or.inr (hw _ (List.mem_of_getElem? (i := 31) rfl))) (ty := .byte) (by decide)
  have F_value_b2 : Fld Z h2 b2 "java/lang/String" "value" "[B" .null := D2 (Or.inr (hw _ (List.mem_of_getElem? (i := 33) rfl))) (ty := (.array .byte)) (by decide)
  obtain ⟨T3, h3, c3, X3, e3, E3, A3, st3⟩ := newP X2 hx hZ (hw _ (List.mem_of_getElem? (i := 7) rfl)) e2 (g := (mkF m 33 #[.val (.int (0 : Int32)), .val (.int ya), .val (.int yb), .val (.int yc), .val (.int ((ya &&& (255 : Int32)).toUInt32.toUInt16.toUInt32.toInt32)), .val (.int ((yb &&& (255 : Int32)).toUInt32.toUInt16.toUInt32.toInt32)), .val (.int ((yc &&& (255 : Int32)).toUInt32.toUInt16.toUInt32.toInt32))] [(.int (0 : Int32)), (.ref b2), (.ref b2)])) rfl (hb hby d1_33) rfl (by decide) (cap := 0) (by decide) (by decide) (by decide) (by decide)
  obtain ⟨b3, g3⟩ : ∃ z, z = h2.size := ⟨_, rfl⟩
  have ne_b2_b3 : b2 ≠ b3 := Nat.ne_of_lt (Nat.lt_of_lt_of_le A2.lt (Nat.le_of_eq g3.symm))
  have g_b3 : n0 ≤ b3 := Nat.le_trans Z2 (Nat.le_of_eq g3.symm)
  have sz_b3 : h0.size ≤ b3 := Nat.le_trans KP2.1 (Nat.le_of_eq g3.symm)
  rw [← g3] at A3 st3
  have HK3 := Nat.le_trans HK2 E3.1
  have CH3 := CH2.trans (CHr.ext E3 CH2.1)
  have E3_b2 := A2.ext E3
  have F3_b2_coder := F_coder_b2.ext E3
  have F3_b2_value := F_value_b2.ext E3
  have Z3 := Nat.le_trans Z2 E3.1
  have KP3 := KP2.ext E3
  have V_b3 : Arv Z h3 b3 c3 .char (0 : Int32) [] (.int (0 : Int32)) := (Arv.new A3 (by decide)).pad (pad_rep [] (.int (0 : Int32)) 0)
  have k5 : ∀ tg, Steps p.tables e below (T3.setTop (mkF m 35 #[.val (.int (0 : Int32)), .val (.int ya), .val (.int yb), .val (.int yc), .val (.int ((ya &&& (255 : Int32)).toUInt32.toUInt16.toUInt32.toInt32)), .val (.int ((yb &&& (255 : Int32)).toUInt32.toUInt16.toUInt32.toInt32)), .val (.int ((yc &&& (255 : Int32)).toUInt32.toUInt16.toUInt32.toInt32))] [(.ref b3), (.ref b2), (.ref b2)])) tg → Steps p.tables e below (s₁.setTop (entryFrame m #[(.int (0 : Int32)), (.int ya), (.int yb), (.int yc)] 7)) tg := by
    intro tg kt
    refine k0 tg ?_
    show Steps p.tables e below (s₁.setTop (mkF m 0 #[.val (.int (0 : Int32)), .val (.int ya), .val (.int yb), .val (.int yc), .unset, .unset, .unset] [])) _
    refine XS.iloadN X0.here hx rfl (hb hby d1_0) rfl ?_
    show Steps p.tables e below (s₁.setTop (mkF m 1 #[.val (.int (0 : Int32)), .val (.int ya), .val (.int yb), .val (.int yc), .unset, .unset, .unset] [(.int ya)])) _
    refine XS.sipush X0.here hx rfl (hb hby d1_1) ?_
    show Steps p.tables e below (s₁.setTop (mkF m 4 #[.val (.int (0 : Int32)), .val (.int ya), .val (.int yb), .val (.int yc), .unset, .unset, .unset] [(.int (255 : Int32)), (.int ya)])) _
    refine XS.iand X0.here hx rfl (hb hby d1_4) rfl ?_
    show Steps p.tables e below (s₁.setTop (mkF m 5 #[.val (.int (0 : Int32)), .val (.int ya), .val (.int yb), .val (.int yc), .unset, .unset, .unset] [(.int (ya &&& (255 : Int32)))])) _
    refine XS.i2c X0.here hx rfl (hb hby d1_5) rfl ?_
    show Steps p.tables e below (s₁.setTop (mkF m 6 #[.val (.int (0 : Int32)), .val (.int ya), .val (.int yb), .val (.int yc), .unset, .unset, .unset] [(.int ((ya &&& (255 : Int32)).toUInt32.toUInt16.toUInt32.toInt32))])) _
    refine XS.istore X0.here hx rfl (hb hby d1_6) rfl (l' := #[.val (.int (0 : Int32)), .val (.int ya), .val (.int yb), .val (.int yc), .val (.int ((ya &&& (255 : Int32)).toUInt32.toUInt16.toUInt32.toInt32)), .unset, .unset]) rfl ?_
    show Steps p.tables e below (s₁.setTop (mkF m 8 #[.val (.int (0 : Int32)), .val (.int ya), .val (.int yb), .val (.int yc), .val (.int ((ya &&& (255 : Int32)).toUInt32.toUInt16.toUInt32.toInt32)), .unset, .unset] [])) _
    refine XS.iloadN X0.here hx rfl (hb hby d1_8) rfl ?_
    show Steps p.tables e below (s₁.setTop (mkF m 9 #[.val (.int (0 : Int32)), .val (.int ya), .val (.int yb), .val (.int yc), .val (.int ((ya &&& (255 : Int32)).toUInt32.toUInt16.toUInt32.toInt32)), .unset, .unset] [(.int yb)])) _
    refine XS.sipush X0.here hx rfl (hb hby d1_9) ?_
    show Steps p.tables e below (s₁.setTop (mkF m 12 #[.val (.int (0 : Int32)), .val (.int ya), .val (.int yb), .val (.int yc), .val (.int ((ya &&& (255 : Int32)).toUInt32.toUInt16.toUInt32.toInt32)), .unset, .unset] [(.int (255 : Int32)), (.int yb)])) _
    refine XS.iand X0.here hx rfl (hb hby d1_12) rfl ?_
    show Steps p.tables e below (s₁.setTop (mkF m 13 #[.val (.int (0 : Int32)), .val (.int ya), .val (.int yb), .val (.int yc), .val (.int ((ya &&& (255 : Int32)).toUInt32.toUInt16.toUInt32.toInt32)), .unset, .unset] [(.int (yb &&& (255 : Int32)))])) _
    refine XS.i2c X0.here hx rfl (hb hby d1_13) rfl ?_
    show Steps p.tables e below (s₁.setTop (mkF m 14 #[.val (.int (0 : Int32)), .val (.int ya), .val (.int yb), .val (.int yc), .val (.int ((ya &&& (255 : Int32)).toUInt32.toUInt16.toUInt32.toInt32)), .unset, .unset] [(.int ((yb &&& (255 : Int32)).toUInt32.toUInt16.toUInt32.toInt32))])) _
    refine XS.istore X0.here hx rfl (hb hby d1_14) rfl (l' := #[.val (.int (0 : Int32)), .val (.int ya), .val (.int yb), .val (.int yc), .val (.int ((ya &&& (255 : Int32)).toUInt32.toUInt16.toUInt32.toInt32)), .val (.int ((yb &&& (255 : Int32)).toUInt32.toUInt16.toUInt32.toInt32)), .unset]) rfl ?_
    show Steps p.tables e below (s₁.setTop (mkF m 16 #[.val (.int (0 : Int32)), .val (.int ya), .val (.int yb), .val (.int yc), .val (.int ((ya &&& (255 : Int32)).toUInt32.toUInt16.toUInt32.toInt32)), .val (.int ((yb &&& (255 : Int32)).toUInt32.toUInt16.toUInt32.toInt32)), .unset] [])) _
    refine XS.iloadN X0.here hx rfl (hb hby d1_16) rfl ?_
    show Steps p.tables e below (s₁.setTop (mkF m 17 #[.val (.int (0 : Int32)), .val (.int ya), .val (.int yb), .val (.int yc), .val (.int ((ya &&& (255 : Int32)).toUInt32.toUInt16.toUInt32.toInt32)), .val (.int ((yb &&& (255 : Int32)).toUInt32.toUInt16.toUInt32.toInt32)), .unset] [(.int yc)])) _
    refine XS.sipush X0.here hx rfl (hb hby d1_17) ?_
    show Steps p.tables e below (s₁.setTop (mkF m 20 #[.val (.int (0 : Int32)), .val (.int ya), .val (.int yb), .val (.int yc), .val (.int ((ya &&& (255 : Int32)).toUInt32.toUInt16.toUInt32.toInt32)), .val (.int ((yb &&& (255 : Int32)).toUInt32.toUInt16.toUInt32.toInt32)), .unset] [(.int (255 : Int32)), (.int yc)])) _
    refine XS.iand X0.here hx rfl (hb hby d1_20) rfl ?_
    show Steps p.tables e below (s₁.setTop (mkF m 21 #[.val (.int (0 : Int32)), .val (.int ya), .val (.int yb), .val (.int yc), .val (.int ((ya &&& (255 : Int32)).toUInt32.toUInt16.toUInt32.toInt32)), .val (.int ((yb &&& (255 : Int32)).toUInt32.toUInt16.toUInt32.toInt32)), .unset] [(.int (yc &&& (255 : Int32)))])) _
    refine XS.i2c X0.here hx rfl (hb hby d1_21) rfl ?_
    show Steps p.tables e below (s₁.setTop (mkF m 22 #[.val (.int (0 : Int32)), .val (.int ya), .val (.int yb), .val (.int yc), .val (.int ((ya &&& (255 : Int32)).toUInt32.toUInt16.toUInt32.toInt32)), .val (.int ((yb &&& (255 : Int32)).toUInt32.toUInt16.toUInt32.toInt32)), .unset] [(.int ((yc &&& (255 : Int32)).toUInt32.toUInt16.toUInt32.toInt32))])) _
    refine XS.istore X0.here hx rfl (hb hby d1_22) rfl (l' := #[.val (.int (0 : Int32)), .val (.int ya), .val (.int yb), .val (.int yc), .val (.int ((ya &&& (255 : Int32)).toUInt32.toUInt16.toUInt32.toInt32)), .val (.int ((yb &&& (255 : Int32)).toUInt32.toUInt16.toUInt32.toInt32)), .val (.int ((yc &&& (255 : Int32)).toUInt32.toUInt16.toUInt32.toInt32))]) rfl ?_
    show Steps p.tables e below (s₁.setTop (mkF m 24 #[.val (.int (0 : Int32)), .val (.int ya), .val (.int yb), .val (.int yc), .val (.int ((ya &&& (255 : Int32)).toUInt32.toUInt16.toUInt32.toInt32)), .val (.int ((yb &&& (255 : Int32)).toUInt32.toUInt16.toUInt32.toInt32)), .val (.int ((yc &&& (255 : Int32)).toUInt32.toUInt16.toUInt32.toInt32))] [])) _
    refine XS.iloadN X0.here hx rfl (hb hby d1_24) rfl ?_
    show Steps p.tables e below (s₁.setTop (mkF m 25 #[.val (.int (0 : Int32)), .val (.int ya), .val (.int yb), .val (.int yc), .val (.int ((ya &&& (255 : Int32)).toUInt32.toUInt16.toUInt32.toInt32)), .val (.int ((yb &&& (255 : Int32)).toUInt32.toUInt16.toUInt32.toInt32)), .val (.int ((yc &&& (255 : Int32)).toUInt32.toUInt16.toUInt32.toInt32))] [(.int (0 : Int32))])) _
    refine XS.ifNo X0.here hx rfl (hb hby d1_25) rfl ((if0 _ _).trans (teq hd1).2) ?_
    show Steps p.tables e below (s₁.setTop (mkF m 28 #[.val (.int (0 : Int32)), .val (.int ya), .val (.int yb), .val (.int yc), .val (.int ((ya &&& (255 : Int32)).toUInt32.toUInt16.toUInt32.toInt32)), .val (.int ((yb &&& (255 : Int32)).toUInt32.toUInt16.toUInt32.toInt32)), .val (.int ((yc &&& (255 : Int32)).toUInt32.toUInt16.toUInt32.toInt32))] [])) _
    refine st2 _ ?_
    show Steps p.tables e below (T2.setTop (mkF m 31 #[.val (.int (0 : Int32)), .val (.int ya), .val (.int yb), .val (.int yc), .val (.int ((ya &&& (255 : Int32)).toUInt32.toUInt16.toUInt32.toInt32)), .val (.int ((yb &&& (255 : Int32)).toUInt32.toUInt16.toUInt32.toInt32)), .val (.int ((yc &&& (255 : Int32)).toUInt32.toUInt16.toUInt32.toInt32))] [(.ref b2)])) _
    refine XS.dup X2.here hx rfl (hb hby d1_31) rfl rfl ?_
    show Steps p.tables e below (T2.setTop (mkF m 32 #[.val (.int (0 : Int32)), .val (.int ya), .val (.int yb), .val (.int yc), .val (.int ((ya &&& (255 : Int32)).toUInt32.toUInt16.toUInt32.toInt32)), .val (.int ((yb &&& (255 : Int32)).toUInt32.toUInt16.toUInt32.toInt32)), .val (.int ((yc &&& (255 : Int32)).toUInt32.toUInt16.toUInt32.toInt32))] [(.ref b2), (.ref b2)])) _
    refine XS.iconst X2.here hx rfl (hb hby d1_32) ?_
    show Steps p.tables e below (T2.setTop (mkF m 33 #[.val (.int (0 : Int32)), .val (.int ya), .val (.int yb), .val (.int yc), .val (.int ((ya &&& (255 : Int32)).toUInt32.toUInt16.toUInt32.toInt32)), .val (.int ((yb &&& (255 : Int32)).toUInt32.toUInt16.toUInt32.toInt32)), .val (.int ((yc &&& (255 : Int32)).toUInt32.toUInt16.toUInt32.toInt32))] [(.int (0 : Int32)), (.ref b2), (.ref b2)])) _
    refine st3 _ ?_
    show Steps p.tables e below (T3.setTop (mkF m 35 #[.val (.int (0 : Int32)), .val (.int ya), .val (.int yb), .val (.int yc), .val (.int ((ya &&& (255 : Int32)).toUInt32.toUInt16.toUInt32.toInt32)), .val (.int ((yb &&& (255 : Int32)).toUInt32.toUInt16.toUInt32.toInt32)), .val (.int ((yc &&& (255 : Int32)).toUInt32.toUInt16.toUInt32.toInt32))] [(.ref b3), (.ref b2), (.ref b2)])) _
    exact kt
  obtain ⟨_, _, ⟨T4, L4, k4, n4⟩, -, X4, S24, gr4, ⟨Lc4, hQ4, l4, y4, z4, CQ4⟩, st4⟩ := X3.specialBackS hx (y := (⟨"java/lang/String", "<init>", "([C)V"⟩ : MethodName)) rfl hown (mvT hZ (hw _ (List.mem_of_getElem? (i := 8) rfl))) (mvT hZ (hw _ (List.mem_of_getElem? (i := 9) rfl))) (mvT hZ (hw _ (List.mem_of_getElem? (i := 10) rfl))) (by decide) (backOfSH (W := 1) (rmNew1 l Z a0 hw [] b2 b3 c3 h3 n0 Z3 E3_b2 F3_b2_value F3_b2_coder g_b2 V_b3) hZ (hw _ (List.mem_of_getElem? (i := 10) rfl)) (hw _ (List.mem_of_getElem? (i := 6) rfl)) (by decide) (by decide) hEW CH3.1) (g := (mkF m 35 #[.val (.int (0 : Int32)), .val (.int ya), .val (.int yb), .val (.int yc), .val (.int ((ya &&& (255 : Int32)).toUInt32.toUInt16.toUInt32.toInt32)), .val (.int ((yb &&& (255 : Int32)).toUInt32.toUInt16.toUInt32.toInt32)), .val (.int ((yc &&& (255 : Int32)).toUInt32.toUInt16.toUInt32.toInt32))] [(.ref b3), (.ref b2), (.ref b2)])) rfl (by rw [hml]; rfl) (Steps.refl _) (a := b2) (argsL := [(.ref b3)]) (rest := [(.ref b2)]) (lenOf pd_0 rfl) rfl (by show 2 * 0 + _ ≤ _; exact Nat.le_of_eq rfl) (hb hby d1_35) (fun _ _ => ⟨rfl, e3, (by decide : 2 + 4 ≤ _), (by decide : 4 + 8 ≤ _)⟩)
  dsimp only [Pt.U, Pt.locs, Pt.cells, Pt.slots] at X4 l4 y4 z4 st4 hQ4 S24 gr4 CQ4
  subst l4 y4 z4
  obtain ⟨X4, hS, hZ, hown⟩ := rebS hS (own_hk e3 HK3) X4 S24 gr4 hZ hown
  have CH4 := CH3.trans CQ4
  obtain ⟨rfl, N4q, K4, bt4, kb4, C4x, F4x, V4x⟩ := hQ4
  have N4 := Fr.app N0 N4q
  have E4_b2 := E3_b2.keep K4
  have V4_b3 := V_b3.keep K4 (ninS (Ne.symm ne_b2_b3) nin0)
  have Z4 := Nat.le_trans Z3 K4.1
  have KP4 := KP3.trans K4 (allS (Or.inr sz_b2) all0)
  have k6 : ∀ tg, Steps p.tables e below (T4.setTop (mkF m 38 #[.val (.int (0 : Int32)), .val (.int ya), .val (.int yb), .val (.int yc), .val (.int ((ya &&& (255 : Int32)).toUInt32.toUInt16.toUInt32.toInt32)), .val (.int ((yb &&& (255 : Int32)).toUInt32.toUInt16.toUInt32.toInt32)), .val (.int ((yc &&& (255 : Int32)).toUInt32.toUInt16.toUInt32.toInt32))] [(.ref b2)])) tg → Steps p.tables e below (s₁.setTop (entryFrame m #[(.int (0 : Int32)), (.int ya), (.int yb), (.int yc)] 7)) tg := by
    intro tg kt
    refine k5 tg ?_
    refine st4.trans ?_
    show Steps p.tables e below (T4.setTop (mkF m 38 #[.val (.int (0 : Int32)), .val (.int ya), .val (.int yb), .val (.int yc), .val (.int ((ya &&& (255 : Int32)).toUInt32.toUInt16.toUInt32.toInt32)), .val (.int ((yb &&& (255 : Int32)).toUInt32.toUInt16.toUInt32.toInt32)), .val (.int ((yc &&& (255 : Int32)).toUInt32.toUInt16.toUInt32.toInt32))] [(.ref b2)])) _
    exact kt
  obtain ⟨fs, hr, hrun, hended, hRW⟩ := X4.leaveW hS (own_hk rfl (Nat.le_refl _)) (v := some (.ref b2)) (fun h => by rw [Bd.returns] at h; cases h)
  refine ⟨_, _, k6 _ ?_, hrun, hended, _, _, rfl, ?_, ?_, hRW.1, hRW.2.1, hRW.2.2.1, hRW.2.2.2.mono (by decide) (by decide)⟩
  · exact own_retA X4 hx Bd.returns rfl (hb hby d1_38) hr
  · show QDraw Z [] h0 n0 _ T4.heap _
    exact ⟨N4, KP4, b2, bt4, kb4, rfl, sz_b2, E4_b2, C4x, F4x, V4x⟩
  · rw [hh]
    show CHr _ _ _ _ T4.vm T4.heap
    exact CH4.trans (CHv.at X4 hZ hEW CH4.1)
theorem d8_0 : decode method_3_code 0 = .ok (.iload_n 0, 1) := by decide +kernel
theorem d8_1 : decode method_3_code 1 = .ok (.ldc 12, 2) := by decide +kernel
theorem d8_3 : decode method_3_code 3 = .ok (.iand, 1) := by decide +kernel
theorem d8_4 : decode method_3_code 4 = .ok (.iconst 3, 1) := by decide +kernel
theorem d8_5 : decode method_3_code 5 = .ok (.irem, 1) := by decide +kernel
theorem d8_6 : decode method_3_code 6 = .ok (.istore_n 1, 1) := by decide +kernel
theorem d8_7 : decode method_3_code 7 = .ok (.iload_n 1, 1) := by decide +kernel
theorem d8_8 : decode method_3_code 8 = .ok (.ifCond .ne 7, 3) := by decide +kernel
theorem d8_11 : decode method_3_code 11 = .ok (.getstatic 13, 3) := by decide +kernel
theorem d8_14 : decode method_3_code 14 = .ok (.areturn, 1) := by decide +kernel
theorem d8_15 : decode method_3_code 15 = .ok (.iload_n 1, 1) := by decide +kernel
theorem d8_16 : decode method_3_code 16 = .ok (.iconst 1, 1) := by decide +kernel
theorem d8_17 : decode method_3_code 17 = .ok (.if_icmp .ne 7, 3) := by decide +kernel
theorem d8_20 : decode method_3_code 20 = .ok (.getstatic 19, 3) := by decide +kernel
theorem d8_23 : decode method_3_code 23 = .ok (.areturn, 1) := by decide +kernel
theorem d8_24 : decode method_3_code 24 = .ok (.getstatic 22, 3) := by decide +kernel
theorem d8_27 : decode method_3_code 27 = .ok (.areturn, 1) := by decide +kernel
theorem pn_8 : plainName "com/example/lifetable/lifetable/output/ColumnOfPinLaw" = true := by first | (simp [plainName, overriddenIn]; done) | decide +kernel
theorem ef_rmPick (m : MethodId) (k : Int32) : entryFrame m #[(.int k)] 2 = mkF m 0 #[.val (.int k), .unset] [] := by first | (simp [entryFrame, mkF, argsToLocals, Value.category]; done) | rfl
set_option maxRecDepth 65536 in
set_option maxHeartbeats 40000000 in
theorem rmPick (l : Launch) (Z : State) (a0 : Array Value) (hw : ∀ d ∈ tables_1, d.before a0 Z = true) (ws : List Jvm.Cond) (k : Int32) (v_TEXT v_INTEGER v_REAL : Addr) (h0 : Heap) (n0 : Nat) (S_TEXT : Sta Z h0 "com/example/lifetable/lifetable/output/Column$Type" "TEXT" "Lcom/example/lifetable/lifetable/output/Column$Type;" (.ref v_TEXT)) (S_INTEGER : Sta Z h0 "com/example/lifetable/lifetable/output/Column$Type" "INTEGER" "Lcom/example/lifetable/lifetable/output/Column$Type;" (.ref v_INTEGER)) (S_REAL : Sta Z h0 "com/example/lifetable/lifetable/output/Column$Type" "REAL" "Lcom/example/lifetable/lifetable/output/Column$Type;" (.ref v_REAL)) :
    MetFree l (⟨"com/example/lifetable/lifetable/output/ColumnOfPinLaw", "pick", "(I)Lcom/example/lifetable/lifetable/output/Column$Type;"⟩ : MethodName) (head1 (Jvm.Cond.code (⟨"com/example/lifetable/lifetable/output/ColumnOfPinLaw", "pick", "(I)Lcom/example/lifetable/lifetable/output/Column$Type;"⟩ : MethodName) method_3_code 2 (some (.object "com/example/lifetable/lifetable/output/Column$Type")) :: ws) ({ frames := 0, cells := 0, slots := 0, locals := 0 } : Room)) (fun a_ U_ => a_ = #[(.int k)] ∧ Z.Warmed39 U_.vm ∧ U_.heap = h0) (fun _ _ _ _ _ => True) (fun _ U_ o_ U'_ => ∃ v_ L_, o_ = .returned v_ ∧ QV (.ref (if ((k &&& (2147483647 : Int32)) % (3 : Int32)) = (0 : Int32) then v_TEXT else (if ((k &&& (2147483647 : Int32)) % (3 : Int32)) = (1 : Int32) then v_INTEGER else v_REAL))) h0 n0 v_ U'_.heap L_ ∧ FrameEnd U_ o_ U'_ L_ ({ frames := 0, cells := 0, slots := 0, locals := 0 } : Room).cells ({ frames := 0, cells := 0, slots := 0, locals := 0 } : Room).slots) := by
  refine MetFree.of_bodySF (plainFor_of_name pn_8) hisR ?_
  intro p e s m args below meth c s₁ Bd hml0 hP hK
  obtain ⟨rfl, hZ, hh⟩ := hP
  have hx := Bd.exec
  have hby := Bd.bytes
  have hml : c.maxLocals = 2 := hml0
  have hown : s.vm.findClass "com/example/lifetable/lifetable/output/ColumnOfPinLaw" = some m.cls := findClass_of_methodNamed Bd.named
  have hnm := (name_of_methodNamed Bd.named Bd.method).1
  have X0 : Stand p l e ({ frames := 0, cells := 0, slots := 0, locals := 0 } : Room) s m #[(.int k)] below meth c s₁ [] 0 0 := Stand.of_body Bd
  have e0 : s₁.heap = h0 := by rw [← hh, Bd.state]; rfl
  have N0 := Fr.nil n0
  have k0 : ∀ tg, Steps p.tables e below (s₁.setTop (mkF m 0 #[.val (.int k), .unset] [])) tg → Steps p.tables e below (s₁.setTop (entryFrame m #[(.int k)] 2)) tg := fun tg kq_ => castTop (ef_rmPick m k) kq_
  have k1 : ∀ tg, Steps p.tables e below (s₁.setTop (mkF m 8 #[.val (.int k), .val (.int ((k &&& (2147483647 : Int32)) % (3 : Int32)))] [(.int ((k &&& (2147483647 : Int32)) % (3 : Int32)))])) tg → Steps p.tables e below (s₁.setTop (entryFrame m #[(.int k)] 2)) tg := by
    intro tg kt
    refine k0 tg ?_
    show Steps p.tables e below (s₁.setTop (mkF m 0 #[.val (.int k), .unset] [])) _
    refine XS.iloadN X0.here hx rfl (hb hby d8_0) rfl ?_
    show Steps p.tables e below (s₁.setTop (mkF m 1 #[.val (.int k), .unset] [(.int k)])) _
    refine X0.ldcInt hx hown (mvT hZ (hw _ (List.mem_of_getElem? (i := 37) rfl))) (g := (mkF m 1 #[.val (.int k), .unset] [(.int k)])) rfl (hb hby d8_1) _ ?_
    show Steps p.tables e below (s₁.setTop (mkF m 3 #[.val (.int k), .unset] [(.int (2147483647 : Int32)), (.int k)])) _
    refine XS.iand X0.here hx rfl (hb hby d8_3) rfl ?_
    show Steps p.tables e below (s₁.setTop (mkF m 4 #[.val (.int k), .unset] [(.int (k &&& (2147483647 : Int32)))])) _
    refine XS.iconst X0.here hx rfl (hb hby d8_4) ?_
    show Steps p.tables e below (s₁.setTop (mkF m 5 #[.val (.int k), .unset] [(.int (3 : Int32)), (.int (k &&& (2147483647 : Int32)))])) _
    refine iremM X0 hx rfl (hb hby d8_5) rfl (by decide) ?_
    show Steps p.tables e below (s₁.setTop (mkF m 6 #[.val (.int k), .unset] [(.int ((k &&& (2147483647 : Int32)) % (3 : Int32)))])) _
    refine XS.istoreN X0.here hx rfl (hb hby d8_6) rfl (l' := #[.val (.int k), .val (.int ((k &&& (2147483647 : Int32)) % (3 : Int32)))]) rfl ?_
    show Steps p.tables e below (s₁.setTop (mkF m 7 #[.val (.int k), .val (.int ((k &&& (2147483647 : Int32)) % (3 : Int32)))] [])) _
    refine XS.iloadN X0.here hx rfl (hb hby d8_7) rfl ?_
    show Steps p.tables e below (s₁.setTop (mkF m 8 #[.val (.int k), .val (.int ((k &&& (2147483647 : Int32)) % (3 : Int32)))] [(.int ((k &&& (2147483647 : Int32)) % (3 : Int32)))])) _
    exact kt
  by_cases hc2 : ((k &&& (2147483647 : Int32)) % (3 : Int32)) = (0 : Int32)
  · obtain ⟨T3, X3, e3, st3⟩ := getS2 X0 hx hZ hown (host := "") (Or.inl (hw _ (List.mem_of_getElem? (i := 38) rfl))) Via.refl e0 S_TEXT (g := (mkF m 11 #[.val (.int k), .val (.int ((k &&& (2147483647 : Int32)) % (3 : Int32)))] [])) rfl (hb hby d8_11)
    have k4 : ∀ tg, Steps p.tables e below (T3.setTop (mkF m 14 #[.val (.int k), .val (.int ((k &&& (2147483647 : Int32)) % (3 : Int32)))] [(.ref v_TEXT)])) tg → Steps p.tables e below (s₁.setTop (entryFrame m #[(.int k)] 2)) tg := by
      intro tg kt
      refine k1 tg ?_
      refine XS.ifNo X0.here hx rfl (hb hby d8_8) rfl ((if0 _ _).trans (teq hc2).2) ?_
      show Steps p.tables e below (s₁.setTop (mkF m 11 #[.val (.int k), .val (.int ((k &&& (2147483647 : Int32)) % (3 : Int32)))] [])) _
      refine st3 _ ?_
      show Steps p.tables e below (T3.setTop (mkF m 14 #[.val (.int k), .val (.int ((k &&& (2147483647 : Int32)) % (3 : Int32)))] [(.ref v_TEXT)])) _
      exact kt
    obtain ⟨fs, hr, hrun, hended, hW, hsame⟩ := X3.leave (v := some (.ref v_TEXT)) (fun h => by rw [Bd.returns] at h; cases h)
    refine ⟨_, _, k4 _ ?_, hrun, hended, _, _, rfl, ?_, ⟨_, rfl⟩, hW, hsame.mono (by decide) (by decide)⟩
    · exact own_retA X3 hx Bd.returns rfl (hb hby d8_14) hr
    · show QV _ h0 n0 _ T3.heap _
      exact ⟨by rw [if_pos hc2], N0, e3⟩
  · have k5 : ∀ tg, Steps p.tables e below (s₁.setTop (mkF m 17 #[.val (.int k), .val (.int ((k &&& (2147483647 : Int32)) % (3 : Int32)))] [(.int (1 : Int32)), (.int ((k &&& (2147483647 : Int32)) % (3 : Int32)))])) tg → Steps p.tables e below (s₁.setTop (entryFrame m #[(.int k)] 2)) tg := by
      intro tg kt
      refine k1 tg ?_
      refine XS.ifYes X0.here hx rfl (pc0 := 8) (pc' := 15) rfl (hb hby d8_8) rfl ((if0 _ _).trans (feq hc2).2) (by decide) (by decide) ?_
      show Steps p.tables e below (s₁.setTop (mkF m 15 #[.val (.int k), .val (.int ((k &&& (2147483647 : Int32)) % (3 : Int32)))] [])) _
      refine XS.iloadN X0.here hx rfl (hb hby d8_15) rfl ?_
      show Steps p.tables e below (s₁.setTop (mkF m 16 #[.val (.int k), .val (.int ((k &&& (2147483647 : Int32)) % (3 : Int32)))] [(.int ((k &&& (2147483647 : Int32)) % (3 : Int32)))])) _
      refine XS.iconst X0.here hx rfl (hb hby d8_16) ?_
      show Steps p.tables e below (s₁.setTop (mkF m 17 #[.val (.int k), .val (.int ((k &&& (2147483647 : Int32)) % (3 : Int32)))] [(.int (1 : Int32)), (.int ((k &&& (2147483647 : Int32)) % (3 : Int32)))])) _
      exact kt
    by_cases hc6 : ((k &&& (2147483647 : Int32)) % (3 : Int32)) = (1 : Int32)
    · obtain ⟨T7, X7, e7, st7⟩ := getS2 X0 hx hZ hown (host := "") (Or.inl (hw _ (List.mem_of_getElem? (i := 116) rfl))) Via.refl e0 S_INTEGER (g := (mkF m 20 #[.val (.int k), .val (.int ((k &&& (2147483647 : Int32)) % (3 : Int32)))] [])) rfl (hb hby d8_20)
      have k8 : ∀ tg, Steps p.tables e below (T7.setTop (mkF m 23 #[.val (.int k), .val (.int ((k &&& (2147483647 : Int32)) % (3 : Int32)))] [(.ref v_INTEGER)])) tg → Steps p.tables e below (s₁.setTop (entryFrame m #[(.int k)] 2)) tg := by
        intro tg kt
        refine k5 tg ?_
        refine XS.icmpNo X0.here hx rfl (hb hby d8_17) rfl (teq hc6).2 ?_
        show Steps p.tables e below (s₁.setTop (mkF m 20 #[.val (.int k), .val (.int ((k &&& (2147483647 : Int32)) % (3 : Int32)))] [])) _
        refine st7 _ ?_
        show Steps p.tables e below (T7.setTop (mkF m 23 #[.val (.int k), .val (.int ((k &&& (2147483647 : Int32)) % (3 : Int32)))] [(.ref v_INTEGER)])) _
        exact kt
      obtain ⟨fs, hr, hrun, hended, hW, hsame⟩ := X7.leave (v := some (.ref v_INTEGER)) (fun h => by rw [Bd.returns] at h; cases h)
      refine ⟨_, _, k8 _ ?_, hrun, hended, _, _, rfl, ?_, ⟨_, rfl⟩, hW, hsame.mono (by decide) (by decide)⟩
      · exact own_retA X7 hx Bd.returns rfl (hb hby d8_23) hr
      · show QV _ h0 n0 _ T7.heap _
        exact ⟨by rw [if_neg hc2, if_pos hc6], N0, e7⟩
    · obtain ⟨T9, X9, e9, st9⟩ := getS2 X0 hx hZ hown (host := "") (Or.inl (hw _ (List.mem_of_getElem? (i := 114) rfl))) Via.refl e0 S_REAL (g := (mkF m 24 #[.val (.int k), .val (.int ((k &&& (2147483647 : Int32)) % (3 : Int32)))] [])) rfl (hb hby d8_24)
      have k10 : ∀ tg, Steps p.tables e below (T9.setTop (mkF m 27 #[.val (.int k), .val (.int ((k &&& (2147483647 : Int32)) % (3 : Int32)))] [(.ref v_REAL)])) tg → Steps p.tables e below (s₁.setTop (entryFrame m #[(.int k)] 2)) tg := by
        intro tg kt
        refine k5 tg ?_
        refine XS.icmpYes X0.here hx rfl (pc0 := 17) (pc' := 24) rfl (hb hby d8_17) rfl (feq hc6).2 (by decide) (by decide) ?_
        show Steps p.tables e below (s₁.setTop (mkF m 24 #[.val (.int k), .val (.int ((k &&& (2147483647 : Int32)) % (3 : Int32)))] [])) _
        refine st9 _ ?_
        show Steps p.tables e below (T9.setTop (mkF m 27 #[.val (.int k), .val (.int ((k &&& (2147483647 : Int32)) % (3 : Int32)))] [(.ref v_REAL)])) _
        exact kt
      obtain ⟨fs, hr, hrun, hended, hW, hsame⟩ := X9.leave (v := some (.ref v_REAL)) (fun h => by rw [Bd.returns] at h; cases h)
      refine ⟨_, _, k10 _ ?_, hrun, hended, _, _, rfl, ?_, ⟨_, rfl⟩, hW, hsame.mono (by decide) (by decide)⟩
      · exact own_retA X9 hx Bd.returns rfl (hb hby d8_27) hr
      · show QV _ h0 n0 _ T9.heap _
        exact ⟨by rw [if_neg hc2, if_neg hc6], N0, e9⟩
theorem d10_0 : decode jdk_31_method_11_code 0 = .ok (.aload_n 0, 1) := by decide +kernel
theorem d10_1 : decode jdk_31_method_11_code 1 = .ok (.ifnonnull 12, 3) := by decide +kernel
theorem d10_13 : decode jdk_31_method_11_code 13 = .ok (.aload_n 0, 1) := by decide +kernel
theorem d10_14 : decode jdk_31_method_11_code 14 = .ok (.areturn, 1) := by decide +kernel
theorem pn_10 : plainName "java/util/Objects" = true := by first | (simp [plainName, overriddenIn]; done) | decide +kernel
theorem ef_rmReq (m : MethodId) (o : Addr) (u : Addr) : entryFrame m #[(.ref o), (.ref u)] 2 = mkF m 0 #[.val (.ref o), .val (.ref u)] [] := by first | (simp [entryFrame, mkF, argsToLocals, Value.category]; done) | rfl
set_option maxRecDepth 65536 in
set_option maxHeartbeats 40000000 in
theorem rmReq (l : Launch) (Z : State) (a0 : Array Value) (hw : ∀ d ∈ tables_1, d.before a0 Z = true) (ws : List Jvm.Cond) (o : Addr) (u : Addr)  (h0 : Heap) (n0 : Nat)  :
    MetFree l (⟨"java/util/Objects", "requireNonNull", "(Ljava/lang/Object;Ljava/lang/String;)Ljava/lang/Object;"⟩ : MethodName) (head1 (Jvm.Cond.code (⟨"java/util/Objects", "requireNonNull", "(Ljava/lang/Object;Ljava/lang/String;)Ljava/lang/Object;"⟩ : MethodName) jdk_31_method_11_code 2 (some (.object "java/lang/Object")) :: ws) ({ frames := 0, cells := 0, slots := 0, locals := 0 } : Room)) (fun a_ U_ => a_ = #[(.ref o), (.ref u)] ∧ Z.Warmed39 U_.vm ∧ U_.heap = h0) (fun _ _ _ _ _ => True) (fun _ U_ o_ U'_ => ∃ v_ L_, o_ = .returned v_ ∧ QV (.ref o) h0 n0 v_ U'_.heap L_ ∧ FrameEnd U_ o_ U'_ L_ ({ frames := 0, cells := 0, slots := 0, locals := 0 } : Room).cells ({ frames := 0, cells := 0, slots := 0, locals := 0 } : Room).slots) := by
  refine MetFree.of_bodySF (plainFor_of_name pn_10) hisR ?_
  intro p e s m args below meth c s₁ Bd hml0 hP hK
  obtain ⟨rfl, hZ, hh⟩ := hP
  have hx := Bd.exec
  have hby := Bd.bytes
  have hml : c.maxLocals = 2 := hml0
  have hown : s.vm.findClass "java/util/Objects" = some m.cls := findClass_of_methodNamed Bd.named
  have hnm := (name_of_methodNamed Bd.named Bd.method).1
  have X0 : Stand p l e ({ frames := 0, cells := 0, slots := 0, locals := 0 } : Room) s m #[(.ref o), (.ref u)] below meth c s₁ [] 0 0 := Stand.of_body Bd
  have e0 : s₁.heap = h0 := by rw [← hh, Bd.state]; rfl
  have N0 := Fr.nil n0
  have k0 : ∀ tg, Steps p.tables e below (s₁.setTop (mkF m 0 #[.val (.ref o), .val (.ref u)] [])) tg → Steps p.tables e below (s₁.setTop (entryFrame m #[(.ref o), (.ref u)] 2)) tg := fun tg kq_ => castTop (ef_rmReq m o u) kq_
  have k1 : ∀ tg, Steps p.tables e below (s₁.setTop (mkF m 14 #[.val (.ref o), .val (.ref u)] [(.ref o)])) tg → Steps p.tables e below (s₁.setTop (entryFrame m #[(.ref o), (.ref u)] 2)) tg := by
    intro tg kt
    refine k0 tg ?_
    show Steps p.tables e below (s₁.setTop (mkF m 0 #[.val (.ref o), .val (.ref u)] [])) _
    refine XS.aloadN X0.here hx rfl (hb hby d10_0) rfl rfl ?_
    show Steps p.tables e below (s₁.setTop (mkF m 1 #[.val (.ref o), .val (.ref u)] [(.ref o)])) _
    refine XS.ifnonnullYes X0.here hx rfl (pc0 := 1) (pc' := 13) rfl (hb hby d10_1) rfl (by decide) (by decide) ?_
    show Steps p.tables e below (s₁.setTop (mkF m 13 #[.val (.ref o), .val (.ref u)] [])) _
    refine XS.aloadN X0.here hx rfl (hb hby d10_13) rfl rfl ?_
    show Steps p.tables e below (s₁.setTop (mkF m 14 #[.val (.ref o), .val (.ref u)] [(.ref o)])) _
    exact kt
  obtain ⟨fs, hr, hrun, hended, hW, hsame⟩ := X0.leave (v := some (.ref o)) (fun h => by rw [Bd.returns] at h; cases h)
  refine ⟨_, _, k1 _ ?_, hrun, hended, _, _, rfl, ?_, ⟨_, rfl⟩, hW, hsame.mono (by decide) (by decide)⟩
  · exact own_retA X0 hx Bd.returns rfl (hb hby d10_14) hr
  · show QV _ h0 n0 _ s₁.heap _
    exact ⟨rfl, N0, e0⟩
theorem d12_0 : decode prog_16_method_7_code 0 = .ok (.aload_n 0, 1) := by decide +kernel
theorem d12_1 : decode prog_16_method_7_code 1 = .ok (.getfield 17, 3) := by decide +kernel
theorem d12_4 : decode prog_16_method_7_code 4 = .ok (.areturn, 1) := by decide +kernel
theorem pn_12 : plainName "com/example/lifetable/lifetable/output/Column" = true := by first | (simp [plainName, overriddenIn]; done) | decide +kernel
theorem ef_rmName (m : MethodId) (o : Addr) : entryFrame m #[(.ref o)] 1 = mkF m 0 #[.val (.ref o)] [] := by first | (simp [entryFrame, mkF, argsToLocals, Value.category]; done) | rfl
set_option maxRecDepth 65536 in
set_option maxHeartbeats 40000000 in
theorem rmName (l : Launch) (Z : State) (a0 : Array Value) (hw : ∀ d ∈ tables_1, d.before a0 Z = true) (ws : List Jvm.Cond) (o : Addr) (u : Addr) (h0 : Heap) (n0 : Nat) (Fn : Fld Z h0 o "com/example/lifetable/lifetable/output/Column" "name" "Ljava/lang/String;" (.ref u)) :
    MetFree l (⟨"com/example/lifetable/lifetable/output/Column", "name", "()Ljava/lang/String;"⟩ : MethodName) (head1 (Jvm.Cond.code (⟨"com/example/lifetable/lifetable/output/Column", "name", "()Ljava/lang/String;"⟩ : MethodName) prog_16_method_7_code 1 (some (.object "java/lang/String")) :: ws) ({ frames := 0, cells := 0, slots := 0, locals := 0 } : Room)) (fun a_ U_ => a_ = #[(.ref o)] ∧ Z.Warmed39 U_.vm ∧ U_.heap = h0) (fun _ _ _ _ _ => True) (fun _ U_ o_ U'_ => ∃ v_ L_, o_ = .returned v_ ∧ QV (.ref u) h0 n0 v_ U'_.heap L_ ∧ FrameEnd U_ o_ U'_ L_ ({ frames := 0, cells := 0, slots := 0, locals := 0 } : Room).cells ({ frames := 0, cells := 0, slots := 0, locals := 0 } : Room).slots) := by
  refine MetFree.of_bodySF (plainFor_of_name pn_12) hisR ?_
  intro p e s m args below meth c s₁ Bd hml0 hP hK
  obtain ⟨rfl, hZ, hh⟩ := hP
  have hx := Bd.exec
  have hby := Bd.bytes
  have hml : c.maxLocals = 1 := hml0
  have hown : s.vm.findClass "com/example/lifetable/lifetable/output/Column" = some m.cls := findClass_of_methodNamed Bd.named
  have hnm := (name_of_methodNamed Bd.named Bd.method).1
  have X0 : Stand p l e ({ frames := 0, cells := 0, slots := 0, locals := 0 } : Room) s m #[(.ref o)] below meth c s₁ [] 0 0 := Stand.of_body Bd
  have e0 : s₁.heap = h0 := by rw [← hh, Bd.state]; rfl
  have N0 := Fr.nil n0
  have k0 : ∀ tg, Steps p.tables e below (s₁.setTop (mkF m 0 #[.val (.ref o)] [])) tg → Steps p.tables e below (s₁.setTop (entryFrame m #[(.ref o)] 1)) tg := fun tg kq_ => castTop (ef_rmName m o) kq_
  obtain ⟨T1, X1, e1, st1⟩ := getF X0 hx hZ hown (host := "") (Or.inl (hw _ (List.mem_of_getElem? (i := 62) rfl))) Via.refl e0 Fn (g := (mkF m 1 #[.val (.ref o)] [(.ref o)])) rfl rfl (hb hby d12_1)
  have k2 : ∀ tg, Steps p.tables e below (T1.setTop (mkF m 4 #[.val (.ref o)] [(.ref u)])) tg → Steps p.tables e below (s₁.setTop (entryFrame m #[(.ref o)] 1)) tg := by
    intro tg kt
    refine k0 tg ?_
    show Steps p.tables e below (s₁.setTop (mkF m 0 #[.val (.ref o)] [])) _
    refine XS.aloadN X0.here hx rfl (hb hby d12_0) rfl rfl ?_
    show Steps p.tables e below (s₁.setTop (mkF m 1 #[.val (.ref o)] [(.ref o)])) _
    refine st1 _ ?_
    show Steps p.tables e below (T1.setTop (mkF m 4 #[.val (.ref o)] [(.ref u)])) _
    exact kt
  obtain ⟨fs, hr, hrun, hended, hW, hsame⟩ := X1.leave (v := some (.ref u)) (fun h => by rw [Bd.returns] at h; cases h)
  refine ⟨_, _, k2 _ ?_, hrun, hended, _, _, rfl, ?_, ⟨_, rfl⟩, hW, hsame.mono (by decide) (by decide)⟩
  · exact own_retA X1 hx Bd.returns rfl (hb hby d12_4) hr
  · show QV _ h0 n0 _ T1.heap _
    exact ⟨rfl, N0, e1⟩
theorem d13_0 : decode prog_16_method_8_code 0 = .ok (.aload_n 0, 1) := by decide +kernel
theorem d13_1 : decode prog_16_method_8_code 1 = .ok (.getfield 22, 3) := by decide +kernel
theorem d13_4 : decode prog_16_method_8_code 4 = .ok (.areturn, 1) := by decide +kernel
theorem pn_13 : plainName "com/example/lifetable/lifetable/output/Column" = true := by first | (simp [plainName, overriddenIn]; done) | decide +kernel
theorem ef_rmType (m : MethodId) (o : Addr) : entryFrame m #[(.ref o)] 1 = mkF m 0 #[.val (.ref o)] [] := by first | (simp [entryFrame, mkF, argsToLocals, Value.category]; done) | rfl
set_option maxRecDepth 65536 in
set_option maxHeartbeats 40000000 in
theorem rmType (l : Launch) (Z : State) (a0 : Array Value) (hw : ∀ d ∈ tables_1, d.before a0 Z = true) (ws : List Jvm.Cond) (o : Addr) (u : Addr) (h0 : Heap) (n0 : Nat) (Ft : Fld Z h0 o "com/example/lifetable/lifetable/output/Column" "type" "Lcom/example/lifetable/lifetable/output/Column$Type;" (.ref u)) :
    MetFree l (⟨"com/example/lifetable/lifetable/output/Column", "type", "()Lcom/example/lifetable/lifetable/output/Column$Type;"⟩ : MethodName) (head1 (Jvm.Cond.code (⟨"com/example/lifetable/lifetable/output/Column", "type", "()Lcom/example/lifetable/lifetable/output/Column$Type;"⟩ : MethodName) prog_16_method_8_code 1 (some (.object "com/example/lifetable/lifetable/output/Column$Type")) :: ws) ({ frames := 0, cells := 0, slots := 0, locals := 0 } : Room)) (fun a_ U_ => a_ = #[(.ref o)] ∧ Z.Warmed39 U_.vm ∧ U_.heap = h0) (fun _ _ _ _ _ => True) (fun _ U_ o_ U'_ => ∃ v_ L_, o_ = .returned v_ ∧ QV (.ref u) h0 n0 v_ U'_.heap L_ ∧ FrameEnd U_ o_ U'_ L_ ({ frames := 0, cells := 0, slots := 0, locals := 0 } : Room).cells ({ frames := 0, cells := 0, slots := 0, locals := 0 } : Room).slots) := by
  refine MetFree.of_bodySF (plainFor_of_name pn_13) hisR ?_
  intro p e s m args below meth c s₁ Bd hml0 hP hK
  obtain ⟨rfl, hZ, hh⟩ := hP
  have hx := Bd.exec
  have hby := Bd.bytes
  have hml : c.maxLocals = 1 := hml0
  have hown : s.vm.findClass "com/example/lifetable/lifetable/output/Column" = some m.cls := findClass_of_methodNamed Bd.named
  have hnm := (name_of_methodNamed Bd.named Bd.method).1
  have X0 : Stand p l e ({ frames := 0, cells := 0, slots := 0, locals := 0 } : Room) s m #[(.ref o)] below meth c s₁ [] 0 0 := Stand.of_body Bd
  have e0 : s₁.heap = h0 := by rw [← hh, Bd.state]; rfl
  have N0 := Fr.nil n0
  have k0 : ∀ tg, Steps p.tables e below (s₁.setTop (mkF m 0 #[.val (.ref o)] [])) tg → Steps p.tables e below (s₁.setTop (entryFrame m #[(.ref o)] 1)) tg := fun tg kq_ => castTop (ef_rmType m o) kq_
  obtain ⟨T1, X1, e1, st1⟩ := getF X0 hx hZ hown (host := "") (Or.inl (hw _ (List.mem_of_getElem? (i := 64) rfl))) Via.refl e0 Ft (g := (mkF m 1 #[.val (.ref o)] [(.ref o)])) rfl rfl (hb hby d13_1)
  have k2 : ∀ tg, Steps p.tables e below (T1.setTop (mkF m 4 #[.val (.ref o)] [(.ref u)])) tg → Steps p.tables e below (s₁.setTop (entryFrame m #[(.ref o)] 1)) tg := by
    intro tg kt
    refine k0 tg ?_
    show Steps p.tables e below (s₁.setTop (mkF m 0 #[.val (.ref o)] [])) _
    refine XS.aloadN X0.here hx rfl (hb hby d13_0) rfl rfl ?_
    show Steps p.tables e below (s₁.setTop (mkF m 1 #[.val (.ref o)] [(.ref o)])) _
    refine st1 _ ?_
    show Steps p.tables e below (T1.setTop (mkF m 4 #[.val (.ref o)] [(.ref u)])) _
    exact kt
  obtain ⟨fs, hr, hrun, hended, hW, hsame⟩ := X1.leave (v := some (.ref u)) (fun h => by rw [Bd.returns] at h; cases h)
  refine ⟨_, _, k2 _ ?_, hrun, hended, _, _, rfl, ?_, ⟨_, rfl⟩, hW, hsame.mono (by decide) (by decide)⟩
  · exact own_retA X1 hx Bd.returns rfl (hb hby d13_4) hr
  · show QV _ h0 n0 _ T1.heap _
    exact ⟨rfl, N0, e1⟩
theorem d21_0 : decode jdk_42_method_66_code 0 = .ok (.aload_n 0, 1) := by decide +kernel
theorem d21_1 : decode jdk_42_method_66_code 1 = .ok (.aload_n 1, 1) := by decide +kernel
theorem d21_2 : decode jdk_42_method_66_code 2 = .ok (.if_acmp .ne 5, 3) := by decide +kernel
theorem d21_5 : decode jdk_42_method_66_code 5 = .ok (.iconst 1, 1) := by decide +kernel
theorem d21_6 : decode jdk_42_method_66_code 6 = .ok (.ireturn, 1) := by decide +kernel
theorem pn_21 : plainName "java/lang/String" = true := by first | (simp [plainName, overriddenIn]; done) | decide +kernel
theorem ef_rmEq (m : MethodId) (o : Addr) (u : Addr) : entryFrame m #[(.ref o), (.ref u)] 3 = mkF m 0 #[.val (.ref o), .val (.ref u), .unset] [] := by first | (simp [entryFrame, mkF, argsToLocals, Value.category]; done) | rfl
set_option maxRecDepth 65536 in
set_option maxHeartbeats 40000000 in
theorem rmEq (l : Launch) (Z : State) (a0 : Array Value) (hw : ∀ d ∈ tables_1, d.before a0 Z = true) (ws : List Jvm.Cond) (o : Addr) (u : Addr)  (h0 : Heap) (n0 : Nat) (hou : o = u) :
    MetFree l (⟨"java/lang/String", "equals", "(Ljava/lang/Object;)Z"⟩ : MethodName) (head1 (Jvm.Cond.code (⟨"java/lang/String", "equals", "(Ljava/lang/Object;)Z"⟩ : MethodName) jdk_42_method_66_code 3 (some .boolean) :: ws) ({ frames := 0, cells := 0, slots := 0, locals := 0 } : Room)) (fun a_ U_ => a_ = #[(.ref o), (.ref u)] ∧ Z.Warmed39 U_.vm ∧ U_.heap = h0) (fun _ _ _ _ _ => True) (fun _ U_ o_ U'_ => ∃ v_ L_, o_ = .returned v_ ∧ QV (.int (1 : Int32)) h0 n0 v_ U'_.heap L_ ∧ FrameEnd U_ o_ U'_ L_ ({ frames := 0, cells := 0, slots := 0, locals := 0 } : Room).cells ({ frames := 0, cells := 0, slots := 0, locals := 0 } : Room).slots) := by
  refine MetFree.of_bodySF (plainFor_of_name pn_21) hisR ?_
  intro p e s m args below meth c s₁ Bd hml0 hP hK
  obtain ⟨rfl, hZ, hh⟩ := hP
  have hx := Bd.exec
  have hby := Bd.bytes
  have hml : c.maxLocals = 3 := hml0
  have hown : s.vm.findClass "java/lang/String" = some m.cls := findClass_of_methodNamed Bd.named
  have hnm := (name_of_methodNamed Bd.named Bd.method).1
  have X0 : Stand p l e ({ frames := 0, cells := 0, slots := 0, locals := 0 } : Room) s m #[(.ref o), (.ref u)] below meth c s₁ [] 0 0 := Stand.of_body Bd
  have e0 : s₁.heap = h0 := by rw [← hh, Bd.state]; rfl
  have N0 := Fr.nil n0
  have k0 : ∀ tg, Steps p.tables e below (s₁.setTop (mkF m 0 #[.val (.ref o), .val (.ref u), .unset] [])) tg → Steps p.tables e below (s₁.setTop (entryFrame m #[(.ref o), (.ref u)] 3)) tg := fun tg kq_ => castTop (ef_rmEq m o u) kq_
  have ha1 : o = u := hou
  have k2 : ∀ tg, Steps p.tables e below (s₁.setTop (mkF m 6 #[.val (.ref o), .val (.ref u), .unset] [(.int (1 : Int32))])) tg → Steps p.tables e below (s₁.setTop (entryFrame m #[(.ref o), (.ref u)] 3)) tg := by
    intro tg kt
    refine k0 tg ?_
    show Steps p.tables e below (s₁.setTop (mkF m 0 #[.val (.ref o), .val (.ref u), .unset] [])) _
    refine XS.aloadN X0.here hx rfl (hb hby d21_0) rfl rfl ?_
    show Steps p.tables e below (s₁.setTop (mkF m 1 #[.val (.ref o), .val (.ref u), .unset] [(.ref o)])) _
    refine XS.aloadN X0.here hx rfl (hb hby d21_1) rfl rfl ?_
    show Steps p.tables e below (s₁.setTop (mkF m 2 #[.val (.ref o), .val (.ref u), .unset] [(.ref u), (.ref o)])) _
    refine Jvm.RoadKit.acmp (g := (mkF m 2 #[.val (.ref o), .val (.ref u), .unset] [(.ref u), (.ref o)])) X0 hx rfl rfl rfl (pc0 := 2) (pc' := 5) (same := true) rfl (hb hby d21_2) rfl (decide_eq_true (congrArg Value.ref ha1)) (by decide) (by decide) ?_
    show Steps p.tables e below (s₁.setTop (mkF m 5 #[.val (.ref o), .val (.ref u), .unset] [])) _
    refine XS.iconst X0.here hx rfl (hb hby d21_5) ?_
    show Steps p.tables e below (s₁.setTop (mkF m 6 #[.val (.ref o), .val (.ref u), .unset] [(.int (1 : Int32))])) _
    exact kt
  obtain ⟨fs, hr, hrun, hended, hW, hsame⟩ := X0.leave (v := some (.int (1 : Int32))) (fun h => by rw [Bd.returns] at h; cases h)
  refine ⟨_, _, k2 _ ?_, hrun, hended, _, _, rfl, ?_, ⟨_, rfl⟩, hW, hsame.mono (by decide) (by decide)⟩
  · exact retN X0 hx (t := .boolean) Bd.returns (by simp) (hb hby d21_6) hr
  · show QV _ h0 n0 _ s₁.heap _
    exact ⟨rfl, N0, e0⟩
def QCol (Z : State) (o u t : Addr) (h0 : Heap) (n0 : Nat) (v : Option Value) (h : Heap) (L : List Loc) : Prop := v = none ∧ Fr n0 L ∧ Keep h0 h [o] ∧ Fld Z h o "com/example/lifetable/lifetable/output/Column" "name" "Ljava/lang/String;" (.ref u) ∧ Fld Z h o "com/example/lifetable/lifetable/output/Column" "type" "Lcom/example/lifetable/lifetable/output/Column$Type;" (.ref t)
theorem d11_0 : decode prog_16_method_1_code 0 = .ok (.aload_n 0, 1) := by decide +kernel
theorem d11_1 : decode prog_16_method_1_code 1 = .ok (.invokespecial 1, 3) := by decide +kernel
theorem d11_4 : decode prog_16_method_1_code 4 = .ok (.aload_n 0, 1) := by decide +kernel
theorem d11_5 : decode prog_16_method_1_code 5 = .ok (.aload_n 1, 1) := by decide +kernel
theorem d11_6 : decode prog_16_method_1_code 6 = .ok (.ldc 7, 2) := by decide +kernel
theorem d11_8 : decode prog_16_method_1_code 8 = .ok (.invokestatic 9, 3) := by decide +kernel
theorem d11_11 : decode prog_16_method_1_code 11 = .ok (.checkcast 15, 3) := by decide +kernel
theorem d11_14 : decode prog_16_method_1_code 14 = .ok (.putfield 17, 3) := by decide +kernel
theorem d11_17 : decode prog_16_method_1_code 17 = .ok (.aload_n 0, 1) := by decide +kernel
theorem d11_18 : decode prog_16_method_1_code 18 = .ok (.aload_n 2, 1) := by decide +kernel
theorem d11_19 : decode prog_16_method_1_code 19 = .ok (.putfield 22, 3) := by decide +kernel
theorem d11_22 : decode prog_16_method_1_code 22 = .ok (.return_, 1) := by decide +kernel
theorem pn_11 : plainName "com/example/lifetable/lifetable/output/Column" = true := by first | (simp [plainName, overriddenIn]; done) | decide +kernel
theorem pd_2 : parseMethodDescriptor "(Ljava/lang/Object;Ljava/lang/String;)Ljava/lang/Object;" = some ⟨[(.object "java/lang/Object"), (.object "java/lang/String")], some (.object "java/lang/Object")⟩ := by decide +kernel
theorem ef_rmCol (m : MethodId) (o : Addr) (u : Addr) (t : Addr) : entryFrame m #[(.ref o), (.ref u), (.ref t)] 3 = mkF m 0 #[.val (.ref o), .val (.ref u), .val (.ref t)] [] := by first | (simp [entryFrame, mkF, argsToLocals, Value.category]; done) | rfl
set_option maxRecDepth 65536 in
set_option maxHeartbeats 40000000 in
theorem rmCol (l : Launch) (Z : State) (a0 : Array Value) (hw : ∀ d ∈ tables_1, d.before a0 Z = true) (ws : List Jvm.Cond) (o : Addr) (u : Addr) (t : Addr)  (h0 : Heap) (n0 : Nat) (Z0 : n0 ≤ h0.size) (E_o : Exa Z h0 o "com/example/lifetable/lifetable/output/Column") (Fn : Fld Z h0 o "com/example/lifetable/lifetable/output/Column" "name" "Ljava/lang/String;" .null) (Ft : Fld Z h0 o "com/example/lifetable/lifetable/output/Column" "type" "Lcom/example/lifetable/lifetable/output/Column$Type;" .null) (E_u : Exa Z h0 u "java/lang/String") (ne_o_u : o ≠ u) (g_o : n0 ≤ o) :
    MetFree l (⟨"com/example/lifetable/lifetable/output/Column", "<init>", "(Ljava/lang/String;Lcom/example/lifetable/lifetable/output/Column$Type;)V"⟩ : MethodName) (head1 (Jvm.Cond.code (⟨"com/example/lifetable/lifetable/output/Column", "<init>", "(Ljava/lang/String;Lcom/example/lifetable/lifetable/output/Column$Type;)V"⟩ : MethodName) prog_16_method_1_code 3 none :: ws) ({ frames := 1, cells := 2, slots := 20, locals := 14 } : Room)) (fun a_ U_ => a_ = #[(.ref o), (.ref u), (.ref t)] ∧ Z.Warmed39 U_.vm ∧ U_.heap = h0) (fun _ _ _ _ _ => True) (fun _ U_ o_ U'_ => ∃ v_ L_, o_ = .returned v_ ∧ QCol Z o u t h0 n0 v_ U'_.heap L_ ∧ ReturnedEndW U_ o_ U'_ L_ ({ frames := 1, cells := 2, slots := 20, locals := 14 } : Room).cells ({ frames := 1, cells := 2, slots := 20, locals := 14 } : Room).slots) := by
  refine MetFree.of_bodySF (plainFor_of_name pn_11) hisR ?_
  intro p e s m args below meth c s₁ Bd hml0 hP hK
  obtain ⟨rfl, hZ, hh⟩ := hP
  have hx := Bd.exec
  have hby := Bd.bytes
  have hml : c.maxLocals = 3 := hml0
  have hown : s.vm.findClass "com/example/lifetable/lifetable/output/Column" = some m.cls := findClass_of_methodNamed Bd.named
  have hnm := (name_of_methodNamed Bd.named Bd.method).1
  have X0 : Stand p l e ({ frames := 1, cells := 2, slots := 20, locals := 14 } : Room) (s.setVm s.vm) m #[(.ref o), (.ref u), (.ref t)] below meth c s₁ [] 0 0 := Stand.of_body Bd
  have hZ : Z.Warmed39 (s.setVm s.vm).vm := hZ
  have hown : (s.setVm s.vm).vm.findClass "com/example/lifetable/lifetable/output/Column" = some m.cls := hown
  have hS : s.Since s.vm s.heap.size := (State.WarmedH.refl s).since _
  have HK0 : s.heap.size ≤ h0.size := Nat.le_of_eq (congrArg Array.size hh)
  have e0 : s₁.heap = h0 := by rw [← hh, Bd.state]; rfl
  have N0 := Fr.nil n0
  have k0 : ∀ tg, Steps p.tables e below (s₁.setTop (mkF m 0 #[.val (.ref o), .val (.ref u), .val (.ref t)] [])) tg → Steps p.tables e below (s₁.setTop (entryFrame m #[(.ref o), (.ref u), (.ref t)] 3)) tg := fun tg kq_ => castTop (ef_rmCol m o u t) kq_
  obtain ⟨T1, X1, e1, st1⟩ := initO X0 hx hZ hown (hw _ (List.mem_of_getElem? (i := 59) rfl)) (hw _ (List.mem_of_getElem? (i := 16) rfl)) (hw _ (List.mem_of_getElem? (i := 17) rfl)) e0 (g := (mkF m 1 #[.val (.ref o), .val (.ref u), .val (.ref t)] [(.ref o)])) rfl (by rw [hml]; rfl) rfl (hb hby d11_1) (by decide) (W := 0) (by show 2 * 0 + _ ≤ _; exact Nat.le_of_eq rfl) (by decide)
  have k2 : ∀ tg, Steps p.tables e below (T1.setTop (mkF m 6 #[.val (.ref o), .val (.ref u), .val (.ref t)] [(.ref u), (.ref o)])) tg → Steps p.tables e below (s₁.setTop (entryFrame m #[(.ref o), (.ref u), (.ref t)] 3)) tg := by
    intro tg kt
    refine k0 tg ?_
    show Steps p.tables e below (s₁.setTop (mkF m 0 #[.val (.ref o), .val (.ref u), .val (.ref t)] [])) _
    refine XS.aloadN X0.here hx rfl (hb hby d11_0) rfl rfl ?_
    show Steps p.tables e below (s₁.setTop (mkF m 1 #[.val (.ref o), .val (.ref u), .val (.ref t)] [(.ref o)])) _
    refine st1 _ ?_
    show Steps p.tables e below (T1.setTop (mkF m 4 #[.val (.ref o), .val (.ref u), .val (.ref t)] [])) _
    refine XS.aloadN X1.here hx rfl (hb hby d11_4) rfl rfl ?_
    show Steps p.tables e below (T1.setTop (mkF m 5 #[.val (.ref o), .val (.ref u), .val (.ref t)] [(.ref o)])) _
    refine XS.aloadN X1.here hx rfl (hb hby d11_5) rfl rfl ?_
    show Steps p.tables e below (T1.setTop (mkF m 6 #[.val (.ref o), .val (.ref u), .val (.ref t)] [(.ref u), (.ref o)])) _
    exact kt
  obtain ⟨lt3, T3, h3, kk3, X3, e3, E3, hS, HQ3, hZ, hown, st3⟩ := ldcS X1 hx hZ hown (hw _ (List.mem_of_getElem? (i := 60) rfl)) (own_wS hw) e1 hS HK0 (g := (mkF m 6 #[.val (.ref o), .val (.ref u), .val (.ref t)] [(.ref u), (.ref o)])) rfl (hb hby d11_6) (n := 16) (by decide +kernel) (by decide) (by decide) (by decide)
  have HK3 := Nat.le_trans HK0 E3.1
  have E3_o := E_o.ext E3
  have F3_o_name := Fn.ext E3
  have F3_o_type := Ft.ext E3
  have E3_u := E_u.ext E3
  have Z3 := Nat.le_trans Z0 E3.1
  have KP3 := (Keep.refl h0 [o]).ext E3
  obtain ⟨_, _, ⟨T4, L4, k4, n4⟩, -, X4, ⟨Lc4, hQ4, l4, y4, z4⟩, st4⟩ := Jvm.LawKit.callS X3 hx (y := (⟨"java/util/Objects", "requireNonNull", "(Ljava/lang/Object;Ljava/lang/String;)Ljava/lang/Object;"⟩ : MethodName)) hown (mvT hZ (hw _ (List.mem_of_getElem? (i := 50) rfl))) (mvT hZ (hw _ (List.mem_of_getElem? (i := 51) rfl))) (mvT hZ (hw _ (List.mem_of_getElem? (i := 52) rfl))) (mvT hZ (hw _ (List.mem_of_getElem? (i := 53) rfl))) (by decide) (backOf (W := 1) (rmReq l Z a0 hw [] u lt3  h3 n0 ) hZ (hw _ (List.mem_of_getElem? (i := 53) rfl)) (hw _ (List.mem_of_getElem? (i := 52) rfl)) (by decide) (by decide)) (g := (mkF m 8 #[.val (.ref o), .val (.ref u), .val (.ref t)] [(.ref lt3), (.ref u), (.ref o)])) rfl (by rw [hml]; rfl) (argsL := [(.ref u), (.ref lt3)]) (rest := [(.ref o)]) (lenOf pd_2 rfl) rfl (by show 2 * 0 + _ ≤ _; exact Nat.le_of_eq rfl) (hb hby d11_8) (fun _ _ => ⟨rfl, e3, (by decide : 2 + 0 ≤ _), (by decide : 20 + 0 ≤ _)⟩)
  dsimp only [Pt.U, Pt.locs, Pt.cells, Pt.slots] at X4 l4 y4 z4 st4 hQ4
  subst l4 y4 z4
  obtain ⟨rfl, N4q, e4⟩ := hQ4
  have N4 := Fr.app N0 N4q
  obtain ⟨T5, X5, e5, st5⟩ := castY X4 hx hZ hown (hw _ (List.mem_of_getElem? (i := 61) rfl)) e4 (Ins.self E3_u) (g := (mkF m 11 #[.val (.ref o), .val (.ref u), .val (.ref t)] [(.ref u), (.ref o)])) rfl rfl (hb hby d11_11)
  obtain ⟨T6, h6, X6, e6, W6, st6⟩ := putF X5 hx hZ hown (host := "") (Or.inl (hw _ (List.mem_of_getElem? (i := 62) rfl))) Via.refl e5 F3_o_name E3_o (Or.inr ⟨(hw _ (List.mem_of_getElem? (i := 63) rfl)), rfl, hnm⟩) (hw _ (List.mem_of_getElem? (i := 46) rfl)) (ty := (.object "java/lang/String")) (by decide) rfl rfl (g := (mkF m 14 #[.val (.ref o), .val (.ref u), .val (.ref t)] [(.ref u), (.ref o)])) rfl rfl (hb hby d11_14)
  have HK6 := Nat.le_trans HQ3 (Keep.of_wr W6).1
  have E6_o := E3_o.wr W6
  have F6_o_type := F3_o_type.other W6 (Or.inr (slot_ne (Or.inr (hw _ (List.mem_of_getElem? (i := 65) rfl))) (Or.inr (hw _ (List.mem_of_getElem? (i := 63) rfl))) (by decide) (t := (.object "com/example/lifetable/lifetable/output/Column$Type")) (t' := (.object "java/lang/String")) (by decide) (by decide)))
  have E6_u := E3_u.wr W6
  have Z6 := Nat.le_trans Z3 (Keep.of_wr W6).1
  have KP6 := KP3.wr W6 (Or.inl (List.mem_of_getElem? (i := 0) rfl))
  have N6 := Fr.snoc X6 N4 g_o
  have F6_o_name := F3_o_name.same W6
  obtain ⟨T7, h7, X7, e7, W7, st7⟩ := putF X6 hx hZ hown (host := "") (Or.inl (hw _ (List.mem_of_getElem? (i := 64) rfl))) Via.refl e6 F6_o_type E6_o (Or.inr ⟨(hw _ (List.mem_of_getElem? (i := 65) rfl)), rfl, hnm⟩) (hw _ (List.mem_of_getElem? (i := 46) rfl)) (ty := (.object "com/example/lifetable/lifetable/output/Column$Type")) (by decide) rfl rfl (g := (mkF m 19 #[.val (.ref o), .val (.ref u), .val (.ref t)] [(.ref t), (.ref o)])) rfl rfl (hb hby d11_19)
  have HK7 := Nat.le_trans HK6 (Keep.of_wr W7).1
  have E7_o := E6_o.wr W7
  have F7_o_name := F6_o_name.other W7 (Or.inr (slot_ne (Or.inr (hw _ (List.mem_of_getElem? (i := 63) rfl))) (Or.inr (hw _ (List.mem_of_getElem? (i := 65) rfl))) (by decide) (t := (.object "java/lang/String")) (t' := (.object "com/example/lifetable/lifetable/output/Column$Type")) (by decide) (by decide)))
  have E7_u := E6_u.wr W7
  have Z7 := Nat.le_trans Z6 (Keep.of_wr W7).1
  have KP7 := KP6.wr W7 (Or.inl (List.mem_of_getElem? (i := 0) rfl))
  have N7 := Fr.snoc X7 N6 g_o
  have F7_o_type := F6_o_type.same W7
  have k8 : ∀ tg, Steps p.tables e below (T7.setTop (mkF m 22 #[.val (.ref o), .val (.ref u), .val (.ref t)] [])) tg → Steps p.tables e below (s₁.setTop (entryFrame m #[(.ref o), (.ref u), (.ref t)] 3)) tg := by
    intro tg kt
    refine k2 tg ?_
    refine st3 _ ?_
    show Steps p.tables e below (T3.setTop (mkF m 8 #[.val (.ref o), .val (.ref u), .val (.ref t)] [(.ref lt3), (.ref u), (.ref o)])) _
    refine st4 _ ?_
    show Steps p.tables e below (T4.setTop (mkF m 11 #[.val (.ref o), .val (.ref u), .val (.ref t)] [(.ref u), (.ref o)])) _
    refine st5 _ ?_
    show Steps p.tables e below (T5.setTop (mkF m 14 #[.val (.ref o), .val (.ref u), .val (.ref t)] [(.ref u), (.ref o)])) _
    refine st6 _ ?_
    show Steps p.tables e below (T6.setTop (mkF m 17 #[.val (.ref o), .val (.ref u), .val (.ref t)] [])) _
    refine XS.aloadN X6.here hx rfl (hb hby d11_17) rfl rfl ?_
    show Steps p.tables e below (T6.setTop (mkF m 18 #[.val (.ref o), .val (.ref u), .val (.ref t)] [(.ref o)])) _
    refine XS.aloadN X6.here hx rfl (hb hby d11_18) rfl rfl ?_
    show Steps p.tables e below (T6.setTop (mkF m 19 #[.val (.ref o), .val (.ref u), .val (.ref t)] [(.ref t), (.ref o)])) _
    refine st7 _ ?_
    show Steps p.tables e below (T7.setTop (mkF m 22 #[.val (.ref o), .val (.ref u), .val (.ref t)] [])) _
    exact kt
  obtain ⟨fs, hr, hrun, hended, hRW⟩ := X7.leaveW hS (own_hk e7 HK7) (v := none) (fun _ => rfl)
  refine ⟨_, _, k8 _ ?_, hrun, hended, _, _, rfl, ?_, hRW.1, hRW.2.1, hRW.2.2.1, hRW.2.2.2.mono (by decide) (by decide)⟩
  · exact X7.returnOut hx Bd.returns (hb hby d11_22) hr
  · show QCol Z o u t h0 n0 _ T7.heap _
    rw [e7]
    exact ⟨rfl, N7, KP7, F7_o_name, F7_o_type⟩
def QOf (Z : State) (u t : Addr) (h0 : Heap) (n0 : Nat) (v : Option Value) (h : Heap) (L : List Loc) : Prop := Fr n0 L ∧ Keep h0 h [] ∧ ∃ o : Addr, v = some (.ref o) ∧ h0.size ≤ o ∧ Exa Z h o "com/example/lifetable/lifetable/output/Column" ∧ Fld Z h o "com/example/lifetable/lifetable/output/Column" "name" "Ljava/lang/String;" (.ref u) ∧ Fld Z h o "com/example/lifetable/lifetable/output/Column" "type" "Lcom/example/lifetable/lifetable/output/Column$Type;" (.ref t)
theorem d9_0 : decode prog_16_method_3_code 0 = .ok (.new 18, 3) := by decide +kernel
theorem d9_3 : decode prog_16_method_3_code 3 = .ok (.dup, 1) := by decide +kernel
theorem d9_4 : decode prog_16_method_3_code 4 = .ok (.aload_n 0, 1) := by decide +kernel
theorem d9_5 : decode prog_16_method_3_code 5 = .ok (.aload_n 1, 1) := by decide +kernel
theorem d9_6 : decode prog_16_method_3_code 6 = .ok (.ldc 52, 2) := by decide +kernel
theorem d9_8 : decode prog_16_method_3_code 8 = .ok (.invokestatic 9, 3) := by decide +kernel
theorem d9_11 : decode prog_16_method_3_code 11 = .ok (.checkcast 53, 3) := by decide +kernel
theorem d9_14 : decode prog_16_method_3_code 14 = .ok (.invokespecial 55, 3) := by decide +kernel
theorem d9_17 : decode prog_16_method_3_code 17 = .ok (.areturn, 1) := by decide +kernel
theorem pn_9 : plainName "com/example/lifetable/lifetable/output/Column" = true := by first | (simp [plainName, overriddenIn]; done) | decide +kernel
theorem pd_3 : parseMethodDescriptor "(Ljava/lang/String;Lcom/example/lifetable/lifetable/output/Column$Type;)V" = some ⟨[(.object "java/lang/String"), (.object "com/example/lifetable/lifetable/output/Column$Type")], none⟩ := by decide +kernel
theorem ef_rmOf (m : MethodId) (u : Addr) (t : Addr) : entryFrame m #[(.ref u), (.ref t)] 2 = mkF m 0 #[.val (.ref u), .val (.ref t)] [] := by first | (simp [entryFrame, mkF, argsToLocals, Value.category]; done) | rfl
set_option maxRecDepth 65536 in
set_option maxHeartbeats 40000000 in
theorem rmOf (l : Launch) (Z : State) (a0 : Array Value) (hw : ∀ d ∈ tables_1, d.before a0 Z = true) (ws : List Jvm.Cond) (u : Addr) (t : Addr)  (h0 : Heap) (n0 : Nat) (Z0 : n0 ≤ h0.size) (E_u : Exa Z h0 u "java/lang/String") (E_t : Exa Z h0 t "com/example/lifetable/lifetable/output/Column$Type") :
    MetFree l (⟨"com/example/lifetable/lifetable/output/Column", "of", "(Ljava/lang/String;Lcom/example/lifetable/lifetable/output/Column$Type;)Lcom/example/lifetable/lifetable/output/Column;"⟩ : MethodName) (head1 (Jvm.Cond.code (⟨"com/example/lifetable/lifetable/output/Column", "of", "(Ljava/lang/String;Lcom/example/lifetable/lifetable/output/Column$Type;)Lcom/example/lifetable/lifetable/output/Column;"⟩ : MethodName) prog_16_method_3_code 2 (some (.object "com/example/lifetable/lifetable/output/Column")) :: ws) ({ frames := 2, cells := 5, slots := 42, locals := 29 } : Room)) (fun a_ U_ => a_ = #[(.ref u), (.ref t)] ∧ Z.Warmed39 U_.vm ∧ U_.heap = h0) (fun _ _ _ _ _ => True) (fun _ U_ o_ U'_ => ∃ v_ L_, o_ = .returned v_ ∧ QOf Z u t h0 n0 v_ U'_.heap L_ ∧ ReturnedEndW U_ o_ U'_ L_ ({ frames := 2, cells := 5, slots := 42, locals := 29 } : Room).cells ({ frames := 2, cells := 5, slots := 42, locals := 29 } : Room).slots) := by
  refine MetFree.of_bodySF (plainFor_of_name pn_9) hisR ?_
  intro p e s m args below meth c s₁ Bd hml0 hP hK
  obtain ⟨rfl, hZ, hh⟩ := hP
  have hx := Bd.exec
  have hby := Bd.bytes
  have hml : c.maxLocals = 2 := hml0
  have hown : s.vm.findClass "com/example/lifetable/lifetable/output/Column" = some m.cls := findClass_of_methodNamed Bd.named
  have hnm := (name_of_methodNamed Bd.named Bd.method).1
  have X0 : Stand p l e ({ frames := 2, cells := 5, slots := 42, locals := 29 } : Room) (s.setVm s.vm) m #[(.ref u), (.ref t)] below meth c s₁ [] 0 0 := Stand.of_body Bd
  have hZ : Z.Warmed39 (s.setVm s.vm).vm := hZ
  have hown : (s.setVm s.vm).vm.findClass "com/example/lifetable/lifetable/output/Column" = some m.cls := hown
  have hS : s.Since s.vm s.heap.size := (State.WarmedH.refl s).since _
  have HK0 : s.heap.size ≤ h0.size := Nat.le_of_eq (congrArg Array.size hh)
  have e0 : s₁.heap = h0 := by rw [← hh, Bd.state]; rfl
  have N0 := Fr.nil n0
  have k0 : ∀ tg, Steps p.tables e below (s₁.setTop (mkF m 0 #[.val (.ref u), .val (.ref t)] [])) tg → Steps p.tables e below (s₁.setTop (entryFrame m #[(.ref u), (.ref t)] 2)) tg := fun tg kq_ => castTop (ef_rmOf m u t) kq_
  obtain ⟨T1, h1, X1, e1, E1, A1, D1, -, st1⟩ := newO X0 hx hZ hown (hw _ (List.mem_of_getElem? (i := 45) rfl)) (hw _ (List.mem_of_getElem? (i := 46) rfl)) (hw _ (List.mem_of_getElem? (i := 43) rfl)) e0 (g := (mkF m 0 #[.val (.ref u), .val (.ref t)] [])) rfl (hb hby d9_0) (by decide) (by decide)
  obtain ⟨b1, g1⟩ : ∃ z, z = h0.size := ⟨_, rfl⟩
  have ne_u_b1 : u ≠ b1 := Nat.ne_of_lt (Nat.lt_of_lt_of_le E_u.lt (Nat.le_of_eq g1.symm))
  have ne_t_b1 : t ≠ b1 := Nat.ne_of_lt (Nat.lt_of_lt_of_le E_t.lt (Nat.le_of_eq g1.symm))
  have g_b1 : n0 ≤ b1 := Nat.le_trans Z0 (Nat.le_of_eq g1.symm)
  have sz_b1 : h0.size ≤ b1 := Nat.le_trans (Keep.refl h0 []).1 (Nat.le_of_eq g1.symm)
  rw [← g1] at A1 D1 st1
  have HK1 := Nat.le_trans HK0 E1.1
  have E1_u := E_u.ext E1
  have E1_t := E_t.ext E1
  have Z1 := Nat.le_trans Z0 E1.1
  have KP1 := (Keep.refl h0 []).ext E1
  have F_name_b1 : Fld Z h1 b1 "com/example/lifetable/lifetable/output/Column" "name" "Ljava/lang/String;" .null := D1 (Or.inr (hw _ (List.mem_of_getElem? (i := 63) rfl))) (ty := (.object "java/lang/String")) (by decide)
  have F_type_b1 : Fld Z h1 b1 "com/example/lifetable/lifetable/output/Column" "type" "Lcom/example/lifetable/lifetable/output/Column$Type;" .null := D1 (Or.inr (hw _ (List.mem_of_getElem? (i := 65) rfl))) (ty := (.object "com/example/lifetable/lifetable/output/Column$Type")) (by decide)
  have k2 : ∀ tg, Steps p.tables e below (T1.setTop (mkF m 6 #[.val (.ref u), .val (.ref t)] [(.ref t), (.ref u), (.ref b1), (.ref b1)])) tg → Steps p.tables e below (s₁.setTop (entryFrame m #[(.ref u), (.ref t)] 2)) tg := by
    intro tg kt
    refine k0 tg ?_
    show Steps p.tables e below (s₁.setTop (mkF m 0 #[.val (.ref u), .val (.ref t)] [])) _
    refine st1 _ ?_
    show Steps p.tables e below (T1.setTop (mkF m 3 #[.val (.ref u), .val (.ref t)] [(.ref b1)])) _
    refine XS.dup X1.here hx rfl (hb hby d9_3) rfl rfl ?_
    show Steps p.tables e below (T1.setTop (mkF m 4 #[.val (.ref u), .val (.ref t)] [(.ref b1), (.ref b1)])) _
    refine XS.aloadN X1.here hx rfl (hb hby d9_4) rfl rfl ?_
    show Steps p.tables e below (T1.setTop (mkF m 5 #[.val (.ref u), .val (.ref t)] [(.ref u), (.ref b1), (.ref b1)])) _
    refine XS.aloadN X1.here hx rfl (hb hby d9_5) rfl rfl ?_
    show Steps p.tables e below (T1.setTop (mkF m 6 #[.val (.ref u), .val (.ref t)] [(.ref t), (.ref u), (.ref b1), (.ref b1)])) _
    exact kt
  obtain ⟨lt3, T3, h3, kk3, X3, e3, E3, hS, HQ3, hZ, hown, st3⟩ := ldcS X1 hx hZ hown (hw _ (List.mem_of_getElem? (i := 47) rfl)) (own_wS hw) e1 hS HK1 (g := (mkF m 6 #[.val (.ref u), .val (.ref t)] [(.ref t), (.ref u), (.ref b1), (.ref b1)])) rfl (hb hby d9_6) (n := 16) (by decide +kernel) (by decide) (by decide) (by decide)
  have HK3 := Nat.le_trans HK1 E3.1
  have E3_u := E1_u.ext E3
  have E3_t := E1_t.ext E3
  have E3_b1 := A1.ext E3
  have F3_b1_name := F_name_b1.ext E3
  have F3_b1_type := F_type_b1.ext E3
  have Z3 := Nat.le_trans Z1 E3.1
  have KP3 := KP1.ext E3
  obtain ⟨_, _, ⟨T4, L4, k4, n4⟩, -, X4, ⟨Lc4, hQ4, l4, y4, z4⟩, st4⟩ := Jvm.LawKit.callS X3 hx (y := (⟨"java/util/Objects", "requireNonNull", "(Ljava/lang/Object;Ljava/lang/String;)Ljava/lang/Object;"⟩ : MethodName)) hown (mvT hZ (hw _ (List.mem_of_getElem? (i := 50) rfl))) (mvT hZ (hw _ (List.mem_of_getElem? (i := 51) rfl))) (mvT hZ (hw _ (List.mem_of_getElem? (i := 52) rfl))) (mvT hZ (hw _ (List.mem_of_getElem? (i := 53) rfl))) (by decide) (backOf (W := 3) (rmReq l Z a0 hw [] t lt3  h3 n0 ) hZ (hw _ (List.mem_of_getElem? (i := 53) rfl)) (hw _ (List.mem_of_getElem? (i := 52) rfl)) (by decide) (by decide)) (g := (mkF m 8 #[.val (.ref u), .val (.ref t)] [(.ref lt3), (.ref t), (.ref u), (.ref b1), (.ref b1)])) rfl (by rw [hml]; rfl) (argsL := [(.ref t), (.ref lt3)]) (rest := [(.ref u), (.ref b1), (.ref b1)]) (lenOf pd_2 rfl) rfl (by show 2 * 0 + _ ≤ _; exact Nat.le_of_eq rfl) (hb hby d9_8) (fun _ _ => ⟨rfl, e3, (by decide : 3 + 0 ≤ _), (by decide : 22 + 0 ≤ _)⟩)
  dsimp only [Pt.U, Pt.locs, Pt.cells, Pt.slots] at X4 l4 y4 z4 st4 hQ4
  subst l4 y4 z4
  obtain ⟨rfl, N4q, e4⟩ := hQ4
  have N4 := Fr.app N0 N4q
  obtain ⟨T5, X5, e5, st5⟩ := castY X4 hx hZ hown (hw _ (List.mem_of_getElem? (i := 54) rfl)) e4 (Ins.self E3_t) (g := (mkF m 11 #[.val (.ref u), .val (.ref t)] [(.ref t), (.ref u), (.ref b1), (.ref b1)])) rfl rfl (hb hby d9_11)
  have k7 : ∀ tg, Steps p.tables e below (T5.setTop (mkF m 14 #[.val (.ref u), .val (.ref t)] [(.ref t), (.ref u), (.ref b1), (.ref b1)])) tg → Steps p.tables e below (s₁.setTop (entryFrame m #[(.ref u), (.ref t)] 2)) tg := by
    intro tg kt
    refine k2 tg ?_
    refine st3 _ ?_
    show Steps p.tables e below (T3.setTop (mkF m 8 #[.val (.ref u), .val (.ref t)] [(.ref lt3), (.ref t), (.ref u), (.ref b1), (.ref b1)])) _
    refine st4 _ ?_
    show Steps p.tables e below (T4.setTop (mkF m 11 #[.val (.ref u), .val (.ref t)] [(.ref t), (.ref u), (.ref b1), (.ref b1)])) _
    refine st5 _ ?_
    show Steps p.tables e below (T5.setTop (mkF m 14 #[.val (.ref u), .val (.ref t)] [(.ref t), (.ref u), (.ref b1), (.ref b1)])) _
    exact kt
  obtain ⟨_, _, ⟨T6, L6, k6, n6⟩, -, X6, S26, gr6, ⟨Lc6, hQ6, l6, y6, z6⟩, st6⟩ := X5.specialBackS hx (y := (⟨"com/example/lifetable/lifetable/output/Column", "<init>", "(Ljava/lang/String;Lcom/example/lifetable/lifetable/output/Column$Type;)V"⟩ : MethodName)) rfl hown (mvT hZ (hw _ (List.mem_of_getElem? (i := 56) rfl))) (mvT hZ (hw _ (List.mem_of_getElem? (i := 57) rfl))) (mvT hZ (hw _ (List.mem_of_getElem? (i := 58) rfl))) (by decide) (backOfS (W := 1) (rmCol l Z a0 hw [] b1 u t  h3 n0 Z3 E3_b1 F3_b1_name F3_b1_type E3_u (Ne.symm ne_u_b1) g_b1) hZ (hw _ (List.mem_of_getElem? (i := 58) rfl)) (hw _ (List.mem_of_getElem? (i := 43) rfl)) (by decide) (by decide)) (g := (mkF m 14 #[.val (.ref u), .val (.ref t)] [(.ref t), (.ref u), (.ref b1), (.ref b1)])) rfl (by rw [hml]; rfl) (Steps.refl _) (a := b1) (argsL := [(.ref u), (.ref t)]) (rest := [(.ref b1)]) (lenOf pd_3 rfl) rfl (by show 2 * 0 + _ ≤ _; exact Nat.le_of_eq rfl) (hb hby d9_14) (fun _ _ => ⟨rfl, e5, (by decide : 3 + 2 ≤ _), (by decide : 22 + 20 ≤ _)⟩)
  dsimp only [Pt.U, Pt.locs, Pt.cells, Pt.slots] at X6 l6 y6 z6 st6 hQ6 S26 gr6
  subst l6 y6 z6
  obtain ⟨X6, hS, hZ, hown⟩ := rebS hS (own_hk e5 HQ3) X6 S26 gr6 hZ hown
  obtain ⟨rfl, N6q, K6, Fn6, Ft6⟩ := hQ6
  have N6 := Fr.app N4 N6q
  have E6_u := E3_u.keep K6
  have E6_t := E3_t.keep K6
  have E6_b1 := E3_b1.keep K6
  have Z6 := Nat.le_trans Z3 K6.1
  have KP6 := KP3.trans K6 (allS (Or.inr sz_b1) all0)
  have k8 : ∀ tg, Steps p.tables e below (T6.setTop (mkF m 17 #[.val (.ref u), .val (.ref t)] [(.ref b1)])) tg → Steps p.tables e below (s₁.setTop (entryFrame m #[(.ref u), (.ref t)] 2)) tg := by
    intro tg kt
    refine k7 tg ?_
    refine st6.trans ?_
    show Steps p.tables e below (T6.setTop (mkF m 17 #[.val (.ref u), .val (.ref t)] [(.ref b1)])) _
    exact kt
  obtain ⟨fs, hr, hrun, hended, hRW⟩ := X6.leaveW hS (own_hk rfl (Nat.le_refl _)) (v := some (.ref b1)) (fun h => by rw [Bd.returns] at h; cases h)
  refine ⟨_, _, k8 _ ?_, hrun, hended, _, _, rfl, ?_, hRW.1, hRW.2.1, hRW.2.2.1, hRW.2.2.2.mono (by decide) (by decide)⟩
  · exact own_retA X6 hx Bd.returns rfl (hb hby d9_17) hr
  · show QOf Z u t h0 n0 _ T6.heap _
    exact ⟨N6, KP6, b1, rfl, sz_b1, E6_b1, Fn6, Ft6⟩
theorem pn_0 : plainName "com/example/lifetable/lifetable/output/ColumnOfPinLaw" = true := by first | (simp [plainName, overriddenIn]; done) | decide +kernel
theorem pd_4 : parseMethodDescriptor "(IIII)Ljava/lang/String;" = some ⟨[.int, .int, .int, .int], some (.object "java/lang/String")⟩ := by decide +kernel
theorem pd_5 : parseMethodDescriptor "(I)Lcom/example/lifetable/lifetable/output/Column$Type;" = some ⟨[.int], some (.object "com/example/lifetable/lifetable/output/Column$Type")⟩ := by decide +kernel
theorem pd_6 : parseMethodDescriptor "(Ljava/lang/String;Lcom/example/lifetable/lifetable/output/Column$Type;)Lcom/example/lifetable/lifetable/output/Column;" = some ⟨[(.object "java/lang/String"), (.object "com/example/lifetable/lifetable/output/Column$Type")], some (.object "com/example/lifetable/lifetable/output/Column")⟩ := by decide +kernel
theorem pd_7 : parseMethodDescriptor "()Ljava/lang/String;" = some ⟨[], some (.object "java/lang/String")⟩ := by decide +kernel
theorem pd_8 : parseMethodDescriptor "()Lcom/example/lifetable/lifetable/output/Column$Type;" = some ⟨[], some (.object "com/example/lifetable/lifetable/output/Column$Type")⟩ := by decide +kernel
theorem pd_9 : parseMethodDescriptor "()I" = some ⟨[], some .int⟩ := by decide +kernel
theorem pd_10 : parseMethodDescriptor "(Ljava/lang/Object;)Z" = some ⟨[(.object "java/lang/Object")], some .boolean⟩ := by decide +kernel
theorem ef_rm0_0 (m : MethodId) (sel : Int32) (len : Int32) (ya : Int32) (yb : Int32) (yc : Int32) : entryFrame m #[(.int sel), (.int len), (.int ya), (.int yb), (.int yc)] maxLocals = mkF m 0 #[.val (.int sel), .val (.int len), .val (.int ya), .val (.int yb), .val (.int yc), .unset, .unset, .unset, .unset, .unset, .unset] [] := by first | (simp [entryFrame, mkF, argsToLocals, Value.category, maxLocals]; done) | rfl
set_option maxRecDepth 65536 in
set_option maxHeartbeats 40000000 in
theorem rm0_0 (l : Launch) (Z : State) (a0 : Array Value) (hw : ∀ d ∈ tables_1, d.before a0 Z = true) (ws : List Jvm.Cond) (sel : Int32) (len : Int32) (ya : Int32) (yb : Int32) (yc : Int32) (cz : Int32) (fm : Value) (v_TEXT v_INTEGER v_REAL : Addr) (h0 : Heap) (n0 : Nat) (Z0 : n0 ≤ h0.size) (hn3 : len &&& (3 : Int32) = (0 : Int32)) (S_cs : Sta Z h0 "java/lang/String" "COMPACT_STRINGS" "Z" (.int cz)) (hcz : ¬ cz = 0) (S_sf : Sta Z h0 "jdk/internal/util/Preconditions" "SIOOBE_FORMATTER" "Ljava/util/function/BiFunction;" fm) (rsf : fm.isRef = true) (S_TEXT : Sta Z h0 "com/example/lifetable/lifetable/output/Column$Type" "TEXT" "Lcom/example/lifetable/lifetable/output/Column$Type;" (.ref v_TEXT)) (S_INTEGER : Sta Z h0 "com/example/lifetable/lifetable/output/Column$Type" "INTEGER" "Lcom/example/lifetable/lifetable/output/Column$Type;" (.ref v_INTEGER)) (S_REAL : Sta Z h0 "com/example/lifetable/lifetable/output/Column$Type" "REAL" "Lcom/example/lifetable/lifetable/output/Column$Type;" (.ref v_REAL)) (E_TEXT : Exa Z h0 v_TEXT "com/example/lifetable/lifetable/output/Column$Type") (E_INTEGER : Exa Z h0 v_INTEGER "com/example/lifetable/lifetable/output/Column$Type") (E_REAL : Exa Z h0 v_REAL "com/example/lifetable/lifetable/output/Column$Type") :
    MetFree l x (head1 (Jvm.Cond.code x code maxLocals ret :: ws) room_1) (fun a_ U_ => a_ = #[(.int sel), (.int len), (.int ya), (.int yb), (.int yc)] ∧ Z.Warmed39 U_.vm ∧ U_.heap = h0 ∧ CHv Z ELs U_.vm h0) (fun _ _ _ _ _ => True) (fun _ U_ o_ U'_ => ∃ v_ L_, o_ = .returned v_ ∧ QL n0 v_ U'_.heap L_ ∧ ReturnedEndW U_ o_ U'_ L_ room_1.cells room_1.slots) := by
  refine MetFree.of_bodySF (plainFor_of_name pn_0) hisR ?_
  intro p e s m args below meth c s₁ Bd hml0 hP hK
  obtain ⟨rfl, hZ, hh, hCH⟩ := hP
  have hx := Bd.exec
  have hby := Bd.bytes
  have hml : c.maxLocals = 11 := hml0
  have hown : s.vm.findClass "com/example/lifetable/lifetable/output/ColumnOfPinLaw" = some m.cls := findClass_of_methodNamed Bd.named
  have hnm := (name_of_methodNamed Bd.named Bd.method).1
  have X0 : Stand p l e room_1 (s.setVm s.vm) m #[(.int sel), (.int len), (.int ya), (.int yb), (.int yc)] below meth c s₁ [] 0 0 := Stand.of_body Bd
  have hZ : Z.Warmed39 (s.setVm s.vm).vm := hZ
  have hown : (s.setVm s.vm).vm.findClass "com/example/lifetable/lifetable/output/ColumnOfPinLaw" = some m.cls := hown
  have hS : s.Since s.vm s.heap.size := (State.WarmedH.refl s).since _
  have HK0 : s.heap.size ≤ h0.size := Nat.le_of_eq (congrArg Array.size hh)
  have CH0 : CHr Z ELs s.vm h0 s.vm h0 := CHr.refl hCH
  have hEW := own_EW hw
  have e0 : s₁.heap = h0 := by rw [← hh, Bd.state]; rfl
  have N0 := Fr.nil n0
  have k0 : ∀ tg, Steps p.tables e below (s₁.setTop (mkF m 0 #[.val (.int sel), .val (.int len), .val (.int ya), .val (.int yb), .val (.int yc), .unset, .unset, .unset, .unset, .unset, .unset] [])) tg → Steps p.tables e below (s₁.setTop (entryFrame m #[(.int sel), (.int len), (.int ya), (.int yb), (.int yc)] maxLocals)) tg := fun tg kq_ => castTop (ef_rm0_0 m sel len ya yb yc) kq_
  have hln : ∀ d ∈ StrChars.Road.wordsLen, d.before a0 Z = true := fun d hd => hw d ((by decide +kernel : ∀ d ∈ StrChars.Road.wordsLen, d ∈ tables_1) d hd)
  have hch : ∀ d ∈ StrChars.Road.wordsChN, d.before a0 Z = true := fun d hd => hw d ((by decide +kernel : ∀ d ∈ StrChars.Road.wordsChN, d ∈ tables_1) d hd)
  have hp : ∀ c ∈ ([] : List Int32), ¬ c < 0 ∧ ¬ (255 : Int32) < c := by
    intro c hc
    simp only [List.mem_cons, List.not_mem_nil, or_false] at hc
  have hcd : StrChars.Road.CodA ([] : List Int32) 0 (Int32.ofNat ([] : List Int32).length) ((([] : List Int32).map fun c => c.toInt8.toInt32).map Value.int) := StrChars.Road.codOf (n := 0) rfl (fun c hc => (hp c hc).2)
  have hbd := own_up _ hp
  have k2 : ∀ tg, Steps p.tables e below (s₁.setTop (mkF m 11 #[.val (.int sel), .val (.int len), .val (.int ya), .val (.int yb), .val (.int yc), .val (.int (0 : Int32)), .unset, .unset, .unset, .unset, .unset] [(.int yc), (.int yb), (.int ya), (.int (0 : Int32))])) tg → Steps p.tables e below (s₁.setTop (entryFrame m #[(.int sel), (.int len), (.int ya), (.int yb), (.int yc)] maxLocals)) tg := by
    intro tg kt
    refine k0 tg ?_
    show Steps p.tables e below (s₁.setTop (mkF m 0 #[.val (.int sel), .val (.int len), .val (.int ya), .val (.int yb), .val (.int yc), .unset, .unset, .unset, .unset, .unset, .unset] [])) _
    refine XS.iloadN X0.here hx rfl (hb hby at_0) rfl ?_
    show Steps p.tables e below (s₁.setTop (mkF m 1 #[.val (.int sel), .val (.int len), .val (.int ya), .val (.int yb), .val (.int yc), .unset, .unset, .unset, .unset, .unset, .unset] [(.int len)])) _
    refine XS.iconst X0.here hx rfl (hb hby at_1) ?_
    show Steps p.tables e below (s₁.setTop (mkF m 2 #[.val (.int sel), .val (.int len), .val (.int ya), .val (.int yb), .val (.int yc), .unset, .unset, .unset, .unset, .unset, .unset] [(.int (3 : Int32)), (.int len)])) _
    refine XS.iand X0.here hx rfl (hb hby at_2) rfl ?_
    show Steps p.tables e below (s₁.setTop (mkF m 3 #[.val (.int sel), .val (.int len), .val (.int ya), .val (.int yb), .val (.int yc), .unset, .unset, .unset, .unset, .unset, .unset] [(.int (len &&& (3 : Int32)))])) _
    refine XS.istore X0.here hx rfl (hb hby at_3) rfl (l' := #[.val (.int sel), .val (.int len), .val (.int ya), .val (.int yb), .val (.int yc), .val (.int (len &&& (3 : Int32))), .unset, .unset, .unset, .unset, .unset]) rfl ?_
    show Steps p.tables e below (s₁.setTop (mkF m 5 #[.val (.int sel), .val (.int len), .val (.int ya), .val (.int yb), .val (.int yc), .val (.int (len &&& (3 : Int32))), .unset, .unset, .unset, .unset, .unset] [])) _
    rw [hn3]
    show Steps p.tables e below (s₁.setTop (mkF m 5 #[.val (.int sel), .val (.int len), .val (.int ya), .val (.int yb), .val (.int yc), .val (.int (0 : Int32)), .unset, .unset, .unset, .unset, .unset] [])) _
    refine XS.iload X0.here hx rfl (hb hby at_5) rfl ?_
    show Steps p.tables e below (s₁.setTop (mkF m 7 #[.val (.int sel), .val (.int len), .val (.int ya), .val (.int yb), .val (.int yc), .val (.int (0 : Int32)), .unset, .unset, .unset, .unset, .unset] [(.int (0 : Int32))])) _
    refine XS.iloadN X0.here hx rfl (hb hby at_7) rfl ?_
    show Steps p.tables e below (s₁.setTop (mkF m 8 #[.val (.int sel), .val (.int len), .val (.int ya), .val (.int yb), .val (.int yc), .val (.int (0 : Int32)), .unset, .unset, .unset, .unset, .unset] [(.int ya), (.int (0 : Int32))])) _
    refine XS.iloadN X0.here hx rfl (hb hby at_8) rfl ?_
    show Steps p.tables e below (s₁.setTop (mkF m 9 #[.val (.int sel), .val (.int len), .val (.int ya), .val (.int yb), .val (.int yc), .val (.int (0 : Int32)), .unset, .unset, .unset, .unset, .unset] [(.int yb), (.int ya), (.int (0 : Int32))])) _
    refine XS.iload X0.here hx rfl (hb hby at_9) rfl ?_
    show Steps p.tables e below (s₁.setTop (mkF m 11 #[.val (.int sel), .val (.int len), .val (.int ya), .val (.int yb), .val (.int yc), .val (.int (0 : Int32)), .unset, .unset, .unset, .unset, .unset] [(.int yc), (.int yb), (.int ya), (.int (0 : Int32))])) _
    exact kt
  obtain ⟨_, _, ⟨T1, L1, k1, n1⟩, -, X1, S21, gr1, ⟨Lc1, hQ1, l1, y1, z1, CQ1⟩, st1⟩ := callSS X0 hx (y := (⟨"com/example/lifetable/lifetable/output/ColumnOfPinLaw", "draw", "(IIII)Ljava/lang/String;"⟩ : MethodName)) hown (mvT hZ (hw _ (List.mem_of_getElem? (i := 0) rfl))) (mvT hZ (hw _ (List.mem_of_getElem? (i := 1) rfl))) (mvT hZ (hw _ (List.mem_of_getElem? (i := 2) rfl))) (mvT hZ (hw _ (List.mem_of_getElem? (i := 3) rfl))) (by decide) (backOfSH (W := 0) (rmDraw0 l Z a0 hw [] ya yb yc  h0 n0 Z0) hZ (hw _ (List.mem_of_getElem? (i := 3) rfl)) (hw _ (List.mem_of_getElem? (i := 2) rfl)) (by decide) (by decide) hEW CH0.1) (g := (mkF m 11 #[.val (.int sel), .val (.int len), .val (.int ya), .val (.int yb), .val (.int yc), .val (.int (0 : Int32)), .unset, .unset, .unset, .unset, .unset] [(.int yc), (.int yb), (.int ya), (.int (0 : Int32))])) rfl (by rw [hml]; rfl) (argsL := [(.int (0 : Int32)), (.int ya), (.int yb), (.int yc)]) (rest := []) (lenOf pd_4 rfl) rfl (by show 2 * 0 + _ ≤ _; exact Nat.le_of_eq rfl) (hb hby at_11) (fun _ _ => ⟨rfl, e0, (by decide : 0 + 6 ≤ _), (by decide : 0 + 12 ≤ _)⟩)
  dsimp only [Pt.U, Pt.locs, Pt.cells, Pt.slots] at X1 l1 y1 z1 st1 hQ1 S21 gr1 CQ1
  subst l1 y1 z1
  obtain ⟨X1, hS, hZ, hown⟩ := rebS hS (own_hk e0 HK0) X1 S21 gr1 hZ hown
  have CH1 := CH0.trans CQ1
  obtain ⟨N1q, K1, sx1, bt1, kb1, rfl, le1, E1x, C1x, F1x, V1x⟩ := hQ1
  have N1 := Fr.app N0 N1q
  have g_sx1 : n0 ≤ sx1 := Nat.le_trans Z0 le1
  have sz_sx1 : h0.size ≤ sx1 := Nat.le_trans (Keep.refl h0 []).1 le1
  have Z1 := Nat.le_trans Z0 K1.1
  have KP1 := (Keep.refl h0 []).trans K1 all0
  obtain ⟨_, _, ⟨T3, L3, k3, n3⟩, -, X3, ⟨Lc3, hQ3, l3, y3, z3⟩, st3⟩ := Jvm.LawKit.callS X1 hx (y := (⟨"com/example/lifetable/lifetable/output/ColumnOfPinLaw", "pick", "(I)Lcom/example/lifetable/lifetable/output/Column$Type;"⟩ : MethodName)) hown (mvT hZ (hw _ (List.mem_of_getElem? (i := 34) rfl))) (mvT hZ (hw _ (List.mem_of_getElem? (i := 35) rfl))) (mvT hZ (hw _ (List.mem_of_getElem? (i := 2) rfl))) (mvT hZ (hw _ (List.mem_of_getElem? (i := 36) rfl))) (by decide) (backOf (W := 0) (rmPick l Z a0 hw [] sel v_TEXT v_INTEGER v_REAL T1.heap n0 (S_TEXT.ext (own_extK KP1)) (S_INTEGER.ext (own_extK KP1)) (S_REAL.ext (own_extK KP1))) hZ (hw _ (List.mem_of_getElem? (i := 36) rfl)) (hw _ (List.mem_of_getElem? (i := 2) rfl)) (by decide) (by decide)) (g := (mkF m 17 #[.val (.int sel), .val (.int len), .val (.int ya), .val (.int yb), .val (.int yc), .val (.int (0 : Int32)), .val (.ref sx1), .unset, .unset, .unset, .unset] [(.int sel)])) rfl (by rw [hml]; rfl) (argsL := [(.int sel)]) (rest := []) (lenOf pd_5 rfl) rfl (by show 2 * 0 + _ ≤ _; exact Nat.le_of_eq rfl) (hb hby at_17) (fun _ _ => ⟨rfl, rfl, (by decide : 6 + 0 ≤ _), (by decide : 12 + 0 ≤ _)⟩)
  dsimp only [Pt.U, Pt.locs, Pt.cells, Pt.slots] at X3 l3 y3 z3 st3 hQ3
  subst l3 y3 z3
  obtain ⟨rfl, N3q, e3⟩ := hQ3
  have N3 := Fr.app N1 N3q
  obtain ⟨ty, ety⟩ : ∃ z : Addr, z = (if ((sel &&& (2147483647 : Int32)) % (3 : Int32)) = (0 : Int32) then v_TEXT else (if ((sel &&& (2147483647 : Int32)) % (3 : Int32)) = (1 : Int32) then v_INTEGER else v_REAL)) := ⟨_, rfl⟩
  have E_ty0 : Exa Z h0 ty "com/example/lifetable/lifetable/output/Column$Type" := by
    rw [ety]
    (repeat' split) <;> assumption
  have E_ty := E_ty0.ext (own_extK KP1)
  have k5 : ∀ tg, Steps p.tables e below (T3.setTop (mkF m 26 #[.val (.int sel), .val (.int len), .val (.int ya), .val (.int yb), .val (.int yc), .val (.int (0 : Int32)), .val (.ref sx1), .val (.ref ty), .unset, .unset, .unset] [(.ref ty), (.ref sx1)])) tg → Steps p.tables e below (s₁.setTop (entryFrame m #[(.int sel), (.int len), (.int ya), (.int yb), (.int yc)] maxLocals)) tg := by
    intro tg kt
    refine k2 tg ?_
    refine st1.trans ?_
    show Steps p.tables e below (T1.setTop (mkF m 14 #[.val (.int sel), .val (.int len), .val (.int ya), .val (.int yb), .val (.int yc), .val (.int (0 : Int32)), .unset, .unset, .unset, .unset, .unset] [(.ref sx1)])) _
    refine XS.astore X1.here hx rfl (hb hby at_14) rfl rfl (l' := #[.val (.int sel), .val (.int len), .val (.int ya), .val (.int yb), .val (.int yc), .val (.int (0 : Int32)), .val (.ref sx1), .unset, .unset, .unset, .unset]) rfl ?_
    show Steps p.tables e below (T1.setTop (mkF m 16 #[.val (.int sel), .val (.int len), .val (.int ya), .val (.int yb), .val (.int yc), .val (.int (0 : Int32)), .val (.ref sx1), .unset, .unset, .unset, .unset] [])) _
    refine XS.iloadN X1.here hx rfl (hb hby at_16) rfl ?_
    show Steps p.tables e below (T1.setTop (mkF m 17 #[.val (.int sel), .val (.int len), .val (.int ya), .val (.int yb), .val (.int yc), .val (.int (0 : Int32)), .val (.ref sx1), .unset, .unset, .unset, .unset] [(.int sel)])) _
    refine st3 _ ?_
    show Steps p.tables e below (T3.setTop (mkF m 20 #[.val (.int sel), .val (.int len), .val (.int ya), .val (.int yb), .val (.int yc), .val (.int (0 : Int32)), .val (.ref sx1), .unset, .unset, .unset, .unset] [(.ref (if ((sel &&& (2147483647 : Int32)) % (3 : Int32)) = (0 : Int32) then v_TEXT else (if ((sel &&& (2147483647 : Int32)) % (3 : Int32)) = (1 : Int32) then v_INTEGER else v_REAL)))])) _
    rw [← ety]
    show Steps p.tables e below (T3.setTop (mkF m 20 #[.val (.int sel), .val (.int len), .val (.int ya), .val (.int yb), .val (.int yc), .val (.int (0 : Int32)), .val (.ref sx1), .unset, .unset, .unset, .unset] [(.ref ty)])) _
    refine XS.astore X3.here hx rfl (hb hby at_20) rfl rfl (l' := #[.val (.int sel), .val (.int len), .val (.int ya), .val (.int yb), .val (.int yc), .val (.int (0 : Int32)), .val (.ref sx1), .val (.ref ty), .unset, .unset, .unset]) rfl ?_
    show Steps p.tables e below (T3.setTop (mkF m 22 #[.val (.int sel), .val (.int len), .val (.int ya), .val (.int yb), .val (.int yc), .val (.int (0 : Int32)), .val (.ref sx1), .val (.ref ty), .unset, .unset, .unset] [])) _
    refine XS.aload X3.here hx rfl (hb hby at_22) rfl rfl ?_
    show Steps p.tables e below (T3.setTop (mkF m 24 #[.val (.int sel), .val (.int len), .val (.int ya), .val (.int yb), .val (.int yc), .val (.int (0 : Int32)), .val (.ref sx1), .val (.ref ty), .unset, .unset, .unset] [(.ref sx1)])) _
    refine XS.aload X3.here hx rfl (hb hby at_24) rfl rfl ?_
    show Steps p.tables e below (T3.setTop (mkF m 26 #[.val (.int sel), .val (.int len), .val (.int ya), .val (.int yb), .val (.int yc), .val (.int (0 : Int32)), .val (.ref sx1), .val (.ref ty), .unset, .unset, .unset] [(.ref ty), (.ref sx1)])) _
    exact kt
  obtain ⟨_, _, ⟨T4, L4, k4, n4⟩, -, X4, S24, gr4, ⟨Lc4, hQ4, l4, y4, z4⟩, st4⟩ := callSS X3 hx (y := (⟨"com/example/lifetable/lifetable/output/Column", "of", "(Ljava/lang/String;Lcom/example/lifetable/lifetable/output/Column$Type;)Lcom/example/lifetable/lifetable/output/Column;"⟩ : MethodName)) hown (mvT hZ (hw _ (List.mem_of_getElem? (i := 41) rfl))) (mvT hZ (hw _ (List.mem_of_getElem? (i := 42) rfl))) (mvT hZ (hw _ (List.mem_of_getElem? (i := 43) rfl))) (mvT hZ (hw _ (List.mem_of_getElem? (i := 44) rfl))) (by decide) (backOfS (W := 0) (rmOf l Z a0 hw [] sx1 ty  T1.heap n0 Z1 E1x E_ty) hZ (hw _ (List.mem_of_getElem? (i := 44) rfl)) (hw _ (List.mem_of_getElem? (i := 43) rfl)) (by decide) (by decide)) (g := (mkF m 26 #[.val (.int sel), .val (.int len), .val (.int ya), .val (.int yb), .val (.int yc), .val (.int (0 : Int32)), .val (.ref sx1), .val (.ref ty), .unset, .unset, .unset] [(.ref ty), (.ref sx1)])) rfl (by rw [hml]; rfl) (argsL := [(.ref sx1), (.ref ty)]) (rest := []) (lenOf pd_6 rfl) rfl (by show 2 * 0 + _ ≤ _; exact Nat.le_of_eq rfl) (hb hby at_26) (fun _ _ => ⟨rfl, e3, (by decide : 6 + 5 ≤ _), (by decide : 12 + 42 ≤ _)⟩)
  dsimp only [Pt.U, Pt.locs, Pt.cells, Pt.slots] at X4 l4 y4 z4 st4 hQ4 S24 gr4
  subst l4 y4 z4
  obtain ⟨X4, hS, hZ, hown⟩ := rebS hS (own_hk e3 (Nat.le_refl _)) X4 S24 gr4 hZ hown
  obtain ⟨N4q, K4, co4, rfl, le4, E4o, Fn4, Ft4⟩ := hQ4
  have N4 := Fr.app N3 N4q
  have ne_sx1_co4 : sx1 ≠ co4 := Nat.ne_of_lt (Nat.lt_of_lt_of_le E1x.lt le4)
  have ne_bt1_co4 : bt1 ≠ co4 := Nat.ne_of_lt (Nat.lt_of_lt_of_le V1x.lt le4)
  have ne_ty_co4 : ty ≠ co4 := Nat.ne_of_lt (Nat.lt_of_lt_of_le E_ty.lt le4)
  have g_co4 : n0 ≤ co4 := Nat.le_trans Z1 le4
  have sz_co4 : h0.size ≤ co4 := Nat.le_trans KP1.1 le4
  have E4_sx1 := E1x.keep K4
  have F4_sx1_coder := C1x.keep K4 nin0
  have F4_sx1_value := F1x.keep K4 nin0
  have V4_bt1 := V1x.keep K4 nin0
  have E4_ty := E_ty.keep K4
  have Z4 := Nat.le_trans Z1 K4.1
  have KP4 := KP1.trans K4 all0
  obtain ⟨cq6, kq6, q6a, q6b, q6c⟩ := isOf hZ rfl E4o
  obtain ⟨_, _, ⟨T6, L6, k6, n6⟩, -, X6, ⟨Lc6, hQ6, l6, y6, z6⟩, st6⟩ := X4.virtualBack hx (y := (⟨"com/example/lifetable/lifetable/output/Column", "name", "()Ljava/lang/String;"⟩ : MethodName)) (z := (⟨"com/example/lifetable/lifetable/output/Column", "name", "()Ljava/lang/String;"⟩ : MethodName)) hown (mvT hZ (hw _ (List.mem_of_getElem? (i := 66) rfl))) (mvT hZ (hw _ (List.mem_of_getElem? (i := 67) rfl))) (notFace_of_selects (args := #[]) (mvT hZ (hw _ (List.mem_of_getElem? (i := 69) rfl)))) (mvT hZ (hw _ (List.mem_of_getElem? (i := 69) rfl))) (mvT hZ (hw _ (List.mem_of_getElem? (i := 68) rfl))) (by decide) (backOf (W := 0) (rmName l Z a0 hw [] co4 sx1 T4.heap n0 Fn4) hZ (hw _ (List.mem_of_getElem? (i := 70) rfl)) (hw _ (List.mem_of_getElem? (i := 43) rfl)) (by decide) (by decide)) q6a q6c (g := (mkF m 33 #[.val (.int sel), .val (.int len), .val (.int ya), .val (.int yb), .val (.int yc), .val (.int (0 : Int32)), .val (.ref sx1), .val (.ref ty), .val (.ref co4), .unset, .unset] [(.ref co4)])) rfl (by rw [hml]; rfl) (Steps.refl _) (argsL := []) (rest := []) (lenOf pd_7 rfl) rfl (by show 2 * 0 + _ ≤ _; exact Nat.le_of_eq rfl) (hb hby at_33) (fun _ _ => ⟨rfl, rfl, (by decide : 11 + 0 ≤ _), (by decide : 54 + 0 ≤ _)⟩)
  dsimp only [Pt.U, Pt.locs, Pt.cells, Pt.slots] at X6 l6 y6 z6 st6 hQ6
  subst l6 y6 z6
  obtain ⟨rfl, N6q, e6⟩ := hQ6
  have N6 := Fr.app N4 N6q
  obtain ⟨cq7, kq7, q7a, q7b, q7c⟩ := isOf hZ e6 E4o
  obtain ⟨_, _, ⟨T7, L7, k7, n7⟩, -, X7, ⟨Lc7, hQ7, l7, y7, z7⟩, st7⟩ := X6.virtualBack hx (y := (⟨"com/example/lifetable/lifetable/output/Column", "type", "()Lcom/example/lifetable/lifetable/output/Column$Type;"⟩ : MethodName)) (z := (⟨"com/example/lifetable/lifetable/output/Column", "type", "()Lcom/example/lifetable/lifetable/output/Column$Type;"⟩ : MethodName)) hown (mvT hZ (hw _ (List.mem_of_getElem? (i := 71) rfl))) (mvT hZ (hw _ (List.mem_of_getElem? (i := 72) rfl))) (notFace_of_selects (args := #[]) (mvT hZ (hw _ (List.mem_of_getElem? (i := 74) rfl)))) (mvT hZ (hw _ (List.mem_of_getElem? (i := 74) rfl))) (mvT hZ (hw _ (List.mem_of_getElem? (i := 73) rfl))) (by decide) (backOf (W := 0) (rmType l Z a0 hw [] co4 ty T4.heap n0 Ft4) hZ (hw _ (List.mem_of_getElem? (i := 75) rfl)) (hw _ (List.mem_of_getElem? (i := 43) rfl)) (by decide) (by decide)) q7a q7c (g := (mkF m 40 #[.val (.int sel), .val (.int len), .val (.int ya), .val (.int yb), .val (.int yc), .val (.int (0 : Int32)), .val (.ref sx1), .val (.ref ty), .val (.ref co4), .val (.ref sx1), .unset] [(.ref co4)])) rfl (by rw [hml]; rfl) (Steps.refl _) (argsL := []) (rest := []) (lenOf pd_8 rfl) rfl (by show 2 * 0 + _ ≤ _; exact Nat.le_of_eq rfl) (hb hby at_40) (fun _ _ => ⟨rfl, e6, (by decide : 11 + 0 ≤ _), (by decide : 54 + 0 ≤ _)⟩)
  dsimp only [Pt.U, Pt.locs, Pt.cells, Pt.slots] at X7 l7 y7 z7 st7 hQ7
  subst l7 y7 z7
  obtain ⟨rfl, N7q, e7⟩ := hQ7
  have N7 := Fr.app N6 N7q
  obtain ⟨cq8, kq8, q8a, q8b, q8c⟩ := isOf hZ e7 E4_sx1
  obtain ⟨_, _, ⟨T8, L8, k8, n8⟩, -, X8, ⟨Lc8, hQ8, l8, y8, z8⟩, st8⟩ := X7.virtualBack hx (y := (⟨"java/lang/String", "length", "()I"⟩ : MethodName)) (z := (⟨"java/lang/String", "length", "()I"⟩ : MethodName)) hown (mvT hZ (hw _ (List.mem_of_getElem? (i := 76) rfl))) (mvT hZ (hw _ (List.mem_of_getElem? (i := 77) rfl))) (notFace_of_selects (args := #[]) (mvT hZ (hw _ (List.mem_of_getElem? (i := 79) rfl)))) (mvT hZ (hw _ (List.mem_of_getElem? (i := 79) rfl))) (mvT hZ (hw _ (List.mem_of_getElem? (i := 78) rfl))) (by decide) (StrChars.Road.lenW (W := 0) hZ hln (kI := 4) (hw _ (List.mem_of_getElem? (i := 5) rfl)) (cs := ([] : List Int32)) E4_sx1 F4_sx1_value F4_sx1_coder V4_bt1 hcd hbd (S_cs.ext (own_extK KP4)) hcz (Nat.le_of_ble_eq_true rfl) (by decide) (by decide)) q8a q8c (g := (mkF m 59 #[.val (.int sel), .val (.int len), .val (.int ya), .val (.int yb), .val (.int yc), .val (.int (0 : Int32)), .val (.ref sx1), .val (.ref ty), .val (.ref co4), .val (.ref sx1), .val (.ref ty)] [(.ref sx1)])) rfl (by rw [hml]; rfl) (Steps.refl _) (argsL := []) (rest := []) (lenOf pd_9 rfl) rfl (by show 2 * 0 + _ ≤ _; exact Nat.le_of_eq rfl) (hb hby at_59) (fun _ _ => ⟨rfl, e7, (by decide : 11 + 0 ≤ _), (by decide : 54 + 0 ≤ _)⟩)
  dsimp only [Pt.U, Pt.locs, Pt.cells, Pt.slots] at X8 l8 y8 z8 st8 hQ8
  subst l8 y8 z8
  obtain ⟨rfl, rfl, e8⟩ := hQ8
  have N8 := Fr.app N7 (Fr.nil n0)
  have hd9 : (0 : Int32) = (0 : Int32) := rfl
  have hd10 : (0 : Int32) < (1 : Int32) := by decide
  have hd11 : (0 : Int32) < (2 : Int32) := by decide
  have hd12 : (0 : Int32) < (3 : Int32) := by decide
  obtain ⟨cq13, kq13, q13a, q13b, q13c⟩ := isOf hZ e8 E4_sx1
  obtain ⟨_, _, ⟨T13, L13, k13, n13⟩, -, X13, ⟨Lc13, hQ13, l13, y13, z13⟩, st13⟩ := X8.virtualBack hx (y := (⟨"java/lang/String", "equals", "(Ljava/lang/Object;)Z"⟩ : MethodName)) (z := (⟨"java/lang/String", "equals", "(Ljava/lang/Object;)Z"⟩ : MethodName)) hown (mvT hZ (hw _ (List.mem_of_getElem? (i := 108) rfl))) (mvT hZ (hw _ (List.mem_of_getElem? (i := 109) rfl))) (notFace_of_selects (args := #[]) (mvT hZ (hw _ (List.mem_of_getElem? (i := 111) rfl)))) (mvT hZ (hw _ (List.mem_of_getElem? (i := 111) rfl))) (mvT hZ (hw _ (List.mem_of_getElem? (i := 110) rfl))) (by decide) (backOf (W := 0) (rmEq l Z a0 hw [] sx1 sx1  T4.heap n0 rfl) hZ (hw _ (List.mem_of_getElem? (i := 112) rfl)) (hw _ (List.mem_of_getElem? (i := 6) rfl)) (by decide) (by decide)) q13a q13c (g := (mkF m 143 #[.val (.int sel), .val (.int len), .val (.int ya), .val (.int yb), .val (.int yc), .val (.int (0 : Int32)), .val (.ref sx1), .val (.ref ty), .val (.ref co4), .val (.ref sx1), .val (.ref ty)] [(.ref sx1), (.ref sx1)])) rfl (by rw [hml]; rfl) (Steps.refl _) (argsL := [(.ref sx1)]) (rest := []) (lenOf pd_10 rfl) rfl (by show 2 * 0 + _ ≤ _; exact Nat.le_of_eq rfl) (hb hby at_143) (fun _ _ => ⟨rfl, e8, (by decide : 11 + 0 ≤ _), (by decide : 54 + 0 ≤ _)⟩)
  dsimp only [Pt.U, Pt.locs, Pt.cells, Pt.slots] at X13 l13 y13 z13 st13 hQ13
  subst l13 y13 z13
  obtain ⟨rfl, N13q, e13⟩ := hQ13
  have N13 := Fr.app N8 N13q
  have hd14 : ¬ ((1 : Int32) = (0 : Int32)) := by decide
  have k15 : ∀ tg, Steps p.tables e below (T13.setTop (mkF m 161 #[.val (.int sel), .val (.int len), .val (.int ya), .val (.int yb), .val (.int yc), .val (.int (0 : Int32)), .val (.ref sx1), .val (.ref ty), .val (.ref co4), .val (.ref sx1), .val (.ref ty)] [(.int (1 : Int32))])) tg → Steps p.tables e below (s₁.setTop (entryFrame m #[(.int sel), (.int len), (.int ya), (.int yb), (.int yc)] maxLocals)) tg := by
    intro tg kt
    refine k5 tg ?_
    refine st4.trans ?_
    show Steps p.tables e below (T4.setTop (mkF m 29 #[.val (.int sel), .val (.int len), .val (.int ya), .val (.int yb), .val (.int yc), .val (.int (0 : Int32)), .val (.ref sx1), .val (.ref ty), .unset, .unset, .unset] [(.ref co4)])) _
    refine XS.astore X4.here hx rfl (hb hby at_29) rfl rfl (l' := #[.val (.int sel), .val (.int len), .val (.int ya), .val (.int yb), .val (.int yc), .val (.int (0 : Int32)), .val (.ref sx1), .val (.ref ty), .val (.ref co4), .unset, .unset]) rfl ?_
    show Steps p.tables e below (T4.setTop (mkF m 31 #[.val (.int sel), .val (.int len), .val (.int ya), .val (.int yb), .val (.int yc), .val (.int (0 : Int32)), .val (.ref sx1), .val (.ref ty), .val (.ref co4), .unset, .unset] [])) _
    refine XS.aload X4.here hx rfl (hb hby at_31) rfl rfl ?_
    show Steps p.tables e below (T4.setTop (mkF m 33 #[.val (.int sel), .val (.int len), .val (.int ya), .val (.int yb), .val (.int yc), .val (.int (0 : Int32)), .val (.ref sx1), .val (.ref ty), .val (.ref co4), .unset, .unset] [(.ref co4)])) _
    refine st6.trans ?_
    show Steps p.tables e below (T6.setTop (mkF m 36 #[.val (.int sel), .val (.int len), .val (.int ya), .val (.int yb), .val (.int yc), .val (.int (0 : Int32)), .val (.ref sx1), .val (.ref ty), .val (.ref co4), .unset, .unset] [(.ref sx1)])) _
    refine XS.astore X6.here hx rfl (hb hby at_36) rfl rfl (l' := #[.val (.int sel), .val (.int len), .val (.int ya), .val (.int yb), .val (.int yc), .val (.int (0 : Int32)), .val (.ref sx1), .val (.ref ty), .val (.ref co4), .val (.ref sx1), .unset]) rfl ?_
    show Steps p.tables e below (T6.setTop (mkF m 38 #[.val (.int sel), .val (.int len), .val (.int ya), .val (.int yb), .val (.int yc), .val (.int (0 : Int32)), .val (.ref sx1), .val (.ref ty), .val (.ref co4), .val (.ref sx1), .unset] [])) _
    refine XS.aload X6.here hx rfl (hb hby at_38) rfl rfl ?_
    show Steps p.tables e below (T6.setTop (mkF m 40 #[.val (.int sel), .val (.int len), .val (.int ya), .val (.int yb), .val (.int yc), .val (.int (0 : Int32)), .val (.ref sx1), .val (.ref ty), .val (.ref co4), .val (.ref sx1), .unset] [(.ref co4)])) _
    refine st7.trans ?_
    show Steps p.tables e below (T7.setTop (mkF m 43 #[.val (.int sel), .val (.int len), .val (.int ya), .val (.int yb), .val (.int yc), .val (.int (0 : Int32)), .val (.ref sx1), .val (.ref ty), .val (.ref co4), .val (.ref sx1), .unset] [(.ref ty)])) _
    refine XS.astore X7.here hx rfl (hb hby at_43) rfl rfl (l' := #[.val (.int sel), .val (.int len), .val (.int ya), .val (.int yb), .val (.int yc), .val (.int (0 : Int32)), .val (.ref sx1), .val (.ref ty), .val (.ref co4), .val (.ref sx1), .val (.ref ty)]) rfl ?_
    show Steps p.tables e below (T7.setTop (mkF m 45 #[.val (.int sel), .val (.int len), .val (.int ya), .val (.int yb), .val (.int yc), .val (.int (0 : Int32)), .val (.ref sx1), .val (.ref ty), .val (.ref co4), .val (.ref sx1), .val (.ref ty)] [])) _
    refine XS.aload X7.here hx rfl (hb hby at_45) rfl rfl ?_
    show Steps p.tables e below (T7.setTop (mkF m 47 #[.val (.int sel), .val (.int len), .val (.int ya), .val (.int yb), .val (.int yc), .val (.int (0 : Int32)), .val (.ref sx1), .val (.ref ty), .val (.ref co4), .val (.ref sx1), .val (.ref ty)] [(.ref sx1)])) _
    refine XS.ifnullNo X7.here hx rfl (hb hby at_47) rfl ?_
    show Steps p.tables e below (T7.setTop (mkF m 50 #[.val (.int sel), .val (.int len), .val (.int ya), .val (.int yb), .val (.int yc), .val (.int (0 : Int32)), .val (.ref sx1), .val (.ref ty), .val (.ref co4), .val (.ref sx1), .val (.ref ty)] [])) _
    refine XS.aload X7.here hx rfl (hb hby at_50) rfl rfl ?_
    show Steps p.tables e below (T7.setTop (mkF m 52 #[.val (.int sel), .val (.int len), .val (.int ya), .val (.int yb), .val (.int yc), .val (.int (0 : Int32)), .val (.ref sx1), .val (.ref ty), .val (.ref co4), .val (.ref sx1), .val (.ref ty)] [(.ref ty)])) _
    refine XS.ifnonnullYes X7.here hx rfl (pc0 := 52) (pc' := 57) rfl (hb hby at_52) rfl (by decide) (by decide) ?_
    show Steps p.tables e below (T7.setTop (mkF m 57 #[.val (.int sel), .val (.int len), .val (.int ya), .val (.int yb), .val (.int yc), .val (.int (0 : Int32)), .val (.ref sx1), .val (.ref ty), .val (.ref co4), .val (.ref sx1), .val (.ref ty)] [])) _
    refine XS.aload X7.here hx rfl (hb hby at_57) rfl rfl ?_
    show Steps p.tables e below (T7.setTop (mkF m 59 #[.val (.int sel), .val (.int len), .val (.int ya), .val (.int yb), .val (.int yc), .val (.int (0 : Int32)), .val (.ref sx1), .val (.ref ty), .val (.ref co4), .val (.ref sx1), .val (.ref ty)] [(.ref sx1)])) _
    refine st8.trans ?_
    show Steps p.tables e below (T8.setTop (mkF m 62 #[.val (.int sel), .val (.int len), .val (.int ya), .val (.int yb), .val (.int yc), .val (.int (0 : Int32)), .val (.ref sx1), .val (.ref ty), .val (.ref co4), .val (.ref sx1), .val (.ref ty)] [(.int (0 : Int32))])) _
    refine XS.iload X8.here hx rfl (hb hby at_62) rfl ?_
    show Steps p.tables e below (T8.setTop (mkF m 64 #[.val (.int sel), .val (.int len), .val (.int ya), .val (.int yb), .val (.int yc), .val (.int (0 : Int32)), .val (.ref sx1), .val (.ref ty), .val (.ref co4), .val (.ref sx1), .val (.ref ty)] [(.int (0 : Int32)), (.int (0 : Int32))])) _
    refine XS.icmpYes X8.here hx rfl (pc0 := 64) (pc' := 69) rfl (hb hby at_64) rfl (teq hd9).1 (by decide) (by decide) ?_
    show Steps p.tables e below (T8.setTop (mkF m 69 #[.val (.int sel), .val (.int len), .val (.int ya), .val (.int yb), .val (.int yc), .val (.int (0 : Int32)), .val (.ref sx1), .val (.ref ty), .val (.ref co4), .val (.ref sx1), .val (.ref ty)] [])) _
    refine XS.iload X8.here hx rfl (hb hby at_69) rfl ?_
    show Steps p.tables e below (T8.setTop (mkF m 71 #[.val (.int sel), .val (.int len), .val (.int ya), .val (.int yb), .val (.int yc), .val (.int (0 : Int32)), .val (.ref sx1), .val (.ref ty), .val (.ref co4), .val (.ref sx1), .val (.ref ty)] [(.int (0 : Int32))])) _
    refine XS.iconst X8.here hx rfl (hb hby at_71) ?_
    show Steps p.tables e below (T8.setTop (mkF m 72 #[.val (.int sel), .val (.int len), .val (.int ya), .val (.int yb), .val (.int yc), .val (.int (0 : Int32)), .val (.ref sx1), .val (.ref ty), .val (.ref co4), .val (.ref sx1), .val (.ref ty)] [(.int (1 : Int32)), (.int (0 : Int32))])) _
    refine XS.icmpYes X8.here hx rfl (pc0 := 72) (pc' := 92) rfl (hb hby at_72) rfl (tlt hd10).1 (by decide) (by decide) ?_
    show Steps p.tables e below (T8.setTop (mkF m 92 #[.val (.int sel), .val (.int len), .val (.int ya), .val (.int yb), .val (.int yc), .val (.int (0 : Int32)), .val (.ref sx1), .val (.ref ty), .val (.ref co4), .val (.ref sx1), .val (.ref ty)] [])) _
    refine XS.iload X8.here hx rfl (hb hby at_92) rfl ?_
    show Steps p.tables e below (T8.setTop (mkF m 94 #[.val (.int sel), .val (.int len), .val (.int ya), .val (.int yb), .val (.int yc), .val (.int (0 : Int32)), .val (.ref sx1), .val (.ref ty), .val (.ref co4), .val (.ref sx1), .val (.ref ty)] [(.int (0 : Int32))])) _
    refine XS.iconst X8.here hx rfl (hb hby at_94) ?_
    show Steps p.tables e below (T8.setTop (mkF m 95 #[.val (.int sel), .val (.int len), .val (.int ya), .val (.int yb), .val (.int yc), .val (.int (0 : Int32)), .val (.ref sx1), .val (.ref ty), .val (.ref co4), .val (.ref sx1), .val (.ref ty)] [(.int (2 : Int32)), (.int (0 : Int32))])) _
    refine XS.icmpYes X8.here hx rfl (pc0 := 95) (pc' := 115) rfl (hb hby at_95) rfl (tlt hd11).1 (by decide) (by decide) ?_
    show Steps p.tables e below (T8.setTop (mkF m 115 #[.val (.int sel), .val (.int len), .val (.int ya), .val (.int yb), .val (.int yc), .val (.int (0 : Int32)), .val (.ref sx1), .val (.ref ty), .val (.ref co4), .val (.ref sx1), .val (.ref ty)] [])) _
    refine XS.iload X8.here hx rfl (hb hby at_115) rfl ?_
    show Steps p.tables e below (T8.setTop (mkF m 117 #[.val (.int sel), .val (.int len), .val (.int ya), .val (.int yb), .val (.int yc), .val (.int (0 : Int32)), .val (.ref sx1), .val (.ref ty), .val (.ref co4), .val (.ref sx1), .val (.ref ty)] [(.int (0 : Int32))])) _
    refine XS.iconst X8.here hx rfl (hb hby at_117) ?_
    show Steps p.tables e below (T8.setTop (mkF m 118 #[.val (.int sel), .val (.int len), .val (.int ya), .val (.int yb), .val (.int yc), .val (.int (0 : Int32)), .val (.ref sx1), .val (.ref ty), .val (.ref co4), .val (.ref sx1), .val (.ref ty)] [(.int (3 : Int32)), (.int (0 : Int32))])) _
    refine XS.icmpYes X8.here hx rfl (pc0 := 118) (pc' := 139) rfl (hb hby at_118) rfl (tlt hd12).1 (by decide) (by decide) ?_
    show Steps p.tables e below (T8.setTop (mkF m 139 #[.val (.int sel), .val (.int len), .val (.int ya), .val (.int yb), .val (.int yc), .val (.int (0 : Int32)), .val (.ref sx1), .val (.ref ty), .val (.ref co4), .val (.ref sx1), .val (.ref ty)] [])) _
    refine XS.aload X8.here hx rfl (hb hby at_139) rfl rfl ?_
    show Steps p.tables e below (T8.setTop (mkF m 141 #[.val (.int sel), .val (.int len), .val (.int ya), .val (.int yb), .val (.int yc), .val (.int (0 : Int32)), .val (.ref sx1), .val (.ref ty), .val (.ref co4), .val (.ref sx1), .val (.ref ty)] [(.ref sx1)])) _
    refine XS.aload X8.here hx rfl (hb hby at_141) rfl rfl ?_
    show Steps p.tables e below (T8.setTop (mkF m 143 #[.val (.int sel), .val (.int len), .val (.int ya), .val (.int yb), .val (.int yc), .val (.int (0 : Int32)), .val (.ref sx1), .val (.ref ty), .val (.ref co4), .val (.ref sx1), .val (.ref ty)] [(.ref sx1), (.ref sx1)])) _
    refine st13.trans ?_
    show Steps p.tables e below (T13.setTop (mkF m 146 #[.val (.int sel), .val (.int len), .val (.int ya), .val (.int yb), .val (.int yc), .val (.int (0 : Int32)), .val (.ref sx1), .val (.ref ty), .val (.ref co4), .val (.ref sx1), .val (.ref ty)] [(.int (1 : Int32))])) _
    refine XS.ifNo X13.here hx rfl (hb hby at_146) rfl ((if0 _ _).trans (feq hd14).1) ?_
    show Steps p.tables e below (T13.setTop (mkF m 149 #[.val (.int sel), .val (.int len), .val (.int ya), .val (.int yb), .val (.int yc), .val (.int (0 : Int32)), .val (.ref sx1), .val (.ref ty), .val (.ref co4), .val (.ref sx1), .val (.ref ty)] [])) _
    refine XS.aload X13.here hx rfl (hb hby at_149) rfl rfl ?_
    show Steps p.tables e below (T13.setTop (mkF m 151 #[.val (.int sel), .val (.int len), .val (.int ya), .val (.int yb), .val (.int yc), .val (.int (0 : Int32)), .val (.ref sx1), .val (.ref ty), .val (.ref co4), .val (.ref sx1), .val (.ref ty)] [(.ref ty)])) _
    refine XS.aload X13.here hx rfl (hb hby at_151) rfl rfl ?_
    show Steps p.tables e below (T13.setTop (mkF m 153 #[.val (.int sel), .val (.int len), .val (.int ya), .val (.int yb), .val (.int yc), .val (.int (0 : Int32)), .val (.ref sx1), .val (.ref ty), .val (.ref co4), .val (.ref sx1), .val (.ref ty)] [(.ref ty), (.ref ty)])) _
    refine Jvm.RoadKit.acmp (g := (mkF m 153 #[.val (.int sel), .val (.int len), .val (.int ya), .val (.int yb), .val (.int yc), .val (.int (0 : Int32)), .val (.ref sx1), .val (.ref ty), .val (.ref co4), .val (.ref sx1), .val (.ref ty)] [(.ref ty), (.ref ty)])) X13 hx rfl rfl rfl (pc0 := 153) (pc' := 156) (same := true) rfl (hb hby at_153) rfl (decide_eq_true rfl) (by decide) (by decide) ?_
    show Steps p.tables e below (T13.setTop (mkF m 156 #[.val (.int sel), .val (.int len), .val (.int ya), .val (.int yb), .val (.int yc), .val (.int (0 : Int32)), .val (.ref sx1), .val (.ref ty), .val (.ref co4), .val (.ref sx1), .val (.ref ty)] [])) _
    refine XS.iconst X13.here hx rfl (hb hby at_156) ?_
    show Steps p.tables e below (T13.setTop (mkF m 157 #[.val (.int sel), .val (.int len), .val (.int ya), .val (.int yb), .val (.int yc), .val (.int (0 : Int32)), .val (.ref sx1), .val (.ref ty), .val (.ref co4), .val (.ref sx1), .val (.ref ty)] [(.int (1 : Int32))])) _
    refine XS.goto X13.here hx rfl (pc0 := 157) (pc' := 161) rfl (hb hby at_157) (by decide) (by decide) ?_
    show Steps p.tables e below (T13.setTop (mkF m 161 #[.val (.int sel), .val (.int len), .val (.int ya), .val (.int yb), .val (.int yc), .val (.int (0 : Int32)), .val (.ref sx1), .val (.ref ty), .val (.ref co4), .val (.ref sx1), .val (.ref ty)] [(.int (1 : Int32))])) _
    exact kt
  obtain ⟨fs, hr, hrun, hended, hRW⟩ := X13.leaveW hS (own_hk e13 (Nat.le_refl _)) (v := some (.int (1 : Int32))) (fun h => by rw [Bd.returns] at h; cases h)
  refine ⟨_, _, k15 _ ?_, hrun, hended, _, _, rfl, ?_, hRW.1, hRW.2.1, hRW.2.2.1, hRW.2.2.2.mono (by decide) (by decide)⟩
  · exact retN X13 hx (t := .boolean) Bd.returns (by simp) (hb hby at_161) hr
  · show QL n0 _ T13.heap _
    exact ⟨rfl, N13⟩
theorem pd_11 : parseMethodDescriptor "(I)C" = some ⟨[.int], some .char⟩ := by decide +kernel
theorem ef_rm0_1 (m : MethodId) (sel : Int32) (len : Int32) (ya : Int32) (yb : Int32) (yc : Int32) : entryFrame m #[(.int sel), (.int len), (.int ya), (.int yb), (.int yc)] maxLocals = mkF m 0 #[.val (.int sel), .val (.int len), .val (.int ya), .val (.int yb), .val (.int yc), .unset, .unset, .unset, .unset, .unset, .unset] [] := by first | (simp [entryFrame, mkF, argsToLocals, Value.category, maxLocals]; done) | rfl
set_option maxRecDepth 65536 in
set_option maxHeartbeats 40000000 in
theorem rm0_1 (l : Launch) (Z : State) (a0 : Array Value) (hw : ∀ d ∈ tables_1, d.before a0 Z = true) (ws : List Jvm.Cond) (sel : Int32) (len : Int32) (ya : Int32) (yb : Int32) (yc : Int32) (cz : Int32) (fm : Value) (v_TEXT v_INTEGER v_REAL : Addr) (h0 : Heap) (n0 : Nat) (Z0 : n0 ≤ h0.size) (hn3 : len &&& (3 : Int32) = (1 : Int32)) (S_cs : Sta Z h0 "java/lang/String" "COMPACT_STRINGS" "Z" (.int cz)) (hcz : ¬ cz = 0) (S_sf : Sta Z h0 "jdk/internal/util/Preconditions" "SIOOBE_FORMATTER" "Ljava/util/function/BiFunction;" fm) (rsf : fm.isRef = true) (S_TEXT : Sta Z h0 "com/example/lifetable/lifetable/output/Column$Type" "TEXT" "Lcom/example/lifetable/lifetable/output/Column$Type;" (.ref v_TEXT)) (S_INTEGER : Sta Z h0 "com/example/lifetable/lifetable/output/Column$Type" "INTEGER" "Lcom/example/lifetable/lifetable/output/Column$Type;" (.ref v_INTEGER)) (S_REAL : Sta Z h0 "com/example/lifetable/lifetable/output/Column$Type" "REAL" "Lcom/example/lifetable/lifetable/output/Column$Type;" (.ref v_REAL)) (E_TEXT : Exa Z h0 v_TEXT "com/example/lifetable/lifetable/output/Column$Type") (E_INTEGER : Exa Z h0 v_INTEGER "com/example/lifetable/lifetable/output/Column$Type") (E_REAL : Exa Z h0 v_REAL "com/example/lifetable/lifetable/output/Column$Type") :
    MetFree l x (head1 (Jvm.Cond.code x code maxLocals ret :: ws) room_1) (fun a_ U_ => a_ = #[(.int sel), (.int len), (.int ya), (.int yb), (.int yc)] ∧ Z.Warmed39 U_.vm ∧ U_.heap = h0) (fun _ _ _ _ _ => True) (fun _ U_ o_ U'_ => ∃ v_ L_, o_ = .returned v_ ∧ QL n0 v_ U'_.heap L_ ∧ ReturnedEndW U_ o_ U'_ L_ room_1.cells room_1.slots) := by
  refine MetFree.of_bodySF (plainFor_of_name pn_0) hisR ?_
  intro p e s m args below meth c s₁ Bd hml0 hP hK
  obtain ⟨rfl, hZ, hh⟩ := hP
  have hx := Bd.exec
  have hby := Bd.bytes
  have hml : c.maxLocals = 11 := hml0
  have hown : s.vm.findClass "com/example/lifetable/lifetable/output/ColumnOfPinLaw" = some m.cls := findClass_of_methodNamed Bd.named
  have hnm := (name_of_methodNamed Bd.named Bd.method).1
  have X0 : Stand p l e room_1 (s.setVm s.vm) m #[(.int sel), (.int len), (.int ya), (.int yb), (.int yc)] below meth c s₁ [] 0 0 := Stand.of_body Bd
  have hZ : Z.Warmed39 (s.setVm s.vm).vm := hZ
  have hown : (s.setVm s.vm).vm.findClass "com/example/lifetable/lifetable/output/ColumnOfPinLaw" = some m.cls := hown
  have hS : s.Since s.vm s.heap.size := (State.WarmedH.refl s).since _
  have HK0 : s.heap.size ≤ h0.size := Nat.le_of_eq (congrArg Array.size hh)
  have e0 : s₁.heap = h0 := by rw [← hh, Bd.state]; rfl
  have N0 := Fr.nil n0
  have k0 : ∀ tg, Steps p.tables e below (s₁.setTop (mkF m 0 #[.val (.int sel), .val (.int len), .val (.int ya), .val (.int yb), .val (.int yc), .unset, .unset, .unset, .unset, .unset, .unset] [])) tg → Steps p.tables e below (s₁.setTop (entryFrame m #[(.int sel), (.int len), (.int ya), (.int yb), (.int yc)] maxLocals)) tg := fun tg kq_ => castTop (ef_rm0_1 m sel len ya yb yc) kq_
  have hln : ∀ d ∈ StrChars.Road.wordsLen, d.before a0 Z = true := fun d hd => hw d ((by decide +kernel : ∀ d ∈ StrChars.Road.wordsLen, d ∈ tables_1) d hd)
  have hch : ∀ d ∈ StrChars.Road.wordsChN, d.before a0 Z = true := fun d hd => hw d ((by decide +kernel : ∀ d ∈ StrChars.Road.wordsChN, d ∈ tables_1) d hd)
  have hp : ∀ c ∈ ([((ya &&& (255 : Int32)).toUInt32.toUInt16.toUInt32.toInt32)] : List Int32), ¬ c < 0 ∧ ¬ (255 : Int32) < c := by
    intro c hc
    simp only [List.mem_cons, List.not_mem_nil, or_false] at hc
    subst hc
    exact own_255 _
  have hcd : StrChars.Road.CodA ([((ya &&& (255 : Int32)).toUInt32.toUInt16.toUInt32.toInt32)] : List Int32) 0 (Int32.ofNat ([((ya &&& (255 : Int32)).toUInt32.toUInt16.toUInt32.toInt32)] : List Int32).length) ((([((ya &&& (255 : Int32)).toUInt32.toUInt16.toUInt32.toInt32)] : List Int32).map fun c => c.toInt8.toInt32).map Value.int) := StrChars.Road.codOf (n := 1) rfl (fun c hc => (hp c hc).2)
  have hbd := own_up _ hp
  obtain ⟨_, _, ⟨T1, L1, k1, n1⟩, -, X1, ⟨Lc1, hQ1, l1, y1, z1⟩, st1⟩ := Jvm.LawKit.callS X0 hx (y := (⟨"com/example/lifetable/lifetable/output/ColumnOfPinLaw", "draw", "(IIII)Ljava/lang/String;"⟩ : MethodName)) hown (mvT hZ (hw _ (List.mem_of_getElem? (i := 0) rfl))) (mvT hZ (hw _ (List.mem_of_getElem? (i := 1) rfl))) (mvT hZ (hw _ (List.mem_of_getElem? (i := 2) rfl))) (mvT hZ (hw _ (List.mem_of_getElem? (i := 3) rfl))) (by decide) (backOf (W := 0) (rmDraw1 l Z a0 hw [] ya yb yc cz h0 n0 Z0 (S_cs.ext (own_extK (Keep.refl h0 []))) hcz) hZ (hw _ (List.mem_of_getElem? (i := 3) rfl)) (hw _ (List.mem_of_getElem? (i := 2) rfl)) (by decide) (by decide)) (g := (mkF m 11 #[.val (.int sel), .val (.int len), .val (.int ya), .val (.int yb), .val (.int yc), .val (.int (1 : Int32)), .unset, .unset, .unset, .unset, .unset] [(.int yc), (.int yb), (.int ya), (.int (1 : Int32))])) rfl (by rw [hml]; rfl) (argsL := [(.int (1 : Int32)), (.int ya), (.int yb), (.int yc)]) (rest := []) (lenOf pd_4 rfl) rfl (by show 2 * 0 + _ ≤ _; exact Nat.le_of_eq rfl) (hb hby at_11) (fun _ _ => ⟨rfl, e0, (by decide : 0 + 3 ≤ _), (by decide : 0 + 6 ≤ _)⟩)
  dsimp only [Pt.U, Pt.locs, Pt.cells, Pt.slots] at X1 l1 y1 z1 st1 hQ1
  subst l1 y1 z1
  obtain ⟨N1q, K1, sx1, bt1, kb1, rfl, le1, E1x, C1x, F1x, V1x⟩ := hQ1
  have N1 := Fr.app N0 N1q
  have g_sx1 : n0 ≤ sx1 := Nat.le_trans Z0 le1
  have sz_sx1 : h0.size ≤ sx1 := Nat.le_trans (Keep.refl h0 []).1 le1
  have HK1 := Nat.le_trans HK0 K1.1
  have Z1 := Nat.le_trans Z0 K1.1
  have KP1 := (Keep.refl h0 []).trans K1 all0
  obtain ⟨_, _, ⟨T2, L2, k2, n2⟩, -, X2, ⟨Lc2, hQ2, l2, y2, z2⟩, st2⟩ := Jvm.LawKit.callS X1 hx (y := (⟨"com/example/lifetable/lifetable/output/ColumnOfPinLaw", "pick", "(I)Lcom/example/lifetable/lifetable/output/Column$Type;"⟩ : MethodName)) hown (mvT hZ (hw _ (List.mem_of_getElem? (i := 34) rfl))) (mvT hZ (hw _ (List.mem_of_getElem? (i := 35) rfl))) (mvT hZ (hw _ (List.mem_of_getElem? (i := 2) rfl))) (mvT hZ (hw _ (List.mem_of_getElem? (i := 36) rfl))) (by decide) (backOf (W := 0) (rmPick l Z a0 hw [] sel v_TEXT v_INTEGER v_REAL T1.heap n0 (S_TEXT.ext (own_extK KP1)) (S_INTEGER.ext (own_extK KP1)) (S_REAL.ext (own_extK KP1))) hZ (hw _ (List.mem_of_getElem? (i := 36) rfl)) (hw _ (List.mem_of_getElem? (i := 2) rfl)) (by decide) (by decide)) (g := (mkF m 17 #[.val (.int sel), .val (.int len), .val (.int ya), .val (.int yb), .val (.int yc), .val (.int (1 : Int32)), .val (.ref sx1), .unset, .unset, .unset, .unset] [(.int sel)])) rfl (by rw [hml]; rfl) (argsL := [(.int sel)]) (rest := []) (lenOf pd_5 rfl) rfl (by show 2 * 0 + _ ≤ _; exact Nat.le_of_eq rfl) (hb hby at_17) (fun _ _ => ⟨rfl, rfl, (by decide : 3 + 0 ≤ _), (by decide : 6 + 0 ≤ _)⟩)
  dsimp only [Pt.U, Pt.locs, Pt.cells, Pt.slots] at X2 l2 y2 z2 st2 hQ2
  subst l2 y2 z2
  obtain ⟨rfl, N2q, e2⟩ := hQ2
  have N2 := Fr.app N1 N2q
  obtain ⟨ty, ety⟩ : ∃ z : Addr, z = (if ((sel &&& (2147483647 : Int32)) % (3 : Int32)) = (0 : Int32) then v_TEXT else (if ((sel &&& (2147483647 : Int32)) % (3 : Int32)) = (1 : Int32) then v_INTEGER else v_REAL)) := ⟨_, rfl⟩
  have E_ty0 : Exa Z h0 ty "com/example/lifetable/lifetable/output/Column$Type" := by
    rw [ety]
    (repeat' split) <;> assumption
  have E_ty := E_ty0.ext (own_extK KP1)
  have k4 : ∀ tg, Steps p.tables e below (T2.setTop (mkF m 26 #[.val (.int sel), .val (.int len), .val (.int ya), .val (.int yb), .val (.int yc), .val (.int (1 : Int32)), .val (.ref sx1), .val (.ref ty), .unset, .unset, .unset] [(.ref ty), (.ref sx1)])) tg → Steps p.tables e below (s₁.setTop (entryFrame m #[(.int sel), (.int len), (.int ya), (.int yb), (.int yc)] maxLocals)) tg := by
    intro tg kt
    refine k0 tg ?_
    show Steps p.tables e below (s₁.setTop (mkF m 0 #[.val (.int sel), .val (.int len), .val (.int ya), .val (.int yb), .val (.int yc), .unset, .unset, .unset, .unset, .unset, .unset] [])) _
    refine XS.iloadN X0.here hx rfl (hb hby at_0) rfl ?_
    show Steps p.tables e below (s₁.setTop (mkF m 1 #[.val (.int sel), .val (.int len), .val (.int ya), .val (.int yb), .val (.int yc), .unset, .unset, .unset, .unset, .unset, .unset] [(.int len)])) _
    refine XS.iconst X0.here hx rfl (hb hby at_1) ?_
    show Steps p.tables e below (s₁.setTop (mkF m 2 #[.val (.int sel), .val (.int len), .val (.int ya), .val (.int yb), .val (.int yc), .unset, .unset, .unset, .unset, .unset, .unset] [(.int (3 : Int32)), (.int len)])) _
    refine XS.iand X0.here hx rfl (hb hby at_2) rfl ?_
    show Steps p.tables e below (s₁.setTop (mkF m 3 #[.val (.int sel), .val (.int len), .val (.int ya), .val (.int yb), .val (.int yc), .unset, .unset, .unset, .unset, .unset, .unset] [(.int (len &&& (3 : Int32)))])) _
    refine XS.istore X0.here hx rfl (hb hby at_3) rfl (l' := #[.val (.int sel), .val (.int len), .val (.int ya), .val (.int yb), .val (.int yc), .val (.int (len &&& (3 : Int32))), .unset, .unset, .unset, .unset, .unset]) rfl ?_
    show Steps p.tables e below (s₁.setTop (mkF m 5 #[.val (.int sel), .val (.int len), .val (.int ya), .val (.int yb), .val (.int yc), .val (.int (len &&& (3 : Int32))), .unset, .unset, .unset, .unset, .unset] [])) _
    rw [hn3]
    show Steps p.tables e below (s₁.setTop (mkF m 5 #[.val (.int sel), .val (.int len), .val (.int ya), .val (.int yb), .val (.int yc), .val (.int (1 : Int32)), .unset, .unset, .unset, .unset, .unset] [])) _
    refine XS.iload X0.here hx rfl (hb hby at_5) rfl ?_
    show Steps p.tables e below (s₁.setTop (mkF m 7 #[.val (.int sel), .val (.int len), .val (.int ya), .val (.int yb), .val (.int yc), .val (.int (1 : Int32)), .unset, .unset, .unset, .unset, .unset] [(.int (1 : Int32))])) _
    refine XS.iloadN X0.here hx rfl (hb hby at_7) rfl ?_
    show Steps p.tables e below (s₁.setTop (mkF m 8 #[.val (.int sel), .val (.int len), .val (.int ya), .val (.int yb), .val (.int yc), .val (.int (1 : Int32)), .unset, .unset, .unset, .unset, .unset] [(.int ya), (.int (1 : Int32))])) _
    refine XS.iloadN X0.here hx rfl (hb hby at_8) rfl ?_
    show Steps p.tables e below (s₁.setTop (mkF m 9 #[.val (.int sel), .val (.int len), .val (.int ya), .val (.int yb), .val (.int yc), .val (.int (1 : Int32)), .unset, .unset, .unset, .unset, .unset] [(.int yb), (.int ya), (.int (1 : Int32))])) _
    refine XS.iload X0.here hx rfl (hb hby at_9) rfl ?_
    show Steps p.tables e below (s₁.setTop (mkF m 11 #[.val (.int sel), .val (.int len), .val (.int ya), .val (.int yb), .val (.int yc), .val (.int (1 : Int32)), .unset, .unset, .unset, .unset, .unset] [(.int yc), (.int yb), (.int ya), (.int (1 : Int32))])) _
    refine st1 _ ?_
    show Steps p.tables e below (T1.setTop (mkF m 14 #[.val (.int sel), .val (.int len), .val (.int ya), .val (.int yb), .val (.int yc), .val (.int (1 : Int32)), .unset, .unset, .unset, .unset, .unset] [(.ref sx1)])) _
    refine XS.astore X1.here hx rfl (hb hby at_14) rfl rfl (l' := #[.val (.int sel), .val (.int len), .val (.int ya), .val (.int yb), .val (.int yc), .val (.int (1 : Int32)), .val (.ref sx1), .unset, .unset, .unset, .unset]) rfl ?_
    show Steps p.tables e below (T1.setTop (mkF m 16 #[.val (.int sel), .val (.int len), .val (.int ya), .val (.int yb), .val (.int yc), .val (.int (1 : Int32)), .val (.ref sx1), .unset, .unset, .unset, .unset] [])) _
    refine XS.iloadN X1.here hx rfl (hb hby at_16) rfl ?_
    show Steps p.tables e below (T1.setTop (mkF m 17 #[.val (.int sel), .val (.int len), .val (.int ya), .val (.int yb), .val (.int yc), .val (.int (1 : Int32)), .val (.ref sx1), .unset, .unset, .unset, .unset] [(.int sel)])) _
    refine st2 _ ?_
    show Steps p.tables e below (T2.setTop (mkF m 20 #[.val (.int sel), .val (.int len), .val (.int ya), .val (.int yb), .val (.int yc), .val (.int (1 : Int32)), .val (.ref sx1), .unset, .unset, .unset, .unset] [(.ref (if ((sel &&& (2147483647 : Int32)) % (3 : Int32)) = (0 : Int32) then v_TEXT else (if ((sel &&& (2147483647 : Int32)) % (3 : Int32)) = (1 : Int32) then v_INTEGER else v_REAL)))])) _
    rw [← ety]
    show Steps p.tables e below (T2.setTop (mkF m 20 #[.val (.int sel), .val (.int len), .val (.int ya), .val (.int yb), .val (.int yc), .val (.int (1 : Int32)), .val (.ref sx1), .unset, .unset, .unset, .unset] [(.ref ty)])) _
    refine XS.astore X2.here hx rfl (hb hby at_20) rfl rfl (l' := #[.val (.int sel), .val (.int len), .val (.int ya), .val (.int yb), .val (.int yc), .val (.int (1 : Int32)), .val (.ref sx1), .val (.ref ty), .unset, .unset, .unset]) rfl ?_
    show Steps p.tables e below (T2.setTop (mkF m 22 #[.val (.int sel), .val (.int len), .val (.int ya), .val (.int yb), .val (.int yc), .val (.int (1 : Int32)), .val (.ref sx1), .val (.ref ty), .unset, .unset, .unset] [])) _
    refine XS.aload X2.here hx rfl (hb hby at_22) rfl rfl ?_
    show Steps p.tables e below (T2.setTop (mkF m 24 #[.val (.int sel), .val (.int len), .val (.int ya), .val (.int yb), .val (.int yc), .val (.int (1 : Int32)), .val (.ref sx1), .val (.ref ty), .unset, .unset, .unset] [(.ref sx1)])) _
    refine XS.aload X2.here hx rfl (hb hby at_24) rfl rfl ?_
    show Steps p.tables e below (T2.setTop (mkF m 26 #[.val (.int sel), .val (.int len), .val (.int ya), .val (.int yb), .val (.int yc), .val (.int (1 : Int32)), .val (.ref sx1), .val (.ref ty), .unset, .unset, .unset] [(.ref ty), (.ref sx1)])) _
    exact kt
  obtain ⟨_, _, ⟨T3, L3, k3, n3⟩, -, X3, S23, gr3, ⟨Lc3, hQ3, l3, y3, z3⟩, st3⟩ := callSS X2 hx (y := (⟨"com/example/lifetable/lifetable/output/Column", "of", "(Ljava/lang/String;Lcom/example/lifetable/lifetable/output/Column$Type;)Lcom/example/lifetable/lifetable/output/Column;"⟩ : MethodName)) hown (mvT hZ (hw _ (List.mem_of_getElem? (i := 41) rfl))) (mvT hZ (hw _ (List.mem_of_getElem? (i := 42) rfl))) (mvT hZ (hw _ (List.mem_of_getElem? (i := 43) rfl))) (mvT hZ (hw _ (List.mem_of_getElem? (i := 44) rfl))) (by decide) (backOfS (W := 0) (rmOf l Z a0 hw [] sx1 ty  T1.heap n0 Z1 E1x E_ty) hZ (hw _ (List.mem_of_getElem? (i := 44) rfl)) (hw _ (List.mem_of_getElem? (i := 43) rfl)) (by decide) (by decide)) (g := (mkF m 26 #[.val (.int sel), .val (.int len), .val (.int ya), .val (.int yb), .val (.int yc), .val (.int (1 : Int32)), .val (.ref sx1), .val (.ref ty), .unset, .unset, .unset] [(.ref ty), (.ref sx1)])) rfl (by rw [hml]; rfl) (argsL := [(.ref sx1), (.ref ty)]) (rest := []) (lenOf pd_6 rfl) rfl (by show 2 * 0 + _ ≤ _; exact Nat.le_of_eq rfl) (hb hby at_26) (fun _ _ => ⟨rfl, e2, (by decide : 3 + 5 ≤ _), (by decide : 6 + 42 ≤ _)⟩)
  dsimp only [Pt.U, Pt.locs, Pt.cells, Pt.slots] at X3 l3 y3 z3 st3 hQ3 S23 gr3
  subst l3 y3 z3
  obtain ⟨X3, hS, hZ, hown⟩ := rebS hS (own_hk e2 HK1) X3 S23 gr3 hZ hown
  obtain ⟨N3q, K3, co3, rfl, le3, E3o, Fn3, Ft3⟩ := hQ3
  have N3 := Fr.app N2 N3q
  have ne_sx1_co3 : sx1 ≠ co3 := Nat.ne_of_lt (Nat.lt_of_lt_of_le E1x.lt le3)
  have ne_bt1_co3 : bt1 ≠ co3 := Nat.ne_of_lt (Nat.lt_of_lt_of_le V1x.lt le3)
  have ne_ty_co3 : ty ≠ co3 := Nat.ne_of_lt (Nat.lt_of_lt_of_le E_ty.lt le3)
  have g_co3 : n0 ≤ co3 := Nat.le_trans Z1 le3
  have sz_co3 : h0.size ≤ co3 := Nat.le_trans KP1.1 le3
  have E3_sx1 := E1x.keep K3
  have F3_sx1_coder := C1x.keep K3 nin0
  have F3_sx1_value := F1x.keep K3 nin0
  have V3_bt1 := V1x.keep K3 nin0
  have E3_ty := E_ty.keep K3
  have Z3 := Nat.le_trans Z1 K3.1
  have KP3 := KP1.trans K3 all0
  obtain ⟨cq5, kq5, q5a, q5b, q5c⟩ := isOf hZ rfl E3o
  obtain ⟨_, _, ⟨T5, L5, k5, n5⟩, -, X5, ⟨Lc5, hQ5, l5, y5, z5⟩, st5⟩ := X3.virtualBack hx (y := (⟨"com/example/lifetable/lifetable/output/Column", "name", "()Ljava/lang/String;"⟩ : MethodName)) (z := (⟨"com/example/lifetable/lifetable/output/Column", "name", "()Ljava/lang/String;"⟩ : MethodName)) hown (mvT hZ (hw _ (List.mem_of_getElem? (i := 66) rfl))) (mvT hZ (hw _ (List.mem_of_getElem? (i := 67) rfl))) (notFace_of_selects (args := #[]) (mvT hZ (hw _ (List.mem_of_getElem? (i := 69) rfl)))) (mvT hZ (hw _ (List.mem_of_getElem? (i := 69) rfl))) (mvT hZ (hw _ (List.mem_of_getElem? (i := 68) rfl))) (by decide) (backOf (W := 0) (rmName l Z a0 hw [] co3 sx1 T3.heap n0 Fn3) hZ (hw _ (List.mem_of_getElem? (i := 70) rfl)) (hw _ (List.mem_of_getElem? (i := 43) rfl)) (by decide) (by decide)) q5a q5c (g := (mkF m 33 #[.val (.int sel), .val (.int len), .val (.int ya), .val (.int yb), .val (.int yc), .val (.int (1 : Int32)), .val (.ref sx1), .val (.ref ty), .val (.ref co3), .unset, .unset] [(.ref co3)])) rfl (by rw [hml]; rfl) (Steps.refl _) (argsL := []) (rest := []) (lenOf pd_7 rfl) rfl (by show 2 * 0 + _ ≤ _; exact Nat.le_of_eq rfl) (hb hby at_33) (fun _ _ => ⟨rfl, rfl, (by decide : 8 + 0 ≤ _), (by decide : 48 + 0 ≤ _)⟩)
  dsimp only [Pt.U, Pt.locs, Pt.cells, Pt.slots] at X5 l5 y5 z5 st5 hQ5
  subst l5 y5 z5
  obtain ⟨rfl, N5q, e5⟩ := hQ5
  have N5 := Fr.app N3 N5q
  obtain ⟨cq6, kq6, q6a, q6b, q6c⟩ := isOf hZ e5 E3o
  obtain ⟨_, _, ⟨T6, L6, k6, n6⟩, -, X6, ⟨Lc6, hQ6, l6, y6, z6⟩, st6⟩ := X5.virtualBack hx (y := (⟨"com/example/lifetable/lifetable/output/Column", "type", "()Lcom/example/lifetable/lifetable/output/Column$Type;"⟩ : MethodName)) (z := (⟨"com/example/lifetable/lifetable/output/Column", "type", "()Lcom/example/lifetable/lifetable/output/Column$Type;"⟩ : MethodName)) hown (mvT hZ (hw _ (List.mem_of_getElem? (i := 71) rfl))) (mvT hZ (hw _ (List.mem_of_getElem? (i := 72) rfl))) (notFace_of_selects (args := #[]) (mvT hZ (hw _ (List.mem_of_getElem? (i := 74) rfl)))) (mvT hZ (hw _ (List.mem_of_getElem? (i := 74) rfl))) (mvT hZ (hw _ (List.mem_of_getElem? (i := 73) rfl))) (by decide) (backOf (W := 0) (rmType l Z a0 hw [] co3 ty T3.heap n0 Ft3) hZ (hw _ (List.mem_of_getElem? (i := 75) rfl)) (hw _ (List.mem_of_getElem? (i := 43) rfl)) (by decide) (by decide)) q6a q6c (g := (mkF m 40 #[.val (.int sel), .val (.int len), .val (.int ya), .val (.int yb), .val (.int yc), .val (.int (1 : Int32)), .val (.ref sx1), .val (.ref ty), .val (.ref co3), .val (.ref sx1), .unset] [(.ref co3)])) rfl (by rw [hml]; rfl) (Steps.refl _) (argsL := []) (rest := []) (lenOf pd_8 rfl) rfl (by show 2 * 0 + _ ≤ _; exact Nat.le_of_eq rfl) (hb hby at_40) (fun _ _ => ⟨rfl, e5, (by decide : 8 + 0 ≤ _), (by decide : 48 + 0 ≤ _)⟩)
  dsimp only [Pt.U, Pt.locs, Pt.cells, Pt.slots] at X6 l6 y6 z6 st6 hQ6
  subst l6 y6 z6
  obtain ⟨rfl, N6q, e6⟩ := hQ6
  have N6 := Fr.app N5 N6q
  obtain ⟨cq7, kq7, q7a, q7b, q7c⟩ := isOf hZ e6 E3_sx1
  obtain ⟨_, _, ⟨T7, L7, k7, n7⟩, -, X7, ⟨Lc7, hQ7, l7, y7, z7⟩, st7⟩ := X6.virtualBack hx (y := (⟨"java/lang/String", "length", "()I"⟩ : MethodName)) (z := (⟨"java/lang/String", "length", "()I"⟩ : MethodName)) hown (mvT hZ (hw _ (List.mem_of_getElem? (i := 76) rfl))) (mvT hZ (hw _ (List.mem_of_getElem? (i := 77) rfl))) (notFace_of_selects (args := #[]) (mvT hZ (hw _ (List.mem_of_getElem? (i := 79) rfl)))) (mvT hZ (hw _ (List.mem_of_getElem? (i := 79) rfl))) (mvT hZ (hw _ (List.mem_of_getElem? (i := 78) rfl))) (by decide) (StrChars.Road.lenW (W := 0) hZ hln (kI := 4) (hw _ (List.mem_of_getElem? (i := 5) rfl)) (cs := ([((ya &&& (255 : Int32)).toUInt32.toUInt16.toUInt32.toInt32)] : List Int32)) E3_sx1 F3_sx1_value F3_sx1_coder V3_bt1 hcd hbd (S_cs.ext (own_extK KP3)) hcz (Nat.le_of_ble_eq_true rfl) (by decide) (by decide)) q7a q7c (g := (mkF m 59 #[.val (.int sel), .val (.int len), .val (.int ya), .val (.int yb), .val (.int yc), .val (.int (1 : Int32)), .val (.ref sx1), .val (.ref ty), .val (.ref co3), .val (.ref sx1), .val (.ref ty)] [(.ref sx1)])) rfl (by rw [hml]; rfl) (Steps.refl _) (argsL := []) (rest := []) (lenOf pd_9 rfl) rfl (by show 2 * 0 + _ ≤ _; exact Nat.le_of_eq rfl) (hb hby at_59) (fun _ _ => ⟨rfl, e6, (by decide : 8 + 0 ≤ _), (by decide : 48 + 0 ≤ _)⟩)
  dsimp only [Pt.U, Pt.locs, Pt.cells, Pt.slots] at X7 l7 y7 z7 st7 hQ7
  subst l7 y7 z7
  obtain ⟨rfl, rfl, e7⟩ := hQ7
  have N7 := Fr.app N6 (Fr.nil n0)
  have hd8 : (1 : Int32) = (1 : Int32) := rfl
  have hd9 : ¬ ((1 : Int32) < (1 : Int32)) := by decide
  obtain ⟨cq10, kq10, q10a, q10b, q10c⟩ := isOf hZ e7 E3_sx1
  obtain ⟨_, _, ⟨T10, L10, k10, n10⟩, -, X10, ⟨Lc10, hQ10, l10, y10, z10⟩, st10⟩ := X7.virtualBack hx (y := (⟨"java/lang/String", "charAt", "(I)C"⟩ : MethodName)) (z := (⟨"java/lang/String", "charAt", "(I)C"⟩ : MethodName)) hown (mvT hZ (hw _ (List.mem_of_getElem? (i := 86) rfl))) (mvT hZ (hw _ (List.mem_of_getElem? (i := 87) rfl))) (notFace_of_selects (args := #[]) (mvT hZ (hw _ (List.mem_of_getElem? (i := 89) rfl)))) (mvT hZ (hw _ (List.mem_of_getElem? (i := 89) rfl))) (mvT hZ (hw _ (List.mem_of_getElem? (i := 88) rfl))) (by decide) (StrChars.Road.chN (W := 0) hZ hch (kI := 4) (hw _ (List.mem_of_getElem? (i := 5) rfl)) (cs := ([((ya &&& (255 : Int32)).toUInt32.toUInt16.toUInt32.toInt32)] : List Int32)) E3_sx1 F3_sx1_value F3_sx1_coder V3_bt1 hcd hbd (S_cs.ext (own_extK KP3)) hcz (S_sf.ext (own_extK KP3)) rsf (Nat.le_of_ble_eq_true rfl) (i := 0) (Nat.le_of_ble_eq_true rfl) (j := (0 : Int32)) rfl (by decide) (by decide)) q10a q10c (g := (mkF m 78 #[.val (.int sel), .val (.int len), .val (.int ya), .val (.int yb), .val (.int yc), .val (.int (1 : Int32)), .val (.ref sx1), .val (.ref ty), .val (.ref co3), .val (.ref sx1), .val (.ref ty)] [(.int (0 : Int32)), (.ref sx1)])) rfl (by rw [hml]; rfl) (Steps.refl _) (argsL := [(.int (0 : Int32))]) (rest := []) (lenOf pd_11 rfl) rfl (by show 2 * 0 + _ ≤ _; exact Nat.le_of_eq rfl) (hb hby at_78) (fun _ _ => ⟨rfl, e7, (by decide : 8 + 0 ≤ _), (by decide : 48 + 0 ≤ _)⟩)
  dsimp only [Pt.U, Pt.locs, Pt.cells, Pt.slots] at X10 l10 y10 z10 st10 hQ10
  subst l10 y10 z10
  obtain ⟨rfl, rfl, e10⟩ := hQ10
  have N10 := Fr.app N7 (Fr.nil n0)
  have hd11 : ((ya &&& (255 : Int32)).toUInt32.toUInt16.toUInt32.toInt32) = ((ya &&& (255 : Int32)).toUInt32.toUInt16.toUInt32.toInt32) := rfl
  have hd12 : (1 : Int32) < (2 : Int32) := by decide
  have hd13 : (1 : Int32) < (3 : Int32) := by decide
  obtain ⟨cq14, kq14, q14a, q14b, q14c⟩ := isOf hZ e10 E3_sx1
  obtain ⟨_, _, ⟨T14, L14, k14, n14⟩, -, X14, ⟨Lc14, hQ14, l14, y14, z14⟩, st14⟩ := X10.virtualBack hx (y := (⟨"java/lang/String", "equals", "(Ljava/lang/Object;)Z"⟩ : MethodName)) (z := (⟨"java/lang/String", "equals", "(Ljava/lang/Object;)Z"⟩ : MethodName)) hown (mvT hZ (hw _ (List.mem_of_getElem? (i := 108) rfl))) (mvT hZ (hw _ (List.mem_of_getElem? (i := 109) rfl))) (notFace_of_selects (args := #[]) (mvT hZ (hw _ (List.mem_of_getElem? (i := 111) rfl)))) (mvT hZ (hw _ (List.mem_of_getElem? (i := 111) rfl))) (mvT hZ (hw _ (List.mem_of_getElem? (i := 110) rfl))) (by decide) (backOf (W := 0) (rmEq l Z a0 hw [] sx1 sx1  T3.heap n0 rfl) hZ (hw _ (List.mem_of_getElem? (i := 112) rfl)) (hw _ (List.mem_of_getElem? (i := 6) rfl)) (by decide) (by decide)) q14a q14c (g := (mkF m 143 #[.val (.int sel), .val (.int len), .val (.int ya), .val (.int yb), .val (.int yc), .val (.int (1 : Int32)), .val (.ref sx1), .val (.ref ty), .val (.ref co3), .val (.ref sx1), .val (.ref ty)] [(.ref sx1), (.ref sx1)])) rfl (by rw [hml]; rfl) (Steps.refl _) (argsL := [(.ref sx1)]) (rest := []) (lenOf pd_10 rfl) rfl (by show 2 * 0 + _ ≤ _; exact Nat.le_of_eq rfl) (hb hby at_143) (fun _ _ => ⟨rfl, e10, (by decide : 8 + 0 ≤ _), (by decide : 48 + 0 ≤ _)⟩)
  dsimp only [Pt.U, Pt.locs, Pt.cells, Pt.slots] at X14 l14 y14 z14 st14 hQ14
  subst l14 y14 z14
  obtain ⟨rfl, N14q, e14⟩ := hQ14
  have N14 := Fr.app N10 N14q
  have hd15 : ¬ ((1 : Int32) = (0 : Int32)) := by decide
  have k16 : ∀ tg, Steps p.tables e below (T14.setTop (mkF m 161 #[.val (.int sel), .val (.int len), .val (.int ya), .val (.int yb), .val (.int yc), .val (.int (1 : Int32)), .val (.ref sx1), .val (.ref ty), .val (.ref co3), .val (.ref sx1), .val (.ref ty)] [(.int (1 : Int32))])) tg → Steps p.tables e below (s₁.setTop (entryFrame m #[(.int sel), (.int len), (.int ya), (.int yb), (.int yc)] maxLocals)) tg := by
    intro tg kt
    refine k4 tg ?_
    refine st3.trans ?_
    show Steps p.tables e below (T3.setTop (mkF m 29 #[.val (.int sel), .val (.int len), .val (.int ya), .val (.int yb), .val (.int yc), .val (.int (1 : Int32)), .val (.ref sx1), .val (.ref ty), .unset, .unset, .unset] [(.ref co3)])) _
    refine XS.astore X3.here hx rfl (hb hby at_29) rfl rfl (l' := #[.val (.int sel), .val (.int len), .val (.int ya), .val (.int yb), .val (.int yc), .val (.int (1 : Int32)), .val (.ref sx1), .val (.ref ty), .val (.ref co3), .unset, .unset]) rfl ?_
    show Steps p.tables e below (T3.setTop (mkF m 31 #[.val (.int sel), .val (.int len), .val (.int ya), .val (.int yb), .val (.int yc), .val (.int (1 : Int32)), .val (.ref sx1), .val (.ref ty), .val (.ref co3), .unset, .unset] [])) _
    refine XS.aload X3.here hx rfl (hb hby at_31) rfl rfl ?_
    show Steps p.tables e below (T3.setTop (mkF m 33 #[.val (.int sel), .val (.int len), .val (.int ya), .val (.int yb), .val (.int yc), .val (.int (1 : Int32)), .val (.ref sx1), .val (.ref ty), .val (.ref co3), .unset, .unset] [(.ref co3)])) _
    refine st5.trans ?_
    show Steps p.tables e below (T5.setTop (mkF m 36 #[.val (.int sel), .val (.int len), .val (.int ya), .val (.int yb), .val (.int yc), .val (.int (1 : Int32)), .val (.ref sx1), .val (.ref ty), .val (.ref co3), .unset, .unset] [(.ref sx1)])) _
    refine XS.astore X5.here hx rfl (hb hby at_36) rfl rfl (l' := #[.val (.int sel), .val (.int len), .val (.int ya), .val (.int yb), .val (.int yc), .val (.int (1 : Int32)), .val (.ref sx1), .val (.ref ty), .val (.ref co3), .val (.ref sx1), .unset]) rfl ?_
    show Steps p.tables e below (T5.setTop (mkF m 38 #[.val (.int sel), .val (.int len), .val (.int ya), .val (.int yb), .val (.int yc), .val (.int (1 : Int32)), .val (.ref sx1), .val (.ref ty), .val (.ref co3), .val (.ref sx1), .unset] [])) _
    refine XS.aload X5.here hx rfl (hb hby at_38) rfl rfl ?_
    show Steps p.tables e below (T5.setTop (mkF m 40 #[.val (.int sel), .val (.int len), .val (.int ya), .val (.int yb), .val (.int yc), .val (.int (1 : Int32)), .val (.ref sx1), .val (.ref ty), .val (.ref co3), .val (.ref sx1), .unset] [(.ref co3)])) _
    refine st6.trans ?_
    show Steps p.tables e below (T6.setTop (mkF m 43 #[.val (.int sel), .val (.int len), .val (.int ya), .val (.int yb), .val (.int yc), .val (.int (1 : Int32)), .val (.ref sx1), .val (.ref ty), .val (.ref co3), .val (.ref sx1), .unset] [(.ref ty)])) _
    refine XS.astore X6.here hx rfl (hb hby at_43) rfl rfl (l' := #[.val (.int sel), .val (.int len), .val (.int ya), .val (.int yb), .val (.int yc), .val (.int (1 : Int32)), .val (.ref sx1), .val (.ref ty), .val (.ref co3), .val (.ref sx1), .val (.ref ty)]) rfl ?_
    show Steps p.tables e below (T6.setTop (mkF m 45 #[.val (.int sel), .val (.int len), .val (.int ya), .val (.int yb), .val (.int yc), .val (.int (1 : Int32)), .val (.ref sx1), .val (.ref ty), .val (.ref co3), .val (.ref sx1), .val (.ref ty)] [])) _
    refine XS.aload X6.here hx rfl (hb hby at_45) rfl rfl ?_
    show Steps p.tables e below (T6.setTop (mkF m 47 #[.val (.int sel), .val (.int len), .val (.int ya), .val (.int yb), .val (.int yc), .val (.int (1 : Int32)), .val (.ref sx1), .val (.ref ty), .val (.ref co3), .val (.ref sx1), .val (.ref ty)] [(.ref sx1)])) _
    refine XS.ifnullNo X6.here hx rfl (hb hby at_47) rfl ?_
    show Steps p.tables e below (T6.setTop (mkF m 50 #[.val (.int sel), .val (.int len), .val (.int ya), .val (.int yb), .val (.int yc), .val (.int (1 : Int32)), .val (.ref sx1), .val (.ref ty), .val (.ref co3), .val (.ref sx1), .val (.ref ty)] [])) _
    refine XS.aload X6.here hx rfl (hb hby at_50) rfl rfl ?_
    show Steps p.tables e below (T6.setTop (mkF m 52 #[.val (.int sel), .val (.int len), .val (.int ya), .val (.int yb), .val (.int yc), .val (.int (1 : Int32)), .val (.ref sx1), .val (.ref ty), .val (.ref co3), .val (.ref sx1), .val (.ref ty)] [(.ref ty)])) _
    refine XS.ifnonnullYes X6.here hx rfl (pc0 := 52) (pc' := 57) rfl (hb hby at_52) rfl (by decide) (by decide) ?_
    show Steps p.tables e below (T6.setTop (mkF m 57 #[.val (.int sel), .val (.int len), .val (.int ya), .val (.int yb), .val (.int yc), .val (.int (1 : Int32)), .val (.ref sx1), .val (.ref ty), .val (.ref co3), .val (.ref sx1), .val (.ref ty)] [])) _
    refine XS.aload X6.here hx rfl (hb hby at_57) rfl rfl ?_
    show Steps p.tables e below (T6.setTop (mkF m 59 #[.val (.int sel), .val (.int len), .val (.int ya), .val (.int yb), .val (.int yc), .val (.int (1 : Int32)), .val (.ref sx1), .val (.ref ty), .val (.ref co3), .val (.ref sx1), .val (.ref ty)] [(.ref sx1)])) _
    refine st7.trans ?_
    show Steps p.tables e below (T7.setTop (mkF m 62 #[.val (.int sel), .val (.int len), .val (.int ya), .val (.int yb), .val (.int yc), .val (.int (1 : Int32)), .val (.ref sx1), .val (.ref ty), .val (.ref co3), .val (.ref sx1), .val (.ref ty)] [(.int (1 : Int32))])) _
    refine XS.iload X7.here hx rfl (hb hby at_62) rfl ?_
    show Steps p.tables e below (T7.setTop (mkF m 64 #[.val (.int sel), .val (.int len), .val (.int ya), .val (.int yb), .val (.int yc), .val (.int (1 : Int32)), .val (.ref sx1), .val (.ref ty), .val (.ref co3), .val (.ref sx1), .val (.ref ty)] [(.int (1 : Int32)), (.int (1 : Int32))])) _
    refine XS.icmpYes X7.here hx rfl (pc0 := 64) (pc' := 69) rfl (hb hby at_64) rfl (teq hd8).1 (by decide) (by decide) ?_
    show Steps p.tables e below (T7.setTop (mkF m 69 #[.val (.int sel), .val (.int len), .val (.int ya), .val (.int yb), .val (.int yc), .val (.int (1 : Int32)), .val (.ref sx1), .val (.ref ty), .val (.ref co3), .val (.ref sx1), .val (.ref ty)] [])) _
    refine XS.iload X7.here hx rfl (hb hby at_69) rfl ?_
    show Steps p.tables e below (T7.setTop (mkF m 71 #[.val (.int sel), .val (.int len), .val (.int ya), .val (.int yb), .val (.int yc), .val (.int (1 : Int32)), .val (.ref sx1), .val (.ref ty), .val (.ref co3), .val (.ref sx1), .val (.ref ty)] [(.int (1 : Int32))])) _
    refine XS.iconst X7.here hx rfl (hb hby at_71) ?_
    show Steps p.tables e below (T7.setTop (mkF m 72 #[.val (.int sel), .val (.int len), .val (.int ya), .val (.int yb), .val (.int yc), .val (.int (1 : Int32)), .val (.ref sx1), .val (.ref ty), .val (.ref co3), .val (.ref sx1), .val (.ref ty)] [(.int (1 : Int32)), (.int (1 : Int32))])) _
    refine XS.icmpNo X7.here hx rfl (hb hby at_72) rfl (flt hd9).1 ?_
    show Steps p.tables e below (T7.setTop (mkF m 75 #[.val (.int sel), .val (.int len), .val (.int ya), .val (.int yb), .val (.int yc), .val (.int (1 : Int32)), .val (.ref sx1), .val (.ref ty), .val (.ref co3), .val (.ref sx1), .val (.ref ty)] [])) _
    refine XS.aload X7.here hx rfl (hb hby at_75) rfl rfl ?_
    show Steps p.tables e below (T7.setTop (mkF m 77 #[.val (.int sel), .val (.int len), .val (.int ya), .val (.int yb), .val (.int yc), .val (.int (1 : Int32)), .val (.ref sx1), .val (.ref ty), .val (.ref co3), .val (.ref sx1), .val (.ref ty)] [(.ref sx1)])) _
    refine XS.iconst X7.here hx rfl (hb hby at_77) ?_
    show Steps p.tables e below (T7.setTop (mkF m 78 #[.val (.int sel), .val (.int len), .val (.int ya), .val (.int yb), .val (.int yc), .val (.int (1 : Int32)), .val (.ref sx1), .val (.ref ty), .val (.ref co3), .val (.ref sx1), .val (.ref ty)] [(.int (0 : Int32)), (.ref sx1)])) _
    refine st10.trans ?_
    show Steps p.tables e below (T10.setTop (mkF m 81 #[.val (.int sel), .val (.int len), .val (.int ya), .val (.int yb), .val (.int yc), .val (.int (1 : Int32)), .val (.ref sx1), .val (.ref ty), .val (.ref co3), .val (.ref sx1), .val (.ref ty)] [(.int ((ya &&& (255 : Int32)).toUInt32.toUInt16.toUInt32.toInt32))])) _
    refine XS.iloadN X10.here hx rfl (hb hby at_81) rfl ?_
    show Steps p.tables e below (T10.setTop (mkF m 82 #[.val (.int sel), .val (.int len), .val (.int ya), .val (.int yb), .val (.int yc), .val (.int (1 : Int32)), .val (.ref sx1), .val (.ref ty), .val (.ref co3), .val (.ref sx1), .val (.ref ty)] [(.int ya), (.int ((ya &&& (255 : Int32)).toUInt32.toUInt16.toUInt32.toInt32))])) _
    refine XS.sipush X10.here hx rfl (hb hby at_82) ?_
    show Steps p.tables e below (T10.setTop (mkF m 85 #[.val (.int sel), .val (.int len), .val (.int ya), .val (.int yb), .val (.int yc), .val (.int (1 : Int32)), .val (.ref sx1), .val (.ref ty), .val (.ref co3), .val (.ref sx1), .val (.ref ty)] [(.int (255 : Int32)), (.int ya), (.int ((ya &&& (255 : Int32)).toUInt32.toUInt16.toUInt32.toInt32))])) _
    refine XS.iand X10.here hx rfl (hb hby at_85) rfl ?_
    show Steps p.tables e below (T10.setTop (mkF m 86 #[.val (.int sel), .val (.int len), .val (.int ya), .val (.int yb), .val (.int yc), .val (.int (1 : Int32)), .val (.ref sx1), .val (.ref ty), .val (.ref co3), .val (.ref sx1), .val (.ref ty)] [(.int (ya &&& (255 : Int32))), (.int ((ya &&& (255 : Int32)).toUInt32.toUInt16.toUInt32.toInt32))])) _
    refine XS.i2c X10.here hx rfl (hb hby at_86) rfl ?_
    show Steps p.tables e below (T10.setTop (mkF m 87 #[.val (.int sel), .val (.int len), .val (.int ya), .val (.int yb), .val (.int yc), .val (.int (1 : Int32)), .val (.ref sx1), .val (.ref ty), .val (.ref co3), .val (.ref sx1), .val (.ref ty)] [(.int ((ya &&& (255 : Int32)).toUInt32.toUInt16.toUInt32.toInt32)), (.int ((ya &&& (255 : Int32)).toUInt32.toUInt16.toUInt32.toInt32))])) _
    refine XS.icmpYes X10.here hx rfl (pc0 := 87) (pc' := 92) rfl (hb hby at_87) rfl (teq hd11).1 (by decide) (by decide) ?_
    show Steps p.tables e below (T10.setTop (mkF m 92 #[.val (.int sel), .val (.int len), .val (.int ya), .val (.int yb), .val (.int yc), .val (.int (1 : Int32)), .val (.ref sx1), .val (.ref ty), .val (.ref co3), .val (.ref sx1), .val (.ref ty)] [])) _
    refine XS.iload X10.here hx rfl (hb hby at_92) rfl ?_
    show Steps p.tables e below (T10.setTop (mkF m 94 #[.val (.int sel), .val (.int len), .val (.int ya), .val (.int yb), .val (.int yc), .val (.int (1 : Int32)), .val (.ref sx1), .val (.ref ty), .val (.ref co3), .val (.ref sx1), .val (.ref ty)] [(.int (1 : Int32))])) _
    refine XS.iconst X10.here hx rfl (hb hby at_94) ?_
    show Steps p.tables e below (T10.setTop (mkF m 95 #[.val (.int sel), .val (.int len), .val (.int ya), .val (.int yb), .val (.int yc), .val (.int (1 : Int32)), .val (.ref sx1), .val (.ref ty), .val (.ref co3), .val (.ref sx1), .val (.ref ty)] [(.int (2 : Int32)), (.int (1 : Int32))])) _
    refine XS.icmpYes X10.here hx rfl (pc0 := 95) (pc' := 115) rfl (hb hby at_95) rfl (tlt hd12).1 (by decide) (by decide) ?_
    show Steps p.tables e below (T10.setTop (mkF m 115 #[.val (.int sel), .val (.int len), .val (.int ya), .val (.int yb), .val (.int yc), .val (.int (1 : Int32)), .val (.ref sx1), .val (.ref ty), .val (.ref co3), .val (.ref sx1), .val (.ref ty)] [])) _
    refine XS.iload X10.here hx rfl (hb hby at_115) rfl ?_
    show Steps p.tables e below (T10.setTop (mkF m 117 #[.val (.int sel), .val (.int len), .val (.int ya), .val (.int yb), .val (.int yc), .val (.int (1 : Int32)), .val (.ref sx1), .val (.ref ty), .val (.ref co3), .val (.ref sx1), .val (.ref ty)] [(.int (1 : Int32))])) _
    refine XS.iconst X10.here hx rfl (hb hby at_117) ?_
    show Steps p.tables e below (T10.setTop (mkF m 118 #[.val (.int sel), .val (.int len), .val (.int ya), .val (.int yb), .val (.int yc), .val (.int (1 : Int32)), .val (.ref sx1), .val (.ref ty), .val (.ref co3), .val (.ref sx1), .val (.ref ty)] [(.int (3 : Int32)), (.int (1 : Int32))])) _
    refine XS.icmpYes X10.here hx rfl (pc0 := 118) (pc' := 139) rfl (hb hby at_118) rfl (tlt hd13).1 (by decide) (by decide) ?_
    show Steps p.tables e below (T10.setTop (mkF m 139 #[.val (.int sel), .val (.int len), .val (.int ya), .val (.int yb), .val (.int yc), .val (.int (1 : Int32)), .val (.ref sx1), .val (.ref ty), .val (.ref co3), .val (.ref sx1), .val (.ref ty)] [])) _
    refine XS.aload X10.here hx rfl (hb hby at_139) rfl rfl ?_
    show Steps p.tables e below (T10.setTop (mkF m 141 #[.val (.int sel), .val (.int len), .val (.int ya), .val (.int yb), .val (.int yc), .val (.int (1 : Int32)), .val (.ref sx1), .val (.ref ty), .val (.ref co3), .val (.ref sx1), .val (.ref ty)] [(.ref sx1)])) _
    refine XS.aload X10.here hx rfl (hb hby at_141) rfl rfl ?_
    show Steps p.tables e below (T10.setTop (mkF m 143 #[.val (.int sel), .val (.int len), .val (.int ya), .val (.int yb), .val (.int yc), .val (.int (1 : Int32)), .val (.ref sx1), .val (.ref ty), .val (.ref co3), .val (.ref sx1), .val (.ref ty)] [(.ref sx1), (.ref sx1)])) _
    refine st14.trans ?_
    show Steps p.tables e below (T14.setTop (mkF m 146 #[.val (.int sel), .val (.int len), .val (.int ya), .val (.int yb), .val (.int yc), .val (.int (1 : Int32)), .val (.ref sx1), .val (.ref ty), .val (.ref co3), .val (.ref sx1), .val (.ref ty)] [(.int (1 : Int32))])) _
    refine XS.ifNo X14.here hx rfl (hb hby at_146) rfl ((if0 _ _).trans (feq hd15).1) ?_
    show Steps p.tables e below (T14.setTop (mkF m 149 #[.val (.int sel), .val (.int len), .val (.int ya), .val (.int yb), .val (.int yc), .val (.int (1 : Int32)), .val (.ref sx1), .val (.ref ty), .val (.ref co3), .val (.ref sx1), .val (.ref ty)] [])) _
    refine XS.aload X14.here hx rfl (hb hby at_149) rfl rfl ?_
    show Steps p.tables e below (T14.setTop (mkF m 151 #[.val (.int sel), .val (.int len), .val (.int ya), .val (.int yb), .val (.int yc), .val (.int (1 : Int32)), .val (.ref sx1), .val (.ref ty), .val (.ref co3), .val (.ref sx1), .val (.ref ty)] [(.ref ty)])) _
    refine XS.aload X14.here hx rfl (hb hby at_151) rfl rfl ?_
    show Steps p.tables e below (T14.setTop (mkF m 153 #[.val (.int sel), .val (.int len), .val (.int ya), .val (.int yb), .val (.int yc), .val (.int (1 : Int32)), .val (.ref sx1), .val (.ref ty), .val (.ref co3), .val (.ref sx1), .val (.ref ty)] [(.ref ty), (.ref ty)])) _
    refine Jvm.RoadKit.acmp (g := (mkF m 153 #[.val (.int sel), .val (.int len), .val (.int ya), .val (.int yb), .val (.int yc), .val (.int (1 : Int32)), .val (.ref sx1), .val (.ref ty), .val (.ref co3), .val (.ref sx1), .val (.ref ty)] [(.ref ty), (.ref ty)])) X14 hx rfl rfl rfl (pc0 := 153) (pc' := 156) (same := true) rfl (hb hby at_153) rfl (decide_eq_true rfl) (by decide) (by decide) ?_
    show Steps p.tables e below (T14.setTop (mkF m 156 #[.val (.int sel), .val (.int len), .val (.int ya), .val (.int yb), .val (.int yc), .val (.int (1 : Int32)), .val (.ref sx1), .val (.ref ty), .val (.ref co3), .val (.ref sx1), .val (.ref ty)] [])) _
    refine XS.iconst X14.here hx rfl (hb hby at_156) ?_
    show Steps p.tables e below (T14.setTop (mkF m 157 #[.val (.int sel), .val (.int len), .val (.int ya), .val (.int yb), .val (.int yc), .val (.int (1 : Int32)), .val (.ref sx1), .val (.ref ty), .val (.ref co3), .val (.ref sx1), .val (.ref ty)] [(.int (1 : Int32))])) _
    refine XS.goto X14.here hx rfl (pc0 := 157) (pc' := 161) rfl (hb hby at_157) (by decide) (by decide) ?_
    show Steps p.tables e below (T14.setTop (mkF m 161 #[.val (.int sel), .val (.int len), .val (.int ya), .val (.int yb), .val (.int yc), .val (.int (1 : Int32)), .val (.ref sx1), .val (.ref ty), .val (.ref co3), .val (.ref sx1), .val (.ref ty)] [(.int (1 : Int32))])) _
    exact kt
  obtain ⟨fs, hr, hrun, hended, hRW⟩ := X14.leaveW hS (own_hk e14 (Nat.le_refl _)) (v := some (.int (1 : Int32))) (fun h => by rw [Bd.returns] at h; cases h)
  refine ⟨_, _, k16 _ ?_, hrun, hended, _, _, rfl, ?_, hRW.1, hRW.2.1, hRW.2.2.1, hRW.2.2.2.mono (by decide) (by decide)⟩
  · exact retN X14 hx (t := .boolean) Bd.returns (by simp) (hb hby at_161) hr
  · show QL n0 _ T14.heap _
    exact ⟨rfl, N14⟩
theorem ef_rm0_2 (m : MethodId) (sel : Int32) (len : Int32) (ya : Int32) (yb : Int32) (yc : Int32) : entryFrame m #[(.int sel), (.int len), (.int ya), (.int yb), (.int yc)] maxLocals = mkF m 0 #[.val (.int sel), .val (.int len), .val (.int ya), .val (.int yb), .val (.int yc), .unset, .unset, .unset, .unset, .unset, .unset] [] := by first | (simp [entryFrame, mkF, argsToLocals, Value.category, maxLocals]; done) | rfl
set_option maxRecDepth 65536 in
set_option maxHeartbeats 40000000 in
theorem rm0_2 (l : Launch) (Z : State) (a0 : Array Value) (hw : ∀ d ∈ tables_1, d.before a0 Z = true) (ws : List Jvm.Cond) (sel : Int32) (len : Int32) (ya : Int32) (yb : Int32) (yc : Int32) (cz : Int32) (fm : Value) (v_TEXT v_INTEGER v_REAL : Addr) (h0 : Heap) (n0 : Nat) (Z0 : n0 ≤ h0.size) (hn3 : len &&& (3 : Int32) = (2 : Int32)) (S_cs : Sta Z h0 "java/lang/String" "COMPACT_STRINGS" "Z" (.int cz)) (hcz : ¬ cz = 0) (S_sf : Sta Z h0 "jdk/internal/util/Preconditions" "SIOOBE_FORMATTER" "Ljava/util/function/BiFunction;" fm) (rsf : fm.isRef = true) (S_TEXT : Sta Z h0 "com/example/lifetable/lifetable/output/Column$Type" "TEXT" "Lcom/example/lifetable/lifetable/output/Column$Type;" (.ref v_TEXT)) (S_INTEGER : Sta Z h0 "com/example/lifetable/lifetable/output/Column$Type" "INTEGER" "Lcom/example/lifetable/lifetable/output/Column$Type;" (.ref v_INTEGER)) (S_REAL : Sta Z h0 "com/example/lifetable/lifetable/output/Column$Type" "REAL" "Lcom/example/lifetable/lifetable/output/Column$Type;" (.ref v_REAL)) (E_TEXT : Exa Z h0 v_TEXT "com/example/lifetable/lifetable/output/Column$Type") (E_INTEGER : Exa Z h0 v_INTEGER "com/example/lifetable/lifetable/output/Column$Type") (E_REAL : Exa Z h0 v_REAL "com/example/lifetable/lifetable/output/Column$Type") :
    MetFree l x (head1 (Jvm.Cond.code x code maxLocals ret :: ws) room_1) (fun a_ U_ => a_ = #[(.int sel), (.int len), (.int ya), (.int yb), (.int yc)] ∧ Z.Warmed39 U_.vm ∧ U_.heap = h0) (fun _ _ _ _ _ => True) (fun _ U_ o_ U'_ => ∃ v_ L_, o_ = .returned v_ ∧ QL n0 v_ U'_.heap L_ ∧ ReturnedEndW U_ o_ U'_ L_ room_1.cells room_1.slots) := by
  refine MetFree.of_bodySF (plainFor_of_name pn_0) hisR ?_
  intro p e s m args below meth c s₁ Bd hml0 hP hK
  obtain ⟨rfl, hZ, hh⟩ := hP
  have hx := Bd.exec
  have hby := Bd.bytes
  have hml : c.maxLocals = 11 := hml0
  have hown : s.vm.findClass "com/example/lifetable/lifetable/output/ColumnOfPinLaw" = some m.cls := findClass_of_methodNamed Bd.named
  have hnm := (name_of_methodNamed Bd.named Bd.method).1
  have X0 : Stand p l e room_1 (s.setVm s.vm) m #[(.int sel), (.int len), (.int ya), (.int yb), (.int yc)] below meth c s₁ [] 0 0 := Stand.of_body Bd
  have hZ : Z.Warmed39 (s.setVm s.vm).vm := hZ
  have hown : (s.setVm s.vm).vm.findClass "com/example/lifetable/lifetable/output/ColumnOfPinLaw" = some m.cls := hown
  have hS : s.Since s.vm s.heap.size := (State.WarmedH.refl s).since _
  have HK0 : s.heap.size ≤ h0.size := Nat.le_of_eq (congrArg Array.size hh)
  have e0 : s₁.heap = h0 := by rw [← hh, Bd.state]; rfl
  have N0 := Fr.nil n0
  have k0 : ∀ tg, Steps p.tables e below (s₁.setTop (mkF m 0 #[.val (.int sel), .val (.int len), .val (.int ya), .val (.int yb), .val (.int yc), .unset, .unset, .unset, .unset, .unset, .unset] [])) tg → Steps p.tables e below (s₁.setTop (entryFrame m #[(.int sel), (.int len), (.int ya), (.int yb), (.int yc)] maxLocals)) tg := fun tg kq_ => castTop (ef_rm0_2 m sel len ya yb yc) kq_
  have hln : ∀ d ∈ StrChars.Road.wordsLen, d.before a0 Z = true := fun d hd => hw d ((by decide +kernel : ∀ d ∈ StrChars.Road.wordsLen, d ∈ tables_1) d hd)
  have hch : ∀ d ∈ StrChars.Road.wordsChN, d.before a0 Z = true := fun d hd => hw d ((by decide +kernel : ∀ d ∈ StrChars.Road.wordsChN, d ∈ tables_1) d hd)
  have hp : ∀ c ∈ ([((ya &&& (255 : Int32)).toUInt32.toUInt16.toUInt32.toInt32), ((yb &&& (255 : Int32)).toUInt32.toUInt16.toUInt32.toInt32)] : List Int32), ¬ c < 0 ∧ ¬ (255 : Int32) < c := by
    intro c hc
    simp only [List.mem_cons, List.not_mem_nil, or_false] at hc
    rcases hc with rfl | rfl <;> exact own_255 _
  have hcd : StrChars.Road.CodA ([((ya &&& (255 : Int32)).toUInt32.toUInt16.toUInt32.toInt32), ((yb &&& (255 : Int32)).toUInt32.toUInt16.toUInt32.toInt32)] : List Int32) 0 (Int32.ofNat ([((ya &&& (255 : Int32)).toUInt32.toUInt16.toUInt32.toInt32), ((yb &&& (255 : Int32)).toUInt32.toUInt16.toUInt32.toInt32)] : List Int32).length) ((([((ya &&& (255 : Int32)).toUInt32.toUInt16.toUInt32.toInt32), ((yb &&& (255 : Int32)).toUInt32.toUInt16.toUInt32.toInt32)] : List Int32).map fun c => c.toInt8.toInt32).map Value.int) := StrChars.Road.codOf (n := 2) rfl (fun c hc => (hp c hc).2)
  have hbd := own_up _ hp
  obtain ⟨_, _, ⟨T1, L1, k1, n1⟩, -, X1, ⟨Lc1, hQ1, l1, y1, z1⟩, st1⟩ := Jvm.LawKit.callS X0 hx (y := (⟨"com/example/lifetable/lifetable/output/ColumnOfPinLaw", "draw", "(IIII)Ljava/lang/String;"⟩ : MethodName)) hown (mvT hZ (hw _ (List.mem_of_getElem? (i := 0) rfl))) (mvT hZ (hw _ (List.mem_of_getElem? (i := 1) rfl))) (mvT hZ (hw _ (List.mem_of_getElem? (i := 2) rfl))) (mvT hZ (hw _ (List.mem_of_getElem? (i := 3) rfl))) (by decide) (backOf (W := 0) (rmDraw2 l Z a0 hw [] ya yb yc cz h0 n0 Z0 (S_cs.ext (own_extK (Keep.refl h0 []))) hcz) hZ (hw _ (List.mem_of_getElem? (i := 3) rfl)) (hw _ (List.mem_of_getElem? (i := 2) rfl)) (by decide) (by decide)) (g := (mkF m 11 #[.val (.int sel), .val (.int len), .val (.int ya), .val (.int yb), .val (.int yc), .val (.int (2 : Int32)), .unset, .unset, .unset, .unset, .unset] [(.int yc), (.int yb), (.int ya), (.int (2 : Int32))])) rfl (by rw [hml]; rfl) (argsL := [(.int (2 : Int32)), (.int ya), (.int yb), (.int yc)]) (rest := []) (lenOf pd_4 rfl) rfl (by show 2 * 0 + _ ≤ _; exact Nat.le_of_eq rfl) (hb hby at_11) (fun _ _ => ⟨rfl, e0, (by decide : 0 + 3 ≤ _), (by decide : 0 + 8 ≤ _)⟩)
  dsimp only [Pt.U, Pt.locs, Pt.cells, Pt.slots] at X1 l1 y1 z1 st1 hQ1
  subst l1 y1 z1
  obtain ⟨N1q, K1, sx1, bt1, kb1, rfl, le1, E1x, C1x, F1x, V1x⟩ := hQ1
  have N1 := Fr.app N0 N1q
  have g_sx1 : n0 ≤ sx1 := Nat.le_trans Z0 le1
  have sz_sx1 : h0.size ≤ sx1 := Nat.le_trans (Keep.refl h0 []).1 le1
  have HK1 := Nat.le_trans HK0 K1.1
  have Z1 := Nat.le_trans Z0 K1.1
  have KP1 := (Keep.refl h0 []).trans K1 all0
  obtain ⟨_, _, ⟨T2, L2, k2, n2⟩, -, X2, ⟨Lc2, hQ2, l2, y2, z2⟩, st2⟩ := Jvm.LawKit.callS X1 hx (y := (⟨"com/example/lifetable/lifetable/output/ColumnOfPinLaw", "pick", "(I)Lcom/example/lifetable/lifetable/output/Column$Type;"⟩ : MethodName)) hown (mvT hZ (hw _ (List.mem_of_getElem? (i := 34) rfl))) (mvT hZ (hw _ (List.mem_of_getElem? (i := 35) rfl))) (mvT hZ (hw _ (List.mem_of_getElem? (i := 2) rfl))) (mvT hZ (hw _ (List.mem_of_getElem? (i := 36) rfl))) (by decide) (backOf (W := 0) (rmPick l Z a0 hw [] sel v_TEXT v_INTEGER v_REAL T1.heap n0 (S_TEXT.ext (own_extK KP1)) (S_INTEGER.ext (own_extK KP1)) (S_REAL.ext (own_extK KP1))) hZ (hw _ (List.mem_of_getElem? (i := 36) rfl)) (hw _ (List.mem_of_getElem? (i := 2) rfl)) (by decide) (by decide)) (g := (mkF m 17 #[.val (.int sel), .val (.int len), .val (.int ya), .val (.int yb), .val (.int yc), .val (.int (2 : Int32)), .val (.ref sx1), .unset, .unset, .unset, .unset] [(.int sel)])) rfl (by rw [hml]; rfl) (argsL := [(.int sel)]) (rest := []) (lenOf pd_5 rfl) rfl (by show 2 * 0 + _ ≤ _; exact Nat.le_of_eq rfl) (hb hby at_17) (fun _ _ => ⟨rfl, rfl, (by decide : 3 + 0 ≤ _), (by decide : 8 + 0 ≤ _)⟩)
  dsimp only [Pt.U, Pt.locs, Pt.cells, Pt.slots] at X2 l2 y2 z2 st2 hQ2
  subst l2 y2 z2
  obtain ⟨rfl, N2q, e2⟩ := hQ2
  have N2 := Fr.app N1 N2q
  obtain ⟨ty, ety⟩ : ∃ z : Addr, z = (if ((sel &&& (2147483647 : Int32)) % (3 : Int32)) = (0 : Int32) then v_TEXT else (if ((sel &&& (2147483647 : Int32)) % (3 : Int32)) = (1 : Int32) then v_INTEGER else v_REAL)) := ⟨_, rfl⟩
  have E_ty0 : Exa Z h0 ty "com/example/lifetable/lifetable/output/Column$Type" := by
    rw [ety]
    (repeat' split) <;> assumption
  have E_ty := E_ty0.ext (own_extK KP1)
  have k4 : ∀ tg, Steps p.tables e below (T2.setTop (mkF m 26 #[.val (.int sel), .val (.int len), .val (.int ya), .val (.int yb), .val (.int yc), .val (.int (2 : Int32)), .val (.ref sx1), .val (.ref ty), .unset, .unset, .unset] [(.ref ty), (.ref sx1)])) tg → Steps p.tables e below (s₁.setTop (entryFrame m #[(.int sel), (.int len), (.int ya), (.int yb), (.int yc)] maxLocals)) tg := by
    intro tg kt
    refine k0 tg ?_
    show Steps p.tables e below (s₁.setTop (mkF m 0 #[.val (.int sel), .val (.int len), .val (.int ya), .val (.int yb), .val (.int yc), .unset, .unset, .unset, .unset, .unset, .unset] [])) _
    refine XS.iloadN X0.here hx rfl (hb hby at_0) rfl ?_
    show Steps p.tables e below (s₁.setTop (mkF m 1 #[.val (.int sel), .val (.int len), .val (.int ya), .val (.int yb), .val (.int yc), .unset, .unset, .unset, .unset, .unset, .unset] [(.int len)])) _
    refine XS.iconst X0.here hx rfl (hb hby at_1) ?_
    show Steps p.tables e below (s₁.setTop (mkF m 2 #[.val (.int sel), .val (.int len), .val (.int ya), .val (.int yb), .val (.int yc), .unset, .unset, .unset, .unset, .unset, .unset] [(.int (3 : Int32)), (.int len)])) _
    refine XS.iand X0.here hx rfl (hb hby at_2) rfl ?_
    show Steps p.tables e below (s₁.setTop (mkF m 3 #[.val (.int sel), .val (.int len), .val (.int ya), .val (.int yb), .val (.int yc), .unset, .unset, .unset, .unset, .unset, .unset] [(.int (len &&& (3 : Int32)))])) _
    refine XS.istore X0.here hx rfl (hb hby at_3) rfl (l' := #[.val (.int sel), .val (.int len), .val (.int ya), .val (.int yb), .val (.int yc), .val (.int (len &&& (3 : Int32))), .unset, .unset, .unset, .unset, .unset]) rfl ?_
    show Steps p.tables e below (s₁.setTop (mkF m 5 #[.val (.int sel), .val (.int len), .val (.int ya), .val (.int yb), .val (.int yc), .val (.int (len &&& (3 : Int32))), .unset, .unset, .unset, .unset, .unset] [])) _
    rw [hn3]
    show Steps p.tables e below (s₁.setTop (mkF m 5 #[.val (.int sel), .val (.int len), .val (.int ya), .val (.int yb), .val (.int yc), .val (.int (2 : Int32)), .unset, .unset, .unset, .unset, .unset] [])) _
    refine XS.iload X0.here hx rfl (hb hby at_5) rfl ?_
    show Steps p.tables e below (s₁.setTop (mkF m 7 #[.val (.int sel), .val (.int len), .val (.int ya), .val (.int yb), .val (.int yc), .val (.int (2 : Int32)), .unset, .unset, .unset, .unset, .unset] [(.int (2 : Int32))])) _
    refine XS.iloadN X0.here hx rfl (hb hby at_7) rfl ?_
    show Steps p.tables e below (s₁.setTop (mkF m 8 #[.val (.int sel), .val (.int len), .val (.int ya), .val (.int yb), .val (.int yc), .val (.int (2 : Int32)), .unset, .unset, .unset, .unset, .unset] [(.int ya), (.int (2 : Int32))])) _
    refine XS.iloadN X0.here hx rfl (hb hby at_8) rfl ?_
    show Steps p.tables e below (s₁.setTop (mkF m 9 #[.val (.int sel), .val (.int len), .val (.int ya), .val (.int yb), .val (.int yc), .val (.int (2 : Int32)), .unset, .unset, .unset, .unset, .unset] [(.int yb), (.int ya), (.int (2 : Int32))])) _
    refine XS.iload X0.here hx rfl (hb hby at_9) rfl ?_
    show Steps p.tables e below (s₁.setTop (mkF m 11 #[.val (.int sel), .val (.int len), .val (.int ya), .val (.int yb), .val (.int yc), .val (.int (2 : Int32)), .unset, .unset, .unset, .unset, .unset] [(.int yc), (.int yb), (.int ya), (.int (2 : Int32))])) _
    refine st1 _ ?_
    show Steps p.tables e below (T1.setTop (mkF m 14 #[.val (.int sel), .val (.int len), .val (.int ya), .val (.int yb), .val (.int yc), .val (.int (2 : Int32)), .unset, .unset, .unset, .unset, .unset] [(.ref sx1)])) _
    refine XS.astore X1.here hx rfl (hb hby at_14) rfl rfl (l' := #[.val (.int sel), .val (.int len), .val (.int ya), .val (.int yb), .val (.int yc), .val (.int (2 : Int32)), .val (.ref sx1), .unset, .unset, .unset, .unset]) rfl ?_
    show Steps p.tables e below (T1.setTop (mkF m 16 #[.val (.int sel), .val (.int len), .val (.int ya), .val (.int yb), .val (.int yc), .val (.int (2 : Int32)), .val (.ref sx1), .unset, .unset, .unset, .unset] [])) _
    refine XS.iloadN X1.here hx rfl (hb hby at_16) rfl ?_
    show Steps p.tables e below (T1.setTop (mkF m 17 #[.val (.int sel), .val (.int len), .val (.int ya), .val (.int yb), .val (.int yc), .val (.int (2 : Int32)), .val (.ref sx1), .unset, .unset, .unset, .unset] [(.int sel)])) _
    refine st2 _ ?_
    show Steps p.tables e below (T2.setTop (mkF m 20 #[.val (.int sel), .val (.int len), .val (.int ya), .val (.int yb), .val (.int yc), .val (.int (2 : Int32)), .val (.ref sx1), .unset, .unset, .unset, .unset] [(.ref (if ((sel &&& (2147483647 : Int32)) % (3 : Int32)) = (0 : Int32) then v_TEXT else (if ((sel &&& (2147483647 : Int32)) % (3 : Int32)) = (1 : Int32) then v_INTEGER else v_REAL)))])) _
    rw [← ety]
    show Steps p.tables e below (T2.setTop (mkF m 20 #[.val (.int sel), .val (.int len), .val (.int ya), .val (.int yb), .val (.int yc), .val (.int (2 : Int32)), .val (.ref sx1), .unset, .unset, .unset, .unset] [(.ref ty)])) _
    refine XS.astore X2.here hx rfl (hb hby at_20) rfl rfl (l' := #[.val (.int sel), .val (.int len), .val (.int ya), .val (.int yb), .val (.int yc), .val (.int (2 : Int32)), .val (.ref sx1), .val (.ref ty), .unset, .unset, .unset]) rfl ?_
    show Steps p.tables e below (T2.setTop (mkF m 22 #[.val (.int sel), .val (.int len), .val (.int ya), .val (.int yb), .val (.int yc), .val (.int (2 : Int32)), .val (.ref sx1), .val (.ref ty), .unset, .unset, .unset] [])) _
    refine XS.aload X2.here hx rfl (hb hby at_22) rfl rfl ?_
    show Steps p.tables e below (T2.setTop (mkF m 24 #[.val (.int sel), .val (.int len), .val (.int ya), .val (.int yb), .val (.int yc), .val (.int (2 : Int32)), .val (.ref sx1), .val (.ref ty), .unset, .unset, .unset] [(.ref sx1)])) _
    refine XS.aload X2.here hx rfl (hb hby at_24) rfl rfl ?_
    show Steps p.tables e below (T2.setTop (mkF m 26 #[.val (.int sel), .val (.int len), .val (.int ya), .val (.int yb), .val (.int yc), .val (.int (2 : Int32)), .val (.ref sx1), .val (.ref ty), .unset, .unset, .unset] [(.ref ty), (.ref sx1)])) _
    exact kt
  obtain ⟨_, _, ⟨T3, L3, k3, n3⟩, -, X3, S23, gr3, ⟨Lc3, hQ3, l3, y3, z3⟩, st3⟩ := callSS X2 hx (y := (⟨"com/example/lifetable/lifetable/output/Column", "of", "(Ljava/lang/String;Lcom/example/lifetable/lifetable/output/Column$Type;)Lcom/example/lifetable/lifetable/output/Column;"⟩ : MethodName)) hown (mvT hZ (hw _ (List.mem_of_getElem? (i := 41) rfl))) (mvT hZ (hw _ (List.mem_of_getElem? (i := 42) rfl))) (mvT hZ (hw _ (List.mem_of_getElem? (i := 43) rfl))) (mvT hZ (hw _ (List.mem_of_getElem? (i := 44) rfl))) (by decide) (backOfS (W := 0) (rmOf l Z a0 hw [] sx1 ty  T1.heap n0 Z1 E1x E_ty) hZ (hw _ (List.mem_of_getElem? (i := 44) rfl)) (hw _ (List.mem_of_getElem? (i := 43) rfl)) (by decide) (by decide)) (g := (mkF m 26 #[.val (.int sel), .val (.int len), .val (.int ya), .val (.int yb), .val (.int yc), .val (.int (2 : Int32)), .val (.ref sx1), .val (.ref ty), .unset, .unset, .unset] [(.ref ty), (.ref sx1)])) rfl (by rw [hml]; rfl) (argsL := [(.ref sx1), (.ref ty)]) (rest := []) (lenOf pd_6 rfl) rfl (by show 2 * 0 + _ ≤ _; exact Nat.le_of_eq rfl) (hb hby at_26) (fun _ _ => ⟨rfl, e2, (by decide : 3 + 5 ≤ _), (by decide : 8 + 42 ≤ _)⟩)
  dsimp only [Pt.U, Pt.locs, Pt.cells, Pt.slots] at X3 l3 y3 z3 st3 hQ3 S23 gr3
  subst l3 y3 z3
  obtain ⟨X3, hS, hZ, hown⟩ := rebS hS (own_hk e2 HK1) X3 S23 gr3 hZ hown
  obtain ⟨N3q, K3, co3, rfl, le3, E3o, Fn3, Ft3⟩ := hQ3
  have N3 := Fr.app N2 N3q
  have ne_sx1_co3 : sx1 ≠ co3 := Nat.ne_of_lt (Nat.lt_of_lt_of_le E1x.lt le3)
  have ne_bt1_co3 : bt1 ≠ co3 := Nat.ne_of_lt (Nat.lt_of_lt_of_le V1x.lt le3)
  have ne_ty_co3 : ty ≠ co3 := Nat.ne_of_lt (Nat.lt_of_lt_of_le E_ty.lt le3)
  have g_co3 : n0 ≤ co3 := Nat.le_trans Z1 le3
  have sz_co3 : h0.size ≤ co3 := Nat.le_trans KP1.1 le3
  have E3_sx1 := E1x.keep K3
  have F3_sx1_coder := C1x.keep K3 nin0
  have F3_sx1_value := F1x.keep K3 nin0
  have V3_bt1 := V1x.keep K3 nin0
  have E3_ty := E_ty.keep K3
  have Z3 := Nat.le_trans Z1 K3.1
  have KP3 := KP1.trans K3 all0
  obtain ⟨cq5, kq5, q5a, q5b, q5c⟩ := isOf hZ rfl E3o
  obtain ⟨_, _, ⟨T5, L5, k5, n5⟩, -, X5, ⟨Lc5, hQ5, l5, y5, z5⟩, st5⟩ := X3.virtualBack hx (y := (⟨"com/example/lifetable/lifetable/output/Column", "name", "()Ljava/lang/String;"⟩ : MethodName)) (z := (⟨"com/example/lifetable/lifetable/output/Column", "name", "()Ljava/lang/String;"⟩ : MethodName)) hown (mvT hZ (hw _ (List.mem_of_getElem? (i := 66) rfl))) (mvT hZ (hw _ (List.mem_of_getElem? (i := 67) rfl))) (notFace_of_selects (args := #[]) (mvT hZ (hw _ (List.mem_of_getElem? (i := 69) rfl)))) (mvT hZ (hw _ (List.mem_of_getElem? (i := 69) rfl))) (mvT hZ (hw _ (List.mem_of_getElem? (i := 68) rfl))) (by decide) (backOf (W := 0) (rmName l Z a0 hw [] co3 sx1 T3.heap n0 Fn3) hZ (hw _ (List.mem_of_getElem? (i := 70) rfl)) (hw _ (List.mem_of_getElem? (i := 43) rfl)) (by decide) (by decide)) q5a q5c (g := (mkF m 33 #[.val (.int sel), .val (.int len), .val (.int ya), .val (.int yb), .val (.int yc), .val (.int (2 : Int32)), .val (.ref sx1), .val (.ref ty), .val (.ref co3), .unset, .unset] [(.ref co3)])) rfl (by rw [hml]; rfl) (Steps.refl _) (argsL := []) (rest := []) (lenOf pd_7 rfl) rfl (by show 2 * 0 + _ ≤ _; exact Nat.le_of_eq rfl) (hb hby at_33) (fun _ _ => ⟨rfl, rfl, (by decide : 8 + 0 ≤ _), (by decide : 50 + 0 ≤ _)⟩)
  dsimp only [Pt.U, Pt.locs, Pt.cells, Pt.slots] at X5 l5 y5 z5 st5 hQ5
  subst l5 y5 z5
  obtain ⟨rfl, N5q, e5⟩ := hQ5
  have N5 := Fr.app N3 N5q
  obtain ⟨cq6, kq6, q6a, q6b, q6c⟩ := isOf hZ e5 E3o
  obtain ⟨_, _, ⟨T6, L6, k6, n6⟩, -, X6, ⟨Lc6, hQ6, l6, y6, z6⟩, st6⟩ := X5.virtualBack hx (y := (⟨"com/example/lifetable/lifetable/output/Column", "type", "()Lcom/example/lifetable/lifetable/output/Column$Type;"⟩ : MethodName)) (z := (⟨"com/example/lifetable/lifetable/output/Column", "type", "()Lcom/example/lifetable/lifetable/output/Column$Type;"⟩ : MethodName)) hown (mvT hZ (hw _ (List.mem_of_getElem? (i := 71) rfl))) (mvT hZ (hw _ (List.mem_of_getElem? (i := 72) rfl))) (notFace_of_selects (args := #[]) (mvT hZ (hw _ (List.mem_of_getElem? (i := 74) rfl)))) (mvT hZ (hw _ (List.mem_of_getElem? (i := 74) rfl))) (mvT hZ (hw _ (List.mem_of_getElem? (i := 73) rfl))) (by decide) (backOf (W := 0) (rmType l Z a0 hw [] co3 ty T3.heap n0 Ft3) hZ (hw _ (List.mem_of_getElem? (i := 75) rfl)) (hw _ (List.mem_of_getElem? (i := 43) rfl)) (by decide) (by decide)) q6a q6c (g := (mkF m 40 #[.val (.int sel), .val (.int len), .val (.int ya), .val (.int yb), .val (.int yc), .val (.int (2 : Int32)), .val (.ref sx1), .val (.ref ty), .val (.ref co3), .val (.ref sx1), .unset] [(.ref co3)])) rfl (by rw [hml]; rfl) (Steps.refl _) (argsL := []) (rest := []) (lenOf pd_8 rfl) rfl (by show 2 * 0 + _ ≤ _; exact Nat.le_of_eq rfl) (hb hby at_40) (fun _ _ => ⟨rfl, e5, (by decide : 8 + 0 ≤ _), (by decide : 50 + 0 ≤ _)⟩)
  dsimp only [Pt.U, Pt.locs, Pt.cells, Pt.slots] at X6 l6 y6 z6 st6 hQ6
  subst l6 y6 z6
  obtain ⟨rfl, N6q, e6⟩ := hQ6
  have N6 := Fr.app N5 N6q
  obtain ⟨cq7, kq7, q7a, q7b, q7c⟩ := isOf hZ e6 E3_sx1
  obtain ⟨_, _, ⟨T7, L7, k7, n7⟩, -, X7, ⟨Lc7, hQ7, l7, y7, z7⟩, st7⟩ := X6.virtualBack hx (y := (⟨"java/lang/String", "length", "()I"⟩ : MethodName)) (z := (⟨"java/lang/String", "length", "()I"⟩ : MethodName)) hown (mvT hZ (hw _ (List.mem_of_getElem? (i := 76) rfl))) (mvT hZ (hw _ (List.mem_of_getElem? (i := 77) rfl))) (notFace_of_selects (args := #[]) (mvT hZ (hw _ (List.mem_of_getElem? (i := 79) rfl)))) (mvT hZ (hw _ (List.mem_of_getElem? (i := 79) rfl))) (mvT hZ (hw _ (List.mem_of_getElem? (i := 78) rfl))) (by decide) (StrChars.Road.lenW (W := 0) hZ hln (kI := 4) (hw _ (List.mem_of_getElem? (i := 5) rfl)) (cs := ([((ya &&& (255 : Int32)).toUInt32.toUInt16.toUInt32.toInt32), ((yb &&& (255 : Int32)).toUInt32.toUInt16.toUInt32.toInt32)] : List Int32)) E3_sx1 F3_sx1_value F3_sx1_coder V3_bt1 hcd hbd (S_cs.ext (own_extK KP3)) hcz (Nat.le_of_ble_eq_true rfl) (by decide) (by decide)) q7a q7c (g := (mkF m 59 #[.val (.int sel), .val (.int len), .val (.int ya), .val (.int yb), .val (.int yc), .val (.int (2 : Int32)), .val (.ref sx1), .val (.ref ty), .val (.ref co3), .val (.ref sx1), .val (.ref ty)] [(.ref sx1)])) rfl (by rw [hml]; rfl) (Steps.refl _) (argsL := []) (rest := []) (lenOf pd_9 rfl) rfl (by show 2 * 0 + _ ≤ _; exact Nat.le_of_eq rfl) (hb hby at_59) (fun _ _ => ⟨rfl, e6, (by decide : 8 + 0 ≤ _), (by decide : 50 + 0 ≤ _)⟩)
  dsimp only [Pt.U, Pt.locs, Pt.cells, Pt.slots] at X7 l7 y7 z7 st7 hQ7
  subst l7 y7 z7
  obtain ⟨rfl, rfl, e7⟩ := hQ7
  have N7 := Fr.app N6 (Fr.nil n0)
  have hd8 : (2 : Int32) = (2 : Int32) := rfl
  have hd9 : ¬ ((2 : Int32) < (1 : Int32)) := by decide
  obtain ⟨cq10, kq10, q10a, q10b, q10c⟩ := isOf hZ e7 E3_sx1
  obtain ⟨_, _, ⟨T10, L10, k10, n10⟩, -, X10, ⟨Lc10, hQ10, l10, y10, z10⟩, st10⟩ := X7.virtualBack hx (y := (⟨"java/lang/String", "charAt", "(I)C"⟩ : MethodName)) (z := (⟨"java/lang/String", "charAt", "(I)C"⟩ : MethodName)) hown (mvT hZ (hw _ (List.mem_of_getElem? (i := 86) rfl))) (mvT hZ (hw _ (List.mem_of_getElem? (i := 87) rfl))) (notFace_of_selects (args := #[]) (mvT hZ (hw _ (List.mem_of_getElem? (i := 89) rfl)))) (mvT hZ (hw _ (List.mem_of_getElem? (i := 89) rfl))) (mvT hZ (hw _ (List.mem_of_getElem? (i := 88) rfl))) (by decide) (StrChars.Road.chN (W := 0) hZ hch (kI := 4) (hw _ (List.mem_of_getElem? (i := 5) rfl)) (cs := ([((ya &&& (255 : Int32)).toUInt32.toUInt16.toUInt32.toInt32), ((yb &&& (255 : Int32)).toUInt32.toUInt16.toUInt32.toInt32)] : List Int32)) E3_sx1 F3_sx1_value F3_sx1_coder V3_bt1 hcd hbd (S_cs.ext (own_extK KP3)) hcz (S_sf.ext (own_extK KP3)) rsf (Nat.le_of_ble_eq_true rfl) (i := 0) (Nat.le_of_ble_eq_true rfl) (j := (0 : Int32)) rfl (by decide) (by decide)) q10a q10c (g := (mkF m 78 #[.val (.int sel), .val (.int len), .val (.int ya), .val (.int yb), .val (.int yc), .val (.int (2 : Int32)), .val (.ref sx1), .val (.ref ty), .val (.ref co3), .val (.ref sx1), .val (.ref ty)] [(.int (0 : Int32)), (.ref sx1)])) rfl (by rw [hml]; rfl) (Steps.refl _) (argsL := [(.int (0 : Int32))]) (rest := []) (lenOf pd_11 rfl) rfl (by show 2 * 0 + _ ≤ _; exact Nat.le_of_eq rfl) (hb hby at_78) (fun _ _ => ⟨rfl, e7, (by decide : 8 + 0 ≤ _), (by decide : 50 + 0 ≤ _)⟩)
  dsimp only [Pt.U, Pt.locs, Pt.cells, Pt.slots] at X10 l10 y10 z10 st10 hQ10
  subst l10 y10 z10
  obtain ⟨rfl, rfl, e10⟩ := hQ10
  have N10 := Fr.app N7 (Fr.nil n0)
  have hd11 : ((ya &&& (255 : Int32)).toUInt32.toUInt16.toUInt32.toInt32) = ((ya &&& (255 : Int32)).toUInt32.toUInt16.toUInt32.toInt32) := rfl
  have hd12 : ¬ ((2 : Int32) < (2 : Int32)) := by decide
  obtain ⟨cq13, kq13, q13a, q13b, q13c⟩ := isOf hZ e10 E3_sx1
  obtain ⟨_, _, ⟨T13, L13, k13, n13⟩, -, X13, ⟨Lc13, hQ13, l13, y13, z13⟩, st13⟩ := X10.virtualBack hx (y := (⟨"java/lang/String", "charAt", "(I)C"⟩ : MethodName)) (z := (⟨"java/lang/String", "charAt", "(I)C"⟩ : MethodName)) hown (mvT hZ (hw _ (List.mem_of_getElem? (i := 86) rfl))) (mvT hZ (hw _ (List.mem_of_getElem? (i := 87) rfl))) (notFace_of_selects (args := #[]) (mvT hZ (hw _ (List.mem_of_getElem? (i := 89) rfl)))) (mvT hZ (hw _ (List.mem_of_getElem? (i := 89) rfl))) (mvT hZ (hw _ (List.mem_of_getElem? (i := 88) rfl))) (by decide) (StrChars.Road.chN (W := 0) hZ hch (kI := 4) (hw _ (List.mem_of_getElem? (i := 5) rfl)) (cs := ([((ya &&& (255 : Int32)).toUInt32.toUInt16.toUInt32.toInt32), ((yb &&& (255 : Int32)).toUInt32.toUInt16.toUInt32.toInt32)] : List Int32)) E3_sx1 F3_sx1_value F3_sx1_coder V3_bt1 hcd hbd (S_cs.ext (own_extK KP3)) hcz (S_sf.ext (own_extK KP3)) rsf (Nat.le_of_ble_eq_true rfl) (i := 1) (Nat.le_of_ble_eq_true rfl) (j := (1 : Int32)) rfl (by decide) (by decide)) q13a q13c (g := (mkF m 101 #[.val (.int sel), .val (.int len), .val (.int ya), .val (.int yb), .val (.int yc), .val (.int (2 : Int32)), .val (.ref sx1), .val (.ref ty), .val (.ref co3), .val (.ref sx1), .val (.ref ty)] [(.int (1 : Int32)), (.ref sx1)])) rfl (by rw [hml]; rfl) (Steps.refl _) (argsL := [(.int (1 : Int32))]) (rest := []) (lenOf pd_11 rfl) rfl (by show 2 * 0 + _ ≤ _; exact Nat.le_of_eq rfl) (hb hby at_101) (fun _ _ => ⟨rfl, e10, (by decide : 8 + 0 ≤ _), (by decide : 50 + 0 ≤ _)⟩)
  dsimp only [Pt.U, Pt.locs, Pt.cells, Pt.slots] at X13 l13 y13 z13 st13 hQ13
  subst l13 y13 z13
  obtain ⟨rfl, rfl, e13⟩ := hQ13
  have N13 := Fr.app N10 (Fr.nil n0)
  have hd14 : ((yb &&& (255 : Int32)).toUInt32.toUInt16.toUInt32.toInt32) = ((yb &&& (255 : Int32)).toUInt32.toUInt16.toUInt32.toInt32) := rfl
  have hd15 : (2 : Int32) < (3 : Int32) := by decide
  obtain ⟨cq16, kq16, q16a, q16b, q16c⟩ := isOf hZ e13 E3_sx1
  obtain ⟨_, _, ⟨T16, L16, k16, n16⟩, -, X16, ⟨Lc16, hQ16, l16, y16, z16⟩, st16⟩ := X13.virtualBack hx (y := (⟨"java/lang/String", "equals", "(Ljava/lang/Object;)Z"⟩ : MethodName)) (z := (⟨"java/lang/String", "equals", "(Ljava/lang/Object;)Z"⟩ : MethodName)) hown (mvT hZ (hw _ (List.mem_of_getElem? (i := 108) rfl))) (mvT hZ (hw _ (List.mem_of_getElem? (i := 109) rfl))) (notFace_of_selects (args := #[]) (mvT hZ (hw _ (List.mem_of_getElem? (i := 111) rfl)))) (mvT hZ (hw _ (List.mem_of_getElem? (i := 111) rfl))) (mvT hZ (hw _ (List.mem_of_getElem? (i := 110) rfl))) (by decide) (backOf (W := 0) (rmEq l Z a0 hw [] sx1 sx1  T3.heap n0 rfl) hZ (hw _ (List.mem_of_getElem? (i := 112) rfl)) (hw _ (List.mem_of_getElem? (i := 6) rfl)) (by decide) (by decide)) q16a q16c (g := (mkF m 143 #[.val (.int sel), .val (.int len), .val (.int ya), .val (.int yb), .val (.int yc), .val (.int (2 : Int32)), .val (.ref sx1), .val (.ref ty), .val (.ref co3), .val (.ref sx1), .val (.ref ty)] [(.ref sx1), (.ref sx1)])) rfl (by rw [hml]; rfl) (Steps.refl _) (argsL := [(.ref sx1)]) (rest := []) (lenOf pd_10 rfl) rfl (by show 2 * 0 + _ ≤ _; exact Nat.le_of_eq rfl) (hb hby at_143) (fun _ _ => ⟨rfl, e13, (by decide : 8 + 0 ≤ _), (by decide : 50 + 0 ≤ _)⟩)
  dsimp only [Pt.U, Pt.locs, Pt.cells, Pt.slots] at X16 l16 y16 z16 st16 hQ16
  subst l16 y16 z16
  obtain ⟨rfl, N16q, e16⟩ := hQ16
  have N16 := Fr.app N13 N16q
  have hd17 : ¬ ((1 : Int32) = (0 : Int32)) := by decide
  have k18 : ∀ tg, Steps p.tables e below (T16.setTop (mkF m 161 #[.val (.int sel), .val (.int len), .val (.int ya), .val (.int yb), .val (.int yc), .val (.int (2 : Int32)), .val (.ref sx1), .val (.ref ty), .val (.ref co3), .val (.ref sx1), .val (.ref ty)] [(.int (1 : Int32))])) tg → Steps p.tables e below (s₁.setTop (entryFrame m #[(.int sel), (.int len), (.int ya), (.int yb), (.int yc)] maxLocals)) tg := by
    intro tg kt
    refine k4 tg ?_
    refine st3.trans ?_
    show Steps p.tables e below (T3.setTop (mkF m 29 #[.val (.int sel), .val (.int len), .val (.int ya), .val (.int yb), .val (.int yc), .val (.int (2 : Int32)), .val (.ref sx1), .val (.ref ty), .unset, .unset, .unset] [(.ref co3)])) _
    refine XS.astore X3.here hx rfl (hb hby at_29) rfl rfl (l' := #[.val (.int sel), .val (.int len), .val (.int ya), .val (.int yb), .val (.int yc), .val (.int (2 : Int32)), .val (.ref sx1), .val (.ref ty), .val (.ref co3), .unset, .unset]) rfl ?_
    show Steps p.tables e below (T3.setTop (mkF m 31 #[.val (.int sel), .val (.int len), .val (.int ya), .val (.int yb), .val (.int yc), .val (.int (2 : Int32)), .val (.ref sx1), .val (.ref ty), .val (.ref co3), .unset, .unset] [])) _
    refine XS.aload X3.here hx rfl (hb hby at_31) rfl rfl ?_
    show Steps p.tables e below (T3.setTop (mkF m 33 #[.val (.int sel), .val (.int len), .val (.int ya), .val (.int yb), .val (.int yc), .val (.int (2 : Int32)), .val (.ref sx1), .val (.ref ty), .val (.ref co3), .unset, .unset] [(.ref co3)])) _
    refine st5.trans ?_
    show Steps p.tables e below (T5.setTop (mkF m 36 #[.val (.int sel), .val (.int len), .val (.int ya), .val (.int yb), .val (.int yc), .val (.int (2 : Int32)), .val (.ref sx1), .val (.ref ty), .val (.ref co3), .unset, .unset] [(.ref sx1)])) _
    refine XS.astore X5.here hx rfl (hb hby at_36) rfl rfl (l' := #[.val (.int sel), .val (.int len), .val (.int ya), .val (.int yb), .val (.int yc), .val (.int (2 : Int32)), .val (.ref sx1), .val (.ref ty), .val (.ref co3), .val (.ref sx1), .unset]) rfl ?_
    show Steps p.tables e below (T5.setTop (mkF m 38 #[.val (.int sel), .val (.int len), .val (.int ya), .val (.int yb), .val (.int yc), .val (.int (2 : Int32)), .val (.ref sx1), .val (.ref ty), .val (.ref co3), .val (.ref sx1), .unset] [])) _
    refine XS.aload X5.here hx rfl (hb hby at_38) rfl rfl ?_
    show Steps p.tables e below (T5.setTop (mkF m 40 #[.val (.int sel), .val (.int len), .val (.int ya), .val (.int yb), .val (.int yc), .val (.int (2 : Int32)), .val (.ref sx1), .val (.ref ty), .val (.ref co3), .val (.ref sx1), .unset] [(.ref co3)])) _
    refine st6.trans ?_
    show Steps p.tables e below (T6.setTop (mkF m 43 #[.val (.int sel), .val (.int len), .val (.int ya), .val (.int yb), .val (.int yc), .val (.int (2 : Int32)), .val (.ref sx1), .val (.ref ty), .val (.ref co3), .val (.ref sx1), .unset] [(.ref ty)])) _
    refine XS.astore X6.here hx rfl (hb hby at_43) rfl rfl (l' := #[.val (.int sel), .val (.int len), .val (.int ya), .val (.int yb), .val (.int yc), .val (.int (2 : Int32)), .val (.ref sx1), .val (.ref ty), .val (.ref co3), .val (.ref sx1), .val (.ref ty)]) rfl ?_
    show Steps p.tables e below (T6.setTop (mkF m 45 #[.val (.int sel), .val (.int len), .val (.int ya), .val (.int yb), .val (.int yc), .val (.int (2 : Int32)), .val (.ref sx1), .val (.ref ty), .val (.ref co3), .val (.ref sx1), .val (.ref ty)] [])) _
    refine XS.aload X6.here hx rfl (hb hby at_45) rfl rfl ?_
    show Steps p.tables e below (T6.setTop (mkF m 47 #[.val (.int sel), .val (.int len), .val (.int ya), .val (.int yb), .val (.int yc), .val (.int (2 : Int32)), .val (.ref sx1), .val (.ref ty), .val (.ref co3), .val (.ref sx1), .val (.ref ty)] [(.ref sx1)])) _
    refine XS.ifnullNo X6.here hx rfl (hb hby at_47) rfl ?_
    show Steps p.tables e below (T6.setTop (mkF m 50 #[.val (.int sel), .val (.int len), .val (.int ya), .val (.int yb), .val (.int yc), .val (.int (2 : Int32)), .val (.ref sx1), .val (.ref ty), .val (.ref co3), .val (.ref sx1), .val (.ref ty)] [])) _
    refine XS.aload X6.here hx rfl (hb hby at_50) rfl rfl ?_
    show Steps p.tables e below (T6.setTop (mkF m 52 #[.val (.int sel), .val (.int len), .val (.int ya), .val (.int yb), .val (.int yc), .val (.int (2 : Int32)), .val (.ref sx1), .val (.ref ty), .val (.ref co3), .val (.ref sx1), .val (.ref ty)] [(.ref ty)])) _
    refine XS.ifnonnullYes X6.here hx rfl (pc0 := 52) (pc' := 57) rfl (hb hby at_52) rfl (by decide) (by decide) ?_
    show Steps p.tables e below (T6.setTop (mkF m 57 #[.val (.int sel), .val (.int len), .val (.int ya), .val (.int yb), .val (.int yc), .val (.int (2 : Int32)), .val (.ref sx1), .val (.ref ty), .val (.ref co3), .val (.ref sx1), .val (.ref ty)] [])) _
    refine XS.aload X6.here hx rfl (hb hby at_57) rfl rfl ?_
    show Steps p.tables e below (T6.setTop (mkF m 59 #[.val (.int sel), .val (.int len), .val (.int ya), .val (.int yb), .val (.int yc), .val (.int (2 : Int32)), .val (.ref sx1), .val (.ref ty), .val (.ref co3), .val (.ref sx1), .val (.ref ty)] [(.ref sx1)])) _
    refine st7.trans ?_
    show Steps p.tables e below (T7.setTop (mkF m 62 #[.val (.int sel), .val (.int len), .val (.int ya), .val (.int yb), .val (.int yc), .val (.int (2 : Int32)), .val (.ref sx1), .val (.ref ty), .val (.ref co3), .val (.ref sx1), .val (.ref ty)] [(.int (2 : Int32))])) _
    refine XS.iload X7.here hx rfl (hb hby at_62) rfl ?_
    show Steps p.tables e below (T7.setTop (mkF m 64 #[.val (.int sel), .val (.int len), .val (.int ya), .val (.int yb), .val (.int yc), .val (.int (2 : Int32)), .val (.ref sx1), .val (.ref ty), .val (.ref co3), .val (.ref sx1), .val (.ref ty)] [(.int (2 : Int32)), (.int (2 : Int32))])) _
    refine XS.icmpYes X7.here hx rfl (pc0 := 64) (pc' := 69) rfl (hb hby at_64) rfl (teq hd8).1 (by decide) (by decide) ?_
    show Steps p.tables e below (T7.setTop (mkF m 69 #[.val (.int sel), .val (.int len), .val (.int ya), .val (.int yb), .val (.int yc), .val (.int (2 : Int32)), .val (.ref sx1), .val (.ref ty), .val (.ref co3), .val (.ref sx1), .val (.ref ty)] [])) _
    refine XS.iload X7.here hx rfl (hb hby at_69) rfl ?_
    show Steps p.tables e below (T7.setTop (mkF m 71 #[.val (.int sel), .val (.int len), .val (.int ya), .val (.int yb), .val (.int yc), .val (.int (2 : Int32)), .val (.ref sx1), .val (.ref ty), .val (.ref co3), .val (.ref sx1), .val (.ref ty)] [(.int (2 : Int32))])) _
    refine XS.iconst X7.here hx rfl (hb hby at_71) ?_
    show Steps p.tables e below (T7.setTop (mkF m 72 #[.val (.int sel), .val (.int len), .val (.int ya), .val (.int yb), .val (.int yc), .val (.int (2 : Int32)), .val (.ref sx1), .val (.ref ty), .val (.ref co3), .val (.ref sx1), .val (.ref ty)] [(.int (1 : Int32)), (.int (2 : Int32))])) _
    refine XS.icmpNo X7.here hx rfl (hb hby at_72) rfl (flt hd9).1 ?_
    show Steps p.tables e below (T7.setTop (mkF m 75 #[.val (.int sel), .val (.int len), .val (.int ya), .val (.int yb), .val (.int yc), .val (.int (2 : Int32)), .val (.ref sx1), .val (.ref ty), .val (.ref co3), .val (.ref sx1), .val (.ref ty)] [])) _
    refine XS.aload X7.here hx rfl (hb hby at_75) rfl rfl ?_
    show Steps p.tables e below (T7.setTop (mkF m 77 #[.val (.int sel), .val (.int len), .val (.int ya), .val (.int yb), .val (.int yc), .val (.int (2 : Int32)), .val (.ref sx1), .val (.ref ty), .val (.ref co3), .val (.ref sx1), .val (.ref ty)] [(.ref sx1)])) _
    refine XS.iconst X7.here hx rfl (hb hby at_77) ?_
    show Steps p.tables e below (T7.setTop (mkF m 78 #[.val (.int sel), .val (.int len), .val (.int ya), .val (.int yb), .val (.int yc), .val (.int (2 : Int32)), .val (.ref sx1), .val (.ref ty), .val (.ref co3), .val (.ref sx1), .val (.ref ty)] [(.int (0 : Int32)), (.ref sx1)])) _
    refine st10.trans ?_
    show Steps p.tables e below (T10.setTop (mkF m 81 #[.val (.int sel), .val (.int len), .val (.int ya), .val (.int yb), .val (.int yc), .val (.int (2 : Int32)), .val (.ref sx1), .val (.ref ty), .val (.ref co3), .val (.ref sx1), .val (.ref ty)] [(.int ((ya &&& (255 : Int32)).toUInt32.toUInt16.toUInt32.toInt32))])) _
    refine XS.iloadN X10.here hx rfl (hb hby at_81) rfl ?_
    show Steps p.tables e below (T10.setTop (mkF m 82 #[.val (.int sel), .val (.int len), .val (.int ya), .val (.int yb), .val (.int yc), .val (.int (2 : Int32)), .val (.ref sx1), .val (.ref ty), .val (.ref co3), .val (.ref sx1), .val (.ref ty)] [(.int ya), (.int ((ya &&& (255 : Int32)).toUInt32.toUInt16.toUInt32.toInt32))])) _
    refine XS.sipush X10.here hx rfl (hb hby at_82) ?_
    show Steps p.tables e below (T10.setTop (mkF m 85 #[.val (.int sel), .val (.int len), .val (.int ya), .val (.int yb), .val (.int yc), .val (.int (2 : Int32)), .val (.ref sx1), .val (.ref ty), .val (.ref co3), .val (.ref sx1), .val (.ref ty)] [(.int (255 : Int32)), (.int ya), (.int ((ya &&& (255 : Int32)).toUInt32.toUInt16.toUInt32.toInt32))])) _
    refine XS.iand X10.here hx rfl (hb hby at_85) rfl ?_
    show Steps p.tables e below (T10.setTop (mkF m 86 #[.val (.int sel), .val (.int len), .val (.int ya), .val (.int yb), .val (.int yc), .val (.int (2 : Int32)), .val (.ref sx1), .val (.ref ty), .val (.ref co3), .val (.ref sx1), .val (.ref ty)] [(.int (ya &&& (255 : Int32))), (.int ((ya &&& (255 : Int32)).toUInt32.toUInt16.toUInt32.toInt32))])) _
    refine XS.i2c X10.here hx rfl (hb hby at_86) rfl ?_
    show Steps p.tables e below (T10.setTop (mkF m 87 #[.val (.int sel), .val (.int len), .val (.int ya), .val (.int yb), .val (.int yc), .val (.int (2 : Int32)), .val (.ref sx1), .val (.ref ty), .val (.ref co3), .val (.ref sx1), .val (.ref ty)] [(.int ((ya &&& (255 : Int32)).toUInt32.toUInt16.toUInt32.toInt32)), (.int ((ya &&& (255 : Int32)).toUInt32.toUInt16.toUInt32.toInt32))])) _
    refine XS.icmpYes X10.here hx rfl (pc0 := 87) (pc' := 92) rfl (hb hby at_87) rfl (teq hd11).1 (by decide) (by decide) ?_
    show Steps p.tables e below (T10.setTop (mkF m 92 #[.val (.int sel), .val (.int len), .val (.int ya), .val (.int yb), .val (.int yc), .val (.int (2 : Int32)), .val (.ref sx1), .val (.ref ty), .val (.ref co3), .val (.ref sx1), .val (.ref ty)] [])) _
    refine XS.iload X10.here hx rfl (hb hby at_92) rfl ?_
    show Steps p.tables e below (T10.setTop (mkF m 94 #[.val (.int sel), .val (.int len), .val (.int ya), .val (.int yb), .val (.int yc), .val (.int (2 : Int32)), .val (.ref sx1), .val (.ref ty), .val (.ref co3), .val (.ref sx1), .val (.ref ty)] [(.int (2 : Int32))])) _
    refine XS.iconst X10.here hx rfl (hb hby at_94) ?_
    show Steps p.tables e below (T10.setTop (mkF m 95 #[.val (.int sel), .val (.int len), .val (.int ya), .val (.int yb), .val (.int yc), .val (.int (2 : Int32)), .val (.ref sx1), .val (.ref ty), .val (.ref co3), .val (.ref sx1), .val (.ref ty)] [(.int (2 : Int32)), (.int (2 : Int32))])) _
    refine XS.icmpNo X10.here hx rfl (hb hby at_95) rfl (flt hd12).1 ?_
    show Steps p.tables e below (T10.setTop (mkF m 98 #[.val (.int sel), .val (.int len), .val (.int ya), .val (.int yb), .val (.int yc), .val (.int (2 : Int32)), .val (.ref sx1), .val (.ref ty), .val (.ref co3), .val (.ref sx1), .val (.ref ty)] [])) _
    refine XS.aload X10.here hx rfl (hb hby at_98) rfl rfl ?_
    show Steps p.tables e below (T10.setTop (mkF m 100 #[.val (.int sel), .val (.int len), .val (.int ya), .val (.int yb), .val (.int yc), .val (.int (2 : Int32)), .val (.ref sx1), .val (.ref ty), .val (.ref co3), .val (.ref sx1), .val (.ref ty)] [(.ref sx1)])) _
    refine XS.iconst X10.here hx rfl (hb hby at_100) ?_
    show Steps p.tables e below (T10.setTop (mkF m 101 #[.val (.int sel), .val (.int len), .val (.int ya), .val (.int yb), .val (.int yc), .val (.int (2 : Int32)), .val (.ref sx1), .val (.ref ty), .val (.ref co3), .val (.ref sx1), .val (.ref ty)] [(.int (1 : Int32)), (.ref sx1)])) _
    refine st13.trans ?_
    show Steps p.tables e below (T13.setTop (mkF m 104 #[.val (.int sel), .val (.int len), .val (.int ya), .val (.int yb), .val (.int yc), .val (.int (2 : Int32)), .val (.ref sx1), .val (.ref ty), .val (.ref co3), .val (.ref sx1), .val (.ref ty)] [(.int ((yb &&& (255 : Int32)).toUInt32.toUInt16.toUInt32.toInt32))])) _
    refine XS.iloadN X13.here hx rfl (hb hby at_104) rfl ?_
    show Steps p.tables e below (T13.setTop (mkF m 105 #[.val (.int sel), .val (.int len), .val (.int ya), .val (.int yb), .val (.int yc), .val (.int (2 : Int32)), .val (.ref sx1), .val (.ref ty), .val (.ref co3), .val (.ref sx1), .val (.ref ty)] [(.int yb), (.int ((yb &&& (255 : Int32)).toUInt32.toUInt16.toUInt32.toInt32))])) _
    refine XS.sipush X13.here hx rfl (hb hby at_105) ?_
    show Steps p.tables e below (T13.setTop (mkF m 108 #[.val (.int sel), .val (.int len), .val (.int ya), .val (.int yb), .val (.int yc), .val (.int (2 : Int32)), .val (.ref sx1), .val (.ref ty), .val (.ref co3), .val (.ref sx1), .val (.ref ty)] [(.int (255 : Int32)), (.int yb), (.int ((yb &&& (255 : Int32)).toUInt32.toUInt16.toUInt32.toInt32))])) _
    refine XS.iand X13.here hx rfl (hb hby at_108) rfl ?_
    show Steps p.tables e below (T13.setTop (mkF m 109 #[.val (.int sel), .val (.int len), .val (.int ya), .val (.int yb), .val (.int yc), .val (.int (2 : Int32)), .val (.ref sx1), .val (.ref ty), .val (.ref co3), .val (.ref sx1), .val (.ref ty)] [(.int (yb &&& (255 : Int32))), (.int ((yb &&& (255 : Int32)).toUInt32.toUInt16.toUInt32.toInt32))])) _
    refine XS.i2c X13.here hx rfl (hb hby at_109) rfl ?_
    show Steps p.tables e below (T13.setTop (mkF m 110 #[.val (.int sel), .val (.int len), .val (.int ya), .val (.int yb), .val (.int yc), .val (.int (2 : Int32)), .val (.ref sx1), .val (.ref ty), .val (.ref co3), .val (.ref sx1), .val (.ref ty)] [(.int ((yb &&& (255 : Int32)).toUInt32.toUInt16.toUInt32.toInt32)), (.int ((yb &&& (255 : Int32)).toUInt32.toUInt16.toUInt32.toInt32))])) _
    refine XS.icmpYes X13.here hx rfl (pc0 := 110) (pc' := 115) rfl (hb hby at_110) rfl (teq hd14).1 (by decide) (by decide) ?_
    show Steps p.tables e below (T13.setTop (mkF m 115 #[.val (.int sel), .val (.int len), .val (.int ya), .val (.int yb), .val (.int yc), .val (.int (2 : Int32)), .val (.ref sx1), .val (.ref ty), .val (.ref co3), .val (.ref sx1), .val (.ref ty)] [])) _
    refine XS.iload X13.here hx rfl (hb hby at_115) rfl ?_
    show Steps p.tables e below (T13.setTop (mkF m 117 #[.val (.int sel), .val (.int len), .val (.int ya), .val (.int yb), .val (.int yc), .val (.int (2 : Int32)), .val (.ref sx1), .val (.ref ty), .val (.ref co3), .val (.ref sx1), .val (.ref ty)] [(.int (2 : Int32))])) _
    refine XS.iconst X13.here hx rfl (hb hby at_117) ?_
    show Steps p.tables e below (T13.setTop (mkF m 118 #[.val (.int sel), .val (.int len), .val (.int ya), .val (.int yb), .val (.int yc), .val (.int (2 : Int32)), .val (.ref sx1), .val (.ref ty), .val (.ref co3), .val (.ref sx1), .val (.ref ty)] [(.int (3 : Int32)), (.int (2 : Int32))])) _
    refine XS.icmpYes X13.here hx rfl (pc0 := 118) (pc' := 139) rfl (hb hby at_118) rfl (tlt hd15).1 (by decide) (by decide) ?_
    show Steps p.tables e below (T13.setTop (mkF m 139 #[.val (.int sel), .val (.int len), .val (.int ya), .val (.int yb), .val (.int yc), .val (.int (2 : Int32)), .val (.ref sx1), .val (.ref ty), .val (.ref co3), .val (.ref sx1), .val (.ref ty)] [])) _
    refine XS.aload X13.here hx rfl (hb hby at_139) rfl rfl ?_
    show Steps p.tables e below (T13.setTop (mkF m 141 #[.val (.int sel), .val (.int len), .val (.int ya), .val (.int yb), .val (.int yc), .val (.int (2 : Int32)), .val (.ref sx1), .val (.ref ty), .val (.ref co3), .val (.ref sx1), .val (.ref ty)] [(.ref sx1)])) _
    refine XS.aload X13.here hx rfl (hb hby at_141) rfl rfl ?_
    show Steps p.tables e below (T13.setTop (mkF m 143 #[.val (.int sel), .val (.int len), .val (.int ya), .val (.int yb), .val (.int yc), .val (.int (2 : Int32)), .val (.ref sx1), .val (.ref ty), .val (.ref co3), .val (.ref sx1), .val (.ref ty)] [(.ref sx1), (.ref sx1)])) _
    refine st16.trans ?_
    show Steps p.tables e below (T16.setTop (mkF m 146 #[.val (.int sel), .val (.int len), .val (.int ya), .val (.int yb), .val (.int yc), .val (.int (2 : Int32)), .val (.ref sx1), .val (.ref ty), .val (.ref co3), .val (.ref sx1), .val (.ref ty)] [(.int (1 : Int32))])) _
    refine XS.ifNo X16.here hx rfl (hb hby at_146) rfl ((if0 _ _).trans (feq hd17).1) ?_
    show Steps p.tables e below (T16.setTop (mkF m 149 #[.val (.int sel), .val (.int len), .val (.int ya), .val (.int yb), .val (.int yc), .val (.int (2 : Int32)), .val (.ref sx1), .val (.ref ty), .val (.ref co3), .val (.ref sx1), .val (.ref ty)] [])) _
    refine XS.aload X16.here hx rfl (hb hby at_149) rfl rfl ?_
    show Steps p.tables e below (T16.setTop (mkF m 151 #[.val (.int sel), .val (.int len), .val (.int ya), .val (.int yb), .val (.int yc), .val (.int (2 : Int32)), .val (.ref sx1), .val (.ref ty), .val (.ref co3), .val (.ref sx1), .val (.ref ty)] [(.ref ty)])) _
    refine XS.aload X16.here hx rfl (hb hby at_151) rfl rfl ?_
    show Steps p.tables e below (T16.setTop (mkF m 153 #[.val (.int sel), .val (.int len), .val (.int ya), .val (.int yb), .val (.int yc), .val (.int (2 : Int32)), .val (.ref sx1), .val (.ref ty), .val (.ref co3), .val (.ref sx1), .val (.ref ty)] [(.ref ty), (.ref ty)])) _
    refine Jvm.RoadKit.acmp (g := (mkF m 153 #[.val (.int sel), .val (.int len), .val (.int ya), .val (.int yb), .val (.int yc), .val (.int (2 : Int32)), .val (.ref sx1), .val (.ref ty), .val (.ref co3), .val (.ref sx1), .val (.ref ty)] [(.ref ty), (.ref ty)])) X16 hx rfl rfl rfl (pc0 := 153) (pc' := 156) (same := true) rfl (hb hby at_153) rfl (decide_eq_true rfl) (by decide) (by decide) ?_
    show Steps p.tables e below (T16.setTop (mkF m 156 #[.val (.int sel), .val (.int len), .val (.int ya), .val (.int yb), .val (.int yc), .val (.int (2 : Int32)), .val (.ref sx1), .val (.ref ty), .val (.ref co3), .val (.ref sx1), .val (.ref ty)] [])) _
    refine XS.iconst X16.here hx rfl (hb hby at_156) ?_
    show Steps p.tables e below (T16.setTop (mkF m 157 #[.val (.int sel), .val (.int len), .val (.int ya), .val (.int yb), .val (.int yc), .val (.int (2 : Int32)), .val (.ref sx1), .val (.ref ty), .val (.ref co3), .val (.ref sx1), .val (.ref ty)] [(.int (1 : Int32))])) _
    refine XS.goto X16.here hx rfl (pc0 := 157) (pc' := 161) rfl (hb hby at_157) (by decide) (by decide) ?_
    show Steps p.tables e below (T16.setTop (mkF m 161 #[.val (.int sel), .val (.int len), .val (.int ya), .val (.int yb), .val (.int yc), .val (.int (2 : Int32)), .val (.ref sx1), .val (.ref ty), .val (.ref co3), .val (.ref sx1), .val (.ref ty)] [(.int (1 : Int32))])) _
    exact kt
  obtain ⟨fs, hr, hrun, hended, hRW⟩ := X16.leaveW hS (own_hk e16 (Nat.le_refl _)) (v := some (.int (1 : Int32))) (fun h => by rw [Bd.returns] at h; cases h)
  refine ⟨_, _, k18 _ ?_, hrun, hended, _, _, rfl, ?_, hRW.1, hRW.2.1, hRW.2.2.1, hRW.2.2.2.mono (by decide) (by decide)⟩
  · exact retN X16 hx (t := .boolean) Bd.returns (by simp) (hb hby at_161) hr
  · show QL n0 _ T16.heap _
    exact ⟨rfl, N16⟩
theorem ef_rm0_3 (m : MethodId) (sel : Int32) (len : Int32) (ya : Int32) (yb : Int32) (yc : Int32) : entryFrame m #[(.int sel), (.int len), (.int ya), (.int yb), (.int yc)] maxLocals = mkF m 0 #[.val (.int sel), .val (.int len), .val (.int ya), .val (.int yb), .val (.int yc), .unset, .unset, .unset, .unset, .unset, .unset] [] := by first | (simp [entryFrame, mkF, argsToLocals, Value.category, maxLocals]; done) | rfl
set_option maxRecDepth 65536 in
set_option maxHeartbeats 40000000 in
theorem rm0_3 (l : Launch) (Z : State) (a0 : Array Value) (hw : ∀ d ∈ tables_1, d.before a0 Z = true) (ws : List Jvm.Cond) (sel : Int32) (len : Int32) (ya : Int32) (yb : Int32) (yc : Int32) (cz : Int32) (fm : Value) (v_TEXT v_INTEGER v_REAL : Addr) (h0 : Heap) (n0 : Nat) (Z0 : n0 ≤ h0.size) (hn3 : len &&& (3 : Int32) = (3 : Int32)) (S_cs : Sta Z h0 "java/lang/String" "COMPACT_STRINGS" "Z" (.int cz)) (hcz : ¬ cz = 0) (S_sf : Sta Z h0 "jdk/internal/util/Preconditions" "SIOOBE_FORMATTER" "Ljava/util/function/BiFunction;" fm) (rsf : fm.isRef = true) (S_TEXT : Sta Z h0 "com/example/lifetable/lifetable/output/Column$Type" "TEXT" "Lcom/example/lifetable/lifetable/output/Column$Type;" (.ref v_TEXT)) (S_INTEGER : Sta Z h0 "com/example/lifetable/lifetable/output/Column$Type" "INTEGER" "Lcom/example/lifetable/lifetable/output/Column$Type;" (.ref v_INTEGER)) (S_REAL : Sta Z h0 "com/example/lifetable/lifetable/output/Column$Type" "REAL" "Lcom/example/lifetable/lifetable/output/Column$Type;" (.ref v_REAL)) (E_TEXT : Exa Z h0 v_TEXT "com/example/lifetable/lifetable/output/Column$Type") (E_INTEGER : Exa Z h0 v_INTEGER "com/example/lifetable/lifetable/output/Column$Type") (E_REAL : Exa Z h0 v_REAL "com/example/lifetable/lifetable/output/Column$Type") :
    MetFree l x (head1 (Jvm.Cond.code x code maxLocals ret :: ws) room_1) (fun a_ U_ => a_ = #[(.int sel), (.int len), (.int ya), (.int yb), (.int yc)] ∧ Z.Warmed39 U_.vm ∧ U_.heap = h0) (fun _ _ _ _ _ => True) (fun _ U_ o_ U'_ => ∃ v_ L_, o_ = .returned v_ ∧ QL n0 v_ U'_.heap L_ ∧ ReturnedEndW U_ o_ U'_ L_ room_1.cells room_1.slots) := by
  refine MetFree.of_bodySF (plainFor_of_name pn_0) hisR ?_
  intro p e s m args below meth c s₁ Bd hml0 hP hK
  obtain ⟨rfl, hZ, hh⟩ := hP
  have hx := Bd.exec
  have hby := Bd.bytes
  have hml : c.maxLocals = 11 := hml0
  have hown : s.vm.findClass "com/example/lifetable/lifetable/output/ColumnOfPinLaw" = some m.cls := findClass_of_methodNamed Bd.named
  have hnm := (name_of_methodNamed Bd.named Bd.method).1
  have X0 : Stand p l e room_1 (s.setVm s.vm) m #[(.int sel), (.int len), (.int ya), (.int yb), (.int yc)] below meth c s₁ [] 0 0 := Stand.of_body Bd
  have hZ : Z.Warmed39 (s.setVm s.vm).vm := hZ
  have hown : (s.setVm s.vm).vm.findClass "com/example/lifetable/lifetable/output/ColumnOfPinLaw" = some m.cls := hown
  have hS : s.Since s.vm s.heap.size := (State.WarmedH.refl s).since _
  have HK0 : s.heap.size ≤ h0.size := Nat.le_of_eq (congrArg Array.size hh)
  have e0 : s₁.heap = h0 := by rw [← hh, Bd.state]; rfl
  have N0 := Fr.nil n0
  have k0 : ∀ tg, Steps p.tables e below (s₁.setTop (mkF m 0 #[.val (.int sel), .val (.int len), .val (.int ya), .val (.int yb), .val (.int yc), .unset, .unset, .unset, .unset, .unset, .unset] [])) tg → Steps p.tables e below (s₁.setTop (entryFrame m #[(.int sel), (.int len), (.int ya), (.int yb), (.int yc)] maxLocals)) tg := fun tg kq_ => castTop (ef_rm0_3 m sel len ya yb yc) kq_
  have hln : ∀ d ∈ StrChars.Road.wordsLen, d.before a0 Z = true := fun d hd => hw d ((by decide +kernel : ∀ d ∈ StrChars.Road.wordsLen, d ∈ tables_1) d hd)
  have hch : ∀ d ∈ StrChars.Road.wordsChN, d.before a0 Z = true := fun d hd => hw d ((by decide +kernel : ∀ d ∈ StrChars.Road.wordsChN, d ∈ tables_1) d hd)
  have hp : ∀ c ∈ ([((ya &&& (255 : Int32)).toUInt32.toUInt16.toUInt32.toInt32), ((yb &&& (255 : Int32)).toUInt32.toUInt16.toUInt32.toInt32), ((yc &&& (255 : Int32)).toUInt32.toUInt16.toUInt32.toInt32)] : List Int32), ¬ c < 0 ∧ ¬ (255 : Int32) < c := by
    intro c hc
    simp only [List.mem_cons, List.not_mem_nil, or_false] at hc
    rcases hc with rfl | rfl | rfl <;> exact own_255 _
  have hcd : StrChars.Road.CodA ([((ya &&& (255 : Int32)).toUInt32.toUInt16.toUInt32.toInt32), ((yb &&& (255 : Int32)).toUInt32.toUInt16.toUInt32.toInt32), ((yc &&& (255 : Int32)).toUInt32.toUInt16.toUInt32.toInt32)] : List Int32) 0 (Int32.ofNat ([((ya &&& (255 : Int32)).toUInt32.toUInt16.toUInt32.toInt32), ((yb &&& (255 : Int32)).toUInt32.toUInt16.toUInt32.toInt32), ((yc &&& (255 : Int32)).toUInt32.toUInt16.toUInt32.toInt32)] : List Int32).length) ((([((ya &&& (255 : Int32)).toUInt32.toUInt16.toUInt32.toInt32), ((yb &&& (255 : Int32)).toUInt32.toUInt16.toUInt32.toInt32), ((yc &&& (255 : Int32)).toUInt32.toUInt16.toUInt32.toInt32)] : List Int32).map fun c => c.toInt8.toInt32).map Value.int) := StrChars.Road.codOf (n := 3) rfl (fun c hc => (hp c hc).2)
  have hbd := own_up _ hp
  obtain ⟨_, _, ⟨T1, L1, k1, n1⟩, -, X1, ⟨Lc1, hQ1, l1, y1, z1⟩, st1⟩ := Jvm.LawKit.callS X0 hx (y := (⟨"com/example/lifetable/lifetable/output/ColumnOfPinLaw", "draw", "(IIII)Ljava/lang/String;"⟩ : MethodName)) hown (mvT hZ (hw _ (List.mem_of_getElem? (i := 0) rfl))) (mvT hZ (hw _ (List.mem_of_getElem? (i := 1) rfl))) (mvT hZ (hw _ (List.mem_of_getElem? (i := 2) rfl))) (mvT hZ (hw _ (List.mem_of_getElem? (i := 3) rfl))) (by decide) (backOf (W := 0) (rmDraw3 l Z a0 hw [] ya yb yc cz h0 n0 Z0 (S_cs.ext (own_extK (Keep.refl h0 []))) hcz) hZ (hw _ (List.mem_of_getElem? (i := 3) rfl)) (hw _ (List.mem_of_getElem? (i := 2) rfl)) (by decide) (by decide)) (g := (mkF m 11 #[.val (.int sel), .val (.int len), .val (.int ya), .val (.int yb), .val (.int yc), .val (.int (3 : Int32)), .unset, .unset, .unset, .unset, .unset] [(.int yc), (.int yb), (.int ya), (.int (3 : Int32))])) rfl (by rw [hml]; rfl) (argsL := [(.int (3 : Int32)), (.int ya), (.int yb), (.int yc)]) (rest := []) (lenOf pd_4 rfl) rfl (by show 2 * 0 + _ ≤ _; exact Nat.le_of_eq rfl) (hb hby at_11) (fun _ _ => ⟨rfl, e0, (by decide : 0 + 3 ≤ _), (by decide : 0 + 10 ≤ _)⟩)
  dsimp only [Pt.U, Pt.locs, Pt.cells, Pt.slots] at X1 l1 y1 z1 st1 hQ1
  subst l1 y1 z1
  obtain ⟨N1q, K1, sx1, bt1, kb1, rfl, le1, E1x, C1x, F1x, V1x⟩ := hQ1
  have N1 := Fr.app N0 N1q
  have g_sx1 : n0 ≤ sx1 := Nat.le_trans Z0 le1
  have sz_sx1 : h0.size ≤ sx1 := Nat.le_trans (Keep.refl h0 []).1 le1
  have HK1 := Nat.le_trans HK0 K1.1
  have Z1 := Nat.le_trans Z0 K1.1
  have KP1 := (Keep.refl h0 []).trans K1 all0
  obtain ⟨_, _, ⟨T2, L2, k2, n2⟩, -, X2, ⟨Lc2, hQ2, l2, y2, z2⟩, st2⟩ := Jvm.LawKit.callS X1 hx (y := (⟨"com/example/lifetable/lifetable/output/ColumnOfPinLaw", "pick", "(I)Lcom/example/lifetable/lifetable/output/Column$Type;"⟩ : MethodName)) hown (mvT hZ (hw _ (List.mem_of_getElem? (i := 34) rfl))) (mvT hZ (hw _ (List.mem_of_getElem? (i := 35) rfl))) (mvT hZ (hw _ (List.mem_of_getElem? (i := 2) rfl))) (mvT hZ (hw _ (List.mem_of_getElem? (i := 36) rfl))) (by decide) (backOf (W := 0) (rmPick l Z a0 hw [] sel v_TEXT v_INTEGER v_REAL T1.heap n0 (S_TEXT.ext (own_extK KP1)) (S_INTEGER.ext (own_extK KP1)) (S_REAL.ext (own_extK KP1))) hZ (hw _ (List.mem_of_getElem? (i := 36) rfl)) (hw _ (List.mem_of_getElem? (i := 2) rfl)) (by decide) (by decide)) (g := (mkF m 17 #[.val (.int sel), .val (.int len), .val (.int ya), .val (.int yb), .val (.int yc), .val (.int (3 : Int32)), .val (.ref sx1), .unset, .unset, .unset, .unset] [(.int sel)])) rfl (by rw [hml]; rfl) (argsL := [(.int sel)]) (rest := []) (lenOf pd_5 rfl) rfl (by show 2 * 0 + _ ≤ _; exact Nat.le_of_eq rfl) (hb hby at_17) (fun _ _ => ⟨rfl, rfl, (by decide : 3 + 0 ≤ _), (by decide : 10 + 0 ≤ _)⟩)
  dsimp only [Pt.U, Pt.locs, Pt.cells, Pt.slots] at X2 l2 y2 z2 st2 hQ2
  subst l2 y2 z2
  obtain ⟨rfl, N2q, e2⟩ := hQ2
  have N2 := Fr.app N1 N2q
  obtain ⟨ty, ety⟩ : ∃ z : Addr, z = (if ((sel &&& (2147483647 : Int32)) % (3 : Int32)) = (0 : Int32) then v_TEXT else (if ((sel &&& (2147483647 : Int32)) % (3 : Int32)) = (1 : Int32) then v_INTEGER else v_REAL)) := ⟨_, rfl⟩
  have E_ty0 : Exa Z h0 ty "com/example/lifetable/lifetable/output/Column$Type" := by
    rw [ety]
    (repeat' split) <;> assumption
  have E_ty := E_ty0.ext (own_extK KP1)
  have k4 : ∀ tg, Steps p.tables e below (T2.setTop (mkF m 26 #[.val (.int sel), .val (.int len), .val (.int ya), .val (.int yb), .val (.int yc), .val (.int (3 : Int32)), .val (.ref sx1), .val (.ref ty), .unset, .unset, .unset] [(.ref ty), (.ref sx1)])) tg → Steps p.tables e below (s₁.setTop (entryFrame m #[(.int sel), (.int len), (.int ya), (.int yb), (.int yc)] maxLocals)) tg := by
    intro tg kt
    refine k0 tg ?_
    show Steps p.tables e below (s₁.setTop (mkF m 0 #[.val (.int sel), .val (.int len), .val (.int ya), .val (.int yb), .val (.int yc), .unset, .unset, .unset, .unset, .unset, .unset] [])) _
    refine XS.iloadN X0.here hx rfl (hb hby at_0) rfl ?_
    show Steps p.tables e below (s₁.setTop (mkF m 1 #[.val (.int sel), .val (.int len), .val (.int ya), .val (.int yb), .val (.int yc), .unset, .unset, .unset, .unset, .unset, .unset] [(.int len)])) _
    refine XS.iconst X0.here hx rfl (hb hby at_1) ?_
    show Steps p.tables e below (s₁.setTop (mkF m 2 #[.val (.int sel), .val (.int len), .val (.int ya), .val (.int yb), .val (.int yc), .unset, .unset, .unset, .unset, .unset, .unset] [(.int (3 : Int32)), (.int len)])) _
    refine XS.iand X0.here hx rfl (hb hby at_2) rfl ?_
    show Steps p.tables e below (s₁.setTop (mkF m 3 #[.val (.int sel), .val (.int len), .val (.int ya), .val (.int yb), .val (.int yc), .unset, .unset, .unset, .unset, .unset, .unset] [(.int (len &&& (3 : Int32)))])) _
    refine XS.istore X0.here hx rfl (hb hby at_3) rfl (l' := #[.val (.int sel), .val (.int len), .val (.int ya), .val (.int yb), .val (.int yc), .val (.int (len &&& (3 : Int32))), .unset, .unset, .unset, .unset, .unset]) rfl ?_
    show Steps p.tables e below (s₁.setTop (mkF m 5 #[.val (.int sel), .val (.int len), .val (.int ya), .val (.int yb), .val (.int yc), .val (.int (len &&& (3 : Int32))), .unset, .unset, .unset, .unset, .unset] [])) _
    rw [hn3]
    show Steps p.tables e below (s₁.setTop (mkF m 5 #[.val (.int sel), .val (.int len), .val (.int ya), .val (.int yb), .val (.int yc), .val (.int (3 : Int32)), .unset, .unset, .unset, .unset, .unset] [])) _
    refine XS.iload X0.here hx rfl (hb hby at_5) rfl ?_
    show Steps p.tables e below (s₁.setTop (mkF m 7 #[.val (.int sel), .val (.int len), .val (.int ya), .val (.int yb), .val (.int yc), .val (.int (3 : Int32)), .unset, .unset, .unset, .unset, .unset] [(.int (3 : Int32))])) _
    refine XS.iloadN X0.here hx rfl (hb hby at_7) rfl ?_
    show Steps p.tables e below (s₁.setTop (mkF m 8 #[.val (.int sel), .val (.int len), .val (.int ya), .val (.int yb), .val (.int yc), .val (.int (3 : Int32)), .unset, .unset, .unset, .unset, .unset] [(.int ya), (.int (3 : Int32))])) _
    refine XS.iloadN X0.here hx rfl (hb hby at_8) rfl ?_
    show Steps p.tables e below (s₁.setTop (mkF m 9 #[.val (.int sel), .val (.int len), .val (.int ya), .val (.int yb), .val (.int yc), .val (.int (3 : Int32)), .unset, .unset, .unset, .unset, .unset] [(.int yb), (.int ya), (.int (3 : Int32))])) _
    refine XS.iload X0.here hx rfl (hb hby at_9) rfl ?_
    show Steps p.tables e below (s₁.setTop (mkF m 11 #[.val (.int sel), .val (.int len), .val (.int ya), .val (.int yb), .val (.int yc), .val (.int (3 : Int32)), .unset, .unset, .unset, .unset, .unset] [(.int yc), (.int yb), (.int ya), (.int (3 : Int32))])) _
    refine st1 _ ?_
    show Steps p.tables e below (T1.setTop (mkF m 14 #[.val (.int sel), .val (.int len), .val (.int ya), .val (.int yb), .val (.int yc), .val (.int (3 : Int32)), .unset, .unset, .unset, .unset, .unset] [(.ref sx1)])) _
    refine XS.astore X1.here hx rfl (hb hby at_14) rfl rfl (l' := #[.val (.int sel), .val (.int len), .val (.int ya), .val (.int yb), .val (.int yc), .val (.int (3 : Int32)), .val (.ref sx1), .unset, .unset, .unset, .unset]) rfl ?_
    show Steps p.tables e below (T1.setTop (mkF m 16 #[.val (.int sel), .val (.int len), .val (.int ya), .val (.int yb), .val (.int yc), .val (.int (3 : Int32)), .val (.ref sx1), .unset, .unset, .unset, .unset] [])) _
    refine XS.iloadN X1.here hx rfl (hb hby at_16) rfl ?_
    show Steps p.tables e below (T1.setTop (mkF m 17 #[.val (.int sel), .val (.int len), .val (.int ya), .val (.int yb), .val (.int yc), .val (.int (3 : Int32)), .val (.ref sx1), .unset, .unset, .unset, .unset] [(.int sel)])) _
    refine st2 _ ?_
    show Steps p.tables e below (T2.setTop (mkF m 20 #[.val (.int sel), .val (.int len), .val (.int ya), .val (.int yb), .val (.int yc), .val (.int (3 : Int32)), .val (.ref sx1), .unset, .unset, .unset, .unset] [(.ref (if ((sel &&& (2147483647 : Int32)) % (3 : Int32)) = (0 : Int32) then v_TEXT else (if ((sel &&& (2147483647 : Int32)) % (3 : Int32)) = (1 : Int32) then v_INTEGER else v_REAL)))])) _
    rw [← ety]
    show Steps p.tables e below (T2.setTop (mkF m 20 #[.val (.int sel), .val (.int len), .val (.int ya), .val (.int yb), .val (.int yc), .val (.int (3 : Int32)), .val (.ref sx1), .unset, .unset, .unset, .unset] [(.ref ty)])) _
    refine XS.astore X2.here hx rfl (hb hby at_20) rfl rfl (l' := #[.val (.int sel), .val (.int len), .val (.int ya), .val (.int yb), .val (.int yc), .val (.int (3 : Int32)), .val (.ref sx1), .val (.ref ty), .unset, .unset, .unset]) rfl ?_
    show Steps p.tables e below (T2.setTop (mkF m 22 #[.val (.int sel), .val (.int len), .val (.int ya), .val (.int yb), .val (.int yc), .val (.int (3 : Int32)), .val (.ref sx1), .val (.ref ty), .unset, .unset, .unset] [])) _
    refine XS.aload X2.here hx rfl (hb hby at_22) rfl rfl ?_
    show Steps p.tables e below (T2.setTop (mkF m 24 #[.val (.int sel), .val (.int len), .val (.int ya), .val (.int yb), .val (.int yc), .val (.int (3 : Int32)), .val (.ref sx1), .val (.ref ty), .unset, .unset, .unset] [(.ref sx1)])) _
    refine XS.aload X2.here hx rfl (hb hby at_24) rfl rfl ?_
    show Steps p.tables e below (T2.setTop (mkF m 26 #[.val (.int sel), .val (.int len), .val (.int ya), .val (.int yb), .val (.int yc), .val (.int (3 : Int32)), .val (.ref sx1), .val (.ref ty), .unset, .unset, .unset] [(.ref ty), (.ref sx1)])) _
    exact kt
  obtain ⟨_, _, ⟨T3, L3, k3, n3⟩, -, X3, S23, gr3, ⟨Lc3, hQ3, l3, y3, z3⟩, st3⟩ := callSS X2 hx (y := (⟨"com/example/lifetable/lifetable/output/Column", "of", "(Ljava/lang/String;Lcom/example/lifetable/lifetable/output/Column$Type;)Lcom/example/lifetable/lifetable/output/Column;"⟩ : MethodName)) hown (mvT hZ (hw _ (List.mem_of_getElem? (i := 41) rfl))) (mvT hZ (hw _ (List.mem_of_getElem? (i := 42) rfl))) (mvT hZ (hw _ (List.mem_of_getElem? (i := 43) rfl))) (mvT hZ (hw _ (List.mem_of_getElem? (i := 44) rfl))) (by decide) (backOfS (W := 0) (rmOf l Z a0 hw [] sx1 ty  T1.heap n0 Z1 E1x E_ty) hZ (hw _ (List.mem_of_getElem? (i := 44) rfl)) (hw _ (List.mem_of_getElem? (i := 43) rfl)) (by decide) (by decide)) (g := (mkF m 26 #[.val (.int sel), .val (.int len), .val (.int ya), .val (.int yb), .val (.int yc), .val (.int (3 : Int32)), .val (.ref sx1), .val (.ref ty), .unset, .unset, .unset] [(.ref ty), (.ref sx1)])) rfl (by rw [hml]; rfl) (argsL := [(.ref sx1), (.ref ty)]) (rest := []) (lenOf pd_6 rfl) rfl (by show 2 * 0 + _ ≤ _; exact Nat.le_of_eq rfl) (hb hby at_26) (fun _ _ => ⟨rfl, e2, (by decide : 3 + 5 ≤ _), (by decide : 10 + 42 ≤ _)⟩)
  dsimp only [Pt.U, Pt.locs, Pt.cells, Pt.slots] at X3 l3 y3 z3 st3 hQ3 S23 gr3
  subst l3 y3 z3
  obtain ⟨X3, hS, hZ, hown⟩ := rebS hS (own_hk e2 HK1) X3 S23 gr3 hZ hown
  obtain ⟨N3q, K3, co3, rfl, le3, E3o, Fn3, Ft3⟩ := hQ3
  have N3 := Fr.app N2 N3q
  have ne_sx1_co3 : sx1 ≠ co3 := Nat.ne_of_lt (Nat.lt_of_lt_of_le E1x.lt le3)
  have ne_bt1_co3 : bt1 ≠ co3 := Nat.ne_of_lt (Nat.lt_of_lt_of_le V1x.lt le3)
  have ne_ty_co3 : ty ≠ co3 := Nat.ne_of_lt (Nat.lt_of_lt_of_le E_ty.lt le3)
  have g_co3 : n0 ≤ co3 := Nat.le_trans Z1 le3
  have sz_co3 : h0.size ≤ co3 := Nat.le_trans KP1.1 le3
  have E3_sx1 := E1x.keep K3
  have F3_sx1_coder := C1x.keep K3 nin0
  have F3_sx1_value := F1x.keep K3 nin0
  have V3_bt1 := V1x.keep K3 nin0
  have E3_ty := E_ty.keep K3
  have Z3 := Nat.le_trans Z1 K3.1
  have KP3 := KP1.trans K3 all0
  obtain ⟨cq5, kq5, q5a, q5b, q5c⟩ := isOf hZ rfl E3o
  obtain ⟨_, _, ⟨T5, L5, k5, n5⟩, -, X5, ⟨Lc5, hQ5, l5, y5, z5⟩, st5⟩ := X3.virtualBack hx (y := (⟨"com/example/lifetable/lifetable/output/Column", "name", "()Ljava/lang/String;"⟩ : MethodName)) (z := (⟨"com/example/lifetable/lifetable/output/Column", "name", "()Ljava/lang/String;"⟩ : MethodName)) hown (mvT hZ (hw _ (List.mem_of_getElem? (i := 66) rfl))) (mvT hZ (hw _ (List.mem_of_getElem? (i := 67) rfl))) (notFace_of_selects (args := #[]) (mvT hZ (hw _ (List.mem_of_getElem? (i := 69) rfl)))) (mvT hZ (hw _ (List.mem_of_getElem? (i := 69) rfl))) (mvT hZ (hw _ (List.mem_of_getElem? (i := 68) rfl))) (by decide) (backOf (W := 0) (rmName l Z a0 hw [] co3 sx1 T3.heap n0 Fn3) hZ (hw _ (List.mem_of_getElem? (i := 70) rfl)) (hw _ (List.mem_of_getElem? (i := 43) rfl)) (by decide) (by decide)) q5a q5c (g := (mkF m 33 #[.val (.int sel), .val (.int len), .val (.int ya), .val (.int yb), .val (.int yc), .val (.int (3 : Int32)), .val (.ref sx1), .val (.ref ty), .val (.ref co3), .unset, .unset] [(.ref co3)])) rfl (by rw [hml]; rfl) (Steps.refl _) (argsL := []) (rest := []) (lenOf pd_7 rfl) rfl (by show 2 * 0 + _ ≤ _; exact Nat.le_of_eq rfl) (hb hby at_33) (fun _ _ => ⟨rfl, rfl, (by decide : 8 + 0 ≤ _), (by decide : 52 + 0 ≤ _)⟩)
  dsimp only [Pt.U, Pt.locs, Pt.cells, Pt.slots] at X5 l5 y5 z5 st5 hQ5
  subst l5 y5 z5
  obtain ⟨rfl, N5q, e5⟩ := hQ5
  have N5 := Fr.app N3 N5q
  obtain ⟨cq6, kq6, q6a, q6b, q6c⟩ := isOf hZ e5 E3o
  obtain ⟨_, _, ⟨T6, L6, k6, n6⟩, -, X6, ⟨Lc6, hQ6, l6, y6, z6⟩, st6⟩ := X5.virtualBack hx (y := (⟨"com/example/lifetable/lifetable/output/Column", "type", "()Lcom/example/lifetable/lifetable/output/Column$Type;"⟩ : MethodName)) (z := (⟨"com/example/lifetable/lifetable/output/Column", "type", "()Lcom/example/lifetable/lifetable/output/Column$Type;"⟩ : MethodName)) hown (mvT hZ (hw _ (List.mem_of_getElem? (i := 71) rfl))) (mvT hZ (hw _ (List.mem_of_getElem? (i := 72) rfl))) (notFace_of_selects (args := #[]) (mvT hZ (hw _ (List.mem_of_getElem? (i := 74) rfl)))) (mvT hZ (hw _ (List.mem_of_getElem? (i := 74) rfl))) (mvT hZ (hw _ (List.mem_of_getElem? (i := 73) rfl))) (by decide) (backOf (W := 0) (rmType l Z a0 hw [] co3 ty T3.heap n0 Ft3) hZ (hw _ (List.mem_of_getElem? (i := 75) rfl)) (hw _ (List.mem_of_getElem? (i := 43) rfl)) (by decide) (by decide)) q6a q6c (g := (mkF m 40 #[.val (.int sel), .val (.int len), .val (.int ya), .val (.int yb), .val (.int yc), .val (.int (3 : Int32)), .val (.ref sx1), .val (.ref ty), .val (.ref co3), .val (.ref sx1), .unset] [(.ref co3)])) rfl (by rw [hml]; rfl) (Steps.refl _) (argsL := []) (rest := []) (lenOf pd_8 rfl) rfl (by show 2 * 0 + _ ≤ _; exact Nat.le_of_eq rfl) (hb hby at_40) (fun _ _ => ⟨rfl, e5, (by decide : 8 + 0 ≤ _), (by decide : 52 + 0 ≤ _)⟩)
  dsimp only [Pt.U, Pt.locs, Pt.cells, Pt.slots] at X6 l6 y6 z6 st6 hQ6
  subst l6 y6 z6
  obtain ⟨rfl, N6q, e6⟩ := hQ6
  have N6 := Fr.app N5 N6q
  obtain ⟨cq7, kq7, q7a, q7b, q7c⟩ := isOf hZ e6 E3_sx1
  obtain ⟨_, _, ⟨T7, L7, k7, n7⟩, -, X7, ⟨Lc7, hQ7, l7, y7, z7⟩, st7⟩ := X6.virtualBack hx (y := (⟨"java/lang/String", "length", "()I"⟩ : MethodName)) (z := (⟨"java/lang/String", "length", "()I"⟩ : MethodName)) hown (mvT hZ (hw _ (List.mem_of_getElem? (i := 76) rfl))) (mvT hZ (hw _ (List.mem_of_getElem? (i := 77) rfl))) (notFace_of_selects (args := #[]) (mvT hZ (hw _ (List.mem_of_getElem? (i := 79) rfl)))) (mvT hZ (hw _ (List.mem_of_getElem? (i := 79) rfl))) (mvT hZ (hw _ (List.mem_of_getElem? (i := 78) rfl))) (by decide) (StrChars.Road.lenW (W := 0) hZ hln (kI := 4) (hw _ (List.mem_of_getElem? (i := 5) rfl)) (cs := ([((ya &&& (255 : Int32)).toUInt32.toUInt16.toUInt32.toInt32), ((yb &&& (255 : Int32)).toUInt32.toUInt16.toUInt32.toInt32), ((yc &&& (255 : Int32)).toUInt32.toUInt16.toUInt32.toInt32)] : List Int32)) E3_sx1 F3_sx1_value F3_sx1_coder V3_bt1 hcd hbd (S_cs.ext (own_extK KP3)) hcz (Nat.le_of_ble_eq_true rfl) (by decide) (by decide)) q7a q7c (g := (mkF m 59 #[.val (.int sel), .val (.int len), .val (.int ya), .val (.int yb), .val (.int yc), .val (.int (3 : Int32)), .val (.ref sx1), .val (.ref ty), .val (.ref co3), .val (.ref sx1), .val (.ref ty)] [(.ref sx1)])) rfl (by rw [hml]; rfl) (Steps.refl _) (argsL := []) (rest := []) (lenOf pd_9 rfl) rfl (by show 2 * 0 + _ ≤ _; exact Nat.le_of_eq rfl) (hb hby at_59) (fun _ _ => ⟨rfl, e6, (by decide : 8 + 0 ≤ _), (by decide : 52 + 0 ≤ _)⟩)
  dsimp only [Pt.U, Pt.locs, Pt.cells, Pt.slots] at X7 l7 y7 z7 st7 hQ7
  subst l7 y7 z7
  obtain ⟨rfl, rfl, e7⟩ := hQ7
  have N7 := Fr.app N6 (Fr.nil n0)
  have hd8 : (3 : Int32) = (3 : Int32) := rfl
  have hd9 : ¬ ((3 : Int32) < (1 : Int32)) := by decide
  obtain ⟨cq10, kq10, q10a, q10b, q10c⟩ := isOf hZ e7 E3_sx1
  obtain ⟨_, _, ⟨T10, L10, k10, n10⟩, -, X10, ⟨Lc10, hQ10, l10, y10, z10⟩, st10⟩ := X7.virtualBack hx (y := (⟨"java/lang/String", "charAt", "(I)C"⟩ : MethodName)) (z := (⟨"java/lang/String", "charAt", "(I)C"⟩ : MethodName)) hown (mvT hZ (hw _ (List.mem_of_getElem? (i := 86) rfl))) (mvT hZ (hw _ (List.mem_of_getElem? (i := 87) rfl))) (notFace_of_selects (args := #[]) (mvT hZ (hw _ (List.mem_of_getElem? (i := 89) rfl)))) (mvT hZ (hw _ (List.mem_of_getElem? (i := 89) rfl))) (mvT hZ (hw _ (List.mem_of_getElem? (i := 88) rfl))) (by decide) (StrChars.Road.chN (W := 0) hZ hch (kI := 4) (hw _ (List.mem_of_getElem? (i := 5) rfl)) (cs := ([((ya &&& (255 : Int32)).toUInt32.toUInt16.toUInt32.toInt32), ((yb &&& (255 : Int32)).toUInt32.toUInt16.toUInt32.toInt32), ((yc &&& (255 : Int32)).toUInt32.toUInt16.toUInt32.toInt32)] : List Int32)) E3_sx1 F3_sx1_value F3_sx1_coder V3_bt1 hcd hbd (S_cs.ext (own_extK KP3)) hcz (S_sf.ext (own_extK KP3)) rsf (Nat.le_of_ble_eq_true rfl) (i := 0) (Nat.le_of_ble_eq_true rfl) (j := (0 : Int32)) rfl (by decide) (by decide)) q10a q10c (g := (mkF m 78 #[.val (.int sel), .val (.int len), .val (.int ya), .val (.int yb), .val (.int yc), .val (.int (3 : Int32)), .val (.ref sx1), .val (.ref ty), .val (.ref co3), .val (.ref sx1), .val (.ref ty)] [(.int (0 : Int32)), (.ref sx1)])) rfl (by rw [hml]; rfl) (Steps.refl _) (argsL := [(.int (0 : Int32))]) (rest := []) (lenOf pd_11 rfl) rfl (by show 2 * 0 + _ ≤ _; exact Nat.le_of_eq rfl) (hb hby at_78) (fun _ _ => ⟨rfl, e7, (by decide : 8 + 0 ≤ _), (by decide : 52 + 0 ≤ _)⟩)
  dsimp only [Pt.U, Pt.locs, Pt.cells, Pt.slots] at X10 l10 y10 z10 st10 hQ10
  subst l10 y10 z10
  obtain ⟨rfl, rfl, e10⟩ := hQ10
  have N10 := Fr.app N7 (Fr.nil n0)
  have hd11 : ((ya &&& (255 : Int32)).toUInt32.toUInt16.toUInt32.toInt32) = ((ya &&& (255 : Int32)).toUInt32.toUInt16.toUInt32.toInt32) := rfl
  have hd12 : ¬ ((3 : Int32) < (2 : Int32)) := by decide
  obtain ⟨cq13, kq13, q13a, q13b, q13c⟩ := isOf hZ e10 E3_sx1
  obtain ⟨_, _, ⟨T13, L13, k13, n13⟩, -, X13, ⟨Lc13, hQ13, l13, y13, z13⟩, st13⟩ := X10.virtualBack hx (y := (⟨"java/lang/String", "charAt", "(I)C"⟩ : MethodName)) (z := (⟨"java/lang/String", "charAt", "(I)C"⟩ : MethodName)) hown (mvT hZ (hw _ (List.mem_of_getElem? (i := 86) rfl))) (mvT hZ (hw _ (List.mem_of_getElem? (i := 87) rfl))) (notFace_of_selects (args := #[]) (mvT hZ (hw _ (List.mem_of_getElem? (i := 89) rfl)))) (mvT hZ (hw _ (List.mem_of_getElem? (i := 89) rfl))) (mvT hZ (hw _ (List.mem_of_getElem? (i := 88) rfl))) (by decide) (StrChars.Road.chN (W := 0) hZ hch (kI := 4) (hw _ (List.mem_of_getElem? (i := 5) rfl)) (cs := ([((ya &&& (255 : Int32)).toUInt32.toUInt16.toUInt32.toInt32), ((yb &&& (255 : Int32)).toUInt32.toUInt16.toUInt32.toInt32), ((yc &&& (255 : Int32)).toUInt32.toUInt16.toUInt32.toInt32)] : List Int32)) E3_sx1 F3_sx1_value F3_sx1_coder V3_bt1 hcd hbd (S_cs.ext (own_extK KP3)) hcz (S_sf.ext (own_extK KP3)) rsf (Nat.le_of_ble_eq_true rfl) (i := 1) (Nat.le_of_ble_eq_true rfl) (j := (1 : Int32)) rfl (by decide) (by decide)) q13a q13c (g := (mkF m 101 #[.val (.int sel), .val (.int len), .val (.int ya), .val (.int yb), .val (.int yc), .val (.int (3 : Int32)), .val (.ref sx1), .val (.ref ty), .val (.ref co3), .val (.ref sx1), .val (.ref ty)] [(.int (1 : Int32)), (.ref sx1)])) rfl (by rw [hml]; rfl) (Steps.refl _) (argsL := [(.int (1 : Int32))]) (rest := []) (lenOf pd_11 rfl) rfl (by show 2 * 0 + _ ≤ _; exact Nat.le_of_eq rfl) (hb hby at_101) (fun _ _ => ⟨rfl, e10, (by decide : 8 + 0 ≤ _), (by decide : 52 + 0 ≤ _)⟩)
  dsimp only [Pt.U, Pt.locs, Pt.cells, Pt.slots] at X13 l13 y13 z13 st13 hQ13
  subst l13 y13 z13
  obtain ⟨rfl, rfl, e13⟩ := hQ13
  have N13 := Fr.app N10 (Fr.nil n0)
  have hd14 : ((yb &&& (255 : Int32)).toUInt32.toUInt16.toUInt32.toInt32) = ((yb &&& (255 : Int32)).toUInt32.toUInt16.toUInt32.toInt32) := rfl
  have hd15 : ¬ ((3 : Int32) < (3 : Int32)) := by decide
  obtain ⟨cq16, kq16, q16a, q16b, q16c⟩ := isOf hZ e13 E3_sx1
  obtain ⟨_, _, ⟨T16, L16, k16, n16⟩, -, X16, ⟨Lc16, hQ16, l16, y16, z16⟩, st16⟩ := X13.virtualBack hx (y := (⟨"java/lang/String", "charAt", "(I)C"⟩ : MethodName)) (z := (⟨"java/lang/String", "charAt", "(I)C"⟩ : MethodName)) hown (mvT hZ (hw _ (List.mem_of_getElem? (i := 86) rfl))) (mvT hZ (hw _ (List.mem_of_getElem? (i := 87) rfl))) (notFace_of_selects (args := #[]) (mvT hZ (hw _ (List.mem_of_getElem? (i := 89) rfl)))) (mvT hZ (hw _ (List.mem_of_getElem? (i := 89) rfl))) (mvT hZ (hw _ (List.mem_of_getElem? (i := 88) rfl))) (by decide) (StrChars.Road.chN (W := 0) hZ hch (kI := 4) (hw _ (List.mem_of_getElem? (i := 5) rfl)) (cs := ([((ya &&& (255 : Int32)).toUInt32.toUInt16.toUInt32.toInt32), ((yb &&& (255 : Int32)).toUInt32.toUInt16.toUInt32.toInt32), ((yc &&& (255 : Int32)).toUInt32.toUInt16.toUInt32.toInt32)] : List Int32)) E3_sx1 F3_sx1_value F3_sx1_coder V3_bt1 hcd hbd (S_cs.ext (own_extK KP3)) hcz (S_sf.ext (own_extK KP3)) rsf (Nat.le_of_ble_eq_true rfl) (i := 2) (Nat.le_of_ble_eq_true rfl) (j := (2 : Int32)) rfl (by decide) (by decide)) q16a q16c (g := (mkF m 124 #[.val (.int sel), .val (.int len), .val (.int ya), .val (.int yb), .val (.int yc), .val (.int (3 : Int32)), .val (.ref sx1), .val (.ref ty), .val (.ref co3), .val (.ref sx1), .val (.ref ty)] [(.int (2 : Int32)), (.ref sx1)])) rfl (by rw [hml]; rfl) (Steps.refl _) (argsL := [(.int (2 : Int32))]) (rest := []) (lenOf pd_11 rfl) rfl (by show 2 * 0 + _ ≤ _; exact Nat.le_of_eq rfl) (hb hby at_124) (fun _ _ => ⟨rfl, e13, (by decide : 8 + 0 ≤ _), (by decide : 52 + 0 ≤ _)⟩)
  dsimp only [Pt.U, Pt.locs, Pt.cells, Pt.slots] at X16 l16 y16 z16 st16 hQ16
  subst l16 y16 z16
  obtain ⟨rfl, rfl, e16⟩ := hQ16
  have N16 := Fr.app N13 (Fr.nil n0)
  have hd17 : ((yc &&& (255 : Int32)).toUInt32.toUInt16.toUInt32.toInt32) = ((yc &&& (255 : Int32)).toUInt32.toUInt16.toUInt32.toInt32) := rfl
  obtain ⟨cq18, kq18, q18a, q18b, q18c⟩ := isOf hZ e16 E3_sx1
  obtain ⟨_, _, ⟨T18, L18, k18, n18⟩, -, X18, ⟨Lc18, hQ18, l18, y18, z18⟩, st18⟩ := X16.virtualBack hx (y := (⟨"java/lang/String", "equals", "(Ljava/lang/Object;)Z"⟩ : MethodName)) (z := (⟨"java/lang/String", "equals", "(Ljava/lang/Object;)Z"⟩ : MethodName)) hown (mvT hZ (hw _ (List.mem_of_getElem? (i := 108) rfl))) (mvT hZ (hw _ (List.mem_of_getElem? (i := 109) rfl))) (notFace_of_selects (args := #[]) (mvT hZ (hw _ (List.mem_of_getElem? (i := 111) rfl)))) (mvT hZ (hw _ (List.mem_of_getElem? (i := 111) rfl))) (mvT hZ (hw _ (List.mem_of_getElem? (i := 110) rfl))) (by decide) (backOf (W := 0) (rmEq l Z a0 hw [] sx1 sx1  T3.heap n0 rfl) hZ (hw _ (List.mem_of_getElem? (i := 112) rfl)) (hw _ (List.mem_of_getElem? (i := 6) rfl)) (by decide) (by decide)) q18a q18c (g := (mkF m 143 #[.val (.int sel), .val (.int len), .val (.int ya), .val (.int yb), .val (.int yc), .val (.int (3 : Int32)), .val (.ref sx1), .val (.ref ty), .val (.ref co3), .val (.ref sx1), .val (.ref ty)] [(.ref sx1), (.ref sx1)])) rfl (by rw [hml]; rfl) (Steps.refl _) (argsL := [(.ref sx1)]) (rest := []) (lenOf pd_10 rfl) rfl (by show 2 * 0 + _ ≤ _; exact Nat.le_of_eq rfl) (hb hby at_143) (fun _ _ => ⟨rfl, e16, (by decide : 8 + 0 ≤ _), (by decide : 52 + 0 ≤ _)⟩)
  dsimp only [Pt.U, Pt.locs, Pt.cells, Pt.slots] at X18 l18 y18 z18 st18 hQ18
  subst l18 y18 z18
  obtain ⟨rfl, N18q, e18⟩ := hQ18
  have N18 := Fr.app N16 N18q
  have hd19 : ¬ ((1 : Int32) = (0 : Int32)) := by decide
  have k20 : ∀ tg, Steps p.tables e below (T18.setTop (mkF m 161 #[.val (.int sel), .val (.int len), .val (.int ya), .val (.int yb), .val (.int yc), .val (.int (3 : Int32)), .val (.ref sx1), .val (.ref ty), .val (.ref co3), .val (.ref sx1), .val (.ref ty)] [(.int (1 : Int32))])) tg → Steps p.tables e below (s₁.setTop (entryFrame m #[(.int sel), (.int len), (.int ya), (.int yb), (.int yc)] maxLocals)) tg := by
    intro tg kt
    refine k4 tg ?_
    refine st3.trans ?_
    show Steps p.tables e below (T3.setTop (mkF m 29 #[.val (.int sel), .val (.int len), .val (.int ya), .val (.int yb), .val (.int yc), .val (.int (3 : Int32)), .val (.ref sx1), .val (.ref ty), .unset, .unset, .unset] [(.ref co3)])) _
    refine XS.astore X3.here hx rfl (hb hby at_29) rfl rfl (l' := #[.val (.int sel), .val (.int len), .val (.int ya), .val (.int yb), .val (.int yc), .val (.int (3 : Int32)), .val (.ref sx1), .val (.ref ty), .val (.ref co3), .unset, .unset]) rfl ?_
    show Steps p.tables e below (T3.setTop (mkF m 31 #[.val (.int sel), .val (.int len), .val (.int ya), .val (.int yb), .val (.int yc), .val (.int (3 : Int32)), .val (.ref sx1), .val (.ref ty), .val (.ref co3), .unset, .unset] [])) _
    refine XS.aload X3.here hx rfl (hb hby at_31) rfl rfl ?_
    show Steps p.tables e below (T3.setTop (mkF m 33 #[.val (.int sel), .val (.int len), .val (.int ya), .val (.int yb), .val (.int yc), .val (.int (3 : Int32)), .val (.ref sx1), .val (.ref ty), .val (.ref co3), .unset, .unset] [(.ref co3)])) _
    refine st5.trans ?_
    show Steps p.tables e below (T5.setTop (mkF m 36 #[.val (.int sel), .val (.int len), .val (.int ya), .val (.int yb), .val (.int yc), .val (.int (3 : Int32)), .val (.ref sx1), .val (.ref ty), .val (.ref co3), .unset, .unset] [(.ref sx1)])) _
    refine XS.astore X5.here hx rfl (hb hby at_36) rfl rfl (l' := #[.val (.int sel), .val (.int len), .val (.int ya), .val (.int yb), .val (.int yc), .val (.int (3 : Int32)), .val (.ref sx1), .val (.ref ty), .val (.ref co3), .val (.ref sx1), .unset]) rfl ?_
    show Steps p.tables e below (T5.setTop (mkF m 38 #[.val (.int sel), .val (.int len), .val (.int ya), .val (.int yb), .val (.int yc), .val (.int (3 : Int32)), .val (.ref sx1), .val (.ref ty), .val (.ref co3), .val (.ref sx1), .unset] [])) _
    refine XS.aload X5.here hx rfl (hb hby at_38) rfl rfl ?_
    show Steps p.tables e below (T5.setTop (mkF m 40 #[.val (.int sel), .val (.int len), .val (.int ya), .val (.int yb), .val (.int yc), .val (.int (3 : Int32)), .val (.ref sx1), .val (.ref ty), .val (.ref co3), .val (.ref sx1), .unset] [(.ref co3)])) _
    refine st6.trans ?_
    show Steps p.tables e below (T6.setTop (mkF m 43 #[.val (.int sel), .val (.int len), .val (.int ya), .val (.int yb), .val (.int yc), .val (.int (3 : Int32)), .val (.ref sx1), .val (.ref ty), .val (.ref co3), .val (.ref sx1), .unset] [(.ref ty)])) _
    refine XS.astore X6.here hx rfl (hb hby at_43) rfl rfl (l' := #[.val (.int sel), .val (.int len), .val (.int ya), .val (.int yb), .val (.int yc), .val (.int (3 : Int32)), .val (.ref sx1), .val (.ref ty), .val (.ref co3), .val (.ref sx1), .val (.ref ty)]) rfl ?_
    show Steps p.tables e below (T6.setTop (mkF m 45 #[.val (.int sel), .val (.int len), .val (.int ya), .val (.int yb), .val (.int yc), .val (.int (3 : Int32)), .val (.ref sx1), .val (.ref ty), .val (.ref co3), .val (.ref sx1), .val (.ref ty)] [])) _
    refine XS.aload X6.here hx rfl (hb hby at_45) rfl rfl ?_
    show Steps p.tables e below (T6.setTop (mkF m 47 #[.val (.int sel), .val (.int len), .val (.int ya), .val (.int yb), .val (.int yc), .val (.int (3 : Int32)), .val (.ref sx1), .val (.ref ty), .val (.ref co3), .val (.ref sx1), .val (.ref ty)] [(.ref sx1)])) _
    refine XS.ifnullNo X6.here hx rfl (hb hby at_47) rfl ?_
    show Steps p.tables e below (T6.setTop (mkF m 50 #[.val (.int sel), .val (.int len), .val (.int ya), .val (.int yb), .val (.int yc), .val (.int (3 : Int32)), .val (.ref sx1), .val (.ref ty), .val (.ref co3), .val (.ref sx1), .val (.ref ty)] [])) _
    refine XS.aload X6.here hx rfl (hb hby at_50) rfl rfl ?_
    show Steps p.tables e below (T6.setTop (mkF m 52 #[.val (.int sel), .val (.int len), .val (.int ya), .val (.int yb), .val (.int yc), .val (.int (3 : Int32)), .val (.ref sx1), .val (.ref ty), .val (.ref co3), .val (.ref sx1), .val (.ref ty)] [(.ref ty)])) _
    refine XS.ifnonnullYes X6.here hx rfl (pc0 := 52) (pc' := 57) rfl (hb hby at_52) rfl (by decide) (by decide) ?_
    show Steps p.tables e below (T6.setTop (mkF m 57 #[.val (.int sel), .val (.int len), .val (.int ya), .val (.int yb), .val (.int yc), .val (.int (3 : Int32)), .val (.ref sx1), .val (.ref ty), .val (.ref co3), .val (.ref sx1), .val (.ref ty)] [])) _
    refine XS.aload X6.here hx rfl (hb hby at_57) rfl rfl ?_
    show Steps p.tables e below (T6.setTop (mkF m 59 #[.val (.int sel), .val (.int len), .val (.int ya), .val (.int yb), .val (.int yc), .val (.int (3 : Int32)), .val (.ref sx1), .val (.ref ty), .val (.ref co3), .val (.ref sx1), .val (.ref ty)] [(.ref sx1)])) _
    refine st7.trans ?_
    show Steps p.tables e below (T7.setTop (mkF m 62 #[.val (.int sel), .val (.int len), .val (.int ya), .val (.int yb), .val (.int yc), .val (.int (3 : Int32)), .val (.ref sx1), .val (.ref ty), .val (.ref co3), .val (.ref sx1), .val (.ref ty)] [(.int (3 : Int32))])) _
    refine XS.iload X7.here hx rfl (hb hby at_62) rfl ?_
    show Steps p.tables e below (T7.setTop (mkF m 64 #[.val (.int sel), .val (.int len), .val (.int ya), .val (.int yb), .val (.int yc), .val (.int (3 : Int32)), .val (.ref sx1), .val (.ref ty), .val (.ref co3), .val (.ref sx1), .val (.ref ty)] [(.int (3 : Int32)), (.int (3 : Int32))])) _
    refine XS.icmpYes X7.here hx rfl (pc0 := 64) (pc' := 69) rfl (hb hby at_64) rfl (teq hd8).1 (by decide) (by decide) ?_
    show Steps p.tables e below (T7.setTop (mkF m 69 #[.val (.int sel), .val (.int len), .val (.int ya), .val (.int yb), .val (.int yc), .val (.int (3 : Int32)), .val (.ref sx1), .val (.ref ty), .val (.ref co3), .val (.ref sx1), .val (.ref ty)] [])) _
    refine XS.iload X7.here hx rfl (hb hby at_69) rfl ?_
    show Steps p.tables e below (T7.setTop (mkF m 71 #[.val (.int sel), .val (.int len), .val (.int ya), .val (.int yb), .val (.int yc), .val (.int (3 : Int32)), .val (.ref sx1), .val (.ref ty), .val (.ref co3), .val (.ref sx1), .val (.ref ty)] [(.int (3 : Int32))])) _
    refine XS.iconst X7.here hx rfl (hb hby at_71) ?_
    show Steps p.tables e below (T7.setTop (mkF m 72 #[.val (.int sel), .val (.int len), .val (.int ya), .val (.int yb), .val (.int yc), .val (.int (3 : Int32)), .val (.ref sx1), .val (.ref ty), .val (.ref co3), .val (.ref sx1), .val (.ref ty)] [(.int (1 : Int32)), (.int (3 : Int32))])) _
    refine XS.icmpNo X7.here hx rfl (hb hby at_72) rfl (flt hd9).1 ?_
    show Steps p.tables e below (T7.setTop (mkF m 75 #[.val (.int sel), .val (.int len), .val (.int ya), .val (.int yb), .val (.int yc), .val (.int (3 : Int32)), .val (.ref sx1), .val (.ref ty), .val (.ref co3), .val (.ref sx1), .val (.ref ty)] [])) _
    refine XS.aload X7.here hx rfl (hb hby at_75) rfl rfl ?_
    show Steps p.tables e below (T7.setTop (mkF m 77 #[.val (.int sel), .val (.int len), .val (.int ya), .val (.int yb), .val (.int yc), .val (.int (3 : Int32)), .val (.ref sx1), .val (.ref ty), .val (.ref co3), .val (.ref sx1), .val (.ref ty)] [(.ref sx1)])) _
    refine XS.iconst X7.here hx rfl (hb hby at_77) ?_
    show Steps p.tables e below (T7.setTop (mkF m 78 #[.val (.int sel), .val (.int len), .val (.int ya), .val (.int yb), .val (.int yc), .val (.int (3 : Int32)), .val (.ref sx1), .val (.ref ty), .val (.ref co3), .val (.ref sx1), .val (.ref ty)] [(.int (0 : Int32)), (.ref sx1)])) _
    refine st10.trans ?_
    show Steps p.tables e below (T10.setTop (mkF m 81 #[.val (.int sel), .val (.int len), .val (.int ya), .val (.int yb), .val (.int yc), .val (.int (3 : Int32)), .val (.ref sx1), .val (.ref ty), .val (.ref co3), .val (.ref sx1), .val (.ref ty)] [(.int ((ya &&& (255 : Int32)).toUInt32.toUInt16.toUInt32.toInt32))])) _
    refine XS.iloadN X10.here hx rfl (hb hby at_81) rfl ?_
    show Steps p.tables e below (T10.setTop (mkF m 82 #[.val (.int sel), .val (.int len), .val (.int ya), .val (.int yb), .val (.int yc), .val (.int (3 : Int32)), .val (.ref sx1), .val (.ref ty), .val (.ref co3), .val (.ref sx1), .val (.ref ty)] [(.int ya), (.int ((ya &&& (255 : Int32)).toUInt32.toUInt16.toUInt32.toInt32))])) _
    refine XS.sipush X10.here hx rfl (hb hby at_82) ?_
    show Steps p.tables e below (T10.setTop (mkF m 85 #[.val (.int sel), .val (.int len), .val (.int ya), .val (.int yb), .val (.int yc), .val (.int (3 : Int32)), .val (.ref sx1), .val (.ref ty), .val (.ref co3), .val (.ref sx1), .val (.ref ty)] [(.int (255 : Int32)), (.int ya), (.int ((ya &&& (255 : Int32)).toUInt32.toUInt16.toUInt32.toInt32))])) _
    refine XS.iand X10.here hx rfl (hb hby at_85) rfl ?_
    show Steps p.tables e below (T10.setTop (mkF m 86 #[.val (.int sel), .val (.int len), .val (.int ya), .val (.int yb), .val (.int yc), .val (.int (3 : Int32)), .val (.ref sx1), .val (.ref ty), .val (.ref co3), .val (.ref sx1), .val (.ref ty)] [(.int (ya &&& (255 : Int32))), (.int ((ya &&& (255 : Int32)).toUInt32.toUInt16.toUInt32.toInt32))])) _
    refine XS.i2c X10.here hx rfl (hb hby at_86) rfl ?_
    show Steps p.tables e below (T10.setTop (mkF m 87 #[.val (.int sel), .val (.int len), .val (.int ya), .val (.int yb), .val (.int yc), .val (.int (3 : Int32)), .val (.ref sx1), .val (.ref ty), .val (.ref co3), .val (.ref sx1), .val (.ref ty)] [(.int ((ya &&& (255 : Int32)).toUInt32.toUInt16.toUInt32.toInt32)), (.int ((ya &&& (255 : Int32)).toUInt32.toUInt16.toUInt32.toInt32))])) _
    refine XS.icmpYes X10.here hx rfl (pc0 := 87) (pc' := 92) rfl (hb hby at_87) rfl (teq hd11).1 (by decide) (by decide) ?_
    show Steps p.tables e below (T10.setTop (mkF m 92 #[.val (.int sel), .val (.int len), .val (.int ya), .val (.int yb), .val (.int yc), .val (.int (3 : Int32)), .val (.ref sx1), .val (.ref ty), .val (.ref co3), .val (.ref sx1), .val (.ref ty)] [])) _
    refine XS.iload X10.here hx rfl (hb hby at_92) rfl ?_
    show Steps p.tables e below (T10.setTop (mkF m 94 #[.val (.int sel), .val (.int len), .val (.int ya), .val (.int yb), .val (.int yc), .val (.int (3 : Int32)), .val (.ref sx1), .val (.ref ty), .val (.ref co3), .val (.ref sx1), .val (.ref ty)] [(.int (3 : Int32))])) _
    refine XS.iconst X10.here hx rfl (hb hby at_94) ?_
    show Steps p.tables e below (T10.setTop (mkF m 95 #[.val (.int sel), .val (.int len), .val (.int ya), .val (.int yb), .val (.int yc), .val (.int (3 : Int32)), .val (.ref sx1), .val (.ref ty), .val (.ref co3), .val (.ref sx1), .val (.ref ty)] [(.int (2 : Int32)), (.int (3 : Int32))])) _
    refine XS.icmpNo X10.here hx rfl (hb hby at_95) rfl (flt hd12).1 ?_
    show Steps p.tables e below (T10.setTop (mkF m 98 #[.val (.int sel), .val (.int len), .val (.int ya), .val (.int yb), .val (.int yc), .val (.int (3 : Int32)), .val (.ref sx1), .val (.ref ty), .val (.ref co3), .val (.ref sx1), .val (.ref ty)] [])) _
    refine XS.aload X10.here hx rfl (hb hby at_98) rfl rfl ?_
    show Steps p.tables e below (T10.setTop (mkF m 100 #[.val (.int sel), .val (.int len), .val (.int ya), .val (.int yb), .val (.int yc), .val (.int (3 : Int32)), .val (.ref sx1), .val (.ref ty), .val (.ref co3), .val (.ref sx1), .val (.ref ty)] [(.ref sx1)])) _
    refine XS.iconst X10.here hx rfl (hb hby at_100) ?_
    show Steps p.tables e below (T10.setTop (mkF m 101 #[.val (.int sel), .val (.int len), .val (.int ya), .val (.int yb), .val (.int yc), .val (.int (3 : Int32)), .val (.ref sx1), .val (.ref ty), .val (.ref co3), .val (.ref sx1), .val (.ref ty)] [(.int (1 : Int32)), (.ref sx1)])) _
    refine st13.trans ?_
    show Steps p.tables e below (T13.setTop (mkF m 104 #[.val (.int sel), .val (.int len), .val (.int ya), .val (.int yb), .val (.int yc), .val (.int (3 : Int32)), .val (.ref sx1), .val (.ref ty), .val (.ref co3), .val (.ref sx1), .val (.ref ty)] [(.int ((yb &&& (255 : Int32)).toUInt32.toUInt16.toUInt32.toInt32))])) _
    refine XS.iloadN X13.here hx rfl (hb hby at_104) rfl ?_
    show Steps p.tables e below (T13.setTop (mkF m 105 #[.val (.int sel), .val (.int len), .val (.int ya), .val (.int yb), .val (.int yc), .val (.int (3 : Int32)), .val (.ref sx1), .val (.ref ty), .val (.ref co3), .val (.ref sx1), .val (.ref ty)] [(.int yb), (.int ((yb &&& (255 : Int32)).toUInt32.toUInt16.toUInt32.toInt32))])) _
    refine XS.sipush X13.here hx rfl (hb hby at_105) ?_
    show Steps p.tables e below (T13.setTop (mkF m 108 #[.val (.int sel), .val (.int len), .val (.int ya), .val (.int yb), .val (.int yc), .val (.int (3 : Int32)), .val (.ref sx1), .val (.ref ty), .val (.ref co3), .val (.ref sx1), .val (.ref ty)] [(.int (255 : Int32)), (.int yb), (.int ((yb &&& (255 : Int32)).toUInt32.toUInt16.toUInt32.toInt32))])) _
    refine XS.iand X13.here hx rfl (hb hby at_108) rfl ?_
    show Steps p.tables e below (T13.setTop (mkF m 109 #[.val (.int sel), .val (.int len), .val (.int ya), .val (.int yb), .val (.int yc), .val (.int (3 : Int32)), .val (.ref sx1), .val (.ref ty), .val (.ref co3), .val (.ref sx1), .val (.ref ty)] [(.int (yb &&& (255 : Int32))), (.int ((yb &&& (255 : Int32)).toUInt32.toUInt16.toUInt32.toInt32))])) _
    refine XS.i2c X13.here hx rfl (hb hby at_109) rfl ?_
    show Steps p.tables e below (T13.setTop (mkF m 110 #[.val (.int sel), .val (.int len), .val (.int ya), .val (.int yb), .val (.int yc), .val (.int (3 : Int32)), .val (.ref sx1), .val (.ref ty), .val (.ref co3), .val (.ref sx1), .val (.ref ty)] [(.int ((yb &&& (255 : Int32)).toUInt32.toUInt16.toUInt32.toInt32)), (.int ((yb &&& (255 : Int32)).toUInt32.toUInt16.toUInt32.toInt32))])) _
    refine XS.icmpYes X13.here hx rfl (pc0 := 110) (pc' := 115) rfl (hb hby at_110) rfl (teq hd14).1 (by decide) (by decide) ?_
    show Steps p.tables e below (T13.setTop (mkF m 115 #[.val (.int sel), .val (.int len), .val (.int ya), .val (.int yb), .val (.int yc), .val (.int (3 : Int32)), .val (.ref sx1), .val (.ref ty), .val (.ref co3), .val (.ref sx1), .val (.ref ty)] [])) _
    refine XS.iload X13.here hx rfl (hb hby at_115) rfl ?_
    show Steps p.tables e below (T13.setTop (mkF m 117 #[.val (.int sel), .val (.int len), .val (.int ya), .val (.int yb), .val (.int yc), .val (.int (3 : Int32)), .val (.ref sx1), .val (.ref ty), .val (.ref co3), .val (.ref sx1), .val (.ref ty)] [(.int (3 : Int32))])) _
    refine XS.iconst X13.here hx rfl (hb hby at_117) ?_
    show Steps p.tables e below (T13.setTop (mkF m 118 #[.val (.int sel), .val (.int len), .val (.int ya), .val (.int yb), .val (.int yc), .val (.int (3 : Int32)), .val (.ref sx1), .val (.ref ty), .val (.ref co3), .val (.ref sx1), .val (.ref ty)] [(.int (3 : Int32)), (.int (3 : Int32))])) _
    refine XS.icmpNo X13.here hx rfl (hb hby at_118) rfl (flt hd15).1 ?_
    show Steps p.tables e below (T13.setTop (mkF m 121 #[.val (.int sel), .val (.int len), .val (.int ya), .val (.int yb), .val (.int yc), .val (.int (3 : Int32)), .val (.ref sx1), .val (.ref ty), .val (.ref co3), .val (.ref sx1), .val (.ref ty)] [])) _
    refine XS.aload X13.here hx rfl (hb hby at_121) rfl rfl ?_
    show Steps p.tables e below (T13.setTop (mkF m 123 #[.val (.int sel), .val (.int len), .val (.int ya), .val (.int yb), .val (.int yc), .val (.int (3 : Int32)), .val (.ref sx1), .val (.ref ty), .val (.ref co3), .val (.ref sx1), .val (.ref ty)] [(.ref sx1)])) _
    refine XS.iconst X13.here hx rfl (hb hby at_123) ?_
    show Steps p.tables e below (T13.setTop (mkF m 124 #[.val (.int sel), .val (.int len), .val (.int ya), .val (.int yb), .val (.int yc), .val (.int (3 : Int32)), .val (.ref sx1), .val (.ref ty), .val (.ref co3), .val (.ref sx1), .val (.ref ty)] [(.int (2 : Int32)), (.ref sx1)])) _
    refine st16.trans ?_
    show Steps p.tables e below (T16.setTop (mkF m 127 #[.val (.int sel), .val (.int len), .val (.int ya), .val (.int yb), .val (.int yc), .val (.int (3 : Int32)), .val (.ref sx1), .val (.ref ty), .val (.ref co3), .val (.ref sx1), .val (.ref ty)] [(.int ((yc &&& (255 : Int32)).toUInt32.toUInt16.toUInt32.toInt32))])) _
    refine XS.iload X16.here hx rfl (hb hby at_127) rfl ?_
    show Steps p.tables e below (T16.setTop (mkF m 129 #[.val (.int sel), .val (.int len), .val (.int ya), .val (.int yb), .val (.int yc), .val (.int (3 : Int32)), .val (.ref sx1), .val (.ref ty), .val (.ref co3), .val (.ref sx1), .val (.ref ty)] [(.int yc), (.int ((yc &&& (255 : Int32)).toUInt32.toUInt16.toUInt32.toInt32))])) _
    refine XS.sipush X16.here hx rfl (hb hby at_129) ?_
    show Steps p.tables e below (T16.setTop (mkF m 132 #[.val (.int sel), .val (.int len), .val (.int ya), .val (.int yb), .val (.int yc), .val (.int (3 : Int32)), .val (.ref sx1), .val (.ref ty), .val (.ref co3), .val (.ref sx1), .val (.ref ty)] [(.int (255 : Int32)), (.int yc), (.int ((yc &&& (255 : Int32)).toUInt32.toUInt16.toUInt32.toInt32))])) _
    refine XS.iand X16.here hx rfl (hb hby at_132) rfl ?_
    show Steps p.tables e below (T16.setTop (mkF m 133 #[.val (.int sel), .val (.int len), .val (.int ya), .val (.int yb), .val (.int yc), .val (.int (3 : Int32)), .val (.ref sx1), .val (.ref ty), .val (.ref co3), .val (.ref sx1), .val (.ref ty)] [(.int (yc &&& (255 : Int32))), (.int ((yc &&& (255 : Int32)).toUInt32.toUInt16.toUInt32.toInt32))])) _
    refine XS.i2c X16.here hx rfl (hb hby at_133) rfl ?_
    show Steps p.tables e below (T16.setTop (mkF m 134 #[.val (.int sel), .val (.int len), .val (.int ya), .val (.int yb), .val (.int yc), .val (.int (3 : Int32)), .val (.ref sx1), .val (.ref ty), .val (.ref co3), .val (.ref sx1), .val (.ref ty)] [(.int ((yc &&& (255 : Int32)).toUInt32.toUInt16.toUInt32.toInt32)), (.int ((yc &&& (255 : Int32)).toUInt32.toUInt16.toUInt32.toInt32))])) _
    refine XS.icmpYes X16.here hx rfl (pc0 := 134) (pc' := 139) rfl (hb hby at_134) rfl (teq hd17).1 (by decide) (by decide) ?_
    show Steps p.tables e below (T16.setTop (mkF m 139 #[.val (.int sel), .val (.int len), .val (.int ya), .val (.int yb), .val (.int yc), .val (.int (3 : Int32)), .val (.ref sx1), .val (.ref ty), .val (.ref co3), .val (.ref sx1), .val (.ref ty)] [])) _
    refine XS.aload X16.here hx rfl (hb hby at_139) rfl rfl ?_
    show Steps p.tables e below (T16.setTop (mkF m 141 #[.val (.int sel), .val (.int len), .val (.int ya), .val (.int yb), .val (.int yc), .val (.int (3 : Int32)), .val (.ref sx1), .val (.ref ty), .val (.ref co3), .val (.ref sx1), .val (.ref ty)] [(.ref sx1)])) _
    refine XS.aload X16.here hx rfl (hb hby at_141) rfl rfl ?_
    show Steps p.tables e below (T16.setTop (mkF m 143 #[.val (.int sel), .val (.int len), .val (.int ya), .val (.int yb), .val (.int yc), .val (.int (3 : Int32)), .val (.ref sx1), .val (.ref ty), .val (.ref co3), .val (.ref sx1), .val (.ref ty)] [(.ref sx1), (.ref sx1)])) _
    refine st18.trans ?_
    show Steps p.tables e below (T18.setTop (mkF m 146 #[.val (.int sel), .val (.int len), .val (.int ya), .val (.int yb), .val (.int yc), .val (.int (3 : Int32)), .val (.ref sx1), .val (.ref ty), .val (.ref co3), .val (.ref sx1), .val (.ref ty)] [(.int (1 : Int32))])) _
    refine XS.ifNo X18.here hx rfl (hb hby at_146) rfl ((if0 _ _).trans (feq hd19).1) ?_
    show Steps p.tables e below (T18.setTop (mkF m 149 #[.val (.int sel), .val (.int len), .val (.int ya), .val (.int yb), .val (.int yc), .val (.int (3 : Int32)), .val (.ref sx1), .val (.ref ty), .val (.ref co3), .val (.ref sx1), .val (.ref ty)] [])) _
    refine XS.aload X18.here hx rfl (hb hby at_149) rfl rfl ?_
    show Steps p.tables e below (T18.setTop (mkF m 151 #[.val (.int sel), .val (.int len), .val (.int ya), .val (.int yb), .val (.int yc), .val (.int (3 : Int32)), .val (.ref sx1), .val (.ref ty), .val (.ref co3), .val (.ref sx1), .val (.ref ty)] [(.ref ty)])) _
    refine XS.aload X18.here hx rfl (hb hby at_151) rfl rfl ?_
    show Steps p.tables e below (T18.setTop (mkF m 153 #[.val (.int sel), .val (.int len), .val (.int ya), .val (.int yb), .val (.int yc), .val (.int (3 : Int32)), .val (.ref sx1), .val (.ref ty), .val (.ref co3), .val (.ref sx1), .val (.ref ty)] [(.ref ty), (.ref ty)])) _
    refine Jvm.RoadKit.acmp (g := (mkF m 153 #[.val (.int sel), .val (.int len), .val (.int ya), .val (.int yb), .val (.int yc), .val (.int (3 : Int32)), .val (.ref sx1), .val (.ref ty), .val (.ref co3), .val (.ref sx1), .val (.ref ty)] [(.ref ty), (.ref ty)])) X18 hx rfl rfl rfl (pc0 := 153) (pc' := 156) (same := true) rfl (hb hby at_153) rfl (decide_eq_true rfl) (by decide) (by decide) ?_
    show Steps p.tables e below (T18.setTop (mkF m 156 #[.val (.int sel), .val (.int len), .val (.int ya), .val (.int yb), .val (.int yc), .val (.int (3 : Int32)), .val (.ref sx1), .val (.ref ty), .val (.ref co3), .val (.ref sx1), .val (.ref ty)] [])) _
    refine XS.iconst X18.here hx rfl (hb hby at_156) ?_
    show Steps p.tables e below (T18.setTop (mkF m 157 #[.val (.int sel), .val (.int len), .val (.int ya), .val (.int yb), .val (.int yc), .val (.int (3 : Int32)), .val (.ref sx1), .val (.ref ty), .val (.ref co3), .val (.ref sx1), .val (.ref ty)] [(.int (1 : Int32))])) _
    refine XS.goto X18.here hx rfl (pc0 := 157) (pc' := 161) rfl (hb hby at_157) (by decide) (by decide) ?_
    show Steps p.tables e below (T18.setTop (mkF m 161 #[.val (.int sel), .val (.int len), .val (.int ya), .val (.int yb), .val (.int yc), .val (.int (3 : Int32)), .val (.ref sx1), .val (.ref ty), .val (.ref co3), .val (.ref sx1), .val (.ref ty)] [(.int (1 : Int32))])) _
    exact kt
  obtain ⟨fs, hr, hrun, hended, hRW⟩ := X18.leaveW hS (own_hk e18 (Nat.le_refl _)) (v := some (.int (1 : Int32))) (fun h => by rw [Bd.returns] at h; cases h)
  refine ⟨_, _, k20 _ ?_, hrun, hended, _, _, rfl, ?_, hRW.1, hRW.2.1, hRW.2.2.1, hRW.2.2.2.mono (by decide) (by decide)⟩
  · exact retN X18 hx (t := .boolean) Bd.returns (by simp) (hb hby at_161) hr
  · show QL n0 _ T18.heap _
    exact ⟨rfl, N18⟩
set_option maxRecDepth 65536 in
set_option maxHeartbeats 40000000 in
theorem comes_1 {Post : Tables → Env → Array Value → State → Outcome → State → Prop} (hpost : ∀ tb e args s v u, (limb_1_1.after args s (.returned v) u = true ∧ limb_1_2.after args s (.returned v) u = true ∧ True) → Jvm.D.FramedW s (.returned v) u (Jvm.fieldLocs frame_1_writes args s ++ Jvm.arrayLocs frame_1_arrays args s ++ Jvm.staticLocs frame_1_statics s) 24 3200 → Post tb e args s (.returned v) u) :
    ArmFor flags0 classFile x code maxLocals ret World_1 tables_1 room_1 Calls_1 rest_1 Pre_1 Post := by
  intro l hfl _ _ p e ha hc hk s m args below hf hA hF happ hP
  obtain ⟨hcalls, hrest, hpre⟩ := hP
  obtain ⟨-, -, -, hnamed, -, -, -, hat⟩ := (Spec.applies_iff hf).mp happ
  obtain ⟨hg, hn⟩ := and_e (Cond.before_iff.mp (show (Jvm.Cond.and given_1 narrow_1).before args s = true from hpre))
  obtain ⟨g1, g2⟩ := and_e hg
  obtain ⟨g3, g4⟩ := and_e g2
  obtain ⟨g5, g6⟩ := and_e g4
  obtain ⟨g7, g8⟩ := and_e g6
  obtain ⟨g9, g10⟩ := and_e g8
  obtain ⟨w0, w1, w2, w3, w4, rfl⟩ : ∃ w0 w1 w2 w3 w4 : Value, args = #[w0, w1, w2, w3, w4] := by
    have hs : args.size = 5 := by simpa [Cond.value, given_1] using g1
    obtain ⟨L⟩ := args
    match L, hs with
    | [w0, w1, w2, w3, w4], _ => exact ⟨w0, w1, w2, w3, w4, rfl⟩
  have hw := fun d (hd : d ∈ tables_1) => atoms_spec (ws := Jvm.Cond.code x code maxLocals ret :: tables_1) hat d (List.mem_cons_of_mem _ hd)
  have hfit : Fit s := fun {y c} hc i hi => by
    obtain ⟨ha, rfl⟩ := Array.getElem?_eq_some_iff.mp hc
    have q := List.all_eq_true.mp ((Array.all_eq_true_iff_forall_mem.mp hF) _ (Array.getElem_mem ha)) i (List.mem_range.mpr hi)
    simpa [Array.getElem?_eq_getElem hi] using q
  obtain ⟨hsets, hown0⟩ := atoms_of _ (rest_1_c_eq ▸ (show rest_1_c.before _ s = true from hrest))
  have hr0 := Cond.before_iff.mp hown0
  obtain ⟨i0, ei0⟩ := is_v g3
  obtain rfl : w0 = (.int i0) := Option.some.inj ei0
  obtain ⟨i1, ei1⟩ := is_v g5
  obtain rfl : w1 = (.int i1) := Option.some.inj ei1
  obtain ⟨i2, ei2⟩ := is_v g7
  obtain rfl : w2 = (.int i2) := Option.some.inj ei2
  obtain ⟨i3, ei3⟩ := is_v g9
  obtain rfl : w3 = (.int i3) := Option.some.inj ei3
  obtain ⟨i4, ei4⟩ := is_v g10
  obtain rfl : w4 = (.int i4) := Option.some.inj ei4
  obtain ⟨cz, ecz⟩ := is_v (Cond.before_iff.mp (hsets _ (List.mem_of_getElem? (i := 1) rfl)))
  have S_cs : Sta s s.heap "java/lang/String" "COMPACT_STRINGS" "Z" (.int cz) := Sta.start ecz (Or.inl (hsets _ (List.mem_of_getElem? (i := 0) rfl)))
  obtain ⟨fm, efm, rsf⟩ := isR_v (Cond.before_iff.mp (hsets _ (List.mem_of_getElem? (i := 8) rfl)))
  have S_sf : Sta s s.heap "jdk/internal/util/Preconditions" "SIOOBE_FORMATTER" "Ljava/util/function/BiFunction;" fm := Sta.start efm (Or.inl (hsets _ (List.mem_of_getElem? (i := 7) rfl)))
  have hcz : ¬ (cz = (0 : Int32)) := gotF (Cond.eq_ints ecz (Term.int_eval (0))) (not_v (Cond.before_iff.mp (hsets _ (List.mem_of_getElem? (i := 2) rfl))))
  have hCH : CHv s ELs s.vm s.heap := CHv.start (own_EW hw) (fun q hq => hcalls.1 q ((by decide : ∀ q ∈ ELs, q ∈ consts_1) q hq)) (hsets _ (List.mem_of_getElem? (i := 2) rfl)) (hw _ (List.mem_of_getElem? (i := 23) rfl)) (hw _ (List.mem_of_getElem? (i := 5) rfl))
  obtain ⟨nn1, nn2⟩ := and_e hn
  obtain ⟨v_TEXT, ev_TEXT⟩ := exa_v nn1
  have E_TEXT := Exa.start ev_TEXT nn1
  have S_TEXT := Sta.start ev_TEXT (Or.inr ⟨(hw _ (List.mem_of_getElem? (i := 39) rfl)), (hw _ (List.mem_of_getElem? (i := 40) rfl))⟩)
  obtain ⟨nn3, nn4⟩ := and_e nn2
  obtain ⟨v_REAL, ev_REAL⟩ := exa_v nn3
  have E_REAL := Exa.start ev_REAL nn3
  have S_REAL := Sta.start ev_REAL (Or.inr ⟨(hw _ (List.mem_of_getElem? (i := 39) rfl)), (hw _ (List.mem_of_getElem? (i := 115) rfl))⟩)
  obtain ⟨v_INTEGER, ev_INTEGER⟩ := exa_v nn4
  have E_INTEGER := Exa.start ev_INTEGER nn4
  have S_INTEGER := Sta.start ev_INTEGER (Or.inr ⟨(hw _ (List.mem_of_getElem? (i := 39) rfl)), (hw _ (List.mem_of_getElem? (i := 117) rfl))⟩)
  rcases own_and3 i1 with hn3 | hn3 | hn3 | hn3
  · obtain ⟨n, o, h1, h2, h3, _, L, rfl, ⟨rfl, N⟩, hq⟩ := rm0_0 l s _ hw tables_1 i0 i1 i2 i3 i4 cz fm v_TEXT v_INTEGER v_REAL s.heap s.heap.size (Nat.le_refl _) hn3 S_cs hcz S_sf rsf S_TEXT S_INTEGER S_REAL E_TEXT E_INTEGER E_REAL p e ha hc hk s m _ below hf ((Spec.applies_iff_loose hf).mp happ).1 ⟨rfl, State.Warmed39.refl s, rfl, hCH⟩ trivial
    exact ⟨n, _, h1, h2, h3, hpost _ _ _ _ _ _ ⟨Cond.after_iff.mpr rfl, Cond.after_iff.mpr (eq_i res_at (Term.int_eval (1)) rfl), trivial⟩ ⟨hq.1, hq.2.1, hq.2.2.1, (hq.2.2.2.sift fun y hy => Or.inr (N y hy)).mono (by decide) (by decide)⟩⟩
  · obtain ⟨n, o, h1, h2, h3, _, L, rfl, ⟨rfl, N⟩, hq⟩ := rm0_1 l s _ hw tables_1 i0 i1 i2 i3 i4 cz fm v_TEXT v_INTEGER v_REAL s.heap s.heap.size (Nat.le_refl _) hn3 S_cs hcz S_sf rsf S_TEXT S_INTEGER S_REAL E_TEXT E_INTEGER E_REAL p e ha hc hk s m _ below hf ((Spec.applies_iff_loose hf).mp happ).1 ⟨rfl, State.Warmed39.refl s, rfl⟩ trivial
    exact ⟨n, _, h1, h2, h3, hpost _ _ _ _ _ _ ⟨Cond.after_iff.mpr rfl, Cond.after_iff.mpr (eq_i res_at (Term.int_eval (1)) rfl), trivial⟩ ⟨hq.1, hq.2.1, hq.2.2.1, (hq.2.2.2.sift fun y hy => Or.inr (N y hy)).mono (by decide) (by decide)⟩⟩
  · obtain ⟨n, o, h1, h2, h3, _, L, rfl, ⟨rfl, N⟩, hq⟩ := rm0_2 l s _ hw tables_1 i0 i1 i2 i3 i4 cz fm v_TEXT v_INTEGER v_REAL s.heap s.heap.size (Nat.le_refl _) hn3 S_cs hcz S_sf rsf S_TEXT S_INTEGER S_REAL E_TEXT E_INTEGER E_REAL p e ha hc hk s m _ below hf ((Spec.applies_iff_loose hf).mp happ).1 ⟨rfl, State.Warmed39.refl s, rfl⟩ trivial
    exact ⟨n, _, h1, h2, h3, hpost _ _ _ _ _ _ ⟨Cond.after_iff.mpr rfl, Cond.after_iff.mpr (eq_i res_at (Term.int_eval (1)) rfl), trivial⟩ ⟨hq.1, hq.2.1, hq.2.2.1, (hq.2.2.2.sift fun y hy => Or.inr (N y hy)).mono (by decide) (by decide)⟩⟩
  · obtain ⟨n, o, h1, h2, h3, _, L, rfl, ⟨rfl, N⟩, hq⟩ := rm0_3 l s _ hw tables_1 i0 i1 i2 i3 i4 cz fm v_TEXT v_INTEGER v_REAL s.heap s.heap.size (Nat.le_refl _) hn3 S_cs hcz S_sf rsf S_TEXT S_INTEGER S_REAL E_TEXT E_INTEGER E_REAL p e ha hc hk s m _ below hf ((Spec.applies_iff_loose hf).mp happ).1 ⟨rfl, State.Warmed39.refl s, rfl⟩ trivial
    exact ⟨n, _, h1, h2, h3, hpost _ _ _ _ _ _ ⟨Cond.after_iff.mpr rfl, Cond.after_iff.mpr (eq_i res_at (Term.int_eval (1)) rfl), trivial⟩ ⟨hq.1, hq.2.1, hq.2.2.1, (hq.2.2.2.sift fun y hy => Or.inr (N y hy)).mono (by decide) (by decide)⟩⟩
theorem main_1_1 : Claimed_1_1 := comes_1 fun _ _ _ _ _ _ h hF => ⟨h.1, hF⟩
theorem main_1_2 : Claimed_1_2 := comes_1 fun _ _ _ _ _ _ h hF => ⟨h.2.1, hF⟩
end Jvm.Pilot.@@N@@
namespace Jvm.Pilot.@@N@@
open Jvm Jvm.ClassFile Sem Op Lib Jvm.Free Jvm.Stand Jvm.Pilot.@@N@@.Jvm.D
/-! MADE BY PROGRAM (witnessworld.py) out of the Statement's table words and the real class files: 23 classes; the members and pool entries that the words name. The judged class is class 1, her method 3. -/
namespace start1
open Jvm.ClassFile
def u (s : String) : CpInfo := .utf8 (stringToUtf16 s)
/-- a pool by its gaps: so many unusable entries, then the entry; so many at the end -/
def gap : Nat → List CpInfo → List CpInfo
  | 0, r => r
  | n + 1, r => .unusable :: gap n r
def poolList (es : List (Nat × CpInfo)) (last : Nat) : List CpInfo := es.foldr (fun e r => gap e.1 (e.2 :: r)) (gap last [])
def pool (es : List (Nat × CpInfo)) (last : Nat) : Array CpInfo := ⟨poolList es last⟩
def fileOf (pool : Array CpInfo) (this : Nat) (attrs : Array Attribute := #[]) (ms : Array MethodInfo := #[]) (fl : Nat := 33) (sup : Nat := 0) (ifs : Array Nat := #[]) (fds : Array FieldInfo := #[]) : ClassFile where
  minorVersion := 0
  majorVersion := 65
  constantPool := pool
  accessFlags := fl
  thisClass := this
  superClass := sup
  interfaces := ifs
  fields := fds
  methods := ms
  attributes := attrs
def plain (name : String) (sup : Option ClassId) : Class where
  name := name
  kind := .ordinary
  loader := none
  accessFlags := 33
  super := sup
  interfaces := #[]
  cf := none
  fields := #[]
  methods := #[]
  instanceTypes := #[]
  staticTypes := #[]
  resolved := #[]
  callSites := []
  init := .initialized
  statics := none
  mirror := none

def pool0 : Array CpInfo := pool [(5, u "<init>"), (0, u "()V"), (1, .class_ 10), (1, u "java/lang/Object")] 113

def k0c0 : Code := { maxStack := 0, maxLocals := 1, code := object_method_1_code, exceptionTable := #[], attributes := #[] }
def k0m0 : Method := { name := "<init>", desc := "()V", sig := { parameters := [], returnType := none }, accessFlags := 1, code := some k0c0 }
/-- java/lang/Object -/
def k0 : Class := { plain "java/lang/Object" none with
  accessFlags := 33
  interfaces := #[]
  cf := some (fileOf pool0 8 #[] #[{ accessFlags := 1, nameIndex := 5, descriptorIndex := 6, attributes := #[] }] 33 0 #[] #[])
  fields := #[]
  methods := #[k0m0]
  instanceTypes := #[]
  staticTypes := #[]
  resolved := Array.replicate 124 none
  statics := none }

def pool1 : Array CpInfo := pool [(2, .class_ 4), (1, u "java/lang/Object"), (0, u "<init>"), (0, u "()V"), (0, .class_ 8), (0, u "java/lang/String"), (0, .methodref 7 10), (0, .nameAndType 5 11), (0, u "([C)V"), (0, .integer 2147483647), (0, .fieldref 14 15), (0, .class_ 16), (0, .nameAndType 17 18), (0, u "com/example/lifetable/lifetable/output/Column$Type"), (0, u "TEXT"), (0, u "Lcom/example/lifetable/lifetable/output/Column$Type;"), (0, .fieldref 14 20), (0, .nameAndType 21 18), (0, u "INTEGER"), (0, .fieldref 14 23), (0, .nameAndType 24 18), (0, u "REAL"), (0, .methodref 26 27), (0, .class_ 28), (0, .nameAndType 29 30), (0, u "com/example/lifetable/lifetable/output/ColumnOfPinLaw"), (0, u "draw"), (0, u "(IIII)Ljava/lang/String;"), (0, .methodref 26 32), (0, .nameAndType 33 34), (0, u "pick"), (0, u "(I)Lcom/example/lifetable/lifetable/output/Column$Type;"), (0, .methodref 36 37), (0, .class_ 38), (0, .nameAndType 39 40), (0, u "com/example/lifetable/lifetable/output/Column"), (0, u "of"), (0, u "(Ljava/lang/String;Lcom/example/lifetable/lifetable/output/Column$Type;)Lcom/example/lifetable/lifetable/output/Column;"), (0, .methodref 36 42), (0, .nameAndType 43 44), (0, u "name"), (0, u "()Ljava/lang/String;"), (0, .methodref 36 46), (0, .nameAndType 47 48), (0, u "type"), (0, u "()Lcom/example/lifetable/lifetable/output/Column$Type;"), (0, .methodref 7 50), (0, .nameAndType 51 52), (0, u "length"), (0, u "()I"), (0, .methodref 7 54), (0, .nameAndType 55 56), (0, u "charAt"), (0, u "(I)C"), (0, .methodref 7 58), (0, .nameAndType 59 60), (0, u "equals"), (0, u "(Ljava/lang/Object;)Z"), (3, u "law"), (0, u "(IIIII)Z")] 4

def k1m0 : Method := { name := "<init>", desc := "()V", sig := { parameters := [], returnType := none }, accessFlags := 1, code := none }
def k1c1 : Code := { maxStack := 6, maxLocals := 7, code := method_2_code, exceptionTable := #[], attributes := #[] }
def k1m1 : Method := { name := "draw", desc := "(IIII)Ljava/lang/String;", sig := { parameters := [.int, .int, .int, .int], returnType := some (.object "java/lang/String") }, accessFlags := 10, code := some k1c1 }
def k1c2 : Code := { maxStack := 2, maxLocals := 2, code := method_3_code, exceptionTable := #[], attributes := #[] }
def k1m2 : Method := { name := "pick", desc := "(I)Lcom/example/lifetable/lifetable/output/Column$Type;", sig := { parameters := [.int], returnType := some (.object "com/example/lifetable/lifetable/output/Column$Type") }, accessFlags := 10, code := some k1c2 }
def k1c3 : Code := { maxStack := 4, maxLocals := 11, code := code, exceptionTable := #[], attributes := #[] }
def k1m3 : Method := { name := "law", desc := "(IIIII)Z", sig := { parameters := [.int, .int, .int, .int, .int], returnType := some .boolean }, accessFlags := 9, code := some k1c3 }
/-- com/example/lifetable/lifetable/output/ColumnOfPinLaw -/
def k1 : Class := { plain "com/example/lifetable/lifetable/output/ColumnOfPinLaw" (some 0) with
  accessFlags := 49
  interfaces := #[]
  cf := some (fileOf pool1 26 #[] #[{ accessFlags := 1, nameIndex := 5, descriptorIndex := 6, attributes := #[] }, { accessFlags := 10, nameIndex := 29, descriptorIndex := 30, attributes := #[] }, { accessFlags := 10, nameIndex := 33, descriptorIndex := 34, attributes := #[] }, { accessFlags := 9, nameIndex := 64, descriptorIndex := 65, attributes := #[] }] 49 2 #[] #[])
  fields := #[]
  methods := #[k1m0, k1m1, k1m2, k1m3]
  instanceTypes := #[]
  staticTypes := #[]
  resolved := Array.replicate 70 none
  statics := none }

def pool2 : Array CpInfo := pool [(1, .class_ 2), (0, u "java/io/Serializable"), (0, .class_ 4), (0, u "java/lang/Object")] 2

/-- java/io/Serializable -/
def k2 : Class := { plain "java/io/Serializable" (some 0) with
  accessFlags := 1537
  interfaces := #[]
  cf := some (fileOf pool2 1 #[] #[] 1537 3 #[] #[])
  fields := #[]
  methods := #[]
  instanceTypes := #[]
  staticTypes := #[]
  resolved := Array.replicate 7 none
  statics := none }

def pool3 : Array CpInfo := pool [(1, .class_ 2), (0, u "java/lang/Comparable"), (0, .class_ 4), (0, u "java/lang/Object")] 7

/-- java/lang/Comparable -/
def k3 : Class := { plain "java/lang/Comparable" (some 0) with
  accessFlags := 1537
  interfaces := #[]
  cf := some (fileOf pool3 1 #[] #[] 1537 3 #[] #[])
  fields := #[]
  methods := #[]
  instanceTypes := #[]
  staticTypes := #[]
  resolved := Array.replicate 12 none
  statics := none }

def pool4 : Array CpInfo := pool [(2, .class_ 4), (1, u "java/lang/CharSequence"), (42, .class_ 48), (0, u "java/lang/CharSequence$1CodePointIterator"), (10, .class_ 60), (0, u "java/lang/CharSequence$1CharIterator"), (5, .class_ 67), (0, u "java/lang/Object")] 63

/-- java/lang/CharSequence -/
def k4 : Class := { plain "java/lang/CharSequence" (some 0) with
  accessFlags := 1537
  interfaces := #[]
  cf := some (fileOf pool4 2 #[.nestMembers #[47, 59]] #[] 1537 66 #[] #[])
  fields := #[]
  methods := #[]
  instanceTypes := #[]
  staticTypes := #[]
  resolved := Array.replicate 131 none
  statics := none }

def pool5 : Array CpInfo := pool [(1, .class_ 2), (0, u "java/lang/constant/Constable"), (0, .class_ 4), (0, u "java/lang/Object")] 6

/-- java/lang/constant/Constable -/
def k5 : Class := { plain "java/lang/constant/Constable" (some 0) with
  accessFlags := 1537
  interfaces := #[]
  cf := some (fileOf pool5 1 #[] #[] 1537 3 #[] #[])
  fields := #[]
  methods := #[]
  instanceTypes := #[]
  staticTypes := #[]
  resolved := Array.replicate 11 none
  statics := none }

def pool6 : Array CpInfo := pool [(1, .class_ 2), (0, u "java/lang/constant/ConstantDesc"), (0, .class_ 4), (0, u "java/lang/Object")] 32

/-- java/lang/constant/ConstantDesc -/
def k6 : Class := { plain "java/lang/constant/ConstantDesc" (some 0) with
  accessFlags := 1537
  interfaces := #[]
  cf := some (fileOf pool6 1 #[] #[] 1537 3 #[] #[])
  fields := #[]
  methods := #[]
  instanceTypes := #[]
  staticTypes := #[]
  resolved := Array.replicate 37 none
  statics := none }

def pool7 : Array CpInfo := pool [(1, .methodref 2 3), (0, .class_ 4), (0, .nameAndType 5 6), (0, u "java/lang/Object"), (0, u "<init>"), (0, u "()V"), (0, .string 8), (0, u ""), (0, .fieldref 10 11), (0, .class_ 12), (0, .nameAndType 13 14), (0, u "java/lang/String"), (0, u "value"), (0, u "[B"), (0, .fieldref 10 16), (0, .nameAndType 17 18), (0, u "coder"), (0, u "B"), (2, u "hash"), (0, u "I"), (2, u "hashIsZero"), (0, u "Z"), (0, .methodref 10 28), (0, .nameAndType 5 29), (0, u "([CIILjava/lang/Void;)V"), (8, .fieldref 10 39), (0, .nameAndType 40 26), (0, u "COMPACT_STRINGS"), (1, .class_ 44), (1, u "java/lang/StringUTF16"), (0, u "compress"), (1, .methodref 42 48), (0, .nameAndType 49 50), (0, u "coderFromArrayLen"), (0, u "([BI)B"), (56, .class_ 109), (1, u "java/lang/StringLatin1"), (32, u "()Z"), (34, .methodref 42 178), (0, .nameAndType 45 179), (0, u "([CII)[B"), (154, u "()I"), (0, .methodref 10 336), (0, .nameAndType 17 337), (0, u "()B"), (25, u "([BI)C"), (27, u "(II)V"), (35, u "(I)C"), (64, .methodref 10 493), (0, .nameAndType 494 142), (0, u "isLatin1"), (0, .methodref 107 496), (0, .nameAndType 497 363), (0, u "charAt"), (3, u "checkIndex"), (5, u "length"), (35, u "equals"), (29, u "(Ljava/lang/Object;)Z"), (1, .class_ 576), (0, u "java/lang/CharSequence"), (22, u "CASE_INSENSITIVE_ORDER"), (0, u "Ljava/util/Comparator;"), (409, u "([C)V"), (42, .fieldref 1054 1055), (0, .class_ 1056), (0, .nameAndType 1057 1058), (0, u "jdk/internal/util/Preconditions"), (0, u "SIOOBE_FORMATTER"), (0, u "Ljava/util/function/BiFunction;"), (0, .methodref 1054 1060), (0, .nameAndType 501 1061), (0, u "(IILjava/util/function/BiFunction;)I"), (39, u "serialPersistentFields"), (0, u "[Ljava/io/ObjectStreamField;"), (0, .class_ 1104), (0, u "java/lang/String$CaseInsensitiveComparator"), (1, .class_ 1107), (0, u "java/io/Serializable"), (0, .class_ 1109), (0, u "java/lang/Comparable"), (0, .class_ 1111), (0, u "java/lang/constant/Constable"), (0, .class_ 1113), (0, u "java/lang/constant/ConstantDesc"), (2, u "serialVersionUID"), (0, u "J"), (3, u "REPL"), (0, u "C"), (2, u "LATIN1"), (1, u "UTF16")] 323

def k7m0 : Method := { name := "<init>", desc := "()V", sig := { parameters := [], returnType := none }, accessFlags := 1, code := none }
def k7c1 : Code := { maxStack := 5, maxLocals := 2, code := jdk_42_method_3_code, exceptionTable := #[], attributes := #[] }
def k7m1 : Method := { name := "<init>", desc := "([C)V", sig := { parameters := [(.array .char)], returnType := none }, accessFlags := 1, code := some k7c1 }
def k7c2 : Code := { maxStack := 2, maxLocals := 1, code := jdk_42_method_54_code, exceptionTable := #[], attributes := #[] }
def k7m2 : Method := { name := "length", desc := "()I", sig := { parameters := [], returnType := some .int }, accessFlags := 1, code := some k7c2 }
def k7c3 : Code := { maxStack := 2, maxLocals := 2, code := jdk_42_method_56_code, exceptionTable := #[], attributes := #[] }
def k7m3 : Method := { name := "charAt", desc := "(I)C", sig := { parameters := [.int], returnType := some .char }, accessFlags := 1, code := some k7c3 }
def k7c4 : Code := { maxStack := 2, maxLocals := 3, code := jdk_42_method_66_code, exceptionTable := #[], attributes := #[] }
def k7m4 : Method := { name := "equals", desc := "(Ljava/lang/Object;)Z", sig := { parameters := [(.object "java/lang/Object")], returnType := some .boolean }, accessFlags := 1, code := some k7c4 }
def k7c5 : Code := { maxStack := 4, maxLocals := 6, code := jdk_42_method_149_code, exceptionTable := #[], attributes := #[] }
def k7m5 : Method := { name := "<init>", desc := "([CIILjava/lang/Void;)V", sig := { parameters := [(.array .char), .int, .int, (.object "java/lang/Void")], returnType := none }, accessFlags := 2, code := some k7c5 }
def k7c6 : Code := { maxStack := 1, maxLocals := 1, code := jdk_42_method_152_code, exceptionTable := #[], attributes := #[] }
def k7m6 : Method := { name := "coder", desc := "()B", sig := { parameters := [], returnType := some .byte }, accessFlags := 0, code := some k7c6 }
def k7c7 : Code := { maxStack := 1, maxLocals := 1, code := jdk_42_method_154_code, exceptionTable := #[], attributes := #[] }
def k7m7 : Method := { name := "isLatin1", desc := "()Z", sig := { parameters := [], returnType := some .boolean }, accessFlags := 0, code := some k7c7 }
def k7c8 : Code := { maxStack := 3, maxLocals := 2, code := jdk_42_method_155_code, exceptionTable := #[], attributes := #[] }
def k7m8 : Method := { name := "checkIndex", desc := "(II)V", sig := { parameters := [.int, .int], returnType := none }, accessFlags := 8, code := some k7c8 }
/-- java/lang/String -/
def k7 : Class := { plain "java/lang/String" (some 0) with
  accessFlags := 49
  interfaces := #[2, 3, 4, 5, 6]
  cf := some (fileOf pool7 10 #[.nestMembers #[1103]] #[{ accessFlags := 1, nameIndex := 5, descriptorIndex := 6, attributes := #[] }, { accessFlags := 1, nameIndex := 5, descriptorIndex := 1010, attributes := #[] }, { accessFlags := 1, nameIndex := 507, descriptorIndex := 334, attributes := #[] }, { accessFlags := 1, nameIndex := 497, descriptorIndex := 427, attributes := #[] }, { accessFlags := 1, nameIndex := 543, descriptorIndex := 573, attributes := #[] }, { accessFlags := 2, nameIndex := 5, descriptorIndex := 29, attributes := #[] }, { accessFlags := 0, nameIndex := 17, descriptorIndex := 337, attributes := #[] }, { accessFlags := 0, nameIndex := 494, descriptorIndex := 142, attributes := #[] }, { accessFlags := 8, nameIndex := 501, descriptorIndex := 391, attributes := #[] }] 49 2 #[1106, 1108, 575, 1110, 1112] #[{ accessFlags := 18, nameIndex := 13, descriptorIndex := 14, attributes := #[] }, { accessFlags := 18, nameIndex := 17, descriptorIndex := 18, attributes := #[] }, { accessFlags := 2, nameIndex := 21, descriptorIndex := 22, attributes := #[] }, { accessFlags := 2, nameIndex := 25, descriptorIndex := 26, attributes := #[] }, { accessFlags := 26, nameIndex := 1116, descriptorIndex := 1117, attributes := #[] }, { accessFlags := 24, nameIndex := 40, descriptorIndex := 26, attributes := #[] }, { accessFlags := 26, nameIndex := 1101, descriptorIndex := 1102, attributes := #[] }, { accessFlags := 26, nameIndex := 1121, descriptorIndex := 1122, attributes := #[] }, { accessFlags := 25, nameIndex := 599, descriptorIndex := 600, attributes := #[] }, { accessFlags := 24, nameIndex := 1125, descriptorIndex := 18, attributes := #[] }, { accessFlags := 24, nameIndex := 1127, descriptorIndex := 18, attributes := #[] }])
  fields := #[{ name := "value", type := (.array .byte), accessFlags := 18, slot := 0, constantValue := 0 }, { name := "coder", type := .byte, accessFlags := 18, slot := 1, constantValue := 0 }, { name := "hash", type := .int, accessFlags := 2, slot := 2, constantValue := 0 }, { name := "hashIsZero", type := .boolean, accessFlags := 2, slot := 3, constantValue := 0 }, { name := "serialVersionUID", type := .long, accessFlags := 26, slot := 0, constantValue := 0 }, { name := "COMPACT_STRINGS", type := .boolean, accessFlags := 24, slot := 1, constantValue := 0 }, { name := "serialPersistentFields", type := (.array (.object "java/io/ObjectStreamField")), accessFlags := 26, slot := 2, constantValue := 0 }, { name := "REPL", type := .char, accessFlags := 26, slot := 3, constantValue := 0 }, { name := "CASE_INSENSITIVE_ORDER", type := (.object "java/util/Comparator"), accessFlags := 25, slot := 4, constantValue := 0 }, { name := "LATIN1", type := .byte, accessFlags := 24, slot := 5, constantValue := 0 }, { name := "UTF16", type := .byte, accessFlags := 24, slot := 6, constantValue := 0 }]
  methods := #[k7m0, k7m1, k7m2, k7m3, k7m4, k7m5, k7m6, k7m7, k7m8]
  instanceTypes := #[(.array .byte), .byte, .int, .boolean]
  staticTypes := #[.long, .boolean, (.array (.object "java/io/ObjectStreamField")), .char, (.object "java/util/Comparator"), .byte, .byte]
  resolved := Array.replicate 1451 none
  statics := some 0 }

def pool8 : Array CpInfo := pool [(6, .class_ 8), (1, u "java/lang/Object"), (0, u "<init>"), (0, u "()V"), (1, .class_ 14), (1, u "java/lang/StringUTF16"), (31, u "$assertionsDisabled"), (0, u "Z"), (13, u "HI_BYTE_SHIFT"), (0, u "I"), (2, u "LO_BYTE_SHIFT"), (49, .methodref 12 116), (0, .nameAndType 117 118), (0, u "compress"), (0, u "([CI[BII)I"), (3, u "([CII)[B"), (138, u "coderFromArrayLen"), (0, u "([BI)B"), (106, .class_ 371), (1, u "java/lang/StringUTF16$LinesSpliterator"), (58, u "MAX_LENGTH"), (196, .class_ 628), (0, u "java/lang/StringUTF16$CodePointsSpliterator"), (0, .class_ 630), (0, u "java/lang/StringUTF16$CharsSpliterator")] 4

def k8m0 : Method := { name := "<init>", desc := "()V", sig := { parameters := [], returnType := none }, accessFlags := 0, code := none }
def k8c1 : Code := { maxStack := 2, maxLocals := 2, code := jdk_52_method_15_code, exceptionTable := #[], attributes := #[] }
def k8m1 : Method := { name := "coderFromArrayLen", desc := "([BI)B", sig := { parameters := [(.array .byte), .int], returnType := some .byte }, accessFlags := 8, code := some k8c1 }
def k8c2 : Code := { maxStack := 5, maxLocals := 6, code := jdk_52_method_16_code, exceptionTable := #[], attributes := #[] }
def k8m2 : Method := { name := "compress", desc := "([CII)[B", sig := { parameters := [(.array .char), .int, .int], returnType := some (.array .byte) }, accessFlags := 9, code := some k8c2 }
def k8c3 : Code := { maxStack := 3, maxLocals := 7, code := jdk_52_method_21_code, exceptionTable := #[], attributes := #[] }
def k8m3 : Method := { name := "compress", desc := "([CI[BII)I", sig := { parameters := [(.array .char), .int, (.array .byte), .int, .int], returnType := some .int }, accessFlags := 9, code := some k8c3 }
/-- java/lang/StringUTF16 -/
def k8 : Class := { plain "java/lang/StringUTF16" (some 0) with
  accessFlags := 48
  interfaces := #[]
  cf := some (fileOf pool8 12 #[.nestMembers #[627, 629, 369]] #[{ accessFlags := 0, nameIndex := 9, descriptorIndex := 10, attributes := #[] }, { accessFlags := 8, nameIndex := 261, descriptorIndex := 262, attributes := #[] }, { accessFlags := 9, nameIndex := 117, descriptorIndex := 122, attributes := #[] }, { accessFlags := 9, nameIndex := 117, descriptorIndex := 118, attributes := #[] }] 48 6 #[] #[{ accessFlags := 26, nameIndex := 61, descriptorIndex := 62, attributes := #[] }, { accessFlags := 26, nameIndex := 65, descriptorIndex := 62, attributes := #[] }, { accessFlags := 24, nameIndex := 430, descriptorIndex := 62, attributes := #[] }, { accessFlags := 4120, nameIndex := 46, descriptorIndex := 47, attributes := #[] }])
  fields := #[{ name := "HI_BYTE_SHIFT", type := .int, accessFlags := 26, slot := 0, constantValue := 0 }, { name := "LO_BYTE_SHIFT", type := .int, accessFlags := 26, slot := 1, constantValue := 0 }, { name := "MAX_LENGTH", type := .int, accessFlags := 24, slot := 2, constantValue := 0 }, { name := "$assertionsDisabled", type := .boolean, accessFlags := 4120, slot := 3, constantValue := 0 }]
  methods := #[k8m0, k8m1, k8m2, k8m3]
  instanceTypes := #[]
  staticTypes := #[.int, .int, .int, .boolean]
  resolved := Array.replicate 635 none
  statics := none }

def pool9 : Array CpInfo := pool [(2, .class_ 4), (1, u "java/lang/Enum"), (0, u "name"), (0, u "Ljava/lang/String;"), (2, u "ordinal"), (0, u "I"), (1, .class_ 14), (1, u "java/lang/Object"), (4, u "hash"), (86, .class_ 108), (1, u "java/lang/Enum$EnumDesc"), (2, .class_ 112), (0, u "java/lang/constant/Constable"), (0, .class_ 114), (0, u "java/lang/Comparable"), (0, .class_ 116), (0, u "java/io/Serializable")] 87

/-- java/lang/Enum -/
def k9 : Class := { plain "java/lang/Enum" (some 0) with
  accessFlags := 1057
  interfaces := #[5, 3, 2]
  cf := some (fileOf pool9 2 #[.nestMembers #[106]] #[] 1057 12 #[111, 113, 115] #[{ accessFlags := 18, nameIndex := 5, descriptorIndex := 6, attributes := #[] }, { accessFlags := 18, nameIndex := 9, descriptorIndex := 10, attributes := #[] }, { accessFlags := 2, nameIndex := 19, descriptorIndex := 10, attributes := #[] }])
  fields := #[{ name := "name", type := (.object "java/lang/String"), accessFlags := 18, slot := 0, constantValue := 0 }, { name := "ordinal", type := .int, accessFlags := 18, slot := 1, constantValue := 0 }, { name := "hash", type := .int, accessFlags := 2, slot := 2, constantValue := 0 }]
  methods := #[]
  instanceTypes := #[(.object "java/lang/String"), .int, .int]
  staticTypes := #[]
  resolved := Array.replicate 204 none
  statics := none }

def pool10 : Array CpInfo := pool [(1, .class_ 2), (0, u "com/example/lifetable/lifetable/output/Column$Type"), (2, u "TEXT"), (0, u "Lcom/example/lifetable/lifetable/output/Column$Type;"), (2, u "INTEGER"), (2, u "REAL"), (2, u "$VALUES"), (0, u "[Lcom/example/lifetable/lifetable/output/Column$Type;"), (6, .class_ 25), (1, u "java/lang/Enum"), (48, .class_ 75), (0, u "com/example/lifetable/lifetable/output/Column")] 2

/-- com/example/lifetable/lifetable/output/Column$Type -/
def k10 : Class := { plain "com/example/lifetable/lifetable/output/Column$Type" (some 9) with
  accessFlags := 16433
  interfaces := #[]
  cf := some (fileOf pool10 1 #[.nestHost 74] #[] 16433 23 #[] #[{ accessFlags := 16409, nameIndex := 5, descriptorIndex := 6, attributes := #[] }, { accessFlags := 16409, nameIndex := 9, descriptorIndex := 6, attributes := #[] }, { accessFlags := 16409, nameIndex := 12, descriptorIndex := 6, attributes := #[] }, { accessFlags := 4122, nameIndex := 15, descriptorIndex := 16, attributes := #[] }])
  fields := #[{ name := "TEXT", type := (.object "com/example/lifetable/lifetable/output/Column$Type"), accessFlags := 16409, slot := 0, constantValue := 0 }, { name := "INTEGER", type := (.object "com/example/lifetable/lifetable/output/Column$Type"), accessFlags := 16409, slot := 1, constantValue := 0 }, { name := "REAL", type := (.object "com/example/lifetable/lifetable/output/Column$Type"), accessFlags := 16409, slot := 2, constantValue := 0 }, { name := "$VALUES", type := (.array (.object "com/example/lifetable/lifetable/output/Column$Type")), accessFlags := 4122, slot := 3, constantValue := 0 }]
  methods := #[]
  instanceTypes := #[(.object "java/lang/String"), .int, .int]
  staticTypes := #[(.object "com/example/lifetable/lifetable/output/Column$Type"), (.object "com/example/lifetable/lifetable/output/Column$Type"), (.object "com/example/lifetable/lifetable/output/Column$Type"), (.array (.object "com/example/lifetable/lifetable/output/Column$Type"))]
  resolved := Array.replicate 78 none
  statics := some 1 }

def pool11 : Array CpInfo := pool [(1, .methodref 2 3), (0, .class_ 4), (0, .nameAndType 5 6), (0, u "java/lang/Object"), (0, u "<init>"), (0, u "()V"), (0, .string 8), (0, u "name"), (0, .methodref 10 11), (0, .class_ 12), (0, .nameAndType 13 14), (0, u "java/util/Objects"), (0, u "requireNonNull"), (0, u "(Ljava/lang/Object;Ljava/lang/String;)Ljava/lang/Object;"), (0, .class_ 16), (0, u "java/lang/String"), (0, .fieldref 18 19), (0, .class_ 20), (0, .nameAndType 8 21), (0, u "com/example/lifetable/lifetable/output/Column"), (0, u "Ljava/lang/String;"), (0, .fieldref 18 23), (0, .nameAndType 24 25), (0, u "type"), (0, u "Lcom/example/lifetable/lifetable/output/Column$Type;"), (21, u "()Ljava/lang/String;"), (4, .string 24), (0, .class_ 54), (0, u "com/example/lifetable/lifetable/output/Column$Type"), (0, .methodref 18 56), (0, .nameAndType 5 57), (0, u "(Ljava/lang/String;Lcom/example/lifetable/lifetable/output/Column$Type;)V"), (52, u "of"), (0, u "(Ljava/lang/String;Lcom/example/lifetable/lifetable/output/Column$Type;)Lcom/example/lifetable/lifetable/output/Column;"), (4, u "()Lcom/example/lifetable/lifetable/output/Column$Type;")] 23

def k11c0 : Code := { maxStack := 3, maxLocals := 3, code := prog_16_method_1_code, exceptionTable := #[], attributes := #[] }
def k11m0 : Method := { name := "<init>", desc := "(Ljava/lang/String;Lcom/example/lifetable/lifetable/output/Column$Type;)V", sig := { parameters := [(.object "java/lang/String"), (.object "com/example/lifetable/lifetable/output/Column$Type")], returnType := none }, accessFlags := 2, code := some k11c0 }
def k11c1 : Code := { maxStack := 5, maxLocals := 2, code := prog_16_method_3_code, exceptionTable := #[], attributes := #[] }
def k11m1 : Method := { name := "of", desc := "(Ljava/lang/String;Lcom/example/lifetable/lifetable/output/Column$Type;)Lcom/example/lifetable/lifetable/output/Column;", sig := { parameters := [(.object "java/lang/String"), (.object "com/example/lifetable/lifetable/output/Column$Type")], returnType := some (.object "com/example/lifetable/lifetable/output/Column") }, accessFlags := 8, code := some k11c1 }
def k11c2 : Code := { maxStack := 1, maxLocals := 1, code := prog_16_method_7_code, exceptionTable := #[], attributes := #[] }
def k11m2 : Method := { name := "name", desc := "()Ljava/lang/String;", sig := { parameters := [], returnType := some (.object "java/lang/String") }, accessFlags := 1, code := some k11c2 }
def k11c3 : Code := { maxStack := 1, maxLocals := 1, code := prog_16_method_8_code, exceptionTable := #[], attributes := #[] }
def k11m3 : Method := { name := "type", desc := "()Lcom/example/lifetable/lifetable/output/Column$Type;", sig := { parameters := [], returnType := some (.object "com/example/lifetable/lifetable/output/Column$Type") }, accessFlags := 1, code := some k11c3 }
/-- com/example/lifetable/lifetable/output/Column -/
def k11 : Class := { plain "com/example/lifetable/lifetable/output/Column" (some 0) with
  accessFlags := 49
  interfaces := #[]
  cf := some (fileOf pool11 18 #[.nestMembers #[53]] #[{ accessFlags := 2, nameIndex := 5, descriptorIndex := 57, attributes := #[] }, { accessFlags := 8, nameIndex := 110, descriptorIndex := 111, attributes := #[] }, { accessFlags := 1, nameIndex := 8, descriptorIndex := 47, attributes := #[] }, { accessFlags := 1, nameIndex := 24, descriptorIndex := 116, attributes := #[] }] 49 2 #[] #[{ accessFlags := 18, nameIndex := 8, descriptorIndex := 21, attributes := #[] }, { accessFlags := 18, nameIndex := 24, descriptorIndex := 25, attributes := #[] }])
  fields := #[{ name := "name", type := (.object "java/lang/String"), accessFlags := 18, slot := 0, constantValue := 0 }, { name := "type", type := (.object "com/example/lifetable/lifetable/output/Column$Type"), accessFlags := 18, slot := 1, constantValue := 0 }]
  methods := #[k11m0, k11m1, k11m2, k11m3]
  instanceTypes := #[(.object "java/lang/String"), (.object "com/example/lifetable/lifetable/output/Column$Type")]
  staticTypes := #[]
  resolved := Array.replicate 140 none
  statics := none }

def pool12 : Array CpInfo := pool [(2, .class_ 4), (1, u "java/lang/Object"), (0, u "<init>"), (0, u "()V"), (35, .class_ 44), (1, u "java/util/Objects"), (0, u "requireNonNull"), (48, u "(Ljava/lang/Object;Ljava/lang/String;)Ljava/lang/Object;")] 89

def k12m0 : Method := { name := "<init>", desc := "()V", sig := { parameters := [], returnType := none }, accessFlags := 2, code := none }
def k12c1 : Code := { maxStack := 3, maxLocals := 2, code := jdk_31_method_11_code, exceptionTable := #[], attributes := #[] }
def k12m1 : Method := { name := "requireNonNull", desc := "(Ljava/lang/Object;Ljava/lang/String;)Ljava/lang/Object;", sig := { parameters := [(.object "java/lang/Object"), (.object "java/lang/String")], returnType := some (.object "java/lang/Object") }, accessFlags := 9, code := some k12c1 }
/-- java/util/Objects -/
def k12 : Class := { plain "java/util/Objects" (some 0) with
  accessFlags := 49
  interfaces := #[]
  cf := some (fileOf pool12 42 #[] #[{ accessFlags := 2, nameIndex := 5, descriptorIndex := 6, attributes := #[] }, { accessFlags := 9, nameIndex := 45, descriptorIndex := 94, attributes := #[] }] 49 2 #[] #[])
  fields := #[]
  methods := #[k12m0, k12m1]
  instanceTypes := #[]
  staticTypes := #[]
  resolved := Array.replicate 184 none
  statics := none }

def pool13 : Array CpInfo := pool [(1, .class_ 2), (0, u "java/lang/String"), (1, .class_ 6), (1, u "java/lang/Object"), (0, u "<init>"), (0, u "()V"), (0, .methodref 1 10), (0, .nameAndType 11 12), (0, u "checkIndex"), (0, u "(II)V"), (1, .class_ 16), (1, u "java/lang/StringLatin1"), (36, u "([BI)C"), (67, u "$assertionsDisabled"), (0, u "Z"), (98, .class_ 223), (1, u "java/lang/StringLatin1$LinesSpliterator"), (28, u "charAt"), (137, .class_ 391), (0, u "java/lang/StringLatin1$CharsSpliterator")] 3

def k13m0 : Method := { name := "<init>", desc := "()V", sig := { parameters := [], returnType := none }, accessFlags := 0, code := none }
def k13c1 : Code := { maxStack := 2, maxLocals := 2, code := jdk_43_method_2_code, exceptionTable := #[], attributes := #[] }
def k13m1 : Method := { name := "charAt", desc := "([BI)C", sig := { parameters := [(.array .byte), .int], returnType := some .char }, accessFlags := 9, code := some k13c1 }
/-- java/lang/StringLatin1 -/
def k13 : Class := { plain "java/lang/StringLatin1" (some 0) with
  accessFlags := 48
  interfaces := #[]
  cf := some (fileOf pool13 14 #[.nestMembers #[390, 221]] #[{ accessFlags := 0, nameIndex := 7, descriptorIndex := 8, attributes := #[] }, { accessFlags := 9, nameIndex := 252, descriptorIndex := 53, attributes := #[] }] 48 4 #[] #[{ accessFlags := 4120, nameIndex := 121, descriptorIndex := 122, attributes := #[] }])
  fields := #[{ name := "$assertionsDisabled", type := .boolean, accessFlags := 4120, slot := 0, constantValue := 0 }]
  methods := #[k13m0, k13m1]
  instanceTypes := #[]
  staticTypes := #[.boolean]
  resolved := Array.replicate 395 none
  statics := none }

def pool14 : Array CpInfo := pool [(2, .class_ 4), (1, u "java/lang/Object"), (0, u "<init>"), (0, u "()V"), (17, .class_ 26), (1, u "jdk/internal/util/Preconditions"), (6, u "checkIndex"), (21, .class_ 56), (0, u "jdk/internal/util/Preconditions$4"), (57, .class_ 115), (0, u "jdk/internal/util/Preconditions$1"), (7, u "SIOOBE_FORMATTER"), (0, u "Ljava/util/function/BiFunction;"), (0, .class_ 126), (0, u "jdk/internal/util/Preconditions$2"), (3, u "AIOOBE_FORMATTER"), (0, .class_ 132), (0, u "jdk/internal/util/Preconditions$3"), (3, u "IOOBE_FORMATTER"), (41, u "(IILjava/util/function/BiFunction;)I")] 15

def k14m0 : Method := { name := "<init>", desc := "()V", sig := { parameters := [], returnType := none }, accessFlags := 1, code := none }
def k14c1 : Code := { maxStack := 3, maxLocals := 3, code := jdk_41_method_11_code, exceptionTable := #[], attributes := #[] }
def k14m1 : Method := { name := "checkIndex", desc := "(IILjava/util/function/BiFunction;)I", sig := { parameters := [.int, .int, (.object "java/util/function/BiFunction")], returnType := some .int }, accessFlags := 9, code := some k14c1 }
/-- jdk/internal/util/Preconditions -/
def k14 : Class := { plain "jdk/internal/util/Preconditions" (some 0) with
  accessFlags := 33
  interfaces := #[]
  cf := some (fileOf pool14 24 #[.nestMembers #[55, 131, 125, 114]] #[{ accessFlags := 1, nameIndex := 5, descriptorIndex := 6, attributes := #[] }, { accessFlags := 9, nameIndex := 33, descriptorIndex := 178, attributes := #[] }] 33 2 #[] #[{ accessFlags := 25, nameIndex := 123, descriptorIndex := 124, attributes := #[] }, { accessFlags := 25, nameIndex := 130, descriptorIndex := 124, attributes := #[] }, { accessFlags := 25, nameIndex := 136, descriptorIndex := 124, attributes := #[] }])
  fields := #[{ name := "SIOOBE_FORMATTER", type := (.object "java/util/function/BiFunction"), accessFlags := 25, slot := 0, constantValue := 0 }, { name := "AIOOBE_FORMATTER", type := (.object "java/util/function/BiFunction"), accessFlags := 25, slot := 1, constantValue := 0 }, { name := "IOOBE_FORMATTER", type := (.object "java/util/function/BiFunction"), accessFlags := 25, slot := 2, constantValue := 0 }]
  methods := #[k14m0, k14m1]
  instanceTypes := #[]
  staticTypes := #[(.object "java/util/function/BiFunction"), (.object "java/util/function/BiFunction"), (.object "java/util/function/BiFunction")]
  resolved := Array.replicate 194 none
  statics := some 2 }

def pool15 : Array CpInfo := pool [(9, u "<init>"), (6, .class_ 18), (1, u "java/lang/Object"), (0, u "()V"), (1, .class_ 23), (1, u "jdk/internal/util/ArraysSupport"), (0, u "LOG2_ARRAY_LONG_INDEX_SCALE"), (0, u "I"), (2, u "U"), (0, u "Ljdk/internal/misc/Unsafe;"), (8, u "BIG_ENDIAN"), (0, u "Z"), (8, u "LOG2_BYTE_BIT_SIZE"), (4, u "LOG2_ARRAY_INT_INDEX_SCALE"), (54, u "JLA"), (0, u "Ljdk/internal/access/JavaLangAccess;"), (11, u "LOG2_ARRAY_BOOLEAN_INDEX_SCALE"), (9, u "LOG2_ARRAY_BYTE_INDEX_SCALE"), (5, u "LOG2_ARRAY_CHAR_INDEX_SCALE"), (5, u "LOG2_ARRAY_SHORT_INDEX_SCALE"), (18, u "LOG2_ARRAY_FLOAT_INDEX_SCALE"), (24, u "LOG2_ARRAY_DOUBLE_INDEX_SCALE"), (89, u "T_BOOLEAN"), (2, u "T_CHAR"), (1, u "T_FLOAT"), (1, u "T_DOUBLE"), (1, u "T_BYTE"), (1, u "T_SHORT"), (1, u "T_INT"), (1, u "T_LONG"), (1, u "SOFT_MAX_ARRAY_LENGTH")] 83

def k15m0 : Method := { name := "<init>", desc := "()V", sig := { parameters := [], returnType := none }, accessFlags := 2, code := none }
/-- jdk/internal/util/ArraysSupport -/
def k15 : Class := { plain "jdk/internal/util/ArraysSupport" (some 0) with
  accessFlags := 33
  interfaces := #[]
  cf := some (fileOf pool15 21 #[] #[{ accessFlags := 2, nameIndex := 9, descriptorIndex := 19, attributes := #[] }] 33 16 #[] #[{ accessFlags := 24, nameIndex := 28, descriptorIndex := 29, attributes := #[] }, { accessFlags := 26, nameIndex := 38, descriptorIndex := 39, attributes := #[] }, { accessFlags := 25, nameIndex := 121, descriptorIndex := 25, attributes := #[] }, { accessFlags := 25, nameIndex := 131, descriptorIndex := 25, attributes := #[] }, { accessFlags := 25, nameIndex := 137, descriptorIndex := 25, attributes := #[] }, { accessFlags := 25, nameIndex := 143, descriptorIndex := 25, attributes := #[] }, { accessFlags := 25, nameIndex := 53, descriptorIndex := 25, attributes := #[] }, { accessFlags := 25, nameIndex := 24, descriptorIndex := 25, attributes := #[] }, { accessFlags := 25, nameIndex := 162, descriptorIndex := 25, attributes := #[] }, { accessFlags := 25, nameIndex := 187, descriptorIndex := 25, attributes := #[] }, { accessFlags := 26, nameIndex := 48, descriptorIndex := 25, attributes := #[] }, { accessFlags := 25, nameIndex := 277, descriptorIndex := 25, attributes := #[] }, { accessFlags := 25, nameIndex := 280, descriptorIndex := 25, attributes := #[] }, { accessFlags := 25, nameIndex := 282, descriptorIndex := 25, attributes := #[] }, { accessFlags := 25, nameIndex := 284, descriptorIndex := 25, attributes := #[] }, { accessFlags := 25, nameIndex := 286, descriptorIndex := 25, attributes := #[] }, { accessFlags := 25, nameIndex := 288, descriptorIndex := 25, attributes := #[] }, { accessFlags := 25, nameIndex := 290, descriptorIndex := 25, attributes := #[] }, { accessFlags := 25, nameIndex := 292, descriptorIndex := 25, attributes := #[] }, { accessFlags := 26, nameIndex := 108, descriptorIndex := 109, attributes := #[] }, { accessFlags := 25, nameIndex := 294, descriptorIndex := 25, attributes := #[] }])
  fields := #[{ name := "U", type := (.object "jdk/internal/misc/Unsafe"), accessFlags := 24, slot := 0, constantValue := 0 }, { name := "BIG_ENDIAN", type := .boolean, accessFlags := 26, slot := 1, constantValue := 0 }, { name := "LOG2_ARRAY_BOOLEAN_INDEX_SCALE", type := .int, accessFlags := 25, slot := 2, constantValue := 0 }, { name := "LOG2_ARRAY_BYTE_INDEX_SCALE", type := .int, accessFlags := 25, slot := 3, constantValue := 0 }, { name := "LOG2_ARRAY_CHAR_INDEX_SCALE", type := .int, accessFlags := 25, slot := 4, constantValue := 0 }, { name := "LOG2_ARRAY_SHORT_INDEX_SCALE", type := .int, accessFlags := 25, slot := 5, constantValue := 0 }, { name := "LOG2_ARRAY_INT_INDEX_SCALE", type := .int, accessFlags := 25, slot := 6, constantValue := 0 }, { name := "LOG2_ARRAY_LONG_INDEX_SCALE", type := .int, accessFlags := 25, slot := 7, constantValue := 0 }, { name := "LOG2_ARRAY_FLOAT_INDEX_SCALE", type := .int, accessFlags := 25, slot := 8, constantValue := 0 }, { name := "LOG2_ARRAY_DOUBLE_INDEX_SCALE", type := .int, accessFlags := 25, slot := 9, constantValue := 0 }, { name := "LOG2_BYTE_BIT_SIZE", type := .int, accessFlags := 26, slot := 10, constantValue := 0 }, { name := "T_BOOLEAN", type := .int, accessFlags := 25, slot := 11, constantValue := 0 }, { name := "T_CHAR", type := .int, accessFlags := 25, slot := 12, constantValue := 0 }, { name := "T_FLOAT", type := .int, accessFlags := 25, slot := 13, constantValue := 0 }, { name := "T_DOUBLE", type := .int, accessFlags := 25, slot := 14, constantValue := 0 }, { name := "T_BYTE", type := .int, accessFlags := 25, slot := 15, constantValue := 0 }, { name := "T_SHORT", type := .int, accessFlags := 25, slot := 16, constantValue := 0 }, { name := "T_INT", type := .int, accessFlags := 25, slot := 17, constantValue := 0 }, { name := "T_LONG", type := .int, accessFlags := 25, slot := 18, constantValue := 0 }, { name := "JLA", type := (.object "jdk/internal/access/JavaLangAccess"), accessFlags := 26, slot := 19, constantValue := 0 }, { name := "SOFT_MAX_ARRAY_LENGTH", type := .int, accessFlags := 25, slot := 20, constantValue := 0 }]
  methods := #[k15m0]
  instanceTypes := #[]
  staticTypes := #[(.object "jdk/internal/misc/Unsafe"), .boolean, .int, .int, .int, .int, .int, .int, .int, .int, .int, .int, .int, .int, .int, .int, .int, .int, .int, (.object "jdk/internal/access/JavaLangAccess"), .int]
  resolved := Array.replicate 378 none
  statics := none }

def pool16 : Array CpInfo := pool [(1, u "java/lang/Cloneable"), (0, .class_ 1), (0, u "java/lang/Object"), (0, .class_ 3)] 3

/-- java/lang/Cloneable -/
def k16 : Class := { plain "java/lang/Cloneable" (some 0) with
  accessFlags := 1537
  interfaces := #[]
  cf := some (fileOf pool16 2 #[] #[] 1537 4 #[] #[])
  fields := #[]
  methods := #[]
  instanceTypes := #[]
  staticTypes := #[]
  resolved := Array.replicate 8 none
  statics := none }

/-- the primitive byte -/
def k17 : Class := { plain "byte" none with kind := .primitive 'B', accessFlags := 0x411 }
/-- [B -/
def k18 : Class := { plain "[B" (some 0) with kind := .array 17 .byte, interfaces := #[16, 2], accessFlags := 1041 }

/-- the primitive char -/
def k19 : Class := { plain "char" none with kind := .primitive 'C', accessFlags := 0x411 }
/-- [C -/
def k20 : Class := { plain "[C" (some 0) with kind := .array 19 .char, interfaces := #[16, 2], accessFlags := 1041 }

/-- the primitive int -/
def k21 : Class := { plain "int" none with kind := .primitive 'I', accessFlags := 0x411 }
/-- [I -/
def k22 : Class := { plain "[I" (some 0) with kind := .array 21 .int, interfaces := #[16, 2], accessFlags := 1041 }

def heap : Heap := #[{ cls := 7, slots := #[.long 0, .int 1, .null, .int 0, .null, .int 0, .int 0], vm := .statics 7 },
  { cls := 10, slots := #[.ref 3, .ref 4, .ref 5, .null], vm := .statics 10 },
  { cls := 14, slots := #[.null, .null, .null], vm := .statics 14 },
  { cls := 10, slots := #[.null, .int 0, .int 0], vm := .none },
  { cls := 10, slots := #[.null, .int 1, .int 0], vm := .none },
  { cls := 10, slots := #[.null, .int 2, .int 0], vm := .none }]
def classes : Array Class := #[k0, k1, k2, k3, k4, k5, k6, k7, k8, k9, k10, k11, k12, k13, k14, k15, k16, k17, k18, k19, k20, k21, k22]
def interned : List (Array UInt16 × Addr) := []
def slotsUsed : Nat := 23
def theMethod : MethodId := ⟨1, 3⟩
def args0 : Array Value := #[.int 5, .int 2, .int 7, .int 8, .int 9]
def aboutOver (below : List Frame) : State where
  vm := { classes := classes, interned := interned.toArray }
  heap := heap
  slotsUsed := slotsUsed
  threads := #[{ frames := .invoking theMethod args0 :: below }]
def below0 : List Frame := [.native { method := ⟨0, 0⟩, args := #[] }]
def about1 : State := aboutOver below0
def p0 : Program := .bare "" "" ""
def e0 : Env := launch0.env 0 0 0
theorem w_frames : about1.frames = Frame.invoking theMethod args0 :: below0 := rfl
set_option maxRecDepth 65536 in
theorem w_args : argsFit about1.vm theMethod args0 = true := by decide +kernel
set_option maxRecDepth 65536 in
theorem w_heap : heapFits about1 = true := by decide +kernel
set_option maxRecDepth 65536 in
theorem w_runnable : about1.curStatus? = some .runnable := by decide +kernel
set_option maxRecDepth 65536 in
theorem w_alone : about1.alone = true := by decide +kernel
set_option maxRecDepth 65536 in
theorem w_named : about1.methodNamed? x = some theMethod := by decide +kernel
set_option maxRecDepth 65536 in
theorem w_hears : about1.hears theMethod below0 = true := by decide +kernel
set_option maxRecDepth 65536 in
theorem w_ripe : about1.ripe theMethod args0 below0 = true := by decide +kernel
theorem w_running : about1.status = .running := rfl
set_option maxRecDepth 65536 in
theorem w_room : about1.hasRoom e0.platform room_1 = true :=
  launch0.hasRoom_least _ room_1 (by decide +kernel) (by decide +kernel) (by decide +kernel) (by decide +kernel) (by decide +kernel) (by decide +kernel)
theorem allAtoms_all (ts : List Jvm.Cond) (a : Array Jvm.Value) (st : Jvm.State) : (allAtoms ts).before a st = ts.all (fun c => c.before a st) := by
  induction ts with
  | nil => rfl
  | cons c t ih =>
    show (Jvm.Cond.and c (allAtoms t)).before a st = _
    rw [Jvm.Cond.before_and, ih, List.all_cons]
def words1 : List Jvm.Cond := Jvm.Cond.code x code maxLocals ret :: tables_1
/-- a 'code' word, met by the world's own term for the bytes: nothing is compared byte by byte -/
theorem code_word {y : MethodName} {bytes : ByteArray} {mx : Nat} {rt : Option FieldType} {a : Array Value} {s : State} {m : MethodId} {meth : Method} {c : Code} (h1 : s.methodNamed? y = some m) (h2 : s.vm.method? m = some meth) (h3 : meth.code = some c) (h4 : c.code = bytes)
    (h5 : (c.maxLocals == mx && c.exceptionTable.isEmpty && decide (c.maxStack ≤ mostOperands) && decide (meth.sig.returnType = rt) && !meth.locks && decide (parseMethodDescriptor y.desc = some meth.sig)) = true) : (Jvm.Cond.code y bytes mx rt).before a s = true := by
  simp only [Bool.and_eq_true, beq_iff_eq, Bool.not_eq_true', decide_eq_true_eq] at h5
  obtain ⟨⟨⟨⟨⟨g1, g2⟩, g3⟩, g4⟩, g5⟩, g6⟩ := h5
  simp [Cond.before, Cond.holds, Cond.value, h1, h2, h3, h4, g1, g2, g3, g4, g5, g6]
def isCode : Jvm.Cond → Bool
  | .code _ _ _ _ => true
  | _ => false
theorem all_split {L : List Jvm.Cond} {P : Jvm.Cond → Bool} (h1 : L.all (fun c => isCode c || P c) = true) (h2 : ∀ c ∈ L.filter isCode, P c = true) : L.all P = true := by
  refine List.all_eq_true.mpr fun c hc => ?_
  have h := List.all_eq_true.mp h1 c hc
  rcases Bool.eq_false_or_eq_true (isCode c) with hi | hi
  · exact h2 c (List.mem_filter.mpr ⟨hc, hi⟩)
  · simpa [hi] using h
set_option maxRecDepth 65536 in
theorem w_c0 : (Jvm.Cond.code x code maxLocals ret).before args0 about1 = true := code_word (m := ⟨1, 3⟩) (meth := k1m3) (c := k1c3) (by decide +kernel) rfl rfl rfl (by decide +kernel)
set_option maxRecDepth 65536 in
theorem w_c1 : (Jvm.Cond.code ({ cls := "com/example/lifetable/lifetable/output/ColumnOfPinLaw", name := "draw", desc := "(IIII)Ljava/lang/String;" } : Jvm.MethodName) method_2_code (7 : Nat) (Option.some (Jvm.ClassFile.FieldType.object "java/lang/String"))).before args0 about1 = true := code_word (m := ⟨1, 1⟩) (meth := k1m1) (c := k1c1) (by decide +kernel) rfl rfl rfl (by decide +kernel)
set_option maxRecDepth 65536 in
theorem w_c2 : (Jvm.Cond.code ({ cls := "java/lang/String", name := "<init>", desc := "([C)V" } : Jvm.MethodName) jdk_42_method_3_code (2 : Nat) (Option.none : Option Jvm.ClassFile.FieldType)).before args0 about1 = true := code_word (m := ⟨7, 1⟩) (meth := k7m1) (c := k7c1) (by decide +kernel) rfl rfl rfl (by decide +kernel)
set_option maxRecDepth 65536 in
theorem w_c3 : (Jvm.Cond.code ({ cls := "java/lang/String", name := "<init>", desc := "([CIILjava/lang/Void;)V" } : Jvm.MethodName) jdk_42_method_149_code (6 : Nat) (Option.none : Option Jvm.ClassFile.FieldType)).before args0 about1 = true := code_word (m := ⟨7, 5⟩) (meth := k7m5) (c := k7c5) (by decide +kernel) rfl rfl rfl (by decide +kernel)
set_option maxRecDepth 65536 in
theorem w_c4 : (Jvm.Cond.code ({ cls := "java/lang/Object", name := "<init>", desc := "()V" } : Jvm.MethodName) object_method_1_code (1 : Nat) (Option.none : Option Jvm.ClassFile.FieldType)).before args0 about1 = true := code_word (m := ⟨0, 0⟩) (meth := k0m0) (c := k0c0) (by decide +kernel) rfl rfl rfl (by decide +kernel)
set_option maxRecDepth 65536 in
theorem w_c5 : (Jvm.Cond.code ({ cls := "java/lang/StringUTF16", name := "compress", desc := "([CII)[B" } : Jvm.MethodName) jdk_52_method_16_code (6 : Nat) (Option.some (Jvm.ClassFile.FieldType.array Jvm.ClassFile.FieldType.byte))).before args0 about1 = true := code_word (m := ⟨8, 2⟩) (meth := k8m2) (c := k8c2) (by decide +kernel) rfl rfl rfl (by decide +kernel)
set_option maxRecDepth 65536 in
theorem w_c6 : (Jvm.Cond.code ({ cls := "java/lang/StringUTF16", name := "compress", desc := "([CI[BII)I" } : Jvm.MethodName) jdk_52_method_21_code (7 : Nat) (Option.some Jvm.ClassFile.FieldType.int)).before args0 about1 = true := code_word (m := ⟨8, 3⟩) (meth := k8m3) (c := k8c3) (by decide +kernel) rfl rfl rfl (by decide +kernel)
set_option maxRecDepth 65536 in
theorem w_c7 : (Jvm.Cond.code ({ cls := "java/lang/StringUTF16", name := "coderFromArrayLen", desc := "([BI)B" } : Jvm.MethodName) jdk_52_method_15_code (2 : Nat) (Option.some Jvm.ClassFile.FieldType.byte)).before args0 about1 = true := code_word (m := ⟨8, 1⟩) (meth := k8m1) (c := k8c1) (by decide +kernel) rfl rfl rfl (by decide +kernel)
set_option maxRecDepth 65536 in
theorem w_c8 : (Jvm.Cond.code ({ cls := "com/example/lifetable/lifetable/output/ColumnOfPinLaw", name := "pick", desc := "(I)Lcom/example/lifetable/lifetable/output/Column$Type;" } : Jvm.MethodName) method_3_code (2 : Nat) (Option.some (Jvm.ClassFile.FieldType.object "com/example/lifetable/lifetable/output/Column$Type"))).before args0 about1 = true := code_word (m := ⟨1, 2⟩) (meth := k1m2) (c := k1c2) (by decide +kernel) rfl rfl rfl (by decide +kernel)
set_option maxRecDepth 65536 in
theorem w_c9 : (Jvm.Cond.code ({ cls := "com/example/lifetable/lifetable/output/Column", name := "of", desc := "(Ljava/lang/String;Lcom/example/lifetable/lifetable/output/Column$Type;)Lcom/example/lifetable/lifetable/output/Column;" } : Jvm.MethodName) prog_16_method_3_code (2 : Nat) (Option.some (Jvm.ClassFile.FieldType.object "com/example/lifetable/lifetable/output/Column"))).before args0 about1 = true := code_word (m := ⟨11, 1⟩) (meth := k11m1) (c := k11c1) (by decide +kernel) rfl rfl rfl (by decide +kernel)
set_option maxRecDepth 65536 in
theorem w_c10 : (Jvm.Cond.code ({ cls := "java/util/Objects", name := "requireNonNull", desc := "(Ljava/lang/Object;Ljava/lang/String;)Ljava/lang/Object;" } : Jvm.MethodName) jdk_31_method_11_code (2 : Nat) (Option.some (Jvm.ClassFile.FieldType.object "java/lang/Object"))).before args0 about1 = true := code_word (m := ⟨12, 1⟩) (meth := k12m1) (c := k12c1) (by decide +kernel) rfl rfl rfl (by decide +kernel)
set_option maxRecDepth 65536 in
theorem w_c11 : (Jvm.Cond.code ({ cls := "com/example/lifetable/lifetable/output/Column", name := "<init>", desc := "(Ljava/lang/String;Lcom/example/lifetable/lifetable/output/Column$Type;)V" } : Jvm.MethodName) prog_16_method_1_code (3 : Nat) (Option.none : Option Jvm.ClassFile.FieldType)).before args0 about1 = true := code_word (m := ⟨11, 0⟩) (meth := k11m0) (c := k11c0) (by decide +kernel) rfl rfl rfl (by decide +kernel)
set_option maxRecDepth 65536 in
theorem w_c12 : (Jvm.Cond.code ({ cls := "com/example/lifetable/lifetable/output/Column", name := "name", desc := "()Ljava/lang/String;" } : Jvm.MethodName) prog_16_method_7_code (1 : Nat) (Option.some (Jvm.ClassFile.FieldType.object "java/lang/String"))).before args0 about1 = true := code_word (m := ⟨11, 2⟩) (meth := k11m2) (c := k11c2) (by decide +kernel) rfl rfl rfl (by decide +kernel)
set_option maxRecDepth 65536 in
theorem w_c13 : (Jvm.Cond.code ({ cls := "com/example/lifetable/lifetable/output/Column", name := "type", desc := "()Lcom/example/lifetable/lifetable/output/Column$Type;" } : Jvm.MethodName) prog_16_method_8_code (1 : Nat) (Option.some (Jvm.ClassFile.FieldType.object "com/example/lifetable/lifetable/output/Column$Type"))).before args0 about1 = true := code_word (m := ⟨11, 3⟩) (meth := k11m3) (c := k11c3) (by decide +kernel) rfl rfl rfl (by decide +kernel)
set_option maxRecDepth 65536 in
theorem w_c14 : (Jvm.Cond.code ({ cls := "java/lang/String", name := "length", desc := "()I" } : Jvm.MethodName) jdk_42_method_54_code (1 : Nat) (Option.some Jvm.ClassFile.FieldType.int)).before args0 about1 = true := code_word (m := ⟨7, 2⟩) (meth := k7m2) (c := k7c2) (by decide +kernel) rfl rfl rfl (by decide +kernel)
set_option maxRecDepth 65536 in
theorem w_c15 : (Jvm.Cond.code ({ cls := "java/lang/String", name := "coder", desc := "()B" } : Jvm.MethodName) jdk_42_method_152_code (1 : Nat) (Option.some Jvm.ClassFile.FieldType.byte)).before args0 about1 = true := code_word (m := ⟨7, 6⟩) (meth := k7m6) (c := k7c6) (by decide +kernel) rfl rfl rfl (by decide +kernel)
set_option maxRecDepth 65536 in
theorem w_c16 : (Jvm.Cond.code ({ cls := "java/lang/String", name := "charAt", desc := "(I)C" } : Jvm.MethodName) jdk_42_method_56_code (2 : Nat) (Option.some Jvm.ClassFile.FieldType.char)).before args0 about1 = true := code_word (m := ⟨7, 3⟩) (meth := k7m3) (c := k7c3) (by decide +kernel) rfl rfl rfl (by decide +kernel)
set_option maxRecDepth 65536 in
theorem w_c17 : (Jvm.Cond.code ({ cls := "java/lang/String", name := "isLatin1", desc := "()Z" } : Jvm.MethodName) jdk_42_method_154_code (1 : Nat) (Option.some Jvm.ClassFile.FieldType.boolean)).before args0 about1 = true := code_word (m := ⟨7, 7⟩) (meth := k7m7) (c := k7c7) (by decide +kernel) rfl rfl rfl (by decide +kernel)
set_option maxRecDepth 65536 in
theorem w_c18 : (Jvm.Cond.code ({ cls := "java/lang/StringLatin1", name := "charAt", desc := "([BI)C" } : Jvm.MethodName) jdk_43_method_2_code (2 : Nat) (Option.some Jvm.ClassFile.FieldType.char)).before args0 about1 = true := code_word (m := ⟨13, 1⟩) (meth := k13m1) (c := k13c1) (by decide +kernel) rfl rfl rfl (by decide +kernel)
set_option maxRecDepth 65536 in
theorem w_c19 : (Jvm.Cond.code ({ cls := "java/lang/String", name := "checkIndex", desc := "(II)V" } : Jvm.MethodName) jdk_42_method_155_code (2 : Nat) (Option.none : Option Jvm.ClassFile.FieldType)).before args0 about1 = true := code_word (m := ⟨7, 8⟩) (meth := k7m8) (c := k7c8) (by decide +kernel) rfl rfl rfl (by decide +kernel)
set_option maxRecDepth 65536 in
theorem w_c20 : (Jvm.Cond.code ({ cls := "jdk/internal/util/Preconditions", name := "checkIndex", desc := "(IILjava/util/function/BiFunction;)I" } : Jvm.MethodName) jdk_41_method_11_code (3 : Nat) (Option.some Jvm.ClassFile.FieldType.int)).before args0 about1 = true := code_word (m := ⟨14, 1⟩) (meth := k14m1) (c := k14c1) (by decide +kernel) rfl rfl rfl (by decide +kernel)
set_option maxRecDepth 65536 in
theorem w_c21 : (Jvm.Cond.code ({ cls := "java/lang/String", name := "equals", desc := "(Ljava/lang/Object;)Z" } : Jvm.MethodName) jdk_42_method_66_code (3 : Nat) (Option.some Jvm.ClassFile.FieldType.boolean)).before args0 about1 = true := code_word (m := ⟨7, 4⟩) (meth := k7m4) (c := k7c4) (by decide +kernel) rfl rfl rfl (by decide +kernel)
def codes1 : List Jvm.Cond := [Jvm.Cond.code x code maxLocals ret, Jvm.Cond.code ({ cls := "com/example/lifetable/lifetable/output/ColumnOfPinLaw", name := "draw", desc := "(IIII)Ljava/lang/String;" } : Jvm.MethodName) method_2_code (7 : Nat) (Option.some (Jvm.ClassFile.FieldType.object "java/lang/String")), Jvm.Cond.code ({ cls := "java/lang/String", name := "<init>", desc := "([C)V" } : Jvm.MethodName) jdk_42_method_3_code (2 : Nat) (Option.none : Option Jvm.ClassFile.FieldType), Jvm.Cond.code ({ cls := "java/lang/String", name := "<init>", desc := "([CIILjava/lang/Void;)V" } : Jvm.MethodName) jdk_42_method_149_code (6 : Nat) (Option.none : Option Jvm.ClassFile.FieldType), Jvm.Cond.code ({ cls := "java/lang/Object", name := "<init>", desc := "()V" } : Jvm.MethodName) object_method_1_code (1 : Nat) (Option.none : Option Jvm.ClassFile.FieldType), Jvm.Cond.code ({ cls := "java/lang/StringUTF16", name := "compress", desc := "([CII)[B" } : Jvm.MethodName) jdk_52_method_16_code (6 : Nat) (Option.some (Jvm.ClassFile.FieldType.array Jvm.ClassFile.FieldType.byte)), Jvm.Cond.code ({ cls := "java/lang/StringUTF16", name := "compress", desc := "([CI[BII)I" } : Jvm.MethodName) jdk_52_method_21_code (7 : Nat) (Option.some Jvm.ClassFile.FieldType.int), Jvm.Cond.code ({ cls := "java/lang/StringUTF16", name := "coderFromArrayLen", desc := "([BI)B" } : Jvm.MethodName) jdk_52_method_15_code (2 : Nat) (Option.some Jvm.ClassFile.FieldType.byte), Jvm.Cond.code ({ cls := "com/example/lifetable/lifetable/output/ColumnOfPinLaw", name := "pick", desc := "(I)Lcom/example/lifetable/lifetable/output/Column$Type;" } : Jvm.MethodName) method_3_code (2 : Nat) (Option.some (Jvm.ClassFile.FieldType.object "com/example/lifetable/lifetable/output/Column$Type")), Jvm.Cond.code ({ cls := "com/example/lifetable/lifetable/output/Column", name := "of", desc := "(Ljava/lang/String;Lcom/example/lifetable/lifetable/output/Column$Type;)Lcom/example/lifetable/lifetable/output/Column;" } : Jvm.MethodName) prog_16_method_3_code (2 : Nat) (Option.some (Jvm.ClassFile.FieldType.object "com/example/lifetable/lifetable/output/Column")), Jvm.Cond.code ({ cls := "java/util/Objects", name := "requireNonNull", desc := "(Ljava/lang/Object;Ljava/lang/String;)Ljava/lang/Object;" } : Jvm.MethodName) jdk_31_method_11_code (2 : Nat) (Option.some (Jvm.ClassFile.FieldType.object "java/lang/Object")), Jvm.Cond.code ({ cls := "com/example/lifetable/lifetable/output/Column", name := "<init>", desc := "(Ljava/lang/String;Lcom/example/lifetable/lifetable/output/Column$Type;)V" } : Jvm.MethodName) prog_16_method_1_code (3 : Nat) (Option.none : Option Jvm.ClassFile.FieldType), Jvm.Cond.code ({ cls := "com/example/lifetable/lifetable/output/Column", name := "name", desc := "()Ljava/lang/String;" } : Jvm.MethodName) prog_16_method_7_code (1 : Nat) (Option.some (Jvm.ClassFile.FieldType.object "java/lang/String")), Jvm.Cond.code ({ cls := "com/example/lifetable/lifetable/output/Column", name := "type", desc := "()Lcom/example/lifetable/lifetable/output/Column$Type;" } : Jvm.MethodName) prog_16_method_8_code (1 : Nat) (Option.some (Jvm.ClassFile.FieldType.object "com/example/lifetable/lifetable/output/Column$Type")), Jvm.Cond.code ({ cls := "java/lang/String", name := "length", desc := "()I" } : Jvm.MethodName) jdk_42_method_54_code (1 : Nat) (Option.some Jvm.ClassFile.FieldType.int), Jvm.Cond.code ({ cls := "java/lang/String", name := "coder", desc := "()B" } : Jvm.MethodName) jdk_42_method_152_code (1 : Nat) (Option.some Jvm.ClassFile.FieldType.byte), Jvm.Cond.code ({ cls := "java/lang/String", name := "charAt", desc := "(I)C" } : Jvm.MethodName) jdk_42_method_56_code (2 : Nat) (Option.some Jvm.ClassFile.FieldType.char), Jvm.Cond.code ({ cls := "java/lang/String", name := "isLatin1", desc := "()Z" } : Jvm.MethodName) jdk_42_method_154_code (1 : Nat) (Option.some Jvm.ClassFile.FieldType.boolean), Jvm.Cond.code ({ cls := "java/lang/StringLatin1", name := "charAt", desc := "([BI)C" } : Jvm.MethodName) jdk_43_method_2_code (2 : Nat) (Option.some Jvm.ClassFile.FieldType.char), Jvm.Cond.code ({ cls := "java/lang/String", name := "checkIndex", desc := "(II)V" } : Jvm.MethodName) jdk_42_method_155_code (2 : Nat) (Option.none : Option Jvm.ClassFile.FieldType), Jvm.Cond.code ({ cls := "jdk/internal/util/Preconditions", name := "checkIndex", desc := "(IILjava/util/function/BiFunction;)I" } : Jvm.MethodName) jdk_41_method_11_code (3 : Nat) (Option.some Jvm.ClassFile.FieldType.int), Jvm.Cond.code ({ cls := "java/lang/String", name := "equals", desc := "(Ljava/lang/Object;)Z" } : Jvm.MethodName) jdk_42_method_66_code (3 : Nat) (Option.some Jvm.ClassFile.FieldType.boolean)]
set_option maxRecDepth 65536 in
theorem codes_eq : words1.filter isCode = codes1 := rfl
theorem w_codes : ∀ c ∈ words1.filter isCode, c.before args0 about1 = true := by
  rw [codes_eq]
  intro c hc
  simp only [codes1, List.mem_cons, List.not_mem_nil, or_false] at hc
  rcases hc with rfl | rfl | rfl | rfl | rfl | rfl | rfl | rfl | rfl | rfl | rfl | rfl | rfl | rfl | rfl | rfl | rfl | rfl | rfl | rfl | rfl | rfl
  · exact w_c0
  · exact w_c1
  · exact w_c2
  · exact w_c3
  · exact w_c4
  · exact w_c5
  · exact w_c6
  · exact w_c7
  · exact w_c8
  · exact w_c9
  · exact w_c10
  · exact w_c11
  · exact w_c12
  · exact w_c13
  · exact w_c14
  · exact w_c15
  · exact w_c16
  · exact w_c17
  · exact w_c18
  · exact w_c19
  · exact w_c20
  · exact w_c21
set_option maxRecDepth 65536 in
theorem w_t1 : (words1.take 24).all (fun c => isCode c || c.before args0 about1) = true := by decide +kernel
set_option maxRecDepth 65536 in
theorem w_t2 : ((words1.drop 24).take 24).all (fun c => isCode c || c.before args0 about1) = true := by decide +kernel
set_option maxRecDepth 65536 in
theorem w_t3 : (((words1.drop 24).drop 24).take 24).all (fun c => isCode c || c.before args0 about1) = true := by decide +kernel
set_option maxRecDepth 65536 in
theorem w_t4 : ((((words1.drop 24).drop 24).drop 24).take 24).all (fun c => isCode c || c.before args0 about1) = true := by decide +kernel
set_option maxRecDepth 65536 in
theorem w_t5 : ((((words1.drop 24).drop 24).drop 24).drop 24).all (fun c => isCode c || c.before args0 about1) = true := by decide +kernel
theorem w_tables : (allAtoms (Jvm.Cond.code x code maxLocals ret :: tables_1)).before args0 about1 = true := by
  rw [allAtoms_all]
  show words1.all (fun c => c.before args0 about1) = true
  refine all_split ?_ w_codes
  rw [← List.take_append_drop 24 words1, List.all_append, w_t1, ← List.take_append_drop 24 (words1.drop 24), List.all_append, w_t2, ← List.take_append_drop 24 ((words1.drop 24).drop 24), List.all_append, w_t3, ← List.take_append_drop 24 (((words1.drop 24).drop 24).drop 24), List.all_append, w_t4, w_t5]
  rfl
set_option maxRecDepth 65536 in
theorem w_rest : rest_1_c.before args0 about1 = true := by decide +kernel
set_option maxRecDepth 65536 in
theorem w_case : (Jvm.Cond.and given_1 narrow_1).before args0 about1 = true := by decide +kernel
set_option maxRecDepth 65536 in
theorem w_consts : constsHeld consts_1 about1 := Jvm.Lit.constsHeldB_iff.mp (by decide +kernel)
theorem w_applies : (headSpec (Jvm.Cond.code x code maxLocals ret :: tables_1) room_1).applies x e0.platform about1 = true :=
  (Spec.applies_iff w_frames).mpr ⟨w_running, w_runnable, w_alone, w_named, w_hears, w_ripe, w_room, w_tables⟩
theorem atStart : AtStart classFile x code maxLocals ret World_1 tables_1 room_1 Calls_1 rest_1 Pre_1 launch0 p0 e0 about1 theMethod args0 below0 :=
  ⟨lists_1, trivial, launch0.admits_env _ _ _, launch0.least_env, fairChoices_fair.cas, fairChoices_fair.clock, w_frames, w_args, w_heap, w_applies, ⟨w_consts, trivial⟩, w_rest, w_case⟩
end start1
theorem witness_1 : WitnessClaimed_1 := ⟨start1.p0, start1.e0, start1.about1, start1.theMethod, start1.args0, start1.below0, start1.atStart⟩
end Jvm.Pilot.@@N@@
