import JvmDerived
import JvmDerived.Pilot.@@N@@Statement
import JvmDerived.Pilot.@@N@@Code
set_option linter.unusedVariables false
set_option linter.unusedSimpArgs false
namespace Jvm.RoadKit
open Sem ClassFile Op Lib Jvm.Stand Jvm.Free Jvm.LawKit
section New
variable {p : Program} {l : Launch} {e : Env} {R : Room} {s : State} {m : MethodId} {args : Array Value} {below : List Frame} {meth : Method} {c : Code} {T : State} {locs : List Loc} {cells slots : Nat}
theorem retI (X : Stand p l e R s m args below meth c T locs cells slots) (hx : p.tables.exec = Jvm.exec) {pc : Nat} {Ls : Array Slot} {z : Int32} {rest : List Value} (hret : meth.sig.returnType = some .int) (hd : decode c.code pc = .ok (.ireturn, 1)) {fs : List Frame}
    (hl : ∀ (f : JFrame) (acts : List Action), f.method = m → f.locked = none → f.entered = [] → (doReturn e (T.setTop f) acts (some (.int z))).1 = T.setFrames fs) : Steps p.tables e below (T.setTop (mkF m pc Ls (.int z :: rest))) (T.setFrames fs) := by
  have hm' : T.vm.method? m = some meth := X.method'
  have hn : narrow .int (.int z) = .int z := rfl
  show Steps p.tables e below (T.setTop { method := m, pc := pc, locals := Ls, stack := _ :: rest, locked := none }) _
  jvm_step X.here [X.here.top, hx, hd, hm', hret, hn]
  first | (intro acts; rw [hl _ acts rfl rfl rfl]) | rw [hl _ _ rfl rfl rfl]
  exact Steps.refl _
theorem own_retJ (X : Stand p l e R s m args below meth c T locs cells slots) (hx : p.tables.exec = Jvm.exec) {pc : Nat} {Ls : Array Slot} {z : Int64} {rest : List Value} (hret : meth.sig.returnType = some .long) (hd : decode c.code pc = .ok (.lreturn, 1)) {fs : List Frame}
    (hl : ∀ (f : JFrame) (acts : List Action), f.method = m → f.locked = none → f.entered = [] → (doReturn e (T.setTop f) acts (some (.long z))).1 = T.setFrames fs) : Steps p.tables e below (T.setTop (mkF m pc Ls (.long z :: rest))) (T.setFrames fs) := by
  have hm' : T.vm.method? m = some meth := X.method'
  show Steps p.tables e below (T.setTop { method := m, pc := pc, locals := Ls, stack := _ :: rest, locked := none }) _
  jvm_step X.here [X.here.top, hx, hd, hm', hret, narrow]
  first | (intro acts; rw [hl _ acts rfl rfl rfl]) | rw [hl _ _ rfl rfl rfl]
  exact Steps.refl _
theorem own_retA (X : Stand p l e R s m args below meth c T locs cells slots) (hx : p.tables.exec = Jvm.exec) {pc : Nat} {Ls : Array Slot} {z : Addr} {rest : List Value} {ty : FieldType} (hret : meth.sig.returnType = some ty) (hty : ty.isReference = true) (hd : decode c.code pc = .ok (.areturn, 1)) {fs : List Frame}
    (hl : ∀ (f : JFrame) (acts : List Action), f.method = m → f.locked = none → f.entered = [] → (doReturn e (T.setTop f) acts (some (.ref z))).1 = T.setFrames fs) : Steps p.tables e below (T.setTop (mkF m pc Ls (.ref z :: rest))) (T.setFrames fs) := by
  have hm' : T.vm.method? m = some meth := X.method'
  show Steps p.tables e below (T.setTop { method := m, pc := pc, locals := Ls, stack := _ :: rest, locked := none }) _
  jvm_step X.here [X.here.top, hx, hd, hm', hret, hty, Value.isRef]
  first | (intro acts; rw [hl _ acts rfl rfl rfl]) | rw [hl _ _ rfl rfl rfl]
  exact Steps.refl _
end New
end Jvm.RoadKit
namespace Jvm.Pilot.@@N@@
open Jvm Jvm.ClassFile Sem Op Lib Jvm.Free Jvm.Stand Jvm.LawKit Jvm.RoadKit Bundle Jvm.Pilot.@@N@@.Jvm.D
/-- a body that leaves the heap as it is and returns w -/
def QV (w : Value) (h0 : Heap) (n0 : Nat) (v : Option Value) (h : Heap) (L : List Loc) : Prop := v = some w ∧ Fr n0 L ∧ h = h0
def QL (n0 : Nat) (v : Option Value) (h : Heap) (L : List Loc) : Prop := v = some (.int 1) ∧ Fr n0 L
theorem own_eqv {args : Array Value} {first s : State} {o : Option Outcome} {idx : List Nat} {t : Term} {k : Int32} (h : (Jvm.Cond.eq t (.int k)).value args first o s idx = some true) : t.eval args first o idx s = some (.int k) := by
  obtain ⟨x, y, e1, e2, -, -⟩ := cmp_v (Or.inl h)
  obtain rfl : y = .int k := (Option.some.inj e2).symm
  have e3 : (Term.int k).eval args first o idx s = some (.int k) := rfl
  cases x <;> simp [Cond.value, e1, e3] at h ⊢
  exact h
theorem own_bit (order sign bit mn : Int32) (h0 : mn = (if order < (1 : Int32) then order else (1 : Int32))) (h1 : sign = (if (-1 : Int32) < mn then mn else (-1 : Int32))) (h2 : bit = (1 : Int32) <<< ((sign + (1 : Int32)) &&& 31)) :
    (order < 0 ∧ ¬ order = 0 ∧ ¬ 0 < order ∧ bit = 1) ∨ (¬ order < 0 ∧ order = 0 ∧ ¬ 0 < order ∧ bit = 2) ∨ (¬ order < 0 ∧ ¬ order = 0 ∧ 0 < order ∧ bit = 4) := by
  have l1 : (1 : Int32).toInt = 1 := rfl
  have l0 : (0 : Int32).toInt = 0 := rfl
  have lm : (-1 : Int32).toInt = -1 := rfl
  have ei : ∀ a b : Int32, a.toInt = b.toInt → a = b := fun a b h => Int32.toInt_inj.mp h
  by_cases c1 : order < 0
  · have a1 : order < 1 := by rw [Int32.lt_iff_toInt_lt] at c1 ⊢; omega
    have a2 : ¬ (-1 : Int32) < order := by rw [Int32.lt_iff_toInt_lt] at c1 ⊢; omega
    rw [if_pos a1] at h0; subst h0; rw [if_neg a2] at h1; subst h1
    refine Or.inl ⟨c1, fun q => ?_, ?_, by rw [h2]; decide⟩
    · subst q; exact absurd c1 (by decide)
    · rw [Int32.lt_iff_toInt_lt] at c1 ⊢; omega
  · by_cases c2 : order = 0
    · subst c2; rw [if_pos (by decide)] at h0; subst h0; rw [if_pos (by decide)] at h1; subst h1
      exact Or.inr (Or.inl ⟨by decide, rfl, by decide, by rw [h2]; decide⟩)
    · have c3 : 0 < order := by
        rw [Int32.lt_iff_toInt_lt] at c1 ⊢
        have : order.toInt ≠ 0 := fun q => c2 (ei _ _ (by rw [q, l0]))
        omega
      have e1 : mn = 1 := by
        rw [h0]; split
        · rename_i q; exfalso; rw [Int32.lt_iff_toInt_lt] at q c3; omega
        · rfl
      subst e1; rw [if_pos (by decide)] at h1; subst h1
      exact Or.inr (Or.inr ⟨c1, c2, c3, by rw [h2]; decide⟩)
theorem d1_0 : decode jdk_29_method_69_code 0 = .ok (.iload_n 0, 1) := by decide +kernel
theorem d1_1 : decode jdk_29_method_69_code 1 = .ok (.iload_n 1, 1) := by decide +kernel
theorem d1_2 : decode jdk_29_method_69_code 2 = .ok (.if_icmp .gt 7, 3) := by decide +kernel
theorem d1_5 : decode jdk_29_method_69_code 5 = .ok (.iload_n 0, 1) := by decide +kernel
theorem d1_6 : decode jdk_29_method_69_code 6 = .ok (.goto 4, 3) := by decide +kernel
theorem d1_9 : decode jdk_29_method_69_code 9 = .ok (.iload_n 1, 1) := by decide +kernel
theorem d1_10 : decode jdk_29_method_69_code 10 = .ok (.ireturn, 1) := by decide +kernel
theorem ef_rm1 (m : MethodId) (x : Int32) (y : Int32) : entryFrame m #[(.int x), (.int y)] 2 = mkF m 0 #[.val (.int x), .val (.int y)] [] := by first | (simp [entryFrame, mkF, argsToLocals, Value.category]; done) | rfl
set_option maxRecDepth 65536 in
set_option maxHeartbeats 40000000 in
theorem rm1 (l : Launch) (Z : State) (a0 : Array Value) (hw : ∀ d ∈ tables_1, d.before a0 Z = true) (ws : List Jvm.Cond) (x : Int32) (y : Int32)  (h0 : Heap) (n0 : Nat)  :
    MetFree l (⟨"java/lang/Math", "min", "(II)I"⟩ : MethodName) (head1 (Jvm.Cond.code (⟨"java/lang/Math", "min", "(II)I"⟩ : MethodName) jdk_29_method_69_code 2 (some .int) :: ws) ({ frames := 0, cells := 0, slots := 0, locals := 0 } : Room)) (fun a_ U_ => a_ = #[(.int x), (.int y)] ∧ Z.Warmed39 U_.vm ∧ U_.heap = h0) (fun _ _ _ _ _ => True) (fun _ U_ o_ U'_ => ∃ v_ L_, o_ = .returned v_ ∧ QV (.int (if y < x then y else x)) h0 n0 v_ U'_.heap L_ ∧ FrameEnd U_ o_ U'_ L_ ({ frames := 0, cells := 0, slots := 0, locals := 0 } : Room).cells ({ frames := 0, cells := 0, slots := 0, locals := 0 } : Room).slots) := by
  refine MetFree.of_bodySF (Jvm.Free.JP.mathPlain rfl (by decide +kernel)) hisR ?_
  intro p e s m args below meth c s₁ Bd hml0 hP hK
  obtain ⟨rfl, hZ, hh⟩ := hP
  have hx := Bd.exec
  have hby := Bd.bytes
  have hml : c.maxLocals = 2 := hml0
  have hown : s.vm.findClass "java/lang/Math" = some m.cls := findClass_of_methodNamed Bd.named
  have hnm := (name_of_methodNamed Bd.named Bd.method).1
  have X0 : Stand p l e ({ frames := 0, cells := 0, slots := 0, locals := 0 } : Room) s m #[(.int x), (.int y)] below meth c s₁ [] 0 0 := Stand.of_body Bd
  have e0 : s₁.heap = h0 := by rw [← hh, Bd.state]; rfl
  have N0 := Fr.nil n0
  have k0 : ∀ tg, Steps p.tables e below (s₁.setTop (mkF m 0 #[.val (.int x), .val (.int y)] [])) tg → Steps p.tables e below (s₁.setTop (entryFrame m #[(.int x), (.int y)] 2)) tg := fun tg k => castTop (ef_rm1 m x y) k
  have k1 : ∀ tg, Steps p.tables e below (s₁.setTop (mkF m 2 #[.val (.int x), .val (.int y)] [(.int y), (.int x)])) tg → Steps p.tables e below (s₁.setTop (entryFrame m #[(.int x), (.int y)] 2)) tg := by
    intro tg kt
    refine k0 tg ?_
    show Steps p.tables e below (s₁.setTop (mkF m 0 #[.val (.int x), .val (.int y)] [])) _
    refine XS.iloadN X0.here hx rfl (hb hby d1_0) rfl ?_
    show Steps p.tables e below (s₁.setTop (mkF m 1 #[.val (.int x), .val (.int y)] [(.int x)])) _
    refine XS.iloadN X0.here hx rfl (hb hby d1_1) rfl ?_
    show Steps p.tables e below (s₁.setTop (mkF m 2 #[.val (.int x), .val (.int y)] [(.int y), (.int x)])) _
    exact kt
  have k5 : ∀ tg, Steps p.tables e below (s₁.setTop (mkF m 10 #[.val (.int x), .val (.int y)] [(.int (if y < x then y else x))])) tg → Steps p.tables e below (s₁.setTop (entryFrame m #[(.int x), (.int y)] 2)) tg := by
    intro tg kt
    refine k1 tg ?_
    show Steps p.tables e below (s₁.setTop (mkF m 2 #[.val (.int x), .val (.int y)] [(.int y), (.int x)])) _
    by_cases hc2 : y < x
    · refine XS.icmpYes X0.here hx rfl (pc0 := 2) (pc' := 9) rfl (hb hby d1_2) rfl (tlt hc2).2.2.1 (by decide) (by decide) ?_
      show Steps p.tables e below (s₁.setTop (mkF m 9 #[.val (.int x), .val (.int y)] [])) _
      refine XS.iloadN X0.here hx rfl (hb hby d1_9) rfl ?_
      show Steps p.tables e below (s₁.setTop (mkF m 10 #[.val (.int x), .val (.int y)] [(.int y)])) _
      repeat rw [if_pos hc2] at kt
      exact kt
    · refine XS.icmpNo X0.here hx rfl (hb hby d1_2) rfl (flt hc2).2.2.1 ?_
      show Steps p.tables e below (s₁.setTop (mkF m 5 #[.val (.int x), .val (.int y)] [])) _
      refine XS.iloadN X0.here hx rfl (hb hby d1_5) rfl ?_
      show Steps p.tables e below (s₁.setTop (mkF m 6 #[.val (.int x), .val (.int y)] [(.int x)])) _
      refine XS.goto X0.here hx rfl (pc0 := 6) (pc' := 10) rfl (hb hby d1_6) (by decide) (by decide) ?_
      show Steps p.tables e below (s₁.setTop (mkF m 10 #[.val (.int x), .val (.int y)] [(.int x)])) _
      repeat rw [if_neg hc2] at kt
      exact kt
  obtain ⟨z6, ez6⟩ : ∃ z : Int32, z = (if y < x then y else x) := ⟨_, rfl⟩
  have k7 : ∀ tg, Steps p.tables e below (s₁.setTop (mkF m 10 #[.val (.int x), .val (.int y)] [(.int z6)])) tg → Steps p.tables e below (s₁.setTop (entryFrame m #[(.int x), (.int y)] 2)) tg := by
    intro tg kt
    refine k5 tg ?_
    show Steps p.tables e below (s₁.setTop (mkF m 10 #[.val (.int x), .val (.int y)] [(.int (if y < x then y else x))])) _
    rw [← ez6]
    show Steps p.tables e below (s₁.setTop (mkF m 10 #[.val (.int x), .val (.int y)] [(.int z6)])) _
    exact kt
  obtain ⟨fs, hr, hrun, hended, hW, hsame⟩ := X0.leave (v := some (.int z6)) (fun h => by rw [Bd.returns] at h; cases h)
  refine ⟨_, _, k7 _ ?_, hrun, hended, _, _, rfl, ?_, ⟨_, rfl⟩, hW, hsame.mono (by decide) (by decide)⟩
  · exact retI X0 hx Bd.returns (hb hby d1_10) hr
  · show QV _ h0 n0 _ s₁.heap _
    exact ⟨by subst ez6; rfl, N0, e0⟩
theorem d2_0 : decode jdk_29_method_65_code 0 = .ok (.iload_n 0, 1) := by decide +kernel
theorem d2_1 : decode jdk_29_method_65_code 1 = .ok (.iload_n 1, 1) := by decide +kernel
theorem d2_2 : decode jdk_29_method_65_code 2 = .ok (.if_icmp .lt 7, 3) := by decide +kernel
theorem d2_5 : decode jdk_29_method_65_code 5 = .ok (.iload_n 0, 1) := by decide +kernel
theorem d2_6 : decode jdk_29_method_65_code 6 = .ok (.goto 4, 3) := by decide +kernel
theorem d2_9 : decode jdk_29_method_65_code 9 = .ok (.iload_n 1, 1) := by decide +kernel
theorem d2_10 : decode jdk_29_method_65_code 10 = .ok (.ireturn, 1) := by decide +kernel
theorem ef_rm2 (m : MethodId) (x : Int32) (y : Int32) : entryFrame m #[(.int x), (.int y)] 2 = mkF m 0 #[.val (.int x), .val (.int y)] [] := by first | (simp [entryFrame, mkF, argsToLocals, Value.category]; done) | rfl
set_option maxRecDepth 65536 in
set_option maxHeartbeats 40000000 in
theorem rm2 (l : Launch) (Z : State) (a0 : Array Value) (hw : ∀ d ∈ tables_1, d.before a0 Z = true) (ws : List Jvm.Cond) (x : Int32) (y : Int32)  (h0 : Heap) (n0 : Nat)  :
    MetFree l (⟨"java/lang/Math", "max", "(II)I"⟩ : MethodName) (head1 (Jvm.Cond.code (⟨"java/lang/Math", "max", "(II)I"⟩ : MethodName) jdk_29_method_65_code 2 (some .int) :: ws) ({ frames := 0, cells := 0, slots := 0, locals := 0 } : Room)) (fun a_ U_ => a_ = #[(.int x), (.int y)] ∧ Z.Warmed39 U_.vm ∧ U_.heap = h0) (fun _ _ _ _ _ => True) (fun _ U_ o_ U'_ => ∃ v_ L_, o_ = .returned v_ ∧ QV (.int (if x < y then y else x)) h0 n0 v_ U'_.heap L_ ∧ FrameEnd U_ o_ U'_ L_ ({ frames := 0, cells := 0, slots := 0, locals := 0 } : Room).cells ({ frames := 0, cells := 0, slots := 0, locals := 0 } : Room).slots) := by
  refine MetFree.of_bodySF (Jvm.Free.JP.mathPlain rfl (by decide +kernel)) hisR ?_
  intro p e s m args below meth c s₁ Bd hml0 hP hK
  obtain ⟨rfl, hZ, hh⟩ := hP
  have hx := Bd.exec
  have hby := Bd.bytes
  have hml : c.maxLocals = 2 := hml0
  have hown : s.vm.findClass "java/lang/Math" = some m.cls := findClass_of_methodNamed Bd.named
  have hnm := (name_of_methodNamed Bd.named Bd.method).1
  have X0 : Stand p l e ({ frames := 0, cells := 0, slots := 0, locals := 0 } : Room) s m #[(.int x), (.int y)] below meth c s₁ [] 0 0 := Stand.of_body Bd
  have e0 : s₁.heap = h0 := by rw [← hh, Bd.state]; rfl
  have N0 := Fr.nil n0
  have k0 : ∀ tg, Steps p.tables e below (s₁.setTop (mkF m 0 #[.val (.int x), .val (.int y)] [])) tg → Steps p.tables e below (s₁.setTop (entryFrame m #[(.int x), (.int y)] 2)) tg := fun tg k => castTop (ef_rm2 m x y) k
  have k1 : ∀ tg, Steps p.tables e below (s₁.setTop (mkF m 2 #[.val (.int x), .val (.int y)] [(.int y), (.int x)])) tg → Steps p.tables e below (s₁.setTop (entryFrame m #[(.int x), (.int y)] 2)) tg := by
    intro tg kt
    refine k0 tg ?_
    show Steps p.tables e below (s₁.setTop (mkF m 0 #[.val (.int x), .val (.int y)] [])) _
    refine XS.iloadN X0.here hx rfl (hb hby d2_0) rfl ?_
    show Steps p.tables e below (s₁.setTop (mkF m 1 #[.val (.int x), .val (.int y)] [(.int x)])) _
    refine XS.iloadN X0.here hx rfl (hb hby d2_1) rfl ?_
    show Steps p.tables e below (s₁.setTop (mkF m 2 #[.val (.int x), .val (.int y)] [(.int y), (.int x)])) _
    exact kt
  have k5 : ∀ tg, Steps p.tables e below (s₁.setTop (mkF m 10 #[.val (.int x), .val (.int y)] [(.int (if x < y then y else x))])) tg → Steps p.tables e below (s₁.setTop (entryFrame m #[(.int x), (.int y)] 2)) tg := by
    intro tg kt
    refine k1 tg ?_
    show Steps p.tables e below (s₁.setTop (mkF m 2 #[.val (.int x), .val (.int y)] [(.int y), (.int x)])) _
    by_cases hc2 : x < y
    · refine XS.icmpYes X0.here hx rfl (pc0 := 2) (pc' := 9) rfl (hb hby d2_2) rfl (tlt hc2).1 (by decide) (by decide) ?_
      show Steps p.tables e below (s₁.setTop (mkF m 9 #[.val (.int x), .val (.int y)] [])) _
      refine XS.iloadN X0.here hx rfl (hb hby d2_9) rfl ?_
      show Steps p.tables e below (s₁.setTop (mkF m 10 #[.val (.int x), .val (.int y)] [(.int y)])) _
      repeat rw [if_pos hc2] at kt
      exact kt
    · refine XS.icmpNo X0.here hx rfl (hb hby d2_2) rfl (flt hc2).1 ?_
      show Steps p.tables e below (s₁.setTop (mkF m 5 #[.val (.int x), .val (.int y)] [])) _
      refine XS.iloadN X0.here hx rfl (hb hby d2_5) rfl ?_
      show Steps p.tables e below (s₁.setTop (mkF m 6 #[.val (.int x), .val (.int y)] [(.int x)])) _
      refine XS.goto X0.here hx rfl (pc0 := 6) (pc' := 10) rfl (hb hby d2_6) (by decide) (by decide) ?_
      show Steps p.tables e below (s₁.setTop (mkF m 10 #[.val (.int x), .val (.int y)] [(.int x)])) _
      repeat rw [if_neg hc2] at kt
      exact kt
  obtain ⟨z6, ez6⟩ : ∃ z : Int32, z = (if x < y then y else x) := ⟨_, rfl⟩
  have k7 : ∀ tg, Steps p.tables e below (s₁.setTop (mkF m 10 #[.val (.int x), .val (.int y)] [(.int z6)])) tg → Steps p.tables e below (s₁.setTop (entryFrame m #[(.int x), (.int y)] 2)) tg := by
    intro tg kt
    refine k5 tg ?_
    show Steps p.tables e below (s₁.setTop (mkF m 10 #[.val (.int x), .val (.int y)] [(.int (if x < y then y else x))])) _
    rw [← ez6]
    show Steps p.tables e below (s₁.setTop (mkF m 10 #[.val (.int x), .val (.int y)] [(.int z6)])) _
    exact kt
  obtain ⟨fs, hr, hrun, hended, hW, hsame⟩ := X0.leave (v := some (.int z6)) (fun h => by rw [Bd.returns] at h; cases h)
  refine ⟨_, _, k7 _ ?_, hrun, hended, _, _, rfl, ?_, ⟨_, rfl⟩, hW, hsame.mono (by decide) (by decide)⟩
  · exact retI X0 hx Bd.returns (hb hby d2_10) hr
  · show QV _ h0 n0 _ s₁.heap _
    exact ⟨by subst ez6; rfl, N0, e0⟩
theorem d5_0 : decode jdk_37_method_2_code 0 = .ok (.aload_n 0, 1) := by decide +kernel
theorem d5_1 : decode jdk_37_method_2_code 1 = .ok (.getfield 7, 3) := by decide +kernel
theorem d5_4 : decode jdk_37_method_2_code 4 = .ok (.ireturn, 1) := by decide +kernel
theorem pn_5 : plainName "java/lang/Enum" = true := by first | (simp [plainName, overriddenIn]; done) | decide +kernel
theorem ef_rm5 (m : MethodId) (b : Addr) : entryFrame m #[(.ref b)] 1 = mkF m 0 #[.val (.ref b)] [] := by first | (simp [entryFrame, mkF, argsToLocals, Value.category]; done) | rfl
set_option maxRecDepth 65536 in
set_option maxHeartbeats 40000000 in
theorem rm5 (l : Launch) (Z : State) (a0 : Array Value) (hw : ∀ d ∈ tables_1, d.before a0 Z = true) (ws : List Jvm.Cond) (b : Addr) (od : Int32) (h0 : Heap) (n0 : Nat) (Fo : Fld Z h0 b "java/lang/Enum" "ordinal" "I" (.int od)) :
    MetFree l (⟨"java/lang/Enum", "ordinal", "()I"⟩ : MethodName) (head1 (Jvm.Cond.code (⟨"java/lang/Enum", "ordinal", "()I"⟩ : MethodName) jdk_37_method_2_code 1 (some .int) :: ws) ({ frames := 0, cells := 0, slots := 0, locals := 0 } : Room)) (fun a_ U_ => a_ = #[(.ref b)] ∧ Z.Warmed39 U_.vm ∧ U_.heap = h0) (fun _ _ _ _ _ => True) (fun _ U_ o_ U'_ => ∃ v_ L_, o_ = .returned v_ ∧ QV (.int od) h0 n0 v_ U'_.heap L_ ∧ FrameEnd U_ o_ U'_ L_ ({ frames := 0, cells := 0, slots := 0, locals := 0 } : Room).cells ({ frames := 0, cells := 0, slots := 0, locals := 0 } : Room).slots) := by
  refine MetFree.of_bodySF (plainFor_of_name pn_5) hisR ?_
  intro p e s m args below meth c s₁ Bd hml0 hP hK
  obtain ⟨rfl, hZ, hh⟩ := hP
  have hx := Bd.exec
  have hby := Bd.bytes
  have hml : c.maxLocals = 1 := hml0
  have hown : s.vm.findClass "java/lang/Enum" = some m.cls := findClass_of_methodNamed Bd.named
  have hnm := (name_of_methodNamed Bd.named Bd.method).1
  have X0 : Stand p l e ({ frames := 0, cells := 0, slots := 0, locals := 0 } : Room) s m #[(.ref b)] below meth c s₁ [] 0 0 := Stand.of_body Bd
  have e0 : s₁.heap = h0 := by rw [← hh, Bd.state]; rfl
  have N0 := Fr.nil n0
  have k0 : ∀ tg, Steps p.tables e below (s₁.setTop (mkF m 0 #[.val (.ref b)] [])) tg → Steps p.tables e below (s₁.setTop (entryFrame m #[(.ref b)] 1)) tg := fun tg k => castTop (ef_rm5 m b) k
  obtain ⟨T1, X1, e1, st1⟩ := getF X0 hx hZ hown (host := "") (Or.inl (hw _ (List.mem_of_getElem? (i := 26) rfl))) Via.refl e0 Fo (g := (mkF m 1 #[.val (.ref b)] [(.ref b)])) rfl rfl (hb hby d5_1)
  have k2 : ∀ tg, Steps p.tables e below (T1.setTop (mkF m 4 #[.val (.ref b)] [(.int od)])) tg → Steps p.tables e below (s₁.setTop (entryFrame m #[(.ref b)] 1)) tg := by
    intro tg kt
    refine k0 tg ?_
    show Steps p.tables e below (s₁.setTop (mkF m 0 #[.val (.ref b)] [])) _
    refine XS.aloadN X0.here hx rfl (hb hby d5_0) rfl rfl ?_
    show Steps p.tables e below (s₁.setTop (mkF m 1 #[.val (.ref b)] [(.ref b)])) _
    refine st1 _ ?_
    show Steps p.tables e below (T1.setTop (mkF m 4 #[.val (.ref b)] [(.int od)])) _
    exact kt
  obtain ⟨fs, hr, hrun, hended, hW, hsame⟩ := X1.leave (v := some (.int od)) (fun h => by rw [Bd.returns] at h; cases h)
  refine ⟨_, _, k2 _ ?_, hrun, hended, _, _, rfl, ?_, ⟨_, rfl⟩, hW, hsame.mono (by decide) (by decide)⟩
  · exact retI X1 hx Bd.returns (hb hby d5_4) hr
  · show QV _ h0 n0 _ T1.heap _
    exact ⟨rfl, N0, e1⟩
theorem d4_0 : decode prog_106_method_5_code 0 = .ok (.aload_n 0, 1) := by decide +kernel
theorem d4_1 : decode prog_106_method_5_code 1 = .ok (.invokevirtual 45, 3) := by decide +kernel
theorem d4_4 : decode prog_106_method_5_code 4 = .ok (.tableswitch 40 0 5 #[50, 62, 74, 86, 98, 110], 40) := by decide +kernel
theorem d4_54 : decode prog_106_method_5_code 54 = .ok (.iload_n 1, 1) := by decide +kernel
theorem d4_55 : decode prog_106_method_5_code 55 = .ok (.ifCond .ne 7, 3) := by decide +kernel
theorem d4_58 : decode prog_106_method_5_code 58 = .ok (.iconst 1, 1) := by decide +kernel
theorem d4_59 : decode prog_106_method_5_code 59 = .ok (.goto 64, 3) := by decide +kernel
theorem d4_62 : decode prog_106_method_5_code 62 = .ok (.iconst 0, 1) := by decide +kernel
theorem d4_63 : decode prog_106_method_5_code 63 = .ok (.goto 60, 3) := by decide +kernel
theorem d4_123 : decode prog_106_method_5_code 123 = .ok (.ireturn, 1) := by decide +kernel
theorem pn_4 : plainName "com/example/unraveling/unraveling/query/ValueTest$Operator" = true := by first | (simp [plainName, overriddenIn]; done) | decide +kernel
theorem pd_0 : parseMethodDescriptor "()I" = some ⟨[], some .int⟩ := by decide +kernel
theorem ef_rm4_0 (m : MethodId) (b : Addr) (ord : Int32) : entryFrame m #[(.ref b), (.int ord)] 2 = mkF m 0 #[.val (.ref b), .val (.int ord)] [] := by first | (simp [entryFrame, mkF, argsToLocals, Value.category]; done) | rfl
set_option maxRecDepth 65536 in
set_option maxHeartbeats 40000000 in
theorem rm4_0 (l : Launch) (Z : State) (a0 : Array Value) (hw : ∀ d ∈ tables_1, d.before a0 Z = true) (ws : List Jvm.Cond) (b : Addr) (ord : Int32)  (h0 : Heap) (n0 : Nat) (Eb : Exa Z h0 b "com/example/unraveling/unraveling/query/ValueTest$Operator") (Fo : Fld Z h0 b "java/lang/Enum" "ordinal" "I" (.int (0 : Int32))) :
    MetFree l (⟨"com/example/unraveling/unraveling/query/ValueTest$Operator", "holds", "(I)Z"⟩ : MethodName) (head1 (Jvm.Cond.code (⟨"com/example/unraveling/unraveling/query/ValueTest$Operator", "holds", "(I)Z"⟩ : MethodName) prog_106_method_5_code 2 (some .boolean) :: ws) ({ frames := 1, cells := 0, slots := 0, locals := 12 } : Room)) (fun a_ U_ => a_ = #[(.ref b), (.int ord)] ∧ Z.Warmed39 U_.vm ∧ U_.heap = h0) (fun _ _ _ _ _ => True) (fun _ U_ o_ U'_ => ∃ v_ L_, o_ = .returned v_ ∧ QV (.int (if ord = (0 : Int32) then (1 : Int32) else (0 : Int32))) h0 n0 v_ U'_.heap L_ ∧ FrameEnd U_ o_ U'_ L_ ({ frames := 1, cells := 0, slots := 0, locals := 12 } : Room).cells ({ frames := 1, cells := 0, slots := 0, locals := 12 } : Room).slots) := by
  refine MetFree.of_bodySF (plainFor_of_name pn_4) hisR ?_
  intro p e s m args below meth c s₁ Bd hml0 hP hK
  obtain ⟨rfl, hZ, hh⟩ := hP
  have hx := Bd.exec
  have hby := Bd.bytes
  have hml : c.maxLocals = 2 := hml0
  have hown : s.vm.findClass "com/example/unraveling/unraveling/query/ValueTest$Operator" = some m.cls := findClass_of_methodNamed Bd.named
  have hnm := (name_of_methodNamed Bd.named Bd.method).1
  have X0 : Stand p l e ({ frames := 1, cells := 0, slots := 0, locals := 12 } : Room) s m #[(.ref b), (.int ord)] below meth c s₁ [] 0 0 := Stand.of_body Bd
  have e0 : s₁.heap = h0 := by rw [← hh, Bd.state]; rfl
  have N0 := Fr.nil n0
  have k0 : ∀ tg, Steps p.tables e below (s₁.setTop (mkF m 0 #[.val (.ref b), .val (.int ord)] [])) tg → Steps p.tables e below (s₁.setTop (entryFrame m #[(.ref b), (.int ord)] 2)) tg := fun tg k => castTop (ef_rm4_0 m b ord) k
  obtain ⟨cq1, kq1, q1a, q1b, q1c⟩ := isOf hZ e0 Eb
  obtain ⟨_, _, ⟨T1, L1, k1, n1⟩, -, X1, ⟨Lc1, hQ1, l1, y1, z1⟩, st1⟩ := X0.virtualBackUp hx (x := (⟨"com/example/unraveling/unraveling/query/ValueTest$Operator", "ordinal", "()I"⟩ : MethodName)) (y := (⟨"java/lang/Enum", "ordinal", "()I"⟩ : MethodName)) (owner := "java/lang/Enum") hown (mvT hZ (hw _ (List.mem_of_getElem? (i := 19) rfl))) (mvT hZ (hw _ (List.mem_of_getElem? (i := 20) rfl))) (mvT hZ (hw _ (List.mem_of_getElem? (i := 21) rfl))) (by decide) (mvT hZ (hw _ (List.mem_of_getElem? (i := 23) rfl))) (mvT hZ (hw _ (List.mem_of_getElem? (i := 22) rfl))) (backOf (W := 0) (rm5 l Z a0 hw [] b (0 : Int32) h0 n0 Fo) hZ (hw _ (List.mem_of_getElem? (i := 25) rfl)) (hw _ (List.mem_of_getElem? (i := 24) rfl)) (by decide) (by decide)) q1a q1c (g := (mkF m 1 #[.val (.ref b), .val (.int ord)] [(.ref b)])) rfl (by rw [hml]; rfl) (Steps.refl _) (argsL := []) (rest := []) (lenOf pd_0 rfl) rfl (by show 2 * 0 + _ ≤ _; exact Nat.le_of_eq rfl) (hb hby d4_1) (fun _ _ => ⟨rfl, e0, (by decide : 0 + 0 ≤ _), (by decide : 0 + 0 ≤ _)⟩)
  dsimp only [Pt.U, Pt.locs, Pt.cells, Pt.slots] at X1 l1 y1 z1 st1 hQ1
  subst l1 y1 z1
  obtain ⟨rfl, N1q, e1⟩ := hQ1
  have N1 := Fr.app N0 N1q
  have k2 : ∀ tg, Steps p.tables e below (T1.setTop (mkF m 55 #[.val (.ref b), .val (.int ord)] [(.int ord)])) tg → Steps p.tables e below (s₁.setTop (entryFrame m #[(.ref b), (.int ord)] 2)) tg := by
    intro tg kt
    refine k0 tg ?_
    show Steps p.tables e below (s₁.setTop (mkF m 0 #[.val (.ref b), .val (.int ord)] [])) _
    refine XS.aloadN X0.here hx rfl (hb hby d4_0) rfl rfl ?_
    show Steps p.tables e below (s₁.setTop (mkF m 1 #[.val (.ref b), .val (.int ord)] [(.ref b)])) _
    refine st1.trans ?_
    show Steps p.tables e below (T1.setTop (mkF m 4 #[.val (.ref b), .val (.int ord)] [(.int (0 : Int32))])) _
    refine XS.tswIn X1.here hx rfl (pc0 := 4) (pc' := 54) rfl (hb hby d4_4) rfl (by decide) (o := 50) (by decide) (by decide) (by decide) ?_
    show Steps p.tables e below (T1.setTop (mkF m 54 #[.val (.ref b), .val (.int ord)] [])) _
    refine XS.iloadN X1.here hx rfl (hb hby d4_54) rfl ?_
    show Steps p.tables e below (T1.setTop (mkF m 55 #[.val (.ref b), .val (.int ord)] [(.int ord)])) _
    exact kt
  have k6 : ∀ tg, Steps p.tables e below (T1.setTop (mkF m 123 #[.val (.ref b), .val (.int ord)] [(.int (if ord = (0 : Int32) then (1 : Int32) else (0 : Int32)))])) tg → Steps p.tables e below (s₁.setTop (entryFrame m #[(.ref b), (.int ord)] 2)) tg := by
    intro tg kt
    refine k2 tg ?_
    show Steps p.tables e below (T1.setTop (mkF m 55 #[.val (.ref b), .val (.int ord)] [(.int ord)])) _
    by_cases hc3 : ord = (0 : Int32)
    · refine XS.ifNo X1.here hx rfl (hb hby d4_55) rfl ((if0 _ _).trans (teq hc3).2) ?_
      show Steps p.tables e below (T1.setTop (mkF m 58 #[.val (.ref b), .val (.int ord)] [])) _
      refine XS.iconst X1.here hx rfl (hb hby d4_58) ?_
      show Steps p.tables e below (T1.setTop (mkF m 59 #[.val (.ref b), .val (.int ord)] [(.int (1 : Int32))])) _
      refine XS.goto X1.here hx rfl (pc0 := 59) (pc' := 123) rfl (hb hby d4_59) (by decide) (by decide) ?_
      show Steps p.tables e below (T1.setTop (mkF m 123 #[.val (.ref b), .val (.int ord)] [(.int (1 : Int32))])) _
      repeat rw [if_pos hc3] at kt
      exact kt
    · refine XS.ifYes X1.here hx rfl (pc0 := 55) (pc' := 62) rfl (hb hby d4_55) rfl ((if0 _ _).trans (feq hc3).2) (by decide) (by decide) ?_
      show Steps p.tables e below (T1.setTop (mkF m 62 #[.val (.ref b), .val (.int ord)] [])) _
      refine XS.iconst X1.here hx rfl (hb hby d4_62) ?_
      show Steps p.tables e below (T1.setTop (mkF m 63 #[.val (.ref b), .val (.int ord)] [(.int (0 : Int32))])) _
      refine XS.goto X1.here hx rfl (pc0 := 63) (pc' := 123) rfl (hb hby d4_63) (by decide) (by decide) ?_
      show Steps p.tables e below (T1.setTop (mkF m 123 #[.val (.ref b), .val (.int ord)] [(.int (0 : Int32))])) _
      repeat rw [if_neg hc3] at kt
      exact kt
  obtain ⟨z7, ez7⟩ : ∃ z : Int32, z = (if ord = (0 : Int32) then (1 : Int32) else (0 : Int32)) := ⟨_, rfl⟩
  have k8 : ∀ tg, Steps p.tables e below (T1.setTop (mkF m 123 #[.val (.ref b), .val (.int ord)] [(.int z7)])) tg → Steps p.tables e below (s₁.setTop (entryFrame m #[(.ref b), (.int ord)] 2)) tg := by
    intro tg kt
    refine k6 tg ?_
    show Steps p.tables e below (T1.setTop (mkF m 123 #[.val (.ref b), .val (.int ord)] [(.int (if ord = (0 : Int32) then (1 : Int32) else (0 : Int32)))])) _
    rw [← ez7]
    show Steps p.tables e below (T1.setTop (mkF m 123 #[.val (.ref b), .val (.int ord)] [(.int z7)])) _
    exact kt
  obtain ⟨fs, hr, hrun, hended, hW, hsame⟩ := X1.leave (v := some (.int z7)) (fun h => by rw [Bd.returns] at h; cases h)
  refine ⟨_, _, k8 _ ?_, hrun, hended, _, _, rfl, ?_, ⟨_, rfl⟩, hW, hsame.mono (by decide) (by decide)⟩
  · exact retN X1 hx (t := .boolean) Bd.returns (by simp) (hb hby d4_123) (by rw [show nar .boolean z7 = z7 from (by rw [ez7]; (repeat' split) <;> decide)]; exact hr)
  · show QV _ h0 n0 _ T1.heap _
    exact ⟨by subst ez7; rfl, N1, e1⟩
theorem d3_0 : decode method_3_code 0 = .ok (.aload_n 0, 1) := by decide +kernel
theorem d3_1 : decode method_3_code 1 = .ok (.iload_n 1, 1) := by decide +kernel
theorem d3_2 : decode method_3_code 2 = .ok (.invokevirtual 43, 3) := by decide +kernel
theorem d3_5 : decode method_3_code 5 = .ok (.iload_n 2, 1) := by decide +kernel
theorem d3_6 : decode method_3_code 6 = .ok (.iload_n 3, 1) := by decide +kernel
theorem d3_7 : decode method_3_code 7 = .ok (.iand, 1) := by decide +kernel
theorem d3_8 : decode method_3_code 8 = .ok (.ifCond .eq 7, 3) := by decide +kernel
theorem d3_11 : decode method_3_code 11 = .ok (.iconst 1, 1) := by decide +kernel
theorem d3_12 : decode method_3_code 12 = .ok (.goto 4, 3) := by decide +kernel
theorem d3_15 : decode method_3_code 15 = .ok (.iconst 0, 1) := by decide +kernel
theorem d3_16 : decode method_3_code 16 = .ok (.if_icmp .ne 7, 3) := by decide +kernel
theorem d3_19 : decode method_3_code 19 = .ok (.iconst 1, 1) := by decide +kernel
theorem d3_20 : decode method_3_code 20 = .ok (.goto 4, 3) := by decide +kernel
theorem d3_23 : decode method_3_code 23 = .ok (.iconst 0, 1) := by decide +kernel
theorem d3_24 : decode method_3_code 24 = .ok (.ireturn, 1) := by decide +kernel
theorem pn_3 : plainName "com/example/unraveling/unraveling/query/OperatorHoldsPinLaw" = true := by first | (simp [plainName, overriddenIn]; done) | decide +kernel
theorem pd_1 : parseMethodDescriptor "(I)Z" = some ⟨[.int], some .boolean⟩ := by decide +kernel
theorem ef_rm3_0 (m : MethodId) (b : Addr) (ord : Int32) (acc : Int32) (bit : Int32) : entryFrame m #[(.ref b), (.int ord), (.int acc), (.int bit)] 4 = mkF m 0 #[.val (.ref b), .val (.int ord), .val (.int acc), .val (.int bit)] [] := by first | (simp [entryFrame, mkF, argsToLocals, Value.category]; done) | rfl
set_option maxRecDepth 65536 in
set_option maxHeartbeats 40000000 in
theorem rm3_0 (l : Launch) (Z : State) (a0 : Array Value) (hw : ∀ d ∈ tables_1, d.before a0 Z = true) (ws : List Jvm.Cond) (b : Addr) (ord : Int32) (acc : Int32) (bit : Int32)  (h0 : Heap) (n0 : Nat) (Eb : Exa Z h0 b "com/example/unraveling/unraveling/query/ValueTest$Operator") (Fo : Fld Z h0 b "java/lang/Enum" "ordinal" "I" (.int (0 : Int32))) :
    MetFree l (⟨"com/example/unraveling/unraveling/query/OperatorHoldsPinLaw", "ok", "(Lcom/example/unraveling/unraveling/query/ValueTest$Operator;III)Z"⟩ : MethodName) (head1 (Jvm.Cond.code (⟨"com/example/unraveling/unraveling/query/OperatorHoldsPinLaw", "ok", "(Lcom/example/unraveling/unraveling/query/ValueTest$Operator;III)Z"⟩ : MethodName) method_3_code 4 (some .boolean) :: ws) ({ frames := 2, cells := 0, slots := 0, locals := 25 } : Room)) (fun a_ U_ => a_ = #[(.ref b), (.int ord), (.int acc), (.int bit)] ∧ Z.Warmed39 U_.vm ∧ U_.heap = h0) (fun _ _ _ _ _ => True) (fun _ U_ o_ U'_ => ∃ v_ L_, o_ = .returned v_ ∧ QV (.int (if (if ord = (0 : Int32) then (1 : Int32) else (0 : Int32)) = (if (acc &&& bit) = (0 : Int32) then (0 : Int32) else (1 : Int32)) then (1 : Int32) else (0 : Int32))) h0 n0 v_ U'_.heap L_ ∧ FrameEnd U_ o_ U'_ L_ ({ frames := 2, cells := 0, slots := 0, locals := 25 } : Room).cells ({ frames := 2, cells := 0, slots := 0, locals := 25 } : Room).slots) := by
  refine MetFree.of_bodySF (plainFor_of_name pn_3) hisR ?_
  intro p e s m args below meth c s₁ Bd hml0 hP hK
  obtain ⟨rfl, hZ, hh⟩ := hP
  have hx := Bd.exec
  have hby := Bd.bytes
  have hml : c.maxLocals = 4 := hml0
  have hown : s.vm.findClass "com/example/unraveling/unraveling/query/OperatorHoldsPinLaw" = some m.cls := findClass_of_methodNamed Bd.named
  have hnm := (name_of_methodNamed Bd.named Bd.method).1
  have X0 : Stand p l e ({ frames := 2, cells := 0, slots := 0, locals := 25 } : Room) s m #[(.ref b), (.int ord), (.int acc), (.int bit)] below meth c s₁ [] 0 0 := Stand.of_body Bd
  have e0 : s₁.heap = h0 := by rw [← hh, Bd.state]; rfl
  have N0 := Fr.nil n0
  have k0 : ∀ tg, Steps p.tables e below (s₁.setTop (mkF m 0 #[.val (.ref b), .val (.int ord), .val (.int acc), .val (.int bit)] [])) tg → Steps p.tables e below (s₁.setTop (entryFrame m #[(.ref b), (.int ord), (.int acc), (.int bit)] 4)) tg := fun tg k => castTop (ef_rm3_0 m b ord acc bit) k
  obtain ⟨cq1, kq1, q1a, q1b, q1c⟩ := isOf hZ e0 Eb
  obtain ⟨_, _, ⟨T1, L1, k1, n1⟩, -, X1, ⟨Lc1, hQ1, l1, y1, z1⟩, st1⟩ := X0.virtualBack hx (y := (⟨"com/example/unraveling/unraveling/query/ValueTest$Operator", "holds", "(I)Z"⟩ : MethodName)) (z := (⟨"com/example/unraveling/unraveling/query/ValueTest$Operator", "holds", "(I)Z"⟩ : MethodName)) hown (mvT hZ (hw _ (List.mem_of_getElem? (i := 14) rfl))) (mvT hZ (hw _ (List.mem_of_getElem? (i := 15) rfl))) (notFace_of_selects (args := #[]) (mvT hZ (hw _ (List.mem_of_getElem? (i := 17) rfl)))) (mvT hZ (hw _ (List.mem_of_getElem? (i := 17) rfl))) (mvT hZ (hw _ (List.mem_of_getElem? (i := 16) rfl))) (by decide) (backOf (W := 0) (rm4_0 l Z a0 hw [] b ord  h0 n0 Eb Fo) hZ (hw _ (List.mem_of_getElem? (i := 18) rfl)) (hw _ (List.mem_of_getElem? (i := 8) rfl)) (by decide) (by decide)) q1a q1c (g := (mkF m 2 #[.val (.ref b), .val (.int ord), .val (.int acc), .val (.int bit)] [(.int ord), (.ref b)])) rfl (by rw [hml]; rfl) (Steps.refl _) (argsL := [(.int ord)]) (rest := []) (lenOf pd_1 rfl) rfl (by show 2 * 0 + _ ≤ _; exact Nat.le_of_eq rfl) (hb hby d3_2) (fun _ _ => ⟨rfl, e0, (by decide : 0 + 0 ≤ _), (by decide : 0 + 0 ≤ _)⟩)
  dsimp only [Pt.U, Pt.locs, Pt.cells, Pt.slots] at X1 l1 y1 z1 st1 hQ1
  subst l1 y1 z1
  obtain ⟨rfl, N1q, e1⟩ := hQ1
  have N1 := Fr.app N0 N1q
  obtain ⟨z2, ez2⟩ : ∃ z : Int32, z = (if ord = (0 : Int32) then (1 : Int32) else (0 : Int32)) := ⟨_, rfl⟩
  have k3 : ∀ tg, Steps p.tables e below (T1.setTop (mkF m 8 #[.val (.ref b), .val (.int ord), .val (.int acc), .val (.int bit)] [(.int (acc &&& bit)), (.int z2)])) tg → Steps p.tables e below (s₁.setTop (entryFrame m #[(.ref b), (.int ord), (.int acc), (.int bit)] 4)) tg := by
    intro tg kt
    refine k0 tg ?_
    show Steps p.tables e below (s₁.setTop (mkF m 0 #[.val (.ref b), .val (.int ord), .val (.int acc), .val (.int bit)] [])) _
    refine XS.aloadN X0.here hx rfl (hb hby d3_0) rfl rfl ?_
    show Steps p.tables e below (s₁.setTop (mkF m 1 #[.val (.ref b), .val (.int ord), .val (.int acc), .val (.int bit)] [(.ref b)])) _
    refine XS.iloadN X0.here hx rfl (hb hby d3_1) rfl ?_
    show Steps p.tables e below (s₁.setTop (mkF m 2 #[.val (.ref b), .val (.int ord), .val (.int acc), .val (.int bit)] [(.int ord), (.ref b)])) _
    refine st1.trans ?_
    show Steps p.tables e below (T1.setTop (mkF m 5 #[.val (.ref b), .val (.int ord), .val (.int acc), .val (.int bit)] [(.int (if ord = (0 : Int32) then (1 : Int32) else (0 : Int32)))])) _
    rw [← ez2]
    show Steps p.tables e below (T1.setTop (mkF m 5 #[.val (.ref b), .val (.int ord), .val (.int acc), .val (.int bit)] [(.int z2)])) _
    refine XS.iloadN X1.here hx rfl (hb hby d3_5) rfl ?_
    show Steps p.tables e below (T1.setTop (mkF m 6 #[.val (.ref b), .val (.int ord), .val (.int acc), .val (.int bit)] [(.int acc), (.int z2)])) _
    refine XS.iloadN X1.here hx rfl (hb hby d3_6) rfl ?_
    show Steps p.tables e below (T1.setTop (mkF m 7 #[.val (.ref b), .val (.int ord), .val (.int acc), .val (.int bit)] [(.int bit), (.int acc), (.int z2)])) _
    refine XS.iand X1.here hx rfl (hb hby d3_7) rfl ?_
    show Steps p.tables e below (T1.setTop (mkF m 8 #[.val (.ref b), .val (.int ord), .val (.int acc), .val (.int bit)] [(.int (acc &&& bit)), (.int z2)])) _
    exact kt
  have k7 : ∀ tg, Steps p.tables e below (T1.setTop (mkF m 16 #[.val (.ref b), .val (.int ord), .val (.int acc), .val (.int bit)] [(.int (if (acc &&& bit) = (0 : Int32) then (0 : Int32) else (1 : Int32))), (.int z2)])) tg → Steps p.tables e below (s₁.setTop (entryFrame m #[(.ref b), (.int ord), (.int acc), (.int bit)] 4)) tg := by
    intro tg kt
    refine k3 tg ?_
    show Steps p.tables e below (T1.setTop (mkF m 8 #[.val (.ref b), .val (.int ord), .val (.int acc), .val (.int bit)] [(.int (acc &&& bit)), (.int z2)])) _
    by_cases hc4 : (acc &&& bit) = (0 : Int32)
    · refine XS.ifYes X1.here hx rfl (pc0 := 8) (pc' := 15) rfl (hb hby d3_8) rfl ((if0 _ _).trans (teq hc4).1) (by decide) (by decide) ?_
      show Steps p.tables e below (T1.setTop (mkF m 15 #[.val (.ref b), .val (.int ord), .val (.int acc), .val (.int bit)] [(.int z2)])) _
      refine XS.iconst X1.here hx rfl (hb hby d3_15) ?_
      show Steps p.tables e below (T1.setTop (mkF m 16 #[.val (.ref b), .val (.int ord), .val (.int acc), .val (.int bit)] [(.int (0 : Int32)), (.int z2)])) _
      repeat rw [if_pos hc4] at kt
      exact kt
    · refine XS.ifNo X1.here hx rfl (hb hby d3_8) rfl ((if0 _ _).trans (feq hc4).1) ?_
      show Steps p.tables e below (T1.setTop (mkF m 11 #[.val (.ref b), .val (.int ord), .val (.int acc), .val (.int bit)] [(.int z2)])) _
      refine XS.iconst X1.here hx rfl (hb hby d3_11) ?_
      show Steps p.tables e below (T1.setTop (mkF m 12 #[.val (.ref b), .val (.int ord), .val (.int acc), .val (.int bit)] [(.int (1 : Int32)), (.int z2)])) _
      refine XS.goto X1.here hx rfl (pc0 := 12) (pc' := 16) rfl (hb hby d3_12) (by decide) (by decide) ?_
      show Steps p.tables e below (T1.setTop (mkF m 16 #[.val (.ref b), .val (.int ord), .val (.int acc), .val (.int bit)] [(.int (1 : Int32)), (.int z2)])) _
      repeat rw [if_neg hc4] at kt
      exact kt
  obtain ⟨z8, ez8⟩ : ∃ z : Int32, z = (if (acc &&& bit) = (0 : Int32) then (0 : Int32) else (1 : Int32)) := ⟨_, rfl⟩
  have k9 : ∀ tg, Steps p.tables e below (T1.setTop (mkF m 16 #[.val (.ref b), .val (.int ord), .val (.int acc), .val (.int bit)] [(.int z8), (.int z2)])) tg → Steps p.tables e below (s₁.setTop (entryFrame m #[(.ref b), (.int ord), (.int acc), (.int bit)] 4)) tg := by
    intro tg kt
    refine k7 tg ?_
    show Steps p.tables e below (T1.setTop (mkF m 16 #[.val (.ref b), .val (.int ord), .val (.int acc), .val (.int bit)] [(.int (if (acc &&& bit) = (0 : Int32) then (0 : Int32) else (1 : Int32))), (.int z2)])) _
    rw [← ez8]
    show Steps p.tables e below (T1.setTop (mkF m 16 #[.val (.ref b), .val (.int ord), .val (.int acc), .val (.int bit)] [(.int z8), (.int z2)])) _
    exact kt
  have k13 : ∀ tg, Steps p.tables e below (T1.setTop (mkF m 24 #[.val (.ref b), .val (.int ord), .val (.int acc), .val (.int bit)] [(.int (if z2 = z8 then (1 : Int32) else (0 : Int32)))])) tg → Steps p.tables e below (s₁.setTop (entryFrame m #[(.ref b), (.int ord), (.int acc), (.int bit)] 4)) tg := by
    intro tg kt
    refine k9 tg ?_
    show Steps p.tables e below (T1.setTop (mkF m 16 #[.val (.ref b), .val (.int ord), .val (.int acc), .val (.int bit)] [(.int z8), (.int z2)])) _
    by_cases hc10 : z2 = z8
    · refine XS.icmpNo X1.here hx rfl (hb hby d3_16) rfl (teq hc10).2 ?_
      show Steps p.tables e below (T1.setTop (mkF m 19 #[.val (.ref b), .val (.int ord), .val (.int acc), .val (.int bit)] [])) _
      refine XS.iconst X1.here hx rfl (hb hby d3_19) ?_
      show Steps p.tables e below (T1.setTop (mkF m 20 #[.val (.ref b), .val (.int ord), .val (.int acc), .val (.int bit)] [(.int (1 : Int32))])) _
      refine XS.goto X1.here hx rfl (pc0 := 20) (pc' := 24) rfl (hb hby d3_20) (by decide) (by decide) ?_
      show Steps p.tables e below (T1.setTop (mkF m 24 #[.val (.ref b), .val (.int ord), .val (.int acc), .val (.int bit)] [(.int (1 : Int32))])) _
      repeat rw [if_pos hc10] at kt
      exact kt
    · refine XS.icmpYes X1.here hx rfl (pc0 := 16) (pc' := 23) rfl (hb hby d3_16) rfl (feq hc10).2 (by decide) (by decide) ?_
      show Steps p.tables e below (T1.setTop (mkF m 23 #[.val (.ref b), .val (.int ord), .val (.int acc), .val (.int bit)] [])) _
      refine XS.iconst X1.here hx rfl (hb hby d3_23) ?_
      show Steps p.tables e below (T1.setTop (mkF m 24 #[.val (.ref b), .val (.int ord), .val (.int acc), .val (.int bit)] [(.int (0 : Int32))])) _
      repeat rw [if_neg hc10] at kt
      exact kt
  obtain ⟨z14, ez14⟩ : ∃ z : Int32, z = (if z2 = z8 then (1 : Int32) else (0 : Int32)) := ⟨_, rfl⟩
  have k15 : ∀ tg, Steps p.tables e below (T1.setTop (mkF m 24 #[.val (.ref b), .val (.int ord), .val (.int acc), .val (.int bit)] [(.int z14)])) tg → Steps p.tables e below (s₁.setTop (entryFrame m #[(.ref b), (.int ord), (.int acc), (.int bit)] 4)) tg := by
    intro tg kt
    refine k13 tg ?_
    show Steps p.tables e below (T1.setTop (mkF m 24 #[.val (.ref b), .val (.int ord), .val (.int acc), .val (.int bit)] [(.int (if z2 = z8 then (1 : Int32) else (0 : Int32)))])) _
    rw [← ez14]
    show Steps p.tables e below (T1.setTop (mkF m 24 #[.val (.ref b), .val (.int ord), .val (.int acc), .val (.int bit)] [(.int z14)])) _
    exact kt
  obtain ⟨fs, hr, hrun, hended, hW, hsame⟩ := X1.leave (v := some (.int z14)) (fun h => by rw [Bd.returns] at h; cases h)
  refine ⟨_, _, k15 _ ?_, hrun, hended, _, _, rfl, ?_, ⟨_, rfl⟩, hW, hsame.mono (by decide) (by decide)⟩
  · exact retN X1 hx (t := .boolean) Bd.returns (by simp) (hb hby d3_24) (by rw [show nar .boolean z14 = z14 from (by rw [ez14]; (repeat' split) <;> decide)]; exact hr)
  · show QV _ h0 n0 _ T1.heap _
    exact ⟨by subst ez2 ez8 ez14; rfl, N1, e1⟩
theorem d4_66 : decode prog_106_method_5_code 66 = .ok (.iload_n 1, 1) := by decide +kernel
theorem d4_67 : decode prog_106_method_5_code 67 = .ok (.ifCond .eq 7, 3) := by decide +kernel
theorem d4_70 : decode prog_106_method_5_code 70 = .ok (.iconst 1, 1) := by decide +kernel
theorem d4_71 : decode prog_106_method_5_code 71 = .ok (.goto 52, 3) := by decide +kernel
theorem d4_74 : decode prog_106_method_5_code 74 = .ok (.iconst 0, 1) := by decide +kernel
theorem d4_75 : decode prog_106_method_5_code 75 = .ok (.goto 48, 3) := by decide +kernel
theorem ef_rm4_1 (m : MethodId) (b : Addr) (ord : Int32) : entryFrame m #[(.ref b), (.int ord)] 2 = mkF m 0 #[.val (.ref b), .val (.int ord)] [] := by first | (simp [entryFrame, mkF, argsToLocals, Value.category]; done) | rfl
set_option maxRecDepth 65536 in
set_option maxHeartbeats 40000000 in
theorem rm4_1 (l : Launch) (Z : State) (a0 : Array Value) (hw : ∀ d ∈ tables_1, d.before a0 Z = true) (ws : List Jvm.Cond) (b : Addr) (ord : Int32)  (h0 : Heap) (n0 : Nat) (Eb : Exa Z h0 b "com/example/unraveling/unraveling/query/ValueTest$Operator") (Fo : Fld Z h0 b "java/lang/Enum" "ordinal" "I" (.int (1 : Int32))) :
    MetFree l (⟨"com/example/unraveling/unraveling/query/ValueTest$Operator", "holds", "(I)Z"⟩ : MethodName) (head1 (Jvm.Cond.code (⟨"com/example/unraveling/unraveling/query/ValueTest$Operator", "holds", "(I)Z"⟩ : MethodName) prog_106_method_5_code 2 (some .boolean) :: ws) ({ frames := 1, cells := 0, slots := 0, locals := 12 } : Room)) (fun a_ U_ => a_ = #[(.ref b), (.int ord)] ∧ Z.Warmed39 U_.vm ∧ U_.heap = h0) (fun _ _ _ _ _ => True) (fun _ U_ o_ U'_ => ∃ v_ L_, o_ = .returned v_ ∧ QV (.int (if ord = (0 : Int32) then (0 : Int32) else (1 : Int32))) h0 n0 v_ U'_.heap L_ ∧ FrameEnd U_ o_ U'_ L_ ({ frames := 1, cells := 0, slots := 0, locals := 12 } : Room).cells ({ frames := 1, cells := 0, slots := 0, locals := 12 } : Room).slots) := by
  refine MetFree.of_bodySF (plainFor_of_name pn_4) hisR ?_
  intro p e s m args below meth c s₁ Bd hml0 hP hK
  obtain ⟨rfl, hZ, hh⟩ := hP
  have hx := Bd.exec
  have hby := Bd.bytes
  have hml : c.maxLocals = 2 := hml0
  have hown : s.vm.findClass "com/example/unraveling/unraveling/query/ValueTest$Operator" = some m.cls := findClass_of_methodNamed Bd.named
  have hnm := (name_of_methodNamed Bd.named Bd.method).1
  have X0 : Stand p l e ({ frames := 1, cells := 0, slots := 0, locals := 12 } : Room) s m #[(.ref b), (.int ord)] below meth c s₁ [] 0 0 := Stand.of_body Bd
  have e0 : s₁.heap = h0 := by rw [← hh, Bd.state]; rfl
  have N0 := Fr.nil n0
  have k0 : ∀ tg, Steps p.tables e below (s₁.setTop (mkF m 0 #[.val (.ref b), .val (.int ord)] [])) tg → Steps p.tables e below (s₁.setTop (entryFrame m #[(.ref b), (.int ord)] 2)) tg := fun tg k => castTop (ef_rm4_1 m b ord) k
  obtain ⟨cq1, kq1, q1a, q1b, q1c⟩ := isOf hZ e0 Eb
  obtain ⟨_, _, ⟨T1, L1, k1, n1⟩, -, X1, ⟨Lc1, hQ1, l1, y1, z1⟩, st1⟩ := X0.virtualBackUp hx (x := (⟨"com/example/unraveling/unraveling/query/ValueTest$Operator", "ordinal", "()I"⟩ : MethodName)) (y := (⟨"java/lang/Enum", "ordinal", "()I"⟩ : MethodName)) (owner := "java/lang/Enum") hown (mvT hZ (hw _ (List.mem_of_getElem? (i := 19) rfl))) (mvT hZ (hw _ (List.mem_of_getElem? (i := 20) rfl))) (mvT hZ (hw _ (List.mem_of_getElem? (i := 21) rfl))) (by decide) (mvT hZ (hw _ (List.mem_of_getElem? (i := 23) rfl))) (mvT hZ (hw _ (List.mem_of_getElem? (i := 22) rfl))) (backOf (W := 0) (rm5 l Z a0 hw [] b (1 : Int32) h0 n0 Fo) hZ (hw _ (List.mem_of_getElem? (i := 25) rfl)) (hw _ (List.mem_of_getElem? (i := 24) rfl)) (by decide) (by decide)) q1a q1c (g := (mkF m 1 #[.val (.ref b), .val (.int ord)] [(.ref b)])) rfl (by rw [hml]; rfl) (Steps.refl _) (argsL := []) (rest := []) (lenOf pd_0 rfl) rfl (by show 2 * 0 + _ ≤ _; exact Nat.le_of_eq rfl) (hb hby d4_1) (fun _ _ => ⟨rfl, e0, (by decide : 0 + 0 ≤ _), (by decide : 0 + 0 ≤ _)⟩)
  dsimp only [Pt.U, Pt.locs, Pt.cells, Pt.slots] at X1 l1 y1 z1 st1 hQ1
  subst l1 y1 z1
  obtain ⟨rfl, N1q, e1⟩ := hQ1
  have N1 := Fr.app N0 N1q
  have k2 : ∀ tg, Steps p.tables e below (T1.setTop (mkF m 67 #[.val (.ref b), .val (.int ord)] [(.int ord)])) tg → Steps p.tables e below (s₁.setTop (entryFrame m #[(.ref b), (.int ord)] 2)) tg := by
    intro tg kt
    refine k0 tg ?_
    show Steps p.tables e below (s₁.setTop (mkF m 0 #[.val (.ref b), .val (.int ord)] [])) _
    refine XS.aloadN X0.here hx rfl (hb hby d4_0) rfl rfl ?_
    show Steps p.tables e below (s₁.setTop (mkF m 1 #[.val (.ref b), .val (.int ord)] [(.ref b)])) _
    refine st1.trans ?_
    show Steps p.tables e below (T1.setTop (mkF m 4 #[.val (.ref b), .val (.int ord)] [(.int (1 : Int32))])) _
    refine XS.tswIn X1.here hx rfl (pc0 := 4) (pc' := 66) rfl (hb hby d4_4) rfl (by decide) (o := 62) (by decide) (by decide) (by decide) ?_
    show Steps p.tables e below (T1.setTop (mkF m 66 #[.val (.ref b), .val (.int ord)] [])) _
    refine XS.iloadN X1.here hx rfl (hb hby d4_66) rfl ?_
    show Steps p.tables e below (T1.setTop (mkF m 67 #[.val (.ref b), .val (.int ord)] [(.int ord)])) _
    exact kt
  have k6 : ∀ tg, Steps p.tables e below (T1.setTop (mkF m 123 #[.val (.ref b), .val (.int ord)] [(.int (if ord = (0 : Int32) then (0 : Int32) else (1 : Int32)))])) tg → Steps p.tables e below (s₁.setTop (entryFrame m #[(.ref b), (.int ord)] 2)) tg := by
    intro tg kt
    refine k2 tg ?_
    show Steps p.tables e below (T1.setTop (mkF m 67 #[.val (.ref b), .val (.int ord)] [(.int ord)])) _
    by_cases hc3 : ord = (0 : Int32)
    · refine XS.ifYes X1.here hx rfl (pc0 := 67) (pc' := 74) rfl (hb hby d4_67) rfl ((if0 _ _).trans (teq hc3).1) (by decide) (by decide) ?_
      show Steps p.tables e below (T1.setTop (mkF m 74 #[.val (.ref b), .val (.int ord)] [])) _
      refine XS.iconst X1.here hx rfl (hb hby d4_74) ?_
      show Steps p.tables e below (T1.setTop (mkF m 75 #[.val (.ref b), .val (.int ord)] [(.int (0 : Int32))])) _
      refine XS.goto X1.here hx rfl (pc0 := 75) (pc' := 123) rfl (hb hby d4_75) (by decide) (by decide) ?_
      show Steps p.tables e below (T1.setTop (mkF m 123 #[.val (.ref b), .val (.int ord)] [(.int (0 : Int32))])) _
      repeat rw [if_pos hc3] at kt
      exact kt
    · refine XS.ifNo X1.here hx rfl (hb hby d4_67) rfl ((if0 _ _).trans (feq hc3).1) ?_
      show Steps p.tables e below (T1.setTop (mkF m 70 #[.val (.ref b), .val (.int ord)] [])) _
      refine XS.iconst X1.here hx rfl (hb hby d4_70) ?_
      show Steps p.tables e below (T1.setTop (mkF m 71 #[.val (.ref b), .val (.int ord)] [(.int (1 : Int32))])) _
      refine XS.goto X1.here hx rfl (pc0 := 71) (pc' := 123) rfl (hb hby d4_71) (by decide) (by decide) ?_
      show Steps p.tables e below (T1.setTop (mkF m 123 #[.val (.ref b), .val (.int ord)] [(.int (1 : Int32))])) _
      repeat rw [if_neg hc3] at kt
      exact kt
  obtain ⟨z7, ez7⟩ : ∃ z : Int32, z = (if ord = (0 : Int32) then (0 : Int32) else (1 : Int32)) := ⟨_, rfl⟩
  have k8 : ∀ tg, Steps p.tables e below (T1.setTop (mkF m 123 #[.val (.ref b), .val (.int ord)] [(.int z7)])) tg → Steps p.tables e below (s₁.setTop (entryFrame m #[(.ref b), (.int ord)] 2)) tg := by
    intro tg kt
    refine k6 tg ?_
    show Steps p.tables e below (T1.setTop (mkF m 123 #[.val (.ref b), .val (.int ord)] [(.int (if ord = (0 : Int32) then (0 : Int32) else (1 : Int32)))])) _
    rw [← ez7]
    show Steps p.tables e below (T1.setTop (mkF m 123 #[.val (.ref b), .val (.int ord)] [(.int z7)])) _
    exact kt
  obtain ⟨fs, hr, hrun, hended, hW, hsame⟩ := X1.leave (v := some (.int z7)) (fun h => by rw [Bd.returns] at h; cases h)
  refine ⟨_, _, k8 _ ?_, hrun, hended, _, _, rfl, ?_, ⟨_, rfl⟩, hW, hsame.mono (by decide) (by decide)⟩
  · exact retN X1 hx (t := .boolean) Bd.returns (by simp) (hb hby d4_123) (by rw [show nar .boolean z7 = z7 from (by rw [ez7]; (repeat' split) <;> decide)]; exact hr)
  · show QV _ h0 n0 _ T1.heap _
    exact ⟨by subst ez7; rfl, N1, e1⟩
theorem ef_rm3_1 (m : MethodId) (b : Addr) (ord : Int32) (acc : Int32) (bit : Int32) : entryFrame m #[(.ref b), (.int ord), (.int acc), (.int bit)] 4 = mkF m 0 #[.val (.ref b), .val (.int ord), .val (.int acc), .val (.int bit)] [] := by first | (simp [entryFrame, mkF, argsToLocals, Value.category]; done) | rfl
set_option maxRecDepth 65536 in
set_option maxHeartbeats 40000000 in
theorem rm3_1 (l : Launch) (Z : State) (a0 : Array Value) (hw : ∀ d ∈ tables_1, d.before a0 Z = true) (ws : List Jvm.Cond) (b : Addr) (ord : Int32) (acc : Int32) (bit : Int32)  (h0 : Heap) (n0 : Nat) (Eb : Exa Z h0 b "com/example/unraveling/unraveling/query/ValueTest$Operator") (Fo : Fld Z h0 b "java/lang/Enum" "ordinal" "I" (.int (1 : Int32))) :
    MetFree l (⟨"com/example/unraveling/unraveling/query/OperatorHoldsPinLaw", "ok", "(Lcom/example/unraveling/unraveling/query/ValueTest$Operator;III)Z"⟩ : MethodName) (head1 (Jvm.Cond.code (⟨"com/example/unraveling/unraveling/query/OperatorHoldsPinLaw", "ok", "(Lcom/example/unraveling/unraveling/query/ValueTest$Operator;III)Z"⟩ : MethodName) method_3_code 4 (some .boolean) :: ws) ({ frames := 2, cells := 0, slots := 0, locals := 25 } : Room)) (fun a_ U_ => a_ = #[(.ref b), (.int ord), (.int acc), (.int bit)] ∧ Z.Warmed39 U_.vm ∧ U_.heap = h0) (fun _ _ _ _ _ => True) (fun _ U_ o_ U'_ => ∃ v_ L_, o_ = .returned v_ ∧ QV (.int (if (if ord = (0 : Int32) then (0 : Int32) else (1 : Int32)) = (if (acc &&& bit) = (0 : Int32) then (0 : Int32) else (1 : Int32)) then (1 : Int32) else (0 : Int32))) h0 n0 v_ U'_.heap L_ ∧ FrameEnd U_ o_ U'_ L_ ({ frames := 2, cells := 0, slots := 0, locals := 25 } : Room).cells ({ frames := 2, cells := 0, slots := 0, locals := 25 } : Room).slots) := by
  refine MetFree.of_bodySF (plainFor_of_name pn_3) hisR ?_
  intro p e s m args below meth c s₁ Bd hml0 hP hK
  obtain ⟨rfl, hZ, hh⟩ := hP
  have hx := Bd.exec
  have hby := Bd.bytes
  have hml : c.maxLocals = 4 := hml0
  have hown : s.vm.findClass "com/example/unraveling/unraveling/query/OperatorHoldsPinLaw" = some m.cls := findClass_of_methodNamed Bd.named
  have hnm := (name_of_methodNamed Bd.named Bd.method).1
  have X0 : Stand p l e ({ frames := 2, cells := 0, slots := 0, locals := 25 } : Room) s m #[(.ref b), (.int ord), (.int acc), (.int bit)] below meth c s₁ [] 0 0 := Stand.of_body Bd
  have e0 : s₁.heap = h0 := by rw [← hh, Bd.state]; rfl
  have N0 := Fr.nil n0
  have k0 : ∀ tg, Steps p.tables e below (s₁.setTop (mkF m 0 #[.val (.ref b), .val (.int ord), .val (.int acc), .val (.int bit)] [])) tg → Steps p.tables e below (s₁.setTop (entryFrame m #[(.ref b), (.int ord), (.int acc), (.int bit)] 4)) tg := fun tg k => castTop (ef_rm3_1 m b ord acc bit) k
  obtain ⟨cq1, kq1, q1a, q1b, q1c⟩ := isOf hZ e0 Eb
  obtain ⟨_, _, ⟨T1, L1, k1, n1⟩, -, X1, ⟨Lc1, hQ1, l1, y1, z1⟩, st1⟩ := X0.virtualBack hx (y := (⟨"com/example/unraveling/unraveling/query/ValueTest$Operator", "holds", "(I)Z"⟩ : MethodName)) (z := (⟨"com/example/unraveling/unraveling/query/ValueTest$Operator", "holds", "(I)Z"⟩ : MethodName)) hown (mvT hZ (hw _ (List.mem_of_getElem? (i := 14) rfl))) (mvT hZ (hw _ (List.mem_of_getElem? (i := 15) rfl))) (notFace_of_selects (args := #[]) (mvT hZ (hw _ (List.mem_of_getElem? (i := 17) rfl)))) (mvT hZ (hw _ (List.mem_of_getElem? (i := 17) rfl))) (mvT hZ (hw _ (List.mem_of_getElem? (i := 16) rfl))) (by decide) (backOf (W := 0) (rm4_1 l Z a0 hw [] b ord  h0 n0 Eb Fo) hZ (hw _ (List.mem_of_getElem? (i := 18) rfl)) (hw _ (List.mem_of_getElem? (i := 8) rfl)) (by decide) (by decide)) q1a q1c (g := (mkF m 2 #[.val (.ref b), .val (.int ord), .val (.int acc), .val (.int bit)] [(.int ord), (.ref b)])) rfl (by rw [hml]; rfl) (Steps.refl _) (argsL := [(.int ord)]) (rest := []) (lenOf pd_1 rfl) rfl (by show 2 * 0 + _ ≤ _; exact Nat.le_of_eq rfl) (hb hby d3_2) (fun _ _ => ⟨rfl, e0, (by decide : 0 + 0 ≤ _), (by decide : 0 + 0 ≤ _)⟩)
  dsimp only [Pt.U, Pt.locs, Pt.cells, Pt.slots] at X1 l1 y1 z1 st1 hQ1
  subst l1 y1 z1
  obtain ⟨rfl, N1q, e1⟩ := hQ1
  have N1 := Fr.app N0 N1q
  obtain ⟨z2, ez2⟩ : ∃ z : Int32, z = (if ord = (0 : Int32) then (0 : Int32) else (1 : Int32)) := ⟨_, rfl⟩
  have k3 : ∀ tg, Steps p.tables e below (T1.setTop (mkF m 8 #[.val (.ref b), .val (.int ord), .val (.int acc), .val (.int bit)] [(.int (acc &&& bit)), (.int z2)])) tg → Steps p.tables e below (s₁.setTop (entryFrame m #[(.ref b), (.int ord), (.int acc), (.int bit)] 4)) tg := by
    intro tg kt
    refine k0 tg ?_
    show Steps p.tables e below (s₁.setTop (mkF m 0 #[.val (.ref b), .val (.int ord), .val (.int acc), .val (.int bit)] [])) _
    refine XS.aloadN X0.here hx rfl (hb hby d3_0) rfl rfl ?_
    show Steps p.tables e below (s₁.setTop (mkF m 1 #[.val (.ref b), .val (.int ord), .val (.int acc), .val (.int bit)] [(.ref b)])) _
    refine XS.iloadN X0.here hx rfl (hb hby d3_1) rfl ?_
    show Steps p.tables e below (s₁.setTop (mkF m 2 #[.val (.ref b), .val (.int ord), .val (.int acc), .val (.int bit)] [(.int ord), (.ref b)])) _
    refine st1.trans ?_
    show Steps p.tables e below (T1.setTop (mkF m 5 #[.val (.ref b), .val (.int ord), .val (.int acc), .val (.int bit)] [(.int (if ord = (0 : Int32) then (0 : Int32) else (1 : Int32)))])) _
    rw [← ez2]
    show Steps p.tables e below (T1.setTop (mkF m 5 #[.val (.ref b), .val (.int ord), .val (.int acc), .val (.int bit)] [(.int z2)])) _
    refine XS.iloadN X1.here hx rfl (hb hby d3_5) rfl ?_
    show Steps p.tables e below (T1.setTop (mkF m 6 #[.val (.ref b), .val (.int ord), .val (.int acc), .val (.int bit)] [(.int acc), (.int z2)])) _
    refine XS.iloadN X1.here hx rfl (hb hby d3_6) rfl ?_
    show Steps p.tables e below (T1.setTop (mkF m 7 #[.val (.ref b), .val (.int ord), .val (.int acc), .val (.int bit)] [(.int bit), (.int acc), (.int z2)])) _
    refine XS.iand X1.here hx rfl (hb hby d3_7) rfl ?_
    show Steps p.tables e below (T1.setTop (mkF m 8 #[.val (.ref b), .val (.int ord), .val (.int acc), .val (.int bit)] [(.int (acc &&& bit)), (.int z2)])) _
    exact kt
  have k7 : ∀ tg, Steps p.tables e below (T1.setTop (mkF m 16 #[.val (.ref b), .val (.int ord), .val (.int acc), .val (.int bit)] [(.int (if (acc &&& bit) = (0 : Int32) then (0 : Int32) else (1 : Int32))), (.int z2)])) tg → Steps p.tables e below (s₁.setTop (entryFrame m #[(.ref b), (.int ord), (.int acc), (.int bit)] 4)) tg := by
    intro tg kt
    refine k3 tg ?_
    show Steps p.tables e below (T1.setTop (mkF m 8 #[.val (.ref b), .val (.int ord), .val (.int acc), .val (.int bit)] [(.int (acc &&& bit)), (.int z2)])) _
    by_cases hc4 : (acc &&& bit) = (0 : Int32)
    · refine XS.ifYes X1.here hx rfl (pc0 := 8) (pc' := 15) rfl (hb hby d3_8) rfl ((if0 _ _).trans (teq hc4).1) (by decide) (by decide) ?_
      show Steps p.tables e below (T1.setTop (mkF m 15 #[.val (.ref b), .val (.int ord), .val (.int acc), .val (.int bit)] [(.int z2)])) _
      refine XS.iconst X1.here hx rfl (hb hby d3_15) ?_
      show Steps p.tables e below (T1.setTop (mkF m 16 #[.val (.ref b), .val (.int ord), .val (.int acc), .val (.int bit)] [(.int (0 : Int32)), (.int z2)])) _
      repeat rw [if_pos hc4] at kt
      exact kt
    · refine XS.ifNo X1.here hx rfl (hb hby d3_8) rfl ((if0 _ _).trans (feq hc4).1) ?_
      show Steps p.tables e below (T1.setTop (mkF m 11 #[.val (.ref b), .val (.int ord), .val (.int acc), .val (.int bit)] [(.int z2)])) _
      refine XS.iconst X1.here hx rfl (hb hby d3_11) ?_
      show Steps p.tables e below (T1.setTop (mkF m 12 #[.val (.ref b), .val (.int ord), .val (.int acc), .val (.int bit)] [(.int (1 : Int32)), (.int z2)])) _
      refine XS.goto X1.here hx rfl (pc0 := 12) (pc' := 16) rfl (hb hby d3_12) (by decide) (by decide) ?_
      show Steps p.tables e below (T1.setTop (mkF m 16 #[.val (.ref b), .val (.int ord), .val (.int acc), .val (.int bit)] [(.int (1 : Int32)), (.int z2)])) _
      repeat rw [if_neg hc4] at kt
      exact kt
  obtain ⟨z8, ez8⟩ : ∃ z : Int32, z = (if (acc &&& bit) = (0 : Int32) then (0 : Int32) else (1 : Int32)) := ⟨_, rfl⟩
  have k9 : ∀ tg, Steps p.tables e below (T1.setTop (mkF m 16 #[.val (.ref b), .val (.int ord), .val (.int acc), .val (.int bit)] [(.int z8), (.int z2)])) tg → Steps p.tables e below (s₁.setTop (entryFrame m #[(.ref b), (.int ord), (.int acc), (.int bit)] 4)) tg := by
    intro tg kt
    refine k7 tg ?_
    show Steps p.tables e below (T1.setTop (mkF m 16 #[.val (.ref b), .val (.int ord), .val (.int acc), .val (.int bit)] [(.int (if (acc &&& bit) = (0 : Int32) then (0 : Int32) else (1 : Int32))), (.int z2)])) _
    rw [← ez8]
    show Steps p.tables e below (T1.setTop (mkF m 16 #[.val (.ref b), .val (.int ord), .val (.int acc), .val (.int bit)] [(.int z8), (.int z2)])) _
    exact kt
  have k13 : ∀ tg, Steps p.tables e below (T1.setTop (mkF m 24 #[.val (.ref b), .val (.int ord), .val (.int acc), .val (.int bit)] [(.int (if z2 = z8 then (1 : Int32) else (0 : Int32)))])) tg → Steps p.tables e below (s₁.setTop (entryFrame m #[(.ref b), (.int ord), (.int acc), (.int bit)] 4)) tg := by
    intro tg kt
    refine k9 tg ?_
    show Steps p.tables e below (T1.setTop (mkF m 16 #[.val (.ref b), .val (.int ord), .val (.int acc), .val (.int bit)] [(.int z8), (.int z2)])) _
    by_cases hc10 : z2 = z8
    · refine XS.icmpNo X1.here hx rfl (hb hby d3_16) rfl (teq hc10).2 ?_
      show Steps p.tables e below (T1.setTop (mkF m 19 #[.val (.ref b), .val (.int ord), .val (.int acc), .val (.int bit)] [])) _
      refine XS.iconst X1.here hx rfl (hb hby d3_19) ?_
      show Steps p.tables e below (T1.setTop (mkF m 20 #[.val (.ref b), .val (.int ord), .val (.int acc), .val (.int bit)] [(.int (1 : Int32))])) _
      refine XS.goto X1.here hx rfl (pc0 := 20) (pc' := 24) rfl (hb hby d3_20) (by decide) (by decide) ?_
      show Steps p.tables e below (T1.setTop (mkF m 24 #[.val (.ref b), .val (.int ord), .val (.int acc), .val (.int bit)] [(.int (1 : Int32))])) _
      repeat rw [if_pos hc10] at kt
      exact kt
    · refine XS.icmpYes X1.here hx rfl (pc0 := 16) (pc' := 23) rfl (hb hby d3_16) rfl (feq hc10).2 (by decide) (by decide) ?_
      show Steps p.tables e below (T1.setTop (mkF m 23 #[.val (.ref b), .val (.int ord), .val (.int acc), .val (.int bit)] [])) _
      refine XS.iconst X1.here hx rfl (hb hby d3_23) ?_
      show Steps p.tables e below (T1.setTop (mkF m 24 #[.val (.ref b), .val (.int ord), .val (.int acc), .val (.int bit)] [(.int (0 : Int32))])) _
      repeat rw [if_neg hc10] at kt
      exact kt
  obtain ⟨z14, ez14⟩ : ∃ z : Int32, z = (if z2 = z8 then (1 : Int32) else (0 : Int32)) := ⟨_, rfl⟩
  have k15 : ∀ tg, Steps p.tables e below (T1.setTop (mkF m 24 #[.val (.ref b), .val (.int ord), .val (.int acc), .val (.int bit)] [(.int z14)])) tg → Steps p.tables e below (s₁.setTop (entryFrame m #[(.ref b), (.int ord), (.int acc), (.int bit)] 4)) tg := by
    intro tg kt
    refine k13 tg ?_
    show Steps p.tables e below (T1.setTop (mkF m 24 #[.val (.ref b), .val (.int ord), .val (.int acc), .val (.int bit)] [(.int (if z2 = z8 then (1 : Int32) else (0 : Int32)))])) _
    rw [← ez14]
    show Steps p.tables e below (T1.setTop (mkF m 24 #[.val (.ref b), .val (.int ord), .val (.int acc), .val (.int bit)] [(.int z14)])) _
    exact kt
  obtain ⟨fs, hr, hrun, hended, hW, hsame⟩ := X1.leave (v := some (.int z14)) (fun h => by rw [Bd.returns] at h; cases h)
  refine ⟨_, _, k15 _ ?_, hrun, hended, _, _, rfl, ?_, ⟨_, rfl⟩, hW, hsame.mono (by decide) (by decide)⟩
  · exact retN X1 hx (t := .boolean) Bd.returns (by simp) (hb hby d3_24) (by rw [show nar .boolean z14 = z14 from (by rw [ez14]; (repeat' split) <;> decide)]; exact hr)
  · show QV _ h0 n0 _ T1.heap _
    exact ⟨by subst ez2 ez8 ez14; rfl, N1, e1⟩
theorem d4_78 : decode prog_106_method_5_code 78 = .ok (.iload_n 1, 1) := by decide +kernel
theorem d4_79 : decode prog_106_method_5_code 79 = .ok (.ifCond .ge 7, 3) := by decide +kernel
theorem d4_82 : decode prog_106_method_5_code 82 = .ok (.iconst 1, 1) := by decide +kernel
theorem d4_83 : decode prog_106_method_5_code 83 = .ok (.goto 40, 3) := by decide +kernel
theorem d4_86 : decode prog_106_method_5_code 86 = .ok (.iconst 0, 1) := by decide +kernel
theorem d4_87 : decode prog_106_method_5_code 87 = .ok (.goto 36, 3) := by decide +kernel
theorem ef_rm4_2 (m : MethodId) (b : Addr) (ord : Int32) : entryFrame m #[(.ref b), (.int ord)] 2 = mkF m 0 #[.val (.ref b), .val (.int ord)] [] := by first | (simp [entryFrame, mkF, argsToLocals, Value.category]; done) | rfl
set_option maxRecDepth 65536 in
set_option maxHeartbeats 40000000 in
theorem rm4_2 (l : Launch) (Z : State) (a0 : Array Value) (hw : ∀ d ∈ tables_1, d.before a0 Z = true) (ws : List Jvm.Cond) (b : Addr) (ord : Int32)  (h0 : Heap) (n0 : Nat) (Eb : Exa Z h0 b "com/example/unraveling/unraveling/query/ValueTest$Operator") (Fo : Fld Z h0 b "java/lang/Enum" "ordinal" "I" (.int (2 : Int32))) :
    MetFree l (⟨"com/example/unraveling/unraveling/query/ValueTest$Operator", "holds", "(I)Z"⟩ : MethodName) (head1 (Jvm.Cond.code (⟨"com/example/unraveling/unraveling/query/ValueTest$Operator", "holds", "(I)Z"⟩ : MethodName) prog_106_method_5_code 2 (some .boolean) :: ws) ({ frames := 1, cells := 0, slots := 0, locals := 12 } : Room)) (fun a_ U_ => a_ = #[(.ref b), (.int ord)] ∧ Z.Warmed39 U_.vm ∧ U_.heap = h0) (fun _ _ _ _ _ => True) (fun _ U_ o_ U'_ => ∃ v_ L_, o_ = .returned v_ ∧ QV (.int (if ord < (0 : Int32) then (1 : Int32) else (0 : Int32))) h0 n0 v_ U'_.heap L_ ∧ FrameEnd U_ o_ U'_ L_ ({ frames := 1, cells := 0, slots := 0, locals := 12 } : Room).cells ({ frames := 1, cells := 0, slots := 0, locals := 12 } : Room).slots) := by
  refine MetFree.of_bodySF (plainFor_of_name pn_4) hisR ?_
  intro p e s m args below meth c s₁ Bd hml0 hP hK
  obtain ⟨rfl, hZ, hh⟩ := hP
  have hx := Bd.exec
  have hby := Bd.bytes
  have hml : c.maxLocals = 2 := hml0
  have hown : s.vm.findClass "com/example/unraveling/unraveling/query/ValueTest$Operator" = some m.cls := findClass_of_methodNamed Bd.named
  have hnm := (name_of_methodNamed Bd.named Bd.method).1
  have X0 : Stand p l e ({ frames := 1, cells := 0, slots := 0, locals := 12 } : Room) s m #[(.ref b), (.int ord)] below meth c s₁ [] 0 0 := Stand.of_body Bd
  have e0 : s₁.heap = h0 := by rw [← hh, Bd.state]; rfl
  have N0 := Fr.nil n0
  have k0 : ∀ tg, Steps p.tables e below (s₁.setTop (mkF m 0 #[.val (.ref b), .val (.int ord)] [])) tg → Steps p.tables e below (s₁.setTop (entryFrame m #[(.ref b), (.int ord)] 2)) tg := fun tg k => castTop (ef_rm4_2 m b ord) k
  obtain ⟨cq1, kq1, q1a, q1b, q1c⟩ := isOf hZ e0 Eb
  obtain ⟨_, _, ⟨T1, L1, k1, n1⟩, -, X1, ⟨Lc1, hQ1, l1, y1, z1⟩, st1⟩ := X0.virtualBackUp hx (x := (⟨"com/example/unraveling/unraveling/query/ValueTest$Operator", "ordinal", "()I"⟩ : MethodName)) (y := (⟨"java/lang/Enum", "ordinal", "()I"⟩ : MethodName)) (owner := "java/lang/Enum") hown (mvT hZ (hw _ (List.mem_of_getElem? (i := 19) rfl))) (mvT hZ (hw _ (List.mem_of_getElem? (i := 20) rfl))) (mvT hZ (hw _ (List.mem_of_getElem? (i := 21) rfl))) (by decide) (mvT hZ (hw _ (List.mem_of_getElem? (i := 23) rfl))) (mvT hZ (hw _ (List.mem_of_getElem? (i := 22) rfl))) (backOf (W := 0) (rm5 l Z a0 hw [] b (2 : Int32) h0 n0 Fo) hZ (hw _ (List.mem_of_getElem? (i := 25) rfl)) (hw _ (List.mem_of_getElem? (i := 24) rfl)) (by decide) (by decide)) q1a q1c (g := (mkF m 1 #[.val (.ref b), .val (.int ord)] [(.ref b)])) rfl (by rw [hml]; rfl) (Steps.refl _) (argsL := []) (rest := []) (lenOf pd_0 rfl) rfl (by show 2 * 0 + _ ≤ _; exact Nat.le_of_eq rfl) (hb hby d4_1) (fun _ _ => ⟨rfl, e0, (by decide : 0 + 0 ≤ _), (by decide : 0 + 0 ≤ _)⟩)
  dsimp only [Pt.U, Pt.locs, Pt.cells, Pt.slots] at X1 l1 y1 z1 st1 hQ1
  subst l1 y1 z1
  obtain ⟨rfl, N1q, e1⟩ := hQ1
  have N1 := Fr.app N0 N1q
  have k2 : ∀ tg, Steps p.tables e below (T1.setTop (mkF m 79 #[.val (.ref b), .val (.int ord)] [(.int ord)])) tg → Steps p.tables e below (s₁.setTop (entryFrame m #[(.ref b), (.int ord)] 2)) tg := by
    intro tg kt
    refine k0 tg ?_
    show Steps p.tables e below (s₁.setTop (mkF m 0 #[.val (.ref b), .val (.int ord)] [])) _
    refine XS.aloadN X0.here hx rfl (hb hby d4_0) rfl rfl ?_
    show Steps p.tables e below (s₁.setTop (mkF m 1 #[.val (.ref b), .val (.int ord)] [(.ref b)])) _
    refine st1.trans ?_
    show Steps p.tables e below (T1.setTop (mkF m 4 #[.val (.ref b), .val (.int ord)] [(.int (2 : Int32))])) _
    refine XS.tswIn X1.here hx rfl (pc0 := 4) (pc' := 78) rfl (hb hby d4_4) rfl (by decide) (o := 74) (by decide) (by decide) (by decide) ?_
    show Steps p.tables e below (T1.setTop (mkF m 78 #[.val (.ref b), .val (.int ord)] [])) _
    refine XS.iloadN X1.here hx rfl (hb hby d4_78) rfl ?_
    show Steps p.tables e below (T1.setTop (mkF m 79 #[.val (.ref b), .val (.int ord)] [(.int ord)])) _
    exact kt
  have k6 : ∀ tg, Steps p.tables e below (T1.setTop (mkF m 123 #[.val (.ref b), .val (.int ord)] [(.int (if ord < (0 : Int32) then (1 : Int32) else (0 : Int32)))])) tg → Steps p.tables e below (s₁.setTop (entryFrame m #[(.ref b), (.int ord)] 2)) tg := by
    intro tg kt
    refine k2 tg ?_
    show Steps p.tables e below (T1.setTop (mkF m 79 #[.val (.ref b), .val (.int ord)] [(.int ord)])) _
    by_cases hc3 : ord < (0 : Int32)
    · refine XS.ifNo X1.here hx rfl (hb hby d4_79) rfl ((if0 _ _).trans (tlt hc3).2.1) ?_
      show Steps p.tables e below (T1.setTop (mkF m 82 #[.val (.ref b), .val (.int ord)] [])) _
      refine XS.iconst X1.here hx rfl (hb hby d4_82) ?_
      show Steps p.tables e below (T1.setTop (mkF m 83 #[.val (.ref b), .val (.int ord)] [(.int (1 : Int32))])) _
      refine XS.goto X1.here hx rfl (pc0 := 83) (pc' := 123) rfl (hb hby d4_83) (by decide) (by decide) ?_
      show Steps p.tables e below (T1.setTop (mkF m 123 #[.val (.ref b), .val (.int ord)] [(.int (1 : Int32))])) _
      repeat rw [if_pos hc3] at kt
      exact kt
    · refine XS.ifYes X1.here hx rfl (pc0 := 79) (pc' := 86) rfl (hb hby d4_79) rfl ((if0 _ _).trans (flt hc3).2.1) (by decide) (by decide) ?_
      show Steps p.tables e below (T1.setTop (mkF m 86 #[.val (.ref b), .val (.int ord)] [])) _
      refine XS.iconst X1.here hx rfl (hb hby d4_86) ?_
      show Steps p.tables e below (T1.setTop (mkF m 87 #[.val (.ref b), .val (.int ord)] [(.int (0 : Int32))])) _
      refine XS.goto X1.here hx rfl (pc0 := 87) (pc' := 123) rfl (hb hby d4_87) (by decide) (by decide) ?_
      show Steps p.tables e below (T1.setTop (mkF m 123 #[.val (.ref b), .val (.int ord)] [(.int (0 : Int32))])) _
      repeat rw [if_neg hc3] at kt
      exact kt
  obtain ⟨z7, ez7⟩ : ∃ z : Int32, z = (if ord < (0 : Int32) then (1 : Int32) else (0 : Int32)) := ⟨_, rfl⟩
  have k8 : ∀ tg, Steps p.tables e below (T1.setTop (mkF m 123 #[.val (.ref b), .val (.int ord)] [(.int z7)])) tg → Steps p.tables e below (s₁.setTop (entryFrame m #[(.ref b), (.int ord)] 2)) tg := by
    intro tg kt
    refine k6 tg ?_
    show Steps p.tables e below (T1.setTop (mkF m 123 #[.val (.ref b), .val (.int ord)] [(.int (if ord < (0 : Int32) then (1 : Int32) else (0 : Int32)))])) _
    rw [← ez7]
    show Steps p.tables e below (T1.setTop (mkF m 123 #[.val (.ref b), .val (.int ord)] [(.int z7)])) _
    exact kt
  obtain ⟨fs, hr, hrun, hended, hW, hsame⟩ := X1.leave (v := some (.int z7)) (fun h => by rw [Bd.returns] at h; cases h)
  refine ⟨_, _, k8 _ ?_, hrun, hended, _, _, rfl, ?_, ⟨_, rfl⟩, hW, hsame.mono (by decide) (by decide)⟩
  · exact retN X1 hx (t := .boolean) Bd.returns (by simp) (hb hby d4_123) (by rw [show nar .boolean z7 = z7 from (by rw [ez7]; (repeat' split) <;> decide)]; exact hr)
  · show QV _ h0 n0 _ T1.heap _
    exact ⟨by subst ez7; rfl, N1, e1⟩
theorem ef_rm3_2 (m : MethodId) (b : Addr) (ord : Int32) (acc : Int32) (bit : Int32) : entryFrame m #[(.ref b), (.int ord), (.int acc), (.int bit)] 4 = mkF m 0 #[.val (.ref b), .val (.int ord), .val (.int acc), .val (.int bit)] [] := by first | (simp [entryFrame, mkF, argsToLocals, Value.category]; done) | rfl
set_option maxRecDepth 65536 in
set_option maxHeartbeats 40000000 in
theorem rm3_2 (l : Launch) (Z : State) (a0 : Array Value) (hw : ∀ d ∈ tables_1, d.before a0 Z = true) (ws : List Jvm.Cond) (b : Addr) (ord : Int32) (acc : Int32) (bit : Int32)  (h0 : Heap) (n0 : Nat) (Eb : Exa Z h0 b "com/example/unraveling/unraveling/query/ValueTest$Operator") (Fo : Fld Z h0 b "java/lang/Enum" "ordinal" "I" (.int (2 : Int32))) :
    MetFree l (⟨"com/example/unraveling/unraveling/query/OperatorHoldsPinLaw", "ok", "(Lcom/example/unraveling/unraveling/query/ValueTest$Operator;III)Z"⟩ : MethodName) (head1 (Jvm.Cond.code (⟨"com/example/unraveling/unraveling/query/OperatorHoldsPinLaw", "ok", "(Lcom/example/unraveling/unraveling/query/ValueTest$Operator;III)Z"⟩ : MethodName) method_3_code 4 (some .boolean) :: ws) ({ frames := 2, cells := 0, slots := 0, locals := 25 } : Room)) (fun a_ U_ => a_ = #[(.ref b), (.int ord), (.int acc), (.int bit)] ∧ Z.Warmed39 U_.vm ∧ U_.heap = h0) (fun _ _ _ _ _ => True) (fun _ U_ o_ U'_ => ∃ v_ L_, o_ = .returned v_ ∧ QV (.int (if (if ord < (0 : Int32) then (1 : Int32) else (0 : Int32)) = (if (acc &&& bit) = (0 : Int32) then (0 : Int32) else (1 : Int32)) then (1 : Int32) else (0 : Int32))) h0 n0 v_ U'_.heap L_ ∧ FrameEnd U_ o_ U'_ L_ ({ frames := 2, cells := 0, slots := 0, locals := 25 } : Room).cells ({ frames := 2, cells := 0, slots := 0, locals := 25 } : Room).slots) := by
  refine MetFree.of_bodySF (plainFor_of_name pn_3) hisR ?_
  intro p e s m args below meth c s₁ Bd hml0 hP hK
  obtain ⟨rfl, hZ, hh⟩ := hP
  have hx := Bd.exec
  have hby := Bd.bytes
  have hml : c.maxLocals = 4 := hml0
  have hown : s.vm.findClass "com/example/unraveling/unraveling/query/OperatorHoldsPinLaw" = some m.cls := findClass_of_methodNamed Bd.named
  have hnm := (name_of_methodNamed Bd.named Bd.method).1
  have X0 : Stand p l e ({ frames := 2, cells := 0, slots := 0, locals := 25 } : Room) s m #[(.ref b), (.int ord), (.int acc), (.int bit)] below meth c s₁ [] 0 0 := Stand.of_body Bd
  have e0 : s₁.heap = h0 := by rw [← hh, Bd.state]; rfl
  have N0 := Fr.nil n0
  have k0 : ∀ tg, Steps p.tables e below (s₁.setTop (mkF m 0 #[.val (.ref b), .val (.int ord), .val (.int acc), .val (.int bit)] [])) tg → Steps p.tables e below (s₁.setTop (entryFrame m #[(.ref b), (.int ord), (.int acc), (.int bit)] 4)) tg := fun tg k => castTop (ef_rm3_2 m b ord acc bit) k
  obtain ⟨cq1, kq1, q1a, q1b, q1c⟩ := isOf hZ e0 Eb
  obtain ⟨_, _, ⟨T1, L1, k1, n1⟩, -, X1, ⟨Lc1, hQ1, l1, y1, z1⟩, st1⟩ := X0.virtualBack hx (y := (⟨"com/example/unraveling/unraveling/query/ValueTest$Operator", "holds", "(I)Z"⟩ : MethodName)) (z := (⟨"com/example/unraveling/unraveling/query/ValueTest$Operator", "holds", "(I)Z"⟩ : MethodName)) hown (mvT hZ (hw _ (List.mem_of_getElem? (i := 14) rfl))) (mvT hZ (hw _ (List.mem_of_getElem? (i := 15) rfl))) (notFace_of_selects (args := #[]) (mvT hZ (hw _ (List.mem_of_getElem? (i := 17) rfl)))) (mvT hZ (hw _ (List.mem_of_getElem? (i := 17) rfl))) (mvT hZ (hw _ (List.mem_of_getElem? (i := 16) rfl))) (by decide) (backOf (W := 0) (rm4_2 l Z a0 hw [] b ord  h0 n0 Eb Fo) hZ (hw _ (List.mem_of_getElem? (i := 18) rfl)) (hw _ (List.mem_of_getElem? (i := 8) rfl)) (by decide) (by decide)) q1a q1c (g := (mkF m 2 #[.val (.ref b), .val (.int ord), .val (.int acc), .val (.int bit)] [(.int ord), (.ref b)])) rfl (by rw [hml]; rfl) (Steps.refl _) (argsL := [(.int ord)]) (rest := []) (lenOf pd_1 rfl) rfl (by show 2 * 0 + _ ≤ _; exact Nat.le_of_eq rfl) (hb hby d3_2) (fun _ _ => ⟨rfl, e0, (by decide : 0 + 0 ≤ _), (by decide : 0 + 0 ≤ _)⟩)
  dsimp only [Pt.U, Pt.locs, Pt.cells, Pt.slots] at X1 l1 y1 z1 st1 hQ1
  subst l1 y1 z1
  obtain ⟨rfl, N1q, e1⟩ := hQ1
  have N1 := Fr.app N0 N1q
  obtain ⟨z2, ez2⟩ : ∃ z : Int32, z = (if ord < (0 : Int32) then (1 : Int32) else (0 : Int32)) := ⟨_, rfl⟩
  have k3 : ∀ tg, Steps p.tables e below (T1.setTop (mkF m 8 #[.val (.ref b), .val (.int ord), .val (.int acc), .val (.int bit)] [(.int (acc &&& bit)), (.int z2)])) tg → Steps p.tables e below (s₁.setTop (entryFrame m #[(.ref b), (.int ord), (.int acc), (.int bit)] 4)) tg := by
    intro tg kt
    refine k0 tg ?_
    show Steps p.tables e below (s₁.setTop (mkF m 0 #[.val (.ref b), .val (.int ord), .val (.int acc), .val (.int bit)] [])) _
    refine XS.aloadN X0.here hx rfl (hb hby d3_0) rfl rfl ?_
    show Steps p.tables e below (s₁.setTop (mkF m 1 #[.val (.ref b), .val (.int ord), .val (.int acc), .val (.int bit)] [(.ref b)])) _
    refine XS.iloadN X0.here hx rfl (hb hby d3_1) rfl ?_
    show Steps p.tables e below (s₁.setTop (mkF m 2 #[.val (.ref b), .val (.int ord), .val (.int acc), .val (.int bit)] [(.int ord), (.ref b)])) _
    refine st1.trans ?_
    show Steps p.tables e below (T1.setTop (mkF m 5 #[.val (.ref b), .val (.int ord), .val (.int acc), .val (.int bit)] [(.int (if ord < (0 : Int32) then (1 : Int32) else (0 : Int32)))])) _
    rw [← ez2]
    show Steps p.tables e below (T1.setTop (mkF m 5 #[.val (.ref b), .val (.int ord), .val (.int acc), .val (.int bit)] [(.int z2)])) _
    refine XS.iloadN X1.here hx rfl (hb hby d3_5) rfl ?_
    show Steps p.tables e below (T1.setTop (mkF m 6 #[.val (.ref b), .val (.int ord), .val (.int acc), .val (.int bit)] [(.int acc), (.int z2)])) _
    refine XS.iloadN X1.here hx rfl (hb hby d3_6) rfl ?_
    show Steps p.tables e below (T1.setTop (mkF m 7 #[.val (.ref b), .val (.int ord), .val (.int acc), .val (.int bit)] [(.int bit), (.int acc), (.int z2)])) _
    refine XS.iand X1.here hx rfl (hb hby d3_7) rfl ?_
    show Steps p.tables e below (T1.setTop (mkF m 8 #[.val (.ref b), .val (.int ord), .val (.int acc), .val (.int bit)] [(.int (acc &&& bit)), (.int z2)])) _
    exact kt
  have k7 : ∀ tg, Steps p.tables e below (T1.setTop (mkF m 16 #[.val (.ref b), .val (.int ord), .val (.int acc), .val (.int bit)] [(.int (if (acc &&& bit) = (0 : Int32) then (0 : Int32) else (1 : Int32))), (.int z2)])) tg → Steps p.tables e below (s₁.setTop (entryFrame m #[(.ref b), (.int ord), (.int acc), (.int bit)] 4)) tg := by
    intro tg kt
    refine k3 tg ?_
    show Steps p.tables e below (T1.setTop (mkF m 8 #[.val (.ref b), .val (.int ord), .val (.int acc), .val (.int bit)] [(.int (acc &&& bit)), (.int z2)])) _
    by_cases hc4 : (acc &&& bit) = (0 : Int32)
    · refine XS.ifYes X1.here hx rfl (pc0 := 8) (pc' := 15) rfl (hb hby d3_8) rfl ((if0 _ _).trans (teq hc4).1) (by decide) (by decide) ?_
      show Steps p.tables e below (T1.setTop (mkF m 15 #[.val (.ref b), .val (.int ord), .val (.int acc), .val (.int bit)] [(.int z2)])) _
      refine XS.iconst X1.here hx rfl (hb hby d3_15) ?_
      show Steps p.tables e below (T1.setTop (mkF m 16 #[.val (.ref b), .val (.int ord), .val (.int acc), .val (.int bit)] [(.int (0 : Int32)), (.int z2)])) _
      repeat rw [if_pos hc4] at kt
      exact kt
    · refine XS.ifNo X1.here hx rfl (hb hby d3_8) rfl ((if0 _ _).trans (feq hc4).1) ?_
      show Steps p.tables e below (T1.setTop (mkF m 11 #[.val (.ref b), .val (.int ord), .val (.int acc), .val (.int bit)] [(.int z2)])) _
      refine XS.iconst X1.here hx rfl (hb hby d3_11) ?_
      show Steps p.tables e below (T1.setTop (mkF m 12 #[.val (.ref b), .val (.int ord), .val (.int acc), .val (.int bit)] [(.int (1 : Int32)), (.int z2)])) _
      refine XS.goto X1.here hx rfl (pc0 := 12) (pc' := 16) rfl (hb hby d3_12) (by decide) (by decide) ?_
      show Steps p.tables e below (T1.setTop (mkF m 16 #[.val (.ref b), .val (.int ord), .val (.int acc), .val (.int bit)] [(.int (1 : Int32)), (.int z2)])) _
      repeat rw [if_neg hc4] at kt
      exact kt
  obtain ⟨z8, ez8⟩ : ∃ z : Int32, z = (if (acc &&& bit) = (0 : Int32) then (0 : Int32) else (1 : Int32)) := ⟨_, rfl⟩
  have k9 : ∀ tg, Steps p.tables e below (T1.setTop (mkF m 16 #[.val (.ref b), .val (.int ord), .val (.int acc), .val (.int bit)] [(.int z8), (.int z2)])) tg → Steps p.tables e below (s₁.setTop (entryFrame m #[(.ref b), (.int ord), (.int acc), (.int bit)] 4)) tg := by
    intro tg kt
    refine k7 tg ?_
    show Steps p.tables e below (T1.setTop (mkF m 16 #[.val (.ref b), .val (.int ord), .val (.int acc), .val (.int bit)] [(.int (if (acc &&& bit) = (0 : Int32) then (0 : Int32) else (1 : Int32))), (.int z2)])) _
    rw [← ez8]
    show Steps p.tables e below (T1.setTop (mkF m 16 #[.val (.ref b), .val (.int ord), .val (.int acc), .val (.int bit)] [(.int z8), (.int z2)])) _
    exact kt
  have k13 : ∀ tg, Steps p.tables e below (T1.setTop (mkF m 24 #[.val (.ref b), .val (.int ord), .val (.int acc), .val (.int bit)] [(.int (if z2 = z8 then (1 : Int32) else (0 : Int32)))])) tg → Steps p.tables e below (s₁.setTop (entryFrame m #[(.ref b), (.int ord), (.int acc), (.int bit)] 4)) tg := by
    intro tg kt
    refine k9 tg ?_
    show Steps p.tables e below (T1.setTop (mkF m 16 #[.val (.ref b), .val (.int ord), .val (.int acc), .val (.int bit)] [(.int z8), (.int z2)])) _
    by_cases hc10 : z2 = z8
    · refine XS.icmpNo X1.here hx rfl (hb hby d3_16) rfl (teq hc10).2 ?_
      show Steps p.tables e below (T1.setTop (mkF m 19 #[.val (.ref b), .val (.int ord), .val (.int acc), .val (.int bit)] [])) _
      refine XS.iconst X1.here hx rfl (hb hby d3_19) ?_
      show Steps p.tables e below (T1.setTop (mkF m 20 #[.val (.ref b), .val (.int ord), .val (.int acc), .val (.int bit)] [(.int (1 : Int32))])) _
      refine XS.goto X1.here hx rfl (pc0 := 20) (pc' := 24) rfl (hb hby d3_20) (by decide) (by decide) ?_
      show Steps p.tables e below (T1.setTop (mkF m 24 #[.val (.ref b), .val (.int ord), .val (.int acc), .val (.int bit)] [(.int (1 : Int32))])) _
      repeat rw [if_pos hc10] at kt
      exact kt
    · refine XS.icmpYes X1.here hx rfl (pc0 := 16) (pc' := 23) rfl (hb hby d3_16) rfl (feq hc10).2 (by decide) (by decide) ?_
      show Steps p.tables e below (T1.setTop (mkF m 23 #[.val (.ref b), .val (.int ord), .val (.int acc), .val (.int bit)] [])) _
      refine XS.iconst X1.here hx rfl (hb hby d3_23) ?_
      show Steps p.tables e below (T1.setTop (mkF m 24 #[.val (.ref b), .val (.int ord), .val (.int acc), .val (.int bit)] [(.int (0 : Int32))])) _
      repeat rw [if_neg hc10] at kt
      exact kt
  obtain ⟨z14, ez14⟩ : ∃ z : Int32, z = (if z2 = z8 then (1 : Int32) else (0 : Int32)) := ⟨_, rfl⟩
  have k15 : ∀ tg, Steps p.tables e below (T1.setTop (mkF m 24 #[.val (.ref b), .val (.int ord), .val (.int acc), .val (.int bit)] [(.int z14)])) tg → Steps p.tables e below (s₁.setTop (entryFrame m #[(.ref b), (.int ord), (.int acc), (.int bit)] 4)) tg := by
    intro tg kt
    refine k13 tg ?_
    show Steps p.tables e below (T1.setTop (mkF m 24 #[.val (.ref b), .val (.int ord), .val (.int acc), .val (.int bit)] [(.int (if z2 = z8 then (1 : Int32) else (0 : Int32)))])) _
    rw [← ez14]
    show Steps p.tables e below (T1.setTop (mkF m 24 #[.val (.ref b), .val (.int ord), .val (.int acc), .val (.int bit)] [(.int z14)])) _
    exact kt
  obtain ⟨fs, hr, hrun, hended, hW, hsame⟩ := X1.leave (v := some (.int z14)) (fun h => by rw [Bd.returns] at h; cases h)
  refine ⟨_, _, k15 _ ?_, hrun, hended, _, _, rfl, ?_, ⟨_, rfl⟩, hW, hsame.mono (by decide) (by decide)⟩
  · exact retN X1 hx (t := .boolean) Bd.returns (by simp) (hb hby d3_24) (by rw [show nar .boolean z14 = z14 from (by rw [ez14]; (repeat' split) <;> decide)]; exact hr)
  · show QV _ h0 n0 _ T1.heap _
    exact ⟨by subst ez2 ez8 ez14; rfl, N1, e1⟩
theorem d4_90 : decode prog_106_method_5_code 90 = .ok (.iload_n 1, 1) := by decide +kernel
theorem d4_91 : decode prog_106_method_5_code 91 = .ok (.ifCond .gt 7, 3) := by decide +kernel
theorem d4_94 : decode prog_106_method_5_code 94 = .ok (.iconst 1, 1) := by decide +kernel
theorem d4_95 : decode prog_106_method_5_code 95 = .ok (.goto 28, 3) := by decide +kernel
theorem d4_98 : decode prog_106_method_5_code 98 = .ok (.iconst 0, 1) := by decide +kernel
theorem d4_99 : decode prog_106_method_5_code 99 = .ok (.goto 24, 3) := by decide +kernel
theorem ef_rm4_3 (m : MethodId) (b : Addr) (ord : Int32) : entryFrame m #[(.ref b), (.int ord)] 2 = mkF m 0 #[.val (.ref b), .val (.int ord)] [] := by first | (simp [entryFrame, mkF, argsToLocals, Value.category]; done) | rfl
set_option maxRecDepth 65536 in
set_option maxHeartbeats 40000000 in
theorem rm4_3 (l : Launch) (Z : State) (a0 : Array Value) (hw : ∀ d ∈ tables_1, d.before a0 Z = true) (ws : List Jvm.Cond) (b : Addr) (ord : Int32)  (h0 : Heap) (n0 : Nat) (Eb : Exa Z h0 b "com/example/unraveling/unraveling/query/ValueTest$Operator") (Fo : Fld Z h0 b "java/lang/Enum" "ordinal" "I" (.int (3 : Int32))) :
    MetFree l (⟨"com/example/unraveling/unraveling/query/ValueTest$Operator", "holds", "(I)Z"⟩ : MethodName) (head1 (Jvm.Cond.code (⟨"com/example/unraveling/unraveling/query/ValueTest$Operator", "holds", "(I)Z"⟩ : MethodName) prog_106_method_5_code 2 (some .boolean) :: ws) ({ frames := 1, cells := 0, slots := 0, locals := 12 } : Room)) (fun a_ U_ => a_ = #[(.ref b), (.int ord)] ∧ Z.Warmed39 U_.vm ∧ U_.heap = h0) (fun _ _ _ _ _ => True) (fun _ U_ o_ U'_ => ∃ v_ L_, o_ = .returned v_ ∧ QV (.int (if (0 : Int32) < ord then (0 : Int32) else (1 : Int32))) h0 n0 v_ U'_.heap L_ ∧ FrameEnd U_ o_ U'_ L_ ({ frames := 1, cells := 0, slots := 0, locals := 12 } : Room).cells ({ frames := 1, cells := 0, slots := 0, locals := 12 } : Room).slots) := by
  refine MetFree.of_bodySF (plainFor_of_name pn_4) hisR ?_
  intro p e s m args below meth c s₁ Bd hml0 hP hK
  obtain ⟨rfl, hZ, hh⟩ := hP
  have hx := Bd.exec
  have hby := Bd.bytes
  have hml : c.maxLocals = 2 := hml0
  have hown : s.vm.findClass "com/example/unraveling/unraveling/query/ValueTest$Operator" = some m.cls := findClass_of_methodNamed Bd.named
  have hnm := (name_of_methodNamed Bd.named Bd.method).1
  have X0 : Stand p l e ({ frames := 1, cells := 0, slots := 0, locals := 12 } : Room) s m #[(.ref b), (.int ord)] below meth c s₁ [] 0 0 := Stand.of_body Bd
  have e0 : s₁.heap = h0 := by rw [← hh, Bd.state]; rfl
  have N0 := Fr.nil n0
  have k0 : ∀ tg, Steps p.tables e below (s₁.setTop (mkF m 0 #[.val (.ref b), .val (.int ord)] [])) tg → Steps p.tables e below (s₁.setTop (entryFrame m #[(.ref b), (.int ord)] 2)) tg := fun tg k => castTop (ef_rm4_3 m b ord) k
  obtain ⟨cq1, kq1, q1a, q1b, q1c⟩ := isOf hZ e0 Eb
  obtain ⟨_, _, ⟨T1, L1, k1, n1⟩, -, X1, ⟨Lc1, hQ1, l1, y1, z1⟩, st1⟩ := X0.virtualBackUp hx (x := (⟨"com/example/unraveling/unraveling/query/ValueTest$Operator", "ordinal", "()I"⟩ : MethodName)) (y := (⟨"java/lang/Enum", "ordinal", "()I"⟩ : MethodName)) (owner := "java/lang/Enum") hown (mvT hZ (hw _ (List.mem_of_getElem? (i := 19) rfl))) (mvT hZ (hw _ (List.mem_of_getElem? (i := 20) rfl))) (mvT hZ (hw _ (List.mem_of_getElem? (i := 21) rfl))) (by decide) (mvT hZ (hw _ (List.mem_of_getElem? (i := 23) rfl))) (mvT hZ (hw _ (List.mem_of_getElem? (i := 22) rfl))) (backOf (W := 0) (rm5 l Z a0 hw [] b (3 : Int32) h0 n0 Fo) hZ (hw _ (List.mem_of_getElem? (i := 25) rfl)) (hw _ (List.mem_of_getElem? (i := 24) rfl)) (by decide) (by decide)) q1a q1c (g := (mkF m 1 #[.val (.ref b), .val (.int ord)] [(.ref b)])) rfl (by rw [hml]; rfl) (Steps.refl _) (argsL := []) (rest := []) (lenOf pd_0 rfl) rfl (by show 2 * 0 + _ ≤ _; exact Nat.le_of_eq rfl) (hb hby d4_1) (fun _ _ => ⟨rfl, e0, (by decide : 0 + 0 ≤ _), (by decide : 0 + 0 ≤ _)⟩)
  dsimp only [Pt.U, Pt.locs, Pt.cells, Pt.slots] at X1 l1 y1 z1 st1 hQ1
  subst l1 y1 z1
  obtain ⟨rfl, N1q, e1⟩ := hQ1
  have N1 := Fr.app N0 N1q
  have k2 : ∀ tg, Steps p.tables e below (T1.setTop (mkF m 91 #[.val (.ref b), .val (.int ord)] [(.int ord)])) tg → Steps p.tables e below (s₁.setTop (entryFrame m #[(.ref b), (.int ord)] 2)) tg := by
    intro tg kt
    refine k0 tg ?_
    show Steps p.tables e below (s₁.setTop (mkF m 0 #[.val (.ref b), .val (.int ord)] [])) _
    refine XS.aloadN X0.here hx rfl (hb hby d4_0) rfl rfl ?_
    show Steps p.tables e below (s₁.setTop (mkF m 1 #[.val (.ref b), .val (.int ord)] [(.ref b)])) _
    refine st1.trans ?_
    show Steps p.tables e below (T1.setTop (mkF m 4 #[.val (.ref b), .val (.int ord)] [(.int (3 : Int32))])) _
    refine XS.tswIn X1.here hx rfl (pc0 := 4) (pc' := 90) rfl (hb hby d4_4) rfl (by decide) (o := 86) (by decide) (by decide) (by decide) ?_
    show Steps p.tables e below (T1.setTop (mkF m 90 #[.val (.ref b), .val (.int ord)] [])) _
    refine XS.iloadN X1.here hx rfl (hb hby d4_90) rfl ?_
    show Steps p.tables e below (T1.setTop (mkF m 91 #[.val (.ref b), .val (.int ord)] [(.int ord)])) _
    exact kt
  have k6 : ∀ tg, Steps p.tables e below (T1.setTop (mkF m 123 #[.val (.ref b), .val (.int ord)] [(.int (if (0 : Int32) < ord then (0 : Int32) else (1 : Int32)))])) tg → Steps p.tables e below (s₁.setTop (entryFrame m #[(.ref b), (.int ord)] 2)) tg := by
    intro tg kt
    refine k2 tg ?_
    show Steps p.tables e below (T1.setTop (mkF m 91 #[.val (.ref b), .val (.int ord)] [(.int ord)])) _
    by_cases hc3 : (0 : Int32) < ord
    · refine XS.ifYes X1.here hx rfl (pc0 := 91) (pc' := 98) rfl (hb hby d4_91) rfl ((if0 _ _).trans (tlt hc3).2.2.1) (by decide) (by decide) ?_
      show Steps p.tables e below (T1.setTop (mkF m 98 #[.val (.ref b), .val (.int ord)] [])) _
      refine XS.iconst X1.here hx rfl (hb hby d4_98) ?_
      show Steps p.tables e below (T1.setTop (mkF m 99 #[.val (.ref b), .val (.int ord)] [(.int (0 : Int32))])) _
      refine XS.goto X1.here hx rfl (pc0 := 99) (pc' := 123) rfl (hb hby d4_99) (by decide) (by decide) ?_
      show Steps p.tables e below (T1.setTop (mkF m 123 #[.val (.ref b), .val (.int ord)] [(.int (0 : Int32))])) _
      repeat rw [if_pos hc3] at kt
      exact kt
    · refine XS.ifNo X1.here hx rfl (hb hby d4_91) rfl ((if0 _ _).trans (flt hc3).2.2.1) ?_
      show Steps p.tables e below (T1.setTop (mkF m 94 #[.val (.ref b), .val (.int ord)] [])) _
      refine XS.iconst X1.here hx rfl (hb hby d4_94) ?_
      show Steps p.tables e below (T1.setTop (mkF m 95 #[.val (.ref b), .val (.int ord)] [(.int (1 : Int32))])) _
      refine XS.goto X1.here hx rfl (pc0 := 95) (pc' := 123) rfl (hb hby d4_95) (by decide) (by decide) ?_
      show Steps p.tables e below (T1.setTop (mkF m 123 #[.val (.ref b), .val (.int ord)] [(.int (1 : Int32))])) _
      repeat rw [if_neg hc3] at kt
      exact kt
  obtain ⟨z7, ez7⟩ : ∃ z : Int32, z = (if (0 : Int32) < ord then (0 : Int32) else (1 : Int32)) := ⟨_, rfl⟩
  have k8 : ∀ tg, Steps p.tables e below (T1.setTop (mkF m 123 #[.val (.ref b), .val (.int ord)] [(.int z7)])) tg → Steps p.tables e below (s₁.setTop (entryFrame m #[(.ref b), (.int ord)] 2)) tg := by
    intro tg kt
    refine k6 tg ?_
    show Steps p.tables e below (T1.setTop (mkF m 123 #[.val (.ref b), .val (.int ord)] [(.int (if (0 : Int32) < ord then (0 : Int32) else (1 : Int32)))])) _
    rw [← ez7]
    show Steps p.tables e below (T1.setTop (mkF m 123 #[.val (.ref b), .val (.int ord)] [(.int z7)])) _
    exact kt
  obtain ⟨fs, hr, hrun, hended, hW, hsame⟩ := X1.leave (v := some (.int z7)) (fun h => by rw [Bd.returns] at h; cases h)
  refine ⟨_, _, k8 _ ?_, hrun, hended, _, _, rfl, ?_, ⟨_, rfl⟩, hW, hsame.mono (by decide) (by decide)⟩
  · exact retN X1 hx (t := .boolean) Bd.returns (by simp) (hb hby d4_123) (by rw [show nar .boolean z7 = z7 from (by rw [ez7]; (repeat' split) <;> decide)]; exact hr)
  · show QV _ h0 n0 _ T1.heap _
    exact ⟨by subst ez7; rfl, N1, e1⟩
theorem ef_rm3_3 (m : MethodId) (b : Addr) (ord : Int32) (acc : Int32) (bit : Int32) : entryFrame m #[(.ref b), (.int ord), (.int acc), (.int bit)] 4 = mkF m 0 #[.val (.ref b), .val (.int ord), .val (.int acc), .val (.int bit)] [] := by first | (simp [entryFrame, mkF, argsToLocals, Value.category]; done) | rfl
set_option maxRecDepth 65536 in
set_option maxHeartbeats 40000000 in
theorem rm3_3 (l : Launch) (Z : State) (a0 : Array Value) (hw : ∀ d ∈ tables_1, d.before a0 Z = true) (ws : List Jvm.Cond) (b : Addr) (ord : Int32) (acc : Int32) (bit : Int32)  (h0 : Heap) (n0 : Nat) (Eb : Exa Z h0 b "com/example/unraveling/unraveling/query/ValueTest$Operator") (Fo : Fld Z h0 b "java/lang/Enum" "ordinal" "I" (.int (3 : Int32))) :
    MetFree l (⟨"com/example/unraveling/unraveling/query/OperatorHoldsPinLaw", "ok", "(Lcom/example/unraveling/unraveling/query/ValueTest$Operator;III)Z"⟩ : MethodName) (head1 (Jvm.Cond.code (⟨"com/example/unraveling/unraveling/query/OperatorHoldsPinLaw", "ok", "(Lcom/example/unraveling/unraveling/query/ValueTest$Operator;III)Z"⟩ : MethodName) method_3_code 4 (some .boolean) :: ws) ({ frames := 2, cells := 0, slots := 0, locals := 25 } : Room)) (fun a_ U_ => a_ = #[(.ref b), (.int ord), (.int acc), (.int bit)] ∧ Z.Warmed39 U_.vm ∧ U_.heap = h0) (fun _ _ _ _ _ => True) (fun _ U_ o_ U'_ => ∃ v_ L_, o_ = .returned v_ ∧ QV (.int (if (if (0 : Int32) < ord then (0 : Int32) else (1 : Int32)) = (if (acc &&& bit) = (0 : Int32) then (0 : Int32) else (1 : Int32)) then (1 : Int32) else (0 : Int32))) h0 n0 v_ U'_.heap L_ ∧ FrameEnd U_ o_ U'_ L_ ({ frames := 2, cells := 0, slots := 0, locals := 25 } : Room).cells ({ frames := 2, cells := 0, slots := 0, locals := 25 } : Room).slots) := by
  refine MetFree.of_bodySF (plainFor_of_name pn_3) hisR ?_
  intro p e s m args below meth c s₁ Bd hml0 hP hK
  obtain ⟨rfl, hZ, hh⟩ := hP
  have hx := Bd.exec
  have hby := Bd.bytes
  have hml : c.maxLocals = 4 := hml0
  have hown : s.vm.findClass "com/example/unraveling/unraveling/query/OperatorHoldsPinLaw" = some m.cls := findClass_of_methodNamed Bd.named
  have hnm := (name_of_methodNamed Bd.named Bd.method).1
  have X0 : Stand p l e ({ frames := 2, cells := 0, slots := 0, locals := 25 } : Room) s m #[(.ref b), (.int ord), (.int acc), (.int bit)] below meth c s₁ [] 0 0 := Stand.of_body Bd
  have e0 : s₁.heap = h0 := by rw [← hh, Bd.state]; rfl
  have N0 := Fr.nil n0
  have k0 : ∀ tg, Steps p.tables e below (s₁.setTop (mkF m 0 #[.val (.ref b), .val (.int ord), .val (.int acc), .val (.int bit)] [])) tg → Steps p.tables e below (s₁.setTop (entryFrame m #[(.ref b), (.int ord), (.int acc), (.int bit)] 4)) tg := fun tg k => castTop (ef_rm3_3 m b ord acc bit) k
  obtain ⟨cq1, kq1, q1a, q1b, q1c⟩ := isOf hZ e0 Eb
  obtain ⟨_, _, ⟨T1, L1, k1, n1⟩, -, X1, ⟨Lc1, hQ1, l1, y1, z1⟩, st1⟩ := X0.virtualBack hx (y := (⟨"com/example/unraveling/unraveling/query/ValueTest$Operator", "holds", "(I)Z"⟩ : MethodName)) (z := (⟨"com/example/unraveling/unraveling/query/ValueTest$Operator", "holds", "(I)Z"⟩ : MethodName)) hown (mvT hZ (hw _ (List.mem_of_getElem? (i := 14) rfl))) (mvT hZ (hw _ (List.mem_of_getElem? (i := 15) rfl))) (notFace_of_selects (args := #[]) (mvT hZ (hw _ (List.mem_of_getElem? (i := 17) rfl)))) (mvT hZ (hw _ (List.mem_of_getElem? (i := 17) rfl))) (mvT hZ (hw _ (List.mem_of_getElem? (i := 16) rfl))) (by decide) (backOf (W := 0) (rm4_3 l Z a0 hw [] b ord  h0 n0 Eb Fo) hZ (hw _ (List.mem_of_getElem? (i := 18) rfl)) (hw _ (List.mem_of_getElem? (i := 8) rfl)) (by decide) (by decide)) q1a q1c (g := (mkF m 2 #[.val (.ref b), .val (.int ord), .val (.int acc), .val (.int bit)] [(.int ord), (.ref b)])) rfl (by rw [hml]; rfl) (Steps.refl _) (argsL := [(.int ord)]) (rest := []) (lenOf pd_1 rfl) rfl (by show 2 * 0 + _ ≤ _; exact Nat.le_of_eq rfl) (hb hby d3_2) (fun _ _ => ⟨rfl, e0, (by decide : 0 + 0 ≤ _), (by decide : 0 + 0 ≤ _)⟩)
  dsimp only [Pt.U, Pt.locs, Pt.cells, Pt.slots] at X1 l1 y1 z1 st1 hQ1
  subst l1 y1 z1
  obtain ⟨rfl, N1q, e1⟩ := hQ1
  have N1 := Fr.app N0 N1q
  obtain ⟨z2, ez2⟩ : ∃ z : Int32, z = (if (0 : Int32) < ord then (0 : Int32) else (1 : Int32)) := ⟨_, rfl⟩
  have k3 : ∀ tg, Steps p.tables e below (T1.setTop (mkF m 8 #[.val (.ref b), .val (.int ord), .val (.int acc), .val (.int bit)] [(.int (acc &&& bit)), (.int z2)])) tg → Steps p.tables e below (s₁.setTop (entryFrame m #[(.ref b), (.int ord), (.int acc), (.int bit)] 4)) tg := by
    intro tg kt
    refine k0 tg ?_
    show Steps p.tables e below (s₁.setTop (mkF m 0 #[.val (.ref b), .val (.int ord), .val (.int acc), .val (.int bit)] [])) _
    refine XS.aloadN X0.here hx rfl (hb hby d3_0) rfl rfl ?_
    show Steps p.tables e below (s₁.setTop (mkF m 1 #[.val (.ref b), .val (.int ord), .val (.int acc), .val (.int bit)] [(.ref b)])) _
    refine XS.iloadN X0.here hx rfl (hb hby d3_1) rfl ?_
    show Steps p.tables e below (s₁.setTop (mkF m 2 #[.val (.ref b), .val (.int ord), .val (.int acc), .val (.int bit)] [(.int ord), (.ref b)])) _
    refine st1.trans ?_
    show Steps p.tables e below (T1.setTop (mkF m 5 #[.val (.ref b), .val (.int ord), .val (.int acc), .val (.int bit)] [(.int (if (0 : Int32) < ord then (0 : Int32) else (1 : Int32)))])) _
    rw [← ez2]
    show Steps p.tables e below (T1.setTop (mkF m 5 #[.val (.ref b), .val (.int ord), .val (.int acc), .val (.int bit)] [(.int z2)])) _
    refine XS.iloadN X1.here hx rfl (hb hby d3_5) rfl ?_
    show Steps p.tables e below (T1.setTop (mkF m 6 #[.val (.ref b), .val (.int ord), .val (.int acc), .val (.int bit)] [(.int acc), (.int z2)])) _
    refine XS.iloadN X1.here hx rfl (hb hby d3_6) rfl ?_
    show Steps p.tables e below (T1.setTop (mkF m 7 #[.val (.ref b), .val (.int ord), .val (.int acc), .val (.int bit)] [(.int bit), (.int acc), (.int z2)])) _
    refine XS.iand X1.here hx rfl (hb hby d3_7) rfl ?_
    show Steps p.tables e below (T1.setTop (mkF m 8 #[.val (.ref b), .val (.int ord), .val (.int acc), .val (.int bit)] [(.int (acc &&& bit)), (.int z2)])) _
    exact kt
  have k7 : ∀ tg, Steps p.tables e below (T1.setTop (mkF m 16 #[.val (.ref b), .val (.int ord), .val (.int acc), .val (.int bit)] [(.int (if (acc &&& bit) = (0 : Int32) then (0 : Int32) else (1 : Int32))), (.int z2)])) tg → Steps p.tables e below (s₁.setTop (entryFrame m #[(.ref b), (.int ord), (.int acc), (.int bit)] 4)) tg := by
    intro tg kt
    refine k3 tg ?_
    show Steps p.tables e below (T1.setTop (mkF m 8 #[.val (.ref b), .val (.int ord), .val (.int acc), .val (.int bit)] [(.int (acc &&& bit)), (.int z2)])) _
    by_cases hc4 : (acc &&& bit) = (0 : Int32)
    · refine XS.ifYes X1.here hx rfl (pc0 := 8) (pc' := 15) rfl (hb hby d3_8) rfl ((if0 _ _).trans (teq hc4).1) (by decide) (by decide) ?_
      show Steps p.tables e below (T1.setTop (mkF m 15 #[.val (.ref b), .val (.int ord), .val (.int acc), .val (.int bit)] [(.int z2)])) _
      refine XS.iconst X1.here hx rfl (hb hby d3_15) ?_
      show Steps p.tables e below (T1.setTop (mkF m 16 #[.val (.ref b), .val (.int ord), .val (.int acc), .val (.int bit)] [(.int (0 : Int32)), (.int z2)])) _
      repeat rw [if_pos hc4] at kt
      exact kt
    · refine XS.ifNo X1.here hx rfl (hb hby d3_8) rfl ((if0 _ _).trans (feq hc4).1) ?_
      show Steps p.tables e below (T1.setTop (mkF m 11 #[.val (.ref b), .val (.int ord), .val (.int acc), .val (.int bit)] [(.int z2)])) _
      refine XS.iconst X1.here hx rfl (hb hby d3_11) ?_
      show Steps p.tables e below (T1.setTop (mkF m 12 #[.val (.ref b), .val (.int ord), .val (.int acc), .val (.int bit)] [(.int (1 : Int32)), (.int z2)])) _
      refine XS.goto X1.here hx rfl (pc0 := 12) (pc' := 16) rfl (hb hby d3_12) (by decide) (by decide) ?_
      show Steps p.tables e below (T1.setTop (mkF m 16 #[.val (.ref b), .val (.int ord), .val (.int acc), .val (.int bit)] [(.int (1 : Int32)), (.int z2)])) _
      repeat rw [if_neg hc4] at kt
      exact kt
  obtain ⟨z8, ez8⟩ : ∃ z : Int32, z = (if (acc &&& bit) = (0 : Int32) then (0 : Int32) else (1 : Int32)) := ⟨_, rfl⟩
  have k9 : ∀ tg, Steps p.tables e below (T1.setTop (mkF m 16 #[.val (.ref b), .val (.int ord), .val (.int acc), .val (.int bit)] [(.int z8), (.int z2)])) tg → Steps p.tables e below (s₁.setTop (entryFrame m #[(.ref b), (.int ord), (.int acc), (.int bit)] 4)) tg := by
    intro tg kt
    refine k7 tg ?_
    show Steps p.tables e below (T1.setTop (mkF m 16 #[.val (.ref b), .val (.int ord), .val (.int acc), .val (.int bit)] [(.int (if (acc &&& bit) = (0 : Int32) then (0 : Int32) else (1 : Int32))), (.int z2)])) _
    rw [← ez8]
    show Steps p.tables e below (T1.setTop (mkF m 16 #[.val (.ref b), .val (.int ord), .val (.int acc), .val (.int bit)] [(.int z8), (.int z2)])) _
    exact kt
  have k13 : ∀ tg, Steps p.tables e below (T1.setTop (mkF m 24 #[.val (.ref b), .val (.int ord), .val (.int acc), .val (.int bit)] [(.int (if z2 = z8 then (1 : Int32) else (0 : Int32)))])) tg → Steps p.tables e below (s₁.setTop (entryFrame m #[(.ref b), (.int ord), (.int acc), (.int bit)] 4)) tg := by
    intro tg kt
    refine k9 tg ?_
    show Steps p.tables e below (T1.setTop (mkF m 16 #[.val (.ref b), .val (.int ord), .val (.int acc), .val (.int bit)] [(.int z8), (.int z2)])) _
    by_cases hc10 : z2 = z8
    · refine XS.icmpNo X1.here hx rfl (hb hby d3_16) rfl (teq hc10).2 ?_
      show Steps p.tables e below (T1.setTop (mkF m 19 #[.val (.ref b), .val (.int ord), .val (.int acc), .val (.int bit)] [])) _
      refine XS.iconst X1.here hx rfl (hb hby d3_19) ?_
      show Steps p.tables e below (T1.setTop (mkF m 20 #[.val (.ref b), .val (.int ord), .val (.int acc), .val (.int bit)] [(.int (1 : Int32))])) _
      refine XS.goto X1.here hx rfl (pc0 := 20) (pc' := 24) rfl (hb hby d3_20) (by decide) (by decide) ?_
      show Steps p.tables e below (T1.setTop (mkF m 24 #[.val (.ref b), .val (.int ord), .val (.int acc), .val (.int bit)] [(.int (1 : Int32))])) _
      repeat rw [if_pos hc10] at kt
      exact kt
    · refine XS.icmpYes X1.here hx rfl (pc0 := 16) (pc' := 23) rfl (hb hby d3_16) rfl (feq hc10).2 (by decide) (by decide) ?_
      show Steps p.tables e below (T1.setTop (mkF m 23 #[.val (.ref b), .val (.int ord), .val (.int acc), .val (.int bit)] [])) _
      refine XS.iconst X1.here hx rfl (hb hby d3_23) ?_
      show Steps p.tables e below (T1.setTop (mkF m 24 #[.val (.ref b), .val (.int ord), .val (.int acc), .val (.int bit)] [(.int (0 : Int32))])) _
      repeat rw [if_neg hc10] at kt
      exact kt
  obtain ⟨z14, ez14⟩ : ∃ z : Int32, z = (if z2 = z8 then (1 : Int32) else (0 : Int32)) := ⟨_, rfl⟩
  have k15 : ∀ tg, Steps p.tables e below (T1.setTop (mkF m 24 #[.val (.ref b), .val (.int ord), .val (.int acc), .val (.int bit)] [(.int z14)])) tg → Steps p.tables e below (s₁.setTop (entryFrame m #[(.ref b), (.int ord), (.int acc), (.int bit)] 4)) tg := by
    intro tg kt
    refine k13 tg ?_
    show Steps p.tables e below (T1.setTop (mkF m 24 #[.val (.ref b), .val (.int ord), .val (.int acc), .val (.int bit)] [(.int (if z2 = z8 then (1 : Int32) else (0 : Int32)))])) _
    rw [← ez14]
    show Steps p.tables e below (T1.setTop (mkF m 24 #[.val (.ref b), .val (.int ord), .val (.int acc), .val (.int bit)] [(.int z14)])) _
    exact kt
  obtain ⟨fs, hr, hrun, hended, hW, hsame⟩ := X1.leave (v := some (.int z14)) (fun h => by rw [Bd.returns] at h; cases h)
  refine ⟨_, _, k15 _ ?_, hrun, hended, _, _, rfl, ?_, ⟨_, rfl⟩, hW, hsame.mono (by decide) (by decide)⟩
  · exact retN X1 hx (t := .boolean) Bd.returns (by simp) (hb hby d3_24) (by rw [show nar .boolean z14 = z14 from (by rw [ez14]; (repeat' split) <;> decide)]; exact hr)
  · show QV _ h0 n0 _ T1.heap _
    exact ⟨by subst ez2 ez8 ez14; rfl, N1, e1⟩
theorem d4_102 : decode prog_106_method_5_code 102 = .ok (.iload_n 1, 1) := by decide +kernel
theorem d4_103 : decode prog_106_method_5_code 103 = .ok (.ifCond .le 7, 3) := by decide +kernel
theorem d4_106 : decode prog_106_method_5_code 106 = .ok (.iconst 1, 1) := by decide +kernel
theorem d4_107 : decode prog_106_method_5_code 107 = .ok (.goto 16, 3) := by decide +kernel
theorem d4_110 : decode prog_106_method_5_code 110 = .ok (.iconst 0, 1) := by decide +kernel
theorem d4_111 : decode prog_106_method_5_code 111 = .ok (.goto 12, 3) := by decide +kernel
theorem ef_rm4_4 (m : MethodId) (b : Addr) (ord : Int32) : entryFrame m #[(.ref b), (.int ord)] 2 = mkF m 0 #[.val (.ref b), .val (.int ord)] [] := by first | (simp [entryFrame, mkF, argsToLocals, Value.category]; done) | rfl
set_option maxRecDepth 65536 in
set_option maxHeartbeats 40000000 in
theorem rm4_4 (l : Launch) (Z : State) (a0 : Array Value) (hw : ∀ d ∈ tables_1, d.before a0 Z = true) (ws : List Jvm.Cond) (b : Addr) (ord : Int32)  (h0 : Heap) (n0 : Nat) (Eb : Exa Z h0 b "com/example/unraveling/unraveling/query/ValueTest$Operator") (Fo : Fld Z h0 b "java/lang/Enum" "ordinal" "I" (.int (4 : Int32))) :
    MetFree l (⟨"com/example/unraveling/unraveling/query/ValueTest$Operator", "holds", "(I)Z"⟩ : MethodName) (head1 (Jvm.Cond.code (⟨"com/example/unraveling/unraveling/query/ValueTest$Operator", "holds", "(I)Z"⟩ : MethodName) prog_106_method_5_code 2 (some .boolean) :: ws) ({ frames := 1, cells := 0, slots := 0, locals := 12 } : Room)) (fun a_ U_ => a_ = #[(.ref b), (.int ord)] ∧ Z.Warmed39 U_.vm ∧ U_.heap = h0) (fun _ _ _ _ _ => True) (fun _ U_ o_ U'_ => ∃ v_ L_, o_ = .returned v_ ∧ QV (.int (if (0 : Int32) < ord then (1 : Int32) else (0 : Int32))) h0 n0 v_ U'_.heap L_ ∧ FrameEnd U_ o_ U'_ L_ ({ frames := 1, cells := 0, slots := 0, locals := 12 } : Room).cells ({ frames := 1, cells := 0, slots := 0, locals := 12 } : Room).slots) := by
  refine MetFree.of_bodySF (plainFor_of_name pn_4) hisR ?_
  intro p e s m args below meth c s₁ Bd hml0 hP hK
  obtain ⟨rfl, hZ, hh⟩ := hP
  have hx := Bd.exec
  have hby := Bd.bytes
  have hml : c.maxLocals = 2 := hml0
  have hown : s.vm.findClass "com/example/unraveling/unraveling/query/ValueTest$Operator" = some m.cls := findClass_of_methodNamed Bd.named
  have hnm := (name_of_methodNamed Bd.named Bd.method).1
  have X0 : Stand p l e ({ frames := 1, cells := 0, slots := 0, locals := 12 } : Room) s m #[(.ref b), (.int ord)] below meth c s₁ [] 0 0 := Stand.of_body Bd
  have e0 : s₁.heap = h0 := by rw [← hh, Bd.state]; rfl
  have N0 := Fr.nil n0
  have k0 : ∀ tg, Steps p.tables e below (s₁.setTop (mkF m 0 #[.val (.ref b), .val (.int ord)] [])) tg → Steps p.tables e below (s₁.setTop (entryFrame m #[(.ref b), (.int ord)] 2)) tg := fun tg k => castTop (ef_rm4_4 m b ord) k
  obtain ⟨cq1, kq1, q1a, q1b, q1c⟩ := isOf hZ e0 Eb
  obtain ⟨_, _, ⟨T1, L1, k1, n1⟩, -, X1, ⟨Lc1, hQ1, l1, y1, z1⟩, st1⟩ := X0.virtualBackUp hx (x := (⟨"com/example/unraveling/unraveling/query/ValueTest$Operator", "ordinal", "()I"⟩ : MethodName)) (y := (⟨"java/lang/Enum", "ordinal", "()I"⟩ : MethodName)) (owner := "java/lang/Enum") hown (mvT hZ (hw _ (List.mem_of_getElem? (i := 19) rfl))) (mvT hZ (hw _ (List.mem_of_getElem? (i := 20) rfl))) (mvT hZ (hw _ (List.mem_of_getElem? (i := 21) rfl))) (by decide) (mvT hZ (hw _ (List.mem_of_getElem? (i := 23) rfl))) (mvT hZ (hw _ (List.mem_of_getElem? (i := 22) rfl))) (backOf (W := 0) (rm5 l Z a0 hw [] b (4 : Int32) h0 n0 Fo) hZ (hw _ (List.mem_of_getElem? (i := 25) rfl)) (hw _ (List.mem_of_getElem? (i := 24) rfl)) (by decide) (by decide)) q1a q1c (g := (mkF m 1 #[.val (.ref b), .val (.int ord)] [(.ref b)])) rfl (by rw [hml]; rfl) (Steps.refl _) (argsL := []) (rest := []) (lenOf pd_0 rfl) rfl (by show 2 * 0 + _ ≤ _; exact Nat.le_of_eq rfl) (hb hby d4_1) (fun _ _ => ⟨rfl, e0, (by decide : 0 + 0 ≤ _), (by decide : 0 + 0 ≤ _)⟩)
  dsimp only [Pt.U, Pt.locs, Pt.cells, Pt.slots] at X1 l1 y1 z1 st1 hQ1
  subst l1 y1 z1
  obtain ⟨rfl, N1q, e1⟩ := hQ1
  have N1 := Fr.app N0 N1q
  have k2 : ∀ tg, Steps p.tables e below (T1.setTop (mkF m 103 #[.val (.ref b), .val (.int ord)] [(.int ord)])) tg → Steps p.tables e below (s₁.setTop (entryFrame m #[(.ref b), (.int ord)] 2)) tg := by
    intro tg kt
    refine k0 tg ?_
    show Steps p.tables e below (s₁.setTop (mkF m 0 #[.val (.ref b), .val (.int ord)] [])) _
    refine XS.aloadN X0.here hx rfl (hb hby d4_0) rfl rfl ?_
    show Steps p.tables e below (s₁.setTop (mkF m 1 #[.val (.ref b), .val (.int ord)] [(.ref b)])) _
    refine st1.trans ?_
    show Steps p.tables e below (T1.setTop (mkF m 4 #[.val (.ref b), .val (.int ord)] [(.int (4 : Int32))])) _
    refine XS.tswIn X1.here hx rfl (pc0 := 4) (pc' := 102) rfl (hb hby d4_4) rfl (by decide) (o := 98) (by decide) (by decide) (by decide) ?_
    show Steps p.tables e below (T1.setTop (mkF m 102 #[.val (.ref b), .val (.int ord)] [])) _
    refine XS.iloadN X1.here hx rfl (hb hby d4_102) rfl ?_
    show Steps p.tables e below (T1.setTop (mkF m 103 #[.val (.ref b), .val (.int ord)] [(.int ord)])) _
    exact kt
  have k6 : ∀ tg, Steps p.tables e below (T1.setTop (mkF m 123 #[.val (.ref b), .val (.int ord)] [(.int (if (0 : Int32) < ord then (1 : Int32) else (0 : Int32)))])) tg → Steps p.tables e below (s₁.setTop (entryFrame m #[(.ref b), (.int ord)] 2)) tg := by
    intro tg kt
    refine k2 tg ?_
    show Steps p.tables e below (T1.setTop (mkF m 103 #[.val (.ref b), .val (.int ord)] [(.int ord)])) _
    by_cases hc3 : (0 : Int32) < ord
    · refine XS.ifNo X1.here hx rfl (hb hby d4_103) rfl ((if0 _ _).trans (tlt hc3).2.2.2) ?_
      show Steps p.tables e below (T1.setTop (mkF m 106 #[.val (.ref b), .val (.int ord)] [])) _
      refine XS.iconst X1.here hx rfl (hb hby d4_106) ?_
      show Steps p.tables e below (T1.setTop (mkF m 107 #[.val (.ref b), .val (.int ord)] [(.int (1 : Int32))])) _
      refine XS.goto X1.here hx rfl (pc0 := 107) (pc' := 123) rfl (hb hby d4_107) (by decide) (by decide) ?_
      show Steps p.tables e below (T1.setTop (mkF m 123 #[.val (.ref b), .val (.int ord)] [(.int (1 : Int32))])) _
      repeat rw [if_pos hc3] at kt
      exact kt
    · refine XS.ifYes X1.here hx rfl (pc0 := 103) (pc' := 110) rfl (hb hby d4_103) rfl ((if0 _ _).trans (flt hc3).2.2.2) (by decide) (by decide) ?_
      show Steps p.tables e below (T1.setTop (mkF m 110 #[.val (.ref b), .val (.int ord)] [])) _
      refine XS.iconst X1.here hx rfl (hb hby d4_110) ?_
      show Steps p.tables e below (T1.setTop (mkF m 111 #[.val (.ref b), .val (.int ord)] [(.int (0 : Int32))])) _
      refine XS.goto X1.here hx rfl (pc0 := 111) (pc' := 123) rfl (hb hby d4_111) (by decide) (by decide) ?_
      show Steps p.tables e below (T1.setTop (mkF m 123 #[.val (.ref b), .val (.int ord)] [(.int (0 : Int32))])) _
      repeat rw [if_neg hc3] at kt
      exact kt
  obtain ⟨z7, ez7⟩ : ∃ z : Int32, z = (if (0 : Int32) < ord then (1 : Int32) else (0 : Int32)) := ⟨_, rfl⟩
  have k8 : ∀ tg, Steps p.tables e below (T1.setTop (mkF m 123 #[.val (.ref b), .val (.int ord)] [(.int z7)])) tg → Steps p.tables e below (s₁.setTop (entryFrame m #[(.ref b), (.int ord)] 2)) tg := by
    intro tg kt
    refine k6 tg ?_
    show Steps p.tables e below (T1.setTop (mkF m 123 #[.val (.ref b), .val (.int ord)] [(.int (if (0 : Int32) < ord then (1 : Int32) else (0 : Int32)))])) _
    rw [← ez7]
    show Steps p.tables e below (T1.setTop (mkF m 123 #[.val (.ref b), .val (.int ord)] [(.int z7)])) _
    exact kt
  obtain ⟨fs, hr, hrun, hended, hW, hsame⟩ := X1.leave (v := some (.int z7)) (fun h => by rw [Bd.returns] at h; cases h)
  refine ⟨_, _, k8 _ ?_, hrun, hended, _, _, rfl, ?_, ⟨_, rfl⟩, hW, hsame.mono (by decide) (by decide)⟩
  · exact retN X1 hx (t := .boolean) Bd.returns (by simp) (hb hby d4_123) (by rw [show nar .boolean z7 = z7 from (by rw [ez7]; (repeat' split) <;> decide)]; exact hr)
  · show QV _ h0 n0 _ T1.heap _
    exact ⟨by subst ez7; rfl, N1, e1⟩
theorem ef_rm3_4 (m : MethodId) (b : Addr) (ord : Int32) (acc : Int32) (bit : Int32) : entryFrame m #[(.ref b), (.int ord), (.int acc), (.int bit)] 4 = mkF m 0 #[.val (.ref b), .val (.int ord), .val (.int acc), .val (.int bit)] [] := by first | (simp [entryFrame, mkF, argsToLocals, Value.category]; done) | rfl
set_option maxRecDepth 65536 in
set_option maxHeartbeats 40000000 in
theorem rm3_4 (l : Launch) (Z : State) (a0 : Array Value) (hw : ∀ d ∈ tables_1, d.before a0 Z = true) (ws : List Jvm.Cond) (b : Addr) (ord : Int32) (acc : Int32) (bit : Int32)  (h0 : Heap) (n0 : Nat) (Eb : Exa Z h0 b "com/example/unraveling/unraveling/query/ValueTest$Operator") (Fo : Fld Z h0 b "java/lang/Enum" "ordinal" "I" (.int (4 : Int32))) :
    MetFree l (⟨"com/example/unraveling/unraveling/query/OperatorHoldsPinLaw", "ok", "(Lcom/example/unraveling/unraveling/query/ValueTest$Operator;III)Z"⟩ : MethodName) (head1 (Jvm.Cond.code (⟨"com/example/unraveling/unraveling/query/OperatorHoldsPinLaw", "ok", "(Lcom/example/unraveling/unraveling/query/ValueTest$Operator;III)Z"⟩ : MethodName) method_3_code 4 (some .boolean) :: ws) ({ frames := 2, cells := 0, slots := 0, locals := 25 } : Room)) (fun a_ U_ => a_ = #[(.ref b), (.int ord), (.int acc), (.int bit)] ∧ Z.Warmed39 U_.vm ∧ U_.heap = h0) (fun _ _ _ _ _ => True) (fun _ U_ o_ U'_ => ∃ v_ L_, o_ = .returned v_ ∧ QV (.int (if (if (0 : Int32) < ord then (1 : Int32) else (0 : Int32)) = (if (acc &&& bit) = (0 : Int32) then (0 : Int32) else (1 : Int32)) then (1 : Int32) else (0 : Int32))) h0 n0 v_ U'_.heap L_ ∧ FrameEnd U_ o_ U'_ L_ ({ frames := 2, cells := 0, slots := 0, locals := 25 } : Room).cells ({ frames := 2, cells := 0, slots := 0, locals := 25 } : Room).slots) := by
  refine MetFree.of_bodySF (plainFor_of_name pn_3) hisR ?_
  intro p e s m args below meth c s₁ Bd hml0 hP hK
  obtain ⟨rfl, hZ, hh⟩ := hP
  have hx := Bd.exec
  have hby := Bd.bytes
  have hml : c.maxLocals = 4 := hml0
  have hown : s.vm.findClass "com/example/unraveling/unraveling/query/OperatorHoldsPinLaw" = some m.cls := findClass_of_methodNamed Bd.named
  have hnm := (name_of_methodNamed Bd.named Bd.method).1
  have X0 : Stand p l e ({ frames := 2, cells := 0, slots := 0, locals := 25 } : Room) s m #[(.ref b), (.int ord), (.int acc), (.int bit)] below meth c s₁ [] 0 0 := Stand.of_body Bd
  have e0 : s₁.heap = h0 := by rw [← hh, Bd.state]; rfl
  have N0 := Fr.nil n0
  have k0 : ∀ tg, Steps p.tables e below (s₁.setTop (mkF m 0 #[.val (.ref b), .val (.int ord), .val (.int acc), .val (.int bit)] [])) tg → Steps p.tables e below (s₁.setTop (entryFrame m #[(.ref b), (.int ord), (.int acc), (.int bit)] 4)) tg := fun tg k => castTop (ef_rm3_4 m b ord acc bit) k
  obtain ⟨cq1, kq1, q1a, q1b, q1c⟩ := isOf hZ e0 Eb
  obtain ⟨_, _, ⟨T1, L1, k1, n1⟩, -, X1, ⟨Lc1, hQ1, l1, y1, z1⟩, st1⟩ := X0.virtualBack hx (y := (⟨"com/example/unraveling/unraveling/query/ValueTest$Operator", "holds", "(I)Z"⟩ : MethodName)) (z := (⟨"com/example/unraveling/unraveling/query/ValueTest$Operator", "holds", "(I)Z"⟩ : MethodName)) hown (mvT hZ (hw _ (List.mem_of_getElem? (i := 14) rfl))) (mvT hZ (hw _ (List.mem_of_getElem? (i := 15) rfl))) (notFace_of_selects (args := #[]) (mvT hZ (hw _ (List.mem_of_getElem? (i := 17) rfl)))) (mvT hZ (hw _ (List.mem_of_getElem? (i := 17) rfl))) (mvT hZ (hw _ (List.mem_of_getElem? (i := 16) rfl))) (by decide) (backOf (W := 0) (rm4_4 l Z a0 hw [] b ord  h0 n0 Eb Fo) hZ (hw _ (List.mem_of_getElem? (i := 18) rfl)) (hw _ (List.mem_of_getElem? (i := 8) rfl)) (by decide) (by decide)) q1a q1c (g := (mkF m 2 #[.val (.ref b), .val (.int ord), .val (.int acc), .val (.int bit)] [(.int ord), (.ref b)])) rfl (by rw [hml]; rfl) (Steps.refl _) (argsL := [(.int ord)]) (rest := []) (lenOf pd_1 rfl) rfl (by show 2 * 0 + _ ≤ _; exact Nat.le_of_eq rfl) (hb hby d3_2) (fun _ _ => ⟨rfl, e0, (by decide : 0 + 0 ≤ _), (by decide : 0 + 0 ≤ _)⟩)
  dsimp only [Pt.U, Pt.locs, Pt.cells, Pt.slots] at X1 l1 y1 z1 st1 hQ1
  subst l1 y1 z1
  obtain ⟨rfl, N1q, e1⟩ := hQ1
  have N1 := Fr.app N0 N1q
  obtain ⟨z2, ez2⟩ : ∃ z : Int32, z = (if (0 : Int32) < ord then (1 : Int32) else (0 : Int32)) := ⟨_, rfl⟩
  have k3 : ∀ tg, Steps p.tables e below (T1.setTop (mkF m 8 #[.val (.ref b), .val (.int ord), .val (.int acc), .val (.int bit)] [(.int (acc &&& bit)), (.int z2)])) tg → Steps p.tables e below (s₁.setTop (entryFrame m #[(.ref b), (.int ord), (.int acc), (.int bit)] 4)) tg := by
    intro tg kt
    refine k0 tg ?_
    show Steps p.tables e below (s₁.setTop (mkF m 0 #[.val (.ref b), .val (.int ord), .val (.int acc), .val (.int bit)] [])) _
    refine XS.aloadN X0.here hx rfl (hb hby d3_0) rfl rfl ?_
    show Steps p.tables e below (s₁.setTop (mkF m 1 #[.val (.ref b), .val (.int ord), .val (.int acc), .val (.int bit)] [(.ref b)])) _
    refine XS.iloadN X0.here hx rfl (hb hby d3_1) rfl ?_
    show Steps p.tables e below (s₁.setTop (mkF m 2 #[.val (.ref b), .val (.int ord), .val (.int acc), .val (.int bit)] [(.int ord), (.ref b)])) _
    refine st1.trans ?_
    show Steps p.tables e below (T1.setTop (mkF m 5 #[.val (.ref b), .val (.int ord), .val (.int acc), .val (.int bit)] [(.int (if (0 : Int32) < ord then (1 : Int32) else (0 : Int32)))])) _
    rw [← ez2]
    show Steps p.tables e below (T1.setTop (mkF m 5 #[.val (.ref b), .val (.int ord), .val (.int acc), .val (.int bit)] [(.int z2)])) _
    refine XS.iloadN X1.here hx rfl (hb hby d3_5) rfl ?_
    show Steps p.tables e below (T1.setTop (mkF m 6 #[.val (.ref b), .val (.int ord), .val (.int acc), .val (.int bit)] [(.int acc), (.int z2)])) _
    refine XS.iloadN X1.here hx rfl (hb hby d3_6) rfl ?_
    show Steps p.tables e below (T1.setTop (mkF m 7 #[.val (.ref b), .val (.int ord), .val (.int acc), .val (.int bit)] [(.int bit), (.int acc), (.int z2)])) _
    refine XS.iand X1.here hx rfl (hb hby d3_7) rfl ?_
    show Steps p.tables e below (T1.setTop (mkF m 8 #[.val (.ref b), .val (.int ord), .val (.int acc), .val (.int bit)] [(.int (acc &&& bit)), (.int z2)])) _
    exact kt
  have k7 : ∀ tg, Steps p.tables e below (T1.setTop (mkF m 16 #[.val (.ref b), .val (.int ord), .val (.int acc), .val (.int bit)] [(.int (if (acc &&& bit) = (0 : Int32) then (0 : Int32) else (1 : Int32))), (.int z2)])) tg → Steps p.tables e below (s₁.setTop (entryFrame m #[(.ref b), (.int ord), (.int acc), (.int bit)] 4)) tg := by
    intro tg kt
    refine k3 tg ?_
    show Steps p.tables e below (T1.setTop (mkF m 8 #[.val (.ref b), .val (.int ord), .val (.int acc), .val (.int bit)] [(.int (acc &&& bit)), (.int z2)])) _
    by_cases hc4 : (acc &&& bit) = (0 : Int32)
    · refine XS.ifYes X1.here hx rfl (pc0 := 8) (pc' := 15) rfl (hb hby d3_8) rfl ((if0 _ _).trans (teq hc4).1) (by decide) (by decide) ?_
      show Steps p.tables e below (T1.setTop (mkF m 15 #[.val (.ref b), .val (.int ord), .val (.int acc), .val (.int bit)] [(.int z2)])) _
      refine XS.iconst X1.here hx rfl (hb hby d3_15) ?_
      show Steps p.tables e below (T1.setTop (mkF m 16 #[.val (.ref b), .val (.int ord), .val (.int acc), .val (.int bit)] [(.int (0 : Int32)), (.int z2)])) _
      repeat rw [if_pos hc4] at kt
      exact kt
    · refine XS.ifNo X1.here hx rfl (hb hby d3_8) rfl ((if0 _ _).trans (feq hc4).1) ?_
      show Steps p.tables e below (T1.setTop (mkF m 11 #[.val (.ref b), .val (.int ord), .val (.int acc), .val (.int bit)] [(.int z2)])) _
      refine XS.iconst X1.here hx rfl (hb hby d3_11) ?_
      show Steps p.tables e below (T1.setTop (mkF m 12 #[.val (.ref b), .val (.int ord), .val (.int acc), .val (.int bit)] [(.int (1 : Int32)), (.int z2)])) _
      refine XS.goto X1.here hx rfl (pc0 := 12) (pc' := 16) rfl (hb hby d3_12) (by decide) (by decide) ?_
      show Steps p.tables e below (T1.setTop (mkF m 16 #[.val (.ref b), .val (.int ord), .val (.int acc), .val (.int bit)] [(.int (1 : Int32)), (.int z2)])) _
      repeat rw [if_neg hc4] at kt
      exact kt
  obtain ⟨z8, ez8⟩ : ∃ z : Int32, z = (if (acc &&& bit) = (0 : Int32) then (0 : Int32) else (1 : Int32)) := ⟨_, rfl⟩
  have k9 : ∀ tg, Steps p.tables e below (T1.setTop (mkF m 16 #[.val (.ref b), .val (.int ord), .val (.int acc), .val (.int bit)] [(.int z8), (.int z2)])) tg → Steps p.tables e below (s₁.setTop (entryFrame m #[(.ref b), (.int ord), (.int acc), (.int bit)] 4)) tg := by
    intro tg kt
    refine k7 tg ?_
    show Steps p.tables e below (T1.setTop (mkF m 16 #[.val (.ref b), .val (.int ord), .val (.int acc), .val (.int bit)] [(.int (if (acc &&& bit) = (0 : Int32) then (0 : Int32) else (1 : Int32))), (.int z2)])) _
    rw [← ez8]
    show Steps p.tables e below (T1.setTop (mkF m 16 #[.val (.ref b), .val (.int ord), .val (.int acc), .val (.int bit)] [(.int z8), (.int z2)])) _
    exact kt
  have k13 : ∀ tg, Steps p.tables e below (T1.setTop (mkF m 24 #[.val (.ref b), .val (.int ord), .val (.int acc), .val (.int bit)] [(.int (if z2 = z8 then (1 : Int32) else (0 : Int32)))])) tg → Steps p.tables e below (s₁.setTop (entryFrame m #[(.ref b), (.int ord), (.int acc), (.int bit)] 4)) tg := by
    intro tg kt
    refine k9 tg ?_
    show Steps p.tables e below (T1.setTop (mkF m 16 #[.val (.ref b), .val (.int ord), .val (.int acc), .val (.int bit)] [(.int z8), (.int z2)])) _
    by_cases hc10 : z2 = z8
    · refine XS.icmpNo X1.here hx rfl (hb hby d3_16) rfl (teq hc10).2 ?_
      show Steps p.tables e below (T1.setTop (mkF m 19 #[.val (.ref b), .val (.int ord), .val (.int acc), .val (.int bit)] [])) _
      refine XS.iconst X1.here hx rfl (hb hby d3_19) ?_
      show Steps p.tables e below (T1.setTop (mkF m 20 #[.val (.ref b), .val (.int ord), .val (.int acc), .val (.int bit)] [(.int (1 : Int32))])) _
      refine XS.goto X1.here hx rfl (pc0 := 20) (pc' := 24) rfl (hb hby d3_20) (by decide) (by decide) ?_
      show Steps p.tables e below (T1.setTop (mkF m 24 #[.val (.ref b), .val (.int ord), .val (.int acc), .val (.int bit)] [(.int (1 : Int32))])) _
      repeat rw [if_pos hc10] at kt
      exact kt
    · refine XS.icmpYes X1.here hx rfl (pc0 := 16) (pc' := 23) rfl (hb hby d3_16) rfl (feq hc10).2 (by decide) (by decide) ?_
      show Steps p.tables e below (T1.setTop (mkF m 23 #[.val (.ref b), .val (.int ord), .val (.int acc), .val (.int bit)] [])) _
      refine XS.iconst X1.here hx rfl (hb hby d3_23) ?_
      show Steps p.tables e below (T1.setTop (mkF m 24 #[.val (.ref b), .val (.int ord), .val (.int acc), .val (.int bit)] [(.int (0 : Int32))])) _
      repeat rw [if_neg hc10] at kt
      exact kt
  obtain ⟨z14, ez14⟩ : ∃ z : Int32, z = (if z2 = z8 then (1 : Int32) else (0 : Int32)) := ⟨_, rfl⟩
  have k15 : ∀ tg, Steps p.tables e below (T1.setTop (mkF m 24 #[.val (.ref b), .val (.int ord), .val (.int acc), .val (.int bit)] [(.int z14)])) tg → Steps p.tables e below (s₁.setTop (entryFrame m #[(.ref b), (.int ord), (.int acc), (.int bit)] 4)) tg := by
    intro tg kt
    refine k13 tg ?_
    show Steps p.tables e below (T1.setTop (mkF m 24 #[.val (.ref b), .val (.int ord), .val (.int acc), .val (.int bit)] [(.int (if z2 = z8 then (1 : Int32) else (0 : Int32)))])) _
    rw [← ez14]
    show Steps p.tables e below (T1.setTop (mkF m 24 #[.val (.ref b), .val (.int ord), .val (.int acc), .val (.int bit)] [(.int z14)])) _
    exact kt
  obtain ⟨fs, hr, hrun, hended, hW, hsame⟩ := X1.leave (v := some (.int z14)) (fun h => by rw [Bd.returns] at h; cases h)
  refine ⟨_, _, k15 _ ?_, hrun, hended, _, _, rfl, ?_, ⟨_, rfl⟩, hW, hsame.mono (by decide) (by decide)⟩
  · exact retN X1 hx (t := .boolean) Bd.returns (by simp) (hb hby d3_24) (by rw [show nar .boolean z14 = z14 from (by rw [ez14]; (repeat' split) <;> decide)]; exact hr)
  · show QV _ h0 n0 _ T1.heap _
    exact ⟨by subst ez2 ez8 ez14; rfl, N1, e1⟩
theorem d4_114 : decode prog_106_method_5_code 114 = .ok (.iload_n 1, 1) := by decide +kernel
theorem d4_115 : decode prog_106_method_5_code 115 = .ok (.ifCond .lt 7, 3) := by decide +kernel
theorem d4_118 : decode prog_106_method_5_code 118 = .ok (.iconst 1, 1) := by decide +kernel
theorem d4_119 : decode prog_106_method_5_code 119 = .ok (.goto 4, 3) := by decide +kernel
theorem d4_122 : decode prog_106_method_5_code 122 = .ok (.iconst 0, 1) := by decide +kernel
theorem ef_rm4_5 (m : MethodId) (b : Addr) (ord : Int32) : entryFrame m #[(.ref b), (.int ord)] 2 = mkF m 0 #[.val (.ref b), .val (.int ord)] [] := by first | (simp [entryFrame, mkF, argsToLocals, Value.category]; done) | rfl
set_option maxRecDepth 65536 in
set_option maxHeartbeats 40000000 in
theorem rm4_5 (l : Launch) (Z : State) (a0 : Array Value) (hw : ∀ d ∈ tables_1, d.before a0 Z = true) (ws : List Jvm.Cond) (b : Addr) (ord : Int32)  (h0 : Heap) (n0 : Nat) (Eb : Exa Z h0 b "com/example/unraveling/unraveling/query/ValueTest$Operator") (Fo : Fld Z h0 b "java/lang/Enum" "ordinal" "I" (.int (5 : Int32))) :
    MetFree l (⟨"com/example/unraveling/unraveling/query/ValueTest$Operator", "holds", "(I)Z"⟩ : MethodName) (head1 (Jvm.Cond.code (⟨"com/example/unraveling/unraveling/query/ValueTest$Operator", "holds", "(I)Z"⟩ : MethodName) prog_106_method_5_code 2 (some .boolean) :: ws) ({ frames := 1, cells := 0, slots := 0, locals := 12 } : Room)) (fun a_ U_ => a_ = #[(.ref b), (.int ord)] ∧ Z.Warmed39 U_.vm ∧ U_.heap = h0) (fun _ _ _ _ _ => True) (fun _ U_ o_ U'_ => ∃ v_ L_, o_ = .returned v_ ∧ QV (.int (if ord < (0 : Int32) then (0 : Int32) else (1 : Int32))) h0 n0 v_ U'_.heap L_ ∧ FrameEnd U_ o_ U'_ L_ ({ frames := 1, cells := 0, slots := 0, locals := 12 } : Room).cells ({ frames := 1, cells := 0, slots := 0, locals := 12 } : Room).slots) := by
  refine MetFree.of_bodySF (plainFor_of_name pn_4) hisR ?_
  intro p e s m args below meth c s₁ Bd hml0 hP hK
  obtain ⟨rfl, hZ, hh⟩ := hP
  have hx := Bd.exec
  have hby := Bd.bytes
  have hml : c.maxLocals = 2 := hml0
  have hown : s.vm.findClass "com/example/unraveling/unraveling/query/ValueTest$Operator" = some m.cls := findClass_of_methodNamed Bd.named
  have hnm := (name_of_methodNamed Bd.named Bd.method).1
  have X0 : Stand p l e ({ frames := 1, cells := 0, slots := 0, locals := 12 } : Room) s m #[(.ref b), (.int ord)] below meth c s₁ [] 0 0 := Stand.of_body Bd
  have e0 : s₁.heap = h0 := by rw [← hh, Bd.state]; rfl
  have N0 := Fr.nil n0
  have k0 : ∀ tg, Steps p.tables e below (s₁.setTop (mkF m 0 #[.val (.ref b), .val (.int ord)] [])) tg → Steps p.tables e below (s₁.setTop (entryFrame m #[(.ref b), (.int ord)] 2)) tg := fun tg k => castTop (ef_rm4_5 m b ord) k
  obtain ⟨cq1, kq1, q1a, q1b, q1c⟩ := isOf hZ e0 Eb
  obtain ⟨_, _, ⟨T1, L1, k1, n1⟩, -, X1, ⟨Lc1, hQ1, l1, y1, z1⟩, st1⟩ := X0.virtualBackUp hx (x := (⟨"com/example/unraveling/unraveling/query/ValueTest$Operator", "ordinal", "()I"⟩ : MethodName)) (y := (⟨"java/lang/Enum", "ordinal", "()I"⟩ : MethodName)) (owner := "java/lang/Enum") hown (mvT hZ (hw _ (List.mem_of_getElem? (i := 19) rfl))) (mvT hZ (hw _ (List.mem_of_getElem? (i := 20) rfl))) (mvT hZ (hw _ (List.mem_of_getElem? (i := 21) rfl))) (by decide) (mvT hZ (hw _ (List.mem_of_getElem? (i := 23) rfl))) (mvT hZ (hw _ (List.mem_of_getElem? (i := 22) rfl))) (backOf (W := 0) (rm5 l Z a0 hw [] b (5 : Int32) h0 n0 Fo) hZ (hw _ (List.mem_of_getElem? (i := 25) rfl)) (hw _ (List.mem_of_getElem? (i := 24) rfl)) (by decide) (by decide)) q1a q1c (g := (mkF m 1 #[.val (.ref b), .val (.int ord)] [(.ref b)])) rfl (by rw [hml]; rfl) (Steps.refl _) (argsL := []) (rest := []) (lenOf pd_0 rfl) rfl (by show 2 * 0 + _ ≤ _; exact Nat.le_of_eq rfl) (hb hby d4_1) (fun _ _ => ⟨rfl, e0, (by decide : 0 + 0 ≤ _), (by decide : 0 + 0 ≤ _)⟩)
  dsimp only [Pt.U, Pt.locs, Pt.cells, Pt.slots] at X1 l1 y1 z1 st1 hQ1
  subst l1 y1 z1
  obtain ⟨rfl, N1q, e1⟩ := hQ1
  have N1 := Fr.app N0 N1q
  have k2 : ∀ tg, Steps p.tables e below (T1.setTop (mkF m 115 #[.val (.ref b), .val (.int ord)] [(.int ord)])) tg → Steps p.tables e below (s₁.setTop (entryFrame m #[(.ref b), (.int ord)] 2)) tg := by
    intro tg kt
    refine k0 tg ?_
    show Steps p.tables e below (s₁.setTop (mkF m 0 #[.val (.ref b), .val (.int ord)] [])) _
    refine XS.aloadN X0.here hx rfl (hb hby d4_0) rfl rfl ?_
    show Steps p.tables e below (s₁.setTop (mkF m 1 #[.val (.ref b), .val (.int ord)] [(.ref b)])) _
    refine st1.trans ?_
    show Steps p.tables e below (T1.setTop (mkF m 4 #[.val (.ref b), .val (.int ord)] [(.int (5 : Int32))])) _
    refine XS.tswIn X1.here hx rfl (pc0 := 4) (pc' := 114) rfl (hb hby d4_4) rfl (by decide) (o := 110) (by decide) (by decide) (by decide) ?_
    show Steps p.tables e below (T1.setTop (mkF m 114 #[.val (.ref b), .val (.int ord)] [])) _
    refine XS.iloadN X1.here hx rfl (hb hby d4_114) rfl ?_
    show Steps p.tables e below (T1.setTop (mkF m 115 #[.val (.ref b), .val (.int ord)] [(.int ord)])) _
    exact kt
  have k6 : ∀ tg, Steps p.tables e below (T1.setTop (mkF m 123 #[.val (.ref b), .val (.int ord)] [(.int (if ord < (0 : Int32) then (0 : Int32) else (1 : Int32)))])) tg → Steps p.tables e below (s₁.setTop (entryFrame m #[(.ref b), (.int ord)] 2)) tg := by
    intro tg kt
    refine k2 tg ?_
    show Steps p.tables e below (T1.setTop (mkF m 115 #[.val (.ref b), .val (.int ord)] [(.int ord)])) _
    by_cases hc3 : ord < (0 : Int32)
    · refine XS.ifYes X1.here hx rfl (pc0 := 115) (pc' := 122) rfl (hb hby d4_115) rfl ((if0 _ _).trans (tlt hc3).1) (by decide) (by decide) ?_
      show Steps p.tables e below (T1.setTop (mkF m 122 #[.val (.ref b), .val (.int ord)] [])) _
      refine XS.iconst X1.here hx rfl (hb hby d4_122) ?_
      show Steps p.tables e below (T1.setTop (mkF m 123 #[.val (.ref b), .val (.int ord)] [(.int (0 : Int32))])) _
      repeat rw [if_pos hc3] at kt
      exact kt
    · refine XS.ifNo X1.here hx rfl (hb hby d4_115) rfl ((if0 _ _).trans (flt hc3).1) ?_
      show Steps p.tables e below (T1.setTop (mkF m 118 #[.val (.ref b), .val (.int ord)] [])) _
      refine XS.iconst X1.here hx rfl (hb hby d4_118) ?_
      show Steps p.tables e below (T1.setTop (mkF m 119 #[.val (.ref b), .val (.int ord)] [(.int (1 : Int32))])) _
      refine XS.goto X1.here hx rfl (pc0 := 119) (pc' := 123) rfl (hb hby d4_119) (by decide) (by decide) ?_
      show Steps p.tables e below (T1.setTop (mkF m 123 #[.val (.ref b), .val (.int ord)] [(.int (1 : Int32))])) _
      repeat rw [if_neg hc3] at kt
      exact kt
  obtain ⟨z7, ez7⟩ : ∃ z : Int32, z = (if ord < (0 : Int32) then (0 : Int32) else (1 : Int32)) := ⟨_, rfl⟩
  have k8 : ∀ tg, Steps p.tables e below (T1.setTop (mkF m 123 #[.val (.ref b), .val (.int ord)] [(.int z7)])) tg → Steps p.tables e below (s₁.setTop (entryFrame m #[(.ref b), (.int ord)] 2)) tg := by
    intro tg kt
    refine k6 tg ?_
    show Steps p.tables e below (T1.setTop (mkF m 123 #[.val (.ref b), .val (.int ord)] [(.int (if ord < (0 : Int32) then (0 : Int32) else (1 : Int32)))])) _
    rw [← ez7]
    show Steps p.tables e below (T1.setTop (mkF m 123 #[.val (.ref b), .val (.int ord)] [(.int z7)])) _
    exact kt
  obtain ⟨fs, hr, hrun, hended, hW, hsame⟩ := X1.leave (v := some (.int z7)) (fun h => by rw [Bd.returns] at h; cases h)
  refine ⟨_, _, k8 _ ?_, hrun, hended, _, _, rfl, ?_, ⟨_, rfl⟩, hW, hsame.mono (by decide) (by decide)⟩
  · exact retN X1 hx (t := .boolean) Bd.returns (by simp) (hb hby d4_123) (by rw [show nar .boolean z7 = z7 from (by rw [ez7]; (repeat' split) <;> decide)]; exact hr)
  · show QV _ h0 n0 _ T1.heap _
    exact ⟨by subst ez7; rfl, N1, e1⟩
theorem ef_rm3_5 (m : MethodId) (b : Addr) (ord : Int32) (acc : Int32) (bit : Int32) : entryFrame m #[(.ref b), (.int ord), (.int acc), (.int bit)] 4 = mkF m 0 #[.val (.ref b), .val (.int ord), .val (.int acc), .val (.int bit)] [] := by first | (simp [entryFrame, mkF, argsToLocals, Value.category]; done) | rfl
set_option maxRecDepth 65536 in
set_option maxHeartbeats 40000000 in
theorem rm3_5 (l : Launch) (Z : State) (a0 : Array Value) (hw : ∀ d ∈ tables_1, d.before a0 Z = true) (ws : List Jvm.Cond) (b : Addr) (ord : Int32) (acc : Int32) (bit : Int32)  (h0 : Heap) (n0 : Nat) (Eb : Exa Z h0 b "com/example/unraveling/unraveling/query/ValueTest$Operator") (Fo : Fld Z h0 b "java/lang/Enum" "ordinal" "I" (.int (5 : Int32))) :
    MetFree l (⟨"com/example/unraveling/unraveling/query/OperatorHoldsPinLaw", "ok", "(Lcom/example/unraveling/unraveling/query/ValueTest$Operator;III)Z"⟩ : MethodName) (head1 (Jvm.Cond.code (⟨"com/example/unraveling/unraveling/query/OperatorHoldsPinLaw", "ok", "(Lcom/example/unraveling/unraveling/query/ValueTest$Operator;III)Z"⟩ : MethodName) method_3_code 4 (some .boolean) :: ws) ({ frames := 2, cells := 0, slots := 0, locals := 25 } : Room)) (fun a_ U_ => a_ = #[(.ref b), (.int ord), (.int acc), (.int bit)] ∧ Z.Warmed39 U_.vm ∧ U_.heap = h0) (fun _ _ _ _ _ => True) (fun _ U_ o_ U'_ => ∃ v_ L_, o_ = .returned v_ ∧ QV (.int (if (if ord < (0 : Int32) then (0 : Int32) else (1 : Int32)) = (if (acc &&& bit) = (0 : Int32) then (0 : Int32) else (1 : Int32)) then (1 : Int32) else (0 : Int32))) h0 n0 v_ U'_.heap L_ ∧ FrameEnd U_ o_ U'_ L_ ({ frames := 2, cells := 0, slots := 0, locals := 25 } : Room).cells ({ frames := 2, cells := 0, slots := 0, locals := 25 } : Room).slots) := by
  refine MetFree.of_bodySF (plainFor_of_name pn_3) hisR ?_
  intro p e s m args below meth c s₁ Bd hml0 hP hK
  obtain ⟨rfl, hZ, hh⟩ := hP
  have hx := Bd.exec
  have hby := Bd.bytes
  have hml : c.maxLocals = 4 := hml0
  have hown : s.vm.findClass "com/example/unraveling/unraveling/query/OperatorHoldsPinLaw" = some m.cls := findClass_of_methodNamed Bd.named
  have hnm := (name_of_methodNamed Bd.named Bd.method).1
  have X0 : Stand p l e ({ frames := 2, cells := 0, slots := 0, locals := 25 } : Room) s m #[(.ref b), (.int ord), (.int acc), (.int bit)] below meth c s₁ [] 0 0 := Stand.of_body Bd
  have e0 : s₁.heap = h0 := by rw [← hh, Bd.state]; rfl
  have N0 := Fr.nil n0
  have k0 : ∀ tg, Steps p.tables e below (s₁.setTop (mkF m 0 #[.val (.ref b), .val (.int ord), .val (.int acc), .val (.int bit)] [])) tg → Steps p.tables e below (s₁.setTop (entryFrame m #[(.ref b), (.int ord), (.int acc), (.int bit)] 4)) tg := fun tg k => castTop (ef_rm3_5 m b ord acc bit) k
  obtain ⟨cq1, kq1, q1a, q1b, q1c⟩ := isOf hZ e0 Eb
  obtain ⟨_, _, ⟨T1, L1, k1, n1⟩, -, X1, ⟨Lc1, hQ1, l1, y1, z1⟩, st1⟩ := X0.virtualBack hx (y := (⟨"com/example/unraveling/unraveling/query/ValueTest$Operator", "holds", "(I)Z"⟩ : MethodName)) (z := (⟨"com/example/unraveling/unraveling/query/ValueTest$Operator", "holds", "(I)Z"⟩ : MethodName)) hown (mvT hZ (hw _ (List.mem_of_getElem? (i := 14) rfl))) (mvT hZ (hw _ (List.mem_of_getElem? (i := 15) rfl))) (notFace_of_selects (args := #[]) (mvT hZ (hw _ (List.mem_of_getElem? (i := 17) rfl)))) (mvT hZ (hw _ (List.mem_of_getElem? (i := 17) rfl))) (mvT hZ (hw _ (List.mem_of_getElem? (i := 16) rfl))) (by decide) (backOf (W := 0) (rm4_5 l Z a0 hw [] b ord  h0 n0 Eb Fo) hZ (hw _ (List.mem_of_getElem? (i := 18) rfl)) (hw _ (List.mem_of_getElem? (i := 8) rfl)) (by decide) (by decide)) q1a q1c (g := (mkF m 2 #[.val (.ref b), .val (.int ord), .val (.int acc), .val (.int bit)] [(.int ord), (.ref b)])) rfl (by rw [hml]; rfl) (Steps.refl _) (argsL := [(.int ord)]) (rest := []) (lenOf pd_1 rfl) rfl (by show 2 * 0 + _ ≤ _; exact Nat.le_of_eq rfl) (hb hby d3_2) (fun _ _ => ⟨rfl, e0, (by decide : 0 + 0 ≤ _), (by decide : 0 + 0 ≤ _)⟩)
  dsimp only [Pt.U, Pt.locs, Pt.cells, Pt.slots] at X1 l1 y1 z1 st1 hQ1
  subst l1 y1 z1
  obtain ⟨rfl, N1q, e1⟩ := hQ1
  have N1 := Fr.app N0 N1q
  obtain ⟨z2, ez2⟩ : ∃ z : Int32, z = (if ord < (0 : Int32) then (0 : Int32) else (1 : Int32)) := ⟨_, rfl⟩
  have k3 : ∀ tg, Steps p.tables e below (T1.setTop (mkF m 8 #[.val (.ref b), .val (.int ord), .val (.int acc), .val (.int bit)] [(.int (acc &&& bit)), (.int z2)])) tg → Steps p.tables e below (s₁.setTop (entryFrame m #[(.ref b), (.int ord), (.int acc), (.int bit)] 4)) tg := by
    intro tg kt
    refine k0 tg ?_
    show Steps p.tables e below (s₁.setTop (mkF m 0 #[.val (.ref b), .val (.int ord), .val (.int acc), .val (.int bit)] [])) _
    refine XS.aloadN X0.here hx rfl (hb hby d3_0) rfl rfl ?_
    show Steps p.tables e below (s₁.setTop (mkF m 1 #[.val (.ref b), .val (.int ord), .val (.int acc), .val (.int bit)] [(.ref b)])) _
    refine XS.iloadN X0.here hx rfl (hb hby d3_1) rfl ?_
    show Steps p.tables e below (s₁.setTop (mkF m 2 #[.val (.ref b), .val (.int ord), .val (.int acc), .val (.int bit)] [(.int ord), (.ref b)])) _
    refine st1.trans ?_
    show Steps p.tables e below (T1.setTop (mkF m 5 #[.val (.ref b), .val (.int ord), .val (.int acc), .val (.int bit)] [(.int (if ord < (0 : Int32) then (0 : Int32) else (1 : Int32)))])) _
    rw [← ez2]
    show Steps p.tables e below (T1.setTop (mkF m 5 #[.val (.ref b), .val (.int ord), .val (.int acc), .val (.int bit)] [(.int z2)])) _
    refine XS.iloadN X1.here hx rfl (hb hby d3_5) rfl ?_
    show Steps p.tables e below (T1.setTop (mkF m 6 #[.val (.ref b), .val (.int ord), .val (.int acc), .val (.int bit)] [(.int acc), (.int z2)])) _
    refine XS.iloadN X1.here hx rfl (hb hby d3_6) rfl ?_
    show Steps p.tables e below (T1.setTop (mkF m 7 #[.val (.ref b), .val (.int ord), .val (.int acc), .val (.int bit)] [(.int bit), (.int acc), (.int z2)])) _
    refine XS.iand X1.here hx rfl (hb hby d3_7) rfl ?_
    show Steps p.tables e below (T1.setTop (mkF m 8 #[.val (.ref b), .val (.int ord), .val (.int acc), .val (.int bit)] [(.int (acc &&& bit)), (.int z2)])) _
    exact kt
  have k7 : ∀ tg, Steps p.tables e below (T1.setTop (mkF m 16 #[.val (.ref b), .val (.int ord), .val (.int acc), .val (.int bit)] [(.int (if (acc &&& bit) = (0 : Int32) then (0 : Int32) else (1 : Int32))), (.int z2)])) tg → Steps p.tables e below (s₁.setTop (entryFrame m #[(.ref b), (.int ord), (.int acc), (.int bit)] 4)) tg := by
    intro tg kt
    refine k3 tg ?_
    show Steps p.tables e below (T1.setTop (mkF m 8 #[.val (.ref b), .val (.int ord), .val (.int acc), .val (.int bit)] [(.int (acc &&& bit)), (.int z2)])) _
    by_cases hc4 : (acc &&& bit) = (0 : Int32)
    · refine XS.ifYes X1.here hx rfl (pc0 := 8) (pc' := 15) rfl (hb hby d3_8) rfl ((if0 _ _).trans (teq hc4).1) (by decide) (by decide) ?_
      show Steps p.tables e below (T1.setTop (mkF m 15 #[.val (.ref b), .val (.int ord), .val (.int acc), .val (.int bit)] [(.int z2)])) _
      refine XS.iconst X1.here hx rfl (hb hby d3_15) ?_
      show Steps p.tables e below (T1.setTop (mkF m 16 #[.val (.ref b), .val (.int ord), .val (.int acc), .val (.int bit)] [(.int (0 : Int32)), (.int z2)])) _
      repeat rw [if_pos hc4] at kt
      exact kt
    · refine XS.ifNo X1.here hx rfl (hb hby d3_8) rfl ((if0 _ _).trans (feq hc4).1) ?_
      show Steps p.tables e below (T1.setTop (mkF m 11 #[.val (.ref b), .val (.int ord), .val (.int acc), .val (.int bit)] [(.int z2)])) _
      refine XS.iconst X1.here hx rfl (hb hby d3_11) ?_
      show Steps p.tables e below (T1.setTop (mkF m 12 #[.val (.ref b), .val (.int ord), .val (.int acc), .val (.int bit)] [(.int (1 : Int32)), (.int z2)])) _
      refine XS.goto X1.here hx rfl (pc0 := 12) (pc' := 16) rfl (hb hby d3_12) (by decide) (by decide) ?_
      show Steps p.tables e below (T1.setTop (mkF m 16 #[.val (.ref b), .val (.int ord), .val (.int acc), .val (.int bit)] [(.int (1 : Int32)), (.int z2)])) _
      repeat rw [if_neg hc4] at kt
      exact kt
  obtain ⟨z8, ez8⟩ : ∃ z : Int32, z = (if (acc &&& bit) = (0 : Int32) then (0 : Int32) else (1 : Int32)) := ⟨_, rfl⟩
  have k9 : ∀ tg, Steps p.tables e below (T1.setTop (mkF m 16 #[.val (.ref b), .val (.int ord), .val (.int acc), .val (.int bit)] [(.int z8), (.int z2)])) tg → Steps p.tables e below (s₁.setTop (entryFrame m #[(.ref b), (.int ord), (.int acc), (.int bit)] 4)) tg := by
    intro tg kt
    refine k7 tg ?_
    show Steps p.tables e below (T1.setTop (mkF m 16 #[.val (.ref b), .val (.int ord), .val (.int acc), .val (.int bit)] [(.int (if (acc &&& bit) = (0 : Int32) then (0 : Int32) else (1 : Int32))), (.int z2)])) _
    rw [← ez8]
    show Steps p.tables e below (T1.setTop (mkF m 16 #[.val (.ref b), .val (.int ord), .val (.int acc), .val (.int bit)] [(.int z8), (.int z2)])) _
    exact kt
  have k13 : ∀ tg, Steps p.tables e below (T1.setTop (mkF m 24 #[.val (.ref b), .val (.int ord), .val (.int acc), .val (.int bit)] [(.int (if z2 = z8 then (1 : Int32) else (0 : Int32)))])) tg → Steps p.tables e below (s₁.setTop (entryFrame m #[(.ref b), (.int ord), (.int acc), (.int bit)] 4)) tg := by
    intro tg kt
    refine k9 tg ?_
    show Steps p.tables e below (T1.setTop (mkF m 16 #[.val (.ref b), .val (.int ord), .val (.int acc), .val (.int bit)] [(.int z8), (.int z2)])) _
    by_cases hc10 : z2 = z8
    · refine XS.icmpNo X1.here hx rfl (hb hby d3_16) rfl (teq hc10).2 ?_
      show Steps p.tables e below (T1.setTop (mkF m 19 #[.val (.ref b), .val (.int ord), .val (.int acc), .val (.int bit)] [])) _
      refine XS.iconst X1.here hx rfl (hb hby d3_19) ?_
      show Steps p.tables e below (T1.setTop (mkF m 20 #[.val (.ref b), .val (.int ord), .val (.int acc), .val (.int bit)] [(.int (1 : Int32))])) _
      refine XS.goto X1.here hx rfl (pc0 := 20) (pc' := 24) rfl (hb hby d3_20) (by decide) (by decide) ?_
      show Steps p.tables e below (T1.setTop (mkF m 24 #[.val (.ref b), .val (.int ord), .val (.int acc), .val (.int bit)] [(.int (1 : Int32))])) _
      repeat rw [if_pos hc10] at kt
      exact kt
    · refine XS.icmpYes X1.here hx rfl (pc0 := 16) (pc' := 23) rfl (hb hby d3_16) rfl (feq hc10).2 (by decide) (by decide) ?_
      show Steps p.tables e below (T1.setTop (mkF m 23 #[.val (.ref b), .val (.int ord), .val (.int acc), .val (.int bit)] [])) _
      refine XS.iconst X1.here hx rfl (hb hby d3_23) ?_
      show Steps p.tables e below (T1.setTop (mkF m 24 #[.val (.ref b), .val (.int ord), .val (.int acc), .val (.int bit)] [(.int (0 : Int32))])) _
      repeat rw [if_neg hc10] at kt
      exact kt
  obtain ⟨z14, ez14⟩ : ∃ z : Int32, z = (if z2 = z8 then (1 : Int32) else (0 : Int32)) := ⟨_, rfl⟩
  have k15 : ∀ tg, Steps p.tables e below (T1.setTop (mkF m 24 #[.val (.ref b), .val (.int ord), .val (.int acc), .val (.int bit)] [(.int z14)])) tg → Steps p.tables e below (s₁.setTop (entryFrame m #[(.ref b), (.int ord), (.int acc), (.int bit)] 4)) tg := by
    intro tg kt
    refine k13 tg ?_
    show Steps p.tables e below (T1.setTop (mkF m 24 #[.val (.ref b), .val (.int ord), .val (.int acc), .val (.int bit)] [(.int (if z2 = z8 then (1 : Int32) else (0 : Int32)))])) _
    rw [← ez14]
    show Steps p.tables e below (T1.setTop (mkF m 24 #[.val (.ref b), .val (.int ord), .val (.int acc), .val (.int bit)] [(.int z14)])) _
    exact kt
  obtain ⟨fs, hr, hrun, hended, hW, hsame⟩ := X1.leave (v := some (.int z14)) (fun h => by rw [Bd.returns] at h; cases h)
  refine ⟨_, _, k15 _ ?_, hrun, hended, _, _, rfl, ?_, ⟨_, rfl⟩, hW, hsame.mono (by decide) (by decide)⟩
  · exact retN X1 hx (t := .boolean) Bd.returns (by simp) (hb hby d3_24) (by rw [show nar .boolean z14 = z14 from (by rw [ez14]; (repeat' split) <;> decide)]; exact hr)
  · show QV _ h0 n0 _ T1.heap _
    exact ⟨by subst ez2 ez8 ez14; rfl, N1, e1⟩
theorem pn_0 : plainName "com/example/unraveling/unraveling/query/OperatorHoldsPinLaw" = true := by first | (simp [plainName, overriddenIn]; done) | decide +kernel
theorem pd_2 : parseMethodDescriptor "(II)I" = some ⟨[.int, .int], some .int⟩ := by decide +kernel
theorem pd_3 : parseMethodDescriptor "(Lcom/example/unraveling/unraveling/query/ValueTest$Operator;III)Z" = some ⟨[(.object "com/example/unraveling/unraveling/query/ValueTest$Operator"), .int, .int, .int], some .boolean⟩ := by decide +kernel
theorem ef_rm0 (m : MethodId) (ord : Int32) : entryFrame m #[(.int ord)] maxLocals = mkF m 0 #[.val (.int ord), .unset, .unset] [] := by first | (simp [entryFrame, mkF, argsToLocals, Value.category, maxLocals]; done) | rfl
set_option maxRecDepth 65536 in
set_option maxHeartbeats 40000000 in
theorem rm0 (l : Launch) (Z : State) (a0 : Array Value) (hw : ∀ d ∈ tables_1, d.before a0 Z = true) (ws : List Jvm.Cond) (ord : Int32) (w_EQUAL w_NOT_EQUAL w_LESS w_AT_MOST w_GREATER w_AT_LEAST : Addr) (h0 : Heap) (n0 : Nat) (S_EQUAL : Sta Z h0 "com/example/unraveling/unraveling/query/ValueTest$Operator" "EQUAL" "Lcom/example/unraveling/unraveling/query/ValueTest$Operator;" (.ref w_EQUAL)) (S_NOT_EQUAL : Sta Z h0 "com/example/unraveling/unraveling/query/ValueTest$Operator" "NOT_EQUAL" "Lcom/example/unraveling/unraveling/query/ValueTest$Operator;" (.ref w_NOT_EQUAL)) (S_LESS : Sta Z h0 "com/example/unraveling/unraveling/query/ValueTest$Operator" "LESS" "Lcom/example/unraveling/unraveling/query/ValueTest$Operator;" (.ref w_LESS)) (S_AT_MOST : Sta Z h0 "com/example/unraveling/unraveling/query/ValueTest$Operator" "AT_MOST" "Lcom/example/unraveling/unraveling/query/ValueTest$Operator;" (.ref w_AT_MOST)) (S_GREATER : Sta Z h0 "com/example/unraveling/unraveling/query/ValueTest$Operator" "GREATER" "Lcom/example/unraveling/unraveling/query/ValueTest$Operator;" (.ref w_GREATER)) (S_AT_LEAST : Sta Z h0 "com/example/unraveling/unraveling/query/ValueTest$Operator" "AT_LEAST" "Lcom/example/unraveling/unraveling/query/ValueTest$Operator;" (.ref w_AT_LEAST)) (E_EQUAL : Exa Z h0 w_EQUAL "com/example/unraveling/unraveling/query/ValueTest$Operator") (F_EQUAL : Fld Z h0 w_EQUAL "java/lang/Enum" "ordinal" "I" (.int 0)) (E_NOT_EQUAL : Exa Z h0 w_NOT_EQUAL "com/example/unraveling/unraveling/query/ValueTest$Operator") (F_NOT_EQUAL : Fld Z h0 w_NOT_EQUAL "java/lang/Enum" "ordinal" "I" (.int 1)) (E_LESS : Exa Z h0 w_LESS "com/example/unraveling/unraveling/query/ValueTest$Operator") (F_LESS : Fld Z h0 w_LESS "java/lang/Enum" "ordinal" "I" (.int 2)) (E_AT_MOST : Exa Z h0 w_AT_MOST "com/example/unraveling/unraveling/query/ValueTest$Operator") (F_AT_MOST : Fld Z h0 w_AT_MOST "java/lang/Enum" "ordinal" "I" (.int 3)) (E_GREATER : Exa Z h0 w_GREATER "com/example/unraveling/unraveling/query/ValueTest$Operator") (F_GREATER : Fld Z h0 w_GREATER "java/lang/Enum" "ordinal" "I" (.int 4)) (E_AT_LEAST : Exa Z h0 w_AT_LEAST "com/example/unraveling/unraveling/query/ValueTest$Operator") (F_AT_LEAST : Fld Z h0 w_AT_LEAST "java/lang/Enum" "ordinal" "I" (.int 5)) :
    MetFree l x (head1 (Jvm.Cond.code x code maxLocals ret :: ws) room_1) (fun a_ U_ => a_ = #[(.int ord)] ∧ Z.Warmed39 U_.vm ∧ U_.heap = h0) (fun _ _ _ _ _ => True) (fun _ U_ o_ U'_ => ∃ v_ L_, o_ = .returned v_ ∧ QL n0 v_ U'_.heap L_ ∧ FrameEnd U_ o_ U'_ L_ room_1.cells room_1.slots) := by
  refine MetFree.of_bodySF (plainFor_of_name pn_0) hisR ?_
  intro p e s m args below meth c s₁ Bd hml0 hP hK
  obtain ⟨rfl, hZ, hh⟩ := hP
  have hx := Bd.exec
  have hby := Bd.bytes
  have hml : c.maxLocals = 3 := hml0
  have hown : s.vm.findClass "com/example/unraveling/unraveling/query/OperatorHoldsPinLaw" = some m.cls := findClass_of_methodNamed Bd.named
  have hnm := (name_of_methodNamed Bd.named Bd.method).1
  have X0 : Stand p l e room_1 s m #[(.int ord)] below meth c s₁ [] 0 0 := Stand.of_body Bd
  have e0 : s₁.heap = h0 := by rw [← hh, Bd.state]; rfl
  have N0 := Fr.nil n0
  have k0 : ∀ tg, Steps p.tables e below (s₁.setTop (mkF m 0 #[.val (.int ord), .unset, .unset] [])) tg → Steps p.tables e below (s₁.setTop (entryFrame m #[(.int ord)] maxLocals)) tg := fun tg k => castTop (ef_rm0 m ord) k
  obtain ⟨_, _, ⟨T1, L1, k1, n1⟩, -, X1, ⟨Lc1, hQ1, l1, y1, z1⟩, st1⟩ := Jvm.LawKit.callS X0 hx (y := (⟨"java/lang/Math", "min", "(II)I"⟩ : MethodName)) hown (mvT hZ (hw _ (List.mem_of_getElem? (i := 0) rfl))) (mvT hZ (hw _ (List.mem_of_getElem? (i := 1) rfl))) (mvT hZ (hw _ (List.mem_of_getElem? (i := 2) rfl))) (mvT hZ (hw _ (List.mem_of_getElem? (i := 3) rfl))) (by decide) (backOf (W := 1) (rm1 l Z a0 hw [] (1 : Int32) ord  h0 n0 ) hZ (hw _ (List.mem_of_getElem? (i := 3) rfl)) (hw _ (List.mem_of_getElem? (i := 2) rfl)) (by decide) (by decide)) (g := (mkF m 3 #[.val (.int ord), .unset, .unset] [(.int ord), (.int (1 : Int32)), (.int (-1 : Int32))])) rfl (by rw [hml]; rfl) (argsL := [(.int (1 : Int32)), (.int ord)]) (rest := [(.int (-1 : Int32))]) (lenOf pd_2 rfl) rfl (by show 2 * 0 + _ ≤ _; exact Nat.le_of_eq rfl) (hb hby at_3) (fun _ _ => ⟨rfl, e0, (by decide : 0 + 0 ≤ _), (by decide : 0 + 0 ≤ _)⟩)
  dsimp only [Pt.U, Pt.locs, Pt.cells, Pt.slots] at X1 l1 y1 z1 st1 hQ1
  subst l1 y1 z1
  obtain ⟨rfl, N1q, e1⟩ := hQ1
  have N1 := Fr.app N0 N1q
  obtain ⟨mi, emi⟩ : ∃ z : Int32, z = (if ord < (1 : Int32) then ord else (1 : Int32)) := ⟨_, rfl⟩
  obtain ⟨_, _, ⟨T2, L2, k2, n2⟩, -, X2, ⟨Lc2, hQ2, l2, y2, z2⟩, st2⟩ := Jvm.LawKit.callS X1 hx (y := (⟨"java/lang/Math", "max", "(II)I"⟩ : MethodName)) hown (mvT hZ (hw _ (List.mem_of_getElem? (i := 4) rfl))) (mvT hZ (hw _ (List.mem_of_getElem? (i := 5) rfl))) (mvT hZ (hw _ (List.mem_of_getElem? (i := 2) rfl))) (mvT hZ (hw _ (List.mem_of_getElem? (i := 6) rfl))) (by decide) (backOf (W := 0) (rm2 l Z a0 hw [] (-1 : Int32) mi  h0 n0 ) hZ (hw _ (List.mem_of_getElem? (i := 6) rfl)) (hw _ (List.mem_of_getElem? (i := 2) rfl)) (by decide) (by decide)) (g := (mkF m 6 #[.val (.int ord), .unset, .unset] [(.int mi), (.int (-1 : Int32))])) rfl (by rw [hml]; rfl) (argsL := [(.int (-1 : Int32)), (.int mi)]) (rest := []) (lenOf pd_2 rfl) rfl (by show 2 * 0 + _ ≤ _; exact Nat.le_of_eq rfl) (hb hby at_6) (fun _ _ => ⟨rfl, e1, (by decide : 0 + 0 ≤ _), (by decide : 0 + 0 ≤ _)⟩)
  dsimp only [Pt.U, Pt.locs, Pt.cells, Pt.slots] at X2 l2 y2 z2 st2 hQ2
  subst l2 y2 z2
  obtain ⟨rfl, N2q, e2⟩ := hQ2
  have N2 := Fr.app N1 N2q
  obtain ⟨z3, ez3⟩ : ∃ z : Int32, z = (if (-1 : Int32) < mi then mi else (-1 : Int32)) := ⟨_, rfl⟩
  have hbit := own_bit ord z3 _ _ emi ez3 rfl
  obtain ⟨T4, X4, e4, st4⟩ := getS2 X2 hx hZ hown (host := "") (Or.inl (hw _ (List.mem_of_getElem? (i := 7) rfl))) Via.refl e2 S_EQUAL (g := (mkF m 16 #[.val (.int ord), .val (.int z3), .val (.int ((1 : Int32) <<< ((z3 + (1 : Int32)) &&& 31)))] [])) rfl (hb hby at_16)
  obtain ⟨_, _, ⟨T5, L5, k5, n5⟩, -, X5, ⟨Lc5, hQ5, l5, y5, z5⟩, st5⟩ := Jvm.LawKit.callS X4 hx (y := (⟨"com/example/unraveling/unraveling/query/OperatorHoldsPinLaw", "ok", "(Lcom/example/unraveling/unraveling/query/ValueTest$Operator;III)Z"⟩ : MethodName)) hown (mvT hZ (hw _ (List.mem_of_getElem? (i := 10) rfl))) (mvT hZ (hw _ (List.mem_of_getElem? (i := 11) rfl))) (mvT hZ (hw _ (List.mem_of_getElem? (i := 12) rfl))) (mvT hZ (hw _ (List.mem_of_getElem? (i := 13) rfl))) (by decide) (backOf (W := 0) (rm3_0 l Z a0 hw [] w_EQUAL ord (2 : Int32) ((1 : Int32) <<< ((z3 + (1 : Int32)) &&& 31))  h0 n0 E_EQUAL F_EQUAL) hZ (hw _ (List.mem_of_getElem? (i := 13) rfl)) (hw _ (List.mem_of_getElem? (i := 12) rfl)) (by decide) (by decide)) (g := (mkF m 22 #[.val (.int ord), .val (.int z3), .val (.int ((1 : Int32) <<< ((z3 + (1 : Int32)) &&& 31)))] [(.int ((1 : Int32) <<< ((z3 + (1 : Int32)) &&& 31))), (.int (2 : Int32)), (.int ord), (.ref w_EQUAL)])) rfl (by rw [hml]; rfl) (argsL := [(.ref w_EQUAL), (.int ord), (.int (2 : Int32)), (.int ((1 : Int32) <<< ((z3 + (1 : Int32)) &&& 31)))]) (rest := []) (lenOf pd_3 rfl) rfl (by show 2 * 0 + _ ≤ _; exact Nat.le_of_eq rfl) (hb hby at_22) (fun _ _ => ⟨rfl, e4, (by decide : 0 + 0 ≤ _), (by decide : 0 + 0 ≤ _)⟩)
  dsimp only [Pt.U, Pt.locs, Pt.cells, Pt.slots] at X5 l5 y5 z5 st5 hQ5
  subst l5 y5 z5
  obtain ⟨rfl, N5q, e5⟩ := hQ5
  have N5 := Fr.app N2 N5q
  obtain ⟨z6, ez6⟩ : ∃ z : Int32, z = (if (if ord = (0 : Int32) then (1 : Int32) else (0 : Int32)) = (if ((2 : Int32) &&& ((1 : Int32) <<< ((z3 + (1 : Int32)) &&& 31))) = (0 : Int32) then (0 : Int32) else (1 : Int32)) then (1 : Int32) else (0 : Int32)) := ⟨_, rfl⟩
  have hd7 : ¬ (z6 = (0 : Int32)) := by
    rw [ez6]
    rcases hbit with ⟨q1, q2, q3, q4⟩ | ⟨q1, q2, q3, q4⟩ | ⟨q1, q2, q3, q4⟩ <;> simp only [q1, q2, q3, q4, if_true, if_false] <;> decide
  obtain ⟨T8, X8, e8, st8⟩ := getS2 X5 hx hZ hown (host := "") (Or.inl (hw _ (List.mem_of_getElem? (i := 28) rfl))) Via.refl e5 S_NOT_EQUAL (g := (mkF m 28 #[.val (.int ord), .val (.int z3), .val (.int ((1 : Int32) <<< ((z3 + (1 : Int32)) &&& 31)))] [])) rfl (hb hby at_28)
  obtain ⟨_, _, ⟨T9, L9, k9, n9⟩, -, X9, ⟨Lc9, hQ9, l9, y9, z9⟩, st9⟩ := Jvm.LawKit.callS X8 hx (y := (⟨"com/example/unraveling/unraveling/query/OperatorHoldsPinLaw", "ok", "(Lcom/example/unraveling/unraveling/query/ValueTest$Operator;III)Z"⟩ : MethodName)) hown (mvT hZ (hw _ (List.mem_of_getElem? (i := 10) rfl))) (mvT hZ (hw _ (List.mem_of_getElem? (i := 11) rfl))) (mvT hZ (hw _ (List.mem_of_getElem? (i := 12) rfl))) (mvT hZ (hw _ (List.mem_of_getElem? (i := 13) rfl))) (by decide) (backOf (W := 0) (rm3_1 l Z a0 hw [] w_NOT_EQUAL ord (5 : Int32) ((1 : Int32) <<< ((z3 + (1 : Int32)) &&& 31))  h0 n0 E_NOT_EQUAL F_NOT_EQUAL) hZ (hw _ (List.mem_of_getElem? (i := 13) rfl)) (hw _ (List.mem_of_getElem? (i := 12) rfl)) (by decide) (by decide)) (g := (mkF m 34 #[.val (.int ord), .val (.int z3), .val (.int ((1 : Int32) <<< ((z3 + (1 : Int32)) &&& 31)))] [(.int ((1 : Int32) <<< ((z3 + (1 : Int32)) &&& 31))), (.int (5 : Int32)), (.int ord), (.ref w_NOT_EQUAL)])) rfl (by rw [hml]; rfl) (argsL := [(.ref w_NOT_EQUAL), (.int ord), (.int (5 : Int32)), (.int ((1 : Int32) <<< ((z3 + (1 : Int32)) &&& 31)))]) (rest := []) (lenOf pd_3 rfl) rfl (by show 2 * 0 + _ ≤ _; exact Nat.le_of_eq rfl) (hb hby at_34) (fun _ _ => ⟨rfl, e8, (by decide : 0 + 0 ≤ _), (by decide : 0 + 0 ≤ _)⟩)
  dsimp only [Pt.U, Pt.locs, Pt.cells, Pt.slots] at X9 l9 y9 z9 st9 hQ9
  subst l9 y9 z9
  obtain ⟨rfl, N9q, e9⟩ := hQ9
  have N9 := Fr.app N5 N9q
  obtain ⟨z10, ez10⟩ : ∃ z : Int32, z = (if (if ord = (0 : Int32) then (0 : Int32) else (1 : Int32)) = (if ((5 : Int32) &&& ((1 : Int32) <<< ((z3 + (1 : Int32)) &&& 31))) = (0 : Int32) then (0 : Int32) else (1 : Int32)) then (1 : Int32) else (0 : Int32)) := ⟨_, rfl⟩
  have hd11 : ¬ (z10 = (0 : Int32)) := by
    rw [ez10]
    rcases hbit with ⟨q1, q2, q3, q4⟩ | ⟨q1, q2, q3, q4⟩ | ⟨q1, q2, q3, q4⟩ <;> simp only [q1, q2, q3, q4, if_true, if_false] <;> decide
  obtain ⟨T12, X12, e12, st12⟩ := getS2 X9 hx hZ hown (host := "") (Or.inl (hw _ (List.mem_of_getElem? (i := 30) rfl))) Via.refl e9 S_LESS (g := (mkF m 40 #[.val (.int ord), .val (.int z3), .val (.int ((1 : Int32) <<< ((z3 + (1 : Int32)) &&& 31)))] [])) rfl (hb hby at_40)
  obtain ⟨_, _, ⟨T13, L13, k13, n13⟩, -, X13, ⟨Lc13, hQ13, l13, y13, z13⟩, st13⟩ := Jvm.LawKit.callS X12 hx (y := (⟨"com/example/unraveling/unraveling/query/OperatorHoldsPinLaw", "ok", "(Lcom/example/unraveling/unraveling/query/ValueTest$Operator;III)Z"⟩ : MethodName)) hown (mvT hZ (hw _ (List.mem_of_getElem? (i := 10) rfl))) (mvT hZ (hw _ (List.mem_of_getElem? (i := 11) rfl))) (mvT hZ (hw _ (List.mem_of_getElem? (i := 12) rfl))) (mvT hZ (hw _ (List.mem_of_getElem? (i := 13) rfl))) (by decide) (backOf (W := 0) (rm3_2 l Z a0 hw [] w_LESS ord (1 : Int32) ((1 : Int32) <<< ((z3 + (1 : Int32)) &&& 31))  h0 n0 E_LESS F_LESS) hZ (hw _ (List.mem_of_getElem? (i := 13) rfl)) (hw _ (List.mem_of_getElem? (i := 12) rfl)) (by decide) (by decide)) (g := (mkF m 46 #[.val (.int ord), .val (.int z3), .val (.int ((1 : Int32) <<< ((z3 + (1 : Int32)) &&& 31)))] [(.int ((1 : Int32) <<< ((z3 + (1 : Int32)) &&& 31))), (.int (1 : Int32)), (.int ord), (.ref w_LESS)])) rfl (by rw [hml]; rfl) (argsL := [(.ref w_LESS), (.int ord), (.int (1 : Int32)), (.int ((1 : Int32) <<< ((z3 + (1 : Int32)) &&& 31)))]) (rest := []) (lenOf pd_3 rfl) rfl (by show 2 * 0 + _ ≤ _; exact Nat.le_of_eq rfl) (hb hby at_46) (fun _ _ => ⟨rfl, e12, (by decide : 0 + 0 ≤ _), (by decide : 0 + 0 ≤ _)⟩)
  dsimp only [Pt.U, Pt.locs, Pt.cells, Pt.slots] at X13 l13 y13 z13 st13 hQ13
  subst l13 y13 z13
  obtain ⟨rfl, N13q, e13⟩ := hQ13
  have N13 := Fr.app N9 N13q
  obtain ⟨z14, ez14⟩ : ∃ z : Int32, z = (if (if ord < (0 : Int32) then (1 : Int32) else (0 : Int32)) = (if ((1 : Int32) &&& ((1 : Int32) <<< ((z3 + (1 : Int32)) &&& 31))) = (0 : Int32) then (0 : Int32) else (1 : Int32)) then (1 : Int32) else (0 : Int32)) := ⟨_, rfl⟩
  have hd15 : ¬ (z14 = (0 : Int32)) := by
    rw [ez14]
    rcases hbit with ⟨q1, q2, q3, q4⟩ | ⟨q1, q2, q3, q4⟩ | ⟨q1, q2, q3, q4⟩ <;> simp only [q1, q2, q3, q4, if_true, if_false] <;> decide
  obtain ⟨T16, X16, e16, st16⟩ := getS2 X13 hx hZ hown (host := "") (Or.inl (hw _ (List.mem_of_getElem? (i := 32) rfl))) Via.refl e13 S_AT_MOST (g := (mkF m 52 #[.val (.int ord), .val (.int z3), .val (.int ((1 : Int32) <<< ((z3 + (1 : Int32)) &&& 31)))] [])) rfl (hb hby at_52)
  obtain ⟨_, _, ⟨T17, L17, k17, n17⟩, -, X17, ⟨Lc17, hQ17, l17, y17, z17⟩, st17⟩ := Jvm.LawKit.callS X16 hx (y := (⟨"com/example/unraveling/unraveling/query/OperatorHoldsPinLaw", "ok", "(Lcom/example/unraveling/unraveling/query/ValueTest$Operator;III)Z"⟩ : MethodName)) hown (mvT hZ (hw _ (List.mem_of_getElem? (i := 10) rfl))) (mvT hZ (hw _ (List.mem_of_getElem? (i := 11) rfl))) (mvT hZ (hw _ (List.mem_of_getElem? (i := 12) rfl))) (mvT hZ (hw _ (List.mem_of_getElem? (i := 13) rfl))) (by decide) (backOf (W := 0) (rm3_3 l Z a0 hw [] w_AT_MOST ord (3 : Int32) ((1 : Int32) <<< ((z3 + (1 : Int32)) &&& 31))  h0 n0 E_AT_MOST F_AT_MOST) hZ (hw _ (List.mem_of_getElem? (i := 13) rfl)) (hw _ (List.mem_of_getElem? (i := 12) rfl)) (by decide) (by decide)) (g := (mkF m 58 #[.val (.int ord), .val (.int z3), .val (.int ((1 : Int32) <<< ((z3 + (1 : Int32)) &&& 31)))] [(.int ((1 : Int32) <<< ((z3 + (1 : Int32)) &&& 31))), (.int (3 : Int32)), (.int ord), (.ref w_AT_MOST)])) rfl (by rw [hml]; rfl) (argsL := [(.ref w_AT_MOST), (.int ord), (.int (3 : Int32)), (.int ((1 : Int32) <<< ((z3 + (1 : Int32)) &&& 31)))]) (rest := []) (lenOf pd_3 rfl) rfl (by show 2 * 0 + _ ≤ _; exact Nat.le_of_eq rfl) (hb hby at_58) (fun _ _ => ⟨rfl, e16, (by decide : 0 + 0 ≤ _), (by decide : 0 + 0 ≤ _)⟩)
  dsimp only [Pt.U, Pt.locs, Pt.cells, Pt.slots] at X17 l17 y17 z17 st17 hQ17
  subst l17 y17 z17
  obtain ⟨rfl, N17q, e17⟩ := hQ17
  have N17 := Fr.app N13 N17q
  obtain ⟨z18, ez18⟩ : ∃ z : Int32, z = (if (if (0 : Int32) < ord then (0 : Int32) else (1 : Int32)) = (if ((3 : Int32) &&& ((1 : Int32) <<< ((z3 + (1 : Int32)) &&& 31))) = (0 : Int32) then (0 : Int32) else (1 : Int32)) then (1 : Int32) else (0 : Int32)) := ⟨_, rfl⟩
  have hd19 : ¬ (z18 = (0 : Int32)) := by
    rw [ez18]
    rcases hbit with ⟨q1, q2, q3, q4⟩ | ⟨q1, q2, q3, q4⟩ | ⟨q1, q2, q3, q4⟩ <;> simp only [q1, q2, q3, q4, if_true, if_false] <;> decide
  obtain ⟨T20, X20, e20, st20⟩ := getS2 X17 hx hZ hown (host := "") (Or.inl (hw _ (List.mem_of_getElem? (i := 34) rfl))) Via.refl e17 S_GREATER (g := (mkF m 64 #[.val (.int ord), .val (.int z3), .val (.int ((1 : Int32) <<< ((z3 + (1 : Int32)) &&& 31)))] [])) rfl (hb hby at_64)
  obtain ⟨_, _, ⟨T21, L21, k21, n21⟩, -, X21, ⟨Lc21, hQ21, l21, y21, z21⟩, st21⟩ := Jvm.LawKit.callS X20 hx (y := (⟨"com/example/unraveling/unraveling/query/OperatorHoldsPinLaw", "ok", "(Lcom/example/unraveling/unraveling/query/ValueTest$Operator;III)Z"⟩ : MethodName)) hown (mvT hZ (hw _ (List.mem_of_getElem? (i := 10) rfl))) (mvT hZ (hw _ (List.mem_of_getElem? (i := 11) rfl))) (mvT hZ (hw _ (List.mem_of_getElem? (i := 12) rfl))) (mvT hZ (hw _ (List.mem_of_getElem? (i := 13) rfl))) (by decide) (backOf (W := 0) (rm3_4 l Z a0 hw [] w_GREATER ord (4 : Int32) ((1 : Int32) <<< ((z3 + (1 : Int32)) &&& 31))  h0 n0 E_GREATER F_GREATER) hZ (hw _ (List.mem_of_getElem? (i := 13) rfl)) (hw _ (List.mem_of_getElem? (i := 12) rfl)) (by decide) (by decide)) (g := (mkF m 70 #[.val (.int ord), .val (.int z3), .val (.int ((1 : Int32) <<< ((z3 + (1 : Int32)) &&& 31)))] [(.int ((1 : Int32) <<< ((z3 + (1 : Int32)) &&& 31))), (.int (4 : Int32)), (.int ord), (.ref w_GREATER)])) rfl (by rw [hml]; rfl) (argsL := [(.ref w_GREATER), (.int ord), (.int (4 : Int32)), (.int ((1 : Int32) <<< ((z3 + (1 : Int32)) &&& 31)))]) (rest := []) (lenOf pd_3 rfl) rfl (by show 2 * 0 + _ ≤ _; exact Nat.le_of_eq rfl) (hb hby at_70) (fun _ _ => ⟨rfl, e20, (by decide : 0 + 0 ≤ _), (by decide : 0 + 0 ≤ _)⟩)
  dsimp only [Pt.U, Pt.locs, Pt.cells, Pt.slots] at X21 l21 y21 z21 st21 hQ21
  subst l21 y21 z21
  obtain ⟨rfl, N21q, e21⟩ := hQ21
  have N21 := Fr.app N17 N21q
  obtain ⟨z22, ez22⟩ : ∃ z : Int32, z = (if (if (0 : Int32) < ord then (1 : Int32) else (0 : Int32)) = (if ((4 : Int32) &&& ((1 : Int32) <<< ((z3 + (1 : Int32)) &&& 31))) = (0 : Int32) then (0 : Int32) else (1 : Int32)) then (1 : Int32) else (0 : Int32)) := ⟨_, rfl⟩
  have hd23 : ¬ (z22 = (0 : Int32)) := by
    rw [ez22]
    rcases hbit with ⟨q1, q2, q3, q4⟩ | ⟨q1, q2, q3, q4⟩ | ⟨q1, q2, q3, q4⟩ <;> simp only [q1, q2, q3, q4, if_true, if_false] <;> decide
  obtain ⟨T24, X24, e24, st24⟩ := getS2 X21 hx hZ hown (host := "") (Or.inl (hw _ (List.mem_of_getElem? (i := 36) rfl))) Via.refl e21 S_AT_LEAST (g := (mkF m 76 #[.val (.int ord), .val (.int z3), .val (.int ((1 : Int32) <<< ((z3 + (1 : Int32)) &&& 31)))] [])) rfl (hb hby at_76)
  obtain ⟨_, _, ⟨T25, L25, k25, n25⟩, -, X25, ⟨Lc25, hQ25, l25, y25, z25⟩, st25⟩ := Jvm.LawKit.callS X24 hx (y := (⟨"com/example/unraveling/unraveling/query/OperatorHoldsPinLaw", "ok", "(Lcom/example/unraveling/unraveling/query/ValueTest$Operator;III)Z"⟩ : MethodName)) hown (mvT hZ (hw _ (List.mem_of_getElem? (i := 10) rfl))) (mvT hZ (hw _ (List.mem_of_getElem? (i := 11) rfl))) (mvT hZ (hw _ (List.mem_of_getElem? (i := 12) rfl))) (mvT hZ (hw _ (List.mem_of_getElem? (i := 13) rfl))) (by decide) (backOf (W := 0) (rm3_5 l Z a0 hw [] w_AT_LEAST ord (6 : Int32) ((1 : Int32) <<< ((z3 + (1 : Int32)) &&& 31))  h0 n0 E_AT_LEAST F_AT_LEAST) hZ (hw _ (List.mem_of_getElem? (i := 13) rfl)) (hw _ (List.mem_of_getElem? (i := 12) rfl)) (by decide) (by decide)) (g := (mkF m 83 #[.val (.int ord), .val (.int z3), .val (.int ((1 : Int32) <<< ((z3 + (1 : Int32)) &&& 31)))] [(.int ((1 : Int32) <<< ((z3 + (1 : Int32)) &&& 31))), (.int (6 : Int32)), (.int ord), (.ref w_AT_LEAST)])) rfl (by rw [hml]; rfl) (argsL := [(.ref w_AT_LEAST), (.int ord), (.int (6 : Int32)), (.int ((1 : Int32) <<< ((z3 + (1 : Int32)) &&& 31)))]) (rest := []) (lenOf pd_3 rfl) rfl (by show 2 * 0 + _ ≤ _; exact Nat.le_of_eq rfl) (hb hby at_83) (fun _ _ => ⟨rfl, e24, (by decide : 0 + 0 ≤ _), (by decide : 0 + 0 ≤ _)⟩)
  dsimp only [Pt.U, Pt.locs, Pt.cells, Pt.slots] at X25 l25 y25 z25 st25 hQ25
  subst l25 y25 z25
  obtain ⟨rfl, N25q, e25⟩ := hQ25
  have N25 := Fr.app N21 N25q
  obtain ⟨z26, ez26⟩ : ∃ z : Int32, z = (if (if ord < (0 : Int32) then (0 : Int32) else (1 : Int32)) = (if ((6 : Int32) &&& ((1 : Int32) <<< ((z3 + (1 : Int32)) &&& 31))) = (0 : Int32) then (0 : Int32) else (1 : Int32)) then (1 : Int32) else (0 : Int32)) := ⟨_, rfl⟩
  have hd27 : ¬ (z26 = (0 : Int32)) := by
    rw [ez26]
    rcases hbit with ⟨q1, q2, q3, q4⟩ | ⟨q1, q2, q3, q4⟩ | ⟨q1, q2, q3, q4⟩ <;> simp only [q1, q2, q3, q4, if_true, if_false] <;> decide
  have k28 : ∀ tg, Steps p.tables e below (T25.setTop (mkF m 94 #[.val (.int ord), .val (.int z3), .val (.int ((1 : Int32) <<< ((z3 + (1 : Int32)) &&& 31)))] [(.int (1 : Int32))])) tg → Steps p.tables e below (s₁.setTop (entryFrame m #[(.int ord)] maxLocals)) tg := by
    intro tg kt
    refine k0 tg ?_
    show Steps p.tables e below (s₁.setTop (mkF m 0 #[.val (.int ord), .unset, .unset] [])) _
    refine XS.iconst X0.here hx rfl (hb hby at_0) ?_
    show Steps p.tables e below (s₁.setTop (mkF m 1 #[.val (.int ord), .unset, .unset] [(.int (-1 : Int32))])) _
    refine XS.iconst X0.here hx rfl (hb hby at_1) ?_
    show Steps p.tables e below (s₁.setTop (mkF m 2 #[.val (.int ord), .unset, .unset] [(.int (1 : Int32)), (.int (-1 : Int32))])) _
    refine XS.iloadN X0.here hx rfl (hb hby at_2) rfl ?_
    show Steps p.tables e below (s₁.setTop (mkF m 3 #[.val (.int ord), .unset, .unset] [(.int ord), (.int (1 : Int32)), (.int (-1 : Int32))])) _
    refine st1 _ ?_
    show Steps p.tables e below (T1.setTop (mkF m 6 #[.val (.int ord), .unset, .unset] [(.int (if ord < (1 : Int32) then ord else (1 : Int32))), (.int (-1 : Int32))])) _
    rw [← emi]
    show Steps p.tables e below (T1.setTop (mkF m 6 #[.val (.int ord), .unset, .unset] [(.int mi), (.int (-1 : Int32))])) _
    refine st2 _ ?_
    show Steps p.tables e below (T2.setTop (mkF m 9 #[.val (.int ord), .unset, .unset] [(.int (if (-1 : Int32) < mi then mi else (-1 : Int32)))])) _
    rw [← ez3]
    show Steps p.tables e below (T2.setTop (mkF m 9 #[.val (.int ord), .unset, .unset] [(.int z3)])) _
    refine XS.istoreN X2.here hx rfl (hb hby at_9) rfl (l' := #[.val (.int ord), .val (.int z3), .unset]) rfl ?_
    show Steps p.tables e below (T2.setTop (mkF m 10 #[.val (.int ord), .val (.int z3), .unset] [])) _
    refine XS.iconst X2.here hx rfl (hb hby at_10) ?_
    show Steps p.tables e below (T2.setTop (mkF m 11 #[.val (.int ord), .val (.int z3), .unset] [(.int (1 : Int32))])) _
    refine XS.iloadN X2.here hx rfl (hb hby at_11) rfl ?_
    show Steps p.tables e below (T2.setTop (mkF m 12 #[.val (.int ord), .val (.int z3), .unset] [(.int z3), (.int (1 : Int32))])) _
    refine XS.iconst X2.here hx rfl (hb hby at_12) ?_
    show Steps p.tables e below (T2.setTop (mkF m 13 #[.val (.int ord), .val (.int z3), .unset] [(.int (1 : Int32)), (.int z3), (.int (1 : Int32))])) _
    refine XS.iadd X2.here hx rfl (hb hby at_13) rfl ?_
    show Steps p.tables e below (T2.setTop (mkF m 14 #[.val (.int ord), .val (.int z3), .unset] [(.int (z3 + (1 : Int32))), (.int (1 : Int32))])) _
    refine XS.ishl X2.here hx rfl (hb hby at_14) rfl ?_
    show Steps p.tables e below (T2.setTop (mkF m 15 #[.val (.int ord), .val (.int z3), .unset] [(.int ((1 : Int32) <<< ((z3 + (1 : Int32)) &&& 31)))])) _
    refine XS.istoreN X2.here hx rfl (hb hby at_15) rfl (l' := #[.val (.int ord), .val (.int z3), .val (.int ((1 : Int32) <<< ((z3 + (1 : Int32)) &&& 31)))]) rfl ?_
    show Steps p.tables e below (T2.setTop (mkF m 16 #[.val (.int ord), .val (.int z3), .val (.int ((1 : Int32) <<< ((z3 + (1 : Int32)) &&& 31)))] [])) _
    refine st4 _ ?_
    show Steps p.tables e below (T4.setTop (mkF m 19 #[.val (.int ord), .val (.int z3), .val (.int ((1 : Int32) <<< ((z3 + (1 : Int32)) &&& 31)))] [(.ref w_EQUAL)])) _
    refine XS.iloadN X4.here hx rfl (hb hby at_19) rfl ?_
    show Steps p.tables e below (T4.setTop (mkF m 20 #[.val (.int ord), .val (.int z3), .val (.int ((1 : Int32) <<< ((z3 + (1 : Int32)) &&& 31)))] [(.int ord), (.ref w_EQUAL)])) _
    refine XS.iconst X4.here hx rfl (hb hby at_20) ?_
    show Steps p.tables e below (T4.setTop (mkF m 21 #[.val (.int ord), .val (.int z3), .val (.int ((1 : Int32) <<< ((z3 + (1 : Int32)) &&& 31)))] [(.int (2 : Int32)), (.int ord), (.ref w_EQUAL)])) _
    refine XS.iloadN X4.here hx rfl (hb hby at_21) rfl ?_
    show Steps p.tables e below (T4.setTop (mkF m 22 #[.val (.int ord), .val (.int z3), .val (.int ((1 : Int32) <<< ((z3 + (1 : Int32)) &&& 31)))] [(.int ((1 : Int32) <<< ((z3 + (1 : Int32)) &&& 31))), (.int (2 : Int32)), (.int ord), (.ref w_EQUAL)])) _
    refine st5 _ ?_
    show Steps p.tables e below (T5.setTop (mkF m 25 #[.val (.int ord), .val (.int z3), .val (.int ((1 : Int32) <<< ((z3 + (1 : Int32)) &&& 31)))] [(.int (if (if ord = (0 : Int32) then (1 : Int32) else (0 : Int32)) = (if ((2 : Int32) &&& ((1 : Int32) <<< ((z3 + (1 : Int32)) &&& 31))) = (0 : Int32) then (0 : Int32) else (1 : Int32)) then (1 : Int32) else (0 : Int32)))])) _
    rw [← ez6]
    show Steps p.tables e below (T5.setTop (mkF m 25 #[.val (.int ord), .val (.int z3), .val (.int ((1 : Int32) <<< ((z3 + (1 : Int32)) &&& 31)))] [(.int z6)])) _
    refine XS.ifNo X5.here hx rfl (hb hby at_25) rfl ((if0 _ _).trans (feq hd7).1) ?_
    show Steps p.tables e below (T5.setTop (mkF m 28 #[.val (.int ord), .val (.int z3), .val (.int ((1 : Int32) <<< ((z3 + (1 : Int32)) &&& 31)))] [])) _
    refine st8 _ ?_
    show Steps p.tables e below (T8.setTop (mkF m 31 #[.val (.int ord), .val (.int z3), .val (.int ((1 : Int32) <<< ((z3 + (1 : Int32)) &&& 31)))] [(.ref w_NOT_EQUAL)])) _
    refine XS.iloadN X8.here hx rfl (hb hby at_31) rfl ?_
    show Steps p.tables e below (T8.setTop (mkF m 32 #[.val (.int ord), .val (.int z3), .val (.int ((1 : Int32) <<< ((z3 + (1 : Int32)) &&& 31)))] [(.int ord), (.ref w_NOT_EQUAL)])) _
    refine XS.iconst X8.here hx rfl (hb hby at_32) ?_
    show Steps p.tables e below (T8.setTop (mkF m 33 #[.val (.int ord), .val (.int z3), .val (.int ((1 : Int32) <<< ((z3 + (1 : Int32)) &&& 31)))] [(.int (5 : Int32)), (.int ord), (.ref w_NOT_EQUAL)])) _
    refine XS.iloadN X8.here hx rfl (hb hby at_33) rfl ?_
    show Steps p.tables e below (T8.setTop (mkF m 34 #[.val (.int ord), .val (.int z3), .val (.int ((1 : Int32) <<< ((z3 + (1 : Int32)) &&& 31)))] [(.int ((1 : Int32) <<< ((z3 + (1 : Int32)) &&& 31))), (.int (5 : Int32)), (.int ord), (.ref w_NOT_EQUAL)])) _
    refine st9 _ ?_
    show Steps p.tables e below (T9.setTop (mkF m 37 #[.val (.int ord), .val (.int z3), .val (.int ((1 : Int32) <<< ((z3 + (1 : Int32)) &&& 31)))] [(.int (if (if ord = (0 : Int32) then (0 : Int32) else (1 : Int32)) = (if ((5 : Int32) &&& ((1 : Int32) <<< ((z3 + (1 : Int32)) &&& 31))) = (0 : Int32) then (0 : Int32) else (1 : Int32)) then (1 : Int32) else (0 : Int32)))])) _
    rw [← ez10]
    show Steps p.tables e below (T9.setTop (mkF m 37 #[.val (.int ord), .val (.int z3), .val (.int ((1 : Int32) <<< ((z3 + (1 : Int32)) &&& 31)))] [(.int z10)])) _
    refine XS.ifNo X9.here hx rfl (hb hby at_37) rfl ((if0 _ _).trans (feq hd11).1) ?_
    show Steps p.tables e below (T9.setTop (mkF m 40 #[.val (.int ord), .val (.int z3), .val (.int ((1 : Int32) <<< ((z3 + (1 : Int32)) &&& 31)))] [])) _
    refine st12 _ ?_
    show Steps p.tables e below (T12.setTop (mkF m 43 #[.val (.int ord), .val (.int z3), .val (.int ((1 : Int32) <<< ((z3 + (1 : Int32)) &&& 31)))] [(.ref w_LESS)])) _
    refine XS.iloadN X12.here hx rfl (hb hby at_43) rfl ?_
    show Steps p.tables e below (T12.setTop (mkF m 44 #[.val (.int ord), .val (.int z3), .val (.int ((1 : Int32) <<< ((z3 + (1 : Int32)) &&& 31)))] [(.int ord), (.ref w_LESS)])) _
    refine XS.iconst X12.here hx rfl (hb hby at_44) ?_
    show Steps p.tables e below (T12.setTop (mkF m 45 #[.val (.int ord), .val (.int z3), .val (.int ((1 : Int32) <<< ((z3 + (1 : Int32)) &&& 31)))] [(.int (1 : Int32)), (.int ord), (.ref w_LESS)])) _
    refine XS.iloadN X12.here hx rfl (hb hby at_45) rfl ?_
    show Steps p.tables e below (T12.setTop (mkF m 46 #[.val (.int ord), .val (.int z3), .val (.int ((1 : Int32) <<< ((z3 + (1 : Int32)) &&& 31)))] [(.int ((1 : Int32) <<< ((z3 + (1 : Int32)) &&& 31))), (.int (1 : Int32)), (.int ord), (.ref w_LESS)])) _
    refine st13 _ ?_
    show Steps p.tables e below (T13.setTop (mkF m 49 #[.val (.int ord), .val (.int z3), .val (.int ((1 : Int32) <<< ((z3 + (1 : Int32)) &&& 31)))] [(.int (if (if ord < (0 : Int32) then (1 : Int32) else (0 : Int32)) = (if ((1 : Int32) &&& ((1 : Int32) <<< ((z3 + (1 : Int32)) &&& 31))) = (0 : Int32) then (0 : Int32) else (1 : Int32)) then (1 : Int32) else (0 : Int32)))])) _
    rw [← ez14]
    show Steps p.tables e below (T13.setTop (mkF m 49 #[.val (.int ord), .val (.int z3), .val (.int ((1 : Int32) <<< ((z3 + (1 : Int32)) &&& 31)))] [(.int z14)])) _
    refine XS.ifNo X13.here hx rfl (hb hby at_49) rfl ((if0 _ _).trans (feq hd15).1) ?_
    show Steps p.tables e below (T13.setTop (mkF m 52 #[.val (.int ord), .val (.int z3), .val (.int ((1 : Int32) <<< ((z3 + (1 : Int32)) &&& 31)))] [])) _
    refine st16 _ ?_
    show Steps p.tables e below (T16.setTop (mkF m 55 #[.val (.int ord), .val (.int z3), .val (.int ((1 : Int32) <<< ((z3 + (1 : Int32)) &&& 31)))] [(.ref w_AT_MOST)])) _
    refine XS.iloadN X16.here hx rfl (hb hby at_55) rfl ?_
    show Steps p.tables e below (T16.setTop (mkF m 56 #[.val (.int ord), .val (.int z3), .val (.int ((1 : Int32) <<< ((z3 + (1 : Int32)) &&& 31)))] [(.int ord), (.ref w_AT_MOST)])) _
    refine XS.iconst X16.here hx rfl (hb hby at_56) ?_
    show Steps p.tables e below (T16.setTop (mkF m 57 #[.val (.int ord), .val (.int z3), .val (.int ((1 : Int32) <<< ((z3 + (1 : Int32)) &&& 31)))] [(.int (3 : Int32)), (.int ord), (.ref w_AT_MOST)])) _
    refine XS.iloadN X16.here hx rfl (hb hby at_57) rfl ?_
    show Steps p.tables e below (T16.setTop (mkF m 58 #[.val (.int ord), .val (.int z3), .val (.int ((1 : Int32) <<< ((z3 + (1 : Int32)) &&& 31)))] [(.int ((1 : Int32) <<< ((z3 + (1 : Int32)) &&& 31))), (.int (3 : Int32)), (.int ord), (.ref w_AT_MOST)])) _
    refine st17 _ ?_
    show Steps p.tables e below (T17.setTop (mkF m 61 #[.val (.int ord), .val (.int z3), .val (.int ((1 : Int32) <<< ((z3 + (1 : Int32)) &&& 31)))] [(.int (if (if (0 : Int32) < ord then (0 : Int32) else (1 : Int32)) = (if ((3 : Int32) &&& ((1 : Int32) <<< ((z3 + (1 : Int32)) &&& 31))) = (0 : Int32) then (0 : Int32) else (1 : Int32)) then (1 : Int32) else (0 : Int32)))])) _
    rw [← ez18]
    show Steps p.tables e below (T17.setTop (mkF m 61 #[.val (.int ord), .val (.int z3), .val (.int ((1 : Int32) <<< ((z3 + (1 : Int32)) &&& 31)))] [(.int z18)])) _
    refine XS.ifNo X17.here hx rfl (hb hby at_61) rfl ((if0 _ _).trans (feq hd19).1) ?_
    show Steps p.tables e below (T17.setTop (mkF m 64 #[.val (.int ord), .val (.int z3), .val (.int ((1 : Int32) <<< ((z3 + (1 : Int32)) &&& 31)))] [])) _
    refine st20 _ ?_
    show Steps p.tables e below (T20.setTop (mkF m 67 #[.val (.int ord), .val (.int z3), .val (.int ((1 : Int32) <<< ((z3 + (1 : Int32)) &&& 31)))] [(.ref w_GREATER)])) _
    refine XS.iloadN X20.here hx rfl (hb hby at_67) rfl ?_
    show Steps p.tables e below (T20.setTop (mkF m 68 #[.val (.int ord), .val (.int z3), .val (.int ((1 : Int32) <<< ((z3 + (1 : Int32)) &&& 31)))] [(.int ord), (.ref w_GREATER)])) _
    refine XS.iconst X20.here hx rfl (hb hby at_68) ?_
    show Steps p.tables e below (T20.setTop (mkF m 69 #[.val (.int ord), .val (.int z3), .val (.int ((1 : Int32) <<< ((z3 + (1 : Int32)) &&& 31)))] [(.int (4 : Int32)), (.int ord), (.ref w_GREATER)])) _
    refine XS.iloadN X20.here hx rfl (hb hby at_69) rfl ?_
    show Steps p.tables e below (T20.setTop (mkF m 70 #[.val (.int ord), .val (.int z3), .val (.int ((1 : Int32) <<< ((z3 + (1 : Int32)) &&& 31)))] [(.int ((1 : Int32) <<< ((z3 + (1 : Int32)) &&& 31))), (.int (4 : Int32)), (.int ord), (.ref w_GREATER)])) _
    refine st21 _ ?_
    show Steps p.tables e below (T21.setTop (mkF m 73 #[.val (.int ord), .val (.int z3), .val (.int ((1 : Int32) <<< ((z3 + (1 : Int32)) &&& 31)))] [(.int (if (if (0 : Int32) < ord then (1 : Int32) else (0 : Int32)) = (if ((4 : Int32) &&& ((1 : Int32) <<< ((z3 + (1 : Int32)) &&& 31))) = (0 : Int32) then (0 : Int32) else (1 : Int32)) then (1 : Int32) else (0 : Int32)))])) _
    rw [← ez22]
    show Steps p.tables e below (T21.setTop (mkF m 73 #[.val (.int ord), .val (.int z3), .val (.int ((1 : Int32) <<< ((z3 + (1 : Int32)) &&& 31)))] [(.int z22)])) _
    refine XS.ifNo X21.here hx rfl (hb hby at_73) rfl ((if0 _ _).trans (feq hd23).1) ?_
    show Steps p.tables e below (T21.setTop (mkF m 76 #[.val (.int ord), .val (.int z3), .val (.int ((1 : Int32) <<< ((z3 + (1 : Int32)) &&& 31)))] [])) _
    refine st24 _ ?_
    show Steps p.tables e below (T24.setTop (mkF m 79 #[.val (.int ord), .val (.int z3), .val (.int ((1 : Int32) <<< ((z3 + (1 : Int32)) &&& 31)))] [(.ref w_AT_LEAST)])) _
    refine XS.iloadN X24.here hx rfl (hb hby at_79) rfl ?_
    show Steps p.tables e below (T24.setTop (mkF m 80 #[.val (.int ord), .val (.int z3), .val (.int ((1 : Int32) <<< ((z3 + (1 : Int32)) &&& 31)))] [(.int ord), (.ref w_AT_LEAST)])) _
    refine XS.bipush X24.here hx rfl (hb hby at_80) ?_
    show Steps p.tables e below (T24.setTop (mkF m 82 #[.val (.int ord), .val (.int z3), .val (.int ((1 : Int32) <<< ((z3 + (1 : Int32)) &&& 31)))] [(.int (6 : Int32)), (.int ord), (.ref w_AT_LEAST)])) _
    refine XS.iloadN X24.here hx rfl (hb hby at_82) rfl ?_
    show Steps p.tables e below (T24.setTop (mkF m 83 #[.val (.int ord), .val (.int z3), .val (.int ((1 : Int32) <<< ((z3 + (1 : Int32)) &&& 31)))] [(.int ((1 : Int32) <<< ((z3 + (1 : Int32)) &&& 31))), (.int (6 : Int32)), (.int ord), (.ref w_AT_LEAST)])) _
    refine st25 _ ?_
    show Steps p.tables e below (T25.setTop (mkF m 86 #[.val (.int ord), .val (.int z3), .val (.int ((1 : Int32) <<< ((z3 + (1 : Int32)) &&& 31)))] [(.int (if (if ord < (0 : Int32) then (0 : Int32) else (1 : Int32)) = (if ((6 : Int32) &&& ((1 : Int32) <<< ((z3 + (1 : Int32)) &&& 31))) = (0 : Int32) then (0 : Int32) else (1 : Int32)) then (1 : Int32) else (0 : Int32)))])) _
    rw [← ez26]
    show Steps p.tables e below (T25.setTop (mkF m 86 #[.val (.int ord), .val (.int z3), .val (.int ((1 : Int32) <<< ((z3 + (1 : Int32)) &&& 31)))] [(.int z26)])) _
    refine XS.ifNo X25.here hx rfl (hb hby at_86) rfl ((if0 _ _).trans (feq hd27).1) ?_
    show Steps p.tables e below (T25.setTop (mkF m 89 #[.val (.int ord), .val (.int z3), .val (.int ((1 : Int32) <<< ((z3 + (1 : Int32)) &&& 31)))] [])) _
    refine XS.iconst X25.here hx rfl (hb hby at_89) ?_
    show Steps p.tables e below (T25.setTop (mkF m 90 #[.val (.int ord), .val (.int z3), .val (.int ((1 : Int32) <<< ((z3 + (1 : Int32)) &&& 31)))] [(.int (1 : Int32))])) _
    refine XS.goto X25.here hx rfl (pc0 := 90) (pc' := 94) rfl (hb hby at_90) (by decide) (by decide) ?_
    show Steps p.tables e below (T25.setTop (mkF m 94 #[.val (.int ord), .val (.int z3), .val (.int ((1 : Int32) <<< ((z3 + (1 : Int32)) &&& 31)))] [(.int (1 : Int32))])) _
    exact kt
  obtain ⟨fs, hr, hrun, hended, hW, hsame⟩ := X25.leave (v := some (.int (1 : Int32))) (fun h => by rw [Bd.returns] at h; cases h)
  refine ⟨_, _, k28 _ ?_, hrun, hended, _, _, rfl, ?_, ⟨_, rfl⟩, hW, hsame.mono (by decide) (by decide)⟩
  · exact retN X25 hx (t := .boolean) Bd.returns (by simp) (hb hby at_94) hr
  · show QL n0 _ T25.heap _
    exact ⟨rfl, N25⟩
set_option maxRecDepth 65536 in
set_option maxHeartbeats 40000000 in
theorem comes_1 {Post : Tables → Env → Array Value → State → Outcome → State → Prop} (hpost : ∀ tb e args s v u, (limb_1_1.after args s (.returned v) u = true ∧ limb_1_2.after args s (.returned v) u = true ∧ True) → FrameEnd s (.returned v) u (Jvm.fieldLocs frame_1_writes args s ++ Jvm.arrayLocs frame_1_arrays args s ++ Jvm.staticLocs frame_1_statics s) 0 0 → Post tb e args s (.returned v) u) :
    ArmFor flags0 classFile x code maxLocals ret World_1 tables_1 room_1 Calls_1 rest_1 Pre_1 Post := by
  intro l hfl _ _ p e ha hc hk s m args below hf hA hF happ hP
  obtain ⟨hcalls, hrest, hpre⟩ := hP
  obtain ⟨-, -, -, hnamed, -, -, -, hat⟩ := (Spec.applies_iff hf).mp happ
  obtain ⟨hg, hn⟩ := and_e (Cond.before_iff.mp (show (Jvm.Cond.and given_1 narrow_1).before args s = true from hpre))
  obtain ⟨g1, g2⟩ := and_e hg
  obtain ⟨w0, rfl⟩ : ∃ w0 : Value, args = #[w0] := by
    have hs : args.size = 1 := by simpa [Cond.value, given_1] using g1
    obtain ⟨L⟩ := args
    match L, hs with
    | [w0], _ => exact ⟨w0, rfl⟩
  have hw := fun d (hd : d ∈ tables_1) => atoms_spec (ws := Jvm.Cond.code x code maxLocals ret :: tables_1) hat d (List.mem_cons_of_mem _ hd)
  have hfit : Fit s := fun {y c} hc i hi => by
    obtain ⟨ha, rfl⟩ := Array.getElem?_eq_some_iff.mp hc
    have q := List.all_eq_true.mp ((Array.all_eq_true_iff_forall_mem.mp hF) _ (Array.getElem_mem ha)) i (List.mem_range.mpr hi)
    simpa [Array.getElem?_eq_getElem hi] using q
  obtain ⟨i0, ei0⟩ := is_v g2
  obtain rfl : w0 = (.int i0) := Option.some.inj ei0
  obtain ⟨nn1, nn2⟩ := and_e hn
  obtain ⟨v_EQUAL, ev_EQUAL⟩ := exa_v nn1
  have E_EQUAL := Exa.start ev_EQUAL nn1
  have S_EQUAL := Sta.start ev_EQUAL (Or.inr ⟨(hw _ (List.mem_of_getElem? (i := 8) rfl)), (hw _ (List.mem_of_getElem? (i := 9) rfl))⟩)
  obtain ⟨nn3, nn4⟩ := and_e nn2
  obtain ⟨nn5, nn6⟩ := and_e nn4
  obtain ⟨v_NOT_EQUAL, ev_NOT_EQUAL⟩ := exa_v nn5
  have E_NOT_EQUAL := Exa.start ev_NOT_EQUAL nn5
  have S_NOT_EQUAL := Sta.start ev_NOT_EQUAL (Or.inr ⟨(hw _ (List.mem_of_getElem? (i := 8) rfl)), (hw _ (List.mem_of_getElem? (i := 29) rfl))⟩)
  obtain ⟨nn7, nn8⟩ := and_e nn6
  obtain ⟨nn9, nn10⟩ := and_e nn8
  obtain ⟨v_LESS, ev_LESS⟩ := exa_v nn9
  have E_LESS := Exa.start ev_LESS nn9
  have S_LESS := Sta.start ev_LESS (Or.inr ⟨(hw _ (List.mem_of_getElem? (i := 8) rfl)), (hw _ (List.mem_of_getElem? (i := 31) rfl))⟩)
  obtain ⟨nn11, nn12⟩ := and_e nn10
  obtain ⟨nn13, nn14⟩ := and_e nn12
  obtain ⟨v_AT_MOST, ev_AT_MOST⟩ := exa_v nn13
  have E_AT_MOST := Exa.start ev_AT_MOST nn13
  have S_AT_MOST := Sta.start ev_AT_MOST (Or.inr ⟨(hw _ (List.mem_of_getElem? (i := 8) rfl)), (hw _ (List.mem_of_getElem? (i := 33) rfl))⟩)
  obtain ⟨nn15, nn16⟩ := and_e nn14
  obtain ⟨nn17, nn18⟩ := and_e nn16
  obtain ⟨v_GREATER, ev_GREATER⟩ := exa_v nn17
  have E_GREATER := Exa.start ev_GREATER nn17
  have S_GREATER := Sta.start ev_GREATER (Or.inr ⟨(hw _ (List.mem_of_getElem? (i := 8) rfl)), (hw _ (List.mem_of_getElem? (i := 35) rfl))⟩)
  obtain ⟨nn19, nn20⟩ := and_e nn18
  obtain ⟨nn21, nn22⟩ := and_e nn20
  obtain ⟨v_AT_LEAST, ev_AT_LEAST⟩ := exa_v nn21
  have E_AT_LEAST := Exa.start ev_AT_LEAST nn21
  have S_AT_LEAST := Sta.start ev_AT_LEAST (Or.inr ⟨(hw _ (List.mem_of_getElem? (i := 8) rfl)), (hw _ (List.mem_of_getElem? (i := 37) rfl))⟩)
  have F_EQUAL := Fld.start ((fld_at ev_EQUAL).symm.trans (own_eqv nn3))
  have F_NOT_EQUAL := Fld.start ((fld_at ev_NOT_EQUAL).symm.trans (own_eqv nn7))
  have F_LESS := Fld.start ((fld_at ev_LESS).symm.trans (own_eqv nn11))
  have F_AT_MOST := Fld.start ((fld_at ev_AT_MOST).symm.trans (own_eqv nn15))
  have F_GREATER := Fld.start ((fld_at ev_GREATER).symm.trans (own_eqv nn19))
  have F_AT_LEAST := Fld.start ((fld_at ev_AT_LEAST).symm.trans (own_eqv nn22))
  obtain ⟨n, o, h1, h2, h3, _, L, rfl, ⟨rfl, N⟩, hq⟩ := rm0 l s _ hw tables_1 i0 v_EQUAL v_NOT_EQUAL v_LESS v_AT_MOST v_GREATER v_AT_LEAST s.heap s.heap.size S_EQUAL S_NOT_EQUAL S_LESS S_AT_MOST S_GREATER S_AT_LEAST E_EQUAL F_EQUAL E_NOT_EQUAL F_NOT_EQUAL E_LESS F_LESS E_AT_MOST F_AT_MOST E_GREATER F_GREATER E_AT_LEAST F_AT_LEAST p e ha hc hk s m _ below hf ((Spec.applies_iff_loose hf).mp happ).1 ⟨rfl, State.Warmed39.refl s, rfl⟩ trivial
  refine ⟨n, _, h1, h2, h3, hpost _ _ _ _ _ _ ⟨Cond.after_iff.mpr rfl, Cond.after_iff.mpr (eq_i res_at (Term.int_eval (1)) rfl), trivial⟩ ⟨hq.1, hq.2.1, (hq.2.2.sift fun y hy => Or.inr (N y hy)).mono (by decide) (by decide)⟩⟩
theorem main_1_1 : Claimed_1_1 := comes_1 fun _ _ _ _ _ _ h hF => ⟨h.1, hF⟩
theorem main_1_2 : Claimed_1_2 := comes_1 fun _ _ _ _ _ _ h hF => ⟨h.2.1, hF⟩
end Jvm.Pilot.@@N@@
namespace Jvm.Pilot.@@N@@
open Jvm Jvm.ClassFile Sem Op Lib Jvm.Free Jvm.Stand Jvm.Pilot.@@N@@.Jvm.D
/-! MADE BY PROGRAM (witnessworld.py) out of the Statement's table words and the real class files: 13 classes; the members and pool entries that the words name. The judged class is class 1, her method 1. -/
namespace start1
open Jvm.ClassFile
def u (s : String) : CpInfo := .utf8 (stringToUtf16 s)
/-- a pool by its gaps: so many unusable entries, then the entry; so many at the end -/
def gap : Nat → List CpInfo → List CpInfo
  | 0, r => r
  | n + 1, r => .unusable :: gap n r
def poolList (es : List (Nat × CpInfo)) (last : Nat) : List CpInfo := es.foldr (fun e r => gap e.1 (e.2 :: r)) (gap last [])
def pool (es : List (Nat × CpInfo)) (last : Nat) : Array CpInfo := ⟨poolList es last⟩
def fileOf (pool : Array CpInfo) (this : Nat) (attrs : Array Attribute := #[]) (ms : Array MethodInfo := #[]) (fl : Nat := 33) (sup : Nat := 0) (ifs : Array Nat := #[]) (fds : Array FieldInfo := #[]) : ClassFile where
  minorVersion := 0
  majorVersion := 65
  constantPool := pool
  accessFlags := fl
  thisClass := this
  superClass := sup
  interfaces := ifs
  fields := fds
  methods := ms
  attributes := attrs
def plain (name : String) (sup : Option ClassId) : Class where
  name := name
  kind := .ordinary
  loader := none
  accessFlags := 33
  super := sup
  interfaces := #[]
  cf := none
  fields := #[]
  methods := #[]
  instanceTypes := #[]
  staticTypes := #[]
  resolved := #[]
  callSites := []
  init := .initialized
  statics := none
  mirror := none

def pool0 : Array CpInfo := pool [(5, u "<init>"), (0, u "()V"), (1, .class_ 10), (1, u "java/lang/Object")] 113

def k0m0 : Method := { name := "<init>", desc := "()V", sig := { parameters := [], returnType := none }, accessFlags := 1, code := none }
/-- java/lang/Object -/
def k0 : Class := { plain "java/lang/Object" none with
  accessFlags := 33
  interfaces := #[]
  cf := some (fileOf pool0 8 #[] #[{ accessFlags := 1, nameIndex := 5, descriptorIndex := 6, attributes := #[] }] 33 0 #[] #[])
  fields := #[]
  methods := #[k0m0]
  instanceTypes := #[]
  staticTypes := #[]
  resolved := Array.replicate 124 none
  statics := none }

def pool1 : Array CpInfo := pool [(2, .class_ 4), (1, u "java/lang/Object"), (0, u "<init>"), (0, u "()V"), (0, .methodref 8 9), (0, .class_ 10), (0, .nameAndType 11 12), (0, u "java/lang/Math"), (0, u "min"), (0, u "(II)I"), (0, .methodref 8 14), (0, .nameAndType 15 12), (0, u "max"), (0, .fieldref 17 18), (0, .class_ 19), (0, .nameAndType 20 21), (0, u "com/example/unraveling/unraveling/query/ValueTest$Operator"), (0, u "EQUAL"), (0, u "Lcom/example/unraveling/unraveling/query/ValueTest$Operator;"), (0, .methodref 23 24), (0, .class_ 25), (0, .nameAndType 26 27), (0, u "com/example/unraveling/unraveling/query/OperatorHoldsPinLaw"), (0, u "ok"), (0, u "(Lcom/example/unraveling/unraveling/query/ValueTest$Operator;III)Z"), (0, .fieldref 17 29), (0, .nameAndType 30 21), (0, u "NOT_EQUAL"), (0, .fieldref 17 32), (0, .nameAndType 33 21), (0, u "LESS"), (0, .fieldref 17 35), (0, .nameAndType 36 21), (0, u "AT_MOST"), (0, .fieldref 17 38), (0, .nameAndType 39 21), (0, u "GREATER"), (0, .fieldref 17 41), (0, .nameAndType 42 21), (0, u "AT_LEAST"), (0, .methodref 17 44), (0, .nameAndType 45 46), (0, u "holds"), (0, u "(I)Z"), (2, u "law")] 7

def k1m0 : Method := { name := "<init>", desc := "()V", sig := { parameters := [], returnType := none }, accessFlags := 2, code := none }
def k1c1 : Code := { maxStack := 4, maxLocals := 3, code := code, exceptionTable := #[], attributes := #[] }
def k1m1 : Method := { name := "law", desc := "(I)Z", sig := { parameters := [.int], returnType := some .boolean }, accessFlags := 9, code := some k1c1 }
def k1c2 : Code := { maxStack := 3, maxLocals := 4, code := method_3_code, exceptionTable := #[], attributes := #[] }
def k1m2 : Method := { name := "ok", desc := "(Lcom/example/unraveling/unraveling/query/ValueTest$Operator;III)Z", sig := { parameters := [(.object "com/example/unraveling/unraveling/query/ValueTest$Operator"), .int, .int, .int], returnType := some .boolean }, accessFlags := 10, code := some k1c2 }
/-- com/example/unraveling/unraveling/query/OperatorHoldsPinLaw -/
def k1 : Class := { plain "com/example/unraveling/unraveling/query/OperatorHoldsPinLaw" (some 0) with
  accessFlags := 49
  interfaces := #[]
  cf := some (fileOf pool1 23 #[] #[{ accessFlags := 2, nameIndex := 5, descriptorIndex := 6, attributes := #[] }, { accessFlags := 9, nameIndex := 49, descriptorIndex := 46, attributes := #[] }, { accessFlags := 10, nameIndex := 26, descriptorIndex := 27, attributes := #[] }] 49 2 #[] #[])
  fields := #[]
  methods := #[k1m0, k1m1, k1m2]
  instanceTypes := #[]
  staticTypes := #[]
  resolved := Array.replicate 57 none
  statics := none }

def pool2 : Array CpInfo := pool [(1, .class_ 2), (0, u "java/lang/Math"), (1, .class_ 6), (1, u "java/lang/Object"), (0, u "<init>"), (0, u "()V"), (89, .class_ 100), (1, u "java/lang/Math$RandomNumberGeneratorHolder"), (71, u "negativeZeroFloatBits"), (0, u "J"), (2, u "negativeZeroDoubleBits"), (21, u "max"), (2, u "min"), (43, u "$assertionsDisabled"), (0, u "Z"), (88, u "(II)I"), (2, u "twoToTheDoubleScaleDown"), (0, u "D"), (4, u "twoToTheDoubleScaleUp"), (9, u "E"), (3, u "PI"), (2, u "TAU"), (2, u "DEGREES_TO_RADIANS"), (0, u "RADIANS_TO_DEGREES")] 94

def k2m0 : Method := { name := "<init>", desc := "()V", sig := { parameters := [], returnType := none }, accessFlags := 2, code := none }
def k2c1 : Code := { maxStack := 2, maxLocals := 2, code := jdk_29_method_65_code, exceptionTable := #[], attributes := #[] }
def k2m1 : Method := { name := "max", desc := "(II)I", sig := { parameters := [.int, .int], returnType := some .int }, accessFlags := 9, code := some k2c1 }
def k2c2 : Code := { maxStack := 2, maxLocals := 2, code := jdk_29_method_69_code, exceptionTable := #[], attributes := #[] }
def k2m2 : Method := { name := "min", desc := "(II)I", sig := { parameters := [.int, .int], returnType := some .int }, accessFlags := 9, code := some k2c2 }
/-- java/lang/Math -/
def k2 : Class := { plain "java/lang/Math" (some 0) with
  accessFlags := 49
  interfaces := #[]
  cf := some (fileOf pool2 1 #[.nestMembers #[98]] #[{ accessFlags := 2, nameIndex := 7, descriptorIndex := 8, attributes := #[] }, { accessFlags := 9, nameIndex := 198, descriptorIndex := 335, attributes := #[] }, { accessFlags := 9, nameIndex := 201, descriptorIndex := 335, attributes := #[] }] 49 4 #[] #[{ accessFlags := 25, nameIndex := 354, descriptorIndex := 339, attributes := #[] }, { accessFlags := 25, nameIndex := 358, descriptorIndex := 339, attributes := #[] }, { accessFlags := 25, nameIndex := 361, descriptorIndex := 339, attributes := #[] }, { accessFlags := 26, nameIndex := 364, descriptorIndex := 339, attributes := #[] }, { accessFlags := 26, nameIndex := 365, descriptorIndex := 339, attributes := #[] }, { accessFlags := 26, nameIndex := 172, descriptorIndex := 173, attributes := #[] }, { accessFlags := 26, nameIndex := 176, descriptorIndex := 173, attributes := #[] }, { accessFlags := 8, nameIndex := 344, descriptorIndex := 339, attributes := #[] }, { accessFlags := 8, nameIndex := 338, descriptorIndex := 339, attributes := #[] }, { accessFlags := 4120, nameIndex := 245, descriptorIndex := 246, attributes := #[] }])
  fields := #[{ name := "E", type := .double, accessFlags := 25, slot := 0, constantValue := 0 }, { name := "PI", type := .double, accessFlags := 25, slot := 1, constantValue := 0 }, { name := "TAU", type := .double, accessFlags := 25, slot := 2, constantValue := 0 }, { name := "DEGREES_TO_RADIANS", type := .double, accessFlags := 26, slot := 3, constantValue := 0 }, { name := "RADIANS_TO_DEGREES", type := .double, accessFlags := 26, slot := 4, constantValue := 0 }, { name := "negativeZeroFloatBits", type := .long, accessFlags := 26, slot := 5, constantValue := 0 }, { name := "negativeZeroDoubleBits", type := .long, accessFlags := 26, slot := 6, constantValue := 0 }, { name := "twoToTheDoubleScaleUp", type := .double, accessFlags := 8, slot := 7, constantValue := 0 }, { name := "twoToTheDoubleScaleDown", type := .double, accessFlags := 8, slot := 8, constantValue := 0 }, { name := "$assertionsDisabled", type := .boolean, accessFlags := 4120, slot := 9, constantValue := 0 }]
  methods := #[k2m0, k2m1, k2m2]
  instanceTypes := #[]
  staticTypes := #[.double, .double, .double, .double, .double, .long, .long, .double, .double, .boolean]
  resolved := Array.replicate 460 none
  statics := none }

def pool3 : Array CpInfo := pool [(1, .class_ 2), (0, u "java/lang/constant/Constable"), (0, .class_ 4), (0, u "java/lang/Object")] 6

/-- java/lang/constant/Constable -/
def k3 : Class := { plain "java/lang/constant/Constable" (some 0) with
  accessFlags := 1537
  interfaces := #[]
  cf := some (fileOf pool3 1 #[] #[] 1537 3 #[] #[])
  fields := #[]
  methods := #[]
  instanceTypes := #[]
  staticTypes := #[]
  resolved := Array.replicate 11 none
  statics := none }

def pool4 : Array CpInfo := pool [(1, .class_ 2), (0, u "java/lang/Comparable"), (0, .class_ 4), (0, u "java/lang/Object")] 7

/-- java/lang/Comparable -/
def k4 : Class := { plain "java/lang/Comparable" (some 0) with
  accessFlags := 1537
  interfaces := #[]
  cf := some (fileOf pool4 1 #[] #[] 1537 3 #[] #[])
  fields := #[]
  methods := #[]
  instanceTypes := #[]
  staticTypes := #[]
  resolved := Array.replicate 12 none
  statics := none }

def pool5 : Array CpInfo := pool [(1, .class_ 2), (0, u "java/io/Serializable"), (0, .class_ 4), (0, u "java/lang/Object")] 2

/-- java/io/Serializable -/
def k5 : Class := { plain "java/io/Serializable" (some 0) with
  accessFlags := 1537
  interfaces := #[]
  cf := some (fileOf pool5 1 #[] #[] 1537 3 #[] #[])
  fields := #[]
  methods := #[]
  instanceTypes := #[]
  staticTypes := #[]
  resolved := Array.replicate 7 none
  statics := none }

def pool6 : Array CpInfo := pool [(2, .class_ 4), (1, u "java/lang/Enum"), (0, u "name"), (0, u "Ljava/lang/String;"), (0, .fieldref 2 8), (0, .nameAndType 9 10), (0, u "ordinal"), (0, u "I"), (1, .class_ 14), (1, u "java/lang/Object"), (4, u "hash"), (86, .class_ 108), (1, u "java/lang/Enum$EnumDesc"), (2, .class_ 112), (0, u "java/lang/constant/Constable"), (0, .class_ 114), (0, u "java/lang/Comparable"), (0, .class_ 116), (0, u "java/io/Serializable"), (9, u "()I")] 77

def k6c0 : Code := { maxStack := 1, maxLocals := 1, code := jdk_37_method_2_code, exceptionTable := #[], attributes := #[] }
def k6m0 : Method := { name := "ordinal", desc := "()I", sig := { parameters := [], returnType := some .int }, accessFlags := 17, code := some k6c0 }
/-- java/lang/Enum -/
def k6 : Class := { plain "java/lang/Enum" (some 0) with
  accessFlags := 1057
  interfaces := #[3, 4, 5]
  cf := some (fileOf pool6 2 #[.nestMembers #[106]] #[{ accessFlags := 17, nameIndex := 9, descriptorIndex := 126, attributes := #[] }] 1057 12 #[111, 113, 115] #[{ accessFlags := 18, nameIndex := 5, descriptorIndex := 6, attributes := #[] }, { accessFlags := 18, nameIndex := 9, descriptorIndex := 10, attributes := #[] }, { accessFlags := 2, nameIndex := 19, descriptorIndex := 10, attributes := #[] }])
  fields := #[{ name := "name", type := (.object "java/lang/String"), accessFlags := 18, slot := 0, constantValue := 0 }, { name := "ordinal", type := .int, accessFlags := 18, slot := 1, constantValue := 0 }, { name := "hash", type := .int, accessFlags := 2, slot := 2, constantValue := 0 }]
  methods := #[k6m0]
  instanceTypes := #[(.object "java/lang/String"), .int, .int]
  staticTypes := #[]
  resolved := Array.replicate 204 none
  statics := none }

def pool7 : Array CpInfo := pool [(1, .class_ 2), (0, u "com/example/unraveling/unraveling/query/ValueTest$Operator"), (2, u "EQUAL"), (0, u "Lcom/example/unraveling/unraveling/query/ValueTest$Operator;"), (2, u "NOT_EQUAL"), (2, u "LESS"), (2, u "AT_MOST"), (2, u "GREATER"), (2, u "AT_LEAST"), (2, u "$VALUES"), (0, u "[Lcom/example/unraveling/unraveling/query/ValueTest$Operator;"), (6, .class_ 34), (1, u "java/lang/Enum"), (8, u "symbol"), (0, u "Ljava/lang/String;"), (0, .methodref 1 46), (0, .nameAndType 47 48), (0, u "ordinal"), (0, u "()I"), (38, u "holds"), (0, u "(I)Z"), (7, .class_ 97), (0, u "com/example/unraveling/unraveling/query/ValueTest")] 2

def k7c0 : Code := { maxStack := 4, maxLocals := 2, code := prog_106_method_5_code, exceptionTable := #[], attributes := #[] }
def k7m0 : Method := { name := "holds", desc := "(I)Z", sig := { parameters := [.int], returnType := some .boolean }, accessFlags := 0, code := some k7c0 }
/-- com/example/unraveling/unraveling/query/ValueTest$Operator -/
def k7 : Class := { plain "com/example/unraveling/unraveling/query/ValueTest$Operator" (some 6) with
  accessFlags := 16433
  interfaces := #[]
  cf := some (fileOf pool7 1 #[.nestHost 96] #[{ accessFlags := 0, nameIndex := 87, descriptorIndex := 88, attributes := #[] }] 16433 32 #[] #[{ accessFlags := 16409, nameIndex := 5, descriptorIndex := 6, attributes := #[] }, { accessFlags := 16409, nameIndex := 9, descriptorIndex := 6, attributes := #[] }, { accessFlags := 16409, nameIndex := 12, descriptorIndex := 6, attributes := #[] }, { accessFlags := 16409, nameIndex := 15, descriptorIndex := 6, attributes := #[] }, { accessFlags := 16409, nameIndex := 18, descriptorIndex := 6, attributes := #[] }, { accessFlags := 16409, nameIndex := 21, descriptorIndex := 6, attributes := #[] }, { accessFlags := 18, nameIndex := 43, descriptorIndex := 44, attributes := #[] }, { accessFlags := 4122, nameIndex := 24, descriptorIndex := 25, attributes := #[] }])
  fields := #[{ name := "EQUAL", type := (.object "com/example/unraveling/unraveling/query/ValueTest$Operator"), accessFlags := 16409, slot := 0, constantValue := 0 }, { name := "NOT_EQUAL", type := (.object "com/example/unraveling/unraveling/query/ValueTest$Operator"), accessFlags := 16409, slot := 1, constantValue := 0 }, { name := "LESS", type := (.object "com/example/unraveling/unraveling/query/ValueTest$Operator"), accessFlags := 16409, slot := 2, constantValue := 0 }, { name := "AT_MOST", type := (.object "com/example/unraveling/unraveling/query/ValueTest$Operator"), accessFlags := 16409, slot := 3, constantValue := 0 }, { name := "GREATER", type := (.object "com/example/unraveling/unraveling/query/ValueTest$Operator"), accessFlags := 16409, slot := 4, constantValue := 0 }, { name := "AT_LEAST", type := (.object "com/example/unraveling/unraveling/query/ValueTest$Operator"), accessFlags := 16409, slot := 5, constantValue := 0 }, { name := "symbol", type := (.object "java/lang/String"), accessFlags := 18, slot := 3, constantValue := 0 }, { name := "$VALUES", type := (.array (.object "com/example/unraveling/unraveling/query/ValueTest$Operator")), accessFlags := 4122, slot := 6, constantValue := 0 }]
  methods := #[k7m0]
  instanceTypes := #[(.object "java/lang/String"), .int, .int, (.object "java/lang/String")]
  staticTypes := #[(.object "com/example/unraveling/unraveling/query/ValueTest$Operator"), (.object "com/example/unraveling/unraveling/query/ValueTest$Operator"), (.object "com/example/unraveling/unraveling/query/ValueTest$Operator"), (.object "com/example/unraveling/unraveling/query/ValueTest$Operator"), (.object "com/example/unraveling/unraveling/query/ValueTest$Operator"), (.object "com/example/unraveling/unraveling/query/ValueTest$Operator"), (.array (.object "com/example/unraveling/unraveling/query/ValueTest$Operator"))]
  resolved := Array.replicate 100 none
  statics := some 0 }

def pool8 : Array CpInfo := pool [(1, u "java/lang/Cloneable"), (0, .class_ 1), (0, u "java/lang/Object"), (0, .class_ 3)] 3

/-- java/lang/Cloneable -/
def k8 : Class := { plain "java/lang/Cloneable" (some 0) with
  accessFlags := 1537
  interfaces := #[]
  cf := some (fileOf pool8 2 #[] #[] 1537 4 #[] #[])
  fields := #[]
  methods := #[]
  instanceTypes := #[]
  staticTypes := #[]
  resolved := Array.replicate 8 none
  statics := none }

/-- the primitive byte -/
def k9 : Class := { plain "byte" none with kind := .primitive 'B', accessFlags := 0x411 }
/-- [B -/
def k10 : Class := { plain "[B" (some 0) with kind := .array 9 .byte, interfaces := #[8, 5], accessFlags := 1041 }

/-- the primitive int -/
def k11 : Class := { plain "int" none with kind := .primitive 'I', accessFlags := 0x411 }
/-- [I -/
def k12 : Class := { plain "[I" (some 0) with kind := .array 11 .int, interfaces := #[8, 5], accessFlags := 1041 }

def heap : Heap := #[{ cls := 7, slots := #[.ref 1, .ref 2, .ref 3, .ref 4, .ref 5, .ref 6, .null], vm := .statics 7 },
  { cls := 7, slots := #[.null, .int 0, .int 0, .null], vm := .none },
  { cls := 7, slots := #[.null, .int 1, .int 0, .null], vm := .none },
  { cls := 7, slots := #[.null, .int 2, .int 0, .null], vm := .none },
  { cls := 7, slots := #[.null, .int 3, .int 0, .null], vm := .none },
  { cls := 7, slots := #[.null, .int 4, .int 0, .null], vm := .none },
  { cls := 7, slots := #[.null, .int 5, .int 0, .null], vm := .none }]
def classes : Array Class := #[k0, k1, k2, k3, k4, k5, k6, k7, k8, k9, k10, k11, k12]
def interned : List (Array UInt16 × Addr) := []
def slotsUsed : Nat := 31
def theMethod : MethodId := ⟨1, 1⟩
def args0 : Array Value := #[.int 5]
def aboutOver (below : List Frame) : State where
  vm := { classes := classes, interned := interned.toArray }
  heap := heap
  slotsUsed := slotsUsed
  threads := #[{ frames := .invoking theMethod args0 :: below }]
def below0 : List Frame := [.native { method := ⟨0, 0⟩, args := #[] }]
def about1 : State := aboutOver below0
def p0 : Program := .bare "" "" ""
def e0 : Env := launch0.env 0 0 0
theorem w_frames : about1.frames = Frame.invoking theMethod args0 :: below0 := rfl
set_option maxRecDepth 65536 in
theorem w_args : argsFit about1.vm theMethod args0 = true := by decide +kernel
set_option maxRecDepth 65536 in
theorem w_heap : heapFits about1 = true := by decide +kernel
set_option maxRecDepth 65536 in
theorem w_runnable : about1.curStatus? = some .runnable := by decide +kernel
set_option maxRecDepth 65536 in
theorem w_alone : about1.alone = true := by decide +kernel
set_option maxRecDepth 65536 in
theorem w_named : about1.methodNamed? x = some theMethod := by decide +kernel
set_option maxRecDepth 65536 in
theorem w_hears : about1.hears theMethod below0 = true := by decide +kernel
set_option maxRecDepth 65536 in
theorem w_ripe : about1.ripe theMethod args0 below0 = true := by decide +kernel
theorem w_running : about1.status = .running := rfl
set_option maxRecDepth 65536 in
theorem w_room : about1.hasRoom e0.platform room_1 = true :=
  launch0.hasRoom_least _ room_1 (by decide +kernel) (by decide +kernel) (by decide +kernel) (by decide +kernel) (by decide +kernel) (by decide +kernel)
theorem allAtoms_all (ts : List Jvm.Cond) (a : Array Jvm.Value) (st : Jvm.State) : (allAtoms ts).before a st = ts.all (fun c => c.before a st) := by
  induction ts with
  | nil => rfl
  | cons c t ih =>
    show (Jvm.Cond.and c (allAtoms t)).before a st = _
    rw [Jvm.Cond.before_and, ih, List.all_cons]
def words1 : List Jvm.Cond := Jvm.Cond.code x code maxLocals ret :: tables_1
/-- a 'code' word, met by the world's own term for the bytes: nothing is compared byte by byte -/
theorem code_word {y : MethodName} {bytes : ByteArray} {mx : Nat} {rt : Option FieldType} {a : Array Value} {s : State} {m : MethodId} {meth : Method} {c : Code} (h1 : s.methodNamed? y = some m) (h2 : s.vm.method? m = some meth) (h3 : meth.code = some c) (h4 : c.code = bytes)
    (h5 : (c.maxLocals == mx && c.exceptionTable.isEmpty && decide (c.maxStack ≤ mostOperands) && decide (meth.sig.returnType = rt) && !meth.locks && decide (parseMethodDescriptor y.desc = some meth.sig)) = true) : (Jvm.Cond.code y bytes mx rt).before a s = true := by
  simp only [Bool.and_eq_true, beq_iff_eq, Bool.not_eq_true', decide_eq_true_eq] at h5
  obtain ⟨⟨⟨⟨⟨g1, g2⟩, g3⟩, g4⟩, g5⟩, g6⟩ := h5
  simp [Cond.before, Cond.holds, Cond.value, h1, h2, h3, h4, g1, g2, g3, g4, g5, g6]
def isCode : Jvm.Cond → Bool
  | .code _ _ _ _ => true
  | _ => false
theorem all_split {L : List Jvm.Cond} {P : Jvm.Cond → Bool} (h1 : L.all (fun c => isCode c || P c) = true) (h2 : ∀ c ∈ L.filter isCode, P c = true) : L.all P = true := by
  refine List.all_eq_true.mpr fun c hc => ?_
  have h := List.all_eq_true.mp h1 c hc
  rcases Bool.eq_false_or_eq_true (isCode c) with hi | hi
  · exact h2 c (List.mem_filter.mpr ⟨hc, hi⟩)
  · simpa [hi] using h
set_option maxRecDepth 65536 in
theorem w_c0 : (Jvm.Cond.code x code maxLocals ret).before args0 about1 = true := code_word (m := ⟨1, 1⟩) (meth := k1m1) (c := k1c1) (by decide +kernel) rfl rfl rfl (by decide +kernel)
set_option maxRecDepth 65536 in
theorem w_c1 : (Jvm.Cond.code ({ cls := "java/lang/Math", name := "min", desc := "(II)I" } : Jvm.MethodName) jdk_29_method_69_code (2 : Nat) (Option.some Jvm.ClassFile.FieldType.int)).before args0 about1 = true := code_word (m := ⟨2, 2⟩) (meth := k2m2) (c := k2c2) (by decide +kernel) rfl rfl rfl (by decide +kernel)
set_option maxRecDepth 65536 in
theorem w_c2 : (Jvm.Cond.code ({ cls := "java/lang/Math", name := "max", desc := "(II)I" } : Jvm.MethodName) jdk_29_method_65_code (2 : Nat) (Option.some Jvm.ClassFile.FieldType.int)).before args0 about1 = true := code_word (m := ⟨2, 1⟩) (meth := k2m1) (c := k2c1) (by decide +kernel) rfl rfl rfl (by decide +kernel)
set_option maxRecDepth 65536 in
theorem w_c3 : (Jvm.Cond.code ({ cls := "com/example/unraveling/unraveling/query/OperatorHoldsPinLaw", name := "ok", desc := "(Lcom/example/unraveling/unraveling/query/ValueTest$Operator;III)Z" } : Jvm.MethodName) method_3_code (4 : Nat) (Option.some Jvm.ClassFile.FieldType.boolean)).before args0 about1 = true := code_word (m := ⟨1, 2⟩) (meth := k1m2) (c := k1c2) (by decide +kernel) rfl rfl rfl (by decide +kernel)
set_option maxRecDepth 65536 in
theorem w_c4 : (Jvm.Cond.code ({ cls := "com/example/unraveling/unraveling/query/ValueTest$Operator", name := "holds", desc := "(I)Z" } : Jvm.MethodName) prog_106_method_5_code (2 : Nat) (Option.some Jvm.ClassFile.FieldType.boolean)).before args0 about1 = true := code_word (m := ⟨7, 0⟩) (meth := k7m0) (c := k7c0) (by decide +kernel) rfl rfl rfl (by decide +kernel)
set_option maxRecDepth 65536 in
theorem w_c5 : (Jvm.Cond.code ({ cls := "java/lang/Enum", name := "ordinal", desc := "()I" } : Jvm.MethodName) jdk_37_method_2_code (1 : Nat) (Option.some Jvm.ClassFile.FieldType.int)).before args0 about1 = true := code_word (m := ⟨6, 0⟩) (meth := k6m0) (c := k6c0) (by decide +kernel) rfl rfl rfl (by decide +kernel)
def codes1 : List Jvm.Cond := [Jvm.Cond.code x code maxLocals ret, Jvm.Cond.code ({ cls := "java/lang/Math", name := "min", desc := "(II)I" } : Jvm.MethodName) jdk_29_method_69_code (2 : Nat) (Option.some Jvm.ClassFile.FieldType.int), Jvm.Cond.code ({ cls := "java/lang/Math", name := "max", desc := "(II)I" } : Jvm.MethodName) jdk_29_method_65_code (2 : Nat) (Option.some Jvm.ClassFile.FieldType.int), Jvm.Cond.code ({ cls := "com/example/unraveling/unraveling/query/OperatorHoldsPinLaw", name := "ok", desc := "(Lcom/example/unraveling/unraveling/query/ValueTest$Operator;III)Z" } : Jvm.MethodName) method_3_code (4 : Nat) (Option.some Jvm.ClassFile.FieldType.boolean), Jvm.Cond.code ({ cls := "com/example/unraveling/unraveling/query/ValueTest$Operator", name := "holds", desc := "(I)Z" } : Jvm.MethodName) prog_106_method_5_code (2 : Nat) (Option.some Jvm.ClassFile.FieldType.boolean), Jvm.Cond.code ({ cls := "java/lang/Enum", name := "ordinal", desc := "()I" } : Jvm.MethodName) jdk_37_method_2_code (1 : Nat) (Option.some Jvm.ClassFile.FieldType.int)]
set_option maxRecDepth 65536 in
theorem codes_eq : words1.filter isCode = codes1 := rfl
theorem w_codes : ∀ c ∈ words1.filter isCode, c.before args0 about1 = true := by
  rw [codes_eq]
  intro c hc
  simp only [codes1, List.mem_cons, List.not_mem_nil, or_false] at hc
  rcases hc with rfl | rfl | rfl | rfl | rfl | rfl
  · exact w_c0
  · exact w_c1
  · exact w_c2
  · exact w_c3
  · exact w_c4
  · exact w_c5
set_option maxRecDepth 65536 in
theorem w_t1 : (words1.take 24).all (fun c => isCode c || c.before args0 about1) = true := by decide +kernel
set_option maxRecDepth 65536 in
theorem w_t2 : (words1.drop 24).all (fun c => isCode c || c.before args0 about1) = true := by decide +kernel
theorem w_tables : (allAtoms (Jvm.Cond.code x code maxLocals ret :: tables_1)).before args0 about1 = true := by
  rw [allAtoms_all]
  show words1.all (fun c => c.before args0 about1) = true
  refine all_split ?_ w_codes
  rw [← List.take_append_drop 24 words1, List.all_append, w_t1, w_t2]
  rfl
set_option maxRecDepth 65536 in
theorem w_case : (Jvm.Cond.and given_1 narrow_1).before args0 about1 = true := by decide +kernel
theorem w_applies : (headSpec (Jvm.Cond.code x code maxLocals ret :: tables_1) room_1).applies x e0.platform about1 = true :=
  (Spec.applies_iff w_frames).mpr ⟨w_running, w_runnable, w_alone, w_named, w_hears, w_ripe, w_room, w_tables⟩
theorem atStart : AtStart classFile x code maxLocals ret World_1 tables_1 room_1 Calls_1 rest_1 Pre_1 launch0 p0 e0 about1 theMethod args0 below0 :=
  ⟨lists_1, trivial, launch0.admits_env _ _ _, launch0.least_env, fairChoices_fair.cas, fairChoices_fair.clock, w_frames, w_args, w_heap, w_applies, trivial, trivial, w_case⟩
end start1
theorem witness_1 : WitnessClaimed_1 := ⟨start1.p0, start1.e0, start1.about1, start1.theMethod, start1.args0, start1.below0, start1.atStart⟩
end Jvm.Pilot.@@N@@
