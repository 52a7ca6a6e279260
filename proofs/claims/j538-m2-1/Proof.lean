import JvmDerived
import JvmDerived.Pilot.@@N@@Statement
import JvmDerived.Pilot.@@N@@Code
set_option linter.unusedVariables false
set_option linter.unusedSimpArgs false
namespace Jvm.RoadKit
open Sem ClassFile Op Lib Jvm.Stand Jvm.Free Jvm.LawKit
section New
variable {p : Program} {l : Launch} {e : Env} {R : Room} {s : State} {m : MethodId} {args : Array Value} {below : List Frame} {meth : Method} {c : Code} {T : State} {locs : List Loc} {cells slots : Nat}
theorem retI (X : Stand p l e R s m args below meth c T locs cells slots) (hx : p.tables.exec = Jvm.exec) {pc : Nat} {Ls : Array Slot} {z : Int32} {rest : List Value} (hret : meth.sig.returnType = some .int) (hd : decode c.code pc = .ok (.ireturn, 1)) {fs : List Frame}
    (hl : ∀ (f : JFrame) (acts : List Action), f.method = m → f.locked = none → f.entered = [] → (doReturn e (T.setTop f) acts (some (.int z))).1 = T.setFrames fs) : Steps p.tables e below (T.setTop (mkF m pc Ls (.int z :: rest))) (T.setFrames fs) := by
  have hm' : T.vm.method? m = some meth := X.method'
  have hn : narrow .int (.int z) = .int z := rfl
  show Steps p.tables e below (T.setTop { method := m, pc := pc, locals := Ls, stack := _ :: rest, locked := none }) _
  jvm_step X.here [X.here.top, hx, hd, hm', hret, hn]
  first | (intro acts; rw [hl _ acts rfl rfl rfl]) | rw [hl _ _ rfl rfl rfl]
  exact Steps.refl _
theorem own_retJ (X : Stand p l e R s m args below meth c T locs cells slots) (hx : p.tables.exec = Jvm.exec) {pc : Nat} {Ls : Array Slot} {z : Int64} {rest : List Value} (hret : meth.sig.returnType = some .long) (hd : decode c.code pc = .ok (.lreturn, 1)) {fs : List Frame}
    (hl : ∀ (f : JFrame) (acts : List Action), f.method = m → f.locked = none → f.entered = [] → (doReturn e (T.setTop f) acts (some (.long z))).1 = T.setFrames fs) : Steps p.tables e below (T.setTop (mkF m pc Ls (.long z :: rest))) (T.setFrames fs) := by
  have hm' : T.vm.method? m = some meth := X.method'
  show Steps p.tables e below (T.setTop { method := m, pc := pc, locals := Ls, stack := _ :: rest, locked := none }) _
  jvm_step X.here [X.here.top, hx, hd, hm', hret, narrow]
  first | (intro acts; rw [hl _ acts rfl rfl rfl]) | rw [hl _ _ rfl rfl rfl]
  exact Steps.refl _
theorem own_retA (X : Stand p l e R s m args below meth c T locs cells slots) (hx : p.tables.exec = Jvm.exec) {pc : Nat} {Ls : Array Slot} {z : Addr} {rest : List Value} {ty : FieldType} (hret : meth.sig.returnType = some ty) (hty : ty.isReference = true) (hd : decode c.code pc = .ok (.areturn, 1)) {fs : List Frame}
    (hl : ∀ (f : JFrame) (acts : List Action), f.method = m → f.locked = none → f.entered = [] → (doReturn e (T.setTop f) acts (some (.ref z))).1 = T.setFrames fs) : Steps p.tables e below (T.setTop (mkF m pc Ls (.ref z :: rest))) (T.setFrames fs) := by
  have hm' : T.vm.method? m = some meth := X.method'
  show Steps p.tables e below (T.setTop { method := m, pc := pc, locals := Ls, stack := _ :: rest, locked := none }) _
  jvm_step X.here [X.here.top, hx, hd, hm', hret, hty, Value.isRef]
  first | (intro acts; rw [hl _ acts rfl rfl rfl]) | rw [hl _ _ rfl rfl rfl]
  exact Steps.refl _
end New
end Jvm.RoadKit
namespace Jvm.Pilot.@@N@@
open Jvm Jvm.ClassFile Sem Op Lib Jvm.Free Jvm.Stand Jvm.LawKit Jvm.RoadKit Bundle Jvm.Pilot.@@N@@.Jvm.D
/-- a body that leaves the heap as it is and returns w -/
def QV (w : Value) (h0 : Heap) (n0 : Nat) (v : Option Value) (h : Heap) (L : List Loc) : Prop := v = some w ∧ Fr n0 L ∧ h = h0
def QL (n0 : Nat) (v : Option Value) (h : Heap) (L : List Loc) : Prop := v = some (.int 1) ∧ Fr n0 L
def QR (Z : State) (a : Addr) (c : ClassId) (y0 y1 y2 : Int64) (h0 : Heap) (n0 : Nat) (v : Option Value) (h : Heap) (L : List Loc) : Prop := v = none ∧ Fr n0 L ∧ Keep h0 h [a] ∧ Arv Z h a c .long (3 : Int32) [(.long y0), (.long y1), (.long y2)] (.long (0 : Int64))
theorem d3_0 : decode jdk_29_method_65_code 0 = .ok (.iload_n 0, 1) := by decide +kernel
theorem d3_1 : decode jdk_29_method_65_code 1 = .ok (.iload_n 1, 1) := by decide +kernel
theorem d3_2 : decode jdk_29_method_65_code 2 = .ok (.if_icmp .lt 7, 3) := by decide +kernel
theorem d3_5 : decode jdk_29_method_65_code 5 = .ok (.iload_n 0, 1) := by decide +kernel
theorem d3_6 : decode jdk_29_method_65_code 6 = .ok (.goto 4, 3) := by decide +kernel
theorem d3_9 : decode jdk_29_method_65_code 9 = .ok (.iload_n 1, 1) := by decide +kernel
theorem d3_10 : decode jdk_29_method_65_code 10 = .ok (.ireturn, 1) := by decide +kernel
theorem ef_rm3 (m : MethodId) (x : Int32) (y : Int32) : entryFrame m #[(.int x), (.int y)] 2 = mkF m 0 #[.val (.int x), .val (.int y)] [] := by first | (simp [entryFrame, mkF, argsToLocals, Value.category]; done) | rfl
set_option maxRecDepth 65536 in
set_option maxHeartbeats 40000000 in
theorem rm3 (l : Launch) (Z : State) (a0 : Array Value) (hw : ∀ d ∈ tables_1, d.before a0 Z = true) (ws : List Jvm.Cond) (x : Int32) (y : Int32)  (h0 : Heap) (n0 : Nat)  :
    MetFree l (⟨"java/lang/Math", "max", "(II)I"⟩ : MethodName) (head1 (Jvm.Cond.code (⟨"java/lang/Math", "max", "(II)I"⟩ : MethodName) jdk_29_method_65_code 2 (some .int) :: ws) ({ frames := 0, cells := 0, slots := 0, locals := 0 } : Room)) (fun a_ U_ => a_ = #[(.int x), (.int y)] ∧ Z.Warmed39 U_.vm ∧ U_.heap = h0) (fun _ _ _ _ _ => True) (fun _ U_ o_ U'_ => ∃ v_ L_, o_ = .returned v_ ∧ QV (.int (if x < y then y else x)) h0 n0 v_ U'_.heap L_ ∧ FrameEnd U_ o_ U'_ L_ ({ frames := 0, cells := 0, slots := 0, locals := 0 } : Room).cells ({ frames := 0, cells := 0, slots := 0, locals := 0 } : Room).slots) := by
  refine MetFree.of_bodySF (Jvm.Free.JP.mathPlain rfl (by decide +kernel)) hisR ?_
  intro p e s m args below meth c s₁ Bd hml0 hP hK
  obtain ⟨rfl, hZ, hh⟩ := hP
  have hx := Bd.exec
  have hby := Bd.bytes
  have hml : c.maxLocals = 2 := hml0
  have hown : s.vm.findClass "java/lang/Math" = some m.cls := findClass_of_methodNamed Bd.named
  have hnm := (name_of_methodNamed Bd.named Bd.method).1
  have X0 : Stand p l e ({ frames := 0, cells := 0, slots := 0, locals := 0 } : Room) s m #[(.int x), (.int y)] below meth c s₁ [] 0 0 := Stand.of_body Bd
  have e0 : s₁.heap = h0 := by rw [← hh, Bd.state]; rfl
  have N0 := Fr.nil n0
  have k0 : ∀ tg, Steps p.tables e below (s₁.setTop (mkF m 0 #[.val (.int x), .val (.int y)] [])) tg → Steps p.tables e below (s₁.setTop (entryFrame m #[(.int x), (.int y)] 2)) tg := fun tg k => castTop (ef_rm3 m x y) k
  have k1 : ∀ tg, Steps p.tables e below (s₁.setTop (mkF m 2 #[.val (.int x), .val (.int y)] [(.int y), (.int x)])) tg → Steps p.tables e below (s₁.setTop (entryFrame m #[(.int x), (.int y)] 2)) tg := by
    intro tg kt
    refine k0 tg ?_
    show Steps p.tables e below (s₁.setTop (mkF m 0 #[.val (.int x), .val (.int y)] [])) _
    refine XS.iloadN X0.here hx rfl (hb hby d3_0) rfl ?_
    show Steps p.tables e below (s₁.setTop (mkF m 1 #[.val (.int x), .val (.int y)] [(.int x)])) _
    refine XS.iloadN X0.here hx rfl (hb hby d3_1) rfl ?_
    show Steps p.tables e below (s₁.setTop (mkF m 2 #[.val (.int x), .val (.int y)] [(.int y), (.int x)])) _
    exact kt
  have k5 : ∀ tg, Steps p.tables e below (s₁.setTop (mkF m 10 #[.val (.int x), .val (.int y)] [(.int (if x < y then y else x))])) tg → Steps p.tables e below (s₁.setTop (entryFrame m #[(.int x), (.int y)] 2)) tg := by
    intro tg kt
    refine k1 tg ?_
    show Steps p.tables e below (s₁.setTop (mkF m 2 #[.val (.int x), .val (.int y)] [(.int y), (.int x)])) _
    by_cases hc2 : x < y
    · refine XS.icmpYes X0.here hx rfl (pc0 := 2) (pc' := 9) rfl (hb hby d3_2) rfl (tlt hc2).1 (by decide) (by decide) ?_
      show Steps p.tables e below (s₁.setTop (mkF m 9 #[.val (.int x), .val (.int y)] [])) _
      refine XS.iloadN X0.here hx rfl (hb hby d3_9) rfl ?_
      show Steps p.tables e below (s₁.setTop (mkF m 10 #[.val (.int x), .val (.int y)] [(.int y)])) _
      repeat rw [if_pos hc2] at kt
      exact kt
    · refine XS.icmpNo X0.here hx rfl (hb hby d3_2) rfl (flt hc2).1 ?_
      show Steps p.tables e below (s₁.setTop (mkF m 5 #[.val (.int x), .val (.int y)] [])) _
      refine XS.iloadN X0.here hx rfl (hb hby d3_5) rfl ?_
      show Steps p.tables e below (s₁.setTop (mkF m 6 #[.val (.int x), .val (.int y)] [(.int x)])) _
      refine XS.goto X0.here hx rfl (pc0 := 6) (pc' := 10) rfl (hb hby d3_6) (by decide) (by decide) ?_
      show Steps p.tables e below (s₁.setTop (mkF m 10 #[.val (.int x), .val (.int y)] [(.int x)])) _
      repeat rw [if_neg hc2] at kt
      exact kt
  obtain ⟨z6, ez6⟩ : ∃ z : Int32, z = (if x < y then y else x) := ⟨_, rfl⟩
  have k7 : ∀ tg, Steps p.tables e below (s₁.setTop (mkF m 10 #[.val (.int x), .val (.int y)] [(.int z6)])) tg → Steps p.tables e below (s₁.setTop (entryFrame m #[(.int x), (.int y)] 2)) tg := by
    intro tg kt
    refine k5 tg ?_
    show Steps p.tables e below (s₁.setTop (mkF m 10 #[.val (.int x), .val (.int y)] [(.int (if x < y then y else x))])) _
    rw [← ez6]
    show Steps p.tables e below (s₁.setTop (mkF m 10 #[.val (.int x), .val (.int y)] [(.int z6)])) _
    exact kt
  obtain ⟨fs, hr, hrun, hended, hW, hsame⟩ := X0.leave (v := some (.int z6)) (fun h => by rw [Bd.returns] at h; cases h)
  refine ⟨_, _, k7 _ ?_, hrun, hended, _, _, rfl, ?_, ⟨_, rfl⟩, hW, hsame.mono (by decide) (by decide)⟩
  · exact retI X0 hx Bd.returns (hb hby d3_10) hr
  · show QV _ h0 n0 _ s₁.heap _
    exact ⟨by subst ez6; rfl, N0, e0⟩
theorem d4_0 : decode jdk_29_method_69_code 0 = .ok (.iload_n 0, 1) := by decide +kernel
theorem d4_1 : decode jdk_29_method_69_code 1 = .ok (.iload_n 1, 1) := by decide +kernel
theorem d4_2 : decode jdk_29_method_69_code 2 = .ok (.if_icmp .gt 7, 3) := by decide +kernel
theorem d4_5 : decode jdk_29_method_69_code 5 = .ok (.iload_n 0, 1) := by decide +kernel
theorem d4_6 : decode jdk_29_method_69_code 6 = .ok (.goto 4, 3) := by decide +kernel
theorem d4_9 : decode jdk_29_method_69_code 9 = .ok (.iload_n 1, 1) := by decide +kernel
theorem d4_10 : decode jdk_29_method_69_code 10 = .ok (.ireturn, 1) := by decide +kernel
theorem ef_rm4 (m : MethodId) (x : Int32) (y : Int32) : entryFrame m #[(.int x), (.int y)] 2 = mkF m 0 #[.val (.int x), .val (.int y)] [] := by first | (simp [entryFrame, mkF, argsToLocals, Value.category]; done) | rfl
set_option maxRecDepth 65536 in
set_option maxHeartbeats 40000000 in
theorem rm4 (l : Launch) (Z : State) (a0 : Array Value) (hw : ∀ d ∈ tables_1, d.before a0 Z = true) (ws : List Jvm.Cond) (x : Int32) (y : Int32)  (h0 : Heap) (n0 : Nat)  :
    MetFree l (⟨"java/lang/Math", "min", "(II)I"⟩ : MethodName) (head1 (Jvm.Cond.code (⟨"java/lang/Math", "min", "(II)I"⟩ : MethodName) jdk_29_method_69_code 2 (some .int) :: ws) ({ frames := 0, cells := 0, slots := 0, locals := 0 } : Room)) (fun a_ U_ => a_ = #[(.int x), (.int y)] ∧ Z.Warmed39 U_.vm ∧ U_.heap = h0) (fun _ _ _ _ _ => True) (fun _ U_ o_ U'_ => ∃ v_ L_, o_ = .returned v_ ∧ QV (.int (if y < x then y else x)) h0 n0 v_ U'_.heap L_ ∧ FrameEnd U_ o_ U'_ L_ ({ frames := 0, cells := 0, slots := 0, locals := 0 } : Room).cells ({ frames := 0, cells := 0, slots := 0, locals := 0 } : Room).slots) := by
  refine MetFree.of_bodySF (Jvm.Free.JP.mathPlain rfl (by decide +kernel)) hisR ?_
  intro p e s m args below meth c s₁ Bd hml0 hP hK
  obtain ⟨rfl, hZ, hh⟩ := hP
  have hx := Bd.exec
  have hby := Bd.bytes
  have hml : c.maxLocals = 2 := hml0
  have hown : s.vm.findClass "java/lang/Math" = some m.cls := findClass_of_methodNamed Bd.named
  have hnm := (name_of_methodNamed Bd.named Bd.method).1
  have X0 : Stand p l e ({ frames := 0, cells := 0, slots := 0, locals := 0 } : Room) s m #[(.int x), (.int y)] below meth c s₁ [] 0 0 := Stand.of_body Bd
  have e0 : s₁.heap = h0 := by rw [← hh, Bd.state]; rfl
  have N0 := Fr.nil n0
  have k0 : ∀ tg, Steps p.tables e below (s₁.setTop (mkF m 0 #[.val (.int x), .val (.int y)] [])) tg → Steps p.tables e below (s₁.setTop (entryFrame m #[(.int x), (.int y)] 2)) tg := fun tg k => castTop (ef_rm4 m x y) k
  have k1 : ∀ tg, Steps p.tables e below (s₁.setTop (mkF m 2 #[.val (.int x), .val (.int y)] [(.int y), (.int x)])) tg → Steps p.tables e below (s₁.setTop (entryFrame m #[(.int x), (.int y)] 2)) tg := by
    intro tg kt
    refine k0 tg ?_
    show Steps p.tables e below (s₁.setTop (mkF m 0 #[.val (.int x), .val (.int y)] [])) _
    refine XS.iloadN X0.here hx rfl (hb hby d4_0) rfl ?_
    show Steps p.tables e below (s₁.setTop (mkF m 1 #[.val (.int x), .val (.int y)] [(.int x)])) _
    refine XS.iloadN X0.here hx rfl (hb hby d4_1) rfl ?_
    show Steps p.tables e below (s₁.setTop (mkF m 2 #[.val (.int x), .val (.int y)] [(.int y), (.int x)])) _
    exact kt
  have k5 : ∀ tg, Steps p.tables e below (s₁.setTop (mkF m 10 #[.val (.int x), .val (.int y)] [(.int (if y < x then y else x))])) tg → Steps p.tables e below (s₁.setTop (entryFrame m #[(.int x), (.int y)] 2)) tg := by
    intro tg kt
    refine k1 tg ?_
    show Steps p.tables e below (s₁.setTop (mkF m 2 #[.val (.int x), .val (.int y)] [(.int y), (.int x)])) _
    by_cases hc2 : y < x
    · refine XS.icmpYes X0.here hx rfl (pc0 := 2) (pc' := 9) rfl (hb hby d4_2) rfl (tlt hc2).2.2.1 (by decide) (by decide) ?_
      show Steps p.tables e below (s₁.setTop (mkF m 9 #[.val (.int x), .val (.int y)] [])) _
      refine XS.iloadN X0.here hx rfl (hb hby d4_9) rfl ?_
      show Steps p.tables e below (s₁.setTop (mkF m 10 #[.val (.int x), .val (.int y)] [(.int y)])) _
      repeat rw [if_pos hc2] at kt
      exact kt
    · refine XS.icmpNo X0.here hx rfl (hb hby d4_2) rfl (flt hc2).2.2.1 ?_
      show Steps p.tables e below (s₁.setTop (mkF m 5 #[.val (.int x), .val (.int y)] [])) _
      refine XS.iloadN X0.here hx rfl (hb hby d4_5) rfl ?_
      show Steps p.tables e below (s₁.setTop (mkF m 6 #[.val (.int x), .val (.int y)] [(.int x)])) _
      refine XS.goto X0.here hx rfl (pc0 := 6) (pc' := 10) rfl (hb hby d4_6) (by decide) (by decide) ?_
      show Steps p.tables e below (s₁.setTop (mkF m 10 #[.val (.int x), .val (.int y)] [(.int x)])) _
      repeat rw [if_neg hc2] at kt
      exact kt
  obtain ⟨z6, ez6⟩ : ∃ z : Int32, z = (if y < x then y else x) := ⟨_, rfl⟩
  have k7 : ∀ tg, Steps p.tables e below (s₁.setTop (mkF m 10 #[.val (.int x), .val (.int y)] [(.int z6)])) tg → Steps p.tables e below (s₁.setTop (entryFrame m #[(.int x), (.int y)] 2)) tg := by
    intro tg kt
    refine k5 tg ?_
    show Steps p.tables e below (s₁.setTop (mkF m 10 #[.val (.int x), .val (.int y)] [(.int (if y < x then y else x))])) _
    rw [← ez6]
    show Steps p.tables e below (s₁.setTop (mkF m 10 #[.val (.int x), .val (.int y)] [(.int z6)])) _
    exact kt
  obtain ⟨fs, hr, hrun, hended, hW, hsame⟩ := X0.leave (v := some (.int z6)) (fun h => by rw [Bd.returns] at h; cases h)
  refine ⟨_, _, k7 _ ?_, hrun, hended, _, _, rfl, ?_, ⟨_, rfl⟩, hW, hsame.mono (by decide) (by decide)⟩
  · exact retI X0 hx Bd.returns (hb hby d4_10) hr
  · show QV _ h0 n0 _ s₁.heap _
    exact ⟨by subst ez6; rfl, N0, e0⟩
theorem d2_0 : decode method_2_code 0 = .ok (.bipush 64, 2) := by decide +kernel
theorem d2_2 : decode method_2_code 2 = .ok (.iload_n 2, 1) := by decide +kernel
theorem d2_3 : decode method_2_code 3 = .ok (.imul, 1) := by decide +kernel
theorem d2_4 : decode method_2_code 4 = .ok (.istore 7, 2) := by decide +kernel
theorem d2_6 : decode method_2_code 6 = .ok (.iload_n 3, 1) := by decide +kernel
theorem d2_7 : decode method_2_code 7 = .ok (.iload 7, 2) := by decide +kernel
theorem d2_9 : decode method_2_code 9 = .ok (.invokestatic 7, 3) := by decide +kernel
theorem d2_12 : decode method_2_code 12 = .ok (.iload 7, 2) := by decide +kernel
theorem d2_14 : decode method_2_code 14 = .ok (.isub, 1) := by decide +kernel
theorem d2_15 : decode method_2_code 15 = .ok (.istore 8, 2) := by decide +kernel
theorem d2_17 : decode method_2_code 17 = .ok (.iload_n 3, 1) := by decide +kernel
theorem d2_18 : decode method_2_code 18 = .ok (.iload 6, 2) := by decide +kernel
theorem d2_20 : decode method_2_code 20 = .ok (.iadd, 1) := by decide +kernel
theorem d2_21 : decode method_2_code 21 = .ok (.iload 7, 2) := by decide +kernel
theorem d2_23 : decode method_2_code 23 = .ok (.bipush 64, 2) := by decide +kernel
theorem d2_25 : decode method_2_code 25 = .ok (.iadd, 1) := by decide +kernel
theorem d2_26 : decode method_2_code 26 = .ok (.invokestatic 13, 3) := by decide +kernel
theorem d2_29 : decode method_2_code 29 = .ok (.iload 7, 2) := by decide +kernel
theorem d2_31 : decode method_2_code 31 = .ok (.isub, 1) := by decide +kernel
theorem d2_32 : decode method_2_code 32 = .ok (.istore 9, 2) := by decide +kernel
theorem d2_34 : decode method_2_code 34 = .ok (.iload 8, 2) := by decide +kernel
theorem d2_36 : decode method_2_code 36 = .ok (.iload 9, 2) := by decide +kernel
theorem d2_38 : decode method_2_code 38 = .ok (.if_icmp .lt 5, 3) := by decide +kernel
theorem d2_41 : decode method_2_code 41 = .ok (.lload_n 0, 1) := by decide +kernel
theorem d2_42 : decode method_2_code 42 = .ok (.lreturn, 1) := by decide +kernel
theorem d2_43 : decode method_2_code 43 = .ok (.iload 9, 2) := by decide +kernel
theorem d2_45 : decode method_2_code 45 = .ok (.iload 8, 2) := by decide +kernel
theorem d2_47 : decode method_2_code 47 = .ok (.isub, 1) := by decide +kernel
theorem d2_48 : decode method_2_code 48 = .ok (.istore 10, 2) := by decide +kernel
theorem d2_50 : decode method_2_code 50 = .ok (.lconst 1, 1) := by decide +kernel
theorem d2_51 : decode method_2_code 51 = .ok (.iload 10, 2) := by decide +kernel
theorem d2_53 : decode method_2_code 53 = .ok (.lshl, 1) := by decide +kernel
theorem d2_54 : decode method_2_code 54 = .ok (.lconst 1, 1) := by decide +kernel
theorem d2_55 : decode method_2_code 55 = .ok (.lsub, 1) := by decide +kernel
theorem d2_56 : decode method_2_code 56 = .ok (.iload 8, 2) := by decide +kernel
theorem d2_58 : decode method_2_code 58 = .ok (.lshl, 1) := by decide +kernel
theorem d2_59 : decode method_2_code 59 = .ok (.lstore 11, 2) := by decide +kernel
theorem d2_61 : decode method_2_code 61 = .ok (.iload 7, 2) := by decide +kernel
theorem d2_63 : decode method_2_code 63 = .ok (.iload_n 3, 1) := by decide +kernel
theorem d2_64 : decode method_2_code 64 = .ok (.isub, 1) := by decide +kernel
theorem d2_65 : decode method_2_code 65 = .ok (.istore 13, 2) := by decide +kernel
theorem d2_67 : decode method_2_code 67 = .ok (.iload 13, 2) := by decide +kernel
theorem d2_69 : decode method_2_code 69 = .ok (.ifCond .lt 13, 3) := by decide +kernel
theorem d2_72 : decode method_2_code 72 = .ok (.lload 4, 2) := by decide +kernel
theorem d2_74 : decode method_2_code 74 = .ok (.iload 13, 2) := by decide +kernel
theorem d2_76 : decode method_2_code 76 = .ok (.lushr, 1) := by decide +kernel
theorem d2_77 : decode method_2_code 77 = .ok (.lstore 14, 2) := by decide +kernel
theorem d2_79 : decode method_2_code 79 = .ok (.goto 11, 3) := by decide +kernel
theorem d2_82 : decode method_2_code 82 = .ok (.lload 4, 2) := by decide +kernel
theorem d2_84 : decode method_2_code 84 = .ok (.iload 13, 2) := by decide +kernel
theorem d2_86 : decode method_2_code 86 = .ok (.ineg, 1) := by decide +kernel
theorem d2_87 : decode method_2_code 87 = .ok (.lshl, 1) := by decide +kernel
theorem d2_88 : decode method_2_code 88 = .ok (.lstore 14, 2) := by decide +kernel
theorem d2_90 : decode method_2_code 90 = .ok (.lload_n 0, 1) := by decide +kernel
theorem d2_91 : decode method_2_code 91 = .ok (.lload 11, 2) := by decide +kernel
theorem d2_93 : decode method_2_code 93 = .ok (.ldc2_w 16, 3) := by decide +kernel
theorem d2_96 : decode method_2_code 96 = .ok (.lxor, 1) := by decide +kernel
theorem d2_97 : decode method_2_code 97 = .ok (.land, 1) := by decide +kernel
theorem d2_98 : decode method_2_code 98 = .ok (.lload 14, 2) := by decide +kernel
theorem d2_100 : decode method_2_code 100 = .ok (.lload 11, 2) := by decide +kernel
theorem d2_102 : decode method_2_code 102 = .ok (.land, 1) := by decide +kernel
theorem d2_103 : decode method_2_code 103 = .ok (.lor, 1) := by decide +kernel
theorem d2_104 : decode method_2_code 104 = .ok (.lreturn, 1) := by decide +kernel
theorem pn_2 : plainName "com/example/parley/parley/core/PackedBitsReplacePinLaw" = true := by first | (simp [plainName, overriddenIn]; done) | decide +kernel
theorem pd_0 : parseMethodDescriptor "(II)I" = some ⟨[.int, .int], some .int⟩ := by decide +kernel
theorem ef_rm2 (m : MethodId) (orig : Int64) (i : Int32) (pos : Int32) (val : Int64) (cnt : Int32) : entryFrame m #[(.long orig), (.int i), (.int pos), (.long val), (.int cnt)] 16 = mkF m 0 #[.val (.long orig), .second, .val (.int i), .val (.int pos), .val (.long val), .second, .val (.int cnt), .unset, .unset, .unset, .unset, .unset, .unset, .unset, .unset, .unset] [] := by first | (simp [entryFrame, mkF, argsToLocals, Value.category]; done) | rfl
def expF (orig : Int64) (i : Int32) (pos : Int32) (val : Int64) (cnt : Int32) : Int64 := (if ((if pos < ((64 : Int32) * i) then ((64 : Int32) * i) else pos) - ((64 : Int32) * i)) < ((if (((64 : Int32) * i) + (64 : Int32)) < (pos + cnt) then (((64 : Int32) * i) + (64 : Int32)) else (pos + cnt)) - ((64 : Int32) * i)) then ((orig &&& (((((1 : Int64) <<< ((((if (((64 : Int32) * i) + (64 : Int32)) < (pos + cnt) then (((64 : Int32) * i) + (64 : Int32)) else (pos + cnt)) - ((64 : Int32) * i)) - ((if pos < ((64 : Int32) * i) then ((64 : Int32) * i) else pos) - ((64 : Int32) * i))) &&& 0x3f).toInt64) - (1 : Int64)) <<< (((if pos < ((64 : Int32) * i) then ((64 : Int32) * i) else pos) - ((64 : Int32) * i)) &&& 0x3f).toInt64) ^^^ (-1 : Int64))) ||| ((if (((64 : Int32) * i) - pos) < (0 : Int32) then (val <<< ((-(((64 : Int32) * i) - pos)) &&& 0x3f).toInt64) else ((val.toUInt64 >>> ((((64 : Int32) * i) - pos) &&& 0x3f).toInt64.toUInt64).toInt64)) &&& ((((1 : Int64) <<< ((((if (((64 : Int32) * i) + (64 : Int32)) < (pos + cnt) then (((64 : Int32) * i) + (64 : Int32)) else (pos + cnt)) - ((64 : Int32) * i)) - ((if pos < ((64 : Int32) * i) then ((64 : Int32) * i) else pos) - ((64 : Int32) * i))) &&& 0x3f).toInt64) - (1 : Int64)) <<< (((if pos < ((64 : Int32) * i) then ((64 : Int32) * i) else pos) - ((64 : Int32) * i)) &&& 0x3f).toInt64))) else orig)
set_option maxRecDepth 65536 in
set_option maxHeartbeats 40000000 in
theorem rm2 (l : Launch) (Z : State) (a0 : Array Value) (hw : ∀ d ∈ tables_1, d.before a0 Z = true) (ws : List Jvm.Cond) (orig : Int64) (i : Int32) (pos : Int32) (val : Int64) (cnt : Int32)  (h0 : Heap) (n0 : Nat)  :
    MetFree l (⟨"com/example/parley/parley/core/PackedBitsReplacePinLaw", "expect", "(JIIJI)J"⟩ : MethodName) (head1 (Jvm.Cond.code (⟨"com/example/parley/parley/core/PackedBitsReplacePinLaw", "expect", "(JIIJI)J"⟩ : MethodName) method_2_code 16 (some .long) :: ws) ({ frames := 1, cells := 0, slots := 0, locals := 13 } : Room)) (fun a_ U_ => a_ = #[(.long orig), (.int i), (.int pos), (.long val), (.int cnt)] ∧ Z.Warmed39 U_.vm ∧ U_.heap = h0) (fun _ _ _ _ _ => True) (fun _ U_ o_ U'_ => ∃ v_ L_, o_ = .returned v_ ∧ QV (.long (expF orig i pos val cnt)) h0 n0 v_ U'_.heap L_ ∧ FrameEnd U_ o_ U'_ L_ ({ frames := 1, cells := 0, slots := 0, locals := 13 } : Room).cells ({ frames := 1, cells := 0, slots := 0, locals := 13 } : Room).slots) := by
  refine MetFree.of_bodySF (plainFor_of_name pn_2) hisR ?_
  intro p e s m args below meth c s₁ Bd hml0 hP hK
  obtain ⟨rfl, hZ, hh⟩ := hP
  have hx := Bd.exec
  have hby := Bd.bytes
  have hml : c.maxLocals = 16 := hml0
  have hown : s.vm.findClass "com/example/parley/parley/core/PackedBitsReplacePinLaw" = some m.cls := findClass_of_methodNamed Bd.named
  have hnm := (name_of_methodNamed Bd.named Bd.method).1
  have X0 : Stand p l e ({ frames := 1, cells := 0, slots := 0, locals := 13 } : Room) s m #[(.long orig), (.int i), (.int pos), (.long val), (.int cnt)] below meth c s₁ [] 0 0 := Stand.of_body Bd
  have e0 : s₁.heap = h0 := by rw [← hh, Bd.state]; rfl
  have N0 := Fr.nil n0
  have k0 : ∀ tg, Steps p.tables e below (s₁.setTop (mkF m 0 #[.val (.long orig), .second, .val (.int i), .val (.int pos), .val (.long val), .second, .val (.int cnt), .unset, .unset, .unset, .unset, .unset, .unset, .unset, .unset, .unset] [])) tg → Steps p.tables e below (s₁.setTop (entryFrame m #[(.long orig), (.int i), (.int pos), (.long val), (.int cnt)] 16)) tg := fun tg k => castTop (ef_rm2 m orig i pos val cnt) k
  obtain ⟨_, _, ⟨T1, L1, k1, n1⟩, -, X1, ⟨Lc1, hQ1, l1, y1, z1⟩, st1⟩ := Jvm.LawKit.callS X0 hx (y := (⟨"java/lang/Math", "max", "(II)I"⟩ : MethodName)) hown (mvT hZ (hw _ (List.mem_of_getElem? (i := 9) rfl))) (mvT hZ (hw _ (List.mem_of_getElem? (i := 10) rfl))) (mvT hZ (hw _ (List.mem_of_getElem? (i := 11) rfl))) (mvT hZ (hw _ (List.mem_of_getElem? (i := 12) rfl))) (by decide) (backOf (W := 0) (rm3 l Z a0 hw [] pos ((64 : Int32) * i)  h0 n0 ) hZ (hw _ (List.mem_of_getElem? (i := 12) rfl)) (hw _ (List.mem_of_getElem? (i := 11) rfl)) (by decide) (by decide)) (g := (mkF m 9 #[.val (.long orig), .second, .val (.int i), .val (.int pos), .val (.long val), .second, .val (.int cnt), .val (.int ((64 : Int32) * i)), .unset, .unset, .unset, .unset, .unset, .unset, .unset, .unset] [(.int ((64 : Int32) * i)), (.int pos)])) rfl (by rw [hml]; rfl) (argsL := [(.int pos), (.int ((64 : Int32) * i))]) (rest := []) (lenOf pd_0 rfl) rfl (by show 2 * 0 + _ ≤ _; exact Nat.le_of_eq rfl) (hb hby d2_9) (fun _ _ => ⟨rfl, e0, (by decide : 0 + 0 ≤ _), (by decide : 0 + 0 ≤ _)⟩)
  dsimp only [Pt.U, Pt.locs, Pt.cells, Pt.slots] at X1 l1 y1 z1 st1 hQ1
  subst l1 y1 z1
  obtain ⟨rfl, N1q, e1⟩ := hQ1
  have N1 := Fr.app N0 N1q
  obtain ⟨z2, ez2⟩ : ∃ z : Int32, z = (if pos < ((64 : Int32) * i) then ((64 : Int32) * i) else pos) := ⟨_, rfl⟩
  obtain ⟨_, _, ⟨T3, L3, k3, n3⟩, -, X3, ⟨Lc3, hQ3, l3, y3, z3⟩, st3⟩ := Jvm.LawKit.callS X1 hx (y := (⟨"java/lang/Math", "min", "(II)I"⟩ : MethodName)) hown (mvT hZ (hw _ (List.mem_of_getElem? (i := 13) rfl))) (mvT hZ (hw _ (List.mem_of_getElem? (i := 14) rfl))) (mvT hZ (hw _ (List.mem_of_getElem? (i := 11) rfl))) (mvT hZ (hw _ (List.mem_of_getElem? (i := 15) rfl))) (by decide) (backOf (W := 0) (rm4 l Z a0 hw [] (pos + cnt) (((64 : Int32) * i) + (64 : Int32))  h0 n0 ) hZ (hw _ (List.mem_of_getElem? (i := 15) rfl)) (hw _ (List.mem_of_getElem? (i := 11) rfl)) (by decide) (by decide)) (g := (mkF m 26 #[.val (.long orig), .second, .val (.int i), .val (.int pos), .val (.long val), .second, .val (.int cnt), .val (.int ((64 : Int32) * i)), .val (.int (z2 - ((64 : Int32) * i))), .unset, .unset, .unset, .unset, .unset, .unset, .unset] [(.int (((64 : Int32) * i) + (64 : Int32))), (.int (pos + cnt))])) rfl (by rw [hml]; rfl) (argsL := [(.int (pos + cnt)), (.int (((64 : Int32) * i) + (64 : Int32)))]) (rest := []) (lenOf pd_0 rfl) rfl (by show 2 * 0 + _ ≤ _; exact Nat.le_of_eq rfl) (hb hby d2_26) (fun _ _ => ⟨rfl, e1, (by decide : 0 + 0 ≤ _), (by decide : 0 + 0 ≤ _)⟩)
  dsimp only [Pt.U, Pt.locs, Pt.cells, Pt.slots] at X3 l3 y3 z3 st3 hQ3
  subst l3 y3 z3
  obtain ⟨rfl, N3q, e3⟩ := hQ3
  have N3 := Fr.app N1 N3q
  obtain ⟨z4, ez4⟩ : ∃ z : Int32, z = (if (((64 : Int32) * i) + (64 : Int32)) < (pos + cnt) then (((64 : Int32) * i) + (64 : Int32)) else (pos + cnt)) := ⟨_, rfl⟩
  have k5 : ∀ tg, Steps p.tables e below (T3.setTop (mkF m 38 #[.val (.long orig), .second, .val (.int i), .val (.int pos), .val (.long val), .second, .val (.int cnt), .val (.int ((64 : Int32) * i)), .val (.int (z2 - ((64 : Int32) * i))), .val (.int (z4 - ((64 : Int32) * i))), .unset, .unset, .unset, .unset, .unset, .unset] [(.int (z4 - ((64 : Int32) * i))), (.int (z2 - ((64 : Int32) * i)))])) tg → Steps p.tables e below (s₁.setTop (entryFrame m #[(.long orig), (.int i), (.int pos), (.long val), (.int cnt)] 16)) tg := by
    intro tg kt
    refine k0 tg ?_
    show Steps p.tables e below (s₁.setTop (mkF m 0 #[.val (.long orig), .second, .val (.int i), .val (.int pos), .val (.long val), .second, .val (.int cnt), .unset, .unset, .unset, .unset, .unset, .unset, .unset, .unset, .unset] [])) _
    refine XS.bipush X0.here hx rfl (hb hby d2_0) ?_
    show Steps p.tables e below (s₁.setTop (mkF m 2 #[.val (.long orig), .second, .val (.int i), .val (.int pos), .val (.long val), .second, .val (.int cnt), .unset, .unset, .unset, .unset, .unset, .unset, .unset, .unset, .unset] [(.int (64 : Int32))])) _
    refine XS.iloadN X0.here hx rfl (hb hby d2_2) rfl ?_
    show Steps p.tables e below (s₁.setTop (mkF m 3 #[.val (.long orig), .second, .val (.int i), .val (.int pos), .val (.long val), .second, .val (.int cnt), .unset, .unset, .unset, .unset, .unset, .unset, .unset, .unset, .unset] [(.int i), (.int (64 : Int32))])) _
    refine XS.imul X0.here hx rfl (hb hby d2_3) rfl ?_
    show Steps p.tables e below (s₁.setTop (mkF m 4 #[.val (.long orig), .second, .val (.int i), .val (.int pos), .val (.long val), .second, .val (.int cnt), .unset, .unset, .unset, .unset, .unset, .unset, .unset, .unset, .unset] [(.int ((64 : Int32) * i))])) _
    refine XS.istore X0.here hx rfl (hb hby d2_4) rfl (l' := #[.val (.long orig), .second, .val (.int i), .val (.int pos), .val (.long val), .second, .val (.int cnt), .val (.int ((64 : Int32) * i)), .unset, .unset, .unset, .unset, .unset, .unset, .unset, .unset]) rfl ?_
    show Steps p.tables e below (s₁.setTop (mkF m 6 #[.val (.long orig), .second, .val (.int i), .val (.int pos), .val (.long val), .second, .val (.int cnt), .val (.int ((64 : Int32) * i)), .unset, .unset, .unset, .unset, .unset, .unset, .unset, .unset] [])) _
    refine XS.iloadN X0.here hx rfl (hb hby d2_6) rfl ?_
    show Steps p.tables e below (s₁.setTop (mkF m 7 #[.val (.long orig), .second, .val (.int i), .val (.int pos), .val (.long val), .second, .val (.int cnt), .val (.int ((64 : Int32) * i)), .unset, .unset, .unset, .unset, .unset, .unset, .unset, .unset] [(.int pos)])) _
    refine XS.iload X0.here hx rfl (hb hby d2_7) rfl ?_
    show Steps p.tables e below (s₁.setTop (mkF m 9 #[.val (.long orig), .second, .val (.int i), .val (.int pos), .val (.long val), .second, .val (.int cnt), .val (.int ((64 : Int32) * i)), .unset, .unset, .unset, .unset, .unset, .unset, .unset, .unset] [(.int ((64 : Int32) * i)), (.int pos)])) _
    refine st1 _ ?_
    show Steps p.tables e below (T1.setTop (mkF m 12 #[.val (.long orig), .second, .val (.int i), .val (.int pos), .val (.long val), .second, .val (.int cnt), .val (.int ((64 : Int32) * i)), .unset, .unset, .unset, .unset, .unset, .unset, .unset, .unset] [(.int (if pos < ((64 : Int32) * i) then ((64 : Int32) * i) else pos))])) _
    rw [← ez2]
    show Steps p.tables e below (T1.setTop (mkF m 12 #[.val (.long orig), .second, .val (.int i), .val (.int pos), .val (.long val), .second, .val (.int cnt), .val (.int ((64 : Int32) * i)), .unset, .unset, .unset, .unset, .unset, .unset, .unset, .unset] [(.int z2)])) _
    refine XS.iload X1.here hx rfl (hb hby d2_12) rfl ?_
    show Steps p.tables e below (T1.setTop (mkF m 14 #[.val (.long orig), .second, .val (.int i), .val (.int pos), .val (.long val), .second, .val (.int cnt), .val (.int ((64 : Int32) * i)), .unset, .unset, .unset, .unset, .unset, .unset, .unset, .unset] [(.int ((64 : Int32) * i)), (.int z2)])) _
    refine XS.isub X1.here hx rfl (hb hby d2_14) rfl ?_
    show Steps p.tables e below (T1.setTop (mkF m 15 #[.val (.long orig), .second, .val (.int i), .val (.int pos), .val (.long val), .second, .val (.int cnt), .val (.int ((64 : Int32) * i)), .unset, .unset, .unset, .unset, .unset, .unset, .unset, .unset] [(.int (z2 - ((64 : Int32) * i)))])) _
    refine XS.istore X1.here hx rfl (hb hby d2_15) rfl (l' := #[.val (.long orig), .second, .val (.int i), .val (.int pos), .val (.long val), .second, .val (.int cnt), .val (.int ((64 : Int32) * i)), .val (.int (z2 - ((64 : Int32) * i))), .unset, .unset, .unset, .unset, .unset, .unset, .unset]) rfl ?_
    show Steps p.tables e below (T1.setTop (mkF m 17 #[.val (.long orig), .second, .val (.int i), .val (.int pos), .val (.long val), .second, .val (.int cnt), .val (.int ((64 : Int32) * i)), .val (.int (z2 - ((64 : Int32) * i))), .unset, .unset, .unset, .unset, .unset, .unset, .unset] [])) _
    refine XS.iloadN X1.here hx rfl (hb hby d2_17) rfl ?_
    show Steps p.tables e below (T1.setTop (mkF m 18 #[.val (.long orig), .second, .val (.int i), .val (.int pos), .val (.long val), .second, .val (.int cnt), .val (.int ((64 : Int32) * i)), .val (.int (z2 - ((64 : Int32) * i))), .unset, .unset, .unset, .unset, .unset, .unset, .unset] [(.int pos)])) _
    refine XS.iload X1.here hx rfl (hb hby d2_18) rfl ?_
    show Steps p.tables e below (T1.setTop (mkF m 20 #[.val (.long orig), .second, .val (.int i), .val (.int pos), .val (.long val), .second, .val (.int cnt), .val (.int ((64 : Int32) * i)), .val (.int (z2 - ((64 : Int32) * i))), .unset, .unset, .unset, .unset, .unset, .unset, .unset] [(.int cnt), (.int pos)])) _
    refine XS.iadd X1.here hx rfl (hb hby d2_20) rfl ?_
    show Steps p.tables e below (T1.setTop (mkF m 21 #[.val (.long orig), .second, .val (.int i), .val (.int pos), .val (.long val), .second, .val (.int cnt), .val (.int ((64 : Int32) * i)), .val (.int (z2 - ((64 : Int32) * i))), .unset, .unset, .unset, .unset, .unset, .unset, .unset] [(.int (pos + cnt))])) _
    refine XS.iload X1.here hx rfl (hb hby d2_21) rfl ?_
    show Steps p.tables e below (T1.setTop (mkF m 23 #[.val (.long orig), .second, .val (.int i), .val (.int pos), .val (.long val), .second, .val (.int cnt), .val (.int ((64 : Int32) * i)), .val (.int (z2 - ((64 : Int32) * i))), .unset, .unset, .unset, .unset, .unset, .unset, .unset] [(.int ((64 : Int32) * i)), (.int (pos + cnt))])) _
    refine XS.bipush X1.here hx rfl (hb hby d2_23) ?_
    show Steps p.tables e below (T1.setTop (mkF m 25 #[.val (.long orig), .second, .val (.int i), .val (.int pos), .val (.long val), .second, .val (.int cnt), .val (.int ((64 : Int32) * i)), .val (.int (z2 - ((64 : Int32) * i))), .unset, .unset, .unset, .unset, .unset, .unset, .unset] [(.int (64 : Int32)), (.int ((64 : Int32) * i)), (.int (pos + cnt))])) _
    refine XS.iadd X1.here hx rfl (hb hby d2_25) rfl ?_
    show Steps p.tables e below (T1.setTop (mkF m 26 #[.val (.long orig), .second, .val (.int i), .val (.int pos), .val (.long val), .second, .val (.int cnt), .val (.int ((64 : Int32) * i)), .val (.int (z2 - ((64 : Int32) * i))), .unset, .unset, .unset, .unset, .unset, .unset, .unset] [(.int (((64 : Int32) * i) + (64 : Int32))), (.int (pos + cnt))])) _
    refine st3 _ ?_
    show Steps p.tables e below (T3.setTop (mkF m 29 #[.val (.long orig), .second, .val (.int i), .val (.int pos), .val (.long val), .second, .val (.int cnt), .val (.int ((64 : Int32) * i)), .val (.int (z2 - ((64 : Int32) * i))), .unset, .unset, .unset, .unset, .unset, .unset, .unset] [(.int (if (((64 : Int32) * i) + (64 : Int32)) < (pos + cnt) then (((64 : Int32) * i) + (64 : Int32)) else (pos + cnt)))])) _
    rw [← ez4]
    show Steps p.tables e below (T3.setTop (mkF m 29 #[.val (.long orig), .second, .val (.int i), .val (.int pos), .val (.long val), .second, .val (.int cnt), .val (.int ((64 : Int32) * i)), .val (.int (z2 - ((64 : Int32) * i))), .unset, .unset, .unset, .unset, .unset, .unset, .unset] [(.int z4)])) _
    refine XS.iload X3.here hx rfl (hb hby d2_29) rfl ?_
    show Steps p.tables e below (T3.setTop (mkF m 31 #[.val (.long orig), .second, .val (.int i), .val (.int pos), .val (.long val), .second, .val (.int cnt), .val (.int ((64 : Int32) * i)), .val (.int (z2 - ((64 : Int32) * i))), .unset, .unset, .unset, .unset, .unset, .unset, .unset] [(.int ((64 : Int32) * i)), (.int z4)])) _
    refine XS.isub X3.here hx rfl (hb hby d2_31) rfl ?_
    show Steps p.tables e below (T3.setTop (mkF m 32 #[.val (.long orig), .second, .val (.int i), .val (.int pos), .val (.long val), .second, .val (.int cnt), .val (.int ((64 : Int32) * i)), .val (.int (z2 - ((64 : Int32) * i))), .unset, .unset, .unset, .unset, .unset, .unset, .unset] [(.int (z4 - ((64 : Int32) * i)))])) _
    refine XS.istore X3.here hx rfl (hb hby d2_32) rfl (l' := #[.val (.long orig), .second, .val (.int i), .val (.int pos), .val (.long val), .second, .val (.int cnt), .val (.int ((64 : Int32) * i)), .val (.int (z2 - ((64 : Int32) * i))), .val (.int (z4 - ((64 : Int32) * i))), .unset, .unset, .unset, .unset, .unset, .unset]) rfl ?_
    show Steps p.tables e below (T3.setTop (mkF m 34 #[.val (.long orig), .second, .val (.int i), .val (.int pos), .val (.long val), .second, .val (.int cnt), .val (.int ((64 : Int32) * i)), .val (.int (z2 - ((64 : Int32) * i))), .val (.int (z4 - ((64 : Int32) * i))), .unset, .unset, .unset, .unset, .unset, .unset] [])) _
    refine XS.iload X3.here hx rfl (hb hby d2_34) rfl ?_
    show Steps p.tables e below (T3.setTop (mkF m 36 #[.val (.long orig), .second, .val (.int i), .val (.int pos), .val (.long val), .second, .val (.int cnt), .val (.int ((64 : Int32) * i)), .val (.int (z2 - ((64 : Int32) * i))), .val (.int (z4 - ((64 : Int32) * i))), .unset, .unset, .unset, .unset, .unset, .unset] [(.int (z2 - ((64 : Int32) * i)))])) _
    refine XS.iload X3.here hx rfl (hb hby d2_36) rfl ?_
    show Steps p.tables e below (T3.setTop (mkF m 38 #[.val (.long orig), .second, .val (.int i), .val (.int pos), .val (.long val), .second, .val (.int cnt), .val (.int ((64 : Int32) * i)), .val (.int (z2 - ((64 : Int32) * i))), .val (.int (z4 - ((64 : Int32) * i))), .unset, .unset, .unset, .unset, .unset, .unset] [(.int (z4 - ((64 : Int32) * i))), (.int (z2 - ((64 : Int32) * i)))])) _
    exact kt
  by_cases hc6 : (z2 - ((64 : Int32) * i)) < (z4 - ((64 : Int32) * i))
  · obtain ⟨z7, ez7⟩ : ∃ z : Int32, z = ((z4 - ((64 : Int32) * i)) - (z2 - ((64 : Int32) * i))) := ⟨_, rfl⟩
    obtain ⟨z8, ez8⟩ : ∃ z : Int64, z = ((((1 : Int64) <<< (z7 &&& 0x3f).toInt64) - (1 : Int64)) <<< ((z2 - ((64 : Int32) * i)) &&& 0x3f).toInt64) := ⟨_, rfl⟩
    have k9 : ∀ tg, Steps p.tables e below (T3.setTop (mkF m 69 #[.val (.long orig), .second, .val (.int i), .val (.int pos), .val (.long val), .second, .val (.int cnt), .val (.int ((64 : Int32) * i)), .val (.int (z2 - ((64 : Int32) * i))), .val (.int (z4 - ((64 : Int32) * i))), .val (.int z7), .val (.long z8), .second, .val (.int (((64 : Int32) * i) - pos)), .unset, .unset] [(.int (((64 : Int32) * i) - pos))])) tg → Steps p.tables e below (s₁.setTop (entryFrame m #[(.long orig), (.int i), (.int pos), (.long val), (.int cnt)] 16)) tg := by
      intro tg kt
      refine k5 tg ?_
      refine XS.icmpYes X3.here hx rfl (pc0 := 38) (pc' := 43) rfl (hb hby d2_38) rfl (tlt hc6).1 (by decide) (by decide) ?_
      show Steps p.tables e below (T3.setTop (mkF m 43 #[.val (.long orig), .second, .val (.int i), .val (.int pos), .val (.long val), .second, .val (.int cnt), .val (.int ((64 : Int32) * i)), .val (.int (z2 - ((64 : Int32) * i))), .val (.int (z4 - ((64 : Int32) * i))), .unset, .unset, .unset, .unset, .unset, .unset] [])) _
      refine XS.iload X3.here hx rfl (hb hby d2_43) rfl ?_
      show Steps p.tables e below (T3.setTop (mkF m 45 #[.val (.long orig), .second, .val (.int i), .val (.int pos), .val (.long val), .second, .val (.int cnt), .val (.int ((64 : Int32) * i)), .val (.int (z2 - ((64 : Int32) * i))), .val (.int (z4 - ((64 : Int32) * i))), .unset, .unset, .unset, .unset, .unset, .unset] [(.int (z4 - ((64 : Int32) * i)))])) _
      refine XS.iload X3.here hx rfl (hb hby d2_45) rfl ?_
      show Steps p.tables e below (T3.setTop (mkF m 47 #[.val (.long orig), .second, .val (.int i), .val (.int pos), .val (.long val), .second, .val (.int cnt), .val (.int ((64 : Int32) * i)), .val (.int (z2 - ((64 : Int32) * i))), .val (.int (z4 - ((64 : Int32) * i))), .unset, .unset, .unset, .unset, .unset, .unset] [(.int (z2 - ((64 : Int32) * i))), (.int (z4 - ((64 : Int32) * i)))])) _
      refine XS.isub X3.here hx rfl (hb hby d2_47) rfl ?_
      show Steps p.tables e below (T3.setTop (mkF m 48 #[.val (.long orig), .second, .val (.int i), .val (.int pos), .val (.long val), .second, .val (.int cnt), .val (.int ((64 : Int32) * i)), .val (.int (z2 - ((64 : Int32) * i))), .val (.int (z4 - ((64 : Int32) * i))), .unset, .unset, .unset, .unset, .unset, .unset] [(.int ((z4 - ((64 : Int32) * i)) - (z2 - ((64 : Int32) * i))))])) _
      refine XS.istore X3.here hx rfl (hb hby d2_48) rfl (l' := #[.val (.long orig), .second, .val (.int i), .val (.int pos), .val (.long val), .second, .val (.int cnt), .val (.int ((64 : Int32) * i)), .val (.int (z2 - ((64 : Int32) * i))), .val (.int (z4 - ((64 : Int32) * i))), .val (.int ((z4 - ((64 : Int32) * i)) - (z2 - ((64 : Int32) * i)))), .unset, .unset, .unset, .unset, .unset]) rfl ?_
      show Steps p.tables e below (T3.setTop (mkF m 50 #[.val (.long orig), .second, .val (.int i), .val (.int pos), .val (.long val), .second, .val (.int cnt), .val (.int ((64 : Int32) * i)), .val (.int (z2 - ((64 : Int32) * i))), .val (.int (z4 - ((64 : Int32) * i))), .val (.int ((z4 - ((64 : Int32) * i)) - (z2 - ((64 : Int32) * i)))), .unset, .unset, .unset, .unset, .unset] [])) _
      rw [← ez7]
      show Steps p.tables e below (T3.setTop (mkF m 50 #[.val (.long orig), .second, .val (.int i), .val (.int pos), .val (.long val), .second, .val (.int cnt), .val (.int ((64 : Int32) * i)), .val (.int (z2 - ((64 : Int32) * i))), .val (.int (z4 - ((64 : Int32) * i))), .val (.int z7), .unset, .unset, .unset, .unset, .unset] [])) _
      refine XS.lconst X3.here hx rfl (hb hby d2_50) ?_
      show Steps p.tables e below (T3.setTop (mkF m 51 #[.val (.long orig), .second, .val (.int i), .val (.int pos), .val (.long val), .second, .val (.int cnt), .val (.int ((64 : Int32) * i)), .val (.int (z2 - ((64 : Int32) * i))), .val (.int (z4 - ((64 : Int32) * i))), .val (.int z7), .unset, .unset, .unset, .unset, .unset] [(.long (1 : Int64))])) _
      refine XS.iload X3.here hx rfl (hb hby d2_51) rfl ?_
      show Steps p.tables e below (T3.setTop (mkF m 53 #[.val (.long orig), .second, .val (.int i), .val (.int pos), .val (.long val), .second, .val (.int cnt), .val (.int ((64 : Int32) * i)), .val (.int (z2 - ((64 : Int32) * i))), .val (.int (z4 - ((64 : Int32) * i))), .val (.int z7), .unset, .unset, .unset, .unset, .unset] [(.int z7), (.long (1 : Int64))])) _
      refine XS.lshl X3.here hx rfl (hb hby d2_53) rfl ?_
      show Steps p.tables e below (T3.setTop (mkF m 54 #[.val (.long orig), .second, .val (.int i), .val (.int pos), .val (.long val), .second, .val (.int cnt), .val (.int ((64 : Int32) * i)), .val (.int (z2 - ((64 : Int32) * i))), .val (.int (z4 - ((64 : Int32) * i))), .val (.int z7), .unset, .unset, .unset, .unset, .unset] [(.long ((1 : Int64) <<< (z7 &&& 0x3f).toInt64))])) _
      refine XS.lconst X3.here hx rfl (hb hby d2_54) ?_
      show Steps p.tables e below (T3.setTop (mkF m 55 #[.val (.long orig), .second, .val (.int i), .val (.int pos), .val (.long val), .second, .val (.int cnt), .val (.int ((64 : Int32) * i)), .val (.int (z2 - ((64 : Int32) * i))), .val (.int (z4 - ((64 : Int32) * i))), .val (.int z7), .unset, .unset, .unset, .unset, .unset] [(.long (1 : Int64)), (.long ((1 : Int64) <<< (z7 &&& 0x3f).toInt64))])) _
      refine XS.lsub X3.here hx rfl (hb hby d2_55) rfl ?_
      show Steps p.tables e below (T3.setTop (mkF m 56 #[.val (.long orig), .second, .val (.int i), .val (.int pos), .val (.long val), .second, .val (.int cnt), .val (.int ((64 : Int32) * i)), .val (.int (z2 - ((64 : Int32) * i))), .val (.int (z4 - ((64 : Int32) * i))), .val (.int z7), .unset, .unset, .unset, .unset, .unset] [(.long (((1 : Int64) <<< (z7 &&& 0x3f).toInt64) - (1 : Int64)))])) _
      refine XS.iload X3.here hx rfl (hb hby d2_56) rfl ?_
      show Steps p.tables e below (T3.setTop (mkF m 58 #[.val (.long orig), .second, .val (.int i), .val (.int pos), .val (.long val), .second, .val (.int cnt), .val (.int ((64 : Int32) * i)), .val (.int (z2 - ((64 : Int32) * i))), .val (.int (z4 - ((64 : Int32) * i))), .val (.int z7), .unset, .unset, .unset, .unset, .unset] [(.int (z2 - ((64 : Int32) * i))), (.long (((1 : Int64) <<< (z7 &&& 0x3f).toInt64) - (1 : Int64)))])) _
      refine XS.lshl X3.here hx rfl (hb hby d2_58) rfl ?_
      show Steps p.tables e below (T3.setTop (mkF m 59 #[.val (.long orig), .second, .val (.int i), .val (.int pos), .val (.long val), .second, .val (.int cnt), .val (.int ((64 : Int32) * i)), .val (.int (z2 - ((64 : Int32) * i))), .val (.int (z4 - ((64 : Int32) * i))), .val (.int z7), .unset, .unset, .unset, .unset, .unset] [(.long ((((1 : Int64) <<< (z7 &&& 0x3f).toInt64) - (1 : Int64)) <<< ((z2 - ((64 : Int32) * i)) &&& 0x3f).toInt64))])) _
      refine XS.lstore X3.here hx rfl (hb hby d2_59) rfl (l' := #[.val (.long orig), .second, .val (.int i), .val (.int pos), .val (.long val), .second, .val (.int cnt), .val (.int ((64 : Int32) * i)), .val (.int (z2 - ((64 : Int32) * i))), .val (.int (z4 - ((64 : Int32) * i))), .val (.int z7), .val (.long ((((1 : Int64) <<< (z7 &&& 0x3f).toInt64) - (1 : Int64)) <<< ((z2 - ((64 : Int32) * i)) &&& 0x3f).toInt64)), .second, .unset, .unset, .unset]) rfl ?_
      show Steps p.tables e below (T3.setTop (mkF m 61 #[.val (.long orig), .second, .val (.int i), .val (.int pos), .val (.long val), .second, .val (.int cnt), .val (.int ((64 : Int32) * i)), .val (.int (z2 - ((64 : Int32) * i))), .val (.int (z4 - ((64 : Int32) * i))), .val (.int z7), .val (.long ((((1 : Int64) <<< (z7 &&& 0x3f).toInt64) - (1 : Int64)) <<< ((z2 - ((64 : Int32) * i)) &&& 0x3f).toInt64)), .second, .unset, .unset, .unset] [])) _
      rw [← ez8]
      show Steps p.tables e below (T3.setTop (mkF m 61 #[.val (.long orig), .second, .val (.int i), .val (.int pos), .val (.long val), .second, .val (.int cnt), .val (.int ((64 : Int32) * i)), .val (.int (z2 - ((64 : Int32) * i))), .val (.int (z4 - ((64 : Int32) * i))), .val (.int z7), .val (.long z8), .second, .unset, .unset, .unset] [])) _
      refine XS.iload X3.here hx rfl (hb hby d2_61) rfl ?_
      show Steps p.tables e below (T3.setTop (mkF m 63 #[.val (.long orig), .second, .val (.int i), .val (.int pos), .val (.long val), .second, .val (.int cnt), .val (.int ((64 : Int32) * i)), .val (.int (z2 - ((64 : Int32) * i))), .val (.int (z4 - ((64 : Int32) * i))), .val (.int z7), .val (.long z8), .second, .unset, .unset, .unset] [(.int ((64 : Int32) * i))])) _
      refine XS.iloadN X3.here hx rfl (hb hby d2_63) rfl ?_
      show Steps p.tables e below (T3.setTop (mkF m 64 #[.val (.long orig), .second, .val (.int i), .val (.int pos), .val (.long val), .second, .val (.int cnt), .val (.int ((64 : Int32) * i)), .val (.int (z2 - ((64 : Int32) * i))), .val (.int (z4 - ((64 : Int32) * i))), .val (.int z7), .val (.long z8), .second, .unset, .unset, .unset] [(.int pos), (.int ((64 : Int32) * i))])) _
      refine XS.isub X3.here hx rfl (hb hby d2_64) rfl ?_
      show Steps p.tables e below (T3.setTop (mkF m 65 #[.val (.long orig), .second, .val (.int i), .val (.int pos), .val (.long val), .second, .val (.int cnt), .val (.int ((64 : Int32) * i)), .val (.int (z2 - ((64 : Int32) * i))), .val (.int (z4 - ((64 : Int32) * i))), .val (.int z7), .val (.long z8), .second, .unset, .unset, .unset] [(.int (((64 : Int32) * i) - pos))])) _
      refine XS.istore X3.here hx rfl (hb hby d2_65) rfl (l' := #[.val (.long orig), .second, .val (.int i), .val (.int pos), .val (.long val), .second, .val (.int cnt), .val (.int ((64 : Int32) * i)), .val (.int (z2 - ((64 : Int32) * i))), .val (.int (z4 - ((64 : Int32) * i))), .val (.int z7), .val (.long z8), .second, .val (.int (((64 : Int32) * i) - pos)), .unset, .unset]) rfl ?_
      show Steps p.tables e below (T3.setTop (mkF m 67 #[.val (.long orig), .second, .val (.int i), .val (.int pos), .val (.long val), .second, .val (.int cnt), .val (.int ((64 : Int32) * i)), .val (.int (z2 - ((64 : Int32) * i))), .val (.int (z4 - ((64 : Int32) * i))), .val (.int z7), .val (.long z8), .second, .val (.int (((64 : Int32) * i) - pos)), .unset, .unset] [])) _
      refine XS.iload X3.here hx rfl (hb hby d2_67) rfl ?_
      show Steps p.tables e below (T3.setTop (mkF m 69 #[.val (.long orig), .second, .val (.int i), .val (.int pos), .val (.long val), .second, .val (.int cnt), .val (.int ((64 : Int32) * i)), .val (.int (z2 - ((64 : Int32) * i))), .val (.int (z4 - ((64 : Int32) * i))), .val (.int z7), .val (.long z8), .second, .val (.int (((64 : Int32) * i) - pos)), .unset, .unset] [(.int (((64 : Int32) * i) - pos))])) _
      exact kt
    have k13 : ∀ tg, Steps p.tables e below (T3.setTop (mkF m 90 #[.val (.long orig), .second, .val (.int i), .val (.int pos), .val (.long val), .second, .val (.int cnt), .val (.int ((64 : Int32) * i)), .val (.int (z2 - ((64 : Int32) * i))), .val (.int (z4 - ((64 : Int32) * i))), .val (.int z7), .val (.long z8), .second, .val (.int (((64 : Int32) * i) - pos)), .val (.long (if (((64 : Int32) * i) - pos) < (0 : Int32) then (val <<< ((-(((64 : Int32) * i) - pos)) &&& 0x3f).toInt64) else ((val.toUInt64 >>> ((((64 : Int32) * i) - pos) &&& 0x3f).toInt64.toUInt64).toInt64))), .second] [])) tg → Steps p.tables e below (s₁.setTop (entryFrame m #[(.long orig), (.int i), (.int pos), (.long val), (.int cnt)] 16)) tg := by
      intro tg kt
      refine k9 tg ?_
      show Steps p.tables e below (T3.setTop (mkF m 69 #[.val (.long orig), .second, .val (.int i), .val (.int pos), .val (.long val), .second, .val (.int cnt), .val (.int ((64 : Int32) * i)), .val (.int (z2 - ((64 : Int32) * i))), .val (.int (z4 - ((64 : Int32) * i))), .val (.int z7), .val (.long z8), .second, .val (.int (((64 : Int32) * i) - pos)), .unset, .unset] [(.int (((64 : Int32) * i) - pos))])) _
      by_cases hc10 : (((64 : Int32) * i) - pos) < (0 : Int32)
      · refine XS.ifYes X3.here hx rfl (pc0 := 69) (pc' := 82) rfl (hb hby d2_69) rfl ((if0 _ _).trans (tlt hc10).1) (by decide) (by decide) ?_
        show Steps p.tables e below (T3.setTop (mkF m 82 #[.val (.long orig), .second, .val (.int i), .val (.int pos), .val (.long val), .second, .val (.int cnt), .val (.int ((64 : Int32) * i)), .val (.int (z2 - ((64 : Int32) * i))), .val (.int (z4 - ((64 : Int32) * i))), .val (.int z7), .val (.long z8), .second, .val (.int (((64 : Int32) * i) - pos)), .unset, .unset] [])) _
        refine XS.lload X3.here hx rfl (hb hby d2_82) rfl ?_
        show Steps p.tables e below (T3.setTop (mkF m 84 #[.val (.long orig), .second, .val (.int i), .val (.int pos), .val (.long val), .second, .val (.int cnt), .val (.int ((64 : Int32) * i)), .val (.int (z2 - ((64 : Int32) * i))), .val (.int (z4 - ((64 : Int32) * i))), .val (.int z7), .val (.long z8), .second, .val (.int (((64 : Int32) * i) - pos)), .unset, .unset] [(.long val)])) _
        refine XS.iload X3.here hx rfl (hb hby d2_84) rfl ?_
        show Steps p.tables e below (T3.setTop (mkF m 86 #[.val (.long orig), .second, .val (.int i), .val (.int pos), .val (.long val), .second, .val (.int cnt), .val (.int ((64 : Int32) * i)), .val (.int (z2 - ((64 : Int32) * i))), .val (.int (z4 - ((64 : Int32) * i))), .val (.int z7), .val (.long z8), .second, .val (.int (((64 : Int32) * i) - pos)), .unset, .unset] [(.int (((64 : Int32) * i) - pos)), (.long val)])) _
        refine XS.ineg X3.here hx rfl (hb hby d2_86) rfl ?_
        show Steps p.tables e below (T3.setTop (mkF m 87 #[.val (.long orig), .second, .val (.int i), .val (.int pos), .val (.long val), .second, .val (.int cnt), .val (.int ((64 : Int32) * i)), .val (.int (z2 - ((64 : Int32) * i))), .val (.int (z4 - ((64 : Int32) * i))), .val (.int z7), .val (.long z8), .second, .val (.int (((64 : Int32) * i) - pos)), .unset, .unset] [(.int (-(((64 : Int32) * i) - pos))), (.long val)])) _
        refine XS.lshl X3.here hx rfl (hb hby d2_87) rfl ?_
        show Steps p.tables e below (T3.setTop (mkF m 88 #[.val (.long orig), .second, .val (.int i), .val (.int pos), .val (.long val), .second, .val (.int cnt), .val (.int ((64 : Int32) * i)), .val (.int (z2 - ((64 : Int32) * i))), .val (.int (z4 - ((64 : Int32) * i))), .val (.int z7), .val (.long z8), .second, .val (.int (((64 : Int32) * i) - pos)), .unset, .unset] [(.long (val <<< ((-(((64 : Int32) * i) - pos)) &&& 0x3f).toInt64))])) _
        refine XS.lstore X3.here hx rfl (hb hby d2_88) rfl (l' := #[.val (.long orig), .second, .val (.int i), .val (.int pos), .val (.long val), .second, .val (.int cnt), .val (.int ((64 : Int32) * i)), .val (.int (z2 - ((64 : Int32) * i))), .val (.int (z4 - ((64 : Int32) * i))), .val (.int z7), .val (.long z8), .second, .val (.int (((64 : Int32) * i) - pos)), .val (.long (val <<< ((-(((64 : Int32) * i) - pos)) &&& 0x3f).toInt64)), .second]) rfl ?_
        show Steps p.tables e below (T3.setTop (mkF m 90 #[.val (.long orig), .second, .val (.int i), .val (.int pos), .val (.long val), .second, .val (.int cnt), .val (.int ((64 : Int32) * i)), .val (.int (z2 - ((64 : Int32) * i))), .val (.int (z4 - ((64 : Int32) * i))), .val (.int z7), .val (.long z8), .second, .val (.int (((64 : Int32) * i) - pos)), .val (.long (val <<< ((-(((64 : Int32) * i) - pos)) &&& 0x3f).toInt64)), .second] [])) _
        repeat rw [if_pos hc10] at kt
        exact kt
      · refine XS.ifNo X3.here hx rfl (hb hby d2_69) rfl ((if0 _ _).trans (flt hc10).1) ?_
        show Steps p.tables e below (T3.setTop (mkF m 72 #[.val (.long orig), .second, .val (.int i), .val (.int pos), .val (.long val), .second, .val (.int cnt), .val (.int ((64 : Int32) * i)), .val (.int (z2 - ((64 : Int32) * i))), .val (.int (z4 - ((64 : Int32) * i))), .val (.int z7), .val (.long z8), .second, .val (.int (((64 : Int32) * i) - pos)), .unset, .unset] [])) _
        refine XS.lload X3.here hx rfl (hb hby d2_72) rfl ?_
        show Steps p.tables e below (T3.setTop (mkF m 74 #[.val (.long orig), .second, .val (.int i), .val (.int pos), .val (.long val), .second, .val (.int cnt), .val (.int ((64 : Int32) * i)), .val (.int (z2 - ((64 : Int32) * i))), .val (.int (z4 - ((64 : Int32) * i))), .val (.int z7), .val (.long z8), .second, .val (.int (((64 : Int32) * i) - pos)), .unset, .unset] [(.long val)])) _
        refine XS.iload X3.here hx rfl (hb hby d2_74) rfl ?_
        show Steps p.tables e below (T3.setTop (mkF m 76 #[.val (.long orig), .second, .val (.int i), .val (.int pos), .val (.long val), .second, .val (.int cnt), .val (.int ((64 : Int32) * i)), .val (.int (z2 - ((64 : Int32) * i))), .val (.int (z4 - ((64 : Int32) * i))), .val (.int z7), .val (.long z8), .second, .val (.int (((64 : Int32) * i) - pos)), .unset, .unset] [(.int (((64 : Int32) * i) - pos)), (.long val)])) _
        refine XS.lushr X3.here hx rfl (hb hby d2_76) rfl ?_
        show Steps p.tables e below (T3.setTop (mkF m 77 #[.val (.long orig), .second, .val (.int i), .val (.int pos), .val (.long val), .second, .val (.int cnt), .val (.int ((64 : Int32) * i)), .val (.int (z2 - ((64 : Int32) * i))), .val (.int (z4 - ((64 : Int32) * i))), .val (.int z7), .val (.long z8), .second, .val (.int (((64 : Int32) * i) - pos)), .unset, .unset] [(.long ((val.toUInt64 >>> ((((64 : Int32) * i) - pos) &&& 0x3f).toInt64.toUInt64).toInt64))])) _
        refine XS.lstore X3.here hx rfl (hb hby d2_77) rfl (l' := #[.val (.long orig), .second, .val (.int i), .val (.int pos), .val (.long val), .second, .val (.int cnt), .val (.int ((64 : Int32) * i)), .val (.int (z2 - ((64 : Int32) * i))), .val (.int (z4 - ((64 : Int32) * i))), .val (.int z7), .val (.long z8), .second, .val (.int (((64 : Int32) * i) - pos)), .val (.long ((val.toUInt64 >>> ((((64 : Int32) * i) - pos) &&& 0x3f).toInt64.toUInt64).toInt64)), .second]) rfl ?_
        show Steps p.tables e below (T3.setTop (mkF m 79 #[.val (.long orig), .second, .val (.int i), .val (.int pos), .val (.long val), .second, .val (.int cnt), .val (.int ((64 : Int32) * i)), .val (.int (z2 - ((64 : Int32) * i))), .val (.int (z4 - ((64 : Int32) * i))), .val (.int z7), .val (.long z8), .second, .val (.int (((64 : Int32) * i) - pos)), .val (.long ((val.toUInt64 >>> ((((64 : Int32) * i) - pos) &&& 0x3f).toInt64.toUInt64).toInt64)), .second] [])) _
        refine XS.goto X3.here hx rfl (pc0 := 79) (pc' := 90) rfl (hb hby d2_79) (by decide) (by decide) ?_
        show Steps p.tables e below (T3.setTop (mkF m 90 #[.val (.long orig), .second, .val (.int i), .val (.int pos), .val (.long val), .second, .val (.int cnt), .val (.int ((64 : Int32) * i)), .val (.int (z2 - ((64 : Int32) * i))), .val (.int (z4 - ((64 : Int32) * i))), .val (.int z7), .val (.long z8), .second, .val (.int (((64 : Int32) * i) - pos)), .val (.long ((val.toUInt64 >>> ((((64 : Int32) * i) - pos) &&& 0x3f).toInt64.toUInt64).toInt64)), .second] [])) _
        repeat rw [if_neg hc10] at kt
        exact kt
    obtain ⟨z14, ez14⟩ : ∃ z : Int64, z = (if (((64 : Int32) * i) - pos) < (0 : Int32) then (val <<< ((-(((64 : Int32) * i) - pos)) &&& 0x3f).toInt64) else ((val.toUInt64 >>> ((((64 : Int32) * i) - pos) &&& 0x3f).toInt64.toUInt64).toInt64)) := ⟨_, rfl⟩
    have k15 : ∀ tg, Steps p.tables e below (T3.setTop (mkF m 104 #[.val (.long orig), .second, .val (.int i), .val (.int pos), .val (.long val), .second, .val (.int cnt), .val (.int ((64 : Int32) * i)), .val (.int (z2 - ((64 : Int32) * i))), .val (.int (z4 - ((64 : Int32) * i))), .val (.int z7), .val (.long z8), .second, .val (.int (((64 : Int32) * i) - pos)), .val (.long z14), .second] [(.long ((orig &&& (z8 ^^^ (-1 : Int64))) ||| (z14 &&& z8)))])) tg → Steps p.tables e below (s₁.setTop (entryFrame m #[(.long orig), (.int i), (.int pos), (.long val), (.int cnt)] 16)) tg := by
      intro tg kt
      refine k13 tg ?_
      show Steps p.tables e below (T3.setTop (mkF m 90 #[.val (.long orig), .second, .val (.int i), .val (.int pos), .val (.long val), .second, .val (.int cnt), .val (.int ((64 : Int32) * i)), .val (.int (z2 - ((64 : Int32) * i))), .val (.int (z4 - ((64 : Int32) * i))), .val (.int z7), .val (.long z8), .second, .val (.int (((64 : Int32) * i) - pos)), .val (.long (if (((64 : Int32) * i) - pos) < (0 : Int32) then (val <<< ((-(((64 : Int32) * i) - pos)) &&& 0x3f).toInt64) else ((val.toUInt64 >>> ((((64 : Int32) * i) - pos) &&& 0x3f).toInt64.toUInt64).toInt64))), .second] [])) _
      rw [← ez14]
      show Steps p.tables e below (T3.setTop (mkF m 90 #[.val (.long orig), .second, .val (.int i), .val (.int pos), .val (.long val), .second, .val (.int cnt), .val (.int ((64 : Int32) * i)), .val (.int (z2 - ((64 : Int32) * i))), .val (.int (z4 - ((64 : Int32) * i))), .val (.int z7), .val (.long z8), .second, .val (.int (((64 : Int32) * i) - pos)), .val (.long z14), .second] [])) _
      refine XS.lloadN X3.here hx rfl (hb hby d2_90) rfl ?_
      show Steps p.tables e below (T3.setTop (mkF m 91 #[.val (.long orig), .second, .val (.int i), .val (.int pos), .val (.long val), .second, .val (.int cnt), .val (.int ((64 : Int32) * i)), .val (.int (z2 - ((64 : Int32) * i))), .val (.int (z4 - ((64 : Int32) * i))), .val (.int z7), .val (.long z8), .second, .val (.int (((64 : Int32) * i) - pos)), .val (.long z14), .second] [(.long orig)])) _
      refine XS.lload X3.here hx rfl (hb hby d2_91) rfl ?_
      show Steps p.tables e below (T3.setTop (mkF m 93 #[.val (.long orig), .second, .val (.int i), .val (.int pos), .val (.long val), .second, .val (.int cnt), .val (.int ((64 : Int32) * i)), .val (.int (z2 - ((64 : Int32) * i))), .val (.int (z4 - ((64 : Int32) * i))), .val (.int z7), .val (.long z8), .second, .val (.int (((64 : Int32) * i) - pos)), .val (.long z14), .second] [(.long z8), (.long orig)])) _
      refine X3.ldc2Long hx hown (mvT hZ (hw _ (List.mem_of_getElem? (i := 17) rfl))) (g := (mkF m 93 #[.val (.long orig), .second, .val (.int i), .val (.int pos), .val (.long val), .second, .val (.int cnt), .val (.int ((64 : Int32) * i)), .val (.int (z2 - ((64 : Int32) * i))), .val (.int (z4 - ((64 : Int32) * i))), .val (.int z7), .val (.long z8), .second, .val (.int (((64 : Int32) * i) - pos)), .val (.long z14), .second] [(.long z8), (.long orig)])) rfl (hb hby d2_93) _ ?_
      show Steps p.tables e below (T3.setTop (mkF m 96 #[.val (.long orig), .second, .val (.int i), .val (.int pos), .val (.long val), .second, .val (.int cnt), .val (.int ((64 : Int32) * i)), .val (.int (z2 - ((64 : Int32) * i))), .val (.int (z4 - ((64 : Int32) * i))), .val (.int z7), .val (.long z8), .second, .val (.int (((64 : Int32) * i) - pos)), .val (.long z14), .second] [(.long (-1 : Int64)), (.long z8), (.long orig)])) _
      refine XS.lxor X3.here hx rfl (hb hby d2_96) rfl ?_
      show Steps p.tables e below (T3.setTop (mkF m 97 #[.val (.long orig), .second, .val (.int i), .val (.int pos), .val (.long val), .second, .val (.int cnt), .val (.int ((64 : Int32) * i)), .val (.int (z2 - ((64 : Int32) * i))), .val (.int (z4 - ((64 : Int32) * i))), .val (.int z7), .val (.long z8), .second, .val (.int (((64 : Int32) * i) - pos)), .val (.long z14), .second] [(.long (z8 ^^^ (-1 : Int64))), (.long orig)])) _
      refine XS.land X3.here hx rfl (hb hby d2_97) rfl ?_
      show Steps p.tables e below (T3.setTop (mkF m 98 #[.val (.long orig), .second, .val (.int i), .val (.int pos), .val (.long val), .second, .val (.int cnt), .val (.int ((64 : Int32) * i)), .val (.int (z2 - ((64 : Int32) * i))), .val (.int (z4 - ((64 : Int32) * i))), .val (.int z7), .val (.long z8), .second, .val (.int (((64 : Int32) * i) - pos)), .val (.long z14), .second] [(.long (orig &&& (z8 ^^^ (-1 : Int64))))])) _
      refine XS.lload X3.here hx rfl (hb hby d2_98) rfl ?_
      show Steps p.tables e below (T3.setTop (mkF m 100 #[.val (.long orig), .second, .val (.int i), .val (.int pos), .val (.long val), .second, .val (.int cnt), .val (.int ((64 : Int32) * i)), .val (.int (z2 - ((64 : Int32) * i))), .val (.int (z4 - ((64 : Int32) * i))), .val (.int z7), .val (.long z8), .second, .val (.int (((64 : Int32) * i) - pos)), .val (.long z14), .second] [(.long z14), (.long (orig &&& (z8 ^^^ (-1 : Int64))))])) _
      refine XS.lload X3.here hx rfl (hb hby d2_100) rfl ?_
      show Steps p.tables e below (T3.setTop (mkF m 102 #[.val (.long orig), .second, .val (.int i), .val (.int pos), .val (.long val), .second, .val (.int cnt), .val (.int ((64 : Int32) * i)), .val (.int (z2 - ((64 : Int32) * i))), .val (.int (z4 - ((64 : Int32) * i))), .val (.int z7), .val (.long z8), .second, .val (.int (((64 : Int32) * i) - pos)), .val (.long z14), .second] [(.long z8), (.long z14), (.long (orig &&& (z8 ^^^ (-1 : Int64))))])) _
      refine XS.land X3.here hx rfl (hb hby d2_102) rfl ?_
      show Steps p.tables e below (T3.setTop (mkF m 103 #[.val (.long orig), .second, .val (.int i), .val (.int pos), .val (.long val), .second, .val (.int cnt), .val (.int ((64 : Int32) * i)), .val (.int (z2 - ((64 : Int32) * i))), .val (.int (z4 - ((64 : Int32) * i))), .val (.int z7), .val (.long z8), .second, .val (.int (((64 : Int32) * i) - pos)), .val (.long z14), .second] [(.long (z14 &&& z8)), (.long (orig &&& (z8 ^^^ (-1 : Int64))))])) _
      refine XS.lor X3.here hx rfl (hb hby d2_103) rfl ?_
      show Steps p.tables e below (T3.setTop (mkF m 104 #[.val (.long orig), .second, .val (.int i), .val (.int pos), .val (.long val), .second, .val (.int cnt), .val (.int ((64 : Int32) * i)), .val (.int (z2 - ((64 : Int32) * i))), .val (.int (z4 - ((64 : Int32) * i))), .val (.int z7), .val (.long z8), .second, .val (.int (((64 : Int32) * i) - pos)), .val (.long z14), .second] [(.long ((orig &&& (z8 ^^^ (-1 : Int64))) ||| (z14 &&& z8)))])) _
      exact kt
    obtain ⟨fs, hr, hrun, hended, hW, hsame⟩ := X3.leave (v := some (.long ((orig &&& (z8 ^^^ (-1 : Int64))) ||| (z14 &&& z8)))) (fun h => by rw [Bd.returns] at h; cases h)
    refine ⟨_, _, k15 _ ?_, hrun, hended, _, _, rfl, ?_, ⟨_, rfl⟩, hW, hsame.mono (by decide) (by decide)⟩
    · exact own_retJ X3 hx Bd.returns (hb hby d2_104) hr
    · show QV _ h0 n0 _ T3.heap _
      exact ⟨by show some (Value.long ((orig &&& (z8 ^^^ (-1 : Int64))) ||| (z14 &&& z8))) = some (Value.long (expF orig i pos val cnt)); subst ez2 ez4 ez7 ez8 ez14; unfold expF; rw [if_pos hc6], N3, e3⟩
  · have k16 : ∀ tg, Steps p.tables e below (T3.setTop (mkF m 42 #[.val (.long orig), .second, .val (.int i), .val (.int pos), .val (.long val), .second, .val (.int cnt), .val (.int ((64 : Int32) * i)), .val (.int (z2 - ((64 : Int32) * i))), .val (.int (z4 - ((64 : Int32) * i))), .unset, .unset, .unset, .unset, .unset, .unset] [(.long orig)])) tg → Steps p.tables e below (s₁.setTop (entryFrame m #[(.long orig), (.int i), (.int pos), (.long val), (.int cnt)] 16)) tg := by
      intro tg kt
      refine k5 tg ?_
      refine XS.icmpNo X3.here hx rfl (hb hby d2_38) rfl (flt hc6).1 ?_
      show Steps p.tables e below (T3.setTop (mkF m 41 #[.val (.long orig), .second, .val (.int i), .val (.int pos), .val (.long val), .second, .val (.int cnt), .val (.int ((64 : Int32) * i)), .val (.int (z2 - ((64 : Int32) * i))), .val (.int (z4 - ((64 : Int32) * i))), .unset, .unset, .unset, .unset, .unset, .unset] [])) _
      refine XS.lloadN X3.here hx rfl (hb hby d2_41) rfl ?_
      show Steps p.tables e below (T3.setTop (mkF m 42 #[.val (.long orig), .second, .val (.int i), .val (.int pos), .val (.long val), .second, .val (.int cnt), .val (.int ((64 : Int32) * i)), .val (.int (z2 - ((64 : Int32) * i))), .val (.int (z4 - ((64 : Int32) * i))), .unset, .unset, .unset, .unset, .unset, .unset] [(.long orig)])) _
      exact kt
    obtain ⟨fs, hr, hrun, hended, hW, hsame⟩ := X3.leave (v := some (.long orig)) (fun h => by rw [Bd.returns] at h; cases h)
    refine ⟨_, _, k16 _ ?_, hrun, hended, _, _, rfl, ?_, ⟨_, rfl⟩, hW, hsame.mono (by decide) (by decide)⟩
    · exact own_retJ X3 hx Bd.returns (hb hby d2_42) hr
    · show QV _ h0 n0 _ T3.heap _
      exact ⟨by show some (Value.long orig) = some (Value.long (expF orig i pos val cnt)); subst ez2 ez4; unfold expF; rw [if_neg hc6], N3, e3⟩
theorem d1_0 : decode prog_134_method_6_code 0 = .ok (.iload 4, 2) := by decide +kernel
theorem d1_2 : decode prog_134_method_6_code 2 = .ok (.ifCond .ne 4, 3) := by decide +kernel
theorem d1_5 : decode prog_134_method_6_code 5 = .ok (.return_, 1) := by decide +kernel
theorem pn_1 : plainName "com/example/parley/parley/core/PackedBits" = true := by first | (simp [plainName, overriddenIn]; done) | decide +kernel
theorem ef_rm1z (m : MethodId) (a : Addr) (pos : Int32) (val : Int64) (cnt : Int32) : entryFrame m #[(.ref a), (.int pos), (.long val), (.int cnt)] 10 = mkF m 0 #[.val (.ref a), .val (.int pos), .val (.long val), .second, .val (.int cnt), .unset, .unset, .unset, .unset, .unset] [] := by first | (simp [entryFrame, mkF, argsToLocals, Value.category]; done) | rfl
set_option maxRecDepth 65536 in
set_option maxHeartbeats 40000000 in
theorem rm1z (l : Launch) (Z : State) (a0 : Array Value) (hw : ∀ d ∈ tables_1, d.before a0 Z = true) (ws : List Jvm.Cond) (a : Addr) (pos : Int32) (val : Int64) (cnt : Int32) (kc : ClassId) (x0 x1 x2 : Int64) (h0 : Heap) (n0 : Nat) (Z0 : n0 ≤ h0.size) (V0 : Arv Z h0 a kc .long (3 : Int32) [(.long x0), (.long x1), (.long x2)] (.long (0 : Int64))) (g_a : n0 ≤ a) (hz : cnt = (0 : Int32)) :
    MetFree l (⟨"com/example/parley/parley/core/PackedBits", "replace", "([JIJI)V"⟩ : MethodName) (head1 (Jvm.Cond.code (⟨"com/example/parley/parley/core/PackedBits", "replace", "([JIJI)V"⟩ : MethodName) prog_134_method_6_code 10 none :: ws) ({ frames := 0, cells := 0, slots := 0, locals := 0 } : Room)) (fun a_ U_ => a_ = #[(.ref a), (.int pos), (.long val), (.int cnt)] ∧ Z.Warmed39 U_.vm ∧ U_.heap = h0) (fun _ _ _ _ _ => True) (fun _ U_ o_ U'_ => ∃ v_ L_, o_ = .returned v_ ∧ QR Z a kc (x0) (x1) (x2) h0 n0 v_ U'_.heap L_ ∧ FrameEnd U_ o_ U'_ L_ ({ frames := 0, cells := 0, slots := 0, locals := 0 } : Room).cells ({ frames := 0, cells := 0, slots := 0, locals := 0 } : Room).slots) := by
  refine MetFree.of_bodySF (plainFor_of_name pn_1) hisR ?_
  intro p e s m args below meth c s₁ Bd hml0 hP hK
  obtain ⟨rfl, hZ, hh⟩ := hP
  have hx := Bd.exec
  have hby := Bd.bytes
  have hml : c.maxLocals = 10 := hml0
  have hown : s.vm.findClass "com/example/parley/parley/core/PackedBits" = some m.cls := findClass_of_methodNamed Bd.named
  have hnm := (name_of_methodNamed Bd.named Bd.method).1
  have X0 : Stand p l e ({ frames := 0, cells := 0, slots := 0, locals := 0 } : Room) s m #[(.ref a), (.int pos), (.long val), (.int cnt)] below meth c s₁ [] 0 0 := Stand.of_body Bd
  have e0 : s₁.heap = h0 := by rw [← hh, Bd.state]; rfl
  have N0 := Fr.nil n0
  have k0 : ∀ tg, Steps p.tables e below (s₁.setTop (mkF m 0 #[.val (.ref a), .val (.int pos), .val (.long val), .second, .val (.int cnt), .unset, .unset, .unset, .unset, .unset] [])) tg → Steps p.tables e below (s₁.setTop (entryFrame m #[(.ref a), (.int pos), (.long val), (.int cnt)] 10)) tg := fun tg k => castTop (ef_rm1z m a pos val cnt) k
  have hd1 : cnt = (0 : Int32) := hz
  have k2 : ∀ tg, Steps p.tables e below (s₁.setTop (mkF m 5 #[.val (.ref a), .val (.int pos), .val (.long val), .second, .val (.int cnt), .unset, .unset, .unset, .unset, .unset] [])) tg → Steps p.tables e below (s₁.setTop (entryFrame m #[(.ref a), (.int pos), (.long val), (.int cnt)] 10)) tg := by
    intro tg kt
    refine k0 tg ?_
    show Steps p.tables e below (s₁.setTop (mkF m 0 #[.val (.ref a), .val (.int pos), .val (.long val), .second, .val (.int cnt), .unset, .unset, .unset, .unset, .unset] [])) _
    refine XS.iload X0.here hx rfl (hb hby d1_0) rfl ?_
    show Steps p.tables e below (s₁.setTop (mkF m 2 #[.val (.ref a), .val (.int pos), .val (.long val), .second, .val (.int cnt), .unset, .unset, .unset, .unset, .unset] [(.int cnt)])) _
    refine XS.ifNo X0.here hx rfl (hb hby d1_2) rfl ((if0 _ _).trans (teq hd1).2) ?_
    show Steps p.tables e below (s₁.setTop (mkF m 5 #[.val (.ref a), .val (.int pos), .val (.long val), .second, .val (.int cnt), .unset, .unset, .unset, .unset, .unset] [])) _
    exact kt
  obtain ⟨fs, hr, hrun, hended, hW, hsame⟩ := X0.leave (v := none) (fun _ => rfl)
  refine ⟨_, _, k2 _ ?_, hrun, hended, _, _, rfl, ?_, ⟨_, rfl⟩, hW, hsame.mono (by decide) (by decide)⟩
  · exact X0.returnOut hx Bd.returns (hb hby d1_5) hr
  · show QR Z a kc (x0) (x1) (x2) h0 n0 _ s₁.heap _
    rw [e0]
    exact ⟨rfl, N0, (Keep.refl h0 [a]), V0⟩
theorem d1_6 : decode prog_134_method_6_code 6 = .ok (.lconst 1, 1) := by decide +kernel
theorem d1_7 : decode prog_134_method_6_code 7 = .ok (.iload 4, 2) := by decide +kernel
theorem d1_9 : decode prog_134_method_6_code 9 = .ok (.lshl, 1) := by decide +kernel
theorem d1_10 : decode prog_134_method_6_code 10 = .ok (.lconst 1, 1) := by decide +kernel
theorem d1_11 : decode prog_134_method_6_code 11 = .ok (.lsub, 1) := by decide +kernel
theorem d1_12 : decode prog_134_method_6_code 12 = .ok (.lstore 5, 2) := by decide +kernel
theorem d1_14 : decode prog_134_method_6_code 14 = .ok (.iload_n 1, 1) := by decide +kernel
theorem d1_15 : decode prog_134_method_6_code 15 = .ok (.bipush 6, 2) := by decide +kernel
theorem d1_17 : decode prog_134_method_6_code 17 = .ok (.iushr, 1) := by decide +kernel
theorem d1_18 : decode prog_134_method_6_code 18 = .ok (.istore 7, 2) := by decide +kernel
theorem d1_20 : decode prog_134_method_6_code 20 = .ok (.iload_n 1, 1) := by decide +kernel
theorem d1_21 : decode prog_134_method_6_code 21 = .ok (.bipush 63, 2) := by decide +kernel
theorem d1_23 : decode prog_134_method_6_code 23 = .ok (.iand, 1) := by decide +kernel
theorem d1_24 : decode prog_134_method_6_code 24 = .ok (.istore 8, 2) := by decide +kernel
theorem d1_26 : decode prog_134_method_6_code 26 = .ok (.aload_n 0, 1) := by decide +kernel
theorem d1_27 : decode prog_134_method_6_code 27 = .ok (.iload 7, 2) := by decide +kernel
theorem d1_29 : decode prog_134_method_6_code 29 = .ok (.aload_n 0, 1) := by decide +kernel
theorem d1_30 : decode prog_134_method_6_code 30 = .ok (.iload 7, 2) := by decide +kernel
theorem d1_32 : decode prog_134_method_6_code 32 = .ok (.laload, 1) := by decide +kernel
theorem d1_33 : decode prog_134_method_6_code 33 = .ok (.lload 5, 2) := by decide +kernel
theorem d1_35 : decode prog_134_method_6_code 35 = .ok (.iload 8, 2) := by decide +kernel
theorem d1_37 : decode prog_134_method_6_code 37 = .ok (.lshl, 1) := by decide +kernel
theorem d1_38 : decode prog_134_method_6_code 38 = .ok (.ldc2_w 13, 3) := by decide +kernel
theorem d1_41 : decode prog_134_method_6_code 41 = .ok (.lxor, 1) := by decide +kernel
theorem d1_42 : decode prog_134_method_6_code 42 = .ok (.land, 1) := by decide +kernel
theorem d1_43 : decode prog_134_method_6_code 43 = .ok (.lload_n 2, 1) := by decide +kernel
theorem d1_44 : decode prog_134_method_6_code 44 = .ok (.iload 8, 2) := by decide +kernel
theorem d1_46 : decode prog_134_method_6_code 46 = .ok (.lshl, 1) := by decide +kernel
theorem d1_47 : decode prog_134_method_6_code 47 = .ok (.lor, 1) := by decide +kernel
theorem d1_48 : decode prog_134_method_6_code 48 = .ok (.lastore, 1) := by decide +kernel
theorem d1_49 : decode prog_134_method_6_code 49 = .ok (.iload 8, 2) := by decide +kernel
theorem d1_51 : decode prog_134_method_6_code 51 = .ok (.iload 4, 2) := by decide +kernel
theorem d1_53 : decode prog_134_method_6_code 53 = .ok (.iadd, 1) := by decide +kernel
theorem d1_54 : decode prog_134_method_6_code 54 = .ok (.bipush 64, 2) := by decide +kernel
theorem d1_56 : decode prog_134_method_6_code 56 = .ok (.if_icmp .le 37, 3) := by decide +kernel
theorem d1_93 : decode prog_134_method_6_code 93 = .ok (.return_, 1) := by decide +kernel
theorem ef_rm1a (m : MethodId) (a : Addr) (pos : Int32) (val : Int64) (cnt : Int32) : entryFrame m #[(.ref a), (.int pos), (.long val), (.int cnt)] 10 = mkF m 0 #[.val (.ref a), .val (.int pos), .val (.long val), .second, .val (.int cnt), .unset, .unset, .unset, .unset, .unset] [] := by first | (simp [entryFrame, mkF, argsToLocals, Value.category]; done) | rfl
set_option maxRecDepth 65536 in
set_option maxHeartbeats 40000000 in
theorem rm1a (l : Launch) (Z : State) (a0 : Array Value) (hw : ∀ d ∈ tables_1, d.before a0 Z = true) (ws : List Jvm.Cond) (a : Addr) (pos : Int32) (val : Int64) (cnt : Int32) (kc : ClassId) (x0 x1 x2 : Int64) (h0 : Heap) (n0 : Nat) (Z0 : n0 ≤ h0.size) (V0 : Arv Z h0 a kc .long (3 : Int32) [(.long x0), (.long x1), (.long x2)] (.long (0 : Int64))) (g_a : n0 ≤ a) (hz : ¬ (cnt = (0 : Int32))) (hwd : ((pos.toUInt32 >>> ((6 : Int32) &&& 31).toUInt32).toInt32) = (0 : Int32)) (hc : ¬ ((64 : Int32) < ((pos &&& (63 : Int32)) + cnt))) :
    MetFree l (⟨"com/example/parley/parley/core/PackedBits", "replace", "([JIJI)V"⟩ : MethodName) (head1 (Jvm.Cond.code (⟨"com/example/parley/parley/core/PackedBits", "replace", "([JIJI)V"⟩ : MethodName) prog_134_method_6_code 10 none :: ws) ({ frames := 0, cells := 0, slots := 0, locals := 0 } : Room)) (fun a_ U_ => a_ = #[(.ref a), (.int pos), (.long val), (.int cnt)] ∧ Z.Warmed39 U_.vm ∧ U_.heap = h0) (fun _ _ _ _ _ => True) (fun _ U_ o_ U'_ => ∃ v_ L_, o_ = .returned v_ ∧ QR Z a kc (((x0 &&& (((((1 : Int64) <<< (cnt &&& 0x3f).toInt64) - (1 : Int64)) <<< ((pos &&& (63 : Int32)) &&& 0x3f).toInt64) ^^^ (-1 : Int64))) ||| (val <<< ((pos &&& (63 : Int32)) &&& 0x3f).toInt64))) (x1) (x2) h0 n0 v_ U'_.heap L_ ∧ FrameEnd U_ o_ U'_ L_ ({ frames := 0, cells := 0, slots := 0, locals := 0 } : Room).cells ({ frames := 0, cells := 0, slots := 0, locals := 0 } : Room).slots) := by
  refine MetFree.of_bodySF (plainFor_of_name pn_1) hisR ?_
  intro p e s m args below meth c s₁ Bd hml0 hP hK
  obtain ⟨rfl, hZ, hh⟩ := hP
  have hx := Bd.exec
  have hby := Bd.bytes
  have hml : c.maxLocals = 10 := hml0
  have hown : s.vm.findClass "com/example/parley/parley/core/PackedBits" = some m.cls := findClass_of_methodNamed Bd.named
  have hnm := (name_of_methodNamed Bd.named Bd.method).1
  have X0 : Stand p l e ({ frames := 0, cells := 0, slots := 0, locals := 0 } : Room) s m #[(.ref a), (.int pos), (.long val), (.int cnt)] below meth c s₁ [] 0 0 := Stand.of_body Bd
  have e0 : s₁.heap = h0 := by rw [← hh, Bd.state]; rfl
  have N0 := Fr.nil n0
  have k0 : ∀ tg, Steps p.tables e below (s₁.setTop (mkF m 0 #[.val (.ref a), .val (.int pos), .val (.long val), .second, .val (.int cnt), .unset, .unset, .unset, .unset, .unset] [])) tg → Steps p.tables e below (s₁.setTop (entryFrame m #[(.ref a), (.int pos), (.long val), (.int cnt)] 10)) tg := fun tg k => castTop (ef_rm1a m a pos val cnt) k
  have hd1 : ¬ (cnt = (0 : Int32)) := hz
  obtain ⟨cl32_2, Ar32_2, q32_2, S32_2, N32_2_, H32_2, G32_2⟩ := id V0
  have hin32_2 : ¬ ((0 : Int32) < 0 ∨ cl32_2.slots.size ≤ ((0 : Int32)).toNatClampNeg) := inb_of S32_2 ⟨by decide, by decide⟩
  have hat32_2 : cl32_2.slots[((0 : Int32)).toNatClampNeg]? = some (.long x0) := H32_2.at hin32_2 rfl
  obtain ⟨cl48_3, Ar48_3, q48_3, S48_3, N48_3_, H48_3, G48_3⟩ := id V0
  have hin48_3 : ¬ ((0 : Int32) < 0 ∨ cl48_3.slots.size ≤ ((0 : Int32)).toNatClampNeg) := inb_of S48_3 ⟨by decide, by decide⟩
  obtain ⟨T4, h4, X4, e4, W4, st4⟩ := stJ X0 hx hZ e0 Ar48_3 (j := (0 : Int32)) hin48_3 (g := (mkF m 48 #[.val (.ref a), .val (.int pos), .val (.long val), .second, .val (.int cnt), .val (.long (((1 : Int64) <<< (cnt &&& 0x3f).toInt64) - (1 : Int64))), .second, .val (.int (0 : Int32)), .val (.int (pos &&& (63 : Int32))), .unset] [(.long ((x0 &&& (((((1 : Int64) <<< (cnt &&& 0x3f).toInt64) - (1 : Int64)) <<< ((pos &&& (63 : Int32)) &&& 0x3f).toInt64) ^^^ (-1 : Int64))) ||| (val <<< ((pos &&& (63 : Int32)) &&& 0x3f).toInt64))), (.int (0 : Int32)), (.ref a)])) rfl rfl (hb hby d1_48)
  have Z4 := Nat.le_trans Z0 (Keep.of_wr W4).1
  have KP4 := (Keep.refl h0 [a]).wr W4 (Or.inl (List.mem_of_getElem? (i := 0) rfl))
  have N4 := Fr.snoc X4 N0 g_a
  have V4_a : Arv Z h4 a kc .long (3 : Int32) [(.long ((x0 &&& (((((1 : Int64) <<< (cnt &&& 0x3f).toInt64) - (1 : Int64)) <<< ((pos &&& (63 : Int32)) &&& 0x3f).toInt64) ^^^ (-1 : Int64))) ||| (val <<< ((pos &&& (63 : Int32)) &&& 0x3f).toInt64))), (.long x1), (.long x2)] (.long (0 : Int64)) := Arv.set Ar48_3 q48_3 S48_3 N48_3_ H48_3 G48_3 rfl W4 0 rfl (Nat.le_of_ble_eq_true rfl)
  have hd5 : ¬ ((64 : Int32) < ((pos &&& (63 : Int32)) + cnt)) := hc
  have k6 : ∀ tg, Steps p.tables e below (T4.setTop (mkF m 93 #[.val (.ref a), .val (.int pos), .val (.long val), .second, .val (.int cnt), .val (.long (((1 : Int64) <<< (cnt &&& 0x3f).toInt64) - (1 : Int64))), .second, .val (.int (0 : Int32)), .val (.int (pos &&& (63 : Int32))), .unset] [])) tg → Steps p.tables e below (s₁.setTop (entryFrame m #[(.ref a), (.int pos), (.long val), (.int cnt)] 10)) tg := by
    intro tg kt
    refine k0 tg ?_
    show Steps p.tables e below (s₁.setTop (mkF m 0 #[.val (.ref a), .val (.int pos), .val (.long val), .second, .val (.int cnt), .unset, .unset, .unset, .unset, .unset] [])) _
    refine XS.iload X0.here hx rfl (hb hby d1_0) rfl ?_
    show Steps p.tables e below (s₁.setTop (mkF m 2 #[.val (.ref a), .val (.int pos), .val (.long val), .second, .val (.int cnt), .unset, .unset, .unset, .unset, .unset] [(.int cnt)])) _
    refine XS.ifYes X0.here hx rfl (pc0 := 2) (pc' := 6) rfl (hb hby d1_2) rfl ((if0 _ _).trans (feq hd1).2) (by decide) (by decide) ?_
    show Steps p.tables e below (s₁.setTop (mkF m 6 #[.val (.ref a), .val (.int pos), .val (.long val), .second, .val (.int cnt), .unset, .unset, .unset, .unset, .unset] [])) _
    refine XS.lconst X0.here hx rfl (hb hby d1_6) ?_
    show Steps p.tables e below (s₁.setTop (mkF m 7 #[.val (.ref a), .val (.int pos), .val (.long val), .second, .val (.int cnt), .unset, .unset, .unset, .unset, .unset] [(.long (1 : Int64))])) _
    refine XS.iload X0.here hx rfl (hb hby d1_7) rfl ?_
    show Steps p.tables e below (s₁.setTop (mkF m 9 #[.val (.ref a), .val (.int pos), .val (.long val), .second, .val (.int cnt), .unset, .unset, .unset, .unset, .unset] [(.int cnt), (.long (1 : Int64))])) _
    refine XS.lshl X0.here hx rfl (hb hby d1_9) rfl ?_
    show Steps p.tables e below (s₁.setTop (mkF m 10 #[.val (.ref a), .val (.int pos), .val (.long val), .second, .val (.int cnt), .unset, .unset, .unset, .unset, .unset] [(.long ((1 : Int64) <<< (cnt &&& 0x3f).toInt64))])) _
    refine XS.lconst X0.here hx rfl (hb hby d1_10) ?_
    show Steps p.tables e below (s₁.setTop (mkF m 11 #[.val (.ref a), .val (.int pos), .val (.long val), .second, .val (.int cnt), .unset, .unset, .unset, .unset, .unset] [(.long (1 : Int64)), (.long ((1 : Int64) <<< (cnt &&& 0x3f).toInt64))])) _
    refine XS.lsub X0.here hx rfl (hb hby d1_11) rfl ?_
    show Steps p.tables e below (s₁.setTop (mkF m 12 #[.val (.ref a), .val (.int pos), .val (.long val), .second, .val (.int cnt), .unset, .unset, .unset, .unset, .unset] [(.long (((1 : Int64) <<< (cnt &&& 0x3f).toInt64) - (1 : Int64)))])) _
    refine XS.lstore X0.here hx rfl (hb hby d1_12) rfl (l' := #[.val (.ref a), .val (.int pos), .val (.long val), .second, .val (.int cnt), .val (.long (((1 : Int64) <<< (cnt &&& 0x3f).toInt64) - (1 : Int64))), .second, .unset, .unset, .unset]) rfl ?_
    show Steps p.tables e below (s₁.setTop (mkF m 14 #[.val (.ref a), .val (.int pos), .val (.long val), .second, .val (.int cnt), .val (.long (((1 : Int64) <<< (cnt &&& 0x3f).toInt64) - (1 : Int64))), .second, .unset, .unset, .unset] [])) _
    refine XS.iloadN X0.here hx rfl (hb hby d1_14) rfl ?_
    show Steps p.tables e below (s₁.setTop (mkF m 15 #[.val (.ref a), .val (.int pos), .val (.long val), .second, .val (.int cnt), .val (.long (((1 : Int64) <<< (cnt &&& 0x3f).toInt64) - (1 : Int64))), .second, .unset, .unset, .unset] [(.int pos)])) _
    refine XS.bipush X0.here hx rfl (hb hby d1_15) ?_
    show Steps p.tables e below (s₁.setTop (mkF m 17 #[.val (.ref a), .val (.int pos), .val (.long val), .second, .val (.int cnt), .val (.long (((1 : Int64) <<< (cnt &&& 0x3f).toInt64) - (1 : Int64))), .second, .unset, .unset, .unset] [(.int (6 : Int32)), (.int pos)])) _
    refine XS.iushr X0.here hx rfl (hb hby d1_17) rfl ?_
    show Steps p.tables e below (s₁.setTop (mkF m 18 #[.val (.ref a), .val (.int pos), .val (.long val), .second, .val (.int cnt), .val (.long (((1 : Int64) <<< (cnt &&& 0x3f).toInt64) - (1 : Int64))), .second, .unset, .unset, .unset] [(.int ((pos.toUInt32 >>> ((6 : Int32) &&& 31).toUInt32).toInt32))])) _
    rw [hwd]
    show Steps p.tables e below (s₁.setTop (mkF m 18 #[.val (.ref a), .val (.int pos), .val (.long val), .second, .val (.int cnt), .val (.long (((1 : Int64) <<< (cnt &&& 0x3f).toInt64) - (1 : Int64))), .second, .unset, .unset, .unset] [(.int (0 : Int32))])) _
    refine XS.istore X0.here hx rfl (hb hby d1_18) rfl (l' := #[.val (.ref a), .val (.int pos), .val (.long val), .second, .val (.int cnt), .val (.long (((1 : Int64) <<< (cnt &&& 0x3f).toInt64) - (1 : Int64))), .second, .val (.int (0 : Int32)), .unset, .unset]) rfl ?_
    show Steps p.tables e below (s₁.setTop (mkF m 20 #[.val (.ref a), .val (.int pos), .val (.long val), .second, .val (.int cnt), .val (.long (((1 : Int64) <<< (cnt &&& 0x3f).toInt64) - (1 : Int64))), .second, .val (.int (0 : Int32)), .unset, .unset] [])) _
    refine XS.iloadN X0.here hx rfl (hb hby d1_20) rfl ?_
    show Steps p.tables e below (s₁.setTop (mkF m 21 #[.val (.ref a), .val (.int pos), .val (.long val), .second, .val (.int cnt), .val (.long (((1 : Int64) <<< (cnt &&& 0x3f).toInt64) - (1 : Int64))), .second, .val (.int (0 : Int32)), .unset, .unset] [(.int pos)])) _
    refine XS.bipush X0.here hx rfl (hb hby d1_21) ?_
    show Steps p.tables e below (s₁.setTop (mkF m 23 #[.val (.ref a), .val (.int pos), .val (.long val), .second, .val (.int cnt), .val (.long (((1 : Int64) <<< (cnt &&& 0x3f).toInt64) - (1 : Int64))), .second, .val (.int (0 : Int32)), .unset, .unset] [(.int (63 : Int32)), (.int pos)])) _
    refine XS.iand X0.here hx rfl (hb hby d1_23) rfl ?_
    show Steps p.tables e below (s₁.setTop (mkF m 24 #[.val (.ref a), .val (.int pos), .val (.long val), .second, .val (.int cnt), .val (.long (((1 : Int64) <<< (cnt &&& 0x3f).toInt64) - (1 : Int64))), .second, .val (.int (0 : Int32)), .unset, .unset] [(.int (pos &&& (63 : Int32)))])) _
    refine XS.istore X0.here hx rfl (hb hby d1_24) rfl (l' := #[.val (.ref a), .val (.int pos), .val (.long val), .second, .val (.int cnt), .val (.long (((1 : Int64) <<< (cnt &&& 0x3f).toInt64) - (1 : Int64))), .second, .val (.int (0 : Int32)), .val (.int (pos &&& (63 : Int32))), .unset]) rfl ?_
    show Steps p.tables e below (s₁.setTop (mkF m 26 #[.val (.ref a), .val (.int pos), .val (.long val), .second, .val (.int cnt), .val (.long (((1 : Int64) <<< (cnt &&& 0x3f).toInt64) - (1 : Int64))), .second, .val (.int (0 : Int32)), .val (.int (pos &&& (63 : Int32))), .unset] [])) _
    refine XS.aloadN X0.here hx rfl (hb hby d1_26) rfl rfl ?_
    show Steps p.tables e below (s₁.setTop (mkF m 27 #[.val (.ref a), .val (.int pos), .val (.long val), .second, .val (.int cnt), .val (.long (((1 : Int64) <<< (cnt &&& 0x3f).toInt64) - (1 : Int64))), .second, .val (.int (0 : Int32)), .val (.int (pos &&& (63 : Int32))), .unset] [(.ref a)])) _
    refine XS.iload X0.here hx rfl (hb hby d1_27) rfl ?_
    show Steps p.tables e below (s₁.setTop (mkF m 29 #[.val (.ref a), .val (.int pos), .val (.long val), .second, .val (.int cnt), .val (.long (((1 : Int64) <<< (cnt &&& 0x3f).toInt64) - (1 : Int64))), .second, .val (.int (0 : Int32)), .val (.int (pos &&& (63 : Int32))), .unset] [(.int (0 : Int32)), (.ref a)])) _
    refine XS.aloadN X0.here hx rfl (hb hby d1_29) rfl rfl ?_
    show Steps p.tables e below (s₁.setTop (mkF m 30 #[.val (.ref a), .val (.int pos), .val (.long val), .second, .val (.int cnt), .val (.long (((1 : Int64) <<< (cnt &&& 0x3f).toInt64) - (1 : Int64))), .second, .val (.int (0 : Int32)), .val (.int (pos &&& (63 : Int32))), .unset] [(.ref a), (.int (0 : Int32)), (.ref a)])) _
    refine XS.iload X0.here hx rfl (hb hby d1_30) rfl ?_
    show Steps p.tables e below (s₁.setTop (mkF m 32 #[.val (.ref a), .val (.int pos), .val (.long val), .second, .val (.int cnt), .val (.long (((1 : Int64) <<< (cnt &&& 0x3f).toInt64) - (1 : Int64))), .second, .val (.int (0 : Int32)), .val (.int (pos &&& (63 : Int32))), .unset] [(.int (0 : Int32)), (.ref a), (.int (0 : Int32)), (.ref a)])) _
    refine X0.laload hx (j := (0 : Int32)) (v := (.long x0)) (by rw [e0]; exact Ar32_2.1) (State.isArrayOf_alike hZ.alike Ar32_2.2.1) Ar32_2.2.2 hin32_2 hat32_2 (g := (mkF m 32 #[.val (.ref a), .val (.int pos), .val (.long val), .second, .val (.int cnt), .val (.long (((1 : Int64) <<< (cnt &&& 0x3f).toInt64) - (1 : Int64))), .second, .val (.int (0 : Int32)), .val (.int (pos &&& (63 : Int32))), .unset] [(.int (0 : Int32)), (.ref a), (.int (0 : Int32)), (.ref a)])) rfl rfl (hb hby d1_32) _ ?_
    show Steps p.tables e below (s₁.setTop (mkF m 33 #[.val (.ref a), .val (.int pos), .val (.long val), .second, .val (.int cnt), .val (.long (((1 : Int64) <<< (cnt &&& 0x3f).toInt64) - (1 : Int64))), .second, .val (.int (0 : Int32)), .val (.int (pos &&& (63 : Int32))), .unset] [(.long x0), (.int (0 : Int32)), (.ref a)])) _
    refine XS.lload X0.here hx rfl (hb hby d1_33) rfl ?_
    show Steps p.tables e below (s₁.setTop (mkF m 35 #[.val (.ref a), .val (.int pos), .val (.long val), .second, .val (.int cnt), .val (.long (((1 : Int64) <<< (cnt &&& 0x3f).toInt64) - (1 : Int64))), .second, .val (.int (0 : Int32)), .val (.int (pos &&& (63 : Int32))), .unset] [(.long (((1 : Int64) <<< (cnt &&& 0x3f).toInt64) - (1 : Int64))), (.long x0), (.int (0 : Int32)), (.ref a)])) _
    refine XS.iload X0.here hx rfl (hb hby d1_35) rfl ?_
    show Steps p.tables e below (s₁.setTop (mkF m 37 #[.val (.ref a), .val (.int pos), .val (.long val), .second, .val (.int cnt), .val (.long (((1 : Int64) <<< (cnt &&& 0x3f).toInt64) - (1 : Int64))), .second, .val (.int (0 : Int32)), .val (.int (pos &&& (63 : Int32))), .unset] [(.int (pos &&& (63 : Int32))), (.long (((1 : Int64) <<< (cnt &&& 0x3f).toInt64) - (1 : Int64))), (.long x0), (.int (0 : Int32)), (.ref a)])) _
    refine XS.lshl X0.here hx rfl (hb hby d1_37) rfl ?_
    show Steps p.tables e below (s₁.setTop (mkF m 38 #[.val (.ref a), .val (.int pos), .val (.long val), .second, .val (.int cnt), .val (.long (((1 : Int64) <<< (cnt &&& 0x3f).toInt64) - (1 : Int64))), .second, .val (.int (0 : Int32)), .val (.int (pos &&& (63 : Int32))), .unset] [(.long ((((1 : Int64) <<< (cnt &&& 0x3f).toInt64) - (1 : Int64)) <<< ((pos &&& (63 : Int32)) &&& 0x3f).toInt64)), (.long x0), (.int (0 : Int32)), (.ref a)])) _
    refine X0.ldc2Long hx hown (mvT hZ (hw _ (List.mem_of_getElem? (i := 16) rfl))) (g := (mkF m 38 #[.val (.ref a), .val (.int pos), .val (.long val), .second, .val (.int cnt), .val (.long (((1 : Int64) <<< (cnt &&& 0x3f).toInt64) - (1 : Int64))), .second, .val (.int (0 : Int32)), .val (.int (pos &&& (63 : Int32))), .unset] [(.long ((((1 : Int64) <<< (cnt &&& 0x3f).toInt64) - (1 : Int64)) <<< ((pos &&& (63 : Int32)) &&& 0x3f).toInt64)), (.long x0), (.int (0 : Int32)), (.ref a)])) rfl (hb hby d1_38) _ ?_
    show Steps p.tables e below (s₁.setTop (mkF m 41 #[.val (.ref a), .val (.int pos), .val (.long val), .second, .val (.int cnt), .val (.long (((1 : Int64) <<< (cnt &&& 0x3f).toInt64) - (1 : Int64))), .second, .val (.int (0 : Int32)), .val (.int (pos &&& (63 : Int32))), .unset] [(.long (-1 : Int64)), (.long ((((1 : Int64) <<< (cnt &&& 0x3f).toInt64) - (1 : Int64)) <<< ((pos &&& (63 : Int32)) &&& 0x3f).toInt64)), (.long x0), (.int (0 : Int32)), (.ref a)])) _
    refine XS.lxor X0.here hx rfl (hb hby d1_41) rfl ?_
    show Steps p.tables e below (s₁.setTop (mkF m 42 #[.val (.ref a), .val (.int pos), .val (.long val), .second, .val (.int cnt), .val (.long (((1 : Int64) <<< (cnt &&& 0x3f).toInt64) - (1 : Int64))), .second, .val (.int (0 : Int32)), .val (.int (pos &&& (63 : Int32))), .unset] [(.long (((((1 : Int64) <<< (cnt &&& 0x3f).toInt64) - (1 : Int64)) <<< ((pos &&& (63 : Int32)) &&& 0x3f).toInt64) ^^^ (-1 : Int64))), (.long x0), (.int (0 : Int32)), (.ref a)])) _
    refine XS.land X0.here hx rfl (hb hby d1_42) rfl ?_
    show Steps p.tables e below (s₁.setTop (mkF m 43 #[.val (.ref a), .val (.int pos), .val (.long val), .second, .val (.int cnt), .val (.long (((1 : Int64) <<< (cnt &&& 0x3f).toInt64) - (1 : Int64))), .second, .val (.int (0 : Int32)), .val (.int (pos &&& (63 : Int32))), .unset] [(.long (x0 &&& (((((1 : Int64) <<< (cnt &&& 0x3f).toInt64) - (1 : Int64)) <<< ((pos &&& (63 : Int32)) &&& 0x3f).toInt64) ^^^ (-1 : Int64)))), (.int (0 : Int32)), (.ref a)])) _
    refine XS.lloadN X0.here hx rfl (hb hby d1_43) rfl ?_
    show Steps p.tables e below (s₁.setTop (mkF m 44 #[.val (.ref a), .val (.int pos), .val (.long val), .second, .val (.int cnt), .val (.long (((1 : Int64) <<< (cnt &&& 0x3f).toInt64) - (1 : Int64))), .second, .val (.int (0 : Int32)), .val (.int (pos &&& (63 : Int32))), .unset] [(.long val), (.long (x0 &&& (((((1 : Int64) <<< (cnt &&& 0x3f).toInt64) - (1 : Int64)) <<< ((pos &&& (63 : Int32)) &&& 0x3f).toInt64) ^^^ (-1 : Int64)))), (.int (0 : Int32)), (.ref a)])) _
    refine XS.iload X0.here hx rfl (hb hby d1_44) rfl ?_
    show Steps p.tables e below (s₁.setTop (mkF m 46 #[.val (.ref a), .val (.int pos), .val (.long val), .second, .val (.int cnt), .val (.long (((1 : Int64) <<< (cnt &&& 0x3f).toInt64) - (1 : Int64))), .second, .val (.int (0 : Int32)), .val (.int (pos &&& (63 : Int32))), .unset] [(.int (pos &&& (63 : Int32))), (.long val), (.long (x0 &&& (((((1 : Int64) <<< (cnt &&& 0x3f).toInt64) - (1 : Int64)) <<< ((pos &&& (63 : Int32)) &&& 0x3f).toInt64) ^^^ (-1 : Int64)))), (.int (0 : Int32)), (.ref a)])) _
    refine XS.lshl X0.here hx rfl (hb hby d1_46) rfl ?_
    show Steps p.tables e below (s₁.setTop (mkF m 47 #[.val (.ref a), .val (.int pos), .val (.long val), .second, .val (.int cnt), .val (.long (((1 : Int64) <<< (cnt &&& 0x3f).toInt64) - (1 : Int64))), .second, .val (.int (0 : Int32)), .val (.int (pos &&& (63 : Int32))), .unset] [(.long (val <<< ((pos &&& (63 : Int32)) &&& 0x3f).toInt64)), (.long (x0 &&& (((((1 : Int64) <<< (cnt &&& 0x3f).toInt64) - (1 : Int64)) <<< ((pos &&& (63 : Int32)) &&& 0x3f).toInt64) ^^^ (-1 : Int64)))), (.int (0 : Int32)), (.ref a)])) _
    refine XS.lor X0.here hx rfl (hb hby d1_47) rfl ?_
    show Steps p.tables e below (s₁.setTop (mkF m 48 #[.val (.ref a), .val (.int pos), .val (.long val), .second, .val (.int cnt), .val (.long (((1 : Int64) <<< (cnt &&& 0x3f).toInt64) - (1 : Int64))), .second, .val (.int (0 : Int32)), .val (.int (pos &&& (63 : Int32))), .unset] [(.long ((x0 &&& (((((1 : Int64) <<< (cnt &&& 0x3f).toInt64) - (1 : Int64)) <<< ((pos &&& (63 : Int32)) &&& 0x3f).toInt64) ^^^ (-1 : Int64))) ||| (val <<< ((pos &&& (63 : Int32)) &&& 0x3f).toInt64))), (.int (0 : Int32)), (.ref a)])) _
    refine st4 _ ?_
    show Steps p.tables e below (T4.setTop (mkF m 49 #[.val (.ref a), .val (.int pos), .val (.long val), .second, .val (.int cnt), .val (.long (((1 : Int64) <<< (cnt &&& 0x3f).toInt64) - (1 : Int64))), .second, .val (.int (0 : Int32)), .val (.int (pos &&& (63 : Int32))), .unset] [])) _
    refine XS.iload X4.here hx rfl (hb hby d1_49) rfl ?_
    show Steps p.tables e below (T4.setTop (mkF m 51 #[.val (.ref a), .val (.int pos), .val (.long val), .second, .val (.int cnt), .val (.long (((1 : Int64) <<< (cnt &&& 0x3f).toInt64) - (1 : Int64))), .second, .val (.int (0 : Int32)), .val (.int (pos &&& (63 : Int32))), .unset] [(.int (pos &&& (63 : Int32)))])) _
    refine XS.iload X4.here hx rfl (hb hby d1_51) rfl ?_
    show Steps p.tables e below (T4.setTop (mkF m 53 #[.val (.ref a), .val (.int pos), .val (.long val), .second, .val (.int cnt), .val (.long (((1 : Int64) <<< (cnt &&& 0x3f).toInt64) - (1 : Int64))), .second, .val (.int (0 : Int32)), .val (.int (pos &&& (63 : Int32))), .unset] [(.int cnt), (.int (pos &&& (63 : Int32)))])) _
    refine XS.iadd X4.here hx rfl (hb hby d1_53) rfl ?_
    show Steps p.tables e below (T4.setTop (mkF m 54 #[.val (.ref a), .val (.int pos), .val (.long val), .second, .val (.int cnt), .val (.long (((1 : Int64) <<< (cnt &&& 0x3f).toInt64) - (1 : Int64))), .second, .val (.int (0 : Int32)), .val (.int (pos &&& (63 : Int32))), .unset] [(.int ((pos &&& (63 : Int32)) + cnt))])) _
    refine XS.bipush X4.here hx rfl (hb hby d1_54) ?_
    show Steps p.tables e below (T4.setTop (mkF m 56 #[.val (.ref a), .val (.int pos), .val (.long val), .second, .val (.int cnt), .val (.long (((1 : Int64) <<< (cnt &&& 0x3f).toInt64) - (1 : Int64))), .second, .val (.int (0 : Int32)), .val (.int (pos &&& (63 : Int32))), .unset] [(.int (64 : Int32)), (.int ((pos &&& (63 : Int32)) + cnt))])) _
    refine XS.icmpYes X4.here hx rfl (pc0 := 56) (pc' := 93) rfl (hb hby d1_56) rfl (flt hd5).2.2.2 (by decide) (by decide) ?_
    show Steps p.tables e below (T4.setTop (mkF m 93 #[.val (.ref a), .val (.int pos), .val (.long val), .second, .val (.int cnt), .val (.long (((1 : Int64) <<< (cnt &&& 0x3f).toInt64) - (1 : Int64))), .second, .val (.int (0 : Int32)), .val (.int (pos &&& (63 : Int32))), .unset] [])) _
    exact kt
  obtain ⟨fs, hr, hrun, hended, hW, hsame⟩ := X4.leave (v := none) (fun _ => rfl)
  refine ⟨_, _, k6 _ ?_, hrun, hended, _, _, rfl, ?_, ⟨_, rfl⟩, hW, hsame.mono (by decide) (by decide)⟩
  · exact X4.returnOut hx Bd.returns (hb hby d1_93) hr
  · show QR Z a kc (((x0 &&& (((((1 : Int64) <<< (cnt &&& 0x3f).toInt64) - (1 : Int64)) <<< ((pos &&& (63 : Int32)) &&& 0x3f).toInt64) ^^^ (-1 : Int64))) ||| (val <<< ((pos &&& (63 : Int32)) &&& 0x3f).toInt64))) (x1) (x2) h0 n0 _ T4.heap _
    rw [e4]
    exact ⟨rfl, N4, KP4, V4_a⟩
theorem d1_59 : decode prog_134_method_6_code 59 = .ok (.bipush 64, 2) := by decide +kernel
theorem d1_61 : decode prog_134_method_6_code 61 = .ok (.iload 8, 2) := by decide +kernel
theorem d1_63 : decode prog_134_method_6_code 63 = .ok (.isub, 1) := by decide +kernel
theorem d1_64 : decode prog_134_method_6_code 64 = .ok (.istore 9, 2) := by decide +kernel
theorem d1_66 : decode prog_134_method_6_code 66 = .ok (.aload_n 0, 1) := by decide +kernel
theorem d1_67 : decode prog_134_method_6_code 67 = .ok (.iload 7, 2) := by decide +kernel
theorem d1_69 : decode prog_134_method_6_code 69 = .ok (.iconst 1, 1) := by decide +kernel
theorem d1_70 : decode prog_134_method_6_code 70 = .ok (.iadd, 1) := by decide +kernel
theorem d1_71 : decode prog_134_method_6_code 71 = .ok (.aload_n 0, 1) := by decide +kernel
theorem d1_72 : decode prog_134_method_6_code 72 = .ok (.iload 7, 2) := by decide +kernel
theorem d1_74 : decode prog_134_method_6_code 74 = .ok (.iconst 1, 1) := by decide +kernel
theorem d1_75 : decode prog_134_method_6_code 75 = .ok (.iadd, 1) := by decide +kernel
theorem d1_76 : decode prog_134_method_6_code 76 = .ok (.laload, 1) := by decide +kernel
theorem d1_77 : decode prog_134_method_6_code 77 = .ok (.lload 5, 2) := by decide +kernel
theorem d1_79 : decode prog_134_method_6_code 79 = .ok (.iload 9, 2) := by decide +kernel
theorem d1_81 : decode prog_134_method_6_code 81 = .ok (.lushr, 1) := by decide +kernel
theorem d1_82 : decode prog_134_method_6_code 82 = .ok (.ldc2_w 13, 3) := by decide +kernel
theorem d1_85 : decode prog_134_method_6_code 85 = .ok (.lxor, 1) := by decide +kernel
theorem d1_86 : decode prog_134_method_6_code 86 = .ok (.land, 1) := by decide +kernel
theorem d1_87 : decode prog_134_method_6_code 87 = .ok (.lload_n 2, 1) := by decide +kernel
theorem d1_88 : decode prog_134_method_6_code 88 = .ok (.iload 9, 2) := by decide +kernel
theorem d1_90 : decode prog_134_method_6_code 90 = .ok (.lushr, 1) := by decide +kernel
theorem d1_91 : decode prog_134_method_6_code 91 = .ok (.lor, 1) := by decide +kernel
theorem d1_92 : decode prog_134_method_6_code 92 = .ok (.lastore, 1) := by decide +kernel
theorem ef_rm1b (m : MethodId) (a : Addr) (pos : Int32) (val : Int64) (cnt : Int32) : entryFrame m #[(.ref a), (.int pos), (.long val), (.int cnt)] 10 = mkF m 0 #[.val (.ref a), .val (.int pos), .val (.long val), .second, .val (.int cnt), .unset, .unset, .unset, .unset, .unset] [] := by first | (simp [entryFrame, mkF, argsToLocals, Value.category]; done) | rfl
set_option maxRecDepth 65536 in
set_option maxHeartbeats 40000000 in
theorem rm1b (l : Launch) (Z : State) (a0 : Array Value) (hw : ∀ d ∈ tables_1, d.before a0 Z = true) (ws : List Jvm.Cond) (a : Addr) (pos : Int32) (val : Int64) (cnt : Int32) (kc : ClassId) (x0 x1 x2 : Int64) (h0 : Heap) (n0 : Nat) (Z0 : n0 ≤ h0.size) (V0 : Arv Z h0 a kc .long (3 : Int32) [(.long x0), (.long x1), (.long x2)] (.long (0 : Int64))) (g_a : n0 ≤ a) (hz : ¬ (cnt = (0 : Int32))) (hwd : ((pos.toUInt32 >>> ((6 : Int32) &&& 31).toUInt32).toInt32) = (0 : Int32)) (hc : (64 : Int32) < ((pos &&& (63 : Int32)) + cnt)) :
    MetFree l (⟨"com/example/parley/parley/core/PackedBits", "replace", "([JIJI)V"⟩ : MethodName) (head1 (Jvm.Cond.code (⟨"com/example/parley/parley/core/PackedBits", "replace", "([JIJI)V"⟩ : MethodName) prog_134_method_6_code 10 none :: ws) ({ frames := 0, cells := 0, slots := 0, locals := 0 } : Room)) (fun a_ U_ => a_ = #[(.ref a), (.int pos), (.long val), (.int cnt)] ∧ Z.Warmed39 U_.vm ∧ U_.heap = h0) (fun _ _ _ _ _ => True) (fun _ U_ o_ U'_ => ∃ v_ L_, o_ = .returned v_ ∧ QR Z a kc (((x0 &&& (((((1 : Int64) <<< (cnt &&& 0x3f).toInt64) - (1 : Int64)) <<< ((pos &&& (63 : Int32)) &&& 0x3f).toInt64) ^^^ (-1 : Int64))) ||| (val <<< ((pos &&& (63 : Int32)) &&& 0x3f).toInt64))) (((x1 &&& ((((((1 : Int64) <<< (cnt &&& 0x3f).toInt64) - (1 : Int64)).toUInt64 >>> (((64 : Int32) - (pos &&& (63 : Int32))) &&& 0x3f).toInt64.toUInt64).toInt64) ^^^ (-1 : Int64))) ||| ((val.toUInt64 >>> (((64 : Int32) - (pos &&& (63 : Int32))) &&& 0x3f).toInt64.toUInt64).toInt64))) (x2) h0 n0 v_ U'_.heap L_ ∧ FrameEnd U_ o_ U'_ L_ ({ frames := 0, cells := 0, slots := 0, locals := 0 } : Room).cells ({ frames := 0, cells := 0, slots := 0, locals := 0 } : Room).slots) := by
  refine MetFree.of_bodySF (plainFor_of_name pn_1) hisR ?_
  intro p e s m args below meth c s₁ Bd hml0 hP hK
  obtain ⟨rfl, hZ, hh⟩ := hP
  have hx := Bd.exec
  have hby := Bd.bytes
  have hml : c.maxLocals = 10 := hml0
  have hown : s.vm.findClass "com/example/parley/parley/core/PackedBits" = some m.cls := findClass_of_methodNamed Bd.named
  have hnm := (name_of_methodNamed Bd.named Bd.method).1
  have X0 : Stand p l e ({ frames := 0, cells := 0, slots := 0, locals := 0 } : Room) s m #[(.ref a), (.int pos), (.long val), (.int cnt)] below meth c s₁ [] 0 0 := Stand.of_body Bd
  have e0 : s₁.heap = h0 := by rw [← hh, Bd.state]; rfl
  have N0 := Fr.nil n0
  have k0 : ∀ tg, Steps p.tables e below (s₁.setTop (mkF m 0 #[.val (.ref a), .val (.int pos), .val (.long val), .second, .val (.int cnt), .unset, .unset, .unset, .unset, .unset] [])) tg → Steps p.tables e below (s₁.setTop (entryFrame m #[(.ref a), (.int pos), (.long val), (.int cnt)] 10)) tg := fun tg k => castTop (ef_rm1b m a pos val cnt) k
  have hd1 : ¬ (cnt = (0 : Int32)) := hz
  obtain ⟨cl32_2, Ar32_2, q32_2, S32_2, N32_2_, H32_2, G32_2⟩ := id V0
  have hin32_2 : ¬ ((0 : Int32) < 0 ∨ cl32_2.slots.size ≤ ((0 : Int32)).toNatClampNeg) := inb_of S32_2 ⟨by decide, by decide⟩
  have hat32_2 : cl32_2.slots[((0 : Int32)).toNatClampNeg]? = some (.long x0) := H32_2.at hin32_2 rfl
  obtain ⟨cl48_3, Ar48_3, q48_3, S48_3, N48_3_, H48_3, G48_3⟩ := id V0
  have hin48_3 : ¬ ((0 : Int32) < 0 ∨ cl48_3.slots.size ≤ ((0 : Int32)).toNatClampNeg) := inb_of S48_3 ⟨by decide, by decide⟩
  obtain ⟨T4, h4, X4, e4, W4, st4⟩ := stJ X0 hx hZ e0 Ar48_3 (j := (0 : Int32)) hin48_3 (g := (mkF m 48 #[.val (.ref a), .val (.int pos), .val (.long val), .second, .val (.int cnt), .val (.long (((1 : Int64) <<< (cnt &&& 0x3f).toInt64) - (1 : Int64))), .second, .val (.int (0 : Int32)), .val (.int (pos &&& (63 : Int32))), .unset] [(.long ((x0 &&& (((((1 : Int64) <<< (cnt &&& 0x3f).toInt64) - (1 : Int64)) <<< ((pos &&& (63 : Int32)) &&& 0x3f).toInt64) ^^^ (-1 : Int64))) ||| (val <<< ((pos &&& (63 : Int32)) &&& 0x3f).toInt64))), (.int (0 : Int32)), (.ref a)])) rfl rfl (hb hby d1_48)
  have Z4 := Nat.le_trans Z0 (Keep.of_wr W4).1
  have KP4 := (Keep.refl h0 [a]).wr W4 (Or.inl (List.mem_of_getElem? (i := 0) rfl))
  have N4 := Fr.snoc X4 N0 g_a
  have V4_a : Arv Z h4 a kc .long (3 : Int32) [(.long ((x0 &&& (((((1 : Int64) <<< (cnt &&& 0x3f).toInt64) - (1 : Int64)) <<< ((pos &&& (63 : Int32)) &&& 0x3f).toInt64) ^^^ (-1 : Int64))) ||| (val <<< ((pos &&& (63 : Int32)) &&& 0x3f).toInt64))), (.long x1), (.long x2)] (.long (0 : Int64)) := Arv.set Ar48_3 q48_3 S48_3 N48_3_ H48_3 G48_3 rfl W4 0 rfl (Nat.le_of_ble_eq_true rfl)
  have hd5 : (64 : Int32) < ((pos &&& (63 : Int32)) + cnt) := hc
  obtain ⟨cl76_6, Ar76_6, q76_6, S76_6, N76_6_, H76_6, G76_6⟩ := id V4_a
  have hin76_6 : ¬ ((1 : Int32) < 0 ∨ cl76_6.slots.size ≤ ((1 : Int32)).toNatClampNeg) := inb_of S76_6 ⟨by decide, by decide⟩
  have hat76_6 : cl76_6.slots[((1 : Int32)).toNatClampNeg]? = some (.long x1) := H76_6.at hin76_6 rfl
  obtain ⟨cl92_7, Ar92_7, q92_7, S92_7, N92_7_, H92_7, G92_7⟩ := id V4_a
  have hin92_7 : ¬ ((1 : Int32) < 0 ∨ cl92_7.slots.size ≤ ((1 : Int32)).toNatClampNeg) := inb_of S92_7 ⟨by decide, by decide⟩
  obtain ⟨T8, h8, X8, e8, W8, st8⟩ := stJ X4 hx hZ e4 Ar92_7 (j := (1 : Int32)) hin92_7 (g := (mkF m 92 #[.val (.ref a), .val (.int pos), .val (.long val), .second, .val (.int cnt), .val (.long (((1 : Int64) <<< (cnt &&& 0x3f).toInt64) - (1 : Int64))), .second, .val (.int (0 : Int32)), .val (.int (pos &&& (63 : Int32))), .val (.int ((64 : Int32) - (pos &&& (63 : Int32))))] [(.long ((x1 &&& ((((((1 : Int64) <<< (cnt &&& 0x3f).toInt64) - (1 : Int64)).toUInt64 >>> (((64 : Int32) - (pos &&& (63 : Int32))) &&& 0x3f).toInt64.toUInt64).toInt64) ^^^ (-1 : Int64))) ||| ((val.toUInt64 >>> (((64 : Int32) - (pos &&& (63 : Int32))) &&& 0x3f).toInt64.toUInt64).toInt64))), (.int (1 : Int32)), (.ref a)])) rfl rfl (hb hby d1_92)
  have Z8 := Nat.le_trans Z4 (Keep.of_wr W8).1
  have KP8 := KP4.wr W8 (Or.inl (List.mem_of_getElem? (i := 0) rfl))
  have N8 := Fr.snoc X8 N4 g_a
  have V8_a : Arv Z h8 a kc .long (3 : Int32) [(.long ((x0 &&& (((((1 : Int64) <<< (cnt &&& 0x3f).toInt64) - (1 : Int64)) <<< ((pos &&& (63 : Int32)) &&& 0x3f).toInt64) ^^^ (-1 : Int64))) ||| (val <<< ((pos &&& (63 : Int32)) &&& 0x3f).toInt64))), (.long ((x1 &&& ((((((1 : Int64) <<< (cnt &&& 0x3f).toInt64) - (1 : Int64)).toUInt64 >>> (((64 : Int32) - (pos &&& (63 : Int32))) &&& 0x3f).toInt64.toUInt64).toInt64) ^^^ (-1 : Int64))) ||| ((val.toUInt64 >>> (((64 : Int32) - (pos &&& (63 : Int32))) &&& 0x3f).toInt64.toUInt64).toInt64))), (.long x2)] (.long (0 : Int64)) := Arv.set Ar92_7 q92_7 S92_7 N92_7_ H92_7 G92_7 rfl W8 1 rfl (Nat.le_of_ble_eq_true rfl)
  have k9 : ∀ tg, Steps p.tables e below (T8.setTop (mkF m 93 #[.val (.ref a), .val (.int pos), .val (.long val), .second, .val (.int cnt), .val (.long (((1 : Int64) <<< (cnt &&& 0x3f).toInt64) - (1 : Int64))), .second, .val (.int (0 : Int32)), .val (.int (pos &&& (63 : Int32))), .val (.int ((64 : Int32) - (pos &&& (63 : Int32))))] [])) tg → Steps p.tables e below (s₁.setTop (entryFrame m #[(.ref a), (.int pos), (.long val), (.int cnt)] 10)) tg := by
    intro tg kt
    refine k0 tg ?_
    show Steps p.tables e below (s₁.setTop (mkF m 0 #[.val (.ref a), .val (.int pos), .val (.long val), .second, .val (.int cnt), .unset, .unset, .unset, .unset, .unset] [])) _
    refine XS.iload X0.here hx rfl (hb hby d1_0) rfl ?_
    show Steps p.tables e below (s₁.setTop (mkF m 2 #[.val (.ref a), .val (.int pos), .val (.long val), .second, .val (.int cnt), .unset, .unset, .unset, .unset, .unset] [(.int cnt)])) _
    refine XS.ifYes X0.here hx rfl (pc0 := 2) (pc' := 6) rfl (hb hby d1_2) rfl ((if0 _ _).trans (feq hd1).2) (by decide) (by decide) ?_
    show Steps p.tables e below (s₁.setTop (mkF m 6 #[.val (.ref a), .val (.int pos), .val (.long val), .second, .val (.int cnt), .unset, .unset, .unset, .unset, .unset] [])) _
    refine XS.lconst X0.here hx rfl (hb hby d1_6) ?_
    show Steps p.tables e below (s₁.setTop (mkF m 7 #[.val (.ref a), .val (.int pos), .val (.long val), .second, .val (.int cnt), .unset, .unset, .unset, .unset, .unset] [(.long (1 : Int64))])) _
    refine XS.iload X0.here hx rfl (hb hby d1_7) rfl ?_
    show Steps p.tables e below (s₁.setTop (mkF m 9 #[.val (.ref a), .val (.int pos), .val (.long val), .second, .val (.int cnt), .unset, .unset, .unset, .unset, .unset] [(.int cnt), (.long (1 : Int64))])) _
    refine XS.lshl X0.here hx rfl (hb hby d1_9) rfl ?_
    show Steps p.tables e below (s₁.setTop (mkF m 10 #[.val (.ref a), .val (.int pos), .val (.long val), .second, .val (.int cnt), .unset, .unset, .unset, .unset, .unset] [(.long ((1 : Int64) <<< (cnt &&& 0x3f).toInt64))])) _
    refine XS.lconst X0.here hx rfl (hb hby d1_10) ?_
    show Steps p.tables e below (s₁.setTop (mkF m 11 #[.val (.ref a), .val (.int pos), .val (.long val), .second, .val (.int cnt), .unset, .unset, .unset, .unset, .unset] [(.long (1 : Int64)), (.long ((1 : Int64) <<< (cnt &&& 0x3f).toInt64))])) _
    refine XS.lsub X0.here hx rfl (hb hby d1_11) rfl ?_
    show Steps p.tables e below (s₁.setTop (mkF m 12 #[.val (.ref a), .val (.int pos), .val (.long val), .second, .val (.int cnt), .unset, .unset, .unset, .unset, .unset] [(.long (((1 : Int64) <<< (cnt &&& 0x3f).toInt64) - (1 : Int64)))])) _
    refine XS.lstore X0.here hx rfl (hb hby d1_12) rfl (l' := #[.val (.ref a), .val (.int pos), .val (.long val), .second, .val (.int cnt), .val (.long (((1 : Int64) <<< (cnt &&& 0x3f).toInt64) - (1 : Int64))), .second, .unset, .unset, .unset]) rfl ?_
    show Steps p.tables e below (s₁.setTop (mkF m 14 #[.val (.ref a), .val (.int pos), .val (.long val), .second, .val (.int cnt), .val (.long (((1 : Int64) <<< (cnt &&& 0x3f).toInt64) - (1 : Int64))), .second, .unset, .unset, .unset] [])) _
    refine XS.iloadN X0.here hx rfl (hb hby d1_14) rfl ?_
    show Steps p.tables e below (s₁.setTop (mkF m 15 #[.val (.ref a), .val (.int pos), .val (.long val), .second, .val (.int cnt), .val (.long (((1 : Int64) <<< (cnt &&& 0x3f).toInt64) - (1 : Int64))), .second, .unset, .unset, .unset] [(.int pos)])) _
    refine XS.bipush X0.here hx rfl (hb hby d1_15) ?_
    show Steps p.tables e below (s₁.setTop (mkF m 17 #[.val (.ref a), .val (.int pos), .val (.long val), .second, .val (.int cnt), .val (.long (((1 : Int64) <<< (cnt &&& 0x3f).toInt64) - (1 : Int64))), .second, .unset, .unset, .unset] [(.int (6 : Int32)), (.int pos)])) _
    refine XS.iushr X0.here hx rfl (hb hby d1_17) rfl ?_
    show Steps p.tables e below (s₁.setTop (mkF m 18 #[.val (.ref a), .val (.int pos), .val (.long val), .second, .val (.int cnt), .val (.long (((1 : Int64) <<< (cnt &&& 0x3f).toInt64) - (1 : Int64))), .second, .unset, .unset, .unset] [(.int ((pos.toUInt32 >>> ((6 : Int32) &&& 31).toUInt32).toInt32))])) _
    rw [hwd]
    show Steps p.tables e below (s₁.setTop (mkF m 18 #[.val (.ref a), .val (.int pos), .val (.long val), .second, .val (.int cnt), .val (.long (((1 : Int64) <<< (cnt &&& 0x3f).toInt64) - (1 : Int64))), .second, .unset, .unset, .unset] [(.int (0 : Int32))])) _
    refine XS.istore X0.here hx rfl (hb hby d1_18) rfl (l' := #[.val (.ref a), .val (.int pos), .val (.long val), .second, .val (.int cnt), .val (.long (((1 : Int64) <<< (cnt &&& 0x3f).toInt64) - (1 : Int64))), .second, .val (.int (0 : Int32)), .unset, .unset]) rfl ?_
    show Steps p.tables e below (s₁.setTop (mkF m 20 #[.val (.ref a), .val (.int pos), .val (.long val), .second, .val (.int cnt), .val (.long (((1 : Int64) <<< (cnt &&& 0x3f).toInt64) - (1 : Int64))), .second, .val (.int (0 : Int32)), .unset, .unset] [])) _
    refine XS.iloadN X0.here hx rfl (hb hby d1_20) rfl ?_
    show Steps p.tables e below (s₁.setTop (mkF m 21 #[.val (.ref a), .val (.int pos), .val (.long val), .second, .val (.int cnt), .val (.long (((1 : Int64) <<< (cnt &&& 0x3f).toInt64) - (1 : Int64))), .second, .val (.int (0 : Int32)), .unset, .unset] [(.int pos)])) _
    refine XS.bipush X0.here hx rfl (hb hby d1_21) ?_
    show Steps p.tables e below (s₁.setTop (mkF m 23 #[.val (.ref a), .val (.int pos), .val (.long val), .second, .val (.int cnt), .val (.long (((1 : Int64) <<< (cnt &&& 0x3f).toInt64) - (1 : Int64))), .second, .val (.int (0 : Int32)), .unset, .unset] [(.int (63 : Int32)), (.int pos)])) _
    refine XS.iand X0.here hx rfl (hb hby d1_23) rfl ?_
    show Steps p.tables e below (s₁.setTop (mkF m 24 #[.val (.ref a), .val (.int pos), .val (.long val), .second, .val (.int cnt), .val (.long (((1 : Int64) <<< (cnt &&& 0x3f).toInt64) - (1 : Int64))), .second, .val (.int (0 : Int32)), .unset, .unset] [(.int (pos &&& (63 : Int32)))])) _
    refine XS.istore X0.here hx rfl (hb hby d1_24) rfl (l' := #[.val (.ref a), .val (.int pos), .val (.long val), .second, .val (.int cnt), .val (.long (((1 : Int64) <<< (cnt &&& 0x3f).toInt64) - (1 : Int64))), .second, .val (.int (0 : Int32)), .val (.int (pos &&& (63 : Int32))), .unset]) rfl ?_
    show Steps p.tables e below (s₁.setTop (mkF m 26 #[.val (.ref a), .val (.int pos), .val (.long val), .second, .val (.int cnt), .val (.long (((1 : Int64) <<< (cnt &&& 0x3f).toInt64) - (1 : Int64))), .second, .val (.int (0 : Int32)), .val (.int (pos &&& (63 : Int32))), .unset] [])) _
    refine XS.aloadN X0.here hx rfl (hb hby d1_26) rfl rfl ?_
    show Steps p.tables e below (s₁.setTop (mkF m 27 #[.val (.ref a), .val (.int pos), .val (.long val), .second, .val (.int cnt), .val (.long (((1 : Int64) <<< (cnt &&& 0x3f).toInt64) - (1 : Int64))), .second, .val (.int (0 : Int32)), .val (.int (pos &&& (63 : Int32))), .unset] [(.ref a)])) _
    refine XS.iload X0.here hx rfl (hb hby d1_27) rfl ?_
    show Steps p.tables e below (s₁.setTop (mkF m 29 #[.val (.ref a), .val (.int pos), .val (.long val), .second, .val (.int cnt), .val (.long (((1 : Int64) <<< (cnt &&& 0x3f).toInt64) - (1 : Int64))), .second, .val (.int (0 : Int32)), .val (.int (pos &&& (63 : Int32))), .unset] [(.int (0 : Int32)), (.ref a)])) _
    refine XS.aloadN X0.here hx rfl (hb hby d1_29) rfl rfl ?_
    show Steps p.tables e below (s₁.setTop (mkF m 30 #[.val (.ref a), .val (.int pos), .val (.long val), .second, .val (.int cnt), .val (.long (((1 : Int64) <<< (cnt &&& 0x3f).toInt64) - (1 : Int64))), .second, .val (.int (0 : Int32)), .val (.int (pos &&& (63 : Int32))), .unset] [(.ref a), (.int (0 : Int32)), (.ref a)])) _
    refine XS.iload X0.here hx rfl (hb hby d1_30) rfl ?_
    show Steps p.tables e below (s₁.setTop (mkF m 32 #[.val (.ref a), .val (.int pos), .val (.long val), .second, .val (.int cnt), .val (.long (((1 : Int64) <<< (cnt &&& 0x3f).toInt64) - (1 : Int64))), .second, .val (.int (0 : Int32)), .val (.int (pos &&& (63 : Int32))), .unset] [(.int (0 : Int32)), (.ref a), (.int (0 : Int32)), (.ref a)])) _
    refine X0.laload hx (j := (0 : Int32)) (v := (.long x0)) (by rw [e0]; exact Ar32_2.1) (State.isArrayOf_alike hZ.alike Ar32_2.2.1) Ar32_2.2.2 hin32_2 hat32_2 (g := (mkF m 32 #[.val (.ref a), .val (.int pos), .val (.long val), .second, .val (.int cnt), .val (.long (((1 : Int64) <<< (cnt &&& 0x3f).toInt64) - (1 : Int64))), .second, .val (.int (0 : Int32)), .val (.int (pos &&& (63 : Int32))), .unset] [(.int (0 : Int32)), (.ref a), (.int (0 : Int32)), (.ref a)])) rfl rfl (hb hby d1_32) _ ?_
    show Steps p.tables e below (s₁.setTop (mkF m 33 #[.val (.ref a), .val (.int pos), .val (.long val), .second, .val (.int cnt), .val (.long (((1 : Int64) <<< (cnt &&& 0x3f).toInt64) - (1 : Int64))), .second, .val (.int (0 : Int32)), .val (.int (pos &&& (63 : Int32))), .unset] [(.long x0), (.int (0 : Int32)), (.ref a)])) _
    refine XS.lload X0.here hx rfl (hb hby d1_33) rfl ?_
    show Steps p.tables e below (s₁.setTop (mkF m 35 #[.val (.ref a), .val (.int pos), .val (.long val), .second, .val (.int cnt), .val (.long (((1 : Int64) <<< (cnt &&& 0x3f).toInt64) - (1 : Int64))), .second, .val (.int (0 : Int32)), .val (.int (pos &&& (63 : Int32))), .unset] [(.long (((1 : Int64) <<< (cnt &&& 0x3f).toInt64) - (1 : Int64))), (.long x0), (.int (0 : Int32)), (.ref a)])) _
    refine XS.iload X0.here hx rfl (hb hby d1_35) rfl ?_
    show Steps p.tables e below (s₁.setTop (mkF m 37 #[.val (.ref a), .val (.int pos), .val (.long val), .second, .val (.int cnt), .val (.long (((1 : Int64) <<< (cnt &&& 0x3f).toInt64) - (1 : Int64))), .second, .val (.int (0 : Int32)), .val (.int (pos &&& (63 : Int32))), .unset] [(.int (pos &&& (63 : Int32))), (.long (((1 : Int64) <<< (cnt &&& 0x3f).toInt64) - (1 : Int64))), (.long x0), (.int (0 : Int32)), (.ref a)])) _
    refine XS.lshl X0.here hx rfl (hb hby d1_37) rfl ?_
    show Steps p.tables e below (s₁.setTop (mkF m 38 #[.val (.ref a), .val (.int pos), .val (.long val), .second, .val (.int cnt), .val (.long (((1 : Int64) <<< (cnt &&& 0x3f).toInt64) - (1 : Int64))), .second, .val (.int (0 : Int32)), .val (.int (pos &&& (63 : Int32))), .unset] [(.long ((((1 : Int64) <<< (cnt &&& 0x3f).toInt64) - (1 : Int64)) <<< ((pos &&& (63 : Int32)) &&& 0x3f).toInt64)), (.long x0), (.int (0 : Int32)), (.ref a)])) _
    refine X0.ldc2Long hx hown (mvT hZ (hw _ (List.mem_of_getElem? (i := 16) rfl))) (g := (mkF m 38 #[.val (.ref a), .val (.int pos), .val (.long val), .second, .val (.int cnt), .val (.long (((1 : Int64) <<< (cnt &&& 0x3f).toInt64) - (1 : Int64))), .second, .val (.int (0 : Int32)), .val (.int (pos &&& (63 : Int32))), .unset] [(.long ((((1 : Int64) <<< (cnt &&& 0x3f).toInt64) - (1 : Int64)) <<< ((pos &&& (63 : Int32)) &&& 0x3f).toInt64)), (.long x0), (.int (0 : Int32)), (.ref a)])) rfl (hb hby d1_38) _ ?_
    show Steps p.tables e below (s₁.setTop (mkF m 41 #[.val (.ref a), .val (.int pos), .val (.long val), .second, .val (.int cnt), .val (.long (((1 : Int64) <<< (cnt &&& 0x3f).toInt64) - (1 : Int64))), .second, .val (.int (0 : Int32)), .val (.int (pos &&& (63 : Int32))), .unset] [(.long (-1 : Int64)), (.long ((((1 : Int64) <<< (cnt &&& 0x3f).toInt64) - (1 : Int64)) <<< ((pos &&& (63 : Int32)) &&& 0x3f).toInt64)), (.long x0), (.int (0 : Int32)), (.ref a)])) _
    refine XS.lxor X0.here hx rfl (hb hby d1_41) rfl ?_
    show Steps p.tables e below (s₁.setTop (mkF m 42 #[.val (.ref a), .val (.int pos), .val (.long val), .second, .val (.int cnt), .val (.long (((1 : Int64) <<< (cnt &&& 0x3f).toInt64) - (1 : Int64))), .second, .val (.int (0 : Int32)), .val (.int (pos &&& (63 : Int32))), .unset] [(.long (((((1 : Int64) <<< (cnt &&& 0x3f).toInt64) - (1 : Int64)) <<< ((pos &&& (63 : Int32)) &&& 0x3f).toInt64) ^^^ (-1 : Int64))), (.long x0), (.int (0 : Int32)), (.ref a)])) _
    refine XS.land X0.here hx rfl (hb hby d1_42) rfl ?_
    show Steps p.tables e below (s₁.setTop (mkF m 43 #[.val (.ref a), .val (.int pos), .val (.long val), .second, .val (.int cnt), .val (.long (((1 : Int64) <<< (cnt &&& 0x3f).toInt64) - (1 : Int64))), .second, .val (.int (0 : Int32)), .val (.int (pos &&& (63 : Int32))), .unset] [(.long (x0 &&& (((((1 : Int64) <<< (cnt &&& 0x3f).toInt64) - (1 : Int64)) <<< ((pos &&& (63 : Int32)) &&& 0x3f).toInt64) ^^^ (-1 : Int64)))), (.int (0 : Int32)), (.ref a)])) _
    refine XS.lloadN X0.here hx rfl (hb hby d1_43) rfl ?_
    show Steps p.tables e below (s₁.setTop (mkF m 44 #[.val (.ref a), .val (.int pos), .val (.long val), .second, .val (.int cnt), .val (.long (((1 : Int64) <<< (cnt &&& 0x3f).toInt64) - (1 : Int64))), .second, .val (.int (0 : Int32)), .val (.int (pos &&& (63 : Int32))), .unset] [(.long val), (.long (x0 &&& (((((1 : Int64) <<< (cnt &&& 0x3f).toInt64) - (1 : Int64)) <<< ((pos &&& (63 : Int32)) &&& 0x3f).toInt64) ^^^ (-1 : Int64)))), (.int (0 : Int32)), (.ref a)])) _
    refine XS.iload X0.here hx rfl (hb hby d1_44) rfl ?_
    show Steps p.tables e below (s₁.setTop (mkF m 46 #[.val (.ref a), .val (.int pos), .val (.long val), .second, .val (.int cnt), .val (.long (((1 : Int64) <<< (cnt &&& 0x3f).toInt64) - (1 : Int64))), .second, .val (.int (0 : Int32)), .val (.int (pos &&& (63 : Int32))), .unset] [(.int (pos &&& (63 : Int32))), (.long val), (.long (x0 &&& (((((1 : Int64) <<< (cnt &&& 0x3f).toInt64) - (1 : Int64)) <<< ((pos &&& (63 : Int32)) &&& 0x3f).toInt64) ^^^ (-1 : Int64)))), (.int (0 : Int32)), (.ref a)])) _
    refine XS.lshl X0.here hx rfl (hb hby d1_46) rfl ?_
    show Steps p.tables e below (s₁.setTop (mkF m 47 #[.val (.ref a), .val (.int pos), .val (.long val), .second, .val (.int cnt), .val (.long (((1 : Int64) <<< (cnt &&& 0x3f).toInt64) - (1 : Int64))), .second, .val (.int (0 : Int32)), .val (.int (pos &&& (63 : Int32))), .unset] [(.long (val <<< ((pos &&& (63 : Int32)) &&& 0x3f).toInt64)), (.long (x0 &&& (((((1 : Int64) <<< (cnt &&& 0x3f).toInt64) - (1 : Int64)) <<< ((pos &&& (63 : Int32)) &&& 0x3f).toInt64) ^^^ (-1 : Int64)))), (.int (0 : Int32)), (.ref a)])) _
    refine XS.lor X0.here hx rfl (hb hby d1_47) rfl ?_
    show Steps p.tables e below (s₁.setTop (mkF m 48 #[.val (.ref a), .val (.int pos), .val (.long val), .second, .val (.int cnt), .val (.long (((1 : Int64) <<< (cnt &&& 0x3f).toInt64) - (1 : Int64))), .second, .val (.int (0 : Int32)), .val (.int (pos &&& (63 : Int32))), .unset] [(.long ((x0 &&& (((((1 : Int64) <<< (cnt &&& 0x3f).toInt64) - (1 : Int64)) <<< ((pos &&& (63 : Int32)) &&& 0x3f).toInt64) ^^^ (-1 : Int64))) ||| (val <<< ((pos &&& (63 : Int32)) &&& 0x3f).toInt64))), (.int (0 : Int32)), (.ref a)])) _
    refine st4 _ ?_
    show Steps p.tables e below (T4.setTop (mkF m 49 #[.val (.ref a), .val (.int pos), .val (.long val), .second, .val (.int cnt), .val (.long (((1 : Int64) <<< (cnt &&& 0x3f).toInt64) - (1 : Int64))), .second, .val (.int (0 : Int32)), .val (.int (pos &&& (63 : Int32))), .unset] [])) _
    refine XS.iload X4.here hx rfl (hb hby d1_49) rfl ?_
    show Steps p.tables e below (T4.setTop (mkF m 51 #[.val (.ref a), .val (.int pos), .val (.long val), .second, .val (.int cnt), .val (.long (((1 : Int64) <<< (cnt &&& 0x3f).toInt64) - (1 : Int64))), .second, .val (.int (0 : Int32)), .val (.int (pos &&& (63 : Int32))), .unset] [(.int (pos &&& (63 : Int32)))])) _
    refine XS.iload X4.here hx rfl (hb hby d1_51) rfl ?_
    show Steps p.tables e below (T4.setTop (mkF m 53 #[.val (.ref a), .val (.int pos), .val (.long val), .second, .val (.int cnt), .val (.long (((1 : Int64) <<< (cnt &&& 0x3f).toInt64) - (1 : Int64))), .second, .val (.int (0 : Int32)), .val (.int (pos &&& (63 : Int32))), .unset] [(.int cnt), (.int (pos &&& (63 : Int32)))])) _
    refine XS.iadd X4.here hx rfl (hb hby d1_53) rfl ?_
    show Steps p.tables e below (T4.setTop (mkF m 54 #[.val (.ref a), .val (.int pos), .val (.long val), .second, .val (.int cnt), .val (.long (((1 : Int64) <<< (cnt &&& 0x3f).toInt64) - (1 : Int64))), .second, .val (.int (0 : Int32)), .val (.int (pos &&& (63 : Int32))), .unset] [(.int ((pos &&& (63 : Int32)) + cnt))])) _
    refine XS.bipush X4.here hx rfl (hb hby d1_54) ?_
    show Steps p.tables e below (T4.setTop (mkF m 56 #[.val (.ref a), .val (.int pos), .val (.long val), .second, .val (.int cnt), .val (.long (((1 : Int64) <<< (cnt &&& 0x3f).toInt64) - (1 : Int64))), .second, .val (.int (0 : Int32)), .val (.int (pos &&& (63 : Int32))), .unset] [(.int (64 : Int32)), (.int ((pos &&& (63 : Int32)) + cnt))])) _
    refine XS.icmpNo X4.here hx rfl (hb hby d1_56) rfl (tlt hd5).2.2.2 ?_
    show Steps p.tables e below (T4.setTop (mkF m 59 #[.val (.ref a), .val (.int pos), .val (.long val), .second, .val (.int cnt), .val (.long (((1 : Int64) <<< (cnt &&& 0x3f).toInt64) - (1 : Int64))), .second, .val (.int (0 : Int32)), .val (.int (pos &&& (63 : Int32))), .unset] [])) _
    refine XS.bipush X4.here hx rfl (hb hby d1_59) ?_
    show Steps p.tables e below (T4.setTop (mkF m 61 #[.val (.ref a), .val (.int pos), .val (.long val), .second, .val (.int cnt), .val (.long (((1 : Int64) <<< (cnt &&& 0x3f).toInt64) - (1 : Int64))), .second, .val (.int (0 : Int32)), .val (.int (pos &&& (63 : Int32))), .unset] [(.int (64 : Int32))])) _
    refine XS.iload X4.here hx rfl (hb hby d1_61) rfl ?_
    show Steps p.tables e below (T4.setTop (mkF m 63 #[.val (.ref a), .val (.int pos), .val (.long val), .second, .val (.int cnt), .val (.long (((1 : Int64) <<< (cnt &&& 0x3f).toInt64) - (1 : Int64))), .second, .val (.int (0 : Int32)), .val (.int (pos &&& (63 : Int32))), .unset] [(.int (pos &&& (63 : Int32))), (.int (64 : Int32))])) _
    refine XS.isub X4.here hx rfl (hb hby d1_63) rfl ?_
    show Steps p.tables e below (T4.setTop (mkF m 64 #[.val (.ref a), .val (.int pos), .val (.long val), .second, .val (.int cnt), .val (.long (((1 : Int64) <<< (cnt &&& 0x3f).toInt64) - (1 : Int64))), .second, .val (.int (0 : Int32)), .val (.int (pos &&& (63 : Int32))), .unset] [(.int ((64 : Int32) - (pos &&& (63 : Int32))))])) _
    refine XS.istore X4.here hx rfl (hb hby d1_64) rfl (l' := #[.val (.ref a), .val (.int pos), .val (.long val), .second, .val (.int cnt), .val (.long (((1 : Int64) <<< (cnt &&& 0x3f).toInt64) - (1 : Int64))), .second, .val (.int (0 : Int32)), .val (.int (pos &&& (63 : Int32))), .val (.int ((64 : Int32) - (pos &&& (63 : Int32))))]) rfl ?_
    show Steps p.tables e below (T4.setTop (mkF m 66 #[.val (.ref a), .val (.int pos), .val (.long val), .second, .val (.int cnt), .val (.long (((1 : Int64) <<< (cnt &&& 0x3f).toInt64) - (1 : Int64))), .second, .val (.int (0 : Int32)), .val (.int (pos &&& (63 : Int32))), .val (.int ((64 : Int32) - (pos &&& (63 : Int32))))] [])) _
    refine XS.aloadN X4.here hx rfl (hb hby d1_66) rfl rfl ?_
    show Steps p.tables e below (T4.setTop (mkF m 67 #[.val (.ref a), .val (.int pos), .val (.long val), .second, .val (.int cnt), .val (.long (((1 : Int64) <<< (cnt &&& 0x3f).toInt64) - (1 : Int64))), .second, .val (.int (0 : Int32)), .val (.int (pos &&& (63 : Int32))), .val (.int ((64 : Int32) - (pos &&& (63 : Int32))))] [(.ref a)])) _
    refine XS.iload X4.here hx rfl (hb hby d1_67) rfl ?_
    show Steps p.tables e below (T4.setTop (mkF m 69 #[.val (.ref a), .val (.int pos), .val (.long val), .second, .val (.int cnt), .val (.long (((1 : Int64) <<< (cnt &&& 0x3f).toInt64) - (1 : Int64))), .second, .val (.int (0 : Int32)), .val (.int (pos &&& (63 : Int32))), .val (.int ((64 : Int32) - (pos &&& (63 : Int32))))] [(.int (0 : Int32)), (.ref a)])) _
    refine XS.iconst X4.here hx rfl (hb hby d1_69) ?_
    show Steps p.tables e below (T4.setTop (mkF m 70 #[.val (.ref a), .val (.int pos), .val (.long val), .second, .val (.int cnt), .val (.long (((1 : Int64) <<< (cnt &&& 0x3f).toInt64) - (1 : Int64))), .second, .val (.int (0 : Int32)), .val (.int (pos &&& (63 : Int32))), .val (.int ((64 : Int32) - (pos &&& (63 : Int32))))] [(.int (1 : Int32)), (.int (0 : Int32)), (.ref a)])) _
    refine XS.iadd X4.here hx rfl (hb hby d1_70) rfl ?_
    show Steps p.tables e below (T4.setTop (mkF m 71 #[.val (.ref a), .val (.int pos), .val (.long val), .second, .val (.int cnt), .val (.long (((1 : Int64) <<< (cnt &&& 0x3f).toInt64) - (1 : Int64))), .second, .val (.int (0 : Int32)), .val (.int (pos &&& (63 : Int32))), .val (.int ((64 : Int32) - (pos &&& (63 : Int32))))] [(.int ((0 : Int32) + (1 : Int32))), (.ref a)])) _
    rw [(by decide : (0 : Int32) + (1 : Int32) = (1 : Int32))]
    show Steps p.tables e below (T4.setTop (mkF m 71 #[.val (.ref a), .val (.int pos), .val (.long val), .second, .val (.int cnt), .val (.long (((1 : Int64) <<< (cnt &&& 0x3f).toInt64) - (1 : Int64))), .second, .val (.int (0 : Int32)), .val (.int (pos &&& (63 : Int32))), .val (.int ((64 : Int32) - (pos &&& (63 : Int32))))] [(.int (1 : Int32)), (.ref a)])) _
    refine XS.aloadN X4.here hx rfl (hb hby d1_71) rfl rfl ?_
    show Steps p.tables e below (T4.setTop (mkF m 72 #[.val (.ref a), .val (.int pos), .val (.long val), .second, .val (.int cnt), .val (.long (((1 : Int64) <<< (cnt &&& 0x3f).toInt64) - (1 : Int64))), .second, .val (.int (0 : Int32)), .val (.int (pos &&& (63 : Int32))), .val (.int ((64 : Int32) - (pos &&& (63 : Int32))))] [(.ref a), (.int (1 : Int32)), (.ref a)])) _
    refine XS.iload X4.here hx rfl (hb hby d1_72) rfl ?_
    show Steps p.tables e below (T4.setTop (mkF m 74 #[.val (.ref a), .val (.int pos), .val (.long val), .second, .val (.int cnt), .val (.long (((1 : Int64) <<< (cnt &&& 0x3f).toInt64) - (1 : Int64))), .second, .val (.int (0 : Int32)), .val (.int (pos &&& (63 : Int32))), .val (.int ((64 : Int32) - (pos &&& (63 : Int32))))] [(.int (0 : Int32)), (.ref a), (.int (1 : Int32)), (.ref a)])) _
    refine XS.iconst X4.here hx rfl (hb hby d1_74) ?_
    show Steps p.tables e below (T4.setTop (mkF m 75 #[.val (.ref a), .val (.int pos), .val (.long val), .second, .val (.int cnt), .val (.long (((1 : Int64) <<< (cnt &&& 0x3f).toInt64) - (1 : Int64))), .second, .val (.int (0 : Int32)), .val (.int (pos &&& (63 : Int32))), .val (.int ((64 : Int32) - (pos &&& (63 : Int32))))] [(.int (1 : Int32)), (.int (0 : Int32)), (.ref a), (.int (1 : Int32)), (.ref a)])) _
    refine XS.iadd X4.here hx rfl (hb hby d1_75) rfl ?_
    show Steps p.tables e below (T4.setTop (mkF m 76 #[.val (.ref a), .val (.int pos), .val (.long val), .second, .val (.int cnt), .val (.long (((1 : Int64) <<< (cnt &&& 0x3f).toInt64) - (1 : Int64))), .second, .val (.int (0 : Int32)), .val (.int (pos &&& (63 : Int32))), .val (.int ((64 : Int32) - (pos &&& (63 : Int32))))] [(.int ((0 : Int32) + (1 : Int32))), (.ref a), (.int (1 : Int32)), (.ref a)])) _
    rw [(by decide : (0 : Int32) + (1 : Int32) = (1 : Int32))]
    show Steps p.tables e below (T4.setTop (mkF m 76 #[.val (.ref a), .val (.int pos), .val (.long val), .second, .val (.int cnt), .val (.long (((1 : Int64) <<< (cnt &&& 0x3f).toInt64) - (1 : Int64))), .second, .val (.int (0 : Int32)), .val (.int (pos &&& (63 : Int32))), .val (.int ((64 : Int32) - (pos &&& (63 : Int32))))] [(.int (1 : Int32)), (.ref a), (.int (1 : Int32)), (.ref a)])) _
    refine X4.laload hx (j := (1 : Int32)) (v := (.long x1)) (by rw [e4]; exact Ar76_6.1) (State.isArrayOf_alike hZ.alike Ar76_6.2.1) Ar76_6.2.2 hin76_6 hat76_6 (g := (mkF m 76 #[.val (.ref a), .val (.int pos), .val (.long val), .second, .val (.int cnt), .val (.long (((1 : Int64) <<< (cnt &&& 0x3f).toInt64) - (1 : Int64))), .second, .val (.int (0 : Int32)), .val (.int (pos &&& (63 : Int32))), .val (.int ((64 : Int32) - (pos &&& (63 : Int32))))] [(.int (1 : Int32)), (.ref a), (.int (1 : Int32)), (.ref a)])) rfl rfl (hb hby d1_76) _ ?_
    show Steps p.tables e below (T4.setTop (mkF m 77 #[.val (.ref a), .val (.int pos), .val (.long val), .second, .val (.int cnt), .val (.long (((1 : Int64) <<< (cnt &&& 0x3f).toInt64) - (1 : Int64))), .second, .val (.int (0 : Int32)), .val (.int (pos &&& (63 : Int32))), .val (.int ((64 : Int32) - (pos &&& (63 : Int32))))] [(.long x1), (.int (1 : Int32)), (.ref a)])) _
    refine XS.lload X4.here hx rfl (hb hby d1_77) rfl ?_
    show Steps p.tables e below (T4.setTop (mkF m 79 #[.val (.ref a), .val (.int pos), .val (.long val), .second, .val (.int cnt), .val (.long (((1 : Int64) <<< (cnt &&& 0x3f).toInt64) - (1 : Int64))), .second, .val (.int (0 : Int32)), .val (.int (pos &&& (63 : Int32))), .val (.int ((64 : Int32) - (pos &&& (63 : Int32))))] [(.long (((1 : Int64) <<< (cnt &&& 0x3f).toInt64) - (1 : Int64))), (.long x1), (.int (1 : Int32)), (.ref a)])) _
    refine XS.iload X4.here hx rfl (hb hby d1_79) rfl ?_
    show Steps p.tables e below (T4.setTop (mkF m 81 #[.val (.ref a), .val (.int pos), .val (.long val), .second, .val (.int cnt), .val (.long (((1 : Int64) <<< (cnt &&& 0x3f).toInt64) - (1 : Int64))), .second, .val (.int (0 : Int32)), .val (.int (pos &&& (63 : Int32))), .val (.int ((64 : Int32) - (pos &&& (63 : Int32))))] [(.int ((64 : Int32) - (pos &&& (63 : Int32)))), (.long (((1 : Int64) <<< (cnt &&& 0x3f).toInt64) - (1 : Int64))), (.long x1), (.int (1 : Int32)), (.ref a)])) _
    refine XS.lushr X4.here hx rfl (hb hby d1_81) rfl ?_
    show Steps p.tables e below (T4.setTop (mkF m 82 #[.val (.ref a), .val (.int pos), .val (.long val), .second, .val (.int cnt), .val (.long (((1 : Int64) <<< (cnt &&& 0x3f).toInt64) - (1 : Int64))), .second, .val (.int (0 : Int32)), .val (.int (pos &&& (63 : Int32))), .val (.int ((64 : Int32) - (pos &&& (63 : Int32))))] [(.long (((((1 : Int64) <<< (cnt &&& 0x3f).toInt64) - (1 : Int64)).toUInt64 >>> (((64 : Int32) - (pos &&& (63 : Int32))) &&& 0x3f).toInt64.toUInt64).toInt64)), (.long x1), (.int (1 : Int32)), (.ref a)])) _
    refine X4.ldc2Long hx hown (mvT hZ (hw _ (List.mem_of_getElem? (i := 16) rfl))) (g := (mkF m 82 #[.val (.ref a), .val (.int pos), .val (.long val), .second, .val (.int cnt), .val (.long (((1 : Int64) <<< (cnt &&& 0x3f).toInt64) - (1 : Int64))), .second, .val (.int (0 : Int32)), .val (.int (pos &&& (63 : Int32))), .val (.int ((64 : Int32) - (pos &&& (63 : Int32))))] [(.long (((((1 : Int64) <<< (cnt &&& 0x3f).toInt64) - (1 : Int64)).toUInt64 >>> (((64 : Int32) - (pos &&& (63 : Int32))) &&& 0x3f).toInt64.toUInt64).toInt64)), (.long x1), (.int (1 : Int32)), (.ref a)])) rfl (hb hby d1_82) _ ?_
    show Steps p.tables e below (T4.setTop (mkF m 85 #[.val (.ref a), .val (.int pos), .val (.long val), .second, .val (.int cnt), .val (.long (((1 : Int64) <<< (cnt &&& 0x3f).toInt64) - (1 : Int64))), .second, .val (.int (0 : Int32)), .val (.int (pos &&& (63 : Int32))), .val (.int ((64 : Int32) - (pos &&& (63 : Int32))))] [(.long (-1 : Int64)), (.long (((((1 : Int64) <<< (cnt &&& 0x3f).toInt64) - (1 : Int64)).toUInt64 >>> (((64 : Int32) - (pos &&& (63 : Int32))) &&& 0x3f).toInt64.toUInt64).toInt64)), (.long x1), (.int (1 : Int32)), (.ref a)])) _
    refine XS.lxor X4.here hx rfl (hb hby d1_85) rfl ?_
    show Steps p.tables e below (T4.setTop (mkF m 86 #[.val (.ref a), .val (.int pos), .val (.long val), .second, .val (.int cnt), .val (.long (((1 : Int64) <<< (cnt &&& 0x3f).toInt64) - (1 : Int64))), .second, .val (.int (0 : Int32)), .val (.int (pos &&& (63 : Int32))), .val (.int ((64 : Int32) - (pos &&& (63 : Int32))))] [(.long ((((((1 : Int64) <<< (cnt &&& 0x3f).toInt64) - (1 : Int64)).toUInt64 >>> (((64 : Int32) - (pos &&& (63 : Int32))) &&& 0x3f).toInt64.toUInt64).toInt64) ^^^ (-1 : Int64))), (.long x1), (.int (1 : Int32)), (.ref a)])) _
    refine XS.land X4.here hx rfl (hb hby d1_86) rfl ?_
    show Steps p.tables e below (T4.setTop (mkF m 87 #[.val (.ref a), .val (.int pos), .val (.long val), .second, .val (.int cnt), .val (.long (((1 : Int64) <<< (cnt &&& 0x3f).toInt64) - (1 : Int64))), .second, .val (.int (0 : Int32)), .val (.int (pos &&& (63 : Int32))), .val (.int ((64 : Int32) - (pos &&& (63 : Int32))))] [(.long (x1 &&& ((((((1 : Int64) <<< (cnt &&& 0x3f).toInt64) - (1 : Int64)).toUInt64 >>> (((64 : Int32) - (pos &&& (63 : Int32))) &&& 0x3f).toInt64.toUInt64).toInt64) ^^^ (-1 : Int64)))), (.int (1 : Int32)), (.ref a)])) _
    refine XS.lloadN X4.here hx rfl (hb hby d1_87) rfl ?_
    show Steps p.tables e below (T4.setTop (mkF m 88 #[.val (.ref a), .val (.int pos), .val (.long val), .second, .val (.int cnt), .val (.long (((1 : Int64) <<< (cnt &&& 0x3f).toInt64) - (1 : Int64))), .second, .val (.int (0 : Int32)), .val (.int (pos &&& (63 : Int32))), .val (.int ((64 : Int32) - (pos &&& (63 : Int32))))] [(.long val), (.long (x1 &&& ((((((1 : Int64) <<< (cnt &&& 0x3f).toInt64) - (1 : Int64)).toUInt64 >>> (((64 : Int32) - (pos &&& (63 : Int32))) &&& 0x3f).toInt64.toUInt64).toInt64) ^^^ (-1 : Int64)))), (.int (1 : Int32)), (.ref a)])) _
    refine XS.iload X4.here hx rfl (hb hby d1_88) rfl ?_
    show Steps p.tables e below (T4.setTop (mkF m 90 #[.val (.ref a), .val (.int pos), .val (.long val), .second, .val (.int cnt), .val (.long (((1 : Int64) <<< (cnt &&& 0x3f).toInt64) - (1 : Int64))), .second, .val (.int (0 : Int32)), .val (.int (pos &&& (63 : Int32))), .val (.int ((64 : Int32) - (pos &&& (63 : Int32))))] [(.int ((64 : Int32) - (pos &&& (63 : Int32)))), (.long val), (.long (x1 &&& ((((((1 : Int64) <<< (cnt &&& 0x3f).toInt64) - (1 : Int64)).toUInt64 >>> (((64 : Int32) - (pos &&& (63 : Int32))) &&& 0x3f).toInt64.toUInt64).toInt64) ^^^ (-1 : Int64)))), (.int (1 : Int32)), (.ref a)])) _
    refine XS.lushr X4.here hx rfl (hb hby d1_90) rfl ?_
    show Steps p.tables e below (T4.setTop (mkF m 91 #[.val (.ref a), .val (.int pos), .val (.long val), .second, .val (.int cnt), .val (.long (((1 : Int64) <<< (cnt &&& 0x3f).toInt64) - (1 : Int64))), .second, .val (.int (0 : Int32)), .val (.int (pos &&& (63 : Int32))), .val (.int ((64 : Int32) - (pos &&& (63 : Int32))))] [(.long ((val.toUInt64 >>> (((64 : Int32) - (pos &&& (63 : Int32))) &&& 0x3f).toInt64.toUInt64).toInt64)), (.long (x1 &&& ((((((1 : Int64) <<< (cnt &&& 0x3f).toInt64) - (1 : Int64)).toUInt64 >>> (((64 : Int32) - (pos &&& (63 : Int32))) &&& 0x3f).toInt64.toUInt64).toInt64) ^^^ (-1 : Int64)))), (.int (1 : Int32)), (.ref a)])) _
    refine XS.lor X4.here hx rfl (hb hby d1_91) rfl ?_
    show Steps p.tables e below (T4.setTop (mkF m 92 #[.val (.ref a), .val (.int pos), .val (.long val), .second, .val (.int cnt), .val (.long (((1 : Int64) <<< (cnt &&& 0x3f).toInt64) - (1 : Int64))), .second, .val (.int (0 : Int32)), .val (.int (pos &&& (63 : Int32))), .val (.int ((64 : Int32) - (pos &&& (63 : Int32))))] [(.long ((x1 &&& ((((((1 : Int64) <<< (cnt &&& 0x3f).toInt64) - (1 : Int64)).toUInt64 >>> (((64 : Int32) - (pos &&& (63 : Int32))) &&& 0x3f).toInt64.toUInt64).toInt64) ^^^ (-1 : Int64))) ||| ((val.toUInt64 >>> (((64 : Int32) - (pos &&& (63 : Int32))) &&& 0x3f).toInt64.toUInt64).toInt64))), (.int (1 : Int32)), (.ref a)])) _
    refine st8 _ ?_
    show Steps p.tables e below (T8.setTop (mkF m 93 #[.val (.ref a), .val (.int pos), .val (.long val), .second, .val (.int cnt), .val (.long (((1 : Int64) <<< (cnt &&& 0x3f).toInt64) - (1 : Int64))), .second, .val (.int (0 : Int32)), .val (.int (pos &&& (63 : Int32))), .val (.int ((64 : Int32) - (pos &&& (63 : Int32))))] [])) _
    exact kt
  obtain ⟨fs, hr, hrun, hended, hW, hsame⟩ := X8.leave (v := none) (fun _ => rfl)
  refine ⟨_, _, k9 _ ?_, hrun, hended, _, _, rfl, ?_, ⟨_, rfl⟩, hW, hsame.mono (by decide) (by decide)⟩
  · exact X8.returnOut hx Bd.returns (hb hby d1_93) hr
  · show QR Z a kc (((x0 &&& (((((1 : Int64) <<< (cnt &&& 0x3f).toInt64) - (1 : Int64)) <<< ((pos &&& (63 : Int32)) &&& 0x3f).toInt64) ^^^ (-1 : Int64))) ||| (val <<< ((pos &&& (63 : Int32)) &&& 0x3f).toInt64))) (((x1 &&& ((((((1 : Int64) <<< (cnt &&& 0x3f).toInt64) - (1 : Int64)).toUInt64 >>> (((64 : Int32) - (pos &&& (63 : Int32))) &&& 0x3f).toInt64.toUInt64).toInt64) ^^^ (-1 : Int64))) ||| ((val.toUInt64 >>> (((64 : Int32) - (pos &&& (63 : Int32))) &&& 0x3f).toInt64.toUInt64).toInt64))) (x2) h0 n0 _ T8.heap _
    rw [e8]
    exact ⟨rfl, N8, KP8, V8_a⟩
theorem ef_rm1c (m : MethodId) (a : Addr) (pos : Int32) (val : Int64) (cnt : Int32) : entryFrame m #[(.ref a), (.int pos), (.long val), (.int cnt)] 10 = mkF m 0 #[.val (.ref a), .val (.int pos), .val (.long val), .second, .val (.int cnt), .unset, .unset, .unset, .unset, .unset] [] := by first | (simp [entryFrame, mkF, argsToLocals, Value.category]; done) | rfl
set_option maxRecDepth 65536 in
set_option maxHeartbeats 40000000 in
theorem rm1c (l : Launch) (Z : State) (a0 : Array Value) (hw : ∀ d ∈ tables_1, d.before a0 Z = true) (ws : List Jvm.Cond) (a : Addr) (pos : Int32) (val : Int64) (cnt : Int32) (kc : ClassId) (x0 x1 x2 : Int64) (h0 : Heap) (n0 : Nat) (Z0 : n0 ≤ h0.size) (V0 : Arv Z h0 a kc .long (3 : Int32) [(.long x0), (.long x1), (.long x2)] (.long (0 : Int64))) (g_a : n0 ≤ a) (hz : ¬ (cnt = (0 : Int32))) (hwd : ((pos.toUInt32 >>> ((6 : Int32) &&& 31).toUInt32).toInt32) = (1 : Int32)) (hc : ¬ ((64 : Int32) < ((pos &&& (63 : Int32)) + cnt))) :
    MetFree l (⟨"com/example/parley/parley/core/PackedBits", "replace", "([JIJI)V"⟩ : MethodName) (head1 (Jvm.Cond.code (⟨"com/example/parley/parley/core/PackedBits", "replace", "([JIJI)V"⟩ : MethodName) prog_134_method_6_code 10 none :: ws) ({ frames := 0, cells := 0, slots := 0, locals := 0 } : Room)) (fun a_ U_ => a_ = #[(.ref a), (.int pos), (.long val), (.int cnt)] ∧ Z.Warmed39 U_.vm ∧ U_.heap = h0) (fun _ _ _ _ _ => True) (fun _ U_ o_ U'_ => ∃ v_ L_, o_ = .returned v_ ∧ QR Z a kc (x0) (((x1 &&& (((((1 : Int64) <<< (cnt &&& 0x3f).toInt64) - (1 : Int64)) <<< ((pos &&& (63 : Int32)) &&& 0x3f).toInt64) ^^^ (-1 : Int64))) ||| (val <<< ((pos &&& (63 : Int32)) &&& 0x3f).toInt64))) (x2) h0 n0 v_ U'_.heap L_ ∧ FrameEnd U_ o_ U'_ L_ ({ frames := 0, cells := 0, slots := 0, locals := 0 } : Room).cells ({ frames := 0, cells := 0, slots := 0, locals := 0 } : Room).slots) := by
  refine MetFree.of_bodySF (plainFor_of_name pn_1) hisR ?_
  intro p e s m args below meth c s₁ Bd hml0 hP hK
  obtain ⟨rfl, hZ, hh⟩ := hP
  have hx := Bd.exec
  have hby := Bd.bytes
  have hml : c.maxLocals = 10 := hml0
  have hown : s.vm.findClass "com/example/parley/parley/core/PackedBits" = some m.cls := findClass_of_methodNamed Bd.named
  have hnm := (name_of_methodNamed Bd.named Bd.method).1
  have X0 : Stand p l e ({ frames := 0, cells := 0, slots := 0, locals := 0 } : Room) s m #[(.ref a), (.int pos), (.long val), (.int cnt)] below meth c s₁ [] 0 0 := Stand.of_body Bd
  have e0 : s₁.heap = h0 := by rw [← hh, Bd.state]; rfl
  have N0 := Fr.nil n0
  have k0 : ∀ tg, Steps p.tables e below (s₁.setTop (mkF m 0 #[.val (.ref a), .val (.int pos), .val (.long val), .second, .val (.int cnt), .unset, .unset, .unset, .unset, .unset] [])) tg → Steps p.tables e below (s₁.setTop (entryFrame m #[(.ref a), (.int pos), (.long val), (.int cnt)] 10)) tg := fun tg k => castTop (ef_rm1c m a pos val cnt) k
  have hd1 : ¬ (cnt = (0 : Int32)) := hz
  obtain ⟨cl32_2, Ar32_2, q32_2, S32_2, N32_2_, H32_2, G32_2⟩ := id V0
  have hin32_2 : ¬ ((1 : Int32) < 0 ∨ cl32_2.slots.size ≤ ((1 : Int32)).toNatClampNeg) := inb_of S32_2 ⟨by decide, by decide⟩
  have hat32_2 : cl32_2.slots[((1 : Int32)).toNatClampNeg]? = some (.long x1) := H32_2.at hin32_2 rfl
  obtain ⟨cl48_3, Ar48_3, q48_3, S48_3, N48_3_, H48_3, G48_3⟩ := id V0
  have hin48_3 : ¬ ((1 : Int32) < 0 ∨ cl48_3.slots.size ≤ ((1 : Int32)).toNatClampNeg) := inb_of S48_3 ⟨by decide, by decide⟩
  obtain ⟨T4, h4, X4, e4, W4, st4⟩ := stJ X0 hx hZ e0 Ar48_3 (j := (1 : Int32)) hin48_3 (g := (mkF m 48 #[.val (.ref a), .val (.int pos), .val (.long val), .second, .val (.int cnt), .val (.long (((1 : Int64) <<< (cnt &&& 0x3f).toInt64) - (1 : Int64))), .second, .val (.int (1 : Int32)), .val (.int (pos &&& (63 : Int32))), .unset] [(.long ((x1 &&& (((((1 : Int64) <<< (cnt &&& 0x3f).toInt64) - (1 : Int64)) <<< ((pos &&& (63 : Int32)) &&& 0x3f).toInt64) ^^^ (-1 : Int64))) ||| (val <<< ((pos &&& (63 : Int32)) &&& 0x3f).toInt64))), (.int (1 : Int32)), (.ref a)])) rfl rfl (hb hby d1_48)
  have Z4 := Nat.le_trans Z0 (Keep.of_wr W4).1
  have KP4 := (Keep.refl h0 [a]).wr W4 (Or.inl (List.mem_of_getElem? (i := 0) rfl))
  have N4 := Fr.snoc X4 N0 g_a
  have V4_a : Arv Z h4 a kc .long (3 : Int32) [(.long x0), (.long ((x1 &&& (((((1 : Int64) <<< (cnt &&& 0x3f).toInt64) - (1 : Int64)) <<< ((pos &&& (63 : Int32)) &&& 0x3f).toInt64) ^^^ (-1 : Int64))) ||| (val <<< ((pos &&& (63 : Int32)) &&& 0x3f).toInt64))), (.long x2)] (.long (0 : Int64)) := Arv.set Ar48_3 q48_3 S48_3 N48_3_ H48_3 G48_3 rfl W4 1 rfl (Nat.le_of_ble_eq_true rfl)
  have hd5 : ¬ ((64 : Int32) < ((pos &&& (63 : Int32)) + cnt)) := hc
  have k6 : ∀ tg, Steps p.tables e below (T4.setTop (mkF m 93 #[.val (.ref a), .val (.int pos), .val (.long val), .second, .val (.int cnt), .val (.long (((1 : Int64) <<< (cnt &&& 0x3f).toInt64) - (1 : Int64))), .second, .val (.int (1 : Int32)), .val (.int (pos &&& (63 : Int32))), .unset] [])) tg → Steps p.tables e below (s₁.setTop (entryFrame m #[(.ref a), (.int pos), (.long val), (.int cnt)] 10)) tg := by
    intro tg kt
    refine k0 tg ?_
    show Steps p.tables e below (s₁.setTop (mkF m 0 #[.val (.ref a), .val (.int pos), .val (.long val), .second, .val (.int cnt), .unset, .unset, .unset, .unset, .unset] [])) _
    refine XS.iload X0.here hx rfl (hb hby d1_0) rfl ?_
    show Steps p.tables e below (s₁.setTop (mkF m 2 #[.val (.ref a), .val (.int pos), .val (.long val), .second, .val (.int cnt), .unset, .unset, .unset, .unset, .unset] [(.int cnt)])) _
    refine XS.ifYes X0.here hx rfl (pc0 := 2) (pc' := 6) rfl (hb hby d1_2) rfl ((if0 _ _).trans (feq hd1).2) (by decide) (by decide) ?_
    show Steps p.tables e below (s₁.setTop (mkF m 6 #[.val (.ref a), .val (.int pos), .val (.long val), .second, .val (.int cnt), .unset, .unset, .unset, .unset, .unset] [])) _
    refine XS.lconst X0.here hx rfl (hb hby d1_6) ?_
    show Steps p.tables e below (s₁.setTop (mkF m 7 #[.val (.ref a), .val (.int pos), .val (.long val), .second, .val (.int cnt), .unset, .unset, .unset, .unset, .unset] [(.long (1 : Int64))])) _
    refine XS.iload X0.here hx rfl (hb hby d1_7) rfl ?_
    show Steps p.tables e below (s₁.setTop (mkF m 9 #[.val (.ref a), .val (.int pos), .val (.long val), .second, .val (.int cnt), .unset, .unset, .unset, .unset, .unset] [(.int cnt), (.long (1 : Int64))])) _
    refine XS.lshl X0.here hx rfl (hb hby d1_9) rfl ?_
    show Steps p.tables e below (s₁.setTop (mkF m 10 #[.val (.ref a), .val (.int pos), .val (.long val), .second, .val (.int cnt), .unset, .unset, .unset, .unset, .unset] [(.long ((1 : Int64) <<< (cnt &&& 0x3f).toInt64))])) _
    refine XS.lconst X0.here hx rfl (hb hby d1_10) ?_
    show Steps p.tables e below (s₁.setTop (mkF m 11 #[.val (.ref a), .val (.int pos), .val (.long val), .second, .val (.int cnt), .unset, .unset, .unset, .unset, .unset] [(.long (1 : Int64)), (.long ((1 : Int64) <<< (cnt &&& 0x3f).toInt64))])) _
    refine XS.lsub X0.here hx rfl (hb hby d1_11) rfl ?_
    show Steps p.tables e below (s₁.setTop (mkF m 12 #[.val (.ref a), .val (.int pos), .val (.long val), .second, .val (.int cnt), .unset, .unset, .unset, .unset, .unset] [(.long (((1 : Int64) <<< (cnt &&& 0x3f).toInt64) - (1 : Int64)))])) _
    refine XS.lstore X0.here hx rfl (hb hby d1_12) rfl (l' := #[.val (.ref a), .val (.int pos), .val (.long val), .second, .val (.int cnt), .val (.long (((1 : Int64) <<< (cnt &&& 0x3f).toInt64) - (1 : Int64))), .second, .unset, .unset, .unset]) rfl ?_
    show Steps p.tables e below (s₁.setTop (mkF m 14 #[.val (.ref a), .val (.int pos), .val (.long val), .second, .val (.int cnt), .val (.long (((1 : Int64) <<< (cnt &&& 0x3f).toInt64) - (1 : Int64))), .second, .unset, .unset, .unset] [])) _
    refine XS.iloadN X0.here hx rfl (hb hby d1_14) rfl ?_
    show Steps p.tables e below (s₁.setTop (mkF m 15 #[.val (.ref a), .val (.int pos), .val (.long val), .second, .val (.int cnt), .val (.long (((1 : Int64) <<< (cnt &&& 0x3f).toInt64) - (1 : Int64))), .second, .unset, .unset, .unset] [(.int pos)])) _
    refine XS.bipush X0.here hx rfl (hb hby d1_15) ?_
    show Steps p.tables e below (s₁.setTop (mkF m 17 #[.val (.ref a), .val (.int pos), .val (.long val), .second, .val (.int cnt), .val (.long (((1 : Int64) <<< (cnt &&& 0x3f).toInt64) - (1 : Int64))), .second, .unset, .unset, .unset] [(.int (6 : Int32)), (.int pos)])) _
    refine XS.iushr X0.here hx rfl (hb hby d1_17) rfl ?_
    show Steps p.tables e below (s₁.setTop (mkF m 18 #[.val (.ref a), .val (.int pos), .val (.long val), .second, .val (.int cnt), .val (.long (((1 : Int64) <<< (cnt &&& 0x3f).toInt64) - (1 : Int64))), .second, .unset, .unset, .unset] [(.int ((pos.toUInt32 >>> ((6 : Int32) &&& 31).toUInt32).toInt32))])) _
    rw [hwd]
    show Steps p.tables e below (s₁.setTop (mkF m 18 #[.val (.ref a), .val (.int pos), .val (.long val), .second, .val (.int cnt), .val (.long (((1 : Int64) <<< (cnt &&& 0x3f).toInt64) - (1 : Int64))), .second, .unset, .unset, .unset] [(.int (1 : Int32))])) _
    refine XS.istore X0.here hx rfl (hb hby d1_18) rfl (l' := #[.val (.ref a), .val (.int pos), .val (.long val), .second, .val (.int cnt), .val (.long (((1 : Int64) <<< (cnt &&& 0x3f).toInt64) - (1 : Int64))), .second, .val (.int (1 : Int32)), .unset, .unset]) rfl ?_
    show Steps p.tables e below (s₁.setTop (mkF m 20 #[.val (.ref a), .val (.int pos), .val (.long val), .second, .val (.int cnt), .val (.long (((1 : Int64) <<< (cnt &&& 0x3f).toInt64) - (1 : Int64))), .second, .val (.int (1 : Int32)), .unset, .unset] [])) _
    refine XS.iloadN X0.here hx rfl (hb hby d1_20) rfl ?_
    show Steps p.tables e below (s₁.setTop (mkF m 21 #[.val (.ref a), .val (.int pos), .val (.long val), .second, .val (.int cnt), .val (.long (((1 : Int64) <<< (cnt &&& 0x3f).toInt64) - (1 : Int64))), .second, .val (.int (1 : Int32)), .unset, .unset] [(.int pos)])) _
    refine XS.bipush X0.here hx rfl (hb hby d1_21) ?_
    show Steps p.tables e below (s₁.setTop (mkF m 23 #[.val (.ref a), .val (.int pos), .val (.long val), .second, .val (.int cnt), .val (.long (((1 : Int64) <<< (cnt &&& 0x3f).toInt64) - (1 : Int64))), .second, .val (.int (1 : Int32)), .unset, .unset] [(.int (63 : Int32)), (.int pos)])) _
    refine XS.iand X0.here hx rfl (hb hby d1_23) rfl ?_
    show Steps p.tables e below (s₁.setTop (mkF m 24 #[.val (.ref a), .val (.int pos), .val (.long val), .second, .val (.int cnt), .val (.long (((1 : Int64) <<< (cnt &&& 0x3f).toInt64) - (1 : Int64))), .second, .val (.int (1 : Int32)), .unset, .unset] [(.int (pos &&& (63 : Int32)))])) _
    refine XS.istore X0.here hx rfl (hb hby d1_24) rfl (l' := #[.val (.ref a), .val (.int pos), .val (.long val), .second, .val (.int cnt), .val (.long (((1 : Int64) <<< (cnt &&& 0x3f).toInt64) - (1 : Int64))), .second, .val (.int (1 : Int32)), .val (.int (pos &&& (63 : Int32))), .unset]) rfl ?_
    show Steps p.tables e below (s₁.setTop (mkF m 26 #[.val (.ref a), .val (.int pos), .val (.long val), .second, .val (.int cnt), .val (.long (((1 : Int64) <<< (cnt &&& 0x3f).toInt64) - (1 : Int64))), .second, .val (.int (1 : Int32)), .val (.int (pos &&& (63 : Int32))), .unset] [])) _
    refine XS.aloadN X0.here hx rfl (hb hby d1_26) rfl rfl ?_
    show Steps p.tables e below (s₁.setTop (mkF m 27 #[.val (.ref a), .val (.int pos), .val (.long val), .second, .val (.int cnt), .val (.long (((1 : Int64) <<< (cnt &&& 0x3f).toInt64) - (1 : Int64))), .second, .val (.int (1 : Int32)), .val (.int (pos &&& (63 : Int32))), .unset] [(.ref a)])) _
    refine XS.iload X0.here hx rfl (hb hby d1_27) rfl ?_
    show Steps p.tables e below (s₁.setTop (mkF m 29 #[.val (.ref a), .val (.int pos), .val (.long val), .second, .val (.int cnt), .val (.long (((1 : Int64) <<< (cnt &&& 0x3f).toInt64) - (1 : Int64))), .second, .val (.int (1 : Int32)), .val (.int (pos &&& (63 : Int32))), .unset] [(.int (1 : Int32)), (.ref a)])) _
    refine XS.aloadN X0.here hx rfl (hb hby d1_29) rfl rfl ?_
    show Steps p.tables e below (s₁.setTop (mkF m 30 #[.val (.ref a), .val (.int pos), .val (.long val), .second, .val (.int cnt), .val (.long (((1 : Int64) <<< (cnt &&& 0x3f).toInt64) - (1 : Int64))), .second, .val (.int (1 : Int32)), .val (.int (pos &&& (63 : Int32))), .unset] [(.ref a), (.int (1 : Int32)), (.ref a)])) _
    refine XS.iload X0.here hx rfl (hb hby d1_30) rfl ?_
    show Steps p.tables e below (s₁.setTop (mkF m 32 #[.val (.ref a), .val (.int pos), .val (.long val), .second, .val (.int cnt), .val (.long (((1 : Int64) <<< (cnt &&& 0x3f).toInt64) - (1 : Int64))), .second, .val (.int (1 : Int32)), .val (.int (pos &&& (63 : Int32))), .unset] [(.int (1 : Int32)), (.ref a), (.int (1 : Int32)), (.ref a)])) _
    refine X0.laload hx (j := (1 : Int32)) (v := (.long x1)) (by rw [e0]; exact Ar32_2.1) (State.isArrayOf_alike hZ.alike Ar32_2.2.1) Ar32_2.2.2 hin32_2 hat32_2 (g := (mkF m 32 #[.val (.ref a), .val (.int pos), .val (.long val), .second, .val (.int cnt), .val (.long (((1 : Int64) <<< (cnt &&& 0x3f).toInt64) - (1 : Int64))), .second, .val (.int (1 : Int32)), .val (.int (pos &&& (63 : Int32))), .unset] [(.int (1 : Int32)), (.ref a), (.int (1 : Int32)), (.ref a)])) rfl rfl (hb hby d1_32) _ ?_
    show Steps p.tables e below (s₁.setTop (mkF m 33 #[.val (.ref a), .val (.int pos), .val (.long val), .second, .val (.int cnt), .val (.long (((1 : Int64) <<< (cnt &&& 0x3f).toInt64) - (1 : Int64))), .second, .val (.int (1 : Int32)), .val (.int (pos &&& (63 : Int32))), .unset] [(.long x1), (.int (1 : Int32)), (.ref a)])) _
    refine XS.lload X0.here hx rfl (hb hby d1_33) rfl ?_
    show Steps p.tables e below (s₁.setTop (mkF m 35 #[.val (.ref a), .val (.int pos), .val (.long val), .second, .val (.int cnt), .val (.long (((1 : Int64) <<< (cnt &&& 0x3f).toInt64) - (1 : Int64))), .second, .val (.int (1 : Int32)), .val (.int (pos &&& (63 : Int32))), .unset] [(.long (((1 : Int64) <<< (cnt &&& 0x3f).toInt64) - (1 : Int64))), (.long x1), (.int (1 : Int32)), (.ref a)])) _
    refine XS.iload X0.here hx rfl (hb hby d1_35) rfl ?_
    show Steps p.tables e below (s₁.setTop (mkF m 37 #[.val (.ref a), .val (.int pos), .val (.long val), .second, .val (.int cnt), .val (.long (((1 : Int64) <<< (cnt &&& 0x3f).toInt64) - (1 : Int64))), .second, .val (.int (1 : Int32)), .val (.int (pos &&& (63 : Int32))), .unset] [(.int (pos &&& (63 : Int32))), (.long (((1 : Int64) <<< (cnt &&& 0x3f).toInt64) - (1 : Int64))), (.long x1), (.int (1 : Int32)), (.ref a)])) _
    refine XS.lshl X0.here hx rfl (hb hby d1_37) rfl ?_
    show Steps p.tables e below (s₁.setTop (mkF m 38 #[.val (.ref a), .val (.int pos), .val (.long val), .second, .val (.int cnt), .val (.long (((1 : Int64) <<< (cnt &&& 0x3f).toInt64) - (1 : Int64))), .second, .val (.int (1 : Int32)), .val (.int (pos &&& (63 : Int32))), .unset] [(.long ((((1 : Int64) <<< (cnt &&& 0x3f).toInt64) - (1 : Int64)) <<< ((pos &&& (63 : Int32)) &&& 0x3f).toInt64)), (.long x1), (.int (1 : Int32)), (.ref a)])) _
    refine X0.ldc2Long hx hown (mvT hZ (hw _ (List.mem_of_getElem? (i := 16) rfl))) (g := (mkF m 38 #[.val (.ref a), .val (.int pos), .val (.long val), .second, .val (.int cnt), .val (.long (((1 : Int64) <<< (cnt &&& 0x3f).toInt64) - (1 : Int64))), .second, .val (.int (1 : Int32)), .val (.int (pos &&& (63 : Int32))), .unset] [(.long ((((1 : Int64) <<< (cnt &&& 0x3f).toInt64) - (1 : Int64)) <<< ((pos &&& (63 : Int32)) &&& 0x3f).toInt64)), (.long x1), (.int (1 : Int32)), (.ref a)])) rfl (hb hby d1_38) _ ?_
    show Steps p.tables e below (s₁.setTop (mkF m 41 #[.val (.ref a), .val (.int pos), .val (.long val), .second, .val (.int cnt), .val (.long (((1 : Int64) <<< (cnt &&& 0x3f).toInt64) - (1 : Int64))), .second, .val (.int (1 : Int32)), .val (.int (pos &&& (63 : Int32))), .unset] [(.long (-1 : Int64)), (.long ((((1 : Int64) <<< (cnt &&& 0x3f).toInt64) - (1 : Int64)) <<< ((pos &&& (63 : Int32)) &&& 0x3f).toInt64)), (.long x1), (.int (1 : Int32)), (.ref a)])) _
    refine XS.lxor X0.here hx rfl (hb hby d1_41) rfl ?_
    show Steps p.tables e below (s₁.setTop (mkF m 42 #[.val (.ref a), .val (.int pos), .val (.long val), .second, .val (.int cnt), .val (.long (((1 : Int64) <<< (cnt &&& 0x3f).toInt64) - (1 : Int64))), .second, .val (.int (1 : Int32)), .val (.int (pos &&& (63 : Int32))), .unset] [(.long (((((1 : Int64) <<< (cnt &&& 0x3f).toInt64) - (1 : Int64)) <<< ((pos &&& (63 : Int32)) &&& 0x3f).toInt64) ^^^ (-1 : Int64))), (.long x1), (.int (1 : Int32)), (.ref a)])) _
    refine XS.land X0.here hx rfl (hb hby d1_42) rfl ?_
    show Steps p.tables e below (s₁.setTop (mkF m 43 #[.val (.ref a), .val (.int pos), .val (.long val), .second, .val (.int cnt), .val (.long (((1 : Int64) <<< (cnt &&& 0x3f).toInt64) - (1 : Int64))), .second, .val (.int (1 : Int32)), .val (.int (pos &&& (63 : Int32))), .unset] [(.long (x1 &&& (((((1 : Int64) <<< (cnt &&& 0x3f).toInt64) - (1 : Int64)) <<< ((pos &&& (63 : Int32)) &&& 0x3f).toInt64) ^^^ (-1 : Int64)))), (.int (1 : Int32)), (.ref a)])) _
    refine XS.lloadN X0.here hx rfl (hb hby d1_43) rfl ?_
    show Steps p.tables e below (s₁.setTop (mkF m 44 #[.val (.ref a), .val (.int pos), .val (.long val), .second, .val (.int cnt), .val (.long (((1 : Int64) <<< (cnt &&& 0x3f).toInt64) - (1 : Int64))), .second, .val (.int (1 : Int32)), .val (.int (pos &&& (63 : Int32))), .unset] [(.long val), (.long (x1 &&& (((((1 : Int64) <<< (cnt &&& 0x3f).toInt64) - (1 : Int64)) <<< ((pos &&& (63 : Int32)) &&& 0x3f).toInt64) ^^^ (-1 : Int64)))), (.int (1 : Int32)), (.ref a)])) _
    refine XS.iload X0.here hx rfl (hb hby d1_44) rfl ?_
    show Steps p.tables e below (s₁.setTop (mkF m 46 #[.val (.ref a), .val (.int pos), .val (.long val), .second, .val (.int cnt), .val (.long (((1 : Int64) <<< (cnt &&& 0x3f).toInt64) - (1 : Int64))), .second, .val (.int (1 : Int32)), .val (.int (pos &&& (63 : Int32))), .unset] [(.int (pos &&& (63 : Int32))), (.long val), (.long (x1 &&& (((((1 : Int64) <<< (cnt &&& 0x3f).toInt64) - (1 : Int64)) <<< ((pos &&& (63 : Int32)) &&& 0x3f).toInt64) ^^^ (-1 : Int64)))), (.int (1 : Int32)), (.ref a)])) _
    refine XS.lshl X0.here hx rfl (hb hby d1_46) rfl ?_
    show Steps p.tables e below (s₁.setTop (mkF m 47 #[.val (.ref a), .val (.int pos), .val (.long val), .second, .val (.int cnt), .val (.long (((1 : Int64) <<< (cnt &&& 0x3f).toInt64) - (1 : Int64))), .second, .val (.int (1 : Int32)), .val (.int (pos &&& (63 : Int32))), .unset] [(.long (val <<< ((pos &&& (63 : Int32)) &&& 0x3f).toInt64)), (.long (x1 &&& (((((1 : Int64) <<< (cnt &&& 0x3f).toInt64) - (1 : Int64)) <<< ((pos &&& (63 : Int32)) &&& 0x3f).toInt64) ^^^ (-1 : Int64)))), (.int (1 : Int32)), (.ref a)])) _
    refine XS.lor X0.here hx rfl (hb hby d1_47) rfl ?_
    show Steps p.tables e below (s₁.setTop (mkF m 48 #[.val (.ref a), .val (.int pos), .val (.long val), .second, .val (.int cnt), .val (.long (((1 : Int64) <<< (cnt &&& 0x3f).toInt64) - (1 : Int64))), .second, .val (.int (1 : Int32)), .val (.int (pos &&& (63 : Int32))), .unset] [(.long ((x1 &&& (((((1 : Int64) <<< (cnt &&& 0x3f).toInt64) - (1 : Int64)) <<< ((pos &&& (63 : Int32)) &&& 0x3f).toInt64) ^^^ (-1 : Int64))) ||| (val <<< ((pos &&& (63 : Int32)) &&& 0x3f).toInt64))), (.int (1 : Int32)), (.ref a)])) _
    refine st4 _ ?_
    show Steps p.tables e below (T4.setTop (mkF m 49 #[.val (.ref a), .val (.int pos), .val (.long val), .second, .val (.int cnt), .val (.long (((1 : Int64) <<< (cnt &&& 0x3f).toInt64) - (1 : Int64))), .second, .val (.int (1 : Int32)), .val (.int (pos &&& (63 : Int32))), .unset] [])) _
    refine XS.iload X4.here hx rfl (hb hby d1_49) rfl ?_
    show Steps p.tables e below (T4.setTop (mkF m 51 #[.val (.ref a), .val (.int pos), .val (.long val), .second, .val (.int cnt), .val (.long (((1 : Int64) <<< (cnt &&& 0x3f).toInt64) - (1 : Int64))), .second, .val (.int (1 : Int32)), .val (.int (pos &&& (63 : Int32))), .unset] [(.int (pos &&& (63 : Int32)))])) _
    refine XS.iload X4.here hx rfl (hb hby d1_51) rfl ?_
    show Steps p.tables e below (T4.setTop (mkF m 53 #[.val (.ref a), .val (.int pos), .val (.long val), .second, .val (.int cnt), .val (.long (((1 : Int64) <<< (cnt &&& 0x3f).toInt64) - (1 : Int64))), .second, .val (.int (1 : Int32)), .val (.int (pos &&& (63 : Int32))), .unset] [(.int cnt), (.int (pos &&& (63 : Int32)))])) _
    refine XS.iadd X4.here hx rfl (hb hby d1_53) rfl ?_
    show Steps p.tables e below (T4.setTop (mkF m 54 #[.val (.ref a), .val (.int pos), .val (.long val), .second, .val (.int cnt), .val (.long (((1 : Int64) <<< (cnt &&& 0x3f).toInt64) - (1 : Int64))), .second, .val (.int (1 : Int32)), .val (.int (pos &&& (63 : Int32))), .unset] [(.int ((pos &&& (63 : Int32)) + cnt))])) _
    refine XS.bipush X4.here hx rfl (hb hby d1_54) ?_
    show Steps p.tables e below (T4.setTop (mkF m 56 #[.val (.ref a), .val (.int pos), .val (.long val), .second, .val (.int cnt), .val (.long (((1 : Int64) <<< (cnt &&& 0x3f).toInt64) - (1 : Int64))), .second, .val (.int (1 : Int32)), .val (.int (pos &&& (63 : Int32))), .unset] [(.int (64 : Int32)), (.int ((pos &&& (63 : Int32)) + cnt))])) _
    refine XS.icmpYes X4.here hx rfl (pc0 := 56) (pc' := 93) rfl (hb hby d1_56) rfl (flt hd5).2.2.2 (by decide) (by decide) ?_
    show Steps p.tables e below (T4.setTop (mkF m 93 #[.val (.ref a), .val (.int pos), .val (.long val), .second, .val (.int cnt), .val (.long (((1 : Int64) <<< (cnt &&& 0x3f).toInt64) - (1 : Int64))), .second, .val (.int (1 : Int32)), .val (.int (pos &&& (63 : Int32))), .unset] [])) _
    exact kt
  obtain ⟨fs, hr, hrun, hended, hW, hsame⟩ := X4.leave (v := none) (fun _ => rfl)
  refine ⟨_, _, k6 _ ?_, hrun, hended, _, _, rfl, ?_, ⟨_, rfl⟩, hW, hsame.mono (by decide) (by decide)⟩
  · exact X4.returnOut hx Bd.returns (hb hby d1_93) hr
  · show QR Z a kc (x0) (((x1 &&& (((((1 : Int64) <<< (cnt &&& 0x3f).toInt64) - (1 : Int64)) <<< ((pos &&& (63 : Int32)) &&& 0x3f).toInt64) ^^^ (-1 : Int64))) ||| (val <<< ((pos &&& (63 : Int32)) &&& 0x3f).toInt64))) (x2) h0 n0 _ T4.heap _
    rw [e4]
    exact ⟨rfl, N4, KP4, V4_a⟩
theorem ef_rm1d (m : MethodId) (a : Addr) (pos : Int32) (val : Int64) (cnt : Int32) : entryFrame m #[(.ref a), (.int pos), (.long val), (.int cnt)] 10 = mkF m 0 #[.val (.ref a), .val (.int pos), .val (.long val), .second, .val (.int cnt), .unset, .unset, .unset, .unset, .unset] [] := by first | (simp [entryFrame, mkF, argsToLocals, Value.category]; done) | rfl
set_option maxRecDepth 65536 in
set_option maxHeartbeats 40000000 in
theorem rm1d (l : Launch) (Z : State) (a0 : Array Value) (hw : ∀ d ∈ tables_1, d.before a0 Z = true) (ws : List Jvm.Cond) (a : Addr) (pos : Int32) (val : Int64) (cnt : Int32) (kc : ClassId) (x0 x1 x2 : Int64) (h0 : Heap) (n0 : Nat) (Z0 : n0 ≤ h0.size) (V0 : Arv Z h0 a kc .long (3 : Int32) [(.long x0), (.long x1), (.long x2)] (.long (0 : Int64))) (g_a : n0 ≤ a) (hz : ¬ (cnt = (0 : Int32))) (hwd : ((pos.toUInt32 >>> ((6 : Int32) &&& 31).toUInt32).toInt32) = (1 : Int32)) (hc : (64 : Int32) < ((pos &&& (63 : Int32)) + cnt)) :
    MetFree l (⟨"com/example/parley/parley/core/PackedBits", "replace", "([JIJI)V"⟩ : MethodName) (head1 (Jvm.Cond.code (⟨"com/example/parley/parley/core/PackedBits", "replace", "([JIJI)V"⟩ : MethodName) prog_134_method_6_code 10 none :: ws) ({ frames := 0, cells := 0, slots := 0, locals := 0 } : Room)) (fun a_ U_ => a_ = #[(.ref a), (.int pos), (.long val), (.int cnt)] ∧ Z.Warmed39 U_.vm ∧ U_.heap = h0) (fun _ _ _ _ _ => True) (fun _ U_ o_ U'_ => ∃ v_ L_, o_ = .returned v_ ∧ QR Z a kc (x0) (((x1 &&& (((((1 : Int64) <<< (cnt &&& 0x3f).toInt64) - (1 : Int64)) <<< ((pos &&& (63 : Int32)) &&& 0x3f).toInt64) ^^^ (-1 : Int64))) ||| (val <<< ((pos &&& (63 : Int32)) &&& 0x3f).toInt64))) (((x2 &&& ((((((1 : Int64) <<< (cnt &&& 0x3f).toInt64) - (1 : Int64)).toUInt64 >>> (((64 : Int32) - (pos &&& (63 : Int32))) &&& 0x3f).toInt64.toUInt64).toInt64) ^^^ (-1 : Int64))) ||| ((val.toUInt64 >>> (((64 : Int32) - (pos &&& (63 : Int32))) &&& 0x3f).toInt64.toUInt64).toInt64))) h0 n0 v_ U'_.heap L_ ∧ FrameEnd U_ o_ U'_ L_ ({ frames := 0, cells := 0, slots := 0, locals := 0 } : Room).cells ({ frames := 0, cells := 0, slots := 0, locals := 0 } : Room).slots) := by
  refine MetFree.of_bodySF (plainFor_of_name pn_1) hisR ?_
  intro p e s m args below meth c s₁ Bd hml0 hP hK
  obtain ⟨rfl, hZ, hh⟩ := hP
  have hx := Bd.exec
  have hby := Bd.bytes
  have hml : c.maxLocals = 10 := hml0
  have hown : s.vm.findClass "com/example/parley/parley/core/PackedBits" = some m.cls := findClass_of_methodNamed Bd.named
  have hnm := (name_of_methodNamed Bd.named Bd.method).1
  have X0 : Stand p l e ({ frames := 0, cells := 0, slots := 0, locals := 0 } : Room) s m #[(.ref a), (.int pos), (.long val), (.int cnt)] below meth c s₁ [] 0 0 := Stand.of_body Bd
  have e0 : s₁.heap = h0 := by rw [← hh, Bd.state]; rfl
  have N0 := Fr.nil n0
  have k0 : ∀ tg, Steps p.tables e below (s₁.setTop (mkF m 0 #[.val (.ref a), .val (.int pos), .val (.long val), .second, .val (.int cnt), .unset, .unset, .unset, .unset, .unset] [])) tg → Steps p.tables e below (s₁.setTop (entryFrame m #[(.ref a), (.int pos), (.long val), (.int cnt)] 10)) tg := fun tg k => castTop (ef_rm1d m a pos val cnt) k
  have hd1 : ¬ (cnt = (0 : Int32)) := hz
  obtain ⟨cl32_2, Ar32_2, q32_2, S32_2, N32_2_, H32_2, G32_2⟩ := id V0
  have hin32_2 : ¬ ((1 : Int32) < 0 ∨ cl32_2.slots.size ≤ ((1 : Int32)).toNatClampNeg) := inb_of S32_2 ⟨by decide, by decide⟩
  have hat32_2 : cl32_2.slots[((1 : Int32)).toNatClampNeg]? = some (.long x1) := H32_2.at hin32_2 rfl
  obtain ⟨cl48_3, Ar48_3, q48_3, S48_3, N48_3_, H48_3, G48_3⟩ := id V0
  have hin48_3 : ¬ ((1 : Int32) < 0 ∨ cl48_3.slots.size ≤ ((1 : Int32)).toNatClampNeg) := inb_of S48_3 ⟨by decide, by decide⟩
  obtain ⟨T4, h4, X4, e4, W4, st4⟩ := stJ X0 hx hZ e0 Ar48_3 (j := (1 : Int32)) hin48_3 (g := (mkF m 48 #[.val (.ref a), .val (.int pos), .val (.long val), .second, .val (.int cnt), .val (.long (((1 : Int64) <<< (cnt &&& 0x3f).toInt64) - (1 : Int64))), .second, .val (.int (1 : Int32)), .val (.int (pos &&& (63 : Int32))), .unset] [(.long ((x1 &&& (((((1 : Int64) <<< (cnt &&& 0x3f).toInt64) - (1 : Int64)) <<< ((pos &&& (63 : Int32)) &&& 0x3f).toInt64) ^^^ (-1 : Int64))) ||| (val <<< ((pos &&& (63 : Int32)) &&& 0x3f).toInt64))), (.int (1 : Int32)), (.ref a)])) rfl rfl (hb hby d1_48)
  have Z4 := Nat.le_trans Z0 (Keep.of_wr W4).1
  have KP4 := (Keep.refl h0 [a]).wr W4 (Or.inl (List.mem_of_getElem? (i := 0) rfl))
  have N4 := Fr.snoc X4 N0 g_a
  have V4_a : Arv Z h4 a kc .long (3 : Int32) [(.long x0), (.long ((x1 &&& (((((1 : Int64) <<< (cnt &&& 0x3f).toInt64) - (1 : Int64)) <<< ((pos &&& (63 : Int32)) &&& 0x3f).toInt64) ^^^ (-1 : Int64))) ||| (val <<< ((pos &&& (63 : Int32)) &&& 0x3f).toInt64))), (.long x2)] (.long (0 : Int64)) := Arv.set Ar48_3 q48_3 S48_3 N48_3_ H48_3 G48_3 rfl W4 1 rfl (Nat.le_of_ble_eq_true rfl)
  have hd5 : (64 : Int32) < ((pos &&& (63 : Int32)) + cnt) := hc
  obtain ⟨cl76_6, Ar76_6, q76_6, S76_6, N76_6_, H76_6, G76_6⟩ := id V4_a
  have hin76_6 : ¬ ((2 : Int32) < 0 ∨ cl76_6.slots.size ≤ ((2 : Int32)).toNatClampNeg) := inb_of S76_6 ⟨by decide, by decide⟩
  have hat76_6 : cl76_6.slots[((2 : Int32)).toNatClampNeg]? = some (.long x2) := H76_6.at hin76_6 rfl
  obtain ⟨cl92_7, Ar92_7, q92_7, S92_7, N92_7_, H92_7, G92_7⟩ := id V4_a
  have hin92_7 : ¬ ((2 : Int32) < 0 ∨ cl92_7.slots.size ≤ ((2 : Int32)).toNatClampNeg) := inb_of S92_7 ⟨by decide, by decide⟩
  obtain ⟨T8, h8, X8, e8, W8, st8⟩ := stJ X4 hx hZ e4 Ar92_7 (j := (2 : Int32)) hin92_7 (g := (mkF m 92 #[.val (.ref a), .val (.int pos), .val (.long val), .second, .val (.int cnt), .val (.long (((1 : Int64) <<< (cnt &&& 0x3f).toInt64) - (1 : Int64))), .second, .val (.int (1 : Int32)), .val (.int (pos &&& (63 : Int32))), .val (.int ((64 : Int32) - (pos &&& (63 : Int32))))] [(.long ((x2 &&& ((((((1 : Int64) <<< (cnt &&& 0x3f).toInt64) - (1 : Int64)).toUInt64 >>> (((64 : Int32) - (pos &&& (63 : Int32))) &&& 0x3f).toInt64.toUInt64).toInt64) ^^^ (-1 : Int64))) ||| ((val.toUInt64 >>> (((64 : Int32) - (pos &&& (63 : Int32))) &&& 0x3f).toInt64.toUInt64).toInt64))), (.int (2 : Int32)), (.ref a)])) rfl rfl (hb hby d1_92)
  have Z8 := Nat.le_trans Z4 (Keep.of_wr W8).1
  have KP8 := KP4.wr W8 (Or.inl (List.mem_of_getElem? (i := 0) rfl))
  have N8 := Fr.snoc X8 N4 g_a
  have V8_a : Arv Z h8 a kc .long (3 : Int32) [(.long x0), (.long ((x1 &&& (((((1 : Int64) <<< (cnt &&& 0x3f).toInt64) - (1 : Int64)) <<< ((pos &&& (63 : Int32)) &&& 0x3f).toInt64) ^^^ (-1 : Int64))) ||| (val <<< ((pos &&& (63 : Int32)) &&& 0x3f).toInt64))), (.long ((x2 &&& ((((((1 : Int64) <<< (cnt &&& 0x3f).toInt64) - (1 : Int64)).toUInt64 >>> (((64 : Int32) - (pos &&& (63 : Int32))) &&& 0x3f).toInt64.toUInt64).toInt64) ^^^ (-1 : Int64))) ||| ((val.toUInt64 >>> (((64 : Int32) - (pos &&& (63 : Int32))) &&& 0x3f).toInt64.toUInt64).toInt64)))] (.long (0 : Int64)) := Arv.set Ar92_7 q92_7 S92_7 N92_7_ H92_7 G92_7 rfl W8 2 rfl (Nat.le_of_ble_eq_true rfl)
  have k9 : ∀ tg, Steps p.tables e below (T8.setTop (mkF m 93 #[.val (.ref a), .val (.int pos), .val (.long val), .second, .val (.int cnt), .val (.long (((1 : Int64) <<< (cnt &&& 0x3f).toInt64) - (1 : Int64))), .second, .val (.int (1 : Int32)), .val (.int (pos &&& (63 : Int32))), .val (.int ((64 : Int32) - (pos &&& (63 : Int32))))] [])) tg → Steps p.tables e below (s₁.setTop (entryFrame m #[(.ref a), (.int pos), (.long val), (.int cnt)] 10)) tg := by
    intro tg kt
    refine k0 tg ?_
    show Steps p.tables e below (s₁.setTop (mkF m 0 #[.val (.ref a), .val (.int pos), .val (.long val), .second, .val (.int cnt), .unset, .unset, .unset, .unset, .unset] [])) _
    refine XS.iload X0.here hx rfl (hb hby d1_0) rfl ?_
    show Steps p.tables e below (s₁.setTop (mkF m 2 #[.val (.ref a), .val (.int pos), .val (.long val), .second, .val (.int cnt), .unset, .unset, .unset, .unset, .unset] [(.int cnt)])) _
    refine XS.ifYes X0.here hx rfl (pc0 := 2) (pc' := 6) rfl (hb hby d1_2) rfl ((if0 _ _).trans (feq hd1).2) (by decide) (by decide) ?_
    show Steps p.tables e below (s₁.setTop (mkF m 6 #[.val (.ref a), .val (.int pos), .val (.long val), .second, .val (.int cnt), .unset, .unset, .unset, .unset, .unset] [])) _
    refine XS.lconst X0.here hx rfl (hb hby d1_6) ?_
    show Steps p.tables e below (s₁.setTop (mkF m 7 #[.val (.ref a), .val (.int pos), .val (.long val), .second, .val (.int cnt), .unset, .unset, .unset, .unset, .unset] [(.long (1 : Int64))])) _
    refine XS.iload X0.here hx rfl (hb hby d1_7) rfl ?_
    show Steps p.tables e below (s₁.setTop (mkF m 9 #[.val (.ref a), .val (.int pos), .val (.long val), .second, .val (.int cnt), .unset, .unset, .unset, .unset, .unset] [(.int cnt), (.long (1 : Int64))])) _
    refine XS.lshl X0.here hx rfl (hb hby d1_9) rfl ?_
    show Steps p.tables e below (s₁.setTop (mkF m 10 #[.val (.ref a), .val (.int pos), .val (.long val), .second, .val (.int cnt), .unset, .unset, .unset, .unset, .unset] [(.long ((1 : Int64) <<< (cnt &&& 0x3f).toInt64))])) _
    refine XS.lconst X0.here hx rfl (hb hby d1_10) ?_
    show Steps p.tables e below (s₁.setTop (mkF m 11 #[.val (.ref a), .val (.int pos), .val (.long val), .second, .val (.int cnt), .unset, .unset, .unset, .unset, .unset] [(.long (1 : Int64)), (.long ((1 : Int64) <<< (cnt &&& 0x3f).toInt64))])) _
    refine XS.lsub X0.here hx rfl (hb hby d1_11) rfl ?_
    show Steps p.tables e below (s₁.setTop (mkF m 12 #[.val (.ref a), .val (.int pos), .val (.long val), .second, .val (.int cnt), .unset, .unset, .unset, .unset, .unset] [(.long (((1 : Int64) <<< (cnt &&& 0x3f).toInt64) - (1 : Int64)))])) _
    refine XS.lstore X0.here hx rfl (hb hby d1_12) rfl (l' := #[.val (.ref a), .val (.int pos), .val (.long val), .second, .val (.int cnt), .val (.long (((1 : Int64) <<< (cnt &&& 0x3f).toInt64) - (1 : Int64))), .second, .unset, .unset, .unset]) rfl ?_
    show Steps p.tables e below (s₁.setTop (mkF m 14 #[.val (.ref a), .val (.int pos), .val (.long val), .second, .val (.int cnt), .val (.long (((1 : Int64) <<< (cnt &&& 0x3f).toInt64) - (1 : Int64))), .second, .unset, .unset, .unset] [])) _
    refine XS.iloadN X0.here hx rfl (hb hby d1_14) rfl ?_
    show Steps p.tables e below (s₁.setTop (mkF m 15 #[.val (.ref a), .val (.int pos), .val (.long val), .second, .val (.int cnt), .val (.long (((1 : Int64) <<< (cnt &&& 0x3f).toInt64) - (1 : Int64))), .second, .unset, .unset, .unset] [(.int pos)])) _
    refine XS.bipush X0.here hx rfl (hb hby d1_15) ?_
    show Steps p.tables e below (s₁.setTop (mkF m 17 #[.val (.ref a), .val (.int pos), .val (.long val), .second, .val (.int cnt), .val (.long (((1 : Int64) <<< (cnt &&& 0x3f).toInt64) - (1 : Int64))), .second, .unset, .unset, .unset] [(.int (6 : Int32)), (.int pos)])) _
    refine XS.iushr X0.here hx rfl (hb hby d1_17) rfl ?_
    show Steps p.tables e below (s₁.setTop (mkF m 18 #[.val (.ref a), .val (.int pos), .val (.long val), .second, .val (.int cnt), .val (.long (((1 : Int64) <<< (cnt &&& 0x3f).toInt64) - (1 : Int64))), .second, .unset, .unset, .unset] [(.int ((pos.toUInt32 >>> ((6 : Int32) &&& 31).toUInt32).toInt32))])) _
    rw [hwd]
    show Steps p.tables e below (s₁.setTop (mkF m 18 #[.val (.ref a), .val (.int pos), .val (.long val), .second, .val (.int cnt), .val (.long (((1 : Int64) <<< (cnt &&& 0x3f).toInt64) - (1 : Int64))), .second, .unset, .unset, .unset] [(.int (1 : Int32))])) _
    refine XS.istore X0.here hx rfl (hb hby d1_18) rfl (l' := #[.val (.ref a), .val (.int pos), .val (.long val), .second, .val (.int cnt), .val (.long (((1 : Int64) <<< (cnt &&& 0x3f).toInt64) - (1 : Int64))), .second, .val (.int (1 : Int32)), .unset, .unset]) rfl ?_
    show Steps p.tables e below (s₁.setTop (mkF m 20 #[.val (.ref a), .val (.int pos), .val (.long val), .second, .val (.int cnt), .val (.long (((1 : Int64) <<< (cnt &&& 0x3f).toInt64) - (1 : Int64))), .second, .val (.int (1 : Int32)), .unset, .unset] [])) _
    refine XS.iloadN X0.here hx rfl (hb hby d1_20) rfl ?_
    show Steps p.tables e below (s₁.setTop (mkF m 21 #[.val (.ref a), .val (.int pos), .val (.long val), .second, .val (.int cnt), .val (.long (((1 : Int64) <<< (cnt &&& 0x3f).toInt64) - (1 : Int64))), .second, .val (.int (1 : Int32)), .unset, .unset] [(.int pos)])) _
    refine XS.bipush X0.here hx rfl (hb hby d1_21) ?_
    show Steps p.tables e below (s₁.setTop (mkF m 23 #[.val (.ref a), .val (.int pos), .val (.long val), .second, .val (.int cnt), .val (.long (((1 : Int64) <<< (cnt &&& 0x3f).toInt64) - (1 : Int64))), .second, .val (.int (1 : Int32)), .unset, .unset] [(.int (63 : Int32)), (.int pos)])) _
    refine XS.iand X0.here hx rfl (hb hby d1_23) rfl ?_
    show Steps p.tables e below (s₁.setTop (mkF m 24 #[.val (.ref a), .val (.int pos), .val (.long val), .second, .val (.int cnt), .val (.long (((1 : Int64) <<< (cnt &&& 0x3f).toInt64) - (1 : Int64))), .second, .val (.int (1 : Int32)), .unset, .unset] [(.int (pos &&& (63 : Int32)))])) _
    refine XS.istore X0.here hx rfl (hb hby d1_24) rfl (l' := #[.val (.ref a), .val (.int pos), .val (.long val), .second, .val (.int cnt), .val (.long (((1 : Int64) <<< (cnt &&& 0x3f).toInt64) - (1 : Int64))), .second, .val (.int (1 : Int32)), .val (.int (pos &&& (63 : Int32))), .unset]) rfl ?_
    show Steps p.tables e below (s₁.setTop (mkF m 26 #[.val (.ref a), .val (.int pos), .val (.long val), .second, .val (.int cnt), .val (.long (((1 : Int64) <<< (cnt &&& 0x3f).toInt64) - (1 : Int64))), .second, .val (.int (1 : Int32)), .val (.int (pos &&& (63 : Int32))), .unset] [])) _
    refine XS.aloadN X0.here hx rfl (hb hby d1_26) rfl rfl ?_
    show Steps p.tables e below (s₁.setTop (mkF m 27 #[.val (.ref a), .val (.int pos), .val (.long val), .second, .val (.int cnt), .val (.long (((1 : Int64) <<< (cnt &&& 0x3f).toInt64) - (1 : Int64))), .second, .val (.int (1 : Int32)), .val (.int (pos &&& (63 : Int32))), .unset] [(.ref a)])) _
    refine XS.iload X0.here hx rfl (hb hby d1_27) rfl ?_
    show Steps p.tables e below (s₁.setTop (mkF m 29 #[.val (.ref a), .val (.int pos), .val (.long val), .second, .val (.int cnt), .val (.long (((1 : Int64) <<< (cnt &&& 0x3f).toInt64) - (1 : Int64))), .second, .val (.int (1 : Int32)), .val (.int (pos &&& (63 : Int32))), .unset] [(.int (1 : Int32)), (.ref a)])) _
    refine XS.aloadN X0.here hx rfl (hb hby d1_29) rfl rfl ?_
    show Steps p.tables e below (s₁.setTop (mkF m 30 #[.val (.ref a), .val (.int pos), .val (.long val), .second, .val (.int cnt), .val (.long (((1 : Int64) <<< (cnt &&& 0x3f).toInt64) - (1 : Int64))), .second, .val (.int (1 : Int32)), .val (.int (pos &&& (63 : Int32))), .unset] [(.ref a), (.int (1 : Int32)), (.ref a)])) _
    refine XS.iload X0.here hx rfl (hb hby d1_30) rfl ?_
    show Steps p.tables e below (s₁.setTop (mkF m 32 #[.val (.ref a), .val (.int pos), .val (.long val), .second, .val (.int cnt), .val (.long (((1 : Int64) <<< (cnt &&& 0x3f).toInt64) - (1 : Int64))), .second, .val (.int (1 : Int32)), .val (.int (pos &&& (63 : Int32))), .unset] [(.int (1 : Int32)), (.ref a), (.int (1 : Int32)), (.ref a)])) _
    refine X0.laload hx (j := (1 : Int32)) (v := (.long x1)) (by rw [e0]; exact Ar32_2.1) (State.isArrayOf_alike hZ.alike Ar32_2.2.1) Ar32_2.2.2 hin32_2 hat32_2 (g := (mkF m 32 #[.val (.ref a), .val (.int pos), .val (.long val), .second, .val (.int cnt), .val (.long (((1 : Int64) <<< (cnt &&& 0x3f).toInt64) - (1 : Int64))), .second, .val (.int (1 : Int32)), .val (.int (pos &&& (63 : Int32))), .unset] [(.int (1 : Int32)), (.ref a), (.int (1 : Int32)), (.ref a)])) rfl rfl (hb hby d1_32) _ ?_
    show Steps p.tables e below (s₁.setTop (mkF m 33 #[.val (.ref a), .val (.int pos), .val (.long val), .second, .val (.int cnt), .val (.long (((1 : Int64) <<< (cnt &&& 0x3f).toInt64) - (1 : Int64))), .second, .val (.int (1 : Int32)), .val (.int (pos &&& (63 : Int32))), .unset] [(.long x1), (.int (1 : Int32)), (.ref a)])) _
    refine XS.lload X0.here hx rfl (hb hby d1_33) rfl ?_
    show Steps p.tables e below (s₁.setTop (mkF m 35 #[.val (.ref a), .val (.int pos), .val (.long val), .second, .val (.int cnt), .val (.long (((1 : Int64) <<< (cnt &&& 0x3f).toInt64) - (1 : Int64))), .second, .val (.int (1 : Int32)), .val (.int (pos &&& (63 : Int32))), .unset] [(.long (((1 : Int64) <<< (cnt &&& 0x3f).toInt64) - (1 : Int64))), (.long x1), (.int (1 : Int32)), (.ref a)])) _
    refine XS.iload X0.here hx rfl (hb hby d1_35) rfl ?_
    show Steps p.tables e below (s₁.setTop (mkF m 37 #[.val (.ref a), .val (.int pos), .val (.long val), .second, .val (.int cnt), .val (.long (((1 : Int64) <<< (cnt &&& 0x3f).toInt64) - (1 : Int64))), .second, .val (.int (1 : Int32)), .val (.int (pos &&& (63 : Int32))), .unset] [(.int (pos &&& (63 : Int32))), (.long (((1 : Int64) <<< (cnt &&& 0x3f).toInt64) - (1 : Int64))), (.long x1), (.int (1 : Int32)), (.ref a)])) _
    refine XS.lshl X0.here hx rfl (hb hby d1_37) rfl ?_
    show Steps p.tables e below (s₁.setTop (mkF m 38 #[.val (.ref a), .val (.int pos), .val (.long val), .second, .val (.int cnt), .val (.long (((1 : Int64) <<< (cnt &&& 0x3f).toInt64) - (1 : Int64))), .second, .val (.int (1 : Int32)), .val (.int (pos &&& (63 : Int32))), .unset] [(.long ((((1 : Int64) <<< (cnt &&& 0x3f).toInt64) - (1 : Int64)) <<< ((pos &&& (63 : Int32)) &&& 0x3f).toInt64)), (.long x1), (.int (1 : Int32)), (.ref a)])) _
    refine X0.ldc2Long hx hown (mvT hZ (hw _ (List.mem_of_getElem? (i := 16) rfl))) (g := (mkF m 38 #[.val (.ref a), .val (.int pos), .val (.long val), .second, .val (.int cnt), .val (.long (((1 : Int64) <<< (cnt &&& 0x3f).toInt64) - (1 : Int64))), .second, .val (.int (1 : Int32)), .val (.int (pos &&& (63 : Int32))), .unset] [(.long ((((1 : Int64) <<< (cnt &&& 0x3f).toInt64) - (1 : Int64)) <<< ((pos &&& (63 : Int32)) &&& 0x3f).toInt64)), (.long x1), (.int (1 : Int32)), (.ref a)])) rfl (hb hby d1_38) _ ?_
    show Steps p.tables e below (s₁.setTop (mkF m 41 #[.val (.ref a), .val (.int pos), .val (.long val), .second, .val (.int cnt), .val (.long (((1 : Int64) <<< (cnt &&& 0x3f).toInt64) - (1 : Int64))), .second, .val (.int (1 : Int32)), .val (.int (pos &&& (63 : Int32))), .unset] [(.long (-1 : Int64)), (.long ((((1 : Int64) <<< (cnt &&& 0x3f).toInt64) - (1 : Int64)) <<< ((pos &&& (63 : Int32)) &&& 0x3f).toInt64)), (.long x1), (.int (1 : Int32)), (.ref a)])) _
    refine XS.lxor X0.here hx rfl (hb hby d1_41) rfl ?_
    show Steps p.tables e below (s₁.setTop (mkF m 42 #[.val (.ref a), .val (.int pos), .val (.long val), .second, .val (.int cnt), .val (.long (((1 : Int64) <<< (cnt &&& 0x3f).toInt64) - (1 : Int64))), .second, .val (.int (1 : Int32)), .val (.int (pos &&& (63 : Int32))), .unset] [(.long (((((1 : Int64) <<< (cnt &&& 0x3f).toInt64) - (1 : Int64)) <<< ((pos &&& (63 : Int32)) &&& 0x3f).toInt64) ^^^ (-1 : Int64))), (.long x1), (.int (1 : Int32)), (.ref a)])) _
    refine XS.land X0.here hx rfl (hb hby d1_42) rfl ?_
    show Steps p.tables e below (s₁.setTop (mkF m 43 #[.val (.ref a), .val (.int pos), .val (.long val), .second, .val (.int cnt), .val (.long (((1 : Int64) <<< (cnt &&& 0x3f).toInt64) - (1 : Int64))), .second, .val (.int (1 : Int32)), .val (.int (pos &&& (63 : Int32))), .unset] [(.long (x1 &&& (((((1 : Int64) <<< (cnt &&& 0x3f).toInt64) - (1 : Int64)) <<< ((pos &&& (63 : Int32)) &&& 0x3f).toInt64) ^^^ (-1 : Int64)))), (.int (1 : Int32)), (.ref a)])) _
    refine XS.lloadN X0.here hx rfl (hb hby d1_43) rfl ?_
    show Steps p.tables e below (s₁.setTop (mkF m 44 #[.val (.ref a), .val (.int pos), .val (.long val), .second, .val (.int cnt), .val (.long (((1 : Int64) <<< (cnt &&& 0x3f).toInt64) - (1 : Int64))), .second, .val (.int (1 : Int32)), .val (.int (pos &&& (63 : Int32))), .unset] [(.long val), (.long (x1 &&& (((((1 : Int64) <<< (cnt &&& 0x3f).toInt64) - (1 : Int64)) <<< ((pos &&& (63 : Int32)) &&& 0x3f).toInt64) ^^^ (-1 : Int64)))), (.int (1 : Int32)), (.ref a)])) _
    refine XS.iload X0.here hx rfl (hb hby d1_44) rfl ?_
    show Steps p.tables e below (s₁.setTop (mkF m 46 #[.val (.ref a), .val (.int pos), .val (.long val), .second, .val (.int cnt), .val (.long (((1 : Int64) <<< (cnt &&& 0x3f).toInt64) - (1 : Int64))), .second, .val (.int (1 : Int32)), .val (.int (pos &&& (63 : Int32))), .unset] [(.int (pos &&& (63 : Int32))), (.long val), (.long (x1 &&& (((((1 : Int64) <<< (cnt &&& 0x3f).toInt64) - (1 : Int64)) <<< ((pos &&& (63 : Int32)) &&& 0x3f).toInt64) ^^^ (-1 : Int64)))), (.int (1 : Int32)), (.ref a)])) _
    refine XS.lshl X0.here hx rfl (hb hby d1_46) rfl ?_
    show Steps p.tables e below (s₁.setTop (mkF m 47 #[.val (.ref a), .val (.int pos), .val (.long val), .second, .val (.int cnt), .val (.long (((1 : Int64) <<< (cnt &&& 0x3f).toInt64) - (1 : Int64))), .second, .val (.int (1 : Int32)), .val (.int (pos &&& (63 : Int32))), .unset] [(.long (val <<< ((pos &&& (63 : Int32)) &&& 0x3f).toInt64)), (.long (x1 &&& (((((1 : Int64) <<< (cnt &&& 0x3f).toInt64) - (1 : Int64)) <<< ((pos &&& (63 : Int32)) &&& 0x3f).toInt64) ^^^ (-1 : Int64)))), (.int (1 : Int32)), (.ref a)])) _
    refine XS.lor X0.here hx rfl (hb hby d1_47) rfl ?_
    show Steps p.tables e below (s₁.setTop (mkF m 48 #[.val (.ref a), .val (.int pos), .val (.long val), .second, .val (.int cnt), .val (.long (((1 : Int64) <<< (cnt &&& 0x3f).toInt64) - (1 : Int64))), .second, .val (.int (1 : Int32)), .val (.int (pos &&& (63 : Int32))), .unset] [(.long ((x1 &&& (((((1 : Int64) <<< (cnt &&& 0x3f).toInt64) - (1 : Int64)) <<< ((pos &&& (63 : Int32)) &&& 0x3f).toInt64) ^^^ (-1 : Int64))) ||| (val <<< ((pos &&& (63 : Int32)) &&& 0x3f).toInt64))), (.int (1 : Int32)), (.ref a)])) _
    refine st4 _ ?_
    show Steps p.tables e below (T4.setTop (mkF m 49 #[.val (.ref a), .val (.int pos), .val (.long val), .second, .val (.int cnt), .val (.long (((1 : Int64) <<< (cnt &&& 0x3f).toInt64) - (1 : Int64))), .second, .val (.int (1 : Int32)), .val (.int (pos &&& (63 : Int32))), .unset] [])) _
    refine XS.iload X4.here hx rfl (hb hby d1_49) rfl ?_
    show Steps p.tables e below (T4.setTop (mkF m 51 #[.val (.ref a), .val (.int pos), .val (.long val), .second, .val (.int cnt), .val (.long (((1 : Int64) <<< (cnt &&& 0x3f).toInt64) - (1 : Int64))), .second, .val (.int (1 : Int32)), .val (.int (pos &&& (63 : Int32))), .unset] [(.int (pos &&& (63 : Int32)))])) _
    refine XS.iload X4.here hx rfl (hb hby d1_51) rfl ?_
    show Steps p.tables e below (T4.setTop (mkF m 53 #[.val (.ref a), .val (.int pos), .val (.long val), .second, .val (.int cnt), .val (.long (((1 : Int64) <<< (cnt &&& 0x3f).toInt64) - (1 : Int64))), .second, .val (.int (1 : Int32)), .val (.int (pos &&& (63 : Int32))), .unset] [(.int cnt), (.int (pos &&& (63 : Int32)))])) _
    refine XS.iadd X4.here hx rfl (hb hby d1_53) rfl ?_
    show Steps p.tables e below (T4.setTop (mkF m 54 #[.val (.ref a), .val (.int pos), .val (.long val), .second, .val (.int cnt), .val (.long (((1 : Int64) <<< (cnt &&& 0x3f).toInt64) - (1 : Int64))), .second, .val (.int (1 : Int32)), .val (.int (pos &&& (63 : Int32))), .unset] [(.int ((pos &&& (63 : Int32)) + cnt))])) _
    refine XS.bipush X4.here hx rfl (hb hby d1_54) ?_
    show Steps p.tables e below (T4.setTop (mkF m 56 #[.val (.ref a), .val (.int pos), .val (.long val), .second, .val (.int cnt), .val (.long (((1 : Int64) <<< (cnt &&& 0x3f).toInt64) - (1 : Int64))), .second, .val (.int (1 : Int32)), .val (.int (pos &&& (63 : Int32))), .unset] [(.int (64 : Int32)), (.int ((pos &&& (63 : Int32)) + cnt))])) _
    refine XS.icmpNo X4.here hx rfl (hb hby d1_56) rfl (tlt hd5).2.2.2 ?_
    show Steps p.tables e below (T4.setTop (mkF m 59 #[.val (.ref a), .val (.int pos), .val (.long val), .second, .val (.int cnt), .val (.long (((1 : Int64) <<< (cnt &&& 0x3f).toInt64) - (1 : Int64))), .second, .val (.int (1 : Int32)), .val (.int (pos &&& (63 : Int32))), .unset] [])) _
    refine XS.bipush X4.here hx rfl (hb hby d1_59) ?_
    show Steps p.tables e below (T4.setTop (mkF m 61 #[.val (.ref a), .val (.int pos), .val (.long val), .second, .val (.int cnt), .val (.long (((1 : Int64) <<< (cnt &&& 0x3f).toInt64) - (1 : Int64))), .second, .val (.int (1 : Int32)), .val (.int (pos &&& (63 : Int32))), .unset] [(.int (64 : Int32))])) _
    refine XS.iload X4.here hx rfl (hb hby d1_61) rfl ?_
    show Steps p.tables e below (T4.setTop (mkF m 63 #[.val (.ref a), .val (.int pos), .val (.long val), .second, .val (.int cnt), .val (.long (((1 : Int64) <<< (cnt &&& 0x3f).toInt64) - (1 : Int64))), .second, .val (.int (1 : Int32)), .val (.int (pos &&& (63 : Int32))), .unset] [(.int (pos &&& (63 : Int32))), (.int (64 : Int32))])) _
    refine XS.isub X4.here hx rfl (hb hby d1_63) rfl ?_
    show Steps p.tables e below (T4.setTop (mkF m 64 #[.val (.ref a), .val (.int pos), .val (.long val), .second, .val (.int cnt), .val (.long (((1 : Int64) <<< (cnt &&& 0x3f).toInt64) - (1 : Int64))), .second, .val (.int (1 : Int32)), .val (.int (pos &&& (63 : Int32))), .unset] [(.int ((64 : Int32) - (pos &&& (63 : Int32))))])) _
    refine XS.istore X4.here hx rfl (hb hby d1_64) rfl (l' := #[.val (.ref a), .val (.int pos), .val (.long val), .second, .val (.int cnt), .val (.long (((1 : Int64) <<< (cnt &&& 0x3f).toInt64) - (1 : Int64))), .second, .val (.int (1 : Int32)), .val (.int (pos &&& (63 : Int32))), .val (.int ((64 : Int32) - (pos &&& (63 : Int32))))]) rfl ?_
    show Steps p.tables e below (T4.setTop (mkF m 66 #[.val (.ref a), .val (.int pos), .val (.long val), .second, .val (.int cnt), .val (.long (((1 : Int64) <<< (cnt &&& 0x3f).toInt64) - (1 : Int64))), .second, .val (.int (1 : Int32)), .val (.int (pos &&& (63 : Int32))), .val (.int ((64 : Int32) - (pos &&& (63 : Int32))))] [])) _
    refine XS.aloadN X4.here hx rfl (hb hby d1_66) rfl rfl ?_
    show Steps p.tables e below (T4.setTop (mkF m 67 #[.val (.ref a), .val (.int pos), .val (.long val), .second, .val (.int cnt), .val (.long (((1 : Int64) <<< (cnt &&& 0x3f).toInt64) - (1 : Int64))), .second, .val (.int (1 : Int32)), .val (.int (pos &&& (63 : Int32))), .val (.int ((64 : Int32) - (pos &&& (63 : Int32))))] [(.ref a)])) _
    refine XS.iload X4.here hx rfl (hb hby d1_67) rfl ?_
    show Steps p.tables e below (T4.setTop (mkF m 69 #[.val (.ref a), .val (.int pos), .val (.long val), .second, .val (.int cnt), .val (.long (((1 : Int64) <<< (cnt &&& 0x3f).toInt64) - (1 : Int64))), .second, .val (.int (1 : Int32)), .val (.int (pos &&& (63 : Int32))), .val (.int ((64 : Int32) - (pos &&& (63 : Int32))))] [(.int (1 : Int32)), (.ref a)])) _
    refine XS.iconst X4.here hx rfl (hb hby d1_69) ?_
    show Steps p.tables e below (T4.setTop (mkF m 70 #[.val (.ref a), .val (.int pos), .val (.long val), .second, .val (.int cnt), .val (.long (((1 : Int64) <<< (cnt &&& 0x3f).toInt64) - (1 : Int64))), .second, .val (.int (1 : Int32)), .val (.int (pos &&& (63 : Int32))), .val (.int ((64 : Int32) - (pos &&& (63 : Int32))))] [(.int (1 : Int32)), (.int (1 : Int32)), (.ref a)])) _
    refine XS.iadd X4.here hx rfl (hb hby d1_70) rfl ?_
    show Steps p.tables e below (T4.setTop (mkF m 71 #[.val (.ref a), .val (.int pos), .val (.long val), .second, .val (.int cnt), .val (.long (((1 : Int64) <<< (cnt &&& 0x3f).toInt64) - (1 : Int64))), .second, .val (.int (1 : Int32)), .val (.int (pos &&& (63 : Int32))), .val (.int ((64 : Int32) - (pos &&& (63 : Int32))))] [(.int ((1 : Int32) + (1 : Int32))), (.ref a)])) _
    rw [(by decide : (1 : Int32) + (1 : Int32) = (2 : Int32))]
    show Steps p.tables e below (T4.setTop (mkF m 71 #[.val (.ref a), .val (.int pos), .val (.long val), .second, .val (.int cnt), .val (.long (((1 : Int64) <<< (cnt &&& 0x3f).toInt64) - (1 : Int64))), .second, .val (.int (1 : Int32)), .val (.int (pos &&& (63 : Int32))), .val (.int ((64 : Int32) - (pos &&& (63 : Int32))))] [(.int (2 : Int32)), (.ref a)])) _
    refine XS.aloadN X4.here hx rfl (hb hby d1_71) rfl rfl ?_
    show Steps p.tables e below (T4.setTop (mkF m 72 #[.val (.ref a), .val (.int pos), .val (.long val), .second, .val (.int cnt), .val (.long (((1 : Int64) <<< (cnt &&& 0x3f).toInt64) - (1 : Int64))), .second, .val (.int (1 : Int32)), .val (.int (pos &&& (63 : Int32))), .val (.int ((64 : Int32) - (pos &&& (63 : Int32))))] [(.ref a), (.int (2 : Int32)), (.ref a)])) _
    refine XS.iload X4.here hx rfl (hb hby d1_72) rfl ?_
    show Steps p.tables e below (T4.setTop (mkF m 74 #[.val (.ref a), .val (.int pos), .val (.long val), .second, .val (.int cnt), .val (.long (((1 : Int64) <<< (cnt &&& 0x3f).toInt64) - (1 : Int64))), .second, .val (.int (1 : Int32)), .val (.int (pos &&& (63 : Int32))), .val (.int ((64 : Int32) - (pos &&& (63 : Int32))))] [(.int (1 : Int32)), (.ref a), (.int (2 : Int32)), (.ref a)])) _
    refine XS.iconst X4.here hx rfl (hb hby d1_74) ?_
    show Steps p.tables e below (T4.setTop (mkF m 75 #[.val (.ref a), .val (.int pos), .val (.long val), .second, .val (.int cnt), .val (.long (((1 : Int64) <<< (cnt &&& 0x3f).toInt64) - (1 : Int64))), .second, .val (.int (1 : Int32)), .val (.int (pos &&& (63 : Int32))), .val (.int ((64 : Int32) - (pos &&& (63 : Int32))))] [(.int (1 : Int32)), (.int (1 : Int32)), (.ref a), (.int (2 : Int32)), (.ref a)])) _
    refine XS.iadd X4.here hx rfl (hb hby d1_75) rfl ?_
    show Steps p.tables e below (T4.setTop (mkF m 76 #[.val (.ref a), .val (.int pos), .val (.long val), .second, .val (.int cnt), .val (.long (((1 : Int64) <<< (cnt &&& 0x3f).toInt64) - (1 : Int64))), .second, .val (.int (1 : Int32)), .val (.int (pos &&& (63 : Int32))), .val (.int ((64 : Int32) - (pos &&& (63 : Int32))))] [(.int ((1 : Int32) + (1 : Int32))), (.ref a), (.int (2 : Int32)), (.ref a)])) _
    rw [(by decide : (1 : Int32) + (1 : Int32) = (2 : Int32))]
    show Steps p.tables e below (T4.setTop (mkF m 76 #[.val (.ref a), .val (.int pos), .val (.long val), .second, .val (.int cnt), .val (.long (((1 : Int64) <<< (cnt &&& 0x3f).toInt64) - (1 : Int64))), .second, .val (.int (1 : Int32)), .val (.int (pos &&& (63 : Int32))), .val (.int ((64 : Int32) - (pos &&& (63 : Int32))))] [(.int (2 : Int32)), (.ref a), (.int (2 : Int32)), (.ref a)])) _
    refine X4.laload hx (j := (2 : Int32)) (v := (.long x2)) (by rw [e4]; exact Ar76_6.1) (State.isArrayOf_alike hZ.alike Ar76_6.2.1) Ar76_6.2.2 hin76_6 hat76_6 (g := (mkF m 76 #[.val (.ref a), .val (.int pos), .val (.long val), .second, .val (.int cnt), .val (.long (((1 : Int64) <<< (cnt &&& 0x3f).toInt64) - (1 : Int64))), .second, .val (.int (1 : Int32)), .val (.int (pos &&& (63 : Int32))), .val (.int ((64 : Int32) - (pos &&& (63 : Int32))))] [(.int (2 : Int32)), (.ref a), (.int (2 : Int32)), (.ref a)])) rfl rfl (hb hby d1_76) _ ?_
    show Steps p.tables e below (T4.setTop (mkF m 77 #[.val (.ref a), .val (.int pos), .val (.long val), .second, .val (.int cnt), .val (.long (((1 : Int64) <<< (cnt &&& 0x3f).toInt64) - (1 : Int64))), .second, .val (.int (1 : Int32)), .val (.int (pos &&& (63 : Int32))), .val (.int ((64 : Int32) - (pos &&& (63 : Int32))))] [(.long x2), (.int (2 : Int32)), (.ref a)])) _
    refine XS.lload X4.here hx rfl (hb hby d1_77) rfl ?_
    show Steps p.tables e below (T4.setTop (mkF m 79 #[.val (.ref a), .val (.int pos), .val (.long val), .second, .val (.int cnt), .val (.long (((1 : Int64) <<< (cnt &&& 0x3f).toInt64) - (1 : Int64))), .second, .val (.int (1 : Int32)), .val (.int (pos &&& (63 : Int32))), .val (.int ((64 : Int32) - (pos &&& (63 : Int32))))] [(.long (((1 : Int64) <<< (cnt &&& 0x3f).toInt64) - (1 : Int64))), (.long x2), (.int (2 : Int32)), (.ref a)])) _
    refine XS.iload X4.here hx rfl (hb hby d1_79) rfl ?_
    show Steps p.tables e below (T4.setTop (mkF m 81 #[.val (.ref a), .val (.int pos), .val (.long val), .second, .val (.int cnt), .val (.long (((1 : Int64) <<< (cnt &&& 0x3f).toInt64) - (1 : Int64))), .second, .val (.int (1 : Int32)), .val (.int (pos &&& (63 : Int32))), .val (.int ((64 : Int32) - (pos &&& (63 : Int32))))] [(.int ((64 : Int32) - (pos &&& (63 : Int32)))), (.long (((1 : Int64) <<< (cnt &&& 0x3f).toInt64) - (1 : Int64))), (.long x2), (.int (2 : Int32)), (.ref a)])) _
    refine XS.lushr X4.here hx rfl (hb hby d1_81) rfl ?_
    show Steps p.tables e below (T4.setTop (mkF m 82 #[.val (.ref a), .val (.int pos), .val (.long val), .second, .val (.int cnt), .val (.long (((1 : Int64) <<< (cnt &&& 0x3f).toInt64) - (1 : Int64))), .second, .val (.int (1 : Int32)), .val (.int (pos &&& (63 : Int32))), .val (.int ((64 : Int32) - (pos &&& (63 : Int32))))] [(.long (((((1 : Int64) <<< (cnt &&& 0x3f).toInt64) - (1 : Int64)).toUInt64 >>> (((64 : Int32) - (pos &&& (63 : Int32))) &&& 0x3f).toInt64.toUInt64).toInt64)), (.long x2), (.int (2 : Int32)), (.ref a)])) _
    refine X4.ldc2Long hx hown (mvT hZ (hw _ (List.mem_of_getElem? (i := 16) rfl))) (g := (mkF m 82 #[.val (.ref a), .val (.int pos), .val (.long val), .second, .val (.int cnt), .val (.long (((1 : Int64) <<< (cnt &&& 0x3f).toInt64) - (1 : Int64))), .second, .val (.int (1 : Int32)), .val (.int (pos &&& (63 : Int32))), .val (.int ((64 : Int32) - (pos &&& (63 : Int32))))] [(.long (((((1 : Int64) <<< (cnt &&& 0x3f).toInt64) - (1 : Int64)).toUInt64 >>> (((64 : Int32) - (pos &&& (63 : Int32))) &&& 0x3f).toInt64.toUInt64).toInt64)), (.long x2), (.int (2 : Int32)), (.ref a)])) rfl (hb hby d1_82) _ ?_
    show Steps p.tables e below (T4.setTop (mkF m 85 #[.val (.ref a), .val (.int pos), .val (.long val), .second, .val (.int cnt), .val (.long (((1 : Int64) <<< (cnt &&& 0x3f).toInt64) - (1 : Int64))), .second, .val (.int (1 : Int32)), .val (.int (pos &&& (63 : Int32))), .val (.int ((64 : Int32) - (pos &&& (63 : Int32))))] [(.long (-1 : Int64)), (.long (((((1 : Int64) <<< (cnt &&& 0x3f).toInt64) - (1 : Int64)).toUInt64 >>> (((64 : Int32) - (pos &&& (63 : Int32))) &&& 0x3f).toInt64.toUInt64).toInt64)), (.long x2), (.int (2 : Int32)), (.ref a)])) _
    refine XS.lxor X4.here hx rfl (hb hby d1_85) rfl ?_
    show Steps p.tables e below (T4.setTop (mkF m 86 #[.val (.ref a), .val (.int pos), .val (.long val), .second, .val (.int cnt), .val (.long (((1 : Int64) <<< (cnt &&& 0x3f).toInt64) - (1 : Int64))), .second, .val (.int (1 : Int32)), .val (.int (pos &&& (63 : Int32))), .val (.int ((64 : Int32) - (pos &&& (63 : Int32))))] [(.long ((((((1 : Int64) <<< (cnt &&& 0x3f).toInt64) - (1 : Int64)).toUInt64 >>> (((64 : Int32) - (pos &&& (63 : Int32))) &&& 0x3f).toInt64.toUInt64).toInt64) ^^^ (-1 : Int64))), (.long x2), (.int (2 : Int32)), (.ref a)])) _
    refine XS.land X4.here hx rfl (hb hby d1_86) rfl ?_
    show Steps p.tables e below (T4.setTop (mkF m 87 #[.val (.ref a), .val (.int pos), .val (.long val), .second, .val (.int cnt), .val (.long (((1 : Int64) <<< (cnt &&& 0x3f).toInt64) - (1 : Int64))), .second, .val (.int (1 : Int32)), .val (.int (pos &&& (63 : Int32))), .val (.int ((64 : Int32) - (pos &&& (63 : Int32))))] [(.long (x2 &&& ((((((1 : Int64) <<< (cnt &&& 0x3f).toInt64) - (1 : Int64)).toUInt64 >>> (((64 : Int32) - (pos &&& (63 : Int32))) &&& 0x3f).toInt64.toUInt64).toInt64) ^^^ (-1 : Int64)))), (.int (2 : Int32)), (.ref a)])) _
    refine XS.lloadN X4.here hx rfl (hb hby d1_87) rfl ?_
    show Steps p.tables e below (T4.setTop (mkF m 88 #[.val (.ref a), .val (.int pos), .val (.long val), .second, .val (.int cnt), .val (.long (((1 : Int64) <<< (cnt &&& 0x3f).toInt64) - (1 : Int64))), .second, .val (.int (1 : Int32)), .val (.int (pos &&& (63 : Int32))), .val (.int ((64 : Int32) - (pos &&& (63 : Int32))))] [(.long val), (.long (x2 &&& ((((((1 : Int64) <<< (cnt &&& 0x3f).toInt64) - (1 : Int64)).toUInt64 >>> (((64 : Int32) - (pos &&& (63 : Int32))) &&& 0x3f).toInt64.toUInt64).toInt64) ^^^ (-1 : Int64)))), (.int (2 : Int32)), (.ref a)])) _
    refine XS.iload X4.here hx rfl (hb hby d1_88) rfl ?_
    show Steps p.tables e below (T4.setTop (mkF m 90 #[.val (.ref a), .val (.int pos), .val (.long val), .second, .val (.int cnt), .val (.long (((1 : Int64) <<< (cnt &&& 0x3f).toInt64) - (1 : Int64))), .second, .val (.int (1 : Int32)), .val (.int (pos &&& (63 : Int32))), .val (.int ((64 : Int32) - (pos &&& (63 : Int32))))] [(.int ((64 : Int32) - (pos &&& (63 : Int32)))), (.long val), (.long (x2 &&& ((((((1 : Int64) <<< (cnt &&& 0x3f).toInt64) - (1 : Int64)).toUInt64 >>> (((64 : Int32) - (pos &&& (63 : Int32))) &&& 0x3f).toInt64.toUInt64).toInt64) ^^^ (-1 : Int64)))), (.int (2 : Int32)), (.ref a)])) _
    refine XS.lushr X4.here hx rfl (hb hby d1_90) rfl ?_
    show Steps p.tables e below (T4.setTop (mkF m 91 #[.val (.ref a), .val (.int pos), .val (.long val), .second, .val (.int cnt), .val (.long (((1 : Int64) <<< (cnt &&& 0x3f).toInt64) - (1 : Int64))), .second, .val (.int (1 : Int32)), .val (.int (pos &&& (63 : Int32))), .val (.int ((64 : Int32) - (pos &&& (63 : Int32))))] [(.long ((val.toUInt64 >>> (((64 : Int32) - (pos &&& (63 : Int32))) &&& 0x3f).toInt64.toUInt64).toInt64)), (.long (x2 &&& ((((((1 : Int64) <<< (cnt &&& 0x3f).toInt64) - (1 : Int64)).toUInt64 >>> (((64 : Int32) - (pos &&& (63 : Int32))) &&& 0x3f).toInt64.toUInt64).toInt64) ^^^ (-1 : Int64)))), (.int (2 : Int32)), (.ref a)])) _
    refine XS.lor X4.here hx rfl (hb hby d1_91) rfl ?_
    show Steps p.tables e below (T4.setTop (mkF m 92 #[.val (.ref a), .val (.int pos), .val (.long val), .second, .val (.int cnt), .val (.long (((1 : Int64) <<< (cnt &&& 0x3f).toInt64) - (1 : Int64))), .second, .val (.int (1 : Int32)), .val (.int (pos &&& (63 : Int32))), .val (.int ((64 : Int32) - (pos &&& (63 : Int32))))] [(.long ((x2 &&& ((((((1 : Int64) <<< (cnt &&& 0x3f).toInt64) - (1 : Int64)).toUInt64 >>> (((64 : Int32) - (pos &&& (63 : Int32))) &&& 0x3f).toInt64.toUInt64).toInt64) ^^^ (-1 : Int64))) ||| ((val.toUInt64 >>> (((64 : Int32) - (pos &&& (63 : Int32))) &&& 0x3f).toInt64.toUInt64).toInt64))), (.int (2 : Int32)), (.ref a)])) _
    refine st8 _ ?_
    show Steps p.tables e below (T8.setTop (mkF m 93 #[.val (.ref a), .val (.int pos), .val (.long val), .second, .val (.int cnt), .val (.long (((1 : Int64) <<< (cnt &&& 0x3f).toInt64) - (1 : Int64))), .second, .val (.int (1 : Int32)), .val (.int (pos &&& (63 : Int32))), .val (.int ((64 : Int32) - (pos &&& (63 : Int32))))] [])) _
    exact kt
  obtain ⟨fs, hr, hrun, hended, hW, hsame⟩ := X8.leave (v := none) (fun _ => rfl)
  refine ⟨_, _, k9 _ ?_, hrun, hended, _, _, rfl, ?_, ⟨_, rfl⟩, hW, hsame.mono (by decide) (by decide)⟩
  · exact X8.returnOut hx Bd.returns (hb hby d1_93) hr
  · show QR Z a kc (x0) (((x1 &&& (((((1 : Int64) <<< (cnt &&& 0x3f).toInt64) - (1 : Int64)) <<< ((pos &&& (63 : Int32)) &&& 0x3f).toInt64) ^^^ (-1 : Int64))) ||| (val <<< ((pos &&& (63 : Int32)) &&& 0x3f).toInt64))) (((x2 &&& ((((((1 : Int64) <<< (cnt &&& 0x3f).toInt64) - (1 : Int64)).toUInt64 >>> (((64 : Int32) - (pos &&& (63 : Int32))) &&& 0x3f).toInt64.toUInt64).toInt64) ^^^ (-1 : Int64))) ||| ((val.toUInt64 >>> (((64 : Int32) - (pos &&& (63 : Int32))) &&& 0x3f).toInt64.toUInt64).toInt64))) h0 n0 _ T8.heap _
    rw [e8]
    exact ⟨rfl, N8, KP8, V8_a⟩
def repF (x : Int64) (i pos : Int32) (val : Int64) (cnt : Int32) : Int64 := if cnt = (0 : Int32) then x else if ((pos.toUInt32 >>> ((6 : Int32) &&& 31).toUInt32).toInt32) = i then ((x &&& (((((1 : Int64) <<< (cnt &&& 0x3f).toInt64) - (1 : Int64)) <<< ((pos &&& (63 : Int32)) &&& 0x3f).toInt64) ^^^ (-1 : Int64))) ||| (val <<< ((pos &&& (63 : Int32)) &&& 0x3f).toInt64)) else if (64 : Int32) < ((pos &&& (63 : Int32)) + cnt) ∧ ((pos.toUInt32 >>> ((6 : Int32) &&& 31).toUInt32).toInt32) + (1 : Int32) = i then ((x &&& ((((((1 : Int64) <<< (cnt &&& 0x3f).toInt64) - (1 : Int64)).toUInt64 >>> (((64 : Int32) - (pos &&& (63 : Int32))) &&& 0x3f).toInt64.toUInt64).toInt64) ^^^ (-1 : Int64))) ||| ((val.toUInt64 >>> (((64 : Int32) - (pos &&& (63 : Int32))) &&& 0x3f).toInt64.toUInt64).toInt64)) else x
theorem rm1 (l : Launch) (Z : State) (a0 : Array Value) (hw : ∀ d ∈ tables_1, d.before a0 Z = true) (ws : List Jvm.Cond) (a : Addr) (pos : Int32) (val : Int64) (cnt : Int32) (kc : ClassId) (x0 x1 x2 : Int64) (h0 : Heap) (n0 : Nat) (Z0 : n0 ≤ h0.size) (V0 : Arv Z h0 a kc .long (3 : Int32) [(.long x0), (.long x1), (.long x2)] (.long (0 : Int64))) (g_a : n0 ≤ a) (hwd : ((pos.toUInt32 >>> ((6 : Int32) &&& 31).toUInt32).toInt32) = (0 : Int32) ∨ ((pos.toUInt32 >>> ((6 : Int32) &&& 31).toUInt32).toInt32) = (1 : Int32)) :
    MetFree l (⟨"com/example/parley/parley/core/PackedBits", "replace", "([JIJI)V"⟩ : MethodName) (head1 (Jvm.Cond.code (⟨"com/example/parley/parley/core/PackedBits", "replace", "([JIJI)V"⟩ : MethodName) prog_134_method_6_code 10 none :: ws) ({ frames := 0, cells := 0, slots := 0, locals := 0 } : Room)) (fun a1 U => a1 = #[(.ref a), (.int pos), (.long val), (.int cnt)] ∧ Z.Warmed39 U.vm ∧ U.heap = h0) (fun _ _ _ _ _ => True) (fun _ U o U' => ∃ v L, o = .returned v ∧ QR Z a kc (repF x0 0 pos val cnt) (repF x1 1 pos val cnt) (repF x2 2 pos val cnt) h0 n0 v U'.heap L ∧ FrameEnd U o U' L ({ frames := 0, cells := 0, slots := 0, locals := 0 } : Room).cells ({ frames := 0, cells := 0, slots := 0, locals := 0 } : Room).slots) := by
  by_cases hz : cnt = (0 : Int32)
  · rw [repF, repF, repF, if_pos hz, if_pos hz, if_pos hz]
    exact rm1z l Z a0 hw ws a pos val cnt kc x0 x1 x2 h0 n0 Z0 V0 g_a hz
  · rcases hwd with hwd | hwd
    · by_cases hc : (64 : Int32) < ((pos &&& (63 : Int32)) + cnt)
      · have e0 : repF x0 0 pos val cnt = ((x0 &&& (((((1 : Int64) <<< (cnt &&& 0x3f).toInt64) - (1 : Int64)) <<< ((pos &&& (63 : Int32)) &&& 0x3f).toInt64) ^^^ (-1 : Int64))) ||| (val <<< ((pos &&& (63 : Int32)) &&& 0x3f).toInt64)) := by rw [repF, if_neg hz, if_pos hwd]
        have e1 : repF x1 1 pos val cnt = ((x1 &&& ((((((1 : Int64) <<< (cnt &&& 0x3f).toInt64) - (1 : Int64)).toUInt64 >>> (((64 : Int32) - (pos &&& (63 : Int32))) &&& 0x3f).toInt64.toUInt64).toInt64) ^^^ (-1 : Int64))) ||| ((val.toUInt64 >>> (((64 : Int32) - (pos &&& (63 : Int32))) &&& 0x3f).toInt64.toUInt64).toInt64)) := by rw [repF, if_neg hz, if_neg (by rw [hwd]; decide), if_pos ⟨hc, by rw [hwd]; decide⟩]
        have e2 : repF x2 2 pos val cnt = x2 := by rw [repF, if_neg hz, if_neg (by rw [hwd]; decide), if_neg (by rw [hwd]; exact fun q => absurd q.2 (by decide))]
        rw [e0, e1, e2]; exact rm1b l Z a0 hw ws a pos val cnt kc x0 x1 x2 h0 n0 Z0 V0 g_a hz hwd hc
      · have e0 : repF x0 0 pos val cnt = ((x0 &&& (((((1 : Int64) <<< (cnt &&& 0x3f).toInt64) - (1 : Int64)) <<< ((pos &&& (63 : Int32)) &&& 0x3f).toInt64) ^^^ (-1 : Int64))) ||| (val <<< ((pos &&& (63 : Int32)) &&& 0x3f).toInt64)) := by rw [repF, if_neg hz, if_pos hwd]
        have e1 : repF x1 1 pos val cnt = x1 := by rw [repF, if_neg hz, if_neg (by rw [hwd]; decide), if_neg (fun q => hc q.1)]
        have e2 : repF x2 2 pos val cnt = x2 := by rw [repF, if_neg hz, if_neg (by rw [hwd]; decide), if_neg (fun q => hc q.1)]
        rw [e0, e1, e2]; exact rm1a l Z a0 hw ws a pos val cnt kc x0 x1 x2 h0 n0 Z0 V0 g_a hz hwd hc
    · by_cases hc : (64 : Int32) < ((pos &&& (63 : Int32)) + cnt)
      · have e0 : repF x0 0 pos val cnt = x0 := by rw [repF, if_neg hz, if_neg (by rw [hwd]; decide), if_neg (by rw [hwd]; exact fun q => absurd q.2 (by decide))]
        have e1 : repF x1 1 pos val cnt = ((x1 &&& (((((1 : Int64) <<< (cnt &&& 0x3f).toInt64) - (1 : Int64)) <<< ((pos &&& (63 : Int32)) &&& 0x3f).toInt64) ^^^ (-1 : Int64))) ||| (val <<< ((pos &&& (63 : Int32)) &&& 0x3f).toInt64)) := by rw [repF, if_neg hz, if_pos hwd]
        have e2 : repF x2 2 pos val cnt = ((x2 &&& ((((((1 : Int64) <<< (cnt &&& 0x3f).toInt64) - (1 : Int64)).toUInt64 >>> (((64 : Int32) - (pos &&& (63 : Int32))) &&& 0x3f).toInt64.toUInt64).toInt64) ^^^ (-1 : Int64))) ||| ((val.toUInt64 >>> (((64 : Int32) - (pos &&& (63 : Int32))) &&& 0x3f).toInt64.toUInt64).toInt64)) := by rw [repF, if_neg hz, if_neg (by rw [hwd]; decide), if_pos ⟨hc, by rw [hwd]; decide⟩]
        rw [e0, e1, e2]; exact rm1d l Z a0 hw ws a pos val cnt kc x0 x1 x2 h0 n0 Z0 V0 g_a hz hwd hc
      · have e0 : repF x0 0 pos val cnt = x0 := by rw [repF, if_neg hz, if_neg (by rw [hwd]; decide), if_neg (fun q => hc q.1)]
        have e1 : repF x1 1 pos val cnt = ((x1 &&& (((((1 : Int64) <<< (cnt &&& 0x3f).toInt64) - (1 : Int64)) <<< ((pos &&& (63 : Int32)) &&& 0x3f).toInt64) ^^^ (-1 : Int64))) ||| (val <<< ((pos &&& (63 : Int32)) &&& 0x3f).toInt64)) := by rw [repF, if_neg hz, if_pos hwd]
        have e2 : repF x2 2 pos val cnt = x2 := by rw [repF, if_neg hz, if_neg (by rw [hwd]; decide), if_neg (fun q => hc q.1)]
        rw [e0, e1, e2]; exact rm1c l Z a0 hw ws a pos val cnt kc x0 x1 x2 h0 n0 Z0 V0 g_a hz hwd hc
theorem own_ofnat (y : Int32) (k : Nat) (h : y.toInt = k) (hk : k < 2 ^ 31) : y = Int32.ofNat k := by
  apply Int32.toInt_inj.mp
  rw [h, Int32.toInt_ofNat_of_lt hk]
theorem own_sm (k : Nat) (h : k < 64) : ((Int32.ofNat k &&& 0x3f).toInt64.toBitVec.smod 64) = BitVec.ofNat 64 k := by
  have : ∀ k : Fin 64, ((Int32.ofNat k &&& 0x3f).toInt64.toBitVec.smod 64) = BitVec.ofNat 64 k := by decide +kernel
  exact this ⟨k, h⟩
theorem own_um (k : Nat) (h : k < 64) : ((Int32.ofNat k &&& 0x3f).toInt64.toUInt64.toBitVec % 64) = BitVec.ofNat 64 k := by
  have : ∀ k : Fin 64, ((Int32.ofNat k &&& 0x3f).toInt64.toUInt64.toBitVec % 64) = BitVec.ofNat 64 k := by decide +kernel
  exact this ⟨k, h⟩
theorem own_shv (x : Int64) (y : Int32) (k : Nat) (hy : y.toInt = k) (hk : k < 64) : (x <<< (y &&& 0x3f).toInt64).toBitVec = x.toBitVec <<< k := by
  rw [own_ofnat y k hy (by omega), Int64.toBitVec_shiftLeft, own_sm k hk]
  show x.toBitVec <<< (BitVec.ofNat 64 k).toNat = _
  rw [BitVec.toNat_ofNat, Nat.mod_eq_of_lt (by omega)]
theorem own_usv (x : Int64) (y : Int32) (k : Nat) (hy : y.toInt = k) (hk : k < 64) : ((x.toUInt64 >>> (y &&& 0x3f).toInt64.toUInt64).toInt64).toBitVec = x.toBitVec >>> k := by
  rw [own_ofnat y k hy (by omega)]
  show (x.toUInt64 >>> (Int32.ofNat k &&& 0x3f).toInt64.toUInt64).toBitVec = _
  rw [UInt64.toBitVec_shiftRight, own_um k hk]
  show x.toBitVec >>> (BitVec.ofNat 64 k).toNat = _
  rw [BitVec.toNat_ofNat, Nat.mod_eq_of_lt (by omega)]
theorem own_mask (y : Int32) (k : Nat) (hy : y.toInt = k) (hk : k < 64) (j : Nat) (hj : j < 64) : (((1 : Int64) <<< (y &&& 0x3f).toInt64) - (1 : Int64)).toBitVec.getLsbD j = decide (j < k) := by
  rw [Int64.toBitVec_sub, own_shv _ y k hy hk]
  have e : (Int64.toBitVec 1 <<< k - Int64.toBitVec 1) = BitVec.ofNat 64 (2 ^ k - 1) := by
    have : ∀ k : Fin 64, (Int64.toBitVec 1 <<< k.val - Int64.toBitVec 1) = BitVec.ofNat 64 (2 ^ k.val - 1) := by decide +kernel
    exact this ⟨k, hk⟩
  rw [e, BitVec.getLsbD_ofNat, Nat.testBit_two_pow_sub_one]; simp [hj]
theorem own_not (x : Int64) (j : Nat) (hj : j < 64) : (x ^^^ (-1 : Int64)).toBitVec.getLsbD j = !x.toBitVec.getLsbD j := by
  rw [Int64.toBitVec_xor]
  have : (Int64.toBitVec (-1)) = BitVec.allOnes 64 := rfl
  rw [this, BitVec.getLsbD_xor, BitVec.getLsbD_allOnes]; simp [hj]
/-- a masked and shifted replacement, bit by bit -/
theorem own_ins (orig B : Int64) (w lo : Int32) (W K : Nat) (hw : w.toInt = W) (hl : lo.toInt = K) (hW : W < 64) (hK : K < 64) (j : Nat) (hj : j < 64) :
    ((orig &&& ((((1 : Int64) <<< (w &&& 0x3f).toInt64) - (1 : Int64)) <<< (lo &&& 0x3f).toInt64 ^^^ (-1 : Int64))) ||| (B &&& ((((1 : Int64) <<< (w &&& 0x3f).toInt64) - (1 : Int64)) <<< (lo &&& 0x3f).toInt64))).toBitVec.getLsbD j
      = if K ≤ j ∧ j < K + W then B.toBitVec.getLsbD j else orig.toBitVec.getLsbD j := by
  have em : ((((1 : Int64) <<< (w &&& 0x3f).toInt64) - (1 : Int64)) <<< (lo &&& 0x3f).toInt64).toBitVec.getLsbD j = decide (K ≤ j ∧ j < K + W) := by
    rw [own_shv _ lo K hl hK, BitVec.getLsbD_shiftLeft]
    by_cases c : j < K
    · simp [c]; omega
    · rw [own_mask w W hw hW _ (by omega)]
      have e1 : decide (j - K < W) = decide (K ≤ j ∧ j < K + W) := decide_eq_decide.mpr (by omega)
      rw [e1]; simp [hj, c]
  rw [Int64.toBitVec_or, Int64.toBitVec_and, Int64.toBitVec_and, BitVec.getLsbD_or, BitVec.getLsbD_and, BitVec.getLsbD_and, own_not _ j hj, em]
  by_cases c : K ≤ j ∧ j < K + W <;> simp [c]


theorem own_exp (x val : Int64) (i pos cnt : Int32) (A : Int32) (P N I : Nat) (hA : (64 : Int32) * i = A) (hAI : A.toInt = 64 * I) (hp : pos.toInt = P) (hn : cnt.toInt = N) (hP : P < 128) (hN : N < 64) (hI : I < 3) (j : Nat) (hj : j < 64) :
    (expF x i pos val cnt).toBitVec.getLsbD j = if P ≤ 64 * I + j ∧ 64 * I + j < P + N then val.toBitVec.getLsbD (64 * I + j - P) else x.toBitVec.getLsbD j := by
  have l64 : (64 : Int32).toInt = 64 := rfl
  have l0 : (0 : Int32).toInt = 0 := rfl
  unfold expF
  rw [hA]
  obtain ⟨M, eM⟩ : ∃ M, M = (if pos < A then A else pos) := ⟨_, rfl⟩
  obtain ⟨E, eE⟩ : ∃ E, E = (if (A + (64 : Int32)) < (pos + cnt) then (A + (64 : Int32)) else (pos + cnt)) := ⟨_, rfl⟩
  rw [← eM, ← eE]
  have hM : M.toInt = max (P : Int) (64 * I) := by
    rw [eM]; split <;> rename_i q <;> rw [Int32.lt_iff_toInt_lt] at q <;> omega
  have hE : E.toInt = min ((P : Int) + N) (64 * I + 64) := by
    have a1 := c_iadd A 64; have a2 := c_iadd pos cnt; have a3 := rng32 (A + 64); have a4 := rng32 (pos + cnt)
    rw [eE]; split <;> rename_i q <;> rw [Int32.lt_iff_toInt_lt] at q <;> omega
  have b1 := c_isub M A; have b2 := c_isub E A; have b3 := rng32 (M - A); have b4 := rng32 (E - A)
  have b5 := c_isub A pos; have b6 := rng32 (A - pos)
  by_cases c1 : (M - A) < (E - A)
  · rw [if_pos c1]
    rw [Int32.lt_iff_toInt_lt] at c1
    have b7 := c_isub (E - A) (M - A); have b8 := rng32 ((E - A) - (M - A))
    obtain ⟨K, hK⟩ : ∃ K : Nat, (M - A).toInt = K := ⟨(M - A).toInt.toNat, by omega⟩
    obtain ⟨W, hW⟩ : ∃ W : Nat, ((E - A) - (M - A)).toInt = W := ⟨((E - A) - (M - A)).toInt.toNat, by omega⟩
    rw [own_ins _ _ _ _ W K hW hK (by omega) (by omega) j hj]
    have e1 : (K ≤ j ∧ j < K + W) ↔ (P ≤ 64 * I + j ∧ 64 * I + j < P + N) := by omega
    by_cases c2 : K ≤ j ∧ j < K + W
    · rw [if_pos c2, if_pos (e1.mp c2)]
      by_cases c3 : (A - pos) < (0 : Int32)
      · rw [if_pos c3]
        rw [Int32.lt_iff_toInt_lt] at c3
        have b9 : ((-(A - pos)).toInt - (-(A - pos).toInt)) % 4294967296 = 0 := by rw [Int32.toInt_neg]; have := Int.bmod_emod (x := -(A - pos).toInt) (m := 2 ^ 32); omega
        have b10 := rng32 (-(A - pos))
        obtain ⟨S, hS⟩ : ∃ S : Nat, (-(A - pos)).toInt = S := ⟨(-(A - pos)).toInt.toNat, by omega⟩
        rw [own_shv _ _ S hS (by omega), BitVec.getLsbD_shiftLeft]
        have : ¬ j < S := by omega
        simp only [hj, this, decide_true, decide_false, Bool.not_false, Bool.true_and]
        congr 1; omega
      · rw [if_neg c3]
        rw [Int32.lt_iff_toInt_lt] at c3
        obtain ⟨S, hS⟩ : ∃ S : Nat, (A - pos).toInt = S := ⟨(A - pos).toInt.toNat, by omega⟩
        rw [own_usv _ _ S hS (by omega), BitVec.getLsbD_ushiftRight]
        congr 1; omega
    · rw [if_neg c2, if_neg (fun q => c2 (e1.mpr q))]
  · rw [if_neg c1]
    rw [Int32.lt_iff_toInt_lt] at c1
    rw [if_neg (by omega)]
theorem own_wordv (pos : Int32) (P : Nat) (hp : pos.toInt = P) (hP : P < 128) : ((pos.toUInt32 >>> ((6 : Int32) &&& 31).toUInt32).toInt32).toInt = ((P / 64 : Nat) : Int) ∧ (pos &&& (63 : Int32)).toInt = ((P % 64 : Nat) : Int) := by
  rw [own_ofnat pos P hp (by omega)]
  have : ∀ P : Fin 128, (((Int32.ofNat P).toUInt32 >>> ((6 : Int32) &&& 31).toUInt32).toInt32).toInt = ((P / 64 : Nat) : Int) ∧ (Int32.ofNat P &&& (63 : Int32)).toInt = ((P % 64 : Nat) : Int) := by decide +kernel
  exact this ⟨P, hP⟩
theorem own_rep (x val : Int64) (i pos cnt : Int32) (P N I : Nat) (hi : i.toInt = I) (hp : pos.toInt = P) (hn : cnt.toInt = N) (hP : P < 128) (hN : N < 64) (hI : I < 3) (hv : ∀ j, N ≤ j → val.toBitVec.getLsbD j = false) (j : Nat) (hj : j < 64) :
    (repF x i pos val cnt).toBitVec.getLsbD j = if P ≤ 64 * I + j ∧ 64 * I + j < P + N then val.toBitVec.getLsbD (64 * I + j - P) else x.toBitVec.getLsbD j := by
  have l64 : (64 : Int32).toInt = 64 := rfl
  have l0 : (0 : Int32).toInt = 0 := rfl
  have l1 : (1 : Int32).toInt = 1 := rfl
  obtain ⟨w1, w2⟩ := own_wordv pos P hp hP
  unfold repF
  obtain ⟨Wd, eW⟩ : ∃ Wd, Wd = ((pos.toUInt32 >>> ((6 : Int32) &&& 31).toUInt32).toInt32) := ⟨_, rfl⟩
  obtain ⟨O, eO⟩ : ∃ O, O = (pos &&& (63 : Int32)) := ⟨_, rfl⟩
  rw [← eW] at w1; rw [← eO] at w2
  rw [← eW, ← eO]
  by_cases c0 : cnt = 0
  · rw [if_pos c0, if_neg]
    subst c0; omega
  · rw [if_neg c0]
    by_cases c1 : Wd = i
    · rw [if_pos c1]
      subst c1
      have hs := own_shv val O (P % 64) w2 (by omega)
      rw [Int64.toBitVec_or, Int64.toBitVec_and, BitVec.getLsbD_or, BitVec.getLsbD_and, own_not _ j hj, own_shv _ O (P % 64) w2 (by omega), hs, BitVec.getLsbD_shiftLeft, BitVec.getLsbD_shiftLeft]
      by_cases c2 : j < P % 64
      · rw [if_neg (by omega)]; simp [c2]
      · rw [own_mask cnt N hn hN _ (by omega)]
        have e2 : 64 * I + j - P = j - P % 64 := by omega
        by_cases c3 : j - P % 64 < N
        · rw [if_pos (by omega), e2]; simp [c2, c3, hj]
        · rw [if_neg (by omega), hv _ (by omega)]; simp [c2, c3, hj]
    · rw [if_neg c1]
      have a1 := c_iadd O cnt; have a2 := rng32 (O + cnt); have a3 := c_iadd Wd 1; have a4 := rng32 (Wd + 1)
      have d1 : Wd.toInt ≠ i.toInt := fun q => c1 (Int32.toInt_inj.mp q)
      by_cases c2 : (64 : Int32) < (O + cnt) ∧ Wd + (1 : Int32) = i
      · rw [if_pos c2]
        obtain ⟨c3, c4⟩ := c2
        subst c4
        rw [Int32.lt_iff_toInt_lt] at c3
        have b1 := c_isub 64 O; have b2 := rng32 (64 - O)
        obtain ⟨S, hS⟩ : ∃ S : Nat, ((64 : Int32) - O).toInt = S := ⟨((64 : Int32) - O).toInt.toNat, by omega⟩
        rw [Int64.toBitVec_or, Int64.toBitVec_and, BitVec.getLsbD_or, BitVec.getLsbD_and, own_not _ j hj, own_usv _ _ S hS (by omega), own_usv _ _ S hS (by omega), BitVec.getLsbD_ushiftRight, BitVec.getLsbD_ushiftRight]
        have f1 : I = P / 64 + 1 := by clear hS b1 b2 a1 a2 c3; omega
        have f2 : S = 64 - P % 64 := by clear a1 a2 a3 a4 c3; omega
        have e2 : 64 * I + j - P = S + j := by clear hS b1 b2 a1 a2 a3 a4 c3 hi d1; omega
        have g1 : P ≤ 64 * I + j := by clear hS b1 b2 a1 a2 a3 a4 c3 hi d1 e2; omega
        have g2 : 64 * I + j < P + N ↔ S + j < N := by clear hS b1 b2 a1 a2 a3 a4 c3 hi d1 e2; omega
        by_cases c5 : S + j < N
        · rw [if_pos ⟨g1, g2.mpr c5⟩, e2, own_mask cnt N hn hN _ (Nat.lt_trans c5 hN)]; simp [c5]
        · rw [if_neg (fun q => c5 (g2.mp q.2)), hv _ (Nat.le_of_not_lt c5)]
          by_cases c6 : S + j < 64
          · rw [own_mask cnt N hn hN _ c6]; simp [c5]
          · rw [BitVec.getLsbD_of_ge _ (S + j) (Nat.le_of_not_lt c6)]; simp
      · rw [if_neg c2, if_neg]
        intro q
        apply c2
        refine ⟨?_, Int32.toInt_inj.mp ?_⟩
        · rw [Int32.lt_iff_toInt_lt]; omega
        · omega
theorem own_andn (q m : Int32) (K : Nat) (hm : K < 31) (e : m.toBitVec.toNat = 2 ^ K - 1) : ∃ P : Nat, (q &&& m).toInt = P ∧ P < 2 ^ K := by
  have h2 : 2 ^ K ≤ 2 ^ 30 := Nat.pow_le_pow_right (by decide) (by omega)
  have h3 : 0 < 2 ^ K := Nat.pow_pos (by decide)
  have e1 : (q &&& m).toBitVec.toNat ≤ 2 ^ K - 1 := by
    rw [Int32.toBitVec_and, BitVec.toNat_and, e]; exact Nat.and_le_right
  refine ⟨(q &&& m).toBitVec.toNat, ?_, by omega⟩
  show (q &&& m).toBitVec.toInt = _
  rw [BitVec.toInt_eq_toNat_cond, if_pos (by omega)]
theorem own_word (q : Int32) : ((((q &&& (127 : Int32))).toUInt32 >>> ((6 : Int32) &&& 31).toUInt32).toInt32) = (0 : Int32) ∨ (((q &&& (127 : Int32)).toUInt32 >>> ((6 : Int32) &&& 31).toUInt32).toInt32) = (1 : Int32) := by
  obtain ⟨P, h1, h2⟩ := own_andn q 127 7 (by decide) rfl
  have w := (own_wordv _ P h1 h2).1
  have : P / 64 = 0 ∨ P / 64 = 1 := by omega
  rcases this with q' | q'
  · left; apply Int32.toInt_inj.mp; rw [q'] at w; exact w
  · right; apply Int32.toInt_inj.mp; rw [q'] at w; exact w
theorem own_bits (x v : Int64) (i q n : Int32) (hi : i = 0 ∨ i = 1 ∨ i = 2) : repF x i (q &&& (127 : Int32)) (v &&& (((1 : Int64) <<< ((n &&& (63 : Int32)) &&& 0x3f).toInt64) - (1 : Int64))) (n &&& (63 : Int32)) = expF x i (q &&& (127 : Int32)) (v &&& (((1 : Int64) <<< ((n &&& (63 : Int32)) &&& 0x3f).toInt64) - (1 : Int64))) (n &&& (63 : Int32)) := by
  obtain ⟨P, h1, h2⟩ := own_andn q 127 7 (by decide) rfl
  obtain ⟨N, h3, h4⟩ := own_andn n 63 6 (by decide) rfl
  have hv : ∀ j, N ≤ j → (v &&& (((1 : Int64) <<< ((n &&& (63 : Int32)) &&& 0x3f).toInt64) - (1 : Int64))).toBitVec.getLsbD j = false := by
    intro j hj
    by_cases c : j < 64
    · rw [Int64.toBitVec_and, BitVec.getLsbD_and, own_mask _ N h3 h4 j c]
      have : ¬ j < N := by omega
      simp [this]
    · exact BitVec.getLsbD_of_ge _ _ (by omega)
  obtain ⟨I, A, h5, h6, h7, h8⟩ : ∃ (I : Nat) (A : Int32), i.toInt = I ∧ I < 3 ∧ (64 : Int32) * i = A ∧ A.toInt = 64 * I := by
    rcases hi with rfl | rfl | rfl
    · exact ⟨0, 0, rfl, by decide, by decide, rfl⟩
    · exact ⟨1, 64, rfl, by decide, by decide, rfl⟩
    · exact ⟨2, 128, rfl, by decide, by decide, rfl⟩
  apply Int64.toBitVec_inj.mp
  apply BitVec.eq_of_getLsbD_eq
  intro j hj
  rw [own_rep x _ i _ _ P N I h5 h1 h3 h2 h4 h6 hv j hj, own_exp x _ i _ _ A P N I h7 h8 h1 h3 h2 h4 h6 j hj]
theorem pn_0 : plainName "com/example/parley/parley/core/PackedBitsReplacePinLaw" = true := by first | (simp [plainName, overriddenIn]; done) | decide +kernel
theorem pd_1 : parseMethodDescriptor "([JIJI)V" = some ⟨[(.array .long), .int, .long, .int], none⟩ := by decide +kernel
theorem pd_2 : parseMethodDescriptor "(JIIJI)J" = some ⟨[.long, .int, .int, .long, .int], some .long⟩ := by decide +kernel
theorem ef_rm0 (m : MethodId) (w0 : Int64) (w1 : Int64) (w2 : Int64) (q : Int32) (v : Int64) (n : Int32) : entryFrame m #[(.long w0), (.long w1), (.long w2), (.int q), (.long v), (.int n)] maxLocals = mkF m 0 #[.val (.long w0), .second, .val (.long w1), .second, .val (.long w2), .second, .val (.int q), .val (.long v), .second, .val (.int n), .unset, .unset, .unset, .unset, .unset] [] := by first | (simp [entryFrame, mkF, argsToLocals, Value.category, maxLocals]; done) | rfl
set_option maxRecDepth 65536 in
set_option maxHeartbeats 40000000 in
theorem rm0 (l : Launch) (Z : State) (a0 : Array Value) (hw : ∀ d ∈ tables_1, d.before a0 Z = true) (ws : List Jvm.Cond) (w0 : Int64) (w1 : Int64) (w2 : Int64) (q : Int32) (v : Int64) (n : Int32)  (h0 : Heap) (n0 : Nat) (Z0 : n0 ≤ h0.size)  :
    MetFree l x (head1 (Jvm.Cond.code x code maxLocals ret :: ws) room_1) (fun a_ U_ => a_ = #[(.long w0), (.long w1), (.long w2), (.int q), (.long v), (.int n)] ∧ Z.Warmed39 U_.vm ∧ U_.heap = h0) (fun _ _ _ _ _ => True) (fun _ U_ o_ U'_ => ∃ v_ L_, o_ = .returned v_ ∧ QL n0 v_ U'_.heap L_ ∧ FrameEnd U_ o_ U'_ L_ room_1.cells room_1.slots) := by
  refine MetFree.of_bodySF (plainFor_of_name pn_0) hisR ?_
  intro p e s m args below meth c s₁ Bd hml0 hP hK
  obtain ⟨rfl, hZ, hh⟩ := hP
  have hx := Bd.exec
  have hby := Bd.bytes
  have hml : c.maxLocals = 15 := hml0
  have hown : s.vm.findClass "com/example/parley/parley/core/PackedBitsReplacePinLaw" = some m.cls := findClass_of_methodNamed Bd.named
  have hnm := (name_of_methodNamed Bd.named Bd.method).1
  have X0 : Stand p l e room_1 s m #[(.long w0), (.long w1), (.long w2), (.int q), (.long v), (.int n)] below meth c s₁ [] 0 0 := Stand.of_body Bd
  have e0 : s₁.heap = h0 := by rw [← hh, Bd.state]; rfl
  have N0 := Fr.nil n0
  have k0 : ∀ tg, Steps p.tables e below (s₁.setTop (mkF m 0 #[.val (.long w0), .second, .val (.long w1), .second, .val (.long w2), .second, .val (.int q), .val (.long v), .second, .val (.int n), .unset, .unset, .unset, .unset, .unset] [])) tg → Steps p.tables e below (s₁.setTop (entryFrame m #[(.long w0), (.long w1), (.long w2), (.int q), (.long v), (.int n)] maxLocals)) tg := fun tg k => castTop (ef_rm0 m w0 w1 w2 q v n) k
  obtain ⟨T1, h1, c1, X1, e1, E1, A1, st1⟩ := newP X0 hx hZ (hw _ (List.mem_of_getElem? (i := 0) rfl)) e0 (g := (mkF m 26 #[.val (.long w0), .second, .val (.long w1), .second, .val (.long w2), .second, .val (.int q), .val (.long v), .second, .val (.int n), .val (.int (n &&& (63 : Int32))), .val (.int (q &&& (127 : Int32))), .val (.long (v &&& (((1 : Int64) <<< ((n &&& (63 : Int32)) &&& 0x3f).toInt64) - (1 : Int64)))), .second, .unset] [(.int (3 : Int32))])) rfl (hb hby at_26) rfl (by decide) (cap := 3) (by decide) (by decide) (by decide) (by decide)
  obtain ⟨b1, g1⟩ : ∃ z, z = h0.size := ⟨_, rfl⟩
  have g_b1 : n0 ≤ b1 := Nat.le_trans Z0 (Nat.le_of_eq g1.symm)
  have sz_b1 : h0.size ≤ b1 := Nat.le_trans (Keep.refl h0 []).1 (Nat.le_of_eq g1.symm)
  rw [← g1] at A1 st1
  have Z1 := Nat.le_trans Z0 E1.1
  have KP1 := (Keep.refl h0 []).ext E1
  have V_b1 : Arv Z h1 b1 c1 .long (3 : Int32) [(.long (0 : Int64)), (.long (0 : Int64)), (.long (0 : Int64))] (.long (0 : Int64)) := (Arv.new A1 (by decide)).pad (pad_rep [] (.long (0 : Int64)) 3)
  obtain ⟨cl31_2, Ar31_2, q31_2, S31_2, N31_2_, H31_2, G31_2⟩ := id V_b1
  have hin31_2 : ¬ ((0 : Int32) < 0 ∨ cl31_2.slots.size ≤ ((0 : Int32)).toNatClampNeg) := inb_of S31_2 ⟨by decide, by decide⟩
  obtain ⟨T3, h3, X3, e3, W3, st3⟩ := stJ X1 hx hZ e1 Ar31_2 (j := (0 : Int32)) hin31_2 (g := (mkF m 31 #[.val (.long w0), .second, .val (.long w1), .second, .val (.long w2), .second, .val (.int q), .val (.long v), .second, .val (.int n), .val (.int (n &&& (63 : Int32))), .val (.int (q &&& (127 : Int32))), .val (.long (v &&& (((1 : Int64) <<< ((n &&& (63 : Int32)) &&& 0x3f).toInt64) - (1 : Int64)))), .second, .unset] [(.long w0), (.int (0 : Int32)), (.ref b1), (.ref b1)])) rfl rfl (hb hby at_31)
  have Z3 := Nat.le_trans Z1 (Keep.of_wr W3).1
  have KP3 := KP1.wr W3 (Or.inr sz_b1)
  have N3 := Fr.snoc X3 N0 g_b1
  have V3_b1 : Arv Z h3 b1 c1 .long (3 : Int32) [(.long w0), (.long (0 : Int64)), (.long (0 : Int64))] (.long (0 : Int64)) := Arv.set Ar31_2 q31_2 S31_2 N31_2_ H31_2 G31_2 rfl W3 0 rfl (Nat.le_of_ble_eq_true rfl)
  obtain ⟨cl35_4, Ar35_4, q35_4, S35_4, N35_4_, H35_4, G35_4⟩ := id V3_b1
  have hin35_4 : ¬ ((1 : Int32) < 0 ∨ cl35_4.slots.size ≤ ((1 : Int32)).toNatClampNeg) := inb_of S35_4 ⟨by decide, by decide⟩
  obtain ⟨T5, h5, X5, e5, W5, st5⟩ := stJ X3 hx hZ e3 Ar35_4 (j := (1 : Int32)) hin35_4 (g := (mkF m 35 #[.val (.long w0), .second, .val (.long w1), .second, .val (.long w2), .second, .val (.int q), .val (.long v), .second, .val (.int n), .val (.int (n &&& (63 : Int32))), .val (.int (q &&& (127 : Int32))), .val (.long (v &&& (((1 : Int64) <<< ((n &&& (63 : Int32)) &&& 0x3f).toInt64) - (1 : Int64)))), .second, .unset] [(.long w1), (.int (1 : Int32)), (.ref b1), (.ref b1)])) rfl rfl (hb hby at_35)
  have Z5 := Nat.le_trans Z3 (Keep.of_wr W5).1
  have KP5 := KP3.wr W5 (Or.inr sz_b1)
  have N5 := Fr.snoc X5 N3 g_b1
  have V5_b1 : Arv Z h5 b1 c1 .long (3 : Int32) [(.long w0), (.long w1), (.long (0 : Int64))] (.long (0 : Int64)) := Arv.set Ar35_4 q35_4 S35_4 N35_4_ H35_4 G35_4 rfl W5 1 rfl (Nat.le_of_ble_eq_true rfl)
  obtain ⟨cl40_6, Ar40_6, q40_6, S40_6, N40_6_, H40_6, G40_6⟩ := id V5_b1
  have hin40_6 : ¬ ((2 : Int32) < 0 ∨ cl40_6.slots.size ≤ ((2 : Int32)).toNatClampNeg) := inb_of S40_6 ⟨by decide, by decide⟩
  obtain ⟨T7, h7, X7, e7, W7, st7⟩ := stJ X5 hx hZ e5 Ar40_6 (j := (2 : Int32)) hin40_6 (g := (mkF m 40 #[.val (.long w0), .second, .val (.long w1), .second, .val (.long w2), .second, .val (.int q), .val (.long v), .second, .val (.int n), .val (.int (n &&& (63 : Int32))), .val (.int (q &&& (127 : Int32))), .val (.long (v &&& (((1 : Int64) <<< ((n &&& (63 : Int32)) &&& 0x3f).toInt64) - (1 : Int64)))), .second, .unset] [(.long w2), (.int (2 : Int32)), (.ref b1), (.ref b1)])) rfl rfl (hb hby at_40)
  have Z7 := Nat.le_trans Z5 (Keep.of_wr W7).1
  have KP7 := KP5.wr W7 (Or.inr sz_b1)
  have N7 := Fr.snoc X7 N5 g_b1
  have V7_b1 : Arv Z h7 b1 c1 .long (3 : Int32) [(.long w0), (.long w1), (.long w2)] (.long (0 : Int64)) := Arv.set Ar40_6 q40_6 S40_6 N40_6_ H40_6 G40_6 rfl W7 2 rfl (Nat.le_of_ble_eq_true rfl)
  obtain ⟨_, _, ⟨T8, L8, k8, n8⟩, -, X8, ⟨Lc8, hQ8, l8, y8, z8⟩, st8⟩ := Jvm.LawKit.callS X7 hx (y := (⟨"com/example/parley/parley/core/PackedBits", "replace", "([JIJI)V"⟩ : MethodName)) hown (mvT hZ (hw _ (List.mem_of_getElem? (i := 1) rfl))) (mvT hZ (hw _ (List.mem_of_getElem? (i := 2) rfl))) (mvT hZ (hw _ (List.mem_of_getElem? (i := 3) rfl))) (mvT hZ (hw _ (List.mem_of_getElem? (i := 4) rfl))) (by decide) (backOf (W := 0) (rm1 l Z a0 hw [] b1 (q &&& (127 : Int32)) (v &&& (((1 : Int64) <<< ((n &&& (63 : Int32)) &&& 0x3f).toInt64) - (1 : Int64))) (n &&& (63 : Int32)) c1 w0 w1 w2 h7 n0 Z7 V7_b1 g_b1 (own_word _)) hZ (hw _ (List.mem_of_getElem? (i := 4) rfl)) (hw _ (List.mem_of_getElem? (i := 3) rfl)) (by decide) (by decide)) (g := (mkF m 51 #[.val (.long w0), .second, .val (.long w1), .second, .val (.long w2), .second, .val (.int q), .val (.long v), .second, .val (.int n), .val (.int (n &&& (63 : Int32))), .val (.int (q &&& (127 : Int32))), .val (.long (v &&& (((1 : Int64) <<< ((n &&& (63 : Int32)) &&& 0x3f).toInt64) - (1 : Int64)))), .second, .val (.ref b1)] [(.int (n &&& (63 : Int32))), (.long (v &&& (((1 : Int64) <<< ((n &&& (63 : Int32)) &&& 0x3f).toInt64) - (1 : Int64)))), (.int (q &&& (127 : Int32))), (.ref b1)])) rfl (by rw [hml]; rfl) (argsL := [(.ref b1), (.int (q &&& (127 : Int32))), (.long (v &&& (((1 : Int64) <<< ((n &&& (63 : Int32)) &&& 0x3f).toInt64) - (1 : Int64)))), (.int (n &&& (63 : Int32)))]) (rest := []) (lenOf pd_1 rfl) rfl (by show 2 * 0 + _ ≤ _; exact Nat.le_of_eq rfl) (hb hby at_51) (fun _ _ => ⟨rfl, e7, (by decide : 1 + 0 ≤ _), (by decide : 3 + 0 ≤ _)⟩)
  dsimp only [Pt.U, Pt.locs, Pt.cells, Pt.slots] at X8 l8 y8 z8 st8 hQ8
  subst l8 y8 z8
  obtain ⟨rfl, N8q, K8, V8_b1⟩ := hQ8
  have N8 := Fr.app N7 N8q
  have Z8 := Nat.le_trans Z7 K8.1
  have KP8 := KP7.trans K8 (allS (Or.inr sz_b1) all0)
  obtain ⟨cl57_9, Ar57_9, q57_9, S57_9, N57_9_, H57_9, G57_9⟩ := id V8_b1
  have hin57_9 : ¬ ((0 : Int32) < 0 ∨ cl57_9.slots.size ≤ ((0 : Int32)).toNatClampNeg) := inb_of S57_9 ⟨by decide, by decide⟩
  have hat57_9 : cl57_9.slots[((0 : Int32)).toNatClampNeg]? = some (.long (repF w0 0 (q &&& (127 : Int32)) (v &&& (((1 : Int64) <<< ((n &&& (63 : Int32)) &&& 0x3f).toInt64) - (1 : Int64))) (n &&& (63 : Int32)))) := H57_9.at hin57_9 rfl
  obtain ⟨_, _, ⟨T10, L10, k10, n10⟩, -, X10, ⟨Lc10, hQ10, l10, y10, z10⟩, st10⟩ := Jvm.LawKit.callS X8 hx (y := (⟨"com/example/parley/parley/core/PackedBitsReplacePinLaw", "expect", "(JIIJI)J"⟩ : MethodName)) hown (mvT hZ (hw _ (List.mem_of_getElem? (i := 5) rfl))) (mvT hZ (hw _ (List.mem_of_getElem? (i := 6) rfl))) (mvT hZ (hw _ (List.mem_of_getElem? (i := 7) rfl))) (mvT hZ (hw _ (List.mem_of_getElem? (i := 8) rfl))) (by decide) (backOf (W := 2) (rm2 l Z a0 hw [] w0 (0 : Int32) (q &&& (127 : Int32)) (v &&& (((1 : Int64) <<< ((n &&& (63 : Int32)) &&& 0x3f).toInt64) - (1 : Int64))) (n &&& (63 : Int32))  T8.heap n0 ) hZ (hw _ (List.mem_of_getElem? (i := 8) rfl)) (hw _ (List.mem_of_getElem? (i := 7) rfl)) (by decide) (by decide)) (g := (mkF m 66 #[.val (.long w0), .second, .val (.long w1), .second, .val (.long w2), .second, .val (.int q), .val (.long v), .second, .val (.int n), .val (.int (n &&& (63 : Int32))), .val (.int (q &&& (127 : Int32))), .val (.long (v &&& (((1 : Int64) <<< ((n &&& (63 : Int32)) &&& 0x3f).toInt64) - (1 : Int64)))), .second, .val (.ref b1)] [(.int (n &&& (63 : Int32))), (.long (v &&& (((1 : Int64) <<< ((n &&& (63 : Int32)) &&& 0x3f).toInt64) - (1 : Int64)))), (.int (q &&& (127 : Int32))), (.int (0 : Int32)), (.long w0), (.long (repF w0 0 (q &&& (127 : Int32)) (v &&& (((1 : Int64) <<< ((n &&& (63 : Int32)) &&& 0x3f).toInt64) - (1 : Int64))) (n &&& (63 : Int32))))])) rfl (by rw [hml]; rfl) (argsL := [(.long w0), (.int (0 : Int32)), (.int (q &&& (127 : Int32))), (.long (v &&& (((1 : Int64) <<< ((n &&& (63 : Int32)) &&& 0x3f).toInt64) - (1 : Int64)))), (.int (n &&& (63 : Int32)))]) (rest := [(.long (repF w0 0 (q &&& (127 : Int32)) (v &&& (((1 : Int64) <<< ((n &&& (63 : Int32)) &&& 0x3f).toInt64) - (1 : Int64))) (n &&& (63 : Int32))))]) (lenOf pd_2 rfl) rfl (by show 2 * 0 + _ ≤ _; exact Nat.le_of_eq rfl) (hb hby at_66) (fun _ _ => ⟨rfl, rfl, (by decide : 1 + 0 ≤ _), (by decide : 3 + 0 ≤ _)⟩)
  dsimp only [Pt.U, Pt.locs, Pt.cells, Pt.slots] at X10 l10 y10 z10 st10 hQ10
  subst l10 y10 z10
  obtain ⟨rfl, N10q, e10⟩ := hQ10
  have N10 := Fr.app N8 N10q
  have hd11 : (repF w0 0 (q &&& (127 : Int32)) (v &&& (((1 : Int64) <<< ((n &&& (63 : Int32)) &&& 0x3f).toInt64) - (1 : Int64))) (n &&& (63 : Int32))) = (expF w0 (0 : Int32) (q &&& (127 : Int32)) (v &&& (((1 : Int64) <<< ((n &&& (63 : Int32)) &&& 0x3f).toInt64) - (1 : Int64))) (n &&& (63 : Int32))) := own_bits _ _ _ _ _ (Or.inl rfl)
  obtain ⟨cl76_12, Ar76_12, q76_12, S76_12, N76_12_, H76_12, G76_12⟩ := id V8_b1
  have hin76_12 : ¬ ((1 : Int32) < 0 ∨ cl76_12.slots.size ≤ ((1 : Int32)).toNatClampNeg) := inb_of S76_12 ⟨by decide, by decide⟩
  have hat76_12 : cl76_12.slots[((1 : Int32)).toNatClampNeg]? = some (.long (repF w1 1 (q &&& (127 : Int32)) (v &&& (((1 : Int64) <<< ((n &&& (63 : Int32)) &&& 0x3f).toInt64) - (1 : Int64))) (n &&& (63 : Int32)))) := H76_12.at hin76_12 rfl
  obtain ⟨_, _, ⟨T13, L13, k13, n13⟩, -, X13, ⟨Lc13, hQ13, l13, y13, z13⟩, st13⟩ := Jvm.LawKit.callS X10 hx (y := (⟨"com/example/parley/parley/core/PackedBitsReplacePinLaw", "expect", "(JIIJI)J"⟩ : MethodName)) hown (mvT hZ (hw _ (List.mem_of_getElem? (i := 5) rfl))) (mvT hZ (hw _ (List.mem_of_getElem? (i := 6) rfl))) (mvT hZ (hw _ (List.mem_of_getElem? (i := 7) rfl))) (mvT hZ (hw _ (List.mem_of_getElem? (i := 8) rfl))) (by decide) (backOf (W := 2) (rm2 l Z a0 hw [] w1 (1 : Int32) (q &&& (127 : Int32)) (v &&& (((1 : Int64) <<< ((n &&& (63 : Int32)) &&& 0x3f).toInt64) - (1 : Int64))) (n &&& (63 : Int32))  T8.heap n0 ) hZ (hw _ (List.mem_of_getElem? (i := 8) rfl)) (hw _ (List.mem_of_getElem? (i := 7) rfl)) (by decide) (by decide)) (g := (mkF m 85 #[.val (.long w0), .second, .val (.long w1), .second, .val (.long w2), .second, .val (.int q), .val (.long v), .second, .val (.int n), .val (.int (n &&& (63 : Int32))), .val (.int (q &&& (127 : Int32))), .val (.long (v &&& (((1 : Int64) <<< ((n &&& (63 : Int32)) &&& 0x3f).toInt64) - (1 : Int64)))), .second, .val (.ref b1)] [(.int (n &&& (63 : Int32))), (.long (v &&& (((1 : Int64) <<< ((n &&& (63 : Int32)) &&& 0x3f).toInt64) - (1 : Int64)))), (.int (q &&& (127 : Int32))), (.int (1 : Int32)), (.long w1), (.long (repF w1 1 (q &&& (127 : Int32)) (v &&& (((1 : Int64) <<< ((n &&& (63 : Int32)) &&& 0x3f).toInt64) - (1 : Int64))) (n &&& (63 : Int32))))])) rfl (by rw [hml]; rfl) (argsL := [(.long w1), (.int (1 : Int32)), (.int (q &&& (127 : Int32))), (.long (v &&& (((1 : Int64) <<< ((n &&& (63 : Int32)) &&& 0x3f).toInt64) - (1 : Int64)))), (.int (n &&& (63 : Int32)))]) (rest := [(.long (repF w1 1 (q &&& (127 : Int32)) (v &&& (((1 : Int64) <<< ((n &&& (63 : Int32)) &&& 0x3f).toInt64) - (1 : Int64))) (n &&& (63 : Int32))))]) (lenOf pd_2 rfl) rfl (by show 2 * 0 + _ ≤ _; exact Nat.le_of_eq rfl) (hb hby at_85) (fun _ _ => ⟨rfl, e10, (by decide : 1 + 0 ≤ _), (by decide : 3 + 0 ≤ _)⟩)
  dsimp only [Pt.U, Pt.locs, Pt.cells, Pt.slots] at X13 l13 y13 z13 st13 hQ13
  subst l13 y13 z13
  obtain ⟨rfl, N13q, e13⟩ := hQ13
  have N13 := Fr.app N10 N13q
  have hd14 : (repF w1 1 (q &&& (127 : Int32)) (v &&& (((1 : Int64) <<< ((n &&& (63 : Int32)) &&& 0x3f).toInt64) - (1 : Int64))) (n &&& (63 : Int32))) = (expF w1 (1 : Int32) (q &&& (127 : Int32)) (v &&& (((1 : Int64) <<< ((n &&& (63 : Int32)) &&& 0x3f).toInt64) - (1 : Int64))) (n &&& (63 : Int32))) := own_bits _ _ _ _ _ (Or.inr (Or.inl rfl))
  obtain ⟨cl95_15, Ar95_15, q95_15, S95_15, N95_15_, H95_15, G95_15⟩ := id V8_b1
  have hin95_15 : ¬ ((2 : Int32) < 0 ∨ cl95_15.slots.size ≤ ((2 : Int32)).toNatClampNeg) := inb_of S95_15 ⟨by decide, by decide⟩
  have hat95_15 : cl95_15.slots[((2 : Int32)).toNatClampNeg]? = some (.long (repF w2 2 (q &&& (127 : Int32)) (v &&& (((1 : Int64) <<< ((n &&& (63 : Int32)) &&& 0x3f).toInt64) - (1 : Int64))) (n &&& (63 : Int32)))) := H95_15.at hin95_15 rfl
  obtain ⟨_, _, ⟨T16, L16, k16, n16⟩, -, X16, ⟨Lc16, hQ16, l16, y16, z16⟩, st16⟩ := Jvm.LawKit.callS X13 hx (y := (⟨"com/example/parley/parley/core/PackedBitsReplacePinLaw", "expect", "(JIIJI)J"⟩ : MethodName)) hown (mvT hZ (hw _ (List.mem_of_getElem? (i := 5) rfl))) (mvT hZ (hw _ (List.mem_of_getElem? (i := 6) rfl))) (mvT hZ (hw _ (List.mem_of_getElem? (i := 7) rfl))) (mvT hZ (hw _ (List.mem_of_getElem? (i := 8) rfl))) (by decide) (backOf (W := 2) (rm2 l Z a0 hw [] w2 (2 : Int32) (q &&& (127 : Int32)) (v &&& (((1 : Int64) <<< ((n &&& (63 : Int32)) &&& 0x3f).toInt64) - (1 : Int64))) (n &&& (63 : Int32))  T8.heap n0 ) hZ (hw _ (List.mem_of_getElem? (i := 8) rfl)) (hw _ (List.mem_of_getElem? (i := 7) rfl)) (by decide) (by decide)) (g := (mkF m 105 #[.val (.long w0), .second, .val (.long w1), .second, .val (.long w2), .second, .val (.int q), .val (.long v), .second, .val (.int n), .val (.int (n &&& (63 : Int32))), .val (.int (q &&& (127 : Int32))), .val (.long (v &&& (((1 : Int64) <<< ((n &&& (63 : Int32)) &&& 0x3f).toInt64) - (1 : Int64)))), .second, .val (.ref b1)] [(.int (n &&& (63 : Int32))), (.long (v &&& (((1 : Int64) <<< ((n &&& (63 : Int32)) &&& 0x3f).toInt64) - (1 : Int64)))), (.int (q &&& (127 : Int32))), (.int (2 : Int32)), (.long w2), (.long (repF w2 2 (q &&& (127 : Int32)) (v &&& (((1 : Int64) <<< ((n &&& (63 : Int32)) &&& 0x3f).toInt64) - (1 : Int64))) (n &&& (63 : Int32))))])) rfl (by rw [hml]; rfl) (argsL := [(.long w2), (.int (2 : Int32)), (.int (q &&& (127 : Int32))), (.long (v &&& (((1 : Int64) <<< ((n &&& (63 : Int32)) &&& 0x3f).toInt64) - (1 : Int64)))), (.int (n &&& (63 : Int32)))]) (rest := [(.long (repF w2 2 (q &&& (127 : Int32)) (v &&& (((1 : Int64) <<< ((n &&& (63 : Int32)) &&& 0x3f).toInt64) - (1 : Int64))) (n &&& (63 : Int32))))]) (lenOf pd_2 rfl) rfl (by show 2 * 0 + _ ≤ _; exact Nat.le_of_eq rfl) (hb hby at_105) (fun _ _ => ⟨rfl, e13, (by decide : 1 + 0 ≤ _), (by decide : 3 + 0 ≤ _)⟩)
  dsimp only [Pt.U, Pt.locs, Pt.cells, Pt.slots] at X16 l16 y16 z16 st16 hQ16
  subst l16 y16 z16
  obtain ⟨rfl, N16q, e16⟩ := hQ16
  have N16 := Fr.app N13 N16q
  have hd17 : (repF w2 2 (q &&& (127 : Int32)) (v &&& (((1 : Int64) <<< ((n &&& (63 : Int32)) &&& 0x3f).toInt64) - (1 : Int64))) (n &&& (63 : Int32))) = (expF w2 (2 : Int32) (q &&& (127 : Int32)) (v &&& (((1 : Int64) <<< ((n &&& (63 : Int32)) &&& 0x3f).toInt64) - (1 : Int64))) (n &&& (63 : Int32))) := own_bits _ _ _ _ _ (Or.inr (Or.inr rfl))
  have k18 : ∀ tg, Steps p.tables e below (T16.setTop (mkF m 117 #[.val (.long w0), .second, .val (.long w1), .second, .val (.long w2), .second, .val (.int q), .val (.long v), .second, .val (.int n), .val (.int (n &&& (63 : Int32))), .val (.int (q &&& (127 : Int32))), .val (.long (v &&& (((1 : Int64) <<< ((n &&& (63 : Int32)) &&& 0x3f).toInt64) - (1 : Int64)))), .second, .val (.ref b1)] [(.int (1 : Int32))])) tg → Steps p.tables e below (s₁.setTop (entryFrame m #[(.long w0), (.long w1), (.long w2), (.int q), (.long v), (.int n)] maxLocals)) tg := by
    intro tg kt
    refine k0 tg ?_
    show Steps p.tables e below (s₁.setTop (mkF m 0 #[.val (.long w0), .second, .val (.long w1), .second, .val (.long w2), .second, .val (.int q), .val (.long v), .second, .val (.int n), .unset, .unset, .unset, .unset, .unset] [])) _
    refine XS.iload X0.here hx rfl (hb hby at_0) rfl ?_
    show Steps p.tables e below (s₁.setTop (mkF m 2 #[.val (.long w0), .second, .val (.long w1), .second, .val (.long w2), .second, .val (.int q), .val (.long v), .second, .val (.int n), .unset, .unset, .unset, .unset, .unset] [(.int n)])) _
    refine XS.bipush X0.here hx rfl (hb hby at_2) ?_
    show Steps p.tables e below (s₁.setTop (mkF m 4 #[.val (.long w0), .second, .val (.long w1), .second, .val (.long w2), .second, .val (.int q), .val (.long v), .second, .val (.int n), .unset, .unset, .unset, .unset, .unset] [(.int (63 : Int32)), (.int n)])) _
    refine XS.iand X0.here hx rfl (hb hby at_4) rfl ?_
    show Steps p.tables e below (s₁.setTop (mkF m 5 #[.val (.long w0), .second, .val (.long w1), .second, .val (.long w2), .second, .val (.int q), .val (.long v), .second, .val (.int n), .unset, .unset, .unset, .unset, .unset] [(.int (n &&& (63 : Int32)))])) _
    refine XS.istore X0.here hx rfl (hb hby at_5) rfl (l' := #[.val (.long w0), .second, .val (.long w1), .second, .val (.long w2), .second, .val (.int q), .val (.long v), .second, .val (.int n), .val (.int (n &&& (63 : Int32))), .unset, .unset, .unset, .unset]) rfl ?_
    show Steps p.tables e below (s₁.setTop (mkF m 7 #[.val (.long w0), .second, .val (.long w1), .second, .val (.long w2), .second, .val (.int q), .val (.long v), .second, .val (.int n), .val (.int (n &&& (63 : Int32))), .unset, .unset, .unset, .unset] [])) _
    refine XS.iload X0.here hx rfl (hb hby at_7) rfl ?_
    show Steps p.tables e below (s₁.setTop (mkF m 9 #[.val (.long w0), .second, .val (.long w1), .second, .val (.long w2), .second, .val (.int q), .val (.long v), .second, .val (.int n), .val (.int (n &&& (63 : Int32))), .unset, .unset, .unset, .unset] [(.int q)])) _
    refine XS.bipush X0.here hx rfl (hb hby at_9) ?_
    show Steps p.tables e below (s₁.setTop (mkF m 11 #[.val (.long w0), .second, .val (.long w1), .second, .val (.long w2), .second, .val (.int q), .val (.long v), .second, .val (.int n), .val (.int (n &&& (63 : Int32))), .unset, .unset, .unset, .unset] [(.int (127 : Int32)), (.int q)])) _
    refine XS.iand X0.here hx rfl (hb hby at_11) rfl ?_
    show Steps p.tables e below (s₁.setTop (mkF m 12 #[.val (.long w0), .second, .val (.long w1), .second, .val (.long w2), .second, .val (.int q), .val (.long v), .second, .val (.int n), .val (.int (n &&& (63 : Int32))), .unset, .unset, .unset, .unset] [(.int (q &&& (127 : Int32)))])) _
    refine XS.istore X0.here hx rfl (hb hby at_12) rfl (l' := #[.val (.long w0), .second, .val (.long w1), .second, .val (.long w2), .second, .val (.int q), .val (.long v), .second, .val (.int n), .val (.int (n &&& (63 : Int32))), .val (.int (q &&& (127 : Int32))), .unset, .unset, .unset]) rfl ?_
    show Steps p.tables e below (s₁.setTop (mkF m 14 #[.val (.long w0), .second, .val (.long w1), .second, .val (.long w2), .second, .val (.int q), .val (.long v), .second, .val (.int n), .val (.int (n &&& (63 : Int32))), .val (.int (q &&& (127 : Int32))), .unset, .unset, .unset] [])) _
    refine XS.lload X0.here hx rfl (hb hby at_14) rfl ?_
    show Steps p.tables e below (s₁.setTop (mkF m 16 #[.val (.long w0), .second, .val (.long w1), .second, .val (.long w2), .second, .val (.int q), .val (.long v), .second, .val (.int n), .val (.int (n &&& (63 : Int32))), .val (.int (q &&& (127 : Int32))), .unset, .unset, .unset] [(.long v)])) _
    refine XS.lconst X0.here hx rfl (hb hby at_16) ?_
    show Steps p.tables e below (s₁.setTop (mkF m 17 #[.val (.long w0), .second, .val (.long w1), .second, .val (.long w2), .second, .val (.int q), .val (.long v), .second, .val (.int n), .val (.int (n &&& (63 : Int32))), .val (.int (q &&& (127 : Int32))), .unset, .unset, .unset] [(.long (1 : Int64)), (.long v)])) _
    refine XS.iload X0.here hx rfl (hb hby at_17) rfl ?_
    show Steps p.tables e below (s₁.setTop (mkF m 19 #[.val (.long w0), .second, .val (.long w1), .second, .val (.long w2), .second, .val (.int q), .val (.long v), .second, .val (.int n), .val (.int (n &&& (63 : Int32))), .val (.int (q &&& (127 : Int32))), .unset, .unset, .unset] [(.int (n &&& (63 : Int32))), (.long (1 : Int64)), (.long v)])) _
    refine XS.lshl X0.here hx rfl (hb hby at_19) rfl ?_
    show Steps p.tables e below (s₁.setTop (mkF m 20 #[.val (.long w0), .second, .val (.long w1), .second, .val (.long w2), .second, .val (.int q), .val (.long v), .second, .val (.int n), .val (.int (n &&& (63 : Int32))), .val (.int (q &&& (127 : Int32))), .unset, .unset, .unset] [(.long ((1 : Int64) <<< ((n &&& (63 : Int32)) &&& 0x3f).toInt64)), (.long v)])) _
    refine XS.lconst X0.here hx rfl (hb hby at_20) ?_
    show Steps p.tables e below (s₁.setTop (mkF m 21 #[.val (.long w0), .second, .val (.long w1), .second, .val (.long w2), .second, .val (.int q), .val (.long v), .second, .val (.int n), .val (.int (n &&& (63 : Int32))), .val (.int (q &&& (127 : Int32))), .unset, .unset, .unset] [(.long (1 : Int64)), (.long ((1 : Int64) <<< ((n &&& (63 : Int32)) &&& 0x3f).toInt64)), (.long v)])) _
    refine XS.lsub X0.here hx rfl (hb hby at_21) rfl ?_
    show Steps p.tables e below (s₁.setTop (mkF m 22 #[.val (.long w0), .second, .val (.long w1), .second, .val (.long w2), .second, .val (.int q), .val (.long v), .second, .val (.int n), .val (.int (n &&& (63 : Int32))), .val (.int (q &&& (127 : Int32))), .unset, .unset, .unset] [(.long (((1 : Int64) <<< ((n &&& (63 : Int32)) &&& 0x3f).toInt64) - (1 : Int64))), (.long v)])) _
    refine XS.land X0.here hx rfl (hb hby at_22) rfl ?_
    show Steps p.tables e below (s₁.setTop (mkF m 23 #[.val (.long w0), .second, .val (.long w1), .second, .val (.long w2), .second, .val (.int q), .val (.long v), .second, .val (.int n), .val (.int (n &&& (63 : Int32))), .val (.int (q &&& (127 : Int32))), .unset, .unset, .unset] [(.long (v &&& (((1 : Int64) <<< ((n &&& (63 : Int32)) &&& 0x3f).toInt64) - (1 : Int64))))])) _
    refine XS.lstore X0.here hx rfl (hb hby at_23) rfl (l' := #[.val (.long w0), .second, .val (.long w1), .second, .val (.long w2), .second, .val (.int q), .val (.long v), .second, .val (.int n), .val (.int (n &&& (63 : Int32))), .val (.int (q &&& (127 : Int32))), .val (.long (v &&& (((1 : Int64) <<< ((n &&& (63 : Int32)) &&& 0x3f).toInt64) - (1 : Int64)))), .second, .unset]) rfl ?_
    show Steps p.tables e below (s₁.setTop (mkF m 25 #[.val (.long w0), .second, .val (.long w1), .second, .val (.long w2), .second, .val (.int q), .val (.long v), .second, .val (.int n), .val (.int (n &&& (63 : Int32))), .val (.int (q &&& (127 : Int32))), .val (.long (v &&& (((1 : Int64) <<< ((n &&& (63 : Int32)) &&& 0x3f).toInt64) - (1 : Int64)))), .second, .unset] [])) _
    refine XS.iconst X0.here hx rfl (hb hby at_25) ?_
    show Steps p.tables e below (s₁.setTop (mkF m 26 #[.val (.long w0), .second, .val (.long w1), .second, .val (.long w2), .second, .val (.int q), .val (.long v), .second, .val (.int n), .val (.int (n &&& (63 : Int32))), .val (.int (q &&& (127 : Int32))), .val (.long (v &&& (((1 : Int64) <<< ((n &&& (63 : Int32)) &&& 0x3f).toInt64) - (1 : Int64)))), .second, .unset] [(.int (3 : Int32))])) _
    refine st1 _ ?_
    show Steps p.tables e below (T1.setTop (mkF m 28 #[.val (.long w0), .second, .val (.long w1), .second, .val (.long w2), .second, .val (.int q), .val (.long v), .second, .val (.int n), .val (.int (n &&& (63 : Int32))), .val (.int (q &&& (127 : Int32))), .val (.long (v &&& (((1 : Int64) <<< ((n &&& (63 : Int32)) &&& 0x3f).toInt64) - (1 : Int64)))), .second, .unset] [(.ref b1)])) _
    refine XS.dup X1.here hx rfl (hb hby at_28) rfl rfl ?_
    show Steps p.tables e below (T1.setTop (mkF m 29 #[.val (.long w0), .second, .val (.long w1), .second, .val (.long w2), .second, .val (.int q), .val (.long v), .second, .val (.int n), .val (.int (n &&& (63 : Int32))), .val (.int (q &&& (127 : Int32))), .val (.long (v &&& (((1 : Int64) <<< ((n &&& (63 : Int32)) &&& 0x3f).toInt64) - (1 : Int64)))), .second, .unset] [(.ref b1), (.ref b1)])) _
    refine XS.iconst X1.here hx rfl (hb hby at_29) ?_
    show Steps p.tables e below (T1.setTop (mkF m 30 #[.val (.long w0), .second, .val (.long w1), .second, .val (.long w2), .second, .val (.int q), .val (.long v), .second, .val (.int n), .val (.int (n &&& (63 : Int32))), .val (.int (q &&& (127 : Int32))), .val (.long (v &&& (((1 : Int64) <<< ((n &&& (63 : Int32)) &&& 0x3f).toInt64) - (1 : Int64)))), .second, .unset] [(.int (0 : Int32)), (.ref b1), (.ref b1)])) _
    refine XS.lloadN X1.here hx rfl (hb hby at_30) rfl ?_
    show Steps p.tables e below (T1.setTop (mkF m 31 #[.val (.long w0), .second, .val (.long w1), .second, .val (.long w2), .second, .val (.int q), .val (.long v), .second, .val (.int n), .val (.int (n &&& (63 : Int32))), .val (.int (q &&& (127 : Int32))), .val (.long (v &&& (((1 : Int64) <<< ((n &&& (63 : Int32)) &&& 0x3f).toInt64) - (1 : Int64)))), .second, .unset] [(.long w0), (.int (0 : Int32)), (.ref b1), (.ref b1)])) _
    refine st3 _ ?_
    show Steps p.tables e below (T3.setTop (mkF m 32 #[.val (.long w0), .second, .val (.long w1), .second, .val (.long w2), .second, .val (.int q), .val (.long v), .second, .val (.int n), .val (.int (n &&& (63 : Int32))), .val (.int (q &&& (127 : Int32))), .val (.long (v &&& (((1 : Int64) <<< ((n &&& (63 : Int32)) &&& 0x3f).toInt64) - (1 : Int64)))), .second, .unset] [(.ref b1)])) _
    refine XS.dup X3.here hx rfl (hb hby at_32) rfl rfl ?_
    show Steps p.tables e below (T3.setTop (mkF m 33 #[.val (.long w0), .second, .val (.long w1), .second, .val (.long w2), .second, .val (.int q), .val (.long v), .second, .val (.int n), .val (.int (n &&& (63 : Int32))), .val (.int (q &&& (127 : Int32))), .val (.long (v &&& (((1 : Int64) <<< ((n &&& (63 : Int32)) &&& 0x3f).toInt64) - (1 : Int64)))), .second, .unset] [(.ref b1), (.ref b1)])) _
    refine XS.iconst X3.here hx rfl (hb hby at_33) ?_
    show Steps p.tables e below (T3.setTop (mkF m 34 #[.val (.long w0), .second, .val (.long w1), .second, .val (.long w2), .second, .val (.int q), .val (.long v), .second, .val (.int n), .val (.int (n &&& (63 : Int32))), .val (.int (q &&& (127 : Int32))), .val (.long (v &&& (((1 : Int64) <<< ((n &&& (63 : Int32)) &&& 0x3f).toInt64) - (1 : Int64)))), .second, .unset] [(.int (1 : Int32)), (.ref b1), (.ref b1)])) _
    refine XS.lloadN X3.here hx rfl (hb hby at_34) rfl ?_
    show Steps p.tables e below (T3.setTop (mkF m 35 #[.val (.long w0), .second, .val (.long w1), .second, .val (.long w2), .second, .val (.int q), .val (.long v), .second, .val (.int n), .val (.int (n &&& (63 : Int32))), .val (.int (q &&& (127 : Int32))), .val (.long (v &&& (((1 : Int64) <<< ((n &&& (63 : Int32)) &&& 0x3f).toInt64) - (1 : Int64)))), .second, .unset] [(.long w1), (.int (1 : Int32)), (.ref b1), (.ref b1)])) _
    refine st5 _ ?_
    show Steps p.tables e below (T5.setTop (mkF m 36 #[.val (.long w0), .second, .val (.long w1), .second, .val (.long w2), .second, .val (.int q), .val (.long v), .second, .val (.int n), .val (.int (n &&& (63 : Int32))), .val (.int (q &&& (127 : Int32))), .val (.long (v &&& (((1 : Int64) <<< ((n &&& (63 : Int32)) &&& 0x3f).toInt64) - (1 : Int64)))), .second, .unset] [(.ref b1)])) _
    refine XS.dup X5.here hx rfl (hb hby at_36) rfl rfl ?_
    show Steps p.tables e below (T5.setTop (mkF m 37 #[.val (.long w0), .second, .val (.long w1), .second, .val (.long w2), .second, .val (.int q), .val (.long v), .second, .val (.int n), .val (.int (n &&& (63 : Int32))), .val (.int (q &&& (127 : Int32))), .val (.long (v &&& (((1 : Int64) <<< ((n &&& (63 : Int32)) &&& 0x3f).toInt64) - (1 : Int64)))), .second, .unset] [(.ref b1), (.ref b1)])) _
    refine XS.iconst X5.here hx rfl (hb hby at_37) ?_
    show Steps p.tables e below (T5.setTop (mkF m 38 #[.val (.long w0), .second, .val (.long w1), .second, .val (.long w2), .second, .val (.int q), .val (.long v), .second, .val (.int n), .val (.int (n &&& (63 : Int32))), .val (.int (q &&& (127 : Int32))), .val (.long (v &&& (((1 : Int64) <<< ((n &&& (63 : Int32)) &&& 0x3f).toInt64) - (1 : Int64)))), .second, .unset] [(.int (2 : Int32)), (.ref b1), (.ref b1)])) _
    refine XS.lload X5.here hx rfl (hb hby at_38) rfl ?_
    show Steps p.tables e below (T5.setTop (mkF m 40 #[.val (.long w0), .second, .val (.long w1), .second, .val (.long w2), .second, .val (.int q), .val (.long v), .second, .val (.int n), .val (.int (n &&& (63 : Int32))), .val (.int (q &&& (127 : Int32))), .val (.long (v &&& (((1 : Int64) <<< ((n &&& (63 : Int32)) &&& 0x3f).toInt64) - (1 : Int64)))), .second, .unset] [(.long w2), (.int (2 : Int32)), (.ref b1), (.ref b1)])) _
    refine st7 _ ?_
    show Steps p.tables e below (T7.setTop (mkF m 41 #[.val (.long w0), .second, .val (.long w1), .second, .val (.long w2), .second, .val (.int q), .val (.long v), .second, .val (.int n), .val (.int (n &&& (63 : Int32))), .val (.int (q &&& (127 : Int32))), .val (.long (v &&& (((1 : Int64) <<< ((n &&& (63 : Int32)) &&& 0x3f).toInt64) - (1 : Int64)))), .second, .unset] [(.ref b1)])) _
    refine XS.astore X7.here hx rfl (hb hby at_41) rfl rfl (l' := #[.val (.long w0), .second, .val (.long w1), .second, .val (.long w2), .second, .val (.int q), .val (.long v), .second, .val (.int n), .val (.int (n &&& (63 : Int32))), .val (.int (q &&& (127 : Int32))), .val (.long (v &&& (((1 : Int64) <<< ((n &&& (63 : Int32)) &&& 0x3f).toInt64) - (1 : Int64)))), .second, .val (.ref b1)]) rfl ?_
    show Steps p.tables e below (T7.setTop (mkF m 43 #[.val (.long w0), .second, .val (.long w1), .second, .val (.long w2), .second, .val (.int q), .val (.long v), .second, .val (.int n), .val (.int (n &&& (63 : Int32))), .val (.int (q &&& (127 : Int32))), .val (.long (v &&& (((1 : Int64) <<< ((n &&& (63 : Int32)) &&& 0x3f).toInt64) - (1 : Int64)))), .second, .val (.ref b1)] [])) _
    refine XS.aload X7.here hx rfl (hb hby at_43) rfl rfl ?_
    show Steps p.tables e below (T7.setTop (mkF m 45 #[.val (.long w0), .second, .val (.long w1), .second, .val (.long w2), .second, .val (.int q), .val (.long v), .second, .val (.int n), .val (.int (n &&& (63 : Int32))), .val (.int (q &&& (127 : Int32))), .val (.long (v &&& (((1 : Int64) <<< ((n &&& (63 : Int32)) &&& 0x3f).toInt64) - (1 : Int64)))), .second, .val (.ref b1)] [(.ref b1)])) _
    refine XS.iload X7.here hx rfl (hb hby at_45) rfl ?_
    show Steps p.tables e below (T7.setTop (mkF m 47 #[.val (.long w0), .second, .val (.long w1), .second, .val (.long w2), .second, .val (.int q), .val (.long v), .second, .val (.int n), .val (.int (n &&& (63 : Int32))), .val (.int (q &&& (127 : Int32))), .val (.long (v &&& (((1 : Int64) <<< ((n &&& (63 : Int32)) &&& 0x3f).toInt64) - (1 : Int64)))), .second, .val (.ref b1)] [(.int (q &&& (127 : Int32))), (.ref b1)])) _
    refine XS.lload X7.here hx rfl (hb hby at_47) rfl ?_
    show Steps p.tables e below (T7.setTop (mkF m 49 #[.val (.long w0), .second, .val (.long w1), .second, .val (.long w2), .second, .val (.int q), .val (.long v), .second, .val (.int n), .val (.int (n &&& (63 : Int32))), .val (.int (q &&& (127 : Int32))), .val (.long (v &&& (((1 : Int64) <<< ((n &&& (63 : Int32)) &&& 0x3f).toInt64) - (1 : Int64)))), .second, .val (.ref b1)] [(.long (v &&& (((1 : Int64) <<< ((n &&& (63 : Int32)) &&& 0x3f).toInt64) - (1 : Int64)))), (.int (q &&& (127 : Int32))), (.ref b1)])) _
    refine XS.iload X7.here hx rfl (hb hby at_49) rfl ?_
    show Steps p.tables e below (T7.setTop (mkF m 51 #[.val (.long w0), .second, .val (.long w1), .second, .val (.long w2), .second, .val (.int q), .val (.long v), .second, .val (.int n), .val (.int (n &&& (63 : Int32))), .val (.int (q &&& (127 : Int32))), .val (.long (v &&& (((1 : Int64) <<< ((n &&& (63 : Int32)) &&& 0x3f).toInt64) - (1 : Int64)))), .second, .val (.ref b1)] [(.int (n &&& (63 : Int32))), (.long (v &&& (((1 : Int64) <<< ((n &&& (63 : Int32)) &&& 0x3f).toInt64) - (1 : Int64)))), (.int (q &&& (127 : Int32))), (.ref b1)])) _
    refine st8 _ ?_
    show Steps p.tables e below (T8.setTop (mkF m 54 #[.val (.long w0), .second, .val (.long w1), .second, .val (.long w2), .second, .val (.int q), .val (.long v), .second, .val (.int n), .val (.int (n &&& (63 : Int32))), .val (.int (q &&& (127 : Int32))), .val (.long (v &&& (((1 : Int64) <<< ((n &&& (63 : Int32)) &&& 0x3f).toInt64) - (1 : Int64)))), .second, .val (.ref b1)] [])) _
    refine XS.aload X8.here hx rfl (hb hby at_54) rfl rfl ?_
    show Steps p.tables e below (T8.setTop (mkF m 56 #[.val (.long w0), .second, .val (.long w1), .second, .val (.long w2), .second, .val (.int q), .val (.long v), .second, .val (.int n), .val (.int (n &&& (63 : Int32))), .val (.int (q &&& (127 : Int32))), .val (.long (v &&& (((1 : Int64) <<< ((n &&& (63 : Int32)) &&& 0x3f).toInt64) - (1 : Int64)))), .second, .val (.ref b1)] [(.ref b1)])) _
    refine XS.iconst X8.here hx rfl (hb hby at_56) ?_
    show Steps p.tables e below (T8.setTop (mkF m 57 #[.val (.long w0), .second, .val (.long w1), .second, .val (.long w2), .second, .val (.int q), .val (.long v), .second, .val (.int n), .val (.int (n &&& (63 : Int32))), .val (.int (q &&& (127 : Int32))), .val (.long (v &&& (((1 : Int64) <<< ((n &&& (63 : Int32)) &&& 0x3f).toInt64) - (1 : Int64)))), .second, .val (.ref b1)] [(.int (0 : Int32)), (.ref b1)])) _
    refine X8.laload hx (j := (0 : Int32)) (v := (.long (repF w0 0 (q &&& (127 : Int32)) (v &&& (((1 : Int64) <<< ((n &&& (63 : Int32)) &&& 0x3f).toInt64) - (1 : Int64))) (n &&& (63 : Int32))))) (by exact Ar57_9.1) (State.isArrayOf_alike hZ.alike Ar57_9.2.1) Ar57_9.2.2 hin57_9 hat57_9 (g := (mkF m 57 #[.val (.long w0), .second, .val (.long w1), .second, .val (.long w2), .second, .val (.int q), .val (.long v), .second, .val (.int n), .val (.int (n &&& (63 : Int32))), .val (.int (q &&& (127 : Int32))), .val (.long (v &&& (((1 : Int64) <<< ((n &&& (63 : Int32)) &&& 0x3f).toInt64) - (1 : Int64)))), .second, .val (.ref b1)] [(.int (0 : Int32)), (.ref b1)])) rfl rfl (hb hby at_57) _ ?_
    show Steps p.tables e below (T8.setTop (mkF m 58 #[.val (.long w0), .second, .val (.long w1), .second, .val (.long w2), .second, .val (.int q), .val (.long v), .second, .val (.int n), .val (.int (n &&& (63 : Int32))), .val (.int (q &&& (127 : Int32))), .val (.long (v &&& (((1 : Int64) <<< ((n &&& (63 : Int32)) &&& 0x3f).toInt64) - (1 : Int64)))), .second, .val (.ref b1)] [(.long (repF w0 0 (q &&& (127 : Int32)) (v &&& (((1 : Int64) <<< ((n &&& (63 : Int32)) &&& 0x3f).toInt64) - (1 : Int64))) (n &&& (63 : Int32))))])) _
    refine XS.lloadN X8.here hx rfl (hb hby at_58) rfl ?_
    show Steps p.tables e below (T8.setTop (mkF m 59 #[.val (.long w0), .second, .val (.long w1), .second, .val (.long w2), .second, .val (.int q), .val (.long v), .second, .val (.int n), .val (.int (n &&& (63 : Int32))), .val (.int (q &&& (127 : Int32))), .val (.long (v &&& (((1 : Int64) <<< ((n &&& (63 : Int32)) &&& 0x3f).toInt64) - (1 : Int64)))), .second, .val (.ref b1)] [(.long w0), (.long (repF w0 0 (q &&& (127 : Int32)) (v &&& (((1 : Int64) <<< ((n &&& (63 : Int32)) &&& 0x3f).toInt64) - (1 : Int64))) (n &&& (63 : Int32))))])) _
    refine XS.iconst X8.here hx rfl (hb hby at_59) ?_
    show Steps p.tables e below (T8.setTop (mkF m 60 #[.val (.long w0), .second, .val (.long w1), .second, .val (.long w2), .second, .val (.int q), .val (.long v), .second, .val (.int n), .val (.int (n &&& (63 : Int32))), .val (.int (q &&& (127 : Int32))), .val (.long (v &&& (((1 : Int64) <<< ((n &&& (63 : Int32)) &&& 0x3f).toInt64) - (1 : Int64)))), .second, .val (.ref b1)] [(.int (0 : Int32)), (.long w0), (.long (repF w0 0 (q &&& (127 : Int32)) (v &&& (((1 : Int64) <<< ((n &&& (63 : Int32)) &&& 0x3f).toInt64) - (1 : Int64))) (n &&& (63 : Int32))))])) _
    refine XS.iload X8.here hx rfl (hb hby at_60) rfl ?_
    show Steps p.tables e below (T8.setTop (mkF m 62 #[.val (.long w0), .second, .val (.long w1), .second, .val (.long w2), .second, .val (.int q), .val (.long v), .second, .val (.int n), .val (.int (n &&& (63 : Int32))), .val (.int (q &&& (127 : Int32))), .val (.long (v &&& (((1 : Int64) <<< ((n &&& (63 : Int32)) &&& 0x3f).toInt64) - (1 : Int64)))), .second, .val (.ref b1)] [(.int (q &&& (127 : Int32))), (.int (0 : Int32)), (.long w0), (.long (repF w0 0 (q &&& (127 : Int32)) (v &&& (((1 : Int64) <<< ((n &&& (63 : Int32)) &&& 0x3f).toInt64) - (1 : Int64))) (n &&& (63 : Int32))))])) _
    refine XS.lload X8.here hx rfl (hb hby at_62) rfl ?_
    show Steps p.tables e below (T8.setTop (mkF m 64 #[.val (.long w0), .second, .val (.long w1), .second, .val (.long w2), .second, .val (.int q), .val (.long v), .second, .val (.int n), .val (.int (n &&& (63 : Int32))), .val (.int (q &&& (127 : Int32))), .val (.long (v &&& (((1 : Int64) <<< ((n &&& (63 : Int32)) &&& 0x3f).toInt64) - (1 : Int64)))), .second, .val (.ref b1)] [(.long (v &&& (((1 : Int64) <<< ((n &&& (63 : Int32)) &&& 0x3f).toInt64) - (1 : Int64)))), (.int (q &&& (127 : Int32))), (.int (0 : Int32)), (.long w0), (.long (repF w0 0 (q &&& (127 : Int32)) (v &&& (((1 : Int64) <<< ((n &&& (63 : Int32)) &&& 0x3f).toInt64) - (1 : Int64))) (n &&& (63 : Int32))))])) _
    refine XS.iload X8.here hx rfl (hb hby at_64) rfl ?_
    show Steps p.tables e below (T8.setTop (mkF m 66 #[.val (.long w0), .second, .val (.long w1), .second, .val (.long w2), .second, .val (.int q), .val (.long v), .second, .val (.int n), .val (.int (n &&& (63 : Int32))), .val (.int (q &&& (127 : Int32))), .val (.long (v &&& (((1 : Int64) <<< ((n &&& (63 : Int32)) &&& 0x3f).toInt64) - (1 : Int64)))), .second, .val (.ref b1)] [(.int (n &&& (63 : Int32))), (.long (v &&& (((1 : Int64) <<< ((n &&& (63 : Int32)) &&& 0x3f).toInt64) - (1 : Int64)))), (.int (q &&& (127 : Int32))), (.int (0 : Int32)), (.long w0), (.long (repF w0 0 (q &&& (127 : Int32)) (v &&& (((1 : Int64) <<< ((n &&& (63 : Int32)) &&& 0x3f).toInt64) - (1 : Int64))) (n &&& (63 : Int32))))])) _
    refine st10 _ ?_
    show Steps p.tables e below (T10.setTop (mkF m 69 #[.val (.long w0), .second, .val (.long w1), .second, .val (.long w2), .second, .val (.int q), .val (.long v), .second, .val (.int n), .val (.int (n &&& (63 : Int32))), .val (.int (q &&& (127 : Int32))), .val (.long (v &&& (((1 : Int64) <<< ((n &&& (63 : Int32)) &&& 0x3f).toInt64) - (1 : Int64)))), .second, .val (.ref b1)] [(.long (expF w0 (0 : Int32) (q &&& (127 : Int32)) (v &&& (((1 : Int64) <<< ((n &&& (63 : Int32)) &&& 0x3f).toInt64) - (1 : Int64))) (n &&& (63 : Int32)))), (.long (repF w0 0 (q &&& (127 : Int32)) (v &&& (((1 : Int64) <<< ((n &&& (63 : Int32)) &&& 0x3f).toInt64) - (1 : Int64))) (n &&& (63 : Int32))))])) _
    refine XS.lcmp X10.here hx rfl (hb hby at_69) rfl ?_
    show Steps p.tables e below (T10.setTop (mkF m 70 #[.val (.long w0), .second, .val (.long w1), .second, .val (.long w2), .second, .val (.int q), .val (.long v), .second, .val (.int n), .val (.int (n &&& (63 : Int32))), .val (.int (q &&& (127 : Int32))), .val (.long (v &&& (((1 : Int64) <<< ((n &&& (63 : Int32)) &&& 0x3f).toInt64) - (1 : Int64)))), .second, .val (.ref b1)] [(.int (lcmpW (repF w0 0 (q &&& (127 : Int32)) (v &&& (((1 : Int64) <<< ((n &&& (63 : Int32)) &&& 0x3f).toInt64) - (1 : Int64))) (n &&& (63 : Int32))) (expF w0 (0 : Int32) (q &&& (127 : Int32)) (v &&& (((1 : Int64) <<< ((n &&& (63 : Int32)) &&& 0x3f).toInt64) - (1 : Int64))) (n &&& (63 : Int32)))))])) _
    refine XS.ifNo X10.here hx rfl (hb hby at_70) rfl ((if0 _ _).trans (teq ((lw_eq _ _).mpr hd11)).2) ?_
    show Steps p.tables e below (T10.setTop (mkF m 73 #[.val (.long w0), .second, .val (.long w1), .second, .val (.long w2), .second, .val (.int q), .val (.long v), .second, .val (.int n), .val (.int (n &&& (63 : Int32))), .val (.int (q &&& (127 : Int32))), .val (.long (v &&& (((1 : Int64) <<< ((n &&& (63 : Int32)) &&& 0x3f).toInt64) - (1 : Int64)))), .second, .val (.ref b1)] [])) _
    refine XS.aload X10.here hx rfl (hb hby at_73) rfl rfl ?_
    show Steps p.tables e below (T10.setTop (mkF m 75 #[.val (.long w0), .second, .val (.long w1), .second, .val (.long w2), .second, .val (.int q), .val (.long v), .second, .val (.int n), .val (.int (n &&& (63 : Int32))), .val (.int (q &&& (127 : Int32))), .val (.long (v &&& (((1 : Int64) <<< ((n &&& (63 : Int32)) &&& 0x3f).toInt64) - (1 : Int64)))), .second, .val (.ref b1)] [(.ref b1)])) _
    refine XS.iconst X10.here hx rfl (hb hby at_75) ?_
    show Steps p.tables e below (T10.setTop (mkF m 76 #[.val (.long w0), .second, .val (.long w1), .second, .val (.long w2), .second, .val (.int q), .val (.long v), .second, .val (.int n), .val (.int (n &&& (63 : Int32))), .val (.int (q &&& (127 : Int32))), .val (.long (v &&& (((1 : Int64) <<< ((n &&& (63 : Int32)) &&& 0x3f).toInt64) - (1 : Int64)))), .second, .val (.ref b1)] [(.int (1 : Int32)), (.ref b1)])) _
    refine X10.laload hx (j := (1 : Int32)) (v := (.long (repF w1 1 (q &&& (127 : Int32)) (v &&& (((1 : Int64) <<< ((n &&& (63 : Int32)) &&& 0x3f).toInt64) - (1 : Int64))) (n &&& (63 : Int32))))) (by rw [e10]; exact Ar76_12.1) (State.isArrayOf_alike hZ.alike Ar76_12.2.1) Ar76_12.2.2 hin76_12 hat76_12 (g := (mkF m 76 #[.val (.long w0), .second, .val (.long w1), .second, .val (.long w2), .second, .val (.int q), .val (.long v), .second, .val (.int n), .val (.int (n &&& (63 : Int32))), .val (.int (q &&& (127 : Int32))), .val (.long (v &&& (((1 : Int64) <<< ((n &&& (63 : Int32)) &&& 0x3f).toInt64) - (1 : Int64)))), .second, .val (.ref b1)] [(.int (1 : Int32)), (.ref b1)])) rfl rfl (hb hby at_76) _ ?_
    show Steps p.tables e below (T10.setTop (mkF m 77 #[.val (.long w0), .second, .val (.long w1), .second, .val (.long w2), .second, .val (.int q), .val (.long v), .second, .val (.int n), .val (.int (n &&& (63 : Int32))), .val (.int (q &&& (127 : Int32))), .val (.long (v &&& (((1 : Int64) <<< ((n &&& (63 : Int32)) &&& 0x3f).toInt64) - (1 : Int64)))), .second, .val (.ref b1)] [(.long (repF w1 1 (q &&& (127 : Int32)) (v &&& (((1 : Int64) <<< ((n &&& (63 : Int32)) &&& 0x3f).toInt64) - (1 : Int64))) (n &&& (63 : Int32))))])) _
    refine XS.lloadN X10.here hx rfl (hb hby at_77) rfl ?_
    show Steps p.tables e below (T10.setTop (mkF m 78 #[.val (.long w0), .second, .val (.long w1), .second, .val (.long w2), .second, .val (.int q), .val (.long v), .second, .val (.int n), .val (.int (n &&& (63 : Int32))), .val (.int (q &&& (127 : Int32))), .val (.long (v &&& (((1 : Int64) <<< ((n &&& (63 : Int32)) &&& 0x3f).toInt64) - (1 : Int64)))), .second, .val (.ref b1)] [(.long w1), (.long (repF w1 1 (q &&& (127 : Int32)) (v &&& (((1 : Int64) <<< ((n &&& (63 : Int32)) &&& 0x3f).toInt64) - (1 : Int64))) (n &&& (63 : Int32))))])) _
    refine XS.iconst X10.here hx rfl (hb hby at_78) ?_
    show Steps p.tables e below (T10.setTop (mkF m 79 #[.val (.long w0), .second, .val (.long w1), .second, .val (.long w2), .second, .val (.int q), .val (.long v), .second, .val (.int n), .val (.int (n &&& (63 : Int32))), .val (.int (q &&& (127 : Int32))), .val (.long (v &&& (((1 : Int64) <<< ((n &&& (63 : Int32)) &&& 0x3f).toInt64) - (1 : Int64)))), .second, .val (.ref b1)] [(.int (1 : Int32)), (.long w1), (.long (repF w1 1 (q &&& (127 : Int32)) (v &&& (((1 : Int64) <<< ((n &&& (63 : Int32)) &&& 0x3f).toInt64) - (1 : Int64))) (n &&& (63 : Int32))))])) _
    refine XS.iload X10.here hx rfl (hb hby at_79) rfl ?_
    show Steps p.tables e below (T10.setTop (mkF m 81 #[.val (.long w0), .second, .val (.long w1), .second, .val (.long w2), .second, .val (.int q), .val (.long v), .second, .val (.int n), .val (.int (n &&& (63 : Int32))), .val (.int (q &&& (127 : Int32))), .val (.long (v &&& (((1 : Int64) <<< ((n &&& (63 : Int32)) &&& 0x3f).toInt64) - (1 : Int64)))), .second, .val (.ref b1)] [(.int (q &&& (127 : Int32))), (.int (1 : Int32)), (.long w1), (.long (repF w1 1 (q &&& (127 : Int32)) (v &&& (((1 : Int64) <<< ((n &&& (63 : Int32)) &&& 0x3f).toInt64) - (1 : Int64))) (n &&& (63 : Int32))))])) _
    refine XS.lload X10.here hx rfl (hb hby at_81) rfl ?_
    show Steps p.tables e below (T10.setTop (mkF m 83 #[.val (.long w0), .second, .val (.long w1), .second, .val (.long w2), .second, .val (.int q), .val (.long v), .second, .val (.int n), .val (.int (n &&& (63 : Int32))), .val (.int (q &&& (127 : Int32))), .val (.long (v &&& (((1 : Int64) <<< ((n &&& (63 : Int32)) &&& 0x3f).toInt64) - (1 : Int64)))), .second, .val (.ref b1)] [(.long (v &&& (((1 : Int64) <<< ((n &&& (63 : Int32)) &&& 0x3f).toInt64) - (1 : Int64)))), (.int (q &&& (127 : Int32))), (.int (1 : Int32)), (.long w1), (.long (repF w1 1 (q &&& (127 : Int32)) (v &&& (((1 : Int64) <<< ((n &&& (63 : Int32)) &&& 0x3f).toInt64) - (1 : Int64))) (n &&& (63 : Int32))))])) _
    refine XS.iload X10.here hx rfl (hb hby at_83) rfl ?_
    show Steps p.tables e below (T10.setTop (mkF m 85 #[.val (.long w0), .second, .val (.long w1), .second, .val (.long w2), .second, .val (.int q), .val (.long v), .second, .val (.int n), .val (.int (n &&& (63 : Int32))), .val (.int (q &&& (127 : Int32))), .val (.long (v &&& (((1 : Int64) <<< ((n &&& (63 : Int32)) &&& 0x3f).toInt64) - (1 : Int64)))), .second, .val (.ref b1)] [(.int (n &&& (63 : Int32))), (.long (v &&& (((1 : Int64) <<< ((n &&& (63 : Int32)) &&& 0x3f).toInt64) - (1 : Int64)))), (.int (q &&& (127 : Int32))), (.int (1 : Int32)), (.long w1), (.long (repF w1 1 (q &&& (127 : Int32)) (v &&& (((1 : Int64) <<< ((n &&& (63 : Int32)) &&& 0x3f).toInt64) - (1 : Int64))) (n &&& (63 : Int32))))])) _
    refine st13 _ ?_
    show Steps p.tables e below (T13.setTop (mkF m 88 #[.val (.long w0), .second, .val (.long w1), .second, .val (.long w2), .second, .val (.int q), .val (.long v), .second, .val (.int n), .val (.int (n &&& (63 : Int32))), .val (.int (q &&& (127 : Int32))), .val (.long (v &&& (((1 : Int64) <<< ((n &&& (63 : Int32)) &&& 0x3f).toInt64) - (1 : Int64)))), .second, .val (.ref b1)] [(.long (expF w1 (1 : Int32) (q &&& (127 : Int32)) (v &&& (((1 : Int64) <<< ((n &&& (63 : Int32)) &&& 0x3f).toInt64) - (1 : Int64))) (n &&& (63 : Int32)))), (.long (repF w1 1 (q &&& (127 : Int32)) (v &&& (((1 : Int64) <<< ((n &&& (63 : Int32)) &&& 0x3f).toInt64) - (1 : Int64))) (n &&& (63 : Int32))))])) _
    refine XS.lcmp X13.here hx rfl (hb hby at_88) rfl ?_
    show Steps p.tables e below (T13.setTop (mkF m 89 #[.val (.long w0), .second, .val (.long w1), .second, .val (.long w2), .second, .val (.int q), .val (.long v), .second, .val (.int n), .val (.int (n &&& (63 : Int32))), .val (.int (q &&& (127 : Int32))), .val (.long (v &&& (((1 : Int64) <<< ((n &&& (63 : Int32)) &&& 0x3f).toInt64) - (1 : Int64)))), .second, .val (.ref b1)] [(.int (lcmpW (repF w1 1 (q &&& (127 : Int32)) (v &&& (((1 : Int64) <<< ((n &&& (63 : Int32)) &&& 0x3f).toInt64) - (1 : Int64))) (n &&& (63 : Int32))) (expF w1 (1 : Int32) (q &&& (127 : Int32)) (v &&& (((1 : Int64) <<< ((n &&& (63 : Int32)) &&& 0x3f).toInt64) - (1 : Int64))) (n &&& (63 : Int32)))))])) _
    refine XS.ifNo X13.here hx rfl (hb hby at_89) rfl ((if0 _ _).trans (teq ((lw_eq _ _).mpr hd14)).2) ?_
    show Steps p.tables e below (T13.setTop (mkF m 92 #[.val (.long w0), .second, .val (.long w1), .second, .val (.long w2), .second, .val (.int q), .val (.long v), .second, .val (.int n), .val (.int (n &&& (63 : Int32))), .val (.int (q &&& (127 : Int32))), .val (.long (v &&& (((1 : Int64) <<< ((n &&& (63 : Int32)) &&& 0x3f).toInt64) - (1 : Int64)))), .second, .val (.ref b1)] [])) _
    refine XS.aload X13.here hx rfl (hb hby at_92) rfl rfl ?_
    show Steps p.tables e below (T13.setTop (mkF m 94 #[.val (.long w0), .second, .val (.long w1), .second, .val (.long w2), .second, .val (.int q), .val (.long v), .second, .val (.int n), .val (.int (n &&& (63 : Int32))), .val (.int (q &&& (127 : Int32))), .val (.long (v &&& (((1 : Int64) <<< ((n &&& (63 : Int32)) &&& 0x3f).toInt64) - (1 : Int64)))), .second, .val (.ref b1)] [(.ref b1)])) _
    refine XS.iconst X13.here hx rfl (hb hby at_94) ?_
    show Steps p.tables e below (T13.setTop (mkF m 95 #[.val (.long w0), .second, .val (.long w1), .second, .val (.long w2), .second, .val (.int q), .val (.long v), .second, .val (.int n), .val (.int (n &&& (63 : Int32))), .val (.int (q &&& (127 : Int32))), .val (.long (v &&& (((1 : Int64) <<< ((n &&& (63 : Int32)) &&& 0x3f).toInt64) - (1 : Int64)))), .second, .val (.ref b1)] [(.int (2 : Int32)), (.ref b1)])) _
    refine X13.laload hx (j := (2 : Int32)) (v := (.long (repF w2 2 (q &&& (127 : Int32)) (v &&& (((1 : Int64) <<< ((n &&& (63 : Int32)) &&& 0x3f).toInt64) - (1 : Int64))) (n &&& (63 : Int32))))) (by rw [e13]; exact Ar95_15.1) (State.isArrayOf_alike hZ.alike Ar95_15.2.1) Ar95_15.2.2 hin95_15 hat95_15 (g := (mkF m 95 #[.val (.long w0), .second, .val (.long w1), .second, .val (.long w2), .second, .val (.int q), .val (.long v), .second, .val (.int n), .val (.int (n &&& (63 : Int32))), .val (.int (q &&& (127 : Int32))), .val (.long (v &&& (((1 : Int64) <<< ((n &&& (63 : Int32)) &&& 0x3f).toInt64) - (1 : Int64)))), .second, .val (.ref b1)] [(.int (2 : Int32)), (.ref b1)])) rfl rfl (hb hby at_95) _ ?_
    show Steps p.tables e below (T13.setTop (mkF m 96 #[.val (.long w0), .second, .val (.long w1), .second, .val (.long w2), .second, .val (.int q), .val (.long v), .second, .val (.int n), .val (.int (n &&& (63 : Int32))), .val (.int (q &&& (127 : Int32))), .val (.long (v &&& (((1 : Int64) <<< ((n &&& (63 : Int32)) &&& 0x3f).toInt64) - (1 : Int64)))), .second, .val (.ref b1)] [(.long (repF w2 2 (q &&& (127 : Int32)) (v &&& (((1 : Int64) <<< ((n &&& (63 : Int32)) &&& 0x3f).toInt64) - (1 : Int64))) (n &&& (63 : Int32))))])) _
    refine XS.lload X13.here hx rfl (hb hby at_96) rfl ?_
    show Steps p.tables e below (T13.setTop (mkF m 98 #[.val (.long w0), .second, .val (.long w1), .second, .val (.long w2), .second, .val (.int q), .val (.long v), .second, .val (.int n), .val (.int (n &&& (63 : Int32))), .val (.int (q &&& (127 : Int32))), .val (.long (v &&& (((1 : Int64) <<< ((n &&& (63 : Int32)) &&& 0x3f).toInt64) - (1 : Int64)))), .second, .val (.ref b1)] [(.long w2), (.long (repF w2 2 (q &&& (127 : Int32)) (v &&& (((1 : Int64) <<< ((n &&& (63 : Int32)) &&& 0x3f).toInt64) - (1 : Int64))) (n &&& (63 : Int32))))])) _
    refine XS.iconst X13.here hx rfl (hb hby at_98) ?_
    show Steps p.tables e below (T13.setTop (mkF m 99 #[.val (.long w0), .second, .val (.long w1), .second, .val (.long w2), .second, .val (.int q), .val (.long v), .second, .val (.int n), .val (.int (n &&& (63 : Int32))), .val (.int (q &&& (127 : Int32))), .val (.long (v &&& (((1 : Int64) <<< ((n &&& (63 : Int32)) &&& 0x3f).toInt64) - (1 : Int64)))), .second, .val (.ref b1)] [(.int (2 : Int32)), (.long w2), (.long (repF w2 2 (q &&& (127 : Int32)) (v &&& (((1 : Int64) <<< ((n &&& (63 : Int32)) &&& 0x3f).toInt64) - (1 : Int64))) (n &&& (63 : Int32))))])) _
    refine XS.iload X13.here hx rfl (hb hby at_99) rfl ?_
    show Steps p.tables e below (T13.setTop (mkF m 101 #[.val (.long w0), .second, .val (.long w1), .second, .val (.long w2), .second, .val (.int q), .val (.long v), .second, .val (.int n), .val (.int (n &&& (63 : Int32))), .val (.int (q &&& (127 : Int32))), .val (.long (v &&& (((1 : Int64) <<< ((n &&& (63 : Int32)) &&& 0x3f).toInt64) - (1 : Int64)))), .second, .val (.ref b1)] [(.int (q &&& (127 : Int32))), (.int (2 : Int32)), (.long w2), (.long (repF w2 2 (q &&& (127 : Int32)) (v &&& (((1 : Int64) <<< ((n &&& (63 : Int32)) &&& 0x3f).toInt64) - (1 : Int64))) (n &&& (63 : Int32))))])) _
    refine XS.lload X13.here hx rfl (hb hby at_101) rfl ?_
    show Steps p.tables e below (T13.setTop (mkF m 103 #[.val (.long w0), .second, .val (.long w1), .second, .val (.long w2), .second, .val (.int q), .val (.long v), .second, .val (.int n), .val (.int (n &&& (63 : Int32))), .val (.int (q &&& (127 : Int32))), .val (.long (v &&& (((1 : Int64) <<< ((n &&& (63 : Int32)) &&& 0x3f).toInt64) - (1 : Int64)))), .second, .val (.ref b1)] [(.long (v &&& (((1 : Int64) <<< ((n &&& (63 : Int32)) &&& 0x3f).toInt64) - (1 : Int64)))), (.int (q &&& (127 : Int32))), (.int (2 : Int32)), (.long w2), (.long (repF w2 2 (q &&& (127 : Int32)) (v &&& (((1 : Int64) <<< ((n &&& (63 : Int32)) &&& 0x3f).toInt64) - (1 : Int64))) (n &&& (63 : Int32))))])) _
    refine XS.iload X13.here hx rfl (hb hby at_103) rfl ?_
    show Steps p.tables e below (T13.setTop (mkF m 105 #[.val (.long w0), .second, .val (.long w1), .second, .val (.long w2), .second, .val (.int q), .val (.long v), .second, .val (.int n), .val (.int (n &&& (63 : Int32))), .val (.int (q &&& (127 : Int32))), .val (.long (v &&& (((1 : Int64) <<< ((n &&& (63 : Int32)) &&& 0x3f).toInt64) - (1 : Int64)))), .second, .val (.ref b1)] [(.int (n &&& (63 : Int32))), (.long (v &&& (((1 : Int64) <<< ((n &&& (63 : Int32)) &&& 0x3f).toInt64) - (1 : Int64)))), (.int (q &&& (127 : Int32))), (.int (2 : Int32)), (.long w2), (.long (repF w2 2 (q &&& (127 : Int32)) (v &&& (((1 : Int64) <<< ((n &&& (63 : Int32)) &&& 0x3f).toInt64) - (1 : Int64))) (n &&& (63 : Int32))))])) _
    refine st16 _ ?_
    show Steps p.tables e below (T16.setTop (mkF m 108 #[.val (.long w0), .second, .val (.long w1), .second, .val (.long w2), .second, .val (.int q), .val (.long v), .second, .val (.int n), .val (.int (n &&& (63 : Int32))), .val (.int (q &&& (127 : Int32))), .val (.long (v &&& (((1 : Int64) <<< ((n &&& (63 : Int32)) &&& 0x3f).toInt64) - (1 : Int64)))), .second, .val (.ref b1)] [(.long (expF w2 (2 : Int32) (q &&& (127 : Int32)) (v &&& (((1 : Int64) <<< ((n &&& (63 : Int32)) &&& 0x3f).toInt64) - (1 : Int64))) (n &&& (63 : Int32)))), (.long (repF w2 2 (q &&& (127 : Int32)) (v &&& (((1 : Int64) <<< ((n &&& (63 : Int32)) &&& 0x3f).toInt64) - (1 : Int64))) (n &&& (63 : Int32))))])) _
    refine XS.lcmp X16.here hx rfl (hb hby at_108) rfl ?_
    show Steps p.tables e below (T16.setTop (mkF m 109 #[.val (.long w0), .second, .val (.long w1), .second, .val (.long w2), .second, .val (.int q), .val (.long v), .second, .val (.int n), .val (.int (n &&& (63 : Int32))), .val (.int (q &&& (127 : Int32))), .val (.long (v &&& (((1 : Int64) <<< ((n &&& (63 : Int32)) &&& 0x3f).toInt64) - (1 : Int64)))), .second, .val (.ref b1)] [(.int (lcmpW (repF w2 2 (q &&& (127 : Int32)) (v &&& (((1 : Int64) <<< ((n &&& (63 : Int32)) &&& 0x3f).toInt64) - (1 : Int64))) (n &&& (63 : Int32))) (expF w2 (2 : Int32) (q &&& (127 : Int32)) (v &&& (((1 : Int64) <<< ((n &&& (63 : Int32)) &&& 0x3f).toInt64) - (1 : Int64))) (n &&& (63 : Int32)))))])) _
    refine XS.ifNo X16.here hx rfl (hb hby at_109) rfl ((if0 _ _).trans (teq ((lw_eq _ _).mpr hd17)).2) ?_
    show Steps p.tables e below (T16.setTop (mkF m 112 #[.val (.long w0), .second, .val (.long w1), .second, .val (.long w2), .second, .val (.int q), .val (.long v), .second, .val (.int n), .val (.int (n &&& (63 : Int32))), .val (.int (q &&& (127 : Int32))), .val (.long (v &&& (((1 : Int64) <<< ((n &&& (63 : Int32)) &&& 0x3f).toInt64) - (1 : Int64)))), .second, .val (.ref b1)] [])) _
    refine XS.iconst X16.here hx rfl (hb hby at_112) ?_
    show Steps p.tables e below (T16.setTop (mkF m 113 #[.val (.long w0), .second, .val (.long w1), .second, .val (.long w2), .second, .val (.int q), .val (.long v), .second, .val (.int n), .val (.int (n &&& (63 : Int32))), .val (.int (q &&& (127 : Int32))), .val (.long (v &&& (((1 : Int64) <<< ((n &&& (63 : Int32)) &&& 0x3f).toInt64) - (1 : Int64)))), .second, .val (.ref b1)] [(.int (1 : Int32))])) _
    refine XS.goto X16.here hx rfl (pc0 := 113) (pc' := 117) rfl (hb hby at_113) (by decide) (by decide) ?_
    show Steps p.tables e below (T16.setTop (mkF m 117 #[.val (.long w0), .second, .val (.long w1), .second, .val (.long w2), .second, .val (.int q), .val (.long v), .second, .val (.int n), .val (.int (n &&& (63 : Int32))), .val (.int (q &&& (127 : Int32))), .val (.long (v &&& (((1 : Int64) <<< ((n &&& (63 : Int32)) &&& 0x3f).toInt64) - (1 : Int64)))), .second, .val (.ref b1)] [(.int (1 : Int32))])) _
    exact kt
  obtain ⟨fs, hr, hrun, hended, hW, hsame⟩ := X16.leave (v := some (.int (1 : Int32))) (fun h => by rw [Bd.returns] at h; cases h)
  refine ⟨_, _, k18 _ ?_, hrun, hended, _, _, rfl, ?_, ⟨_, rfl⟩, hW, hsame.mono (by decide) (by decide)⟩
  · exact retN X16 hx (t := .boolean) Bd.returns (by simp) (hb hby at_117) hr
  · show QL n0 _ T16.heap _
    exact ⟨rfl, N16⟩
set_option maxRecDepth 65536 in
set_option maxHeartbeats 40000000 in
theorem comes_1 {Post : Tables → Env → Array Value → State → Outcome → State → Prop} (hpost : ∀ tb e args s v u, (limb_1_1.after args s (.returned v) u = true ∧ limb_1_2.after args s (.returned v) u = true ∧ True) → FrameEnd s (.returned v) u (Jvm.fieldLocs frame_1_writes args s ++ Jvm.arrayLocs frame_1_arrays args s ++ Jvm.staticLocs frame_1_statics s) 16 128 → Post tb e args s (.returned v) u) :
    ArmFor flags0 classFile x code maxLocals ret World_1 tables_1 room_1 Calls_1 rest_1 Pre_1 Post := by
  intro l hfl _ _ p e ha hc hk s m args below hf hA hF happ hP
  obtain ⟨hcalls, hrest, hpre⟩ := hP
  obtain ⟨-, -, -, hnamed, -, -, -, hat⟩ := (Spec.applies_iff hf).mp happ
  obtain ⟨hg, hn⟩ := and_e (Cond.before_iff.mp (show (Jvm.Cond.and given_1 narrow_1).before args s = true from hpre))
  obtain ⟨g1, g2⟩ := and_e hg
  obtain ⟨g3, g4⟩ := and_e g2
  obtain ⟨g5, g6⟩ := and_e g4
  obtain ⟨g7, g8⟩ := and_e g6
  obtain ⟨g9, g10⟩ := and_e g8
  obtain ⟨g11, g12⟩ := and_e g10
  obtain ⟨w0, w1, w2, w3, w4, w5, rfl⟩ : ∃ w0 w1 w2 w3 w4 w5 : Value, args = #[w0, w1, w2, w3, w4, w5] := by
    have hs : args.size = 6 := by simpa [Cond.value, given_1] using g1
    obtain ⟨L⟩ := args
    match L, hs with
    | [w0, w1, w2, w3, w4, w5], _ => exact ⟨w0, w1, w2, w3, w4, w5, rfl⟩
  have hw := fun d (hd : d ∈ tables_1) => atoms_spec (ws := Jvm.Cond.code x code maxLocals ret :: tables_1) hat d (List.mem_cons_of_mem _ hd)
  have hfit : Fit s := fun {y c} hc i hi => by
    obtain ⟨ha, rfl⟩ := Array.getElem?_eq_some_iff.mp hc
    have q := List.all_eq_true.mp ((Array.all_eq_true_iff_forall_mem.mp hF) _ (Array.getElem_mem ha)) i (List.mem_range.mpr hi)
    simpa [Array.getElem?_eq_getElem hi] using q
  obtain ⟨i0, ei0⟩ := isL_v g3
  obtain rfl : w0 = (.long i0) := Option.some.inj ei0
  obtain ⟨i1, ei1⟩ := isL_v g5
  obtain rfl : w1 = (.long i1) := Option.some.inj ei1
  obtain ⟨i2, ei2⟩ := isL_v g7
  obtain rfl : w2 = (.long i2) := Option.some.inj ei2
  obtain ⟨i3, ei3⟩ := is_v g9
  obtain rfl : w3 = (.int i3) := Option.some.inj ei3
  obtain ⟨i4, ei4⟩ := isL_v g11
  obtain rfl : w4 = (.long i4) := Option.some.inj ei4
  obtain ⟨i5, ei5⟩ := is_v g12
  obtain rfl : w5 = (.int i5) := Option.some.inj ei5
  obtain ⟨n, o, h1, h2, h3, _, L, rfl, ⟨rfl, N⟩, hq⟩ := rm0 l s _ hw tables_1 i0 i1 i2 i3 i4 i5  s.heap s.heap.size (Nat.le_refl _) p e ha hc hk s m _ below hf ((Spec.applies_iff_loose hf).mp happ).1 ⟨rfl, State.Warmed39.refl s, rfl⟩ trivial
  refine ⟨n, _, h1, h2, h3, hpost _ _ _ _ _ _ ⟨Cond.after_iff.mpr rfl, Cond.after_iff.mpr (eq_i res_at (Term.int_eval (1)) rfl), trivial⟩ ⟨hq.1, hq.2.1, (hq.2.2.sift fun y hy => Or.inr (N y hy)).mono (by decide) (by decide)⟩⟩
theorem main_1_1 : Claimed_1_1 := comes_1 fun _ _ _ _ _ _ h hF => ⟨h.1, hF⟩
theorem main_1_2 : Claimed_1_2 := comes_1 fun _ _ _ _ _ _ h hF => ⟨h.2.1, hF⟩
end Jvm.Pilot.@@N@@
namespace Jvm.Pilot.@@N@@
open Jvm Jvm.ClassFile Sem Op Lib Jvm.Free Jvm.Stand Jvm.Pilot.@@N@@.Jvm.D
/-! MADE BY PROGRAM (witnessworld.py) out of the Statement's table words and the real class files: 12 classes; the members and pool entries that the words name. The judged class is class 1, her method 2. -/
namespace start1
open Jvm.ClassFile
def u (s : String) : CpInfo := .utf8 (stringToUtf16 s)
/-- a pool by its gaps: so many unusable entries, then the entry; so many at the end -/
def gap : Nat → List CpInfo → List CpInfo
  | 0, r => r
  | n + 1, r => .unusable :: gap n r
def poolList (es : List (Nat × CpInfo)) (last : Nat) : List CpInfo := es.foldr (fun e r => gap e.1 (e.2 :: r)) (gap last [])
def pool (es : List (Nat × CpInfo)) (last : Nat) : Array CpInfo := ⟨poolList es last⟩
def fileOf (pool : Array CpInfo) (this : Nat) (attrs : Array Attribute := #[]) (ms : Array MethodInfo := #[]) (fl : Nat := 33) (sup : Nat := 0) (ifs : Array Nat := #[]) (fds : Array FieldInfo := #[]) : ClassFile where
  minorVersion := 0
  majorVersion := 65
  constantPool := pool
  accessFlags := fl
  thisClass := this
  superClass := sup
  interfaces := ifs
  fields := fds
  methods := ms
  attributes := attrs
def plain (name : String) (sup : Option ClassId) : Class where
  name := name
  kind := .ordinary
  loader := none
  accessFlags := 33
  super := sup
  interfaces := #[]
  cf := none
  fields := #[]
  methods := #[]
  instanceTypes := #[]
  staticTypes := #[]
  resolved := #[]
  callSites := []
  init := .initialized
  statics := none
  mirror := none

def pool0 : Array CpInfo := pool [(5, u "<init>"), (0, u "()V"), (1, .class_ 10), (1, u "java/lang/Object")] 113

def k0m0 : Method := { name := "<init>", desc := "()V", sig := { parameters := [], returnType := none }, accessFlags := 1, code := none }
/-- java/lang/Object -/
def k0 : Class := { plain "java/lang/Object" none with
  accessFlags := 33
  interfaces := #[]
  cf := some (fileOf pool0 8 #[] #[{ accessFlags := 1, nameIndex := 5, descriptorIndex := 6, attributes := #[] }] 33 0 #[] #[])
  fields := #[]
  methods := #[k0m0]
  instanceTypes := #[]
  staticTypes := #[]
  resolved := Array.replicate 124 none
  statics := none }

def pool1 : Array CpInfo := pool [(2, .class_ 4), (1, u "java/lang/Object"), (0, u "<init>"), (0, u "()V"), (0, .methodref 8 9), (0, .class_ 10), (0, .nameAndType 11 12), (0, u "java/lang/Math"), (0, u "max"), (0, u "(II)I"), (0, .methodref 8 14), (0, .nameAndType 15 12), (0, u "min"), (0, .long 18446744073709551615), (1, .methodref 19 20), (0, .class_ 21), (0, .nameAndType 22 23), (0, u "com/example/parley/parley/core/PackedBits"), (0, u "replace"), (0, u "([JIJI)V"), (0, .methodref 25 26), (0, .class_ 27), (0, .nameAndType 28 29), (0, u "com/example/parley/parley/core/PackedBitsReplacePinLaw"), (0, u "expect"), (0, u "(JIIJI)J"), (3, u "law"), (0, u "(JJJIJI)Z")] 4

def k1m0 : Method := { name := "<init>", desc := "()V", sig := { parameters := [], returnType := none }, accessFlags := 2, code := none }
def k1c1 : Code := { maxStack := 6, maxLocals := 16, code := method_2_code, exceptionTable := #[], attributes := #[] }
def k1m1 : Method := { name := "expect", desc := "(JIIJI)J", sig := { parameters := [.long, .int, .int, .long, .int], returnType := some .long }, accessFlags := 10, code := some k1c1 }
def k1c2 : Code := { maxStack := 9, maxLocals := 15, code := code, exceptionTable := #[], attributes := #[] }
def k1m2 : Method := { name := "law", desc := "(JJJIJI)Z", sig := { parameters := [.long, .long, .long, .int, .long, .int], returnType := some .boolean }, accessFlags := 9, code := some k1c2 }
/-- com/example/parley/parley/core/PackedBitsReplacePinLaw -/
def k1 : Class := { plain "com/example/parley/parley/core/PackedBitsReplacePinLaw" (some 0) with
  accessFlags := 49
  interfaces := #[]
  cf := some (fileOf pool1 25 #[] #[{ accessFlags := 2, nameIndex := 5, descriptorIndex := 6, attributes := #[] }, { accessFlags := 10, nameIndex := 28, descriptorIndex := 29, attributes := #[] }, { accessFlags := 9, nameIndex := 33, descriptorIndex := 34, attributes := #[] }] 49 2 #[] #[])
  fields := #[]
  methods := #[k1m0, k1m1, k1m2]
  instanceTypes := #[]
  staticTypes := #[]
  resolved := Array.replicate 39 none
  statics := none }

def pool2 : Array CpInfo := pool [(2, .class_ 4), (1, u "java/lang/Object"), (0, u "<init>"), (0, u "()V"), (6, .long 18446744073709551615), (2, .class_ 18), (1, u "com/example/parley/parley/core/PackedBits"), (5, u "([JIJI)V"), (15, u "replace")] 6

def k2m0 : Method := { name := "<init>", desc := "()V", sig := { parameters := [], returnType := none }, accessFlags := 2, code := none }
def k2c1 : Code := { maxStack := 8, maxLocals := 10, code := prog_134_method_6_code, exceptionTable := #[], attributes := #[] }
def k2m1 : Method := { name := "replace", desc := "([JIJI)V", sig := { parameters := [(.array .long), .int, .long, .int], returnType := none }, accessFlags := 8, code := some k2c1 }
/-- com/example/parley/parley/core/PackedBits -/
def k2 : Class := { plain "com/example/parley/parley/core/PackedBits" (some 0) with
  accessFlags := 48
  interfaces := #[]
  cf := some (fileOf pool2 16 #[] #[{ accessFlags := 2, nameIndex := 5, descriptorIndex := 6, attributes := #[] }, { accessFlags := 8, nameIndex := 40, descriptorIndex := 24, attributes := #[] }] 48 2 #[] #[])
  fields := #[]
  methods := #[k2m0, k2m1]
  instanceTypes := #[]
  staticTypes := #[]
  resolved := Array.replicate 47 none
  statics := none }

def pool3 : Array CpInfo := pool [(1, .class_ 2), (0, u "java/lang/Math"), (1, .class_ 6), (1, u "java/lang/Object"), (0, u "<init>"), (0, u "()V"), (89, .class_ 100), (1, u "java/lang/Math$RandomNumberGeneratorHolder"), (71, u "negativeZeroFloatBits"), (0, u "J"), (2, u "negativeZeroDoubleBits"), (21, u "max"), (2, u "min"), (43, u "$assertionsDisabled"), (0, u "Z"), (88, u "(II)I"), (2, u "twoToTheDoubleScaleDown"), (0, u "D"), (4, u "twoToTheDoubleScaleUp"), (9, u "E"), (3, u "PI"), (2, u "TAU"), (2, u "DEGREES_TO_RADIANS"), (0, u "RADIANS_TO_DEGREES")] 94

def k3m0 : Method := { name := "<init>", desc := "()V", sig := { parameters := [], returnType := none }, accessFlags := 2, code := none }
def k3c1 : Code := { maxStack := 2, maxLocals := 2, code := jdk_29_method_65_code, exceptionTable := #[], attributes := #[] }
def k3m1 : Method := { name := "max", desc := "(II)I", sig := { parameters := [.int, .int], returnType := some .int }, accessFlags := 9, code := some k3c1 }
def k3c2 : Code := { maxStack := 2, maxLocals := 2, code := jdk_29_method_69_code, exceptionTable := #[], attributes := #[] }
def k3m2 : Method := { name := "min", desc := "(II)I", sig := { parameters := [.int, .int], returnType := some .int }, accessFlags := 9, code := some k3c2 }
/-- java/lang/Math -/
def k3 : Class := { plain "java/lang/Math" (some 0) with
  accessFlags := 49
  interfaces := #[]
  cf := some (fileOf pool3 1 #[.nestMembers #[98]] #[{ accessFlags := 2, nameIndex := 7, descriptorIndex := 8, attributes := #[] }, { accessFlags := 9, nameIndex := 198, descriptorIndex := 335, attributes := #[] }, { accessFlags := 9, nameIndex := 201, descriptorIndex := 335, attributes := #[] }] 49 4 #[] #[{ accessFlags := 25, nameIndex := 354, descriptorIndex := 339, attributes := #[] }, { accessFlags := 25, nameIndex := 358, descriptorIndex := 339, attributes := #[] }, { accessFlags := 25, nameIndex := 361, descriptorIndex := 339, attributes := #[] }, { accessFlags := 26, nameIndex := 364, descriptorIndex := 339, attributes := #[] }, { accessFlags := 26, nameIndex := 365, descriptorIndex := 339, attributes := #[] }, { accessFlags := 26, nameIndex := 172, descriptorIndex := 173, attributes := #[] }, { accessFlags := 26, nameIndex := 176, descriptorIndex := 173, attributes := #[] }, { accessFlags := 8, nameIndex := 344, descriptorIndex := 339, attributes := #[] }, { accessFlags := 8, nameIndex := 338, descriptorIndex := 339, attributes := #[] }, { accessFlags := 4120, nameIndex := 245, descriptorIndex := 246, attributes := #[] }])
  fields := #[{ name := "E", type := .double, accessFlags := 25, slot := 0, constantValue := 0 }, { name := "PI", type := .double, accessFlags := 25, slot := 1, constantValue := 0 }, { name := "TAU", type := .double, accessFlags := 25, slot := 2, constantValue := 0 }, { name := "DEGREES_TO_RADIANS", type := .double, accessFlags := 26, slot := 3, constantValue := 0 }, { name := "RADIANS_TO_DEGREES", type := .double, accessFlags := 26, slot := 4, constantValue := 0 }, { name := "negativeZeroFloatBits", type := .long, accessFlags := 26, slot := 5, constantValue := 0 }, { name := "negativeZeroDoubleBits", type := .long, accessFlags := 26, slot := 6, constantValue := 0 }, { name := "twoToTheDoubleScaleUp", type := .double, accessFlags := 8, slot := 7, constantValue := 0 }, { name := "twoToTheDoubleScaleDown", type := .double, accessFlags := 8, slot := 8, constantValue := 0 }, { name := "$assertionsDisabled", type := .boolean, accessFlags := 4120, slot := 9, constantValue := 0 }]
  methods := #[k3m0, k3m1, k3m2]
  instanceTypes := #[]
  staticTypes := #[.double, .double, .double, .double, .double, .long, .long, .double, .double, .boolean]
  resolved := Array.replicate 460 none
  statics := none }

def pool4 : Array CpInfo := pool [(1, u "java/lang/Cloneable"), (0, .class_ 1), (0, u "java/lang/Object"), (0, .class_ 3)] 3

/-- java/lang/Cloneable -/
def k4 : Class := { plain "java/lang/Cloneable" (some 0) with
  accessFlags := 1537
  interfaces := #[]
  cf := some (fileOf pool4 2 #[] #[] 1537 4 #[] #[])
  fields := #[]
  methods := #[]
  instanceTypes := #[]
  staticTypes := #[]
  resolved := Array.replicate 8 none
  statics := none }

def pool5 : Array CpInfo := pool [(1, u "java/io/Serializable"), (0, .class_ 1), (0, u "java/lang/Object"), (0, .class_ 3)] 3

/-- java/io/Serializable -/
def k5 : Class := { plain "java/io/Serializable" (some 0) with
  accessFlags := 1537
  interfaces := #[]
  cf := some (fileOf pool5 2 #[] #[] 1537 4 #[] #[])
  fields := #[]
  methods := #[]
  instanceTypes := #[]
  staticTypes := #[]
  resolved := Array.replicate 8 none
  statics := none }

/-- the primitive byte -/
def k6 : Class := { plain "byte" none with kind := .primitive 'B', accessFlags := 0x411 }
/-- [B -/
def k7 : Class := { plain "[B" (some 0) with kind := .array 6 .byte, interfaces := #[4, 5], accessFlags := 1041 }

/-- the primitive int -/
def k8 : Class := { plain "int" none with kind := .primitive 'I', accessFlags := 0x411 }
/-- [I -/
def k9 : Class := { plain "[I" (some 0) with kind := .array 8 .int, interfaces := #[4, 5], accessFlags := 1041 }

/-- the primitive long -/
def k10 : Class := { plain "long" none with kind := .primitive 'J', accessFlags := 0x411 }
/-- [J -/
def k11 : Class := { plain "[J" (some 0) with kind := .array 10 .long, interfaces := #[4, 5], accessFlags := 1041 }

def heap : Heap := #[]
def classes : Array Class := #[k0, k1, k2, k3, k4, k5, k6, k7, k8, k9, k10, k11]
def interned : List (Array UInt16 × Addr) := []
def slotsUsed : Nat := 0
def theMethod : MethodId := ⟨1, 2⟩
def args0 : Array Value := #[.long 5, .long 6, .long 7, .int 60, .long 77, .int 9]
def aboutOver (below : List Frame) : State where
  vm := { classes := classes, interned := interned.toArray }
  heap := heap
  slotsUsed := slotsUsed
  threads := #[{ frames := .invoking theMethod args0 :: below }]
def below0 : List Frame := [.native { method := ⟨0, 0⟩, args := #[] }]
def about1 : State := aboutOver below0
def p0 : Program := .bare "" "" ""
def e0 : Env := launch0.env 0 0 0
theorem w_frames : about1.frames = Frame.invoking theMethod args0 :: below0 := rfl
set_option maxRecDepth 65536 in
theorem w_args : argsFit about1.vm theMethod args0 = true := by decide +kernel
set_option maxRecDepth 65536 in
theorem w_heap : heapFits about1 = true := by decide +kernel
set_option maxRecDepth 65536 in
theorem w_runnable : about1.curStatus? = some .runnable := by decide +kernel
set_option maxRecDepth 65536 in
theorem w_alone : about1.alone = true := by decide +kernel
set_option maxRecDepth 65536 in
theorem w_named : about1.methodNamed? x = some theMethod := by decide +kernel
set_option maxRecDepth 65536 in
theorem w_hears : about1.hears theMethod below0 = true := by decide +kernel
set_option maxRecDepth 65536 in
theorem w_ripe : about1.ripe theMethod args0 below0 = true := by decide +kernel
theorem w_running : about1.status = .running := rfl
set_option maxRecDepth 65536 in
theorem w_room : about1.hasRoom e0.platform room_1 = true :=
  launch0.hasRoom_least _ room_1 (by decide +kernel) (by decide +kernel) (by decide +kernel) (by decide +kernel) (by decide +kernel) (by decide +kernel)
theorem allAtoms_all (ts : List Jvm.Cond) (a : Array Jvm.Value) (st : Jvm.State) : (allAtoms ts).before a st = ts.all (fun c => c.before a st) := by
  induction ts with
  | nil => rfl
  | cons c t ih =>
    show (Jvm.Cond.and c (allAtoms t)).before a st = _
    rw [Jvm.Cond.before_and, ih, List.all_cons]
def words1 : List Jvm.Cond := Jvm.Cond.code x code maxLocals ret :: tables_1
/-- a 'code' word, met by the world's own term for the bytes: nothing is compared byte by byte -/
theorem code_word {y : MethodName} {bytes : ByteArray} {mx : Nat} {rt : Option FieldType} {a : Array Value} {s : State} {m : MethodId} {meth : Method} {c : Code} (h1 : s.methodNamed? y = some m) (h2 : s.vm.method? m = some meth) (h3 : meth.code = some c) (h4 : c.code = bytes)
    (h5 : (c.maxLocals == mx && c.exceptionTable.isEmpty && decide (c.maxStack ≤ mostOperands) && decide (meth.sig.returnType = rt) && !meth.locks && decide (parseMethodDescriptor y.desc = some meth.sig)) = true) : (Jvm.Cond.code y bytes mx rt).before a s = true := by
  simp only [Bool.and_eq_true, beq_iff_eq, Bool.not_eq_true', decide_eq_true_eq] at h5
  obtain ⟨⟨⟨⟨⟨g1, g2⟩, g3⟩, g4⟩, g5⟩, g6⟩ := h5
  simp [Cond.before, Cond.holds, Cond.value, h1, h2, h3, h4, g1, g2, g3, g4, g5, g6]
def isCode : Jvm.Cond → Bool
  | .code _ _ _ _ => true
  | _ => false
theorem all_split {L : List Jvm.Cond} {P : Jvm.Cond → Bool} (h1 : L.all (fun c => isCode c || P c) = true) (h2 : ∀ c ∈ L.filter isCode, P c = true) : L.all P = true := by
  refine List.all_eq_true.mpr fun c hc => ?_
  have h := List.all_eq_true.mp h1 c hc
  rcases Bool.eq_false_or_eq_true (isCode c) with hi | hi
  · exact h2 c (List.mem_filter.mpr ⟨hc, hi⟩)
  · simpa [hi] using h
set_option maxRecDepth 65536 in
theorem w_c0 : (Jvm.Cond.code x code maxLocals ret).before args0 about1 = true := code_word (m := ⟨1, 2⟩) (meth := k1m2) (c := k1c2) (by decide +kernel) rfl rfl rfl (by decide +kernel)
set_option maxRecDepth 65536 in
theorem w_c1 : (Jvm.Cond.code ({ cls := "com/example/parley/parley/core/PackedBits", name := "replace", desc := "([JIJI)V" } : Jvm.MethodName) prog_134_method_6_code (10 : Nat) (Option.none : Option Jvm.ClassFile.FieldType)).before args0 about1 = true := code_word (m := ⟨2, 1⟩) (meth := k2m1) (c := k2c1) (by decide +kernel) rfl rfl rfl (by decide +kernel)
set_option maxRecDepth 65536 in
theorem w_c2 : (Jvm.Cond.code ({ cls := "com/example/parley/parley/core/PackedBitsReplacePinLaw", name := "expect", desc := "(JIIJI)J" } : Jvm.MethodName) method_2_code (16 : Nat) (Option.some Jvm.ClassFile.FieldType.long)).before args0 about1 = true := code_word (m := ⟨1, 1⟩) (meth := k1m1) (c := k1c1) (by decide +kernel) rfl rfl rfl (by decide +kernel)
set_option maxRecDepth 65536 in
theorem w_c3 : (Jvm.Cond.code ({ cls := "java/lang/Math", name := "max", desc := "(II)I" } : Jvm.MethodName) jdk_29_method_65_code (2 : Nat) (Option.some Jvm.ClassFile.FieldType.int)).before args0 about1 = true := code_word (m := ⟨3, 1⟩) (meth := k3m1) (c := k3c1) (by decide +kernel) rfl rfl rfl (by decide +kernel)
set_option maxRecDepth 65536 in
theorem w_c4 : (Jvm.Cond.code ({ cls := "java/lang/Math", name := "min", desc := "(II)I" } : Jvm.MethodName) jdk_29_method_69_code (2 : Nat) (Option.some Jvm.ClassFile.FieldType.int)).before args0 about1 = true := code_word (m := ⟨3, 2⟩) (meth := k3m2) (c := k3c2) (by decide +kernel) rfl rfl rfl (by decide +kernel)
def codes1 : List Jvm.Cond := [Jvm.Cond.code x code maxLocals ret, Jvm.Cond.code ({ cls := "com/example/parley/parley/core/PackedBits", name := "replace", desc := "([JIJI)V" } : Jvm.MethodName) prog_134_method_6_code (10 : Nat) (Option.none : Option Jvm.ClassFile.FieldType), Jvm.Cond.code ({ cls := "com/example/parley/parley/core/PackedBitsReplacePinLaw", name := "expect", desc := "(JIIJI)J" } : Jvm.MethodName) method_2_code (16 : Nat) (Option.some Jvm.ClassFile.FieldType.long), Jvm.Cond.code ({ cls := "java/lang/Math", name := "max", desc := "(II)I" } : Jvm.MethodName) jdk_29_method_65_code (2 : Nat) (Option.some Jvm.ClassFile.FieldType.int), Jvm.Cond.code ({ cls := "java/lang/Math", name := "min", desc := "(II)I" } : Jvm.MethodName) jdk_29_method_69_code (2 : Nat) (Option.some Jvm.ClassFile.FieldType.int)]
set_option maxRecDepth 65536 in
theorem codes_eq : words1.filter isCode = codes1 := rfl
theorem w_codes : ∀ c ∈ words1.filter isCode, c.before args0 about1 = true := by
  rw [codes_eq]
  intro c hc
  simp only [codes1, List.mem_cons, List.not_mem_nil, or_false] at hc
  rcases hc with rfl | rfl | rfl | rfl | rfl
  · exact w_c0
  · exact w_c1
  · exact w_c2
  · exact w_c3
  · exact w_c4
set_option maxRecDepth 65536 in
theorem w_t1 : words1.all (fun c => isCode c || c.before args0 about1) = true := by decide +kernel
theorem w_tables : (allAtoms (Jvm.Cond.code x code maxLocals ret :: tables_1)).before args0 about1 = true := by
  rw [allAtoms_all]
  show words1.all (fun c => c.before args0 about1) = true
  refine all_split ?_ w_codes
  rw [w_t1]
set_option maxRecDepth 65536 in
theorem w_case : (Jvm.Cond.and given_1 narrow_1).before args0 about1 = true := by decide +kernel
theorem w_applies : (headSpec (Jvm.Cond.code x code maxLocals ret :: tables_1) room_1).applies x e0.platform about1 = true :=
  (Spec.applies_iff w_frames).mpr ⟨w_running, w_runnable, w_alone, w_named, w_hears, w_ripe, w_room, w_tables⟩
theorem atStart : AtStart classFile x code maxLocals ret World_1 tables_1 room_1 Calls_1 rest_1 Pre_1 launch0 p0 e0 about1 theMethod args0 below0 :=
  ⟨lists_1, trivial, launch0.admits_env _ _ _, launch0.least_env, fairChoices_fair.cas, fairChoices_fair.clock, w_frames, w_args, w_heap, w_applies, trivial, trivial, w_case⟩
end start1
theorem witness_1 : WitnessClaimed_1 := ⟨start1.p0, start1.e0, start1.about1, start1.theMethod, start1.args0, start1.below0, start1.atStart⟩
end Jvm.Pilot.@@N@@
