import JvmDerived
import JvmDerived.Pilot.@@N@@Statement
import JvmDerived.Pilot.@@N@@Code
set_option linter.unusedVariables false
set_option linter.unusedSimpArgs false
namespace Jvm.RoadKit
open Sem ClassFile Op Lib Jvm.Stand Jvm.Free Jvm.LawKit
section New
variable {p : Program} {l : Launch} {e : Env} {R : Room} {s : State} {m : MethodId} {args : Array Value} {below : List Frame} {meth : Method} {c : Code} {T : State} {locs : List Loc} {cells slots : Nat}
theorem retI (X : Stand p l e R s m args below meth c T locs cells slots) (hx : p.tables.exec = Jvm.exec) {pc : Nat} {Ls : Array Slot} {z : Int32} {rest : List Value} (hret : meth.sig.returnType = some .int) (hd : decode c.code pc = .ok (.ireturn, 1)) {fs : List Frame}
    (hl : ∀ (f : JFrame) (acts : List Action), f.method = m → f.locked = none → f.entered = [] → (doReturn e (T.setTop f) acts (some (.int z))).1 = T.setFrames fs) : Steps p.tables e below (T.setTop (mkF m pc Ls (.int z :: rest))) (T.setFrames fs) := by
  have hm' : T.vm.method? m = some meth := X.method'
  have hn : narrow .int (.int z) = .int z := rfl
  show Steps p.tables e below (T.setTop { method := m, pc := pc, locals := Ls, stack := _ :: rest, locked := none }) _
  jvm_step X.here [X.here.top, hx, hd, hm', hret, hn]
  first | (intro acts; rw [hl _ acts rfl rfl rfl]) | rw [hl _ _ rfl rfl rfl]
  exact Steps.refl _
theorem own_retJ (X : Stand p l e R s m args below meth c T locs cells slots) (hx : p.tables.exec = Jvm.exec) {pc : Nat} {Ls : Array Slot} {z : Int64} {rest : List Value} (hret : meth.sig.returnType = some .long) (hd : decode c.code pc = .ok (.lreturn, 1)) {fs : List Frame}
    (hl : ∀ (f : JFrame) (acts : List Action), f.method = m → f.locked = none → f.entered = [] → (doReturn e (T.setTop f) acts (some (.long z))).1 = T.setFrames fs) : Steps p.tables e below (T.setTop (mkF m pc Ls (.long z :: rest))) (T.setFrames fs) := by
  have hm' : T.vm.method? m = some meth := X.method'
  show Steps p.tables e below (T.setTop { method := m, pc := pc, locals := Ls, stack := _ :: rest, locked := none }) _
  jvm_step X.here [X.here.top, hx, hd, hm', hret, narrow]
  first | (intro acts; rw [hl _ acts rfl rfl rfl]) | rw [hl _ _ rfl rfl rfl]
  exact Steps.refl _
theorem own_retA (X : Stand p l e R s m args below meth c T locs cells slots) (hx : p.tables.exec = Jvm.exec) {pc : Nat} {Ls : Array Slot} {z : Addr} {rest : List Value} {ty : FieldType} (hret : meth.sig.returnType = some ty) (hty : ty.isReference = true) (hd : decode c.code pc = .ok (.areturn, 1)) {fs : List Frame}
    (hl : ∀ (f : JFrame) (acts : List Action), f.method = m → f.locked = none → f.entered = [] → (doReturn e (T.setTop f) acts (some (.ref z))).1 = T.setFrames fs) : Steps p.tables e below (T.setTop (mkF m pc Ls (.ref z :: rest))) (T.setFrames fs) := by
  have hm' : T.vm.method? m = some meth := X.method'
  show Steps p.tables e below (T.setTop { method := m, pc := pc, locals := Ls, stack := _ :: rest, locked := none }) _
  jvm_step X.here [X.here.top, hx, hd, hm', hret, hty, Value.isRef]
  first | (intro acts; rw [hl _ acts rfl rfl rfl]) | rw [hl _ _ rfl rfl rfl]
  exact Steps.refl _
end New
end Jvm.RoadKit
namespace Jvm.Pilot.@@N@@
open Jvm Jvm.ClassFile Sem Op Lib Jvm.Free Jvm.Stand Jvm.LawKit Jvm.RoadKit Bundle Jvm.Pilot.@@N@@.Jvm.D
/-- a body that leaves the heap as it is and returns w -/
def QV (w : Value) (h0 : Heap) (n0 : Nat) (v : Option Value) (h : Heap) (L : List Loc) : Prop := v = some w ∧ Fr n0 L ∧ h = h0
def QL (n0 : Nat) (v : Option Value) (h : Heap) (L : List Loc) : Prop := v = some (.int 1) ∧ Fr n0 L
theorem own_ush (x : Int64) (y : Int32) (k : Nat) (h : ((y &&& 0x3f).toInt64.toUInt64.toBitVec % 64) = BitVec.ofNat 64 k) (hk : k < 64 := by decide) : ((x.toUInt64 >>> (y &&& 0x3f).toInt64.toUInt64).toInt64).toBitVec = x.toBitVec >>> k := by
  show (x.toUInt64 >>> (y &&& 0x3f).toInt64.toUInt64).toBitVec = _
  rw [UInt64.toBitVec_shiftRight, h]
  show x.toBitVec >>> (BitVec.ofNat 64 k).toNat = _
  rw [BitVec.toNat_ofNat, Nat.mod_eq_of_lt (Nat.lt_trans hk (by decide))]
theorem own_shl (x : Int64) (y : Int32) (k : Nat) (h : ((y &&& 0x3f).toInt64.toBitVec.smod 64) = BitVec.ofNat 64 k) (hk : k < 64 := by decide) : (x <<< (y &&& 0x3f).toInt64).toBitVec = x.toBitVec <<< k := by
  rw [Int64.toBitVec_shiftLeft, h]
  show x.toBitVec <<< (BitVec.ofNat 64 k).toNat = _
  rw [BitVec.toNat_ofNat, Nat.mod_eq_of_lt (Nat.lt_trans hk (by decide))]
/-- undoing a xorshift whose third power vanishes -/
theorem own_xs (z : BitVec 64) (k : Nat) (h : 64 ≤ 3 * k) : ((z ^^^ z >>> k) ^^^ (z ^^^ z >>> k) >>> k) ^^^ (z ^^^ z >>> k) >>> (2 * k) = z := by
  rw [BitVec.ushiftRight_xor_distrib, BitVec.ushiftRight_xor_distrib, ← BitVec.shiftRight_add, ← BitVec.shiftRight_add]
  have e1 : z >>> (k + 2 * k) = 0#64 := BitVec.ushiftRight_eq_zero (by omega)
  rw [e1, show k + k = 2 * k by omega, BitVec.xor_zero]
  generalize z >>> k = a
  generalize z >>> (2 * k) = b
  apply BitVec.eq_of_getLsbD_eq
  intro i hi
  simp only [BitVec.getLsbD_xor]
  cases z.getLsbD i <;> cases a.getLsbD i <;> cases b.getLsbD i <;> rfl
def U (k : Int32) (x : Int64) : Int64 := (x.toUInt64 >>> (k &&& 0x3f).toInt64.toUInt64).toInt64
theorem own_inv (z : Int64) (k k2 : Int32) (n : Nat) (h1 : ((k &&& 0x3f).toInt64.toUInt64.toBitVec % 64) = BitVec.ofNat 64 n) (h2 : ((k2 &&& 0x3f).toInt64.toUInt64.toBitVec % 64) = BitVec.ofNat 64 (2 * n)) (hn : 64 ≤ 3 * n) (hn2 : 2 * n < 64) :
    ((z ^^^ U k z) ^^^ U k (z ^^^ U k z)) ^^^ U k2 (z ^^^ U k z) = z := by
  apply Int64.toBitVec_inj.mp
  simp only [Int64.toBitVec_xor, U, own_ush _ k n h1 (by omega), own_ush _ k2 (2 * n) h2 hn2]
  exact own_xs _ n hn
theorem own_mul (a b c : Int64) (h : b * c = 1) : a * b * c = a := by rw [Int64.mul_assoc, h, Int64.mul_one]
theorem own_low (y : Int64) : (U 1 y <<< ((1 : Int32) &&& 0x3f).toInt64) = y ∨ (U 1 y <<< ((1 : Int32) &&& 0x3f).toInt64) ||| 1 = y := by
  have e0 : (U 1 y <<< ((1 : Int32) &&& 0x3f).toInt64).toBitVec = (y.toBitVec >>> 1) <<< 1 := by
    rw [own_shl _ 1 1 (by decide), U, own_ush _ 1 1 (by decide)]
  cases hb : y.toBitVec.getLsbD 0
  · left
    apply Int64.toBitVec_inj.mp
    rw [e0]
    apply BitVec.eq_of_getLsbD_eq
    intro i hi
    simp only [BitVec.getLsbD_shiftLeft, BitVec.getLsbD_ushiftRight]
    rcases i with _ | i
    · rw [hb]; rfl
    · simp [hi, Nat.add_comm 1 i]
  · right
    apply Int64.toBitVec_inj.mp
    rw [Int64.toBitVec_or, e0]
    apply BitVec.eq_of_getLsbD_eq
    intro i hi
    have e1 : (Int64.toBitVec 1) = 1#64 := rfl
    simp only [BitVec.getLsbD_or, BitVec.getLsbD_shiftLeft, BitVec.getLsbD_ushiftRight, e1, BitVec.getLsbD_one]
    rcases i with _ | i
    · simp [hb]
    · simp [hi, Nat.add_comm 1 i]
theorem own_nn (y : Int64) : ¬ U 1 y < 0 := by
  rw [Int64.lt_iff_toInt_lt]
  have : (U 1 y).toInt = (U 1 y).toBitVec.toInt := rfl
  rw [this, U, own_ush _ 1 1 (by decide)]
  have : (y.toBitVec >>> 1).toInt = ((y.toBitVec >>> 1).toNat : Int) := by
    rw [BitVec.toInt_eq_toNat_cond, if_pos]
    have := BitVec.isLt y.toBitVec
    rw [BitVec.toNat_ushiftRight, Nat.shiftRight_eq_div_pow]; omega
  rw [this]; show ¬ _ < (0 : Int); omega
def mixy (s : Int64) : Int64 :=
  let z1 := (s ^^^ U 30 s) * (-4658895280553007687 : Int64)
  let z2 := (z1 ^^^ U 27 z1) * (-7723592293110705685 : Int64)
  z2 ^^^ U 31 z2
def unmixy (y : Int64) : Int64 :=
  let u := ((y ^^^ U 31 y) ^^^ U 62 y) * (3573116690164977347 : Int64)
  let w := ((u ^^^ U 27 u) ^^^ U 54 u) * (-7575587736534282103 : Int64)
  (w ^^^ U 30 w) ^^^ U 60 w
theorem own_unmix (s : Int64) : unmixy (mixy s) = s := by
  simp only [unmixy, mixy]
  rw [own_inv _ 31 62 31 (by decide) (by decide) (by decide) (by decide), own_mul _ _ _ (by decide), own_inv _ 27 54 27 (by decide) (by decide) (by decide) (by decide), own_mul _ _ _ (by decide), own_inv _ 30 60 30 (by decide) (by decide) (by decide) (by decide)]
def ofRunS (sd : Int64) (r : Int32) : Int64 := U 1 (mixy (sd + (r - 1).toInt64 * (-7046029254386353131 : Int64)))
theorem d1_0 : decode jdk_29_method_65_code 0 = .ok (.iload_n 0, 1) := by decide +kernel
theorem d1_1 : decode jdk_29_method_65_code 1 = .ok (.iload_n 1, 1) := by decide +kernel
theorem d1_2 : decode jdk_29_method_65_code 2 = .ok (.if_icmp .lt 7, 3) := by decide +kernel
theorem d1_5 : decode jdk_29_method_65_code 5 = .ok (.iload_n 0, 1) := by decide +kernel
theorem d1_6 : decode jdk_29_method_65_code 6 = .ok (.goto 4, 3) := by decide +kernel
theorem d1_9 : decode jdk_29_method_65_code 9 = .ok (.iload_n 1, 1) := by decide +kernel
theorem d1_10 : decode jdk_29_method_65_code 10 = .ok (.ireturn, 1) := by decide +kernel
theorem ef_rm1 (m : MethodId) (x : Int32) (y : Int32) : entryFrame m #[(.int x), (.int y)] 2 = mkF m 0 #[.val (.int x), .val (.int y)] [] := by first | (simp [entryFrame, mkF, argsToLocals, Value.category]; done) | rfl
set_option maxRecDepth 65536 in
set_option maxHeartbeats 40000000 in
theorem rm1 (l : Launch) (Z : State) (a0 : Array Value) (hw : ∀ d ∈ tables_1, d.before a0 Z = true) (ws : List Jvm.Cond) (x : Int32) (y : Int32)  (h0 : Heap) (n0 : Nat)  :
    MetFree l (⟨"java/lang/Math", "max", "(II)I"⟩ : MethodName) (head1 (Jvm.Cond.code (⟨"java/lang/Math", "max", "(II)I"⟩ : MethodName) jdk_29_method_65_code 2 (some .int) :: ws) ({ frames := 0, cells := 0, slots := 0, locals := 0 } : Room)) (fun a_ U_ => a_ = #[(.int x), (.int y)] ∧ Z.Warmed39 U_.vm ∧ U_.heap = h0) (fun _ _ _ _ _ => True) (fun _ U_ o_ U'_ => ∃ v_ L_, o_ = .returned v_ ∧ QV (.int (if x < y then y else x)) h0 n0 v_ U'_.heap L_ ∧ FrameEnd U_ o_ U'_ L_ ({ frames := 0, cells := 0, slots := 0, locals := 0 } : Room).cells ({ frames := 0, cells := 0, slots := 0, locals := 0 } : Room).slots) := by
  refine MetFree.of_bodySF (Jvm.Free.JP.mathPlain rfl (by decide +kernel)) hisR ?_
  intro p e s m args below meth c s₁ Bd hml0 hP hK
  obtain ⟨rfl, hZ, hh⟩ := hP
  have hx := Bd.exec
  have hby := Bd.bytes
  have hml : c.maxLocals = 2 := hml0
  have hown : s.vm.findClass "java/lang/Math" = some m.cls := findClass_of_methodNamed Bd.named
  have hnm := (name_of_methodNamed Bd.named Bd.method).1
  have X0 : Stand p l e ({ frames := 0, cells := 0, slots := 0, locals := 0 } : Room) s m #[(.int x), (.int y)] below meth c s₁ [] 0 0 := Stand.of_body Bd
  have e0 : s₁.heap = h0 := by rw [← hh, Bd.state]; rfl
  have N0 := Fr.nil n0
  have k0 : ∀ tg, Steps p.tables e below (s₁.setTop (mkF m 0 #[.val (.int x), .val (.int y)] [])) tg → Steps p.tables e below (s₁.setTop (entryFrame m #[(.int x), (.int y)] 2)) tg := fun tg k => castTop (ef_rm1 m x y) k
  have k1 : ∀ tg, Steps p.tables e below (s₁.setTop (mkF m 2 #[.val (.int x), .val (.int y)] [(.int y), (.int x)])) tg → Steps p.tables e below (s₁.setTop (entryFrame m #[(.int x), (.int y)] 2)) tg := by
    intro tg kt
    refine k0 tg ?_
    show Steps p.tables e below (s₁.setTop (mkF m 0 #[.val (.int x), .val (.int y)] [])) _
    refine XS.iloadN X0.here hx rfl (hb hby d1_0) rfl ?_
    show Steps p.tables e below (s₁.setTop (mkF m 1 #[.val (.int x), .val (.int y)] [(.int x)])) _
    refine XS.iloadN X0.here hx rfl (hb hby d1_1) rfl ?_
    show Steps p.tables e below (s₁.setTop (mkF m 2 #[.val (.int x), .val (.int y)] [(.int y), (.int x)])) _
    exact kt
  have k5 : ∀ tg, Steps p.tables e below (s₁.setTop (mkF m 10 #[.val (.int x), .val (.int y)] [(.int (if x < y then y else x))])) tg → Steps p.tables e below (s₁.setTop (entryFrame m #[(.int x), (.int y)] 2)) tg := by
    intro tg kt
    refine k1 tg ?_
    show Steps p.tables e below (s₁.setTop (mkF m 2 #[.val (.int x), .val (.int y)] [(.int y), (.int x)])) _
    by_cases hc2 : x < y
    · refine XS.icmpYes X0.here hx rfl (pc0 := 2) (pc' := 9) rfl (hb hby d1_2) rfl (tlt hc2).1 (by decide) (by decide) ?_
      show Steps p.tables e below (s₁.setTop (mkF m 9 #[.val (.int x), .val (.int y)] [])) _
      refine XS.iloadN X0.here hx rfl (hb hby d1_9) rfl ?_
      show Steps p.tables e below (s₁.setTop (mkF m 10 #[.val (.int x), .val (.int y)] [(.int y)])) _
      repeat rw [if_pos hc2] at kt
      exact kt
    · refine XS.icmpNo X0.here hx rfl (hb hby d1_2) rfl (flt hc2).1 ?_
      show Steps p.tables e below (s₁.setTop (mkF m 5 #[.val (.int x), .val (.int y)] [])) _
      refine XS.iloadN X0.here hx rfl (hb hby d1_5) rfl ?_
      show Steps p.tables e below (s₁.setTop (mkF m 6 #[.val (.int x), .val (.int y)] [(.int x)])) _
      refine XS.goto X0.here hx rfl (pc0 := 6) (pc' := 10) rfl (hb hby d1_6) (by decide) (by decide) ?_
      show Steps p.tables e below (s₁.setTop (mkF m 10 #[.val (.int x), .val (.int y)] [(.int x)])) _
      repeat rw [if_neg hc2] at kt
      exact kt
  obtain ⟨z6, ez6⟩ : ∃ z : Int32, z = (if x < y then y else x) := ⟨_, rfl⟩
  have k7 : ∀ tg, Steps p.tables e below (s₁.setTop (mkF m 10 #[.val (.int x), .val (.int y)] [(.int z6)])) tg → Steps p.tables e below (s₁.setTop (entryFrame m #[(.int x), (.int y)] 2)) tg := by
    intro tg kt
    refine k5 tg ?_
    show Steps p.tables e below (s₁.setTop (mkF m 10 #[.val (.int x), .val (.int y)] [(.int (if x < y then y else x))])) _
    rw [← ez6]
    show Steps p.tables e below (s₁.setTop (mkF m 10 #[.val (.int x), .val (.int y)] [(.int z6)])) _
    exact kt
  obtain ⟨fs, hr, hrun, hended, hW, hsame⟩ := X0.leave (v := some (.int z6)) (fun h => by rw [Bd.returns] at h; cases h)
  refine ⟨_, _, k7 _ ?_, hrun, hended, _, _, rfl, ?_, ⟨_, rfl⟩, hW, hsame.mono (by decide) (by decide)⟩
  · exact retI X0 hx Bd.returns (hb hby d1_10) hr
  · show QV _ h0 n0 _ s₁.heap _
    exact ⟨by subst ez6; rfl, N0, e0⟩
theorem d2_0 : decode prog_51_method_2_code 0 = .ok (.iload_n 2, 1) := by decide +kernel
theorem d2_1 : decode prog_51_method_2_code 1 = .ok (.iconst 1, 1) := by decide +kernel
theorem d2_2 : decode prog_51_method_2_code 2 = .ok (.if_icmp .ge 17, 3) := by decide +kernel
theorem d2_19 : decode prog_51_method_2_code 19 = .ok (.iload_n 2, 1) := by decide +kernel
theorem d2_20 : decode prog_51_method_2_code 20 = .ok (.iconst 1, 1) := by decide +kernel
theorem d2_21 : decode prog_51_method_2_code 21 = .ok (.if_icmp .ne 8, 3) := by decide +kernel
theorem d2_24 : decode prog_51_method_2_code 24 = .ok (.lload_n 0, 1) := by decide +kernel
theorem d2_25 : decode prog_51_method_2_code 25 = .ok (.lstore_n 3, 1) := by decide +kernel
theorem d2_26 : decode prog_51_method_2_code 26 = .ok (.goto 54, 3) := by decide +kernel
theorem d2_80 : decode prog_51_method_2_code 80 = .ok (.lload_n 3, 1) := by decide +kernel
theorem d2_81 : decode prog_51_method_2_code 81 = .ok (.lreturn, 1) := by decide +kernel
theorem pn_2 : plainName "com/example/lifetable/lifetable/run/Seeds" = true := by first | (simp [plainName, overriddenIn]; done) | decide +kernel
theorem ef_rm2a (m : MethodId) (sd : Int64) (r : Int32) : entryFrame m #[(.long sd), (.int r)] 7 = mkF m 0 #[.val (.long sd), .second, .val (.int r), .unset, .unset, .unset, .unset] [] := by first | (simp [entryFrame, mkF, argsToLocals, Value.category]; done) | rfl
set_option maxRecDepth 65536 in
set_option maxHeartbeats 40000000 in
theorem rm2a (l : Launch) (Z : State) (a0 : Array Value) (hw : ∀ d ∈ tables_1, d.before a0 Z = true) (ws : List Jvm.Cond) (sd : Int64) (r : Int32)  (h0 : Heap) (n0 : Nat) (h1 : ¬ (r < (1 : Int32))) (h2 : r = (1 : Int32)) :
    MetFree l (⟨"com/example/lifetable/lifetable/run/Seeds", "ofRun", "(JI)J"⟩ : MethodName) (head1 (Jvm.Cond.code (⟨"com/example/lifetable/lifetable/run/Seeds", "ofRun", "(JI)J"⟩ : MethodName) prog_51_method_2_code 7 (some .long) :: ws) ({ frames := 0, cells := 0, slots := 0, locals := 0 } : Room)) (fun a_ U_ => a_ = #[(.long sd), (.int r)] ∧ Z.Warmed39 U_.vm ∧ U_.heap = h0) (fun _ _ _ _ _ => True) (fun _ U_ o_ U'_ => ∃ v_ L_, o_ = .returned v_ ∧ QV (.long sd) h0 n0 v_ U'_.heap L_ ∧ FrameEnd U_ o_ U'_ L_ ({ frames := 0, cells := 0, slots := 0, locals := 0 } : Room).cells ({ frames := 0, cells := 0, slots := 0, locals := 0 } : Room).slots) := by
  refine MetFree.of_bodySF (plainFor_of_name pn_2) hisR ?_
  intro p e s m args below meth c s₁ Bd hml0 hP hK
  obtain ⟨rfl, hZ, hh⟩ := hP
  have hx := Bd.exec
  have hby := Bd.bytes
  have hml : c.maxLocals = 7 := hml0
  have hown : s.vm.findClass "com/example/lifetable/lifetable/run/Seeds" = some m.cls := findClass_of_methodNamed Bd.named
  have hnm := (name_of_methodNamed Bd.named Bd.method).1
  have X0 : Stand p l e ({ frames := 0, cells := 0, slots := 0, locals := 0 } : Room) s m #[(.long sd), (.int r)] below meth c s₁ [] 0 0 := Stand.of_body Bd
  have e0 : s₁.heap = h0 := by rw [← hh, Bd.state]; rfl
  have N0 := Fr.nil n0
  have k0 : ∀ tg, Steps p.tables e below (s₁.setTop (mkF m 0 #[.val (.long sd), .second, .val (.int r), .unset, .unset, .unset, .unset] [])) tg → Steps p.tables e below (s₁.setTop (entryFrame m #[(.long sd), (.int r)] 7)) tg := fun tg k => castTop (ef_rm2a m sd r) k
  have hd1 : ¬ (r < (1 : Int32)) := h1
  have hd2 : r = (1 : Int32) := h2
  have k3 : ∀ tg, Steps p.tables e below (s₁.setTop (mkF m 81 #[.val (.long sd), .second, .val (.int r), .val (.long sd), .second, .unset, .unset] [(.long sd)])) tg → Steps p.tables e below (s₁.setTop (entryFrame m #[(.long sd), (.int r)] 7)) tg := by
    intro tg kt
    refine k0 tg ?_
    show Steps p.tables e below (s₁.setTop (mkF m 0 #[.val (.long sd), .second, .val (.int r), .unset, .unset, .unset, .unset] [])) _
    refine XS.iloadN X0.here hx rfl (hb hby d2_0) rfl ?_
    show Steps p.tables e below (s₁.setTop (mkF m 1 #[.val (.long sd), .second, .val (.int r), .unset, .unset, .unset, .unset] [(.int r)])) _
    refine XS.iconst X0.here hx rfl (hb hby d2_1) ?_
    show Steps p.tables e below (s₁.setTop (mkF m 2 #[.val (.long sd), .second, .val (.int r), .unset, .unset, .unset, .unset] [(.int (1 : Int32)), (.int r)])) _
    refine XS.icmpYes X0.here hx rfl (pc0 := 2) (pc' := 19) rfl (hb hby d2_2) rfl (flt hd1).2.1 (by decide) (by decide) ?_
    show Steps p.tables e below (s₁.setTop (mkF m 19 #[.val (.long sd), .second, .val (.int r), .unset, .unset, .unset, .unset] [])) _
    refine XS.iloadN X0.here hx rfl (hb hby d2_19) rfl ?_
    show Steps p.tables e below (s₁.setTop (mkF m 20 #[.val (.long sd), .second, .val (.int r), .unset, .unset, .unset, .unset] [(.int r)])) _
    refine XS.iconst X0.here hx rfl (hb hby d2_20) ?_
    show Steps p.tables e below (s₁.setTop (mkF m 21 #[.val (.long sd), .second, .val (.int r), .unset, .unset, .unset, .unset] [(.int (1 : Int32)), (.int r)])) _
    refine XS.icmpNo X0.here hx rfl (hb hby d2_21) rfl (teq hd2).2 ?_
    show Steps p.tables e below (s₁.setTop (mkF m 24 #[.val (.long sd), .second, .val (.int r), .unset, .unset, .unset, .unset] [])) _
    refine XS.lloadN X0.here hx rfl (hb hby d2_24) rfl ?_
    show Steps p.tables e below (s₁.setTop (mkF m 25 #[.val (.long sd), .second, .val (.int r), .unset, .unset, .unset, .unset] [(.long sd)])) _
    refine XS.lstoreN X0.here hx rfl (hb hby d2_25) rfl (l' := #[.val (.long sd), .second, .val (.int r), .val (.long sd), .second, .unset, .unset]) rfl ?_
    show Steps p.tables e below (s₁.setTop (mkF m 26 #[.val (.long sd), .second, .val (.int r), .val (.long sd), .second, .unset, .unset] [])) _
    refine XS.goto X0.here hx rfl (pc0 := 26) (pc' := 80) rfl (hb hby d2_26) (by decide) (by decide) ?_
    show Steps p.tables e below (s₁.setTop (mkF m 80 #[.val (.long sd), .second, .val (.int r), .val (.long sd), .second, .unset, .unset] [])) _
    refine XS.lloadN X0.here hx rfl (hb hby d2_80) rfl ?_
    show Steps p.tables e below (s₁.setTop (mkF m 81 #[.val (.long sd), .second, .val (.int r), .val (.long sd), .second, .unset, .unset] [(.long sd)])) _
    exact kt
  obtain ⟨fs, hr, hrun, hended, hW, hsame⟩ := X0.leave (v := some (.long sd)) (fun h => by rw [Bd.returns] at h; cases h)
  refine ⟨_, _, k3 _ ?_, hrun, hended, _, _, rfl, ?_, ⟨_, rfl⟩, hW, hsame.mono (by decide) (by decide)⟩
  · exact own_retJ X0 hx Bd.returns (hb hby d2_81) hr
  · show QV _ h0 n0 _ s₁.heap _
    exact ⟨rfl, N0, e0⟩
theorem d2_29 : decode prog_51_method_2_code 29 = .ok (.lload_n 0, 1) := by decide +kernel
theorem d2_30 : decode prog_51_method_2_code 30 = .ok (.iload_n 2, 1) := by decide +kernel
theorem d2_31 : decode prog_51_method_2_code 31 = .ok (.iconst 1, 1) := by decide +kernel
theorem d2_32 : decode prog_51_method_2_code 32 = .ok (.isub, 1) := by decide +kernel
theorem d2_33 : decode prog_51_method_2_code 33 = .ok (.i2l, 1) := by decide +kernel
theorem d2_34 : decode prog_51_method_2_code 34 = .ok (.ldc2_w 18, 3) := by decide +kernel
theorem d2_37 : decode prog_51_method_2_code 37 = .ok (.lmul, 1) := by decide +kernel
theorem d2_38 : decode prog_51_method_2_code 38 = .ok (.ladd, 1) := by decide +kernel
theorem d2_39 : decode prog_51_method_2_code 39 = .ok (.lstore 5, 2) := by decide +kernel
theorem d2_41 : decode prog_51_method_2_code 41 = .ok (.lload 5, 2) := by decide +kernel
theorem d2_43 : decode prog_51_method_2_code 43 = .ok (.lload 5, 2) := by decide +kernel
theorem d2_45 : decode prog_51_method_2_code 45 = .ok (.bipush 30, 2) := by decide +kernel
theorem d2_47 : decode prog_51_method_2_code 47 = .ok (.lushr, 1) := by decide +kernel
theorem d2_48 : decode prog_51_method_2_code 48 = .ok (.lxor, 1) := by decide +kernel
theorem d2_49 : decode prog_51_method_2_code 49 = .ok (.ldc2_w 20, 3) := by decide +kernel
theorem d2_52 : decode prog_51_method_2_code 52 = .ok (.lmul, 1) := by decide +kernel
theorem d2_53 : decode prog_51_method_2_code 53 = .ok (.lstore 5, 2) := by decide +kernel
theorem d2_55 : decode prog_51_method_2_code 55 = .ok (.lload 5, 2) := by decide +kernel
theorem d2_57 : decode prog_51_method_2_code 57 = .ok (.lload 5, 2) := by decide +kernel
theorem d2_59 : decode prog_51_method_2_code 59 = .ok (.bipush 27, 2) := by decide +kernel
theorem d2_61 : decode prog_51_method_2_code 61 = .ok (.lushr, 1) := by decide +kernel
theorem d2_62 : decode prog_51_method_2_code 62 = .ok (.lxor, 1) := by decide +kernel
theorem d2_63 : decode prog_51_method_2_code 63 = .ok (.ldc2_w 22, 3) := by decide +kernel
theorem d2_66 : decode prog_51_method_2_code 66 = .ok (.lmul, 1) := by decide +kernel
theorem d2_67 : decode prog_51_method_2_code 67 = .ok (.lstore 5, 2) := by decide +kernel
theorem d2_69 : decode prog_51_method_2_code 69 = .ok (.lload 5, 2) := by decide +kernel
theorem d2_71 : decode prog_51_method_2_code 71 = .ok (.lload 5, 2) := by decide +kernel
theorem d2_73 : decode prog_51_method_2_code 73 = .ok (.bipush 31, 2) := by decide +kernel
theorem d2_75 : decode prog_51_method_2_code 75 = .ok (.lushr, 1) := by decide +kernel
theorem d2_76 : decode prog_51_method_2_code 76 = .ok (.lxor, 1) := by decide +kernel
theorem d2_77 : decode prog_51_method_2_code 77 = .ok (.iconst 1, 1) := by decide +kernel
theorem d2_78 : decode prog_51_method_2_code 78 = .ok (.lushr, 1) := by decide +kernel
theorem d2_79 : decode prog_51_method_2_code 79 = .ok (.lstore_n 3, 1) := by decide +kernel
theorem ef_rm2b (m : MethodId) (sd : Int64) (r : Int32) : entryFrame m #[(.long sd), (.int r)] 7 = mkF m 0 #[.val (.long sd), .second, .val (.int r), .unset, .unset, .unset, .unset] [] := by first | (simp [entryFrame, mkF, argsToLocals, Value.category]; done) | rfl
set_option maxRecDepth 65536 in
set_option maxHeartbeats 40000000 in
theorem rm2b (l : Launch) (Z : State) (a0 : Array Value) (hw : ∀ d ∈ tables_1, d.before a0 Z = true) (ws : List Jvm.Cond) (sd : Int64) (r : Int32)  (h0 : Heap) (n0 : Nat) (h1 : ¬ (r < (1 : Int32))) (h2 : ¬ (r = (1 : Int32))) :
    MetFree l (⟨"com/example/lifetable/lifetable/run/Seeds", "ofRun", "(JI)J"⟩ : MethodName) (head1 (Jvm.Cond.code (⟨"com/example/lifetable/lifetable/run/Seeds", "ofRun", "(JI)J"⟩ : MethodName) prog_51_method_2_code 7 (some .long) :: ws) ({ frames := 0, cells := 0, slots := 0, locals := 0 } : Room)) (fun a_ U_ => a_ = #[(.long sd), (.int r)] ∧ Z.Warmed39 U_.vm ∧ U_.heap = h0) (fun _ _ _ _ _ => True) (fun _ U_ o_ U'_ => ∃ v_ L_, o_ = .returned v_ ∧ QV (.long (ofRunS sd r)) h0 n0 v_ U'_.heap L_ ∧ FrameEnd U_ o_ U'_ L_ ({ frames := 0, cells := 0, slots := 0, locals := 0 } : Room).cells ({ frames := 0, cells := 0, slots := 0, locals := 0 } : Room).slots) := by
  refine MetFree.of_bodySF (plainFor_of_name pn_2) hisR ?_
  intro p e s m args below meth c s₁ Bd hml0 hP hK
  obtain ⟨rfl, hZ, hh⟩ := hP
  have hx := Bd.exec
  have hby := Bd.bytes
  have hml : c.maxLocals = 7 := hml0
  have hown : s.vm.findClass "com/example/lifetable/lifetable/run/Seeds" = some m.cls := findClass_of_methodNamed Bd.named
  have hnm := (name_of_methodNamed Bd.named Bd.method).1
  have X0 : Stand p l e ({ frames := 0, cells := 0, slots := 0, locals := 0 } : Room) s m #[(.long sd), (.int r)] below meth c s₁ [] 0 0 := Stand.of_body Bd
  have e0 : s₁.heap = h0 := by rw [← hh, Bd.state]; rfl
  have N0 := Fr.nil n0
  have k0 : ∀ tg, Steps p.tables e below (s₁.setTop (mkF m 0 #[.val (.long sd), .second, .val (.int r), .unset, .unset, .unset, .unset] [])) tg → Steps p.tables e below (s₁.setTop (entryFrame m #[(.long sd), (.int r)] 7)) tg := fun tg k => castTop (ef_rm2b m sd r) k
  have hd1 : ¬ (r < (1 : Int32)) := h1
  have hd2 : ¬ (r = (1 : Int32)) := h2
  obtain ⟨z3, ez3⟩ : ∃ z : Int64, z = (sd + (((r - (1 : Int32)).toInt64) * (-7046029254386353131 : Int64))) := ⟨_, rfl⟩
  obtain ⟨z4, ez4⟩ : ∃ z : Int64, z = ((z3 ^^^ ((z3.toUInt64 >>> ((30 : Int32) &&& 0x3f).toInt64.toUInt64).toInt64)) * (-4658895280553007687 : Int64)) := ⟨_, rfl⟩
  obtain ⟨z5, ez5⟩ : ∃ z : Int64, z = ((z4 ^^^ ((z4.toUInt64 >>> ((27 : Int32) &&& 0x3f).toInt64.toUInt64).toInt64)) * (-7723592293110705685 : Int64)) := ⟨_, rfl⟩
  obtain ⟨z6, ez6⟩ : ∃ z : Int64, z = (((z5 ^^^ ((z5.toUInt64 >>> ((31 : Int32) &&& 0x3f).toInt64.toUInt64).toInt64)).toUInt64 >>> ((1 : Int32) &&& 0x3f).toInt64.toUInt64).toInt64) := ⟨_, rfl⟩
  have k7 : ∀ tg, Steps p.tables e below (s₁.setTop (mkF m 81 #[.val (.long sd), .second, .val (.int r), .val (.long z6), .second, .val (.long z5), .second] [(.long z6)])) tg → Steps p.tables e below (s₁.setTop (entryFrame m #[(.long sd), (.int r)] 7)) tg := by
    intro tg kt
    refine k0 tg ?_
    show Steps p.tables e below (s₁.setTop (mkF m 0 #[.val (.long sd), .second, .val (.int r), .unset, .unset, .unset, .unset] [])) _
    refine XS.iloadN X0.here hx rfl (hb hby d2_0) rfl ?_
    show Steps p.tables e below (s₁.setTop (mkF m 1 #[.val (.long sd), .second, .val (.int r), .unset, .unset, .unset, .unset] [(.int r)])) _
    refine XS.iconst X0.here hx rfl (hb hby d2_1) ?_
    show Steps p.tables e below (s₁.setTop (mkF m 2 #[.val (.long sd), .second, .val (.int r), .unset, .unset, .unset, .unset] [(.int (1 : Int32)), (.int r)])) _
    refine XS.icmpYes X0.here hx rfl (pc0 := 2) (pc' := 19) rfl (hb hby d2_2) rfl (flt hd1).2.1 (by decide) (by decide) ?_
    show Steps p.tables e below (s₁.setTop (mkF m 19 #[.val (.long sd), .second, .val (.int r), .unset, .unset, .unset, .unset] [])) _
    refine XS.iloadN X0.here hx rfl (hb hby d2_19) rfl ?_
    show Steps p.tables e below (s₁.setTop (mkF m 20 #[.val (.long sd), .second, .val (.int r), .unset, .unset, .unset, .unset] [(.int r)])) _
    refine XS.iconst X0.here hx rfl (hb hby d2_20) ?_
    show Steps p.tables e below (s₁.setTop (mkF m 21 #[.val (.long sd), .second, .val (.int r), .unset, .unset, .unset, .unset] [(.int (1 : Int32)), (.int r)])) _
    refine XS.icmpYes X0.here hx rfl (pc0 := 21) (pc' := 29) rfl (hb hby d2_21) rfl (feq hd2).2 (by decide) (by decide) ?_
    show Steps p.tables e below (s₁.setTop (mkF m 29 #[.val (.long sd), .second, .val (.int r), .unset, .unset, .unset, .unset] [])) _
    refine XS.lloadN X0.here hx rfl (hb hby d2_29) rfl ?_
    show Steps p.tables e below (s₁.setTop (mkF m 30 #[.val (.long sd), .second, .val (.int r), .unset, .unset, .unset, .unset] [(.long sd)])) _
    refine XS.iloadN X0.here hx rfl (hb hby d2_30) rfl ?_
    show Steps p.tables e below (s₁.setTop (mkF m 31 #[.val (.long sd), .second, .val (.int r), .unset, .unset, .unset, .unset] [(.int r), (.long sd)])) _
    refine XS.iconst X0.here hx rfl (hb hby d2_31) ?_
    show Steps p.tables e below (s₁.setTop (mkF m 32 #[.val (.long sd), .second, .val (.int r), .unset, .unset, .unset, .unset] [(.int (1 : Int32)), (.int r), (.long sd)])) _
    refine XS.isub X0.here hx rfl (hb hby d2_32) rfl ?_
    show Steps p.tables e below (s₁.setTop (mkF m 33 #[.val (.long sd), .second, .val (.int r), .unset, .unset, .unset, .unset] [(.int (r - (1 : Int32))), (.long sd)])) _
    refine XS.i2l X0.here hx rfl (hb hby d2_33) rfl ?_
    show Steps p.tables e below (s₁.setTop (mkF m 34 #[.val (.long sd), .second, .val (.int r), .unset, .unset, .unset, .unset] [(.long ((r - (1 : Int32)).toInt64)), (.long sd)])) _
    refine X0.ldc2Long hx hown (mvT hZ (hw _ (List.mem_of_getElem? (i := 9) rfl))) (g := (mkF m 34 #[.val (.long sd), .second, .val (.int r), .unset, .unset, .unset, .unset] [(.long ((r - (1 : Int32)).toInt64)), (.long sd)])) rfl (hb hby d2_34) _ ?_
    show Steps p.tables e below (s₁.setTop (mkF m 37 #[.val (.long sd), .second, .val (.int r), .unset, .unset, .unset, .unset] [(.long (-7046029254386353131 : Int64)), (.long ((r - (1 : Int32)).toInt64)), (.long sd)])) _
    refine XS.lmul X0.here hx rfl (hb hby d2_37) rfl ?_
    show Steps p.tables e below (s₁.setTop (mkF m 38 #[.val (.long sd), .second, .val (.int r), .unset, .unset, .unset, .unset] [(.long (((r - (1 : Int32)).toInt64) * (-7046029254386353131 : Int64))), (.long sd)])) _
    refine XS.ladd X0.here hx rfl (hb hby d2_38) rfl ?_
    show Steps p.tables e below (s₁.setTop (mkF m 39 #[.val (.long sd), .second, .val (.int r), .unset, .unset, .unset, .unset] [(.long (sd + (((r - (1 : Int32)).toInt64) * (-7046029254386353131 : Int64))))])) _
    refine XS.lstore X0.here hx rfl (hb hby d2_39) rfl (l' := #[.val (.long sd), .second, .val (.int r), .unset, .unset, .val (.long (sd + (((r - (1 : Int32)).toInt64) * (-7046029254386353131 : Int64)))), .second]) rfl ?_
    show Steps p.tables e below (s₁.setTop (mkF m 41 #[.val (.long sd), .second, .val (.int r), .unset, .unset, .val (.long (sd + (((r - (1 : Int32)).toInt64) * (-7046029254386353131 : Int64)))), .second] [])) _
    rw [← ez3]
    show Steps p.tables e below (s₁.setTop (mkF m 41 #[.val (.long sd), .second, .val (.int r), .unset, .unset, .val (.long z3), .second] [])) _
    refine XS.lload X0.here hx rfl (hb hby d2_41) rfl ?_
    show Steps p.tables e below (s₁.setTop (mkF m 43 #[.val (.long sd), .second, .val (.int r), .unset, .unset, .val (.long z3), .second] [(.long z3)])) _
    refine XS.lload X0.here hx rfl (hb hby d2_43) rfl ?_
    show Steps p.tables e below (s₁.setTop (mkF m 45 #[.val (.long sd), .second, .val (.int r), .unset, .unset, .val (.long z3), .second] [(.long z3), (.long z3)])) _
    refine XS.bipush X0.here hx rfl (hb hby d2_45) ?_
    show Steps p.tables e below (s₁.setTop (mkF m 47 #[.val (.long sd), .second, .val (.int r), .unset, .unset, .val (.long z3), .second] [(.int (30 : Int32)), (.long z3), (.long z3)])) _
    refine XS.lushr X0.here hx rfl (hb hby d2_47) rfl ?_
    show Steps p.tables e below (s₁.setTop (mkF m 48 #[.val (.long sd), .second, .val (.int r), .unset, .unset, .val (.long z3), .second] [(.long ((z3.toUInt64 >>> ((30 : Int32) &&& 0x3f).toInt64.toUInt64).toInt64)), (.long z3)])) _
    refine XS.lxor X0.here hx rfl (hb hby d2_48) rfl ?_
    show Steps p.tables e below (s₁.setTop (mkF m 49 #[.val (.long sd), .second, .val (.int r), .unset, .unset, .val (.long z3), .second] [(.long (z3 ^^^ ((z3.toUInt64 >>> ((30 : Int32) &&& 0x3f).toInt64.toUInt64).toInt64)))])) _
    refine X0.ldc2Long hx hown (mvT hZ (hw _ (List.mem_of_getElem? (i := 10) rfl))) (g := (mkF m 49 #[.val (.long sd), .second, .val (.int r), .unset, .unset, .val (.long z3), .second] [(.long (z3 ^^^ ((z3.toUInt64 >>> ((30 : Int32) &&& 0x3f).toInt64.toUInt64).toInt64)))])) rfl (hb hby d2_49) _ ?_
    show Steps p.tables e below (s₁.setTop (mkF m 52 #[.val (.long sd), .second, .val (.int r), .unset, .unset, .val (.long z3), .second] [(.long (-4658895280553007687 : Int64)), (.long (z3 ^^^ ((z3.toUInt64 >>> ((30 : Int32) &&& 0x3f).toInt64.toUInt64).toInt64)))])) _
    refine XS.lmul X0.here hx rfl (hb hby d2_52) rfl ?_
    show Steps p.tables e below (s₁.setTop (mkF m 53 #[.val (.long sd), .second, .val (.int r), .unset, .unset, .val (.long z3), .second] [(.long ((z3 ^^^ ((z3.toUInt64 >>> ((30 : Int32) &&& 0x3f).toInt64.toUInt64).toInt64)) * (-4658895280553007687 : Int64)))])) _
    refine XS.lstore X0.here hx rfl (hb hby d2_53) rfl (l' := #[.val (.long sd), .second, .val (.int r), .unset, .unset, .val (.long ((z3 ^^^ ((z3.toUInt64 >>> ((30 : Int32) &&& 0x3f).toInt64.toUInt64).toInt64)) * (-4658895280553007687 : Int64))), .second]) rfl ?_
    show Steps p.tables e below (s₁.setTop (mkF m 55 #[.val (.long sd), .second, .val (.int r), .unset, .unset, .val (.long ((z3 ^^^ ((z3.toUInt64 >>> ((30 : Int32) &&& 0x3f).toInt64.toUInt64).toInt64)) * (-4658895280553007687 : Int64))), .second] [])) _
    rw [← ez4]
    show Steps p.tables e below (s₁.setTop (mkF m 55 #[.val (.long sd), .second, .val (.int r), .unset, .unset, .val (.long z4), .second] [])) _
    refine XS.lload X0.here hx rfl (hb hby d2_55) rfl ?_
    show Steps p.tables e below (s₁.setTop (mkF m 57 #[.val (.long sd), .second, .val (.int r), .unset, .unset, .val (.long z4), .second] [(.long z4)])) _
    refine XS.lload X0.here hx rfl (hb hby d2_57) rfl ?_
    show Steps p.tables e below (s₁.setTop (mkF m 59 #[.val (.long sd), .second, .val (.int r), .unset, .unset, .val (.long z4), .second] [(.long z4), (.long z4)])) _
    refine XS.bipush X0.here hx rfl (hb hby d2_59) ?_
    show Steps p.tables e below (s₁.setTop (mkF m 61 #[.val (.long sd), .second, .val (.int r), .unset, .unset, .val (.long z4), .second] [(.int (27 : Int32)), (.long z4), (.long z4)])) _
    refine XS.lushr X0.here hx rfl (hb hby d2_61) rfl ?_
    show Steps p.tables e below (s₁.setTop (mkF m 62 #[.val (.long sd), .second, .val (.int r), .unset, .unset, .val (.long z4), .second] [(.long ((z4.toUInt64 >>> ((27 : Int32) &&& 0x3f).toInt64.toUInt64).toInt64)), (.long z4)])) _
    refine XS.lxor X0.here hx rfl (hb hby d2_62) rfl ?_
    show Steps p.tables e below (s₁.setTop (mkF m 63 #[.val (.long sd), .second, .val (.int r), .unset, .unset, .val (.long z4), .second] [(.long (z4 ^^^ ((z4.toUInt64 >>> ((27 : Int32) &&& 0x3f).toInt64.toUInt64).toInt64)))])) _
    refine X0.ldc2Long hx hown (mvT hZ (hw _ (List.mem_of_getElem? (i := 11) rfl))) (g := (mkF m 63 #[.val (.long sd), .second, .val (.int r), .unset, .unset, .val (.long z4), .second] [(.long (z4 ^^^ ((z4.toUInt64 >>> ((27 : Int32) &&& 0x3f).toInt64.toUInt64).toInt64)))])) rfl (hb hby d2_63) _ ?_
    show Steps p.tables e below (s₁.setTop (mkF m 66 #[.val (.long sd), .second, .val (.int r), .unset, .unset, .val (.long z4), .second] [(.long (-7723592293110705685 : Int64)), (.long (z4 ^^^ ((z4.toUInt64 >>> ((27 : Int32) &&& 0x3f).toInt64.toUInt64).toInt64)))])) _
    refine XS.lmul X0.here hx rfl (hb hby d2_66) rfl ?_
    show Steps p.tables e below (s₁.setTop (mkF m 67 #[.val (.long sd), .second, .val (.int r), .unset, .unset, .val (.long z4), .second] [(.long ((z4 ^^^ ((z4.toUInt64 >>> ((27 : Int32) &&& 0x3f).toInt64.toUInt64).toInt64)) * (-7723592293110705685 : Int64)))])) _
    refine XS.lstore X0.here hx rfl (hb hby d2_67) rfl (l' := #[.val (.long sd), .second, .val (.int r), .unset, .unset, .val (.long ((z4 ^^^ ((z4.toUInt64 >>> ((27 : Int32) &&& 0x3f).toInt64.toUInt64).toInt64)) * (-7723592293110705685 : Int64))), .second]) rfl ?_
    show Steps p.tables e below (s₁.setTop (mkF m 69 #[.val (.long sd), .second, .val (.int r), .unset, .unset, .val (.long ((z4 ^^^ ((z4.toUInt64 >>> ((27 : Int32) &&& 0x3f).toInt64.toUInt64).toInt64)) * (-7723592293110705685 : Int64))), .second] [])) _
    rw [← ez5]
    show Steps p.tables e below (s₁.setTop (mkF m 69 #[.val (.long sd), .second, .val (.int r), .unset, .unset, .val (.long z5), .second] [])) _
    refine XS.lload X0.here hx rfl (hb hby d2_69) rfl ?_
    show Steps p.tables e below (s₁.setTop (mkF m 71 #[.val (.long sd), .second, .val (.int r), .unset, .unset, .val (.long z5), .second] [(.long z5)])) _
    refine XS.lload X0.here hx rfl (hb hby d2_71) rfl ?_
    show Steps p.tables e below (s₁.setTop (mkF m 73 #[.val (.long sd), .second, .val (.int r), .unset, .unset, .val (.long z5), .second] [(.long z5), (.long z5)])) _
    refine XS.bipush X0.here hx rfl (hb hby d2_73) ?_
    show Steps p.tables e below (s₁.setTop (mkF m 75 #[.val (.long sd), .second, .val (.int r), .unset, .unset, .val (.long z5), .second] [(.int (31 : Int32)), (.long z5), (.long z5)])) _
    refine XS.lushr X0.here hx rfl (hb hby d2_75) rfl ?_
    show Steps p.tables e below (s₁.setTop (mkF m 76 #[.val (.long sd), .second, .val (.int r), .unset, .unset, .val (.long z5), .second] [(.long ((z5.toUInt64 >>> ((31 : Int32) &&& 0x3f).toInt64.toUInt64).toInt64)), (.long z5)])) _
    refine XS.lxor X0.here hx rfl (hb hby d2_76) rfl ?_
    show Steps p.tables e below (s₁.setTop (mkF m 77 #[.val (.long sd), .second, .val (.int r), .unset, .unset, .val (.long z5), .second] [(.long (z5 ^^^ ((z5.toUInt64 >>> ((31 : Int32) &&& 0x3f).toInt64.toUInt64).toInt64)))])) _
    refine XS.iconst X0.here hx rfl (hb hby d2_77) ?_
    show Steps p.tables e below (s₁.setTop (mkF m 78 #[.val (.long sd), .second, .val (.int r), .unset, .unset, .val (.long z5), .second] [(.int (1 : Int32)), (.long (z5 ^^^ ((z5.toUInt64 >>> ((31 : Int32) &&& 0x3f).toInt64.toUInt64).toInt64)))])) _
    refine XS.lushr X0.here hx rfl (hb hby d2_78) rfl ?_
    show Steps p.tables e below (s₁.setTop (mkF m 79 #[.val (.long sd), .second, .val (.int r), .unset, .unset, .val (.long z5), .second] [(.long (((z5 ^^^ ((z5.toUInt64 >>> ((31 : Int32) &&& 0x3f).toInt64.toUInt64).toInt64)).toUInt64 >>> ((1 : Int32) &&& 0x3f).toInt64.toUInt64).toInt64))])) _
    refine XS.lstoreN X0.here hx rfl (hb hby d2_79) rfl (l' := #[.val (.long sd), .second, .val (.int r), .val (.long (((z5 ^^^ ((z5.toUInt64 >>> ((31 : Int32) &&& 0x3f).toInt64.toUInt64).toInt64)).toUInt64 >>> ((1 : Int32) &&& 0x3f).toInt64.toUInt64).toInt64)), .second, .val (.long z5), .second]) rfl ?_
    show Steps p.tables e below (s₁.setTop (mkF m 80 #[.val (.long sd), .second, .val (.int r), .val (.long (((z5 ^^^ ((z5.toUInt64 >>> ((31 : Int32) &&& 0x3f).toInt64.toUInt64).toInt64)).toUInt64 >>> ((1 : Int32) &&& 0x3f).toInt64.toUInt64).toInt64)), .second, .val (.long z5), .second] [])) _
    rw [← ez6]
    show Steps p.tables e below (s₁.setTop (mkF m 80 #[.val (.long sd), .second, .val (.int r), .val (.long z6), .second, .val (.long z5), .second] [])) _
    refine XS.lloadN X0.here hx rfl (hb hby d2_80) rfl ?_
    show Steps p.tables e below (s₁.setTop (mkF m 81 #[.val (.long sd), .second, .val (.int r), .val (.long z6), .second, .val (.long z5), .second] [(.long z6)])) _
    exact kt
  obtain ⟨fs, hr, hrun, hended, hW, hsame⟩ := X0.leave (v := some (.long z6)) (fun h => by rw [Bd.returns] at h; cases h)
  refine ⟨_, _, k7 _ ?_, hrun, hended, _, _, rfl, ?_, ⟨_, rfl⟩, hW, hsame.mono (by decide) (by decide)⟩
  · exact own_retJ X0 hx Bd.returns (hb hby d2_81) hr
  · show QV _ h0 n0 _ s₁.heap _
    exact ⟨by subst ez3 ez4 ez5 ez6; simp only [ofRunS, mixy, U], N0, e0⟩
theorem d3_0 : decode method_2_code 0 = .ok (.lload_n 0, 1) := by decide +kernel
theorem d3_1 : decode method_2_code 1 = .ok (.lload_n 0, 1) := by decide +kernel
theorem d3_2 : decode method_2_code 2 = .ok (.bipush 31, 2) := by decide +kernel
theorem d3_4 : decode method_2_code 4 = .ok (.lushr, 1) := by decide +kernel
theorem d3_5 : decode method_2_code 5 = .ok (.lxor, 1) := by decide +kernel
theorem d3_6 : decode method_2_code 6 = .ok (.lload_n 0, 1) := by decide +kernel
theorem d3_7 : decode method_2_code 7 = .ok (.bipush 62, 2) := by decide +kernel
theorem d3_9 : decode method_2_code 9 = .ok (.lushr, 1) := by decide +kernel
theorem d3_10 : decode method_2_code 10 = .ok (.lxor, 1) := by decide +kernel
theorem d3_11 : decode method_2_code 11 = .ok (.ldc2_w 7, 3) := by decide +kernel
theorem d3_14 : decode method_2_code 14 = .ok (.lmul, 1) := by decide +kernel
theorem d3_15 : decode method_2_code 15 = .ok (.lstore_n 2, 1) := by decide +kernel
theorem d3_16 : decode method_2_code 16 = .ok (.lload_n 2, 1) := by decide +kernel
theorem d3_17 : decode method_2_code 17 = .ok (.lload_n 2, 1) := by decide +kernel
theorem d3_18 : decode method_2_code 18 = .ok (.bipush 27, 2) := by decide +kernel
theorem d3_20 : decode method_2_code 20 = .ok (.lushr, 1) := by decide +kernel
theorem d3_21 : decode method_2_code 21 = .ok (.lxor, 1) := by decide +kernel
theorem d3_22 : decode method_2_code 22 = .ok (.lload_n 2, 1) := by decide +kernel
theorem d3_23 : decode method_2_code 23 = .ok (.bipush 54, 2) := by decide +kernel
theorem d3_25 : decode method_2_code 25 = .ok (.lushr, 1) := by decide +kernel
theorem d3_26 : decode method_2_code 26 = .ok (.lxor, 1) := by decide +kernel
theorem d3_27 : decode method_2_code 27 = .ok (.ldc2_w 9, 3) := by decide +kernel
theorem d3_30 : decode method_2_code 30 = .ok (.lmul, 1) := by decide +kernel
theorem d3_31 : decode method_2_code 31 = .ok (.lstore_n 2, 1) := by decide +kernel
theorem d3_32 : decode method_2_code 32 = .ok (.lload_n 2, 1) := by decide +kernel
theorem d3_33 : decode method_2_code 33 = .ok (.lload_n 2, 1) := by decide +kernel
theorem d3_34 : decode method_2_code 34 = .ok (.bipush 30, 2) := by decide +kernel
theorem d3_36 : decode method_2_code 36 = .ok (.lushr, 1) := by decide +kernel
theorem d3_37 : decode method_2_code 37 = .ok (.lxor, 1) := by decide +kernel
theorem d3_38 : decode method_2_code 38 = .ok (.lload_n 2, 1) := by decide +kernel
theorem d3_39 : decode method_2_code 39 = .ok (.bipush 60, 2) := by decide +kernel
theorem d3_41 : decode method_2_code 41 = .ok (.lushr, 1) := by decide +kernel
theorem d3_42 : decode method_2_code 42 = .ok (.lxor, 1) := by decide +kernel
theorem d3_43 : decode method_2_code 43 = .ok (.lreturn, 1) := by decide +kernel
theorem pn_3 : plainName "com/example/lifetable/lifetable/run/SeedsOfRunPinLaw" = true := by first | (simp [plainName, overriddenIn]; done) | decide +kernel
theorem ef_rm3 (m : MethodId) (y : Int64) : entryFrame m #[(.long y)] 4 = mkF m 0 #[.val (.long y), .second, .unset, .unset] [] := by first | (simp [entryFrame, mkF, argsToLocals, Value.category]; done) | rfl
set_option maxRecDepth 65536 in
set_option maxHeartbeats 40000000 in
theorem rm3 (l : Launch) (Z : State) (a0 : Array Value) (hw : ∀ d ∈ tables_1, d.before a0 Z = true) (ws : List Jvm.Cond) (y : Int64)  (h0 : Heap) (n0 : Nat)  :
    MetFree l (⟨"com/example/lifetable/lifetable/run/SeedsOfRunPinLaw", "unmix", "(J)J"⟩ : MethodName) (head1 (Jvm.Cond.code (⟨"com/example/lifetable/lifetable/run/SeedsOfRunPinLaw", "unmix", "(J)J"⟩ : MethodName) method_2_code 4 (some .long) :: ws) ({ frames := 0, cells := 0, slots := 0, locals := 0 } : Room)) (fun a_ U_ => a_ = #[(.long y)] ∧ Z.Warmed39 U_.vm ∧ U_.heap = h0) (fun _ _ _ _ _ => True) (fun _ U_ o_ U'_ => ∃ v_ L_, o_ = .returned v_ ∧ QV (.long (unmixy y)) h0 n0 v_ U'_.heap L_ ∧ FrameEnd U_ o_ U'_ L_ ({ frames := 0, cells := 0, slots := 0, locals := 0 } : Room).cells ({ frames := 0, cells := 0, slots := 0, locals := 0 } : Room).slots) := by
  refine MetFree.of_bodySF (plainFor_of_name pn_3) hisR ?_
  intro p e s m args below meth c s₁ Bd hml0 hP hK
  obtain ⟨rfl, hZ, hh⟩ := hP
  have hx := Bd.exec
  have hby := Bd.bytes
  have hml : c.maxLocals = 4 := hml0
  have hown : s.vm.findClass "com/example/lifetable/lifetable/run/SeedsOfRunPinLaw" = some m.cls := findClass_of_methodNamed Bd.named
  have hnm := (name_of_methodNamed Bd.named Bd.method).1
  have X0 : Stand p l e ({ frames := 0, cells := 0, slots := 0, locals := 0 } : Room) s m #[(.long y)] below meth c s₁ [] 0 0 := Stand.of_body Bd
  have e0 : s₁.heap = h0 := by rw [← hh, Bd.state]; rfl
  have N0 := Fr.nil n0
  have k0 : ∀ tg, Steps p.tables e below (s₁.setTop (mkF m 0 #[.val (.long y), .second, .unset, .unset] [])) tg → Steps p.tables e below (s₁.setTop (entryFrame m #[(.long y)] 4)) tg := fun tg k => castTop (ef_rm3 m y) k
  obtain ⟨z1, ez1⟩ : ∃ z : Int64, z = (((y ^^^ ((y.toUInt64 >>> ((31 : Int32) &&& 0x3f).toInt64.toUInt64).toInt64)) ^^^ ((y.toUInt64 >>> ((62 : Int32) &&& 0x3f).toInt64.toUInt64).toInt64)) * (3573116690164977347 : Int64)) := ⟨_, rfl⟩
  obtain ⟨z2, ez2⟩ : ∃ z : Int64, z = (((z1 ^^^ ((z1.toUInt64 >>> ((27 : Int32) &&& 0x3f).toInt64.toUInt64).toInt64)) ^^^ ((z1.toUInt64 >>> ((54 : Int32) &&& 0x3f).toInt64.toUInt64).toInt64)) * (-7575587736534282103 : Int64)) := ⟨_, rfl⟩
  have k3 : ∀ tg, Steps p.tables e below (s₁.setTop (mkF m 43 #[.val (.long y), .second, .val (.long z2), .second] [(.long ((z2 ^^^ ((z2.toUInt64 >>> ((30 : Int32) &&& 0x3f).toInt64.toUInt64).toInt64)) ^^^ ((z2.toUInt64 >>> ((60 : Int32) &&& 0x3f).toInt64.toUInt64).toInt64)))])) tg → Steps p.tables e below (s₁.setTop (entryFrame m #[(.long y)] 4)) tg := by
    intro tg kt
    refine k0 tg ?_
    show Steps p.tables e below (s₁.setTop (mkF m 0 #[.val (.long y), .second, .unset, .unset] [])) _
    refine XS.lloadN X0.here hx rfl (hb hby d3_0) rfl ?_
    show Steps p.tables e below (s₁.setTop (mkF m 1 #[.val (.long y), .second, .unset, .unset] [(.long y)])) _
    refine XS.lloadN X0.here hx rfl (hb hby d3_1) rfl ?_
    show Steps p.tables e below (s₁.setTop (mkF m 2 #[.val (.long y), .second, .unset, .unset] [(.long y), (.long y)])) _
    refine XS.bipush X0.here hx rfl (hb hby d3_2) ?_
    show Steps p.tables e below (s₁.setTop (mkF m 4 #[.val (.long y), .second, .unset, .unset] [(.int (31 : Int32)), (.long y), (.long y)])) _
    refine XS.lushr X0.here hx rfl (hb hby d3_4) rfl ?_
    show Steps p.tables e below (s₁.setTop (mkF m 5 #[.val (.long y), .second, .unset, .unset] [(.long ((y.toUInt64 >>> ((31 : Int32) &&& 0x3f).toInt64.toUInt64).toInt64)), (.long y)])) _
    refine XS.lxor X0.here hx rfl (hb hby d3_5) rfl ?_
    show Steps p.tables e below (s₁.setTop (mkF m 6 #[.val (.long y), .second, .unset, .unset] [(.long (y ^^^ ((y.toUInt64 >>> ((31 : Int32) &&& 0x3f).toInt64.toUInt64).toInt64)))])) _
    refine XS.lloadN X0.here hx rfl (hb hby d3_6) rfl ?_
    show Steps p.tables e below (s₁.setTop (mkF m 7 #[.val (.long y), .second, .unset, .unset] [(.long y), (.long (y ^^^ ((y.toUInt64 >>> ((31 : Int32) &&& 0x3f).toInt64.toUInt64).toInt64)))])) _
    refine XS.bipush X0.here hx rfl (hb hby d3_7) ?_
    show Steps p.tables e below (s₁.setTop (mkF m 9 #[.val (.long y), .second, .unset, .unset] [(.int (62 : Int32)), (.long y), (.long (y ^^^ ((y.toUInt64 >>> ((31 : Int32) &&& 0x3f).toInt64.toUInt64).toInt64)))])) _
    refine XS.lushr X0.here hx rfl (hb hby d3_9) rfl ?_
    show Steps p.tables e below (s₁.setTop (mkF m 10 #[.val (.long y), .second, .unset, .unset] [(.long ((y.toUInt64 >>> ((62 : Int32) &&& 0x3f).toInt64.toUInt64).toInt64)), (.long (y ^^^ ((y.toUInt64 >>> ((31 : Int32) &&& 0x3f).toInt64.toUInt64).toInt64)))])) _
    refine XS.lxor X0.here hx rfl (hb hby d3_10) rfl ?_
    show Steps p.tables e below (s₁.setTop (mkF m 11 #[.val (.long y), .second, .unset, .unset] [(.long ((y ^^^ ((y.toUInt64 >>> ((31 : Int32) &&& 0x3f).toInt64.toUInt64).toInt64)) ^^^ ((y.toUInt64 >>> ((62 : Int32) &&& 0x3f).toInt64.toUInt64).toInt64)))])) _
    refine X0.ldc2Long hx hown (mvT hZ (hw _ (List.mem_of_getElem? (i := 17) rfl))) (g := (mkF m 11 #[.val (.long y), .second, .unset, .unset] [(.long ((y ^^^ ((y.toUInt64 >>> ((31 : Int32) &&& 0x3f).toInt64.toUInt64).toInt64)) ^^^ ((y.toUInt64 >>> ((62 : Int32) &&& 0x3f).toInt64.toUInt64).toInt64)))])) rfl (hb hby d3_11) _ ?_
    show Steps p.tables e below (s₁.setTop (mkF m 14 #[.val (.long y), .second, .unset, .unset] [(.long (3573116690164977347 : Int64)), (.long ((y ^^^ ((y.toUInt64 >>> ((31 : Int32) &&& 0x3f).toInt64.toUInt64).toInt64)) ^^^ ((y.toUInt64 >>> ((62 : Int32) &&& 0x3f).toInt64.toUInt64).toInt64)))])) _
    refine XS.lmul X0.here hx rfl (hb hby d3_14) rfl ?_
    show Steps p.tables e below (s₁.setTop (mkF m 15 #[.val (.long y), .second, .unset, .unset] [(.long (((y ^^^ ((y.toUInt64 >>> ((31 : Int32) &&& 0x3f).toInt64.toUInt64).toInt64)) ^^^ ((y.toUInt64 >>> ((62 : Int32) &&& 0x3f).toInt64.toUInt64).toInt64)) * (3573116690164977347 : Int64)))])) _
    refine XS.lstoreN X0.here hx rfl (hb hby d3_15) rfl (l' := #[.val (.long y), .second, .val (.long (((y ^^^ ((y.toUInt64 >>> ((31 : Int32) &&& 0x3f).toInt64.toUInt64).toInt64)) ^^^ ((y.toUInt64 >>> ((62 : Int32) &&& 0x3f).toInt64.toUInt64).toInt64)) * (3573116690164977347 : Int64))), .second]) rfl ?_
    show Steps p.tables e below (s₁.setTop (mkF m 16 #[.val (.long y), .second, .val (.long (((y ^^^ ((y.toUInt64 >>> ((31 : Int32) &&& 0x3f).toInt64.toUInt64).toInt64)) ^^^ ((y.toUInt64 >>> ((62 : Int32) &&& 0x3f).toInt64.toUInt64).toInt64)) * (3573116690164977347 : Int64))), .second] [])) _
    rw [← ez1]
    show Steps p.tables e below (s₁.setTop (mkF m 16 #[.val (.long y), .second, .val (.long z1), .second] [])) _
    refine XS.lloadN X0.here hx rfl (hb hby d3_16) rfl ?_
    show Steps p.tables e below (s₁.setTop (mkF m 17 #[.val (.long y), .second, .val (.long z1), .second] [(.long z1)])) _
    refine XS.lloadN X0.here hx rfl (hb hby d3_17) rfl ?_
    show Steps p.tables e below (s₁.setTop (mkF m 18 #[.val (.long y), .second, .val (.long z1), .second] [(.long z1), (.long z1)])) _
    refine XS.bipush X0.here hx rfl (hb hby d3_18) ?_
    show Steps p.tables e below (s₁.setTop (mkF m 20 #[.val (.long y), .second, .val (.long z1), .second] [(.int (27 : Int32)), (.long z1), (.long z1)])) _
    refine XS.lushr X0.here hx rfl (hb hby d3_20) rfl ?_
    show Steps p.tables e below (s₁.setTop (mkF m 21 #[.val (.long y), .second, .val (.long z1), .second] [(.long ((z1.toUInt64 >>> ((27 : Int32) &&& 0x3f).toInt64.toUInt64).toInt64)), (.long z1)])) _
    refine XS.lxor X0.here hx rfl (hb hby d3_21) rfl ?_
    show Steps p.tables e below (s₁.setTop (mkF m 22 #[.val (.long y), .second, .val (.long z1), .second] [(.long (z1 ^^^ ((z1.toUInt64 >>> ((27 : Int32) &&& 0x3f).toInt64.toUInt64).toInt64)))])) _
    refine XS.lloadN X0.here hx rfl (hb hby d3_22) rfl ?_
    show Steps p.tables e below (s₁.setTop (mkF m 23 #[.val (.long y), .second, .val (.long z1), .second] [(.long z1), (.long (z1 ^^^ ((z1.toUInt64 >>> ((27 : Int32) &&& 0x3f).toInt64.toUInt64).toInt64)))])) _
    refine XS.bipush X0.here hx rfl (hb hby d3_23) ?_
    show Steps p.tables e below (s₁.setTop (mkF m 25 #[.val (.long y), .second, .val (.long z1), .second] [(.int (54 : Int32)), (.long z1), (.long (z1 ^^^ ((z1.toUInt64 >>> ((27 : Int32) &&& 0x3f).toInt64.toUInt64).toInt64)))])) _
    refine XS.lushr X0.here hx rfl (hb hby d3_25) rfl ?_
    show Steps p.tables e below (s₁.setTop (mkF m 26 #[.val (.long y), .second, .val (.long z1), .second] [(.long ((z1.toUInt64 >>> ((54 : Int32) &&& 0x3f).toInt64.toUInt64).toInt64)), (.long (z1 ^^^ ((z1.toUInt64 >>> ((27 : Int32) &&& 0x3f).toInt64.toUInt64).toInt64)))])) _
    refine XS.lxor X0.here hx rfl (hb hby d3_26) rfl ?_
    show Steps p.tables e below (s₁.setTop (mkF m 27 #[.val (.long y), .second, .val (.long z1), .second] [(.long ((z1 ^^^ ((z1.toUInt64 >>> ((27 : Int32) &&& 0x3f).toInt64.toUInt64).toInt64)) ^^^ ((z1.toUInt64 >>> ((54 : Int32) &&& 0x3f).toInt64.toUInt64).toInt64)))])) _
    refine X0.ldc2Long hx hown (mvT hZ (hw _ (List.mem_of_getElem? (i := 18) rfl))) (g := (mkF m 27 #[.val (.long y), .second, .val (.long z1), .second] [(.long ((z1 ^^^ ((z1.toUInt64 >>> ((27 : Int32) &&& 0x3f).toInt64.toUInt64).toInt64)) ^^^ ((z1.toUInt64 >>> ((54 : Int32) &&& 0x3f).toInt64.toUInt64).toInt64)))])) rfl (hb hby d3_27) _ ?_
    show Steps p.tables e below (s₁.setTop (mkF m 30 #[.val (.long y), .second, .val (.long z1), .second] [(.long (-7575587736534282103 : Int64)), (.long ((z1 ^^^ ((z1.toUInt64 >>> ((27 : Int32) &&& 0x3f).toInt64.toUInt64).toInt64)) ^^^ ((z1.toUInt64 >>> ((54 : Int32) &&& 0x3f).toInt64.toUInt64).toInt64)))])) _
    refine XS.lmul X0.here hx rfl (hb hby d3_30) rfl ?_
    show Steps p.tables e below (s₁.setTop (mkF m 31 #[.val (.long y), .second, .val (.long z1), .second] [(.long (((z1 ^^^ ((z1.toUInt64 >>> ((27 : Int32) &&& 0x3f).toInt64.toUInt64).toInt64)) ^^^ ((z1.toUInt64 >>> ((54 : Int32) &&& 0x3f).toInt64.toUInt64).toInt64)) * (-7575587736534282103 : Int64)))])) _
    refine XS.lstoreN X0.here hx rfl (hb hby d3_31) rfl (l' := #[.val (.long y), .second, .val (.long (((z1 ^^^ ((z1.toUInt64 >>> ((27 : Int32) &&& 0x3f).toInt64.toUInt64).toInt64)) ^^^ ((z1.toUInt64 >>> ((54 : Int32) &&& 0x3f).toInt64.toUInt64).toInt64)) * (-7575587736534282103 : Int64))), .second]) rfl ?_
    show Steps p.tables e below (s₁.setTop (mkF m 32 #[.val (.long y), .second, .val (.long (((z1 ^^^ ((z1.toUInt64 >>> ((27 : Int32) &&& 0x3f).toInt64.toUInt64).toInt64)) ^^^ ((z1.toUInt64 >>> ((54 : Int32) &&& 0x3f).toInt64.toUInt64).toInt64)) * (-7575587736534282103 : Int64))), .second] [])) _
    rw [← ez2]
    show Steps p.tables e below (s₁.setTop (mkF m 32 #[.val (.long y), .second, .val (.long z2), .second] [])) _
    refine XS.lloadN X0.here hx rfl (hb hby d3_32) rfl ?_
    show Steps p.tables e below (s₁.setTop (mkF m 33 #[.val (.long y), .second, .val (.long z2), .second] [(.long z2)])) _
    refine XS.lloadN X0.here hx rfl (hb hby d3_33) rfl ?_
    show Steps p.tables e below (s₁.setTop (mkF m 34 #[.val (.long y), .second, .val (.long z2), .second] [(.long z2), (.long z2)])) _
    refine XS.bipush X0.here hx rfl (hb hby d3_34) ?_
    show Steps p.tables e below (s₁.setTop (mkF m 36 #[.val (.long y), .second, .val (.long z2), .second] [(.int (30 : Int32)), (.long z2), (.long z2)])) _
    refine XS.lushr X0.here hx rfl (hb hby d3_36) rfl ?_
    show Steps p.tables e below (s₁.setTop (mkF m 37 #[.val (.long y), .second, .val (.long z2), .second] [(.long ((z2.toUInt64 >>> ((30 : Int32) &&& 0x3f).toInt64.toUInt64).toInt64)), (.long z2)])) _
    refine XS.lxor X0.here hx rfl (hb hby d3_37) rfl ?_
    show Steps p.tables e below (s₁.setTop (mkF m 38 #[.val (.long y), .second, .val (.long z2), .second] [(.long (z2 ^^^ ((z2.toUInt64 >>> ((30 : Int32) &&& 0x3f).toInt64.toUInt64).toInt64)))])) _
    refine XS.lloadN X0.here hx rfl (hb hby d3_38) rfl ?_
    show Steps p.tables e below (s₁.setTop (mkF m 39 #[.val (.long y), .second, .val (.long z2), .second] [(.long z2), (.long (z2 ^^^ ((z2.toUInt64 >>> ((30 : Int32) &&& 0x3f).toInt64.toUInt64).toInt64)))])) _
    refine XS.bipush X0.here hx rfl (hb hby d3_39) ?_
    show Steps p.tables e below (s₁.setTop (mkF m 41 #[.val (.long y), .second, .val (.long z2), .second] [(.int (60 : Int32)), (.long z2), (.long (z2 ^^^ ((z2.toUInt64 >>> ((30 : Int32) &&& 0x3f).toInt64.toUInt64).toInt64)))])) _
    refine XS.lushr X0.here hx rfl (hb hby d3_41) rfl ?_
    show Steps p.tables e below (s₁.setTop (mkF m 42 #[.val (.long y), .second, .val (.long z2), .second] [(.long ((z2.toUInt64 >>> ((60 : Int32) &&& 0x3f).toInt64.toUInt64).toInt64)), (.long (z2 ^^^ ((z2.toUInt64 >>> ((30 : Int32) &&& 0x3f).toInt64.toUInt64).toInt64)))])) _
    refine XS.lxor X0.here hx rfl (hb hby d3_42) rfl ?_
    show Steps p.tables e below (s₁.setTop (mkF m 43 #[.val (.long y), .second, .val (.long z2), .second] [(.long ((z2 ^^^ ((z2.toUInt64 >>> ((30 : Int32) &&& 0x3f).toInt64.toUInt64).toInt64)) ^^^ ((z2.toUInt64 >>> ((60 : Int32) &&& 0x3f).toInt64.toUInt64).toInt64)))])) _
    exact kt
  obtain ⟨fs, hr, hrun, hended, hW, hsame⟩ := X0.leave (v := some (.long ((z2 ^^^ ((z2.toUInt64 >>> ((30 : Int32) &&& 0x3f).toInt64.toUInt64).toInt64)) ^^^ ((z2.toUInt64 >>> ((60 : Int32) &&& 0x3f).toInt64.toUInt64).toInt64)))) (fun h => by rw [Bd.returns] at h; cases h)
  refine ⟨_, _, k3 _ ?_, hrun, hended, _, _, rfl, ?_, ⟨_, rfl⟩, hW, hsame.mono (by decide) (by decide)⟩
  · exact own_retJ X0 hx Bd.returns (hb hby d3_43) hr
  · show QV _ h0 n0 _ s₁.heap _
    exact ⟨by subst ez1 ez2; simp only [unmixy, U], N0, e0⟩
theorem own_rge (x r : Int32) (h : r = (if (1 : Int32) < x then x else (1 : Int32))) : ¬ (r < (1 : Int32)) := by
  subst h
  split
  · rename_i q; rw [Int32.lt_iff_toInt_lt] at q ⊢; omega
  · decide
theorem own_law (sd : Int64) (r : Int32) (s d u1 u2 : Int64) (es : s = sd + (r - 1).toInt64 * (-7046029254386353131 : Int64)) (ed : d = U 1 (mixy s)) (e1 : u1 = unmixy (d <<< ((1 : Int32) &&& 0x3f).toInt64)) (e2 : u2 = unmixy ((d <<< ((1 : Int32) &&& 0x3f).toInt64) ||| 1)) (h : ¬ u1 = s) : u2 = s := by
  subst ed
  rcases own_low (mixy s) with q | q
  · exact absurd (by rw [e1, q, own_unmix]) h
  · rw [e2, q, own_unmix]
theorem pn_0 : plainName "com/example/lifetable/lifetable/run/SeedsOfRunPinLaw" = true := by first | (simp [plainName, overriddenIn]; done) | decide +kernel
theorem pd_0 : parseMethodDescriptor "(II)I" = some ⟨[.int, .int], some .int⟩ := by decide +kernel
theorem pd_1 : parseMethodDescriptor "(JI)J" = some ⟨[.long, .int], some .long⟩ := by decide +kernel
theorem pd_2 : parseMethodDescriptor "(J)J" = some ⟨[.long], some .long⟩ := by decide +kernel
theorem ef_rm0 (m : MethodId) (sd : Int64) (run : Int32) : entryFrame m #[(.long sd), (.int run)] maxLocals = mkF m 0 #[.val (.long sd), .second, .val (.int run), .unset, .unset, .unset, .unset, .unset, .unset, .unset] [] := by first | (simp [entryFrame, mkF, argsToLocals, Value.category, maxLocals]; done) | rfl
set_option maxRecDepth 65536 in
set_option maxHeartbeats 40000000 in
theorem rm0 (l : Launch) (Z : State) (a0 : Array Value) (hw : ∀ d ∈ tables_1, d.before a0 Z = true) (ws : List Jvm.Cond) (sd : Int64) (run : Int32)  (h0 : Heap) (n0 : Nat)  :
    MetFree l x (head1 (Jvm.Cond.code x code maxLocals ret :: ws) room_1) (fun a_ U_ => a_ = #[(.long sd), (.int run)] ∧ Z.Warmed39 U_.vm ∧ U_.heap = h0) (fun _ _ _ _ _ => True) (fun _ U_ o_ U'_ => ∃ v_ L_, o_ = .returned v_ ∧ QL n0 v_ U'_.heap L_ ∧ FrameEnd U_ o_ U'_ L_ room_1.cells room_1.slots) := by
  refine MetFree.of_bodySF (plainFor_of_name pn_0) hisR ?_
  intro p e s m args below meth c s₁ Bd hml0 hP hK
  obtain ⟨rfl, hZ, hh⟩ := hP
  have hx := Bd.exec
  have hby := Bd.bytes
  have hml : c.maxLocals = 10 := hml0
  have hown : s.vm.findClass "com/example/lifetable/lifetable/run/SeedsOfRunPinLaw" = some m.cls := findClass_of_methodNamed Bd.named
  have hnm := (name_of_methodNamed Bd.named Bd.method).1
  have X0 : Stand p l e room_1 s m #[(.long sd), (.int run)] below meth c s₁ [] 0 0 := Stand.of_body Bd
  have e0 : s₁.heap = h0 := by rw [← hh, Bd.state]; rfl
  have N0 := Fr.nil n0
  have k0 : ∀ tg, Steps p.tables e below (s₁.setTop (mkF m 0 #[.val (.long sd), .second, .val (.int run), .unset, .unset, .unset, .unset, .unset, .unset, .unset] [])) tg → Steps p.tables e below (s₁.setTop (entryFrame m #[(.long sd), (.int run)] maxLocals)) tg := fun tg k => castTop (ef_rm0 m sd run) k
  obtain ⟨_, _, ⟨T1, L1, k1, n1⟩, -, X1, ⟨Lc1, hQ1, l1, y1, z1⟩, st1⟩ := Jvm.LawKit.callS X0 hx (y := (⟨"java/lang/Math", "max", "(II)I"⟩ : MethodName)) hown (mvT hZ (hw _ (List.mem_of_getElem? (i := 1) rfl))) (mvT hZ (hw _ (List.mem_of_getElem? (i := 2) rfl))) (mvT hZ (hw _ (List.mem_of_getElem? (i := 3) rfl))) (mvT hZ (hw _ (List.mem_of_getElem? (i := 4) rfl))) (by decide) (backOf (W := 0) (rm1 l Z a0 hw [] (1 : Int32) (run &&& (2147483647 : Int32))  h0 n0 ) hZ (hw _ (List.mem_of_getElem? (i := 4) rfl)) (hw _ (List.mem_of_getElem? (i := 3) rfl)) (by decide) (by decide)) (g := (mkF m 5 #[.val (.long sd), .second, .val (.int run), .unset, .unset, .unset, .unset, .unset, .unset, .unset] [(.int (run &&& (2147483647 : Int32))), (.int (1 : Int32))])) rfl (by rw [hml]; rfl) (argsL := [(.int (1 : Int32)), (.int (run &&& (2147483647 : Int32)))]) (rest := []) (lenOf pd_0 rfl) rfl (by show 2 * 0 + _ ≤ _; exact Nat.le_of_eq rfl) (hb hby at_5) (fun _ _ => ⟨rfl, e0, (by decide : 0 + 0 ≤ _), (by decide : 0 + 0 ≤ _)⟩)
  dsimp only [Pt.U, Pt.locs, Pt.cells, Pt.slots] at X1 l1 y1 z1 st1 hQ1
  subst l1 y1 z1
  obtain ⟨rfl, N1q, e1⟩ := hQ1
  have N1 := Fr.app N0 N1q
  obtain ⟨z2, ez2⟩ : ∃ z : Int32, z = (if (1 : Int32) < (run &&& (2147483647 : Int32)) then (run &&& (2147483647 : Int32)) else (1 : Int32)) := ⟨_, rfl⟩
  have hr : ¬ (z2 < (1 : Int32)) := own_rge _ _ ez2
  have k3 : ∀ tg, Steps p.tables e below (T1.setTop (mkF m 11 #[.val (.long sd), .second, .val (.int run), .val (.int z2), .unset, .unset, .unset, .unset, .unset, .unset] [(.int z2), (.long sd)])) tg → Steps p.tables e below (s₁.setTop (entryFrame m #[(.long sd), (.int run)] maxLocals)) tg := by
    intro tg kt
    refine k0 tg ?_
    show Steps p.tables e below (s₁.setTop (mkF m 0 #[.val (.long sd), .second, .val (.int run), .unset, .unset, .unset, .unset, .unset, .unset, .unset] [])) _
    refine XS.iconst X0.here hx rfl (hb hby at_0) ?_
    show Steps p.tables e below (s₁.setTop (mkF m 1 #[.val (.long sd), .second, .val (.int run), .unset, .unset, .unset, .unset, .unset, .unset, .unset] [(.int (1 : Int32))])) _
    refine XS.iloadN X0.here hx rfl (hb hby at_1) rfl ?_
    show Steps p.tables e below (s₁.setTop (mkF m 2 #[.val (.long sd), .second, .val (.int run), .unset, .unset, .unset, .unset, .unset, .unset, .unset] [(.int run), (.int (1 : Int32))])) _
    refine X0.ldcInt hx hown (mvT hZ (hw _ (List.mem_of_getElem? (i := 0) rfl))) (g := (mkF m 2 #[.val (.long sd), .second, .val (.int run), .unset, .unset, .unset, .unset, .unset, .unset, .unset] [(.int run), (.int (1 : Int32))])) rfl (hb hby at_2) _ ?_
    show Steps p.tables e below (s₁.setTop (mkF m 4 #[.val (.long sd), .second, .val (.int run), .unset, .unset, .unset, .unset, .unset, .unset, .unset] [(.int (2147483647 : Int32)), (.int run), (.int (1 : Int32))])) _
    refine XS.iand X0.here hx rfl (hb hby at_4) rfl ?_
    show Steps p.tables e below (s₁.setTop (mkF m 5 #[.val (.long sd), .second, .val (.int run), .unset, .unset, .unset, .unset, .unset, .unset, .unset] [(.int (run &&& (2147483647 : Int32))), (.int (1 : Int32))])) _
    refine st1 _ ?_
    show Steps p.tables e below (T1.setTop (mkF m 8 #[.val (.long sd), .second, .val (.int run), .unset, .unset, .unset, .unset, .unset, .unset, .unset] [(.int (if (1 : Int32) < (run &&& (2147483647 : Int32)) then (run &&& (2147483647 : Int32)) else (1 : Int32)))])) _
    rw [← ez2]
    show Steps p.tables e below (T1.setTop (mkF m 8 #[.val (.long sd), .second, .val (.int run), .unset, .unset, .unset, .unset, .unset, .unset, .unset] [(.int z2)])) _
    refine XS.istoreN X1.here hx rfl (hb hby at_8) rfl (l' := #[.val (.long sd), .second, .val (.int run), .val (.int z2), .unset, .unset, .unset, .unset, .unset, .unset]) rfl ?_
    show Steps p.tables e below (T1.setTop (mkF m 9 #[.val (.long sd), .second, .val (.int run), .val (.int z2), .unset, .unset, .unset, .unset, .unset, .unset] [])) _
    refine XS.lloadN X1.here hx rfl (hb hby at_9) rfl ?_
    show Steps p.tables e below (T1.setTop (mkF m 10 #[.val (.long sd), .second, .val (.int run), .val (.int z2), .unset, .unset, .unset, .unset, .unset, .unset] [(.long sd)])) _
    refine XS.iloadN X1.here hx rfl (hb hby at_10) rfl ?_
    show Steps p.tables e below (T1.setTop (mkF m 11 #[.val (.long sd), .second, .val (.int run), .val (.int z2), .unset, .unset, .unset, .unset, .unset, .unset] [(.int z2), (.long sd)])) _
    exact kt
  by_cases hr1 : z2 = (1 : Int32)
  · obtain ⟨_, _, ⟨T4, L4, k4, n4⟩, -, X4, ⟨Lc4, hQ4, l4, y4, z4⟩, st4⟩ := Jvm.LawKit.callS X1 hx (y := (⟨"com/example/lifetable/lifetable/run/Seeds", "ofRun", "(JI)J"⟩ : MethodName)) hown (mvT hZ (hw _ (List.mem_of_getElem? (i := 5) rfl))) (mvT hZ (hw _ (List.mem_of_getElem? (i := 6) rfl))) (mvT hZ (hw _ (List.mem_of_getElem? (i := 7) rfl))) (mvT hZ (hw _ (List.mem_of_getElem? (i := 8) rfl))) (by decide) (backOf (W := 0) (rm2a l Z a0 hw [] sd z2  h0 n0 hr hr1) hZ (hw _ (List.mem_of_getElem? (i := 8) rfl)) (hw _ (List.mem_of_getElem? (i := 7) rfl)) (by decide) (by decide)) (g := (mkF m 11 #[.val (.long sd), .second, .val (.int run), .val (.int z2), .unset, .unset, .unset, .unset, .unset, .unset] [(.int z2), (.long sd)])) rfl (by rw [hml]; rfl) (argsL := [(.long sd), (.int z2)]) (rest := []) (lenOf pd_1 rfl) rfl (by show 2 * 0 + _ ≤ _; exact Nat.le_of_eq rfl) (hb hby at_11) (fun _ _ => ⟨rfl, e1, (by decide : 0 + 0 ≤ _), (by decide : 0 + 0 ≤ _)⟩)
    dsimp only [Pt.U, Pt.locs, Pt.cells, Pt.slots] at X4 l4 y4 z4 st4 hQ4
    subst l4 y4 z4
    obtain ⟨rfl, N4q, e4⟩ := hQ4
    have N4 := Fr.app N1 N4q
    have hd5 : z2 = (1 : Int32) := hr1
    have hd6 : sd = sd := rfl
    have k7 : ∀ tg, Steps p.tables e below (T4.setTop (mkF m 33 #[.val (.long sd), .second, .val (.int run), .val (.int z2), .val (.long sd), .second, .unset, .unset, .unset, .unset] [(.int (1 : Int32))])) tg → Steps p.tables e below (s₁.setTop (entryFrame m #[(.long sd), (.int run)] maxLocals)) tg := by
      intro tg kt
      refine k3 tg ?_
      show Steps p.tables e below (T1.setTop (mkF m 11 #[.val (.long sd), .second, .val (.int run), .val (.int z2), .unset, .unset, .unset, .unset, .unset, .unset] [(.int z2), (.long sd)])) _
      refine st4 _ ?_
      show Steps p.tables e below (T4.setTop (mkF m 14 #[.val (.long sd), .second, .val (.int run), .val (.int z2), .unset, .unset, .unset, .unset, .unset, .unset] [(.long sd)])) _
      refine XS.lstore X4.here hx rfl (hb hby at_14) rfl (l' := #[.val (.long sd), .second, .val (.int run), .val (.int z2), .val (.long sd), .second, .unset, .unset, .unset, .unset]) rfl ?_
      show Steps p.tables e below (T4.setTop (mkF m 16 #[.val (.long sd), .second, .val (.int run), .val (.int z2), .val (.long sd), .second, .unset, .unset, .unset, .unset] [])) _
      refine XS.iloadN X4.here hx rfl (hb hby at_16) rfl ?_
      show Steps p.tables e below (T4.setTop (mkF m 17 #[.val (.long sd), .second, .val (.int run), .val (.int z2), .val (.long sd), .second, .unset, .unset, .unset, .unset] [(.int z2)])) _
      refine XS.iconst X4.here hx rfl (hb hby at_17) ?_
      show Steps p.tables e below (T4.setTop (mkF m 18 #[.val (.long sd), .second, .val (.int run), .val (.int z2), .val (.long sd), .second, .unset, .unset, .unset, .unset] [(.int (1 : Int32)), (.int z2)])) _
      refine XS.icmpNo X4.here hx rfl (hb hby at_18) rfl (teq hd5).2 ?_
      show Steps p.tables e below (T4.setTop (mkF m 21 #[.val (.long sd), .second, .val (.int run), .val (.int z2), .val (.long sd), .second, .unset, .unset, .unset, .unset] [])) _
      refine XS.lload X4.here hx rfl (hb hby at_21) rfl ?_
      show Steps p.tables e below (T4.setTop (mkF m 23 #[.val (.long sd), .second, .val (.int run), .val (.int z2), .val (.long sd), .second, .unset, .unset, .unset, .unset] [(.long sd)])) _
      refine XS.lloadN X4.here hx rfl (hb hby at_23) rfl ?_
      show Steps p.tables e below (T4.setTop (mkF m 24 #[.val (.long sd), .second, .val (.int run), .val (.int z2), .val (.long sd), .second, .unset, .unset, .unset, .unset] [(.long sd), (.long sd)])) _
      refine XS.lcmp X4.here hx rfl (hb hby at_24) rfl ?_
      show Steps p.tables e below (T4.setTop (mkF m 25 #[.val (.long sd), .second, .val (.int run), .val (.int z2), .val (.long sd), .second, .unset, .unset, .unset, .unset] [(.int (lcmpW sd sd))])) _
      refine XS.ifNo X4.here hx rfl (hb hby at_25) rfl ((if0 _ _).trans (teq ((lw_eq _ _).mpr hd6)).2) ?_
      show Steps p.tables e below (T4.setTop (mkF m 28 #[.val (.long sd), .second, .val (.int run), .val (.int z2), .val (.long sd), .second, .unset, .unset, .unset, .unset] [])) _
      refine XS.iconst X4.here hx rfl (hb hby at_28) ?_
      show Steps p.tables e below (T4.setTop (mkF m 29 #[.val (.long sd), .second, .val (.int run), .val (.int z2), .val (.long sd), .second, .unset, .unset, .unset, .unset] [(.int (1 : Int32))])) _
      refine XS.goto X4.here hx rfl (pc0 := 29) (pc' := 33) rfl (hb hby at_29) (by decide) (by decide) ?_
      show Steps p.tables e below (T4.setTop (mkF m 33 #[.val (.long sd), .second, .val (.int run), .val (.int z2), .val (.long sd), .second, .unset, .unset, .unset, .unset] [(.int (1 : Int32))])) _
      exact kt
    obtain ⟨fs, hr, hrun, hended, hW, hsame⟩ := X4.leave (v := some (.int (1 : Int32))) (fun h => by rw [Bd.returns] at h; cases h)
    refine ⟨_, _, k7 _ ?_, hrun, hended, _, _, rfl, ?_, ⟨_, rfl⟩, hW, hsame.mono (by decide) (by decide)⟩
    · exact retN X4 hx (t := .boolean) Bd.returns (by simp) (hb hby at_33) hr
    · show QL n0 _ T4.heap _
      exact ⟨rfl, N4⟩
  · obtain ⟨_, _, ⟨T8, L8, k8, n8⟩, -, X8, ⟨Lc8, hQ8, l8, y8, z8⟩, st8⟩ := Jvm.LawKit.callS X1 hx (y := (⟨"com/example/lifetable/lifetable/run/Seeds", "ofRun", "(JI)J"⟩ : MethodName)) hown (mvT hZ (hw _ (List.mem_of_getElem? (i := 5) rfl))) (mvT hZ (hw _ (List.mem_of_getElem? (i := 6) rfl))) (mvT hZ (hw _ (List.mem_of_getElem? (i := 7) rfl))) (mvT hZ (hw _ (List.mem_of_getElem? (i := 8) rfl))) (by decide) (backOf (W := 0) (rm2b l Z a0 hw [] sd z2  h0 n0 hr hr1) hZ (hw _ (List.mem_of_getElem? (i := 8) rfl)) (hw _ (List.mem_of_getElem? (i := 7) rfl)) (by decide) (by decide)) (g := (mkF m 11 #[.val (.long sd), .second, .val (.int run), .val (.int z2), .unset, .unset, .unset, .unset, .unset, .unset] [(.int z2), (.long sd)])) rfl (by rw [hml]; rfl) (argsL := [(.long sd), (.int z2)]) (rest := []) (lenOf pd_1 rfl) rfl (by show 2 * 0 + _ ≤ _; exact Nat.le_of_eq rfl) (hb hby at_11) (fun _ _ => ⟨rfl, e1, (by decide : 0 + 0 ≤ _), (by decide : 0 + 0 ≤ _)⟩)
    dsimp only [Pt.U, Pt.locs, Pt.cells, Pt.slots] at X8 l8 y8 z8 st8 hQ8
    subst l8 y8 z8
    obtain ⟨rfl, N8q, e8⟩ := hQ8
    have N8 := Fr.app N1 N8q
    have hd9 : ¬ (z2 = (1 : Int32)) := hr1
    have hd10 : ¬ ((ofRunS sd z2) < (0 : Int64)) := own_nn _
    obtain ⟨z11, ez11⟩ : ∃ z : Int64, z = (sd + (((z2 - (1 : Int32)).toInt64) * (-7046029254386353131 : Int64))) := ⟨_, rfl⟩
    obtain ⟨z12, ez12⟩ : ∃ z : Int64, z = ((ofRunS sd z2) <<< ((1 : Int32) &&& 0x3f).toInt64) := ⟨_, rfl⟩
    obtain ⟨_, _, ⟨T13, L13, k13, n13⟩, -, X13, ⟨Lc13, hQ13, l13, y13, z13⟩, st13⟩ := Jvm.LawKit.callS X8 hx (y := (⟨"com/example/lifetable/lifetable/run/SeedsOfRunPinLaw", "unmix", "(J)J"⟩ : MethodName)) hown (mvT hZ (hw _ (List.mem_of_getElem? (i := 13) rfl))) (mvT hZ (hw _ (List.mem_of_getElem? (i := 14) rfl))) (mvT hZ (hw _ (List.mem_of_getElem? (i := 15) rfl))) (mvT hZ (hw _ (List.mem_of_getElem? (i := 16) rfl))) (by decide) (backOf (W := 0) (rm3 l Z a0 hw [] z12  h0 n0 ) hZ (hw _ (List.mem_of_getElem? (i := 16) rfl)) (hw _ (List.mem_of_getElem? (i := 15) rfl)) (by decide) (by decide)) (g := (mkF m 63 #[.val (.long sd), .second, .val (.int run), .val (.int z2), .val (.long (ofRunS sd z2)), .second, .val (.long z11), .second, .val (.long z12), .second] [(.long z12)])) rfl (by rw [hml]; rfl) (argsL := [(.long z12)]) (rest := []) (lenOf pd_2 rfl) rfl (by show 2 * 0 + _ ≤ _; exact Nat.le_of_eq rfl) (hb hby at_63) (fun _ _ => ⟨rfl, e8, (by decide : 0 + 0 ≤ _), (by decide : 0 + 0 ≤ _)⟩)
    dsimp only [Pt.U, Pt.locs, Pt.cells, Pt.slots] at X13 l13 y13 z13 st13 hQ13
    subst l13 y13 z13
    obtain ⟨rfl, N13q, e13⟩ := hQ13
    have N13 := Fr.app N8 N13q
    have k14 : ∀ tg, Steps p.tables e below (T13.setTop (mkF m 69 #[.val (.long sd), .second, .val (.int run), .val (.int z2), .val (.long (ofRunS sd z2)), .second, .val (.long z11), .second, .val (.long z12), .second] [(.int (lcmpW (unmixy z12) z11))])) tg → Steps p.tables e below (s₁.setTop (entryFrame m #[(.long sd), (.int run)] maxLocals)) tg := by
      intro tg kt
      refine k3 tg ?_
      show Steps p.tables e below (T1.setTop (mkF m 11 #[.val (.long sd), .second, .val (.int run), .val (.int z2), .unset, .unset, .unset, .unset, .unset, .unset] [(.int z2), (.long sd)])) _
      refine st8 _ ?_
      show Steps p.tables e below (T8.setTop (mkF m 14 #[.val (.long sd), .second, .val (.int run), .val (.int z2), .unset, .unset, .unset, .unset, .unset, .unset] [(.long (ofRunS sd z2))])) _
      refine XS.lstore X8.here hx rfl (hb hby at_14) rfl (l' := #[.val (.long sd), .second, .val (.int run), .val (.int z2), .val (.long (ofRunS sd z2)), .second, .unset, .unset, .unset, .unset]) rfl ?_
      show Steps p.tables e below (T8.setTop (mkF m 16 #[.val (.long sd), .second, .val (.int run), .val (.int z2), .val (.long (ofRunS sd z2)), .second, .unset, .unset, .unset, .unset] [])) _
      refine XS.iloadN X8.here hx rfl (hb hby at_16) rfl ?_
      show Steps p.tables e below (T8.setTop (mkF m 17 #[.val (.long sd), .second, .val (.int run), .val (.int z2), .val (.long (ofRunS sd z2)), .second, .unset, .unset, .unset, .unset] [(.int z2)])) _
      refine XS.iconst X8.here hx rfl (hb hby at_17) ?_
      show Steps p.tables e below (T8.setTop (mkF m 18 #[.val (.long sd), .second, .val (.int run), .val (.int z2), .val (.long (ofRunS sd z2)), .second, .unset, .unset, .unset, .unset] [(.int (1 : Int32)), (.int z2)])) _
      refine XS.icmpYes X8.here hx rfl (pc0 := 18) (pc' := 34) rfl (hb hby at_18) rfl (feq hd9).2 (by decide) (by decide) ?_
      show Steps p.tables e below (T8.setTop (mkF m 34 #[.val (.long sd), .second, .val (.int run), .val (.int z2), .val (.long (ofRunS sd z2)), .second, .unset, .unset, .unset, .unset] [])) _
      refine XS.lload X8.here hx rfl (hb hby at_34) rfl ?_
      show Steps p.tables e below (T8.setTop (mkF m 36 #[.val (.long sd), .second, .val (.int run), .val (.int z2), .val (.long (ofRunS sd z2)), .second, .unset, .unset, .unset, .unset] [(.long (ofRunS sd z2))])) _
      refine XS.lconst X8.here hx rfl (hb hby at_36) ?_
      show Steps p.tables e below (T8.setTop (mkF m 37 #[.val (.long sd), .second, .val (.int run), .val (.int z2), .val (.long (ofRunS sd z2)), .second, .unset, .unset, .unset, .unset] [(.long (0 : Int64)), (.long (ofRunS sd z2))])) _
      refine XS.lcmp X8.here hx rfl (hb hby at_37) rfl ?_
      show Steps p.tables e below (T8.setTop (mkF m 38 #[.val (.long sd), .second, .val (.int run), .val (.int z2), .val (.long (ofRunS sd z2)), .second, .unset, .unset, .unset, .unset] [(.int (lcmpW (ofRunS sd z2) (0 : Int64)))])) _
      refine XS.ifYes X8.here hx rfl (pc0 := 38) (pc' := 43) rfl (hb hby at_38) rfl ((if0 _ _).trans (flt (fun q => hd10 ((lw_lt _ _).mp q))).2.1) (by decide) (by decide) ?_
      show Steps p.tables e below (T8.setTop (mkF m 43 #[.val (.long sd), .second, .val (.int run), .val (.int z2), .val (.long (ofRunS sd z2)), .second, .unset, .unset, .unset, .unset] [])) _
      refine XS.lloadN X8.here hx rfl (hb hby at_43) rfl ?_
      show Steps p.tables e below (T8.setTop (mkF m 44 #[.val (.long sd), .second, .val (.int run), .val (.int z2), .val (.long (ofRunS sd z2)), .second, .unset, .unset, .unset, .unset] [(.long sd)])) _
      refine XS.iloadN X8.here hx rfl (hb hby at_44) rfl ?_
      show Steps p.tables e below (T8.setTop (mkF m 45 #[.val (.long sd), .second, .val (.int run), .val (.int z2), .val (.long (ofRunS sd z2)), .second, .unset, .unset, .unset, .unset] [(.int z2), (.long sd)])) _
      refine XS.iconst X8.here hx rfl (hb hby at_45) ?_
      show Steps p.tables e below (T8.setTop (mkF m 46 #[.val (.long sd), .second, .val (.int run), .val (.int z2), .val (.long (ofRunS sd z2)), .second, .unset, .unset, .unset, .unset] [(.int (1 : Int32)), (.int z2), (.long sd)])) _
      refine XS.isub X8.here hx rfl (hb hby at_46) rfl ?_
      show Steps p.tables e below (T8.setTop (mkF m 47 #[.val (.long sd), .second, .val (.int run), .val (.int z2), .val (.long (ofRunS sd z2)), .second, .unset, .unset, .unset, .unset] [(.int (z2 - (1 : Int32))), (.long sd)])) _
      refine XS.i2l X8.here hx rfl (hb hby at_47) rfl ?_
      show Steps p.tables e below (T8.setTop (mkF m 48 #[.val (.long sd), .second, .val (.int run), .val (.int z2), .val (.long (ofRunS sd z2)), .second, .unset, .unset, .unset, .unset] [(.long ((z2 - (1 : Int32)).toInt64)), (.long sd)])) _
      refine X8.ldc2Long hx hown (mvT hZ (hw _ (List.mem_of_getElem? (i := 12) rfl))) (g := (mkF m 48 #[.val (.long sd), .second, .val (.int run), .val (.int z2), .val (.long (ofRunS sd z2)), .second, .unset, .unset, .unset, .unset] [(.long ((z2 - (1 : Int32)).toInt64)), (.long sd)])) rfl (hb hby at_48) _ ?_
      show Steps p.tables e below (T8.setTop (mkF m 51 #[.val (.long sd), .second, .val (.int run), .val (.int z2), .val (.long (ofRunS sd z2)), .second, .unset, .unset, .unset, .unset] [(.long (-7046029254386353131 : Int64)), (.long ((z2 - (1 : Int32)).toInt64)), (.long sd)])) _
      refine XS.lmul X8.here hx rfl (hb hby at_51) rfl ?_
      show Steps p.tables e below (T8.setTop (mkF m 52 #[.val (.long sd), .second, .val (.int run), .val (.int z2), .val (.long (ofRunS sd z2)), .second, .unset, .unset, .unset, .unset] [(.long (((z2 - (1 : Int32)).toInt64) * (-7046029254386353131 : Int64))), (.long sd)])) _
      refine XS.ladd X8.here hx rfl (hb hby at_52) rfl ?_
      show Steps p.tables e below (T8.setTop (mkF m 53 #[.val (.long sd), .second, .val (.int run), .val (.int z2), .val (.long (ofRunS sd z2)), .second, .unset, .unset, .unset, .unset] [(.long (sd + (((z2 - (1 : Int32)).toInt64) * (-7046029254386353131 : Int64))))])) _
      refine XS.lstore X8.here hx rfl (hb hby at_53) rfl (l' := #[.val (.long sd), .second, .val (.int run), .val (.int z2), .val (.long (ofRunS sd z2)), .second, .val (.long (sd + (((z2 - (1 : Int32)).toInt64) * (-7046029254386353131 : Int64)))), .second, .unset, .unset]) rfl ?_
      show Steps p.tables e below (T8.setTop (mkF m 55 #[.val (.long sd), .second, .val (.int run), .val (.int z2), .val (.long (ofRunS sd z2)), .second, .val (.long (sd + (((z2 - (1 : Int32)).toInt64) * (-7046029254386353131 : Int64)))), .second, .unset, .unset] [])) _
      rw [← ez11]
      show Steps p.tables e below (T8.setTop (mkF m 55 #[.val (.long sd), .second, .val (.int run), .val (.int z2), .val (.long (ofRunS sd z2)), .second, .val (.long z11), .second, .unset, .unset] [])) _
      refine XS.lload X8.here hx rfl (hb hby at_55) rfl ?_
      show Steps p.tables e below (T8.setTop (mkF m 57 #[.val (.long sd), .second, .val (.int run), .val (.int z2), .val (.long (ofRunS sd z2)), .second, .val (.long z11), .second, .unset, .unset] [(.long (ofRunS sd z2))])) _
      refine XS.iconst X8.here hx rfl (hb hby at_57) ?_
      show Steps p.tables e below (T8.setTop (mkF m 58 #[.val (.long sd), .second, .val (.int run), .val (.int z2), .val (.long (ofRunS sd z2)), .second, .val (.long z11), .second, .unset, .unset] [(.int (1 : Int32)), (.long (ofRunS sd z2))])) _
      refine XS.lshl X8.here hx rfl (hb hby at_58) rfl ?_
      show Steps p.tables e below (T8.setTop (mkF m 59 #[.val (.long sd), .second, .val (.int run), .val (.int z2), .val (.long (ofRunS sd z2)), .second, .val (.long z11), .second, .unset, .unset] [(.long ((ofRunS sd z2) <<< ((1 : Int32) &&& 0x3f).toInt64))])) _
      refine XS.lstore X8.here hx rfl (hb hby at_59) rfl (l' := #[.val (.long sd), .second, .val (.int run), .val (.int z2), .val (.long (ofRunS sd z2)), .second, .val (.long z11), .second, .val (.long ((ofRunS sd z2) <<< ((1 : Int32) &&& 0x3f).toInt64)), .second]) rfl ?_
      show Steps p.tables e below (T8.setTop (mkF m 61 #[.val (.long sd), .second, .val (.int run), .val (.int z2), .val (.long (ofRunS sd z2)), .second, .val (.long z11), .second, .val (.long ((ofRunS sd z2) <<< ((1 : Int32) &&& 0x3f).toInt64)), .second] [])) _
      rw [← ez12]
      show Steps p.tables e below (T8.setTop (mkF m 61 #[.val (.long sd), .second, .val (.int run), .val (.int z2), .val (.long (ofRunS sd z2)), .second, .val (.long z11), .second, .val (.long z12), .second] [])) _
      refine XS.lload X8.here hx rfl (hb hby at_61) rfl ?_
      show Steps p.tables e below (T8.setTop (mkF m 63 #[.val (.long sd), .second, .val (.int run), .val (.int z2), .val (.long (ofRunS sd z2)), .second, .val (.long z11), .second, .val (.long z12), .second] [(.long z12)])) _
      refine st13 _ ?_
      show Steps p.tables e below (T13.setTop (mkF m 66 #[.val (.long sd), .second, .val (.int run), .val (.int z2), .val (.long (ofRunS sd z2)), .second, .val (.long z11), .second, .val (.long z12), .second] [(.long (unmixy z12))])) _
      refine XS.lload X13.here hx rfl (hb hby at_66) rfl ?_
      show Steps p.tables e below (T13.setTop (mkF m 68 #[.val (.long sd), .second, .val (.int run), .val (.int z2), .val (.long (ofRunS sd z2)), .second, .val (.long z11), .second, .val (.long z12), .second] [(.long z11), (.long (unmixy z12))])) _
      refine XS.lcmp X13.here hx rfl (hb hby at_68) rfl ?_
      show Steps p.tables e below (T13.setTop (mkF m 69 #[.val (.long sd), .second, .val (.int run), .val (.int z2), .val (.long (ofRunS sd z2)), .second, .val (.long z11), .second, .val (.long z12), .second] [(.int (lcmpW (unmixy z12) z11))])) _
      exact kt
    by_cases hc15 : (unmixy z12) = z11
    · have k16 : ∀ tg, Steps p.tables e below (T13.setTop (mkF m 90 #[.val (.long sd), .second, .val (.int run), .val (.int z2), .val (.long (ofRunS sd z2)), .second, .val (.long z11), .second, .val (.long z12), .second] [(.int (1 : Int32))])) tg → Steps p.tables e below (s₁.setTop (entryFrame m #[(.long sd), (.int run)] maxLocals)) tg := by
        intro tg kt
        refine k14 tg ?_
        refine XS.ifYes X13.here hx rfl (pc0 := 69) (pc' := 85) rfl (hb hby at_69) rfl ((if0 _ _).trans (teq ((lw_eq _ _).mpr hc15)).1) (by decide) (by decide) ?_
        show Steps p.tables e below (T13.setTop (mkF m 85 #[.val (.long sd), .second, .val (.int run), .val (.int z2), .val (.long (ofRunS sd z2)), .second, .val (.long z11), .second, .val (.long z12), .second] [])) _
        refine XS.iconst X13.here hx rfl (hb hby at_85) ?_
        show Steps p.tables e below (T13.setTop (mkF m 86 #[.val (.long sd), .second, .val (.int run), .val (.int z2), .val (.long (ofRunS sd z2)), .second, .val (.long z11), .second, .val (.long z12), .second] [(.int (1 : Int32))])) _
        refine XS.goto X13.here hx rfl (pc0 := 86) (pc' := 90) rfl (hb hby at_86) (by decide) (by decide) ?_
        show Steps p.tables e below (T13.setTop (mkF m 90 #[.val (.long sd), .second, .val (.int run), .val (.int z2), .val (.long (ofRunS sd z2)), .second, .val (.long z11), .second, .val (.long z12), .second] [(.int (1 : Int32))])) _
        exact kt
      obtain ⟨fs, hr, hrun, hended, hW, hsame⟩ := X13.leave (v := some (.int (1 : Int32))) (fun h => by rw [Bd.returns] at h; cases h)
      refine ⟨_, _, k16 _ ?_, hrun, hended, _, _, rfl, ?_, ⟨_, rfl⟩, hW, hsame.mono (by decide) (by decide)⟩
      · exact retN X13 hx (t := .boolean) Bd.returns (by simp) (hb hby at_90) hr
      · show QL n0 _ T13.heap _
        exact ⟨rfl, N13⟩
    · obtain ⟨_, _, ⟨T17, L17, k17, n17⟩, -, X17, ⟨Lc17, hQ17, l17, y17, z17⟩, st17⟩ := Jvm.LawKit.callS X13 hx (y := (⟨"com/example/lifetable/lifetable/run/SeedsOfRunPinLaw", "unmix", "(J)J"⟩ : MethodName)) hown (mvT hZ (hw _ (List.mem_of_getElem? (i := 13) rfl))) (mvT hZ (hw _ (List.mem_of_getElem? (i := 14) rfl))) (mvT hZ (hw _ (List.mem_of_getElem? (i := 15) rfl))) (mvT hZ (hw _ (List.mem_of_getElem? (i := 16) rfl))) (by decide) (backOf (W := 0) (rm3 l Z a0 hw [] (z12 ||| (1 : Int64))  h0 n0 ) hZ (hw _ (List.mem_of_getElem? (i := 16) rfl)) (hw _ (List.mem_of_getElem? (i := 15) rfl)) (by decide) (by decide)) (g := (mkF m 76 #[.val (.long sd), .second, .val (.int run), .val (.int z2), .val (.long (ofRunS sd z2)), .second, .val (.long z11), .second, .val (.long z12), .second] [(.long (z12 ||| (1 : Int64)))])) rfl (by rw [hml]; rfl) (argsL := [(.long (z12 ||| (1 : Int64)))]) (rest := []) (lenOf pd_2 rfl) rfl (by show 2 * 0 + _ ≤ _; exact Nat.le_of_eq rfl) (hb hby at_76) (fun _ _ => ⟨rfl, e13, (by decide : 0 + 0 ≤ _), (by decide : 0 + 0 ≤ _)⟩)
      dsimp only [Pt.U, Pt.locs, Pt.cells, Pt.slots] at X17 l17 y17 z17 st17 hQ17
      subst l17 y17 z17
      obtain ⟨rfl, N17q, e17⟩ := hQ17
      have N17 := Fr.app N13 N17q
      have hd18 : (unmixy (z12 ||| (1 : Int64))) = z11 := own_law sd z2 z11 (ofRunS sd z2) _ _ ez11 (by rw [ez11]; rfl) (by rw [ez12]) (by rw [ez12]) hc15
      have k19 : ∀ tg, Steps p.tables e below (T17.setTop (mkF m 90 #[.val (.long sd), .second, .val (.int run), .val (.int z2), .val (.long (ofRunS sd z2)), .second, .val (.long z11), .second, .val (.long z12), .second] [(.int (1 : Int32))])) tg → Steps p.tables e below (s₁.setTop (entryFrame m #[(.long sd), (.int run)] maxLocals)) tg := by
        intro tg kt
        refine k14 tg ?_
        refine XS.ifNo X13.here hx rfl (hb hby at_69) rfl ((if0 _ _).trans (feq (fun q => hc15 ((lw_eq _ _).mp q))).1) ?_
        show Steps p.tables e below (T13.setTop (mkF m 72 #[.val (.long sd), .second, .val (.int run), .val (.int z2), .val (.long (ofRunS sd z2)), .second, .val (.long z11), .second, .val (.long z12), .second] [])) _
        refine XS.lload X13.here hx rfl (hb hby at_72) rfl ?_
        show Steps p.tables e below (T13.setTop (mkF m 74 #[.val (.long sd), .second, .val (.int run), .val (.int z2), .val (.long (ofRunS sd z2)), .second, .val (.long z11), .second, .val (.long z12), .second] [(.long z12)])) _
        refine XS.lconst X13.here hx rfl (hb hby at_74) ?_
        show Steps p.tables e below (T13.setTop (mkF m 75 #[.val (.long sd), .second, .val (.int run), .val (.int z2), .val (.long (ofRunS sd z2)), .second, .val (.long z11), .second, .val (.long z12), .second] [(.long (1 : Int64)), (.long z12)])) _
        refine XS.lor X13.here hx rfl (hb hby at_75) rfl ?_
        show Steps p.tables e below (T13.setTop (mkF m 76 #[.val (.long sd), .second, .val (.int run), .val (.int z2), .val (.long (ofRunS sd z2)), .second, .val (.long z11), .second, .val (.long z12), .second] [(.long (z12 ||| (1 : Int64)))])) _
        refine st17 _ ?_
        show Steps p.tables e below (T17.setTop (mkF m 79 #[.val (.long sd), .second, .val (.int run), .val (.int z2), .val (.long (ofRunS sd z2)), .second, .val (.long z11), .second, .val (.long z12), .second] [(.long (unmixy (z12 ||| (1 : Int64))))])) _
        refine XS.lload X17.here hx rfl (hb hby at_79) rfl ?_
        show Steps p.tables e below (T17.setTop (mkF m 81 #[.val (.long sd), .second, .val (.int run), .val (.int z2), .val (.long (ofRunS sd z2)), .second, .val (.long z11), .second, .val (.long z12), .second] [(.long z11), (.long (unmixy (z12 ||| (1 : Int64))))])) _
        refine XS.lcmp X17.here hx rfl (hb hby at_81) rfl ?_
        show Steps p.tables e below (T17.setTop (mkF m 82 #[.val (.long sd), .second, .val (.int run), .val (.int z2), .val (.long (ofRunS sd z2)), .second, .val (.long z11), .second, .val (.long z12), .second] [(.int (lcmpW (unmixy (z12 ||| (1 : Int64))) z11))])) _
        refine XS.ifNo X17.here hx rfl (hb hby at_82) rfl ((if0 _ _).trans (teq ((lw_eq _ _).mpr hd18)).2) ?_
        show Steps p.tables e below (T17.setTop (mkF m 85 #[.val (.long sd), .second, .val (.int run), .val (.int z2), .val (.long (ofRunS sd z2)), .second, .val (.long z11), .second, .val (.long z12), .second] [])) _
        refine XS.iconst X17.here hx rfl (hb hby at_85) ?_
        show Steps p.tables e below (T17.setTop (mkF m 86 #[.val (.long sd), .second, .val (.int run), .val (.int z2), .val (.long (ofRunS sd z2)), .second, .val (.long z11), .second, .val (.long z12), .second] [(.int (1 : Int32))])) _
        refine XS.goto X17.here hx rfl (pc0 := 86) (pc' := 90) rfl (hb hby at_86) (by decide) (by decide) ?_
        show Steps p.tables e below (T17.setTop (mkF m 90 #[.val (.long sd), .second, .val (.int run), .val (.int z2), .val (.long (ofRunS sd z2)), .second, .val (.long z11), .second, .val (.long z12), .second] [(.int (1 : Int32))])) _
        exact kt
      obtain ⟨fs, hr, hrun, hended, hW, hsame⟩ := X17.leave (v := some (.int (1 : Int32))) (fun h => by rw [Bd.returns] at h; cases h)
      refine ⟨_, _, k19 _ ?_, hrun, hended, _, _, rfl, ?_, ⟨_, rfl⟩, hW, hsame.mono (by decide) (by decide)⟩
      · exact retN X17 hx (t := .boolean) Bd.returns (by simp) (hb hby at_90) hr
      · show QL n0 _ T17.heap _
        exact ⟨rfl, N17⟩
set_option maxRecDepth 65536 in
set_option maxHeartbeats 40000000 in
theorem comes_1 {Post : Tables → Env → Array Value → State → Outcome → State → Prop} (hpost : ∀ tb e args s v u, (limb_1_1.after args s (.returned v) u = true ∧ limb_1_2.after args s (.returned v) u = true ∧ True) → FrameEnd s (.returned v) u (Jvm.fieldLocs frame_1_writes args s ++ Jvm.arrayLocs frame_1_arrays args s ++ Jvm.staticLocs frame_1_statics s) 0 0 → Post tb e args s (.returned v) u) :
    ArmFor flags0 classFile x code maxLocals ret World_1 tables_1 room_1 Calls_1 rest_1 Pre_1 Post := by
  intro l hfl _ _ p e ha hc hk s m args below hf hA hF happ hP
  obtain ⟨hcalls, hrest, hpre⟩ := hP
  obtain ⟨-, -, -, hnamed, -, -, -, hat⟩ := (Spec.applies_iff hf).mp happ
  obtain ⟨hg, hn⟩ := and_e (Cond.before_iff.mp (show (Jvm.Cond.and given_1 narrow_1).before args s = true from hpre))
  obtain ⟨g1, g2⟩ := and_e hg
  obtain ⟨g3, g4⟩ := and_e g2
  obtain ⟨w0, w1, rfl⟩ : ∃ w0 w1 : Value, args = #[w0, w1] := by
    have hs : args.size = 2 := by simpa [Cond.value, given_1] using g1
    obtain ⟨L⟩ := args
    match L, hs with
    | [w0, w1], _ => exact ⟨w0, w1, rfl⟩
  have hw := fun d (hd : d ∈ tables_1) => atoms_spec (ws := Jvm.Cond.code x code maxLocals ret :: tables_1) hat d (List.mem_cons_of_mem _ hd)
  have hfit : Fit s := fun {y c} hc i hi => by
    obtain ⟨ha, rfl⟩ := Array.getElem?_eq_some_iff.mp hc
    have q := List.all_eq_true.mp ((Array.all_eq_true_iff_forall_mem.mp hF) _ (Array.getElem_mem ha)) i (List.mem_range.mpr hi)
    simpa [Array.getElem?_eq_getElem hi] using q
  obtain ⟨i0, ei0⟩ := isL_v g3
  obtain rfl : w0 = (.long i0) := Option.some.inj ei0
  obtain ⟨i1, ei1⟩ := is_v g4
  obtain rfl : w1 = (.int i1) := Option.some.inj ei1
  obtain ⟨n, o, h1, h2, h3, _, L, rfl, ⟨rfl, N⟩, hq⟩ := rm0 l s _ hw tables_1 i0 i1  s.heap s.heap.size  p e ha hc hk s m _ below hf ((Spec.applies_iff_loose hf).mp happ).1 ⟨rfl, State.Warmed39.refl s, rfl⟩ trivial
  refine ⟨n, _, h1, h2, h3, hpost _ _ _ _ _ _ ⟨Cond.after_iff.mpr rfl, Cond.after_iff.mpr (eq_i res_at (Term.int_eval (1)) rfl), trivial⟩ ⟨hq.1, hq.2.1, (hq.2.2.sift fun y hy => Or.inr (N y hy)).mono (by decide) (by decide)⟩⟩
theorem main_1_1 : Claimed_1_1 := comes_1 fun _ _ _ _ _ _ h hF => ⟨h.1, hF⟩
theorem main_1_2 : Claimed_1_2 := comes_1 fun _ _ _ _ _ _ h hF => ⟨h.2.1, hF⟩
end Jvm.Pilot.@@N@@
namespace Jvm.Pilot.@@N@@
open Jvm Jvm.ClassFile Sem Op Lib Jvm.Free Jvm.Stand Jvm.Pilot.@@N@@.Jvm.D
/-! MADE BY PROGRAM (witnessworld.py) out of the Statement's table words and the real class files: 10 classes; the members and pool entries that the words name. The judged class is class 1, her method 2. -/
namespace start1
open Jvm.ClassFile
def u (s : String) : CpInfo := .utf8 (stringToUtf16 s)
/-- a pool by its gaps: so many unusable entries, then the entry; so many at the end -/
def gap : Nat → List CpInfo → List CpInfo
  | 0, r => r
  | n + 1, r => .unusable :: gap n r
def poolList (es : List (Nat × CpInfo)) (last : Nat) : List CpInfo := es.foldr (fun e r => gap e.1 (e.2 :: r)) (gap last [])
def pool (es : List (Nat × CpInfo)) (last : Nat) : Array CpInfo := ⟨poolList es last⟩
def fileOf (pool : Array CpInfo) (this : Nat) (attrs : Array Attribute := #[]) (ms : Array MethodInfo := #[]) (fl : Nat := 33) (sup : Nat := 0) (ifs : Array Nat := #[]) (fds : Array FieldInfo := #[]) : ClassFile where
  minorVersion := 0
  majorVersion := 65
  constantPool := pool
  accessFlags := fl
  thisClass := this
  superClass := sup
  interfaces := ifs
  fields := fds
  methods := ms
  attributes := attrs
def plain (name : String) (sup : Option ClassId) : Class where
  name := name
  kind := .ordinary
  loader := none
  accessFlags := 33
  super := sup
  interfaces := #[]
  cf := none
  fields := #[]
  methods := #[]
  instanceTypes := #[]
  staticTypes := #[]
  resolved := #[]
  callSites := []
  init := .initialized
  statics := none
  mirror := none

def pool0 : Array CpInfo := pool [(5, u "<init>"), (0, u "()V"), (1, .class_ 10), (1, u "java/lang/Object")] 113

def k0m0 : Method := { name := "<init>", desc := "()V", sig := { parameters := [], returnType := none }, accessFlags := 1, code := none }
/-- java/lang/Object -/
def k0 : Class := { plain "java/lang/Object" none with
  accessFlags := 33
  interfaces := #[]
  cf := some (fileOf pool0 8 #[] #[{ accessFlags := 1, nameIndex := 5, descriptorIndex := 6, attributes := #[] }] 33 0 #[] #[])
  fields := #[]
  methods := #[k0m0]
  instanceTypes := #[]
  staticTypes := #[]
  resolved := Array.replicate 124 none
  statics := none }

def pool1 : Array CpInfo := pool [(2, .class_ 4), (1, u "java/lang/Object"), (0, u "<init>"), (0, u "()V"), (0, .long 3573116690164977347), (1, .long 10871156337175269513), (1, .integer 2147483647), (0, .methodref 13 14), (0, .class_ 15), (0, .nameAndType 16 17), (0, u "java/lang/Math"), (0, u "max"), (0, u "(II)I"), (0, .methodref 19 20), (0, .class_ 21), (0, .nameAndType 22 23), (0, u "com/example/lifetable/lifetable/run/Seeds"), (0, u "ofRun"), (0, u "(JI)J"), (0, .long 11400714819323198485), (1, .methodref 27 28), (0, .class_ 29), (0, .nameAndType 30 31), (0, u "com/example/lifetable/lifetable/run/SeedsOfRunPinLaw"), (0, u "unmix"), (0, u "(J)J"), (2, u "law"), (0, u "(JI)Z")] 3

def k1m0 : Method := { name := "<init>", desc := "()V", sig := { parameters := [], returnType := none }, accessFlags := 2, code := none }
def k1c1 : Code := { maxStack := 5, maxLocals := 4, code := method_2_code, exceptionTable := #[], attributes := #[] }
def k1m1 : Method := { name := "unmix", desc := "(J)J", sig := { parameters := [.long], returnType := some .long }, accessFlags := 10, code := some k1c1 }
def k1c2 : Code := { maxStack := 6, maxLocals := 10, code := code, exceptionTable := #[], attributes := #[] }
def k1m2 : Method := { name := "law", desc := "(JI)Z", sig := { parameters := [.long, .int], returnType := some .boolean }, accessFlags := 9, code := some k1c2 }
/-- com/example/lifetable/lifetable/run/SeedsOfRunPinLaw -/
def k1 : Class := { plain "com/example/lifetable/lifetable/run/SeedsOfRunPinLaw" (some 0) with
  accessFlags := 49
  interfaces := #[]
  cf := some (fileOf pool1 27 #[] #[{ accessFlags := 2, nameIndex := 5, descriptorIndex := 6, attributes := #[] }, { accessFlags := 10, nameIndex := 30, descriptorIndex := 31, attributes := #[] }, { accessFlags := 9, nameIndex := 34, descriptorIndex := 35, attributes := #[] }] 49 2 #[] #[])
  fields := #[]
  methods := #[k1m0, k1m1, k1m2]
  instanceTypes := #[]
  staticTypes := #[]
  resolved := Array.replicate 39 none
  statics := none }

def pool2 : Array CpInfo := pool [(1, .class_ 2), (0, u "java/lang/Math"), (1, .class_ 6), (1, u "java/lang/Object"), (0, u "<init>"), (0, u "()V"), (89, .class_ 100), (1, u "java/lang/Math$RandomNumberGeneratorHolder"), (71, u "negativeZeroFloatBits"), (0, u "J"), (2, u "negativeZeroDoubleBits"), (21, u "max"), (46, u "$assertionsDisabled"), (0, u "Z"), (88, u "(II)I"), (2, u "twoToTheDoubleScaleDown"), (0, u "D"), (4, u "twoToTheDoubleScaleUp"), (9, u "E"), (3, u "PI"), (2, u "TAU"), (2, u "DEGREES_TO_RADIANS"), (0, u "RADIANS_TO_DEGREES")] 94

def k2m0 : Method := { name := "<init>", desc := "()V", sig := { parameters := [], returnType := none }, accessFlags := 2, code := none }
def k2c1 : Code := { maxStack := 2, maxLocals := 2, code := jdk_29_method_65_code, exceptionTable := #[], attributes := #[] }
def k2m1 : Method := { name := "max", desc := "(II)I", sig := { parameters := [.int, .int], returnType := some .int }, accessFlags := 9, code := some k2c1 }
/-- java/lang/Math -/
def k2 : Class := { plain "java/lang/Math" (some 0) with
  accessFlags := 49
  interfaces := #[]
  cf := some (fileOf pool2 1 #[.nestMembers #[98]] #[{ accessFlags := 2, nameIndex := 7, descriptorIndex := 8, attributes := #[] }, { accessFlags := 9, nameIndex := 198, descriptorIndex := 335, attributes := #[] }] 49 4 #[] #[{ accessFlags := 25, nameIndex := 354, descriptorIndex := 339, attributes := #[] }, { accessFlags := 25, nameIndex := 358, descriptorIndex := 339, attributes := #[] }, { accessFlags := 25, nameIndex := 361, descriptorIndex := 339, attributes := #[] }, { accessFlags := 26, nameIndex := 364, descriptorIndex := 339, attributes := #[] }, { accessFlags := 26, nameIndex := 365, descriptorIndex := 339, attributes := #[] }, { accessFlags := 26, nameIndex := 172, descriptorIndex := 173, attributes := #[] }, { accessFlags := 26, nameIndex := 176, descriptorIndex := 173, attributes := #[] }, { accessFlags := 8, nameIndex := 344, descriptorIndex := 339, attributes := #[] }, { accessFlags := 8, nameIndex := 338, descriptorIndex := 339, attributes := #[] }, { accessFlags := 4120, nameIndex := 245, descriptorIndex := 246, attributes := #[] }])
  fields := #[{ name := "E", type := .double, accessFlags := 25, slot := 0, constantValue := 0 }, { name := "PI", type := .double, accessFlags := 25, slot := 1, constantValue := 0 }, { name := "TAU", type := .double, accessFlags := 25, slot := 2, constantValue := 0 }, { name := "DEGREES_TO_RADIANS", type := .double, accessFlags := 26, slot := 3, constantValue := 0 }, { name := "RADIANS_TO_DEGREES", type := .double, accessFlags := 26, slot := 4, constantValue := 0 }, { name := "negativeZeroFloatBits", type := .long, accessFlags := 26, slot := 5, constantValue := 0 }, { name := "negativeZeroDoubleBits", type := .long, accessFlags := 26, slot := 6, constantValue := 0 }, { name := "twoToTheDoubleScaleUp", type := .double, accessFlags := 8, slot := 7, constantValue := 0 }, { name := "twoToTheDoubleScaleDown", type := .double, accessFlags := 8, slot := 8, constantValue := 0 }, { name := "$assertionsDisabled", type := .boolean, accessFlags := 4120, slot := 9, constantValue := 0 }]
  methods := #[k2m0, k2m1]
  instanceTypes := #[]
  staticTypes := #[.double, .double, .double, .double, .double, .long, .long, .double, .double, .boolean]
  resolved := Array.replicate 460 none
  statics := none }

def pool3 : Array CpInfo := pool [(2, .class_ 4), (1, u "java/lang/Object"), (0, u "<init>"), (0, u "()V"), (9, .class_ 17), (0, u "com/example/lifetable/lifetable/run/Seeds"), (0, .long 11400714819323198485), (1, .long 13787848793156543929), (1, .long 10723151780598845931), (1, u "GAMMA"), (0, u "J"), (1, u "FIRST_MULTIPLIER"), (0, u "SECOND_MULTIPLIER"), (2, u "ofRun"), (0, u "(JI)J")] 18

def k3m0 : Method := { name := "<init>", desc := "()V", sig := { parameters := [], returnType := none }, accessFlags := 2, code := none }
def k3c1 : Code := { maxStack := 6, maxLocals := 7, code := prog_51_method_2_code, exceptionTable := #[], attributes := #[] }
def k3m1 : Method := { name := "ofRun", desc := "(JI)J", sig := { parameters := [.long, .int], returnType := some .long }, accessFlags := 9, code := some k3c1 }
/-- com/example/lifetable/lifetable/run/Seeds -/
def k3 : Class := { plain "com/example/lifetable/lifetable/run/Seeds" (some 0) with
  accessFlags := 49
  interfaces := #[]
  cf := some (fileOf pool3 16 #[] #[{ accessFlags := 2, nameIndex := 5, descriptorIndex := 6, attributes := #[] }, { accessFlags := 9, nameIndex := 31, descriptorIndex := 32, attributes := #[] }] 49 2 #[] #[{ accessFlags := 26, nameIndex := 24, descriptorIndex := 25, attributes := #[] }, { accessFlags := 26, nameIndex := 27, descriptorIndex := 25, attributes := #[] }, { accessFlags := 26, nameIndex := 28, descriptorIndex := 25, attributes := #[] }])
  fields := #[{ name := "GAMMA", type := .long, accessFlags := 26, slot := 0, constantValue := 0 }, { name := "FIRST_MULTIPLIER", type := .long, accessFlags := 26, slot := 1, constantValue := 0 }, { name := "SECOND_MULTIPLIER", type := .long, accessFlags := 26, slot := 2, constantValue := 0 }]
  methods := #[k3m0, k3m1]
  instanceTypes := #[]
  staticTypes := #[.long, .long, .long]
  resolved := Array.replicate 51 none
  statics := none }

def pool4 : Array CpInfo := pool [(1, u "java/lang/Cloneable"), (0, .class_ 1), (0, u "java/lang/Object"), (0, .class_ 3)] 3

/-- java/lang/Cloneable -/
def k4 : Class := { plain "java/lang/Cloneable" (some 0) with
  accessFlags := 1537
  interfaces := #[]
  cf := some (fileOf pool4 2 #[] #[] 1537 4 #[] #[])
  fields := #[]
  methods := #[]
  instanceTypes := #[]
  staticTypes := #[]
  resolved := Array.replicate 8 none
  statics := none }

def pool5 : Array CpInfo := pool [(1, u "java/io/Serializable"), (0, .class_ 1), (0, u "java/lang/Object"), (0, .class_ 3)] 3

/-- java/io/Serializable -/
def k5 : Class := { plain "java/io/Serializable" (some 0) with
  accessFlags := 1537
  interfaces := #[]
  cf := some (fileOf pool5 2 #[] #[] 1537 4 #[] #[])
  fields := #[]
  methods := #[]
  instanceTypes := #[]
  staticTypes := #[]
  resolved := Array.replicate 8 none
  statics := none }

/-- the primitive byte -/
def k6 : Class := { plain "byte" none with kind := .primitive 'B', accessFlags := 0x411 }
/-- [B -/
def k7 : Class := { plain "[B" (some 0) with kind := .array 6 .byte, interfaces := #[4, 5], accessFlags := 1041 }

/-- the primitive int -/
def k8 : Class := { plain "int" none with kind := .primitive 'I', accessFlags := 0x411 }
/-- [I -/
def k9 : Class := { plain "[I" (some 0) with kind := .array 8 .int, interfaces := #[4, 5], accessFlags := 1041 }

def heap : Heap := #[]
def classes : Array Class := #[k0, k1, k2, k3, k4, k5, k6, k7, k8, k9]
def interned : List (Array UInt16 × Addr) := []
def slotsUsed : Nat := 0
def theMethod : MethodId := ⟨1, 2⟩
def args0 : Array Value := #[.long 5, .int 3]
def aboutOver (below : List Frame) : State where
  vm := { classes := classes, interned := interned.toArray }
  heap := heap
  slotsUsed := slotsUsed
  threads := #[{ frames := .invoking theMethod args0 :: below }]
def below0 : List Frame := [.native { method := ⟨0, 0⟩, args := #[] }]
def about1 : State := aboutOver below0
def p0 : Program := .bare "" "" ""
def e0 : Env := launch0.env 0 0 0
theorem w_frames : about1.frames = Frame.invoking theMethod args0 :: below0 := rfl
set_option maxRecDepth 65536 in
theorem w_args : argsFit about1.vm theMethod args0 = true := by decide +kernel
set_option maxRecDepth 65536 in
theorem w_heap : heapFits about1 = true := by decide +kernel
set_option maxRecDepth 65536 in
theorem w_runnable : about1.curStatus? = some .runnable := by decide +kernel
set_option maxRecDepth 65536 in
theorem w_alone : about1.alone = true := by decide +kernel
set_option maxRecDepth 65536 in
theorem w_named : about1.methodNamed? x = some theMethod := by decide +kernel
set_option maxRecDepth 65536 in
theorem w_hears : about1.hears theMethod below0 = true := by decide +kernel
set_option maxRecDepth 65536 in
theorem w_ripe : about1.ripe theMethod args0 below0 = true := by decide +kernel
theorem w_running : about1.status = .running := rfl
set_option maxRecDepth 65536 in
theorem w_room : about1.hasRoom e0.platform room_1 = true :=
  launch0.hasRoom_least _ room_1 (by decide +kernel) (by decide +kernel) (by decide +kernel) (by decide +kernel) (by decide +kernel) (by decide +kernel)
theorem allAtoms_all (ts : List Jvm.Cond) (a : Array Jvm.Value) (st : Jvm.State) : (allAtoms ts).before a st = ts.all (fun c => c.before a st) := by
  induction ts with
  | nil => rfl
  | cons c t ih =>
    show (Jvm.Cond.and c (allAtoms t)).before a st = _
    rw [Jvm.Cond.before_and, ih, List.all_cons]
def words1 : List Jvm.Cond := Jvm.Cond.code x code maxLocals ret :: tables_1
/-- a 'code' word, met by the world's own term for the bytes: nothing is compared byte by byte -/
theorem code_word {y : MethodName} {bytes : ByteArray} {mx : Nat} {rt : Option FieldType} {a : Array Value} {s : State} {m : MethodId} {meth : Method} {c : Code} (h1 : s.methodNamed? y = some m) (h2 : s.vm.method? m = some meth) (h3 : meth.code = some c) (h4 : c.code = bytes)
    (h5 : (c.maxLocals == mx && c.exceptionTable.isEmpty && decide (c.maxStack ≤ mostOperands) && decide (meth.sig.returnType = rt) && !meth.locks && decide (parseMethodDescriptor y.desc = some meth.sig)) = true) : (Jvm.Cond.code y bytes mx rt).before a s = true := by
  simp only [Bool.and_eq_true, beq_iff_eq, Bool.not_eq_true', decide_eq_true_eq] at h5
  obtain ⟨⟨⟨⟨⟨g1, g2⟩, g3⟩, g4⟩, g5⟩, g6⟩ := h5
  simp [Cond.before, Cond.holds, Cond.value, h1, h2, h3, h4, g1, g2, g3, g4, g5, g6]
def isCode : Jvm.Cond → Bool
  | .code _ _ _ _ => true
  | _ => false
theorem all_split {L : List Jvm.Cond} {P : Jvm.Cond → Bool} (h1 : L.all (fun c => isCode c || P c) = true) (h2 : ∀ c ∈ L.filter isCode, P c = true) : L.all P = true := by
  refine List.all_eq_true.mpr fun c hc => ?_
  have h := List.all_eq_true.mp h1 c hc
  rcases Bool.eq_false_or_eq_true (isCode c) with hi | hi
  · exact h2 c (List.mem_filter.mpr ⟨hc, hi⟩)
  · simpa [hi] using h
set_option maxRecDepth 65536 in
theorem w_c0 : (Jvm.Cond.code x code maxLocals ret).before args0 about1 = true := code_word (m := ⟨1, 2⟩) (meth := k1m2) (c := k1c2) (by decide +kernel) rfl rfl rfl (by decide +kernel)
set_option maxRecDepth 65536 in
theorem w_c1 : (Jvm.Cond.code ({ cls := "java/lang/Math", name := "max", desc := "(II)I" } : Jvm.MethodName) jdk_29_method_65_code (2 : Nat) (Option.some Jvm.ClassFile.FieldType.int)).before args0 about1 = true := code_word (m := ⟨2, 1⟩) (meth := k2m1) (c := k2c1) (by decide +kernel) rfl rfl rfl (by decide +kernel)
set_option maxRecDepth 65536 in
theorem w_c2 : (Jvm.Cond.code ({ cls := "com/example/lifetable/lifetable/run/Seeds", name := "ofRun", desc := "(JI)J" } : Jvm.MethodName) prog_51_method_2_code (7 : Nat) (Option.some Jvm.ClassFile.FieldType.long)).before args0 about1 = true := code_word (m := ⟨3, 1⟩) (meth := k3m1) (c := k3c1) (by decide +kernel) rfl rfl rfl (by decide +kernel)
set_option maxRecDepth 65536 in
theorem w_c3 : (Jvm.Cond.code ({ cls := "com/example/lifetable/lifetable/run/SeedsOfRunPinLaw", name := "unmix", desc := "(J)J" } : Jvm.MethodName) method_2_code (4 : Nat) (Option.some Jvm.ClassFile.FieldType.long)).before args0 about1 = true := code_word (m := ⟨1, 1⟩) (meth := k1m1) (c := k1c1) (by decide +kernel) rfl rfl rfl (by decide +kernel)
def codes1 : List Jvm.Cond := [Jvm.Cond.code x code maxLocals ret, Jvm.Cond.code ({ cls := "java/lang/Math", name := "max", desc := "(II)I" } : Jvm.MethodName) jdk_29_method_65_code (2 : Nat) (Option.some Jvm.ClassFile.FieldType.int), Jvm.Cond.code ({ cls := "com/example/lifetable/lifetable/run/Seeds", name := "ofRun", desc := "(JI)J" } : Jvm.MethodName) prog_51_method_2_code (7 : Nat) (Option.some Jvm.ClassFile.FieldType.long), Jvm.Cond.code ({ cls := "com/example/lifetable/lifetable/run/SeedsOfRunPinLaw", name := "unmix", desc := "(J)J" } : Jvm.MethodName) method_2_code (4 : Nat) (Option.some Jvm.ClassFile.FieldType.long)]
set_option maxRecDepth 65536 in
theorem codes_eq : words1.filter isCode = codes1 := rfl
theorem w_codes : ∀ c ∈ words1.filter isCode, c.before args0 about1 = true := by
  rw [codes_eq]
  intro c hc
  simp only [codes1, List.mem_cons, List.not_mem_nil, or_false] at hc
  rcases hc with rfl | rfl | rfl | rfl
  · exact w_c0
  · exact w_c1
  · exact w_c2
  · exact w_c3
set_option maxRecDepth 65536 in
theorem w_t1 : words1.all (fun c => isCode c || c.before args0 about1) = true := by decide +kernel
theorem w_tables : (allAtoms (Jvm.Cond.code x code maxLocals ret :: tables_1)).before args0 about1 = true := by
  rw [allAtoms_all]
  show words1.all (fun c => c.before args0 about1) = true
  refine all_split ?_ w_codes
  rw [w_t1]
set_option maxRecDepth 65536 in
theorem w_case : (Jvm.Cond.and given_1 narrow_1).before args0 about1 = true := by decide +kernel
theorem w_applies : (headSpec (Jvm.Cond.code x code maxLocals ret :: tables_1) room_1).applies x e0.platform about1 = true :=
  (Spec.applies_iff w_frames).mpr ⟨w_running, w_runnable, w_alone, w_named, w_hears, w_ripe, w_room, w_tables⟩
theorem atStart : AtStart classFile x code maxLocals ret World_1 tables_1 room_1 Calls_1 rest_1 Pre_1 launch0 p0 e0 about1 theMethod args0 below0 :=
  ⟨lists_1, trivial, launch0.admits_env _ _ _, launch0.least_env, fairChoices_fair.cas, fairChoices_fair.clock, w_frames, w_args, w_heap, w_applies, trivial, trivial, w_case⟩
end start1
theorem witness_1 : WitnessClaimed_1 := ⟨start1.p0, start1.e0, start1.about1, start1.theMethod, start1.args0, start1.below0, start1.atStart⟩
end Jvm.Pilot.@@N@@
