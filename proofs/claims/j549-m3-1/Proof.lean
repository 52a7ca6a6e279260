import JvmDerived
import JvmDerived.Pilot.@@N@@Statement
import JvmDerived.Pilot.@@N@@Code
set_option linter.unusedVariables false
set_option linter.unusedSimpArgs false
namespace Jvm.RoadKit
open Sem ClassFile Op Lib Jvm.Stand Jvm.Free Jvm.LawKit
section New
variable {p : Program} {l : Launch} {e : Env} {R : Room} {s : State} {m : MethodId} {args : Array Value} {below : List Frame} {meth : Method} {c : Code} {T : State} {locs : List Loc} {cells slots : Nat}
theorem retI (X : Stand p l e R s m args below meth c T locs cells slots) (hx : p.tables.exec = Jvm.exec) {pc : Nat} {Ls : Array Slot} {z : Int32} {rest : List Value} (hret : meth.sig.returnType = some .int) (hd : decode c.code pc = .ok (.ireturn, 1)) {fs : List Frame}
    (hl : ∀ (f : JFrame) (acts : List Action), f.method = m → f.locked = none → f.entered = [] → (doReturn e (T.setTop f) acts (some (.int z))).1 = T.setFrames fs) : Steps p.tables e below (T.setTop (mkF m pc Ls (.int z :: rest))) (T.setFrames fs) := by
  have hm' : T.vm.method? m = some meth := X.method'
  have hn : narrow .int (.int z) = .int z := rfl
  show Steps p.tables e below (T.setTop { method := m, pc := pc, locals := Ls, stack := _ :: rest, locked := none }) _
  jvm_step X.here [X.here.top, hx, hd, hm', hret, hn]
  first | (intro acts; rw [hl _ acts rfl rfl rfl]) | rw [hl _ _ rfl rfl rfl]
  exact Steps.refl _
theorem own_retJ (X : Stand p l e R s m args below meth c T locs cells slots) (hx : p.tables.exec = Jvm.exec) {pc : Nat} {Ls : Array Slot} {z : Int64} {rest : List Value} (hret : meth.sig.returnType = some .long) (hd : decode c.code pc = .ok (.lreturn, 1)) {fs : List Frame}
    (hl : ∀ (f : JFrame) (acts : List Action), f.method = m → f.locked = none → f.entered = [] → (doReturn e (T.setTop f) acts (some (.long z))).1 = T.setFrames fs) : Steps p.tables e below (T.setTop (mkF m pc Ls (.long z :: rest))) (T.setFrames fs) := by
  have hm' : T.vm.method? m = some meth := X.method'
  show Steps p.tables e below (T.setTop { method := m, pc := pc, locals := Ls, stack := _ :: rest, locked := none }) _
  jvm_step X.here [X.here.top, hx, hd, hm', hret, narrow]
  first | (intro acts; rw [hl _ acts rfl rfl rfl]) | rw [hl _ _ rfl rfl rfl]
  exact Steps.refl _
theorem own_retA (X : Stand p l e R s m args below meth c T locs cells slots) (hx : p.tables.exec = Jvm.exec) {pc : Nat} {Ls : Array Slot} {z : Addr} {rest : List Value} {ty : FieldType} (hret : meth.sig.returnType = some ty) (hty : ty.isReference = true) (hd : decode c.code pc = .ok (.areturn, 1)) {fs : List Frame}
    (hl : ∀ (f : JFrame) (acts : List Action), f.method = m → f.locked = none → f.entered = [] → (doReturn e (T.setTop f) acts (some (.ref z))).1 = T.setFrames fs) : Steps p.tables e below (T.setTop (mkF m pc Ls (.ref z :: rest))) (T.setFrames fs) := by
  have hm' : T.vm.method? m = some meth := X.method'
  show Steps p.tables e below (T.setTop { method := m, pc := pc, locals := Ls, stack := _ :: rest, locked := none }) _
  jvm_step X.here [X.here.top, hx, hd, hm', hret, hty, Value.isRef]
  first | (intro acts; rw [hl _ acts rfl rfl rfl]) | rw [hl _ _ rfl rfl rfl]
  exact Steps.refl _
end New
end Jvm.RoadKit
namespace Jvm.Pilot.@@N@@
open Jvm Jvm.ClassFile Sem Op Lib Jvm.Free Jvm.Stand Jvm.LawKit Jvm.RoadKit Bundle Jvm.Pilot.@@N@@.Jvm.D
/-- a body that leaves the heap as it is and returns w -/
def QV (w : Value) (h0 : Heap) (n0 : Nat) (v : Option Value) (h : Heap) (L : List Loc) : Prop := v = some w ∧ Fr n0 L ∧ h = h0
def QL (n0 : Nat) (v : Option Value) (h : Heap) (L : List Loc) : Prop := v = some (.int 1) ∧ Fr n0 L
theorem own_eqv {args : Array Value} {first s : State} {o : Option Outcome} {idx : List Nat} {t : Term} {k : Int32} (h : (Jvm.Cond.eq t (.int k)).value args first o s idx = some true) : t.eval args first o idx s = some (.int k) := by
  obtain ⟨x, y, e1, e2, -, -⟩ := cmp_v (Or.inl h)
  obtain rfl : y = .int k := (Option.some.inj e2).symm
  have e3 : (Term.int k).eval args first o idx s = some (.int k) := rfl
  cases x <;> simp [Cond.value, e1, e3] at h ⊢
  exact h
theorem own_shl (x : Int64) (y : Int32) (k : Nat) (h : ((y &&& 0x3f).toInt64.toBitVec.smod 64) = BitVec.ofNat 64 k) (hk : k < 64 := by decide) : (x <<< (y &&& 0x3f).toInt64).toBitVec = x.toBitVec <<< k := by
  rw [Int64.toBitVec_shiftLeft, h]
  show x.toBitVec <<< (BitVec.ofNat 64 k).toNat = _
  rw [BitVec.toNat_ofNat, Nat.mod_eq_of_lt (Nat.lt_trans hk (by decide))]
/-- a shifted number has no bit below the shift -/
theorem own_lowbit (x : Int64) (y : Int32) (k j : Nat) (h : ((y &&& 0x3f).toInt64.toBitVec.smod 64) = BitVec.ofNat 64 k) (hk : k < 64) (hj : j < k) : (x <<< (y &&& 0x3f).toInt64) &&& Int64.ofNat (2 ^ j) = 0 := by
  apply Int64.toBitVec_inj.mp
  rw [Int64.toBitVec_and, own_shl x y k h hk]
  apply BitVec.eq_of_getLsbD_eq
  intro i hi
  have e1 : (Int64.ofNat (2 ^ j)).toBitVec = BitVec.ofNat 64 (2 ^ j) := rfl
  have e0 : (Int64.toBitVec 0).getLsbD i = false := by show (0#64).getLsbD i = false; simp
  rw [e1, e0]
  simp only [BitVec.getLsbD_and, BitVec.getLsbD_shiftLeft, BitVec.getLsbD_ofNat, Nat.testBit_two_pow]
  by_cases hij : j = i
  · subst hij; simp [hj]
  · simp [hij]
theorem own_and_or (a b c : Int64) : (a ||| b) &&& c = (a &&& c) ||| (b &&& c) := by
  apply Int64.toBitVec_inj.mp
  simp only [Int64.toBitVec_and, Int64.toBitVec_or]
  apply BitVec.eq_of_getLsbD_eq
  intro i hi
  simp only [BitVec.getLsbD_and, BitVec.getLsbD_or]
  cases a.toBitVec.getLsbD i <;> cases b.toBitVec.getLsbD i <;> cases c.toBitVec.getLsbD i <;> rfl
theorem own_of4 (a b c : Int64) (m : Int64) (o : Int32) (ho : o = 0 ∨ o = 1 ∨ o = 2 ∨ o = 3) (hm : m = 0 ∨ m = 4) :
   (((((a <<< ((32 : Int32) &&& 0x3f).toInt64) ||| (b <<< ((16 : Int32) &&& 0x3f).toInt64)) ||| (c <<< ((4 : Int32) &&& 0x3f).toInt64)) ||| m) ||| o.toInt64) &&& (4 : Int64) = m := by
  have e1 := own_lowbit a 32 32 2 (by decide) (by decide) (by decide)
  have e2 := own_lowbit b 16 16 2 (by decide) (by decide) (by decide)
  have e3 := own_lowbit c 4 4 2 (by decide) (by decide) (by decide)
  have e4 : Int64.ofNat (2 ^ 2) = 4 := rfl
  rw [e4] at e1 e2 e3
  simp only [own_and_or, e1, e2, e3]
  rcases ho with rfl | rfl | rfl | rfl <;> rcases hm with rfl | rfl <;> decide
theorem own_of8 (a b c : Int64) (m : Int64) (o : Int32) (ho : o = 0 ∨ o = 1 ∨ o = 2 ∨ o = 3) (hm : m = 0 ∨ m = 4) :
   (((((a <<< ((32 : Int32) &&& 0x3f).toInt64) ||| (b <<< ((16 : Int32) &&& 0x3f).toInt64)) ||| (c <<< ((4 : Int32) &&& 0x3f).toInt64)) ||| m) ||| o.toInt64) &&& (8 : Int64) = 0 := by
  have e1 := own_lowbit a 32 32 3 (by decide) (by decide) (by decide)
  have e2 := own_lowbit b 16 16 3 (by decide) (by decide) (by decide)
  have e3 := own_lowbit c 4 4 3 (by decide) (by decide) (by decide)
  have e4 : Int64.ofNat (2 ^ 3) = 8 := rfl
  rw [e4] at e1 e2 e3
  simp only [own_and_or, e1, e2, e3]
  rcases ho with rfl | rfl | rfl | rfl <;> rcases hm with rfl | rfl <;> decide
theorem own_pack (a b : Int64) : (((a <<< ((32 : Int32) &&& 0x3f).toInt64) ||| (b <<< ((16 : Int32) &&& 0x3f).toInt64)) ||| (8 : Int64)) &&& (4 : Int64) = 0 := by
  have e1 := own_lowbit a 32 32 2 (by decide) (by decide) (by decide)
  have e2 := own_lowbit b 16 16 2 (by decide) (by decide) (by decide)
  have e4 : Int64.ofNat (2 ^ 2) = 4 := rfl
  rw [e4] at e1 e2
  simp only [own_and_or, e1, e2]
  decide
theorem own_pack8 (a b : Int64) : (((a <<< ((32 : Int32) &&& 0x3f).toInt64) ||| (b <<< ((16 : Int32) &&& 0x3f).toInt64)) ||| (8 : Int64)) &&& (8 : Int64) = 8 := by
  have e1 := own_lowbit a 32 32 3 (by decide) (by decide) (by decide)
  have e2 := own_lowbit b 16 16 3 (by decide) (by decide) (by decide)
  have e4 : Int64.ofNat (2 ^ 3) = 8 := rfl
  rw [e4] at e1 e2
  simp only [own_and_or, e1, e2]
  decide
theorem own_or8 (a : Int64) : (a ||| (8 : Int64)) &&& (8 : Int64) = 8 := by
  apply Int64.toBitVec_inj.mp
  simp only [Int64.toBitVec_and, Int64.toBitVec_or]
  apply BitVec.eq_of_getLsbD_eq
  intro i hi
  simp only [BitVec.getLsbD_and, BitVec.getLsbD_or]
  cases a.toBitVec.getLsbD i <;> cases (Int64.toBitVec 8).getLsbD i <;> rfl
theorem own_and9 (a : Int64) : (a &&& (-9 : Int64)) &&& (8 : Int64) = 0 := by
  rw [Int64.and_assoc]; have : (-9 : Int64) &&& 8 = 0 := by decide
  rw [this, Int64.and_zero]
theorem d1_0 : decode method_2_code 0 = .ok (.iload_n 0, 1) := by decide +kernel
theorem d1_1 : decode method_2_code 1 = .ok (.iconst 3, 1) := by decide +kernel
theorem d1_2 : decode method_2_code 2 = .ok (.iand, 1) := by decide +kernel
theorem d1_3 : decode method_2_code 3 = .ok (.istore_n 1, 1) := by decide +kernel
theorem d1_4 : decode method_2_code 4 = .ok (.iload_n 1, 1) := by decide +kernel
theorem d1_5 : decode method_2_code 5 = .ok (.ifCond .ne 7, 3) := by decide +kernel
theorem d1_8 : decode method_2_code 8 = .ok (.getstatic 7, 3) := by decide +kernel
theorem d1_11 : decode method_2_code 11 = .ok (.areturn, 1) := by decide +kernel
theorem d1_12 : decode method_2_code 12 = .ok (.iload_n 1, 1) := by decide +kernel
theorem d1_13 : decode method_2_code 13 = .ok (.iconst 1, 1) := by decide +kernel
theorem d1_14 : decode method_2_code 14 = .ok (.if_icmp .ne 7, 3) := by decide +kernel
theorem d1_17 : decode method_2_code 17 = .ok (.getstatic 13, 3) := by decide +kernel
theorem d1_20 : decode method_2_code 20 = .ok (.areturn, 1) := by decide +kernel
theorem d1_21 : decode method_2_code 21 = .ok (.iload_n 1, 1) := by decide +kernel
theorem d1_22 : decode method_2_code 22 = .ok (.iconst 2, 1) := by decide +kernel
theorem d1_23 : decode method_2_code 23 = .ok (.if_icmp .ne 7, 3) := by decide +kernel
theorem d1_26 : decode method_2_code 26 = .ok (.getstatic 16, 3) := by decide +kernel
theorem d1_29 : decode method_2_code 29 = .ok (.areturn, 1) := by decide +kernel
theorem d1_30 : decode method_2_code 30 = .ok (.getstatic 19, 3) := by decide +kernel
theorem d1_33 : decode method_2_code 33 = .ok (.areturn, 1) := by decide +kernel
theorem pn_1 : plainName "pushwise/StepsIsPackingPinLaw" = true := by first | (simp [plainName, overriddenIn]; done) | decide +kernel
theorem ef_rm1 (m : MethodId) (dd : Int32) : entryFrame m #[(.int dd)] 2 = mkF m 0 #[.val (.int dd), .unset] [] := by first | (simp [entryFrame, mkF, argsToLocals, Value.category]; done) | rfl
set_option maxRecDepth 65536 in
set_option maxHeartbeats 40000000 in
theorem rm1 (l : Launch) (Z : State) (a0 : Array Value) (hw : ∀ d ∈ tables_1, d.before a0 Z = true) (ws : List Jvm.Cond) (dd : Int32) (w_LEFT w_UP w_RIGHT w_DOWN : Addr) (h0 : Heap) (n0 : Nat) (S_LEFT : Sta Z h0 "pushwise/Direction" "LEFT" "Lpushwise/Direction;" (.ref w_LEFT)) (S_UP : Sta Z h0 "pushwise/Direction" "UP" "Lpushwise/Direction;" (.ref w_UP)) (S_RIGHT : Sta Z h0 "pushwise/Direction" "RIGHT" "Lpushwise/Direction;" (.ref w_RIGHT)) (S_DOWN : Sta Z h0 "pushwise/Direction" "DOWN" "Lpushwise/Direction;" (.ref w_DOWN)) :
    MetFree l (⟨"pushwise/StepsIsPackingPinLaw", "dir", "(I)Lpushwise/Direction;"⟩ : MethodName) (head1 (Jvm.Cond.code (⟨"pushwise/StepsIsPackingPinLaw", "dir", "(I)Lpushwise/Direction;"⟩ : MethodName) method_2_code 2 (some (.object "pushwise/Direction")) :: ws) ({ frames := 0, cells := 0, slots := 0, locals := 0 } : Room)) (fun a_ U_ => a_ = #[(.int dd)] ∧ Z.Warmed39 U_.vm ∧ U_.heap = h0) (fun _ _ _ _ _ => True) (fun _ U_ o_ U'_ => ∃ v_ L_, o_ = .returned v_ ∧ QV (.ref (if (dd &&& (3 : Int32)) = (0 : Int32) then w_LEFT else (if (dd &&& (3 : Int32)) = (1 : Int32) then w_UP else (if (dd &&& (3 : Int32)) = (2 : Int32) then w_RIGHT else w_DOWN)))) h0 n0 v_ U'_.heap L_ ∧ FrameEnd U_ o_ U'_ L_ ({ frames := 0, cells := 0, slots := 0, locals := 0 } : Room).cells ({ frames := 0, cells := 0, slots := 0, locals := 0 } : Room).slots) := by
  refine MetFree.of_bodySF (plainFor_of_name pn_1) hisR ?_
  intro p e s m args below meth c s₁ Bd hml0 hP hK
  obtain ⟨rfl, hZ, hh⟩ := hP
  have hx := Bd.exec
  have hby := Bd.bytes
  have hml : c.maxLocals = 2 := hml0
  have hown : s.vm.findClass "pushwise/StepsIsPackingPinLaw" = some m.cls := findClass_of_methodNamed Bd.named
  have hnm := (name_of_methodNamed Bd.named Bd.method).1
  have X0 : Stand p l e ({ frames := 0, cells := 0, slots := 0, locals := 0 } : Room) s m #[(.int dd)] below meth c s₁ [] 0 0 := Stand.of_body Bd
  have e0 : s₁.heap = h0 := by rw [← hh, Bd.state]; rfl
  have N0 := Fr.nil n0
  have k0 : ∀ tg, Steps p.tables e below (s₁.setTop (mkF m 0 #[.val (.int dd), .unset] [])) tg → Steps p.tables e below (s₁.setTop (entryFrame m #[(.int dd)] 2)) tg := fun tg k => castTop (ef_rm1 m dd) k
  have k1 : ∀ tg, Steps p.tables e below (s₁.setTop (mkF m 5 #[.val (.int dd), .val (.int (dd &&& (3 : Int32)))] [(.int (dd &&& (3 : Int32)))])) tg → Steps p.tables e below (s₁.setTop (entryFrame m #[(.int dd)] 2)) tg := by
    intro tg kt
    refine k0 tg ?_
    show Steps p.tables e below (s₁.setTop (mkF m 0 #[.val (.int dd), .unset] [])) _
    refine XS.iloadN X0.here hx rfl (hb hby d1_0) rfl ?_
    show Steps p.tables e below (s₁.setTop (mkF m 1 #[.val (.int dd), .unset] [(.int dd)])) _
    refine XS.iconst X0.here hx rfl (hb hby d1_1) ?_
    show Steps p.tables e below (s₁.setTop (mkF m 2 #[.val (.int dd), .unset] [(.int (3 : Int32)), (.int dd)])) _
    refine XS.iand X0.here hx rfl (hb hby d1_2) rfl ?_
    show Steps p.tables e below (s₁.setTop (mkF m 3 #[.val (.int dd), .unset] [(.int (dd &&& (3 : Int32)))])) _
    refine XS.istoreN X0.here hx rfl (hb hby d1_3) rfl (l' := #[.val (.int dd), .val (.int (dd &&& (3 : Int32)))]) rfl ?_
    show Steps p.tables e below (s₁.setTop (mkF m 4 #[.val (.int dd), .val (.int (dd &&& (3 : Int32)))] [])) _
    refine XS.iloadN X0.here hx rfl (hb hby d1_4) rfl ?_
    show Steps p.tables e below (s₁.setTop (mkF m 5 #[.val (.int dd), .val (.int (dd &&& (3 : Int32)))] [(.int (dd &&& (3 : Int32)))])) _
    exact kt
  by_cases hc2 : (dd &&& (3 : Int32)) = (0 : Int32)
  · obtain ⟨T3, X3, e3, st3⟩ := getS2 X0 hx hZ hown (host := "") (Or.inl (hw _ (List.mem_of_getElem? (i := 32) rfl))) Via.refl e0 S_LEFT (g := (mkF m 8 #[.val (.int dd), .val (.int (dd &&& (3 : Int32)))] [])) rfl (hb hby d1_8)
    have k4 : ∀ tg, Steps p.tables e below (T3.setTop (mkF m 11 #[.val (.int dd), .val (.int (dd &&& (3 : Int32)))] [(.ref w_LEFT)])) tg → Steps p.tables e below (s₁.setTop (entryFrame m #[(.int dd)] 2)) tg := by
      intro tg kt
      refine k1 tg ?_
      refine XS.ifNo X0.here hx rfl (hb hby d1_5) rfl ((if0 _ _).trans (teq hc2).2) ?_
      show Steps p.tables e below (s₁.setTop (mkF m 8 #[.val (.int dd), .val (.int (dd &&& (3 : Int32)))] [])) _
      refine st3 _ ?_
      show Steps p.tables e below (T3.setTop (mkF m 11 #[.val (.int dd), .val (.int (dd &&& (3 : Int32)))] [(.ref w_LEFT)])) _
      exact kt
    obtain ⟨fs, hr, hrun, hended, hW, hsame⟩ := X3.leave (v := some (.ref w_LEFT)) (fun h => by rw [Bd.returns] at h; cases h)
    refine ⟨_, _, k4 _ ?_, hrun, hended, _, _, rfl, ?_, ⟨_, rfl⟩, hW, hsame.mono (by decide) (by decide)⟩
    · exact own_retA X3 hx Bd.returns rfl (hb hby d1_11) hr
    · show QV _ h0 n0 _ T3.heap _
      exact ⟨by rw [if_pos hc2], N0, e3⟩
  · have k5 : ∀ tg, Steps p.tables e below (s₁.setTop (mkF m 14 #[.val (.int dd), .val (.int (dd &&& (3 : Int32)))] [(.int (1 : Int32)), (.int (dd &&& (3 : Int32)))])) tg → Steps p.tables e below (s₁.setTop (entryFrame m #[(.int dd)] 2)) tg := by
      intro tg kt
      refine k1 tg ?_
      refine XS.ifYes X0.here hx rfl (pc0 := 5) (pc' := 12) rfl (hb hby d1_5) rfl ((if0 _ _).trans (feq hc2).2) (by decide) (by decide) ?_
      show Steps p.tables e below (s₁.setTop (mkF m 12 #[.val (.int dd), .val (.int (dd &&& (3 : Int32)))] [])) _
      refine XS.iloadN X0.here hx rfl (hb hby d1_12) rfl ?_
      show Steps p.tables e below (s₁.setTop (mkF m 13 #[.val (.int dd), .val (.int (dd &&& (3 : Int32)))] [(.int (dd &&& (3 : Int32)))])) _
      refine XS.iconst X0.here hx rfl (hb hby d1_13) ?_
      show Steps p.tables e below (s₁.setTop (mkF m 14 #[.val (.int dd), .val (.int (dd &&& (3 : Int32)))] [(.int (1 : Int32)), (.int (dd &&& (3 : Int32)))])) _
      exact kt
    by_cases hc6 : (dd &&& (3 : Int32)) = (1 : Int32)
    · obtain ⟨T7, X7, e7, st7⟩ := getS2 X0 hx hZ hown (host := "") (Or.inl (hw _ (List.mem_of_getElem? (i := 5) rfl))) Via.refl e0 S_UP (g := (mkF m 17 #[.val (.int dd), .val (.int (dd &&& (3 : Int32)))] [])) rfl (hb hby d1_17)
      have k8 : ∀ tg, Steps p.tables e below (T7.setTop (mkF m 20 #[.val (.int dd), .val (.int (dd &&& (3 : Int32)))] [(.ref w_UP)])) tg → Steps p.tables e below (s₁.setTop (entryFrame m #[(.int dd)] 2)) tg := by
        intro tg kt
        refine k5 tg ?_
        refine XS.icmpNo X0.here hx rfl (hb hby d1_14) rfl (teq hc6).2 ?_
        show Steps p.tables e below (s₁.setTop (mkF m 17 #[.val (.int dd), .val (.int (dd &&& (3 : Int32)))] [])) _
        refine st7 _ ?_
        show Steps p.tables e below (T7.setTop (mkF m 20 #[.val (.int dd), .val (.int (dd &&& (3 : Int32)))] [(.ref w_UP)])) _
        exact kt
      obtain ⟨fs, hr, hrun, hended, hW, hsame⟩ := X7.leave (v := some (.ref w_UP)) (fun h => by rw [Bd.returns] at h; cases h)
      refine ⟨_, _, k8 _ ?_, hrun, hended, _, _, rfl, ?_, ⟨_, rfl⟩, hW, hsame.mono (by decide) (by decide)⟩
      · exact own_retA X7 hx Bd.returns rfl (hb hby d1_20) hr
      · show QV _ h0 n0 _ T7.heap _
        exact ⟨by rw [if_neg hc2, if_pos hc6], N0, e7⟩
    · have k9 : ∀ tg, Steps p.tables e below (s₁.setTop (mkF m 23 #[.val (.int dd), .val (.int (dd &&& (3 : Int32)))] [(.int (2 : Int32)), (.int (dd &&& (3 : Int32)))])) tg → Steps p.tables e below (s₁.setTop (entryFrame m #[(.int dd)] 2)) tg := by
        intro tg kt
        refine k5 tg ?_
        refine XS.icmpYes X0.here hx rfl (pc0 := 14) (pc' := 21) rfl (hb hby d1_14) rfl (feq hc6).2 (by decide) (by decide) ?_
        show Steps p.tables e below (s₁.setTop (mkF m 21 #[.val (.int dd), .val (.int (dd &&& (3 : Int32)))] [])) _
        refine XS.iloadN X0.here hx rfl (hb hby d1_21) rfl ?_
        show Steps p.tables e below (s₁.setTop (mkF m 22 #[.val (.int dd), .val (.int (dd &&& (3 : Int32)))] [(.int (dd &&& (3 : Int32)))])) _
        refine XS.iconst X0.here hx rfl (hb hby d1_22) ?_
        show Steps p.tables e below (s₁.setTop (mkF m 23 #[.val (.int dd), .val (.int (dd &&& (3 : Int32)))] [(.int (2 : Int32)), (.int (dd &&& (3 : Int32)))])) _
        exact kt
      by_cases hc10 : (dd &&& (3 : Int32)) = (2 : Int32)
      · obtain ⟨T11, X11, e11, st11⟩ := getS2 X0 hx hZ hown (host := "") (Or.inl (hw _ (List.mem_of_getElem? (i := 30) rfl))) Via.refl e0 S_RIGHT (g := (mkF m 26 #[.val (.int dd), .val (.int (dd &&& (3 : Int32)))] [])) rfl (hb hby d1_26)
        have k12 : ∀ tg, Steps p.tables e below (T11.setTop (mkF m 29 #[.val (.int dd), .val (.int (dd &&& (3 : Int32)))] [(.ref w_RIGHT)])) tg → Steps p.tables e below (s₁.setTop (entryFrame m #[(.int dd)] 2)) tg := by
          intro tg kt
          refine k9 tg ?_
          refine XS.icmpNo X0.here hx rfl (hb hby d1_23) rfl (teq hc10).2 ?_
          show Steps p.tables e below (s₁.setTop (mkF m 26 #[.val (.int dd), .val (.int (dd &&& (3 : Int32)))] [])) _
          refine st11 _ ?_
          show Steps p.tables e below (T11.setTop (mkF m 29 #[.val (.int dd), .val (.int (dd &&& (3 : Int32)))] [(.ref w_RIGHT)])) _
          exact kt
        obtain ⟨fs, hr, hrun, hended, hW, hsame⟩ := X11.leave (v := some (.ref w_RIGHT)) (fun h => by rw [Bd.returns] at h; cases h)
        refine ⟨_, _, k12 _ ?_, hrun, hended, _, _, rfl, ?_, ⟨_, rfl⟩, hW, hsame.mono (by decide) (by decide)⟩
        · exact own_retA X11 hx Bd.returns rfl (hb hby d1_29) hr
        · show QV _ h0 n0 _ T11.heap _
          exact ⟨by rw [if_neg hc2, if_neg hc6, if_pos hc10], N0, e11⟩
      · obtain ⟨T13, X13, e13, st13⟩ := getS2 X0 hx hZ hown (host := "") (Or.inl (hw _ (List.mem_of_getElem? (i := 35) rfl))) Via.refl e0 S_DOWN (g := (mkF m 30 #[.val (.int dd), .val (.int (dd &&& (3 : Int32)))] [])) rfl (hb hby d1_30)
        have k14 : ∀ tg, Steps p.tables e below (T13.setTop (mkF m 33 #[.val (.int dd), .val (.int (dd &&& (3 : Int32)))] [(.ref w_DOWN)])) tg → Steps p.tables e below (s₁.setTop (entryFrame m #[(.int dd)] 2)) tg := by
          intro tg kt
          refine k9 tg ?_
          refine XS.icmpYes X0.here hx rfl (pc0 := 23) (pc' := 30) rfl (hb hby d1_23) rfl (feq hc10).2 (by decide) (by decide) ?_
          show Steps p.tables e below (s₁.setTop (mkF m 30 #[.val (.int dd), .val (.int (dd &&& (3 : Int32)))] [])) _
          refine st13 _ ?_
          show Steps p.tables e below (T13.setTop (mkF m 33 #[.val (.int dd), .val (.int (dd &&& (3 : Int32)))] [(.ref w_DOWN)])) _
          exact kt
        obtain ⟨fs, hr, hrun, hended, hW, hsame⟩ := X13.leave (v := some (.ref w_DOWN)) (fun h => by rw [Bd.returns] at h; cases h)
        refine ⟨_, _, k14 _ ?_, hrun, hended, _, _, rfl, ?_, ⟨_, rfl⟩, hW, hsame.mono (by decide) (by decide)⟩
        · exact own_retA X13 hx Bd.returns rfl (hb hby d1_33) hr
        · show QV _ h0 n0 _ T13.heap _
          exact ⟨by rw [if_neg hc2, if_neg hc6, if_neg hc10], N0, e13⟩
theorem d3_0 : decode jdk_37_method_2_code 0 = .ok (.aload_n 0, 1) := by decide +kernel
theorem d3_1 : decode jdk_37_method_2_code 1 = .ok (.getfield 7, 3) := by decide +kernel
theorem d3_4 : decode jdk_37_method_2_code 4 = .ok (.ireturn, 1) := by decide +kernel
theorem pn_3 : plainName "java/lang/Enum" = true := by first | (simp [plainName, overriddenIn]; done) | decide +kernel
theorem ef_rm3 (m : MethodId) (b : Addr) : entryFrame m #[(.ref b)] 1 = mkF m 0 #[.val (.ref b)] [] := by first | (simp [entryFrame, mkF, argsToLocals, Value.category]; done) | rfl
set_option maxRecDepth 65536 in
set_option maxHeartbeats 40000000 in
theorem rm3 (l : Launch) (Z : State) (a0 : Array Value) (hw : ∀ d ∈ tables_1, d.before a0 Z = true) (ws : List Jvm.Cond) (b : Addr) (od : Int32) (h0 : Heap) (n0 : Nat) (Fo : Fld Z h0 b "java/lang/Enum" "ordinal" "I" (.int od)) :
    MetFree l (⟨"java/lang/Enum", "ordinal", "()I"⟩ : MethodName) (head1 (Jvm.Cond.code (⟨"java/lang/Enum", "ordinal", "()I"⟩ : MethodName) jdk_37_method_2_code 1 (some .int) :: ws) ({ frames := 0, cells := 0, slots := 0, locals := 0 } : Room)) (fun a_ U_ => a_ = #[(.ref b)] ∧ Z.Warmed39 U_.vm ∧ U_.heap = h0) (fun _ _ _ _ _ => True) (fun _ U_ o_ U'_ => ∃ v_ L_, o_ = .returned v_ ∧ QV (.int od) h0 n0 v_ U'_.heap L_ ∧ FrameEnd U_ o_ U'_ L_ ({ frames := 0, cells := 0, slots := 0, locals := 0 } : Room).cells ({ frames := 0, cells := 0, slots := 0, locals := 0 } : Room).slots) := by
  refine MetFree.of_bodySF (plainFor_of_name pn_3) hisR ?_
  intro p e s m args below meth c s₁ Bd hml0 hP hK
  obtain ⟨rfl, hZ, hh⟩ := hP
  have hx := Bd.exec
  have hby := Bd.bytes
  have hml : c.maxLocals = 1 := hml0
  have hown : s.vm.findClass "java/lang/Enum" = some m.cls := findClass_of_methodNamed Bd.named
  have hnm := (name_of_methodNamed Bd.named Bd.method).1
  have X0 : Stand p l e ({ frames := 0, cells := 0, slots := 0, locals := 0 } : Room) s m #[(.ref b)] below meth c s₁ [] 0 0 := Stand.of_body Bd
  have e0 : s₁.heap = h0 := by rw [← hh, Bd.state]; rfl
  have N0 := Fr.nil n0
  have k0 : ∀ tg, Steps p.tables e below (s₁.setTop (mkF m 0 #[.val (.ref b)] [])) tg → Steps p.tables e below (s₁.setTop (entryFrame m #[(.ref b)] 1)) tg := fun tg k => castTop (ef_rm3 m b) k
  obtain ⟨T1, X1, e1, st1⟩ := getF X0 hx hZ hown (host := "") (Or.inl (hw _ (List.mem_of_getElem? (i := 19) rfl))) Via.refl e0 Fo (g := (mkF m 1 #[.val (.ref b)] [(.ref b)])) rfl rfl (hb hby d3_1)
  have k2 : ∀ tg, Steps p.tables e below (T1.setTop (mkF m 4 #[.val (.ref b)] [(.int od)])) tg → Steps p.tables e below (s₁.setTop (entryFrame m #[(.ref b)] 1)) tg := by
    intro tg kt
    refine k0 tg ?_
    show Steps p.tables e below (s₁.setTop (mkF m 0 #[.val (.ref b)] [])) _
    refine XS.aloadN X0.here hx rfl (hb hby d3_0) rfl rfl ?_
    show Steps p.tables e below (s₁.setTop (mkF m 1 #[.val (.ref b)] [(.ref b)])) _
    refine st1 _ ?_
    show Steps p.tables e below (T1.setTop (mkF m 4 #[.val (.ref b)] [(.int od)])) _
    exact kt
  obtain ⟨fs, hr, hrun, hended, hW, hsame⟩ := X1.leave (v := some (.int od)) (fun h => by rw [Bd.returns] at h; cases h)
  refine ⟨_, _, k2 _ ?_, hrun, hended, _, _, rfl, ?_, ⟨_, rfl⟩, hW, hsame.mono (by decide) (by decide)⟩
  · exact retI X1 hx Bd.returns (hb hby d3_4) hr
  · show QV _ h0 n0 _ T1.heap _
    exact ⟨rfl, N0, e1⟩
theorem d2_0 : decode prog_39_method_2_code 0 = .ok (.iload_n 0, 1) := by decide +kernel
theorem d2_1 : decode prog_39_method_2_code 1 = .ok (.i2l, 1) := by decide +kernel
theorem d2_2 : decode prog_39_method_2_code 2 = .ok (.bipush 32, 2) := by decide +kernel
theorem d2_4 : decode prog_39_method_2_code 4 = .ok (.lshl, 1) := by decide +kernel
theorem d2_5 : decode prog_39_method_2_code 5 = .ok (.iload_n 1, 1) := by decide +kernel
theorem d2_6 : decode prog_39_method_2_code 6 = .ok (.i2l, 1) := by decide +kernel
theorem d2_7 : decode prog_39_method_2_code 7 = .ok (.bipush 16, 2) := by decide +kernel
theorem d2_9 : decode prog_39_method_2_code 9 = .ok (.lshl, 1) := by decide +kernel
theorem d2_10 : decode prog_39_method_2_code 10 = .ok (.lor, 1) := by decide +kernel
theorem d2_11 : decode prog_39_method_2_code 11 = .ok (.iload_n 2, 1) := by decide +kernel
theorem d2_12 : decode prog_39_method_2_code 12 = .ok (.i2l, 1) := by decide +kernel
theorem d2_13 : decode prog_39_method_2_code 13 = .ok (.iconst 4, 1) := by decide +kernel
theorem d2_14 : decode prog_39_method_2_code 14 = .ok (.lshl, 1) := by decide +kernel
theorem d2_15 : decode prog_39_method_2_code 15 = .ok (.lor, 1) := by decide +kernel
theorem d2_16 : decode prog_39_method_2_code 16 = .ok (.iload 4, 2) := by decide +kernel
theorem d2_18 : decode prog_39_method_2_code 18 = .ok (.ifCond .eq 9, 3) := by decide +kernel
theorem d2_21 : decode prog_39_method_2_code 21 = .ok (.ldc2_w 11, 3) := by decide +kernel
theorem d2_24 : decode prog_39_method_2_code 24 = .ok (.goto 4, 3) := by decide +kernel
theorem d2_27 : decode prog_39_method_2_code 27 = .ok (.lconst 0, 1) := by decide +kernel
theorem d2_28 : decode prog_39_method_2_code 28 = .ok (.lor, 1) := by decide +kernel
theorem d2_29 : decode prog_39_method_2_code 29 = .ok (.aload_n 3, 1) := by decide +kernel
theorem d2_30 : decode prog_39_method_2_code 30 = .ok (.invokevirtual 13, 3) := by decide +kernel
theorem d2_33 : decode prog_39_method_2_code 33 = .ok (.i2l, 1) := by decide +kernel
theorem d2_34 : decode prog_39_method_2_code 34 = .ok (.lor, 1) := by decide +kernel
theorem d2_35 : decode prog_39_method_2_code 35 = .ok (.lreturn, 1) := by decide +kernel
theorem pn_2 : plainName "pushwise/Steps" = true := by first | (simp [plainName, overriddenIn]; done) | decide +kernel
theorem pd_0 : parseMethodDescriptor "()I" = some ⟨[], some .int⟩ := by decide +kernel
theorem ef_rm2 (m : MethodId) (par : Int32) (box : Int32) (stt : Int32) (b : Addr) (mac : Int32) : entryFrame m #[(.int par), (.int box), (.int stt), (.ref b), (.int mac)] 5 = mkF m 0 #[.val (.int par), .val (.int box), .val (.int stt), .val (.ref b), .val (.int mac)] [] := by first | (simp [entryFrame, mkF, argsToLocals, Value.category]; done) | rfl
set_option maxRecDepth 65536 in
set_option maxHeartbeats 40000000 in
theorem rm2 (l : Launch) (Z : State) (a0 : Array Value) (hw : ∀ d ∈ tables_1, d.before a0 Z = true) (ws : List Jvm.Cond) (par : Int32) (box : Int32) (stt : Int32) (b : Addr) (mac : Int32) (od : Int32) (h0 : Heap) (n0 : Nat) (Eb : Exa Z h0 b "pushwise/Direction") (Fo : Fld Z h0 b "java/lang/Enum" "ordinal" "I" (.int od)) :
    MetFree l (⟨"pushwise/Steps", "of", "(IIILpushwise/Direction;Z)J"⟩ : MethodName) (head1 (Jvm.Cond.code (⟨"pushwise/Steps", "of", "(IIILpushwise/Direction;Z)J"⟩ : MethodName) prog_39_method_2_code 5 (some .long) :: ws) ({ frames := 1, cells := 0, slots := 0, locals := 14 } : Room)) (fun a_ U_ => a_ = #[(.int par), (.int box), (.int stt), (.ref b), (.int mac)] ∧ Z.Warmed39 U_.vm ∧ U_.heap = h0) (fun _ _ _ _ _ => True) (fun _ U_ o_ U'_ => ∃ v_ L_, o_ = .returned v_ ∧ QV (.long ((((((par.toInt64) <<< ((32 : Int32) &&& 0x3f).toInt64) ||| ((box.toInt64) <<< ((16 : Int32) &&& 0x3f).toInt64)) ||| ((stt.toInt64) <<< ((4 : Int32) &&& 0x3f).toInt64)) ||| (if mac = (0 : Int32) then (0 : Int64) else (4 : Int64))) ||| (od.toInt64))) h0 n0 v_ U'_.heap L_ ∧ FrameEnd U_ o_ U'_ L_ ({ frames := 1, cells := 0, slots := 0, locals := 14 } : Room).cells ({ frames := 1, cells := 0, slots := 0, locals := 14 } : Room).slots) := by
  refine MetFree.of_bodySF (plainFor_of_name pn_2) hisR ?_
  intro p e s m args below meth c s₁ Bd hml0 hP hK
  obtain ⟨rfl, hZ, hh⟩ := hP
  have hx := Bd.exec
  have hby := Bd.bytes
  have hml : c.maxLocals = 5 := hml0
  have hown : s.vm.findClass "pushwise/Steps" = some m.cls := findClass_of_methodNamed Bd.named
  have hnm := (name_of_methodNamed Bd.named Bd.method).1
  have X0 : Stand p l e ({ frames := 1, cells := 0, slots := 0, locals := 14 } : Room) s m #[(.int par), (.int box), (.int stt), (.ref b), (.int mac)] below meth c s₁ [] 0 0 := Stand.of_body Bd
  have e0 : s₁.heap = h0 := by rw [← hh, Bd.state]; rfl
  have N0 := Fr.nil n0
  have k0 : ∀ tg, Steps p.tables e below (s₁.setTop (mkF m 0 #[.val (.int par), .val (.int box), .val (.int stt), .val (.ref b), .val (.int mac)] [])) tg → Steps p.tables e below (s₁.setTop (entryFrame m #[(.int par), (.int box), (.int stt), (.ref b), (.int mac)] 5)) tg := fun tg k => castTop (ef_rm2 m par box stt b mac) k
  have k1 : ∀ tg, Steps p.tables e below (s₁.setTop (mkF m 18 #[.val (.int par), .val (.int box), .val (.int stt), .val (.ref b), .val (.int mac)] [(.int mac), (.long ((((par.toInt64) <<< ((32 : Int32) &&& 0x3f).toInt64) ||| ((box.toInt64) <<< ((16 : Int32) &&& 0x3f).toInt64)) ||| ((stt.toInt64) <<< ((4 : Int32) &&& 0x3f).toInt64)))])) tg → Steps p.tables e below (s₁.setTop (entryFrame m #[(.int par), (.int box), (.int stt), (.ref b), (.int mac)] 5)) tg := by
    intro tg kt
    refine k0 tg ?_
    show Steps p.tables e below (s₁.setTop (mkF m 0 #[.val (.int par), .val (.int box), .val (.int stt), .val (.ref b), .val (.int mac)] [])) _
    refine XS.iloadN X0.here hx rfl (hb hby d2_0) rfl ?_
    show Steps p.tables e below (s₁.setTop (mkF m 1 #[.val (.int par), .val (.int box), .val (.int stt), .val (.ref b), .val (.int mac)] [(.int par)])) _
    refine XS.i2l X0.here hx rfl (hb hby d2_1) rfl ?_
    show Steps p.tables e below (s₁.setTop (mkF m 2 #[.val (.int par), .val (.int box), .val (.int stt), .val (.ref b), .val (.int mac)] [(.long (par.toInt64))])) _
    refine XS.bipush X0.here hx rfl (hb hby d2_2) ?_
    show Steps p.tables e below (s₁.setTop (mkF m 4 #[.val (.int par), .val (.int box), .val (.int stt), .val (.ref b), .val (.int mac)] [(.int (32 : Int32)), (.long (par.toInt64))])) _
    refine XS.lshl X0.here hx rfl (hb hby d2_4) rfl ?_
    show Steps p.tables e below (s₁.setTop (mkF m 5 #[.val (.int par), .val (.int box), .val (.int stt), .val (.ref b), .val (.int mac)] [(.long ((par.toInt64) <<< ((32 : Int32) &&& 0x3f).toInt64))])) _
    refine XS.iloadN X0.here hx rfl (hb hby d2_5) rfl ?_
    show Steps p.tables e below (s₁.setTop (mkF m 6 #[.val (.int par), .val (.int box), .val (.int stt), .val (.ref b), .val (.int mac)] [(.int box), (.long ((par.toInt64) <<< ((32 : Int32) &&& 0x3f).toInt64))])) _
    refine XS.i2l X0.here hx rfl (hb hby d2_6) rfl ?_
    show Steps p.tables e below (s₁.setTop (mkF m 7 #[.val (.int par), .val (.int box), .val (.int stt), .val (.ref b), .val (.int mac)] [(.long (box.toInt64)), (.long ((par.toInt64) <<< ((32 : Int32) &&& 0x3f).toInt64))])) _
    refine XS.bipush X0.here hx rfl (hb hby d2_7) ?_
    show Steps p.tables e below (s₁.setTop (mkF m 9 #[.val (.int par), .val (.int box), .val (.int stt), .val (.ref b), .val (.int mac)] [(.int (16 : Int32)), (.long (box.toInt64)), (.long ((par.toInt64) <<< ((32 : Int32) &&& 0x3f).toInt64))])) _
    refine XS.lshl X0.here hx rfl (hb hby d2_9) rfl ?_
    show Steps p.tables e below (s₁.setTop (mkF m 10 #[.val (.int par), .val (.int box), .val (.int stt), .val (.ref b), .val (.int mac)] [(.long ((box.toInt64) <<< ((16 : Int32) &&& 0x3f).toInt64)), (.long ((par.toInt64) <<< ((32 : Int32) &&& 0x3f).toInt64))])) _
    refine XS.lor X0.here hx rfl (hb hby d2_10) rfl ?_
    show Steps p.tables e below (s₁.setTop (mkF m 11 #[.val (.int par), .val (.int box), .val (.int stt), .val (.ref b), .val (.int mac)] [(.long (((par.toInt64) <<< ((32 : Int32) &&& 0x3f).toInt64) ||| ((box.toInt64) <<< ((16 : Int32) &&& 0x3f).toInt64)))])) _
    refine XS.iloadN X0.here hx rfl (hb hby d2_11) rfl ?_
    show Steps p.tables e below (s₁.setTop (mkF m 12 #[.val (.int par), .val (.int box), .val (.int stt), .val (.ref b), .val (.int mac)] [(.int stt), (.long (((par.toInt64) <<< ((32 : Int32) &&& 0x3f).toInt64) ||| ((box.toInt64) <<< ((16 : Int32) &&& 0x3f).toInt64)))])) _
    refine XS.i2l X0.here hx rfl (hb hby d2_12) rfl ?_
    show Steps p.tables e below (s₁.setTop (mkF m 13 #[.val (.int par), .val (.int box), .val (.int stt), .val (.ref b), .val (.int mac)] [(.long (stt.toInt64)), (.long (((par.toInt64) <<< ((32 : Int32) &&& 0x3f).toInt64) ||| ((box.toInt64) <<< ((16 : Int32) &&& 0x3f).toInt64)))])) _
    refine XS.iconst X0.here hx rfl (hb hby d2_13) ?_
    show Steps p.tables e below (s₁.setTop (mkF m 14 #[.val (.int par), .val (.int box), .val (.int stt), .val (.ref b), .val (.int mac)] [(.int (4 : Int32)), (.long (stt.toInt64)), (.long (((par.toInt64) <<< ((32 : Int32) &&& 0x3f).toInt64) ||| ((box.toInt64) <<< ((16 : Int32) &&& 0x3f).toInt64)))])) _
    refine XS.lshl X0.here hx rfl (hb hby d2_14) rfl ?_
    show Steps p.tables e below (s₁.setTop (mkF m 15 #[.val (.int par), .val (.int box), .val (.int stt), .val (.ref b), .val (.int mac)] [(.long ((stt.toInt64) <<< ((4 : Int32) &&& 0x3f).toInt64)), (.long (((par.toInt64) <<< ((32 : Int32) &&& 0x3f).toInt64) ||| ((box.toInt64) <<< ((16 : Int32) &&& 0x3f).toInt64)))])) _
    refine XS.lor X0.here hx rfl (hb hby d2_15) rfl ?_
    show Steps p.tables e below (s₁.setTop (mkF m 16 #[.val (.int par), .val (.int box), .val (.int stt), .val (.ref b), .val (.int mac)] [(.long ((((par.toInt64) <<< ((32 : Int32) &&& 0x3f).toInt64) ||| ((box.toInt64) <<< ((16 : Int32) &&& 0x3f).toInt64)) ||| ((stt.toInt64) <<< ((4 : Int32) &&& 0x3f).toInt64)))])) _
    refine XS.iload X0.here hx rfl (hb hby d2_16) rfl ?_
    show Steps p.tables e below (s₁.setTop (mkF m 18 #[.val (.int par), .val (.int box), .val (.int stt), .val (.ref b), .val (.int mac)] [(.int mac), (.long ((((par.toInt64) <<< ((32 : Int32) &&& 0x3f).toInt64) ||| ((box.toInt64) <<< ((16 : Int32) &&& 0x3f).toInt64)) ||| ((stt.toInt64) <<< ((4 : Int32) &&& 0x3f).toInt64)))])) _
    exact kt
  have k5 : ∀ tg, Steps p.tables e below (s₁.setTop (mkF m 28 #[.val (.int par), .val (.int box), .val (.int stt), .val (.ref b), .val (.int mac)] [(.long (if mac = (0 : Int32) then (0 : Int64) else (4 : Int64))), (.long ((((par.toInt64) <<< ((32 : Int32) &&& 0x3f).toInt64) ||| ((box.toInt64) <<< ((16 : Int32) &&& 0x3f).toInt64)) ||| ((stt.toInt64) <<< ((4 : Int32) &&& 0x3f).toInt64)))])) tg → Steps p.tables e below (s₁.setTop (entryFrame m #[(.int par), (.int box), (.int stt), (.ref b), (.int mac)] 5)) tg := by
    intro tg kt
    refine k1 tg ?_
    show Steps p.tables e below (s₁.setTop (mkF m 18 #[.val (.int par), .val (.int box), .val (.int stt), .val (.ref b), .val (.int mac)] [(.int mac), (.long ((((par.toInt64) <<< ((32 : Int32) &&& 0x3f).toInt64) ||| ((box.toInt64) <<< ((16 : Int32) &&& 0x3f).toInt64)) ||| ((stt.toInt64) <<< ((4 : Int32) &&& 0x3f).toInt64)))])) _
    by_cases hc2 : mac = (0 : Int32)
    · refine XS.ifYes X0.here hx rfl (pc0 := 18) (pc' := 27) rfl (hb hby d2_18) rfl ((if0 _ _).trans (teq hc2).1) (by decide) (by decide) ?_
      show Steps p.tables e below (s₁.setTop (mkF m 27 #[.val (.int par), .val (.int box), .val (.int stt), .val (.ref b), .val (.int mac)] [(.long ((((par.toInt64) <<< ((32 : Int32) &&& 0x3f).toInt64) ||| ((box.toInt64) <<< ((16 : Int32) &&& 0x3f).toInt64)) ||| ((stt.toInt64) <<< ((4 : Int32) &&& 0x3f).toInt64)))])) _
      refine XS.lconst X0.here hx rfl (hb hby d2_27) ?_
      show Steps p.tables e below (s₁.setTop (mkF m 28 #[.val (.int par), .val (.int box), .val (.int stt), .val (.ref b), .val (.int mac)] [(.long (0 : Int64)), (.long ((((par.toInt64) <<< ((32 : Int32) &&& 0x3f).toInt64) ||| ((box.toInt64) <<< ((16 : Int32) &&& 0x3f).toInt64)) ||| ((stt.toInt64) <<< ((4 : Int32) &&& 0x3f).toInt64)))])) _
      repeat rw [if_pos hc2] at kt
      exact kt
    · refine XS.ifNo X0.here hx rfl (hb hby d2_18) rfl ((if0 _ _).trans (feq hc2).1) ?_
      show Steps p.tables e below (s₁.setTop (mkF m 21 #[.val (.int par), .val (.int box), .val (.int stt), .val (.ref b), .val (.int mac)] [(.long ((((par.toInt64) <<< ((32 : Int32) &&& 0x3f).toInt64) ||| ((box.toInt64) <<< ((16 : Int32) &&& 0x3f).toInt64)) ||| ((stt.toInt64) <<< ((4 : Int32) &&& 0x3f).toInt64)))])) _
      refine X0.ldc2Long hx hown (mvT hZ (hw _ (List.mem_of_getElem? (i := 34) rfl))) (g := (mkF m 21 #[.val (.int par), .val (.int box), .val (.int stt), .val (.ref b), .val (.int mac)] [(.long ((((par.toInt64) <<< ((32 : Int32) &&& 0x3f).toInt64) ||| ((box.toInt64) <<< ((16 : Int32) &&& 0x3f).toInt64)) ||| ((stt.toInt64) <<< ((4 : Int32) &&& 0x3f).toInt64)))])) rfl (hb hby d2_21) _ ?_
      show Steps p.tables e below (s₁.setTop (mkF m 24 #[.val (.int par), .val (.int box), .val (.int stt), .val (.ref b), .val (.int mac)] [(.long (4 : Int64)), (.long ((((par.toInt64) <<< ((32 : Int32) &&& 0x3f).toInt64) ||| ((box.toInt64) <<< ((16 : Int32) &&& 0x3f).toInt64)) ||| ((stt.toInt64) <<< ((4 : Int32) &&& 0x3f).toInt64)))])) _
      refine XS.goto X0.here hx rfl (pc0 := 24) (pc' := 28) rfl (hb hby d2_24) (by decide) (by decide) ?_
      show Steps p.tables e below (s₁.setTop (mkF m 28 #[.val (.int par), .val (.int box), .val (.int stt), .val (.ref b), .val (.int mac)] [(.long (4 : Int64)), (.long ((((par.toInt64) <<< ((32 : Int32) &&& 0x3f).toInt64) ||| ((box.toInt64) <<< ((16 : Int32) &&& 0x3f).toInt64)) ||| ((stt.toInt64) <<< ((4 : Int32) &&& 0x3f).toInt64)))])) _
      repeat rw [if_neg hc2] at kt
      exact kt
  obtain ⟨z6, ez6⟩ : ∃ z : Int64, z = (if mac = (0 : Int32) then (0 : Int64) else (4 : Int64)) := ⟨_, rfl⟩
  obtain ⟨cq7, kq7, q7a, q7b, q7c⟩ := isOf hZ e0 Eb
  obtain ⟨_, _, ⟨T7, L7, k7, n7⟩, -, X7, ⟨Lc7, hQ7, l7, y7, z7⟩, st7⟩ := X0.virtualBackUp hx (x := (⟨"pushwise/Direction", "ordinal", "()I"⟩ : MethodName)) (y := (⟨"java/lang/Enum", "ordinal", "()I"⟩ : MethodName)) (owner := "java/lang/Enum") hown (mvT hZ (hw _ (List.mem_of_getElem? (i := 12) rfl))) (mvT hZ (hw _ (List.mem_of_getElem? (i := 13) rfl))) (mvT hZ (hw _ (List.mem_of_getElem? (i := 14) rfl))) (by decide) (mvT hZ (hw _ (List.mem_of_getElem? (i := 16) rfl))) (mvT hZ (hw _ (List.mem_of_getElem? (i := 15) rfl))) (backOf (W := 2) (rm3 l Z a0 hw [] b od h0 n0 Fo) hZ (hw _ (List.mem_of_getElem? (i := 18) rfl)) (hw _ (List.mem_of_getElem? (i := 17) rfl)) (by decide) (by decide)) q7a q7c (g := (mkF m 30 #[.val (.int par), .val (.int box), .val (.int stt), .val (.ref b), .val (.int mac)] [(.ref b), (.long (((((par.toInt64) <<< ((32 : Int32) &&& 0x3f).toInt64) ||| ((box.toInt64) <<< ((16 : Int32) &&& 0x3f).toInt64)) ||| ((stt.toInt64) <<< ((4 : Int32) &&& 0x3f).toInt64)) ||| z6))])) rfl (by rw [hml]; rfl) (Steps.refl _) (argsL := []) (rest := [(.long (((((par.toInt64) <<< ((32 : Int32) &&& 0x3f).toInt64) ||| ((box.toInt64) <<< ((16 : Int32) &&& 0x3f).toInt64)) ||| ((stt.toInt64) <<< ((4 : Int32) &&& 0x3f).toInt64)) ||| z6))]) (lenOf pd_0 rfl) rfl (by show 2 * 0 + _ ≤ _; exact Nat.le_of_eq rfl) (hb hby d2_30) (fun _ _ => ⟨rfl, e0, (by decide : 0 + 0 ≤ _), (by decide : 0 + 0 ≤ _)⟩)
  dsimp only [Pt.U, Pt.locs, Pt.cells, Pt.slots] at X7 l7 y7 z7 st7 hQ7
  subst l7 y7 z7
  obtain ⟨rfl, N7q, e7⟩ := hQ7
  have N7 := Fr.app N0 N7q
  have k8 : ∀ tg, Steps p.tables e below (T7.setTop (mkF m 35 #[.val (.int par), .val (.int box), .val (.int stt), .val (.ref b), .val (.int mac)] [(.long ((((((par.toInt64) <<< ((32 : Int32) &&& 0x3f).toInt64) ||| ((box.toInt64) <<< ((16 : Int32) &&& 0x3f).toInt64)) ||| ((stt.toInt64) <<< ((4 : Int32) &&& 0x3f).toInt64)) ||| z6) ||| (od.toInt64)))])) tg → Steps p.tables e below (s₁.setTop (entryFrame m #[(.int par), (.int box), (.int stt), (.ref b), (.int mac)] 5)) tg := by
    intro tg kt
    refine k5 tg ?_
    show Steps p.tables e below (s₁.setTop (mkF m 28 #[.val (.int par), .val (.int box), .val (.int stt), .val (.ref b), .val (.int mac)] [(.long (if mac = (0 : Int32) then (0 : Int64) else (4 : Int64))), (.long ((((par.toInt64) <<< ((32 : Int32) &&& 0x3f).toInt64) ||| ((box.toInt64) <<< ((16 : Int32) &&& 0x3f).toInt64)) ||| ((stt.toInt64) <<< ((4 : Int32) &&& 0x3f).toInt64)))])) _
    rw [← ez6]
    show Steps p.tables e below (s₁.setTop (mkF m 28 #[.val (.int par), .val (.int box), .val (.int stt), .val (.ref b), .val (.int mac)] [(.long z6), (.long ((((par.toInt64) <<< ((32 : Int32) &&& 0x3f).toInt64) ||| ((box.toInt64) <<< ((16 : Int32) &&& 0x3f).toInt64)) ||| ((stt.toInt64) <<< ((4 : Int32) &&& 0x3f).toInt64)))])) _
    refine XS.lor X0.here hx rfl (hb hby d2_28) rfl ?_
    show Steps p.tables e below (s₁.setTop (mkF m 29 #[.val (.int par), .val (.int box), .val (.int stt), .val (.ref b), .val (.int mac)] [(.long (((((par.toInt64) <<< ((32 : Int32) &&& 0x3f).toInt64) ||| ((box.toInt64) <<< ((16 : Int32) &&& 0x3f).toInt64)) ||| ((stt.toInt64) <<< ((4 : Int32) &&& 0x3f).toInt64)) ||| z6))])) _
    refine XS.aloadN X0.here hx rfl (hb hby d2_29) rfl rfl ?_
    show Steps p.tables e below (s₁.setTop (mkF m 30 #[.val (.int par), .val (.int box), .val (.int stt), .val (.ref b), .val (.int mac)] [(.ref b), (.long (((((par.toInt64) <<< ((32 : Int32) &&& 0x3f).toInt64) ||| ((box.toInt64) <<< ((16 : Int32) &&& 0x3f).toInt64)) ||| ((stt.toInt64) <<< ((4 : Int32) &&& 0x3f).toInt64)) ||| z6))])) _
    refine st7.trans ?_
    show Steps p.tables e below (T7.setTop (mkF m 33 #[.val (.int par), .val (.int box), .val (.int stt), .val (.ref b), .val (.int mac)] [(.int od), (.long (((((par.toInt64) <<< ((32 : Int32) &&& 0x3f).toInt64) ||| ((box.toInt64) <<< ((16 : Int32) &&& 0x3f).toInt64)) ||| ((stt.toInt64) <<< ((4 : Int32) &&& 0x3f).toInt64)) ||| z6))])) _
    refine XS.i2l X7.here hx rfl (hb hby d2_33) rfl ?_
    show Steps p.tables e below (T7.setTop (mkF m 34 #[.val (.int par), .val (.int box), .val (.int stt), .val (.ref b), .val (.int mac)] [(.long (od.toInt64)), (.long (((((par.toInt64) <<< ((32 : Int32) &&& 0x3f).toInt64) ||| ((box.toInt64) <<< ((16 : Int32) &&& 0x3f).toInt64)) ||| ((stt.toInt64) <<< ((4 : Int32) &&& 0x3f).toInt64)) ||| z6))])) _
    refine XS.lor X7.here hx rfl (hb hby d2_34) rfl ?_
    show Steps p.tables e below (T7.setTop (mkF m 35 #[.val (.int par), .val (.int box), .val (.int stt), .val (.ref b), .val (.int mac)] [(.long ((((((par.toInt64) <<< ((32 : Int32) &&& 0x3f).toInt64) ||| ((box.toInt64) <<< ((16 : Int32) &&& 0x3f).toInt64)) ||| ((stt.toInt64) <<< ((4 : Int32) &&& 0x3f).toInt64)) ||| z6) ||| (od.toInt64)))])) _
    exact kt
  obtain ⟨fs, hr, hrun, hended, hW, hsame⟩ := X7.leave (v := some (.long ((((((par.toInt64) <<< ((32 : Int32) &&& 0x3f).toInt64) ||| ((box.toInt64) <<< ((16 : Int32) &&& 0x3f).toInt64)) ||| ((stt.toInt64) <<< ((4 : Int32) &&& 0x3f).toInt64)) ||| z6) ||| (od.toInt64)))) (fun h => by rw [Bd.returns] at h; cases h)
  refine ⟨_, _, k8 _ ?_, hrun, hended, _, _, rfl, ?_, ⟨_, rfl⟩, hW, hsame.mono (by decide) (by decide)⟩
  · exact own_retJ X7 hx Bd.returns (hb hby d2_35) hr
  · show QV _ h0 n0 _ T7.heap _
    exact ⟨by subst ez6; rfl, N7, e7⟩
theorem d4_0 : decode prog_39_method_3_code 0 = .ok (.iload_n 0, 1) := by decide +kernel
theorem d4_1 : decode prog_39_method_3_code 1 = .ok (.i2l, 1) := by decide +kernel
theorem d4_2 : decode prog_39_method_3_code 2 = .ok (.bipush 32, 2) := by decide +kernel
theorem d4_4 : decode prog_39_method_3_code 4 = .ok (.lshl, 1) := by decide +kernel
theorem d4_5 : decode prog_39_method_3_code 5 = .ok (.iload_n 1, 1) := by decide +kernel
theorem d4_6 : decode prog_39_method_3_code 6 = .ok (.i2l, 1) := by decide +kernel
theorem d4_7 : decode prog_39_method_3_code 7 = .ok (.bipush 16, 2) := by decide +kernel
theorem d4_9 : decode prog_39_method_3_code 9 = .ok (.lshl, 1) := by decide +kernel
theorem d4_10 : decode prog_39_method_3_code 10 = .ok (.lor, 1) := by decide +kernel
theorem d4_11 : decode prog_39_method_3_code 11 = .ok (.ldc2_w 19, 3) := by decide +kernel
theorem d4_14 : decode prog_39_method_3_code 14 = .ok (.lor, 1) := by decide +kernel
theorem d4_15 : decode prog_39_method_3_code 15 = .ok (.lreturn, 1) := by decide +kernel
theorem pn_4 : plainName "pushwise/Steps" = true := by first | (simp [plainName, overriddenIn]; done) | decide +kernel
theorem ef_rm4 (m : MethodId) (par : Int32) (box : Int32) : entryFrame m #[(.int par), (.int box)] 2 = mkF m 0 #[.val (.int par), .val (.int box)] [] := by first | (simp [entryFrame, mkF, argsToLocals, Value.category]; done) | rfl
set_option maxRecDepth 65536 in
set_option maxHeartbeats 40000000 in
theorem rm4 (l : Launch) (Z : State) (a0 : Array Value) (hw : ∀ d ∈ tables_1, d.before a0 Z = true) (ws : List Jvm.Cond) (par : Int32) (box : Int32)  (h0 : Heap) (n0 : Nat)  :
    MetFree l (⟨"pushwise/Steps", "packing", "(II)J"⟩ : MethodName) (head1 (Jvm.Cond.code (⟨"pushwise/Steps", "packing", "(II)J"⟩ : MethodName) prog_39_method_3_code 2 (some .long) :: ws) ({ frames := 0, cells := 0, slots := 0, locals := 0 } : Room)) (fun a_ U_ => a_ = #[(.int par), (.int box)] ∧ Z.Warmed39 U_.vm ∧ U_.heap = h0) (fun _ _ _ _ _ => True) (fun _ U_ o_ U'_ => ∃ v_ L_, o_ = .returned v_ ∧ QV (.long ((((par.toInt64) <<< ((32 : Int32) &&& 0x3f).toInt64) ||| ((box.toInt64) <<< ((16 : Int32) &&& 0x3f).toInt64)) ||| (8 : Int64))) h0 n0 v_ U'_.heap L_ ∧ FrameEnd U_ o_ U'_ L_ ({ frames := 0, cells := 0, slots := 0, locals := 0 } : Room).cells ({ frames := 0, cells := 0, slots := 0, locals := 0 } : Room).slots) := by
  refine MetFree.of_bodySF (plainFor_of_name pn_4) hisR ?_
  intro p e s m args below meth c s₁ Bd hml0 hP hK
  obtain ⟨rfl, hZ, hh⟩ := hP
  have hx := Bd.exec
  have hby := Bd.bytes
  have hml : c.maxLocals = 2 := hml0
  have hown : s.vm.findClass "pushwise/Steps" = some m.cls := findClass_of_methodNamed Bd.named
  have hnm := (name_of_methodNamed Bd.named Bd.method).1
  have X0 : Stand p l e ({ frames := 0, cells := 0, slots := 0, locals := 0 } : Room) s m #[(.int par), (.int box)] below meth c s₁ [] 0 0 := Stand.of_body Bd
  have e0 : s₁.heap = h0 := by rw [← hh, Bd.state]; rfl
  have N0 := Fr.nil n0
  have k0 : ∀ tg, Steps p.tables e below (s₁.setTop (mkF m 0 #[.val (.int par), .val (.int box)] [])) tg → Steps p.tables e below (s₁.setTop (entryFrame m #[(.int par), (.int box)] 2)) tg := fun tg k => castTop (ef_rm4 m par box) k
  have k1 : ∀ tg, Steps p.tables e below (s₁.setTop (mkF m 15 #[.val (.int par), .val (.int box)] [(.long ((((par.toInt64) <<< ((32 : Int32) &&& 0x3f).toInt64) ||| ((box.toInt64) <<< ((16 : Int32) &&& 0x3f).toInt64)) ||| (8 : Int64)))])) tg → Steps p.tables e below (s₁.setTop (entryFrame m #[(.int par), (.int box)] 2)) tg := by
    intro tg kt
    refine k0 tg ?_
    show Steps p.tables e below (s₁.setTop (mkF m 0 #[.val (.int par), .val (.int box)] [])) _
    refine XS.iloadN X0.here hx rfl (hb hby d4_0) rfl ?_
    show Steps p.tables e below (s₁.setTop (mkF m 1 #[.val (.int par), .val (.int box)] [(.int par)])) _
    refine XS.i2l X0.here hx rfl (hb hby d4_1) rfl ?_
    show Steps p.tables e below (s₁.setTop (mkF m 2 #[.val (.int par), .val (.int box)] [(.long (par.toInt64))])) _
    refine XS.bipush X0.here hx rfl (hb hby d4_2) ?_
    show Steps p.tables e below (s₁.setTop (mkF m 4 #[.val (.int par), .val (.int box)] [(.int (32 : Int32)), (.long (par.toInt64))])) _
    refine XS.lshl X0.here hx rfl (hb hby d4_4) rfl ?_
    show Steps p.tables e below (s₁.setTop (mkF m 5 #[.val (.int par), .val (.int box)] [(.long ((par.toInt64) <<< ((32 : Int32) &&& 0x3f).toInt64))])) _
    refine XS.iloadN X0.here hx rfl (hb hby d4_5) rfl ?_
    show Steps p.tables e below (s₁.setTop (mkF m 6 #[.val (.int par), .val (.int box)] [(.int box), (.long ((par.toInt64) <<< ((32 : Int32) &&& 0x3f).toInt64))])) _
    refine XS.i2l X0.here hx rfl (hb hby d4_6) rfl ?_
    show Steps p.tables e below (s₁.setTop (mkF m 7 #[.val (.int par), .val (.int box)] [(.long (box.toInt64)), (.long ((par.toInt64) <<< ((32 : Int32) &&& 0x3f).toInt64))])) _
    refine XS.bipush X0.here hx rfl (hb hby d4_7) ?_
    show Steps p.tables e below (s₁.setTop (mkF m 9 #[.val (.int par), .val (.int box)] [(.int (16 : Int32)), (.long (box.toInt64)), (.long ((par.toInt64) <<< ((32 : Int32) &&& 0x3f).toInt64))])) _
    refine XS.lshl X0.here hx rfl (hb hby d4_9) rfl ?_
    show Steps p.tables e below (s₁.setTop (mkF m 10 #[.val (.int par), .val (.int box)] [(.long ((box.toInt64) <<< ((16 : Int32) &&& 0x3f).toInt64)), (.long ((par.toInt64) <<< ((32 : Int32) &&& 0x3f).toInt64))])) _
    refine XS.lor X0.here hx rfl (hb hby d4_10) rfl ?_
    show Steps p.tables e below (s₁.setTop (mkF m 11 #[.val (.int par), .val (.int box)] [(.long (((par.toInt64) <<< ((32 : Int32) &&& 0x3f).toInt64) ||| ((box.toInt64) <<< ((16 : Int32) &&& 0x3f).toInt64)))])) _
    refine X0.ldc2Long hx hown (mvT hZ (hw _ (List.mem_of_getElem? (i := 24) rfl))) (g := (mkF m 11 #[.val (.int par), .val (.int box)] [(.long (((par.toInt64) <<< ((32 : Int32) &&& 0x3f).toInt64) ||| ((box.toInt64) <<< ((16 : Int32) &&& 0x3f).toInt64)))])) rfl (hb hby d4_11) _ ?_
    show Steps p.tables e below (s₁.setTop (mkF m 14 #[.val (.int par), .val (.int box)] [(.long (8 : Int64)), (.long (((par.toInt64) <<< ((32 : Int32) &&& 0x3f).toInt64) ||| ((box.toInt64) <<< ((16 : Int32) &&& 0x3f).toInt64)))])) _
    refine XS.lor X0.here hx rfl (hb hby d4_14) rfl ?_
    show Steps p.tables e below (s₁.setTop (mkF m 15 #[.val (.int par), .val (.int box)] [(.long ((((par.toInt64) <<< ((32 : Int32) &&& 0x3f).toInt64) ||| ((box.toInt64) <<< ((16 : Int32) &&& 0x3f).toInt64)) ||| (8 : Int64)))])) _
    exact kt
  obtain ⟨fs, hr, hrun, hended, hW, hsame⟩ := X0.leave (v := some (.long ((((par.toInt64) <<< ((32 : Int32) &&& 0x3f).toInt64) ||| ((box.toInt64) <<< ((16 : Int32) &&& 0x3f).toInt64)) ||| (8 : Int64)))) (fun h => by rw [Bd.returns] at h; cases h)
  refine ⟨_, _, k1 _ ?_, hrun, hended, _, _, rfl, ?_, ⟨_, rfl⟩, hW, hsame.mono (by decide) (by decide)⟩
  · exact own_retJ X0 hx Bd.returns (hb hby d4_15) hr
  · show QV _ h0 n0 _ s₁.heap _
    exact ⟨rfl, N0, e0⟩
theorem d5_0 : decode prog_39_method_4_code 0 = .ok (.lload_n 0, 1) := by decide +kernel
theorem d5_1 : decode prog_39_method_4_code 1 = .ok (.ldc2_w 19, 3) := by decide +kernel
theorem d5_4 : decode prog_39_method_4_code 4 = .ok (.land, 1) := by decide +kernel
theorem d5_5 : decode prog_39_method_4_code 5 = .ok (.lconst 0, 1) := by decide +kernel
theorem d5_6 : decode prog_39_method_4_code 6 = .ok (.lcmp, 1) := by decide +kernel
theorem d5_7 : decode prog_39_method_4_code 7 = .ok (.ifCond .eq 7, 3) := by decide +kernel
theorem d5_10 : decode prog_39_method_4_code 10 = .ok (.iconst 1, 1) := by decide +kernel
theorem d5_11 : decode prog_39_method_4_code 11 = .ok (.goto 4, 3) := by decide +kernel
theorem d5_14 : decode prog_39_method_4_code 14 = .ok (.iconst 0, 1) := by decide +kernel
theorem d5_15 : decode prog_39_method_4_code 15 = .ok (.ireturn, 1) := by decide +kernel
theorem pn_5 : plainName "pushwise/Steps" = true := by first | (simp [plainName, overriddenIn]; done) | decide +kernel
theorem ef_rm5 (m : MethodId) (q : Int64) : entryFrame m #[(.long q)] 2 = mkF m 0 #[.val (.long q), .second] [] := by first | (simp [entryFrame, mkF, argsToLocals, Value.category]; done) | rfl
set_option maxRecDepth 65536 in
set_option maxHeartbeats 40000000 in
theorem rm5 (l : Launch) (Z : State) (a0 : Array Value) (hw : ∀ d ∈ tables_1, d.before a0 Z = true) (ws : List Jvm.Cond) (q : Int64)  (h0 : Heap) (n0 : Nat)  :
    MetFree l (⟨"pushwise/Steps", "isPacking", "(J)Z"⟩ : MethodName) (head1 (Jvm.Cond.code (⟨"pushwise/Steps", "isPacking", "(J)Z"⟩ : MethodName) prog_39_method_4_code 2 (some .boolean) :: ws) ({ frames := 0, cells := 0, slots := 0, locals := 0 } : Room)) (fun a_ U_ => a_ = #[(.long q)] ∧ Z.Warmed39 U_.vm ∧ U_.heap = h0) (fun _ _ _ _ _ => True) (fun _ U_ o_ U'_ => ∃ v_ L_, o_ = .returned v_ ∧ QV (.int (if (q &&& (8 : Int64)) = (0 : Int64) then (0 : Int32) else (1 : Int32))) h0 n0 v_ U'_.heap L_ ∧ FrameEnd U_ o_ U'_ L_ ({ frames := 0, cells := 0, slots := 0, locals := 0 } : Room).cells ({ frames := 0, cells := 0, slots := 0, locals := 0 } : Room).slots) := by
  refine MetFree.of_bodySF (plainFor_of_name pn_5) hisR ?_
  intro p e s m args below meth c s₁ Bd hml0 hP hK
  obtain ⟨rfl, hZ, hh⟩ := hP
  have hx := Bd.exec
  have hby := Bd.bytes
  have hml : c.maxLocals = 2 := hml0
  have hown : s.vm.findClass "pushwise/Steps" = some m.cls := findClass_of_methodNamed Bd.named
  have hnm := (name_of_methodNamed Bd.named Bd.method).1
  have X0 : Stand p l e ({ frames := 0, cells := 0, slots := 0, locals := 0 } : Room) s m #[(.long q)] below meth c s₁ [] 0 0 := Stand.of_body Bd
  have e0 : s₁.heap = h0 := by rw [← hh, Bd.state]; rfl
  have N0 := Fr.nil n0
  have k0 : ∀ tg, Steps p.tables e below (s₁.setTop (mkF m 0 #[.val (.long q), .second] [])) tg → Steps p.tables e below (s₁.setTop (entryFrame m #[(.long q)] 2)) tg := fun tg k => castTop (ef_rm5 m q) k
  have k1 : ∀ tg, Steps p.tables e below (s₁.setTop (mkF m 7 #[.val (.long q), .second] [(.int (lcmpW (q &&& (8 : Int64)) (0 : Int64)))])) tg → Steps p.tables e below (s₁.setTop (entryFrame m #[(.long q)] 2)) tg := by
    intro tg kt
    refine k0 tg ?_
    show Steps p.tables e below (s₁.setTop (mkF m 0 #[.val (.long q), .second] [])) _
    refine XS.lloadN X0.here hx rfl (hb hby d5_0) rfl ?_
    show Steps p.tables e below (s₁.setTop (mkF m 1 #[.val (.long q), .second] [(.long q)])) _
    refine X0.ldc2Long hx hown (mvT hZ (hw _ (List.mem_of_getElem? (i := 24) rfl))) (g := (mkF m 1 #[.val (.long q), .second] [(.long q)])) rfl (hb hby d5_1) _ ?_
    show Steps p.tables e below (s₁.setTop (mkF m 4 #[.val (.long q), .second] [(.long (8 : Int64)), (.long q)])) _
    refine XS.land X0.here hx rfl (hb hby d5_4) rfl ?_
    show Steps p.tables e below (s₁.setTop (mkF m 5 #[.val (.long q), .second] [(.long (q &&& (8 : Int64)))])) _
    refine XS.lconst X0.here hx rfl (hb hby d5_5) ?_
    show Steps p.tables e below (s₁.setTop (mkF m 6 #[.val (.long q), .second] [(.long (0 : Int64)), (.long (q &&& (8 : Int64)))])) _
    refine XS.lcmp X0.here hx rfl (hb hby d5_6) rfl ?_
    show Steps p.tables e below (s₁.setTop (mkF m 7 #[.val (.long q), .second] [(.int (lcmpW (q &&& (8 : Int64)) (0 : Int64)))])) _
    exact kt
  have k5 : ∀ tg, Steps p.tables e below (s₁.setTop (mkF m 15 #[.val (.long q), .second] [(.int (if (q &&& (8 : Int64)) = (0 : Int64) then (0 : Int32) else (1 : Int32)))])) tg → Steps p.tables e below (s₁.setTop (entryFrame m #[(.long q)] 2)) tg := by
    intro tg kt
    refine k1 tg ?_
    show Steps p.tables e below (s₁.setTop (mkF m 7 #[.val (.long q), .second] [(.int (lcmpW (q &&& (8 : Int64)) (0 : Int64)))])) _
    by_cases hc2 : (q &&& (8 : Int64)) = (0 : Int64)
    · refine XS.ifYes X0.here hx rfl (pc0 := 7) (pc' := 14) rfl (hb hby d5_7) rfl ((if0 _ _).trans (teq ((lw_eq _ _).mpr hc2)).1) (by decide) (by decide) ?_
      show Steps p.tables e below (s₁.setTop (mkF m 14 #[.val (.long q), .second] [])) _
      refine XS.iconst X0.here hx rfl (hb hby d5_14) ?_
      show Steps p.tables e below (s₁.setTop (mkF m 15 #[.val (.long q), .second] [(.int (0 : Int32))])) _
      repeat rw [if_pos hc2] at kt
      exact kt
    · refine XS.ifNo X0.here hx rfl (hb hby d5_7) rfl ((if0 _ _).trans (feq (fun q => hc2 ((lw_eq _ _).mp q))).1) ?_
      show Steps p.tables e below (s₁.setTop (mkF m 10 #[.val (.long q), .second] [])) _
      refine XS.iconst X0.here hx rfl (hb hby d5_10) ?_
      show Steps p.tables e below (s₁.setTop (mkF m 11 #[.val (.long q), .second] [(.int (1 : Int32))])) _
      refine XS.goto X0.here hx rfl (pc0 := 11) (pc' := 15) rfl (hb hby d5_11) (by decide) (by decide) ?_
      show Steps p.tables e below (s₁.setTop (mkF m 15 #[.val (.long q), .second] [(.int (1 : Int32))])) _
      repeat rw [if_neg hc2] at kt
      exact kt
  obtain ⟨z6, ez6⟩ : ∃ z : Int32, z = (if (q &&& (8 : Int64)) = (0 : Int64) then (0 : Int32) else (1 : Int32)) := ⟨_, rfl⟩
  have k7 : ∀ tg, Steps p.tables e below (s₁.setTop (mkF m 15 #[.val (.long q), .second] [(.int z6)])) tg → Steps p.tables e below (s₁.setTop (entryFrame m #[(.long q)] 2)) tg := by
    intro tg kt
    refine k5 tg ?_
    show Steps p.tables e below (s₁.setTop (mkF m 15 #[.val (.long q), .second] [(.int (if (q &&& (8 : Int64)) = (0 : Int64) then (0 : Int32) else (1 : Int32)))])) _
    rw [← ez6]
    show Steps p.tables e below (s₁.setTop (mkF m 15 #[.val (.long q), .second] [(.int z6)])) _
    exact kt
  obtain ⟨fs, hr, hrun, hended, hW, hsame⟩ := X0.leave (v := some (.int z6)) (fun h => by rw [Bd.returns] at h; cases h)
  refine ⟨_, _, k7 _ ?_, hrun, hended, _, _, rfl, ?_, ⟨_, rfl⟩, hW, hsame.mono (by decide) (by decide)⟩
  · exact retN X0 hx (t := .boolean) Bd.returns (by simp) (hb hby d5_15) (by rw [show nar .boolean z6 = z6 from (by rw [ez6]; (repeat' split) <;> decide)]; exact hr)
  · show QV _ h0 n0 _ s₁.heap _
    exact ⟨by subst ez6; rfl, N0, e0⟩
theorem pn_0 : plainName "pushwise/StepsIsPackingPinLaw" = true := by first | (simp [plainName, overriddenIn]; done) | decide +kernel
theorem pd_1 : parseMethodDescriptor "(I)Lpushwise/Direction;" = some ⟨[.int], some (.object "pushwise/Direction")⟩ := by decide +kernel
theorem pd_2 : parseMethodDescriptor "(IIILpushwise/Direction;Z)J" = some ⟨[.int, .int, .int, (.object "pushwise/Direction"), .boolean], some .long⟩ := by decide +kernel
theorem pd_3 : parseMethodDescriptor "(II)J" = some ⟨[.int, .int], some .long⟩ := by decide +kernel
theorem pd_4 : parseMethodDescriptor "(J)Z" = some ⟨[.long], some .boolean⟩ := by decide +kernel
theorem ef_rm0 (m : MethodId) (par : Int32) (box : Int32) (str : Int32) (flags : Int32) : entryFrame m #[(.int par), (.int box), (.int str), (.int flags)] maxLocals = mkF m 0 #[.val (.int par), .val (.int box), .val (.int str), .val (.int flags), .unset, .unset, .unset, .unset, .unset, .unset, .unset, .unset, .unset, .unset, .unset, .unset] [] := by first | (simp [entryFrame, mkF, argsToLocals, Value.category, maxLocals]; done) | rfl
set_option maxRecDepth 65536 in
set_option maxHeartbeats 40000000 in
theorem rm0 (l : Launch) (Z : State) (a0 : Array Value) (hw : ∀ d ∈ tables_1, d.before a0 Z = true) (ws : List Jvm.Cond) (par : Int32) (box : Int32) (str : Int32) (flags : Int32) (w_LEFT w_UP w_RIGHT w_DOWN : Addr) (h0 : Heap) (n0 : Nat) (S_LEFT : Sta Z h0 "pushwise/Direction" "LEFT" "Lpushwise/Direction;" (.ref w_LEFT)) (S_UP : Sta Z h0 "pushwise/Direction" "UP" "Lpushwise/Direction;" (.ref w_UP)) (S_RIGHT : Sta Z h0 "pushwise/Direction" "RIGHT" "Lpushwise/Direction;" (.ref w_RIGHT)) (S_DOWN : Sta Z h0 "pushwise/Direction" "DOWN" "Lpushwise/Direction;" (.ref w_DOWN)) (E_LEFT : Exa Z h0 w_LEFT "pushwise/Direction") (F_LEFT : Fld Z h0 w_LEFT "java/lang/Enum" "ordinal" "I" (.int 0)) (E_UP : Exa Z h0 w_UP "pushwise/Direction") (F_UP : Fld Z h0 w_UP "java/lang/Enum" "ordinal" "I" (.int 1)) (E_RIGHT : Exa Z h0 w_RIGHT "pushwise/Direction") (F_RIGHT : Fld Z h0 w_RIGHT "java/lang/Enum" "ordinal" "I" (.int 2)) (E_DOWN : Exa Z h0 w_DOWN "pushwise/Direction") (F_DOWN : Fld Z h0 w_DOWN "java/lang/Enum" "ordinal" "I" (.int 3)) :
    MetFree l x (head1 (Jvm.Cond.code x code maxLocals ret :: ws) room_1) (fun a_ U_ => a_ = #[(.int par), (.int box), (.int str), (.int flags)] ∧ Z.Warmed39 U_.vm ∧ U_.heap = h0) (fun _ _ _ _ _ => True) (fun _ U_ o_ U'_ => ∃ v_ L_, o_ = .returned v_ ∧ QL n0 v_ U'_.heap L_ ∧ FrameEnd U_ o_ U'_ L_ room_1.cells room_1.slots) := by
  refine MetFree.of_bodySF (plainFor_of_name pn_0) hisR ?_
  intro p e s m args below meth c s₁ Bd hml0 hP hK
  obtain ⟨rfl, hZ, hh⟩ := hP
  have hx := Bd.exec
  have hby := Bd.bytes
  have hml : c.maxLocals = 16 := hml0
  have hown : s.vm.findClass "pushwise/StepsIsPackingPinLaw" = some m.cls := findClass_of_methodNamed Bd.named
  have hnm := (name_of_methodNamed Bd.named Bd.method).1
  have X0 : Stand p l e room_1 s m #[(.int par), (.int box), (.int str), (.int flags)] below meth c s₁ [] 0 0 := Stand.of_body Bd
  have e0 : s₁.heap = h0 := by rw [← hh, Bd.state]; rfl
  have N0 := Fr.nil n0
  have k0 : ∀ tg, Steps p.tables e below (s₁.setTop (mkF m 0 #[.val (.int par), .val (.int box), .val (.int str), .val (.int flags), .unset, .unset, .unset, .unset, .unset, .unset, .unset, .unset, .unset, .unset, .unset, .unset] [])) tg → Steps p.tables e below (s₁.setTop (entryFrame m #[(.int par), (.int box), (.int str), (.int flags)] maxLocals)) tg := fun tg k => castTop (ef_rm0 m par box str flags) k
  have k1 : ∀ tg, Steps p.tables e below (s₁.setTop (mkF m 16 #[.val (.int par), .val (.int box), .val (.int str), .val (.int flags), .val (.int (box &&& (65535 : Int32))), .val (.int (str &&& (4095 : Int32))), .unset, .unset, .unset, .unset, .unset, .unset, .unset, .unset, .unset, .unset] [(.int (flags &&& (4 : Int32)))])) tg → Steps p.tables e below (s₁.setTop (entryFrame m #[(.int par), (.int box), (.int str), (.int flags)] maxLocals)) tg := by
    intro tg kt
    refine k0 tg ?_
    show Steps p.tables e below (s₁.setTop (mkF m 0 #[.val (.int par), .val (.int box), .val (.int str), .val (.int flags), .unset, .unset, .unset, .unset, .unset, .unset, .unset, .unset, .unset, .unset, .unset, .unset] [])) _
    refine XS.iloadN X0.here hx rfl (hb hby at_0) rfl ?_
    show Steps p.tables e below (s₁.setTop (mkF m 1 #[.val (.int par), .val (.int box), .val (.int str), .val (.int flags), .unset, .unset, .unset, .unset, .unset, .unset, .unset, .unset, .unset, .unset, .unset, .unset] [(.int box)])) _
    refine X0.ldcInt hx hown (mvT hZ (hw _ (List.mem_of_getElem? (i := 0) rfl))) (g := (mkF m 1 #[.val (.int par), .val (.int box), .val (.int str), .val (.int flags), .unset, .unset, .unset, .unset, .unset, .unset, .unset, .unset, .unset, .unset, .unset, .unset] [(.int box)])) rfl (hb hby at_1) _ ?_
    show Steps p.tables e below (s₁.setTop (mkF m 3 #[.val (.int par), .val (.int box), .val (.int str), .val (.int flags), .unset, .unset, .unset, .unset, .unset, .unset, .unset, .unset, .unset, .unset, .unset, .unset] [(.int (65535 : Int32)), (.int box)])) _
    refine XS.iand X0.here hx rfl (hb hby at_3) rfl ?_
    show Steps p.tables e below (s₁.setTop (mkF m 4 #[.val (.int par), .val (.int box), .val (.int str), .val (.int flags), .unset, .unset, .unset, .unset, .unset, .unset, .unset, .unset, .unset, .unset, .unset, .unset] [(.int (box &&& (65535 : Int32)))])) _
    refine XS.istore X0.here hx rfl (hb hby at_4) rfl (l' := #[.val (.int par), .val (.int box), .val (.int str), .val (.int flags), .val (.int (box &&& (65535 : Int32))), .unset, .unset, .unset, .unset, .unset, .unset, .unset, .unset, .unset, .unset, .unset]) rfl ?_
    show Steps p.tables e below (s₁.setTop (mkF m 6 #[.val (.int par), .val (.int box), .val (.int str), .val (.int flags), .val (.int (box &&& (65535 : Int32))), .unset, .unset, .unset, .unset, .unset, .unset, .unset, .unset, .unset, .unset, .unset] [])) _
    refine XS.iloadN X0.here hx rfl (hb hby at_6) rfl ?_
    show Steps p.tables e below (s₁.setTop (mkF m 7 #[.val (.int par), .val (.int box), .val (.int str), .val (.int flags), .val (.int (box &&& (65535 : Int32))), .unset, .unset, .unset, .unset, .unset, .unset, .unset, .unset, .unset, .unset, .unset] [(.int str)])) _
    refine XS.sipush X0.here hx rfl (hb hby at_7) ?_
    show Steps p.tables e below (s₁.setTop (mkF m 10 #[.val (.int par), .val (.int box), .val (.int str), .val (.int flags), .val (.int (box &&& (65535 : Int32))), .unset, .unset, .unset, .unset, .unset, .unset, .unset, .unset, .unset, .unset, .unset] [(.int (4095 : Int32)), (.int str)])) _
    refine XS.iand X0.here hx rfl (hb hby at_10) rfl ?_
    show Steps p.tables e below (s₁.setTop (mkF m 11 #[.val (.int par), .val (.int box), .val (.int str), .val (.int flags), .val (.int (box &&& (65535 : Int32))), .unset, .unset, .unset, .unset, .unset, .unset, .unset, .unset, .unset, .unset, .unset] [(.int (str &&& (4095 : Int32)))])) _
    refine XS.istore X0.here hx rfl (hb hby at_11) rfl (l' := #[.val (.int par), .val (.int box), .val (.int str), .val (.int flags), .val (.int (box &&& (65535 : Int32))), .val (.int (str &&& (4095 : Int32))), .unset, .unset, .unset, .unset, .unset, .unset, .unset, .unset, .unset, .unset]) rfl ?_
    show Steps p.tables e below (s₁.setTop (mkF m 13 #[.val (.int par), .val (.int box), .val (.int str), .val (.int flags), .val (.int (box &&& (65535 : Int32))), .val (.int (str &&& (4095 : Int32))), .unset, .unset, .unset, .unset, .unset, .unset, .unset, .unset, .unset, .unset] [])) _
    refine XS.iloadN X0.here hx rfl (hb hby at_13) rfl ?_
    show Steps p.tables e below (s₁.setTop (mkF m 14 #[.val (.int par), .val (.int box), .val (.int str), .val (.int flags), .val (.int (box &&& (65535 : Int32))), .val (.int (str &&& (4095 : Int32))), .unset, .unset, .unset, .unset, .unset, .unset, .unset, .unset, .unset, .unset] [(.int flags)])) _
    refine XS.iconst X0.here hx rfl (hb hby at_14) ?_
    show Steps p.tables e below (s₁.setTop (mkF m 15 #[.val (.int par), .val (.int box), .val (.int str), .val (.int flags), .val (.int (box &&& (65535 : Int32))), .val (.int (str &&& (4095 : Int32))), .unset, .unset, .unset, .unset, .unset, .unset, .unset, .unset, .unset, .unset] [(.int (4 : Int32)), (.int flags)])) _
    refine XS.iand X0.here hx rfl (hb hby at_15) rfl ?_
    show Steps p.tables e below (s₁.setTop (mkF m 16 #[.val (.int par), .val (.int box), .val (.int str), .val (.int flags), .val (.int (box &&& (65535 : Int32))), .val (.int (str &&& (4095 : Int32))), .unset, .unset, .unset, .unset, .unset, .unset, .unset, .unset, .unset, .unset] [(.int (flags &&& (4 : Int32)))])) _
    exact kt
  have k5 : ∀ tg, Steps p.tables e below (s₁.setTop (mkF m 24 #[.val (.int par), .val (.int box), .val (.int str), .val (.int flags), .val (.int (box &&& (65535 : Int32))), .val (.int (str &&& (4095 : Int32))), .unset, .unset, .unset, .unset, .unset, .unset, .unset, .unset, .unset, .unset] [(.int (if (flags &&& (4 : Int32)) = (0 : Int32) then (0 : Int32) else (1 : Int32)))])) tg → Steps p.tables e below (s₁.setTop (entryFrame m #[(.int par), (.int box), (.int str), (.int flags)] maxLocals)) tg := by
    intro tg kt
    refine k1 tg ?_
    show Steps p.tables e below (s₁.setTop (mkF m 16 #[.val (.int par), .val (.int box), .val (.int str), .val (.int flags), .val (.int (box &&& (65535 : Int32))), .val (.int (str &&& (4095 : Int32))), .unset, .unset, .unset, .unset, .unset, .unset, .unset, .unset, .unset, .unset] [(.int (flags &&& (4 : Int32)))])) _
    by_cases hc2 : (flags &&& (4 : Int32)) = (0 : Int32)
    · refine XS.ifYes X0.here hx rfl (pc0 := 16) (pc' := 23) rfl (hb hby at_16) rfl ((if0 _ _).trans (teq hc2).1) (by decide) (by decide) ?_
      show Steps p.tables e below (s₁.setTop (mkF m 23 #[.val (.int par), .val (.int box), .val (.int str), .val (.int flags), .val (.int (box &&& (65535 : Int32))), .val (.int (str &&& (4095 : Int32))), .unset, .unset, .unset, .unset, .unset, .unset, .unset, .unset, .unset, .unset] [])) _
      refine XS.iconst X0.here hx rfl (hb hby at_23) ?_
      show Steps p.tables e below (s₁.setTop (mkF m 24 #[.val (.int par), .val (.int box), .val (.int str), .val (.int flags), .val (.int (box &&& (65535 : Int32))), .val (.int (str &&& (4095 : Int32))), .unset, .unset, .unset, .unset, .unset, .unset, .unset, .unset, .unset, .unset] [(.int (0 : Int32))])) _
      repeat rw [if_pos hc2] at kt
      exact kt
    · refine XS.ifNo X0.here hx rfl (hb hby at_16) rfl ((if0 _ _).trans (feq hc2).1) ?_
      show Steps p.tables e below (s₁.setTop (mkF m 19 #[.val (.int par), .val (.int box), .val (.int str), .val (.int flags), .val (.int (box &&& (65535 : Int32))), .val (.int (str &&& (4095 : Int32))), .unset, .unset, .unset, .unset, .unset, .unset, .unset, .unset, .unset, .unset] [])) _
      refine XS.iconst X0.here hx rfl (hb hby at_19) ?_
      show Steps p.tables e below (s₁.setTop (mkF m 20 #[.val (.int par), .val (.int box), .val (.int str), .val (.int flags), .val (.int (box &&& (65535 : Int32))), .val (.int (str &&& (4095 : Int32))), .unset, .unset, .unset, .unset, .unset, .unset, .unset, .unset, .unset, .unset] [(.int (1 : Int32))])) _
      refine XS.goto X0.here hx rfl (pc0 := 20) (pc' := 24) rfl (hb hby at_20) (by decide) (by decide) ?_
      show Steps p.tables e below (s₁.setTop (mkF m 24 #[.val (.int par), .val (.int box), .val (.int str), .val (.int flags), .val (.int (box &&& (65535 : Int32))), .val (.int (str &&& (4095 : Int32))), .unset, .unset, .unset, .unset, .unset, .unset, .unset, .unset, .unset, .unset] [(.int (1 : Int32))])) _
      repeat rw [if_neg hc2] at kt
      exact kt
  obtain ⟨z6, ez6⟩ : ∃ z : Int32, z = (if (flags &&& (4 : Int32)) = (0 : Int32) then (0 : Int32) else (1 : Int32)) := ⟨_, rfl⟩
  obtain ⟨_, _, ⟨T7, L7, k7, n7⟩, -, X7, ⟨Lc7, hQ7, l7, y7, z7⟩, st7⟩ := Jvm.LawKit.callS X0 hx (y := (⟨"pushwise/StepsIsPackingPinLaw", "dir", "(I)Lpushwise/Direction;"⟩ : MethodName)) hown (mvT hZ (hw _ (List.mem_of_getElem? (i := 1) rfl))) (mvT hZ (hw _ (List.mem_of_getElem? (i := 2) rfl))) (mvT hZ (hw _ (List.mem_of_getElem? (i := 3) rfl))) (mvT hZ (hw _ (List.mem_of_getElem? (i := 4) rfl))) (by decide) (backOf (W := 0) (rm1 l Z a0 hw [] flags w_LEFT w_UP w_RIGHT w_DOWN h0 n0 S_LEFT S_UP S_RIGHT S_DOWN) hZ (hw _ (List.mem_of_getElem? (i := 4) rfl)) (hw _ (List.mem_of_getElem? (i := 3) rfl)) (by decide) (by decide)) (g := (mkF m 27 #[.val (.int par), .val (.int box), .val (.int str), .val (.int flags), .val (.int (box &&& (65535 : Int32))), .val (.int (str &&& (4095 : Int32))), .val (.int z6), .unset, .unset, .unset, .unset, .unset, .unset, .unset, .unset, .unset] [(.int flags)])) rfl (by rw [hml]; rfl) (argsL := [(.int flags)]) (rest := []) (lenOf pd_1 rfl) rfl (by show 2 * 0 + _ ≤ _; exact Nat.le_of_eq rfl) (hb hby at_27) (fun _ _ => ⟨rfl, e0, (by decide : 0 + 0 ≤ _), (by decide : 0 + 0 ≤ _)⟩)
  dsimp only [Pt.U, Pt.locs, Pt.cells, Pt.slots] at X7 l7 y7 z7 st7 hQ7
  subst l7 y7 z7
  obtain ⟨rfl, N7q, e7⟩ := hQ7
  have N7 := Fr.app N0 N7q
  obtain ⟨z8, ez8⟩ : ∃ z : Addr, z = (if (flags &&& (3 : Int32)) = (0 : Int32) then w_LEFT else (if (flags &&& (3 : Int32)) = (1 : Int32) then w_UP else (if (flags &&& (3 : Int32)) = (2 : Int32) then w_RIGHT else w_DOWN))) := ⟨_, rfl⟩
  have Ed : Exa Z h0 z8 "pushwise/Direction" := by
    rw [ez8]; repeat' split
    all_goals assumption
  obtain ⟨od, ho, Fd⟩ : ∃ od : Int32, (od = 0 ∨ od = 1 ∨ od = 2 ∨ od = 3) ∧ Fld Z h0 z8 "java/lang/Enum" "ordinal" "I" (.int od) := by
    rw [ez8]; split
    · exact ⟨0, by simp, F_LEFT⟩
    split
    · exact ⟨1, by simp, F_UP⟩
    split
    · exact ⟨2, by simp, F_RIGHT⟩
    · exact ⟨3, by simp, F_DOWN⟩
  obtain ⟨_, _, ⟨T9, L9, k9, n9⟩, -, X9, ⟨Lc9, hQ9, l9, y9, z9⟩, st9⟩ := Jvm.LawKit.callS X7 hx (y := (⟨"pushwise/Steps", "of", "(IIILpushwise/Direction;Z)J"⟩ : MethodName)) hown (mvT hZ (hw _ (List.mem_of_getElem? (i := 8) rfl))) (mvT hZ (hw _ (List.mem_of_getElem? (i := 9) rfl))) (mvT hZ (hw _ (List.mem_of_getElem? (i := 10) rfl))) (mvT hZ (hw _ (List.mem_of_getElem? (i := 11) rfl))) (by decide) (backOf (W := 0) (rm2 l Z a0 hw [] par (box &&& (65535 : Int32)) (str &&& (4095 : Int32)) z8 z6 od h0 n0 Ed Fd) hZ (hw _ (List.mem_of_getElem? (i := 11) rfl)) (hw _ (List.mem_of_getElem? (i := 10) rfl)) (by decide) (by decide)) (g := (mkF m 41 #[.val (.int par), .val (.int box), .val (.int str), .val (.int flags), .val (.int (box &&& (65535 : Int32))), .val (.int (str &&& (4095 : Int32))), .val (.int z6), .val (.ref z8), .unset, .unset, .unset, .unset, .unset, .unset, .unset, .unset] [(.int z6), (.ref z8), (.int (str &&& (4095 : Int32))), (.int (box &&& (65535 : Int32))), (.int par)])) rfl (by rw [hml]; rfl) (argsL := [(.int par), (.int (box &&& (65535 : Int32))), (.int (str &&& (4095 : Int32))), (.ref z8), (.int z6)]) (rest := []) (lenOf pd_2 rfl) rfl (by show 2 * 0 + _ ≤ _; exact Nat.le_of_eq rfl) (hb hby at_41) (fun _ _ => ⟨rfl, e7, (by decide : 0 + 0 ≤ _), (by decide : 0 + 0 ≤ _)⟩)
  dsimp only [Pt.U, Pt.locs, Pt.cells, Pt.slots] at X9 l9 y9 z9 st9 hQ9
  subst l9 y9 z9
  obtain ⟨rfl, N9q, e9⟩ := hQ9
  have N9 := Fr.app N7 N9q
  obtain ⟨z10, ez10⟩ : ∃ z : Int64, z = ((((((par.toInt64) <<< ((32 : Int32) &&& 0x3f).toInt64) ||| (((box &&& (65535 : Int32)).toInt64) <<< ((16 : Int32) &&& 0x3f).toInt64)) ||| (((str &&& (4095 : Int32)).toInt64) <<< ((4 : Int32) &&& 0x3f).toInt64)) ||| (if z6 = (0 : Int32) then (0 : Int64) else (4 : Int64))) ||| (od.toInt64)) := ⟨_, rfl⟩
  obtain ⟨_, _, ⟨T11, L11, k11, n11⟩, -, X11, ⟨Lc11, hQ11, l11, y11, z11⟩, st11⟩ := Jvm.LawKit.callS X9 hx (y := (⟨"pushwise/Steps", "packing", "(II)J"⟩ : MethodName)) hown (mvT hZ (hw _ (List.mem_of_getElem? (i := 21) rfl))) (mvT hZ (hw _ (List.mem_of_getElem? (i := 22) rfl))) (mvT hZ (hw _ (List.mem_of_getElem? (i := 10) rfl))) (mvT hZ (hw _ (List.mem_of_getElem? (i := 23) rfl))) (by decide) (backOf (W := 0) (rm4 l Z a0 hw [] par (box &&& (65535 : Int32))  h0 n0 ) hZ (hw _ (List.mem_of_getElem? (i := 23) rfl)) (hw _ (List.mem_of_getElem? (i := 10) rfl)) (by decide) (by decide)) (g := (mkF m 49 #[.val (.int par), .val (.int box), .val (.int str), .val (.int flags), .val (.int (box &&& (65535 : Int32))), .val (.int (str &&& (4095 : Int32))), .val (.int z6), .val (.ref z8), .val (.long z10), .second, .unset, .unset, .unset, .unset, .unset, .unset] [(.int (box &&& (65535 : Int32))), (.int par)])) rfl (by rw [hml]; rfl) (argsL := [(.int par), (.int (box &&& (65535 : Int32)))]) (rest := []) (lenOf pd_3 rfl) rfl (by show 2 * 0 + _ ≤ _; exact Nat.le_of_eq rfl) (hb hby at_49) (fun _ _ => ⟨rfl, e9, (by decide : 0 + 0 ≤ _), (by decide : 0 + 0 ≤ _)⟩)
  dsimp only [Pt.U, Pt.locs, Pt.cells, Pt.slots] at X11 l11 y11 z11 st11 hQ11
  subst l11 y11 z11
  obtain ⟨rfl, N11q, e11⟩ := hQ11
  have N11 := Fr.app N9 N11q
  obtain ⟨z12, ez12⟩ : ∃ z : Int64, z = ((((par.toInt64) <<< ((32 : Int32) &&& 0x3f).toInt64) ||| (((box &&& (65535 : Int32)).toInt64) <<< ((16 : Int32) &&& 0x3f).toInt64)) ||| (8 : Int64)) := ⟨_, rfl⟩
  obtain ⟨_, _, ⟨T13, L13, k13, n13⟩, -, X13, ⟨Lc13, hQ13, l13, y13, z13⟩, st13⟩ := Jvm.LawKit.callS X11 hx (y := (⟨"pushwise/Steps", "isPacking", "(J)Z"⟩ : MethodName)) hown (mvT hZ (hw _ (List.mem_of_getElem? (i := 25) rfl))) (mvT hZ (hw _ (List.mem_of_getElem? (i := 26) rfl))) (mvT hZ (hw _ (List.mem_of_getElem? (i := 10) rfl))) (mvT hZ (hw _ (List.mem_of_getElem? (i := 27) rfl))) (by decide) (backOf (W := 0) (rm5 l Z a0 hw [] z10  h0 n0 ) hZ (hw _ (List.mem_of_getElem? (i := 27) rfl)) (hw _ (List.mem_of_getElem? (i := 10) rfl)) (by decide) (by decide)) (g := (mkF m 56 #[.val (.int par), .val (.int box), .val (.int str), .val (.int flags), .val (.int (box &&& (65535 : Int32))), .val (.int (str &&& (4095 : Int32))), .val (.int z6), .val (.ref z8), .val (.long z10), .second, .val (.long z12), .second, .unset, .unset, .unset, .unset] [(.long z10)])) rfl (by rw [hml]; rfl) (argsL := [(.long z10)]) (rest := []) (lenOf pd_4 rfl) rfl (by show 2 * 0 + _ ≤ _; exact Nat.le_of_eq rfl) (hb hby at_56) (fun _ _ => ⟨rfl, e11, (by decide : 0 + 0 ≤ _), (by decide : 0 + 0 ≤ _)⟩)
  dsimp only [Pt.U, Pt.locs, Pt.cells, Pt.slots] at X13 l13 y13 z13 st13 hQ13
  subst l13 y13 z13
  obtain ⟨rfl, N13q, e13⟩ := hQ13
  have N13 := Fr.app N11 N13q
  obtain ⟨z14, ez14⟩ : ∃ z : Int32, z = (if (z10 &&& (8 : Int64)) = (0 : Int64) then (0 : Int32) else (1 : Int32)) := ⟨_, rfl⟩
  have k15 : ∀ tg, Steps p.tables e below (T13.setTop (mkF m 59 #[.val (.int par), .val (.int box), .val (.int str), .val (.int flags), .val (.int (box &&& (65535 : Int32))), .val (.int (str &&& (4095 : Int32))), .val (.int z6), .val (.ref z8), .val (.long z10), .second, .val (.long z12), .second, .unset, .unset, .unset, .unset] [(.int z14)])) tg → Steps p.tables e below (s₁.setTop (entryFrame m #[(.int par), (.int box), (.int str), (.int flags)] maxLocals)) tg := by
    intro tg kt
    refine k5 tg ?_
    show Steps p.tables e below (s₁.setTop (mkF m 24 #[.val (.int par), .val (.int box), .val (.int str), .val (.int flags), .val (.int (box &&& (65535 : Int32))), .val (.int (str &&& (4095 : Int32))), .unset, .unset, .unset, .unset, .unset, .unset, .unset, .unset, .unset, .unset] [(.int (if (flags &&& (4 : Int32)) = (0 : Int32) then (0 : Int32) else (1 : Int32)))])) _
    rw [← ez6]
    show Steps p.tables e below (s₁.setTop (mkF m 24 #[.val (.int par), .val (.int box), .val (.int str), .val (.int flags), .val (.int (box &&& (65535 : Int32))), .val (.int (str &&& (4095 : Int32))), .unset, .unset, .unset, .unset, .unset, .unset, .unset, .unset, .unset, .unset] [(.int z6)])) _
    refine XS.istore X0.here hx rfl (hb hby at_24) rfl (l' := #[.val (.int par), .val (.int box), .val (.int str), .val (.int flags), .val (.int (box &&& (65535 : Int32))), .val (.int (str &&& (4095 : Int32))), .val (.int z6), .unset, .unset, .unset, .unset, .unset, .unset, .unset, .unset, .unset]) rfl ?_
    show Steps p.tables e below (s₁.setTop (mkF m 26 #[.val (.int par), .val (.int box), .val (.int str), .val (.int flags), .val (.int (box &&& (65535 : Int32))), .val (.int (str &&& (4095 : Int32))), .val (.int z6), .unset, .unset, .unset, .unset, .unset, .unset, .unset, .unset, .unset] [])) _
    refine XS.iloadN X0.here hx rfl (hb hby at_26) rfl ?_
    show Steps p.tables e below (s₁.setTop (mkF m 27 #[.val (.int par), .val (.int box), .val (.int str), .val (.int flags), .val (.int (box &&& (65535 : Int32))), .val (.int (str &&& (4095 : Int32))), .val (.int z6), .unset, .unset, .unset, .unset, .unset, .unset, .unset, .unset, .unset] [(.int flags)])) _
    refine st7 _ ?_
    show Steps p.tables e below (T7.setTop (mkF m 30 #[.val (.int par), .val (.int box), .val (.int str), .val (.int flags), .val (.int (box &&& (65535 : Int32))), .val (.int (str &&& (4095 : Int32))), .val (.int z6), .unset, .unset, .unset, .unset, .unset, .unset, .unset, .unset, .unset] [(.ref (if (flags &&& (3 : Int32)) = (0 : Int32) then w_LEFT else (if (flags &&& (3 : Int32)) = (1 : Int32) then w_UP else (if (flags &&& (3 : Int32)) = (2 : Int32) then w_RIGHT else w_DOWN))))])) _
    rw [← ez8]
    show Steps p.tables e below (T7.setTop (mkF m 30 #[.val (.int par), .val (.int box), .val (.int str), .val (.int flags), .val (.int (box &&& (65535 : Int32))), .val (.int (str &&& (4095 : Int32))), .val (.int z6), .unset, .unset, .unset, .unset, .unset, .unset, .unset, .unset, .unset] [(.ref z8)])) _
    refine XS.astore X7.here hx rfl (hb hby at_30) rfl rfl (l' := #[.val (.int par), .val (.int box), .val (.int str), .val (.int flags), .val (.int (box &&& (65535 : Int32))), .val (.int (str &&& (4095 : Int32))), .val (.int z6), .val (.ref z8), .unset, .unset, .unset, .unset, .unset, .unset, .unset, .unset]) rfl ?_
    show Steps p.tables e below (T7.setTop (mkF m 32 #[.val (.int par), .val (.int box), .val (.int str), .val (.int flags), .val (.int (box &&& (65535 : Int32))), .val (.int (str &&& (4095 : Int32))), .val (.int z6), .val (.ref z8), .unset, .unset, .unset, .unset, .unset, .unset, .unset, .unset] [])) _
    refine XS.iloadN X7.here hx rfl (hb hby at_32) rfl ?_
    show Steps p.tables e below (T7.setTop (mkF m 33 #[.val (.int par), .val (.int box), .val (.int str), .val (.int flags), .val (.int (box &&& (65535 : Int32))), .val (.int (str &&& (4095 : Int32))), .val (.int z6), .val (.ref z8), .unset, .unset, .unset, .unset, .unset, .unset, .unset, .unset] [(.int par)])) _
    refine XS.iload X7.here hx rfl (hb hby at_33) rfl ?_
    show Steps p.tables e below (T7.setTop (mkF m 35 #[.val (.int par), .val (.int box), .val (.int str), .val (.int flags), .val (.int (box &&& (65535 : Int32))), .val (.int (str &&& (4095 : Int32))), .val (.int z6), .val (.ref z8), .unset, .unset, .unset, .unset, .unset, .unset, .unset, .unset] [(.int (box &&& (65535 : Int32))), (.int par)])) _
    refine XS.iload X7.here hx rfl (hb hby at_35) rfl ?_
    show Steps p.tables e below (T7.setTop (mkF m 37 #[.val (.int par), .val (.int box), .val (.int str), .val (.int flags), .val (.int (box &&& (65535 : Int32))), .val (.int (str &&& (4095 : Int32))), .val (.int z6), .val (.ref z8), .unset, .unset, .unset, .unset, .unset, .unset, .unset, .unset] [(.int (str &&& (4095 : Int32))), (.int (box &&& (65535 : Int32))), (.int par)])) _
    refine XS.aload X7.here hx rfl (hb hby at_37) rfl rfl ?_
    show Steps p.tables e below (T7.setTop (mkF m 39 #[.val (.int par), .val (.int box), .val (.int str), .val (.int flags), .val (.int (box &&& (65535 : Int32))), .val (.int (str &&& (4095 : Int32))), .val (.int z6), .val (.ref z8), .unset, .unset, .unset, .unset, .unset, .unset, .unset, .unset] [(.ref z8), (.int (str &&& (4095 : Int32))), (.int (box &&& (65535 : Int32))), (.int par)])) _
    refine XS.iload X7.here hx rfl (hb hby at_39) rfl ?_
    show Steps p.tables e below (T7.setTop (mkF m 41 #[.val (.int par), .val (.int box), .val (.int str), .val (.int flags), .val (.int (box &&& (65535 : Int32))), .val (.int (str &&& (4095 : Int32))), .val (.int z6), .val (.ref z8), .unset, .unset, .unset, .unset, .unset, .unset, .unset, .unset] [(.int z6), (.ref z8), (.int (str &&& (4095 : Int32))), (.int (box &&& (65535 : Int32))), (.int par)])) _
    refine st9 _ ?_
    show Steps p.tables e below (T9.setTop (mkF m 44 #[.val (.int par), .val (.int box), .val (.int str), .val (.int flags), .val (.int (box &&& (65535 : Int32))), .val (.int (str &&& (4095 : Int32))), .val (.int z6), .val (.ref z8), .unset, .unset, .unset, .unset, .unset, .unset, .unset, .unset] [(.long ((((((par.toInt64) <<< ((32 : Int32) &&& 0x3f).toInt64) ||| (((box &&& (65535 : Int32)).toInt64) <<< ((16 : Int32) &&& 0x3f).toInt64)) ||| (((str &&& (4095 : Int32)).toInt64) <<< ((4 : Int32) &&& 0x3f).toInt64)) ||| (if z6 = (0 : Int32) then (0 : Int64) else (4 : Int64))) ||| (od.toInt64)))])) _
    rw [← ez10]
    show Steps p.tables e below (T9.setTop (mkF m 44 #[.val (.int par), .val (.int box), .val (.int str), .val (.int flags), .val (.int (box &&& (65535 : Int32))), .val (.int (str &&& (4095 : Int32))), .val (.int z6), .val (.ref z8), .unset, .unset, .unset, .unset, .unset, .unset, .unset, .unset] [(.long z10)])) _
    refine XS.lstore X9.here hx rfl (hb hby at_44) rfl (l' := #[.val (.int par), .val (.int box), .val (.int str), .val (.int flags), .val (.int (box &&& (65535 : Int32))), .val (.int (str &&& (4095 : Int32))), .val (.int z6), .val (.ref z8), .val (.long z10), .second, .unset, .unset, .unset, .unset, .unset, .unset]) rfl ?_
    show Steps p.tables e below (T9.setTop (mkF m 46 #[.val (.int par), .val (.int box), .val (.int str), .val (.int flags), .val (.int (box &&& (65535 : Int32))), .val (.int (str &&& (4095 : Int32))), .val (.int z6), .val (.ref z8), .val (.long z10), .second, .unset, .unset, .unset, .unset, .unset, .unset] [])) _
    refine XS.iloadN X9.here hx rfl (hb hby at_46) rfl ?_
    show Steps p.tables e below (T9.setTop (mkF m 47 #[.val (.int par), .val (.int box), .val (.int str), .val (.int flags), .val (.int (box &&& (65535 : Int32))), .val (.int (str &&& (4095 : Int32))), .val (.int z6), .val (.ref z8), .val (.long z10), .second, .unset, .unset, .unset, .unset, .unset, .unset] [(.int par)])) _
    refine XS.iload X9.here hx rfl (hb hby at_47) rfl ?_
    show Steps p.tables e below (T9.setTop (mkF m 49 #[.val (.int par), .val (.int box), .val (.int str), .val (.int flags), .val (.int (box &&& (65535 : Int32))), .val (.int (str &&& (4095 : Int32))), .val (.int z6), .val (.ref z8), .val (.long z10), .second, .unset, .unset, .unset, .unset, .unset, .unset] [(.int (box &&& (65535 : Int32))), (.int par)])) _
    refine st11 _ ?_
    show Steps p.tables e below (T11.setTop (mkF m 52 #[.val (.int par), .val (.int box), .val (.int str), .val (.int flags), .val (.int (box &&& (65535 : Int32))), .val (.int (str &&& (4095 : Int32))), .val (.int z6), .val (.ref z8), .val (.long z10), .second, .unset, .unset, .unset, .unset, .unset, .unset] [(.long ((((par.toInt64) <<< ((32 : Int32) &&& 0x3f).toInt64) ||| (((box &&& (65535 : Int32)).toInt64) <<< ((16 : Int32) &&& 0x3f).toInt64)) ||| (8 : Int64)))])) _
    rw [← ez12]
    show Steps p.tables e below (T11.setTop (mkF m 52 #[.val (.int par), .val (.int box), .val (.int str), .val (.int flags), .val (.int (box &&& (65535 : Int32))), .val (.int (str &&& (4095 : Int32))), .val (.int z6), .val (.ref z8), .val (.long z10), .second, .unset, .unset, .unset, .unset, .unset, .unset] [(.long z12)])) _
    refine XS.lstore X11.here hx rfl (hb hby at_52) rfl (l' := #[.val (.int par), .val (.int box), .val (.int str), .val (.int flags), .val (.int (box &&& (65535 : Int32))), .val (.int (str &&& (4095 : Int32))), .val (.int z6), .val (.ref z8), .val (.long z10), .second, .val (.long z12), .second, .unset, .unset, .unset, .unset]) rfl ?_
    show Steps p.tables e below (T11.setTop (mkF m 54 #[.val (.int par), .val (.int box), .val (.int str), .val (.int flags), .val (.int (box &&& (65535 : Int32))), .val (.int (str &&& (4095 : Int32))), .val (.int z6), .val (.ref z8), .val (.long z10), .second, .val (.long z12), .second, .unset, .unset, .unset, .unset] [])) _
    refine XS.lload X11.here hx rfl (hb hby at_54) rfl ?_
    show Steps p.tables e below (T11.setTop (mkF m 56 #[.val (.int par), .val (.int box), .val (.int str), .val (.int flags), .val (.int (box &&& (65535 : Int32))), .val (.int (str &&& (4095 : Int32))), .val (.int z6), .val (.ref z8), .val (.long z10), .second, .val (.long z12), .second, .unset, .unset, .unset, .unset] [(.long z10)])) _
    refine st13 _ ?_
    show Steps p.tables e below (T13.setTop (mkF m 59 #[.val (.int par), .val (.int box), .val (.int str), .val (.int flags), .val (.int (box &&& (65535 : Int32))), .val (.int (str &&& (4095 : Int32))), .val (.int z6), .val (.ref z8), .val (.long z10), .second, .val (.long z12), .second, .unset, .unset, .unset, .unset] [(.int (if (z10 &&& (8 : Int64)) = (0 : Int64) then (0 : Int32) else (1 : Int32)))])) _
    rw [← ez14]
    show Steps p.tables e below (T13.setTop (mkF m 59 #[.val (.int par), .val (.int box), .val (.int str), .val (.int flags), .val (.int (box &&& (65535 : Int32))), .val (.int (str &&& (4095 : Int32))), .val (.int z6), .val (.ref z8), .val (.long z10), .second, .val (.long z12), .second, .unset, .unset, .unset, .unset] [(.int z14)])) _
    exact kt
  have k19 : ∀ tg, Steps p.tables e below (T13.setTop (mkF m 67 #[.val (.int par), .val (.int box), .val (.int str), .val (.int flags), .val (.int (box &&& (65535 : Int32))), .val (.int (str &&& (4095 : Int32))), .val (.int z6), .val (.ref z8), .val (.long z10), .second, .val (.long z12), .second, .unset, .unset, .unset, .unset] [(.int (if z14 = (0 : Int32) then (1 : Int32) else (0 : Int32)))])) tg → Steps p.tables e below (s₁.setTop (entryFrame m #[(.int par), (.int box), (.int str), (.int flags)] maxLocals)) tg := by
    intro tg kt
    refine k15 tg ?_
    show Steps p.tables e below (T13.setTop (mkF m 59 #[.val (.int par), .val (.int box), .val (.int str), .val (.int flags), .val (.int (box &&& (65535 : Int32))), .val (.int (str &&& (4095 : Int32))), .val (.int z6), .val (.ref z8), .val (.long z10), .second, .val (.long z12), .second, .unset, .unset, .unset, .unset] [(.int z14)])) _
    by_cases hc16 : z14 = (0 : Int32)
    · refine XS.ifNo X13.here hx rfl (hb hby at_59) rfl ((if0 _ _).trans (teq hc16).2) ?_
      show Steps p.tables e below (T13.setTop (mkF m 62 #[.val (.int par), .val (.int box), .val (.int str), .val (.int flags), .val (.int (box &&& (65535 : Int32))), .val (.int (str &&& (4095 : Int32))), .val (.int z6), .val (.ref z8), .val (.long z10), .second, .val (.long z12), .second, .unset, .unset, .unset, .unset] [])) _
      refine XS.iconst X13.here hx rfl (hb hby at_62) ?_
      show Steps p.tables e below (T13.setTop (mkF m 63 #[.val (.int par), .val (.int box), .val (.int str), .val (.int flags), .val (.int (box &&& (65535 : Int32))), .val (.int (str &&& (4095 : Int32))), .val (.int z6), .val (.ref z8), .val (.long z10), .second, .val (.long z12), .second, .unset, .unset, .unset, .unset] [(.int (1 : Int32))])) _
      refine XS.goto X13.here hx rfl (pc0 := 63) (pc' := 67) rfl (hb hby at_63) (by decide) (by decide) ?_
      show Steps p.tables e below (T13.setTop (mkF m 67 #[.val (.int par), .val (.int box), .val (.int str), .val (.int flags), .val (.int (box &&& (65535 : Int32))), .val (.int (str &&& (4095 : Int32))), .val (.int z6), .val (.ref z8), .val (.long z10), .second, .val (.long z12), .second, .unset, .unset, .unset, .unset] [(.int (1 : Int32))])) _
      repeat rw [if_pos hc16] at kt
      exact kt
    · refine XS.ifYes X13.here hx rfl (pc0 := 59) (pc' := 66) rfl (hb hby at_59) rfl ((if0 _ _).trans (feq hc16).2) (by decide) (by decide) ?_
      show Steps p.tables e below (T13.setTop (mkF m 66 #[.val (.int par), .val (.int box), .val (.int str), .val (.int flags), .val (.int (box &&& (65535 : Int32))), .val (.int (str &&& (4095 : Int32))), .val (.int z6), .val (.ref z8), .val (.long z10), .second, .val (.long z12), .second, .unset, .unset, .unset, .unset] [])) _
      refine XS.iconst X13.here hx rfl (hb hby at_66) ?_
      show Steps p.tables e below (T13.setTop (mkF m 67 #[.val (.int par), .val (.int box), .val (.int str), .val (.int flags), .val (.int (box &&& (65535 : Int32))), .val (.int (str &&& (4095 : Int32))), .val (.int z6), .val (.ref z8), .val (.long z10), .second, .val (.long z12), .second, .unset, .unset, .unset, .unset] [(.int (0 : Int32))])) _
      repeat rw [if_neg hc16] at kt
      exact kt
  obtain ⟨z20, ez20⟩ : ∃ z : Int32, z = (if z14 = (0 : Int32) then (1 : Int32) else (0 : Int32)) := ⟨_, rfl⟩
  obtain ⟨_, _, ⟨T21, L21, k21, n21⟩, -, X21, ⟨Lc21, hQ21, l21, y21, z21⟩, st21⟩ := Jvm.LawKit.callS X13 hx (y := (⟨"pushwise/Steps", "isPacking", "(J)Z"⟩ : MethodName)) hown (mvT hZ (hw _ (List.mem_of_getElem? (i := 25) rfl))) (mvT hZ (hw _ (List.mem_of_getElem? (i := 26) rfl))) (mvT hZ (hw _ (List.mem_of_getElem? (i := 10) rfl))) (mvT hZ (hw _ (List.mem_of_getElem? (i := 27) rfl))) (by decide) (backOf (W := 0) (rm5 l Z a0 hw [] (z10 ||| (8 : Int64))  h0 n0 ) hZ (hw _ (List.mem_of_getElem? (i := 27) rfl)) (hw _ (List.mem_of_getElem? (i := 10) rfl)) (by decide) (by decide)) (g := (mkF m 75 #[.val (.int par), .val (.int box), .val (.int str), .val (.int flags), .val (.int (box &&& (65535 : Int32))), .val (.int (str &&& (4095 : Int32))), .val (.int z6), .val (.ref z8), .val (.long z10), .second, .val (.long z12), .second, .val (.int z20), .unset, .unset, .unset] [(.long (z10 ||| (8 : Int64)))])) rfl (by rw [hml]; rfl) (argsL := [(.long (z10 ||| (8 : Int64)))]) (rest := []) (lenOf pd_4 rfl) rfl (by show 2 * 0 + _ ≤ _; exact Nat.le_of_eq rfl) (hb hby at_75) (fun _ _ => ⟨rfl, e13, (by decide : 0 + 0 ≤ _), (by decide : 0 + 0 ≤ _)⟩)
  dsimp only [Pt.U, Pt.locs, Pt.cells, Pt.slots] at X21 l21 y21 z21 st21 hQ21
  subst l21 y21 z21
  obtain ⟨rfl, N21q, e21⟩ := hQ21
  have N21 := Fr.app N13 N21q
  obtain ⟨z22, ez22⟩ : ∃ z : Int32, z = (if ((z10 ||| (8 : Int64)) &&& (8 : Int64)) = (0 : Int64) then (0 : Int32) else (1 : Int32)) := ⟨_, rfl⟩
  obtain ⟨_, _, ⟨T23, L23, k23, n23⟩, -, X23, ⟨Lc23, hQ23, l23, y23, z23⟩, st23⟩ := Jvm.LawKit.callS X21 hx (y := (⟨"pushwise/Steps", "isPacking", "(J)Z"⟩ : MethodName)) hown (mvT hZ (hw _ (List.mem_of_getElem? (i := 25) rfl))) (mvT hZ (hw _ (List.mem_of_getElem? (i := 26) rfl))) (mvT hZ (hw _ (List.mem_of_getElem? (i := 10) rfl))) (mvT hZ (hw _ (List.mem_of_getElem? (i := 27) rfl))) (by decide) (backOf (W := 0) (rm5 l Z a0 hw [] z12  h0 n0 ) hZ (hw _ (List.mem_of_getElem? (i := 27) rfl)) (hw _ (List.mem_of_getElem? (i := 10) rfl)) (by decide) (by decide)) (g := (mkF m 82 #[.val (.int par), .val (.int box), .val (.int str), .val (.int flags), .val (.int (box &&& (65535 : Int32))), .val (.int (str &&& (4095 : Int32))), .val (.int z6), .val (.ref z8), .val (.long z10), .second, .val (.long z12), .second, .val (.int z20), .val (.int z22), .unset, .unset] [(.long z12)])) rfl (by rw [hml]; rfl) (argsL := [(.long z12)]) (rest := []) (lenOf pd_4 rfl) rfl (by show 2 * 0 + _ ≤ _; exact Nat.le_of_eq rfl) (hb hby at_82) (fun _ _ => ⟨rfl, e21, (by decide : 0 + 0 ≤ _), (by decide : 0 + 0 ≤ _)⟩)
  dsimp only [Pt.U, Pt.locs, Pt.cells, Pt.slots] at X23 l23 y23 z23 st23 hQ23
  subst l23 y23 z23
  obtain ⟨rfl, N23q, e23⟩ := hQ23
  have N23 := Fr.app N21 N23q
  obtain ⟨z24, ez24⟩ : ∃ z : Int32, z = (if (z12 &&& (8 : Int64)) = (0 : Int64) then (0 : Int32) else (1 : Int32)) := ⟨_, rfl⟩
  obtain ⟨_, _, ⟨T25, L25, k25, n25⟩, -, X25, ⟨Lc25, hQ25, l25, y25, z25⟩, st25⟩ := Jvm.LawKit.callS X23 hx (y := (⟨"pushwise/Steps", "isPacking", "(J)Z"⟩ : MethodName)) hown (mvT hZ (hw _ (List.mem_of_getElem? (i := 25) rfl))) (mvT hZ (hw _ (List.mem_of_getElem? (i := 26) rfl))) (mvT hZ (hw _ (List.mem_of_getElem? (i := 10) rfl))) (mvT hZ (hw _ (List.mem_of_getElem? (i := 27) rfl))) (by decide) (backOf (W := 0) (rm5 l Z a0 hw [] (z12 &&& (-9 : Int64))  h0 n0 ) hZ (hw _ (List.mem_of_getElem? (i := 27) rfl)) (hw _ (List.mem_of_getElem? (i := 10) rfl)) (by decide) (by decide)) (g := (mkF m 93 #[.val (.int par), .val (.int box), .val (.int str), .val (.int flags), .val (.int (box &&& (65535 : Int32))), .val (.int (str &&& (4095 : Int32))), .val (.int z6), .val (.ref z8), .val (.long z10), .second, .val (.long z12), .second, .val (.int z20), .val (.int z22), .val (.int z24), .unset] [(.long (z12 &&& (-9 : Int64)))])) rfl (by rw [hml]; rfl) (argsL := [(.long (z12 &&& (-9 : Int64)))]) (rest := []) (lenOf pd_4 rfl) rfl (by show 2 * 0 + _ ≤ _; exact Nat.le_of_eq rfl) (hb hby at_93) (fun _ _ => ⟨rfl, e23, (by decide : 0 + 0 ≤ _), (by decide : 0 + 0 ≤ _)⟩)
  dsimp only [Pt.U, Pt.locs, Pt.cells, Pt.slots] at X25 l25 y25 z25 st25 hQ25
  subst l25 y25 z25
  obtain ⟨rfl, N25q, e25⟩ := hQ25
  have N25 := Fr.app N23 N25q
  obtain ⟨z26, ez26⟩ : ∃ z : Int32, z = (if ((z12 &&& (-9 : Int64)) &&& (8 : Int64)) = (0 : Int64) then (0 : Int32) else (1 : Int32)) := ⟨_, rfl⟩
  have k27 : ∀ tg, Steps p.tables e below (T25.setTop (mkF m 96 #[.val (.int par), .val (.int box), .val (.int str), .val (.int flags), .val (.int (box &&& (65535 : Int32))), .val (.int (str &&& (4095 : Int32))), .val (.int z6), .val (.ref z8), .val (.long z10), .second, .val (.long z12), .second, .val (.int z20), .val (.int z22), .val (.int z24), .unset] [(.int z26)])) tg → Steps p.tables e below (s₁.setTop (entryFrame m #[(.int par), (.int box), (.int str), (.int flags)] maxLocals)) tg := by
    intro tg kt
    refine k19 tg ?_
    show Steps p.tables e below (T13.setTop (mkF m 67 #[.val (.int par), .val (.int box), .val (.int str), .val (.int flags), .val (.int (box &&& (65535 : Int32))), .val (.int (str &&& (4095 : Int32))), .val (.int z6), .val (.ref z8), .val (.long z10), .second, .val (.long z12), .second, .unset, .unset, .unset, .unset] [(.int (if z14 = (0 : Int32) then (1 : Int32) else (0 : Int32)))])) _
    rw [← ez20]
    show Steps p.tables e below (T13.setTop (mkF m 67 #[.val (.int par), .val (.int box), .val (.int str), .val (.int flags), .val (.int (box &&& (65535 : Int32))), .val (.int (str &&& (4095 : Int32))), .val (.int z6), .val (.ref z8), .val (.long z10), .second, .val (.long z12), .second, .unset, .unset, .unset, .unset] [(.int z20)])) _
    refine XS.istore X13.here hx rfl (hb hby at_67) rfl (l' := #[.val (.int par), .val (.int box), .val (.int str), .val (.int flags), .val (.int (box &&& (65535 : Int32))), .val (.int (str &&& (4095 : Int32))), .val (.int z6), .val (.ref z8), .val (.long z10), .second, .val (.long z12), .second, .val (.int z20), .unset, .unset, .unset]) rfl ?_
    show Steps p.tables e below (T13.setTop (mkF m 69 #[.val (.int par), .val (.int box), .val (.int str), .val (.int flags), .val (.int (box &&& (65535 : Int32))), .val (.int (str &&& (4095 : Int32))), .val (.int z6), .val (.ref z8), .val (.long z10), .second, .val (.long z12), .second, .val (.int z20), .unset, .unset, .unset] [])) _
    refine XS.lload X13.here hx rfl (hb hby at_69) rfl ?_
    show Steps p.tables e below (T13.setTop (mkF m 71 #[.val (.int par), .val (.int box), .val (.int str), .val (.int flags), .val (.int (box &&& (65535 : Int32))), .val (.int (str &&& (4095 : Int32))), .val (.int z6), .val (.ref z8), .val (.long z10), .second, .val (.long z12), .second, .val (.int z20), .unset, .unset, .unset] [(.long z10)])) _
    refine X13.ldc2Long hx hown (mvT hZ (hw _ (List.mem_of_getElem? (i := 28) rfl))) (g := (mkF m 71 #[.val (.int par), .val (.int box), .val (.int str), .val (.int flags), .val (.int (box &&& (65535 : Int32))), .val (.int (str &&& (4095 : Int32))), .val (.int z6), .val (.ref z8), .val (.long z10), .second, .val (.long z12), .second, .val (.int z20), .unset, .unset, .unset] [(.long z10)])) rfl (hb hby at_71) _ ?_
    show Steps p.tables e below (T13.setTop (mkF m 74 #[.val (.int par), .val (.int box), .val (.int str), .val (.int flags), .val (.int (box &&& (65535 : Int32))), .val (.int (str &&& (4095 : Int32))), .val (.int z6), .val (.ref z8), .val (.long z10), .second, .val (.long z12), .second, .val (.int z20), .unset, .unset, .unset] [(.long (8 : Int64)), (.long z10)])) _
    refine XS.lor X13.here hx rfl (hb hby at_74) rfl ?_
    show Steps p.tables e below (T13.setTop (mkF m 75 #[.val (.int par), .val (.int box), .val (.int str), .val (.int flags), .val (.int (box &&& (65535 : Int32))), .val (.int (str &&& (4095 : Int32))), .val (.int z6), .val (.ref z8), .val (.long z10), .second, .val (.long z12), .second, .val (.int z20), .unset, .unset, .unset] [(.long (z10 ||| (8 : Int64)))])) _
    refine st21 _ ?_
    show Steps p.tables e below (T21.setTop (mkF m 78 #[.val (.int par), .val (.int box), .val (.int str), .val (.int flags), .val (.int (box &&& (65535 : Int32))), .val (.int (str &&& (4095 : Int32))), .val (.int z6), .val (.ref z8), .val (.long z10), .second, .val (.long z12), .second, .val (.int z20), .unset, .unset, .unset] [(.int (if ((z10 ||| (8 : Int64)) &&& (8 : Int64)) = (0 : Int64) then (0 : Int32) else (1 : Int32)))])) _
    rw [← ez22]
    show Steps p.tables e below (T21.setTop (mkF m 78 #[.val (.int par), .val (.int box), .val (.int str), .val (.int flags), .val (.int (box &&& (65535 : Int32))), .val (.int (str &&& (4095 : Int32))), .val (.int z6), .val (.ref z8), .val (.long z10), .second, .val (.long z12), .second, .val (.int z20), .unset, .unset, .unset] [(.int z22)])) _
    refine XS.istore X21.here hx rfl (hb hby at_78) rfl (l' := #[.val (.int par), .val (.int box), .val (.int str), .val (.int flags), .val (.int (box &&& (65535 : Int32))), .val (.int (str &&& (4095 : Int32))), .val (.int z6), .val (.ref z8), .val (.long z10), .second, .val (.long z12), .second, .val (.int z20), .val (.int z22), .unset, .unset]) rfl ?_
    show Steps p.tables e below (T21.setTop (mkF m 80 #[.val (.int par), .val (.int box), .val (.int str), .val (.int flags), .val (.int (box &&& (65535 : Int32))), .val (.int (str &&& (4095 : Int32))), .val (.int z6), .val (.ref z8), .val (.long z10), .second, .val (.long z12), .second, .val (.int z20), .val (.int z22), .unset, .unset] [])) _
    refine XS.lload X21.here hx rfl (hb hby at_80) rfl ?_
    show Steps p.tables e below (T21.setTop (mkF m 82 #[.val (.int par), .val (.int box), .val (.int str), .val (.int flags), .val (.int (box &&& (65535 : Int32))), .val (.int (str &&& (4095 : Int32))), .val (.int z6), .val (.ref z8), .val (.long z10), .second, .val (.long z12), .second, .val (.int z20), .val (.int z22), .unset, .unset] [(.long z12)])) _
    refine st23 _ ?_
    show Steps p.tables e below (T23.setTop (mkF m 85 #[.val (.int par), .val (.int box), .val (.int str), .val (.int flags), .val (.int (box &&& (65535 : Int32))), .val (.int (str &&& (4095 : Int32))), .val (.int z6), .val (.ref z8), .val (.long z10), .second, .val (.long z12), .second, .val (.int z20), .val (.int z22), .unset, .unset] [(.int (if (z12 &&& (8 : Int64)) = (0 : Int64) then (0 : Int32) else (1 : Int32)))])) _
    rw [← ez24]
    show Steps p.tables e below (T23.setTop (mkF m 85 #[.val (.int par), .val (.int box), .val (.int str), .val (.int flags), .val (.int (box &&& (65535 : Int32))), .val (.int (str &&& (4095 : Int32))), .val (.int z6), .val (.ref z8), .val (.long z10), .second, .val (.long z12), .second, .val (.int z20), .val (.int z22), .unset, .unset] [(.int z24)])) _
    refine XS.istore X23.here hx rfl (hb hby at_85) rfl (l' := #[.val (.int par), .val (.int box), .val (.int str), .val (.int flags), .val (.int (box &&& (65535 : Int32))), .val (.int (str &&& (4095 : Int32))), .val (.int z6), .val (.ref z8), .val (.long z10), .second, .val (.long z12), .second, .val (.int z20), .val (.int z22), .val (.int z24), .unset]) rfl ?_
    show Steps p.tables e below (T23.setTop (mkF m 87 #[.val (.int par), .val (.int box), .val (.int str), .val (.int flags), .val (.int (box &&& (65535 : Int32))), .val (.int (str &&& (4095 : Int32))), .val (.int z6), .val (.ref z8), .val (.long z10), .second, .val (.long z12), .second, .val (.int z20), .val (.int z22), .val (.int z24), .unset] [])) _
    refine XS.lload X23.here hx rfl (hb hby at_87) rfl ?_
    show Steps p.tables e below (T23.setTop (mkF m 89 #[.val (.int par), .val (.int box), .val (.int str), .val (.int flags), .val (.int (box &&& (65535 : Int32))), .val (.int (str &&& (4095 : Int32))), .val (.int z6), .val (.ref z8), .val (.long z10), .second, .val (.long z12), .second, .val (.int z20), .val (.int z22), .val (.int z24), .unset] [(.long z12)])) _
    refine X23.ldc2Long hx hown (mvT hZ (hw _ (List.mem_of_getElem? (i := 29) rfl))) (g := (mkF m 89 #[.val (.int par), .val (.int box), .val (.int str), .val (.int flags), .val (.int (box &&& (65535 : Int32))), .val (.int (str &&& (4095 : Int32))), .val (.int z6), .val (.ref z8), .val (.long z10), .second, .val (.long z12), .second, .val (.int z20), .val (.int z22), .val (.int z24), .unset] [(.long z12)])) rfl (hb hby at_89) _ ?_
    show Steps p.tables e below (T23.setTop (mkF m 92 #[.val (.int par), .val (.int box), .val (.int str), .val (.int flags), .val (.int (box &&& (65535 : Int32))), .val (.int (str &&& (4095 : Int32))), .val (.int z6), .val (.ref z8), .val (.long z10), .second, .val (.long z12), .second, .val (.int z20), .val (.int z22), .val (.int z24), .unset] [(.long (-9 : Int64)), (.long z12)])) _
    refine XS.land X23.here hx rfl (hb hby at_92) rfl ?_
    show Steps p.tables e below (T23.setTop (mkF m 93 #[.val (.int par), .val (.int box), .val (.int str), .val (.int flags), .val (.int (box &&& (65535 : Int32))), .val (.int (str &&& (4095 : Int32))), .val (.int z6), .val (.ref z8), .val (.long z10), .second, .val (.long z12), .second, .val (.int z20), .val (.int z22), .val (.int z24), .unset] [(.long (z12 &&& (-9 : Int64)))])) _
    refine st25 _ ?_
    show Steps p.tables e below (T25.setTop (mkF m 96 #[.val (.int par), .val (.int box), .val (.int str), .val (.int flags), .val (.int (box &&& (65535 : Int32))), .val (.int (str &&& (4095 : Int32))), .val (.int z6), .val (.ref z8), .val (.long z10), .second, .val (.long z12), .second, .val (.int z20), .val (.int z22), .val (.int z24), .unset] [(.int (if ((z12 &&& (-9 : Int64)) &&& (8 : Int64)) = (0 : Int64) then (0 : Int32) else (1 : Int32)))])) _
    rw [← ez26]
    show Steps p.tables e below (T25.setTop (mkF m 96 #[.val (.int par), .val (.int box), .val (.int str), .val (.int flags), .val (.int (box &&& (65535 : Int32))), .val (.int (str &&& (4095 : Int32))), .val (.int z6), .val (.ref z8), .val (.long z10), .second, .val (.long z12), .second, .val (.int z20), .val (.int z22), .val (.int z24), .unset] [(.int z26)])) _
    exact kt
  have k31 : ∀ tg, Steps p.tables e below (T25.setTop (mkF m 104 #[.val (.int par), .val (.int box), .val (.int str), .val (.int flags), .val (.int (box &&& (65535 : Int32))), .val (.int (str &&& (4095 : Int32))), .val (.int z6), .val (.ref z8), .val (.long z10), .second, .val (.long z12), .second, .val (.int z20), .val (.int z22), .val (.int z24), .unset] [(.int (if z26 = (0 : Int32) then (1 : Int32) else (0 : Int32)))])) tg → Steps p.tables e below (s₁.setTop (entryFrame m #[(.int par), (.int box), (.int str), (.int flags)] maxLocals)) tg := by
    intro tg kt
    refine k27 tg ?_
    show Steps p.tables e below (T25.setTop (mkF m 96 #[.val (.int par), .val (.int box), .val (.int str), .val (.int flags), .val (.int (box &&& (65535 : Int32))), .val (.int (str &&& (4095 : Int32))), .val (.int z6), .val (.ref z8), .val (.long z10), .second, .val (.long z12), .second, .val (.int z20), .val (.int z22), .val (.int z24), .unset] [(.int z26)])) _
    by_cases hc28 : z26 = (0 : Int32)
    · refine XS.ifNo X25.here hx rfl (hb hby at_96) rfl ((if0 _ _).trans (teq hc28).2) ?_
      show Steps p.tables e below (T25.setTop (mkF m 99 #[.val (.int par), .val (.int box), .val (.int str), .val (.int flags), .val (.int (box &&& (65535 : Int32))), .val (.int (str &&& (4095 : Int32))), .val (.int z6), .val (.ref z8), .val (.long z10), .second, .val (.long z12), .second, .val (.int z20), .val (.int z22), .val (.int z24), .unset] [])) _
      refine XS.iconst X25.here hx rfl (hb hby at_99) ?_
      show Steps p.tables e below (T25.setTop (mkF m 100 #[.val (.int par), .val (.int box), .val (.int str), .val (.int flags), .val (.int (box &&& (65535 : Int32))), .val (.int (str &&& (4095 : Int32))), .val (.int z6), .val (.ref z8), .val (.long z10), .second, .val (.long z12), .second, .val (.int z20), .val (.int z22), .val (.int z24), .unset] [(.int (1 : Int32))])) _
      refine XS.goto X25.here hx rfl (pc0 := 100) (pc' := 104) rfl (hb hby at_100) (by decide) (by decide) ?_
      show Steps p.tables e below (T25.setTop (mkF m 104 #[.val (.int par), .val (.int box), .val (.int str), .val (.int flags), .val (.int (box &&& (65535 : Int32))), .val (.int (str &&& (4095 : Int32))), .val (.int z6), .val (.ref z8), .val (.long z10), .second, .val (.long z12), .second, .val (.int z20), .val (.int z22), .val (.int z24), .unset] [(.int (1 : Int32))])) _
      repeat rw [if_pos hc28] at kt
      exact kt
    · refine XS.ifYes X25.here hx rfl (pc0 := 96) (pc' := 103) rfl (hb hby at_96) rfl ((if0 _ _).trans (feq hc28).2) (by decide) (by decide) ?_
      show Steps p.tables e below (T25.setTop (mkF m 103 #[.val (.int par), .val (.int box), .val (.int str), .val (.int flags), .val (.int (box &&& (65535 : Int32))), .val (.int (str &&& (4095 : Int32))), .val (.int z6), .val (.ref z8), .val (.long z10), .second, .val (.long z12), .second, .val (.int z20), .val (.int z22), .val (.int z24), .unset] [])) _
      refine XS.iconst X25.here hx rfl (hb hby at_103) ?_
      show Steps p.tables e below (T25.setTop (mkF m 104 #[.val (.int par), .val (.int box), .val (.int str), .val (.int flags), .val (.int (box &&& (65535 : Int32))), .val (.int (str &&& (4095 : Int32))), .val (.int z6), .val (.ref z8), .val (.long z10), .second, .val (.long z12), .second, .val (.int z20), .val (.int z22), .val (.int z24), .unset] [(.int (0 : Int32))])) _
      repeat rw [if_neg hc28] at kt
      exact kt
  obtain ⟨z32, ez32⟩ : ∃ z : Int32, z = (if z26 = (0 : Int32) then (1 : Int32) else (0 : Int32)) := ⟨_, rfl⟩
  have k33 : ∀ tg, Steps p.tables e below (T25.setTop (mkF m 108 #[.val (.int par), .val (.int box), .val (.int str), .val (.int flags), .val (.int (box &&& (65535 : Int32))), .val (.int (str &&& (4095 : Int32))), .val (.int z6), .val (.ref z8), .val (.long z10), .second, .val (.long z12), .second, .val (.int z20), .val (.int z22), .val (.int z24), .val (.int z32)] [(.int z20)])) tg → Steps p.tables e below (s₁.setTop (entryFrame m #[(.int par), (.int box), (.int str), (.int flags)] maxLocals)) tg := by
    intro tg kt
    refine k31 tg ?_
    show Steps p.tables e below (T25.setTop (mkF m 104 #[.val (.int par), .val (.int box), .val (.int str), .val (.int flags), .val (.int (box &&& (65535 : Int32))), .val (.int (str &&& (4095 : Int32))), .val (.int z6), .val (.ref z8), .val (.long z10), .second, .val (.long z12), .second, .val (.int z20), .val (.int z22), .val (.int z24), .unset] [(.int (if z26 = (0 : Int32) then (1 : Int32) else (0 : Int32)))])) _
    rw [← ez32]
    show Steps p.tables e below (T25.setTop (mkF m 104 #[.val (.int par), .val (.int box), .val (.int str), .val (.int flags), .val (.int (box &&& (65535 : Int32))), .val (.int (str &&& (4095 : Int32))), .val (.int z6), .val (.ref z8), .val (.long z10), .second, .val (.long z12), .second, .val (.int z20), .val (.int z22), .val (.int z24), .unset] [(.int z32)])) _
    refine XS.istore X25.here hx rfl (hb hby at_104) rfl (l' := #[.val (.int par), .val (.int box), .val (.int str), .val (.int flags), .val (.int (box &&& (65535 : Int32))), .val (.int (str &&& (4095 : Int32))), .val (.int z6), .val (.ref z8), .val (.long z10), .second, .val (.long z12), .second, .val (.int z20), .val (.int z22), .val (.int z24), .val (.int z32)]) rfl ?_
    show Steps p.tables e below (T25.setTop (mkF m 106 #[.val (.int par), .val (.int box), .val (.int str), .val (.int flags), .val (.int (box &&& (65535 : Int32))), .val (.int (str &&& (4095 : Int32))), .val (.int z6), .val (.ref z8), .val (.long z10), .second, .val (.long z12), .second, .val (.int z20), .val (.int z22), .val (.int z24), .val (.int z32)] [])) _
    refine XS.iload X25.here hx rfl (hb hby at_106) rfl ?_
    show Steps p.tables e below (T25.setTop (mkF m 108 #[.val (.int par), .val (.int box), .val (.int str), .val (.int flags), .val (.int (box &&& (65535 : Int32))), .val (.int (str &&& (4095 : Int32))), .val (.int z6), .val (.ref z8), .val (.long z10), .second, .val (.long z12), .second, .val (.int z20), .val (.int z22), .val (.int z24), .val (.int z32)] [(.int z20)])) _
    exact kt
  have k43 : ∀ tg, Steps p.tables e below (T25.setTop (mkF m 131 #[.val (.int par), .val (.int box), .val (.int str), .val (.int flags), .val (.int (box &&& (65535 : Int32))), .val (.int (str &&& (4095 : Int32))), .val (.int z6), .val (.ref z8), .val (.long z10), .second, .val (.long z12), .second, .val (.int z20), .val (.int z22), .val (.int z24), .val (.int z32)] [(.int (if z20 = (0 : Int32) then (0 : Int32) else (if z22 = (0 : Int32) then (0 : Int32) else (if z24 = (0 : Int32) then (0 : Int32) else (if z32 = (0 : Int32) then (0 : Int32) else (1 : Int32))))))])) tg → Steps p.tables e below (s₁.setTop (entryFrame m #[(.int par), (.int box), (.int str), (.int flags)] maxLocals)) tg := by
    intro tg kt
    refine k33 tg ?_
    show Steps p.tables e below (T25.setTop (mkF m 108 #[.val (.int par), .val (.int box), .val (.int str), .val (.int flags), .val (.int (box &&& (65535 : Int32))), .val (.int (str &&& (4095 : Int32))), .val (.int z6), .val (.ref z8), .val (.long z10), .second, .val (.long z12), .second, .val (.int z20), .val (.int z22), .val (.int z24), .val (.int z32)] [(.int z20)])) _
    by_cases hc34 : z20 = (0 : Int32)
    · refine XS.ifYes X25.here hx rfl (pc0 := 108) (pc' := 130) rfl (hb hby at_108) rfl ((if0 _ _).trans (teq hc34).1) (by decide) (by decide) ?_
      show Steps p.tables e below (T25.setTop (mkF m 130 #[.val (.int par), .val (.int box), .val (.int str), .val (.int flags), .val (.int (box &&& (65535 : Int32))), .val (.int (str &&& (4095 : Int32))), .val (.int z6), .val (.ref z8), .val (.long z10), .second, .val (.long z12), .second, .val (.int z20), .val (.int z22), .val (.int z24), .val (.int z32)] [])) _
      refine XS.iconst X25.here hx rfl (hb hby at_130) ?_
      show Steps p.tables e below (T25.setTop (mkF m 131 #[.val (.int par), .val (.int box), .val (.int str), .val (.int flags), .val (.int (box &&& (65535 : Int32))), .val (.int (str &&& (4095 : Int32))), .val (.int z6), .val (.ref z8), .val (.long z10), .second, .val (.long z12), .second, .val (.int z20), .val (.int z22), .val (.int z24), .val (.int z32)] [(.int (0 : Int32))])) _
      repeat rw [if_pos hc34] at kt
      exact kt
    · refine XS.ifNo X25.here hx rfl (hb hby at_108) rfl ((if0 _ _).trans (feq hc34).1) ?_
      show Steps p.tables e below (T25.setTop (mkF m 111 #[.val (.int par), .val (.int box), .val (.int str), .val (.int flags), .val (.int (box &&& (65535 : Int32))), .val (.int (str &&& (4095 : Int32))), .val (.int z6), .val (.ref z8), .val (.long z10), .second, .val (.long z12), .second, .val (.int z20), .val (.int z22), .val (.int z24), .val (.int z32)] [])) _
      refine XS.iload X25.here hx rfl (hb hby at_111) rfl ?_
      show Steps p.tables e below (T25.setTop (mkF m 113 #[.val (.int par), .val (.int box), .val (.int str), .val (.int flags), .val (.int (box &&& (65535 : Int32))), .val (.int (str &&& (4095 : Int32))), .val (.int z6), .val (.ref z8), .val (.long z10), .second, .val (.long z12), .second, .val (.int z20), .val (.int z22), .val (.int z24), .val (.int z32)] [(.int z22)])) _
      by_cases hc36 : z22 = (0 : Int32)
      · refine XS.ifYes X25.here hx rfl (pc0 := 113) (pc' := 130) rfl (hb hby at_113) rfl ((if0 _ _).trans (teq hc36).1) (by decide) (by decide) ?_
        show Steps p.tables e below (T25.setTop (mkF m 130 #[.val (.int par), .val (.int box), .val (.int str), .val (.int flags), .val (.int (box &&& (65535 : Int32))), .val (.int (str &&& (4095 : Int32))), .val (.int z6), .val (.ref z8), .val (.long z10), .second, .val (.long z12), .second, .val (.int z20), .val (.int z22), .val (.int z24), .val (.int z32)] [])) _
        refine XS.iconst X25.here hx rfl (hb hby at_130) ?_
        show Steps p.tables e below (T25.setTop (mkF m 131 #[.val (.int par), .val (.int box), .val (.int str), .val (.int flags), .val (.int (box &&& (65535 : Int32))), .val (.int (str &&& (4095 : Int32))), .val (.int z6), .val (.ref z8), .val (.long z10), .second, .val (.long z12), .second, .val (.int z20), .val (.int z22), .val (.int z24), .val (.int z32)] [(.int (0 : Int32))])) _
        repeat rw [if_neg hc34] at kt
        repeat rw [if_pos hc36] at kt
        exact kt
      · refine XS.ifNo X25.here hx rfl (hb hby at_113) rfl ((if0 _ _).trans (feq hc36).1) ?_
        show Steps p.tables e below (T25.setTop (mkF m 116 #[.val (.int par), .val (.int box), .val (.int str), .val (.int flags), .val (.int (box &&& (65535 : Int32))), .val (.int (str &&& (4095 : Int32))), .val (.int z6), .val (.ref z8), .val (.long z10), .second, .val (.long z12), .second, .val (.int z20), .val (.int z22), .val (.int z24), .val (.int z32)] [])) _
        refine XS.iload X25.here hx rfl (hb hby at_116) rfl ?_
        show Steps p.tables e below (T25.setTop (mkF m 118 #[.val (.int par), .val (.int box), .val (.int str), .val (.int flags), .val (.int (box &&& (65535 : Int32))), .val (.int (str &&& (4095 : Int32))), .val (.int z6), .val (.ref z8), .val (.long z10), .second, .val (.long z12), .second, .val (.int z20), .val (.int z22), .val (.int z24), .val (.int z32)] [(.int z24)])) _
        by_cases hc38 : z24 = (0 : Int32)
        · refine XS.ifYes X25.here hx rfl (pc0 := 118) (pc' := 130) rfl (hb hby at_118) rfl ((if0 _ _).trans (teq hc38).1) (by decide) (by decide) ?_
          show Steps p.tables e below (T25.setTop (mkF m 130 #[.val (.int par), .val (.int box), .val (.int str), .val (.int flags), .val (.int (box &&& (65535 : Int32))), .val (.int (str &&& (4095 : Int32))), .val (.int z6), .val (.ref z8), .val (.long z10), .second, .val (.long z12), .second, .val (.int z20), .val (.int z22), .val (.int z24), .val (.int z32)] [])) _
          refine XS.iconst X25.here hx rfl (hb hby at_130) ?_
          show Steps p.tables e below (T25.setTop (mkF m 131 #[.val (.int par), .val (.int box), .val (.int str), .val (.int flags), .val (.int (box &&& (65535 : Int32))), .val (.int (str &&& (4095 : Int32))), .val (.int z6), .val (.ref z8), .val (.long z10), .second, .val (.long z12), .second, .val (.int z20), .val (.int z22), .val (.int z24), .val (.int z32)] [(.int (0 : Int32))])) _
          repeat rw [if_neg hc34] at kt
          repeat rw [if_neg hc36] at kt
          repeat rw [if_pos hc38] at kt
          exact kt
        · refine XS.ifNo X25.here hx rfl (hb hby at_118) rfl ((if0 _ _).trans (feq hc38).1) ?_
          show Steps p.tables e below (T25.setTop (mkF m 121 #[.val (.int par), .val (.int box), .val (.int str), .val (.int flags), .val (.int (box &&& (65535 : Int32))), .val (.int (str &&& (4095 : Int32))), .val (.int z6), .val (.ref z8), .val (.long z10), .second, .val (.long z12), .second, .val (.int z20), .val (.int z22), .val (.int z24), .val (.int z32)] [])) _
          refine XS.iload X25.here hx rfl (hb hby at_121) rfl ?_
          show Steps p.tables e below (T25.setTop (mkF m 123 #[.val (.int par), .val (.int box), .val (.int str), .val (.int flags), .val (.int (box &&& (65535 : Int32))), .val (.int (str &&& (4095 : Int32))), .val (.int z6), .val (.ref z8), .val (.long z10), .second, .val (.long z12), .second, .val (.int z20), .val (.int z22), .val (.int z24), .val (.int z32)] [(.int z32)])) _
          by_cases hc40 : z32 = (0 : Int32)
          · refine XS.ifYes X25.here hx rfl (pc0 := 123) (pc' := 130) rfl (hb hby at_123) rfl ((if0 _ _).trans (teq hc40).1) (by decide) (by decide) ?_
            show Steps p.tables e below (T25.setTop (mkF m 130 #[.val (.int par), .val (.int box), .val (.int str), .val (.int flags), .val (.int (box &&& (65535 : Int32))), .val (.int (str &&& (4095 : Int32))), .val (.int z6), .val (.ref z8), .val (.long z10), .second, .val (.long z12), .second, .val (.int z20), .val (.int z22), .val (.int z24), .val (.int z32)] [])) _
            refine XS.iconst X25.here hx rfl (hb hby at_130) ?_
            show Steps p.tables e below (T25.setTop (mkF m 131 #[.val (.int par), .val (.int box), .val (.int str), .val (.int flags), .val (.int (box &&& (65535 : Int32))), .val (.int (str &&& (4095 : Int32))), .val (.int z6), .val (.ref z8), .val (.long z10), .second, .val (.long z12), .second, .val (.int z20), .val (.int z22), .val (.int z24), .val (.int z32)] [(.int (0 : Int32))])) _
            repeat rw [if_neg hc34] at kt
            repeat rw [if_neg hc36] at kt
            repeat rw [if_neg hc38] at kt
            repeat rw [if_pos hc40] at kt
            exact kt
          · refine XS.ifNo X25.here hx rfl (hb hby at_123) rfl ((if0 _ _).trans (feq hc40).1) ?_
            show Steps p.tables e below (T25.setTop (mkF m 126 #[.val (.int par), .val (.int box), .val (.int str), .val (.int flags), .val (.int (box &&& (65535 : Int32))), .val (.int (str &&& (4095 : Int32))), .val (.int z6), .val (.ref z8), .val (.long z10), .second, .val (.long z12), .second, .val (.int z20), .val (.int z22), .val (.int z24), .val (.int z32)] [])) _
            refine XS.iconst X25.here hx rfl (hb hby at_126) ?_
            show Steps p.tables e below (T25.setTop (mkF m 127 #[.val (.int par), .val (.int box), .val (.int str), .val (.int flags), .val (.int (box &&& (65535 : Int32))), .val (.int (str &&& (4095 : Int32))), .val (.int z6), .val (.ref z8), .val (.long z10), .second, .val (.long z12), .second, .val (.int z20), .val (.int z22), .val (.int z24), .val (.int z32)] [(.int (1 : Int32))])) _
            refine XS.goto X25.here hx rfl (pc0 := 127) (pc' := 131) rfl (hb hby at_127) (by decide) (by decide) ?_
            show Steps p.tables e below (T25.setTop (mkF m 131 #[.val (.int par), .val (.int box), .val (.int str), .val (.int flags), .val (.int (box &&& (65535 : Int32))), .val (.int (str &&& (4095 : Int32))), .val (.int z6), .val (.ref z8), .val (.long z10), .second, .val (.long z12), .second, .val (.int z20), .val (.int z22), .val (.int z24), .val (.int z32)] [(.int (1 : Int32))])) _
            repeat rw [if_neg hc34] at kt
            repeat rw [if_neg hc36] at kt
            repeat rw [if_neg hc38] at kt
            repeat rw [if_neg hc40] at kt
            exact kt
  obtain ⟨z44, ez44⟩ : ∃ z : Int32, z = (if z20 = (0 : Int32) then (0 : Int32) else (if z22 = (0 : Int32) then (0 : Int32) else (if z24 = (0 : Int32) then (0 : Int32) else (if z32 = (0 : Int32) then (0 : Int32) else (1 : Int32))))) := ⟨_, rfl⟩
  have k45 : ∀ tg, Steps p.tables e below (T25.setTop (mkF m 131 #[.val (.int par), .val (.int box), .val (.int str), .val (.int flags), .val (.int (box &&& (65535 : Int32))), .val (.int (str &&& (4095 : Int32))), .val (.int z6), .val (.ref z8), .val (.long z10), .second, .val (.long z12), .second, .val (.int z20), .val (.int z22), .val (.int z24), .val (.int z32)] [(.int z44)])) tg → Steps p.tables e below (s₁.setTop (entryFrame m #[(.int par), (.int box), (.int str), (.int flags)] maxLocals)) tg := by
    intro tg kt
    refine k43 tg ?_
    show Steps p.tables e below (T25.setTop (mkF m 131 #[.val (.int par), .val (.int box), .val (.int str), .val (.int flags), .val (.int (box &&& (65535 : Int32))), .val (.int (str &&& (4095 : Int32))), .val (.int z6), .val (.ref z8), .val (.long z10), .second, .val (.long z12), .second, .val (.int z20), .val (.int z22), .val (.int z24), .val (.int z32)] [(.int (if z20 = (0 : Int32) then (0 : Int32) else (if z22 = (0 : Int32) then (0 : Int32) else (if z24 = (0 : Int32) then (0 : Int32) else (if z32 = (0 : Int32) then (0 : Int32) else (1 : Int32))))))])) _
    rw [← ez44]
    show Steps p.tables e below (T25.setTop (mkF m 131 #[.val (.int par), .val (.int box), .val (.int str), .val (.int flags), .val (.int (box &&& (65535 : Int32))), .val (.int (str &&& (4095 : Int32))), .val (.int z6), .val (.ref z8), .val (.long z10), .second, .val (.long z12), .second, .val (.int z20), .val (.int z22), .val (.int z24), .val (.int z32)] [(.int z44)])) _
    exact kt
  obtain ⟨fs, hr, hrun, hended, hW, hsame⟩ := X25.leave (v := some (.int z44)) (fun h => by rw [Bd.returns] at h; cases h)
  refine ⟨_, _, k45 _ ?_, hrun, hended, _, _, rfl, ?_, ⟨_, rfl⟩, hW, hsame.mono (by decide) (by decide)⟩
  · exact retN X25 hx (t := .boolean) Bd.returns (by simp) (hb hby at_131) (by rw [show nar .boolean z44 = z44 from (by rw [ez44]; (repeat' split) <;> decide)]; exact hr)
  · show QL n0 _ T25.heap _
    refine ⟨?_, N25⟩
    show some (Value.int z44) = some (Value.int 1)
    have hm : z6 = 0 ∨ z6 = 1 := by rw [ez6]; split; exact Or.inl rfl; exact Or.inr rfl
    have h1 : z10 &&& (8 : Int64) = 0 := by rw [ez10]; exact own_of8 (par.toInt64) _ _ (if z6 = (0 : Int32) then (0 : Int64) else (4 : Int64)) od ho (by split; exact Or.inl rfl; exact Or.inr rfl)
    have h2 : z12 &&& (8 : Int64) = 8 := by rw [ez12]; exact own_pack8 _ _
    have h3 := own_or8 z10
    have h4 := own_and9 z12
    simp_all
set_option maxRecDepth 65536 in
set_option maxHeartbeats 40000000 in
theorem comes_1 {Post : Tables → Env → Array Value → State → Outcome → State → Prop} (hpost : ∀ tb e args s v u, (limb_1_1.after args s (.returned v) u = true ∧ limb_1_2.after args s (.returned v) u = true ∧ True) → FrameEnd s (.returned v) u (Jvm.fieldLocs frame_1_writes args s ++ Jvm.arrayLocs frame_1_arrays args s ++ Jvm.staticLocs frame_1_statics s) 0 0 → Post tb e args s (.returned v) u) :
    ArmFor flags0 classFile x code maxLocals ret World_1 tables_1 room_1 Calls_1 rest_1 Pre_1 Post := by
  intro l hfl _ _ p e ha hc hk s m args below hf hA hF happ hP
  obtain ⟨hcalls, hrest, hpre⟩ := hP
  obtain ⟨-, -, -, hnamed, -, -, -, hat⟩ := (Spec.applies_iff hf).mp happ
  obtain ⟨hg, hn⟩ := and_e (Cond.before_iff.mp (show (Jvm.Cond.and given_1 narrow_1).before args s = true from hpre))
  obtain ⟨g1, g2⟩ := and_e hg
  obtain ⟨g3, g4⟩ := and_e g2
  obtain ⟨g5, g6⟩ := and_e g4
  obtain ⟨g7, g8⟩ := and_e g6
  obtain ⟨w0, w1, w2, w3, rfl⟩ : ∃ w0 w1 w2 w3 : Value, args = #[w0, w1, w2, w3] := by
    have hs : args.size = 4 := by simpa [Cond.value, given_1] using g1
    obtain ⟨L⟩ := args
    match L, hs with
    | [w0, w1, w2, w3], _ => exact ⟨w0, w1, w2, w3, rfl⟩
  have hw := fun d (hd : d ∈ tables_1) => atoms_spec (ws := Jvm.Cond.code x code maxLocals ret :: tables_1) hat d (List.mem_cons_of_mem _ hd)
  have hfit : Fit s := fun {y c} hc i hi => by
    obtain ⟨ha, rfl⟩ := Array.getElem?_eq_some_iff.mp hc
    have q := List.all_eq_true.mp ((Array.all_eq_true_iff_forall_mem.mp hF) _ (Array.getElem_mem ha)) i (List.mem_range.mpr hi)
    simpa [Array.getElem?_eq_getElem hi] using q
  obtain ⟨i0, ei0⟩ := is_v g3
  obtain rfl : w0 = (.int i0) := Option.some.inj ei0
  obtain ⟨i1, ei1⟩ := is_v g5
  obtain rfl : w1 = (.int i1) := Option.some.inj ei1
  obtain ⟨i2, ei2⟩ := is_v g7
  obtain rfl : w2 = (.int i2) := Option.some.inj ei2
  obtain ⟨i3, ei3⟩ := is_v g8
  obtain rfl : w3 = (.int i3) := Option.some.inj ei3
  obtain ⟨nn1, nn2⟩ := and_e hn
  obtain ⟨v_UP, ev_UP⟩ := exa_v nn1
  have E_UP := Exa.start ev_UP nn1
  have S_UP := Sta.start ev_UP (Or.inr ⟨(hw _ (List.mem_of_getElem? (i := 6) rfl)), (hw _ (List.mem_of_getElem? (i := 7) rfl))⟩)
  obtain ⟨nn3, nn4⟩ := and_e nn2
  obtain ⟨nn5, nn6⟩ := and_e nn4
  obtain ⟨v_RIGHT, ev_RIGHT⟩ := exa_v nn5
  have E_RIGHT := Exa.start ev_RIGHT nn5
  have S_RIGHT := Sta.start ev_RIGHT (Or.inr ⟨(hw _ (List.mem_of_getElem? (i := 6) rfl)), (hw _ (List.mem_of_getElem? (i := 31) rfl))⟩)
  obtain ⟨nn7, nn8⟩ := and_e nn6
  obtain ⟨nn9, nn10⟩ := and_e nn8
  obtain ⟨v_LEFT, ev_LEFT⟩ := exa_v nn9
  have E_LEFT := Exa.start ev_LEFT nn9
  have S_LEFT := Sta.start ev_LEFT (Or.inr ⟨(hw _ (List.mem_of_getElem? (i := 6) rfl)), (hw _ (List.mem_of_getElem? (i := 33) rfl))⟩)
  obtain ⟨nn11, nn12⟩ := and_e nn10
  obtain ⟨nn13, nn14⟩ := and_e nn12
  obtain ⟨v_DOWN, ev_DOWN⟩ := exa_v nn13
  have E_DOWN := Exa.start ev_DOWN nn13
  have S_DOWN := Sta.start ev_DOWN (Or.inr ⟨(hw _ (List.mem_of_getElem? (i := 6) rfl)), (hw _ (List.mem_of_getElem? (i := 36) rfl))⟩)
  have F_UP := Fld.start ((fld_at ev_UP).symm.trans (own_eqv nn3))
  have F_RIGHT := Fld.start ((fld_at ev_RIGHT).symm.trans (own_eqv nn7))
  have F_LEFT := Fld.start ((fld_at ev_LEFT).symm.trans (own_eqv nn11))
  have F_DOWN := Fld.start ((fld_at ev_DOWN).symm.trans (own_eqv nn14))
  obtain ⟨n, o, h1, h2, h3, _, L, rfl, ⟨rfl, N⟩, hq⟩ := rm0 l s _ hw tables_1 i0 i1 i2 i3 v_LEFT v_UP v_RIGHT v_DOWN s.heap s.heap.size S_LEFT S_UP S_RIGHT S_DOWN E_LEFT F_LEFT E_UP F_UP E_RIGHT F_RIGHT E_DOWN F_DOWN p e ha hc hk s m _ below hf ((Spec.applies_iff_loose hf).mp happ).1 ⟨rfl, State.Warmed39.refl s, rfl⟩ trivial
  refine ⟨n, _, h1, h2, h3, hpost _ _ _ _ _ _ ⟨Cond.after_iff.mpr rfl, Cond.after_iff.mpr (eq_i res_at (Term.int_eval (1)) rfl), trivial⟩ ⟨hq.1, hq.2.1, (hq.2.2.sift fun y hy => Or.inr (N y hy)).mono (by decide) (by decide)⟩⟩
theorem main_1_1 : Claimed_1_1 := comes_1 fun _ _ _ _ _ _ h hF => ⟨h.1, hF⟩
theorem main_1_2 : Claimed_1_2 := comes_1 fun _ _ _ _ _ _ h hF => ⟨h.2.1, hF⟩
end Jvm.Pilot.@@N@@
namespace Jvm.Pilot.@@N@@
open Jvm Jvm.ClassFile Sem Op Lib Jvm.Free Jvm.Stand Jvm.Pilot.@@N@@.Jvm.D
/-! MADE BY PROGRAM (witnessworld.py) out of the Statement's table words and the real class files: 13 classes; the members and pool entries that the words name. The judged class is class 1, her method 2. -/
namespace start1
open Jvm.ClassFile
def u (s : String) : CpInfo := .utf8 (stringToUtf16 s)
/-- a pool by its gaps: so many unusable entries, then the entry; so many at the end -/
def gap : Nat → List CpInfo → List CpInfo
  | 0, r => r
  | n + 1, r => .unusable :: gap n r
def poolList (es : List (Nat × CpInfo)) (last : Nat) : List CpInfo := es.foldr (fun e r => gap e.1 (e.2 :: r)) (gap last [])
def pool (es : List (Nat × CpInfo)) (last : Nat) : Array CpInfo := ⟨poolList es last⟩
def fileOf (pool : Array CpInfo) (this : Nat) (attrs : Array Attribute := #[]) (ms : Array MethodInfo := #[]) (fl : Nat := 33) (sup : Nat := 0) (ifs : Array Nat := #[]) (fds : Array FieldInfo := #[]) : ClassFile where
  minorVersion := 0
  majorVersion := 65
  constantPool := pool
  accessFlags := fl
  thisClass := this
  superClass := sup
  interfaces := ifs
  fields := fds
  methods := ms
  attributes := attrs
def plain (name : String) (sup : Option ClassId) : Class where
  name := name
  kind := .ordinary
  loader := none
  accessFlags := 33
  super := sup
  interfaces := #[]
  cf := none
  fields := #[]
  methods := #[]
  instanceTypes := #[]
  staticTypes := #[]
  resolved := #[]
  callSites := []
  init := .initialized
  statics := none
  mirror := none

def pool0 : Array CpInfo := pool [(5, u "<init>"), (0, u "()V"), (1, .class_ 10), (1, u "java/lang/Object")] 113

def k0m0 : Method := { name := "<init>", desc := "()V", sig := { parameters := [], returnType := none }, accessFlags := 1, code := none }
/-- java/lang/Object -/
def k0 : Class := { plain "java/lang/Object" none with
  accessFlags := 33
  interfaces := #[]
  cf := some (fileOf pool0 8 #[] #[{ accessFlags := 1, nameIndex := 5, descriptorIndex := 6, attributes := #[] }] 33 0 #[] #[])
  fields := #[]
  methods := #[k0m0]
  instanceTypes := #[]
  staticTypes := #[]
  resolved := Array.replicate 124 none
  statics := none }

def pool1 : Array CpInfo := pool [(2, .class_ 4), (1, u "java/lang/Object"), (0, u "<init>"), (0, u "()V"), (0, .fieldref 8 9), (0, .class_ 10), (0, .nameAndType 11 12), (0, u "pushwise/Direction"), (0, u "LEFT"), (0, u "Lpushwise/Direction;"), (0, .fieldref 8 14), (0, .nameAndType 15 12), (0, u "UP"), (0, .fieldref 8 17), (0, .nameAndType 18 12), (0, u "RIGHT"), (0, .fieldref 8 20), (0, .nameAndType 21 12), (0, u "DOWN"), (0, .integer 65535), (0, .methodref 24 25), (0, .class_ 26), (0, .nameAndType 27 28), (0, u "pushwise/StepsIsPackingPinLaw"), (0, u "dir"), (0, u "(I)Lpushwise/Direction;"), (0, .methodref 30 31), (0, .class_ 32), (0, .nameAndType 33 34), (0, u "pushwise/Steps"), (0, u "of"), (0, u "(IIILpushwise/Direction;Z)J"), (0, .methodref 30 36), (0, .nameAndType 37 38), (0, u "packing"), (0, u "(II)J"), (0, .methodref 30 40), (0, .nameAndType 41 42), (0, u "isPacking"), (0, u "(J)Z"), (0, .long 8), (1, .long 18446744073709551607), (4, u "law"), (0, u "(IIII)Z")] 2

def k1m0 : Method := { name := "<init>", desc := "()V", sig := { parameters := [], returnType := none }, accessFlags := 2, code := none }
def k1c1 : Code := { maxStack := 2, maxLocals := 2, code := method_2_code, exceptionTable := #[], attributes := #[] }
def k1m1 : Method := { name := "dir", desc := "(I)Lpushwise/Direction;", sig := { parameters := [.int], returnType := some (.object "pushwise/Direction") }, accessFlags := 10, code := some k1c1 }
def k1c2 : Code := { maxStack := 5, maxLocals := 16, code := code, exceptionTable := #[], attributes := #[] }
def k1m2 : Method := { name := "law", desc := "(IIII)Z", sig := { parameters := [.int, .int, .int, .int], returnType := some .boolean }, accessFlags := 9, code := some k1c2 }
/-- pushwise/StepsIsPackingPinLaw -/
def k1 : Class := { plain "pushwise/StepsIsPackingPinLaw" (some 0) with
  accessFlags := 49
  interfaces := #[]
  cf := some (fileOf pool1 24 #[] #[{ accessFlags := 2, nameIndex := 5, descriptorIndex := 6, attributes := #[] }, { accessFlags := 10, nameIndex := 27, descriptorIndex := 28, attributes := #[] }, { accessFlags := 9, nameIndex := 50, descriptorIndex := 51, attributes := #[] }] 49 2 #[] #[])
  fields := #[]
  methods := #[k1m0, k1m1, k1m2]
  instanceTypes := #[]
  staticTypes := #[]
  resolved := Array.replicate 54 none
  statics := none }

def pool2 : Array CpInfo := pool [(1, .class_ 2), (0, u "java/lang/constant/Constable"), (0, .class_ 4), (0, u "java/lang/Object")] 6

/-- java/lang/constant/Constable -/
def k2 : Class := { plain "java/lang/constant/Constable" (some 0) with
  accessFlags := 1537
  interfaces := #[]
  cf := some (fileOf pool2 1 #[] #[] 1537 3 #[] #[])
  fields := #[]
  methods := #[]
  instanceTypes := #[]
  staticTypes := #[]
  resolved := Array.replicate 11 none
  statics := none }

def pool3 : Array CpInfo := pool [(1, .class_ 2), (0, u "java/lang/Comparable"), (0, .class_ 4), (0, u "java/lang/Object")] 7

/-- java/lang/Comparable -/
def k3 : Class := { plain "java/lang/Comparable" (some 0) with
  accessFlags := 1537
  interfaces := #[]
  cf := some (fileOf pool3 1 #[] #[] 1537 3 #[] #[])
  fields := #[]
  methods := #[]
  instanceTypes := #[]
  staticTypes := #[]
  resolved := Array.replicate 12 none
  statics := none }

def pool4 : Array CpInfo := pool [(1, .class_ 2), (0, u "java/io/Serializable"), (0, .class_ 4), (0, u "java/lang/Object")] 2

/-- java/io/Serializable -/
def k4 : Class := { plain "java/io/Serializable" (some 0) with
  accessFlags := 1537
  interfaces := #[]
  cf := some (fileOf pool4 1 #[] #[] 1537 3 #[] #[])
  fields := #[]
  methods := #[]
  instanceTypes := #[]
  staticTypes := #[]
  resolved := Array.replicate 7 none
  statics := none }

def pool5 : Array CpInfo := pool [(2, .class_ 4), (1, u "java/lang/Enum"), (0, u "name"), (0, u "Ljava/lang/String;"), (0, .fieldref 2 8), (0, .nameAndType 9 10), (0, u "ordinal"), (0, u "I"), (1, .class_ 14), (1, u "java/lang/Object"), (4, u "hash"), (86, .class_ 108), (1, u "java/lang/Enum$EnumDesc"), (2, .class_ 112), (0, u "java/lang/constant/Constable"), (0, .class_ 114), (0, u "java/lang/Comparable"), (0, .class_ 116), (0, u "java/io/Serializable"), (9, u "()I")] 77

def k5c0 : Code := { maxStack := 1, maxLocals := 1, code := jdk_37_method_2_code, exceptionTable := #[], attributes := #[] }
def k5m0 : Method := { name := "ordinal", desc := "()I", sig := { parameters := [], returnType := some .int }, accessFlags := 17, code := some k5c0 }
/-- java/lang/Enum -/
def k5 : Class := { plain "java/lang/Enum" (some 0) with
  accessFlags := 1057
  interfaces := #[2, 3, 4]
  cf := some (fileOf pool5 2 #[.nestMembers #[106]] #[{ accessFlags := 17, nameIndex := 9, descriptorIndex := 126, attributes := #[] }] 1057 12 #[111, 113, 115] #[{ accessFlags := 18, nameIndex := 5, descriptorIndex := 6, attributes := #[] }, { accessFlags := 18, nameIndex := 9, descriptorIndex := 10, attributes := #[] }, { accessFlags := 2, nameIndex := 19, descriptorIndex := 10, attributes := #[] }])
  fields := #[{ name := "name", type := (.object "java/lang/String"), accessFlags := 18, slot := 0, constantValue := 0 }, { name := "ordinal", type := .int, accessFlags := 18, slot := 1, constantValue := 0 }, { name := "hash", type := .int, accessFlags := 2, slot := 2, constantValue := 0 }]
  methods := #[k5m0]
  instanceTypes := #[(.object "java/lang/String"), .int, .int]
  staticTypes := #[]
  resolved := Array.replicate 204 none
  statics := none }

def pool6 : Array CpInfo := pool [(1, .class_ 2), (0, u "pushwise/Direction"), (2, u "LEFT"), (0, u "Lpushwise/Direction;"), (2, u "UP"), (2, u "RIGHT"), (2, u "DOWN"), (2, u "$VALUES"), (0, u "[Lpushwise/Direction;"), (6, .class_ 28), (1, u "java/lang/Enum"), (8, u "letter"), (0, u "C"), (2, u "dx"), (0, u "I"), (2, u "dy"), (2, u "ALL"), (0, u "Ljava/util/List;")] 99

/-- pushwise/Direction -/
def k6 : Class := { plain "pushwise/Direction" (some 5) with
  accessFlags := 16432
  interfaces := #[]
  cf := some (fileOf pool6 1 #[] #[] 16432 26 #[] #[{ accessFlags := 16409, nameIndex := 5, descriptorIndex := 6, attributes := #[] }, { accessFlags := 16409, nameIndex := 9, descriptorIndex := 6, attributes := #[] }, { accessFlags := 16409, nameIndex := 12, descriptorIndex := 6, attributes := #[] }, { accessFlags := 16409, nameIndex := 15, descriptorIndex := 6, attributes := #[] }, { accessFlags := 24, nameIndex := 48, descriptorIndex := 49, attributes := #[] }, { accessFlags := 18, nameIndex := 37, descriptorIndex := 38, attributes := #[] }, { accessFlags := 18, nameIndex := 41, descriptorIndex := 42, attributes := #[] }, { accessFlags := 18, nameIndex := 45, descriptorIndex := 42, attributes := #[] }, { accessFlags := 4122, nameIndex := 18, descriptorIndex := 19, attributes := #[] }])
  fields := #[{ name := "LEFT", type := (.object "pushwise/Direction"), accessFlags := 16409, slot := 0, constantValue := 0 }, { name := "UP", type := (.object "pushwise/Direction"), accessFlags := 16409, slot := 1, constantValue := 0 }, { name := "RIGHT", type := (.object "pushwise/Direction"), accessFlags := 16409, slot := 2, constantValue := 0 }, { name := "DOWN", type := (.object "pushwise/Direction"), accessFlags := 16409, slot := 3, constantValue := 0 }, { name := "ALL", type := (.object "java/util/List"), accessFlags := 24, slot := 4, constantValue := 0 }, { name := "letter", type := .char, accessFlags := 18, slot := 3, constantValue := 0 }, { name := "dx", type := .int, accessFlags := 18, slot := 4, constantValue := 0 }, { name := "dy", type := .int, accessFlags := 18, slot := 5, constantValue := 0 }, { name := "$VALUES", type := (.array (.object "pushwise/Direction")), accessFlags := 4122, slot := 5, constantValue := 0 }]
  methods := #[]
  instanceTypes := #[(.object "java/lang/String"), .int, .int, .char, .int, .int]
  staticTypes := #[(.object "pushwise/Direction"), (.object "pushwise/Direction"), (.object "pushwise/Direction"), (.object "pushwise/Direction"), (.object "java/util/List"), (.array (.object "pushwise/Direction"))]
  resolved := Array.replicate 149 none
  statics := some 0 }

def pool7 : Array CpInfo := pool [(2, .class_ 4), (1, u "java/lang/Object"), (0, u "<init>"), (0, u "()V"), (2, .class_ 10), (0, u "pushwise/Steps"), (0, .long 4), (1, .methodref 14 15), (0, .class_ 16), (0, .nameAndType 17 18), (0, u "pushwise/Direction"), (0, u "ordinal"), (0, u "()I"), (0, .long 8), (12, u "BOX_SHIFT"), (0, u "I"), (2, u "PUSHES_SHIFT"), (1, u "BOX_MASK"), (0, u "PUSHES_MASK"), (1, u "PACKING"), (0, u "J"), (0, u "MACRO"), (0, u "DIRECTION_MASK"), (3, u "of"), (0, u "(IIILpushwise/Direction;Z)J"), (1, u "packing"), (0, u "(II)J"), (0, u "isPacking"), (0, u "(J)Z")] 9

def k7m0 : Method := { name := "<init>", desc := "()V", sig := { parameters := [], returnType := none }, accessFlags := 2, code := none }
def k7c1 : Code := { maxStack := 5, maxLocals := 5, code := prog_39_method_2_code, exceptionTable := #[], attributes := #[] }
def k7m1 : Method := { name := "of", desc := "(IIILpushwise/Direction;Z)J", sig := { parameters := [.int, .int, .int, (.object "pushwise/Direction"), .boolean], returnType := some .long }, accessFlags := 8, code := some k7c1 }
def k7c2 : Code := { maxStack := 5, maxLocals := 2, code := prog_39_method_3_code, exceptionTable := #[], attributes := #[] }
def k7m2 : Method := { name := "packing", desc := "(II)J", sig := { parameters := [.int, .int], returnType := some .long }, accessFlags := 8, code := some k7c2 }
def k7c3 : Code := { maxStack := 4, maxLocals := 2, code := prog_39_method_4_code, exceptionTable := #[], attributes := #[] }
def k7m3 : Method := { name := "isPacking", desc := "(J)Z", sig := { parameters := [.long], returnType := some .boolean }, accessFlags := 8, code := some k7c3 }
/-- pushwise/Steps -/
def k7 : Class := { plain "pushwise/Steps" (some 0) with
  accessFlags := 48
  interfaces := #[]
  cf := some (fileOf pool7 9 #[] #[{ accessFlags := 2, nameIndex := 5, descriptorIndex := 6, attributes := #[] }, { accessFlags := 8, nameIndex := 48, descriptorIndex := 49, attributes := #[] }, { accessFlags := 8, nameIndex := 51, descriptorIndex := 52, attributes := #[] }, { accessFlags := 8, nameIndex := 53, descriptorIndex := 54, attributes := #[] }] 48 2 #[] #[{ accessFlags := 26, nameIndex := 32, descriptorIndex := 33, attributes := #[] }, { accessFlags := 26, nameIndex := 36, descriptorIndex := 33, attributes := #[] }, { accessFlags := 26, nameIndex := 38, descriptorIndex := 33, attributes := #[] }, { accessFlags := 26, nameIndex := 39, descriptorIndex := 33, attributes := #[] }, { accessFlags := 26, nameIndex := 41, descriptorIndex := 42, attributes := #[] }, { accessFlags := 26, nameIndex := 43, descriptorIndex := 42, attributes := #[] }, { accessFlags := 26, nameIndex := 44, descriptorIndex := 33, attributes := #[] }])
  fields := #[{ name := "BOX_SHIFT", type := .int, accessFlags := 26, slot := 0, constantValue := 0 }, { name := "PUSHES_SHIFT", type := .int, accessFlags := 26, slot := 1, constantValue := 0 }, { name := "BOX_MASK", type := .int, accessFlags := 26, slot := 2, constantValue := 0 }, { name := "PUSHES_MASK", type := .int, accessFlags := 26, slot := 3, constantValue := 0 }, { name := "PACKING", type := .long, accessFlags := 26, slot := 4, constantValue := 0 }, { name := "MACRO", type := .long, accessFlags := 26, slot := 5, constantValue := 0 }, { name := "DIRECTION_MASK", type := .int, accessFlags := 26, slot := 6, constantValue := 0 }]
  methods := #[k7m0, k7m1, k7m2, k7m3]
  instanceTypes := #[]
  staticTypes := #[.int, .int, .int, .int, .long, .long, .int]
  resolved := Array.replicate 64 none
  statics := none }

def pool8 : Array CpInfo := pool [(1, u "java/lang/Cloneable"), (0, .class_ 1), (0, u "java/lang/Object"), (0, .class_ 3)] 3

/-- java/lang/Cloneable -/
def k8 : Class := { plain "java/lang/Cloneable" (some 0) with
  accessFlags := 1537
  interfaces := #[]
  cf := some (fileOf pool8 2 #[] #[] 1537 4 #[] #[])
  fields := #[]
  methods := #[]
  instanceTypes := #[]
  staticTypes := #[]
  resolved := Array.replicate 8 none
  statics := none }

/-- the primitive byte -/
def k9 : Class := { plain "byte" none with kind := .primitive 'B', accessFlags := 0x411 }
/-- [B -/
def k10 : Class := { plain "[B" (some 0) with kind := .array 9 .byte, interfaces := #[8, 4], accessFlags := 1041 }

/-- the primitive int -/
def k11 : Class := { plain "int" none with kind := .primitive 'I', accessFlags := 0x411 }
/-- [I -/
def k12 : Class := { plain "[I" (some 0) with kind := .array 11 .int, interfaces := #[8, 4], accessFlags := 1041 }

def heap : Heap := #[{ cls := 6, slots := #[.ref 1, .ref 2, .ref 3, .ref 4, .null, .null], vm := .statics 6 },
  { cls := 6, slots := #[.null, .int 0, .int 0, .int 108, .int (-1), .int 0], vm := .none },
  { cls := 6, slots := #[.null, .int 1, .int 0, .int 117, .int 0, .int (-1)], vm := .none },
  { cls := 6, slots := #[.null, .int 2, .int 0, .int 114, .int 1, .int 0], vm := .none },
  { cls := 6, slots := #[.null, .int 3, .int 0, .int 100, .int 0, .int 1], vm := .none }]
def classes : Array Class := #[k0, k1, k2, k3, k4, k5, k6, k7, k8, k9, k10, k11, k12]
def interned : List (Array UInt16 × Addr) := []
def slotsUsed : Nat := 30
def theMethod : MethodId := ⟨1, 2⟩
def args0 : Array Value := #[.int 5, .int 7, .int 9, .int 6]
def aboutOver (below : List Frame) : State where
  vm := { classes := classes, interned := interned.toArray }
  heap := heap
  slotsUsed := slotsUsed
  threads := #[{ frames := .invoking theMethod args0 :: below }]
def below0 : List Frame := [.native { method := ⟨0, 0⟩, args := #[] }]
def about1 : State := aboutOver below0
def p0 : Program := .bare "" "" ""
def e0 : Env := launch0.env 0 0 0
theorem w_frames : about1.frames = Frame.invoking theMethod args0 :: below0 := rfl
set_option maxRecDepth 65536 in
theorem w_args : argsFit about1.vm theMethod args0 = true := by decide +kernel
set_option maxRecDepth 65536 in
theorem w_heap : heapFits about1 = true := by decide +kernel
set_option maxRecDepth 65536 in
theorem w_runnable : about1.curStatus? = some .runnable := by decide +kernel
set_option maxRecDepth 65536 in
theorem w_alone : about1.alone = true := by decide +kernel
set_option maxRecDepth 65536 in
theorem w_named : about1.methodNamed? x = some theMethod := by decide +kernel
set_option maxRecDepth 65536 in
theorem w_hears : about1.hears theMethod below0 = true := by decide +kernel
set_option maxRecDepth 65536 in
theorem w_ripe : about1.ripe theMethod args0 below0 = true := by decide +kernel
theorem w_running : about1.status = .running := rfl
set_option maxRecDepth 65536 in
theorem w_room : about1.hasRoom e0.platform room_1 = true :=
  launch0.hasRoom_least _ room_1 (by decide +kernel) (by decide +kernel) (by decide +kernel) (by decide +kernel) (by decide +kernel) (by decide +kernel)
theorem allAtoms_all (ts : List Jvm.Cond) (a : Array Jvm.Value) (st : Jvm.State) : (allAtoms ts).before a st = ts.all (fun c => c.before a st) := by
  induction ts with
  | nil => rfl
  | cons c t ih =>
    show (Jvm.Cond.and c (allAtoms t)).before a st = _
    rw [Jvm.Cond.before_and, ih, List.all_cons]
def words1 : List Jvm.Cond := Jvm.Cond.code x code maxLocals ret :: tables_1
/-- a 'code' word, met by the world's own term for the bytes: nothing is compared byte by byte -/
theorem code_word {y : MethodName} {bytes : ByteArray} {mx : Nat} {rt : Option FieldType} {a : Array Value} {s : State} {m : MethodId} {meth : Method} {c : Code} (h1 : s.methodNamed? y = some m) (h2 : s.vm.method? m = some meth) (h3 : meth.code = some c) (h4 : c.code = bytes)
    (h5 : (c.maxLocals == mx && c.exceptionTable.isEmpty && decide (c.maxStack ≤ mostOperands) && decide (meth.sig.returnType = rt) && !meth.locks && decide (parseMethodDescriptor y.desc = some meth.sig)) = true) : (Jvm.Cond.code y bytes mx rt).before a s = true := by
  simp only [Bool.and_eq_true, beq_iff_eq, Bool.not_eq_true', decide_eq_true_eq] at h5
  obtain ⟨⟨⟨⟨⟨g1, g2⟩, g3⟩, g4⟩, g5⟩, g6⟩ := h5
  simp [Cond.before, Cond.holds, Cond.value, h1, h2, h3, h4, g1, g2, g3, g4, g5, g6]
def isCode : Jvm.Cond → Bool
  | .code _ _ _ _ => true
  | _ => false
theorem all_split {L : List Jvm.Cond} {P : Jvm.Cond → Bool} (h1 : L.all (fun c => isCode c || P c) = true) (h2 : ∀ c ∈ L.filter isCode, P c = true) : L.all P = true := by
  refine List.all_eq_true.mpr fun c hc => ?_
  have h := List.all_eq_true.mp h1 c hc
  rcases Bool.eq_false_or_eq_true (isCode c) with hi | hi
  · exact h2 c (List.mem_filter.mpr ⟨hc, hi⟩)
  · simpa [hi] using h
set_option maxRecDepth 65536 in
theorem w_c0 : (Jvm.Cond.code x code maxLocals ret).before args0 about1 = true := code_word (m := ⟨1, 2⟩) (meth := k1m2) (c := k1c2) (by decide +kernel) rfl rfl rfl (by decide +kernel)
set_option maxRecDepth 65536 in
theorem w_c1 : (Jvm.Cond.code ({ cls := "pushwise/StepsIsPackingPinLaw", name := "dir", desc := "(I)Lpushwise/Direction;" } : Jvm.MethodName) method_2_code (2 : Nat) (Option.some (Jvm.ClassFile.FieldType.object "pushwise/Direction"))).before args0 about1 = true := code_word (m := ⟨1, 1⟩) (meth := k1m1) (c := k1c1) (by decide +kernel) rfl rfl rfl (by decide +kernel)
set_option maxRecDepth 65536 in
theorem w_c2 : (Jvm.Cond.code ({ cls := "pushwise/Steps", name := "of", desc := "(IIILpushwise/Direction;Z)J" } : Jvm.MethodName) prog_39_method_2_code (5 : Nat) (Option.some Jvm.ClassFile.FieldType.long)).before args0 about1 = true := code_word (m := ⟨7, 1⟩) (meth := k7m1) (c := k7c1) (by decide +kernel) rfl rfl rfl (by decide +kernel)
set_option maxRecDepth 65536 in
theorem w_c3 : (Jvm.Cond.code ({ cls := "java/lang/Enum", name := "ordinal", desc := "()I" } : Jvm.MethodName) jdk_37_method_2_code (1 : Nat) (Option.some Jvm.ClassFile.FieldType.int)).before args0 about1 = true := code_word (m := ⟨5, 0⟩) (meth := k5m0) (c := k5c0) (by decide +kernel) rfl rfl rfl (by decide +kernel)
set_option maxRecDepth 65536 in
theorem w_c4 : (Jvm.Cond.code ({ cls := "pushwise/Steps", name := "packing", desc := "(II)J" } : Jvm.MethodName) prog_39_method_3_code (2 : Nat) (Option.some Jvm.ClassFile.FieldType.long)).before args0 about1 = true := code_word (m := ⟨7, 2⟩) (meth := k7m2) (c := k7c2) (by decide +kernel) rfl rfl rfl (by decide +kernel)
set_option maxRecDepth 65536 in
theorem w_c5 : (Jvm.Cond.code ({ cls := "pushwise/Steps", name := "isPacking", desc := "(J)Z" } : Jvm.MethodName) prog_39_method_4_code (2 : Nat) (Option.some Jvm.ClassFile.FieldType.boolean)).before args0 about1 = true := code_word (m := ⟨7, 3⟩) (meth := k7m3) (c := k7c3) (by decide +kernel) rfl rfl rfl (by decide +kernel)
def codes1 : List Jvm.Cond := [Jvm.Cond.code x code maxLocals ret, Jvm.Cond.code ({ cls := "pushwise/StepsIsPackingPinLaw", name := "dir", desc := "(I)Lpushwise/Direction;" } : Jvm.MethodName) method_2_code (2 : Nat) (Option.some (Jvm.ClassFile.FieldType.object "pushwise/Direction")), Jvm.Cond.code ({ cls := "pushwise/Steps", name := "of", desc := "(IIILpushwise/Direction;Z)J" } : Jvm.MethodName) prog_39_method_2_code (5 : Nat) (Option.some Jvm.ClassFile.FieldType.long), Jvm.Cond.code ({ cls := "java/lang/Enum", name := "ordinal", desc := "()I" } : Jvm.MethodName) jdk_37_method_2_code (1 : Nat) (Option.some Jvm.ClassFile.FieldType.int), Jvm.Cond.code ({ cls := "pushwise/Steps", name := "packing", desc := "(II)J" } : Jvm.MethodName) prog_39_method_3_code (2 : Nat) (Option.some Jvm.ClassFile.FieldType.long), Jvm.Cond.code ({ cls := "pushwise/Steps", name := "isPacking", desc := "(J)Z" } : Jvm.MethodName) prog_39_method_4_code (2 : Nat) (Option.some Jvm.ClassFile.FieldType.boolean)]
set_option maxRecDepth 65536 in
theorem codes_eq : words1.filter isCode = codes1 := rfl
theorem w_codes : ∀ c ∈ words1.filter isCode, c.before args0 about1 = true := by
  rw [codes_eq]
  intro c hc
  simp only [codes1, List.mem_cons, List.not_mem_nil, or_false] at hc
  rcases hc with rfl | rfl | rfl | rfl | rfl | rfl
  · exact w_c0
  · exact w_c1
  · exact w_c2
  · exact w_c3
  · exact w_c4
  · exact w_c5
set_option maxRecDepth 65536 in
theorem w_t1 : (words1.take 24).all (fun c => isCode c || c.before args0 about1) = true := by decide +kernel
set_option maxRecDepth 65536 in
theorem w_t2 : (words1.drop 24).all (fun c => isCode c || c.before args0 about1) = true := by decide +kernel
theorem w_tables : (allAtoms (Jvm.Cond.code x code maxLocals ret :: tables_1)).before args0 about1 = true := by
  rw [allAtoms_all]
  show words1.all (fun c => c.before args0 about1) = true
  refine all_split ?_ w_codes
  rw [← List.take_append_drop 24 words1, List.all_append, w_t1, w_t2]
  rfl
set_option maxRecDepth 65536 in
theorem w_case : (Jvm.Cond.and given_1 narrow_1).before args0 about1 = true := by decide +kernel
theorem w_applies : (headSpec (Jvm.Cond.code x code maxLocals ret :: tables_1) room_1).applies x e0.platform about1 = true :=
  (Spec.applies_iff w_frames).mpr ⟨w_running, w_runnable, w_alone, w_named, w_hears, w_ripe, w_room, w_tables⟩
theorem atStart : AtStart classFile x code maxLocals ret World_1 tables_1 room_1 Calls_1 rest_1 Pre_1 launch0 p0 e0 about1 theMethod args0 below0 :=
  ⟨lists_1, trivial, launch0.admits_env _ _ _, launch0.least_env, fairChoices_fair.cas, fairChoices_fair.clock, w_frames, w_args, w_heap, w_applies, trivial, trivial, w_case⟩
end start1
theorem witness_1 : WitnessClaimed_1 := ⟨start1.p0, start1.e0, start1.about1, start1.theMethod, start1.args0, start1.below0, start1.atStart⟩
end Jvm.Pilot.@@N@@
