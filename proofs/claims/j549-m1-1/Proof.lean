import JvmDerived
import JvmDerived.Pilot.@@N@@Statement
import JvmDerived.Pilot.@@N@@Code
set_option linter.unusedVariables false
set_option linter.unusedSimpArgs false
namespace Jvm.RoadKit
open Sem ClassFile Op Lib Jvm.Stand Jvm.Free Jvm.LawKit
section New
variable {p : Program} {l : Launch} {e : Env} {R : Room} {s : State} {m : MethodId} {args : Array Value} {below : List Frame} {meth : Method} {c : Code} {T : State} {locs : List Loc} {cells slots : Nat}
theorem retI (X : Stand p l e R s m args below meth c T locs cells slots) (hx : p.tables.exec = Jvm.exec) {pc : Nat} {Ls : Array Slot} {z : Int32} {rest : List Value} (hret : meth.sig.returnType = some .int) (hd : decode c.code pc = .ok (.ireturn, 1)) {fs : List Frame}
    (hl : ∀ (f : JFrame) (acts : List Action), f.method = m → f.locked = none → f.entered = [] → (doReturn e (T.setTop f) acts (some (.int z))).1 = T.setFrames fs) : Steps p.tables e below (T.setTop (mkF m pc Ls (.int z :: rest))) (T.setFrames fs) := by
  have hm' : T.vm.method? m = some meth := X.method'
  have hn : narrow .int (.int z) = .int z := rfl
  show Steps p.tables e below (T.setTop { method := m, pc := pc, locals := Ls, stack := _ :: rest, locked := none }) _
  jvm_step X.here [X.here.top, hx, hd, hm', hret, hn]
  first | (intro acts; rw [hl _ acts rfl rfl rfl]) | rw [hl _ _ rfl rfl rfl]
  exact Steps.refl _
theorem own_retJ (X : Stand p l e R s m args below meth c T locs cells slots) (hx : p.tables.exec = Jvm.exec) {pc : Nat} {Ls : Array Slot} {z : Int64} {rest : List Value} (hret : meth.sig.returnType = some .long) (hd : decode c.code pc = .ok (.lreturn, 1)) {fs : List Frame}
    (hl : ∀ (f : JFrame) (acts : List Action), f.method = m → f.locked = none → f.entered = [] → (doReturn e (T.setTop f) acts (some (.long z))).1 = T.setFrames fs) : Steps p.tables e below (T.setTop (mkF m pc Ls (.long z :: rest))) (T.setFrames fs) := by
  have hm' : T.vm.method? m = some meth := X.method'
  show Steps p.tables e below (T.setTop { method := m, pc := pc, locals := Ls, stack := _ :: rest, locked := none }) _
  jvm_step X.here [X.here.top, hx, hd, hm', hret, narrow]
  first | (intro acts; rw [hl _ acts rfl rfl rfl]) | rw [hl _ _ rfl rfl rfl]
  exact Steps.refl _
theorem own_retA (X : Stand p l e R s m args below meth c T locs cells slots) (hx : p.tables.exec = Jvm.exec) {pc : Nat} {Ls : Array Slot} {z : Addr} {rest : List Value} {ty : FieldType} (hret : meth.sig.returnType = some ty) (hty : ty.isReference = true) (hd : decode c.code pc = .ok (.areturn, 1)) {fs : List Frame}
    (hl : ∀ (f : JFrame) (acts : List Action), f.method = m → f.locked = none → f.entered = [] → (doReturn e (T.setTop f) acts (some (.ref z))).1 = T.setFrames fs) : Steps p.tables e below (T.setTop (mkF m pc Ls (.ref z :: rest))) (T.setFrames fs) := by
  have hm' : T.vm.method? m = some meth := X.method'
  show Steps p.tables e below (T.setTop { method := m, pc := pc, locals := Ls, stack := _ :: rest, locked := none }) _
  jvm_step X.here [X.here.top, hx, hd, hm', hret, hty, Value.isRef]
  first | (intro acts; rw [hl _ acts rfl rfl rfl]) | rw [hl _ _ rfl rfl rfl]
  exact Steps.refl _
end New
end Jvm.RoadKit
namespace Jvm.Pilot.@@N@@
open Jvm Jvm.ClassFile Sem Op Lib Jvm.Free Jvm.Stand Jvm.LawKit Jvm.RoadKit Bundle Jvm.Pilot.@@N@@.Jvm.D
/-- a body that leaves the heap as it is and returns w -/
def QV (w : Value) (h0 : Heap) (n0 : Nat) (v : Option Value) (h : Heap) (L : List Loc) : Prop := v = some w ∧ Fr n0 L ∧ h = h0
def QL (n0 : Nat) (v : Option Value) (h : Heap) (L : List Loc) : Prop := v = some (.int 1) ∧ Fr n0 L
def QBox (Z : State) (n : Int32) (vs : List Value) (h0 : Heap) (n0 : Nat) (v : Option Value) (h : Heap) (L : List Loc) : Prop := Fr n0 L ∧ Keep h0 h [] ∧ ∃ (b : Addr) (c : ClassId), v = some (.ref b) ∧ h0.size ≤ b ∧ Arv Z h b c .int n vs (.int (0 : Int32))
def QPlace (Z : State) (mk : Addr) (cm : ClassId) (vs : List Value) (h0 : Heap) (n0 : Nat) (v : Option Value) (h : Heap) (L : List Loc) : Prop := v = none ∧ Fr n0 L ∧ Keep h0 h [mk] ∧ Arv Z h mk cm .boolean (8 : Int32) vs (.int (0 : Int32))
theorem own_lt8 {s : Int32} {vs : List Value} (h : ¬ s < 0 ∧ s < (8 : Int32)) (hl : vs.length = 8) : s.toNatClampNeg < vs.length := by
  rw [hl]; have e8 : (8 : Int32).toInt = 8 := rfl
  have := h.2; rw [Int32.lt_iff_toInt_lt] at this
  simp only [Int32.toNatClampNeg]; omega
theorem own_getset (vs : List Value) (s i : Int32) (P d : Value) (hs : ¬ s < 0) (hi : ¬ i < 0) (hl : i.toNatClampNeg < vs.length) : (vs.set s.toNatClampNeg P).getD i.toNatClampNeg d = if s = i then P else vs.getD i.toNatClampNeg d := by
  have e0 : (0 : Int32).toInt = 0 := rfl
  simp only [List.getD_eq_getElem?_getD, List.getElem?_set]
  by_cases c : s = i
  · subst c; simp [hl]
  · have : ¬ s.toNatClampNeg = i.toNatClampNeg := fun q => c (Int32.toInt_inj.mp (by
      rw [Int32.lt_iff_toInt_lt] at hs hi; simp only [Int32.toNatClampNeg] at q; omega))
    simp [c, this]
theorem own_m7 (x : Int32) : ¬ (x &&& (7 : Int32)) < 0 ∧ (x &&& (7 : Int32)) < (8 : Int32) := by
  have h := c_mask x 7 3 (by decide) rfl
  have e8 : (8 : Int32).toInt = 8 := rfl
  have e0 : (0 : Int32).toInt = 0 := rfl
  simp only [Int32.lt_iff_toInt_lt]; omega
theorem own_rem5 (x : Int32) : ((x &&& (2147483647 : Int32)) % (5 : Int32)) = (0 : Int32) ∨ ((x &&& (2147483647 : Int32)) % (5 : Int32)) = (1 : Int32) ∨ ((x &&& (2147483647 : Int32)) % (5 : Int32)) = (2 : Int32) ∨ ((x &&& (2147483647 : Int32)) % (5 : Int32)) = (3 : Int32) ∨ ((x &&& (2147483647 : Int32)) % (5 : Int32)) = (4 : Int32) := by
  have h := c_mask x 2147483647 31 (by decide) rfl
  have h2 := (c_irem (x &&& (2147483647 : Int32)) 5 5 rfl).1 (by omega)
  simp only [← Int32.toInt_inj]
  have e0 : (0 : Int32).toInt = 0 := rfl
  have e1 : (1 : Int32).toInt = 1 := rfl
  have e2 : (2 : Int32).toInt = 2 := rfl
  have e3 : (3 : Int32).toInt = 3 := rfl
  have e4 : (4 : Int32).toInt = 4 := rfl
  omega
theorem d3_0 : decode method_4_code 0 = .ok (.iload_n 3, 1) := by decide +kernel
theorem d3_1 : decode method_4_code 1 = .ok (.ifCond .le 9, 3) := by decide +kernel
theorem d3_4 : decode method_4_code 4 = .ok (.iload 4, 2) := by decide +kernel
theorem d3_6 : decode method_4_code 6 = .ok (.iload_n 1, 1) := by decide +kernel
theorem d3_7 : decode method_4_code 7 = .ok (.if_icmp .eq 36, 3) := by decide +kernel
theorem d3_10 : decode method_4_code 10 = .ok (.iload_n 3, 1) := by decide +kernel
theorem d3_11 : decode method_4_code 11 = .ok (.iconst 1, 1) := by decide +kernel
theorem d3_12 : decode method_4_code 12 = .ok (.if_icmp .le 9, 3) := by decide +kernel
theorem d3_15 : decode method_4_code 15 = .ok (.iload 5, 2) := by decide +kernel
theorem d3_17 : decode method_4_code 17 = .ok (.iload_n 1, 1) := by decide +kernel
theorem d3_18 : decode method_4_code 18 = .ok (.if_icmp .eq 25, 3) := by decide +kernel
theorem d3_21 : decode method_4_code 21 = .ok (.iload_n 3, 1) := by decide +kernel
theorem d3_22 : decode method_4_code 22 = .ok (.iconst 2, 1) := by decide +kernel
theorem d3_23 : decode method_4_code 23 = .ok (.if_icmp .le 9, 3) := by decide +kernel
theorem d3_26 : decode method_4_code 26 = .ok (.iload 6, 2) := by decide +kernel
theorem d3_28 : decode method_4_code 28 = .ok (.iload_n 1, 1) := by decide +kernel
theorem d3_29 : decode method_4_code 29 = .ok (.if_icmp .eq 14, 3) := by decide +kernel
theorem d3_32 : decode method_4_code 32 = .ok (.iload_n 3, 1) := by decide +kernel
theorem d3_33 : decode method_4_code 33 = .ok (.iconst 3, 1) := by decide +kernel
theorem d3_34 : decode method_4_code 34 = .ok (.if_icmp .le 13, 3) := by decide +kernel
theorem d3_37 : decode method_4_code 37 = .ok (.iload 7, 2) := by decide +kernel
theorem d3_39 : decode method_4_code 39 = .ok (.iload_n 1, 1) := by decide +kernel
theorem d3_40 : decode method_4_code 40 = .ok (.if_icmp .ne 7, 3) := by decide +kernel
theorem d3_43 : decode method_4_code 43 = .ok (.iconst 1, 1) := by decide +kernel
theorem d3_44 : decode method_4_code 44 = .ok (.goto 4, 3) := by decide +kernel
theorem d3_47 : decode method_4_code 47 = .ok (.iconst 0, 1) := by decide +kernel
theorem d3_48 : decode method_4_code 48 = .ok (.istore 9, 2) := by decide +kernel
theorem d3_50 : decode method_4_code 50 = .ok (.iload 9, 2) := by decide +kernel
theorem d3_52 : decode method_4_code 52 = .ok (.ifCond .eq 8, 3) := by decide +kernel
theorem d3_55 : decode method_4_code 55 = .ok (.iload 8, 2) := by decide +kernel
theorem d3_57 : decode method_4_code 57 = .ok (.goto 16, 3) := by decide +kernel
theorem d3_60 : decode method_4_code 60 = .ok (.iload_n 2, 1) := by decide +kernel
theorem d3_61 : decode method_4_code 61 = .ok (.iload_n 1, 1) := by decide +kernel
theorem d3_62 : decode method_4_code 62 = .ok (.iushr, 1) := by decide +kernel
theorem d3_63 : decode method_4_code 63 = .ok (.iconst 1, 1) := by decide +kernel
theorem d3_64 : decode method_4_code 64 = .ok (.iand, 1) := by decide +kernel
theorem d3_65 : decode method_4_code 65 = .ok (.ifCond .eq 7, 3) := by decide +kernel
theorem d3_68 : decode method_4_code 68 = .ok (.iconst 1, 1) := by decide +kernel
theorem d3_69 : decode method_4_code 69 = .ok (.goto 4, 3) := by decide +kernel
theorem d3_72 : decode method_4_code 72 = .ok (.iconst 0, 1) := by decide +kernel
theorem d3_73 : decode method_4_code 73 = .ok (.istore 10, 2) := by decide +kernel
theorem d3_75 : decode method_4_code 75 = .ok (.aload_n 0, 1) := by decide +kernel
theorem d3_76 : decode method_4_code 76 = .ok (.iload_n 1, 1) := by decide +kernel
theorem d3_77 : decode method_4_code 77 = .ok (.baload, 1) := by decide +kernel
theorem d3_78 : decode method_4_code 78 = .ok (.iload 10, 2) := by decide +kernel
theorem d3_80 : decode method_4_code 80 = .ok (.if_icmp .ne 7, 3) := by decide +kernel
theorem d3_83 : decode method_4_code 83 = .ok (.iconst 1, 1) := by decide +kernel
theorem d3_84 : decode method_4_code 84 = .ok (.goto 4, 3) := by decide +kernel
theorem d3_87 : decode method_4_code 87 = .ok (.iconst 0, 1) := by decide +kernel
theorem d3_88 : decode method_4_code 88 = .ok (.ireturn, 1) := by decide +kernel
theorem pn_3 : plainName "pushwise/BoxesPlacePinLaw" = true := by first | (simp [plainName, overriddenIn]; done) | decide +kernel
theorem ef_rmAt (m : MethodId) (mk : Addr) (i : Int32) (init : Int32) (n : Int32) (s0 : Int32) (s1 : Int32) (s2 : Int32) (s3 : Int32) (pr : Int32) : entryFrame m #[(.ref mk), (.int i), (.int init), (.int n), (.int s0), (.int s1), (.int s2), (.int s3), (.int pr)] 11 = mkF m 0 #[.val (.ref mk), .val (.int i), .val (.int init), .val (.int n), .val (.int s0), .val (.int s1), .val (.int s2), .val (.int s3), .val (.int pr), .unset, .unset] [] := by first | (simp [entryFrame, mkF, argsToLocals, Value.category]; done) | rfl
set_option maxRecDepth 65536 in
set_option maxHeartbeats 40000000 in
theorem rmAt (l : Launch) (Z : State) (a0 : Array Value) (hw : ∀ d ∈ tables_1, d.before a0 Z = true) (ws : List Jvm.Cond) (mk : Addr) (i : Int32) (init : Int32) (n : Int32) (s0 : Int32) (s1 : Int32) (s2 : Int32) (s3 : Int32) (pr : Int32) (cm : ClassId) (vs : List Value) (x : Int32) (h0 : Heap) (n0 : Nat) (Vm : Arv Z h0 mk cm .boolean (8 : Int32) vs (.int (0 : Int32))) (h1 : ¬ i < 0) (h2 : i < (8 : Int32)) (hg : vs.getD i.toNatClampNeg (.int (0 : Int32)) = .int x) :
    MetFree l (⟨"pushwise/BoxesPlacePinLaw", "at", "([ZIIIIIIIZ)Z"⟩ : MethodName) (head1 (Jvm.Cond.code (⟨"pushwise/BoxesPlacePinLaw", "at", "([ZIIIIIIIZ)Z"⟩ : MethodName) method_4_code 11 (some .boolean) :: ws) ({ frames := 0, cells := 0, slots := 0, locals := 0 } : Room)) (fun a_ U_ => a_ = #[(.ref mk), (.int i), (.int init), (.int n), (.int s0), (.int s1), (.int s2), (.int s3), (.int pr)] ∧ Z.Warmed39 U_.vm ∧ U_.heap = h0) (fun _ _ _ _ _ => True) (fun _ U_ o_ U'_ => ∃ v_ L_, o_ = .returned v_ ∧ QV (.int (if x = (if (if (0 : Int32) < n then (if s0 = i then (1 : Int32) else (if (1 : Int32) < n then (if s1 = i then (1 : Int32) else (if (2 : Int32) < n then (if s2 = i then (1 : Int32) else (if (3 : Int32) < n then (if s3 = i then (1 : Int32) else (0 : Int32)) else (0 : Int32))) else (if (3 : Int32) < n then (if s3 = i then (1 : Int32) else (0 : Int32)) else (0 : Int32)))) else (if (2 : Int32) < n then (if s2 = i then (1 : Int32) else (if (3 : Int32) < n then (if s3 = i then (1 : Int32) else (0 : Int32)) else (0 : Int32))) else (if (3 : Int32) < n then (if s3 = i then (1 : Int32) else (0 : Int32)) else (0 : Int32))))) else (if (1 : Int32) < n then (if s1 = i then (1 : Int32) else (if (2 : Int32) < n then (if s2 = i then (1 : Int32) else (if (3 : Int32) < n then (if s3 = i then (1 : Int32) else (0 : Int32)) else (0 : Int32))) else (if (3 : Int32) < n then (if s3 = i then (1 : Int32) else (0 : Int32)) else (0 : Int32)))) else (if (2 : Int32) < n then (if s2 = i then (1 : Int32) else (if (3 : Int32) < n then (if s3 = i then (1 : Int32) else (0 : Int32)) else (0 : Int32))) else (if (3 : Int32) < n then (if s3 = i then (1 : Int32) else (0 : Int32)) else (0 : Int32))))) = (0 : Int32) then (if (((init.toUInt32 >>> (i &&& 31).toUInt32).toInt32) &&& (1 : Int32)) = (0 : Int32) then (0 : Int32) else (1 : Int32)) else pr) then (1 : Int32) else (0 : Int32))) h0 n0 v_ U'_.heap L_ ∧ FrameEnd U_ o_ U'_ L_ ({ frames := 0, cells := 0, slots := 0, locals := 0 } : Room).cells ({ frames := 0, cells := 0, slots := 0, locals := 0 } : Room).slots) := by
  refine MetFree.of_bodySF (plainFor_of_name pn_3) hisR ?_
  intro p e s m args below meth c s₁ Bd hml0 hP hK
  obtain ⟨rfl, hZ, hh⟩ := hP
  have hx := Bd.exec
  have hby := Bd.bytes
  have hml : c.maxLocals = 11 := hml0
  have hown : s.vm.findClass "pushwise/BoxesPlacePinLaw" = some m.cls := findClass_of_methodNamed Bd.named
  have hnm := (name_of_methodNamed Bd.named Bd.method).1
  have X0 : Stand p l e ({ frames := 0, cells := 0, slots := 0, locals := 0 } : Room) s m #[(.ref mk), (.int i), (.int init), (.int n), (.int s0), (.int s1), (.int s2), (.int s3), (.int pr)] below meth c s₁ [] 0 0 := Stand.of_body Bd
  have e0 : s₁.heap = h0 := by rw [← hh, Bd.state]; rfl
  have N0 := Fr.nil n0
  have k0 : ∀ tg, Steps p.tables e below (s₁.setTop (mkF m 0 #[.val (.ref mk), .val (.int i), .val (.int init), .val (.int n), .val (.int s0), .val (.int s1), .val (.int s2), .val (.int s3), .val (.int pr), .unset, .unset] [])) tg → Steps p.tables e below (s₁.setTop (entryFrame m #[(.ref mk), (.int i), (.int init), (.int n), (.int s0), (.int s1), (.int s2), (.int s3), (.int pr)] 11)) tg := fun tg kq_ => castTop (ef_rmAt m mk i init n s0 s1 s2 s3 pr) kq_
  have k1 : ∀ tg, Steps p.tables e below (s₁.setTop (mkF m 1 #[.val (.ref mk), .val (.int i), .val (.int init), .val (.int n), .val (.int s0), .val (.int s1), .val (.int s2), .val (.int s3), .val (.int pr), .unset, .unset] [(.int n)])) tg → Steps p.tables e below (s₁.setTop (entryFrame m #[(.ref mk), (.int i), (.int init), (.int n), (.int s0), (.int s1), (.int s2), (.int s3), (.int pr)] 11)) tg := by
    intro tg kt
    refine k0 tg ?_
    show Steps p.tables e below (s₁.setTop (mkF m 0 #[.val (.ref mk), .val (.int i), .val (.int init), .val (.int n), .val (.int s0), .val (.int s1), .val (.int s2), .val (.int s3), .val (.int pr), .unset, .unset] [])) _
    refine XS.iloadN X0.here hx rfl (hb hby d3_0) rfl ?_
    show Steps p.tables e below (s₁.setTop (mkF m 1 #[.val (.ref mk), .val (.int i), .val (.int init), .val (.int n), .val (.int s0), .val (.int s1), .val (.int s2), .val (.int s3), .val (.int pr), .unset, .unset] [(.int n)])) _
    exact kt
  have k63 : ∀ tg, Steps p.tables e below (s₁.setTop (mkF m 48 #[.val (.ref mk), .val (.int i), .val (.int init), .val (.int n), .val (.int s0), .val (.int s1), .val (.int s2), .val (.int s3), .val (.int pr), .unset, .unset] [(.int (if (0 : Int32) < n then (if s0 = i then (1 : Int32) else (if (1 : Int32) < n then (if s1 = i then (1 : Int32) else (if (2 : Int32) < n then (if s2 = i then (1 : Int32) else (if (3 : Int32) < n then (if s3 = i then (1 : Int32) else (0 : Int32)) else (0 : Int32))) else (if (3 : Int32) < n then (if s3 = i then (1 : Int32) else (0 : Int32)) else (0 : Int32)))) else (if (2 : Int32) < n then (if s2 = i then (1 : Int32) else (if (3 : Int32) < n then (if s3 = i then (1 : Int32) else (0 : Int32)) else (0 : Int32))) else (if (3 : Int32) < n then (if s3 = i then (1 : Int32) else (0 : Int32)) else (0 : Int32))))) else (if (1 : Int32) < n then (if s1 = i then (1 : Int32) else (if (2 : Int32) < n then (if s2 = i then (1 : Int32) else (if (3 : Int32) < n then (if s3 = i then (1 : Int32) else (0 : Int32)) else (0 : Int32))) else (if (3 : Int32) < n then (if s3 = i then (1 : Int32) else (0 : Int32)) else (0 : Int32)))) else (if (2 : Int32) < n then (if s2 = i then (1 : Int32) else (if (3 : Int32) < n then (if s3 = i then (1 : Int32) else (0 : Int32)) else (0 : Int32))) else (if (3 : Int32) < n then (if s3 = i then (1 : Int32) else (0 : Int32)) else (0 : Int32))))))])) tg → Steps p.tables e below (s₁.setTop (entryFrame m #[(.ref mk), (.int i), (.int init), (.int n), (.int s0), (.int s1), (.int s2), (.int s3), (.int pr)] 11)) tg := by
    intro tg kt
    refine k1 tg ?_
    show Steps p.tables e below (s₁.setTop (mkF m 1 #[.val (.ref mk), .val (.int i), .val (.int init), .val (.int n), .val (.int s0), .val (.int s1), .val (.int s2), .val (.int s3), .val (.int pr), .unset, .unset] [(.int n)])) _
    by_cases hc2 : (0 : Int32) < n
    · refine XS.ifNo X0.here hx rfl (hb hby d3_1) rfl ((if0 _ _).trans (tlt hc2).2.2.2) ?_
      show Steps p.tables e below (s₁.setTop (mkF m 4 #[.val (.ref mk), .val (.int i), .val (.int init), .val (.int n), .val (.int s0), .val (.int s1), .val (.int s2), .val (.int s3), .val (.int pr), .unset, .unset] [])) _
      refine XS.iload X0.here hx rfl (hb hby d3_4) rfl ?_
      show Steps p.tables e below (s₁.setTop (mkF m 6 #[.val (.ref mk), .val (.int i), .val (.int init), .val (.int n), .val (.int s0), .val (.int s1), .val (.int s2), .val (.int s3), .val (.int pr), .unset, .unset] [(.int s0)])) _
      refine XS.iloadN X0.here hx rfl (hb hby d3_6) rfl ?_
      show Steps p.tables e below (s₁.setTop (mkF m 7 #[.val (.ref mk), .val (.int i), .val (.int init), .val (.int n), .val (.int s0), .val (.int s1), .val (.int s2), .val (.int s3), .val (.int pr), .unset, .unset] [(.int i), (.int s0)])) _
      by_cases hc3 : s0 = i
      · refine XS.icmpYes X0.here hx rfl (pc0 := 7) (pc' := 43) rfl (hb hby d3_7) rfl (teq hc3).1 (by decide) (by decide) ?_
        show Steps p.tables e below (s₁.setTop (mkF m 43 #[.val (.ref mk), .val (.int i), .val (.int init), .val (.int n), .val (.int s0), .val (.int s1), .val (.int s2), .val (.int s3), .val (.int pr), .unset, .unset] [])) _
        refine XS.iconst X0.here hx rfl (hb hby d3_43) ?_
        show Steps p.tables e below (s₁.setTop (mkF m 44 #[.val (.ref mk), .val (.int i), .val (.int init), .val (.int n), .val (.int s0), .val (.int s1), .val (.int s2), .val (.int s3), .val (.int pr), .unset, .unset] [(.int (1 : Int32))])) _
        refine XS.goto X0.here hx rfl (pc0 := 44) (pc' := 48) rfl (hb hby d3_44) (by decide) (by decide) ?_
        show Steps p.tables e below (s₁.setTop (mkF m 48 #[.val (.ref mk), .val (.int i), .val (.int init), .val (.int n), .val (.int s0), .val (.int s1), .val (.int s2), .val (.int s3), .val (.int pr), .unset, .unset] [(.int (1 : Int32))])) _
        repeat rw [if_pos hc2] at kt
        repeat rw [if_pos hc3] at kt
        exact kt
      · refine XS.icmpNo X0.here hx rfl (hb hby d3_7) rfl (feq hc3).1 ?_
        show Steps p.tables e below (s₁.setTop (mkF m 10 #[.val (.ref mk), .val (.int i), .val (.int init), .val (.int n), .val (.int s0), .val (.int s1), .val (.int s2), .val (.int s3), .val (.int pr), .unset, .unset] [])) _
        refine XS.iloadN X0.here hx rfl (hb hby d3_10) rfl ?_
        show Steps p.tables e below (s₁.setTop (mkF m 11 #[.val (.ref mk), .val (.int i), .val (.int init), .val (.int n), .val (.int s0), .val (.int s1), .val (.int s2), .val (.int s3), .val (.int pr), .unset, .unset] [(.int n)])) _
        refine XS.iconst X0.here hx rfl (hb hby d3_11) ?_
        show Steps p.tables e below (s₁.setTop (mkF m 12 #[.val (.ref mk), .val (.int i), .val (.int init), .val (.int n), .val (.int s0), .val (.int s1), .val (.int s2), .val (.int s3), .val (.int pr), .unset, .unset] [(.int (1 : Int32)), (.int n)])) _
        by_cases hc5 : (1 : Int32) < n
        · refine XS.icmpNo X0.here hx rfl (hb hby d3_12) rfl (tlt hc5).2.2.2 ?_
          show Steps p.tables e below (s₁.setTop (mkF m 15 #[.val (.ref mk), .val (.int i), .val (.int init), .val (.int n), .val (.int s0), .val (.int s1), .val (.int s2), .val (.int s3), .val (.int pr), .unset, .unset] [])) _
          refine XS.iload X0.here hx rfl (hb hby d3_15) rfl ?_
          show Steps p.tables e below (s₁.setTop (mkF m 17 #[.val (.ref mk), .val (.int i), .val (.int init), .val (.int n), .val (.int s0), .val (.int s1), .val (.int s2), .val (.int s3), .val (.int pr), .unset, .unset] [(.int s1)])) _
          refine XS.iloadN X0.here hx rfl (hb hby d3_17) rfl ?_
          show Steps p.tables e below (s₁.setTop (mkF m 18 #[.val (.ref mk), .val (.int i), .val (.int init), .val (.int n), .val (.int s0), .val (.int s1), .val (.int s2), .val (.int s3), .val (.int pr), .unset, .unset] [(.int i), (.int s1)])) _
          by_cases hc6 : s1 = i
          · refine XS.icmpYes X0.here hx rfl (pc0 := 18) (pc' := 43) rfl (hb hby d3_18) rfl (teq hc6).1 (by decide) (by decide) ?_
            show Steps p.tables e below (s₁.setTop (mkF m 43 #[.val (.ref mk), .val (.int i), .val (.int init), .val (.int n), .val (.int s0), .val (.int s1), .val (.int s2), .val (.int s3), .val (.int pr), .unset, .unset] [])) _
            refine XS.iconst X0.here hx rfl (hb hby d3_43) ?_
            show Steps p.tables e below (s₁.setTop (mkF m 44 #[.val (.ref mk), .val (.int i), .val (.int init), .val (.int n), .val (.int s0), .val (.int s1), .val (.int s2), .val (.int s3), .val (.int pr), .unset, .unset] [(.int (1 : Int32))])) _
            refine XS.goto X0.here hx rfl (pc0 := 44) (pc' := 48) rfl (hb hby d3_44) (by decide) (by decide) ?_
            show Steps p.tables e below (s₁.setTop (mkF m 48 #[.val (.ref mk), .val (.int i), .val (.int init), .val (.int n), .val (.int s0), .val (.int s1), .val (.int s2), .val (.int s3), .val (.int pr), .unset, .unset] [(.int (1 : Int32))])) _
            repeat rw [if_pos hc2] at kt
            repeat rw [if_neg hc3] at kt
            repeat rw [if_pos hc5] at kt
            repeat rw [if_pos hc6] at kt
            exact kt
          · refine XS.icmpNo X0.here hx rfl (hb hby d3_18) rfl (feq hc6).1 ?_
            show Steps p.tables e below (s₁.setTop (mkF m 21 #[.val (.ref mk), .val (.int i), .val (.int init), .val (.int n), .val (.int s0), .val (.int s1), .val (.int s2), .val (.int s3), .val (.int pr), .unset, .unset] [])) _
            refine XS.iloadN X0.here hx rfl (hb hby d3_21) rfl ?_
            show Steps p.tables e below (s₁.setTop (mkF m 22 #[.val (.ref mk), .val (.int i), .val (.int init), .val (.int n), .val (.int s0), .val (.int s1), .val (.int s2), .val (.int s3), .val (.int pr), .unset, .unset] [(.int n)])) _
            refine XS.iconst X0.here hx rfl (hb hby d3_22) ?_
            show Steps p.tables e below (s₁.setTop (mkF m 23 #[.val (.ref mk), .val (.int i), .val (.int init), .val (.int n), .val (.int s0), .val (.int s1), .val (.int s2), .val (.int s3), .val (.int pr), .unset, .unset] [(.int (2 : Int32)), (.int n)])) _
            by_cases hc8 : (2 : Int32) < n
            · refine XS.icmpNo X0.here hx rfl (hb hby d3_23) rfl (tlt hc8).2.2.2 ?_
              show Steps p.tables e below (s₁.setTop (mkF m 26 #[.val (.ref mk), .val (.int i), .val (.int init), .val (.int n), .val (.int s0), .val (.int s1), .val (.int s2), .val (.int s3), .val (.int pr), .unset, .unset] [])) _
              refine XS.iload X0.here hx rfl (hb hby d3_26) rfl ?_
              show Steps p.tables e below (s₁.setTop (mkF m 28 #[.val (.ref mk), .val (.int i), .val (.int init), .val (.int n), .val (.int s0), .val (.int s1), .val (.int s2), .val (.int s3), .val (.int pr), .unset, .unset] [(.int s2)])) _
              refine XS.iloadN X0.here hx rfl (hb hby d3_28) rfl ?_
              show Steps p.tables e below (s₁.setTop (mkF m 29 #[.val (.ref mk), .val (.int i), .val (.int init), .val (.int n), .val (.int s0), .val (.int s1), .val (.int s2), .val (.int s3), .val (.int pr), .unset, .unset] [(.int i), (.int s2)])) _
              by_cases hc9 : s2 = i
              · refine XS.icmpYes X0.here hx rfl (pc0 := 29) (pc' := 43) rfl (hb hby d3_29) rfl (teq hc9).1 (by decide) (by decide) ?_
                show Steps p.tables e below (s₁.setTop (mkF m 43 #[.val (.ref mk), .val (.int i), .val (.int init), .val (.int n), .val (.int s0), .val (.int s1), .val (.int s2), .val (.int s3), .val (.int pr), .unset, .unset] [])) _
                refine XS.iconst X0.here hx rfl (hb hby d3_43) ?_
                show Steps p.tables e below (s₁.setTop (mkF m 44 #[.val (.ref mk), .val (.int i), .val (.int init), .val (.int n), .val (.int s0), .val (.int s1), .val (.int s2), .val (.int s3), .val (.int pr), .unset, .unset] [(.int (1 : Int32))])) _
                refine XS.goto X0.here hx rfl (pc0 := 44) (pc' := 48) rfl (hb hby d3_44) (by decide) (by decide) ?_
                show Steps p.tables e below (s₁.setTop (mkF m 48 #[.val (.ref mk), .val (.int i), .val (.int init), .val (.int n), .val (.int s0), .val (.int s1), .val (.int s2), .val (.int s3), .val (.int pr), .unset, .unset] [(.int (1 : Int32))])) _
                repeat rw [if_pos hc2] at kt
                repeat rw [if_neg hc3] at kt
                repeat rw [if_pos hc5] at kt
                repeat rw [if_neg hc6] at kt
                repeat rw [if_pos hc8] at kt
                repeat rw [if_pos hc9] at kt
                exact kt
              · refine XS.icmpNo X0.here hx rfl (hb hby d3_29) rfl (feq hc9).1 ?_
                show Steps p.tables e below (s₁.setTop (mkF m 32 #[.val (.ref mk), .val (.int i), .val (.int init), .val (.int n), .val (.int s0), .val (.int s1), .val (.int s2), .val (.int s3), .val (.int pr), .unset, .unset] [])) _
                refine XS.iloadN X0.here hx rfl (hb hby d3_32) rfl ?_
                show Steps p.tables e below (s₁.setTop (mkF m 33 #[.val (.ref mk), .val (.int i), .val (.int init), .val (.int n), .val (.int s0), .val (.int s1), .val (.int s2), .val (.int s3), .val (.int pr), .unset, .unset] [(.int n)])) _
                refine XS.iconst X0.here hx rfl (hb hby d3_33) ?_
                show Steps p.tables e below (s₁.setTop (mkF m 34 #[.val (.ref mk), .val (.int i), .val (.int init), .val (.int n), .val (.int s0), .val (.int s1), .val (.int s2), .val (.int s3), .val (.int pr), .unset, .unset] [(.int (3 : Int32)), (.int n)])) _
                by_cases hc11 : (3 : Int32) < n
                · refine XS.icmpNo X0.here hx rfl (hb hby d3_34) rfl (tlt hc11).2.2.2 ?_
                  show Steps p.tables e below (s₁.setTop (mkF m 37 #[.val (.ref mk), .val (.int i), .val (.int init), .val (.int n), .val (.int s0), .val (.int s1), .val (.int s2), .val (.int s3), .val (.int pr), .unset, .unset] [])) _
                  refine XS.iload X0.here hx rfl (hb hby d3_37) rfl ?_
                  show Steps p.tables e below (s₁.setTop (mkF m 39 #[.val (.ref mk), .val (.int i), .val (.int init), .val (.int n), .val (.int s0), .val (.int s1), .val (.int s2), .val (.int s3), .val (.int pr), .unset, .unset] [(.int s3)])) _
                  refine XS.iloadN X0.here hx rfl (hb hby d3_39) rfl ?_
                  show Steps p.tables e below (s₁.setTop (mkF m 40 #[.val (.ref mk), .val (.int i), .val (.int init), .val (.int n), .val (.int s0), .val (.int s1), .val (.int s2), .val (.int s3), .val (.int pr), .unset, .unset] [(.int i), (.int s3)])) _
                  by_cases hc12 : s3 = i
                  · refine XS.icmpNo X0.here hx rfl (hb hby d3_40) rfl (teq hc12).2 ?_
                    show Steps p.tables e below (s₁.setTop (mkF m 43 #[.val (.ref mk), .val (.int i), .val (.int init), .val (.int n), .val (.int s0), .val (.int s1), .val (.int s2), .val (.int s3), .val (.int pr), .unset, .unset] [])) _
                    refine XS.iconst X0.here hx rfl (hb hby d3_43) ?_
                    show Steps p.tables e below (s₁.setTop (mkF m 44 #[.val (.ref mk), .val (.int i), .val (.int init), .val (.int n), .val (.int s0), .val (.int s1), .val (.int s2), .val (.int s3), .val (.int pr), .unset, .unset] [(.int (1 : Int32))])) _
                    refine XS.goto X0.here hx rfl (pc0 := 44) (pc' := 48) rfl (hb hby d3_44) (by decide) (by decide) ?_
                    show Steps p.tables e below (s₁.setTop (mkF m 48 #[.val (.ref mk), .val (.int i), .val (.int init), .val (.int n), .val (.int s0), .val (.int s1), .val (.int s2), .val (.int s3), .val (.int pr), .unset, .unset] [(.int (1 : Int32))])) _
                    repeat rw [if_pos hc2] at kt
                    repeat rw [if_neg hc3] at kt
                    repeat rw [if_pos hc5] at kt
                    repeat rw [if_neg hc6] at kt
                    repeat rw [if_pos hc8] at kt
                    repeat rw [if_neg hc9] at kt
                    repeat rw [if_pos hc11] at kt
                    repeat rw [if_pos hc12] at kt
                    exact kt
                  · refine XS.icmpYes X0.here hx rfl (pc0 := 40) (pc' := 47) rfl (hb hby d3_40) rfl (feq hc12).2 (by decide) (by decide) ?_
                    show Steps p.tables e below (s₁.setTop (mkF m 47 #[.val (.ref mk), .val (.int i), .val (.int init), .val (.int n), .val (.int s0), .val (.int s1), .val (.int s2), .val (.int s3), .val (.int pr), .unset, .unset] [])) _
                    refine XS.iconst X0.here hx rfl (hb hby d3_47) ?_
                    show Steps p.tables e below (s₁.setTop (mkF m 48 #[.val (.ref mk), .val (.int i), .val (.int init), .val (.int n), .val (.int s0), .val (.int s1), .val (.int s2), .val (.int s3), .val (.int pr), .unset, .unset] [(.int (0 : Int32))])) _
                    repeat rw [if_pos hc2] at kt
                    repeat rw [if_neg hc3] at kt
                    repeat rw [if_pos hc5] at kt
                    repeat rw [if_neg hc6] at kt
                    repeat rw [if_pos hc8] at kt
                    repeat rw [if_neg hc9] at kt
                    repeat rw [if_pos hc11] at kt
                    repeat rw [if_neg hc12] at kt
                    exact kt
                · refine XS.icmpYes X0.here hx rfl (pc0 := 34) (pc' := 47) rfl (hb hby d3_34) rfl (flt hc11).2.2.2 (by decide) (by decide) ?_
                  show Steps p.tables e below (s₁.setTop (mkF m 47 #[.val (.ref mk), .val (.int i), .val (.int init), .val (.int n), .val (.int s0), .val (.int s1), .val (.int s2), .val (.int s3), .val (.int pr), .unset, .unset] [])) _
                  refine XS.iconst X0.here hx rfl (hb hby d3_47) ?_
                  show Steps p.tables e below (s₁.setTop (mkF m 48 #[.val (.ref mk), .val (.int i), .val (.int init), .val (.int n), .val (.int s0), .val (.int s1), .val (.int s2), .val (.int s3), .val (.int pr), .unset, .unset] [(.int (0 : Int32))])) _
                  repeat rw [if_pos hc2] at kt
                  repeat rw [if_neg hc3] at kt
                  repeat rw [if_pos hc5] at kt
                  repeat rw [if_neg hc6] at kt
                  repeat rw [if_pos hc8] at kt
                  repeat rw [if_neg hc9] at kt
                  repeat rw [if_neg hc11] at kt
                  exact kt
            · refine XS.icmpYes X0.here hx rfl (pc0 := 23) (pc' := 32) rfl (hb hby d3_23) rfl (flt hc8).2.2.2 (by decide) (by decide) ?_
              show Steps p.tables e below (s₁.setTop (mkF m 32 #[.val (.ref mk), .val (.int i), .val (.int init), .val (.int n), .val (.int s0), .val (.int s1), .val (.int s2), .val (.int s3), .val (.int pr), .unset, .unset] [])) _
              refine XS.iloadN X0.here hx rfl (hb hby d3_32) rfl ?_
              show Steps p.tables e below (s₁.setTop (mkF m 33 #[.val (.ref mk), .val (.int i), .val (.int init), .val (.int n), .val (.int s0), .val (.int s1), .val (.int s2), .val (.int s3), .val (.int pr), .unset, .unset] [(.int n)])) _
              refine XS.iconst X0.here hx rfl (hb hby d3_33) ?_
              show Steps p.tables e below (s₁.setTop (mkF m 34 #[.val (.ref mk), .val (.int i), .val (.int init), .val (.int n), .val (.int s0), .val (.int s1), .val (.int s2), .val (.int s3), .val (.int pr), .unset, .unset] [(.int (3 : Int32)), (.int n)])) _
              by_cases hc16 : (3 : Int32) < n
              · refine XS.icmpNo X0.here hx rfl (hb hby d3_34) rfl (tlt hc16).2.2.2 ?_
                show Steps p.tables e below (s₁.setTop (mkF m 37 #[.val (.ref mk), .val (.int i), .val (.int init), .val (.int n), .val (.int s0), .val (.int s1), .val (.int s2), .val (.int s3), .val (.int pr), .unset, .unset] [])) _
                refine XS.iload X0.here hx rfl (hb hby d3_37) rfl ?_
                show Steps p.tables e below (s₁.setTop (mkF m 39 #[.val (.ref mk), .val (.int i), .val (.int init), .val (.int n), .val (.int s0), .val (.int s1), .val (.int s2), .val (.int s3), .val (.int pr), .unset, .unset] [(.int s3)])) _
                refine XS.iloadN X0.here hx rfl (hb hby d3_39) rfl ?_
                show Steps p.tables e below (s₁.setTop (mkF m 40 #[.val (.ref mk), .val (.int i), .val (.int init), .val (.int n), .val (.int s0), .val (.int s1), .val (.int s2), .val (.int s3), .val (.int pr), .unset, .unset] [(.int i), (.int s3)])) _
                by_cases hc17 : s3 = i
                · refine XS.icmpNo X0.here hx rfl (hb hby d3_40) rfl (teq hc17).2 ?_
                  show Steps p.tables e below (s₁.setTop (mkF m 43 #[.val (.ref mk), .val (.int i), .val (.int init), .val (.int n), .val (.int s0), .val (.int s1), .val (.int s2), .val (.int s3), .val (.int pr), .unset, .unset] [])) _
                  refine XS.iconst X0.here hx rfl (hb hby d3_43) ?_
                  show Steps p.tables e below (s₁.setTop (mkF m 44 #[.val (.ref mk), .val (.int i), .val (.int init), .val (.int n), .val (.int s0), .val (.int s1), .val (.int s2), .val (.int s3), .val (.int pr), .unset, .unset] [(.int (1 : Int32))])) _
                  refine XS.goto X0.here hx rfl (pc0 := 44) (pc' := 48) rfl (hb hby d3_44) (by decide) (by decide) ?_
                  show Steps p.tables e below (s₁.setTop (mkF m 48 #[.val (.ref mk), .val (.int i), .val (.int init), .val (.int n), .val (.int s0), .val (.int s1), .val (.int s2), .val (.int s3), .val (.int pr), .unset, .unset] [(.int (1 : Int32))])) _
                  repeat rw [if_pos hc2] at kt
                  repeat rw [if_neg hc3] at kt
                  repeat rw [if_pos hc5] at kt
                  repeat rw [if_neg hc6] at kt
                  repeat rw [if_neg hc8] at kt
                  repeat rw [if_pos hc16] at kt
                  repeat rw [if_pos hc17] at kt
                  exact kt
                · refine XS.icmpYes X0.here hx rfl (pc0 := 40) (pc' := 47) rfl (hb hby d3_40) rfl (feq hc17).2 (by decide) (by decide) ?_
                  show Steps p.tables e below (s₁.setTop (mkF m 47 #[.val (.ref mk), .val (.int i), .val (.int init), .val (.int n), .val (.int s0), .val (.int s1), .val (.int s2), .val (.int s3), .val (.int pr), .unset, .unset] [])) _
                  refine XS.iconst X0.here hx rfl (hb hby d3_47) ?_
                  show Steps p.tables e below (s₁.setTop (mkF m 48 #[.val (.ref mk), .val (.int i), .val (.int init), .val (.int n), .val (.int s0), .val (.int s1), .val (.int s2), .val (.int s3), .val (.int pr), .unset, .unset] [(.int (0 : Int32))])) _
                  repeat rw [if_pos hc2] at kt
                  repeat rw [if_neg hc3] at kt
                  repeat rw [if_pos hc5] at kt
                  repeat rw [if_neg hc6] at kt
                  repeat rw [if_neg hc8] at kt
                  repeat rw [if_pos hc16] at kt
                  repeat rw [if_neg hc17] at kt
                  exact kt
              · refine XS.icmpYes X0.here hx rfl (pc0 := 34) (pc' := 47) rfl (hb hby d3_34) rfl (flt hc16).2.2.2 (by decide) (by decide) ?_
                show Steps p.tables e below (s₁.setTop (mkF m 47 #[.val (.ref mk), .val (.int i), .val (.int init), .val (.int n), .val (.int s0), .val (.int s1), .val (.int s2), .val (.int s3), .val (.int pr), .unset, .unset] [])) _
                refine XS.iconst X0.here hx rfl (hb hby d3_47) ?_
                show Steps p.tables e below (s₁.setTop (mkF m 48 #[.val (.ref mk), .val (.int i), .val (.int init), .val (.int n), .val (.int s0), .val (.int s1), .val (.int s2), .val (.int s3), .val (.int pr), .unset, .unset] [(.int (0 : Int32))])) _
                repeat rw [if_pos hc2] at kt
                repeat rw [if_neg hc3] at kt
                repeat rw [if_pos hc5] at kt
                repeat rw [if_neg hc6] at kt
                repeat rw [if_neg hc8] at kt
                repeat rw [if_neg hc16] at kt
                exact kt
        · refine XS.icmpYes X0.here hx rfl (pc0 := 12) (pc' := 21) rfl (hb hby d3_12) rfl (flt hc5).2.2.2 (by decide) (by decide) ?_
          show Steps p.tables e below (s₁.setTop (mkF m 21 #[.val (.ref mk), .val (.int i), .val (.int init), .val (.int n), .val (.int s0), .val (.int s1), .val (.int s2), .val (.int s3), .val (.int pr), .unset, .unset] [])) _
          refine XS.iloadN X0.here hx rfl (hb hby d3_21) rfl ?_
          show Steps p.tables e below (s₁.setTop (mkF m 22 #[.val (.ref mk), .val (.int i), .val (.int init), .val (.int n), .val (.int s0), .val (.int s1), .val (.int s2), .val (.int s3), .val (.int pr), .unset, .unset] [(.int n)])) _
          refine XS.iconst X0.here hx rfl (hb hby d3_22) ?_
          show Steps p.tables e below (s₁.setTop (mkF m 23 #[.val (.ref mk), .val (.int i), .val (.int init), .val (.int n), .val (.int s0), .val (.int s1), .val (.int s2), .val (.int s3), .val (.int pr), .unset, .unset] [(.int (2 : Int32)), (.int n)])) _
          by_cases hc21 : (2 : Int32) < n
          · refine XS.icmpNo X0.here hx rfl (hb hby d3_23) rfl (tlt hc21).2.2.2 ?_
            show Steps p.tables e below (s₁.setTop (mkF m 26 #[.val (.ref mk), .val (.int i), .val (.int init), .val (.int n), .val (.int s0), .val (.int s1), .val (.int s2), .val (.int s3), .val (.int pr), .unset, .unset] [])) _
            refine XS.iload X0.here hx rfl (hb hby d3_26) rfl ?_
            show Steps p.tables e below (s₁.setTop (mkF m 28 #[.val (.ref mk), .val (.int i), .val (.int init), .val (.int n), .val (.int s0), .val (.int s1), .val (.int s2), .val (.int s3), .val (.int pr), .unset, .unset] [(.int s2)])) _
            refine XS.iloadN X0.here hx rfl (hb hby d3_28) rfl ?_
            show Steps p.tables e below (s₁.setTop (mkF m 29 #[.val (.ref mk), .val (.int i), .val (.int init), .val (.int n), .val (.int s0), .val (.int s1), .val (.int s2), .val (.int s3), .val (.int pr), .unset, .unset] [(.int i), (.int s2)])) _
            by_cases hc22 : s2 = i
            · refine XS.icmpYes X0.here hx rfl (pc0 := 29) (pc' := 43) rfl (hb hby d3_29) rfl (teq hc22).1 (by decide) (by decide) ?_
              show Steps p.tables e below (s₁.setTop (mkF m 43 #[.val (.ref mk), .val (.int i), .val (.int init), .val (.int n), .val (.int s0), .val (.int s1), .val (.int s2), .val (.int s3), .val (.int pr), .unset, .unset] [])) _
              refine XS.iconst X0.here hx rfl (hb hby d3_43) ?_
              show Steps p.tables e below (s₁.setTop (mkF m 44 #[.val (.ref mk), .val (.int i), .val (.int init), .val (.int n), .val (.int s0), .val (.int s1), .val (.int s2), .val (.int s3), .val (.int pr), .unset, .unset] [(.int (1 : Int32))])) _
              refine XS.goto X0.here hx rfl (pc0 := 44) (pc' := 48) rfl (hb hby d3_44) (by decide) (by decide) ?_
              show Steps p.tables e below (s₁.setTop (mkF m 48 #[.val (.ref mk), .val (.int i), .val (.int init), .val (.int n), .val (.int s0), .val (.int s1), .val (.int s2), .val (.int s3), .val (.int pr), .unset, .unset] [(.int (1 : Int32))])) _
              repeat rw [if_pos hc2] at kt
              repeat rw [if_neg hc3] at kt
              repeat rw [if_neg hc5] at kt
              repeat rw [if_pos hc21] at kt
              repeat rw [if_pos hc22] at kt
              exact kt
            · refine XS.icmpNo X0.here hx rfl (hb hby d3_29) rfl (feq hc22).1 ?_
              show Steps p.tables e below (s₁.setTop (mkF m 32 #[.val (.ref mk), .val (.int i), .val (.int init), .val (.int n), .val (.int s0), .val (.int s1), .val (.int s2), .val (.int s3), .val (.int pr), .unset, .unset] [])) _
              refine XS.iloadN X0.here hx rfl (hb hby d3_32) rfl ?_
              show Steps p.tables e below (s₁.setTop (mkF m 33 #[.val (.ref mk), .val (.int i), .val (.int init), .val (.int n), .val (.int s0), .val (.int s1), .val (.int s2), .val (.int s3), .val (.int pr), .unset, .unset] [(.int n)])) _
              refine XS.iconst X0.here hx rfl (hb hby d3_33) ?_
              show Steps p.tables e below (s₁.setTop (mkF m 34 #[.val (.ref mk), .val (.int i), .val (.int init), .val (.int n), .val (.int s0), .val (.int s1), .val (.int s2), .val (.int s3), .val (.int pr), .unset, .unset] [(.int (3 : Int32)), (.int n)])) _
              by_cases hc24 : (3 : Int32) < n
              · refine XS.icmpNo X0.here hx rfl (hb hby d3_34) rfl (tlt hc24).2.2.2 ?_
                show Steps p.tables e below (s₁.setTop (mkF m 37 #[.val (.ref mk), .val (.int i), .val (.int init), .val (.int n), .val (.int s0), .val (.int s1), .val (.int s2), .val (.int s3), .val (.int pr), .unset, .unset] [])) _
                refine XS.iload X0.here hx rfl (hb hby d3_37) rfl ?_
                show Steps p.tables e below (s₁.setTop (mkF m 39 #[.val (.ref mk), .val (.int i), .val (.int init), .val (.int n), .val (.int s0), .val (.int s1), .val (.int s2), .val (.int s3), .val (.int pr), .unset, .unset] [(.int s3)])) _
                refine XS.iloadN X0.here hx rfl (hb hby d3_39) rfl ?_
                show Steps p.tables e below (s₁.setTop (mkF m 40 #[.val (.ref mk), .val (.int i), .val (.int init), .val (.int n), .val (.int s0), .val (.int s1), .val (.int s2), .val (.int s3), .val (.int pr), .unset, .unset] [(.int i), (.int s3)])) _
                by_cases hc25 : s3 = i
                · refine XS.icmpNo X0.here hx rfl (hb hby d3_40) rfl (teq hc25).2 ?_
                  show Steps p.tables e below (s₁.setTop (mkF m 43 #[.val (.ref mk), .val (.int i), .val (.int init), .val (.int n), .val (.int s0), .val (.int s1), .val (.int s2), .val (.int s3), .val (.int pr), .unset, .unset] [])) _
                  refine XS.iconst X0.here hx rfl (hb hby d3_43) ?_
                  show Steps p.tables e below (s₁.setTop (mkF m 44 #[.val (.ref mk), .val (.int i), .val (.int init), .val (.int n), .val (.int s0), .val (.int s1), .val (.int s2), .val (.int s3), .val (.int pr), .unset, .unset] [(.int (1 : Int32))])) _
                  refine XS.goto X0.here hx rfl (pc0 := 44) (pc' := 48) rfl (hb hby d3_44) (by decide) (by decide) ?_
                  show Steps p.tables e below (s₁.setTop (mkF m 48 #[.val (.ref mk), .val (.int i), .val (.int init), .val (.int n), .val (.int s0), .val (.int s1), .val (.int s2), .val (.int s3), .val (.int pr), .unset, .unset] [(.int (1 : Int32))])) _
                  repeat rw [if_pos hc2] at kt
                  repeat rw [if_neg hc3] at kt
                  repeat rw [if_neg hc5] at kt
                  repeat rw [if_pos hc21] at kt
                  repeat rw [if_neg hc22] at kt
                  repeat rw [if_pos hc24] at kt
                  repeat rw [if_pos hc25] at kt
                  exact kt
                · refine XS.icmpYes X0.here hx rfl (pc0 := 40) (pc' := 47) rfl (hb hby d3_40) rfl (feq hc25).2 (by decide) (by decide) ?_
                  show Steps p.tables e below (s₁.setTop (mkF m 47 #[.val (.ref mk), .val (.int i), .val (.int init), .val (.int n), .val (.int s0), .val (.int s1), .val (.int s2), .val (.int s3), .val (.int pr), .unset, .unset] [])) _
                  refine XS.iconst X0.here hx rfl (hb hby d3_47) ?_
                  show Steps p.tables e below (s₁.setTop (mkF m 48 #[.val (.ref mk), .val (.int i), .val (.int init), .val (.int n), .val (.int s0), .val (.int s1), .val (.int s2), .val (.int s3), .val (.int pr), .unset, .unset] [(.int (0 : Int32))])) _
                  repeat rw [if_pos hc2] at kt
                  repeat rw [if_neg hc3] at kt
                  repeat rw [if_neg hc5] at kt
                  repeat rw [if_pos hc21] at kt
                  repeat rw [if_neg hc22] at kt
                  repeat rw [if_pos hc24] at kt
                  repeat rw [if_neg hc25] at kt
                  exact kt
              · refine XS.icmpYes X0.here hx rfl (pc0 := 34) (pc' := 47) rfl (hb hby d3_34) rfl (flt hc24).2.2.2 (by decide) (by decide) ?_
                show Steps p.tables e below (s₁.setTop (mkF m 47 #[.val (.ref mk), .val (.int i), .val (.int init), .val (.int n), .val (.int s0), .val (.int s1), .val (.int s2), .val (.int s3), .val (.int pr), .unset, .unset] [])) _
                refine XS.iconst X0.here hx rfl (hb hby d3_47) ?_
                show Steps p.tables e below (s₁.setTop (mkF m 48 #[.val (.ref mk), .val (.int i), .val (.int init), .val (.int n), .val (.int s0), .val (.int s1), .val (.int s2), .val (.int s3), .val (.int pr), .unset, .unset] [(.int (0 : Int32))])) _
                repeat rw [if_pos hc2] at kt
                repeat rw [if_neg hc3] at kt
                repeat rw [if_neg hc5] at kt
                repeat rw [if_pos hc21] at kt
                repeat rw [if_neg hc22] at kt
                repeat rw [if_neg hc24] at kt
                exact kt
          · refine XS.icmpYes X0.here hx rfl (pc0 := 23) (pc' := 32) rfl (hb hby d3_23) rfl (flt hc21).2.2.2 (by decide) (by decide) ?_
            show Steps p.tables e below (s₁.setTop (mkF m 32 #[.val (.ref mk), .val (.int i), .val (.int init), .val (.int n), .val (.int s0), .val (.int s1), .val (.int s2), .val (.int s3), .val (.int pr), .unset, .unset] [])) _
            refine XS.iloadN X0.here hx rfl (hb hby d3_32) rfl ?_
            show Steps p.tables e below (s₁.setTop (mkF m 33 #[.val (.ref mk), .val (.int i), .val (.int init), .val (.int n), .val (.int s0), .val (.int s1), .val (.int s2), .val (.int s3), .val (.int pr), .unset, .unset] [(.int n)])) _
            refine XS.iconst X0.here hx rfl (hb hby d3_33) ?_
            show Steps p.tables e below (s₁.setTop (mkF m 34 #[.val (.ref mk), .val (.int i), .val (.int init), .val (.int n), .val (.int s0), .val (.int s1), .val (.int s2), .val (.int s3), .val (.int pr), .unset, .unset] [(.int (3 : Int32)), (.int n)])) _
            by_cases hc29 : (3 : Int32) < n
            · refine XS.icmpNo X0.here hx rfl (hb hby d3_34) rfl (tlt hc29).2.2.2 ?_
              show Steps p.tables e below (s₁.setTop (mkF m 37 #[.val (.ref mk), .val (.int i), .val (.int init), .val (.int n), .val (.int s0), .val (.int s1), .val (.int s2), .val (.int s3), .val (.int pr), .unset, .unset] [])) _
              refine XS.iload X0.here hx rfl (hb hby d3_37) rfl ?_
              show Steps p.tables e below (s₁.setTop (mkF m 39 #[.val (.ref mk), .val (.int i), .val (.int init), .val (.int n), .val (.int s0), .val (.int s1), .val (.int s2), .val (.int s3), .val (.int pr), .unset, .unset] [(.int s3)])) _
              refine XS.iloadN X0.here hx rfl (hb hby d3_39) rfl ?_
              show Steps p.tables e below (s₁.setTop (mkF m 40 #[.val (.ref mk), .val (.int i), .val (.int init), .val (.int n), .val (.int s0), .val (.int s1), .val (.int s2), .val (.int s3), .val (.int pr), .unset, .unset] [(.int i), (.int s3)])) _
              by_cases hc30 : s3 = i
              · refine XS.icmpNo X0.here hx rfl (hb hby d3_40) rfl (teq hc30).2 ?_
                show Steps p.tables e below (s₁.setTop (mkF m 43 #[.val (.ref mk), .val (.int i), .val (.int init), .val (.int n), .val (.int s0), .val (.int s1), .val (.int s2), .val (.int s3), .val (.int pr), .unset, .unset] [])) _
                refine XS.iconst X0.here hx rfl (hb hby d3_43) ?_
                show Steps p.tables e below (s₁.setTop (mkF m 44 #[.val (.ref mk), .val (.int i), .val (.int init), .val (.int n), .val (.int s0), .val (.int s1), .val (.int s2), .val (.int s3), .val (.int pr), .unset, .unset] [(.int (1 : Int32))])) _
                refine XS.goto X0.here hx rfl (pc0 := 44) (pc' := 48) rfl (hb hby d3_44) (by decide) (by decide) ?_
                show Steps p.tables e below (s₁.setTop (mkF m 48 #[.val (.ref mk), .val (.int i), .val (.int init), .val (.int n), .val (.int s0), .val (.int s1), .val (.int s2), .val (.int s3), .val (.int pr), .unset, .unset] [(.int (1 : Int32))])) _
                repeat rw [if_pos hc2] at kt
                repeat rw [if_neg hc3] at kt
                repeat rw [if_neg hc5] at kt
                repeat rw [if_neg hc21] at kt
                repeat rw [if_pos hc29] at kt
                repeat rw [if_pos hc30] at kt
                exact kt
              · refine XS.icmpYes X0.here hx rfl (pc0 := 40) (pc' := 47) rfl (hb hby d3_40) rfl (feq hc30).2 (by decide) (by decide) ?_
                show Steps p.tables e below (s₁.setTop (mkF m 47 #[.val (.ref mk), .val (.int i), .val (.int init), .val (.int n), .val (.int s0), .val (.int s1), .val (.int s2), .val (.int s3), .val (.int pr), .unset, .unset] [])) _
                refine XS.iconst X0.here hx rfl (hb hby d3_47) ?_
                show Steps p.tables e below (s₁.setTop (mkF m 48 #[.val (.ref mk), .val (.int i), .val (.int init), .val (.int n), .val (.int s0), .val (.int s1), .val (.int s2), .val (.int s3), .val (.int pr), .unset, .unset] [(.int (0 : Int32))])) _
                repeat rw [if_pos hc2] at kt
                repeat rw [if_neg hc3] at kt
                repeat rw [if_neg hc5] at kt
                repeat rw [if_neg hc21] at kt
                repeat rw [if_pos hc29] at kt
                repeat rw [if_neg hc30] at kt
                exact kt
            · refine XS.icmpYes X0.here hx rfl (pc0 := 34) (pc' := 47) rfl (hb hby d3_34) rfl (flt hc29).2.2.2 (by decide) (by decide) ?_
              show Steps p.tables e below (s₁.setTop (mkF m 47 #[.val (.ref mk), .val (.int i), .val (.int init), .val (.int n), .val (.int s0), .val (.int s1), .val (.int s2), .val (.int s3), .val (.int pr), .unset, .unset] [])) _
              refine XS.iconst X0.here hx rfl (hb hby d3_47) ?_
              show Steps p.tables e below (s₁.setTop (mkF m 48 #[.val (.ref mk), .val (.int i), .val (.int init), .val (.int n), .val (.int s0), .val (.int s1), .val (.int s2), .val (.int s3), .val (.int pr), .unset, .unset] [(.int (0 : Int32))])) _
              repeat rw [if_pos hc2] at kt
              repeat rw [if_neg hc3] at kt
              repeat rw [if_neg hc5] at kt
              repeat rw [if_neg hc21] at kt
              repeat rw [if_neg hc29] at kt
              exact kt
    · refine XS.ifYes X0.here hx rfl (pc0 := 1) (pc' := 10) rfl (hb hby d3_1) rfl ((if0 _ _).trans (flt hc2).2.2.2) (by decide) (by decide) ?_
      show Steps p.tables e below (s₁.setTop (mkF m 10 #[.val (.ref mk), .val (.int i), .val (.int init), .val (.int n), .val (.int s0), .val (.int s1), .val (.int s2), .val (.int s3), .val (.int pr), .unset, .unset] [])) _
      refine XS.iloadN X0.here hx rfl (hb hby d3_10) rfl ?_
      show Steps p.tables e below (s₁.setTop (mkF m 11 #[.val (.ref mk), .val (.int i), .val (.int init), .val (.int n), .val (.int s0), .val (.int s1), .val (.int s2), .val (.int s3), .val (.int pr), .unset, .unset] [(.int n)])) _
      refine XS.iconst X0.here hx rfl (hb hby d3_11) ?_
      show Steps p.tables e below (s₁.setTop (mkF m 12 #[.val (.ref mk), .val (.int i), .val (.int init), .val (.int n), .val (.int s0), .val (.int s1), .val (.int s2), .val (.int s3), .val (.int pr), .unset, .unset] [(.int (1 : Int32)), (.int n)])) _
      by_cases hc34 : (1 : Int32) < n
      · refine XS.icmpNo X0.here hx rfl (hb hby d3_12) rfl (tlt hc34).2.2.2 ?_
        show Steps p.tables e below (s₁.setTop (mkF m 15 #[.val (.ref mk), .val (.int i), .val (.int init), .val (.int n), .val (.int s0), .val (.int s1), .val (.int s2), .val (.int s3), .val (.int pr), .unset, .unset] [])) _
        refine XS.iload X0.here hx rfl (hb hby d3_15) rfl ?_
        show Steps p.tables e below (s₁.setTop (mkF m 17 #[.val (.ref mk), .val (.int i), .val (.int init), .val (.int n), .val (.int s0), .val (.int s1), .val (.int s2), .val (.int s3), .val (.int pr), .unset, .unset] [(.int s1)])) _
        refine XS.iloadN X0.here hx rfl (hb hby d3_17) rfl ?_
        show Steps p.tables e below (s₁.setTop (mkF m 18 #[.val (.ref mk), .val (.int i), .val (.int init), .val (.int n), .val (.int s0), .val (.int s1), .val (.int s2), .val (.int s3), .val (.int pr), .unset, .unset] [(.int i), (.int s1)])) _
        by_cases hc35 : s1 = i
        · refine XS.icmpYes X0.here hx rfl (pc0 := 18) (pc' := 43) rfl (hb hby d3_18) rfl (teq hc35).1 (by decide) (by decide) ?_
          show Steps p.tables e below (s₁.setTop (mkF m 43 #[.val (.ref mk), .val (.int i), .val (.int init), .val (.int n), .val (.int s0), .val (.int s1), .val (.int s2), .val (.int s3), .val (.int pr), .unset, .unset] [])) _
          refine XS.iconst X0.here hx rfl (hb hby d3_43) ?_
          show Steps p.tables e below (s₁.setTop (mkF m 44 #[.val (.ref mk), .val (.int i), .val (.int init), .val (.int n), .val (.int s0), .val (.int s1), .val (.int s2), .val (.int s3), .val (.int pr), .unset, .unset] [(.int (1 : Int32))])) _
          refine XS.goto X0.here hx rfl (pc0 := 44) (pc' := 48) rfl (hb hby d3_44) (by decide) (by decide) ?_
          show Steps p.tables e below (s₁.setTop (mkF m 48 #[.val (.ref mk), .val (.int i), .val (.int init), .val (.int n), .val (.int s0), .val (.int s1), .val (.int s2), .val (.int s3), .val (.int pr), .unset, .unset] [(.int (1 : Int32))])) _
          repeat rw [if_neg hc2] at kt
          repeat rw [if_pos hc34] at kt
          repeat rw [if_pos hc35] at kt
          exact kt
        · refine XS.icmpNo X0.here hx rfl (hb hby d3_18) rfl (feq hc35).1 ?_
          show Steps p.tables e below (s₁.setTop (mkF m 21 #[.val (.ref mk), .val (.int i), .val (.int init), .val (.int n), .val (.int s0), .val (.int s1), .val (.int s2), .val (.int s3), .val (.int pr), .unset, .unset] [])) _
          refine XS.iloadN X0.here hx rfl (hb hby d3_21) rfl ?_
          show Steps p.tables e below (s₁.setTop (mkF m 22 #[.val (.ref mk), .val (.int i), .val (.int init), .val (.int n), .val (.int s0), .val (.int s1), .val (.int s2), .val (.int s3), .val (.int pr), .unset, .unset] [(.int n)])) _
          refine XS.iconst X0.here hx rfl (hb hby d3_22) ?_
          show Steps p.tables e below (s₁.setTop (mkF m 23 #[.val (.ref mk), .val (.int i), .val (.int init), .val (.int n), .val (.int s0), .val (.int s1), .val (.int s2), .val (.int s3), .val (.int pr), .unset, .unset] [(.int (2 : Int32)), (.int n)])) _
          by_cases hc37 : (2 : Int32) < n
          · refine XS.icmpNo X0.here hx rfl (hb hby d3_23) rfl (tlt hc37).2.2.2 ?_
            show Steps p.tables e below (s₁.setTop (mkF m 26 #[.val (.ref mk), .val (.int i), .val (.int init), .val (.int n), .val (.int s0), .val (.int s1), .val (.int s2), .val (.int s3), .val (.int pr), .unset, .unset] [])) _
            refine XS.iload X0.here hx rfl (hb hby d3_26) rfl ?_
            show Steps p.tables e below (s₁.setTop (mkF m 28 #[.val (.ref mk), .val (.int i), .val (.int init), .val (.int n), .val (.int s0), .val (.int s1), .val (.int s2), .val (.int s3), .val (.int pr), .unset, .unset] [(.int s2)])) _
            refine XS.iloadN X0.here hx rfl (hb hby d3_28) rfl ?_
            show Steps p.tables e below (s₁.setTop (mkF m 29 #[.val (.ref mk), .val (.int i), .val (.int init), .val (.int n), .val (.int s0), .val (.int s1), .val (.int s2), .val (.int s3), .val (.int pr), .unset, .unset] [(.int i), (.int s2)])) _
            by_cases hc38 : s2 = i
            · refine XS.icmpYes X0.here hx rfl (pc0 := 29) (pc' := 43) rfl (hb hby d3_29) rfl (teq hc38).1 (by decide) (by decide) ?_
              show Steps p.tables e below (s₁.setTop (mkF m 43 #[.val (.ref mk), .val (.int i), .val (.int init), .val (.int n), .val (.int s0), .val (.int s1), .val (.int s2), .val (.int s3), .val (.int pr), .unset, .unset] [])) _
              refine XS.iconst X0.here hx rfl (hb hby d3_43) ?_
              show Steps p.tables e below (s₁.setTop (mkF m 44 #[.val (.ref mk), .val (.int i), .val (.int init), .val (.int n), .val (.int s0), .val (.int s1), .val (.int s2), .val (.int s3), .val (.int pr), .unset, .unset] [(.int (1 : Int32))])) _
              refine XS.goto X0.here hx rfl (pc0 := 44) (pc' := 48) rfl (hb hby d3_44) (by decide) (by decide) ?_
              show Steps p.tables e below (s₁.setTop (mkF m 48 #[.val (.ref mk), .val (.int i), .val (.int init), .val (.int n), .val (.int s0), .val (.int s1), .val (.int s2), .val (.int s3), .val (.int pr), .unset, .unset] [(.int (1 : Int32))])) _
              repeat rw [if_neg hc2] at kt
              repeat rw [if_pos hc34] at kt
              repeat rw [if_neg hc35] at kt
              repeat rw [if_pos hc37] at kt
              repeat rw [if_pos hc38] at kt
              exact kt
            · refine XS.icmpNo X0.here hx rfl (hb hby d3_29) rfl (feq hc38).1 ?_
              show Steps p.tables e below (s₁.setTop (mkF m 32 #[.val (.ref mk), .val (.int i), .val (.int init), .val (.int n), .val (.int s0), .val (.int s1), .val (.int s2), .val (.int s3), .val (.int pr), .unset, .unset] [])) _
              refine XS.iloadN X0.here hx rfl (hb hby d3_32) rfl ?_
              show Steps p.tables e below (s₁.setTop (mkF m 33 #[.val (.ref mk), .val (.int i), .val (.int init), .val (.int n), .val (.int s0), .val (.int s1), .val (.int s2), .val (.int s3), .val (.int pr), .unset, .unset] [(.int n)])) _
              refine XS.iconst X0.here hx rfl (hb hby d3_33) ?_
              show Steps p.tables e below (s₁.setTop (mkF m 34 #[.val (.ref mk), .val (.int i), .val (.int init), .val (.int n), .val (.int s0), .val (.int s1), .val (.int s2), .val (.int s3), .val (.int pr), .unset, .unset] [(.int (3 : Int32)), (.int n)])) _
              by_cases hc40 : (3 : Int32) < n
              · refine XS.icmpNo X0.here hx rfl (hb hby d3_34) rfl (tlt hc40).2.2.2 ?_
                show Steps p.tables e below (s₁.setTop (mkF m 37 #[.val (.ref mk), .val (.int i), .val (.int init), .val (.int n), .val (.int s0), .val (.int s1), .val (.int s2), .val (.int s3), .val (.int pr), .unset, .unset] [])) _
                refine XS.iload X0.here hx rfl (hb hby d3_37) rfl ?_
                show Steps p.tables e below (s₁.setTop (mkF m 39 #[.val (.ref mk), .val (.int i), .val (.int init), .val (.int n), .val (.int s0), .val (.int s1), .val (.int s2), .val (.int s3), .val (.int pr), .unset, .unset] [(.int s3)])) _
                refine XS.iloadN X0.here hx rfl (hb hby d3_39) rfl ?_
                show Steps p.tables e below (s₁.setTop (mkF m 40 #[.val (.ref mk), .val (.int i), .val (.int init), .val (.int n), .val (.int s0), .val (.int s1), .val (.int s2), .val (.int s3), .val (.int pr), .unset, .unset] [(.int i), (.int s3)])) _
                by_cases hc41 : s3 = i
                · refine XS.icmpNo X0.here hx rfl (hb hby d3_40) rfl (teq hc41).2 ?_
                  show Steps p.tables e below (s₁.setTop (mkF m 43 #[.val (.ref mk), .val (.int i), .val (.int init), .val (.int n), .val (.int s0), .val (.int s1), .val (.int s2), .val (.int s3), .val (.int pr), .unset, .unset] [])) _
                  refine XS.iconst X0.here hx rfl (hb hby d3_43) ?_
                  show Steps p.tables e below (s₁.setTop (mkF m 44 #[.val (.ref mk), .val (.int i), .val (.int init), .val (.int n), .val (.int s0), .val (.int s1), .val (.int s2), .val (.int s3), .val (.int pr), .unset, .unset] [(.int (1 : Int32))])) _
                  refine XS.goto X0.here hx rfl (pc0 := 44) (pc' := 48) rfl (hb hby d3_44) (by decide) (by decide) ?_
                  show Steps p.tables e below (s₁.setTop (mkF m 48 #[.val (.ref mk), .val (.int i), .val (.int init), .val (.int n), .val (.int s0), .val (.int s1), .val (.int s2), .val (.int s3), .val (.int pr), .unset, .unset] [(.int (1 : Int32))])) _
                  repeat rw [if_neg hc2] at kt
                  repeat rw [if_pos hc34] at kt
                  repeat rw [if_neg hc35] at kt
                  repeat rw [if_pos hc37] at kt
                  repeat rw [if_neg hc38] at kt
                  repeat rw [if_pos hc40] at kt
                  repeat rw [if_pos hc41] at kt
                  exact kt
                · refine XS.icmpYes X0.here hx rfl (pc0 := 40) (pc' := 47) rfl (hb hby d3_40) rfl (feq hc41).2 (by decide) (by decide) ?_
                  show Steps p.tables e below (s₁.setTop (mkF m 47 #[.val (.ref mk), .val (.int i), .val (.int init), .val (.int n), .val (.int s0), .val (.int s1), .val (.int s2), .val (.int s3), .val (.int pr), .unset, .unset] [])) _
                  refine XS.iconst X0.here hx rfl (hb hby d3_47) ?_
                  show Steps p.tables e below (s₁.setTop (mkF m 48 #[.val (.ref mk), .val (.int i), .val (.int init), .val (.int n), .val (.int s0), .val (.int s1), .val (.int s2), .val (.int s3), .val (.int pr), .unset, .unset] [(.int (0 : Int32))])) _
                  repeat rw [if_neg hc2] at kt
                  repeat rw [if_pos hc34] at kt
                  repeat rw [if_neg hc35] at kt
                  repeat rw [if_pos hc37] at kt
                  repeat rw [if_neg hc38] at kt
                  repeat rw [if_pos hc40] at kt
                  repeat rw [if_neg hc41] at kt
                  exact kt
              · refine XS.icmpYes X0.here hx rfl (pc0 := 34) (pc' := 47) rfl (hb hby d3_34) rfl (flt hc40).2.2.2 (by decide) (by decide) ?_
                show Steps p.tables e below (s₁.setTop (mkF m 47 #[.val (.ref mk), .val (.int i), .val (.int init), .val (.int n), .val (.int s0), .val (.int s1), .val (.int s2), .val (.int s3), .val (.int pr), .unset, .unset] [])) _
                refine XS.iconst X0.here hx rfl (hb hby d3_47) ?_
                show Steps p.tables e below (s₁.setTop (mkF m 48 #[.val (.ref mk), .val (.int i), .val (.int init), .val (.int n), .val (.int s0), .val (.int s1), .val (.int s2), .val (.int s3), .val (.int pr), .unset, .unset] [(.int (0 : Int32))])) _
                repeat rw [if_neg hc2] at kt
                repeat rw [if_pos hc34] at kt
                repeat rw [if_neg hc35] at kt
                repeat rw [if_pos hc37] at kt
                repeat rw [if_neg hc38] at kt
                repeat rw [if_neg hc40] at kt
                exact kt
          · refine XS.icmpYes X0.here hx rfl (pc0 := 23) (pc' := 32) rfl (hb hby d3_23) rfl (flt hc37).2.2.2 (by decide) (by decide) ?_
            show Steps p.tables e below (s₁.setTop (mkF m 32 #[.val (.ref mk), .val (.int i), .val (.int init), .val (.int n), .val (.int s0), .val (.int s1), .val (.int s2), .val (.int s3), .val (.int pr), .unset, .unset] [])) _
            refine XS.iloadN X0.here hx rfl (hb hby d3_32) rfl ?_
            show Steps p.tables e below (s₁.setTop (mkF m 33 #[.val (.ref mk), .val (.int i), .val (.int init), .val (.int n), .val (.int s0), .val (.int s1), .val (.int s2), .val (.int s3), .val (.int pr), .unset, .unset] [(.int n)])) _
            refine XS.iconst X0.here hx rfl (hb hby d3_33) ?_
            show Steps p.tables e below (s₁.setTop (mkF m 34 #[.val (.ref mk), .val (.int i), .val (.int init), .val (.int n), .val (.int s0), .val (.int s1), .val (.int s2), .val (.int s3), .val (.int pr), .unset, .unset] [(.int (3 : Int32)), (.int n)])) _
            by_cases hc45 : (3 : Int32) < n
            · refine XS.icmpNo X0.here hx rfl (hb hby d3_34) rfl (tlt hc45).2.2.2 ?_
              show Steps p.tables e below (s₁.setTop (mkF m 37 #[.val (.ref mk), .val (.int i), .val (.int init), .val (.int n), .val (.int s0), .val (.int s1), .val (.int s2), .val (.int s3), .val (.int pr), .unset, .unset] [])) _
              refine XS.iload X0.here hx rfl (hb hby d3_37) rfl ?_
              show Steps p.tables e below (s₁.setTop (mkF m 39 #[.val (.ref mk), .val (.int i), .val (.int init), .val (.int n), .val (.int s0), .val (.int s1), .val (.int s2), .val (.int s3), .val (.int pr), .unset, .unset] [(.int s3)])) _
              refine XS.iloadN X0.here hx rfl (hb hby d3_39) rfl ?_
              show Steps p.tables e below (s₁.setTop (mkF m 40 #[.val (.ref mk), .val (.int i), .val (.int init), .val (.int n), .val (.int s0), .val (.int s1), .val (.int s2), .val (.int s3), .val (.int pr), .unset, .unset] [(.int i), (.int s3)])) _
              by_cases hc46 : s3 = i
              · refine XS.icmpNo X0.here hx rfl (hb hby d3_40) rfl (teq hc46).2 ?_
                show Steps p.tables e below (s₁.setTop (mkF m 43 #[.val (.ref mk), .val (.int i), .val (.int init), .val (.int n), .val (.int s0), .val (.int s1), .val (.int s2), .val (.int s3), .val (.int pr), .unset, .unset] [])) _
                refine XS.iconst X0.here hx rfl (hb hby d3_43) ?_
                show Steps p.tables e below (s₁.setTop (mkF m 44 #[.val (.ref mk), .val (.int i), .val (.int init), .val (.int n), .val (.int s0), .val (.int s1), .val (.int s2), .val (.int s3), .val (.int pr), .unset, .unset] [(.int (1 : Int32))])) _
                refine XS.goto X0.here hx rfl (pc0 := 44) (pc' := 48) rfl (hb hby d3_44) (by decide) (by decide) ?_
                show Steps p.tables e below (s₁.setTop (mkF m 48 #[.val (.ref mk), .val (.int i), .val (.int init), .val (.int n), .val (.int s0), .val (.int s1), .val (.int s2), .val (.int s3), .val (.int pr), .unset, .unset] [(.int (1 : Int32))])) _
                repeat rw [if_neg hc2] at kt
                repeat rw [if_pos hc34] at kt
                repeat rw [if_neg hc35] at kt
                repeat rw [if_neg hc37] at kt
                repeat rw [if_pos hc45] at kt
                repeat rw [if_pos hc46] at kt
                exact kt
              · refine XS.icmpYes X0.here hx rfl (pc0 := 40) (pc' := 47) rfl (hb hby d3_40) rfl (feq hc46).2 (by decide) (by decide) ?_
                show Steps p.tables e below (s₁.setTop (mkF m 47 #[.val (.ref mk), .val (.int i), .val (.int init), .val (.int n), .val (.int s0), .val (.int s1), .val (.int s2), .val (.int s3), .val (.int pr), .unset, .unset] [])) _
                refine XS.iconst X0.here hx rfl (hb hby d3_47) ?_
                show Steps p.tables e below (s₁.setTop (mkF m 48 #[.val (.ref mk), .val (.int i), .val (.int init), .val (.int n), .val (.int s0), .val (.int s1), .val (.int s2), .val (.int s3), .val (.int pr), .unset, .unset] [(.int (0 : Int32))])) _
                repeat rw [if_neg hc2] at kt
                repeat rw [if_pos hc34] at kt
                repeat rw [if_neg hc35] at kt
                repeat rw [if_neg hc37] at kt
                repeat rw [if_pos hc45] at kt
                repeat rw [if_neg hc46] at kt
                exact kt
            · refine XS.icmpYes X0.here hx rfl (pc0 := 34) (pc' := 47) rfl (hb hby d3_34) rfl (flt hc45).2.2.2 (by decide) (by decide) ?_
              show Steps p.tables e below (s₁.setTop (mkF m 47 #[.val (.ref mk), .val (.int i), .val (.int init), .val (.int n), .val (.int s0), .val (.int s1), .val (.int s2), .val (.int s3), .val (.int pr), .unset, .unset] [])) _
              refine XS.iconst X0.here hx rfl (hb hby d3_47) ?_
              show Steps p.tables e below (s₁.setTop (mkF m 48 #[.val (.ref mk), .val (.int i), .val (.int init), .val (.int n), .val (.int s0), .val (.int s1), .val (.int s2), .val (.int s3), .val (.int pr), .unset, .unset] [(.int (0 : Int32))])) _
              repeat rw [if_neg hc2] at kt
              repeat rw [if_pos hc34] at kt
              repeat rw [if_neg hc35] at kt
              repeat rw [if_neg hc37] at kt
              repeat rw [if_neg hc45] at kt
              exact kt
      · refine XS.icmpYes X0.here hx rfl (pc0 := 12) (pc' := 21) rfl (hb hby d3_12) rfl (flt hc34).2.2.2 (by decide) (by decide) ?_
        show Steps p.tables e below (s₁.setTop (mkF m 21 #[.val (.ref mk), .val (.int i), .val (.int init), .val (.int n), .val (.int s0), .val (.int s1), .val (.int s2), .val (.int s3), .val (.int pr), .unset, .unset] [])) _
        refine XS.iloadN X0.here hx rfl (hb hby d3_21) rfl ?_
        show Steps p.tables e below (s₁.setTop (mkF m 22 #[.val (.ref mk), .val (.int i), .val (.int init), .val (.int n), .val (.int s0), .val (.int s1), .val (.int s2), .val (.int s3), .val (.int pr), .unset, .unset] [(.int n)])) _
        refine XS.iconst X0.here hx rfl (hb hby d3_22) ?_
        show Steps p.tables e below (s₁.setTop (mkF m 23 #[.val (.ref mk), .val (.int i), .val (.int init), .val (.int n), .val (.int s0), .val (.int s1), .val (.int s2), .val (.int s3), .val (.int pr), .unset, .unset] [(.int (2 : Int32)), (.int n)])) _
        by_cases hc50 : (2 : Int32) < n
        · refine XS.icmpNo X0.here hx rfl (hb hby d3_23) rfl (tlt hc50).2.2.2 ?_
          show Steps p.tables e below (s₁.setTop (mkF m 26 #[.val (.ref mk), .val (.int i), .val (.int init), .val (.int n), .val (.int s0), .val (.int s1), .val (.int s2), .val (.int s3), .val (.int pr), .unset, .unset] [])) _
          refine XS.iload X0.here hx rfl (hb hby d3_26) rfl ?_
          show Steps p.tables e below (s₁.setTop (mkF m 28 #[.val (.ref mk), .val (.int i), .val (.int init), .val (.int n), .val (.int s0), .val (.int s1), .val (.int s2), .val (.int s3), .val (.int pr), .unset, .unset] [(.int s2)])) _
          refine XS.iloadN X0.here hx rfl (hb hby d3_28) rfl ?_
          show Steps p.tables e below (s₁.setTop (mkF m 29 #[.val (.ref mk), .val (.int i), .val (.int init), .val (.int n), .val (.int s0), .val (.int s1), .val (.int s2), .val (.int s3), .val (.int pr), .unset, .unset] [(.int i), (.int s2)])) _
          by_cases hc51 : s2 = i
          · refine XS.icmpYes X0.here hx rfl (pc0 := 29) (pc' := 43) rfl (hb hby d3_29) rfl (teq hc51).1 (by decide) (by decide) ?_
            show Steps p.tables e below (s₁.setTop (mkF m 43 #[.val (.ref mk), .val (.int i), .val (.int init), .val (.int n), .val (.int s0), .val (.int s1), .val (.int s2), .val (.int s3), .val (.int pr), .unset, .unset] [])) _
            refine XS.iconst X0.here hx rfl (hb hby d3_43) ?_
            show Steps p.tables e below (s₁.setTop (mkF m 44 #[.val (.ref mk), .val (.int i), .val (.int init), .val (.int n), .val (.int s0), .val (.int s1), .val (.int s2), .val (.int s3), .val (.int pr), .unset, .unset] [(.int (1 : Int32))])) _
            refine XS.goto X0.here hx rfl (pc0 := 44) (pc' := 48) rfl (hb hby d3_44) (by decide) (by decide) ?_
            show Steps p.tables e below (s₁.setTop (mkF m 48 #[.val (.ref mk), .val (.int i), .val (.int init), .val (.int n), .val (.int s0), .val (.int s1), .val (.int s2), .val (.int s3), .val (.int pr), .unset, .unset] [(.int (1 : Int32))])) _
            repeat rw [if_neg hc2] at kt
            repeat rw [if_neg hc34] at kt
            repeat rw [if_pos hc50] at kt
            repeat rw [if_pos hc51] at kt
            exact kt
          · refine XS.icmpNo X0.here hx rfl (hb hby d3_29) rfl (feq hc51).1 ?_
            show Steps p.tables e below (s₁.setTop (mkF m 32 #[.val (.ref mk), .val (.int i), .val (.int init), .val (.int n), .val (.int s0), .val (.int s1), .val (.int s2), .val (.int s3), .val (.int pr), .unset, .unset] [])) _
            refine XS.iloadN X0.here hx rfl (hb hby d3_32) rfl ?_
            show Steps p.tables e below (s₁.setTop (mkF m 33 #[.val (.ref mk), .val (.int i), .val (.int init), .val (.int n), .val (.int s0), .val (.int s1), .val (.int s2), .val (.int s3), .val (.int pr), .unset, .unset] [(.int n)])) _
            refine XS.iconst X0.here hx rfl (hb hby d3_33) ?_
            show Steps p.tables e below (s₁.setTop (mkF m 34 #[.val (.ref mk), .val (.int i), .val (.int init), .val (.int n), .val (.int s0), .val (.int s1), .val (.int s2), .val (.int s3), .val (.int pr), .unset, .unset] [(.int (3 : Int32)), (.int n)])) _
            by_cases hc53 : (3 : Int32) < n
            · refine XS.icmpNo X0.here hx rfl (hb hby d3_34) rfl (tlt hc53).2.2.2 ?_
              show Steps p.tables e below (s₁.setTop (mkF m 37 #[.val (.ref mk), .val (.int i), .val (.int init), .val (.int n), .val (.int s0), .val (.int s1), .val (.int s2), .val (.int s3), .val (.int pr), .unset, .unset] [])) _
              refine XS.iload X0.here hx rfl (hb hby d3_37) rfl ?_
              show Steps p.tables e below (s₁.setTop (mkF m 39 #[.val (.ref mk), .val (.int i), .val (.int init), .val (.int n), .val (.int s0), .val (.int s1), .val (.int s2), .val (.int s3), .val (.int pr), .unset, .unset] [(.int s3)])) _
              refine XS.iloadN X0.here hx rfl (hb hby d3_39) rfl ?_
              show Steps p.tables e below (s₁.setTop (mkF m 40 #[.val (.ref mk), .val (.int i), .val (.int init), .val (.int n), .val (.int s0), .val (.int s1), .val (.int s2), .val (.int s3), .val (.int pr), .unset, .unset] [(.int i), (.int s3)])) _
              by_cases hc54 : s3 = i
              · refine XS.icmpNo X0.here hx rfl (hb hby d3_40) rfl (teq hc54).2 ?_
                show Steps p.tables e below (s₁.setTop (mkF m 43 #[.val (.ref mk), .val (.int i), .val (.int init), .val (.int n), .val (.int s0), .val (.int s1), .val (.int s2), .val (.int s3), .val (.int pr), .unset, .unset] [])) _
                refine XS.iconst X0.here hx rfl (hb hby d3_43) ?_
                show Steps p.tables e below (s₁.setTop (mkF m 44 #[.val (.ref mk), .val (.int i), .val (.int init), .val (.int n), .val (.int s0), .val (.int s1), .val (.int s2), .val (.int s3), .val (.int pr), .unset, .unset] [(.int (1 : Int32))])) _
                refine XS.goto X0.here hx rfl (pc0 := 44) (pc' := 48) rfl (hb hby d3_44) (by decide) (by decide) ?_
                show Steps p.tables e below (s₁.setTop (mkF m 48 #[.val (.ref mk), .val (.int i), .val (.int init), .val (.int n), .val (.int s0), .val (.int s1), .val (.int s2), .val (.int s3), .val (.int pr), .unset, .unset] [(.int (1 : Int32))])) _
                repeat rw [if_neg hc2] at kt
                repeat rw [if_neg hc34] at kt
                repeat rw [if_pos hc50] at kt
                repeat rw [if_neg hc51] at kt
                repeat rw [if_pos hc53] at kt
                repeat rw [if_pos hc54] at kt
                exact kt
              · refine XS.icmpYes X0.here hx rfl (pc0 := 40) (pc' := 47) rfl (hb hby d3_40) rfl (feq hc54).2 (by decide) (by decide) ?_
                show Steps p.tables e below (s₁.setTop (mkF m 47 #[.val (.ref mk), .val (.int i), .val (.int init), .val (.int n), .val (.int s0), .val (.int s1), .val (.int s2), .val (.int s3), .val (.int pr), .unset, .unset] [])) _
                refine XS.iconst X0.here hx rfl (hb hby d3_47) ?_
                show Steps p.tables e below (s₁.setTop (mkF m 48 #[.val (.ref mk), .val (.int i), .val (.int init), .val (.int n), .val (.int s0), .val (.int s1), .val (.int s2), .val (.int s3), .val (.int pr), .unset, .unset] [(.int (0 : Int32))])) _
                repeat rw [if_neg hc2] at kt
                repeat rw [if_neg hc34] at kt
                repeat rw [if_pos hc50] at kt
                repeat rw [if_neg hc51] at kt
                repeat rw [if_pos hc53] at kt
                repeat rw [if_neg hc54] at kt
                exact kt
            · refine XS.icmpYes X0.here hx rfl (pc0 := 34) (pc' := 47) rfl (hb hby d3_34) rfl (flt hc53).2.2.2 (by decide) (by decide) ?_
              show Steps p.tables e below (s₁.setTop (mkF m 47 #[.val (.ref mk), .val (.int i), .val (.int init), .val (.int n), .val (.int s0), .val (.int s1), .val (.int s2), .val (.int s3), .val (.int pr), .unset, .unset] [])) _
              refine XS.iconst X0.here hx rfl (hb hby d3_47) ?_
              show Steps p.tables e below (s₁.setTop (mkF m 48 #[.val (.ref mk), .val (.int i), .val (.int init), .val (.int n), .val (.int s0), .val (.int s1), .val (.int s2), .val (.int s3), .val (.int pr), .unset, .unset] [(.int (0 : Int32))])) _
              repeat rw [if_neg hc2] at kt
              repeat rw [if_neg hc34] at kt
              repeat rw [if_pos hc50] at kt
              repeat rw [if_neg hc51] at kt
              repeat rw [if_neg hc53] at kt
              exact kt
        · refine XS.icmpYes X0.here hx rfl (pc0 := 23) (pc' := 32) rfl (hb hby d3_23) rfl (flt hc50).2.2.2 (by decide) (by decide) ?_
          show Steps p.tables e below (s₁.setTop (mkF m 32 #[.val (.ref mk), .val (.int i), .val (.int init), .val (.int n), .val (.int s0), .val (.int s1), .val (.int s2), .val (.int s3), .val (.int pr), .unset, .unset] [])) _
          refine XS.iloadN X0.here hx rfl (hb hby d3_32) rfl ?_
          show Steps p.tables e below (s₁.setTop (mkF m 33 #[.val (.ref mk), .val (.int i), .val (.int init), .val (.int n), .val (.int s0), .val (.int s1), .val (.int s2), .val (.int s3), .val (.int pr), .unset, .unset] [(.int n)])) _
          refine XS.iconst X0.here hx rfl (hb hby d3_33) ?_
          show Steps p.tables e below (s₁.setTop (mkF m 34 #[.val (.ref mk), .val (.int i), .val (.int init), .val (.int n), .val (.int s0), .val (.int s1), .val (.int s2), .val (.int s3), .val (.int pr), .unset, .unset] [(.int (3 : Int32)), (.int n)])) _
          by_cases hc58 : (3 : Int32) < n
          · refine XS.icmpNo X0.here hx rfl (hb hby d3_34) rfl (tlt hc58).2.2.2 ?_
            show Steps p.tables e below (s₁.setTop (mkF m 37 #[.val (.ref mk), .val (.int i), .val (.int init), .val (.int n), .val (.int s0), .val (.int s1), .val (.int s2), .val (.int s3), .val (.int pr), .unset, .unset] [])) _
            refine XS.iload X0.here hx rfl (hb hby d3_37) rfl ?_
            show Steps p.tables e below (s₁.setTop (mkF m 39 #[.val (.ref mk), .val (.int i), .val (.int init), .val (.int n), .val (.int s0), .val (.int s1), .val (.int s2), .val (.int s3), .val (.int pr), .unset, .unset] [(.int s3)])) _
            refine XS.iloadN X0.here hx rfl (hb hby d3_39) rfl ?_
            show Steps p.tables e below (s₁.setTop (mkF m 40 #[.val (.ref mk), .val (.int i), .val (.int init), .val (.int n), .val (.int s0), .val (.int s1), .val (.int s2), .val (.int s3), .val (.int pr), .unset, .unset] [(.int i), (.int s3)])) _
            by_cases hc59 : s3 = i
            · refine XS.icmpNo X0.here hx rfl (hb hby d3_40) rfl (teq hc59).2 ?_
              show Steps p.tables e below (s₁.setTop (mkF m 43 #[.val (.ref mk), .val (.int i), .val (.int init), .val (.int n), .val (.int s0), .val (.int s1), .val (.int s2), .val (.int s3), .val (.int pr), .unset, .unset] [])) _
              refine XS.iconst X0.here hx rfl (hb hby d3_43) ?_
              show Steps p.tables e below (s₁.setTop (mkF m 44 #[.val (.ref mk), .val (.int i), .val (.int init), .val (.int n), .val (.int s0), .val (.int s1), .val (.int s2), .val (.int s3), .val (.int pr), .unset, .unset] [(.int (1 : Int32))])) _
              refine XS.goto X0.here hx rfl (pc0 := 44) (pc' := 48) rfl (hb hby d3_44) (by decide) (by decide) ?_
              show Steps p.tables e below (s₁.setTop (mkF m 48 #[.val (.ref mk), .val (.int i), .val (.int init), .val (.int n), .val (.int s0), .val (.int s1), .val (.int s2), .val (.int s3), .val (.int pr), .unset, .unset] [(.int (1 : Int32))])) _
              repeat rw [if_neg hc2] at kt
              repeat rw [if_neg hc34] at kt
              repeat rw [if_neg hc50] at kt
              repeat rw [if_pos hc58] at kt
              repeat rw [if_pos hc59] at kt
              exact kt
            · refine XS.icmpYes X0.here hx rfl (pc0 := 40) (pc' := 47) rfl (hb hby d3_40) rfl (feq hc59).2 (by decide) (by decide) ?_
              show Steps p.tables e below (s₁.setTop (mkF m 47 #[.val (.ref mk), .val (.int i), .val (.int init), .val (.int n), .val (.int s0), .val (.int s1), .val (.int s2), .val (.int s3), .val (.int pr), .unset, .unset] [])) _
              refine XS.iconst X0.here hx rfl (hb hby d3_47) ?_
              show Steps p.tables e below (s₁.setTop (mkF m 48 #[.val (.ref mk), .val (.int i), .val (.int init), .val (.int n), .val (.int s0), .val (.int s1), .val (.int s2), .val (.int s3), .val (.int pr), .unset, .unset] [(.int (0 : Int32))])) _
              repeat rw [if_neg hc2] at kt
              repeat rw [if_neg hc34] at kt
              repeat rw [if_neg hc50] at kt
              repeat rw [if_pos hc58] at kt
              repeat rw [if_neg hc59] at kt
              exact kt
          · refine XS.icmpYes X0.here hx rfl (pc0 := 34) (pc' := 47) rfl (hb hby d3_34) rfl (flt hc58).2.2.2 (by decide) (by decide) ?_
            show Steps p.tables e below (s₁.setTop (mkF m 47 #[.val (.ref mk), .val (.int i), .val (.int init), .val (.int n), .val (.int s0), .val (.int s1), .val (.int s2), .val (.int s3), .val (.int pr), .unset, .unset] [])) _
            refine XS.iconst X0.here hx rfl (hb hby d3_47) ?_
            show Steps p.tables e below (s₁.setTop (mkF m 48 #[.val (.ref mk), .val (.int i), .val (.int init), .val (.int n), .val (.int s0), .val (.int s1), .val (.int s2), .val (.int s3), .val (.int pr), .unset, .unset] [(.int (0 : Int32))])) _
            repeat rw [if_neg hc2] at kt
            repeat rw [if_neg hc34] at kt
            repeat rw [if_neg hc50] at kt
            repeat rw [if_neg hc58] at kt
            exact kt
  obtain ⟨z64, ez64⟩ : ∃ z : Int32, z = (if (0 : Int32) < n then (if s0 = i then (1 : Int32) else (if (1 : Int32) < n then (if s1 = i then (1 : Int32) else (if (2 : Int32) < n then (if s2 = i then (1 : Int32) else (if (3 : Int32) < n then (if s3 = i then (1 : Int32) else (0 : Int32)) else (0 : Int32))) else (if (3 : Int32) < n then (if s3 = i then (1 : Int32) else (0 : Int32)) else (0 : Int32)))) else (if (2 : Int32) < n then (if s2 = i then (1 : Int32) else (if (3 : Int32) < n then (if s3 = i then (1 : Int32) else (0 : Int32)) else (0 : Int32))) else (if (3 : Int32) < n then (if s3 = i then (1 : Int32) else (0 : Int32)) else (0 : Int32))))) else (if (1 : Int32) < n then (if s1 = i then (1 : Int32) else (if (2 : Int32) < n then (if s2 = i then (1 : Int32) else (if (3 : Int32) < n then (if s3 = i then (1 : Int32) else (0 : Int32)) else (0 : Int32))) else (if (3 : Int32) < n then (if s3 = i then (1 : Int32) else (0 : Int32)) else (0 : Int32)))) else (if (2 : Int32) < n then (if s2 = i then (1 : Int32) else (if (3 : Int32) < n then (if s3 = i then (1 : Int32) else (0 : Int32)) else (0 : Int32))) else (if (3 : Int32) < n then (if s3 = i then (1 : Int32) else (0 : Int32)) else (0 : Int32))))) := ⟨_, rfl⟩
  have k65 : ∀ tg, Steps p.tables e below (s₁.setTop (mkF m 52 #[.val (.ref mk), .val (.int i), .val (.int init), .val (.int n), .val (.int s0), .val (.int s1), .val (.int s2), .val (.int s3), .val (.int pr), .val (.int z64), .unset] [(.int z64)])) tg → Steps p.tables e below (s₁.setTop (entryFrame m #[(.ref mk), (.int i), (.int init), (.int n), (.int s0), (.int s1), (.int s2), (.int s3), (.int pr)] 11)) tg := by
    intro tg kt
    refine k63 tg ?_
    show Steps p.tables e below (s₁.setTop (mkF m 48 #[.val (.ref mk), .val (.int i), .val (.int init), .val (.int n), .val (.int s0), .val (.int s1), .val (.int s2), .val (.int s3), .val (.int pr), .unset, .unset] [(.int (if (0 : Int32) < n then (if s0 = i then (1 : Int32) else (if (1 : Int32) < n then (if s1 = i then (1 : Int32) else (if (2 : Int32) < n then (if s2 = i then (1 : Int32) else (if (3 : Int32) < n then (if s3 = i then (1 : Int32) else (0 : Int32)) else (0 : Int32))) else (if (3 : Int32) < n then (if s3 = i then (1 : Int32) else (0 : Int32)) else (0 : Int32)))) else (if (2 : Int32) < n then (if s2 = i then (1 : Int32) else (if (3 : Int32) < n then (if s3 = i then (1 : Int32) else (0 : Int32)) else (0 : Int32))) else (if (3 : Int32) < n then (if s3 = i then (1 : Int32) else (0 : Int32)) else (0 : Int32))))) else (if (1 : Int32) < n then (if s1 = i then (1 : Int32) else (if (2 : Int32) < n then (if s2 = i then (1 : Int32) else (if (3 : Int32) < n then (if s3 = i then (1 : Int32) else (0 : Int32)) else (0 : Int32))) else (if (3 : Int32) < n then (if s3 = i then (1 : Int32) else (0 : Int32)) else (0 : Int32)))) else (if (2 : Int32) < n then (if s2 = i then (1 : Int32) else (if (3 : Int32) < n then (if s3 = i then (1 : Int32) else (0 : Int32)) else (0 : Int32))) else (if (3 : Int32) < n then (if s3 = i then (1 : Int32) else (0 : Int32)) else (0 : Int32))))))])) _
    rw [← ez64]
    show Steps p.tables e below (s₁.setTop (mkF m 48 #[.val (.ref mk), .val (.int i), .val (.int init), .val (.int n), .val (.int s0), .val (.int s1), .val (.int s2), .val (.int s3), .val (.int pr), .unset, .unset] [(.int z64)])) _
    refine XS.istore X0.here hx rfl (hb hby d3_48) rfl (l' := #[.val (.ref mk), .val (.int i), .val (.int init), .val (.int n), .val (.int s0), .val (.int s1), .val (.int s2), .val (.int s3), .val (.int pr), .val (.int z64), .unset]) rfl ?_
    show Steps p.tables e below (s₁.setTop (mkF m 50 #[.val (.ref mk), .val (.int i), .val (.int init), .val (.int n), .val (.int s0), .val (.int s1), .val (.int s2), .val (.int s3), .val (.int pr), .val (.int z64), .unset] [])) _
    refine XS.iload X0.here hx rfl (hb hby d3_50) rfl ?_
    show Steps p.tables e below (s₁.setTop (mkF m 52 #[.val (.ref mk), .val (.int i), .val (.int init), .val (.int n), .val (.int s0), .val (.int s1), .val (.int s2), .val (.int s3), .val (.int pr), .val (.int z64), .unset] [(.int z64)])) _
    exact kt
  have k71 : ∀ tg, Steps p.tables e below (s₁.setTop (mkF m 73 #[.val (.ref mk), .val (.int i), .val (.int init), .val (.int n), .val (.int s0), .val (.int s1), .val (.int s2), .val (.int s3), .val (.int pr), .val (.int z64), .unset] [(.int (if z64 = (0 : Int32) then (if (((init.toUInt32 >>> (i &&& 31).toUInt32).toInt32) &&& (1 : Int32)) = (0 : Int32) then (0 : Int32) else (1 : Int32)) else pr))])) tg → Steps p.tables e below (s₁.setTop (entryFrame m #[(.ref mk), (.int i), (.int init), (.int n), (.int s0), (.int s1), (.int s2), (.int s3), (.int pr)] 11)) tg := by
    intro tg kt
    refine k65 tg ?_
    show Steps p.tables e below (s₁.setTop (mkF m 52 #[.val (.ref mk), .val (.int i), .val (.int init), .val (.int n), .val (.int s0), .val (.int s1), .val (.int s2), .val (.int s3), .val (.int pr), .val (.int z64), .unset] [(.int z64)])) _
    by_cases hc66 : z64 = (0 : Int32)
    · refine XS.ifYes X0.here hx rfl (pc0 := 52) (pc' := 60) rfl (hb hby d3_52) rfl ((if0 _ _).trans (teq hc66).1) (by decide) (by decide) ?_
      show Steps p.tables e below (s₁.setTop (mkF m 60 #[.val (.ref mk), .val (.int i), .val (.int init), .val (.int n), .val (.int s0), .val (.int s1), .val (.int s2), .val (.int s3), .val (.int pr), .val (.int z64), .unset] [])) _
      refine XS.iloadN X0.here hx rfl (hb hby d3_60) rfl ?_
      show Steps p.tables e below (s₁.setTop (mkF m 61 #[.val (.ref mk), .val (.int i), .val (.int init), .val (.int n), .val (.int s0), .val (.int s1), .val (.int s2), .val (.int s3), .val (.int pr), .val (.int z64), .unset] [(.int init)])) _
      refine XS.iloadN X0.here hx rfl (hb hby d3_61) rfl ?_
      show Steps p.tables e below (s₁.setTop (mkF m 62 #[.val (.ref mk), .val (.int i), .val (.int init), .val (.int n), .val (.int s0), .val (.int s1), .val (.int s2), .val (.int s3), .val (.int pr), .val (.int z64), .unset] [(.int i), (.int init)])) _
      refine XS.iushr X0.here hx rfl (hb hby d3_62) rfl ?_
      show Steps p.tables e below (s₁.setTop (mkF m 63 #[.val (.ref mk), .val (.int i), .val (.int init), .val (.int n), .val (.int s0), .val (.int s1), .val (.int s2), .val (.int s3), .val (.int pr), .val (.int z64), .unset] [(.int ((init.toUInt32 >>> (i &&& 31).toUInt32).toInt32))])) _
      refine XS.iconst X0.here hx rfl (hb hby d3_63) ?_
      show Steps p.tables e below (s₁.setTop (mkF m 64 #[.val (.ref mk), .val (.int i), .val (.int init), .val (.int n), .val (.int s0), .val (.int s1), .val (.int s2), .val (.int s3), .val (.int pr), .val (.int z64), .unset] [(.int (1 : Int32)), (.int ((init.toUInt32 >>> (i &&& 31).toUInt32).toInt32))])) _
      refine XS.iand X0.here hx rfl (hb hby d3_64) rfl ?_
      show Steps p.tables e below (s₁.setTop (mkF m 65 #[.val (.ref mk), .val (.int i), .val (.int init), .val (.int n), .val (.int s0), .val (.int s1), .val (.int s2), .val (.int s3), .val (.int pr), .val (.int z64), .unset] [(.int (((init.toUInt32 >>> (i &&& 31).toUInt32).toInt32) &&& (1 : Int32)))])) _
      by_cases hc67 : (((init.toUInt32 >>> (i &&& 31).toUInt32).toInt32) &&& (1 : Int32)) = (0 : Int32)
      · refine XS.ifYes X0.here hx rfl (pc0 := 65) (pc' := 72) rfl (hb hby d3_65) rfl ((if0 _ _).trans (teq hc67).1) (by decide) (by decide) ?_
        show Steps p.tables e below (s₁.setTop (mkF m 72 #[.val (.ref mk), .val (.int i), .val (.int init), .val (.int n), .val (.int s0), .val (.int s1), .val (.int s2), .val (.int s3), .val (.int pr), .val (.int z64), .unset] [])) _
        refine XS.iconst X0.here hx rfl (hb hby d3_72) ?_
        show Steps p.tables e below (s₁.setTop (mkF m 73 #[.val (.ref mk), .val (.int i), .val (.int init), .val (.int n), .val (.int s0), .val (.int s1), .val (.int s2), .val (.int s3), .val (.int pr), .val (.int z64), .unset] [(.int (0 : Int32))])) _
        repeat rw [if_pos hc66] at kt
        repeat rw [if_pos hc67] at kt
        exact kt
      · refine XS.ifNo X0.here hx rfl (hb hby d3_65) rfl ((if0 _ _).trans (feq hc67).1) ?_
        show Steps p.tables e below (s₁.setTop (mkF m 68 #[.val (.ref mk), .val (.int i), .val (.int init), .val (.int n), .val (.int s0), .val (.int s1), .val (.int s2), .val (.int s3), .val (.int pr), .val (.int z64), .unset] [])) _
        refine XS.iconst X0.here hx rfl (hb hby d3_68) ?_
        show Steps p.tables e below (s₁.setTop (mkF m 69 #[.val (.ref mk), .val (.int i), .val (.int init), .val (.int n), .val (.int s0), .val (.int s1), .val (.int s2), .val (.int s3), .val (.int pr), .val (.int z64), .unset] [(.int (1 : Int32))])) _
        refine XS.goto X0.here hx rfl (pc0 := 69) (pc' := 73) rfl (hb hby d3_69) (by decide) (by decide) ?_
        show Steps p.tables e below (s₁.setTop (mkF m 73 #[.val (.ref mk), .val (.int i), .val (.int init), .val (.int n), .val (.int s0), .val (.int s1), .val (.int s2), .val (.int s3), .val (.int pr), .val (.int z64), .unset] [(.int (1 : Int32))])) _
        repeat rw [if_pos hc66] at kt
        repeat rw [if_neg hc67] at kt
        exact kt
    · refine XS.ifNo X0.here hx rfl (hb hby d3_52) rfl ((if0 _ _).trans (feq hc66).1) ?_
      show Steps p.tables e below (s₁.setTop (mkF m 55 #[.val (.ref mk), .val (.int i), .val (.int init), .val (.int n), .val (.int s0), .val (.int s1), .val (.int s2), .val (.int s3), .val (.int pr), .val (.int z64), .unset] [])) _
      refine XS.iload X0.here hx rfl (hb hby d3_55) rfl ?_
      show Steps p.tables e below (s₁.setTop (mkF m 57 #[.val (.ref mk), .val (.int i), .val (.int init), .val (.int n), .val (.int s0), .val (.int s1), .val (.int s2), .val (.int s3), .val (.int pr), .val (.int z64), .unset] [(.int pr)])) _
      refine XS.goto X0.here hx rfl (pc0 := 57) (pc' := 73) rfl (hb hby d3_57) (by decide) (by decide) ?_
      show Steps p.tables e below (s₁.setTop (mkF m 73 #[.val (.ref mk), .val (.int i), .val (.int init), .val (.int n), .val (.int s0), .val (.int s1), .val (.int s2), .val (.int s3), .val (.int pr), .val (.int z64), .unset] [(.int pr)])) _
      repeat rw [if_neg hc66] at kt
      exact kt
  obtain ⟨z72, ez72⟩ : ∃ z : Int32, z = (if z64 = (0 : Int32) then (if (((init.toUInt32 >>> (i &&& 31).toUInt32).toInt32) &&& (1 : Int32)) = (0 : Int32) then (0 : Int32) else (1 : Int32)) else pr) := ⟨_, rfl⟩
  obtain ⟨cl77_73, Ar77_73, q77_73, S77_73, N77_73_, H77_73, G77_73⟩ := id Vm
  have hin77_73 : ¬ (i < 0 ∨ cl77_73.slots.size ≤ (i).toNatClampNeg) := inb_of S77_73 ⟨h1, h2⟩
  have hat77_73 : cl77_73.slots[(i).toNatClampNeg]? = some (.int x) := H77_73.at hin77_73 hg
  have k74 : ∀ tg, Steps p.tables e below (s₁.setTop (mkF m 80 #[.val (.ref mk), .val (.int i), .val (.int init), .val (.int n), .val (.int s0), .val (.int s1), .val (.int s2), .val (.int s3), .val (.int pr), .val (.int z64), .val (.int z72)] [(.int z72), (.int x)])) tg → Steps p.tables e below (s₁.setTop (entryFrame m #[(.ref mk), (.int i), (.int init), (.int n), (.int s0), (.int s1), (.int s2), (.int s3), (.int pr)] 11)) tg := by
    intro tg kt
    refine k71 tg ?_
    show Steps p.tables e below (s₁.setTop (mkF m 73 #[.val (.ref mk), .val (.int i), .val (.int init), .val (.int n), .val (.int s0), .val (.int s1), .val (.int s2), .val (.int s3), .val (.int pr), .val (.int z64), .unset] [(.int (if z64 = (0 : Int32) then (if (((init.toUInt32 >>> (i &&& 31).toUInt32).toInt32) &&& (1 : Int32)) = (0 : Int32) then (0 : Int32) else (1 : Int32)) else pr))])) _
    rw [← ez72]
    show Steps p.tables e below (s₁.setTop (mkF m 73 #[.val (.ref mk), .val (.int i), .val (.int init), .val (.int n), .val (.int s0), .val (.int s1), .val (.int s2), .val (.int s3), .val (.int pr), .val (.int z64), .unset] [(.int z72)])) _
    refine XS.istore X0.here hx rfl (hb hby d3_73) rfl (l' := #[.val (.ref mk), .val (.int i), .val (.int init), .val (.int n), .val (.int s0), .val (.int s1), .val (.int s2), .val (.int s3), .val (.int pr), .val (.int z64), .val (.int z72)]) rfl ?_
    show Steps p.tables e below (s₁.setTop (mkF m 75 #[.val (.ref mk), .val (.int i), .val (.int init), .val (.int n), .val (.int s0), .val (.int s1), .val (.int s2), .val (.int s3), .val (.int pr), .val (.int z64), .val (.int z72)] [])) _
    refine XS.aloadN X0.here hx rfl (hb hby d3_75) rfl rfl ?_
    show Steps p.tables e below (s₁.setTop (mkF m 76 #[.val (.ref mk), .val (.int i), .val (.int init), .val (.int n), .val (.int s0), .val (.int s1), .val (.int s2), .val (.int s3), .val (.int pr), .val (.int z64), .val (.int z72)] [(.ref mk)])) _
    refine XS.iloadN X0.here hx rfl (hb hby d3_76) rfl ?_
    show Steps p.tables e below (s₁.setTop (mkF m 77 #[.val (.ref mk), .val (.int i), .val (.int init), .val (.int n), .val (.int s0), .val (.int s1), .val (.int s2), .val (.int s3), .val (.int pr), .val (.int z64), .val (.int z72)] [(.int i), (.ref mk)])) _
    refine X0.baloadBooleans hx (j := i) (v := (.int x)) (by rw [e0]; exact Ar77_73.1) (State.isArrayOf_alike hZ.alike Ar77_73.2.1) Ar77_73.2.2 hin77_73 hat77_73 (g := (mkF m 77 #[.val (.ref mk), .val (.int i), .val (.int init), .val (.int n), .val (.int s0), .val (.int s1), .val (.int s2), .val (.int s3), .val (.int pr), .val (.int z64), .val (.int z72)] [(.int i), (.ref mk)])) rfl rfl (hb hby d3_77) _ ?_
    show Steps p.tables e below (s₁.setTop (mkF m 78 #[.val (.ref mk), .val (.int i), .val (.int init), .val (.int n), .val (.int s0), .val (.int s1), .val (.int s2), .val (.int s3), .val (.int pr), .val (.int z64), .val (.int z72)] [(.int x)])) _
    refine XS.iload X0.here hx rfl (hb hby d3_78) rfl ?_
    show Steps p.tables e below (s₁.setTop (mkF m 80 #[.val (.ref mk), .val (.int i), .val (.int init), .val (.int n), .val (.int s0), .val (.int s1), .val (.int s2), .val (.int s3), .val (.int pr), .val (.int z64), .val (.int z72)] [(.int z72), (.int x)])) _
    exact kt
  have k78 : ∀ tg, Steps p.tables e below (s₁.setTop (mkF m 88 #[.val (.ref mk), .val (.int i), .val (.int init), .val (.int n), .val (.int s0), .val (.int s1), .val (.int s2), .val (.int s3), .val (.int pr), .val (.int z64), .val (.int z72)] [(.int (if x = z72 then (1 : Int32) else (0 : Int32)))])) tg → Steps p.tables e below (s₁.setTop (entryFrame m #[(.ref mk), (.int i), (.int init), (.int n), (.int s0), (.int s1), (.int s2), (.int s3), (.int pr)] 11)) tg := by
    intro tg kt
    refine k74 tg ?_
    show Steps p.tables e below (s₁.setTop (mkF m 80 #[.val (.ref mk), .val (.int i), .val (.int init), .val (.int n), .val (.int s0), .val (.int s1), .val (.int s2), .val (.int s3), .val (.int pr), .val (.int z64), .val (.int z72)] [(.int z72), (.int x)])) _
    by_cases hc75 : x = z72
    · refine XS.icmpNo X0.here hx rfl (hb hby d3_80) rfl (teq hc75).2 ?_
      show Steps p.tables e below (s₁.setTop (mkF m 83 #[.val (.ref mk), .val (.int i), .val (.int init), .val (.int n), .val (.int s0), .val (.int s1), .val (.int s2), .val (.int s3), .val (.int pr), .val (.int z64), .val (.int z72)] [])) _
      refine XS.iconst X0.here hx rfl (hb hby d3_83) ?_
      show Steps p.tables e below (s₁.setTop (mkF m 84 #[.val (.ref mk), .val (.int i), .val (.int init), .val (.int n), .val (.int s0), .val (.int s1), .val (.int s2), .val (.int s3), .val (.int pr), .val (.int z64), .val (.int z72)] [(.int (1 : Int32))])) _
      refine XS.goto X0.here hx rfl (pc0 := 84) (pc' := 88) rfl (hb hby d3_84) (by decide) (by decide) ?_
      show Steps p.tables e below (s₁.setTop (mkF m 88 #[.val (.ref mk), .val (.int i), .val (.int init), .val (.int n), .val (.int s0), .val (.int s1), .val (.int s2), .val (.int s3), .val (.int pr), .val (.int z64), .val (.int z72)] [(.int (1 : Int32))])) _
      repeat rw [if_pos hc75] at kt
      exact kt
    · refine XS.icmpYes X0.here hx rfl (pc0 := 80) (pc' := 87) rfl (hb hby d3_80) rfl (feq hc75).2 (by decide) (by decide) ?_
      show Steps p.tables e below (s₁.setTop (mkF m 87 #[.val (.ref mk), .val (.int i), .val (.int init), .val (.int n), .val (.int s0), .val (.int s1), .val (.int s2), .val (.int s3), .val (.int pr), .val (.int z64), .val (.int z72)] [])) _
      refine XS.iconst X0.here hx rfl (hb hby d3_87) ?_
      show Steps p.tables e below (s₁.setTop (mkF m 88 #[.val (.ref mk), .val (.int i), .val (.int init), .val (.int n), .val (.int s0), .val (.int s1), .val (.int s2), .val (.int s3), .val (.int pr), .val (.int z64), .val (.int z72)] [(.int (0 : Int32))])) _
      repeat rw [if_neg hc75] at kt
      exact kt
  obtain ⟨z79, ez79⟩ : ∃ z : Int32, z = (if x = z72 then (1 : Int32) else (0 : Int32)) := ⟨_, rfl⟩
  have k80 : ∀ tg, Steps p.tables e below (s₁.setTop (mkF m 88 #[.val (.ref mk), .val (.int i), .val (.int init), .val (.int n), .val (.int s0), .val (.int s1), .val (.int s2), .val (.int s3), .val (.int pr), .val (.int z64), .val (.int z72)] [(.int z79)])) tg → Steps p.tables e below (s₁.setTop (entryFrame m #[(.ref mk), (.int i), (.int init), (.int n), (.int s0), (.int s1), (.int s2), (.int s3), (.int pr)] 11)) tg := by
    intro tg kt
    refine k78 tg ?_
    show Steps p.tables e below (s₁.setTop (mkF m 88 #[.val (.ref mk), .val (.int i), .val (.int init), .val (.int n), .val (.int s0), .val (.int s1), .val (.int s2), .val (.int s3), .val (.int pr), .val (.int z64), .val (.int z72)] [(.int (if x = z72 then (1 : Int32) else (0 : Int32)))])) _
    rw [← ez79]
    show Steps p.tables e below (s₁.setTop (mkF m 88 #[.val (.ref mk), .val (.int i), .val (.int init), .val (.int n), .val (.int s0), .val (.int s1), .val (.int s2), .val (.int s3), .val (.int pr), .val (.int z64), .val (.int z72)] [(.int z79)])) _
    exact kt
  obtain ⟨fs, hr, hrun, hended, hW, hsame⟩ := X0.leave (v := some (.int z79)) (fun h => by rw [Bd.returns] at h; cases h)
  refine ⟨_, _, k80 _ ?_, hrun, hended, _, _, rfl, ?_, ⟨_, rfl⟩, hW, hsame.mono (by decide) (by decide)⟩
  · exact retN X0 hx (t := .boolean) Bd.returns (by simp) (hb hby d3_88) (by rw [show nar .boolean z79 = z79 from (by rw [ez79]; (repeat' split) <;> decide)]; exact hr)
  · show QV _ h0 n0 _ s₁.heap _
    exact ⟨by subst ez64 ez72 ez79; rfl, N0, e0⟩
def atF (i init n s0 s1 s2 s3 pr x : Int32) : Int32 := (if x = (if (if (0 : Int32) < n then (if s0 = i then (1 : Int32) else (if (1 : Int32) < n then (if s1 = i then (1 : Int32) else (if (2 : Int32) < n then (if s2 = i then (1 : Int32) else (if (3 : Int32) < n then (if s3 = i then (1 : Int32) else (0 : Int32)) else (0 : Int32))) else (if (3 : Int32) < n then (if s3 = i then (1 : Int32) else (0 : Int32)) else (0 : Int32)))) else (if (2 : Int32) < n then (if s2 = i then (1 : Int32) else (if (3 : Int32) < n then (if s3 = i then (1 : Int32) else (0 : Int32)) else (0 : Int32))) else (if (3 : Int32) < n then (if s3 = i then (1 : Int32) else (0 : Int32)) else (0 : Int32))))) else (if (1 : Int32) < n then (if s1 = i then (1 : Int32) else (if (2 : Int32) < n then (if s2 = i then (1 : Int32) else (if (3 : Int32) < n then (if s3 = i then (1 : Int32) else (0 : Int32)) else (0 : Int32))) else (if (3 : Int32) < n then (if s3 = i then (1 : Int32) else (0 : Int32)) else (0 : Int32)))) else (if (2 : Int32) < n then (if s2 = i then (1 : Int32) else (if (3 : Int32) < n then (if s3 = i then (1 : Int32) else (0 : Int32)) else (0 : Int32))) else (if (3 : Int32) < n then (if s3 = i then (1 : Int32) else (0 : Int32)) else (0 : Int32))))) = (0 : Int32) then (if (((init.toUInt32 >>> (i &&& 31).toUInt32).toInt32) &&& (1 : Int32)) = (0 : Int32) then (0 : Int32) else (1 : Int32)) else pr) then (1 : Int32) else (0 : Int32))
theorem d1_0 : decode method_3_code 0 = .ok (.iload_n 0, 1) := by decide +kernel
theorem d1_1 : decode method_3_code 1 = .ok (.ifCond .ne 7, 3) := by decide +kernel
theorem d1_4 : decode method_3_code 4 = .ok (.iconst 0, 1) := by decide +kernel
theorem d1_5 : decode method_3_code 5 = .ok (.newarray .int, 2) := by decide +kernel
theorem d1_7 : decode method_3_code 7 = .ok (.areturn, 1) := by decide +kernel
theorem pn_1 : plainName "pushwise/BoxesPlacePinLaw" = true := by first | (simp [plainName, overriddenIn]; done) | decide +kernel
theorem ef_rmBox0 (m : MethodId) (s0 : Int32) (s1 : Int32) (s2 : Int32) (s3 : Int32) : entryFrame m #[(.int (0 : Int32)), (.int s0), (.int s1), (.int s2), (.int s3)] 5 = mkF m 0 #[.val (.int (0 : Int32)), .val (.int s0), .val (.int s1), .val (.int s2), .val (.int s3)] [] := by first | (simp [entryFrame, mkF, argsToLocals, Value.category]; done) | rfl
set_option maxRecDepth 65536 in
set_option maxHeartbeats 40000000 in
theorem rmBox0 (l : Launch) (Z : State) (a0 : Array Value) (hw : ∀ d ∈ tables_1, d.before a0 Z = true) (ws : List Jvm.Cond) (s0 : Int32) (s1 : Int32) (s2 : Int32) (s3 : Int32)  (h0 : Heap) (n0 : Nat) (Z0 : n0 ≤ h0.size)  :
    MetFree l (⟨"pushwise/BoxesPlacePinLaw", "boxesOf", "(IIIII)[I"⟩ : MethodName) (head1 (Jvm.Cond.code (⟨"pushwise/BoxesPlacePinLaw", "boxesOf", "(IIIII)[I"⟩ : MethodName) method_3_code 5 (some (.array .int)) :: ws) ({ frames := 0, cells := 1, slots := 0, locals := 0 } : Room)) (fun a_ U_ => a_ = #[(.int (0 : Int32)), (.int s0), (.int s1), (.int s2), (.int s3)] ∧ Z.Warmed39 U_.vm ∧ U_.heap = h0) (fun _ _ _ _ _ => True) (fun _ U_ o_ U'_ => ∃ v_ L_, o_ = .returned v_ ∧ QBox Z (0 : Int32) [] h0 n0 v_ U'_.heap L_ ∧ FrameEnd U_ o_ U'_ L_ ({ frames := 0, cells := 1, slots := 0, locals := 0 } : Room).cells ({ frames := 0, cells := 1, slots := 0, locals := 0 } : Room).slots) := by
  refine MetFree.of_bodySF (plainFor_of_name pn_1) hisR ?_
  intro p e s m args below meth c s₁ Bd hml0 hP hK
  obtain ⟨rfl, hZ, hh⟩ := hP
  have hx := Bd.exec
  have hby := Bd.bytes
  have hml : c.maxLocals = 5 := hml0
  have hown : s.vm.findClass "pushwise/BoxesPlacePinLaw" = some m.cls := findClass_of_methodNamed Bd.named
  have hnm := (name_of_methodNamed Bd.named Bd.method).1
  have X0 : Stand p l e ({ frames := 0, cells := 1, slots := 0, locals := 0 } : Room) s m #[(.int (0 : Int32)), (.int s0), (.int s1), (.int s2), (.int s3)] below meth c s₁ [] 0 0 := Stand.of_body Bd
  have e0 : s₁.heap = h0 := by rw [← hh, Bd.state]; rfl
  have N0 := Fr.nil n0
  have k0 : ∀ tg, Steps p.tables e below (s₁.setTop (mkF m 0 #[.val (.int (0 : Int32)), .val (.int s0), .val (.int s1), .val (.int s2), .val (.int s3)] [])) tg → Steps p.tables e below (s₁.setTop (entryFrame m #[(.int (0 : Int32)), (.int s0), (.int s1), (.int s2), (.int s3)] 5)) tg := fun tg kq_ => castTop (ef_rmBox0 m s0 s1 s2 s3) kq_
  have hd1 : (0 : Int32) = (0 : Int32) := rfl
  obtain ⟨T2, h2, c2, X2, e2, E2, A2, st2⟩ := newP X0 hx hZ (hw _ (List.mem_of_getElem? (i := 6) rfl)) e0 (g := (mkF m 5 #[.val (.int (0 : Int32)), .val (.int s0), .val (.int s1), .val (.int s2), .val (.int s3)] [(.int (0 : Int32))])) rfl (hb hby d1_5) rfl (by decide) (cap := 0) (by decide) (by decide) (by decide) (by decide)
  obtain ⟨b2, g2⟩ : ∃ z, z = h0.size := ⟨_, rfl⟩
  have g_b2 : n0 ≤ b2 := Nat.le_trans Z0 (Nat.le_of_eq g2.symm)
  have sz_b2 : h0.size ≤ b2 := Nat.le_trans (Keep.refl h0 []).1 (Nat.le_of_eq g2.symm)
  rw [← g2] at A2 st2
  have Z2 := Nat.le_trans Z0 E2.1
  have KP2 := (Keep.refl h0 []).ext E2
  have V_b2 : Arv Z h2 b2 c2 .int (0 : Int32) [] (.int (0 : Int32)) := (Arv.new A2 (by decide)).pad (pad_rep [] (.int (0 : Int32)) 0)
  have k3 : ∀ tg, Steps p.tables e below (T2.setTop (mkF m 7 #[.val (.int (0 : Int32)), .val (.int s0), .val (.int s1), .val (.int s2), .val (.int s3)] [(.ref b2)])) tg → Steps p.tables e below (s₁.setTop (entryFrame m #[(.int (0 : Int32)), (.int s0), (.int s1), (.int s2), (.int s3)] 5)) tg := by
    intro tg kt
    refine k0 tg ?_
    show Steps p.tables e below (s₁.setTop (mkF m 0 #[.val (.int (0 : Int32)), .val (.int s0), .val (.int s1), .val (.int s2), .val (.int s3)] [])) _
    refine XS.iloadN X0.here hx rfl (hb hby d1_0) rfl ?_
    show Steps p.tables e below (s₁.setTop (mkF m 1 #[.val (.int (0 : Int32)), .val (.int s0), .val (.int s1), .val (.int s2), .val (.int s3)] [(.int (0 : Int32))])) _
    refine XS.ifNo X0.here hx rfl (hb hby d1_1) rfl ((if0 _ _).trans (teq hd1).2) ?_
    show Steps p.tables e below (s₁.setTop (mkF m 4 #[.val (.int (0 : Int32)), .val (.int s0), .val (.int s1), .val (.int s2), .val (.int s3)] [])) _
    refine XS.iconst X0.here hx rfl (hb hby d1_4) ?_
    show Steps p.tables e below (s₁.setTop (mkF m 5 #[.val (.int (0 : Int32)), .val (.int s0), .val (.int s1), .val (.int s2), .val (.int s3)] [(.int (0 : Int32))])) _
    refine st2 _ ?_
    show Steps p.tables e below (T2.setTop (mkF m 7 #[.val (.int (0 : Int32)), .val (.int s0), .val (.int s1), .val (.int s2), .val (.int s3)] [(.ref b2)])) _
    exact kt
  obtain ⟨fs, hr, hrun, hended, hW, hsame⟩ := X2.leave (v := some (.ref b2)) (fun h => by rw [Bd.returns] at h; cases h)
  refine ⟨_, _, k3 _ ?_, hrun, hended, _, _, rfl, ?_, ⟨_, rfl⟩, hW, hsame.mono (by decide) (by decide)⟩
  · exact own_retA X2 hx Bd.returns rfl (hb hby d1_7) hr
  · show QBox Z (0 : Int32) [] h0 n0 _ T2.heap _
    rw [e2]
    exact ⟨N0, KP2, b2, c2, rfl, sz_b2, V_b2⟩
theorem d2_0 : decode prog_1_method_4_code 0 = .ok (.aload_n 1, 1) := by decide +kernel
theorem d2_1 : decode prog_1_method_4_code 1 = .ok (.astore_n 3, 1) := by decide +kernel
theorem d2_2 : decode prog_1_method_4_code 2 = .ok (.aload_n 3, 1) := by decide +kernel
theorem d2_3 : decode prog_1_method_4_code 3 = .ok (.arraylength, 1) := by decide +kernel
theorem d2_4 : decode prog_1_method_4_code 4 = .ok (.istore 4, 2) := by decide +kernel
theorem d2_6 : decode prog_1_method_4_code 6 = .ok (.iconst 0, 1) := by decide +kernel
theorem d2_7 : decode prog_1_method_4_code 7 = .ok (.istore 5, 2) := by decide +kernel
theorem d2_9 : decode prog_1_method_4_code 9 = .ok (.iload 5, 2) := by decide +kernel
theorem d2_11 : decode prog_1_method_4_code 11 = .ok (.iload 4, 2) := by decide +kernel
theorem d2_13 : decode prog_1_method_4_code 13 = .ok (.if_icmp .ge 20, 3) := by decide +kernel
theorem d2_33 : decode prog_1_method_4_code 33 = .ok (.return_, 1) := by decide +kernel
theorem pn_2 : plainName "pushwise/Boxes" = true := by first | (simp [plainName, overriddenIn]; done) | decide +kernel
theorem ef_rmPlace0 (m : MethodId) (mk : Addr) (bx : Addr) (pr : Int32) : entryFrame m #[(.ref mk), (.ref bx), (.int pr)] 7 = mkF m 0 #[.val (.ref mk), .val (.ref bx), .val (.int pr), .unset, .unset, .unset, .unset] [] := by first | (simp [entryFrame, mkF, argsToLocals, Value.category]; done) | rfl
set_option maxRecDepth 65536 in
set_option maxHeartbeats 40000000 in
theorem rmPlace0 (l : Launch) (Z : State) (a0 : Array Value) (hw : ∀ d ∈ tables_1, d.before a0 Z = true) (ws : List Jvm.Cond) (mk : Addr) (bx : Addr) (pr : Int32) (cm cb : ClassId) (vs : List Value)  (h0 : Heap) (n0 : Nat) (Z0 : n0 ≤ h0.size) (Vm : Arv Z h0 mk cm .boolean (8 : Int32) vs (.int (0 : Int32))) (hlen : vs.length = 8) (Vb : Arv Z h0 bx cb .int (0 : Int32) [] (.int (0 : Int32))) (ne_m_b : mk ≠ bx) (g_mk : n0 ≤ mk)  :
    MetFree l (⟨"pushwise/Boxes", "place", "([Z[IZ)V"⟩ : MethodName) (head1 (Jvm.Cond.code (⟨"pushwise/Boxes", "place", "([Z[IZ)V"⟩ : MethodName) prog_1_method_4_code 7 none :: ws) ({ frames := 0, cells := 0, slots := 0, locals := 0 } : Room)) (fun a_ U_ => a_ = #[(.ref mk), (.ref bx), (.int pr)] ∧ Z.Warmed39 U_.vm ∧ U_.heap = h0) (fun _ _ _ _ _ => True) (fun _ U_ o_ U'_ => ∃ v_ L_, o_ = .returned v_ ∧ QPlace Z mk cm vs h0 n0 v_ U'_.heap L_ ∧ FrameEnd U_ o_ U'_ L_ ({ frames := 0, cells := 0, slots := 0, locals := 0 } : Room).cells ({ frames := 0, cells := 0, slots := 0, locals := 0 } : Room).slots) := by
  refine MetFree.of_bodySF (plainFor_of_name pn_2) hisR ?_
  intro p e s m args below meth c s₁ Bd hml0 hP hK
  obtain ⟨rfl, hZ, hh⟩ := hP
  have hx := Bd.exec
  have hby := Bd.bytes
  have hml : c.maxLocals = 7 := hml0
  have hown : s.vm.findClass "pushwise/Boxes" = some m.cls := findClass_of_methodNamed Bd.named
  have hnm := (name_of_methodNamed Bd.named Bd.method).1
  have X0 : Stand p l e ({ frames := 0, cells := 0, slots := 0, locals := 0 } : Room) s m #[(.ref mk), (.ref bx), (.int pr)] below meth c s₁ [] 0 0 := Stand.of_body Bd
  have e0 : s₁.heap = h0 := by rw [← hh, Bd.state]; rfl
  have N0 := Fr.nil n0
  have k0 : ∀ tg, Steps p.tables e below (s₁.setTop (mkF m 0 #[.val (.ref mk), .val (.ref bx), .val (.int pr), .unset, .unset, .unset, .unset] [])) tg → Steps p.tables e below (s₁.setTop (entryFrame m #[(.ref mk), (.ref bx), (.int pr)] 7)) tg := fun tg kq_ => castTop (ef_rmPlace0 m mk bx pr) kq_
  obtain ⟨cl3_1, Ar3_1, q3_1, S3_1, N3_1_, H3_1, G3_1⟩ := id Vb
  have hd2 : ¬ ((0 : Int32) < (0 : Int32)) := by decide
  have k3 : ∀ tg, Steps p.tables e below (s₁.setTop (mkF m 33 #[.val (.ref mk), .val (.ref bx), .val (.int pr), .val (.ref bx), .val (.int (0 : Int32)), .val (.int (0 : Int32)), .unset] [])) tg → Steps p.tables e below (s₁.setTop (entryFrame m #[(.ref mk), (.ref bx), (.int pr)] 7)) tg := by
    intro tg kt
    refine k0 tg ?_
    show Steps p.tables e below (s₁.setTop (mkF m 0 #[.val (.ref mk), .val (.ref bx), .val (.int pr), .unset, .unset, .unset, .unset] [])) _
    refine XS.aloadN X0.here hx rfl (hb hby d2_0) rfl rfl ?_
    show Steps p.tables e below (s₁.setTop (mkF m 1 #[.val (.ref mk), .val (.ref bx), .val (.int pr), .unset, .unset, .unset, .unset] [(.ref bx)])) _
    refine XS.astoreN X0.here hx rfl (hb hby d2_1) rfl rfl (l' := #[.val (.ref mk), .val (.ref bx), .val (.int pr), .val (.ref bx), .unset, .unset, .unset]) rfl ?_
    show Steps p.tables e below (s₁.setTop (mkF m 2 #[.val (.ref mk), .val (.ref bx), .val (.int pr), .val (.ref bx), .unset, .unset, .unset] [])) _
    refine XS.aloadN X0.here hx rfl (hb hby d2_2) rfl rfl ?_
    show Steps p.tables e below (s₁.setTop (mkF m 3 #[.val (.ref mk), .val (.ref bx), .val (.int pr), .val (.ref bx), .unset, .unset, .unset] [(.ref bx)])) _
    refine X0.arraylength hx (by rw [e0]; exact Ar3_1.1) (State.isArrayOf_alike hZ.alike Ar3_1.2.1) (g := (mkF m 3 #[.val (.ref mk), .val (.ref bx), .val (.int pr), .val (.ref bx), .unset, .unset, .unset] [(.ref bx)])) rfl rfl (hb hby d2_3) _ ?_
    rw [len_of S3_1 N3_1_]
    show Steps p.tables e below (s₁.setTop (mkF m 4 #[.val (.ref mk), .val (.ref bx), .val (.int pr), .val (.ref bx), .unset, .unset, .unset] [(.int (0 : Int32))])) _
    refine XS.istore X0.here hx rfl (hb hby d2_4) rfl (l' := #[.val (.ref mk), .val (.ref bx), .val (.int pr), .val (.ref bx), .val (.int (0 : Int32)), .unset, .unset]) rfl ?_
    show Steps p.tables e below (s₁.setTop (mkF m 6 #[.val (.ref mk), .val (.ref bx), .val (.int pr), .val (.ref bx), .val (.int (0 : Int32)), .unset, .unset] [])) _
    refine XS.iconst X0.here hx rfl (hb hby d2_6) ?_
    show Steps p.tables e below (s₁.setTop (mkF m 7 #[.val (.ref mk), .val (.ref bx), .val (.int pr), .val (.ref bx), .val (.int (0 : Int32)), .unset, .unset] [(.int (0 : Int32))])) _
    refine XS.istore X0.here hx rfl (hb hby d2_7) rfl (l' := #[.val (.ref mk), .val (.ref bx), .val (.int pr), .val (.ref bx), .val (.int (0 : Int32)), .val (.int (0 : Int32)), .unset]) rfl ?_
    show Steps p.tables e below (s₁.setTop (mkF m 9 #[.val (.ref mk), .val (.ref bx), .val (.int pr), .val (.ref bx), .val (.int (0 : Int32)), .val (.int (0 : Int32)), .unset] [])) _
    refine XS.iload X0.here hx rfl (hb hby d2_9) rfl ?_
    show Steps p.tables e below (s₁.setTop (mkF m 11 #[.val (.ref mk), .val (.ref bx), .val (.int pr), .val (.ref bx), .val (.int (0 : Int32)), .val (.int (0 : Int32)), .unset] [(.int (0 : Int32))])) _
    refine XS.iload X0.here hx rfl (hb hby d2_11) rfl ?_
    show Steps p.tables e below (s₁.setTop (mkF m 13 #[.val (.ref mk), .val (.ref bx), .val (.int pr), .val (.ref bx), .val (.int (0 : Int32)), .val (.int (0 : Int32)), .unset] [(.int (0 : Int32)), (.int (0 : Int32))])) _
    refine XS.icmpYes X0.here hx rfl (pc0 := 13) (pc' := 33) rfl (hb hby d2_13) rfl (flt hd2).2.1 (by decide) (by decide) ?_
    show Steps p.tables e below (s₁.setTop (mkF m 33 #[.val (.ref mk), .val (.ref bx), .val (.int pr), .val (.ref bx), .val (.int (0 : Int32)), .val (.int (0 : Int32)), .unset] [])) _
    exact kt
  obtain ⟨fs, hr, hrun, hended, hW, hsame⟩ := X0.leave (v := none) (fun _ => rfl)
  refine ⟨_, _, k3 _ ?_, hrun, hended, _, _, rfl, ?_, ⟨_, rfl⟩, hW, hsame.mono (by decide) (by decide)⟩
  · exact X0.returnOut hx Bd.returns (hb hby d2_33) hr
  · show QPlace Z mk cm vs h0 n0 _ s₁.heap _
    rw [e0]
    exact ⟨rfl, N0, (Keep.refl h0 [mk]), Vm⟩
theorem d1_8 : decode method_3_code 8 = .ok (.iload_n 0, 1) := by decide +kernel
theorem d1_9 : decode method_3_code 9 = .ok (.iconst 1, 1) := by decide +kernel
theorem d1_10 : decode method_3_code 10 = .ok (.if_icmp .ne 11, 3) := by decide +kernel
theorem d1_13 : decode method_3_code 13 = .ok (.iconst 1, 1) := by decide +kernel
theorem d1_14 : decode method_3_code 14 = .ok (.newarray .int, 2) := by decide +kernel
theorem d1_16 : decode method_3_code 16 = .ok (.dup, 1) := by decide +kernel
theorem d1_17 : decode method_3_code 17 = .ok (.iconst 0, 1) := by decide +kernel
theorem d1_18 : decode method_3_code 18 = .ok (.iload_n 1, 1) := by decide +kernel
theorem d1_19 : decode method_3_code 19 = .ok (.iastore, 1) := by decide +kernel
theorem d1_20 : decode method_3_code 20 = .ok (.areturn, 1) := by decide +kernel
theorem ef_rmBox1 (m : MethodId) (s0 : Int32) (s1 : Int32) (s2 : Int32) (s3 : Int32) : entryFrame m #[(.int (1 : Int32)), (.int s0), (.int s1), (.int s2), (.int s3)] 5 = mkF m 0 #[.val (.int (1 : Int32)), .val (.int s0), .val (.int s1), .val (.int s2), .val (.int s3)] [] := by first | (simp [entryFrame, mkF, argsToLocals, Value.category]; done) | rfl
set_option maxRecDepth 65536 in
set_option maxHeartbeats 40000000 in
theorem rmBox1 (l : Launch) (Z : State) (a0 : Array Value) (hw : ∀ d ∈ tables_1, d.before a0 Z = true) (ws : List Jvm.Cond) (s0 : Int32) (s1 : Int32) (s2 : Int32) (s3 : Int32)  (h0 : Heap) (n0 : Nat) (Z0 : n0 ≤ h0.size)  :
    MetFree l (⟨"pushwise/BoxesPlacePinLaw", "boxesOf", "(IIIII)[I"⟩ : MethodName) (head1 (Jvm.Cond.code (⟨"pushwise/BoxesPlacePinLaw", "boxesOf", "(IIIII)[I"⟩ : MethodName) method_3_code 5 (some (.array .int)) :: ws) ({ frames := 0, cells := 1, slots := 1, locals := 0 } : Room)) (fun a_ U_ => a_ = #[(.int (1 : Int32)), (.int s0), (.int s1), (.int s2), (.int s3)] ∧ Z.Warmed39 U_.vm ∧ U_.heap = h0) (fun _ _ _ _ _ => True) (fun _ U_ o_ U'_ => ∃ v_ L_, o_ = .returned v_ ∧ QBox Z (1 : Int32) [(.int s0)] h0 n0 v_ U'_.heap L_ ∧ FrameEnd U_ o_ U'_ L_ ({ frames := 0, cells := 1, slots := 1, locals := 0 } : Room).cells ({ frames := 0, cells := 1, slots := 1, locals := 0 } : Room).slots) := by
  refine MetFree.of_bodySF (plainFor_of_name pn_1) hisR ?_
  intro p e s m args below meth c s₁ Bd hml0 hP hK
  obtain ⟨rfl, hZ, hh⟩ := hP
  have hx := Bd.exec
  have hby := Bd.bytes
  have hml : c.maxLocals = 5 := hml0
  have hown : s.vm.findClass "pushwise/BoxesPlacePinLaw" = some m.cls := findClass_of_methodNamed Bd.named
  have hnm := (name_of_methodNamed Bd.named Bd.method).1
  have X0 : Stand p l e ({ frames := 0, cells := 1, slots := 1, locals := 0 } : Room) s m #[(.int (1 : Int32)), (.int s0), (.int s1), (.int s2), (.int s3)] below meth c s₁ [] 0 0 := Stand.of_body Bd
  have e0 : s₁.heap = h0 := by rw [← hh, Bd.state]; rfl
  have N0 := Fr.nil n0
  have k0 : ∀ tg, Steps p.tables e below (s₁.setTop (mkF m 0 #[.val (.int (1 : Int32)), .val (.int s0), .val (.int s1), .val (.int s2), .val (.int s3)] [])) tg → Steps p.tables e below (s₁.setTop (entryFrame m #[(.int (1 : Int32)), (.int s0), (.int s1), (.int s2), (.int s3)] 5)) tg := fun tg kq_ => castTop (ef_rmBox1 m s0 s1 s2 s3) kq_
  have hd1 : ¬ ((1 : Int32) = (0 : Int32)) := by decide
  have hd2 : (1 : Int32) = (1 : Int32) := rfl
  obtain ⟨T3, h3, c3, X3, e3, E3, A3, st3⟩ := newP X0 hx hZ (hw _ (List.mem_of_getElem? (i := 6) rfl)) e0 (g := (mkF m 14 #[.val (.int (1 : Int32)), .val (.int s0), .val (.int s1), .val (.int s2), .val (.int s3)] [(.int (1 : Int32))])) rfl (hb hby d1_14) rfl (by decide) (cap := 1) (by decide) (by decide) (by decide) (by decide)
  obtain ⟨b3, g3⟩ : ∃ z, z = h0.size := ⟨_, rfl⟩
  have g_b3 : n0 ≤ b3 := Nat.le_trans Z0 (Nat.le_of_eq g3.symm)
  have sz_b3 : h0.size ≤ b3 := Nat.le_trans (Keep.refl h0 []).1 (Nat.le_of_eq g3.symm)
  rw [← g3] at A3 st3
  have Z3 := Nat.le_trans Z0 E3.1
  have KP3 := (Keep.refl h0 []).ext E3
  have V_b3 : Arv Z h3 b3 c3 .int (1 : Int32) [(.int (0 : Int32))] (.int (0 : Int32)) := (Arv.new A3 (by decide)).pad (pad_rep [] (.int (0 : Int32)) 1)
  obtain ⟨cl19_4, Ar19_4, q19_4, S19_4, N19_4_, H19_4, G19_4⟩ := id V_b3
  have hin19_4 : ¬ ((0 : Int32) < 0 ∨ cl19_4.slots.size ≤ ((0 : Int32)).toNatClampNeg) := inb_of S19_4 ⟨by decide, by decide⟩
  obtain ⟨T5, h5, X5, e5, W5, st5⟩ := stI X3 hx hZ e3 Ar19_4 (j := (0 : Int32)) hin19_4 (g := (mkF m 19 #[.val (.int (1 : Int32)), .val (.int s0), .val (.int s1), .val (.int s2), .val (.int s3)] [(.int s0), (.int (0 : Int32)), (.ref b3), (.ref b3)])) rfl rfl (hb hby d1_19)
  have Z5 := Nat.le_trans Z3 (Keep.of_wr W5).1
  have KP5 := KP3.wr W5 (Or.inr sz_b3)
  have N5 := Fr.snoc X5 N0 g_b3
  have V5_b3 : Arv Z h5 b3 c3 .int (1 : Int32) [(.int s0)] (.int (0 : Int32)) := Arv.set Ar19_4 q19_4 S19_4 N19_4_ H19_4 G19_4 rfl W5 0 rfl (Nat.le_of_ble_eq_true rfl)
  have k6 : ∀ tg, Steps p.tables e below (T5.setTop (mkF m 20 #[.val (.int (1 : Int32)), .val (.int s0), .val (.int s1), .val (.int s2), .val (.int s3)] [(.ref b3)])) tg → Steps p.tables e below (s₁.setTop (entryFrame m #[(.int (1 : Int32)), (.int s0), (.int s1), (.int s2), (.int s3)] 5)) tg := by
    intro tg kt
    refine k0 tg ?_
    show Steps p.tables e below (s₁.setTop (mkF m 0 #[.val (.int (1 : Int32)), .val (.int s0), .val (.int s1), .val (.int s2), .val (.int s3)] [])) _
    refine XS.iloadN X0.here hx rfl (hb hby d1_0) rfl ?_
    show Steps p.tables e below (s₁.setTop (mkF m 1 #[.val (.int (1 : Int32)), .val (.int s0), .val (.int s1), .val (.int s2), .val (.int s3)] [(.int (1 : Int32))])) _
    refine XS.ifYes X0.here hx rfl (pc0 := 1) (pc' := 8) rfl (hb hby d1_1) rfl ((if0 _ _).trans (feq hd1).2) (by decide) (by decide) ?_
    show Steps p.tables e below (s₁.setTop (mkF m 8 #[.val (.int (1 : Int32)), .val (.int s0), .val (.int s1), .val (.int s2), .val (.int s3)] [])) _
    refine XS.iloadN X0.here hx rfl (hb hby d1_8) rfl ?_
    show Steps p.tables e below (s₁.setTop (mkF m 9 #[.val (.int (1 : Int32)), .val (.int s0), .val (.int s1), .val (.int s2), .val (.int s3)] [(.int (1 : Int32))])) _
    refine XS.iconst X0.here hx rfl (hb hby d1_9) ?_
    show Steps p.tables e below (s₁.setTop (mkF m 10 #[.val (.int (1 : Int32)), .val (.int s0), .val (.int s1), .val (.int s2), .val (.int s3)] [(.int (1 : Int32)), (.int (1 : Int32))])) _
    refine XS.icmpNo X0.here hx rfl (hb hby d1_10) rfl (teq hd2).2 ?_
    show Steps p.tables e below (s₁.setTop (mkF m 13 #[.val (.int (1 : Int32)), .val (.int s0), .val (.int s1), .val (.int s2), .val (.int s3)] [])) _
    refine XS.iconst X0.here hx rfl (hb hby d1_13) ?_
    show Steps p.tables e below (s₁.setTop (mkF m 14 #[.val (.int (1 : Int32)), .val (.int s0), .val (.int s1), .val (.int s2), .val (.int s3)] [(.int (1 : Int32))])) _
    refine st3 _ ?_
    show Steps p.tables e below (T3.setTop (mkF m 16 #[.val (.int (1 : Int32)), .val (.int s0), .val (.int s1), .val (.int s2), .val (.int s3)] [(.ref b3)])) _
    refine XS.dup X3.here hx rfl (hb hby d1_16) rfl rfl ?_
    show Steps p.tables e below (T3.setTop (mkF m 17 #[.val (.int (1 : Int32)), .val (.int s0), .val (.int s1), .val (.int s2), .val (.int s3)] [(.ref b3), (.ref b3)])) _
    refine XS.iconst X3.here hx rfl (hb hby d1_17) ?_
    show Steps p.tables e below (T3.setTop (mkF m 18 #[.val (.int (1 : Int32)), .val (.int s0), .val (.int s1), .val (.int s2), .val (.int s3)] [(.int (0 : Int32)), (.ref b3), (.ref b3)])) _
    refine XS.iloadN X3.here hx rfl (hb hby d1_18) rfl ?_
    show Steps p.tables e below (T3.setTop (mkF m 19 #[.val (.int (1 : Int32)), .val (.int s0), .val (.int s1), .val (.int s2), .val (.int s3)] [(.int s0), (.int (0 : Int32)), (.ref b3), (.ref b3)])) _
    refine st5 _ ?_
    show Steps p.tables e below (T5.setTop (mkF m 20 #[.val (.int (1 : Int32)), .val (.int s0), .val (.int s1), .val (.int s2), .val (.int s3)] [(.ref b3)])) _
    exact kt
  obtain ⟨fs, hr, hrun, hended, hW, hsame⟩ := X5.leave (v := some (.ref b3)) (fun h => by rw [Bd.returns] at h; cases h)
  refine ⟨_, _, k6 _ ?_, hrun, hended, _, _, rfl, ?_, ⟨_, rfl⟩, hW, hsame.mono (by decide) (by decide)⟩
  · exact own_retA X5 hx Bd.returns rfl (hb hby d1_20) hr
  · show QBox Z (1 : Int32) [(.int s0)] h0 n0 _ T5.heap _
    rw [e5]
    exact ⟨N5, KP5, b3, c3, rfl, sz_b3, V5_b3⟩
theorem d2_16 : decode prog_1_method_4_code 16 = .ok (.aload_n 3, 1) := by decide +kernel
theorem d2_17 : decode prog_1_method_4_code 17 = .ok (.iload 5, 2) := by decide +kernel
theorem d2_19 : decode prog_1_method_4_code 19 = .ok (.iaload, 1) := by decide +kernel
theorem d2_20 : decode prog_1_method_4_code 20 = .ok (.istore 6, 2) := by decide +kernel
theorem d2_22 : decode prog_1_method_4_code 22 = .ok (.aload_n 0, 1) := by decide +kernel
theorem d2_23 : decode prog_1_method_4_code 23 = .ok (.iload 6, 2) := by decide +kernel
theorem d2_25 : decode prog_1_method_4_code 25 = .ok (.iload_n 2, 1) := by decide +kernel
theorem d2_26 : decode prog_1_method_4_code 26 = .ok (.bastore, 1) := by decide +kernel
theorem d2_27 : decode prog_1_method_4_code 27 = .ok (.iinc 5 1, 3) := by decide +kernel
theorem d2_30 : decode prog_1_method_4_code 30 = .ok (.goto (-21), 3) := by decide +kernel
theorem ef_rmPlace1 (m : MethodId) (mk : Addr) (bx : Addr) (pr : Int32) : entryFrame m #[(.ref mk), (.ref bx), (.int pr)] 7 = mkF m 0 #[.val (.ref mk), .val (.ref bx), .val (.int pr), .unset, .unset, .unset, .unset] [] := by first | (simp [entryFrame, mkF, argsToLocals, Value.category]; done) | rfl
set_option maxRecDepth 65536 in
set_option maxHeartbeats 40000000 in
theorem rmPlace1 (l : Launch) (Z : State) (a0 : Array Value) (hw : ∀ d ∈ tables_1, d.before a0 Z = true) (ws : List Jvm.Cond) (mk : Addr) (bx : Addr) (pr : Int32) (cm cb : ClassId) (vs : List Value) (s0 : Int32) (h0 : Heap) (n0 : Nat) (Z0 : n0 ≤ h0.size) (Vm : Arv Z h0 mk cm .boolean (8 : Int32) vs (.int (0 : Int32))) (hlen : vs.length = 8) (Vb : Arv Z h0 bx cb .int (1 : Int32) [(.int s0)] (.int (0 : Int32))) (ne_m_b : mk ≠ bx) (g_mk : n0 ≤ mk) (hb_s0 : ¬ s0 < 0 ∧ s0 < (8 : Int32)) :
    MetFree l (⟨"pushwise/Boxes", "place", "([Z[IZ)V"⟩ : MethodName) (head1 (Jvm.Cond.code (⟨"pushwise/Boxes", "place", "([Z[IZ)V"⟩ : MethodName) prog_1_method_4_code 7 none :: ws) ({ frames := 0, cells := 0, slots := 0, locals := 0 } : Room)) (fun a_ U_ => a_ = #[(.ref mk), (.ref bx), (.int pr)] ∧ Z.Warmed39 U_.vm ∧ U_.heap = h0) (fun _ _ _ _ _ => True) (fun _ U_ o_ U'_ => ∃ v_ L_, o_ = .returned v_ ∧ QPlace Z mk cm (vs.set s0.toNatClampNeg (.int (nar .boolean pr))) h0 n0 v_ U'_.heap L_ ∧ FrameEnd U_ o_ U'_ L_ ({ frames := 0, cells := 0, slots := 0, locals := 0 } : Room).cells ({ frames := 0, cells := 0, slots := 0, locals := 0 } : Room).slots) := by
  refine MetFree.of_bodySF (plainFor_of_name pn_2) hisR ?_
  intro p e s m args below meth c s₁ Bd hml0 hP hK
  obtain ⟨rfl, hZ, hh⟩ := hP
  have hx := Bd.exec
  have hby := Bd.bytes
  have hml : c.maxLocals = 7 := hml0
  have hown : s.vm.findClass "pushwise/Boxes" = some m.cls := findClass_of_methodNamed Bd.named
  have hnm := (name_of_methodNamed Bd.named Bd.method).1
  have X0 : Stand p l e ({ frames := 0, cells := 0, slots := 0, locals := 0 } : Room) s m #[(.ref mk), (.ref bx), (.int pr)] below meth c s₁ [] 0 0 := Stand.of_body Bd
  have e0 : s₁.heap = h0 := by rw [← hh, Bd.state]; rfl
  have N0 := Fr.nil n0
  have k0 : ∀ tg, Steps p.tables e below (s₁.setTop (mkF m 0 #[.val (.ref mk), .val (.ref bx), .val (.int pr), .unset, .unset, .unset, .unset] [])) tg → Steps p.tables e below (s₁.setTop (entryFrame m #[(.ref mk), (.ref bx), (.int pr)] 7)) tg := fun tg kq_ => castTop (ef_rmPlace1 m mk bx pr) kq_
  obtain ⟨cl3_1, Ar3_1, q3_1, S3_1, N3_1_, H3_1, G3_1⟩ := id Vb
  have hd2 : (0 : Int32) < (1 : Int32) := by decide
  obtain ⟨cl19_3, Ar19_3, q19_3, S19_3, N19_3_, H19_3, G19_3⟩ := id Vb
  have hin19_3 : ¬ ((0 : Int32) < 0 ∨ cl19_3.slots.size ≤ ((0 : Int32)).toNatClampNeg) := inb_of S19_3 ⟨by decide, by decide⟩
  have hat19_3 : cl19_3.slots[((0 : Int32)).toNatClampNeg]? = some (.int s0) := H19_3.at hin19_3 rfl
  obtain ⟨cl26_4, Ar26_4, q26_4, S26_4, N26_4_, H26_4, G26_4⟩ := id Vm
  have hin26_4 : ¬ (s0 < 0 ∨ cl26_4.slots.size ≤ (s0).toNatClampNeg) := inb_of S26_4 ⟨hb_s0.1, hb_s0.2⟩
  obtain ⟨T5, h5, X5, e5, W5, st5⟩ := stZ X0 hx hZ e0 Ar26_4 (j := s0) hin26_4 (g := (mkF m 26 #[.val (.ref mk), .val (.ref bx), .val (.int pr), .val (.ref bx), .val (.int (1 : Int32)), .val (.int (0 : Int32)), .val (.int s0)] [(.int pr), (.int s0), (.ref mk)])) rfl rfl (hb hby d2_26)
  have V5_bx := Vb.other W5 (Ne.symm ne_m_b)
  have Z5 := Nat.le_trans Z0 (Keep.of_wr W5).1
  have KP5 := (Keep.refl h0 [mk]).wr W5 (Or.inl (List.mem_of_getElem? (i := 0) rfl))
  have N5 := Fr.snoc X5 N0 g_mk
  have V5_mk : Arv Z h5 mk cm .boolean (8 : Int32) (vs.set s0.toNatClampNeg (.int (nar .boolean pr))) (.int (0 : Int32)) := Arv.set Ar26_4 q26_4 S26_4 N26_4_ H26_4 G26_4 (fits_nar_bool _) W5 s0.toNatClampNeg rfl (own_lt8 hb_s0 (by simp [hlen]))
  have hd6 : ¬ ((1 : Int32) < (1 : Int32)) := by decide
  have k7 : ∀ tg, Steps p.tables e below (T5.setTop (mkF m 33 #[.val (.ref mk), .val (.ref bx), .val (.int pr), .val (.ref bx), .val (.int (1 : Int32)), .val (.int (1 : Int32)), .val (.int s0)] [])) tg → Steps p.tables e below (s₁.setTop (entryFrame m #[(.ref mk), (.ref bx), (.int pr)] 7)) tg := by
    intro tg kt
    refine k0 tg ?_
    show Steps p.tables e below (s₁.setTop (mkF m 0 #[.val (.ref mk), .val (.ref bx), .val (.int pr), .unset, .unset, .unset, .unset] [])) _
    refine XS.aloadN X0.here hx rfl (hb hby d2_0) rfl rfl ?_
    show Steps p.tables e below (s₁.setTop (mkF m 1 #[.val (.ref mk), .val (.ref bx), .val (.int pr), .unset, .unset, .unset, .unset] [(.ref bx)])) _
    refine XS.astoreN X0.here hx rfl (hb hby d2_1) rfl rfl (l' := #[.val (.ref mk), .val (.ref bx), .val (.int pr), .val (.ref bx), .unset, .unset, .unset]) rfl ?_
    show Steps p.tables e below (s₁.setTop (mkF m 2 #[.val (.ref mk), .val (.ref bx), .val (.int pr), .val (.ref bx), .unset, .unset, .unset] [])) _
    refine XS.aloadN X0.here hx rfl (hb hby d2_2) rfl rfl ?_
    show Steps p.tables e below (s₁.setTop (mkF m 3 #[.val (.ref mk), .val (.ref bx), .val (.int pr), .val (.ref bx), .unset, .unset, .unset] [(.ref bx)])) _
    refine X0.arraylength hx (by rw [e0]; exact Ar3_1.1) (State.isArrayOf_alike hZ.alike Ar3_1.2.1) (g := (mkF m 3 #[.val (.ref mk), .val (.ref bx), .val (.int pr), .val (.ref bx), .unset, .unset, .unset] [(.ref bx)])) rfl rfl (hb hby d2_3) _ ?_
    rw [len_of S3_1 N3_1_]
    show Steps p.tables e below (s₁.setTop (mkF m 4 #[.val (.ref mk), .val (.ref bx), .val (.int pr), .val (.ref bx), .unset, .unset, .unset] [(.int (1 : Int32))])) _
    refine XS.istore X0.here hx rfl (hb hby d2_4) rfl (l' := #[.val (.ref mk), .val (.ref bx), .val (.int pr), .val (.ref bx), .val (.int (1 : Int32)), .unset, .unset]) rfl ?_
    show Steps p.tables e below (s₁.setTop (mkF m 6 #[.val (.ref mk), .val (.ref bx), .val (.int pr), .val (.ref bx), .val (.int (1 : Int32)), .unset, .unset] [])) _
    refine XS.iconst X0.here hx rfl (hb hby d2_6) ?_
    show Steps p.tables e below (s₁.setTop (mkF m 7 #[.val (.ref mk), .val (.ref bx), .val (.int pr), .val (.ref bx), .val (.int (1 : Int32)), .unset, .unset] [(.int (0 : Int32))])) _
    refine XS.istore X0.here hx rfl (hb hby d2_7) rfl (l' := #[.val (.ref mk), .val (.ref bx), .val (.int pr), .val (.ref bx), .val (.int (1 : Int32)), .val (.int (0 : Int32)), .unset]) rfl ?_
    show Steps p.tables e below (s₁.setTop (mkF m 9 #[.val (.ref mk), .val (.ref bx), .val (.int pr), .val (.ref bx), .val (.int (1 : Int32)), .val (.int (0 : Int32)), .unset] [])) _
    refine XS.iload X0.here hx rfl (hb hby d2_9) rfl ?_
    show Steps p.tables e below (s₁.setTop (mkF m 11 #[.val (.ref mk), .val (.ref bx), .val (.int pr), .val (.ref bx), .val (.int (1 : Int32)), .val (.int (0 : Int32)), .unset] [(.int (0 : Int32))])) _
    refine XS.iload X0.here hx rfl (hb hby d2_11) rfl ?_
    show Steps p.tables e below (s₁.setTop (mkF m 13 #[.val (.ref mk), .val (.ref bx), .val (.int pr), .val (.ref bx), .val (.int (1 : Int32)), .val (.int (0 : Int32)), .unset] [(.int (1 : Int32)), (.int (0 : Int32))])) _
    refine XS.icmpNo X0.here hx rfl (hb hby d2_13) rfl (tlt hd2).2.1 ?_
    show Steps p.tables e below (s₁.setTop (mkF m 16 #[.val (.ref mk), .val (.ref bx), .val (.int pr), .val (.ref bx), .val (.int (1 : Int32)), .val (.int (0 : Int32)), .unset] [])) _
    refine XS.aloadN X0.here hx rfl (hb hby d2_16) rfl rfl ?_
    show Steps p.tables e below (s₁.setTop (mkF m 17 #[.val (.ref mk), .val (.ref bx), .val (.int pr), .val (.ref bx), .val (.int (1 : Int32)), .val (.int (0 : Int32)), .unset] [(.ref bx)])) _
    refine XS.iload X0.here hx rfl (hb hby d2_17) rfl ?_
    show Steps p.tables e below (s₁.setTop (mkF m 19 #[.val (.ref mk), .val (.ref bx), .val (.int pr), .val (.ref bx), .val (.int (1 : Int32)), .val (.int (0 : Int32)), .unset] [(.int (0 : Int32)), (.ref bx)])) _
    refine X0.iaload hx (j := (0 : Int32)) (v := (.int s0)) (by rw [e0]; exact Ar19_3.1) (State.isArrayOf_alike hZ.alike Ar19_3.2.1) Ar19_3.2.2 hin19_3 hat19_3 (g := (mkF m 19 #[.val (.ref mk), .val (.ref bx), .val (.int pr), .val (.ref bx), .val (.int (1 : Int32)), .val (.int (0 : Int32)), .unset] [(.int (0 : Int32)), (.ref bx)])) rfl rfl (hb hby d2_19) _ ?_
    show Steps p.tables e below (s₁.setTop (mkF m 20 #[.val (.ref mk), .val (.ref bx), .val (.int pr), .val (.ref bx), .val (.int (1 : Int32)), .val (.int (0 : Int32)), .unset] [(.int s0)])) _
    refine XS.istore X0.here hx rfl (hb hby d2_20) rfl (l' := #[.val (.ref mk), .val (.ref bx), .val (.int pr), .val (.ref bx), .val (.int (1 : Int32)), .val (.int (0 : Int32)), .val (.int s0)]) rfl ?_
    show Steps p.tables e below (s₁.setTop (mkF m 22 #[.val (.ref mk), .val (.ref bx), .val (.int pr), .val (.ref bx), .val (.int (1 : Int32)), .val (.int (0 : Int32)), .val (.int s0)] [])) _
    refine XS.aloadN X0.here hx rfl (hb hby d2_22) rfl rfl ?_
    show Steps p.tables e below (s₁.setTop (mkF m 23 #[.val (.ref mk), .val (.ref bx), .val (.int pr), .val (.ref bx), .val (.int (1 : Int32)), .val (.int (0 : Int32)), .val (.int s0)] [(.ref mk)])) _
    refine XS.iload X0.here hx rfl (hb hby d2_23) rfl ?_
    show Steps p.tables e below (s₁.setTop (mkF m 25 #[.val (.ref mk), .val (.ref bx), .val (.int pr), .val (.ref bx), .val (.int (1 : Int32)), .val (.int (0 : Int32)), .val (.int s0)] [(.int s0), (.ref mk)])) _
    refine XS.iloadN X0.here hx rfl (hb hby d2_25) rfl ?_
    show Steps p.tables e below (s₁.setTop (mkF m 26 #[.val (.ref mk), .val (.ref bx), .val (.int pr), .val (.ref bx), .val (.int (1 : Int32)), .val (.int (0 : Int32)), .val (.int s0)] [(.int pr), (.int s0), (.ref mk)])) _
    refine st5 _ ?_
    show Steps p.tables e below (T5.setTop (mkF m 27 #[.val (.ref mk), .val (.ref bx), .val (.int pr), .val (.ref bx), .val (.int (1 : Int32)), .val (.int (0 : Int32)), .val (.int s0)] [])) _
    refine XS.iinc X5.here hx rfl (hb hby d2_27) rfl (l' := #[.val (.ref mk), .val (.ref bx), .val (.int pr), .val (.ref bx), .val (.int (1 : Int32)), .val (.int ((0 : Int32) + (1 : Int32))), .val (.int s0)]) rfl ?_
    show Steps p.tables e below (T5.setTop (mkF m 30 #[.val (.ref mk), .val (.ref bx), .val (.int pr), .val (.ref bx), .val (.int (1 : Int32)), .val (.int ((0 : Int32) + (1 : Int32))), .val (.int s0)] [])) _
    rw [(by decide : ((0 : Int32) + (1 : Int32)) = (1 : Int32))]
    show Steps p.tables e below (T5.setTop (mkF m 30 #[.val (.ref mk), .val (.ref bx), .val (.int pr), .val (.ref bx), .val (.int (1 : Int32)), .val (.int (1 : Int32)), .val (.int s0)] [])) _
    refine XS.goto X5.here hx rfl (pc0 := 30) (pc' := 9) rfl (hb hby d2_30) (by decide) (by decide) ?_
    show Steps p.tables e below (T5.setTop (mkF m 9 #[.val (.ref mk), .val (.ref bx), .val (.int pr), .val (.ref bx), .val (.int (1 : Int32)), .val (.int (1 : Int32)), .val (.int s0)] [])) _
    refine XS.iload X5.here hx rfl (hb hby d2_9) rfl ?_
    show Steps p.tables e below (T5.setTop (mkF m 11 #[.val (.ref mk), .val (.ref bx), .val (.int pr), .val (.ref bx), .val (.int (1 : Int32)), .val (.int (1 : Int32)), .val (.int s0)] [(.int (1 : Int32))])) _
    refine XS.iload X5.here hx rfl (hb hby d2_11) rfl ?_
    show Steps p.tables e below (T5.setTop (mkF m 13 #[.val (.ref mk), .val (.ref bx), .val (.int pr), .val (.ref bx), .val (.int (1 : Int32)), .val (.int (1 : Int32)), .val (.int s0)] [(.int (1 : Int32)), (.int (1 : Int32))])) _
    refine XS.icmpYes X5.here hx rfl (pc0 := 13) (pc' := 33) rfl (hb hby d2_13) rfl (flt hd6).2.1 (by decide) (by decide) ?_
    show Steps p.tables e below (T5.setTop (mkF m 33 #[.val (.ref mk), .val (.ref bx), .val (.int pr), .val (.ref bx), .val (.int (1 : Int32)), .val (.int (1 : Int32)), .val (.int s0)] [])) _
    exact kt
  obtain ⟨fs, hr, hrun, hended, hW, hsame⟩ := X5.leave (v := none) (fun _ => rfl)
  refine ⟨_, _, k7 _ ?_, hrun, hended, _, _, rfl, ?_, ⟨_, rfl⟩, hW, hsame.mono (by decide) (by decide)⟩
  · exact X5.returnOut hx Bd.returns (hb hby d2_33) hr
  · show QPlace Z mk cm (vs.set s0.toNatClampNeg (.int (nar .boolean pr))) h0 n0 _ T5.heap _
    rw [e5]
    exact ⟨rfl, N5, KP5, V5_mk⟩
theorem d1_21 : decode method_3_code 21 = .ok (.iload_n 0, 1) := by decide +kernel
theorem d1_22 : decode method_3_code 22 = .ok (.iconst 2, 1) := by decide +kernel
theorem d1_23 : decode method_3_code 23 = .ok (.if_icmp .ne 15, 3) := by decide +kernel
theorem d1_26 : decode method_3_code 26 = .ok (.iconst 2, 1) := by decide +kernel
theorem d1_27 : decode method_3_code 27 = .ok (.newarray .int, 2) := by decide +kernel
theorem d1_29 : decode method_3_code 29 = .ok (.dup, 1) := by decide +kernel
theorem d1_30 : decode method_3_code 30 = .ok (.iconst 0, 1) := by decide +kernel
theorem d1_31 : decode method_3_code 31 = .ok (.iload_n 1, 1) := by decide +kernel
theorem d1_32 : decode method_3_code 32 = .ok (.iastore, 1) := by decide +kernel
theorem d1_33 : decode method_3_code 33 = .ok (.dup, 1) := by decide +kernel
theorem d1_34 : decode method_3_code 34 = .ok (.iconst 1, 1) := by decide +kernel
theorem d1_35 : decode method_3_code 35 = .ok (.iload_n 2, 1) := by decide +kernel
theorem d1_36 : decode method_3_code 36 = .ok (.iastore, 1) := by decide +kernel
theorem d1_37 : decode method_3_code 37 = .ok (.areturn, 1) := by decide +kernel
theorem ef_rmBox2 (m : MethodId) (s0 : Int32) (s1 : Int32) (s2 : Int32) (s3 : Int32) : entryFrame m #[(.int (2 : Int32)), (.int s0), (.int s1), (.int s2), (.int s3)] 5 = mkF m 0 #[.val (.int (2 : Int32)), .val (.int s0), .val (.int s1), .val (.int s2), .val (.int s3)] [] := by first | (simp [entryFrame, mkF, argsToLocals, Value.category]; done) | rfl
set_option maxRecDepth 65536 in
set_option maxHeartbeats 40000000 in
theorem rmBox2 (l : Launch) (Z : State) (a0 : Array Value) (hw : ∀ d ∈ tables_1, d.before a0 Z = true) (ws : List Jvm.Cond) (s0 : Int32) (s1 : Int32) (s2 : Int32) (s3 : Int32)  (h0 : Heap) (n0 : Nat) (Z0 : n0 ≤ h0.size)  :
    MetFree l (⟨"pushwise/BoxesPlacePinLaw", "boxesOf", "(IIIII)[I"⟩ : MethodName) (head1 (Jvm.Cond.code (⟨"pushwise/BoxesPlacePinLaw", "boxesOf", "(IIIII)[I"⟩ : MethodName) method_3_code 5 (some (.array .int)) :: ws) ({ frames := 0, cells := 1, slots := 2, locals := 0 } : Room)) (fun a_ U_ => a_ = #[(.int (2 : Int32)), (.int s0), (.int s1), (.int s2), (.int s3)] ∧ Z.Warmed39 U_.vm ∧ U_.heap = h0) (fun _ _ _ _ _ => True) (fun _ U_ o_ U'_ => ∃ v_ L_, o_ = .returned v_ ∧ QBox Z (2 : Int32) [(.int s0), (.int s1)] h0 n0 v_ U'_.heap L_ ∧ FrameEnd U_ o_ U'_ L_ ({ frames := 0, cells := 1, slots := 2, locals := 0 } : Room).cells ({ frames := 0, cells := 1, slots := 2, locals := 0 } : Room).slots) := by
  refine MetFree.of_bodySF (plainFor_of_name pn_1) hisR ?_
  intro p e s m args below meth c s₁ Bd hml0 hP hK
  obtain ⟨rfl, hZ, hh⟩ := hP
  have hx := Bd.exec
  have hby := Bd.bytes
  have hml : c.maxLocals = 5 := hml0
  have hown : s.vm.findClass "pushwise/BoxesPlacePinLaw" = some m.cls := findClass_of_methodNamed Bd.named
  have hnm := (name_of_methodNamed Bd.named Bd.method).1
  have X0 : Stand p l e ({ frames := 0, cells := 1, slots := 2, locals := 0 } : Room) s m #[(.int (2 : Int32)), (.int s0), (.int s1), (.int s2), (.int s3)] below meth c s₁ [] 0 0 := Stand.of_body Bd
  have e0 : s₁.heap = h0 := by rw [← hh, Bd.state]; rfl
  have N0 := Fr.nil n0
  have k0 : ∀ tg, Steps p.tables e below (s₁.setTop (mkF m 0 #[.val (.int (2 : Int32)), .val (.int s0), .val (.int s1), .val (.int s2), .val (.int s3)] [])) tg → Steps p.tables e below (s₁.setTop (entryFrame m #[(.int (2 : Int32)), (.int s0), (.int s1), (.int s2), (.int s3)] 5)) tg := fun tg kq_ => castTop (ef_rmBox2 m s0 s1 s2 s3) kq_
  have hd1 : ¬ ((2 : Int32) = (0 : Int32)) := by decide
  have hd2 : ¬ ((2 : Int32) = (1 : Int32)) := by decide
  have hd3 : (2 : Int32) = (2 : Int32) := rfl
  obtain ⟨T4, h4, c4, X4, e4, E4, A4, st4⟩ := newP X0 hx hZ (hw _ (List.mem_of_getElem? (i := 6) rfl)) e0 (g := (mkF m 27 #[.val (.int (2 : Int32)), .val (.int s0), .val (.int s1), .val (.int s2), .val (.int s3)] [(.int (2 : Int32))])) rfl (hb hby d1_27) rfl (by decide) (cap := 2) (by decide) (by decide) (by decide) (by decide)
  obtain ⟨b4, g4⟩ : ∃ z, z = h0.size := ⟨_, rfl⟩
  have g_b4 : n0 ≤ b4 := Nat.le_trans Z0 (Nat.le_of_eq g4.symm)
  have sz_b4 : h0.size ≤ b4 := Nat.le_trans (Keep.refl h0 []).1 (Nat.le_of_eq g4.symm)
  rw [← g4] at A4 st4
  have Z4 := Nat.le_trans Z0 E4.1
  have KP4 := (Keep.refl h0 []).ext E4
  have V_b4 : Arv Z h4 b4 c4 .int (2 : Int32) [(.int (0 : Int32)), (.int (0 : Int32))] (.int (0 : Int32)) := (Arv.new A4 (by decide)).pad (pad_rep [] (.int (0 : Int32)) 2)
  obtain ⟨cl32_5, Ar32_5, q32_5, S32_5, N32_5_, H32_5, G32_5⟩ := id V_b4
  have hin32_5 : ¬ ((0 : Int32) < 0 ∨ cl32_5.slots.size ≤ ((0 : Int32)).toNatClampNeg) := inb_of S32_5 ⟨by decide, by decide⟩
  obtain ⟨T6, h6, X6, e6, W6, st6⟩ := stI X4 hx hZ e4 Ar32_5 (j := (0 : Int32)) hin32_5 (g := (mkF m 32 #[.val (.int (2 : Int32)), .val (.int s0), .val (.int s1), .val (.int s2), .val (.int s3)] [(.int s0), (.int (0 : Int32)), (.ref b4), (.ref b4)])) rfl rfl (hb hby d1_32)
  have Z6 := Nat.le_trans Z4 (Keep.of_wr W6).1
  have KP6 := KP4.wr W6 (Or.inr sz_b4)
  have N6 := Fr.snoc X6 N0 g_b4
  have V6_b4 : Arv Z h6 b4 c4 .int (2 : Int32) [(.int s0), (.int (0 : Int32))] (.int (0 : Int32)) := Arv.set Ar32_5 q32_5 S32_5 N32_5_ H32_5 G32_5 rfl W6 0 rfl (Nat.le_of_ble_eq_true rfl)
  obtain ⟨cl36_7, Ar36_7, q36_7, S36_7, N36_7_, H36_7, G36_7⟩ := id V6_b4
  have hin36_7 : ¬ ((1 : Int32) < 0 ∨ cl36_7.slots.size ≤ ((1 : Int32)).toNatClampNeg) := inb_of S36_7 ⟨by decide, by decide⟩
  obtain ⟨T8, h8, X8, e8, W8, st8⟩ := stI X6 hx hZ e6 Ar36_7 (j := (1 : Int32)) hin36_7 (g := (mkF m 36 #[.val (.int (2 : Int32)), .val (.int s0), .val (.int s1), .val (.int s2), .val (.int s3)] [(.int s1), (.int (1 : Int32)), (.ref b4), (.ref b4)])) rfl rfl (hb hby d1_36)
  have Z8 := Nat.le_trans Z6 (Keep.of_wr W8).1
  have KP8 := KP6.wr W8 (Or.inr sz_b4)
  have N8 := Fr.snoc X8 N6 g_b4
  have V8_b4 : Arv Z h8 b4 c4 .int (2 : Int32) [(.int s0), (.int s1)] (.int (0 : Int32)) := Arv.set Ar36_7 q36_7 S36_7 N36_7_ H36_7 G36_7 rfl W8 1 rfl (Nat.le_of_ble_eq_true rfl)
  have k9 : ∀ tg, Steps p.tables e below (T8.setTop (mkF m 37 #[.val (.int (2 : Int32)), .val (.int s0), .val (.int s1), .val (.int s2), .val (.int s3)] [(.ref b4)])) tg → Steps p.tables e below (s₁.setTop (entryFrame m #[(.int (2 : Int32)), (.int s0), (.int s1), (.int s2), (.int s3)] 5)) tg := by
    intro tg kt
    refine k0 tg ?_
    show Steps p.tables e below (s₁.setTop (mkF m 0 #[.val (.int (2 : Int32)), .val (.int s0), .val (.int s1), .val (.int s2), .val (.int s3)] [])) _
    refine XS.iloadN X0.here hx rfl (hb hby d1_0) rfl ?_
    show Steps p.tables e below (s₁.setTop (mkF m 1 #[.val (.int (2 : Int32)), .val (.int s0), .val (.int s1), .val (.int s2), .val (.int s3)] [(.int (2 : Int32))])) _
    refine XS.ifYes X0.here hx rfl (pc0 := 1) (pc' := 8) rfl (hb hby d1_1) rfl ((if0 _ _).trans (feq hd1).2) (by decide) (by decide) ?_
    show Steps p.tables e below (s₁.setTop (mkF m 8 #[.val (.int (2 : Int32)), .val (.int s0), .val (.int s1), .val (.int s2), .val (.int s3)] [])) _
    refine XS.iloadN X0.here hx rfl (hb hby d1_8) rfl ?_
    show Steps p.tables e below (s₁.setTop (mkF m 9 #[.val (.int (2 : Int32)), .val (.int s0), .val (.int s1), .val (.int s2), .val (.int s3)] [(.int (2 : Int32))])) _
    refine XS.iconst X0.here hx rfl (hb hby d1_9) ?_
    show Steps p.tables e below (s₁.setTop (mkF m 10 #[.val (.int (2 : Int32)), .val (.int s0), .val (.int s1), .val (.int s2), .val (.int s3)] [(.int (1 : Int32)), (.int (2 : Int32))])) _
    refine XS.icmpYes X0.here hx rfl (pc0 := 10) (pc' := 21) rfl (hb hby d1_10) rfl (feq hd2).2 (by decide) (by decide) ?_
    show Steps p.tables e below (s₁.setTop (mkF m 21 #[.val (.int (2 : Int32)), .val (.int s0), .val (.int s1), .val (.int s2), .val (.int s3)] [])) _
    refine XS.iloadN X0.here hx rfl (hb hby d1_21) rfl ?_
    show Steps p.tables e below (s₁.setTop (mkF m 22 #[.val (.int (2 : Int32)), .val (.int s0), .val (.int s1), .val (.int s2), .val (.int s3)] [(.int (2 : Int32))])) _
    refine XS.iconst X0.here hx rfl (hb hby d1_22) ?_
    show Steps p.tables e below (s₁.setTop (mkF m 23 #[.val (.int (2 : Int32)), .val (.int s0), .val (.int s1), .val (.int s2), .val (.int s3)] [(.int (2 : Int32)), (.int (2 : Int32))])) _
    refine XS.icmpNo X0.here hx rfl (hb hby d1_23) rfl (teq hd3).2 ?_
    show Steps p.tables e below (s₁.setTop (mkF m 26 #[.val (.int (2 : Int32)), .val (.int s0), .val (.int s1), .val (.int s2), .val (.int s3)] [])) _
    refine XS.iconst X0.here hx rfl (hb hby d1_26) ?_
    show Steps p.tables e below (s₁.setTop (mkF m 27 #[.val (.int (2 : Int32)), .val (.int s0), .val (.int s1), .val (.int s2), .val (.int s3)] [(.int (2 : Int32))])) _
    refine st4 _ ?_
    show Steps p.tables e below (T4.setTop (mkF m 29 #[.val (.int (2 : Int32)), .val (.int s0), .val (.int s1), .val (.int s2), .val (.int s3)] [(.ref b4)])) _
    refine XS.dup X4.here hx rfl (hb hby d1_29) rfl rfl ?_
    show Steps p.tables e below (T4.setTop (mkF m 30 #[.val (.int (2 : Int32)), .val (.int s0), .val (.int s1), .val (.int s2), .val (.int s3)] [(.ref b4), (.ref b4)])) _
    refine XS.iconst X4.here hx rfl (hb hby d1_30) ?_
    show Steps p.tables e below (T4.setTop (mkF m 31 #[.val (.int (2 : Int32)), .val (.int s0), .val (.int s1), .val (.int s2), .val (.int s3)] [(.int (0 : Int32)), (.ref b4), (.ref b4)])) _
    refine XS.iloadN X4.here hx rfl (hb hby d1_31) rfl ?_
    show Steps p.tables e below (T4.setTop (mkF m 32 #[.val (.int (2 : Int32)), .val (.int s0), .val (.int s1), .val (.int s2), .val (.int s3)] [(.int s0), (.int (0 : Int32)), (.ref b4), (.ref b4)])) _
    refine st6 _ ?_
    show Steps p.tables e below (T6.setTop (mkF m 33 #[.val (.int (2 : Int32)), .val (.int s0), .val (.int s1), .val (.int s2), .val (.int s3)] [(.ref b4)])) _
    refine XS.dup X6.here hx rfl (hb hby d1_33) rfl rfl ?_
    show Steps p.tables e below (T6.setTop (mkF m 34 #[.val (.int (2 : Int32)), .val (.int s0), .val (.int s1), .val (.int s2), .val (.int s3)] [(.ref b4), (.ref b4)])) _
    refine XS.iconst X6.here hx rfl (hb hby d1_34) ?_
    show Steps p.tables e below (T6.setTop (mkF m 35 #[.val (.int (2 : Int32)), .val (.int s0), .val (.int s1), .val (.int s2), .val (.int s3)] [(.int (1 : Int32)), (.ref b4), (.ref b4)])) _
    refine XS.iloadN X6.here hx rfl (hb hby d1_35) rfl ?_
    show Steps p.tables e below (T6.setTop (mkF m 36 #[.val (.int (2 : Int32)), .val (.int s0), .val (.int s1), .val (.int s2), .val (.int s3)] [(.int s1), (.int (1 : Int32)), (.ref b4), (.ref b4)])) _
    refine st8 _ ?_
    show Steps p.tables e below (T8.setTop (mkF m 37 #[.val (.int (2 : Int32)), .val (.int s0), .val (.int s1), .val (.int s2), .val (.int s3)] [(.ref b4)])) _
    exact kt
  obtain ⟨fs, hr, hrun, hended, hW, hsame⟩ := X8.leave (v := some (.ref b4)) (fun h => by rw [Bd.returns] at h; cases h)
  refine ⟨_, _, k9 _ ?_, hrun, hended, _, _, rfl, ?_, ⟨_, rfl⟩, hW, hsame.mono (by decide) (by decide)⟩
  · exact own_retA X8 hx Bd.returns rfl (hb hby d1_37) hr
  · show QBox Z (2 : Int32) [(.int s0), (.int s1)] h0 n0 _ T8.heap _
    rw [e8]
    exact ⟨N8, KP8, b4, c4, rfl, sz_b4, V8_b4⟩
theorem ef_rmPlace2 (m : MethodId) (mk : Addr) (bx : Addr) (pr : Int32) : entryFrame m #[(.ref mk), (.ref bx), (.int pr)] 7 = mkF m 0 #[.val (.ref mk), .val (.ref bx), .val (.int pr), .unset, .unset, .unset, .unset] [] := by first | (simp [entryFrame, mkF, argsToLocals, Value.category]; done) | rfl
set_option maxRecDepth 65536 in
set_option maxHeartbeats 40000000 in
theorem rmPlace2 (l : Launch) (Z : State) (a0 : Array Value) (hw : ∀ d ∈ tables_1, d.before a0 Z = true) (ws : List Jvm.Cond) (mk : Addr) (bx : Addr) (pr : Int32) (cm cb : ClassId) (vs : List Value) (s0 s1 : Int32) (h0 : Heap) (n0 : Nat) (Z0 : n0 ≤ h0.size) (Vm : Arv Z h0 mk cm .boolean (8 : Int32) vs (.int (0 : Int32))) (hlen : vs.length = 8) (Vb : Arv Z h0 bx cb .int (2 : Int32) [(.int s0), (.int s1)] (.int (0 : Int32))) (ne_m_b : mk ≠ bx) (g_mk : n0 ≤ mk) (hb_s0 : ¬ s0 < 0 ∧ s0 < (8 : Int32)) (hb_s1 : ¬ s1 < 0 ∧ s1 < (8 : Int32)) :
    MetFree l (⟨"pushwise/Boxes", "place", "([Z[IZ)V"⟩ : MethodName) (head1 (Jvm.Cond.code (⟨"pushwise/Boxes", "place", "([Z[IZ)V"⟩ : MethodName) prog_1_method_4_code 7 none :: ws) ({ frames := 0, cells := 0, slots := 0, locals := 0 } : Room)) (fun a_ U_ => a_ = #[(.ref mk), (.ref bx), (.int pr)] ∧ Z.Warmed39 U_.vm ∧ U_.heap = h0) (fun _ _ _ _ _ => True) (fun _ U_ o_ U'_ => ∃ v_ L_, o_ = .returned v_ ∧ QPlace Z mk cm ((vs.set s0.toNatClampNeg (.int (nar .boolean pr))).set s1.toNatClampNeg (.int (nar .boolean pr))) h0 n0 v_ U'_.heap L_ ∧ FrameEnd U_ o_ U'_ L_ ({ frames := 0, cells := 0, slots := 0, locals := 0 } : Room).cells ({ frames := 0, cells := 0, slots := 0, locals := 0 } : Room).slots) := by
  refine MetFree.of_bodySF (plainFor_of_name pn_2) hisR ?_
  intro p e s m args below meth c s₁ Bd hml0 hP hK
  obtain ⟨rfl, hZ, hh⟩ := hP
  have hx := Bd.exec
  have hby := Bd.bytes
  have hml : c.maxLocals = 7 := hml0
  have hown : s.vm.findClass "pushwise/Boxes" = some m.cls := findClass_of_methodNamed Bd.named
  have hnm := (name_of_methodNamed Bd.named Bd.method).1
  have X0 : Stand p l e ({ frames := 0, cells := 0, slots := 0, locals := 0 } : Room) s m #[(.ref mk), (.ref bx), (.int pr)] below meth c s₁ [] 0 0 := Stand.of_body Bd
  have e0 : s₁.heap = h0 := by rw [← hh, Bd.state]; rfl
  have N0 := Fr.nil n0
  have k0 : ∀ tg, Steps p.tables e below (s₁.setTop (mkF m 0 #[.val (.ref mk), .val (.ref bx), .val (.int pr), .unset, .unset, .unset, .unset] [])) tg → Steps p.tables e below (s₁.setTop (entryFrame m #[(.ref mk), (.ref bx), (.int pr)] 7)) tg := fun tg kq_ => castTop (ef_rmPlace2 m mk bx pr) kq_
  obtain ⟨cl3_1, Ar3_1, q3_1, S3_1, N3_1_, H3_1, G3_1⟩ := id Vb
  have hd2 : (0 : Int32) < (2 : Int32) := by decide
  obtain ⟨cl19_3, Ar19_3, q19_3, S19_3, N19_3_, H19_3, G19_3⟩ := id Vb
  have hin19_3 : ¬ ((0 : Int32) < 0 ∨ cl19_3.slots.size ≤ ((0 : Int32)).toNatClampNeg) := inb_of S19_3 ⟨by decide, by decide⟩
  have hat19_3 : cl19_3.slots[((0 : Int32)).toNatClampNeg]? = some (.int s0) := H19_3.at hin19_3 rfl
  obtain ⟨cl26_4, Ar26_4, q26_4, S26_4, N26_4_, H26_4, G26_4⟩ := id Vm
  have hin26_4 : ¬ (s0 < 0 ∨ cl26_4.slots.size ≤ (s0).toNatClampNeg) := inb_of S26_4 ⟨hb_s0.1, hb_s0.2⟩
  obtain ⟨T5, h5, X5, e5, W5, st5⟩ := stZ X0 hx hZ e0 Ar26_4 (j := s0) hin26_4 (g := (mkF m 26 #[.val (.ref mk), .val (.ref bx), .val (.int pr), .val (.ref bx), .val (.int (2 : Int32)), .val (.int (0 : Int32)), .val (.int s0)] [(.int pr), (.int s0), (.ref mk)])) rfl rfl (hb hby d2_26)
  have V5_bx := Vb.other W5 (Ne.symm ne_m_b)
  have Z5 := Nat.le_trans Z0 (Keep.of_wr W5).1
  have KP5 := (Keep.refl h0 [mk]).wr W5 (Or.inl (List.mem_of_getElem? (i := 0) rfl))
  have N5 := Fr.snoc X5 N0 g_mk
  have V5_mk : Arv Z h5 mk cm .boolean (8 : Int32) (vs.set s0.toNatClampNeg (.int (nar .boolean pr))) (.int (0 : Int32)) := Arv.set Ar26_4 q26_4 S26_4 N26_4_ H26_4 G26_4 (fits_nar_bool _) W5 s0.toNatClampNeg rfl (own_lt8 hb_s0 (by simp [hlen]))
  have hd6 : (1 : Int32) < (2 : Int32) := by decide
  obtain ⟨cl19_7, Ar19_7, q19_7, S19_7, N19_7_, H19_7, G19_7⟩ := id V5_bx
  have hin19_7 : ¬ ((1 : Int32) < 0 ∨ cl19_7.slots.size ≤ ((1 : Int32)).toNatClampNeg) := inb_of S19_7 ⟨by decide, by decide⟩
  have hat19_7 : cl19_7.slots[((1 : Int32)).toNatClampNeg]? = some (.int s1) := H19_7.at hin19_7 rfl
  obtain ⟨cl26_8, Ar26_8, q26_8, S26_8, N26_8_, H26_8, G26_8⟩ := id V5_mk
  have hin26_8 : ¬ (s1 < 0 ∨ cl26_8.slots.size ≤ (s1).toNatClampNeg) := inb_of S26_8 ⟨hb_s1.1, hb_s1.2⟩
  obtain ⟨T9, h9, X9, e9, W9, st9⟩ := stZ X5 hx hZ e5 Ar26_8 (j := s1) hin26_8 (g := (mkF m 26 #[.val (.ref mk), .val (.ref bx), .val (.int pr), .val (.ref bx), .val (.int (2 : Int32)), .val (.int (1 : Int32)), .val (.int s1)] [(.int pr), (.int s1), (.ref mk)])) rfl rfl (hb hby d2_26)
  have V9_bx := V5_bx.other W9 (Ne.symm ne_m_b)
  have Z9 := Nat.le_trans Z5 (Keep.of_wr W9).1
  have KP9 := KP5.wr W9 (Or.inl (List.mem_of_getElem? (i := 0) rfl))
  have N9 := Fr.snoc X9 N5 g_mk
  have V9_mk : Arv Z h9 mk cm .boolean (8 : Int32) ((vs.set s0.toNatClampNeg (.int (nar .boolean pr))).set s1.toNatClampNeg (.int (nar .boolean pr))) (.int (0 : Int32)) := Arv.set Ar26_8 q26_8 S26_8 N26_8_ H26_8 G26_8 (fits_nar_bool _) W9 s1.toNatClampNeg rfl (own_lt8 hb_s1 (by simp [hlen]))
  have hd10 : ¬ ((2 : Int32) < (2 : Int32)) := by decide
  have k11 : ∀ tg, Steps p.tables e below (T9.setTop (mkF m 33 #[.val (.ref mk), .val (.ref bx), .val (.int pr), .val (.ref bx), .val (.int (2 : Int32)), .val (.int (2 : Int32)), .val (.int s1)] [])) tg → Steps p.tables e below (s₁.setTop (entryFrame m #[(.ref mk), (.ref bx), (.int pr)] 7)) tg := by
    intro tg kt
    refine k0 tg ?_
    show Steps p.tables e below (s₁.setTop (mkF m 0 #[.val (.ref mk), .val (.ref bx), .val (.int pr), .unset, .unset, .unset, .unset] [])) _
    refine XS.aloadN X0.here hx rfl (hb hby d2_0) rfl rfl ?_
    show Steps p.tables e below (s₁.setTop (mkF m 1 #[.val (.ref mk), .val (.ref bx), .val (.int pr), .unset, .unset, .unset, .unset] [(.ref bx)])) _
    refine XS.astoreN X0.here hx rfl (hb hby d2_1) rfl rfl (l' := #[.val (.ref mk), .val (.ref bx), .val (.int pr), .val (.ref bx), .unset, .unset, .unset]) rfl ?_
    show Steps p.tables e below (s₁.setTop (mkF m 2 #[.val (.ref mk), .val (.ref bx), .val (.int pr), .val (.ref bx), .unset, .unset, .unset] [])) _
    refine XS.aloadN X0.here hx rfl (hb hby d2_2) rfl rfl ?_
    show Steps p.tables e below (s₁.setTop (mkF m 3 #[.val (.ref mk), .val (.ref bx), .val (.int pr), .val (.ref bx), .unset, .unset, .unset] [(.ref bx)])) _
    refine X0.arraylength hx (by rw [e0]; exact Ar3_1.1) (State.isArrayOf_alike hZ.alike Ar3_1.2.1) (g := (mkF m 3 #[.val (.ref mk), .val (.ref bx), .val (.int pr), .val (.ref bx), .unset, .unset, .unset] [(.ref bx)])) rfl rfl (hb hby d2_3) _ ?_
    rw [len_of S3_1 N3_1_]
    show Steps p.tables e below (s₁.setTop (mkF m 4 #[.val (.ref mk), .val (.ref bx), .val (.int pr), .val (.ref bx), .unset, .unset, .unset] [(.int (2 : Int32))])) _
    refine XS.istore X0.here hx rfl (hb hby d2_4) rfl (l' := #[.val (.ref mk), .val (.ref bx), .val (.int pr), .val (.ref bx), .val (.int (2 : Int32)), .unset, .unset]) rfl ?_
    show Steps p.tables e below (s₁.setTop (mkF m 6 #[.val (.ref mk), .val (.ref bx), .val (.int pr), .val (.ref bx), .val (.int (2 : Int32)), .unset, .unset] [])) _
    refine XS.iconst X0.here hx rfl (hb hby d2_6) ?_
    show Steps p.tables e below (s₁.setTop (mkF m 7 #[.val (.ref mk), .val (.ref bx), .val (.int pr), .val (.ref bx), .val (.int (2 : Int32)), .unset, .unset] [(.int (0 : Int32))])) _
    refine XS.istore X0.here hx rfl (hb hby d2_7) rfl (l' := #[.val (.ref mk), .val (.ref bx), .val (.int pr), .val (.ref bx), .val (.int (2 : Int32)), .val (.int (0 : Int32)), .unset]) rfl ?_
    show Steps p.tables e below (s₁.setTop (mkF m 9 #[.val (.ref mk), .val (.ref bx), .val (.int pr), .val (.ref bx), .val (.int (2 : Int32)), .val (.int (0 : Int32)), .unset] [])) _
    refine XS.iload X0.here hx rfl (hb hby d2_9) rfl ?_
    show Steps p.tables e below (s₁.setTop (mkF m 11 #[.val (.ref mk), .val (.ref bx), .val (.int pr), .val (.ref bx), .val (.int (2 : Int32)), .val (.int (0 : Int32)), .unset] [(.int (0 : Int32))])) _
    refine XS.iload X0.here hx rfl (hb hby d2_11) rfl ?_
    show Steps p.tables e below (s₁.setTop (mkF m 13 #[.val (.ref mk), .val (.ref bx), .val (.int pr), .val (.ref bx), .val (.int (2 : Int32)), .val (.int (0 : Int32)), .unset] [(.int (2 : Int32)), (.int (0 : Int32))])) _
    refine XS.icmpNo X0.here hx rfl (hb hby d2_13) rfl (tlt hd2).2.1 ?_
    show Steps p.tables e below (s₁.setTop (mkF m 16 #[.val (.ref mk), .val (.ref bx), .val (.int pr), .val (.ref bx), .val (.int (2 : Int32)), .val (.int (0 : Int32)), .unset] [])) _
    refine XS.aloadN X0.here hx rfl (hb hby d2_16) rfl rfl ?_
    show Steps p.tables e below (s₁.setTop (mkF m 17 #[.val (.ref mk), .val (.ref bx), .val (.int pr), .val (.ref bx), .val (.int (2 : Int32)), .val (.int (0 : Int32)), .unset] [(.ref bx)])) _
    refine XS.iload X0.here hx rfl (hb hby d2_17) rfl ?_
    show Steps p.tables e below (s₁.setTop (mkF m 19 #[.val (.ref mk), .val (.ref bx), .val (.int pr), .val (.ref bx), .val (.int (2 : Int32)), .val (.int (0 : Int32)), .unset] [(.int (0 : Int32)), (.ref bx)])) _
    refine X0.iaload hx (j := (0 : Int32)) (v := (.int s0)) (by rw [e0]; exact Ar19_3.1) (State.isArrayOf_alike hZ.alike Ar19_3.2.1) Ar19_3.2.2 hin19_3 hat19_3 (g := (mkF m 19 #[.val (.ref mk), .val (.ref bx), .val (.int pr), .val (.ref bx), .val (.int (2 : Int32)), .val (.int (0 : Int32)), .unset] [(.int (0 : Int32)), (.ref bx)])) rfl rfl (hb hby d2_19) _ ?_
    show Steps p.tables e below (s₁.setTop (mkF m 20 #[.val (.ref mk), .val (.ref bx), .val (.int pr), .val (.ref bx), .val (.int (2 : Int32)), .val (.int (0 : Int32)), .unset] [(.int s0)])) _
    refine XS.istore X0.here hx rfl (hb hby d2_20) rfl (l' := #[.val (.ref mk), .val (.ref bx), .val (.int pr), .val (.ref bx), .val (.int (2 : Int32)), .val (.int (0 : Int32)), .val (.int s0)]) rfl ?_
    show Steps p.tables e below (s₁.setTop (mkF m 22 #[.val (.ref mk), .val (.ref bx), .val (.int pr), .val (.ref bx), .val (.int (2 : Int32)), .val (.int (0 : Int32)), .val (.int s0)] [])) _
    refine XS.aloadN X0.here hx rfl (hb hby d2_22) rfl rfl ?_
    show Steps p.tables e below (s₁.setTop (mkF m 23 #[.val (.ref mk), .val (.ref bx), .val (.int pr), .val (.ref bx), .val (.int (2 : Int32)), .val (.int (0 : Int32)), .val (.int s0)] [(.ref mk)])) _
    refine XS.iload X0.here hx rfl (hb hby d2_23) rfl ?_
    show Steps p.tables e below (s₁.setTop (mkF m 25 #[.val (.ref mk), .val (.ref bx), .val (.int pr), .val (.ref bx), .val (.int (2 : Int32)), .val (.int (0 : Int32)), .val (.int s0)] [(.int s0), (.ref mk)])) _
    refine XS.iloadN X0.here hx rfl (hb hby d2_25) rfl ?_
    show Steps p.tables e below (s₁.setTop (mkF m 26 #[.val (.ref mk), .val (.ref bx), .val (.int pr), .val (.ref bx), .val (.int (2 : Int32)), .val (.int (0 : Int32)), .val (.int s0)] [(.int pr), (.int s0), (.ref mk)])) _
    refine st5 _ ?_
    show Steps p.tables e below (T5.setTop (mkF m 27 #[.val (.ref mk), .val (.ref bx), .val (.int pr), .val (.ref bx), .val (.int (2 : Int32)), .val (.int (0 : Int32)), .val (.int s0)] [])) _
    refine XS.iinc X5.here hx rfl (hb hby d2_27) rfl (l' := #[.val (.ref mk), .val (.ref bx), .val (.int pr), .val (.ref bx), .val (.int (2 : Int32)), .val (.int ((0 : Int32) + (1 : Int32))), .val (.int s0)]) rfl ?_
    show Steps p.tables e below (T5.setTop (mkF m 30 #[.val (.ref mk), .val (.ref bx), .val (.int pr), .val (.ref bx), .val (.int (2 : Int32)), .val (.int ((0 : Int32) + (1 : Int32))), .val (.int s0)] [])) _
    rw [(by decide : ((0 : Int32) + (1 : Int32)) = (1 : Int32))]
    show Steps p.tables e below (T5.setTop (mkF m 30 #[.val (.ref mk), .val (.ref bx), .val (.int pr), .val (.ref bx), .val (.int (2 : Int32)), .val (.int (1 : Int32)), .val (.int s0)] [])) _
    refine XS.goto X5.here hx rfl (pc0 := 30) (pc' := 9) rfl (hb hby d2_30) (by decide) (by decide) ?_
    show Steps p.tables e below (T5.setTop (mkF m 9 #[.val (.ref mk), .val (.ref bx), .val (.int pr), .val (.ref bx), .val (.int (2 : Int32)), .val (.int (1 : Int32)), .val (.int s0)] [])) _
    refine XS.iload X5.here hx rfl (hb hby d2_9) rfl ?_
    show Steps p.tables e below (T5.setTop (mkF m 11 #[.val (.ref mk), .val (.ref bx), .val (.int pr), .val (.ref bx), .val (.int (2 : Int32)), .val (.int (1 : Int32)), .val (.int s0)] [(.int (1 : Int32))])) _
    refine XS.iload X5.here hx rfl (hb hby d2_11) rfl ?_
    show Steps p.tables e below (T5.setTop (mkF m 13 #[.val (.ref mk), .val (.ref bx), .val (.int pr), .val (.ref bx), .val (.int (2 : Int32)), .val (.int (1 : Int32)), .val (.int s0)] [(.int (2 : Int32)), (.int (1 : Int32))])) _
    refine XS.icmpNo X5.here hx rfl (hb hby d2_13) rfl (tlt hd6).2.1 ?_
    show Steps p.tables e below (T5.setTop (mkF m 16 #[.val (.ref mk), .val (.ref bx), .val (.int pr), .val (.ref bx), .val (.int (2 : Int32)), .val (.int (1 : Int32)), .val (.int s0)] [])) _
    refine XS.aloadN X5.here hx rfl (hb hby d2_16) rfl rfl ?_
    show Steps p.tables e below (T5.setTop (mkF m 17 #[.val (.ref mk), .val (.ref bx), .val (.int pr), .val (.ref bx), .val (.int (2 : Int32)), .val (.int (1 : Int32)), .val (.int s0)] [(.ref bx)])) _
    refine XS.iload X5.here hx rfl (hb hby d2_17) rfl ?_
    show Steps p.tables e below (T5.setTop (mkF m 19 #[.val (.ref mk), .val (.ref bx), .val (.int pr), .val (.ref bx), .val (.int (2 : Int32)), .val (.int (1 : Int32)), .val (.int s0)] [(.int (1 : Int32)), (.ref bx)])) _
    refine X5.iaload hx (j := (1 : Int32)) (v := (.int s1)) (by rw [e5]; exact Ar19_7.1) (State.isArrayOf_alike hZ.alike Ar19_7.2.1) Ar19_7.2.2 hin19_7 hat19_7 (g := (mkF m 19 #[.val (.ref mk), .val (.ref bx), .val (.int pr), .val (.ref bx), .val (.int (2 : Int32)), .val (.int (1 : Int32)), .val (.int s0)] [(.int (1 : Int32)), (.ref bx)])) rfl rfl (hb hby d2_19) _ ?_
    show Steps p.tables e below (T5.setTop (mkF m 20 #[.val (.ref mk), .val (.ref bx), .val (.int pr), .val (.ref bx), .val (.int (2 : Int32)), .val (.int (1 : Int32)), .val (.int s0)] [(.int s1)])) _
    refine XS.istore X5.here hx rfl (hb hby d2_20) rfl (l' := #[.val (.ref mk), .val (.ref bx), .val (.int pr), .val (.ref bx), .val (.int (2 : Int32)), .val (.int (1 : Int32)), .val (.int s1)]) rfl ?_
    show Steps p.tables e below (T5.setTop (mkF m 22 #[.val (.ref mk), .val (.ref bx), .val (.int pr), .val (.ref bx), .val (.int (2 : Int32)), .val (.int (1 : Int32)), .val (.int s1)] [])) _
    refine XS.aloadN X5.here hx rfl (hb hby d2_22) rfl rfl ?_
    show Steps p.tables e below (T5.setTop (mkF m 23 #[.val (.ref mk), .val (.ref bx), .val (.int pr), .val (.ref bx), .val (.int (2 : Int32)), .val (.int (1 : Int32)), .val (.int s1)] [(.ref mk)])) _
    refine XS.iload X5.here hx rfl (hb hby d2_23) rfl ?_
    show Steps p.tables e below (T5.setTop (mkF m 25 #[.val (.ref mk), .val (.ref bx), .val (.int pr), .val (.ref bx), .val (.int (2 : Int32)), .val (.int (1 : Int32)), .val (.int s1)] [(.int s1), (.ref mk)])) _
    refine XS.iloadN X5.here hx rfl (hb hby d2_25) rfl ?_
    show Steps p.tables e below (T5.setTop (mkF m 26 #[.val (.ref mk), .val (.ref bx), .val (.int pr), .val (.ref bx), .val (.int (2 : Int32)), .val (.int (1 : Int32)), .val (.int s1)] [(.int pr), (.int s1), (.ref mk)])) _
    refine st9 _ ?_
    show Steps p.tables e below (T9.setTop (mkF m 27 #[.val (.ref mk), .val (.ref bx), .val (.int pr), .val (.ref bx), .val (.int (2 : Int32)), .val (.int (1 : Int32)), .val (.int s1)] [])) _
    refine XS.iinc X9.here hx rfl (hb hby d2_27) rfl (l' := #[.val (.ref mk), .val (.ref bx), .val (.int pr), .val (.ref bx), .val (.int (2 : Int32)), .val (.int ((1 : Int32) + (1 : Int32))), .val (.int s1)]) rfl ?_
    show Steps p.tables e below (T9.setTop (mkF m 30 #[.val (.ref mk), .val (.ref bx), .val (.int pr), .val (.ref bx), .val (.int (2 : Int32)), .val (.int ((1 : Int32) + (1 : Int32))), .val (.int s1)] [])) _
    rw [(by decide : ((1 : Int32) + (1 : Int32)) = (2 : Int32))]
    show Steps p.tables e below (T9.setTop (mkF m 30 #[.val (.ref mk), .val (.ref bx), .val (.int pr), .val (.ref bx), .val (.int (2 : Int32)), .val (.int (2 : Int32)), .val (.int s1)] [])) _
    refine XS.goto X9.here hx rfl (pc0 := 30) (pc' := 9) rfl (hb hby d2_30) (by decide) (by decide) ?_
    show Steps p.tables e below (T9.setTop (mkF m 9 #[.val (.ref mk), .val (.ref bx), .val (.int pr), .val (.ref bx), .val (.int (2 : Int32)), .val (.int (2 : Int32)), .val (.int s1)] [])) _
    refine XS.iload X9.here hx rfl (hb hby d2_9) rfl ?_
    show Steps p.tables e below (T9.setTop (mkF m 11 #[.val (.ref mk), .val (.ref bx), .val (.int pr), .val (.ref bx), .val (.int (2 : Int32)), .val (.int (2 : Int32)), .val (.int s1)] [(.int (2 : Int32))])) _
    refine XS.iload X9.here hx rfl (hb hby d2_11) rfl ?_
    show Steps p.tables e below (T9.setTop (mkF m 13 #[.val (.ref mk), .val (.ref bx), .val (.int pr), .val (.ref bx), .val (.int (2 : Int32)), .val (.int (2 : Int32)), .val (.int s1)] [(.int (2 : Int32)), (.int (2 : Int32))])) _
    refine XS.icmpYes X9.here hx rfl (pc0 := 13) (pc' := 33) rfl (hb hby d2_13) rfl (flt hd10).2.1 (by decide) (by decide) ?_
    show Steps p.tables e below (T9.setTop (mkF m 33 #[.val (.ref mk), .val (.ref bx), .val (.int pr), .val (.ref bx), .val (.int (2 : Int32)), .val (.int (2 : Int32)), .val (.int s1)] [])) _
    exact kt
  obtain ⟨fs, hr, hrun, hended, hW, hsame⟩ := X9.leave (v := none) (fun _ => rfl)
  refine ⟨_, _, k11 _ ?_, hrun, hended, _, _, rfl, ?_, ⟨_, rfl⟩, hW, hsame.mono (by decide) (by decide)⟩
  · exact X9.returnOut hx Bd.returns (hb hby d2_33) hr
  · show QPlace Z mk cm ((vs.set s0.toNatClampNeg (.int (nar .boolean pr))).set s1.toNatClampNeg (.int (nar .boolean pr))) h0 n0 _ T9.heap _
    rw [e9]
    exact ⟨rfl, N9, KP9, V9_mk⟩
theorem d1_38 : decode method_3_code 38 = .ok (.iload_n 0, 1) := by decide +kernel
theorem d1_39 : decode method_3_code 39 = .ok (.iconst 3, 1) := by decide +kernel
theorem d1_40 : decode method_3_code 40 = .ok (.if_icmp .ne 19, 3) := by decide +kernel
theorem d1_43 : decode method_3_code 43 = .ok (.iconst 3, 1) := by decide +kernel
theorem d1_44 : decode method_3_code 44 = .ok (.newarray .int, 2) := by decide +kernel
theorem d1_46 : decode method_3_code 46 = .ok (.dup, 1) := by decide +kernel
theorem d1_47 : decode method_3_code 47 = .ok (.iconst 0, 1) := by decide +kernel
theorem d1_48 : decode method_3_code 48 = .ok (.iload_n 1, 1) := by decide +kernel
theorem d1_49 : decode method_3_code 49 = .ok (.iastore, 1) := by decide +kernel
theorem d1_50 : decode method_3_code 50 = .ok (.dup, 1) := by decide +kernel
theorem d1_51 : decode method_3_code 51 = .ok (.iconst 1, 1) := by decide +kernel
theorem d1_52 : decode method_3_code 52 = .ok (.iload_n 2, 1) := by decide +kernel
theorem d1_53 : decode method_3_code 53 = .ok (.iastore, 1) := by decide +kernel
theorem d1_54 : decode method_3_code 54 = .ok (.dup, 1) := by decide +kernel
theorem d1_55 : decode method_3_code 55 = .ok (.iconst 2, 1) := by decide +kernel
theorem d1_56 : decode method_3_code 56 = .ok (.iload_n 3, 1) := by decide +kernel
theorem d1_57 : decode method_3_code 57 = .ok (.iastore, 1) := by decide +kernel
theorem d1_58 : decode method_3_code 58 = .ok (.areturn, 1) := by decide +kernel
theorem ef_rmBox3 (m : MethodId) (s0 : Int32) (s1 : Int32) (s2 : Int32) (s3 : Int32) : entryFrame m #[(.int (3 : Int32)), (.int s0), (.int s1), (.int s2), (.int s3)] 5 = mkF m 0 #[.val (.int (3 : Int32)), .val (.int s0), .val (.int s1), .val (.int s2), .val (.int s3)] [] := by first | (simp [entryFrame, mkF, argsToLocals, Value.category]; done) | rfl
set_option maxRecDepth 65536 in
set_option maxHeartbeats 40000000 in
theorem rmBox3 (l : Launch) (Z : State) (a0 : Array Value) (hw : ∀ d ∈ tables_1, d.before a0 Z = true) (ws : List Jvm.Cond) (s0 : Int32) (s1 : Int32) (s2 : Int32) (s3 : Int32)  (h0 : Heap) (n0 : Nat) (Z0 : n0 ≤ h0.size)  :
    MetFree l (⟨"pushwise/BoxesPlacePinLaw", "boxesOf", "(IIIII)[I"⟩ : MethodName) (head1 (Jvm.Cond.code (⟨"pushwise/BoxesPlacePinLaw", "boxesOf", "(IIIII)[I"⟩ : MethodName) method_3_code 5 (some (.array .int)) :: ws) ({ frames := 0, cells := 1, slots := 3, locals := 0 } : Room)) (fun a_ U_ => a_ = #[(.int (3 : Int32)), (.int s0), (.int s1), (.int s2), (.int s3)] ∧ Z.Warmed39 U_.vm ∧ U_.heap = h0) (fun _ _ _ _ _ => True) (fun _ U_ o_ U'_ => ∃ v_ L_, o_ = .returned v_ ∧ QBox Z (3 : Int32) [(.int s0), (.int s1), (.int s2)] h0 n0 v_ U'_.heap L_ ∧ FrameEnd U_ o_ U'_ L_ ({ frames := 0, cells := 1, slots := 3, locals := 0 } : Room).cells ({ frames := 0, cells := 1, slots := 3, locals := 0 } : Room).slots) := by
  refine MetFree.of_bodySF (plainFor_of_name pn_1) hisR ?_
  intro p e s m args below meth c s₁ Bd hml0 hP hK
  obtain ⟨rfl, hZ, hh⟩ := hP
  have hx := Bd.exec
  have hby := Bd.bytes
  have hml : c.maxLocals = 5 := hml0
  have hown : s.vm.findClass "pushwise/BoxesPlacePinLaw" = some m.cls := findClass_of_methodNamed Bd.named
  have hnm := (name_of_methodNamed Bd.named Bd.method).1
  have X0 : Stand p l e ({ frames := 0, cells := 1, slots := 3, locals := 0 } : Room) s m #[(.int (3 : Int32)), (.int s0), (.int s1), (.int s2), (.int s3)] below meth c s₁ [] 0 0 := Stand.of_body Bd
  have e0 : s₁.heap = h0 := by rw [← hh, Bd.state]; rfl
  have N0 := Fr.nil n0
  have k0 : ∀ tg, Steps p.tables e below (s₁.setTop (mkF m 0 #[.val (.int (3 : Int32)), .val (.int s0), .val (.int s1), .val (.int s2), .val (.int s3)] [])) tg → Steps p.tables e below (s₁.setTop (entryFrame m #[(.int (3 : Int32)), (.int s0), (.int s1), (.int s2), (.int s3)] 5)) tg := fun tg kq_ => castTop (ef_rmBox3 m s0 s1 s2 s3) kq_
  have hd1 : ¬ ((3 : Int32) = (0 : Int32)) := by decide
  have hd2 : ¬ ((3 : Int32) = (1 : Int32)) := by decide
  have hd3 : ¬ ((3 : Int32) = (2 : Int32)) := by decide
  have hd4 : (3 : Int32) = (3 : Int32) := rfl
  obtain ⟨T5, h5, c5, X5, e5, E5, A5, st5⟩ := newP X0 hx hZ (hw _ (List.mem_of_getElem? (i := 6) rfl)) e0 (g := (mkF m 44 #[.val (.int (3 : Int32)), .val (.int s0), .val (.int s1), .val (.int s2), .val (.int s3)] [(.int (3 : Int32))])) rfl (hb hby d1_44) rfl (by decide) (cap := 3) (by decide) (by decide) (by decide) (by decide)
  obtain ⟨b5, g5⟩ : ∃ z, z = h0.size := ⟨_, rfl⟩
  have g_b5 : n0 ≤ b5 := Nat.le_trans Z0 (Nat.le_of_eq g5.symm)
  have sz_b5 : h0.size ≤ b5 := Nat.le_trans (Keep.refl h0 []).1 (Nat.le_of_eq g5.symm)
  rw [← g5] at A5 st5
  have Z5 := Nat.le_trans Z0 E5.1
  have KP5 := (Keep.refl h0 []).ext E5
  have V_b5 : Arv Z h5 b5 c5 .int (3 : Int32) [(.int (0 : Int32)), (.int (0 : Int32)), (.int (0 : Int32))] (.int (0 : Int32)) := (Arv.new A5 (by decide)).pad (pad_rep [] (.int (0 : Int32)) 3)
  obtain ⟨cl49_6, Ar49_6, q49_6, S49_6, N49_6_, H49_6, G49_6⟩ := id V_b5
  have hin49_6 : ¬ ((0 : Int32) < 0 ∨ cl49_6.slots.size ≤ ((0 : Int32)).toNatClampNeg) := inb_of S49_6 ⟨by decide, by decide⟩
  obtain ⟨T7, h7, X7, e7, W7, st7⟩ := stI X5 hx hZ e5 Ar49_6 (j := (0 : Int32)) hin49_6 (g := (mkF m 49 #[.val (.int (3 : Int32)), .val (.int s0), .val (.int s1), .val (.int s2), .val (.int s3)] [(.int s0), (.int (0 : Int32)), (.ref b5), (.ref b5)])) rfl rfl (hb hby d1_49)
  have Z7 := Nat.le_trans Z5 (Keep.of_wr W7).1
  have KP7 := KP5.wr W7 (Or.inr sz_b5)
  have N7 := Fr.snoc X7 N0 g_b5
  have V7_b5 : Arv Z h7 b5 c5 .int (3 : Int32) [(.int s0), (.int (0 : Int32)), (.int (0 : Int32))] (.int (0 : Int32)) := Arv.set Ar49_6 q49_6 S49_6 N49_6_ H49_6 G49_6 rfl W7 0 rfl (Nat.le_of_ble_eq_true rfl)
  obtain ⟨cl53_8, Ar53_8, q53_8, S53_8, N53_8_, H53_8, G53_8⟩ := id V7_b5
  have hin53_8 : ¬ ((1 : Int32) < 0 ∨ cl53_8.slots.size ≤ ((1 : Int32)).toNatClampNeg) := inb_of S53_8 ⟨by decide, by decide⟩
  obtain ⟨T9, h9, X9, e9, W9, st9⟩ := stI X7 hx hZ e7 Ar53_8 (j := (1 : Int32)) hin53_8 (g := (mkF m 53 #[.val (.int (3 : Int32)), .val (.int s0), .val (.int s1), .val (.int s2), .val (.int s3)] [(.int s1), (.int (1 : Int32)), (.ref b5), (.ref b5)])) rfl rfl (hb hby d1_53)
  have Z9 := Nat.le_trans Z7 (Keep.of_wr W9).1
  have KP9 := KP7.wr W9 (Or.inr sz_b5)
  have N9 := Fr.snoc X9 N7 g_b5
  have V9_b5 : Arv Z h9 b5 c5 .int (3 : Int32) [(.int s0), (.int s1), (.int (0 : Int32))] (.int (0 : Int32)) := Arv.set Ar53_8 q53_8 S53_8 N53_8_ H53_8 G53_8 rfl W9 1 rfl (Nat.le_of_ble_eq_true rfl)
  obtain ⟨cl57_10, Ar57_10, q57_10, S57_10, N57_10_, H57_10, G57_10⟩ := id V9_b5
  have hin57_10 : ¬ ((2 : Int32) < 0 ∨ cl57_10.slots.size ≤ ((2 : Int32)).toNatClampNeg) := inb_of S57_10 ⟨by decide, by decide⟩
  obtain ⟨T11, h11, X11, e11, W11, st11⟩ := stI X9 hx hZ e9 Ar57_10 (j := (2 : Int32)) hin57_10 (g := (mkF m 57 #[.val (.int (3 : Int32)), .val (.int s0), .val (.int s1), .val (.int s2), .val (.int s3)] [(.int s2), (.int (2 : Int32)), (.ref b5), (.ref b5)])) rfl rfl (hb hby d1_57)
  have Z11 := Nat.le_trans Z9 (Keep.of_wr W11).1
  have KP11 := KP9.wr W11 (Or.inr sz_b5)
  have N11 := Fr.snoc X11 N9 g_b5
  have V11_b5 : Arv Z h11 b5 c5 .int (3 : Int32) [(.int s0), (.int s1), (.int s2)] (.int (0 : Int32)) := Arv.set Ar57_10 q57_10 S57_10 N57_10_ H57_10 G57_10 rfl W11 2 rfl (Nat.le_of_ble_eq_true rfl)
  have k12 : ∀ tg, Steps p.tables e below (T11.setTop (mkF m 58 #[.val (.int (3 : Int32)), .val (.int s0), .val (.int s1), .val (.int s2), .val (.int s3)] [(.ref b5)])) tg → Steps p.tables e below (s₁.setTop (entryFrame m #[(.int (3 : Int32)), (.int s0), (.int s1), (.int s2), (.int s3)] 5)) tg := by
    intro tg kt
    refine k0 tg ?_
    show Steps p.tables e below (s₁.setTop (mkF m 0 #[.val (.int (3 : Int32)), .val (.int s0), .val (.int s1), .val (.int s2), .val (.int s3)] [])) _
    refine XS.iloadN X0.here hx rfl (hb hby d1_0) rfl ?_
    show Steps p.tables e below (s₁.setTop (mkF m 1 #[.val (.int (3 : Int32)), .val (.int s0), .val (.int s1), .val (.int s2), .val (.int s3)] [(.int (3 : Int32))])) _
    refine XS.ifYes X0.here hx rfl (pc0 := 1) (pc' := 8) rfl (hb hby d1_1) rfl ((if0 _ _).trans (feq hd1).2) (by decide) (by decide) ?_
    show Steps p.tables e below (s₁.setTop (mkF m 8 #[.val (.int (3 : Int32)), .val (.int s0), .val (.int s1), .val (.int s2), .val (.int s3)] [])) _
    refine XS.iloadN X0.here hx rfl (hb hby d1_8) rfl ?_
    show Steps p.tables e below (s₁.setTop (mkF m 9 #[.val (.int (3 : Int32)), .val (.int s0), .val (.int s1), .val (.int s2), .val (.int s3)] [(.int (3 : Int32))])) _
    refine XS.iconst X0.here hx rfl (hb hby d1_9) ?_
    show Steps p.tables e below (s₁.setTop (mkF m 10 #[.val (.int (3 : Int32)), .val (.int s0), .val (.int s1), .val (.int s2), .val (.int s3)] [(.int (1 : Int32)), (.int (3 : Int32))])) _
    refine XS.icmpYes X0.here hx rfl (pc0 := 10) (pc' := 21) rfl (hb hby d1_10) rfl (feq hd2).2 (by decide) (by decide) ?_
    show Steps p.tables e below (s₁.setTop (mkF m 21 #[.val (.int (3 : Int32)), .val (.int s0), .val (.int s1), .val (.int s2), .val (.int s3)] [])) _
    refine XS.iloadN X0.here hx rfl (hb hby d1_21) rfl ?_
    show Steps p.tables e below (s₁.setTop (mkF m 22 #[.val (.int (3 : Int32)), .val (.int s0), .val (.int s1), .val (.int s2), .val (.int s3)] [(.int (3 : Int32))])) _
    refine XS.iconst X0.here hx rfl (hb hby d1_22) ?_
    show Steps p.tables e below (s₁.setTop (mkF m 23 #[.val (.int (3 : Int32)), .val (.int s0), .val (.int s1), .val (.int s2), .val (.int s3)] [(.int (2 : Int32)), (.int (3 : Int32))])) _
    refine XS.icmpYes X0.here hx rfl (pc0 := 23) (pc' := 38) rfl (hb hby d1_23) rfl (feq hd3).2 (by decide) (by decide) ?_
    show Steps p.tables e below (s₁.setTop (mkF m 38 #[.val (.int (3 : Int32)), .val (.int s0), .val (.int s1), .val (.int s2), .val (.int s3)] [])) _
    refine XS.iloadN X0.here hx rfl (hb hby d1_38) rfl ?_
    show Steps p.tables e below (s₁.setTop (mkF m 39 #[.val (.int (3 : Int32)), .val (.int s0), .val (.int s1), .val (.int s2), .val (.int s3)] [(.int (3 : Int32))])) _
    refine XS.iconst X0.here hx rfl (hb hby d1_39) ?_
    show Steps p.tables e below (s₁.setTop (mkF m 40 #[.val (.int (3 : Int32)), .val (.int s0), .val (.int s1), .val (.int s2), .val (.int s3)] [(.int (3 : Int32)), (.int (3 : Int32))])) _
    refine XS.icmpNo X0.here hx rfl (hb hby d1_40) rfl (teq hd4).2 ?_
    show Steps p.tables e below (s₁.setTop (mkF m 43 #[.val (.int (3 : Int32)), .val (.int s0), .val (.int s1), .val (.int s2), .val (.int s3)] [])) _
    refine XS.iconst X0.here hx rfl (hb hby d1_43) ?_
    show Steps p.tables e below (s₁.setTop (mkF m 44 #[.val (.int (3 : Int32)), .val (.int s0), .val (.int s1), .val (.int s2), .val (.int s3)] [(.int (3 : Int32))])) _
    refine st5 _ ?_
    show Steps p.tables e below (T5.setTop (mkF m 46 #[.val (.int (3 : Int32)), .val (.int s0), .val (.int s1), .val (.int s2), .val (.int s3)] [(.ref b5)])) _
    refine XS.dup X5.here hx rfl (hb hby d1_46) rfl rfl ?_
    show Steps p.tables e below (T5.setTop (mkF m 47 #[.val (.int (3 : Int32)), .val (.int s0), .val (.int s1), .val (.int s2), .val (.int s3)] [(.ref b5), (.ref b5)])) _
    refine XS.iconst X5.here hx rfl (hb hby d1_47) ?_
    show Steps p.tables e below (T5.setTop (mkF m 48 #[.val (.int (3 : Int32)), .val (.int s0), .val (.int s1), .val (.int s2), .val (.int s3)] [(.int (0 : Int32)), (.ref b5), (.ref b5)])) _
    refine XS.iloadN X5.here hx rfl (hb hby d1_48) rfl ?_
    show Steps p.tables e below (T5.setTop (mkF m 49 #[.val (.int (3 : Int32)), .val (.int s0), .val (.int s1), .val (.int s2), .val (.int s3)] [(.int s0), (.int (0 : Int32)), (.ref b5), (.ref b5)])) _
    refine st7 _ ?_
    show Steps p.tables e below (T7.setTop (mkF m 50 #[.val (.int (3 : Int32)), .val (.int s0), .val (.int s1), .val (.int s2), .val (.int s3)] [(.ref b5)])) _
    refine XS.dup X7.here hx rfl (hb hby d1_50) rfl rfl ?_
    show Steps p.tables e below (T7.setTop (mkF m 51 #[.val (.int (3 : Int32)), .val (.int s0), .val (.int s1), .val (.int s2), .val (.int s3)] [(.ref b5), (.ref b5)])) _
    refine XS.iconst X7.here hx rfl (hb hby d1_51) ?_
    show Steps p.tables e below (T7.setTop (mkF m 52 #[.val (.int (3 : Int32)), .val (.int s0), .val (.int s1), .val (.int s2), .val (.int s3)] [(.int (1 : Int32)), (.ref b5), (.ref b5)])) _
    refine XS.iloadN X7.here hx rfl (hb hby d1_52) rfl ?_
    show Steps p.tables e below (T7.setTop (mkF m 53 #[.val (.int (3 : Int32)), .val (.int s0), .val (.int s1), .val (.int s2), .val (.int s3)] [(.int s1), (.int (1 : Int32)), (.ref b5), (.ref b5)])) _
    refine st9 _ ?_
    show Steps p.tables e below (T9.setTop (mkF m 54 #[.val (.int (3 : Int32)), .val (.int s0), .val (.int s1), .val (.int s2), .val (.int s3)] [(.ref b5)])) _
    refine XS.dup X9.here hx rfl (hb hby d1_54) rfl rfl ?_
    show Steps p.tables e below (T9.setTop (mkF m 55 #[.val (.int (3 : Int32)), .val (.int s0), .val (.int s1), .val (.int s2), .val (.int s3)] [(.ref b5), (.ref b5)])) _
    refine XS.iconst X9.here hx rfl (hb hby d1_55) ?_
    show Steps p.tables e below (T9.setTop (mkF m 56 #[.val (.int (3 : Int32)), .val (.int s0), .val (.int s1), .val (.int s2), .val (.int s3)] [(.int (2 : Int32)), (.ref b5), (.ref b5)])) _
    refine XS.iloadN X9.here hx rfl (hb hby d1_56) rfl ?_
    show Steps p.tables e below (T9.setTop (mkF m 57 #[.val (.int (3 : Int32)), .val (.int s0), .val (.int s1), .val (.int s2), .val (.int s3)] [(.int s2), (.int (2 : Int32)), (.ref b5), (.ref b5)])) _
    refine st11 _ ?_
    show Steps p.tables e below (T11.setTop (mkF m 58 #[.val (.int (3 : Int32)), .val (.int s0), .val (.int s1), .val (.int s2), .val (.int s3)] [(.ref b5)])) _
    exact kt
  obtain ⟨fs, hr, hrun, hended, hW, hsame⟩ := X11.leave (v := some (.ref b5)) (fun h => by rw [Bd.returns] at h; cases h)
  refine ⟨_, _, k12 _ ?_, hrun, hended, _, _, rfl, ?_, ⟨_, rfl⟩, hW, hsame.mono (by decide) (by decide)⟩
  · exact own_retA X11 hx Bd.returns rfl (hb hby d1_58) hr
  · show QBox Z (3 : Int32) [(.int s0), (.int s1), (.int s2)] h0 n0 _ T11.heap _
    rw [e11]
    exact ⟨N11, KP11, b5, c5, rfl, sz_b5, V11_b5⟩
theorem ef_rmPlace3 (m : MethodId) (mk : Addr) (bx : Addr) (pr : Int32) : entryFrame m #[(.ref mk), (.ref bx), (.int pr)] 7 = mkF m 0 #[.val (.ref mk), .val (.ref bx), .val (.int pr), .unset, .unset, .unset, .unset] [] := by first | (simp [entryFrame, mkF, argsToLocals, Value.category]; done) | rfl
set_option maxRecDepth 65536 in
set_option maxHeartbeats 40000000 in
theorem rmPlace3 (l : Launch) (Z : State) (a0 : Array Value) (hw : ∀ d ∈ tables_1, d.before a0 Z = true) (ws : List Jvm.Cond) (mk : Addr) (bx : Addr) (pr : Int32) (cm cb : ClassId) (vs : List Value) (s0 s1 s2 : Int32) (h0 : Heap) (n0 : Nat) (Z0 : n0 ≤ h0.size) (Vm : Arv Z h0 mk cm .boolean (8 : Int32) vs (.int (0 : Int32))) (hlen : vs.length = 8) (Vb : Arv Z h0 bx cb .int (3 : Int32) [(.int s0), (.int s1), (.int s2)] (.int (0 : Int32))) (ne_m_b : mk ≠ bx) (g_mk : n0 ≤ mk) (hb_s0 : ¬ s0 < 0 ∧ s0 < (8 : Int32)) (hb_s1 : ¬ s1 < 0 ∧ s1 < (8 : Int32)) (hb_s2 : ¬ s2 < 0 ∧ s2 < (8 : Int32)) :
    MetFree l (⟨"pushwise/Boxes", "place", "([Z[IZ)V"⟩ : MethodName) (head1 (Jvm.Cond.code (⟨"pushwise/Boxes", "place", "([Z[IZ)V"⟩ : MethodName) prog_1_method_4_code 7 none :: ws) ({ frames := 0, cells := 0, slots := 0, locals := 0 } : Room)) (fun a_ U_ => a_ = #[(.ref mk), (.ref bx), (.int pr)] ∧ Z.Warmed39 U_.vm ∧ U_.heap = h0) (fun _ _ _ _ _ => True) (fun _ U_ o_ U'_ => ∃ v_ L_, o_ = .returned v_ ∧ QPlace Z mk cm (((vs.set s0.toNatClampNeg (.int (nar .boolean pr))).set s1.toNatClampNeg (.int (nar .boolean pr))).set s2.toNatClampNeg (.int (nar .boolean pr))) h0 n0 v_ U'_.heap L_ ∧ FrameEnd U_ o_ U'_ L_ ({ frames := 0, cells := 0, slots := 0, locals := 0 } : Room).cells ({ frames := 0, cells := 0, slots := 0, locals := 0 } : Room).slots) := by
  refine MetFree.of_bodySF (plainFor_of_name pn_2) hisR ?_
  intro p e s m args below meth c s₁ Bd hml0 hP hK
  obtain ⟨rfl, hZ, hh⟩ := hP
  have hx := Bd.exec
  have hby := Bd.bytes
  have hml : c.maxLocals = 7 := hml0
  have hown : s.vm.findClass "pushwise/Boxes" = some m.cls := findClass_of_methodNamed Bd.named
  have hnm := (name_of_methodNamed Bd.named Bd.method).1
  have X0 : Stand p l e ({ frames := 0, cells := 0, slots := 0, locals := 0 } : Room) s m #[(.ref mk), (.ref bx), (.int pr)] below meth c s₁ [] 0 0 := Stand.of_body Bd
  have e0 : s₁.heap = h0 := by rw [← hh, Bd.state]; rfl
  have N0 := Fr.nil n0
  have k0 : ∀ tg, Steps p.tables e below (s₁.setTop (mkF m 0 #[.val (.ref mk), .val (.ref bx), .val (.int pr), .unset, .unset, .unset, .unset] [])) tg → Steps p.tables e below (s₁.setTop (entryFrame m #[(.ref mk), (.ref bx), (.int pr)] 7)) tg := fun tg kq_ => castTop (ef_rmPlace3 m mk bx pr) kq_
  obtain ⟨cl3_1, Ar3_1, q3_1, S3_1, N3_1_, H3_1, G3_1⟩ := id Vb
  have hd2 : (0 : Int32) < (3 : Int32) := by decide
  obtain ⟨cl19_3, Ar19_3, q19_3, S19_3, N19_3_, H19_3, G19_3⟩ := id Vb
  have hin19_3 : ¬ ((0 : Int32) < 0 ∨ cl19_3.slots.size ≤ ((0 : Int32)).toNatClampNeg) := inb_of S19_3 ⟨by decide, by decide⟩
  have hat19_3 : cl19_3.slots[((0 : Int32)).toNatClampNeg]? = some (.int s0) := H19_3.at hin19_3 rfl
  obtain ⟨cl26_4, Ar26_4, q26_4, S26_4, N26_4_, H26_4, G26_4⟩ := id Vm
  have hin26_4 : ¬ (s0 < 0 ∨ cl26_4.slots.size ≤ (s0).toNatClampNeg) := inb_of S26_4 ⟨hb_s0.1, hb_s0.2⟩
  obtain ⟨T5, h5, X5, e5, W5, st5⟩ := stZ X0 hx hZ e0 Ar26_4 (j := s0) hin26_4 (g := (mkF m 26 #[.val (.ref mk), .val (.ref bx), .val (.int pr), .val (.ref bx), .val (.int (3 : Int32)), .val (.int (0 : Int32)), .val (.int s0)] [(.int pr), (.int s0), (.ref mk)])) rfl rfl (hb hby d2_26)
  have V5_bx := Vb.other W5 (Ne.symm ne_m_b)
  have Z5 := Nat.le_trans Z0 (Keep.of_wr W5).1
  have KP5 := (Keep.refl h0 [mk]).wr W5 (Or.inl (List.mem_of_getElem? (i := 0) rfl))
  have N5 := Fr.snoc X5 N0 g_mk
  have V5_mk : Arv Z h5 mk cm .boolean (8 : Int32) (vs.set s0.toNatClampNeg (.int (nar .boolean pr))) (.int (0 : Int32)) := Arv.set Ar26_4 q26_4 S26_4 N26_4_ H26_4 G26_4 (fits_nar_bool _) W5 s0.toNatClampNeg rfl (own_lt8 hb_s0 (by simp [hlen]))
  have hd6 : (1 : Int32) < (3 : Int32) := by decide
  obtain ⟨cl19_7, Ar19_7, q19_7, S19_7, N19_7_, H19_7, G19_7⟩ := id V5_bx
  have hin19_7 : ¬ ((1 : Int32) < 0 ∨ cl19_7.slots.size ≤ ((1 : Int32)).toNatClampNeg) := inb_of S19_7 ⟨by decide, by decide⟩
  have hat19_7 : cl19_7.slots[((1 : Int32)).toNatClampNeg]? = some (.int s1) := H19_7.at hin19_7 rfl
  obtain ⟨cl26_8, Ar26_8, q26_8, S26_8, N26_8_, H26_8, G26_8⟩ := id V5_mk
  have hin26_8 : ¬ (s1 < 0 ∨ cl26_8.slots.size ≤ (s1).toNatClampNeg) := inb_of S26_8 ⟨hb_s1.1, hb_s1.2⟩
  obtain ⟨T9, h9, X9, e9, W9, st9⟩ := stZ X5 hx hZ e5 Ar26_8 (j := s1) hin26_8 (g := (mkF m 26 #[.val (.ref mk), .val (.ref bx), .val (.int pr), .val (.ref bx), .val (.int (3 : Int32)), .val (.int (1 : Int32)), .val (.int s1)] [(.int pr), (.int s1), (.ref mk)])) rfl rfl (hb hby d2_26)
  have V9_bx := V5_bx.other W9 (Ne.symm ne_m_b)
  have Z9 := Nat.le_trans Z5 (Keep.of_wr W9).1
  have KP9 := KP5.wr W9 (Or.inl (List.mem_of_getElem? (i := 0) rfl))
  have N9 := Fr.snoc X9 N5 g_mk
  have V9_mk : Arv Z h9 mk cm .boolean (8 : Int32) ((vs.set s0.toNatClampNeg (.int (nar .boolean pr))).set s1.toNatClampNeg (.int (nar .boolean pr))) (.int (0 : Int32)) := Arv.set Ar26_8 q26_8 S26_8 N26_8_ H26_8 G26_8 (fits_nar_bool _) W9 s1.toNatClampNeg rfl (own_lt8 hb_s1 (by simp [hlen]))
  have hd10 : (2 : Int32) < (3 : Int32) := by decide
  obtain ⟨cl19_11, Ar19_11, q19_11, S19_11, N19_11_, H19_11, G19_11⟩ := id V9_bx
  have hin19_11 : ¬ ((2 : Int32) < 0 ∨ cl19_11.slots.size ≤ ((2 : Int32)).toNatClampNeg) := inb_of S19_11 ⟨by decide, by decide⟩
  have hat19_11 : cl19_11.slots[((2 : Int32)).toNatClampNeg]? = some (.int s2) := H19_11.at hin19_11 rfl
  obtain ⟨cl26_12, Ar26_12, q26_12, S26_12, N26_12_, H26_12, G26_12⟩ := id V9_mk
  have hin26_12 : ¬ (s2 < 0 ∨ cl26_12.slots.size ≤ (s2).toNatClampNeg) := inb_of S26_12 ⟨hb_s2.1, hb_s2.2⟩
  obtain ⟨T13, h13, X13, e13, W13, st13⟩ := stZ X9 hx hZ e9 Ar26_12 (j := s2) hin26_12 (g := (mkF m 26 #[.val (.ref mk), .val (.ref bx), .val (.int pr), .val (.ref bx), .val (.int (3 : Int32)), .val (.int (2 : Int32)), .val (.int s2)] [(.int pr), (.int s2), (.ref mk)])) rfl rfl (hb hby d2_26)
  have V13_bx := V9_bx.other W13 (Ne.symm ne_m_b)
  have Z13 := Nat.le_trans Z9 (Keep.of_wr W13).1
  have KP13 := KP9.wr W13 (Or.inl (List.mem_of_getElem? (i := 0) rfl))
  have N13 := Fr.snoc X13 N9 g_mk
  have V13_mk : Arv Z h13 mk cm .boolean (8 : Int32) (((vs.set s0.toNatClampNeg (.int (nar .boolean pr))).set s1.toNatClampNeg (.int (nar .boolean pr))).set s2.toNatClampNeg (.int (nar .boolean pr))) (.int (0 : Int32)) := Arv.set Ar26_12 q26_12 S26_12 N26_12_ H26_12 G26_12 (fits_nar_bool _) W13 s2.toNatClampNeg rfl (own_lt8 hb_s2 (by simp [hlen]))
  have hd14 : ¬ ((3 : Int32) < (3 : Int32)) := by decide
  have k15 : ∀ tg, Steps p.tables e below (T13.setTop (mkF m 33 #[.val (.ref mk), .val (.ref bx), .val (.int pr), .val (.ref bx), .val (.int (3 : Int32)), .val (.int (3 : Int32)), .val (.int s2)] [])) tg → Steps p.tables e below (s₁.setTop (entryFrame m #[(.ref mk), (.ref bx), (.int pr)] 7)) tg := by
    intro tg kt
    refine k0 tg ?_
    show Steps p.tables e below (s₁.setTop (mkF m 0 #[.val (.ref mk), .val (.ref bx), .val (.int pr), .unset, .unset, .unset, .unset] [])) _
    refine XS.aloadN X0.here hx rfl (hb hby d2_0) rfl rfl ?_
    show Steps p.tables e below (s₁.setTop (mkF m 1 #[.val (.ref mk), .val (.ref bx), .val (.int pr), .unset, .unset, .unset, .unset] [(.ref bx)])) _
    refine XS.astoreN X0.here hx rfl (hb hby d2_1) rfl rfl (l' := #[.val (.ref mk), .val (.ref bx), .val (.int pr), .val (.ref bx), .unset, .unset, .unset]) rfl ?_
    show Steps p.tables e below (s₁.setTop (mkF m 2 #[.val (.ref mk), .val (.ref bx), .val (.int pr), .val (.ref bx), .unset, .unset, .unset] [])) _
    refine XS.aloadN X0.here hx rfl (hb hby d2_2) rfl rfl ?_
    show Steps p.tables e below (s₁.setTop (mkF m 3 #[.val (.ref mk), .val (.ref bx), .val (.int pr), .val (.ref bx), .unset, .unset, .unset] [(.ref bx)])) _
    refine X0.arraylength hx (by rw [e0]; exact Ar3_1.1) (State.isArrayOf_alike hZ.alike Ar3_1.2.1) (g := (mkF m 3 #[.val (.ref mk), .val (.ref bx), .val (.int pr), .val (.ref bx), .unset, .unset, .unset] [(.ref bx)])) rfl rfl (hb hby d2_3) _ ?_
    rw [len_of S3_1 N3_1_]
    show Steps p.tables e below (s₁.setTop (mkF m 4 #[.val (.ref mk), .val (.ref bx), .val (.int pr), .val (.ref bx), .unset, .unset, .unset] [(.int (3 : Int32))])) _
    refine XS.istore X0.here hx rfl (hb hby d2_4) rfl (l' := #[.val (.ref mk), .val (.ref bx), .val (.int pr), .val (.ref bx), .val (.int (3 : Int32)), .unset, .unset]) rfl ?_
    show Steps p.tables e below (s₁.setTop (mkF m 6 #[.val (.ref mk), .val (.ref bx), .val (.int pr), .val (.ref bx), .val (.int (3 : Int32)), .unset, .unset] [])) _
    refine XS.iconst X0.here hx rfl (hb hby d2_6) ?_
    show Steps p.tables e below (s₁.setTop (mkF m 7 #[.val (.ref mk), .val (.ref bx), .val (.int pr), .val (.ref bx), .val (.int (3 : Int32)), .unset, .unset] [(.int (0 : Int32))])) _
    refine XS.istore X0.here hx rfl (hb hby d2_7) rfl (l' := #[.val (.ref mk), .val (.ref bx), .val (.int pr), .val (.ref bx), .val (.int (3 : Int32)), .val (.int (0 : Int32)), .unset]) rfl ?_
    show Steps p.tables e below (s₁.setTop (mkF m 9 #[.val (.ref mk), .val (.ref bx), .val (.int pr), .val (.ref bx), .val (.int (3 : Int32)), .val (.int (0 : Int32)), .unset] [])) _
    refine XS.iload X0.here hx rfl (hb hby d2_9) rfl ?_
    show Steps p.tables e below (s₁.setTop (mkF m 11 #[.val (.ref mk), .val (.ref bx), .val (.int pr), .val (.ref bx), .val (.int (3 : Int32)), .val (.int (0 : Int32)), .unset] [(.int (0 : Int32))])) _
    refine XS.iload X0.here hx rfl (hb hby d2_11) rfl ?_
    show Steps p.tables e below (s₁.setTop (mkF m 13 #[.val (.ref mk), .val (.ref bx), .val (.int pr), .val (.ref bx), .val (.int (3 : Int32)), .val (.int (0 : Int32)), .unset] [(.int (3 : Int32)), (.int (0 : Int32))])) _
    refine XS.icmpNo X0.here hx rfl (hb hby d2_13) rfl (tlt hd2).2.1 ?_
    show Steps p.tables e below (s₁.setTop (mkF m 16 #[.val (.ref mk), .val (.ref bx), .val (.int pr), .val (.ref bx), .val (.int (3 : Int32)), .val (.int (0 : Int32)), .unset] [])) _
    refine XS.aloadN X0.here hx rfl (hb hby d2_16) rfl rfl ?_
    show Steps p.tables e below (s₁.setTop (mkF m 17 #[.val (.ref mk), .val (.ref bx), .val (.int pr), .val (.ref bx), .val (.int (3 : Int32)), .val (.int (0 : Int32)), .unset] [(.ref bx)])) _
    refine XS.iload X0.here hx rfl (hb hby d2_17) rfl ?_
    show Steps p.tables e below (s₁.setTop (mkF m 19 #[.val (.ref mk), .val (.ref bx), .val (.int pr), .val (.ref bx), .val (.int (3 : Int32)), .val (.int (0 : Int32)), .unset] [(.int (0 : Int32)), (.ref bx)])) _
    refine X0.iaload hx (j := (0 : Int32)) (v := (.int s0)) (by rw [e0]; exact Ar19_3.1) (State.isArrayOf_alike hZ.alike Ar19_3.2.1) Ar19_3.2.2 hin19_3 hat19_3 (g := (mkF m 19 #[.val (.ref mk), .val (.ref bx), .val (.int pr), .val (.ref bx), .val (.int (3 : Int32)), .val (.int (0 : Int32)), .unset] [(.int (0 : Int32)), (.ref bx)])) rfl rfl (hb hby d2_19) _ ?_
    show Steps p.tables e below (s₁.setTop (mkF m 20 #[.val (.ref mk), .val (.ref bx), .val (.int pr), .val (.ref bx), .val (.int (3 : Int32)), .val (.int (0 : Int32)), .unset] [(.int s0)])) _
    refine XS.istore X0.here hx rfl (hb hby d2_20) rfl (l' := #[.val (.ref mk), .val (.ref bx), .val (.int pr), .val (.ref bx), .val (.int (3 : Int32)), .val (.int (0 : Int32)), .val (.int s0)]) rfl ?_
    show Steps p.tables e below (s₁.setTop (mkF m 22 #[.val (.ref mk), .val (.ref bx), .val (.int pr), .val (.ref bx), .val (.int (3 : Int32)), .val (.int (0 : Int32)), .val (.int s0)] [])) _
    refine XS.aloadN X0.here hx rfl (hb hby d2_22) rfl rfl ?_
    show Steps p.tables e below (s₁.setTop (mkF m 23 #[.val (.ref mk), .val (.ref bx), .val (.int pr), .val (.ref bx), .val (.int (3 : Int32)), .val (.int (0 : Int32)), .val (.int s0)] [(.ref mk)])) _
    refine XS.iload X0.here hx rfl (hb hby d2_23) rfl ?_
    show Steps p.tables e below (s₁.setTop (mkF m 25 #[.val (.ref mk), .val (.ref bx), .val (.int pr), .val (.ref bx), .val (.int (3 : Int32)), .val (.int (0 : Int32)), .val (.int s0)] [(.int s0), (.ref mk)])) _
    refine XS.iloadN X0.here hx rfl (hb hby d2_25) rfl ?_
    show Steps p.tables e below (s₁.setTop (mkF m 26 #[.val (.ref mk), .val (.ref bx), .val (.int pr), .val (.ref bx), .val (.int (3 : Int32)), .val (.int (0 : Int32)), .val (.int s0)] [(.int pr), (.int s0), (.ref mk)])) _
    refine st5 _ ?_
    show Steps p.tables e below (T5.setTop (mkF m 27 #[.val (.ref mk), .val (.ref bx), .val (.int pr), .val (.ref bx), .val (.int (3 : Int32)), .val (.int (0 : Int32)), .val (.int s0)] [])) _
    refine XS.iinc X5.here hx rfl (hb hby d2_27) rfl (l' := #[.val (.ref mk), .val (.ref bx), .val (.int pr), .val (.ref bx), .val (.int (3 : Int32)), .val (.int ((0 : Int32) + (1 : Int32))), .val (.int s0)]) rfl ?_
    show Steps p.tables e below (T5.setTop (mkF m 30 #[.val (.ref mk), .val (.ref bx), .val (.int pr), .val (.ref bx), .val (.int (3 : Int32)), .val (.int ((0 : Int32) + (1 : Int32))), .val (.int s0)] [])) _
    rw [(by decide : ((0 : Int32) + (1 : Int32)) = (1 : Int32))]
    show Steps p.tables e below (T5.setTop (mkF m 30 #[.val (.ref mk), .val (.ref bx), .val (.int pr), .val (.ref bx), .val (.int (3 : Int32)), .val (.int (1 : Int32)), .val (.int s0)] [])) _
    refine XS.goto X5.here hx rfl (pc0 := 30) (pc' := 9) rfl (hb hby d2_30) (by decide) (by decide) ?_
    show Steps p.tables e below (T5.setTop (mkF m 9 #[.val (.ref mk), .val (.ref bx), .val (.int pr), .val (.ref bx), .val (.int (3 : Int32)), .val (.int (1 : Int32)), .val (.int s0)] [])) _
    refine XS.iload X5.here hx rfl (hb hby d2_9) rfl ?_
    show Steps p.tables e below (T5.setTop (mkF m 11 #[.val (.ref mk), .val (.ref bx), .val (.int pr), .val (.ref bx), .val (.int (3 : Int32)), .val (.int (1 : Int32)), .val (.int s0)] [(.int (1 : Int32))])) _
    refine XS.iload X5.here hx rfl (hb hby d2_11) rfl ?_
    show Steps p.tables e below (T5.setTop (mkF m 13 #[.val (.ref mk), .val (.ref bx), .val (.int pr), .val (.ref bx), .val (.int (3 : Int32)), .val (.int (1 : Int32)), .val (.int s0)] [(.int (3 : Int32)), (.int (1 : Int32))])) _
    refine XS.icmpNo X5.here hx rfl (hb hby d2_13) rfl (tlt hd6).2.1 ?_
    show Steps p.tables e below (T5.setTop (mkF m 16 #[.val (.ref mk), .val (.ref bx), .val (.int pr), .val (.ref bx), .val (.int (3 : Int32)), .val (.int (1 : Int32)), .val (.int s0)] [])) _
    refine XS.aloadN X5.here hx rfl (hb hby d2_16) rfl rfl ?_
    show Steps p.tables e below (T5.setTop (mkF m 17 #[.val (.ref mk), .val (.ref bx), .val (.int pr), .val (.ref bx), .val (.int (3 : Int32)), .val (.int (1 : Int32)), .val (.int s0)] [(.ref bx)])) _
    refine XS.iload X5.here hx rfl (hb hby d2_17) rfl ?_
    show Steps p.tables e below (T5.setTop (mkF m 19 #[.val (.ref mk), .val (.ref bx), .val (.int pr), .val (.ref bx), .val (.int (3 : Int32)), .val (.int (1 : Int32)), .val (.int s0)] [(.int (1 : Int32)), (.ref bx)])) _
    refine X5.iaload hx (j := (1 : Int32)) (v := (.int s1)) (by rw [e5]; exact Ar19_7.1) (State.isArrayOf_alike hZ.alike Ar19_7.2.1) Ar19_7.2.2 hin19_7 hat19_7 (g := (mkF m 19 #[.val (.ref mk), .val (.ref bx), .val (.int pr), .val (.ref bx), .val (.int (3 : Int32)), .val (.int (1 : Int32)), .val (.int s0)] [(.int (1 : Int32)), (.ref bx)])) rfl rfl (hb hby d2_19) _ ?_
    show Steps p.tables e below (T5.setTop (mkF m 20 #[.val (.ref mk), .val (.ref bx), .val (.int pr), .val (.ref bx), .val (.int (3 : Int32)), .val (.int (1 : Int32)), .val (.int s0)] [(.int s1)])) _
    refine XS.istore X5.here hx rfl (hb hby d2_20) rfl (l' := #[.val (.ref mk), .val (.ref bx), .val (.int pr), .val (.ref bx), .val (.int (3 : Int32)), .val (.int (1 : Int32)), .val (.int s1)]) rfl ?_
    show Steps p.tables e below (T5.setTop (mkF m 22 #[.val (.ref mk), .val (.ref bx), .val (.int pr), .val (.ref bx), .val (.int (3 : Int32)), .val (.int (1 : Int32)), .val (.int s1)] [])) _
    refine XS.aloadN X5.here hx rfl (hb hby d2_22) rfl rfl ?_
    show Steps p.tables e below (T5.setTop (mkF m 23 #[.val (.ref mk), .val (.ref bx), .val (.int pr), .val (.ref bx), .val (.int (3 : Int32)), .val (.int (1 : Int32)), .val (.int s1)] [(.ref mk)])) _
    refine XS.iload X5.here hx rfl (hb hby d2_23) rfl ?_
    show Steps p.tables e below (T5.setTop (mkF m 25 #[.val (.ref mk), .val (.ref bx), .val (.int pr), .val (.ref bx), .val (.int (3 : Int32)), .val (.int (1 : Int32)), .val (.int s1)] [(.int s1), (.ref mk)])) _
    refine XS.iloadN X5.here hx rfl (hb hby d2_25) rfl ?_
    show Steps p.tables e below (T5.setTop (mkF m 26 #[.val (.ref mk), .val (.ref bx), .val (.int pr), .val (.ref bx), .val (.int (3 : Int32)), .val (.int (1 : Int32)), .val (.int s1)] [(.int pr), (.int s1), (.ref mk)])) _
    refine st9 _ ?_
    show Steps p.tables e below (T9.setTop (mkF m 27 #[.val (.ref mk), .val (.ref bx), .val (.int pr), .val (.ref bx), .val (.int (3 : Int32)), .val (.int (1 : Int32)), .val (.int s1)] [])) _
    refine XS.iinc X9.here hx rfl (hb hby d2_27) rfl (l' := #[.val (.ref mk), .val (.ref bx), .val (.int pr), .val (.ref bx), .val (.int (3 : Int32)), .val (.int ((1 : Int32) + (1 : Int32))), .val (.int s1)]) rfl ?_
    show Steps p.tables e below (T9.setTop (mkF m 30 #[.val (.ref mk), .val (.ref bx), .val (.int pr), .val (.ref bx), .val (.int (3 : Int32)), .val (.int ((1 : Int32) + (1 : Int32))), .val (.int s1)] [])) _
    rw [(by decide : ((1 : Int32) + (1 : Int32)) = (2 : Int32))]
    show Steps p.tables e below (T9.setTop (mkF m 30 #[.val (.ref mk), .val (.ref bx), .val (.int pr), .val (.ref bx), .val (.int (3 : Int32)), .val (.int (2 : Int32)), .val (.int s1)] [])) _
    refine XS.goto X9.here hx rfl (pc0 := 30) (pc' := 9) rfl (hb hby d2_30) (by decide) (by decide) ?_
    show Steps p.tables e below (T9.setTop (mkF m 9 #[.val (.ref mk), .val (.ref bx), .val (.int pr), .val (.ref bx), .val (.int (3 : Int32)), .val (.int (2 : Int32)), .val (.int s1)] [])) _
    refine XS.iload X9.here hx rfl (hb hby d2_9) rfl ?_
    show Steps p.tables e below (T9.setTop (mkF m 11 #[.val (.ref mk), .val (.ref bx), .val (.int pr), .val (.ref bx), .val (.int (3 : Int32)), .val (.int (2 : Int32)), .val (.int s1)] [(.int (2 : Int32))])) _
    refine XS.iload X9.here hx rfl (hb hby d2_11) rfl ?_
    show Steps p.tables e below (T9.setTop (mkF m 13 #[.val (.ref mk), .val (.ref bx), .val (.int pr), .val (.ref bx), .val (.int (3 : Int32)), .val (.int (2 : Int32)), .val (.int s1)] [(.int (3 : Int32)), (.int (2 : Int32))])) _
    refine XS.icmpNo X9.here hx rfl (hb hby d2_13) rfl (tlt hd10).2.1 ?_
    show Steps p.tables e below (T9.setTop (mkF m 16 #[.val (.ref mk), .val (.ref bx), .val (.int pr), .val (.ref bx), .val (.int (3 : Int32)), .val (.int (2 : Int32)), .val (.int s1)] [])) _
    refine XS.aloadN X9.here hx rfl (hb hby d2_16) rfl rfl ?_
    show Steps p.tables e below (T9.setTop (mkF m 17 #[.val (.ref mk), .val (.ref bx), .val (.int pr), .val (.ref bx), .val (.int (3 : Int32)), .val (.int (2 : Int32)), .val (.int s1)] [(.ref bx)])) _
    refine XS.iload X9.here hx rfl (hb hby d2_17) rfl ?_
    show Steps p.tables e below (T9.setTop (mkF m 19 #[.val (.ref mk), .val (.ref bx), .val (.int pr), .val (.ref bx), .val (.int (3 : Int32)), .val (.int (2 : Int32)), .val (.int s1)] [(.int (2 : Int32)), (.ref bx)])) _
    refine X9.iaload hx (j := (2 : Int32)) (v := (.int s2)) (by rw [e9]; exact Ar19_11.1) (State.isArrayOf_alike hZ.alike Ar19_11.2.1) Ar19_11.2.2 hin19_11 hat19_11 (g := (mkF m 19 #[.val (.ref mk), .val (.ref bx), .val (.int pr), .val (.ref bx), .val (.int (3 : Int32)), .val (.int (2 : Int32)), .val (.int s1)] [(.int (2 : Int32)), (.ref bx)])) rfl rfl (hb hby d2_19) _ ?_
    show Steps p.tables e below (T9.setTop (mkF m 20 #[.val (.ref mk), .val (.ref bx), .val (.int pr), .val (.ref bx), .val (.int (3 : Int32)), .val (.int (2 : Int32)), .val (.int s1)] [(.int s2)])) _
    refine XS.istore X9.here hx rfl (hb hby d2_20) rfl (l' := #[.val (.ref mk), .val (.ref bx), .val (.int pr), .val (.ref bx), .val (.int (3 : Int32)), .val (.int (2 : Int32)), .val (.int s2)]) rfl ?_
    show Steps p.tables e below (T9.setTop (mkF m 22 #[.val (.ref mk), .val (.ref bx), .val (.int pr), .val (.ref bx), .val (.int (3 : Int32)), .val (.int (2 : Int32)), .val (.int s2)] [])) _
    refine XS.aloadN X9.here hx rfl (hb hby d2_22) rfl rfl ?_
    show Steps p.tables e below (T9.setTop (mkF m 23 #[.val (.ref mk), .val (.ref bx), .val (.int pr), .val (.ref bx), .val (.int (3 : Int32)), .val (.int (2 : Int32)), .val (.int s2)] [(.ref mk)])) _
    refine XS.iload X9.here hx rfl (hb hby d2_23) rfl ?_
    show Steps p.tables e below (T9.setTop (mkF m 25 #[.val (.ref mk), .val (.ref bx), .val (.int pr), .val (.ref bx), .val (.int (3 : Int32)), .val (.int (2 : Int32)), .val (.int s2)] [(.int s2), (.ref mk)])) _
    refine XS.iloadN X9.here hx rfl (hb hby d2_25) rfl ?_
    show Steps p.tables e below (T9.setTop (mkF m 26 #[.val (.ref mk), .val (.ref bx), .val (.int pr), .val (.ref bx), .val (.int (3 : Int32)), .val (.int (2 : Int32)), .val (.int s2)] [(.int pr), (.int s2), (.ref mk)])) _
    refine st13 _ ?_
    show Steps p.tables e below (T13.setTop (mkF m 27 #[.val (.ref mk), .val (.ref bx), .val (.int pr), .val (.ref bx), .val (.int (3 : Int32)), .val (.int (2 : Int32)), .val (.int s2)] [])) _
    refine XS.iinc X13.here hx rfl (hb hby d2_27) rfl (l' := #[.val (.ref mk), .val (.ref bx), .val (.int pr), .val (.ref bx), .val (.int (3 : Int32)), .val (.int ((2 : Int32) + (1 : Int32))), .val (.int s2)]) rfl ?_
    show Steps p.tables e below (T13.setTop (mkF m 30 #[.val (.ref mk), .val (.ref bx), .val (.int pr), .val (.ref bx), .val (.int (3 : Int32)), .val (.int ((2 : Int32) + (1 : Int32))), .val (.int s2)] [])) _
    rw [(by decide : ((2 : Int32) + (1 : Int32)) = (3 : Int32))]
    show Steps p.tables e below (T13.setTop (mkF m 30 #[.val (.ref mk), .val (.ref bx), .val (.int pr), .val (.ref bx), .val (.int (3 : Int32)), .val (.int (3 : Int32)), .val (.int s2)] [])) _
    refine XS.goto X13.here hx rfl (pc0 := 30) (pc' := 9) rfl (hb hby d2_30) (by decide) (by decide) ?_
    show Steps p.tables e below (T13.setTop (mkF m 9 #[.val (.ref mk), .val (.ref bx), .val (.int pr), .val (.ref bx), .val (.int (3 : Int32)), .val (.int (3 : Int32)), .val (.int s2)] [])) _
    refine XS.iload X13.here hx rfl (hb hby d2_9) rfl ?_
    show Steps p.tables e below (T13.setTop (mkF m 11 #[.val (.ref mk), .val (.ref bx), .val (.int pr), .val (.ref bx), .val (.int (3 : Int32)), .val (.int (3 : Int32)), .val (.int s2)] [(.int (3 : Int32))])) _
    refine XS.iload X13.here hx rfl (hb hby d2_11) rfl ?_
    show Steps p.tables e below (T13.setTop (mkF m 13 #[.val (.ref mk), .val (.ref bx), .val (.int pr), .val (.ref bx), .val (.int (3 : Int32)), .val (.int (3 : Int32)), .val (.int s2)] [(.int (3 : Int32)), (.int (3 : Int32))])) _
    refine XS.icmpYes X13.here hx rfl (pc0 := 13) (pc' := 33) rfl (hb hby d2_13) rfl (flt hd14).2.1 (by decide) (by decide) ?_
    show Steps p.tables e below (T13.setTop (mkF m 33 #[.val (.ref mk), .val (.ref bx), .val (.int pr), .val (.ref bx), .val (.int (3 : Int32)), .val (.int (3 : Int32)), .val (.int s2)] [])) _
    exact kt
  obtain ⟨fs, hr, hrun, hended, hW, hsame⟩ := X13.leave (v := none) (fun _ => rfl)
  refine ⟨_, _, k15 _ ?_, hrun, hended, _, _, rfl, ?_, ⟨_, rfl⟩, hW, hsame.mono (by decide) (by decide)⟩
  · exact X13.returnOut hx Bd.returns (hb hby d2_33) hr
  · show QPlace Z mk cm (((vs.set s0.toNatClampNeg (.int (nar .boolean pr))).set s1.toNatClampNeg (.int (nar .boolean pr))).set s2.toNatClampNeg (.int (nar .boolean pr))) h0 n0 _ T13.heap _
    rw [e13]
    exact ⟨rfl, N13, KP13, V13_mk⟩
theorem d1_59 : decode method_3_code 59 = .ok (.iconst 4, 1) := by decide +kernel
theorem d1_60 : decode method_3_code 60 = .ok (.newarray .int, 2) := by decide +kernel
theorem d1_62 : decode method_3_code 62 = .ok (.dup, 1) := by decide +kernel
theorem d1_63 : decode method_3_code 63 = .ok (.iconst 0, 1) := by decide +kernel
theorem d1_64 : decode method_3_code 64 = .ok (.iload_n 1, 1) := by decide +kernel
theorem d1_65 : decode method_3_code 65 = .ok (.iastore, 1) := by decide +kernel
theorem d1_66 : decode method_3_code 66 = .ok (.dup, 1) := by decide +kernel
theorem d1_67 : decode method_3_code 67 = .ok (.iconst 1, 1) := by decide +kernel
theorem d1_68 : decode method_3_code 68 = .ok (.iload_n 2, 1) := by decide +kernel
theorem d1_69 : decode method_3_code 69 = .ok (.iastore, 1) := by decide +kernel
theorem d1_70 : decode method_3_code 70 = .ok (.dup, 1) := by decide +kernel
theorem d1_71 : decode method_3_code 71 = .ok (.iconst 2, 1) := by decide +kernel
theorem d1_72 : decode method_3_code 72 = .ok (.iload_n 3, 1) := by decide +kernel
theorem d1_73 : decode method_3_code 73 = .ok (.iastore, 1) := by decide +kernel
theorem d1_74 : decode method_3_code 74 = .ok (.dup, 1) := by decide +kernel
theorem d1_75 : decode method_3_code 75 = .ok (.iconst 3, 1) := by decide +kernel
theorem d1_76 : decode method_3_code 76 = .ok (.iload 4, 2) := by decide +kernel
theorem d1_78 : decode method_3_code 78 = .ok (.iastore, 1) := by decide +kernel
theorem d1_79 : decode method_3_code 79 = .ok (.areturn, 1) := by decide +kernel
theorem ef_rmBox4 (m : MethodId) (s0 : Int32) (s1 : Int32) (s2 : Int32) (s3 : Int32) : entryFrame m #[(.int (4 : Int32)), (.int s0), (.int s1), (.int s2), (.int s3)] 5 = mkF m 0 #[.val (.int (4 : Int32)), .val (.int s0), .val (.int s1), .val (.int s2), .val (.int s3)] [] := by first | (simp [entryFrame, mkF, argsToLocals, Value.category]; done) | rfl
set_option maxRecDepth 65536 in
set_option maxHeartbeats 40000000 in
theorem rmBox4 (l : Launch) (Z : State) (a0 : Array Value) (hw : ∀ d ∈ tables_1, d.before a0 Z = true) (ws : List Jvm.Cond) (s0 : Int32) (s1 : Int32) (s2 : Int32) (s3 : Int32)  (h0 : Heap) (n0 : Nat) (Z0 : n0 ≤ h0.size)  :
    MetFree l (⟨"pushwise/BoxesPlacePinLaw", "boxesOf", "(IIIII)[I"⟩ : MethodName) (head1 (Jvm.Cond.code (⟨"pushwise/BoxesPlacePinLaw", "boxesOf", "(IIIII)[I"⟩ : MethodName) method_3_code 5 (some (.array .int)) :: ws) ({ frames := 0, cells := 1, slots := 4, locals := 0 } : Room)) (fun a_ U_ => a_ = #[(.int (4 : Int32)), (.int s0), (.int s1), (.int s2), (.int s3)] ∧ Z.Warmed39 U_.vm ∧ U_.heap = h0) (fun _ _ _ _ _ => True) (fun _ U_ o_ U'_ => ∃ v_ L_, o_ = .returned v_ ∧ QBox Z (4 : Int32) [(.int s0), (.int s1), (.int s2), (.int s3)] h0 n0 v_ U'_.heap L_ ∧ FrameEnd U_ o_ U'_ L_ ({ frames := 0, cells := 1, slots := 4, locals := 0 } : Room).cells ({ frames := 0, cells := 1, slots := 4, locals := 0 } : Room).slots) := by
  refine MetFree.of_bodySF (plainFor_of_name pn_1) hisR ?_
  intro p e s m args below meth c s₁ Bd hml0 hP hK
  obtain ⟨rfl, hZ, hh⟩ := hP
  have hx := Bd.exec
  have hby := Bd.bytes
  have hml : c.maxLocals = 5 := hml0
  have hown : s.vm.findClass "pushwise/BoxesPlacePinLaw" = some m.cls := findClass_of_methodNamed Bd.named
  have hnm := (name_of_methodNamed Bd.named Bd.method).1
  have X0 : Stand p l e ({ frames := 0, cells := 1, slots := 4, locals := 0 } : Room) s m #[(.int (4 : Int32)), (.int s0), (.int s1), (.int s2), (.int s3)] below meth c s₁ [] 0 0 := Stand.of_body Bd
  have e0 : s₁.heap = h0 := by rw [← hh, Bd.state]; rfl
  have N0 := Fr.nil n0
  have k0 : ∀ tg, Steps p.tables e below (s₁.setTop (mkF m 0 #[.val (.int (4 : Int32)), .val (.int s0), .val (.int s1), .val (.int s2), .val (.int s3)] [])) tg → Steps p.tables e below (s₁.setTop (entryFrame m #[(.int (4 : Int32)), (.int s0), (.int s1), (.int s2), (.int s3)] 5)) tg := fun tg kq_ => castTop (ef_rmBox4 m s0 s1 s2 s3) kq_
  have hd1 : ¬ ((4 : Int32) = (0 : Int32)) := by decide
  have hd2 : ¬ ((4 : Int32) = (1 : Int32)) := by decide
  have hd3 : ¬ ((4 : Int32) = (2 : Int32)) := by decide
  have hd4 : ¬ ((4 : Int32) = (3 : Int32)) := by decide
  obtain ⟨T5, h5, c5, X5, e5, E5, A5, st5⟩ := newP X0 hx hZ (hw _ (List.mem_of_getElem? (i := 6) rfl)) e0 (g := (mkF m 60 #[.val (.int (4 : Int32)), .val (.int s0), .val (.int s1), .val (.int s2), .val (.int s3)] [(.int (4 : Int32))])) rfl (hb hby d1_60) rfl (by decide) (cap := 4) (by decide) (by decide) (by decide) (by decide)
  obtain ⟨b5, g5⟩ : ∃ z, z = h0.size := ⟨_, rfl⟩
  have g_b5 : n0 ≤ b5 := Nat.le_trans Z0 (Nat.le_of_eq g5.symm)
  have sz_b5 : h0.size ≤ b5 := Nat.le_trans (Keep.refl h0 []).1 (Nat.le_of_eq g5.symm)
  rw [← g5] at A5 st5
  have Z5 := Nat.le_trans Z0 E5.1
  have KP5 := (Keep.refl h0 []).ext E5
  have V_b5 : Arv Z h5 b5 c5 .int (4 : Int32) [(.int (0 : Int32)), (.int (0 : Int32)), (.int (0 : Int32)), (.int (0 : Int32))] (.int (0 : Int32)) := (Arv.new A5 (by decide)).pad (pad_rep [] (.int (0 : Int32)) 4)
  obtain ⟨cl65_6, Ar65_6, q65_6, S65_6, N65_6_, H65_6, G65_6⟩ := id V_b5
  have hin65_6 : ¬ ((0 : Int32) < 0 ∨ cl65_6.slots.size ≤ ((0 : Int32)).toNatClampNeg) := inb_of S65_6 ⟨by decide, by decide⟩
  obtain ⟨T7, h7, X7, e7, W7, st7⟩ := stI X5 hx hZ e5 Ar65_6 (j := (0 : Int32)) hin65_6 (g := (mkF m 65 #[.val (.int (4 : Int32)), .val (.int s0), .val (.int s1), .val (.int s2), .val (.int s3)] [(.int s0), (.int (0 : Int32)), (.ref b5), (.ref b5)])) rfl rfl (hb hby d1_65)
  have Z7 := Nat.le_trans Z5 (Keep.of_wr W7).1
  have KP7 := KP5.wr W7 (Or.inr sz_b5)
  have N7 := Fr.snoc X7 N0 g_b5
  have V7_b5 : Arv Z h7 b5 c5 .int (4 : Int32) [(.int s0), (.int (0 : Int32)), (.int (0 : Int32)), (.int (0 : Int32))] (.int (0 : Int32)) := Arv.set Ar65_6 q65_6 S65_6 N65_6_ H65_6 G65_6 rfl W7 0 rfl (Nat.le_of_ble_eq_true rfl)
  obtain ⟨cl69_8, Ar69_8, q69_8, S69_8, N69_8_, H69_8, G69_8⟩ := id V7_b5
  have hin69_8 : ¬ ((1 : Int32) < 0 ∨ cl69_8.slots.size ≤ ((1 : Int32)).toNatClampNeg) := inb_of S69_8 ⟨by decide, by decide⟩
  obtain ⟨T9, h9, X9, e9, W9, st9⟩ := stI X7 hx hZ e7 Ar69_8 (j := (1 : Int32)) hin69_8 (g := (mkF m 69 #[.val (.int (4 : Int32)), .val (.int s0), .val (.int s1), .val (.int s2), .val (.int s3)] [(.int s1), (.int (1 : Int32)), (.ref b5), (.ref b5)])) rfl rfl (hb hby d1_69)
  have Z9 := Nat.le_trans Z7 (Keep.of_wr W9).1
  have KP9 := KP7.wr W9 (Or.inr sz_b5)
  have N9 := Fr.snoc X9 N7 g_b5
  have V9_b5 : Arv Z h9 b5 c5 .int (4 : Int32) [(.int s0), (.int s1), (.int (0 : Int32)), (.int (0 : Int32))] (.int (0 : Int32)) := Arv.set Ar69_8 q69_8 S69_8 N69_8_ H69_8 G69_8 rfl W9 1 rfl (Nat.le_of_ble_eq_true rfl)
  obtain ⟨cl73_10, Ar73_10, q73_10, S73_10, N73_10_, H73_10, G73_10⟩ := id V9_b5
  have hin73_10 : ¬ ((2 : Int32) < 0 ∨ cl73_10.slots.size ≤ ((2 : Int32)).toNatClampNeg) := inb_of S73_10 ⟨by decide, by decide⟩
  obtain ⟨T11, h11, X11, e11, W11, st11⟩ := stI X9 hx hZ e9 Ar73_10 (j := (2 : Int32)) hin73_10 (g := (mkF m 73 #[.val (.int (4 : Int32)), .val (.int s0), .val (.int s1), .val (.int s2), .val (.int s3)] [(.int s2), (.int (2 : Int32)), (.ref b5), (.ref b5)])) rfl rfl (hb hby d1_73)
  have Z11 := Nat.le_trans Z9 (Keep.of_wr W11).1
  have KP11 := KP9.wr W11 (Or.inr sz_b5)
  have N11 := Fr.snoc X11 N9 g_b5
  have V11_b5 : Arv Z h11 b5 c5 .int (4 : Int32) [(.int s0), (.int s1), (.int s2), (.int (0 : Int32))] (.int (0 : Int32)) := Arv.set Ar73_10 q73_10 S73_10 N73_10_ H73_10 G73_10 rfl W11 2 rfl (Nat.le_of_ble_eq_true rfl)
  obtain ⟨cl78_12, Ar78_12, q78_12, S78_12, N78_12_, H78_12, G78_12⟩ := id V11_b5
  have hin78_12 : ¬ ((3 : Int32) < 0 ∨ cl78_12.slots.size ≤ ((3 : Int32)).toNatClampNeg) := inb_of S78_12 ⟨by decide, by decide⟩
  obtain ⟨T13, h13, X13, e13, W13, st13⟩ := stI X11 hx hZ e11 Ar78_12 (j := (3 : Int32)) hin78_12 (g := (mkF m 78 #[.val (.int (4 : Int32)), .val (.int s0), .val (.int s1), .val (.int s2), .val (.int s3)] [(.int s3), (.int (3 : Int32)), (.ref b5), (.ref b5)])) rfl rfl (hb hby d1_78)
  have Z13 := Nat.le_trans Z11 (Keep.of_wr W13).1
  have KP13 := KP11.wr W13 (Or.inr sz_b5)
  have N13 := Fr.snoc X13 N11 g_b5
  have V13_b5 : Arv Z h13 b5 c5 .int (4 : Int32) [(.int s0), (.int s1), (.int s2), (.int s3)] (.int (0 : Int32)) := Arv.set Ar78_12 q78_12 S78_12 N78_12_ H78_12 G78_12 rfl W13 3 rfl (Nat.le_of_ble_eq_true rfl)
  have k14 : ∀ tg, Steps p.tables e below (T13.setTop (mkF m 79 #[.val (.int (4 : Int32)), .val (.int s0), .val (.int s1), .val (.int s2), .val (.int s3)] [(.ref b5)])) tg → Steps p.tables e below (s₁.setTop (entryFrame m #[(.int (4 : Int32)), (.int s0), (.int s1), (.int s2), (.int s3)] 5)) tg := by
    intro tg kt
    refine k0 tg ?_
    show Steps p.tables e below (s₁.setTop (mkF m 0 #[.val (.int (4 : Int32)), .val (.int s0), .val (.int s1), .val (.int s2), .val (.int s3)] [])) _
    refine XS.iloadN X0.here hx rfl (hb hby d1_0) rfl ?_
    show Steps p.tables e below (s₁.setTop (mkF m 1 #[.val (.int (4 : Int32)), .val (.int s0), .val (.int s1), .val (.int s2), .val (.int s3)] [(.int (4 : Int32))])) _
    refine XS.ifYes X0.here hx rfl (pc0 := 1) (pc' := 8) rfl (hb hby d1_1) rfl ((if0 _ _).trans (feq hd1).2) (by decide) (by decide) ?_
    show Steps p.tables e below (s₁.setTop (mkF m 8 #[.val (.int (4 : Int32)), .val (.int s0), .val (.int s1), .val (.int s2), .val (.int s3)] [])) _
    refine XS.iloadN X0.here hx rfl (hb hby d1_8) rfl ?_
    show Steps p.tables e below (s₁.setTop (mkF m 9 #[.val (.int (4 : Int32)), .val (.int s0), .val (.int s1), .val (.int s2), .val (.int s3)] [(.int (4 : Int32))])) _
    refine XS.iconst X0.here hx rfl (hb hby d1_9) ?_
    show Steps p.tables e below (s₁.setTop (mkF m 10 #[.val (.int (4 : Int32)), .val (.int s0), .val (.int s1), .val (.int s2), .val (.int s3)] [(.int (1 : Int32)), (.int (4 : Int32))])) _
    refine XS.icmpYes X0.here hx rfl (pc0 := 10) (pc' := 21) rfl (hb hby d1_10) rfl (feq hd2).2 (by decide) (by decide) ?_
    show Steps p.tables e below (s₁.setTop (mkF m 21 #[.val (.int (4 : Int32)), .val (.int s0), .val (.int s1), .val (.int s2), .val (.int s3)] [])) _
    refine XS.iloadN X0.here hx rfl (hb hby d1_21) rfl ?_
    show Steps p.tables e below (s₁.setTop (mkF m 22 #[.val (.int (4 : Int32)), .val (.int s0), .val (.int s1), .val (.int s2), .val (.int s3)] [(.int (4 : Int32))])) _
    refine XS.iconst X0.here hx rfl (hb hby d1_22) ?_
    show Steps p.tables e below (s₁.setTop (mkF m 23 #[.val (.int (4 : Int32)), .val (.int s0), .val (.int s1), .val (.int s2), .val (.int s3)] [(.int (2 : Int32)), (.int (4 : Int32))])) _
    refine XS.icmpYes X0.here hx rfl (pc0 := 23) (pc' := 38) rfl (hb hby d1_23) rfl (feq hd3).2 (by decide) (by decide) ?_
    show Steps p.tables e below (s₁.setTop (mkF m 38 #[.val (.int (4 : Int32)), .val (.int s0), .val (.int s1), .val (.int s2), .val (.int s3)] [])) _
    refine XS.iloadN X0.here hx rfl (hb hby d1_38) rfl ?_
    show Steps p.tables e below (s₁.setTop (mkF m 39 #[.val (.int (4 : Int32)), .val (.int s0), .val (.int s1), .val (.int s2), .val (.int s3)] [(.int (4 : Int32))])) _
    refine XS.iconst X0.here hx rfl (hb hby d1_39) ?_
    show Steps p.tables e below (s₁.setTop (mkF m 40 #[.val (.int (4 : Int32)), .val (.int s0), .val (.int s1), .val (.int s2), .val (.int s3)] [(.int (3 : Int32)), (.int (4 : Int32))])) _
    refine XS.icmpYes X0.here hx rfl (pc0 := 40) (pc' := 59) rfl (hb hby d1_40) rfl (feq hd4).2 (by decide) (by decide) ?_
    show Steps p.tables e below (s₁.setTop (mkF m 59 #[.val (.int (4 : Int32)), .val (.int s0), .val (.int s1), .val (.int s2), .val (.int s3)] [])) _
    refine XS.iconst X0.here hx rfl (hb hby d1_59) ?_
    show Steps p.tables e below (s₁.setTop (mkF m 60 #[.val (.int (4 : Int32)), .val (.int s0), .val (.int s1), .val (.int s2), .val (.int s3)] [(.int (4 : Int32))])) _
    refine st5 _ ?_
    show Steps p.tables e below (T5.setTop (mkF m 62 #[.val (.int (4 : Int32)), .val (.int s0), .val (.int s1), .val (.int s2), .val (.int s3)] [(.ref b5)])) _
    refine XS.dup X5.here hx rfl (hb hby d1_62) rfl rfl ?_
    show Steps p.tables e below (T5.setTop (mkF m 63 #[.val (.int (4 : Int32)), .val (.int s0), .val (.int s1), .val (.int s2), .val (.int s3)] [(.ref b5), (.ref b5)])) _
    refine XS.iconst X5.here hx rfl (hb hby d1_63) ?_
    show Steps p.tables e below (T5.setTop (mkF m 64 #[.val (.int (4 : Int32)), .val (.int s0), .val (.int s1), .val (.int s2), .val (.int s3)] [(.int (0 : Int32)), (.ref b5), (.ref b5)])) _
    refine XS.iloadN X5.here hx rfl (hb hby d1_64) rfl ?_
    show Steps p.tables e below (T5.setTop (mkF m 65 #[.val (.int (4 : Int32)), .val (.int s0), .val (.int s1), .val (.int s2), .val (.int s3)] [(.int s0), (.int (0 : Int32)), (.ref b5), (.ref b5)])) _
    refine st7 _ ?_
    show Steps p.tables e below (T7.setTop (mkF m 66 #[.val (.int (4 : Int32)), .val (.int s0), .val (.int s1), .val (.int s2), .val (.int s3)] [(.ref b5)])) _
    refine XS.dup X7.here hx rfl (hb hby d1_66) rfl rfl ?_
    show Steps p.tables e below (T7.setTop (mkF m 67 #[.val (.int (4 : Int32)), .val (.int s0), .val (.int s1), .val (.int s2), .val (.int s3)] [(.ref b5), (.ref b5)])) _
    refine XS.iconst X7.here hx rfl (hb hby d1_67) ?_
    show Steps p.tables e below (T7.setTop (mkF m 68 #[.val (.int (4 : Int32)), .val (.int s0), .val (.int s1), .val (.int s2), .val (.int s3)] [(.int (1 : Int32)), (.ref b5), (.ref b5)])) _
    refine XS.iloadN X7.here hx rfl (hb hby d1_68) rfl ?_
    show Steps p.tables e below (T7.setTop (mkF m 69 #[.val (.int (4 : Int32)), .val (.int s0), .val (.int s1), .val (.int s2), .val (.int s3)] [(.int s1), (.int (1 : Int32)), (.ref b5), (.ref b5)])) _
    refine st9 _ ?_
    show Steps p.tables e below (T9.setTop (mkF m 70 #[.val (.int (4 : Int32)), .val (.int s0), .val (.int s1), .val (.int s2), .val (.int s3)] [(.ref b5)])) _
    refine XS.dup X9.here hx rfl (hb hby d1_70) rfl rfl ?_
    show Steps p.tables e below (T9.setTop (mkF m 71 #[.val (.int (4 : Int32)), .val (.int s0), .val (.int s1), .val (.int s2), .val (.int s3)] [(.ref b5), (.ref b5)])) _
    refine XS.iconst X9.here hx rfl (hb hby d1_71) ?_
    show Steps p.tables e below (T9.setTop (mkF m 72 #[.val (.int (4 : Int32)), .val (.int s0), .val (.int s1), .val (.int s2), .val (.int s3)] [(.int (2 : Int32)), (.ref b5), (.ref b5)])) _
    refine XS.iloadN X9.here hx rfl (hb hby d1_72) rfl ?_
    show Steps p.tables e below (T9.setTop (mkF m 73 #[.val (.int (4 : Int32)), .val (.int s0), .val (.int s1), .val (.int s2), .val (.int s3)] [(.int s2), (.int (2 : Int32)), (.ref b5), (.ref b5)])) _
    refine st11 _ ?_
    show Steps p.tables e below (T11.setTop (mkF m 74 #[.val (.int (4 : Int32)), .val (.int s0), .val (.int s1), .val (.int s2), .val (.int s3)] [(.ref b5)])) _
    refine XS.dup X11.here hx rfl (hb hby d1_74) rfl rfl ?_
    show Steps p.tables e below (T11.setTop (mkF m 75 #[.val (.int (4 : Int32)), .val (.int s0), .val (.int s1), .val (.int s2), .val (.int s3)] [(.ref b5), (.ref b5)])) _
    refine XS.iconst X11.here hx rfl (hb hby d1_75) ?_
    show Steps p.tables e below (T11.setTop (mkF m 76 #[.val (.int (4 : Int32)), .val (.int s0), .val (.int s1), .val (.int s2), .val (.int s3)] [(.int (3 : Int32)), (.ref b5), (.ref b5)])) _
    refine XS.iload X11.here hx rfl (hb hby d1_76) rfl ?_
    show Steps p.tables e below (T11.setTop (mkF m 78 #[.val (.int (4 : Int32)), .val (.int s0), .val (.int s1), .val (.int s2), .val (.int s3)] [(.int s3), (.int (3 : Int32)), (.ref b5), (.ref b5)])) _
    refine st13 _ ?_
    show Steps p.tables e below (T13.setTop (mkF m 79 #[.val (.int (4 : Int32)), .val (.int s0), .val (.int s1), .val (.int s2), .val (.int s3)] [(.ref b5)])) _
    exact kt
  obtain ⟨fs, hr, hrun, hended, hW, hsame⟩ := X13.leave (v := some (.ref b5)) (fun h => by rw [Bd.returns] at h; cases h)
  refine ⟨_, _, k14 _ ?_, hrun, hended, _, _, rfl, ?_, ⟨_, rfl⟩, hW, hsame.mono (by decide) (by decide)⟩
  · exact own_retA X13 hx Bd.returns rfl (hb hby d1_79) hr
  · show QBox Z (4 : Int32) [(.int s0), (.int s1), (.int s2), (.int s3)] h0 n0 _ T13.heap _
    rw [e13]
    exact ⟨N13, KP13, b5, c5, rfl, sz_b5, V13_b5⟩
theorem ef_rmPlace4 (m : MethodId) (mk : Addr) (bx : Addr) (pr : Int32) : entryFrame m #[(.ref mk), (.ref bx), (.int pr)] 7 = mkF m 0 #[.val (.ref mk), .val (.ref bx), .val (.int pr), .unset, .unset, .unset, .unset] [] := by first | (simp [entryFrame, mkF, argsToLocals, Value.category]; done) | rfl
set_option maxRecDepth 65536 in
set_option maxHeartbeats 40000000 in
theorem rmPlace4 (l : Launch) (Z : State) (a0 : Array Value) (hw : ∀ d ∈ tables_1, d.before a0 Z = true) (ws : List Jvm.Cond) (mk : Addr) (bx : Addr) (pr : Int32) (cm cb : ClassId) (vs : List Value) (s0 s1 s2 s3 : Int32) (h0 : Heap) (n0 : Nat) (Z0 : n0 ≤ h0.size) (Vm : Arv Z h0 mk cm .boolean (8 : Int32) vs (.int (0 : Int32))) (hlen : vs.length = 8) (Vb : Arv Z h0 bx cb .int (4 : Int32) [(.int s0), (.int s1), (.int s2), (.int s3)] (.int (0 : Int32))) (ne_m_b : mk ≠ bx) (g_mk : n0 ≤ mk) (hb_s0 : ¬ s0 < 0 ∧ s0 < (8 : Int32)) (hb_s1 : ¬ s1 < 0 ∧ s1 < (8 : Int32)) (hb_s2 : ¬ s2 < 0 ∧ s2 < (8 : Int32)) (hb_s3 : ¬ s3 < 0 ∧ s3 < (8 : Int32)) :
    MetFree l (⟨"pushwise/Boxes", "place", "([Z[IZ)V"⟩ : MethodName) (head1 (Jvm.Cond.code (⟨"pushwise/Boxes", "place", "([Z[IZ)V"⟩ : MethodName) prog_1_method_4_code 7 none :: ws) ({ frames := 0, cells := 0, slots := 0, locals := 0 } : Room)) (fun a_ U_ => a_ = #[(.ref mk), (.ref bx), (.int pr)] ∧ Z.Warmed39 U_.vm ∧ U_.heap = h0) (fun _ _ _ _ _ => True) (fun _ U_ o_ U'_ => ∃ v_ L_, o_ = .returned v_ ∧ QPlace Z mk cm ((((vs.set s0.toNatClampNeg (.int (nar .boolean pr))).set s1.toNatClampNeg (.int (nar .boolean pr))).set s2.toNatClampNeg (.int (nar .boolean pr))).set s3.toNatClampNeg (.int (nar .boolean pr))) h0 n0 v_ U'_.heap L_ ∧ FrameEnd U_ o_ U'_ L_ ({ frames := 0, cells := 0, slots := 0, locals := 0 } : Room).cells ({ frames := 0, cells := 0, slots := 0, locals := 0 } : Room).slots) := by
  refine MetFree.of_bodySF (plainFor_of_name pn_2) hisR ?_
  intro p e s m args below meth c s₁ Bd hml0 hP hK
  obtain ⟨rfl, hZ, hh⟩ := hP
  have hx := Bd.exec
  have hby := Bd.bytes
  have hml : c.maxLocals = 7 := hml0
  have hown : s.vm.findClass "pushwise/Boxes" = some m.cls := findClass_of_methodNamed Bd.named
  have hnm := (name_of_methodNamed Bd.named Bd.method).1
  have X0 : Stand p l e ({ frames := 0, cells := 0, slots := 0, locals := 0 } : Room) s m #[(.ref mk), (.ref bx), (.int pr)] below meth c s₁ [] 0 0 := Stand.of_body Bd
  have e0 : s₁.heap = h0 := by rw [← hh, Bd.state]; rfl
  have N0 := Fr.nil n0
  have k0 : ∀ tg, Steps p.tables e below (s₁.setTop (mkF m 0 #[.val (.ref mk), .val (.ref bx), .val (.int pr), .unset, .unset, .unset, .unset] [])) tg → Steps p.tables e below (s₁.setTop (entryFrame m #[(.ref mk), (.ref bx), (.int pr)] 7)) tg := fun tg kq_ => castTop (ef_rmPlace4 m mk bx pr) kq_
  obtain ⟨cl3_1, Ar3_1, q3_1, S3_1, N3_1_, H3_1, G3_1⟩ := id Vb
  have hd2 : (0 : Int32) < (4 : Int32) := by decide
  obtain ⟨cl19_3, Ar19_3, q19_3, S19_3, N19_3_, H19_3, G19_3⟩ := id Vb
  have hin19_3 : ¬ ((0 : Int32) < 0 ∨ cl19_3.slots.size ≤ ((0 : Int32)).toNatClampNeg) := inb_of S19_3 ⟨by decide, by decide⟩
  have hat19_3 : cl19_3.slots[((0 : Int32)).toNatClampNeg]? = some (.int s0) := H19_3.at hin19_3 rfl
  obtain ⟨cl26_4, Ar26_4, q26_4, S26_4, N26_4_, H26_4, G26_4⟩ := id Vm
  have hin26_4 : ¬ (s0 < 0 ∨ cl26_4.slots.size ≤ (s0).toNatClampNeg) := inb_of S26_4 ⟨hb_s0.1, hb_s0.2⟩
  obtain ⟨T5, h5, X5, e5, W5, st5⟩ := stZ X0 hx hZ e0 Ar26_4 (j := s0) hin26_4 (g := (mkF m 26 #[.val (.ref mk), .val (.ref bx), .val (.int pr), .val (.ref bx), .val (.int (4 : Int32)), .val (.int (0 : Int32)), .val (.int s0)] [(.int pr), (.int s0), (.ref mk)])) rfl rfl (hb hby d2_26)
  have V5_bx := Vb.other W5 (Ne.symm ne_m_b)
  have Z5 := Nat.le_trans Z0 (Keep.of_wr W5).1
  have KP5 := (Keep.refl h0 [mk]).wr W5 (Or.inl (List.mem_of_getElem? (i := 0) rfl))
  have N5 := Fr.snoc X5 N0 g_mk
  have V5_mk : Arv Z h5 mk cm .boolean (8 : Int32) (vs.set s0.toNatClampNeg (.int (nar .boolean pr))) (.int (0 : Int32)) := Arv.set Ar26_4 q26_4 S26_4 N26_4_ H26_4 G26_4 (fits_nar_bool _) W5 s0.toNatClampNeg rfl (own_lt8 hb_s0 (by simp [hlen]))
  have hd6 : (1 : Int32) < (4 : Int32) := by decide
  obtain ⟨cl19_7, Ar19_7, q19_7, S19_7, N19_7_, H19_7, G19_7⟩ := id V5_bx
  have hin19_7 : ¬ ((1 : Int32) < 0 ∨ cl19_7.slots.size ≤ ((1 : Int32)).toNatClampNeg) := inb_of S19_7 ⟨by decide, by decide⟩
  have hat19_7 : cl19_7.slots[((1 : Int32)).toNatClampNeg]? = some (.int s1) := H19_7.at hin19_7 rfl
  obtain ⟨cl26_8, Ar26_8, q26_8, S26_8, N26_8_, H26_8, G26_8⟩ := id V5_mk
  have hin26_8 : ¬ (s1 < 0 ∨ cl26_8.slots.size ≤ (s1).toNatClampNeg) := inb_of S26_8 ⟨hb_s1.1, hb_s1.2⟩
  obtain ⟨T9, h9, X9, e9, W9, st9⟩ := stZ X5 hx hZ e5 Ar26_8 (j := s1) hin26_8 (g := (mkF m 26 #[.val (.ref mk), .val (.ref bx), .val (.int pr), .val (.ref bx), .val (.int (4 : Int32)), .val (.int (1 : Int32)), .val (.int s1)] [(.int pr), (.int s1), (.ref mk)])) rfl rfl (hb hby d2_26)
  have V9_bx := V5_bx.other W9 (Ne.symm ne_m_b)
  have Z9 := Nat.le_trans Z5 (Keep.of_wr W9).1
  have KP9 := KP5.wr W9 (Or.inl (List.mem_of_getElem? (i := 0) rfl))
  have N9 := Fr.snoc X9 N5 g_mk
  have V9_mk : Arv Z h9 mk cm .boolean (8 : Int32) ((vs.set s0.toNatClampNeg (.int (nar .boolean pr))).set s1.toNatClampNeg (.int (nar .boolean pr))) (.int (0 : Int32)) := Arv.set Ar26_8 q26_8 S26_8 N26_8_ H26_8 G26_8 (fits_nar_bool _) W9 s1.toNatClampNeg rfl (own_lt8 hb_s1 (by simp [hlen]))
  have hd10 : (2 : Int32) < (4 : Int32) := by decide
  obtain ⟨cl19_11, Ar19_11, q19_11, S19_11, N19_11_, H19_11, G19_11⟩ := id V9_bx
  have hin19_11 : ¬ ((2 : Int32) < 0 ∨ cl19_11.slots.size ≤ ((2 : Int32)).toNatClampNeg) := inb_of S19_11 ⟨by decide, by decide⟩
  have hat19_11 : cl19_11.slots[((2 : Int32)).toNatClampNeg]? = some (.int s2) := H19_11.at hin19_11 rfl
  obtain ⟨cl26_12, Ar26_12, q26_12, S26_12, N26_12_, H26_12, G26_12⟩ := id V9_mk
  have hin26_12 : ¬ (s2 < 0 ∨ cl26_12.slots.size ≤ (s2).toNatClampNeg) := inb_of S26_12 ⟨hb_s2.1, hb_s2.2⟩
  obtain ⟨T13, h13, X13, e13, W13, st13⟩ := stZ X9 hx hZ e9 Ar26_12 (j := s2) hin26_12 (g := (mkF m 26 #[.val (.ref mk), .val (.ref bx), .val (.int pr), .val (.ref bx), .val (.int (4 : Int32)), .val (.int (2 : Int32)), .val (.int s2)] [(.int pr), (.int s2), (.ref mk)])) rfl rfl (hb hby d2_26)
  have V13_bx := V9_bx.other W13 (Ne.symm ne_m_b)
  have Z13 := Nat.le_trans Z9 (Keep.of_wr W13).1
  have KP13 := KP9.wr W13 (Or.inl (List.mem_of_getElem? (i := 0) rfl))
  have N13 := Fr.snoc X13 N9 g_mk
  have V13_mk : Arv Z h13 mk cm .boolean (8 : Int32) (((vs.set s0.toNatClampNeg (.int (nar .boolean pr))).set s1.toNatClampNeg (.int (nar .boolean pr))).set s2.toNatClampNeg (.int (nar .boolean pr))) (.int (0 : Int32)) := Arv.set Ar26_12 q26_12 S26_12 N26_12_ H26_12 G26_12 (fits_nar_bool _) W13 s2.toNatClampNeg rfl (own_lt8 hb_s2 (by simp [hlen]))
  have hd14 : (3 : Int32) < (4 : Int32) := by decide
  obtain ⟨cl19_15, Ar19_15, q19_15, S19_15, N19_15_, H19_15, G19_15⟩ := id V13_bx
  have hin19_15 : ¬ ((3 : Int32) < 0 ∨ cl19_15.slots.size ≤ ((3 : Int32)).toNatClampNeg) := inb_of S19_15 ⟨by decide, by decide⟩
  have hat19_15 : cl19_15.slots[((3 : Int32)).toNatClampNeg]? = some (.int s3) := H19_15.at hin19_15 rfl
  obtain ⟨cl26_16, Ar26_16, q26_16, S26_16, N26_16_, H26_16, G26_16⟩ := id V13_mk
  have hin26_16 : ¬ (s3 < 0 ∨ cl26_16.slots.size ≤ (s3).toNatClampNeg) := inb_of S26_16 ⟨hb_s3.1, hb_s3.2⟩
  obtain ⟨T17, h17, X17, e17, W17, st17⟩ := stZ X13 hx hZ e13 Ar26_16 (j := s3) hin26_16 (g := (mkF m 26 #[.val (.ref mk), .val (.ref bx), .val (.int pr), .val (.ref bx), .val (.int (4 : Int32)), .val (.int (3 : Int32)), .val (.int s3)] [(.int pr), (.int s3), (.ref mk)])) rfl rfl (hb hby d2_26)
  have V17_bx := V13_bx.other W17 (Ne.symm ne_m_b)
  have Z17 := Nat.le_trans Z13 (Keep.of_wr W17).1
  have KP17 := KP13.wr W17 (Or.inl (List.mem_of_getElem? (i := 0) rfl))
  have N17 := Fr.snoc X17 N13 g_mk
  have V17_mk : Arv Z h17 mk cm .boolean (8 : Int32) ((((vs.set s0.toNatClampNeg (.int (nar .boolean pr))).set s1.toNatClampNeg (.int (nar .boolean pr))).set s2.toNatClampNeg (.int (nar .boolean pr))).set s3.toNatClampNeg (.int (nar .boolean pr))) (.int (0 : Int32)) := Arv.set Ar26_16 q26_16 S26_16 N26_16_ H26_16 G26_16 (fits_nar_bool _) W17 s3.toNatClampNeg rfl (own_lt8 hb_s3 (by simp [hlen]))
  have hd18 : ¬ ((4 : Int32) < (4 : Int32)) := by decide
  have k19 : ∀ tg, Steps p.tables e below (T17.setTop (mkF m 33 #[.val (.ref mk), .val (.ref bx), .val (.int pr), .val (.ref bx), .val (.int (4 : Int32)), .val (.int (4 : Int32)), .val (.int s3)] [])) tg → Steps p.tables e below (s₁.setTop (entryFrame m #[(.ref mk), (.ref bx), (.int pr)] 7)) tg := by
    intro tg kt
    refine k0 tg ?_
    show Steps p.tables e below (s₁.setTop (mkF m 0 #[.val (.ref mk), .val (.ref bx), .val (.int pr), .unset, .unset, .unset, .unset] [])) _
    refine XS.aloadN X0.here hx rfl (hb hby d2_0) rfl rfl ?_
    show Steps p.tables e below (s₁.setTop (mkF m 1 #[.val (.ref mk), .val (.ref bx), .val (.int pr), .unset, .unset, .unset, .unset] [(.ref bx)])) _
    refine XS.astoreN X0.here hx rfl (hb hby d2_1) rfl rfl (l' := #[.val (.ref mk), .val (.ref bx), .val (.int pr), .val (.ref bx), .unset, .unset, .unset]) rfl ?_
    show Steps p.tables e below (s₁.setTop (mkF m 2 #[.val (.ref mk), .val (.ref bx), .val (.int pr), .val (.ref bx), .unset, .unset, .unset] [])) _
    refine XS.aloadN X0.here hx rfl (hb hby d2_2) rfl rfl ?_
    show Steps p.tables e below (s₁.setTop (mkF m 3 #[.val (.ref mk), .val (.ref bx), .val (.int pr), .val (.ref bx), .unset, .unset, .unset] [(.ref bx)])) _
    refine X0.arraylength hx (by rw [e0]; exact Ar3_1.1) (State.isArrayOf_alike hZ.alike Ar3_1.2.1) (g := (mkF m 3 #[.val (.ref mk), .val (.ref bx), .val (.int pr), .val (.ref bx), .unset, .unset, .unset] [(.ref bx)])) rfl rfl (hb hby d2_3) _ ?_
    rw [len_of S3_1 N3_1_]
    show Steps p.tables e below (s₁.setTop (mkF m 4 #[.val (.ref mk), .val (.ref bx), .val (.int pr), .val (.ref bx), .unset, .unset, .unset] [(.int (4 : Int32))])) _
    refine XS.istore X0.here hx rfl (hb hby d2_4) rfl (l' := #[.val (.ref mk), .val (.ref bx), .val (.int pr), .val (.ref bx), .val (.int (4 : Int32)), .unset, .unset]) rfl ?_
    show Steps p.tables e below (s₁.setTop (mkF m 6 #[.val (.ref mk), .val (.ref bx), .val (.int pr), .val (.ref bx), .val (.int (4 : Int32)), .unset, .unset] [])) _
    refine XS.iconst X0.here hx rfl (hb hby d2_6) ?_
    show Steps p.tables e below (s₁.setTop (mkF m 7 #[.val (.ref mk), .val (.ref bx), .val (.int pr), .val (.ref bx), .val (.int (4 : Int32)), .unset, .unset] [(.int (0 : Int32))])) _
    refine XS.istore X0.here hx rfl (hb hby d2_7) rfl (l' := #[.val (.ref mk), .val (.ref bx), .val (.int pr), .val (.ref bx), .val (.int (4 : Int32)), .val (.int (0 : Int32)), .unset]) rfl ?_
    show Steps p.tables e below (s₁.setTop (mkF m 9 #[.val (.ref mk), .val (.ref bx), .val (.int pr), .val (.ref bx), .val (.int (4 : Int32)), .val (.int (0 : Int32)), .unset] [])) _
    refine XS.iload X0.here hx rfl (hb hby d2_9) rfl ?_
    show Steps p.tables e below (s₁.setTop (mkF m 11 #[.val (.ref mk), .val (.ref bx), .val (.int pr), .val (.ref bx), .val (.int (4 : Int32)), .val (.int (0 : Int32)), .unset] [(.int (0 : Int32))])) _
    refine XS.iload X0.here hx rfl (hb hby d2_11) rfl ?_
    show Steps p.tables e below (s₁.setTop (mkF m 13 #[.val (.ref mk), .val (.ref bx), .val (.int pr), .val (.ref bx), .val (.int (4 : Int32)), .val (.int (0 : Int32)), .unset] [(.int (4 : Int32)), (.int (0 : Int32))])) _
    refine XS.icmpNo X0.here hx rfl (hb hby d2_13) rfl (tlt hd2).2.1 ?_
    show Steps p.tables e below (s₁.setTop (mkF m 16 #[.val (.ref mk), .val (.ref bx), .val (.int pr), .val (.ref bx), .val (.int (4 : Int32)), .val (.int (0 : Int32)), .unset] [])) _
    refine XS.aloadN X0.here hx rfl (hb hby d2_16) rfl rfl ?_
    show Steps p.tables e below (s₁.setTop (mkF m 17 #[.val (.ref mk), .val (.ref bx), .val (.int pr), .val (.ref bx), .val (.int (4 : Int32)), .val (.int (0 : Int32)), .unset] [(.ref bx)])) _
    refine XS.iload X0.here hx rfl (hb hby d2_17) rfl ?_
    show Steps p.tables e below (s₁.setTop (mkF m 19 #[.val (.ref mk), .val (.ref bx), .val (.int pr), .val (.ref bx), .val (.int (4 : Int32)), .val (.int (0 : Int32)), .unset] [(.int (0 : Int32)), (.ref bx)])) _
    refine X0.iaload hx (j := (0 : Int32)) (v := (.int s0)) (by rw [e0]; exact Ar19_3.1) (State.isArrayOf_alike hZ.alike Ar19_3.2.1) Ar19_3.2.2 hin19_3 hat19_3 (g := (mkF m 19 #[.val (.ref mk), .val (.ref bx), .val (.int pr), .val (.ref bx), .val (.int (4 : Int32)), .val (.int (0 : Int32)), .unset] [(.int (0 : Int32)), (.ref bx)])) rfl rfl (hb hby d2_19) _ ?_
    show Steps p.tables e below (s₁.setTop (mkF m 20 #[.val (.ref mk), .val (.ref bx), .val (.int pr), .val (.ref bx), .val (.int (4 : Int32)), .val (.int (0 : Int32)), .unset] [(.int s0)])) _
    refine XS.istore X0.here hx rfl (hb hby d2_20) rfl (l' := #[.val (.ref mk), .val (.ref bx), .val (.int pr), .val (.ref bx), .val (.int (4 : Int32)), .val (.int (0 : Int32)), .val (.int s0)]) rfl ?_
    show Steps p.tables e below (s₁.setTop (mkF m 22 #[.val (.ref mk), .val (.ref bx), .val (.int pr), .val (.ref bx), .val (.int (4 : Int32)), .val (.int (0 : Int32)), .val (.int s0)] [])) _
    refine XS.aloadN X0.here hx rfl (hb hby d2_22) rfl rfl ?_
    show Steps p.tables e below (s₁.setTop (mkF m 23 #[.val (.ref mk), .val (.ref bx), .val (.int pr), .val (.ref bx), .val (.int (4 : Int32)), .val (.int (0 : Int32)), .val (.int s0)] [(.ref mk)])) _
    refine XS.iload X0.here hx rfl (hb hby d2_23) rfl ?_
    show Steps p.tables e below (s₁.setTop (mkF m 25 #[.val (.ref mk), .val (.ref bx), .val (.int pr), .val (.ref bx), .val (.int (4 : Int32)), .val (.int (0 : Int32)), .val (.int s0)] [(.int s0), (.ref mk)])) _
    refine XS.iloadN X0.here hx rfl (hb hby d2_25) rfl ?_
    show Steps p.tables e below (s₁.setTop (mkF m 26 #[.val (.ref mk), .val (.ref bx), .val (.int pr), .val (.ref bx), .val (.int (4 : Int32)), .val (.int (0 : Int32)), .val (.int s0)] [(.int pr), (.int s0), (.ref mk)])) _
    refine st5 _ ?_
    show Steps p.tables e below (T5.setTop (mkF m 27 #[.val (.ref mk), .val (.ref bx), .val (.int pr), .val (.ref bx), .val (.int (4 : Int32)), .val (.int (0 : Int32)), .val (.int s0)] [])) _
    refine XS.iinc X5.here hx rfl (hb hby d2_27) rfl (l' := #[.val (.ref mk), .val (.ref bx), .val (.int pr), .val (.ref bx), .val (.int (4 : Int32)), .val (.int ((0 : Int32) + (1 : Int32))), .val (.int s0)]) rfl ?_
    show Steps p.tables e below (T5.setTop (mkF m 30 #[.val (.ref mk), .val (.ref bx), .val (.int pr), .val (.ref bx), .val (.int (4 : Int32)), .val (.int ((0 : Int32) + (1 : Int32))), .val (.int s0)] [])) _
    rw [(by decide : ((0 : Int32) + (1 : Int32)) = (1 : Int32))]
    show Steps p.tables e below (T5.setTop (mkF m 30 #[.val (.ref mk), .val (.ref bx), .val (.int pr), .val (.ref bx), .val (.int (4 : Int32)), .val (.int (1 : Int32)), .val (.int s0)] [])) _
    refine XS.goto X5.here hx rfl (pc0 := 30) (pc' := 9) rfl (hb hby d2_30) (by decide) (by decide) ?_
    show Steps p.tables e below (T5.setTop (mkF m 9 #[.val (.ref mk), .val (.ref bx), .val (.int pr), .val (.ref bx), .val (.int (4 : Int32)), .val (.int (1 : Int32)), .val (.int s0)] [])) _
    refine XS.iload X5.here hx rfl (hb hby d2_9) rfl ?_
    show Steps p.tables e below (T5.setTop (mkF m 11 #[.val (.ref mk), .val (.ref bx), .val (.int pr), .val (.ref bx), .val (.int (4 : Int32)), .val (.int (1 : Int32)), .val (.int s0)] [(.int (1 : Int32))])) _
    refine XS.iload X5.here hx rfl (hb hby d2_11) rfl ?_
    show Steps p.tables e below (T5.setTop (mkF m 13 #[.val (.ref mk), .val (.ref bx), .val (.int pr), .val (.ref bx), .val (.int (4 : Int32)), .val (.int (1 : Int32)), .val (.int s0)] [(.int (4 : Int32)), (.int (1 : Int32))])) _
    refine XS.icmpNo X5.here hx rfl (hb hby d2_13) rfl (tlt hd6).2.1 ?_
    show Steps p.tables e below (T5.setTop (mkF m 16 #[.val (.ref mk), .val (.ref bx), .val (.int pr), .val (.ref bx), .val (.int (4 : Int32)), .val (.int (1 : Int32)), .val (.int s0)] [])) _
    refine XS.aloadN X5.here hx rfl (hb hby d2_16) rfl rfl ?_
    show Steps p.tables e below (T5.setTop (mkF m 17 #[.val (.ref mk), .val (.ref bx), .val (.int pr), .val (.ref bx), .val (.int (4 : Int32)), .val (.int (1 : Int32)), .val (.int s0)] [(.ref bx)])) _
    refine XS.iload X5.here hx rfl (hb hby d2_17) rfl ?_
    show Steps p.tables e below (T5.setTop (mkF m 19 #[.val (.ref mk), .val (.ref bx), .val (.int pr), .val (.ref bx), .val (.int (4 : Int32)), .val (.int (1 : Int32)), .val (.int s0)] [(.int (1 : Int32)), (.ref bx)])) _
    refine X5.iaload hx (j := (1 : Int32)) (v := (.int s1)) (by rw [e5]; exact Ar19_7.1) (State.isArrayOf_alike hZ.alike Ar19_7.2.1) Ar19_7.2.2 hin19_7 hat19_7 (g := (mkF m 19 #[.val (.ref mk), .val (.ref bx), .val (.int pr), .val (.ref bx), .val (.int (4 : Int32)), .val (.int (1 : Int32)), .val (.int s0)] [(.int (1 : Int32)), (.ref bx)])) rfl rfl (hb hby d2_19) _ ?_
    show Steps p.tables e below (T5.setTop (mkF m 20 #[.val (.ref mk), .val (.ref bx), .val (.int pr), .val (.ref bx), .val (.int (4 : Int32)), .val (.int (1 : Int32)), .val (.int s0)] [(.int s1)])) _
    refine XS.istore X5.here hx rfl (hb hby d2_20) rfl (l' := #[.val (.ref mk), .val (.ref bx), .val (.int pr), .val (.ref bx), .val (.int (4 : Int32)), .val (.int (1 : Int32)), .val (.int s1)]) rfl ?_
    show Steps p.tables e below (T5.setTop (mkF m 22 #[.val (.ref mk), .val (.ref bx), .val (.int pr), .val (.ref bx), .val (.int (4 : Int32)), .val (.int (1 : Int32)), .val (.int s1)] [])) _
    refine XS.aloadN X5.here hx rfl (hb hby d2_22) rfl rfl ?_
    show Steps p.tables e below (T5.setTop (mkF m 23 #[.val (.ref mk), .val (.ref bx), .val (.int pr), .val (.ref bx), .val (.int (4 : Int32)), .val (.int (1 : Int32)), .val (.int s1)] [(.ref mk)])) _
    refine XS.iload X5.here hx rfl (hb hby d2_23) rfl ?_
    show Steps p.tables e below (T5.setTop (mkF m 25 #[.val (.ref mk), .val (.ref bx), .val (.int pr), .val (.ref bx), .val (.int (4 : Int32)), .val (.int (1 : Int32)), .val (.int s1)] [(.int s1), (.ref mk)])) _
    refine XS.iloadN X5.here hx rfl (hb hby d2_25) rfl ?_
    show Steps p.tables e below (T5.setTop (mkF m 26 #[.val (.ref mk), .val (.ref bx), .val (.int pr), .val (.ref bx), .val (.int (4 : Int32)), .val (.int (1 : Int32)), .val (.int s1)] [(.int pr), (.int s1), (.ref mk)])) _
    refine st9 _ ?_
    show Steps p.tables e below (T9.setTop (mkF m 27 #[.val (.ref mk), .val (.ref bx), .val (.int pr), .val (.ref bx), .val (.int (4 : Int32)), .val (.int (1 : Int32)), .val (.int s1)] [])) _
    refine XS.iinc X9.here hx rfl (hb hby d2_27) rfl (l' := #[.val (.ref mk), .val (.ref bx), .val (.int pr), .val (.ref bx), .val (.int (4 : Int32)), .val (.int ((1 : Int32) + (1 : Int32))), .val (.int s1)]) rfl ?_
    show Steps p.tables e below (T9.setTop (mkF m 30 #[.val (.ref mk), .val (.ref bx), .val (.int pr), .val (.ref bx), .val (.int (4 : Int32)), .val (.int ((1 : Int32) + (1 : Int32))), .val (.int s1)] [])) _
    rw [(by decide : ((1 : Int32) + (1 : Int32)) = (2 : Int32))]
    show Steps p.tables e below (T9.setTop (mkF m 30 #[.val (.ref mk), .val (.ref bx), .val (.int pr), .val (.ref bx), .val (.int (4 : Int32)), .val (.int (2 : Int32)), .val (.int s1)] [])) _
    refine XS.goto X9.here hx rfl (pc0 := 30) (pc' := 9) rfl (hb hby d2_30) (by decide) (by decide) ?_
    show Steps p.tables e below (T9.setTop (mkF m 9 #[.val (.ref mk), .val (.ref bx), .val (.int pr), .val (.ref bx), .val (.int (4 : Int32)), .val (.int (2 : Int32)), .val (.int s1)] [])) _
    refine XS.iload X9.here hx rfl (hb hby d2_9) rfl ?_
    show Steps p.tables e below (T9.setTop (mkF m 11 #[.val (.ref mk), .val (.ref bx), .val (.int pr), .val (.ref bx), .val (.int (4 : Int32)), .val (.int (2 : Int32)), .val (.int s1)] [(.int (2 : Int32))])) _
    refine XS.iload X9.here hx rfl (hb hby d2_11) rfl ?_
    show Steps p.tables e below (T9.setTop (mkF m 13 #[.val (.ref mk), .val (.ref bx), .val (.int pr), .val (.ref bx), .val (.int (4 : Int32)), .val (.int (2 : Int32)), .val (.int s1)] [(.int (4 : Int32)), (.int (2 : Int32))])) _
    refine XS.icmpNo X9.here hx rfl (hb hby d2_13) rfl (tlt hd10).2.1 ?_
    show Steps p.tables e below (T9.setTop (mkF m 16 #[.val (.ref mk), .val (.ref bx), .val (.int pr), .val (.ref bx), .val (.int (4 : Int32)), .val (.int (2 : Int32)), .val (.int s1)] [])) _
    refine XS.aloadN X9.here hx rfl (hb hby d2_16) rfl rfl ?_
    show Steps p.tables e below (T9.setTop (mkF m 17 #[.val (.ref mk), .val (.ref bx), .val (.int pr), .val (.ref bx), .val (.int (4 : Int32)), .val (.int (2 : Int32)), .val (.int s1)] [(.ref bx)])) _
    refine XS.iload X9.here hx rfl (hb hby d2_17) rfl ?_
    show Steps p.tables e below (T9.setTop (mkF m 19 #[.val (.ref mk), .val (.ref bx), .val (.int pr), .val (.ref bx), .val (.int (4 : Int32)), .val (.int (2 : Int32)), .val (.int s1)] [(.int (2 : Int32)), (.ref bx)])) _
    refine X9.iaload hx (j := (2 : Int32)) (v := (.int s2)) (by rw [e9]; exact Ar19_11.1) (State.isArrayOf_alike hZ.alike Ar19_11.2.1) Ar19_11.2.2 hin19_11 hat19_11 (g := (mkF m 19 #[.val (.ref mk), .val (.ref bx), .val (.int pr), .val (.ref bx), .val (.int (4 : Int32)), .val (.int (2 : Int32)), .val (.int s1)] [(.int (2 : Int32)), (.ref bx)])) rfl rfl (hb hby d2_19) _ ?_
    show Steps p.tables e below (T9.setTop (mkF m 20 #[.val (.ref mk), .val (.ref bx), .val (.int pr), .val (.ref bx), .val (.int (4 : Int32)), .val (.int (2 : Int32)), .val (.int s1)] [(.int s2)])) _
    refine XS.istore X9.here hx rfl (hb hby d2_20) rfl (l' := #[.val (.ref mk), .val (.ref bx), .val (.int pr), .val (.ref bx), .val (.int (4 : Int32)), .val (.int (2 : Int32)), .val (.int s2)]) rfl ?_
    show Steps p.tables e below (T9.setTop (mkF m 22 #[.val (.ref mk), .val (.ref bx), .val (.int pr), .val (.ref bx), .val (.int (4 : Int32)), .val (.int (2 : Int32)), .val (.int s2)] [])) _
    refine XS.aloadN X9.here hx rfl (hb hby d2_22) rfl rfl ?_
    show Steps p.tables e below (T9.setTop (mkF m 23 #[.val (.ref mk), .val (.ref bx), .val (.int pr), .val (.ref bx), .val (.int (4 : Int32)), .val (.int (2 : Int32)), .val (.int s2)] [(.ref mk)])) _
    refine XS.iload X9.here hx rfl (hb hby d2_23) rfl ?_
    show Steps p.tables e below (T9.setTop (mkF m 25 #[.val (.ref mk), .val (.ref bx), .val (.int pr), .val (.ref bx), .val (.int (4 : Int32)), .val (.int (2 : Int32)), .val (.int s2)] [(.int s2), (.ref mk)])) _
    refine XS.iloadN X9.here hx rfl (hb hby d2_25) rfl ?_
    show Steps p.tables e below (T9.setTop (mkF m 26 #[.val (.ref mk), .val (.ref bx), .val (.int pr), .val (.ref bx), .val (.int (4 : Int32)), .val (.int (2 : Int32)), .val (.int s2)] [(.int pr), (.int s2), (.ref mk)])) _
    refine st13 _ ?_
    show Steps p.tables e below (T13.setTop (mkF m 27 #[.val (.ref mk), .val (.ref bx), .val (.int pr), .val (.ref bx), .val (.int (4 : Int32)), .val (.int (2 : Int32)), .val (.int s2)] [])) _
    refine XS.iinc X13.here hx rfl (hb hby d2_27) rfl (l' := #[.val (.ref mk), .val (.ref bx), .val (.int pr), .val (.ref bx), .val (.int (4 : Int32)), .val (.int ((2 : Int32) + (1 : Int32))), .val (.int s2)]) rfl ?_
    show Steps p.tables e below (T13.setTop (mkF m 30 #[.val (.ref mk), .val (.ref bx), .val (.int pr), .val (.ref bx), .val (.int (4 : Int32)), .val (.int ((2 : Int32) + (1 : Int32))), .val (.int s2)] [])) _
    rw [(by decide : ((2 : Int32) + (1 : Int32)) = (3 : Int32))]
    show Steps p.tables e below (T13.setTop (mkF m 30 #[.val (.ref mk), .val (.ref bx), .val (.int pr), .val (.ref bx), .val (.int (4 : Int32)), .val (.int (3 : Int32)), .val (.int s2)] [])) _
    refine XS.goto X13.here hx rfl (pc0 := 30) (pc' := 9) rfl (hb hby d2_30) (by decide) (by decide) ?_
    show Steps p.tables e below (T13.setTop (mkF m 9 #[.val (.ref mk), .val (.ref bx), .val (.int pr), .val (.ref bx), .val (.int (4 : Int32)), .val (.int (3 : Int32)), .val (.int s2)] [])) _
    refine XS.iload X13.here hx rfl (hb hby d2_9) rfl ?_
    show Steps p.tables e below (T13.setTop (mkF m 11 #[.val (.ref mk), .val (.ref bx), .val (.int pr), .val (.ref bx), .val (.int (4 : Int32)), .val (.int (3 : Int32)), .val (.int s2)] [(.int (3 : Int32))])) _
    refine XS.iload X13.here hx rfl (hb hby d2_11) rfl ?_
    show Steps p.tables e below (T13.setTop (mkF m 13 #[.val (.ref mk), .val (.ref bx), .val (.int pr), .val (.ref bx), .val (.int (4 : Int32)), .val (.int (3 : Int32)), .val (.int s2)] [(.int (4 : Int32)), (.int (3 : Int32))])) _
    refine XS.icmpNo X13.here hx rfl (hb hby d2_13) rfl (tlt hd14).2.1 ?_
    show Steps p.tables e below (T13.setTop (mkF m 16 #[.val (.ref mk), .val (.ref bx), .val (.int pr), .val (.ref bx), .val (.int (4 : Int32)), .val (.int (3 : Int32)), .val (.int s2)] [])) _
    refine XS.aloadN X13.here hx rfl (hb hby d2_16) rfl rfl ?_
    show Steps p.tables e below (T13.setTop (mkF m 17 #[.val (.ref mk), .val (.ref bx), .val (.int pr), .val (.ref bx), .val (.int (4 : Int32)), .val (.int (3 : Int32)), .val (.int s2)] [(.ref bx)])) _
    refine XS.iload X13.here hx rfl (hb hby d2_17) rfl ?_
    show Steps p.tables e below (T13.setTop (mkF m 19 #[.val (.ref mk), .val (.ref bx), .val (.int pr), .val (.ref bx), .val (.int (4 : Int32)), .val (.int (3 : Int32)), .val (.int s2)] [(.int (3 : Int32)), (.ref bx)])) _
    refine X13.iaload hx (j := (3 : Int32)) (v := (.int s3)) (by rw [e13]; exact Ar19_15.1) (State.isArrayOf_alike hZ.alike Ar19_15.2.1) Ar19_15.2.2 hin19_15 hat19_15 (g := (mkF m 19 #[.val (.ref mk), .val (.ref bx), .val (.int pr), .val (.ref bx), .val (.int (4 : Int32)), .val (.int (3 : Int32)), .val (.int s2)] [(.int (3 : Int32)), (.ref bx)])) rfl rfl (hb hby d2_19) _ ?_
    show Steps p.tables e below (T13.setTop (mkF m 20 #[.val (.ref mk), .val (.ref bx), .val (.int pr), .val (.ref bx), .val (.int (4 : Int32)), .val (.int (3 : Int32)), .val (.int s2)] [(.int s3)])) _
    refine XS.istore X13.here hx rfl (hb hby d2_20) rfl (l' := #[.val (.ref mk), .val (.ref bx), .val (.int pr), .val (.ref bx), .val (.int (4 : Int32)), .val (.int (3 : Int32)), .val (.int s3)]) rfl ?_
    show Steps p.tables e below (T13.setTop (mkF m 22 #[.val (.ref mk), .val (.ref bx), .val (.int pr), .val (.ref bx), .val (.int (4 : Int32)), .val (.int (3 : Int32)), .val (.int s3)] [])) _
    refine XS.aloadN X13.here hx rfl (hb hby d2_22) rfl rfl ?_
    show Steps p.tables e below (T13.setTop (mkF m 23 #[.val (.ref mk), .val (.ref bx), .val (.int pr), .val (.ref bx), .val (.int (4 : Int32)), .val (.int (3 : Int32)), .val (.int s3)] [(.ref mk)])) _
    refine XS.iload X13.here hx rfl (hb hby d2_23) rfl ?_
    show Steps p.tables e below (T13.setTop (mkF m 25 #[.val (.ref mk), .val (.ref bx), .val (.int pr), .val (.ref bx), .val (.int (4 : Int32)), .val (.int (3 : Int32)), .val (.int s3)] [(.int s3), (.ref mk)])) _
    refine XS.iloadN X13.here hx rfl (hb hby d2_25) rfl ?_
    show Steps p.tables e below (T13.setTop (mkF m 26 #[.val (.ref mk), .val (.ref bx), .val (.int pr), .val (.ref bx), .val (.int (4 : Int32)), .val (.int (3 : Int32)), .val (.int s3)] [(.int pr), (.int s3), (.ref mk)])) _
    refine st17 _ ?_
    show Steps p.tables e below (T17.setTop (mkF m 27 #[.val (.ref mk), .val (.ref bx), .val (.int pr), .val (.ref bx), .val (.int (4 : Int32)), .val (.int (3 : Int32)), .val (.int s3)] [])) _
    refine XS.iinc X17.here hx rfl (hb hby d2_27) rfl (l' := #[.val (.ref mk), .val (.ref bx), .val (.int pr), .val (.ref bx), .val (.int (4 : Int32)), .val (.int ((3 : Int32) + (1 : Int32))), .val (.int s3)]) rfl ?_
    show Steps p.tables e below (T17.setTop (mkF m 30 #[.val (.ref mk), .val (.ref bx), .val (.int pr), .val (.ref bx), .val (.int (4 : Int32)), .val (.int ((3 : Int32) + (1 : Int32))), .val (.int s3)] [])) _
    rw [(by decide : ((3 : Int32) + (1 : Int32)) = (4 : Int32))]
    show Steps p.tables e below (T17.setTop (mkF m 30 #[.val (.ref mk), .val (.ref bx), .val (.int pr), .val (.ref bx), .val (.int (4 : Int32)), .val (.int (4 : Int32)), .val (.int s3)] [])) _
    refine XS.goto X17.here hx rfl (pc0 := 30) (pc' := 9) rfl (hb hby d2_30) (by decide) (by decide) ?_
    show Steps p.tables e below (T17.setTop (mkF m 9 #[.val (.ref mk), .val (.ref bx), .val (.int pr), .val (.ref bx), .val (.int (4 : Int32)), .val (.int (4 : Int32)), .val (.int s3)] [])) _
    refine XS.iload X17.here hx rfl (hb hby d2_9) rfl ?_
    show Steps p.tables e below (T17.setTop (mkF m 11 #[.val (.ref mk), .val (.ref bx), .val (.int pr), .val (.ref bx), .val (.int (4 : Int32)), .val (.int (4 : Int32)), .val (.int s3)] [(.int (4 : Int32))])) _
    refine XS.iload X17.here hx rfl (hb hby d2_11) rfl ?_
    show Steps p.tables e below (T17.setTop (mkF m 13 #[.val (.ref mk), .val (.ref bx), .val (.int pr), .val (.ref bx), .val (.int (4 : Int32)), .val (.int (4 : Int32)), .val (.int s3)] [(.int (4 : Int32)), (.int (4 : Int32))])) _
    refine XS.icmpYes X17.here hx rfl (pc0 := 13) (pc' := 33) rfl (hb hby d2_13) rfl (flt hd18).2.1 (by decide) (by decide) ?_
    show Steps p.tables e below (T17.setTop (mkF m 33 #[.val (.ref mk), .val (.ref bx), .val (.int pr), .val (.ref bx), .val (.int (4 : Int32)), .val (.int (4 : Int32)), .val (.int s3)] [])) _
    exact kt
  obtain ⟨fs, hr, hrun, hended, hW, hsame⟩ := X17.leave (v := none) (fun _ => rfl)
  refine ⟨_, _, k19 _ ?_, hrun, hended, _, _, rfl, ?_, ⟨_, rfl⟩, hW, hsame.mono (by decide) (by decide)⟩
  · exact X17.returnOut hx Bd.returns (hb hby d2_33) hr
  · show QPlace Z mk cm ((((vs.set s0.toNatClampNeg (.int (nar .boolean pr))).set s1.toNatClampNeg (.int (nar .boolean pr))).set s2.toNatClampNeg (.int (nar .boolean pr))).set s3.toNatClampNeg (.int (nar .boolean pr))) h0 n0 _ T17.heap _
    rw [e17]
    exact ⟨rfl, N17, KP17, V17_mk⟩
theorem own_at0 (i init s0 s1 s2 s3 pr b x : Int32) (hb : b = (if (((init.toUInt32 >>> (i &&& 31).toUInt32).toInt32) &&& (1 : Int32)) = (0 : Int32) then (0 : Int32) else (1 : Int32))) (hx : x = b) : ¬ (atF i init (0 : Int32) s0 s1 s2 s3 pr x = (0 : Int32)) := by
  subst hb hx; unfold atF
  simp only [(by decide : ((0 : Int32) < (0 : Int32)) = False), (by decide : ((1 : Int32) < (0 : Int32)) = False), (by decide : ((2 : Int32) < (0 : Int32)) = False), (by decide : ((3 : Int32) < (0 : Int32)) = False), if_true, if_false]
  simp [*]
theorem own_at1 (i init s0 s1 s2 s3 pr b x : Int32) (hb : b = (if (((init.toUInt32 >>> (i &&& 31).toUInt32).toInt32) &&& (1 : Int32)) = (0 : Int32) then (0 : Int32) else (1 : Int32))) (hx : x = (if s0 = i then pr else b)) : ¬ (atF i init (1 : Int32) s0 s1 s2 s3 pr x = (0 : Int32)) := by
  subst hb hx; unfold atF
  simp only [(by decide : ((0 : Int32) < (1 : Int32)) = True), (by decide : ((1 : Int32) < (1 : Int32)) = False), (by decide : ((2 : Int32) < (1 : Int32)) = False), (by decide : ((3 : Int32) < (1 : Int32)) = False), if_true, if_false]
  by_cases h0 : s0 = i <;> simp [*]
theorem own_at2 (i init s0 s1 s2 s3 pr b x : Int32) (hb : b = (if (((init.toUInt32 >>> (i &&& 31).toUInt32).toInt32) &&& (1 : Int32)) = (0 : Int32) then (0 : Int32) else (1 : Int32))) (hx : x = (if s1 = i then pr else (if s0 = i then pr else b))) : ¬ (atF i init (2 : Int32) s0 s1 s2 s3 pr x = (0 : Int32)) := by
  subst hb hx; unfold atF
  simp only [(by decide : ((0 : Int32) < (2 : Int32)) = True), (by decide : ((1 : Int32) < (2 : Int32)) = True), (by decide : ((2 : Int32) < (2 : Int32)) = False), (by decide : ((3 : Int32) < (2 : Int32)) = False), if_true, if_false]
  by_cases h0 : s0 = i <;> by_cases h1 : s1 = i <;> simp [*]
theorem own_at3 (i init s0 s1 s2 s3 pr b x : Int32) (hb : b = (if (((init.toUInt32 >>> (i &&& 31).toUInt32).toInt32) &&& (1 : Int32)) = (0 : Int32) then (0 : Int32) else (1 : Int32))) (hx : x = (if s2 = i then pr else (if s1 = i then pr else (if s0 = i then pr else b)))) : ¬ (atF i init (3 : Int32) s0 s1 s2 s3 pr x = (0 : Int32)) := by
  subst hb hx; unfold atF
  simp only [(by decide : ((0 : Int32) < (3 : Int32)) = True), (by decide : ((1 : Int32) < (3 : Int32)) = True), (by decide : ((2 : Int32) < (3 : Int32)) = True), (by decide : ((3 : Int32) < (3 : Int32)) = False), if_true, if_false]
  by_cases h0 : s0 = i <;> by_cases h1 : s1 = i <;> by_cases h2 : s2 = i <;> simp [*]
theorem own_at4 (i init s0 s1 s2 s3 pr b x : Int32) (hb : b = (if (((init.toUInt32 >>> (i &&& 31).toUInt32).toInt32) &&& (1 : Int32)) = (0 : Int32) then (0 : Int32) else (1 : Int32))) (hx : x = (if s3 = i then pr else (if s2 = i then pr else (if s1 = i then pr else (if s0 = i then pr else b))))) : ¬ (atF i init (4 : Int32) s0 s1 s2 s3 pr x = (0 : Int32)) := by
  subst hb hx; unfold atF
  simp only [(by decide : ((0 : Int32) < (4 : Int32)) = True), (by decide : ((1 : Int32) < (4 : Int32)) = True), (by decide : ((2 : Int32) < (4 : Int32)) = True), (by decide : ((3 : Int32) < (4 : Int32)) = True), if_true, if_false]
  by_cases h0 : s0 = i <;> by_cases h1 : s1 = i <;> by_cases h2 : s2 = i <;> by_cases h3 : s3 = i <;> simp [*]
theorem own_ushr0 (y : Int32) : ((y.toUInt32 >>> ((0 : Int32) &&& 31).toUInt32).toInt32) = y := by
  have e : ((0 : Int32) &&& 31).toUInt32 = 0 := by decide
  rw [e, UInt32.shiftRight_zero]; rfl
theorem own_nar01 (c : Prop) [Decidable c] : nar .boolean (if c then (0 : Int32) else (1 : Int32)) = (if c then (0 : Int32) else (1 : Int32)) := by split <;> decide
theorem pn_0 : plainName "pushwise/BoxesPlacePinLaw" = true := by first | (simp [plainName, overriddenIn]; done) | decide +kernel
theorem pd_0 : parseMethodDescriptor "(IIIII)[I" = some ⟨[.int, .int, .int, .int, .int], some (.array .int)⟩ := by decide +kernel
theorem pd_1 : parseMethodDescriptor "([Z[IZ)V" = some ⟨[(.array .boolean), (.array .int), .boolean], none⟩ := by decide +kernel
theorem pd_2 : parseMethodDescriptor "([ZIIIIIIIZ)Z" = some ⟨[(.array .boolean), .int, .int, .int, .int, .int, .int, .int, .boolean], some .boolean⟩ := by decide +kernel
theorem ef_rm0 (m : MethodId) (init : Int32) (sq : Int32) (cnt : Int32) (fl : Int32) : entryFrame m #[(.int init), (.int sq), (.int cnt), (.int fl)] maxLocals = mkF m 0 #[.val (.int init), .val (.int sq), .val (.int cnt), .val (.int fl), .unset, .unset, .unset, .unset, .unset, .unset, .unset, .unset, .unset] [] := by first | (simp [entryFrame, mkF, argsToLocals, Value.category, maxLocals]; done) | rfl
set_option maxRecDepth 65536 in
set_option maxHeartbeats 40000000 in
theorem rm0 (l : Launch) (Z : State) (a0 : Array Value) (hw : ∀ d ∈ tables_1, d.before a0 Z = true) (ws : List Jvm.Cond) (init : Int32) (sq : Int32) (cnt : Int32) (fl : Int32)  (h0 : Heap) (n0 : Nat) (Z0 : n0 ≤ h0.size)  :
    MetFree l x (head1 (Jvm.Cond.code x code maxLocals ret :: ws) room_1) (fun a_ U_ => a_ = #[(.int init), (.int sq), (.int cnt), (.int fl)] ∧ Z.Warmed39 U_.vm ∧ U_.heap = h0) (fun _ _ _ _ _ => True) (fun _ U_ o_ U'_ => ∃ v_ L_, o_ = .returned v_ ∧ QL n0 v_ U'_.heap L_ ∧ FrameEnd U_ o_ U'_ L_ room_1.cells room_1.slots) := by
  refine MetFree.of_bodySF (plainFor_of_name pn_0) hisR ?_
  intro p e s m args below meth c s₁ Bd hml0 hP hK
  obtain ⟨rfl, hZ, hh⟩ := hP
  have hx := Bd.exec
  have hby := Bd.bytes
  have hml : c.maxLocals = 13 := hml0
  have hown : s.vm.findClass "pushwise/BoxesPlacePinLaw" = some m.cls := findClass_of_methodNamed Bd.named
  have hnm := (name_of_methodNamed Bd.named Bd.method).1
  have X0 : Stand p l e room_1 s m #[(.int init), (.int sq), (.int cnt), (.int fl)] below meth c s₁ [] 0 0 := Stand.of_body Bd
  have e0 : s₁.heap = h0 := by rw [← hh, Bd.state]; rfl
  have N0 := Fr.nil n0
  have k0 : ∀ tg, Steps p.tables e below (s₁.setTop (mkF m 0 #[.val (.int init), .val (.int sq), .val (.int cnt), .val (.int fl), .unset, .unset, .unset, .unset, .unset, .unset, .unset, .unset, .unset] [])) tg → Steps p.tables e below (s₁.setTop (entryFrame m #[(.int init), (.int sq), (.int cnt), (.int fl)] maxLocals)) tg := fun tg kq_ => castTop (ef_rm0 m init sq cnt fl) kq_
  have k1 : ∀ tg, Steps p.tables e below (s₁.setTop (mkF m 3 #[.val (.int init), .val (.int sq), .val (.int cnt), .val (.int fl), .unset, .unset, .unset, .unset, .unset, .unset, .unset, .unset, .unset] [(.int (fl &&& (1 : Int32)))])) tg → Steps p.tables e below (s₁.setTop (entryFrame m #[(.int init), (.int sq), (.int cnt), (.int fl)] maxLocals)) tg := by
    intro tg kt
    refine k0 tg ?_
    show Steps p.tables e below (s₁.setTop (mkF m 0 #[.val (.int init), .val (.int sq), .val (.int cnt), .val (.int fl), .unset, .unset, .unset, .unset, .unset, .unset, .unset, .unset, .unset] [])) _
    refine XS.iloadN X0.here hx rfl (hb hby at_0) rfl ?_
    show Steps p.tables e below (s₁.setTop (mkF m 1 #[.val (.int init), .val (.int sq), .val (.int cnt), .val (.int fl), .unset, .unset, .unset, .unset, .unset, .unset, .unset, .unset, .unset] [(.int fl)])) _
    refine XS.iconst X0.here hx rfl (hb hby at_1) ?_
    show Steps p.tables e below (s₁.setTop (mkF m 2 #[.val (.int init), .val (.int sq), .val (.int cnt), .val (.int fl), .unset, .unset, .unset, .unset, .unset, .unset, .unset, .unset, .unset] [(.int (1 : Int32)), (.int fl)])) _
    refine XS.iand X0.here hx rfl (hb hby at_2) rfl ?_
    show Steps p.tables e below (s₁.setTop (mkF m 3 #[.val (.int init), .val (.int sq), .val (.int cnt), .val (.int fl), .unset, .unset, .unset, .unset, .unset, .unset, .unset, .unset, .unset] [(.int (fl &&& (1 : Int32)))])) _
    exact kt
  have k5 : ∀ tg, Steps p.tables e below (s₁.setTop (mkF m 11 #[.val (.int init), .val (.int sq), .val (.int cnt), .val (.int fl), .unset, .unset, .unset, .unset, .unset, .unset, .unset, .unset, .unset] [(.int (if (fl &&& (1 : Int32)) = (0 : Int32) then (0 : Int32) else (1 : Int32)))])) tg → Steps p.tables e below (s₁.setTop (entryFrame m #[(.int init), (.int sq), (.int cnt), (.int fl)] maxLocals)) tg := by
    intro tg kt
    refine k1 tg ?_
    show Steps p.tables e below (s₁.setTop (mkF m 3 #[.val (.int init), .val (.int sq), .val (.int cnt), .val (.int fl), .unset, .unset, .unset, .unset, .unset, .unset, .unset, .unset, .unset] [(.int (fl &&& (1 : Int32)))])) _
    by_cases hc2 : (fl &&& (1 : Int32)) = (0 : Int32)
    · refine XS.ifYes X0.here hx rfl (pc0 := 3) (pc' := 10) rfl (hb hby at_3) rfl ((if0 _ _).trans (teq hc2).1) (by decide) (by decide) ?_
      show Steps p.tables e below (s₁.setTop (mkF m 10 #[.val (.int init), .val (.int sq), .val (.int cnt), .val (.int fl), .unset, .unset, .unset, .unset, .unset, .unset, .unset, .unset, .unset] [])) _
      refine XS.iconst X0.here hx rfl (hb hby at_10) ?_
      show Steps p.tables e below (s₁.setTop (mkF m 11 #[.val (.int init), .val (.int sq), .val (.int cnt), .val (.int fl), .unset, .unset, .unset, .unset, .unset, .unset, .unset, .unset, .unset] [(.int (0 : Int32))])) _
      repeat rw [if_pos hc2] at kt
      exact kt
    · refine XS.ifNo X0.here hx rfl (hb hby at_3) rfl ((if0 _ _).trans (feq hc2).1) ?_
      show Steps p.tables e below (s₁.setTop (mkF m 6 #[.val (.int init), .val (.int sq), .val (.int cnt), .val (.int fl), .unset, .unset, .unset, .unset, .unset, .unset, .unset, .unset, .unset] [])) _
      refine XS.iconst X0.here hx rfl (hb hby at_6) ?_
      show Steps p.tables e below (s₁.setTop (mkF m 7 #[.val (.int init), .val (.int sq), .val (.int cnt), .val (.int fl), .unset, .unset, .unset, .unset, .unset, .unset, .unset, .unset, .unset] [(.int (1 : Int32))])) _
      refine XS.goto X0.here hx rfl (pc0 := 7) (pc' := 11) rfl (hb hby at_7) (by decide) (by decide) ?_
      show Steps p.tables e below (s₁.setTop (mkF m 11 #[.val (.int init), .val (.int sq), .val (.int cnt), .val (.int fl), .unset, .unset, .unset, .unset, .unset, .unset, .unset, .unset, .unset] [(.int (1 : Int32))])) _
      repeat rw [if_neg hc2] at kt
      exact kt
  obtain ⟨z6, ez6⟩ : ∃ z : Int32, z = (if (fl &&& (1 : Int32)) = (0 : Int32) then (0 : Int32) else (1 : Int32)) := ⟨_, rfl⟩
  obtain ⟨z7, ez7⟩ : ∃ z : Int32, z = (sq &&& (7 : Int32)) := ⟨_, rfl⟩
  obtain ⟨z8, ez8⟩ : ∃ z : Int32, z = (((sq.toUInt32 >>> ((3 : Int32) &&& 31).toUInt32).toInt32) &&& (7 : Int32)) := ⟨_, rfl⟩
  obtain ⟨z9, ez9⟩ : ∃ z : Int32, z = (((sq.toUInt32 >>> ((6 : Int32) &&& 31).toUInt32).toInt32) &&& (7 : Int32)) := ⟨_, rfl⟩
  obtain ⟨z10, ez10⟩ : ∃ z : Int32, z = (((sq.toUInt32 >>> ((9 : Int32) &&& 31).toUInt32).toInt32) &&& (7 : Int32)) := ⟨_, rfl⟩
  have hb_z7 : ¬ z7 < 0 ∧ z7 < (8 : Int32) := by rw [ez7]; exact own_m7 _
  have hb_z8 : ¬ z8 < 0 ∧ z8 < (8 : Int32) := by rw [ez8]; exact own_m7 _
  have hb_z9 : ¬ z9 < 0 ∧ z9 < (8 : Int32) := by rw [ez9]; exact own_m7 _
  have hb_z10 : ¬ z10 < 0 ∧ z10 < (8 : Int32) := by rw [ez10]; exact own_m7 _
  obtain ⟨T11, h11, c11, X11, e11, E11, A11, st11⟩ := newP X0 hx hZ (hw _ (List.mem_of_getElem? (i := 1) rfl)) e0 (g := (mkF m 55 #[.val (.int init), .val (.int sq), .val (.int cnt), .val (.int fl), .val (.int z6), .val (.int ((cnt &&& (2147483647 : Int32)) % (5 : Int32))), .val (.int z7), .val (.int z8), .val (.int z9), .val (.int z10), .unset, .unset, .unset] [(.int (8 : Int32))])) rfl (hb hby at_55) rfl (by decide) (cap := 8) (by decide) (by decide) (by decide) (by decide)
  obtain ⟨b11, g11⟩ : ∃ z, z = h0.size := ⟨_, rfl⟩
  have g_b11 : n0 ≤ b11 := Nat.le_trans Z0 (Nat.le_of_eq g11.symm)
  have sz_b11 : h0.size ≤ b11 := Nat.le_trans (Keep.refl h0 []).1 (Nat.le_of_eq g11.symm)
  rw [← g11] at A11 st11
  have Z11 := Nat.le_trans Z0 E11.1
  have KP11 := (Keep.refl h0 []).ext E11
  have V_b11 : Arv Z h11 b11 c11 .boolean (8 : Int32) [(.int (0 : Int32)), (.int (0 : Int32)), (.int (0 : Int32)), (.int (0 : Int32)), (.int (0 : Int32)), (.int (0 : Int32)), (.int (0 : Int32)), (.int (0 : Int32))] (.int (0 : Int32)) := (Arv.new A11 (by decide)).pad (pad_rep [] (.int (0 : Int32)) 8)
  have k12 : ∀ tg, Steps p.tables e below (T11.setTop (mkF m 65 #[.val (.int init), .val (.int sq), .val (.int cnt), .val (.int fl), .val (.int z6), .val (.int ((cnt &&& (2147483647 : Int32)) % (5 : Int32))), .val (.int z7), .val (.int z8), .val (.int z9), .val (.int z10), .val (.ref b11), .unset, .unset] [(.int (init &&& (1 : Int32))), (.int (0 : Int32)), (.ref b11)])) tg → Steps p.tables e below (s₁.setTop (entryFrame m #[(.int init), (.int sq), (.int cnt), (.int fl)] maxLocals)) tg := by
    intro tg kt
    refine k5 tg ?_
    show Steps p.tables e below (s₁.setTop (mkF m 11 #[.val (.int init), .val (.int sq), .val (.int cnt), .val (.int fl), .unset, .unset, .unset, .unset, .unset, .unset, .unset, .unset, .unset] [(.int (if (fl &&& (1 : Int32)) = (0 : Int32) then (0 : Int32) else (1 : Int32)))])) _
    rw [← ez6]
    show Steps p.tables e below (s₁.setTop (mkF m 11 #[.val (.int init), .val (.int sq), .val (.int cnt), .val (.int fl), .unset, .unset, .unset, .unset, .unset, .unset, .unset, .unset, .unset] [(.int z6)])) _
    refine XS.istore X0.here hx rfl (hb hby at_11) rfl (l' := #[.val (.int init), .val (.int sq), .val (.int cnt), .val (.int fl), .val (.int z6), .unset, .unset, .unset, .unset, .unset, .unset, .unset, .unset]) rfl ?_
    show Steps p.tables e below (s₁.setTop (mkF m 13 #[.val (.int init), .val (.int sq), .val (.int cnt), .val (.int fl), .val (.int z6), .unset, .unset, .unset, .unset, .unset, .unset, .unset, .unset] [])) _
    refine XS.iloadN X0.here hx rfl (hb hby at_13) rfl ?_
    show Steps p.tables e below (s₁.setTop (mkF m 14 #[.val (.int init), .val (.int sq), .val (.int cnt), .val (.int fl), .val (.int z6), .unset, .unset, .unset, .unset, .unset, .unset, .unset, .unset] [(.int cnt)])) _
    refine X0.ldcInt hx hown (mvT hZ (hw _ (List.mem_of_getElem? (i := 0) rfl))) (g := (mkF m 14 #[.val (.int init), .val (.int sq), .val (.int cnt), .val (.int fl), .val (.int z6), .unset, .unset, .unset, .unset, .unset, .unset, .unset, .unset] [(.int cnt)])) rfl (hb hby at_14) _ ?_
    show Steps p.tables e below (s₁.setTop (mkF m 16 #[.val (.int init), .val (.int sq), .val (.int cnt), .val (.int fl), .val (.int z6), .unset, .unset, .unset, .unset, .unset, .unset, .unset, .unset] [(.int (2147483647 : Int32)), (.int cnt)])) _
    refine XS.iand X0.here hx rfl (hb hby at_16) rfl ?_
    show Steps p.tables e below (s₁.setTop (mkF m 17 #[.val (.int init), .val (.int sq), .val (.int cnt), .val (.int fl), .val (.int z6), .unset, .unset, .unset, .unset, .unset, .unset, .unset, .unset] [(.int (cnt &&& (2147483647 : Int32)))])) _
    refine XS.iconst X0.here hx rfl (hb hby at_17) ?_
    show Steps p.tables e below (s₁.setTop (mkF m 18 #[.val (.int init), .val (.int sq), .val (.int cnt), .val (.int fl), .val (.int z6), .unset, .unset, .unset, .unset, .unset, .unset, .unset, .unset] [(.int (5 : Int32)), (.int (cnt &&& (2147483647 : Int32)))])) _
    refine iremM X0 hx rfl (hb hby at_18) rfl (by decide) ?_
    show Steps p.tables e below (s₁.setTop (mkF m 19 #[.val (.int init), .val (.int sq), .val (.int cnt), .val (.int fl), .val (.int z6), .unset, .unset, .unset, .unset, .unset, .unset, .unset, .unset] [(.int ((cnt &&& (2147483647 : Int32)) % (5 : Int32)))])) _
    refine XS.istore X0.here hx rfl (hb hby at_19) rfl (l' := #[.val (.int init), .val (.int sq), .val (.int cnt), .val (.int fl), .val (.int z6), .val (.int ((cnt &&& (2147483647 : Int32)) % (5 : Int32))), .unset, .unset, .unset, .unset, .unset, .unset, .unset]) rfl ?_
    show Steps p.tables e below (s₁.setTop (mkF m 21 #[.val (.int init), .val (.int sq), .val (.int cnt), .val (.int fl), .val (.int z6), .val (.int ((cnt &&& (2147483647 : Int32)) % (5 : Int32))), .unset, .unset, .unset, .unset, .unset, .unset, .unset] [])) _
    refine XS.iloadN X0.here hx rfl (hb hby at_21) rfl ?_
    show Steps p.tables e below (s₁.setTop (mkF m 22 #[.val (.int init), .val (.int sq), .val (.int cnt), .val (.int fl), .val (.int z6), .val (.int ((cnt &&& (2147483647 : Int32)) % (5 : Int32))), .unset, .unset, .unset, .unset, .unset, .unset, .unset] [(.int sq)])) _
    refine XS.bipush X0.here hx rfl (hb hby at_22) ?_
    show Steps p.tables e below (s₁.setTop (mkF m 24 #[.val (.int init), .val (.int sq), .val (.int cnt), .val (.int fl), .val (.int z6), .val (.int ((cnt &&& (2147483647 : Int32)) % (5 : Int32))), .unset, .unset, .unset, .unset, .unset, .unset, .unset] [(.int (7 : Int32)), (.int sq)])) _
    refine XS.iand X0.here hx rfl (hb hby at_24) rfl ?_
    show Steps p.tables e below (s₁.setTop (mkF m 25 #[.val (.int init), .val (.int sq), .val (.int cnt), .val (.int fl), .val (.int z6), .val (.int ((cnt &&& (2147483647 : Int32)) % (5 : Int32))), .unset, .unset, .unset, .unset, .unset, .unset, .unset] [(.int (sq &&& (7 : Int32)))])) _
    refine XS.istore X0.here hx rfl (hb hby at_25) rfl (l' := #[.val (.int init), .val (.int sq), .val (.int cnt), .val (.int fl), .val (.int z6), .val (.int ((cnt &&& (2147483647 : Int32)) % (5 : Int32))), .val (.int (sq &&& (7 : Int32))), .unset, .unset, .unset, .unset, .unset, .unset]) rfl ?_
    show Steps p.tables e below (s₁.setTop (mkF m 27 #[.val (.int init), .val (.int sq), .val (.int cnt), .val (.int fl), .val (.int z6), .val (.int ((cnt &&& (2147483647 : Int32)) % (5 : Int32))), .val (.int (sq &&& (7 : Int32))), .unset, .unset, .unset, .unset, .unset, .unset] [])) _
    rw [← ez7]
    show Steps p.tables e below (s₁.setTop (mkF m 27 #[.val (.int init), .val (.int sq), .val (.int cnt), .val (.int fl), .val (.int z6), .val (.int ((cnt &&& (2147483647 : Int32)) % (5 : Int32))), .val (.int z7), .unset, .unset, .unset, .unset, .unset, .unset] [])) _
    refine XS.iloadN X0.here hx rfl (hb hby at_27) rfl ?_
    show Steps p.tables e below (s₁.setTop (mkF m 28 #[.val (.int init), .val (.int sq), .val (.int cnt), .val (.int fl), .val (.int z6), .val (.int ((cnt &&& (2147483647 : Int32)) % (5 : Int32))), .val (.int z7), .unset, .unset, .unset, .unset, .unset, .unset] [(.int sq)])) _
    refine XS.iconst X0.here hx rfl (hb hby at_28) ?_
    show Steps p.tables e below (s₁.setTop (mkF m 29 #[.val (.int init), .val (.int sq), .val (.int cnt), .val (.int fl), .val (.int z6), .val (.int ((cnt &&& (2147483647 : Int32)) % (5 : Int32))), .val (.int z7), .unset, .unset, .unset, .unset, .unset, .unset] [(.int (3 : Int32)), (.int sq)])) _
    refine XS.iushr X0.here hx rfl (hb hby at_29) rfl ?_
    show Steps p.tables e below (s₁.setTop (mkF m 30 #[.val (.int init), .val (.int sq), .val (.int cnt), .val (.int fl), .val (.int z6), .val (.int ((cnt &&& (2147483647 : Int32)) % (5 : Int32))), .val (.int z7), .unset, .unset, .unset, .unset, .unset, .unset] [(.int ((sq.toUInt32 >>> ((3 : Int32) &&& 31).toUInt32).toInt32))])) _
    refine XS.bipush X0.here hx rfl (hb hby at_30) ?_
    show Steps p.tables e below (s₁.setTop (mkF m 32 #[.val (.int init), .val (.int sq), .val (.int cnt), .val (.int fl), .val (.int z6), .val (.int ((cnt &&& (2147483647 : Int32)) % (5 : Int32))), .val (.int z7), .unset, .unset, .unset, .unset, .unset, .unset] [(.int (7 : Int32)), (.int ((sq.toUInt32 >>> ((3 : Int32) &&& 31).toUInt32).toInt32))])) _
    refine XS.iand X0.here hx rfl (hb hby at_32) rfl ?_
    show Steps p.tables e below (s₁.setTop (mkF m 33 #[.val (.int init), .val (.int sq), .val (.int cnt), .val (.int fl), .val (.int z6), .val (.int ((cnt &&& (2147483647 : Int32)) % (5 : Int32))), .val (.int z7), .unset, .unset, .unset, .unset, .unset, .unset] [(.int (((sq.toUInt32 >>> ((3 : Int32) &&& 31).toUInt32).toInt32) &&& (7 : Int32)))])) _
    refine XS.istore X0.here hx rfl (hb hby at_33) rfl (l' := #[.val (.int init), .val (.int sq), .val (.int cnt), .val (.int fl), .val (.int z6), .val (.int ((cnt &&& (2147483647 : Int32)) % (5 : Int32))), .val (.int z7), .val (.int (((sq.toUInt32 >>> ((3 : Int32) &&& 31).toUInt32).toInt32) &&& (7 : Int32))), .unset, .unset, .unset, .unset, .unset]) rfl ?_
    show Steps p.tables e below (s₁.setTop (mkF m 35 #[.val (.int init), .val (.int sq), .val (.int cnt), .val (.int fl), .val (.int z6), .val (.int ((cnt &&& (2147483647 : Int32)) % (5 : Int32))), .val (.int z7), .val (.int (((sq.toUInt32 >>> ((3 : Int32) &&& 31).toUInt32).toInt32) &&& (7 : Int32))), .unset, .unset, .unset, .unset, .unset] [])) _
    rw [← ez8]
    show Steps p.tables e below (s₁.setTop (mkF m 35 #[.val (.int init), .val (.int sq), .val (.int cnt), .val (.int fl), .val (.int z6), .val (.int ((cnt &&& (2147483647 : Int32)) % (5 : Int32))), .val (.int z7), .val (.int z8), .unset, .unset, .unset, .unset, .unset] [])) _
    refine XS.iloadN X0.here hx rfl (hb hby at_35) rfl ?_
    show Steps p.tables e below (s₁.setTop (mkF m 36 #[.val (.int init), .val (.int sq), .val (.int cnt), .val (.int fl), .val (.int z6), .val (.int ((cnt &&& (2147483647 : Int32)) % (5 : Int32))), .val (.int z7), .val (.int z8), .unset, .unset, .unset, .unset, .unset] [(.int sq)])) _
    refine XS.bipush X0.here hx rfl (hb hby at_36) ?_
    show Steps p.tables e below (s₁.setTop (mkF m 38 #[.val (.int init), .val (.int sq), .val (.int cnt), .val (.int fl), .val (.int z6), .val (.int ((cnt &&& (2147483647 : Int32)) % (5 : Int32))), .val (.int z7), .val (.int z8), .unset, .unset, .unset, .unset, .unset] [(.int (6 : Int32)), (.int sq)])) _
    refine XS.iushr X0.here hx rfl (hb hby at_38) rfl ?_
    show Steps p.tables e below (s₁.setTop (mkF m 39 #[.val (.int init), .val (.int sq), .val (.int cnt), .val (.int fl), .val (.int z6), .val (.int ((cnt &&& (2147483647 : Int32)) % (5 : Int32))), .val (.int z7), .val (.int z8), .unset, .unset, .unset, .unset, .unset] [(.int ((sq.toUInt32 >>> ((6 : Int32) &&& 31).toUInt32).toInt32))])) _
    refine XS.bipush X0.here hx rfl (hb hby at_39) ?_
    show Steps p.tables e below (s₁.setTop (mkF m 41 #[.val (.int init), .val (.int sq), .val (.int cnt), .val (.int fl), .val (.int z6), .val (.int ((cnt &&& (2147483647 : Int32)) % (5 : Int32))), .val (.int z7), .val (.int z8), .unset, .unset, .unset, .unset, .unset] [(.int (7 : Int32)), (.int ((sq.toUInt32 >>> ((6 : Int32) &&& 31).toUInt32).toInt32))])) _
    refine XS.iand X0.here hx rfl (hb hby at_41) rfl ?_
    show Steps p.tables e below (s₁.setTop (mkF m 42 #[.val (.int init), .val (.int sq), .val (.int cnt), .val (.int fl), .val (.int z6), .val (.int ((cnt &&& (2147483647 : Int32)) % (5 : Int32))), .val (.int z7), .val (.int z8), .unset, .unset, .unset, .unset, .unset] [(.int (((sq.toUInt32 >>> ((6 : Int32) &&& 31).toUInt32).toInt32) &&& (7 : Int32)))])) _
    refine XS.istore X0.here hx rfl (hb hby at_42) rfl (l' := #[.val (.int init), .val (.int sq), .val (.int cnt), .val (.int fl), .val (.int z6), .val (.int ((cnt &&& (2147483647 : Int32)) % (5 : Int32))), .val (.int z7), .val (.int z8), .val (.int (((sq.toUInt32 >>> ((6 : Int32) &&& 31).toUInt32).toInt32) &&& (7 : Int32))), .unset, .unset, .unset, .unset]) rfl ?_
    show Steps p.tables e below (s₁.setTop (mkF m 44 #[.val (.int init), .val (.int sq), .val (.int cnt), .val (.int fl), .val (.int z6), .val (.int ((cnt &&& (2147483647 : Int32)) % (5 : Int32))), .val (.int z7), .val (.int z8), .val (.int (((sq.toUInt32 >>> ((6 : Int32) &&& 31).toUInt32).toInt32) &&& (7 : Int32))), .unset, .unset, .unset, .unset] [])) _
    rw [← ez9]
    show Steps p.tables e below (s₁.setTop (mkF m 44 #[.val (.int init), .val (.int sq), .val (.int cnt), .val (.int fl), .val (.int z6), .val (.int ((cnt &&& (2147483647 : Int32)) % (5 : Int32))), .val (.int z7), .val (.int z8), .val (.int z9), .unset, .unset, .unset, .unset] [])) _
    refine XS.iloadN X0.here hx rfl (hb hby at_44) rfl ?_
    show Steps p.tables e below (s₁.setTop (mkF m 45 #[.val (.int init), .val (.int sq), .val (.int cnt), .val (.int fl), .val (.int z6), .val (.int ((cnt &&& (2147483647 : Int32)) % (5 : Int32))), .val (.int z7), .val (.int z8), .val (.int z9), .unset, .unset, .unset, .unset] [(.int sq)])) _
    refine XS.bipush X0.here hx rfl (hb hby at_45) ?_
    show Steps p.tables e below (s₁.setTop (mkF m 47 #[.val (.int init), .val (.int sq), .val (.int cnt), .val (.int fl), .val (.int z6), .val (.int ((cnt &&& (2147483647 : Int32)) % (5 : Int32))), .val (.int z7), .val (.int z8), .val (.int z9), .unset, .unset, .unset, .unset] [(.int (9 : Int32)), (.int sq)])) _
    refine XS.iushr X0.here hx rfl (hb hby at_47) rfl ?_
    show Steps p.tables e below (s₁.setTop (mkF m 48 #[.val (.int init), .val (.int sq), .val (.int cnt), .val (.int fl), .val (.int z6), .val (.int ((cnt &&& (2147483647 : Int32)) % (5 : Int32))), .val (.int z7), .val (.int z8), .val (.int z9), .unset, .unset, .unset, .unset] [(.int ((sq.toUInt32 >>> ((9 : Int32) &&& 31).toUInt32).toInt32))])) _
    refine XS.bipush X0.here hx rfl (hb hby at_48) ?_
    show Steps p.tables e below (s₁.setTop (mkF m 50 #[.val (.int init), .val (.int sq), .val (.int cnt), .val (.int fl), .val (.int z6), .val (.int ((cnt &&& (2147483647 : Int32)) % (5 : Int32))), .val (.int z7), .val (.int z8), .val (.int z9), .unset, .unset, .unset, .unset] [(.int (7 : Int32)), (.int ((sq.toUInt32 >>> ((9 : Int32) &&& 31).toUInt32).toInt32))])) _
    refine XS.iand X0.here hx rfl (hb hby at_50) rfl ?_
    show Steps p.tables e below (s₁.setTop (mkF m 51 #[.val (.int init), .val (.int sq), .val (.int cnt), .val (.int fl), .val (.int z6), .val (.int ((cnt &&& (2147483647 : Int32)) % (5 : Int32))), .val (.int z7), .val (.int z8), .val (.int z9), .unset, .unset, .unset, .unset] [(.int (((sq.toUInt32 >>> ((9 : Int32) &&& 31).toUInt32).toInt32) &&& (7 : Int32)))])) _
    refine XS.istore X0.here hx rfl (hb hby at_51) rfl (l' := #[.val (.int init), .val (.int sq), .val (.int cnt), .val (.int fl), .val (.int z6), .val (.int ((cnt &&& (2147483647 : Int32)) % (5 : Int32))), .val (.int z7), .val (.int z8), .val (.int z9), .val (.int (((sq.toUInt32 >>> ((9 : Int32) &&& 31).toUInt32).toInt32) &&& (7 : Int32))), .unset, .unset, .unset]) rfl ?_
    show Steps p.tables e below (s₁.setTop (mkF m 53 #[.val (.int init), .val (.int sq), .val (.int cnt), .val (.int fl), .val (.int z6), .val (.int ((cnt &&& (2147483647 : Int32)) % (5 : Int32))), .val (.int z7), .val (.int z8), .val (.int z9), .val (.int (((sq.toUInt32 >>> ((9 : Int32) &&& 31).toUInt32).toInt32) &&& (7 : Int32))), .unset, .unset, .unset] [])) _
    rw [← ez10]
    show Steps p.tables e below (s₁.setTop (mkF m 53 #[.val (.int init), .val (.int sq), .val (.int cnt), .val (.int fl), .val (.int z6), .val (.int ((cnt &&& (2147483647 : Int32)) % (5 : Int32))), .val (.int z7), .val (.int z8), .val (.int z9), .val (.int z10), .unset, .unset, .unset] [])) _
    refine XS.bipush X0.here hx rfl (hb hby at_53) ?_
    show Steps p.tables e below (s₁.setTop (mkF m 55 #[.val (.int init), .val (.int sq), .val (.int cnt), .val (.int fl), .val (.int z6), .val (.int ((cnt &&& (2147483647 : Int32)) % (5 : Int32))), .val (.int z7), .val (.int z8), .val (.int z9), .val (.int z10), .unset, .unset, .unset] [(.int (8 : Int32))])) _
    refine st11 _ ?_
    show Steps p.tables e below (T11.setTop (mkF m 57 #[.val (.int init), .val (.int sq), .val (.int cnt), .val (.int fl), .val (.int z6), .val (.int ((cnt &&& (2147483647 : Int32)) % (5 : Int32))), .val (.int z7), .val (.int z8), .val (.int z9), .val (.int z10), .unset, .unset, .unset] [(.ref b11)])) _
    refine XS.astore X11.here hx rfl (hb hby at_57) rfl rfl (l' := #[.val (.int init), .val (.int sq), .val (.int cnt), .val (.int fl), .val (.int z6), .val (.int ((cnt &&& (2147483647 : Int32)) % (5 : Int32))), .val (.int z7), .val (.int z8), .val (.int z9), .val (.int z10), .val (.ref b11), .unset, .unset]) rfl ?_
    show Steps p.tables e below (T11.setTop (mkF m 59 #[.val (.int init), .val (.int sq), .val (.int cnt), .val (.int fl), .val (.int z6), .val (.int ((cnt &&& (2147483647 : Int32)) % (5 : Int32))), .val (.int z7), .val (.int z8), .val (.int z9), .val (.int z10), .val (.ref b11), .unset, .unset] [])) _
    refine XS.aload X11.here hx rfl (hb hby at_59) rfl rfl ?_
    show Steps p.tables e below (T11.setTop (mkF m 61 #[.val (.int init), .val (.int sq), .val (.int cnt), .val (.int fl), .val (.int z6), .val (.int ((cnt &&& (2147483647 : Int32)) % (5 : Int32))), .val (.int z7), .val (.int z8), .val (.int z9), .val (.int z10), .val (.ref b11), .unset, .unset] [(.ref b11)])) _
    refine XS.iconst X11.here hx rfl (hb hby at_61) ?_
    show Steps p.tables e below (T11.setTop (mkF m 62 #[.val (.int init), .val (.int sq), .val (.int cnt), .val (.int fl), .val (.int z6), .val (.int ((cnt &&& (2147483647 : Int32)) % (5 : Int32))), .val (.int z7), .val (.int z8), .val (.int z9), .val (.int z10), .val (.ref b11), .unset, .unset] [(.int (0 : Int32)), (.ref b11)])) _
    refine XS.iloadN X11.here hx rfl (hb hby at_62) rfl ?_
    show Steps p.tables e below (T11.setTop (mkF m 63 #[.val (.int init), .val (.int sq), .val (.int cnt), .val (.int fl), .val (.int z6), .val (.int ((cnt &&& (2147483647 : Int32)) % (5 : Int32))), .val (.int z7), .val (.int z8), .val (.int z9), .val (.int z10), .val (.ref b11), .unset, .unset] [(.int init), (.int (0 : Int32)), (.ref b11)])) _
    refine XS.iconst X11.here hx rfl (hb hby at_63) ?_
    show Steps p.tables e below (T11.setTop (mkF m 64 #[.val (.int init), .val (.int sq), .val (.int cnt), .val (.int fl), .val (.int z6), .val (.int ((cnt &&& (2147483647 : Int32)) % (5 : Int32))), .val (.int z7), .val (.int z8), .val (.int z9), .val (.int z10), .val (.ref b11), .unset, .unset] [(.int (1 : Int32)), (.int init), (.int (0 : Int32)), (.ref b11)])) _
    refine XS.iand X11.here hx rfl (hb hby at_64) rfl ?_
    show Steps p.tables e below (T11.setTop (mkF m 65 #[.val (.int init), .val (.int sq), .val (.int cnt), .val (.int fl), .val (.int z6), .val (.int ((cnt &&& (2147483647 : Int32)) % (5 : Int32))), .val (.int z7), .val (.int z8), .val (.int z9), .val (.int z10), .val (.ref b11), .unset, .unset] [(.int (init &&& (1 : Int32))), (.int (0 : Int32)), (.ref b11)])) _
    exact kt
  have k16 : ∀ tg, Steps p.tables e below (T11.setTop (mkF m 73 #[.val (.int init), .val (.int sq), .val (.int cnt), .val (.int fl), .val (.int z6), .val (.int ((cnt &&& (2147483647 : Int32)) % (5 : Int32))), .val (.int z7), .val (.int z8), .val (.int z9), .val (.int z10), .val (.ref b11), .unset, .unset] [(.int (if (init &&& (1 : Int32)) = (0 : Int32) then (0 : Int32) else (1 : Int32))), (.int (0 : Int32)), (.ref b11)])) tg → Steps p.tables e below (s₁.setTop (entryFrame m #[(.int init), (.int sq), (.int cnt), (.int fl)] maxLocals)) tg := by
    intro tg kt
    refine k12 tg ?_
    show Steps p.tables e below (T11.setTop (mkF m 65 #[.val (.int init), .val (.int sq), .val (.int cnt), .val (.int fl), .val (.int z6), .val (.int ((cnt &&& (2147483647 : Int32)) % (5 : Int32))), .val (.int z7), .val (.int z8), .val (.int z9), .val (.int z10), .val (.ref b11), .unset, .unset] [(.int (init &&& (1 : Int32))), (.int (0 : Int32)), (.ref b11)])) _
    by_cases hc13 : (init &&& (1 : Int32)) = (0 : Int32)
    · refine XS.ifYes X11.here hx rfl (pc0 := 65) (pc' := 72) rfl (hb hby at_65) rfl ((if0 _ _).trans (teq hc13).1) (by decide) (by decide) ?_
      show Steps p.tables e below (T11.setTop (mkF m 72 #[.val (.int init), .val (.int sq), .val (.int cnt), .val (.int fl), .val (.int z6), .val (.int ((cnt &&& (2147483647 : Int32)) % (5 : Int32))), .val (.int z7), .val (.int z8), .val (.int z9), .val (.int z10), .val (.ref b11), .unset, .unset] [(.int (0 : Int32)), (.ref b11)])) _
      refine XS.iconst X11.here hx rfl (hb hby at_72) ?_
      show Steps p.tables e below (T11.setTop (mkF m 73 #[.val (.int init), .val (.int sq), .val (.int cnt), .val (.int fl), .val (.int z6), .val (.int ((cnt &&& (2147483647 : Int32)) % (5 : Int32))), .val (.int z7), .val (.int z8), .val (.int z9), .val (.int z10), .val (.ref b11), .unset, .unset] [(.int (0 : Int32)), (.int (0 : Int32)), (.ref b11)])) _
      repeat rw [if_pos hc13] at kt
      exact kt
    · refine XS.ifNo X11.here hx rfl (hb hby at_65) rfl ((if0 _ _).trans (feq hc13).1) ?_
      show Steps p.tables e below (T11.setTop (mkF m 68 #[.val (.int init), .val (.int sq), .val (.int cnt), .val (.int fl), .val (.int z6), .val (.int ((cnt &&& (2147483647 : Int32)) % (5 : Int32))), .val (.int z7), .val (.int z8), .val (.int z9), .val (.int z10), .val (.ref b11), .unset, .unset] [(.int (0 : Int32)), (.ref b11)])) _
      refine XS.iconst X11.here hx rfl (hb hby at_68) ?_
      show Steps p.tables e below (T11.setTop (mkF m 69 #[.val (.int init), .val (.int sq), .val (.int cnt), .val (.int fl), .val (.int z6), .val (.int ((cnt &&& (2147483647 : Int32)) % (5 : Int32))), .val (.int z7), .val (.int z8), .val (.int z9), .val (.int z10), .val (.ref b11), .unset, .unset] [(.int (1 : Int32)), (.int (0 : Int32)), (.ref b11)])) _
      refine XS.goto X11.here hx rfl (pc0 := 69) (pc' := 73) rfl (hb hby at_69) (by decide) (by decide) ?_
      show Steps p.tables e below (T11.setTop (mkF m 73 #[.val (.int init), .val (.int sq), .val (.int cnt), .val (.int fl), .val (.int z6), .val (.int ((cnt &&& (2147483647 : Int32)) % (5 : Int32))), .val (.int z7), .val (.int z8), .val (.int z9), .val (.int z10), .val (.ref b11), .unset, .unset] [(.int (1 : Int32)), (.int (0 : Int32)), (.ref b11)])) _
      repeat rw [if_neg hc13] at kt
      exact kt
  obtain ⟨z17, ez17⟩ : ∃ z : Int32, z = (if (init &&& (1 : Int32)) = (0 : Int32) then (0 : Int32) else (1 : Int32)) := ⟨_, rfl⟩
  obtain ⟨cl73_18, Ar73_18, q73_18, S73_18, N73_18_, H73_18, G73_18⟩ := id V_b11
  have hin73_18 : ¬ ((0 : Int32) < 0 ∨ cl73_18.slots.size ≤ ((0 : Int32)).toNatClampNeg) := inb_of S73_18 ⟨by decide, by decide⟩
  obtain ⟨T19, h19, X19, e19, W19, st19⟩ := stZ X11 hx hZ e11 Ar73_18 (j := (0 : Int32)) hin73_18 (g := (mkF m 73 #[.val (.int init), .val (.int sq), .val (.int cnt), .val (.int fl), .val (.int z6), .val (.int ((cnt &&& (2147483647 : Int32)) % (5 : Int32))), .val (.int z7), .val (.int z8), .val (.int z9), .val (.int z10), .val (.ref b11), .unset, .unset] [(.int z17), (.int (0 : Int32)), (.ref b11)])) rfl rfl (hb hby at_73)
  have Z19 := Nat.le_trans Z11 (Keep.of_wr W19).1
  have KP19 := KP11.wr W19 (Or.inr sz_b11)
  have N19 := Fr.snoc X19 N0 g_b11
  have V19_b11 : Arv Z h19 b11 c11 .boolean (8 : Int32) [(.int (nar .boolean z17)), (.int (0 : Int32)), (.int (0 : Int32)), (.int (0 : Int32)), (.int (0 : Int32)), (.int (0 : Int32)), (.int (0 : Int32)), (.int (0 : Int32))] (.int (0 : Int32)) := Arv.set Ar73_18 q73_18 S73_18 N73_18_ H73_18 G73_18 (fits_nar_bool _) W19 0 rfl (Nat.le_of_ble_eq_true rfl)
  have k20 : ∀ tg, Steps p.tables e below (T19.setTop (mkF m 82 #[.val (.int init), .val (.int sq), .val (.int cnt), .val (.int fl), .val (.int z6), .val (.int ((cnt &&& (2147483647 : Int32)) % (5 : Int32))), .val (.int z7), .val (.int z8), .val (.int z9), .val (.int z10), .val (.ref b11), .unset, .unset] [(.int (((init.toUInt32 >>> ((1 : Int32) &&& 31).toUInt32).toInt32) &&& (1 : Int32))), (.int (1 : Int32)), (.ref b11)])) tg → Steps p.tables e below (s₁.setTop (entryFrame m #[(.int init), (.int sq), (.int cnt), (.int fl)] maxLocals)) tg := by
    intro tg kt
    refine k16 tg ?_
    show Steps p.tables e below (T11.setTop (mkF m 73 #[.val (.int init), .val (.int sq), .val (.int cnt), .val (.int fl), .val (.int z6), .val (.int ((cnt &&& (2147483647 : Int32)) % (5 : Int32))), .val (.int z7), .val (.int z8), .val (.int z9), .val (.int z10), .val (.ref b11), .unset, .unset] [(.int (if (init &&& (1 : Int32)) = (0 : Int32) then (0 : Int32) else (1 : Int32))), (.int (0 : Int32)), (.ref b11)])) _
    rw [← ez17]
    show Steps p.tables e below (T11.setTop (mkF m 73 #[.val (.int init), .val (.int sq), .val (.int cnt), .val (.int fl), .val (.int z6), .val (.int ((cnt &&& (2147483647 : Int32)) % (5 : Int32))), .val (.int z7), .val (.int z8), .val (.int z9), .val (.int z10), .val (.ref b11), .unset, .unset] [(.int z17), (.int (0 : Int32)), (.ref b11)])) _
    refine st19 _ ?_
    show Steps p.tables e below (T19.setTop (mkF m 74 #[.val (.int init), .val (.int sq), .val (.int cnt), .val (.int fl), .val (.int z6), .val (.int ((cnt &&& (2147483647 : Int32)) % (5 : Int32))), .val (.int z7), .val (.int z8), .val (.int z9), .val (.int z10), .val (.ref b11), .unset, .unset] [])) _
    refine XS.aload X19.here hx rfl (hb hby at_74) rfl rfl ?_
    show Steps p.tables e below (T19.setTop (mkF m 76 #[.val (.int init), .val (.int sq), .val (.int cnt), .val (.int fl), .val (.int z6), .val (.int ((cnt &&& (2147483647 : Int32)) % (5 : Int32))), .val (.int z7), .val (.int z8), .val (.int z9), .val (.int z10), .val (.ref b11), .unset, .unset] [(.ref b11)])) _
    refine XS.iconst X19.here hx rfl (hb hby at_76) ?_
    show Steps p.tables e below (T19.setTop (mkF m 77 #[.val (.int init), .val (.int sq), .val (.int cnt), .val (.int fl), .val (.int z6), .val (.int ((cnt &&& (2147483647 : Int32)) % (5 : Int32))), .val (.int z7), .val (.int z8), .val (.int z9), .val (.int z10), .val (.ref b11), .unset, .unset] [(.int (1 : Int32)), (.ref b11)])) _
    refine XS.iloadN X19.here hx rfl (hb hby at_77) rfl ?_
    show Steps p.tables e below (T19.setTop (mkF m 78 #[.val (.int init), .val (.int sq), .val (.int cnt), .val (.int fl), .val (.int z6), .val (.int ((cnt &&& (2147483647 : Int32)) % (5 : Int32))), .val (.int z7), .val (.int z8), .val (.int z9), .val (.int z10), .val (.ref b11), .unset, .unset] [(.int init), (.int (1 : Int32)), (.ref b11)])) _
    refine XS.iconst X19.here hx rfl (hb hby at_78) ?_
    show Steps p.tables e below (T19.setTop (mkF m 79 #[.val (.int init), .val (.int sq), .val (.int cnt), .val (.int fl), .val (.int z6), .val (.int ((cnt &&& (2147483647 : Int32)) % (5 : Int32))), .val (.int z7), .val (.int z8), .val (.int z9), .val (.int z10), .val (.ref b11), .unset, .unset] [(.int (1 : Int32)), (.int init), (.int (1 : Int32)), (.ref b11)])) _
    refine XS.iushr X19.here hx rfl (hb hby at_79) rfl ?_
    show Steps p.tables e below (T19.setTop (mkF m 80 #[.val (.int init), .val (.int sq), .val (.int cnt), .val (.int fl), .val (.int z6), .val (.int ((cnt &&& (2147483647 : Int32)) % (5 : Int32))), .val (.int z7), .val (.int z8), .val (.int z9), .val (.int z10), .val (.ref b11), .unset, .unset] [(.int ((init.toUInt32 >>> ((1 : Int32) &&& 31).toUInt32).toInt32)), (.int (1 : Int32)), (.ref b11)])) _
    refine XS.iconst X19.here hx rfl (hb hby at_80) ?_
    show Steps p.tables e below (T19.setTop (mkF m 81 #[.val (.int init), .val (.int sq), .val (.int cnt), .val (.int fl), .val (.int z6), .val (.int ((cnt &&& (2147483647 : Int32)) % (5 : Int32))), .val (.int z7), .val (.int z8), .val (.int z9), .val (.int z10), .val (.ref b11), .unset, .unset] [(.int (1 : Int32)), (.int ((init.toUInt32 >>> ((1 : Int32) &&& 31).toUInt32).toInt32)), (.int (1 : Int32)), (.ref b11)])) _
    refine XS.iand X19.here hx rfl (hb hby at_81) rfl ?_
    show Steps p.tables e below (T19.setTop (mkF m 82 #[.val (.int init), .val (.int sq), .val (.int cnt), .val (.int fl), .val (.int z6), .val (.int ((cnt &&& (2147483647 : Int32)) % (5 : Int32))), .val (.int z7), .val (.int z8), .val (.int z9), .val (.int z10), .val (.ref b11), .unset, .unset] [(.int (((init.toUInt32 >>> ((1 : Int32) &&& 31).toUInt32).toInt32) &&& (1 : Int32))), (.int (1 : Int32)), (.ref b11)])) _
    exact kt
  have k24 : ∀ tg, Steps p.tables e below (T19.setTop (mkF m 90 #[.val (.int init), .val (.int sq), .val (.int cnt), .val (.int fl), .val (.int z6), .val (.int ((cnt &&& (2147483647 : Int32)) % (5 : Int32))), .val (.int z7), .val (.int z8), .val (.int z9), .val (.int z10), .val (.ref b11), .unset, .unset] [(.int (if (((init.toUInt32 >>> ((1 : Int32) &&& 31).toUInt32).toInt32) &&& (1 : Int32)) = (0 : Int32) then (0 : Int32) else (1 : Int32))), (.int (1 : Int32)), (.ref b11)])) tg → Steps p.tables e below (s₁.setTop (entryFrame m #[(.int init), (.int sq), (.int cnt), (.int fl)] maxLocals)) tg := by
    intro tg kt
    refine k20 tg ?_
    show Steps p.tables e below (T19.setTop (mkF m 82 #[.val (.int init), .val (.int sq), .val (.int cnt), .val (.int fl), .val (.int z6), .val (.int ((cnt &&& (2147483647 : Int32)) % (5 : Int32))), .val (.int z7), .val (.int z8), .val (.int z9), .val (.int z10), .val (.ref b11), .unset, .unset] [(.int (((init.toUInt32 >>> ((1 : Int32) &&& 31).toUInt32).toInt32) &&& (1 : Int32))), (.int (1 : Int32)), (.ref b11)])) _
    by_cases hc21 : (((init.toUInt32 >>> ((1 : Int32) &&& 31).toUInt32).toInt32) &&& (1 : Int32)) = (0 : Int32)
    · refine XS.ifYes X19.here hx rfl (pc0 := 82) (pc' := 89) rfl (hb hby at_82) rfl ((if0 _ _).trans (teq hc21).1) (by decide) (by decide) ?_
      show Steps p.tables e below (T19.setTop (mkF m 89 #[.val (.int init), .val (.int sq), .val (.int cnt), .val (.int fl), .val (.int z6), .val (.int ((cnt &&& (2147483647 : Int32)) % (5 : Int32))), .val (.int z7), .val (.int z8), .val (.int z9), .val (.int z10), .val (.ref b11), .unset, .unset] [(.int (1 : Int32)), (.ref b11)])) _
      refine XS.iconst X19.here hx rfl (hb hby at_89) ?_
      show Steps p.tables e below (T19.setTop (mkF m 90 #[.val (.int init), .val (.int sq), .val (.int cnt), .val (.int fl), .val (.int z6), .val (.int ((cnt &&& (2147483647 : Int32)) % (5 : Int32))), .val (.int z7), .val (.int z8), .val (.int z9), .val (.int z10), .val (.ref b11), .unset, .unset] [(.int (0 : Int32)), (.int (1 : Int32)), (.ref b11)])) _
      repeat rw [if_pos hc21] at kt
      exact kt
    · refine XS.ifNo X19.here hx rfl (hb hby at_82) rfl ((if0 _ _).trans (feq hc21).1) ?_
      show Steps p.tables e below (T19.setTop (mkF m 85 #[.val (.int init), .val (.int sq), .val (.int cnt), .val (.int fl), .val (.int z6), .val (.int ((cnt &&& (2147483647 : Int32)) % (5 : Int32))), .val (.int z7), .val (.int z8), .val (.int z9), .val (.int z10), .val (.ref b11), .unset, .unset] [(.int (1 : Int32)), (.ref b11)])) _
      refine XS.iconst X19.here hx rfl (hb hby at_85) ?_
      show Steps p.tables e below (T19.setTop (mkF m 86 #[.val (.int init), .val (.int sq), .val (.int cnt), .val (.int fl), .val (.int z6), .val (.int ((cnt &&& (2147483647 : Int32)) % (5 : Int32))), .val (.int z7), .val (.int z8), .val (.int z9), .val (.int z10), .val (.ref b11), .unset, .unset] [(.int (1 : Int32)), (.int (1 : Int32)), (.ref b11)])) _
      refine XS.goto X19.here hx rfl (pc0 := 86) (pc' := 90) rfl (hb hby at_86) (by decide) (by decide) ?_
      show Steps p.tables e below (T19.setTop (mkF m 90 #[.val (.int init), .val (.int sq), .val (.int cnt), .val (.int fl), .val (.int z6), .val (.int ((cnt &&& (2147483647 : Int32)) % (5 : Int32))), .val (.int z7), .val (.int z8), .val (.int z9), .val (.int z10), .val (.ref b11), .unset, .unset] [(.int (1 : Int32)), (.int (1 : Int32)), (.ref b11)])) _
      repeat rw [if_neg hc21] at kt
      exact kt
  obtain ⟨z25, ez25⟩ : ∃ z : Int32, z = (if (((init.toUInt32 >>> ((1 : Int32) &&& 31).toUInt32).toInt32) &&& (1 : Int32)) = (0 : Int32) then (0 : Int32) else (1 : Int32)) := ⟨_, rfl⟩
  obtain ⟨cl90_26, Ar90_26, q90_26, S90_26, N90_26_, H90_26, G90_26⟩ := id V19_b11
  have hin90_26 : ¬ ((1 : Int32) < 0 ∨ cl90_26.slots.size ≤ ((1 : Int32)).toNatClampNeg) := inb_of S90_26 ⟨by decide, by decide⟩
  obtain ⟨T27, h27, X27, e27, W27, st27⟩ := stZ X19 hx hZ e19 Ar90_26 (j := (1 : Int32)) hin90_26 (g := (mkF m 90 #[.val (.int init), .val (.int sq), .val (.int cnt), .val (.int fl), .val (.int z6), .val (.int ((cnt &&& (2147483647 : Int32)) % (5 : Int32))), .val (.int z7), .val (.int z8), .val (.int z9), .val (.int z10), .val (.ref b11), .unset, .unset] [(.int z25), (.int (1 : Int32)), (.ref b11)])) rfl rfl (hb hby at_90)
  have Z27 := Nat.le_trans Z19 (Keep.of_wr W27).1
  have KP27 := KP19.wr W27 (Or.inr sz_b11)
  have N27 := Fr.snoc X27 N19 g_b11
  have V27_b11 : Arv Z h27 b11 c11 .boolean (8 : Int32) [(.int (nar .boolean z17)), (.int (nar .boolean z25)), (.int (0 : Int32)), (.int (0 : Int32)), (.int (0 : Int32)), (.int (0 : Int32)), (.int (0 : Int32)), (.int (0 : Int32))] (.int (0 : Int32)) := Arv.set Ar90_26 q90_26 S90_26 N90_26_ H90_26 G90_26 (fits_nar_bool _) W27 1 rfl (Nat.le_of_ble_eq_true rfl)
  have k28 : ∀ tg, Steps p.tables e below (T27.setTop (mkF m 99 #[.val (.int init), .val (.int sq), .val (.int cnt), .val (.int fl), .val (.int z6), .val (.int ((cnt &&& (2147483647 : Int32)) % (5 : Int32))), .val (.int z7), .val (.int z8), .val (.int z9), .val (.int z10), .val (.ref b11), .unset, .unset] [(.int (((init.toUInt32 >>> ((2 : Int32) &&& 31).toUInt32).toInt32) &&& (1 : Int32))), (.int (2 : Int32)), (.ref b11)])) tg → Steps p.tables e below (s₁.setTop (entryFrame m #[(.int init), (.int sq), (.int cnt), (.int fl)] maxLocals)) tg := by
    intro tg kt
    refine k24 tg ?_
    show Steps p.tables e below (T19.setTop (mkF m 90 #[.val (.int init), .val (.int sq), .val (.int cnt), .val (.int fl), .val (.int z6), .val (.int ((cnt &&& (2147483647 : Int32)) % (5 : Int32))), .val (.int z7), .val (.int z8), .val (.int z9), .val (.int z10), .val (.ref b11), .unset, .unset] [(.int (if (((init.toUInt32 >>> ((1 : Int32) &&& 31).toUInt32).toInt32) &&& (1 : Int32)) = (0 : Int32) then (0 : Int32) else (1 : Int32))), (.int (1 : Int32)), (.ref b11)])) _
    rw [← ez25]
    show Steps p.tables e below (T19.setTop (mkF m 90 #[.val (.int init), .val (.int sq), .val (.int cnt), .val (.int fl), .val (.int z6), .val (.int ((cnt &&& (2147483647 : Int32)) % (5 : Int32))), .val (.int z7), .val (.int z8), .val (.int z9), .val (.int z10), .val (.ref b11), .unset, .unset] [(.int z25), (.int (1 : Int32)), (.ref b11)])) _
    refine st27 _ ?_
    show Steps p.tables e below (T27.setTop (mkF m 91 #[.val (.int init), .val (.int sq), .val (.int cnt), .val (.int fl), .val (.int z6), .val (.int ((cnt &&& (2147483647 : Int32)) % (5 : Int32))), .val (.int z7), .val (.int z8), .val (.int z9), .val (.int z10), .val (.ref b11), .unset, .unset] [])) _
    refine XS.aload X27.here hx rfl (hb hby at_91) rfl rfl ?_
    show Steps p.tables e below (T27.setTop (mkF m 93 #[.val (.int init), .val (.int sq), .val (.int cnt), .val (.int fl), .val (.int z6), .val (.int ((cnt &&& (2147483647 : Int32)) % (5 : Int32))), .val (.int z7), .val (.int z8), .val (.int z9), .val (.int z10), .val (.ref b11), .unset, .unset] [(.ref b11)])) _
    refine XS.iconst X27.here hx rfl (hb hby at_93) ?_
    show Steps p.tables e below (T27.setTop (mkF m 94 #[.val (.int init), .val (.int sq), .val (.int cnt), .val (.int fl), .val (.int z6), .val (.int ((cnt &&& (2147483647 : Int32)) % (5 : Int32))), .val (.int z7), .val (.int z8), .val (.int z9), .val (.int z10), .val (.ref b11), .unset, .unset] [(.int (2 : Int32)), (.ref b11)])) _
    refine XS.iloadN X27.here hx rfl (hb hby at_94) rfl ?_
    show Steps p.tables e below (T27.setTop (mkF m 95 #[.val (.int init), .val (.int sq), .val (.int cnt), .val (.int fl), .val (.int z6), .val (.int ((cnt &&& (2147483647 : Int32)) % (5 : Int32))), .val (.int z7), .val (.int z8), .val (.int z9), .val (.int z10), .val (.ref b11), .unset, .unset] [(.int init), (.int (2 : Int32)), (.ref b11)])) _
    refine XS.iconst X27.here hx rfl (hb hby at_95) ?_
    show Steps p.tables e below (T27.setTop (mkF m 96 #[.val (.int init), .val (.int sq), .val (.int cnt), .val (.int fl), .val (.int z6), .val (.int ((cnt &&& (2147483647 : Int32)) % (5 : Int32))), .val (.int z7), .val (.int z8), .val (.int z9), .val (.int z10), .val (.ref b11), .unset, .unset] [(.int (2 : Int32)), (.int init), (.int (2 : Int32)), (.ref b11)])) _
    refine XS.iushr X27.here hx rfl (hb hby at_96) rfl ?_
    show Steps p.tables e below (T27.setTop (mkF m 97 #[.val (.int init), .val (.int sq), .val (.int cnt), .val (.int fl), .val (.int z6), .val (.int ((cnt &&& (2147483647 : Int32)) % (5 : Int32))), .val (.int z7), .val (.int z8), .val (.int z9), .val (.int z10), .val (.ref b11), .unset, .unset] [(.int ((init.toUInt32 >>> ((2 : Int32) &&& 31).toUInt32).toInt32)), (.int (2 : Int32)), (.ref b11)])) _
    refine XS.iconst X27.here hx rfl (hb hby at_97) ?_
    show Steps p.tables e below (T27.setTop (mkF m 98 #[.val (.int init), .val (.int sq), .val (.int cnt), .val (.int fl), .val (.int z6), .val (.int ((cnt &&& (2147483647 : Int32)) % (5 : Int32))), .val (.int z7), .val (.int z8), .val (.int z9), .val (.int z10), .val (.ref b11), .unset, .unset] [(.int (1 : Int32)), (.int ((init.toUInt32 >>> ((2 : Int32) &&& 31).toUInt32).toInt32)), (.int (2 : Int32)), (.ref b11)])) _
    refine XS.iand X27.here hx rfl (hb hby at_98) rfl ?_
    show Steps p.tables e below (T27.setTop (mkF m 99 #[.val (.int init), .val (.int sq), .val (.int cnt), .val (.int fl), .val (.int z6), .val (.int ((cnt &&& (2147483647 : Int32)) % (5 : Int32))), .val (.int z7), .val (.int z8), .val (.int z9), .val (.int z10), .val (.ref b11), .unset, .unset] [(.int (((init.toUInt32 >>> ((2 : Int32) &&& 31).toUInt32).toInt32) &&& (1 : Int32))), (.int (2 : Int32)), (.ref b11)])) _
    exact kt
  have k32 : ∀ tg, Steps p.tables e below (T27.setTop (mkF m 107 #[.val (.int init), .val (.int sq), .val (.int cnt), .val (.int fl), .val (.int z6), .val (.int ((cnt &&& (2147483647 : Int32)) % (5 : Int32))), .val (.int z7), .val (.int z8), .val (.int z9), .val (.int z10), .val (.ref b11), .unset, .unset] [(.int (if (((init.toUInt32 >>> ((2 : Int32) &&& 31).toUInt32).toInt32) &&& (1 : Int32)) = (0 : Int32) then (0 : Int32) else (1 : Int32))), (.int (2 : Int32)), (.ref b11)])) tg → Steps p.tables e below (s₁.setTop (entryFrame m #[(.int init), (.int sq), (.int cnt), (.int fl)] maxLocals)) tg := by
    intro tg kt
    refine k28 tg ?_
    show Steps p.tables e below (T27.setTop (mkF m 99 #[.val (.int init), .val (.int sq), .val (.int cnt), .val (.int fl), .val (.int z6), .val (.int ((cnt &&& (2147483647 : Int32)) % (5 : Int32))), .val (.int z7), .val (.int z8), .val (.int z9), .val (.int z10), .val (.ref b11), .unset, .unset] [(.int (((init.toUInt32 >>> ((2 : Int32) &&& 31).toUInt32).toInt32) &&& (1 : Int32))), (.int (2 : Int32)), (.ref b11)])) _
    by_cases hc29 : (((init.toUInt32 >>> ((2 : Int32) &&& 31).toUInt32).toInt32) &&& (1 : Int32)) = (0 : Int32)
    · refine XS.ifYes X27.here hx rfl (pc0 := 99) (pc' := 106) rfl (hb hby at_99) rfl ((if0 _ _).trans (teq hc29).1) (by decide) (by decide) ?_
      show Steps p.tables e below (T27.setTop (mkF m 106 #[.val (.int init), .val (.int sq), .val (.int cnt), .val (.int fl), .val (.int z6), .val (.int ((cnt &&& (2147483647 : Int32)) % (5 : Int32))), .val (.int z7), .val (.int z8), .val (.int z9), .val (.int z10), .val (.ref b11), .unset, .unset] [(.int (2 : Int32)), (.ref b11)])) _
      refine XS.iconst X27.here hx rfl (hb hby at_106) ?_
      show Steps p.tables e below (T27.setTop (mkF m 107 #[.val (.int init), .val (.int sq), .val (.int cnt), .val (.int fl), .val (.int z6), .val (.int ((cnt &&& (2147483647 : Int32)) % (5 : Int32))), .val (.int z7), .val (.int z8), .val (.int z9), .val (.int z10), .val (.ref b11), .unset, .unset] [(.int (0 : Int32)), (.int (2 : Int32)), (.ref b11)])) _
      repeat rw [if_pos hc29] at kt
      exact kt
    · refine XS.ifNo X27.here hx rfl (hb hby at_99) rfl ((if0 _ _).trans (feq hc29).1) ?_
      show Steps p.tables e below (T27.setTop (mkF m 102 #[.val (.int init), .val (.int sq), .val (.int cnt), .val (.int fl), .val (.int z6), .val (.int ((cnt &&& (2147483647 : Int32)) % (5 : Int32))), .val (.int z7), .val (.int z8), .val (.int z9), .val (.int z10), .val (.ref b11), .unset, .unset] [(.int (2 : Int32)), (.ref b11)])) _
      refine XS.iconst X27.here hx rfl (hb hby at_102) ?_
      show Steps p.tables e below (T27.setTop (mkF m 103 #[.val (.int init), .val (.int sq), .val (.int cnt), .val (.int fl), .val (.int z6), .val (.int ((cnt &&& (2147483647 : Int32)) % (5 : Int32))), .val (.int z7), .val (.int z8), .val (.int z9), .val (.int z10), .val (.ref b11), .unset, .unset] [(.int (1 : Int32)), (.int (2 : Int32)), (.ref b11)])) _
      refine XS.goto X27.here hx rfl (pc0 := 103) (pc' := 107) rfl (hb hby at_103) (by decide) (by decide) ?_
      show Steps p.tables e below (T27.setTop (mkF m 107 #[.val (.int init), .val (.int sq), .val (.int cnt), .val (.int fl), .val (.int z6), .val (.int ((cnt &&& (2147483647 : Int32)) % (5 : Int32))), .val (.int z7), .val (.int z8), .val (.int z9), .val (.int z10), .val (.ref b11), .unset, .unset] [(.int (1 : Int32)), (.int (2 : Int32)), (.ref b11)])) _
      repeat rw [if_neg hc29] at kt
      exact kt
  obtain ⟨z33, ez33⟩ : ∃ z : Int32, z = (if (((init.toUInt32 >>> ((2 : Int32) &&& 31).toUInt32).toInt32) &&& (1 : Int32)) = (0 : Int32) then (0 : Int32) else (1 : Int32)) := ⟨_, rfl⟩
  obtain ⟨cl107_34, Ar107_34, q107_34, S107_34, N107_34_, H107_34, G107_34⟩ := id V27_b11
  have hin107_34 : ¬ ((2 : Int32) < 0 ∨ cl107_34.slots.size ≤ ((2 : Int32)).toNatClampNeg) := inb_of S107_34 ⟨by decide, by decide⟩
  obtain ⟨T35, h35, X35, e35, W35, st35⟩ := stZ X27 hx hZ e27 Ar107_34 (j := (2 : Int32)) hin107_34 (g := (mkF m 107 #[.val (.int init), .val (.int sq), .val (.int cnt), .val (.int fl), .val (.int z6), .val (.int ((cnt &&& (2147483647 : Int32)) % (5 : Int32))), .val (.int z7), .val (.int z8), .val (.int z9), .val (.int z10), .val (.ref b11), .unset, .unset] [(.int z33), (.int (2 : Int32)), (.ref b11)])) rfl rfl (hb hby at_107)
  have Z35 := Nat.le_trans Z27 (Keep.of_wr W35).1
  have KP35 := KP27.wr W35 (Or.inr sz_b11)
  have N35 := Fr.snoc X35 N27 g_b11
  have V35_b11 : Arv Z h35 b11 c11 .boolean (8 : Int32) [(.int (nar .boolean z17)), (.int (nar .boolean z25)), (.int (nar .boolean z33)), (.int (0 : Int32)), (.int (0 : Int32)), (.int (0 : Int32)), (.int (0 : Int32)), (.int (0 : Int32))] (.int (0 : Int32)) := Arv.set Ar107_34 q107_34 S107_34 N107_34_ H107_34 G107_34 (fits_nar_bool _) W35 2 rfl (Nat.le_of_ble_eq_true rfl)
  have k36 : ∀ tg, Steps p.tables e below (T35.setTop (mkF m 116 #[.val (.int init), .val (.int sq), .val (.int cnt), .val (.int fl), .val (.int z6), .val (.int ((cnt &&& (2147483647 : Int32)) % (5 : Int32))), .val (.int z7), .val (.int z8), .val (.int z9), .val (.int z10), .val (.ref b11), .unset, .unset] [(.int (((init.toUInt32 >>> ((3 : Int32) &&& 31).toUInt32).toInt32) &&& (1 : Int32))), (.int (3 : Int32)), (.ref b11)])) tg → Steps p.tables e below (s₁.setTop (entryFrame m #[(.int init), (.int sq), (.int cnt), (.int fl)] maxLocals)) tg := by
    intro tg kt
    refine k32 tg ?_
    show Steps p.tables e below (T27.setTop (mkF m 107 #[.val (.int init), .val (.int sq), .val (.int cnt), .val (.int fl), .val (.int z6), .val (.int ((cnt &&& (2147483647 : Int32)) % (5 : Int32))), .val (.int z7), .val (.int z8), .val (.int z9), .val (.int z10), .val (.ref b11), .unset, .unset] [(.int (if (((init.toUInt32 >>> ((2 : Int32) &&& 31).toUInt32).toInt32) &&& (1 : Int32)) = (0 : Int32) then (0 : Int32) else (1 : Int32))), (.int (2 : Int32)), (.ref b11)])) _
    rw [← ez33]
    show Steps p.tables e below (T27.setTop (mkF m 107 #[.val (.int init), .val (.int sq), .val (.int cnt), .val (.int fl), .val (.int z6), .val (.int ((cnt &&& (2147483647 : Int32)) % (5 : Int32))), .val (.int z7), .val (.int z8), .val (.int z9), .val (.int z10), .val (.ref b11), .unset, .unset] [(.int z33), (.int (2 : Int32)), (.ref b11)])) _
    refine st35 _ ?_
    show Steps p.tables e below (T35.setTop (mkF m 108 #[.val (.int init), .val (.int sq), .val (.int cnt), .val (.int fl), .val (.int z6), .val (.int ((cnt &&& (2147483647 : Int32)) % (5 : Int32))), .val (.int z7), .val (.int z8), .val (.int z9), .val (.int z10), .val (.ref b11), .unset, .unset] [])) _
    refine XS.aload X35.here hx rfl (hb hby at_108) rfl rfl ?_
    show Steps p.tables e below (T35.setTop (mkF m 110 #[.val (.int init), .val (.int sq), .val (.int cnt), .val (.int fl), .val (.int z6), .val (.int ((cnt &&& (2147483647 : Int32)) % (5 : Int32))), .val (.int z7), .val (.int z8), .val (.int z9), .val (.int z10), .val (.ref b11), .unset, .unset] [(.ref b11)])) _
    refine XS.iconst X35.here hx rfl (hb hby at_110) ?_
    show Steps p.tables e below (T35.setTop (mkF m 111 #[.val (.int init), .val (.int sq), .val (.int cnt), .val (.int fl), .val (.int z6), .val (.int ((cnt &&& (2147483647 : Int32)) % (5 : Int32))), .val (.int z7), .val (.int z8), .val (.int z9), .val (.int z10), .val (.ref b11), .unset, .unset] [(.int (3 : Int32)), (.ref b11)])) _
    refine XS.iloadN X35.here hx rfl (hb hby at_111) rfl ?_
    show Steps p.tables e below (T35.setTop (mkF m 112 #[.val (.int init), .val (.int sq), .val (.int cnt), .val (.int fl), .val (.int z6), .val (.int ((cnt &&& (2147483647 : Int32)) % (5 : Int32))), .val (.int z7), .val (.int z8), .val (.int z9), .val (.int z10), .val (.ref b11), .unset, .unset] [(.int init), (.int (3 : Int32)), (.ref b11)])) _
    refine XS.iconst X35.here hx rfl (hb hby at_112) ?_
    show Steps p.tables e below (T35.setTop (mkF m 113 #[.val (.int init), .val (.int sq), .val (.int cnt), .val (.int fl), .val (.int z6), .val (.int ((cnt &&& (2147483647 : Int32)) % (5 : Int32))), .val (.int z7), .val (.int z8), .val (.int z9), .val (.int z10), .val (.ref b11), .unset, .unset] [(.int (3 : Int32)), (.int init), (.int (3 : Int32)), (.ref b11)])) _
    refine XS.iushr X35.here hx rfl (hb hby at_113) rfl ?_
    show Steps p.tables e below (T35.setTop (mkF m 114 #[.val (.int init), .val (.int sq), .val (.int cnt), .val (.int fl), .val (.int z6), .val (.int ((cnt &&& (2147483647 : Int32)) % (5 : Int32))), .val (.int z7), .val (.int z8), .val (.int z9), .val (.int z10), .val (.ref b11), .unset, .unset] [(.int ((init.toUInt32 >>> ((3 : Int32) &&& 31).toUInt32).toInt32)), (.int (3 : Int32)), (.ref b11)])) _
    refine XS.iconst X35.here hx rfl (hb hby at_114) ?_
    show Steps p.tables e below (T35.setTop (mkF m 115 #[.val (.int init), .val (.int sq), .val (.int cnt), .val (.int fl), .val (.int z6), .val (.int ((cnt &&& (2147483647 : Int32)) % (5 : Int32))), .val (.int z7), .val (.int z8), .val (.int z9), .val (.int z10), .val (.ref b11), .unset, .unset] [(.int (1 : Int32)), (.int ((init.toUInt32 >>> ((3 : Int32) &&& 31).toUInt32).toInt32)), (.int (3 : Int32)), (.ref b11)])) _
    refine XS.iand X35.here hx rfl (hb hby at_115) rfl ?_
    show Steps p.tables e below (T35.setTop (mkF m 116 #[.val (.int init), .val (.int sq), .val (.int cnt), .val (.int fl), .val (.int z6), .val (.int ((cnt &&& (2147483647 : Int32)) % (5 : Int32))), .val (.int z7), .val (.int z8), .val (.int z9), .val (.int z10), .val (.ref b11), .unset, .unset] [(.int (((init.toUInt32 >>> ((3 : Int32) &&& 31).toUInt32).toInt32) &&& (1 : Int32))), (.int (3 : Int32)), (.ref b11)])) _
    exact kt
  have k40 : ∀ tg, Steps p.tables e below (T35.setTop (mkF m 124 #[.val (.int init), .val (.int sq), .val (.int cnt), .val (.int fl), .val (.int z6), .val (.int ((cnt &&& (2147483647 : Int32)) % (5 : Int32))), .val (.int z7), .val (.int z8), .val (.int z9), .val (.int z10), .val (.ref b11), .unset, .unset] [(.int (if (((init.toUInt32 >>> ((3 : Int32) &&& 31).toUInt32).toInt32) &&& (1 : Int32)) = (0 : Int32) then (0 : Int32) else (1 : Int32))), (.int (3 : Int32)), (.ref b11)])) tg → Steps p.tables e below (s₁.setTop (entryFrame m #[(.int init), (.int sq), (.int cnt), (.int fl)] maxLocals)) tg := by
    intro tg kt
    refine k36 tg ?_
    show Steps p.tables e below (T35.setTop (mkF m 116 #[.val (.int init), .val (.int sq), .val (.int cnt), .val (.int fl), .val (.int z6), .val (.int ((cnt &&& (2147483647 : Int32)) % (5 : Int32))), .val (.int z7), .val (.int z8), .val (.int z9), .val (.int z10), .val (.ref b11), .unset, .unset] [(.int (((init.toUInt32 >>> ((3 : Int32) &&& 31).toUInt32).toInt32) &&& (1 : Int32))), (.int (3 : Int32)), (.ref b11)])) _
    by_cases hc37 : (((init.toUInt32 >>> ((3 : Int32) &&& 31).toUInt32).toInt32) &&& (1 : Int32)) = (0 : Int32)
    · refine XS.ifYes X35.here hx rfl (pc0 := 116) (pc' := 123) rfl (hb hby at_116) rfl ((if0 _ _).trans (teq hc37).1) (by decide) (by decide) ?_
      show Steps p.tables e below (T35.setTop (mkF m 123 #[.val (.int init), .val (.int sq), .val (.int cnt), .val (.int fl), .val (.int z6), .val (.int ((cnt &&& (2147483647 : Int32)) % (5 : Int32))), .val (.int z7), .val (.int z8), .val (.int z9), .val (.int z10), .val (.ref b11), .unset, .unset] [(.int (3 : Int32)), (.ref b11)])) _
      refine XS.iconst X35.here hx rfl (hb hby at_123) ?_
      show Steps p.tables e below (T35.setTop (mkF m 124 #[.val (.int init), .val (.int sq), .val (.int cnt), .val (.int fl), .val (.int z6), .val (.int ((cnt &&& (2147483647 : Int32)) % (5 : Int32))), .val (.int z7), .val (.int z8), .val (.int z9), .val (.int z10), .val (.ref b11), .unset, .unset] [(.int (0 : Int32)), (.int (3 : Int32)), (.ref b11)])) _
      repeat rw [if_pos hc37] at kt
      exact kt
    · refine XS.ifNo X35.here hx rfl (hb hby at_116) rfl ((if0 _ _).trans (feq hc37).1) ?_
      show Steps p.tables e below (T35.setTop (mkF m 119 #[.val (.int init), .val (.int sq), .val (.int cnt), .val (.int fl), .val (.int z6), .val (.int ((cnt &&& (2147483647 : Int32)) % (5 : Int32))), .val (.int z7), .val (.int z8), .val (.int z9), .val (.int z10), .val (.ref b11), .unset, .unset] [(.int (3 : Int32)), (.ref b11)])) _
      refine XS.iconst X35.here hx rfl (hb hby at_119) ?_
      show Steps p.tables e below (T35.setTop (mkF m 120 #[.val (.int init), .val (.int sq), .val (.int cnt), .val (.int fl), .val (.int z6), .val (.int ((cnt &&& (2147483647 : Int32)) % (5 : Int32))), .val (.int z7), .val (.int z8), .val (.int z9), .val (.int z10), .val (.ref b11), .unset, .unset] [(.int (1 : Int32)), (.int (3 : Int32)), (.ref b11)])) _
      refine XS.goto X35.here hx rfl (pc0 := 120) (pc' := 124) rfl (hb hby at_120) (by decide) (by decide) ?_
      show Steps p.tables e below (T35.setTop (mkF m 124 #[.val (.int init), .val (.int sq), .val (.int cnt), .val (.int fl), .val (.int z6), .val (.int ((cnt &&& (2147483647 : Int32)) % (5 : Int32))), .val (.int z7), .val (.int z8), .val (.int z9), .val (.int z10), .val (.ref b11), .unset, .unset] [(.int (1 : Int32)), (.int (3 : Int32)), (.ref b11)])) _
      repeat rw [if_neg hc37] at kt
      exact kt
  obtain ⟨z41, ez41⟩ : ∃ z : Int32, z = (if (((init.toUInt32 >>> ((3 : Int32) &&& 31).toUInt32).toInt32) &&& (1 : Int32)) = (0 : Int32) then (0 : Int32) else (1 : Int32)) := ⟨_, rfl⟩
  obtain ⟨cl124_42, Ar124_42, q124_42, S124_42, N124_42_, H124_42, G124_42⟩ := id V35_b11
  have hin124_42 : ¬ ((3 : Int32) < 0 ∨ cl124_42.slots.size ≤ ((3 : Int32)).toNatClampNeg) := inb_of S124_42 ⟨by decide, by decide⟩
  obtain ⟨T43, h43, X43, e43, W43, st43⟩ := stZ X35 hx hZ e35 Ar124_42 (j := (3 : Int32)) hin124_42 (g := (mkF m 124 #[.val (.int init), .val (.int sq), .val (.int cnt), .val (.int fl), .val (.int z6), .val (.int ((cnt &&& (2147483647 : Int32)) % (5 : Int32))), .val (.int z7), .val (.int z8), .val (.int z9), .val (.int z10), .val (.ref b11), .unset, .unset] [(.int z41), (.int (3 : Int32)), (.ref b11)])) rfl rfl (hb hby at_124)
  have Z43 := Nat.le_trans Z35 (Keep.of_wr W43).1
  have KP43 := KP35.wr W43 (Or.inr sz_b11)
  have N43 := Fr.snoc X43 N35 g_b11
  have V43_b11 : Arv Z h43 b11 c11 .boolean (8 : Int32) [(.int (nar .boolean z17)), (.int (nar .boolean z25)), (.int (nar .boolean z33)), (.int (nar .boolean z41)), (.int (0 : Int32)), (.int (0 : Int32)), (.int (0 : Int32)), (.int (0 : Int32))] (.int (0 : Int32)) := Arv.set Ar124_42 q124_42 S124_42 N124_42_ H124_42 G124_42 (fits_nar_bool _) W43 3 rfl (Nat.le_of_ble_eq_true rfl)
  have k44 : ∀ tg, Steps p.tables e below (T43.setTop (mkF m 133 #[.val (.int init), .val (.int sq), .val (.int cnt), .val (.int fl), .val (.int z6), .val (.int ((cnt &&& (2147483647 : Int32)) % (5 : Int32))), .val (.int z7), .val (.int z8), .val (.int z9), .val (.int z10), .val (.ref b11), .unset, .unset] [(.int (((init.toUInt32 >>> ((4 : Int32) &&& 31).toUInt32).toInt32) &&& (1 : Int32))), (.int (4 : Int32)), (.ref b11)])) tg → Steps p.tables e below (s₁.setTop (entryFrame m #[(.int init), (.int sq), (.int cnt), (.int fl)] maxLocals)) tg := by
    intro tg kt
    refine k40 tg ?_
    show Steps p.tables e below (T35.setTop (mkF m 124 #[.val (.int init), .val (.int sq), .val (.int cnt), .val (.int fl), .val (.int z6), .val (.int ((cnt &&& (2147483647 : Int32)) % (5 : Int32))), .val (.int z7), .val (.int z8), .val (.int z9), .val (.int z10), .val (.ref b11), .unset, .unset] [(.int (if (((init.toUInt32 >>> ((3 : Int32) &&& 31).toUInt32).toInt32) &&& (1 : Int32)) = (0 : Int32) then (0 : Int32) else (1 : Int32))), (.int (3 : Int32)), (.ref b11)])) _
    rw [← ez41]
    show Steps p.tables e below (T35.setTop (mkF m 124 #[.val (.int init), .val (.int sq), .val (.int cnt), .val (.int fl), .val (.int z6), .val (.int ((cnt &&& (2147483647 : Int32)) % (5 : Int32))), .val (.int z7), .val (.int z8), .val (.int z9), .val (.int z10), .val (.ref b11), .unset, .unset] [(.int z41), (.int (3 : Int32)), (.ref b11)])) _
    refine st43 _ ?_
    show Steps p.tables e below (T43.setTop (mkF m 125 #[.val (.int init), .val (.int sq), .val (.int cnt), .val (.int fl), .val (.int z6), .val (.int ((cnt &&& (2147483647 : Int32)) % (5 : Int32))), .val (.int z7), .val (.int z8), .val (.int z9), .val (.int z10), .val (.ref b11), .unset, .unset] [])) _
    refine XS.aload X43.here hx rfl (hb hby at_125) rfl rfl ?_
    show Steps p.tables e below (T43.setTop (mkF m 127 #[.val (.int init), .val (.int sq), .val (.int cnt), .val (.int fl), .val (.int z6), .val (.int ((cnt &&& (2147483647 : Int32)) % (5 : Int32))), .val (.int z7), .val (.int z8), .val (.int z9), .val (.int z10), .val (.ref b11), .unset, .unset] [(.ref b11)])) _
    refine XS.iconst X43.here hx rfl (hb hby at_127) ?_
    show Steps p.tables e below (T43.setTop (mkF m 128 #[.val (.int init), .val (.int sq), .val (.int cnt), .val (.int fl), .val (.int z6), .val (.int ((cnt &&& (2147483647 : Int32)) % (5 : Int32))), .val (.int z7), .val (.int z8), .val (.int z9), .val (.int z10), .val (.ref b11), .unset, .unset] [(.int (4 : Int32)), (.ref b11)])) _
    refine XS.iloadN X43.here hx rfl (hb hby at_128) rfl ?_
    show Steps p.tables e below (T43.setTop (mkF m 129 #[.val (.int init), .val (.int sq), .val (.int cnt), .val (.int fl), .val (.int z6), .val (.int ((cnt &&& (2147483647 : Int32)) % (5 : Int32))), .val (.int z7), .val (.int z8), .val (.int z9), .val (.int z10), .val (.ref b11), .unset, .unset] [(.int init), (.int (4 : Int32)), (.ref b11)])) _
    refine XS.iconst X43.here hx rfl (hb hby at_129) ?_
    show Steps p.tables e below (T43.setTop (mkF m 130 #[.val (.int init), .val (.int sq), .val (.int cnt), .val (.int fl), .val (.int z6), .val (.int ((cnt &&& (2147483647 : Int32)) % (5 : Int32))), .val (.int z7), .val (.int z8), .val (.int z9), .val (.int z10), .val (.ref b11), .unset, .unset] [(.int (4 : Int32)), (.int init), (.int (4 : Int32)), (.ref b11)])) _
    refine XS.iushr X43.here hx rfl (hb hby at_130) rfl ?_
    show Steps p.tables e below (T43.setTop (mkF m 131 #[.val (.int init), .val (.int sq), .val (.int cnt), .val (.int fl), .val (.int z6), .val (.int ((cnt &&& (2147483647 : Int32)) % (5 : Int32))), .val (.int z7), .val (.int z8), .val (.int z9), .val (.int z10), .val (.ref b11), .unset, .unset] [(.int ((init.toUInt32 >>> ((4 : Int32) &&& 31).toUInt32).toInt32)), (.int (4 : Int32)), (.ref b11)])) _
    refine XS.iconst X43.here hx rfl (hb hby at_131) ?_
    show Steps p.tables e below (T43.setTop (mkF m 132 #[.val (.int init), .val (.int sq), .val (.int cnt), .val (.int fl), .val (.int z6), .val (.int ((cnt &&& (2147483647 : Int32)) % (5 : Int32))), .val (.int z7), .val (.int z8), .val (.int z9), .val (.int z10), .val (.ref b11), .unset, .unset] [(.int (1 : Int32)), (.int ((init.toUInt32 >>> ((4 : Int32) &&& 31).toUInt32).toInt32)), (.int (4 : Int32)), (.ref b11)])) _
    refine XS.iand X43.here hx rfl (hb hby at_132) rfl ?_
    show Steps p.tables e below (T43.setTop (mkF m 133 #[.val (.int init), .val (.int sq), .val (.int cnt), .val (.int fl), .val (.int z6), .val (.int ((cnt &&& (2147483647 : Int32)) % (5 : Int32))), .val (.int z7), .val (.int z8), .val (.int z9), .val (.int z10), .val (.ref b11), .unset, .unset] [(.int (((init.toUInt32 >>> ((4 : Int32) &&& 31).toUInt32).toInt32) &&& (1 : Int32))), (.int (4 : Int32)), (.ref b11)])) _
    exact kt
  have k48 : ∀ tg, Steps p.tables e below (T43.setTop (mkF m 141 #[.val (.int init), .val (.int sq), .val (.int cnt), .val (.int fl), .val (.int z6), .val (.int ((cnt &&& (2147483647 : Int32)) % (5 : Int32))), .val (.int z7), .val (.int z8), .val (.int z9), .val (.int z10), .val (.ref b11), .unset, .unset] [(.int (if (((init.toUInt32 >>> ((4 : Int32) &&& 31).toUInt32).toInt32) &&& (1 : Int32)) = (0 : Int32) then (0 : Int32) else (1 : Int32))), (.int (4 : Int32)), (.ref b11)])) tg → Steps p.tables e below (s₁.setTop (entryFrame m #[(.int init), (.int sq), (.int cnt), (.int fl)] maxLocals)) tg := by
    intro tg kt
    refine k44 tg ?_
    show Steps p.tables e below (T43.setTop (mkF m 133 #[.val (.int init), .val (.int sq), .val (.int cnt), .val (.int fl), .val (.int z6), .val (.int ((cnt &&& (2147483647 : Int32)) % (5 : Int32))), .val (.int z7), .val (.int z8), .val (.int z9), .val (.int z10), .val (.ref b11), .unset, .unset] [(.int (((init.toUInt32 >>> ((4 : Int32) &&& 31).toUInt32).toInt32) &&& (1 : Int32))), (.int (4 : Int32)), (.ref b11)])) _
    by_cases hc45 : (((init.toUInt32 >>> ((4 : Int32) &&& 31).toUInt32).toInt32) &&& (1 : Int32)) = (0 : Int32)
    · refine XS.ifYes X43.here hx rfl (pc0 := 133) (pc' := 140) rfl (hb hby at_133) rfl ((if0 _ _).trans (teq hc45).1) (by decide) (by decide) ?_
      show Steps p.tables e below (T43.setTop (mkF m 140 #[.val (.int init), .val (.int sq), .val (.int cnt), .val (.int fl), .val (.int z6), .val (.int ((cnt &&& (2147483647 : Int32)) % (5 : Int32))), .val (.int z7), .val (.int z8), .val (.int z9), .val (.int z10), .val (.ref b11), .unset, .unset] [(.int (4 : Int32)), (.ref b11)])) _
      refine XS.iconst X43.here hx rfl (hb hby at_140) ?_
      show Steps p.tables e below (T43.setTop (mkF m 141 #[.val (.int init), .val (.int sq), .val (.int cnt), .val (.int fl), .val (.int z6), .val (.int ((cnt &&& (2147483647 : Int32)) % (5 : Int32))), .val (.int z7), .val (.int z8), .val (.int z9), .val (.int z10), .val (.ref b11), .unset, .unset] [(.int (0 : Int32)), (.int (4 : Int32)), (.ref b11)])) _
      repeat rw [if_pos hc45] at kt
      exact kt
    · refine XS.ifNo X43.here hx rfl (hb hby at_133) rfl ((if0 _ _).trans (feq hc45).1) ?_
      show Steps p.tables e below (T43.setTop (mkF m 136 #[.val (.int init), .val (.int sq), .val (.int cnt), .val (.int fl), .val (.int z6), .val (.int ((cnt &&& (2147483647 : Int32)) % (5 : Int32))), .val (.int z7), .val (.int z8), .val (.int z9), .val (.int z10), .val (.ref b11), .unset, .unset] [(.int (4 : Int32)), (.ref b11)])) _
      refine XS.iconst X43.here hx rfl (hb hby at_136) ?_
      show Steps p.tables e below (T43.setTop (mkF m 137 #[.val (.int init), .val (.int sq), .val (.int cnt), .val (.int fl), .val (.int z6), .val (.int ((cnt &&& (2147483647 : Int32)) % (5 : Int32))), .val (.int z7), .val (.int z8), .val (.int z9), .val (.int z10), .val (.ref b11), .unset, .unset] [(.int (1 : Int32)), (.int (4 : Int32)), (.ref b11)])) _
      refine XS.goto X43.here hx rfl (pc0 := 137) (pc' := 141) rfl (hb hby at_137) (by decide) (by decide) ?_
      show Steps p.tables e below (T43.setTop (mkF m 141 #[.val (.int init), .val (.int sq), .val (.int cnt), .val (.int fl), .val (.int z6), .val (.int ((cnt &&& (2147483647 : Int32)) % (5 : Int32))), .val (.int z7), .val (.int z8), .val (.int z9), .val (.int z10), .val (.ref b11), .unset, .unset] [(.int (1 : Int32)), (.int (4 : Int32)), (.ref b11)])) _
      repeat rw [if_neg hc45] at kt
      exact kt
  obtain ⟨z49, ez49⟩ : ∃ z : Int32, z = (if (((init.toUInt32 >>> ((4 : Int32) &&& 31).toUInt32).toInt32) &&& (1 : Int32)) = (0 : Int32) then (0 : Int32) else (1 : Int32)) := ⟨_, rfl⟩
  obtain ⟨cl141_50, Ar141_50, q141_50, S141_50, N141_50_, H141_50, G141_50⟩ := id V43_b11
  have hin141_50 : ¬ ((4 : Int32) < 0 ∨ cl141_50.slots.size ≤ ((4 : Int32)).toNatClampNeg) := inb_of S141_50 ⟨by decide, by decide⟩
  obtain ⟨T51, h51, X51, e51, W51, st51⟩ := stZ X43 hx hZ e43 Ar141_50 (j := (4 : Int32)) hin141_50 (g := (mkF m 141 #[.val (.int init), .val (.int sq), .val (.int cnt), .val (.int fl), .val (.int z6), .val (.int ((cnt &&& (2147483647 : Int32)) % (5 : Int32))), .val (.int z7), .val (.int z8), .val (.int z9), .val (.int z10), .val (.ref b11), .unset, .unset] [(.int z49), (.int (4 : Int32)), (.ref b11)])) rfl rfl (hb hby at_141)
  have Z51 := Nat.le_trans Z43 (Keep.of_wr W51).1
  have KP51 := KP43.wr W51 (Or.inr sz_b11)
  have N51 := Fr.snoc X51 N43 g_b11
  have V51_b11 : Arv Z h51 b11 c11 .boolean (8 : Int32) [(.int (nar .boolean z17)), (.int (nar .boolean z25)), (.int (nar .boolean z33)), (.int (nar .boolean z41)), (.int (nar .boolean z49)), (.int (0 : Int32)), (.int (0 : Int32)), (.int (0 : Int32))] (.int (0 : Int32)) := Arv.set Ar141_50 q141_50 S141_50 N141_50_ H141_50 G141_50 (fits_nar_bool _) W51 4 rfl (Nat.le_of_ble_eq_true rfl)
  have k52 : ∀ tg, Steps p.tables e below (T51.setTop (mkF m 150 #[.val (.int init), .val (.int sq), .val (.int cnt), .val (.int fl), .val (.int z6), .val (.int ((cnt &&& (2147483647 : Int32)) % (5 : Int32))), .val (.int z7), .val (.int z8), .val (.int z9), .val (.int z10), .val (.ref b11), .unset, .unset] [(.int (((init.toUInt32 >>> ((5 : Int32) &&& 31).toUInt32).toInt32) &&& (1 : Int32))), (.int (5 : Int32)), (.ref b11)])) tg → Steps p.tables e below (s₁.setTop (entryFrame m #[(.int init), (.int sq), (.int cnt), (.int fl)] maxLocals)) tg := by
    intro tg kt
    refine k48 tg ?_
    show Steps p.tables e below (T43.setTop (mkF m 141 #[.val (.int init), .val (.int sq), .val (.int cnt), .val (.int fl), .val (.int z6), .val (.int ((cnt &&& (2147483647 : Int32)) % (5 : Int32))), .val (.int z7), .val (.int z8), .val (.int z9), .val (.int z10), .val (.ref b11), .unset, .unset] [(.int (if (((init.toUInt32 >>> ((4 : Int32) &&& 31).toUInt32).toInt32) &&& (1 : Int32)) = (0 : Int32) then (0 : Int32) else (1 : Int32))), (.int (4 : Int32)), (.ref b11)])) _
    rw [← ez49]
    show Steps p.tables e below (T43.setTop (mkF m 141 #[.val (.int init), .val (.int sq), .val (.int cnt), .val (.int fl), .val (.int z6), .val (.int ((cnt &&& (2147483647 : Int32)) % (5 : Int32))), .val (.int z7), .val (.int z8), .val (.int z9), .val (.int z10), .val (.ref b11), .unset, .unset] [(.int z49), (.int (4 : Int32)), (.ref b11)])) _
    refine st51 _ ?_
    show Steps p.tables e below (T51.setTop (mkF m 142 #[.val (.int init), .val (.int sq), .val (.int cnt), .val (.int fl), .val (.int z6), .val (.int ((cnt &&& (2147483647 : Int32)) % (5 : Int32))), .val (.int z7), .val (.int z8), .val (.int z9), .val (.int z10), .val (.ref b11), .unset, .unset] [])) _
    refine XS.aload X51.here hx rfl (hb hby at_142) rfl rfl ?_
    show Steps p.tables e below (T51.setTop (mkF m 144 #[.val (.int init), .val (.int sq), .val (.int cnt), .val (.int fl), .val (.int z6), .val (.int ((cnt &&& (2147483647 : Int32)) % (5 : Int32))), .val (.int z7), .val (.int z8), .val (.int z9), .val (.int z10), .val (.ref b11), .unset, .unset] [(.ref b11)])) _
    refine XS.iconst X51.here hx rfl (hb hby at_144) ?_
    show Steps p.tables e below (T51.setTop (mkF m 145 #[.val (.int init), .val (.int sq), .val (.int cnt), .val (.int fl), .val (.int z6), .val (.int ((cnt &&& (2147483647 : Int32)) % (5 : Int32))), .val (.int z7), .val (.int z8), .val (.int z9), .val (.int z10), .val (.ref b11), .unset, .unset] [(.int (5 : Int32)), (.ref b11)])) _
    refine XS.iloadN X51.here hx rfl (hb hby at_145) rfl ?_
    show Steps p.tables e below (T51.setTop (mkF m 146 #[.val (.int init), .val (.int sq), .val (.int cnt), .val (.int fl), .val (.int z6), .val (.int ((cnt &&& (2147483647 : Int32)) % (5 : Int32))), .val (.int z7), .val (.int z8), .val (.int z9), .val (.int z10), .val (.ref b11), .unset, .unset] [(.int init), (.int (5 : Int32)), (.ref b11)])) _
    refine XS.iconst X51.here hx rfl (hb hby at_146) ?_
    show Steps p.tables e below (T51.setTop (mkF m 147 #[.val (.int init), .val (.int sq), .val (.int cnt), .val (.int fl), .val (.int z6), .val (.int ((cnt &&& (2147483647 : Int32)) % (5 : Int32))), .val (.int z7), .val (.int z8), .val (.int z9), .val (.int z10), .val (.ref b11), .unset, .unset] [(.int (5 : Int32)), (.int init), (.int (5 : Int32)), (.ref b11)])) _
    refine XS.iushr X51.here hx rfl (hb hby at_147) rfl ?_
    show Steps p.tables e below (T51.setTop (mkF m 148 #[.val (.int init), .val (.int sq), .val (.int cnt), .val (.int fl), .val (.int z6), .val (.int ((cnt &&& (2147483647 : Int32)) % (5 : Int32))), .val (.int z7), .val (.int z8), .val (.int z9), .val (.int z10), .val (.ref b11), .unset, .unset] [(.int ((init.toUInt32 >>> ((5 : Int32) &&& 31).toUInt32).toInt32)), (.int (5 : Int32)), (.ref b11)])) _
    refine XS.iconst X51.here hx rfl (hb hby at_148) ?_
    show Steps p.tables e below (T51.setTop (mkF m 149 #[.val (.int init), .val (.int sq), .val (.int cnt), .val (.int fl), .val (.int z6), .val (.int ((cnt &&& (2147483647 : Int32)) % (5 : Int32))), .val (.int z7), .val (.int z8), .val (.int z9), .val (.int z10), .val (.ref b11), .unset, .unset] [(.int (1 : Int32)), (.int ((init.toUInt32 >>> ((5 : Int32) &&& 31).toUInt32).toInt32)), (.int (5 : Int32)), (.ref b11)])) _
    refine XS.iand X51.here hx rfl (hb hby at_149) rfl ?_
    show Steps p.tables e below (T51.setTop (mkF m 150 #[.val (.int init), .val (.int sq), .val (.int cnt), .val (.int fl), .val (.int z6), .val (.int ((cnt &&& (2147483647 : Int32)) % (5 : Int32))), .val (.int z7), .val (.int z8), .val (.int z9), .val (.int z10), .val (.ref b11), .unset, .unset] [(.int (((init.toUInt32 >>> ((5 : Int32) &&& 31).toUInt32).toInt32) &&& (1 : Int32))), (.int (5 : Int32)), (.ref b11)])) _
    exact kt
  have k56 : ∀ tg, Steps p.tables e below (T51.setTop (mkF m 158 #[.val (.int init), .val (.int sq), .val (.int cnt), .val (.int fl), .val (.int z6), .val (.int ((cnt &&& (2147483647 : Int32)) % (5 : Int32))), .val (.int z7), .val (.int z8), .val (.int z9), .val (.int z10), .val (.ref b11), .unset, .unset] [(.int (if (((init.toUInt32 >>> ((5 : Int32) &&& 31).toUInt32).toInt32) &&& (1 : Int32)) = (0 : Int32) then (0 : Int32) else (1 : Int32))), (.int (5 : Int32)), (.ref b11)])) tg → Steps p.tables e below (s₁.setTop (entryFrame m #[(.int init), (.int sq), (.int cnt), (.int fl)] maxLocals)) tg := by
    intro tg kt
    refine k52 tg ?_
    show Steps p.tables e below (T51.setTop (mkF m 150 #[.val (.int init), .val (.int sq), .val (.int cnt), .val (.int fl), .val (.int z6), .val (.int ((cnt &&& (2147483647 : Int32)) % (5 : Int32))), .val (.int z7), .val (.int z8), .val (.int z9), .val (.int z10), .val (.ref b11), .unset, .unset] [(.int (((init.toUInt32 >>> ((5 : Int32) &&& 31).toUInt32).toInt32) &&& (1 : Int32))), (.int (5 : Int32)), (.ref b11)])) _
    by_cases hc53 : (((init.toUInt32 >>> ((5 : Int32) &&& 31).toUInt32).toInt32) &&& (1 : Int32)) = (0 : Int32)
    · refine XS.ifYes X51.here hx rfl (pc0 := 150) (pc' := 157) rfl (hb hby at_150) rfl ((if0 _ _).trans (teq hc53).1) (by decide) (by decide) ?_
      show Steps p.tables e below (T51.setTop (mkF m 157 #[.val (.int init), .val (.int sq), .val (.int cnt), .val (.int fl), .val (.int z6), .val (.int ((cnt &&& (2147483647 : Int32)) % (5 : Int32))), .val (.int z7), .val (.int z8), .val (.int z9), .val (.int z10), .val (.ref b11), .unset, .unset] [(.int (5 : Int32)), (.ref b11)])) _
      refine XS.iconst X51.here hx rfl (hb hby at_157) ?_
      show Steps p.tables e below (T51.setTop (mkF m 158 #[.val (.int init), .val (.int sq), .val (.int cnt), .val (.int fl), .val (.int z6), .val (.int ((cnt &&& (2147483647 : Int32)) % (5 : Int32))), .val (.int z7), .val (.int z8), .val (.int z9), .val (.int z10), .val (.ref b11), .unset, .unset] [(.int (0 : Int32)), (.int (5 : Int32)), (.ref b11)])) _
      repeat rw [if_pos hc53] at kt
      exact kt
    · refine XS.ifNo X51.here hx rfl (hb hby at_150) rfl ((if0 _ _).trans (feq hc53).1) ?_
      show Steps p.tables e below (T51.setTop (mkF m 153 #[.val (.int init), .val (.int sq), .val (.int cnt), .val (.int fl), .val (.int z6), .val (.int ((cnt &&& (2147483647 : Int32)) % (5 : Int32))), .val (.int z7), .val (.int z8), .val (.int z9), .val (.int z10), .val (.ref b11), .unset, .unset] [(.int (5 : Int32)), (.ref b11)])) _
      refine XS.iconst X51.here hx rfl (hb hby at_153) ?_
      show Steps p.tables e below (T51.setTop (mkF m 154 #[.val (.int init), .val (.int sq), .val (.int cnt), .val (.int fl), .val (.int z6), .val (.int ((cnt &&& (2147483647 : Int32)) % (5 : Int32))), .val (.int z7), .val (.int z8), .val (.int z9), .val (.int z10), .val (.ref b11), .unset, .unset] [(.int (1 : Int32)), (.int (5 : Int32)), (.ref b11)])) _
      refine XS.goto X51.here hx rfl (pc0 := 154) (pc' := 158) rfl (hb hby at_154) (by decide) (by decide) ?_
      show Steps p.tables e below (T51.setTop (mkF m 158 #[.val (.int init), .val (.int sq), .val (.int cnt), .val (.int fl), .val (.int z6), .val (.int ((cnt &&& (2147483647 : Int32)) % (5 : Int32))), .val (.int z7), .val (.int z8), .val (.int z9), .val (.int z10), .val (.ref b11), .unset, .unset] [(.int (1 : Int32)), (.int (5 : Int32)), (.ref b11)])) _
      repeat rw [if_neg hc53] at kt
      exact kt
  obtain ⟨z57, ez57⟩ : ∃ z : Int32, z = (if (((init.toUInt32 >>> ((5 : Int32) &&& 31).toUInt32).toInt32) &&& (1 : Int32)) = (0 : Int32) then (0 : Int32) else (1 : Int32)) := ⟨_, rfl⟩
  obtain ⟨cl158_58, Ar158_58, q158_58, S158_58, N158_58_, H158_58, G158_58⟩ := id V51_b11
  have hin158_58 : ¬ ((5 : Int32) < 0 ∨ cl158_58.slots.size ≤ ((5 : Int32)).toNatClampNeg) := inb_of S158_58 ⟨by decide, by decide⟩
  obtain ⟨T59, h59, X59, e59, W59, st59⟩ := stZ X51 hx hZ e51 Ar158_58 (j := (5 : Int32)) hin158_58 (g := (mkF m 158 #[.val (.int init), .val (.int sq), .val (.int cnt), .val (.int fl), .val (.int z6), .val (.int ((cnt &&& (2147483647 : Int32)) % (5 : Int32))), .val (.int z7), .val (.int z8), .val (.int z9), .val (.int z10), .val (.ref b11), .unset, .unset] [(.int z57), (.int (5 : Int32)), (.ref b11)])) rfl rfl (hb hby at_158)
  have Z59 := Nat.le_trans Z51 (Keep.of_wr W59).1
  have KP59 := KP51.wr W59 (Or.inr sz_b11)
  have N59 := Fr.snoc X59 N51 g_b11
  have V59_b11 : Arv Z h59 b11 c11 .boolean (8 : Int32) [(.int (nar .boolean z17)), (.int (nar .boolean z25)), (.int (nar .boolean z33)), (.int (nar .boolean z41)), (.int (nar .boolean z49)), (.int (nar .boolean z57)), (.int (0 : Int32)), (.int (0 : Int32))] (.int (0 : Int32)) := Arv.set Ar158_58 q158_58 S158_58 N158_58_ H158_58 G158_58 (fits_nar_bool _) W59 5 rfl (Nat.le_of_ble_eq_true rfl)
  have k60 : ∀ tg, Steps p.tables e below (T59.setTop (mkF m 169 #[.val (.int init), .val (.int sq), .val (.int cnt), .val (.int fl), .val (.int z6), .val (.int ((cnt &&& (2147483647 : Int32)) % (5 : Int32))), .val (.int z7), .val (.int z8), .val (.int z9), .val (.int z10), .val (.ref b11), .unset, .unset] [(.int (((init.toUInt32 >>> ((6 : Int32) &&& 31).toUInt32).toInt32) &&& (1 : Int32))), (.int (6 : Int32)), (.ref b11)])) tg → Steps p.tables e below (s₁.setTop (entryFrame m #[(.int init), (.int sq), (.int cnt), (.int fl)] maxLocals)) tg := by
    intro tg kt
    refine k56 tg ?_
    show Steps p.tables e below (T51.setTop (mkF m 158 #[.val (.int init), .val (.int sq), .val (.int cnt), .val (.int fl), .val (.int z6), .val (.int ((cnt &&& (2147483647 : Int32)) % (5 : Int32))), .val (.int z7), .val (.int z8), .val (.int z9), .val (.int z10), .val (.ref b11), .unset, .unset] [(.int (if (((init.toUInt32 >>> ((5 : Int32) &&& 31).toUInt32).toInt32) &&& (1 : Int32)) = (0 : Int32) then (0 : Int32) else (1 : Int32))), (.int (5 : Int32)), (.ref b11)])) _
    rw [← ez57]
    show Steps p.tables e below (T51.setTop (mkF m 158 #[.val (.int init), .val (.int sq), .val (.int cnt), .val (.int fl), .val (.int z6), .val (.int ((cnt &&& (2147483647 : Int32)) % (5 : Int32))), .val (.int z7), .val (.int z8), .val (.int z9), .val (.int z10), .val (.ref b11), .unset, .unset] [(.int z57), (.int (5 : Int32)), (.ref b11)])) _
    refine st59 _ ?_
    show Steps p.tables e below (T59.setTop (mkF m 159 #[.val (.int init), .val (.int sq), .val (.int cnt), .val (.int fl), .val (.int z6), .val (.int ((cnt &&& (2147483647 : Int32)) % (5 : Int32))), .val (.int z7), .val (.int z8), .val (.int z9), .val (.int z10), .val (.ref b11), .unset, .unset] [])) _
    refine XS.aload X59.here hx rfl (hb hby at_159) rfl rfl ?_
    show Steps p.tables e below (T59.setTop (mkF m 161 #[.val (.int init), .val (.int sq), .val (.int cnt), .val (.int fl), .val (.int z6), .val (.int ((cnt &&& (2147483647 : Int32)) % (5 : Int32))), .val (.int z7), .val (.int z8), .val (.int z9), .val (.int z10), .val (.ref b11), .unset, .unset] [(.ref b11)])) _
    refine XS.bipush X59.here hx rfl (hb hby at_161) ?_
    show Steps p.tables e below (T59.setTop (mkF m 163 #[.val (.int init), .val (.int sq), .val (.int cnt), .val (.int fl), .val (.int z6), .val (.int ((cnt &&& (2147483647 : Int32)) % (5 : Int32))), .val (.int z7), .val (.int z8), .val (.int z9), .val (.int z10), .val (.ref b11), .unset, .unset] [(.int (6 : Int32)), (.ref b11)])) _
    refine XS.iloadN X59.here hx rfl (hb hby at_163) rfl ?_
    show Steps p.tables e below (T59.setTop (mkF m 164 #[.val (.int init), .val (.int sq), .val (.int cnt), .val (.int fl), .val (.int z6), .val (.int ((cnt &&& (2147483647 : Int32)) % (5 : Int32))), .val (.int z7), .val (.int z8), .val (.int z9), .val (.int z10), .val (.ref b11), .unset, .unset] [(.int init), (.int (6 : Int32)), (.ref b11)])) _
    refine XS.bipush X59.here hx rfl (hb hby at_164) ?_
    show Steps p.tables e below (T59.setTop (mkF m 166 #[.val (.int init), .val (.int sq), .val (.int cnt), .val (.int fl), .val (.int z6), .val (.int ((cnt &&& (2147483647 : Int32)) % (5 : Int32))), .val (.int z7), .val (.int z8), .val (.int z9), .val (.int z10), .val (.ref b11), .unset, .unset] [(.int (6 : Int32)), (.int init), (.int (6 : Int32)), (.ref b11)])) _
    refine XS.iushr X59.here hx rfl (hb hby at_166) rfl ?_
    show Steps p.tables e below (T59.setTop (mkF m 167 #[.val (.int init), .val (.int sq), .val (.int cnt), .val (.int fl), .val (.int z6), .val (.int ((cnt &&& (2147483647 : Int32)) % (5 : Int32))), .val (.int z7), .val (.int z8), .val (.int z9), .val (.int z10), .val (.ref b11), .unset, .unset] [(.int ((init.toUInt32 >>> ((6 : Int32) &&& 31).toUInt32).toInt32)), (.int (6 : Int32)), (.ref b11)])) _
    refine XS.iconst X59.here hx rfl (hb hby at_167) ?_
    show Steps p.tables e below (T59.setTop (mkF m 168 #[.val (.int init), .val (.int sq), .val (.int cnt), .val (.int fl), .val (.int z6), .val (.int ((cnt &&& (2147483647 : Int32)) % (5 : Int32))), .val (.int z7), .val (.int z8), .val (.int z9), .val (.int z10), .val (.ref b11), .unset, .unset] [(.int (1 : Int32)), (.int ((init.toUInt32 >>> ((6 : Int32) &&& 31).toUInt32).toInt32)), (.int (6 : Int32)), (.ref b11)])) _
    refine XS.iand X59.here hx rfl (hb hby at_168) rfl ?_
    show Steps p.tables e below (T59.setTop (mkF m 169 #[.val (.int init), .val (.int sq), .val (.int cnt), .val (.int fl), .val (.int z6), .val (.int ((cnt &&& (2147483647 : Int32)) % (5 : Int32))), .val (.int z7), .val (.int z8), .val (.int z9), .val (.int z10), .val (.ref b11), .unset, .unset] [(.int (((init.toUInt32 >>> ((6 : Int32) &&& 31).toUInt32).toInt32) &&& (1 : Int32))), (.int (6 : Int32)), (.ref b11)])) _
    exact kt
  have k64 : ∀ tg, Steps p.tables e below (T59.setTop (mkF m 177 #[.val (.int init), .val (.int sq), .val (.int cnt), .val (.int fl), .val (.int z6), .val (.int ((cnt &&& (2147483647 : Int32)) % (5 : Int32))), .val (.int z7), .val (.int z8), .val (.int z9), .val (.int z10), .val (.ref b11), .unset, .unset] [(.int (if (((init.toUInt32 >>> ((6 : Int32) &&& 31).toUInt32).toInt32) &&& (1 : Int32)) = (0 : Int32) then (0 : Int32) else (1 : Int32))), (.int (6 : Int32)), (.ref b11)])) tg → Steps p.tables e below (s₁.setTop (entryFrame m #[(.int init), (.int sq), (.int cnt), (.int fl)] maxLocals)) tg := by
    intro tg kt
    refine k60 tg ?_
    show Steps p.tables e below (T59.setTop (mkF m 169 #[.val (.int init), .val (.int sq), .val (.int cnt), .val (.int fl), .val (.int z6), .val (.int ((cnt &&& (2147483647 : Int32)) % (5 : Int32))), .val (.int z7), .val (.int z8), .val (.int z9), .val (.int z10), .val (.ref b11), .unset, .unset] [(.int (((init.toUInt32 >>> ((6 : Int32) &&& 31).toUInt32).toInt32) &&& (1 : Int32))), (.int (6 : Int32)), (.ref b11)])) _
    by_cases hc61 : (((init.toUInt32 >>> ((6 : Int32) &&& 31).toUInt32).toInt32) &&& (1 : Int32)) = (0 : Int32)
    · refine XS.ifYes X59.here hx rfl (pc0 := 169) (pc' := 176) rfl (hb hby at_169) rfl ((if0 _ _).trans (teq hc61).1) (by decide) (by decide) ?_
      show Steps p.tables e below (T59.setTop (mkF m 176 #[.val (.int init), .val (.int sq), .val (.int cnt), .val (.int fl), .val (.int z6), .val (.int ((cnt &&& (2147483647 : Int32)) % (5 : Int32))), .val (.int z7), .val (.int z8), .val (.int z9), .val (.int z10), .val (.ref b11), .unset, .unset] [(.int (6 : Int32)), (.ref b11)])) _
      refine XS.iconst X59.here hx rfl (hb hby at_176) ?_
      show Steps p.tables e below (T59.setTop (mkF m 177 #[.val (.int init), .val (.int sq), .val (.int cnt), .val (.int fl), .val (.int z6), .val (.int ((cnt &&& (2147483647 : Int32)) % (5 : Int32))), .val (.int z7), .val (.int z8), .val (.int z9), .val (.int z10), .val (.ref b11), .unset, .unset] [(.int (0 : Int32)), (.int (6 : Int32)), (.ref b11)])) _
      repeat rw [if_pos hc61] at kt
      exact kt
    · refine XS.ifNo X59.here hx rfl (hb hby at_169) rfl ((if0 _ _).trans (feq hc61).1) ?_
      show Steps p.tables e below (T59.setTop (mkF m 172 #[.val (.int init), .val (.int sq), .val (.int cnt), .val (.int fl), .val (.int z6), .val (.int ((cnt &&& (2147483647 : Int32)) % (5 : Int32))), .val (.int z7), .val (.int z8), .val (.int z9), .val (.int z10), .val (.ref b11), .unset, .unset] [(.int (6 : Int32)), (.ref b11)])) _
      refine XS.iconst X59.here hx rfl (hb hby at_172) ?_
      show Steps p.tables e below (T59.setTop (mkF m 173 #[.val (.int init), .val (.int sq), .val (.int cnt), .val (.int fl), .val (.int z6), .val (.int ((cnt &&& (2147483647 : Int32)) % (5 : Int32))), .val (.int z7), .val (.int z8), .val (.int z9), .val (.int z10), .val (.ref b11), .unset, .unset] [(.int (1 : Int32)), (.int (6 : Int32)), (.ref b11)])) _
      refine XS.goto X59.here hx rfl (pc0 := 173) (pc' := 177) rfl (hb hby at_173) (by decide) (by decide) ?_
      show Steps p.tables e below (T59.setTop (mkF m 177 #[.val (.int init), .val (.int sq), .val (.int cnt), .val (.int fl), .val (.int z6), .val (.int ((cnt &&& (2147483647 : Int32)) % (5 : Int32))), .val (.int z7), .val (.int z8), .val (.int z9), .val (.int z10), .val (.ref b11), .unset, .unset] [(.int (1 : Int32)), (.int (6 : Int32)), (.ref b11)])) _
      repeat rw [if_neg hc61] at kt
      exact kt
  obtain ⟨z65, ez65⟩ : ∃ z : Int32, z = (if (((init.toUInt32 >>> ((6 : Int32) &&& 31).toUInt32).toInt32) &&& (1 : Int32)) = (0 : Int32) then (0 : Int32) else (1 : Int32)) := ⟨_, rfl⟩
  obtain ⟨cl177_66, Ar177_66, q177_66, S177_66, N177_66_, H177_66, G177_66⟩ := id V59_b11
  have hin177_66 : ¬ ((6 : Int32) < 0 ∨ cl177_66.slots.size ≤ ((6 : Int32)).toNatClampNeg) := inb_of S177_66 ⟨by decide, by decide⟩
  obtain ⟨T67, h67, X67, e67, W67, st67⟩ := stZ X59 hx hZ e59 Ar177_66 (j := (6 : Int32)) hin177_66 (g := (mkF m 177 #[.val (.int init), .val (.int sq), .val (.int cnt), .val (.int fl), .val (.int z6), .val (.int ((cnt &&& (2147483647 : Int32)) % (5 : Int32))), .val (.int z7), .val (.int z8), .val (.int z9), .val (.int z10), .val (.ref b11), .unset, .unset] [(.int z65), (.int (6 : Int32)), (.ref b11)])) rfl rfl (hb hby at_177)
  have Z67 := Nat.le_trans Z59 (Keep.of_wr W67).1
  have KP67 := KP59.wr W67 (Or.inr sz_b11)
  have N67 := Fr.snoc X67 N59 g_b11
  have V67_b11 : Arv Z h67 b11 c11 .boolean (8 : Int32) [(.int (nar .boolean z17)), (.int (nar .boolean z25)), (.int (nar .boolean z33)), (.int (nar .boolean z41)), (.int (nar .boolean z49)), (.int (nar .boolean z57)), (.int (nar .boolean z65)), (.int (0 : Int32))] (.int (0 : Int32)) := Arv.set Ar177_66 q177_66 S177_66 N177_66_ H177_66 G177_66 (fits_nar_bool _) W67 6 rfl (Nat.le_of_ble_eq_true rfl)
  have k68 : ∀ tg, Steps p.tables e below (T67.setTop (mkF m 188 #[.val (.int init), .val (.int sq), .val (.int cnt), .val (.int fl), .val (.int z6), .val (.int ((cnt &&& (2147483647 : Int32)) % (5 : Int32))), .val (.int z7), .val (.int z8), .val (.int z9), .val (.int z10), .val (.ref b11), .unset, .unset] [(.int (((init.toUInt32 >>> ((7 : Int32) &&& 31).toUInt32).toInt32) &&& (1 : Int32))), (.int (7 : Int32)), (.ref b11)])) tg → Steps p.tables e below (s₁.setTop (entryFrame m #[(.int init), (.int sq), (.int cnt), (.int fl)] maxLocals)) tg := by
    intro tg kt
    refine k64 tg ?_
    show Steps p.tables e below (T59.setTop (mkF m 177 #[.val (.int init), .val (.int sq), .val (.int cnt), .val (.int fl), .val (.int z6), .val (.int ((cnt &&& (2147483647 : Int32)) % (5 : Int32))), .val (.int z7), .val (.int z8), .val (.int z9), .val (.int z10), .val (.ref b11), .unset, .unset] [(.int (if (((init.toUInt32 >>> ((6 : Int32) &&& 31).toUInt32).toInt32) &&& (1 : Int32)) = (0 : Int32) then (0 : Int32) else (1 : Int32))), (.int (6 : Int32)), (.ref b11)])) _
    rw [← ez65]
    show Steps p.tables e below (T59.setTop (mkF m 177 #[.val (.int init), .val (.int sq), .val (.int cnt), .val (.int fl), .val (.int z6), .val (.int ((cnt &&& (2147483647 : Int32)) % (5 : Int32))), .val (.int z7), .val (.int z8), .val (.int z9), .val (.int z10), .val (.ref b11), .unset, .unset] [(.int z65), (.int (6 : Int32)), (.ref b11)])) _
    refine st67 _ ?_
    show Steps p.tables e below (T67.setTop (mkF m 178 #[.val (.int init), .val (.int sq), .val (.int cnt), .val (.int fl), .val (.int z6), .val (.int ((cnt &&& (2147483647 : Int32)) % (5 : Int32))), .val (.int z7), .val (.int z8), .val (.int z9), .val (.int z10), .val (.ref b11), .unset, .unset] [])) _
    refine XS.aload X67.here hx rfl (hb hby at_178) rfl rfl ?_
    show Steps p.tables e below (T67.setTop (mkF m 180 #[.val (.int init), .val (.int sq), .val (.int cnt), .val (.int fl), .val (.int z6), .val (.int ((cnt &&& (2147483647 : Int32)) % (5 : Int32))), .val (.int z7), .val (.int z8), .val (.int z9), .val (.int z10), .val (.ref b11), .unset, .unset] [(.ref b11)])) _
    refine XS.bipush X67.here hx rfl (hb hby at_180) ?_
    show Steps p.tables e below (T67.setTop (mkF m 182 #[.val (.int init), .val (.int sq), .val (.int cnt), .val (.int fl), .val (.int z6), .val (.int ((cnt &&& (2147483647 : Int32)) % (5 : Int32))), .val (.int z7), .val (.int z8), .val (.int z9), .val (.int z10), .val (.ref b11), .unset, .unset] [(.int (7 : Int32)), (.ref b11)])) _
    refine XS.iloadN X67.here hx rfl (hb hby at_182) rfl ?_
    show Steps p.tables e below (T67.setTop (mkF m 183 #[.val (.int init), .val (.int sq), .val (.int cnt), .val (.int fl), .val (.int z6), .val (.int ((cnt &&& (2147483647 : Int32)) % (5 : Int32))), .val (.int z7), .val (.int z8), .val (.int z9), .val (.int z10), .val (.ref b11), .unset, .unset] [(.int init), (.int (7 : Int32)), (.ref b11)])) _
    refine XS.bipush X67.here hx rfl (hb hby at_183) ?_
    show Steps p.tables e below (T67.setTop (mkF m 185 #[.val (.int init), .val (.int sq), .val (.int cnt), .val (.int fl), .val (.int z6), .val (.int ((cnt &&& (2147483647 : Int32)) % (5 : Int32))), .val (.int z7), .val (.int z8), .val (.int z9), .val (.int z10), .val (.ref b11), .unset, .unset] [(.int (7 : Int32)), (.int init), (.int (7 : Int32)), (.ref b11)])) _
    refine XS.iushr X67.here hx rfl (hb hby at_185) rfl ?_
    show Steps p.tables e below (T67.setTop (mkF m 186 #[.val (.int init), .val (.int sq), .val (.int cnt), .val (.int fl), .val (.int z6), .val (.int ((cnt &&& (2147483647 : Int32)) % (5 : Int32))), .val (.int z7), .val (.int z8), .val (.int z9), .val (.int z10), .val (.ref b11), .unset, .unset] [(.int ((init.toUInt32 >>> ((7 : Int32) &&& 31).toUInt32).toInt32)), (.int (7 : Int32)), (.ref b11)])) _
    refine XS.iconst X67.here hx rfl (hb hby at_186) ?_
    show Steps p.tables e below (T67.setTop (mkF m 187 #[.val (.int init), .val (.int sq), .val (.int cnt), .val (.int fl), .val (.int z6), .val (.int ((cnt &&& (2147483647 : Int32)) % (5 : Int32))), .val (.int z7), .val (.int z8), .val (.int z9), .val (.int z10), .val (.ref b11), .unset, .unset] [(.int (1 : Int32)), (.int ((init.toUInt32 >>> ((7 : Int32) &&& 31).toUInt32).toInt32)), (.int (7 : Int32)), (.ref b11)])) _
    refine XS.iand X67.here hx rfl (hb hby at_187) rfl ?_
    show Steps p.tables e below (T67.setTop (mkF m 188 #[.val (.int init), .val (.int sq), .val (.int cnt), .val (.int fl), .val (.int z6), .val (.int ((cnt &&& (2147483647 : Int32)) % (5 : Int32))), .val (.int z7), .val (.int z8), .val (.int z9), .val (.int z10), .val (.ref b11), .unset, .unset] [(.int (((init.toUInt32 >>> ((7 : Int32) &&& 31).toUInt32).toInt32) &&& (1 : Int32))), (.int (7 : Int32)), (.ref b11)])) _
    exact kt
  have k72 : ∀ tg, Steps p.tables e below (T67.setTop (mkF m 196 #[.val (.int init), .val (.int sq), .val (.int cnt), .val (.int fl), .val (.int z6), .val (.int ((cnt &&& (2147483647 : Int32)) % (5 : Int32))), .val (.int z7), .val (.int z8), .val (.int z9), .val (.int z10), .val (.ref b11), .unset, .unset] [(.int (if (((init.toUInt32 >>> ((7 : Int32) &&& 31).toUInt32).toInt32) &&& (1 : Int32)) = (0 : Int32) then (0 : Int32) else (1 : Int32))), (.int (7 : Int32)), (.ref b11)])) tg → Steps p.tables e below (s₁.setTop (entryFrame m #[(.int init), (.int sq), (.int cnt), (.int fl)] maxLocals)) tg := by
    intro tg kt
    refine k68 tg ?_
    show Steps p.tables e below (T67.setTop (mkF m 188 #[.val (.int init), .val (.int sq), .val (.int cnt), .val (.int fl), .val (.int z6), .val (.int ((cnt &&& (2147483647 : Int32)) % (5 : Int32))), .val (.int z7), .val (.int z8), .val (.int z9), .val (.int z10), .val (.ref b11), .unset, .unset] [(.int (((init.toUInt32 >>> ((7 : Int32) &&& 31).toUInt32).toInt32) &&& (1 : Int32))), (.int (7 : Int32)), (.ref b11)])) _
    by_cases hc69 : (((init.toUInt32 >>> ((7 : Int32) &&& 31).toUInt32).toInt32) &&& (1 : Int32)) = (0 : Int32)
    · refine XS.ifYes X67.here hx rfl (pc0 := 188) (pc' := 195) rfl (hb hby at_188) rfl ((if0 _ _).trans (teq hc69).1) (by decide) (by decide) ?_
      show Steps p.tables e below (T67.setTop (mkF m 195 #[.val (.int init), .val (.int sq), .val (.int cnt), .val (.int fl), .val (.int z6), .val (.int ((cnt &&& (2147483647 : Int32)) % (5 : Int32))), .val (.int z7), .val (.int z8), .val (.int z9), .val (.int z10), .val (.ref b11), .unset, .unset] [(.int (7 : Int32)), (.ref b11)])) _
      refine XS.iconst X67.here hx rfl (hb hby at_195) ?_
      show Steps p.tables e below (T67.setTop (mkF m 196 #[.val (.int init), .val (.int sq), .val (.int cnt), .val (.int fl), .val (.int z6), .val (.int ((cnt &&& (2147483647 : Int32)) % (5 : Int32))), .val (.int z7), .val (.int z8), .val (.int z9), .val (.int z10), .val (.ref b11), .unset, .unset] [(.int (0 : Int32)), (.int (7 : Int32)), (.ref b11)])) _
      repeat rw [if_pos hc69] at kt
      exact kt
    · refine XS.ifNo X67.here hx rfl (hb hby at_188) rfl ((if0 _ _).trans (feq hc69).1) ?_
      show Steps p.tables e below (T67.setTop (mkF m 191 #[.val (.int init), .val (.int sq), .val (.int cnt), .val (.int fl), .val (.int z6), .val (.int ((cnt &&& (2147483647 : Int32)) % (5 : Int32))), .val (.int z7), .val (.int z8), .val (.int z9), .val (.int z10), .val (.ref b11), .unset, .unset] [(.int (7 : Int32)), (.ref b11)])) _
      refine XS.iconst X67.here hx rfl (hb hby at_191) ?_
      show Steps p.tables e below (T67.setTop (mkF m 192 #[.val (.int init), .val (.int sq), .val (.int cnt), .val (.int fl), .val (.int z6), .val (.int ((cnt &&& (2147483647 : Int32)) % (5 : Int32))), .val (.int z7), .val (.int z8), .val (.int z9), .val (.int z10), .val (.ref b11), .unset, .unset] [(.int (1 : Int32)), (.int (7 : Int32)), (.ref b11)])) _
      refine XS.goto X67.here hx rfl (pc0 := 192) (pc' := 196) rfl (hb hby at_192) (by decide) (by decide) ?_
      show Steps p.tables e below (T67.setTop (mkF m 196 #[.val (.int init), .val (.int sq), .val (.int cnt), .val (.int fl), .val (.int z6), .val (.int ((cnt &&& (2147483647 : Int32)) % (5 : Int32))), .val (.int z7), .val (.int z8), .val (.int z9), .val (.int z10), .val (.ref b11), .unset, .unset] [(.int (1 : Int32)), (.int (7 : Int32)), (.ref b11)])) _
      repeat rw [if_neg hc69] at kt
      exact kt
  obtain ⟨z73, ez73⟩ : ∃ z : Int32, z = (if (((init.toUInt32 >>> ((7 : Int32) &&& 31).toUInt32).toInt32) &&& (1 : Int32)) = (0 : Int32) then (0 : Int32) else (1 : Int32)) := ⟨_, rfl⟩
  obtain ⟨cl196_74, Ar196_74, q196_74, S196_74, N196_74_, H196_74, G196_74⟩ := id V67_b11
  have hin196_74 : ¬ ((7 : Int32) < 0 ∨ cl196_74.slots.size ≤ ((7 : Int32)).toNatClampNeg) := inb_of S196_74 ⟨by decide, by decide⟩
  obtain ⟨T75, h75, X75, e75, W75, st75⟩ := stZ X67 hx hZ e67 Ar196_74 (j := (7 : Int32)) hin196_74 (g := (mkF m 196 #[.val (.int init), .val (.int sq), .val (.int cnt), .val (.int fl), .val (.int z6), .val (.int ((cnt &&& (2147483647 : Int32)) % (5 : Int32))), .val (.int z7), .val (.int z8), .val (.int z9), .val (.int z10), .val (.ref b11), .unset, .unset] [(.int z73), (.int (7 : Int32)), (.ref b11)])) rfl rfl (hb hby at_196)
  have Z75 := Nat.le_trans Z67 (Keep.of_wr W75).1
  have KP75 := KP67.wr W75 (Or.inr sz_b11)
  have N75 := Fr.snoc X75 N67 g_b11
  have V75_b11 : Arv Z h75 b11 c11 .boolean (8 : Int32) [(.int (nar .boolean z17)), (.int (nar .boolean z25)), (.int (nar .boolean z33)), (.int (nar .boolean z41)), (.int (nar .boolean z49)), (.int (nar .boolean z57)), (.int (nar .boolean z65)), (.int (nar .boolean z73))] (.int (0 : Int32)) := Arv.set Ar196_74 q196_74 S196_74 N196_74_ H196_74 G196_74 (fits_nar_bool _) W75 7 rfl (Nat.le_of_ble_eq_true rfl)
  have k76 : ∀ tg, Steps p.tables e below (T75.setTop (mkF m 197 #[.val (.int init), .val (.int sq), .val (.int cnt), .val (.int fl), .val (.int z6), .val (.int ((cnt &&& (2147483647 : Int32)) % (5 : Int32))), .val (.int z7), .val (.int z8), .val (.int z9), .val (.int z10), .val (.ref b11), .unset, .unset] [])) tg → Steps p.tables e below (s₁.setTop (entryFrame m #[(.int init), (.int sq), (.int cnt), (.int fl)] maxLocals)) tg := by
    intro tg kt
    refine k72 tg ?_
    show Steps p.tables e below (T67.setTop (mkF m 196 #[.val (.int init), .val (.int sq), .val (.int cnt), .val (.int fl), .val (.int z6), .val (.int ((cnt &&& (2147483647 : Int32)) % (5 : Int32))), .val (.int z7), .val (.int z8), .val (.int z9), .val (.int z10), .val (.ref b11), .unset, .unset] [(.int (if (((init.toUInt32 >>> ((7 : Int32) &&& 31).toUInt32).toInt32) &&& (1 : Int32)) = (0 : Int32) then (0 : Int32) else (1 : Int32))), (.int (7 : Int32)), (.ref b11)])) _
    rw [← ez73]
    show Steps p.tables e below (T67.setTop (mkF m 196 #[.val (.int init), .val (.int sq), .val (.int cnt), .val (.int fl), .val (.int z6), .val (.int ((cnt &&& (2147483647 : Int32)) % (5 : Int32))), .val (.int z7), .val (.int z8), .val (.int z9), .val (.int z10), .val (.ref b11), .unset, .unset] [(.int z73), (.int (7 : Int32)), (.ref b11)])) _
    refine st75 _ ?_
    show Steps p.tables e below (T75.setTop (mkF m 197 #[.val (.int init), .val (.int sq), .val (.int cnt), .val (.int fl), .val (.int z6), .val (.int ((cnt &&& (2147483647 : Int32)) % (5 : Int32))), .val (.int z7), .val (.int z8), .val (.int z9), .val (.int z10), .val (.ref b11), .unset, .unset] [])) _
    exact kt
  rcases own_rem5 _ with hn | hn | hn | hn | hn
  · obtain ⟨_, _, ⟨T77, L77, k77, n77⟩, -, X77, ⟨Lc77, hQ77, l77, y77, z77⟩, st77⟩ := Jvm.LawKit.callS X75 hx (y := (⟨"pushwise/BoxesPlacePinLaw", "boxesOf", "(IIIII)[I"⟩ : MethodName)) hown (mvT hZ (hw _ (List.mem_of_getElem? (i := 2) rfl))) (mvT hZ (hw _ (List.mem_of_getElem? (i := 3) rfl))) (mvT hZ (hw _ (List.mem_of_getElem? (i := 4) rfl))) (mvT hZ (hw _ (List.mem_of_getElem? (i := 5) rfl))) (by decide) (backOf (W := 0) (rmBox0 l Z a0 hw [] z7 z8 z9 z10  h75 n0 Z75) hZ (hw _ (List.mem_of_getElem? (i := 5) rfl)) (hw _ (List.mem_of_getElem? (i := 4) rfl)) (by decide) (by decide)) (g := (mkF m 207 #[.val (.int init), .val (.int sq), .val (.int cnt), .val (.int fl), .val (.int z6), .val (.int (0 : Int32)), .val (.int z7), .val (.int z8), .val (.int z9), .val (.int z10), .val (.ref b11), .unset, .unset] [(.int z10), (.int z9), (.int z8), (.int z7), (.int (0 : Int32))])) rfl (by rw [hml]; rfl) (argsL := [(.int (0 : Int32)), (.int z7), (.int z8), (.int z9), (.int z10)]) (rest := []) (lenOf pd_0 rfl) rfl (by show 2 * 0 + _ ≤ _; exact Nat.le_of_eq rfl) (hb hby at_207) (fun _ _ => ⟨rfl, e75, (by decide : 1 + 1 ≤ _), (by decide : 8 + 0 ≤ _)⟩)
    dsimp only [Pt.U, Pt.locs, Pt.cells, Pt.slots] at X77 l77 y77 z77 st77 hQ77
    subst l77 y77 z77
    obtain ⟨N77q, K77, bx77, cc77, rfl, le77, Va77⟩ := hQ77
    have N77 := Fr.app N75 N77q
    have ne_b11_bx77 : b11 ≠ bx77 := Nat.ne_of_lt (Nat.lt_of_lt_of_le V75_b11.lt le77)
    have g_bx77 : n0 ≤ bx77 := Nat.le_trans Z75 le77
    have sz_bx77 : h0.size ≤ bx77 := Nat.le_trans KP75.1 le77
    have V77_b11 := V75_b11.keep K77 nin0
    have Z77 := Nat.le_trans Z75 K77.1
    have KP77 := KP75.trans K77 all0
    obtain ⟨_, _, ⟨T78, L78, k78, n78⟩, -, X78, ⟨Lc78, hQ78, l78, y78, z78⟩, st78⟩ := Jvm.LawKit.callS X77 hx (y := (⟨"pushwise/Boxes", "place", "([Z[IZ)V"⟩ : MethodName)) hown (mvT hZ (hw _ (List.mem_of_getElem? (i := 7) rfl))) (mvT hZ (hw _ (List.mem_of_getElem? (i := 8) rfl))) (mvT hZ (hw _ (List.mem_of_getElem? (i := 9) rfl))) (mvT hZ (hw _ (List.mem_of_getElem? (i := 10) rfl))) (by decide) (backOf (W := 0) (rmPlace0 l Z a0 hw [] b11 bx77 z6 c11 cc77 [(.int (nar .boolean z17)), (.int (nar .boolean z25)), (.int (nar .boolean z33)), (.int (nar .boolean z41)), (.int (nar .boolean z49)), (.int (nar .boolean z57)), (.int (nar .boolean z65)), (.int (nar .boolean z73))]  T77.heap n0 Z77 V77_b11 rfl Va77 ne_b11_bx77 g_b11 ) hZ (hw _ (List.mem_of_getElem? (i := 10) rfl)) (hw _ (List.mem_of_getElem? (i := 9) rfl)) (by decide) (by decide)) (g := (mkF m 218 #[.val (.int init), .val (.int sq), .val (.int cnt), .val (.int fl), .val (.int z6), .val (.int (0 : Int32)), .val (.int z7), .val (.int z8), .val (.int z9), .val (.int z10), .val (.ref b11), .val (.ref bx77), .unset] [(.int z6), (.ref bx77), (.ref b11)])) rfl (by rw [hml]; rfl) (argsL := [(.ref b11), (.ref bx77), (.int z6)]) (rest := []) (lenOf pd_1 rfl) rfl (by show 2 * 0 + _ ≤ _; exact Nat.le_of_eq rfl) (hb hby at_218) (fun _ _ => ⟨rfl, rfl, (by decide : 2 + 0 ≤ _), (by decide : 8 + 0 ≤ _)⟩)
    dsimp only [Pt.U, Pt.locs, Pt.cells, Pt.slots] at X78 l78 y78 z78 st78 hQ78
    subst l78 y78 z78
    obtain ⟨Lm78, eLm78⟩ : ∃ z : List Value, z = [(.int (nar .boolean z17)), (.int (nar .boolean z25)), (.int (nar .boolean z33)), (.int (nar .boolean z41)), (.int (nar .boolean z49)), (.int (nar .boolean z57)), (.int (nar .boolean z65)), (.int (nar .boolean z73))] := ⟨_, rfl⟩
    obtain ⟨rfl, N78q, K78, Vq78⟩ := hQ78
    rw [← eLm78] at Vq78
    have N78 := Fr.app N77 N78q
    have V78_bx77 := Va77.keep K78 (ninS (Ne.symm ne_b11_bx77) nin0)
    have Z78 := Nat.le_trans Z77 K78.1
    have KP78 := KP77.trans K78 (allS (Or.inr sz_b11) all0)
    obtain ⟨cl223_79, Ar223_79, q223_79, S223_79, N223_79_, H223_79, G223_79⟩ := id V78_bx77
    have hd80 : (0 : Int32) = (0 : Int32) := rfl
    have hd81 : (0 : Int32) < (1 : Int32) := by decide
    have hd82 : (0 : Int32) < (2 : Int32) := by decide
    have hd83 : (0 : Int32) < (3 : Int32) := by decide
    have hd84 : (0 : Int32) < (4 : Int32) := by decide
    have hd85 : ¬ ((1 : Int32) = (0 : Int32)) := by decide
    obtain ⟨xv86, exv86⟩ : ∃ z : Int32, z = ((nar .boolean z17)) := ⟨_, rfl⟩
    have hgxv86 : Lm78.getD ((0 : Int32)).toNatClampNeg (.int (0 : Int32)) = .int xv86 := by
      rw [exv86, eLm78]
      rfl
    obtain ⟨_, _, ⟨T87, L87, k87, n87⟩, -, X87, ⟨Lc87, hQ87, l87, y87, z87⟩, st87⟩ := Jvm.LawKit.callS X78 hx (y := (⟨"pushwise/BoxesPlacePinLaw", "at", "([ZIIIIIIIZ)Z"⟩ : MethodName)) hown (mvT hZ (hw _ (List.mem_of_getElem? (i := 11) rfl))) (mvT hZ (hw _ (List.mem_of_getElem? (i := 12) rfl))) (mvT hZ (hw _ (List.mem_of_getElem? (i := 4) rfl))) (mvT hZ (hw _ (List.mem_of_getElem? (i := 13) rfl))) (by decide) (backOf (W := 0) (rmAt l Z a0 hw [] b11 (0 : Int32) init (0 : Int32) z7 z8 z9 z10 z6 c11 Lm78 xv86 T78.heap n0 Vq78 (by decide) (by decide) hgxv86) hZ (hw _ (List.mem_of_getElem? (i := 13) rfl)) (hw _ (List.mem_of_getElem? (i := 4) rfl)) (by decide) (by decide)) (g := (mkF m 317 #[.val (.int init), .val (.int sq), .val (.int cnt), .val (.int fl), .val (.int z6), .val (.int (0 : Int32)), .val (.int z7), .val (.int z8), .val (.int z9), .val (.int z10), .val (.ref b11), .val (.ref bx77), .val (.int (1 : Int32))] [(.int z6), (.int z10), (.int z9), (.int z8), (.int z7), (.int (0 : Int32)), (.int init), (.int (0 : Int32)), (.ref b11)])) rfl (by rw [hml]; rfl) (argsL := [(.ref b11), (.int (0 : Int32)), (.int init), (.int (0 : Int32)), (.int z7), (.int z8), (.int z9), (.int z10), (.int z6)]) (rest := []) (lenOf pd_2 rfl) rfl (by show 2 * 0 + _ ≤ _; exact Nat.le_of_eq rfl) (hb hby at_317) (fun _ _ => ⟨rfl, rfl, (by decide : 2 + 0 ≤ _), (by decide : 8 + 0 ≤ _)⟩)
    dsimp only [Pt.U, Pt.locs, Pt.cells, Pt.slots] at X87 l87 y87 z87 st87 hQ87
    subst l87 y87 z87
    obtain ⟨rfl, N87q, e87⟩ := hQ87
    have N87 := Fr.app N78 N87q
    have hd88 : ¬ ((atF (0 : Int32) init (0 : Int32) z7 z8 z9 z10 z6 xv86) = (0 : Int32)) := own_at0 _ _ _ _ _ _ _ z17 _ (by rw [ez17, own_ushr0]) (by rw [exv86]; simp only [show nar .boolean z6 = z6 by rw [ez6]; exact own_nar01 _, show nar .boolean z17 = z17 by rw [ez17]; exact own_nar01 _])
    obtain ⟨xv89, exv89⟩ : ∃ z : Int32, z = ((nar .boolean z25)) := ⟨_, rfl⟩
    have hgxv89 : Lm78.getD ((1 : Int32)).toNatClampNeg (.int (0 : Int32)) = .int xv89 := by
      rw [exv89, eLm78]
      rfl
    obtain ⟨_, _, ⟨T90, L90, k90, n90⟩, -, X90, ⟨Lc90, hQ90, l90, y90, z90⟩, st90⟩ := Jvm.LawKit.callS X87 hx (y := (⟨"pushwise/BoxesPlacePinLaw", "at", "([ZIIIIIIIZ)Z"⟩ : MethodName)) hown (mvT hZ (hw _ (List.mem_of_getElem? (i := 11) rfl))) (mvT hZ (hw _ (List.mem_of_getElem? (i := 12) rfl))) (mvT hZ (hw _ (List.mem_of_getElem? (i := 4) rfl))) (mvT hZ (hw _ (List.mem_of_getElem? (i := 13) rfl))) (by decide) (backOf (W := 0) (rmAt l Z a0 hw [] b11 (1 : Int32) init (0 : Int32) z7 z8 z9 z10 z6 c11 Lm78 xv89 T78.heap n0 Vq78 (by decide) (by decide) hgxv89) hZ (hw _ (List.mem_of_getElem? (i := 13) rfl)) (hw _ (List.mem_of_getElem? (i := 4) rfl)) (by decide) (by decide)) (g := (mkF m 339 #[.val (.int init), .val (.int sq), .val (.int cnt), .val (.int fl), .val (.int z6), .val (.int (0 : Int32)), .val (.int z7), .val (.int z8), .val (.int z9), .val (.int z10), .val (.ref b11), .val (.ref bx77), .val (.int (1 : Int32))] [(.int z6), (.int z10), (.int z9), (.int z8), (.int z7), (.int (0 : Int32)), (.int init), (.int (1 : Int32)), (.ref b11)])) rfl (by rw [hml]; rfl) (argsL := [(.ref b11), (.int (1 : Int32)), (.int init), (.int (0 : Int32)), (.int z7), (.int z8), (.int z9), (.int z10), (.int z6)]) (rest := []) (lenOf pd_2 rfl) rfl (by show 2 * 0 + _ ≤ _; exact Nat.le_of_eq rfl) (hb hby at_339) (fun _ _ => ⟨rfl, e87, (by decide : 2 + 0 ≤ _), (by decide : 8 + 0 ≤ _)⟩)
    dsimp only [Pt.U, Pt.locs, Pt.cells, Pt.slots] at X90 l90 y90 z90 st90 hQ90
    subst l90 y90 z90
    obtain ⟨rfl, N90q, e90⟩ := hQ90
    have N90 := Fr.app N87 N90q
    have hd91 : ¬ ((atF (1 : Int32) init (0 : Int32) z7 z8 z9 z10 z6 xv89) = (0 : Int32)) := own_at0 _ _ _ _ _ _ _ z25 _ (by rw [ez25]) (by rw [exv89]; simp only [show nar .boolean z6 = z6 by rw [ez6]; exact own_nar01 _, show nar .boolean z25 = z25 by rw [ez25]; exact own_nar01 _])
    obtain ⟨xv92, exv92⟩ : ∃ z : Int32, z = ((nar .boolean z33)) := ⟨_, rfl⟩
    have hgxv92 : Lm78.getD ((2 : Int32)).toNatClampNeg (.int (0 : Int32)) = .int xv92 := by
      rw [exv92, eLm78]
      rfl
    obtain ⟨_, _, ⟨T93, L93, k93, n93⟩, -, X93, ⟨Lc93, hQ93, l93, y93, z93⟩, st93⟩ := Jvm.LawKit.callS X90 hx (y := (⟨"pushwise/BoxesPlacePinLaw", "at", "([ZIIIIIIIZ)Z"⟩ : MethodName)) hown (mvT hZ (hw _ (List.mem_of_getElem? (i := 11) rfl))) (mvT hZ (hw _ (List.mem_of_getElem? (i := 12) rfl))) (mvT hZ (hw _ (List.mem_of_getElem? (i := 4) rfl))) (mvT hZ (hw _ (List.mem_of_getElem? (i := 13) rfl))) (by decide) (backOf (W := 0) (rmAt l Z a0 hw [] b11 (2 : Int32) init (0 : Int32) z7 z8 z9 z10 z6 c11 Lm78 xv92 T78.heap n0 Vq78 (by decide) (by decide) hgxv92) hZ (hw _ (List.mem_of_getElem? (i := 13) rfl)) (hw _ (List.mem_of_getElem? (i := 4) rfl)) (by decide) (by decide)) (g := (mkF m 361 #[.val (.int init), .val (.int sq), .val (.int cnt), .val (.int fl), .val (.int z6), .val (.int (0 : Int32)), .val (.int z7), .val (.int z8), .val (.int z9), .val (.int z10), .val (.ref b11), .val (.ref bx77), .val (.int (1 : Int32))] [(.int z6), (.int z10), (.int z9), (.int z8), (.int z7), (.int (0 : Int32)), (.int init), (.int (2 : Int32)), (.ref b11)])) rfl (by rw [hml]; rfl) (argsL := [(.ref b11), (.int (2 : Int32)), (.int init), (.int (0 : Int32)), (.int z7), (.int z8), (.int z9), (.int z10), (.int z6)]) (rest := []) (lenOf pd_2 rfl) rfl (by show 2 * 0 + _ ≤ _; exact Nat.le_of_eq rfl) (hb hby at_361) (fun _ _ => ⟨rfl, e90, (by decide : 2 + 0 ≤ _), (by decide : 8 + 0 ≤ _)⟩)
    dsimp only [Pt.U, Pt.locs, Pt.cells, Pt.slots] at X93 l93 y93 z93 st93 hQ93
    subst l93 y93 z93
    obtain ⟨rfl, N93q, e93⟩ := hQ93
    have N93 := Fr.app N90 N93q
    have hd94 : ¬ ((atF (2 : Int32) init (0 : Int32) z7 z8 z9 z10 z6 xv92) = (0 : Int32)) := own_at0 _ _ _ _ _ _ _ z33 _ (by rw [ez33]) (by rw [exv92]; simp only [show nar .boolean z6 = z6 by rw [ez6]; exact own_nar01 _, show nar .boolean z33 = z33 by rw [ez33]; exact own_nar01 _])
    obtain ⟨xv95, exv95⟩ : ∃ z : Int32, z = ((nar .boolean z41)) := ⟨_, rfl⟩
    have hgxv95 : Lm78.getD ((3 : Int32)).toNatClampNeg (.int (0 : Int32)) = .int xv95 := by
      rw [exv95, eLm78]
      rfl
    obtain ⟨_, _, ⟨T96, L96, k96, n96⟩, -, X96, ⟨Lc96, hQ96, l96, y96, z96⟩, st96⟩ := Jvm.LawKit.callS X93 hx (y := (⟨"pushwise/BoxesPlacePinLaw", "at", "([ZIIIIIIIZ)Z"⟩ : MethodName)) hown (mvT hZ (hw _ (List.mem_of_getElem? (i := 11) rfl))) (mvT hZ (hw _ (List.mem_of_getElem? (i := 12) rfl))) (mvT hZ (hw _ (List.mem_of_getElem? (i := 4) rfl))) (mvT hZ (hw _ (List.mem_of_getElem? (i := 13) rfl))) (by decide) (backOf (W := 0) (rmAt l Z a0 hw [] b11 (3 : Int32) init (0 : Int32) z7 z8 z9 z10 z6 c11 Lm78 xv95 T78.heap n0 Vq78 (by decide) (by decide) hgxv95) hZ (hw _ (List.mem_of_getElem? (i := 13) rfl)) (hw _ (List.mem_of_getElem? (i := 4) rfl)) (by decide) (by decide)) (g := (mkF m 383 #[.val (.int init), .val (.int sq), .val (.int cnt), .val (.int fl), .val (.int z6), .val (.int (0 : Int32)), .val (.int z7), .val (.int z8), .val (.int z9), .val (.int z10), .val (.ref b11), .val (.ref bx77), .val (.int (1 : Int32))] [(.int z6), (.int z10), (.int z9), (.int z8), (.int z7), (.int (0 : Int32)), (.int init), (.int (3 : Int32)), (.ref b11)])) rfl (by rw [hml]; rfl) (argsL := [(.ref b11), (.int (3 : Int32)), (.int init), (.int (0 : Int32)), (.int z7), (.int z8), (.int z9), (.int z10), (.int z6)]) (rest := []) (lenOf pd_2 rfl) rfl (by show 2 * 0 + _ ≤ _; exact Nat.le_of_eq rfl) (hb hby at_383) (fun _ _ => ⟨rfl, e93, (by decide : 2 + 0 ≤ _), (by decide : 8 + 0 ≤ _)⟩)
    dsimp only [Pt.U, Pt.locs, Pt.cells, Pt.slots] at X96 l96 y96 z96 st96 hQ96
    subst l96 y96 z96
    obtain ⟨rfl, N96q, e96⟩ := hQ96
    have N96 := Fr.app N93 N96q
    have hd97 : ¬ ((atF (3 : Int32) init (0 : Int32) z7 z8 z9 z10 z6 xv95) = (0 : Int32)) := own_at0 _ _ _ _ _ _ _ z41 _ (by rw [ez41]) (by rw [exv95]; simp only [show nar .boolean z6 = z6 by rw [ez6]; exact own_nar01 _, show nar .boolean z41 = z41 by rw [ez41]; exact own_nar01 _])
    obtain ⟨xv98, exv98⟩ : ∃ z : Int32, z = ((nar .boolean z49)) := ⟨_, rfl⟩
    have hgxv98 : Lm78.getD ((4 : Int32)).toNatClampNeg (.int (0 : Int32)) = .int xv98 := by
      rw [exv98, eLm78]
      rfl
    obtain ⟨_, _, ⟨T99, L99, k99, n99⟩, -, X99, ⟨Lc99, hQ99, l99, y99, z99⟩, st99⟩ := Jvm.LawKit.callS X96 hx (y := (⟨"pushwise/BoxesPlacePinLaw", "at", "([ZIIIIIIIZ)Z"⟩ : MethodName)) hown (mvT hZ (hw _ (List.mem_of_getElem? (i := 11) rfl))) (mvT hZ (hw _ (List.mem_of_getElem? (i := 12) rfl))) (mvT hZ (hw _ (List.mem_of_getElem? (i := 4) rfl))) (mvT hZ (hw _ (List.mem_of_getElem? (i := 13) rfl))) (by decide) (backOf (W := 0) (rmAt l Z a0 hw [] b11 (4 : Int32) init (0 : Int32) z7 z8 z9 z10 z6 c11 Lm78 xv98 T78.heap n0 Vq78 (by decide) (by decide) hgxv98) hZ (hw _ (List.mem_of_getElem? (i := 13) rfl)) (hw _ (List.mem_of_getElem? (i := 4) rfl)) (by decide) (by decide)) (g := (mkF m 405 #[.val (.int init), .val (.int sq), .val (.int cnt), .val (.int fl), .val (.int z6), .val (.int (0 : Int32)), .val (.int z7), .val (.int z8), .val (.int z9), .val (.int z10), .val (.ref b11), .val (.ref bx77), .val (.int (1 : Int32))] [(.int z6), (.int z10), (.int z9), (.int z8), (.int z7), (.int (0 : Int32)), (.int init), (.int (4 : Int32)), (.ref b11)])) rfl (by rw [hml]; rfl) (argsL := [(.ref b11), (.int (4 : Int32)), (.int init), (.int (0 : Int32)), (.int z7), (.int z8), (.int z9), (.int z10), (.int z6)]) (rest := []) (lenOf pd_2 rfl) rfl (by show 2 * 0 + _ ≤ _; exact Nat.le_of_eq rfl) (hb hby at_405) (fun _ _ => ⟨rfl, e96, (by decide : 2 + 0 ≤ _), (by decide : 8 + 0 ≤ _)⟩)
    dsimp only [Pt.U, Pt.locs, Pt.cells, Pt.slots] at X99 l99 y99 z99 st99 hQ99
    subst l99 y99 z99
    obtain ⟨rfl, N99q, e99⟩ := hQ99
    have N99 := Fr.app N96 N99q
    have hd100 : ¬ ((atF (4 : Int32) init (0 : Int32) z7 z8 z9 z10 z6 xv98) = (0 : Int32)) := own_at0 _ _ _ _ _ _ _ z49 _ (by rw [ez49]) (by rw [exv98]; simp only [show nar .boolean z6 = z6 by rw [ez6]; exact own_nar01 _, show nar .boolean z49 = z49 by rw [ez49]; exact own_nar01 _])
    obtain ⟨xv101, exv101⟩ : ∃ z : Int32, z = ((nar .boolean z57)) := ⟨_, rfl⟩
    have hgxv101 : Lm78.getD ((5 : Int32)).toNatClampNeg (.int (0 : Int32)) = .int xv101 := by
      rw [exv101, eLm78]
      rfl
    obtain ⟨_, _, ⟨T102, L102, k102, n102⟩, -, X102, ⟨Lc102, hQ102, l102, y102, z102⟩, st102⟩ := Jvm.LawKit.callS X99 hx (y := (⟨"pushwise/BoxesPlacePinLaw", "at", "([ZIIIIIIIZ)Z"⟩ : MethodName)) hown (mvT hZ (hw _ (List.mem_of_getElem? (i := 11) rfl))) (mvT hZ (hw _ (List.mem_of_getElem? (i := 12) rfl))) (mvT hZ (hw _ (List.mem_of_getElem? (i := 4) rfl))) (mvT hZ (hw _ (List.mem_of_getElem? (i := 13) rfl))) (by decide) (backOf (W := 0) (rmAt l Z a0 hw [] b11 (5 : Int32) init (0 : Int32) z7 z8 z9 z10 z6 c11 Lm78 xv101 T78.heap n0 Vq78 (by decide) (by decide) hgxv101) hZ (hw _ (List.mem_of_getElem? (i := 13) rfl)) (hw _ (List.mem_of_getElem? (i := 4) rfl)) (by decide) (by decide)) (g := (mkF m 427 #[.val (.int init), .val (.int sq), .val (.int cnt), .val (.int fl), .val (.int z6), .val (.int (0 : Int32)), .val (.int z7), .val (.int z8), .val (.int z9), .val (.int z10), .val (.ref b11), .val (.ref bx77), .val (.int (1 : Int32))] [(.int z6), (.int z10), (.int z9), (.int z8), (.int z7), (.int (0 : Int32)), (.int init), (.int (5 : Int32)), (.ref b11)])) rfl (by rw [hml]; rfl) (argsL := [(.ref b11), (.int (5 : Int32)), (.int init), (.int (0 : Int32)), (.int z7), (.int z8), (.int z9), (.int z10), (.int z6)]) (rest := []) (lenOf pd_2 rfl) rfl (by show 2 * 0 + _ ≤ _; exact Nat.le_of_eq rfl) (hb hby at_427) (fun _ _ => ⟨rfl, e99, (by decide : 2 + 0 ≤ _), (by decide : 8 + 0 ≤ _)⟩)
    dsimp only [Pt.U, Pt.locs, Pt.cells, Pt.slots] at X102 l102 y102 z102 st102 hQ102
    subst l102 y102 z102
    obtain ⟨rfl, N102q, e102⟩ := hQ102
    have N102 := Fr.app N99 N102q
    have hd103 : ¬ ((atF (5 : Int32) init (0 : Int32) z7 z8 z9 z10 z6 xv101) = (0 : Int32)) := own_at0 _ _ _ _ _ _ _ z57 _ (by rw [ez57]) (by rw [exv101]; simp only [show nar .boolean z6 = z6 by rw [ez6]; exact own_nar01 _, show nar .boolean z57 = z57 by rw [ez57]; exact own_nar01 _])
    obtain ⟨xv104, exv104⟩ : ∃ z : Int32, z = ((nar .boolean z65)) := ⟨_, rfl⟩
    have hgxv104 : Lm78.getD ((6 : Int32)).toNatClampNeg (.int (0 : Int32)) = .int xv104 := by
      rw [exv104, eLm78]
      rfl
    obtain ⟨_, _, ⟨T105, L105, k105, n105⟩, -, X105, ⟨Lc105, hQ105, l105, y105, z105⟩, st105⟩ := Jvm.LawKit.callS X102 hx (y := (⟨"pushwise/BoxesPlacePinLaw", "at", "([ZIIIIIIIZ)Z"⟩ : MethodName)) hown (mvT hZ (hw _ (List.mem_of_getElem? (i := 11) rfl))) (mvT hZ (hw _ (List.mem_of_getElem? (i := 12) rfl))) (mvT hZ (hw _ (List.mem_of_getElem? (i := 4) rfl))) (mvT hZ (hw _ (List.mem_of_getElem? (i := 13) rfl))) (by decide) (backOf (W := 0) (rmAt l Z a0 hw [] b11 (6 : Int32) init (0 : Int32) z7 z8 z9 z10 z6 c11 Lm78 xv104 T78.heap n0 Vq78 (by decide) (by decide) hgxv104) hZ (hw _ (List.mem_of_getElem? (i := 13) rfl)) (hw _ (List.mem_of_getElem? (i := 4) rfl)) (by decide) (by decide)) (g := (mkF m 450 #[.val (.int init), .val (.int sq), .val (.int cnt), .val (.int fl), .val (.int z6), .val (.int (0 : Int32)), .val (.int z7), .val (.int z8), .val (.int z9), .val (.int z10), .val (.ref b11), .val (.ref bx77), .val (.int (1 : Int32))] [(.int z6), (.int z10), (.int z9), (.int z8), (.int z7), (.int (0 : Int32)), (.int init), (.int (6 : Int32)), (.ref b11)])) rfl (by rw [hml]; rfl) (argsL := [(.ref b11), (.int (6 : Int32)), (.int init), (.int (0 : Int32)), (.int z7), (.int z8), (.int z9), (.int z10), (.int z6)]) (rest := []) (lenOf pd_2 rfl) rfl (by show 2 * 0 + _ ≤ _; exact Nat.le_of_eq rfl) (hb hby at_450) (fun _ _ => ⟨rfl, e102, (by decide : 2 + 0 ≤ _), (by decide : 8 + 0 ≤ _)⟩)
    dsimp only [Pt.U, Pt.locs, Pt.cells, Pt.slots] at X105 l105 y105 z105 st105 hQ105
    subst l105 y105 z105
    obtain ⟨rfl, N105q, e105⟩ := hQ105
    have N105 := Fr.app N102 N105q
    have hd106 : ¬ ((atF (6 : Int32) init (0 : Int32) z7 z8 z9 z10 z6 xv104) = (0 : Int32)) := own_at0 _ _ _ _ _ _ _ z65 _ (by rw [ez65]) (by rw [exv104]; simp only [show nar .boolean z6 = z6 by rw [ez6]; exact own_nar01 _, show nar .boolean z65 = z65 by rw [ez65]; exact own_nar01 _])
    obtain ⟨xv107, exv107⟩ : ∃ z : Int32, z = ((nar .boolean z73)) := ⟨_, rfl⟩
    have hgxv107 : Lm78.getD ((7 : Int32)).toNatClampNeg (.int (0 : Int32)) = .int xv107 := by
      rw [exv107, eLm78]
      rfl
    obtain ⟨_, _, ⟨T108, L108, k108, n108⟩, -, X108, ⟨Lc108, hQ108, l108, y108, z108⟩, st108⟩ := Jvm.LawKit.callS X105 hx (y := (⟨"pushwise/BoxesPlacePinLaw", "at", "([ZIIIIIIIZ)Z"⟩ : MethodName)) hown (mvT hZ (hw _ (List.mem_of_getElem? (i := 11) rfl))) (mvT hZ (hw _ (List.mem_of_getElem? (i := 12) rfl))) (mvT hZ (hw _ (List.mem_of_getElem? (i := 4) rfl))) (mvT hZ (hw _ (List.mem_of_getElem? (i := 13) rfl))) (by decide) (backOf (W := 0) (rmAt l Z a0 hw [] b11 (7 : Int32) init (0 : Int32) z7 z8 z9 z10 z6 c11 Lm78 xv107 T78.heap n0 Vq78 (by decide) (by decide) hgxv107) hZ (hw _ (List.mem_of_getElem? (i := 13) rfl)) (hw _ (List.mem_of_getElem? (i := 4) rfl)) (by decide) (by decide)) (g := (mkF m 473 #[.val (.int init), .val (.int sq), .val (.int cnt), .val (.int fl), .val (.int z6), .val (.int (0 : Int32)), .val (.int z7), .val (.int z8), .val (.int z9), .val (.int z10), .val (.ref b11), .val (.ref bx77), .val (.int (1 : Int32))] [(.int z6), (.int z10), (.int z9), (.int z8), (.int z7), (.int (0 : Int32)), (.int init), (.int (7 : Int32)), (.ref b11)])) rfl (by rw [hml]; rfl) (argsL := [(.ref b11), (.int (7 : Int32)), (.int init), (.int (0 : Int32)), (.int z7), (.int z8), (.int z9), (.int z10), (.int z6)]) (rest := []) (lenOf pd_2 rfl) rfl (by show 2 * 0 + _ ≤ _; exact Nat.le_of_eq rfl) (hb hby at_473) (fun _ _ => ⟨rfl, e105, (by decide : 2 + 0 ≤ _), (by decide : 8 + 0 ≤ _)⟩)
    dsimp only [Pt.U, Pt.locs, Pt.cells, Pt.slots] at X108 l108 y108 z108 st108 hQ108
    subst l108 y108 z108
    obtain ⟨rfl, N108q, e108⟩ := hQ108
    have N108 := Fr.app N105 N108q
    have hd109 : ¬ ((atF (7 : Int32) init (0 : Int32) z7 z8 z9 z10 z6 xv107) = (0 : Int32)) := own_at0 _ _ _ _ _ _ _ z73 _ (by rw [ez73]) (by rw [exv107]; simp only [show nar .boolean z6 = z6 by rw [ez6]; exact own_nar01 _, show nar .boolean z73 = z73 by rw [ez73]; exact own_nar01 _])
    have k110 : ∀ tg, Steps p.tables e below (T108.setTop (mkF m 484 #[.val (.int init), .val (.int sq), .val (.int cnt), .val (.int fl), .val (.int z6), .val (.int (0 : Int32)), .val (.int z7), .val (.int z8), .val (.int z9), .val (.int z10), .val (.ref b11), .val (.ref bx77), .val (.int (1 : Int32))] [(.int (1 : Int32))])) tg → Steps p.tables e below (s₁.setTop (entryFrame m #[(.int init), (.int sq), (.int cnt), (.int fl)] maxLocals)) tg := by
      intro tg kt
      refine k76 tg ?_
      show Steps p.tables e below (T75.setTop (mkF m 197 #[.val (.int init), .val (.int sq), .val (.int cnt), .val (.int fl), .val (.int z6), .val (.int ((cnt &&& (2147483647 : Int32)) % (5 : Int32))), .val (.int z7), .val (.int z8), .val (.int z9), .val (.int z10), .val (.ref b11), .unset, .unset] [])) _
      rw [hn]
      show Steps p.tables e below (T75.setTop (mkF m 197 #[.val (.int init), .val (.int sq), .val (.int cnt), .val (.int fl), .val (.int z6), .val (.int (0 : Int32)), .val (.int z7), .val (.int z8), .val (.int z9), .val (.int z10), .val (.ref b11), .unset, .unset] [])) _
      refine XS.iload X75.here hx rfl (hb hby at_197) rfl ?_
      show Steps p.tables e below (T75.setTop (mkF m 199 #[.val (.int init), .val (.int sq), .val (.int cnt), .val (.int fl), .val (.int z6), .val (.int (0 : Int32)), .val (.int z7), .val (.int z8), .val (.int z9), .val (.int z10), .val (.ref b11), .unset, .unset] [(.int (0 : Int32))])) _
      refine XS.iload X75.here hx rfl (hb hby at_199) rfl ?_
      show Steps p.tables e below (T75.setTop (mkF m 201 #[.val (.int init), .val (.int sq), .val (.int cnt), .val (.int fl), .val (.int z6), .val (.int (0 : Int32)), .val (.int z7), .val (.int z8), .val (.int z9), .val (.int z10), .val (.ref b11), .unset, .unset] [(.int z7), (.int (0 : Int32))])) _
      refine XS.iload X75.here hx rfl (hb hby at_201) rfl ?_
      show Steps p.tables e below (T75.setTop (mkF m 203 #[.val (.int init), .val (.int sq), .val (.int cnt), .val (.int fl), .val (.int z6), .val (.int (0 : Int32)), .val (.int z7), .val (.int z8), .val (.int z9), .val (.int z10), .val (.ref b11), .unset, .unset] [(.int z8), (.int z7), (.int (0 : Int32))])) _
      refine XS.iload X75.here hx rfl (hb hby at_203) rfl ?_
      show Steps p.tables e below (T75.setTop (mkF m 205 #[.val (.int init), .val (.int sq), .val (.int cnt), .val (.int fl), .val (.int z6), .val (.int (0 : Int32)), .val (.int z7), .val (.int z8), .val (.int z9), .val (.int z10), .val (.ref b11), .unset, .unset] [(.int z9), (.int z8), (.int z7), (.int (0 : Int32))])) _
      refine XS.iload X75.here hx rfl (hb hby at_205) rfl ?_
      show Steps p.tables e below (T75.setTop (mkF m 207 #[.val (.int init), .val (.int sq), .val (.int cnt), .val (.int fl), .val (.int z6), .val (.int (0 : Int32)), .val (.int z7), .val (.int z8), .val (.int z9), .val (.int z10), .val (.ref b11), .unset, .unset] [(.int z10), (.int z9), (.int z8), (.int z7), (.int (0 : Int32))])) _
      refine st77 _ ?_
      show Steps p.tables e below (T77.setTop (mkF m 210 #[.val (.int init), .val (.int sq), .val (.int cnt), .val (.int fl), .val (.int z6), .val (.int (0 : Int32)), .val (.int z7), .val (.int z8), .val (.int z9), .val (.int z10), .val (.ref b11), .unset, .unset] [(.ref bx77)])) _
      refine XS.astore X77.here hx rfl (hb hby at_210) rfl rfl (l' := #[.val (.int init), .val (.int sq), .val (.int cnt), .val (.int fl), .val (.int z6), .val (.int (0 : Int32)), .val (.int z7), .val (.int z8), .val (.int z9), .val (.int z10), .val (.ref b11), .val (.ref bx77), .unset]) rfl ?_
      show Steps p.tables e below (T77.setTop (mkF m 212 #[.val (.int init), .val (.int sq), .val (.int cnt), .val (.int fl), .val (.int z6), .val (.int (0 : Int32)), .val (.int z7), .val (.int z8), .val (.int z9), .val (.int z10), .val (.ref b11), .val (.ref bx77), .unset] [])) _
      refine XS.aload X77.here hx rfl (hb hby at_212) rfl rfl ?_
      show Steps p.tables e below (T77.setTop (mkF m 214 #[.val (.int init), .val (.int sq), .val (.int cnt), .val (.int fl), .val (.int z6), .val (.int (0 : Int32)), .val (.int z7), .val (.int z8), .val (.int z9), .val (.int z10), .val (.ref b11), .val (.ref bx77), .unset] [(.ref b11)])) _
      refine XS.aload X77.here hx rfl (hb hby at_214) rfl rfl ?_
      show Steps p.tables e below (T77.setTop (mkF m 216 #[.val (.int init), .val (.int sq), .val (.int cnt), .val (.int fl), .val (.int z6), .val (.int (0 : Int32)), .val (.int z7), .val (.int z8), .val (.int z9), .val (.int z10), .val (.ref b11), .val (.ref bx77), .unset] [(.ref bx77), (.ref b11)])) _
      refine XS.iload X77.here hx rfl (hb hby at_216) rfl ?_
      show Steps p.tables e below (T77.setTop (mkF m 218 #[.val (.int init), .val (.int sq), .val (.int cnt), .val (.int fl), .val (.int z6), .val (.int (0 : Int32)), .val (.int z7), .val (.int z8), .val (.int z9), .val (.int z10), .val (.ref b11), .val (.ref bx77), .unset] [(.int z6), (.ref bx77), (.ref b11)])) _
      refine st78 _ ?_
      show Steps p.tables e below (T78.setTop (mkF m 221 #[.val (.int init), .val (.int sq), .val (.int cnt), .val (.int fl), .val (.int z6), .val (.int (0 : Int32)), .val (.int z7), .val (.int z8), .val (.int z9), .val (.int z10), .val (.ref b11), .val (.ref bx77), .unset] [])) _
      refine XS.aload X78.here hx rfl (hb hby at_221) rfl rfl ?_
      show Steps p.tables e below (T78.setTop (mkF m 223 #[.val (.int init), .val (.int sq), .val (.int cnt), .val (.int fl), .val (.int z6), .val (.int (0 : Int32)), .val (.int z7), .val (.int z8), .val (.int z9), .val (.int z10), .val (.ref b11), .val (.ref bx77), .unset] [(.ref bx77)])) _
      refine X78.arraylength hx (by exact Ar223_79.1) (State.isArrayOf_alike hZ.alike Ar223_79.2.1) (g := (mkF m 223 #[.val (.int init), .val (.int sq), .val (.int cnt), .val (.int fl), .val (.int z6), .val (.int (0 : Int32)), .val (.int z7), .val (.int z8), .val (.int z9), .val (.int z10), .val (.ref b11), .val (.ref bx77), .unset] [(.ref bx77)])) rfl rfl (hb hby at_223) _ ?_
      rw [len_of S223_79 N223_79_]
      show Steps p.tables e below (T78.setTop (mkF m 224 #[.val (.int init), .val (.int sq), .val (.int cnt), .val (.int fl), .val (.int z6), .val (.int (0 : Int32)), .val (.int z7), .val (.int z8), .val (.int z9), .val (.int z10), .val (.ref b11), .val (.ref bx77), .unset] [(.int (0 : Int32))])) _
      refine XS.iload X78.here hx rfl (hb hby at_224) rfl ?_
      show Steps p.tables e below (T78.setTop (mkF m 226 #[.val (.int init), .val (.int sq), .val (.int cnt), .val (.int fl), .val (.int z6), .val (.int (0 : Int32)), .val (.int z7), .val (.int z8), .val (.int z9), .val (.int z10), .val (.ref b11), .val (.ref bx77), .unset] [(.int (0 : Int32)), (.int (0 : Int32))])) _
      refine XS.icmpNo X78.here hx rfl (hb hby at_226) rfl (teq hd80).2 ?_
      show Steps p.tables e below (T78.setTop (mkF m 229 #[.val (.int init), .val (.int sq), .val (.int cnt), .val (.int fl), .val (.int z6), .val (.int (0 : Int32)), .val (.int z7), .val (.int z8), .val (.int z9), .val (.int z10), .val (.ref b11), .val (.ref bx77), .unset] [])) _
      refine XS.iload X78.here hx rfl (hb hby at_229) rfl ?_
      show Steps p.tables e below (T78.setTop (mkF m 231 #[.val (.int init), .val (.int sq), .val (.int cnt), .val (.int fl), .val (.int z6), .val (.int (0 : Int32)), .val (.int z7), .val (.int z8), .val (.int z9), .val (.int z10), .val (.ref b11), .val (.ref bx77), .unset] [(.int (0 : Int32))])) _
      refine XS.iconst X78.here hx rfl (hb hby at_231) ?_
      show Steps p.tables e below (T78.setTop (mkF m 232 #[.val (.int init), .val (.int sq), .val (.int cnt), .val (.int fl), .val (.int z6), .val (.int (0 : Int32)), .val (.int z7), .val (.int z8), .val (.int z9), .val (.int z10), .val (.ref b11), .val (.ref bx77), .unset] [(.int (1 : Int32)), (.int (0 : Int32))])) _
      refine XS.icmpYes X78.here hx rfl (pc0 := 232) (pc' := 244) rfl (hb hby at_232) rfl (tlt hd81).1 (by decide) (by decide) ?_
      show Steps p.tables e below (T78.setTop (mkF m 244 #[.val (.int init), .val (.int sq), .val (.int cnt), .val (.int fl), .val (.int z6), .val (.int (0 : Int32)), .val (.int z7), .val (.int z8), .val (.int z9), .val (.int z10), .val (.ref b11), .val (.ref bx77), .unset] [])) _
      refine XS.iload X78.here hx rfl (hb hby at_244) rfl ?_
      show Steps p.tables e below (T78.setTop (mkF m 246 #[.val (.int init), .val (.int sq), .val (.int cnt), .val (.int fl), .val (.int z6), .val (.int (0 : Int32)), .val (.int z7), .val (.int z8), .val (.int z9), .val (.int z10), .val (.ref b11), .val (.ref bx77), .unset] [(.int (0 : Int32))])) _
      refine XS.iconst X78.here hx rfl (hb hby at_246) ?_
      show Steps p.tables e below (T78.setTop (mkF m 247 #[.val (.int init), .val (.int sq), .val (.int cnt), .val (.int fl), .val (.int z6), .val (.int (0 : Int32)), .val (.int z7), .val (.int z8), .val (.int z9), .val (.int z10), .val (.ref b11), .val (.ref bx77), .unset] [(.int (2 : Int32)), (.int (0 : Int32))])) _
      refine XS.icmpYes X78.here hx rfl (pc0 := 247) (pc' := 259) rfl (hb hby at_247) rfl (tlt hd82).1 (by decide) (by decide) ?_
      show Steps p.tables e below (T78.setTop (mkF m 259 #[.val (.int init), .val (.int sq), .val (.int cnt), .val (.int fl), .val (.int z6), .val (.int (0 : Int32)), .val (.int z7), .val (.int z8), .val (.int z9), .val (.int z10), .val (.ref b11), .val (.ref bx77), .unset] [])) _
      refine XS.iload X78.here hx rfl (hb hby at_259) rfl ?_
      show Steps p.tables e below (T78.setTop (mkF m 261 #[.val (.int init), .val (.int sq), .val (.int cnt), .val (.int fl), .val (.int z6), .val (.int (0 : Int32)), .val (.int z7), .val (.int z8), .val (.int z9), .val (.int z10), .val (.ref b11), .val (.ref bx77), .unset] [(.int (0 : Int32))])) _
      refine XS.iconst X78.here hx rfl (hb hby at_261) ?_
      show Steps p.tables e below (T78.setTop (mkF m 262 #[.val (.int init), .val (.int sq), .val (.int cnt), .val (.int fl), .val (.int z6), .val (.int (0 : Int32)), .val (.int z7), .val (.int z8), .val (.int z9), .val (.int z10), .val (.ref b11), .val (.ref bx77), .unset] [(.int (3 : Int32)), (.int (0 : Int32))])) _
      refine XS.icmpYes X78.here hx rfl (pc0 := 262) (pc' := 274) rfl (hb hby at_262) rfl (tlt hd83).1 (by decide) (by decide) ?_
      show Steps p.tables e below (T78.setTop (mkF m 274 #[.val (.int init), .val (.int sq), .val (.int cnt), .val (.int fl), .val (.int z6), .val (.int (0 : Int32)), .val (.int z7), .val (.int z8), .val (.int z9), .val (.int z10), .val (.ref b11), .val (.ref bx77), .unset] [])) _
      refine XS.iload X78.here hx rfl (hb hby at_274) rfl ?_
      show Steps p.tables e below (T78.setTop (mkF m 276 #[.val (.int init), .val (.int sq), .val (.int cnt), .val (.int fl), .val (.int z6), .val (.int (0 : Int32)), .val (.int z7), .val (.int z8), .val (.int z9), .val (.int z10), .val (.ref b11), .val (.ref bx77), .unset] [(.int (0 : Int32))])) _
      refine XS.iconst X78.here hx rfl (hb hby at_276) ?_
      show Steps p.tables e below (T78.setTop (mkF m 277 #[.val (.int init), .val (.int sq), .val (.int cnt), .val (.int fl), .val (.int z6), .val (.int (0 : Int32)), .val (.int z7), .val (.int z8), .val (.int z9), .val (.int z10), .val (.ref b11), .val (.ref bx77), .unset] [(.int (4 : Int32)), (.int (0 : Int32))])) _
      refine XS.icmpYes X78.here hx rfl (pc0 := 277) (pc' := 289) rfl (hb hby at_277) rfl (tlt hd84).1 (by decide) (by decide) ?_
      show Steps p.tables e below (T78.setTop (mkF m 289 #[.val (.int init), .val (.int sq), .val (.int cnt), .val (.int fl), .val (.int z6), .val (.int (0 : Int32)), .val (.int z7), .val (.int z8), .val (.int z9), .val (.int z10), .val (.ref b11), .val (.ref bx77), .unset] [])) _
      refine XS.iconst X78.here hx rfl (hb hby at_289) ?_
      show Steps p.tables e below (T78.setTop (mkF m 290 #[.val (.int init), .val (.int sq), .val (.int cnt), .val (.int fl), .val (.int z6), .val (.int (0 : Int32)), .val (.int z7), .val (.int z8), .val (.int z9), .val (.int z10), .val (.ref b11), .val (.ref bx77), .unset] [(.int (1 : Int32))])) _
      refine XS.goto X78.here hx rfl (pc0 := 290) (pc' := 294) rfl (hb hby at_290) (by decide) (by decide) ?_
      show Steps p.tables e below (T78.setTop (mkF m 294 #[.val (.int init), .val (.int sq), .val (.int cnt), .val (.int fl), .val (.int z6), .val (.int (0 : Int32)), .val (.int z7), .val (.int z8), .val (.int z9), .val (.int z10), .val (.ref b11), .val (.ref bx77), .unset] [(.int (1 : Int32))])) _
      refine XS.istore X78.here hx rfl (hb hby at_294) rfl (l' := #[.val (.int init), .val (.int sq), .val (.int cnt), .val (.int fl), .val (.int z6), .val (.int (0 : Int32)), .val (.int z7), .val (.int z8), .val (.int z9), .val (.int z10), .val (.ref b11), .val (.ref bx77), .val (.int (1 : Int32))]) rfl ?_
      show Steps p.tables e below (T78.setTop (mkF m 296 #[.val (.int init), .val (.int sq), .val (.int cnt), .val (.int fl), .val (.int z6), .val (.int (0 : Int32)), .val (.int z7), .val (.int z8), .val (.int z9), .val (.int z10), .val (.ref b11), .val (.ref bx77), .val (.int (1 : Int32))] [])) _
      refine XS.iload X78.here hx rfl (hb hby at_296) rfl ?_
      show Steps p.tables e below (T78.setTop (mkF m 298 #[.val (.int init), .val (.int sq), .val (.int cnt), .val (.int fl), .val (.int z6), .val (.int (0 : Int32)), .val (.int z7), .val (.int z8), .val (.int z9), .val (.int z10), .val (.ref b11), .val (.ref bx77), .val (.int (1 : Int32))] [(.int (1 : Int32))])) _
      refine XS.ifNo X78.here hx rfl (hb hby at_298) rfl ((if0 _ _).trans (feq hd85).1) ?_
      show Steps p.tables e below (T78.setTop (mkF m 301 #[.val (.int init), .val (.int sq), .val (.int cnt), .val (.int fl), .val (.int z6), .val (.int (0 : Int32)), .val (.int z7), .val (.int z8), .val (.int z9), .val (.int z10), .val (.ref b11), .val (.ref bx77), .val (.int (1 : Int32))] [])) _
      refine XS.aload X78.here hx rfl (hb hby at_301) rfl rfl ?_
      show Steps p.tables e below (T78.setTop (mkF m 303 #[.val (.int init), .val (.int sq), .val (.int cnt), .val (.int fl), .val (.int z6), .val (.int (0 : Int32)), .val (.int z7), .val (.int z8), .val (.int z9), .val (.int z10), .val (.ref b11), .val (.ref bx77), .val (.int (1 : Int32))] [(.ref b11)])) _
      refine XS.iconst X78.here hx rfl (hb hby at_303) ?_
      show Steps p.tables e below (T78.setTop (mkF m 304 #[.val (.int init), .val (.int sq), .val (.int cnt), .val (.int fl), .val (.int z6), .val (.int (0 : Int32)), .val (.int z7), .val (.int z8), .val (.int z9), .val (.int z10), .val (.ref b11), .val (.ref bx77), .val (.int (1 : Int32))] [(.int (0 : Int32)), (.ref b11)])) _
      refine XS.iloadN X78.here hx rfl (hb hby at_304) rfl ?_
      show Steps p.tables e below (T78.setTop (mkF m 305 #[.val (.int init), .val (.int sq), .val (.int cnt), .val (.int fl), .val (.int z6), .val (.int (0 : Int32)), .val (.int z7), .val (.int z8), .val (.int z9), .val (.int z10), .val (.ref b11), .val (.ref bx77), .val (.int (1 : Int32))] [(.int init), (.int (0 : Int32)), (.ref b11)])) _
      refine XS.iload X78.here hx rfl (hb hby at_305) rfl ?_
      show Steps p.tables e below (T78.setTop (mkF m 307 #[.val (.int init), .val (.int sq), .val (.int cnt), .val (.int fl), .val (.int z6), .val (.int (0 : Int32)), .val (.int z7), .val (.int z8), .val (.int z9), .val (.int z10), .val (.ref b11), .val (.ref bx77), .val (.int (1 : Int32))] [(.int (0 : Int32)), (.int init), (.int (0 : Int32)), (.ref b11)])) _
      refine XS.iload X78.here hx rfl (hb hby at_307) rfl ?_
      show Steps p.tables e below (T78.setTop (mkF m 309 #[.val (.int init), .val (.int sq), .val (.int cnt), .val (.int fl), .val (.int z6), .val (.int (0 : Int32)), .val (.int z7), .val (.int z8), .val (.int z9), .val (.int z10), .val (.ref b11), .val (.ref bx77), .val (.int (1 : Int32))] [(.int z7), (.int (0 : Int32)), (.int init), (.int (0 : Int32)), (.ref b11)])) _
      refine XS.iload X78.here hx rfl (hb hby at_309) rfl ?_
      show Steps p.tables e below (T78.setTop (mkF m 311 #[.val (.int init), .val (.int sq), .val (.int cnt), .val (.int fl), .val (.int z6), .val (.int (0 : Int32)), .val (.int z7), .val (.int z8), .val (.int z9), .val (.int z10), .val (.ref b11), .val (.ref bx77), .val (.int (1 : Int32))] [(.int z8), (.int z7), (.int (0 : Int32)), (.int init), (.int (0 : Int32)), (.ref b11)])) _
      refine XS.iload X78.here hx rfl (hb hby at_311) rfl ?_
      show Steps p.tables e below (T78.setTop (mkF m 313 #[.val (.int init), .val (.int sq), .val (.int cnt), .val (.int fl), .val (.int z6), .val (.int (0 : Int32)), .val (.int z7), .val (.int z8), .val (.int z9), .val (.int z10), .val (.ref b11), .val (.ref bx77), .val (.int (1 : Int32))] [(.int z9), (.int z8), (.int z7), (.int (0 : Int32)), (.int init), (.int (0 : Int32)), (.ref b11)])) _
      refine XS.iload X78.here hx rfl (hb hby at_313) rfl ?_
      show Steps p.tables e below (T78.setTop (mkF m 315 #[.val (.int init), .val (.int sq), .val (.int cnt), .val (.int fl), .val (.int z6), .val (.int (0 : Int32)), .val (.int z7), .val (.int z8), .val (.int z9), .val (.int z10), .val (.ref b11), .val (.ref bx77), .val (.int (1 : Int32))] [(.int z10), (.int z9), (.int z8), (.int z7), (.int (0 : Int32)), (.int init), (.int (0 : Int32)), (.ref b11)])) _
      refine XS.iload X78.here hx rfl (hb hby at_315) rfl ?_
      show Steps p.tables e below (T78.setTop (mkF m 317 #[.val (.int init), .val (.int sq), .val (.int cnt), .val (.int fl), .val (.int z6), .val (.int (0 : Int32)), .val (.int z7), .val (.int z8), .val (.int z9), .val (.int z10), .val (.ref b11), .val (.ref bx77), .val (.int (1 : Int32))] [(.int z6), (.int z10), (.int z9), (.int z8), (.int z7), (.int (0 : Int32)), (.int init), (.int (0 : Int32)), (.ref b11)])) _
      refine st87 _ ?_
      show Steps p.tables e below (T87.setTop (mkF m 320 #[.val (.int init), .val (.int sq), .val (.int cnt), .val (.int fl), .val (.int z6), .val (.int (0 : Int32)), .val (.int z7), .val (.int z8), .val (.int z9), .val (.int z10), .val (.ref b11), .val (.ref bx77), .val (.int (1 : Int32))] [(.int (atF (0 : Int32) init (0 : Int32) z7 z8 z9 z10 z6 xv86))])) _
      refine XS.ifNo X87.here hx rfl (hb hby at_320) rfl ((if0 _ _).trans (feq hd88).1) ?_
      show Steps p.tables e below (T87.setTop (mkF m 323 #[.val (.int init), .val (.int sq), .val (.int cnt), .val (.int fl), .val (.int z6), .val (.int (0 : Int32)), .val (.int z7), .val (.int z8), .val (.int z9), .val (.int z10), .val (.ref b11), .val (.ref bx77), .val (.int (1 : Int32))] [])) _
      refine XS.aload X87.here hx rfl (hb hby at_323) rfl rfl ?_
      show Steps p.tables e below (T87.setTop (mkF m 325 #[.val (.int init), .val (.int sq), .val (.int cnt), .val (.int fl), .val (.int z6), .val (.int (0 : Int32)), .val (.int z7), .val (.int z8), .val (.int z9), .val (.int z10), .val (.ref b11), .val (.ref bx77), .val (.int (1 : Int32))] [(.ref b11)])) _
      refine XS.iconst X87.here hx rfl (hb hby at_325) ?_
      show Steps p.tables e below (T87.setTop (mkF m 326 #[.val (.int init), .val (.int sq), .val (.int cnt), .val (.int fl), .val (.int z6), .val (.int (0 : Int32)), .val (.int z7), .val (.int z8), .val (.int z9), .val (.int z10), .val (.ref b11), .val (.ref bx77), .val (.int (1 : Int32))] [(.int (1 : Int32)), (.ref b11)])) _
      refine XS.iloadN X87.here hx rfl (hb hby at_326) rfl ?_
      show Steps p.tables e below (T87.setTop (mkF m 327 #[.val (.int init), .val (.int sq), .val (.int cnt), .val (.int fl), .val (.int z6), .val (.int (0 : Int32)), .val (.int z7), .val (.int z8), .val (.int z9), .val (.int z10), .val (.ref b11), .val (.ref bx77), .val (.int (1 : Int32))] [(.int init), (.int (1 : Int32)), (.ref b11)])) _
      refine XS.iload X87.here hx rfl (hb hby at_327) rfl ?_
      show Steps p.tables e below (T87.setTop (mkF m 329 #[.val (.int init), .val (.int sq), .val (.int cnt), .val (.int fl), .val (.int z6), .val (.int (0 : Int32)), .val (.int z7), .val (.int z8), .val (.int z9), .val (.int z10), .val (.ref b11), .val (.ref bx77), .val (.int (1 : Int32))] [(.int (0 : Int32)), (.int init), (.int (1 : Int32)), (.ref b11)])) _
      refine XS.iload X87.here hx rfl (hb hby at_329) rfl ?_
      show Steps p.tables e below (T87.setTop (mkF m 331 #[.val (.int init), .val (.int sq), .val (.int cnt), .val (.int fl), .val (.int z6), .val (.int (0 : Int32)), .val (.int z7), .val (.int z8), .val (.int z9), .val (.int z10), .val (.ref b11), .val (.ref bx77), .val (.int (1 : Int32))] [(.int z7), (.int (0 : Int32)), (.int init), (.int (1 : Int32)), (.ref b11)])) _
      refine XS.iload X87.here hx rfl (hb hby at_331) rfl ?_
      show Steps p.tables e below (T87.setTop (mkF m 333 #[.val (.int init), .val (.int sq), .val (.int cnt), .val (.int fl), .val (.int z6), .val (.int (0 : Int32)), .val (.int z7), .val (.int z8), .val (.int z9), .val (.int z10), .val (.ref b11), .val (.ref bx77), .val (.int (1 : Int32))] [(.int z8), (.int z7), (.int (0 : Int32)), (.int init), (.int (1 : Int32)), (.ref b11)])) _
      refine XS.iload X87.here hx rfl (hb hby at_333) rfl ?_
      show Steps p.tables e below (T87.setTop (mkF m 335 #[.val (.int init), .val (.int sq), .val (.int cnt), .val (.int fl), .val (.int z6), .val (.int (0 : Int32)), .val (.int z7), .val (.int z8), .val (.int z9), .val (.int z10), .val (.ref b11), .val (.ref bx77), .val (.int (1 : Int32))] [(.int z9), (.int z8), (.int z7), (.int (0 : Int32)), (.int init), (.int (1 : Int32)), (.ref b11)])) _
      refine XS.iload X87.here hx rfl (hb hby at_335) rfl ?_
      show Steps p.tables e below (T87.setTop (mkF m 337 #[.val (.int init), .val (.int sq), .val (.int cnt), .val (.int fl), .val (.int z6), .val (.int (0 : Int32)), .val (.int z7), .val (.int z8), .val (.int z9), .val (.int z10), .val (.ref b11), .val (.ref bx77), .val (.int (1 : Int32))] [(.int z10), (.int z9), (.int z8), (.int z7), (.int (0 : Int32)), (.int init), (.int (1 : Int32)), (.ref b11)])) _
      refine XS.iload X87.here hx rfl (hb hby at_337) rfl ?_
      show Steps p.tables e below (T87.setTop (mkF m 339 #[.val (.int init), .val (.int sq), .val (.int cnt), .val (.int fl), .val (.int z6), .val (.int (0 : Int32)), .val (.int z7), .val (.int z8), .val (.int z9), .val (.int z10), .val (.ref b11), .val (.ref bx77), .val (.int (1 : Int32))] [(.int z6), (.int z10), (.int z9), (.int z8), (.int z7), (.int (0 : Int32)), (.int init), (.int (1 : Int32)), (.ref b11)])) _
      refine st90 _ ?_
      show Steps p.tables e below (T90.setTop (mkF m 342 #[.val (.int init), .val (.int sq), .val (.int cnt), .val (.int fl), .val (.int z6), .val (.int (0 : Int32)), .val (.int z7), .val (.int z8), .val (.int z9), .val (.int z10), .val (.ref b11), .val (.ref bx77), .val (.int (1 : Int32))] [(.int (atF (1 : Int32) init (0 : Int32) z7 z8 z9 z10 z6 xv89))])) _
      refine XS.ifNo X90.here hx rfl (hb hby at_342) rfl ((if0 _ _).trans (feq hd91).1) ?_
      show Steps p.tables e below (T90.setTop (mkF m 345 #[.val (.int init), .val (.int sq), .val (.int cnt), .val (.int fl), .val (.int z6), .val (.int (0 : Int32)), .val (.int z7), .val (.int z8), .val (.int z9), .val (.int z10), .val (.ref b11), .val (.ref bx77), .val (.int (1 : Int32))] [])) _
      refine XS.aload X90.here hx rfl (hb hby at_345) rfl rfl ?_
      show Steps p.tables e below (T90.setTop (mkF m 347 #[.val (.int init), .val (.int sq), .val (.int cnt), .val (.int fl), .val (.int z6), .val (.int (0 : Int32)), .val (.int z7), .val (.int z8), .val (.int z9), .val (.int z10), .val (.ref b11), .val (.ref bx77), .val (.int (1 : Int32))] [(.ref b11)])) _
      refine XS.iconst X90.here hx rfl (hb hby at_347) ?_
      show Steps p.tables e below (T90.setTop (mkF m 348 #[.val (.int init), .val (.int sq), .val (.int cnt), .val (.int fl), .val (.int z6), .val (.int (0 : Int32)), .val (.int z7), .val (.int z8), .val (.int z9), .val (.int z10), .val (.ref b11), .val (.ref bx77), .val (.int (1 : Int32))] [(.int (2 : Int32)), (.ref b11)])) _
      refine XS.iloadN X90.here hx rfl (hb hby at_348) rfl ?_
      show Steps p.tables e below (T90.setTop (mkF m 349 #[.val (.int init), .val (.int sq), .val (.int cnt), .val (.int fl), .val (.int z6), .val (.int (0 : Int32)), .val (.int z7), .val (.int z8), .val (.int z9), .val (.int z10), .val (.ref b11), .val (.ref bx77), .val (.int (1 : Int32))] [(.int init), (.int (2 : Int32)), (.ref b11)])) _
      refine XS.iload X90.here hx rfl (hb hby at_349) rfl ?_
      show Steps p.tables e below (T90.setTop (mkF m 351 #[.val (.int init), .val (.int sq), .val (.int cnt), .val (.int fl), .val (.int z6), .val (.int (0 : Int32)), .val (.int z7), .val (.int z8), .val (.int z9), .val (.int z10), .val (.ref b11), .val (.ref bx77), .val (.int (1 : Int32))] [(.int (0 : Int32)), (.int init), (.int (2 : Int32)), (.ref b11)])) _
      refine XS.iload X90.here hx rfl (hb hby at_351) rfl ?_
      show Steps p.tables e below (T90.setTop (mkF m 353 #[.val (.int init), .val (.int sq), .val (.int cnt), .val (.int fl), .val (.int z6), .val (.int (0 : Int32)), .val (.int z7), .val (.int z8), .val (.int z9), .val (.int z10), .val (.ref b11), .val (.ref bx77), .val (.int (1 : Int32))] [(.int z7), (.int (0 : Int32)), (.int init), (.int (2 : Int32)), (.ref b11)])) _
      refine XS.iload X90.here hx rfl (hb hby at_353) rfl ?_
      show Steps p.tables e below (T90.setTop (mkF m 355 #[.val (.int init), .val (.int sq), .val (.int cnt), .val (.int fl), .val (.int z6), .val (.int (0 : Int32)), .val (.int z7), .val (.int z8), .val (.int z9), .val (.int z10), .val (.ref b11), .val (.ref bx77), .val (.int (1 : Int32))] [(.int z8), (.int z7), (.int (0 : Int32)), (.int init), (.int (2 : Int32)), (.ref b11)])) _
      refine XS.iload X90.here hx rfl (hb hby at_355) rfl ?_
      show Steps p.tables e below (T90.setTop (mkF m 357 #[.val (.int init), .val (.int sq), .val (.int cnt), .val (.int fl), .val (.int z6), .val (.int (0 : Int32)), .val (.int z7), .val (.int z8), .val (.int z9), .val (.int z10), .val (.ref b11), .val (.ref bx77), .val (.int (1 : Int32))] [(.int z9), (.int z8), (.int z7), (.int (0 : Int32)), (.int init), (.int (2 : Int32)), (.ref b11)])) _
      refine XS.iload X90.here hx rfl (hb hby at_357) rfl ?_
      show Steps p.tables e below (T90.setTop (mkF m 359 #[.val (.int init), .val (.int sq), .val (.int cnt), .val (.int fl), .val (.int z6), .val (.int (0 : Int32)), .val (.int z7), .val (.int z8), .val (.int z9), .val (.int z10), .val (.ref b11), .val (.ref bx77), .val (.int (1 : Int32))] [(.int z10), (.int z9), (.int z8), (.int z7), (.int (0 : Int32)), (.int init), (.int (2 : Int32)), (.ref b11)])) _
      refine XS.iload X90.here hx rfl (hb hby at_359) rfl ?_
      show Steps p.tables e below (T90.setTop (mkF m 361 #[.val (.int init), .val (.int sq), .val (.int cnt), .val (.int fl), .val (.int z6), .val (.int (0 : Int32)), .val (.int z7), .val (.int z8), .val (.int z9), .val (.int z10), .val (.ref b11), .val (.ref bx77), .val (.int (1 : Int32))] [(.int z6), (.int z10), (.int z9), (.int z8), (.int z7), (.int (0 : Int32)), (.int init), (.int (2 : Int32)), (.ref b11)])) _
      refine st93 _ ?_
      show Steps p.tables e below (T93.setTop (mkF m 364 #[.val (.int init), .val (.int sq), .val (.int cnt), .val (.int fl), .val (.int z6), .val (.int (0 : Int32)), .val (.int z7), .val (.int z8), .val (.int z9), .val (.int z10), .val (.ref b11), .val (.ref bx77), .val (.int (1 : Int32))] [(.int (atF (2 : Int32) init (0 : Int32) z7 z8 z9 z10 z6 xv92))])) _
      refine XS.ifNo X93.here hx rfl (hb hby at_364) rfl ((if0 _ _).trans (feq hd94).1) ?_
      show Steps p.tables e below (T93.setTop (mkF m 367 #[.val (.int init), .val (.int sq), .val (.int cnt), .val (.int fl), .val (.int z6), .val (.int (0 : Int32)), .val (.int z7), .val (.int z8), .val (.int z9), .val (.int z10), .val (.ref b11), .val (.ref bx77), .val (.int (1 : Int32))] [])) _
      refine XS.aload X93.here hx rfl (hb hby at_367) rfl rfl ?_
      show Steps p.tables e below (T93.setTop (mkF m 369 #[.val (.int init), .val (.int sq), .val (.int cnt), .val (.int fl), .val (.int z6), .val (.int (0 : Int32)), .val (.int z7), .val (.int z8), .val (.int z9), .val (.int z10), .val (.ref b11), .val (.ref bx77), .val (.int (1 : Int32))] [(.ref b11)])) _
      refine XS.iconst X93.here hx rfl (hb hby at_369) ?_
      show Steps p.tables e below (T93.setTop (mkF m 370 #[.val (.int init), .val (.int sq), .val (.int cnt), .val (.int fl), .val (.int z6), .val (.int (0 : Int32)), .val (.int z7), .val (.int z8), .val (.int z9), .val (.int z10), .val (.ref b11), .val (.ref bx77), .val (.int (1 : Int32))] [(.int (3 : Int32)), (.ref b11)])) _
      refine XS.iloadN X93.here hx rfl (hb hby at_370) rfl ?_
      show Steps p.tables e below (T93.setTop (mkF m 371 #[.val (.int init), .val (.int sq), .val (.int cnt), .val (.int fl), .val (.int z6), .val (.int (0 : Int32)), .val (.int z7), .val (.int z8), .val (.int z9), .val (.int z10), .val (.ref b11), .val (.ref bx77), .val (.int (1 : Int32))] [(.int init), (.int (3 : Int32)), (.ref b11)])) _
      refine XS.iload X93.here hx rfl (hb hby at_371) rfl ?_
      show Steps p.tables e below (T93.setTop (mkF m 373 #[.val (.int init), .val (.int sq), .val (.int cnt), .val (.int fl), .val (.int z6), .val (.int (0 : Int32)), .val (.int z7), .val (.int z8), .val (.int z9), .val (.int z10), .val (.ref b11), .val (.ref bx77), .val (.int (1 : Int32))] [(.int (0 : Int32)), (.int init), (.int (3 : Int32)), (.ref b11)])) _
      refine XS.iload X93.here hx rfl (hb hby at_373) rfl ?_
      show Steps p.tables e below (T93.setTop (mkF m 375 #[.val (.int init), .val (.int sq), .val (.int cnt), .val (.int fl), .val (.int z6), .val (.int (0 : Int32)), .val (.int z7), .val (.int z8), .val (.int z9), .val (.int z10), .val (.ref b11), .val (.ref bx77), .val (.int (1 : Int32))] [(.int z7), (.int (0 : Int32)), (.int init), (.int (3 : Int32)), (.ref b11)])) _
      refine XS.iload X93.here hx rfl (hb hby at_375) rfl ?_
      show Steps p.tables e below (T93.setTop (mkF m 377 #[.val (.int init), .val (.int sq), .val (.int cnt), .val (.int fl), .val (.int z6), .val (.int (0 : Int32)), .val (.int z7), .val (.int z8), .val (.int z9), .val (.int z10), .val (.ref b11), .val (.ref bx77), .val (.int (1 : Int32))] [(.int z8), (.int z7), (.int (0 : Int32)), (.int init), (.int (3 : Int32)), (.ref b11)])) _
      refine XS.iload X93.here hx rfl (hb hby at_377) rfl ?_
      show Steps p.tables e below (T93.setTop (mkF m 379 #[.val (.int init), .val (.int sq), .val (.int cnt), .val (.int fl), .val (.int z6), .val (.int (0 : Int32)), .val (.int z7), .val (.int z8), .val (.int z9), .val (.int z10), .val (.ref b11), .val (.ref bx77), .val (.int (1 : Int32))] [(.int z9), (.int z8), (.int z7), (.int (0 : Int32)), (.int init), (.int (3 : Int32)), (.ref b11)])) _
      refine XS.iload X93.here hx rfl (hb hby at_379) rfl ?_
      show Steps p.tables e below (T93.setTop (mkF m 381 #[.val (.int init), .val (.int sq), .val (.int cnt), .val (.int fl), .val (.int z6), .val (.int (0 : Int32)), .val (.int z7), .val (.int z8), .val (.int z9), .val (.int z10), .val (.ref b11), .val (.ref bx77), .val (.int (1 : Int32))] [(.int z10), (.int z9), (.int z8), (.int z7), (.int (0 : Int32)), (.int init), (.int (3 : Int32)), (.ref b11)])) _
      refine XS.iload X93.here hx rfl (hb hby at_381) rfl ?_
      show Steps p.tables e below (T93.setTop (mkF m 383 #[.val (.int init), .val (.int sq), .val (.int cnt), .val (.int fl), .val (.int z6), .val (.int (0 : Int32)), .val (.int z7), .val (.int z8), .val (.int z9), .val (.int z10), .val (.ref b11), .val (.ref bx77), .val (.int (1 : Int32))] [(.int z6), (.int z10), (.int z9), (.int z8), (.int z7), (.int (0 : Int32)), (.int init), (.int (3 : Int32)), (.ref b11)])) _
      refine st96 _ ?_
      show Steps p.tables e below (T96.setTop (mkF m 386 #[.val (.int init), .val (.int sq), .val (.int cnt), .val (.int fl), .val (.int z6), .val (.int (0 : Int32)), .val (.int z7), .val (.int z8), .val (.int z9), .val (.int z10), .val (.ref b11), .val (.ref bx77), .val (.int (1 : Int32))] [(.int (atF (3 : Int32) init (0 : Int32) z7 z8 z9 z10 z6 xv95))])) _
      refine XS.ifNo X96.here hx rfl (hb hby at_386) rfl ((if0 _ _).trans (feq hd97).1) ?_
      show Steps p.tables e below (T96.setTop (mkF m 389 #[.val (.int init), .val (.int sq), .val (.int cnt), .val (.int fl), .val (.int z6), .val (.int (0 : Int32)), .val (.int z7), .val (.int z8), .val (.int z9), .val (.int z10), .val (.ref b11), .val (.ref bx77), .val (.int (1 : Int32))] [])) _
      refine XS.aload X96.here hx rfl (hb hby at_389) rfl rfl ?_
      show Steps p.tables e below (T96.setTop (mkF m 391 #[.val (.int init), .val (.int sq), .val (.int cnt), .val (.int fl), .val (.int z6), .val (.int (0 : Int32)), .val (.int z7), .val (.int z8), .val (.int z9), .val (.int z10), .val (.ref b11), .val (.ref bx77), .val (.int (1 : Int32))] [(.ref b11)])) _
      refine XS.iconst X96.here hx rfl (hb hby at_391) ?_
      show Steps p.tables e below (T96.setTop (mkF m 392 #[.val (.int init), .val (.int sq), .val (.int cnt), .val (.int fl), .val (.int z6), .val (.int (0 : Int32)), .val (.int z7), .val (.int z8), .val (.int z9), .val (.int z10), .val (.ref b11), .val (.ref bx77), .val (.int (1 : Int32))] [(.int (4 : Int32)), (.ref b11)])) _
      refine XS.iloadN X96.here hx rfl (hb hby at_392) rfl ?_
      show Steps p.tables e below (T96.setTop (mkF m 393 #[.val (.int init), .val (.int sq), .val (.int cnt), .val (.int fl), .val (.int z6), .val (.int (0 : Int32)), .val (.int z7), .val (.int z8), .val (.int z9), .val (.int z10), .val (.ref b11), .val (.ref bx77), .val (.int (1 : Int32))] [(.int init), (.int (4 : Int32)), (.ref b11)])) _
      refine XS.iload X96.here hx rfl (hb hby at_393) rfl ?_
      show Steps p.tables e below (T96.setTop (mkF m 395 #[.val (.int init), .val (.int sq), .val (.int cnt), .val (.int fl), .val (.int z6), .val (.int (0 : Int32)), .val (.int z7), .val (.int z8), .val (.int z9), .val (.int z10), .val (.ref b11), .val (.ref bx77), .val (.int (1 : Int32))] [(.int (0 : Int32)), (.int init), (.int (4 : Int32)), (.ref b11)])) _
      refine XS.iload X96.here hx rfl (hb hby at_395) rfl ?_
      show Steps p.tables e below (T96.setTop (mkF m 397 #[.val (.int init), .val (.int sq), .val (.int cnt), .val (.int fl), .val (.int z6), .val (.int (0 : Int32)), .val (.int z7), .val (.int z8), .val (.int z9), .val (.int z10), .val (.ref b11), .val (.ref bx77), .val (.int (1 : Int32))] [(.int z7), (.int (0 : Int32)), (.int init), (.int (4 : Int32)), (.ref b11)])) _
      refine XS.iload X96.here hx rfl (hb hby at_397) rfl ?_
      show Steps p.tables e below (T96.setTop (mkF m 399 #[.val (.int init), .val (.int sq), .val (.int cnt), .val (.int fl), .val (.int z6), .val (.int (0 : Int32)), .val (.int z7), .val (.int z8), .val (.int z9), .val (.int z10), .val (.ref b11), .val (.ref bx77), .val (.int (1 : Int32))] [(.int z8), (.int z7), (.int (0 : Int32)), (.int init), (.int (4 : Int32)), (.ref b11)])) _
      refine XS.iload X96.here hx rfl (hb hby at_399) rfl ?_
      show Steps p.tables e below (T96.setTop (mkF m 401 #[.val (.int init), .val (.int sq), .val (.int cnt), .val (.int fl), .val (.int z6), .val (.int (0 : Int32)), .val (.int z7), .val (.int z8), .val (.int z9), .val (.int z10), .val (.ref b11), .val (.ref bx77), .val (.int (1 : Int32))] [(.int z9), (.int z8), (.int z7), (.int (0 : Int32)), (.int init), (.int (4 : Int32)), (.ref b11)])) _
      refine XS.iload X96.here hx rfl (hb hby at_401) rfl ?_
      show Steps p.tables e below (T96.setTop (mkF m 403 #[.val (.int init), .val (.int sq), .val (.int cnt), .val (.int fl), .val (.int z6), .val (.int (0 : Int32)), .val (.int z7), .val (.int z8), .val (.int z9), .val (.int z10), .val (.ref b11), .val (.ref bx77), .val (.int (1 : Int32))] [(.int z10), (.int z9), (.int z8), (.int z7), (.int (0 : Int32)), (.int init), (.int (4 : Int32)), (.ref b11)])) _
      refine XS.iload X96.here hx rfl (hb hby at_403) rfl ?_
      show Steps p.tables e below (T96.setTop (mkF m 405 #[.val (.int init), .val (.int sq), .val (.int cnt), .val (.int fl), .val (.int z6), .val (.int (0 : Int32)), .val (.int z7), .val (.int z8), .val (.int z9), .val (.int z10), .val (.ref b11), .val (.ref bx77), .val (.int (1 : Int32))] [(.int z6), (.int z10), (.int z9), (.int z8), (.int z7), (.int (0 : Int32)), (.int init), (.int (4 : Int32)), (.ref b11)])) _
      refine st99 _ ?_
      show Steps p.tables e below (T99.setTop (mkF m 408 #[.val (.int init), .val (.int sq), .val (.int cnt), .val (.int fl), .val (.int z6), .val (.int (0 : Int32)), .val (.int z7), .val (.int z8), .val (.int z9), .val (.int z10), .val (.ref b11), .val (.ref bx77), .val (.int (1 : Int32))] [(.int (atF (4 : Int32) init (0 : Int32) z7 z8 z9 z10 z6 xv98))])) _
      refine XS.ifNo X99.here hx rfl (hb hby at_408) rfl ((if0 _ _).trans (feq hd100).1) ?_
      show Steps p.tables e below (T99.setTop (mkF m 411 #[.val (.int init), .val (.int sq), .val (.int cnt), .val (.int fl), .val (.int z6), .val (.int (0 : Int32)), .val (.int z7), .val (.int z8), .val (.int z9), .val (.int z10), .val (.ref b11), .val (.ref bx77), .val (.int (1 : Int32))] [])) _
      refine XS.aload X99.here hx rfl (hb hby at_411) rfl rfl ?_
      show Steps p.tables e below (T99.setTop (mkF m 413 #[.val (.int init), .val (.int sq), .val (.int cnt), .val (.int fl), .val (.int z6), .val (.int (0 : Int32)), .val (.int z7), .val (.int z8), .val (.int z9), .val (.int z10), .val (.ref b11), .val (.ref bx77), .val (.int (1 : Int32))] [(.ref b11)])) _
      refine XS.iconst X99.here hx rfl (hb hby at_413) ?_
      show Steps p.tables e below (T99.setTop (mkF m 414 #[.val (.int init), .val (.int sq), .val (.int cnt), .val (.int fl), .val (.int z6), .val (.int (0 : Int32)), .val (.int z7), .val (.int z8), .val (.int z9), .val (.int z10), .val (.ref b11), .val (.ref bx77), .val (.int (1 : Int32))] [(.int (5 : Int32)), (.ref b11)])) _
      refine XS.iloadN X99.here hx rfl (hb hby at_414) rfl ?_
      show Steps p.tables e below (T99.setTop (mkF m 415 #[.val (.int init), .val (.int sq), .val (.int cnt), .val (.int fl), .val (.int z6), .val (.int (0 : Int32)), .val (.int z7), .val (.int z8), .val (.int z9), .val (.int z10), .val (.ref b11), .val (.ref bx77), .val (.int (1 : Int32))] [(.int init), (.int (5 : Int32)), (.ref b11)])) _
      refine XS.iload X99.here hx rfl (hb hby at_415) rfl ?_
      show Steps p.tables e below (T99.setTop (mkF m 417 #[.val (.int init), .val (.int sq), .val (.int cnt), .val (.int fl), .val (.int z6), .val (.int (0 : Int32)), .val (.int z7), .val (.int z8), .val (.int z9), .val (.int z10), .val (.ref b11), .val (.ref bx77), .val (.int (1 : Int32))] [(.int (0 : Int32)), (.int init), (.int (5 : Int32)), (.ref b11)])) _
      refine XS.iload X99.here hx rfl (hb hby at_417) rfl ?_
      show Steps p.tables e below (T99.setTop (mkF m 419 #[.val (.int init), .val (.int sq), .val (.int cnt), .val (.int fl), .val (.int z6), .val (.int (0 : Int32)), .val (.int z7), .val (.int z8), .val (.int z9), .val (.int z10), .val (.ref b11), .val (.ref bx77), .val (.int (1 : Int32))] [(.int z7), (.int (0 : Int32)), (.int init), (.int (5 : Int32)), (.ref b11)])) _
      refine XS.iload X99.here hx rfl (hb hby at_419) rfl ?_
      show Steps p.tables e below (T99.setTop (mkF m 421 #[.val (.int init), .val (.int sq), .val (.int cnt), .val (.int fl), .val (.int z6), .val (.int (0 : Int32)), .val (.int z7), .val (.int z8), .val (.int z9), .val (.int z10), .val (.ref b11), .val (.ref bx77), .val (.int (1 : Int32))] [(.int z8), (.int z7), (.int (0 : Int32)), (.int init), (.int (5 : Int32)), (.ref b11)])) _
      refine XS.iload X99.here hx rfl (hb hby at_421) rfl ?_
      show Steps p.tables e below (T99.setTop (mkF m 423 #[.val (.int init), .val (.int sq), .val (.int cnt), .val (.int fl), .val (.int z6), .val (.int (0 : Int32)), .val (.int z7), .val (.int z8), .val (.int z9), .val (.int z10), .val (.ref b11), .val (.ref bx77), .val (.int (1 : Int32))] [(.int z9), (.int z8), (.int z7), (.int (0 : Int32)), (.int init), (.int (5 : Int32)), (.ref b11)])) _
      refine XS.iload X99.here hx rfl (hb hby at_423) rfl ?_
      show Steps p.tables e below (T99.setTop (mkF m 425 #[.val (.int init), .val (.int sq), .val (.int cnt), .val (.int fl), .val (.int z6), .val (.int (0 : Int32)), .val (.int z7), .val (.int z8), .val (.int z9), .val (.int z10), .val (.ref b11), .val (.ref bx77), .val (.int (1 : Int32))] [(.int z10), (.int z9), (.int z8), (.int z7), (.int (0 : Int32)), (.int init), (.int (5 : Int32)), (.ref b11)])) _
      refine XS.iload X99.here hx rfl (hb hby at_425) rfl ?_
      show Steps p.tables e below (T99.setTop (mkF m 427 #[.val (.int init), .val (.int sq), .val (.int cnt), .val (.int fl), .val (.int z6), .val (.int (0 : Int32)), .val (.int z7), .val (.int z8), .val (.int z9), .val (.int z10), .val (.ref b11), .val (.ref bx77), .val (.int (1 : Int32))] [(.int z6), (.int z10), (.int z9), (.int z8), (.int z7), (.int (0 : Int32)), (.int init), (.int (5 : Int32)), (.ref b11)])) _
      refine st102 _ ?_
      show Steps p.tables e below (T102.setTop (mkF m 430 #[.val (.int init), .val (.int sq), .val (.int cnt), .val (.int fl), .val (.int z6), .val (.int (0 : Int32)), .val (.int z7), .val (.int z8), .val (.int z9), .val (.int z10), .val (.ref b11), .val (.ref bx77), .val (.int (1 : Int32))] [(.int (atF (5 : Int32) init (0 : Int32) z7 z8 z9 z10 z6 xv101))])) _
      refine XS.ifNo X102.here hx rfl (hb hby at_430) rfl ((if0 _ _).trans (feq hd103).1) ?_
      show Steps p.tables e below (T102.setTop (mkF m 433 #[.val (.int init), .val (.int sq), .val (.int cnt), .val (.int fl), .val (.int z6), .val (.int (0 : Int32)), .val (.int z7), .val (.int z8), .val (.int z9), .val (.int z10), .val (.ref b11), .val (.ref bx77), .val (.int (1 : Int32))] [])) _
      refine XS.aload X102.here hx rfl (hb hby at_433) rfl rfl ?_
      show Steps p.tables e below (T102.setTop (mkF m 435 #[.val (.int init), .val (.int sq), .val (.int cnt), .val (.int fl), .val (.int z6), .val (.int (0 : Int32)), .val (.int z7), .val (.int z8), .val (.int z9), .val (.int z10), .val (.ref b11), .val (.ref bx77), .val (.int (1 : Int32))] [(.ref b11)])) _
      refine XS.bipush X102.here hx rfl (hb hby at_435) ?_
      show Steps p.tables e below (T102.setTop (mkF m 437 #[.val (.int init), .val (.int sq), .val (.int cnt), .val (.int fl), .val (.int z6), .val (.int (0 : Int32)), .val (.int z7), .val (.int z8), .val (.int z9), .val (.int z10), .val (.ref b11), .val (.ref bx77), .val (.int (1 : Int32))] [(.int (6 : Int32)), (.ref b11)])) _
      refine XS.iloadN X102.here hx rfl (hb hby at_437) rfl ?_
      show Steps p.tables e below (T102.setTop (mkF m 438 #[.val (.int init), .val (.int sq), .val (.int cnt), .val (.int fl), .val (.int z6), .val (.int (0 : Int32)), .val (.int z7), .val (.int z8), .val (.int z9), .val (.int z10), .val (.ref b11), .val (.ref bx77), .val (.int (1 : Int32))] [(.int init), (.int (6 : Int32)), (.ref b11)])) _
      refine XS.iload X102.here hx rfl (hb hby at_438) rfl ?_
      show Steps p.tables e below (T102.setTop (mkF m 440 #[.val (.int init), .val (.int sq), .val (.int cnt), .val (.int fl), .val (.int z6), .val (.int (0 : Int32)), .val (.int z7), .val (.int z8), .val (.int z9), .val (.int z10), .val (.ref b11), .val (.ref bx77), .val (.int (1 : Int32))] [(.int (0 : Int32)), (.int init), (.int (6 : Int32)), (.ref b11)])) _
      refine XS.iload X102.here hx rfl (hb hby at_440) rfl ?_
      show Steps p.tables e below (T102.setTop (mkF m 442 #[.val (.int init), .val (.int sq), .val (.int cnt), .val (.int fl), .val (.int z6), .val (.int (0 : Int32)), .val (.int z7), .val (.int z8), .val (.int z9), .val (.int z10), .val (.ref b11), .val (.ref bx77), .val (.int (1 : Int32))] [(.int z7), (.int (0 : Int32)), (.int init), (.int (6 : Int32)), (.ref b11)])) _
      refine XS.iload X102.here hx rfl (hb hby at_442) rfl ?_
      show Steps p.tables e below (T102.setTop (mkF m 444 #[.val (.int init), .val (.int sq), .val (.int cnt), .val (.int fl), .val (.int z6), .val (.int (0 : Int32)), .val (.int z7), .val (.int z8), .val (.int z9), .val (.int z10), .val (.ref b11), .val (.ref bx77), .val (.int (1 : Int32))] [(.int z8), (.int z7), (.int (0 : Int32)), (.int init), (.int (6 : Int32)), (.ref b11)])) _
      refine XS.iload X102.here hx rfl (hb hby at_444) rfl ?_
      show Steps p.tables e below (T102.setTop (mkF m 446 #[.val (.int init), .val (.int sq), .val (.int cnt), .val (.int fl), .val (.int z6), .val (.int (0 : Int32)), .val (.int z7), .val (.int z8), .val (.int z9), .val (.int z10), .val (.ref b11), .val (.ref bx77), .val (.int (1 : Int32))] [(.int z9), (.int z8), (.int z7), (.int (0 : Int32)), (.int init), (.int (6 : Int32)), (.ref b11)])) _
      refine XS.iload X102.here hx rfl (hb hby at_446) rfl ?_
      show Steps p.tables e below (T102.setTop (mkF m 448 #[.val (.int init), .val (.int sq), .val (.int cnt), .val (.int fl), .val (.int z6), .val (.int (0 : Int32)), .val (.int z7), .val (.int z8), .val (.int z9), .val (.int z10), .val (.ref b11), .val (.ref bx77), .val (.int (1 : Int32))] [(.int z10), (.int z9), (.int z8), (.int z7), (.int (0 : Int32)), (.int init), (.int (6 : Int32)), (.ref b11)])) _
      refine XS.iload X102.here hx rfl (hb hby at_448) rfl ?_
      show Steps p.tables e below (T102.setTop (mkF m 450 #[.val (.int init), .val (.int sq), .val (.int cnt), .val (.int fl), .val (.int z6), .val (.int (0 : Int32)), .val (.int z7), .val (.int z8), .val (.int z9), .val (.int z10), .val (.ref b11), .val (.ref bx77), .val (.int (1 : Int32))] [(.int z6), (.int z10), (.int z9), (.int z8), (.int z7), (.int (0 : Int32)), (.int init), (.int (6 : Int32)), (.ref b11)])) _
      refine st105 _ ?_
      show Steps p.tables e below (T105.setTop (mkF m 453 #[.val (.int init), .val (.int sq), .val (.int cnt), .val (.int fl), .val (.int z6), .val (.int (0 : Int32)), .val (.int z7), .val (.int z8), .val (.int z9), .val (.int z10), .val (.ref b11), .val (.ref bx77), .val (.int (1 : Int32))] [(.int (atF (6 : Int32) init (0 : Int32) z7 z8 z9 z10 z6 xv104))])) _
      refine XS.ifNo X105.here hx rfl (hb hby at_453) rfl ((if0 _ _).trans (feq hd106).1) ?_
      show Steps p.tables e below (T105.setTop (mkF m 456 #[.val (.int init), .val (.int sq), .val (.int cnt), .val (.int fl), .val (.int z6), .val (.int (0 : Int32)), .val (.int z7), .val (.int z8), .val (.int z9), .val (.int z10), .val (.ref b11), .val (.ref bx77), .val (.int (1 : Int32))] [])) _
      refine XS.aload X105.here hx rfl (hb hby at_456) rfl rfl ?_
      show Steps p.tables e below (T105.setTop (mkF m 458 #[.val (.int init), .val (.int sq), .val (.int cnt), .val (.int fl), .val (.int z6), .val (.int (0 : Int32)), .val (.int z7), .val (.int z8), .val (.int z9), .val (.int z10), .val (.ref b11), .val (.ref bx77), .val (.int (1 : Int32))] [(.ref b11)])) _
      refine XS.bipush X105.here hx rfl (hb hby at_458) ?_
      show Steps p.tables e below (T105.setTop (mkF m 460 #[.val (.int init), .val (.int sq), .val (.int cnt), .val (.int fl), .val (.int z6), .val (.int (0 : Int32)), .val (.int z7), .val (.int z8), .val (.int z9), .val (.int z10), .val (.ref b11), .val (.ref bx77), .val (.int (1 : Int32))] [(.int (7 : Int32)), (.ref b11)])) _
      refine XS.iloadN X105.here hx rfl (hb hby at_460) rfl ?_
      show Steps p.tables e below (T105.setTop (mkF m 461 #[.val (.int init), .val (.int sq), .val (.int cnt), .val (.int fl), .val (.int z6), .val (.int (0 : Int32)), .val (.int z7), .val (.int z8), .val (.int z9), .val (.int z10), .val (.ref b11), .val (.ref bx77), .val (.int (1 : Int32))] [(.int init), (.int (7 : Int32)), (.ref b11)])) _
      refine XS.iload X105.here hx rfl (hb hby at_461) rfl ?_
      show Steps p.tables e below (T105.setTop (mkF m 463 #[.val (.int init), .val (.int sq), .val (.int cnt), .val (.int fl), .val (.int z6), .val (.int (0 : Int32)), .val (.int z7), .val (.int z8), .val (.int z9), .val (.int z10), .val (.ref b11), .val (.ref bx77), .val (.int (1 : Int32))] [(.int (0 : Int32)), (.int init), (.int (7 : Int32)), (.ref b11)])) _
      refine XS.iload X105.here hx rfl (hb hby at_463) rfl ?_
      show Steps p.tables e below (T105.setTop (mkF m 465 #[.val (.int init), .val (.int sq), .val (.int cnt), .val (.int fl), .val (.int z6), .val (.int (0 : Int32)), .val (.int z7), .val (.int z8), .val (.int z9), .val (.int z10), .val (.ref b11), .val (.ref bx77), .val (.int (1 : Int32))] [(.int z7), (.int (0 : Int32)), (.int init), (.int (7 : Int32)), (.ref b11)])) _
      refine XS.iload X105.here hx rfl (hb hby at_465) rfl ?_
      show Steps p.tables e below (T105.setTop (mkF m 467 #[.val (.int init), .val (.int sq), .val (.int cnt), .val (.int fl), .val (.int z6), .val (.int (0 : Int32)), .val (.int z7), .val (.int z8), .val (.int z9), .val (.int z10), .val (.ref b11), .val (.ref bx77), .val (.int (1 : Int32))] [(.int z8), (.int z7), (.int (0 : Int32)), (.int init), (.int (7 : Int32)), (.ref b11)])) _
      refine XS.iload X105.here hx rfl (hb hby at_467) rfl ?_
      show Steps p.tables e below (T105.setTop (mkF m 469 #[.val (.int init), .val (.int sq), .val (.int cnt), .val (.int fl), .val (.int z6), .val (.int (0 : Int32)), .val (.int z7), .val (.int z8), .val (.int z9), .val (.int z10), .val (.ref b11), .val (.ref bx77), .val (.int (1 : Int32))] [(.int z9), (.int z8), (.int z7), (.int (0 : Int32)), (.int init), (.int (7 : Int32)), (.ref b11)])) _
      refine XS.iload X105.here hx rfl (hb hby at_469) rfl ?_
      show Steps p.tables e below (T105.setTop (mkF m 471 #[.val (.int init), .val (.int sq), .val (.int cnt), .val (.int fl), .val (.int z6), .val (.int (0 : Int32)), .val (.int z7), .val (.int z8), .val (.int z9), .val (.int z10), .val (.ref b11), .val (.ref bx77), .val (.int (1 : Int32))] [(.int z10), (.int z9), (.int z8), (.int z7), (.int (0 : Int32)), (.int init), (.int (7 : Int32)), (.ref b11)])) _
      refine XS.iload X105.here hx rfl (hb hby at_471) rfl ?_
      show Steps p.tables e below (T105.setTop (mkF m 473 #[.val (.int init), .val (.int sq), .val (.int cnt), .val (.int fl), .val (.int z6), .val (.int (0 : Int32)), .val (.int z7), .val (.int z8), .val (.int z9), .val (.int z10), .val (.ref b11), .val (.ref bx77), .val (.int (1 : Int32))] [(.int z6), (.int z10), (.int z9), (.int z8), (.int z7), (.int (0 : Int32)), (.int init), (.int (7 : Int32)), (.ref b11)])) _
      refine st108 _ ?_
      show Steps p.tables e below (T108.setTop (mkF m 476 #[.val (.int init), .val (.int sq), .val (.int cnt), .val (.int fl), .val (.int z6), .val (.int (0 : Int32)), .val (.int z7), .val (.int z8), .val (.int z9), .val (.int z10), .val (.ref b11), .val (.ref bx77), .val (.int (1 : Int32))] [(.int (atF (7 : Int32) init (0 : Int32) z7 z8 z9 z10 z6 xv107))])) _
      refine XS.ifNo X108.here hx rfl (hb hby at_476) rfl ((if0 _ _).trans (feq hd109).1) ?_
      show Steps p.tables e below (T108.setTop (mkF m 479 #[.val (.int init), .val (.int sq), .val (.int cnt), .val (.int fl), .val (.int z6), .val (.int (0 : Int32)), .val (.int z7), .val (.int z8), .val (.int z9), .val (.int z10), .val (.ref b11), .val (.ref bx77), .val (.int (1 : Int32))] [])) _
      refine XS.iconst X108.here hx rfl (hb hby at_479) ?_
      show Steps p.tables e below (T108.setTop (mkF m 480 #[.val (.int init), .val (.int sq), .val (.int cnt), .val (.int fl), .val (.int z6), .val (.int (0 : Int32)), .val (.int z7), .val (.int z8), .val (.int z9), .val (.int z10), .val (.ref b11), .val (.ref bx77), .val (.int (1 : Int32))] [(.int (1 : Int32))])) _
      refine XS.goto X108.here hx rfl (pc0 := 480) (pc' := 484) rfl (hb hby at_480) (by decide) (by decide) ?_
      show Steps p.tables e below (T108.setTop (mkF m 484 #[.val (.int init), .val (.int sq), .val (.int cnt), .val (.int fl), .val (.int z6), .val (.int (0 : Int32)), .val (.int z7), .val (.int z8), .val (.int z9), .val (.int z10), .val (.ref b11), .val (.ref bx77), .val (.int (1 : Int32))] [(.int (1 : Int32))])) _
      exact kt
    obtain ⟨fs, hr, hrun, hended, hW, hsame⟩ := X108.leave (v := some (.int (1 : Int32))) (fun h => by rw [Bd.returns] at h; cases h)
    refine ⟨_, _, k110 _ ?_, hrun, hended, _, _, rfl, ?_, ⟨_, rfl⟩, hW, hsame.mono (by decide) (by decide)⟩
    · exact retN X108 hx (t := .boolean) Bd.returns (by simp) (hb hby at_484) hr
    · show QL n0 _ T108.heap _
      exact ⟨rfl, N108⟩
  · obtain ⟨_, _, ⟨T111, L111, k111, n111⟩, -, X111, ⟨Lc111, hQ111, l111, y111, z111⟩, st111⟩ := Jvm.LawKit.callS X75 hx (y := (⟨"pushwise/BoxesPlacePinLaw", "boxesOf", "(IIIII)[I"⟩ : MethodName)) hown (mvT hZ (hw _ (List.mem_of_getElem? (i := 2) rfl))) (mvT hZ (hw _ (List.mem_of_getElem? (i := 3) rfl))) (mvT hZ (hw _ (List.mem_of_getElem? (i := 4) rfl))) (mvT hZ (hw _ (List.mem_of_getElem? (i := 5) rfl))) (by decide) (backOf (W := 0) (rmBox1 l Z a0 hw [] z7 z8 z9 z10  h75 n0 Z75) hZ (hw _ (List.mem_of_getElem? (i := 5) rfl)) (hw _ (List.mem_of_getElem? (i := 4) rfl)) (by decide) (by decide)) (g := (mkF m 207 #[.val (.int init), .val (.int sq), .val (.int cnt), .val (.int fl), .val (.int z6), .val (.int (1 : Int32)), .val (.int z7), .val (.int z8), .val (.int z9), .val (.int z10), .val (.ref b11), .unset, .unset] [(.int z10), (.int z9), (.int z8), (.int z7), (.int (1 : Int32))])) rfl (by rw [hml]; rfl) (argsL := [(.int (1 : Int32)), (.int z7), (.int z8), (.int z9), (.int z10)]) (rest := []) (lenOf pd_0 rfl) rfl (by show 2 * 0 + _ ≤ _; exact Nat.le_of_eq rfl) (hb hby at_207) (fun _ _ => ⟨rfl, e75, (by decide : 1 + 1 ≤ _), (by decide : 8 + 1 ≤ _)⟩)
    dsimp only [Pt.U, Pt.locs, Pt.cells, Pt.slots] at X111 l111 y111 z111 st111 hQ111
    subst l111 y111 z111
    obtain ⟨N111q, K111, bx111, cc111, rfl, le111, Va111⟩ := hQ111
    have N111 := Fr.app N75 N111q
    have ne_b11_bx111 : b11 ≠ bx111 := Nat.ne_of_lt (Nat.lt_of_lt_of_le V75_b11.lt le111)
    have g_bx111 : n0 ≤ bx111 := Nat.le_trans Z75 le111
    have sz_bx111 : h0.size ≤ bx111 := Nat.le_trans KP75.1 le111
    have V111_b11 := V75_b11.keep K111 nin0
    have Z111 := Nat.le_trans Z75 K111.1
    have KP111 := KP75.trans K111 all0
    obtain ⟨_, _, ⟨T112, L112, k112, n112⟩, -, X112, ⟨Lc112, hQ112, l112, y112, z112⟩, st112⟩ := Jvm.LawKit.callS X111 hx (y := (⟨"pushwise/Boxes", "place", "([Z[IZ)V"⟩ : MethodName)) hown (mvT hZ (hw _ (List.mem_of_getElem? (i := 7) rfl))) (mvT hZ (hw _ (List.mem_of_getElem? (i := 8) rfl))) (mvT hZ (hw _ (List.mem_of_getElem? (i := 9) rfl))) (mvT hZ (hw _ (List.mem_of_getElem? (i := 10) rfl))) (by decide) (backOf (W := 0) (rmPlace1 l Z a0 hw [] b11 bx111 z6 c11 cc111 [(.int (nar .boolean z17)), (.int (nar .boolean z25)), (.int (nar .boolean z33)), (.int (nar .boolean z41)), (.int (nar .boolean z49)), (.int (nar .boolean z57)), (.int (nar .boolean z65)), (.int (nar .boolean z73))] z7 T111.heap n0 Z111 V111_b11 rfl Va111 ne_b11_bx111 g_b11 hb_z7) hZ (hw _ (List.mem_of_getElem? (i := 10) rfl)) (hw _ (List.mem_of_getElem? (i := 9) rfl)) (by decide) (by decide)) (g := (mkF m 218 #[.val (.int init), .val (.int sq), .val (.int cnt), .val (.int fl), .val (.int z6), .val (.int (1 : Int32)), .val (.int z7), .val (.int z8), .val (.int z9), .val (.int z10), .val (.ref b11), .val (.ref bx111), .unset] [(.int z6), (.ref bx111), (.ref b11)])) rfl (by rw [hml]; rfl) (argsL := [(.ref b11), (.ref bx111), (.int z6)]) (rest := []) (lenOf pd_1 rfl) rfl (by show 2 * 0 + _ ≤ _; exact Nat.le_of_eq rfl) (hb hby at_218) (fun _ _ => ⟨rfl, rfl, (by decide : 2 + 0 ≤ _), (by decide : 9 + 0 ≤ _)⟩)
    dsimp only [Pt.U, Pt.locs, Pt.cells, Pt.slots] at X112 l112 y112 z112 st112 hQ112
    subst l112 y112 z112
    obtain ⟨Lm112, eLm112⟩ : ∃ z : List Value, z = ([(.int (nar .boolean z17)), (.int (nar .boolean z25)), (.int (nar .boolean z33)), (.int (nar .boolean z41)), (.int (nar .boolean z49)), (.int (nar .boolean z57)), (.int (nar .boolean z65)), (.int (nar .boolean z73))].set z7.toNatClampNeg (.int (nar .boolean z6))) := ⟨_, rfl⟩
    obtain ⟨rfl, N112q, K112, Vq112⟩ := hQ112
    rw [← eLm112] at Vq112
    have N112 := Fr.app N111 N112q
    have V112_bx111 := Va111.keep K112 (ninS (Ne.symm ne_b11_bx111) nin0)
    have Z112 := Nat.le_trans Z111 K112.1
    have KP112 := KP111.trans K112 (allS (Or.inr sz_b11) all0)
    obtain ⟨cl223_113, Ar223_113, q223_113, S223_113, N223_113_, H223_113, G223_113⟩ := id V112_bx111
    have hd114 : (1 : Int32) = (1 : Int32) := rfl
    have hd115 : ¬ ((1 : Int32) < (1 : Int32)) := by decide
    obtain ⟨cl238_116, Ar238_116, q238_116, S238_116, N238_116_, H238_116, G238_116⟩ := id V112_bx111
    have hin238_116 : ¬ ((0 : Int32) < 0 ∨ cl238_116.slots.size ≤ ((0 : Int32)).toNatClampNeg) := inb_of S238_116 ⟨by decide, by decide⟩
    have hat238_116 : cl238_116.slots[((0 : Int32)).toNatClampNeg]? = some (.int z7) := H238_116.at hin238_116 rfl
    have hd117 : z7 = z7 := rfl
    have hd118 : (1 : Int32) < (2 : Int32) := by decide
    have hd119 : (1 : Int32) < (3 : Int32) := by decide
    have hd120 : (1 : Int32) < (4 : Int32) := by decide
    have hd121 : ¬ ((1 : Int32) = (0 : Int32)) := by decide
    obtain ⟨xv122, exv122⟩ : ∃ z : Int32, z = (if z7 = (0 : Int32) then (nar .boolean z6) else ((nar .boolean z17))) := ⟨_, rfl⟩
    have hgxv122 : Lm112.getD ((0 : Int32)).toNatClampNeg (.int (0 : Int32)) = .int xv122 := by
      rw [exv122, eLm112]
      rw [own_getset _ _ _ _ _ hb_z7.1 (by decide) (by simp)]
      simp only [apply_ite Value.int]
      rfl
    obtain ⟨_, _, ⟨T123, L123, k123, n123⟩, -, X123, ⟨Lc123, hQ123, l123, y123, z123⟩, st123⟩ := Jvm.LawKit.callS X112 hx (y := (⟨"pushwise/BoxesPlacePinLaw", "at", "([ZIIIIIIIZ)Z"⟩ : MethodName)) hown (mvT hZ (hw _ (List.mem_of_getElem? (i := 11) rfl))) (mvT hZ (hw _ (List.mem_of_getElem? (i := 12) rfl))) (mvT hZ (hw _ (List.mem_of_getElem? (i := 4) rfl))) (mvT hZ (hw _ (List.mem_of_getElem? (i := 13) rfl))) (by decide) (backOf (W := 0) (rmAt l Z a0 hw [] b11 (0 : Int32) init (1 : Int32) z7 z8 z9 z10 z6 c11 Lm112 xv122 T112.heap n0 Vq112 (by decide) (by decide) hgxv122) hZ (hw _ (List.mem_of_getElem? (i := 13) rfl)) (hw _ (List.mem_of_getElem? (i := 4) rfl)) (by decide) (by decide)) (g := (mkF m 317 #[.val (.int init), .val (.int sq), .val (.int cnt), .val (.int fl), .val (.int z6), .val (.int (1 : Int32)), .val (.int z7), .val (.int z8), .val (.int z9), .val (.int z10), .val (.ref b11), .val (.ref bx111), .val (.int (1 : Int32))] [(.int z6), (.int z10), (.int z9), (.int z8), (.int z7), (.int (1 : Int32)), (.int init), (.int (0 : Int32)), (.ref b11)])) rfl (by rw [hml]; rfl) (argsL := [(.ref b11), (.int (0 : Int32)), (.int init), (.int (1 : Int32)), (.int z7), (.int z8), (.int z9), (.int z10), (.int z6)]) (rest := []) (lenOf pd_2 rfl) rfl (by show 2 * 0 + _ ≤ _; exact Nat.le_of_eq rfl) (hb hby at_317) (fun _ _ => ⟨rfl, rfl, (by decide : 2 + 0 ≤ _), (by decide : 9 + 0 ≤ _)⟩)
    dsimp only [Pt.U, Pt.locs, Pt.cells, Pt.slots] at X123 l123 y123 z123 st123 hQ123
    subst l123 y123 z123
    obtain ⟨rfl, N123q, e123⟩ := hQ123
    have N123 := Fr.app N112 N123q
    have hd124 : ¬ ((atF (0 : Int32) init (1 : Int32) z7 z8 z9 z10 z6 xv122) = (0 : Int32)) := own_at1 _ _ _ _ _ _ _ z17 _ (by rw [ez17, own_ushr0]) (by rw [exv122]; simp only [show nar .boolean z6 = z6 by rw [ez6]; exact own_nar01 _, show nar .boolean z17 = z17 by rw [ez17]; exact own_nar01 _])
    obtain ⟨xv125, exv125⟩ : ∃ z : Int32, z = (if z7 = (1 : Int32) then (nar .boolean z6) else ((nar .boolean z25))) := ⟨_, rfl⟩
    have hgxv125 : Lm112.getD ((1 : Int32)).toNatClampNeg (.int (0 : Int32)) = .int xv125 := by
      rw [exv125, eLm112]
      rw [own_getset _ _ _ _ _ hb_z7.1 (by decide) (by simp)]
      simp only [apply_ite Value.int]
      rfl
    obtain ⟨_, _, ⟨T126, L126, k126, n126⟩, -, X126, ⟨Lc126, hQ126, l126, y126, z126⟩, st126⟩ := Jvm.LawKit.callS X123 hx (y := (⟨"pushwise/BoxesPlacePinLaw", "at", "([ZIIIIIIIZ)Z"⟩ : MethodName)) hown (mvT hZ (hw _ (List.mem_of_getElem? (i := 11) rfl))) (mvT hZ (hw _ (List.mem_of_getElem? (i := 12) rfl))) (mvT hZ (hw _ (List.mem_of_getElem? (i := 4) rfl))) (mvT hZ (hw _ (List.mem_of_getElem? (i := 13) rfl))) (by decide) (backOf (W := 0) (rmAt l Z a0 hw [] b11 (1 : Int32) init (1 : Int32) z7 z8 z9 z10 z6 c11 Lm112 xv125 T112.heap n0 Vq112 (by decide) (by decide) hgxv125) hZ (hw _ (List.mem_of_getElem? (i := 13) rfl)) (hw _ (List.mem_of_getElem? (i := 4) rfl)) (by decide) (by decide)) (g := (mkF m 339 #[.val (.int init), .val (.int sq), .val (.int cnt), .val (.int fl), .val (.int z6), .val (.int (1 : Int32)), .val (.int z7), .val (.int z8), .val (.int z9), .val (.int z10), .val (.ref b11), .val (.ref bx111), .val (.int (1 : Int32))] [(.int z6), (.int z10), (.int z9), (.int z8), (.int z7), (.int (1 : Int32)), (.int init), (.int (1 : Int32)), (.ref b11)])) rfl (by rw [hml]; rfl) (argsL := [(.ref b11), (.int (1 : Int32)), (.int init), (.int (1 : Int32)), (.int z7), (.int z8), (.int z9), (.int z10), (.int z6)]) (rest := []) (lenOf pd_2 rfl) rfl (by show 2 * 0 + _ ≤ _; exact Nat.le_of_eq rfl) (hb hby at_339) (fun _ _ => ⟨rfl, e123, (by decide : 2 + 0 ≤ _), (by decide : 9 + 0 ≤ _)⟩)
    dsimp only [Pt.U, Pt.locs, Pt.cells, Pt.slots] at X126 l126 y126 z126 st126 hQ126
    subst l126 y126 z126
    obtain ⟨rfl, N126q, e126⟩ := hQ126
    have N126 := Fr.app N123 N126q
    have hd127 : ¬ ((atF (1 : Int32) init (1 : Int32) z7 z8 z9 z10 z6 xv125) = (0 : Int32)) := own_at1 _ _ _ _ _ _ _ z25 _ (by rw [ez25]) (by rw [exv125]; simp only [show nar .boolean z6 = z6 by rw [ez6]; exact own_nar01 _, show nar .boolean z25 = z25 by rw [ez25]; exact own_nar01 _])
    obtain ⟨xv128, exv128⟩ : ∃ z : Int32, z = (if z7 = (2 : Int32) then (nar .boolean z6) else ((nar .boolean z33))) := ⟨_, rfl⟩
    have hgxv128 : Lm112.getD ((2 : Int32)).toNatClampNeg (.int (0 : Int32)) = .int xv128 := by
      rw [exv128, eLm112]
      rw [own_getset _ _ _ _ _ hb_z7.1 (by decide) (by simp)]
      simp only [apply_ite Value.int]
      rfl
    obtain ⟨_, _, ⟨T129, L129, k129, n129⟩, -, X129, ⟨Lc129, hQ129, l129, y129, z129⟩, st129⟩ := Jvm.LawKit.callS X126 hx (y := (⟨"pushwise/BoxesPlacePinLaw", "at", "([ZIIIIIIIZ)Z"⟩ : MethodName)) hown (mvT hZ (hw _ (List.mem_of_getElem? (i := 11) rfl))) (mvT hZ (hw _ (List.mem_of_getElem? (i := 12) rfl))) (mvT hZ (hw _ (List.mem_of_getElem? (i := 4) rfl))) (mvT hZ (hw _ (List.mem_of_getElem? (i := 13) rfl))) (by decide) (backOf (W := 0) (rmAt l Z a0 hw [] b11 (2 : Int32) init (1 : Int32) z7 z8 z9 z10 z6 c11 Lm112 xv128 T112.heap n0 Vq112 (by decide) (by decide) hgxv128) hZ (hw _ (List.mem_of_getElem? (i := 13) rfl)) (hw _ (List.mem_of_getElem? (i := 4) rfl)) (by decide) (by decide)) (g := (mkF m 361 #[.val (.int init), .val (.int sq), .val (.int cnt), .val (.int fl), .val (.int z6), .val (.int (1 : Int32)), .val (.int z7), .val (.int z8), .val (.int z9), .val (.int z10), .val (.ref b11), .val (.ref bx111), .val (.int (1 : Int32))] [(.int z6), (.int z10), (.int z9), (.int z8), (.int z7), (.int (1 : Int32)), (.int init), (.int (2 : Int32)), (.ref b11)])) rfl (by rw [hml]; rfl) (argsL := [(.ref b11), (.int (2 : Int32)), (.int init), (.int (1 : Int32)), (.int z7), (.int z8), (.int z9), (.int z10), (.int z6)]) (rest := []) (lenOf pd_2 rfl) rfl (by show 2 * 0 + _ ≤ _; exact Nat.le_of_eq rfl) (hb hby at_361) (fun _ _ => ⟨rfl, e126, (by decide : 2 + 0 ≤ _), (by decide : 9 + 0 ≤ _)⟩)
    dsimp only [Pt.U, Pt.locs, Pt.cells, Pt.slots] at X129 l129 y129 z129 st129 hQ129
    subst l129 y129 z129
    obtain ⟨rfl, N129q, e129⟩ := hQ129
    have N129 := Fr.app N126 N129q
    have hd130 : ¬ ((atF (2 : Int32) init (1 : Int32) z7 z8 z9 z10 z6 xv128) = (0 : Int32)) := own_at1 _ _ _ _ _ _ _ z33 _ (by rw [ez33]) (by rw [exv128]; simp only [show nar .boolean z6 = z6 by rw [ez6]; exact own_nar01 _, show nar .boolean z33 = z33 by rw [ez33]; exact own_nar01 _])
    obtain ⟨xv131, exv131⟩ : ∃ z : Int32, z = (if z7 = (3 : Int32) then (nar .boolean z6) else ((nar .boolean z41))) := ⟨_, rfl⟩
    have hgxv131 : Lm112.getD ((3 : Int32)).toNatClampNeg (.int (0 : Int32)) = .int xv131 := by
      rw [exv131, eLm112]
      rw [own_getset _ _ _ _ _ hb_z7.1 (by decide) (by simp)]
      simp only [apply_ite Value.int]
      rfl
    obtain ⟨_, _, ⟨T132, L132, k132, n132⟩, -, X132, ⟨Lc132, hQ132, l132, y132, z132⟩, st132⟩ := Jvm.LawKit.callS X129 hx (y := (⟨"pushwise/BoxesPlacePinLaw", "at", "([ZIIIIIIIZ)Z"⟩ : MethodName)) hown (mvT hZ (hw _ (List.mem_of_getElem? (i := 11) rfl))) (mvT hZ (hw _ (List.mem_of_getElem? (i := 12) rfl))) (mvT hZ (hw _ (List.mem_of_getElem? (i := 4) rfl))) (mvT hZ (hw _ (List.mem_of_getElem? (i := 13) rfl))) (by decide) (backOf (W := 0) (rmAt l Z a0 hw [] b11 (3 : Int32) init (1 : Int32) z7 z8 z9 z10 z6 c11 Lm112 xv131 T112.heap n0 Vq112 (by decide) (by decide) hgxv131) hZ (hw _ (List.mem_of_getElem? (i := 13) rfl)) (hw _ (List.mem_of_getElem? (i := 4) rfl)) (by decide) (by decide)) (g := (mkF m 383 #[.val (.int init), .val (.int sq), .val (.int cnt), .val (.int fl), .val (.int z6), .val (.int (1 : Int32)), .val (.int z7), .val (.int z8), .val (.int z9), .val (.int z10), .val (.ref b11), .val (.ref bx111), .val (.int (1 : Int32))] [(.int z6), (.int z10), (.int z9), (.int z8), (.int z7), (.int (1 : Int32)), (.int init), (.int (3 : Int32)), (.ref b11)])) rfl (by rw [hml]; rfl) (argsL := [(.ref b11), (.int (3 : Int32)), (.int init), (.int (1 : Int32)), (.int z7), (.int z8), (.int z9), (.int z10), (.int z6)]) (rest := []) (lenOf pd_2 rfl) rfl (by show 2 * 0 + _ ≤ _; exact Nat.le_of_eq rfl) (hb hby at_383) (fun _ _ => ⟨rfl, e129, (by decide : 2 + 0 ≤ _), (by decide : 9 + 0 ≤ _)⟩)
    dsimp only [Pt.U, Pt.locs, Pt.cells, Pt.slots] at X132 l132 y132 z132 st132 hQ132
    subst l132 y132 z132
    obtain ⟨rfl, N132q, e132⟩ := hQ132
    have N132 := Fr.app N129 N132q
    have hd133 : ¬ ((atF (3 : Int32) init (1 : Int32) z7 z8 z9 z10 z6 xv131) = (0 : Int32)) := own_at1 _ _ _ _ _ _ _ z41 _ (by rw [ez41]) (by rw [exv131]; simp only [show nar .boolean z6 = z6 by rw [ez6]; exact own_nar01 _, show nar .boolean z41 = z41 by rw [ez41]; exact own_nar01 _])
    obtain ⟨xv134, exv134⟩ : ∃ z : Int32, z = (if z7 = (4 : Int32) then (nar .boolean z6) else ((nar .boolean z49))) := ⟨_, rfl⟩
    have hgxv134 : Lm112.getD ((4 : Int32)).toNatClampNeg (.int (0 : Int32)) = .int xv134 := by
      rw [exv134, eLm112]
      rw [own_getset _ _ _ _ _ hb_z7.1 (by decide) (by simp)]
      simp only [apply_ite Value.int]
      rfl
    obtain ⟨_, _, ⟨T135, L135, k135, n135⟩, -, X135, ⟨Lc135, hQ135, l135, y135, z135⟩, st135⟩ := Jvm.LawKit.callS X132 hx (y := (⟨"pushwise/BoxesPlacePinLaw", "at", "([ZIIIIIIIZ)Z"⟩ : MethodName)) hown (mvT hZ (hw _ (List.mem_of_getElem? (i := 11) rfl))) (mvT hZ (hw _ (List.mem_of_getElem? (i := 12) rfl))) (mvT hZ (hw _ (List.mem_of_getElem? (i := 4) rfl))) (mvT hZ (hw _ (List.mem_of_getElem? (i := 13) rfl))) (by decide) (backOf (W := 0) (rmAt l Z a0 hw [] b11 (4 : Int32) init (1 : Int32) z7 z8 z9 z10 z6 c11 Lm112 xv134 T112.heap n0 Vq112 (by decide) (by decide) hgxv134) hZ (hw _ (List.mem_of_getElem? (i := 13) rfl)) (hw _ (List.mem_of_getElem? (i := 4) rfl)) (by decide) (by decide)) (g := (mkF m 405 #[.val (.int init), .val (.int sq), .val (.int cnt), .val (.int fl), .val (.int z6), .val (.int (1 : Int32)), .val (.int z7), .val (.int z8), .val (.int z9), .val (.int z10), .val (.ref b11), .val (.ref bx111), .val (.int (1 : Int32))] [(.int z6), (.int z10), (.int z9), (.int z8), (.int z7), (.int (1 : Int32)), (.int init), (.int (4 : Int32)), (.ref b11)])) rfl (by rw [hml]; rfl) (argsL := [(.ref b11), (.int (4 : Int32)), (.int init), (.int (1 : Int32)), (.int z7), (.int z8), (.int z9), (.int z10), (.int z6)]) (rest := []) (lenOf pd_2 rfl) rfl (by show 2 * 0 + _ ≤ _; exact Nat.le_of_eq rfl) (hb hby at_405) (fun _ _ => ⟨rfl, e132, (by decide : 2 + 0 ≤ _), (by decide : 9 + 0 ≤ _)⟩)
    dsimp only [Pt.U, Pt.locs, Pt.cells, Pt.slots] at X135 l135 y135 z135 st135 hQ135
    subst l135 y135 z135
    obtain ⟨rfl, N135q, e135⟩ := hQ135
    have N135 := Fr.app N132 N135q
    have hd136 : ¬ ((atF (4 : Int32) init (1 : Int32) z7 z8 z9 z10 z6 xv134) = (0 : Int32)) := own_at1 _ _ _ _ _ _ _ z49 _ (by rw [ez49]) (by rw [exv134]; simp only [show nar .boolean z6 = z6 by rw [ez6]; exact own_nar01 _, show nar .boolean z49 = z49 by rw [ez49]; exact own_nar01 _])
    obtain ⟨xv137, exv137⟩ : ∃ z : Int32, z = (if z7 = (5 : Int32) then (nar .boolean z6) else ((nar .boolean z57))) := ⟨_, rfl⟩
    have hgxv137 : Lm112.getD ((5 : Int32)).toNatClampNeg (.int (0 : Int32)) = .int xv137 := by
      rw [exv137, eLm112]
      rw [own_getset _ _ _ _ _ hb_z7.1 (by decide) (by simp)]
      simp only [apply_ite Value.int]
      rfl
    obtain ⟨_, _, ⟨T138, L138, k138, n138⟩, -, X138, ⟨Lc138, hQ138, l138, y138, z138⟩, st138⟩ := Jvm.LawKit.callS X135 hx (y := (⟨"pushwise/BoxesPlacePinLaw", "at", "([ZIIIIIIIZ)Z"⟩ : MethodName)) hown (mvT hZ (hw _ (List.mem_of_getElem? (i := 11) rfl))) (mvT hZ (hw _ (List.mem_of_getElem? (i := 12) rfl))) (mvT hZ (hw _ (List.mem_of_getElem? (i := 4) rfl))) (mvT hZ (hw _ (List.mem_of_getElem? (i := 13) rfl))) (by decide) (backOf (W := 0) (rmAt l Z a0 hw [] b11 (5 : Int32) init (1 : Int32) z7 z8 z9 z10 z6 c11 Lm112 xv137 T112.heap n0 Vq112 (by decide) (by decide) hgxv137) hZ (hw _ (List.mem_of_getElem? (i := 13) rfl)) (hw _ (List.mem_of_getElem? (i := 4) rfl)) (by decide) (by decide)) (g := (mkF m 427 #[.val (.int init), .val (.int sq), .val (.int cnt), .val (.int fl), .val (.int z6), .val (.int (1 : Int32)), .val (.int z7), .val (.int z8), .val (.int z9), .val (.int z10), .val (.ref b11), .val (.ref bx111), .val (.int (1 : Int32))] [(.int z6), (.int z10), (.int z9), (.int z8), (.int z7), (.int (1 : Int32)), (.int init), (.int (5 : Int32)), (.ref b11)])) rfl (by rw [hml]; rfl) (argsL := [(.ref b11), (.int (5 : Int32)), (.int init), (.int (1 : Int32)), (.int z7), (.int z8), (.int z9), (.int z10), (.int z6)]) (rest := []) (lenOf pd_2 rfl) rfl (by show 2 * 0 + _ ≤ _; exact Nat.le_of_eq rfl) (hb hby at_427) (fun _ _ => ⟨rfl, e135, (by decide : 2 + 0 ≤ _), (by decide : 9 + 0 ≤ _)⟩)
    dsimp only [Pt.U, Pt.locs, Pt.cells, Pt.slots] at X138 l138 y138 z138 st138 hQ138
    subst l138 y138 z138
    obtain ⟨rfl, N138q, e138⟩ := hQ138
    have N138 := Fr.app N135 N138q
    have hd139 : ¬ ((atF (5 : Int32) init (1 : Int32) z7 z8 z9 z10 z6 xv137) = (0 : Int32)) := own_at1 _ _ _ _ _ _ _ z57 _ (by rw [ez57]) (by rw [exv137]; simp only [show nar .boolean z6 = z6 by rw [ez6]; exact own_nar01 _, show nar .boolean z57 = z57 by rw [ez57]; exact own_nar01 _])
    obtain ⟨xv140, exv140⟩ : ∃ z : Int32, z = (if z7 = (6 : Int32) then (nar .boolean z6) else ((nar .boolean z65))) := ⟨_, rfl⟩
    have hgxv140 : Lm112.getD ((6 : Int32)).toNatClampNeg (.int (0 : Int32)) = .int xv140 := by
      rw [exv140, eLm112]
      rw [own_getset _ _ _ _ _ hb_z7.1 (by decide) (by simp)]
      simp only [apply_ite Value.int]
      rfl
    obtain ⟨_, _, ⟨T141, L141, k141, n141⟩, -, X141, ⟨Lc141, hQ141, l141, y141, z141⟩, st141⟩ := Jvm.LawKit.callS X138 hx (y := (⟨"pushwise/BoxesPlacePinLaw", "at", "([ZIIIIIIIZ)Z"⟩ : MethodName)) hown (mvT hZ (hw _ (List.mem_of_getElem? (i := 11) rfl))) (mvT hZ (hw _ (List.mem_of_getElem? (i := 12) rfl))) (mvT hZ (hw _ (List.mem_of_getElem? (i := 4) rfl))) (mvT hZ (hw _ (List.mem_of_getElem? (i := 13) rfl))) (by decide) (backOf (W := 0) (rmAt l Z a0 hw [] b11 (6 : Int32) init (1 : Int32) z7 z8 z9 z10 z6 c11 Lm112 xv140 T112.heap n0 Vq112 (by decide) (by decide) hgxv140) hZ (hw _ (List.mem_of_getElem? (i := 13) rfl)) (hw _ (List.mem_of_getElem? (i := 4) rfl)) (by decide) (by decide)) (g := (mkF m 450 #[.val (.int init), .val (.int sq), .val (.int cnt), .val (.int fl), .val (.int z6), .val (.int (1 : Int32)), .val (.int z7), .val (.int z8), .val (.int z9), .val (.int z10), .val (.ref b11), .val (.ref bx111), .val (.int (1 : Int32))] [(.int z6), (.int z10), (.int z9), (.int z8), (.int z7), (.int (1 : Int32)), (.int init), (.int (6 : Int32)), (.ref b11)])) rfl (by rw [hml]; rfl) (argsL := [(.ref b11), (.int (6 : Int32)), (.int init), (.int (1 : Int32)), (.int z7), (.int z8), (.int z9), (.int z10), (.int z6)]) (rest := []) (lenOf pd_2 rfl) rfl (by show 2 * 0 + _ ≤ _; exact Nat.le_of_eq rfl) (hb hby at_450) (fun _ _ => ⟨rfl, e138, (by decide : 2 + 0 ≤ _), (by decide : 9 + 0 ≤ _)⟩)
    dsimp only [Pt.U, Pt.locs, Pt.cells, Pt.slots] at X141 l141 y141 z141 st141 hQ141
    subst l141 y141 z141
    obtain ⟨rfl, N141q, e141⟩ := hQ141
    have N141 := Fr.app N138 N141q
    have hd142 : ¬ ((atF (6 : Int32) init (1 : Int32) z7 z8 z9 z10 z6 xv140) = (0 : Int32)) := own_at1 _ _ _ _ _ _ _ z65 _ (by rw [ez65]) (by rw [exv140]; simp only [show nar .boolean z6 = z6 by rw [ez6]; exact own_nar01 _, show nar .boolean z65 = z65 by rw [ez65]; exact own_nar01 _])
    obtain ⟨xv143, exv143⟩ : ∃ z : Int32, z = (if z7 = (7 : Int32) then (nar .boolean z6) else ((nar .boolean z73))) := ⟨_, rfl⟩
    have hgxv143 : Lm112.getD ((7 : Int32)).toNatClampNeg (.int (0 : Int32)) = .int xv143 := by
      rw [exv143, eLm112]
      rw [own_getset _ _ _ _ _ hb_z7.1 (by decide) (by simp)]
      simp only [apply_ite Value.int]
      rfl
    obtain ⟨_, _, ⟨T144, L144, k144, n144⟩, -, X144, ⟨Lc144, hQ144, l144, y144, z144⟩, st144⟩ := Jvm.LawKit.callS X141 hx (y := (⟨"pushwise/BoxesPlacePinLaw", "at", "([ZIIIIIIIZ)Z"⟩ : MethodName)) hown (mvT hZ (hw _ (List.mem_of_getElem? (i := 11) rfl))) (mvT hZ (hw _ (List.mem_of_getElem? (i := 12) rfl))) (mvT hZ (hw _ (List.mem_of_getElem? (i := 4) rfl))) (mvT hZ (hw _ (List.mem_of_getElem? (i := 13) rfl))) (by decide) (backOf (W := 0) (rmAt l Z a0 hw [] b11 (7 : Int32) init (1 : Int32) z7 z8 z9 z10 z6 c11 Lm112 xv143 T112.heap n0 Vq112 (by decide) (by decide) hgxv143) hZ (hw _ (List.mem_of_getElem? (i := 13) rfl)) (hw _ (List.mem_of_getElem? (i := 4) rfl)) (by decide) (by decide)) (g := (mkF m 473 #[.val (.int init), .val (.int sq), .val (.int cnt), .val (.int fl), .val (.int z6), .val (.int (1 : Int32)), .val (.int z7), .val (.int z8), .val (.int z9), .val (.int z10), .val (.ref b11), .val (.ref bx111), .val (.int (1 : Int32))] [(.int z6), (.int z10), (.int z9), (.int z8), (.int z7), (.int (1 : Int32)), (.int init), (.int (7 : Int32)), (.ref b11)])) rfl (by rw [hml]; rfl) (argsL := [(.ref b11), (.int (7 : Int32)), (.int init), (.int (1 : Int32)), (.int z7), (.int z8), (.int z9), (.int z10), (.int z6)]) (rest := []) (lenOf pd_2 rfl) rfl (by show 2 * 0 + _ ≤ _; exact Nat.le_of_eq rfl) (hb hby at_473) (fun _ _ => ⟨rfl, e141, (by decide : 2 + 0 ≤ _), (by decide : 9 + 0 ≤ _)⟩)
    dsimp only [Pt.U, Pt.locs, Pt.cells, Pt.slots] at X144 l144 y144 z144 st144 hQ144
    subst l144 y144 z144
    obtain ⟨rfl, N144q, e144⟩ := hQ144
    have N144 := Fr.app N141 N144q
    have hd145 : ¬ ((atF (7 : Int32) init (1 : Int32) z7 z8 z9 z10 z6 xv143) = (0 : Int32)) := own_at1 _ _ _ _ _ _ _ z73 _ (by rw [ez73]) (by rw [exv143]; simp only [show nar .boolean z6 = z6 by rw [ez6]; exact own_nar01 _, show nar .boolean z73 = z73 by rw [ez73]; exact own_nar01 _])
    have k146 : ∀ tg, Steps p.tables e below (T144.setTop (mkF m 484 #[.val (.int init), .val (.int sq), .val (.int cnt), .val (.int fl), .val (.int z6), .val (.int (1 : Int32)), .val (.int z7), .val (.int z8), .val (.int z9), .val (.int z10), .val (.ref b11), .val (.ref bx111), .val (.int (1 : Int32))] [(.int (1 : Int32))])) tg → Steps p.tables e below (s₁.setTop (entryFrame m #[(.int init), (.int sq), (.int cnt), (.int fl)] maxLocals)) tg := by
      intro tg kt
      refine k76 tg ?_
      show Steps p.tables e below (T75.setTop (mkF m 197 #[.val (.int init), .val (.int sq), .val (.int cnt), .val (.int fl), .val (.int z6), .val (.int ((cnt &&& (2147483647 : Int32)) % (5 : Int32))), .val (.int z7), .val (.int z8), .val (.int z9), .val (.int z10), .val (.ref b11), .unset, .unset] [])) _
      rw [hn]
      show Steps p.tables e below (T75.setTop (mkF m 197 #[.val (.int init), .val (.int sq), .val (.int cnt), .val (.int fl), .val (.int z6), .val (.int (1 : Int32)), .val (.int z7), .val (.int z8), .val (.int z9), .val (.int z10), .val (.ref b11), .unset, .unset] [])) _
      refine XS.iload X75.here hx rfl (hb hby at_197) rfl ?_
      show Steps p.tables e below (T75.setTop (mkF m 199 #[.val (.int init), .val (.int sq), .val (.int cnt), .val (.int fl), .val (.int z6), .val (.int (1 : Int32)), .val (.int z7), .val (.int z8), .val (.int z9), .val (.int z10), .val (.ref b11), .unset, .unset] [(.int (1 : Int32))])) _
      refine XS.iload X75.here hx rfl (hb hby at_199) rfl ?_
      show Steps p.tables e below (T75.setTop (mkF m 201 #[.val (.int init), .val (.int sq), .val (.int cnt), .val (.int fl), .val (.int z6), .val (.int (1 : Int32)), .val (.int z7), .val (.int z8), .val (.int z9), .val (.int z10), .val (.ref b11), .unset, .unset] [(.int z7), (.int (1 : Int32))])) _
      refine XS.iload X75.here hx rfl (hb hby at_201) rfl ?_
      show Steps p.tables e below (T75.setTop (mkF m 203 #[.val (.int init), .val (.int sq), .val (.int cnt), .val (.int fl), .val (.int z6), .val (.int (1 : Int32)), .val (.int z7), .val (.int z8), .val (.int z9), .val (.int z10), .val (.ref b11), .unset, .unset] [(.int z8), (.int z7), (.int (1 : Int32))])) _
      refine XS.iload X75.here hx rfl (hb hby at_203) rfl ?_
      show Steps p.tables e below (T75.setTop (mkF m 205 #[.val (.int init), .val (.int sq), .val (.int cnt), .val (.int fl), .val (.int z6), .val (.int (1 : Int32)), .val (.int z7), .val (.int z8), .val (.int z9), .val (.int z10), .val (.ref b11), .unset, .unset] [(.int z9), (.int z8), (.int z7), (.int (1 : Int32))])) _
      refine XS.iload X75.here hx rfl (hb hby at_205) rfl ?_
      show Steps p.tables e below (T75.setTop (mkF m 207 #[.val (.int init), .val (.int sq), .val (.int cnt), .val (.int fl), .val (.int z6), .val (.int (1 : Int32)), .val (.int z7), .val (.int z8), .val (.int z9), .val (.int z10), .val (.ref b11), .unset, .unset] [(.int z10), (.int z9), (.int z8), (.int z7), (.int (1 : Int32))])) _
      refine st111 _ ?_
      show Steps p.tables e below (T111.setTop (mkF m 210 #[.val (.int init), .val (.int sq), .val (.int cnt), .val (.int fl), .val (.int z6), .val (.int (1 : Int32)), .val (.int z7), .val (.int z8), .val (.int z9), .val (.int z10), .val (.ref b11), .unset, .unset] [(.ref bx111)])) _
      refine XS.astore X111.here hx rfl (hb hby at_210) rfl rfl (l' := #[.val (.int init), .val (.int sq), .val (.int cnt), .val (.int fl), .val (.int z6), .val (.int (1 : Int32)), .val (.int z7), .val (.int z8), .val (.int z9), .val (.int z10), .val (.ref b11), .val (.ref bx111), .unset]) rfl ?_
      show Steps p.tables e below (T111.setTop (mkF m 212 #[.val (.int init), .val (.int sq), .val (.int cnt), .val (.int fl), .val (.int z6), .val (.int (1 : Int32)), .val (.int z7), .val (.int z8), .val (.int z9), .val (.int z10), .val (.ref b11), .val (.ref bx111), .unset] [])) _
      refine XS.aload X111.here hx rfl (hb hby at_212) rfl rfl ?_
      show Steps p.tables e below (T111.setTop (mkF m 214 #[.val (.int init), .val (.int sq), .val (.int cnt), .val (.int fl), .val (.int z6), .val (.int (1 : Int32)), .val (.int z7), .val (.int z8), .val (.int z9), .val (.int z10), .val (.ref b11), .val (.ref bx111), .unset] [(.ref b11)])) _
      refine XS.aload X111.here hx rfl (hb hby at_214) rfl rfl ?_
      show Steps p.tables e below (T111.setTop (mkF m 216 #[.val (.int init), .val (.int sq), .val (.int cnt), .val (.int fl), .val (.int z6), .val (.int (1 : Int32)), .val (.int z7), .val (.int z8), .val (.int z9), .val (.int z10), .val (.ref b11), .val (.ref bx111), .unset] [(.ref bx111), (.ref b11)])) _
      refine XS.iload X111.here hx rfl (hb hby at_216) rfl ?_
      show Steps p.tables e below (T111.setTop (mkF m 218 #[.val (.int init), .val (.int sq), .val (.int cnt), .val (.int fl), .val (.int z6), .val (.int (1 : Int32)), .val (.int z7), .val (.int z8), .val (.int z9), .val (.int z10), .val (.ref b11), .val (.ref bx111), .unset] [(.int z6), (.ref bx111), (.ref b11)])) _
      refine st112 _ ?_
      show Steps p.tables e below (T112.setTop (mkF m 221 #[.val (.int init), .val (.int sq), .val (.int cnt), .val (.int fl), .val (.int z6), .val (.int (1 : Int32)), .val (.int z7), .val (.int z8), .val (.int z9), .val (.int z10), .val (.ref b11), .val (.ref bx111), .unset] [])) _
      refine XS.aload X112.here hx rfl (hb hby at_221) rfl rfl ?_
      show Steps p.tables e below (T112.setTop (mkF m 223 #[.val (.int init), .val (.int sq), .val (.int cnt), .val (.int fl), .val (.int z6), .val (.int (1 : Int32)), .val (.int z7), .val (.int z8), .val (.int z9), .val (.int z10), .val (.ref b11), .val (.ref bx111), .unset] [(.ref bx111)])) _
      refine X112.arraylength hx (by exact Ar223_113.1) (State.isArrayOf_alike hZ.alike Ar223_113.2.1) (g := (mkF m 223 #[.val (.int init), .val (.int sq), .val (.int cnt), .val (.int fl), .val (.int z6), .val (.int (1 : Int32)), .val (.int z7), .val (.int z8), .val (.int z9), .val (.int z10), .val (.ref b11), .val (.ref bx111), .unset] [(.ref bx111)])) rfl rfl (hb hby at_223) _ ?_
      rw [len_of S223_113 N223_113_]
      show Steps p.tables e below (T112.setTop (mkF m 224 #[.val (.int init), .val (.int sq), .val (.int cnt), .val (.int fl), .val (.int z6), .val (.int (1 : Int32)), .val (.int z7), .val (.int z8), .val (.int z9), .val (.int z10), .val (.ref b11), .val (.ref bx111), .unset] [(.int (1 : Int32))])) _
      refine XS.iload X112.here hx rfl (hb hby at_224) rfl ?_
      show Steps p.tables e below (T112.setTop (mkF m 226 #[.val (.int init), .val (.int sq), .val (.int cnt), .val (.int fl), .val (.int z6), .val (.int (1 : Int32)), .val (.int z7), .val (.int z8), .val (.int z9), .val (.int z10), .val (.ref b11), .val (.ref bx111), .unset] [(.int (1 : Int32)), (.int (1 : Int32))])) _
      refine XS.icmpNo X112.here hx rfl (hb hby at_226) rfl (teq hd114).2 ?_
      show Steps p.tables e below (T112.setTop (mkF m 229 #[.val (.int init), .val (.int sq), .val (.int cnt), .val (.int fl), .val (.int z6), .val (.int (1 : Int32)), .val (.int z7), .val (.int z8), .val (.int z9), .val (.int z10), .val (.ref b11), .val (.ref bx111), .unset] [])) _
      refine XS.iload X112.here hx rfl (hb hby at_229) rfl ?_
      show Steps p.tables e below (T112.setTop (mkF m 231 #[.val (.int init), .val (.int sq), .val (.int cnt), .val (.int fl), .val (.int z6), .val (.int (1 : Int32)), .val (.int z7), .val (.int z8), .val (.int z9), .val (.int z10), .val (.ref b11), .val (.ref bx111), .unset] [(.int (1 : Int32))])) _
      refine XS.iconst X112.here hx rfl (hb hby at_231) ?_
      show Steps p.tables e below (T112.setTop (mkF m 232 #[.val (.int init), .val (.int sq), .val (.int cnt), .val (.int fl), .val (.int z6), .val (.int (1 : Int32)), .val (.int z7), .val (.int z8), .val (.int z9), .val (.int z10), .val (.ref b11), .val (.ref bx111), .unset] [(.int (1 : Int32)), (.int (1 : Int32))])) _
      refine XS.icmpNo X112.here hx rfl (hb hby at_232) rfl (flt hd115).1 ?_
      show Steps p.tables e below (T112.setTop (mkF m 235 #[.val (.int init), .val (.int sq), .val (.int cnt), .val (.int fl), .val (.int z6), .val (.int (1 : Int32)), .val (.int z7), .val (.int z8), .val (.int z9), .val (.int z10), .val (.ref b11), .val (.ref bx111), .unset] [])) _
      refine XS.aload X112.here hx rfl (hb hby at_235) rfl rfl ?_
      show Steps p.tables e below (T112.setTop (mkF m 237 #[.val (.int init), .val (.int sq), .val (.int cnt), .val (.int fl), .val (.int z6), .val (.int (1 : Int32)), .val (.int z7), .val (.int z8), .val (.int z9), .val (.int z10), .val (.ref b11), .val (.ref bx111), .unset] [(.ref bx111)])) _
      refine XS.iconst X112.here hx rfl (hb hby at_237) ?_
      show Steps p.tables e below (T112.setTop (mkF m 238 #[.val (.int init), .val (.int sq), .val (.int cnt), .val (.int fl), .val (.int z6), .val (.int (1 : Int32)), .val (.int z7), .val (.int z8), .val (.int z9), .val (.int z10), .val (.ref b11), .val (.ref bx111), .unset] [(.int (0 : Int32)), (.ref bx111)])) _
      refine X112.iaload hx (j := (0 : Int32)) (v := (.int z7)) (by exact Ar238_116.1) (State.isArrayOf_alike hZ.alike Ar238_116.2.1) Ar238_116.2.2 hin238_116 hat238_116 (g := (mkF m 238 #[.val (.int init), .val (.int sq), .val (.int cnt), .val (.int fl), .val (.int z6), .val (.int (1 : Int32)), .val (.int z7), .val (.int z8), .val (.int z9), .val (.int z10), .val (.ref b11), .val (.ref bx111), .unset] [(.int (0 : Int32)), (.ref bx111)])) rfl rfl (hb hby at_238) _ ?_
      show Steps p.tables e below (T112.setTop (mkF m 239 #[.val (.int init), .val (.int sq), .val (.int cnt), .val (.int fl), .val (.int z6), .val (.int (1 : Int32)), .val (.int z7), .val (.int z8), .val (.int z9), .val (.int z10), .val (.ref b11), .val (.ref bx111), .unset] [(.int z7)])) _
      refine XS.iload X112.here hx rfl (hb hby at_239) rfl ?_
      show Steps p.tables e below (T112.setTop (mkF m 241 #[.val (.int init), .val (.int sq), .val (.int cnt), .val (.int fl), .val (.int z6), .val (.int (1 : Int32)), .val (.int z7), .val (.int z8), .val (.int z9), .val (.int z10), .val (.ref b11), .val (.ref bx111), .unset] [(.int z7), (.int z7)])) _
      refine XS.icmpNo X112.here hx rfl (hb hby at_241) rfl (teq hd117).2 ?_
      show Steps p.tables e below (T112.setTop (mkF m 244 #[.val (.int init), .val (.int sq), .val (.int cnt), .val (.int fl), .val (.int z6), .val (.int (1 : Int32)), .val (.int z7), .val (.int z8), .val (.int z9), .val (.int z10), .val (.ref b11), .val (.ref bx111), .unset] [])) _
      refine XS.iload X112.here hx rfl (hb hby at_244) rfl ?_
      show Steps p.tables e below (T112.setTop (mkF m 246 #[.val (.int init), .val (.int sq), .val (.int cnt), .val (.int fl), .val (.int z6), .val (.int (1 : Int32)), .val (.int z7), .val (.int z8), .val (.int z9), .val (.int z10), .val (.ref b11), .val (.ref bx111), .unset] [(.int (1 : Int32))])) _
      refine XS.iconst X112.here hx rfl (hb hby at_246) ?_
      show Steps p.tables e below (T112.setTop (mkF m 247 #[.val (.int init), .val (.int sq), .val (.int cnt), .val (.int fl), .val (.int z6), .val (.int (1 : Int32)), .val (.int z7), .val (.int z8), .val (.int z9), .val (.int z10), .val (.ref b11), .val (.ref bx111), .unset] [(.int (2 : Int32)), (.int (1 : Int32))])) _
      refine XS.icmpYes X112.here hx rfl (pc0 := 247) (pc' := 259) rfl (hb hby at_247) rfl (tlt hd118).1 (by decide) (by decide) ?_
      show Steps p.tables e below (T112.setTop (mkF m 259 #[.val (.int init), .val (.int sq), .val (.int cnt), .val (.int fl), .val (.int z6), .val (.int (1 : Int32)), .val (.int z7), .val (.int z8), .val (.int z9), .val (.int z10), .val (.ref b11), .val (.ref bx111), .unset] [])) _
      refine XS.iload X112.here hx rfl (hb hby at_259) rfl ?_
      show Steps p.tables e below (T112.setTop (mkF m 261 #[.val (.int init), .val (.int sq), .val (.int cnt), .val (.int fl), .val (.int z6), .val (.int (1 : Int32)), .val (.int z7), .val (.int z8), .val (.int z9), .val (.int z10), .val (.ref b11), .val (.ref bx111), .unset] [(.int (1 : Int32))])) _
      refine XS.iconst X112.here hx rfl (hb hby at_261) ?_
      show Steps p.tables e below (T112.setTop (mkF m 262 #[.val (.int init), .val (.int sq), .val (.int cnt), .val (.int fl), .val (.int z6), .val (.int (1 : Int32)), .val (.int z7), .val (.int z8), .val (.int z9), .val (.int z10), .val (.ref b11), .val (.ref bx111), .unset] [(.int (3 : Int32)), (.int (1 : Int32))])) _
      refine XS.icmpYes X112.here hx rfl (pc0 := 262) (pc' := 274) rfl (hb hby at_262) rfl (tlt hd119).1 (by decide) (by decide) ?_
      show Steps p.tables e below (T112.setTop (mkF m 274 #[.val (.int init), .val (.int sq), .val (.int cnt), .val (.int fl), .val (.int z6), .val (.int (1 : Int32)), .val (.int z7), .val (.int z8), .val (.int z9), .val (.int z10), .val (.ref b11), .val (.ref bx111), .unset] [])) _
      refine XS.iload X112.here hx rfl (hb hby at_274) rfl ?_
      show Steps p.tables e below (T112.setTop (mkF m 276 #[.val (.int init), .val (.int sq), .val (.int cnt), .val (.int fl), .val (.int z6), .val (.int (1 : Int32)), .val (.int z7), .val (.int z8), .val (.int z9), .val (.int z10), .val (.ref b11), .val (.ref bx111), .unset] [(.int (1 : Int32))])) _
      refine XS.iconst X112.here hx rfl (hb hby at_276) ?_
      show Steps p.tables e below (T112.setTop (mkF m 277 #[.val (.int init), .val (.int sq), .val (.int cnt), .val (.int fl), .val (.int z6), .val (.int (1 : Int32)), .val (.int z7), .val (.int z8), .val (.int z9), .val (.int z10), .val (.ref b11), .val (.ref bx111), .unset] [(.int (4 : Int32)), (.int (1 : Int32))])) _
      refine XS.icmpYes X112.here hx rfl (pc0 := 277) (pc' := 289) rfl (hb hby at_277) rfl (tlt hd120).1 (by decide) (by decide) ?_
      show Steps p.tables e below (T112.setTop (mkF m 289 #[.val (.int init), .val (.int sq), .val (.int cnt), .val (.int fl), .val (.int z6), .val (.int (1 : Int32)), .val (.int z7), .val (.int z8), .val (.int z9), .val (.int z10), .val (.ref b11), .val (.ref bx111), .unset] [])) _
      refine XS.iconst X112.here hx rfl (hb hby at_289) ?_
      show Steps p.tables e below (T112.setTop (mkF m 290 #[.val (.int init), .val (.int sq), .val (.int cnt), .val (.int fl), .val (.int z6), .val (.int (1 : Int32)), .val (.int z7), .val (.int z8), .val (.int z9), .val (.int z10), .val (.ref b11), .val (.ref bx111), .unset] [(.int (1 : Int32))])) _
      refine XS.goto X112.here hx rfl (pc0 := 290) (pc' := 294) rfl (hb hby at_290) (by decide) (by decide) ?_
      show Steps p.tables e below (T112.setTop (mkF m 294 #[.val (.int init), .val (.int sq), .val (.int cnt), .val (.int fl), .val (.int z6), .val (.int (1 : Int32)), .val (.int z7), .val (.int z8), .val (.int z9), .val (.int z10), .val (.ref b11), .val (.ref bx111), .unset] [(.int (1 : Int32))])) _
      refine XS.istore X112.here hx rfl (hb hby at_294) rfl (l' := #[.val (.int init), .val (.int sq), .val (.int cnt), .val (.int fl), .val (.int z6), .val (.int (1 : Int32)), .val (.int z7), .val (.int z8), .val (.int z9), .val (.int z10), .val (.ref b11), .val (.ref bx111), .val (.int (1 : Int32))]) rfl ?_
      show Steps p.tables e below (T112.setTop (mkF m 296 #[.val (.int init), .val (.int sq), .val (.int cnt), .val (.int fl), .val (.int z6), .val (.int (1 : Int32)), .val (.int z7), .val (.int z8), .val (.int z9), .val (.int z10), .val (.ref b11), .val (.ref bx111), .val (.int (1 : Int32))] [])) _
      refine XS.iload X112.here hx rfl (hb hby at_296) rfl ?_
      show Steps p.tables e below (T112.setTop (mkF m 298 #[.val (.int init), .val (.int sq), .val (.int cnt), .val (.int fl), .val (.int z6), .val (.int (1 : Int32)), .val (.int z7), .val (.int z8), .val (.int z9), .val (.int z10), .val (.ref b11), .val (.ref bx111), .val (.int (1 : Int32))] [(.int (1 : Int32))])) _
      refine XS.ifNo X112.here hx rfl (hb hby at_298) rfl ((if0 _ _).trans (feq hd121).1) ?_
      show Steps p.tables e below (T112.setTop (mkF m 301 #[.val (.int init), .val (.int sq), .val (.int cnt), .val (.int fl), .val (.int z6), .val (.int (1 : Int32)), .val (.int z7), .val (.int z8), .val (.int z9), .val (.int z10), .val (.ref b11), .val (.ref bx111), .val (.int (1 : Int32))] [])) _
      refine XS.aload X112.here hx rfl (hb hby at_301) rfl rfl ?_
      show Steps p.tables e below (T112.setTop (mkF m 303 #[.val (.int init), .val (.int sq), .val (.int cnt), .val (.int fl), .val (.int z6), .val (.int (1 : Int32)), .val (.int z7), .val (.int z8), .val (.int z9), .val (.int z10), .val (.ref b11), .val (.ref bx111), .val (.int (1 : Int32))] [(.ref b11)])) _
      refine XS.iconst X112.here hx rfl (hb hby at_303) ?_
      show Steps p.tables e below (T112.setTop (mkF m 304 #[.val (.int init), .val (.int sq), .val (.int cnt), .val (.int fl), .val (.int z6), .val (.int (1 : Int32)), .val (.int z7), .val (.int z8), .val (.int z9), .val (.int z10), .val (.ref b11), .val (.ref bx111), .val (.int (1 : Int32))] [(.int (0 : Int32)), (.ref b11)])) _
      refine XS.iloadN X112.here hx rfl (hb hby at_304) rfl ?_
      show Steps p.tables e below (T112.setTop (mkF m 305 #[.val (.int init), .val (.int sq), .val (.int cnt), .val (.int fl), .val (.int z6), .val (.int (1 : Int32)), .val (.int z7), .val (.int z8), .val (.int z9), .val (.int z10), .val (.ref b11), .val (.ref bx111), .val (.int (1 : Int32))] [(.int init), (.int (0 : Int32)), (.ref b11)])) _
      refine XS.iload X112.here hx rfl (hb hby at_305) rfl ?_
      show Steps p.tables e below (T112.setTop (mkF m 307 #[.val (.int init), .val (.int sq), .val (.int cnt), .val (.int fl), .val (.int z6), .val (.int (1 : Int32)), .val (.int z7), .val (.int z8), .val (.int z9), .val (.int z10), .val (.ref b11), .val (.ref bx111), .val (.int (1 : Int32))] [(.int (1 : Int32)), (.int init), (.int (0 : Int32)), (.ref b11)])) _
      refine XS.iload X112.here hx rfl (hb hby at_307) rfl ?_
      show Steps p.tables e below (T112.setTop (mkF m 309 #[.val (.int init), .val (.int sq), .val (.int cnt), .val (.int fl), .val (.int z6), .val (.int (1 : Int32)), .val (.int z7), .val (.int z8), .val (.int z9), .val (.int z10), .val (.ref b11), .val (.ref bx111), .val (.int (1 : Int32))] [(.int z7), (.int (1 : Int32)), (.int init), (.int (0 : Int32)), (.ref b11)])) _
      refine XS.iload X112.here hx rfl (hb hby at_309) rfl ?_
      show Steps p.tables e below (T112.setTop (mkF m 311 #[.val (.int init), .val (.int sq), .val (.int cnt), .val (.int fl), .val (.int z6), .val (.int (1 : Int32)), .val (.int z7), .val (.int z8), .val (.int z9), .val (.int z10), .val (.ref b11), .val (.ref bx111), .val (.int (1 : Int32))] [(.int z8), (.int z7), (.int (1 : Int32)), (.int init), (.int (0 : Int32)), (.ref b11)])) _
      refine XS.iload X112.here hx rfl (hb hby at_311) rfl ?_
      show Steps p.tables e below (T112.setTop (mkF m 313 #[.val (.int init), .val (.int sq), .val (.int cnt), .val (.int fl), .val (.int z6), .val (.int (1 : Int32)), .val (.int z7), .val (.int z8), .val (.int z9), .val (.int z10), .val (.ref b11), .val (.ref bx111), .val (.int (1 : Int32))] [(.int z9), (.int z8), (.int z7), (.int (1 : Int32)), (.int init), (.int (0 : Int32)), (.ref b11)])) _
      refine XS.iload X112.here hx rfl (hb hby at_313) rfl ?_
      show Steps p.tables e below (T112.setTop (mkF m 315 #[.val (.int init), .val (.int sq), .val (.int cnt), .val (.int fl), .val (.int z6), .val (.int (1 : Int32)), .val (.int z7), .val (.int z8), .val (.int z9), .val (.int z10), .val (.ref b11), .val (.ref bx111), .val (.int (1 : Int32))] [(.int z10), (.int z9), (.int z8), (.int z7), (.int (1 : Int32)), (.int init), (.int (0 : Int32)), (.ref b11)])) _
      refine XS.iload X112.here hx rfl (hb hby at_315) rfl ?_
      show Steps p.tables e below (T112.setTop (mkF m 317 #[.val (.int init), .val (.int sq), .val (.int cnt), .val (.int fl), .val (.int z6), .val (.int (1 : Int32)), .val (.int z7), .val (.int z8), .val (.int z9), .val (.int z10), .val (.ref b11), .val (.ref bx111), .val (.int (1 : Int32))] [(.int z6), (.int z10), (.int z9), (.int z8), (.int z7), (.int (1 : Int32)), (.int init), (.int (0 : Int32)), (.ref b11)])) _
      refine st123 _ ?_
      show Steps p.tables e below (T123.setTop (mkF m 320 #[.val (.int init), .val (.int sq), .val (.int cnt), .val (.int fl), .val (.int z6), .val (.int (1 : Int32)), .val (.int z7), .val (.int z8), .val (.int z9), .val (.int z10), .val (.ref b11), .val (.ref bx111), .val (.int (1 : Int32))] [(.int (atF (0 : Int32) init (1 : Int32) z7 z8 z9 z10 z6 xv122))])) _
      refine XS.ifNo X123.here hx rfl (hb hby at_320) rfl ((if0 _ _).trans (feq hd124).1) ?_
      show Steps p.tables e below (T123.setTop (mkF m 323 #[.val (.int init), .val (.int sq), .val (.int cnt), .val (.int fl), .val (.int z6), .val (.int (1 : Int32)), .val (.int z7), .val (.int z8), .val (.int z9), .val (.int z10), .val (.ref b11), .val (.ref bx111), .val (.int (1 : Int32))] [])) _
      refine XS.aload X123.here hx rfl (hb hby at_323) rfl rfl ?_
      show Steps p.tables e below (T123.setTop (mkF m 325 #[.val (.int init), .val (.int sq), .val (.int cnt), .val (.int fl), .val (.int z6), .val (.int (1 : Int32)), .val (.int z7), .val (.int z8), .val (.int z9), .val (.int z10), .val (.ref b11), .val (.ref bx111), .val (.int (1 : Int32))] [(.ref b11)])) _
      refine XS.iconst X123.here hx rfl (hb hby at_325) ?_
      show Steps p.tables e below (T123.setTop (mkF m 326 #[.val (.int init), .val (.int sq), .val (.int cnt), .val (.int fl), .val (.int z6), .val (.int (1 : Int32)), .val (.int z7), .val (.int z8), .val (.int z9), .val (.int z10), .val (.ref b11), .val (.ref bx111), .val (.int (1 : Int32))] [(.int (1 : Int32)), (.ref b11)])) _
      refine XS.iloadN X123.here hx rfl (hb hby at_326) rfl ?_
      show Steps p.tables e below (T123.setTop (mkF m 327 #[.val (.int init), .val (.int sq), .val (.int cnt), .val (.int fl), .val (.int z6), .val (.int (1 : Int32)), .val (.int z7), .val (.int z8), .val (.int z9), .val (.int z10), .val (.ref b11), .val (.ref bx111), .val (.int (1 : Int32))] [(.int init), (.int (1 : Int32)), (.ref b11)])) _
      refine XS.iload X123.here hx rfl (hb hby at_327) rfl ?_
      show Steps p.tables e below (T123.setTop (mkF m 329 #[.val (.int init), .val (.int sq), .val (.int cnt), .val (.int fl), .val (.int z6), .val (.int (1 : Int32)), .val (.int z7), .val (.int z8), .val (.int z9), .val (.int z10), .val (.ref b11), .val (.ref bx111), .val (.int (1 : Int32))] [(.int (1 : Int32)), (.int init), (.int (1 : Int32)), (.ref b11)])) _
      refine XS.iload X123.here hx rfl (hb hby at_329) rfl ?_
      show Steps p.tables e below (T123.setTop (mkF m 331 #[.val (.int init), .val (.int sq), .val (.int cnt), .val (.int fl), .val (.int z6), .val (.int (1 : Int32)), .val (.int z7), .val (.int z8), .val (.int z9), .val (.int z10), .val (.ref b11), .val (.ref bx111), .val (.int (1 : Int32))] [(.int z7), (.int (1 : Int32)), (.int init), (.int (1 : Int32)), (.ref b11)])) _
      refine XS.iload X123.here hx rfl (hb hby at_331) rfl ?_
      show Steps p.tables e below (T123.setTop (mkF m 333 #[.val (.int init), .val (.int sq), .val (.int cnt), .val (.int fl), .val (.int z6), .val (.int (1 : Int32)), .val (.int z7), .val (.int z8), .val (.int z9), .val (.int z10), .val (.ref b11), .val (.ref bx111), .val (.int (1 : Int32))] [(.int z8), (.int z7), (.int (1 : Int32)), (.int init), (.int (1 : Int32)), (.ref b11)])) _
      refine XS.iload X123.here hx rfl (hb hby at_333) rfl ?_
      show Steps p.tables e below (T123.setTop (mkF m 335 #[.val (.int init), .val (.int sq), .val (.int cnt), .val (.int fl), .val (.int z6), .val (.int (1 : Int32)), .val (.int z7), .val (.int z8), .val (.int z9), .val (.int z10), .val (.ref b11), .val (.ref bx111), .val (.int (1 : Int32))] [(.int z9), (.int z8), (.int z7), (.int (1 : Int32)), (.int init), (.int (1 : Int32)), (.ref b11)])) _
      refine XS.iload X123.here hx rfl (hb hby at_335) rfl ?_
      show Steps p.tables e below (T123.setTop (mkF m 337 #[.val (.int init), .val (.int sq), .val (.int cnt), .val (.int fl), .val (.int z6), .val (.int (1 : Int32)), .val (.int z7), .val (.int z8), .val (.int z9), .val (.int z10), .val (.ref b11), .val (.ref bx111), .val (.int (1 : Int32))] [(.int z10), (.int z9), (.int z8), (.int z7), (.int (1 : Int32)), (.int init), (.int (1 : Int32)), (.ref b11)])) _
      refine XS.iload X123.here hx rfl (hb hby at_337) rfl ?_
      show Steps p.tables e below (T123.setTop (mkF m 339 #[.val (.int init), .val (.int sq), .val (.int cnt), .val (.int fl), .val (.int z6), .val (.int (1 : Int32)), .val (.int z7), .val (.int z8), .val (.int z9), .val (.int z10), .val (.ref b11), .val (.ref bx111), .val (.int (1 : Int32))] [(.int z6), (.int z10), (.int z9), (.int z8), (.int z7), (.int (1 : Int32)), (.int init), (.int (1 : Int32)), (.ref b11)])) _
      refine st126 _ ?_
      show Steps p.tables e below (T126.setTop (mkF m 342 #[.val (.int init), .val (.int sq), .val (.int cnt), .val (.int fl), .val (.int z6), .val (.int (1 : Int32)), .val (.int z7), .val (.int z8), .val (.int z9), .val (.int z10), .val (.ref b11), .val (.ref bx111), .val (.int (1 : Int32))] [(.int (atF (1 : Int32) init (1 : Int32) z7 z8 z9 z10 z6 xv125))])) _
      refine XS.ifNo X126.here hx rfl (hb hby at_342) rfl ((if0 _ _).trans (feq hd127).1) ?_
      show Steps p.tables e below (T126.setTop (mkF m 345 #[.val (.int init), .val (.int sq), .val (.int cnt), .val (.int fl), .val (.int z6), .val (.int (1 : Int32)), .val (.int z7), .val (.int z8), .val (.int z9), .val (.int z10), .val (.ref b11), .val (.ref bx111), .val (.int (1 : Int32))] [])) _
      refine XS.aload X126.here hx rfl (hb hby at_345) rfl rfl ?_
      show Steps p.tables e below (T126.setTop (mkF m 347 #[.val (.int init), .val (.int sq), .val (.int cnt), .val (.int fl), .val (.int z6), .val (.int (1 : Int32)), .val (.int z7), .val (.int z8), .val (.int z9), .val (.int z10), .val (.ref b11), .val (.ref bx111), .val (.int (1 : Int32))] [(.ref b11)])) _
      refine XS.iconst X126.here hx rfl (hb hby at_347) ?_
      show Steps p.tables e below (T126.setTop (mkF m 348 #[.val (.int init), .val (.int sq), .val (.int cnt), .val (.int fl), .val (.int z6), .val (.int (1 : Int32)), .val (.int z7), .val (.int z8), .val (.int z9), .val (.int z10), .val (.ref b11), .val (.ref bx111), .val (.int (1 : Int32))] [(.int (2 : Int32)), (.ref b11)])) _
      refine XS.iloadN X126.here hx rfl (hb hby at_348) rfl ?_
      show Steps p.tables e below (T126.setTop (mkF m 349 #[.val (.int init), .val (.int sq), .val (.int cnt), .val (.int fl), .val (.int z6), .val (.int (1 : Int32)), .val (.int z7), .val (.int z8), .val (.int z9), .val (.int z10), .val (.ref b11), .val (.ref bx111), .val (.int (1 : Int32))] [(.int init), (.int (2 : Int32)), (.ref b11)])) _
      refine XS.iload X126.here hx rfl (hb hby at_349) rfl ?_
      show Steps p.tables e below (T126.setTop (mkF m 351 #[.val (.int init), .val (.int sq), .val (.int cnt), .val (.int fl), .val (.int z6), .val (.int (1 : Int32)), .val (.int z7), .val (.int z8), .val (.int z9), .val (.int z10), .val (.ref b11), .val (.ref bx111), .val (.int (1 : Int32))] [(.int (1 : Int32)), (.int init), (.int (2 : Int32)), (.ref b11)])) _
      refine XS.iload X126.here hx rfl (hb hby at_351) rfl ?_
      show Steps p.tables e below (T126.setTop (mkF m 353 #[.val (.int init), .val (.int sq), .val (.int cnt), .val (.int fl), .val (.int z6), .val (.int (1 : Int32)), .val (.int z7), .val (.int z8), .val (.int z9), .val (.int z10), .val (.ref b11), .val (.ref bx111), .val (.int (1 : Int32))] [(.int z7), (.int (1 : Int32)), (.int init), (.int (2 : Int32)), (.ref b11)])) _
      refine XS.iload X126.here hx rfl (hb hby at_353) rfl ?_
      show Steps p.tables e below (T126.setTop (mkF m 355 #[.val (.int init), .val (.int sq), .val (.int cnt), .val (.int fl), .val (.int z6), .val (.int (1 : Int32)), .val (.int z7), .val (.int z8), .val (.int z9), .val (.int z10), .val (.ref b11), .val (.ref bx111), .val (.int (1 : Int32))] [(.int z8), (.int z7), (.int (1 : Int32)), (.int init), (.int (2 : Int32)), (.ref b11)])) _
      refine XS.iload X126.here hx rfl (hb hby at_355) rfl ?_
      show Steps p.tables e below (T126.setTop (mkF m 357 #[.val (.int init), .val (.int sq), .val (.int cnt), .val (.int fl), .val (.int z6), .val (.int (1 : Int32)), .val (.int z7), .val (.int z8), .val (.int z9), .val (.int z10), .val (.ref b11), .val (.ref bx111), .val (.int (1 : Int32))] [(.int z9), (.int z8), (.int z7), (.int (1 : Int32)), (.int init), (.int (2 : Int32)), (.ref b11)])) _
      refine XS.iload X126.here hx rfl (hb hby at_357) rfl ?_
      show Steps p.tables e below (T126.setTop (mkF m 359 #[.val (.int init), .val (.int sq), .val (.int cnt), .val (.int fl), .val (.int z6), .val (.int (1 : Int32)), .val (.int z7), .val (.int z8), .val (.int z9), .val (.int z10), .val (.ref b11), .val (.ref bx111), .val (.int (1 : Int32))] [(.int z10), (.int z9), (.int z8), (.int z7), (.int (1 : Int32)), (.int init), (.int (2 : Int32)), (.ref b11)])) _
      refine XS.iload X126.here hx rfl (hb hby at_359) rfl ?_
      show Steps p.tables e below (T126.setTop (mkF m 361 #[.val (.int init), .val (.int sq), .val (.int cnt), .val (.int fl), .val (.int z6), .val (.int (1 : Int32)), .val (.int z7), .val (.int z8), .val (.int z9), .val (.int z10), .val (.ref b11), .val (.ref bx111), .val (.int (1 : Int32))] [(.int z6), (.int z10), (.int z9), (.int z8), (.int z7), (.int (1 : Int32)), (.int init), (.int (2 : Int32)), (.ref b11)])) _
      refine st129 _ ?_
      show Steps p.tables e below (T129.setTop (mkF m 364 #[.val (.int init), .val (.int sq), .val (.int cnt), .val (.int fl), .val (.int z6), .val (.int (1 : Int32)), .val (.int z7), .val (.int z8), .val (.int z9), .val (.int z10), .val (.ref b11), .val (.ref bx111), .val (.int (1 : Int32))] [(.int (atF (2 : Int32) init (1 : Int32) z7 z8 z9 z10 z6 xv128))])) _
      refine XS.ifNo X129.here hx rfl (hb hby at_364) rfl ((if0 _ _).trans (feq hd130).1) ?_
      show Steps p.tables e below (T129.setTop (mkF m 367 #[.val (.int init), .val (.int sq), .val (.int cnt), .val (.int fl), .val (.int z6), .val (.int (1 : Int32)), .val (.int z7), .val (.int z8), .val (.int z9), .val (.int z10), .val (.ref b11), .val (.ref bx111), .val (.int (1 : Int32))] [])) _
      refine XS.aload X129.here hx rfl (hb hby at_367) rfl rfl ?_
      show Steps p.tables e below (T129.setTop (mkF m 369 #[.val (.int init), .val (.int sq), .val (.int cnt), .val (.int fl), .val (.int z6), .val (.int (1 : Int32)), .val (.int z7), .val (.int z8), .val (.int z9), .val (.int z10), .val (.ref b11), .val (.ref bx111), .val (.int (1 : Int32))] [(.ref b11)])) _
      refine XS.iconst X129.here hx rfl (hb hby at_369) ?_
      show Steps p.tables e below (T129.setTop (mkF m 370 #[.val (.int init), .val (.int sq), .val (.int cnt), .val (.int fl), .val (.int z6), .val (.int (1 : Int32)), .val (.int z7), .val (.int z8), .val (.int z9), .val (.int z10), .val (.ref b11), .val (.ref bx111), .val (.int (1 : Int32))] [(.int (3 : Int32)), (.ref b11)])) _
      refine XS.iloadN X129.here hx rfl (hb hby at_370) rfl ?_
      show Steps p.tables e below (T129.setTop (mkF m 371 #[.val (.int init), .val (.int sq), .val (.int cnt), .val (.int fl), .val (.int z6), .val (.int (1 : Int32)), .val (.int z7), .val (.int z8), .val (.int z9), .val (.int z10), .val (.ref b11), .val (.ref bx111), .val (.int (1 : Int32))] [(.int init), (.int (3 : Int32)), (.ref b11)])) _
      refine XS.iload X129.here hx rfl (hb hby at_371) rfl ?_
      show Steps p.tables e below (T129.setTop (mkF m 373 #[.val (.int init), .val (.int sq), .val (.int cnt), .val (.int fl), .val (.int z6), .val (.int (1 : Int32)), .val (.int z7), .val (.int z8), .val (.int z9), .val (.int z10), .val (.ref b11), .val (.ref bx111), .val (.int (1 : Int32))] [(.int (1 : Int32)), (.int init), (.int (3 : Int32)), (.ref b11)])) _
      refine XS.iload X129.here hx rfl (hb hby at_373) rfl ?_
      show Steps p.tables e below (T129.setTop (mkF m 375 #[.val (.int init), .val (.int sq), .val (.int cnt), .val (.int fl), .val (.int z6), .val (.int (1 : Int32)), .val (.int z7), .val (.int z8), .val (.int z9), .val (.int z10), .val (.ref b11), .val (.ref bx111), .val (.int (1 : Int32))] [(.int z7), (.int (1 : Int32)), (.int init), (.int (3 : Int32)), (.ref b11)])) _
      refine XS.iload X129.here hx rfl (hb hby at_375) rfl ?_
      show Steps p.tables e below (T129.setTop (mkF m 377 #[.val (.int init), .val (.int sq), .val (.int cnt), .val (.int fl), .val (.int z6), .val (.int (1 : Int32)), .val (.int z7), .val (.int z8), .val (.int z9), .val (.int z10), .val (.ref b11), .val (.ref bx111), .val (.int (1 : Int32))] [(.int z8), (.int z7), (.int (1 : Int32)), (.int init), (.int (3 : Int32)), (.ref b11)])) _
      refine XS.iload X129.here hx rfl (hb hby at_377) rfl ?_
      show Steps p.tables e below (T129.setTop (mkF m 379 #[.val (.int init), .val (.int sq), .val (.int cnt), .val (.int fl), .val (.int z6), .val (.int (1 : Int32)), .val (.int z7), .val (.int z8), .val (.int z9), .val (.int z10), .val (.ref b11), .val (.ref bx111), .val (.int (1 : Int32))] [(.int z9), (.int z8), (.int z7), (.int (1 : Int32)), (.int init), (.int (3 : Int32)), (.ref b11)])) _
      refine XS.iload X129.here hx rfl (hb hby at_379) rfl ?_
      show Steps p.tables e below (T129.setTop (mkF m 381 #[.val (.int init), .val (.int sq), .val (.int cnt), .val (.int fl), .val (.int z6), .val (.int (1 : Int32)), .val (.int z7), .val (.int z8), .val (.int z9), .val (.int z10), .val (.ref b11), .val (.ref bx111), .val (.int (1 : Int32))] [(.int z10), (.int z9), (.int z8), (.int z7), (.int (1 : Int32)), (.int init), (.int (3 : Int32)), (.ref b11)])) _
      refine XS.iload X129.here hx rfl (hb hby at_381) rfl ?_
      show Steps p.tables e below (T129.setTop (mkF m 383 #[.val (.int init), .val (.int sq), .val (.int cnt), .val (.int fl), .val (.int z6), .val (.int (1 : Int32)), .val (.int z7), .val (.int z8), .val (.int z9), .val (.int z10), .val (.ref b11), .val (.ref bx111), .val (.int (1 : Int32))] [(.int z6), (.int z10), (.int z9), (.int z8), (.int z7), (.int (1 : Int32)), (.int init), (.int (3 : Int32)), (.ref b11)])) _
      refine st132 _ ?_
      show Steps p.tables e below (T132.setTop (mkF m 386 #[.val (.int init), .val (.int sq), .val (.int cnt), .val (.int fl), .val (.int z6), .val (.int (1 : Int32)), .val (.int z7), .val (.int z8), .val (.int z9), .val (.int z10), .val (.ref b11), .val (.ref bx111), .val (.int (1 : Int32))] [(.int (atF (3 : Int32) init (1 : Int32) z7 z8 z9 z10 z6 xv131))])) _
      refine XS.ifNo X132.here hx rfl (hb hby at_386) rfl ((if0 _ _).trans (feq hd133).1) ?_
      show Steps p.tables e below (T132.setTop (mkF m 389 #[.val (.int init), .val (.int sq), .val (.int cnt), .val (.int fl), .val (.int z6), .val (.int (1 : Int32)), .val (.int z7), .val (.int z8), .val (.int z9), .val (.int z10), .val (.ref b11), .val (.ref bx111), .val (.int (1 : Int32))] [])) _
      refine XS.aload X132.here hx rfl (hb hby at_389) rfl rfl ?_
      show Steps p.tables e below (T132.setTop (mkF m 391 #[.val (.int init), .val (.int sq), .val (.int cnt), .val (.int fl), .val (.int z6), .val (.int (1 : Int32)), .val (.int z7), .val (.int z8), .val (.int z9), .val (.int z10), .val (.ref b11), .val (.ref bx111), .val (.int (1 : Int32))] [(.ref b11)])) _
      refine XS.iconst X132.here hx rfl (hb hby at_391) ?_
      show Steps p.tables e below (T132.setTop (mkF m 392 #[.val (.int init), .val (.int sq), .val (.int cnt), .val (.int fl), .val (.int z6), .val (.int (1 : Int32)), .val (.int z7), .val (.int z8), .val (.int z9), .val (.int z10), .val (.ref b11), .val (.ref bx111), .val (.int (1 : Int32))] [(.int (4 : Int32)), (.ref b11)])) _
      refine XS.iloadN X132.here hx rfl (hb hby at_392) rfl ?_
      show Steps p.tables e below (T132.setTop (mkF m 393 #[.val (.int init), .val (.int sq), .val (.int cnt), .val (.int fl), .val (.int z6), .val (.int (1 : Int32)), .val (.int z7), .val (.int z8), .val (.int z9), .val (.int z10), .val (.ref b11), .val (.ref bx111), .val (.int (1 : Int32))] [(.int init), (.int (4 : Int32)), (.ref b11)])) _
      refine XS.iload X132.here hx rfl (hb hby at_393) rfl ?_
      show Steps p.tables e below (T132.setTop (mkF m 395 #[.val (.int init), .val (.int sq), .val (.int cnt), .val (.int fl), .val (.int z6), .val (.int (1 : Int32)), .val (.int z7), .val (.int z8), .val (.int z9), .val (.int z10), .val (.ref b11), .val (.ref bx111), .val (.int (1 : Int32))] [(.int (1 : Int32)), (.int init), (.int (4 : Int32)), (.ref b11)])) _
      refine XS.iload X132.here hx rfl (hb hby at_395) rfl ?_
      show Steps p.tables e below (T132.setTop (mkF m 397 #[.val (.int init), .val (.int sq), .val (.int cnt), .val (.int fl), .val (.int z6), .val (.int (1 : Int32)), .val (.int z7), .val (.int z8), .val (.int z9), .val (.int z10), .val (.ref b11), .val (.ref bx111), .val (.int (1 : Int32))] [(.int z7), (.int (1 : Int32)), (.int init), (.int (4 : Int32)), (.ref b11)])) _
      refine XS.iload X132.here hx rfl (hb hby at_397) rfl ?_
      show Steps p.tables e below (T132.setTop (mkF m 399 #[.val (.int init), .val (.int sq), .val (.int cnt), .val (.int fl), .val (.int z6), .val (.int (1 : Int32)), .val (.int z7), .val (.int z8), .val (.int z9), .val (.int z10), .val (.ref b11), .val (.ref bx111), .val (.int (1 : Int32))] [(.int z8), (.int z7), (.int (1 : Int32)), (.int init), (.int (4 : Int32)), (.ref b11)])) _
      refine XS.iload X132.here hx rfl (hb hby at_399) rfl ?_
      show Steps p.tables e below (T132.setTop (mkF m 401 #[.val (.int init), .val (.int sq), .val (.int cnt), .val (.int fl), .val (.int z6), .val (.int (1 : Int32)), .val (.int z7), .val (.int z8), .val (.int z9), .val (.int z10), .val (.ref b11), .val (.ref bx111), .val (.int (1 : Int32))] [(.int z9), (.int z8), (.int z7), (.int (1 : Int32)), (.int init), (.int (4 : Int32)), (.ref b11)])) _
      refine XS.iload X132.here hx rfl (hb hby at_401) rfl ?_
      show Steps p.tables e below (T132.setTop (mkF m 403 #[.val (.int init), .val (.int sq), .val (.int cnt), .val (.int fl), .val (.int z6), .val (.int (1 : Int32)), .val (.int z7), .val (.int z8), .val (.int z9), .val (.int z10), .val (.ref b11), .val (.ref bx111), .val (.int (1 : Int32))] [(.int z10), (.int z9), (.int z8), (.int z7), (.int (1 : Int32)), (.int init), (.int (4 : Int32)), (.ref b11)])) _
      refine XS.iload X132.here hx rfl (hb hby at_403) rfl ?_
      show Steps p.tables e below (T132.setTop (mkF m 405 #[.val (.int init), .val (.int sq), .val (.int cnt), .val (.int fl), .val (.int z6), .val (.int (1 : Int32)), .val (.int z7), .val (.int z8), .val (.int z9), .val (.int z10), .val (.ref b11), .val (.ref bx111), .val (.int (1 : Int32))] [(.int z6), (.int z10), (.int z9), (.int z8), (.int z7), (.int (1 : Int32)), (.int init), (.int (4 : Int32)), (.ref b11)])) _
      refine st135 _ ?_
      show Steps p.tables e below (T135.setTop (mkF m 408 #[.val (.int init), .val (.int sq), .val (.int cnt), .val (.int fl), .val (.int z6), .val (.int (1 : Int32)), .val (.int z7), .val (.int z8), .val (.int z9), .val (.int z10), .val (.ref b11), .val (.ref bx111), .val (.int (1 : Int32))] [(.int (atF (4 : Int32) init (1 : Int32) z7 z8 z9 z10 z6 xv134))])) _
      refine XS.ifNo X135.here hx rfl (hb hby at_408) rfl ((if0 _ _).trans (feq hd136).1) ?_
      show Steps p.tables e below (T135.setTop (mkF m 411 #[.val (.int init), .val (.int sq), .val (.int cnt), .val (.int fl), .val (.int z6), .val (.int (1 : Int32)), .val (.int z7), .val (.int z8), .val (.int z9), .val (.int z10), .val (.ref b11), .val (.ref bx111), .val (.int (1 : Int32))] [])) _
      refine XS.aload X135.here hx rfl (hb hby at_411) rfl rfl ?_
      show Steps p.tables e below (T135.setTop (mkF m 413 #[.val (.int init), .val (.int sq), .val (.int cnt), .val (.int fl), .val (.int z6), .val (.int (1 : Int32)), .val (.int z7), .val (.int z8), .val (.int z9), .val (.int z10), .val (.ref b11), .val (.ref bx111), .val (.int (1 : Int32))] [(.ref b11)])) _
      refine XS.iconst X135.here hx rfl (hb hby at_413) ?_
      show Steps p.tables e below (T135.setTop (mkF m 414 #[.val (.int init), .val (.int sq), .val (.int cnt), .val (.int fl), .val (.int z6), .val (.int (1 : Int32)), .val (.int z7), .val (.int z8), .val (.int z9), .val (.int z10), .val (.ref b11), .val (.ref bx111), .val (.int (1 : Int32))] [(.int (5 : Int32)), (.ref b11)])) _
      refine XS.iloadN X135.here hx rfl (hb hby at_414) rfl ?_
      show Steps p.tables e below (T135.setTop (mkF m 415 #[.val (.int init), .val (.int sq), .val (.int cnt), .val (.int fl), .val (.int z6), .val (.int (1 : Int32)), .val (.int z7), .val (.int z8), .val (.int z9), .val (.int z10), .val (.ref b11), .val (.ref bx111), .val (.int (1 : Int32))] [(.int init), (.int (5 : Int32)), (.ref b11)])) _
      refine XS.iload X135.here hx rfl (hb hby at_415) rfl ?_
      show Steps p.tables e below (T135.setTop (mkF m 417 #[.val (.int init), .val (.int sq), .val (.int cnt), .val (.int fl), .val (.int z6), .val (.int (1 : Int32)), .val (.int z7), .val (.int z8), .val (.int z9), .val (.int z10), .val (.ref b11), .val (.ref bx111), .val (.int (1 : Int32))] [(.int (1 : Int32)), (.int init), (.int (5 : Int32)), (.ref b11)])) _
      refine XS.iload X135.here hx rfl (hb hby at_417) rfl ?_
      show Steps p.tables e below (T135.setTop (mkF m 419 #[.val (.int init), .val (.int sq), .val (.int cnt), .val (.int fl), .val (.int z6), .val (.int (1 : Int32)), .val (.int z7), .val (.int z8), .val (.int z9), .val (.int z10), .val (.ref b11), .val (.ref bx111), .val (.int (1 : Int32))] [(.int z7), (.int (1 : Int32)), (.int init), (.int (5 : Int32)), (.ref b11)])) _
      refine XS.iload X135.here hx rfl (hb hby at_419) rfl ?_
      show Steps p.tables e below (T135.setTop (mkF m 421 #[.val (.int init), .val (.int sq), .val (.int cnt), .val (.int fl), .val (.int z6), .val (.int (1 : Int32)), .val (.int z7), .val (.int z8), .val (.int z9), .val (.int z10), .val (.ref b11), .val (.ref bx111), .val (.int (1 : Int32))] [(.int z8), (.int z7), (.int (1 : Int32)), (.int init), (.int (5 : Int32)), (.ref b11)])) _
      refine XS.iload X135.here hx rfl (hb hby at_421) rfl ?_
      show Steps p.tables e below (T135.setTop (mkF m 423 #[.val (.int init), .val (.int sq), .val (.int cnt), .val (.int fl), .val (.int z6), .val (.int (1 : Int32)), .val (.int z7), .val (.int z8), .val (.int z9), .val (.int z10), .val (.ref b11), .val (.ref bx111), .val (.int (1 : Int32))] [(.int z9), (.int z8), (.int z7), (.int (1 : Int32)), (.int init), (.int (5 : Int32)), (.ref b11)])) _
      refine XS.iload X135.here hx rfl (hb hby at_423) rfl ?_
      show Steps p.tables e below (T135.setTop (mkF m 425 #[.val (.int init), .val (.int sq), .val (.int cnt), .val (.int fl), .val (.int z6), .val (.int (1 : Int32)), .val (.int z7), .val (.int z8), .val (.int z9), .val (.int z10), .val (.ref b11), .val (.ref bx111), .val (.int (1 : Int32))] [(.int z10), (.int z9), (.int z8), (.int z7), (.int (1 : Int32)), (.int init), (.int (5 : Int32)), (.ref b11)])) _
      refine XS.iload X135.here hx rfl (hb hby at_425) rfl ?_
      show Steps p.tables e below (T135.setTop (mkF m 427 #[.val (.int init), .val (.int sq), .val (.int cnt), .val (.int fl), .val (.int z6), .val (.int (1 : Int32)), .val (.int z7), .val (.int z8), .val (.int z9), .val (.int z10), .val (.ref b11), .val (.ref bx111), .val (.int (1 : Int32))] [(.int z6), (.int z10), (.int z9), (.int z8), (.int z7), (.int (1 : Int32)), (.int init), (.int (5 : Int32)), (.ref b11)])) _
      refine st138 _ ?_
      show Steps p.tables e below (T138.setTop (mkF m 430 #[.val (.int init), .val (.int sq), .val (.int cnt), .val (.int fl), .val (.int z6), .val (.int (1 : Int32)), .val (.int z7), .val (.int z8), .val (.int z9), .val (.int z10), .val (.ref b11), .val (.ref bx111), .val (.int (1 : Int32))] [(.int (atF (5 : Int32) init (1 : Int32) z7 z8 z9 z10 z6 xv137))])) _
      refine XS.ifNo X138.here hx rfl (hb hby at_430) rfl ((if0 _ _).trans (feq hd139).1) ?_
      show Steps p.tables e below (T138.setTop (mkF m 433 #[.val (.int init), .val (.int sq), .val (.int cnt), .val (.int fl), .val (.int z6), .val (.int (1 : Int32)), .val (.int z7), .val (.int z8), .val (.int z9), .val (.int z10), .val (.ref b11), .val (.ref bx111), .val (.int (1 : Int32))] [])) _
      refine XS.aload X138.here hx rfl (hb hby at_433) rfl rfl ?_
      show Steps p.tables e below (T138.setTop (mkF m 435 #[.val (.int init), .val (.int sq), .val (.int cnt), .val (.int fl), .val (.int z6), .val (.int (1 : Int32)), .val (.int z7), .val (.int z8), .val (.int z9), .val (.int z10), .val (.ref b11), .val (.ref bx111), .val (.int (1 : Int32))] [(.ref b11)])) _
      refine XS.bipush X138.here hx rfl (hb hby at_435) ?_
      show Steps p.tables e below (T138.setTop (mkF m 437 #[.val (.int init), .val (.int sq), .val (.int cnt), .val (.int fl), .val (.int z6), .val (.int (1 : Int32)), .val (.int z7), .val (.int z8), .val (.int z9), .val (.int z10), .val (.ref b11), .val (.ref bx111), .val (.int (1 : Int32))] [(.int (6 : Int32)), (.ref b11)])) _
      refine XS.iloadN X138.here hx rfl (hb hby at_437) rfl ?_
      show Steps p.tables e below (T138.setTop (mkF m 438 #[.val (.int init), .val (.int sq), .val (.int cnt), .val (.int fl), .val (.int z6), .val (.int (1 : Int32)), .val (.int z7), .val (.int z8), .val (.int z9), .val (.int z10), .val (.ref b11), .val (.ref bx111), .val (.int (1 : Int32))] [(.int init), (.int (6 : Int32)), (.ref b11)])) _
      refine XS.iload X138.here hx rfl (hb hby at_438) rfl ?_
      show Steps p.tables e below (T138.setTop (mkF m 440 #[.val (.int init), .val (.int sq), .val (.int cnt), .val (.int fl), .val (.int z6), .val (.int (1 : Int32)), .val (.int z7), .val (.int z8), .val (.int z9), .val (.int z10), .val (.ref b11), .val (.ref bx111), .val (.int (1 : Int32))] [(.int (1 : Int32)), (.int init), (.int (6 : Int32)), (.ref b11)])) _
      refine XS.iload X138.here hx rfl (hb hby at_440) rfl ?_
      show Steps p.tables e below (T138.setTop (mkF m 442 #[.val (.int init), .val (.int sq), .val (.int cnt), .val (.int fl), .val (.int z6), .val (.int (1 : Int32)), .val (.int z7), .val (.int z8), .val (.int z9), .val (.int z10), .val (.ref b11), .val (.ref bx111), .val (.int (1 : Int32))] [(.int z7), (.int (1 : Int32)), (.int init), (.int (6 : Int32)), (.ref b11)])) _
      refine XS.iload X138.here hx rfl (hb hby at_442) rfl ?_
      show Steps p.tables e below (T138.setTop (mkF m 444 #[.val (.int init), .val (.int sq), .val (.int cnt), .val (.int fl), .val (.int z6), .val (.int (1 : Int32)), .val (.int z7), .val (.int z8), .val (.int z9), .val (.int z10), .val (.ref b11), .val (.ref bx111), .val (.int (1 : Int32))] [(.int z8), (.int z7), (.int (1 : Int32)), (.int init), (.int (6 : Int32)), (.ref b11)])) _
      refine XS.iload X138.here hx rfl (hb hby at_444) rfl ?_
      show Steps p.tables e below (T138.setTop (mkF m 446 #[.val (.int init), .val (.int sq), .val (.int cnt), .val (.int fl), .val (.int z6), .val (.int (1 : Int32)), .val (.int z7), .val (.int z8), .val (.int z9), .val (.int z10), .val (.ref b11), .val (.ref bx111), .val (.int (1 : Int32))] [(.int z9), (.int z8), (.int z7), (.int (1 : Int32)), (.int init), (.int (6 : Int32)), (.ref b11)])) _
      refine XS.iload X138.here hx rfl (hb hby at_446) rfl ?_
      show Steps p.tables e below (T138.setTop (mkF m 448 #[.val (.int init), .val (.int sq), .val (.int cnt), .val (.int fl), .val (.int z6), .val (.int (1 : Int32)), .val (.int z7), .val (.int z8), .val (.int z9), .val (.int z10), .val (.ref b11), .val (.ref bx111), .val (.int (1 : Int32))] [(.int z10), (.int z9), (.int z8), (.int z7), (.int (1 : Int32)), (.int init), (.int (6 : Int32)), (.ref b11)])) _
      refine XS.iload X138.here hx rfl (hb hby at_448) rfl ?_
      show Steps p.tables e below (T138.setTop (mkF m 450 #[.val (.int init), .val (.int sq), .val (.int cnt), .val (.int fl), .val (.int z6), .val (.int (1 : Int32)), .val (.int z7), .val (.int z8), .val (.int z9), .val (.int z10), .val (.ref b11), .val (.ref bx111), .val (.int (1 : Int32))] [(.int z6), (.int z10), (.int z9), (.int z8), (.int z7), (.int (1 : Int32)), (.int init), (.int (6 : Int32)), (.ref b11)])) _
      refine st141 _ ?_
      show Steps p.tables e below (T141.setTop (mkF m 453 #[.val (.int init), .val (.int sq), .val (.int cnt), .val (.int fl), .val (.int z6), .val (.int (1 : Int32)), .val (.int z7), .val (.int z8), .val (.int z9), .val (.int z10), .val (.ref b11), .val (.ref bx111), .val (.int (1 : Int32))] [(.int (atF (6 : Int32) init (1 : Int32) z7 z8 z9 z10 z6 xv140))])) _
      refine XS.ifNo X141.here hx rfl (hb hby at_453) rfl ((if0 _ _).trans (feq hd142).1) ?_
      show Steps p.tables e below (T141.setTop (mkF m 456 #[.val (.int init), .val (.int sq), .val (.int cnt), .val (.int fl), .val (.int z6), .val (.int (1 : Int32)), .val (.int z7), .val (.int z8), .val (.int z9), .val (.int z10), .val (.ref b11), .val (.ref bx111), .val (.int (1 : Int32))] [])) _
      refine XS.aload X141.here hx rfl (hb hby at_456) rfl rfl ?_
      show Steps p.tables e below (T141.setTop (mkF m 458 #[.val (.int init), .val (.int sq), .val (.int cnt), .val (.int fl), .val (.int z6), .val (.int (1 : Int32)), .val (.int z7), .val (.int z8), .val (.int z9), .val (.int z10), .val (.ref b11), .val (.ref bx111), .val (.int (1 : Int32))] [(.ref b11)])) _
      refine XS.bipush X141.here hx rfl (hb hby at_458) ?_
      show Steps p.tables e below (T141.setTop (mkF m 460 #[.val (.int init), .val (.int sq), .val (.int cnt), .val (.int fl), .val (.int z6), .val (.int (1 : Int32)), .val (.int z7), .val (.int z8), .val (.int z9), .val (.int z10), .val (.ref b11), .val (.ref bx111), .val (.int (1 : Int32))] [(.int (7 : Int32)), (.ref b11)])) _
      refine XS.iloadN X141.here hx rfl (hb hby at_460) rfl ?_
      show Steps p.tables e below (T141.setTop (mkF m 461 #[.val (.int init), .val (.int sq), .val (.int cnt), .val (.int fl), .val (.int z6), .val (.int (1 : Int32)), .val (.int z7), .val (.int z8), .val (.int z9), .val (.int z10), .val (.ref b11), .val (.ref bx111), .val (.int (1 : Int32))] [(.int init), (.int (7 : Int32)), (.ref b11)])) _
      refine XS.iload X141.here hx rfl (hb hby at_461) rfl ?_
      show Steps p.tables e below (T141.setTop (mkF m 463 #[.val (.int init), .val (.int sq), .val (.int cnt), .val (.int fl), .val (.int z6), .val (.int (1 : Int32)), .val (.int z7), .val (.int z8), .val (.int z9), .val (.int z10), .val (.ref b11), .val (.ref bx111), .val (.int (1 : Int32))] [(.int (1 : Int32)), (.int init), (.int (7 : Int32)), (.ref b11)])) _
      refine XS.iload X141.here hx rfl (hb hby at_463) rfl ?_
      show Steps p.tables e below (T141.setTop (mkF m 465 #[.val (.int init), .val (.int sq), .val (.int cnt), .val (.int fl), .val (.int z6), .val (.int (1 : Int32)), .val (.int z7), .val (.int z8), .val (.int z9), .val (.int z10), .val (.ref b11), .val (.ref bx111), .val (.int (1 : Int32))] [(.int z7), (.int (1 : Int32)), (.int init), (.int (7 : Int32)), (.ref b11)])) _
      refine XS.iload X141.here hx rfl (hb hby at_465) rfl ?_
      show Steps p.tables e below (T141.setTop (mkF m 467 #[.val (.int init), .val (.int sq), .val (.int cnt), .val (.int fl), .val (.int z6), .val (.int (1 : Int32)), .val (.int z7), .val (.int z8), .val (.int z9), .val (.int z10), .val (.ref b11), .val (.ref bx111), .val (.int (1 : Int32))] [(.int z8), (.int z7), (.int (1 : Int32)), (.int init), (.int (7 : Int32)), (.ref b11)])) _
      refine XS.iload X141.here hx rfl (hb hby at_467) rfl ?_
      show Steps p.tables e below (T141.setTop (mkF m 469 #[.val (.int init), .val (.int sq), .val (.int cnt), .val (.int fl), .val (.int z6), .val (.int (1 : Int32)), .val (.int z7), .val (.int z8), .val (.int z9), .val (.int z10), .val (.ref b11), .val (.ref bx111), .val (.int (1 : Int32))] [(.int z9), (.int z8), (.int z7), (.int (1 : Int32)), (.int init), (.int (7 : Int32)), (.ref b11)])) _
      refine XS.iload X141.here hx rfl (hb hby at_469) rfl ?_
      show Steps p.tables e below (T141.setTop (mkF m 471 #[.val (.int init), .val (.int sq), .val (.int cnt), .val (.int fl), .val (.int z6), .val (.int (1 : Int32)), .val (.int z7), .val (.int z8), .val (.int z9), .val (.int z10), .val (.ref b11), .val (.ref bx111), .val (.int (1 : Int32))] [(.int z10), (.int z9), (.int z8), (.int z7), (.int (1 : Int32)), (.int init), (.int (7 : Int32)), (.ref b11)])) _
      refine XS.iload X141.here hx rfl (hb hby at_471) rfl ?_
      show Steps p.tables e below (T141.setTop (mkF m 473 #[.val (.int init), .val (.int sq), .val (.int cnt), .val (.int fl), .val (.int z6), .val (.int (1 : Int32)), .val (.int z7), .val (.int z8), .val (.int z9), .val (.int z10), .val (.ref b11), .val (.ref bx111), .val (.int (1 : Int32))] [(.int z6), (.int z10), (.int z9), (.int z8), (.int z7), (.int (1 : Int32)), (.int init), (.int (7 : Int32)), (.ref b11)])) _
      refine st144 _ ?_
      show Steps p.tables e below (T144.setTop (mkF m 476 #[.val (.int init), .val (.int sq), .val (.int cnt), .val (.int fl), .val (.int z6), .val (.int (1 : Int32)), .val (.int z7), .val (.int z8), .val (.int z9), .val (.int z10), .val (.ref b11), .val (.ref bx111), .val (.int (1 : Int32))] [(.int (atF (7 : Int32) init (1 : Int32) z7 z8 z9 z10 z6 xv143))])) _
      refine XS.ifNo X144.here hx rfl (hb hby at_476) rfl ((if0 _ _).trans (feq hd145).1) ?_
      show Steps p.tables e below (T144.setTop (mkF m 479 #[.val (.int init), .val (.int sq), .val (.int cnt), .val (.int fl), .val (.int z6), .val (.int (1 : Int32)), .val (.int z7), .val (.int z8), .val (.int z9), .val (.int z10), .val (.ref b11), .val (.ref bx111), .val (.int (1 : Int32))] [])) _
      refine XS.iconst X144.here hx rfl (hb hby at_479) ?_
      show Steps p.tables e below (T144.setTop (mkF m 480 #[.val (.int init), .val (.int sq), .val (.int cnt), .val (.int fl), .val (.int z6), .val (.int (1 : Int32)), .val (.int z7), .val (.int z8), .val (.int z9), .val (.int z10), .val (.ref b11), .val (.ref bx111), .val (.int (1 : Int32))] [(.int (1 : Int32))])) _
      refine XS.goto X144.here hx rfl (pc0 := 480) (pc' := 484) rfl (hb hby at_480) (by decide) (by decide) ?_
      show Steps p.tables e below (T144.setTop (mkF m 484 #[.val (.int init), .val (.int sq), .val (.int cnt), .val (.int fl), .val (.int z6), .val (.int (1 : Int32)), .val (.int z7), .val (.int z8), .val (.int z9), .val (.int z10), .val (.ref b11), .val (.ref bx111), .val (.int (1 : Int32))] [(.int (1 : Int32))])) _
      exact kt
    obtain ⟨fs, hr, hrun, hended, hW, hsame⟩ := X144.leave (v := some (.int (1 : Int32))) (fun h => by rw [Bd.returns] at h; cases h)
    refine ⟨_, _, k146 _ ?_, hrun, hended, _, _, rfl, ?_, ⟨_, rfl⟩, hW, hsame.mono (by decide) (by decide)⟩
    · exact retN X144 hx (t := .boolean) Bd.returns (by simp) (hb hby at_484) hr
    · show QL n0 _ T144.heap _
      exact ⟨rfl, N144⟩
  · obtain ⟨_, _, ⟨T147, L147, k147, n147⟩, -, X147, ⟨Lc147, hQ147, l147, y147, z147⟩, st147⟩ := Jvm.LawKit.callS X75 hx (y := (⟨"pushwise/BoxesPlacePinLaw", "boxesOf", "(IIIII)[I"⟩ : MethodName)) hown (mvT hZ (hw _ (List.mem_of_getElem? (i := 2) rfl))) (mvT hZ (hw _ (List.mem_of_getElem? (i := 3) rfl))) (mvT hZ (hw _ (List.mem_of_getElem? (i := 4) rfl))) (mvT hZ (hw _ (List.mem_of_getElem? (i := 5) rfl))) (by decide) (backOf (W := 0) (rmBox2 l Z a0 hw [] z7 z8 z9 z10  h75 n0 Z75) hZ (hw _ (List.mem_of_getElem? (i := 5) rfl)) (hw _ (List.mem_of_getElem? (i := 4) rfl)) (by decide) (by decide)) (g := (mkF m 207 #[.val (.int init), .val (.int sq), .val (.int cnt), .val (.int fl), .val (.int z6), .val (.int (2 : Int32)), .val (.int z7), .val (.int z8), .val (.int z9), .val (.int z10), .val (.ref b11), .unset, .unset] [(.int z10), (.int z9), (.int z8), (.int z7), (.int (2 : Int32))])) rfl (by rw [hml]; rfl) (argsL := [(.int (2 : Int32)), (.int z7), (.int z8), (.int z9), (.int z10)]) (rest := []) (lenOf pd_0 rfl) rfl (by show 2 * 0 + _ ≤ _; exact Nat.le_of_eq rfl) (hb hby at_207) (fun _ _ => ⟨rfl, e75, (by decide : 1 + 1 ≤ _), (by decide : 8 + 2 ≤ _)⟩)
    dsimp only [Pt.U, Pt.locs, Pt.cells, Pt.slots] at X147 l147 y147 z147 st147 hQ147
    subst l147 y147 z147
    obtain ⟨N147q, K147, bx147, cc147, rfl, le147, Va147⟩ := hQ147
    have N147 := Fr.app N75 N147q
    have ne_b11_bx147 : b11 ≠ bx147 := Nat.ne_of_lt (Nat.lt_of_lt_of_le V75_b11.lt le147)
    have g_bx147 : n0 ≤ bx147 := Nat.le_trans Z75 le147
    have sz_bx147 : h0.size ≤ bx147 := Nat.le_trans KP75.1 le147
    have V147_b11 := V75_b11.keep K147 nin0
    have Z147 := Nat.le_trans Z75 K147.1
    have KP147 := KP75.trans K147 all0
    obtain ⟨_, _, ⟨T148, L148, k148, n148⟩, -, X148, ⟨Lc148, hQ148, l148, y148, z148⟩, st148⟩ := Jvm.LawKit.callS X147 hx (y := (⟨"pushwise/Boxes", "place", "([Z[IZ)V"⟩ : MethodName)) hown (mvT hZ (hw _ (List.mem_of_getElem? (i := 7) rfl))) (mvT hZ (hw _ (List.mem_of_getElem? (i := 8) rfl))) (mvT hZ (hw _ (List.mem_of_getElem? (i := 9) rfl))) (mvT hZ (hw _ (List.mem_of_getElem? (i := 10) rfl))) (by decide) (backOf (W := 0) (rmPlace2 l Z a0 hw [] b11 bx147 z6 c11 cc147 [(.int (nar .boolean z17)), (.int (nar .boolean z25)), (.int (nar .boolean z33)), (.int (nar .boolean z41)), (.int (nar .boolean z49)), (.int (nar .boolean z57)), (.int (nar .boolean z65)), (.int (nar .boolean z73))] z7 z8 T147.heap n0 Z147 V147_b11 rfl Va147 ne_b11_bx147 g_b11 hb_z7 hb_z8) hZ (hw _ (List.mem_of_getElem? (i := 10) rfl)) (hw _ (List.mem_of_getElem? (i := 9) rfl)) (by decide) (by decide)) (g := (mkF m 218 #[.val (.int init), .val (.int sq), .val (.int cnt), .val (.int fl), .val (.int z6), .val (.int (2 : Int32)), .val (.int z7), .val (.int z8), .val (.int z9), .val (.int z10), .val (.ref b11), .val (.ref bx147), .unset] [(.int z6), (.ref bx147), (.ref b11)])) rfl (by rw [hml]; rfl) (argsL := [(.ref b11), (.ref bx147), (.int z6)]) (rest := []) (lenOf pd_1 rfl) rfl (by show 2 * 0 + _ ≤ _; exact Nat.le_of_eq rfl) (hb hby at_218) (fun _ _ => ⟨rfl, rfl, (by decide : 2 + 0 ≤ _), (by decide : 10 + 0 ≤ _)⟩)
    dsimp only [Pt.U, Pt.locs, Pt.cells, Pt.slots] at X148 l148 y148 z148 st148 hQ148
    subst l148 y148 z148
    obtain ⟨Lm148, eLm148⟩ : ∃ z : List Value, z = (([(.int (nar .boolean z17)), (.int (nar .boolean z25)), (.int (nar .boolean z33)), (.int (nar .boolean z41)), (.int (nar .boolean z49)), (.int (nar .boolean z57)), (.int (nar .boolean z65)), (.int (nar .boolean z73))].set z7.toNatClampNeg (.int (nar .boolean z6))).set z8.toNatClampNeg (.int (nar .boolean z6))) := ⟨_, rfl⟩
    obtain ⟨rfl, N148q, K148, Vq148⟩ := hQ148
    rw [← eLm148] at Vq148
    have N148 := Fr.app N147 N148q
    have V148_bx147 := Va147.keep K148 (ninS (Ne.symm ne_b11_bx147) nin0)
    have Z148 := Nat.le_trans Z147 K148.1
    have KP148 := KP147.trans K148 (allS (Or.inr sz_b11) all0)
    obtain ⟨cl223_149, Ar223_149, q223_149, S223_149, N223_149_, H223_149, G223_149⟩ := id V148_bx147
    have hd150 : (2 : Int32) = (2 : Int32) := rfl
    have hd151 : ¬ ((2 : Int32) < (1 : Int32)) := by decide
    obtain ⟨cl238_152, Ar238_152, q238_152, S238_152, N238_152_, H238_152, G238_152⟩ := id V148_bx147
    have hin238_152 : ¬ ((0 : Int32) < 0 ∨ cl238_152.slots.size ≤ ((0 : Int32)).toNatClampNeg) := inb_of S238_152 ⟨by decide, by decide⟩
    have hat238_152 : cl238_152.slots[((0 : Int32)).toNatClampNeg]? = some (.int z7) := H238_152.at hin238_152 rfl
    have hd153 : z7 = z7 := rfl
    have hd154 : ¬ ((2 : Int32) < (2 : Int32)) := by decide
    obtain ⟨cl253_155, Ar253_155, q253_155, S253_155, N253_155_, H253_155, G253_155⟩ := id V148_bx147
    have hin253_155 : ¬ ((1 : Int32) < 0 ∨ cl253_155.slots.size ≤ ((1 : Int32)).toNatClampNeg) := inb_of S253_155 ⟨by decide, by decide⟩
    have hat253_155 : cl253_155.slots[((1 : Int32)).toNatClampNeg]? = some (.int z8) := H253_155.at hin253_155 rfl
    have hd156 : z8 = z8 := rfl
    have hd157 : (2 : Int32) < (3 : Int32) := by decide
    have hd158 : (2 : Int32) < (4 : Int32) := by decide
    have hd159 : ¬ ((1 : Int32) = (0 : Int32)) := by decide
    obtain ⟨xv160, exv160⟩ : ∃ z : Int32, z = (if z8 = (0 : Int32) then (nar .boolean z6) else (if z7 = (0 : Int32) then (nar .boolean z6) else ((nar .boolean z17)))) := ⟨_, rfl⟩
    have hgxv160 : Lm148.getD ((0 : Int32)).toNatClampNeg (.int (0 : Int32)) = .int xv160 := by
      rw [exv160, eLm148]
      rw [own_getset _ _ _ _ _ hb_z8.1 (by decide) (by simp), own_getset _ _ _ _ _ hb_z7.1 (by decide) (by simp)]
      simp only [apply_ite Value.int]
      rfl
    obtain ⟨_, _, ⟨T161, L161, k161, n161⟩, -, X161, ⟨Lc161, hQ161, l161, y161, z161⟩, st161⟩ := Jvm.LawKit.callS X148 hx (y := (⟨"pushwise/BoxesPlacePinLaw", "at", "([ZIIIIIIIZ)Z"⟩ : MethodName)) hown (mvT hZ (hw _ (List.mem_of_getElem? (i := 11) rfl))) (mvT hZ (hw _ (List.mem_of_getElem? (i := 12) rfl))) (mvT hZ (hw _ (List.mem_of_getElem? (i := 4) rfl))) (mvT hZ (hw _ (List.mem_of_getElem? (i := 13) rfl))) (by decide) (backOf (W := 0) (rmAt l Z a0 hw [] b11 (0 : Int32) init (2 : Int32) z7 z8 z9 z10 z6 c11 Lm148 xv160 T148.heap n0 Vq148 (by decide) (by decide) hgxv160) hZ (hw _ (List.mem_of_getElem? (i := 13) rfl)) (hw _ (List.mem_of_getElem? (i := 4) rfl)) (by decide) (by decide)) (g := (mkF m 317 #[.val (.int init), .val (.int sq), .val (.int cnt), .val (.int fl), .val (.int z6), .val (.int (2 : Int32)), .val (.int z7), .val (.int z8), .val (.int z9), .val (.int z10), .val (.ref b11), .val (.ref bx147), .val (.int (1 : Int32))] [(.int z6), (.int z10), (.int z9), (.int z8), (.int z7), (.int (2 : Int32)), (.int init), (.int (0 : Int32)), (.ref b11)])) rfl (by rw [hml]; rfl) (argsL := [(.ref b11), (.int (0 : Int32)), (.int init), (.int (2 : Int32)), (.int z7), (.int z8), (.int z9), (.int z10), (.int z6)]) (rest := []) (lenOf pd_2 rfl) rfl (by show 2 * 0 + _ ≤ _; exact Nat.le_of_eq rfl) (hb hby at_317) (fun _ _ => ⟨rfl, rfl, (by decide : 2 + 0 ≤ _), (by decide : 10 + 0 ≤ _)⟩)
    dsimp only [Pt.U, Pt.locs, Pt.cells, Pt.slots] at X161 l161 y161 z161 st161 hQ161
    subst l161 y161 z161
    obtain ⟨rfl, N161q, e161⟩ := hQ161
    have N161 := Fr.app N148 N161q
    have hd162 : ¬ ((atF (0 : Int32) init (2 : Int32) z7 z8 z9 z10 z6 xv160) = (0 : Int32)) := own_at2 _ _ _ _ _ _ _ z17 _ (by rw [ez17, own_ushr0]) (by rw [exv160]; simp only [show nar .boolean z6 = z6 by rw [ez6]; exact own_nar01 _, show nar .boolean z17 = z17 by rw [ez17]; exact own_nar01 _])
    obtain ⟨xv163, exv163⟩ : ∃ z : Int32, z = (if z8 = (1 : Int32) then (nar .boolean z6) else (if z7 = (1 : Int32) then (nar .boolean z6) else ((nar .boolean z25)))) := ⟨_, rfl⟩
    have hgxv163 : Lm148.getD ((1 : Int32)).toNatClampNeg (.int (0 : Int32)) = .int xv163 := by
      rw [exv163, eLm148]
      rw [own_getset _ _ _ _ _ hb_z8.1 (by decide) (by simp), own_getset _ _ _ _ _ hb_z7.1 (by decide) (by simp)]
      simp only [apply_ite Value.int]
      rfl
    obtain ⟨_, _, ⟨T164, L164, k164, n164⟩, -, X164, ⟨Lc164, hQ164, l164, y164, z164⟩, st164⟩ := Jvm.LawKit.callS X161 hx (y := (⟨"pushwise/BoxesPlacePinLaw", "at", "([ZIIIIIIIZ)Z"⟩ : MethodName)) hown (mvT hZ (hw _ (List.mem_of_getElem? (i := 11) rfl))) (mvT hZ (hw _ (List.mem_of_getElem? (i := 12) rfl))) (mvT hZ (hw _ (List.mem_of_getElem? (i := 4) rfl))) (mvT hZ (hw _ (List.mem_of_getElem? (i := 13) rfl))) (by decide) (backOf (W := 0) (rmAt l Z a0 hw [] b11 (1 : Int32) init (2 : Int32) z7 z8 z9 z10 z6 c11 Lm148 xv163 T148.heap n0 Vq148 (by decide) (by decide) hgxv163) hZ (hw _ (List.mem_of_getElem? (i := 13) rfl)) (hw _ (List.mem_of_getElem? (i := 4) rfl)) (by decide) (by decide)) (g := (mkF m 339 #[.val (.int init), .val (.int sq), .val (.int cnt), .val (.int fl), .val (.int z6), .val (.int (2 : Int32)), .val (.int z7), .val (.int z8), .val (.int z9), .val (.int z10), .val (.ref b11), .val (.ref bx147), .val (.int (1 : Int32))] [(.int z6), (.int z10), (.int z9), (.int z8), (.int z7), (.int (2 : Int32)), (.int init), (.int (1 : Int32)), (.ref b11)])) rfl (by rw [hml]; rfl) (argsL := [(.ref b11), (.int (1 : Int32)), (.int init), (.int (2 : Int32)), (.int z7), (.int z8), (.int z9), (.int z10), (.int z6)]) (rest := []) (lenOf pd_2 rfl) rfl (by show 2 * 0 + _ ≤ _; exact Nat.le_of_eq rfl) (hb hby at_339) (fun _ _ => ⟨rfl, e161, (by decide : 2 + 0 ≤ _), (by decide : 10 + 0 ≤ _)⟩)
    dsimp only [Pt.U, Pt.locs, Pt.cells, Pt.slots] at X164 l164 y164 z164 st164 hQ164
    subst l164 y164 z164
    obtain ⟨rfl, N164q, e164⟩ := hQ164
    have N164 := Fr.app N161 N164q
    have hd165 : ¬ ((atF (1 : Int32) init (2 : Int32) z7 z8 z9 z10 z6 xv163) = (0 : Int32)) := own_at2 _ _ _ _ _ _ _ z25 _ (by rw [ez25]) (by rw [exv163]; simp only [show nar .boolean z6 = z6 by rw [ez6]; exact own_nar01 _, show nar .boolean z25 = z25 by rw [ez25]; exact own_nar01 _])
    obtain ⟨xv166, exv166⟩ : ∃ z : Int32, z = (if z8 = (2 : Int32) then (nar .boolean z6) else (if z7 = (2 : Int32) then (nar .boolean z6) else ((nar .boolean z33)))) := ⟨_, rfl⟩
    have hgxv166 : Lm148.getD ((2 : Int32)).toNatClampNeg (.int (0 : Int32)) = .int xv166 := by
      rw [exv166, eLm148]
      rw [own_getset _ _ _ _ _ hb_z8.1 (by decide) (by simp), own_getset _ _ _ _ _ hb_z7.1 (by decide) (by simp)]
      simp only [apply_ite Value.int]
      rfl
    obtain ⟨_, _, ⟨T167, L167, k167, n167⟩, -, X167, ⟨Lc167, hQ167, l167, y167, z167⟩, st167⟩ := Jvm.LawKit.callS X164 hx (y := (⟨"pushwise/BoxesPlacePinLaw", "at", "([ZIIIIIIIZ)Z"⟩ : MethodName)) hown (mvT hZ (hw _ (List.mem_of_getElem? (i := 11) rfl))) (mvT hZ (hw _ (List.mem_of_getElem? (i := 12) rfl))) (mvT hZ (hw _ (List.mem_of_getElem? (i := 4) rfl))) (mvT hZ (hw _ (List.mem_of_getElem? (i := 13) rfl))) (by decide) (backOf (W := 0) (rmAt l Z a0 hw [] b11 (2 : Int32) init (2 : Int32) z7 z8 z9 z10 z6 c11 Lm148 xv166 T148.heap n0 Vq148 (by decide) (by decide) hgxv166) hZ (hw _ (List.mem_of_getElem? (i := 13) rfl)) (hw _ (List.mem_of_getElem? (i := 4) rfl)) (by decide) (by decide)) (g := (mkF m 361 #[.val (.int init), .val (.int sq), .val (.int cnt), .val (.int fl), .val (.int z6), .val (.int (2 : Int32)), .val (.int z7), .val (.int z8), .val (.int z9), .val (.int z10), .val (.ref b11), .val (.ref bx147), .val (.int (1 : Int32))] [(.int z6), (.int z10), (.int z9), (.int z8), (.int z7), (.int (2 : Int32)), (.int init), (.int (2 : Int32)), (.ref b11)])) rfl (by rw [hml]; rfl) (argsL := [(.ref b11), (.int (2 : Int32)), (.int init), (.int (2 : Int32)), (.int z7), (.int z8), (.int z9), (.int z10), (.int z6)]) (rest := []) (lenOf pd_2 rfl) rfl (by show 2 * 0 + _ ≤ _; exact Nat.le_of_eq rfl) (hb hby at_361) (fun _ _ => ⟨rfl, e164, (by decide : 2 + 0 ≤ _), (by decide : 10 + 0 ≤ _)⟩)
    dsimp only [Pt.U, Pt.locs, Pt.cells, Pt.slots] at X167 l167 y167 z167 st167 hQ167
    subst l167 y167 z167
    obtain ⟨rfl, N167q, e167⟩ := hQ167
    have N167 := Fr.app N164 N167q
    have hd168 : ¬ ((atF (2 : Int32) init (2 : Int32) z7 z8 z9 z10 z6 xv166) = (0 : Int32)) := own_at2 _ _ _ _ _ _ _ z33 _ (by rw [ez33]) (by rw [exv166]; simp only [show nar .boolean z6 = z6 by rw [ez6]; exact own_nar01 _, show nar .boolean z33 = z33 by rw [ez33]; exact own_nar01 _])
    obtain ⟨xv169, exv169⟩ : ∃ z : Int32, z = (if z8 = (3 : Int32) then (nar .boolean z6) else (if z7 = (3 : Int32) then (nar .boolean z6) else ((nar .boolean z41)))) := ⟨_, rfl⟩
    have hgxv169 : Lm148.getD ((3 : Int32)).toNatClampNeg (.int (0 : Int32)) = .int xv169 := by
      rw [exv169, eLm148]
      rw [own_getset _ _ _ _ _ hb_z8.1 (by decide) (by simp), own_getset _ _ _ _ _ hb_z7.1 (by decide) (by simp)]
      simp only [apply_ite Value.int]
      rfl
    obtain ⟨_, _, ⟨T170, L170, k170, n170⟩, -, X170, ⟨Lc170, hQ170, l170, y170, z170⟩, st170⟩ := Jvm.LawKit.callS X167 hx (y := (⟨"pushwise/BoxesPlacePinLaw", "at", "([ZIIIIIIIZ)Z"⟩ : MethodName)) hown (mvT hZ (hw _ (List.mem_of_getElem? (i := 11) rfl))) (mvT hZ (hw _ (List.mem_of_getElem? (i := 12) rfl))) (mvT hZ (hw _ (List.mem_of_getElem? (i := 4) rfl))) (mvT hZ (hw _ (List.mem_of_getElem? (i := 13) rfl))) (by decide) (backOf (W := 0) (rmAt l Z a0 hw [] b11 (3 : Int32) init (2 : Int32) z7 z8 z9 z10 z6 c11 Lm148 xv169 T148.heap n0 Vq148 (by decide) (by decide) hgxv169) hZ (hw _ (List.mem_of_getElem? (i := 13) rfl)) (hw _ (List.mem_of_getElem? (i := 4) rfl)) (by decide) (by decide)) (g := (mkF m 383 #[.val (.int init), .val (.int sq), .val (.int cnt), .val (.int fl), .val (.int z6), .val (.int (2 : Int32)), .val (.int z7), .val (.int z8), .val (.int z9), .val (.int z10), .val (.ref b11), .val (.ref bx147), .val (.int (1 : Int32))] [(.int z6), (.int z10), (.int z9), (.int z8), (.int z7), (.int (2 : Int32)), (.int init), (.int (3 : Int32)), (.ref b11)])) rfl (by rw [hml]; rfl) (argsL := [(.ref b11), (.int (3 : Int32)), (.int init), (.int (2 : Int32)), (.int z7), (.int z8), (.int z9), (.int z10), (.int z6)]) (rest := []) (lenOf pd_2 rfl) rfl (by show 2 * 0 + _ ≤ _; exact Nat.le_of_eq rfl) (hb hby at_383) (fun _ _ => ⟨rfl, e167, (by decide : 2 + 0 ≤ _), (by decide : 10 + 0 ≤ _)⟩)
    dsimp only [Pt.U, Pt.locs, Pt.cells, Pt.slots] at X170 l170 y170 z170 st170 hQ170
    subst l170 y170 z170
    obtain ⟨rfl, N170q, e170⟩ := hQ170
    have N170 := Fr.app N167 N170q
    have hd171 : ¬ ((atF (3 : Int32) init (2 : Int32) z7 z8 z9 z10 z6 xv169) = (0 : Int32)) := own_at2 _ _ _ _ _ _ _ z41 _ (by rw [ez41]) (by rw [exv169]; simp only [show nar .boolean z6 = z6 by rw [ez6]; exact own_nar01 _, show nar .boolean z41 = z41 by rw [ez41]; exact own_nar01 _])
    obtain ⟨xv172, exv172⟩ : ∃ z : Int32, z = (if z8 = (4 : Int32) then (nar .boolean z6) else (if z7 = (4 : Int32) then (nar .boolean z6) else ((nar .boolean z49)))) := ⟨_, rfl⟩
    have hgxv172 : Lm148.getD ((4 : Int32)).toNatClampNeg (.int (0 : Int32)) = .int xv172 := by
      rw [exv172, eLm148]
      rw [own_getset _ _ _ _ _ hb_z8.1 (by decide) (by simp), own_getset _ _ _ _ _ hb_z7.1 (by decide) (by simp)]
      simp only [apply_ite Value.int]
      rfl
    obtain ⟨_, _, ⟨T173, L173, k173, n173⟩, -, X173, ⟨Lc173, hQ173, l173, y173, z173⟩, st173⟩ := Jvm.LawKit.callS X170 hx (y := (⟨"pushwise/BoxesPlacePinLaw", "at", "([ZIIIIIIIZ)Z"⟩ : MethodName)) hown (mvT hZ (hw _ (List.mem_of_getElem? (i := 11) rfl))) (mvT hZ (hw _ (List.mem_of_getElem? (i := 12) rfl))) (mvT hZ (hw _ (List.mem_of_getElem? (i := 4) rfl))) (mvT hZ (hw _ (List.mem_of_getElem? (i := 13) rfl))) (by decide) (backOf (W := 0) (rmAt l Z a0 hw [] b11 (4 : Int32) init (2 : Int32) z7 z8 z9 z10 z6 c11 Lm148 xv172 T148.heap n0 Vq148 (by decide) (by decide) hgxv172) hZ (hw _ (List.mem_of_getElem? (i := 13) rfl)) (hw _ (List.mem_of_getElem? (i := 4) rfl)) (by decide) (by decide)) (g := (mkF m 405 #[.val (.int init), .val (.int sq), .val (.int cnt), .val (.int fl), .val (.int z6), .val (.int (2 : Int32)), .val (.int z7), .val (.int z8), .val (.int z9), .val (.int z10), .val (.ref b11), .val (.ref bx147), .val (.int (1 : Int32))] [(.int z6), (.int z10), (.int z9), (.int z8), (.int z7), (.int (2 : Int32)), (.int init), (.int (4 : Int32)), (.ref b11)])) rfl (by rw [hml]; rfl) (argsL := [(.ref b11), (.int (4 : Int32)), (.int init), (.int (2 : Int32)), (.int z7), (.int z8), (.int z9), (.int z10), (.int z6)]) (rest := []) (lenOf pd_2 rfl) rfl (by show 2 * 0 + _ ≤ _; exact Nat.le_of_eq rfl) (hb hby at_405) (fun _ _ => ⟨rfl, e170, (by decide : 2 + 0 ≤ _), (by decide : 10 + 0 ≤ _)⟩)
    dsimp only [Pt.U, Pt.locs, Pt.cells, Pt.slots] at X173 l173 y173 z173 st173 hQ173
    subst l173 y173 z173
    obtain ⟨rfl, N173q, e173⟩ := hQ173
    have N173 := Fr.app N170 N173q
    have hd174 : ¬ ((atF (4 : Int32) init (2 : Int32) z7 z8 z9 z10 z6 xv172) = (0 : Int32)) := own_at2 _ _ _ _ _ _ _ z49 _ (by rw [ez49]) (by rw [exv172]; simp only [show nar .boolean z6 = z6 by rw [ez6]; exact own_nar01 _, show nar .boolean z49 = z49 by rw [ez49]; exact own_nar01 _])
    obtain ⟨xv175, exv175⟩ : ∃ z : Int32, z = (if z8 = (5 : Int32) then (nar .boolean z6) else (if z7 = (5 : Int32) then (nar .boolean z6) else ((nar .boolean z57)))) := ⟨_, rfl⟩
    have hgxv175 : Lm148.getD ((5 : Int32)).toNatClampNeg (.int (0 : Int32)) = .int xv175 := by
      rw [exv175, eLm148]
      rw [own_getset _ _ _ _ _ hb_z8.1 (by decide) (by simp), own_getset _ _ _ _ _ hb_z7.1 (by decide) (by simp)]
      simp only [apply_ite Value.int]
      rfl
    obtain ⟨_, _, ⟨T176, L176, k176, n176⟩, -, X176, ⟨Lc176, hQ176, l176, y176, z176⟩, st176⟩ := Jvm.LawKit.callS X173 hx (y := (⟨"pushwise/BoxesPlacePinLaw", "at", "([ZIIIIIIIZ)Z"⟩ : MethodName)) hown (mvT hZ (hw _ (List.mem_of_getElem? (i := 11) rfl))) (mvT hZ (hw _ (List.mem_of_getElem? (i := 12) rfl))) (mvT hZ (hw _ (List.mem_of_getElem? (i := 4) rfl))) (mvT hZ (hw _ (List.mem_of_getElem? (i := 13) rfl))) (by decide) (backOf (W := 0) (rmAt l Z a0 hw [] b11 (5 : Int32) init (2 : Int32) z7 z8 z9 z10 z6 c11 Lm148 xv175 T148.heap n0 Vq148 (by decide) (by decide) hgxv175) hZ (hw _ (List.mem_of_getElem? (i := 13) rfl)) (hw _ (List.mem_of_getElem? (i := 4) rfl)) (by decide) (by decide)) (g := (mkF m 427 #[.val (.int init), .val (.int sq), .val (.int cnt), .val (.int fl), .val (.int z6), .val (.int (2 : Int32)), .val (.int z7), .val (.int z8), .val (.int z9), .val (.int z10), .val (.ref b11), .val (.ref bx147), .val (.int (1 : Int32))] [(.int z6), (.int z10), (.int z9), (.int z8), (.int z7), (.int (2 : Int32)), (.int init), (.int (5 : Int32)), (.ref b11)])) rfl (by rw [hml]; rfl) (argsL := [(.ref b11), (.int (5 : Int32)), (.int init), (.int (2 : Int32)), (.int z7), (.int z8), (.int z9), (.int z10), (.int z6)]) (rest := []) (lenOf pd_2 rfl) rfl (by show 2 * 0 + _ ≤ _; exact Nat.le_of_eq rfl) (hb hby at_427) (fun _ _ => ⟨rfl, e173, (by decide : 2 + 0 ≤ _), (by decide : 10 + 0 ≤ _)⟩)
    dsimp only [Pt.U, Pt.locs, Pt.cells, Pt.slots] at X176 l176 y176 z176 st176 hQ176
    subst l176 y176 z176
    obtain ⟨rfl, N176q, e176⟩ := hQ176
    have N176 := Fr.app N173 N176q
    have hd177 : ¬ ((atF (5 : Int32) init (2 : Int32) z7 z8 z9 z10 z6 xv175) = (0 : Int32)) := own_at2 _ _ _ _ _ _ _ z57 _ (by rw [ez57]) (by rw [exv175]; simp only [show nar .boolean z6 = z6 by rw [ez6]; exact own_nar01 _, show nar .boolean z57 = z57 by rw [ez57]; exact own_nar01 _])
    obtain ⟨xv178, exv178⟩ : ∃ z : Int32, z = (if z8 = (6 : Int32) then (nar .boolean z6) else (if z7 = (6 : Int32) then (nar .boolean z6) else ((nar .boolean z65)))) := ⟨_, rfl⟩
    have hgxv178 : Lm148.getD ((6 : Int32)).toNatClampNeg (.int (0 : Int32)) = .int xv178 := by
      rw [exv178, eLm148]
      rw [own_getset _ _ _ _ _ hb_z8.1 (by decide) (by simp), own_getset _ _ _ _ _ hb_z7.1 (by decide) (by simp)]
      simp only [apply_ite Value.int]
      rfl
    obtain ⟨_, _, ⟨T179, L179, k179, n179⟩, -, X179, ⟨Lc179, hQ179, l179, y179, z179⟩, st179⟩ := Jvm.LawKit.callS X176 hx (y := (⟨"pushwise/BoxesPlacePinLaw", "at", "([ZIIIIIIIZ)Z"⟩ : MethodName)) hown (mvT hZ (hw _ (List.mem_of_getElem? (i := 11) rfl))) (mvT hZ (hw _ (List.mem_of_getElem? (i := 12) rfl))) (mvT hZ (hw _ (List.mem_of_getElem? (i := 4) rfl))) (mvT hZ (hw _ (List.mem_of_getElem? (i := 13) rfl))) (by decide) (backOf (W := 0) (rmAt l Z a0 hw [] b11 (6 : Int32) init (2 : Int32) z7 z8 z9 z10 z6 c11 Lm148 xv178 T148.heap n0 Vq148 (by decide) (by decide) hgxv178) hZ (hw _ (List.mem_of_getElem? (i := 13) rfl)) (hw _ (List.mem_of_getElem? (i := 4) rfl)) (by decide) (by decide)) (g := (mkF m 450 #[.val (.int init), .val (.int sq), .val (.int cnt), .val (.int fl), .val (.int z6), .val (.int (2 : Int32)), .val (.int z7), .val (.int z8), .val (.int z9), .val (.int z10), .val (.ref b11), .val (.ref bx147), .val (.int (1 : Int32))] [(.int z6), (.int z10), (.int z9), (.int z8), (.int z7), (.int (2 : Int32)), (.int init), (.int (6 : Int32)), (.ref b11)])) rfl (by rw [hml]; rfl) (argsL := [(.ref b11), (.int (6 : Int32)), (.int init), (.int (2 : Int32)), (.int z7), (.int z8), (.int z9), (.int z10), (.int z6)]) (rest := []) (lenOf pd_2 rfl) rfl (by show 2 * 0 + _ ≤ _; exact Nat.le_of_eq rfl) (hb hby at_450) (fun _ _ => ⟨rfl, e176, (by decide : 2 + 0 ≤ _), (by decide : 10 + 0 ≤ _)⟩)
    dsimp only [Pt.U, Pt.locs, Pt.cells, Pt.slots] at X179 l179 y179 z179 st179 hQ179
    subst l179 y179 z179
    obtain ⟨rfl, N179q, e179⟩ := hQ179
    have N179 := Fr.app N176 N179q
    have hd180 : ¬ ((atF (6 : Int32) init (2 : Int32) z7 z8 z9 z10 z6 xv178) = (0 : Int32)) := own_at2 _ _ _ _ _ _ _ z65 _ (by rw [ez65]) (by rw [exv178]; simp only [show nar .boolean z6 = z6 by rw [ez6]; exact own_nar01 _, show nar .boolean z65 = z65 by rw [ez65]; exact own_nar01 _])
    obtain ⟨xv181, exv181⟩ : ∃ z : Int32, z = (if z8 = (7 : Int32) then (nar .boolean z6) else (if z7 = (7 : Int32) then (nar .boolean z6) else ((nar .boolean z73)))) := ⟨_, rfl⟩
    have hgxv181 : Lm148.getD ((7 : Int32)).toNatClampNeg (.int (0 : Int32)) = .int xv181 := by
      rw [exv181, eLm148]
      rw [own_getset _ _ _ _ _ hb_z8.1 (by decide) (by simp), own_getset _ _ _ _ _ hb_z7.1 (by decide) (by simp)]
      simp only [apply_ite Value.int]
      rfl
    obtain ⟨_, _, ⟨T182, L182, k182, n182⟩, -, X182, ⟨Lc182, hQ182, l182, y182, z182⟩, st182⟩ := Jvm.LawKit.callS X179 hx (y := (⟨"pushwise/BoxesPlacePinLaw", "at", "([ZIIIIIIIZ)Z"⟩ : MethodName)) hown (mvT hZ (hw _ (List.mem_of_getElem? (i := 11) rfl))) (mvT hZ (hw _ (List.mem_of_getElem? (i := 12) rfl))) (mvT hZ (hw _ (List.mem_of_getElem? (i := 4) rfl))) (mvT hZ (hw _ (List.mem_of_getElem? (i := 13) rfl))) (by decide) (backOf (W := 0) (rmAt l Z a0 hw [] b11 (7 : Int32) init (2 : Int32) z7 z8 z9 z10 z6 c11 Lm148 xv181 T148.heap n0 Vq148 (by decide) (by decide) hgxv181) hZ (hw _ (List.mem_of_getElem? (i := 13) rfl)) (hw _ (List.mem_of_getElem? (i := 4) rfl)) (by decide) (by decide)) (g := (mkF m 473 #[.val (.int init), .val (.int sq), .val (.int cnt), .val (.int fl), .val (.int z6), .val (.int (2 : Int32)), .val (.int z7), .val (.int z8), .val (.int z9), .val (.int z10), .val (.ref b11), .val (.ref bx147), .val (.int (1 : Int32))] [(.int z6), (.int z10), (.int z9), (.int z8), (.int z7), (.int (2 : Int32)), (.int init), (.int (7 : Int32)), (.ref b11)])) rfl (by rw [hml]; rfl) (argsL := [(.ref b11), (.int (7 : Int32)), (.int init), (.int (2 : Int32)), (.int z7), (.int z8), (.int z9), (.int z10), (.int z6)]) (rest := []) (lenOf pd_2 rfl) rfl (by show 2 * 0 + _ ≤ _; exact Nat.le_of_eq rfl) (hb hby at_473) (fun _ _ => ⟨rfl, e179, (by decide : 2 + 0 ≤ _), (by decide : 10 + 0 ≤ _)⟩)
    dsimp only [Pt.U, Pt.locs, Pt.cells, Pt.slots] at X182 l182 y182 z182 st182 hQ182
    subst l182 y182 z182
    obtain ⟨rfl, N182q, e182⟩ := hQ182
    have N182 := Fr.app N179 N182q
    have hd183 : ¬ ((atF (7 : Int32) init (2 : Int32) z7 z8 z9 z10 z6 xv181) = (0 : Int32)) := own_at2 _ _ _ _ _ _ _ z73 _ (by rw [ez73]) (by rw [exv181]; simp only [show nar .boolean z6 = z6 by rw [ez6]; exact own_nar01 _, show nar .boolean z73 = z73 by rw [ez73]; exact own_nar01 _])
    have k184 : ∀ tg, Steps p.tables e below (T182.setTop (mkF m 484 #[.val (.int init), .val (.int sq), .val (.int cnt), .val (.int fl), .val (.int z6), .val (.int (2 : Int32)), .val (.int z7), .val (.int z8), .val (.int z9), .val (.int z10), .val (.ref b11), .val (.ref bx147), .val (.int (1 : Int32))] [(.int (1 : Int32))])) tg → Steps p.tables e below (s₁.setTop (entryFrame m #[(.int init), (.int sq), (.int cnt), (.int fl)] maxLocals)) tg := by
      intro tg kt
      refine k76 tg ?_
      show Steps p.tables e below (T75.setTop (mkF m 197 #[.val (.int init), .val (.int sq), .val (.int cnt), .val (.int fl), .val (.int z6), .val (.int ((cnt &&& (2147483647 : Int32)) % (5 : Int32))), .val (.int z7), .val (.int z8), .val (.int z9), .val (.int z10), .val (.ref b11), .unset, .unset] [])) _
      rw [hn]
      show Steps p.tables e below (T75.setTop (mkF m 197 #[.val (.int init), .val (.int sq), .val (.int cnt), .val (.int fl), .val (.int z6), .val (.int (2 : Int32)), .val (.int z7), .val (.int z8), .val (.int z9), .val (.int z10), .val (.ref b11), .unset, .unset] [])) _
      refine XS.iload X75.here hx rfl (hb hby at_197) rfl ?_
      show Steps p.tables e below (T75.setTop (mkF m 199 #[.val (.int init), .val (.int sq), .val (.int cnt), .val (.int fl), .val (.int z6), .val (.int (2 : Int32)), .val (.int z7), .val (.int z8), .val (.int z9), .val (.int z10), .val (.ref b11), .unset, .unset] [(.int (2 : Int32))])) _
      refine XS.iload X75.here hx rfl (hb hby at_199) rfl ?_
      show Steps p.tables e below (T75.setTop (mkF m 201 #[.val (.int init), .val (.int sq), .val (.int cnt), .val (.int fl), .val (.int z6), .val (.int (2 : Int32)), .val (.int z7), .val (.int z8), .val (.int z9), .val (.int z10), .val (.ref b11), .unset, .unset] [(.int z7), (.int (2 : Int32))])) _
      refine XS.iload X75.here hx rfl (hb hby at_201) rfl ?_
      show Steps p.tables e below (T75.setTop (mkF m 203 #[.val (.int init), .val (.int sq), .val (.int cnt), .val (.int fl), .val (.int z6), .val (.int (2 : Int32)), .val (.int z7), .val (.int z8), .val (.int z9), .val (.int z10), .val (.ref b11), .unset, .unset] [(.int z8), (.int z7), (.int (2 : Int32))])) _
      refine XS.iload X75.here hx rfl (hb hby at_203) rfl ?_
      show Steps p.tables e below (T75.setTop (mkF m 205 #[.val (.int init), .val (.int sq), .val (.int cnt), .val (.int fl), .val (.int z6), .val (.int (2 : Int32)), .val (.int z7), .val (.int z8), .val (.int z9), .val (.int z10), .val (.ref b11), .unset, .unset] [(.int z9), (.int z8), (.int z7), (.int (2 : Int32))])) _
      refine XS.iload X75.here hx rfl (hb hby at_205) rfl ?_
      show Steps p.tables e below (T75.setTop (mkF m 207 #[.val (.int init), .val (.int sq), .val (.int cnt), .val (.int fl), .val (.int z6), .val (.int (2 : Int32)), .val (.int z7), .val (.int z8), .val (.int z9), .val (.int z10), .val (.ref b11), .unset, .unset] [(.int z10), (.int z9), (.int z8), (.int z7), (.int (2 : Int32))])) _
      refine st147 _ ?_
      show Steps p.tables e below (T147.setTop (mkF m 210 #[.val (.int init), .val (.int sq), .val (.int cnt), .val (.int fl), .val (.int z6), .val (.int (2 : Int32)), .val (.int z7), .val (.int z8), .val (.int z9), .val (.int z10), .val (.ref b11), .unset, .unset] [(.ref bx147)])) _
      refine XS.astore X147.here hx rfl (hb hby at_210) rfl rfl (l' := #[.val (.int init), .val (.int sq), .val (.int cnt), .val (.int fl), .val (.int z6), .val (.int (2 : Int32)), .val (.int z7), .val (.int z8), .val (.int z9), .val (.int z10), .val (.ref b11), .val (.ref bx147), .unset]) rfl ?_
      show Steps p.tables e below (T147.setTop (mkF m 212 #[.val (.int init), .val (.int sq), .val (.int cnt), .val (.int fl), .val (.int z6), .val (.int (2 : Int32)), .val (.int z7), .val (.int z8), .val (.int z9), .val (.int z10), .val (.ref b11), .val (.ref bx147), .unset] [])) _
      refine XS.aload X147.here hx rfl (hb hby at_212) rfl rfl ?_
      show Steps p.tables e below (T147.setTop (mkF m 214 #[.val (.int init), .val (.int sq), .val (.int cnt), .val (.int fl), .val (.int z6), .val (.int (2 : Int32)), .val (.int z7), .val (.int z8), .val (.int z9), .val (.int z10), .val (.ref b11), .val (.ref bx147), .unset] [(.ref b11)])) _
      refine XS.aload X147.here hx rfl (hb hby at_214) rfl rfl ?_
      show Steps p.tables e below (T147.setTop (mkF m 216 #[.val (.int init), .val (.int sq), .val (.int cnt), .val (.int fl), .val (.int z6), .val (.int (2 : Int32)), .val (.int z7), .val (.int z8), .val (.int z9), .val (.int z10), .val (.ref b11), .val (.ref bx147), .unset] [(.ref bx147), (.ref b11)])) _
      refine XS.iload X147.here hx rfl (hb hby at_216) rfl ?_
      show Steps p.tables e below (T147.setTop (mkF m 218 #[.val (.int init), .val (.int sq), .val (.int cnt), .val (.int fl), .val (.int z6), .val (.int (2 : Int32)), .val (.int z7), .val (.int z8), .val (.int z9), .val (.int z10), .val (.ref b11), .val (.ref bx147), .unset] [(.int z6), (.ref bx147), (.ref b11)])) _
      refine st148 _ ?_
      show Steps p.tables e below (T148.setTop (mkF m 221 #[.val (.int init), .val (.int sq), .val (.int cnt), .val (.int fl), .val (.int z6), .val (.int (2 : Int32)), .val (.int z7), .val (.int z8), .val (.int z9), .val (.int z10), .val (.ref b11), .val (.ref bx147), .unset] [])) _
      refine XS.aload X148.here hx rfl (hb hby at_221) rfl rfl ?_
      show Steps p.tables e below (T148.setTop (mkF m 223 #[.val (.int init), .val (.int sq), .val (.int cnt), .val (.int fl), .val (.int z6), .val (.int (2 : Int32)), .val (.int z7), .val (.int z8), .val (.int z9), .val (.int z10), .val (.ref b11), .val (.ref bx147), .unset] [(.ref bx147)])) _
      refine X148.arraylength hx (by exact Ar223_149.1) (State.isArrayOf_alike hZ.alike Ar223_149.2.1) (g := (mkF m 223 #[.val (.int init), .val (.int sq), .val (.int cnt), .val (.int fl), .val (.int z6), .val (.int (2 : Int32)), .val (.int z7), .val (.int z8), .val (.int z9), .val (.int z10), .val (.ref b11), .val (.ref bx147), .unset] [(.ref bx147)])) rfl rfl (hb hby at_223) _ ?_
      rw [len_of S223_149 N223_149_]
      show Steps p.tables e below (T148.setTop (mkF m 224 #[.val (.int init), .val (.int sq), .val (.int cnt), .val (.int fl), .val (.int z6), .val (.int (2 : Int32)), .val (.int z7), .val (.int z8), .val (.int z9), .val (.int z10), .val (.ref b11), .val (.ref bx147), .unset] [(.int (2 : Int32))])) _
      refine XS.iload X148.here hx rfl (hb hby at_224) rfl ?_
      show Steps p.tables e below (T148.setTop (mkF m 226 #[.val (.int init), .val (.int sq), .val (.int cnt), .val (.int fl), .val (.int z6), .val (.int (2 : Int32)), .val (.int z7), .val (.int z8), .val (.int z9), .val (.int z10), .val (.ref b11), .val (.ref bx147), .unset] [(.int (2 : Int32)), (.int (2 : Int32))])) _
      refine XS.icmpNo X148.here hx rfl (hb hby at_226) rfl (teq hd150).2 ?_
      show Steps p.tables e below (T148.setTop (mkF m 229 #[.val (.int init), .val (.int sq), .val (.int cnt), .val (.int fl), .val (.int z6), .val (.int (2 : Int32)), .val (.int z7), .val (.int z8), .val (.int z9), .val (.int z10), .val (.ref b11), .val (.ref bx147), .unset] [])) _
      refine XS.iload X148.here hx rfl (hb hby at_229) rfl ?_
      show Steps p.tables e below (T148.setTop (mkF m 231 #[.val (.int init), .val (.int sq), .val (.int cnt), .val (.int fl), .val (.int z6), .val (.int (2 : Int32)), .val (.int z7), .val (.int z8), .val (.int z9), .val (.int z10), .val (.ref b11), .val (.ref bx147), .unset] [(.int (2 : Int32))])) _
      refine XS.iconst X148.here hx rfl (hb hby at_231) ?_
      show Steps p.tables e below (T148.setTop (mkF m 232 #[.val (.int init), .val (.int sq), .val (.int cnt), .val (.int fl), .val (.int z6), .val (.int (2 : Int32)), .val (.int z7), .val (.int z8), .val (.int z9), .val (.int z10), .val (.ref b11), .val (.ref bx147), .unset] [(.int (1 : Int32)), (.int (2 : Int32))])) _
      refine XS.icmpNo X148.here hx rfl (hb hby at_232) rfl (flt hd151).1 ?_
      show Steps p.tables e below (T148.setTop (mkF m 235 #[.val (.int init), .val (.int sq), .val (.int cnt), .val (.int fl), .val (.int z6), .val (.int (2 : Int32)), .val (.int z7), .val (.int z8), .val (.int z9), .val (.int z10), .val (.ref b11), .val (.ref bx147), .unset] [])) _
      refine XS.aload X148.here hx rfl (hb hby at_235) rfl rfl ?_
      show Steps p.tables e below (T148.setTop (mkF m 237 #[.val (.int init), .val (.int sq), .val (.int cnt), .val (.int fl), .val (.int z6), .val (.int (2 : Int32)), .val (.int z7), .val (.int z8), .val (.int z9), .val (.int z10), .val (.ref b11), .val (.ref bx147), .unset] [(.ref bx147)])) _
      refine XS.iconst X148.here hx rfl (hb hby at_237) ?_
      show Steps p.tables e below (T148.setTop (mkF m 238 #[.val (.int init), .val (.int sq), .val (.int cnt), .val (.int fl), .val (.int z6), .val (.int (2 : Int32)), .val (.int z7), .val (.int z8), .val (.int z9), .val (.int z10), .val (.ref b11), .val (.ref bx147), .unset] [(.int (0 : Int32)), (.ref bx147)])) _
      refine X148.iaload hx (j := (0 : Int32)) (v := (.int z7)) (by exact Ar238_152.1) (State.isArrayOf_alike hZ.alike Ar238_152.2.1) Ar238_152.2.2 hin238_152 hat238_152 (g := (mkF m 238 #[.val (.int init), .val (.int sq), .val (.int cnt), .val (.int fl), .val (.int z6), .val (.int (2 : Int32)), .val (.int z7), .val (.int z8), .val (.int z9), .val (.int z10), .val (.ref b11), .val (.ref bx147), .unset] [(.int (0 : Int32)), (.ref bx147)])) rfl rfl (hb hby at_238) _ ?_
      show Steps p.tables e below (T148.setTop (mkF m 239 #[.val (.int init), .val (.int sq), .val (.int cnt), .val (.int fl), .val (.int z6), .val (.int (2 : Int32)), .val (.int z7), .val (.int z8), .val (.int z9), .val (.int z10), .val (.ref b11), .val (.ref bx147), .unset] [(.int z7)])) _
      refine XS.iload X148.here hx rfl (hb hby at_239) rfl ?_
      show Steps p.tables e below (T148.setTop (mkF m 241 #[.val (.int init), .val (.int sq), .val (.int cnt), .val (.int fl), .val (.int z6), .val (.int (2 : Int32)), .val (.int z7), .val (.int z8), .val (.int z9), .val (.int z10), .val (.ref b11), .val (.ref bx147), .unset] [(.int z7), (.int z7)])) _
      refine XS.icmpNo X148.here hx rfl (hb hby at_241) rfl (teq hd153).2 ?_
      show Steps p.tables e below (T148.setTop (mkF m 244 #[.val (.int init), .val (.int sq), .val (.int cnt), .val (.int fl), .val (.int z6), .val (.int (2 : Int32)), .val (.int z7), .val (.int z8), .val (.int z9), .val (.int z10), .val (.ref b11), .val (.ref bx147), .unset] [])) _
      refine XS.iload X148.here hx rfl (hb hby at_244) rfl ?_
      show Steps p.tables e below (T148.setTop (mkF m 246 #[.val (.int init), .val (.int sq), .val (.int cnt), .val (.int fl), .val (.int z6), .val (.int (2 : Int32)), .val (.int z7), .val (.int z8), .val (.int z9), .val (.int z10), .val (.ref b11), .val (.ref bx147), .unset] [(.int (2 : Int32))])) _
      refine XS.iconst X148.here hx rfl (hb hby at_246) ?_
      show Steps p.tables e below (T148.setTop (mkF m 247 #[.val (.int init), .val (.int sq), .val (.int cnt), .val (.int fl), .val (.int z6), .val (.int (2 : Int32)), .val (.int z7), .val (.int z8), .val (.int z9), .val (.int z10), .val (.ref b11), .val (.ref bx147), .unset] [(.int (2 : Int32)), (.int (2 : Int32))])) _
      refine XS.icmpNo X148.here hx rfl (hb hby at_247) rfl (flt hd154).1 ?_
      show Steps p.tables e below (T148.setTop (mkF m 250 #[.val (.int init), .val (.int sq), .val (.int cnt), .val (.int fl), .val (.int z6), .val (.int (2 : Int32)), .val (.int z7), .val (.int z8), .val (.int z9), .val (.int z10), .val (.ref b11), .val (.ref bx147), .unset] [])) _
      refine XS.aload X148.here hx rfl (hb hby at_250) rfl rfl ?_
      show Steps p.tables e below (T148.setTop (mkF m 252 #[.val (.int init), .val (.int sq), .val (.int cnt), .val (.int fl), .val (.int z6), .val (.int (2 : Int32)), .val (.int z7), .val (.int z8), .val (.int z9), .val (.int z10), .val (.ref b11), .val (.ref bx147), .unset] [(.ref bx147)])) _
      refine XS.iconst X148.here hx rfl (hb hby at_252) ?_
      show Steps p.tables e below (T148.setTop (mkF m 253 #[.val (.int init), .val (.int sq), .val (.int cnt), .val (.int fl), .val (.int z6), .val (.int (2 : Int32)), .val (.int z7), .val (.int z8), .val (.int z9), .val (.int z10), .val (.ref b11), .val (.ref bx147), .unset] [(.int (1 : Int32)), (.ref bx147)])) _
      refine X148.iaload hx (j := (1 : Int32)) (v := (.int z8)) (by exact Ar253_155.1) (State.isArrayOf_alike hZ.alike Ar253_155.2.1) Ar253_155.2.2 hin253_155 hat253_155 (g := (mkF m 253 #[.val (.int init), .val (.int sq), .val (.int cnt), .val (.int fl), .val (.int z6), .val (.int (2 : Int32)), .val (.int z7), .val (.int z8), .val (.int z9), .val (.int z10), .val (.ref b11), .val (.ref bx147), .unset] [(.int (1 : Int32)), (.ref bx147)])) rfl rfl (hb hby at_253) _ ?_
      show Steps p.tables e below (T148.setTop (mkF m 254 #[.val (.int init), .val (.int sq), .val (.int cnt), .val (.int fl), .val (.int z6), .val (.int (2 : Int32)), .val (.int z7), .val (.int z8), .val (.int z9), .val (.int z10), .val (.ref b11), .val (.ref bx147), .unset] [(.int z8)])) _
      refine XS.iload X148.here hx rfl (hb hby at_254) rfl ?_
      show Steps p.tables e below (T148.setTop (mkF m 256 #[.val (.int init), .val (.int sq), .val (.int cnt), .val (.int fl), .val (.int z6), .val (.int (2 : Int32)), .val (.int z7), .val (.int z8), .val (.int z9), .val (.int z10), .val (.ref b11), .val (.ref bx147), .unset] [(.int z8), (.int z8)])) _
      refine XS.icmpNo X148.here hx rfl (hb hby at_256) rfl (teq hd156).2 ?_
      show Steps p.tables e below (T148.setTop (mkF m 259 #[.val (.int init), .val (.int sq), .val (.int cnt), .val (.int fl), .val (.int z6), .val (.int (2 : Int32)), .val (.int z7), .val (.int z8), .val (.int z9), .val (.int z10), .val (.ref b11), .val (.ref bx147), .unset] [])) _
      refine XS.iload X148.here hx rfl (hb hby at_259) rfl ?_
      show Steps p.tables e below (T148.setTop (mkF m 261 #[.val (.int init), .val (.int sq), .val (.int cnt), .val (.int fl), .val (.int z6), .val (.int (2 : Int32)), .val (.int z7), .val (.int z8), .val (.int z9), .val (.int z10), .val (.ref b11), .val (.ref bx147), .unset] [(.int (2 : Int32))])) _
      refine XS.iconst X148.here hx rfl (hb hby at_261) ?_
      show Steps p.tables e below (T148.setTop (mkF m 262 #[.val (.int init), .val (.int sq), .val (.int cnt), .val (.int fl), .val (.int z6), .val (.int (2 : Int32)), .val (.int z7), .val (.int z8), .val (.int z9), .val (.int z10), .val (.ref b11), .val (.ref bx147), .unset] [(.int (3 : Int32)), (.int (2 : Int32))])) _
      refine XS.icmpYes X148.here hx rfl (pc0 := 262) (pc' := 274) rfl (hb hby at_262) rfl (tlt hd157).1 (by decide) (by decide) ?_
      show Steps p.tables e below (T148.setTop (mkF m 274 #[.val (.int init), .val (.int sq), .val (.int cnt), .val (.int fl), .val (.int z6), .val (.int (2 : Int32)), .val (.int z7), .val (.int z8), .val (.int z9), .val (.int z10), .val (.ref b11), .val (.ref bx147), .unset] [])) _
      refine XS.iload X148.here hx rfl (hb hby at_274) rfl ?_
      show Steps p.tables e below (T148.setTop (mkF m 276 #[.val (.int init), .val (.int sq), .val (.int cnt), .val (.int fl), .val (.int z6), .val (.int (2 : Int32)), .val (.int z7), .val (.int z8), .val (.int z9), .val (.int z10), .val (.ref b11), .val (.ref bx147), .unset] [(.int (2 : Int32))])) _
      refine XS.iconst X148.here hx rfl (hb hby at_276) ?_
      show Steps p.tables e below (T148.setTop (mkF m 277 #[.val (.int init), .val (.int sq), .val (.int cnt), .val (.int fl), .val (.int z6), .val (.int (2 : Int32)), .val (.int z7), .val (.int z8), .val (.int z9), .val (.int z10), .val (.ref b11), .val (.ref bx147), .unset] [(.int (4 : Int32)), (.int (2 : Int32))])) _
      refine XS.icmpYes X148.here hx rfl (pc0 := 277) (pc' := 289) rfl (hb hby at_277) rfl (tlt hd158).1 (by decide) (by decide) ?_
      show Steps p.tables e below (T148.setTop (mkF m 289 #[.val (.int init), .val (.int sq), .val (.int cnt), .val (.int fl), .val (.int z6), .val (.int (2 : Int32)), .val (.int z7), .val (.int z8), .val (.int z9), .val (.int z10), .val (.ref b11), .val (.ref bx147), .unset] [])) _
      refine XS.iconst X148.here hx rfl (hb hby at_289) ?_
      show Steps p.tables e below (T148.setTop (mkF m 290 #[.val (.int init), .val (.int sq), .val (.int cnt), .val (.int fl), .val (.int z6), .val (.int (2 : Int32)), .val (.int z7), .val (.int z8), .val (.int z9), .val (.int z10), .val (.ref b11), .val (.ref bx147), .unset] [(.int (1 : Int32))])) _
      refine XS.goto X148.here hx rfl (pc0 := 290) (pc' := 294) rfl (hb hby at_290) (by decide) (by decide) ?_
      show Steps p.tables e below (T148.setTop (mkF m 294 #[.val (.int init), .val (.int sq), .val (.int cnt), .val (.int fl), .val (.int z6), .val (.int (2 : Int32)), .val (.int z7), .val (.int z8), .val (.int z9), .val (.int z10), .val (.ref b11), .val (.ref bx147), .unset] [(.int (1 : Int32))])) _
      refine XS.istore X148.here hx rfl (hb hby at_294) rfl (l' := #[.val (.int init), .val (.int sq), .val (.int cnt), .val (.int fl), .val (.int z6), .val (.int (2 : Int32)), .val (.int z7), .val (.int z8), .val (.int z9), .val (.int z10), .val (.ref b11), .val (.ref bx147), .val (.int (1 : Int32))]) rfl ?_
      show Steps p.tables e below (T148.setTop (mkF m 296 #[.val (.int init), .val (.int sq), .val (.int cnt), .val (.int fl), .val (.int z6), .val (.int (2 : Int32)), .val (.int z7), .val (.int z8), .val (.int z9), .val (.int z10), .val (.ref b11), .val (.ref bx147), .val (.int (1 : Int32))] [])) _
      refine XS.iload X148.here hx rfl (hb hby at_296) rfl ?_
      show Steps p.tables e below (T148.setTop (mkF m 298 #[.val (.int init), .val (.int sq), .val (.int cnt), .val (.int fl), .val (.int z6), .val (.int (2 : Int32)), .val (.int z7), .val (.int z8), .val (.int z9), .val (.int z10), .val (.ref b11), .val (.ref bx147), .val (.int (1 : Int32))] [(.int (1 : Int32))])) _
      refine XS.ifNo X148.here hx rfl (hb hby at_298) rfl ((if0 _ _).trans (feq hd159).1) ?_
      show Steps p.tables e below (T148.setTop (mkF m 301 #[.val (.int init), .val (.int sq), .val (.int cnt), .val (.int fl), .val (.int z6), .val (.int (2 : Int32)), .val (.int z7), .val (.int z8), .val (.int z9), .val (.int z10), .val (.ref b11), .val (.ref bx147), .val (.int (1 : Int32))] [])) _
      refine XS.aload X148.here hx rfl (hb hby at_301) rfl rfl ?_
      show Steps p.tables e below (T148.setTop (mkF m 303 #[.val (.int init), .val (.int sq), .val (.int cnt), .val (.int fl), .val (.int z6), .val (.int (2 : Int32)), .val (.int z7), .val (.int z8), .val (.int z9), .val (.int z10), .val (.ref b11), .val (.ref bx147), .val (.int (1 : Int32))] [(.ref b11)])) _
      refine XS.iconst X148.here hx rfl (hb hby at_303) ?_
      show Steps p.tables e below (T148.setTop (mkF m 304 #[.val (.int init), .val (.int sq), .val (.int cnt), .val (.int fl), .val (.int z6), .val (.int (2 : Int32)), .val (.int z7), .val (.int z8), .val (.int z9), .val (.int z10), .val (.ref b11), .val (.ref bx147), .val (.int (1 : Int32))] [(.int (0 : Int32)), (.ref b11)])) _
      refine XS.iloadN X148.here hx rfl (hb hby at_304) rfl ?_
      show Steps p.tables e below (T148.setTop (mkF m 305 #[.val (.int init), .val (.int sq), .val (.int cnt), .val (.int fl), .val (.int z6), .val (.int (2 : Int32)), .val (.int z7), .val (.int z8), .val (.int z9), .val (.int z10), .val (.ref b11), .val (.ref bx147), .val (.int (1 : Int32))] [(.int init), (.int (0 : Int32)), (.ref b11)])) _
      refine XS.iload X148.here hx rfl (hb hby at_305) rfl ?_
      show Steps p.tables e below (T148.setTop (mkF m 307 #[.val (.int init), .val (.int sq), .val (.int cnt), .val (.int fl), .val (.int z6), .val (.int (2 : Int32)), .val (.int z7), .val (.int z8), .val (.int z9), .val (.int z10), .val (.ref b11), .val (.ref bx147), .val (.int (1 : Int32))] [(.int (2 : Int32)), (.int init), (.int (0 : Int32)), (.ref b11)])) _
      refine XS.iload X148.here hx rfl (hb hby at_307) rfl ?_
      show Steps p.tables e below (T148.setTop (mkF m 309 #[.val (.int init), .val (.int sq), .val (.int cnt), .val (.int fl), .val (.int z6), .val (.int (2 : Int32)), .val (.int z7), .val (.int z8), .val (.int z9), .val (.int z10), .val (.ref b11), .val (.ref bx147), .val (.int (1 : Int32))] [(.int z7), (.int (2 : Int32)), (.int init), (.int (0 : Int32)), (.ref b11)])) _
      refine XS.iload X148.here hx rfl (hb hby at_309) rfl ?_
      show Steps p.tables e below (T148.setTop (mkF m 311 #[.val (.int init), .val (.int sq), .val (.int cnt), .val (.int fl), .val (.int z6), .val (.int (2 : Int32)), .val (.int z7), .val (.int z8), .val (.int z9), .val (.int z10), .val (.ref b11), .val (.ref bx147), .val (.int (1 : Int32))] [(.int z8), (.int z7), (.int (2 : Int32)), (.int init), (.int (0 : Int32)), (.ref b11)])) _
      refine XS.iload X148.here hx rfl (hb hby at_311) rfl ?_
      show Steps p.tables e below (T148.setTop (mkF m 313 #[.val (.int init), .val (.int sq), .val (.int cnt), .val (.int fl), .val (.int z6), .val (.int (2 : Int32)), .val (.int z7), .val (.int z8), .val (.int z9), .val (.int z10), .val (.ref b11), .val (.ref bx147), .val (.int (1 : Int32))] [(.int z9), (.int z8), (.int z7), (.int (2 : Int32)), (.int init), (.int (0 : Int32)), (.ref b11)])) _
      refine XS.iload X148.here hx rfl (hb hby at_313) rfl ?_
      show Steps p.tables e below (T148.setTop (mkF m 315 #[.val (.int init), .val (.int sq), .val (.int cnt), .val (.int fl), .val (.int z6), .val (.int (2 : Int32)), .val (.int z7), .val (.int z8), .val (.int z9), .val (.int z10), .val (.ref b11), .val (.ref bx147), .val (.int (1 : Int32))] [(.int z10), (.int z9), (.int z8), (.int z7), (.int (2 : Int32)), (.int init), (.int (0 : Int32)), (.ref b11)])) _
      refine XS.iload X148.here hx rfl (hb hby at_315) rfl ?_
      show Steps p.tables e below (T148.setTop (mkF m 317 #[.val (.int init), .val (.int sq), .val (.int cnt), .val (.int fl), .val (.int z6), .val (.int (2 : Int32)), .val (.int z7), .val (.int z8), .val (.int z9), .val (.int z10), .val (.ref b11), .val (.ref bx147), .val (.int (1 : Int32))] [(.int z6), (.int z10), (.int z9), (.int z8), (.int z7), (.int (2 : Int32)), (.int init), (.int (0 : Int32)), (.ref b11)])) _
      refine st161 _ ?_
      show Steps p.tables e below (T161.setTop (mkF m 320 #[.val (.int init), .val (.int sq), .val (.int cnt), .val (.int fl), .val (.int z6), .val (.int (2 : Int32)), .val (.int z7), .val (.int z8), .val (.int z9), .val (.int z10), .val (.ref b11), .val (.ref bx147), .val (.int (1 : Int32))] [(.int (atF (0 : Int32) init (2 : Int32) z7 z8 z9 z10 z6 xv160))])) _
      refine XS.ifNo X161.here hx rfl (hb hby at_320) rfl ((if0 _ _).trans (feq hd162).1) ?_
      show Steps p.tables e below (T161.setTop (mkF m 323 #[.val (.int init), .val (.int sq), .val (.int cnt), .val (.int fl), .val (.int z6), .val (.int (2 : Int32)), .val (.int z7), .val (.int z8), .val (.int z9), .val (.int z10), .val (.ref b11), .val (.ref bx147), .val (.int (1 : Int32))] [])) _
      refine XS.aload X161.here hx rfl (hb hby at_323) rfl rfl ?_
      show Steps p.tables e below (T161.setTop (mkF m 325 #[.val (.int init), .val (.int sq), .val (.int cnt), .val (.int fl), .val (.int z6), .val (.int (2 : Int32)), .val (.int z7), .val (.int z8), .val (.int z9), .val (.int z10), .val (.ref b11), .val (.ref bx147), .val (.int (1 : Int32))] [(.ref b11)])) _
      refine XS.iconst X161.here hx rfl (hb hby at_325) ?_
      show Steps p.tables e below (T161.setTop (mkF m 326 #[.val (.int init), .val (.int sq), .val (.int cnt), .val (.int fl), .val (.int z6), .val (.int (2 : Int32)), .val (.int z7), .val (.int z8), .val (.int z9), .val (.int z10), .val (.ref b11), .val (.ref bx147), .val (.int (1 : Int32))] [(.int (1 : Int32)), (.ref b11)])) _
      refine XS.iloadN X161.here hx rfl (hb hby at_326) rfl ?_
      show Steps p.tables e below (T161.setTop (mkF m 327 #[.val (.int init), .val (.int sq), .val (.int cnt), .val (.int fl), .val (.int z6), .val (.int (2 : Int32)), .val (.int z7), .val (.int z8), .val (.int z9), .val (.int z10), .val (.ref b11), .val (.ref bx147), .val (.int (1 : Int32))] [(.int init), (.int (1 : Int32)), (.ref b11)])) _
      refine XS.iload X161.here hx rfl (hb hby at_327) rfl ?_
      show Steps p.tables e below (T161.setTop (mkF m 329 #[.val (.int init), .val (.int sq), .val (.int cnt), .val (.int fl), .val (.int z6), .val (.int (2 : Int32)), .val (.int z7), .val (.int z8), .val (.int z9), .val (.int z10), .val (.ref b11), .val (.ref bx147), .val (.int (1 : Int32))] [(.int (2 : Int32)), (.int init), (.int (1 : Int32)), (.ref b11)])) _
      refine XS.iload X161.here hx rfl (hb hby at_329) rfl ?_
      show Steps p.tables e below (T161.setTop (mkF m 331 #[.val (.int init), .val (.int sq), .val (.int cnt), .val (.int fl), .val (.int z6), .val (.int (2 : Int32)), .val (.int z7), .val (.int z8), .val (.int z9), .val (.int z10), .val (.ref b11), .val (.ref bx147), .val (.int (1 : Int32))] [(.int z7), (.int (2 : Int32)), (.int init), (.int (1 : Int32)), (.ref b11)])) _
      refine XS.iload X161.here hx rfl (hb hby at_331) rfl ?_
      show Steps p.tables e below (T161.setTop (mkF m 333 #[.val (.int init), .val (.int sq), .val (.int cnt), .val (.int fl), .val (.int z6), .val (.int (2 : Int32)), .val (.int z7), .val (.int z8), .val (.int z9), .val (.int z10), .val (.ref b11), .val (.ref bx147), .val (.int (1 : Int32))] [(.int z8), (.int z7), (.int (2 : Int32)), (.int init), (.int (1 : Int32)), (.ref b11)])) _
      refine XS.iload X161.here hx rfl (hb hby at_333) rfl ?_
      show Steps p.tables e below (T161.setTop (mkF m 335 #[.val (.int init), .val (.int sq), .val (.int cnt), .val (.int fl), .val (.int z6), .val (.int (2 : Int32)), .val (.int z7), .val (.int z8), .val (.int z9), .val (.int z10), .val (.ref b11), .val (.ref bx147), .val (.int (1 : Int32))] [(.int z9), (.int z8), (.int z7), (.int (2 : Int32)), (.int init), (.int (1 : Int32)), (.ref b11)])) _
      refine XS.iload X161.here hx rfl (hb hby at_335) rfl ?_
      show Steps p.tables e below (T161.setTop (mkF m 337 #[.val (.int init), .val (.int sq), .val (.int cnt), .val (.int fl), .val (.int z6), .val (.int (2 : Int32)), .val (.int z7), .val (.int z8), .val (.int z9), .val (.int z10), .val (.ref b11), .val (.ref bx147), .val (.int (1 : Int32))] [(.int z10), (.int z9), (.int z8), (.int z7), (.int (2 : Int32)), (.int init), (.int (1 : Int32)), (.ref b11)])) _
      refine XS.iload X161.here hx rfl (hb hby at_337) rfl ?_
      show Steps p.tables e below (T161.setTop (mkF m 339 #[.val (.int init), .val (.int sq), .val (.int cnt), .val (.int fl), .val (.int z6), .val (.int (2 : Int32)), .val (.int z7), .val (.int z8), .val (.int z9), .val (.int z10), .val (.ref b11), .val (.ref bx147), .val (.int (1 : Int32))] [(.int z6), (.int z10), (.int z9), (.int z8), (.int z7), (.int (2 : Int32)), (.int init), (.int (1 : Int32)), (.ref b11)])) _
      refine st164 _ ?_
      show Steps p.tables e below (T164.setTop (mkF m 342 #[.val (.int init), .val (.int sq), .val (.int cnt), .val (.int fl), .val (.int z6), .val (.int (2 : Int32)), .val (.int z7), .val (.int z8), .val (.int z9), .val (.int z10), .val (.ref b11), .val (.ref bx147), .val (.int (1 : Int32))] [(.int (atF (1 : Int32) init (2 : Int32) z7 z8 z9 z10 z6 xv163))])) _
      refine XS.ifNo X164.here hx rfl (hb hby at_342) rfl ((if0 _ _).trans (feq hd165).1) ?_
      show Steps p.tables e below (T164.setTop (mkF m 345 #[.val (.int init), .val (.int sq), .val (.int cnt), .val (.int fl), .val (.int z6), .val (.int (2 : Int32)), .val (.int z7), .val (.int z8), .val (.int z9), .val (.int z10), .val (.ref b11), .val (.ref bx147), .val (.int (1 : Int32))] [])) _
      refine XS.aload X164.here hx rfl (hb hby at_345) rfl rfl ?_
      show Steps p.tables e below (T164.setTop (mkF m 347 #[.val (.int init), .val (.int sq), .val (.int cnt), .val (.int fl), .val (.int z6), .val (.int (2 : Int32)), .val (.int z7), .val (.int z8), .val (.int z9), .val (.int z10), .val (.ref b11), .val (.ref bx147), .val (.int (1 : Int32))] [(.ref b11)])) _
      refine XS.iconst X164.here hx rfl (hb hby at_347) ?_
      show Steps p.tables e below (T164.setTop (mkF m 348 #[.val (.int init), .val (.int sq), .val (.int cnt), .val (.int fl), .val (.int z6), .val (.int (2 : Int32)), .val (.int z7), .val (.int z8), .val (.int z9), .val (.int z10), .val (.ref b11), .val (.ref bx147), .val (.int (1 : Int32))] [(.int (2 : Int32)), (.ref b11)])) _
      refine XS.iloadN X164.here hx rfl (hb hby at_348) rfl ?_
      show Steps p.tables e below (T164.setTop (mkF m 349 #[.val (.int init), .val (.int sq), .val (.int cnt), .val (.int fl), .val (.int z6), .val (.int (2 : Int32)), .val (.int z7), .val (.int z8), .val (.int z9), .val (.int z10), .val (.ref b11), .val (.ref bx147), .val (.int (1 : Int32))] [(.int init), (.int (2 : Int32)), (.ref b11)])) _
      refine XS.iload X164.here hx rfl (hb hby at_349) rfl ?_
      show Steps p.tables e below (T164.setTop (mkF m 351 #[.val (.int init), .val (.int sq), .val (.int cnt), .val (.int fl), .val (.int z6), .val (.int (2 : Int32)), .val (.int z7), .val (.int z8), .val (.int z9), .val (.int z10), .val (.ref b11), .val (.ref bx147), .val (.int (1 : Int32))] [(.int (2 : Int32)), (.int init), (.int (2 : Int32)), (.ref b11)])) _
      refine XS.iload X164.here hx rfl (hb hby at_351) rfl ?_
      show Steps p.tables e below (T164.setTop (mkF m 353 #[.val (.int init), .val (.int sq), .val (.int cnt), .val (.int fl), .val (.int z6), .val (.int (2 : Int32)), .val (.int z7), .val (.int z8), .val (.int z9), .val (.int z10), .val (.ref b11), .val (.ref bx147), .val (.int (1 : Int32))] [(.int z7), (.int (2 : Int32)), (.int init), (.int (2 : Int32)), (.ref b11)])) _
      refine XS.iload X164.here hx rfl (hb hby at_353) rfl ?_
      show Steps p.tables e below (T164.setTop (mkF m 355 #[.val (.int init), .val (.int sq), .val (.int cnt), .val (.int fl), .val (.int z6), .val (.int (2 : Int32)), .val (.int z7), .val (.int z8), .val (.int z9), .val (.int z10), .val (.ref b11), .val (.ref bx147), .val (.int (1 : Int32))] [(.int z8), (.int z7), (.int (2 : Int32)), (.int init), (.int (2 : Int32)), (.ref b11)])) _
      refine XS.iload X164.here hx rfl (hb hby at_355) rfl ?_
      show Steps p.tables e below (T164.setTop (mkF m 357 #[.val (.int init), .val (.int sq), .val (.int cnt), .val (.int fl), .val (.int z6), .val (.int (2 : Int32)), .val (.int z7), .val (.int z8), .val (.int z9), .val (.int z10), .val (.ref b11), .val (.ref bx147), .val (.int (1 : Int32))] [(.int z9), (.int z8), (.int z7), (.int (2 : Int32)), (.int init), (.int (2 : Int32)), (.ref b11)])) _
      refine XS.iload X164.here hx rfl (hb hby at_357) rfl ?_
      show Steps p.tables e below (T164.setTop (mkF m 359 #[.val (.int init), .val (.int sq), .val (.int cnt), .val (.int fl), .val (.int z6), .val (.int (2 : Int32)), .val (.int z7), .val (.int z8), .val (.int z9), .val (.int z10), .val (.ref b11), .val (.ref bx147), .val (.int (1 : Int32))] [(.int z10), (.int z9), (.int z8), (.int z7), (.int (2 : Int32)), (.int init), (.int (2 : Int32)), (.ref b11)])) _
      refine XS.iload X164.here hx rfl (hb hby at_359) rfl ?_
      show Steps p.tables e below (T164.setTop (mkF m 361 #[.val (.int init), .val (.int sq), .val (.int cnt), .val (.int fl), .val (.int z6), .val (.int (2 : Int32)), .val (.int z7), .val (.int z8), .val (.int z9), .val (.int z10), .val (.ref b11), .val (.ref bx147), .val (.int (1 : Int32))] [(.int z6), (.int z10), (.int z9), (.int z8), (.int z7), (.int (2 : Int32)), (.int init), (.int (2 : Int32)), (.ref b11)])) _
      refine st167 _ ?_
      show Steps p.tables e below (T167.setTop (mkF m 364 #[.val (.int init), .val (.int sq), .val (.int cnt), .val (.int fl), .val (.int z6), .val (.int (2 : Int32)), .val (.int z7), .val (.int z8), .val (.int z9), .val (.int z10), .val (.ref b11), .val (.ref bx147), .val (.int (1 : Int32))] [(.int (atF (2 : Int32) init (2 : Int32) z7 z8 z9 z10 z6 xv166))])) _
      refine XS.ifNo X167.here hx rfl (hb hby at_364) rfl ((if0 _ _).trans (feq hd168).1) ?_
      show Steps p.tables e below (T167.setTop (mkF m 367 #[.val (.int init), .val (.int sq), .val (.int cnt), .val (.int fl), .val (.int z6), .val (.int (2 : Int32)), .val (.int z7), .val (.int z8), .val (.int z9), .val (.int z10), .val (.ref b11), .val (.ref bx147), .val (.int (1 : Int32))] [])) _
      refine XS.aload X167.here hx rfl (hb hby at_367) rfl rfl ?_
      show Steps p.tables e below (T167.setTop (mkF m 369 #[.val (.int init), .val (.int sq), .val (.int cnt), .val (.int fl), .val (.int z6), .val (.int (2 : Int32)), .val (.int z7), .val (.int z8), .val (.int z9), .val (.int z10), .val (.ref b11), .val (.ref bx147), .val (.int (1 : Int32))] [(.ref b11)])) _
      refine XS.iconst X167.here hx rfl (hb hby at_369) ?_
      show Steps p.tables e below (T167.setTop (mkF m 370 #[.val (.int init), .val (.int sq), .val (.int cnt), .val (.int fl), .val (.int z6), .val (.int (2 : Int32)), .val (.int z7), .val (.int z8), .val (.int z9), .val (.int z10), .val (.ref b11), .val (.ref bx147), .val (.int (1 : Int32))] [(.int (3 : Int32)), (.ref b11)])) _
      refine XS.iloadN X167.here hx rfl (hb hby at_370) rfl ?_
      show Steps p.tables e below (T167.setTop (mkF m 371 #[.val (.int init), .val (.int sq), .val (.int cnt), .val (.int fl), .val (.int z6), .val (.int (2 : Int32)), .val (.int z7), .val (.int z8), .val (.int z9), .val (.int z10), .val (.ref b11), .val (.ref bx147), .val (.int (1 : Int32))] [(.int init), (.int (3 : Int32)), (.ref b11)])) _
      refine XS.iload X167.here hx rfl (hb hby at_371) rfl ?_
      show Steps p.tables e below (T167.setTop (mkF m 373 #[.val (.int init), .val (.int sq), .val (.int cnt), .val (.int fl), .val (.int z6), .val (.int (2 : Int32)), .val (.int z7), .val (.int z8), .val (.int z9), .val (.int z10), .val (.ref b11), .val (.ref bx147), .val (.int (1 : Int32))] [(.int (2 : Int32)), (.int init), (.int (3 : Int32)), (.ref b11)])) _
      refine XS.iload X167.here hx rfl (hb hby at_373) rfl ?_
      show Steps p.tables e below (T167.setTop (mkF m 375 #[.val (.int init), .val (.int sq), .val (.int cnt), .val (.int fl), .val (.int z6), .val (.int (2 : Int32)), .val (.int z7), .val (.int z8), .val (.int z9), .val (.int z10), .val (.ref b11), .val (.ref bx147), .val (.int (1 : Int32))] [(.int z7), (.int (2 : Int32)), (.int init), (.int (3 : Int32)), (.ref b11)])) _
      refine XS.iload X167.here hx rfl (hb hby at_375) rfl ?_
      show Steps p.tables e below (T167.setTop (mkF m 377 #[.val (.int init), .val (.int sq), .val (.int cnt), .val (.int fl), .val (.int z6), .val (.int (2 : Int32)), .val (.int z7), .val (.int z8), .val (.int z9), .val (.int z10), .val (.ref b11), .val (.ref bx147), .val (.int (1 : Int32))] [(.int z8), (.int z7), (.int (2 : Int32)), (.int init), (.int (3 : Int32)), (.ref b11)])) _
      refine XS.iload X167.here hx rfl (hb hby at_377) rfl ?_
      show Steps p.tables e below (T167.setTop (mkF m 379 #[.val (.int init), .val (.int sq), .val (.int cnt), .val (.int fl), .val (.int z6), .val (.int (2 : Int32)), .val (.int z7), .val (.int z8), .val (.int z9), .val (.int z10), .val (.ref b11), .val (.ref bx147), .val (.int (1 : Int32))] [(.int z9), (.int z8), (.int z7), (.int (2 : Int32)), (.int init), (.int (3 : Int32)), (.ref b11)])) _
      refine XS.iload X167.here hx rfl (hb hby at_379) rfl ?_
      show Steps p.tables e below (T167.setTop (mkF m 381 #[.val (.int init), .val (.int sq), .val (.int cnt), .val (.int fl), .val (.int z6), .val (.int (2 : Int32)), .val (.int z7), .val (.int z8), .val (.int z9), .val (.int z10), .val (.ref b11), .val (.ref bx147), .val (.int (1 : Int32))] [(.int z10), (.int z9), (.int z8), (.int z7), (.int (2 : Int32)), (.int init), (.int (3 : Int32)), (.ref b11)])) _
      refine XS.iload X167.here hx rfl (hb hby at_381) rfl ?_
      show Steps p.tables e below (T167.setTop (mkF m 383 #[.val (.int init), .val (.int sq), .val (.int cnt), .val (.int fl), .val (.int z6), .val (.int (2 : Int32)), .val (.int z7), .val (.int z8), .val (.int z9), .val (.int z10), .val (.ref b11), .val (.ref bx147), .val (.int (1 : Int32))] [(.int z6), (.int z10), (.int z9), (.int z8), (.int z7), (.int (2 : Int32)), (.int init), (.int (3 : Int32)), (.ref b11)])) _
      refine st170 _ ?_
      show Steps p.tables e below (T170.setTop (mkF m 386 #[.val (.int init), .val (.int sq), .val (.int cnt), .val (.int fl), .val (.int z6), .val (.int (2 : Int32)), .val (.int z7), .val (.int z8), .val (.int z9), .val (.int z10), .val (.ref b11), .val (.ref bx147), .val (.int (1 : Int32))] [(.int (atF (3 : Int32) init (2 : Int32) z7 z8 z9 z10 z6 xv169))])) _
      refine XS.ifNo X170.here hx rfl (hb hby at_386) rfl ((if0 _ _).trans (feq hd171).1) ?_
      show Steps p.tables e below (T170.setTop (mkF m 389 #[.val (.int init), .val (.int sq), .val (.int cnt), .val (.int fl), .val (.int z6), .val (.int (2 : Int32)), .val (.int z7), .val (.int z8), .val (.int z9), .val (.int z10), .val (.ref b11), .val (.ref bx147), .val (.int (1 : Int32))] [])) _
      refine XS.aload X170.here hx rfl (hb hby at_389) rfl rfl ?_
      show Steps p.tables e below (T170.setTop (mkF m 391 #[.val (.int init), .val (.int sq), .val (.int cnt), .val (.int fl), .val (.int z6), .val (.int (2 : Int32)), .val (.int z7), .val (.int z8), .val (.int z9), .val (.int z10), .val (.ref b11), .val (.ref bx147), .val (.int (1 : Int32))] [(.ref b11)])) _
      refine XS.iconst X170.here hx rfl (hb hby at_391) ?_
      show Steps p.tables e below (T170.setTop (mkF m 392 #[.val (.int init), .val (.int sq), .val (.int cnt), .val (.int fl), .val (.int z6), .val (.int (2 : Int32)), .val (.int z7), .val (.int z8), .val (.int z9), .val (.int z10), .val (.ref b11), .val (.ref bx147), .val (.int (1 : Int32))] [(.int (4 : Int32)), (.ref b11)])) _
      refine XS.iloadN X170.here hx rfl (hb hby at_392) rfl ?_
      show Steps p.tables e below (T170.setTop (mkF m 393 #[.val (.int init), .val (.int sq), .val (.int cnt), .val (.int fl), .val (.int z6), .val (.int (2 : Int32)), .val (.int z7), .val (.int z8), .val (.int z9), .val (.int z10), .val (.ref b11), .val (.ref bx147), .val (.int (1 : Int32))] [(.int init), (.int (4 : Int32)), (.ref b11)])) _
      refine XS.iload X170.here hx rfl (hb hby at_393) rfl ?_
      show Steps p.tables e below (T170.setTop (mkF m 395 #[.val (.int init), .val (.int sq), .val (.int cnt), .val (.int fl), .val (.int z6), .val (.int (2 : Int32)), .val (.int z7), .val (.int z8), .val (.int z9), .val (.int z10), .val (.ref b11), .val (.ref bx147), .val (.int (1 : Int32))] [(.int (2 : Int32)), (.int init), (.int (4 : Int32)), (.ref b11)])) _
      refine XS.iload X170.here hx rfl (hb hby at_395) rfl ?_
      show Steps p.tables e below (T170.setTop (mkF m 397 #[.val (.int init), .val (.int sq), .val (.int cnt), .val (.int fl), .val (.int z6), .val (.int (2 : Int32)), .val (.int z7), .val (.int z8), .val (.int z9), .val (.int z10), .val (.ref b11), .val (.ref bx147), .val (.int (1 : Int32))] [(.int z7), (.int (2 : Int32)), (.int init), (.int (4 : Int32)), (.ref b11)])) _
      refine XS.iload X170.here hx rfl (hb hby at_397) rfl ?_
      show Steps p.tables e below (T170.setTop (mkF m 399 #[.val (.int init), .val (.int sq), .val (.int cnt), .val (.int fl), .val (.int z6), .val (.int (2 : Int32)), .val (.int z7), .val (.int z8), .val (.int z9), .val (.int z10), .val (.ref b11), .val (.ref bx147), .val (.int (1 : Int32))] [(.int z8), (.int z7), (.int (2 : Int32)), (.int init), (.int (4 : Int32)), (.ref b11)])) _
      refine XS.iload X170.here hx rfl (hb hby at_399) rfl ?_
      show Steps p.tables e below (T170.setTop (mkF m 401 #[.val (.int init), .val (.int sq), .val (.int cnt), .val (.int fl), .val (.int z6), .val (.int (2 : Int32)), .val (.int z7), .val (.int z8), .val (.int z9), .val (.int z10), .val (.ref b11), .val (.ref bx147), .val (.int (1 : Int32))] [(.int z9), (.int z8), (.int z7), (.int (2 : Int32)), (.int init), (.int (4 : Int32)), (.ref b11)])) _
      refine XS.iload X170.here hx rfl (hb hby at_401) rfl ?_
      show Steps p.tables e below (T170.setTop (mkF m 403 #[.val (.int init), .val (.int sq), .val (.int cnt), .val (.int fl), .val (.int z6), .val (.int (2 : Int32)), .val (.int z7), .val (.int z8), .val (.int z9), .val (.int z10), .val (.ref b11), .val (.ref bx147), .val (.int (1 : Int32))] [(.int z10), (.int z9), (.int z8), (.int z7), (.int (2 : Int32)), (.int init), (.int (4 : Int32)), (.ref b11)])) _
      refine XS.iload X170.here hx rfl (hb hby at_403) rfl ?_
      show Steps p.tables e below (T170.setTop (mkF m 405 #[.val (.int init), .val (.int sq), .val (.int cnt), .val (.int fl), .val (.int z6), .val (.int (2 : Int32)), .val (.int z7), .val (.int z8), .val (.int z9), .val (.int z10), .val (.ref b11), .val (.ref bx147), .val (.int (1 : Int32))] [(.int z6), (.int z10), (.int z9), (.int z8), (.int z7), (.int (2 : Int32)), (.int init), (.int (4 : Int32)), (.ref b11)])) _
      refine st173 _ ?_
      show Steps p.tables e below (T173.setTop (mkF m 408 #[.val (.int init), .val (.int sq), .val (.int cnt), .val (.int fl), .val (.int z6), .val (.int (2 : Int32)), .val (.int z7), .val (.int z8), .val (.int z9), .val (.int z10), .val (.ref b11), .val (.ref bx147), .val (.int (1 : Int32))] [(.int (atF (4 : Int32) init (2 : Int32) z7 z8 z9 z10 z6 xv172))])) _
      refine XS.ifNo X173.here hx rfl (hb hby at_408) rfl ((if0 _ _).trans (feq hd174).1) ?_
      show Steps p.tables e below (T173.setTop (mkF m 411 #[.val (.int init), .val (.int sq), .val (.int cnt), .val (.int fl), .val (.int z6), .val (.int (2 : Int32)), .val (.int z7), .val (.int z8), .val (.int z9), .val (.int z10), .val (.ref b11), .val (.ref bx147), .val (.int (1 : Int32))] [])) _
      refine XS.aload X173.here hx rfl (hb hby at_411) rfl rfl ?_
      show Steps p.tables e below (T173.setTop (mkF m 413 #[.val (.int init), .val (.int sq), .val (.int cnt), .val (.int fl), .val (.int z6), .val (.int (2 : Int32)), .val (.int z7), .val (.int z8), .val (.int z9), .val (.int z10), .val (.ref b11), .val (.ref bx147), .val (.int (1 : Int32))] [(.ref b11)])) _
      refine XS.iconst X173.here hx rfl (hb hby at_413) ?_
      show Steps p.tables e below (T173.setTop (mkF m 414 #[.val (.int init), .val (.int sq), .val (.int cnt), .val (.int fl), .val (.int z6), .val (.int (2 : Int32)), .val (.int z7), .val (.int z8), .val (.int z9), .val (.int z10), .val (.ref b11), .val (.ref bx147), .val (.int (1 : Int32))] [(.int (5 : Int32)), (.ref b11)])) _
      refine XS.iloadN X173.here hx rfl (hb hby at_414) rfl ?_
      show Steps p.tables e below (T173.setTop (mkF m 415 #[.val (.int init), .val (.int sq), .val (.int cnt), .val (.int fl), .val (.int z6), .val (.int (2 : Int32)), .val (.int z7), .val (.int z8), .val (.int z9), .val (.int z10), .val (.ref b11), .val (.ref bx147), .val (.int (1 : Int32))] [(.int init), (.int (5 : Int32)), (.ref b11)])) _
      refine XS.iload X173.here hx rfl (hb hby at_415) rfl ?_
      show Steps p.tables e below (T173.setTop (mkF m 417 #[.val (.int init), .val (.int sq), .val (.int cnt), .val (.int fl), .val (.int z6), .val (.int (2 : Int32)), .val (.int z7), .val (.int z8), .val (.int z9), .val (.int z10), .val (.ref b11), .val (.ref bx147), .val (.int (1 : Int32))] [(.int (2 : Int32)), (.int init), (.int (5 : Int32)), (.ref b11)])) _
      refine XS.iload X173.here hx rfl (hb hby at_417) rfl ?_
      show Steps p.tables e below (T173.setTop (mkF m 419 #[.val (.int init), .val (.int sq), .val (.int cnt), .val (.int fl), .val (.int z6), .val (.int (2 : Int32)), .val (.int z7), .val (.int z8), .val (.int z9), .val (.int z10), .val (.ref b11), .val (.ref bx147), .val (.int (1 : Int32))] [(.int z7), (.int (2 : Int32)), (.int init), (.int (5 : Int32)), (.ref b11)])) _
      refine XS.iload X173.here hx rfl (hb hby at_419) rfl ?_
      show Steps p.tables e below (T173.setTop (mkF m 421 #[.val (.int init), .val (.int sq), .val (.int cnt), .val (.int fl), .val (.int z6), .val (.int (2 : Int32)), .val (.int z7), .val (.int z8), .val (.int z9), .val (.int z10), .val (.ref b11), .val (.ref bx147), .val (.int (1 : Int32))] [(.int z8), (.int z7), (.int (2 : Int32)), (.int init), (.int (5 : Int32)), (.ref b11)])) _
      refine XS.iload X173.here hx rfl (hb hby at_421) rfl ?_
      show Steps p.tables e below (T173.setTop (mkF m 423 #[.val (.int init), .val (.int sq), .val (.int cnt), .val (.int fl), .val (.int z6), .val (.int (2 : Int32)), .val (.int z7), .val (.int z8), .val (.int z9), .val (.int z10), .val (.ref b11), .val (.ref bx147), .val (.int (1 : Int32))] [(.int z9), (.int z8), (.int z7), (.int (2 : Int32)), (.int init), (.int (5 : Int32)), (.ref b11)])) _
      refine XS.iload X173.here hx rfl (hb hby at_423) rfl ?_
      show Steps p.tables e below (T173.setTop (mkF m 425 #[.val (.int init), .val (.int sq), .val (.int cnt), .val (.int fl), .val (.int z6), .val (.int (2 : Int32)), .val (.int z7), .val (.int z8), .val (.int z9), .val (.int z10), .val (.ref b11), .val (.ref bx147), .val (.int (1 : Int32))] [(.int z10), (.int z9), (.int z8), (.int z7), (.int (2 : Int32)), (.int init), (.int (5 : Int32)), (.ref b11)])) _
      refine XS.iload X173.here hx rfl (hb hby at_425) rfl ?_
      show Steps p.tables e below (T173.setTop (mkF m 427 #[.val (.int init), .val (.int sq), .val (.int cnt), .val (.int fl), .val (.int z6), .val (.int (2 : Int32)), .val (.int z7), .val (.int z8), .val (.int z9), .val (.int z10), .val (.ref b11), .val (.ref bx147), .val (.int (1 : Int32))] [(.int z6), (.int z10), (.int z9), (.int z8), (.int z7), (.int (2 : Int32)), (.int init), (.int (5 : Int32)), (.ref b11)])) _
      refine st176 _ ?_
      show Steps p.tables e below (T176.setTop (mkF m 430 #[.val (.int init), .val (.int sq), .val (.int cnt), .val (.int fl), .val (.int z6), .val (.int (2 : Int32)), .val (.int z7), .val (.int z8), .val (.int z9), .val (.int z10), .val (.ref b11), .val (.ref bx147), .val (.int (1 : Int32))] [(.int (atF (5 : Int32) init (2 : Int32) z7 z8 z9 z10 z6 xv175))])) _
      refine XS.ifNo X176.here hx rfl (hb hby at_430) rfl ((if0 _ _).trans (feq hd177).1) ?_
      show Steps p.tables e below (T176.setTop (mkF m 433 #[.val (.int init), .val (.int sq), .val (.int cnt), .val (.int fl), .val (.int z6), .val (.int (2 : Int32)), .val (.int z7), .val (.int z8), .val (.int z9), .val (.int z10), .val (.ref b11), .val (.ref bx147), .val (.int (1 : Int32))] [])) _
      refine XS.aload X176.here hx rfl (hb hby at_433) rfl rfl ?_
      show Steps p.tables e below (T176.setTop (mkF m 435 #[.val (.int init), .val (.int sq), .val (.int cnt), .val (.int fl), .val (.int z6), .val (.int (2 : Int32)), .val (.int z7), .val (.int z8), .val (.int z9), .val (.int z10), .val (.ref b11), .val (.ref bx147), .val (.int (1 : Int32))] [(.ref b11)])) _
      refine XS.bipush X176.here hx rfl (hb hby at_435) ?_
      show Steps p.tables e below (T176.setTop (mkF m 437 #[.val (.int init), .val (.int sq), .val (.int cnt), .val (.int fl), .val (.int z6), .val (.int (2 : Int32)), .val (.int z7), .val (.int z8), .val (.int z9), .val (.int z10), .val (.ref b11), .val (.ref bx147), .val (.int (1 : Int32))] [(.int (6 : Int32)), (.ref b11)])) _
      refine XS.iloadN X176.here hx rfl (hb hby at_437) rfl ?_
      show Steps p.tables e below (T176.setTop (mkF m 438 #[.val (.int init), .val (.int sq), .val (.int cnt), .val (.int fl), .val (.int z6), .val (.int (2 : Int32)), .val (.int z7), .val (.int z8), .val (.int z9), .val (.int z10), .val (.ref b11), .val (.ref bx147), .val (.int (1 : Int32))] [(.int init), (.int (6 : Int32)), (.ref b11)])) _
      refine XS.iload X176.here hx rfl (hb hby at_438) rfl ?_
      show Steps p.tables e below (T176.setTop (mkF m 440 #[.val (.int init), .val (.int sq), .val (.int cnt), .val (.int fl), .val (.int z6), .val (.int (2 : Int32)), .val (.int z7), .val (.int z8), .val (.int z9), .val (.int z10), .val (.ref b11), .val (.ref bx147), .val (.int (1 : Int32))] [(.int (2 : Int32)), (.int init), (.int (6 : Int32)), (.ref b11)])) _
      refine XS.iload X176.here hx rfl (hb hby at_440) rfl ?_
      show Steps p.tables e below (T176.setTop (mkF m 442 #[.val (.int init), .val (.int sq), .val (.int cnt), .val (.int fl), .val (.int z6), .val (.int (2 : Int32)), .val (.int z7), .val (.int z8), .val (.int z9), .val (.int z10), .val (.ref b11), .val (.ref bx147), .val (.int (1 : Int32))] [(.int z7), (.int (2 : Int32)), (.int init), (.int (6 : Int32)), (.ref b11)])) _
      refine XS.iload X176.here hx rfl (hb hby at_442) rfl ?_
      show Steps p.tables e below (T176.setTop (mkF m 444 #[.val (.int init), .val (.int sq), .val (.int cnt), .val (.int fl), .val (.int z6), .val (.int (2 : Int32)), .val (.int z7), .val (.int z8), .val (.int z9), .val (.int z10), .val (.ref b11), .val (.ref bx147), .val (.int (1 : Int32))] [(.int z8), (.int z7), (.int (2 : Int32)), (.int init), (.int (6 : Int32)), (.ref b11)])) _
      refine XS.iload X176.here hx rfl (hb hby at_444) rfl ?_
      show Steps p.tables e below (T176.setTop (mkF m 446 #[.val (.int init), .val (.int sq), .val (.int cnt), .val (.int fl), .val (.int z6), .val (.int (2 : Int32)), .val (.int z7), .val (.int z8), .val (.int z9), .val (.int z10), .val (.ref b11), .val (.ref bx147), .val (.int (1 : Int32))] [(.int z9), (.int z8), (.int z7), (.int (2 : Int32)), (.int init), (.int (6 : Int32)), (.ref b11)])) _
      refine XS.iload X176.here hx rfl (hb hby at_446) rfl ?_
      show Steps p.tables e below (T176.setTop (mkF m 448 #[.val (.int init), .val (.int sq), .val (.int cnt), .val (.int fl), .val (.int z6), .val (.int (2 : Int32)), .val (.int z7), .val (.int z8), .val (.int z9), .val (.int z10), .val (.ref b11), .val (.ref bx147), .val (.int (1 : Int32))] [(.int z10), (.int z9), (.int z8), (.int z7), (.int (2 : Int32)), (.int init), (.int (6 : Int32)), (.ref b11)])) _
      refine XS.iload X176.here hx rfl (hb hby at_448) rfl ?_
      show Steps p.tables e below (T176.setTop (mkF m 450 #[.val (.int init), .val (.int sq), .val (.int cnt), .val (.int fl), .val (.int z6), .val (.int (2 : Int32)), .val (.int z7), .val (.int z8), .val (.int z9), .val (.int z10), .val (.ref b11), .val (.ref bx147), .val (.int (1 : Int32))] [(.int z6), (.int z10), (.int z9), (.int z8), (.int z7), (.int (2 : Int32)), (.int init), (.int (6 : Int32)), (.ref b11)])) _
      refine st179 _ ?_
      show Steps p.tables e below (T179.setTop (mkF m 453 #[.val (.int init), .val (.int sq), .val (.int cnt), .val (.int fl), .val (.int z6), .val (.int (2 : Int32)), .val (.int z7), .val (.int z8), .val (.int z9), .val (.int z10), .val (.ref b11), .val (.ref bx147), .val (.int (1 : Int32))] [(.int (atF (6 : Int32) init (2 : Int32) z7 z8 z9 z10 z6 xv178))])) _
      refine XS.ifNo X179.here hx rfl (hb hby at_453) rfl ((if0 _ _).trans (feq hd180).1) ?_
      show Steps p.tables e below (T179.setTop (mkF m 456 #[.val (.int init), .val (.int sq), .val (.int cnt), .val (.int fl), .val (.int z6), .val (.int (2 : Int32)), .val (.int z7), .val (.int z8), .val (.int z9), .val (.int z10), .val (.ref b11), .val (.ref bx147), .val (.int (1 : Int32))] [])) _
      refine XS.aload X179.here hx rfl (hb hby at_456) rfl rfl ?_
      show Steps p.tables e below (T179.setTop (mkF m 458 #[.val (.int init), .val (.int sq), .val (.int cnt), .val (.int fl), .val (.int z6), .val (.int (2 : Int32)), .val (.int z7), .val (.int z8), .val (.int z9), .val (.int z10), .val (.ref b11), .val (.ref bx147), .val (.int (1 : Int32))] [(.ref b11)])) _
      refine XS.bipush X179.here hx rfl (hb hby at_458) ?_
      show Steps p.tables e below (T179.setTop (mkF m 460 #[.val (.int init), .val (.int sq), .val (.int cnt), .val (.int fl), .val (.int z6), .val (.int (2 : Int32)), .val (.int z7), .val (.int z8), .val (.int z9), .val (.int z10), .val (.ref b11), .val (.ref bx147), .val (.int (1 : Int32))] [(.int (7 : Int32)), (.ref b11)])) _
      refine XS.iloadN X179.here hx rfl (hb hby at_460) rfl ?_
      show Steps p.tables e below (T179.setTop (mkF m 461 #[.val (.int init), .val (.int sq), .val (.int cnt), .val (.int fl), .val (.int z6), .val (.int (2 : Int32)), .val (.int z7), .val (.int z8), .val (.int z9), .val (.int z10), .val (.ref b11), .val (.ref bx147), .val (.int (1 : Int32))] [(.int init), (.int (7 : Int32)), (.ref b11)])) _
      refine XS.iload X179.here hx rfl (hb hby at_461) rfl ?_
      show Steps p.tables e below (T179.setTop (mkF m 463 #[.val (.int init), .val (.int sq), .val (.int cnt), .val (.int fl), .val (.int z6), .val (.int (2 : Int32)), .val (.int z7), .val (.int z8), .val (.int z9), .val (.int z10), .val (.ref b11), .val (.ref bx147), .val (.int (1 : Int32))] [(.int (2 : Int32)), (.int init), (.int (7 : Int32)), (.ref b11)])) _
      refine XS.iload X179.here hx rfl (hb hby at_463) rfl ?_
      show Steps p.tables e below (T179.setTop (mkF m 465 #[.val (.int init), .val (.int sq), .val (.int cnt), .val (.int fl), .val (.int z6), .val (.int (2 : Int32)), .val (.int z7), .val (.int z8), .val (.int z9), .val (.int z10), .val (.ref b11), .val (.ref bx147), .val (.int (1 : Int32))] [(.int z7), (.int (2 : Int32)), (.int init), (.int (7 : Int32)), (.ref b11)])) _
      refine XS.iload X179.here hx rfl (hb hby at_465) rfl ?_
      show Steps p.tables e below (T179.setTop (mkF m 467 #[.val (.int init), .val (.int sq), .val (.int cnt), .val (.int fl), .val (.int z6), .val (.int (2 : Int32)), .val (.int z7), .val (.int z8), .val (.int z9), .val (.int z10), .val (.ref b11), .val (.ref bx147), .val (.int (1 : Int32))] [(.int z8), (.int z7), (.int (2 : Int32)), (.int init), (.int (7 : Int32)), (.ref b11)])) _
      refine XS.iload X179.here hx rfl (hb hby at_467) rfl ?_
      show Steps p.tables e below (T179.setTop (mkF m 469 #[.val (.int init), .val (.int sq), .val (.int cnt), .val (.int fl), .val (.int z6), .val (.int (2 : Int32)), .val (.int z7), .val (.int z8), .val (.int z9), .val (.int z10), .val (.ref b11), .val (.ref bx147), .val (.int (1 : Int32))] [(.int z9), (.int z8), (.int z7), (.int (2 : Int32)), (.int init), (.int (7 : Int32)), (.ref b11)])) _
      refine XS.iload X179.here hx rfl (hb hby at_469) rfl ?_
      show Steps p.tables e below (T179.setTop (mkF m 471 #[.val (.int init), .val (.int sq), .val (.int cnt), .val (.int fl), .val (.int z6), .val (.int (2 : Int32)), .val (.int z7), .val (.int z8), .val (.int z9), .val (.int z10), .val (.ref b11), .val (.ref bx147), .val (.int (1 : Int32))] [(.int z10), (.int z9), (.int z8), (.int z7), (.int (2 : Int32)), (.int init), (.int (7 : Int32)), (.ref b11)])) _
      refine XS.iload X179.here hx rfl (hb hby at_471) rfl ?_
      show Steps p.tables e below (T179.setTop (mkF m 473 #[.val (.int init), .val (.int sq), .val (.int cnt), .val (.int fl), .val (.int z6), .val (.int (2 : Int32)), .val (.int z7), .val (.int z8), .val (.int z9), .val (.int z10), .val (.ref b11), .val (.ref bx147), .val (.int (1 : Int32))] [(.int z6), (.int z10), (.int z9), (.int z8), (.int z7), (.int (2 : Int32)), (.int init), (.int (7 : Int32)), (.ref b11)])) _
      refine st182 _ ?_
      show Steps p.tables e below (T182.setTop (mkF m 476 #[.val (.int init), .val (.int sq), .val (.int cnt), .val (.int fl), .val (.int z6), .val (.int (2 : Int32)), .val (.int z7), .val (.int z8), .val (.int z9), .val (.int z10), .val (.ref b11), .val (.ref bx147), .val (.int (1 : Int32))] [(.int (atF (7 : Int32) init (2 : Int32) z7 z8 z9 z10 z6 xv181))])) _
      refine XS.ifNo X182.here hx rfl (hb hby at_476) rfl ((if0 _ _).trans (feq hd183).1) ?_
      show Steps p.tables e below (T182.setTop (mkF m 479 #[.val (.int init), .val (.int sq), .val (.int cnt), .val (.int fl), .val (.int z6), .val (.int (2 : Int32)), .val (.int z7), .val (.int z8), .val (.int z9), .val (.int z10), .val (.ref b11), .val (.ref bx147), .val (.int (1 : Int32))] [])) _
      refine XS.iconst X182.here hx rfl (hb hby at_479) ?_
      show Steps p.tables e below (T182.setTop (mkF m 480 #[.val (.int init), .val (.int sq), .val (.int cnt), .val (.int fl), .val (.int z6), .val (.int (2 : Int32)), .val (.int z7), .val (.int z8), .val (.int z9), .val (.int z10), .val (.ref b11), .val (.ref bx147), .val (.int (1 : Int32))] [(.int (1 : Int32))])) _
      refine XS.goto X182.here hx rfl (pc0 := 480) (pc' := 484) rfl (hb hby at_480) (by decide) (by decide) ?_
      show Steps p.tables e below (T182.setTop (mkF m 484 #[.val (.int init), .val (.int sq), .val (.int cnt), .val (.int fl), .val (.int z6), .val (.int (2 : Int32)), .val (.int z7), .val (.int z8), .val (.int z9), .val (.int z10), .val (.ref b11), .val (.ref bx147), .val (.int (1 : Int32))] [(.int (1 : Int32))])) _
      exact kt
    obtain ⟨fs, hr, hrun, hended, hW, hsame⟩ := X182.leave (v := some (.int (1 : Int32))) (fun h => by rw [Bd.returns] at h; cases h)
    refine ⟨_, _, k184 _ ?_, hrun, hended, _, _, rfl, ?_, ⟨_, rfl⟩, hW, hsame.mono (by decide) (by decide)⟩
    · exact retN X182 hx (t := .boolean) Bd.returns (by simp) (hb hby at_484) hr
    · show QL n0 _ T182.heap _
      exact ⟨rfl, N182⟩
  · obtain ⟨_, _, ⟨T185, L185, k185, n185⟩, -, X185, ⟨Lc185, hQ185, l185, y185, z185⟩, st185⟩ := Jvm.LawKit.callS X75 hx (y := (⟨"pushwise/BoxesPlacePinLaw", "boxesOf", "(IIIII)[I"⟩ : MethodName)) hown (mvT hZ (hw _ (List.mem_of_getElem? (i := 2) rfl))) (mvT hZ (hw _ (List.mem_of_getElem? (i := 3) rfl))) (mvT hZ (hw _ (List.mem_of_getElem? (i := 4) rfl))) (mvT hZ (hw _ (List.mem_of_getElem? (i := 5) rfl))) (by decide) (backOf (W := 0) (rmBox3 l Z a0 hw [] z7 z8 z9 z10  h75 n0 Z75) hZ (hw _ (List.mem_of_getElem? (i := 5) rfl)) (hw _ (List.mem_of_getElem? (i := 4) rfl)) (by decide) (by decide)) (g := (mkF m 207 #[.val (.int init), .val (.int sq), .val (.int cnt), .val (.int fl), .val (.int z6), .val (.int (3 : Int32)), .val (.int z7), .val (.int z8), .val (.int z9), .val (.int z10), .val (.ref b11), .unset, .unset] [(.int z10), (.int z9), (.int z8), (.int z7), (.int (3 : Int32))])) rfl (by rw [hml]; rfl) (argsL := [(.int (3 : Int32)), (.int z7), (.int z8), (.int z9), (.int z10)]) (rest := []) (lenOf pd_0 rfl) rfl (by show 2 * 0 + _ ≤ _; exact Nat.le_of_eq rfl) (hb hby at_207) (fun _ _ => ⟨rfl, e75, (by decide : 1 + 1 ≤ _), (by decide : 8 + 3 ≤ _)⟩)
    dsimp only [Pt.U, Pt.locs, Pt.cells, Pt.slots] at X185 l185 y185 z185 st185 hQ185
    subst l185 y185 z185
    obtain ⟨N185q, K185, bx185, cc185, rfl, le185, Va185⟩ := hQ185
    have N185 := Fr.app N75 N185q
    have ne_b11_bx185 : b11 ≠ bx185 := Nat.ne_of_lt (Nat.lt_of_lt_of_le V75_b11.lt le185)
    have g_bx185 : n0 ≤ bx185 := Nat.le_trans Z75 le185
    have sz_bx185 : h0.size ≤ bx185 := Nat.le_trans KP75.1 le185
    have V185_b11 := V75_b11.keep K185 nin0
    have Z185 := Nat.le_trans Z75 K185.1
    have KP185 := KP75.trans K185 all0
    obtain ⟨_, _, ⟨T186, L186, k186, n186⟩, -, X186, ⟨Lc186, hQ186, l186, y186, z186⟩, st186⟩ := Jvm.LawKit.callS X185 hx (y := (⟨"pushwise/Boxes", "place", "([Z[IZ)V"⟩ : MethodName)) hown (mvT hZ (hw _ (List.mem_of_getElem? (i := 7) rfl))) (mvT hZ (hw _ (List.mem_of_getElem? (i := 8) rfl))) (mvT hZ (hw _ (List.mem_of_getElem? (i := 9) rfl))) (mvT hZ (hw _ (List.mem_of_getElem? (i := 10) rfl))) (by decide) (backOf (W := 0) (rmPlace3 l Z a0 hw [] b11 bx185 z6 c11 cc185 [(.int (nar .boolean z17)), (.int (nar .boolean z25)), (.int (nar .boolean z33)), (.int (nar .boolean z41)), (.int (nar .boolean z49)), (.int (nar .boolean z57)), (.int (nar .boolean z65)), (.int (nar .boolean z73))] z7 z8 z9 T185.heap n0 Z185 V185_b11 rfl Va185 ne_b11_bx185 g_b11 hb_z7 hb_z8 hb_z9) hZ (hw _ (List.mem_of_getElem? (i := 10) rfl)) (hw _ (List.mem_of_getElem? (i := 9) rfl)) (by decide) (by decide)) (g := (mkF m 218 #[.val (.int init), .val (.int sq), .val (.int cnt), .val (.int fl), .val (.int z6), .val (.int (3 : Int32)), .val (.int z7), .val (.int z8), .val (.int z9), .val (.int z10), .val (.ref b11), .val (.ref bx185), .unset] [(.int z6), (.ref bx185), (.ref b11)])) rfl (by rw [hml]; rfl) (argsL := [(.ref b11), (.ref bx185), (.int z6)]) (rest := []) (lenOf pd_1 rfl) rfl (by show 2 * 0 + _ ≤ _; exact Nat.le_of_eq rfl) (hb hby at_218) (fun _ _ => ⟨rfl, rfl, (by decide : 2 + 0 ≤ _), (by decide : 11 + 0 ≤ _)⟩)
    dsimp only [Pt.U, Pt.locs, Pt.cells, Pt.slots] at X186 l186 y186 z186 st186 hQ186
    subst l186 y186 z186
    obtain ⟨Lm186, eLm186⟩ : ∃ z : List Value, z = ((([(.int (nar .boolean z17)), (.int (nar .boolean z25)), (.int (nar .boolean z33)), (.int (nar .boolean z41)), (.int (nar .boolean z49)), (.int (nar .boolean z57)), (.int (nar .boolean z65)), (.int (nar .boolean z73))].set z7.toNatClampNeg (.int (nar .boolean z6))).set z8.toNatClampNeg (.int (nar .boolean z6))).set z9.toNatClampNeg (.int (nar .boolean z6))) := ⟨_, rfl⟩
    obtain ⟨rfl, N186q, K186, Vq186⟩ := hQ186
    rw [← eLm186] at Vq186
    have N186 := Fr.app N185 N186q
    have V186_bx185 := Va185.keep K186 (ninS (Ne.symm ne_b11_bx185) nin0)
    have Z186 := Nat.le_trans Z185 K186.1
    have KP186 := KP185.trans K186 (allS (Or.inr sz_b11) all0)
    obtain ⟨cl223_187, Ar223_187, q223_187, S223_187, N223_187_, H223_187, G223_187⟩ := id V186_bx185
    have hd188 : (3 : Int32) = (3 : Int32) := rfl
    have hd189 : ¬ ((3 : Int32) < (1 : Int32)) := by decide
    obtain ⟨cl238_190, Ar238_190, q238_190, S238_190, N238_190_, H238_190, G238_190⟩ := id V186_bx185
    have hin238_190 : ¬ ((0 : Int32) < 0 ∨ cl238_190.slots.size ≤ ((0 : Int32)).toNatClampNeg) := inb_of S238_190 ⟨by decide, by decide⟩
    have hat238_190 : cl238_190.slots[((0 : Int32)).toNatClampNeg]? = some (.int z7) := H238_190.at hin238_190 rfl
    have hd191 : z7 = z7 := rfl
    have hd192 : ¬ ((3 : Int32) < (2 : Int32)) := by decide
    obtain ⟨cl253_193, Ar253_193, q253_193, S253_193, N253_193_, H253_193, G253_193⟩ := id V186_bx185
    have hin253_193 : ¬ ((1 : Int32) < 0 ∨ cl253_193.slots.size ≤ ((1 : Int32)).toNatClampNeg) := inb_of S253_193 ⟨by decide, by decide⟩
    have hat253_193 : cl253_193.slots[((1 : Int32)).toNatClampNeg]? = some (.int z8) := H253_193.at hin253_193 rfl
    have hd194 : z8 = z8 := rfl
    have hd195 : ¬ ((3 : Int32) < (3 : Int32)) := by decide
    obtain ⟨cl268_196, Ar268_196, q268_196, S268_196, N268_196_, H268_196, G268_196⟩ := id V186_bx185
    have hin268_196 : ¬ ((2 : Int32) < 0 ∨ cl268_196.slots.size ≤ ((2 : Int32)).toNatClampNeg) := inb_of S268_196 ⟨by decide, by decide⟩
    have hat268_196 : cl268_196.slots[((2 : Int32)).toNatClampNeg]? = some (.int z9) := H268_196.at hin268_196 rfl
    have hd197 : z9 = z9 := rfl
    have hd198 : (3 : Int32) < (4 : Int32) := by decide
    have hd199 : ¬ ((1 : Int32) = (0 : Int32)) := by decide
    obtain ⟨xv200, exv200⟩ : ∃ z : Int32, z = (if z9 = (0 : Int32) then (nar .boolean z6) else (if z8 = (0 : Int32) then (nar .boolean z6) else (if z7 = (0 : Int32) then (nar .boolean z6) else ((nar .boolean z17))))) := ⟨_, rfl⟩
    have hgxv200 : Lm186.getD ((0 : Int32)).toNatClampNeg (.int (0 : Int32)) = .int xv200 := by
      rw [exv200, eLm186]
      rw [own_getset _ _ _ _ _ hb_z9.1 (by decide) (by simp), own_getset _ _ _ _ _ hb_z8.1 (by decide) (by simp), own_getset _ _ _ _ _ hb_z7.1 (by decide) (by simp)]
      simp only [apply_ite Value.int]
      rfl
    obtain ⟨_, _, ⟨T201, L201, k201, n201⟩, -, X201, ⟨Lc201, hQ201, l201, y201, z201⟩, st201⟩ := Jvm.LawKit.callS X186 hx (y := (⟨"pushwise/BoxesPlacePinLaw", "at", "([ZIIIIIIIZ)Z"⟩ : MethodName)) hown (mvT hZ (hw _ (List.mem_of_getElem? (i := 11) rfl))) (mvT hZ (hw _ (List.mem_of_getElem? (i := 12) rfl))) (mvT hZ (hw _ (List.mem_of_getElem? (i := 4) rfl))) (mvT hZ (hw _ (List.mem_of_getElem? (i := 13) rfl))) (by decide) (backOf (W := 0) (rmAt l Z a0 hw [] b11 (0 : Int32) init (3 : Int32) z7 z8 z9 z10 z6 c11 Lm186 xv200 T186.heap n0 Vq186 (by decide) (by decide) hgxv200) hZ (hw _ (List.mem_of_getElem? (i := 13) rfl)) (hw _ (List.mem_of_getElem? (i := 4) rfl)) (by decide) (by decide)) (g := (mkF m 317 #[.val (.int init), .val (.int sq), .val (.int cnt), .val (.int fl), .val (.int z6), .val (.int (3 : Int32)), .val (.int z7), .val (.int z8), .val (.int z9), .val (.int z10), .val (.ref b11), .val (.ref bx185), .val (.int (1 : Int32))] [(.int z6), (.int z10), (.int z9), (.int z8), (.int z7), (.int (3 : Int32)), (.int init), (.int (0 : Int32)), (.ref b11)])) rfl (by rw [hml]; rfl) (argsL := [(.ref b11), (.int (0 : Int32)), (.int init), (.int (3 : Int32)), (.int z7), (.int z8), (.int z9), (.int z10), (.int z6)]) (rest := []) (lenOf pd_2 rfl) rfl (by show 2 * 0 + _ ≤ _; exact Nat.le_of_eq rfl) (hb hby at_317) (fun _ _ => ⟨rfl, rfl, (by decide : 2 + 0 ≤ _), (by decide : 11 + 0 ≤ _)⟩)
    dsimp only [Pt.U, Pt.locs, Pt.cells, Pt.slots] at X201 l201 y201 z201 st201 hQ201
    subst l201 y201 z201
    obtain ⟨rfl, N201q, e201⟩ := hQ201
    have N201 := Fr.app N186 N201q
    have hd202 : ¬ ((atF (0 : Int32) init (3 : Int32) z7 z8 z9 z10 z6 xv200) = (0 : Int32)) := own_at3 _ _ _ _ _ _ _ z17 _ (by rw [ez17, own_ushr0]) (by rw [exv200]; simp only [show nar .boolean z6 = z6 by rw [ez6]; exact own_nar01 _, show nar .boolean z17 = z17 by rw [ez17]; exact own_nar01 _])
    obtain ⟨xv203, exv203⟩ : ∃ z : Int32, z = (if z9 = (1 : Int32) then (nar .boolean z6) else (if z8 = (1 : Int32) then (nar .boolean z6) else (if z7 = (1 : Int32) then (nar .boolean z6) else ((nar .boolean z25))))) := ⟨_, rfl⟩
    have hgxv203 : Lm186.getD ((1 : Int32)).toNatClampNeg (.int (0 : Int32)) = .int xv203 := by
      rw [exv203, eLm186]
      rw [own_getset _ _ _ _ _ hb_z9.1 (by decide) (by simp), own_getset _ _ _ _ _ hb_z8.1 (by decide) (by simp), own_getset _ _ _ _ _ hb_z7.1 (by decide) (by simp)]
      simp only [apply_ite Value.int]
      rfl
    obtain ⟨_, _, ⟨T204, L204, k204, n204⟩, -, X204, ⟨Lc204, hQ204, l204, y204, z204⟩, st204⟩ := Jvm.LawKit.callS X201 hx (y := (⟨"pushwise/BoxesPlacePinLaw", "at", "([ZIIIIIIIZ)Z"⟩ : MethodName)) hown (mvT hZ (hw _ (List.mem_of_getElem? (i := 11) rfl))) (mvT hZ (hw _ (List.mem_of_getElem? (i := 12) rfl))) (mvT hZ (hw _ (List.mem_of_getElem? (i := 4) rfl))) (mvT hZ (hw _ (List.mem_of_getElem? (i := 13) rfl))) (by decide) (backOf (W := 0) (rmAt l Z a0 hw [] b11 (1 : Int32) init (3 : Int32) z7 z8 z9 z10 z6 c11 Lm186 xv203 T186.heap n0 Vq186 (by decide) (by decide) hgxv203) hZ (hw _ (List.mem_of_getElem? (i := 13) rfl)) (hw _ (List.mem_of_getElem? (i := 4) rfl)) (by decide) (by decide)) (g := (mkF m 339 #[.val (.int init), .val (.int sq), .val (.int cnt), .val (.int fl), .val (.int z6), .val (.int (3 : Int32)), .val (.int z7), .val (.int z8), .val (.int z9), .val (.int z10), .val (.ref b11), .val (.ref bx185), .val (.int (1 : Int32))] [(.int z6), (.int z10), (.int z9), (.int z8), (.int z7), (.int (3 : Int32)), (.int init), (.int (1 : Int32)), (.ref b11)])) rfl (by rw [hml]; rfl) (argsL := [(.ref b11), (.int (1 : Int32)), (.int init), (.int (3 : Int32)), (.int z7), (.int z8), (.int z9), (.int z10), (.int z6)]) (rest := []) (lenOf pd_2 rfl) rfl (by show 2 * 0 + _ ≤ _; exact Nat.le_of_eq rfl) (hb hby at_339) (fun _ _ => ⟨rfl, e201, (by decide : 2 + 0 ≤ _), (by decide : 11 + 0 ≤ _)⟩)
    dsimp only [Pt.U, Pt.locs, Pt.cells, Pt.slots] at X204 l204 y204 z204 st204 hQ204
    subst l204 y204 z204
    obtain ⟨rfl, N204q, e204⟩ := hQ204
    have N204 := Fr.app N201 N204q
    have hd205 : ¬ ((atF (1 : Int32) init (3 : Int32) z7 z8 z9 z10 z6 xv203) = (0 : Int32)) := own_at3 _ _ _ _ _ _ _ z25 _ (by rw [ez25]) (by rw [exv203]; simp only [show nar .boolean z6 = z6 by rw [ez6]; exact own_nar01 _, show nar .boolean z25 = z25 by rw [ez25]; exact own_nar01 _])
    obtain ⟨xv206, exv206⟩ : ∃ z : Int32, z = (if z9 = (2 : Int32) then (nar .boolean z6) else (if z8 = (2 : Int32) then (nar .boolean z6) else (if z7 = (2 : Int32) then (nar .boolean z6) else ((nar .boolean z33))))) := ⟨_, rfl⟩
    have hgxv206 : Lm186.getD ((2 : Int32)).toNatClampNeg (.int (0 : Int32)) = .int xv206 := by
      rw [exv206, eLm186]
      rw [own_getset _ _ _ _ _ hb_z9.1 (by decide) (by simp), own_getset _ _ _ _ _ hb_z8.1 (by decide) (by simp), own_getset _ _ _ _ _ hb_z7.1 (by decide) (by simp)]
      simp only [apply_ite Value.int]
      rfl
    obtain ⟨_, _, ⟨T207, L207, k207, n207⟩, -, X207, ⟨Lc207, hQ207, l207, y207, z207⟩, st207⟩ := Jvm.LawKit.callS X204 hx (y := (⟨"pushwise/BoxesPlacePinLaw", "at", "([ZIIIIIIIZ)Z"⟩ : MethodName)) hown (mvT hZ (hw _ (List.mem_of_getElem? (i := 11) rfl))) (mvT hZ (hw _ (List.mem_of_getElem? (i := 12) rfl))) (mvT hZ (hw _ (List.mem_of_getElem? (i := 4) rfl))) (mvT hZ (hw _ (List.mem_of_getElem? (i := 13) rfl))) (by decide) (backOf (W := 0) (rmAt l Z a0 hw [] b11 (2 : Int32) init (3 : Int32) z7 z8 z9 z10 z6 c11 Lm186 xv206 T186.heap n0 Vq186 (by decide) (by decide) hgxv206) hZ (hw _ (List.mem_of_getElem? (i := 13) rfl)) (hw _ (List.mem_of_getElem? (i := 4) rfl)) (by decide) (by decide)) (g := (mkF m 361 #[.val (.int init), .val (.int sq), .val (.int cnt), .val (.int fl), .val (.int z6), .val (.int (3 : Int32)), .val (.int z7), .val (.int z8), .val (.int z9), .val (.int z10), .val (.ref b11), .val (.ref bx185), .val (.int (1 : Int32))] [(.int z6), (.int z10), (.int z9), (.int z8), (.int z7), (.int (3 : Int32)), (.int init), (.int (2 : Int32)), (.ref b11)])) rfl (by rw [hml]; rfl) (argsL := [(.ref b11), (.int (2 : Int32)), (.int init), (.int (3 : Int32)), (.int z7), (.int z8), (.int z9), (.int z10), (.int z6)]) (rest := []) (lenOf pd_2 rfl) rfl (by show 2 * 0 + _ ≤ _; exact Nat.le_of_eq rfl) (hb hby at_361) (fun _ _ => ⟨rfl, e204, (by decide : 2 + 0 ≤ _), (by decide : 11 + 0 ≤ _)⟩)
    dsimp only [Pt.U, Pt.locs, Pt.cells, Pt.slots] at X207 l207 y207 z207 st207 hQ207
    subst l207 y207 z207
    obtain ⟨rfl, N207q, e207⟩ := hQ207
    have N207 := Fr.app N204 N207q
    have hd208 : ¬ ((atF (2 : Int32) init (3 : Int32) z7 z8 z9 z10 z6 xv206) = (0 : Int32)) := own_at3 _ _ _ _ _ _ _ z33 _ (by rw [ez33]) (by rw [exv206]; simp only [show nar .boolean z6 = z6 by rw [ez6]; exact own_nar01 _, show nar .boolean z33 = z33 by rw [ez33]; exact own_nar01 _])
    obtain ⟨xv209, exv209⟩ : ∃ z : Int32, z = (if z9 = (3 : Int32) then (nar .boolean z6) else (if z8 = (3 : Int32) then (nar .boolean z6) else (if z7 = (3 : Int32) then (nar .boolean z6) else ((nar .boolean z41))))) := ⟨_, rfl⟩
    have hgxv209 : Lm186.getD ((3 : Int32)).toNatClampNeg (.int (0 : Int32)) = .int xv209 := by
      rw [exv209, eLm186]
      rw [own_getset _ _ _ _ _ hb_z9.1 (by decide) (by simp), own_getset _ _ _ _ _ hb_z8.1 (by decide) (by simp), own_getset _ _ _ _ _ hb_z7.1 (by decide) (by simp)]
      simp only [apply_ite Value.int]
      rfl
    obtain ⟨_, _, ⟨T210, L210, k210, n210⟩, -, X210, ⟨Lc210, hQ210, l210, y210, z210⟩, st210⟩ := Jvm.LawKit.callS X207 hx (y := (⟨"pushwise/BoxesPlacePinLaw", "at", "([ZIIIIIIIZ)Z"⟩ : MethodName)) hown (mvT hZ (hw _ (List.mem_of_getElem? (i := 11) rfl))) (mvT hZ (hw _ (List.mem_of_getElem? (i := 12) rfl))) (mvT hZ (hw _ (List.mem_of_getElem? (i := 4) rfl))) (mvT hZ (hw _ (List.mem_of_getElem? (i := 13) rfl))) (by decide) (backOf (W := 0) (rmAt l Z a0 hw [] b11 (3 : Int32) init (3 : Int32) z7 z8 z9 z10 z6 c11 Lm186 xv209 T186.heap n0 Vq186 (by decide) (by decide) hgxv209) hZ (hw _ (List.mem_of_getElem? (i := 13) rfl)) (hw _ (List.mem_of_getElem? (i := 4) rfl)) (by decide) (by decide)) (g := (mkF m 383 #[.val (.int init), .val (.int sq), .val (.int cnt), .val (.int fl), .val (.int z6), .val (.int (3 : Int32)), .val (.int z7), .val (.int z8), .val (.int z9), .val (.int z10), .val (.ref b11), .val (.ref bx185), .val (.int (1 : Int32))] [(.int z6), (.int z10), (.int z9), (.int z8), (.int z7), (.int (3 : Int32)), (.int init), (.int (3 : Int32)), (.ref b11)])) rfl (by rw [hml]; rfl) (argsL := [(.ref b11), (.int (3 : Int32)), (.int init), (.int (3 : Int32)), (.int z7), (.int z8), (.int z9), (.int z10), (.int z6)]) (rest := []) (lenOf pd_2 rfl) rfl (by show 2 * 0 + _ ≤ _; exact Nat.le_of_eq rfl) (hb hby at_383) (fun _ _ => ⟨rfl, e207, (by decide : 2 + 0 ≤ _), (by decide : 11 + 0 ≤ _)⟩)
    dsimp only [Pt.U, Pt.locs, Pt.cells, Pt.slots] at X210 l210 y210 z210 st210 hQ210
    subst l210 y210 z210
    obtain ⟨rfl, N210q, e210⟩ := hQ210
    have N210 := Fr.app N207 N210q
    have hd211 : ¬ ((atF (3 : Int32) init (3 : Int32) z7 z8 z9 z10 z6 xv209) = (0 : Int32)) := own_at3 _ _ _ _ _ _ _ z41 _ (by rw [ez41]) (by rw [exv209]; simp only [show nar .boolean z6 = z6 by rw [ez6]; exact own_nar01 _, show nar .boolean z41 = z41 by rw [ez41]; exact own_nar01 _])
    obtain ⟨xv212, exv212⟩ : ∃ z : Int32, z = (if z9 = (4 : Int32) then (nar .boolean z6) else (if z8 = (4 : Int32) then (nar .boolean z6) else (if z7 = (4 : Int32) then (nar .boolean z6) else ((nar .boolean z49))))) := ⟨_, rfl⟩
    have hgxv212 : Lm186.getD ((4 : Int32)).toNatClampNeg (.int (0 : Int32)) = .int xv212 := by
      rw [exv212, eLm186]
      rw [own_getset _ _ _ _ _ hb_z9.1 (by decide) (by simp), own_getset _ _ _ _ _ hb_z8.1 (by decide) (by simp), own_getset _ _ _ _ _ hb_z7.1 (by decide) (by simp)]
      simp only [apply_ite Value.int]
      rfl
    obtain ⟨_, _, ⟨T213, L213, k213, n213⟩, -, X213, ⟨Lc213, hQ213, l213, y213, z213⟩, st213⟩ := Jvm.LawKit.callS X210 hx (y := (⟨"pushwise/BoxesPlacePinLaw", "at", "([ZIIIIIIIZ)Z"⟩ : MethodName)) hown (mvT hZ (hw _ (List.mem_of_getElem? (i := 11) rfl))) (mvT hZ (hw _ (List.mem_of_getElem? (i := 12) rfl))) (mvT hZ (hw _ (List.mem_of_getElem? (i := 4) rfl))) (mvT hZ (hw _ (List.mem_of_getElem? (i := 13) rfl))) (by decide) (backOf (W := 0) (rmAt l Z a0 hw [] b11 (4 : Int32) init (3 : Int32) z7 z8 z9 z10 z6 c11 Lm186 xv212 T186.heap n0 Vq186 (by decide) (by decide) hgxv212) hZ (hw _ (List.mem_of_getElem? (i := 13) rfl)) (hw _ (List.mem_of_getElem? (i := 4) rfl)) (by decide) (by decide)) (g := (mkF m 405 #[.val (.int init), .val (.int sq), .val (.int cnt), .val (.int fl), .val (.int z6), .val (.int (3 : Int32)), .val (.int z7), .val (.int z8), .val (.int z9), .val (.int z10), .val (.ref b11), .val (.ref bx185), .val (.int (1 : Int32))] [(.int z6), (.int z10), (.int z9), (.int z8), (.int z7), (.int (3 : Int32)), (.int init), (.int (4 : Int32)), (.ref b11)])) rfl (by rw [hml]; rfl) (argsL := [(.ref b11), (.int (4 : Int32)), (.int init), (.int (3 : Int32)), (.int z7), (.int z8), (.int z9), (.int z10), (.int z6)]) (rest := []) (lenOf pd_2 rfl) rfl (by show 2 * 0 + _ ≤ _; exact Nat.le_of_eq rfl) (hb hby at_405) (fun _ _ => ⟨rfl, e210, (by decide : 2 + 0 ≤ _), (by decide : 11 + 0 ≤ _)⟩)
    dsimp only [Pt.U, Pt.locs, Pt.cells, Pt.slots] at X213 l213 y213 z213 st213 hQ213
    subst l213 y213 z213
    obtain ⟨rfl, N213q, e213⟩ := hQ213
    have N213 := Fr.app N210 N213q
    have hd214 : ¬ ((atF (4 : Int32) init (3 : Int32) z7 z8 z9 z10 z6 xv212) = (0 : Int32)) := own_at3 _ _ _ _ _ _ _ z49 _ (by rw [ez49]) (by rw [exv212]; simp only [show nar .boolean z6 = z6 by rw [ez6]; exact own_nar01 _, show nar .boolean z49 = z49 by rw [ez49]; exact own_nar01 _])
    obtain ⟨xv215, exv215⟩ : ∃ z : Int32, z = (if z9 = (5 : Int32) then (nar .boolean z6) else (if z8 = (5 : Int32) then (nar .boolean z6) else (if z7 = (5 : Int32) then (nar .boolean z6) else ((nar .boolean z57))))) := ⟨_, rfl⟩
    have hgxv215 : Lm186.getD ((5 : Int32)).toNatClampNeg (.int (0 : Int32)) = .int xv215 := by
      rw [exv215, eLm186]
      rw [own_getset _ _ _ _ _ hb_z9.1 (by decide) (by simp), own_getset _ _ _ _ _ hb_z8.1 (by decide) (by simp), own_getset _ _ _ _ _ hb_z7.1 (by decide) (by simp)]
      simp only [apply_ite Value.int]
      rfl
    obtain ⟨_, _, ⟨T216, L216, k216, n216⟩, -, X216, ⟨Lc216, hQ216, l216, y216, z216⟩, st216⟩ := Jvm.LawKit.callS X213 hx (y := (⟨"pushwise/BoxesPlacePinLaw", "at", "([ZIIIIIIIZ)Z"⟩ : MethodName)) hown (mvT hZ (hw _ (List.mem_of_getElem? (i := 11) rfl))) (mvT hZ (hw _ (List.mem_of_getElem? (i := 12) rfl))) (mvT hZ (hw _ (List.mem_of_getElem? (i := 4) rfl))) (mvT hZ (hw _ (List.mem_of_getElem? (i := 13) rfl))) (by decide) (backOf (W := 0) (rmAt l Z a0 hw [] b11 (5 : Int32) init (3 : Int32) z7 z8 z9 z10 z6 c11 Lm186 xv215 T186.heap n0 Vq186 (by decide) (by decide) hgxv215) hZ (hw _ (List.mem_of_getElem? (i := 13) rfl)) (hw _ (List.mem_of_getElem? (i := 4) rfl)) (by decide) (by decide)) (g := (mkF m 427 #[.val (.int init), .val (.int sq), .val (.int cnt), .val (.int fl), .val (.int z6), .val (.int (3 : Int32)), .val (.int z7), .val (.int z8), .val (.int z9), .val (.int z10), .val (.ref b11), .val (.ref bx185), .val (.int (1 : Int32))] [(.int z6), (.int z10), (.int z9), (.int z8), (.int z7), (.int (3 : Int32)), (.int init), (.int (5 : Int32)), (.ref b11)])) rfl (by rw [hml]; rfl) (argsL := [(.ref b11), (.int (5 : Int32)), (.int init), (.int (3 : Int32)), (.int z7), (.int z8), (.int z9), (.int z10), (.int z6)]) (rest := []) (lenOf pd_2 rfl) rfl (by show 2 * 0 + _ ≤ _; exact Nat.le_of_eq rfl) (hb hby at_427) (fun _ _ => ⟨rfl, e213, (by decide : 2 + 0 ≤ _), (by decide : 11 + 0 ≤ _)⟩)
    dsimp only [Pt.U, Pt.locs, Pt.cells, Pt.slots] at X216 l216 y216 z216 st216 hQ216
    subst l216 y216 z216
    obtain ⟨rfl, N216q, e216⟩ := hQ216
    have N216 := Fr.app N213 N216q
    have hd217 : ¬ ((atF (5 : Int32) init (3 : Int32) z7 z8 z9 z10 z6 xv215) = (0 : Int32)) := own_at3 _ _ _ _ _ _ _ z57 _ (by rw [ez57]) (by rw [exv215]; simp only [show nar .boolean z6 = z6 by rw [ez6]; exact own_nar01 _, show nar .boolean z57 = z57 by rw [ez57]; exact own_nar01 _])
    obtain ⟨xv218, exv218⟩ : ∃ z : Int32, z = (if z9 = (6 : Int32) then (nar .boolean z6) else (if z8 = (6 : Int32) then (nar .boolean z6) else (if z7 = (6 : Int32) then (nar .boolean z6) else ((nar .boolean z65))))) := ⟨_, rfl⟩
    have hgxv218 : Lm186.getD ((6 : Int32)).toNatClampNeg (.int (0 : Int32)) = .int xv218 := by
      rw [exv218, eLm186]
      rw [own_getset _ _ _ _ _ hb_z9.1 (by decide) (by simp), own_getset _ _ _ _ _ hb_z8.1 (by decide) (by simp), own_getset _ _ _ _ _ hb_z7.1 (by decide) (by simp)]
      simp only [apply_ite Value.int]
      rfl
    obtain ⟨_, _, ⟨T219, L219, k219, n219⟩, -, X219, ⟨Lc219, hQ219, l219, y219, z219⟩, st219⟩ := Jvm.LawKit.callS X216 hx (y := (⟨"pushwise/BoxesPlacePinLaw", "at", "([ZIIIIIIIZ)Z"⟩ : MethodName)) hown (mvT hZ (hw _ (List.mem_of_getElem? (i := 11) rfl))) (mvT hZ (hw _ (List.mem_of_getElem? (i := 12) rfl))) (mvT hZ (hw _ (List.mem_of_getElem? (i := 4) rfl))) (mvT hZ (hw _ (List.mem_of_getElem? (i := 13) rfl))) (by decide) (backOf (W := 0) (rmAt l Z a0 hw [] b11 (6 : Int32) init (3 : Int32) z7 z8 z9 z10 z6 c11 Lm186 xv218 T186.heap n0 Vq186 (by decide) (by decide) hgxv218) hZ (hw _ (List.mem_of_getElem? (i := 13) rfl)) (hw _ (List.mem_of_getElem? (i := 4) rfl)) (by decide) (by decide)) (g := (mkF m 450 #[.val (.int init), .val (.int sq), .val (.int cnt), .val (.int fl), .val (.int z6), .val (.int (3 : Int32)), .val (.int z7), .val (.int z8), .val (.int z9), .val (.int z10), .val (.ref b11), .val (.ref bx185), .val (.int (1 : Int32))] [(.int z6), (.int z10), (.int z9), (.int z8), (.int z7), (.int (3 : Int32)), (.int init), (.int (6 : Int32)), (.ref b11)])) rfl (by rw [hml]; rfl) (argsL := [(.ref b11), (.int (6 : Int32)), (.int init), (.int (3 : Int32)), (.int z7), (.int z8), (.int z9), (.int z10), (.int z6)]) (rest := []) (lenOf pd_2 rfl) rfl (by show 2 * 0 + _ ≤ _; exact Nat.le_of_eq rfl) (hb hby at_450) (fun _ _ => ⟨rfl, e216, (by decide : 2 + 0 ≤ _), (by decide : 11 + 0 ≤ _)⟩)
    dsimp only [Pt.U, Pt.locs, Pt.cells, Pt.slots] at X219 l219 y219 z219 st219 hQ219
    subst l219 y219 z219
    obtain ⟨rfl, N219q, e219⟩ := hQ219
    have N219 := Fr.app N216 N219q
    have hd220 : ¬ ((atF (6 : Int32) init (3 : Int32) z7 z8 z9 z10 z6 xv218) = (0 : Int32)) := own_at3 _ _ _ _ _ _ _ z65 _ (by rw [ez65]) (by rw [exv218]; simp only [show nar .boolean z6 = z6 by rw [ez6]; exact own_nar01 _, show nar .boolean z65 = z65 by rw [ez65]; exact own_nar01 _])
    obtain ⟨xv221, exv221⟩ : ∃ z : Int32, z = (if z9 = (7 : Int32) then (nar .boolean z6) else (if z8 = (7 : Int32) then (nar .boolean z6) else (if z7 = (7 : Int32) then (nar .boolean z6) else ((nar .boolean z73))))) := ⟨_, rfl⟩
    have hgxv221 : Lm186.getD ((7 : Int32)).toNatClampNeg (.int (0 : Int32)) = .int xv221 := by
      rw [exv221, eLm186]
      rw [own_getset _ _ _ _ _ hb_z9.1 (by decide) (by simp), own_getset _ _ _ _ _ hb_z8.1 (by decide) (by simp), own_getset _ _ _ _ _ hb_z7.1 (by decide) (by simp)]
      simp only [apply_ite Value.int]
      rfl
    obtain ⟨_, _, ⟨T222, L222, k222, n222⟩, -, X222, ⟨Lc222, hQ222, l222, y222, z222⟩, st222⟩ := Jvm.LawKit.callS X219 hx (y := (⟨"pushwise/BoxesPlacePinLaw", "at", "([ZIIIIIIIZ)Z"⟩ : MethodName)) hown (mvT hZ (hw _ (List.mem_of_getElem? (i := 11) rfl))) (mvT hZ (hw _ (List.mem_of_getElem? (i := 12) rfl))) (mvT hZ (hw _ (List.mem_of_getElem? (i := 4) rfl))) (mvT hZ (hw _ (List.mem_of_getElem? (i := 13) rfl))) (by decide) (backOf (W := 0) (rmAt l Z a0 hw [] b11 (7 : Int32) init (3 : Int32) z7 z8 z9 z10 z6 c11 Lm186 xv221 T186.heap n0 Vq186 (by decide) (by decide) hgxv221) hZ (hw _ (List.mem_of_getElem? (i := 13) rfl)) (hw _ (List.mem_of_getElem? (i := 4) rfl)) (by decide) (by decide)) (g := (mkF m 473 #[.val (.int init), .val (.int sq), .val (.int cnt), .val (.int fl), .val (.int z6), .val (.int (3 : Int32)), .val (.int z7), .val (.int z8), .val (.int z9), .val (.int z10), .val (.ref b11), .val (.ref bx185), .val (.int (1 : Int32))] [(.int z6), (.int z10), (.int z9), (.int z8), (.int z7), (.int (3 : Int32)), (.int init), (.int (7 : Int32)), (.ref b11)])) rfl (by rw [hml]; rfl) (argsL := [(.ref b11), (.int (7 : Int32)), (.int init), (.int (3 : Int32)), (.int z7), (.int z8), (.int z9), (.int z10), (.int z6)]) (rest := []) (lenOf pd_2 rfl) rfl (by show 2 * 0 + _ ≤ _; exact Nat.le_of_eq rfl) (hb hby at_473) (fun _ _ => ⟨rfl, e219, (by decide : 2 + 0 ≤ _), (by decide : 11 + 0 ≤ _)⟩)
    dsimp only [Pt.U, Pt.locs, Pt.cells, Pt.slots] at X222 l222 y222 z222 st222 hQ222
    subst l222 y222 z222
    obtain ⟨rfl, N222q, e222⟩ := hQ222
    have N222 := Fr.app N219 N222q
    have hd223 : ¬ ((atF (7 : Int32) init (3 : Int32) z7 z8 z9 z10 z6 xv221) = (0 : Int32)) := own_at3 _ _ _ _ _ _ _ z73 _ (by rw [ez73]) (by rw [exv221]; simp only [show nar .boolean z6 = z6 by rw [ez6]; exact own_nar01 _, show nar .boolean z73 = z73 by rw [ez73]; exact own_nar01 _])
    have k224 : ∀ tg, Steps p.tables e below (T222.setTop (mkF m 484 #[.val (.int init), .val (.int sq), .val (.int cnt), .val (.int fl), .val (.int z6), .val (.int (3 : Int32)), .val (.int z7), .val (.int z8), .val (.int z9), .val (.int z10), .val (.ref b11), .val (.ref bx185), .val (.int (1 : Int32))] [(.int (1 : Int32))])) tg → Steps p.tables e below (s₁.setTop (entryFrame m #[(.int init), (.int sq), (.int cnt), (.int fl)] maxLocals)) tg := by
      intro tg kt
      refine k76 tg ?_
      show Steps p.tables e below (T75.setTop (mkF m 197 #[.val (.int init), .val (.int sq), .val (.int cnt), .val (.int fl), .val (.int z6), .val (.int ((cnt &&& (2147483647 : Int32)) % (5 : Int32))), .val (.int z7), .val (.int z8), .val (.int z9), .val (.int z10), .val (.ref b11), .unset, .unset] [])) _
      rw [hn]
      show Steps p.tables e below (T75.setTop (mkF m 197 #[.val (.int init), .val (.int sq), .val (.int cnt), .val (.int fl), .val (.int z6), .val (.int (3 : Int32)), .val (.int z7), .val (.int z8), .val (.int z9), .val (.int z10), .val (.ref b11), .unset, .unset] [])) _
      refine XS.iload X75.here hx rfl (hb hby at_197) rfl ?_
      show Steps p.tables e below (T75.setTop (mkF m 199 #[.val (.int init), .val (.int sq), .val (.int cnt), .val (.int fl), .val (.int z6), .val (.int (3 : Int32)), .val (.int z7), .val (.int z8), .val (.int z9), .val (.int z10), .val (.ref b11), .unset, .unset] [(.int (3 : Int32))])) _
      refine XS.iload X75.here hx rfl (hb hby at_199) rfl ?_
      show Steps p.tables e below (T75.setTop (mkF m 201 #[.val (.int init), .val (.int sq), .val (.int cnt), .val (.int fl), .val (.int z6), .val (.int (3 : Int32)), .val (.int z7), .val (.int z8), .val (.int z9), .val (.int z10), .val (.ref b11), .unset, .unset] [(.int z7), (.int (3 : Int32))])) _
      refine XS.iload X75.here hx rfl (hb hby at_201) rfl ?_
      show Steps p.tables e below (T75.setTop (mkF m 203 #[.val (.int init), .val (.int sq), .val (.int cnt), .val (.int fl), .val (.int z6), .val (.int (3 : Int32)), .val (.int z7), .val (.int z8), .val (.int z9), .val (.int z10), .val (.ref b11), .unset, .unset] [(.int z8), (.int z7), (.int (3 : Int32))])) _
      refine XS.iload X75.here hx rfl (hb hby at_203) rfl ?_
      show Steps p.tables e below (T75.setTop (mkF m 205 #[.val (.int init), .val (.int sq), .val (.int cnt), .val (.int fl), .val (.int z6), .val (.int (3 : Int32)), .val (.int z7), .val (.int z8), .val (.int z9), .val (.int z10), .val (.ref b11), .unset, .unset] [(.int z9), (.int z8), (.int z7), (.int (3 : Int32))])) _
      refine XS.iload X75.here hx rfl (hb hby at_205) rfl ?_
      show Steps p.tables e below (T75.setTop (mkF m 207 #[.val (.int init), .val (.int sq), .val (.int cnt), .val (.int fl), .val (.int z6), .val (.int (3 : Int32)), .val (.int z7), .val (.int z8), .val (.int z9), .val (.int z10), .val (.ref b11), .unset, .unset] [(.int z10), (.int z9), (.int z8), (.int z7), (.int (3 : Int32))])) _
      refine st185 _ ?_
      show Steps p.tables e below (T185.setTop (mkF m 210 #[.val (.int init), .val (.int sq), .val (.int cnt), .val (.int fl), .val (.int z6), .val (.int (3 : Int32)), .val (.int z7), .val (.int z8), .val (.int z9), .val (.int z10), .val (.ref b11), .unset, .unset] [(.ref bx185)])) _
      refine XS.astore X185.here hx rfl (hb hby at_210) rfl rfl (l' := #[.val (.int init), .val (.int sq), .val (.int cnt), .val (.int fl), .val (.int z6), .val (.int (3 : Int32)), .val (.int z7), .val (.int z8), .val (.int z9), .val (.int z10), .val (.ref b11), .val (.ref bx185), .unset]) rfl ?_
      show Steps p.tables e below (T185.setTop (mkF m 212 #[.val (.int init), .val (.int sq), .val (.int cnt), .val (.int fl), .val (.int z6), .val (.int (3 : Int32)), .val (.int z7), .val (.int z8), .val (.int z9), .val (.int z10), .val (.ref b11), .val (.ref bx185), .unset] [])) _
      refine XS.aload X185.here hx rfl (hb hby at_212) rfl rfl ?_
      show Steps p.tables e below (T185.setTop (mkF m 214 #[.val (.int init), .val (.int sq), .val (.int cnt), .val (.int fl), .val (.int z6), .val (.int (3 : Int32)), .val (.int z7), .val (.int z8), .val (.int z9), .val (.int z10), .val (.ref b11), .val (.ref bx185), .unset] [(.ref b11)])) _
      refine XS.aload X185.here hx rfl (hb hby at_214) rfl rfl ?_
      show Steps p.tables e below (T185.setTop (mkF m 216 #[.val (.int init), .val (.int sq), .val (.int cnt), .val (.int fl), .val (.int z6), .val (.int (3 : Int32)), .val (.int z7), .val (.int z8), .val (.int z9), .val (.int z10), .val (.ref b11), .val (.ref bx185), .unset] [(.ref bx185), (.ref b11)])) _
      refine XS.iload X185.here hx rfl (hb hby at_216) rfl ?_
      show Steps p.tables e below (T185.setTop (mkF m 218 #[.val (.int init), .val (.int sq), .val (.int cnt), .val (.int fl), .val (.int z6), .val (.int (3 : Int32)), .val (.int z7), .val (.int z8), .val (.int z9), .val (.int z10), .val (.ref b11), .val (.ref bx185), .unset] [(.int z6), (.ref bx185), (.ref b11)])) _
      refine st186 _ ?_
      show Steps p.tables e below (T186.setTop (mkF m 221 #[.val (.int init), .val (.int sq), .val (.int cnt), .val (.int fl), .val (.int z6), .val (.int (3 : Int32)), .val (.int z7), .val (.int z8), .val (.int z9), .val (.int z10), .val (.ref b11), .val (.ref bx185), .unset] [])) _
      refine XS.aload X186.here hx rfl (hb hby at_221) rfl rfl ?_
      show Steps p.tables e below (T186.setTop (mkF m 223 #[.val (.int init), .val (.int sq), .val (.int cnt), .val (.int fl), .val (.int z6), .val (.int (3 : Int32)), .val (.int z7), .val (.int z8), .val (.int z9), .val (.int z10), .val (.ref b11), .val (.ref bx185), .unset] [(.ref bx185)])) _
      refine X186.arraylength hx (by exact Ar223_187.1) (State.isArrayOf_alike hZ.alike Ar223_187.2.1) (g := (mkF m 223 #[.val (.int init), .val (.int sq), .val (.int cnt), .val (.int fl), .val (.int z6), .val (.int (3 : Int32)), .val (.int z7), .val (.int z8), .val (.int z9), .val (.int z10), .val (.ref b11), .val (.ref bx185), .unset] [(.ref bx185)])) rfl rfl (hb hby at_223) _ ?_
      rw [len_of S223_187 N223_187_]
      show Steps p.tables e below (T186.setTop (mkF m 224 #[.val (.int init), .val (.int sq), .val (.int cnt), .val (.int fl), .val (.int z6), .val (.int (3 : Int32)), .val (.int z7), .val (.int z8), .val (.int z9), .val (.int z10), .val (.ref b11), .val (.ref bx185), .unset] [(.int (3 : Int32))])) _
      refine XS.iload X186.here hx rfl (hb hby at_224) rfl ?_
      show Steps p.tables e below (T186.setTop (mkF m 226 #[.val (.int init), .val (.int sq), .val (.int cnt), .val (.int fl), .val (.int z6), .val (.int (3 : Int32)), .val (.int z7), .val (.int z8), .val (.int z9), .val (.int z10), .val (.ref b11), .val (.ref bx185), .unset] [(.int (3 : Int32)), (.int (3 : Int32))])) _
      refine XS.icmpNo X186.here hx rfl (hb hby at_226) rfl (teq hd188).2 ?_
      show Steps p.tables e below (T186.setTop (mkF m 229 #[.val (.int init), .val (.int sq), .val (.int cnt), .val (.int fl), .val (.int z6), .val (.int (3 : Int32)), .val (.int z7), .val (.int z8), .val (.int z9), .val (.int z10), .val (.ref b11), .val (.ref bx185), .unset] [])) _
      refine XS.iload X186.here hx rfl (hb hby at_229) rfl ?_
      show Steps p.tables e below (T186.setTop (mkF m 231 #[.val (.int init), .val (.int sq), .val (.int cnt), .val (.int fl), .val (.int z6), .val (.int (3 : Int32)), .val (.int z7), .val (.int z8), .val (.int z9), .val (.int z10), .val (.ref b11), .val (.ref bx185), .unset] [(.int (3 : Int32))])) _
      refine XS.iconst X186.here hx rfl (hb hby at_231) ?_
      show Steps p.tables e below (T186.setTop (mkF m 232 #[.val (.int init), .val (.int sq), .val (.int cnt), .val (.int fl), .val (.int z6), .val (.int (3 : Int32)), .val (.int z7), .val (.int z8), .val (.int z9), .val (.int z10), .val (.ref b11), .val (.ref bx185), .unset] [(.int (1 : Int32)), (.int (3 : Int32))])) _
      refine XS.icmpNo X186.here hx rfl (hb hby at_232) rfl (flt hd189).1 ?_
      show Steps p.tables e below (T186.setTop (mkF m 235 #[.val (.int init), .val (.int sq), .val (.int cnt), .val (.int fl), .val (.int z6), .val (.int (3 : Int32)), .val (.int z7), .val (.int z8), .val (.int z9), .val (.int z10), .val (.ref b11), .val (.ref bx185), .unset] [])) _
      refine XS.aload X186.here hx rfl (hb hby at_235) rfl rfl ?_
      show Steps p.tables e below (T186.setTop (mkF m 237 #[.val (.int init), .val (.int sq), .val (.int cnt), .val (.int fl), .val (.int z6), .val (.int (3 : Int32)), .val (.int z7), .val (.int z8), .val (.int z9), .val (.int z10), .val (.ref b11), .val (.ref bx185), .unset] [(.ref bx185)])) _
      refine XS.iconst X186.here hx rfl (hb hby at_237) ?_
      show Steps p.tables e below (T186.setTop (mkF m 238 #[.val (.int init), .val (.int sq), .val (.int cnt), .val (.int fl), .val (.int z6), .val (.int (3 : Int32)), .val (.int z7), .val (.int z8), .val (.int z9), .val (.int z10), .val (.ref b11), .val (.ref bx185), .unset] [(.int (0 : Int32)), (.ref bx185)])) _
      refine X186.iaload hx (j := (0 : Int32)) (v := (.int z7)) (by exact Ar238_190.1) (State.isArrayOf_alike hZ.alike Ar238_190.2.1) Ar238_190.2.2 hin238_190 hat238_190 (g := (mkF m 238 #[.val (.int init), .val (.int sq), .val (.int cnt), .val (.int fl), .val (.int z6), .val (.int (3 : Int32)), .val (.int z7), .val (.int z8), .val (.int z9), .val (.int z10), .val (.ref b11), .val (.ref bx185), .unset] [(.int (0 : Int32)), (.ref bx185)])) rfl rfl (hb hby at_238) _ ?_
      show Steps p.tables e below (T186.setTop (mkF m 239 #[.val (.int init), .val (.int sq), .val (.int cnt), .val (.int fl), .val (.int z6), .val (.int (3 : Int32)), .val (.int z7), .val (.int z8), .val (.int z9), .val (.int z10), .val (.ref b11), .val (.ref bx185), .unset] [(.int z7)])) _
      refine XS.iload X186.here hx rfl (hb hby at_239) rfl ?_
      show Steps p.tables e below (T186.setTop (mkF m 241 #[.val (.int init), .val (.int sq), .val (.int cnt), .val (.int fl), .val (.int z6), .val (.int (3 : Int32)), .val (.int z7), .val (.int z8), .val (.int z9), .val (.int z10), .val (.ref b11), .val (.ref bx185), .unset] [(.int z7), (.int z7)])) _
      refine XS.icmpNo X186.here hx rfl (hb hby at_241) rfl (teq hd191).2 ?_
      show Steps p.tables e below (T186.setTop (mkF m 244 #[.val (.int init), .val (.int sq), .val (.int cnt), .val (.int fl), .val (.int z6), .val (.int (3 : Int32)), .val (.int z7), .val (.int z8), .val (.int z9), .val (.int z10), .val (.ref b11), .val (.ref bx185), .unset] [])) _
      refine XS.iload X186.here hx rfl (hb hby at_244) rfl ?_
      show Steps p.tables e below (T186.setTop (mkF m 246 #[.val (.int init), .val (.int sq), .val (.int cnt), .val (.int fl), .val (.int z6), .val (.int (3 : Int32)), .val (.int z7), .val (.int z8), .val (.int z9), .val (.int z10), .val (.ref b11), .val (.ref bx185), .unset] [(.int (3 : Int32))])) _
      refine XS.iconst X186.here hx rfl (hb hby at_246) ?_
      show Steps p.tables e below (T186.setTop (mkF m 247 #[.val (.int init), .val (.int sq), .val (.int cnt), .val (.int fl), .val (.int z6), .val (.int (3 : Int32)), .val (.int z7), .val (.int z8), .val (.int z9), .val (.int z10), .val (.ref b11), .val (.ref bx185), .unset] [(.int (2 : Int32)), (.int (3 : Int32))])) _
      refine XS.icmpNo X186.here hx rfl (hb hby at_247) rfl (flt hd192).1 ?_
      show Steps p.tables e below (T186.setTop (mkF m 250 #[.val (.int init), .val (.int sq), .val (.int cnt), .val (.int fl), .val (.int z6), .val (.int (3 : Int32)), .val (.int z7), .val (.int z8), .val (.int z9), .val (.int z10), .val (.ref b11), .val (.ref bx185), .unset] [])) _
      refine XS.aload X186.here hx rfl (hb hby at_250) rfl rfl ?_
      show Steps p.tables e below (T186.setTop (mkF m 252 #[.val (.int init), .val (.int sq), .val (.int cnt), .val (.int fl), .val (.int z6), .val (.int (3 : Int32)), .val (.int z7), .val (.int z8), .val (.int z9), .val (.int z10), .val (.ref b11), .val (.ref bx185), .unset] [(.ref bx185)])) _
      refine XS.iconst X186.here hx rfl (hb hby at_252) ?_
      show Steps p.tables e below (T186.setTop (mkF m 253 #[.val (.int init), .val (.int sq), .val (.int cnt), .val (.int fl), .val (.int z6), .val (.int (3 : Int32)), .val (.int z7), .val (.int z8), .val (.int z9), .val (.int z10), .val (.ref b11), .val (.ref bx185), .unset] [(.int (1 : Int32)), (.ref bx185)])) _
      refine X186.iaload hx (j := (1 : Int32)) (v := (.int z8)) (by exact Ar253_193.1) (State.isArrayOf_alike hZ.alike Ar253_193.2.1) Ar253_193.2.2 hin253_193 hat253_193 (g := (mkF m 253 #[.val (.int init), .val (.int sq), .val (.int cnt), .val (.int fl), .val (.int z6), .val (.int (3 : Int32)), .val (.int z7), .val (.int z8), .val (.int z9), .val (.int z10), .val (.ref b11), .val (.ref bx185), .unset] [(.int (1 : Int32)), (.ref bx185)])) rfl rfl (hb hby at_253) _ ?_
      show Steps p.tables e below (T186.setTop (mkF m 254 #[.val (.int init), .val (.int sq), .val (.int cnt), .val (.int fl), .val (.int z6), .val (.int (3 : Int32)), .val (.int z7), .val (.int z8), .val (.int z9), .val (.int z10), .val (.ref b11), .val (.ref bx185), .unset] [(.int z8)])) _
      refine XS.iload X186.here hx rfl (hb hby at_254) rfl ?_
      show Steps p.tables e below (T186.setTop (mkF m 256 #[.val (.int init), .val (.int sq), .val (.int cnt), .val (.int fl), .val (.int z6), .val (.int (3 : Int32)), .val (.int z7), .val (.int z8), .val (.int z9), .val (.int z10), .val (.ref b11), .val (.ref bx185), .unset] [(.int z8), (.int z8)])) _
      refine XS.icmpNo X186.here hx rfl (hb hby at_256) rfl (teq hd194).2 ?_
      show Steps p.tables e below (T186.setTop (mkF m 259 #[.val (.int init), .val (.int sq), .val (.int cnt), .val (.int fl), .val (.int z6), .val (.int (3 : Int32)), .val (.int z7), .val (.int z8), .val (.int z9), .val (.int z10), .val (.ref b11), .val (.ref bx185), .unset] [])) _
      refine XS.iload X186.here hx rfl (hb hby at_259) rfl ?_
      show Steps p.tables e below (T186.setTop (mkF m 261 #[.val (.int init), .val (.int sq), .val (.int cnt), .val (.int fl), .val (.int z6), .val (.int (3 : Int32)), .val (.int z7), .val (.int z8), .val (.int z9), .val (.int z10), .val (.ref b11), .val (.ref bx185), .unset] [(.int (3 : Int32))])) _
      refine XS.iconst X186.here hx rfl (hb hby at_261) ?_
      show Steps p.tables e below (T186.setTop (mkF m 262 #[.val (.int init), .val (.int sq), .val (.int cnt), .val (.int fl), .val (.int z6), .val (.int (3 : Int32)), .val (.int z7), .val (.int z8), .val (.int z9), .val (.int z10), .val (.ref b11), .val (.ref bx185), .unset] [(.int (3 : Int32)), (.int (3 : Int32))])) _
      refine XS.icmpNo X186.here hx rfl (hb hby at_262) rfl (flt hd195).1 ?_
      show Steps p.tables e below (T186.setTop (mkF m 265 #[.val (.int init), .val (.int sq), .val (.int cnt), .val (.int fl), .val (.int z6), .val (.int (3 : Int32)), .val (.int z7), .val (.int z8), .val (.int z9), .val (.int z10), .val (.ref b11), .val (.ref bx185), .unset] [])) _
      refine XS.aload X186.here hx rfl (hb hby at_265) rfl rfl ?_
      show Steps p.tables e below (T186.setTop (mkF m 267 #[.val (.int init), .val (.int sq), .val (.int cnt), .val (.int fl), .val (.int z6), .val (.int (3 : Int32)), .val (.int z7), .val (.int z8), .val (.int z9), .val (.int z10), .val (.ref b11), .val (.ref bx185), .unset] [(.ref bx185)])) _
      refine XS.iconst X186.here hx rfl (hb hby at_267) ?_
      show Steps p.tables e below (T186.setTop (mkF m 268 #[.val (.int init), .val (.int sq), .val (.int cnt), .val (.int fl), .val (.int z6), .val (.int (3 : Int32)), .val (.int z7), .val (.int z8), .val (.int z9), .val (.int z10), .val (.ref b11), .val (.ref bx185), .unset] [(.int (2 : Int32)), (.ref bx185)])) _
      refine X186.iaload hx (j := (2 : Int32)) (v := (.int z9)) (by exact Ar268_196.1) (State.isArrayOf_alike hZ.alike Ar268_196.2.1) Ar268_196.2.2 hin268_196 hat268_196 (g := (mkF m 268 #[.val (.int init), .val (.int sq), .val (.int cnt), .val (.int fl), .val (.int z6), .val (.int (3 : Int32)), .val (.int z7), .val (.int z8), .val (.int z9), .val (.int z10), .val (.ref b11), .val (.ref bx185), .unset] [(.int (2 : Int32)), (.ref bx185)])) rfl rfl (hb hby at_268) _ ?_
      show Steps p.tables e below (T186.setTop (mkF m 269 #[.val (.int init), .val (.int sq), .val (.int cnt), .val (.int fl), .val (.int z6), .val (.int (3 : Int32)), .val (.int z7), .val (.int z8), .val (.int z9), .val (.int z10), .val (.ref b11), .val (.ref bx185), .unset] [(.int z9)])) _
      refine XS.iload X186.here hx rfl (hb hby at_269) rfl ?_
      show Steps p.tables e below (T186.setTop (mkF m 271 #[.val (.int init), .val (.int sq), .val (.int cnt), .val (.int fl), .val (.int z6), .val (.int (3 : Int32)), .val (.int z7), .val (.int z8), .val (.int z9), .val (.int z10), .val (.ref b11), .val (.ref bx185), .unset] [(.int z9), (.int z9)])) _
      refine XS.icmpNo X186.here hx rfl (hb hby at_271) rfl (teq hd197).2 ?_
      show Steps p.tables e below (T186.setTop (mkF m 274 #[.val (.int init), .val (.int sq), .val (.int cnt), .val (.int fl), .val (.int z6), .val (.int (3 : Int32)), .val (.int z7), .val (.int z8), .val (.int z9), .val (.int z10), .val (.ref b11), .val (.ref bx185), .unset] [])) _
      refine XS.iload X186.here hx rfl (hb hby at_274) rfl ?_
      show Steps p.tables e below (T186.setTop (mkF m 276 #[.val (.int init), .val (.int sq), .val (.int cnt), .val (.int fl), .val (.int z6), .val (.int (3 : Int32)), .val (.int z7), .val (.int z8), .val (.int z9), .val (.int z10), .val (.ref b11), .val (.ref bx185), .unset] [(.int (3 : Int32))])) _
      refine XS.iconst X186.here hx rfl (hb hby at_276) ?_
      show Steps p.tables e below (T186.setTop (mkF m 277 #[.val (.int init), .val (.int sq), .val (.int cnt), .val (.int fl), .val (.int z6), .val (.int (3 : Int32)), .val (.int z7), .val (.int z8), .val (.int z9), .val (.int z10), .val (.ref b11), .val (.ref bx185), .unset] [(.int (4 : Int32)), (.int (3 : Int32))])) _
      refine XS.icmpYes X186.here hx rfl (pc0 := 277) (pc' := 289) rfl (hb hby at_277) rfl (tlt hd198).1 (by decide) (by decide) ?_
      show Steps p.tables e below (T186.setTop (mkF m 289 #[.val (.int init), .val (.int sq), .val (.int cnt), .val (.int fl), .val (.int z6), .val (.int (3 : Int32)), .val (.int z7), .val (.int z8), .val (.int z9), .val (.int z10), .val (.ref b11), .val (.ref bx185), .unset] [])) _
      refine XS.iconst X186.here hx rfl (hb hby at_289) ?_
      show Steps p.tables e below (T186.setTop (mkF m 290 #[.val (.int init), .val (.int sq), .val (.int cnt), .val (.int fl), .val (.int z6), .val (.int (3 : Int32)), .val (.int z7), .val (.int z8), .val (.int z9), .val (.int z10), .val (.ref b11), .val (.ref bx185), .unset] [(.int (1 : Int32))])) _
      refine XS.goto X186.here hx rfl (pc0 := 290) (pc' := 294) rfl (hb hby at_290) (by decide) (by decide) ?_
      show Steps p.tables e below (T186.setTop (mkF m 294 #[.val (.int init), .val (.int sq), .val (.int cnt), .val (.int fl), .val (.int z6), .val (.int (3 : Int32)), .val (.int z7), .val (.int z8), .val (.int z9), .val (.int z10), .val (.ref b11), .val (.ref bx185), .unset] [(.int (1 : Int32))])) _
      refine XS.istore X186.here hx rfl (hb hby at_294) rfl (l' := #[.val (.int init), .val (.int sq), .val (.int cnt), .val (.int fl), .val (.int z6), .val (.int (3 : Int32)), .val (.int z7), .val (.int z8), .val (.int z9), .val (.int z10), .val (.ref b11), .val (.ref bx185), .val (.int (1 : Int32))]) rfl ?_
      show Steps p.tables e below (T186.setTop (mkF m 296 #[.val (.int init), .val (.int sq), .val (.int cnt), .val (.int fl), .val (.int z6), .val (.int (3 : Int32)), .val (.int z7), .val (.int z8), .val (.int z9), .val (.int z10), .val (.ref b11), .val (.ref bx185), .val (.int (1 : Int32))] [])) _
      refine XS.iload X186.here hx rfl (hb hby at_296) rfl ?_
      show Steps p.tables e below (T186.setTop (mkF m 298 #[.val (.int init), .val (.int sq), .val (.int cnt), .val (.int fl), .val (.int z6), .val (.int (3 : Int32)), .val (.int z7), .val (.int z8), .val (.int z9), .val (.int z10), .val (.ref b11), .val (.ref bx185), .val (.int (1 : Int32))] [(.int (1 : Int32))])) _
      refine XS.ifNo X186.here hx rfl (hb hby at_298) rfl ((if0 _ _).trans (feq hd199).1) ?_
      show Steps p.tables e below (T186.setTop (mkF m 301 #[.val (.int init), .val (.int sq), .val (.int cnt), .val (.int fl), .val (.int z6), .val (.int (3 : Int32)), .val (.int z7), .val (.int z8), .val (.int z9), .val (.int z10), .val (.ref b11), .val (.ref bx185), .val (.int (1 : Int32))] [])) _
      refine XS.aload X186.here hx rfl (hb hby at_301) rfl rfl ?_
      show Steps p.tables e below (T186.setTop (mkF m 303 #[.val (.int init), .val (.int sq), .val (.int cnt), .val (.int fl), .val (.int z6), .val (.int (3 : Int32)), .val (.int z7), .val (.int z8), .val (.int z9), .val (.int z10), .val (.ref b11), .val (.ref bx185), .val (.int (1 : Int32))] [(.ref b11)])) _
      refine XS.iconst X186.here hx rfl (hb hby at_303) ?_
      show Steps p.tables e below (T186.setTop (mkF m 304 #[.val (.int init), .val (.int sq), .val (.int cnt), .val (.int fl), .val (.int z6), .val (.int (3 : Int32)), .val (.int z7), .val (.int z8), .val (.int z9), .val (.int z10), .val (.ref b11), .val (.ref bx185), .val (.int (1 : Int32))] [(.int (0 : Int32)), (.ref b11)])) _
      refine XS.iloadN X186.here hx rfl (hb hby at_304) rfl ?_
      show Steps p.tables e below (T186.setTop (mkF m 305 #[.val (.int init), .val (.int sq), .val (.int cnt), .val (.int fl), .val (.int z6), .val (.int (3 : Int32)), .val (.int z7), .val (.int z8), .val (.int z9), .val (.int z10), .val (.ref b11), .val (.ref bx185), .val (.int (1 : Int32))] [(.int init), (.int (0 : Int32)), (.ref b11)])) _
      refine XS.iload X186.here hx rfl (hb hby at_305) rfl ?_
      show Steps p.tables e below (T186.setTop (mkF m 307 #[.val (.int init), .val (.int sq), .val (.int cnt), .val (.int fl), .val (.int z6), .val (.int (3 : Int32)), .val (.int z7), .val (.int z8), .val (.int z9), .val (.int z10), .val (.ref b11), .val (.ref bx185), .val (.int (1 : Int32))] [(.int (3 : Int32)), (.int init), (.int (0 : Int32)), (.ref b11)])) _
      refine XS.iload X186.here hx rfl (hb hby at_307) rfl ?_
      show Steps p.tables e below (T186.setTop (mkF m 309 #[.val (.int init), .val (.int sq), .val (.int cnt), .val (.int fl), .val (.int z6), .val (.int (3 : Int32)), .val (.int z7), .val (.int z8), .val (.int z9), .val (.int z10), .val (.ref b11), .val (.ref bx185), .val (.int (1 : Int32))] [(.int z7), (.int (3 : Int32)), (.int init), (.int (0 : Int32)), (.ref b11)])) _
      refine XS.iload X186.here hx rfl (hb hby at_309) rfl ?_
      show Steps p.tables e below (T186.setTop (mkF m 311 #[.val (.int init), .val (.int sq), .val (.int cnt), .val (.int fl), .val (.int z6), .val (.int (3 : Int32)), .val (.int z7), .val (.int z8), .val (.int z9), .val (.int z10), .val (.ref b11), .val (.ref bx185), .val (.int (1 : Int32))] [(.int z8), (.int z7), (.int (3 : Int32)), (.int init), (.int (0 : Int32)), (.ref b11)])) _
      refine XS.iload X186.here hx rfl (hb hby at_311) rfl ?_
      show Steps p.tables e below (T186.setTop (mkF m 313 #[.val (.int init), .val (.int sq), .val (.int cnt), .val (.int fl), .val (.int z6), .val (.int (3 : Int32)), .val (.int z7), .val (.int z8), .val (.int z9), .val (.int z10), .val (.ref b11), .val (.ref bx185), .val (.int (1 : Int32))] [(.int z9), (.int z8), (.int z7), (.int (3 : Int32)), (.int init), (.int (0 : Int32)), (.ref b11)])) _
      refine XS.iload X186.here hx rfl (hb hby at_313) rfl ?_
      show Steps p.tables e below (T186.setTop (mkF m 315 #[.val (.int init), .val (.int sq), .val (.int cnt), .val (.int fl), .val (.int z6), .val (.int (3 : Int32)), .val (.int z7), .val (.int z8), .val (.int z9), .val (.int z10), .val (.ref b11), .val (.ref bx185), .val (.int (1 : Int32))] [(.int z10), (.int z9), (.int z8), (.int z7), (.int (3 : Int32)), (.int init), (.int (0 : Int32)), (.ref b11)])) _
      refine XS.iload X186.here hx rfl (hb hby at_315) rfl ?_
      show Steps p.tables e below (T186.setTop (mkF m 317 #[.val (.int init), .val (.int sq), .val (.int cnt), .val (.int fl), .val (.int z6), .val (.int (3 : Int32)), .val (.int z7), .val (.int z8), .val (.int z9), .val (.int z10), .val (.ref b11), .val (.ref bx185), .val (.int (1 : Int32))] [(.int z6), (.int z10), (.int z9), (.int z8), (.int z7), (.int (3 : Int32)), (.int init), (.int (0 : Int32)), (.ref b11)])) _
      refine st201 _ ?_
      show Steps p.tables e below (T201.setTop (mkF m 320 #[.val (.int init), .val (.int sq), .val (.int cnt), .val (.int fl), .val (.int z6), .val (.int (3 : Int32)), .val (.int z7), .val (.int z8), .val (.int z9), .val (.int z10), .val (.ref b11), .val (.ref bx185), .val (.int (1 : Int32))] [(.int (atF (0 : Int32) init (3 : Int32) z7 z8 z9 z10 z6 xv200))])) _
      refine XS.ifNo X201.here hx rfl (hb hby at_320) rfl ((if0 _ _).trans (feq hd202).1) ?_
      show Steps p.tables e below (T201.setTop (mkF m 323 #[.val (.int init), .val (.int sq), .val (.int cnt), .val (.int fl), .val (.int z6), .val (.int (3 : Int32)), .val (.int z7), .val (.int z8), .val (.int z9), .val (.int z10), .val (.ref b11), .val (.ref bx185), .val (.int (1 : Int32))] [])) _
      refine XS.aload X201.here hx rfl (hb hby at_323) rfl rfl ?_
      show Steps p.tables e below (T201.setTop (mkF m 325 #[.val (.int init), .val (.int sq), .val (.int cnt), .val (.int fl), .val (.int z6), .val (.int (3 : Int32)), .val (.int z7), .val (.int z8), .val (.int z9), .val (.int z10), .val (.ref b11), .val (.ref bx185), .val (.int (1 : Int32))] [(.ref b11)])) _
      refine XS.iconst X201.here hx rfl (hb hby at_325) ?_
      show Steps p.tables e below (T201.setTop (mkF m 326 #[.val (.int init), .val (.int sq), .val (.int cnt), .val (.int fl), .val (.int z6), .val (.int (3 : Int32)), .val (.int z7), .val (.int z8), .val (.int z9), .val (.int z10), .val (.ref b11), .val (.ref bx185), .val (.int (1 : Int32))] [(.int (1 : Int32)), (.ref b11)])) _
      refine XS.iloadN X201.here hx rfl (hb hby at_326) rfl ?_
      show Steps p.tables e below (T201.setTop (mkF m 327 #[.val (.int init), .val (.int sq), .val (.int cnt), .val (.int fl), .val (.int z6), .val (.int (3 : Int32)), .val (.int z7), .val (.int z8), .val (.int z9), .val (.int z10), .val (.ref b11), .val (.ref bx185), .val (.int (1 : Int32))] [(.int init), (.int (1 : Int32)), (.ref b11)])) _
      refine XS.iload X201.here hx rfl (hb hby at_327) rfl ?_
      show Steps p.tables e below (T201.setTop (mkF m 329 #[.val (.int init), .val (.int sq), .val (.int cnt), .val (.int fl), .val (.int z6), .val (.int (3 : Int32)), .val (.int z7), .val (.int z8), .val (.int z9), .val (.int z10), .val (.ref b11), .val (.ref bx185), .val (.int (1 : Int32))] [(.int (3 : Int32)), (.int init), (.int (1 : Int32)), (.ref b11)])) _
      refine XS.iload X201.here hx rfl (hb hby at_329) rfl ?_
      show Steps p.tables e below (T201.setTop (mkF m 331 #[.val (.int init), .val (.int sq), .val (.int cnt), .val (.int fl), .val (.int z6), .val (.int (3 : Int32)), .val (.int z7), .val (.int z8), .val (.int z9), .val (.int z10), .val (.ref b11), .val (.ref bx185), .val (.int (1 : Int32))] [(.int z7), (.int (3 : Int32)), (.int init), (.int (1 : Int32)), (.ref b11)])) _
      refine XS.iload X201.here hx rfl (hb hby at_331) rfl ?_
      show Steps p.tables e below (T201.setTop (mkF m 333 #[.val (.int init), .val (.int sq), .val (.int cnt), .val (.int fl), .val (.int z6), .val (.int (3 : Int32)), .val (.int z7), .val (.int z8), .val (.int z9), .val (.int z10), .val (.ref b11), .val (.ref bx185), .val (.int (1 : Int32))] [(.int z8), (.int z7), (.int (3 : Int32)), (.int init), (.int (1 : Int32)), (.ref b11)])) _
      refine XS.iload X201.here hx rfl (hb hby at_333) rfl ?_
      show Steps p.tables e below (T201.setTop (mkF m 335 #[.val (.int init), .val (.int sq), .val (.int cnt), .val (.int fl), .val (.int z6), .val (.int (3 : Int32)), .val (.int z7), .val (.int z8), .val (.int z9), .val (.int z10), .val (.ref b11), .val (.ref bx185), .val (.int (1 : Int32))] [(.int z9), (.int z8), (.int z7), (.int (3 : Int32)), (.int init), (.int (1 : Int32)), (.ref b11)])) _
      refine XS.iload X201.here hx rfl (hb hby at_335) rfl ?_
      show Steps p.tables e below (T201.setTop (mkF m 337 #[.val (.int init), .val (.int sq), .val (.int cnt), .val (.int fl), .val (.int z6), .val (.int (3 : Int32)), .val (.int z7), .val (.int z8), .val (.int z9), .val (.int z10), .val (.ref b11), .val (.ref bx185), .val (.int (1 : Int32))] [(.int z10), (.int z9), (.int z8), (.int z7), (.int (3 : Int32)), (.int init), (.int (1 : Int32)), (.ref b11)])) _
      refine XS.iload X201.here hx rfl (hb hby at_337) rfl ?_
      show Steps p.tables e below (T201.setTop (mkF m 339 #[.val (.int init), .val (.int sq), .val (.int cnt), .val (.int fl), .val (.int z6), .val (.int (3 : Int32)), .val (.int z7), .val (.int z8), .val (.int z9), .val (.int z10), .val (.ref b11), .val (.ref bx185), .val (.int (1 : Int32))] [(.int z6), (.int z10), (.int z9), (.int z8), (.int z7), (.int (3 : Int32)), (.int init), (.int (1 : Int32)), (.ref b11)])) _
      refine st204 _ ?_
      show Steps p.tables e below (T204.setTop (mkF m 342 #[.val (.int init), .val (.int sq), .val (.int cnt), .val (.int fl), .val (.int z6), .val (.int (3 : Int32)), .val (.int z7), .val (.int z8), .val (.int z9), .val (.int z10), .val (.ref b11), .val (.ref bx185), .val (.int (1 : Int32))] [(.int (atF (1 : Int32) init (3 : Int32) z7 z8 z9 z10 z6 xv203))])) _
      refine XS.ifNo X204.here hx rfl (hb hby at_342) rfl ((if0 _ _).trans (feq hd205).1) ?_
      show Steps p.tables e below (T204.setTop (mkF m 345 #[.val (.int init), .val (.int sq), .val (.int cnt), .val (.int fl), .val (.int z6), .val (.int (3 : Int32)), .val (.int z7), .val (.int z8), .val (.int z9), .val (.int z10), .val (.ref b11), .val (.ref bx185), .val (.int (1 : Int32))] [])) _
      refine XS.aload X204.here hx rfl (hb hby at_345) rfl rfl ?_
      show Steps p.tables e below (T204.setTop (mkF m 347 #[.val (.int init), .val (.int sq), .val (.int cnt), .val (.int fl), .val (.int z6), .val (.int (3 : Int32)), .val (.int z7), .val (.int z8), .val (.int z9), .val (.int z10), .val (.ref b11), .val (.ref bx185), .val (.int (1 : Int32))] [(.ref b11)])) _
      refine XS.iconst X204.here hx rfl (hb hby at_347) ?_
      show Steps p.tables e below (T204.setTop (mkF m 348 #[.val (.int init), .val (.int sq), .val (.int cnt), .val (.int fl), .val (.int z6), .val (.int (3 : Int32)), .val (.int z7), .val (.int z8), .val (.int z9), .val (.int z10), .val (.ref b11), .val (.ref bx185), .val (.int (1 : Int32))] [(.int (2 : Int32)), (.ref b11)])) _
      refine XS.iloadN X204.here hx rfl (hb hby at_348) rfl ?_
      show Steps p.tables e below (T204.setTop (mkF m 349 #[.val (.int init), .val (.int sq), .val (.int cnt), .val (.int fl), .val (.int z6), .val (.int (3 : Int32)), .val (.int z7), .val (.int z8), .val (.int z9), .val (.int z10), .val (.ref b11), .val (.ref bx185), .val (.int (1 : Int32))] [(.int init), (.int (2 : Int32)), (.ref b11)])) _
      refine XS.iload X204.here hx rfl (hb hby at_349) rfl ?_
      show Steps p.tables e below (T204.setTop (mkF m 351 #[.val (.int init), .val (.int sq), .val (.int cnt), .val (.int fl), .val (.int z6), .val (.int (3 : Int32)), .val (.int z7), .val (.int z8), .val (.int z9), .val (.int z10), .val (.ref b11), .val (.ref bx185), .val (.int (1 : Int32))] [(.int (3 : Int32)), (.int init), (.int (2 : Int32)), (.ref b11)])) _
      refine XS.iload X204.here hx rfl (hb hby at_351) rfl ?_
      show Steps p.tables e below (T204.setTop (mkF m 353 #[.val (.int init), .val (.int sq), .val (.int cnt), .val (.int fl), .val (.int z6), .val (.int (3 : Int32)), .val (.int z7), .val (.int z8), .val (.int z9), .val (.int z10), .val (.ref b11), .val (.ref bx185), .val (.int (1 : Int32))] [(.int z7), (.int (3 : Int32)), (.int init), (.int (2 : Int32)), (.ref b11)])) _
      refine XS.iload X204.here hx rfl (hb hby at_353) rfl ?_
      show Steps p.tables e below (T204.setTop (mkF m 355 #[.val (.int init), .val (.int sq), .val (.int cnt), .val (.int fl), .val (.int z6), .val (.int (3 : Int32)), .val (.int z7), .val (.int z8), .val (.int z9), .val (.int z10), .val (.ref b11), .val (.ref bx185), .val (.int (1 : Int32))] [(.int z8), (.int z7), (.int (3 : Int32)), (.int init), (.int (2 : Int32)), (.ref b11)])) _
      refine XS.iload X204.here hx rfl (hb hby at_355) rfl ?_
      show Steps p.tables e below (T204.setTop (mkF m 357 #[.val (.int init), .val (.int sq), .val (.int cnt), .val (.int fl), .val (.int z6), .val (.int (3 : Int32)), .val (.int z7), .val (.int z8), .val (.int z9), .val (.int z10), .val (.ref b11), .val (.ref bx185), .val (.int (1 : Int32))] [(.int z9), (.int z8), (.int z7), (.int (3 : Int32)), (.int init), (.int (2 : Int32)), (.ref b11)])) _
      refine XS.iload X204.here hx rfl (hb hby at_357) rfl ?_
      show Steps p.tables e below (T204.setTop (mkF m 359 #[.val (.int init), .val (.int sq), .val (.int cnt), .val (.int fl), .val (.int z6), .val (.int (3 : Int32)), .val (.int z7), .val (.int z8), .val (.int z9), .val (.int z10), .val (.ref b11), .val (.ref bx185), .val (.int (1 : Int32))] [(.int z10), (.int z9), (.int z8), (.int z7), (.int (3 : Int32)), (.int init), (.int (2 : Int32)), (.ref b11)])) _
      refine XS.iload X204.here hx rfl (hb hby at_359) rfl ?_
      show Steps p.tables e below (T204.setTop (mkF m 361 #[.val (.int init), .val (.int sq), .val (.int cnt), .val (.int fl), .val (.int z6), .val (.int (3 : Int32)), .val (.int z7), .val (.int z8), .val (.int z9), .val (.int z10), .val (.ref b11), .val (.ref bx185), .val (.int (1 : Int32))] [(.int z6), (.int z10), (.int z9), (.int z8), (.int z7), (.int (3 : Int32)), (.int init), (.int (2 : Int32)), (.ref b11)])) _
      refine st207 _ ?_
      show Steps p.tables e below (T207.setTop (mkF m 364 #[.val (.int init), .val (.int sq), .val (.int cnt), .val (.int fl), .val (.int z6), .val (.int (3 : Int32)), .val (.int z7), .val (.int z8), .val (.int z9), .val (.int z10), .val (.ref b11), .val (.ref bx185), .val (.int (1 : Int32))] [(.int (atF (2 : Int32) init (3 : Int32) z7 z8 z9 z10 z6 xv206))])) _
      refine XS.ifNo X207.here hx rfl (hb hby at_364) rfl ((if0 _ _).trans (feq hd208).1) ?_
      show Steps p.tables e below (T207.setTop (mkF m 367 #[.val (.int init), .val (.int sq), .val (.int cnt), .val (.int fl), .val (.int z6), .val (.int (3 : Int32)), .val (.int z7), .val (.int z8), .val (.int z9), .val (.int z10), .val (.ref b11), .val (.ref bx185), .val (.int (1 : Int32))] [])) _
      refine XS.aload X207.here hx rfl (hb hby at_367) rfl rfl ?_
      show Steps p.tables e below (T207.setTop (mkF m 369 #[.val (.int init), .val (.int sq), .val (.int cnt), .val (.int fl), .val (.int z6), .val (.int (3 : Int32)), .val (.int z7), .val (.int z8), .val (.int z9), .val (.int z10), .val (.ref b11), .val (.ref bx185), .val (.int (1 : Int32))] [(.ref b11)])) _
      refine XS.iconst X207.here hx rfl (hb hby at_369) ?_
      show Steps p.tables e below (T207.setTop (mkF m 370 #[.val (.int init), .val (.int sq), .val (.int cnt), .val (.int fl), .val (.int z6), .val (.int (3 : Int32)), .val (.int z7), .val (.int z8), .val (.int z9), .val (.int z10), .val (.ref b11), .val (.ref bx185), .val (.int (1 : Int32))] [(.int (3 : Int32)), (.ref b11)])) _
      refine XS.iloadN X207.here hx rfl (hb hby at_370) rfl ?_
      show Steps p.tables e below (T207.setTop (mkF m 371 #[.val (.int init), .val (.int sq), .val (.int cnt), .val (.int fl), .val (.int z6), .val (.int (3 : Int32)), .val (.int z7), .val (.int z8), .val (.int z9), .val (.int z10), .val (.ref b11), .val (.ref bx185), .val (.int (1 : Int32))] [(.int init), (.int (3 : Int32)), (.ref b11)])) _
      refine XS.iload X207.here hx rfl (hb hby at_371) rfl ?_
      show Steps p.tables e below (T207.setTop (mkF m 373 #[.val (.int init), .val (.int sq), .val (.int cnt), .val (.int fl), .val (.int z6), .val (.int (3 : Int32)), .val (.int z7), .val (.int z8), .val (.int z9), .val (.int z10), .val (.ref b11), .val (.ref bx185), .val (.int (1 : Int32))] [(.int (3 : Int32)), (.int init), (.int (3 : Int32)), (.ref b11)])) _
      refine XS.iload X207.here hx rfl (hb hby at_373) rfl ?_
      show Steps p.tables e below (T207.setTop (mkF m 375 #[.val (.int init), .val (.int sq), .val (.int cnt), .val (.int fl), .val (.int z6), .val (.int (3 : Int32)), .val (.int z7), .val (.int z8), .val (.int z9), .val (.int z10), .val (.ref b11), .val (.ref bx185), .val (.int (1 : Int32))] [(.int z7), (.int (3 : Int32)), (.int init), (.int (3 : Int32)), (.ref b11)])) _
      refine XS.iload X207.here hx rfl (hb hby at_375) rfl ?_
      show Steps p.tables e below (T207.setTop (mkF m 377 #[.val (.int init), .val (.int sq), .val (.int cnt), .val (.int fl), .val (.int z6), .val (.int (3 : Int32)), .val (.int z7), .val (.int z8), .val (.int z9), .val (.int z10), .val (.ref b11), .val (.ref bx185), .val (.int (1 : Int32))] [(.int z8), (.int z7), (.int (3 : Int32)), (.int init), (.int (3 : Int32)), (.ref b11)])) _
      refine XS.iload X207.here hx rfl (hb hby at_377) rfl ?_
      show Steps p.tables e below (T207.setTop (mkF m 379 #[.val (.int init), .val (.int sq), .val (.int cnt), .val (.int fl), .val (.int z6), .val (.int (3 : Int32)), .val (.int z7), .val (.int z8), .val (.int z9), .val (.int z10), .val (.ref b11), .val (.ref bx185), .val (.int (1 : Int32))] [(.int z9), (.int z8), (.int z7), (.int (3 : Int32)), (.int init), (.int (3 : Int32)), (.ref b11)])) _
      refine XS.iload X207.here hx rfl (hb hby at_379) rfl ?_
      show Steps p.tables e below (T207.setTop (mkF m 381 #[.val (.int init), .val (.int sq), .val (.int cnt), .val (.int fl), .val (.int z6), .val (.int (3 : Int32)), .val (.int z7), .val (.int z8), .val (.int z9), .val (.int z10), .val (.ref b11), .val (.ref bx185), .val (.int (1 : Int32))] [(.int z10), (.int z9), (.int z8), (.int z7), (.int (3 : Int32)), (.int init), (.int (3 : Int32)), (.ref b11)])) _
      refine XS.iload X207.here hx rfl (hb hby at_381) rfl ?_
      show Steps p.tables e below (T207.setTop (mkF m 383 #[.val (.int init), .val (.int sq), .val (.int cnt), .val (.int fl), .val (.int z6), .val (.int (3 : Int32)), .val (.int z7), .val (.int z8), .val (.int z9), .val (.int z10), .val (.ref b11), .val (.ref bx185), .val (.int (1 : Int32))] [(.int z6), (.int z10), (.int z9), (.int z8), (.int z7), (.int (3 : Int32)), (.int init), (.int (3 : Int32)), (.ref b11)])) _
      refine st210 _ ?_
      show Steps p.tables e below (T210.setTop (mkF m 386 #[.val (.int init), .val (.int sq), .val (.int cnt), .val (.int fl), .val (.int z6), .val (.int (3 : Int32)), .val (.int z7), .val (.int z8), .val (.int z9), .val (.int z10), .val (.ref b11), .val (.ref bx185), .val (.int (1 : Int32))] [(.int (atF (3 : Int32) init (3 : Int32) z7 z8 z9 z10 z6 xv209))])) _
      refine XS.ifNo X210.here hx rfl (hb hby at_386) rfl ((if0 _ _).trans (feq hd211).1) ?_
      show Steps p.tables e below (T210.setTop (mkF m 389 #[.val (.int init), .val (.int sq), .val (.int cnt), .val (.int fl), .val (.int z6), .val (.int (3 : Int32)), .val (.int z7), .val (.int z8), .val (.int z9), .val (.int z10), .val (.ref b11), .val (.ref bx185), .val (.int (1 : Int32))] [])) _
      refine XS.aload X210.here hx rfl (hb hby at_389) rfl rfl ?_
      show Steps p.tables e below (T210.setTop (mkF m 391 #[.val (.int init), .val (.int sq), .val (.int cnt), .val (.int fl), .val (.int z6), .val (.int (3 : Int32)), .val (.int z7), .val (.int z8), .val (.int z9), .val (.int z10), .val (.ref b11), .val (.ref bx185), .val (.int (1 : Int32))] [(.ref b11)])) _
      refine XS.iconst X210.here hx rfl (hb hby at_391) ?_
      show Steps p.tables e below (T210.setTop (mkF m 392 #[.val (.int init), .val (.int sq), .val (.int cnt), .val (.int fl), .val (.int z6), .val (.int (3 : Int32)), .val (.int z7), .val (.int z8), .val (.int z9), .val (.int z10), .val (.ref b11), .val (.ref bx185), .val (.int (1 : Int32))] [(.int (4 : Int32)), (.ref b11)])) _
      refine XS.iloadN X210.here hx rfl (hb hby at_392) rfl ?_
      show Steps p.tables e below (T210.setTop (mkF m 393 #[.val (.int init), .val (.int sq), .val (.int cnt), .val (.int fl), .val (.int z6), .val (.int (3 : Int32)), .val (.int z7), .val (.int z8), .val (.int z9), .val (.int z10), .val (.ref b11), .val (.ref bx185), .val (.int (1 : Int32))] [(.int init), (.int (4 : Int32)), (.ref b11)])) _
      refine XS.iload X210.here hx rfl (hb hby at_393) rfl ?_
      show Steps p.tables e below (T210.setTop (mkF m 395 #[.val (.int init), .val (.int sq), .val (.int cnt), .val (.int fl), .val (.int z6), .val (.int (3 : Int32)), .val (.int z7), .val (.int z8), .val (.int z9), .val (.int z10), .val (.ref b11), .val (.ref bx185), .val (.int (1 : Int32))] [(.int (3 : Int32)), (.int init), (.int (4 : Int32)), (.ref b11)])) _
      refine XS.iload X210.here hx rfl (hb hby at_395) rfl ?_
      show Steps p.tables e below (T210.setTop (mkF m 397 #[.val (.int init), .val (.int sq), .val (.int cnt), .val (.int fl), .val (.int z6), .val (.int (3 : Int32)), .val (.int z7), .val (.int z8), .val (.int z9), .val (.int z10), .val (.ref b11), .val (.ref bx185), .val (.int (1 : Int32))] [(.int z7), (.int (3 : Int32)), (.int init), (.int (4 : Int32)), (.ref b11)])) _
      refine XS.iload X210.here hx rfl (hb hby at_397) rfl ?_
      show Steps p.tables e below (T210.setTop (mkF m 399 #[.val (.int init), .val (.int sq), .val (.int cnt), .val (.int fl), .val (.int z6), .val (.int (3 : Int32)), .val (.int z7), .val (.int z8), .val (.int z9), .val (.int z10), .val (.ref b11), .val (.ref bx185), .val (.int (1 : Int32))] [(.int z8), (.int z7), (.int (3 : Int32)), (.int init), (.int (4 : Int32)), (.ref b11)])) _
      refine XS.iload X210.here hx rfl (hb hby at_399) rfl ?_
      show Steps p.tables e below (T210.setTop (mkF m 401 #[.val (.int init), .val (.int sq), .val (.int cnt), .val (.int fl), .val (.int z6), .val (.int (3 : Int32)), .val (.int z7), .val (.int z8), .val (.int z9), .val (.int z10), .val (.ref b11), .val (.ref bx185), .val (.int (1 : Int32))] [(.int z9), (.int z8), (.int z7), (.int (3 : Int32)), (.int init), (.int (4 : Int32)), (.ref b11)])) _
      refine XS.iload X210.here hx rfl (hb hby at_401) rfl ?_
      show Steps p.tables e below (T210.setTop (mkF m 403 #[.val (.int init), .val (.int sq), .val (.int cnt), .val (.int fl), .val (.int z6), .val (.int (3 : Int32)), .val (.int z7), .val (.int z8), .val (.int z9), .val (.int z10), .val (.ref b11), .val (.ref bx185), .val (.int (1 : Int32))] [(.int z10), (.int z9), (.int z8), (.int z7), (.int (3 : Int32)), (.int init), (.int (4 : Int32)), (.ref b11)])) _
      refine XS.iload X210.here hx rfl (hb hby at_403) rfl ?_
      show Steps p.tables e below (T210.setTop (mkF m 405 #[.val (.int init), .val (.int sq), .val (.int cnt), .val (.int fl), .val (.int z6), .val (.int (3 : Int32)), .val (.int z7), .val (.int z8), .val (.int z9), .val (.int z10), .val (.ref b11), .val (.ref bx185), .val (.int (1 : Int32))] [(.int z6), (.int z10), (.int z9), (.int z8), (.int z7), (.int (3 : Int32)), (.int init), (.int (4 : Int32)), (.ref b11)])) _
      refine st213 _ ?_
      show Steps p.tables e below (T213.setTop (mkF m 408 #[.val (.int init), .val (.int sq), .val (.int cnt), .val (.int fl), .val (.int z6), .val (.int (3 : Int32)), .val (.int z7), .val (.int z8), .val (.int z9), .val (.int z10), .val (.ref b11), .val (.ref bx185), .val (.int (1 : Int32))] [(.int (atF (4 : Int32) init (3 : Int32) z7 z8 z9 z10 z6 xv212))])) _
      refine XS.ifNo X213.here hx rfl (hb hby at_408) rfl ((if0 _ _).trans (feq hd214).1) ?_
      show Steps p.tables e below (T213.setTop (mkF m 411 #[.val (.int init), .val (.int sq), .val (.int cnt), .val (.int fl), .val (.int z6), .val (.int (3 : Int32)), .val (.int z7), .val (.int z8), .val (.int z9), .val (.int z10), .val (.ref b11), .val (.ref bx185), .val (.int (1 : Int32))] [])) _
      refine XS.aload X213.here hx rfl (hb hby at_411) rfl rfl ?_
      show Steps p.tables e below (T213.setTop (mkF m 413 #[.val (.int init), .val (.int sq), .val (.int cnt), .val (.int fl), .val (.int z6), .val (.int (3 : Int32)), .val (.int z7), .val (.int z8), .val (.int z9), .val (.int z10), .val (.ref b11), .val (.ref bx185), .val (.int (1 : Int32))] [(.ref b11)])) _
      refine XS.iconst X213.here hx rfl (hb hby at_413) ?_
      show Steps p.tables e below (T213.setTop (mkF m 414 #[.val (.int init), .val (.int sq), .val (.int cnt), .val (.int fl), .val (.int z6), .val (.int (3 : Int32)), .val (.int z7), .val (.int z8), .val (.int z9), .val (.int z10), .val (.ref b11), .val (.ref bx185), .val (.int (1 : Int32))] [(.int (5 : Int32)), (.ref b11)])) _
      refine XS.iloadN X213.here hx rfl (hb hby at_414) rfl ?_
      show Steps p.tables e below (T213.setTop (mkF m 415 #[.val (.int init), .val (.int sq), .val (.int cnt), .val (.int fl), .val (.int z6), .val (.int (3 : Int32)), .val (.int z7), .val (.int z8), .val (.int z9), .val (.int z10), .val (.ref b11), .val (.ref bx185), .val (.int (1 : Int32))] [(.int init), (.int (5 : Int32)), (.ref b11)])) _
      refine XS.iload X213.here hx rfl (hb hby at_415) rfl ?_
      show Steps p.tables e below (T213.setTop (mkF m 417 #[.val (.int init), .val (.int sq), .val (.int cnt), .val (.int fl), .val (.int z6), .val (.int (3 : Int32)), .val (.int z7), .val (.int z8), .val (.int z9), .val (.int z10), .val (.ref b11), .val (.ref bx185), .val (.int (1 : Int32))] [(.int (3 : Int32)), (.int init), (.int (5 : Int32)), (.ref b11)])) _
      refine XS.iload X213.here hx rfl (hb hby at_417) rfl ?_
      show Steps p.tables e below (T213.setTop (mkF m 419 #[.val (.int init), .val (.int sq), .val (.int cnt), .val (.int fl), .val (.int z6), .val (.int (3 : Int32)), .val (.int z7), .val (.int z8), .val (.int z9), .val (.int z10), .val (.ref b11), .val (.ref bx185), .val (.int (1 : Int32))] [(.int z7), (.int (3 : Int32)), (.int init), (.int (5 : Int32)), (.ref b11)])) _
      refine XS.iload X213.here hx rfl (hb hby at_419) rfl ?_
      show Steps p.tables e below (T213.setTop (mkF m 421 #[.val (.int init), .val (.int sq), .val (.int cnt), .val (.int fl), .val (.int z6), .val (.int (3 : Int32)), .val (.int z7), .val (.int z8), .val (.int z9), .val (.int z10), .val (.ref b11), .val (.ref bx185), .val (.int (1 : Int32))] [(.int z8), (.int z7), (.int (3 : Int32)), (.int init), (.int (5 : Int32)), (.ref b11)])) _
      refine XS.iload X213.here hx rfl (hb hby at_421) rfl ?_
      show Steps p.tables e below (T213.setTop (mkF m 423 #[.val (.int init), .val (.int sq), .val (.int cnt), .val (.int fl), .val (.int z6), .val (.int (3 : Int32)), .val (.int z7), .val (.int z8), .val (.int z9), .val (.int z10), .val (.ref b11), .val (.ref bx185), .val (.int (1 : Int32))] [(.int z9), (.int z8), (.int z7), (.int (3 : Int32)), (.int init), (.int (5 : Int32)), (.ref b11)])) _
      refine XS.iload X213.here hx rfl (hb hby at_423) rfl ?_
      show Steps p.tables e below (T213.setTop (mkF m 425 #[.val (.int init), .val (.int sq), .val (.int cnt), .val (.int fl), .val (.int z6), .val (.int (3 : Int32)), .val (.int z7), .val (.int z8), .val (.int z9), .val (.int z10), .val (.ref b11), .val (.ref bx185), .val (.int (1 : Int32))] [(.int z10), (.int z9), (.int z8), (.int z7), (.int (3 : Int32)), (.int init), (.int (5 : Int32)), (.ref b11)])) _
      refine XS.iload X213.here hx rfl (hb hby at_425) rfl ?_
      show Steps p.tables e below (T213.setTop (mkF m 427 #[.val (.int init), .val (.int sq), .val (.int cnt), .val (.int fl), .val (.int z6), .val (.int (3 : Int32)), .val (.int z7), .val (.int z8), .val (.int z9), .val (.int z10), .val (.ref b11), .val (.ref bx185), .val (.int (1 : Int32))] [(.int z6), (.int z10), (.int z9), (.int z8), (.int z7), (.int (3 : Int32)), (.int init), (.int (5 : Int32)), (.ref b11)])) _
      refine st216 _ ?_
      show Steps p.tables e below (T216.setTop (mkF m 430 #[.val (.int init), .val (.int sq), .val (.int cnt), .val (.int fl), .val (.int z6), .val (.int (3 : Int32)), .val (.int z7), .val (.int z8), .val (.int z9), .val (.int z10), .val (.ref b11), .val (.ref bx185), .val (.int (1 : Int32))] [(.int (atF (5 : Int32) init (3 : Int32) z7 z8 z9 z10 z6 xv215))])) _
      refine XS.ifNo X216.here hx rfl (hb hby at_430) rfl ((if0 _ _).trans (feq hd217).1) ?_
      show Steps p.tables e below (T216.setTop (mkF m 433 #[.val (.int init), .val (.int sq), .val (.int cnt), .val (.int fl), .val (.int z6), .val (.int (3 : Int32)), .val (.int z7), .val (.int z8), .val (.int z9), .val (.int z10), .val (.ref b11), .val (.ref bx185), .val (.int (1 : Int32))] [])) _
      refine XS.aload X216.here hx rfl (hb hby at_433) rfl rfl ?_
      show Steps p.tables e below (T216.setTop (mkF m 435 #[.val (.int init), .val (.int sq), .val (.int cnt), .val (.int fl), .val (.int z6), .val (.int (3 : Int32)), .val (.int z7), .val (.int z8), .val (.int z9), .val (.int z10), .val (.ref b11), .val (.ref bx185), .val (.int (1 : Int32))] [(.ref b11)])) _
      refine XS.bipush X216.here hx rfl (hb hby at_435) ?_
      show Steps p.tables e below (T216.setTop (mkF m 437 #[.val (.int init), .val (.int sq), .val (.int cnt), .val (.int fl), .val (.int z6), .val (.int (3 : Int32)), .val (.int z7), .val (.int z8), .val (.int z9), .val (.int z10), .val (.ref b11), .val (.ref bx185), .val (.int (1 : Int32))] [(.int (6 : Int32)), (.ref b11)])) _
      refine XS.iloadN X216.here hx rfl (hb hby at_437) rfl ?_
      show Steps p.tables e below (T216.setTop (mkF m 438 #[.val (.int init), .val (.int sq), .val (.int cnt), .val (.int fl), .val (.int z6), .val (.int (3 : Int32)), .val (.int z7), .val (.int z8), .val (.int z9), .val (.int z10), .val (.ref b11), .val (.ref bx185), .val (.int (1 : Int32))] [(.int init), (.int (6 : Int32)), (.ref b11)])) _
      refine XS.iload X216.here hx rfl (hb hby at_438) rfl ?_
      show Steps p.tables e below (T216.setTop (mkF m 440 #[.val (.int init), .val (.int sq), .val (.int cnt), .val (.int fl), .val (.int z6), .val (.int (3 : Int32)), .val (.int z7), .val (.int z8), .val (.int z9), .val (.int z10), .val (.ref b11), .val (.ref bx185), .val (.int (1 : Int32))] [(.int (3 : Int32)), (.int init), (.int (6 : Int32)), (.ref b11)])) _
      refine XS.iload X216.here hx rfl (hb hby at_440) rfl ?_
      show Steps p.tables e below (T216.setTop (mkF m 442 #[.val (.int init), .val (.int sq), .val (.int cnt), .val (.int fl), .val (.int z6), .val (.int (3 : Int32)), .val (.int z7), .val (.int z8), .val (.int z9), .val (.int z10), .val (.ref b11), .val (.ref bx185), .val (.int (1 : Int32))] [(.int z7), (.int (3 : Int32)), (.int init), (.int (6 : Int32)), (.ref b11)])) _
      refine XS.iload X216.here hx rfl (hb hby at_442) rfl ?_
      show Steps p.tables e below (T216.setTop (mkF m 444 #[.val (.int init), .val (.int sq), .val (.int cnt), .val (.int fl), .val (.int z6), .val (.int (3 : Int32)), .val (.int z7), .val (.int z8), .val (.int z9), .val (.int z10), .val (.ref b11), .val (.ref bx185), .val (.int (1 : Int32))] [(.int z8), (.int z7), (.int (3 : Int32)), (.int init), (.int (6 : Int32)), (.ref b11)])) _
      refine XS.iload X216.here hx rfl (hb hby at_444) rfl ?_
      show Steps p.tables e below (T216.setTop (mkF m 446 #[.val (.int init), .val (.int sq), .val (.int cnt), .val (.int fl), .val (.int z6), .val (.int (3 : Int32)), .val (.int z7), .val (.int z8), .val (.int z9), .val (.int z10), .val (.ref b11), .val (.ref bx185), .val (.int (1 : Int32))] [(.int z9), (.int z8), (.int z7), (.int (3 : Int32)), (.int init), (.int (6 : Int32)), (.ref b11)])) _
      refine XS.iload X216.here hx rfl (hb hby at_446) rfl ?_
      show Steps p.tables e below (T216.setTop (mkF m 448 #[.val (.int init), .val (.int sq), .val (.int cnt), .val (.int fl), .val (.int z6), .val (.int (3 : Int32)), .val (.int z7), .val (.int z8), .val (.int z9), .val (.int z10), .val (.ref b11), .val (.ref bx185), .val (.int (1 : Int32))] [(.int z10), (.int z9), (.int z8), (.int z7), (.int (3 : Int32)), (.int init), (.int (6 : Int32)), (.ref b11)])) _
      refine XS.iload X216.here hx rfl (hb hby at_448) rfl ?_
      show Steps p.tables e below (T216.setTop (mkF m 450 #[.val (.int init), .val (.int sq), .val (.int cnt), .val (.int fl), .val (.int z6), .val (.int (3 : Int32)), .val (.int z7), .val (.int z8), .val (.int z9), .val (.int z10), .val (.ref b11), .val (.ref bx185), .val (.int (1 : Int32))] [(.int z6), (.int z10), (.int z9), (.int z8), (.int z7), (.int (3 : Int32)), (.int init), (.int (6 : Int32)), (.ref b11)])) _
      refine st219 _ ?_
      show Steps p.tables e below (T219.setTop (mkF m 453 #[.val (.int init), .val (.int sq), .val (.int cnt), .val (.int fl), .val (.int z6), .val (.int (3 : Int32)), .val (.int z7), .val (.int z8), .val (.int z9), .val (.int z10), .val (.ref b11), .val (.ref bx185), .val (.int (1 : Int32))] [(.int (atF (6 : Int32) init (3 : Int32) z7 z8 z9 z10 z6 xv218))])) _
      refine XS.ifNo X219.here hx rfl (hb hby at_453) rfl ((if0 _ _).trans (feq hd220).1) ?_
      show Steps p.tables e below (T219.setTop (mkF m 456 #[.val (.int init), .val (.int sq), .val (.int cnt), .val (.int fl), .val (.int z6), .val (.int (3 : Int32)), .val (.int z7), .val (.int z8), .val (.int z9), .val (.int z10), .val (.ref b11), .val (.ref bx185), .val (.int (1 : Int32))] [])) _
      refine XS.aload X219.here hx rfl (hb hby at_456) rfl rfl ?_
      show Steps p.tables e below (T219.setTop (mkF m 458 #[.val (.int init), .val (.int sq), .val (.int cnt), .val (.int fl), .val (.int z6), .val (.int (3 : Int32)), .val (.int z7), .val (.int z8), .val (.int z9), .val (.int z10), .val (.ref b11), .val (.ref bx185), .val (.int (1 : Int32))] [(.ref b11)])) _
      refine XS.bipush X219.here hx rfl (hb hby at_458) ?_
      show Steps p.tables e below (T219.setTop (mkF m 460 #[.val (.int init), .val (.int sq), .val (.int cnt), .val (.int fl), .val (.int z6), .val (.int (3 : Int32)), .val (.int z7), .val (.int z8), .val (.int z9), .val (.int z10), .val (.ref b11), .val (.ref bx185), .val (.int (1 : Int32))] [(.int (7 : Int32)), (.ref b11)])) _
      refine XS.iloadN X219.here hx rfl (hb hby at_460) rfl ?_
      show Steps p.tables e below (T219.setTop (mkF m 461 #[.val (.int init), .val (.int sq), .val (.int cnt), .val (.int fl), .val (.int z6), .val (.int (3 : Int32)), .val (.int z7), .val (.int z8), .val (.int z9), .val (.int z10), .val (.ref b11), .val (.ref bx185), .val (.int (1 : Int32))] [(.int init), (.int (7 : Int32)), (.ref b11)])) _
      refine XS.iload X219.here hx rfl (hb hby at_461) rfl ?_
      show Steps p.tables e below (T219.setTop (mkF m 463 #[.val (.int init), .val (.int sq), .val (.int cnt), .val (.int fl), .val (.int z6), .val (.int (3 : Int32)), .val (.int z7), .val (.int z8), .val (.int z9), .val (.int z10), .val (.ref b11), .val (.ref bx185), .val (.int (1 : Int32))] [(.int (3 : Int32)), (.int init), (.int (7 : Int32)), (.ref b11)])) _
      refine XS.iload X219.here hx rfl (hb hby at_463) rfl ?_
      show Steps p.tables e below (T219.setTop (mkF m 465 #[.val (.int init), .val (.int sq), .val (.int cnt), .val (.int fl), .val (.int z6), .val (.int (3 : Int32)), .val (.int z7), .val (.int z8), .val (.int z9), .val (.int z10), .val (.ref b11), .val (.ref bx185), .val (.int (1 : Int32))] [(.int z7), (.int (3 : Int32)), (.int init), (.int (7 : Int32)), (.ref b11)])) _
      refine XS.iload X219.here hx rfl (hb hby at_465) rfl ?_
      show Steps p.tables e below (T219.setTop (mkF m 467 #[.val (.int init), .val (.int sq), .val (.int cnt), .val (.int fl), .val (.int z6), .val (.int (3 : Int32)), .val (.int z7), .val (.int z8), .val (.int z9), .val (.int z10), .val (.ref b11), .val (.ref bx185), .val (.int (1 : Int32))] [(.int z8), (.int z7), (.int (3 : Int32)), (.int init), (.int (7 : Int32)), (.ref b11)])) _
      refine XS.iload X219.here hx rfl (hb hby at_467) rfl ?_
      show Steps p.tables e below (T219.setTop (mkF m 469 #[.val (.int init), .val (.int sq), .val (.int cnt), .val (.int fl), .val (.int z6), .val (.int (3 : Int32)), .val (.int z7), .val (.int z8), .val (.int z9), .val (.int z10), .val (.ref b11), .val (.ref bx185), .val (.int (1 : Int32))] [(.int z9), (.int z8), (.int z7), (.int (3 : Int32)), (.int init), (.int (7 : Int32)), (.ref b11)])) _
      refine XS.iload X219.here hx rfl (hb hby at_469) rfl ?_
      show Steps p.tables e below (T219.setTop (mkF m 471 #[.val (.int init), .val (.int sq), .val (.int cnt), .val (.int fl), .val (.int z6), .val (.int (3 : Int32)), .val (.int z7), .val (.int z8), .val (.int z9), .val (.int z10), .val (.ref b11), .val (.ref bx185), .val (.int (1 : Int32))] [(.int z10), (.int z9), (.int z8), (.int z7), (.int (3 : Int32)), (.int init), (.int (7 : Int32)), (.ref b11)])) _
      refine XS.iload X219.here hx rfl (hb hby at_471) rfl ?_
      show Steps p.tables e below (T219.setTop (mkF m 473 #[.val (.int init), .val (.int sq), .val (.int cnt), .val (.int fl), .val (.int z6), .val (.int (3 : Int32)), .val (.int z7), .val (.int z8), .val (.int z9), .val (.int z10), .val (.ref b11), .val (.ref bx185), .val (.int (1 : Int32))] [(.int z6), (.int z10), (.int z9), (.int z8), (.int z7), (.int (3 : Int32)), (.int init), (.int (7 : Int32)), (.ref b11)])) _
      refine st222 _ ?_
      show Steps p.tables e below (T222.setTop (mkF m 476 #[.val (.int init), .val (.int sq), .val (.int cnt), .val (.int fl), .val (.int z6), .val (.int (3 : Int32)), .val (.int z7), .val (.int z8), .val (.int z9), .val (.int z10), .val (.ref b11), .val (.ref bx185), .val (.int (1 : Int32))] [(.int (atF (7 : Int32) init (3 : Int32) z7 z8 z9 z10 z6 xv221))])) _
      refine XS.ifNo X222.here hx rfl (hb hby at_476) rfl ((if0 _ _).trans (feq hd223).1) ?_
      show Steps p.tables e below (T222.setTop (mkF m 479 #[.val (.int init), .val (.int sq), .val (.int cnt), .val (.int fl), .val (.int z6), .val (.int (3 : Int32)), .val (.int z7), .val (.int z8), .val (.int z9), .val (.int z10), .val (.ref b11), .val (.ref bx185), .val (.int (1 : Int32))] [])) _
      refine XS.iconst X222.here hx rfl (hb hby at_479) ?_
      show Steps p.tables e below (T222.setTop (mkF m 480 #[.val (.int init), .val (.int sq), .val (.int cnt), .val (.int fl), .val (.int z6), .val (.int (3 : Int32)), .val (.int z7), .val (.int z8), .val (.int z9), .val (.int z10), .val (.ref b11), .val (.ref bx185), .val (.int (1 : Int32))] [(.int (1 : Int32))])) _
      refine XS.goto X222.here hx rfl (pc0 := 480) (pc' := 484) rfl (hb hby at_480) (by decide) (by decide) ?_
      show Steps p.tables e below (T222.setTop (mkF m 484 #[.val (.int init), .val (.int sq), .val (.int cnt), .val (.int fl), .val (.int z6), .val (.int (3 : Int32)), .val (.int z7), .val (.int z8), .val (.int z9), .val (.int z10), .val (.ref b11), .val (.ref bx185), .val (.int (1 : Int32))] [(.int (1 : Int32))])) _
      exact kt
    obtain ⟨fs, hr, hrun, hended, hW, hsame⟩ := X222.leave (v := some (.int (1 : Int32))) (fun h => by rw [Bd.returns] at h; cases h)
    refine ⟨_, _, k224 _ ?_, hrun, hended, _, _, rfl, ?_, ⟨_, rfl⟩, hW, hsame.mono (by decide) (by decide)⟩
    · exact retN X222 hx (t := .boolean) Bd.returns (by simp) (hb hby at_484) hr
    · show QL n0 _ T222.heap _
      exact ⟨rfl, N222⟩
  · obtain ⟨_, _, ⟨T225, L225, k225, n225⟩, -, X225, ⟨Lc225, hQ225, l225, y225, z225⟩, st225⟩ := Jvm.LawKit.callS X75 hx (y := (⟨"pushwise/BoxesPlacePinLaw", "boxesOf", "(IIIII)[I"⟩ : MethodName)) hown (mvT hZ (hw _ (List.mem_of_getElem? (i := 2) rfl))) (mvT hZ (hw _ (List.mem_of_getElem? (i := 3) rfl))) (mvT hZ (hw _ (List.mem_of_getElem? (i := 4) rfl))) (mvT hZ (hw _ (List.mem_of_getElem? (i := 5) rfl))) (by decide) (backOf (W := 0) (rmBox4 l Z a0 hw [] z7 z8 z9 z10  h75 n0 Z75) hZ (hw _ (List.mem_of_getElem? (i := 5) rfl)) (hw _ (List.mem_of_getElem? (i := 4) rfl)) (by decide) (by decide)) (g := (mkF m 207 #[.val (.int init), .val (.int sq), .val (.int cnt), .val (.int fl), .val (.int z6), .val (.int (4 : Int32)), .val (.int z7), .val (.int z8), .val (.int z9), .val (.int z10), .val (.ref b11), .unset, .unset] [(.int z10), (.int z9), (.int z8), (.int z7), (.int (4 : Int32))])) rfl (by rw [hml]; rfl) (argsL := [(.int (4 : Int32)), (.int z7), (.int z8), (.int z9), (.int z10)]) (rest := []) (lenOf pd_0 rfl) rfl (by show 2 * 0 + _ ≤ _; exact Nat.le_of_eq rfl) (hb hby at_207) (fun _ _ => ⟨rfl, e75, (by decide : 1 + 1 ≤ _), (by decide : 8 + 4 ≤ _)⟩)
    dsimp only [Pt.U, Pt.locs, Pt.cells, Pt.slots] at X225 l225 y225 z225 st225 hQ225
    subst l225 y225 z225
    obtain ⟨N225q, K225, bx225, cc225, rfl, le225, Va225⟩ := hQ225
    have N225 := Fr.app N75 N225q
    have ne_b11_bx225 : b11 ≠ bx225 := Nat.ne_of_lt (Nat.lt_of_lt_of_le V75_b11.lt le225)
    have g_bx225 : n0 ≤ bx225 := Nat.le_trans Z75 le225
    have sz_bx225 : h0.size ≤ bx225 := Nat.le_trans KP75.1 le225
    have V225_b11 := V75_b11.keep K225 nin0
    have Z225 := Nat.le_trans Z75 K225.1
    have KP225 := KP75.trans K225 all0
    obtain ⟨_, _, ⟨T226, L226, k226, n226⟩, -, X226, ⟨Lc226, hQ226, l226, y226, z226⟩, st226⟩ := Jvm.LawKit.callS X225 hx (y := (⟨"pushwise/Boxes", "place", "([Z[IZ)V"⟩ : MethodName)) hown (mvT hZ (hw _ (List.mem_of_getElem? (i := 7) rfl))) (mvT hZ (hw _ (List.mem_of_getElem? (i := 8) rfl))) (mvT hZ (hw _ (List.mem_of_getElem? (i := 9) rfl))) (mvT hZ (hw _ (List.mem_of_getElem? (i := 10) rfl))) (by decide) (backOf (W := 0) (rmPlace4 l Z a0 hw [] b11 bx225 z6 c11 cc225 [(.int (nar .boolean z17)), (.int (nar .boolean z25)), (.int (nar .boolean z33)), (.int (nar .boolean z41)), (.int (nar .boolean z49)), (.int (nar .boolean z57)), (.int (nar .boolean z65)), (.int (nar .boolean z73))] z7 z8 z9 z10 T225.heap n0 Z225 V225_b11 rfl Va225 ne_b11_bx225 g_b11 hb_z7 hb_z8 hb_z9 hb_z10) hZ (hw _ (List.mem_of_getElem? (i := 10) rfl)) (hw _ (List.mem_of_getElem? (i := 9) rfl)) (by decide) (by decide)) (g := (mkF m 218 #[.val (.int init), .val (.int sq), .val (.int cnt), .val (.int fl), .val (.int z6), .val (.int (4 : Int32)), .val (.int z7), .val (.int z8), .val (.int z9), .val (.int z10), .val (.ref b11), .val (.ref bx225), .unset] [(.int z6), (.ref bx225), (.ref b11)])) rfl (by rw [hml]; rfl) (argsL := [(.ref b11), (.ref bx225), (.int z6)]) (rest := []) (lenOf pd_1 rfl) rfl (by show 2 * 0 + _ ≤ _; exact Nat.le_of_eq rfl) (hb hby at_218) (fun _ _ => ⟨rfl, rfl, (by decide : 2 + 0 ≤ _), (by decide : 12 + 0 ≤ _)⟩)
    dsimp only [Pt.U, Pt.locs, Pt.cells, Pt.slots] at X226 l226 y226 z226 st226 hQ226
    subst l226 y226 z226
    obtain ⟨Lm226, eLm226⟩ : ∃ z : List Value, z = (((([(.int (nar .boolean z17)), (.int (nar .boolean z25)), (.int (nar .boolean z33)), (.int (nar .boolean z41)), (.int (nar .boolean z49)), (.int (nar .boolean z57)), (.int (nar .boolean z65)), (.int (nar .boolean z73))].set z7.toNatClampNeg (.int (nar .boolean z6))).set z8.toNatClampNeg (.int (nar .boolean z6))).set z9.toNatClampNeg (.int (nar .boolean z6))).set z10.toNatClampNeg (.int (nar .boolean z6))) := ⟨_, rfl⟩
    obtain ⟨rfl, N226q, K226, Vq226⟩ := hQ226
    rw [← eLm226] at Vq226
    have N226 := Fr.app N225 N226q
    have V226_bx225 := Va225.keep K226 (ninS (Ne.symm ne_b11_bx225) nin0)
    have Z226 := Nat.le_trans Z225 K226.1
    have KP226 := KP225.trans K226 (allS (Or.inr sz_b11) all0)
    obtain ⟨cl223_227, Ar223_227, q223_227, S223_227, N223_227_, H223_227, G223_227⟩ := id V226_bx225
    have hd228 : (4 : Int32) = (4 : Int32) := rfl
    have hd229 : ¬ ((4 : Int32) < (1 : Int32)) := by decide
    obtain ⟨cl238_230, Ar238_230, q238_230, S238_230, N238_230_, H238_230, G238_230⟩ := id V226_bx225
    have hin238_230 : ¬ ((0 : Int32) < 0 ∨ cl238_230.slots.size ≤ ((0 : Int32)).toNatClampNeg) := inb_of S238_230 ⟨by decide, by decide⟩
    have hat238_230 : cl238_230.slots[((0 : Int32)).toNatClampNeg]? = some (.int z7) := H238_230.at hin238_230 rfl
    have hd231 : z7 = z7 := rfl
    have hd232 : ¬ ((4 : Int32) < (2 : Int32)) := by decide
    obtain ⟨cl253_233, Ar253_233, q253_233, S253_233, N253_233_, H253_233, G253_233⟩ := id V226_bx225
    have hin253_233 : ¬ ((1 : Int32) < 0 ∨ cl253_233.slots.size ≤ ((1 : Int32)).toNatClampNeg) := inb_of S253_233 ⟨by decide, by decide⟩
    have hat253_233 : cl253_233.slots[((1 : Int32)).toNatClampNeg]? = some (.int z8) := H253_233.at hin253_233 rfl
    have hd234 : z8 = z8 := rfl
    have hd235 : ¬ ((4 : Int32) < (3 : Int32)) := by decide
    obtain ⟨cl268_236, Ar268_236, q268_236, S268_236, N268_236_, H268_236, G268_236⟩ := id V226_bx225
    have hin268_236 : ¬ ((2 : Int32) < 0 ∨ cl268_236.slots.size ≤ ((2 : Int32)).toNatClampNeg) := inb_of S268_236 ⟨by decide, by decide⟩
    have hat268_236 : cl268_236.slots[((2 : Int32)).toNatClampNeg]? = some (.int z9) := H268_236.at hin268_236 rfl
    have hd237 : z9 = z9 := rfl
    have hd238 : ¬ ((4 : Int32) < (4 : Int32)) := by decide
    obtain ⟨cl283_239, Ar283_239, q283_239, S283_239, N283_239_, H283_239, G283_239⟩ := id V226_bx225
    have hin283_239 : ¬ ((3 : Int32) < 0 ∨ cl283_239.slots.size ≤ ((3 : Int32)).toNatClampNeg) := inb_of S283_239 ⟨by decide, by decide⟩
    have hat283_239 : cl283_239.slots[((3 : Int32)).toNatClampNeg]? = some (.int z10) := H283_239.at hin283_239 rfl
    have hd240 : z10 = z10 := rfl
    have hd241 : ¬ ((1 : Int32) = (0 : Int32)) := by decide
    obtain ⟨xv242, exv242⟩ : ∃ z : Int32, z = (if z10 = (0 : Int32) then (nar .boolean z6) else (if z9 = (0 : Int32) then (nar .boolean z6) else (if z8 = (0 : Int32) then (nar .boolean z6) else (if z7 = (0 : Int32) then (nar .boolean z6) else ((nar .boolean z17)))))) := ⟨_, rfl⟩
    have hgxv242 : Lm226.getD ((0 : Int32)).toNatClampNeg (.int (0 : Int32)) = .int xv242 := by
      rw [exv242, eLm226]
      rw [own_getset _ _ _ _ _ hb_z10.1 (by decide) (by simp), own_getset _ _ _ _ _ hb_z9.1 (by decide) (by simp), own_getset _ _ _ _ _ hb_z8.1 (by decide) (by simp), own_getset _ _ _ _ _ hb_z7.1 (by decide) (by simp)]
      simp only [apply_ite Value.int]
      rfl
    obtain ⟨_, _, ⟨T243, L243, k243, n243⟩, -, X243, ⟨Lc243, hQ243, l243, y243, z243⟩, st243⟩ := Jvm.LawKit.callS X226 hx (y := (⟨"pushwise/BoxesPlacePinLaw", "at", "([ZIIIIIIIZ)Z"⟩ : MethodName)) hown (mvT hZ (hw _ (List.mem_of_getElem? (i := 11) rfl))) (mvT hZ (hw _ (List.mem_of_getElem? (i := 12) rfl))) (mvT hZ (hw _ (List.mem_of_getElem? (i := 4) rfl))) (mvT hZ (hw _ (List.mem_of_getElem? (i := 13) rfl))) (by decide) (backOf (W := 0) (rmAt l Z a0 hw [] b11 (0 : Int32) init (4 : Int32) z7 z8 z9 z10 z6 c11 Lm226 xv242 T226.heap n0 Vq226 (by decide) (by decide) hgxv242) hZ (hw _ (List.mem_of_getElem? (i := 13) rfl)) (hw _ (List.mem_of_getElem? (i := 4) rfl)) (by decide) (by decide)) (g := (mkF m 317 #[.val (.int init), .val (.int sq), .val (.int cnt), .val (.int fl), .val (.int z6), .val (.int (4 : Int32)), .val (.int z7), .val (.int z8), .val (.int z9), .val (.int z10), .val (.ref b11), .val (.ref bx225), .val (.int (1 : Int32))] [(.int z6), (.int z10), (.int z9), (.int z8), (.int z7), (.int (4 : Int32)), (.int init), (.int (0 : Int32)), (.ref b11)])) rfl (by rw [hml]; rfl) (argsL := [(.ref b11), (.int (0 : Int32)), (.int init), (.int (4 : Int32)), (.int z7), (.int z8), (.int z9), (.int z10), (.int z6)]) (rest := []) (lenOf pd_2 rfl) rfl (by show 2 * 0 + _ ≤ _; exact Nat.le_of_eq rfl) (hb hby at_317) (fun _ _ => ⟨rfl, rfl, (by decide : 2 + 0 ≤ _), (by decide : 12 + 0 ≤ _)⟩)
    dsimp only [Pt.U, Pt.locs, Pt.cells, Pt.slots] at X243 l243 y243 z243 st243 hQ243
    subst l243 y243 z243
    obtain ⟨rfl, N243q, e243⟩ := hQ243
    have N243 := Fr.app N226 N243q
    have hd244 : ¬ ((atF (0 : Int32) init (4 : Int32) z7 z8 z9 z10 z6 xv242) = (0 : Int32)) := own_at4 _ _ _ _ _ _ _ z17 _ (by rw [ez17, own_ushr0]) (by rw [exv242]; simp only [show nar .boolean z6 = z6 by rw [ez6]; exact own_nar01 _, show nar .boolean z17 = z17 by rw [ez17]; exact own_nar01 _])
    obtain ⟨xv245, exv245⟩ : ∃ z : Int32, z = (if z10 = (1 : Int32) then (nar .boolean z6) else (if z9 = (1 : Int32) then (nar .boolean z6) else (if z8 = (1 : Int32) then (nar .boolean z6) else (if z7 = (1 : Int32) then (nar .boolean z6) else ((nar .boolean z25)))))) := ⟨_, rfl⟩
    have hgxv245 : Lm226.getD ((1 : Int32)).toNatClampNeg (.int (0 : Int32)) = .int xv245 := by
      rw [exv245, eLm226]
      rw [own_getset _ _ _ _ _ hb_z10.1 (by decide) (by simp), own_getset _ _ _ _ _ hb_z9.1 (by decide) (by simp), own_getset _ _ _ _ _ hb_z8.1 (by decide) (by simp), own_getset _ _ _ _ _ hb_z7.1 (by decide) (by simp)]
      simp only [apply_ite Value.int]
      rfl
    obtain ⟨_, _, ⟨T246, L246, k246, n246⟩, -, X246, ⟨Lc246, hQ246, l246, y246, z246⟩, st246⟩ := Jvm.LawKit.callS X243 hx (y := (⟨"pushwise/BoxesPlacePinLaw", "at", "([ZIIIIIIIZ)Z"⟩ : MethodName)) hown (mvT hZ (hw _ (List.mem_of_getElem? (i := 11) rfl))) (mvT hZ (hw _ (List.mem_of_getElem? (i := 12) rfl))) (mvT hZ (hw _ (List.mem_of_getElem? (i := 4) rfl))) (mvT hZ (hw _ (List.mem_of_getElem? (i := 13) rfl))) (by decide) (backOf (W := 0) (rmAt l Z a0 hw [] b11 (1 : Int32) init (4 : Int32) z7 z8 z9 z10 z6 c11 Lm226 xv245 T226.heap n0 Vq226 (by decide) (by decide) hgxv245) hZ (hw _ (List.mem_of_getElem? (i := 13) rfl)) (hw _ (List.mem_of_getElem? (i := 4) rfl)) (by decide) (by decide)) (g := (mkF m 339 #[.val (.int init), .val (.int sq), .val (.int cnt), .val (.int fl), .val (.int z6), .val (.int (4 : Int32)), .val (.int z7), .val (.int z8), .val (.int z9), .val (.int z10), .val (.ref b11), .val (.ref bx225), .val (.int (1 : Int32))] [(.int z6), (.int z10), (.int z9), (.int z8), (.int z7), (.int (4 : Int32)), (.int init), (.int (1 : Int32)), (.ref b11)])) rfl (by rw [hml]; rfl) (argsL := [(.ref b11), (.int (1 : Int32)), (.int init), (.int (4 : Int32)), (.int z7), (.int z8), (.int z9), (.int z10), (.int z6)]) (rest := []) (lenOf pd_2 rfl) rfl (by show 2 * 0 + _ ≤ _; exact Nat.le_of_eq rfl) (hb hby at_339) (fun _ _ => ⟨rfl, e243, (by decide : 2 + 0 ≤ _), (by decide : 12 + 0 ≤ _)⟩)
    dsimp only [Pt.U, Pt.locs, Pt.cells, Pt.slots] at X246 l246 y246 z246 st246 hQ246
    subst l246 y246 z246
    obtain ⟨rfl, N246q, e246⟩ := hQ246
    have N246 := Fr.app N243 N246q
    have hd247 : ¬ ((atF (1 : Int32) init (4 : Int32) z7 z8 z9 z10 z6 xv245) = (0 : Int32)) := own_at4 _ _ _ _ _ _ _ z25 _ (by rw [ez25]) (by rw [exv245]; simp only [show nar .boolean z6 = z6 by rw [ez6]; exact own_nar01 _, show nar .boolean z25 = z25 by rw [ez25]; exact own_nar01 _])
    obtain ⟨xv248, exv248⟩ : ∃ z : Int32, z = (if z10 = (2 : Int32) then (nar .boolean z6) else (if z9 = (2 : Int32) then (nar .boolean z6) else (if z8 = (2 : Int32) then (nar .boolean z6) else (if z7 = (2 : Int32) then (nar .boolean z6) else ((nar .boolean z33)))))) := ⟨_, rfl⟩
    have hgxv248 : Lm226.getD ((2 : Int32)).toNatClampNeg (.int (0 : Int32)) = .int xv248 := by
      rw [exv248, eLm226]
      rw [own_getset _ _ _ _ _ hb_z10.1 (by decide) (by simp), own_getset _ _ _ _ _ hb_z9.1 (by decide) (by simp), own_getset _ _ _ _ _ hb_z8.1 (by decide) (by simp), own_getset _ _ _ _ _ hb_z7.1 (by decide) (by simp)]
      simp only [apply_ite Value.int]
      rfl
    obtain ⟨_, _, ⟨T249, L249, k249, n249⟩, -, X249, ⟨Lc249, hQ249, l249, y249, z249⟩, st249⟩ := Jvm.LawKit.callS X246 hx (y := (⟨"pushwise/BoxesPlacePinLaw", "at", "([ZIIIIIIIZ)Z"⟩ : MethodName)) hown (mvT hZ (hw _ (List.mem_of_getElem? (i := 11) rfl))) (mvT hZ (hw _ (List.mem_of_getElem? (i := 12) rfl))) (mvT hZ (hw _ (List.mem_of_getElem? (i := 4) rfl))) (mvT hZ (hw _ (List.mem_of_getElem? (i := 13) rfl))) (by decide) (backOf (W := 0) (rmAt l Z a0 hw [] b11 (2 : Int32) init (4 : Int32) z7 z8 z9 z10 z6 c11 Lm226 xv248 T226.heap n0 Vq226 (by decide) (by decide) hgxv248) hZ (hw _ (List.mem_of_getElem? (i := 13) rfl)) (hw _ (List.mem_of_getElem? (i := 4) rfl)) (by decide) (by decide)) (g := (mkF m 361 #[.val (.int init), .val (.int sq), .val (.int cnt), .val (.int fl), .val (.int z6), .val (.int (4 : Int32)), .val (.int z7), .val (.int z8), .val (.int z9), .val (.int z10), .val (.ref b11), .val (.ref bx225), .val (.int (1 : Int32))] [(.int z6), (.int z10), (.int z9), (.int z8), (.int z7), (.int (4 : Int32)), (.int init), (.int (2 : Int32)), (.ref b11)])) rfl (by rw [hml]; rfl) (argsL := [(.ref b11), (.int (2 : Int32)), (.int init), (.int (4 : Int32)), (.int z7), (.int z8), (.int z9), (.int z10), (.int z6)]) (rest := []) (lenOf pd_2 rfl) rfl (by show 2 * 0 + _ ≤ _; exact Nat.le_of_eq rfl) (hb hby at_361) (fun _ _ => ⟨rfl, e246, (by decide : 2 + 0 ≤ _), (by decide : 12 + 0 ≤ _)⟩)
    dsimp only [Pt.U, Pt.locs, Pt.cells, Pt.slots] at X249 l249 y249 z249 st249 hQ249
    subst l249 y249 z249
    obtain ⟨rfl, N249q, e249⟩ := hQ249
    have N249 := Fr.app N246 N249q
    have hd250 : ¬ ((atF (2 : Int32) init (4 : Int32) z7 z8 z9 z10 z6 xv248) = (0 : Int32)) := own_at4 _ _ _ _ _ _ _ z33 _ (by rw [ez33]) (by rw [exv248]; simp only [show nar .boolean z6 = z6 by rw [ez6]; exact own_nar01 _, show nar .boolean z33 = z33 by rw [ez33]; exact own_nar01 _])
    obtain ⟨xv251, exv251⟩ : ∃ z : Int32, z = (if z10 = (3 : Int32) then (nar .boolean z6) else (if z9 = (3 : Int32) then (nar .boolean z6) else (if z8 = (3 : Int32) then (nar .boolean z6) else (if z7 = (3 : Int32) then (nar .boolean z6) else ((nar .boolean z41)))))) := ⟨_, rfl⟩
    have hgxv251 : Lm226.getD ((3 : Int32)).toNatClampNeg (.int (0 : Int32)) = .int xv251 := by
      rw [exv251, eLm226]
      rw [own_getset _ _ _ _ _ hb_z10.1 (by decide) (by simp), own_getset _ _ _ _ _ hb_z9.1 (by decide) (by simp), own_getset _ _ _ _ _ hb_z8.1 (by decide) (by simp), own_getset _ _ _ _ _ hb_z7.1 (by decide) (by simp)]
      simp only [apply_ite Value.int]
      rfl
    obtain ⟨_, _, ⟨T252, L252, k252, n252⟩, -, X252, ⟨Lc252, hQ252, l252, y252, z252⟩, st252⟩ := Jvm.LawKit.callS X249 hx (y := (⟨"pushwise/BoxesPlacePinLaw", "at", "([ZIIIIIIIZ)Z"⟩ : MethodName)) hown (mvT hZ (hw _ (List.mem_of_getElem? (i := 11) rfl))) (mvT hZ (hw _ (List.mem_of_getElem? (i := 12) rfl))) (mvT hZ (hw _ (List.mem_of_getElem? (i := 4) rfl))) (mvT hZ (hw _ (List.mem_of_getElem? (i := 13) rfl))) (by decide) (backOf (W := 0) (rmAt l Z a0 hw [] b11 (3 : Int32) init (4 : Int32) z7 z8 z9 z10 z6 c11 Lm226 xv251 T226.heap n0 Vq226 (by decide) (by decide) hgxv251) hZ (hw _ (List.mem_of_getElem? (i := 13) rfl)) (hw _ (List.mem_of_getElem? (i := 4) rfl)) (by decide) (by decide)) (g := (mkF m 383 #[.val (.int init), .val (.int sq), .val (.int cnt), .val (.int fl), .val (.int z6), .val (.int (4 : Int32)), .val (.int z7), .val (.int z8), .val (.int z9), .val (.int z10), .val (.ref b11), .val (.ref bx225), .val (.int (1 : Int32))] [(.int z6), (.int z10), (.int z9), (.int z8), (.int z7), (.int (4 : Int32)), (.int init), (.int (3 : Int32)), (.ref b11)])) rfl (by rw [hml]; rfl) (argsL := [(.ref b11), (.int (3 : Int32)), (.int init), (.int (4 : Int32)), (.int z7), (.int z8), (.int z9), (.int z10), (.int z6)]) (rest := []) (lenOf pd_2 rfl) rfl (by show 2 * 0 + _ ≤ _; exact Nat.le_of_eq rfl) (hb hby at_383) (fun _ _ => ⟨rfl, e249, (by decide : 2 + 0 ≤ _), (by decide : 12 + 0 ≤ _)⟩)
    dsimp only [Pt.U, Pt.locs, Pt.cells, Pt.slots] at X252 l252 y252 z252 st252 hQ252
    subst l252 y252 z252
    obtain ⟨rfl, N252q, e252⟩ := hQ252
    have N252 := Fr.app N249 N252q
    have hd253 : ¬ ((atF (3 : Int32) init (4 : Int32) z7 z8 z9 z10 z6 xv251) = (0 : Int32)) := own_at4 _ _ _ _ _ _ _ z41 _ (by rw [ez41]) (by rw [exv251]; simp only [show nar .boolean z6 = z6 by rw [ez6]; exact own_nar01 _, show nar .boolean z41 = z41 by rw [ez41]; exact own_nar01 _])
    obtain ⟨xv254, exv254⟩ : ∃ z : Int32, z = (if z10 = (4 : Int32) then (nar .boolean z6) else (if z9 = (4 : Int32) then (nar .boolean z6) else (if z8 = (4 : Int32) then (nar .boolean z6) else (if z7 = (4 : Int32) then (nar .boolean z6) else ((nar .boolean z49)))))) := ⟨_, rfl⟩
    have hgxv254 : Lm226.getD ((4 : Int32)).toNatClampNeg (.int (0 : Int32)) = .int xv254 := by
      rw [exv254, eLm226]
      rw [own_getset _ _ _ _ _ hb_z10.1 (by decide) (by simp), own_getset _ _ _ _ _ hb_z9.1 (by decide) (by simp), own_getset _ _ _ _ _ hb_z8.1 (by decide) (by simp), own_getset _ _ _ _ _ hb_z7.1 (by decide) (by simp)]
      simp only [apply_ite Value.int]
      rfl
    obtain ⟨_, _, ⟨T255, L255, k255, n255⟩, -, X255, ⟨Lc255, hQ255, l255, y255, z255⟩, st255⟩ := Jvm.LawKit.callS X252 hx (y := (⟨"pushwise/BoxesPlacePinLaw", "at", "([ZIIIIIIIZ)Z"⟩ : MethodName)) hown (mvT hZ (hw _ (List.mem_of_getElem? (i := 11) rfl))) (mvT hZ (hw _ (List.mem_of_getElem? (i := 12) rfl))) (mvT hZ (hw _ (List.mem_of_getElem? (i := 4) rfl))) (mvT hZ (hw _ (List.mem_of_getElem? (i := 13) rfl))) (by decide) (backOf (W := 0) (rmAt l Z a0 hw [] b11 (4 : Int32) init (4 : Int32) z7 z8 z9 z10 z6 c11 Lm226 xv254 T226.heap n0 Vq226 (by decide) (by decide) hgxv254) hZ (hw _ (List.mem_of_getElem? (i := 13) rfl)) (hw _ (List.mem_of_getElem? (i := 4) rfl)) (by decide) (by decide)) (g := (mkF m 405 #[.val (.int init), .val (.int sq), .val (.int cnt), .val (.int fl), .val (.int z6), .val (.int (4 : Int32)), .val (.int z7), .val (.int z8), .val (.int z9), .val (.int z10), .val (.ref b11), .val (.ref bx225), .val (.int (1 : Int32))] [(.int z6), (.int z10), (.int z9), (.int z8), (.int z7), (.int (4 : Int32)), (.int init), (.int (4 : Int32)), (.ref b11)])) rfl (by rw [hml]; rfl) (argsL := [(.ref b11), (.int (4 : Int32)), (.int init), (.int (4 : Int32)), (.int z7), (.int z8), (.int z9), (.int z10), (.int z6)]) (rest := []) (lenOf pd_2 rfl) rfl (by show 2 * 0 + _ ≤ _; exact Nat.le_of_eq rfl) (hb hby at_405) (fun _ _ => ⟨rfl, e252, (by decide : 2 + 0 ≤ _), (by decide : 12 + 0 ≤ _)⟩)
    dsimp only [Pt.U, Pt.locs, Pt.cells, Pt.slots] at X255 l255 y255 z255 st255 hQ255
    subst l255 y255 z255
    obtain ⟨rfl, N255q, e255⟩ := hQ255
    have N255 := Fr.app N252 N255q
    have hd256 : ¬ ((atF (4 : Int32) init (4 : Int32) z7 z8 z9 z10 z6 xv254) = (0 : Int32)) := own_at4 _ _ _ _ _ _ _ z49 _ (by rw [ez49]) (by rw [exv254]; simp only [show nar .boolean z6 = z6 by rw [ez6]; exact own_nar01 _, show nar .boolean z49 = z49 by rw [ez49]; exact own_nar01 _])
    obtain ⟨xv257, exv257⟩ : ∃ z : Int32, z = (if z10 = (5 : Int32) then (nar .boolean z6) else (if z9 = (5 : Int32) then (nar .boolean z6) else (if z8 = (5 : Int32) then (nar .boolean z6) else (if z7 = (5 : Int32) then (nar .boolean z6) else ((nar .boolean z57)))))) := ⟨_, rfl⟩
    have hgxv257 : Lm226.getD ((5 : Int32)).toNatClampNeg (.int (0 : Int32)) = .int xv257 := by
      rw [exv257, eLm226]
      rw [own_getset _ _ _ _ _ hb_z10.1 (by decide) (by simp), own_getset _ _ _ _ _ hb_z9.1 (by decide) (by simp), own_getset _ _ _ _ _ hb_z8.1 (by decide) (by simp), own_getset _ _ _ _ _ hb_z7.1 (by decide) (by simp)]
      simp only [apply_ite Value.int]
      rfl
    obtain ⟨_, _, ⟨T258, L258, k258, n258⟩, -, X258, ⟨Lc258, hQ258, l258, y258, z258⟩, st258⟩ := Jvm.LawKit.callS X255 hx (y := (⟨"pushwise/BoxesPlacePinLaw", "at", "([ZIIIIIIIZ)Z"⟩ : MethodName)) hown (mvT hZ (hw _ (List.mem_of_getElem? (i := 11) rfl))) (mvT hZ (hw _ (List.mem_of_getElem? (i := 12) rfl))) (mvT hZ (hw _ (List.mem_of_getElem? (i := 4) rfl))) (mvT hZ (hw _ (List.mem_of_getElem? (i := 13) rfl))) (by decide) (backOf (W := 0) (rmAt l Z a0 hw [] b11 (5 : Int32) init (4 : Int32) z7 z8 z9 z10 z6 c11 Lm226 xv257 T226.heap n0 Vq226 (by decide) (by decide) hgxv257) hZ (hw _ (List.mem_of_getElem? (i := 13) rfl)) (hw _ (List.mem_of_getElem? (i := 4) rfl)) (by decide) (by decide)) (g := (mkF m 427 #[.val (.int init), .val (.int sq), .val (.int cnt), .val (.int fl), .val (.int z6), .val (.int (4 : Int32)), .val (.int z7), .val (.int z8), .val (.int z9), .val (.int z10), .val (.ref b11), .val (.ref bx225), .val (.int (1 : Int32))] [(.int z6), (.int z10), (.int z9), (.int z8), (.int z7), (.int (4 : Int32)), (.int init), (.int (5 : Int32)), (.ref b11)])) rfl (by rw [hml]; rfl) (argsL := [(.ref b11), (.int (5 : Int32)), (.int init), (.int (4 : Int32)), (.int z7), (.int z8), (.int z9), (.int z10), (.int z6)]) (rest := []) (lenOf pd_2 rfl) rfl (by show 2 * 0 + _ ≤ _; exact Nat.le_of_eq rfl) (hb hby at_427) (fun _ _ => ⟨rfl, e255, (by decide : 2 + 0 ≤ _), (by decide : 12 + 0 ≤ _)⟩)
    dsimp only [Pt.U, Pt.locs, Pt.cells, Pt.slots] at X258 l258 y258 z258 st258 hQ258
    subst l258 y258 z258
    obtain ⟨rfl, N258q, e258⟩ := hQ258
    have N258 := Fr.app N255 N258q
    have hd259 : ¬ ((atF (5 : Int32) init (4 : Int32) z7 z8 z9 z10 z6 xv257) = (0 : Int32)) := own_at4 _ _ _ _ _ _ _ z57 _ (by rw [ez57]) (by rw [exv257]; simp only [show nar .boolean z6 = z6 by rw [ez6]; exact own_nar01 _, show nar .boolean z57 = z57 by rw [ez57]; exact own_nar01 _])
    obtain ⟨xv260, exv260⟩ : ∃ z : Int32, z = (if z10 = (6 : Int32) then (nar .boolean z6) else (if z9 = (6 : Int32) then (nar .boolean z6) else (if z8 = (6 : Int32) then (nar .boolean z6) else (if z7 = (6 : Int32) then (nar .boolean z6) else ((nar .boolean z65)))))) := ⟨_, rfl⟩
    have hgxv260 : Lm226.getD ((6 : Int32)).toNatClampNeg (.int (0 : Int32)) = .int xv260 := by
      rw [exv260, eLm226]
      rw [own_getset _ _ _ _ _ hb_z10.1 (by decide) (by simp), own_getset _ _ _ _ _ hb_z9.1 (by decide) (by simp), own_getset _ _ _ _ _ hb_z8.1 (by decide) (by simp), own_getset _ _ _ _ _ hb_z7.1 (by decide) (by simp)]
      simp only [apply_ite Value.int]
      rfl
    obtain ⟨_, _, ⟨T261, L261, k261, n261⟩, -, X261, ⟨Lc261, hQ261, l261, y261, z261⟩, st261⟩ := Jvm.LawKit.callS X258 hx (y := (⟨"pushwise/BoxesPlacePinLaw", "at", "([ZIIIIIIIZ)Z"⟩ : MethodName)) hown (mvT hZ (hw _ (List.mem_of_getElem? (i := 11) rfl))) (mvT hZ (hw _ (List.mem_of_getElem? (i := 12) rfl))) (mvT hZ (hw _ (List.mem_of_getElem? (i := 4) rfl))) (mvT hZ (hw _ (List.mem_of_getElem? (i := 13) rfl))) (by decide) (backOf (W := 0) (rmAt l Z a0 hw [] b11 (6 : Int32) init (4 : Int32) z7 z8 z9 z10 z6 c11 Lm226 xv260 T226.heap n0 Vq226 (by decide) (by decide) hgxv260) hZ (hw _ (List.mem_of_getElem? (i := 13) rfl)) (hw _ (List.mem_of_getElem? (i := 4) rfl)) (by decide) (by decide)) (g := (mkF m 450 #[.val (.int init), .val (.int sq), .val (.int cnt), .val (.int fl), .val (.int z6), .val (.int (4 : Int32)), .val (.int z7), .val (.int z8), .val (.int z9), .val (.int z10), .val (.ref b11), .val (.ref bx225), .val (.int (1 : Int32))] [(.int z6), (.int z10), (.int z9), (.int z8), (.int z7), (.int (4 : Int32)), (.int init), (.int (6 : Int32)), (.ref b11)])) rfl (by rw [hml]; rfl) (argsL := [(.ref b11), (.int (6 : Int32)), (.int init), (.int (4 : Int32)), (.int z7), (.int z8), (.int z9), (.int z10), (.int z6)]) (rest := []) (lenOf pd_2 rfl) rfl (by show 2 * 0 + _ ≤ _; exact Nat.le_of_eq rfl) (hb hby at_450) (fun _ _ => ⟨rfl, e258, (by decide : 2 + 0 ≤ _), (by decide : 12 + 0 ≤ _)⟩)
    dsimp only [Pt.U, Pt.locs, Pt.cells, Pt.slots] at X261 l261 y261 z261 st261 hQ261
    subst l261 y261 z261
    obtain ⟨rfl, N261q, e261⟩ := hQ261
    have N261 := Fr.app N258 N261q
    have hd262 : ¬ ((atF (6 : Int32) init (4 : Int32) z7 z8 z9 z10 z6 xv260) = (0 : Int32)) := own_at4 _ _ _ _ _ _ _ z65 _ (by rw [ez65]) (by rw [exv260]; simp only [show nar .boolean z6 = z6 by rw [ez6]; exact own_nar01 _, show nar .boolean z65 = z65 by rw [ez65]; exact own_nar01 _])
    obtain ⟨xv263, exv263⟩ : ∃ z : Int32, z = (if z10 = (7 : Int32) then (nar .boolean z6) else (if z9 = (7 : Int32) then (nar .boolean z6) else (if z8 = (7 : Int32) then (nar .boolean z6) else (if z7 = (7 : Int32) then (nar .boolean z6) else ((nar .boolean z73)))))) := ⟨_, rfl⟩
    have hgxv263 : Lm226.getD ((7 : Int32)).toNatClampNeg (.int (0 : Int32)) = .int xv263 := by
      rw [exv263, eLm226]
      rw [own_getset _ _ _ _ _ hb_z10.1 (by decide) (by simp), own_getset _ _ _ _ _ hb_z9.1 (by decide) (by simp), own_getset _ _ _ _ _ hb_z8.1 (by decide) (by simp), own_getset _ _ _ _ _ hb_z7.1 (by decide) (by simp)]
      simp only [apply_ite Value.int]
      rfl
    obtain ⟨_, _, ⟨T264, L264, k264, n264⟩, -, X264, ⟨Lc264, hQ264, l264, y264, z264⟩, st264⟩ := Jvm.LawKit.callS X261 hx (y := (⟨"pushwise/BoxesPlacePinLaw", "at", "([ZIIIIIIIZ)Z"⟩ : MethodName)) hown (mvT hZ (hw _ (List.mem_of_getElem? (i := 11) rfl))) (mvT hZ (hw _ (List.mem_of_getElem? (i := 12) rfl))) (mvT hZ (hw _ (List.mem_of_getElem? (i := 4) rfl))) (mvT hZ (hw _ (List.mem_of_getElem? (i := 13) rfl))) (by decide) (backOf (W := 0) (rmAt l Z a0 hw [] b11 (7 : Int32) init (4 : Int32) z7 z8 z9 z10 z6 c11 Lm226 xv263 T226.heap n0 Vq226 (by decide) (by decide) hgxv263) hZ (hw _ (List.mem_of_getElem? (i := 13) rfl)) (hw _ (List.mem_of_getElem? (i := 4) rfl)) (by decide) (by decide)) (g := (mkF m 473 #[.val (.int init), .val (.int sq), .val (.int cnt), .val (.int fl), .val (.int z6), .val (.int (4 : Int32)), .val (.int z7), .val (.int z8), .val (.int z9), .val (.int z10), .val (.ref b11), .val (.ref bx225), .val (.int (1 : Int32))] [(.int z6), (.int z10), (.int z9), (.int z8), (.int z7), (.int (4 : Int32)), (.int init), (.int (7 : Int32)), (.ref b11)])) rfl (by rw [hml]; rfl) (argsL := [(.ref b11), (.int (7 : Int32)), (.int init), (.int (4 : Int32)), (.int z7), (.int z8), (.int z9), (.int z10), (.int z6)]) (rest := []) (lenOf pd_2 rfl) rfl (by show 2 * 0 + _ ≤ _; exact Nat.le_of_eq rfl) (hb hby at_473) (fun _ _ => ⟨rfl, e261, (by decide : 2 + 0 ≤ _), (by decide : 12 + 0 ≤ _)⟩)
    dsimp only [Pt.U, Pt.locs, Pt.cells, Pt.slots] at X264 l264 y264 z264 st264 hQ264
    subst l264 y264 z264
    obtain ⟨rfl, N264q, e264⟩ := hQ264
    have N264 := Fr.app N261 N264q
    have hd265 : ¬ ((atF (7 : Int32) init (4 : Int32) z7 z8 z9 z10 z6 xv263) = (0 : Int32)) := own_at4 _ _ _ _ _ _ _ z73 _ (by rw [ez73]) (by rw [exv263]; simp only [show nar .boolean z6 = z6 by rw [ez6]; exact own_nar01 _, show nar .boolean z73 = z73 by rw [ez73]; exact own_nar01 _])
    have k266 : ∀ tg, Steps p.tables e below (T264.setTop (mkF m 484 #[.val (.int init), .val (.int sq), .val (.int cnt), .val (.int fl), .val (.int z6), .val (.int (4 : Int32)), .val (.int z7), .val (.int z8), .val (.int z9), .val (.int z10), .val (.ref b11), .val (.ref bx225), .val (.int (1 : Int32))] [(.int (1 : Int32))])) tg → Steps p.tables e below (s₁.setTop (entryFrame m #[(.int init), (.int sq), (.int cnt), (.int fl)] maxLocals)) tg := by
      intro tg kt
      refine k76 tg ?_
      show Steps p.tables e below (T75.setTop (mkF m 197 #[.val (.int init), .val (.int sq), .val (.int cnt), .val (.int fl), .val (.int z6), .val (.int ((cnt &&& (2147483647 : Int32)) % (5 : Int32))), .val (.int z7), .val (.int z8), .val (.int z9), .val (.int z10), .val (.ref b11), .unset, .unset] [])) _
      rw [hn]
      show Steps p.tables e below (T75.setTop (mkF m 197 #[.val (.int init), .val (.int sq), .val (.int cnt), .val (.int fl), .val (.int z6), .val (.int (4 : Int32)), .val (.int z7), .val (.int z8), .val (.int z9), .val (.int z10), .val (.ref b11), .unset, .unset] [])) _
      refine XS.iload X75.here hx rfl (hb hby at_197) rfl ?_
      show Steps p.tables e below (T75.setTop (mkF m 199 #[.val (.int init), .val (.int sq), .val (.int cnt), .val (.int fl), .val (.int z6), .val (.int (4 : Int32)), .val (.int z7), .val (.int z8), .val (.int z9), .val (.int z10), .val (.ref b11), .unset, .unset] [(.int (4 : Int32))])) _
      refine XS.iload X75.here hx rfl (hb hby at_199) rfl ?_
      show Steps p.tables e below (T75.setTop (mkF m 201 #[.val (.int init), .val (.int sq), .val (.int cnt), .val (.int fl), .val (.int z6), .val (.int (4 : Int32)), .val (.int z7), .val (.int z8), .val (.int z9), .val (.int z10), .val (.ref b11), .unset, .unset] [(.int z7), (.int (4 : Int32))])) _
      refine XS.iload X75.here hx rfl (hb hby at_201) rfl ?_
      show Steps p.tables e below (T75.setTop (mkF m 203 #[.val (.int init), .val (.int sq), .val (.int cnt), .val (.int fl), .val (.int z6), .val (.int (4 : Int32)), .val (.int z7), .val (.int z8), .val (.int z9), .val (.int z10), .val (.ref b11), .unset, .unset] [(.int z8), (.int z7), (.int (4 : Int32))])) _
      refine XS.iload X75.here hx rfl (hb hby at_203) rfl ?_
      show Steps p.tables e below (T75.setTop (mkF m 205 #[.val (.int init), .val (.int sq), .val (.int cnt), .val (.int fl), .val (.int z6), .val (.int (4 : Int32)), .val (.int z7), .val (.int z8), .val (.int z9), .val (.int z10), .val (.ref b11), .unset, .unset] [(.int z9), (.int z8), (.int z7), (.int (4 : Int32))])) _
      refine XS.iload X75.here hx rfl (hb hby at_205) rfl ?_
      show Steps p.tables e below (T75.setTop (mkF m 207 #[.val (.int init), .val (.int sq), .val (.int cnt), .val (.int fl), .val (.int z6), .val (.int (4 : Int32)), .val (.int z7), .val (.int z8), .val (.int z9), .val (.int z10), .val (.ref b11), .unset, .unset] [(.int z10), (.int z9), (.int z8), (.int z7), (.int (4 : Int32))])) _
      refine st225 _ ?_
      show Steps p.tables e below (T225.setTop (mkF m 210 #[.val (.int init), .val (.int sq), .val (.int cnt), .val (.int fl), .val (.int z6), .val (.int (4 : Int32)), .val (.int z7), .val (.int z8), .val (.int z9), .val (.int z10), .val (.ref b11), .unset, .unset] [(.ref bx225)])) _
      refine XS.astore X225.here hx rfl (hb hby at_210) rfl rfl (l' := #[.val (.int init), .val (.int sq), .val (.int cnt), .val (.int fl), .val (.int z6), .val (.int (4 : Int32)), .val (.int z7), .val (.int z8), .val (.int z9), .val (.int z10), .val (.ref b11), .val (.ref bx225), .unset]) rfl ?_
      show Steps p.tables e below (T225.setTop (mkF m 212 #[.val (.int init), .val (.int sq), .val (.int cnt), .val (.int fl), .val (.int z6), .val (.int (4 : Int32)), .val (.int z7), .val (.int z8), .val (.int z9), .val (.int z10), .val (.ref b11), .val (.ref bx225), .unset] [])) _
      refine XS.aload X225.here hx rfl (hb hby at_212) rfl rfl ?_
      show Steps p.tables e below (T225.setTop (mkF m 214 #[.val (.int init), .val (.int sq), .val (.int cnt), .val (.int fl), .val (.int z6), .val (.int (4 : Int32)), .val (.int z7), .val (.int z8), .val (.int z9), .val (.int z10), .val (.ref b11), .val (.ref bx225), .unset] [(.ref b11)])) _
      refine XS.aload X225.here hx rfl (hb hby at_214) rfl rfl ?_
      show Steps p.tables e below (T225.setTop (mkF m 216 #[.val (.int init), .val (.int sq), .val (.int cnt), .val (.int fl), .val (.int z6), .val (.int (4 : Int32)), .val (.int z7), .val (.int z8), .val (.int z9), .val (.int z10), .val (.ref b11), .val (.ref bx225), .unset] [(.ref bx225), (.ref b11)])) _
      refine XS.iload X225.here hx rfl (hb hby at_216) rfl ?_
      show Steps p.tables e below (T225.setTop (mkF m 218 #[.val (.int init), .val (.int sq), .val (.int cnt), .val (.int fl), .val (.int z6), .val (.int (4 : Int32)), .val (.int z7), .val (.int z8), .val (.int z9), .val (.int z10), .val (.ref b11), .val (.ref bx225), .unset] [(.int z6), (.ref bx225), (.ref b11)])) _
      refine st226 _ ?_
      show Steps p.tables e below (T226.setTop (mkF m 221 #[.val (.int init), .val (.int sq), .val (.int cnt), .val (.int fl), .val (.int z6), .val (.int (4 : Int32)), .val (.int z7), .val (.int z8), .val (.int z9), .val (.int z10), .val (.ref b11), .val (.ref bx225), .unset] [])) _
      refine XS.aload X226.here hx rfl (hb hby at_221) rfl rfl ?_
      show Steps p.tables e below (T226.setTop (mkF m 223 #[.val (.int init), .val (.int sq), .val (.int cnt), .val (.int fl), .val (.int z6), .val (.int (4 : Int32)), .val (.int z7), .val (.int z8), .val (.int z9), .val (.int z10), .val (.ref b11), .val (.ref bx225), .unset] [(.ref bx225)])) _
      refine X226.arraylength hx (by exact Ar223_227.1) (State.isArrayOf_alike hZ.alike Ar223_227.2.1) (g := (mkF m 223 #[.val (.int init), .val (.int sq), .val (.int cnt), .val (.int fl), .val (.int z6), .val (.int (4 : Int32)), .val (.int z7), .val (.int z8), .val (.int z9), .val (.int z10), .val (.ref b11), .val (.ref bx225), .unset] [(.ref bx225)])) rfl rfl (hb hby at_223) _ ?_
      rw [len_of S223_227 N223_227_]
      show Steps p.tables e below (T226.setTop (mkF m 224 #[.val (.int init), .val (.int sq), .val (.int cnt), .val (.int fl), .val (.int z6), .val (.int (4 : Int32)), .val (.int z7), .val (.int z8), .val (.int z9), .val (.int z10), .val (.ref b11), .val (.ref bx225), .unset] [(.int (4 : Int32))])) _
      refine XS.iload X226.here hx rfl (hb hby at_224) rfl ?_
      show Steps p.tables e below (T226.setTop (mkF m 226 #[.val (.int init), .val (.int sq), .val (.int cnt), .val (.int fl), .val (.int z6), .val (.int (4 : Int32)), .val (.int z7), .val (.int z8), .val (.int z9), .val (.int z10), .val (.ref b11), .val (.ref bx225), .unset] [(.int (4 : Int32)), (.int (4 : Int32))])) _
      refine XS.icmpNo X226.here hx rfl (hb hby at_226) rfl (teq hd228).2 ?_
      show Steps p.tables e below (T226.setTop (mkF m 229 #[.val (.int init), .val (.int sq), .val (.int cnt), .val (.int fl), .val (.int z6), .val (.int (4 : Int32)), .val (.int z7), .val (.int z8), .val (.int z9), .val (.int z10), .val (.ref b11), .val (.ref bx225), .unset] [])) _
      refine XS.iload X226.here hx rfl (hb hby at_229) rfl ?_
      show Steps p.tables e below (T226.setTop (mkF m 231 #[.val (.int init), .val (.int sq), .val (.int cnt), .val (.int fl), .val (.int z6), .val (.int (4 : Int32)), .val (.int z7), .val (.int z8), .val (.int z9), .val (.int z10), .val (.ref b11), .val (.ref bx225), .unset] [(.int (4 : Int32))])) _
      refine XS.iconst X226.here hx rfl (hb hby at_231) ?_
      show Steps p.tables e below (T226.setTop (mkF m 232 #[.val (.int init), .val (.int sq), .val (.int cnt), .val (.int fl), .val (.int z6), .val (.int (4 : Int32)), .val (.int z7), .val (.int z8), .val (.int z9), .val (.int z10), .val (.ref b11), .val (.ref bx225), .unset] [(.int (1 : Int32)), (.int (4 : Int32))])) _
      refine XS.icmpNo X226.here hx rfl (hb hby at_232) rfl (flt hd229).1 ?_
      show Steps p.tables e below (T226.setTop (mkF m 235 #[.val (.int init), .val (.int sq), .val (.int cnt), .val (.int fl), .val (.int z6), .val (.int (4 : Int32)), .val (.int z7), .val (.int z8), .val (.int z9), .val (.int z10), .val (.ref b11), .val (.ref bx225), .unset] [])) _
      refine XS.aload X226.here hx rfl (hb hby at_235) rfl rfl ?_
      show Steps p.tables e below (T226.setTop (mkF m 237 #[.val (.int init), .val (.int sq), .val (.int cnt), .val (.int fl), .val (.int z6), .val (.int (4 : Int32)), .val (.int z7), .val (.int z8), .val (.int z9), .val (.int z10), .val (.ref b11), .val (.ref bx225), .unset] [(.ref bx225)])) _
      refine XS.iconst X226.here hx rfl (hb hby at_237) ?_
      show Steps p.tables e below (T226.setTop (mkF m 238 #[.val (.int init), .val (.int sq), .val (.int cnt), .val (.int fl), .val (.int z6), .val (.int (4 : Int32)), .val (.int z7), .val (.int z8), .val (.int z9), .val (.int z10), .val (.ref b11), .val (.ref bx225), .unset] [(.int (0 : Int32)), (.ref bx225)])) _
      refine X226.iaload hx (j := (0 : Int32)) (v := (.int z7)) (by exact Ar238_230.1) (State.isArrayOf_alike hZ.alike Ar238_230.2.1) Ar238_230.2.2 hin238_230 hat238_230 (g := (mkF m 238 #[.val (.int init), .val (.int sq), .val (.int cnt), .val (.int fl), .val (.int z6), .val (.int (4 : Int32)), .val (.int z7), .val (.int z8), .val (.int z9), .val (.int z10), .val (.ref b11), .val (.ref bx225), .unset] [(.int (0 : Int32)), (.ref bx225)])) rfl rfl (hb hby at_238) _ ?_
      show Steps p.tables e below (T226.setTop (mkF m 239 #[.val (.int init), .val (.int sq), .val (.int cnt), .val (.int fl), .val (.int z6), .val (.int (4 : Int32)), .val (.int z7), .val (.int z8), .val (.int z9), .val (.int z10), .val (.ref b11), .val (.ref bx225), .unset] [(.int z7)])) _
      refine XS.iload X226.here hx rfl (hb hby at_239) rfl ?_
      show Steps p.tables e below (T226.setTop (mkF m 241 #[.val (.int init), .val (.int sq), .val (.int cnt), .val (.int fl), .val (.int z6), .val (.int (4 : Int32)), .val (.int z7), .val (.int z8), .val (.int z9), .val (.int z10), .val (.ref b11), .val (.ref bx225), .unset] [(.int z7), (.int z7)])) _
      refine XS.icmpNo X226.here hx rfl (hb hby at_241) rfl (teq hd231).2 ?_
      show Steps p.tables e below (T226.setTop (mkF m 244 #[.val (.int init), .val (.int sq), .val (.int cnt), .val (.int fl), .val (.int z6), .val (.int (4 : Int32)), .val (.int z7), .val (.int z8), .val (.int z9), .val (.int z10), .val (.ref b11), .val (.ref bx225), .unset] [])) _
      refine XS.iload X226.here hx rfl (hb hby at_244) rfl ?_
      show Steps p.tables e below (T226.setTop (mkF m 246 #[.val (.int init), .val (.int sq), .val (.int cnt), .val (.int fl), .val (.int z6), .val (.int (4 : Int32)), .val (.int z7), .val (.int z8), .val (.int z9), .val (.int z10), .val (.ref b11), .val (.ref bx225), .unset] [(.int (4 : Int32))])) _
      refine XS.iconst X226.here hx rfl (hb hby at_246) ?_
      show Steps p.tables e below (T226.setTop (mkF m 247 #[.val (.int init), .val (.int sq), .val (.int cnt), .val (.int fl), .val (.int z6), .val (.int (4 : Int32)), .val (.int z7), .val (.int z8), .val (.int z9), .val (.int z10), .val (.ref b11), .val (.ref bx225), .unset] [(.int (2 : Int32)), (.int (4 : Int32))])) _
      refine XS.icmpNo X226.here hx rfl (hb hby at_247) rfl (flt hd232).1 ?_
      show Steps p.tables e below (T226.setTop (mkF m 250 #[.val (.int init), .val (.int sq), .val (.int cnt), .val (.int fl), .val (.int z6), .val (.int (4 : Int32)), .val (.int z7), .val (.int z8), .val (.int z9), .val (.int z10), .val (.ref b11), .val (.ref bx225), .unset] [])) _
      refine XS.aload X226.here hx rfl (hb hby at_250) rfl rfl ?_
      show Steps p.tables e below (T226.setTop (mkF m 252 #[.val (.int init), .val (.int sq), .val (.int cnt), .val (.int fl), .val (.int z6), .val (.int (4 : Int32)), .val (.int z7), .val (.int z8), .val (.int z9), .val (.int z10), .val (.ref b11), .val (.ref bx225), .unset] [(.ref bx225)])) _
      refine XS.iconst X226.here hx rfl (hb hby at_252) ?_
      show Steps p.tables e below (T226.setTop (mkF m 253 #[.val (.int init), .val (.int sq), .val (.int cnt), .val (.int fl), .val (.int z6), .val (.int (4 : Int32)), .val (.int z7), .val (.int z8), .val (.int z9), .val (.int z10), .val (.ref b11), .val (.ref bx225), .unset] [(.int (1 : Int32)), (.ref bx225)])) _
      refine X226.iaload hx (j := (1 : Int32)) (v := (.int z8)) (by exact Ar253_233.1) (State.isArrayOf_alike hZ.alike Ar253_233.2.1) Ar253_233.2.2 hin253_233 hat253_233 (g := (mkF m 253 #[.val (.int init), .val (.int sq), .val (.int cnt), .val (.int fl), .val (.int z6), .val (.int (4 : Int32)), .val (.int z7), .val (.int z8), .val (.int z9), .val (.int z10), .val (.ref b11), .val (.ref bx225), .unset] [(.int (1 : Int32)), (.ref bx225)])) rfl rfl (hb hby at_253) _ ?_
      show Steps p.tables e below (T226.setTop (mkF m 254 #[.val (.int init), .val (.int sq), .val (.int cnt), .val (.int fl), .val (.int z6), .val (.int (4 : Int32)), .val (.int z7), .val (.int z8), .val (.int z9), .val (.int z10), .val (.ref b11), .val (.ref bx225), .unset] [(.int z8)])) _
      refine XS.iload X226.here hx rfl (hb hby at_254) rfl ?_
      show Steps p.tables e below (T226.setTop (mkF m 256 #[.val (.int init), .val (.int sq), .val (.int cnt), .val (.int fl), .val (.int z6), .val (.int (4 : Int32)), .val (.int z7), .val (.int z8), .val (.int z9), .val (.int z10), .val (.ref b11), .val (.ref bx225), .unset] [(.int z8), (.int z8)])) _
      refine XS.icmpNo X226.here hx rfl (hb hby at_256) rfl (teq hd234).2 ?_
      show Steps p.tables e below (T226.setTop (mkF m 259 #[.val (.int init), .val (.int sq), .val (.int cnt), .val (.int fl), .val (.int z6), .val (.int (4 : Int32)), .val (.int z7), .val (.int z8), .val (.int z9), .val (.int z10), .val (.ref b11), .val (.ref bx225), .unset] [])) _
      refine XS.iload X226.here hx rfl (hb hby at_259) rfl ?_
      show Steps p.tables e below (T226.setTop (mkF m 261 #[.val (.int init), .val (.int sq), .val (.int cnt), .val (.int fl), .val (.int z6), .val (.int (4 : Int32)), .val (.int z7), .val (.int z8), .val (.int z9), .val (.int z10), .val (.ref b11), .val (.ref bx225), .unset] [(.int (4 : Int32))])) _
      refine XS.iconst X226.here hx rfl (hb hby at_261) ?_
      show Steps p.tables e below (T226.setTop (mkF m 262 #[.val (.int init), .val (.int sq), .val (.int cnt), .val (.int fl), .val (.int z6), .val (.int (4 : Int32)), .val (.int z7), .val (.int z8), .val (.int z9), .val (.int z10), .val (.ref b11), .val (.ref bx225), .unset] [(.int (3 : Int32)), (.int (4 : Int32))])) _
      refine XS.icmpNo X226.here hx rfl (hb hby at_262) rfl (flt hd235).1 ?_
      show Steps p.tables e below (T226.setTop (mkF m 265 #[.val (.int init), .val (.int sq), .val (.int cnt), .val (.int fl), .val (.int z6), .val (.int (4 : Int32)), .val (.int z7), .val (.int z8), .val (.int z9), .val (.int z10), .val (.ref b11), .val (.ref bx225), .unset] [])) _
      refine XS.aload X226.here hx rfl (hb hby at_265) rfl rfl ?_
      show Steps p.tables e below (T226.setTop (mkF m 267 #[.val (.int init), .val (.int sq), .val (.int cnt), .val (.int fl), .val (.int z6), .val (.int (4 : Int32)), .val (.int z7), .val (.int z8), .val (.int z9), .val (.int z10), .val (.ref b11), .val (.ref bx225), .unset] [(.ref bx225)])) _
      refine XS.iconst X226.here hx rfl (hb hby at_267) ?_
      show Steps p.tables e below (T226.setTop (mkF m 268 #[.val (.int init), .val (.int sq), .val (.int cnt), .val (.int fl), .val (.int z6), .val (.int (4 : Int32)), .val (.int z7), .val (.int z8), .val (.int z9), .val (.int z10), .val (.ref b11), .val (.ref bx225), .unset] [(.int (2 : Int32)), (.ref bx225)])) _
      refine X226.iaload hx (j := (2 : Int32)) (v := (.int z9)) (by exact Ar268_236.1) (State.isArrayOf_alike hZ.alike Ar268_236.2.1) Ar268_236.2.2 hin268_236 hat268_236 (g := (mkF m 268 #[.val (.int init), .val (.int sq), .val (.int cnt), .val (.int fl), .val (.int z6), .val (.int (4 : Int32)), .val (.int z7), .val (.int z8), .val (.int z9), .val (.int z10), .val (.ref b11), .val (.ref bx225), .unset] [(.int (2 : Int32)), (.ref bx225)])) rfl rfl (hb hby at_268) _ ?_
      show Steps p.tables e below (T226.setTop (mkF m 269 #[.val (.int init), .val (.int sq), .val (.int cnt), .val (.int fl), .val (.int z6), .val (.int (4 : Int32)), .val (.int z7), .val (.int z8), .val (.int z9), .val (.int z10), .val (.ref b11), .val (.ref bx225), .unset] [(.int z9)])) _
      refine XS.iload X226.here hx rfl (hb hby at_269) rfl ?_
      show Steps p.tables e below (T226.setTop (mkF m 271 #[.val (.int init), .val (.int sq), .val (.int cnt), .val (.int fl), .val (.int z6), .val (.int (4 : Int32)), .val (.int z7), .val (.int z8), .val (.int z9), .val (.int z10), .val (.ref b11), .val (.ref bx225), .unset] [(.int z9), (.int z9)])) _
      refine XS.icmpNo X226.here hx rfl (hb hby at_271) rfl (teq hd237).2 ?_
      show Steps p.tables e below (T226.setTop (mkF m 274 #[.val (.int init), .val (.int sq), .val (.int cnt), .val (.int fl), .val (.int z6), .val (.int (4 : Int32)), .val (.int z7), .val (.int z8), .val (.int z9), .val (.int z10), .val (.ref b11), .val (.ref bx225), .unset] [])) _
      refine XS.iload X226.here hx rfl (hb hby at_274) rfl ?_
      show Steps p.tables e below (T226.setTop (mkF m 276 #[.val (.int init), .val (.int sq), .val (.int cnt), .val (.int fl), .val (.int z6), .val (.int (4 : Int32)), .val (.int z7), .val (.int z8), .val (.int z9), .val (.int z10), .val (.ref b11), .val (.ref bx225), .unset] [(.int (4 : Int32))])) _
      refine XS.iconst X226.here hx rfl (hb hby at_276) ?_
      show Steps p.tables e below (T226.setTop (mkF m 277 #[.val (.int init), .val (.int sq), .val (.int cnt), .val (.int fl), .val (.int z6), .val (.int (4 : Int32)), .val (.int z7), .val (.int z8), .val (.int z9), .val (.int z10), .val (.ref b11), .val (.ref bx225), .unset] [(.int (4 : Int32)), (.int (4 : Int32))])) _
      refine XS.icmpNo X226.here hx rfl (hb hby at_277) rfl (flt hd238).1 ?_
      show Steps p.tables e below (T226.setTop (mkF m 280 #[.val (.int init), .val (.int sq), .val (.int cnt), .val (.int fl), .val (.int z6), .val (.int (4 : Int32)), .val (.int z7), .val (.int z8), .val (.int z9), .val (.int z10), .val (.ref b11), .val (.ref bx225), .unset] [])) _
      refine XS.aload X226.here hx rfl (hb hby at_280) rfl rfl ?_
      show Steps p.tables e below (T226.setTop (mkF m 282 #[.val (.int init), .val (.int sq), .val (.int cnt), .val (.int fl), .val (.int z6), .val (.int (4 : Int32)), .val (.int z7), .val (.int z8), .val (.int z9), .val (.int z10), .val (.ref b11), .val (.ref bx225), .unset] [(.ref bx225)])) _
      refine XS.iconst X226.here hx rfl (hb hby at_282) ?_
      show Steps p.tables e below (T226.setTop (mkF m 283 #[.val (.int init), .val (.int sq), .val (.int cnt), .val (.int fl), .val (.int z6), .val (.int (4 : Int32)), .val (.int z7), .val (.int z8), .val (.int z9), .val (.int z10), .val (.ref b11), .val (.ref bx225), .unset] [(.int (3 : Int32)), (.ref bx225)])) _
      refine X226.iaload hx (j := (3 : Int32)) (v := (.int z10)) (by exact Ar283_239.1) (State.isArrayOf_alike hZ.alike Ar283_239.2.1) Ar283_239.2.2 hin283_239 hat283_239 (g := (mkF m 283 #[.val (.int init), .val (.int sq), .val (.int cnt), .val (.int fl), .val (.int z6), .val (.int (4 : Int32)), .val (.int z7), .val (.int z8), .val (.int z9), .val (.int z10), .val (.ref b11), .val (.ref bx225), .unset] [(.int (3 : Int32)), (.ref bx225)])) rfl rfl (hb hby at_283) _ ?_
      show Steps p.tables e below (T226.setTop (mkF m 284 #[.val (.int init), .val (.int sq), .val (.int cnt), .val (.int fl), .val (.int z6), .val (.int (4 : Int32)), .val (.int z7), .val (.int z8), .val (.int z9), .val (.int z10), .val (.ref b11), .val (.ref bx225), .unset] [(.int z10)])) _
      refine XS.iload X226.here hx rfl (hb hby at_284) rfl ?_
      show Steps p.tables e below (T226.setTop (mkF m 286 #[.val (.int init), .val (.int sq), .val (.int cnt), .val (.int fl), .val (.int z6), .val (.int (4 : Int32)), .val (.int z7), .val (.int z8), .val (.int z9), .val (.int z10), .val (.ref b11), .val (.ref bx225), .unset] [(.int z10), (.int z10)])) _
      refine XS.icmpNo X226.here hx rfl (hb hby at_286) rfl (teq hd240).2 ?_
      show Steps p.tables e below (T226.setTop (mkF m 289 #[.val (.int init), .val (.int sq), .val (.int cnt), .val (.int fl), .val (.int z6), .val (.int (4 : Int32)), .val (.int z7), .val (.int z8), .val (.int z9), .val (.int z10), .val (.ref b11), .val (.ref bx225), .unset] [])) _
      refine XS.iconst X226.here hx rfl (hb hby at_289) ?_
      show Steps p.tables e below (T226.setTop (mkF m 290 #[.val (.int init), .val (.int sq), .val (.int cnt), .val (.int fl), .val (.int z6), .val (.int (4 : Int32)), .val (.int z7), .val (.int z8), .val (.int z9), .val (.int z10), .val (.ref b11), .val (.ref bx225), .unset] [(.int (1 : Int32))])) _
      refine XS.goto X226.here hx rfl (pc0 := 290) (pc' := 294) rfl (hb hby at_290) (by decide) (by decide) ?_
      show Steps p.tables e below (T226.setTop (mkF m 294 #[.val (.int init), .val (.int sq), .val (.int cnt), .val (.int fl), .val (.int z6), .val (.int (4 : Int32)), .val (.int z7), .val (.int z8), .val (.int z9), .val (.int z10), .val (.ref b11), .val (.ref bx225), .unset] [(.int (1 : Int32))])) _
      refine XS.istore X226.here hx rfl (hb hby at_294) rfl (l' := #[.val (.int init), .val (.int sq), .val (.int cnt), .val (.int fl), .val (.int z6), .val (.int (4 : Int32)), .val (.int z7), .val (.int z8), .val (.int z9), .val (.int z10), .val (.ref b11), .val (.ref bx225), .val (.int (1 : Int32))]) rfl ?_
      show Steps p.tables e below (T226.setTop (mkF m 296 #[.val (.int init), .val (.int sq), .val (.int cnt), .val (.int fl), .val (.int z6), .val (.int (4 : Int32)), .val (.int z7), .val (.int z8), .val (.int z9), .val (.int z10), .val (.ref b11), .val (.ref bx225), .val (.int (1 : Int32))] [])) _
      refine XS.iload X226.here hx rfl (hb hby at_296) rfl ?_
      show Steps p.tables e below (T226.setTop (mkF m 298 #[.val (.int init), .val (.int sq), .val (.int cnt), .val (.int fl), .val (.int z6), .val (.int (4 : Int32)), .val (.int z7), .val (.int z8), .val (.int z9), .val (.int z10), .val (.ref b11), .val (.ref bx225), .val (.int (1 : Int32))] [(.int (1 : Int32))])) _
      refine XS.ifNo X226.here hx rfl (hb hby at_298) rfl ((if0 _ _).trans (feq hd241).1) ?_
      show Steps p.tables e below (T226.setTop (mkF m 301 #[.val (.int init), .val (.int sq), .val (.int cnt), .val (.int fl), .val (.int z6), .val (.int (4 : Int32)), .val (.int z7), .val (.int z8), .val (.int z9), .val (.int z10), .val (.ref b11), .val (.ref bx225), .val (.int (1 : Int32))] [])) _
      refine XS.aload X226.here hx rfl (hb hby at_301) rfl rfl ?_
      show Steps p.tables e below (T226.setTop (mkF m 303 #[.val (.int init), .val (.int sq), .val (.int cnt), .val (.int fl), .val (.int z6), .val (.int (4 : Int32)), .val (.int z7), .val (.int z8), .val (.int z9), .val (.int z10), .val (.ref b11), .val (.ref bx225), .val (.int (1 : Int32))] [(.ref b11)])) _
      refine XS.iconst X226.here hx rfl (hb hby at_303) ?_
      show Steps p.tables e below (T226.setTop (mkF m 304 #[.val (.int init), .val (.int sq), .val (.int cnt), .val (.int fl), .val (.int z6), .val (.int (4 : Int32)), .val (.int z7), .val (.int z8), .val (.int z9), .val (.int z10), .val (.ref b11), .val (.ref bx225), .val (.int (1 : Int32))] [(.int (0 : Int32)), (.ref b11)])) _
      refine XS.iloadN X226.here hx rfl (hb hby at_304) rfl ?_
      show Steps p.tables e below (T226.setTop (mkF m 305 #[.val (.int init), .val (.int sq), .val (.int cnt), .val (.int fl), .val (.int z6), .val (.int (4 : Int32)), .val (.int z7), .val (.int z8), .val (.int z9), .val (.int z10), .val (.ref b11), .val (.ref bx225), .val (.int (1 : Int32))] [(.int init), (.int (0 : Int32)), (.ref b11)])) _
      refine XS.iload X226.here hx rfl (hb hby at_305) rfl ?_
      show Steps p.tables e below (T226.setTop (mkF m 307 #[.val (.int init), .val (.int sq), .val (.int cnt), .val (.int fl), .val (.int z6), .val (.int (4 : Int32)), .val (.int z7), .val (.int z8), .val (.int z9), .val (.int z10), .val (.ref b11), .val (.ref bx225), .val (.int (1 : Int32))] [(.int (4 : Int32)), (.int init), (.int (0 : Int32)), (.ref b11)])) _
      refine XS.iload X226.here hx rfl (hb hby at_307) rfl ?_
      show Steps p.tables e below (T226.setTop (mkF m 309 #[.val (.int init), .val (.int sq), .val (.int cnt), .val (.int fl), .val (.int z6), .val (.int (4 : Int32)), .val (.int z7), .val (.int z8), .val (.int z9), .val (.int z10), .val (.ref b11), .val (.ref bx225), .val (.int (1 : Int32))] [(.int z7), (.int (4 : Int32)), (.int init), (.int (0 : Int32)), (.ref b11)])) _
      refine XS.iload X226.here hx rfl (hb hby at_309) rfl ?_
      show Steps p.tables e below (T226.setTop (mkF m 311 #[.val (.int init), .val (.int sq), .val (.int cnt), .val (.int fl), .val (.int z6), .val (.int (4 : Int32)), .val (.int z7), .val (.int z8), .val (.int z9), .val (.int z10), .val (.ref b11), .val (.ref bx225), .val (.int (1 : Int32))] [(.int z8), (.int z7), (.int (4 : Int32)), (.int init), (.int (0 : Int32)), (.ref b11)])) _
      refine XS.iload X226.here hx rfl (hb hby at_311) rfl ?_
      show Steps p.tables e below (T226.setTop (mkF m 313 #[.val (.int init), .val (.int sq), .val (.int cnt), .val (.int fl), .val (.int z6), .val (.int (4 : Int32)), .val (.int z7), .val (.int z8), .val (.int z9), .val (.int z10), .val (.ref b11), .val (.ref bx225), .val (.int (1 : Int32))] [(.int z9), (.int z8), (.int z7), (.int (4 : Int32)), (.int init), (.int (0 : Int32)), (.ref b11)])) _
      refine XS.iload X226.here hx rfl (hb hby at_313) rfl ?_
      show Steps p.tables e below (T226.setTop (mkF m 315 #[.val (.int init), .val (.int sq), .val (.int cnt), .val (.int fl), .val (.int z6), .val (.int (4 : Int32)), .val (.int z7), .val (.int z8), .val (.int z9), .val (.int z10), .val (.ref b11), .val (.ref bx225), .val (.int (1 : Int32))] [(.int z10), (.int z9), (.int z8), (.int z7), (.int (4 : Int32)), (.int init), (.int (0 : Int32)), (.ref b11)])) _
      refine XS.iload X226.here hx rfl (hb hby at_315) rfl ?_
      show Steps p.tables e below (T226.setTop (mkF m 317 #[.val (.int init), .val (.int sq), .val (.int cnt), .val (.int fl), .val (.int z6), .val (.int (4 : Int32)), .val (.int z7), .val (.int z8), .val (.int z9), .val (.int z10), .val (.ref b11), .val (.ref bx225), .val (.int (1 : Int32))] [(.int z6), (.int z10), (.int z9), (.int z8), (.int z7), (.int (4 : Int32)), (.int init), (.int (0 : Int32)), (.ref b11)])) _
      refine st243 _ ?_
      show Steps p.tables e below (T243.setTop (mkF m 320 #[.val (.int init), .val (.int sq), .val (.int cnt), .val (.int fl), .val (.int z6), .val (.int (4 : Int32)), .val (.int z7), .val (.int z8), .val (.int z9), .val (.int z10), .val (.ref b11), .val (.ref bx225), .val (.int (1 : Int32))] [(.int (atF (0 : Int32) init (4 : Int32) z7 z8 z9 z10 z6 xv242))])) _
      refine XS.ifNo X243.here hx rfl (hb hby at_320) rfl ((if0 _ _).trans (feq hd244).1) ?_
      show Steps p.tables e below (T243.setTop (mkF m 323 #[.val (.int init), .val (.int sq), .val (.int cnt), .val (.int fl), .val (.int z6), .val (.int (4 : Int32)), .val (.int z7), .val (.int z8), .val (.int z9), .val (.int z10), .val (.ref b11), .val (.ref bx225), .val (.int (1 : Int32))] [])) _
      refine XS.aload X243.here hx rfl (hb hby at_323) rfl rfl ?_
      show Steps p.tables e below (T243.setTop (mkF m 325 #[.val (.int init), .val (.int sq), .val (.int cnt), .val (.int fl), .val (.int z6), .val (.int (4 : Int32)), .val (.int z7), .val (.int z8), .val (.int z9), .val (.int z10), .val (.ref b11), .val (.ref bx225), .val (.int (1 : Int32))] [(.ref b11)])) _
      refine XS.iconst X243.here hx rfl (hb hby at_325) ?_
      show Steps p.tables e below (T243.setTop (mkF m 326 #[.val (.int init), .val (.int sq), .val (.int cnt), .val (.int fl), .val (.int z6), .val (.int (4 : Int32)), .val (.int z7), .val (.int z8), .val (.int z9), .val (.int z10), .val (.ref b11), .val (.ref bx225), .val (.int (1 : Int32))] [(.int (1 : Int32)), (.ref b11)])) _
      refine XS.iloadN X243.here hx rfl (hb hby at_326) rfl ?_
      show Steps p.tables e below (T243.setTop (mkF m 327 #[.val (.int init), .val (.int sq), .val (.int cnt), .val (.int fl), .val (.int z6), .val (.int (4 : Int32)), .val (.int z7), .val (.int z8), .val (.int z9), .val (.int z10), .val (.ref b11), .val (.ref bx225), .val (.int (1 : Int32))] [(.int init), (.int (1 : Int32)), (.ref b11)])) _
      refine XS.iload X243.here hx rfl (hb hby at_327) rfl ?_
      show Steps p.tables e below (T243.setTop (mkF m 329 #[.val (.int init), .val (.int sq), .val (.int cnt), .val (.int fl), .val (.int z6), .val (.int (4 : Int32)), .val (.int z7), .val (.int z8), .val (.int z9), .val (.int z10), .val (.ref b11), .val (.ref bx225), .val (.int (1 : Int32))] [(.int (4 : Int32)), (.int init), (.int (1 : Int32)), (.ref b11)])) _
      refine XS.iload X243.here hx rfl (hb hby at_329) rfl ?_
      show Steps p.tables e below (T243.setTop (mkF m 331 #[.val (.int init), .val (.int sq), .val (.int cnt), .val (.int fl), .val (.int z6), .val (.int (4 : Int32)), .val (.int z7), .val (.int z8), .val (.int z9), .val (.int z10), .val (.ref b11), .val (.ref bx225), .val (.int (1 : Int32))] [(.int z7), (.int (4 : Int32)), (.int init), (.int (1 : Int32)), (.ref b11)])) _
      refine XS.iload X243.here hx rfl (hb hby at_331) rfl ?_
      show Steps p.tables e below (T243.setTop (mkF m 333 #[.val (.int init), .val (.int sq), .val (.int cnt), .val (.int fl), .val (.int z6), .val (.int (4 : Int32)), .val (.int z7), .val (.int z8), .val (.int z9), .val (.int z10), .val (.ref b11), .val (.ref bx225), .val (.int (1 : Int32))] [(.int z8), (.int z7), (.int (4 : Int32)), (.int init), (.int (1 : Int32)), (.ref b11)])) _
      refine XS.iload X243.here hx rfl (hb hby at_333) rfl ?_
      show Steps p.tables e below (T243.setTop (mkF m 335 #[.val (.int init), .val (.int sq), .val (.int cnt), .val (.int fl), .val (.int z6), .val (.int (4 : Int32)), .val (.int z7), .val (.int z8), .val (.int z9), .val (.int z10), .val (.ref b11), .val (.ref bx225), .val (.int (1 : Int32))] [(.int z9), (.int z8), (.int z7), (.int (4 : Int32)), (.int init), (.int (1 : Int32)), (.ref b11)])) _
      refine XS.iload X243.here hx rfl (hb hby at_335) rfl ?_
      show Steps p.tables e below (T243.setTop (mkF m 337 #[.val (.int init), .val (.int sq), .val (.int cnt), .val (.int fl), .val (.int z6), .val (.int (4 : Int32)), .val (.int z7), .val (.int z8), .val (.int z9), .val (.int z10), .val (.ref b11), .val (.ref bx225), .val (.int (1 : Int32))] [(.int z10), (.int z9), (.int z8), (.int z7), (.int (4 : Int32)), (.int init), (.int (1 : Int32)), (.ref b11)])) _
      refine XS.iload X243.here hx rfl (hb hby at_337) rfl ?_
      show Steps p.tables e below (T243.setTop (mkF m 339 #[.val (.int init), .val (.int sq), .val (.int cnt), .val (.int fl), .val (.int z6), .val (.int (4 : Int32)), .val (.int z7), .val (.int z8), .val (.int z9), .val (.int z10), .val (.ref b11), .val (.ref bx225), .val (.int (1 : Int32))] [(.int z6), (.int z10), (.int z9), (.int z8), (.int z7), (.int (4 : Int32)), (.int init), (.int (1 : Int32)), (.ref b11)])) _
      refine st246 _ ?_
      show Steps p.tables e below (T246.setTop (mkF m 342 #[.val (.int init), .val (.int sq), .val (.int cnt), .val (.int fl), .val (.int z6), .val (.int (4 : Int32)), .val (.int z7), .val (.int z8), .val (.int z9), .val (.int z10), .val (.ref b11), .val (.ref bx225), .val (.int (1 : Int32))] [(.int (atF (1 : Int32) init (4 : Int32) z7 z8 z9 z10 z6 xv245))])) _
      refine XS.ifNo X246.here hx rfl (hb hby at_342) rfl ((if0 _ _).trans (feq hd247).1) ?_
      show Steps p.tables e below (T246.setTop (mkF m 345 #[.val (.int init), .val (.int sq), .val (.int cnt), .val (.int fl), .val (.int z6), .val (.int (4 : Int32)), .val (.int z7), .val (.int z8), .val (.int z9), .val (.int z10), .val (.ref b11), .val (.ref bx225), .val (.int (1 : Int32))] [])) _
      refine XS.aload X246.here hx rfl (hb hby at_345) rfl rfl ?_
      show Steps p.tables e below (T246.setTop (mkF m 347 #[.val (.int init), .val (.int sq), .val (.int cnt), .val (.int fl), .val (.int z6), .val (.int (4 : Int32)), .val (.int z7), .val (.int z8), .val (.int z9), .val (.int z10), .val (.ref b11), .val (.ref bx225), .val (.int (1 : Int32))] [(.ref b11)])) _
      refine XS.iconst X246.here hx rfl (hb hby at_347) ?_
      show Steps p.tables e below (T246.setTop (mkF m 348 #[.val (.int init), .val (.int sq), .val (.int cnt), .val (.int fl), .val (.int z6), .val (.int (4 : Int32)), .val (.int z7), .val (.int z8), .val (.int z9), .val (.int z10), .val (.ref b11), .val (.ref bx225), .val (.int (1 : Int32))] [(.int (2 : Int32)), (.ref b11)])) _
      refine XS.iloadN X246.here hx rfl (hb hby at_348) rfl ?_
      show Steps p.tables e below (T246.setTop (mkF m 349 #[.val (.int init), .val (.int sq), .val (.int cnt), .val (.int fl), .val (.int z6), .val (.int (4 : Int32)), .val (.int z7), .val (.int z8), .val (.int z9), .val (.int z10), .val (.ref b11), .val (.ref bx225), .val (.int (1 : Int32))] [(.int init), (.int (2 : Int32)), (.ref b11)])) _
      refine XS.iload X246.here hx rfl (hb hby at_349) rfl ?_
      show Steps p.tables e below (T246.setTop (mkF m 351 #[.val (.int init), .val (.int sq), .val (.int cnt), .val (.int fl), .val (.int z6), .val (.int (4 : Int32)), .val (.int z7), .val (.int z8), .val (.int z9), .val (.int z10), .val (.ref b11), .val (.ref bx225), .val (.int (1 : Int32))] [(.int (4 : Int32)), (.int init), (.int (2 : Int32)), (.ref b11)])) _
      refine XS.iload X246.here hx rfl (hb hby at_351) rfl ?_
      show Steps p.tables e below (T246.setTop (mkF m 353 #[.val (.int init), .val (.int sq), .val (.int cnt), .val (.int fl), .val (.int z6), .val (.int (4 : Int32)), .val (.int z7), .val (.int z8), .val (.int z9), .val (.int z10), .val (.ref b11), .val (.ref bx225), .val (.int (1 : Int32))] [(.int z7), (.int (4 : Int32)), (.int init), (.int (2 : Int32)), (.ref b11)])) _
      refine XS.iload X246.here hx rfl (hb hby at_353) rfl ?_
      show Steps p.tables e below (T246.setTop (mkF m 355 #[.val (.int init), .val (.int sq), .val (.int cnt), .val (.int fl), .val (.int z6), .val (.int (4 : Int32)), .val (.int z7), .val (.int z8), .val (.int z9), .val (.int z10), .val (.ref b11), .val (.ref bx225), .val (.int (1 : Int32))] [(.int z8), (.int z7), (.int (4 : Int32)), (.int init), (.int (2 : Int32)), (.ref b11)])) _
      refine XS.iload X246.here hx rfl (hb hby at_355) rfl ?_
      show Steps p.tables e below (T246.setTop (mkF m 357 #[.val (.int init), .val (.int sq), .val (.int cnt), .val (.int fl), .val (.int z6), .val (.int (4 : Int32)), .val (.int z7), .val (.int z8), .val (.int z9), .val (.int z10), .val (.ref b11), .val (.ref bx225), .val (.int (1 : Int32))] [(.int z9), (.int z8), (.int z7), (.int (4 : Int32)), (.int init), (.int (2 : Int32)), (.ref b11)])) _
      refine XS.iload X246.here hx rfl (hb hby at_357) rfl ?_
      show Steps p.tables e below (T246.setTop (mkF m 359 #[.val (.int init), .val (.int sq), .val (.int cnt), .val (.int fl), .val (.int z6), .val (.int (4 : Int32)), .val (.int z7), .val (.int z8), .val (.int z9), .val (.int z10), .val (.ref b11), .val (.ref bx225), .val (.int (1 : Int32))] [(.int z10), (.int z9), (.int z8), (.int z7), (.int (4 : Int32)), (.int init), (.int (2 : Int32)), (.ref b11)])) _
      refine XS.iload X246.here hx rfl (hb hby at_359) rfl ?_
      show Steps p.tables e below (T246.setTop (mkF m 361 #[.val (.int init), .val (.int sq), .val (.int cnt), .val (.int fl), .val (.int z6), .val (.int (4 : Int32)), .val (.int z7), .val (.int z8), .val (.int z9), .val (.int z10), .val (.ref b11), .val (.ref bx225), .val (.int (1 : Int32))] [(.int z6), (.int z10), (.int z9), (.int z8), (.int z7), (.int (4 : Int32)), (.int init), (.int (2 : Int32)), (.ref b11)])) _
      refine st249 _ ?_
      show Steps p.tables e below (T249.setTop (mkF m 364 #[.val (.int init), .val (.int sq), .val (.int cnt), .val (.int fl), .val (.int z6), .val (.int (4 : Int32)), .val (.int z7), .val (.int z8), .val (.int z9), .val (.int z10), .val (.ref b11), .val (.ref bx225), .val (.int (1 : Int32))] [(.int (atF (2 : Int32) init (4 : Int32) z7 z8 z9 z10 z6 xv248))])) _
      refine XS.ifNo X249.here hx rfl (hb hby at_364) rfl ((if0 _ _).trans (feq hd250).1) ?_
      show Steps p.tables e below (T249.setTop (mkF m 367 #[.val (.int init), .val (.int sq), .val (.int cnt), .val (.int fl), .val (.int z6), .val (.int (4 : Int32)), .val (.int z7), .val (.int z8), .val (.int z9), .val (.int z10), .val (.ref b11), .val (.ref bx225), .val (.int (1 : Int32))] [])) _
      refine XS.aload X249.here hx rfl (hb hby at_367) rfl rfl ?_
      show Steps p.tables e below (T249.setTop (mkF m 369 #[.val (.int init), .val (.int sq), .val (.int cnt), .val (.int fl), .val (.int z6), .val (.int (4 : Int32)), .val (.int z7), .val (.int z8), .val (.int z9), .val (.int z10), .val (.ref b11), .val (.ref bx225), .val (.int (1 : Int32))] [(.ref b11)])) _
      refine XS.iconst X249.here hx rfl (hb hby at_369) ?_
      show Steps p.tables e below (T249.setTop (mkF m 370 #[.val (.int init), .val (.int sq), .val (.int cnt), .val (.int fl), .val (.int z6), .val (.int (4 : Int32)), .val (.int z7), .val (.int z8), .val (.int z9), .val (.int z10), .val (.ref b11), .val (.ref bx225), .val (.int (1 : Int32))] [(.int (3 : Int32)), (.ref b11)])) _
      refine XS.iloadN X249.here hx rfl (hb hby at_370) rfl ?_
      show Steps p.tables e below (T249.setTop (mkF m 371 #[.val (.int init), .val (.int sq), .val (.int cnt), .val (.int fl), .val (.int z6), .val (.int (4 : Int32)), .val (.int z7), .val (.int z8), .val (.int z9), .val (.int z10), .val (.ref b11), .val (.ref bx225), .val (.int (1 : Int32))] [(.int init), (.int (3 : Int32)), (.ref b11)])) _
      refine XS.iload X249.here hx rfl (hb hby at_371) rfl ?_
      show Steps p.tables e below (T249.setTop (mkF m 373 #[.val (.int init), .val (.int sq), .val (.int cnt), .val (.int fl), .val (.int z6), .val (.int (4 : Int32)), .val (.int z7), .val (.int z8), .val (.int z9), .val (.int z10), .val (.ref b11), .val (.ref bx225), .val (.int (1 : Int32))] [(.int (4 : Int32)), (.int init), (.int (3 : Int32)), (.ref b11)])) _
      refine XS.iload X249.here hx rfl (hb hby at_373) rfl ?_
      show Steps p.tables e below (T249.setTop (mkF m 375 #[.val (.int init), .val (.int sq), .val (.int cnt), .val (.int fl), .val (.int z6), .val (.int (4 : Int32)), .val (.int z7), .val (.int z8), .val (.int z9), .val (.int z10), .val (.ref b11), .val (.ref bx225), .val (.int (1 : Int32))] [(.int z7), (.int (4 : Int32)), (.int init), (.int (3 : Int32)), (.ref b11)])) _
      refine XS.iload X249.here hx rfl (hb hby at_375) rfl ?_
      show Steps p.tables e below (T249.setTop (mkF m 377 #[.val (.int init), .val (.int sq), .val (.int cnt), .val (.int fl), .val (.int z6), .val (.int (4 : Int32)), .val (.int z7), .val (.int z8), .val (.int z9), .val (.int z10), .val (.ref b11), .val (.ref bx225), .val (.int (1 : Int32))] [(.int z8), (.int z7), (.int (4 : Int32)), (.int init), (.int (3 : Int32)), (.ref b11)])) _
      refine XS.iload X249.here hx rfl (hb hby at_377) rfl ?_
      show Steps p.tables e below (T249.setTop (mkF m 379 #[.val (.int init), .val (.int sq), .val (.int cnt), .val (.int fl), .val (.int z6), .val (.int (4 : Int32)), .val (.int z7), .val (.int z8), .val (.int z9), .val (.int z10), .val (.ref b11), .val (.ref bx225), .val (.int (1 : Int32))] [(.int z9), (.int z8), (.int z7), (.int (4 : Int32)), (.int init), (.int (3 : Int32)), (.ref b11)])) _
      refine XS.iload X249.here hx rfl (hb hby at_379) rfl ?_
      show Steps p.tables e below (T249.setTop (mkF m 381 #[.val (.int init), .val (.int sq), .val (.int cnt), .val (.int fl), .val (.int z6), .val (.int (4 : Int32)), .val (.int z7), .val (.int z8), .val (.int z9), .val (.int z10), .val (.ref b11), .val (.ref bx225), .val (.int (1 : Int32))] [(.int z10), (.int z9), (.int z8), (.int z7), (.int (4 : Int32)), (.int init), (.int (3 : Int32)), (.ref b11)])) _
      refine XS.iload X249.here hx rfl (hb hby at_381) rfl ?_
      show Steps p.tables e below (T249.setTop (mkF m 383 #[.val (.int init), .val (.int sq), .val (.int cnt), .val (.int fl), .val (.int z6), .val (.int (4 : Int32)), .val (.int z7), .val (.int z8), .val (.int z9), .val (.int z10), .val (.ref b11), .val (.ref bx225), .val (.int (1 : Int32))] [(.int z6), (.int z10), (.int z9), (.int z8), (.int z7), (.int (4 : Int32)), (.int init), (.int (3 : Int32)), (.ref b11)])) _
      refine st252 _ ?_
      show Steps p.tables e below (T252.setTop (mkF m 386 #[.val (.int init), .val (.int sq), .val (.int cnt), .val (.int fl), .val (.int z6), .val (.int (4 : Int32)), .val (.int z7), .val (.int z8), .val (.int z9), .val (.int z10), .val (.ref b11), .val (.ref bx225), .val (.int (1 : Int32))] [(.int (atF (3 : Int32) init (4 : Int32) z7 z8 z9 z10 z6 xv251))])) _
      refine XS.ifNo X252.here hx rfl (hb hby at_386) rfl ((if0 _ _).trans (feq hd253).1) ?_
      show Steps p.tables e below (T252.setTop (mkF m 389 #[.val (.int init), .val (.int sq), .val (.int cnt), .val (.int fl), .val (.int z6), .val (.int (4 : Int32)), .val (.int z7), .val (.int z8), .val (.int z9), .val (.int z10), .val (.ref b11), .val (.ref bx225), .val (.int (1 : Int32))] [])) _
      refine XS.aload X252.here hx rfl (hb hby at_389) rfl rfl ?_
      show Steps p.tables e below (T252.setTop (mkF m 391 #[.val (.int init), .val (.int sq), .val (.int cnt), .val (.int fl), .val (.int z6), .val (.int (4 : Int32)), .val (.int z7), .val (.int z8), .val (.int z9), .val (.int z10), .val (.ref b11), .val (.ref bx225), .val (.int (1 : Int32))] [(.ref b11)])) _
      refine XS.iconst X252.here hx rfl (hb hby at_391) ?_
      show Steps p.tables e below (T252.setTop (mkF m 392 #[.val (.int init), .val (.int sq), .val (.int cnt), .val (.int fl), .val (.int z6), .val (.int (4 : Int32)), .val (.int z7), .val (.int z8), .val (.int z9), .val (.int z10), .val (.ref b11), .val (.ref bx225), .val (.int (1 : Int32))] [(.int (4 : Int32)), (.ref b11)])) _
      refine XS.iloadN X252.here hx rfl (hb hby at_392) rfl ?_
      show Steps p.tables e below (T252.setTop (mkF m 393 #[.val (.int init), .val (.int sq), .val (.int cnt), .val (.int fl), .val (.int z6), .val (.int (4 : Int32)), .val (.int z7), .val (.int z8), .val (.int z9), .val (.int z10), .val (.ref b11), .val (.ref bx225), .val (.int (1 : Int32))] [(.int init), (.int (4 : Int32)), (.ref b11)])) _
      refine XS.iload X252.here hx rfl (hb hby at_393) rfl ?_
      show Steps p.tables e below (T252.setTop (mkF m 395 #[.val (.int init), .val (.int sq), .val (.int cnt), .val (.int fl), .val (.int z6), .val (.int (4 : Int32)), .val (.int z7), .val (.int z8), .val (.int z9), .val (.int z10), .val (.ref b11), .val (.ref bx225), .val (.int (1 : Int32))] [(.int (4 : Int32)), (.int init), (.int (4 : Int32)), (.ref b11)])) _
      refine XS.iload X252.here hx rfl (hb hby at_395) rfl ?_
      show Steps p.tables e below (T252.setTop (mkF m 397 #[.val (.int init), .val (.int sq), .val (.int cnt), .val (.int fl), .val (.int z6), .val (.int (4 : Int32)), .val (.int z7), .val (.int z8), .val (.int z9), .val (.int z10), .val (.ref b11), .val (.ref bx225), .val (.int (1 : Int32))] [(.int z7), (.int (4 : Int32)), (.int init), (.int (4 : Int32)), (.ref b11)])) _
      refine XS.iload X252.here hx rfl (hb hby at_397) rfl ?_
      show Steps p.tables e below (T252.setTop (mkF m 399 #[.val (.int init), .val (.int sq), .val (.int cnt), .val (.int fl), .val (.int z6), .val (.int (4 : Int32)), .val (.int z7), .val (.int z8), .val (.int z9), .val (.int z10), .val (.ref b11), .val (.ref bx225), .val (.int (1 : Int32))] [(.int z8), (.int z7), (.int (4 : Int32)), (.int init), (.int (4 : Int32)), (.ref b11)])) _
      refine XS.iload X252.here hx rfl (hb hby at_399) rfl ?_
      show Steps p.tables e below (T252.setTop (mkF m 401 #[.val (.int init), .val (.int sq), .val (.int cnt), .val (.int fl), .val (.int z6), .val (.int (4 : Int32)), .val (.int z7), .val (.int z8), .val (.int z9), .val (.int z10), .val (.ref b11), .val (.ref bx225), .val (.int (1 : Int32))] [(.int z9), (.int z8), (.int z7), (.int (4 : Int32)), (.int init), (.int (4 : Int32)), (.ref b11)])) _
      refine XS.iload X252.here hx rfl (hb hby at_401) rfl ?_
      show Steps p.tables e below (T252.setTop (mkF m 403 #[.val (.int init), .val (.int sq), .val (.int cnt), .val (.int fl), .val (.int z6), .val (.int (4 : Int32)), .val (.int z7), .val (.int z8), .val (.int z9), .val (.int z10), .val (.ref b11), .val (.ref bx225), .val (.int (1 : Int32))] [(.int z10), (.int z9), (.int z8), (.int z7), (.int (4 : Int32)), (.int init), (.int (4 : Int32)), (.ref b11)])) _
      refine XS.iload X252.here hx rfl (hb hby at_403) rfl ?_
      show Steps p.tables e below (T252.setTop (mkF m 405 #[.val (.int init), .val (.int sq), .val (.int cnt), .val (.int fl), .val (.int z6), .val (.int (4 : Int32)), .val (.int z7), .val (.int z8), .val (.int z9), .val (.int z10), .val (.ref b11), .val (.ref bx225), .val (.int (1 : Int32))] [(.int z6), (.int z10), (.int z9), (.int z8), (.int z7), (.int (4 : Int32)), (.int init), (.int (4 : Int32)), (.ref b11)])) _
      refine st255 _ ?_
      show Steps p.tables e below (T255.setTop (mkF m 408 #[.val (.int init), .val (.int sq), .val (.int cnt), .val (.int fl), .val (.int z6), .val (.int (4 : Int32)), .val (.int z7), .val (.int z8), .val (.int z9), .val (.int z10), .val (.ref b11), .val (.ref bx225), .val (.int (1 : Int32))] [(.int (atF (4 : Int32) init (4 : Int32) z7 z8 z9 z10 z6 xv254))])) _
      refine XS.ifNo X255.here hx rfl (hb hby at_408) rfl ((if0 _ _).trans (feq hd256).1) ?_
      show Steps p.tables e below (T255.setTop (mkF m 411 #[.val (.int init), .val (.int sq), .val (.int cnt), .val (.int fl), .val (.int z6), .val (.int (4 : Int32)), .val (.int z7), .val (.int z8), .val (.int z9), .val (.int z10), .val (.ref b11), .val (.ref bx225), .val (.int (1 : Int32))] [])) _
      refine XS.aload X255.here hx rfl (hb hby at_411) rfl rfl ?_
      show Steps p.tables e below (T255.setTop (mkF m 413 #[.val (.int init), .val (.int sq), .val (.int cnt), .val (.int fl), .val (.int z6), .val (.int (4 : Int32)), .val (.int z7), .val (.int z8), .val (.int z9), .val (.int z10), .val (.ref b11), .val (.ref bx225), .val (.int (1 : Int32))] [(.ref b11)])) _
      refine XS.iconst X255.here hx rfl (hb hby at_413) ?_
      show Steps p.tables e below (T255.setTop (mkF m 414 #[.val (.int init), .val (.int sq), .val (.int cnt), .val (.int fl), .val (.int z6), .val (.int (4 : Int32)), .val (.int z7), .val (.int z8), .val (.int z9), .val (.int z10), .val (.ref b11), .val (.ref bx225), .val (.int (1 : Int32))] [(.int (5 : Int32)), (.ref b11)])) _
      refine XS.iloadN X255.here hx rfl (hb hby at_414) rfl ?_
      show Steps p.tables e below (T255.setTop (mkF m 415 #[.val (.int init), .val (.int sq), .val (.int cnt), .val (.int fl), .val (.int z6), .val (.int (4 : Int32)), .val (.int z7), .val (.int z8), .val (.int z9), .val (.int z10), .val (.ref b11), .val (.ref bx225), .val (.int (1 : Int32))] [(.int init), (.int (5 : Int32)), (.ref b11)])) _
      refine XS.iload X255.here hx rfl (hb hby at_415) rfl ?_
      show Steps p.tables e below (T255.setTop (mkF m 417 #[.val (.int init), .val (.int sq), .val (.int cnt), .val (.int fl), .val (.int z6), .val (.int (4 : Int32)), .val (.int z7), .val (.int z8), .val (.int z9), .val (.int z10), .val (.ref b11), .val (.ref bx225), .val (.int (1 : Int32))] [(.int (4 : Int32)), (.int init), (.int (5 : Int32)), (.ref b11)])) _
      refine XS.iload X255.here hx rfl (hb hby at_417) rfl ?_
      show Steps p.tables e below (T255.setTop (mkF m 419 #[.val (.int init), .val (.int sq), .val (.int cnt), .val (.int fl), .val (.int z6), .val (.int (4 : Int32)), .val (.int z7), .val (.int z8), .val (.int z9), .val (.int z10), .val (.ref b11), .val (.ref bx225), .val (.int (1 : Int32))] [(.int z7), (.int (4 : Int32)), (.int init), (.int (5 : Int32)), (.ref b11)])) _
      refine XS.iload X255.here hx rfl (hb hby at_419) rfl ?_
      show Steps p.tables e below (T255.setTop (mkF m 421 #[.val (.int init), .val (.int sq), .val (.int cnt), .val (.int fl), .val (.int z6), .val (.int (4 : Int32)), .val (.int z7), .val (.int z8), .val (.int z9), .val (.int z10), .val (.ref b11), .val (.ref bx225), .val (.int (1 : Int32))] [(.int z8), (.int z7), (.int (4 : Int32)), (.int init), (.int (5 : Int32)), (.ref b11)])) _
      refine XS.iload X255.here hx rfl (hb hby at_421) rfl ?_
      show Steps p.tables e below (T255.setTop (mkF m 423 #[.val (.int init), .val (.int sq), .val (.int cnt), .val (.int fl), .val (.int z6), .val (.int (4 : Int32)), .val (.int z7), .val (.int z8), .val (.int z9), .val (.int z10), .val (.ref b11), .val (.ref bx225), .val (.int (1 : Int32))] [(.int z9), (.int z8), (.int z7), (.int (4 : Int32)), (.int init), (.int (5 : Int32)), (.ref b11)])) _
      refine XS.iload X255.here hx rfl (hb hby at_423) rfl ?_
      show Steps p.tables e below (T255.setTop (mkF m 425 #[.val (.int init), .val (.int sq), .val (.int cnt), .val (.int fl), .val (.int z6), .val (.int (4 : Int32)), .val (.int z7), .val (.int z8), .val (.int z9), .val (.int z10), .val (.ref b11), .val (.ref bx225), .val (.int (1 : Int32))] [(.int z10), (.int z9), (.int z8), (.int z7), (.int (4 : Int32)), (.int init), (.int (5 : Int32)), (.ref b11)])) _
      refine XS.iload X255.here hx rfl (hb hby at_425) rfl ?_
      show Steps p.tables e below (T255.setTop (mkF m 427 #[.val (.int init), .val (.int sq), .val (.int cnt), .val (.int fl), .val (.int z6), .val (.int (4 : Int32)), .val (.int z7), .val (.int z8), .val (.int z9), .val (.int z10), .val (.ref b11), .val (.ref bx225), .val (.int (1 : Int32))] [(.int z6), (.int z10), (.int z9), (.int z8), (.int z7), (.int (4 : Int32)), (.int init), (.int (5 : Int32)), (.ref b11)])) _
      refine st258 _ ?_
      show Steps p.tables e below (T258.setTop (mkF m 430 #[.val (.int init), .val (.int sq), .val (.int cnt), .val (.int fl), .val (.int z6), .val (.int (4 : Int32)), .val (.int z7), .val (.int z8), .val (.int z9), .val (.int z10), .val (.ref b11), .val (.ref bx225), .val (.int (1 : Int32))] [(.int (atF (5 : Int32) init (4 : Int32) z7 z8 z9 z10 z6 xv257))])) _
      refine XS.ifNo X258.here hx rfl (hb hby at_430) rfl ((if0 _ _).trans (feq hd259).1) ?_
      show Steps p.tables e below (T258.setTop (mkF m 433 #[.val (.int init), .val (.int sq), .val (.int cnt), .val (.int fl), .val (.int z6), .val (.int (4 : Int32)), .val (.int z7), .val (.int z8), .val (.int z9), .val (.int z10), .val (.ref b11), .val (.ref bx225), .val (.int (1 : Int32))] [])) _
      refine XS.aload X258.here hx rfl (hb hby at_433) rfl rfl ?_
      show Steps p.tables e below (T258.setTop (mkF m 435 #[.val (.int init), .val (.int sq), .val (.int cnt), .val (.int fl), .val (.int z6), .val (.int (4 : Int32)), .val (.int z7), .val (.int z8), .val (.int z9), .val (.int z10), .val (.ref b11), .val (.ref bx225), .val (.int (1 : Int32))] [(.ref b11)])) _
      refine XS.bipush X258.here hx rfl (hb hby at_435) ?_
      show Steps p.tables e below (T258.setTop (mkF m 437 #[.val (.int init), .val (.int sq), .val (.int cnt), .val (.int fl), .val (.int z6), .val (.int (4 : Int32)), .val (.int z7), .val (.int z8), .val (.int z9), .val (.int z10), .val (.ref b11), .val (.ref bx225), .val (.int (1 : Int32))] [(.int (6 : Int32)), (.ref b11)])) _
      refine XS.iloadN X258.here hx rfl (hb hby at_437) rfl ?_
      show Steps p.tables e below (T258.setTop (mkF m 438 #[.val (.int init), .val (.int sq), .val (.int cnt), .val (.int fl), .val (.int z6), .val (.int (4 : Int32)), .val (.int z7), .val (.int z8), .val (.int z9), .val (.int z10), .val (.ref b11), .val (.ref bx225), .val (.int (1 : Int32))] [(.int init), (.int (6 : Int32)), (.ref b11)])) _
      refine XS.iload X258.here hx rfl (hb hby at_438) rfl ?_
      show Steps p.tables e below (T258.setTop (mkF m 440 #[.val (.int init), .val (.int sq), .val (.int cnt), .val (.int fl), .val (.int z6), .val (.int (4 : Int32)), .val (.int z7), .val (.int z8), .val (.int z9), .val (.int z10), .val (.ref b11), .val (.ref bx225), .val (.int (1 : Int32))] [(.int (4 : Int32)), (.int init), (.int (6 : Int32)), (.ref b11)])) _
      refine XS.iload X258.here hx rfl (hb hby at_440) rfl ?_
      show Steps p.tables e below (T258.setTop (mkF m 442 #[.val (.int init), .val (.int sq), .val (.int cnt), .val (.int fl), .val (.int z6), .val (.int (4 : Int32)), .val (.int z7), .val (.int z8), .val (.int z9), .val (.int z10), .val (.ref b11), .val (.ref bx225), .val (.int (1 : Int32))] [(.int z7), (.int (4 : Int32)), (.int init), (.int (6 : Int32)), (.ref b11)])) _
      refine XS.iload X258.here hx rfl (hb hby at_442) rfl ?_
      show Steps p.tables e below (T258.setTop (mkF m 444 #[.val (.int init), .val (.int sq), .val (.int cnt), .val (.int fl), .val (.int z6), .val (.int (4 : Int32)), .val (.int z7), .val (.int z8), .val (.int z9), .val (.int z10), .val (.ref b11), .val (.ref bx225), .val (.int (1 : Int32))] [(.int z8), (.int z7), (.int (4 : Int32)), (.int init), (.int (6 : Int32)), (.ref b11)])) _
      refine XS.iload X258.here hx rfl (hb hby at_444) rfl ?_
      show Steps p.tables e below (T258.setTop (mkF m 446 #[.val (.int init), .val (.int sq), .val (.int cnt), .val (.int fl), .val (.int z6), .val (.int (4 : Int32)), .val (.int z7), .val (.int z8), .val (.int z9), .val (.int z10), .val (.ref b11), .val (.ref bx225), .val (.int (1 : Int32))] [(.int z9), (.int z8), (.int z7), (.int (4 : Int32)), (.int init), (.int (6 : Int32)), (.ref b11)])) _
      refine XS.iload X258.here hx rfl (hb hby at_446) rfl ?_
      show Steps p.tables e below (T258.setTop (mkF m 448 #[.val (.int init), .val (.int sq), .val (.int cnt), .val (.int fl), .val (.int z6), .val (.int (4 : Int32)), .val (.int z7), .val (.int z8), .val (.int z9), .val (.int z10), .val (.ref b11), .val (.ref bx225), .val (.int (1 : Int32))] [(.int z10), (.int z9), (.int z8), (.int z7), (.int (4 : Int32)), (.int init), (.int (6 : Int32)), (.ref b11)])) _
      refine XS.iload X258.here hx rfl (hb hby at_448) rfl ?_
      show Steps p.tables e below (T258.setTop (mkF m 450 #[.val (.int init), .val (.int sq), .val (.int cnt), .val (.int fl), .val (.int z6), .val (.int (4 : Int32)), .val (.int z7), .val (.int z8), .val (.int z9), .val (.int z10), .val (.ref b11), .val (.ref bx225), .val (.int (1 : Int32))] [(.int z6), (.int z10), (.int z9), (.int z8), (.int z7), (.int (4 : Int32)), (.int init), (.int (6 : Int32)), (.ref b11)])) _
      refine st261 _ ?_
      show Steps p.tables e below (T261.setTop (mkF m 453 #[.val (.int init), .val (.int sq), .val (.int cnt), .val (.int fl), .val (.int z6), .val (.int (4 : Int32)), .val (.int z7), .val (.int z8), .val (.int z9), .val (.int z10), .val (.ref b11), .val (.ref bx225), .val (.int (1 : Int32))] [(.int (atF (6 : Int32) init (4 : Int32) z7 z8 z9 z10 z6 xv260))])) _
      refine XS.ifNo X261.here hx rfl (hb hby at_453) rfl ((if0 _ _).trans (feq hd262).1) ?_
      show Steps p.tables e below (T261.setTop (mkF m 456 #[.val (.int init), .val (.int sq), .val (.int cnt), .val (.int fl), .val (.int z6), .val (.int (4 : Int32)), .val (.int z7), .val (.int z8), .val (.int z9), .val (.int z10), .val (.ref b11), .val (.ref bx225), .val (.int (1 : Int32))] [])) _
      refine XS.aload X261.here hx rfl (hb hby at_456) rfl rfl ?_
      show Steps p.tables e below (T261.setTop (mkF m 458 #[.val (.int init), .val (.int sq), .val (.int cnt), .val (.int fl), .val (.int z6), .val (.int (4 : Int32)), .val (.int z7), .val (.int z8), .val (.int z9), .val (.int z10), .val (.ref b11), .val (.ref bx225), .val (.int (1 : Int32))] [(.ref b11)])) _
      refine XS.bipush X261.here hx rfl (hb hby at_458) ?_
      show Steps p.tables e below (T261.setTop (mkF m 460 #[.val (.int init), .val (.int sq), .val (.int cnt), .val (.int fl), .val (.int z6), .val (.int (4 : Int32)), .val (.int z7), .val (.int z8), .val (.int z9), .val (.int z10), .val (.ref b11), .val (.ref bx225), .val (.int (1 : Int32))] [(.int (7 : Int32)), (.ref b11)])) _
      refine XS.iloadN X261.here hx rfl (hb hby at_460) rfl ?_
      show Steps p.tables e below (T261.setTop (mkF m 461 #[.val (.int init), .val (.int sq), .val (.int cnt), .val (.int fl), .val (.int z6), .val (.int (4 : Int32)), .val (.int z7), .val (.int z8), .val (.int z9), .val (.int z10), .val (.ref b11), .val (.ref bx225), .val (.int (1 : Int32))] [(.int init), (.int (7 : Int32)), (.ref b11)])) _
      refine XS.iload X261.here hx rfl (hb hby at_461) rfl ?_
      show Steps p.tables e below (T261.setTop (mkF m 463 #[.val (.int init), .val (.int sq), .val (.int cnt), .val (.int fl), .val (.int z6), .val (.int (4 : Int32)), .val (.int z7), .val (.int z8), .val (.int z9), .val (.int z10), .val (.ref b11), .val (.ref bx225), .val (.int (1 : Int32))] [(.int (4 : Int32)), (.int init), (.int (7 : Int32)), (.ref b11)])) _
      refine XS.iload X261.here hx rfl (hb hby at_463) rfl ?_
      show Steps p.tables e below (T261.setTop (mkF m 465 #[.val (.int init), .val (.int sq), .val (.int cnt), .val (.int fl), .val (.int z6), .val (.int (4 : Int32)), .val (.int z7), .val (.int z8), .val (.int z9), .val (.int z10), .val (.ref b11), .val (.ref bx225), .val (.int (1 : Int32))] [(.int z7), (.int (4 : Int32)), (.int init), (.int (7 : Int32)), (.ref b11)])) _
      refine XS.iload X261.here hx rfl (hb hby at_465) rfl ?_
      show Steps p.tables e below (T261.setTop (mkF m 467 #[.val (.int init), .val (.int sq), .val (.int cnt), .val (.int fl), .val (.int z6), .val (.int (4 : Int32)), .val (.int z7), .val (.int z8), .val (.int z9), .val (.int z10), .val (.ref b11), .val (.ref bx225), .val (.int (1 : Int32))] [(.int z8), (.int z7), (.int (4 : Int32)), (.int init), (.int (7 : Int32)), (.ref b11)])) _
      refine XS.iload X261.here hx rfl (hb hby at_467) rfl ?_
      show Steps p.tables e below (T261.setTop (mkF m 469 #[.val (.int init), .val (.int sq), .val (.int cnt), .val (.int fl), .val (.int z6), .val (.int (4 : Int32)), .val (.int z7), .val (.int z8), .val (.int z9), .val (.int z10), .val (.ref b11), .val (.ref bx225), .val (.int (1 : Int32))] [(.int z9), (.int z8), (.int z7), (.int (4 : Int32)), (.int init), (.int (7 : Int32)), (.ref b11)])) _
      refine XS.iload X261.here hx rfl (hb hby at_469) rfl ?_
      show Steps p.tables e below (T261.setTop (mkF m 471 #[.val (.int init), .val (.int sq), .val (.int cnt), .val (.int fl), .val (.int z6), .val (.int (4 : Int32)), .val (.int z7), .val (.int z8), .val (.int z9), .val (.int z10), .val (.ref b11), .val (.ref bx225), .val (.int (1 : Int32))] [(.int z10), (.int z9), (.int z8), (.int z7), (.int (4 : Int32)), (.int init), (.int (7 : Int32)), (.ref b11)])) _
      refine XS.iload X261.here hx rfl (hb hby at_471) rfl ?_
      show Steps p.tables e below (T261.setTop (mkF m 473 #[.val (.int init), .val (.int sq), .val (.int cnt), .val (.int fl), .val (.int z6), .val (.int (4 : Int32)), .val (.int z7), .val (.int z8), .val (.int z9), .val (.int z10), .val (.ref b11), .val (.ref bx225), .val (.int (1 : Int32))] [(.int z6), (.int z10), (.int z9), (.int z8), (.int z7), (.int (4 : Int32)), (.int init), (.int (7 : Int32)), (.ref b11)])) _
      refine st264 _ ?_
      show Steps p.tables e below (T264.setTop (mkF m 476 #[.val (.int init), .val (.int sq), .val (.int cnt), .val (.int fl), .val (.int z6), .val (.int (4 : Int32)), .val (.int z7), .val (.int z8), .val (.int z9), .val (.int z10), .val (.ref b11), .val (.ref bx225), .val (.int (1 : Int32))] [(.int (atF (7 : Int32) init (4 : Int32) z7 z8 z9 z10 z6 xv263))])) _
      refine XS.ifNo X264.here hx rfl (hb hby at_476) rfl ((if0 _ _).trans (feq hd265).1) ?_
      show Steps p.tables e below (T264.setTop (mkF m 479 #[.val (.int init), .val (.int sq), .val (.int cnt), .val (.int fl), .val (.int z6), .val (.int (4 : Int32)), .val (.int z7), .val (.int z8), .val (.int z9), .val (.int z10), .val (.ref b11), .val (.ref bx225), .val (.int (1 : Int32))] [])) _
      refine XS.iconst X264.here hx rfl (hb hby at_479) ?_
      show Steps p.tables e below (T264.setTop (mkF m 480 #[.val (.int init), .val (.int sq), .val (.int cnt), .val (.int fl), .val (.int z6), .val (.int (4 : Int32)), .val (.int z7), .val (.int z8), .val (.int z9), .val (.int z10), .val (.ref b11), .val (.ref bx225), .val (.int (1 : Int32))] [(.int (1 : Int32))])) _
      refine XS.goto X264.here hx rfl (pc0 := 480) (pc' := 484) rfl (hb hby at_480) (by decide) (by decide) ?_
      show Steps p.tables e below (T264.setTop (mkF m 484 #[.val (.int init), .val (.int sq), .val (.int cnt), .val (.int fl), .val (.int z6), .val (.int (4 : Int32)), .val (.int z7), .val (.int z8), .val (.int z9), .val (.int z10), .val (.ref b11), .val (.ref bx225), .val (.int (1 : Int32))] [(.int (1 : Int32))])) _
      exact kt
    obtain ⟨fs, hr, hrun, hended, hW, hsame⟩ := X264.leave (v := some (.int (1 : Int32))) (fun h => by rw [Bd.returns] at h; cases h)
    refine ⟨_, _, k266 _ ?_, hrun, hended, _, _, rfl, ?_, ⟨_, rfl⟩, hW, hsame.mono (by decide) (by decide)⟩
    · exact retN X264 hx (t := .boolean) Bd.returns (by simp) (hb hby at_484) hr
    · show QL n0 _ T264.heap _
      exact ⟨rfl, N264⟩
set_option maxRecDepth 65536 in
set_option maxHeartbeats 40000000 in
theorem comes_1 {Post : Tables → Env → Array Value → State → Outcome → State → Prop} (hpost : ∀ tb e args s v u, (limb_1_1.after args s (.returned v) u = true ∧ limb_1_2.after args s (.returned v) u = true ∧ True) → FrameEnd s (.returned v) u (Jvm.fieldLocs frame_1_writes args s ++ Jvm.arrayLocs frame_1_arrays args s ++ Jvm.staticLocs frame_1_statics s) 16 128 → Post tb e args s (.returned v) u) :
    ArmFor flags0 classFile x code maxLocals ret World_1 tables_1 room_1 Calls_1 rest_1 Pre_1 Post := by
  intro l hfl _ _ p e ha hc hk s m args below hf hA hF happ hP
  obtain ⟨hcalls, hrest, hpre⟩ := hP
  obtain ⟨-, -, -, hnamed, -, -, -, hat⟩ := (Spec.applies_iff hf).mp happ
  obtain ⟨hg, hn⟩ := and_e (Cond.before_iff.mp (show (Jvm.Cond.and given_1 narrow_1).before args s = true from hpre))
  obtain ⟨g1, g2⟩ := and_e hg
  obtain ⟨g3, g4⟩ := and_e g2
  obtain ⟨g5, g6⟩ := and_e g4
  obtain ⟨g7, g8⟩ := and_e g6
  obtain ⟨w0, w1, w2, w3, rfl⟩ : ∃ w0 w1 w2 w3 : Value, args = #[w0, w1, w2, w3] := by
    have hs : args.size = 4 := by simpa [Cond.value, given_1] using g1
    obtain ⟨L⟩ := args
    match L, hs with
    | [w0, w1, w2, w3], _ => exact ⟨w0, w1, w2, w3, rfl⟩
  have hw := fun d (hd : d ∈ tables_1) => atoms_spec (ws := Jvm.Cond.code x code maxLocals ret :: tables_1) hat d (List.mem_cons_of_mem _ hd)
  have hfit : Fit s := fun {y c} hc i hi => by
    obtain ⟨ha, rfl⟩ := Array.getElem?_eq_some_iff.mp hc
    have q := List.all_eq_true.mp ((Array.all_eq_true_iff_forall_mem.mp hF) _ (Array.getElem_mem ha)) i (List.mem_range.mpr hi)
    simpa [Array.getElem?_eq_getElem hi] using q
  obtain ⟨i0, ei0⟩ := is_v g3
  obtain rfl : w0 = (.int i0) := Option.some.inj ei0
  obtain ⟨i1, ei1⟩ := is_v g5
  obtain rfl : w1 = (.int i1) := Option.some.inj ei1
  obtain ⟨i2, ei2⟩ := is_v g7
  obtain rfl : w2 = (.int i2) := Option.some.inj ei2
  obtain ⟨i3, ei3⟩ := is_v g8
  obtain rfl : w3 = (.int i3) := Option.some.inj ei3
  obtain ⟨n, o, h1, h2, h3, _, L, rfl, ⟨rfl, N⟩, hq⟩ := rm0 l s _ hw tables_1 i0 i1 i2 i3  s.heap s.heap.size (Nat.le_refl _) p e ha hc hk s m _ below hf ((Spec.applies_iff_loose hf).mp happ).1 ⟨rfl, State.Warmed39.refl s, rfl⟩ trivial
  refine ⟨n, _, h1, h2, h3, hpost _ _ _ _ _ _ ⟨Cond.after_iff.mpr rfl, Cond.after_iff.mpr (eq_i res_at (Term.int_eval (1)) rfl), trivial⟩ ⟨hq.1, hq.2.1, (hq.2.2.sift fun y hy => Or.inr (N y hy)).mono (by decide) (by decide)⟩⟩
theorem main_1_1 : Claimed_1_1 := comes_1 fun _ _ _ _ _ _ h hF => ⟨h.1, hF⟩
theorem main_1_2 : Claimed_1_2 := comes_1 fun _ _ _ _ _ _ h hF => ⟨h.2.1, hF⟩
end Jvm.Pilot.@@N@@
namespace Jvm.Pilot.@@N@@
open Jvm Jvm.ClassFile Sem Op Lib Jvm.Free Jvm.Stand Jvm.Pilot.@@N@@.Jvm.D
/-! MADE BY PROGRAM (witnessworld.py) out of the Statement's table words and the real class files: 11 classes; the members and pool entries that the words name. The judged class is class 1, her method 1. -/
namespace start1
open Jvm.ClassFile
def u (s : String) : CpInfo := .utf8 (stringToUtf16 s)
/-- a pool by its gaps: so many unusable entries, then the entry; so many at the end -/
def gap : Nat → List CpInfo → List CpInfo
  | 0, r => r
  | n + 1, r => .unusable :: gap n r
def poolList (es : List (Nat × CpInfo)) (last : Nat) : List CpInfo := es.foldr (fun e r => gap e.1 (e.2 :: r)) (gap last [])
def pool (es : List (Nat × CpInfo)) (last : Nat) : Array CpInfo := ⟨poolList es last⟩
def fileOf (pool : Array CpInfo) (this : Nat) (attrs : Array Attribute := #[]) (ms : Array MethodInfo := #[]) (fl : Nat := 33) (sup : Nat := 0) (ifs : Array Nat := #[]) (fds : Array FieldInfo := #[]) : ClassFile where
  minorVersion := 0
  majorVersion := 65
  constantPool := pool
  accessFlags := fl
  thisClass := this
  superClass := sup
  interfaces := ifs
  fields := fds
  methods := ms
  attributes := attrs
def plain (name : String) (sup : Option ClassId) : Class where
  name := name
  kind := .ordinary
  loader := none
  accessFlags := 33
  super := sup
  interfaces := #[]
  cf := none
  fields := #[]
  methods := #[]
  instanceTypes := #[]
  staticTypes := #[]
  resolved := #[]
  callSites := []
  init := .initialized
  statics := none
  mirror := none

def pool0 : Array CpInfo := pool [(5, u "<init>"), (0, u "()V"), (1, .class_ 10), (1, u "java/lang/Object")] 113

def k0m0 : Method := { name := "<init>", desc := "()V", sig := { parameters := [], returnType := none }, accessFlags := 1, code := none }
/-- java/lang/Object -/
def k0 : Class := { plain "java/lang/Object" none with
  accessFlags := 33
  interfaces := #[]
  cf := some (fileOf pool0 8 #[] #[{ accessFlags := 1, nameIndex := 5, descriptorIndex := 6, attributes := #[] }] 33 0 #[] #[])
  fields := #[]
  methods := #[k0m0]
  instanceTypes := #[]
  staticTypes := #[]
  resolved := Array.replicate 124 none
  statics := none }

def pool1 : Array CpInfo := pool [(2, .class_ 4), (1, u "java/lang/Object"), (0, u "<init>"), (0, u "()V"), (0, .integer 2147483647), (0, .methodref 9 10), (0, .class_ 11), (0, .nameAndType 12 13), (0, u "pushwise/BoxesPlacePinLaw"), (0, u "boxesOf"), (0, u "(IIIII)[I"), (0, .methodref 15 16), (0, .class_ 17), (0, .nameAndType 18 19), (0, u "pushwise/Boxes"), (0, u "place"), (0, u "([Z[IZ)V"), (0, .methodref 9 21), (0, .nameAndType 22 23), (0, u "at"), (0, u "([ZIIIIIIIZ)Z"), (2, u "law"), (0, u "(IIII)Z")] 7

def k1m0 : Method := { name := "<init>", desc := "()V", sig := { parameters := [], returnType := none }, accessFlags := 1, code := none }
def k1c1 : Code := { maxStack := 9, maxLocals := 13, code := code, exceptionTable := #[], attributes := #[] }
def k1m1 : Method := { name := "law", desc := "(IIII)Z", sig := { parameters := [.int, .int, .int, .int], returnType := some .boolean }, accessFlags := 9, code := some k1c1 }
def k1c2 : Code := { maxStack := 4, maxLocals := 5, code := method_3_code, exceptionTable := #[], attributes := #[] }
def k1m2 : Method := { name := "boxesOf", desc := "(IIIII)[I", sig := { parameters := [.int, .int, .int, .int, .int], returnType := some (.array .int) }, accessFlags := 10, code := some k1c2 }
def k1c3 : Code := { maxStack := 2, maxLocals := 11, code := method_4_code, exceptionTable := #[], attributes := #[] }
def k1m3 : Method := { name := "at", desc := "([ZIIIIIIIZ)Z", sig := { parameters := [(.array .boolean), .int, .int, .int, .int, .int, .int, .int, .boolean], returnType := some .boolean }, accessFlags := 10, code := some k1c3 }
/-- pushwise/BoxesPlacePinLaw -/
def k1 : Class := { plain "pushwise/BoxesPlacePinLaw" (some 0) with
  accessFlags := 49
  interfaces := #[]
  cf := some (fileOf pool1 9 #[] #[{ accessFlags := 1, nameIndex := 5, descriptorIndex := 6, attributes := #[] }, { accessFlags := 9, nameIndex := 26, descriptorIndex := 27, attributes := #[] }, { accessFlags := 10, nameIndex := 12, descriptorIndex := 13, attributes := #[] }, { accessFlags := 10, nameIndex := 22, descriptorIndex := 23, attributes := #[] }] 49 2 #[] #[])
  fields := #[]
  methods := #[k1m0, k1m1, k1m2, k1m3]
  instanceTypes := #[]
  staticTypes := #[]
  resolved := Array.replicate 35 none
  statics := none }

def pool2 : Array CpInfo := pool [(2, .class_ 4), (1, u "java/lang/Object"), (0, u "<init>"), (0, u "()V"), (7, .class_ 16), (1, u "pushwise/Boxes"), (13, u "place"), (0, u "([Z[IZ)V")] 2

def k2m0 : Method := { name := "<init>", desc := "()V", sig := { parameters := [], returnType := none }, accessFlags := 2, code := none }
def k2c1 : Code := { maxStack := 3, maxLocals := 7, code := prog_1_method_4_code, exceptionTable := #[], attributes := #[] }
def k2m1 : Method := { name := "place", desc := "([Z[IZ)V", sig := { parameters := [(.array .boolean), (.array .int), .boolean], returnType := none }, accessFlags := 8, code := some k2c1 }
/-- pushwise/Boxes -/
def k2 : Class := { plain "pushwise/Boxes" (some 0) with
  accessFlags := 48
  interfaces := #[]
  cf := some (fileOf pool2 14 #[] #[{ accessFlags := 2, nameIndex := 5, descriptorIndex := 6, attributes := #[] }, { accessFlags := 8, nameIndex := 30, descriptorIndex := 31, attributes := #[] }] 48 2 #[] #[])
  fields := #[]
  methods := #[k2m0, k2m1]
  instanceTypes := #[]
  staticTypes := #[]
  resolved := Array.replicate 34 none
  statics := none }

def pool3 : Array CpInfo := pool [(1, u "java/lang/Cloneable"), (0, .class_ 1), (0, u "java/lang/Object"), (0, .class_ 3)] 3

/-- java/lang/Cloneable -/
def k3 : Class := { plain "java/lang/Cloneable" (some 0) with
  accessFlags := 1537
  interfaces := #[]
  cf := some (fileOf pool3 2 #[] #[] 1537 4 #[] #[])
  fields := #[]
  methods := #[]
  instanceTypes := #[]
  staticTypes := #[]
  resolved := Array.replicate 8 none
  statics := none }

def pool4 : Array CpInfo := pool [(1, u "java/io/Serializable"), (0, .class_ 1), (0, u "java/lang/Object"), (0, .class_ 3)] 3

/-- java/io/Serializable -/
def k4 : Class := { plain "java/io/Serializable" (some 0) with
  accessFlags := 1537
  interfaces := #[]
  cf := some (fileOf pool4 2 #[] #[] 1537 4 #[] #[])
  fields := #[]
  methods := #[]
  instanceTypes := #[]
  staticTypes := #[]
  resolved := Array.replicate 8 none
  statics := none }

/-- the primitive boolean -/
def k5 : Class := { plain "boolean" none with kind := .primitive 'Z', accessFlags := 0x411 }
/-- [Z -/
def k6 : Class := { plain "[Z" (some 0) with kind := .array 5 .boolean, interfaces := #[3, 4], accessFlags := 1041 }

/-- the primitive byte -/
def k7 : Class := { plain "byte" none with kind := .primitive 'B', accessFlags := 0x411 }
/-- [B -/
def k8 : Class := { plain "[B" (some 0) with kind := .array 7 .byte, interfaces := #[3, 4], accessFlags := 1041 }

/-- the primitive int -/
def k9 : Class := { plain "int" none with kind := .primitive 'I', accessFlags := 0x411 }
/-- [I -/
def k10 : Class := { plain "[I" (some 0) with kind := .array 9 .int, interfaces := #[3, 4], accessFlags := 1041 }

def heap : Heap := #[]
def classes : Array Class := #[k0, k1, k2, k3, k4, k5, k6, k7, k8, k9, k10]
def interned : List (Array UInt16 × Addr) := []
def slotsUsed : Nat := 0
def theMethod : MethodId := ⟨1, 1⟩
def args0 : Array Value := #[.int 5, .int 6, .int 7, .int 1]
def aboutOver (below : List Frame) : State where
  vm := { classes := classes, interned := interned.toArray }
  heap := heap
  slotsUsed := slotsUsed
  threads := #[{ frames := .invoking theMethod args0 :: below }]
def below0 : List Frame := [.native { method := ⟨0, 0⟩, args := #[] }]
def about1 : State := aboutOver below0
def p0 : Program := .bare "" "" ""
def e0 : Env := launch0.env 0 0 0
theorem w_frames : about1.frames = Frame.invoking theMethod args0 :: below0 := rfl
set_option maxRecDepth 65536 in
theorem w_args : argsFit about1.vm theMethod args0 = true := by decide +kernel
set_option maxRecDepth 65536 in
theorem w_heap : heapFits about1 = true := by decide +kernel
set_option maxRecDepth 65536 in
theorem w_runnable : about1.curStatus? = some .runnable := by decide +kernel
set_option maxRecDepth 65536 in
theorem w_alone : about1.alone = true := by decide +kernel
set_option maxRecDepth 65536 in
theorem w_named : about1.methodNamed? x = some theMethod := by decide +kernel
set_option maxRecDepth 65536 in
theorem w_hears : about1.hears theMethod below0 = true := by decide +kernel
set_option maxRecDepth 65536 in
theorem w_ripe : about1.ripe theMethod args0 below0 = true := by decide +kernel
theorem w_running : about1.status = .running := rfl
set_option maxRecDepth 65536 in
theorem w_room : about1.hasRoom e0.platform room_1 = true :=
  launch0.hasRoom_least _ room_1 (by decide +kernel) (by decide +kernel) (by decide +kernel) (by decide +kernel) (by decide +kernel) (by decide +kernel)
theorem allAtoms_all (ts : List Jvm.Cond) (a : Array Jvm.Value) (st : Jvm.State) : (allAtoms ts).before a st = ts.all (fun c => c.before a st) := by
  induction ts with
  | nil => rfl
  | cons c t ih =>
    show (Jvm.Cond.and c (allAtoms t)).before a st = _
    rw [Jvm.Cond.before_and, ih, List.all_cons]
def words1 : List Jvm.Cond := Jvm.Cond.code x code maxLocals ret :: tables_1
/-- a 'code' word, met by the world's own term for the bytes: nothing is compared byte by byte -/
theorem code_word {y : MethodName} {bytes : ByteArray} {mx : Nat} {rt : Option FieldType} {a : Array Value} {s : State} {m : MethodId} {meth : Method} {c : Code} (h1 : s.methodNamed? y = some m) (h2 : s.vm.method? m = some meth) (h3 : meth.code = some c) (h4 : c.code = bytes)
    (h5 : (c.maxLocals == mx && c.exceptionTable.isEmpty && decide (c.maxStack ≤ mostOperands) && decide (meth.sig.returnType = rt) && !meth.locks && decide (parseMethodDescriptor y.desc = some meth.sig)) = true) : (Jvm.Cond.code y bytes mx rt).before a s = true := by
  simp only [Bool.and_eq_true, beq_iff_eq, Bool.not_eq_true', decide_eq_true_eq] at h5
  obtain ⟨⟨⟨⟨⟨g1, g2⟩, g3⟩, g4⟩, g5⟩, g6⟩ := h5
  simp [Cond.before, Cond.holds, Cond.value, h1, h2, h3, h4, g1, g2, g3, g4, g5, g6]
def isCode : Jvm.Cond → Bool
  | .code _ _ _ _ => true
  | _ => false
theorem all_split {L : List Jvm.Cond} {P : Jvm.Cond → Bool} (h1 : L.all (fun c => isCode c || P c) = true) (h2 : ∀ c ∈ L.filter isCode, P c = true) : L.all P = true := by
  refine List.all_eq_true.mpr fun c hc => ?_
  have h := List.all_eq_true.mp h1 c hc
  rcases Bool.eq_false_or_eq_true (isCode c) with hi | hi
  · exact h2 c (List.mem_filter.mpr ⟨hc, hi⟩)
  · simpa [hi] using h
set_option maxRecDepth 65536 in
theorem w_c0 : (Jvm.Cond.code x code maxLocals ret).before args0 about1 = true := code_word (m := ⟨1, 1⟩) (meth := k1m1) (c := k1c1) (by decide +kernel) rfl rfl rfl (by decide +kernel)
set_option maxRecDepth 65536 in
theorem w_c1 : (Jvm.Cond.code ({ cls := "pushwise/BoxesPlacePinLaw", name := "boxesOf", desc := "(IIIII)[I" } : Jvm.MethodName) method_3_code (5 : Nat) (Option.some (Jvm.ClassFile.FieldType.array Jvm.ClassFile.FieldType.int))).before args0 about1 = true := code_word (m := ⟨1, 2⟩) (meth := k1m2) (c := k1c2) (by decide +kernel) rfl rfl rfl (by decide +kernel)
set_option maxRecDepth 65536 in
theorem w_c2 : (Jvm.Cond.code ({ cls := "pushwise/Boxes", name := "place", desc := "([Z[IZ)V" } : Jvm.MethodName) prog_1_method_4_code (7 : Nat) (Option.none : Option Jvm.ClassFile.FieldType)).before args0 about1 = true := code_word (m := ⟨2, 1⟩) (meth := k2m1) (c := k2c1) (by decide +kernel) rfl rfl rfl (by decide +kernel)
set_option maxRecDepth 65536 in
theorem w_c3 : (Jvm.Cond.code ({ cls := "pushwise/BoxesPlacePinLaw", name := "at", desc := "([ZIIIIIIIZ)Z" } : Jvm.MethodName) method_4_code (11 : Nat) (Option.some Jvm.ClassFile.FieldType.boolean)).before args0 about1 = true := code_word (m := ⟨1, 3⟩) (meth := k1m3) (c := k1c3) (by decide +kernel) rfl rfl rfl (by decide +kernel)
def codes1 : List Jvm.Cond := [Jvm.Cond.code x code maxLocals ret, Jvm.Cond.code ({ cls := "pushwise/BoxesPlacePinLaw", name := "boxesOf", desc := "(IIIII)[I" } : Jvm.MethodName) method_3_code (5 : Nat) (Option.some (Jvm.ClassFile.FieldType.array Jvm.ClassFile.FieldType.int)), Jvm.Cond.code ({ cls := "pushwise/Boxes", name := "place", desc := "([Z[IZ)V" } : Jvm.MethodName) prog_1_method_4_code (7 : Nat) (Option.none : Option Jvm.ClassFile.FieldType), Jvm.Cond.code ({ cls := "pushwise/BoxesPlacePinLaw", name := "at", desc := "([ZIIIIIIIZ)Z" } : Jvm.MethodName) method_4_code (11 : Nat) (Option.some Jvm.ClassFile.FieldType.boolean)]
set_option maxRecDepth 65536 in
theorem codes_eq : words1.filter isCode = codes1 := rfl
theorem w_codes : ∀ c ∈ words1.filter isCode, c.before args0 about1 = true := by
  rw [codes_eq]
  intro c hc
  simp only [codes1, List.mem_cons, List.not_mem_nil, or_false] at hc
  rcases hc with rfl | rfl | rfl | rfl
  · exact w_c0
  · exact w_c1
  · exact w_c2
  · exact w_c3
set_option maxRecDepth 65536 in
theorem w_t1 : words1.all (fun c => isCode c || c.before args0 about1) = true := by decide +kernel
theorem w_tables : (allAtoms (Jvm.Cond.code x code maxLocals ret :: tables_1)).before args0 about1 = true := by
  rw [allAtoms_all]
  show words1.all (fun c => c.before args0 about1) = true
  refine all_split ?_ w_codes
  rw [w_t1]
set_option maxRecDepth 65536 in
theorem w_case : (Jvm.Cond.and given_1 narrow_1).before args0 about1 = true := by decide +kernel
theorem w_applies : (headSpec (Jvm.Cond.code x code maxLocals ret :: tables_1) room_1).applies x e0.platform about1 = true :=
  (Spec.applies_iff w_frames).mpr ⟨w_running, w_runnable, w_alone, w_named, w_hears, w_ripe, w_room, w_tables⟩
theorem atStart : AtStart classFile x code maxLocals ret World_1 tables_1 room_1 Calls_1 rest_1 Pre_1 launch0 p0 e0 about1 theMethod args0 below0 :=
  ⟨lists_1, trivial, launch0.admits_env _ _ _, launch0.least_env, fairChoices_fair.cas, fairChoices_fair.clock, w_frames, w_args, w_heap, w_applies, trivial, trivial, w_case⟩
end start1
theorem witness_1 : WitnessClaimed_1 := ⟨start1.p0, start1.e0, start1.about1, start1.theMethod, start1.args0, start1.below0, start1.atStart⟩
end Jvm.Pilot.@@N@@
