import JvmDerived
import JvmDerived.Pilot.@@N@@Statement
import JvmDerived.Pilot.@@N@@Code
set_option linter.unusedVariables false
set_option linter.unusedSimpArgs false
namespace Jvm.RoadKit
open Sem ClassFile Op Lib Jvm.Stand Jvm.Free Jvm.LawKit
section New
variable {p : Program} {l : Launch} {e : Env} {R : Room} {s : State} {m : MethodId} {args : Array Value} {below : List Frame} {meth : Method} {c : Code} {T : State} {locs : List Loc} {cells slots : Nat}
theorem retI (X : Stand p l e R s m args below meth c T locs cells slots) (hx : p.tables.exec = Jvm.exec) {pc : Nat} {Ls : Array Slot} {z : Int32} {rest : List Value} (hret : meth.sig.returnType = some .int) (hd : decode c.code pc = .ok (.ireturn, 1)) {fs : List Frame}
    (hl : ∀ (f : JFrame) (acts : List Action), f.method = m → f.locked = none → f.entered = [] → (doReturn e (T.setTop f) acts (some (.int z))).1 = T.setFrames fs) : Steps p.tables e below (T.setTop (mkF m pc Ls (.int z :: rest))) (T.setFrames fs) := by
  have hm' : T.vm.method? m = some meth := X.method'
  have hn : narrow .int (.int z) = .int z := rfl
  show Steps p.tables e below (T.setTop { method := m, pc := pc, locals := Ls, stack := _ :: rest, locked := none }) _
  jvm_step X.here [X.here.top, hx, hd, hm', hret, hn]
  first | (intro acts; rw [hl _ acts rfl rfl rfl]) | rw [hl _ _ rfl rfl rfl]
  exact Steps.refl _
theorem own_retJ (X : Stand p l e R s m args below meth c T locs cells slots) (hx : p.tables.exec = Jvm.exec) {pc : Nat} {Ls : Array Slot} {z : Int64} {rest : List Value} (hret : meth.sig.returnType = some .long) (hd : decode c.code pc = .ok (.lreturn, 1)) {fs : List Frame}
    (hl : ∀ (f : JFrame) (acts : List Action), f.method = m → f.locked = none → f.entered = [] → (doReturn e (T.setTop f) acts (some (.long z))).1 = T.setFrames fs) : Steps p.tables e below (T.setTop (mkF m pc Ls (.long z :: rest))) (T.setFrames fs) := by
  have hm' : T.vm.method? m = some meth := X.method'
  show Steps p.tables e below (T.setTop { method := m, pc := pc, locals := Ls, stack := _ :: rest, locked := none }) _
  jvm_step X.here [X.here.top, hx, hd, hm', hret, narrow]
  first | (intro acts; rw [hl _ acts rfl rfl rfl]) | rw [hl _ _ rfl rfl rfl]
  exact Steps.refl _
theorem own_retA (X : Stand p l e R s m args below meth c T locs cells slots) (hx : p.tables.exec = Jvm.exec) {pc : Nat} {Ls : Array Slot} {z : Addr} {rest : List Value} {ty : FieldType} (hret : meth.sig.returnType = some ty) (hty : ty.isReference = true) (hd : decode c.code pc = .ok (.areturn, 1)) {fs : List Frame}
    (hl : ∀ (f : JFrame) (acts : List Action), f.method = m → f.locked = none → f.entered = [] → (doReturn e (T.setTop f) acts (some (.ref z))).1 = T.setFrames fs) : Steps p.tables e below (T.setTop (mkF m pc Ls (.ref z :: rest))) (T.setFrames fs) := by
  have hm' : T.vm.method? m = some meth := X.method'
  show Steps p.tables e below (T.setTop { method := m, pc := pc, locals := Ls, stack := _ :: rest, locked := none }) _
  jvm_step X.here [X.here.top, hx, hd, hm', hret, hty, Value.isRef]
  first | (intro acts; rw [hl _ acts rfl rfl rfl]) | rw [hl _ _ rfl rfl rfl]
  exact Steps.refl _
end New
end Jvm.RoadKit
namespace Jvm.Pilot.@@N@@
open Jvm Jvm.ClassFile Sem Op Lib Jvm.Free Jvm.Stand Jvm.LawKit Jvm.RoadKit Bundle Jvm.Pilot.@@N@@.Jvm.D
/-- a body that leaves the heap as it is and returns w -/
def QV (w : Value) (h0 : Heap) (n0 : Nat) (v : Option Value) (h : Heap) (L : List Loc) : Prop := v = some w ∧ Fr n0 L ∧ h = h0
def QL (n0 : Nat) (v : Option Value) (h : Heap) (L : List Loc) : Prop := v = some (.int 1) ∧ Fr n0 L
def QInit (Z : State) (o : Addr) (h0 : Heap) (n0 : Nat) (v : Option Value) (h : Heap) (L : List Loc) : Prop := v = none ∧ Fr n0 L ∧ Keep h0 h [o] ∧ ∃ (va : Addr) (kc : ClassId), h0.size ≤ va ∧ Fld Z h o "com/example/unraveling/unraveling/graph/IntList" "values" "[I" (.ref va) ∧ Fld Z h o "com/example/unraveling/unraveling/graph/IntList" "size" "I" (.int (0 : Int32)) ∧ Arv Z h va kc .int (16 : Int32) [(.int (0 : Int32)), (.int (0 : Int32)), (.int (0 : Int32)), (.int (0 : Int32)), (.int (0 : Int32)), (.int (0 : Int32)), (.int (0 : Int32)), (.int (0 : Int32)), (.int (0 : Int32)), (.int (0 : Int32)), (.int (0 : Int32)), (.int (0 : Int32)), (.int (0 : Int32)), (.int (0 : Int32)), (.int (0 : Int32)), (.int (0 : Int32))] (.int (0 : Int32))
def QAdd (Z : State) (o va : Addr) (kc : ClassId) (n sz : Int32) (vs : List Value) (h0 : Heap) (n0 : Nat) (v : Option Value) (h : Heap) (L : List Loc) : Prop := v = none ∧ Fr n0 L ∧ Keep h0 h [o, va] ∧ Fld Z h o "com/example/unraveling/unraveling/graph/IntList" "values" "[I" (.ref va) ∧ Fld Z h o "com/example/unraveling/unraveling/graph/IntList" "size" "I" (.int sz) ∧ Arv Z h va kc .int n vs (.int (0 : Int32))
def QGrow (Z : State) (o : Addr) (n sz : Int32) (vs : List Value) (h0 : Heap) (n0 : Nat) (v : Option Value) (h : Heap) (L : List Loc) : Prop := v = none ∧ Fr n0 L ∧ Keep h0 h [o] ∧ ∃ (va : Addr) (kc : ClassId), h0.size ≤ va ∧ Fld Z h o "com/example/unraveling/unraveling/graph/IntList" "values" "[I" (.ref va) ∧ Fld Z h o "com/example/unraveling/unraveling/graph/IntList" "size" "I" (.int sz) ∧ Arv Z h va kc .int n vs (.int (0 : Int32))
def QCopy (Z : State) (n : Int32) (vs : List Value) (h0 : Heap) (n0 : Nat) (v : Option Value) (h : Heap) (L : List Loc) : Prop := Fr n0 L ∧ Keep h0 h [] ∧ ∃ (b : Addr) (kc : ClassId), v = some (.ref b) ∧ h0.size ≤ b ∧ Arv Z h b kc .int n vs (.int (0 : Int32))
theorem d1_0 : decode prog_52_method_1_code 0 = .ok (.aload_n 0, 1) := by decide +kernel
theorem d1_1 : decode prog_52_method_1_code 1 = .ok (.invokespecial 1, 3) := by decide +kernel
theorem d1_4 : decode prog_52_method_1_code 4 = .ok (.aload_n 0, 1) := by decide +kernel
theorem d1_5 : decode prog_52_method_1_code 5 = .ok (.bipush 16, 2) := by decide +kernel
theorem d1_7 : decode prog_52_method_1_code 7 = .ok (.newarray .int, 2) := by decide +kernel
theorem d1_9 : decode prog_52_method_1_code 9 = .ok (.putfield 7, 3) := by decide +kernel
theorem d1_12 : decode prog_52_method_1_code 12 = .ok (.return_, 1) := by decide +kernel
theorem pn_1 : plainName "com/example/unraveling/unraveling/graph/IntList" = true := by first | (simp [plainName, overriddenIn]; done) | decide +kernel
theorem ef_rmInit (m : MethodId) (o : Addr) : entryFrame m #[(.ref o)] 1 = mkF m 0 #[.val (.ref o)] [] := by first | (simp [entryFrame, mkF, argsToLocals, Value.category]; done) | rfl
set_option maxRecDepth 65536 in
set_option maxHeartbeats 40000000 in
theorem rmInit (l : Launch) (Z : State) (a0 : Array Value) (hw : ∀ d ∈ tables_1, d.before a0 Z = true) (ws : List Jvm.Cond) (o : Addr)  (h0 : Heap) (n0 : Nat) (Z0 : n0 ≤ h0.size) (E_o : Exa Z h0 o "com/example/unraveling/unraveling/graph/IntList") (Fv : Fld Z h0 o "com/example/unraveling/unraveling/graph/IntList" "values" "[I" .null) (Fs : Fld Z h0 o "com/example/unraveling/unraveling/graph/IntList" "size" "I" (.int (0 : Int32))) (g_o : n0 ≤ o) :
    MetFree l (⟨"com/example/unraveling/unraveling/graph/IntList", "<init>", "()V"⟩ : MethodName) (head1 (Jvm.Cond.code (⟨"com/example/unraveling/unraveling/graph/IntList", "<init>", "()V"⟩ : MethodName) prog_52_method_1_code 1 none :: ws) ({ frames := 1, cells := 1, slots := 16, locals := 12 } : Room)) (fun a_ U_ => a_ = #[(.ref o)] ∧ Z.Warmed39 U_.vm ∧ U_.heap = h0) (fun _ _ _ _ _ => True) (fun _ U_ o_ U'_ => ∃ v_ L_, o_ = .returned v_ ∧ QInit Z o h0 n0 v_ U'_.heap L_ ∧ FrameEnd U_ o_ U'_ L_ ({ frames := 1, cells := 1, slots := 16, locals := 12 } : Room).cells ({ frames := 1, cells := 1, slots := 16, locals := 12 } : Room).slots) := by
  refine MetFree.of_bodySF (plainFor_of_name pn_1) hisR ?_
  intro p e s m args below meth c s₁ Bd hml0 hP hK
  obtain ⟨rfl, hZ, hh⟩ := hP
  have hx := Bd.exec
  have hby := Bd.bytes
  have hml : c.maxLocals = 1 := hml0
  have hown : s.vm.findClass "com/example/unraveling/unraveling/graph/IntList" = some m.cls := findClass_of_methodNamed Bd.named
  have hnm := (name_of_methodNamed Bd.named Bd.method).1
  have X0 : Stand p l e ({ frames := 1, cells := 1, slots := 16, locals := 12 } : Room) s m #[(.ref o)] below meth c s₁ [] 0 0 := Stand.of_body Bd
  have e0 : s₁.heap = h0 := by rw [← hh, Bd.state]; rfl
  have N0 := Fr.nil n0
  have k0 : ∀ tg, Steps p.tables e below (s₁.setTop (mkF m 0 #[.val (.ref o)] [])) tg → Steps p.tables e below (s₁.setTop (entryFrame m #[(.ref o)] 1)) tg := fun tg k => castTop (ef_rmInit m o) k
  obtain ⟨T1, X1, e1, st1⟩ := initO X0 hx hZ hown (hw _ (List.mem_of_getElem? (i := 6) rfl)) (hw _ (List.mem_of_getElem? (i := 7) rfl)) (hw _ (List.mem_of_getElem? (i := 8) rfl)) e0 (g := (mkF m 1 #[.val (.ref o)] [(.ref o)])) rfl (by rw [hml]; rfl) rfl (hb hby d1_1) (by decide) (W := 0) (by show 2 * 0 + _ ≤ _; exact Nat.le_of_eq rfl) (by decide)
  obtain ⟨T2, h2, c2, X2, e2, E2, A2, st2⟩ := newP X1 hx hZ (hw _ (List.mem_of_getElem? (i := 9) rfl)) e1 (g := (mkF m 7 #[.val (.ref o)] [(.int (16 : Int32)), (.ref o)])) rfl (hb hby d1_7) rfl (by decide) (cap := 16) (by decide) (by decide) (by decide) (by decide)
  obtain ⟨b2, g2⟩ : ∃ z, z = h0.size := ⟨_, rfl⟩
  have ne_o_b2 : o ≠ b2 := Nat.ne_of_lt (Nat.lt_of_lt_of_le E_o.lt (Nat.le_of_eq g2.symm))
  have g_b2 : n0 ≤ b2 := Nat.le_trans Z0 (Nat.le_of_eq g2.symm)
  have sz_b2 : h0.size ≤ b2 := Nat.le_trans (Keep.refl h0 [o]).1 (Nat.le_of_eq g2.symm)
  rw [← g2] at A2 st2
  have E2_o := E_o.ext E2
  have F2_o_values := Fv.ext E2
  have F2_o_size := Fs.ext E2
  have Z2 := Nat.le_trans Z0 E2.1
  have KP2 := (Keep.refl h0 [o]).ext E2
  have V_b2 : Arv Z h2 b2 c2 .int (16 : Int32) [(.int (0 : Int32)), (.int (0 : Int32)), (.int (0 : Int32)), (.int (0 : Int32)), (.int (0 : Int32)), (.int (0 : Int32)), (.int (0 : Int32)), (.int (0 : Int32)), (.int (0 : Int32)), (.int (0 : Int32)), (.int (0 : Int32)), (.int (0 : Int32)), (.int (0 : Int32)), (.int (0 : Int32)), (.int (0 : Int32)), (.int (0 : Int32))] (.int (0 : Int32)) := (Arv.new A2 (by decide)).pad (pad_rep [] (.int (0 : Int32)) 16)
  obtain ⟨T3, h3, X3, e3, W3, st3⟩ := putF X2 hx hZ hown (host := "") (Or.inl (hw _ (List.mem_of_getElem? (i := 10) rfl))) Via.refl e2 F2_o_values E2_o (Or.inl (hw _ (List.mem_of_getElem? (i := 11) rfl))) (hw _ (List.mem_of_getElem? (i := 1) rfl)) (ty := (.array .int)) (by decide) rfl rfl (g := (mkF m 9 #[.val (.ref o)] [(.ref b2), (.ref o)])) rfl rfl (hb hby d1_9)
  have E3_o := E2_o.wr W3
  have F3_o_size := F2_o_size.other W3 (Or.inr (slot_ne (Or.inl (hw _ (List.mem_of_getElem? (i := 18) rfl))) (Or.inl (hw _ (List.mem_of_getElem? (i := 11) rfl))) (by decide) (t := .int) (t' := (.array .int)) (by decide) (by decide)))
  have V3_b2 := V_b2.other W3 (Ne.symm ne_o_b2)
  have Z3 := Nat.le_trans Z2 (Keep.of_wr W3).1
  have KP3 := KP2.wr W3 (Or.inl (List.mem_of_getElem? (i := 0) rfl))
  have N3 := Fr.snoc X3 N0 g_o
  have F3_o_values := F2_o_values.same W3
  have k4 : ∀ tg, Steps p.tables e below (T3.setTop (mkF m 12 #[.val (.ref o)] [])) tg → Steps p.tables e below (s₁.setTop (entryFrame m #[(.ref o)] 1)) tg := by
    intro tg kt
    refine k0 tg ?_
    show Steps p.tables e below (s₁.setTop (mkF m 0 #[.val (.ref o)] [])) _
    refine XS.aloadN X0.here hx rfl (hb hby d1_0) rfl rfl ?_
    show Steps p.tables e below (s₁.setTop (mkF m 1 #[.val (.ref o)] [(.ref o)])) _
    refine st1 _ ?_
    show Steps p.tables e below (T1.setTop (mkF m 4 #[.val (.ref o)] [])) _
    refine XS.aloadN X1.here hx rfl (hb hby d1_4) rfl rfl ?_
    show Steps p.tables e below (T1.setTop (mkF m 5 #[.val (.ref o)] [(.ref o)])) _
    refine XS.bipush X1.here hx rfl (hb hby d1_5) ?_
    show Steps p.tables e below (T1.setTop (mkF m 7 #[.val (.ref o)] [(.int (16 : Int32)), (.ref o)])) _
    refine st2 _ ?_
    show Steps p.tables e below (T2.setTop (mkF m 9 #[.val (.ref o)] [(.ref b2), (.ref o)])) _
    refine st3 _ ?_
    show Steps p.tables e below (T3.setTop (mkF m 12 #[.val (.ref o)] [])) _
    exact kt
  obtain ⟨fs, hr, hrun, hended, hW, hsame⟩ := X3.leave (v := none) (fun _ => rfl)
  refine ⟨_, _, k4 _ ?_, hrun, hended, _, _, rfl, ?_, ⟨_, rfl⟩, hW, hsame.mono (by decide) (by decide)⟩
  · exact X3.returnOut hx Bd.returns (hb hby d1_12) hr
  · show QInit Z o h0 n0 _ T3.heap _
    rw [e3]
    exact ⟨rfl, N3, KP3, b2, c2, sz_b2, F3_o_values, F3_o_size, V3_b2⟩
theorem d4_0 : decode prog_52_method_4_code 0 = .ok (.aload_n 0, 1) := by decide +kernel
theorem d4_1 : decode prog_52_method_4_code 1 = .ok (.getfield 13, 3) := by decide +kernel
theorem d4_4 : decode prog_52_method_4_code 4 = .ok (.ireturn, 1) := by decide +kernel
theorem pn_4 : plainName "com/example/unraveling/unraveling/graph/IntList" = true := by first | (simp [plainName, overriddenIn]; done) | decide +kernel
theorem ef_rmSize (m : MethodId) (o : Addr) : entryFrame m #[(.ref o)] 1 = mkF m 0 #[.val (.ref o)] [] := by first | (simp [entryFrame, mkF, argsToLocals, Value.category]; done) | rfl
set_option maxRecDepth 65536 in
set_option maxHeartbeats 40000000 in
theorem rmSize (l : Launch) (Z : State) (a0 : Array Value) (hw : ∀ d ∈ tables_1, d.before a0 Z = true) (ws : List Jvm.Cond) (o : Addr) (sz : Int32) (h0 : Heap) (n0 : Nat) (Fs : Fld Z h0 o "com/example/unraveling/unraveling/graph/IntList" "size" "I" (.int sz)) :
    MetFree l (⟨"com/example/unraveling/unraveling/graph/IntList", "size", "()I"⟩ : MethodName) (head1 (Jvm.Cond.code (⟨"com/example/unraveling/unraveling/graph/IntList", "size", "()I"⟩ : MethodName) prog_52_method_4_code 1 (some .int) :: ws) ({ frames := 0, cells := 0, slots := 0, locals := 0 } : Room)) (fun a_ U_ => a_ = #[(.ref o)] ∧ Z.Warmed39 U_.vm ∧ U_.heap = h0) (fun _ _ _ _ _ => True) (fun _ U_ o_ U'_ => ∃ v_ L_, o_ = .returned v_ ∧ QV (.int sz) h0 n0 v_ U'_.heap L_ ∧ FrameEnd U_ o_ U'_ L_ ({ frames := 0, cells := 0, slots := 0, locals := 0 } : Room).cells ({ frames := 0, cells := 0, slots := 0, locals := 0 } : Room).slots) := by
  refine MetFree.of_bodySF (plainFor_of_name pn_4) hisR ?_
  intro p e s m args below meth c s₁ Bd hml0 hP hK
  obtain ⟨rfl, hZ, hh⟩ := hP
  have hx := Bd.exec
  have hby := Bd.bytes
  have hml : c.maxLocals = 1 := hml0
  have hown : s.vm.findClass "com/example/unraveling/unraveling/graph/IntList" = some m.cls := findClass_of_methodNamed Bd.named
  have hnm := (name_of_methodNamed Bd.named Bd.method).1
  have X0 : Stand p l e ({ frames := 0, cells := 0, slots := 0, locals := 0 } : Room) s m #[(.ref o)] below meth c s₁ [] 0 0 := Stand.of_body Bd
  have e0 : s₁.heap = h0 := by rw [← hh, Bd.state]; rfl
  have N0 := Fr.nil n0
  have k0 : ∀ tg, Steps p.tables e below (s₁.setTop (mkF m 0 #[.val (.ref o)] [])) tg → Steps p.tables e below (s₁.setTop (entryFrame m #[(.ref o)] 1)) tg := fun tg k => castTop (ef_rmSize m o) k
  obtain ⟨T1, X1, e1, st1⟩ := getF X0 hx hZ hown (host := "") (Or.inl (hw _ (List.mem_of_getElem? (i := 17) rfl))) Via.refl e0 Fs (g := (mkF m 1 #[.val (.ref o)] [(.ref o)])) rfl rfl (hb hby d4_1)
  have k2 : ∀ tg, Steps p.tables e below (T1.setTop (mkF m 4 #[.val (.ref o)] [(.int sz)])) tg → Steps p.tables e below (s₁.setTop (entryFrame m #[(.ref o)] 1)) tg := by
    intro tg kt
    refine k0 tg ?_
    show Steps p.tables e below (s₁.setTop (mkF m 0 #[.val (.ref o)] [])) _
    refine XS.aloadN X0.here hx rfl (hb hby d4_0) rfl rfl ?_
    show Steps p.tables e below (s₁.setTop (mkF m 1 #[.val (.ref o)] [(.ref o)])) _
    refine st1 _ ?_
    show Steps p.tables e below (T1.setTop (mkF m 4 #[.val (.ref o)] [(.int sz)])) _
    exact kt
  obtain ⟨fs, hr, hrun, hended, hW, hsame⟩ := X1.leave (v := some (.int sz)) (fun h => by rw [Bd.returns] at h; cases h)
  refine ⟨_, _, k2 _ ?_, hrun, hended, _, _, rfl, ?_, ⟨_, rfl⟩, hW, hsame.mono (by decide) (by decide)⟩
  · exact retI X1 hx Bd.returns (hb hby d4_4) hr
  · show QV _ h0 n0 _ T1.heap _
    exact ⟨rfl, N0, e1⟩
theorem d5_0 : decode prog_52_method_3_code 0 = .ok (.aload_n 0, 1) := by decide +kernel
theorem d5_1 : decode prog_52_method_3_code 1 = .ok (.getfield 7, 3) := by decide +kernel
theorem d5_4 : decode prog_52_method_3_code 4 = .ok (.iload_n 1, 1) := by decide +kernel
theorem d5_5 : decode prog_52_method_3_code 5 = .ok (.iaload, 1) := by decide +kernel
theorem d5_6 : decode prog_52_method_3_code 6 = .ok (.ireturn, 1) := by decide +kernel
theorem pn_5 : plainName "com/example/unraveling/unraveling/graph/IntList" = true := by first | (simp [plainName, overriddenIn]; done) | decide +kernel
theorem ef_rmGet (m : MethodId) (o : Addr) (i : Int32) : entryFrame m #[(.ref o), (.int i)] 2 = mkF m 0 #[.val (.ref o), .val (.int i)] [] := by first | (simp [entryFrame, mkF, argsToLocals, Value.category]; done) | rfl
set_option maxRecDepth 65536 in
set_option maxHeartbeats 40000000 in
theorem rmGet (l : Launch) (Z : State) (a0 : Array Value) (hw : ∀ d ∈ tables_1, d.before a0 Z = true) (ws : List Jvm.Cond) (o : Addr) (i : Int32) (va : Addr) (kc : ClassId) (n x : Int32) (vs : List Value) (h0 : Heap) (n0 : Nat) (Fv : Fld Z h0 o "com/example/unraveling/unraveling/graph/IntList" "values" "[I" (.ref va)) (Va : Arv Z h0 va kc .int n vs (.int (0 : Int32))) (h1 : ¬ i < 0) (h2 : i < n) (hg : vs.getD i.toNatClampNeg (.int (0 : Int32)) = .int x) :
    MetFree l (⟨"com/example/unraveling/unraveling/graph/IntList", "get", "(I)I"⟩ : MethodName) (head1 (Jvm.Cond.code (⟨"com/example/unraveling/unraveling/graph/IntList", "get", "(I)I"⟩ : MethodName) prog_52_method_3_code 2 (some .int) :: ws) ({ frames := 0, cells := 0, slots := 0, locals := 0 } : Room)) (fun a_ U_ => a_ = #[(.ref o), (.int i)] ∧ Z.Warmed39 U_.vm ∧ U_.heap = h0) (fun _ _ _ _ _ => True) (fun _ U_ o_ U'_ => ∃ v_ L_, o_ = .returned v_ ∧ QV (.int x) h0 n0 v_ U'_.heap L_ ∧ FrameEnd U_ o_ U'_ L_ ({ frames := 0, cells := 0, slots := 0, locals := 0 } : Room).cells ({ frames := 0, cells := 0, slots := 0, locals := 0 } : Room).slots) := by
  refine MetFree.of_bodySF (plainFor_of_name pn_5) hisR ?_
  intro p e s m args below meth c s₁ Bd hml0 hP hK
  obtain ⟨rfl, hZ, hh⟩ := hP
  have hx := Bd.exec
  have hby := Bd.bytes
  have hml : c.maxLocals = 2 := hml0
  have hown : s.vm.findClass "com/example/unraveling/unraveling/graph/IntList" = some m.cls := findClass_of_methodNamed Bd.named
  have hnm := (name_of_methodNamed Bd.named Bd.method).1
  have X0 : Stand p l e ({ frames := 0, cells := 0, slots := 0, locals := 0 } : Room) s m #[(.ref o), (.int i)] below meth c s₁ [] 0 0 := Stand.of_body Bd
  have e0 : s₁.heap = h0 := by rw [← hh, Bd.state]; rfl
  have N0 := Fr.nil n0
  have k0 : ∀ tg, Steps p.tables e below (s₁.setTop (mkF m 0 #[.val (.ref o), .val (.int i)] [])) tg → Steps p.tables e below (s₁.setTop (entryFrame m #[(.ref o), (.int i)] 2)) tg := fun tg k => castTop (ef_rmGet m o i) k
  obtain ⟨T1, X1, e1, st1⟩ := getF X0 hx hZ hown (host := "") (Or.inl (hw _ (List.mem_of_getElem? (i := 10) rfl))) Via.refl e0 Fv (g := (mkF m 1 #[.val (.ref o), .val (.int i)] [(.ref o)])) rfl rfl (hb hby d5_1)
  obtain ⟨cl5_2, Ar5_2, q5_2, S5_2, N5_2_, H5_2, G5_2⟩ := id Va
  have hin5_2 : ¬ (i < 0 ∨ cl5_2.slots.size ≤ (i).toNatClampNeg) := inb_of S5_2 ⟨h1, h2⟩
  have hat5_2 : cl5_2.slots[(i).toNatClampNeg]? = some (.int x) := H5_2.at hin5_2 hg
  have k3 : ∀ tg, Steps p.tables e below (T1.setTop (mkF m 6 #[.val (.ref o), .val (.int i)] [(.int x)])) tg → Steps p.tables e below (s₁.setTop (entryFrame m #[(.ref o), (.int i)] 2)) tg := by
    intro tg kt
    refine k0 tg ?_
    show Steps p.tables e below (s₁.setTop (mkF m 0 #[.val (.ref o), .val (.int i)] [])) _
    refine XS.aloadN X0.here hx rfl (hb hby d5_0) rfl rfl ?_
    show Steps p.tables e below (s₁.setTop (mkF m 1 #[.val (.ref o), .val (.int i)] [(.ref o)])) _
    refine st1 _ ?_
    show Steps p.tables e below (T1.setTop (mkF m 4 #[.val (.ref o), .val (.int i)] [(.ref va)])) _
    refine XS.iloadN X1.here hx rfl (hb hby d5_4) rfl ?_
    show Steps p.tables e below (T1.setTop (mkF m 5 #[.val (.ref o), .val (.int i)] [(.int i), (.ref va)])) _
    refine X1.iaload hx (j := i) (v := (.int x)) (by rw [e1]; exact Ar5_2.1) (State.isArrayOf_alike hZ.alike Ar5_2.2.1) Ar5_2.2.2 hin5_2 hat5_2 (g := (mkF m 5 #[.val (.ref o), .val (.int i)] [(.int i), (.ref va)])) rfl rfl (hb hby d5_5) _ ?_
    show Steps p.tables e below (T1.setTop (mkF m 6 #[.val (.ref o), .val (.int i)] [(.int x)])) _
    exact kt
  obtain ⟨fs, hr, hrun, hended, hW, hsame⟩ := X1.leave (v := some (.int x)) (fun h => by rw [Bd.returns] at h; cases h)
  refine ⟨_, _, k3 _ ?_, hrun, hended, _, _, rfl, ?_, ⟨_, rfl⟩, hW, hsame.mono (by decide) (by decide)⟩
  · exact retI X1 hx Bd.returns (hb hby d5_6) hr
  · show QV _ h0 n0 _ T1.heap _
    exact ⟨rfl, N0, e1⟩
theorem d3_0 : decode prog_52_method_2_code 0 = .ok (.aload_n 0, 1) := by decide +kernel
theorem d3_1 : decode prog_52_method_2_code 1 = .ok (.getfield 13, 3) := by decide +kernel
theorem d3_4 : decode prog_52_method_2_code 4 = .ok (.aload_n 0, 1) := by decide +kernel
theorem d3_5 : decode prog_52_method_2_code 5 = .ok (.getfield 7, 3) := by decide +kernel
theorem d3_8 : decode prog_52_method_2_code 8 = .ok (.arraylength, 1) := by decide +kernel
theorem d3_9 : decode prog_52_method_2_code 9 = .ok (.if_icmp .ne 20, 3) := by decide +kernel
theorem d3_29 : decode prog_52_method_2_code 29 = .ok (.aload_n 0, 1) := by decide +kernel
theorem d3_30 : decode prog_52_method_2_code 30 = .ok (.getfield 7, 3) := by decide +kernel
theorem d3_33 : decode prog_52_method_2_code 33 = .ok (.aload_n 0, 1) := by decide +kernel
theorem d3_34 : decode prog_52_method_2_code 34 = .ok (.dup, 1) := by decide +kernel
theorem d3_35 : decode prog_52_method_2_code 35 = .ok (.getfield 13, 3) := by decide +kernel
theorem d3_38 : decode prog_52_method_2_code 38 = .ok (.dup_x1, 1) := by decide +kernel
theorem d3_39 : decode prog_52_method_2_code 39 = .ok (.iconst 1, 1) := by decide +kernel
theorem d3_40 : decode prog_52_method_2_code 40 = .ok (.iadd, 1) := by decide +kernel
theorem d3_41 : decode prog_52_method_2_code 41 = .ok (.putfield 13, 3) := by decide +kernel
theorem d3_44 : decode prog_52_method_2_code 44 = .ok (.iload_n 1, 1) := by decide +kernel
theorem d3_45 : decode prog_52_method_2_code 45 = .ok (.iastore, 1) := by decide +kernel
theorem d3_46 : decode prog_52_method_2_code 46 = .ok (.return_, 1) := by decide +kernel
theorem pn_3 : plainName "com/example/unraveling/unraveling/graph/IntList" = true := by first | (simp [plainName, overriddenIn]; done) | decide +kernel
theorem ef_rmAdd (m : MethodId) (o : Addr) (v : Int32) : entryFrame m #[(.ref o), (.int v)] 2 = mkF m 0 #[.val (.ref o), .val (.int v)] [] := by first | (simp [entryFrame, mkF, argsToLocals, Value.category]; done) | rfl
set_option maxRecDepth 65536 in
set_option maxHeartbeats 40000000 in
theorem rmAdd (l : Launch) (Z : State) (a0 : Array Value) (hw : ∀ d ∈ tables_1, d.before a0 Z = true) (ws : List Jvm.Cond) (o : Addr) (v : Int32) (va : Addr) (kc : ClassId) (sz sz' : Int32) (vs : List Value) (k : Nat) (h0 : Heap) (n0 : Nat) (Z0 : n0 ≤ h0.size) (E_o : Exa Z h0 o "com/example/unraveling/unraveling/graph/IntList") (Fv : Fld Z h0 o "com/example/unraveling/unraveling/graph/IntList" "values" "[I" (.ref va)) (Fs : Fld Z h0 o "com/example/unraveling/unraveling/graph/IntList" "size" "I" (.int sz)) (Va : Arv Z h0 va kc .int (16 : Int32) vs (.int (0 : Int32))) (ne_o_va : o ≠ va) (g_o : n0 ≤ o) (g_va : n0 ≤ va) (h1 : ¬ sz < 0) (h2 : sz < (16 : Int32)) (hk : sz.toNatClampNeg = k) (hl : k < vs.length) (hs : sz + (1 : Int32) = sz') :
    MetFree l (⟨"com/example/unraveling/unraveling/graph/IntList", "add", "(I)V"⟩ : MethodName) (head1 (Jvm.Cond.code (⟨"com/example/unraveling/unraveling/graph/IntList", "add", "(I)V"⟩ : MethodName) prog_52_method_2_code 2 none :: ws) ({ frames := 0, cells := 0, slots := 0, locals := 0 } : Room)) (fun a_ U_ => a_ = #[(.ref o), (.int v)] ∧ Z.Warmed39 U_.vm ∧ U_.heap = h0) (fun _ _ _ _ _ => True) (fun _ U_ o_ U'_ => ∃ v_ L_, o_ = .returned v_ ∧ QAdd Z o va kc (16 : Int32) sz' (vs.set k (.int v)) h0 n0 v_ U'_.heap L_ ∧ FrameEnd U_ o_ U'_ L_ ({ frames := 0, cells := 0, slots := 0, locals := 0 } : Room).cells ({ frames := 0, cells := 0, slots := 0, locals := 0 } : Room).slots) := by
  refine MetFree.of_bodySF (plainFor_of_name pn_3) hisR ?_
  intro p e s m args below meth c s₁ Bd hml0 hP hK
  obtain ⟨rfl, hZ, hh⟩ := hP
  have hx := Bd.exec
  have hby := Bd.bytes
  have hml : c.maxLocals = 2 := hml0
  have hown : s.vm.findClass "com/example/unraveling/unraveling/graph/IntList" = some m.cls := findClass_of_methodNamed Bd.named
  have hnm := (name_of_methodNamed Bd.named Bd.method).1
  have X0 : Stand p l e ({ frames := 0, cells := 0, slots := 0, locals := 0 } : Room) s m #[(.ref o), (.int v)] below meth c s₁ [] 0 0 := Stand.of_body Bd
  have e0 : s₁.heap = h0 := by rw [← hh, Bd.state]; rfl
  have N0 := Fr.nil n0
  have k0 : ∀ tg, Steps p.tables e below (s₁.setTop (mkF m 0 #[.val (.ref o), .val (.int v)] [])) tg → Steps p.tables e below (s₁.setTop (entryFrame m #[(.ref o), (.int v)] 2)) tg := fun tg k => castTop (ef_rmAdd m o v) k
  obtain ⟨T1, X1, e1, st1⟩ := getF X0 hx hZ hown (host := "") (Or.inl (hw _ (List.mem_of_getElem? (i := 17) rfl))) Via.refl e0 Fs (g := (mkF m 1 #[.val (.ref o), .val (.int v)] [(.ref o)])) rfl rfl (hb hby d3_1)
  obtain ⟨T2, X2, e2, st2⟩ := getF X1 hx hZ hown (host := "") (Or.inl (hw _ (List.mem_of_getElem? (i := 10) rfl))) Via.refl e1 Fv (g := (mkF m 5 #[.val (.ref o), .val (.int v)] [(.ref o), (.int sz)])) rfl rfl (hb hby d3_5)
  obtain ⟨cl8_3, Ar8_3, q8_3, S8_3, N8_3_, H8_3, G8_3⟩ := id Va
  have hd4 : ¬ (sz = (16 : Int32)) := by intro q; rw [q] at h2; exact absurd h2 (by decide)
  obtain ⟨T5, X5, e5, st5⟩ := getF X2 hx hZ hown (host := "") (Or.inl (hw _ (List.mem_of_getElem? (i := 10) rfl))) Via.refl e2 Fv (g := (mkF m 30 #[.val (.ref o), .val (.int v)] [(.ref o)])) rfl rfl (hb hby d3_30)
  obtain ⟨T6, X6, e6, st6⟩ := getF X5 hx hZ hown (host := "") (Or.inl (hw _ (List.mem_of_getElem? (i := 17) rfl))) Via.refl e5 Fs (g := (mkF m 35 #[.val (.ref o), .val (.int v)] [(.ref o), (.ref o), (.ref va)])) rfl rfl (hb hby d3_35)
  obtain ⟨T7, h7, X7, e7, W7, st7⟩ := putF X6 hx hZ hown (host := "") (Or.inl (hw _ (List.mem_of_getElem? (i := 17) rfl))) Via.refl e6 Fs E_o (Or.inl (hw _ (List.mem_of_getElem? (i := 18) rfl))) (hw _ (List.mem_of_getElem? (i := 1) rfl)) (ty := .int) (by decide) rfl rfl (g := (mkF m 41 #[.val (.ref o), .val (.int v)] [(.int (sz + (1 : Int32))), (.ref o), (.int sz), (.ref va)])) rfl rfl (hb hby d3_41)
  have E7_o := E_o.wr W7
  have F7_o_values := Fv.other W7 (Or.inr (slot_ne (Or.inl (hw _ (List.mem_of_getElem? (i := 11) rfl))) (Or.inl (hw _ (List.mem_of_getElem? (i := 18) rfl))) (by decide) (t := (.array .int)) (t' := .int) (by decide) (by decide)))
  have V7_va := Va.other W7 (Ne.symm ne_o_va)
  have Z7 := Nat.le_trans Z0 (Keep.of_wr W7).1
  have KP7 := (Keep.refl h0 [o, va]).wr W7 (Or.inl (List.mem_of_getElem? (i := 0) rfl))
  have N7 := Fr.snoc X7 N0 g_o
  have F7_o_size := Fs.same W7
  obtain ⟨cl45_8, Ar45_8, q45_8, S45_8, N45_8_, H45_8, G45_8⟩ := id V7_va
  have hin45_8 : ¬ (sz < 0 ∨ cl45_8.slots.size ≤ (sz).toNatClampNeg) := inb_of S45_8 ⟨h1, h2⟩
  obtain ⟨T9, h9, X9, e9, W9, st9⟩ := stI X7 hx hZ e7 Ar45_8 (j := sz) hin45_8 (g := (mkF m 45 #[.val (.ref o), .val (.int v)] [(.int v), (.int sz), (.ref va)])) rfl rfl (hb hby d3_45)
  have E9_o := E7_o.wr W9
  have F9_o_values := F7_o_values.other W9 (Or.inl ne_o_va)
  have F9_o_size := F7_o_size.other W9 (Or.inl ne_o_va)
  have Z9 := Nat.le_trans Z7 (Keep.of_wr W9).1
  have KP9 := KP7.wr W9 (Or.inl (List.mem_of_getElem? (i := 1) rfl))
  have N9 := Fr.snoc X9 N7 g_va
  have V9_va : Arv Z h9 va kc .int (16 : Int32) (vs.set k (.int v)) (.int (0 : Int32)) := Arv.set Ar45_8 q45_8 S45_8 N45_8_ H45_8 G45_8 rfl W9 k hk hl
  have k10 : ∀ tg, Steps p.tables e below (T9.setTop (mkF m 46 #[.val (.ref o), .val (.int v)] [])) tg → Steps p.tables e below (s₁.setTop (entryFrame m #[(.ref o), (.int v)] 2)) tg := by
    intro tg kt
    refine k0 tg ?_
    show Steps p.tables e below (s₁.setTop (mkF m 0 #[.val (.ref o), .val (.int v)] [])) _
    refine XS.aloadN X0.here hx rfl (hb hby d3_0) rfl rfl ?_
    show Steps p.tables e below (s₁.setTop (mkF m 1 #[.val (.ref o), .val (.int v)] [(.ref o)])) _
    refine st1 _ ?_
    show Steps p.tables e below (T1.setTop (mkF m 4 #[.val (.ref o), .val (.int v)] [(.int sz)])) _
    refine XS.aloadN X1.here hx rfl (hb hby d3_4) rfl rfl ?_
    show Steps p.tables e below (T1.setTop (mkF m 5 #[.val (.ref o), .val (.int v)] [(.ref o), (.int sz)])) _
    refine st2 _ ?_
    show Steps p.tables e below (T2.setTop (mkF m 8 #[.val (.ref o), .val (.int v)] [(.ref va), (.int sz)])) _
    refine X2.arraylength hx (by rw [e2]; exact Ar8_3.1) (State.isArrayOf_alike hZ.alike Ar8_3.2.1) (g := (mkF m 8 #[.val (.ref o), .val (.int v)] [(.ref va), (.int sz)])) rfl rfl (hb hby d3_8) _ ?_
    rw [len_of S8_3 N8_3_]
    show Steps p.tables e below (T2.setTop (mkF m 9 #[.val (.ref o), .val (.int v)] [(.int (16 : Int32)), (.int sz)])) _
    refine XS.icmpYes X2.here hx rfl (pc0 := 9) (pc' := 29) rfl (hb hby d3_9) rfl (feq hd4).2 (by decide) (by decide) ?_
    show Steps p.tables e below (T2.setTop (mkF m 29 #[.val (.ref o), .val (.int v)] [])) _
    refine XS.aloadN X2.here hx rfl (hb hby d3_29) rfl rfl ?_
    show Steps p.tables e below (T2.setTop (mkF m 30 #[.val (.ref o), .val (.int v)] [(.ref o)])) _
    refine st5 _ ?_
    show Steps p.tables e below (T5.setTop (mkF m 33 #[.val (.ref o), .val (.int v)] [(.ref va)])) _
    refine XS.aloadN X5.here hx rfl (hb hby d3_33) rfl rfl ?_
    show Steps p.tables e below (T5.setTop (mkF m 34 #[.val (.ref o), .val (.int v)] [(.ref o), (.ref va)])) _
    refine XS.dup X5.here hx rfl (hb hby d3_34) rfl rfl ?_
    show Steps p.tables e below (T5.setTop (mkF m 35 #[.val (.ref o), .val (.int v)] [(.ref o), (.ref o), (.ref va)])) _
    refine st6 _ ?_
    show Steps p.tables e below (T6.setTop (mkF m 38 #[.val (.ref o), .val (.int v)] [(.int sz), (.ref o), (.ref va)])) _
    refine XS.dupX1 X6.here hx rfl (hb hby d3_38) rfl rfl rfl ?_
    show Steps p.tables e below (T6.setTop (mkF m 39 #[.val (.ref o), .val (.int v)] [(.int sz), (.ref o), (.int sz), (.ref va)])) _
    refine XS.iconst X6.here hx rfl (hb hby d3_39) ?_
    show Steps p.tables e below (T6.setTop (mkF m 40 #[.val (.ref o), .val (.int v)] [(.int (1 : Int32)), (.int sz), (.ref o), (.int sz), (.ref va)])) _
    refine XS.iadd X6.here hx rfl (hb hby d3_40) rfl ?_
    show Steps p.tables e below (T6.setTop (mkF m 41 #[.val (.ref o), .val (.int v)] [(.int (sz + (1 : Int32))), (.ref o), (.int sz), (.ref va)])) _
    refine st7 _ ?_
    show Steps p.tables e below (T7.setTop (mkF m 44 #[.val (.ref o), .val (.int v)] [(.int sz), (.ref va)])) _
    refine XS.iloadN X7.here hx rfl (hb hby d3_44) rfl ?_
    show Steps p.tables e below (T7.setTop (mkF m 45 #[.val (.ref o), .val (.int v)] [(.int v), (.int sz), (.ref va)])) _
    refine st9 _ ?_
    show Steps p.tables e below (T9.setTop (mkF m 46 #[.val (.ref o), .val (.int v)] [])) _
    exact kt
  obtain ⟨fs, hr, hrun, hended, hW, hsame⟩ := X9.leave (v := none) (fun _ => rfl)
  refine ⟨_, _, k10 _ ?_, hrun, hended, _, _, rfl, ?_, ⟨_, rfl⟩, hW, hsame.mono (by decide) (by decide)⟩
  · exact X9.returnOut hx Bd.returns (hb hby d3_46) hr
  · show QAdd Z o va kc (16 : Int32) sz' (vs.set k (.int v)) h0 n0 _ T9.heap _
    rw [e9]
    exact ⟨rfl, N9, KP9, F9_o_values, hs ▸ F9_o_size, V9_va⟩
theorem d8_0 : decode jdk_29_method_69_code 0 = .ok (.iload_n 0, 1) := by decide +kernel
theorem d8_1 : decode jdk_29_method_69_code 1 = .ok (.iload_n 1, 1) := by decide +kernel
theorem d8_2 : decode jdk_29_method_69_code 2 = .ok (.if_icmp .gt 7, 3) := by decide +kernel
theorem d8_5 : decode jdk_29_method_69_code 5 = .ok (.iload_n 0, 1) := by decide +kernel
theorem d8_6 : decode jdk_29_method_69_code 6 = .ok (.goto 4, 3) := by decide +kernel
theorem d8_9 : decode jdk_29_method_69_code 9 = .ok (.iload_n 1, 1) := by decide +kernel
theorem d8_10 : decode jdk_29_method_69_code 10 = .ok (.ireturn, 1) := by decide +kernel
theorem ef_rmMin (m : MethodId) (x : Int32) (y : Int32) : entryFrame m #[(.int x), (.int y)] 2 = mkF m 0 #[.val (.int x), .val (.int y)] [] := by first | (simp [entryFrame, mkF, argsToLocals, Value.category]; done) | rfl
set_option maxRecDepth 65536 in
set_option maxHeartbeats 40000000 in
theorem rmMin (l : Launch) (Z : State) (a0 : Array Value) (hw : ∀ d ∈ tables_1, d.before a0 Z = true) (ws : List Jvm.Cond) (x : Int32) (y : Int32)  (h0 : Heap) (n0 : Nat)  :
    MetFree l (⟨"java/lang/Math", "min", "(II)I"⟩ : MethodName) (head1 (Jvm.Cond.code (⟨"java/lang/Math", "min", "(II)I"⟩ : MethodName) jdk_29_method_69_code 2 (some .int) :: ws) ({ frames := 0, cells := 0, slots := 0, locals := 0 } : Room)) (fun a_ U_ => a_ = #[(.int x), (.int y)] ∧ Z.Warmed39 U_.vm ∧ U_.heap = h0) (fun _ _ _ _ _ => True) (fun _ U_ o_ U'_ => ∃ v_ L_, o_ = .returned v_ ∧ QV (.int (if y < x then y else x)) h0 n0 v_ U'_.heap L_ ∧ FrameEnd U_ o_ U'_ L_ ({ frames := 0, cells := 0, slots := 0, locals := 0 } : Room).cells ({ frames := 0, cells := 0, slots := 0, locals := 0 } : Room).slots) := by
  refine MetFree.of_bodySF (Jvm.Free.JP.mathPlain rfl (by decide +kernel)) hisR ?_
  intro p e s m args below meth c s₁ Bd hml0 hP hK
  obtain ⟨rfl, hZ, hh⟩ := hP
  have hx := Bd.exec
  have hby := Bd.bytes
  have hml : c.maxLocals = 2 := hml0
  have hown : s.vm.findClass "java/lang/Math" = some m.cls := findClass_of_methodNamed Bd.named
  have hnm := (name_of_methodNamed Bd.named Bd.method).1
  have X0 : Stand p l e ({ frames := 0, cells := 0, slots := 0, locals := 0 } : Room) s m #[(.int x), (.int y)] below meth c s₁ [] 0 0 := Stand.of_body Bd
  have e0 : s₁.heap = h0 := by rw [← hh, Bd.state]; rfl
  have N0 := Fr.nil n0
  have k0 : ∀ tg, Steps p.tables e below (s₁.setTop (mkF m 0 #[.val (.int x), .val (.int y)] [])) tg → Steps p.tables e below (s₁.setTop (entryFrame m #[(.int x), (.int y)] 2)) tg := fun tg k => castTop (ef_rmMin m x y) k
  have k1 : ∀ tg, Steps p.tables e below (s₁.setTop (mkF m 2 #[.val (.int x), .val (.int y)] [(.int y), (.int x)])) tg → Steps p.tables e below (s₁.setTop (entryFrame m #[(.int x), (.int y)] 2)) tg := by
    intro tg kt
    refine k0 tg ?_
    show Steps p.tables e below (s₁.setTop (mkF m 0 #[.val (.int x), .val (.int y)] [])) _
    refine XS.iloadN X0.here hx rfl (hb hby d8_0) rfl ?_
    show Steps p.tables e below (s₁.setTop (mkF m 1 #[.val (.int x), .val (.int y)] [(.int x)])) _
    refine XS.iloadN X0.here hx rfl (hb hby d8_1) rfl ?_
    show Steps p.tables e below (s₁.setTop (mkF m 2 #[.val (.int x), .val (.int y)] [(.int y), (.int x)])) _
    exact kt
  have k5 : ∀ tg, Steps p.tables e below (s₁.setTop (mkF m 10 #[.val (.int x), .val (.int y)] [(.int (if y < x then y else x))])) tg → Steps p.tables e below (s₁.setTop (entryFrame m #[(.int x), (.int y)] 2)) tg := by
    intro tg kt
    refine k1 tg ?_
    show Steps p.tables e below (s₁.setTop (mkF m 2 #[.val (.int x), .val (.int y)] [(.int y), (.int x)])) _
    by_cases hc2 : y < x
    · refine XS.icmpYes X0.here hx rfl (pc0 := 2) (pc' := 9) rfl (hb hby d8_2) rfl (tlt hc2).2.2.1 (by decide) (by decide) ?_
      show Steps p.tables e below (s₁.setTop (mkF m 9 #[.val (.int x), .val (.int y)] [])) _
      refine XS.iloadN X0.here hx rfl (hb hby d8_9) rfl ?_
      show Steps p.tables e below (s₁.setTop (mkF m 10 #[.val (.int x), .val (.int y)] [(.int y)])) _
      repeat rw [if_pos hc2] at kt
      exact kt
    · refine XS.icmpNo X0.here hx rfl (hb hby d8_2) rfl (flt hc2).2.2.1 ?_
      show Steps p.tables e below (s₁.setTop (mkF m 5 #[.val (.int x), .val (.int y)] [])) _
      refine XS.iloadN X0.here hx rfl (hb hby d8_5) rfl ?_
      show Steps p.tables e below (s₁.setTop (mkF m 6 #[.val (.int x), .val (.int y)] [(.int x)])) _
      refine XS.goto X0.here hx rfl (pc0 := 6) (pc' := 10) rfl (hb hby d8_6) (by decide) (by decide) ?_
      show Steps p.tables e below (s₁.setTop (mkF m 10 #[.val (.int x), .val (.int y)] [(.int x)])) _
      repeat rw [if_neg hc2] at kt
      exact kt
  obtain ⟨z6, ez6⟩ : ∃ z : Int32, z = (if y < x then y else x) := ⟨_, rfl⟩
  have k7 : ∀ tg, Steps p.tables e below (s₁.setTop (mkF m 10 #[.val (.int x), .val (.int y)] [(.int z6)])) tg → Steps p.tables e below (s₁.setTop (entryFrame m #[(.int x), (.int y)] 2)) tg := by
    intro tg kt
    refine k5 tg ?_
    show Steps p.tables e below (s₁.setTop (mkF m 10 #[.val (.int x), .val (.int y)] [(.int (if y < x then y else x))])) _
    rw [← ez6]
    show Steps p.tables e below (s₁.setTop (mkF m 10 #[.val (.int x), .val (.int y)] [(.int z6)])) _
    exact kt
  obtain ⟨fs, hr, hrun, hended, hW, hsame⟩ := X0.leave (v := some (.int z6)) (fun h => by rw [Bd.returns] at h; cases h)
  refine ⟨_, _, k7 _ ?_, hrun, hended, _, _, rfl, ?_, ⟨_, rfl⟩, hW, hsame.mono (by decide) (by decide)⟩
  · exact retI X0 hx Bd.returns (hb hby d8_10) hr
  · show QV _ h0 n0 _ s₁.heap _
    exact ⟨by subst ez6; rfl, N0, e0⟩
theorem d7_0 : decode jdk_65_method_123_code 0 = .ok (.iload_n 1, 1) := by decide +kernel
theorem d7_1 : decode jdk_65_method_123_code 1 = .ok (.aload_n 0, 1) := by decide +kernel
theorem d7_2 : decode jdk_65_method_123_code 2 = .ok (.arraylength, 1) := by decide +kernel
theorem d7_3 : decode jdk_65_method_123_code 3 = .ok (.if_icmp .ne 11, 3) := by decide +kernel
theorem d7_14 : decode jdk_65_method_123_code 14 = .ok (.iload_n 1, 1) := by decide +kernel
theorem d7_15 : decode jdk_65_method_123_code 15 = .ok (.newarray .int, 2) := by decide +kernel
theorem d7_17 : decode jdk_65_method_123_code 17 = .ok (.astore_n 2, 1) := by decide +kernel
theorem d7_18 : decode jdk_65_method_123_code 18 = .ok (.aload_n 0, 1) := by decide +kernel
theorem d7_19 : decode jdk_65_method_123_code 19 = .ok (.iconst 0, 1) := by decide +kernel
theorem d7_20 : decode jdk_65_method_123_code 20 = .ok (.aload_n 2, 1) := by decide +kernel
theorem d7_21 : decode jdk_65_method_123_code 21 = .ok (.iconst 0, 1) := by decide +kernel
theorem d7_22 : decode jdk_65_method_123_code 22 = .ok (.aload_n 0, 1) := by decide +kernel
theorem d7_23 : decode jdk_65_method_123_code 23 = .ok (.arraylength, 1) := by decide +kernel
theorem d7_24 : decode jdk_65_method_123_code 24 = .ok (.iload_n 1, 1) := by decide +kernel
theorem d7_25 : decode jdk_65_method_123_code 25 = .ok (.invokestatic 304, 3) := by decide +kernel
theorem d7_28 : decode jdk_65_method_123_code 28 = .ok (.invokestatic 150, 3) := by decide +kernel
theorem d7_31 : decode jdk_65_method_123_code 31 = .ok (.aload_n 2, 1) := by decide +kernel
theorem d7_32 : decode jdk_65_method_123_code 32 = .ok (.areturn, 1) := by decide +kernel
theorem pn_7 : plainName "java/util/Arrays" = true := by first | (simp [plainName, overriddenIn]; done) | decide +kernel
theorem pd_0 : parseMethodDescriptor "(II)I" = some ⟨[.int, .int], some .int⟩ := by decide +kernel
theorem ef_rmCopy_16_32 (m : MethodId) (a : Addr) : entryFrame m #[(.ref a), (.int (32 : Int32))] 3 = mkF m 0 #[.val (.ref a), .val (.int (32 : Int32)), .unset] [] := by first | (simp [entryFrame, mkF, argsToLocals, Value.category]; done) | rfl
set_option maxRecDepth 65536 in
set_option maxHeartbeats 40000000 in
theorem rmCopy_16_32 (l : Launch) (Z : State) (a0 : Array Value) (hw : ∀ d ∈ tables_1, d.before a0 Z = true) (ws : List Jvm.Cond) (a : Addr) (kc : ClassId) (x0 x1 x2 x3 x4 x5 x6 x7 x8 x9 x10 x11 x12 x13 x14 x15 : Value) (h0 : Heap) (n0 : Nat) (Z0 : n0 ≤ h0.size) (Va : Arv Z h0 a kc .int (16 : Int32) [x0, x1, x2, x3, x4, x5, x6, x7, x8, x9, x10, x11, x12, x13, x14, x15] (.int (0 : Int32))) :
    MetFree l (⟨"java/util/Arrays", "copyOf", "([II)[I"⟩ : MethodName) (head1 (Jvm.Cond.code (⟨"java/util/Arrays", "copyOf", "([II)[I"⟩ : MethodName) jdk_65_method_123_code 3 (some (.array .int)) :: ws) ({ frames := 1, cells := 1, slots := 32, locals := 40 } : Room)) (fun a_ U_ => a_ = #[(.ref a), (.int (32 : Int32))] ∧ Z.Warmed39 U_.vm ∧ U_.heap = h0) (fun _ _ _ _ _ => True) (fun _ U_ o_ U'_ => ∃ v_ L_, o_ = .returned v_ ∧ QCopy Z (32 : Int32) [x0, x1, x2, x3, x4, x5, x6, x7, x8, x9, x10, x11, x12, x13, x14, x15, (.int (0 : Int32)), (.int (0 : Int32)), (.int (0 : Int32)), (.int (0 : Int32)), (.int (0 : Int32)), (.int (0 : Int32)), (.int (0 : Int32)), (.int (0 : Int32)), (.int (0 : Int32)), (.int (0 : Int32)), (.int (0 : Int32)), (.int (0 : Int32)), (.int (0 : Int32)), (.int (0 : Int32)), (.int (0 : Int32)), (.int (0 : Int32))] h0 n0 v_ U'_.heap L_ ∧ FrameEnd U_ o_ U'_ L_ ({ frames := 1, cells := 1, slots := 32, locals := 40 } : Room).cells ({ frames := 1, cells := 1, slots := 32, locals := 40 } : Room).slots) := by
  refine MetFree.of_bodySF (plainFor_of_name pn_7) hisR ?_
  intro p e s m args below meth c s₁ Bd hml0 hP hK
  obtain ⟨rfl, hZ, hh⟩ := hP
  have hx := Bd.exec
  have hby := Bd.bytes
  have hml : c.maxLocals = 3 := hml0
  have hown : s.vm.findClass "java/util/Arrays" = some m.cls := findClass_of_methodNamed Bd.named
  have hnm := (name_of_methodNamed Bd.named Bd.method).1
  have X0 : Stand p l e ({ frames := 1, cells := 1, slots := 32, locals := 40 } : Room) s m #[(.ref a), (.int (32 : Int32))] below meth c s₁ [] 0 0 := Stand.of_body Bd
  have e0 : s₁.heap = h0 := by rw [← hh, Bd.state]; rfl
  have N0 := Fr.nil n0
  have k0 : ∀ tg, Steps p.tables e below (s₁.setTop (mkF m 0 #[.val (.ref a), .val (.int (32 : Int32)), .unset] [])) tg → Steps p.tables e below (s₁.setTop (entryFrame m #[(.ref a), (.int (32 : Int32))] 3)) tg := fun tg k => castTop (ef_rmCopy_16_32 m a) k
  obtain ⟨cl2_1, Ar2_1, q2_1, S2_1, N2_1_, H2_1, G2_1⟩ := id Va
  have hd2 : ¬ ((32 : Int32) = (16 : Int32)) := by decide
  obtain ⟨T3, h3, c3, X3, e3, E3, A3, st3⟩ := newP X0 hx hZ (hw _ (List.mem_of_getElem? (i := 9) rfl)) e0 (g := (mkF m 15 #[.val (.ref a), .val (.int (32 : Int32)), .unset] [(.int (32 : Int32))])) rfl (hb hby d7_15) rfl (by decide) (cap := 32) (by decide) (by decide) (by decide) (by decide)
  obtain ⟨b3, g3⟩ : ∃ z, z = h0.size := ⟨_, rfl⟩
  have ne_a_b3 : a ≠ b3 := Nat.ne_of_lt (Nat.lt_of_lt_of_le Va.lt (Nat.le_of_eq g3.symm))
  have g_b3 : n0 ≤ b3 := Nat.le_trans Z0 (Nat.le_of_eq g3.symm)
  have sz_b3 : h0.size ≤ b3 := Nat.le_trans (Keep.refl h0 []).1 (Nat.le_of_eq g3.symm)
  rw [← g3] at A3 st3
  have V3_a := Va.ext E3
  have Z3 := Nat.le_trans Z0 E3.1
  have KP3 := (Keep.refl h0 []).ext E3
  have V_b3 : Arv Z h3 b3 c3 .int (32 : Int32) [(.int (0 : Int32)), (.int (0 : Int32)), (.int (0 : Int32)), (.int (0 : Int32)), (.int (0 : Int32)), (.int (0 : Int32)), (.int (0 : Int32)), (.int (0 : Int32)), (.int (0 : Int32)), (.int (0 : Int32)), (.int (0 : Int32)), (.int (0 : Int32)), (.int (0 : Int32)), (.int (0 : Int32)), (.int (0 : Int32)), (.int (0 : Int32)), (.int (0 : Int32)), (.int (0 : Int32)), (.int (0 : Int32)), (.int (0 : Int32)), (.int (0 : Int32)), (.int (0 : Int32)), (.int (0 : Int32)), (.int (0 : Int32)), (.int (0 : Int32)), (.int (0 : Int32)), (.int (0 : Int32)), (.int (0 : Int32)), (.int (0 : Int32)), (.int (0 : Int32)), (.int (0 : Int32)), (.int (0 : Int32))] (.int (0 : Int32)) := (Arv.new A3 (by decide)).pad (pad_rep [] (.int (0 : Int32)) 32)
  obtain ⟨cl23_4, Ar23_4, q23_4, S23_4, N23_4_, H23_4, G23_4⟩ := id V3_a
  obtain ⟨_, _, ⟨T5, L5, k5, n5⟩, -, X5, ⟨Lc5, hQ5, l5, y5, z5⟩, st5⟩ := Jvm.LawKit.callS X3 hx (y := (⟨"java/lang/Math", "min", "(II)I"⟩ : MethodName)) hown (mvT hZ (hw _ (List.mem_of_getElem? (i := 38) rfl))) (mvT hZ (hw _ (List.mem_of_getElem? (i := 39) rfl))) (mvT hZ (hw _ (List.mem_of_getElem? (i := 40) rfl))) (mvT hZ (hw _ (List.mem_of_getElem? (i := 41) rfl))) (by decide) (backOf (W := 4) (rmMin l Z a0 hw [] (16 : Int32) (32 : Int32)  h3 n0 ) hZ (hw _ (List.mem_of_getElem? (i := 41) rfl)) (hw _ (List.mem_of_getElem? (i := 40) rfl)) (by decide) (by decide)) (g := (mkF m 25 #[.val (.ref a), .val (.int (32 : Int32)), .val (.ref b3)] [(.int (32 : Int32)), (.int (16 : Int32)), (.int (0 : Int32)), (.ref b3), (.int (0 : Int32)), (.ref a)])) rfl (by rw [hml]; rfl) (argsL := [(.int (16 : Int32)), (.int (32 : Int32))]) (rest := [(.int (0 : Int32)), (.ref b3), (.int (0 : Int32)), (.ref a)]) (lenOf pd_0 rfl) rfl (by show 2 * 0 + _ ≤ _; exact Nat.le_of_eq rfl) (hb hby d7_25) (fun _ _ => ⟨rfl, e3, (by decide : 1 + 0 ≤ _), (by decide : 32 + 0 ≤ _)⟩)
  dsimp only [Pt.U, Pt.locs, Pt.cells, Pt.slots] at X5 l5 y5 z5 st5 hQ5
  subst l5 y5 z5
  obtain ⟨rfl, N5q, e5⟩ := hQ5
  have N5 := Fr.app N0 N5q
  obtain ⟨T6, h6, L6, X6, e6, N6, K6, V6q, st6⟩ := cpA X5 hx hZ hown (hw _ (List.mem_of_getElem? (i := 42) rfl)) (hw _ (List.mem_of_getElem? (i := 45) rfl)) (hw _ (List.mem_of_getElem? (i := 43) rfl)) (hw _ (List.mem_of_getElem? (i := 44) rfl)) e5 V3_a V_b3 (Or.inl ⟨rfl, rfl⟩) (by decide) (by decide) (by decide) (by decide) (by decide) (us := [x0, x1, x2, x3, x4, x5, x6, x7, x8, x9, x10, x11, x12, x13, x14, x15]) rfl (by decide) N5 g_b3 (g := (mkF m 28 #[.val (.ref a), .val (.int (32 : Int32)), .val (.ref b3)] [(.int (16 : Int32)), (.int (0 : Int32)), (.ref b3), (.int (0 : Int32)), (.ref a)])) rfl (by rw [hml]; rfl) rfl (hb hby d7_28) (by decide) (W := 0) (by show 2 * 0 + _ ≤ _; exact Nat.le_of_eq rfl) (by decide)
  have V6_b3 : Arv Z h6 b3 c3 .int (32 : Int32) [x0, x1, x2, x3, x4, x5, x6, x7, x8, x9, x10, x11, x12, x13, x14, x15, (.int (0 : Int32)), (.int (0 : Int32)), (.int (0 : Int32)), (.int (0 : Int32)), (.int (0 : Int32)), (.int (0 : Int32)), (.int (0 : Int32)), (.int (0 : Int32)), (.int (0 : Int32)), (.int (0 : Int32)), (.int (0 : Int32)), (.int (0 : Int32)), (.int (0 : Int32)), (.int (0 : Int32)), (.int (0 : Int32)), (.int (0 : Int32))] (.int (0 : Int32)) := V6q
  have V6_a := V3_a.keep K6 (ninS ne_a_b3 nin0)
  have Z6 := Nat.le_trans Z3 K6.1
  have KP6 := KP3.trans K6 (allS (Or.inr sz_b3) all0)
  have k7 : ∀ tg, Steps p.tables e below (T6.setTop (mkF m 32 #[.val (.ref a), .val (.int (32 : Int32)), .val (.ref b3)] [(.ref b3)])) tg → Steps p.tables e below (s₁.setTop (entryFrame m #[(.ref a), (.int (32 : Int32))] 3)) tg := by
    intro tg kt
    refine k0 tg ?_
    show Steps p.tables e below (s₁.setTop (mkF m 0 #[.val (.ref a), .val (.int (32 : Int32)), .unset] [])) _
    refine XS.iloadN X0.here hx rfl (hb hby d7_0) rfl ?_
    show Steps p.tables e below (s₁.setTop (mkF m 1 #[.val (.ref a), .val (.int (32 : Int32)), .unset] [(.int (32 : Int32))])) _
    refine XS.aloadN X0.here hx rfl (hb hby d7_1) rfl rfl ?_
    show Steps p.tables e below (s₁.setTop (mkF m 2 #[.val (.ref a), .val (.int (32 : Int32)), .unset] [(.ref a), (.int (32 : Int32))])) _
    refine X0.arraylength hx (by rw [e0]; exact Ar2_1.1) (State.isArrayOf_alike hZ.alike Ar2_1.2.1) (g := (mkF m 2 #[.val (.ref a), .val (.int (32 : Int32)), .unset] [(.ref a), (.int (32 : Int32))])) rfl rfl (hb hby d7_2) _ ?_
    rw [len_of S2_1 N2_1_]
    show Steps p.tables e below (s₁.setTop (mkF m 3 #[.val (.ref a), .val (.int (32 : Int32)), .unset] [(.int (16 : Int32)), (.int (32 : Int32))])) _
    refine XS.icmpYes X0.here hx rfl (pc0 := 3) (pc' := 14) rfl (hb hby d7_3) rfl (feq hd2).2 (by decide) (by decide) ?_
    show Steps p.tables e below (s₁.setTop (mkF m 14 #[.val (.ref a), .val (.int (32 : Int32)), .unset] [])) _
    refine XS.iloadN X0.here hx rfl (hb hby d7_14) rfl ?_
    show Steps p.tables e below (s₁.setTop (mkF m 15 #[.val (.ref a), .val (.int (32 : Int32)), .unset] [(.int (32 : Int32))])) _
    refine st3 _ ?_
    show Steps p.tables e below (T3.setTop (mkF m 17 #[.val (.ref a), .val (.int (32 : Int32)), .unset] [(.ref b3)])) _
    refine XS.astoreN X3.here hx rfl (hb hby d7_17) rfl rfl (l' := #[.val (.ref a), .val (.int (32 : Int32)), .val (.ref b3)]) rfl ?_
    show Steps p.tables e below (T3.setTop (mkF m 18 #[.val (.ref a), .val (.int (32 : Int32)), .val (.ref b3)] [])) _
    refine XS.aloadN X3.here hx rfl (hb hby d7_18) rfl rfl ?_
    show Steps p.tables e below (T3.setTop (mkF m 19 #[.val (.ref a), .val (.int (32 : Int32)), .val (.ref b3)] [(.ref a)])) _
    refine XS.iconst X3.here hx rfl (hb hby d7_19) ?_
    show Steps p.tables e below (T3.setTop (mkF m 20 #[.val (.ref a), .val (.int (32 : Int32)), .val (.ref b3)] [(.int (0 : Int32)), (.ref a)])) _
    refine XS.aloadN X3.here hx rfl (hb hby d7_20) rfl rfl ?_
    show Steps p.tables e below (T3.setTop (mkF m 21 #[.val (.ref a), .val (.int (32 : Int32)), .val (.ref b3)] [(.ref b3), (.int (0 : Int32)), (.ref a)])) _
    refine XS.iconst X3.here hx rfl (hb hby d7_21) ?_
    show Steps p.tables e below (T3.setTop (mkF m 22 #[.val (.ref a), .val (.int (32 : Int32)), .val (.ref b3)] [(.int (0 : Int32)), (.ref b3), (.int (0 : Int32)), (.ref a)])) _
    refine XS.aloadN X3.here hx rfl (hb hby d7_22) rfl rfl ?_
    show Steps p.tables e below (T3.setTop (mkF m 23 #[.val (.ref a), .val (.int (32 : Int32)), .val (.ref b3)] [(.ref a), (.int (0 : Int32)), (.ref b3), (.int (0 : Int32)), (.ref a)])) _
    refine X3.arraylength hx (by rw [e3]; exact Ar23_4.1) (State.isArrayOf_alike hZ.alike Ar23_4.2.1) (g := (mkF m 23 #[.val (.ref a), .val (.int (32 : Int32)), .val (.ref b3)] [(.ref a), (.int (0 : Int32)), (.ref b3), (.int (0 : Int32)), (.ref a)])) rfl rfl (hb hby d7_23) _ ?_
    rw [len_of S23_4 N23_4_]
    show Steps p.tables e below (T3.setTop (mkF m 24 #[.val (.ref a), .val (.int (32 : Int32)), .val (.ref b3)] [(.int (16 : Int32)), (.int (0 : Int32)), (.ref b3), (.int (0 : Int32)), (.ref a)])) _
    refine XS.iloadN X3.here hx rfl (hb hby d7_24) rfl ?_
    show Steps p.tables e below (T3.setTop (mkF m 25 #[.val (.ref a), .val (.int (32 : Int32)), .val (.ref b3)] [(.int (32 : Int32)), (.int (16 : Int32)), (.int (0 : Int32)), (.ref b3), (.int (0 : Int32)), (.ref a)])) _
    refine st5 _ ?_
    show Steps p.tables e below (T5.setTop (mkF m 28 #[.val (.ref a), .val (.int (32 : Int32)), .val (.ref b3)] [(.int (if (32 : Int32) < (16 : Int32) then (32 : Int32) else (16 : Int32))), (.int (0 : Int32)), (.ref b3), (.int (0 : Int32)), (.ref a)])) _
    rw [(by decide : (if (32 : Int32) < (16 : Int32) then (32 : Int32) else (16 : Int32)) = (16 : Int32))]
    show Steps p.tables e below (T5.setTop (mkF m 28 #[.val (.ref a), .val (.int (32 : Int32)), .val (.ref b3)] [(.int (16 : Int32)), (.int (0 : Int32)), (.ref b3), (.int (0 : Int32)), (.ref a)])) _
    refine st6 _ ?_
    show Steps p.tables e below (T6.setTop (mkF m 31 #[.val (.ref a), .val (.int (32 : Int32)), .val (.ref b3)] [])) _
    refine XS.aloadN X6.here hx rfl (hb hby d7_31) rfl rfl ?_
    show Steps p.tables e below (T6.setTop (mkF m 32 #[.val (.ref a), .val (.int (32 : Int32)), .val (.ref b3)] [(.ref b3)])) _
    exact kt
  obtain ⟨fs, hr, hrun, hended, hW, hsame⟩ := X6.leave (v := some (.ref b3)) (fun h => by rw [Bd.returns] at h; cases h)
  refine ⟨_, _, k7 _ ?_, hrun, hended, _, _, rfl, ?_, ⟨_, rfl⟩, hW, hsame.mono (by decide) (by decide)⟩
  · exact own_retA X6 hx Bd.returns rfl (hb hby d7_32) hr
  · show QCopy Z (32 : Int32) [x0, x1, x2, x3, x4, x5, x6, x7, x8, x9, x10, x11, x12, x13, x14, x15, (.int (0 : Int32)), (.int (0 : Int32)), (.int (0 : Int32)), (.int (0 : Int32)), (.int (0 : Int32)), (.int (0 : Int32)), (.int (0 : Int32)), (.int (0 : Int32)), (.int (0 : Int32)), (.int (0 : Int32)), (.int (0 : Int32)), (.int (0 : Int32)), (.int (0 : Int32)), (.int (0 : Int32)), (.int (0 : Int32)), (.int (0 : Int32))] h0 n0 _ T6.heap _
    rw [e6]
    exact ⟨N6, KP6, b3, c3, rfl, sz_b3, V6_b3⟩
theorem ef_rmCopy_16_3 (m : MethodId) (a : Addr) : entryFrame m #[(.ref a), (.int (3 : Int32))] 3 = mkF m 0 #[.val (.ref a), .val (.int (3 : Int32)), .unset] [] := by first | (simp [entryFrame, mkF, argsToLocals, Value.category]; done) | rfl
set_option maxRecDepth 65536 in
set_option maxHeartbeats 40000000 in
theorem rmCopy_16_3 (l : Launch) (Z : State) (a0 : Array Value) (hw : ∀ d ∈ tables_1, d.before a0 Z = true) (ws : List Jvm.Cond) (a : Addr) (kc : ClassId) (x0 x1 x2 x3 x4 x5 x6 x7 x8 x9 x10 x11 x12 x13 x14 x15 : Value) (h0 : Heap) (n0 : Nat) (Z0 : n0 ≤ h0.size) (Va : Arv Z h0 a kc .int (16 : Int32) [x0, x1, x2, x3, x4, x5, x6, x7, x8, x9, x10, x11, x12, x13, x14, x15] (.int (0 : Int32))) :
    MetFree l (⟨"java/util/Arrays", "copyOf", "([II)[I"⟩ : MethodName) (head1 (Jvm.Cond.code (⟨"java/util/Arrays", "copyOf", "([II)[I"⟩ : MethodName) jdk_65_method_123_code 3 (some (.array .int)) :: ws) ({ frames := 1, cells := 1, slots := 3, locals := 40 } : Room)) (fun a_ U_ => a_ = #[(.ref a), (.int (3 : Int32))] ∧ Z.Warmed39 U_.vm ∧ U_.heap = h0) (fun _ _ _ _ _ => True) (fun _ U_ o_ U'_ => ∃ v_ L_, o_ = .returned v_ ∧ QCopy Z (3 : Int32) [x0, x1, x2] h0 n0 v_ U'_.heap L_ ∧ FrameEnd U_ o_ U'_ L_ ({ frames := 1, cells := 1, slots := 3, locals := 40 } : Room).cells ({ frames := 1, cells := 1, slots := 3, locals := 40 } : Room).slots) := by
  refine MetFree.of_bodySF (plainFor_of_name pn_7) hisR ?_
  intro p e s m args below meth c s₁ Bd hml0 hP hK
  obtain ⟨rfl, hZ, hh⟩ := hP
  have hx := Bd.exec
  have hby := Bd.bytes
  have hml : c.maxLocals = 3 := hml0
  have hown : s.vm.findClass "java/util/Arrays" = some m.cls := findClass_of_methodNamed Bd.named
  have hnm := (name_of_methodNamed Bd.named Bd.method).1
  have X0 : Stand p l e ({ frames := 1, cells := 1, slots := 3, locals := 40 } : Room) s m #[(.ref a), (.int (3 : Int32))] below meth c s₁ [] 0 0 := Stand.of_body Bd
  have e0 : s₁.heap = h0 := by rw [← hh, Bd.state]; rfl
  have N0 := Fr.nil n0
  have k0 : ∀ tg, Steps p.tables e below (s₁.setTop (mkF m 0 #[.val (.ref a), .val (.int (3 : Int32)), .unset] [])) tg → Steps p.tables e below (s₁.setTop (entryFrame m #[(.ref a), (.int (3 : Int32))] 3)) tg := fun tg k => castTop (ef_rmCopy_16_3 m a) k
  obtain ⟨cl2_1, Ar2_1, q2_1, S2_1, N2_1_, H2_1, G2_1⟩ := id Va
  have hd2 : ¬ ((3 : Int32) = (16 : Int32)) := by decide
  obtain ⟨T3, h3, c3, X3, e3, E3, A3, st3⟩ := newP X0 hx hZ (hw _ (List.mem_of_getElem? (i := 9) rfl)) e0 (g := (mkF m 15 #[.val (.ref a), .val (.int (3 : Int32)), .unset] [(.int (3 : Int32))])) rfl (hb hby d7_15) rfl (by decide) (cap := 3) (by decide) (by decide) (by decide) (by decide)
  obtain ⟨b3, g3⟩ : ∃ z, z = h0.size := ⟨_, rfl⟩
  have ne_a_b3 : a ≠ b3 := Nat.ne_of_lt (Nat.lt_of_lt_of_le Va.lt (Nat.le_of_eq g3.symm))
  have g_b3 : n0 ≤ b3 := Nat.le_trans Z0 (Nat.le_of_eq g3.symm)
  have sz_b3 : h0.size ≤ b3 := Nat.le_trans (Keep.refl h0 []).1 (Nat.le_of_eq g3.symm)
  rw [← g3] at A3 st3
  have V3_a := Va.ext E3
  have Z3 := Nat.le_trans Z0 E3.1
  have KP3 := (Keep.refl h0 []).ext E3
  have V_b3 : Arv Z h3 b3 c3 .int (3 : Int32) [(.int (0 : Int32)), (.int (0 : Int32)), (.int (0 : Int32))] (.int (0 : Int32)) := (Arv.new A3 (by decide)).pad (pad_rep [] (.int (0 : Int32)) 3)
  obtain ⟨cl23_4, Ar23_4, q23_4, S23_4, N23_4_, H23_4, G23_4⟩ := id V3_a
  obtain ⟨_, _, ⟨T5, L5, k5, n5⟩, -, X5, ⟨Lc5, hQ5, l5, y5, z5⟩, st5⟩ := Jvm.LawKit.callS X3 hx (y := (⟨"java/lang/Math", "min", "(II)I"⟩ : MethodName)) hown (mvT hZ (hw _ (List.mem_of_getElem? (i := 38) rfl))) (mvT hZ (hw _ (List.mem_of_getElem? (i := 39) rfl))) (mvT hZ (hw _ (List.mem_of_getElem? (i := 40) rfl))) (mvT hZ (hw _ (List.mem_of_getElem? (i := 41) rfl))) (by decide) (backOf (W := 4) (rmMin l Z a0 hw [] (16 : Int32) (3 : Int32)  h3 n0 ) hZ (hw _ (List.mem_of_getElem? (i := 41) rfl)) (hw _ (List.mem_of_getElem? (i := 40) rfl)) (by decide) (by decide)) (g := (mkF m 25 #[.val (.ref a), .val (.int (3 : Int32)), .val (.ref b3)] [(.int (3 : Int32)), (.int (16 : Int32)), (.int (0 : Int32)), (.ref b3), (.int (0 : Int32)), (.ref a)])) rfl (by rw [hml]; rfl) (argsL := [(.int (16 : Int32)), (.int (3 : Int32))]) (rest := [(.int (0 : Int32)), (.ref b3), (.int (0 : Int32)), (.ref a)]) (lenOf pd_0 rfl) rfl (by show 2 * 0 + _ ≤ _; exact Nat.le_of_eq rfl) (hb hby d7_25) (fun _ _ => ⟨rfl, e3, (by decide : 1 + 0 ≤ _), (by decide : 3 + 0 ≤ _)⟩)
  dsimp only [Pt.U, Pt.locs, Pt.cells, Pt.slots] at X5 l5 y5 z5 st5 hQ5
  subst l5 y5 z5
  obtain ⟨rfl, N5q, e5⟩ := hQ5
  have N5 := Fr.app N0 N5q
  obtain ⟨T6, h6, L6, X6, e6, N6, K6, V6q, st6⟩ := cpA X5 hx hZ hown (hw _ (List.mem_of_getElem? (i := 42) rfl)) (hw _ (List.mem_of_getElem? (i := 45) rfl)) (hw _ (List.mem_of_getElem? (i := 43) rfl)) (hw _ (List.mem_of_getElem? (i := 44) rfl)) e5 V3_a V_b3 (Or.inl ⟨rfl, rfl⟩) (by decide) (by decide) (by decide) (by decide) (by decide) (us := [x0, x1, x2]) rfl (by decide) N5 g_b3 (g := (mkF m 28 #[.val (.ref a), .val (.int (3 : Int32)), .val (.ref b3)] [(.int (3 : Int32)), (.int (0 : Int32)), (.ref b3), (.int (0 : Int32)), (.ref a)])) rfl (by rw [hml]; rfl) rfl (hb hby d7_28) (by decide) (W := 0) (by show 2 * 0 + _ ≤ _; exact Nat.le_of_eq rfl) (by decide)
  have V6_b3 : Arv Z h6 b3 c3 .int (3 : Int32) [x0, x1, x2] (.int (0 : Int32)) := V6q
  have V6_a := V3_a.keep K6 (ninS ne_a_b3 nin0)
  have Z6 := Nat.le_trans Z3 K6.1
  have KP6 := KP3.trans K6 (allS (Or.inr sz_b3) all0)
  have k7 : ∀ tg, Steps p.tables e below (T6.setTop (mkF m 32 #[.val (.ref a), .val (.int (3 : Int32)), .val (.ref b3)] [(.ref b3)])) tg → Steps p.tables e below (s₁.setTop (entryFrame m #[(.ref a), (.int (3 : Int32))] 3)) tg := by
    intro tg kt
    refine k0 tg ?_
    show Steps p.tables e below (s₁.setTop (mkF m 0 #[.val (.ref a), .val (.int (3 : Int32)), .unset] [])) _
    refine XS.iloadN X0.here hx rfl (hb hby d7_0) rfl ?_
    show Steps p.tables e below (s₁.setTop (mkF m 1 #[.val (.ref a), .val (.int (3 : Int32)), .unset] [(.int (3 : Int32))])) _
    refine XS.aloadN X0.here hx rfl (hb hby d7_1) rfl rfl ?_
    show Steps p.tables e below (s₁.setTop (mkF m 2 #[.val (.ref a), .val (.int (3 : Int32)), .unset] [(.ref a), (.int (3 : Int32))])) _
    refine X0.arraylength hx (by rw [e0]; exact Ar2_1.1) (State.isArrayOf_alike hZ.alike Ar2_1.2.1) (g := (mkF m 2 #[.val (.ref a), .val (.int (3 : Int32)), .unset] [(.ref a), (.int (3 : Int32))])) rfl rfl (hb hby d7_2) _ ?_
    rw [len_of S2_1 N2_1_]
    show Steps p.tables e below (s₁.setTop (mkF m 3 #[.val (.ref a), .val (.int (3 : Int32)), .unset] [(.int (16 : Int32)), (.int (3 : Int32))])) _
    refine XS.icmpYes X0.here hx rfl (pc0 := 3) (pc' := 14) rfl (hb hby d7_3) rfl (feq hd2).2 (by decide) (by decide) ?_
    show Steps p.tables e below (s₁.setTop (mkF m 14 #[.val (.ref a), .val (.int (3 : Int32)), .unset] [])) _
    refine XS.iloadN X0.here hx rfl (hb hby d7_14) rfl ?_
    show Steps p.tables e below (s₁.setTop (mkF m 15 #[.val (.ref a), .val (.int (3 : Int32)), .unset] [(.int (3 : Int32))])) _
    refine st3 _ ?_
    show Steps p.tables e below (T3.setTop (mkF m 17 #[.val (.ref a), .val (.int (3 : Int32)), .unset] [(.ref b3)])) _
    refine XS.astoreN X3.here hx rfl (hb hby d7_17) rfl rfl (l' := #[.val (.ref a), .val (.int (3 : Int32)), .val (.ref b3)]) rfl ?_
    show Steps p.tables e below (T3.setTop (mkF m 18 #[.val (.ref a), .val (.int (3 : Int32)), .val (.ref b3)] [])) _
    refine XS.aloadN X3.here hx rfl (hb hby d7_18) rfl rfl ?_
    show Steps p.tables e below (T3.setTop (mkF m 19 #[.val (.ref a), .val (.int (3 : Int32)), .val (.ref b3)] [(.ref a)])) _
    refine XS.iconst X3.here hx rfl (hb hby d7_19) ?_
    show Steps p.tables e below (T3.setTop (mkF m 20 #[.val (.ref a), .val (.int (3 : Int32)), .val (.ref b3)] [(.int (0 : Int32)), (.ref a)])) _
    refine XS.aloadN X3.here hx rfl (hb hby d7_20) rfl rfl ?_
    show Steps p.tables e below (T3.setTop (mkF m 21 #[.val (.ref a), .val (.int (3 : Int32)), .val (.ref b3)] [(.ref b3), (.int (0 : Int32)), (.ref a)])) _
    refine XS.iconst X3.here hx rfl (hb hby d7_21) ?_
    show Steps p.tables e below (T3.setTop (mkF m 22 #[.val (.ref a), .val (.int (3 : Int32)), .val (.ref b3)] [(.int (0 : Int32)), (.ref b3), (.int (0 : Int32)), (.ref a)])) _
    refine XS.aloadN X3.here hx rfl (hb hby d7_22) rfl rfl ?_
    show Steps p.tables e below (T3.setTop (mkF m 23 #[.val (.ref a), .val (.int (3 : Int32)), .val (.ref b3)] [(.ref a), (.int (0 : Int32)), (.ref b3), (.int (0 : Int32)), (.ref a)])) _
    refine X3.arraylength hx (by rw [e3]; exact Ar23_4.1) (State.isArrayOf_alike hZ.alike Ar23_4.2.1) (g := (mkF m 23 #[.val (.ref a), .val (.int (3 : Int32)), .val (.ref b3)] [(.ref a), (.int (0 : Int32)), (.ref b3), (.int (0 : Int32)), (.ref a)])) rfl rfl (hb hby d7_23) _ ?_
    rw [len_of S23_4 N23_4_]
    show Steps p.tables e below (T3.setTop (mkF m 24 #[.val (.ref a), .val (.int (3 : Int32)), .val (.ref b3)] [(.int (16 : Int32)), (.int (0 : Int32)), (.ref b3), (.int (0 : Int32)), (.ref a)])) _
    refine XS.iloadN X3.here hx rfl (hb hby d7_24) rfl ?_
    show Steps p.tables e below (T3.setTop (mkF m 25 #[.val (.ref a), .val (.int (3 : Int32)), .val (.ref b3)] [(.int (3 : Int32)), (.int (16 : Int32)), (.int (0 : Int32)), (.ref b3), (.int (0 : Int32)), (.ref a)])) _
    refine st5 _ ?_
    show Steps p.tables e below (T5.setTop (mkF m 28 #[.val (.ref a), .val (.int (3 : Int32)), .val (.ref b3)] [(.int (if (3 : Int32) < (16 : Int32) then (3 : Int32) else (16 : Int32))), (.int (0 : Int32)), (.ref b3), (.int (0 : Int32)), (.ref a)])) _
    rw [(by decide : (if (3 : Int32) < (16 : Int32) then (3 : Int32) else (16 : Int32)) = (3 : Int32))]
    show Steps p.tables e below (T5.setTop (mkF m 28 #[.val (.ref a), .val (.int (3 : Int32)), .val (.ref b3)] [(.int (3 : Int32)), (.int (0 : Int32)), (.ref b3), (.int (0 : Int32)), (.ref a)])) _
    refine st6 _ ?_
    show Steps p.tables e below (T6.setTop (mkF m 31 #[.val (.ref a), .val (.int (3 : Int32)), .val (.ref b3)] [])) _
    refine XS.aloadN X6.here hx rfl (hb hby d7_31) rfl rfl ?_
    show Steps p.tables e below (T6.setTop (mkF m 32 #[.val (.ref a), .val (.int (3 : Int32)), .val (.ref b3)] [(.ref b3)])) _
    exact kt
  obtain ⟨fs, hr, hrun, hended, hW, hsame⟩ := X6.leave (v := some (.ref b3)) (fun h => by rw [Bd.returns] at h; cases h)
  refine ⟨_, _, k7 _ ?_, hrun, hended, _, _, rfl, ?_, ⟨_, rfl⟩, hW, hsame.mono (by decide) (by decide)⟩
  · exact own_retA X6 hx Bd.returns rfl (hb hby d7_32) hr
  · show QCopy Z (3 : Int32) [x0, x1, x2] h0 n0 _ T6.heap _
    rw [e6]
    exact ⟨N6, KP6, b3, c3, rfl, sz_b3, V6_b3⟩
theorem ef_rmCopy_32_17 (m : MethodId) (a : Addr) : entryFrame m #[(.ref a), (.int (17 : Int32))] 3 = mkF m 0 #[.val (.ref a), .val (.int (17 : Int32)), .unset] [] := by first | (simp [entryFrame, mkF, argsToLocals, Value.category]; done) | rfl
set_option maxRecDepth 65536 in
set_option maxHeartbeats 40000000 in
theorem rmCopy_32_17 (l : Launch) (Z : State) (a0 : Array Value) (hw : ∀ d ∈ tables_1, d.before a0 Z = true) (ws : List Jvm.Cond) (a : Addr) (kc : ClassId) (x0 x1 x2 x3 x4 x5 x6 x7 x8 x9 x10 x11 x12 x13 x14 x15 x16 x17 x18 x19 x20 x21 x22 x23 x24 x25 x26 x27 x28 x29 x30 x31 : Value) (h0 : Heap) (n0 : Nat) (Z0 : n0 ≤ h0.size) (Va : Arv Z h0 a kc .int (32 : Int32) [x0, x1, x2, x3, x4, x5, x6, x7, x8, x9, x10, x11, x12, x13, x14, x15, x16, x17, x18, x19, x20, x21, x22, x23, x24, x25, x26, x27, x28, x29, x30, x31] (.int (0 : Int32))) :
    MetFree l (⟨"java/util/Arrays", "copyOf", "([II)[I"⟩ : MethodName) (head1 (Jvm.Cond.code (⟨"java/util/Arrays", "copyOf", "([II)[I"⟩ : MethodName) jdk_65_method_123_code 3 (some (.array .int)) :: ws) ({ frames := 1, cells := 1, slots := 17, locals := 40 } : Room)) (fun a_ U_ => a_ = #[(.ref a), (.int (17 : Int32))] ∧ Z.Warmed39 U_.vm ∧ U_.heap = h0) (fun _ _ _ _ _ => True) (fun _ U_ o_ U'_ => ∃ v_ L_, o_ = .returned v_ ∧ QCopy Z (17 : Int32) [x0, x1, x2, x3, x4, x5, x6, x7, x8, x9, x10, x11, x12, x13, x14, x15, x16] h0 n0 v_ U'_.heap L_ ∧ FrameEnd U_ o_ U'_ L_ ({ frames := 1, cells := 1, slots := 17, locals := 40 } : Room).cells ({ frames := 1, cells := 1, slots := 17, locals := 40 } : Room).slots) := by
  refine MetFree.of_bodySF (plainFor_of_name pn_7) hisR ?_
  intro p e s m args below meth c s₁ Bd hml0 hP hK
  obtain ⟨rfl, hZ, hh⟩ := hP
  have hx := Bd.exec
  have hby := Bd.bytes
  have hml : c.maxLocals = 3 := hml0
  have hown : s.vm.findClass "java/util/Arrays" = some m.cls := findClass_of_methodNamed Bd.named
  have hnm := (name_of_methodNamed Bd.named Bd.method).1
  have X0 : Stand p l e ({ frames := 1, cells := 1, slots := 17, locals := 40 } : Room) s m #[(.ref a), (.int (17 : Int32))] below meth c s₁ [] 0 0 := Stand.of_body Bd
  have e0 : s₁.heap = h0 := by rw [← hh, Bd.state]; rfl
  have N0 := Fr.nil n0
  have k0 : ∀ tg, Steps p.tables e below (s₁.setTop (mkF m 0 #[.val (.ref a), .val (.int (17 : Int32)), .unset] [])) tg → Steps p.tables e below (s₁.setTop (entryFrame m #[(.ref a), (.int (17 : Int32))] 3)) tg := fun tg k => castTop (ef_rmCopy_32_17 m a) k
  obtain ⟨cl2_1, Ar2_1, q2_1, S2_1, N2_1_, H2_1, G2_1⟩ := id Va
  have hd2 : ¬ ((17 : Int32) = (32 : Int32)) := by decide
  obtain ⟨T3, h3, c3, X3, e3, E3, A3, st3⟩ := newP X0 hx hZ (hw _ (List.mem_of_getElem? (i := 9) rfl)) e0 (g := (mkF m 15 #[.val (.ref a), .val (.int (17 : Int32)), .unset] [(.int (17 : Int32))])) rfl (hb hby d7_15) rfl (by decide) (cap := 17) (by decide) (by decide) (by decide) (by decide)
  obtain ⟨b3, g3⟩ : ∃ z, z = h0.size := ⟨_, rfl⟩
  have ne_a_b3 : a ≠ b3 := Nat.ne_of_lt (Nat.lt_of_lt_of_le Va.lt (Nat.le_of_eq g3.symm))
  have g_b3 : n0 ≤ b3 := Nat.le_trans Z0 (Nat.le_of_eq g3.symm)
  have sz_b3 : h0.size ≤ b3 := Nat.le_trans (Keep.refl h0 []).1 (Nat.le_of_eq g3.symm)
  rw [← g3] at A3 st3
  have V3_a := Va.ext E3
  have Z3 := Nat.le_trans Z0 E3.1
  have KP3 := (Keep.refl h0 []).ext E3
  have V_b3 : Arv Z h3 b3 c3 .int (17 : Int32) [(.int (0 : Int32)), (.int (0 : Int32)), (.int (0 : Int32)), (.int (0 : Int32)), (.int (0 : Int32)), (.int (0 : Int32)), (.int (0 : Int32)), (.int (0 : Int32)), (.int (0 : Int32)), (.int (0 : Int32)), (.int (0 : Int32)), (.int (0 : Int32)), (.int (0 : Int32)), (.int (0 : Int32)), (.int (0 : Int32)), (.int (0 : Int32)), (.int (0 : Int32))] (.int (0 : Int32)) := (Arv.new A3 (by decide)).pad (pad_rep [] (.int (0 : Int32)) 17)
  obtain ⟨cl23_4, Ar23_4, q23_4, S23_4, N23_4_, H23_4, G23_4⟩ := id V3_a
  obtain ⟨_, _, ⟨T5, L5, k5, n5⟩, -, X5, ⟨Lc5, hQ5, l5, y5, z5⟩, st5⟩ := Jvm.LawKit.callS X3 hx (y := (⟨"java/lang/Math", "min", "(II)I"⟩ : MethodName)) hown (mvT hZ (hw _ (List.mem_of_getElem? (i := 38) rfl))) (mvT hZ (hw _ (List.mem_of_getElem? (i := 39) rfl))) (mvT hZ (hw _ (List.mem_of_getElem? (i := 40) rfl))) (mvT hZ (hw _ (List.mem_of_getElem? (i := 41) rfl))) (by decide) (backOf (W := 4) (rmMin l Z a0 hw [] (32 : Int32) (17 : Int32)  h3 n0 ) hZ (hw _ (List.mem_of_getElem? (i := 41) rfl)) (hw _ (List.mem_of_getElem? (i := 40) rfl)) (by decide) (by decide)) (g := (mkF m 25 #[.val (.ref a), .val (.int (17 : Int32)), .val (.ref b3)] [(.int (17 : Int32)), (.int (32 : Int32)), (.int (0 : Int32)), (.ref b3), (.int (0 : Int32)), (.ref a)])) rfl (by rw [hml]; rfl) (argsL := [(.int (32 : Int32)), (.int (17 : Int32))]) (rest := [(.int (0 : Int32)), (.ref b3), (.int (0 : Int32)), (.ref a)]) (lenOf pd_0 rfl) rfl (by show 2 * 0 + _ ≤ _; exact Nat.le_of_eq rfl) (hb hby d7_25) (fun _ _ => ⟨rfl, e3, (by decide : 1 + 0 ≤ _), (by decide : 17 + 0 ≤ _)⟩)
  dsimp only [Pt.U, Pt.locs, Pt.cells, Pt.slots] at X5 l5 y5 z5 st5 hQ5
  subst l5 y5 z5
  obtain ⟨rfl, N5q, e5⟩ := hQ5
  have N5 := Fr.app N0 N5q
  obtain ⟨T6, h6, L6, X6, e6, N6, K6, V6q, st6⟩ := cpA X5 hx hZ hown (hw _ (List.mem_of_getElem? (i := 42) rfl)) (hw _ (List.mem_of_getElem? (i := 45) rfl)) (hw _ (List.mem_of_getElem? (i := 43) rfl)) (hw _ (List.mem_of_getElem? (i := 44) rfl)) e5 V3_a V_b3 (Or.inl ⟨rfl, rfl⟩) (by decide) (by decide) (by decide) (by decide) (by decide) (us := [x0, x1, x2, x3, x4, x5, x6, x7, x8, x9, x10, x11, x12, x13, x14, x15, x16]) rfl (by decide) N5 g_b3 (g := (mkF m 28 #[.val (.ref a), .val (.int (17 : Int32)), .val (.ref b3)] [(.int (17 : Int32)), (.int (0 : Int32)), (.ref b3), (.int (0 : Int32)), (.ref a)])) rfl (by rw [hml]; rfl) rfl (hb hby d7_28) (by decide) (W := 0) (by show 2 * 0 + _ ≤ _; exact Nat.le_of_eq rfl) (by decide)
  have V6_b3 : Arv Z h6 b3 c3 .int (17 : Int32) [x0, x1, x2, x3, x4, x5, x6, x7, x8, x9, x10, x11, x12, x13, x14, x15, x16] (.int (0 : Int32)) := V6q
  have V6_a := V3_a.keep K6 (ninS ne_a_b3 nin0)
  have Z6 := Nat.le_trans Z3 K6.1
  have KP6 := KP3.trans K6 (allS (Or.inr sz_b3) all0)
  have k7 : ∀ tg, Steps p.tables e below (T6.setTop (mkF m 32 #[.val (.ref a), .val (.int (17 : Int32)), .val (.ref b3)] [(.ref b3)])) tg → Steps p.tables e below (s₁.setTop (entryFrame m #[(.ref a), (.int (17 : Int32))] 3)) tg := by
    intro tg kt
    refine k0 tg ?_
    show Steps p.tables e below (s₁.setTop (mkF m 0 #[.val (.ref a), .val (.int (17 : Int32)), .unset] [])) _
    refine XS.iloadN X0.here hx rfl (hb hby d7_0) rfl ?_
    show Steps p.tables e below (s₁.setTop (mkF m 1 #[.val (.ref a), .val (.int (17 : Int32)), .unset] [(.int (17 : Int32))])) _
    refine XS.aloadN X0.here hx rfl (hb hby d7_1) rfl rfl ?_
    show Steps p.tables e below (s₁.setTop (mkF m 2 #[.val (.ref a), .val (.int (17 : Int32)), .unset] [(.ref a), (.int (17 : Int32))])) _
    refine X0.arraylength hx (by rw [e0]; exact Ar2_1.1) (State.isArrayOf_alike hZ.alike Ar2_1.2.1) (g := (mkF m 2 #[.val (.ref a), .val (.int (17 : Int32)), .unset] [(.ref a), (.int (17 : Int32))])) rfl rfl (hb hby d7_2) _ ?_
    rw [len_of S2_1 N2_1_]
    show Steps p.tables e below (s₁.setTop (mkF m 3 #[.val (.ref a), .val (.int (17 : Int32)), .unset] [(.int (32 : Int32)), (.int (17 : Int32))])) _
    refine XS.icmpYes X0.here hx rfl (pc0 := 3) (pc' := 14) rfl (hb hby d7_3) rfl (feq hd2).2 (by decide) (by decide) ?_
    show Steps p.tables e below (s₁.setTop (mkF m 14 #[.val (.ref a), .val (.int (17 : Int32)), .unset] [])) _
    refine XS.iloadN X0.here hx rfl (hb hby d7_14) rfl ?_
    show Steps p.tables e below (s₁.setTop (mkF m 15 #[.val (.ref a), .val (.int (17 : Int32)), .unset] [(.int (17 : Int32))])) _
    refine st3 _ ?_
    show Steps p.tables e below (T3.setTop (mkF m 17 #[.val (.ref a), .val (.int (17 : Int32)), .unset] [(.ref b3)])) _
    refine XS.astoreN X3.here hx rfl (hb hby d7_17) rfl rfl (l' := #[.val (.ref a), .val (.int (17 : Int32)), .val (.ref b3)]) rfl ?_
    show Steps p.tables e below (T3.setTop (mkF m 18 #[.val (.ref a), .val (.int (17 : Int32)), .val (.ref b3)] [])) _
    refine XS.aloadN X3.here hx rfl (hb hby d7_18) rfl rfl ?_
    show Steps p.tables e below (T3.setTop (mkF m 19 #[.val (.ref a), .val (.int (17 : Int32)), .val (.ref b3)] [(.ref a)])) _
    refine XS.iconst X3.here hx rfl (hb hby d7_19) ?_
    show Steps p.tables e below (T3.setTop (mkF m 20 #[.val (.ref a), .val (.int (17 : Int32)), .val (.ref b3)] [(.int (0 : Int32)), (.ref a)])) _
    refine XS.aloadN X3.here hx rfl (hb hby d7_20) rfl rfl ?_
    show Steps p.tables e below (T3.setTop (mkF m 21 #[.val (.ref a), .val (.int (17 : Int32)), .val (.ref b3)] [(.ref b3), (.int (0 : Int32)), (.ref a)])) _
    refine XS.iconst X3.here hx rfl (hb hby d7_21) ?_
    show Steps p.tables e below (T3.setTop (mkF m 22 #[.val (.ref a), .val (.int (17 : Int32)), .val (.ref b3)] [(.int (0 : Int32)), (.ref b3), (.int (0 : Int32)), (.ref a)])) _
    refine XS.aloadN X3.here hx rfl (hb hby d7_22) rfl rfl ?_
    show Steps p.tables e below (T3.setTop (mkF m 23 #[.val (.ref a), .val (.int (17 : Int32)), .val (.ref b3)] [(.ref a), (.int (0 : Int32)), (.ref b3), (.int (0 : Int32)), (.ref a)])) _
    refine X3.arraylength hx (by rw [e3]; exact Ar23_4.1) (State.isArrayOf_alike hZ.alike Ar23_4.2.1) (g := (mkF m 23 #[.val (.ref a), .val (.int (17 : Int32)), .val (.ref b3)] [(.ref a), (.int (0 : Int32)), (.ref b3), (.int (0 : Int32)), (.ref a)])) rfl rfl (hb hby d7_23) _ ?_
    rw [len_of S23_4 N23_4_]
    show Steps p.tables e below (T3.setTop (mkF m 24 #[.val (.ref a), .val (.int (17 : Int32)), .val (.ref b3)] [(.int (32 : Int32)), (.int (0 : Int32)), (.ref b3), (.int (0 : Int32)), (.ref a)])) _
    refine XS.iloadN X3.here hx rfl (hb hby d7_24) rfl ?_
    show Steps p.tables e below (T3.setTop (mkF m 25 #[.val (.ref a), .val (.int (17 : Int32)), .val (.ref b3)] [(.int (17 : Int32)), (.int (32 : Int32)), (.int (0 : Int32)), (.ref b3), (.int (0 : Int32)), (.ref a)])) _
    refine st5 _ ?_
    show Steps p.tables e below (T5.setTop (mkF m 28 #[.val (.ref a), .val (.int (17 : Int32)), .val (.ref b3)] [(.int (if (17 : Int32) < (32 : Int32) then (17 : Int32) else (32 : Int32))), (.int (0 : Int32)), (.ref b3), (.int (0 : Int32)), (.ref a)])) _
    rw [(by decide : (if (17 : Int32) < (32 : Int32) then (17 : Int32) else (32 : Int32)) = (17 : Int32))]
    show Steps p.tables e below (T5.setTop (mkF m 28 #[.val (.ref a), .val (.int (17 : Int32)), .val (.ref b3)] [(.int (17 : Int32)), (.int (0 : Int32)), (.ref b3), (.int (0 : Int32)), (.ref a)])) _
    refine st6 _ ?_
    show Steps p.tables e below (T6.setTop (mkF m 31 #[.val (.ref a), .val (.int (17 : Int32)), .val (.ref b3)] [])) _
    refine XS.aloadN X6.here hx rfl (hb hby d7_31) rfl rfl ?_
    show Steps p.tables e below (T6.setTop (mkF m 32 #[.val (.ref a), .val (.int (17 : Int32)), .val (.ref b3)] [(.ref b3)])) _
    exact kt
  obtain ⟨fs, hr, hrun, hended, hW, hsame⟩ := X6.leave (v := some (.ref b3)) (fun h => by rw [Bd.returns] at h; cases h)
  refine ⟨_, _, k7 _ ?_, hrun, hended, _, _, rfl, ?_, ⟨_, rfl⟩, hW, hsame.mono (by decide) (by decide)⟩
  · exact own_retA X6 hx Bd.returns rfl (hb hby d7_32) hr
  · show QCopy Z (17 : Int32) [x0, x1, x2, x3, x4, x5, x6, x7, x8, x9, x10, x11, x12, x13, x14, x15, x16] h0 n0 _ T6.heap _
    rw [e6]
    exact ⟨N6, KP6, b3, c3, rfl, sz_b3, V6_b3⟩
theorem d3_12 : decode prog_52_method_2_code 12 = .ok (.aload_n 0, 1) := by decide +kernel
theorem d3_13 : decode prog_52_method_2_code 13 = .ok (.aload_n 0, 1) := by decide +kernel
theorem d3_14 : decode prog_52_method_2_code 14 = .ok (.getfield 7, 3) := by decide +kernel
theorem d3_17 : decode prog_52_method_2_code 17 = .ok (.aload_n 0, 1) := by decide +kernel
theorem d3_18 : decode prog_52_method_2_code 18 = .ok (.getfield 13, 3) := by decide +kernel
theorem d3_21 : decode prog_52_method_2_code 21 = .ok (.iconst 2, 1) := by decide +kernel
theorem d3_22 : decode prog_52_method_2_code 22 = .ok (.imul, 1) := by decide +kernel
theorem d3_23 : decode prog_52_method_2_code 23 = .ok (.invokestatic 17, 3) := by decide +kernel
theorem d3_26 : decode prog_52_method_2_code 26 = .ok (.putfield 7, 3) := by decide +kernel
theorem pd_1 : parseMethodDescriptor "([II)[I" = some ⟨[(.array .int), .int], some (.array .int)⟩ := by decide +kernel
theorem ef_rmGrow (m : MethodId) (o : Addr) (v : Int32) : entryFrame m #[(.ref o), (.int v)] 2 = mkF m 0 #[.val (.ref o), .val (.int v)] [] := by first | (simp [entryFrame, mkF, argsToLocals, Value.category]; done) | rfl
set_option maxRecDepth 65536 in
set_option maxHeartbeats 40000000 in
theorem rmGrow (l : Launch) (Z : State) (a0 : Array Value) (hw : ∀ d ∈ tables_1, d.before a0 Z = true) (ws : List Jvm.Cond) (o : Addr) (v : Int32) (va : Addr) (kc : ClassId) (x0 x1 x2 x3 x4 x5 x6 x7 x8 x9 x10 x11 x12 x13 x14 x15 : Value) (h0 : Heap) (n0 : Nat) (Z0 : n0 ≤ h0.size) (E_o : Exa Z h0 o "com/example/unraveling/unraveling/graph/IntList") (Fv : Fld Z h0 o "com/example/unraveling/unraveling/graph/IntList" "values" "[I" (.ref va)) (Fs : Fld Z h0 o "com/example/unraveling/unraveling/graph/IntList" "size" "I" (.int (16 : Int32))) (Va : Arv Z h0 va kc .int (16 : Int32) [x0, x1, x2, x3, x4, x5, x6, x7, x8, x9, x10, x11, x12, x13, x14, x15] (.int (0 : Int32))) (ne_o_va : o ≠ va) (g_o : n0 ≤ o) :
    MetFree l (⟨"com/example/unraveling/unraveling/graph/IntList", "add", "(I)V"⟩ : MethodName) (head1 (Jvm.Cond.code (⟨"com/example/unraveling/unraveling/graph/IntList", "add", "(I)V"⟩ : MethodName) prog_52_method_2_code 2 none :: ws) ({ frames := 2, cells := 1, slots := 32, locals := 55 } : Room)) (fun a_ U_ => a_ = #[(.ref o), (.int v)] ∧ Z.Warmed39 U_.vm ∧ U_.heap = h0) (fun _ _ _ _ _ => True) (fun _ U_ o_ U'_ => ∃ v_ L_, o_ = .returned v_ ∧ QGrow Z o (32 : Int32) (17 : Int32) [x0, x1, x2, x3, x4, x5, x6, x7, x8, x9, x10, x11, x12, x13, x14, x15, (.int v), (.int (0 : Int32)), (.int (0 : Int32)), (.int (0 : Int32)), (.int (0 : Int32)), (.int (0 : Int32)), (.int (0 : Int32)), (.int (0 : Int32)), (.int (0 : Int32)), (.int (0 : Int32)), (.int (0 : Int32)), (.int (0 : Int32)), (.int (0 : Int32)), (.int (0 : Int32)), (.int (0 : Int32)), (.int (0 : Int32))] h0 n0 v_ U'_.heap L_ ∧ FrameEnd U_ o_ U'_ L_ ({ frames := 2, cells := 1, slots := 32, locals := 55 } : Room).cells ({ frames := 2, cells := 1, slots := 32, locals := 55 } : Room).slots) := by
  refine MetFree.of_bodySF (plainFor_of_name pn_3) hisR ?_
  intro p e s m args below meth c s₁ Bd hml0 hP hK
  obtain ⟨rfl, hZ, hh⟩ := hP
  have hx := Bd.exec
  have hby := Bd.bytes
  have hml : c.maxLocals = 2 := hml0
  have hown : s.vm.findClass "com/example/unraveling/unraveling/graph/IntList" = some m.cls := findClass_of_methodNamed Bd.named
  have hnm := (name_of_methodNamed Bd.named Bd.method).1
  have X0 : Stand p l e ({ frames := 2, cells := 1, slots := 32, locals := 55 } : Room) s m #[(.ref o), (.int v)] below meth c s₁ [] 0 0 := Stand.of_body Bd
  have e0 : s₁.heap = h0 := by rw [← hh, Bd.state]; rfl
  have N0 := Fr.nil n0
  have k0 : ∀ tg, Steps p.tables e below (s₁.setTop (mkF m 0 #[.val (.ref o), .val (.int v)] [])) tg → Steps p.tables e below (s₁.setTop (entryFrame m #[(.ref o), (.int v)] 2)) tg := fun tg k => castTop (ef_rmGrow m o v) k
  obtain ⟨T1, X1, e1, st1⟩ := getF X0 hx hZ hown (host := "") (Or.inl (hw _ (List.mem_of_getElem? (i := 17) rfl))) Via.refl e0 Fs (g := (mkF m 1 #[.val (.ref o), .val (.int v)] [(.ref o)])) rfl rfl (hb hby d3_1)
  obtain ⟨T2, X2, e2, st2⟩ := getF X1 hx hZ hown (host := "") (Or.inl (hw _ (List.mem_of_getElem? (i := 10) rfl))) Via.refl e1 Fv (g := (mkF m 5 #[.val (.ref o), .val (.int v)] [(.ref o), (.int (16 : Int32))])) rfl rfl (hb hby d3_5)
  obtain ⟨cl8_3, Ar8_3, q8_3, S8_3, N8_3_, H8_3, G8_3⟩ := id Va
  have hd4 : (16 : Int32) = (16 : Int32) := rfl
  obtain ⟨T5, X5, e5, st5⟩ := getF X2 hx hZ hown (host := "") (Or.inl (hw _ (List.mem_of_getElem? (i := 10) rfl))) Via.refl e2 Fv (g := (mkF m 14 #[.val (.ref o), .val (.int v)] [(.ref o), (.ref o)])) rfl rfl (hb hby d3_14)
  obtain ⟨T6, X6, e6, st6⟩ := getF X5 hx hZ hown (host := "") (Or.inl (hw _ (List.mem_of_getElem? (i := 17) rfl))) Via.refl e5 Fs (g := (mkF m 18 #[.val (.ref o), .val (.int v)] [(.ref o), (.ref va), (.ref o)])) rfl rfl (hb hby d3_18)
  obtain ⟨_, _, ⟨T7, L7, k7, n7⟩, -, X7, ⟨Lc7, hQ7, l7, y7, z7⟩, st7⟩ := Jvm.LawKit.callS X6 hx (y := (⟨"java/util/Arrays", "copyOf", "([II)[I"⟩ : MethodName)) hown (mvT hZ (hw _ (List.mem_of_getElem? (i := 34) rfl))) (mvT hZ (hw _ (List.mem_of_getElem? (i := 35) rfl))) (mvT hZ (hw _ (List.mem_of_getElem? (i := 36) rfl))) (mvT hZ (hw _ (List.mem_of_getElem? (i := 37) rfl))) (by decide) (backOf (W := 1) (rmCopy_16_32 l Z a0 hw [] va kc x0 x1 x2 x3 x4 x5 x6 x7 x8 x9 x10 x11 x12 x13 x14 x15 h0 n0 Z0 Va) hZ (hw _ (List.mem_of_getElem? (i := 37) rfl)) (hw _ (List.mem_of_getElem? (i := 36) rfl)) (by decide) (by decide)) (g := (mkF m 23 #[.val (.ref o), .val (.int v)] [(.int (32 : Int32)), (.ref va), (.ref o)])) rfl (by rw [hml]; rfl) (argsL := [(.ref va), (.int (32 : Int32))]) (rest := [(.ref o)]) (lenOf pd_1 rfl) rfl (by show 2 * 0 + _ ≤ _; exact Nat.le_of_eq rfl) (hb hby d3_23) (fun _ _ => ⟨rfl, e6, (by decide : 0 + 1 ≤ _), (by decide : 0 + 32 ≤ _)⟩)
  dsimp only [Pt.U, Pt.locs, Pt.cells, Pt.slots] at X7 l7 y7 z7 st7 hQ7
  subst l7 y7 z7
  obtain ⟨N7q, K7, ar7, cc7, rfl, le7, Va7⟩ := hQ7
  have N7 := Fr.app N0 N7q
  have ne_o_ar7 : o ≠ ar7 := Nat.ne_of_lt (Nat.lt_of_lt_of_le E_o.lt le7)
  have ne_va_ar7 : va ≠ ar7 := Nat.ne_of_lt (Nat.lt_of_lt_of_le Va.lt le7)
  have g_ar7 : n0 ≤ ar7 := Nat.le_trans Z0 le7
  have sz_ar7 : h0.size ≤ ar7 := Nat.le_trans (Keep.refl h0 [o]).1 le7
  have E7_o := E_o.keep K7
  have F7_o_values := Fv.keep K7 nin0
  have F7_o_size := Fs.keep K7 nin0
  have V7_va := Va.keep K7 nin0
  have Z7 := Nat.le_trans Z0 K7.1
  have KP7 := (Keep.refl h0 [o]).trans K7 all0
  obtain ⟨T8, h8, X8, e8, W8, st8⟩ := putF X7 hx hZ hown (host := "") (Or.inl (hw _ (List.mem_of_getElem? (i := 10) rfl))) Via.refl rfl F7_o_values E7_o (Or.inl (hw _ (List.mem_of_getElem? (i := 11) rfl))) (hw _ (List.mem_of_getElem? (i := 1) rfl)) (ty := (.array .int)) (by decide) rfl rfl (g := (mkF m 26 #[.val (.ref o), .val (.int v)] [(.ref ar7), (.ref o)])) rfl rfl (hb hby d3_26)
  have E8_o := E7_o.wr W8
  have F8_o_size := F7_o_size.other W8 (Or.inr (slot_ne (Or.inl (hw _ (List.mem_of_getElem? (i := 18) rfl))) (Or.inl (hw _ (List.mem_of_getElem? (i := 11) rfl))) (by decide) (t := .int) (t' := (.array .int)) (by decide) (by decide)))
  have V8_va := V7_va.other W8 (Ne.symm ne_o_va)
  have V8_ar7 := Va7.other W8 (Ne.symm ne_o_ar7)
  have Z8 := Nat.le_trans Z7 (Keep.of_wr W8).1
  have KP8 := KP7.wr W8 (Or.inl (List.mem_of_getElem? (i := 0) rfl))
  have N8 := Fr.snoc X8 N7 g_o
  have F8_o_values := F7_o_values.same W8
  obtain ⟨T9, X9, e9, st9⟩ := getF X8 hx hZ hown (host := "") (Or.inl (hw _ (List.mem_of_getElem? (i := 10) rfl))) Via.refl e8 F8_o_values (g := (mkF m 30 #[.val (.ref o), .val (.int v)] [(.ref o)])) rfl rfl (hb hby d3_30)
  obtain ⟨T10, X10, e10, st10⟩ := getF X9 hx hZ hown (host := "") (Or.inl (hw _ (List.mem_of_getElem? (i := 17) rfl))) Via.refl e9 F8_o_size (g := (mkF m 35 #[.val (.ref o), .val (.int v)] [(.ref o), (.ref o), (.ref ar7)])) rfl rfl (hb hby d3_35)
  obtain ⟨T11, h11, X11, e11, W11, st11⟩ := putF X10 hx hZ hown (host := "") (Or.inl (hw _ (List.mem_of_getElem? (i := 17) rfl))) Via.refl e10 F8_o_size E8_o (Or.inl (hw _ (List.mem_of_getElem? (i := 18) rfl))) (hw _ (List.mem_of_getElem? (i := 1) rfl)) (ty := .int) (by decide) rfl rfl (g := (mkF m 41 #[.val (.ref o), .val (.int v)] [(.int ((16 : Int32) + (1 : Int32))), (.ref o), (.int (16 : Int32)), (.ref ar7)])) rfl rfl (hb hby d3_41)
  have E11_o := E8_o.wr W11
  have F11_o_values := F8_o_values.other W11 (Or.inr (slot_ne (Or.inl (hw _ (List.mem_of_getElem? (i := 11) rfl))) (Or.inl (hw _ (List.mem_of_getElem? (i := 18) rfl))) (by decide) (t := (.array .int)) (t' := .int) (by decide) (by decide)))
  have V11_va := V8_va.other W11 (Ne.symm ne_o_va)
  have V11_ar7 := V8_ar7.other W11 (Ne.symm ne_o_ar7)
  have Z11 := Nat.le_trans Z8 (Keep.of_wr W11).1
  have KP11 := KP8.wr W11 (Or.inl (List.mem_of_getElem? (i := 0) rfl))
  have N11 := Fr.snoc X11 N8 g_o
  have F11_o_size := F8_o_size.same W11
  obtain ⟨cl45_12, Ar45_12, q45_12, S45_12, N45_12_, H45_12, G45_12⟩ := id V11_ar7
  have hin45_12 : ¬ ((16 : Int32) < 0 ∨ cl45_12.slots.size ≤ ((16 : Int32)).toNatClampNeg) := inb_of S45_12 ⟨by decide, by decide⟩
  obtain ⟨T13, h13, X13, e13, W13, st13⟩ := stI X11 hx hZ e11 Ar45_12 (j := (16 : Int32)) hin45_12 (g := (mkF m 45 #[.val (.ref o), .val (.int v)] [(.int v), (.int (16 : Int32)), (.ref ar7)])) rfl rfl (hb hby d3_45)
  have E13_o := E11_o.wr W13
  have F13_o_values := F11_o_values.other W13 (Or.inl ne_o_ar7)
  have F13_o_size := F11_o_size.other W13 (Or.inl ne_o_ar7)
  have V13_va := V11_va.other W13 ne_va_ar7
  have Z13 := Nat.le_trans Z11 (Keep.of_wr W13).1
  have KP13 := KP11.wr W13 (Or.inr sz_ar7)
  have N13 := Fr.snoc X13 N11 g_ar7
  have V13_ar7 : Arv Z h13 ar7 cc7 .int (32 : Int32) [x0, x1, x2, x3, x4, x5, x6, x7, x8, x9, x10, x11, x12, x13, x14, x15, (.int v), (.int (0 : Int32)), (.int (0 : Int32)), (.int (0 : Int32)), (.int (0 : Int32)), (.int (0 : Int32)), (.int (0 : Int32)), (.int (0 : Int32)), (.int (0 : Int32)), (.int (0 : Int32)), (.int (0 : Int32)), (.int (0 : Int32)), (.int (0 : Int32)), (.int (0 : Int32)), (.int (0 : Int32)), (.int (0 : Int32))] (.int (0 : Int32)) := Arv.set Ar45_12 q45_12 S45_12 N45_12_ H45_12 G45_12 rfl W13 16 rfl (Nat.le_of_ble_eq_true rfl)
  have k14 : ∀ tg, Steps p.tables e below (T13.setTop (mkF m 46 #[.val (.ref o), .val (.int v)] [])) tg → Steps p.tables e below (s₁.setTop (entryFrame m #[(.ref o), (.int v)] 2)) tg := by
    intro tg kt
    refine k0 tg ?_
    show Steps p.tables e below (s₁.setTop (mkF m 0 #[.val (.ref o), .val (.int v)] [])) _
    refine XS.aloadN X0.here hx rfl (hb hby d3_0) rfl rfl ?_
    show Steps p.tables e below (s₁.setTop (mkF m 1 #[.val (.ref o), .val (.int v)] [(.ref o)])) _
    refine st1 _ ?_
    show Steps p.tables e below (T1.setTop (mkF m 4 #[.val (.ref o), .val (.int v)] [(.int (16 : Int32))])) _
    refine XS.aloadN X1.here hx rfl (hb hby d3_4) rfl rfl ?_
    show Steps p.tables e below (T1.setTop (mkF m 5 #[.val (.ref o), .val (.int v)] [(.ref o), (.int (16 : Int32))])) _
    refine st2 _ ?_
    show Steps p.tables e below (T2.setTop (mkF m 8 #[.val (.ref o), .val (.int v)] [(.ref va), (.int (16 : Int32))])) _
    refine X2.arraylength hx (by rw [e2]; exact Ar8_3.1) (State.isArrayOf_alike hZ.alike Ar8_3.2.1) (g := (mkF m 8 #[.val (.ref o), .val (.int v)] [(.ref va), (.int (16 : Int32))])) rfl rfl (hb hby d3_8) _ ?_
    rw [len_of S8_3 N8_3_]
    show Steps p.tables e below (T2.setTop (mkF m 9 #[.val (.ref o), .val (.int v)] [(.int (16 : Int32)), (.int (16 : Int32))])) _
    refine XS.icmpNo X2.here hx rfl (hb hby d3_9) rfl (teq hd4).2 ?_
    show Steps p.tables e below (T2.setTop (mkF m 12 #[.val (.ref o), .val (.int v)] [])) _
    refine XS.aloadN X2.here hx rfl (hb hby d3_12) rfl rfl ?_
    show Steps p.tables e below (T2.setTop (mkF m 13 #[.val (.ref o), .val (.int v)] [(.ref o)])) _
    refine XS.aloadN X2.here hx rfl (hb hby d3_13) rfl rfl ?_
    show Steps p.tables e below (T2.setTop (mkF m 14 #[.val (.ref o), .val (.int v)] [(.ref o), (.ref o)])) _
    refine st5 _ ?_
    show Steps p.tables e below (T5.setTop (mkF m 17 #[.val (.ref o), .val (.int v)] [(.ref va), (.ref o)])) _
    refine XS.aloadN X5.here hx rfl (hb hby d3_17) rfl rfl ?_
    show Steps p.tables e below (T5.setTop (mkF m 18 #[.val (.ref o), .val (.int v)] [(.ref o), (.ref va), (.ref o)])) _
    refine st6 _ ?_
    show Steps p.tables e below (T6.setTop (mkF m 21 #[.val (.ref o), .val (.int v)] [(.int (16 : Int32)), (.ref va), (.ref o)])) _
    refine XS.iconst X6.here hx rfl (hb hby d3_21) ?_
    show Steps p.tables e below (T6.setTop (mkF m 22 #[.val (.ref o), .val (.int v)] [(.int (2 : Int32)), (.int (16 : Int32)), (.ref va), (.ref o)])) _
    refine XS.imul X6.here hx rfl (hb hby d3_22) rfl ?_
    show Steps p.tables e below (T6.setTop (mkF m 23 #[.val (.ref o), .val (.int v)] [(.int ((16 : Int32) * (2 : Int32))), (.ref va), (.ref o)])) _
    rw [(by decide : (16 : Int32) * (2 : Int32) = (32 : Int32))]
    show Steps p.tables e below (T6.setTop (mkF m 23 #[.val (.ref o), .val (.int v)] [(.int (32 : Int32)), (.ref va), (.ref o)])) _
    refine st7 _ ?_
    show Steps p.tables e below (T7.setTop (mkF m 26 #[.val (.ref o), .val (.int v)] [(.ref ar7), (.ref o)])) _
    refine st8 _ ?_
    show Steps p.tables e below (T8.setTop (mkF m 29 #[.val (.ref o), .val (.int v)] [])) _
    refine XS.aloadN X8.here hx rfl (hb hby d3_29) rfl rfl ?_
    show Steps p.tables e below (T8.setTop (mkF m 30 #[.val (.ref o), .val (.int v)] [(.ref o)])) _
    refine st9 _ ?_
    show Steps p.tables e below (T9.setTop (mkF m 33 #[.val (.ref o), .val (.int v)] [(.ref ar7)])) _
    refine XS.aloadN X9.here hx rfl (hb hby d3_33) rfl rfl ?_
    show Steps p.tables e below (T9.setTop (mkF m 34 #[.val (.ref o), .val (.int v)] [(.ref o), (.ref ar7)])) _
    refine XS.dup X9.here hx rfl (hb hby d3_34) rfl rfl ?_
    show Steps p.tables e below (T9.setTop (mkF m 35 #[.val (.ref o), .val (.int v)] [(.ref o), (.ref o), (.ref ar7)])) _
    refine st10 _ ?_
    show Steps p.tables e below (T10.setTop (mkF m 38 #[.val (.ref o), .val (.int v)] [(.int (16 : Int32)), (.ref o), (.ref ar7)])) _
    refine XS.dupX1 X10.here hx rfl (hb hby d3_38) rfl rfl rfl ?_
    show Steps p.tables e below (T10.setTop (mkF m 39 #[.val (.ref o), .val (.int v)] [(.int (16 : Int32)), (.ref o), (.int (16 : Int32)), (.ref ar7)])) _
    refine XS.iconst X10.here hx rfl (hb hby d3_39) ?_
    show Steps p.tables e below (T10.setTop (mkF m 40 #[.val (.ref o), .val (.int v)] [(.int (1 : Int32)), (.int (16 : Int32)), (.ref o), (.int (16 : Int32)), (.ref ar7)])) _
    refine XS.iadd X10.here hx rfl (hb hby d3_40) rfl ?_
    show Steps p.tables e below (T10.setTop (mkF m 41 #[.val (.ref o), .val (.int v)] [(.int ((16 : Int32) + (1 : Int32))), (.ref o), (.int (16 : Int32)), (.ref ar7)])) _
    refine st11 _ ?_
    show Steps p.tables e below (T11.setTop (mkF m 44 #[.val (.ref o), .val (.int v)] [(.int (16 : Int32)), (.ref ar7)])) _
    refine XS.iloadN X11.here hx rfl (hb hby d3_44) rfl ?_
    show Steps p.tables e below (T11.setTop (mkF m 45 #[.val (.ref o), .val (.int v)] [(.int v), (.int (16 : Int32)), (.ref ar7)])) _
    refine st13 _ ?_
    show Steps p.tables e below (T13.setTop (mkF m 46 #[.val (.ref o), .val (.int v)] [])) _
    exact kt
  obtain ⟨fs, hr, hrun, hended, hW, hsame⟩ := X13.leave (v := none) (fun _ => rfl)
  refine ⟨_, _, k14 _ ?_, hrun, hended, _, _, rfl, ?_, ⟨_, rfl⟩, hW, hsame.mono (by decide) (by decide)⟩
  · exact X13.returnOut hx Bd.returns (hb hby d3_46) hr
  · show QGrow Z o (32 : Int32) (17 : Int32) [x0, x1, x2, x3, x4, x5, x6, x7, x8, x9, x10, x11, x12, x13, x14, x15, (.int v), (.int (0 : Int32)), (.int (0 : Int32)), (.int (0 : Int32)), (.int (0 : Int32)), (.int (0 : Int32)), (.int (0 : Int32)), (.int (0 : Int32)), (.int (0 : Int32)), (.int (0 : Int32)), (.int (0 : Int32)), (.int (0 : Int32)), (.int (0 : Int32)), (.int (0 : Int32)), (.int (0 : Int32)), (.int (0 : Int32))] h0 n0 _ T13.heap _
    rw [e13]
    exact ⟨rfl, N13, KP13, ar7, cc7, sz_ar7, F13_o_values, (by decide : (16 : Int32) + (1 : Int32) = (17 : Int32)) ▸ F13_o_size, V13_ar7⟩
theorem d6_0 : decode prog_52_method_6_code 0 = .ok (.aload_n 0, 1) := by decide +kernel
theorem d6_1 : decode prog_52_method_6_code 1 = .ok (.getfield 7, 3) := by decide +kernel
theorem d6_4 : decode prog_52_method_6_code 4 = .ok (.aload_n 0, 1) := by decide +kernel
theorem d6_5 : decode prog_52_method_6_code 5 = .ok (.getfield 13, 3) := by decide +kernel
theorem d6_8 : decode prog_52_method_6_code 8 = .ok (.invokestatic 17, 3) := by decide +kernel
theorem d6_11 : decode prog_52_method_6_code 11 = .ok (.areturn, 1) := by decide +kernel
theorem pn_6 : plainName "com/example/unraveling/unraveling/graph/IntList" = true := by first | (simp [plainName, overriddenIn]; done) | decide +kernel
theorem ef_rmTo_16 (m : MethodId) (o : Addr) : entryFrame m #[(.ref o)] 1 = mkF m 0 #[.val (.ref o)] [] := by first | (simp [entryFrame, mkF, argsToLocals, Value.category]; done) | rfl
set_option maxRecDepth 65536 in
set_option maxHeartbeats 40000000 in
theorem rmTo_16 (l : Launch) (Z : State) (a0 : Array Value) (hw : ∀ d ∈ tables_1, d.before a0 Z = true) (ws : List Jvm.Cond) (o : Addr) (va : Addr) (kc : ClassId) (x0 x1 x2 x3 x4 x5 x6 x7 x8 x9 x10 x11 x12 x13 x14 x15 : Value) (h0 : Heap) (n0 : Nat) (Z0 : n0 ≤ h0.size) (Fv : Fld Z h0 o "com/example/unraveling/unraveling/graph/IntList" "values" "[I" (.ref va)) (Fs : Fld Z h0 o "com/example/unraveling/unraveling/graph/IntList" "size" "I" (.int (3 : Int32))) (Va : Arv Z h0 va kc .int (16 : Int32) [x0, x1, x2, x3, x4, x5, x6, x7, x8, x9, x10, x11, x12, x13, x14, x15] (.int (0 : Int32))) :
    MetFree l (⟨"com/example/unraveling/unraveling/graph/IntList", "toArray", "()[I"⟩ : MethodName) (head1 (Jvm.Cond.code (⟨"com/example/unraveling/unraveling/graph/IntList", "toArray", "()[I"⟩ : MethodName) prog_52_method_6_code 1 (some (.array .int)) :: ws) ({ frames := 2, cells := 1, slots := 3, locals := 54 } : Room)) (fun a_ U_ => a_ = #[(.ref o)] ∧ Z.Warmed39 U_.vm ∧ U_.heap = h0) (fun _ _ _ _ _ => True) (fun _ U_ o_ U'_ => ∃ v_ L_, o_ = .returned v_ ∧ QCopy Z (3 : Int32) [x0, x1, x2] h0 n0 v_ U'_.heap L_ ∧ FrameEnd U_ o_ U'_ L_ ({ frames := 2, cells := 1, slots := 3, locals := 54 } : Room).cells ({ frames := 2, cells := 1, slots := 3, locals := 54 } : Room).slots) := by
  refine MetFree.of_bodySF (plainFor_of_name pn_6) hisR ?_
  intro p e s m args below meth c s₁ Bd hml0 hP hK
  obtain ⟨rfl, hZ, hh⟩ := hP
  have hx := Bd.exec
  have hby := Bd.bytes
  have hml : c.maxLocals = 1 := hml0
  have hown : s.vm.findClass "com/example/unraveling/unraveling/graph/IntList" = some m.cls := findClass_of_methodNamed Bd.named
  have hnm := (name_of_methodNamed Bd.named Bd.method).1
  have X0 : Stand p l e ({ frames := 2, cells := 1, slots := 3, locals := 54 } : Room) s m #[(.ref o)] below meth c s₁ [] 0 0 := Stand.of_body Bd
  have e0 : s₁.heap = h0 := by rw [← hh, Bd.state]; rfl
  have N0 := Fr.nil n0
  have k0 : ∀ tg, Steps p.tables e below (s₁.setTop (mkF m 0 #[.val (.ref o)] [])) tg → Steps p.tables e below (s₁.setTop (entryFrame m #[(.ref o)] 1)) tg := fun tg k => castTop (ef_rmTo_16 m o) k
  obtain ⟨T1, X1, e1, st1⟩ := getF X0 hx hZ hown (host := "") (Or.inl (hw _ (List.mem_of_getElem? (i := 10) rfl))) Via.refl e0 Fv (g := (mkF m 1 #[.val (.ref o)] [(.ref o)])) rfl rfl (hb hby d6_1)
  obtain ⟨T2, X2, e2, st2⟩ := getF X1 hx hZ hown (host := "") (Or.inl (hw _ (List.mem_of_getElem? (i := 17) rfl))) Via.refl e1 Fs (g := (mkF m 5 #[.val (.ref o)] [(.ref o), (.ref va)])) rfl rfl (hb hby d6_5)
  obtain ⟨_, _, ⟨T3, L3, k3, n3⟩, -, X3, ⟨Lc3, hQ3, l3, y3, z3⟩, st3⟩ := Jvm.LawKit.callS X2 hx (y := (⟨"java/util/Arrays", "copyOf", "([II)[I"⟩ : MethodName)) hown (mvT hZ (hw _ (List.mem_of_getElem? (i := 34) rfl))) (mvT hZ (hw _ (List.mem_of_getElem? (i := 35) rfl))) (mvT hZ (hw _ (List.mem_of_getElem? (i := 36) rfl))) (mvT hZ (hw _ (List.mem_of_getElem? (i := 37) rfl))) (by decide) (backOf (W := 0) (rmCopy_16_3 l Z a0 hw [] va kc x0 x1 x2 x3 x4 x5 x6 x7 x8 x9 x10 x11 x12 x13 x14 x15 h0 n0 Z0 Va) hZ (hw _ (List.mem_of_getElem? (i := 37) rfl)) (hw _ (List.mem_of_getElem? (i := 36) rfl)) (by decide) (by decide)) (g := (mkF m 8 #[.val (.ref o)] [(.int (3 : Int32)), (.ref va)])) rfl (by rw [hml]; rfl) (argsL := [(.ref va), (.int (3 : Int32))]) (rest := []) (lenOf pd_1 rfl) rfl (by show 2 * 0 + _ ≤ _; exact Nat.le_of_eq rfl) (hb hby d6_8) (fun _ _ => ⟨rfl, e2, (by decide : 0 + 1 ≤ _), (by decide : 0 + 3 ≤ _)⟩)
  dsimp only [Pt.U, Pt.locs, Pt.cells, Pt.slots] at X3 l3 y3 z3 st3 hQ3
  subst l3 y3 z3
  obtain ⟨N3q, K3, ar3, cc3, rfl, le3, Va3⟩ := hQ3
  have N3 := Fr.app N0 N3q
  have ne_o_ar3 : o ≠ ar3 := Nat.ne_of_lt (Nat.lt_of_lt_of_le Fv.lt le3)
  have ne_va_ar3 : va ≠ ar3 := Nat.ne_of_lt (Nat.lt_of_lt_of_le Va.lt le3)
  have g_ar3 : n0 ≤ ar3 := Nat.le_trans Z0 le3
  have sz_ar3 : h0.size ≤ ar3 := Nat.le_trans (Keep.refl h0 []).1 le3
  have F3_o_values := Fv.keep K3 nin0
  have F3_o_size := Fs.keep K3 nin0
  have V3_va := Va.keep K3 nin0
  have Z3 := Nat.le_trans Z0 K3.1
  have KP3 := (Keep.refl h0 []).trans K3 all0
  have k4 : ∀ tg, Steps p.tables e below (T3.setTop (mkF m 11 #[.val (.ref o)] [(.ref ar3)])) tg → Steps p.tables e below (s₁.setTop (entryFrame m #[(.ref o)] 1)) tg := by
    intro tg kt
    refine k0 tg ?_
    show Steps p.tables e below (s₁.setTop (mkF m 0 #[.val (.ref o)] [])) _
    refine XS.aloadN X0.here hx rfl (hb hby d6_0) rfl rfl ?_
    show Steps p.tables e below (s₁.setTop (mkF m 1 #[.val (.ref o)] [(.ref o)])) _
    refine st1 _ ?_
    show Steps p.tables e below (T1.setTop (mkF m 4 #[.val (.ref o)] [(.ref va)])) _
    refine XS.aloadN X1.here hx rfl (hb hby d6_4) rfl rfl ?_
    show Steps p.tables e below (T1.setTop (mkF m 5 #[.val (.ref o)] [(.ref o), (.ref va)])) _
    refine st2 _ ?_
    show Steps p.tables e below (T2.setTop (mkF m 8 #[.val (.ref o)] [(.int (3 : Int32)), (.ref va)])) _
    refine st3 _ ?_
    show Steps p.tables e below (T3.setTop (mkF m 11 #[.val (.ref o)] [(.ref ar3)])) _
    exact kt
  obtain ⟨fs, hr, hrun, hended, hW, hsame⟩ := X3.leave (v := some (.ref ar3)) (fun h => by rw [Bd.returns] at h; cases h)
  refine ⟨_, _, k4 _ ?_, hrun, hended, _, _, rfl, ?_, ⟨_, rfl⟩, hW, hsame.mono (by decide) (by decide)⟩
  · exact own_retA X3 hx Bd.returns rfl (hb hby d6_11) hr
  · show QCopy Z (3 : Int32) [x0, x1, x2] h0 n0 _ T3.heap _
    exact ⟨N3, KP3, ar3, cc3, rfl, sz_ar3, Va3⟩
theorem ef_rmTo_32 (m : MethodId) (o : Addr) : entryFrame m #[(.ref o)] 1 = mkF m 0 #[.val (.ref o)] [] := by first | (simp [entryFrame, mkF, argsToLocals, Value.category]; done) | rfl
set_option maxRecDepth 65536 in
set_option maxHeartbeats 40000000 in
theorem rmTo_32 (l : Launch) (Z : State) (a0 : Array Value) (hw : ∀ d ∈ tables_1, d.before a0 Z = true) (ws : List Jvm.Cond) (o : Addr) (va : Addr) (kc : ClassId) (x0 x1 x2 x3 x4 x5 x6 x7 x8 x9 x10 x11 x12 x13 x14 x15 x16 x17 x18 x19 x20 x21 x22 x23 x24 x25 x26 x27 x28 x29 x30 x31 : Value) (h0 : Heap) (n0 : Nat) (Z0 : n0 ≤ h0.size) (Fv : Fld Z h0 o "com/example/unraveling/unraveling/graph/IntList" "values" "[I" (.ref va)) (Fs : Fld Z h0 o "com/example/unraveling/unraveling/graph/IntList" "size" "I" (.int (17 : Int32))) (Va : Arv Z h0 va kc .int (32 : Int32) [x0, x1, x2, x3, x4, x5, x6, x7, x8, x9, x10, x11, x12, x13, x14, x15, x16, x17, x18, x19, x20, x21, x22, x23, x24, x25, x26, x27, x28, x29, x30, x31] (.int (0 : Int32))) :
    MetFree l (⟨"com/example/unraveling/unraveling/graph/IntList", "toArray", "()[I"⟩ : MethodName) (head1 (Jvm.Cond.code (⟨"com/example/unraveling/unraveling/graph/IntList", "toArray", "()[I"⟩ : MethodName) prog_52_method_6_code 1 (some (.array .int)) :: ws) ({ frames := 2, cells := 1, slots := 17, locals := 54 } : Room)) (fun a_ U_ => a_ = #[(.ref o)] ∧ Z.Warmed39 U_.vm ∧ U_.heap = h0) (fun _ _ _ _ _ => True) (fun _ U_ o_ U'_ => ∃ v_ L_, o_ = .returned v_ ∧ QCopy Z (17 : Int32) [x0, x1, x2, x3, x4, x5, x6, x7, x8, x9, x10, x11, x12, x13, x14, x15, x16] h0 n0 v_ U'_.heap L_ ∧ FrameEnd U_ o_ U'_ L_ ({ frames := 2, cells := 1, slots := 17, locals := 54 } : Room).cells ({ frames := 2, cells := 1, slots := 17, locals := 54 } : Room).slots) := by
  refine MetFree.of_bodySF (plainFor_of_name pn_6) hisR ?_
  intro p e s m args below meth c s₁ Bd hml0 hP hK
  obtain ⟨rfl, hZ, hh⟩ := hP
  have hx := Bd.exec
  have hby := Bd.bytes
  have hml : c.maxLocals = 1 := hml0
  have hown : s.vm.findClass "com/example/unraveling/unraveling/graph/IntList" = some m.cls := findClass_of_methodNamed Bd.named
  have hnm := (name_of_methodNamed Bd.named Bd.method).1
  have X0 : Stand p l e ({ frames := 2, cells := 1, slots := 17, locals := 54 } : Room) s m #[(.ref o)] below meth c s₁ [] 0 0 := Stand.of_body Bd
  have e0 : s₁.heap = h0 := by rw [← hh, Bd.state]; rfl
  have N0 := Fr.nil n0
  have k0 : ∀ tg, Steps p.tables e below (s₁.setTop (mkF m 0 #[.val (.ref o)] [])) tg → Steps p.tables e below (s₁.setTop (entryFrame m #[(.ref o)] 1)) tg := fun tg k => castTop (ef_rmTo_32 m o) k
  obtain ⟨T1, X1, e1, st1⟩ := getF X0 hx hZ hown (host := "") (Or.inl (hw _ (List.mem_of_getElem? (i := 10) rfl))) Via.refl e0 Fv (g := (mkF m 1 #[.val (.ref o)] [(.ref o)])) rfl rfl (hb hby d6_1)
  obtain ⟨T2, X2, e2, st2⟩ := getF X1 hx hZ hown (host := "") (Or.inl (hw _ (List.mem_of_getElem? (i := 17) rfl))) Via.refl e1 Fs (g := (mkF m 5 #[.val (.ref o)] [(.ref o), (.ref va)])) rfl rfl (hb hby d6_5)
  obtain ⟨_, _, ⟨T3, L3, k3, n3⟩, -, X3, ⟨Lc3, hQ3, l3, y3, z3⟩, st3⟩ := Jvm.LawKit.callS X2 hx (y := (⟨"java/util/Arrays", "copyOf", "([II)[I"⟩ : MethodName)) hown (mvT hZ (hw _ (List.mem_of_getElem? (i := 34) rfl))) (mvT hZ (hw _ (List.mem_of_getElem? (i := 35) rfl))) (mvT hZ (hw _ (List.mem_of_getElem? (i := 36) rfl))) (mvT hZ (hw _ (List.mem_of_getElem? (i := 37) rfl))) (by decide) (backOf (W := 0) (rmCopy_32_17 l Z a0 hw [] va kc x0 x1 x2 x3 x4 x5 x6 x7 x8 x9 x10 x11 x12 x13 x14 x15 x16 x17 x18 x19 x20 x21 x22 x23 x24 x25 x26 x27 x28 x29 x30 x31 h0 n0 Z0 Va) hZ (hw _ (List.mem_of_getElem? (i := 37) rfl)) (hw _ (List.mem_of_getElem? (i := 36) rfl)) (by decide) (by decide)) (g := (mkF m 8 #[.val (.ref o)] [(.int (17 : Int32)), (.ref va)])) rfl (by rw [hml]; rfl) (argsL := [(.ref va), (.int (17 : Int32))]) (rest := []) (lenOf pd_1 rfl) rfl (by show 2 * 0 + _ ≤ _; exact Nat.le_of_eq rfl) (hb hby d6_8) (fun _ _ => ⟨rfl, e2, (by decide : 0 + 1 ≤ _), (by decide : 0 + 17 ≤ _)⟩)
  dsimp only [Pt.U, Pt.locs, Pt.cells, Pt.slots] at X3 l3 y3 z3 st3 hQ3
  subst l3 y3 z3
  obtain ⟨N3q, K3, ar3, cc3, rfl, le3, Va3⟩ := hQ3
  have N3 := Fr.app N0 N3q
  have ne_o_ar3 : o ≠ ar3 := Nat.ne_of_lt (Nat.lt_of_lt_of_le Fv.lt le3)
  have ne_va_ar3 : va ≠ ar3 := Nat.ne_of_lt (Nat.lt_of_lt_of_le Va.lt le3)
  have g_ar3 : n0 ≤ ar3 := Nat.le_trans Z0 le3
  have sz_ar3 : h0.size ≤ ar3 := Nat.le_trans (Keep.refl h0 []).1 le3
  have F3_o_values := Fv.keep K3 nin0
  have F3_o_size := Fs.keep K3 nin0
  have V3_va := Va.keep K3 nin0
  have Z3 := Nat.le_trans Z0 K3.1
  have KP3 := (Keep.refl h0 []).trans K3 all0
  have k4 : ∀ tg, Steps p.tables e below (T3.setTop (mkF m 11 #[.val (.ref o)] [(.ref ar3)])) tg → Steps p.tables e below (s₁.setTop (entryFrame m #[(.ref o)] 1)) tg := by
    intro tg kt
    refine k0 tg ?_
    show Steps p.tables e below (s₁.setTop (mkF m 0 #[.val (.ref o)] [])) _
    refine XS.aloadN X0.here hx rfl (hb hby d6_0) rfl rfl ?_
    show Steps p.tables e below (s₁.setTop (mkF m 1 #[.val (.ref o)] [(.ref o)])) _
    refine st1 _ ?_
    show Steps p.tables e below (T1.setTop (mkF m 4 #[.val (.ref o)] [(.ref va)])) _
    refine XS.aloadN X1.here hx rfl (hb hby d6_4) rfl rfl ?_
    show Steps p.tables e below (T1.setTop (mkF m 5 #[.val (.ref o)] [(.ref o), (.ref va)])) _
    refine st2 _ ?_
    show Steps p.tables e below (T2.setTop (mkF m 8 #[.val (.ref o)] [(.int (17 : Int32)), (.ref va)])) _
    refine st3 _ ?_
    show Steps p.tables e below (T3.setTop (mkF m 11 #[.val (.ref o)] [(.ref ar3)])) _
    exact kt
  obtain ⟨fs, hr, hrun, hended, hW, hsame⟩ := X3.leave (v := some (.ref ar3)) (fun h => by rw [Bd.returns] at h; cases h)
  refine ⟨_, _, k4 _ ?_, hrun, hended, _, _, rfl, ?_, ⟨_, rfl⟩, hW, hsame.mono (by decide) (by decide)⟩
  · exact own_retA X3 hx Bd.returns rfl (hb hby d6_11) hr
  · show QCopy Z (17 : Int32) [x0, x1, x2, x3, x4, x5, x6, x7, x8, x9, x10, x11, x12, x13, x14, x15, x16] h0 n0 _ T3.heap _
    exact ⟨N3, KP3, ar3, cc3, rfl, sz_ar3, Va3⟩
theorem d9_0 : decode method_2_code 0 = .ok (.aload_n 0, 1) := by decide +kernel
theorem d9_1 : decode method_2_code 1 = .ok (.iload_n 1, 1) := by decide +kernel
theorem d9_2 : decode method_2_code 2 = .ok (.invokevirtual 7, 3) := by decide +kernel
theorem d9_5 : decode method_2_code 5 = .ok (.aload_n 0, 1) := by decide +kernel
theorem d9_6 : decode method_2_code 6 = .ok (.iload_n 1, 1) := by decide +kernel
theorem d9_7 : decode method_2_code 7 = .ok (.iconst 1, 1) := by decide +kernel
theorem d9_8 : decode method_2_code 8 = .ok (.iadd, 1) := by decide +kernel
theorem d9_9 : decode method_2_code 9 = .ok (.invokevirtual 7, 3) := by decide +kernel
theorem d9_12 : decode method_2_code 12 = .ok (.aload_n 0, 1) := by decide +kernel
theorem d9_13 : decode method_2_code 13 = .ok (.iload_n 1, 1) := by decide +kernel
theorem d9_14 : decode method_2_code 14 = .ok (.iconst 2, 1) := by decide +kernel
theorem d9_15 : decode method_2_code 15 = .ok (.iadd, 1) := by decide +kernel
theorem d9_16 : decode method_2_code 16 = .ok (.invokevirtual 7, 3) := by decide +kernel
theorem d9_19 : decode method_2_code 19 = .ok (.aload_n 0, 1) := by decide +kernel
theorem d9_20 : decode method_2_code 20 = .ok (.iload_n 1, 1) := by decide +kernel
theorem d9_21 : decode method_2_code 21 = .ok (.iconst 3, 1) := by decide +kernel
theorem d9_22 : decode method_2_code 22 = .ok (.iadd, 1) := by decide +kernel
theorem d9_23 : decode method_2_code 23 = .ok (.invokevirtual 7, 3) := by decide +kernel
theorem d9_26 : decode method_2_code 26 = .ok (.return_, 1) := by decide +kernel
theorem pn_9 : plainName "com/example/unraveling/unraveling/graph/IntListAddPinLaw" = true := by first | (simp [plainName, overriddenIn]; done) | decide +kernel
theorem pd_2 : parseMethodDescriptor "(I)V" = some ⟨[.int], none⟩ := by decide +kernel
theorem ef_rmAdd4_2 (m : MethodId) (o : Addr) (v : Int32) : entryFrame m #[(.ref o), (.int v)] 2 = mkF m 0 #[.val (.ref o), .val (.int v)] [] := by first | (simp [entryFrame, mkF, argsToLocals, Value.category]; done) | rfl
set_option maxRecDepth 65536 in
set_option maxHeartbeats 40000000 in
theorem rmAdd4_2 (l : Launch) (Z : State) (a0 : Array Value) (hw : ∀ d ∈ tables_1, d.before a0 Z = true) (ws : List Jvm.Cond) (o : Addr) (v : Int32) (va : Addr) (kc : ClassId) (x0 x1 x2 x3 x4 x5 x6 x7 x8 x9 x10 x11 x12 x13 x14 x15 : Value) (h0 : Heap) (n0 : Nat) (Z0 : n0 ≤ h0.size) (E_o : Exa Z h0 o "com/example/unraveling/unraveling/graph/IntList") (Fv : Fld Z h0 o "com/example/unraveling/unraveling/graph/IntList" "values" "[I" (.ref va)) (Fs : Fld Z h0 o "com/example/unraveling/unraveling/graph/IntList" "size" "I" (.int (2 : Int32))) (Va : Arv Z h0 va kc .int (16 : Int32) [x0, x1, x2, x3, x4, x5, x6, x7, x8, x9, x10, x11, x12, x13, x14, x15] (.int (0 : Int32))) (ne_o_va : o ≠ va) (g_o : n0 ≤ o) (g_va : n0 ≤ va) :
    MetFree l (⟨"com/example/unraveling/unraveling/graph/IntListAddPinLaw", "add4", "(Lcom/example/unraveling/unraveling/graph/IntList;I)V"⟩ : MethodName) (head1 (Jvm.Cond.code (⟨"com/example/unraveling/unraveling/graph/IntListAddPinLaw", "add4", "(Lcom/example/unraveling/unraveling/graph/IntList;I)V"⟩ : MethodName) method_2_code 2 none :: ws) ({ frames := 1, cells := 0, slots := 0, locals := 13 } : Room)) (fun a_ U_ => a_ = #[(.ref o), (.int v)] ∧ Z.Warmed39 U_.vm ∧ U_.heap = h0) (fun _ _ _ _ _ => True) (fun _ U_ o_ U'_ => ∃ v_ L_, o_ = .returned v_ ∧ QAdd Z o va kc (16 : Int32) (6 : Int32) [x0, x1, (.int v), (.int (v + (1 : Int32))), (.int (v + (2 : Int32))), (.int (v + (3 : Int32))), x6, x7, x8, x9, x10, x11, x12, x13, x14, x15] h0 n0 v_ U'_.heap L_ ∧ FrameEnd U_ o_ U'_ L_ ({ frames := 1, cells := 0, slots := 0, locals := 13 } : Room).cells ({ frames := 1, cells := 0, slots := 0, locals := 13 } : Room).slots) := by
  refine MetFree.of_bodySF (plainFor_of_name pn_9) hisR ?_
  intro p e s m args below meth c s₁ Bd hml0 hP hK
  obtain ⟨rfl, hZ, hh⟩ := hP
  have hx := Bd.exec
  have hby := Bd.bytes
  have hml : c.maxLocals = 2 := hml0
  have hown : s.vm.findClass "com/example/unraveling/unraveling/graph/IntListAddPinLaw" = some m.cls := findClass_of_methodNamed Bd.named
  have hnm := (name_of_methodNamed Bd.named Bd.method).1
  have X0 : Stand p l e ({ frames := 1, cells := 0, slots := 0, locals := 13 } : Room) s m #[(.ref o), (.int v)] below meth c s₁ [] 0 0 := Stand.of_body Bd
  have e0 : s₁.heap = h0 := by rw [← hh, Bd.state]; rfl
  have N0 := Fr.nil n0
  have k0 : ∀ tg, Steps p.tables e below (s₁.setTop (mkF m 0 #[.val (.ref o), .val (.int v)] [])) tg → Steps p.tables e below (s₁.setTop (entryFrame m #[(.ref o), (.int v)] 2)) tg := fun tg k => castTop (ef_rmAdd4_2 m o v) k
  obtain ⟨cq1, kq1, q1a, q1b, q1c⟩ := isOf hZ e0 E_o
  obtain ⟨_, _, ⟨T1, L1, k1, n1⟩, -, X1, ⟨Lc1, hQ1, l1, y1, z1⟩, st1⟩ := X0.virtualBack hx (y := (⟨"com/example/unraveling/unraveling/graph/IntList", "add", "(I)V"⟩ : MethodName)) (z := (⟨"com/example/unraveling/unraveling/graph/IntList", "add", "(I)V"⟩ : MethodName)) hown (mvT hZ (hw _ (List.mem_of_getElem? (i := 12) rfl))) (mvT hZ (hw _ (List.mem_of_getElem? (i := 13) rfl))) (notFace_of_selects (args := #[]) (mvT hZ (hw _ (List.mem_of_getElem? (i := 15) rfl)))) (mvT hZ (hw _ (List.mem_of_getElem? (i := 15) rfl))) (mvT hZ (hw _ (List.mem_of_getElem? (i := 14) rfl))) (by decide) (backOf (W := 0) (rmAdd l Z a0 hw [] o v va kc (2 : Int32) (3 : Int32) [x0, x1, x2, x3, x4, x5, x6, x7, x8, x9, x10, x11, x12, x13, x14, x15] 2 h0 n0 Z0 E_o Fv Fs Va ne_o_va g_o g_va (by decide) (by decide) (by decide) (Nat.le_of_ble_eq_true rfl) (by decide)) hZ (hw _ (List.mem_of_getElem? (i := 16) rfl)) (hw _ (List.mem_of_getElem? (i := 2) rfl)) (by decide) (by decide)) q1a q1c (g := (mkF m 2 #[.val (.ref o), .val (.int v)] [(.int v), (.ref o)])) rfl (by rw [hml]; rfl) (Steps.refl _) (argsL := [(.int v)]) (rest := []) (lenOf pd_2 rfl) rfl (by show 2 * 0 + _ ≤ _; exact Nat.le_of_eq rfl) (hb hby d9_2) (fun _ _ => ⟨rfl, e0, (by decide : 0 + 0 ≤ _), (by decide : 0 + 0 ≤ _)⟩)
  dsimp only [Pt.U, Pt.locs, Pt.cells, Pt.slots] at X1 l1 y1 z1 st1 hQ1
  subst l1 y1 z1
  obtain ⟨rfl, N1q, K1, Fv1, Fs1, Vq1⟩ := hQ1
  have N1 := Fr.app N0 N1q
  have Va1 : Arv Z T1.heap va kc .int (16 : Int32) [x0, x1, (.int v), x3, x4, x5, x6, x7, x8, x9, x10, x11, x12, x13, x14, x15] (.int (0 : Int32)) := Vq1
  have E1_o := E_o.keep K1
  have Z1 := Nat.le_trans Z0 K1.1
  have KP1 := (Keep.refl h0 [o, va]).trans K1 (allS (Or.inl (List.mem_of_getElem? (i := 0) rfl)) (allS (Or.inl (List.mem_of_getElem? (i := 1) rfl)) all0))
  obtain ⟨cq2, kq2, q2a, q2b, q2c⟩ := isOf hZ rfl E1_o
  obtain ⟨_, _, ⟨T2, L2, k2, n2⟩, -, X2, ⟨Lc2, hQ2, l2, y2, z2⟩, st2⟩ := X1.virtualBack hx (y := (⟨"com/example/unraveling/unraveling/graph/IntList", "add", "(I)V"⟩ : MethodName)) (z := (⟨"com/example/unraveling/unraveling/graph/IntList", "add", "(I)V"⟩ : MethodName)) hown (mvT hZ (hw _ (List.mem_of_getElem? (i := 12) rfl))) (mvT hZ (hw _ (List.mem_of_getElem? (i := 13) rfl))) (notFace_of_selects (args := #[]) (mvT hZ (hw _ (List.mem_of_getElem? (i := 15) rfl)))) (mvT hZ (hw _ (List.mem_of_getElem? (i := 15) rfl))) (mvT hZ (hw _ (List.mem_of_getElem? (i := 14) rfl))) (by decide) (backOf (W := 0) (rmAdd l Z a0 hw [] o (v + (1 : Int32)) va kc (3 : Int32) (4 : Int32) [x0, x1, (.int v), x3, x4, x5, x6, x7, x8, x9, x10, x11, x12, x13, x14, x15] 3 T1.heap n0 Z1 E1_o Fv1 Fs1 Va1 ne_o_va g_o g_va (by decide) (by decide) (by decide) (Nat.le_of_ble_eq_true rfl) (by decide)) hZ (hw _ (List.mem_of_getElem? (i := 16) rfl)) (hw _ (List.mem_of_getElem? (i := 2) rfl)) (by decide) (by decide)) q2a q2c (g := (mkF m 9 #[.val (.ref o), .val (.int v)] [(.int (v + (1 : Int32))), (.ref o)])) rfl (by rw [hml]; rfl) (Steps.refl _) (argsL := [(.int (v + (1 : Int32)))]) (rest := []) (lenOf pd_2 rfl) rfl (by show 2 * 0 + _ ≤ _; exact Nat.le_of_eq rfl) (hb hby d9_9) (fun _ _ => ⟨rfl, rfl, (by decide : 0 + 0 ≤ _), (by decide : 0 + 0 ≤ _)⟩)
  dsimp only [Pt.U, Pt.locs, Pt.cells, Pt.slots] at X2 l2 y2 z2 st2 hQ2
  subst l2 y2 z2
  obtain ⟨rfl, N2q, K2, Fv2, Fs2, Vq2⟩ := hQ2
  have N2 := Fr.app N1 N2q
  have Va2 : Arv Z T2.heap va kc .int (16 : Int32) [x0, x1, (.int v), (.int (v + (1 : Int32))), x4, x5, x6, x7, x8, x9, x10, x11, x12, x13, x14, x15] (.int (0 : Int32)) := Vq2
  have E2_o := E1_o.keep K2
  have Z2 := Nat.le_trans Z1 K2.1
  have KP2 := KP1.trans K2 (allS (Or.inl (List.mem_of_getElem? (i := 0) rfl)) (allS (Or.inl (List.mem_of_getElem? (i := 1) rfl)) all0))
  obtain ⟨cq3, kq3, q3a, q3b, q3c⟩ := isOf hZ rfl E2_o
  obtain ⟨_, _, ⟨T3, L3, k3, n3⟩, -, X3, ⟨Lc3, hQ3, l3, y3, z3⟩, st3⟩ := X2.virtualBack hx (y := (⟨"com/example/unraveling/unraveling/graph/IntList", "add", "(I)V"⟩ : MethodName)) (z := (⟨"com/example/unraveling/unraveling/graph/IntList", "add", "(I)V"⟩ : MethodName)) hown (mvT hZ (hw _ (List.mem_of_getElem? (i := 12) rfl))) (mvT hZ (hw _ (List.mem_of_getElem? (i := 13) rfl))) (notFace_of_selects (args := #[]) (mvT hZ (hw _ (List.mem_of_getElem? (i := 15) rfl)))) (mvT hZ (hw _ (List.mem_of_getElem? (i := 15) rfl))) (mvT hZ (hw _ (List.mem_of_getElem? (i := 14) rfl))) (by decide) (backOf (W := 0) (rmAdd l Z a0 hw [] o (v + (2 : Int32)) va kc (4 : Int32) (5 : Int32) [x0, x1, (.int v), (.int (v + (1 : Int32))), x4, x5, x6, x7, x8, x9, x10, x11, x12, x13, x14, x15] 4 T2.heap n0 Z2 E2_o Fv2 Fs2 Va2 ne_o_va g_o g_va (by decide) (by decide) (by decide) (Nat.le_of_ble_eq_true rfl) (by decide)) hZ (hw _ (List.mem_of_getElem? (i := 16) rfl)) (hw _ (List.mem_of_getElem? (i := 2) rfl)) (by decide) (by decide)) q3a q3c (g := (mkF m 16 #[.val (.ref o), .val (.int v)] [(.int (v + (2 : Int32))), (.ref o)])) rfl (by rw [hml]; rfl) (Steps.refl _) (argsL := [(.int (v + (2 : Int32)))]) (rest := []) (lenOf pd_2 rfl) rfl (by show 2 * 0 + _ ≤ _; exact Nat.le_of_eq rfl) (hb hby d9_16) (fun _ _ => ⟨rfl, rfl, (by decide : 0 + 0 ≤ _), (by decide : 0 + 0 ≤ _)⟩)
  dsimp only [Pt.U, Pt.locs, Pt.cells, Pt.slots] at X3 l3 y3 z3 st3 hQ3
  subst l3 y3 z3
  obtain ⟨rfl, N3q, K3, Fv3, Fs3, Vq3⟩ := hQ3
  have N3 := Fr.app N2 N3q
  have Va3 : Arv Z T3.heap va kc .int (16 : Int32) [x0, x1, (.int v), (.int (v + (1 : Int32))), (.int (v + (2 : Int32))), x5, x6, x7, x8, x9, x10, x11, x12, x13, x14, x15] (.int (0 : Int32)) := Vq3
  have E3_o := E2_o.keep K3
  have Z3 := Nat.le_trans Z2 K3.1
  have KP3 := KP2.trans K3 (allS (Or.inl (List.mem_of_getElem? (i := 0) rfl)) (allS (Or.inl (List.mem_of_getElem? (i := 1) rfl)) all0))
  obtain ⟨cq4, kq4, q4a, q4b, q4c⟩ := isOf hZ rfl E3_o
  obtain ⟨_, _, ⟨T4, L4, k4, n4⟩, -, X4, ⟨Lc4, hQ4, l4, y4, z4⟩, st4⟩ := X3.virtualBack hx (y := (⟨"com/example/unraveling/unraveling/graph/IntList", "add", "(I)V"⟩ : MethodName)) (z := (⟨"com/example/unraveling/unraveling/graph/IntList", "add", "(I)V"⟩ : MethodName)) hown (mvT hZ (hw _ (List.mem_of_getElem? (i := 12) rfl))) (mvT hZ (hw _ (List.mem_of_getElem? (i := 13) rfl))) (notFace_of_selects (args := #[]) (mvT hZ (hw _ (List.mem_of_getElem? (i := 15) rfl)))) (mvT hZ (hw _ (List.mem_of_getElem? (i := 15) rfl))) (mvT hZ (hw _ (List.mem_of_getElem? (i := 14) rfl))) (by decide) (backOf (W := 0) (rmAdd l Z a0 hw [] o (v + (3 : Int32)) va kc (5 : Int32) (6 : Int32) [x0, x1, (.int v), (.int (v + (1 : Int32))), (.int (v + (2 : Int32))), x5, x6, x7, x8, x9, x10, x11, x12, x13, x14, x15] 5 T3.heap n0 Z3 E3_o Fv3 Fs3 Va3 ne_o_va g_o g_va (by decide) (by decide) (by decide) (Nat.le_of_ble_eq_true rfl) (by decide)) hZ (hw _ (List.mem_of_getElem? (i := 16) rfl)) (hw _ (List.mem_of_getElem? (i := 2) rfl)) (by decide) (by decide)) q4a q4c (g := (mkF m 23 #[.val (.ref o), .val (.int v)] [(.int (v + (3 : Int32))), (.ref o)])) rfl (by rw [hml]; rfl) (Steps.refl _) (argsL := [(.int (v + (3 : Int32)))]) (rest := []) (lenOf pd_2 rfl) rfl (by show 2 * 0 + _ ≤ _; exact Nat.le_of_eq rfl) (hb hby d9_23) (fun _ _ => ⟨rfl, rfl, (by decide : 0 + 0 ≤ _), (by decide : 0 + 0 ≤ _)⟩)
  dsimp only [Pt.U, Pt.locs, Pt.cells, Pt.slots] at X4 l4 y4 z4 st4 hQ4
  subst l4 y4 z4
  obtain ⟨rfl, N4q, K4, Fv4, Fs4, Vq4⟩ := hQ4
  have N4 := Fr.app N3 N4q
  have Va4 : Arv Z T4.heap va kc .int (16 : Int32) [x0, x1, (.int v), (.int (v + (1 : Int32))), (.int (v + (2 : Int32))), (.int (v + (3 : Int32))), x6, x7, x8, x9, x10, x11, x12, x13, x14, x15] (.int (0 : Int32)) := Vq4
  have E4_o := E3_o.keep K4
  have Z4 := Nat.le_trans Z3 K4.1
  have KP4 := KP3.trans K4 (allS (Or.inl (List.mem_of_getElem? (i := 0) rfl)) (allS (Or.inl (List.mem_of_getElem? (i := 1) rfl)) all0))
  have k5 : ∀ tg, Steps p.tables e below (T4.setTop (mkF m 26 #[.val (.ref o), .val (.int v)] [])) tg → Steps p.tables e below (s₁.setTop (entryFrame m #[(.ref o), (.int v)] 2)) tg := by
    intro tg kt
    refine k0 tg ?_
    show Steps p.tables e below (s₁.setTop (mkF m 0 #[.val (.ref o), .val (.int v)] [])) _
    refine XS.aloadN X0.here hx rfl (hb hby d9_0) rfl rfl ?_
    show Steps p.tables e below (s₁.setTop (mkF m 1 #[.val (.ref o), .val (.int v)] [(.ref o)])) _
    refine XS.iloadN X0.here hx rfl (hb hby d9_1) rfl ?_
    show Steps p.tables e below (s₁.setTop (mkF m 2 #[.val (.ref o), .val (.int v)] [(.int v), (.ref o)])) _
    refine st1.trans ?_
    show Steps p.tables e below (T1.setTop (mkF m 5 #[.val (.ref o), .val (.int v)] [])) _
    refine XS.aloadN X1.here hx rfl (hb hby d9_5) rfl rfl ?_
    show Steps p.tables e below (T1.setTop (mkF m 6 #[.val (.ref o), .val (.int v)] [(.ref o)])) _
    refine XS.iloadN X1.here hx rfl (hb hby d9_6) rfl ?_
    show Steps p.tables e below (T1.setTop (mkF m 7 #[.val (.ref o), .val (.int v)] [(.int v), (.ref o)])) _
    refine XS.iconst X1.here hx rfl (hb hby d9_7) ?_
    show Steps p.tables e below (T1.setTop (mkF m 8 #[.val (.ref o), .val (.int v)] [(.int (1 : Int32)), (.int v), (.ref o)])) _
    refine XS.iadd X1.here hx rfl (hb hby d9_8) rfl ?_
    show Steps p.tables e below (T1.setTop (mkF m 9 #[.val (.ref o), .val (.int v)] [(.int (v + (1 : Int32))), (.ref o)])) _
    refine st2.trans ?_
    show Steps p.tables e below (T2.setTop (mkF m 12 #[.val (.ref o), .val (.int v)] [])) _
    refine XS.aloadN X2.here hx rfl (hb hby d9_12) rfl rfl ?_
    show Steps p.tables e below (T2.setTop (mkF m 13 #[.val (.ref o), .val (.int v)] [(.ref o)])) _
    refine XS.iloadN X2.here hx rfl (hb hby d9_13) rfl ?_
    show Steps p.tables e below (T2.setTop (mkF m 14 #[.val (.ref o), .val (.int v)] [(.int v), (.ref o)])) _
    refine XS.iconst X2.here hx rfl (hb hby d9_14) ?_
    show Steps p.tables e below (T2.setTop (mkF m 15 #[.val (.ref o), .val (.int v)] [(.int (2 : Int32)), (.int v), (.ref o)])) _
    refine XS.iadd X2.here hx rfl (hb hby d9_15) rfl ?_
    show Steps p.tables e below (T2.setTop (mkF m 16 #[.val (.ref o), .val (.int v)] [(.int (v + (2 : Int32))), (.ref o)])) _
    refine st3.trans ?_
    show Steps p.tables e below (T3.setTop (mkF m 19 #[.val (.ref o), .val (.int v)] [])) _
    refine XS.aloadN X3.here hx rfl (hb hby d9_19) rfl rfl ?_
    show Steps p.tables e below (T3.setTop (mkF m 20 #[.val (.ref o), .val (.int v)] [(.ref o)])) _
    refine XS.iloadN X3.here hx rfl (hb hby d9_20) rfl ?_
    show Steps p.tables e below (T3.setTop (mkF m 21 #[.val (.ref o), .val (.int v)] [(.int v), (.ref o)])) _
    refine XS.iconst X3.here hx rfl (hb hby d9_21) ?_
    show Steps p.tables e below (T3.setTop (mkF m 22 #[.val (.ref o), .val (.int v)] [(.int (3 : Int32)), (.int v), (.ref o)])) _
    refine XS.iadd X3.here hx rfl (hb hby d9_22) rfl ?_
    show Steps p.tables e below (T3.setTop (mkF m 23 #[.val (.ref o), .val (.int v)] [(.int (v + (3 : Int32))), (.ref o)])) _
    refine st4.trans ?_
    show Steps p.tables e below (T4.setTop (mkF m 26 #[.val (.ref o), .val (.int v)] [])) _
    exact kt
  obtain ⟨fs, hr, hrun, hended, hW, hsame⟩ := X4.leave (v := none) (fun _ => rfl)
  refine ⟨_, _, k5 _ ?_, hrun, hended, _, _, rfl, ?_, ⟨_, rfl⟩, hW, hsame.mono (by decide) (by decide)⟩
  · exact X4.returnOut hx Bd.returns (hb hby d9_26) hr
  · show QAdd Z o va kc (16 : Int32) (6 : Int32) [x0, x1, (.int v), (.int (v + (1 : Int32))), (.int (v + (2 : Int32))), (.int (v + (3 : Int32))), x6, x7, x8, x9, x10, x11, x12, x13, x14, x15] h0 n0 _ T4.heap _
    exact ⟨rfl, N4, KP4, Fv4, Fs4, Va4⟩
theorem ef_rmAdd4_6 (m : MethodId) (o : Addr) (v : Int32) : entryFrame m #[(.ref o), (.int v)] 2 = mkF m 0 #[.val (.ref o), .val (.int v)] [] := by first | (simp [entryFrame, mkF, argsToLocals, Value.category]; done) | rfl
set_option maxRecDepth 65536 in
set_option maxHeartbeats 40000000 in
theorem rmAdd4_6 (l : Launch) (Z : State) (a0 : Array Value) (hw : ∀ d ∈ tables_1, d.before a0 Z = true) (ws : List Jvm.Cond) (o : Addr) (v : Int32) (va : Addr) (kc : ClassId) (x0 x1 x2 x3 x4 x5 x6 x7 x8 x9 x10 x11 x12 x13 x14 x15 : Value) (h0 : Heap) (n0 : Nat) (Z0 : n0 ≤ h0.size) (E_o : Exa Z h0 o "com/example/unraveling/unraveling/graph/IntList") (Fv : Fld Z h0 o "com/example/unraveling/unraveling/graph/IntList" "values" "[I" (.ref va)) (Fs : Fld Z h0 o "com/example/unraveling/unraveling/graph/IntList" "size" "I" (.int (6 : Int32))) (Va : Arv Z h0 va kc .int (16 : Int32) [x0, x1, x2, x3, x4, x5, x6, x7, x8, x9, x10, x11, x12, x13, x14, x15] (.int (0 : Int32))) (ne_o_va : o ≠ va) (g_o : n0 ≤ o) (g_va : n0 ≤ va) :
    MetFree l (⟨"com/example/unraveling/unraveling/graph/IntListAddPinLaw", "add4", "(Lcom/example/unraveling/unraveling/graph/IntList;I)V"⟩ : MethodName) (head1 (Jvm.Cond.code (⟨"com/example/unraveling/unraveling/graph/IntListAddPinLaw", "add4", "(Lcom/example/unraveling/unraveling/graph/IntList;I)V"⟩ : MethodName) method_2_code 2 none :: ws) ({ frames := 1, cells := 0, slots := 0, locals := 13 } : Room)) (fun a_ U_ => a_ = #[(.ref o), (.int v)] ∧ Z.Warmed39 U_.vm ∧ U_.heap = h0) (fun _ _ _ _ _ => True) (fun _ U_ o_ U'_ => ∃ v_ L_, o_ = .returned v_ ∧ QAdd Z o va kc (16 : Int32) (10 : Int32) [x0, x1, x2, x3, x4, x5, (.int v), (.int (v + (1 : Int32))), (.int (v + (2 : Int32))), (.int (v + (3 : Int32))), x10, x11, x12, x13, x14, x15] h0 n0 v_ U'_.heap L_ ∧ FrameEnd U_ o_ U'_ L_ ({ frames := 1, cells := 0, slots := 0, locals := 13 } : Room).cells ({ frames := 1, cells := 0, slots := 0, locals := 13 } : Room).slots) := by
  refine MetFree.of_bodySF (plainFor_of_name pn_9) hisR ?_
  intro p e s m args below meth c s₁ Bd hml0 hP hK
  obtain ⟨rfl, hZ, hh⟩ := hP
  have hx := Bd.exec
  have hby := Bd.bytes
  have hml : c.maxLocals = 2 := hml0
  have hown : s.vm.findClass "com/example/unraveling/unraveling/graph/IntListAddPinLaw" = some m.cls := findClass_of_methodNamed Bd.named
  have hnm := (name_of_methodNamed Bd.named Bd.method).1
  have X0 : Stand p l e ({ frames := 1, cells := 0, slots := 0, locals := 13 } : Room) s m #[(.ref o), (.int v)] below meth c s₁ [] 0 0 := Stand.of_body Bd
  have e0 : s₁.heap = h0 := by rw [← hh, Bd.state]; rfl
  have N0 := Fr.nil n0
  have k0 : ∀ tg, Steps p.tables e below (s₁.setTop (mkF m 0 #[.val (.ref o), .val (.int v)] [])) tg → Steps p.tables e below (s₁.setTop (entryFrame m #[(.ref o), (.int v)] 2)) tg := fun tg k => castTop (ef_rmAdd4_6 m o v) k
  obtain ⟨cq1, kq1, q1a, q1b, q1c⟩ := isOf hZ e0 E_o
  obtain ⟨_, _, ⟨T1, L1, k1, n1⟩, -, X1, ⟨Lc1, hQ1, l1, y1, z1⟩, st1⟩ := X0.virtualBack hx (y := (⟨"com/example/unraveling/unraveling/graph/IntList", "add", "(I)V"⟩ : MethodName)) (z := (⟨"com/example/unraveling/unraveling/graph/IntList", "add", "(I)V"⟩ : MethodName)) hown (mvT hZ (hw _ (List.mem_of_getElem? (i := 12) rfl))) (mvT hZ (hw _ (List.mem_of_getElem? (i := 13) rfl))) (notFace_of_selects (args := #[]) (mvT hZ (hw _ (List.mem_of_getElem? (i := 15) rfl)))) (mvT hZ (hw _ (List.mem_of_getElem? (i := 15) rfl))) (mvT hZ (hw _ (List.mem_of_getElem? (i := 14) rfl))) (by decide) (backOf (W := 0) (rmAdd l Z a0 hw [] o v va kc (6 : Int32) (7 : Int32) [x0, x1, x2, x3, x4, x5, x6, x7, x8, x9, x10, x11, x12, x13, x14, x15] 6 h0 n0 Z0 E_o Fv Fs Va ne_o_va g_o g_va (by decide) (by decide) (by decide) (Nat.le_of_ble_eq_true rfl) (by decide)) hZ (hw _ (List.mem_of_getElem? (i := 16) rfl)) (hw _ (List.mem_of_getElem? (i := 2) rfl)) (by decide) (by decide)) q1a q1c (g := (mkF m 2 #[.val (.ref o), .val (.int v)] [(.int v), (.ref o)])) rfl (by rw [hml]; rfl) (Steps.refl _) (argsL := [(.int v)]) (rest := []) (lenOf pd_2 rfl) rfl (by show 2 * 0 + _ ≤ _; exact Nat.le_of_eq rfl) (hb hby d9_2) (fun _ _ => ⟨rfl, e0, (by decide : 0 + 0 ≤ _), (by decide : 0 + 0 ≤ _)⟩)
  dsimp only [Pt.U, Pt.locs, Pt.cells, Pt.slots] at X1 l1 y1 z1 st1 hQ1
  subst l1 y1 z1
  obtain ⟨rfl, N1q, K1, Fv1, Fs1, Vq1⟩ := hQ1
  have N1 := Fr.app N0 N1q
  have Va1 : Arv Z T1.heap va kc .int (16 : Int32) [x0, x1, x2, x3, x4, x5, (.int v), x7, x8, x9, x10, x11, x12, x13, x14, x15] (.int (0 : Int32)) := Vq1
  have E1_o := E_o.keep K1
  have Z1 := Nat.le_trans Z0 K1.1
  have KP1 := (Keep.refl h0 [o, va]).trans K1 (allS (Or.inl (List.mem_of_getElem? (i := 0) rfl)) (allS (Or.inl (List.mem_of_getElem? (i := 1) rfl)) all0))
  obtain ⟨cq2, kq2, q2a, q2b, q2c⟩ := isOf hZ rfl E1_o
  obtain ⟨_, _, ⟨T2, L2, k2, n2⟩, -, X2, ⟨Lc2, hQ2, l2, y2, z2⟩, st2⟩ := X1.virtualBack hx (y := (⟨"com/example/unraveling/unraveling/graph/IntList", "add", "(I)V"⟩ : MethodName)) (z := (⟨"com/example/unraveling/unraveling/graph/IntList", "add", "(I)V"⟩ : MethodName)) hown (mvT hZ (hw _ (List.mem_of_getElem? (i := 12) rfl))) (mvT hZ (hw _ (List.mem_of_getElem? (i := 13) rfl))) (notFace_of_selects (args := #[]) (mvT hZ (hw _ (List.mem_of_getElem? (i := 15) rfl)))) (mvT hZ (hw _ (List.mem_of_getElem? (i := 15) rfl))) (mvT hZ (hw _ (List.mem_of_getElem? (i := 14) rfl))) (by decide) (backOf (W := 0) (rmAdd l Z a0 hw [] o (v + (1 : Int32)) va kc (7 : Int32) (8 : Int32) [x0, x1, x2, x3, x4, x5, (.int v), x7, x8, x9, x10, x11, x12, x13, x14, x15] 7 T1.heap n0 Z1 E1_o Fv1 Fs1 Va1 ne_o_va g_o g_va (by decide) (by decide) (by decide) (Nat.le_of_ble_eq_true rfl) (by decide)) hZ (hw _ (List.mem_of_getElem? (i := 16) rfl)) (hw _ (List.mem_of_getElem? (i := 2) rfl)) (by decide) (by decide)) q2a q2c (g := (mkF m 9 #[.val (.ref o), .val (.int v)] [(.int (v + (1 : Int32))), (.ref o)])) rfl (by rw [hml]; rfl) (Steps.refl _) (argsL := [(.int (v + (1 : Int32)))]) (rest := []) (lenOf pd_2 rfl) rfl (by show 2 * 0 + _ ≤ _; exact Nat.le_of_eq rfl) (hb hby d9_9) (fun _ _ => ⟨rfl, rfl, (by decide : 0 + 0 ≤ _), (by decide : 0 + 0 ≤ _)⟩)
  dsimp only [Pt.U, Pt.locs, Pt.cells, Pt.slots] at X2 l2 y2 z2 st2 hQ2
  subst l2 y2 z2
  obtain ⟨rfl, N2q, K2, Fv2, Fs2, Vq2⟩ := hQ2
  have N2 := Fr.app N1 N2q
  have Va2 : Arv Z T2.heap va kc .int (16 : Int32) [x0, x1, x2, x3, x4, x5, (.int v), (.int (v + (1 : Int32))), x8, x9, x10, x11, x12, x13, x14, x15] (.int (0 : Int32)) := Vq2
  have E2_o := E1_o.keep K2
  have Z2 := Nat.le_trans Z1 K2.1
  have KP2 := KP1.trans K2 (allS (Or.inl (List.mem_of_getElem? (i := 0) rfl)) (allS (Or.inl (List.mem_of_getElem? (i := 1) rfl)) all0))
  obtain ⟨cq3, kq3, q3a, q3b, q3c⟩ := isOf hZ rfl E2_o
  obtain ⟨_, _, ⟨T3, L3, k3, n3⟩, -, X3, ⟨Lc3, hQ3, l3, y3, z3⟩, st3⟩ := X2.virtualBack hx (y := (⟨"com/example/unraveling/unraveling/graph/IntList", "add", "(I)V"⟩ : MethodName)) (z := (⟨"com/example/unraveling/unraveling/graph/IntList", "add", "(I)V"⟩ : MethodName)) hown (mvT hZ (hw _ (List.mem_of_getElem? (i := 12) rfl))) (mvT hZ (hw _ (List.mem_of_getElem? (i := 13) rfl))) (notFace_of_selects (args := #[]) (mvT hZ (hw _ (List.mem_of_getElem? (i := 15) rfl)))) (mvT hZ (hw _ (List.mem_of_getElem? (i := 15) rfl))) (mvT hZ (hw _ (List.mem_of_getElem? (i := 14) rfl))) (by decide) (backOf (W := 0) (rmAdd l Z a0 hw [] o (v + (2 : Int32)) va kc (8 : Int32) (9 : Int32) [x0, x1, x2, x3, x4, x5, (.int v), (.int (v + (1 : Int32))), x8, x9, x10, x11, x12, x13, x14, x15] 8 T2.heap n0 Z2 E2_o Fv2 Fs2 Va2 ne_o_va g_o g_va (by decide) (by decide) (by decide) (Nat.le_of_ble_eq_true rfl) (by decide)) hZ (hw _ (List.mem_of_getElem? (i := 16) rfl)) (hw _ (List.mem_of_getElem? (i := 2) rfl)) (by decide) (by decide)) q3a q3c (g := (mkF m 16 #[.val (.ref o), .val (.int v)] [(.int (v + (2 : Int32))), (.ref o)])) rfl (by rw [hml]; rfl) (Steps.refl _) (argsL := [(.int (v + (2 : Int32)))]) (rest := []) (lenOf pd_2 rfl) rfl (by show 2 * 0 + _ ≤ _; exact Nat.le_of_eq rfl) (hb hby d9_16) (fun _ _ => ⟨rfl, rfl, (by decide : 0 + 0 ≤ _), (by decide : 0 + 0 ≤ _)⟩)
  dsimp only [Pt.U, Pt.locs, Pt.cells, Pt.slots] at X3 l3 y3 z3 st3 hQ3
  subst l3 y3 z3
  obtain ⟨rfl, N3q, K3, Fv3, Fs3, Vq3⟩ := hQ3
  have N3 := Fr.app N2 N3q
  have Va3 : Arv Z T3.heap va kc .int (16 : Int32) [x0, x1, x2, x3, x4, x5, (.int v), (.int (v + (1 : Int32))), (.int (v + (2 : Int32))), x9, x10, x11, x12, x13, x14, x15] (.int (0 : Int32)) := Vq3
  have E3_o := E2_o.keep K3
  have Z3 := Nat.le_trans Z2 K3.1
  have KP3 := KP2.trans K3 (allS (Or.inl (List.mem_of_getElem? (i := 0) rfl)) (allS (Or.inl (List.mem_of_getElem? (i := 1) rfl)) all0))
  obtain ⟨cq4, kq4, q4a, q4b, q4c⟩ := isOf hZ rfl E3_o
  obtain ⟨_, _, ⟨T4, L4, k4, n4⟩, -, X4, ⟨Lc4, hQ4, l4, y4, z4⟩, st4⟩ := X3.virtualBack hx (y := (⟨"com/example/unraveling/unraveling/graph/IntList", "add", "(I)V"⟩ : MethodName)) (z := (⟨"com/example/unraveling/unraveling/graph/IntList", "add", "(I)V"⟩ : MethodName)) hown (mvT hZ (hw _ (List.mem_of_getElem? (i := 12) rfl))) (mvT hZ (hw _ (List.mem_of_getElem? (i := 13) rfl))) (notFace_of_selects (args := #[]) (mvT hZ (hw _ (List.mem_of_getElem? (i := 15) rfl)))) (mvT hZ (hw _ (List.mem_of_getElem? (i := 15) rfl))) (mvT hZ (hw _ (List.mem_of_getElem? (i := 14) rfl))) (by decide) (backOf (W := 0) (rmAdd l Z a0 hw [] o (v + (3 : Int32)) va kc (9 : Int32) (10 : Int32) [x0, x1, x2, x3, x4, x5, (.int v), (.int (v + (1 : Int32))), (.int (v + (2 : Int32))), x9, x10, x11, x12, x13, x14, x15] 9 T3.heap n0 Z3 E3_o Fv3 Fs3 Va3 ne_o_va g_o g_va (by decide) (by decide) (by decide) (Nat.le_of_ble_eq_true rfl) (by decide)) hZ (hw _ (List.mem_of_getElem? (i := 16) rfl)) (hw _ (List.mem_of_getElem? (i := 2) rfl)) (by decide) (by decide)) q4a q4c (g := (mkF m 23 #[.val (.ref o), .val (.int v)] [(.int (v + (3 : Int32))), (.ref o)])) rfl (by rw [hml]; rfl) (Steps.refl _) (argsL := [(.int (v + (3 : Int32)))]) (rest := []) (lenOf pd_2 rfl) rfl (by show 2 * 0 + _ ≤ _; exact Nat.le_of_eq rfl) (hb hby d9_23) (fun _ _ => ⟨rfl, rfl, (by decide : 0 + 0 ≤ _), (by decide : 0 + 0 ≤ _)⟩)
  dsimp only [Pt.U, Pt.locs, Pt.cells, Pt.slots] at X4 l4 y4 z4 st4 hQ4
  subst l4 y4 z4
  obtain ⟨rfl, N4q, K4, Fv4, Fs4, Vq4⟩ := hQ4
  have N4 := Fr.app N3 N4q
  have Va4 : Arv Z T4.heap va kc .int (16 : Int32) [x0, x1, x2, x3, x4, x5, (.int v), (.int (v + (1 : Int32))), (.int (v + (2 : Int32))), (.int (v + (3 : Int32))), x10, x11, x12, x13, x14, x15] (.int (0 : Int32)) := Vq4
  have E4_o := E3_o.keep K4
  have Z4 := Nat.le_trans Z3 K4.1
  have KP4 := KP3.trans K4 (allS (Or.inl (List.mem_of_getElem? (i := 0) rfl)) (allS (Or.inl (List.mem_of_getElem? (i := 1) rfl)) all0))
  have k5 : ∀ tg, Steps p.tables e below (T4.setTop (mkF m 26 #[.val (.ref o), .val (.int v)] [])) tg → Steps p.tables e below (s₁.setTop (entryFrame m #[(.ref o), (.int v)] 2)) tg := by
    intro tg kt
    refine k0 tg ?_
    show Steps p.tables e below (s₁.setTop (mkF m 0 #[.val (.ref o), .val (.int v)] [])) _
    refine XS.aloadN X0.here hx rfl (hb hby d9_0) rfl rfl ?_
    show Steps p.tables e below (s₁.setTop (mkF m 1 #[.val (.ref o), .val (.int v)] [(.ref o)])) _
    refine XS.iloadN X0.here hx rfl (hb hby d9_1) rfl ?_
    show Steps p.tables e below (s₁.setTop (mkF m 2 #[.val (.ref o), .val (.int v)] [(.int v), (.ref o)])) _
    refine st1.trans ?_
    show Steps p.tables e below (T1.setTop (mkF m 5 #[.val (.ref o), .val (.int v)] [])) _
    refine XS.aloadN X1.here hx rfl (hb hby d9_5) rfl rfl ?_
    show Steps p.tables e below (T1.setTop (mkF m 6 #[.val (.ref o), .val (.int v)] [(.ref o)])) _
    refine XS.iloadN X1.here hx rfl (hb hby d9_6) rfl ?_
    show Steps p.tables e below (T1.setTop (mkF m 7 #[.val (.ref o), .val (.int v)] [(.int v), (.ref o)])) _
    refine XS.iconst X1.here hx rfl (hb hby d9_7) ?_
    show Steps p.tables e below (T1.setTop (mkF m 8 #[.val (.ref o), .val (.int v)] [(.int (1 : Int32)), (.int v), (.ref o)])) _
    refine XS.iadd X1.here hx rfl (hb hby d9_8) rfl ?_
    show Steps p.tables e below (T1.setTop (mkF m 9 #[.val (.ref o), .val (.int v)] [(.int (v + (1 : Int32))), (.ref o)])) _
    refine st2.trans ?_
    show Steps p.tables e below (T2.setTop (mkF m 12 #[.val (.ref o), .val (.int v)] [])) _
    refine XS.aloadN X2.here hx rfl (hb hby d9_12) rfl rfl ?_
    show Steps p.tables e below (T2.setTop (mkF m 13 #[.val (.ref o), .val (.int v)] [(.ref o)])) _
    refine XS.iloadN X2.here hx rfl (hb hby d9_13) rfl ?_
    show Steps p.tables e below (T2.setTop (mkF m 14 #[.val (.ref o), .val (.int v)] [(.int v), (.ref o)])) _
    refine XS.iconst X2.here hx rfl (hb hby d9_14) ?_
    show Steps p.tables e below (T2.setTop (mkF m 15 #[.val (.ref o), .val (.int v)] [(.int (2 : Int32)), (.int v), (.ref o)])) _
    refine XS.iadd X2.here hx rfl (hb hby d9_15) rfl ?_
    show Steps p.tables e below (T2.setTop (mkF m 16 #[.val (.ref o), .val (.int v)] [(.int (v + (2 : Int32))), (.ref o)])) _
    refine st3.trans ?_
    show Steps p.tables e below (T3.setTop (mkF m 19 #[.val (.ref o), .val (.int v)] [])) _
    refine XS.aloadN X3.here hx rfl (hb hby d9_19) rfl rfl ?_
    show Steps p.tables e below (T3.setTop (mkF m 20 #[.val (.ref o), .val (.int v)] [(.ref o)])) _
    refine XS.iloadN X3.here hx rfl (hb hby d9_20) rfl ?_
    show Steps p.tables e below (T3.setTop (mkF m 21 #[.val (.ref o), .val (.int v)] [(.int v), (.ref o)])) _
    refine XS.iconst X3.here hx rfl (hb hby d9_21) ?_
    show Steps p.tables e below (T3.setTop (mkF m 22 #[.val (.ref o), .val (.int v)] [(.int (3 : Int32)), (.int v), (.ref o)])) _
    refine XS.iadd X3.here hx rfl (hb hby d9_22) rfl ?_
    show Steps p.tables e below (T3.setTop (mkF m 23 #[.val (.ref o), .val (.int v)] [(.int (v + (3 : Int32))), (.ref o)])) _
    refine st4.trans ?_
    show Steps p.tables e below (T4.setTop (mkF m 26 #[.val (.ref o), .val (.int v)] [])) _
    exact kt
  obtain ⟨fs, hr, hrun, hended, hW, hsame⟩ := X4.leave (v := none) (fun _ => rfl)
  refine ⟨_, _, k5 _ ?_, hrun, hended, _, _, rfl, ?_, ⟨_, rfl⟩, hW, hsame.mono (by decide) (by decide)⟩
  · exact X4.returnOut hx Bd.returns (hb hby d9_26) hr
  · show QAdd Z o va kc (16 : Int32) (10 : Int32) [x0, x1, x2, x3, x4, x5, (.int v), (.int (v + (1 : Int32))), (.int (v + (2 : Int32))), (.int (v + (3 : Int32))), x10, x11, x12, x13, x14, x15] h0 n0 _ T4.heap _
    exact ⟨rfl, N4, KP4, Fv4, Fs4, Va4⟩
theorem ef_rmAdd4_10 (m : MethodId) (o : Addr) (v : Int32) : entryFrame m #[(.ref o), (.int v)] 2 = mkF m 0 #[.val (.ref o), .val (.int v)] [] := by first | (simp [entryFrame, mkF, argsToLocals, Value.category]; done) | rfl
set_option maxRecDepth 65536 in
set_option maxHeartbeats 40000000 in
theorem rmAdd4_10 (l : Launch) (Z : State) (a0 : Array Value) (hw : ∀ d ∈ tables_1, d.before a0 Z = true) (ws : List Jvm.Cond) (o : Addr) (v : Int32) (va : Addr) (kc : ClassId) (x0 x1 x2 x3 x4 x5 x6 x7 x8 x9 x10 x11 x12 x13 x14 x15 : Value) (h0 : Heap) (n0 : Nat) (Z0 : n0 ≤ h0.size) (E_o : Exa Z h0 o "com/example/unraveling/unraveling/graph/IntList") (Fv : Fld Z h0 o "com/example/unraveling/unraveling/graph/IntList" "values" "[I" (.ref va)) (Fs : Fld Z h0 o "com/example/unraveling/unraveling/graph/IntList" "size" "I" (.int (10 : Int32))) (Va : Arv Z h0 va kc .int (16 : Int32) [x0, x1, x2, x3, x4, x5, x6, x7, x8, x9, x10, x11, x12, x13, x14, x15] (.int (0 : Int32))) (ne_o_va : o ≠ va) (g_o : n0 ≤ o) (g_va : n0 ≤ va) :
    MetFree l (⟨"com/example/unraveling/unraveling/graph/IntListAddPinLaw", "add4", "(Lcom/example/unraveling/unraveling/graph/IntList;I)V"⟩ : MethodName) (head1 (Jvm.Cond.code (⟨"com/example/unraveling/unraveling/graph/IntListAddPinLaw", "add4", "(Lcom/example/unraveling/unraveling/graph/IntList;I)V"⟩ : MethodName) method_2_code 2 none :: ws) ({ frames := 1, cells := 0, slots := 0, locals := 13 } : Room)) (fun a_ U_ => a_ = #[(.ref o), (.int v)] ∧ Z.Warmed39 U_.vm ∧ U_.heap = h0) (fun _ _ _ _ _ => True) (fun _ U_ o_ U'_ => ∃ v_ L_, o_ = .returned v_ ∧ QAdd Z o va kc (16 : Int32) (14 : Int32) [x0, x1, x2, x3, x4, x5, x6, x7, x8, x9, (.int v), (.int (v + (1 : Int32))), (.int (v + (2 : Int32))), (.int (v + (3 : Int32))), x14, x15] h0 n0 v_ U'_.heap L_ ∧ FrameEnd U_ o_ U'_ L_ ({ frames := 1, cells := 0, slots := 0, locals := 13 } : Room).cells ({ frames := 1, cells := 0, slots := 0, locals := 13 } : Room).slots) := by
  refine MetFree.of_bodySF (plainFor_of_name pn_9) hisR ?_
  intro p e s m args below meth c s₁ Bd hml0 hP hK
  obtain ⟨rfl, hZ, hh⟩ := hP
  have hx := Bd.exec
  have hby := Bd.bytes
  have hml : c.maxLocals = 2 := hml0
  have hown : s.vm.findClass "com/example/unraveling/unraveling/graph/IntListAddPinLaw" = some m.cls := findClass_of_methodNamed Bd.named
  have hnm := (name_of_methodNamed Bd.named Bd.method).1
  have X0 : Stand p l e ({ frames := 1, cells := 0, slots := 0, locals := 13 } : Room) s m #[(.ref o), (.int v)] below meth c s₁ [] 0 0 := Stand.of_body Bd
  have e0 : s₁.heap = h0 := by rw [← hh, Bd.state]; rfl
  have N0 := Fr.nil n0
  have k0 : ∀ tg, Steps p.tables e below (s₁.setTop (mkF m 0 #[.val (.ref o), .val (.int v)] [])) tg → Steps p.tables e below (s₁.setTop (entryFrame m #[(.ref o), (.int v)] 2)) tg := fun tg k => castTop (ef_rmAdd4_10 m o v) k
  obtain ⟨cq1, kq1, q1a, q1b, q1c⟩ := isOf hZ e0 E_o
  obtain ⟨_, _, ⟨T1, L1, k1, n1⟩, -, X1, ⟨Lc1, hQ1, l1, y1, z1⟩, st1⟩ := X0.virtualBack hx (y := (⟨"com/example/unraveling/unraveling/graph/IntList", "add", "(I)V"⟩ : MethodName)) (z := (⟨"com/example/unraveling/unraveling/graph/IntList", "add", "(I)V"⟩ : MethodName)) hown (mvT hZ (hw _ (List.mem_of_getElem? (i := 12) rfl))) (mvT hZ (hw _ (List.mem_of_getElem? (i := 13) rfl))) (notFace_of_selects (args := #[]) (mvT hZ (hw _ (List.mem_of_getElem? (i := 15) rfl)))) (mvT hZ (hw _ (List.mem_of_getElem? (i := 15) rfl))) (mvT hZ (hw _ (List.mem_of_getElem? (i := 14) rfl))) (by decide) (backOf (W := 0) (rmAdd l Z a0 hw [] o v va kc (10 : Int32) (11 : Int32) [x0, x1, x2, x3, x4, x5, x6, x7, x8, x9, x10, x11, x12, x13, x14, x15] 10 h0 n0 Z0 E_o Fv Fs Va ne_o_va g_o g_va (by decide) (by decide) (by decide) (Nat.le_of_ble_eq_true rfl) (by decide)) hZ (hw _ (List.mem_of_getElem? (i := 16) rfl)) (hw _ (List.mem_of_getElem? (i := 2) rfl)) (by decide) (by decide)) q1a q1c (g := (mkF m 2 #[.val (.ref o), .val (.int v)] [(.int v), (.ref o)])) rfl (by rw [hml]; rfl) (Steps.refl _) (argsL := [(.int v)]) (rest := []) (lenOf pd_2 rfl) rfl (by show 2 * 0 + _ ≤ _; exact Nat.le_of_eq rfl) (hb hby d9_2) (fun _ _ => ⟨rfl, e0, (by decide : 0 + 0 ≤ _), (by decide : 0 + 0 ≤ _)⟩)
  dsimp only [Pt.U, Pt.locs, Pt.cells, Pt.slots] at X1 l1 y1 z1 st1 hQ1
  subst l1 y1 z1
  obtain ⟨rfl, N1q, K1, Fv1, Fs1, Vq1⟩ := hQ1
  have N1 := Fr.app N0 N1q
  have Va1 : Arv Z T1.heap va kc .int (16 : Int32) [x0, x1, x2, x3, x4, x5, x6, x7, x8, x9, (.int v), x11, x12, x13, x14, x15] (.int (0 : Int32)) := Vq1
  have E1_o := E_o.keep K1
  have Z1 := Nat.le_trans Z0 K1.1
  have KP1 := (Keep.refl h0 [o, va]).trans K1 (allS (Or.inl (List.mem_of_getElem? (i := 0) rfl)) (allS (Or.inl (List.mem_of_getElem? (i := 1) rfl)) all0))
  obtain ⟨cq2, kq2, q2a, q2b, q2c⟩ := isOf hZ rfl E1_o
  obtain ⟨_, _, ⟨T2, L2, k2, n2⟩, -, X2, ⟨Lc2, hQ2, l2, y2, z2⟩, st2⟩ := X1.virtualBack hx (y := (⟨"com/example/unraveling/unraveling/graph/IntList", "add", "(I)V"⟩ : MethodName)) (z := (⟨"com/example/unraveling/unraveling/graph/IntList", "add", "(I)V"⟩ : MethodName)) hown (mvT hZ (hw _ (List.mem_of_getElem? (i := 12) rfl))) (mvT hZ (hw _ (List.mem_of_getElem? (i := 13) rfl))) (notFace_of_selects (args := #[]) (mvT hZ (hw _ (List.mem_of_getElem? (i := 15) rfl)))) (mvT hZ (hw _ (List.mem_of_getElem? (i := 15) rfl))) (mvT hZ (hw _ (List.mem_of_getElem? (i := 14) rfl))) (by decide) (backOf (W := 0) (rmAdd l Z a0 hw [] o (v + (1 : Int32)) va kc (11 : Int32) (12 : Int32) [x0, x1, x2, x3, x4, x5, x6, x7, x8, x9, (.int v), x11, x12, x13, x14, x15] 11 T1.heap n0 Z1 E1_o Fv1 Fs1 Va1 ne_o_va g_o g_va (by decide) (by decide) (by decide) (Nat.le_of_ble_eq_true rfl) (by decide)) hZ (hw _ (List.mem_of_getElem? (i := 16) rfl)) (hw _ (List.mem_of_getElem? (i := 2) rfl)) (by decide) (by decide)) q2a q2c (g := (mkF m 9 #[.val (.ref o), .val (.int v)] [(.int (v + (1 : Int32))), (.ref o)])) rfl (by rw [hml]; rfl) (Steps.refl _) (argsL := [(.int (v + (1 : Int32)))]) (rest := []) (lenOf pd_2 rfl) rfl (by show 2 * 0 + _ ≤ _; exact Nat.le_of_eq rfl) (hb hby d9_9) (fun _ _ => ⟨rfl, rfl, (by decide : 0 + 0 ≤ _), (by decide : 0 + 0 ≤ _)⟩)
  dsimp only [Pt.U, Pt.locs, Pt.cells, Pt.slots] at X2 l2 y2 z2 st2 hQ2
  subst l2 y2 z2
  obtain ⟨rfl, N2q, K2, Fv2, Fs2, Vq2⟩ := hQ2
  have N2 := Fr.app N1 N2q
  have Va2 : Arv Z T2.heap va kc .int (16 : Int32) [x0, x1, x2, x3, x4, x5, x6, x7, x8, x9, (.int v), (.int (v + (1 : Int32))), x12, x13, x14, x15] (.int (0 : Int32)) := Vq2
  have E2_o := E1_o.keep K2
  have Z2 := Nat.le_trans Z1 K2.1
  have KP2 := KP1.trans K2 (allS (Or.inl (List.mem_of_getElem? (i := 0) rfl)) (allS (Or.inl (List.mem_of_getElem? (i := 1) rfl)) all0))
  obtain ⟨cq3, kq3, q3a, q3b, q3c⟩ := isOf hZ rfl E2_o
  obtain ⟨_, _, ⟨T3, L3, k3, n3⟩, -, X3, ⟨Lc3, hQ3, l3, y3, z3⟩, st3⟩ := X2.virtualBack hx (y := (⟨"com/example/unraveling/unraveling/graph/IntList", "add", "(I)V"⟩ : MethodName)) (z := (⟨"com/example/unraveling/unraveling/graph/IntList", "add", "(I)V"⟩ : MethodName)) hown (mvT hZ (hw _ (List.mem_of_getElem? (i := 12) rfl))) (mvT hZ (hw _ (List.mem_of_getElem? (i := 13) rfl))) (notFace_of_selects (args := #[]) (mvT hZ (hw _ (List.mem_of_getElem? (i := 15) rfl)))) (mvT hZ (hw _ (List.mem_of_getElem? (i := 15) rfl))) (mvT hZ (hw _ (List.mem_of_getElem? (i := 14) rfl))) (by decide) (backOf (W := 0) (rmAdd l Z a0 hw [] o (v + (2 : Int32)) va kc (12 : Int32) (13 : Int32) [x0, x1, x2, x3, x4, x5, x6, x7, x8, x9, (.int v), (.int (v + (1 : Int32))), x12, x13, x14, x15] 12 T2.heap n0 Z2 E2_o Fv2 Fs2 Va2 ne_o_va g_o g_va (by decide) (by decide) (by decide) (Nat.le_of_ble_eq_true rfl) (by decide)) hZ (hw _ (List.mem_of_getElem? (i := 16) rfl)) (hw _ (List.mem_of_getElem? (i := 2) rfl)) (by decide) (by decide)) q3a q3c (g := (mkF m 16 #[.val (.ref o), .val (.int v)] [(.int (v + (2 : Int32))), (.ref o)])) rfl (by rw [hml]; rfl) (Steps.refl _) (argsL := [(.int (v + (2 : Int32)))]) (rest := []) (lenOf pd_2 rfl) rfl (by show 2 * 0 + _ ≤ _; exact Nat.le_of_eq rfl) (hb hby d9_16) (fun _ _ => ⟨rfl, rfl, (by decide : 0 + 0 ≤ _), (by decide : 0 + 0 ≤ _)⟩)
  dsimp only [Pt.U, Pt.locs, Pt.cells, Pt.slots] at X3 l3 y3 z3 st3 hQ3
  subst l3 y3 z3
  obtain ⟨rfl, N3q, K3, Fv3, Fs3, Vq3⟩ := hQ3
  have N3 := Fr.app N2 N3q
  have Va3 : Arv Z T3.heap va kc .int (16 : Int32) [x0, x1, x2, x3, x4, x5, x6, x7, x8, x9, (.int v), (.int (v + (1 : Int32))), (.int (v + (2 : Int32))), x13, x14, x15] (.int (0 : Int32)) := Vq3
  have E3_o := E2_o.keep K3
  have Z3 := Nat.le_trans Z2 K3.1
  have KP3 := KP2.trans K3 (allS (Or.inl (List.mem_of_getElem? (i := 0) rfl)) (allS (Or.inl (List.mem_of_getElem? (i := 1) rfl)) all0))
  obtain ⟨cq4, kq4, q4a, q4b, q4c⟩ := isOf hZ rfl E3_o
  obtain ⟨_, _, ⟨T4, L4, k4, n4⟩, -, X4, ⟨Lc4, hQ4, l4, y4, z4⟩, st4⟩ := X3.virtualBack hx (y := (⟨"com/example/unraveling/unraveling/graph/IntList", "add", "(I)V"⟩ : MethodName)) (z := (⟨"com/example/unraveling/unraveling/graph/IntList", "add", "(I)V"⟩ : MethodName)) hown (mvT hZ (hw _ (List.mem_of_getElem? (i := 12) rfl))) (mvT hZ (hw _ (List.mem_of_getElem? (i := 13) rfl))) (notFace_of_selects (args := #[]) (mvT hZ (hw _ (List.mem_of_getElem? (i := 15) rfl)))) (mvT hZ (hw _ (List.mem_of_getElem? (i := 15) rfl))) (mvT hZ (hw _ (List.mem_of_getElem? (i := 14) rfl))) (by decide) (backOf (W := 0) (rmAdd l Z a0 hw [] o (v + (3 : Int32)) va kc (13 : Int32) (14 : Int32) [x0, x1, x2, x3, x4, x5, x6, x7, x8, x9, (.int v), (.int (v + (1 : Int32))), (.int (v + (2 : Int32))), x13, x14, x15] 13 T3.heap n0 Z3 E3_o Fv3 Fs3 Va3 ne_o_va g_o g_va (by decide) (by decide) (by decide) (Nat.le_of_ble_eq_true rfl) (by decide)) hZ (hw _ (List.mem_of_getElem? (i := 16) rfl)) (hw _ (List.mem_of_getElem? (i := 2) rfl)) (by decide) (by decide)) q4a q4c (g := (mkF m 23 #[.val (.ref o), .val (.int v)] [(.int (v + (3 : Int32))), (.ref o)])) rfl (by rw [hml]; rfl) (Steps.refl _) (argsL := [(.int (v + (3 : Int32)))]) (rest := []) (lenOf pd_2 rfl) rfl (by show 2 * 0 + _ ≤ _; exact Nat.le_of_eq rfl) (hb hby d9_23) (fun _ _ => ⟨rfl, rfl, (by decide : 0 + 0 ≤ _), (by decide : 0 + 0 ≤ _)⟩)
  dsimp only [Pt.U, Pt.locs, Pt.cells, Pt.slots] at X4 l4 y4 z4 st4 hQ4
  subst l4 y4 z4
  obtain ⟨rfl, N4q, K4, Fv4, Fs4, Vq4⟩ := hQ4
  have N4 := Fr.app N3 N4q
  have Va4 : Arv Z T4.heap va kc .int (16 : Int32) [x0, x1, x2, x3, x4, x5, x6, x7, x8, x9, (.int v), (.int (v + (1 : Int32))), (.int (v + (2 : Int32))), (.int (v + (3 : Int32))), x14, x15] (.int (0 : Int32)) := Vq4
  have E4_o := E3_o.keep K4
  have Z4 := Nat.le_trans Z3 K4.1
  have KP4 := KP3.trans K4 (allS (Or.inl (List.mem_of_getElem? (i := 0) rfl)) (allS (Or.inl (List.mem_of_getElem? (i := 1) rfl)) all0))
  have k5 : ∀ tg, Steps p.tables e below (T4.setTop (mkF m 26 #[.val (.ref o), .val (.int v)] [])) tg → Steps p.tables e below (s₁.setTop (entryFrame m #[(.ref o), (.int v)] 2)) tg := by
    intro tg kt
    refine k0 tg ?_
    show Steps p.tables e below (s₁.setTop (mkF m 0 #[.val (.ref o), .val (.int v)] [])) _
    refine XS.aloadN X0.here hx rfl (hb hby d9_0) rfl rfl ?_
    show Steps p.tables e below (s₁.setTop (mkF m 1 #[.val (.ref o), .val (.int v)] [(.ref o)])) _
    refine XS.iloadN X0.here hx rfl (hb hby d9_1) rfl ?_
    show Steps p.tables e below (s₁.setTop (mkF m 2 #[.val (.ref o), .val (.int v)] [(.int v), (.ref o)])) _
    refine st1.trans ?_
    show Steps p.tables e below (T1.setTop (mkF m 5 #[.val (.ref o), .val (.int v)] [])) _
    refine XS.aloadN X1.here hx rfl (hb hby d9_5) rfl rfl ?_
    show Steps p.tables e below (T1.setTop (mkF m 6 #[.val (.ref o), .val (.int v)] [(.ref o)])) _
    refine XS.iloadN X1.here hx rfl (hb hby d9_6) rfl ?_
    show Steps p.tables e below (T1.setTop (mkF m 7 #[.val (.ref o), .val (.int v)] [(.int v), (.ref o)])) _
    refine XS.iconst X1.here hx rfl (hb hby d9_7) ?_
    show Steps p.tables e below (T1.setTop (mkF m 8 #[.val (.ref o), .val (.int v)] [(.int (1 : Int32)), (.int v), (.ref o)])) _
    refine XS.iadd X1.here hx rfl (hb hby d9_8) rfl ?_
    show Steps p.tables e below (T1.setTop (mkF m 9 #[.val (.ref o), .val (.int v)] [(.int (v + (1 : Int32))), (.ref o)])) _
    refine st2.trans ?_
    show Steps p.tables e below (T2.setTop (mkF m 12 #[.val (.ref o), .val (.int v)] [])) _
    refine XS.aloadN X2.here hx rfl (hb hby d9_12) rfl rfl ?_
    show Steps p.tables e below (T2.setTop (mkF m 13 #[.val (.ref o), .val (.int v)] [(.ref o)])) _
    refine XS.iloadN X2.here hx rfl (hb hby d9_13) rfl ?_
    show Steps p.tables e below (T2.setTop (mkF m 14 #[.val (.ref o), .val (.int v)] [(.int v), (.ref o)])) _
    refine XS.iconst X2.here hx rfl (hb hby d9_14) ?_
    show Steps p.tables e below (T2.setTop (mkF m 15 #[.val (.ref o), .val (.int v)] [(.int (2 : Int32)), (.int v), (.ref o)])) _
    refine XS.iadd X2.here hx rfl (hb hby d9_15) rfl ?_
    show Steps p.tables e below (T2.setTop (mkF m 16 #[.val (.ref o), .val (.int v)] [(.int (v + (2 : Int32))), (.ref o)])) _
    refine st3.trans ?_
    show Steps p.tables e below (T3.setTop (mkF m 19 #[.val (.ref o), .val (.int v)] [])) _
    refine XS.aloadN X3.here hx rfl (hb hby d9_19) rfl rfl ?_
    show Steps p.tables e below (T3.setTop (mkF m 20 #[.val (.ref o), .val (.int v)] [(.ref o)])) _
    refine XS.iloadN X3.here hx rfl (hb hby d9_20) rfl ?_
    show Steps p.tables e below (T3.setTop (mkF m 21 #[.val (.ref o), .val (.int v)] [(.int v), (.ref o)])) _
    refine XS.iconst X3.here hx rfl (hb hby d9_21) ?_
    show Steps p.tables e below (T3.setTop (mkF m 22 #[.val (.ref o), .val (.int v)] [(.int (3 : Int32)), (.int v), (.ref o)])) _
    refine XS.iadd X3.here hx rfl (hb hby d9_22) rfl ?_
    show Steps p.tables e below (T3.setTop (mkF m 23 #[.val (.ref o), .val (.int v)] [(.int (v + (3 : Int32))), (.ref o)])) _
    refine st4.trans ?_
    show Steps p.tables e below (T4.setTop (mkF m 26 #[.val (.ref o), .val (.int v)] [])) _
    exact kt
  obtain ⟨fs, hr, hrun, hended, hW, hsame⟩ := X4.leave (v := none) (fun _ => rfl)
  refine ⟨_, _, k5 _ ?_, hrun, hended, _, _, rfl, ?_, ⟨_, rfl⟩, hW, hsame.mono (by decide) (by decide)⟩
  · exact X4.returnOut hx Bd.returns (hb hby d9_26) hr
  · show QAdd Z o va kc (16 : Int32) (14 : Int32) [x0, x1, x2, x3, x4, x5, x6, x7, x8, x9, (.int v), (.int (v + (1 : Int32))), (.int (v + (2 : Int32))), (.int (v + (3 : Int32))), x14, x15] h0 n0 _ T4.heap _
    exact ⟨rfl, N4, KP4, Fv4, Fs4, Va4⟩
theorem pn_0 : plainName "com/example/unraveling/unraveling/graph/IntListAddPinLaw" = true := by first | (simp [plainName, overriddenIn]; done) | decide +kernel
theorem pd_3 : parseMethodDescriptor "()V" = some ⟨[], none⟩ := by decide +kernel
theorem pd_4 : parseMethodDescriptor "()I" = some ⟨[], some .int⟩ := by decide +kernel
theorem pd_5 : parseMethodDescriptor "(I)I" = some ⟨[.int], some .int⟩ := by decide +kernel
theorem pd_6 : parseMethodDescriptor "()[I" = some ⟨[], some (.array .int)⟩ := by decide +kernel
theorem pd_7 : parseMethodDescriptor "(Lcom/example/unraveling/unraveling/graph/IntList;I)V" = some ⟨[(.object "com/example/unraveling/unraveling/graph/IntList"), .int], none⟩ := by decide +kernel
theorem ef_rm0 (m : MethodId) (a1 : Int32) (a2 : Int32) (a3 : Int32) (xv : Int32) (n : Int32) : entryFrame m #[(.int a1), (.int a2), (.int a3), (.int xv), (.int n)] maxLocals = mkF m 0 #[.val (.int a1), .val (.int a2), .val (.int a3), .val (.int xv), .val (.int n), .unset, .unset, .unset, .unset, .unset] [] := by first | (simp [entryFrame, mkF, argsToLocals, Value.category, maxLocals]; done) | rfl
set_option maxRecDepth 65536 in
set_option maxHeartbeats 40000000 in
theorem rm0 (l : Launch) (Z : State) (a0 : Array Value) (hw : ∀ d ∈ tables_1, d.before a0 Z = true) (ws : List Jvm.Cond) (a1 : Int32) (a2 : Int32) (a3 : Int32) (xv : Int32) (n : Int32)  (h0 : Heap) (n0 : Nat) (Z0 : n0 ≤ h0.size)  :
    MetFree l x (head1 (Jvm.Cond.code x code maxLocals ret :: ws) room_1) (fun a_ U_ => a_ = #[(.int a1), (.int a2), (.int a3), (.int xv), (.int n)] ∧ Z.Warmed39 U_.vm ∧ U_.heap = h0) (fun _ _ _ _ _ => True) (fun _ U_ o_ U'_ => ∃ v_ L_, o_ = .returned v_ ∧ QL n0 v_ U'_.heap L_ ∧ FrameEnd U_ o_ U'_ L_ room_1.cells room_1.slots) := by
  refine MetFree.of_bodySF (plainFor_of_name pn_0) hisR ?_
  intro p e s m args below meth c s₁ Bd hml0 hP hK
  obtain ⟨rfl, hZ, hh⟩ := hP
  have hx := Bd.exec
  have hby := Bd.bytes
  have hml : c.maxLocals = 10 := hml0
  have hown : s.vm.findClass "com/example/unraveling/unraveling/graph/IntListAddPinLaw" = some m.cls := findClass_of_methodNamed Bd.named
  have hnm := (name_of_methodNamed Bd.named Bd.method).1
  have X0 : Stand p l e room_1 s m #[(.int a1), (.int a2), (.int a3), (.int xv), (.int n)] below meth c s₁ [] 0 0 := Stand.of_body Bd
  have e0 : s₁.heap = h0 := by rw [← hh, Bd.state]; rfl
  have N0 := Fr.nil n0
  have k0 : ∀ tg, Steps p.tables e below (s₁.setTop (mkF m 0 #[.val (.int a1), .val (.int a2), .val (.int a3), .val (.int xv), .val (.int n), .unset, .unset, .unset, .unset, .unset] [])) tg → Steps p.tables e below (s₁.setTop (entryFrame m #[(.int a1), (.int a2), (.int a3), (.int xv), (.int n)] maxLocals)) tg := fun tg k => castTop (ef_rm0 m a1 a2 a3 xv n) k
  obtain ⟨T1, h1, X1, e1, E1, A1, D1, -, st1⟩ := newO X0 hx hZ hown (hw _ (List.mem_of_getElem? (i := 0) rfl)) (hw _ (List.mem_of_getElem? (i := 1) rfl)) (hw _ (List.mem_of_getElem? (i := 2) rfl)) e0 (g := (mkF m 0 #[.val (.int a1), .val (.int a2), .val (.int a3), .val (.int xv), .val (.int n), .unset, .unset, .unset, .unset, .unset] [])) rfl (hb hby at_0) (by decide) (by decide)
  obtain ⟨b1, g1⟩ : ∃ z, z = h0.size := ⟨_, rfl⟩
  have g_b1 : n0 ≤ b1 := Nat.le_trans Z0 (Nat.le_of_eq g1.symm)
  have sz_b1 : h0.size ≤ b1 := Nat.le_trans (Keep.refl h0 []).1 (Nat.le_of_eq g1.symm)
  rw [← g1] at A1 D1 st1
  have Z1 := Nat.le_trans Z0 E1.1
  have KP1 := (Keep.refl h0 []).ext E1
  have F_values_b1 : Fld Z h1 b1 "com/example/unraveling/unraveling/graph/IntList" "values" "[I" .null := D1 (Or.inl (hw _ (List.mem_of_getElem? (i := 11) rfl))) (ty := (.array .int)) (by decide)
  have F_size_b1 : Fld Z h1 b1 "com/example/unraveling/unraveling/graph/IntList" "size" "I" (.int (0 : Int32)) := D1 (Or.inl (hw _ (List.mem_of_getElem? (i := 18) rfl))) (ty := .int) (by decide)
  obtain ⟨_, _, ⟨T2, L2, k2, n2⟩, -, X2, ⟨Lc2, hQ2, l2, y2, z2⟩, st2⟩ := X1.specialBack hx (y := (⟨"com/example/unraveling/unraveling/graph/IntList", "<init>", "()V"⟩ : MethodName)) rfl hown (mvT hZ (hw _ (List.mem_of_getElem? (i := 3) rfl))) (mvT hZ (hw _ (List.mem_of_getElem? (i := 4) rfl))) (mvT hZ (hw _ (List.mem_of_getElem? (i := 5) rfl))) (by decide) (backOf (W := 1) (rmInit l Z a0 hw [] b1  h1 n0 Z1 A1 F_values_b1 F_size_b1 g_b1) hZ (hw _ (List.mem_of_getElem? (i := 5) rfl)) (hw _ (List.mem_of_getElem? (i := 2) rfl)) (by decide) (by decide)) (g := (mkF m 4 #[.val (.int a1), .val (.int a2), .val (.int a3), .val (.int xv), .val (.int n), .unset, .unset, .unset, .unset, .unset] [(.ref b1), (.ref b1)])) rfl (by rw [hml]; rfl) (Steps.refl _) (a := b1) (argsL := []) (rest := [(.ref b1)]) (lenOf pd_3 rfl) rfl (by show 2 * 0 + _ ≤ _; exact Nat.le_of_eq rfl) (hb hby at_4) (fun _ _ => ⟨rfl, e1, (by decide : 1 + 1 ≤ _), (by decide : 2 + 16 ≤ _)⟩)
  dsimp only [Pt.U, Pt.locs, Pt.cells, Pt.slots] at X2 l2 y2 z2 st2 hQ2
  subst l2 y2 z2
  obtain ⟨rfl, N2q, K2, va2, cc2, le2, Fv2, Fs2, Va2⟩ := hQ2
  have N2 := Fr.app N0 N2q
  have ne_b1_va2 : b1 ≠ va2 := Nat.ne_of_lt (Nat.lt_of_lt_of_le A1.lt le2)
  have g_va2 : n0 ≤ va2 := Nat.le_trans Z1 le2
  have sz_va2 : h0.size ≤ va2 := Nat.le_trans KP1.1 le2
  have E2_b1 := A1.keep K2
  have Z2 := Nat.le_trans Z1 K2.1
  have KP2 := KP1.trans K2 (allS (Or.inr sz_b1) all0)
  obtain ⟨cq3, kq3, q3a, q3b, q3c⟩ := isOf hZ rfl E2_b1
  obtain ⟨_, _, ⟨T3, L3, k3, n3⟩, -, X3, ⟨Lc3, hQ3, l3, y3, z3⟩, st3⟩ := X2.virtualBack hx (y := (⟨"com/example/unraveling/unraveling/graph/IntList", "add", "(I)V"⟩ : MethodName)) (z := (⟨"com/example/unraveling/unraveling/graph/IntList", "add", "(I)V"⟩ : MethodName)) hown (mvT hZ (hw _ (List.mem_of_getElem? (i := 12) rfl))) (mvT hZ (hw _ (List.mem_of_getElem? (i := 13) rfl))) (notFace_of_selects (args := #[]) (mvT hZ (hw _ (List.mem_of_getElem? (i := 15) rfl)))) (mvT hZ (hw _ (List.mem_of_getElem? (i := 15) rfl))) (mvT hZ (hw _ (List.mem_of_getElem? (i := 14) rfl))) (by decide) (backOf (W := 0) (rmAdd l Z a0 hw [] b1 a1 va2 cc2 (0 : Int32) (1 : Int32) [(.int (0 : Int32)), (.int (0 : Int32)), (.int (0 : Int32)), (.int (0 : Int32)), (.int (0 : Int32)), (.int (0 : Int32)), (.int (0 : Int32)), (.int (0 : Int32)), (.int (0 : Int32)), (.int (0 : Int32)), (.int (0 : Int32)), (.int (0 : Int32)), (.int (0 : Int32)), (.int (0 : Int32)), (.int (0 : Int32)), (.int (0 : Int32))] 0 T2.heap n0 Z2 E2_b1 Fv2 Fs2 Va2 ne_b1_va2 g_b1 g_va2 (by decide) (by decide) (by decide) (Nat.le_of_ble_eq_true rfl) (by decide)) hZ (hw _ (List.mem_of_getElem? (i := 16) rfl)) (hw _ (List.mem_of_getElem? (i := 2) rfl)) (by decide) (by decide)) q3a q3c (g := (mkF m 12 #[.val (.int a1), .val (.int a2), .val (.int a3), .val (.int xv), .val (.int n), .val (.ref b1), .unset, .unset, .unset, .unset] [(.int a1), (.ref b1)])) rfl (by rw [hml]; rfl) (Steps.refl _) (argsL := [(.int a1)]) (rest := []) (lenOf pd_2 rfl) rfl (by show 2 * 0 + _ ≤ _; exact Nat.le_of_eq rfl) (hb hby at_12) (fun _ _ => ⟨rfl, rfl, (by decide : 2 + 0 ≤ _), (by decide : 18 + 0 ≤ _)⟩)
  dsimp only [Pt.U, Pt.locs, Pt.cells, Pt.slots] at X3 l3 y3 z3 st3 hQ3
  subst l3 y3 z3
  obtain ⟨rfl, N3q, K3, Fv3, Fs3, Vq3⟩ := hQ3
  have N3 := Fr.app N2 N3q
  have Va3 : Arv Z T3.heap va2 cc2 .int (16 : Int32) [(.int a1), (.int (0 : Int32)), (.int (0 : Int32)), (.int (0 : Int32)), (.int (0 : Int32)), (.int (0 : Int32)), (.int (0 : Int32)), (.int (0 : Int32)), (.int (0 : Int32)), (.int (0 : Int32)), (.int (0 : Int32)), (.int (0 : Int32)), (.int (0 : Int32)), (.int (0 : Int32)), (.int (0 : Int32)), (.int (0 : Int32))] (.int (0 : Int32)) := Vq3
  have E3_b1 := E2_b1.keep K3
  have Z3 := Nat.le_trans Z2 K3.1
  have KP3 := KP2.trans K3 (allS (Or.inr sz_b1) (allS (Or.inr sz_va2) all0))
  obtain ⟨cq4, kq4, q4a, q4b, q4c⟩ := isOf hZ rfl E3_b1
  obtain ⟨_, _, ⟨T4, L4, k4, n4⟩, -, X4, ⟨Lc4, hQ4, l4, y4, z4⟩, st4⟩ := X3.virtualBack hx (y := (⟨"com/example/unraveling/unraveling/graph/IntList", "size", "()I"⟩ : MethodName)) (z := (⟨"com/example/unraveling/unraveling/graph/IntList", "size", "()I"⟩ : MethodName)) hown (mvT hZ (hw _ (List.mem_of_getElem? (i := 19) rfl))) (mvT hZ (hw _ (List.mem_of_getElem? (i := 20) rfl))) (notFace_of_selects (args := #[]) (mvT hZ (hw _ (List.mem_of_getElem? (i := 22) rfl)))) (mvT hZ (hw _ (List.mem_of_getElem? (i := 22) rfl))) (mvT hZ (hw _ (List.mem_of_getElem? (i := 21) rfl))) (by decide) (backOf (W := 0) (rmSize l Z a0 hw [] b1 (1 : Int32) T3.heap n0 Fs3) hZ (hw _ (List.mem_of_getElem? (i := 23) rfl)) (hw _ (List.mem_of_getElem? (i := 2) rfl)) (by decide) (by decide)) q4a q4c (g := (mkF m 17 #[.val (.int a1), .val (.int a2), .val (.int a3), .val (.int xv), .val (.int n), .val (.ref b1), .unset, .unset, .unset, .unset] [(.ref b1)])) rfl (by rw [hml]; rfl) (Steps.refl _) (argsL := []) (rest := []) (lenOf pd_4 rfl) rfl (by show 2 * 0 + _ ≤ _; exact Nat.le_of_eq rfl) (hb hby at_17) (fun _ _ => ⟨rfl, rfl, (by decide : 2 + 0 ≤ _), (by decide : 18 + 0 ≤ _)⟩)
  dsimp only [Pt.U, Pt.locs, Pt.cells, Pt.slots] at X4 l4 y4 z4 st4 hQ4
  subst l4 y4 z4
  obtain ⟨rfl, N4q, e4⟩ := hQ4
  have N4 := Fr.app N3 N4q
  have hd5 : (1 : Int32) = (1 : Int32) := rfl
  obtain ⟨cq6, kq6, q6a, q6b, q6c⟩ := isOf hZ e4 E3_b1
  obtain ⟨_, _, ⟨T6, L6, k6, n6⟩, -, X6, ⟨Lc6, hQ6, l6, y6, z6⟩, st6⟩ := X4.virtualBack hx (y := (⟨"com/example/unraveling/unraveling/graph/IntList", "get", "(I)I"⟩ : MethodName)) (z := (⟨"com/example/unraveling/unraveling/graph/IntList", "get", "(I)I"⟩ : MethodName)) hown (mvT hZ (hw _ (List.mem_of_getElem? (i := 24) rfl))) (mvT hZ (hw _ (List.mem_of_getElem? (i := 25) rfl))) (notFace_of_selects (args := #[]) (mvT hZ (hw _ (List.mem_of_getElem? (i := 27) rfl)))) (mvT hZ (hw _ (List.mem_of_getElem? (i := 27) rfl))) (mvT hZ (hw _ (List.mem_of_getElem? (i := 26) rfl))) (by decide) (backOf (W := 0) (rmGet l Z a0 hw [] b1 (0 : Int32) va2 cc2 (16 : Int32) a1 [(.int a1), (.int (0 : Int32)), (.int (0 : Int32)), (.int (0 : Int32)), (.int (0 : Int32)), (.int (0 : Int32)), (.int (0 : Int32)), (.int (0 : Int32)), (.int (0 : Int32)), (.int (0 : Int32)), (.int (0 : Int32)), (.int (0 : Int32)), (.int (0 : Int32)), (.int (0 : Int32)), (.int (0 : Int32)), (.int (0 : Int32))] T3.heap n0 Fv3 Va3 (by decide) (by decide) rfl) hZ (hw _ (List.mem_of_getElem? (i := 28) rfl)) (hw _ (List.mem_of_getElem? (i := 2) rfl)) (by decide) (by decide)) q6a q6c (g := (mkF m 27 #[.val (.int a1), .val (.int a2), .val (.int a3), .val (.int xv), .val (.int n), .val (.ref b1), .unset, .unset, .unset, .unset] [(.int (0 : Int32)), (.ref b1)])) rfl (by rw [hml]; rfl) (Steps.refl _) (argsL := [(.int (0 : Int32))]) (rest := []) (lenOf pd_5 rfl) rfl (by show 2 * 0 + _ ≤ _; exact Nat.le_of_eq rfl) (hb hby at_27) (fun _ _ => ⟨rfl, e4, (by decide : 2 + 0 ≤ _), (by decide : 18 + 0 ≤ _)⟩)
  dsimp only [Pt.U, Pt.locs, Pt.cells, Pt.slots] at X6 l6 y6 z6 st6 hQ6
  subst l6 y6 z6
  obtain ⟨rfl, N6q, e6⟩ := hQ6
  have N6 := Fr.app N4 N6q
  have hd7 : a1 = a1 := rfl
  obtain ⟨cq8, kq8, q8a, q8b, q8c⟩ := isOf hZ e6 E3_b1
  obtain ⟨_, _, ⟨T8, L8, k8, n8⟩, -, X8, ⟨Lc8, hQ8, l8, y8, z8⟩, st8⟩ := X6.virtualBack hx (y := (⟨"com/example/unraveling/unraveling/graph/IntList", "add", "(I)V"⟩ : MethodName)) (z := (⟨"com/example/unraveling/unraveling/graph/IntList", "add", "(I)V"⟩ : MethodName)) hown (mvT hZ (hw _ (List.mem_of_getElem? (i := 12) rfl))) (mvT hZ (hw _ (List.mem_of_getElem? (i := 13) rfl))) (notFace_of_selects (args := #[]) (mvT hZ (hw _ (List.mem_of_getElem? (i := 15) rfl)))) (mvT hZ (hw _ (List.mem_of_getElem? (i := 15) rfl))) (mvT hZ (hw _ (List.mem_of_getElem? (i := 14) rfl))) (by decide) (backOf (W := 0) (rmAdd l Z a0 hw [] b1 a2 va2 cc2 (1 : Int32) (2 : Int32) [(.int a1), (.int (0 : Int32)), (.int (0 : Int32)), (.int (0 : Int32)), (.int (0 : Int32)), (.int (0 : Int32)), (.int (0 : Int32)), (.int (0 : Int32)), (.int (0 : Int32)), (.int (0 : Int32)), (.int (0 : Int32)), (.int (0 : Int32)), (.int (0 : Int32)), (.int (0 : Int32)), (.int (0 : Int32)), (.int (0 : Int32))] 1 T3.heap n0 Z3 E3_b1 Fv3 Fs3 Va3 ne_b1_va2 g_b1 g_va2 (by decide) (by decide) (by decide) (Nat.le_of_ble_eq_true rfl) (by decide)) hZ (hw _ (List.mem_of_getElem? (i := 16) rfl)) (hw _ (List.mem_of_getElem? (i := 2) rfl)) (by decide) (by decide)) q8a q8c (g := (mkF m 44 #[.val (.int a1), .val (.int a2), .val (.int a3), .val (.int xv), .val (.int n), .val (.ref b1), .val (.int (1 : Int32)), .unset, .unset, .unset] [(.int a2), (.ref b1)])) rfl (by rw [hml]; rfl) (Steps.refl _) (argsL := [(.int a2)]) (rest := []) (lenOf pd_2 rfl) rfl (by show 2 * 0 + _ ≤ _; exact Nat.le_of_eq rfl) (hb hby at_44) (fun _ _ => ⟨rfl, e6, (by decide : 2 + 0 ≤ _), (by decide : 18 + 0 ≤ _)⟩)
  dsimp only [Pt.U, Pt.locs, Pt.cells, Pt.slots] at X8 l8 y8 z8 st8 hQ8
  subst l8 y8 z8
  obtain ⟨rfl, N8q, K8, Fv8, Fs8, Vq8⟩ := hQ8
  have N8 := Fr.app N6 N8q
  have Va8 : Arv Z T8.heap va2 cc2 .int (16 : Int32) [(.int a1), (.int a2), (.int (0 : Int32)), (.int (0 : Int32)), (.int (0 : Int32)), (.int (0 : Int32)), (.int (0 : Int32)), (.int (0 : Int32)), (.int (0 : Int32)), (.int (0 : Int32)), (.int (0 : Int32)), (.int (0 : Int32)), (.int (0 : Int32)), (.int (0 : Int32)), (.int (0 : Int32)), (.int (0 : Int32))] (.int (0 : Int32)) := Vq8
  have E8_b1 := E3_b1.keep K8
  have Z8 := Nat.le_trans Z3 K8.1
  have KP8 := KP3.trans K8 (allS (Or.inr sz_b1) (allS (Or.inr sz_va2) all0))
  have k9 : ∀ tg, Steps p.tables e below (T8.setTop (mkF m 47 #[.val (.int a1), .val (.int a2), .val (.int a3), .val (.int xv), .val (.int n), .val (.ref b1), .val (.int (1 : Int32)), .unset, .unset, .unset] [])) tg → Steps p.tables e below (s₁.setTop (entryFrame m #[(.int a1), (.int a2), (.int a3), (.int xv), (.int n)] maxLocals)) tg := by
    intro tg kt
    refine k0 tg ?_
    show Steps p.tables e below (s₁.setTop (mkF m 0 #[.val (.int a1), .val (.int a2), .val (.int a3), .val (.int xv), .val (.int n), .unset, .unset, .unset, .unset, .unset] [])) _
    refine st1 _ ?_
    show Steps p.tables e below (T1.setTop (mkF m 3 #[.val (.int a1), .val (.int a2), .val (.int a3), .val (.int xv), .val (.int n), .unset, .unset, .unset, .unset, .unset] [(.ref b1)])) _
    refine XS.dup X1.here hx rfl (hb hby at_3) rfl rfl ?_
    show Steps p.tables e below (T1.setTop (mkF m 4 #[.val (.int a1), .val (.int a2), .val (.int a3), .val (.int xv), .val (.int n), .unset, .unset, .unset, .unset, .unset] [(.ref b1), (.ref b1)])) _
    refine st2.trans ?_
    show Steps p.tables e below (T2.setTop (mkF m 7 #[.val (.int a1), .val (.int a2), .val (.int a3), .val (.int xv), .val (.int n), .unset, .unset, .unset, .unset, .unset] [(.ref b1)])) _
    refine XS.astore X2.here hx rfl (hb hby at_7) rfl rfl (l' := #[.val (.int a1), .val (.int a2), .val (.int a3), .val (.int xv), .val (.int n), .val (.ref b1), .unset, .unset, .unset, .unset]) rfl ?_
    show Steps p.tables e below (T2.setTop (mkF m 9 #[.val (.int a1), .val (.int a2), .val (.int a3), .val (.int xv), .val (.int n), .val (.ref b1), .unset, .unset, .unset, .unset] [])) _
    refine XS.aload X2.here hx rfl (hb hby at_9) rfl rfl ?_
    show Steps p.tables e below (T2.setTop (mkF m 11 #[.val (.int a1), .val (.int a2), .val (.int a3), .val (.int xv), .val (.int n), .val (.ref b1), .unset, .unset, .unset, .unset] [(.ref b1)])) _
    refine XS.iloadN X2.here hx rfl (hb hby at_11) rfl ?_
    show Steps p.tables e below (T2.setTop (mkF m 12 #[.val (.int a1), .val (.int a2), .val (.int a3), .val (.int xv), .val (.int n), .val (.ref b1), .unset, .unset, .unset, .unset] [(.int a1), (.ref b1)])) _
    refine st3.trans ?_
    show Steps p.tables e below (T3.setTop (mkF m 15 #[.val (.int a1), .val (.int a2), .val (.int a3), .val (.int xv), .val (.int n), .val (.ref b1), .unset, .unset, .unset, .unset] [])) _
    refine XS.aload X3.here hx rfl (hb hby at_15) rfl rfl ?_
    show Steps p.tables e below (T3.setTop (mkF m 17 #[.val (.int a1), .val (.int a2), .val (.int a3), .val (.int xv), .val (.int n), .val (.ref b1), .unset, .unset, .unset, .unset] [(.ref b1)])) _
    refine st4.trans ?_
    show Steps p.tables e below (T4.setTop (mkF m 20 #[.val (.int a1), .val (.int a2), .val (.int a3), .val (.int xv), .val (.int n), .val (.ref b1), .unset, .unset, .unset, .unset] [(.int (1 : Int32))])) _
    refine XS.iconst X4.here hx rfl (hb hby at_20) ?_
    show Steps p.tables e below (T4.setTop (mkF m 21 #[.val (.int a1), .val (.int a2), .val (.int a3), .val (.int xv), .val (.int n), .val (.ref b1), .unset, .unset, .unset, .unset] [(.int (1 : Int32)), (.int (1 : Int32))])) _
    refine XS.icmpNo X4.here hx rfl (hb hby at_21) rfl (teq hd5).2 ?_
    show Steps p.tables e below (T4.setTop (mkF m 24 #[.val (.int a1), .val (.int a2), .val (.int a3), .val (.int xv), .val (.int n), .val (.ref b1), .unset, .unset, .unset, .unset] [])) _
    refine XS.aload X4.here hx rfl (hb hby at_24) rfl rfl ?_
    show Steps p.tables e below (T4.setTop (mkF m 26 #[.val (.int a1), .val (.int a2), .val (.int a3), .val (.int xv), .val (.int n), .val (.ref b1), .unset, .unset, .unset, .unset] [(.ref b1)])) _
    refine XS.iconst X4.here hx rfl (hb hby at_26) ?_
    show Steps p.tables e below (T4.setTop (mkF m 27 #[.val (.int a1), .val (.int a2), .val (.int a3), .val (.int xv), .val (.int n), .val (.ref b1), .unset, .unset, .unset, .unset] [(.int (0 : Int32)), (.ref b1)])) _
    refine st6.trans ?_
    show Steps p.tables e below (T6.setTop (mkF m 30 #[.val (.int a1), .val (.int a2), .val (.int a3), .val (.int xv), .val (.int n), .val (.ref b1), .unset, .unset, .unset, .unset] [(.int a1)])) _
    refine XS.iloadN X6.here hx rfl (hb hby at_30) rfl ?_
    show Steps p.tables e below (T6.setTop (mkF m 31 #[.val (.int a1), .val (.int a2), .val (.int a3), .val (.int xv), .val (.int n), .val (.ref b1), .unset, .unset, .unset, .unset] [(.int a1), (.int a1)])) _
    refine XS.icmpNo X6.here hx rfl (hb hby at_31) rfl (teq hd7).2 ?_
    show Steps p.tables e below (T6.setTop (mkF m 34 #[.val (.int a1), .val (.int a2), .val (.int a3), .val (.int xv), .val (.int n), .val (.ref b1), .unset, .unset, .unset, .unset] [])) _
    refine XS.iconst X6.here hx rfl (hb hby at_34) ?_
    show Steps p.tables e below (T6.setTop (mkF m 35 #[.val (.int a1), .val (.int a2), .val (.int a3), .val (.int xv), .val (.int n), .val (.ref b1), .unset, .unset, .unset, .unset] [(.int (1 : Int32))])) _
    refine XS.goto X6.here hx rfl (pc0 := 35) (pc' := 39) rfl (hb hby at_35) (by decide) (by decide) ?_
    show Steps p.tables e below (T6.setTop (mkF m 39 #[.val (.int a1), .val (.int a2), .val (.int a3), .val (.int xv), .val (.int n), .val (.ref b1), .unset, .unset, .unset, .unset] [(.int (1 : Int32))])) _
    refine XS.istore X6.here hx rfl (hb hby at_39) rfl (l' := #[.val (.int a1), .val (.int a2), .val (.int a3), .val (.int xv), .val (.int n), .val (.ref b1), .val (.int (1 : Int32)), .unset, .unset, .unset]) rfl ?_
    show Steps p.tables e below (T6.setTop (mkF m 41 #[.val (.int a1), .val (.int a2), .val (.int a3), .val (.int xv), .val (.int n), .val (.ref b1), .val (.int (1 : Int32)), .unset, .unset, .unset] [])) _
    refine XS.aload X6.here hx rfl (hb hby at_41) rfl rfl ?_
    show Steps p.tables e below (T6.setTop (mkF m 43 #[.val (.int a1), .val (.int a2), .val (.int a3), .val (.int xv), .val (.int n), .val (.ref b1), .val (.int (1 : Int32)), .unset, .unset, .unset] [(.ref b1)])) _
    refine XS.iloadN X6.here hx rfl (hb hby at_43) rfl ?_
    show Steps p.tables e below (T6.setTop (mkF m 44 #[.val (.int a1), .val (.int a2), .val (.int a3), .val (.int xv), .val (.int n), .val (.ref b1), .val (.int (1 : Int32)), .unset, .unset, .unset] [(.int a2), (.ref b1)])) _
    refine st8.trans ?_
    show Steps p.tables e below (T8.setTop (mkF m 47 #[.val (.int a1), .val (.int a2), .val (.int a3), .val (.int xv), .val (.int n), .val (.ref b1), .val (.int (1 : Int32)), .unset, .unset, .unset] [])) _
    exact kt
  by_cases hn : (n &&& (1 : Int32)) = (0 : Int32)
  · have hd10 : (n &&& (1 : Int32)) = (0 : Int32) := hn
    have hd11 : (0 : Int32) = (0 : Int32) := rfl
    have hd12 : (0 : Int32) = (0 : Int32) := rfl
    have hd13 : ¬ ((1 : Int32) = (0 : Int32)) := by decide
    obtain ⟨cq14, kq14, q14a, q14b, q14c⟩ := isOf hZ rfl E8_b1
    obtain ⟨_, _, ⟨T14, L14, k14, n14⟩, -, X14, ⟨Lc14, hQ14, l14, y14, z14⟩, st14⟩ := X8.virtualBack hx (y := (⟨"com/example/unraveling/unraveling/graph/IntList", "size", "()I"⟩ : MethodName)) (z := (⟨"com/example/unraveling/unraveling/graph/IntList", "size", "()I"⟩ : MethodName)) hown (mvT hZ (hw _ (List.mem_of_getElem? (i := 19) rfl))) (mvT hZ (hw _ (List.mem_of_getElem? (i := 20) rfl))) (notFace_of_selects (args := #[]) (mvT hZ (hw _ (List.mem_of_getElem? (i := 22) rfl)))) (mvT hZ (hw _ (List.mem_of_getElem? (i := 22) rfl))) (mvT hZ (hw _ (List.mem_of_getElem? (i := 21) rfl))) (by decide) (backOf (W := 0) (rmSize l Z a0 hw [] b1 (2 : Int32) T8.heap n0 Fs8) hZ (hw _ (List.mem_of_getElem? (i := 23) rfl)) (hw _ (List.mem_of_getElem? (i := 2) rfl)) (by decide) (by decide)) q14a q14c (g := (mkF m 127 #[.val (.int a1), .val (.int a2), .val (.int a3), .val (.int xv), .val (.int n), .val (.ref b1), .val (.int (1 : Int32)), .val (.int (0 : Int32)), .val (.int (2 : Int32)), .unset] [(.ref b1)])) rfl (by rw [hml]; rfl) (Steps.refl _) (argsL := []) (rest := []) (lenOf pd_4 rfl) rfl (by show 2 * 0 + _ ≤ _; exact Nat.le_of_eq rfl) (hb hby at_127) (fun _ _ => ⟨rfl, rfl, (by decide : 2 + 0 ≤ _), (by decide : 18 + 0 ≤ _)⟩)
    dsimp only [Pt.U, Pt.locs, Pt.cells, Pt.slots] at X14 l14 y14 z14 st14 hQ14
    subst l14 y14 z14
    obtain ⟨rfl, N14q, e14⟩ := hQ14
    have N14 := Fr.app N8 N14q
    have hd15 : (2 : Int32) = (2 : Int32) := rfl
    have hd16 : ¬ ((1 : Int32) = (0 : Int32)) := by decide
    obtain ⟨cq17, kq17, q17a, q17b, q17c⟩ := isOf hZ e14 E8_b1
    obtain ⟨_, _, ⟨T17, L17, k17, n17⟩, -, X17, ⟨Lc17, hQ17, l17, y17, z17⟩, st17⟩ := X14.virtualBack hx (y := (⟨"com/example/unraveling/unraveling/graph/IntList", "add", "(I)V"⟩ : MethodName)) (z := (⟨"com/example/unraveling/unraveling/graph/IntList", "add", "(I)V"⟩ : MethodName)) hown (mvT hZ (hw _ (List.mem_of_getElem? (i := 12) rfl))) (mvT hZ (hw _ (List.mem_of_getElem? (i := 13) rfl))) (notFace_of_selects (args := #[]) (mvT hZ (hw _ (List.mem_of_getElem? (i := 15) rfl)))) (mvT hZ (hw _ (List.mem_of_getElem? (i := 15) rfl))) (mvT hZ (hw _ (List.mem_of_getElem? (i := 14) rfl))) (by decide) (backOf (W := 0) (rmAdd l Z a0 hw [] b1 a3 va2 cc2 (2 : Int32) (3 : Int32) [(.int a1), (.int a2), (.int (0 : Int32)), (.int (0 : Int32)), (.int (0 : Int32)), (.int (0 : Int32)), (.int (0 : Int32)), (.int (0 : Int32)), (.int (0 : Int32)), (.int (0 : Int32)), (.int (0 : Int32)), (.int (0 : Int32)), (.int (0 : Int32)), (.int (0 : Int32)), (.int (0 : Int32)), (.int (0 : Int32))] 2 T8.heap n0 Z8 E8_b1 Fv8 Fs8 Va8 ne_b1_va2 g_b1 g_va2 (by decide) (by decide) (by decide) (Nat.le_of_ble_eq_true rfl) (by decide)) hZ (hw _ (List.mem_of_getElem? (i := 16) rfl)) (hw _ (List.mem_of_getElem? (i := 2) rfl)) (by decide) (by decide)) q17a q17c (g := (mkF m 152 #[.val (.int a1), .val (.int a2), .val (.int a3), .val (.int xv), .val (.int n), .val (.ref b1), .val (.int (1 : Int32)), .val (.int (0 : Int32)), .val (.int (2 : Int32)), .unset] [(.int a3), (.ref b1)])) rfl (by rw [hml]; rfl) (Steps.refl _) (argsL := [(.int a3)]) (rest := []) (lenOf pd_2 rfl) rfl (by show 2 * 0 + _ ≤ _; exact Nat.le_of_eq rfl) (hb hby at_152) (fun _ _ => ⟨rfl, e14, (by decide : 2 + 0 ≤ _), (by decide : 18 + 0 ≤ _)⟩)
    dsimp only [Pt.U, Pt.locs, Pt.cells, Pt.slots] at X17 l17 y17 z17 st17 hQ17
    subst l17 y17 z17
    obtain ⟨rfl, N17q, K17, Fv17, Fs17, Vq17⟩ := hQ17
    have N17 := Fr.app N14 N17q
    have Va17 : Arv Z T17.heap va2 cc2 .int (16 : Int32) [(.int a1), (.int a2), (.int a3), (.int (0 : Int32)), (.int (0 : Int32)), (.int (0 : Int32)), (.int (0 : Int32)), (.int (0 : Int32)), (.int (0 : Int32)), (.int (0 : Int32)), (.int (0 : Int32)), (.int (0 : Int32)), (.int (0 : Int32)), (.int (0 : Int32)), (.int (0 : Int32)), (.int (0 : Int32))] (.int (0 : Int32)) := Vq17
    have E17_b1 := E8_b1.keep K17
    have Z17 := Nat.le_trans Z8 K17.1
    have KP17 := KP8.trans K17 (allS (Or.inr sz_b1) (allS (Or.inr sz_va2) all0))
    obtain ⟨cq18, kq18, q18a, q18b, q18c⟩ := isOf hZ rfl E17_b1
    obtain ⟨_, _, ⟨T18, L18, k18, n18⟩, -, X18, ⟨Lc18, hQ18, l18, y18, z18⟩, st18⟩ := X17.virtualBack hx (y := (⟨"com/example/unraveling/unraveling/graph/IntList", "toArray", "()[I"⟩ : MethodName)) (z := (⟨"com/example/unraveling/unraveling/graph/IntList", "toArray", "()[I"⟩ : MethodName)) hown (mvT hZ (hw _ (List.mem_of_getElem? (i := 29) rfl))) (mvT hZ (hw _ (List.mem_of_getElem? (i := 30) rfl))) (notFace_of_selects (args := #[]) (mvT hZ (hw _ (List.mem_of_getElem? (i := 32) rfl)))) (mvT hZ (hw _ (List.mem_of_getElem? (i := 32) rfl))) (mvT hZ (hw _ (List.mem_of_getElem? (i := 31) rfl))) (by decide) (backOf (W := 0) (rmTo_16 l Z a0 hw [] b1 va2 cc2 (.int a1) (.int a2) (.int a3) (.int (0 : Int32)) (.int (0 : Int32)) (.int (0 : Int32)) (.int (0 : Int32)) (.int (0 : Int32)) (.int (0 : Int32)) (.int (0 : Int32)) (.int (0 : Int32)) (.int (0 : Int32)) (.int (0 : Int32)) (.int (0 : Int32)) (.int (0 : Int32)) (.int (0 : Int32)) T17.heap n0 Z17 Fv17 Fs17 Va17) hZ (hw _ (List.mem_of_getElem? (i := 33) rfl)) (hw _ (List.mem_of_getElem? (i := 2) rfl)) (by decide) (by decide)) q18a q18c (g := (mkF m 157 #[.val (.int a1), .val (.int a2), .val (.int a3), .val (.int xv), .val (.int n), .val (.ref b1), .val (.int (1 : Int32)), .val (.int (0 : Int32)), .val (.int (2 : Int32)), .unset] [(.ref b1)])) rfl (by rw [hml]; rfl) (Steps.refl _) (argsL := []) (rest := []) (lenOf pd_6 rfl) rfl (by show 2 * 0 + _ ≤ _; exact Nat.le_of_eq rfl) (hb hby at_157) (fun _ _ => ⟨rfl, rfl, (by decide : 2 + 1 ≤ _), (by decide : 18 + 3 ≤ _)⟩)
    dsimp only [Pt.U, Pt.locs, Pt.cells, Pt.slots] at X18 l18 y18 z18 st18 hQ18
    subst l18 y18 z18
    obtain ⟨N18q, K18, ar18, cc18, rfl, le18, Va18⟩ := hQ18
    have N18 := Fr.app N17 N18q
    have ne_b1_ar18 : b1 ≠ ar18 := Nat.ne_of_lt (Nat.lt_of_lt_of_le E17_b1.lt le18)
    have ne_va2_ar18 : va2 ≠ ar18 := Nat.ne_of_lt (Nat.lt_of_lt_of_le Va17.lt le18)
    have g_ar18 : n0 ≤ ar18 := Nat.le_trans Z17 le18
    have sz_ar18 : h0.size ≤ ar18 := Nat.le_trans KP17.1 le18
    have E18_b1 := E17_b1.keep K18
    have F18_b1_values := Fv17.keep K18 nin0
    have F18_b1_size := Fs17.keep K18 nin0
    have V18_va2 := Va17.keep K18 nin0
    have Z18 := Nat.le_trans Z17 K18.1
    have KP18 := KP17.trans K18 all0
    obtain ⟨cq19, kq19, q19a, q19b, q19c⟩ := isOf hZ rfl E18_b1
    obtain ⟨_, _, ⟨T19, L19, k19, n19⟩, -, X19, ⟨Lc19, hQ19, l19, y19, z19⟩, st19⟩ := X18.virtualBack hx (y := (⟨"com/example/unraveling/unraveling/graph/IntList", "size", "()I"⟩ : MethodName)) (z := (⟨"com/example/unraveling/unraveling/graph/IntList", "size", "()I"⟩ : MethodName)) hown (mvT hZ (hw _ (List.mem_of_getElem? (i := 19) rfl))) (mvT hZ (hw _ (List.mem_of_getElem? (i := 20) rfl))) (notFace_of_selects (args := #[]) (mvT hZ (hw _ (List.mem_of_getElem? (i := 22) rfl)))) (mvT hZ (hw _ (List.mem_of_getElem? (i := 22) rfl))) (mvT hZ (hw _ (List.mem_of_getElem? (i := 21) rfl))) (by decide) (backOf (W := 0) (rmSize l Z a0 hw [] b1 (3 : Int32) T18.heap n0 F18_b1_size) hZ (hw _ (List.mem_of_getElem? (i := 23) rfl)) (hw _ (List.mem_of_getElem? (i := 2) rfl)) (by decide) (by decide)) q19a q19c (g := (mkF m 164 #[.val (.int a1), .val (.int a2), .val (.int a3), .val (.int xv), .val (.int n), .val (.ref b1), .val (.int (1 : Int32)), .val (.int (0 : Int32)), .val (.int (2 : Int32)), .val (.ref ar18)] [(.ref b1)])) rfl (by rw [hml]; rfl) (Steps.refl _) (argsL := []) (rest := []) (lenOf pd_4 rfl) rfl (by show 2 * 0 + _ ≤ _; exact Nat.le_of_eq rfl) (hb hby at_164) (fun _ _ => ⟨rfl, rfl, (by decide : 3 + 0 ≤ _), (by decide : 21 + 0 ≤ _)⟩)
    dsimp only [Pt.U, Pt.locs, Pt.cells, Pt.slots] at X19 l19 y19 z19 st19 hQ19
    subst l19 y19 z19
    obtain ⟨rfl, N19q, e19⟩ := hQ19
    have N19 := Fr.app N18 N19q
    have hd20 : (3 : Int32) = (3 : Int32) := rfl
    obtain ⟨cl176_21, Ar176_21, q176_21, S176_21, N176_21_, H176_21, G176_21⟩ := id Va18
    have hd22 : (3 : Int32) = (3 : Int32) := rfl
    obtain ⟨cq23, kq23, q23a, q23b, q23c⟩ := isOf hZ e19 E18_b1
    obtain ⟨_, _, ⟨T23, L23, k23, n23⟩, -, X23, ⟨Lc23, hQ23, l23, y23, z23⟩, st23⟩ := X19.virtualBack hx (y := (⟨"com/example/unraveling/unraveling/graph/IntList", "get", "(I)I"⟩ : MethodName)) (z := (⟨"com/example/unraveling/unraveling/graph/IntList", "get", "(I)I"⟩ : MethodName)) hown (mvT hZ (hw _ (List.mem_of_getElem? (i := 24) rfl))) (mvT hZ (hw _ (List.mem_of_getElem? (i := 25) rfl))) (notFace_of_selects (args := #[]) (mvT hZ (hw _ (List.mem_of_getElem? (i := 27) rfl)))) (mvT hZ (hw _ (List.mem_of_getElem? (i := 27) rfl))) (mvT hZ (hw _ (List.mem_of_getElem? (i := 26) rfl))) (by decide) (backOf (W := 0) (rmGet l Z a0 hw [] b1 (0 : Int32) va2 cc2 (16 : Int32) a1 [(.int a1), (.int a2), (.int a3), (.int (0 : Int32)), (.int (0 : Int32)), (.int (0 : Int32)), (.int (0 : Int32)), (.int (0 : Int32)), (.int (0 : Int32)), (.int (0 : Int32)), (.int (0 : Int32)), (.int (0 : Int32)), (.int (0 : Int32)), (.int (0 : Int32)), (.int (0 : Int32)), (.int (0 : Int32))] T18.heap n0 F18_b1_values V18_va2 (by decide) (by decide) rfl) hZ (hw _ (List.mem_of_getElem? (i := 28) rfl)) (hw _ (List.mem_of_getElem? (i := 2) rfl)) (by decide) (by decide)) q23a q23c (g := (mkF m 187 #[.val (.int a1), .val (.int a2), .val (.int a3), .val (.int xv), .val (.int n), .val (.ref b1), .val (.int (1 : Int32)), .val (.int (0 : Int32)), .val (.int (2 : Int32)), .val (.ref ar18)] [(.int (0 : Int32)), (.ref b1)])) rfl (by rw [hml]; rfl) (Steps.refl _) (argsL := [(.int (0 : Int32))]) (rest := []) (lenOf pd_5 rfl) rfl (by show 2 * 0 + _ ≤ _; exact Nat.le_of_eq rfl) (hb hby at_187) (fun _ _ => ⟨rfl, e19, (by decide : 3 + 0 ≤ _), (by decide : 21 + 0 ≤ _)⟩)
    dsimp only [Pt.U, Pt.locs, Pt.cells, Pt.slots] at X23 l23 y23 z23 st23 hQ23
    subst l23 y23 z23
    obtain ⟨rfl, N23q, e23⟩ := hQ23
    have N23 := Fr.app N19 N23q
    have hd24 : a1 = a1 := rfl
    obtain ⟨cq25, kq25, q25a, q25b, q25c⟩ := isOf hZ e23 E18_b1
    obtain ⟨_, _, ⟨T25, L25, k25, n25⟩, -, X25, ⟨Lc25, hQ25, l25, y25, z25⟩, st25⟩ := X23.virtualBack hx (y := (⟨"com/example/unraveling/unraveling/graph/IntList", "get", "(I)I"⟩ : MethodName)) (z := (⟨"com/example/unraveling/unraveling/graph/IntList", "get", "(I)I"⟩ : MethodName)) hown (mvT hZ (hw _ (List.mem_of_getElem? (i := 24) rfl))) (mvT hZ (hw _ (List.mem_of_getElem? (i := 25) rfl))) (notFace_of_selects (args := #[]) (mvT hZ (hw _ (List.mem_of_getElem? (i := 27) rfl)))) (mvT hZ (hw _ (List.mem_of_getElem? (i := 27) rfl))) (mvT hZ (hw _ (List.mem_of_getElem? (i := 26) rfl))) (by decide) (backOf (W := 0) (rmGet l Z a0 hw [] b1 (1 : Int32) va2 cc2 (16 : Int32) a2 [(.int a1), (.int a2), (.int a3), (.int (0 : Int32)), (.int (0 : Int32)), (.int (0 : Int32)), (.int (0 : Int32)), (.int (0 : Int32)), (.int (0 : Int32)), (.int (0 : Int32)), (.int (0 : Int32)), (.int (0 : Int32)), (.int (0 : Int32)), (.int (0 : Int32)), (.int (0 : Int32)), (.int (0 : Int32))] T18.heap n0 F18_b1_values V18_va2 (by decide) (by decide) rfl) hZ (hw _ (List.mem_of_getElem? (i := 28) rfl)) (hw _ (List.mem_of_getElem? (i := 2) rfl)) (by decide) (by decide)) q25a q25c (g := (mkF m 197 #[.val (.int a1), .val (.int a2), .val (.int a3), .val (.int xv), .val (.int n), .val (.ref b1), .val (.int (1 : Int32)), .val (.int (0 : Int32)), .val (.int (2 : Int32)), .val (.ref ar18)] [(.int (1 : Int32)), (.ref b1)])) rfl (by rw [hml]; rfl) (Steps.refl _) (argsL := [(.int (1 : Int32))]) (rest := []) (lenOf pd_5 rfl) rfl (by show 2 * 0 + _ ≤ _; exact Nat.le_of_eq rfl) (hb hby at_197) (fun _ _ => ⟨rfl, e23, (by decide : 3 + 0 ≤ _), (by decide : 21 + 0 ≤ _)⟩)
    dsimp only [Pt.U, Pt.locs, Pt.cells, Pt.slots] at X25 l25 y25 z25 st25 hQ25
    subst l25 y25 z25
    obtain ⟨rfl, N25q, e25⟩ := hQ25
    have N25 := Fr.app N23 N25q
    have hd26 : a2 = a2 := rfl
    obtain ⟨cq27, kq27, q27a, q27b, q27c⟩ := isOf hZ e25 E18_b1
    obtain ⟨_, _, ⟨T27, L27, k27, n27⟩, -, X27, ⟨Lc27, hQ27, l27, y27, z27⟩, st27⟩ := X25.virtualBack hx (y := (⟨"com/example/unraveling/unraveling/graph/IntList", "get", "(I)I"⟩ : MethodName)) (z := (⟨"com/example/unraveling/unraveling/graph/IntList", "get", "(I)I"⟩ : MethodName)) hown (mvT hZ (hw _ (List.mem_of_getElem? (i := 24) rfl))) (mvT hZ (hw _ (List.mem_of_getElem? (i := 25) rfl))) (notFace_of_selects (args := #[]) (mvT hZ (hw _ (List.mem_of_getElem? (i := 27) rfl)))) (mvT hZ (hw _ (List.mem_of_getElem? (i := 27) rfl))) (mvT hZ (hw _ (List.mem_of_getElem? (i := 26) rfl))) (by decide) (backOf (W := 0) (rmGet l Z a0 hw [] b1 (2 : Int32) va2 cc2 (16 : Int32) a3 [(.int a1), (.int a2), (.int a3), (.int (0 : Int32)), (.int (0 : Int32)), (.int (0 : Int32)), (.int (0 : Int32)), (.int (0 : Int32)), (.int (0 : Int32)), (.int (0 : Int32)), (.int (0 : Int32)), (.int (0 : Int32)), (.int (0 : Int32)), (.int (0 : Int32)), (.int (0 : Int32)), (.int (0 : Int32))] T18.heap n0 F18_b1_values V18_va2 (by decide) (by decide) rfl) hZ (hw _ (List.mem_of_getElem? (i := 28) rfl)) (hw _ (List.mem_of_getElem? (i := 2) rfl)) (by decide) (by decide)) q27a q27c (g := (mkF m 208 #[.val (.int a1), .val (.int a2), .val (.int a3), .val (.int xv), .val (.int n), .val (.ref b1), .val (.int (1 : Int32)), .val (.int (0 : Int32)), .val (.int (2 : Int32)), .val (.ref ar18)] [(.int (2 : Int32)), (.ref b1)])) rfl (by rw [hml]; rfl) (Steps.refl _) (argsL := [(.int (2 : Int32))]) (rest := []) (lenOf pd_5 rfl) rfl (by show 2 * 0 + _ ≤ _; exact Nat.le_of_eq rfl) (hb hby at_208) (fun _ _ => ⟨rfl, e25, (by decide : 3 + 0 ≤ _), (by decide : 21 + 0 ≤ _)⟩)
    dsimp only [Pt.U, Pt.locs, Pt.cells, Pt.slots] at X27 l27 y27 z27 st27 hQ27
    subst l27 y27 z27
    obtain ⟨rfl, N27q, e27⟩ := hQ27
    have N27 := Fr.app N25 N27q
    have hd28 : a3 = a3 := rfl
    obtain ⟨cl218_29, Ar218_29, q218_29, S218_29, N218_29_, H218_29, G218_29⟩ := id Va18
    have hin218_29 : ¬ ((0 : Int32) < 0 ∨ cl218_29.slots.size ≤ ((0 : Int32)).toNatClampNeg) := inb_of S218_29 ⟨by decide, by decide⟩
    have hat218_29 : cl218_29.slots[((0 : Int32)).toNatClampNeg]? = some (.int a1) := H218_29.at hin218_29 rfl
    have hd30 : a1 = a1 := rfl
    obtain ⟨cl226_31, Ar226_31, q226_31, S226_31, N226_31_, H226_31, G226_31⟩ := id Va18
    have hin226_31 : ¬ ((1 : Int32) < 0 ∨ cl226_31.slots.size ≤ ((1 : Int32)).toNatClampNeg) := inb_of S226_31 ⟨by decide, by decide⟩
    have hat226_31 : cl226_31.slots[((1 : Int32)).toNatClampNeg]? = some (.int a2) := H226_31.at hin226_31 rfl
    have hd32 : a2 = a2 := rfl
    obtain ⟨cl235_33, Ar235_33, q235_33, S235_33, N235_33_, H235_33, G235_33⟩ := id Va18
    have hin235_33 : ¬ ((2 : Int32) < 0 ∨ cl235_33.slots.size ≤ ((2 : Int32)).toNatClampNeg) := inb_of S235_33 ⟨by decide, by decide⟩
    have hat235_33 : cl235_33.slots[((2 : Int32)).toNatClampNeg]? = some (.int a3) := H235_33.at hin235_33 rfl
    have hd34 : a3 = a3 := rfl
    have hd35 : (0 : Int32) = (0 : Int32) := rfl
    have k36 : ∀ tg, Steps p.tables e below (T27.setTop (mkF m 324 #[.val (.int a1), .val (.int a2), .val (.int a3), .val (.int xv), .val (.int n), .val (.ref b1), .val (.int (1 : Int32)), .val (.int (0 : Int32)), .val (.int (2 : Int32)), .val (.ref ar18)] [(.int (1 : Int32))])) tg → Steps p.tables e below (s₁.setTop (entryFrame m #[(.int a1), (.int a2), (.int a3), (.int xv), (.int n)] maxLocals)) tg := by
      intro tg kt
      refine k9 tg ?_
      show Steps p.tables e below (T8.setTop (mkF m 47 #[.val (.int a1), .val (.int a2), .val (.int a3), .val (.int xv), .val (.int n), .val (.ref b1), .val (.int (1 : Int32)), .unset, .unset, .unset] [])) _
      refine XS.iload X8.here hx rfl (hb hby at_47) rfl ?_
      show Steps p.tables e below (T8.setTop (mkF m 49 #[.val (.int a1), .val (.int a2), .val (.int a3), .val (.int xv), .val (.int n), .val (.ref b1), .val (.int (1 : Int32)), .unset, .unset, .unset] [(.int n)])) _
      refine XS.iconst X8.here hx rfl (hb hby at_49) ?_
      show Steps p.tables e below (T8.setTop (mkF m 50 #[.val (.int a1), .val (.int a2), .val (.int a3), .val (.int xv), .val (.int n), .val (.ref b1), .val (.int (1 : Int32)), .unset, .unset, .unset] [(.int (1 : Int32)), (.int n)])) _
      refine XS.iand X8.here hx rfl (hb hby at_50) rfl ?_
      show Steps p.tables e below (T8.setTop (mkF m 51 #[.val (.int a1), .val (.int a2), .val (.int a3), .val (.int xv), .val (.int n), .val (.ref b1), .val (.int (1 : Int32)), .unset, .unset, .unset] [(.int (n &&& (1 : Int32)))])) _
      refine XS.ifYes X8.here hx rfl (pc0 := 51) (pc' := 58) rfl (hb hby at_51) rfl ((if0 _ _).trans (teq hd10).1) (by decide) (by decide) ?_
      show Steps p.tables e below (T8.setTop (mkF m 58 #[.val (.int a1), .val (.int a2), .val (.int a3), .val (.int xv), .val (.int n), .val (.ref b1), .val (.int (1 : Int32)), .unset, .unset, .unset] [])) _
      refine XS.iconst X8.here hx rfl (hb hby at_58) ?_
      show Steps p.tables e below (T8.setTop (mkF m 59 #[.val (.int a1), .val (.int a2), .val (.int a3), .val (.int xv), .val (.int n), .val (.ref b1), .val (.int (1 : Int32)), .unset, .unset, .unset] [(.int (0 : Int32))])) _
      refine XS.istore X8.here hx rfl (hb hby at_59) rfl (l' := #[.val (.int a1), .val (.int a2), .val (.int a3), .val (.int xv), .val (.int n), .val (.ref b1), .val (.int (1 : Int32)), .val (.int (0 : Int32)), .unset, .unset]) rfl ?_
      show Steps p.tables e below (T8.setTop (mkF m 61 #[.val (.int a1), .val (.int a2), .val (.int a3), .val (.int xv), .val (.int n), .val (.ref b1), .val (.int (1 : Int32)), .val (.int (0 : Int32)), .unset, .unset] [])) _
      refine XS.iload X8.here hx rfl (hb hby at_61) rfl ?_
      show Steps p.tables e below (T8.setTop (mkF m 63 #[.val (.int a1), .val (.int a2), .val (.int a3), .val (.int xv), .val (.int n), .val (.ref b1), .val (.int (1 : Int32)), .val (.int (0 : Int32)), .unset, .unset] [(.int (0 : Int32))])) _
      refine XS.ifYes X8.here hx rfl (pc0 := 63) (pc' := 107) rfl (hb hby at_63) rfl ((if0 _ _).trans (teq hd11).1) (by decide) (by decide) ?_
      show Steps p.tables e below (T8.setTop (mkF m 107 #[.val (.int a1), .val (.int a2), .val (.int a3), .val (.int xv), .val (.int n), .val (.ref b1), .val (.int (1 : Int32)), .val (.int (0 : Int32)), .unset, .unset] [])) _
      refine XS.iload X8.here hx rfl (hb hby at_107) rfl ?_
      show Steps p.tables e below (T8.setTop (mkF m 109 #[.val (.int a1), .val (.int a2), .val (.int a3), .val (.int xv), .val (.int n), .val (.ref b1), .val (.int (1 : Int32)), .val (.int (0 : Int32)), .unset, .unset] [(.int (0 : Int32))])) _
      refine XS.ifYes X8.here hx rfl (pc0 := 109) (pc' := 117) rfl (hb hby at_109) rfl ((if0 _ _).trans (teq hd12).1) (by decide) (by decide) ?_
      show Steps p.tables e below (T8.setTop (mkF m 117 #[.val (.int a1), .val (.int a2), .val (.int a3), .val (.int xv), .val (.int n), .val (.ref b1), .val (.int (1 : Int32)), .val (.int (0 : Int32)), .unset, .unset] [])) _
      refine XS.iconst X8.here hx rfl (hb hby at_117) ?_
      show Steps p.tables e below (T8.setTop (mkF m 118 #[.val (.int a1), .val (.int a2), .val (.int a3), .val (.int xv), .val (.int n), .val (.ref b1), .val (.int (1 : Int32)), .val (.int (0 : Int32)), .unset, .unset] [(.int (2 : Int32))])) _
      refine XS.istore X8.here hx rfl (hb hby at_118) rfl (l' := #[.val (.int a1), .val (.int a2), .val (.int a3), .val (.int xv), .val (.int n), .val (.ref b1), .val (.int (1 : Int32)), .val (.int (0 : Int32)), .val (.int (2 : Int32)), .unset]) rfl ?_
      show Steps p.tables e below (T8.setTop (mkF m 120 #[.val (.int a1), .val (.int a2), .val (.int a3), .val (.int xv), .val (.int n), .val (.ref b1), .val (.int (1 : Int32)), .val (.int (0 : Int32)), .val (.int (2 : Int32)), .unset] [])) _
      refine XS.iload X8.here hx rfl (hb hby at_120) rfl ?_
      show Steps p.tables e below (T8.setTop (mkF m 122 #[.val (.int a1), .val (.int a2), .val (.int a3), .val (.int xv), .val (.int n), .val (.ref b1), .val (.int (1 : Int32)), .val (.int (0 : Int32)), .val (.int (2 : Int32)), .unset] [(.int (1 : Int32))])) _
      refine XS.ifNo X8.here hx rfl (hb hby at_122) rfl ((if0 _ _).trans (feq hd13).1) ?_
      show Steps p.tables e below (T8.setTop (mkF m 125 #[.val (.int a1), .val (.int a2), .val (.int a3), .val (.int xv), .val (.int n), .val (.ref b1), .val (.int (1 : Int32)), .val (.int (0 : Int32)), .val (.int (2 : Int32)), .unset] [])) _
      refine XS.aload X8.here hx rfl (hb hby at_125) rfl rfl ?_
      show Steps p.tables e below (T8.setTop (mkF m 127 #[.val (.int a1), .val (.int a2), .val (.int a3), .val (.int xv), .val (.int n), .val (.ref b1), .val (.int (1 : Int32)), .val (.int (0 : Int32)), .val (.int (2 : Int32)), .unset] [(.ref b1)])) _
      refine st14.trans ?_
      show Steps p.tables e below (T14.setTop (mkF m 130 #[.val (.int a1), .val (.int a2), .val (.int a3), .val (.int xv), .val (.int n), .val (.ref b1), .val (.int (1 : Int32)), .val (.int (0 : Int32)), .val (.int (2 : Int32)), .unset] [(.int (2 : Int32))])) _
      refine XS.iload X14.here hx rfl (hb hby at_130) rfl ?_
      show Steps p.tables e below (T14.setTop (mkF m 132 #[.val (.int a1), .val (.int a2), .val (.int a3), .val (.int xv), .val (.int n), .val (.ref b1), .val (.int (1 : Int32)), .val (.int (0 : Int32)), .val (.int (2 : Int32)), .unset] [(.int (2 : Int32)), (.int (2 : Int32))])) _
      refine XS.icmpNo X14.here hx rfl (hb hby at_132) rfl (teq hd15).2 ?_
      show Steps p.tables e below (T14.setTop (mkF m 135 #[.val (.int a1), .val (.int a2), .val (.int a3), .val (.int xv), .val (.int n), .val (.ref b1), .val (.int (1 : Int32)), .val (.int (0 : Int32)), .val (.int (2 : Int32)), .unset] [])) _
      refine XS.iconst X14.here hx rfl (hb hby at_135) ?_
      show Steps p.tables e below (T14.setTop (mkF m 136 #[.val (.int a1), .val (.int a2), .val (.int a3), .val (.int xv), .val (.int n), .val (.ref b1), .val (.int (1 : Int32)), .val (.int (0 : Int32)), .val (.int (2 : Int32)), .unset] [(.int (1 : Int32))])) _
      refine XS.goto X14.here hx rfl (pc0 := 136) (pc' := 140) rfl (hb hby at_136) (by decide) (by decide) ?_
      show Steps p.tables e below (T14.setTop (mkF m 140 #[.val (.int a1), .val (.int a2), .val (.int a3), .val (.int xv), .val (.int n), .val (.ref b1), .val (.int (1 : Int32)), .val (.int (0 : Int32)), .val (.int (2 : Int32)), .unset] [(.int (1 : Int32))])) _
      refine XS.istore X14.here hx rfl (hb hby at_140) rfl (l' := #[.val (.int a1), .val (.int a2), .val (.int a3), .val (.int xv), .val (.int n), .val (.ref b1), .val (.int (1 : Int32)), .val (.int (0 : Int32)), .val (.int (2 : Int32)), .unset]) rfl ?_
      show Steps p.tables e below (T14.setTop (mkF m 142 #[.val (.int a1), .val (.int a2), .val (.int a3), .val (.int xv), .val (.int n), .val (.ref b1), .val (.int (1 : Int32)), .val (.int (0 : Int32)), .val (.int (2 : Int32)), .unset] [])) _
      refine XS.iload X14.here hx rfl (hb hby at_142) rfl ?_
      show Steps p.tables e below (T14.setTop (mkF m 144 #[.val (.int a1), .val (.int a2), .val (.int a3), .val (.int xv), .val (.int n), .val (.ref b1), .val (.int (1 : Int32)), .val (.int (0 : Int32)), .val (.int (2 : Int32)), .unset] [(.int (1 : Int32))])) _
      refine XS.ifYes X14.here hx rfl (pc0 := 144) (pc' := 149) rfl (hb hby at_144) rfl ((if0 _ _).trans (feq hd16).2) (by decide) (by decide) ?_
      show Steps p.tables e below (T14.setTop (mkF m 149 #[.val (.int a1), .val (.int a2), .val (.int a3), .val (.int xv), .val (.int n), .val (.ref b1), .val (.int (1 : Int32)), .val (.int (0 : Int32)), .val (.int (2 : Int32)), .unset] [])) _
      refine XS.aload X14.here hx rfl (hb hby at_149) rfl rfl ?_
      show Steps p.tables e below (T14.setTop (mkF m 151 #[.val (.int a1), .val (.int a2), .val (.int a3), .val (.int xv), .val (.int n), .val (.ref b1), .val (.int (1 : Int32)), .val (.int (0 : Int32)), .val (.int (2 : Int32)), .unset] [(.ref b1)])) _
      refine XS.iloadN X14.here hx rfl (hb hby at_151) rfl ?_
      show Steps p.tables e below (T14.setTop (mkF m 152 #[.val (.int a1), .val (.int a2), .val (.int a3), .val (.int xv), .val (.int n), .val (.ref b1), .val (.int (1 : Int32)), .val (.int (0 : Int32)), .val (.int (2 : Int32)), .unset] [(.int a3), (.ref b1)])) _
      refine st17.trans ?_
      show Steps p.tables e below (T17.setTop (mkF m 155 #[.val (.int a1), .val (.int a2), .val (.int a3), .val (.int xv), .val (.int n), .val (.ref b1), .val (.int (1 : Int32)), .val (.int (0 : Int32)), .val (.int (2 : Int32)), .unset] [])) _
      refine XS.aload X17.here hx rfl (hb hby at_155) rfl rfl ?_
      show Steps p.tables e below (T17.setTop (mkF m 157 #[.val (.int a1), .val (.int a2), .val (.int a3), .val (.int xv), .val (.int n), .val (.ref b1), .val (.int (1 : Int32)), .val (.int (0 : Int32)), .val (.int (2 : Int32)), .unset] [(.ref b1)])) _
      refine st18.trans ?_
      show Steps p.tables e below (T18.setTop (mkF m 160 #[.val (.int a1), .val (.int a2), .val (.int a3), .val (.int xv), .val (.int n), .val (.ref b1), .val (.int (1 : Int32)), .val (.int (0 : Int32)), .val (.int (2 : Int32)), .unset] [(.ref ar18)])) _
      refine XS.astore X18.here hx rfl (hb hby at_160) rfl rfl (l' := #[.val (.int a1), .val (.int a2), .val (.int a3), .val (.int xv), .val (.int n), .val (.ref b1), .val (.int (1 : Int32)), .val (.int (0 : Int32)), .val (.int (2 : Int32)), .val (.ref ar18)]) rfl ?_
      show Steps p.tables e below (T18.setTop (mkF m 162 #[.val (.int a1), .val (.int a2), .val (.int a3), .val (.int xv), .val (.int n), .val (.ref b1), .val (.int (1 : Int32)), .val (.int (0 : Int32)), .val (.int (2 : Int32)), .val (.ref ar18)] [])) _
      refine XS.aload X18.here hx rfl (hb hby at_162) rfl rfl ?_
      show Steps p.tables e below (T18.setTop (mkF m 164 #[.val (.int a1), .val (.int a2), .val (.int a3), .val (.int xv), .val (.int n), .val (.ref b1), .val (.int (1 : Int32)), .val (.int (0 : Int32)), .val (.int (2 : Int32)), .val (.ref ar18)] [(.ref b1)])) _
      refine st19.trans ?_
      show Steps p.tables e below (T19.setTop (mkF m 167 #[.val (.int a1), .val (.int a2), .val (.int a3), .val (.int xv), .val (.int n), .val (.ref b1), .val (.int (1 : Int32)), .val (.int (0 : Int32)), .val (.int (2 : Int32)), .val (.ref ar18)] [(.int (3 : Int32))])) _
      refine XS.iload X19.here hx rfl (hb hby at_167) rfl ?_
      show Steps p.tables e below (T19.setTop (mkF m 169 #[.val (.int a1), .val (.int a2), .val (.int a3), .val (.int xv), .val (.int n), .val (.ref b1), .val (.int (1 : Int32)), .val (.int (0 : Int32)), .val (.int (2 : Int32)), .val (.ref ar18)] [(.int (2 : Int32)), (.int (3 : Int32))])) _
      refine XS.iconst X19.here hx rfl (hb hby at_169) ?_
      show Steps p.tables e below (T19.setTop (mkF m 170 #[.val (.int a1), .val (.int a2), .val (.int a3), .val (.int xv), .val (.int n), .val (.ref b1), .val (.int (1 : Int32)), .val (.int (0 : Int32)), .val (.int (2 : Int32)), .val (.ref ar18)] [(.int (1 : Int32)), (.int (2 : Int32)), (.int (3 : Int32))])) _
      refine XS.iadd X19.here hx rfl (hb hby at_170) rfl ?_
      show Steps p.tables e below (T19.setTop (mkF m 171 #[.val (.int a1), .val (.int a2), .val (.int a3), .val (.int xv), .val (.int n), .val (.ref b1), .val (.int (1 : Int32)), .val (.int (0 : Int32)), .val (.int (2 : Int32)), .val (.ref ar18)] [(.int ((2 : Int32) + (1 : Int32))), (.int (3 : Int32))])) _
      rw [(by decide : (2 : Int32) + (1 : Int32) = (3 : Int32))]
      show Steps p.tables e below (T19.setTop (mkF m 171 #[.val (.int a1), .val (.int a2), .val (.int a3), .val (.int xv), .val (.int n), .val (.ref b1), .val (.int (1 : Int32)), .val (.int (0 : Int32)), .val (.int (2 : Int32)), .val (.ref ar18)] [(.int (3 : Int32)), (.int (3 : Int32))])) _
      refine XS.icmpNo X19.here hx rfl (hb hby at_171) rfl (teq hd20).2 ?_
      show Steps p.tables e below (T19.setTop (mkF m 174 #[.val (.int a1), .val (.int a2), .val (.int a3), .val (.int xv), .val (.int n), .val (.ref b1), .val (.int (1 : Int32)), .val (.int (0 : Int32)), .val (.int (2 : Int32)), .val (.ref ar18)] [])) _
      refine XS.aload X19.here hx rfl (hb hby at_174) rfl rfl ?_
      show Steps p.tables e below (T19.setTop (mkF m 176 #[.val (.int a1), .val (.int a2), .val (.int a3), .val (.int xv), .val (.int n), .val (.ref b1), .val (.int (1 : Int32)), .val (.int (0 : Int32)), .val (.int (2 : Int32)), .val (.ref ar18)] [(.ref ar18)])) _
      refine X19.arraylength hx (by rw [e19]; exact Ar176_21.1) (State.isArrayOf_alike hZ.alike Ar176_21.2.1) (g := (mkF m 176 #[.val (.int a1), .val (.int a2), .val (.int a3), .val (.int xv), .val (.int n), .val (.ref b1), .val (.int (1 : Int32)), .val (.int (0 : Int32)), .val (.int (2 : Int32)), .val (.ref ar18)] [(.ref ar18)])) rfl rfl (hb hby at_176) _ ?_
      rw [len_of S176_21 N176_21_]
      show Steps p.tables e below (T19.setTop (mkF m 177 #[.val (.int a1), .val (.int a2), .val (.int a3), .val (.int xv), .val (.int n), .val (.ref b1), .val (.int (1 : Int32)), .val (.int (0 : Int32)), .val (.int (2 : Int32)), .val (.ref ar18)] [(.int (3 : Int32))])) _
      refine XS.iload X19.here hx rfl (hb hby at_177) rfl ?_
      show Steps p.tables e below (T19.setTop (mkF m 179 #[.val (.int a1), .val (.int a2), .val (.int a3), .val (.int xv), .val (.int n), .val (.ref b1), .val (.int (1 : Int32)), .val (.int (0 : Int32)), .val (.int (2 : Int32)), .val (.ref ar18)] [(.int (2 : Int32)), (.int (3 : Int32))])) _
      refine XS.iconst X19.here hx rfl (hb hby at_179) ?_
      show Steps p.tables e below (T19.setTop (mkF m 180 #[.val (.int a1), .val (.int a2), .val (.int a3), .val (.int xv), .val (.int n), .val (.ref b1), .val (.int (1 : Int32)), .val (.int (0 : Int32)), .val (.int (2 : Int32)), .val (.ref ar18)] [(.int (1 : Int32)), (.int (2 : Int32)), (.int (3 : Int32))])) _
      refine XS.iadd X19.here hx rfl (hb hby at_180) rfl ?_
      show Steps p.tables e below (T19.setTop (mkF m 181 #[.val (.int a1), .val (.int a2), .val (.int a3), .val (.int xv), .val (.int n), .val (.ref b1), .val (.int (1 : Int32)), .val (.int (0 : Int32)), .val (.int (2 : Int32)), .val (.ref ar18)] [(.int ((2 : Int32) + (1 : Int32))), (.int (3 : Int32))])) _
      rw [(by decide : (2 : Int32) + (1 : Int32) = (3 : Int32))]
      show Steps p.tables e below (T19.setTop (mkF m 181 #[.val (.int a1), .val (.int a2), .val (.int a3), .val (.int xv), .val (.int n), .val (.ref b1), .val (.int (1 : Int32)), .val (.int (0 : Int32)), .val (.int (2 : Int32)), .val (.ref ar18)] [(.int (3 : Int32)), (.int (3 : Int32))])) _
      refine XS.icmpNo X19.here hx rfl (hb hby at_181) rfl (teq hd22).2 ?_
      show Steps p.tables e below (T19.setTop (mkF m 184 #[.val (.int a1), .val (.int a2), .val (.int a3), .val (.int xv), .val (.int n), .val (.ref b1), .val (.int (1 : Int32)), .val (.int (0 : Int32)), .val (.int (2 : Int32)), .val (.ref ar18)] [])) _
      refine XS.aload X19.here hx rfl (hb hby at_184) rfl rfl ?_
      show Steps p.tables e below (T19.setTop (mkF m 186 #[.val (.int a1), .val (.int a2), .val (.int a3), .val (.int xv), .val (.int n), .val (.ref b1), .val (.int (1 : Int32)), .val (.int (0 : Int32)), .val (.int (2 : Int32)), .val (.ref ar18)] [(.ref b1)])) _
      refine XS.iconst X19.here hx rfl (hb hby at_186) ?_
      show Steps p.tables e below (T19.setTop (mkF m 187 #[.val (.int a1), .val (.int a2), .val (.int a3), .val (.int xv), .val (.int n), .val (.ref b1), .val (.int (1 : Int32)), .val (.int (0 : Int32)), .val (.int (2 : Int32)), .val (.ref ar18)] [(.int (0 : Int32)), (.ref b1)])) _
      refine st23.trans ?_
      show Steps p.tables e below (T23.setTop (mkF m 190 #[.val (.int a1), .val (.int a2), .val (.int a3), .val (.int xv), .val (.int n), .val (.ref b1), .val (.int (1 : Int32)), .val (.int (0 : Int32)), .val (.int (2 : Int32)), .val (.ref ar18)] [(.int a1)])) _
      refine XS.iloadN X23.here hx rfl (hb hby at_190) rfl ?_
      show Steps p.tables e below (T23.setTop (mkF m 191 #[.val (.int a1), .val (.int a2), .val (.int a3), .val (.int xv), .val (.int n), .val (.ref b1), .val (.int (1 : Int32)), .val (.int (0 : Int32)), .val (.int (2 : Int32)), .val (.ref ar18)] [(.int a1), (.int a1)])) _
      refine XS.icmpNo X23.here hx rfl (hb hby at_191) rfl (teq hd24).2 ?_
      show Steps p.tables e below (T23.setTop (mkF m 194 #[.val (.int a1), .val (.int a2), .val (.int a3), .val (.int xv), .val (.int n), .val (.ref b1), .val (.int (1 : Int32)), .val (.int (0 : Int32)), .val (.int (2 : Int32)), .val (.ref ar18)] [])) _
      refine XS.aload X23.here hx rfl (hb hby at_194) rfl rfl ?_
      show Steps p.tables e below (T23.setTop (mkF m 196 #[.val (.int a1), .val (.int a2), .val (.int a3), .val (.int xv), .val (.int n), .val (.ref b1), .val (.int (1 : Int32)), .val (.int (0 : Int32)), .val (.int (2 : Int32)), .val (.ref ar18)] [(.ref b1)])) _
      refine XS.iconst X23.here hx rfl (hb hby at_196) ?_
      show Steps p.tables e below (T23.setTop (mkF m 197 #[.val (.int a1), .val (.int a2), .val (.int a3), .val (.int xv), .val (.int n), .val (.ref b1), .val (.int (1 : Int32)), .val (.int (0 : Int32)), .val (.int (2 : Int32)), .val (.ref ar18)] [(.int (1 : Int32)), (.ref b1)])) _
      refine st25.trans ?_
      show Steps p.tables e below (T25.setTop (mkF m 200 #[.val (.int a1), .val (.int a2), .val (.int a3), .val (.int xv), .val (.int n), .val (.ref b1), .val (.int (1 : Int32)), .val (.int (0 : Int32)), .val (.int (2 : Int32)), .val (.ref ar18)] [(.int a2)])) _
      refine XS.iloadN X25.here hx rfl (hb hby at_200) rfl ?_
      show Steps p.tables e below (T25.setTop (mkF m 201 #[.val (.int a1), .val (.int a2), .val (.int a3), .val (.int xv), .val (.int n), .val (.ref b1), .val (.int (1 : Int32)), .val (.int (0 : Int32)), .val (.int (2 : Int32)), .val (.ref ar18)] [(.int a2), (.int a2)])) _
      refine XS.icmpNo X25.here hx rfl (hb hby at_201) rfl (teq hd26).2 ?_
      show Steps p.tables e below (T25.setTop (mkF m 204 #[.val (.int a1), .val (.int a2), .val (.int a3), .val (.int xv), .val (.int n), .val (.ref b1), .val (.int (1 : Int32)), .val (.int (0 : Int32)), .val (.int (2 : Int32)), .val (.ref ar18)] [])) _
      refine XS.aload X25.here hx rfl (hb hby at_204) rfl rfl ?_
      show Steps p.tables e below (T25.setTop (mkF m 206 #[.val (.int a1), .val (.int a2), .val (.int a3), .val (.int xv), .val (.int n), .val (.ref b1), .val (.int (1 : Int32)), .val (.int (0 : Int32)), .val (.int (2 : Int32)), .val (.ref ar18)] [(.ref b1)])) _
      refine XS.iload X25.here hx rfl (hb hby at_206) rfl ?_
      show Steps p.tables e below (T25.setTop (mkF m 208 #[.val (.int a1), .val (.int a2), .val (.int a3), .val (.int xv), .val (.int n), .val (.ref b1), .val (.int (1 : Int32)), .val (.int (0 : Int32)), .val (.int (2 : Int32)), .val (.ref ar18)] [(.int (2 : Int32)), (.ref b1)])) _
      refine st27.trans ?_
      show Steps p.tables e below (T27.setTop (mkF m 211 #[.val (.int a1), .val (.int a2), .val (.int a3), .val (.int xv), .val (.int n), .val (.ref b1), .val (.int (1 : Int32)), .val (.int (0 : Int32)), .val (.int (2 : Int32)), .val (.ref ar18)] [(.int a3)])) _
      refine XS.iloadN X27.here hx rfl (hb hby at_211) rfl ?_
      show Steps p.tables e below (T27.setTop (mkF m 212 #[.val (.int a1), .val (.int a2), .val (.int a3), .val (.int xv), .val (.int n), .val (.ref b1), .val (.int (1 : Int32)), .val (.int (0 : Int32)), .val (.int (2 : Int32)), .val (.ref ar18)] [(.int a3), (.int a3)])) _
      refine XS.icmpNo X27.here hx rfl (hb hby at_212) rfl (teq hd28).2 ?_
      show Steps p.tables e below (T27.setTop (mkF m 215 #[.val (.int a1), .val (.int a2), .val (.int a3), .val (.int xv), .val (.int n), .val (.ref b1), .val (.int (1 : Int32)), .val (.int (0 : Int32)), .val (.int (2 : Int32)), .val (.ref ar18)] [])) _
      refine XS.aload X27.here hx rfl (hb hby at_215) rfl rfl ?_
      show Steps p.tables e below (T27.setTop (mkF m 217 #[.val (.int a1), .val (.int a2), .val (.int a3), .val (.int xv), .val (.int n), .val (.ref b1), .val (.int (1 : Int32)), .val (.int (0 : Int32)), .val (.int (2 : Int32)), .val (.ref ar18)] [(.ref ar18)])) _
      refine XS.iconst X27.here hx rfl (hb hby at_217) ?_
      show Steps p.tables e below (T27.setTop (mkF m 218 #[.val (.int a1), .val (.int a2), .val (.int a3), .val (.int xv), .val (.int n), .val (.ref b1), .val (.int (1 : Int32)), .val (.int (0 : Int32)), .val (.int (2 : Int32)), .val (.ref ar18)] [(.int (0 : Int32)), (.ref ar18)])) _
      refine X27.iaload hx (j := (0 : Int32)) (v := (.int a1)) (by rw [e27]; exact Ar218_29.1) (State.isArrayOf_alike hZ.alike Ar218_29.2.1) Ar218_29.2.2 hin218_29 hat218_29 (g := (mkF m 218 #[.val (.int a1), .val (.int a2), .val (.int a3), .val (.int xv), .val (.int n), .val (.ref b1), .val (.int (1 : Int32)), .val (.int (0 : Int32)), .val (.int (2 : Int32)), .val (.ref ar18)] [(.int (0 : Int32)), (.ref ar18)])) rfl rfl (hb hby at_218) _ ?_
      show Steps p.tables e below (T27.setTop (mkF m 219 #[.val (.int a1), .val (.int a2), .val (.int a3), .val (.int xv), .val (.int n), .val (.ref b1), .val (.int (1 : Int32)), .val (.int (0 : Int32)), .val (.int (2 : Int32)), .val (.ref ar18)] [(.int a1)])) _
      refine XS.iloadN X27.here hx rfl (hb hby at_219) rfl ?_
      show Steps p.tables e below (T27.setTop (mkF m 220 #[.val (.int a1), .val (.int a2), .val (.int a3), .val (.int xv), .val (.int n), .val (.ref b1), .val (.int (1 : Int32)), .val (.int (0 : Int32)), .val (.int (2 : Int32)), .val (.ref ar18)] [(.int a1), (.int a1)])) _
      refine XS.icmpNo X27.here hx rfl (hb hby at_220) rfl (teq hd30).2 ?_
      show Steps p.tables e below (T27.setTop (mkF m 223 #[.val (.int a1), .val (.int a2), .val (.int a3), .val (.int xv), .val (.int n), .val (.ref b1), .val (.int (1 : Int32)), .val (.int (0 : Int32)), .val (.int (2 : Int32)), .val (.ref ar18)] [])) _
      refine XS.aload X27.here hx rfl (hb hby at_223) rfl rfl ?_
      show Steps p.tables e below (T27.setTop (mkF m 225 #[.val (.int a1), .val (.int a2), .val (.int a3), .val (.int xv), .val (.int n), .val (.ref b1), .val (.int (1 : Int32)), .val (.int (0 : Int32)), .val (.int (2 : Int32)), .val (.ref ar18)] [(.ref ar18)])) _
      refine XS.iconst X27.here hx rfl (hb hby at_225) ?_
      show Steps p.tables e below (T27.setTop (mkF m 226 #[.val (.int a1), .val (.int a2), .val (.int a3), .val (.int xv), .val (.int n), .val (.ref b1), .val (.int (1 : Int32)), .val (.int (0 : Int32)), .val (.int (2 : Int32)), .val (.ref ar18)] [(.int (1 : Int32)), (.ref ar18)])) _
      refine X27.iaload hx (j := (1 : Int32)) (v := (.int a2)) (by rw [e27]; exact Ar226_31.1) (State.isArrayOf_alike hZ.alike Ar226_31.2.1) Ar226_31.2.2 hin226_31 hat226_31 (g := (mkF m 226 #[.val (.int a1), .val (.int a2), .val (.int a3), .val (.int xv), .val (.int n), .val (.ref b1), .val (.int (1 : Int32)), .val (.int (0 : Int32)), .val (.int (2 : Int32)), .val (.ref ar18)] [(.int (1 : Int32)), (.ref ar18)])) rfl rfl (hb hby at_226) _ ?_
      show Steps p.tables e below (T27.setTop (mkF m 227 #[.val (.int a1), .val (.int a2), .val (.int a3), .val (.int xv), .val (.int n), .val (.ref b1), .val (.int (1 : Int32)), .val (.int (0 : Int32)), .val (.int (2 : Int32)), .val (.ref ar18)] [(.int a2)])) _
      refine XS.iloadN X27.here hx rfl (hb hby at_227) rfl ?_
      show Steps p.tables e below (T27.setTop (mkF m 228 #[.val (.int a1), .val (.int a2), .val (.int a3), .val (.int xv), .val (.int n), .val (.ref b1), .val (.int (1 : Int32)), .val (.int (0 : Int32)), .val (.int (2 : Int32)), .val (.ref ar18)] [(.int a2), (.int a2)])) _
      refine XS.icmpNo X27.here hx rfl (hb hby at_228) rfl (teq hd32).2 ?_
      show Steps p.tables e below (T27.setTop (mkF m 231 #[.val (.int a1), .val (.int a2), .val (.int a3), .val (.int xv), .val (.int n), .val (.ref b1), .val (.int (1 : Int32)), .val (.int (0 : Int32)), .val (.int (2 : Int32)), .val (.ref ar18)] [])) _
      refine XS.aload X27.here hx rfl (hb hby at_231) rfl rfl ?_
      show Steps p.tables e below (T27.setTop (mkF m 233 #[.val (.int a1), .val (.int a2), .val (.int a3), .val (.int xv), .val (.int n), .val (.ref b1), .val (.int (1 : Int32)), .val (.int (0 : Int32)), .val (.int (2 : Int32)), .val (.ref ar18)] [(.ref ar18)])) _
      refine XS.iload X27.here hx rfl (hb hby at_233) rfl ?_
      show Steps p.tables e below (T27.setTop (mkF m 235 #[.val (.int a1), .val (.int a2), .val (.int a3), .val (.int xv), .val (.int n), .val (.ref b1), .val (.int (1 : Int32)), .val (.int (0 : Int32)), .val (.int (2 : Int32)), .val (.ref ar18)] [(.int (2 : Int32)), (.ref ar18)])) _
      refine X27.iaload hx (j := (2 : Int32)) (v := (.int a3)) (by rw [e27]; exact Ar235_33.1) (State.isArrayOf_alike hZ.alike Ar235_33.2.1) Ar235_33.2.2 hin235_33 hat235_33 (g := (mkF m 235 #[.val (.int a1), .val (.int a2), .val (.int a3), .val (.int xv), .val (.int n), .val (.ref b1), .val (.int (1 : Int32)), .val (.int (0 : Int32)), .val (.int (2 : Int32)), .val (.ref ar18)] [(.int (2 : Int32)), (.ref ar18)])) rfl rfl (hb hby at_235) _ ?_
      show Steps p.tables e below (T27.setTop (mkF m 236 #[.val (.int a1), .val (.int a2), .val (.int a3), .val (.int xv), .val (.int n), .val (.ref b1), .val (.int (1 : Int32)), .val (.int (0 : Int32)), .val (.int (2 : Int32)), .val (.ref ar18)] [(.int a3)])) _
      refine XS.iloadN X27.here hx rfl (hb hby at_236) rfl ?_
      show Steps p.tables e below (T27.setTop (mkF m 237 #[.val (.int a1), .val (.int a2), .val (.int a3), .val (.int xv), .val (.int n), .val (.ref b1), .val (.int (1 : Int32)), .val (.int (0 : Int32)), .val (.int (2 : Int32)), .val (.ref ar18)] [(.int a3), (.int a3)])) _
      refine XS.icmpNo X27.here hx rfl (hb hby at_237) rfl (teq hd34).2 ?_
      show Steps p.tables e below (T27.setTop (mkF m 240 #[.val (.int a1), .val (.int a2), .val (.int a3), .val (.int xv), .val (.int n), .val (.ref b1), .val (.int (1 : Int32)), .val (.int (0 : Int32)), .val (.int (2 : Int32)), .val (.ref ar18)] [])) _
      refine XS.iconst X27.here hx rfl (hb hby at_240) ?_
      show Steps p.tables e below (T27.setTop (mkF m 241 #[.val (.int a1), .val (.int a2), .val (.int a3), .val (.int xv), .val (.int n), .val (.ref b1), .val (.int (1 : Int32)), .val (.int (0 : Int32)), .val (.int (2 : Int32)), .val (.ref ar18)] [(.int (1 : Int32))])) _
      refine XS.goto X27.here hx rfl (pc0 := 241) (pc' := 245) rfl (hb hby at_241) (by decide) (by decide) ?_
      show Steps p.tables e below (T27.setTop (mkF m 245 #[.val (.int a1), .val (.int a2), .val (.int a3), .val (.int xv), .val (.int n), .val (.ref b1), .val (.int (1 : Int32)), .val (.int (0 : Int32)), .val (.int (2 : Int32)), .val (.ref ar18)] [(.int (1 : Int32))])) _
      refine XS.istore X27.here hx rfl (hb hby at_245) rfl (l' := #[.val (.int a1), .val (.int a2), .val (.int a3), .val (.int xv), .val (.int n), .val (.ref b1), .val (.int (1 : Int32)), .val (.int (0 : Int32)), .val (.int (2 : Int32)), .val (.ref ar18)]) rfl ?_
      show Steps p.tables e below (T27.setTop (mkF m 247 #[.val (.int a1), .val (.int a2), .val (.int a3), .val (.int xv), .val (.int n), .val (.ref b1), .val (.int (1 : Int32)), .val (.int (0 : Int32)), .val (.int (2 : Int32)), .val (.ref ar18)] [])) _
      refine XS.iload X27.here hx rfl (hb hby at_247) rfl ?_
      show Steps p.tables e below (T27.setTop (mkF m 249 #[.val (.int a1), .val (.int a2), .val (.int a3), .val (.int xv), .val (.int n), .val (.ref b1), .val (.int (1 : Int32)), .val (.int (0 : Int32)), .val (.int (2 : Int32)), .val (.ref ar18)] [(.int (0 : Int32))])) _
      refine XS.ifYes X27.here hx rfl (pc0 := 249) (pc' := 322) rfl (hb hby at_249) rfl ((if0 _ _).trans (teq hd35).1) (by decide) (by decide) ?_
      show Steps p.tables e below (T27.setTop (mkF m 322 #[.val (.int a1), .val (.int a2), .val (.int a3), .val (.int xv), .val (.int n), .val (.ref b1), .val (.int (1 : Int32)), .val (.int (0 : Int32)), .val (.int (2 : Int32)), .val (.ref ar18)] [])) _
      refine XS.iload X27.here hx rfl (hb hby at_322) rfl ?_
      show Steps p.tables e below (T27.setTop (mkF m 324 #[.val (.int a1), .val (.int a2), .val (.int a3), .val (.int xv), .val (.int n), .val (.ref b1), .val (.int (1 : Int32)), .val (.int (0 : Int32)), .val (.int (2 : Int32)), .val (.ref ar18)] [(.int (1 : Int32))])) _
      exact kt
    obtain ⟨fs, hr, hrun, hended, hW, hsame⟩ := X27.leave (v := some (.int (1 : Int32))) (fun h => by rw [Bd.returns] at h; cases h)
    refine ⟨_, _, k36 _ ?_, hrun, hended, _, _, rfl, ?_, ⟨_, rfl⟩, hW, hsame.mono (by decide) (by decide)⟩
    · exact retN X27 hx (t := .boolean) Bd.returns (by simp) (hb hby at_324) hr
    · show QL n0 _ T27.heap _
      exact ⟨rfl, N27⟩
  · have hd37 : ¬ ((n &&& (1 : Int32)) = (0 : Int32)) := hn
    have hd38 : ¬ ((1 : Int32) = (0 : Int32)) := by decide
    obtain ⟨_, _, ⟨T39, L39, k39, n39⟩, -, X39, ⟨Lc39, hQ39, l39, y39, z39⟩, st39⟩ := Jvm.LawKit.callS X8 hx (y := (⟨"com/example/unraveling/unraveling/graph/IntListAddPinLaw", "add4", "(Lcom/example/unraveling/unraveling/graph/IntList;I)V"⟩ : MethodName)) hown (mvT hZ (hw _ (List.mem_of_getElem? (i := 46) rfl))) (mvT hZ (hw _ (List.mem_of_getElem? (i := 47) rfl))) (mvT hZ (hw _ (List.mem_of_getElem? (i := 48) rfl))) (mvT hZ (hw _ (List.mem_of_getElem? (i := 49) rfl))) (by decide) (backOf (W := 0) (rmAdd4_2 l Z a0 hw [] b1 xv va2 cc2 (.int a1) (.int a2) (.int (0 : Int32)) (.int (0 : Int32)) (.int (0 : Int32)) (.int (0 : Int32)) (.int (0 : Int32)) (.int (0 : Int32)) (.int (0 : Int32)) (.int (0 : Int32)) (.int (0 : Int32)) (.int (0 : Int32)) (.int (0 : Int32)) (.int (0 : Int32)) (.int (0 : Int32)) (.int (0 : Int32)) T8.heap n0 Z8 E8_b1 Fv8 Fs8 Va8 ne_b1_va2 g_b1 g_va2) hZ (hw _ (List.mem_of_getElem? (i := 49) rfl)) (hw _ (List.mem_of_getElem? (i := 48) rfl)) (by decide) (by decide)) (g := (mkF m 69 #[.val (.int a1), .val (.int a2), .val (.int a3), .val (.int xv), .val (.int n), .val (.ref b1), .val (.int (1 : Int32)), .val (.int (1 : Int32)), .unset, .unset] [(.int xv), (.ref b1)])) rfl (by rw [hml]; rfl) (argsL := [(.ref b1), (.int xv)]) (rest := []) (lenOf pd_7 rfl) rfl (by show 2 * 0 + _ ≤ _; exact Nat.le_of_eq rfl) (hb hby at_69) (fun _ _ => ⟨rfl, rfl, (by decide : 2 + 0 ≤ _), (by decide : 18 + 0 ≤ _)⟩)
    dsimp only [Pt.U, Pt.locs, Pt.cells, Pt.slots] at X39 l39 y39 z39 st39 hQ39
    subst l39 y39 z39
    obtain ⟨rfl, N39q, K39, Fv39, Fs39, Va39⟩ := hQ39
    have N39 := Fr.app N8 N39q
    have E39_b1 := E8_b1.keep K39
    have Z39 := Nat.le_trans Z8 K39.1
    have KP39 := KP8.trans K39 (allS (Or.inr sz_b1) (allS (Or.inr sz_va2) all0))
    obtain ⟨_, _, ⟨T40, L40, k40, n40⟩, -, X40, ⟨Lc40, hQ40, l40, y40, z40⟩, st40⟩ := Jvm.LawKit.callS X39 hx (y := (⟨"com/example/unraveling/unraveling/graph/IntListAddPinLaw", "add4", "(Lcom/example/unraveling/unraveling/graph/IntList;I)V"⟩ : MethodName)) hown (mvT hZ (hw _ (List.mem_of_getElem? (i := 46) rfl))) (mvT hZ (hw _ (List.mem_of_getElem? (i := 47) rfl))) (mvT hZ (hw _ (List.mem_of_getElem? (i := 48) rfl))) (mvT hZ (hw _ (List.mem_of_getElem? (i := 49) rfl))) (by decide) (backOf (W := 0) (rmAdd4_6 l Z a0 hw [] b1 (xv + (4 : Int32)) va2 cc2 (.int a1) (.int a2) (.int xv) (.int (xv + (1 : Int32))) (.int (xv + (2 : Int32))) (.int (xv + (3 : Int32))) (.int (0 : Int32)) (.int (0 : Int32)) (.int (0 : Int32)) (.int (0 : Int32)) (.int (0 : Int32)) (.int (0 : Int32)) (.int (0 : Int32)) (.int (0 : Int32)) (.int (0 : Int32)) (.int (0 : Int32)) T39.heap n0 Z39 E39_b1 Fv39 Fs39 Va39 ne_b1_va2 g_b1 g_va2) hZ (hw _ (List.mem_of_getElem? (i := 49) rfl)) (hw _ (List.mem_of_getElem? (i := 48) rfl)) (by decide) (by decide)) (g := (mkF m 77 #[.val (.int a1), .val (.int a2), .val (.int a3), .val (.int xv), .val (.int n), .val (.ref b1), .val (.int (1 : Int32)), .val (.int (1 : Int32)), .unset, .unset] [(.int (xv + (4 : Int32))), (.ref b1)])) rfl (by rw [hml]; rfl) (argsL := [(.ref b1), (.int (xv + (4 : Int32)))]) (rest := []) (lenOf pd_7 rfl) rfl (by show 2 * 0 + _ ≤ _; exact Nat.le_of_eq rfl) (hb hby at_77) (fun _ _ => ⟨rfl, rfl, (by decide : 2 + 0 ≤ _), (by decide : 18 + 0 ≤ _)⟩)
    dsimp only [Pt.U, Pt.locs, Pt.cells, Pt.slots] at X40 l40 y40 z40 st40 hQ40
    subst l40 y40 z40
    obtain ⟨rfl, N40q, K40, Fv40, Fs40, Va40⟩ := hQ40
    have N40 := Fr.app N39 N40q
    have E40_b1 := E39_b1.keep K40
    have Z40 := Nat.le_trans Z39 K40.1
    have KP40 := KP39.trans K40 (allS (Or.inr sz_b1) (allS (Or.inr sz_va2) all0))
    obtain ⟨_, _, ⟨T41, L41, k41, n41⟩, -, X41, ⟨Lc41, hQ41, l41, y41, z41⟩, st41⟩ := Jvm.LawKit.callS X40 hx (y := (⟨"com/example/unraveling/unraveling/graph/IntListAddPinLaw", "add4", "(Lcom/example/unraveling/unraveling/graph/IntList;I)V"⟩ : MethodName)) hown (mvT hZ (hw _ (List.mem_of_getElem? (i := 46) rfl))) (mvT hZ (hw _ (List.mem_of_getElem? (i := 47) rfl))) (mvT hZ (hw _ (List.mem_of_getElem? (i := 48) rfl))) (mvT hZ (hw _ (List.mem_of_getElem? (i := 49) rfl))) (by decide) (backOf (W := 0) (rmAdd4_10 l Z a0 hw [] b1 (xv + (8 : Int32)) va2 cc2 (.int a1) (.int a2) (.int xv) (.int (xv + (1 : Int32))) (.int (xv + (2 : Int32))) (.int (xv + (3 : Int32))) (.int (xv + (4 : Int32))) (.int ((xv + (4 : Int32)) + (1 : Int32))) (.int ((xv + (4 : Int32)) + (2 : Int32))) (.int ((xv + (4 : Int32)) + (3 : Int32))) (.int (0 : Int32)) (.int (0 : Int32)) (.int (0 : Int32)) (.int (0 : Int32)) (.int (0 : Int32)) (.int (0 : Int32)) T40.heap n0 Z40 E40_b1 Fv40 Fs40 Va40 ne_b1_va2 g_b1 g_va2) hZ (hw _ (List.mem_of_getElem? (i := 49) rfl)) (hw _ (List.mem_of_getElem? (i := 48) rfl)) (by decide) (by decide)) (g := (mkF m 86 #[.val (.int a1), .val (.int a2), .val (.int a3), .val (.int xv), .val (.int n), .val (.ref b1), .val (.int (1 : Int32)), .val (.int (1 : Int32)), .unset, .unset] [(.int (xv + (8 : Int32))), (.ref b1)])) rfl (by rw [hml]; rfl) (argsL := [(.ref b1), (.int (xv + (8 : Int32)))]) (rest := []) (lenOf pd_7 rfl) rfl (by show 2 * 0 + _ ≤ _; exact Nat.le_of_eq rfl) (hb hby at_86) (fun _ _ => ⟨rfl, rfl, (by decide : 2 + 0 ≤ _), (by decide : 18 + 0 ≤ _)⟩)
    dsimp only [Pt.U, Pt.locs, Pt.cells, Pt.slots] at X41 l41 y41 z41 st41 hQ41
    subst l41 y41 z41
    obtain ⟨rfl, N41q, K41, Fv41, Fs41, Va41⟩ := hQ41
    have N41 := Fr.app N40 N41q
    have E41_b1 := E40_b1.keep K41
    have Z41 := Nat.le_trans Z40 K41.1
    have KP41 := KP40.trans K41 (allS (Or.inr sz_b1) (allS (Or.inr sz_va2) all0))
    obtain ⟨cq42, kq42, q42a, q42b, q42c⟩ := isOf hZ rfl E41_b1
    obtain ⟨_, _, ⟨T42, L42, k42, n42⟩, -, X42, ⟨Lc42, hQ42, l42, y42, z42⟩, st42⟩ := X41.virtualBack hx (y := (⟨"com/example/unraveling/unraveling/graph/IntList", "add", "(I)V"⟩ : MethodName)) (z := (⟨"com/example/unraveling/unraveling/graph/IntList", "add", "(I)V"⟩ : MethodName)) hown (mvT hZ (hw _ (List.mem_of_getElem? (i := 12) rfl))) (mvT hZ (hw _ (List.mem_of_getElem? (i := 13) rfl))) (notFace_of_selects (args := #[]) (mvT hZ (hw _ (List.mem_of_getElem? (i := 15) rfl)))) (mvT hZ (hw _ (List.mem_of_getElem? (i := 15) rfl))) (mvT hZ (hw _ (List.mem_of_getElem? (i := 14) rfl))) (by decide) (backOf (W := 0) (rmAdd l Z a0 hw [] b1 (xv + (12 : Int32)) va2 cc2 (14 : Int32) (15 : Int32) [(.int a1), (.int a2), (.int xv), (.int (xv + (1 : Int32))), (.int (xv + (2 : Int32))), (.int (xv + (3 : Int32))), (.int (xv + (4 : Int32))), (.int ((xv + (4 : Int32)) + (1 : Int32))), (.int ((xv + (4 : Int32)) + (2 : Int32))), (.int ((xv + (4 : Int32)) + (3 : Int32))), (.int (xv + (8 : Int32))), (.int ((xv + (8 : Int32)) + (1 : Int32))), (.int ((xv + (8 : Int32)) + (2 : Int32))), (.int ((xv + (8 : Int32)) + (3 : Int32))), (.int (0 : Int32)), (.int (0 : Int32))] 14 T41.heap n0 Z41 E41_b1 Fv41 Fs41 Va41 ne_b1_va2 g_b1 g_va2 (by decide) (by decide) (by decide) (Nat.le_of_ble_eq_true rfl) (by decide)) hZ (hw _ (List.mem_of_getElem? (i := 16) rfl)) (hw _ (List.mem_of_getElem? (i := 2) rfl)) (by decide) (by decide)) q42a q42c (g := (mkF m 95 #[.val (.int a1), .val (.int a2), .val (.int a3), .val (.int xv), .val (.int n), .val (.ref b1), .val (.int (1 : Int32)), .val (.int (1 : Int32)), .unset, .unset] [(.int (xv + (12 : Int32))), (.ref b1)])) rfl (by rw [hml]; rfl) (Steps.refl _) (argsL := [(.int (xv + (12 : Int32)))]) (rest := []) (lenOf pd_2 rfl) rfl (by show 2 * 0 + _ ≤ _; exact Nat.le_of_eq rfl) (hb hby at_95) (fun _ _ => ⟨rfl, rfl, (by decide : 2 + 0 ≤ _), (by decide : 18 + 0 ≤ _)⟩)
    dsimp only [Pt.U, Pt.locs, Pt.cells, Pt.slots] at X42 l42 y42 z42 st42 hQ42
    subst l42 y42 z42
    obtain ⟨rfl, N42q, K42, Fv42, Fs42, Vq42⟩ := hQ42
    have N42 := Fr.app N41 N42q
    have Va42 : Arv Z T42.heap va2 cc2 .int (16 : Int32) [(.int a1), (.int a2), (.int xv), (.int (xv + (1 : Int32))), (.int (xv + (2 : Int32))), (.int (xv + (3 : Int32))), (.int (xv + (4 : Int32))), (.int ((xv + (4 : Int32)) + (1 : Int32))), (.int ((xv + (4 : Int32)) + (2 : Int32))), (.int ((xv + (4 : Int32)) + (3 : Int32))), (.int (xv + (8 : Int32))), (.int ((xv + (8 : Int32)) + (1 : Int32))), (.int ((xv + (8 : Int32)) + (2 : Int32))), (.int ((xv + (8 : Int32)) + (3 : Int32))), (.int (xv + (12 : Int32))), (.int (0 : Int32))] (.int (0 : Int32)) := Vq42
    have E42_b1 := E41_b1.keep K42
    have Z42 := Nat.le_trans Z41 K42.1
    have KP42 := KP41.trans K42 (allS (Or.inr sz_b1) (allS (Or.inr sz_va2) all0))
    obtain ⟨cq43, kq43, q43a, q43b, q43c⟩ := isOf hZ rfl E42_b1
    obtain ⟨_, _, ⟨T43, L43, k43, n43⟩, -, X43, ⟨Lc43, hQ43, l43, y43, z43⟩, st43⟩ := X42.virtualBack hx (y := (⟨"com/example/unraveling/unraveling/graph/IntList", "add", "(I)V"⟩ : MethodName)) (z := (⟨"com/example/unraveling/unraveling/graph/IntList", "add", "(I)V"⟩ : MethodName)) hown (mvT hZ (hw _ (List.mem_of_getElem? (i := 12) rfl))) (mvT hZ (hw _ (List.mem_of_getElem? (i := 13) rfl))) (notFace_of_selects (args := #[]) (mvT hZ (hw _ (List.mem_of_getElem? (i := 15) rfl)))) (mvT hZ (hw _ (List.mem_of_getElem? (i := 15) rfl))) (mvT hZ (hw _ (List.mem_of_getElem? (i := 14) rfl))) (by decide) (backOf (W := 0) (rmAdd l Z a0 hw [] b1 (xv + (13 : Int32)) va2 cc2 (15 : Int32) (16 : Int32) [(.int a1), (.int a2), (.int xv), (.int (xv + (1 : Int32))), (.int (xv + (2 : Int32))), (.int (xv + (3 : Int32))), (.int (xv + (4 : Int32))), (.int ((xv + (4 : Int32)) + (1 : Int32))), (.int ((xv + (4 : Int32)) + (2 : Int32))), (.int ((xv + (4 : Int32)) + (3 : Int32))), (.int (xv + (8 : Int32))), (.int ((xv + (8 : Int32)) + (1 : Int32))), (.int ((xv + (8 : Int32)) + (2 : Int32))), (.int ((xv + (8 : Int32)) + (3 : Int32))), (.int (xv + (12 : Int32))), (.int (0 : Int32))] 15 T42.heap n0 Z42 E42_b1 Fv42 Fs42 Va42 ne_b1_va2 g_b1 g_va2 (by decide) (by decide) (by decide) (Nat.le_of_ble_eq_true rfl) (by decide)) hZ (hw _ (List.mem_of_getElem? (i := 16) rfl)) (hw _ (List.mem_of_getElem? (i := 2) rfl)) (by decide) (by decide)) q43a q43c (g := (mkF m 104 #[.val (.int a1), .val (.int a2), .val (.int a3), .val (.int xv), .val (.int n), .val (.ref b1), .val (.int (1 : Int32)), .val (.int (1 : Int32)), .unset, .unset] [(.int (xv + (13 : Int32))), (.ref b1)])) rfl (by rw [hml]; rfl) (Steps.refl _) (argsL := [(.int (xv + (13 : Int32)))]) (rest := []) (lenOf pd_2 rfl) rfl (by show 2 * 0 + _ ≤ _; exact Nat.le_of_eq rfl) (hb hby at_104) (fun _ _ => ⟨rfl, rfl, (by decide : 2 + 0 ≤ _), (by decide : 18 + 0 ≤ _)⟩)
    dsimp only [Pt.U, Pt.locs, Pt.cells, Pt.slots] at X43 l43 y43 z43 st43 hQ43
    subst l43 y43 z43
    obtain ⟨rfl, N43q, K43, Fv43, Fs43, Vq43⟩ := hQ43
    have N43 := Fr.app N42 N43q
    have Va43 : Arv Z T43.heap va2 cc2 .int (16 : Int32) [(.int a1), (.int a2), (.int xv), (.int (xv + (1 : Int32))), (.int (xv + (2 : Int32))), (.int (xv + (3 : Int32))), (.int (xv + (4 : Int32))), (.int ((xv + (4 : Int32)) + (1 : Int32))), (.int ((xv + (4 : Int32)) + (2 : Int32))), (.int ((xv + (4 : Int32)) + (3 : Int32))), (.int (xv + (8 : Int32))), (.int ((xv + (8 : Int32)) + (1 : Int32))), (.int ((xv + (8 : Int32)) + (2 : Int32))), (.int ((xv + (8 : Int32)) + (3 : Int32))), (.int (xv + (12 : Int32))), (.int (xv + (13 : Int32)))] (.int (0 : Int32)) := Vq43
    have E43_b1 := E42_b1.keep K43
    have Z43 := Nat.le_trans Z42 K43.1
    have KP43 := KP42.trans K43 (allS (Or.inr sz_b1) (allS (Or.inr sz_va2) all0))
    have hd44 : ¬ ((1 : Int32) = (0 : Int32)) := by decide
    have hd45 : ¬ ((1 : Int32) = (0 : Int32)) := by decide
    obtain ⟨cq46, kq46, q46a, q46b, q46c⟩ := isOf hZ rfl E43_b1
    obtain ⟨_, _, ⟨T46, L46, k46, n46⟩, -, X46, ⟨Lc46, hQ46, l46, y46, z46⟩, st46⟩ := X43.virtualBack hx (y := (⟨"com/example/unraveling/unraveling/graph/IntList", "size", "()I"⟩ : MethodName)) (z := (⟨"com/example/unraveling/unraveling/graph/IntList", "size", "()I"⟩ : MethodName)) hown (mvT hZ (hw _ (List.mem_of_getElem? (i := 19) rfl))) (mvT hZ (hw _ (List.mem_of_getElem? (i := 20) rfl))) (notFace_of_selects (args := #[]) (mvT hZ (hw _ (List.mem_of_getElem? (i := 22) rfl)))) (mvT hZ (hw _ (List.mem_of_getElem? (i := 22) rfl))) (mvT hZ (hw _ (List.mem_of_getElem? (i := 21) rfl))) (by decide) (backOf (W := 0) (rmSize l Z a0 hw [] b1 (16 : Int32) T43.heap n0 Fs43) hZ (hw _ (List.mem_of_getElem? (i := 23) rfl)) (hw _ (List.mem_of_getElem? (i := 2) rfl)) (by decide) (by decide)) q46a q46c (g := (mkF m 127 #[.val (.int a1), .val (.int a2), .val (.int a3), .val (.int xv), .val (.int n), .val (.ref b1), .val (.int (1 : Int32)), .val (.int (1 : Int32)), .val (.int (16 : Int32)), .unset] [(.ref b1)])) rfl (by rw [hml]; rfl) (Steps.refl _) (argsL := []) (rest := []) (lenOf pd_4 rfl) rfl (by show 2 * 0 + _ ≤ _; exact Nat.le_of_eq rfl) (hb hby at_127) (fun _ _ => ⟨rfl, rfl, (by decide : 2 + 0 ≤ _), (by decide : 18 + 0 ≤ _)⟩)
    dsimp only [Pt.U, Pt.locs, Pt.cells, Pt.slots] at X46 l46 y46 z46 st46 hQ46
    subst l46 y46 z46
    obtain ⟨rfl, N46q, e46⟩ := hQ46
    have N46 := Fr.app N43 N46q
    have hd47 : (16 : Int32) = (16 : Int32) := rfl
    have hd48 : ¬ ((1 : Int32) = (0 : Int32)) := by decide
    obtain ⟨cq49, kq49, q49a, q49b, q49c⟩ := isOf hZ e46 E43_b1
    obtain ⟨_, _, ⟨T49, L49, k49, n49⟩, -, X49, ⟨Lc49, hQ49, l49, y49, z49⟩, st49⟩ := X46.virtualBack hx (y := (⟨"com/example/unraveling/unraveling/graph/IntList", "add", "(I)V"⟩ : MethodName)) (z := (⟨"com/example/unraveling/unraveling/graph/IntList", "add", "(I)V"⟩ : MethodName)) hown (mvT hZ (hw _ (List.mem_of_getElem? (i := 12) rfl))) (mvT hZ (hw _ (List.mem_of_getElem? (i := 13) rfl))) (notFace_of_selects (args := #[]) (mvT hZ (hw _ (List.mem_of_getElem? (i := 15) rfl)))) (mvT hZ (hw _ (List.mem_of_getElem? (i := 15) rfl))) (mvT hZ (hw _ (List.mem_of_getElem? (i := 14) rfl))) (by decide) (backOf (W := 0) (rmGrow l Z a0 hw [] b1 a3 va2 cc2 (.int a1) (.int a2) (.int xv) (.int (xv + (1 : Int32))) (.int (xv + (2 : Int32))) (.int (xv + (3 : Int32))) (.int (xv + (4 : Int32))) (.int ((xv + (4 : Int32)) + (1 : Int32))) (.int ((xv + (4 : Int32)) + (2 : Int32))) (.int ((xv + (4 : Int32)) + (3 : Int32))) (.int (xv + (8 : Int32))) (.int ((xv + (8 : Int32)) + (1 : Int32))) (.int ((xv + (8 : Int32)) + (2 : Int32))) (.int ((xv + (8 : Int32)) + (3 : Int32))) (.int (xv + (12 : Int32))) (.int (xv + (13 : Int32))) T43.heap n0 Z43 E43_b1 Fv43 Fs43 Va43 ne_b1_va2 g_b1) hZ (hw _ (List.mem_of_getElem? (i := 16) rfl)) (hw _ (List.mem_of_getElem? (i := 2) rfl)) (by decide) (by decide)) q49a q49c (g := (mkF m 152 #[.val (.int a1), .val (.int a2), .val (.int a3), .val (.int xv), .val (.int n), .val (.ref b1), .val (.int (1 : Int32)), .val (.int (1 : Int32)), .val (.int (16 : Int32)), .unset] [(.int a3), (.ref b1)])) rfl (by rw [hml]; rfl) (Steps.refl _) (argsL := [(.int a3)]) (rest := []) (lenOf pd_2 rfl) rfl (by show 2 * 0 + _ ≤ _; exact Nat.le_of_eq rfl) (hb hby at_152) (fun _ _ => ⟨rfl, e46, (by decide : 2 + 1 ≤ _), (by decide : 18 + 32 ≤ _)⟩)
    dsimp only [Pt.U, Pt.locs, Pt.cells, Pt.slots] at X49 l49 y49 z49 st49 hQ49
    subst l49 y49 z49
    obtain ⟨rfl, N49q, K49, vg49, cc49, le49, Fv49, Fs49, Va49⟩ := hQ49
    have N49 := Fr.app N46 N49q
    have ne_b1_vg49 : b1 ≠ vg49 := Nat.ne_of_lt (Nat.lt_of_lt_of_le E43_b1.lt le49)
    have ne_va2_vg49 : va2 ≠ vg49 := Nat.ne_of_lt (Nat.lt_of_lt_of_le Va43.lt le49)
    have g_vg49 : n0 ≤ vg49 := Nat.le_trans Z43 le49
    have sz_vg49 : h0.size ≤ vg49 := Nat.le_trans KP43.1 le49
    have E49_b1 := E43_b1.keep K49
    have V49_va2 := Va43.keep K49 (ninS (Ne.symm ne_b1_va2) nin0)
    have Z49 := Nat.le_trans Z43 K49.1
    have KP49 := KP43.trans K49 (allS (Or.inr sz_b1) all0)
    obtain ⟨cq50, kq50, q50a, q50b, q50c⟩ := isOf hZ rfl E49_b1
    obtain ⟨_, _, ⟨T50, L50, k50, n50⟩, -, X50, ⟨Lc50, hQ50, l50, y50, z50⟩, st50⟩ := X49.virtualBack hx (y := (⟨"com/example/unraveling/unraveling/graph/IntList", "toArray", "()[I"⟩ : MethodName)) (z := (⟨"com/example/unraveling/unraveling/graph/IntList", "toArray", "()[I"⟩ : MethodName)) hown (mvT hZ (hw _ (List.mem_of_getElem? (i := 29) rfl))) (mvT hZ (hw _ (List.mem_of_getElem? (i := 30) rfl))) (notFace_of_selects (args := #[]) (mvT hZ (hw _ (List.mem_of_getElem? (i := 32) rfl)))) (mvT hZ (hw _ (List.mem_of_getElem? (i := 32) rfl))) (mvT hZ (hw _ (List.mem_of_getElem? (i := 31) rfl))) (by decide) (backOf (W := 0) (rmTo_32 l Z a0 hw [] b1 vg49 cc49 (.int a1) (.int a2) (.int xv) (.int (xv + (1 : Int32))) (.int (xv + (2 : Int32))) (.int (xv + (3 : Int32))) (.int (xv + (4 : Int32))) (.int ((xv + (4 : Int32)) + (1 : Int32))) (.int ((xv + (4 : Int32)) + (2 : Int32))) (.int ((xv + (4 : Int32)) + (3 : Int32))) (.int (xv + (8 : Int32))) (.int ((xv + (8 : Int32)) + (1 : Int32))) (.int ((xv + (8 : Int32)) + (2 : Int32))) (.int ((xv + (8 : Int32)) + (3 : Int32))) (.int (xv + (12 : Int32))) (.int (xv + (13 : Int32))) (.int a3) (.int (0 : Int32)) (.int (0 : Int32)) (.int (0 : Int32)) (.int (0 : Int32)) (.int (0 : Int32)) (.int (0 : Int32)) (.int (0 : Int32)) (.int (0 : Int32)) (.int (0 : Int32)) (.int (0 : Int32)) (.int (0 : Int32)) (.int (0 : Int32)) (.int (0 : Int32)) (.int (0 : Int32)) (.int (0 : Int32)) T49.heap n0 Z49 Fv49 Fs49 Va49) hZ (hw _ (List.mem_of_getElem? (i := 33) rfl)) (hw _ (List.mem_of_getElem? (i := 2) rfl)) (by decide) (by decide)) q50a q50c (g := (mkF m 157 #[.val (.int a1), .val (.int a2), .val (.int a3), .val (.int xv), .val (.int n), .val (.ref b1), .val (.int (1 : Int32)), .val (.int (1 : Int32)), .val (.int (16 : Int32)), .unset] [(.ref b1)])) rfl (by rw [hml]; rfl) (Steps.refl _) (argsL := []) (rest := []) (lenOf pd_6 rfl) rfl (by show 2 * 0 + _ ≤ _; exact Nat.le_of_eq rfl) (hb hby at_157) (fun _ _ => ⟨rfl, rfl, (by decide : 3 + 1 ≤ _), (by decide : 50 + 17 ≤ _)⟩)
    dsimp only [Pt.U, Pt.locs, Pt.cells, Pt.slots] at X50 l50 y50 z50 st50 hQ50
    subst l50 y50 z50
    obtain ⟨N50q, K50, ar50, cc50, rfl, le50, Va50⟩ := hQ50
    have N50 := Fr.app N49 N50q
    have ne_b1_ar50 : b1 ≠ ar50 := Nat.ne_of_lt (Nat.lt_of_lt_of_le E49_b1.lt le50)
    have ne_va2_ar50 : va2 ≠ ar50 := Nat.ne_of_lt (Nat.lt_of_lt_of_le V49_va2.lt le50)
    have ne_vg49_ar50 : vg49 ≠ ar50 := Nat.ne_of_lt (Nat.lt_of_lt_of_le Va49.lt le50)
    have g_ar50 : n0 ≤ ar50 := Nat.le_trans Z49 le50
    have sz_ar50 : h0.size ≤ ar50 := Nat.le_trans KP49.1 le50
    have E50_b1 := E49_b1.keep K50
    have F50_b1_values := Fv49.keep K50 nin0
    have F50_b1_size := Fs49.keep K50 nin0
    have V50_va2 := V49_va2.keep K50 nin0
    have V50_vg49 := Va49.keep K50 nin0
    have Z50 := Nat.le_trans Z49 K50.1
    have KP50 := KP49.trans K50 all0
    obtain ⟨cq51, kq51, q51a, q51b, q51c⟩ := isOf hZ rfl E50_b1
    obtain ⟨_, _, ⟨T51, L51, k51, n51⟩, -, X51, ⟨Lc51, hQ51, l51, y51, z51⟩, st51⟩ := X50.virtualBack hx (y := (⟨"com/example/unraveling/unraveling/graph/IntList", "size", "()I"⟩ : MethodName)) (z := (⟨"com/example/unraveling/unraveling/graph/IntList", "size", "()I"⟩ : MethodName)) hown (mvT hZ (hw _ (List.mem_of_getElem? (i := 19) rfl))) (mvT hZ (hw _ (List.mem_of_getElem? (i := 20) rfl))) (notFace_of_selects (args := #[]) (mvT hZ (hw _ (List.mem_of_getElem? (i := 22) rfl)))) (mvT hZ (hw _ (List.mem_of_getElem? (i := 22) rfl))) (mvT hZ (hw _ (List.mem_of_getElem? (i := 21) rfl))) (by decide) (backOf (W := 0) (rmSize l Z a0 hw [] b1 (17 : Int32) T50.heap n0 F50_b1_size) hZ (hw _ (List.mem_of_getElem? (i := 23) rfl)) (hw _ (List.mem_of_getElem? (i := 2) rfl)) (by decide) (by decide)) q51a q51c (g := (mkF m 164 #[.val (.int a1), .val (.int a2), .val (.int a3), .val (.int xv), .val (.int n), .val (.ref b1), .val (.int (1 : Int32)), .val (.int (1 : Int32)), .val (.int (16 : Int32)), .val (.ref ar50)] [(.ref b1)])) rfl (by rw [hml]; rfl) (Steps.refl _) (argsL := []) (rest := []) (lenOf pd_4 rfl) rfl (by show 2 * 0 + _ ≤ _; exact Nat.le_of_eq rfl) (hb hby at_164) (fun _ _ => ⟨rfl, rfl, (by decide : 4 + 0 ≤ _), (by decide : 67 + 0 ≤ _)⟩)
    dsimp only [Pt.U, Pt.locs, Pt.cells, Pt.slots] at X51 l51 y51 z51 st51 hQ51
    subst l51 y51 z51
    obtain ⟨rfl, N51q, e51⟩ := hQ51
    have N51 := Fr.app N50 N51q
    have hd52 : (17 : Int32) = (17 : Int32) := rfl
    obtain ⟨cl176_53, Ar176_53, q176_53, S176_53, N176_53_, H176_53, G176_53⟩ := id Va50
    have hd54 : (17 : Int32) = (17 : Int32) := rfl
    obtain ⟨cq55, kq55, q55a, q55b, q55c⟩ := isOf hZ e51 E50_b1
    obtain ⟨_, _, ⟨T55, L55, k55, n55⟩, -, X55, ⟨Lc55, hQ55, l55, y55, z55⟩, st55⟩ := X51.virtualBack hx (y := (⟨"com/example/unraveling/unraveling/graph/IntList", "get", "(I)I"⟩ : MethodName)) (z := (⟨"com/example/unraveling/unraveling/graph/IntList", "get", "(I)I"⟩ : MethodName)) hown (mvT hZ (hw _ (List.mem_of_getElem? (i := 24) rfl))) (mvT hZ (hw _ (List.mem_of_getElem? (i := 25) rfl))) (notFace_of_selects (args := #[]) (mvT hZ (hw _ (List.mem_of_getElem? (i := 27) rfl)))) (mvT hZ (hw _ (List.mem_of_getElem? (i := 27) rfl))) (mvT hZ (hw _ (List.mem_of_getElem? (i := 26) rfl))) (by decide) (backOf (W := 0) (rmGet l Z a0 hw [] b1 (0 : Int32) vg49 cc49 (32 : Int32) a1 [(.int a1), (.int a2), (.int xv), (.int (xv + (1 : Int32))), (.int (xv + (2 : Int32))), (.int (xv + (3 : Int32))), (.int (xv + (4 : Int32))), (.int ((xv + (4 : Int32)) + (1 : Int32))), (.int ((xv + (4 : Int32)) + (2 : Int32))), (.int ((xv + (4 : Int32)) + (3 : Int32))), (.int (xv + (8 : Int32))), (.int ((xv + (8 : Int32)) + (1 : Int32))), (.int ((xv + (8 : Int32)) + (2 : Int32))), (.int ((xv + (8 : Int32)) + (3 : Int32))), (.int (xv + (12 : Int32))), (.int (xv + (13 : Int32))), (.int a3), (.int (0 : Int32)), (.int (0 : Int32)), (.int (0 : Int32)), (.int (0 : Int32)), (.int (0 : Int32)), (.int (0 : Int32)), (.int (0 : Int32)), (.int (0 : Int32)), (.int (0 : Int32)), (.int (0 : Int32)), (.int (0 : Int32)), (.int (0 : Int32)), (.int (0 : Int32)), (.int (0 : Int32)), (.int (0 : Int32))] T50.heap n0 F50_b1_values V50_vg49 (by decide) (by decide) rfl) hZ (hw _ (List.mem_of_getElem? (i := 28) rfl)) (hw _ (List.mem_of_getElem? (i := 2) rfl)) (by decide) (by decide)) q55a q55c (g := (mkF m 187 #[.val (.int a1), .val (.int a2), .val (.int a3), .val (.int xv), .val (.int n), .val (.ref b1), .val (.int (1 : Int32)), .val (.int (1 : Int32)), .val (.int (16 : Int32)), .val (.ref ar50)] [(.int (0 : Int32)), (.ref b1)])) rfl (by rw [hml]; rfl) (Steps.refl _) (argsL := [(.int (0 : Int32))]) (rest := []) (lenOf pd_5 rfl) rfl (by show 2 * 0 + _ ≤ _; exact Nat.le_of_eq rfl) (hb hby at_187) (fun _ _ => ⟨rfl, e51, (by decide : 4 + 0 ≤ _), (by decide : 67 + 0 ≤ _)⟩)
    dsimp only [Pt.U, Pt.locs, Pt.cells, Pt.slots] at X55 l55 y55 z55 st55 hQ55
    subst l55 y55 z55
    obtain ⟨rfl, N55q, e55⟩ := hQ55
    have N55 := Fr.app N51 N55q
    have hd56 : a1 = a1 := rfl
    obtain ⟨cq57, kq57, q57a, q57b, q57c⟩ := isOf hZ e55 E50_b1
    obtain ⟨_, _, ⟨T57, L57, k57, n57⟩, -, X57, ⟨Lc57, hQ57, l57, y57, z57⟩, st57⟩ := X55.virtualBack hx (y := (⟨"com/example/unraveling/unraveling/graph/IntList", "get", "(I)I"⟩ : MethodName)) (z := (⟨"com/example/unraveling/unraveling/graph/IntList", "get", "(I)I"⟩ : MethodName)) hown (mvT hZ (hw _ (List.mem_of_getElem? (i := 24) rfl))) (mvT hZ (hw _ (List.mem_of_getElem? (i := 25) rfl))) (notFace_of_selects (args := #[]) (mvT hZ (hw _ (List.mem_of_getElem? (i := 27) rfl)))) (mvT hZ (hw _ (List.mem_of_getElem? (i := 27) rfl))) (mvT hZ (hw _ (List.mem_of_getElem? (i := 26) rfl))) (by decide) (backOf (W := 0) (rmGet l Z a0 hw [] b1 (1 : Int32) vg49 cc49 (32 : Int32) a2 [(.int a1), (.int a2), (.int xv), (.int (xv + (1 : Int32))), (.int (xv + (2 : Int32))), (.int (xv + (3 : Int32))), (.int (xv + (4 : Int32))), (.int ((xv + (4 : Int32)) + (1 : Int32))), (.int ((xv + (4 : Int32)) + (2 : Int32))), (.int ((xv + (4 : Int32)) + (3 : Int32))), (.int (xv + (8 : Int32))), (.int ((xv + (8 : Int32)) + (1 : Int32))), (.int ((xv + (8 : Int32)) + (2 : Int32))), (.int ((xv + (8 : Int32)) + (3 : Int32))), (.int (xv + (12 : Int32))), (.int (xv + (13 : Int32))), (.int a3), (.int (0 : Int32)), (.int (0 : Int32)), (.int (0 : Int32)), (.int (0 : Int32)), (.int (0 : Int32)), (.int (0 : Int32)), (.int (0 : Int32)), (.int (0 : Int32)), (.int (0 : Int32)), (.int (0 : Int32)), (.int (0 : Int32)), (.int (0 : Int32)), (.int (0 : Int32)), (.int (0 : Int32)), (.int (0 : Int32))] T50.heap n0 F50_b1_values V50_vg49 (by decide) (by decide) rfl) hZ (hw _ (List.mem_of_getElem? (i := 28) rfl)) (hw _ (List.mem_of_getElem? (i := 2) rfl)) (by decide) (by decide)) q57a q57c (g := (mkF m 197 #[.val (.int a1), .val (.int a2), .val (.int a3), .val (.int xv), .val (.int n), .val (.ref b1), .val (.int (1 : Int32)), .val (.int (1 : Int32)), .val (.int (16 : Int32)), .val (.ref ar50)] [(.int (1 : Int32)), (.ref b1)])) rfl (by rw [hml]; rfl) (Steps.refl _) (argsL := [(.int (1 : Int32))]) (rest := []) (lenOf pd_5 rfl) rfl (by show 2 * 0 + _ ≤ _; exact Nat.le_of_eq rfl) (hb hby at_197) (fun _ _ => ⟨rfl, e55, (by decide : 4 + 0 ≤ _), (by decide : 67 + 0 ≤ _)⟩)
    dsimp only [Pt.U, Pt.locs, Pt.cells, Pt.slots] at X57 l57 y57 z57 st57 hQ57
    subst l57 y57 z57
    obtain ⟨rfl, N57q, e57⟩ := hQ57
    have N57 := Fr.app N55 N57q
    have hd58 : a2 = a2 := rfl
    obtain ⟨cq59, kq59, q59a, q59b, q59c⟩ := isOf hZ e57 E50_b1
    obtain ⟨_, _, ⟨T59, L59, k59, n59⟩, -, X59, ⟨Lc59, hQ59, l59, y59, z59⟩, st59⟩ := X57.virtualBack hx (y := (⟨"com/example/unraveling/unraveling/graph/IntList", "get", "(I)I"⟩ : MethodName)) (z := (⟨"com/example/unraveling/unraveling/graph/IntList", "get", "(I)I"⟩ : MethodName)) hown (mvT hZ (hw _ (List.mem_of_getElem? (i := 24) rfl))) (mvT hZ (hw _ (List.mem_of_getElem? (i := 25) rfl))) (notFace_of_selects (args := #[]) (mvT hZ (hw _ (List.mem_of_getElem? (i := 27) rfl)))) (mvT hZ (hw _ (List.mem_of_getElem? (i := 27) rfl))) (mvT hZ (hw _ (List.mem_of_getElem? (i := 26) rfl))) (by decide) (backOf (W := 0) (rmGet l Z a0 hw [] b1 (16 : Int32) vg49 cc49 (32 : Int32) a3 [(.int a1), (.int a2), (.int xv), (.int (xv + (1 : Int32))), (.int (xv + (2 : Int32))), (.int (xv + (3 : Int32))), (.int (xv + (4 : Int32))), (.int ((xv + (4 : Int32)) + (1 : Int32))), (.int ((xv + (4 : Int32)) + (2 : Int32))), (.int ((xv + (4 : Int32)) + (3 : Int32))), (.int (xv + (8 : Int32))), (.int ((xv + (8 : Int32)) + (1 : Int32))), (.int ((xv + (8 : Int32)) + (2 : Int32))), (.int ((xv + (8 : Int32)) + (3 : Int32))), (.int (xv + (12 : Int32))), (.int (xv + (13 : Int32))), (.int a3), (.int (0 : Int32)), (.int (0 : Int32)), (.int (0 : Int32)), (.int (0 : Int32)), (.int (0 : Int32)), (.int (0 : Int32)), (.int (0 : Int32)), (.int (0 : Int32)), (.int (0 : Int32)), (.int (0 : Int32)), (.int (0 : Int32)), (.int (0 : Int32)), (.int (0 : Int32)), (.int (0 : Int32)), (.int (0 : Int32))] T50.heap n0 F50_b1_values V50_vg49 (by decide) (by decide) rfl) hZ (hw _ (List.mem_of_getElem? (i := 28) rfl)) (hw _ (List.mem_of_getElem? (i := 2) rfl)) (by decide) (by decide)) q59a q59c (g := (mkF m 208 #[.val (.int a1), .val (.int a2), .val (.int a3), .val (.int xv), .val (.int n), .val (.ref b1), .val (.int (1 : Int32)), .val (.int (1 : Int32)), .val (.int (16 : Int32)), .val (.ref ar50)] [(.int (16 : Int32)), (.ref b1)])) rfl (by rw [hml]; rfl) (Steps.refl _) (argsL := [(.int (16 : Int32))]) (rest := []) (lenOf pd_5 rfl) rfl (by show 2 * 0 + _ ≤ _; exact Nat.le_of_eq rfl) (hb hby at_208) (fun _ _ => ⟨rfl, e57, (by decide : 4 + 0 ≤ _), (by decide : 67 + 0 ≤ _)⟩)
    dsimp only [Pt.U, Pt.locs, Pt.cells, Pt.slots] at X59 l59 y59 z59 st59 hQ59
    subst l59 y59 z59
    obtain ⟨rfl, N59q, e59⟩ := hQ59
    have N59 := Fr.app N57 N59q
    have hd60 : a3 = a3 := rfl
    obtain ⟨cl218_61, Ar218_61, q218_61, S218_61, N218_61_, H218_61, G218_61⟩ := id Va50
    have hin218_61 : ¬ ((0 : Int32) < 0 ∨ cl218_61.slots.size ≤ ((0 : Int32)).toNatClampNeg) := inb_of S218_61 ⟨by decide, by decide⟩
    have hat218_61 : cl218_61.slots[((0 : Int32)).toNatClampNeg]? = some (.int a1) := H218_61.at hin218_61 rfl
    have hd62 : a1 = a1 := rfl
    obtain ⟨cl226_63, Ar226_63, q226_63, S226_63, N226_63_, H226_63, G226_63⟩ := id Va50
    have hin226_63 : ¬ ((1 : Int32) < 0 ∨ cl226_63.slots.size ≤ ((1 : Int32)).toNatClampNeg) := inb_of S226_63 ⟨by decide, by decide⟩
    have hat226_63 : cl226_63.slots[((1 : Int32)).toNatClampNeg]? = some (.int a2) := H226_63.at hin226_63 rfl
    have hd64 : a2 = a2 := rfl
    obtain ⟨cl235_65, Ar235_65, q235_65, S235_65, N235_65_, H235_65, G235_65⟩ := id Va50
    have hin235_65 : ¬ ((16 : Int32) < 0 ∨ cl235_65.slots.size ≤ ((16 : Int32)).toNatClampNeg) := inb_of S235_65 ⟨by decide, by decide⟩
    have hat235_65 : cl235_65.slots[((16 : Int32)).toNatClampNeg]? = some (.int a3) := H235_65.at hin235_65 rfl
    have hd66 : a3 = a3 := rfl
    have hd67 : ¬ ((1 : Int32) = (0 : Int32)) := by decide
    have hd68 : ¬ ((1 : Int32) = (0 : Int32)) := by decide
    obtain ⟨cq69, kq69, q69a, q69b, q69c⟩ := isOf hZ e59 E50_b1
    obtain ⟨_, _, ⟨T69, L69, k69, n69⟩, -, X69, ⟨Lc69, hQ69, l69, y69, z69⟩, st69⟩ := X59.virtualBack hx (y := (⟨"com/example/unraveling/unraveling/graph/IntList", "get", "(I)I"⟩ : MethodName)) (z := (⟨"com/example/unraveling/unraveling/graph/IntList", "get", "(I)I"⟩ : MethodName)) hown (mvT hZ (hw _ (List.mem_of_getElem? (i := 24) rfl))) (mvT hZ (hw _ (List.mem_of_getElem? (i := 25) rfl))) (notFace_of_selects (args := #[]) (mvT hZ (hw _ (List.mem_of_getElem? (i := 27) rfl)))) (mvT hZ (hw _ (List.mem_of_getElem? (i := 27) rfl))) (mvT hZ (hw _ (List.mem_of_getElem? (i := 26) rfl))) (by decide) (backOf (W := 0) (rmGet l Z a0 hw [] b1 (2 : Int32) vg49 cc49 (32 : Int32) xv [(.int a1), (.int a2), (.int xv), (.int (xv + (1 : Int32))), (.int (xv + (2 : Int32))), (.int (xv + (3 : Int32))), (.int (xv + (4 : Int32))), (.int ((xv + (4 : Int32)) + (1 : Int32))), (.int ((xv + (4 : Int32)) + (2 : Int32))), (.int ((xv + (4 : Int32)) + (3 : Int32))), (.int (xv + (8 : Int32))), (.int ((xv + (8 : Int32)) + (1 : Int32))), (.int ((xv + (8 : Int32)) + (2 : Int32))), (.int ((xv + (8 : Int32)) + (3 : Int32))), (.int (xv + (12 : Int32))), (.int (xv + (13 : Int32))), (.int a3), (.int (0 : Int32)), (.int (0 : Int32)), (.int (0 : Int32)), (.int (0 : Int32)), (.int (0 : Int32)), (.int (0 : Int32)), (.int (0 : Int32)), (.int (0 : Int32)), (.int (0 : Int32)), (.int (0 : Int32)), (.int (0 : Int32)), (.int (0 : Int32)), (.int (0 : Int32)), (.int (0 : Int32)), (.int (0 : Int32))] T50.heap n0 F50_b1_values V50_vg49 (by decide) (by decide) rfl) hZ (hw _ (List.mem_of_getElem? (i := 28) rfl)) (hw _ (List.mem_of_getElem? (i := 2) rfl)) (by decide) (by decide)) q69a q69c (g := (mkF m 260 #[.val (.int a1), .val (.int a2), .val (.int a3), .val (.int xv), .val (.int n), .val (.ref b1), .val (.int (1 : Int32)), .val (.int (1 : Int32)), .val (.int (16 : Int32)), .val (.ref ar50)] [(.int (2 : Int32)), (.ref b1)])) rfl (by rw [hml]; rfl) (Steps.refl _) (argsL := [(.int (2 : Int32))]) (rest := []) (lenOf pd_5 rfl) rfl (by show 2 * 0 + _ ≤ _; exact Nat.le_of_eq rfl) (hb hby at_260) (fun _ _ => ⟨rfl, e59, (by decide : 4 + 0 ≤ _), (by decide : 67 + 0 ≤ _)⟩)
    dsimp only [Pt.U, Pt.locs, Pt.cells, Pt.slots] at X69 l69 y69 z69 st69 hQ69
    subst l69 y69 z69
    obtain ⟨rfl, N69q, e69⟩ := hQ69
    have N69 := Fr.app N59 N69q
    have hd70 : xv = xv := rfl
    obtain ⟨cq71, kq71, q71a, q71b, q71c⟩ := isOf hZ e69 E50_b1
    obtain ⟨_, _, ⟨T71, L71, k71, n71⟩, -, X71, ⟨Lc71, hQ71, l71, y71, z71⟩, st71⟩ := X69.virtualBack hx (y := (⟨"com/example/unraveling/unraveling/graph/IntList", "get", "(I)I"⟩ : MethodName)) (z := (⟨"com/example/unraveling/unraveling/graph/IntList", "get", "(I)I"⟩ : MethodName)) hown (mvT hZ (hw _ (List.mem_of_getElem? (i := 24) rfl))) (mvT hZ (hw _ (List.mem_of_getElem? (i := 25) rfl))) (notFace_of_selects (args := #[]) (mvT hZ (hw _ (List.mem_of_getElem? (i := 27) rfl)))) (mvT hZ (hw _ (List.mem_of_getElem? (i := 27) rfl))) (mvT hZ (hw _ (List.mem_of_getElem? (i := 26) rfl))) (by decide) (backOf (W := 0) (rmGet l Z a0 hw [] b1 (9 : Int32) vg49 cc49 (32 : Int32) ((xv + (4 : Int32)) + (3 : Int32)) [(.int a1), (.int a2), (.int xv), (.int (xv + (1 : Int32))), (.int (xv + (2 : Int32))), (.int (xv + (3 : Int32))), (.int (xv + (4 : Int32))), (.int ((xv + (4 : Int32)) + (1 : Int32))), (.int ((xv + (4 : Int32)) + (2 : Int32))), (.int ((xv + (4 : Int32)) + (3 : Int32))), (.int (xv + (8 : Int32))), (.int ((xv + (8 : Int32)) + (1 : Int32))), (.int ((xv + (8 : Int32)) + (2 : Int32))), (.int ((xv + (8 : Int32)) + (3 : Int32))), (.int (xv + (12 : Int32))), (.int (xv + (13 : Int32))), (.int a3), (.int (0 : Int32)), (.int (0 : Int32)), (.int (0 : Int32)), (.int (0 : Int32)), (.int (0 : Int32)), (.int (0 : Int32)), (.int (0 : Int32)), (.int (0 : Int32)), (.int (0 : Int32)), (.int (0 : Int32)), (.int (0 : Int32)), (.int (0 : Int32)), (.int (0 : Int32)), (.int (0 : Int32)), (.int (0 : Int32))] T50.heap n0 F50_b1_values V50_vg49 (by decide) (by decide) rfl) hZ (hw _ (List.mem_of_getElem? (i := 28) rfl)) (hw _ (List.mem_of_getElem? (i := 2) rfl)) (by decide) (by decide)) q71a q71c (g := (mkF m 271 #[.val (.int a1), .val (.int a2), .val (.int a3), .val (.int xv), .val (.int n), .val (.ref b1), .val (.int (1 : Int32)), .val (.int (1 : Int32)), .val (.int (16 : Int32)), .val (.ref ar50)] [(.int (9 : Int32)), (.ref b1)])) rfl (by rw [hml]; rfl) (Steps.refl _) (argsL := [(.int (9 : Int32))]) (rest := []) (lenOf pd_5 rfl) rfl (by show 2 * 0 + _ ≤ _; exact Nat.le_of_eq rfl) (hb hby at_271) (fun _ _ => ⟨rfl, e69, (by decide : 4 + 0 ≤ _), (by decide : 67 + 0 ≤ _)⟩)
    dsimp only [Pt.U, Pt.locs, Pt.cells, Pt.slots] at X71 l71 y71 z71 st71 hQ71
    subst l71 y71 z71
    obtain ⟨rfl, N71q, e71⟩ := hQ71
    have N71 := Fr.app N69 N71q
    have hd72 : ((xv + (4 : Int32)) + (3 : Int32)) = (xv + (7 : Int32)) := by rw [Int32.add_assoc]; rfl
    obtain ⟨cq73, kq73, q73a, q73b, q73c⟩ := isOf hZ e71 E50_b1
    obtain ⟨_, _, ⟨T73, L73, k73, n73⟩, -, X73, ⟨Lc73, hQ73, l73, y73, z73⟩, st73⟩ := X71.virtualBack hx (y := (⟨"com/example/unraveling/unraveling/graph/IntList", "get", "(I)I"⟩ : MethodName)) (z := (⟨"com/example/unraveling/unraveling/graph/IntList", "get", "(I)I"⟩ : MethodName)) hown (mvT hZ (hw _ (List.mem_of_getElem? (i := 24) rfl))) (mvT hZ (hw _ (List.mem_of_getElem? (i := 25) rfl))) (notFace_of_selects (args := #[]) (mvT hZ (hw _ (List.mem_of_getElem? (i := 27) rfl)))) (mvT hZ (hw _ (List.mem_of_getElem? (i := 27) rfl))) (mvT hZ (hw _ (List.mem_of_getElem? (i := 26) rfl))) (by decide) (backOf (W := 0) (rmGet l Z a0 hw [] b1 (15 : Int32) vg49 cc49 (32 : Int32) (xv + (13 : Int32)) [(.int a1), (.int a2), (.int xv), (.int (xv + (1 : Int32))), (.int (xv + (2 : Int32))), (.int (xv + (3 : Int32))), (.int (xv + (4 : Int32))), (.int ((xv + (4 : Int32)) + (1 : Int32))), (.int ((xv + (4 : Int32)) + (2 : Int32))), (.int ((xv + (4 : Int32)) + (3 : Int32))), (.int (xv + (8 : Int32))), (.int ((xv + (8 : Int32)) + (1 : Int32))), (.int ((xv + (8 : Int32)) + (2 : Int32))), (.int ((xv + (8 : Int32)) + (3 : Int32))), (.int (xv + (12 : Int32))), (.int (xv + (13 : Int32))), (.int a3), (.int (0 : Int32)), (.int (0 : Int32)), (.int (0 : Int32)), (.int (0 : Int32)), (.int (0 : Int32)), (.int (0 : Int32)), (.int (0 : Int32)), (.int (0 : Int32)), (.int (0 : Int32)), (.int (0 : Int32)), (.int (0 : Int32)), (.int (0 : Int32)), (.int (0 : Int32)), (.int (0 : Int32)), (.int (0 : Int32))] T50.heap n0 F50_b1_values V50_vg49 (by decide) (by decide) rfl) hZ (hw _ (List.mem_of_getElem? (i := 28) rfl)) (hw _ (List.mem_of_getElem? (i := 2) rfl)) (by decide) (by decide)) q73a q73c (g := (mkF m 285 #[.val (.int a1), .val (.int a2), .val (.int a3), .val (.int xv), .val (.int n), .val (.ref b1), .val (.int (1 : Int32)), .val (.int (1 : Int32)), .val (.int (16 : Int32)), .val (.ref ar50)] [(.int (15 : Int32)), (.ref b1)])) rfl (by rw [hml]; rfl) (Steps.refl _) (argsL := [(.int (15 : Int32))]) (rest := []) (lenOf pd_5 rfl) rfl (by show 2 * 0 + _ ≤ _; exact Nat.le_of_eq rfl) (hb hby at_285) (fun _ _ => ⟨rfl, e71, (by decide : 4 + 0 ≤ _), (by decide : 67 + 0 ≤ _)⟩)
    dsimp only [Pt.U, Pt.locs, Pt.cells, Pt.slots] at X73 l73 y73 z73 st73 hQ73
    subst l73 y73 z73
    obtain ⟨rfl, N73q, e73⟩ := hQ73
    have N73 := Fr.app N71 N73q
    have hd74 : (xv + (13 : Int32)) = (xv + (13 : Int32)) := rfl
    obtain ⟨cl298_75, Ar298_75, q298_75, S298_75, N298_75_, H298_75, G298_75⟩ := id Va50
    have hin298_75 : ¬ ((2 : Int32) < 0 ∨ cl298_75.slots.size ≤ ((2 : Int32)).toNatClampNeg) := inb_of S298_75 ⟨by decide, by decide⟩
    have hat298_75 : cl298_75.slots[((2 : Int32)).toNatClampNeg]? = some (.int xv) := H298_75.at hin298_75 rfl
    have hd76 : xv = xv := rfl
    obtain ⟨cl307_77, Ar307_77, q307_77, S307_77, N307_77_, H307_77, G307_77⟩ := id Va50
    have hin307_77 : ¬ ((15 : Int32) < 0 ∨ cl307_77.slots.size ≤ ((15 : Int32)).toNatClampNeg) := inb_of S307_77 ⟨by decide, by decide⟩
    have hat307_77 : cl307_77.slots[((15 : Int32)).toNatClampNeg]? = some (.int (xv + (13 : Int32))) := H307_77.at hin307_77 rfl
    have hd78 : (xv + (13 : Int32)) = (xv + (13 : Int32)) := rfl
    have k79 : ∀ tg, Steps p.tables e below (T73.setTop (mkF m 324 #[.val (.int a1), .val (.int a2), .val (.int a3), .val (.int xv), .val (.int n), .val (.ref b1), .val (.int (1 : Int32)), .val (.int (1 : Int32)), .val (.int (16 : Int32)), .val (.ref ar50)] [(.int (1 : Int32))])) tg → Steps p.tables e below (s₁.setTop (entryFrame m #[(.int a1), (.int a2), (.int a3), (.int xv), (.int n)] maxLocals)) tg := by
      intro tg kt
      refine k9 tg ?_
      show Steps p.tables e below (T8.setTop (mkF m 47 #[.val (.int a1), .val (.int a2), .val (.int a3), .val (.int xv), .val (.int n), .val (.ref b1), .val (.int (1 : Int32)), .unset, .unset, .unset] [])) _
      refine XS.iload X8.here hx rfl (hb hby at_47) rfl ?_
      show Steps p.tables e below (T8.setTop (mkF m 49 #[.val (.int a1), .val (.int a2), .val (.int a3), .val (.int xv), .val (.int n), .val (.ref b1), .val (.int (1 : Int32)), .unset, .unset, .unset] [(.int n)])) _
      refine XS.iconst X8.here hx rfl (hb hby at_49) ?_
      show Steps p.tables e below (T8.setTop (mkF m 50 #[.val (.int a1), .val (.int a2), .val (.int a3), .val (.int xv), .val (.int n), .val (.ref b1), .val (.int (1 : Int32)), .unset, .unset, .unset] [(.int (1 : Int32)), (.int n)])) _
      refine XS.iand X8.here hx rfl (hb hby at_50) rfl ?_
      show Steps p.tables e below (T8.setTop (mkF m 51 #[.val (.int a1), .val (.int a2), .val (.int a3), .val (.int xv), .val (.int n), .val (.ref b1), .val (.int (1 : Int32)), .unset, .unset, .unset] [(.int (n &&& (1 : Int32)))])) _
      refine XS.ifNo X8.here hx rfl (hb hby at_51) rfl ((if0 _ _).trans (feq hd37).1) ?_
      show Steps p.tables e below (T8.setTop (mkF m 54 #[.val (.int a1), .val (.int a2), .val (.int a3), .val (.int xv), .val (.int n), .val (.ref b1), .val (.int (1 : Int32)), .unset, .unset, .unset] [])) _
      refine XS.iconst X8.here hx rfl (hb hby at_54) ?_
      show Steps p.tables e below (T8.setTop (mkF m 55 #[.val (.int a1), .val (.int a2), .val (.int a3), .val (.int xv), .val (.int n), .val (.ref b1), .val (.int (1 : Int32)), .unset, .unset, .unset] [(.int (1 : Int32))])) _
      refine XS.goto X8.here hx rfl (pc0 := 55) (pc' := 59) rfl (hb hby at_55) (by decide) (by decide) ?_
      show Steps p.tables e below (T8.setTop (mkF m 59 #[.val (.int a1), .val (.int a2), .val (.int a3), .val (.int xv), .val (.int n), .val (.ref b1), .val (.int (1 : Int32)), .unset, .unset, .unset] [(.int (1 : Int32))])) _
      refine XS.istore X8.here hx rfl (hb hby at_59) rfl (l' := #[.val (.int a1), .val (.int a2), .val (.int a3), .val (.int xv), .val (.int n), .val (.ref b1), .val (.int (1 : Int32)), .val (.int (1 : Int32)), .unset, .unset]) rfl ?_
      show Steps p.tables e below (T8.setTop (mkF m 61 #[.val (.int a1), .val (.int a2), .val (.int a3), .val (.int xv), .val (.int n), .val (.ref b1), .val (.int (1 : Int32)), .val (.int (1 : Int32)), .unset, .unset] [])) _
      refine XS.iload X8.here hx rfl (hb hby at_61) rfl ?_
      show Steps p.tables e below (T8.setTop (mkF m 63 #[.val (.int a1), .val (.int a2), .val (.int a3), .val (.int xv), .val (.int n), .val (.ref b1), .val (.int (1 : Int32)), .val (.int (1 : Int32)), .unset, .unset] [(.int (1 : Int32))])) _
      refine XS.ifNo X8.here hx rfl (hb hby at_63) rfl ((if0 _ _).trans (feq hd38).1) ?_
      show Steps p.tables e below (T8.setTop (mkF m 66 #[.val (.int a1), .val (.int a2), .val (.int a3), .val (.int xv), .val (.int n), .val (.ref b1), .val (.int (1 : Int32)), .val (.int (1 : Int32)), .unset, .unset] [])) _
      refine XS.aload X8.here hx rfl (hb hby at_66) rfl rfl ?_
      show Steps p.tables e below (T8.setTop (mkF m 68 #[.val (.int a1), .val (.int a2), .val (.int a3), .val (.int xv), .val (.int n), .val (.ref b1), .val (.int (1 : Int32)), .val (.int (1 : Int32)), .unset, .unset] [(.ref b1)])) _
      refine XS.iloadN X8.here hx rfl (hb hby at_68) rfl ?_
      show Steps p.tables e below (T8.setTop (mkF m 69 #[.val (.int a1), .val (.int a2), .val (.int a3), .val (.int xv), .val (.int n), .val (.ref b1), .val (.int (1 : Int32)), .val (.int (1 : Int32)), .unset, .unset] [(.int xv), (.ref b1)])) _
      refine st39 _ ?_
      show Steps p.tables e below (T39.setTop (mkF m 72 #[.val (.int a1), .val (.int a2), .val (.int a3), .val (.int xv), .val (.int n), .val (.ref b1), .val (.int (1 : Int32)), .val (.int (1 : Int32)), .unset, .unset] [])) _
      refine XS.aload X39.here hx rfl (hb hby at_72) rfl rfl ?_
      show Steps p.tables e below (T39.setTop (mkF m 74 #[.val (.int a1), .val (.int a2), .val (.int a3), .val (.int xv), .val (.int n), .val (.ref b1), .val (.int (1 : Int32)), .val (.int (1 : Int32)), .unset, .unset] [(.ref b1)])) _
      refine XS.iloadN X39.here hx rfl (hb hby at_74) rfl ?_
      show Steps p.tables e below (T39.setTop (mkF m 75 #[.val (.int a1), .val (.int a2), .val (.int a3), .val (.int xv), .val (.int n), .val (.ref b1), .val (.int (1 : Int32)), .val (.int (1 : Int32)), .unset, .unset] [(.int xv), (.ref b1)])) _
      refine XS.iconst X39.here hx rfl (hb hby at_75) ?_
      show Steps p.tables e below (T39.setTop (mkF m 76 #[.val (.int a1), .val (.int a2), .val (.int a3), .val (.int xv), .val (.int n), .val (.ref b1), .val (.int (1 : Int32)), .val (.int (1 : Int32)), .unset, .unset] [(.int (4 : Int32)), (.int xv), (.ref b1)])) _
      refine XS.iadd X39.here hx rfl (hb hby at_76) rfl ?_
      show Steps p.tables e below (T39.setTop (mkF m 77 #[.val (.int a1), .val (.int a2), .val (.int a3), .val (.int xv), .val (.int n), .val (.ref b1), .val (.int (1 : Int32)), .val (.int (1 : Int32)), .unset, .unset] [(.int (xv + (4 : Int32))), (.ref b1)])) _
      refine st40 _ ?_
      show Steps p.tables e below (T40.setTop (mkF m 80 #[.val (.int a1), .val (.int a2), .val (.int a3), .val (.int xv), .val (.int n), .val (.ref b1), .val (.int (1 : Int32)), .val (.int (1 : Int32)), .unset, .unset] [])) _
      refine XS.aload X40.here hx rfl (hb hby at_80) rfl rfl ?_
      show Steps p.tables e below (T40.setTop (mkF m 82 #[.val (.int a1), .val (.int a2), .val (.int a3), .val (.int xv), .val (.int n), .val (.ref b1), .val (.int (1 : Int32)), .val (.int (1 : Int32)), .unset, .unset] [(.ref b1)])) _
      refine XS.iloadN X40.here hx rfl (hb hby at_82) rfl ?_
      show Steps p.tables e below (T40.setTop (mkF m 83 #[.val (.int a1), .val (.int a2), .val (.int a3), .val (.int xv), .val (.int n), .val (.ref b1), .val (.int (1 : Int32)), .val (.int (1 : Int32)), .unset, .unset] [(.int xv), (.ref b1)])) _
      refine XS.bipush X40.here hx rfl (hb hby at_83) ?_
      show Steps p.tables e below (T40.setTop (mkF m 85 #[.val (.int a1), .val (.int a2), .val (.int a3), .val (.int xv), .val (.int n), .val (.ref b1), .val (.int (1 : Int32)), .val (.int (1 : Int32)), .unset, .unset] [(.int (8 : Int32)), (.int xv), (.ref b1)])) _
      refine XS.iadd X40.here hx rfl (hb hby at_85) rfl ?_
      show Steps p.tables e below (T40.setTop (mkF m 86 #[.val (.int a1), .val (.int a2), .val (.int a3), .val (.int xv), .val (.int n), .val (.ref b1), .val (.int (1 : Int32)), .val (.int (1 : Int32)), .unset, .unset] [(.int (xv + (8 : Int32))), (.ref b1)])) _
      refine st41 _ ?_
      show Steps p.tables e below (T41.setTop (mkF m 89 #[.val (.int a1), .val (.int a2), .val (.int a3), .val (.int xv), .val (.int n), .val (.ref b1), .val (.int (1 : Int32)), .val (.int (1 : Int32)), .unset, .unset] [])) _
      refine XS.aload X41.here hx rfl (hb hby at_89) rfl rfl ?_
      show Steps p.tables e below (T41.setTop (mkF m 91 #[.val (.int a1), .val (.int a2), .val (.int a3), .val (.int xv), .val (.int n), .val (.ref b1), .val (.int (1 : Int32)), .val (.int (1 : Int32)), .unset, .unset] [(.ref b1)])) _
      refine XS.iloadN X41.here hx rfl (hb hby at_91) rfl ?_
      show Steps p.tables e below (T41.setTop (mkF m 92 #[.val (.int a1), .val (.int a2), .val (.int a3), .val (.int xv), .val (.int n), .val (.ref b1), .val (.int (1 : Int32)), .val (.int (1 : Int32)), .unset, .unset] [(.int xv), (.ref b1)])) _
      refine XS.bipush X41.here hx rfl (hb hby at_92) ?_
      show Steps p.tables e below (T41.setTop (mkF m 94 #[.val (.int a1), .val (.int a2), .val (.int a3), .val (.int xv), .val (.int n), .val (.ref b1), .val (.int (1 : Int32)), .val (.int (1 : Int32)), .unset, .unset] [(.int (12 : Int32)), (.int xv), (.ref b1)])) _
      refine XS.iadd X41.here hx rfl (hb hby at_94) rfl ?_
      show Steps p.tables e below (T41.setTop (mkF m 95 #[.val (.int a1), .val (.int a2), .val (.int a3), .val (.int xv), .val (.int n), .val (.ref b1), .val (.int (1 : Int32)), .val (.int (1 : Int32)), .unset, .unset] [(.int (xv + (12 : Int32))), (.ref b1)])) _
      refine st42.trans ?_
      show Steps p.tables e below (T42.setTop (mkF m 98 #[.val (.int a1), .val (.int a2), .val (.int a3), .val (.int xv), .val (.int n), .val (.ref b1), .val (.int (1 : Int32)), .val (.int (1 : Int32)), .unset, .unset] [])) _
      refine XS.aload X42.here hx rfl (hb hby at_98) rfl rfl ?_
      show Steps p.tables e below (T42.setTop (mkF m 100 #[.val (.int a1), .val (.int a2), .val (.int a3), .val (.int xv), .val (.int n), .val (.ref b1), .val (.int (1 : Int32)), .val (.int (1 : Int32)), .unset, .unset] [(.ref b1)])) _
      refine XS.iloadN X42.here hx rfl (hb hby at_100) rfl ?_
      show Steps p.tables e below (T42.setTop (mkF m 101 #[.val (.int a1), .val (.int a2), .val (.int a3), .val (.int xv), .val (.int n), .val (.ref b1), .val (.int (1 : Int32)), .val (.int (1 : Int32)), .unset, .unset] [(.int xv), (.ref b1)])) _
      refine XS.bipush X42.here hx rfl (hb hby at_101) ?_
      show Steps p.tables e below (T42.setTop (mkF m 103 #[.val (.int a1), .val (.int a2), .val (.int a3), .val (.int xv), .val (.int n), .val (.ref b1), .val (.int (1 : Int32)), .val (.int (1 : Int32)), .unset, .unset] [(.int (13 : Int32)), (.int xv), (.ref b1)])) _
      refine XS.iadd X42.here hx rfl (hb hby at_103) rfl ?_
      show Steps p.tables e below (T42.setTop (mkF m 104 #[.val (.int a1), .val (.int a2), .val (.int a3), .val (.int xv), .val (.int n), .val (.ref b1), .val (.int (1 : Int32)), .val (.int (1 : Int32)), .unset, .unset] [(.int (xv + (13 : Int32))), (.ref b1)])) _
      refine st43.trans ?_
      show Steps p.tables e below (T43.setTop (mkF m 107 #[.val (.int a1), .val (.int a2), .val (.int a3), .val (.int xv), .val (.int n), .val (.ref b1), .val (.int (1 : Int32)), .val (.int (1 : Int32)), .unset, .unset] [])) _
      refine XS.iload X43.here hx rfl (hb hby at_107) rfl ?_
      show Steps p.tables e below (T43.setTop (mkF m 109 #[.val (.int a1), .val (.int a2), .val (.int a3), .val (.int xv), .val (.int n), .val (.ref b1), .val (.int (1 : Int32)), .val (.int (1 : Int32)), .unset, .unset] [(.int (1 : Int32))])) _
      refine XS.ifNo X43.here hx rfl (hb hby at_109) rfl ((if0 _ _).trans (feq hd44).1) ?_
      show Steps p.tables e below (T43.setTop (mkF m 112 #[.val (.int a1), .val (.int a2), .val (.int a3), .val (.int xv), .val (.int n), .val (.ref b1), .val (.int (1 : Int32)), .val (.int (1 : Int32)), .unset, .unset] [])) _
      refine XS.bipush X43.here hx rfl (hb hby at_112) ?_
      show Steps p.tables e below (T43.setTop (mkF m 114 #[.val (.int a1), .val (.int a2), .val (.int a3), .val (.int xv), .val (.int n), .val (.ref b1), .val (.int (1 : Int32)), .val (.int (1 : Int32)), .unset, .unset] [(.int (16 : Int32))])) _
      refine XS.goto X43.here hx rfl (pc0 := 114) (pc' := 118) rfl (hb hby at_114) (by decide) (by decide) ?_
      show Steps p.tables e below (T43.setTop (mkF m 118 #[.val (.int a1), .val (.int a2), .val (.int a3), .val (.int xv), .val (.int n), .val (.ref b1), .val (.int (1 : Int32)), .val (.int (1 : Int32)), .unset, .unset] [(.int (16 : Int32))])) _
      refine XS.istore X43.here hx rfl (hb hby at_118) rfl (l' := #[.val (.int a1), .val (.int a2), .val (.int a3), .val (.int xv), .val (.int n), .val (.ref b1), .val (.int (1 : Int32)), .val (.int (1 : Int32)), .val (.int (16 : Int32)), .unset]) rfl ?_
      show Steps p.tables e below (T43.setTop (mkF m 120 #[.val (.int a1), .val (.int a2), .val (.int a3), .val (.int xv), .val (.int n), .val (.ref b1), .val (.int (1 : Int32)), .val (.int (1 : Int32)), .val (.int (16 : Int32)), .unset] [])) _
      refine XS.iload X43.here hx rfl (hb hby at_120) rfl ?_
      show Steps p.tables e below (T43.setTop (mkF m 122 #[.val (.int a1), .val (.int a2), .val (.int a3), .val (.int xv), .val (.int n), .val (.ref b1), .val (.int (1 : Int32)), .val (.int (1 : Int32)), .val (.int (16 : Int32)), .unset] [(.int (1 : Int32))])) _
      refine XS.ifNo X43.here hx rfl (hb hby at_122) rfl ((if0 _ _).trans (feq hd45).1) ?_
      show Steps p.tables e below (T43.setTop (mkF m 125 #[.val (.int a1), .val (.int a2), .val (.int a3), .val (.int xv), .val (.int n), .val (.ref b1), .val (.int (1 : Int32)), .val (.int (1 : Int32)), .val (.int (16 : Int32)), .unset] [])) _
      refine XS.aload X43.here hx rfl (hb hby at_125) rfl rfl ?_
      show Steps p.tables e below (T43.setTop (mkF m 127 #[.val (.int a1), .val (.int a2), .val (.int a3), .val (.int xv), .val (.int n), .val (.ref b1), .val (.int (1 : Int32)), .val (.int (1 : Int32)), .val (.int (16 : Int32)), .unset] [(.ref b1)])) _
      refine st46.trans ?_
      show Steps p.tables e below (T46.setTop (mkF m 130 #[.val (.int a1), .val (.int a2), .val (.int a3), .val (.int xv), .val (.int n), .val (.ref b1), .val (.int (1 : Int32)), .val (.int (1 : Int32)), .val (.int (16 : Int32)), .unset] [(.int (16 : Int32))])) _
      refine XS.iload X46.here hx rfl (hb hby at_130) rfl ?_
      show Steps p.tables e below (T46.setTop (mkF m 132 #[.val (.int a1), .val (.int a2), .val (.int a3), .val (.int xv), .val (.int n), .val (.ref b1), .val (.int (1 : Int32)), .val (.int (1 : Int32)), .val (.int (16 : Int32)), .unset] [(.int (16 : Int32)), (.int (16 : Int32))])) _
      refine XS.icmpNo X46.here hx rfl (hb hby at_132) rfl (teq hd47).2 ?_
      show Steps p.tables e below (T46.setTop (mkF m 135 #[.val (.int a1), .val (.int a2), .val (.int a3), .val (.int xv), .val (.int n), .val (.ref b1), .val (.int (1 : Int32)), .val (.int (1 : Int32)), .val (.int (16 : Int32)), .unset] [])) _
      refine XS.iconst X46.here hx rfl (hb hby at_135) ?_
      show Steps p.tables e below (T46.setTop (mkF m 136 #[.val (.int a1), .val (.int a2), .val (.int a3), .val (.int xv), .val (.int n), .val (.ref b1), .val (.int (1 : Int32)), .val (.int (1 : Int32)), .val (.int (16 : Int32)), .unset] [(.int (1 : Int32))])) _
      refine XS.goto X46.here hx rfl (pc0 := 136) (pc' := 140) rfl (hb hby at_136) (by decide) (by decide) ?_
      show Steps p.tables e below (T46.setTop (mkF m 140 #[.val (.int a1), .val (.int a2), .val (.int a3), .val (.int xv), .val (.int n), .val (.ref b1), .val (.int (1 : Int32)), .val (.int (1 : Int32)), .val (.int (16 : Int32)), .unset] [(.int (1 : Int32))])) _
      refine XS.istore X46.here hx rfl (hb hby at_140) rfl (l' := #[.val (.int a1), .val (.int a2), .val (.int a3), .val (.int xv), .val (.int n), .val (.ref b1), .val (.int (1 : Int32)), .val (.int (1 : Int32)), .val (.int (16 : Int32)), .unset]) rfl ?_
      show Steps p.tables e below (T46.setTop (mkF m 142 #[.val (.int a1), .val (.int a2), .val (.int a3), .val (.int xv), .val (.int n), .val (.ref b1), .val (.int (1 : Int32)), .val (.int (1 : Int32)), .val (.int (16 : Int32)), .unset] [])) _
      refine XS.iload X46.here hx rfl (hb hby at_142) rfl ?_
      show Steps p.tables e below (T46.setTop (mkF m 144 #[.val (.int a1), .val (.int a2), .val (.int a3), .val (.int xv), .val (.int n), .val (.ref b1), .val (.int (1 : Int32)), .val (.int (1 : Int32)), .val (.int (16 : Int32)), .unset] [(.int (1 : Int32))])) _
      refine XS.ifYes X46.here hx rfl (pc0 := 144) (pc' := 149) rfl (hb hby at_144) rfl ((if0 _ _).trans (feq hd48).2) (by decide) (by decide) ?_
      show Steps p.tables e below (T46.setTop (mkF m 149 #[.val (.int a1), .val (.int a2), .val (.int a3), .val (.int xv), .val (.int n), .val (.ref b1), .val (.int (1 : Int32)), .val (.int (1 : Int32)), .val (.int (16 : Int32)), .unset] [])) _
      refine XS.aload X46.here hx rfl (hb hby at_149) rfl rfl ?_
      show Steps p.tables e below (T46.setTop (mkF m 151 #[.val (.int a1), .val (.int a2), .val (.int a3), .val (.int xv), .val (.int n), .val (.ref b1), .val (.int (1 : Int32)), .val (.int (1 : Int32)), .val (.int (16 : Int32)), .unset] [(.ref b1)])) _
      refine XS.iloadN X46.here hx rfl (hb hby at_151) rfl ?_
      show Steps p.tables e below (T46.setTop (mkF m 152 #[.val (.int a1), .val (.int a2), .val (.int a3), .val (.int xv), .val (.int n), .val (.ref b1), .val (.int (1 : Int32)), .val (.int (1 : Int32)), .val (.int (16 : Int32)), .unset] [(.int a3), (.ref b1)])) _
      refine st49.trans ?_
      show Steps p.tables e below (T49.setTop (mkF m 155 #[.val (.int a1), .val (.int a2), .val (.int a3), .val (.int xv), .val (.int n), .val (.ref b1), .val (.int (1 : Int32)), .val (.int (1 : Int32)), .val (.int (16 : Int32)), .unset] [])) _
      refine XS.aload X49.here hx rfl (hb hby at_155) rfl rfl ?_
      show Steps p.tables e below (T49.setTop (mkF m 157 #[.val (.int a1), .val (.int a2), .val (.int a3), .val (.int xv), .val (.int n), .val (.ref b1), .val (.int (1 : Int32)), .val (.int (1 : Int32)), .val (.int (16 : Int32)), .unset] [(.ref b1)])) _
      refine st50.trans ?_
      show Steps p.tables e below (T50.setTop (mkF m 160 #[.val (.int a1), .val (.int a2), .val (.int a3), .val (.int xv), .val (.int n), .val (.ref b1), .val (.int (1 : Int32)), .val (.int (1 : Int32)), .val (.int (16 : Int32)), .unset] [(.ref ar50)])) _
      refine XS.astore X50.here hx rfl (hb hby at_160) rfl rfl (l' := #[.val (.int a1), .val (.int a2), .val (.int a3), .val (.int xv), .val (.int n), .val (.ref b1), .val (.int (1 : Int32)), .val (.int (1 : Int32)), .val (.int (16 : Int32)), .val (.ref ar50)]) rfl ?_
      show Steps p.tables e below (T50.setTop (mkF m 162 #[.val (.int a1), .val (.int a2), .val (.int a3), .val (.int xv), .val (.int n), .val (.ref b1), .val (.int (1 : Int32)), .val (.int (1 : Int32)), .val (.int (16 : Int32)), .val (.ref ar50)] [])) _
      refine XS.aload X50.here hx rfl (hb hby at_162) rfl rfl ?_
      show Steps p.tables e below (T50.setTop (mkF m 164 #[.val (.int a1), .val (.int a2), .val (.int a3), .val (.int xv), .val (.int n), .val (.ref b1), .val (.int (1 : Int32)), .val (.int (1 : Int32)), .val (.int (16 : Int32)), .val (.ref ar50)] [(.ref b1)])) _
      refine st51.trans ?_
      show Steps p.tables e below (T51.setTop (mkF m 167 #[.val (.int a1), .val (.int a2), .val (.int a3), .val (.int xv), .val (.int n), .val (.ref b1), .val (.int (1 : Int32)), .val (.int (1 : Int32)), .val (.int (16 : Int32)), .val (.ref ar50)] [(.int (17 : Int32))])) _
      refine XS.iload X51.here hx rfl (hb hby at_167) rfl ?_
      show Steps p.tables e below (T51.setTop (mkF m 169 #[.val (.int a1), .val (.int a2), .val (.int a3), .val (.int xv), .val (.int n), .val (.ref b1), .val (.int (1 : Int32)), .val (.int (1 : Int32)), .val (.int (16 : Int32)), .val (.ref ar50)] [(.int (16 : Int32)), (.int (17 : Int32))])) _
      refine XS.iconst X51.here hx rfl (hb hby at_169) ?_
      show Steps p.tables e below (T51.setTop (mkF m 170 #[.val (.int a1), .val (.int a2), .val (.int a3), .val (.int xv), .val (.int n), .val (.ref b1), .val (.int (1 : Int32)), .val (.int (1 : Int32)), .val (.int (16 : Int32)), .val (.ref ar50)] [(.int (1 : Int32)), (.int (16 : Int32)), (.int (17 : Int32))])) _
      refine XS.iadd X51.here hx rfl (hb hby at_170) rfl ?_
      show Steps p.tables e below (T51.setTop (mkF m 171 #[.val (.int a1), .val (.int a2), .val (.int a3), .val (.int xv), .val (.int n), .val (.ref b1), .val (.int (1 : Int32)), .val (.int (1 : Int32)), .val (.int (16 : Int32)), .val (.ref ar50)] [(.int ((16 : Int32) + (1 : Int32))), (.int (17 : Int32))])) _
      rw [(by decide : (16 : Int32) + (1 : Int32) = (17 : Int32))]
      show Steps p.tables e below (T51.setTop (mkF m 171 #[.val (.int a1), .val (.int a2), .val (.int a3), .val (.int xv), .val (.int n), .val (.ref b1), .val (.int (1 : Int32)), .val (.int (1 : Int32)), .val (.int (16 : Int32)), .val (.ref ar50)] [(.int (17 : Int32)), (.int (17 : Int32))])) _
      refine XS.icmpNo X51.here hx rfl (hb hby at_171) rfl (teq hd52).2 ?_
      show Steps p.tables e below (T51.setTop (mkF m 174 #[.val (.int a1), .val (.int a2), .val (.int a3), .val (.int xv), .val (.int n), .val (.ref b1), .val (.int (1 : Int32)), .val (.int (1 : Int32)), .val (.int (16 : Int32)), .val (.ref ar50)] [])) _
      refine XS.aload X51.here hx rfl (hb hby at_174) rfl rfl ?_
      show Steps p.tables e below (T51.setTop (mkF m 176 #[.val (.int a1), .val (.int a2), .val (.int a3), .val (.int xv), .val (.int n), .val (.ref b1), .val (.int (1 : Int32)), .val (.int (1 : Int32)), .val (.int (16 : Int32)), .val (.ref ar50)] [(.ref ar50)])) _
      refine X51.arraylength hx (by rw [e51]; exact Ar176_53.1) (State.isArrayOf_alike hZ.alike Ar176_53.2.1) (g := (mkF m 176 #[.val (.int a1), .val (.int a2), .val (.int a3), .val (.int xv), .val (.int n), .val (.ref b1), .val (.int (1 : Int32)), .val (.int (1 : Int32)), .val (.int (16 : Int32)), .val (.ref ar50)] [(.ref ar50)])) rfl rfl (hb hby at_176) _ ?_
      rw [len_of S176_53 N176_53_]
      show Steps p.tables e below (T51.setTop (mkF m 177 #[.val (.int a1), .val (.int a2), .val (.int a3), .val (.int xv), .val (.int n), .val (.ref b1), .val (.int (1 : Int32)), .val (.int (1 : Int32)), .val (.int (16 : Int32)), .val (.ref ar50)] [(.int (17 : Int32))])) _
      refine XS.iload X51.here hx rfl (hb hby at_177) rfl ?_
      show Steps p.tables e below (T51.setTop (mkF m 179 #[.val (.int a1), .val (.int a2), .val (.int a3), .val (.int xv), .val (.int n), .val (.ref b1), .val (.int (1 : Int32)), .val (.int (1 : Int32)), .val (.int (16 : Int32)), .val (.ref ar50)] [(.int (16 : Int32)), (.int (17 : Int32))])) _
      refine XS.iconst X51.here hx rfl (hb hby at_179) ?_
      show Steps p.tables e below (T51.setTop (mkF m 180 #[.val (.int a1), .val (.int a2), .val (.int a3), .val (.int xv), .val (.int n), .val (.ref b1), .val (.int (1 : Int32)), .val (.int (1 : Int32)), .val (.int (16 : Int32)), .val (.ref ar50)] [(.int (1 : Int32)), (.int (16 : Int32)), (.int (17 : Int32))])) _
      refine XS.iadd X51.here hx rfl (hb hby at_180) rfl ?_
      show Steps p.tables e below (T51.setTop (mkF m 181 #[.val (.int a1), .val (.int a2), .val (.int a3), .val (.int xv), .val (.int n), .val (.ref b1), .val (.int (1 : Int32)), .val (.int (1 : Int32)), .val (.int (16 : Int32)), .val (.ref ar50)] [(.int ((16 : Int32) + (1 : Int32))), (.int (17 : Int32))])) _
      rw [(by decide : (16 : Int32) + (1 : Int32) = (17 : Int32))]
      show Steps p.tables e below (T51.setTop (mkF m 181 #[.val (.int a1), .val (.int a2), .val (.int a3), .val (.int xv), .val (.int n), .val (.ref b1), .val (.int (1 : Int32)), .val (.int (1 : Int32)), .val (.int (16 : Int32)), .val (.ref ar50)] [(.int (17 : Int32)), (.int (17 : Int32))])) _
      refine XS.icmpNo X51.here hx rfl (hb hby at_181) rfl (teq hd54).2 ?_
      show Steps p.tables e below (T51.setTop (mkF m 184 #[.val (.int a1), .val (.int a2), .val (.int a3), .val (.int xv), .val (.int n), .val (.ref b1), .val (.int (1 : Int32)), .val (.int (1 : Int32)), .val (.int (16 : Int32)), .val (.ref ar50)] [])) _
      refine XS.aload X51.here hx rfl (hb hby at_184) rfl rfl ?_
      show Steps p.tables e below (T51.setTop (mkF m 186 #[.val (.int a1), .val (.int a2), .val (.int a3), .val (.int xv), .val (.int n), .val (.ref b1), .val (.int (1 : Int32)), .val (.int (1 : Int32)), .val (.int (16 : Int32)), .val (.ref ar50)] [(.ref b1)])) _
      refine XS.iconst X51.here hx rfl (hb hby at_186) ?_
      show Steps p.tables e below (T51.setTop (mkF m 187 #[.val (.int a1), .val (.int a2), .val (.int a3), .val (.int xv), .val (.int n), .val (.ref b1), .val (.int (1 : Int32)), .val (.int (1 : Int32)), .val (.int (16 : Int32)), .val (.ref ar50)] [(.int (0 : Int32)), (.ref b1)])) _
      refine st55.trans ?_
      show Steps p.tables e below (T55.setTop (mkF m 190 #[.val (.int a1), .val (.int a2), .val (.int a3), .val (.int xv), .val (.int n), .val (.ref b1), .val (.int (1 : Int32)), .val (.int (1 : Int32)), .val (.int (16 : Int32)), .val (.ref ar50)] [(.int a1)])) _
      refine XS.iloadN X55.here hx rfl (hb hby at_190) rfl ?_
      show Steps p.tables e below (T55.setTop (mkF m 191 #[.val (.int a1), .val (.int a2), .val (.int a3), .val (.int xv), .val (.int n), .val (.ref b1), .val (.int (1 : Int32)), .val (.int (1 : Int32)), .val (.int (16 : Int32)), .val (.ref ar50)] [(.int a1), (.int a1)])) _
      refine XS.icmpNo X55.here hx rfl (hb hby at_191) rfl (teq hd56).2 ?_
      show Steps p.tables e below (T55.setTop (mkF m 194 #[.val (.int a1), .val (.int a2), .val (.int a3), .val (.int xv), .val (.int n), .val (.ref b1), .val (.int (1 : Int32)), .val (.int (1 : Int32)), .val (.int (16 : Int32)), .val (.ref ar50)] [])) _
      refine XS.aload X55.here hx rfl (hb hby at_194) rfl rfl ?_
      show Steps p.tables e below (T55.setTop (mkF m 196 #[.val (.int a1), .val (.int a2), .val (.int a3), .val (.int xv), .val (.int n), .val (.ref b1), .val (.int (1 : Int32)), .val (.int (1 : Int32)), .val (.int (16 : Int32)), .val (.ref ar50)] [(.ref b1)])) _
      refine XS.iconst X55.here hx rfl (hb hby at_196) ?_
      show Steps p.tables e below (T55.setTop (mkF m 197 #[.val (.int a1), .val (.int a2), .val (.int a3), .val (.int xv), .val (.int n), .val (.ref b1), .val (.int (1 : Int32)), .val (.int (1 : Int32)), .val (.int (16 : Int32)), .val (.ref ar50)] [(.int (1 : Int32)), (.ref b1)])) _
      refine st57.trans ?_
      show Steps p.tables e below (T57.setTop (mkF m 200 #[.val (.int a1), .val (.int a2), .val (.int a3), .val (.int xv), .val (.int n), .val (.ref b1), .val (.int (1 : Int32)), .val (.int (1 : Int32)), .val (.int (16 : Int32)), .val (.ref ar50)] [(.int a2)])) _
      refine XS.iloadN X57.here hx rfl (hb hby at_200) rfl ?_
      show Steps p.tables e below (T57.setTop (mkF m 201 #[.val (.int a1), .val (.int a2), .val (.int a3), .val (.int xv), .val (.int n), .val (.ref b1), .val (.int (1 : Int32)), .val (.int (1 : Int32)), .val (.int (16 : Int32)), .val (.ref ar50)] [(.int a2), (.int a2)])) _
      refine XS.icmpNo X57.here hx rfl (hb hby at_201) rfl (teq hd58).2 ?_
      show Steps p.tables e below (T57.setTop (mkF m 204 #[.val (.int a1), .val (.int a2), .val (.int a3), .val (.int xv), .val (.int n), .val (.ref b1), .val (.int (1 : Int32)), .val (.int (1 : Int32)), .val (.int (16 : Int32)), .val (.ref ar50)] [])) _
      refine XS.aload X57.here hx rfl (hb hby at_204) rfl rfl ?_
      show Steps p.tables e below (T57.setTop (mkF m 206 #[.val (.int a1), .val (.int a2), .val (.int a3), .val (.int xv), .val (.int n), .val (.ref b1), .val (.int (1 : Int32)), .val (.int (1 : Int32)), .val (.int (16 : Int32)), .val (.ref ar50)] [(.ref b1)])) _
      refine XS.iload X57.here hx rfl (hb hby at_206) rfl ?_
      show Steps p.tables e below (T57.setTop (mkF m 208 #[.val (.int a1), .val (.int a2), .val (.int a3), .val (.int xv), .val (.int n), .val (.ref b1), .val (.int (1 : Int32)), .val (.int (1 : Int32)), .val (.int (16 : Int32)), .val (.ref ar50)] [(.int (16 : Int32)), (.ref b1)])) _
      refine st59.trans ?_
      show Steps p.tables e below (T59.setTop (mkF m 211 #[.val (.int a1), .val (.int a2), .val (.int a3), .val (.int xv), .val (.int n), .val (.ref b1), .val (.int (1 : Int32)), .val (.int (1 : Int32)), .val (.int (16 : Int32)), .val (.ref ar50)] [(.int a3)])) _
      refine XS.iloadN X59.here hx rfl (hb hby at_211) rfl ?_
      show Steps p.tables e below (T59.setTop (mkF m 212 #[.val (.int a1), .val (.int a2), .val (.int a3), .val (.int xv), .val (.int n), .val (.ref b1), .val (.int (1 : Int32)), .val (.int (1 : Int32)), .val (.int (16 : Int32)), .val (.ref ar50)] [(.int a3), (.int a3)])) _
      refine XS.icmpNo X59.here hx rfl (hb hby at_212) rfl (teq hd60).2 ?_
      show Steps p.tables e below (T59.setTop (mkF m 215 #[.val (.int a1), .val (.int a2), .val (.int a3), .val (.int xv), .val (.int n), .val (.ref b1), .val (.int (1 : Int32)), .val (.int (1 : Int32)), .val (.int (16 : Int32)), .val (.ref ar50)] [])) _
      refine XS.aload X59.here hx rfl (hb hby at_215) rfl rfl ?_
      show Steps p.tables e below (T59.setTop (mkF m 217 #[.val (.int a1), .val (.int a2), .val (.int a3), .val (.int xv), .val (.int n), .val (.ref b1), .val (.int (1 : Int32)), .val (.int (1 : Int32)), .val (.int (16 : Int32)), .val (.ref ar50)] [(.ref ar50)])) _
      refine XS.iconst X59.here hx rfl (hb hby at_217) ?_
      show Steps p.tables e below (T59.setTop (mkF m 218 #[.val (.int a1), .val (.int a2), .val (.int a3), .val (.int xv), .val (.int n), .val (.ref b1), .val (.int (1 : Int32)), .val (.int (1 : Int32)), .val (.int (16 : Int32)), .val (.ref ar50)] [(.int (0 : Int32)), (.ref ar50)])) _
      refine X59.iaload hx (j := (0 : Int32)) (v := (.int a1)) (by rw [e59]; exact Ar218_61.1) (State.isArrayOf_alike hZ.alike Ar218_61.2.1) Ar218_61.2.2 hin218_61 hat218_61 (g := (mkF m 218 #[.val (.int a1), .val (.int a2), .val (.int a3), .val (.int xv), .val (.int n), .val (.ref b1), .val (.int (1 : Int32)), .val (.int (1 : Int32)), .val (.int (16 : Int32)), .val (.ref ar50)] [(.int (0 : Int32)), (.ref ar50)])) rfl rfl (hb hby at_218) _ ?_
      show Steps p.tables e below (T59.setTop (mkF m 219 #[.val (.int a1), .val (.int a2), .val (.int a3), .val (.int xv), .val (.int n), .val (.ref b1), .val (.int (1 : Int32)), .val (.int (1 : Int32)), .val (.int (16 : Int32)), .val (.ref ar50)] [(.int a1)])) _
      refine XS.iloadN X59.here hx rfl (hb hby at_219) rfl ?_
      show Steps p.tables e below (T59.setTop (mkF m 220 #[.val (.int a1), .val (.int a2), .val (.int a3), .val (.int xv), .val (.int n), .val (.ref b1), .val (.int (1 : Int32)), .val (.int (1 : Int32)), .val (.int (16 : Int32)), .val (.ref ar50)] [(.int a1), (.int a1)])) _
      refine XS.icmpNo X59.here hx rfl (hb hby at_220) rfl (teq hd62).2 ?_
      show Steps p.tables e below (T59.setTop (mkF m 223 #[.val (.int a1), .val (.int a2), .val (.int a3), .val (.int xv), .val (.int n), .val (.ref b1), .val (.int (1 : Int32)), .val (.int (1 : Int32)), .val (.int (16 : Int32)), .val (.ref ar50)] [])) _
      refine XS.aload X59.here hx rfl (hb hby at_223) rfl rfl ?_
      show Steps p.tables e below (T59.setTop (mkF m 225 #[.val (.int a1), .val (.int a2), .val (.int a3), .val (.int xv), .val (.int n), .val (.ref b1), .val (.int (1 : Int32)), .val (.int (1 : Int32)), .val (.int (16 : Int32)), .val (.ref ar50)] [(.ref ar50)])) _
      refine XS.iconst X59.here hx rfl (hb hby at_225) ?_
      show Steps p.tables e below (T59.setTop (mkF m 226 #[.val (.int a1), .val (.int a2), .val (.int a3), .val (.int xv), .val (.int n), .val (.ref b1), .val (.int (1 : Int32)), .val (.int (1 : Int32)), .val (.int (16 : Int32)), .val (.ref ar50)] [(.int (1 : Int32)), (.ref ar50)])) _
      refine X59.iaload hx (j := (1 : Int32)) (v := (.int a2)) (by rw [e59]; exact Ar226_63.1) (State.isArrayOf_alike hZ.alike Ar226_63.2.1) Ar226_63.2.2 hin226_63 hat226_63 (g := (mkF m 226 #[.val (.int a1), .val (.int a2), .val (.int a3), .val (.int xv), .val (.int n), .val (.ref b1), .val (.int (1 : Int32)), .val (.int (1 : Int32)), .val (.int (16 : Int32)), .val (.ref ar50)] [(.int (1 : Int32)), (.ref ar50)])) rfl rfl (hb hby at_226) _ ?_
      show Steps p.tables e below (T59.setTop (mkF m 227 #[.val (.int a1), .val (.int a2), .val (.int a3), .val (.int xv), .val (.int n), .val (.ref b1), .val (.int (1 : Int32)), .val (.int (1 : Int32)), .val (.int (16 : Int32)), .val (.ref ar50)] [(.int a2)])) _
      refine XS.iloadN X59.here hx rfl (hb hby at_227) rfl ?_
      show Steps p.tables e below (T59.setTop (mkF m 228 #[.val (.int a1), .val (.int a2), .val (.int a3), .val (.int xv), .val (.int n), .val (.ref b1), .val (.int (1 : Int32)), .val (.int (1 : Int32)), .val (.int (16 : Int32)), .val (.ref ar50)] [(.int a2), (.int a2)])) _
      refine XS.icmpNo X59.here hx rfl (hb hby at_228) rfl (teq hd64).2 ?_
      show Steps p.tables e below (T59.setTop (mkF m 231 #[.val (.int a1), .val (.int a2), .val (.int a3), .val (.int xv), .val (.int n), .val (.ref b1), .val (.int (1 : Int32)), .val (.int (1 : Int32)), .val (.int (16 : Int32)), .val (.ref ar50)] [])) _
      refine XS.aload X59.here hx rfl (hb hby at_231) rfl rfl ?_
      show Steps p.tables e below (T59.setTop (mkF m 233 #[.val (.int a1), .val (.int a2), .val (.int a3), .val (.int xv), .val (.int n), .val (.ref b1), .val (.int (1 : Int32)), .val (.int (1 : Int32)), .val (.int (16 : Int32)), .val (.ref ar50)] [(.ref ar50)])) _
      refine XS.iload X59.here hx rfl (hb hby at_233) rfl ?_
      show Steps p.tables e below (T59.setTop (mkF m 235 #[.val (.int a1), .val (.int a2), .val (.int a3), .val (.int xv), .val (.int n), .val (.ref b1), .val (.int (1 : Int32)), .val (.int (1 : Int32)), .val (.int (16 : Int32)), .val (.ref ar50)] [(.int (16 : Int32)), (.ref ar50)])) _
      refine X59.iaload hx (j := (16 : Int32)) (v := (.int a3)) (by rw [e59]; exact Ar235_65.1) (State.isArrayOf_alike hZ.alike Ar235_65.2.1) Ar235_65.2.2 hin235_65 hat235_65 (g := (mkF m 235 #[.val (.int a1), .val (.int a2), .val (.int a3), .val (.int xv), .val (.int n), .val (.ref b1), .val (.int (1 : Int32)), .val (.int (1 : Int32)), .val (.int (16 : Int32)), .val (.ref ar50)] [(.int (16 : Int32)), (.ref ar50)])) rfl rfl (hb hby at_235) _ ?_
      show Steps p.tables e below (T59.setTop (mkF m 236 #[.val (.int a1), .val (.int a2), .val (.int a3), .val (.int xv), .val (.int n), .val (.ref b1), .val (.int (1 : Int32)), .val (.int (1 : Int32)), .val (.int (16 : Int32)), .val (.ref ar50)] [(.int a3)])) _
      refine XS.iloadN X59.here hx rfl (hb hby at_236) rfl ?_
      show Steps p.tables e below (T59.setTop (mkF m 237 #[.val (.int a1), .val (.int a2), .val (.int a3), .val (.int xv), .val (.int n), .val (.ref b1), .val (.int (1 : Int32)), .val (.int (1 : Int32)), .val (.int (16 : Int32)), .val (.ref ar50)] [(.int a3), (.int a3)])) _
      refine XS.icmpNo X59.here hx rfl (hb hby at_237) rfl (teq hd66).2 ?_
      show Steps p.tables e below (T59.setTop (mkF m 240 #[.val (.int a1), .val (.int a2), .val (.int a3), .val (.int xv), .val (.int n), .val (.ref b1), .val (.int (1 : Int32)), .val (.int (1 : Int32)), .val (.int (16 : Int32)), .val (.ref ar50)] [])) _
      refine XS.iconst X59.here hx rfl (hb hby at_240) ?_
      show Steps p.tables e below (T59.setTop (mkF m 241 #[.val (.int a1), .val (.int a2), .val (.int a3), .val (.int xv), .val (.int n), .val (.ref b1), .val (.int (1 : Int32)), .val (.int (1 : Int32)), .val (.int (16 : Int32)), .val (.ref ar50)] [(.int (1 : Int32))])) _
      refine XS.goto X59.here hx rfl (pc0 := 241) (pc' := 245) rfl (hb hby at_241) (by decide) (by decide) ?_
      show Steps p.tables e below (T59.setTop (mkF m 245 #[.val (.int a1), .val (.int a2), .val (.int a3), .val (.int xv), .val (.int n), .val (.ref b1), .val (.int (1 : Int32)), .val (.int (1 : Int32)), .val (.int (16 : Int32)), .val (.ref ar50)] [(.int (1 : Int32))])) _
      refine XS.istore X59.here hx rfl (hb hby at_245) rfl (l' := #[.val (.int a1), .val (.int a2), .val (.int a3), .val (.int xv), .val (.int n), .val (.ref b1), .val (.int (1 : Int32)), .val (.int (1 : Int32)), .val (.int (16 : Int32)), .val (.ref ar50)]) rfl ?_
      show Steps p.tables e below (T59.setTop (mkF m 247 #[.val (.int a1), .val (.int a2), .val (.int a3), .val (.int xv), .val (.int n), .val (.ref b1), .val (.int (1 : Int32)), .val (.int (1 : Int32)), .val (.int (16 : Int32)), .val (.ref ar50)] [])) _
      refine XS.iload X59.here hx rfl (hb hby at_247) rfl ?_
      show Steps p.tables e below (T59.setTop (mkF m 249 #[.val (.int a1), .val (.int a2), .val (.int a3), .val (.int xv), .val (.int n), .val (.ref b1), .val (.int (1 : Int32)), .val (.int (1 : Int32)), .val (.int (16 : Int32)), .val (.ref ar50)] [(.int (1 : Int32))])) _
      refine XS.ifNo X59.here hx rfl (hb hby at_249) rfl ((if0 _ _).trans (feq hd67).1) ?_
      show Steps p.tables e below (T59.setTop (mkF m 252 #[.val (.int a1), .val (.int a2), .val (.int a3), .val (.int xv), .val (.int n), .val (.ref b1), .val (.int (1 : Int32)), .val (.int (1 : Int32)), .val (.int (16 : Int32)), .val (.ref ar50)] [])) _
      refine XS.iload X59.here hx rfl (hb hby at_252) rfl ?_
      show Steps p.tables e below (T59.setTop (mkF m 254 #[.val (.int a1), .val (.int a2), .val (.int a3), .val (.int xv), .val (.int n), .val (.ref b1), .val (.int (1 : Int32)), .val (.int (1 : Int32)), .val (.int (16 : Int32)), .val (.ref ar50)] [(.int (1 : Int32))])) _
      refine XS.ifNo X59.here hx rfl (hb hby at_254) rfl ((if0 _ _).trans (feq hd68).1) ?_
      show Steps p.tables e below (T59.setTop (mkF m 257 #[.val (.int a1), .val (.int a2), .val (.int a3), .val (.int xv), .val (.int n), .val (.ref b1), .val (.int (1 : Int32)), .val (.int (1 : Int32)), .val (.int (16 : Int32)), .val (.ref ar50)] [])) _
      refine XS.aload X59.here hx rfl (hb hby at_257) rfl rfl ?_
      show Steps p.tables e below (T59.setTop (mkF m 259 #[.val (.int a1), .val (.int a2), .val (.int a3), .val (.int xv), .val (.int n), .val (.ref b1), .val (.int (1 : Int32)), .val (.int (1 : Int32)), .val (.int (16 : Int32)), .val (.ref ar50)] [(.ref b1)])) _
      refine XS.iconst X59.here hx rfl (hb hby at_259) ?_
      show Steps p.tables e below (T59.setTop (mkF m 260 #[.val (.int a1), .val (.int a2), .val (.int a3), .val (.int xv), .val (.int n), .val (.ref b1), .val (.int (1 : Int32)), .val (.int (1 : Int32)), .val (.int (16 : Int32)), .val (.ref ar50)] [(.int (2 : Int32)), (.ref b1)])) _
      refine st69.trans ?_
      show Steps p.tables e below (T69.setTop (mkF m 263 #[.val (.int a1), .val (.int a2), .val (.int a3), .val (.int xv), .val (.int n), .val (.ref b1), .val (.int (1 : Int32)), .val (.int (1 : Int32)), .val (.int (16 : Int32)), .val (.ref ar50)] [(.int xv)])) _
      refine XS.iloadN X69.here hx rfl (hb hby at_263) rfl ?_
      show Steps p.tables e below (T69.setTop (mkF m 264 #[.val (.int a1), .val (.int a2), .val (.int a3), .val (.int xv), .val (.int n), .val (.ref b1), .val (.int (1 : Int32)), .val (.int (1 : Int32)), .val (.int (16 : Int32)), .val (.ref ar50)] [(.int xv), (.int xv)])) _
      refine XS.icmpNo X69.here hx rfl (hb hby at_264) rfl (teq hd70).2 ?_
      show Steps p.tables e below (T69.setTop (mkF m 267 #[.val (.int a1), .val (.int a2), .val (.int a3), .val (.int xv), .val (.int n), .val (.ref b1), .val (.int (1 : Int32)), .val (.int (1 : Int32)), .val (.int (16 : Int32)), .val (.ref ar50)] [])) _
      refine XS.aload X69.here hx rfl (hb hby at_267) rfl rfl ?_
      show Steps p.tables e below (T69.setTop (mkF m 269 #[.val (.int a1), .val (.int a2), .val (.int a3), .val (.int xv), .val (.int n), .val (.ref b1), .val (.int (1 : Int32)), .val (.int (1 : Int32)), .val (.int (16 : Int32)), .val (.ref ar50)] [(.ref b1)])) _
      refine XS.bipush X69.here hx rfl (hb hby at_269) ?_
      show Steps p.tables e below (T69.setTop (mkF m 271 #[.val (.int a1), .val (.int a2), .val (.int a3), .val (.int xv), .val (.int n), .val (.ref b1), .val (.int (1 : Int32)), .val (.int (1 : Int32)), .val (.int (16 : Int32)), .val (.ref ar50)] [(.int (9 : Int32)), (.ref b1)])) _
      refine st71.trans ?_
      show Steps p.tables e below (T71.setTop (mkF m 274 #[.val (.int a1), .val (.int a2), .val (.int a3), .val (.int xv), .val (.int n), .val (.ref b1), .val (.int (1 : Int32)), .val (.int (1 : Int32)), .val (.int (16 : Int32)), .val (.ref ar50)] [(.int ((xv + (4 : Int32)) + (3 : Int32)))])) _
      refine XS.iloadN X71.here hx rfl (hb hby at_274) rfl ?_
      show Steps p.tables e below (T71.setTop (mkF m 275 #[.val (.int a1), .val (.int a2), .val (.int a3), .val (.int xv), .val (.int n), .val (.ref b1), .val (.int (1 : Int32)), .val (.int (1 : Int32)), .val (.int (16 : Int32)), .val (.ref ar50)] [(.int xv), (.int ((xv + (4 : Int32)) + (3 : Int32)))])) _
      refine XS.bipush X71.here hx rfl (hb hby at_275) ?_
      show Steps p.tables e below (T71.setTop (mkF m 277 #[.val (.int a1), .val (.int a2), .val (.int a3), .val (.int xv), .val (.int n), .val (.ref b1), .val (.int (1 : Int32)), .val (.int (1 : Int32)), .val (.int (16 : Int32)), .val (.ref ar50)] [(.int (7 : Int32)), (.int xv), (.int ((xv + (4 : Int32)) + (3 : Int32)))])) _
      refine XS.iadd X71.here hx rfl (hb hby at_277) rfl ?_
      show Steps p.tables e below (T71.setTop (mkF m 278 #[.val (.int a1), .val (.int a2), .val (.int a3), .val (.int xv), .val (.int n), .val (.ref b1), .val (.int (1 : Int32)), .val (.int (1 : Int32)), .val (.int (16 : Int32)), .val (.ref ar50)] [(.int (xv + (7 : Int32))), (.int ((xv + (4 : Int32)) + (3 : Int32)))])) _
      refine XS.icmpNo X71.here hx rfl (hb hby at_278) rfl (teq hd72).2 ?_
      show Steps p.tables e below (T71.setTop (mkF m 281 #[.val (.int a1), .val (.int a2), .val (.int a3), .val (.int xv), .val (.int n), .val (.ref b1), .val (.int (1 : Int32)), .val (.int (1 : Int32)), .val (.int (16 : Int32)), .val (.ref ar50)] [])) _
      refine XS.aload X71.here hx rfl (hb hby at_281) rfl rfl ?_
      show Steps p.tables e below (T71.setTop (mkF m 283 #[.val (.int a1), .val (.int a2), .val (.int a3), .val (.int xv), .val (.int n), .val (.ref b1), .val (.int (1 : Int32)), .val (.int (1 : Int32)), .val (.int (16 : Int32)), .val (.ref ar50)] [(.ref b1)])) _
      refine XS.bipush X71.here hx rfl (hb hby at_283) ?_
      show Steps p.tables e below (T71.setTop (mkF m 285 #[.val (.int a1), .val (.int a2), .val (.int a3), .val (.int xv), .val (.int n), .val (.ref b1), .val (.int (1 : Int32)), .val (.int (1 : Int32)), .val (.int (16 : Int32)), .val (.ref ar50)] [(.int (15 : Int32)), (.ref b1)])) _
      refine st73.trans ?_
      show Steps p.tables e below (T73.setTop (mkF m 288 #[.val (.int a1), .val (.int a2), .val (.int a3), .val (.int xv), .val (.int n), .val (.ref b1), .val (.int (1 : Int32)), .val (.int (1 : Int32)), .val (.int (16 : Int32)), .val (.ref ar50)] [(.int (xv + (13 : Int32)))])) _
      refine XS.iloadN X73.here hx rfl (hb hby at_288) rfl ?_
      show Steps p.tables e below (T73.setTop (mkF m 289 #[.val (.int a1), .val (.int a2), .val (.int a3), .val (.int xv), .val (.int n), .val (.ref b1), .val (.int (1 : Int32)), .val (.int (1 : Int32)), .val (.int (16 : Int32)), .val (.ref ar50)] [(.int xv), (.int (xv + (13 : Int32)))])) _
      refine XS.bipush X73.here hx rfl (hb hby at_289) ?_
      show Steps p.tables e below (T73.setTop (mkF m 291 #[.val (.int a1), .val (.int a2), .val (.int a3), .val (.int xv), .val (.int n), .val (.ref b1), .val (.int (1 : Int32)), .val (.int (1 : Int32)), .val (.int (16 : Int32)), .val (.ref ar50)] [(.int (13 : Int32)), (.int xv), (.int (xv + (13 : Int32)))])) _
      refine XS.iadd X73.here hx rfl (hb hby at_291) rfl ?_
      show Steps p.tables e below (T73.setTop (mkF m 292 #[.val (.int a1), .val (.int a2), .val (.int a3), .val (.int xv), .val (.int n), .val (.ref b1), .val (.int (1 : Int32)), .val (.int (1 : Int32)), .val (.int (16 : Int32)), .val (.ref ar50)] [(.int (xv + (13 : Int32))), (.int (xv + (13 : Int32)))])) _
      refine XS.icmpNo X73.here hx rfl (hb hby at_292) rfl (teq hd74).2 ?_
      show Steps p.tables e below (T73.setTop (mkF m 295 #[.val (.int a1), .val (.int a2), .val (.int a3), .val (.int xv), .val (.int n), .val (.ref b1), .val (.int (1 : Int32)), .val (.int (1 : Int32)), .val (.int (16 : Int32)), .val (.ref ar50)] [])) _
      refine XS.aload X73.here hx rfl (hb hby at_295) rfl rfl ?_
      show Steps p.tables e below (T73.setTop (mkF m 297 #[.val (.int a1), .val (.int a2), .val (.int a3), .val (.int xv), .val (.int n), .val (.ref b1), .val (.int (1 : Int32)), .val (.int (1 : Int32)), .val (.int (16 : Int32)), .val (.ref ar50)] [(.ref ar50)])) _
      refine XS.iconst X73.here hx rfl (hb hby at_297) ?_
      show Steps p.tables e below (T73.setTop (mkF m 298 #[.val (.int a1), .val (.int a2), .val (.int a3), .val (.int xv), .val (.int n), .val (.ref b1), .val (.int (1 : Int32)), .val (.int (1 : Int32)), .val (.int (16 : Int32)), .val (.ref ar50)] [(.int (2 : Int32)), (.ref ar50)])) _
      refine X73.iaload hx (j := (2 : Int32)) (v := (.int xv)) (by rw [e73]; exact Ar298_75.1) (State.isArrayOf_alike hZ.alike Ar298_75.2.1) Ar298_75.2.2 hin298_75 hat298_75 (g := (mkF m 298 #[.val (.int a1), .val (.int a2), .val (.int a3), .val (.int xv), .val (.int n), .val (.ref b1), .val (.int (1 : Int32)), .val (.int (1 : Int32)), .val (.int (16 : Int32)), .val (.ref ar50)] [(.int (2 : Int32)), (.ref ar50)])) rfl rfl (hb hby at_298) _ ?_
      show Steps p.tables e below (T73.setTop (mkF m 299 #[.val (.int a1), .val (.int a2), .val (.int a3), .val (.int xv), .val (.int n), .val (.ref b1), .val (.int (1 : Int32)), .val (.int (1 : Int32)), .val (.int (16 : Int32)), .val (.ref ar50)] [(.int xv)])) _
      refine XS.iloadN X73.here hx rfl (hb hby at_299) rfl ?_
      show Steps p.tables e below (T73.setTop (mkF m 300 #[.val (.int a1), .val (.int a2), .val (.int a3), .val (.int xv), .val (.int n), .val (.ref b1), .val (.int (1 : Int32)), .val (.int (1 : Int32)), .val (.int (16 : Int32)), .val (.ref ar50)] [(.int xv), (.int xv)])) _
      refine XS.icmpNo X73.here hx rfl (hb hby at_300) rfl (teq hd76).2 ?_
      show Steps p.tables e below (T73.setTop (mkF m 303 #[.val (.int a1), .val (.int a2), .val (.int a3), .val (.int xv), .val (.int n), .val (.ref b1), .val (.int (1 : Int32)), .val (.int (1 : Int32)), .val (.int (16 : Int32)), .val (.ref ar50)] [])) _
      refine XS.aload X73.here hx rfl (hb hby at_303) rfl rfl ?_
      show Steps p.tables e below (T73.setTop (mkF m 305 #[.val (.int a1), .val (.int a2), .val (.int a3), .val (.int xv), .val (.int n), .val (.ref b1), .val (.int (1 : Int32)), .val (.int (1 : Int32)), .val (.int (16 : Int32)), .val (.ref ar50)] [(.ref ar50)])) _
      refine XS.bipush X73.here hx rfl (hb hby at_305) ?_
      show Steps p.tables e below (T73.setTop (mkF m 307 #[.val (.int a1), .val (.int a2), .val (.int a3), .val (.int xv), .val (.int n), .val (.ref b1), .val (.int (1 : Int32)), .val (.int (1 : Int32)), .val (.int (16 : Int32)), .val (.ref ar50)] [(.int (15 : Int32)), (.ref ar50)])) _
      refine X73.iaload hx (j := (15 : Int32)) (v := (.int (xv + (13 : Int32)))) (by rw [e73]; exact Ar307_77.1) (State.isArrayOf_alike hZ.alike Ar307_77.2.1) Ar307_77.2.2 hin307_77 hat307_77 (g := (mkF m 307 #[.val (.int a1), .val (.int a2), .val (.int a3), .val (.int xv), .val (.int n), .val (.ref b1), .val (.int (1 : Int32)), .val (.int (1 : Int32)), .val (.int (16 : Int32)), .val (.ref ar50)] [(.int (15 : Int32)), (.ref ar50)])) rfl rfl (hb hby at_307) _ ?_
      show Steps p.tables e below (T73.setTop (mkF m 308 #[.val (.int a1), .val (.int a2), .val (.int a3), .val (.int xv), .val (.int n), .val (.ref b1), .val (.int (1 : Int32)), .val (.int (1 : Int32)), .val (.int (16 : Int32)), .val (.ref ar50)] [(.int (xv + (13 : Int32)))])) _
      refine XS.iloadN X73.here hx rfl (hb hby at_308) rfl ?_
      show Steps p.tables e below (T73.setTop (mkF m 309 #[.val (.int a1), .val (.int a2), .val (.int a3), .val (.int xv), .val (.int n), .val (.ref b1), .val (.int (1 : Int32)), .val (.int (1 : Int32)), .val (.int (16 : Int32)), .val (.ref ar50)] [(.int xv), (.int (xv + (13 : Int32)))])) _
      refine XS.bipush X73.here hx rfl (hb hby at_309) ?_
      show Steps p.tables e below (T73.setTop (mkF m 311 #[.val (.int a1), .val (.int a2), .val (.int a3), .val (.int xv), .val (.int n), .val (.ref b1), .val (.int (1 : Int32)), .val (.int (1 : Int32)), .val (.int (16 : Int32)), .val (.ref ar50)] [(.int (13 : Int32)), (.int xv), (.int (xv + (13 : Int32)))])) _
      refine XS.iadd X73.here hx rfl (hb hby at_311) rfl ?_
      show Steps p.tables e below (T73.setTop (mkF m 312 #[.val (.int a1), .val (.int a2), .val (.int a3), .val (.int xv), .val (.int n), .val (.ref b1), .val (.int (1 : Int32)), .val (.int (1 : Int32)), .val (.int (16 : Int32)), .val (.ref ar50)] [(.int (xv + (13 : Int32))), (.int (xv + (13 : Int32)))])) _
      refine XS.icmpNo X73.here hx rfl (hb hby at_312) rfl (teq hd78).2 ?_
      show Steps p.tables e below (T73.setTop (mkF m 315 #[.val (.int a1), .val (.int a2), .val (.int a3), .val (.int xv), .val (.int n), .val (.ref b1), .val (.int (1 : Int32)), .val (.int (1 : Int32)), .val (.int (16 : Int32)), .val (.ref ar50)] [])) _
      refine XS.iconst X73.here hx rfl (hb hby at_315) ?_
      show Steps p.tables e below (T73.setTop (mkF m 316 #[.val (.int a1), .val (.int a2), .val (.int a3), .val (.int xv), .val (.int n), .val (.ref b1), .val (.int (1 : Int32)), .val (.int (1 : Int32)), .val (.int (16 : Int32)), .val (.ref ar50)] [(.int (1 : Int32))])) _
      refine XS.goto X73.here hx rfl (pc0 := 316) (pc' := 320) rfl (hb hby at_316) (by decide) (by decide) ?_
      show Steps p.tables e below (T73.setTop (mkF m 320 #[.val (.int a1), .val (.int a2), .val (.int a3), .val (.int xv), .val (.int n), .val (.ref b1), .val (.int (1 : Int32)), .val (.int (1 : Int32)), .val (.int (16 : Int32)), .val (.ref ar50)] [(.int (1 : Int32))])) _
      refine XS.istore X73.here hx rfl (hb hby at_320) rfl (l' := #[.val (.int a1), .val (.int a2), .val (.int a3), .val (.int xv), .val (.int n), .val (.ref b1), .val (.int (1 : Int32)), .val (.int (1 : Int32)), .val (.int (16 : Int32)), .val (.ref ar50)]) rfl ?_
      show Steps p.tables e below (T73.setTop (mkF m 322 #[.val (.int a1), .val (.int a2), .val (.int a3), .val (.int xv), .val (.int n), .val (.ref b1), .val (.int (1 : Int32)), .val (.int (1 : Int32)), .val (.int (16 : Int32)), .val (.ref ar50)] [])) _
      refine XS.iload X73.here hx rfl (hb hby at_322) rfl ?_
      show Steps p.tables e below (T73.setTop (mkF m 324 #[.val (.int a1), .val (.int a2), .val (.int a3), .val (.int xv), .val (.int n), .val (.ref b1), .val (.int (1 : Int32)), .val (.int (1 : Int32)), .val (.int (16 : Int32)), .val (.ref ar50)] [(.int (1 : Int32))])) _
      exact kt
    obtain ⟨fs, hr, hrun, hended, hW, hsame⟩ := X73.leave (v := some (.int (1 : Int32))) (fun h => by rw [Bd.returns] at h; cases h)
    refine ⟨_, _, k79 _ ?_, hrun, hended, _, _, rfl, ?_, ⟨_, rfl⟩, hW, hsame.mono (by decide) (by decide)⟩
    · exact retN X73 hx (t := .boolean) Bd.returns (by simp) (hb hby at_324) hr
    · show QL n0 _ T73.heap _
      exact ⟨rfl, N73⟩
set_option maxRecDepth 65536 in
set_option maxHeartbeats 40000000 in
theorem comes_1 {Post : Tables → Env → Array Value → State → Outcome → State → Prop} (hpost : ∀ tb e args s v u, (limb_1_1.after args s (.returned v) u = true ∧ limb_1_2.after args s (.returned v) u = true ∧ True) → FrameEnd s (.returned v) u (Jvm.fieldLocs frame_1_writes args s ++ Jvm.arrayLocs frame_1_arrays args s ++ Jvm.staticLocs frame_1_statics s) 16 256 → Post tb e args s (.returned v) u) :
    ArmFor flags0 classFile x code maxLocals ret World_1 tables_1 room_1 Calls_1 rest_1 Pre_1 Post := by
  intro l hfl _ _ p e ha hc hk s m args below hf hA hF happ hP
  obtain ⟨hcalls, hrest, hpre⟩ := hP
  obtain ⟨-, -, -, hnamed, -, -, -, hat⟩ := (Spec.applies_iff hf).mp happ
  obtain ⟨hg, hn⟩ := and_e (Cond.before_iff.mp (show (Jvm.Cond.and given_1 narrow_1).before args s = true from hpre))
  obtain ⟨g1, g2⟩ := and_e hg
  obtain ⟨g3, g4⟩ := and_e g2
  obtain ⟨g5, g6⟩ := and_e g4
  obtain ⟨g7, g8⟩ := and_e g6
  obtain ⟨g9, g10⟩ := and_e g8
  obtain ⟨w0, w1, w2, w3, w4, rfl⟩ : ∃ w0 w1 w2 w3 w4 : Value, args = #[w0, w1, w2, w3, w4] := by
    have hs : args.size = 5 := by simpa [Cond.value, given_1] using g1
    obtain ⟨L⟩ := args
    match L, hs with
    | [w0, w1, w2, w3, w4], _ => exact ⟨w0, w1, w2, w3, w4, rfl⟩
  have hw := fun d (hd : d ∈ tables_1) => atoms_spec (ws := Jvm.Cond.code x code maxLocals ret :: tables_1) hat d (List.mem_cons_of_mem _ hd)
  have hfit : Fit s := fun {y c} hc i hi => by
    obtain ⟨ha, rfl⟩ := Array.getElem?_eq_some_iff.mp hc
    have q := List.all_eq_true.mp ((Array.all_eq_true_iff_forall_mem.mp hF) _ (Array.getElem_mem ha)) i (List.mem_range.mpr hi)
    simpa [Array.getElem?_eq_getElem hi] using q
  obtain ⟨i0, ei0⟩ := is_v g3
  obtain rfl : w0 = (.int i0) := Option.some.inj ei0
  obtain ⟨i1, ei1⟩ := is_v g5
  obtain rfl : w1 = (.int i1) := Option.some.inj ei1
  obtain ⟨i2, ei2⟩ := is_v g7
  obtain rfl : w2 = (.int i2) := Option.some.inj ei2
  obtain ⟨i3, ei3⟩ := is_v g9
  obtain rfl : w3 = (.int i3) := Option.some.inj ei3
  obtain ⟨i4, ei4⟩ := is_v g10
  obtain rfl : w4 = (.int i4) := Option.some.inj ei4
  obtain ⟨n, o, h1, h2, h3, _, L, rfl, ⟨rfl, N⟩, hq⟩ := rm0 l s _ hw tables_1 i0 i1 i2 i3 i4  s.heap s.heap.size (Nat.le_refl _) p e ha hc hk s m _ below hf ((Spec.applies_iff_loose hf).mp happ).1 ⟨rfl, State.Warmed39.refl s, rfl⟩ trivial
  refine ⟨n, _, h1, h2, h3, hpost _ _ _ _ _ _ ⟨Cond.after_iff.mpr rfl, Cond.after_iff.mpr (eq_i res_at (Term.int_eval (1)) rfl), trivial⟩ ⟨hq.1, hq.2.1, (hq.2.2.sift fun y hy => Or.inr (N y hy)).mono (by decide) (by decide)⟩⟩
theorem main_1_1 : Claimed_1_1 := comes_1 fun _ _ _ _ _ _ h hF => ⟨h.1, hF⟩
theorem main_1_2 : Claimed_1_2 := comes_1 fun _ _ _ _ _ _ h hF => ⟨h.2.1, hF⟩
end Jvm.Pilot.@@N@@
namespace Jvm.Pilot.@@N@@
open Jvm Jvm.ClassFile Sem Op Lib Jvm.Free Jvm.Stand Jvm.Pilot.@@N@@.Jvm.D
/-! MADE BY PROGRAM (witnessworld.py) out of the Statement's table words and the real class files: 12 classes; the members and pool entries that the words name. The judged class is class 1, her method 2. -/
namespace start1
open Jvm.ClassFile
def u (s : String) : CpInfo := .utf8 (stringToUtf16 s)
/-- a pool by its gaps: so many unusable entries, then the entry; so many at the end -/
def gap : Nat → List CpInfo → List CpInfo
  | 0, r => r
  | n + 1, r => .unusable :: gap n r
def poolList (es : List (Nat × CpInfo)) (last : Nat) : List CpInfo := es.foldr (fun e r => gap e.1 (e.2 :: r)) (gap last [])
def pool (es : List (Nat × CpInfo)) (last : Nat) : Array CpInfo := ⟨poolList es last⟩
def fileOf (pool : Array CpInfo) (this : Nat) (attrs : Array Attribute := #[]) (ms : Array MethodInfo := #[]) (fl : Nat := 33) (sup : Nat := 0) (ifs : Array Nat := #[]) (fds : Array FieldInfo := #[]) : ClassFile where
  minorVersion := 0
  majorVersion := 65
  constantPool := pool
  accessFlags := fl
  thisClass := this
  superClass := sup
  interfaces := ifs
  fields := fds
  methods := ms
  attributes := attrs
def plain (name : String) (sup : Option ClassId) : Class where
  name := name
  kind := .ordinary
  loader := none
  accessFlags := 33
  super := sup
  interfaces := #[]
  cf := none
  fields := #[]
  methods := #[]
  instanceTypes := #[]
  staticTypes := #[]
  resolved := #[]
  callSites := []
  init := .initialized
  statics := none
  mirror := none

def pool0 : Array CpInfo := pool [(5, u "<init>"), (0, u "()V"), (1, .class_ 10), (1, u "java/lang/Object")] 113

def k0c0 : Code := { maxStack := 0, maxLocals := 1, code := object_method_1_code, exceptionTable := #[], attributes := #[] }
def k0m0 : Method := { name := "<init>", desc := "()V", sig := { parameters := [], returnType := none }, accessFlags := 1, code := some k0c0 }
/-- java/lang/Object -/
def k0 : Class := { plain "java/lang/Object" none with
  accessFlags := 33
  interfaces := #[]
  cf := some (fileOf pool0 8 #[] #[{ accessFlags := 1, nameIndex := 5, descriptorIndex := 6, attributes := #[] }] 33 0 #[] #[])
  fields := #[]
  methods := #[k0m0]
  instanceTypes := #[]
  staticTypes := #[]
  resolved := Array.replicate 124 none
  statics := none }

def pool1 : Array CpInfo := pool [(2, .class_ 4), (0, .nameAndType 5 6), (0, u "java/lang/Object"), (0, u "<init>"), (0, u "()V"), (0, .methodref 8 9), (0, .class_ 10), (0, .nameAndType 11 12), (0, u "com/example/unraveling/unraveling/graph/IntList"), (0, u "add"), (0, u "(I)V"), (0, .methodref 8 3), (0, .methodref 8 15), (0, .nameAndType 16 17), (0, u "size"), (0, u "()I"), (0, .methodref 8 19), (0, .nameAndType 20 21), (0, u "get"), (0, u "(I)I"), (0, .methodref 23 24), (0, .class_ 25), (0, .nameAndType 26 27), (0, u "com/example/unraveling/unraveling/graph/IntListAddPinLaw"), (0, u "add4"), (0, u "(Lcom/example/unraveling/unraveling/graph/IntList;I)V"), (0, .methodref 8 29), (0, .nameAndType 30 31), (0, u "toArray"), (0, u "()[I"), (2, u "law"), (0, u "(IIIII)Z")] 5

def k1m0 : Method := { name := "<init>", desc := "()V", sig := { parameters := [], returnType := none }, accessFlags := 1, code := none }
def k1c1 : Code := { maxStack := 3, maxLocals := 2, code := method_2_code, exceptionTable := #[], attributes := #[] }
def k1m1 : Method := { name := "add4", desc := "(Lcom/example/unraveling/unraveling/graph/IntList;I)V", sig := { parameters := [(.object "com/example/unraveling/unraveling/graph/IntList"), .int], returnType := none }, accessFlags := 10, code := some k1c1 }
def k1c2 : Code := { maxStack := 3, maxLocals := 10, code := code, exceptionTable := #[], attributes := #[] }
def k1m2 : Method := { name := "law", desc := "(IIIII)Z", sig := { parameters := [.int, .int, .int, .int, .int], returnType := some .boolean }, accessFlags := 9, code := some k1c2 }
/-- com/example/unraveling/unraveling/graph/IntListAddPinLaw -/
def k1 : Class := { plain "com/example/unraveling/unraveling/graph/IntListAddPinLaw" (some 0) with
  accessFlags := 49
  interfaces := #[]
  cf := some (fileOf pool1 23 #[] #[{ accessFlags := 1, nameIndex := 5, descriptorIndex := 6, attributes := #[] }, { accessFlags := 10, nameIndex := 26, descriptorIndex := 27, attributes := #[] }, { accessFlags := 9, nameIndex := 34, descriptorIndex := 35, attributes := #[] }] 49 2 #[] #[])
  fields := #[]
  methods := #[k1m0, k1m1, k1m2]
  instanceTypes := #[]
  staticTypes := #[]
  resolved := Array.replicate 41 none
  statics := none }

def pool2 : Array CpInfo := pool [(1, .methodref 2 3), (0, .class_ 4), (0, .nameAndType 5 6), (0, u "java/lang/Object"), (0, u "<init>"), (0, u "()V"), (0, .fieldref 8 9), (0, .class_ 10), (0, .nameAndType 11 12), (0, u "com/example/unraveling/unraveling/graph/IntList"), (0, u "values"), (0, u "[I"), (0, .fieldref 8 14), (0, .nameAndType 15 16), (0, u "size"), (0, u "I"), (0, .methodref 18 19), (0, .class_ 20), (0, .nameAndType 21 22), (0, u "java/util/Arrays"), (0, u "copyOf"), (0, u "([II)[I"), (2, u "add"), (0, u "(I)V"), (1, u "get"), (0, u "(I)I"), (0, u "()I"), (1, u "toArray"), (0, u "()[I")] 2

def k2c0 : Code := { maxStack := 2, maxLocals := 1, code := prog_52_method_1_code, exceptionTable := #[], attributes := #[] }
def k2m0 : Method := { name := "<init>", desc := "()V", sig := { parameters := [], returnType := none }, accessFlags := 0, code := some k2c0 }
def k2c1 : Code := { maxStack := 5, maxLocals := 2, code := prog_52_method_2_code, exceptionTable := #[], attributes := #[] }
def k2m1 : Method := { name := "add", desc := "(I)V", sig := { parameters := [.int], returnType := none }, accessFlags := 0, code := some k2c1 }
def k2c2 : Code := { maxStack := 2, maxLocals := 2, code := prog_52_method_3_code, exceptionTable := #[], attributes := #[] }
def k2m2 : Method := { name := "get", desc := "(I)I", sig := { parameters := [.int], returnType := some .int }, accessFlags := 0, code := some k2c2 }
def k2c3 : Code := { maxStack := 1, maxLocals := 1, code := prog_52_method_4_code, exceptionTable := #[], attributes := #[] }
def k2m3 : Method := { name := "size", desc := "()I", sig := { parameters := [], returnType := some .int }, accessFlags := 0, code := some k2c3 }
def k2c4 : Code := { maxStack := 2, maxLocals := 1, code := prog_52_method_6_code, exceptionTable := #[], attributes := #[] }
def k2m4 : Method := { name := "toArray", desc := "()[I", sig := { parameters := [], returnType := some (.array .int) }, accessFlags := 0, code := some k2c4 }
/-- com/example/unraveling/unraveling/graph/IntList -/
def k2 : Class := { plain "com/example/unraveling/unraveling/graph/IntList" (some 0) with
  accessFlags := 32
  interfaces := #[]
  cf := some (fileOf pool2 8 #[] #[{ accessFlags := 0, nameIndex := 5, descriptorIndex := 6, attributes := #[] }, { accessFlags := 0, nameIndex := 25, descriptorIndex := 26, attributes := #[] }, { accessFlags := 0, nameIndex := 28, descriptorIndex := 29, attributes := #[] }, { accessFlags := 0, nameIndex := 15, descriptorIndex := 30, attributes := #[] }, { accessFlags := 0, nameIndex := 32, descriptorIndex := 33, attributes := #[] }] 32 2 #[] #[{ accessFlags := 2, nameIndex := 11, descriptorIndex := 12, attributes := #[] }, { accessFlags := 2, nameIndex := 15, descriptorIndex := 16, attributes := #[] }])
  fields := #[{ name := "values", type := (.array .int), accessFlags := 2, slot := 0, constantValue := 0 }, { name := "size", type := .int, accessFlags := 2, slot := 1, constantValue := 0 }]
  methods := #[k2m0, k2m1, k2m2, k2m3, k2m4]
  instanceTypes := #[(.array .int), .int]
  staticTypes := #[]
  resolved := Array.replicate 36 none
  statics := none }

def pool3 : Array CpInfo := pool [(2, .class_ 4), (1, u "java/lang/Object"), (0, u "<init>"), (0, u "()V"), (7, .class_ 16), (1, u "java/util/Arrays"), (57, .class_ 76), (1, u "java/util/Arrays$NaturalOrder"), (36, .class_ 115), (1, u "java/util/Arrays$LegacyMergeSort"), (1, u "Z"), (32, .methodref 151 152), (0, .class_ 153), (0, .nameAndType 154 155), (0, u "java/lang/System"), (0, u "arraycopy"), (0, u "(Ljava/lang/Object;ILjava/lang/Object;II)V"), (146, u "copyOf"), (1, .methodref 305 306), (0, .class_ 307), (0, .nameAndType 308 309), (0, u "java/lang/Math"), (0, u "min"), (0, u "(II)I"), (65, .class_ 376), (0, u "java/util/Arrays$ArrayList"), (68, u "$assertionsDisabled"), (269, u "MIN_ARRAY_SORT_GRAN"), (0, u "I"), (2, u "INSERTIONSORT_THRESHOLD"), (151, u "([II)[I"), (103, .class_ 976), (0, u "java/util/Arrays$ArrayItr")] 52

def k3m0 : Method := { name := "<init>", desc := "()V", sig := { parameters := [], returnType := none }, accessFlags := 2, code := none }
def k3c1 : Code := { maxStack := 6, maxLocals := 3, code := jdk_65_method_123_code, exceptionTable := #[], attributes := #[] }
def k3m1 : Method := { name := "copyOf", desc := "([II)[I", sig := { parameters := [(.array .int), .int], returnType := some (.array .int) }, accessFlags := 9, code := some k3c1 }
/-- java/util/Arrays -/
def k3 : Class := { plain "java/util/Arrays" (some 0) with
  accessFlags := 49
  interfaces := #[]
  cf := some (fileOf pool3 14 #[.nestMembers #[975, 375, 113, 74]] #[{ accessFlags := 2, nameIndex := 5, descriptorIndex := 6, attributes := #[] }, { accessFlags := 9, nameIndex := 302, descriptorIndex := 871, attributes := #[] }] 49 2 #[] #[{ accessFlags := 26, nameIndex := 715, descriptorIndex := 716, attributes := #[] }, { accessFlags := 26, nameIndex := 719, descriptorIndex := 716, attributes := #[] }, { accessFlags := 4120, nameIndex := 445, descriptorIndex := 117, attributes := #[] }])
  fields := #[{ name := "MIN_ARRAY_SORT_GRAN", type := .int, accessFlags := 26, slot := 0, constantValue := 0 }, { name := "INSERTIONSORT_THRESHOLD", type := .int, accessFlags := 26, slot := 1, constantValue := 0 }, { name := "$assertionsDisabled", type := .boolean, accessFlags := 4120, slot := 2, constantValue := 0 }]
  methods := #[k3m0, k3m1]
  instanceTypes := #[]
  staticTypes := #[.int, .int, .boolean]
  resolved := Array.replicate 1029 none
  statics := none }

def pool4 : Array CpInfo := pool [(1, .class_ 2), (0, u "java/lang/Math"), (1, .class_ 6), (1, u "java/lang/Object"), (0, u "<init>"), (0, u "()V"), (89, .class_ 100), (1, u "java/lang/Math$RandomNumberGeneratorHolder"), (71, u "negativeZeroFloatBits"), (0, u "J"), (2, u "negativeZeroDoubleBits"), (24, u "min"), (43, u "$assertionsDisabled"), (0, u "Z"), (88, u "(II)I"), (2, u "twoToTheDoubleScaleDown"), (0, u "D"), (4, u "twoToTheDoubleScaleUp"), (9, u "E"), (3, u "PI"), (2, u "TAU"), (2, u "DEGREES_TO_RADIANS"), (0, u "RADIANS_TO_DEGREES")] 94

def k4m0 : Method := { name := "<init>", desc := "()V", sig := { parameters := [], returnType := none }, accessFlags := 2, code := none }
def k4c1 : Code := { maxStack := 2, maxLocals := 2, code := jdk_29_method_69_code, exceptionTable := #[], attributes := #[] }
def k4m1 : Method := { name := "min", desc := "(II)I", sig := { parameters := [.int, .int], returnType := some .int }, accessFlags := 9, code := some k4c1 }
/-- java/lang/Math -/
def k4 : Class := { plain "java/lang/Math" (some 0) with
  accessFlags := 49
  interfaces := #[]
  cf := some (fileOf pool4 1 #[.nestMembers #[98]] #[{ accessFlags := 2, nameIndex := 7, descriptorIndex := 8, attributes := #[] }, { accessFlags := 9, nameIndex := 201, descriptorIndex := 335, attributes := #[] }] 49 4 #[] #[{ accessFlags := 25, nameIndex := 354, descriptorIndex := 339, attributes := #[] }, { accessFlags := 25, nameIndex := 358, descriptorIndex := 339, attributes := #[] }, { accessFlags := 25, nameIndex := 361, descriptorIndex := 339, attributes := #[] }, { accessFlags := 26, nameIndex := 364, descriptorIndex := 339, attributes := #[] }, { accessFlags := 26, nameIndex := 365, descriptorIndex := 339, attributes := #[] }, { accessFlags := 26, nameIndex := 172, descriptorIndex := 173, attributes := #[] }, { accessFlags := 26, nameIndex := 176, descriptorIndex := 173, attributes := #[] }, { accessFlags := 8, nameIndex := 344, descriptorIndex := 339, attributes := #[] }, { accessFlags := 8, nameIndex := 338, descriptorIndex := 339, attributes := #[] }, { accessFlags := 4120, nameIndex := 245, descriptorIndex := 246, attributes := #[] }])
  fields := #[{ name := "E", type := .double, accessFlags := 25, slot := 0, constantValue := 0 }, { name := "PI", type := .double, accessFlags := 25, slot := 1, constantValue := 0 }, { name := "TAU", type := .double, accessFlags := 25, slot := 2, constantValue := 0 }, { name := "DEGREES_TO_RADIANS", type := .double, accessFlags := 26, slot := 3, constantValue := 0 }, { name := "RADIANS_TO_DEGREES", type := .double, accessFlags := 26, slot := 4, constantValue := 0 }, { name := "negativeZeroFloatBits", type := .long, accessFlags := 26, slot := 5, constantValue := 0 }, { name := "negativeZeroDoubleBits", type := .long, accessFlags := 26, slot := 6, constantValue := 0 }, { name := "twoToTheDoubleScaleUp", type := .double, accessFlags := 8, slot := 7, constantValue := 0 }, { name := "twoToTheDoubleScaleDown", type := .double, accessFlags := 8, slot := 8, constantValue := 0 }, { name := "$assertionsDisabled", type := .boolean, accessFlags := 4120, slot := 9, constantValue := 0 }]
  methods := #[k4m0, k4m1]
  instanceTypes := #[]
  staticTypes := #[.double, .double, .double, .double, .double, .long, .long, .double, .double, .boolean]
  resolved := Array.replicate 460 none
  statics := none }

def pool5 : Array CpInfo := pool [(2, .class_ 4), (1, u "java/lang/Object"), (0, u "<init>"), (0, u "()V"), (1, .class_ 10), (1, u "java/lang/System"), (0, u "allowSecurityManager"), (0, u "I"), (16, u "cons"), (0, u "Ljava/io/Console;"), (77, .class_ 110), (1, u "java/lang/System$CallersHolder"), (43, u "initialErrStream"), (0, u "Ljava/io/PrintStream;"), (19, u "security"), (0, u "Ljava/lang/SecurityManager;"), (31, .class_ 209), (0, u "java/lang/System$1"), (7, u "props"), (0, u "Ljava/util/Properties;"), (2, u "lineSeparator"), (0, u "Ljava/lang/String;"), (96, .class_ 321), (1, u "java/lang/System$LoggerFinder"), (5, .class_ 328), (0, u "java/lang/System$Logger"), (67, u "err"), (2, u "out"), (91, u "notSupportedJnuEncoding"), (15, u "in"), (17, u "initialIn"), (0, u "Ljava/io/InputStream;"), (35, u "bootLayer"), (0, u "Ljava/lang/ModuleLayer;"), (99, .class_ 664), (0, u "java/lang/System$2"), (9, u "NEVER"), (2, u "MAYBE"), (49, u "arraycopy"), (0, u "(Ljava/lang/Object;ILjava/lang/Object;II)V"), (72, .class_ 802), (0, u "java/lang/System$Logger$Level")] 31

def k5m0 : Method := { name := "<init>", desc := "()V", sig := { parameters := [], returnType := none }, accessFlags := 2, code := none }
def k5m1 : Method := { name := "arraycopy", desc := "(Ljava/lang/Object;ILjava/lang/Object;II)V", sig := { parameters := [(.object "java/lang/Object"), .int, (.object "java/lang/Object"), .int, .int], returnType := none }, accessFlags := 265, code := none }
/-- java/lang/System -/
def k5 : Class := { plain "java/lang/System" (some 0) with
  accessFlags := 49
  interfaces := #[]
  cf := some (fileOf pool5 8 #[.nestMembers #[319, 327, 801, 108, 663, 208]] #[{ accessFlags := 2, nameIndex := 5, descriptorIndex := 6, attributes := #[] }, { accessFlags := 265, nameIndex := 727, descriptorIndex := 728, attributes := #[] }] 49 2 #[] #[{ accessFlags := 25, nameIndex := 507, descriptorIndex := 526, attributes := #[] }, { accessFlags := 25, nameIndex := 399, descriptorIndex := 155, attributes := #[] }, { accessFlags := 25, nameIndex := 396, descriptorIndex := 155, attributes := #[] }, { accessFlags := 10, nameIndex := 525, descriptorIndex := 526, attributes := #[] }, { accessFlags := 26, nameIndex := 674, descriptorIndex := 12, attributes := #[] }, { accessFlags := 26, nameIndex := 677, descriptorIndex := 12, attributes := #[] }, { accessFlags := 10, nameIndex := 11, descriptorIndex := 12, attributes := #[] }, { accessFlags := 74, nameIndex := 175, descriptorIndex := 176, attributes := #[] }, { accessFlags := 10, nameIndex := 491, descriptorIndex := 222, attributes := #[] }, { accessFlags := 74, nameIndex := 29, descriptorIndex := 30, attributes := #[] }, { accessFlags := 74, nameIndex := 154, descriptorIndex := 155, attributes := #[] }, { accessFlags := 10, nameIndex := 217, descriptorIndex := 218, attributes := #[] }, { accessFlags := 10, nameIndex := 221, descriptorIndex := 222, attributes := #[] }, { accessFlags := 8, nameIndex := 562, descriptorIndex := 563, attributes := #[] }])
  fields := #[{ name := "in", type := (.object "java/io/InputStream"), accessFlags := 25, slot := 0, constantValue := 0 }, { name := "out", type := (.object "java/io/PrintStream"), accessFlags := 25, slot := 1, constantValue := 0 }, { name := "err", type := (.object "java/io/PrintStream"), accessFlags := 25, slot := 2, constantValue := 0 }, { name := "initialIn", type := (.object "java/io/InputStream"), accessFlags := 10, slot := 3, constantValue := 0 }, { name := "NEVER", type := .int, accessFlags := 26, slot := 4, constantValue := 0 }, { name := "MAYBE", type := .int, accessFlags := 26, slot := 5, constantValue := 0 }, { name := "allowSecurityManager", type := .int, accessFlags := 10, slot := 6, constantValue := 0 }, { name := "security", type := (.object "java/lang/SecurityManager"), accessFlags := 74, slot := 7, constantValue := 0 }, { name := "notSupportedJnuEncoding", type := (.object "java/lang/String"), accessFlags := 10, slot := 8, constantValue := 0 }, { name := "cons", type := (.object "java/io/Console"), accessFlags := 74, slot := 9, constantValue := 0 }, { name := "initialErrStream", type := (.object "java/io/PrintStream"), accessFlags := 74, slot := 10, constantValue := 0 }, { name := "props", type := (.object "java/util/Properties"), accessFlags := 10, slot := 11, constantValue := 0 }, { name := "lineSeparator", type := (.object "java/lang/String"), accessFlags := 10, slot := 12, constantValue := 0 }, { name := "bootLayer", type := (.object "java/lang/ModuleLayer"), accessFlags := 8, slot := 13, constantValue := 0 }]
  methods := #[k5m0, k5m1]
  instanceTypes := #[]
  staticTypes := #[(.object "java/io/InputStream"), (.object "java/io/PrintStream"), (.object "java/io/PrintStream"), (.object "java/io/InputStream"), .int, .int, .int, (.object "java/lang/SecurityManager"), (.object "java/lang/String"), (.object "java/io/Console"), (.object "java/io/PrintStream"), (.object "java/util/Properties"), (.object "java/lang/String"), (.object "java/lang/ModuleLayer")]
  resolved := Array.replicate 834 none
  statics := none }

def pool6 : Array CpInfo := pool [(1, u "java/lang/Cloneable"), (0, .class_ 1), (0, u "java/lang/Object"), (0, .class_ 3)] 3

/-- java/lang/Cloneable -/
def k6 : Class := { plain "java/lang/Cloneable" (some 0) with
  accessFlags := 1537
  interfaces := #[]
  cf := some (fileOf pool6 2 #[] #[] 1537 4 #[] #[])
  fields := #[]
  methods := #[]
  instanceTypes := #[]
  staticTypes := #[]
  resolved := Array.replicate 8 none
  statics := none }

def pool7 : Array CpInfo := pool [(1, u "java/io/Serializable"), (0, .class_ 1), (0, u "java/lang/Object"), (0, .class_ 3)] 3

/-- java/io/Serializable -/
def k7 : Class := { plain "java/io/Serializable" (some 0) with
  accessFlags := 1537
  interfaces := #[]
  cf := some (fileOf pool7 2 #[] #[] 1537 4 #[] #[])
  fields := #[]
  methods := #[]
  instanceTypes := #[]
  staticTypes := #[]
  resolved := Array.replicate 8 none
  statics := none }

/-- the primitive byte -/
def k8 : Class := { plain "byte" none with kind := .primitive 'B', accessFlags := 0x411 }
/-- [B -/
def k9 : Class := { plain "[B" (some 0) with kind := .array 8 .byte, interfaces := #[6, 7], accessFlags := 1041 }

/-- the primitive int -/
def k10 : Class := { plain "int" none with kind := .primitive 'I', accessFlags := 0x411 }
/-- [I -/
def k11 : Class := { plain "[I" (some 0) with kind := .array 10 .int, interfaces := #[6, 7], accessFlags := 1041 }

def heap : Heap := #[]
def classes : Array Class := #[k0, k1, k2, k3, k4, k5, k6, k7, k8, k9, k10, k11]
def interned : List (Array UInt16 × Addr) := []
def slotsUsed : Nat := 0
def theMethod : MethodId := ⟨1, 2⟩
def args0 : Array Value := #[.int 5, .int 6, .int 7, .int 8, .int 1]
def aboutOver (below : List Frame) : State where
  vm := { classes := classes, interned := interned.toArray }
  heap := heap
  slotsUsed := slotsUsed
  threads := #[{ frames := .invoking theMethod args0 :: below }]
def below0 : List Frame := [.native { method := ⟨0, 0⟩, args := #[] }]
def about1 : State := aboutOver below0
def p0 : Program := .bare "" "" ""
def e0 : Env := launch0.env 0 0 0
theorem w_frames : about1.frames = Frame.invoking theMethod args0 :: below0 := rfl
set_option maxRecDepth 65536 in
theorem w_args : argsFit about1.vm theMethod args0 = true := by decide +kernel
set_option maxRecDepth 65536 in
theorem w_heap : heapFits about1 = true := by decide +kernel
set_option maxRecDepth 65536 in
theorem w_runnable : about1.curStatus? = some .runnable := by decide +kernel
set_option maxRecDepth 65536 in
theorem w_alone : about1.alone = true := by decide +kernel
set_option maxRecDepth 65536 in
theorem w_named : about1.methodNamed? x = some theMethod := by decide +kernel
set_option maxRecDepth 65536 in
theorem w_hears : about1.hears theMethod below0 = true := by decide +kernel
set_option maxRecDepth 65536 in
theorem w_ripe : about1.ripe theMethod args0 below0 = true := by decide +kernel
theorem w_running : about1.status = .running := rfl
set_option maxRecDepth 65536 in
theorem w_room : about1.hasRoom e0.platform room_1 = true :=
  launch0.hasRoom_least _ room_1 (by decide +kernel) (by decide +kernel) (by decide +kernel) (by decide +kernel) (by decide +kernel) (by decide +kernel)
theorem allAtoms_all (ts : List Jvm.Cond) (a : Array Jvm.Value) (st : Jvm.State) : (allAtoms ts).before a st = ts.all (fun c => c.before a st) := by
  induction ts with
  | nil => rfl
  | cons c t ih =>
    show (Jvm.Cond.and c (allAtoms t)).before a st = _
    rw [Jvm.Cond.before_and, ih, List.all_cons]
def words1 : List Jvm.Cond := Jvm.Cond.code x code maxLocals ret :: tables_1
/-- a 'code' word, met by the world's own term for the bytes: nothing is compared byte by byte -/
theorem code_word {y : MethodName} {bytes : ByteArray} {mx : Nat} {rt : Option FieldType} {a : Array Value} {s : State} {m : MethodId} {meth : Method} {c : Code} (h1 : s.methodNamed? y = some m) (h2 : s.vm.method? m = some meth) (h3 : meth.code = some c) (h4 : c.code = bytes)
    (h5 : (c.maxLocals == mx && c.exceptionTable.isEmpty && decide (c.maxStack ≤ mostOperands) && decide (meth.sig.returnType = rt) && !meth.locks && decide (parseMethodDescriptor y.desc = some meth.sig)) = true) : (Jvm.Cond.code y bytes mx rt).before a s = true := by
  simp only [Bool.and_eq_true, beq_iff_eq, Bool.not_eq_true', decide_eq_true_eq] at h5
  obtain ⟨⟨⟨⟨⟨g1, g2⟩, g3⟩, g4⟩, g5⟩, g6⟩ := h5
  simp [Cond.before, Cond.holds, Cond.value, h1, h2, h3, h4, g1, g2, g3, g4, g5, g6]
def isCode : Jvm.Cond → Bool
  | .code _ _ _ _ => true
  | _ => false
theorem all_split {L : List Jvm.Cond} {P : Jvm.Cond → Bool} (h1 : L.all (fun c => isCode c || P c) = true) (h2 : ∀ c ∈ L.filter isCode, P c = true) : L.all P = true := by
  refine List.all_eq_true.mpr fun c hc => ?_
  have h := List.all_eq_true.mp h1 c hc
  rcases Bool.eq_false_or_eq_true (isCode c) with hi | hi
  · exact h2 c (List.mem_filter.mpr ⟨hc, hi⟩)
  · simpa [hi] using h
set_option maxRecDepth 65536 in
theorem w_c0 : (Jvm.Cond.code x code maxLocals ret).before args0 about1 = true := code_word (m := ⟨1, 2⟩) (meth := k1m2) (c := k1c2) (by decide +kernel) rfl rfl rfl (by decide +kernel)
set_option maxRecDepth 65536 in
theorem w_c1 : (Jvm.Cond.code ({ cls := "com/example/unraveling/unraveling/graph/IntList", name := "<init>", desc := "()V" } : Jvm.MethodName) prog_52_method_1_code (1 : Nat) (Option.none : Option Jvm.ClassFile.FieldType)).before args0 about1 = true := code_word (m := ⟨2, 0⟩) (meth := k2m0) (c := k2c0) (by decide +kernel) rfl rfl rfl (by decide +kernel)
set_option maxRecDepth 65536 in
theorem w_c2 : (Jvm.Cond.code ({ cls := "java/lang/Object", name := "<init>", desc := "()V" } : Jvm.MethodName) object_method_1_code (1 : Nat) (Option.none : Option Jvm.ClassFile.FieldType)).before args0 about1 = true := code_word (m := ⟨0, 0⟩) (meth := k0m0) (c := k0c0) (by decide +kernel) rfl rfl rfl (by decide +kernel)
set_option maxRecDepth 65536 in
theorem w_c3 : (Jvm.Cond.code ({ cls := "com/example/unraveling/unraveling/graph/IntList", name := "add", desc := "(I)V" } : Jvm.MethodName) prog_52_method_2_code (2 : Nat) (Option.none : Option Jvm.ClassFile.FieldType)).before args0 about1 = true := code_word (m := ⟨2, 1⟩) (meth := k2m1) (c := k2c1) (by decide +kernel) rfl rfl rfl (by decide +kernel)
set_option maxRecDepth 65536 in
theorem w_c4 : (Jvm.Cond.code ({ cls := "com/example/unraveling/unraveling/graph/IntList", name := "size", desc := "()I" } : Jvm.MethodName) prog_52_method_4_code (1 : Nat) (Option.some Jvm.ClassFile.FieldType.int)).before args0 about1 = true := code_word (m := ⟨2, 3⟩) (meth := k2m3) (c := k2c3) (by decide +kernel) rfl rfl rfl (by decide +kernel)
set_option maxRecDepth 65536 in
theorem w_c5 : (Jvm.Cond.code ({ cls := "com/example/unraveling/unraveling/graph/IntList", name := "get", desc := "(I)I" } : Jvm.MethodName) prog_52_method_3_code (2 : Nat) (Option.some Jvm.ClassFile.FieldType.int)).before args0 about1 = true := code_word (m := ⟨2, 2⟩) (meth := k2m2) (c := k2c2) (by decide +kernel) rfl rfl rfl (by decide +kernel)
set_option maxRecDepth 65536 in
theorem w_c6 : (Jvm.Cond.code ({ cls := "com/example/unraveling/unraveling/graph/IntList", name := "toArray", desc := "()[I" } : Jvm.MethodName) prog_52_method_6_code (1 : Nat) (Option.some (Jvm.ClassFile.FieldType.array Jvm.ClassFile.FieldType.int))).before args0 about1 = true := code_word (m := ⟨2, 4⟩) (meth := k2m4) (c := k2c4) (by decide +kernel) rfl rfl rfl (by decide +kernel)
set_option maxRecDepth 65536 in
theorem w_c7 : (Jvm.Cond.code ({ cls := "java/util/Arrays", name := "copyOf", desc := "([II)[I" } : Jvm.MethodName) jdk_65_method_123_code (3 : Nat) (Option.some (Jvm.ClassFile.FieldType.array Jvm.ClassFile.FieldType.int))).before args0 about1 = true := code_word (m := ⟨3, 1⟩) (meth := k3m1) (c := k3c1) (by decide +kernel) rfl rfl rfl (by decide +kernel)
set_option maxRecDepth 65536 in
theorem w_c8 : (Jvm.Cond.code ({ cls := "java/lang/Math", name := "min", desc := "(II)I" } : Jvm.MethodName) jdk_29_method_69_code (2 : Nat) (Option.some Jvm.ClassFile.FieldType.int)).before args0 about1 = true := code_word (m := ⟨4, 1⟩) (meth := k4m1) (c := k4c1) (by decide +kernel) rfl rfl rfl (by decide +kernel)
set_option maxRecDepth 65536 in
theorem w_c9 : (Jvm.Cond.code ({ cls := "com/example/unraveling/unraveling/graph/IntListAddPinLaw", name := "add4", desc := "(Lcom/example/unraveling/unraveling/graph/IntList;I)V" } : Jvm.MethodName) method_2_code (2 : Nat) (Option.none : Option Jvm.ClassFile.FieldType)).before args0 about1 = true := code_word (m := ⟨1, 1⟩) (meth := k1m1) (c := k1c1) (by decide +kernel) rfl rfl rfl (by decide +kernel)
def codes1 : List Jvm.Cond := [Jvm.Cond.code x code maxLocals ret, Jvm.Cond.code ({ cls := "com/example/unraveling/unraveling/graph/IntList", name := "<init>", desc := "()V" } : Jvm.MethodName) prog_52_method_1_code (1 : Nat) (Option.none : Option Jvm.ClassFile.FieldType), Jvm.Cond.code ({ cls := "java/lang/Object", name := "<init>", desc := "()V" } : Jvm.MethodName) object_method_1_code (1 : Nat) (Option.none : Option Jvm.ClassFile.FieldType), Jvm.Cond.code ({ cls := "com/example/unraveling/unraveling/graph/IntList", name := "add", desc := "(I)V" } : Jvm.MethodName) prog_52_method_2_code (2 : Nat) (Option.none : Option Jvm.ClassFile.FieldType), Jvm.Cond.code ({ cls := "com/example/unraveling/unraveling/graph/IntList", name := "size", desc := "()I" } : Jvm.MethodName) prog_52_method_4_code (1 : Nat) (Option.some Jvm.ClassFile.FieldType.int), Jvm.Cond.code ({ cls := "com/example/unraveling/unraveling/graph/IntList", name := "get", desc := "(I)I" } : Jvm.MethodName) prog_52_method_3_code (2 : Nat) (Option.some Jvm.ClassFile.FieldType.int), Jvm.Cond.code ({ cls := "com/example/unraveling/unraveling/graph/IntList", name := "toArray", desc := "()[I" } : Jvm.MethodName) prog_52_method_6_code (1 : Nat) (Option.some (Jvm.ClassFile.FieldType.array Jvm.ClassFile.FieldType.int)), Jvm.Cond.code ({ cls := "java/util/Arrays", name := "copyOf", desc := "([II)[I" } : Jvm.MethodName) jdk_65_method_123_code (3 : Nat) (Option.some (Jvm.ClassFile.FieldType.array Jvm.ClassFile.FieldType.int)), Jvm.Cond.code ({ cls := "java/lang/Math", name := "min", desc := "(II)I" } : Jvm.MethodName) jdk_29_method_69_code (2 : Nat) (Option.some Jvm.ClassFile.FieldType.int), Jvm.Cond.code ({ cls := "com/example/unraveling/unraveling/graph/IntListAddPinLaw", name := "add4", desc := "(Lcom/example/unraveling/unraveling/graph/IntList;I)V" } : Jvm.MethodName) method_2_code (2 : Nat) (Option.none : Option Jvm.ClassFile.FieldType)]
set_option maxRecDepth 65536 in
theorem codes_eq : words1.filter isCode = codes1 := rfl
theorem w_codes : ∀ c ∈ words1.filter isCode, c.before args0 about1 = true := by
  rw [codes_eq]
  intro c hc
  simp only [codes1, List.mem_cons, List.not_mem_nil, or_false] at hc
  rcases hc with rfl | rfl | rfl | rfl | rfl | rfl | rfl | rfl | rfl | rfl
  · exact w_c0
  · exact w_c1
  · exact w_c2
  · exact w_c3
  · exact w_c4
  · exact w_c5
  · exact w_c6
  · exact w_c7
  · exact w_c8
  · exact w_c9
set_option maxRecDepth 65536 in
theorem w_t1 : (words1.take 24).all (fun c => isCode c || c.before args0 about1) = true := by decide +kernel
set_option maxRecDepth 65536 in
theorem w_t2 : ((words1.drop 24).take 24).all (fun c => isCode c || c.before args0 about1) = true := by decide +kernel
set_option maxRecDepth 65536 in
theorem w_t3 : ((words1.drop 24).drop 24).all (fun c => isCode c || c.before args0 about1) = true := by decide +kernel
theorem w_tables : (allAtoms (Jvm.Cond.code x code maxLocals ret :: tables_1)).before args0 about1 = true := by
  rw [allAtoms_all]
  show words1.all (fun c => c.before args0 about1) = true
  refine all_split ?_ w_codes
  rw [← List.take_append_drop 24 words1, List.all_append, w_t1, ← List.take_append_drop 24 (words1.drop 24), List.all_append, w_t2, w_t3]
  rfl
set_option maxRecDepth 65536 in
theorem w_case : (Jvm.Cond.and given_1 narrow_1).before args0 about1 = true := by decide +kernel
theorem w_applies : (headSpec (Jvm.Cond.code x code maxLocals ret :: tables_1) room_1).applies x e0.platform about1 = true :=
  (Spec.applies_iff w_frames).mpr ⟨w_running, w_runnable, w_alone, w_named, w_hears, w_ripe, w_room, w_tables⟩
theorem atStart : AtStart classFile x code maxLocals ret World_1 tables_1 room_1 Calls_1 rest_1 Pre_1 launch0 p0 e0 about1 theMethod args0 below0 :=
  ⟨lists_1, trivial, launch0.admits_env _ _ _, launch0.least_env, fairChoices_fair.cas, fairChoices_fair.clock, w_frames, w_args, w_heap, w_applies, trivial, trivial, w_case⟩
end start1
theorem witness_1 : WitnessClaimed_1 := ⟨start1.p0, start1.e0, start1.about1, start1.theMethod, start1.args0, start1.below0, start1.atStart⟩
end Jvm.Pilot.@@N@@
