import JvmDerived
import JvmDerived.Pilot.@@N@@Statement
import JvmDerived.Pilot.@@N@@Code
set_option linter.unusedVariables false
set_option linter.unusedSimpArgs false
namespace Jvm.RoadKit
open Sem ClassFile Op Lib Jvm.Stand Jvm.Free Jvm.LawKit
section New
variable {p : Program} {l : Launch} {e : Env} {R : Room} {s : State} {m : MethodId} {args : Array Value} {below : List Frame} {meth : Method} {c : Code} {T : State} {locs : List Loc} {cells slots : Nat}
theorem retI (X : Stand p l e R s m args below meth c T locs cells slots) (hx : p.tables.exec = Jvm.exec) {pc : Nat} {Ls : Array Slot} {z : Int32} {rest : List Value} (hret : meth.sig.returnType = some .int) (hd : decode c.code pc = .ok (.ireturn, 1)) {fs : List Frame}
    (hl : ∀ (f : JFrame) (acts : List Action), f.method = m → f.locked = none → f.entered = [] → (doReturn e (T.setTop f) acts (some (.int z))).1 = T.setFrames fs) : Steps p.tables e below (T.setTop (mkF m pc Ls (.int z :: rest))) (T.setFrames fs) := by
  have hm' : T.vm.method? m = some meth := X.method'
  have hn : narrow .int (.int z) = .int z := rfl
  show Steps p.tables e below (T.setTop { method := m, pc := pc, locals := Ls, stack := _ :: rest, locked := none }) _
  jvm_step X.here [X.here.top, hx, hd, hm', hret, hn]
  first | (intro acts; rw [hl _ acts rfl rfl rfl]) | rw [hl _ _ rfl rfl rfl]
  exact Steps.refl _
theorem own_retJ (X : Stand p l e R s m args below meth c T locs cells slots) (hx : p.tables.exec = Jvm.exec) {pc : Nat} {Ls : Array Slot} {z : Int64} {rest : List Value} (hret : meth.sig.returnType = some .long) (hd : decode c.code pc = .ok (.lreturn, 1)) {fs : List Frame}
    (hl : ∀ (f : JFrame) (acts : List Action), f.method = m → f.locked = none → f.entered = [] → (doReturn e (T.setTop f) acts (some (.long z))).1 = T.setFrames fs) : Steps p.tables e below (T.setTop (mkF m pc Ls (.long z :: rest))) (T.setFrames fs) := by
  have hm' : T.vm.method? m = some meth := X.method'
  show Steps p.tables e below (T.setTop { method := m, pc := pc, locals := Ls, stack := _ :: rest, locked := none }) _
  jvm_step X.here [X.here.top, hx, hd, hm', hret, narrow]
  first | (intro acts; rw [hl _ acts rfl rfl rfl]) | rw [hl _ _ rfl rfl rfl]
  exact Steps.refl _
theorem own_retA (X : Stand p l e R s m args below meth c T locs cells slots) (hx : p.tables.exec = Jvm.exec) {pc : Nat} {Ls : Array Slot} {z : Addr} {rest : List Value} {ty : FieldType} (hret : meth.sig.returnType = some ty) (hty : ty.isReference = true) (hd : decode c.code pc = .ok (.areturn, 1)) {fs : List Frame}
    (hl : ∀ (f : JFrame) (acts : List Action), f.method = m → f.locked = none → f.entered = [] → (doReturn e (T.setTop f) acts (some (.ref z))).1 = T.setFrames fs) : Steps p.tables e below (T.setTop (mkF m pc Ls (.ref z :: rest))) (T.setFrames fs) := by
  have hm' : T.vm.method? m = some meth := X.method'
  show Steps p.tables e below (T.setTop { method := m, pc := pc, locals := Ls, stack := _ :: rest, locked := none }) _
  jvm_step X.here [X.here.top, hx, hd, hm', hret, hty, Value.isRef]
  first | (intro acts; rw [hl _ acts rfl rfl rfl]) | rw [hl _ _ rfl rfl rfl]
  exact Steps.refl _
end New
end Jvm.RoadKit
namespace Jvm.Pilot.@@N@@
open Jvm Jvm.ClassFile Sem Op Lib Jvm.Free Jvm.Stand Jvm.LawKit Jvm.RoadKit Bundle Jvm.Pilot.@@N@@.Jvm.D
/-- a body that leaves the heap as it is and returns w -/
def QV (w : Value) (h0 : Heap) (n0 : Nat) (v : Option Value) (h : Heap) (L : List Loc) : Prop := v = some w ∧ Fr n0 L ∧ h = h0
def QL (n0 : Nat) (v : Option Value) (h : Heap) (L : List Loc) : Prop := v = some (.int 1) ∧ Fr n0 L
/-- an array's components as a function -/
def Af (Z : State) (h : Heap) (a : Addr) (k : ClassId) (ty : FieldType) (n : Nat) (f : Nat → Value) : Prop := ∃ c : Cell, Arr Z h a c ty ∧ c.cls = k ∧ c.slots.size = n ∧ ∀ i, i < n → c.slots[i]? = some (f i)
section AfLaws
variable {Z : State} {h h' : Heap} {a b : Addr} {k : ClassId} {ty : FieldType} {n : Nat} {f : Nat → Value} {sl : Nat} {v : Value} {ws : List Addr}
theorem Af.lt (F : Af Z h a k ty n f) : a < h.size := by obtain ⟨c, A, -⟩ := F; exact A.lt
theorem Af.ext (F : Af Z h a k ty n f) (E : Ext h h') : Af Z h' a k ty n f := by obtain ⟨c, A, r⟩ := F; exact ⟨c, A.ext E, r⟩
theorem Af.other (F : Af Z h b k ty n f) (W : Wr h h' a sl v) (q : b ≠ a) : Af Z h' b k ty n f := by obtain ⟨c, A, r⟩ := F; exact ⟨c, A.other W q, r⟩
theorem Af.keep (F : Af Z h a k ty n f) (K : Keep h h' ws) (q : a ∉ ws) : Af Z h' a k ty n f := by obtain ⟨c, A, r⟩ := F; exact ⟨c, ⟨K.2.1 a c A.1 q, A.2⟩, r⟩
theorem Af.new {z : Int32} (A : Arr Z h a (newA k ty z) ty) (hz : z.toNatClampNeg = n) : Af Z h a k ty n (fun _ => defaultValue ty) := ⟨_, A, rfl, (sz_new _ _ _).trans hz, fun i hi => by simp [newA, hz, hi]⟩
theorem Af.set {c : Cell} {j : Int32} (A : Arr Z h a c ty) (q : c.cls = k) (S : c.slots.size = n) (H : ∀ i, i < n → c.slots[i]? = some (f i)) (W : Wr h h' a j.toNatClampNeg v) : Af Z h' a k ty n (fun i => if i = j.toNatClampNeg then v else f i) := by
  refine ⟨_, A.same W, q, by rw [sz_set]; exact S, fun i hi => ?_⟩
  show _ = some (if i = j.toNatClampNeg then v else f i)
  by_cases u : i = j.toNatClampNeg
  · subst u; rw [if_pos rfl]; simp [Cell.setSlot, S, hi]
  · rw [if_neg u]; have := H i hi; simp only [Cell.setSlot]; rw [Array.getElem?_setIfInBounds_ne (Ne.symm u)]; exact this
theorem Af.congr {g : Nat → Value} (F : Af Z h a k ty n f) (e : ∀ i, i < n → f i = g i) : Af Z h a k ty n g := by obtain ⟨c, A, q, S, H⟩ := F; exact ⟨c, A, q, S, fun i hi => by rw [H i hi, e i hi]⟩
theorem Af.ne {g : Nat → Value} {k' : ClassId} {n' : Nat} {ty' : FieldType} (F : Af Z h a k ty n f) (G : Af Z h b k' ty' n' g) (q : k ≠ k') : a ≠ b := fun e => by
  subst e; obtain ⟨c, A, q1, -⟩ := F; obtain ⟨d, B, q2, -⟩ := G
  cases A.1.symm.trans B.1; exact q (q1.symm.trans q2)
theorem own_inb {c : Cell} {j : Int32} (S : c.slots.size = n) (h1 : ¬ j < 0) (h2 : j.toNatClampNeg < n) : ¬ (j < 0 ∨ c.slots.size ≤ j.toNatClampNeg) := by rw [S]; exact fun q => q.elim h1 (fun r => absurd r (Nat.not_le.mpr h2))
end AfLaws
def dirV : Option Addr → Value
  | none => .null
  | some a => .ref a
/-- the number of binary digits -/
def bl (k : Nat) : Nat := if k = 0 then 0 else Nat.log2 k + 1
/-- a page's shift -/
def shN (base KK : Nat) : Nat := min base (bl (KK - 1))
/-- the pages of the directory -/
def npN (base KK : Nat) : Nat := (KK + 2 ^ shN base KK - 1) / 2 ^ shN base KK
theorem own_nn (k : Nat) (h : k < 2 ^ 31) : ¬ Int32.ofNat k < 0 := by
  rw [Int32.lt_iff_toInt_lt, Int32.toInt_ofNat_of_lt h]; show ¬ (k : Int) < 0; omega
theorem own_clamp (k : Nat) (h : k < 2 ^ 31) : (Int32.ofNat k).toNatClampNeg = k := by
  simp only [Int32.toNatClampNeg, Int32.toInt_ofNat_of_lt h]; rfl
/-- the key table: its fields, its directory and pages, what each page holds (g), which pages are made (md), how many (cnt) -/
def KT (Z : State) (h : Heap) (n0 : Nat) (t : Addr) (num : Int32) (fn fd : String) (ety : FieldType) (C : String) (S np pl : Nat) (dv : Value) (md : Nat → Bool) (g : Nat → Nat → Value) (cnt : Int32) : Prop :=
  Exa Z h t "com/example/parley/parley/core/KeyTable" ∧ Fld Z h t "com/example/parley/parley/core/KeyTable" "numbered" "Z" (.int num) ∧ Fld Z h t "com/example/parley/parley/core/KeyTable" "pageShift" "I" (.int (Int32.ofNat S)) ∧ Fld Z h t "com/example/parley/parley/core/KeyTable" "pageKeys" "I" (.int (Int32.ofNat (2 ^ S))) ∧ Fld Z h t "com/example/parley/parley/core/KeyTable" "pageWords" "I" (.int (Int32.ofNat (max 1 (2 ^ S / 64)))) ∧ Fld Z h t "com/example/parley/parley/core/KeyTable" "madePages" "I" (.int cnt) ∧ n0 ≤ t ∧
  ∃ (D : Addr) (kD : ClassId) (dir : Nat → Option Addr), Fld Z h t "com/example/parley/parley/core/KeyTable" fn fd (.ref D) ∧ Af Z h D kD (.array ety) np (fun i => dirV (dir i)) ∧ OvrA Z kD ety C ∧ n0 ≤ D ∧ t ≠ D ∧ (∀ i, (dir i).isSome = md i) ∧ (∀ i a, dir i = some a → a ≠ t ∧ a ≠ D ∧ n0 ≤ a ∧ ∃ k, Af Z h a k ety pl (g i)) ∧ (∀ i j a, dir i = some a → dir j = some a → i = j) ∧ (∀ i j, md i = false → g i j = dv)
/-- what a body that only changes the table leaves -/
def QK (Z : State) (t : Addr) (num : Int32) (fn fd : String) (ety : FieldType) (C : String) (S np pl : Nat) (dv : Value) (md : Nat → Bool) (g : Nat → Nat → Value) (cnt : Int32) (h0 : Heap) (n0 : Nat) (v : Option Value) (h : Heap) (L : List Loc) : Prop := v = none ∧ Fr n0 L ∧ h0.size ≤ h.size ∧ KT Z h n0 t num fn fd ety C S np pl dv md g cnt
def updM (md : Nat → Bool) (P : Nat) : Nat → Bool := fun i => decide (i = P) || md i
def updG (g : Nat → Nat → Value) (P X : Nat) (v : Value) : Nat → Nat → Value := fun i j => if i = P ∧ j = X then v else g i j
theorem own_upd_int {g : Nat → Nat → Value} {P1 X1 P X : Nat} {x1 y : Int32} (h : g P X = .int y) : updG g P1 X1 (.int x1) P X = .int (if P = P1 ∧ X = X1 then x1 else y) := by
  unfold updG; by_cases c : P = P1 ∧ X = X1
  · rw [if_pos c, if_pos c]
  · rw [if_neg c, if_neg c]; exact h
theorem own_upd_long {g : Nat → Nat → Value} {P1 X1 P X : Nat} {x1 y : Int64} (h : g P X = .long y) : updG g P1 X1 (.long x1) P X = .long (if P = P1 ∧ X = X1 then x1 else y) := by
  unfold updG; by_cases c : P = P1 ∧ X = X1
  · rw [if_pos c, if_pos c]
  · rw [if_neg c, if_neg c]; exact h
/-- one stage of the leading zeros' search: a is I / 2^e and n is 31 - e -/
theorem own_stage (I e k : Nat) (a n a' n' q d L : Int32) (hk : q.toBitVec.toNat % 32 = k) (h0 : 0 < k) (hk16 : k ≤ 16) (hd : d.toInt = -(k : Int)) (hL : L.toInt = ((2 ^ k : Nat) : Int)) (hI : I < 2 ^ 31) (he : e + k ≤ 31)
    (ha : a.toInt = ((I / 2 ^ e : Nat) : Int)) (hn : n.toInt = 31 - (e : Int)) (ea : a' = (if a < L then a else ((a.toUInt32 >>> (q &&& 31).toUInt32).toInt32))) (en : n' = (if a < L then n else n + d)) (hb : I / 2 ^ e < 2 ^ (2 * k)) (hp : 0 < I / 2 ^ e) :
    ∃ e' : Nat, e ≤ e' ∧ e' ≤ e + k ∧ a'.toInt = ((I / 2 ^ e' : Nat) : Int) ∧ n'.toInt = 31 - (e' : Int) ∧ I / 2 ^ e' < 2 ^ k ∧ 0 < I / 2 ^ e' := by
  by_cases c : a < L
  · rw [if_pos c] at ea en; subst ea en
    rw [Int32.lt_iff_toInt_lt, ha, hL] at c
    exact ⟨e, Nat.le_refl _, by omega, ha, hn, by omega, hp⟩
  · rw [if_neg c] at ea en; subst ea en
    rw [Int32.lt_iff_toInt_lt, ha, hL] at c
    have e1 : I / 2 ^ (e + k) = I / 2 ^ e / 2 ^ k := by rw [Nat.pow_add, Nat.div_div_eq_div_mul]
    have hI2 : I / 2 ^ e ≤ I := Nat.div_le_self _ _
    refine ⟨e + k, by omega, by omega, ?_, ?_, ?_, ?_⟩
    · rw [c_iushr a q k hk h0, ha, e1, Int.emod_eq_of_lt (by omega) (by omega)]; rfl
    · have := c_iadd n d; have := rng32 (n + d); omega
    · rw [e1]; apply Nat.div_lt_of_lt_mul; rw [← Nat.pow_add, show k + k = 2 * k by omega]; exact hb
    · rw [e1]; apply Nat.div_pos _ (Nat.pow_pos (by decide)); omega
/-- the leading zeros of a positive int -/
theorem own_nlz (i a1 n1 a2 n2 a3 n3 a4 n4 : Int32) (I : Nat) (hI : i.toInt = I) (hp : 0 < I)
    (e1 : a1 = (if i < (65536 : Int32) then i else ((i.toUInt32 >>> ((16 : Int32) &&& 31).toUInt32).toInt32))) (f1 : n1 = (if i < (65536 : Int32) then (31 : Int32) else ((31 : Int32) + (-16 : Int32))))
    (e2 : a2 = (if a1 < (256 : Int32) then a1 else ((a1.toUInt32 >>> ((8 : Int32) &&& 31).toUInt32).toInt32))) (f2 : n2 = (if a1 < (256 : Int32) then n1 else (n1 + (-8 : Int32))))
    (e3 : a3 = (if a2 < (16 : Int32) then a2 else ((a2.toUInt32 >>> ((4 : Int32) &&& 31).toUInt32).toInt32))) (f3 : n3 = (if a2 < (16 : Int32) then n2 else (n2 + (-4 : Int32))))
    (e4 : a4 = (if a3 < (4 : Int32) then a3 else ((a3.toUInt32 >>> ((2 : Int32) &&& 31).toUInt32).toInt32))) (f4 : n4 = (if a3 < (4 : Int32) then n3 else (n3 + (-2 : Int32)))) :
    ∃ e : Nat, e ≤ 30 ∧ (n4 - ((a4.toUInt32 >>> ((1 : Int32) &&& 31).toUInt32).toInt32)).toInt = 31 - (e : Int) ∧ 2 ^ e ≤ I ∧ I < 2 ^ (e + 1) := by
  have hr := rng32 i
  obtain ⟨x1, p1, q1, r1, s1, t1, u1⟩ := own_stage I 0 16 i 31 a1 n1 16 (-16) 65536 rfl (by decide) (by decide) rfl rfl (by omega) (by decide) (by rw [hI, Nat.pow_zero, Nat.div_one]) rfl e1 f1 (by rw [Nat.pow_zero, Nat.div_one]; omega) (by rw [Nat.pow_zero, Nat.div_one]; omega)
  obtain ⟨x2, p2, q2, r2, s2, t2, u2⟩ := own_stage I x1 8 a1 n1 a2 n2 8 (-8) 256 rfl (by decide) (by decide) rfl rfl (by omega) (by omega) r1 s1 e2 f2 t1 u1
  obtain ⟨x3, p3, q3, r3, s3, t3, u3⟩ := own_stage I x2 4 a2 n2 a3 n3 4 (-4) 16 rfl (by decide) (by decide) rfl rfl (by omega) (by omega) r2 s2 e3 f3 t2 u2
  obtain ⟨x4, p4, q4, r4, s4, t4, u4⟩ := own_stage I x3 2 a3 n3 a4 n4 2 (-2) 4 rfl (by decide) (by decide) rfl rfl (by omega) (by omega) r3 s3 e4 f4 t3 u3
  have g := c_iushr a4 1 1 rfl (by decide)
  have e5 : I / 2 ^ (x4 + 1) = I / 2 ^ x4 / 2 := by rw [Nat.pow_succ, Nat.div_div_eq_div_mul]
  rw [r4] at g
  generalize ((a4.toUInt32 >>> ((1 : Int32) &&& 31).toUInt32).toInt32) = y at g ⊢
  have gs := c_isub n4 y
  have gr := rng32 (n4 - y)
  have w1 : ∀ e, I / 2 ^ e = 1 → 2 ^ e ≤ I ∧ I < 2 ^ (e + 1) := fun e h => by
    have hp2 : 0 < 2 ^ e := Nat.pow_pos (by decide)
    have a1 := Nat.div_add_mod I (2 ^ e); have a2 := Nat.mod_lt I hp2
    rw [h] at a1; rw [Nat.pow_succ]; omega
  by_cases c : I / 2 ^ x4 = 1
  · obtain ⟨b1, b2⟩ := w1 _ c
    exact ⟨x4, by omega, by omega, b1, b2⟩
  · obtain ⟨b1, b2⟩ := w1 (x4 + 1) (by omega)
    have b3 : x4 + 1 < 31 := (Nat.pow_lt_pow_iff_right (by decide : 1 < 2)).mp (Nat.lt_of_le_of_lt b1 (by omega))
    exact ⟨x4 + 1, by omega, by omega, b1, b2⟩
theorem own_ofnat (y : Int32) (k : Nat) (h : y.toInt = k) (hk : k < 2 ^ 31) : y = Int32.ofNat k := by
  apply Int32.toInt_inj.mp
  rw [h, Int32.toInt_ofNat_of_lt hk]
theorem own_ofnatI (k : Nat) (hk : k < 2 ^ 31) : (Int32.ofNat k).toInt = k := Int32.toInt_ofNat_of_lt hk
theorem own_ofnatB (k : Nat) (hk : k < 2 ^ 31) : (Int32.ofNat k).toBitVec.toNat = k := by
  show (BitVec.ofNat 32 k).toNat = k
  rw [BitVec.toNat_ofNat, Nat.mod_eq_of_lt (by omega)]
theorem own_bl (I e : Nat) (h1 : 2 ^ e ≤ I) (h2 : I < 2 ^ (e + 1)) : bl I = e + 1 := by
  have h0 : I ≠ 0 := by have := Nat.pow_pos (n := e) (by decide : 0 < 2); omega
  rw [bl, if_neg h0, (Nat.log2_eq_iff h0).mpr ⟨h1, h2⟩]
theorem own_bl_lt (I : Nat) : I < 2 ^ bl I := by
  by_cases h : I = 0
  · subst h; decide
  · rw [bl, if_neg h]; exact Nat.lt_log2_self
theorem own_bl_le (I k : Nat) (h : I < 2 ^ k) : bl I ≤ k := by
  by_cases h0 : I = 0
  · subst h0; exact Nat.zero_le _
  · rw [bl, if_neg h0]; exact (Nat.log2_lt h0).mpr h
theorem own_le_bl (I k : Nat) (h : 2 ^ k ≤ I) : k + 1 ≤ bl I := by
  have h0 : I ≠ 0 := by have := Nat.pow_pos (n := k) (by decide : 0 < 2); omega
  rw [bl, if_neg h0]; exact Nat.succ_le_succ ((Nat.le_log2 h0).mpr h)
theorem own_nlzv (i a1 n1 a2 n2 a3 n3 a4 n4 : Int32) (I : Nat) (hI : i.toInt = I) (hp : (0 : Int32) < i)
    (e1 : a1 = (if i < (65536 : Int32) then i else ((i.toUInt32 >>> ((16 : Int32) &&& 31).toUInt32).toInt32))) (f1 : n1 = (if i < (65536 : Int32) then (31 : Int32) else ((31 : Int32) + (-16 : Int32))))
    (e2 : a2 = (if a1 < (256 : Int32) then a1 else ((a1.toUInt32 >>> ((8 : Int32) &&& 31).toUInt32).toInt32))) (f2 : n2 = (if a1 < (256 : Int32) then n1 else (n1 + (-8 : Int32))))
    (e3 : a3 = (if a2 < (16 : Int32) then a2 else ((a2.toUInt32 >>> ((4 : Int32) &&& 31).toUInt32).toInt32))) (f3 : n3 = (if a2 < (16 : Int32) then n2 else (n2 + (-4 : Int32))))
    (e4 : a4 = (if a3 < (4 : Int32) then a3 else ((a3.toUInt32 >>> ((2 : Int32) &&& 31).toUInt32).toInt32))) (f4 : n4 = (if a3 < (4 : Int32) then n3 else (n3 + (-2 : Int32)))) :
    (n4 - ((a4.toUInt32 >>> ((1 : Int32) &&& 31).toUInt32).toInt32)) = Int32.ofNat (32 - bl I) := by
  have h0 : (0 : Int32).toInt = 0 := rfl
  rw [Int32.lt_iff_toInt_lt] at hp
  obtain ⟨e, h1, h2, h3, h4⟩ := own_nlz i a1 n1 a2 n2 a3 n3 a4 n4 I hI (by omega) e1 f1 e2 f2 e3 f3 e4 f4
  apply own_ofnat _ _ _ (by omega)
  rw [h2, own_bl I e h3 h4]; omega
theorem own_nlz0 (i z : Int32) (I : Nat) (hI : i.toInt = I) (hp : ¬ (0 : Int32) < i) (e : z = (if i = (0 : Int32) then (32 : Int32) else (0 : Int32))) : z = Int32.ofNat (32 - bl I) := by
  have h0 : (0 : Int32).toInt = 0 := rfl
  rw [Int32.lt_iff_toInt_lt] at hp
  have hz : I = 0 := by omega
  subst hz
  rw [if_pos (Int32.toInt_inj.mp (by rw [hI]; rfl))] at e
  rw [e]; decide
theorem own_hi0 (q : Int64) (I : Nat) (hq : q.toInt = I) (hI : I < 2 ^ 31) : (((q.toUInt64 >>> ((32 : Int32) &&& 0x3f).toInt64.toUInt64).toInt64).toInt32) = (0 : Int32) := by
  have h := c_lushr q 32 32 rfl (by decide)
  apply Int32.toInt_inj.mp
  have h1 := c_l2i ((q.toUInt64 >>> ((32 : Int32) &&& 0x3f).toInt64.toUInt64).toInt64)
  have h0 : (0 : Int32).toInt = 0 := rfl
  have h2 := rng32 (((q.toUInt64 >>> ((32 : Int32) &&& 0x3f).toInt64.toUInt64).toInt64).toInt32)
  rw [h0]; omega
theorem own_lo (q : Int64) (I : Nat) (hq : q.toInt = I) (hI : I < 2 ^ 31) : q.toInt32.toInt = I := by
  have h1 := c_l2i q; have h2 := rng32 q.toInt32; omega
theorem own_dec (q : Int64) (K : Nat) (hq : q.toInt = K) (h1 : 1 ≤ K) : (q - (1 : Int64)).toInt = ((K - 1 : Nat) : Int) := by
  have h2 := c_lsub q 1; have h3 := rng64 (q - 1); have h4 := rng64 q; have h5 : (1 : Int64).toInt = 1 := rfl; omega
theorem own_need (b : Nat) (hb : b ≤ 31) : ((64 : Int32) - ((32 : Int32) + Int32.ofNat (32 - b))) = Int32.ofNat b := by
  have : ∀ b : Fin 32, ((64 : Int32) - ((32 : Int32) + Int32.ofNat (32 - b.val))) = Int32.ofNat b.val := by decide +kernel
  exact this ⟨b, by omega⟩
theorem own_min (base b : Nat) (B : Int32) (hB : B = Int32.ofNat base) (h1 : base < 32) (h2 : b < 32) : (if Int32.ofNat b < B then Int32.ofNat b else B) = Int32.ofNat (min base b) := by
  subst hB
  have e : Int32.ofNat b < Int32.ofNat base ↔ b < base := by rw [Int32.lt_iff_toInt_lt, own_ofnatI b (by omega), own_ofnatI base (by omega)]; omega
  by_cases c : b < base
  · rw [if_pos (e.mpr c), Nat.min_eq_right (by omega)]
  · rw [if_neg (fun q => c (e.mp q)), Nat.min_eq_left (by omega)]
theorem own_sh_lt (base KK : Nat) : shN base KK ≤ base := Nat.min_le_left _ _
/-- 1 << s -/
theorem own_one_shl (S : Nat) (h : S < 31) : ((1 : Int32) <<< (Int32.ofNat S &&& 31)) = Int32.ofNat (2 ^ S) := by
  have : ∀ S : Fin 31, ((1 : Int32) <<< (Int32.ofNat S.val &&& 31)) = Int32.ofNat (2 ^ S.val) := by decide +kernel
  exact this ⟨S, h⟩
theorem own_words (S : Nat) (h : S ≤ 15) : ((if (1 : Int64) < (((Int32.ofNat (2 ^ S)).toInt64.toUInt64 >>> ((6 : Int32) &&& 0x3f).toInt64.toUInt64).toInt64) then (((Int32.ofNat (2 ^ S)).toInt64.toUInt64 >>> ((6 : Int32) &&& 0x3f).toInt64.toUInt64).toInt64) else (1 : Int64)).toInt32) = Int32.ofNat (max 1 (2 ^ S / 64)) := by
  have : ∀ S : Fin 16, ((if (1 : Int64) < (((Int32.ofNat (2 ^ S.val)).toInt64.toUInt64 >>> ((6 : Int32) &&& 0x3f).toInt64.toUInt64).toInt64) then (((Int32.ofNat (2 ^ S.val)).toInt64.toUInt64 >>> ((6 : Int32) &&& 0x3f).toInt64.toUInt64).toInt64) else (1 : Int64)).toInt32) = Int32.ofNat (max 1 (2 ^ S.val / 64)) := by decide +kernel
  exact this ⟨S, by omega⟩
/-- x >>> s for a number that isn't negative, s below 64 -/
theorem own_lushr (x : Int64) (X S : Nat) (hx : x.toInt = X) (hS : S < 64) : ((x.toUInt64 >>> (Int32.ofNat S &&& 0x3f).toInt64.toUInt64).toInt64).toInt = ((X / 2 ^ S : Nat) : Int) := by
  have hr := rng64 x
  by_cases h0 : S = 0
  · subst h0
    have e : ((x.toUInt64 >>> (Int32.ofNat 0 &&& 0x3f).toInt64.toUInt64).toInt64) = x := by
      have e1 : (Int32.ofNat 0 &&& 0x3f).toInt64.toUInt64 = 0 := by decide
      rw [e1, UInt64.shiftRight_zero]; rfl
    rw [e, hx, Nat.pow_zero, Nat.div_one]
  · rw [c_lushr x (Int32.ofNat S) S (by rw [own_ofnatB S (by omega), Nat.mod_eq_of_lt hS]) (by omega), hx, Int.emod_eq_of_lt (by omega) (by omega)]; rfl
theorem own_count (keys : Int64) (KK S : Nat) (hk : keys.toInt = KK) (h1 : 1 ≤ KK) (h2 : KK ≤ 2 ^ 30) (hS : S ≤ 15) : (((((keys + ((1 : Int64) <<< (Int32.ofNat S &&& 0x3f).toInt64)) - (1 : Int64)).toUInt64 >>> (Int32.ofNat S &&& 0x3f).toInt64.toUInt64).toInt64).toInt32) = Int32.ofNat ((KK + 2 ^ S - 1) / 2 ^ S) := by
  have hp : 2 ^ S ≤ 2 ^ 15 := Nat.pow_le_pow_right (by decide) hS
  have hp0 : 0 < 2 ^ S := Nat.pow_pos (by decide)
  have a1 := c_lshl 1 (Int32.ofNat S) S (by rw [own_ofnatB S (by omega), Nat.mod_eq_of_lt (by omega)])
  obtain ⟨w, ew⟩ : ∃ w, w = ((1 : Int64) <<< (Int32.ofNat S &&& 0x3f).toInt64) := ⟨_, rfl⟩
  rw [← ew] at a1 ⊢
  have l1 : (1 : Int64).toInt = 1 := rfl
  have rw_ := rng64 w
  have a2 : w.toInt = ((2 ^ S : Nat) : Int) := by rw [l1, Int.one_mul] at a1; omega
  have a3 := c_ladd keys w; have a4 := rng64 (keys + w)
  have a5 := c_lsub (keys + w) 1; have a6 := rng64 (keys + w - 1)
  have a7 : (keys + w - 1).toInt = ((KK + 2 ^ S - 1 : Nat) : Int) := by omega
  have a8 := own_lushr (keys + w - 1) (KK + 2 ^ S - 1) S a7 (by omega)
  have a9 : (KK + 2 ^ S - 1) / 2 ^ S ≤ KK + 2 ^ S - 1 := Nat.div_le_self _ _
  exact own_ofnat _ _ (own_lo _ _ a8 (by omega)) (by omega)
/-- the directory is small -/
theorem own_np (base KK lim : Nat) (hb : KK ≤ lim * 2 ^ base) (hl : 1 ≤ lim) (h1 : 1 ≤ KK) : npN base KK ≤ lim ∧ 1 ≤ npN base KK := by
  have hp0 : 0 < 2 ^ shN base KK := Nat.pow_pos (by decide)
  constructor
  · rw [npN]
    apply Nat.le_of_lt_succ
    apply Nat.div_lt_of_lt_mul
    by_cases c : base ≤ bl (KK - 1)
    · have e : shN base KK = base := Nat.min_eq_left c
      rw [e] at hp0 ⊢; rw [Nat.mul_succ, Nat.mul_comm (2 ^ base) lim]; omega
    · have e : shN base KK = bl (KK - 1) := Nat.min_eq_right (by omega)
      have := own_bl_lt (KK - 1)
      rw [e] at hp0 ⊢
      have h3 : 2 ^ bl (KK - 1) * 2 ≤ 2 ^ bl (KK - 1) * (lim + 1) := Nat.mul_le_mul_left _ (by omega)
      show KK + 2 ^ bl (KK - 1) - 1 < 2 ^ bl (KK - 1) * (lim + 1)
      omega
  · rw [npN]; apply Nat.div_pos _ hp0; omega
/-- a key's page lies in the directory -/
theorem own_page (base KK X : Nat) (h : X < KK) : X / 2 ^ shN base KK < npN base KK := by
  have hp0 : 0 < 2 ^ shN base KK := Nat.pow_pos (by decide)
  rw [npN]
  generalize 2 ^ shN base KK = P at *
  have h1 : X / P * P ≤ X := Nat.div_mul_le_self _ _
  apply (Nat.le_div_iff_mul_le hp0).mpr
  rw [Nat.succ_mul]; omega
theorem own_pageI (key : Int64) (X S P : Nat) (hX : key.toInt = X) (hX2 : X < 2 ^ 30) (hS : S ≤ 15) (hP : P = X / 2 ^ S) : (((key.toUInt64 >>> ((Int32.ofNat S) &&& 0x3f).toInt64.toUInt64).toInt64).toInt32) = (Int32.ofNat P) := by
  have h1 := own_lushr key X S hX (by omega)
  have h2 : X / 2 ^ S ≤ X := Nat.div_le_self _ _
  subst hP
  exact own_ofnat _ _ (own_lo _ _ h1 (by omega)) (by omega)
theorem own_ixI (key : Int64) (X S Ix : Nat) (hX : key.toInt = X) (hX2 : X < 2 ^ 30) (hS : S ≤ 15) (hI : Ix = X % 2 ^ S) : ((key.toInt32) &&& ((Int32.ofNat (2 ^ S)) - (1 : Int32))) = (Int32.ofNat Ix) := by
  have h0 : ∀ S : Fin 16, ((Int32.ofNat (2 ^ S.val)) - (1 : Int32)).toBitVec.toNat = 2 ^ S.val - 1 := by decide +kernel
  have h1 := c_mask key.toInt32 ((Int32.ofNat (2 ^ S)) - (1 : Int32)) S (by omega) (h0 ⟨S, by omega⟩)
  have h2 : X % 2 ^ S ≤ X := Nat.mod_le _ _
  subst hI
  refine own_ofnat _ _ ?_ (by omega)
  rw [h1, own_lo key X hX (by omega)]; rfl
theorem own_ixw (Ix : Nat) (h : Ix < 2 ^ 15) : (((Int32.ofNat Ix).toUInt32 >>> ((6 : Int32) &&& 31).toUInt32).toInt32) = (Int32.ofNat (Ix / 64)) := by
  refine own_ofnat _ _ ?_ (by omega)
  rw [c_iushr (Int32.ofNat Ix) 6 6 rfl (by decide), own_ofnatI Ix (by omega), Int.emod_eq_of_lt (by omega) (by omega)]; rfl
theorem own_wix (Ix S : Nat) (h : Ix < 2 ^ S) : Ix / 64 < max 1 (2 ^ S / 64) := by
  by_cases c : S < 6
  · have : 2 ^ S ≤ 2 ^ 5 := Nat.pow_le_pow_right (by decide) (by omega)
    omega
  · have e : 2 ^ S = 64 * 2 ^ (S - 6) := by rw [show (64 : Nat) = 2 ^ 6 by rfl, ← Nat.pow_add]; congr 1; omega
    rw [e] at h ⊢
    rw [Nat.mul_div_cancel_left _ (by decide)]
    have : Ix / 64 < 2 ^ (S - 6) := Nat.div_lt_of_lt_mul h
    omega
theorem d5_0 : decode jdk_33_method_47_code 0 = .ok (.iload_n 0, 1) := by decide +kernel
theorem d5_1 : decode jdk_33_method_47_code 1 = .ok (.ifCond .gt 14, 3) := by decide +kernel
theorem d5_4 : decode jdk_33_method_47_code 4 = .ok (.iload_n 0, 1) := by decide +kernel
theorem d5_5 : decode jdk_33_method_47_code 5 = .ok (.ifCond .ne 8, 3) := by decide +kernel
theorem d5_8 : decode jdk_33_method_47_code 8 = .ok (.bipush 32, 2) := by decide +kernel
theorem d5_10 : decode jdk_33_method_47_code 10 = .ok (.goto 4, 3) := by decide +kernel
theorem d5_13 : decode jdk_33_method_47_code 13 = .ok (.iconst 0, 1) := by decide +kernel
theorem d5_14 : decode jdk_33_method_47_code 14 = .ok (.ireturn, 1) := by decide +kernel
theorem d5_15 : decode jdk_33_method_47_code 15 = .ok (.bipush 31, 2) := by decide +kernel
theorem d5_17 : decode jdk_33_method_47_code 17 = .ok (.istore_n 1, 1) := by decide +kernel
theorem d5_18 : decode jdk_33_method_47_code 18 = .ok (.iload_n 0, 1) := by decide +kernel
theorem d5_19 : decode jdk_33_method_47_code 19 = .ok (.ldc_w 264, 3) := by decide +kernel
theorem d5_22 : decode jdk_33_method_47_code 22 = .ok (.if_icmp .lt 11, 3) := by decide +kernel
theorem d5_25 : decode jdk_33_method_47_code 25 = .ok (.iinc 1 (-16), 3) := by decide +kernel
theorem d5_28 : decode jdk_33_method_47_code 28 = .ok (.iload_n 0, 1) := by decide +kernel
theorem d5_29 : decode jdk_33_method_47_code 29 = .ok (.bipush 16, 2) := by decide +kernel
theorem d5_31 : decode jdk_33_method_47_code 31 = .ok (.iushr, 1) := by decide +kernel
theorem d5_32 : decode jdk_33_method_47_code 32 = .ok (.istore_n 0, 1) := by decide +kernel
theorem d5_33 : decode jdk_33_method_47_code 33 = .ok (.iload_n 0, 1) := by decide +kernel
theorem d5_34 : decode jdk_33_method_47_code 34 = .ok (.sipush 256, 3) := by decide +kernel
theorem d5_37 : decode jdk_33_method_47_code 37 = .ok (.if_icmp .lt 11, 3) := by decide +kernel
theorem d5_40 : decode jdk_33_method_47_code 40 = .ok (.iinc 1 (-8), 3) := by decide +kernel
theorem d5_43 : decode jdk_33_method_47_code 43 = .ok (.iload_n 0, 1) := by decide +kernel
theorem d5_44 : decode jdk_33_method_47_code 44 = .ok (.bipush 8, 2) := by decide +kernel
theorem d5_46 : decode jdk_33_method_47_code 46 = .ok (.iushr, 1) := by decide +kernel
theorem d5_47 : decode jdk_33_method_47_code 47 = .ok (.istore_n 0, 1) := by decide +kernel
theorem d5_48 : decode jdk_33_method_47_code 48 = .ok (.iload_n 0, 1) := by decide +kernel
theorem d5_49 : decode jdk_33_method_47_code 49 = .ok (.bipush 16, 2) := by decide +kernel
theorem d5_51 : decode jdk_33_method_47_code 51 = .ok (.if_icmp .lt 10, 3) := by decide +kernel
theorem d5_54 : decode jdk_33_method_47_code 54 = .ok (.iinc 1 (-4), 3) := by decide +kernel
theorem d5_57 : decode jdk_33_method_47_code 57 = .ok (.iload_n 0, 1) := by decide +kernel
theorem d5_58 : decode jdk_33_method_47_code 58 = .ok (.iconst 4, 1) := by decide +kernel
theorem d5_59 : decode jdk_33_method_47_code 59 = .ok (.iushr, 1) := by decide +kernel
theorem d5_60 : decode jdk_33_method_47_code 60 = .ok (.istore_n 0, 1) := by decide +kernel
theorem d5_61 : decode jdk_33_method_47_code 61 = .ok (.iload_n 0, 1) := by decide +kernel
theorem d5_62 : decode jdk_33_method_47_code 62 = .ok (.iconst 4, 1) := by decide +kernel
theorem d5_63 : decode jdk_33_method_47_code 63 = .ok (.if_icmp .lt 10, 3) := by decide +kernel
theorem d5_66 : decode jdk_33_method_47_code 66 = .ok (.iinc 1 (-2), 3) := by decide +kernel
theorem d5_69 : decode jdk_33_method_47_code 69 = .ok (.iload_n 0, 1) := by decide +kernel
theorem d5_70 : decode jdk_33_method_47_code 70 = .ok (.iconst 2, 1) := by decide +kernel
theorem d5_71 : decode jdk_33_method_47_code 71 = .ok (.iushr, 1) := by decide +kernel
theorem d5_72 : decode jdk_33_method_47_code 72 = .ok (.istore_n 0, 1) := by decide +kernel
theorem d5_73 : decode jdk_33_method_47_code 73 = .ok (.iload_n 1, 1) := by decide +kernel
theorem d5_74 : decode jdk_33_method_47_code 74 = .ok (.iload_n 0, 1) := by decide +kernel
theorem d5_75 : decode jdk_33_method_47_code 75 = .ok (.iconst 1, 1) := by decide +kernel
theorem d5_76 : decode jdk_33_method_47_code 76 = .ok (.iushr, 1) := by decide +kernel
theorem d5_77 : decode jdk_33_method_47_code 77 = .ok (.isub, 1) := by decide +kernel
theorem d5_78 : decode jdk_33_method_47_code 78 = .ok (.ireturn, 1) := by decide +kernel
theorem pn_5 : plainName "java/lang/Integer" = true := by first | (simp [plainName, overriddenIn]; done) | decide +kernel
theorem ef_rmNlz (m : MethodId) (i : Int32) : entryFrame m #[(.int i)] 2 = mkF m 0 #[.val (.int i), .unset] [] := by first | (simp [entryFrame, mkF, argsToLocals, Value.category]; done) | rfl
set_option maxRecDepth 65536 in
set_option maxHeartbeats 40000000 in
theorem rmNlz (l : Launch) (Z : State) (a0 : Array Value) (hw : ∀ d ∈ tables_1, d.before a0 Z = true) (ws : List Jvm.Cond) (i : Int32) (I : Nat) (h0 : Heap) (n0 : Nat) (hI : i.toInt = I) :
    MetFree l (⟨"java/lang/Integer", "numberOfLeadingZeros", "(I)I"⟩ : MethodName) (head1 (Jvm.Cond.code (⟨"java/lang/Integer", "numberOfLeadingZeros", "(I)I"⟩ : MethodName) jdk_33_method_47_code 2 (some .int) :: ws) ({ frames := 0, cells := 0, slots := 0, locals := 0 } : Room)) (fun a_ U_ => a_ = #[(.int i)] ∧ Z.Warmed39 U_.vm ∧ U_.heap = h0) (fun _ _ _ _ _ => True) (fun _ U_ o_ U'_ => ∃ v_ L_, o_ = .returned v_ ∧ QV (.int (Int32.ofNat (32 - bl I))) h0 n0 v_ U'_.heap L_ ∧ FrameEnd U_ o_ U'_ L_ ({ frames := 0, cells := 0, slots := 0, locals := 0 } : Room).cells ({ frames := 0, cells := 0, slots := 0, locals := 0 } : Room).slots) := by
  refine MetFree.of_bodySF (plainFor_of_name pn_5) hisR ?_
  intro p e s m args below meth c s₁ Bd hml0 hP hK
  obtain ⟨rfl, hZ, hh⟩ := hP
  have hx := Bd.exec
  have hby := Bd.bytes
  have hml : c.maxLocals = 2 := hml0
  have hown : s.vm.findClass "java/lang/Integer" = some m.cls := findClass_of_methodNamed Bd.named
  have hnm := (name_of_methodNamed Bd.named Bd.method).1
  have X0 : Stand p l e ({ frames := 0, cells := 0, slots := 0, locals := 0 } : Room) s m #[(.int i)] below meth c s₁ [] 0 0 := Stand.of_body Bd
  have e0 : s₁.heap = h0 := by rw [← hh, Bd.state]; rfl
  have N0 := Fr.nil n0
  have k0 : ∀ tg, Steps p.tables e below (s₁.setTop (mkF m 0 #[.val (.int i), .unset] [])) tg → Steps p.tables e below (s₁.setTop (entryFrame m #[(.int i)] 2)) tg := fun tg kq_ => castTop (ef_rmNlz m i) kq_
  have k1 : ∀ tg, Steps p.tables e below (s₁.setTop (mkF m 1 #[.val (.int i), .unset] [(.int i)])) tg → Steps p.tables e below (s₁.setTop (entryFrame m #[(.int i)] 2)) tg := by
    intro tg kt
    refine k0 tg ?_
    show Steps p.tables e below (s₁.setTop (mkF m 0 #[.val (.int i), .unset] [])) _
    refine XS.iloadN X0.here hx rfl (hb hby d5_0) rfl ?_
    show Steps p.tables e below (s₁.setTop (mkF m 1 #[.val (.int i), .unset] [(.int i)])) _
    exact kt
  by_cases hc2 : (0 : Int32) < i
  · have k3 : ∀ tg, Steps p.tables e below (s₁.setTop (mkF m 22 #[.val (.int i), .val (.int (31 : Int32))] [(.int (65536 : Int32)), (.int i)])) tg → Steps p.tables e below (s₁.setTop (entryFrame m #[(.int i)] 2)) tg := by
      intro tg kt
      refine k1 tg ?_
      refine XS.ifYes X0.here hx rfl (pc0 := 1) (pc' := 15) rfl (hb hby d5_1) rfl ((if0 _ _).trans (tlt hc2).2.2.1) (by decide) (by decide) ?_
      show Steps p.tables e below (s₁.setTop (mkF m 15 #[.val (.int i), .unset] [])) _
      refine XS.bipush X0.here hx rfl (hb hby d5_15) ?_
      show Steps p.tables e below (s₁.setTop (mkF m 17 #[.val (.int i), .unset] [(.int (31 : Int32))])) _
      refine XS.istoreN X0.here hx rfl (hb hby d5_17) rfl (l' := #[.val (.int i), .val (.int (31 : Int32))]) rfl ?_
      show Steps p.tables e below (s₁.setTop (mkF m 18 #[.val (.int i), .val (.int (31 : Int32))] [])) _
      refine XS.iloadN X0.here hx rfl (hb hby d5_18) rfl ?_
      show Steps p.tables e below (s₁.setTop (mkF m 19 #[.val (.int i), .val (.int (31 : Int32))] [(.int i)])) _
      refine X0.ldcwInt hx hown (mvT hZ (hw _ (List.mem_of_getElem? (i := 28) rfl))) (g := (mkF m 19 #[.val (.int i), .val (.int (31 : Int32))] [(.int i)])) rfl (hb hby d5_19) _ ?_
      show Steps p.tables e below (s₁.setTop (mkF m 22 #[.val (.int i), .val (.int (31 : Int32))] [(.int (65536 : Int32)), (.int i)])) _
      exact kt
    have k7 : ∀ tg, Steps p.tables e below (s₁.setTop (mkF m 33 #[.val (.int (if i < (65536 : Int32) then i else ((i.toUInt32 >>> ((16 : Int32) &&& 31).toUInt32).toInt32))), .val (.int (if i < (65536 : Int32) then (31 : Int32) else ((31 : Int32) + (-16 : Int32))))] [])) tg → Steps p.tables e below (s₁.setTop (entryFrame m #[(.int i)] 2)) tg := by
      intro tg kt
      refine k3 tg ?_
      show Steps p.tables e below (s₁.setTop (mkF m 22 #[.val (.int i), .val (.int (31 : Int32))] [(.int (65536 : Int32)), (.int i)])) _
      by_cases hc4 : i < (65536 : Int32)
      · refine XS.icmpYes X0.here hx rfl (pc0 := 22) (pc' := 33) rfl (hb hby d5_22) rfl (tlt hc4).1 (by decide) (by decide) ?_
        show Steps p.tables e below (s₁.setTop (mkF m 33 #[.val (.int i), .val (.int (31 : Int32))] [])) _
        repeat rw [if_pos hc4] at kt
        exact kt
      · refine XS.icmpNo X0.here hx rfl (hb hby d5_22) rfl (flt hc4).1 ?_
        show Steps p.tables e below (s₁.setTop (mkF m 25 #[.val (.int i), .val (.int (31 : Int32))] [])) _
        refine XS.iinc X0.here hx rfl (hb hby d5_25) rfl (l' := #[.val (.int i), .val (.int ((31 : Int32) + (-16 : Int32)))]) rfl ?_
        show Steps p.tables e below (s₁.setTop (mkF m 28 #[.val (.int i), .val (.int ((31 : Int32) + (-16 : Int32)))] [])) _
        refine XS.iloadN X0.here hx rfl (hb hby d5_28) rfl ?_
        show Steps p.tables e below (s₁.setTop (mkF m 29 #[.val (.int i), .val (.int ((31 : Int32) + (-16 : Int32)))] [(.int i)])) _
        refine XS.bipush X0.here hx rfl (hb hby d5_29) ?_
        show Steps p.tables e below (s₁.setTop (mkF m 31 #[.val (.int i), .val (.int ((31 : Int32) + (-16 : Int32)))] [(.int (16 : Int32)), (.int i)])) _
        refine XS.iushr X0.here hx rfl (hb hby d5_31) rfl ?_
        show Steps p.tables e below (s₁.setTop (mkF m 32 #[.val (.int i), .val (.int ((31 : Int32) + (-16 : Int32)))] [(.int ((i.toUInt32 >>> ((16 : Int32) &&& 31).toUInt32).toInt32))])) _
        refine XS.istoreN X0.here hx rfl (hb hby d5_32) rfl (l' := #[.val (.int ((i.toUInt32 >>> ((16 : Int32) &&& 31).toUInt32).toInt32)), .val (.int ((31 : Int32) + (-16 : Int32)))]) rfl ?_
        show Steps p.tables e below (s₁.setTop (mkF m 33 #[.val (.int ((i.toUInt32 >>> ((16 : Int32) &&& 31).toUInt32).toInt32)), .val (.int ((31 : Int32) + (-16 : Int32)))] [])) _
        repeat rw [if_neg hc4] at kt
        exact kt
    obtain ⟨z8, ez8⟩ : ∃ z : Int32, z = (if i < (65536 : Int32) then i else ((i.toUInt32 >>> ((16 : Int32) &&& 31).toUInt32).toInt32)) := ⟨_, rfl⟩
    obtain ⟨z9, ez9⟩ : ∃ z : Int32, z = (if i < (65536 : Int32) then (31 : Int32) else ((31 : Int32) + (-16 : Int32))) := ⟨_, rfl⟩
    have k10 : ∀ tg, Steps p.tables e below (s₁.setTop (mkF m 37 #[.val (.int z8), .val (.int z9)] [(.int (256 : Int32)), (.int z8)])) tg → Steps p.tables e below (s₁.setTop (entryFrame m #[(.int i)] 2)) tg := by
      intro tg kt
      refine k7 tg ?_
      show Steps p.tables e below (s₁.setTop (mkF m 33 #[.val (.int (if i < (65536 : Int32) then i else ((i.toUInt32 >>> ((16 : Int32) &&& 31).toUInt32).toInt32))), .val (.int (if i < (65536 : Int32) then (31 : Int32) else ((31 : Int32) + (-16 : Int32))))] [])) _
      rw [← ez8]
      rw [← ez9]
      show Steps p.tables e below (s₁.setTop (mkF m 33 #[.val (.int z8), .val (.int z9)] [])) _
      refine XS.iloadN X0.here hx rfl (hb hby d5_33) rfl ?_
      show Steps p.tables e below (s₁.setTop (mkF m 34 #[.val (.int z8), .val (.int z9)] [(.int z8)])) _
      refine XS.sipush X0.here hx rfl (hb hby d5_34) ?_
      show Steps p.tables e below (s₁.setTop (mkF m 37 #[.val (.int z8), .val (.int z9)] [(.int (256 : Int32)), (.int z8)])) _
      exact kt
    have k14 : ∀ tg, Steps p.tables e below (s₁.setTop (mkF m 48 #[.val (.int (if z8 < (256 : Int32) then z8 else ((z8.toUInt32 >>> ((8 : Int32) &&& 31).toUInt32).toInt32))), .val (.int (if z8 < (256 : Int32) then z9 else (z9 + (-8 : Int32))))] [])) tg → Steps p.tables e below (s₁.setTop (entryFrame m #[(.int i)] 2)) tg := by
      intro tg kt
      refine k10 tg ?_
      show Steps p.tables e below (s₁.setTop (mkF m 37 #[.val (.int z8), .val (.int z9)] [(.int (256 : Int32)), (.int z8)])) _
      by_cases hc11 : z8 < (256 : Int32)
      · refine XS.icmpYes X0.here hx rfl (pc0 := 37) (pc' := 48) rfl (hb hby d5_37) rfl (tlt hc11).1 (by decide) (by decide) ?_
        show Steps p.tables e below (s₁.setTop (mkF m 48 #[.val (.int z8), .val (.int z9)] [])) _
        repeat rw [if_pos hc11] at kt
        exact kt
      · refine XS.icmpNo X0.here hx rfl (hb hby d5_37) rfl (flt hc11).1 ?_
        show Steps p.tables e below (s₁.setTop (mkF m 40 #[.val (.int z8), .val (.int z9)] [])) _
        refine XS.iinc X0.here hx rfl (hb hby d5_40) rfl (l' := #[.val (.int z8), .val (.int (z9 + (-8 : Int32)))]) rfl ?_
        show Steps p.tables e below (s₁.setTop (mkF m 43 #[.val (.int z8), .val (.int (z9 + (-8 : Int32)))] [])) _
        refine XS.iloadN X0.here hx rfl (hb hby d5_43) rfl ?_
        show Steps p.tables e below (s₁.setTop (mkF m 44 #[.val (.int z8), .val (.int (z9 + (-8 : Int32)))] [(.int z8)])) _
        refine XS.bipush X0.here hx rfl (hb hby d5_44) ?_
        show Steps p.tables e below (s₁.setTop (mkF m 46 #[.val (.int z8), .val (.int (z9 + (-8 : Int32)))] [(.int (8 : Int32)), (.int z8)])) _
        refine XS.iushr X0.here hx rfl (hb hby d5_46) rfl ?_
        show Steps p.tables e below (s₁.setTop (mkF m 47 #[.val (.int z8), .val (.int (z9 + (-8 : Int32)))] [(.int ((z8.toUInt32 >>> ((8 : Int32) &&& 31).toUInt32).toInt32))])) _
        refine XS.istoreN X0.here hx rfl (hb hby d5_47) rfl (l' := #[.val (.int ((z8.toUInt32 >>> ((8 : Int32) &&& 31).toUInt32).toInt32)), .val (.int (z9 + (-8 : Int32)))]) rfl ?_
        show Steps p.tables e below (s₁.setTop (mkF m 48 #[.val (.int ((z8.toUInt32 >>> ((8 : Int32) &&& 31).toUInt32).toInt32)), .val (.int (z9 + (-8 : Int32)))] [])) _
        repeat rw [if_neg hc11] at kt
        exact kt
    obtain ⟨z15, ez15⟩ : ∃ z : Int32, z = (if z8 < (256 : Int32) then z8 else ((z8.toUInt32 >>> ((8 : Int32) &&& 31).toUInt32).toInt32)) := ⟨_, rfl⟩
    obtain ⟨z16, ez16⟩ : ∃ z : Int32, z = (if z8 < (256 : Int32) then z9 else (z9 + (-8 : Int32))) := ⟨_, rfl⟩
    have k17 : ∀ tg, Steps p.tables e below (s₁.setTop (mkF m 51 #[.val (.int z15), .val (.int z16)] [(.int (16 : Int32)), (.int z15)])) tg → Steps p.tables e below (s₁.setTop (entryFrame m #[(.int i)] 2)) tg := by
      intro tg kt
      refine k14 tg ?_
      show Steps p.tables e below (s₁.setTop (mkF m 48 #[.val (.int (if z8 < (256 : Int32) then z8 else ((z8.toUInt32 >>> ((8 : Int32) &&& 31).toUInt32).toInt32))), .val (.int (if z8 < (256 : Int32) then z9 else (z9 + (-8 : Int32))))] [])) _
      rw [← ez15]
      rw [← ez16]
      show Steps p.tables e below (s₁.setTop (mkF m 48 #[.val (.int z15), .val (.int z16)] [])) _
      refine XS.iloadN X0.here hx rfl (hb hby d5_48) rfl ?_
      show Steps p.tables e below (s₁.setTop (mkF m 49 #[.val (.int z15), .val (.int z16)] [(.int z15)])) _
      refine XS.bipush X0.here hx rfl (hb hby d5_49) ?_
      show Steps p.tables e below (s₁.setTop (mkF m 51 #[.val (.int z15), .val (.int z16)] [(.int (16 : Int32)), (.int z15)])) _
      exact kt
    have k21 : ∀ tg, Steps p.tables e below (s₁.setTop (mkF m 61 #[.val (.int (if z15 < (16 : Int32) then z15 else ((z15.toUInt32 >>> ((4 : Int32) &&& 31).toUInt32).toInt32))), .val (.int (if z15 < (16 : Int32) then z16 else (z16 + (-4 : Int32))))] [])) tg → Steps p.tables e below (s₁.setTop (entryFrame m #[(.int i)] 2)) tg := by
      intro tg kt
      refine k17 tg ?_
      show Steps p.tables e below (s₁.setTop (mkF m 51 #[.val (.int z15), .val (.int z16)] [(.int (16 : Int32)), (.int z15)])) _
      by_cases hc18 : z15 < (16 : Int32)
      · refine XS.icmpYes X0.here hx rfl (pc0 := 51) (pc' := 61) rfl (hb hby d5_51) rfl (tlt hc18).1 (by decide) (by decide) ?_
        show Steps p.tables e below (s₁.setTop (mkF m 61 #[.val (.int z15), .val (.int z16)] [])) _
        repeat rw [if_pos hc18] at kt
        exact kt
      · refine XS.icmpNo X0.here hx rfl (hb hby d5_51) rfl (flt hc18).1 ?_
        show Steps p.tables e below (s₁.setTop (mkF m 54 #[.val (.int z15), .val (.int z16)] [])) _
        refine XS.iinc X0.here hx rfl (hb hby d5_54) rfl (l' := #[.val (.int z15), .val (.int (z16 + (-4 : Int32)))]) rfl ?_
        show Steps p.tables e below (s₁.setTop (mkF m 57 #[.val (.int z15), .val (.int (z16 + (-4 : Int32)))] [])) _
        refine XS.iloadN X0.here hx rfl (hb hby d5_57) rfl ?_
        show Steps p.tables e below (s₁.setTop (mkF m 58 #[.val (.int z15), .val (.int (z16 + (-4 : Int32)))] [(.int z15)])) _
        refine XS.iconst X0.here hx rfl (hb hby d5_58) ?_
        show Steps p.tables e below (s₁.setTop (mkF m 59 #[.val (.int z15), .val (.int (z16 + (-4 : Int32)))] [(.int (4 : Int32)), (.int z15)])) _
        refine XS.iushr X0.here hx rfl (hb hby d5_59) rfl ?_
        show Steps p.tables e below (s₁.setTop (mkF m 60 #[.val (.int z15), .val (.int (z16 + (-4 : Int32)))] [(.int ((z15.toUInt32 >>> ((4 : Int32) &&& 31).toUInt32).toInt32))])) _
        refine XS.istoreN X0.here hx rfl (hb hby d5_60) rfl (l' := #[.val (.int ((z15.toUInt32 >>> ((4 : Int32) &&& 31).toUInt32).toInt32)), .val (.int (z16 + (-4 : Int32)))]) rfl ?_
        show Steps p.tables e below (s₁.setTop (mkF m 61 #[.val (.int ((z15.toUInt32 >>> ((4 : Int32) &&& 31).toUInt32).toInt32)), .val (.int (z16 + (-4 : Int32)))] [])) _
        repeat rw [if_neg hc18] at kt
        exact kt
    obtain ⟨z22, ez22⟩ : ∃ z : Int32, z = (if z15 < (16 : Int32) then z15 else ((z15.toUInt32 >>> ((4 : Int32) &&& 31).toUInt32).toInt32)) := ⟨_, rfl⟩
    obtain ⟨z23, ez23⟩ : ∃ z : Int32, z = (if z15 < (16 : Int32) then z16 else (z16 + (-4 : Int32))) := ⟨_, rfl⟩
    have k24 : ∀ tg, Steps p.tables e below (s₁.setTop (mkF m 63 #[.val (.int z22), .val (.int z23)] [(.int (4 : Int32)), (.int z22)])) tg → Steps p.tables e below (s₁.setTop (entryFrame m #[(.int i)] 2)) tg := by
      intro tg kt
      refine k21 tg ?_
      show Steps p.tables e below (s₁.setTop (mkF m 61 #[.val (.int (if z15 < (16 : Int32) then z15 else ((z15.toUInt32 >>> ((4 : Int32) &&& 31).toUInt32).toInt32))), .val (.int (if z15 < (16 : Int32) then z16 else (z16 + (-4 : Int32))))] [])) _
      rw [← ez22]
      rw [← ez23]
      show Steps p.tables e below (s₁.setTop (mkF m 61 #[.val (.int z22), .val (.int z23)] [])) _
      refine XS.iloadN X0.here hx rfl (hb hby d5_61) rfl ?_
      show Steps p.tables e below (s₁.setTop (mkF m 62 #[.val (.int z22), .val (.int z23)] [(.int z22)])) _
      refine XS.iconst X0.here hx rfl (hb hby d5_62) ?_
      show Steps p.tables e below (s₁.setTop (mkF m 63 #[.val (.int z22), .val (.int z23)] [(.int (4 : Int32)), (.int z22)])) _
      exact kt
    have k28 : ∀ tg, Steps p.tables e below (s₁.setTop (mkF m 73 #[.val (.int (if z22 < (4 : Int32) then z22 else ((z22.toUInt32 >>> ((2 : Int32) &&& 31).toUInt32).toInt32))), .val (.int (if z22 < (4 : Int32) then z23 else (z23 + (-2 : Int32))))] [])) tg → Steps p.tables e below (s₁.setTop (entryFrame m #[(.int i)] 2)) tg := by
      intro tg kt
      refine k24 tg ?_
      show Steps p.tables e below (s₁.setTop (mkF m 63 #[.val (.int z22), .val (.int z23)] [(.int (4 : Int32)), (.int z22)])) _
      by_cases hc25 : z22 < (4 : Int32)
      · refine XS.icmpYes X0.here hx rfl (pc0 := 63) (pc' := 73) rfl (hb hby d5_63) rfl (tlt hc25).1 (by decide) (by decide) ?_
        show Steps p.tables e below (s₁.setTop (mkF m 73 #[.val (.int z22), .val (.int z23)] [])) _
        repeat rw [if_pos hc25] at kt
        exact kt
      · refine XS.icmpNo X0.here hx rfl (hb hby d5_63) rfl (flt hc25).1 ?_
        show Steps p.tables e below (s₁.setTop (mkF m 66 #[.val (.int z22), .val (.int z23)] [])) _
        refine XS.iinc X0.here hx rfl (hb hby d5_66) rfl (l' := #[.val (.int z22), .val (.int (z23 + (-2 : Int32)))]) rfl ?_
        show Steps p.tables e below (s₁.setTop (mkF m 69 #[.val (.int z22), .val (.int (z23 + (-2 : Int32)))] [])) _
        refine XS.iloadN X0.here hx rfl (hb hby d5_69) rfl ?_
        show Steps p.tables e below (s₁.setTop (mkF m 70 #[.val (.int z22), .val (.int (z23 + (-2 : Int32)))] [(.int z22)])) _
        refine XS.iconst X0.here hx rfl (hb hby d5_70) ?_
        show Steps p.tables e below (s₁.setTop (mkF m 71 #[.val (.int z22), .val (.int (z23 + (-2 : Int32)))] [(.int (2 : Int32)), (.int z22)])) _
        refine XS.iushr X0.here hx rfl (hb hby d5_71) rfl ?_
        show Steps p.tables e below (s₁.setTop (mkF m 72 #[.val (.int z22), .val (.int (z23 + (-2 : Int32)))] [(.int ((z22.toUInt32 >>> ((2 : Int32) &&& 31).toUInt32).toInt32))])) _
        refine XS.istoreN X0.here hx rfl (hb hby d5_72) rfl (l' := #[.val (.int ((z22.toUInt32 >>> ((2 : Int32) &&& 31).toUInt32).toInt32)), .val (.int (z23 + (-2 : Int32)))]) rfl ?_
        show Steps p.tables e below (s₁.setTop (mkF m 73 #[.val (.int ((z22.toUInt32 >>> ((2 : Int32) &&& 31).toUInt32).toInt32)), .val (.int (z23 + (-2 : Int32)))] [])) _
        repeat rw [if_neg hc25] at kt
        exact kt
    obtain ⟨z29, ez29⟩ : ∃ z : Int32, z = (if z22 < (4 : Int32) then z22 else ((z22.toUInt32 >>> ((2 : Int32) &&& 31).toUInt32).toInt32)) := ⟨_, rfl⟩
    obtain ⟨z30, ez30⟩ : ∃ z : Int32, z = (if z22 < (4 : Int32) then z23 else (z23 + (-2 : Int32))) := ⟨_, rfl⟩
    have k31 : ∀ tg, Steps p.tables e below (s₁.setTop (mkF m 78 #[.val (.int z29), .val (.int z30)] [(.int (z30 - ((z29.toUInt32 >>> ((1 : Int32) &&& 31).toUInt32).toInt32)))])) tg → Steps p.tables e below (s₁.setTop (entryFrame m #[(.int i)] 2)) tg := by
      intro tg kt
      refine k28 tg ?_
      show Steps p.tables e below (s₁.setTop (mkF m 73 #[.val (.int (if z22 < (4 : Int32) then z22 else ((z22.toUInt32 >>> ((2 : Int32) &&& 31).toUInt32).toInt32))), .val (.int (if z22 < (4 : Int32) then z23 else (z23 + (-2 : Int32))))] [])) _
      rw [← ez29]
      rw [← ez30]
      show Steps p.tables e below (s₁.setTop (mkF m 73 #[.val (.int z29), .val (.int z30)] [])) _
      refine XS.iloadN X0.here hx rfl (hb hby d5_73) rfl ?_
      show Steps p.tables e below (s₁.setTop (mkF m 74 #[.val (.int z29), .val (.int z30)] [(.int z30)])) _
      refine XS.iloadN X0.here hx rfl (hb hby d5_74) rfl ?_
      show Steps p.tables e below (s₁.setTop (mkF m 75 #[.val (.int z29), .val (.int z30)] [(.int z29), (.int z30)])) _
      refine XS.iconst X0.here hx rfl (hb hby d5_75) ?_
      show Steps p.tables e below (s₁.setTop (mkF m 76 #[.val (.int z29), .val (.int z30)] [(.int (1 : Int32)), (.int z29), (.int z30)])) _
      refine XS.iushr X0.here hx rfl (hb hby d5_76) rfl ?_
      show Steps p.tables e below (s₁.setTop (mkF m 77 #[.val (.int z29), .val (.int z30)] [(.int ((z29.toUInt32 >>> ((1 : Int32) &&& 31).toUInt32).toInt32)), (.int z30)])) _
      refine XS.isub X0.here hx rfl (hb hby d5_77) rfl ?_
      show Steps p.tables e below (s₁.setTop (mkF m 78 #[.val (.int z29), .val (.int z30)] [(.int (z30 - ((z29.toUInt32 >>> ((1 : Int32) &&& 31).toUInt32).toInt32)))])) _
      exact kt
    obtain ⟨fs, hr, hrun, hended, hW, hsame⟩ := X0.leave (v := some (.int (z30 - ((z29.toUInt32 >>> ((1 : Int32) &&& 31).toUInt32).toInt32)))) (fun h => by rw [Bd.returns] at h; cases h)
    refine ⟨_, _, k31 _ ?_, hrun, hended, _, _, rfl, ?_, ⟨_, rfl⟩, hW, hsame.mono (by decide) (by decide)⟩
    · exact retI X0 hx Bd.returns (hb hby d5_78) hr
    · show QV _ h0 n0 _ s₁.heap _
      exact ⟨congrArg (fun z => some (Value.int z)) (own_nlzv i z8 z9 z15 z16 z22 z23 z29 z30 I hI hc2 ez8 ez9 ez15 ez16 ez22 ez23 ez29 ez30), N0, e0⟩
  · have k32 : ∀ tg, Steps p.tables e below (s₁.setTop (mkF m 5 #[.val (.int i), .unset] [(.int i)])) tg → Steps p.tables e below (s₁.setTop (entryFrame m #[(.int i)] 2)) tg := by
      intro tg kt
      refine k1 tg ?_
      refine XS.ifNo X0.here hx rfl (hb hby d5_1) rfl ((if0 _ _).trans (flt hc2).2.2.1) ?_
      show Steps p.tables e below (s₁.setTop (mkF m 4 #[.val (.int i), .unset] [])) _
      refine XS.iloadN X0.here hx rfl (hb hby d5_4) rfl ?_
      show Steps p.tables e below (s₁.setTop (mkF m 5 #[.val (.int i), .unset] [(.int i)])) _
      exact kt
    have k36 : ∀ tg, Steps p.tables e below (s₁.setTop (mkF m 14 #[.val (.int i), .unset] [(.int (if i = (0 : Int32) then (32 : Int32) else (0 : Int32)))])) tg → Steps p.tables e below (s₁.setTop (entryFrame m #[(.int i)] 2)) tg := by
      intro tg kt
      refine k32 tg ?_
      show Steps p.tables e below (s₁.setTop (mkF m 5 #[.val (.int i), .unset] [(.int i)])) _
      by_cases hc33 : i = (0 : Int32)
      · refine XS.ifNo X0.here hx rfl (hb hby d5_5) rfl ((if0 _ _).trans (teq hc33).2) ?_
        show Steps p.tables e below (s₁.setTop (mkF m 8 #[.val (.int i), .unset] [])) _
        refine XS.bipush X0.here hx rfl (hb hby d5_8) ?_
        show Steps p.tables e below (s₁.setTop (mkF m 10 #[.val (.int i), .unset] [(.int (32 : Int32))])) _
        refine XS.goto X0.here hx rfl (pc0 := 10) (pc' := 14) rfl (hb hby d5_10) (by decide) (by decide) ?_
        show Steps p.tables e below (s₁.setTop (mkF m 14 #[.val (.int i), .unset] [(.int (32 : Int32))])) _
        repeat rw [if_pos hc33] at kt
        exact kt
      · refine XS.ifYes X0.here hx rfl (pc0 := 5) (pc' := 13) rfl (hb hby d5_5) rfl ((if0 _ _).trans (feq hc33).2) (by decide) (by decide) ?_
        show Steps p.tables e below (s₁.setTop (mkF m 13 #[.val (.int i), .unset] [])) _
        refine XS.iconst X0.here hx rfl (hb hby d5_13) ?_
        show Steps p.tables e below (s₁.setTop (mkF m 14 #[.val (.int i), .unset] [(.int (0 : Int32))])) _
        repeat rw [if_neg hc33] at kt
        exact kt
    obtain ⟨z37, ez37⟩ : ∃ z : Int32, z = (if i = (0 : Int32) then (32 : Int32) else (0 : Int32)) := ⟨_, rfl⟩
    have k38 : ∀ tg, Steps p.tables e below (s₁.setTop (mkF m 14 #[.val (.int i), .unset] [(.int z37)])) tg → Steps p.tables e below (s₁.setTop (entryFrame m #[(.int i)] 2)) tg := by
      intro tg kt
      refine k36 tg ?_
      show Steps p.tables e below (s₁.setTop (mkF m 14 #[.val (.int i), .unset] [(.int (if i = (0 : Int32) then (32 : Int32) else (0 : Int32)))])) _
      rw [← ez37]
      show Steps p.tables e below (s₁.setTop (mkF m 14 #[.val (.int i), .unset] [(.int z37)])) _
      exact kt
    obtain ⟨fs, hr, hrun, hended, hW, hsame⟩ := X0.leave (v := some (.int z37)) (fun h => by rw [Bd.returns] at h; cases h)
    refine ⟨_, _, k38 _ ?_, hrun, hended, _, _, rfl, ?_, ⟨_, rfl⟩, hW, hsame.mono (by decide) (by decide)⟩
    · exact retI X0 hx Bd.returns (hb hby d5_14) hr
    · show QV _ h0 n0 _ s₁.heap _
      exact ⟨congrArg (fun z => some (Value.int z)) (own_nlz0 i z37 I hI hc2 ez37), N0, e0⟩
theorem d4_0 : decode jdk_35_method_48_code 0 = .ok (.lload_n 0, 1) := by decide +kernel
theorem d4_1 : decode jdk_35_method_48_code 1 = .ok (.bipush 32, 2) := by decide +kernel
theorem d4_3 : decode jdk_35_method_48_code 3 = .ok (.lushr, 1) := by decide +kernel
theorem d4_4 : decode jdk_35_method_48_code 4 = .ok (.l2i, 1) := by decide +kernel
theorem d4_5 : decode jdk_35_method_48_code 5 = .ok (.istore_n 2, 1) := by decide +kernel
theorem d4_6 : decode jdk_35_method_48_code 6 = .ok (.iload_n 2, 1) := by decide +kernel
theorem d4_7 : decode jdk_35_method_48_code 7 = .ok (.ifCond .ne 14, 3) := by decide +kernel
theorem d4_10 : decode jdk_35_method_48_code 10 = .ok (.bipush 32, 2) := by decide +kernel
theorem d4_12 : decode jdk_35_method_48_code 12 = .ok (.lload_n 0, 1) := by decide +kernel
theorem d4_13 : decode jdk_35_method_48_code 13 = .ok (.l2i, 1) := by decide +kernel
theorem d4_14 : decode jdk_35_method_48_code 14 = .ok (.invokestatic 308, 3) := by decide +kernel
theorem d4_17 : decode jdk_35_method_48_code 17 = .ok (.iadd, 1) := by decide +kernel
theorem d4_18 : decode jdk_35_method_48_code 18 = .ok (.goto 7, 3) := by decide +kernel
theorem d4_25 : decode jdk_35_method_48_code 25 = .ok (.ireturn, 1) := by decide +kernel
theorem pn_4 : plainName "java/lang/Long" = true := by first | (simp [plainName, overriddenIn]; done) | decide +kernel
theorem pd_0 : parseMethodDescriptor "(I)I" = some ⟨[.int], some .int⟩ := by decide +kernel
theorem ef_rmNlzL (m : MethodId) (q : Int64) : entryFrame m #[(.long q)] 3 = mkF m 0 #[.val (.long q), .second, .unset] [] := by first | (simp [entryFrame, mkF, argsToLocals, Value.category]; done) | rfl
set_option maxRecDepth 65536 in
set_option maxHeartbeats 40000000 in
theorem rmNlzL (l : Launch) (Z : State) (a0 : Array Value) (hw : ∀ d ∈ tables_1, d.before a0 Z = true) (ws : List Jvm.Cond) (q : Int64) (I : Nat) (h0 : Heap) (n0 : Nat) (hq : q.toInt = I) (hI : I < 2 ^ 31) :
    MetFree l (⟨"java/lang/Long", "numberOfLeadingZeros", "(J)I"⟩ : MethodName) (head1 (Jvm.Cond.code (⟨"java/lang/Long", "numberOfLeadingZeros", "(J)I"⟩ : MethodName) jdk_35_method_48_code 3 (some .int) :: ws) ({ frames := 1, cells := 0, slots := 0, locals := 14 } : Room)) (fun a_ U_ => a_ = #[(.long q)] ∧ Z.Warmed39 U_.vm ∧ U_.heap = h0) (fun _ _ _ _ _ => True) (fun _ U_ o_ U'_ => ∃ v_ L_, o_ = .returned v_ ∧ QV (.int ((32 : Int32) + (Int32.ofNat (32 - bl I)))) h0 n0 v_ U'_.heap L_ ∧ FrameEnd U_ o_ U'_ L_ ({ frames := 1, cells := 0, slots := 0, locals := 14 } : Room).cells ({ frames := 1, cells := 0, slots := 0, locals := 14 } : Room).slots) := by
  refine MetFree.of_bodySF (plainFor_of_name pn_4) hisR ?_
  intro p e s m args below meth c s₁ Bd hml0 hP hK
  obtain ⟨rfl, hZ, hh⟩ := hP
  have hx := Bd.exec
  have hby := Bd.bytes
  have hml : c.maxLocals = 3 := hml0
  have hown : s.vm.findClass "java/lang/Long" = some m.cls := findClass_of_methodNamed Bd.named
  have hnm := (name_of_methodNamed Bd.named Bd.method).1
  have X0 : Stand p l e ({ frames := 1, cells := 0, slots := 0, locals := 14 } : Room) s m #[(.long q)] below meth c s₁ [] 0 0 := Stand.of_body Bd
  have e0 : s₁.heap = h0 := by rw [← hh, Bd.state]; rfl
  have N0 := Fr.nil n0
  have k0 : ∀ tg, Steps p.tables e below (s₁.setTop (mkF m 0 #[.val (.long q), .second, .unset] [])) tg → Steps p.tables e below (s₁.setTop (entryFrame m #[(.long q)] 3)) tg := fun tg kq_ => castTop (ef_rmNlzL m q) kq_
  have hd1 : (((q.toUInt64 >>> ((32 : Int32) &&& 0x3f).toInt64.toUInt64).toInt64).toInt32) = (0 : Int32) := own_hi0 q I hq hI
  obtain ⟨_, _, ⟨T2, L2, k2, n2⟩, -, X2, ⟨Lc2, hQ2, l2, y2, z2⟩, st2⟩ := Jvm.LawKit.callS X0 hx (y := (⟨"java/lang/Integer", "numberOfLeadingZeros", "(I)I"⟩ : MethodName)) hown (mvT hZ (hw _ (List.mem_of_getElem? (i := 24) rfl))) (mvT hZ (hw _ (List.mem_of_getElem? (i := 25) rfl))) (mvT hZ (hw _ (List.mem_of_getElem? (i := 26) rfl))) (mvT hZ (hw _ (List.mem_of_getElem? (i := 27) rfl))) (by decide) (backOf (W := 1) (rmNlz l Z a0 hw [] (q.toInt32) I h0 n0 (own_lo q I hq hI)) hZ (hw _ (List.mem_of_getElem? (i := 27) rfl)) (hw _ (List.mem_of_getElem? (i := 26) rfl)) (by decide) (by decide)) (g := (mkF m 14 #[.val (.long q), .second, .val (.int (((q.toUInt64 >>> ((32 : Int32) &&& 0x3f).toInt64.toUInt64).toInt64).toInt32))] [(.int (q.toInt32)), (.int (32 : Int32))])) rfl (by rw [hml]; rfl) (argsL := [(.int (q.toInt32))]) (rest := [(.int (32 : Int32))]) (lenOf pd_0 rfl) rfl (by show 2 * 0 + _ ≤ _; exact Nat.le_of_eq rfl) (hb hby d4_14) (fun _ _ => ⟨rfl, e0, (by decide : 0 + 0 ≤ _), (by decide : 0 + 0 ≤ _)⟩)
  dsimp only [Pt.U, Pt.locs, Pt.cells, Pt.slots] at X2 l2 y2 z2 st2 hQ2
  subst l2 y2 z2
  obtain ⟨rfl, N2q, e2⟩ := hQ2
  have N2 := Fr.app N0 N2q
  have k3 : ∀ tg, Steps p.tables e below (T2.setTop (mkF m 25 #[.val (.long q), .second, .val (.int (((q.toUInt64 >>> ((32 : Int32) &&& 0x3f).toInt64.toUInt64).toInt64).toInt32))] [(.int ((32 : Int32) + (Int32.ofNat (32 - bl I))))])) tg → Steps p.tables e below (s₁.setTop (entryFrame m #[(.long q)] 3)) tg := by
    intro tg kt
    refine k0 tg ?_
    show Steps p.tables e below (s₁.setTop (mkF m 0 #[.val (.long q), .second, .unset] [])) _
    refine XS.lloadN X0.here hx rfl (hb hby d4_0) rfl ?_
    show Steps p.tables e below (s₁.setTop (mkF m 1 #[.val (.long q), .second, .unset] [(.long q)])) _
    refine XS.bipush X0.here hx rfl (hb hby d4_1) ?_
    show Steps p.tables e below (s₁.setTop (mkF m 3 #[.val (.long q), .second, .unset] [(.int (32 : Int32)), (.long q)])) _
    refine XS.lushr X0.here hx rfl (hb hby d4_3) rfl ?_
    show Steps p.tables e below (s₁.setTop (mkF m 4 #[.val (.long q), .second, .unset] [(.long ((q.toUInt64 >>> ((32 : Int32) &&& 0x3f).toInt64.toUInt64).toInt64))])) _
    refine XS.l2i X0.here hx rfl (hb hby d4_4) rfl ?_
    show Steps p.tables e below (s₁.setTop (mkF m 5 #[.val (.long q), .second, .unset] [(.int (((q.toUInt64 >>> ((32 : Int32) &&& 0x3f).toInt64.toUInt64).toInt64).toInt32))])) _
    refine XS.istoreN X0.here hx rfl (hb hby d4_5) rfl (l' := #[.val (.long q), .second, .val (.int (((q.toUInt64 >>> ((32 : Int32) &&& 0x3f).toInt64.toUInt64).toInt64).toInt32))]) rfl ?_
    show Steps p.tables e below (s₁.setTop (mkF m 6 #[.val (.long q), .second, .val (.int (((q.toUInt64 >>> ((32 : Int32) &&& 0x3f).toInt64.toUInt64).toInt64).toInt32))] [])) _
    refine XS.iloadN X0.here hx rfl (hb hby d4_6) rfl ?_
    show Steps p.tables e below (s₁.setTop (mkF m 7 #[.val (.long q), .second, .val (.int (((q.toUInt64 >>> ((32 : Int32) &&& 0x3f).toInt64.toUInt64).toInt64).toInt32))] [(.int (((q.toUInt64 >>> ((32 : Int32) &&& 0x3f).toInt64.toUInt64).toInt64).toInt32))])) _
    refine XS.ifNo X0.here hx rfl (hb hby d4_7) rfl ((if0 _ _).trans (teq hd1).2) ?_
    show Steps p.tables e below (s₁.setTop (mkF m 10 #[.val (.long q), .second, .val (.int (((q.toUInt64 >>> ((32 : Int32) &&& 0x3f).toInt64.toUInt64).toInt64).toInt32))] [])) _
    refine XS.bipush X0.here hx rfl (hb hby d4_10) ?_
    show Steps p.tables e below (s₁.setTop (mkF m 12 #[.val (.long q), .second, .val (.int (((q.toUInt64 >>> ((32 : Int32) &&& 0x3f).toInt64.toUInt64).toInt64).toInt32))] [(.int (32 : Int32))])) _
    refine XS.lloadN X0.here hx rfl (hb hby d4_12) rfl ?_
    show Steps p.tables e below (s₁.setTop (mkF m 13 #[.val (.long q), .second, .val (.int (((q.toUInt64 >>> ((32 : Int32) &&& 0x3f).toInt64.toUInt64).toInt64).toInt32))] [(.long q), (.int (32 : Int32))])) _
    refine XS.l2i X0.here hx rfl (hb hby d4_13) rfl ?_
    show Steps p.tables e below (s₁.setTop (mkF m 14 #[.val (.long q), .second, .val (.int (((q.toUInt64 >>> ((32 : Int32) &&& 0x3f).toInt64.toUInt64).toInt64).toInt32))] [(.int (q.toInt32)), (.int (32 : Int32))])) _
    refine st2 _ ?_
    show Steps p.tables e below (T2.setTop (mkF m 17 #[.val (.long q), .second, .val (.int (((q.toUInt64 >>> ((32 : Int32) &&& 0x3f).toInt64.toUInt64).toInt64).toInt32))] [(.int (Int32.ofNat (32 - bl I))), (.int (32 : Int32))])) _
    refine XS.iadd X2.here hx rfl (hb hby d4_17) rfl ?_
    show Steps p.tables e below (T2.setTop (mkF m 18 #[.val (.long q), .second, .val (.int (((q.toUInt64 >>> ((32 : Int32) &&& 0x3f).toInt64.toUInt64).toInt64).toInt32))] [(.int ((32 : Int32) + (Int32.ofNat (32 - bl I))))])) _
    refine XS.goto X2.here hx rfl (pc0 := 18) (pc' := 25) rfl (hb hby d4_18) (by decide) (by decide) ?_
    show Steps p.tables e below (T2.setTop (mkF m 25 #[.val (.long q), .second, .val (.int (((q.toUInt64 >>> ((32 : Int32) &&& 0x3f).toInt64.toUInt64).toInt64).toInt32))] [(.int ((32 : Int32) + (Int32.ofNat (32 - bl I))))])) _
    exact kt
  obtain ⟨fs, hr, hrun, hended, hW, hsame⟩ := X2.leave (v := some (.int ((32 : Int32) + (Int32.ofNat (32 - bl I))))) (fun h => by rw [Bd.returns] at h; cases h)
  refine ⟨_, _, k3 _ ?_, hrun, hended, _, _, rfl, ?_, ⟨_, rfl⟩, hW, hsame.mono (by decide) (by decide)⟩
  · exact retI X2 hx Bd.returns (hb hby d4_25) hr
  · show QV _ h0 n0 _ T2.heap _
    exact ⟨rfl, N2, e2⟩
theorem d6_0 : decode jdk_33_method_48_code 0 = .ok (.iload_n 0, 1) := by decide +kernel
theorem d6_1 : decode jdk_33_method_48_code 1 = .ok (.iconst (-1), 1) := by decide +kernel
theorem d6_2 : decode jdk_33_method_48_code 2 = .ok (.ixor, 1) := by decide +kernel
theorem d6_3 : decode jdk_33_method_48_code 3 = .ok (.iload_n 0, 1) := by decide +kernel
theorem d6_4 : decode jdk_33_method_48_code 4 = .ok (.iconst 1, 1) := by decide +kernel
theorem d6_5 : decode jdk_33_method_48_code 5 = .ok (.isub, 1) := by decide +kernel
theorem d6_6 : decode jdk_33_method_48_code 6 = .ok (.iand, 1) := by decide +kernel
theorem d6_7 : decode jdk_33_method_48_code 7 = .ok (.istore_n 0, 1) := by decide +kernel
theorem d6_8 : decode jdk_33_method_48_code 8 = .ok (.iload_n 0, 1) := by decide +kernel
theorem d6_9 : decode jdk_33_method_48_code 9 = .ok (.ifCond .gt 8, 3) := by decide +kernel
theorem d6_12 : decode jdk_33_method_48_code 12 = .ok (.iload_n 0, 1) := by decide +kernel
theorem d6_13 : decode jdk_33_method_48_code 13 = .ok (.bipush 32, 2) := by decide +kernel
theorem d6_15 : decode jdk_33_method_48_code 15 = .ok (.iand, 1) := by decide +kernel
theorem d6_16 : decode jdk_33_method_48_code 16 = .ok (.ireturn, 1) := by decide +kernel
theorem d6_17 : decode jdk_33_method_48_code 17 = .ok (.iconst 1, 1) := by decide +kernel
theorem d6_18 : decode jdk_33_method_48_code 18 = .ok (.istore_n 1, 1) := by decide +kernel
theorem d6_19 : decode jdk_33_method_48_code 19 = .ok (.iload_n 0, 1) := by decide +kernel
theorem d6_20 : decode jdk_33_method_48_code 20 = .ok (.ldc_w 264, 3) := by decide +kernel
theorem d6_23 : decode jdk_33_method_48_code 23 = .ok (.if_icmp .le 11, 3) := by decide +kernel
theorem d6_26 : decode jdk_33_method_48_code 26 = .ok (.iinc 1 16, 3) := by decide +kernel
theorem d6_29 : decode jdk_33_method_48_code 29 = .ok (.iload_n 0, 1) := by decide +kernel
theorem d6_30 : decode jdk_33_method_48_code 30 = .ok (.bipush 16, 2) := by decide +kernel
theorem d6_32 : decode jdk_33_method_48_code 32 = .ok (.iushr, 1) := by decide +kernel
theorem d6_33 : decode jdk_33_method_48_code 33 = .ok (.istore_n 0, 1) := by decide +kernel
theorem d6_34 : decode jdk_33_method_48_code 34 = .ok (.iload_n 0, 1) := by decide +kernel
theorem d6_35 : decode jdk_33_method_48_code 35 = .ok (.sipush 256, 3) := by decide +kernel
theorem d6_38 : decode jdk_33_method_48_code 38 = .ok (.if_icmp .le 11, 3) := by decide +kernel
theorem d6_41 : decode jdk_33_method_48_code 41 = .ok (.iinc 1 8, 3) := by decide +kernel
theorem d6_44 : decode jdk_33_method_48_code 44 = .ok (.iload_n 0, 1) := by decide +kernel
theorem d6_45 : decode jdk_33_method_48_code 45 = .ok (.bipush 8, 2) := by decide +kernel
theorem d6_47 : decode jdk_33_method_48_code 47 = .ok (.iushr, 1) := by decide +kernel
theorem d6_48 : decode jdk_33_method_48_code 48 = .ok (.istore_n 0, 1) := by decide +kernel
theorem d6_49 : decode jdk_33_method_48_code 49 = .ok (.iload_n 0, 1) := by decide +kernel
theorem d6_50 : decode jdk_33_method_48_code 50 = .ok (.bipush 16, 2) := by decide +kernel
theorem d6_52 : decode jdk_33_method_48_code 52 = .ok (.if_icmp .le 10, 3) := by decide +kernel
theorem d6_55 : decode jdk_33_method_48_code 55 = .ok (.iinc 1 4, 3) := by decide +kernel
theorem d6_58 : decode jdk_33_method_48_code 58 = .ok (.iload_n 0, 1) := by decide +kernel
theorem d6_59 : decode jdk_33_method_48_code 59 = .ok (.iconst 4, 1) := by decide +kernel
theorem d6_60 : decode jdk_33_method_48_code 60 = .ok (.iushr, 1) := by decide +kernel
theorem d6_61 : decode jdk_33_method_48_code 61 = .ok (.istore_n 0, 1) := by decide +kernel
theorem d6_62 : decode jdk_33_method_48_code 62 = .ok (.iload_n 0, 1) := by decide +kernel
theorem d6_63 : decode jdk_33_method_48_code 63 = .ok (.iconst 4, 1) := by decide +kernel
theorem d6_64 : decode jdk_33_method_48_code 64 = .ok (.if_icmp .le 10, 3) := by decide +kernel
theorem d6_67 : decode jdk_33_method_48_code 67 = .ok (.iinc 1 2, 3) := by decide +kernel
theorem d6_70 : decode jdk_33_method_48_code 70 = .ok (.iload_n 0, 1) := by decide +kernel
theorem d6_71 : decode jdk_33_method_48_code 71 = .ok (.iconst 2, 1) := by decide +kernel
theorem d6_72 : decode jdk_33_method_48_code 72 = .ok (.iushr, 1) := by decide +kernel
theorem d6_73 : decode jdk_33_method_48_code 73 = .ok (.istore_n 0, 1) := by decide +kernel
theorem d6_74 : decode jdk_33_method_48_code 74 = .ok (.iload_n 1, 1) := by decide +kernel
theorem d6_75 : decode jdk_33_method_48_code 75 = .ok (.iload_n 0, 1) := by decide +kernel
theorem d6_76 : decode jdk_33_method_48_code 76 = .ok (.iconst 1, 1) := by decide +kernel
theorem d6_77 : decode jdk_33_method_48_code 77 = .ok (.iushr, 1) := by decide +kernel
theorem d6_78 : decode jdk_33_method_48_code 78 = .ok (.iadd, 1) := by decide +kernel
theorem d6_79 : decode jdk_33_method_48_code 79 = .ok (.ireturn, 1) := by decide +kernel
theorem pn_6 : plainName "java/lang/Integer" = true := by first | (simp [plainName, overriddenIn]; done) | decide +kernel
theorem ef_rmNtz10 (m : MethodId)  : entryFrame m #[(.int (1024 : Int32))] 2 = mkF m 0 #[.val (.int (1024 : Int32)), .unset] [] := by first | (simp [entryFrame, mkF, argsToLocals, Value.category]; done) | rfl
set_option maxRecDepth 65536 in
set_option maxHeartbeats 40000000 in
theorem rmNtz10 (l : Launch) (Z : State) (a0 : Array Value) (hw : ∀ d ∈ tables_1, d.before a0 Z = true) (ws : List Jvm.Cond)   (h0 : Heap) (n0 : Nat)  :
    MetFree l (⟨"java/lang/Integer", "numberOfTrailingZeros", "(I)I"⟩ : MethodName) (head1 (Jvm.Cond.code (⟨"java/lang/Integer", "numberOfTrailingZeros", "(I)I"⟩ : MethodName) jdk_33_method_48_code 2 (some .int) :: ws) ({ frames := 0, cells := 0, slots := 0, locals := 0 } : Room)) (fun a_ U_ => a_ = #[(.int (1024 : Int32))] ∧ Z.Warmed39 U_.vm ∧ U_.heap = h0) (fun _ _ _ _ _ => True) (fun _ U_ o_ U'_ => ∃ v_ L_, o_ = .returned v_ ∧ QV (.int (10 : Int32)) h0 n0 v_ U'_.heap L_ ∧ FrameEnd U_ o_ U'_ L_ ({ frames := 0, cells := 0, slots := 0, locals := 0 } : Room).cells ({ frames := 0, cells := 0, slots := 0, locals := 0 } : Room).slots) := by
  refine MetFree.of_bodySF (plainFor_of_name pn_6) hisR ?_
  intro p e s m args below meth c s₁ Bd hml0 hP hK
  obtain ⟨rfl, hZ, hh⟩ := hP
  have hx := Bd.exec
  have hby := Bd.bytes
  have hml : c.maxLocals = 2 := hml0
  have hown : s.vm.findClass "java/lang/Integer" = some m.cls := findClass_of_methodNamed Bd.named
  have hnm := (name_of_methodNamed Bd.named Bd.method).1
  have X0 : Stand p l e ({ frames := 0, cells := 0, slots := 0, locals := 0 } : Room) s m #[(.int (1024 : Int32))] below meth c s₁ [] 0 0 := Stand.of_body Bd
  have e0 : s₁.heap = h0 := by rw [← hh, Bd.state]; rfl
  have N0 := Fr.nil n0
  have k0 : ∀ tg, Steps p.tables e below (s₁.setTop (mkF m 0 #[.val (.int (1024 : Int32)), .unset] [])) tg → Steps p.tables e below (s₁.setTop (entryFrame m #[(.int (1024 : Int32))] 2)) tg := fun tg kq_ => castTop (ef_rmNtz10 m ) kq_
  obtain ⟨z1, ez1⟩ : ∃ z : Int32, z = (((1024 : Int32) ^^^ (-1 : Int32)) &&& ((1024 : Int32) - (1 : Int32))) := ⟨_, rfl⟩
  have k2 : ∀ tg, Steps p.tables e below (s₁.setTop (mkF m 9 #[.val (.int z1), .unset] [(.int z1)])) tg → Steps p.tables e below (s₁.setTop (entryFrame m #[(.int (1024 : Int32))] 2)) tg := by
    intro tg kt
    refine k0 tg ?_
    show Steps p.tables e below (s₁.setTop (mkF m 0 #[.val (.int (1024 : Int32)), .unset] [])) _
    refine XS.iloadN X0.here hx rfl (hb hby d6_0) rfl ?_
    show Steps p.tables e below (s₁.setTop (mkF m 1 #[.val (.int (1024 : Int32)), .unset] [(.int (1024 : Int32))])) _
    refine XS.iconst X0.here hx rfl (hb hby d6_1) ?_
    show Steps p.tables e below (s₁.setTop (mkF m 2 #[.val (.int (1024 : Int32)), .unset] [(.int (-1 : Int32)), (.int (1024 : Int32))])) _
    refine XS.ixor X0.here hx rfl (hb hby d6_2) rfl ?_
    show Steps p.tables e below (s₁.setTop (mkF m 3 #[.val (.int (1024 : Int32)), .unset] [(.int ((1024 : Int32) ^^^ (-1 : Int32)))])) _
    refine XS.iloadN X0.here hx rfl (hb hby d6_3) rfl ?_
    show Steps p.tables e below (s₁.setTop (mkF m 4 #[.val (.int (1024 : Int32)), .unset] [(.int (1024 : Int32)), (.int ((1024 : Int32) ^^^ (-1 : Int32)))])) _
    refine XS.iconst X0.here hx rfl (hb hby d6_4) ?_
    show Steps p.tables e below (s₁.setTop (mkF m 5 #[.val (.int (1024 : Int32)), .unset] [(.int (1 : Int32)), (.int (1024 : Int32)), (.int ((1024 : Int32) ^^^ (-1 : Int32)))])) _
    refine XS.isub X0.here hx rfl (hb hby d6_5) rfl ?_
    show Steps p.tables e below (s₁.setTop (mkF m 6 #[.val (.int (1024 : Int32)), .unset] [(.int ((1024 : Int32) - (1 : Int32))), (.int ((1024 : Int32) ^^^ (-1 : Int32)))])) _
    refine XS.iand X0.here hx rfl (hb hby d6_6) rfl ?_
    show Steps p.tables e below (s₁.setTop (mkF m 7 #[.val (.int (1024 : Int32)), .unset] [(.int (((1024 : Int32) ^^^ (-1 : Int32)) &&& ((1024 : Int32) - (1 : Int32))))])) _
    refine XS.istoreN X0.here hx rfl (hb hby d6_7) rfl (l' := #[.val (.int (((1024 : Int32) ^^^ (-1 : Int32)) &&& ((1024 : Int32) - (1 : Int32)))), .unset]) rfl ?_
    show Steps p.tables e below (s₁.setTop (mkF m 8 #[.val (.int (((1024 : Int32) ^^^ (-1 : Int32)) &&& ((1024 : Int32) - (1 : Int32)))), .unset] [])) _
    rw [← ez1]
    show Steps p.tables e below (s₁.setTop (mkF m 8 #[.val (.int z1), .unset] [])) _
    refine XS.iloadN X0.here hx rfl (hb hby d6_8) rfl ?_
    show Steps p.tables e below (s₁.setTop (mkF m 9 #[.val (.int z1), .unset] [(.int z1)])) _
    exact kt
  by_cases hc3 : (0 : Int32) < z1
  · have k4 : ∀ tg, Steps p.tables e below (s₁.setTop (mkF m 23 #[.val (.int z1), .val (.int (1 : Int32))] [(.int (65536 : Int32)), (.int z1)])) tg → Steps p.tables e below (s₁.setTop (entryFrame m #[(.int (1024 : Int32))] 2)) tg := by
      intro tg kt
      refine k2 tg ?_
      refine XS.ifYes X0.here hx rfl (pc0 := 9) (pc' := 17) rfl (hb hby d6_9) rfl ((if0 _ _).trans (tlt hc3).2.2.1) (by decide) (by decide) ?_
      show Steps p.tables e below (s₁.setTop (mkF m 17 #[.val (.int z1), .unset] [])) _
      refine XS.iconst X0.here hx rfl (hb hby d6_17) ?_
      show Steps p.tables e below (s₁.setTop (mkF m 18 #[.val (.int z1), .unset] [(.int (1 : Int32))])) _
      refine XS.istoreN X0.here hx rfl (hb hby d6_18) rfl (l' := #[.val (.int z1), .val (.int (1 : Int32))]) rfl ?_
      show Steps p.tables e below (s₁.setTop (mkF m 19 #[.val (.int z1), .val (.int (1 : Int32))] [])) _
      refine XS.iloadN X0.here hx rfl (hb hby d6_19) rfl ?_
      show Steps p.tables e below (s₁.setTop (mkF m 20 #[.val (.int z1), .val (.int (1 : Int32))] [(.int z1)])) _
      refine X0.ldcwInt hx hown (mvT hZ (hw _ (List.mem_of_getElem? (i := 28) rfl))) (g := (mkF m 20 #[.val (.int z1), .val (.int (1 : Int32))] [(.int z1)])) rfl (hb hby d6_20) _ ?_
      show Steps p.tables e below (s₁.setTop (mkF m 23 #[.val (.int z1), .val (.int (1 : Int32))] [(.int (65536 : Int32)), (.int z1)])) _
      exact kt
    have k8 : ∀ tg, Steps p.tables e below (s₁.setTop (mkF m 34 #[.val (.int (if (65536 : Int32) < z1 then ((z1.toUInt32 >>> ((16 : Int32) &&& 31).toUInt32).toInt32) else z1)), .val (.int (if (65536 : Int32) < z1 then ((1 : Int32) + (16 : Int32)) else (1 : Int32)))] [])) tg → Steps p.tables e below (s₁.setTop (entryFrame m #[(.int (1024 : Int32))] 2)) tg := by
      intro tg kt
      refine k4 tg ?_
      show Steps p.tables e below (s₁.setTop (mkF m 23 #[.val (.int z1), .val (.int (1 : Int32))] [(.int (65536 : Int32)), (.int z1)])) _
      by_cases hc5 : (65536 : Int32) < z1
      · refine XS.icmpNo X0.here hx rfl (hb hby d6_23) rfl (tlt hc5).2.2.2 ?_
        show Steps p.tables e below (s₁.setTop (mkF m 26 #[.val (.int z1), .val (.int (1 : Int32))] [])) _
        refine XS.iinc X0.here hx rfl (hb hby d6_26) rfl (l' := #[.val (.int z1), .val (.int ((1 : Int32) + (16 : Int32)))]) rfl ?_
        show Steps p.tables e below (s₁.setTop (mkF m 29 #[.val (.int z1), .val (.int ((1 : Int32) + (16 : Int32)))] [])) _
        refine XS.iloadN X0.here hx rfl (hb hby d6_29) rfl ?_
        show Steps p.tables e below (s₁.setTop (mkF m 30 #[.val (.int z1), .val (.int ((1 : Int32) + (16 : Int32)))] [(.int z1)])) _
        refine XS.bipush X0.here hx rfl (hb hby d6_30) ?_
        show Steps p.tables e below (s₁.setTop (mkF m 32 #[.val (.int z1), .val (.int ((1 : Int32) + (16 : Int32)))] [(.int (16 : Int32)), (.int z1)])) _
        refine XS.iushr X0.here hx rfl (hb hby d6_32) rfl ?_
        show Steps p.tables e below (s₁.setTop (mkF m 33 #[.val (.int z1), .val (.int ((1 : Int32) + (16 : Int32)))] [(.int ((z1.toUInt32 >>> ((16 : Int32) &&& 31).toUInt32).toInt32))])) _
        refine XS.istoreN X0.here hx rfl (hb hby d6_33) rfl (l' := #[.val (.int ((z1.toUInt32 >>> ((16 : Int32) &&& 31).toUInt32).toInt32)), .val (.int ((1 : Int32) + (16 : Int32)))]) rfl ?_
        show Steps p.tables e below (s₁.setTop (mkF m 34 #[.val (.int ((z1.toUInt32 >>> ((16 : Int32) &&& 31).toUInt32).toInt32)), .val (.int ((1 : Int32) + (16 : Int32)))] [])) _
        repeat rw [if_pos hc5] at kt
        exact kt
      · refine XS.icmpYes X0.here hx rfl (pc0 := 23) (pc' := 34) rfl (hb hby d6_23) rfl (flt hc5).2.2.2 (by decide) (by decide) ?_
        show Steps p.tables e below (s₁.setTop (mkF m 34 #[.val (.int z1), .val (.int (1 : Int32))] [])) _
        repeat rw [if_neg hc5] at kt
        exact kt
    obtain ⟨z9, ez9⟩ : ∃ z : Int32, z = (if (65536 : Int32) < z1 then ((z1.toUInt32 >>> ((16 : Int32) &&& 31).toUInt32).toInt32) else z1) := ⟨_, rfl⟩
    obtain ⟨z10, ez10⟩ : ∃ z : Int32, z = (if (65536 : Int32) < z1 then ((1 : Int32) + (16 : Int32)) else (1 : Int32)) := ⟨_, rfl⟩
    have k11 : ∀ tg, Steps p.tables e below (s₁.setTop (mkF m 38 #[.val (.int z9), .val (.int z10)] [(.int (256 : Int32)), (.int z9)])) tg → Steps p.tables e below (s₁.setTop (entryFrame m #[(.int (1024 : Int32))] 2)) tg := by
      intro tg kt
      refine k8 tg ?_
      show Steps p.tables e below (s₁.setTop (mkF m 34 #[.val (.int (if (65536 : Int32) < z1 then ((z1.toUInt32 >>> ((16 : Int32) &&& 31).toUInt32).toInt32) else z1)), .val (.int (if (65536 : Int32) < z1 then ((1 : Int32) + (16 : Int32)) else (1 : Int32)))] [])) _
      rw [← ez9]
      rw [← ez10]
      show Steps p.tables e below (s₁.setTop (mkF m 34 #[.val (.int z9), .val (.int z10)] [])) _
      refine XS.iloadN X0.here hx rfl (hb hby d6_34) rfl ?_
      show Steps p.tables e below (s₁.setTop (mkF m 35 #[.val (.int z9), .val (.int z10)] [(.int z9)])) _
      refine XS.sipush X0.here hx rfl (hb hby d6_35) ?_
      show Steps p.tables e below (s₁.setTop (mkF m 38 #[.val (.int z9), .val (.int z10)] [(.int (256 : Int32)), (.int z9)])) _
      exact kt
    have k15 : ∀ tg, Steps p.tables e below (s₁.setTop (mkF m 49 #[.val (.int (if (256 : Int32) < z9 then ((z9.toUInt32 >>> ((8 : Int32) &&& 31).toUInt32).toInt32) else z9)), .val (.int (if (256 : Int32) < z9 then (z10 + (8 : Int32)) else z10))] [])) tg → Steps p.tables e below (s₁.setTop (entryFrame m #[(.int (1024 : Int32))] 2)) tg := by
      intro tg kt
      refine k11 tg ?_
      show Steps p.tables e below (s₁.setTop (mkF m 38 #[.val (.int z9), .val (.int z10)] [(.int (256 : Int32)), (.int z9)])) _
      by_cases hc12 : (256 : Int32) < z9
      · refine XS.icmpNo X0.here hx rfl (hb hby d6_38) rfl (tlt hc12).2.2.2 ?_
        show Steps p.tables e below (s₁.setTop (mkF m 41 #[.val (.int z9), .val (.int z10)] [])) _
        refine XS.iinc X0.here hx rfl (hb hby d6_41) rfl (l' := #[.val (.int z9), .val (.int (z10 + (8 : Int32)))]) rfl ?_
        show Steps p.tables e below (s₁.setTop (mkF m 44 #[.val (.int z9), .val (.int (z10 + (8 : Int32)))] [])) _
        refine XS.iloadN X0.here hx rfl (hb hby d6_44) rfl ?_
        show Steps p.tables e below (s₁.setTop (mkF m 45 #[.val (.int z9), .val (.int (z10 + (8 : Int32)))] [(.int z9)])) _
        refine XS.bipush X0.here hx rfl (hb hby d6_45) ?_
        show Steps p.tables e below (s₁.setTop (mkF m 47 #[.val (.int z9), .val (.int (z10 + (8 : Int32)))] [(.int (8 : Int32)), (.int z9)])) _
        refine XS.iushr X0.here hx rfl (hb hby d6_47) rfl ?_
        show Steps p.tables e below (s₁.setTop (mkF m 48 #[.val (.int z9), .val (.int (z10 + (8 : Int32)))] [(.int ((z9.toUInt32 >>> ((8 : Int32) &&& 31).toUInt32).toInt32))])) _
        refine XS.istoreN X0.here hx rfl (hb hby d6_48) rfl (l' := #[.val (.int ((z9.toUInt32 >>> ((8 : Int32) &&& 31).toUInt32).toInt32)), .val (.int (z10 + (8 : Int32)))]) rfl ?_
        show Steps p.tables e below (s₁.setTop (mkF m 49 #[.val (.int ((z9.toUInt32 >>> ((8 : Int32) &&& 31).toUInt32).toInt32)), .val (.int (z10 + (8 : Int32)))] [])) _
        repeat rw [if_pos hc12] at kt
        exact kt
      · refine XS.icmpYes X0.here hx rfl (pc0 := 38) (pc' := 49) rfl (hb hby d6_38) rfl (flt hc12).2.2.2 (by decide) (by decide) ?_
        show Steps p.tables e below (s₁.setTop (mkF m 49 #[.val (.int z9), .val (.int z10)] [])) _
        repeat rw [if_neg hc12] at kt
        exact kt
    obtain ⟨z16, ez16⟩ : ∃ z : Int32, z = (if (256 : Int32) < z9 then ((z9.toUInt32 >>> ((8 : Int32) &&& 31).toUInt32).toInt32) else z9) := ⟨_, rfl⟩
    obtain ⟨z17, ez17⟩ : ∃ z : Int32, z = (if (256 : Int32) < z9 then (z10 + (8 : Int32)) else z10) := ⟨_, rfl⟩
    have k18 : ∀ tg, Steps p.tables e below (s₁.setTop (mkF m 52 #[.val (.int z16), .val (.int z17)] [(.int (16 : Int32)), (.int z16)])) tg → Steps p.tables e below (s₁.setTop (entryFrame m #[(.int (1024 : Int32))] 2)) tg := by
      intro tg kt
      refine k15 tg ?_
      show Steps p.tables e below (s₁.setTop (mkF m 49 #[.val (.int (if (256 : Int32) < z9 then ((z9.toUInt32 >>> ((8 : Int32) &&& 31).toUInt32).toInt32) else z9)), .val (.int (if (256 : Int32) < z9 then (z10 + (8 : Int32)) else z10))] [])) _
      rw [← ez16]
      rw [← ez17]
      show Steps p.tables e below (s₁.setTop (mkF m 49 #[.val (.int z16), .val (.int z17)] [])) _
      refine XS.iloadN X0.here hx rfl (hb hby d6_49) rfl ?_
      show Steps p.tables e below (s₁.setTop (mkF m 50 #[.val (.int z16), .val (.int z17)] [(.int z16)])) _
      refine XS.bipush X0.here hx rfl (hb hby d6_50) ?_
      show Steps p.tables e below (s₁.setTop (mkF m 52 #[.val (.int z16), .val (.int z17)] [(.int (16 : Int32)), (.int z16)])) _
      exact kt
    have k22 : ∀ tg, Steps p.tables e below (s₁.setTop (mkF m 62 #[.val (.int (if (16 : Int32) < z16 then ((z16.toUInt32 >>> ((4 : Int32) &&& 31).toUInt32).toInt32) else z16)), .val (.int (if (16 : Int32) < z16 then (z17 + (4 : Int32)) else z17))] [])) tg → Steps p.tables e below (s₁.setTop (entryFrame m #[(.int (1024 : Int32))] 2)) tg := by
      intro tg kt
      refine k18 tg ?_
      show Steps p.tables e below (s₁.setTop (mkF m 52 #[.val (.int z16), .val (.int z17)] [(.int (16 : Int32)), (.int z16)])) _
      by_cases hc19 : (16 : Int32) < z16
      · refine XS.icmpNo X0.here hx rfl (hb hby d6_52) rfl (tlt hc19).2.2.2 ?_
        show Steps p.tables e below (s₁.setTop (mkF m 55 #[.val (.int z16), .val (.int z17)] [])) _
        refine XS.iinc X0.here hx rfl (hb hby d6_55) rfl (l' := #[.val (.int z16), .val (.int (z17 + (4 : Int32)))]) rfl ?_
        show Steps p.tables e below (s₁.setTop (mkF m 58 #[.val (.int z16), .val (.int (z17 + (4 : Int32)))] [])) _
        refine XS.iloadN X0.here hx rfl (hb hby d6_58) rfl ?_
        show Steps p.tables e below (s₁.setTop (mkF m 59 #[.val (.int z16), .val (.int (z17 + (4 : Int32)))] [(.int z16)])) _
        refine XS.iconst X0.here hx rfl (hb hby d6_59) ?_
        show Steps p.tables e below (s₁.setTop (mkF m 60 #[.val (.int z16), .val (.int (z17 + (4 : Int32)))] [(.int (4 : Int32)), (.int z16)])) _
        refine XS.iushr X0.here hx rfl (hb hby d6_60) rfl ?_
        show Steps p.tables e below (s₁.setTop (mkF m 61 #[.val (.int z16), .val (.int (z17 + (4 : Int32)))] [(.int ((z16.toUInt32 >>> ((4 : Int32) &&& 31).toUInt32).toInt32))])) _
        refine XS.istoreN X0.here hx rfl (hb hby d6_61) rfl (l' := #[.val (.int ((z16.toUInt32 >>> ((4 : Int32) &&& 31).toUInt32).toInt32)), .val (.int (z17 + (4 : Int32)))]) rfl ?_
        show Steps p.tables e below (s₁.setTop (mkF m 62 #[.val (.int ((z16.toUInt32 >>> ((4 : Int32) &&& 31).toUInt32).toInt32)), .val (.int (z17 + (4 : Int32)))] [])) _
        repeat rw [if_pos hc19] at kt
        exact kt
      · refine XS.icmpYes X0.here hx rfl (pc0 := 52) (pc' := 62) rfl (hb hby d6_52) rfl (flt hc19).2.2.2 (by decide) (by decide) ?_
        show Steps p.tables e below (s₁.setTop (mkF m 62 #[.val (.int z16), .val (.int z17)] [])) _
        repeat rw [if_neg hc19] at kt
        exact kt
    obtain ⟨z23, ez23⟩ : ∃ z : Int32, z = (if (16 : Int32) < z16 then ((z16.toUInt32 >>> ((4 : Int32) &&& 31).toUInt32).toInt32) else z16) := ⟨_, rfl⟩
    obtain ⟨z24, ez24⟩ : ∃ z : Int32, z = (if (16 : Int32) < z16 then (z17 + (4 : Int32)) else z17) := ⟨_, rfl⟩
    have k25 : ∀ tg, Steps p.tables e below (s₁.setTop (mkF m 64 #[.val (.int z23), .val (.int z24)] [(.int (4 : Int32)), (.int z23)])) tg → Steps p.tables e below (s₁.setTop (entryFrame m #[(.int (1024 : Int32))] 2)) tg := by
      intro tg kt
      refine k22 tg ?_
      show Steps p.tables e below (s₁.setTop (mkF m 62 #[.val (.int (if (16 : Int32) < z16 then ((z16.toUInt32 >>> ((4 : Int32) &&& 31).toUInt32).toInt32) else z16)), .val (.int (if (16 : Int32) < z16 then (z17 + (4 : Int32)) else z17))] [])) _
      rw [← ez23]
      rw [← ez24]
      show Steps p.tables e below (s₁.setTop (mkF m 62 #[.val (.int z23), .val (.int z24)] [])) _
      refine XS.iloadN X0.here hx rfl (hb hby d6_62) rfl ?_
      show Steps p.tables e below (s₁.setTop (mkF m 63 #[.val (.int z23), .val (.int z24)] [(.int z23)])) _
      refine XS.iconst X0.here hx rfl (hb hby d6_63) ?_
      show Steps p.tables e below (s₁.setTop (mkF m 64 #[.val (.int z23), .val (.int z24)] [(.int (4 : Int32)), (.int z23)])) _
      exact kt
    have k29 : ∀ tg, Steps p.tables e below (s₁.setTop (mkF m 74 #[.val (.int (if (4 : Int32) < z23 then ((z23.toUInt32 >>> ((2 : Int32) &&& 31).toUInt32).toInt32) else z23)), .val (.int (if (4 : Int32) < z23 then (z24 + (2 : Int32)) else z24))] [])) tg → Steps p.tables e below (s₁.setTop (entryFrame m #[(.int (1024 : Int32))] 2)) tg := by
      intro tg kt
      refine k25 tg ?_
      show Steps p.tables e below (s₁.setTop (mkF m 64 #[.val (.int z23), .val (.int z24)] [(.int (4 : Int32)), (.int z23)])) _
      by_cases hc26 : (4 : Int32) < z23
      · refine XS.icmpNo X0.here hx rfl (hb hby d6_64) rfl (tlt hc26).2.2.2 ?_
        show Steps p.tables e below (s₁.setTop (mkF m 67 #[.val (.int z23), .val (.int z24)] [])) _
        refine XS.iinc X0.here hx rfl (hb hby d6_67) rfl (l' := #[.val (.int z23), .val (.int (z24 + (2 : Int32)))]) rfl ?_
        show Steps p.tables e below (s₁.setTop (mkF m 70 #[.val (.int z23), .val (.int (z24 + (2 : Int32)))] [])) _
        refine XS.iloadN X0.here hx rfl (hb hby d6_70) rfl ?_
        show Steps p.tables e below (s₁.setTop (mkF m 71 #[.val (.int z23), .val (.int (z24 + (2 : Int32)))] [(.int z23)])) _
        refine XS.iconst X0.here hx rfl (hb hby d6_71) ?_
        show Steps p.tables e below (s₁.setTop (mkF m 72 #[.val (.int z23), .val (.int (z24 + (2 : Int32)))] [(.int (2 : Int32)), (.int z23)])) _
        refine XS.iushr X0.here hx rfl (hb hby d6_72) rfl ?_
        show Steps p.tables e below (s₁.setTop (mkF m 73 #[.val (.int z23), .val (.int (z24 + (2 : Int32)))] [(.int ((z23.toUInt32 >>> ((2 : Int32) &&& 31).toUInt32).toInt32))])) _
        refine XS.istoreN X0.here hx rfl (hb hby d6_73) rfl (l' := #[.val (.int ((z23.toUInt32 >>> ((2 : Int32) &&& 31).toUInt32).toInt32)), .val (.int (z24 + (2 : Int32)))]) rfl ?_
        show Steps p.tables e below (s₁.setTop (mkF m 74 #[.val (.int ((z23.toUInt32 >>> ((2 : Int32) &&& 31).toUInt32).toInt32)), .val (.int (z24 + (2 : Int32)))] [])) _
        repeat rw [if_pos hc26] at kt
        exact kt
      · refine XS.icmpYes X0.here hx rfl (pc0 := 64) (pc' := 74) rfl (hb hby d6_64) rfl (flt hc26).2.2.2 (by decide) (by decide) ?_
        show Steps p.tables e below (s₁.setTop (mkF m 74 #[.val (.int z23), .val (.int z24)] [])) _
        repeat rw [if_neg hc26] at kt
        exact kt
    obtain ⟨z30, ez30⟩ : ∃ z : Int32, z = (if (4 : Int32) < z23 then ((z23.toUInt32 >>> ((2 : Int32) &&& 31).toUInt32).toInt32) else z23) := ⟨_, rfl⟩
    obtain ⟨z31, ez31⟩ : ∃ z : Int32, z = (if (4 : Int32) < z23 then (z24 + (2 : Int32)) else z24) := ⟨_, rfl⟩
    have k32 : ∀ tg, Steps p.tables e below (s₁.setTop (mkF m 79 #[.val (.int z30), .val (.int z31)] [(.int (z31 + ((z30.toUInt32 >>> ((1 : Int32) &&& 31).toUInt32).toInt32)))])) tg → Steps p.tables e below (s₁.setTop (entryFrame m #[(.int (1024 : Int32))] 2)) tg := by
      intro tg kt
      refine k29 tg ?_
      show Steps p.tables e below (s₁.setTop (mkF m 74 #[.val (.int (if (4 : Int32) < z23 then ((z23.toUInt32 >>> ((2 : Int32) &&& 31).toUInt32).toInt32) else z23)), .val (.int (if (4 : Int32) < z23 then (z24 + (2 : Int32)) else z24))] [])) _
      rw [← ez30]
      rw [← ez31]
      show Steps p.tables e below (s₁.setTop (mkF m 74 #[.val (.int z30), .val (.int z31)] [])) _
      refine XS.iloadN X0.here hx rfl (hb hby d6_74) rfl ?_
      show Steps p.tables e below (s₁.setTop (mkF m 75 #[.val (.int z30), .val (.int z31)] [(.int z31)])) _
      refine XS.iloadN X0.here hx rfl (hb hby d6_75) rfl ?_
      show Steps p.tables e below (s₁.setTop (mkF m 76 #[.val (.int z30), .val (.int z31)] [(.int z30), (.int z31)])) _
      refine XS.iconst X0.here hx rfl (hb hby d6_76) ?_
      show Steps p.tables e below (s₁.setTop (mkF m 77 #[.val (.int z30), .val (.int z31)] [(.int (1 : Int32)), (.int z30), (.int z31)])) _
      refine XS.iushr X0.here hx rfl (hb hby d6_77) rfl ?_
      show Steps p.tables e below (s₁.setTop (mkF m 78 #[.val (.int z30), .val (.int z31)] [(.int ((z30.toUInt32 >>> ((1 : Int32) &&& 31).toUInt32).toInt32)), (.int z31)])) _
      refine XS.iadd X0.here hx rfl (hb hby d6_78) rfl ?_
      show Steps p.tables e below (s₁.setTop (mkF m 79 #[.val (.int z30), .val (.int z31)] [(.int (z31 + ((z30.toUInt32 >>> ((1 : Int32) &&& 31).toUInt32).toInt32)))])) _
      exact kt
    obtain ⟨fs, hr, hrun, hended, hW, hsame⟩ := X0.leave (v := some (.int (z31 + ((z30.toUInt32 >>> ((1 : Int32) &&& 31).toUInt32).toInt32)))) (fun h => by rw [Bd.returns] at h; cases h)
    refine ⟨_, _, k32 _ ?_, hrun, hended, _, _, rfl, ?_, ⟨_, rfl⟩, hW, hsame.mono (by decide) (by decide)⟩
    · exact retI X0 hx Bd.returns (hb hby d6_79) hr
    · show QV _ h0 n0 _ s₁.heap _
      exact ⟨congrArg (fun z => some (Value.int z)) (by subst ez1 ez9 ez10 ez16 ez17 ez23 ez24 ez30 ez31; decide), N0, e0⟩
  · have k33 : ∀ tg, Steps p.tables e below (s₁.setTop (mkF m 16 #[.val (.int z1), .unset] [(.int (z1 &&& (32 : Int32)))])) tg → Steps p.tables e below (s₁.setTop (entryFrame m #[(.int (1024 : Int32))] 2)) tg := by
      intro tg kt
      refine k2 tg ?_
      refine XS.ifNo X0.here hx rfl (hb hby d6_9) rfl ((if0 _ _).trans (flt hc3).2.2.1) ?_
      show Steps p.tables e below (s₁.setTop (mkF m 12 #[.val (.int z1), .unset] [])) _
      refine XS.iloadN X0.here hx rfl (hb hby d6_12) rfl ?_
      show Steps p.tables e below (s₁.setTop (mkF m 13 #[.val (.int z1), .unset] [(.int z1)])) _
      refine XS.bipush X0.here hx rfl (hb hby d6_13) ?_
      show Steps p.tables e below (s₁.setTop (mkF m 15 #[.val (.int z1), .unset] [(.int (32 : Int32)), (.int z1)])) _
      refine XS.iand X0.here hx rfl (hb hby d6_15) rfl ?_
      show Steps p.tables e below (s₁.setTop (mkF m 16 #[.val (.int z1), .unset] [(.int (z1 &&& (32 : Int32)))])) _
      exact kt
    obtain ⟨fs, hr, hrun, hended, hW, hsame⟩ := X0.leave (v := some (.int (z1 &&& (32 : Int32)))) (fun h => by rw [Bd.returns] at h; cases h)
    refine ⟨_, _, k33 _ ?_, hrun, hended, _, _, rfl, ?_, ⟨_, rfl⟩, hW, hsame.mono (by decide) (by decide)⟩
    · exact retI X0 hx Bd.returns (hb hby d6_16) hr
    · show QV _ h0 n0 _ s₁.heap _
      exact ⟨absurd hc3 (by subst ez1; decide), N0, e0⟩
theorem ef_rmNtz15 (m : MethodId)  : entryFrame m #[(.int (32768 : Int32))] 2 = mkF m 0 #[.val (.int (32768 : Int32)), .unset] [] := by first | (simp [entryFrame, mkF, argsToLocals, Value.category]; done) | rfl
set_option maxRecDepth 65536 in
set_option maxHeartbeats 40000000 in
theorem rmNtz15 (l : Launch) (Z : State) (a0 : Array Value) (hw : ∀ d ∈ tables_1, d.before a0 Z = true) (ws : List Jvm.Cond)   (h0 : Heap) (n0 : Nat)  :
    MetFree l (⟨"java/lang/Integer", "numberOfTrailingZeros", "(I)I"⟩ : MethodName) (head1 (Jvm.Cond.code (⟨"java/lang/Integer", "numberOfTrailingZeros", "(I)I"⟩ : MethodName) jdk_33_method_48_code 2 (some .int) :: ws) ({ frames := 0, cells := 0, slots := 0, locals := 0 } : Room)) (fun a_ U_ => a_ = #[(.int (32768 : Int32))] ∧ Z.Warmed39 U_.vm ∧ U_.heap = h0) (fun _ _ _ _ _ => True) (fun _ U_ o_ U'_ => ∃ v_ L_, o_ = .returned v_ ∧ QV (.int (15 : Int32)) h0 n0 v_ U'_.heap L_ ∧ FrameEnd U_ o_ U'_ L_ ({ frames := 0, cells := 0, slots := 0, locals := 0 } : Room).cells ({ frames := 0, cells := 0, slots := 0, locals := 0 } : Room).slots) := by
  refine MetFree.of_bodySF (plainFor_of_name pn_6) hisR ?_
  intro p e s m args below meth c s₁ Bd hml0 hP hK
  obtain ⟨rfl, hZ, hh⟩ := hP
  have hx := Bd.exec
  have hby := Bd.bytes
  have hml : c.maxLocals = 2 := hml0
  have hown : s.vm.findClass "java/lang/Integer" = some m.cls := findClass_of_methodNamed Bd.named
  have hnm := (name_of_methodNamed Bd.named Bd.method).1
  have X0 : Stand p l e ({ frames := 0, cells := 0, slots := 0, locals := 0 } : Room) s m #[(.int (32768 : Int32))] below meth c s₁ [] 0 0 := Stand.of_body Bd
  have e0 : s₁.heap = h0 := by rw [← hh, Bd.state]; rfl
  have N0 := Fr.nil n0
  have k0 : ∀ tg, Steps p.tables e below (s₁.setTop (mkF m 0 #[.val (.int (32768 : Int32)), .unset] [])) tg → Steps p.tables e below (s₁.setTop (entryFrame m #[(.int (32768 : Int32))] 2)) tg := fun tg kq_ => castTop (ef_rmNtz15 m ) kq_
  obtain ⟨z1, ez1⟩ : ∃ z : Int32, z = (((32768 : Int32) ^^^ (-1 : Int32)) &&& ((32768 : Int32) - (1 : Int32))) := ⟨_, rfl⟩
  have k2 : ∀ tg, Steps p.tables e below (s₁.setTop (mkF m 9 #[.val (.int z1), .unset] [(.int z1)])) tg → Steps p.tables e below (s₁.setTop (entryFrame m #[(.int (32768 : Int32))] 2)) tg := by
    intro tg kt
    refine k0 tg ?_
    show Steps p.tables e below (s₁.setTop (mkF m 0 #[.val (.int (32768 : Int32)), .unset] [])) _
    refine XS.iloadN X0.here hx rfl (hb hby d6_0) rfl ?_
    show Steps p.tables e below (s₁.setTop (mkF m 1 #[.val (.int (32768 : Int32)), .unset] [(.int (32768 : Int32))])) _
    refine XS.iconst X0.here hx rfl (hb hby d6_1) ?_
    show Steps p.tables e below (s₁.setTop (mkF m 2 #[.val (.int (32768 : Int32)), .unset] [(.int (-1 : Int32)), (.int (32768 : Int32))])) _
    refine XS.ixor X0.here hx rfl (hb hby d6_2) rfl ?_
    show Steps p.tables e below (s₁.setTop (mkF m 3 #[.val (.int (32768 : Int32)), .unset] [(.int ((32768 : Int32) ^^^ (-1 : Int32)))])) _
    refine XS.iloadN X0.here hx rfl (hb hby d6_3) rfl ?_
    show Steps p.tables e below (s₁.setTop (mkF m 4 #[.val (.int (32768 : Int32)), .unset] [(.int (32768 : Int32)), (.int ((32768 : Int32) ^^^ (-1 : Int32)))])) _
    refine XS.iconst X0.here hx rfl (hb hby d6_4) ?_
    show Steps p.tables e below (s₁.setTop (mkF m 5 #[.val (.int (32768 : Int32)), .unset] [(.int (1 : Int32)), (.int (32768 : Int32)), (.int ((32768 : Int32) ^^^ (-1 : Int32)))])) _
    refine XS.isub X0.here hx rfl (hb hby d6_5) rfl ?_
    show Steps p.tables e below (s₁.setTop (mkF m 6 #[.val (.int (32768 : Int32)), .unset] [(.int ((32768 : Int32) - (1 : Int32))), (.int ((32768 : Int32) ^^^ (-1 : Int32)))])) _
    refine XS.iand X0.here hx rfl (hb hby d6_6) rfl ?_
    show Steps p.tables e below (s₁.setTop (mkF m 7 #[.val (.int (32768 : Int32)), .unset] [(.int (((32768 : Int32) ^^^ (-1 : Int32)) &&& ((32768 : Int32) - (1 : Int32))))])) _
    refine XS.istoreN X0.here hx rfl (hb hby d6_7) rfl (l' := #[.val (.int (((32768 : Int32) ^^^ (-1 : Int32)) &&& ((32768 : Int32) - (1 : Int32)))), .unset]) rfl ?_
    show Steps p.tables e below (s₁.setTop (mkF m 8 #[.val (.int (((32768 : Int32) ^^^ (-1 : Int32)) &&& ((32768 : Int32) - (1 : Int32)))), .unset] [])) _
    rw [← ez1]
    show Steps p.tables e below (s₁.setTop (mkF m 8 #[.val (.int z1), .unset] [])) _
    refine XS.iloadN X0.here hx rfl (hb hby d6_8) rfl ?_
    show Steps p.tables e below (s₁.setTop (mkF m 9 #[.val (.int z1), .unset] [(.int z1)])) _
    exact kt
  by_cases hc3 : (0 : Int32) < z1
  · have k4 : ∀ tg, Steps p.tables e below (s₁.setTop (mkF m 23 #[.val (.int z1), .val (.int (1 : Int32))] [(.int (65536 : Int32)), (.int z1)])) tg → Steps p.tables e below (s₁.setTop (entryFrame m #[(.int (32768 : Int32))] 2)) tg := by
      intro tg kt
      refine k2 tg ?_
      refine XS.ifYes X0.here hx rfl (pc0 := 9) (pc' := 17) rfl (hb hby d6_9) rfl ((if0 _ _).trans (tlt hc3).2.2.1) (by decide) (by decide) ?_
      show Steps p.tables e below (s₁.setTop (mkF m 17 #[.val (.int z1), .unset] [])) _
      refine XS.iconst X0.here hx rfl (hb hby d6_17) ?_
      show Steps p.tables e below (s₁.setTop (mkF m 18 #[.val (.int z1), .unset] [(.int (1 : Int32))])) _
      refine XS.istoreN X0.here hx rfl (hb hby d6_18) rfl (l' := #[.val (.int z1), .val (.int (1 : Int32))]) rfl ?_
      show Steps p.tables e below (s₁.setTop (mkF m 19 #[.val (.int z1), .val (.int (1 : Int32))] [])) _
      refine XS.iloadN X0.here hx rfl (hb hby d6_19) rfl ?_
      show Steps p.tables e below (s₁.setTop (mkF m 20 #[.val (.int z1), .val (.int (1 : Int32))] [(.int z1)])) _
      refine X0.ldcwInt hx hown (mvT hZ (hw _ (List.mem_of_getElem? (i := 28) rfl))) (g := (mkF m 20 #[.val (.int z1), .val (.int (1 : Int32))] [(.int z1)])) rfl (hb hby d6_20) _ ?_
      show Steps p.tables e below (s₁.setTop (mkF m 23 #[.val (.int z1), .val (.int (1 : Int32))] [(.int (65536 : Int32)), (.int z1)])) _
      exact kt
    have k8 : ∀ tg, Steps p.tables e below (s₁.setTop (mkF m 34 #[.val (.int (if (65536 : Int32) < z1 then ((z1.toUInt32 >>> ((16 : Int32) &&& 31).toUInt32).toInt32) else z1)), .val (.int (if (65536 : Int32) < z1 then ((1 : Int32) + (16 : Int32)) else (1 : Int32)))] [])) tg → Steps p.tables e below (s₁.setTop (entryFrame m #[(.int (32768 : Int32))] 2)) tg := by
      intro tg kt
      refine k4 tg ?_
      show Steps p.tables e below (s₁.setTop (mkF m 23 #[.val (.int z1), .val (.int (1 : Int32))] [(.int (65536 : Int32)), (.int z1)])) _
      by_cases hc5 : (65536 : Int32) < z1
      · refine XS.icmpNo X0.here hx rfl (hb hby d6_23) rfl (tlt hc5).2.2.2 ?_
        show Steps p.tables e below (s₁.setTop (mkF m 26 #[.val (.int z1), .val (.int (1 : Int32))] [])) _
        refine XS.iinc X0.here hx rfl (hb hby d6_26) rfl (l' := #[.val (.int z1), .val (.int ((1 : Int32) + (16 : Int32)))]) rfl ?_
        show Steps p.tables e below (s₁.setTop (mkF m 29 #[.val (.int z1), .val (.int ((1 : Int32) + (16 : Int32)))] [])) _
        refine XS.iloadN X0.here hx rfl (hb hby d6_29) rfl ?_
        show Steps p.tables e below (s₁.setTop (mkF m 30 #[.val (.int z1), .val (.int ((1 : Int32) + (16 : Int32)))] [(.int z1)])) _
        refine XS.bipush X0.here hx rfl (hb hby d6_30) ?_
        show Steps p.tables e below (s₁.setTop (mkF m 32 #[.val (.int z1), .val (.int ((1 : Int32) + (16 : Int32)))] [(.int (16 : Int32)), (.int z1)])) _
        refine XS.iushr X0.here hx rfl (hb hby d6_32) rfl ?_
        show Steps p.tables e below (s₁.setTop (mkF m 33 #[.val (.int z1), .val (.int ((1 : Int32) + (16 : Int32)))] [(.int ((z1.toUInt32 >>> ((16 : Int32) &&& 31).toUInt32).toInt32))])) _
        refine XS.istoreN X0.here hx rfl (hb hby d6_33) rfl (l' := #[.val (.int ((z1.toUInt32 >>> ((16 : Int32) &&& 31).toUInt32).toInt32)), .val (.int ((1 : Int32) + (16 : Int32)))]) rfl ?_
        show Steps p.tables e below (s₁.setTop (mkF m 34 #[.val (.int ((z1.toUInt32 >>> ((16 : Int32) &&& 31).toUInt32).toInt32)), .val (.int ((1 : Int32) + (16 : Int32)))] [])) _
        repeat rw [if_pos hc5] at kt
        exact kt
      · refine XS.icmpYes X0.here hx rfl (pc0 := 23) (pc' := 34) rfl (hb hby d6_23) rfl (flt hc5).2.2.2 (by decide) (by decide) ?_
        show Steps p.tables e below (s₁.setTop (mkF m 34 #[.val (.int z1), .val (.int (1 : Int32))] [])) _
        repeat rw [if_neg hc5] at kt
        exact kt
    obtain ⟨z9, ez9⟩ : ∃ z : Int32, z = (if (65536 : Int32) < z1 then ((z1.toUInt32 >>> ((16 : Int32) &&& 31).toUInt32).toInt32) else z1) := ⟨_, rfl⟩
    obtain ⟨z10, ez10⟩ : ∃ z : Int32, z = (if (65536 : Int32) < z1 then ((1 : Int32) + (16 : Int32)) else (1 : Int32)) := ⟨_, rfl⟩
    have k11 : ∀ tg, Steps p.tables e below (s₁.setTop (mkF m 38 #[.val (.int z9), .val (.int z10)] [(.int (256 : Int32)), (.int z9)])) tg → Steps p.tables e below (s₁.setTop (entryFrame m #[(.int (32768 : Int32))] 2)) tg := by
      intro tg kt
      refine k8 tg ?_
      show Steps p.tables e below (s₁.setTop (mkF m 34 #[.val (.int (if (65536 : Int32) < z1 then ((z1.toUInt32 >>> ((16 : Int32) &&& 31).toUInt32).toInt32) else z1)), .val (.int (if (65536 : Int32) < z1 then ((1 : Int32) + (16 : Int32)) else (1 : Int32)))] [])) _
      rw [← ez9]
      rw [← ez10]
      show Steps p.tables e below (s₁.setTop (mkF m 34 #[.val (.int z9), .val (.int z10)] [])) _
      refine XS.iloadN X0.here hx rfl (hb hby d6_34) rfl ?_
      show Steps p.tables e below (s₁.setTop (mkF m 35 #[.val (.int z9), .val (.int z10)] [(.int z9)])) _
      refine XS.sipush X0.here hx rfl (hb hby d6_35) ?_
      show Steps p.tables e below (s₁.setTop (mkF m 38 #[.val (.int z9), .val (.int z10)] [(.int (256 : Int32)), (.int z9)])) _
      exact kt
    have k15 : ∀ tg, Steps p.tables e below (s₁.setTop (mkF m 49 #[.val (.int (if (256 : Int32) < z9 then ((z9.toUInt32 >>> ((8 : Int32) &&& 31).toUInt32).toInt32) else z9)), .val (.int (if (256 : Int32) < z9 then (z10 + (8 : Int32)) else z10))] [])) tg → Steps p.tables e below (s₁.setTop (entryFrame m #[(.int (32768 : Int32))] 2)) tg := by
      intro tg kt
      refine k11 tg ?_
      show Steps p.tables e below (s₁.setTop (mkF m 38 #[.val (.int z9), .val (.int z10)] [(.int (256 : Int32)), (.int z9)])) _
      by_cases hc12 : (256 : Int32) < z9
      · refine XS.icmpNo X0.here hx rfl (hb hby d6_38) rfl (tlt hc12).2.2.2 ?_
        show Steps p.tables e below (s₁.setTop (mkF m 41 #[.val (.int z9), .val (.int z10)] [])) _
        refine XS.iinc X0.here hx rfl (hb hby d6_41) rfl (l' := #[.val (.int z9), .val (.int (z10 + (8 : Int32)))]) rfl ?_
        show Steps p.tables e below (s₁.setTop (mkF m 44 #[.val (.int z9), .val (.int (z10 + (8 : Int32)))] [])) _
        refine XS.iloadN X0.here hx rfl (hb hby d6_44) rfl ?_
        show Steps p.tables e below (s₁.setTop (mkF m 45 #[.val (.int z9), .val (.int (z10 + (8 : Int32)))] [(.int z9)])) _
        refine XS.bipush X0.here hx rfl (hb hby d6_45) ?_
        show Steps p.tables e below (s₁.setTop (mkF m 47 #[.val (.int z9), .val (.int (z10 + (8 : Int32)))] [(.int (8 : Int32)), (.int z9)])) _
        refine XS.iushr X0.here hx rfl (hb hby d6_47) rfl ?_
        show Steps p.tables e below (s₁.setTop (mkF m 48 #[.val (.int z9), .val (.int (z10 + (8 : Int32)))] [(.int ((z9.toUInt32 >>> ((8 : Int32) &&& 31).toUInt32).toInt32))])) _
        refine XS.istoreN X0.here hx rfl (hb hby d6_48) rfl (l' := #[.val (.int ((z9.toUInt32 >>> ((8 : Int32) &&& 31).toUInt32).toInt32)), .val (.int (z10 + (8 : Int32)))]) rfl ?_
        show Steps p.tables e below (s₁.setTop (mkF m 49 #[.val (.int ((z9.toUInt32 >>> ((8 : Int32) &&& 31).toUInt32).toInt32)), .val (.int (z10 + (8 : Int32)))] [])) _
        repeat rw [if_pos hc12] at kt
        exact kt
      · refine XS.icmpYes X0.here hx rfl (pc0 := 38) (pc' := 49) rfl (hb hby d6_38) rfl (flt hc12).2.2.2 (by decide) (by decide) ?_
        show Steps p.tables e below (s₁.setTop (mkF m 49 #[.val (.int z9), .val (.int z10)] [])) _
        repeat rw [if_neg hc12] at kt
        exact kt
    obtain ⟨z16, ez16⟩ : ∃ z : Int32, z = (if (256 : Int32) < z9 then ((z9.toUInt32 >>> ((8 : Int32) &&& 31).toUInt32).toInt32) else z9) := ⟨_, rfl⟩
    obtain ⟨z17, ez17⟩ : ∃ z : Int32, z = (if (256 : Int32) < z9 then (z10 + (8 : Int32)) else z10) := ⟨_, rfl⟩
    have k18 : ∀ tg, Steps p.tables e below (s₁.setTop (mkF m 52 #[.val (.int z16), .val (.int z17)] [(.int (16 : Int32)), (.int z16)])) tg → Steps p.tables e below (s₁.setTop (entryFrame m #[(.int (32768 : Int32))] 2)) tg := by
      intro tg kt
      refine k15 tg ?_
      show Steps p.tables e below (s₁.setTop (mkF m 49 #[.val (.int (if (256 : Int32) < z9 then ((z9.toUInt32 >>> ((8 : Int32) &&& 31).toUInt32).toInt32) else z9)), .val (.int (if (256 : Int32) < z9 then (z10 + (8 : Int32)) else z10))] [])) _
      rw [← ez16]
      rw [← ez17]
      show Steps p.tables e below (s₁.setTop (mkF m 49 #[.val (.int z16), .val (.int z17)] [])) _
      refine XS.iloadN X0.here hx rfl (hb hby d6_49) rfl ?_
      show Steps p.tables e below (s₁.setTop (mkF m 50 #[.val (.int z16), .val (.int z17)] [(.int z16)])) _
      refine XS.bipush X0.here hx rfl (hb hby d6_50) ?_
      show Steps p.tables e below (s₁.setTop (mkF m 52 #[.val (.int z16), .val (.int z17)] [(.int (16 : Int32)), (.int z16)])) _
      exact kt
    have k22 : ∀ tg, Steps p.tables e below (s₁.setTop (mkF m 62 #[.val (.int (if (16 : Int32) < z16 then ((z16.toUInt32 >>> ((4 : Int32) &&& 31).toUInt32).toInt32) else z16)), .val (.int (if (16 : Int32) < z16 then (z17 + (4 : Int32)) else z17))] [])) tg → Steps p.tables e below (s₁.setTop (entryFrame m #[(.int (32768 : Int32))] 2)) tg := by
      intro tg kt
      refine k18 tg ?_
      show Steps p.tables e below (s₁.setTop (mkF m 52 #[.val (.int z16), .val (.int z17)] [(.int (16 : Int32)), (.int z16)])) _
      by_cases hc19 : (16 : Int32) < z16
      · refine XS.icmpNo X0.here hx rfl (hb hby d6_52) rfl (tlt hc19).2.2.2 ?_
        show Steps p.tables e below (s₁.setTop (mkF m 55 #[.val (.int z16), .val (.int z17)] [])) _
        refine XS.iinc X0.here hx rfl (hb hby d6_55) rfl (l' := #[.val (.int z16), .val (.int (z17 + (4 : Int32)))]) rfl ?_
        show Steps p.tables e below (s₁.setTop (mkF m 58 #[.val (.int z16), .val (.int (z17 + (4 : Int32)))] [])) _
        refine XS.iloadN X0.here hx rfl (hb hby d6_58) rfl ?_
        show Steps p.tables e below (s₁.setTop (mkF m 59 #[.val (.int z16), .val (.int (z17 + (4 : Int32)))] [(.int z16)])) _
        refine XS.iconst X0.here hx rfl (hb hby d6_59) ?_
        show Steps p.tables e below (s₁.setTop (mkF m 60 #[.val (.int z16), .val (.int (z17 + (4 : Int32)))] [(.int (4 : Int32)), (.int z16)])) _
        refine XS.iushr X0.here hx rfl (hb hby d6_60) rfl ?_
        show Steps p.tables e below (s₁.setTop (mkF m 61 #[.val (.int z16), .val (.int (z17 + (4 : Int32)))] [(.int ((z16.toUInt32 >>> ((4 : Int32) &&& 31).toUInt32).toInt32))])) _
        refine XS.istoreN X0.here hx rfl (hb hby d6_61) rfl (l' := #[.val (.int ((z16.toUInt32 >>> ((4 : Int32) &&& 31).toUInt32).toInt32)), .val (.int (z17 + (4 : Int32)))]) rfl ?_
        show Steps p.tables e below (s₁.setTop (mkF m 62 #[.val (.int ((z16.toUInt32 >>> ((4 : Int32) &&& 31).toUInt32).toInt32)), .val (.int (z17 + (4 : Int32)))] [])) _
        repeat rw [if_pos hc19] at kt
        exact kt
      · refine XS.icmpYes X0.here hx rfl (pc0 := 52) (pc' := 62) rfl (hb hby d6_52) rfl (flt hc19).2.2.2 (by decide) (by decide) ?_
        show Steps p.tables e below (s₁.setTop (mkF m 62 #[.val (.int z16), .val (.int z17)] [])) _
        repeat rw [if_neg hc19] at kt
        exact kt
    obtain ⟨z23, ez23⟩ : ∃ z : Int32, z = (if (16 : Int32) < z16 then ((z16.toUInt32 >>> ((4 : Int32) &&& 31).toUInt32).toInt32) else z16) := ⟨_, rfl⟩
    obtain ⟨z24, ez24⟩ : ∃ z : Int32, z = (if (16 : Int32) < z16 then (z17 + (4 : Int32)) else z17) := ⟨_, rfl⟩
    have k25 : ∀ tg, Steps p.tables e below (s₁.setTop (mkF m 64 #[.val (.int z23), .val (.int z24)] [(.int (4 : Int32)), (.int z23)])) tg → Steps p.tables e below (s₁.setTop (entryFrame m #[(.int (32768 : Int32))] 2)) tg := by
      intro tg kt
      refine k22 tg ?_
      show Steps p.tables e below (s₁.setTop (mkF m 62 #[.val (.int (if (16 : Int32) < z16 then ((z16.toUInt32 >>> ((4 : Int32) &&& 31).toUInt32).toInt32) else z16)), .val (.int (if (16 : Int32) < z16 then (z17 + (4 : Int32)) else z17))] [])) _
      rw [← ez23]
      rw [← ez24]
      show Steps p.tables e below (s₁.setTop (mkF m 62 #[.val (.int z23), .val (.int z24)] [])) _
      refine XS.iloadN X0.here hx rfl (hb hby d6_62) rfl ?_
      show Steps p.tables e below (s₁.setTop (mkF m 63 #[.val (.int z23), .val (.int z24)] [(.int z23)])) _
      refine XS.iconst X0.here hx rfl (hb hby d6_63) ?_
      show Steps p.tables e below (s₁.setTop (mkF m 64 #[.val (.int z23), .val (.int z24)] [(.int (4 : Int32)), (.int z23)])) _
      exact kt
    have k29 : ∀ tg, Steps p.tables e below (s₁.setTop (mkF m 74 #[.val (.int (if (4 : Int32) < z23 then ((z23.toUInt32 >>> ((2 : Int32) &&& 31).toUInt32).toInt32) else z23)), .val (.int (if (4 : Int32) < z23 then (z24 + (2 : Int32)) else z24))] [])) tg → Steps p.tables e below (s₁.setTop (entryFrame m #[(.int (32768 : Int32))] 2)) tg := by
      intro tg kt
      refine k25 tg ?_
      show Steps p.tables e below (s₁.setTop (mkF m 64 #[.val (.int z23), .val (.int z24)] [(.int (4 : Int32)), (.int z23)])) _
      by_cases hc26 : (4 : Int32) < z23
      · refine XS.icmpNo X0.here hx rfl (hb hby d6_64) rfl (tlt hc26).2.2.2 ?_
        show Steps p.tables e below (s₁.setTop (mkF m 67 #[.val (.int z23), .val (.int z24)] [])) _
        refine XS.iinc X0.here hx rfl (hb hby d6_67) rfl (l' := #[.val (.int z23), .val (.int (z24 + (2 : Int32)))]) rfl ?_
        show Steps p.tables e below (s₁.setTop (mkF m 70 #[.val (.int z23), .val (.int (z24 + (2 : Int32)))] [])) _
        refine XS.iloadN X0.here hx rfl (hb hby d6_70) rfl ?_
        show Steps p.tables e below (s₁.setTop (mkF m 71 #[.val (.int z23), .val (.int (z24 + (2 : Int32)))] [(.int z23)])) _
        refine XS.iconst X0.here hx rfl (hb hby d6_71) ?_
        show Steps p.tables e below (s₁.setTop (mkF m 72 #[.val (.int z23), .val (.int (z24 + (2 : Int32)))] [(.int (2 : Int32)), (.int z23)])) _
        refine XS.iushr X0.here hx rfl (hb hby d6_72) rfl ?_
        show Steps p.tables e below (s₁.setTop (mkF m 73 #[.val (.int z23), .val (.int (z24 + (2 : Int32)))] [(.int ((z23.toUInt32 >>> ((2 : Int32) &&& 31).toUInt32).toInt32))])) _
        refine XS.istoreN X0.here hx rfl (hb hby d6_73) rfl (l' := #[.val (.int ((z23.toUInt32 >>> ((2 : Int32) &&& 31).toUInt32).toInt32)), .val (.int (z24 + (2 : Int32)))]) rfl ?_
        show Steps p.tables e below (s₁.setTop (mkF m 74 #[.val (.int ((z23.toUInt32 >>> ((2 : Int32) &&& 31).toUInt32).toInt32)), .val (.int (z24 + (2 : Int32)))] [])) _
        repeat rw [if_pos hc26] at kt
        exact kt
      · refine XS.icmpYes X0.here hx rfl (pc0 := 64) (pc' := 74) rfl (hb hby d6_64) rfl (flt hc26).2.2.2 (by decide) (by decide) ?_
        show Steps p.tables e below (s₁.setTop (mkF m 74 #[.val (.int z23), .val (.int z24)] [])) _
        repeat rw [if_neg hc26] at kt
        exact kt
    obtain ⟨z30, ez30⟩ : ∃ z : Int32, z = (if (4 : Int32) < z23 then ((z23.toUInt32 >>> ((2 : Int32) &&& 31).toUInt32).toInt32) else z23) := ⟨_, rfl⟩
    obtain ⟨z31, ez31⟩ : ∃ z : Int32, z = (if (4 : Int32) < z23 then (z24 + (2 : Int32)) else z24) := ⟨_, rfl⟩
    have k32 : ∀ tg, Steps p.tables e below (s₁.setTop (mkF m 79 #[.val (.int z30), .val (.int z31)] [(.int (z31 + ((z30.toUInt32 >>> ((1 : Int32) &&& 31).toUInt32).toInt32)))])) tg → Steps p.tables e below (s₁.setTop (entryFrame m #[(.int (32768 : Int32))] 2)) tg := by
      intro tg kt
      refine k29 tg ?_
      show Steps p.tables e below (s₁.setTop (mkF m 74 #[.val (.int (if (4 : Int32) < z23 then ((z23.toUInt32 >>> ((2 : Int32) &&& 31).toUInt32).toInt32) else z23)), .val (.int (if (4 : Int32) < z23 then (z24 + (2 : Int32)) else z24))] [])) _
      rw [← ez30]
      rw [← ez31]
      show Steps p.tables e below (s₁.setTop (mkF m 74 #[.val (.int z30), .val (.int z31)] [])) _
      refine XS.iloadN X0.here hx rfl (hb hby d6_74) rfl ?_
      show Steps p.tables e below (s₁.setTop (mkF m 75 #[.val (.int z30), .val (.int z31)] [(.int z31)])) _
      refine XS.iloadN X0.here hx rfl (hb hby d6_75) rfl ?_
      show Steps p.tables e below (s₁.setTop (mkF m 76 #[.val (.int z30), .val (.int z31)] [(.int z30), (.int z31)])) _
      refine XS.iconst X0.here hx rfl (hb hby d6_76) ?_
      show Steps p.tables e below (s₁.setTop (mkF m 77 #[.val (.int z30), .val (.int z31)] [(.int (1 : Int32)), (.int z30), (.int z31)])) _
      refine XS.iushr X0.here hx rfl (hb hby d6_77) rfl ?_
      show Steps p.tables e below (s₁.setTop (mkF m 78 #[.val (.int z30), .val (.int z31)] [(.int ((z30.toUInt32 >>> ((1 : Int32) &&& 31).toUInt32).toInt32)), (.int z31)])) _
      refine XS.iadd X0.here hx rfl (hb hby d6_78) rfl ?_
      show Steps p.tables e below (s₁.setTop (mkF m 79 #[.val (.int z30), .val (.int z31)] [(.int (z31 + ((z30.toUInt32 >>> ((1 : Int32) &&& 31).toUInt32).toInt32)))])) _
      exact kt
    obtain ⟨fs, hr, hrun, hended, hW, hsame⟩ := X0.leave (v := some (.int (z31 + ((z30.toUInt32 >>> ((1 : Int32) &&& 31).toUInt32).toInt32)))) (fun h => by rw [Bd.returns] at h; cases h)
    refine ⟨_, _, k32 _ ?_, hrun, hended, _, _, rfl, ?_, ⟨_, rfl⟩, hW, hsame.mono (by decide) (by decide)⟩
    · exact retI X0 hx Bd.returns (hb hby d6_79) hr
    · show QV _ h0 n0 _ s₁.heap _
      exact ⟨congrArg (fun z => some (Value.int z)) (by subst ez1 ez9 ez10 ez16 ez17 ez23 ez24 ez30 ez31; decide), N0, e0⟩
  · have k33 : ∀ tg, Steps p.tables e below (s₁.setTop (mkF m 16 #[.val (.int z1), .unset] [(.int (z1 &&& (32 : Int32)))])) tg → Steps p.tables e below (s₁.setTop (entryFrame m #[(.int (32768 : Int32))] 2)) tg := by
      intro tg kt
      refine k2 tg ?_
      refine XS.ifNo X0.here hx rfl (hb hby d6_9) rfl ((if0 _ _).trans (flt hc3).2.2.1) ?_
      show Steps p.tables e below (s₁.setTop (mkF m 12 #[.val (.int z1), .unset] [])) _
      refine XS.iloadN X0.here hx rfl (hb hby d6_12) rfl ?_
      show Steps p.tables e below (s₁.setTop (mkF m 13 #[.val (.int z1), .unset] [(.int z1)])) _
      refine XS.bipush X0.here hx rfl (hb hby d6_13) ?_
      show Steps p.tables e below (s₁.setTop (mkF m 15 #[.val (.int z1), .unset] [(.int (32 : Int32)), (.int z1)])) _
      refine XS.iand X0.here hx rfl (hb hby d6_15) rfl ?_
      show Steps p.tables e below (s₁.setTop (mkF m 16 #[.val (.int z1), .unset] [(.int (z1 &&& (32 : Int32)))])) _
      exact kt
    obtain ⟨fs, hr, hrun, hended, hW, hsame⟩ := X0.leave (v := some (.int (z1 &&& (32 : Int32)))) (fun h => by rw [Bd.returns] at h; cases h)
    refine ⟨_, _, k33 _ ?_, hrun, hended, _, _, rfl, ?_, ⟨_, rfl⟩, hW, hsame.mono (by decide) (by decide)⟩
    · exact retI X0 hx Bd.returns (hb hby d6_16) hr
    · show QV _ h0 n0 _ s₁.heap _
      exact ⟨absurd hc3 (by subst ez1; decide), N0, e0⟩
theorem d7_0 : decode jdk_29_method_69_code 0 = .ok (.iload_n 0, 1) := by decide +kernel
theorem d7_1 : decode jdk_29_method_69_code 1 = .ok (.iload_n 1, 1) := by decide +kernel
theorem d7_2 : decode jdk_29_method_69_code 2 = .ok (.if_icmp .gt 7, 3) := by decide +kernel
theorem d7_5 : decode jdk_29_method_69_code 5 = .ok (.iload_n 0, 1) := by decide +kernel
theorem d7_6 : decode jdk_29_method_69_code 6 = .ok (.goto 4, 3) := by decide +kernel
theorem d7_9 : decode jdk_29_method_69_code 9 = .ok (.iload_n 1, 1) := by decide +kernel
theorem d7_10 : decode jdk_29_method_69_code 10 = .ok (.ireturn, 1) := by decide +kernel
theorem ef_rmMin (m : MethodId) (x : Int32) (y : Int32) : entryFrame m #[(.int x), (.int y)] 2 = mkF m 0 #[.val (.int x), .val (.int y)] [] := by first | (simp [entryFrame, mkF, argsToLocals, Value.category]; done) | rfl
set_option maxRecDepth 65536 in
set_option maxHeartbeats 40000000 in
theorem rmMin (l : Launch) (Z : State) (a0 : Array Value) (hw : ∀ d ∈ tables_1, d.before a0 Z = true) (ws : List Jvm.Cond) (x : Int32) (y : Int32)  (h0 : Heap) (n0 : Nat)  :
    MetFree l (⟨"java/lang/Math", "min", "(II)I"⟩ : MethodName) (head1 (Jvm.Cond.code (⟨"java/lang/Math", "min", "(II)I"⟩ : MethodName) jdk_29_method_69_code 2 (some .int) :: ws) ({ frames := 0, cells := 0, slots := 0, locals := 0 } : Room)) (fun a_ U_ => a_ = #[(.int x), (.int y)] ∧ Z.Warmed39 U_.vm ∧ U_.heap = h0) (fun _ _ _ _ _ => True) (fun _ U_ o_ U'_ => ∃ v_ L_, o_ = .returned v_ ∧ QV (.int (if y < x then y else x)) h0 n0 v_ U'_.heap L_ ∧ FrameEnd U_ o_ U'_ L_ ({ frames := 0, cells := 0, slots := 0, locals := 0 } : Room).cells ({ frames := 0, cells := 0, slots := 0, locals := 0 } : Room).slots) := by
  refine MetFree.of_bodySF (Jvm.Free.JP.mathPlain rfl (by decide +kernel)) hisR ?_
  intro p e s m args below meth c s₁ Bd hml0 hP hK
  obtain ⟨rfl, hZ, hh⟩ := hP
  have hx := Bd.exec
  have hby := Bd.bytes
  have hml : c.maxLocals = 2 := hml0
  have hown : s.vm.findClass "java/lang/Math" = some m.cls := findClass_of_methodNamed Bd.named
  have hnm := (name_of_methodNamed Bd.named Bd.method).1
  have X0 : Stand p l e ({ frames := 0, cells := 0, slots := 0, locals := 0 } : Room) s m #[(.int x), (.int y)] below meth c s₁ [] 0 0 := Stand.of_body Bd
  have e0 : s₁.heap = h0 := by rw [← hh, Bd.state]; rfl
  have N0 := Fr.nil n0
  have k0 : ∀ tg, Steps p.tables e below (s₁.setTop (mkF m 0 #[.val (.int x), .val (.int y)] [])) tg → Steps p.tables e below (s₁.setTop (entryFrame m #[(.int x), (.int y)] 2)) tg := fun tg kq_ => castTop (ef_rmMin m x y) kq_
  have k1 : ∀ tg, Steps p.tables e below (s₁.setTop (mkF m 2 #[.val (.int x), .val (.int y)] [(.int y), (.int x)])) tg → Steps p.tables e below (s₁.setTop (entryFrame m #[(.int x), (.int y)] 2)) tg := by
    intro tg kt
    refine k0 tg ?_
    show Steps p.tables e below (s₁.setTop (mkF m 0 #[.val (.int x), .val (.int y)] [])) _
    refine XS.iloadN X0.here hx rfl (hb hby d7_0) rfl ?_
    show Steps p.tables e below (s₁.setTop (mkF m 1 #[.val (.int x), .val (.int y)] [(.int x)])) _
    refine XS.iloadN X0.here hx rfl (hb hby d7_1) rfl ?_
    show Steps p.tables e below (s₁.setTop (mkF m 2 #[.val (.int x), .val (.int y)] [(.int y), (.int x)])) _
    exact kt
  have k5 : ∀ tg, Steps p.tables e below (s₁.setTop (mkF m 10 #[.val (.int x), .val (.int y)] [(.int (if y < x then y else x))])) tg → Steps p.tables e below (s₁.setTop (entryFrame m #[(.int x), (.int y)] 2)) tg := by
    intro tg kt
    refine k1 tg ?_
    show Steps p.tables e below (s₁.setTop (mkF m 2 #[.val (.int x), .val (.int y)] [(.int y), (.int x)])) _
    by_cases hc2 : y < x
    · refine XS.icmpYes X0.here hx rfl (pc0 := 2) (pc' := 9) rfl (hb hby d7_2) rfl (tlt hc2).2.2.1 (by decide) (by decide) ?_
      show Steps p.tables e below (s₁.setTop (mkF m 9 #[.val (.int x), .val (.int y)] [])) _
      refine XS.iloadN X0.here hx rfl (hb hby d7_9) rfl ?_
      show Steps p.tables e below (s₁.setTop (mkF m 10 #[.val (.int x), .val (.int y)] [(.int y)])) _
      repeat rw [if_pos hc2] at kt
      exact kt
    · refine XS.icmpNo X0.here hx rfl (hb hby d7_2) rfl (flt hc2).2.2.1 ?_
      show Steps p.tables e below (s₁.setTop (mkF m 5 #[.val (.int x), .val (.int y)] [])) _
      refine XS.iloadN X0.here hx rfl (hb hby d7_5) rfl ?_
      show Steps p.tables e below (s₁.setTop (mkF m 6 #[.val (.int x), .val (.int y)] [(.int x)])) _
      refine XS.goto X0.here hx rfl (pc0 := 6) (pc' := 10) rfl (hb hby d7_6) (by decide) (by decide) ?_
      show Steps p.tables e below (s₁.setTop (mkF m 10 #[.val (.int x), .val (.int y)] [(.int x)])) _
      repeat rw [if_neg hc2] at kt
      exact kt
  obtain ⟨z6, ez6⟩ : ∃ z : Int32, z = (if y < x then y else x) := ⟨_, rfl⟩
  have k7 : ∀ tg, Steps p.tables e below (s₁.setTop (mkF m 10 #[.val (.int x), .val (.int y)] [(.int z6)])) tg → Steps p.tables e below (s₁.setTop (entryFrame m #[(.int x), (.int y)] 2)) tg := by
    intro tg kt
    refine k5 tg ?_
    show Steps p.tables e below (s₁.setTop (mkF m 10 #[.val (.int x), .val (.int y)] [(.int (if y < x then y else x))])) _
    rw [← ez6]
    show Steps p.tables e below (s₁.setTop (mkF m 10 #[.val (.int x), .val (.int y)] [(.int z6)])) _
    exact kt
  obtain ⟨fs, hr, hrun, hended, hW, hsame⟩ := X0.leave (v := some (.int z6)) (fun h => by rw [Bd.returns] at h; cases h)
  refine ⟨_, _, k7 _ ?_, hrun, hended, _, _, rfl, ?_, ⟨_, rfl⟩, hW, hsame.mono (by decide) (by decide)⟩
  · exact retI X0 hx Bd.returns (hb hby d7_10) hr
  · show QV _ h0 n0 _ s₁.heap _
    exact ⟨by subst ez6; rfl, N0, e0⟩
theorem d9_0 : decode jdk_29_method_66_code 0 = .ok (.lload_n 0, 1) := by decide +kernel
theorem d9_1 : decode jdk_29_method_66_code 1 = .ok (.lload_n 2, 1) := by decide +kernel
theorem d9_2 : decode jdk_29_method_66_code 2 = .ok (.lcmp, 1) := by decide +kernel
theorem d9_3 : decode jdk_29_method_66_code 3 = .ok (.ifCond .lt 7, 3) := by decide +kernel
theorem d9_6 : decode jdk_29_method_66_code 6 = .ok (.lload_n 0, 1) := by decide +kernel
theorem d9_7 : decode jdk_29_method_66_code 7 = .ok (.goto 4, 3) := by decide +kernel
theorem d9_10 : decode jdk_29_method_66_code 10 = .ok (.lload_n 2, 1) := by decide +kernel
theorem d9_11 : decode jdk_29_method_66_code 11 = .ok (.lreturn, 1) := by decide +kernel
theorem ef_rmMaxL (m : MethodId) (x : Int64) (y : Int64) : entryFrame m #[(.long x), (.long y)] 4 = mkF m 0 #[.val (.long x), .second, .val (.long y), .second] [] := by first | (simp [entryFrame, mkF, argsToLocals, Value.category]; done) | rfl
set_option maxRecDepth 65536 in
set_option maxHeartbeats 40000000 in
theorem rmMaxL (l : Launch) (Z : State) (a0 : Array Value) (hw : ∀ d ∈ tables_1, d.before a0 Z = true) (ws : List Jvm.Cond) (x : Int64) (y : Int64)  (h0 : Heap) (n0 : Nat)  :
    MetFree l (⟨"java/lang/Math", "max", "(JJ)J"⟩ : MethodName) (head1 (Jvm.Cond.code (⟨"java/lang/Math", "max", "(JJ)J"⟩ : MethodName) jdk_29_method_66_code 4 (some .long) :: ws) ({ frames := 0, cells := 0, slots := 0, locals := 0 } : Room)) (fun a_ U_ => a_ = #[(.long x), (.long y)] ∧ Z.Warmed39 U_.vm ∧ U_.heap = h0) (fun _ _ _ _ _ => True) (fun _ U_ o_ U'_ => ∃ v_ L_, o_ = .returned v_ ∧ QV (.long (if x < y then y else x)) h0 n0 v_ U'_.heap L_ ∧ FrameEnd U_ o_ U'_ L_ ({ frames := 0, cells := 0, slots := 0, locals := 0 } : Room).cells ({ frames := 0, cells := 0, slots := 0, locals := 0 } : Room).slots) := by
  refine MetFree.of_bodySF (Jvm.Free.JP.mathPlain rfl (by decide +kernel)) hisR ?_
  intro p e s m args below meth c s₁ Bd hml0 hP hK
  obtain ⟨rfl, hZ, hh⟩ := hP
  have hx := Bd.exec
  have hby := Bd.bytes
  have hml : c.maxLocals = 4 := hml0
  have hown : s.vm.findClass "java/lang/Math" = some m.cls := findClass_of_methodNamed Bd.named
  have hnm := (name_of_methodNamed Bd.named Bd.method).1
  have X0 : Stand p l e ({ frames := 0, cells := 0, slots := 0, locals := 0 } : Room) s m #[(.long x), (.long y)] below meth c s₁ [] 0 0 := Stand.of_body Bd
  have e0 : s₁.heap = h0 := by rw [← hh, Bd.state]; rfl
  have N0 := Fr.nil n0
  have k0 : ∀ tg, Steps p.tables e below (s₁.setTop (mkF m 0 #[.val (.long x), .second, .val (.long y), .second] [])) tg → Steps p.tables e below (s₁.setTop (entryFrame m #[(.long x), (.long y)] 4)) tg := fun tg kq_ => castTop (ef_rmMaxL m x y) kq_
  have k1 : ∀ tg, Steps p.tables e below (s₁.setTop (mkF m 3 #[.val (.long x), .second, .val (.long y), .second] [(.int (lcmpW x y))])) tg → Steps p.tables e below (s₁.setTop (entryFrame m #[(.long x), (.long y)] 4)) tg := by
    intro tg kt
    refine k0 tg ?_
    show Steps p.tables e below (s₁.setTop (mkF m 0 #[.val (.long x), .second, .val (.long y), .second] [])) _
    refine XS.lloadN X0.here hx rfl (hb hby d9_0) rfl ?_
    show Steps p.tables e below (s₁.setTop (mkF m 1 #[.val (.long x), .second, .val (.long y), .second] [(.long x)])) _
    refine XS.lloadN X0.here hx rfl (hb hby d9_1) rfl ?_
    show Steps p.tables e below (s₁.setTop (mkF m 2 #[.val (.long x), .second, .val (.long y), .second] [(.long y), (.long x)])) _
    refine XS.lcmp X0.here hx rfl (hb hby d9_2) rfl ?_
    show Steps p.tables e below (s₁.setTop (mkF m 3 #[.val (.long x), .second, .val (.long y), .second] [(.int (lcmpW x y))])) _
    exact kt
  have k5 : ∀ tg, Steps p.tables e below (s₁.setTop (mkF m 11 #[.val (.long x), .second, .val (.long y), .second] [(.long (if x < y then y else x))])) tg → Steps p.tables e below (s₁.setTop (entryFrame m #[(.long x), (.long y)] 4)) tg := by
    intro tg kt
    refine k1 tg ?_
    show Steps p.tables e below (s₁.setTop (mkF m 3 #[.val (.long x), .second, .val (.long y), .second] [(.int (lcmpW x y))])) _
    by_cases hc2 : x < y
    · refine XS.ifYes X0.here hx rfl (pc0 := 3) (pc' := 10) rfl (hb hby d9_3) rfl ((if0 _ _).trans (tlt ((lw_lt _ _).mpr hc2)).1) (by decide) (by decide) ?_
      show Steps p.tables e below (s₁.setTop (mkF m 10 #[.val (.long x), .second, .val (.long y), .second] [])) _
      refine XS.lloadN X0.here hx rfl (hb hby d9_10) rfl ?_
      show Steps p.tables e below (s₁.setTop (mkF m 11 #[.val (.long x), .second, .val (.long y), .second] [(.long y)])) _
      repeat rw [if_pos hc2] at kt
      exact kt
    · refine XS.ifNo X0.here hx rfl (hb hby d9_3) rfl ((if0 _ _).trans (flt (fun q => hc2 ((lw_lt _ _).mp q))).1) ?_
      show Steps p.tables e below (s₁.setTop (mkF m 6 #[.val (.long x), .second, .val (.long y), .second] [])) _
      refine XS.lloadN X0.here hx rfl (hb hby d9_6) rfl ?_
      show Steps p.tables e below (s₁.setTop (mkF m 7 #[.val (.long x), .second, .val (.long y), .second] [(.long x)])) _
      refine XS.goto X0.here hx rfl (pc0 := 7) (pc' := 11) rfl (hb hby d9_7) (by decide) (by decide) ?_
      show Steps p.tables e below (s₁.setTop (mkF m 11 #[.val (.long x), .second, .val (.long y), .second] [(.long x)])) _
      repeat rw [if_neg hc2] at kt
      exact kt
  obtain ⟨z6, ez6⟩ : ∃ z : Int64, z = (if x < y then y else x) := ⟨_, rfl⟩
  have k7 : ∀ tg, Steps p.tables e below (s₁.setTop (mkF m 11 #[.val (.long x), .second, .val (.long y), .second] [(.long z6)])) tg → Steps p.tables e below (s₁.setTop (entryFrame m #[(.long x), (.long y)] 4)) tg := by
    intro tg kt
    refine k5 tg ?_
    show Steps p.tables e below (s₁.setTop (mkF m 11 #[.val (.long x), .second, .val (.long y), .second] [(.long (if x < y then y else x))])) _
    rw [← ez6]
    show Steps p.tables e below (s₁.setTop (mkF m 11 #[.val (.long x), .second, .val (.long y), .second] [(.long z6)])) _
    exact kt
  obtain ⟨fs, hr, hrun, hended, hW, hsame⟩ := X0.leave (v := some (.long z6)) (fun h => by rw [Bd.returns] at h; cases h)
  refine ⟨_, _, k7 _ ?_, hrun, hended, _, _, rfl, ?_, ⟨_, rfl⟩, hW, hsame.mono (by decide) (by decide)⟩
  · exact own_retJ X0 hx Bd.returns (hb hby d9_11) hr
  · show QV _ h0 n0 _ s₁.heap _
    exact ⟨by subst ez6; rfl, N0, e0⟩
theorem d3_0 : decode prog_121_method_3_code 0 = .ok (.iload_n 2, 1) := by decide +kernel
theorem d3_1 : decode prog_121_method_3_code 1 = .ok (.ifCond .eq 9, 3) := by decide +kernel
theorem d3_4 : decode prog_121_method_3_code 4 = .ok (.sipush 1024, 3) := by decide +kernel
theorem d3_7 : decode prog_121_method_3_code 7 = .ok (.goto 5, 3) := by decide +kernel
theorem d3_12 : decode prog_121_method_3_code 12 = .ok (.istore_n 3, 1) := by decide +kernel
theorem d3_13 : decode prog_121_method_3_code 13 = .ok (.bipush 64, 2) := by decide +kernel
theorem d3_15 : decode prog_121_method_3_code 15 = .ok (.lload_n 0, 1) := by decide +kernel
theorem d3_16 : decode prog_121_method_3_code 16 = .ok (.lconst 1, 1) := by decide +kernel
theorem d3_17 : decode prog_121_method_3_code 17 = .ok (.lsub, 1) := by decide +kernel
theorem d3_18 : decode prog_121_method_3_code 18 = .ok (.invokestatic 54, 3) := by decide +kernel
theorem d3_21 : decode prog_121_method_3_code 21 = .ok (.isub, 1) := by decide +kernel
theorem d3_22 : decode prog_121_method_3_code 22 = .ok (.istore 4, 2) := by decide +kernel
theorem d3_24 : decode prog_121_method_3_code 24 = .ok (.iload_n 3, 1) := by decide +kernel
theorem d3_25 : decode prog_121_method_3_code 25 = .ok (.invokestatic 57, 3) := by decide +kernel
theorem d3_28 : decode prog_121_method_3_code 28 = .ok (.iload 4, 2) := by decide +kernel
theorem d3_30 : decode prog_121_method_3_code 30 = .ok (.invokestatic 61, 3) := by decide +kernel
theorem d3_33 : decode prog_121_method_3_code 33 = .ok (.ireturn, 1) := by decide +kernel
theorem pn_3 : plainName "com/example/parley/parley/core/KeyTable" = true := by first | (simp [plainName, overriddenIn]; done) | decide +kernel
theorem pd_1 : parseMethodDescriptor "(J)I" = some ⟨[.long], some .int⟩ := by decide +kernel
theorem pd_2 : parseMethodDescriptor "(II)I" = some ⟨[.int, .int], some .int⟩ := by decide +kernel
theorem ef_rmShiftn (m : MethodId) (keys : Int64) : entryFrame m #[(.long keys), (.int (1 : Int32))] 5 = mkF m 0 #[.val (.long keys), .second, .val (.int (1 : Int32)), .unset, .unset] [] := by first | (simp [entryFrame, mkF, argsToLocals, Value.category]; done) | rfl
set_option maxRecDepth 65536 in
set_option maxHeartbeats 40000000 in
theorem rmShiftn (l : Launch) (Z : State) (a0 : Array Value) (hw : ∀ d ∈ tables_1, d.before a0 Z = true) (ws : List Jvm.Cond) (keys : Int64) (KK : Nat) (h0 : Heap) (n0 : Nat) (hk : keys.toInt = KK) (h1 : 1 ≤ KK) (h2 : KK ≤ 2 ^ 30) :
    MetFree l (⟨"com/example/parley/parley/core/KeyTable", "pageShift", "(JZ)I"⟩ : MethodName) (head1 (Jvm.Cond.code (⟨"com/example/parley/parley/core/KeyTable", "pageShift", "(JZ)I"⟩ : MethodName) prog_121_method_3_code 5 (some .int) :: ws) ({ frames := 2, cells := 0, slots := 0, locals := 29 } : Room)) (fun a_ U_ => a_ = #[(.long keys), (.int (1 : Int32))] ∧ Z.Warmed39 U_.vm ∧ U_.heap = h0) (fun _ _ _ _ _ => True) (fun _ U_ o_ U'_ => ∃ v_ L_, o_ = .returned v_ ∧ QV (.int (Int32.ofNat (shN 10 KK))) h0 n0 v_ U'_.heap L_ ∧ FrameEnd U_ o_ U'_ L_ ({ frames := 2, cells := 0, slots := 0, locals := 29 } : Room).cells ({ frames := 2, cells := 0, slots := 0, locals := 29 } : Room).slots) := by
  refine MetFree.of_bodySF (plainFor_of_name pn_3) hisR ?_
  intro p e s m args below meth c s₁ Bd hml0 hP hK
  obtain ⟨rfl, hZ, hh⟩ := hP
  have hx := Bd.exec
  have hby := Bd.bytes
  have hml : c.maxLocals = 5 := hml0
  have hown : s.vm.findClass "com/example/parley/parley/core/KeyTable" = some m.cls := findClass_of_methodNamed Bd.named
  have hnm := (name_of_methodNamed Bd.named Bd.method).1
  have X0 : Stand p l e ({ frames := 2, cells := 0, slots := 0, locals := 29 } : Room) s m #[(.long keys), (.int (1 : Int32))] below meth c s₁ [] 0 0 := Stand.of_body Bd
  have e0 : s₁.heap = h0 := by rw [← hh, Bd.state]; rfl
  have N0 := Fr.nil n0
  have k0 : ∀ tg, Steps p.tables e below (s₁.setTop (mkF m 0 #[.val (.long keys), .second, .val (.int (1 : Int32)), .unset, .unset] [])) tg → Steps p.tables e below (s₁.setTop (entryFrame m #[(.long keys), (.int (1 : Int32))] 5)) tg := fun tg kq_ => castTop (ef_rmShiftn m keys) kq_
  have hd1 : ¬ ((1 : Int32) = (0 : Int32)) := by decide
  obtain ⟨_, _, ⟨T2, L2, k2, n2⟩, -, X2, ⟨Lc2, hQ2, l2, y2, z2⟩, st2⟩ := Jvm.LawKit.callS X0 hx (y := (⟨"java/lang/Long", "numberOfLeadingZeros", "(J)I"⟩ : MethodName)) hown (mvT hZ (hw _ (List.mem_of_getElem? (i := 20) rfl))) (mvT hZ (hw _ (List.mem_of_getElem? (i := 21) rfl))) (mvT hZ (hw _ (List.mem_of_getElem? (i := 22) rfl))) (mvT hZ (hw _ (List.mem_of_getElem? (i := 23) rfl))) (by decide) (backOf (W := 1) (rmNlzL l Z a0 hw [] (keys - (1 : Int64)) (KK - 1) h0 n0 (own_dec keys KK hk h1) (by omega)) hZ (hw _ (List.mem_of_getElem? (i := 23) rfl)) (hw _ (List.mem_of_getElem? (i := 22) rfl)) (by decide) (by decide)) (g := (mkF m 18 #[.val (.long keys), .second, .val (.int (1 : Int32)), .val (.int (1024 : Int32)), .unset] [(.long (keys - (1 : Int64))), (.int (64 : Int32))])) rfl (by rw [hml]; rfl) (argsL := [(.long (keys - (1 : Int64)))]) (rest := [(.int (64 : Int32))]) (lenOf pd_1 rfl) rfl (by show 2 * 0 + _ ≤ _; exact Nat.le_of_eq rfl) (hb hby d3_18) (fun _ _ => ⟨rfl, e0, (by decide : 0 + 0 ≤ _), (by decide : 0 + 0 ≤ _)⟩)
  dsimp only [Pt.U, Pt.locs, Pt.cells, Pt.slots] at X2 l2 y2 z2 st2 hQ2
  subst l2 y2 z2
  obtain ⟨rfl, N2q, e2⟩ := hQ2
  have N2 := Fr.app N0 N2q
  obtain ⟨_, _, ⟨T3, L3, k3, n3⟩, -, X3, ⟨Lc3, hQ3, l3, y3, z3⟩, st3⟩ := Jvm.LawKit.callS X2 hx (y := (⟨"java/lang/Integer", "numberOfTrailingZeros", "(I)I"⟩ : MethodName)) hown (mvT hZ (hw _ (List.mem_of_getElem? (i := 29) rfl))) (mvT hZ (hw _ (List.mem_of_getElem? (i := 30) rfl))) (mvT hZ (hw _ (List.mem_of_getElem? (i := 26) rfl))) (mvT hZ (hw _ (List.mem_of_getElem? (i := 31) rfl))) (by decide) (backOf (W := 0) (rmNtz10 l Z a0 hw []   h0 n0 ) hZ (hw _ (List.mem_of_getElem? (i := 31) rfl)) (hw _ (List.mem_of_getElem? (i := 26) rfl)) (by decide) (by decide)) (g := (mkF m 25 #[.val (.long keys), .second, .val (.int (1 : Int32)), .val (.int (1024 : Int32)), .val (.int (Int32.ofNat (bl (KK - 1))))] [(.int (1024 : Int32))])) rfl (by rw [hml]; rfl) (argsL := [(.int (1024 : Int32))]) (rest := []) (lenOf pd_0 rfl) rfl (by show 2 * 0 + _ ≤ _; exact Nat.le_of_eq rfl) (hb hby d3_25) (fun _ _ => ⟨rfl, e2, (by decide : 0 + 0 ≤ _), (by decide : 0 + 0 ≤ _)⟩)
  dsimp only [Pt.U, Pt.locs, Pt.cells, Pt.slots] at X3 l3 y3 z3 st3 hQ3
  subst l3 y3 z3
  obtain ⟨rfl, N3q, e3⟩ := hQ3
  have N3 := Fr.app N2 N3q
  obtain ⟨_, _, ⟨T4, L4, k4, n4⟩, -, X4, ⟨Lc4, hQ4, l4, y4, z4⟩, st4⟩ := Jvm.LawKit.callS X3 hx (y := (⟨"java/lang/Math", "min", "(II)I"⟩ : MethodName)) hown (mvT hZ (hw _ (List.mem_of_getElem? (i := 32) rfl))) (mvT hZ (hw _ (List.mem_of_getElem? (i := 33) rfl))) (mvT hZ (hw _ (List.mem_of_getElem? (i := 34) rfl))) (mvT hZ (hw _ (List.mem_of_getElem? (i := 35) rfl))) (by decide) (backOf (W := 0) (rmMin l Z a0 hw [] (10 : Int32) (Int32.ofNat (bl (KK - 1)))  h0 n0 ) hZ (hw _ (List.mem_of_getElem? (i := 35) rfl)) (hw _ (List.mem_of_getElem? (i := 34) rfl)) (by decide) (by decide)) (g := (mkF m 30 #[.val (.long keys), .second, .val (.int (1 : Int32)), .val (.int (1024 : Int32)), .val (.int (Int32.ofNat (bl (KK - 1))))] [(.int (Int32.ofNat (bl (KK - 1)))), (.int (10 : Int32))])) rfl (by rw [hml]; rfl) (argsL := [(.int (10 : Int32)), (.int (Int32.ofNat (bl (KK - 1))))]) (rest := []) (lenOf pd_2 rfl) rfl (by show 2 * 0 + _ ≤ _; exact Nat.le_of_eq rfl) (hb hby d3_30) (fun _ _ => ⟨rfl, e3, (by decide : 0 + 0 ≤ _), (by decide : 0 + 0 ≤ _)⟩)
  dsimp only [Pt.U, Pt.locs, Pt.cells, Pt.slots] at X4 l4 y4 z4 st4 hQ4
  subst l4 y4 z4
  obtain ⟨rfl, N4q, e4⟩ := hQ4
  have N4 := Fr.app N3 N4q
  obtain ⟨z5, ez5⟩ : ∃ z : Int32, z = (if (Int32.ofNat (bl (KK - 1))) < (10 : Int32) then (Int32.ofNat (bl (KK - 1))) else (10 : Int32)) := ⟨_, rfl⟩
  have k6 : ∀ tg, Steps p.tables e below (T4.setTop (mkF m 33 #[.val (.long keys), .second, .val (.int (1 : Int32)), .val (.int (1024 : Int32)), .val (.int (Int32.ofNat (bl (KK - 1))))] [(.int z5)])) tg → Steps p.tables e below (s₁.setTop (entryFrame m #[(.long keys), (.int (1 : Int32))] 5)) tg := by
    intro tg kt
    refine k0 tg ?_
    show Steps p.tables e below (s₁.setTop (mkF m 0 #[.val (.long keys), .second, .val (.int (1 : Int32)), .unset, .unset] [])) _
    refine XS.iloadN X0.here hx rfl (hb hby d3_0) rfl ?_
    show Steps p.tables e below (s₁.setTop (mkF m 1 #[.val (.long keys), .second, .val (.int (1 : Int32)), .unset, .unset] [(.int (1 : Int32))])) _
    refine XS.ifNo X0.here hx rfl (hb hby d3_1) rfl ((if0 _ _).trans (feq hd1).1) ?_
    show Steps p.tables e below (s₁.setTop (mkF m 4 #[.val (.long keys), .second, .val (.int (1 : Int32)), .unset, .unset] [])) _
    refine XS.sipush X0.here hx rfl (hb hby d3_4) ?_
    show Steps p.tables e below (s₁.setTop (mkF m 7 #[.val (.long keys), .second, .val (.int (1 : Int32)), .unset, .unset] [(.int (1024 : Int32))])) _
    refine XS.goto X0.here hx rfl (pc0 := 7) (pc' := 12) rfl (hb hby d3_7) (by decide) (by decide) ?_
    show Steps p.tables e below (s₁.setTop (mkF m 12 #[.val (.long keys), .second, .val (.int (1 : Int32)), .unset, .unset] [(.int (1024 : Int32))])) _
    refine XS.istoreN X0.here hx rfl (hb hby d3_12) rfl (l' := #[.val (.long keys), .second, .val (.int (1 : Int32)), .val (.int (1024 : Int32)), .unset]) rfl ?_
    show Steps p.tables e below (s₁.setTop (mkF m 13 #[.val (.long keys), .second, .val (.int (1 : Int32)), .val (.int (1024 : Int32)), .unset] [])) _
    refine XS.bipush X0.here hx rfl (hb hby d3_13) ?_
    show Steps p.tables e below (s₁.setTop (mkF m 15 #[.val (.long keys), .second, .val (.int (1 : Int32)), .val (.int (1024 : Int32)), .unset] [(.int (64 : Int32))])) _
    refine XS.lloadN X0.here hx rfl (hb hby d3_15) rfl ?_
    show Steps p.tables e below (s₁.setTop (mkF m 16 #[.val (.long keys), .second, .val (.int (1 : Int32)), .val (.int (1024 : Int32)), .unset] [(.long keys), (.int (64 : Int32))])) _
    refine XS.lconst X0.here hx rfl (hb hby d3_16) ?_
    show Steps p.tables e below (s₁.setTop (mkF m 17 #[.val (.long keys), .second, .val (.int (1 : Int32)), .val (.int (1024 : Int32)), .unset] [(.long (1 : Int64)), (.long keys), (.int (64 : Int32))])) _
    refine XS.lsub X0.here hx rfl (hb hby d3_17) rfl ?_
    show Steps p.tables e below (s₁.setTop (mkF m 18 #[.val (.long keys), .second, .val (.int (1 : Int32)), .val (.int (1024 : Int32)), .unset] [(.long (keys - (1 : Int64))), (.int (64 : Int32))])) _
    refine st2 _ ?_
    show Steps p.tables e below (T2.setTop (mkF m 21 #[.val (.long keys), .second, .val (.int (1 : Int32)), .val (.int (1024 : Int32)), .unset] [(.int ((32 : Int32) + (Int32.ofNat (32 - bl (KK - 1))))), (.int (64 : Int32))])) _
    refine XS.isub X2.here hx rfl (hb hby d3_21) rfl ?_
    show Steps p.tables e below (T2.setTop (mkF m 22 #[.val (.long keys), .second, .val (.int (1 : Int32)), .val (.int (1024 : Int32)), .unset] [(.int ((64 : Int32) - ((32 : Int32) + (Int32.ofNat (32 - bl (KK - 1))))))])) _
    rw [(own_need (bl (KK - 1)) (own_bl_le (KK - 1) 31 (by omega)))]
    show Steps p.tables e below (T2.setTop (mkF m 22 #[.val (.long keys), .second, .val (.int (1 : Int32)), .val (.int (1024 : Int32)), .unset] [(.int (Int32.ofNat (bl (KK - 1))))])) _
    refine XS.istore X2.here hx rfl (hb hby d3_22) rfl (l' := #[.val (.long keys), .second, .val (.int (1 : Int32)), .val (.int (1024 : Int32)), .val (.int (Int32.ofNat (bl (KK - 1))))]) rfl ?_
    show Steps p.tables e below (T2.setTop (mkF m 24 #[.val (.long keys), .second, .val (.int (1 : Int32)), .val (.int (1024 : Int32)), .val (.int (Int32.ofNat (bl (KK - 1))))] [])) _
    refine XS.iloadN X2.here hx rfl (hb hby d3_24) rfl ?_
    show Steps p.tables e below (T2.setTop (mkF m 25 #[.val (.long keys), .second, .val (.int (1 : Int32)), .val (.int (1024 : Int32)), .val (.int (Int32.ofNat (bl (KK - 1))))] [(.int (1024 : Int32))])) _
    refine st3 _ ?_
    show Steps p.tables e below (T3.setTop (mkF m 28 #[.val (.long keys), .second, .val (.int (1 : Int32)), .val (.int (1024 : Int32)), .val (.int (Int32.ofNat (bl (KK - 1))))] [(.int (10 : Int32))])) _
    refine XS.iload X3.here hx rfl (hb hby d3_28) rfl ?_
    show Steps p.tables e below (T3.setTop (mkF m 30 #[.val (.long keys), .second, .val (.int (1 : Int32)), .val (.int (1024 : Int32)), .val (.int (Int32.ofNat (bl (KK - 1))))] [(.int (Int32.ofNat (bl (KK - 1)))), (.int (10 : Int32))])) _
    refine st4 _ ?_
    show Steps p.tables e below (T4.setTop (mkF m 33 #[.val (.long keys), .second, .val (.int (1 : Int32)), .val (.int (1024 : Int32)), .val (.int (Int32.ofNat (bl (KK - 1))))] [(.int (if (Int32.ofNat (bl (KK - 1))) < (10 : Int32) then (Int32.ofNat (bl (KK - 1))) else (10 : Int32)))])) _
    rw [← ez5]
    show Steps p.tables e below (T4.setTop (mkF m 33 #[.val (.long keys), .second, .val (.int (1 : Int32)), .val (.int (1024 : Int32)), .val (.int (Int32.ofNat (bl (KK - 1))))] [(.int z5)])) _
    exact kt
  obtain ⟨fs, hr, hrun, hended, hW, hsame⟩ := X4.leave (v := some (.int z5)) (fun h => by rw [Bd.returns] at h; cases h)
  refine ⟨_, _, k6 _ ?_, hrun, hended, _, _, rfl, ?_, ⟨_, rfl⟩, hW, hsame.mono (by decide) (by decide)⟩
  · exact retI X4 hx Bd.returns (hb hby d3_33) hr
  · show QV _ h0 n0 _ T4.heap _
    exact ⟨congrArg (fun z => some (Value.int z)) (ez5.trans (own_min 10 _ _ (by decide) (by decide) (Nat.lt_succ_of_le (own_bl_le (KK - 1) 31 (by omega))))), N4, e4⟩
theorem d3_10 : decode prog_121_method_3_code 10 = .ok (.ldc 51, 2) := by decide +kernel
theorem ef_rmShiftb (m : MethodId) (keys : Int64) : entryFrame m #[(.long keys), (.int (0 : Int32))] 5 = mkF m 0 #[.val (.long keys), .second, .val (.int (0 : Int32)), .unset, .unset] [] := by first | (simp [entryFrame, mkF, argsToLocals, Value.category]; done) | rfl
set_option maxRecDepth 65536 in
set_option maxHeartbeats 40000000 in
theorem rmShiftb (l : Launch) (Z : State) (a0 : Array Value) (hw : ∀ d ∈ tables_1, d.before a0 Z = true) (ws : List Jvm.Cond) (keys : Int64) (KK : Nat) (h0 : Heap) (n0 : Nat) (hk : keys.toInt = KK) (h1 : 1 ≤ KK) (h2 : KK ≤ 2 ^ 30) :
    MetFree l (⟨"com/example/parley/parley/core/KeyTable", "pageShift", "(JZ)I"⟩ : MethodName) (head1 (Jvm.Cond.code (⟨"com/example/parley/parley/core/KeyTable", "pageShift", "(JZ)I"⟩ : MethodName) prog_121_method_3_code 5 (some .int) :: ws) ({ frames := 2, cells := 0, slots := 0, locals := 29 } : Room)) (fun a_ U_ => a_ = #[(.long keys), (.int (0 : Int32))] ∧ Z.Warmed39 U_.vm ∧ U_.heap = h0) (fun _ _ _ _ _ => True) (fun _ U_ o_ U'_ => ∃ v_ L_, o_ = .returned v_ ∧ QV (.int (Int32.ofNat (shN 15 KK))) h0 n0 v_ U'_.heap L_ ∧ FrameEnd U_ o_ U'_ L_ ({ frames := 2, cells := 0, slots := 0, locals := 29 } : Room).cells ({ frames := 2, cells := 0, slots := 0, locals := 29 } : Room).slots) := by
  refine MetFree.of_bodySF (plainFor_of_name pn_3) hisR ?_
  intro p e s m args below meth c s₁ Bd hml0 hP hK
  obtain ⟨rfl, hZ, hh⟩ := hP
  have hx := Bd.exec
  have hby := Bd.bytes
  have hml : c.maxLocals = 5 := hml0
  have hown : s.vm.findClass "com/example/parley/parley/core/KeyTable" = some m.cls := findClass_of_methodNamed Bd.named
  have hnm := (name_of_methodNamed Bd.named Bd.method).1
  have X0 : Stand p l e ({ frames := 2, cells := 0, slots := 0, locals := 29 } : Room) s m #[(.long keys), (.int (0 : Int32))] below meth c s₁ [] 0 0 := Stand.of_body Bd
  have e0 : s₁.heap = h0 := by rw [← hh, Bd.state]; rfl
  have N0 := Fr.nil n0
  have k0 : ∀ tg, Steps p.tables e below (s₁.setTop (mkF m 0 #[.val (.long keys), .second, .val (.int (0 : Int32)), .unset, .unset] [])) tg → Steps p.tables e below (s₁.setTop (entryFrame m #[(.long keys), (.int (0 : Int32))] 5)) tg := fun tg kq_ => castTop (ef_rmShiftb m keys) kq_
  have hd1 : (0 : Int32) = (0 : Int32) := rfl
  obtain ⟨_, _, ⟨T2, L2, k2, n2⟩, -, X2, ⟨Lc2, hQ2, l2, y2, z2⟩, st2⟩ := Jvm.LawKit.callS X0 hx (y := (⟨"java/lang/Long", "numberOfLeadingZeros", "(J)I"⟩ : MethodName)) hown (mvT hZ (hw _ (List.mem_of_getElem? (i := 20) rfl))) (mvT hZ (hw _ (List.mem_of_getElem? (i := 21) rfl))) (mvT hZ (hw _ (List.mem_of_getElem? (i := 22) rfl))) (mvT hZ (hw _ (List.mem_of_getElem? (i := 23) rfl))) (by decide) (backOf (W := 1) (rmNlzL l Z a0 hw [] (keys - (1 : Int64)) (KK - 1) h0 n0 (own_dec keys KK hk h1) (by omega)) hZ (hw _ (List.mem_of_getElem? (i := 23) rfl)) (hw _ (List.mem_of_getElem? (i := 22) rfl)) (by decide) (by decide)) (g := (mkF m 18 #[.val (.long keys), .second, .val (.int (0 : Int32)), .val (.int (32768 : Int32)), .unset] [(.long (keys - (1 : Int64))), (.int (64 : Int32))])) rfl (by rw [hml]; rfl) (argsL := [(.long (keys - (1 : Int64)))]) (rest := [(.int (64 : Int32))]) (lenOf pd_1 rfl) rfl (by show 2 * 0 + _ ≤ _; exact Nat.le_of_eq rfl) (hb hby d3_18) (fun _ _ => ⟨rfl, e0, (by decide : 0 + 0 ≤ _), (by decide : 0 + 0 ≤ _)⟩)
  dsimp only [Pt.U, Pt.locs, Pt.cells, Pt.slots] at X2 l2 y2 z2 st2 hQ2
  subst l2 y2 z2
  obtain ⟨rfl, N2q, e2⟩ := hQ2
  have N2 := Fr.app N0 N2q
  obtain ⟨_, _, ⟨T3, L3, k3, n3⟩, -, X3, ⟨Lc3, hQ3, l3, y3, z3⟩, st3⟩ := Jvm.LawKit.callS X2 hx (y := (⟨"java/lang/Integer", "numberOfTrailingZeros", "(I)I"⟩ : MethodName)) hown (mvT hZ (hw _ (List.mem_of_getElem? (i := 29) rfl))) (mvT hZ (hw _ (List.mem_of_getElem? (i := 30) rfl))) (mvT hZ (hw _ (List.mem_of_getElem? (i := 26) rfl))) (mvT hZ (hw _ (List.mem_of_getElem? (i := 31) rfl))) (by decide) (backOf (W := 0) (rmNtz15 l Z a0 hw []   h0 n0 ) hZ (hw _ (List.mem_of_getElem? (i := 31) rfl)) (hw _ (List.mem_of_getElem? (i := 26) rfl)) (by decide) (by decide)) (g := (mkF m 25 #[.val (.long keys), .second, .val (.int (0 : Int32)), .val (.int (32768 : Int32)), .val (.int (Int32.ofNat (bl (KK - 1))))] [(.int (32768 : Int32))])) rfl (by rw [hml]; rfl) (argsL := [(.int (32768 : Int32))]) (rest := []) (lenOf pd_0 rfl) rfl (by show 2 * 0 + _ ≤ _; exact Nat.le_of_eq rfl) (hb hby d3_25) (fun _ _ => ⟨rfl, e2, (by decide : 0 + 0 ≤ _), (by decide : 0 + 0 ≤ _)⟩)
  dsimp only [Pt.U, Pt.locs, Pt.cells, Pt.slots] at X3 l3 y3 z3 st3 hQ3
  subst l3 y3 z3
  obtain ⟨rfl, N3q, e3⟩ := hQ3
  have N3 := Fr.app N2 N3q
  obtain ⟨_, _, ⟨T4, L4, k4, n4⟩, -, X4, ⟨Lc4, hQ4, l4, y4, z4⟩, st4⟩ := Jvm.LawKit.callS X3 hx (y := (⟨"java/lang/Math", "min", "(II)I"⟩ : MethodName)) hown (mvT hZ (hw _ (List.mem_of_getElem? (i := 32) rfl))) (mvT hZ (hw _ (List.mem_of_getElem? (i := 33) rfl))) (mvT hZ (hw _ (List.mem_of_getElem? (i := 34) rfl))) (mvT hZ (hw _ (List.mem_of_getElem? (i := 35) rfl))) (by decide) (backOf (W := 0) (rmMin l Z a0 hw [] (15 : Int32) (Int32.ofNat (bl (KK - 1)))  h0 n0 ) hZ (hw _ (List.mem_of_getElem? (i := 35) rfl)) (hw _ (List.mem_of_getElem? (i := 34) rfl)) (by decide) (by decide)) (g := (mkF m 30 #[.val (.long keys), .second, .val (.int (0 : Int32)), .val (.int (32768 : Int32)), .val (.int (Int32.ofNat (bl (KK - 1))))] [(.int (Int32.ofNat (bl (KK - 1)))), (.int (15 : Int32))])) rfl (by rw [hml]; rfl) (argsL := [(.int (15 : Int32)), (.int (Int32.ofNat (bl (KK - 1))))]) (rest := []) (lenOf pd_2 rfl) rfl (by show 2 * 0 + _ ≤ _; exact Nat.le_of_eq rfl) (hb hby d3_30) (fun _ _ => ⟨rfl, e3, (by decide : 0 + 0 ≤ _), (by decide : 0 + 0 ≤ _)⟩)
  dsimp only [Pt.U, Pt.locs, Pt.cells, Pt.slots] at X4 l4 y4 z4 st4 hQ4
  subst l4 y4 z4
  obtain ⟨rfl, N4q, e4⟩ := hQ4
  have N4 := Fr.app N3 N4q
  obtain ⟨z5, ez5⟩ : ∃ z : Int32, z = (if (Int32.ofNat (bl (KK - 1))) < (15 : Int32) then (Int32.ofNat (bl (KK - 1))) else (15 : Int32)) := ⟨_, rfl⟩
  have k6 : ∀ tg, Steps p.tables e below (T4.setTop (mkF m 33 #[.val (.long keys), .second, .val (.int (0 : Int32)), .val (.int (32768 : Int32)), .val (.int (Int32.ofNat (bl (KK - 1))))] [(.int z5)])) tg → Steps p.tables e below (s₁.setTop (entryFrame m #[(.long keys), (.int (0 : Int32))] 5)) tg := by
    intro tg kt
    refine k0 tg ?_
    show Steps p.tables e below (s₁.setTop (mkF m 0 #[.val (.long keys), .second, .val (.int (0 : Int32)), .unset, .unset] [])) _
    refine XS.iloadN X0.here hx rfl (hb hby d3_0) rfl ?_
    show Steps p.tables e below (s₁.setTop (mkF m 1 #[.val (.long keys), .second, .val (.int (0 : Int32)), .unset, .unset] [(.int (0 : Int32))])) _
    refine XS.ifYes X0.here hx rfl (pc0 := 1) (pc' := 10) rfl (hb hby d3_1) rfl ((if0 _ _).trans (teq hd1).1) (by decide) (by decide) ?_
    show Steps p.tables e below (s₁.setTop (mkF m 10 #[.val (.long keys), .second, .val (.int (0 : Int32)), .unset, .unset] [])) _
    refine X0.ldcInt hx hown (mvT hZ (hw _ (List.mem_of_getElem? (i := 19) rfl))) (g := (mkF m 10 #[.val (.long keys), .second, .val (.int (0 : Int32)), .unset, .unset] [])) rfl (hb hby d3_10) _ ?_
    show Steps p.tables e below (s₁.setTop (mkF m 12 #[.val (.long keys), .second, .val (.int (0 : Int32)), .unset, .unset] [(.int (32768 : Int32))])) _
    refine XS.istoreN X0.here hx rfl (hb hby d3_12) rfl (l' := #[.val (.long keys), .second, .val (.int (0 : Int32)), .val (.int (32768 : Int32)), .unset]) rfl ?_
    show Steps p.tables e below (s₁.setTop (mkF m 13 #[.val (.long keys), .second, .val (.int (0 : Int32)), .val (.int (32768 : Int32)), .unset] [])) _
    refine XS.bipush X0.here hx rfl (hb hby d3_13) ?_
    show Steps p.tables e below (s₁.setTop (mkF m 15 #[.val (.long keys), .second, .val (.int (0 : Int32)), .val (.int (32768 : Int32)), .unset] [(.int (64 : Int32))])) _
    refine XS.lloadN X0.here hx rfl (hb hby d3_15) rfl ?_
    show Steps p.tables e below (s₁.setTop (mkF m 16 #[.val (.long keys), .second, .val (.int (0 : Int32)), .val (.int (32768 : Int32)), .unset] [(.long keys), (.int (64 : Int32))])) _
    refine XS.lconst X0.here hx rfl (hb hby d3_16) ?_
    show Steps p.tables e below (s₁.setTop (mkF m 17 #[.val (.long keys), .second, .val (.int (0 : Int32)), .val (.int (32768 : Int32)), .unset] [(.long (1 : Int64)), (.long keys), (.int (64 : Int32))])) _
    refine XS.lsub X0.here hx rfl (hb hby d3_17) rfl ?_
    show Steps p.tables e below (s₁.setTop (mkF m 18 #[.val (.long keys), .second, .val (.int (0 : Int32)), .val (.int (32768 : Int32)), .unset] [(.long (keys - (1 : Int64))), (.int (64 : Int32))])) _
    refine st2 _ ?_
    show Steps p.tables e below (T2.setTop (mkF m 21 #[.val (.long keys), .second, .val (.int (0 : Int32)), .val (.int (32768 : Int32)), .unset] [(.int ((32 : Int32) + (Int32.ofNat (32 - bl (KK - 1))))), (.int (64 : Int32))])) _
    refine XS.isub X2.here hx rfl (hb hby d3_21) rfl ?_
    show Steps p.tables e below (T2.setTop (mkF m 22 #[.val (.long keys), .second, .val (.int (0 : Int32)), .val (.int (32768 : Int32)), .unset] [(.int ((64 : Int32) - ((32 : Int32) + (Int32.ofNat (32 - bl (KK - 1))))))])) _
    rw [(own_need (bl (KK - 1)) (own_bl_le (KK - 1) 31 (by omega)))]
    show Steps p.tables e below (T2.setTop (mkF m 22 #[.val (.long keys), .second, .val (.int (0 : Int32)), .val (.int (32768 : Int32)), .unset] [(.int (Int32.ofNat (bl (KK - 1))))])) _
    refine XS.istore X2.here hx rfl (hb hby d3_22) rfl (l' := #[.val (.long keys), .second, .val (.int (0 : Int32)), .val (.int (32768 : Int32)), .val (.int (Int32.ofNat (bl (KK - 1))))]) rfl ?_
    show Steps p.tables e below (T2.setTop (mkF m 24 #[.val (.long keys), .second, .val (.int (0 : Int32)), .val (.int (32768 : Int32)), .val (.int (Int32.ofNat (bl (KK - 1))))] [])) _
    refine XS.iloadN X2.here hx rfl (hb hby d3_24) rfl ?_
    show Steps p.tables e below (T2.setTop (mkF m 25 #[.val (.long keys), .second, .val (.int (0 : Int32)), .val (.int (32768 : Int32)), .val (.int (Int32.ofNat (bl (KK - 1))))] [(.int (32768 : Int32))])) _
    refine st3 _ ?_
    show Steps p.tables e below (T3.setTop (mkF m 28 #[.val (.long keys), .second, .val (.int (0 : Int32)), .val (.int (32768 : Int32)), .val (.int (Int32.ofNat (bl (KK - 1))))] [(.int (15 : Int32))])) _
    refine XS.iload X3.here hx rfl (hb hby d3_28) rfl ?_
    show Steps p.tables e below (T3.setTop (mkF m 30 #[.val (.long keys), .second, .val (.int (0 : Int32)), .val (.int (32768 : Int32)), .val (.int (Int32.ofNat (bl (KK - 1))))] [(.int (Int32.ofNat (bl (KK - 1)))), (.int (15 : Int32))])) _
    refine st4 _ ?_
    show Steps p.tables e below (T4.setTop (mkF m 33 #[.val (.long keys), .second, .val (.int (0 : Int32)), .val (.int (32768 : Int32)), .val (.int (Int32.ofNat (bl (KK - 1))))] [(.int (if (Int32.ofNat (bl (KK - 1))) < (15 : Int32) then (Int32.ofNat (bl (KK - 1))) else (15 : Int32)))])) _
    rw [← ez5]
    show Steps p.tables e below (T4.setTop (mkF m 33 #[.val (.long keys), .second, .val (.int (0 : Int32)), .val (.int (32768 : Int32)), .val (.int (Int32.ofNat (bl (KK - 1))))] [(.int z5)])) _
    exact kt
  obtain ⟨fs, hr, hrun, hended, hW, hsame⟩ := X4.leave (v := some (.int z5)) (fun h => by rw [Bd.returns] at h; cases h)
  refine ⟨_, _, k6 _ ?_, hrun, hended, _, _, rfl, ?_, ⟨_, rfl⟩, hW, hsame.mono (by decide) (by decide)⟩
  · exact retI X4 hx Bd.returns (hb hby d3_33) hr
  · show QV _ h0 n0 _ T4.heap _
    exact ⟨congrArg (fun z => some (Value.int z)) (ez5.trans (own_min 15 _ _ (by decide) (by decide) (Nat.lt_succ_of_le (own_bl_le (KK - 1) 31 (by omega))))), N4, e4⟩
theorem d8_0 : decode prog_121_method_6_code 0 = .ok (.lconst 1, 1) := by decide +kernel
theorem d8_1 : decode prog_121_method_6_code 1 = .ok (.lload_n 0, 1) := by decide +kernel
theorem d8_2 : decode prog_121_method_6_code 2 = .ok (.bipush 6, 2) := by decide +kernel
theorem d8_4 : decode prog_121_method_6_code 4 = .ok (.lushr, 1) := by decide +kernel
theorem d8_5 : decode prog_121_method_6_code 5 = .ok (.invokestatic 73, 3) := by decide +kernel
theorem d8_8 : decode prog_121_method_6_code 8 = .ok (.l2i, 1) := by decide +kernel
theorem d8_9 : decode prog_121_method_6_code 9 = .ok (.ireturn, 1) := by decide +kernel
theorem pn_8 : plainName "com/example/parley/parley/core/KeyTable" = true := by first | (simp [plainName, overriddenIn]; done) | decide +kernel
theorem pd_3 : parseMethodDescriptor "(JJ)J" = some ⟨[.long, .long], some .long⟩ := by decide +kernel
theorem ef_rmWords (m : MethodId) (k : Int64) : entryFrame m #[(.long k)] 2 = mkF m 0 #[.val (.long k), .second] [] := by first | (simp [entryFrame, mkF, argsToLocals, Value.category]; done) | rfl
set_option maxRecDepth 65536 in
set_option maxHeartbeats 40000000 in
theorem rmWords (l : Launch) (Z : State) (a0 : Array Value) (hw : ∀ d ∈ tables_1, d.before a0 Z = true) (ws : List Jvm.Cond) (k : Int64) (S : Nat) (h0 : Heap) (n0 : Nat) (hk : k = (Int32.ofNat (2 ^ S)).toInt64) (hS : S ≤ 15) :
    MetFree l (⟨"com/example/parley/parley/core/KeyTable", "wordsOf", "(J)I"⟩ : MethodName) (head1 (Jvm.Cond.code (⟨"com/example/parley/parley/core/KeyTable", "wordsOf", "(J)I"⟩ : MethodName) prog_121_method_6_code 2 (some .int) :: ws) ({ frames := 1, cells := 0, slots := 0, locals := 15 } : Room)) (fun a_ U_ => a_ = #[(.long k)] ∧ Z.Warmed39 U_.vm ∧ U_.heap = h0) (fun _ _ _ _ _ => True) (fun _ U_ o_ U'_ => ∃ v_ L_, o_ = .returned v_ ∧ QV (.int (Int32.ofNat (max 1 (2 ^ S / 64)))) h0 n0 v_ U'_.heap L_ ∧ FrameEnd U_ o_ U'_ L_ ({ frames := 1, cells := 0, slots := 0, locals := 15 } : Room).cells ({ frames := 1, cells := 0, slots := 0, locals := 15 } : Room).slots) := by
  refine MetFree.of_bodySF (plainFor_of_name pn_8) hisR ?_
  intro p e s m args below meth c s₁ Bd hml0 hP hK
  obtain ⟨rfl, hZ, hh⟩ := hP
  have hx := Bd.exec
  have hby := Bd.bytes
  have hml : c.maxLocals = 2 := hml0
  have hown : s.vm.findClass "com/example/parley/parley/core/KeyTable" = some m.cls := findClass_of_methodNamed Bd.named
  have hnm := (name_of_methodNamed Bd.named Bd.method).1
  have X0 : Stand p l e ({ frames := 1, cells := 0, slots := 0, locals := 15 } : Room) s m #[(.long k)] below meth c s₁ [] 0 0 := Stand.of_body Bd
  have e0 : s₁.heap = h0 := by rw [← hh, Bd.state]; rfl
  have N0 := Fr.nil n0
  have k0 : ∀ tg, Steps p.tables e below (s₁.setTop (mkF m 0 #[.val (.long k), .second] [])) tg → Steps p.tables e below (s₁.setTop (entryFrame m #[(.long k)] 2)) tg := fun tg kq_ => castTop (ef_rmWords m k) kq_
  obtain ⟨_, _, ⟨T1, L1, k1, n1⟩, -, X1, ⟨Lc1, hQ1, l1, y1, z1⟩, st1⟩ := Jvm.LawKit.callS X0 hx (y := (⟨"java/lang/Math", "max", "(JJ)J"⟩ : MethodName)) hown (mvT hZ (hw _ (List.mem_of_getElem? (i := 43) rfl))) (mvT hZ (hw _ (List.mem_of_getElem? (i := 44) rfl))) (mvT hZ (hw _ (List.mem_of_getElem? (i := 34) rfl))) (mvT hZ (hw _ (List.mem_of_getElem? (i := 45) rfl))) (by decide) (backOf (W := 0) (rmMaxL l Z a0 hw [] (1 : Int64) ((k.toUInt64 >>> ((6 : Int32) &&& 0x3f).toInt64.toUInt64).toInt64)  h0 n0 ) hZ (hw _ (List.mem_of_getElem? (i := 45) rfl)) (hw _ (List.mem_of_getElem? (i := 34) rfl)) (by decide) (by decide)) (g := (mkF m 5 #[.val (.long k), .second] [(.long ((k.toUInt64 >>> ((6 : Int32) &&& 0x3f).toInt64.toUInt64).toInt64)), (.long (1 : Int64))])) rfl (by rw [hml]; rfl) (argsL := [(.long (1 : Int64)), (.long ((k.toUInt64 >>> ((6 : Int32) &&& 0x3f).toInt64.toUInt64).toInt64))]) (rest := []) (lenOf pd_3 rfl) rfl (by show 2 * 0 + _ ≤ _; exact Nat.le_of_eq rfl) (hb hby d8_5) (fun _ _ => ⟨rfl, e0, (by decide : 0 + 0 ≤ _), (by decide : 0 + 0 ≤ _)⟩)
  dsimp only [Pt.U, Pt.locs, Pt.cells, Pt.slots] at X1 l1 y1 z1 st1 hQ1
  subst l1 y1 z1
  obtain ⟨rfl, N1q, e1⟩ := hQ1
  have N1 := Fr.app N0 N1q
  obtain ⟨z2, ez2⟩ : ∃ z : Int64, z = (if (1 : Int64) < ((k.toUInt64 >>> ((6 : Int32) &&& 0x3f).toInt64.toUInt64).toInt64) then ((k.toUInt64 >>> ((6 : Int32) &&& 0x3f).toInt64.toUInt64).toInt64) else (1 : Int64)) := ⟨_, rfl⟩
  have k3 : ∀ tg, Steps p.tables e below (T1.setTop (mkF m 9 #[.val (.long k), .second] [(.int (z2.toInt32))])) tg → Steps p.tables e below (s₁.setTop (entryFrame m #[(.long k)] 2)) tg := by
    intro tg kt
    refine k0 tg ?_
    show Steps p.tables e below (s₁.setTop (mkF m 0 #[.val (.long k), .second] [])) _
    refine XS.lconst X0.here hx rfl (hb hby d8_0) ?_
    show Steps p.tables e below (s₁.setTop (mkF m 1 #[.val (.long k), .second] [(.long (1 : Int64))])) _
    refine XS.lloadN X0.here hx rfl (hb hby d8_1) rfl ?_
    show Steps p.tables e below (s₁.setTop (mkF m 2 #[.val (.long k), .second] [(.long k), (.long (1 : Int64))])) _
    refine XS.bipush X0.here hx rfl (hb hby d8_2) ?_
    show Steps p.tables e below (s₁.setTop (mkF m 4 #[.val (.long k), .second] [(.int (6 : Int32)), (.long k), (.long (1 : Int64))])) _
    refine XS.lushr X0.here hx rfl (hb hby d8_4) rfl ?_
    show Steps p.tables e below (s₁.setTop (mkF m 5 #[.val (.long k), .second] [(.long ((k.toUInt64 >>> ((6 : Int32) &&& 0x3f).toInt64.toUInt64).toInt64)), (.long (1 : Int64))])) _
    refine st1 _ ?_
    show Steps p.tables e below (T1.setTop (mkF m 8 #[.val (.long k), .second] [(.long (if (1 : Int64) < ((k.toUInt64 >>> ((6 : Int32) &&& 0x3f).toInt64.toUInt64).toInt64) then ((k.toUInt64 >>> ((6 : Int32) &&& 0x3f).toInt64.toUInt64).toInt64) else (1 : Int64)))])) _
    rw [← ez2]
    show Steps p.tables e below (T1.setTop (mkF m 8 #[.val (.long k), .second] [(.long z2)])) _
    refine XS.l2i X1.here hx rfl (hb hby d8_8) rfl ?_
    show Steps p.tables e below (T1.setTop (mkF m 9 #[.val (.long k), .second] [(.int (z2.toInt32))])) _
    exact kt
  obtain ⟨fs, hr, hrun, hended, hW, hsame⟩ := X1.leave (v := some (.int (z2.toInt32))) (fun h => by rw [Bd.returns] at h; cases h)
  refine ⟨_, _, k3 _ ?_, hrun, hended, _, _, rfl, ?_, ⟨_, rfl⟩, hW, hsame.mono (by decide) (by decide)⟩
  · exact retI X1 hx Bd.returns (hb hby d8_9) hr
  · show QV _ h0 n0 _ T1.heap _
    exact ⟨congrArg (fun z => some (Value.int z)) (by rw [ez2, hk]; exact own_words S hS), N1, e1⟩
theorem d10_0 : decode prog_121_method_4_code 0 = .ok (.lload_n 0, 1) := by decide +kernel
theorem d10_1 : decode prog_121_method_4_code 1 = .ok (.iload_n 2, 1) := by decide +kernel
theorem d10_2 : decode prog_121_method_4_code 2 = .ok (.invokestatic 13, 3) := by decide +kernel
theorem d10_5 : decode prog_121_method_4_code 5 = .ok (.istore_n 3, 1) := by decide +kernel
theorem d10_6 : decode prog_121_method_4_code 6 = .ok (.lload_n 0, 1) := by decide +kernel
theorem d10_7 : decode prog_121_method_4_code 7 = .ok (.lconst 1, 1) := by decide +kernel
theorem d10_8 : decode prog_121_method_4_code 8 = .ok (.iload_n 3, 1) := by decide +kernel
theorem d10_9 : decode prog_121_method_4_code 9 = .ok (.lshl, 1) := by decide +kernel
theorem d10_10 : decode prog_121_method_4_code 10 = .ok (.ladd, 1) := by decide +kernel
theorem d10_11 : decode prog_121_method_4_code 11 = .ok (.lconst 1, 1) := by decide +kernel
theorem d10_12 : decode prog_121_method_4_code 12 = .ok (.lsub, 1) := by decide +kernel
theorem d10_13 : decode prog_121_method_4_code 13 = .ok (.iload_n 3, 1) := by decide +kernel
theorem d10_14 : decode prog_121_method_4_code 14 = .ok (.lushr, 1) := by decide +kernel
theorem d10_15 : decode prog_121_method_4_code 15 = .ok (.l2i, 1) := by decide +kernel
theorem d10_16 : decode prog_121_method_4_code 16 = .ok (.ireturn, 1) := by decide +kernel
theorem pn_10 : plainName "com/example/parley/parley/core/KeyTable" = true := by first | (simp [plainName, overriddenIn]; done) | decide +kernel
theorem pd_4 : parseMethodDescriptor "(JZ)I" = some ⟨[.long, .boolean], some .int⟩ := by decide +kernel
theorem ef_rmCountn (m : MethodId) (keys : Int64) : entryFrame m #[(.long keys), (.int (1 : Int32))] 4 = mkF m 0 #[.val (.long keys), .second, .val (.int (1 : Int32)), .unset] [] := by first | (simp [entryFrame, mkF, argsToLocals, Value.category]; done) | rfl
set_option maxRecDepth 65536 in
set_option maxHeartbeats 40000000 in
theorem rmCountn (l : Launch) (Z : State) (a0 : Array Value) (hw : ∀ d ∈ tables_1, d.before a0 Z = true) (ws : List Jvm.Cond) (keys : Int64) (KK : Nat) (h0 : Heap) (n0 : Nat) (hk : keys.toInt = KK) (h1 : 1 ≤ KK) (h2 : KK ≤ 2 ^ 30) :
    MetFree l (⟨"com/example/parley/parley/core/KeyTable", "pageCount", "(JZ)I"⟩ : MethodName) (head1 (Jvm.Cond.code (⟨"com/example/parley/parley/core/KeyTable", "pageCount", "(JZ)I"⟩ : MethodName) prog_121_method_4_code 4 (some .int) :: ws) ({ frames := 3, cells := 0, slots := 0, locals := 45 } : Room)) (fun a_ U_ => a_ = #[(.long keys), (.int (1 : Int32))] ∧ Z.Warmed39 U_.vm ∧ U_.heap = h0) (fun _ _ _ _ _ => True) (fun _ U_ o_ U'_ => ∃ v_ L_, o_ = .returned v_ ∧ QV (.int (Int32.ofNat (npN 10 KK))) h0 n0 v_ U'_.heap L_ ∧ FrameEnd U_ o_ U'_ L_ ({ frames := 3, cells := 0, slots := 0, locals := 45 } : Room).cells ({ frames := 3, cells := 0, slots := 0, locals := 45 } : Room).slots) := by
  refine MetFree.of_bodySF (plainFor_of_name pn_10) hisR ?_
  intro p e s m args below meth c s₁ Bd hml0 hP hK
  obtain ⟨rfl, hZ, hh⟩ := hP
  have hx := Bd.exec
  have hby := Bd.bytes
  have hml : c.maxLocals = 4 := hml0
  have hown : s.vm.findClass "com/example/parley/parley/core/KeyTable" = some m.cls := findClass_of_methodNamed Bd.named
  have hnm := (name_of_methodNamed Bd.named Bd.method).1
  have X0 : Stand p l e ({ frames := 3, cells := 0, slots := 0, locals := 45 } : Room) s m #[(.long keys), (.int (1 : Int32))] below meth c s₁ [] 0 0 := Stand.of_body Bd
  have e0 : s₁.heap = h0 := by rw [← hh, Bd.state]; rfl
  have N0 := Fr.nil n0
  have k0 : ∀ tg, Steps p.tables e below (s₁.setTop (mkF m 0 #[.val (.long keys), .second, .val (.int (1 : Int32)), .unset] [])) tg → Steps p.tables e below (s₁.setTop (entryFrame m #[(.long keys), (.int (1 : Int32))] 4)) tg := fun tg kq_ => castTop (ef_rmCountn m keys) kq_
  obtain ⟨_, _, ⟨T1, L1, k1, n1⟩, -, X1, ⟨Lc1, hQ1, l1, y1, z1⟩, st1⟩ := Jvm.LawKit.callS X0 hx (y := (⟨"com/example/parley/parley/core/KeyTable", "pageShift", "(JZ)I"⟩ : MethodName)) hown (mvT hZ (hw _ (List.mem_of_getElem? (i := 16) rfl))) (mvT hZ (hw _ (List.mem_of_getElem? (i := 17) rfl))) (mvT hZ (hw _ (List.mem_of_getElem? (i := 7) rfl))) (mvT hZ (hw _ (List.mem_of_getElem? (i := 18) rfl))) (by decide) (backOf (W := 0) (rmShiftn l Z a0 hw [] keys KK h0 n0 hk h1 h2) hZ (hw _ (List.mem_of_getElem? (i := 18) rfl)) (hw _ (List.mem_of_getElem? (i := 7) rfl)) (by decide) (by decide)) (g := (mkF m 2 #[.val (.long keys), .second, .val (.int (1 : Int32)), .unset] [(.int (1 : Int32)), (.long keys)])) rfl (by rw [hml]; rfl) (argsL := [(.long keys), (.int (1 : Int32))]) (rest := []) (lenOf pd_4 rfl) rfl (by show 2 * 0 + _ ≤ _; exact Nat.le_of_eq rfl) (hb hby d10_2) (fun _ _ => ⟨rfl, e0, (by decide : 0 + 0 ≤ _), (by decide : 0 + 0 ≤ _)⟩)
  dsimp only [Pt.U, Pt.locs, Pt.cells, Pt.slots] at X1 l1 y1 z1 st1 hQ1
  subst l1 y1 z1
  obtain ⟨rfl, N1q, e1⟩ := hQ1
  have N1 := Fr.app N0 N1q
  have k2 : ∀ tg, Steps p.tables e below (T1.setTop (mkF m 16 #[.val (.long keys), .second, .val (.int (1 : Int32)), .val (.int (Int32.ofNat (shN 10 KK)))] [(.int (((((keys + ((1 : Int64) <<< ((Int32.ofNat (shN 10 KK)) &&& 0x3f).toInt64)) - (1 : Int64)).toUInt64 >>> ((Int32.ofNat (shN 10 KK)) &&& 0x3f).toInt64.toUInt64).toInt64).toInt32))])) tg → Steps p.tables e below (s₁.setTop (entryFrame m #[(.long keys), (.int (1 : Int32))] 4)) tg := by
    intro tg kt
    refine k0 tg ?_
    show Steps p.tables e below (s₁.setTop (mkF m 0 #[.val (.long keys), .second, .val (.int (1 : Int32)), .unset] [])) _
    refine XS.lloadN X0.here hx rfl (hb hby d10_0) rfl ?_
    show Steps p.tables e below (s₁.setTop (mkF m 1 #[.val (.long keys), .second, .val (.int (1 : Int32)), .unset] [(.long keys)])) _
    refine XS.iloadN X0.here hx rfl (hb hby d10_1) rfl ?_
    show Steps p.tables e below (s₁.setTop (mkF m 2 #[.val (.long keys), .second, .val (.int (1 : Int32)), .unset] [(.int (1 : Int32)), (.long keys)])) _
    refine st1 _ ?_
    show Steps p.tables e below (T1.setTop (mkF m 5 #[.val (.long keys), .second, .val (.int (1 : Int32)), .unset] [(.int (Int32.ofNat (shN 10 KK)))])) _
    refine XS.istoreN X1.here hx rfl (hb hby d10_5) rfl (l' := #[.val (.long keys), .second, .val (.int (1 : Int32)), .val (.int (Int32.ofNat (shN 10 KK)))]) rfl ?_
    show Steps p.tables e below (T1.setTop (mkF m 6 #[.val (.long keys), .second, .val (.int (1 : Int32)), .val (.int (Int32.ofNat (shN 10 KK)))] [])) _
    refine XS.lloadN X1.here hx rfl (hb hby d10_6) rfl ?_
    show Steps p.tables e below (T1.setTop (mkF m 7 #[.val (.long keys), .second, .val (.int (1 : Int32)), .val (.int (Int32.ofNat (shN 10 KK)))] [(.long keys)])) _
    refine XS.lconst X1.here hx rfl (hb hby d10_7) ?_
    show Steps p.tables e below (T1.setTop (mkF m 8 #[.val (.long keys), .second, .val (.int (1 : Int32)), .val (.int (Int32.ofNat (shN 10 KK)))] [(.long (1 : Int64)), (.long keys)])) _
    refine XS.iloadN X1.here hx rfl (hb hby d10_8) rfl ?_
    show Steps p.tables e below (T1.setTop (mkF m 9 #[.val (.long keys), .second, .val (.int (1 : Int32)), .val (.int (Int32.ofNat (shN 10 KK)))] [(.int (Int32.ofNat (shN 10 KK))), (.long (1 : Int64)), (.long keys)])) _
    refine XS.lshl X1.here hx rfl (hb hby d10_9) rfl ?_
    show Steps p.tables e below (T1.setTop (mkF m 10 #[.val (.long keys), .second, .val (.int (1 : Int32)), .val (.int (Int32.ofNat (shN 10 KK)))] [(.long ((1 : Int64) <<< ((Int32.ofNat (shN 10 KK)) &&& 0x3f).toInt64)), (.long keys)])) _
    refine XS.ladd X1.here hx rfl (hb hby d10_10) rfl ?_
    show Steps p.tables e below (T1.setTop (mkF m 11 #[.val (.long keys), .second, .val (.int (1 : Int32)), .val (.int (Int32.ofNat (shN 10 KK)))] [(.long (keys + ((1 : Int64) <<< ((Int32.ofNat (shN 10 KK)) &&& 0x3f).toInt64)))])) _
    refine XS.lconst X1.here hx rfl (hb hby d10_11) ?_
    show Steps p.tables e below (T1.setTop (mkF m 12 #[.val (.long keys), .second, .val (.int (1 : Int32)), .val (.int (Int32.ofNat (shN 10 KK)))] [(.long (1 : Int64)), (.long (keys + ((1 : Int64) <<< ((Int32.ofNat (shN 10 KK)) &&& 0x3f).toInt64)))])) _
    refine XS.lsub X1.here hx rfl (hb hby d10_12) rfl ?_
    show Steps p.tables e below (T1.setTop (mkF m 13 #[.val (.long keys), .second, .val (.int (1 : Int32)), .val (.int (Int32.ofNat (shN 10 KK)))] [(.long ((keys + ((1 : Int64) <<< ((Int32.ofNat (shN 10 KK)) &&& 0x3f).toInt64)) - (1 : Int64)))])) _
    refine XS.iloadN X1.here hx rfl (hb hby d10_13) rfl ?_
    show Steps p.tables e below (T1.setTop (mkF m 14 #[.val (.long keys), .second, .val (.int (1 : Int32)), .val (.int (Int32.ofNat (shN 10 KK)))] [(.int (Int32.ofNat (shN 10 KK))), (.long ((keys + ((1 : Int64) <<< ((Int32.ofNat (shN 10 KK)) &&& 0x3f).toInt64)) - (1 : Int64)))])) _
    refine XS.lushr X1.here hx rfl (hb hby d10_14) rfl ?_
    show Steps p.tables e below (T1.setTop (mkF m 15 #[.val (.long keys), .second, .val (.int (1 : Int32)), .val (.int (Int32.ofNat (shN 10 KK)))] [(.long ((((keys + ((1 : Int64) <<< ((Int32.ofNat (shN 10 KK)) &&& 0x3f).toInt64)) - (1 : Int64)).toUInt64 >>> ((Int32.ofNat (shN 10 KK)) &&& 0x3f).toInt64.toUInt64).toInt64))])) _
    refine XS.l2i X1.here hx rfl (hb hby d10_15) rfl ?_
    show Steps p.tables e below (T1.setTop (mkF m 16 #[.val (.long keys), .second, .val (.int (1 : Int32)), .val (.int (Int32.ofNat (shN 10 KK)))] [(.int (((((keys + ((1 : Int64) <<< ((Int32.ofNat (shN 10 KK)) &&& 0x3f).toInt64)) - (1 : Int64)).toUInt64 >>> ((Int32.ofNat (shN 10 KK)) &&& 0x3f).toInt64.toUInt64).toInt64).toInt32))])) _
    exact kt
  obtain ⟨fs, hr, hrun, hended, hW, hsame⟩ := X1.leave (v := some (.int (((((keys + ((1 : Int64) <<< ((Int32.ofNat (shN 10 KK)) &&& 0x3f).toInt64)) - (1 : Int64)).toUInt64 >>> ((Int32.ofNat (shN 10 KK)) &&& 0x3f).toInt64.toUInt64).toInt64).toInt32))) (fun h => by rw [Bd.returns] at h; cases h)
  refine ⟨_, _, k2 _ ?_, hrun, hended, _, _, rfl, ?_, ⟨_, rfl⟩, hW, hsame.mono (by decide) (by decide)⟩
  · exact retI X1 hx Bd.returns (hb hby d10_16) hr
  · show QV _ h0 n0 _ T1.heap _
    exact ⟨congrArg (fun z => some (Value.int z)) (own_count keys KK (shN 10 KK) hk h1 h2 (Nat.le_trans (own_sh_lt 10 KK) (by decide))), N1, e1⟩
theorem ef_rmCountb (m : MethodId) (keys : Int64) : entryFrame m #[(.long keys), (.int (0 : Int32))] 4 = mkF m 0 #[.val (.long keys), .second, .val (.int (0 : Int32)), .unset] [] := by first | (simp [entryFrame, mkF, argsToLocals, Value.category]; done) | rfl
set_option maxRecDepth 65536 in
set_option maxHeartbeats 40000000 in
theorem rmCountb (l : Launch) (Z : State) (a0 : Array Value) (hw : ∀ d ∈ tables_1, d.before a0 Z = true) (ws : List Jvm.Cond) (keys : Int64) (KK : Nat) (h0 : Heap) (n0 : Nat) (hk : keys.toInt = KK) (h1 : 1 ≤ KK) (h2 : KK ≤ 2 ^ 30) :
    MetFree l (⟨"com/example/parley/parley/core/KeyTable", "pageCount", "(JZ)I"⟩ : MethodName) (head1 (Jvm.Cond.code (⟨"com/example/parley/parley/core/KeyTable", "pageCount", "(JZ)I"⟩ : MethodName) prog_121_method_4_code 4 (some .int) :: ws) ({ frames := 3, cells := 0, slots := 0, locals := 45 } : Room)) (fun a_ U_ => a_ = #[(.long keys), (.int (0 : Int32))] ∧ Z.Warmed39 U_.vm ∧ U_.heap = h0) (fun _ _ _ _ _ => True) (fun _ U_ o_ U'_ => ∃ v_ L_, o_ = .returned v_ ∧ QV (.int (Int32.ofNat (npN 15 KK))) h0 n0 v_ U'_.heap L_ ∧ FrameEnd U_ o_ U'_ L_ ({ frames := 3, cells := 0, slots := 0, locals := 45 } : Room).cells ({ frames := 3, cells := 0, slots := 0, locals := 45 } : Room).slots) := by
  refine MetFree.of_bodySF (plainFor_of_name pn_10) hisR ?_
  intro p e s m args below meth c s₁ Bd hml0 hP hK
  obtain ⟨rfl, hZ, hh⟩ := hP
  have hx := Bd.exec
  have hby := Bd.bytes
  have hml : c.maxLocals = 4 := hml0
  have hown : s.vm.findClass "com/example/parley/parley/core/KeyTable" = some m.cls := findClass_of_methodNamed Bd.named
  have hnm := (name_of_methodNamed Bd.named Bd.method).1
  have X0 : Stand p l e ({ frames := 3, cells := 0, slots := 0, locals := 45 } : Room) s m #[(.long keys), (.int (0 : Int32))] below meth c s₁ [] 0 0 := Stand.of_body Bd
  have e0 : s₁.heap = h0 := by rw [← hh, Bd.state]; rfl
  have N0 := Fr.nil n0
  have k0 : ∀ tg, Steps p.tables e below (s₁.setTop (mkF m 0 #[.val (.long keys), .second, .val (.int (0 : Int32)), .unset] [])) tg → Steps p.tables e below (s₁.setTop (entryFrame m #[(.long keys), (.int (0 : Int32))] 4)) tg := fun tg kq_ => castTop (ef_rmCountb m keys) kq_
  obtain ⟨_, _, ⟨T1, L1, k1, n1⟩, -, X1, ⟨Lc1, hQ1, l1, y1, z1⟩, st1⟩ := Jvm.LawKit.callS X0 hx (y := (⟨"com/example/parley/parley/core/KeyTable", "pageShift", "(JZ)I"⟩ : MethodName)) hown (mvT hZ (hw _ (List.mem_of_getElem? (i := 16) rfl))) (mvT hZ (hw _ (List.mem_of_getElem? (i := 17) rfl))) (mvT hZ (hw _ (List.mem_of_getElem? (i := 7) rfl))) (mvT hZ (hw _ (List.mem_of_getElem? (i := 18) rfl))) (by decide) (backOf (W := 0) (rmShiftb l Z a0 hw [] keys KK h0 n0 hk h1 h2) hZ (hw _ (List.mem_of_getElem? (i := 18) rfl)) (hw _ (List.mem_of_getElem? (i := 7) rfl)) (by decide) (by decide)) (g := (mkF m 2 #[.val (.long keys), .second, .val (.int (0 : Int32)), .unset] [(.int (0 : Int32)), (.long keys)])) rfl (by rw [hml]; rfl) (argsL := [(.long keys), (.int (0 : Int32))]) (rest := []) (lenOf pd_4 rfl) rfl (by show 2 * 0 + _ ≤ _; exact Nat.le_of_eq rfl) (hb hby d10_2) (fun _ _ => ⟨rfl, e0, (by decide : 0 + 0 ≤ _), (by decide : 0 + 0 ≤ _)⟩)
  dsimp only [Pt.U, Pt.locs, Pt.cells, Pt.slots] at X1 l1 y1 z1 st1 hQ1
  subst l1 y1 z1
  obtain ⟨rfl, N1q, e1⟩ := hQ1
  have N1 := Fr.app N0 N1q
  have k2 : ∀ tg, Steps p.tables e below (T1.setTop (mkF m 16 #[.val (.long keys), .second, .val (.int (0 : Int32)), .val (.int (Int32.ofNat (shN 15 KK)))] [(.int (((((keys + ((1 : Int64) <<< ((Int32.ofNat (shN 15 KK)) &&& 0x3f).toInt64)) - (1 : Int64)).toUInt64 >>> ((Int32.ofNat (shN 15 KK)) &&& 0x3f).toInt64.toUInt64).toInt64).toInt32))])) tg → Steps p.tables e below (s₁.setTop (entryFrame m #[(.long keys), (.int (0 : Int32))] 4)) tg := by
    intro tg kt
    refine k0 tg ?_
    show Steps p.tables e below (s₁.setTop (mkF m 0 #[.val (.long keys), .second, .val (.int (0 : Int32)), .unset] [])) _
    refine XS.lloadN X0.here hx rfl (hb hby d10_0) rfl ?_
    show Steps p.tables e below (s₁.setTop (mkF m 1 #[.val (.long keys), .second, .val (.int (0 : Int32)), .unset] [(.long keys)])) _
    refine XS.iloadN X0.here hx rfl (hb hby d10_1) rfl ?_
    show Steps p.tables e below (s₁.setTop (mkF m 2 #[.val (.long keys), .second, .val (.int (0 : Int32)), .unset] [(.int (0 : Int32)), (.long keys)])) _
    refine st1 _ ?_
    show Steps p.tables e below (T1.setTop (mkF m 5 #[.val (.long keys), .second, .val (.int (0 : Int32)), .unset] [(.int (Int32.ofNat (shN 15 KK)))])) _
    refine XS.istoreN X1.here hx rfl (hb hby d10_5) rfl (l' := #[.val (.long keys), .second, .val (.int (0 : Int32)), .val (.int (Int32.ofNat (shN 15 KK)))]) rfl ?_
    show Steps p.tables e below (T1.setTop (mkF m 6 #[.val (.long keys), .second, .val (.int (0 : Int32)), .val (.int (Int32.ofNat (shN 15 KK)))] [])) _
    refine XS.lloadN X1.here hx rfl (hb hby d10_6) rfl ?_
    show Steps p.tables e below (T1.setTop (mkF m 7 #[.val (.long keys), .second, .val (.int (0 : Int32)), .val (.int (Int32.ofNat (shN 15 KK)))] [(.long keys)])) _
    refine XS.lconst X1.here hx rfl (hb hby d10_7) ?_
    show Steps p.tables e below (T1.setTop (mkF m 8 #[.val (.long keys), .second, .val (.int (0 : Int32)), .val (.int (Int32.ofNat (shN 15 KK)))] [(.long (1 : Int64)), (.long keys)])) _
    refine XS.iloadN X1.here hx rfl (hb hby d10_8) rfl ?_
    show Steps p.tables e below (T1.setTop (mkF m 9 #[.val (.long keys), .second, .val (.int (0 : Int32)), .val (.int (Int32.ofNat (shN 15 KK)))] [(.int (Int32.ofNat (shN 15 KK))), (.long (1 : Int64)), (.long keys)])) _
    refine XS.lshl X1.here hx rfl (hb hby d10_9) rfl ?_
    show Steps p.tables e below (T1.setTop (mkF m 10 #[.val (.long keys), .second, .val (.int (0 : Int32)), .val (.int (Int32.ofNat (shN 15 KK)))] [(.long ((1 : Int64) <<< ((Int32.ofNat (shN 15 KK)) &&& 0x3f).toInt64)), (.long keys)])) _
    refine XS.ladd X1.here hx rfl (hb hby d10_10) rfl ?_
    show Steps p.tables e below (T1.setTop (mkF m 11 #[.val (.long keys), .second, .val (.int (0 : Int32)), .val (.int (Int32.ofNat (shN 15 KK)))] [(.long (keys + ((1 : Int64) <<< ((Int32.ofNat (shN 15 KK)) &&& 0x3f).toInt64)))])) _
    refine XS.lconst X1.here hx rfl (hb hby d10_11) ?_
    show Steps p.tables e below (T1.setTop (mkF m 12 #[.val (.long keys), .second, .val (.int (0 : Int32)), .val (.int (Int32.ofNat (shN 15 KK)))] [(.long (1 : Int64)), (.long (keys + ((1 : Int64) <<< ((Int32.ofNat (shN 15 KK)) &&& 0x3f).toInt64)))])) _
    refine XS.lsub X1.here hx rfl (hb hby d10_12) rfl ?_
    show Steps p.tables e below (T1.setTop (mkF m 13 #[.val (.long keys), .second, .val (.int (0 : Int32)), .val (.int (Int32.ofNat (shN 15 KK)))] [(.long ((keys + ((1 : Int64) <<< ((Int32.ofNat (shN 15 KK)) &&& 0x3f).toInt64)) - (1 : Int64)))])) _
    refine XS.iloadN X1.here hx rfl (hb hby d10_13) rfl ?_
    show Steps p.tables e below (T1.setTop (mkF m 14 #[.val (.long keys), .second, .val (.int (0 : Int32)), .val (.int (Int32.ofNat (shN 15 KK)))] [(.int (Int32.ofNat (shN 15 KK))), (.long ((keys + ((1 : Int64) <<< ((Int32.ofNat (shN 15 KK)) &&& 0x3f).toInt64)) - (1 : Int64)))])) _
    refine XS.lushr X1.here hx rfl (hb hby d10_14) rfl ?_
    show Steps p.tables e below (T1.setTop (mkF m 15 #[.val (.long keys), .second, .val (.int (0 : Int32)), .val (.int (Int32.ofNat (shN 15 KK)))] [(.long ((((keys + ((1 : Int64) <<< ((Int32.ofNat (shN 15 KK)) &&& 0x3f).toInt64)) - (1 : Int64)).toUInt64 >>> ((Int32.ofNat (shN 15 KK)) &&& 0x3f).toInt64.toUInt64).toInt64))])) _
    refine XS.l2i X1.here hx rfl (hb hby d10_15) rfl ?_
    show Steps p.tables e below (T1.setTop (mkF m 16 #[.val (.long keys), .second, .val (.int (0 : Int32)), .val (.int (Int32.ofNat (shN 15 KK)))] [(.int (((((keys + ((1 : Int64) <<< ((Int32.ofNat (shN 15 KK)) &&& 0x3f).toInt64)) - (1 : Int64)).toUInt64 >>> ((Int32.ofNat (shN 15 KK)) &&& 0x3f).toInt64.toUInt64).toInt64).toInt32))])) _
    exact kt
  obtain ⟨fs, hr, hrun, hended, hW, hsame⟩ := X1.leave (v := some (.int (((((keys + ((1 : Int64) <<< ((Int32.ofNat (shN 15 KK)) &&& 0x3f).toInt64)) - (1 : Int64)).toUInt64 >>> ((Int32.ofNat (shN 15 KK)) &&& 0x3f).toInt64.toUInt64).toInt64).toInt32))) (fun h => by rw [Bd.returns] at h; cases h)
  refine ⟨_, _, k2 _ ?_, hrun, hended, _, _, rfl, ?_, ⟨_, rfl⟩, hW, hsame.mono (by decide) (by decide)⟩
  · exact retI X1 hx Bd.returns (hb hby d10_16) hr
  · show QV _ h0 n0 _ T1.heap _
    exact ⟨congrArg (fun z => some (Value.int z)) (own_count keys KK (shN 15 KK) hk h1 h2 (Nat.le_trans (own_sh_lt 15 KK) (by decide))), N1, e1⟩
theorem d1_0 : decode prog_121_method_1_code 0 = .ok (.aload_n 0, 1) := by decide +kernel
theorem d1_1 : decode prog_121_method_1_code 1 = .ok (.invokespecial 1, 3) := by decide +kernel
theorem d1_4 : decode prog_121_method_1_code 4 = .ok (.aload_n 0, 1) := by decide +kernel
theorem d1_5 : decode prog_121_method_1_code 5 = .ok (.iload_n 3, 1) := by decide +kernel
theorem d1_6 : decode prog_121_method_1_code 6 = .ok (.putfield 7, 3) := by decide +kernel
theorem d1_9 : decode prog_121_method_1_code 9 = .ok (.aload_n 0, 1) := by decide +kernel
theorem d1_10 : decode prog_121_method_1_code 10 = .ok (.lload_n 1, 1) := by decide +kernel
theorem d1_11 : decode prog_121_method_1_code 11 = .ok (.iload_n 3, 1) := by decide +kernel
theorem d1_12 : decode prog_121_method_1_code 12 = .ok (.invokestatic 13, 3) := by decide +kernel
theorem d1_15 : decode prog_121_method_1_code 15 = .ok (.putfield 17, 3) := by decide +kernel
theorem d1_18 : decode prog_121_method_1_code 18 = .ok (.aload_n 0, 1) := by decide +kernel
theorem d1_19 : decode prog_121_method_1_code 19 = .ok (.iconst 1, 1) := by decide +kernel
theorem d1_20 : decode prog_121_method_1_code 20 = .ok (.aload_n 0, 1) := by decide +kernel
theorem d1_21 : decode prog_121_method_1_code 21 = .ok (.getfield 17, 3) := by decide +kernel
theorem d1_24 : decode prog_121_method_1_code 24 = .ok (.ishl, 1) := by decide +kernel
theorem d1_25 : decode prog_121_method_1_code 25 = .ok (.putfield 20, 3) := by decide +kernel
theorem d1_28 : decode prog_121_method_1_code 28 = .ok (.aload_n 0, 1) := by decide +kernel
theorem d1_29 : decode prog_121_method_1_code 29 = .ok (.aload_n 0, 1) := by decide +kernel
theorem d1_30 : decode prog_121_method_1_code 30 = .ok (.getfield 20, 3) := by decide +kernel
theorem d1_33 : decode prog_121_method_1_code 33 = .ok (.i2l, 1) := by decide +kernel
theorem d1_34 : decode prog_121_method_1_code 34 = .ok (.invokestatic 23, 3) := by decide +kernel
theorem d1_37 : decode prog_121_method_1_code 37 = .ok (.putfield 27, 3) := by decide +kernel
theorem d1_40 : decode prog_121_method_1_code 40 = .ok (.lload_n 1, 1) := by decide +kernel
theorem d1_41 : decode prog_121_method_1_code 41 = .ok (.iload_n 3, 1) := by decide +kernel
theorem d1_42 : decode prog_121_method_1_code 42 = .ok (.invokestatic 30, 3) := by decide +kernel
theorem d1_45 : decode prog_121_method_1_code 45 = .ok (.istore 4, 2) := by decide +kernel
theorem d1_47 : decode prog_121_method_1_code 47 = .ok (.aload_n 0, 1) := by decide +kernel
theorem d1_48 : decode prog_121_method_1_code 48 = .ok (.iload_n 3, 1) := by decide +kernel
theorem d1_49 : decode prog_121_method_1_code 49 = .ok (.ifCond .eq 7, 3) := by decide +kernel
theorem d1_52 : decode prog_121_method_1_code 52 = .ok (.aconst_null, 1) := by decide +kernel
theorem d1_53 : decode prog_121_method_1_code 53 = .ok (.goto 8, 3) := by decide +kernel
theorem d1_61 : decode prog_121_method_1_code 61 = .ok (.putfield 35, 3) := by decide +kernel
theorem d1_64 : decode prog_121_method_1_code 64 = .ok (.aload_n 0, 1) := by decide +kernel
theorem d1_65 : decode prog_121_method_1_code 65 = .ok (.iload_n 3, 1) := by decide +kernel
theorem d1_66 : decode prog_121_method_1_code 66 = .ok (.ifCond .eq 11, 3) := by decide +kernel
theorem d1_69 : decode prog_121_method_1_code 69 = .ok (.iload 4, 2) := by decide +kernel
theorem d1_71 : decode prog_121_method_1_code 71 = .ok (.anewarray 39, 3) := by decide +kernel
theorem d1_74 : decode prog_121_method_1_code 74 = .ok (.goto 4, 3) := by decide +kernel
theorem d1_78 : decode prog_121_method_1_code 78 = .ok (.putfield 41, 3) := by decide +kernel
theorem d1_81 : decode prog_121_method_1_code 81 = .ok (.return_, 1) := by decide +kernel
theorem pn_1 : plainName "com/example/parley/parley/core/KeyTable" = true := by first | (simp [plainName, overriddenIn]; done) | decide +kernel
theorem ef_rmCtorn (m : MethodId) (t : Addr) (keys : Int64) : entryFrame m #[(.ref t), (.long keys), (.int (1 : Int32))] 5 = mkF m 0 #[.val (.ref t), .val (.long keys), .second, .val (.int (1 : Int32)), .unset] [] := by first | (simp [entryFrame, mkF, argsToLocals, Value.category]; done) | rfl
set_option maxRecDepth 65536 in
set_option maxHeartbeats 40000000 in
theorem rmCtorn (l : Launch) (Z : State) (a0 : Array Value) (hw : ∀ d ∈ tables_1, d.before a0 Z = true) (ws : List Jvm.Cond) (t : Addr) (keys : Int64) (KK : Nat) (h0 : Heap) (n0 : Nat) (Z0 : n0 ≤ h0.size) (hk : keys.toInt = KK) (qk1 : 1 ≤ KK) (qk2 : KK ≤ 2 ^ 30) (qk3 : KK ≤ 4096 * 2 ^ 10) (E_t : Exa Z h0 t "com/example/parley/parley/core/KeyTable") (F_numbered : Fld Z h0 t "com/example/parley/parley/core/KeyTable" "numbered" "Z" (.int (0 : Int32))) (F_pageShift : Fld Z h0 t "com/example/parley/parley/core/KeyTable" "pageShift" "I" (.int (0 : Int32))) (F_pageKeys : Fld Z h0 t "com/example/parley/parley/core/KeyTable" "pageKeys" "I" (.int (0 : Int32))) (F_pageWords : Fld Z h0 t "com/example/parley/parley/core/KeyTable" "pageWords" "I" (.int (0 : Int32))) (F_bits : Fld Z h0 t "com/example/parley/parley/core/KeyTable" "bits" "[[J" .null) (F_numbers : Fld Z h0 t "com/example/parley/parley/core/KeyTable" "numbers" "[[I" .null) (F_madePages : Fld Z h0 t "com/example/parley/parley/core/KeyTable" "madePages" "I" (.int (0 : Int32))) (g_t : n0 ≤ t) :
    MetFree l (⟨"com/example/parley/parley/core/KeyTable", "<init>", "(JZ)V"⟩ : MethodName) (head1 (Jvm.Cond.code (⟨"com/example/parley/parley/core/KeyTable", "<init>", "(JZ)V"⟩ : MethodName) prog_121_method_1_code 5 none :: ws) ({ frames := 4, cells := 1, slots := 4096, locals := 60 } : Room)) (fun a_ U_ => a_ = #[(.ref t), (.long keys), (.int (1 : Int32))] ∧ Z.Warmed39 U_.vm ∧ U_.heap = h0) (fun _ _ _ _ _ => True) (fun _ U_ o_ U'_ => ∃ v_ L_, o_ = .returned v_ ∧ QK Z t (1 : Int32) "numbers" "[[I" .int "[I" (shN 10 KK) (npN 10 KK) (2 ^ (shN 10 KK)) (.int (0 : Int32)) (fun _ => false) (fun _ _ => (.int (0 : Int32))) (0 : Int32) h0 n0 v_ U'_.heap L_ ∧ FrameEnd U_ o_ U'_ L_ ({ frames := 4, cells := 1, slots := 4096, locals := 60 } : Room).cells ({ frames := 4, cells := 1, slots := 4096, locals := 60 } : Room).slots) := by
  refine MetFree.of_bodySF (plainFor_of_name pn_1) hisR ?_
  intro p e s m args below meth c s₁ Bd hml0 hP hK
  obtain ⟨rfl, hZ, hh⟩ := hP
  have hx := Bd.exec
  have hby := Bd.bytes
  have hml : c.maxLocals = 5 := hml0
  have hown : s.vm.findClass "com/example/parley/parley/core/KeyTable" = some m.cls := findClass_of_methodNamed Bd.named
  have hnm := (name_of_methodNamed Bd.named Bd.method).1
  have X0 : Stand p l e ({ frames := 4, cells := 1, slots := 4096, locals := 60 } : Room) s m #[(.ref t), (.long keys), (.int (1 : Int32))] below meth c s₁ [] 0 0 := Stand.of_body Bd
  have e0 : s₁.heap = h0 := by rw [← hh, Bd.state]; rfl
  have N0 := Fr.nil n0
  have k0 : ∀ tg, Steps p.tables e below (s₁.setTop (mkF m 0 #[.val (.ref t), .val (.long keys), .second, .val (.int (1 : Int32)), .unset] [])) tg → Steps p.tables e below (s₁.setTop (entryFrame m #[(.ref t), (.long keys), (.int (1 : Int32))] 5)) tg := fun tg kq_ => castTop (ef_rmCtorn m t keys) kq_
  have hnp := own_np 10 KK 4096 qk3 (by decide) qk1
  have hnp31 : npN 10 KK < 2 ^ 31 := Nat.lt_of_le_of_lt hnp.1 (by decide)
  obtain ⟨T1, X1, e1, st1⟩ := initO X0 hx hZ hown (hw _ (List.mem_of_getElem? (i := 11) rfl)) (hw _ (List.mem_of_getElem? (i := 12) rfl)) (hw _ (List.mem_of_getElem? (i := 13) rfl)) e0 (g := (mkF m 1 #[.val (.ref t), .val (.long keys), .second, .val (.int (1 : Int32)), .unset] [(.ref t)])) rfl (by rw [hml]; rfl) rfl (hb hby d1_1) (by decide) (W := 0) (by show 2 * 0 + _ ≤ _; exact Nat.le_of_eq rfl) (by decide)
  obtain ⟨T2, h2, X2, e2, W2, st2⟩ := putFN X1 hx hZ hown (hw _ (List.mem_of_getElem? (i := 14) rfl)) Via.refl e1 F_numbered E_t (Or.inr ⟨(hw _ (List.mem_of_getElem? (i := 15) rfl)), rfl, hnm⟩) (hw _ (List.mem_of_getElem? (i := 6) rfl)) (ty := .boolean) (v' := (.int (1 : Int32))) (by decide) rfl rfl (g := (mkF m 6 #[.val (.ref t), .val (.long keys), .second, .val (.int (1 : Int32)), .unset] [(.int (1 : Int32)), (.ref t)])) rfl rfl (hb hby d1_6)
  have E2_t := E_t.wr W2
  have F2_t_pageShift := F_pageShift.other W2 (Or.inr (slot_ne (Or.inr (hw _ (List.mem_of_getElem? (i := 37) rfl))) (Or.inr (hw _ (List.mem_of_getElem? (i := 15) rfl))) (by decide) (t := .int) (t' := .boolean) (by decide) (by decide)))
  have F2_t_pageKeys := F_pageKeys.other W2 (Or.inr (slot_ne (Or.inr (hw _ (List.mem_of_getElem? (i := 39) rfl))) (Or.inr (hw _ (List.mem_of_getElem? (i := 15) rfl))) (by decide) (t := .int) (t' := .boolean) (by decide) (by decide)))
  have F2_t_pageWords := F_pageWords.other W2 (Or.inr (slot_ne (Or.inr (hw _ (List.mem_of_getElem? (i := 47) rfl))) (Or.inr (hw _ (List.mem_of_getElem? (i := 15) rfl))) (by decide) (t := .int) (t' := .boolean) (by decide) (by decide)))
  have F2_t_bits := F_bits.other W2 (Or.inr (slot_ne (Or.inr (hw _ (List.mem_of_getElem? (i := 54) rfl))) (Or.inr (hw _ (List.mem_of_getElem? (i := 15) rfl))) (by decide) (t := (.array (.array .long))) (t' := .boolean) (by decide) (by decide)))
  have F2_t_numbers := F_numbers.other W2 (Or.inr (slot_ne (Or.inr (hw _ (List.mem_of_getElem? (i := 56) rfl))) (Or.inr (hw _ (List.mem_of_getElem? (i := 15) rfl))) (by decide) (t := (.array (.array .int))) (t' := .boolean) (by decide) (by decide)))
  have F2_t_madePages := F_madePages.other W2 (Or.inr (slot_ne (Or.inl (hw _ (List.mem_of_getElem? (i := 65) rfl))) (Or.inr (hw _ (List.mem_of_getElem? (i := 15) rfl))) (by decide) (t := .int) (t' := .boolean) (by decide) (by decide)))
  have Z2 := Nat.le_trans Z0 (Keep.of_wr W2).1
  have KP2 := (Keep.refl h0 [t]).wr W2 (Or.inl (List.mem_of_getElem? (i := 0) rfl))
  have N2 := Fr.snoc X2 N0 g_t
  have F2_t_numbered := F_numbered.same W2
  obtain ⟨_, _, ⟨T3, L3, k3, n3⟩, -, X3, ⟨Lc3, hQ3, l3, y3, z3⟩, st3⟩ := Jvm.LawKit.callS X2 hx (y := (⟨"com/example/parley/parley/core/KeyTable", "pageShift", "(JZ)I"⟩ : MethodName)) hown (mvT hZ (hw _ (List.mem_of_getElem? (i := 16) rfl))) (mvT hZ (hw _ (List.mem_of_getElem? (i := 17) rfl))) (mvT hZ (hw _ (List.mem_of_getElem? (i := 7) rfl))) (mvT hZ (hw _ (List.mem_of_getElem? (i := 18) rfl))) (by decide) (backOf (W := 1) (rmShiftn l Z a0 hw [] keys KK h2 n0 hk qk1 qk2) hZ (hw _ (List.mem_of_getElem? (i := 18) rfl)) (hw _ (List.mem_of_getElem? (i := 7) rfl)) (by decide) (by decide)) (g := (mkF m 12 #[.val (.ref t), .val (.long keys), .second, .val (.int (1 : Int32)), .unset] [(.int (1 : Int32)), (.long keys), (.ref t)])) rfl (by rw [hml]; rfl) (argsL := [(.long keys), (.int (1 : Int32))]) (rest := [(.ref t)]) (lenOf pd_4 rfl) rfl (by show 2 * 0 + _ ≤ _; exact Nat.le_of_eq rfl) (hb hby d1_12) (fun _ _ => ⟨rfl, e2, (by decide : 0 + 0 ≤ _), (by decide : 0 + 0 ≤ _)⟩)
  dsimp only [Pt.U, Pt.locs, Pt.cells, Pt.slots] at X3 l3 y3 z3 st3 hQ3
  subst l3 y3 z3
  obtain ⟨rfl, N3q, e3⟩ := hQ3
  have N3 := Fr.app N2 N3q
  obtain ⟨T4, h4, X4, e4, W4, st4⟩ := putF X3 hx hZ hown (host := "") (Or.inl (hw _ (List.mem_of_getElem? (i := 36) rfl))) Via.refl e3 F2_t_pageShift E2_t (Or.inr ⟨(hw _ (List.mem_of_getElem? (i := 37) rfl)), rfl, hnm⟩) (hw _ (List.mem_of_getElem? (i := 6) rfl)) (ty := .int) (by decide) rfl rfl (g := (mkF m 15 #[.val (.ref t), .val (.long keys), .second, .val (.int (1 : Int32)), .unset] [(.int (Int32.ofNat (shN 10 KK))), (.ref t)])) rfl rfl (hb hby d1_15)
  have E4_t := E2_t.wr W4
  have F4_t_numbered := F2_t_numbered.other W4 (Or.inr (slot_ne (Or.inr (hw _ (List.mem_of_getElem? (i := 15) rfl))) (Or.inr (hw _ (List.mem_of_getElem? (i := 37) rfl))) (by decide) (t := .boolean) (t' := .int) (by decide) (by decide)))
  have F4_t_pageKeys := F2_t_pageKeys.other W4 (Or.inr (slot_ne (Or.inr (hw _ (List.mem_of_getElem? (i := 39) rfl))) (Or.inr (hw _ (List.mem_of_getElem? (i := 37) rfl))) (by decide) (t := .int) (t' := .int) (by decide) (by decide)))
  have F4_t_pageWords := F2_t_pageWords.other W4 (Or.inr (slot_ne (Or.inr (hw _ (List.mem_of_getElem? (i := 47) rfl))) (Or.inr (hw _ (List.mem_of_getElem? (i := 37) rfl))) (by decide) (t := .int) (t' := .int) (by decide) (by decide)))
  have F4_t_bits := F2_t_bits.other W4 (Or.inr (slot_ne (Or.inr (hw _ (List.mem_of_getElem? (i := 54) rfl))) (Or.inr (hw _ (List.mem_of_getElem? (i := 37) rfl))) (by decide) (t := (.array (.array .long))) (t' := .int) (by decide) (by decide)))
  have F4_t_numbers := F2_t_numbers.other W4 (Or.inr (slot_ne (Or.inr (hw _ (List.mem_of_getElem? (i := 56) rfl))) (Or.inr (hw _ (List.mem_of_getElem? (i := 37) rfl))) (by decide) (t := (.array (.array .int))) (t' := .int) (by decide) (by decide)))
  have F4_t_madePages := F2_t_madePages.other W4 (Or.inr (slot_ne (Or.inl (hw _ (List.mem_of_getElem? (i := 65) rfl))) (Or.inr (hw _ (List.mem_of_getElem? (i := 37) rfl))) (by decide) (t := .int) (t' := .int) (by decide) (by decide)))
  have Z4 := Nat.le_trans Z2 (Keep.of_wr W4).1
  have KP4 := KP2.wr W4 (Or.inl (List.mem_of_getElem? (i := 0) rfl))
  have N4 := Fr.snoc X4 N3 g_t
  have F4_t_pageShift := F2_t_pageShift.same W4
  obtain ⟨T5, X5, e5, st5⟩ := getF X4 hx hZ hown (host := "") (Or.inl (hw _ (List.mem_of_getElem? (i := 36) rfl))) Via.refl e4 F4_t_pageShift (g := (mkF m 21 #[.val (.ref t), .val (.long keys), .second, .val (.int (1 : Int32)), .unset] [(.ref t), (.int (1 : Int32)), (.ref t)])) rfl rfl (hb hby d1_21)
  obtain ⟨T6, h6, X6, e6, W6, st6⟩ := putF X5 hx hZ hown (host := "") (Or.inl (hw _ (List.mem_of_getElem? (i := 38) rfl))) Via.refl e5 F4_t_pageKeys E4_t (Or.inr ⟨(hw _ (List.mem_of_getElem? (i := 39) rfl)), rfl, hnm⟩) (hw _ (List.mem_of_getElem? (i := 6) rfl)) (ty := .int) (by decide) rfl rfl (g := (mkF m 25 #[.val (.ref t), .val (.long keys), .second, .val (.int (1 : Int32)), .unset] [(.int (Int32.ofNat (2 ^ shN 10 KK))), (.ref t)])) rfl rfl (hb hby d1_25)
  have E6_t := E4_t.wr W6
  have F6_t_numbered := F4_t_numbered.other W6 (Or.inr (slot_ne (Or.inr (hw _ (List.mem_of_getElem? (i := 15) rfl))) (Or.inr (hw _ (List.mem_of_getElem? (i := 39) rfl))) (by decide) (t := .boolean) (t' := .int) (by decide) (by decide)))
  have F6_t_pageShift := F4_t_pageShift.other W6 (Or.inr (slot_ne (Or.inr (hw _ (List.mem_of_getElem? (i := 37) rfl))) (Or.inr (hw _ (List.mem_of_getElem? (i := 39) rfl))) (by decide) (t := .int) (t' := .int) (by decide) (by decide)))
  have F6_t_pageWords := F4_t_pageWords.other W6 (Or.inr (slot_ne (Or.inr (hw _ (List.mem_of_getElem? (i := 47) rfl))) (Or.inr (hw _ (List.mem_of_getElem? (i := 39) rfl))) (by decide) (t := .int) (t' := .int) (by decide) (by decide)))
  have F6_t_bits := F4_t_bits.other W6 (Or.inr (slot_ne (Or.inr (hw _ (List.mem_of_getElem? (i := 54) rfl))) (Or.inr (hw _ (List.mem_of_getElem? (i := 39) rfl))) (by decide) (t := (.array (.array .long))) (t' := .int) (by decide) (by decide)))
  have F6_t_numbers := F4_t_numbers.other W6 (Or.inr (slot_ne (Or.inr (hw _ (List.mem_of_getElem? (i := 56) rfl))) (Or.inr (hw _ (List.mem_of_getElem? (i := 39) rfl))) (by decide) (t := (.array (.array .int))) (t' := .int) (by decide) (by decide)))
  have F6_t_madePages := F4_t_madePages.other W6 (Or.inr (slot_ne (Or.inl (hw _ (List.mem_of_getElem? (i := 65) rfl))) (Or.inr (hw _ (List.mem_of_getElem? (i := 39) rfl))) (by decide) (t := .int) (t' := .int) (by decide) (by decide)))
  have Z6 := Nat.le_trans Z4 (Keep.of_wr W6).1
  have KP6 := KP4.wr W6 (Or.inl (List.mem_of_getElem? (i := 0) rfl))
  have N6 := Fr.snoc X6 N4 g_t
  have F6_t_pageKeys := F4_t_pageKeys.same W6
  obtain ⟨T7, X7, e7, st7⟩ := getF X6 hx hZ hown (host := "") (Or.inl (hw _ (List.mem_of_getElem? (i := 38) rfl))) Via.refl e6 F6_t_pageKeys (g := (mkF m 30 #[.val (.ref t), .val (.long keys), .second, .val (.int (1 : Int32)), .unset] [(.ref t), (.ref t)])) rfl rfl (hb hby d1_30)
  obtain ⟨_, _, ⟨T8, L8, k8, n8⟩, -, X8, ⟨Lc8, hQ8, l8, y8, z8⟩, st8⟩ := Jvm.LawKit.callS X7 hx (y := (⟨"com/example/parley/parley/core/KeyTable", "wordsOf", "(J)I"⟩ : MethodName)) hown (mvT hZ (hw _ (List.mem_of_getElem? (i := 40) rfl))) (mvT hZ (hw _ (List.mem_of_getElem? (i := 41) rfl))) (mvT hZ (hw _ (List.mem_of_getElem? (i := 7) rfl))) (mvT hZ (hw _ (List.mem_of_getElem? (i := 42) rfl))) (by decide) (backOf (W := 1) (rmWords l Z a0 hw [] ((Int32.ofNat (2 ^ shN 10 KK)).toInt64) (shN 10 KK) h6 n0 rfl (Nat.le_trans (own_sh_lt 10 KK) (by decide))) hZ (hw _ (List.mem_of_getElem? (i := 42) rfl)) (hw _ (List.mem_of_getElem? (i := 7) rfl)) (by decide) (by decide)) (g := (mkF m 34 #[.val (.ref t), .val (.long keys), .second, .val (.int (1 : Int32)), .unset] [(.long ((Int32.ofNat (2 ^ shN 10 KK)).toInt64)), (.ref t)])) rfl (by rw [hml]; rfl) (argsL := [(.long ((Int32.ofNat (2 ^ shN 10 KK)).toInt64))]) (rest := [(.ref t)]) (lenOf pd_1 rfl) rfl (by show 2 * 0 + _ ≤ _; exact Nat.le_of_eq rfl) (hb hby d1_34) (fun _ _ => ⟨rfl, e7, (by decide : 0 + 0 ≤ _), (by decide : 0 + 0 ≤ _)⟩)
  dsimp only [Pt.U, Pt.locs, Pt.cells, Pt.slots] at X8 l8 y8 z8 st8 hQ8
  subst l8 y8 z8
  obtain ⟨rfl, N8q, e8⟩ := hQ8
  have N8 := Fr.app N6 N8q
  obtain ⟨T9, h9, X9, e9, W9, st9⟩ := putF X8 hx hZ hown (host := "") (Or.inl (hw _ (List.mem_of_getElem? (i := 46) rfl))) Via.refl e8 F6_t_pageWords E6_t (Or.inr ⟨(hw _ (List.mem_of_getElem? (i := 47) rfl)), rfl, hnm⟩) (hw _ (List.mem_of_getElem? (i := 6) rfl)) (ty := .int) (by decide) rfl rfl (g := (mkF m 37 #[.val (.ref t), .val (.long keys), .second, .val (.int (1 : Int32)), .unset] [(.int (Int32.ofNat (max 1 (2 ^ (shN 10 KK) / 64)))), (.ref t)])) rfl rfl (hb hby d1_37)
  have E9_t := E6_t.wr W9
  have F9_t_numbered := F6_t_numbered.other W9 (Or.inr (slot_ne (Or.inr (hw _ (List.mem_of_getElem? (i := 15) rfl))) (Or.inr (hw _ (List.mem_of_getElem? (i := 47) rfl))) (by decide) (t := .boolean) (t' := .int) (by decide) (by decide)))
  have F9_t_pageShift := F6_t_pageShift.other W9 (Or.inr (slot_ne (Or.inr (hw _ (List.mem_of_getElem? (i := 37) rfl))) (Or.inr (hw _ (List.mem_of_getElem? (i := 47) rfl))) (by decide) (t := .int) (t' := .int) (by decide) (by decide)))
  have F9_t_pageKeys := F6_t_pageKeys.other W9 (Or.inr (slot_ne (Or.inr (hw _ (List.mem_of_getElem? (i := 39) rfl))) (Or.inr (hw _ (List.mem_of_getElem? (i := 47) rfl))) (by decide) (t := .int) (t' := .int) (by decide) (by decide)))
  have F9_t_bits := F6_t_bits.other W9 (Or.inr (slot_ne (Or.inr (hw _ (List.mem_of_getElem? (i := 54) rfl))) (Or.inr (hw _ (List.mem_of_getElem? (i := 47) rfl))) (by decide) (t := (.array (.array .long))) (t' := .int) (by decide) (by decide)))
  have F9_t_numbers := F6_t_numbers.other W9 (Or.inr (slot_ne (Or.inr (hw _ (List.mem_of_getElem? (i := 56) rfl))) (Or.inr (hw _ (List.mem_of_getElem? (i := 47) rfl))) (by decide) (t := (.array (.array .int))) (t' := .int) (by decide) (by decide)))
  have F9_t_madePages := F6_t_madePages.other W9 (Or.inr (slot_ne (Or.inl (hw _ (List.mem_of_getElem? (i := 65) rfl))) (Or.inr (hw _ (List.mem_of_getElem? (i := 47) rfl))) (by decide) (t := .int) (t' := .int) (by decide) (by decide)))
  have Z9 := Nat.le_trans Z6 (Keep.of_wr W9).1
  have KP9 := KP6.wr W9 (Or.inl (List.mem_of_getElem? (i := 0) rfl))
  have N9 := Fr.snoc X9 N8 g_t
  have F9_t_pageWords := F6_t_pageWords.same W9
  obtain ⟨_, _, ⟨T10, L10, k10, n10⟩, -, X10, ⟨Lc10, hQ10, l10, y10, z10⟩, st10⟩ := Jvm.LawKit.callS X9 hx (y := (⟨"com/example/parley/parley/core/KeyTable", "pageCount", "(JZ)I"⟩ : MethodName)) hown (mvT hZ (hw _ (List.mem_of_getElem? (i := 48) rfl))) (mvT hZ (hw _ (List.mem_of_getElem? (i := 49) rfl))) (mvT hZ (hw _ (List.mem_of_getElem? (i := 7) rfl))) (mvT hZ (hw _ (List.mem_of_getElem? (i := 50) rfl))) (by decide) (backOf (W := 0) (rmCountn l Z a0 hw [] keys KK h9 n0 hk qk1 qk2) hZ (hw _ (List.mem_of_getElem? (i := 50) rfl)) (hw _ (List.mem_of_getElem? (i := 7) rfl)) (by decide) (by decide)) (g := (mkF m 42 #[.val (.ref t), .val (.long keys), .second, .val (.int (1 : Int32)), .unset] [(.int (1 : Int32)), (.long keys)])) rfl (by rw [hml]; rfl) (argsL := [(.long keys), (.int (1 : Int32))]) (rest := []) (lenOf pd_4 rfl) rfl (by show 2 * 0 + _ ≤ _; exact Nat.le_of_eq rfl) (hb hby d1_42) (fun _ _ => ⟨rfl, e9, (by decide : 0 + 0 ≤ _), (by decide : 0 + 0 ≤ _)⟩)
  dsimp only [Pt.U, Pt.locs, Pt.cells, Pt.slots] at X10 l10 y10 z10 st10 hQ10
  subst l10 y10 z10
  obtain ⟨rfl, N10q, e10⟩ := hQ10
  have N10 := Fr.app N9 N10q
  have hd11 : ¬ ((1 : Int32) = (0 : Int32)) := by decide
  obtain ⟨T12, h12, X12, e12, W12, st12⟩ := putF X10 hx hZ hown (host := "") (Or.inl (hw _ (List.mem_of_getElem? (i := 53) rfl))) Via.refl e10 F9_t_bits E9_t (Or.inr ⟨(hw _ (List.mem_of_getElem? (i := 54) rfl)), rfl, hnm⟩) (hw _ (List.mem_of_getElem? (i := 6) rfl)) (ty := (.array (.array .long))) (by decide) rfl rfl (g := (mkF m 61 #[.val (.ref t), .val (.long keys), .second, .val (.int (1 : Int32)), .val (.int (Int32.ofNat (npN 10 KK)))] [.null, (.ref t)])) rfl rfl (hb hby d1_61)
  have E12_t := E9_t.wr W12
  have F12_t_numbered := F9_t_numbered.other W12 (Or.inr (slot_ne (Or.inr (hw _ (List.mem_of_getElem? (i := 15) rfl))) (Or.inr (hw _ (List.mem_of_getElem? (i := 54) rfl))) (by decide) (t := .boolean) (t' := (.array (.array .long))) (by decide) (by decide)))
  have F12_t_pageShift := F9_t_pageShift.other W12 (Or.inr (slot_ne (Or.inr (hw _ (List.mem_of_getElem? (i := 37) rfl))) (Or.inr (hw _ (List.mem_of_getElem? (i := 54) rfl))) (by decide) (t := .int) (t' := (.array (.array .long))) (by decide) (by decide)))
  have F12_t_pageKeys := F9_t_pageKeys.other W12 (Or.inr (slot_ne (Or.inr (hw _ (List.mem_of_getElem? (i := 39) rfl))) (Or.inr (hw _ (List.mem_of_getElem? (i := 54) rfl))) (by decide) (t := .int) (t' := (.array (.array .long))) (by decide) (by decide)))
  have F12_t_pageWords := F9_t_pageWords.other W12 (Or.inr (slot_ne (Or.inr (hw _ (List.mem_of_getElem? (i := 47) rfl))) (Or.inr (hw _ (List.mem_of_getElem? (i := 54) rfl))) (by decide) (t := .int) (t' := (.array (.array .long))) (by decide) (by decide)))
  have F12_t_numbers := F9_t_numbers.other W12 (Or.inr (slot_ne (Or.inr (hw _ (List.mem_of_getElem? (i := 56) rfl))) (Or.inr (hw _ (List.mem_of_getElem? (i := 54) rfl))) (by decide) (t := (.array (.array .int))) (t' := (.array (.array .long))) (by decide) (by decide)))
  have F12_t_madePages := F9_t_madePages.other W12 (Or.inr (slot_ne (Or.inl (hw _ (List.mem_of_getElem? (i := 65) rfl))) (Or.inr (hw _ (List.mem_of_getElem? (i := 54) rfl))) (by decide) (t := .int) (t' := (.array (.array .long))) (by decide) (by decide)))
  have Z12 := Nat.le_trans Z9 (Keep.of_wr W12).1
  have KP12 := KP9.wr W12 (Or.inl (List.mem_of_getElem? (i := 0) rfl))
  have N12 := Fr.snoc X12 N10 g_t
  have F12_t_bits := F9_t_bits.same W12
  have hd13 : ¬ ((1 : Int32) = (0 : Int32)) := by decide
  obtain ⟨T14, h14, c14, X14, e14, E14, A14, Ex14, O14, st14⟩ := newRA X12 hx hZ hown (ty := .int) (C := "[I") (by decide) (hw _ (List.mem_of_getElem? (i := 78) rfl)) (hw _ (List.mem_of_getElem? (i := 79) rfl)) e12 (g := (mkF m 71 #[.val (.ref t), .val (.long keys), .second, .val (.int (1 : Int32)), .val (.int (Int32.ofNat (npN 10 KK)))] [(.int (Int32.ofNat (npN 10 KK))), (.ref t)])) rfl (hb hby d1_71) rfl (own_nn _ hnp31) (cap := 4096) (by rw [own_clamp _ hnp31]; exact hnp.1) (by decide) (by decide) (by decide) (ad := "[[I") (by decide)
  obtain ⟨D, g14⟩ : ∃ z, z = h12.size := ⟨_, rfl⟩
  have ne_t_D : t ≠ D := Nat.ne_of_lt (Nat.lt_of_lt_of_le E12_t.lt (Nat.le_of_eq g14.symm))
  have g_D : n0 ≤ D := Nat.le_trans Z12 (Nat.le_of_eq g14.symm)
  have sz_D : h0.size ≤ D := Nat.le_trans KP12.1 (Nat.le_of_eq g14.symm)
  rw [← g14] at A14 st14
  have E14_t := E12_t.ext E14
  have F14_t_numbered := F12_t_numbered.ext E14
  have F14_t_pageShift := F12_t_pageShift.ext E14
  have F14_t_pageKeys := F12_t_pageKeys.ext E14
  have F14_t_pageWords := F12_t_pageWords.ext E14
  have F14_t_bits := F12_t_bits.ext E14
  have F14_t_numbers := F12_t_numbers.ext E14
  have F14_t_madePages := F12_t_madePages.ext E14
  have Z14 := Nat.le_trans Z12 E14.1
  have KP14 := KP12.ext E14
  have V_D : Af Z h14 D c14 (.array .int) (npN 10 KK) (fun _ => .null) := Af.new A14 (own_clamp _ hnp31)
  obtain ⟨T15, h15, X15, e15, W15, st15⟩ := putF X14 hx hZ hown (host := "") (Or.inl (hw _ (List.mem_of_getElem? (i := 55) rfl))) Via.refl e14 F14_t_numbers E14_t (Or.inr ⟨(hw _ (List.mem_of_getElem? (i := 56) rfl)), rfl, hnm⟩) (hw _ (List.mem_of_getElem? (i := 6) rfl)) (ty := (.array (.array .int))) (by decide) rfl rfl (g := (mkF m 78 #[.val (.ref t), .val (.long keys), .second, .val (.int (1 : Int32)), .val (.int (Int32.ofNat (npN 10 KK)))] [(.ref D), (.ref t)])) rfl rfl (hb hby d1_78)
  have E15_t := E14_t.wr W15
  have F15_t_numbered := F14_t_numbered.other W15 (Or.inr (slot_ne (Or.inr (hw _ (List.mem_of_getElem? (i := 15) rfl))) (Or.inr (hw _ (List.mem_of_getElem? (i := 56) rfl))) (by decide) (t := .boolean) (t' := (.array (.array .int))) (by decide) (by decide)))
  have F15_t_pageShift := F14_t_pageShift.other W15 (Or.inr (slot_ne (Or.inr (hw _ (List.mem_of_getElem? (i := 37) rfl))) (Or.inr (hw _ (List.mem_of_getElem? (i := 56) rfl))) (by decide) (t := .int) (t' := (.array (.array .int))) (by decide) (by decide)))
  have F15_t_pageKeys := F14_t_pageKeys.other W15 (Or.inr (slot_ne (Or.inr (hw _ (List.mem_of_getElem? (i := 39) rfl))) (Or.inr (hw _ (List.mem_of_getElem? (i := 56) rfl))) (by decide) (t := .int) (t' := (.array (.array .int))) (by decide) (by decide)))
  have F15_t_pageWords := F14_t_pageWords.other W15 (Or.inr (slot_ne (Or.inr (hw _ (List.mem_of_getElem? (i := 47) rfl))) (Or.inr (hw _ (List.mem_of_getElem? (i := 56) rfl))) (by decide) (t := .int) (t' := (.array (.array .int))) (by decide) (by decide)))
  have F15_t_bits := F14_t_bits.other W15 (Or.inr (slot_ne (Or.inr (hw _ (List.mem_of_getElem? (i := 54) rfl))) (Or.inr (hw _ (List.mem_of_getElem? (i := 56) rfl))) (by decide) (t := (.array (.array .long))) (t' := (.array (.array .int))) (by decide) (by decide)))
  have F15_t_madePages := F14_t_madePages.other W15 (Or.inr (slot_ne (Or.inl (hw _ (List.mem_of_getElem? (i := 65) rfl))) (Or.inr (hw _ (List.mem_of_getElem? (i := 56) rfl))) (by decide) (t := .int) (t' := (.array (.array .int))) (by decide) (by decide)))
  have A15_D := V_D.other W15 (Ne.symm ne_t_D)
  have Z15 := Nat.le_trans Z14 (Keep.of_wr W15).1
  have KP15 := KP14.wr W15 (Or.inl (List.mem_of_getElem? (i := 0) rfl))
  have N15 := Fr.snoc X15 N12 g_t
  have F15_t_numbers := F14_t_numbers.same W15
  have k16 : ∀ tg, Steps p.tables e below (T15.setTop (mkF m 81 #[.val (.ref t), .val (.long keys), .second, .val (.int (1 : Int32)), .val (.int (Int32.ofNat (npN 10 KK)))] [])) tg → Steps p.tables e below (s₁.setTop (entryFrame m #[(.ref t), (.long keys), (.int (1 : Int32))] 5)) tg := by
    intro tg kt
    refine k0 tg ?_
    show Steps p.tables e below (s₁.setTop (mkF m 0 #[.val (.ref t), .val (.long keys), .second, .val (.int (1 : Int32)), .unset] [])) _
    refine XS.aloadN X0.here hx rfl (hb hby d1_0) rfl rfl ?_
    show Steps p.tables e below (s₁.setTop (mkF m 1 #[.val (.ref t), .val (.long keys), .second, .val (.int (1 : Int32)), .unset] [(.ref t)])) _
    refine st1 _ ?_
    show Steps p.tables e below (T1.setTop (mkF m 4 #[.val (.ref t), .val (.long keys), .second, .val (.int (1 : Int32)), .unset] [])) _
    refine XS.aloadN X1.here hx rfl (hb hby d1_4) rfl rfl ?_
    show Steps p.tables e below (T1.setTop (mkF m 5 #[.val (.ref t), .val (.long keys), .second, .val (.int (1 : Int32)), .unset] [(.ref t)])) _
    refine XS.iloadN X1.here hx rfl (hb hby d1_5) rfl ?_
    show Steps p.tables e below (T1.setTop (mkF m 6 #[.val (.ref t), .val (.long keys), .second, .val (.int (1 : Int32)), .unset] [(.int (1 : Int32)), (.ref t)])) _
    refine st2 _ ?_
    show Steps p.tables e below (T2.setTop (mkF m 9 #[.val (.ref t), .val (.long keys), .second, .val (.int (1 : Int32)), .unset] [])) _
    refine XS.aloadN X2.here hx rfl (hb hby d1_9) rfl rfl ?_
    show Steps p.tables e below (T2.setTop (mkF m 10 #[.val (.ref t), .val (.long keys), .second, .val (.int (1 : Int32)), .unset] [(.ref t)])) _
    refine XS.lloadN X2.here hx rfl (hb hby d1_10) rfl ?_
    show Steps p.tables e below (T2.setTop (mkF m 11 #[.val (.ref t), .val (.long keys), .second, .val (.int (1 : Int32)), .unset] [(.long keys), (.ref t)])) _
    refine XS.iloadN X2.here hx rfl (hb hby d1_11) rfl ?_
    show Steps p.tables e below (T2.setTop (mkF m 12 #[.val (.ref t), .val (.long keys), .second, .val (.int (1 : Int32)), .unset] [(.int (1 : Int32)), (.long keys), (.ref t)])) _
    refine st3 _ ?_
    show Steps p.tables e below (T3.setTop (mkF m 15 #[.val (.ref t), .val (.long keys), .second, .val (.int (1 : Int32)), .unset] [(.int (Int32.ofNat (shN 10 KK))), (.ref t)])) _
    refine st4 _ ?_
    show Steps p.tables e below (T4.setTop (mkF m 18 #[.val (.ref t), .val (.long keys), .second, .val (.int (1 : Int32)), .unset] [])) _
    refine XS.aloadN X4.here hx rfl (hb hby d1_18) rfl rfl ?_
    show Steps p.tables e below (T4.setTop (mkF m 19 #[.val (.ref t), .val (.long keys), .second, .val (.int (1 : Int32)), .unset] [(.ref t)])) _
    refine XS.iconst X4.here hx rfl (hb hby d1_19) ?_
    show Steps p.tables e below (T4.setTop (mkF m 20 #[.val (.ref t), .val (.long keys), .second, .val (.int (1 : Int32)), .unset] [(.int (1 : Int32)), (.ref t)])) _
    refine XS.aloadN X4.here hx rfl (hb hby d1_20) rfl rfl ?_
    show Steps p.tables e below (T4.setTop (mkF m 21 #[.val (.ref t), .val (.long keys), .second, .val (.int (1 : Int32)), .unset] [(.ref t), (.int (1 : Int32)), (.ref t)])) _
    refine st5 _ ?_
    show Steps p.tables e below (T5.setTop (mkF m 24 #[.val (.ref t), .val (.long keys), .second, .val (.int (1 : Int32)), .unset] [(.int (Int32.ofNat (shN 10 KK))), (.int (1 : Int32)), (.ref t)])) _
    refine XS.ishl X5.here hx rfl (hb hby d1_24) rfl ?_
    show Steps p.tables e below (T5.setTop (mkF m 25 #[.val (.ref t), .val (.long keys), .second, .val (.int (1 : Int32)), .unset] [(.int ((1 : Int32) <<< ((Int32.ofNat (shN 10 KK)) &&& 31))), (.ref t)])) _
    rw [(own_one_shl (shN 10 KK) (by have := own_sh_lt 10 KK; omega))]
    show Steps p.tables e below (T5.setTop (mkF m 25 #[.val (.ref t), .val (.long keys), .second, .val (.int (1 : Int32)), .unset] [(.int (Int32.ofNat (2 ^ shN 10 KK))), (.ref t)])) _
    refine st6 _ ?_
    show Steps p.tables e below (T6.setTop (mkF m 28 #[.val (.ref t), .val (.long keys), .second, .val (.int (1 : Int32)), .unset] [])) _
    refine XS.aloadN X6.here hx rfl (hb hby d1_28) rfl rfl ?_
    show Steps p.tables e below (T6.setTop (mkF m 29 #[.val (.ref t), .val (.long keys), .second, .val (.int (1 : Int32)), .unset] [(.ref t)])) _
    refine XS.aloadN X6.here hx rfl (hb hby d1_29) rfl rfl ?_
    show Steps p.tables e below (T6.setTop (mkF m 30 #[.val (.ref t), .val (.long keys), .second, .val (.int (1 : Int32)), .unset] [(.ref t), (.ref t)])) _
    refine st7 _ ?_
    show Steps p.tables e below (T7.setTop (mkF m 33 #[.val (.ref t), .val (.long keys), .second, .val (.int (1 : Int32)), .unset] [(.int (Int32.ofNat (2 ^ shN 10 KK))), (.ref t)])) _
    refine XS.i2l X7.here hx rfl (hb hby d1_33) rfl ?_
    show Steps p.tables e below (T7.setTop (mkF m 34 #[.val (.ref t), .val (.long keys), .second, .val (.int (1 : Int32)), .unset] [(.long ((Int32.ofNat (2 ^ shN 10 KK)).toInt64)), (.ref t)])) _
    refine st8 _ ?_
    show Steps p.tables e below (T8.setTop (mkF m 37 #[.val (.ref t), .val (.long keys), .second, .val (.int (1 : Int32)), .unset] [(.int (Int32.ofNat (max 1 (2 ^ (shN 10 KK) / 64)))), (.ref t)])) _
    refine st9 _ ?_
    show Steps p.tables e below (T9.setTop (mkF m 40 #[.val (.ref t), .val (.long keys), .second, .val (.int (1 : Int32)), .unset] [])) _
    refine XS.lloadN X9.here hx rfl (hb hby d1_40) rfl ?_
    show Steps p.tables e below (T9.setTop (mkF m 41 #[.val (.ref t), .val (.long keys), .second, .val (.int (1 : Int32)), .unset] [(.long keys)])) _
    refine XS.iloadN X9.here hx rfl (hb hby d1_41) rfl ?_
    show Steps p.tables e below (T9.setTop (mkF m 42 #[.val (.ref t), .val (.long keys), .second, .val (.int (1 : Int32)), .unset] [(.int (1 : Int32)), (.long keys)])) _
    refine st10 _ ?_
    show Steps p.tables e below (T10.setTop (mkF m 45 #[.val (.ref t), .val (.long keys), .second, .val (.int (1 : Int32)), .unset] [(.int (Int32.ofNat (npN 10 KK)))])) _
    refine XS.istore X10.here hx rfl (hb hby d1_45) rfl (l' := #[.val (.ref t), .val (.long keys), .second, .val (.int (1 : Int32)), .val (.int (Int32.ofNat (npN 10 KK)))]) rfl ?_
    show Steps p.tables e below (T10.setTop (mkF m 47 #[.val (.ref t), .val (.long keys), .second, .val (.int (1 : Int32)), .val (.int (Int32.ofNat (npN 10 KK)))] [])) _
    refine XS.aloadN X10.here hx rfl (hb hby d1_47) rfl rfl ?_
    show Steps p.tables e below (T10.setTop (mkF m 48 #[.val (.ref t), .val (.long keys), .second, .val (.int (1 : Int32)), .val (.int (Int32.ofNat (npN 10 KK)))] [(.ref t)])) _
    refine XS.iloadN X10.here hx rfl (hb hby d1_48) rfl ?_
    show Steps p.tables e below (T10.setTop (mkF m 49 #[.val (.ref t), .val (.long keys), .second, .val (.int (1 : Int32)), .val (.int (Int32.ofNat (npN 10 KK)))] [(.int (1 : Int32)), (.ref t)])) _
    refine XS.ifNo X10.here hx rfl (hb hby d1_49) rfl ((if0 _ _).trans (feq hd11).1) ?_
    show Steps p.tables e below (T10.setTop (mkF m 52 #[.val (.ref t), .val (.long keys), .second, .val (.int (1 : Int32)), .val (.int (Int32.ofNat (npN 10 KK)))] [(.ref t)])) _
    refine XS.aconstNull X10.here hx rfl (hb hby d1_52) ?_
    show Steps p.tables e below (T10.setTop (mkF m 53 #[.val (.ref t), .val (.long keys), .second, .val (.int (1 : Int32)), .val (.int (Int32.ofNat (npN 10 KK)))] [.null, (.ref t)])) _
    refine XS.goto X10.here hx rfl (pc0 := 53) (pc' := 61) rfl (hb hby d1_53) (by decide) (by decide) ?_
    show Steps p.tables e below (T10.setTop (mkF m 61 #[.val (.ref t), .val (.long keys), .second, .val (.int (1 : Int32)), .val (.int (Int32.ofNat (npN 10 KK)))] [.null, (.ref t)])) _
    refine st12 _ ?_
    show Steps p.tables e below (T12.setTop (mkF m 64 #[.val (.ref t), .val (.long keys), .second, .val (.int (1 : Int32)), .val (.int (Int32.ofNat (npN 10 KK)))] [])) _
    refine XS.aloadN X12.here hx rfl (hb hby d1_64) rfl rfl ?_
    show Steps p.tables e below (T12.setTop (mkF m 65 #[.val (.ref t), .val (.long keys), .second, .val (.int (1 : Int32)), .val (.int (Int32.ofNat (npN 10 KK)))] [(.ref t)])) _
    refine XS.iloadN X12.here hx rfl (hb hby d1_65) rfl ?_
    show Steps p.tables e below (T12.setTop (mkF m 66 #[.val (.ref t), .val (.long keys), .second, .val (.int (1 : Int32)), .val (.int (Int32.ofNat (npN 10 KK)))] [(.int (1 : Int32)), (.ref t)])) _
    refine XS.ifNo X12.here hx rfl (hb hby d1_66) rfl ((if0 _ _).trans (feq hd13).1) ?_
    show Steps p.tables e below (T12.setTop (mkF m 69 #[.val (.ref t), .val (.long keys), .second, .val (.int (1 : Int32)), .val (.int (Int32.ofNat (npN 10 KK)))] [(.ref t)])) _
    refine XS.iload X12.here hx rfl (hb hby d1_69) rfl ?_
    show Steps p.tables e below (T12.setTop (mkF m 71 #[.val (.ref t), .val (.long keys), .second, .val (.int (1 : Int32)), .val (.int (Int32.ofNat (npN 10 KK)))] [(.int (Int32.ofNat (npN 10 KK))), (.ref t)])) _
    refine st14 _ ?_
    show Steps p.tables e below (T14.setTop (mkF m 74 #[.val (.ref t), .val (.long keys), .second, .val (.int (1 : Int32)), .val (.int (Int32.ofNat (npN 10 KK)))] [(.ref D), (.ref t)])) _
    refine XS.goto X14.here hx rfl (pc0 := 74) (pc' := 78) rfl (hb hby d1_74) (by decide) (by decide) ?_
    show Steps p.tables e below (T14.setTop (mkF m 78 #[.val (.ref t), .val (.long keys), .second, .val (.int (1 : Int32)), .val (.int (Int32.ofNat (npN 10 KK)))] [(.ref D), (.ref t)])) _
    refine st15 _ ?_
    show Steps p.tables e below (T15.setTop (mkF m 81 #[.val (.ref t), .val (.long keys), .second, .val (.int (1 : Int32)), .val (.int (Int32.ofNat (npN 10 KK)))] [])) _
    exact kt
  obtain ⟨fs, hr, hrun, hended, hW, hsame⟩ := X15.leave (v := none) (fun _ => rfl)
  refine ⟨_, _, k16 _ ?_, hrun, hended, _, _, rfl, ?_, ⟨_, rfl⟩, hW, hsame.mono (by decide) (by decide)⟩
  · exact X15.returnOut hx Bd.returns (hb hby d1_81) hr
  · show QK Z t (1 : Int32) "numbers" "[[I" .int "[I" (shN 10 KK) (npN 10 KK) (2 ^ (shN 10 KK)) (.int (0 : Int32)) (fun _ => false) (fun _ _ => (.int (0 : Int32))) (0 : Int32) h0 n0 _ T15.heap _
    rw [e15]
    exact ⟨rfl, N15, KP15.1, E15_t, F15_t_numbered, F15_t_pageShift, F15_t_pageKeys, F15_t_pageWords, F15_t_madePages, g_t, D, c14, fun _ => none, F15_t_numbers, A15_D, O14, g_D, ne_t_D, fun _ => rfl, fun _ _ q => (by cases q), fun _ _ _ q => (by cases q), fun _ _ _ => rfl⟩
theorem d1_56 : decode prog_121_method_1_code 56 = .ok (.iload 4, 2) := by decide +kernel
theorem d1_58 : decode prog_121_method_1_code 58 = .ok (.anewarray 33, 3) := by decide +kernel
theorem d1_77 : decode prog_121_method_1_code 77 = .ok (.aconst_null, 1) := by decide +kernel
theorem ef_rmCtorb (m : MethodId) (t : Addr) (keys : Int64) : entryFrame m #[(.ref t), (.long keys), (.int (0 : Int32))] 5 = mkF m 0 #[.val (.ref t), .val (.long keys), .second, .val (.int (0 : Int32)), .unset] [] := by first | (simp [entryFrame, mkF, argsToLocals, Value.category]; done) | rfl
set_option maxRecDepth 65536 in
set_option maxHeartbeats 40000000 in
theorem rmCtorb (l : Launch) (Z : State) (a0 : Array Value) (hw : ∀ d ∈ tables_1, d.before a0 Z = true) (ws : List Jvm.Cond) (t : Addr) (keys : Int64) (KK : Nat) (h0 : Heap) (n0 : Nat) (Z0 : n0 ≤ h0.size) (hk : keys.toInt = KK) (qk1 : 1 ≤ KK) (qk2 : KK ≤ 2 ^ 30) (qk3 : KK ≤ 128 * 2 ^ 15) (E_t : Exa Z h0 t "com/example/parley/parley/core/KeyTable") (F_numbered : Fld Z h0 t "com/example/parley/parley/core/KeyTable" "numbered" "Z" (.int (0 : Int32))) (F_pageShift : Fld Z h0 t "com/example/parley/parley/core/KeyTable" "pageShift" "I" (.int (0 : Int32))) (F_pageKeys : Fld Z h0 t "com/example/parley/parley/core/KeyTable" "pageKeys" "I" (.int (0 : Int32))) (F_pageWords : Fld Z h0 t "com/example/parley/parley/core/KeyTable" "pageWords" "I" (.int (0 : Int32))) (F_bits : Fld Z h0 t "com/example/parley/parley/core/KeyTable" "bits" "[[J" .null) (F_numbers : Fld Z h0 t "com/example/parley/parley/core/KeyTable" "numbers" "[[I" .null) (F_madePages : Fld Z h0 t "com/example/parley/parley/core/KeyTable" "madePages" "I" (.int (0 : Int32))) (g_t : n0 ≤ t) :
    MetFree l (⟨"com/example/parley/parley/core/KeyTable", "<init>", "(JZ)V"⟩ : MethodName) (head1 (Jvm.Cond.code (⟨"com/example/parley/parley/core/KeyTable", "<init>", "(JZ)V"⟩ : MethodName) prog_121_method_1_code 5 none :: ws) ({ frames := 4, cells := 1, slots := 128, locals := 60 } : Room)) (fun a_ U_ => a_ = #[(.ref t), (.long keys), (.int (0 : Int32))] ∧ Z.Warmed39 U_.vm ∧ U_.heap = h0) (fun _ _ _ _ _ => True) (fun _ U_ o_ U'_ => ∃ v_ L_, o_ = .returned v_ ∧ QK Z t (0 : Int32) "bits" "[[J" .long "[J" (shN 15 KK) (npN 15 KK) (max 1 (2 ^ (shN 15 KK) / 64)) (.long (0 : Int64)) (fun _ => false) (fun _ _ => (.long (0 : Int64))) (0 : Int32) h0 n0 v_ U'_.heap L_ ∧ FrameEnd U_ o_ U'_ L_ ({ frames := 4, cells := 1, slots := 128, locals := 60 } : Room).cells ({ frames := 4, cells := 1, slots := 128, locals := 60 } : Room).slots) := by
  refine MetFree.of_bodySF (plainFor_of_name pn_1) hisR ?_
  intro p e s m args below meth c s₁ Bd hml0 hP hK
  obtain ⟨rfl, hZ, hh⟩ := hP
  have hx := Bd.exec
  have hby := Bd.bytes
  have hml : c.maxLocals = 5 := hml0
  have hown : s.vm.findClass "com/example/parley/parley/core/KeyTable" = some m.cls := findClass_of_methodNamed Bd.named
  have hnm := (name_of_methodNamed Bd.named Bd.method).1
  have X0 : Stand p l e ({ frames := 4, cells := 1, slots := 128, locals := 60 } : Room) s m #[(.ref t), (.long keys), (.int (0 : Int32))] below meth c s₁ [] 0 0 := Stand.of_body Bd
  have e0 : s₁.heap = h0 := by rw [← hh, Bd.state]; rfl
  have N0 := Fr.nil n0
  have k0 : ∀ tg, Steps p.tables e below (s₁.setTop (mkF m 0 #[.val (.ref t), .val (.long keys), .second, .val (.int (0 : Int32)), .unset] [])) tg → Steps p.tables e below (s₁.setTop (entryFrame m #[(.ref t), (.long keys), (.int (0 : Int32))] 5)) tg := fun tg kq_ => castTop (ef_rmCtorb m t keys) kq_
  have hnp := own_np 15 KK 128 qk3 (by decide) qk1
  have hnp31 : npN 15 KK < 2 ^ 31 := Nat.lt_of_le_of_lt hnp.1 (by decide)
  obtain ⟨T1, X1, e1, st1⟩ := initO X0 hx hZ hown (hw _ (List.mem_of_getElem? (i := 11) rfl)) (hw _ (List.mem_of_getElem? (i := 12) rfl)) (hw _ (List.mem_of_getElem? (i := 13) rfl)) e0 (g := (mkF m 1 #[.val (.ref t), .val (.long keys), .second, .val (.int (0 : Int32)), .unset] [(.ref t)])) rfl (by rw [hml]; rfl) rfl (hb hby d1_1) (by decide) (W := 0) (by show 2 * 0 + _ ≤ _; exact Nat.le_of_eq rfl) (by decide)
  obtain ⟨T2, h2, X2, e2, W2, st2⟩ := putFN X1 hx hZ hown (hw _ (List.mem_of_getElem? (i := 14) rfl)) Via.refl e1 F_numbered E_t (Or.inr ⟨(hw _ (List.mem_of_getElem? (i := 15) rfl)), rfl, hnm⟩) (hw _ (List.mem_of_getElem? (i := 6) rfl)) (ty := .boolean) (v' := (.int (0 : Int32))) (by decide) rfl rfl (g := (mkF m 6 #[.val (.ref t), .val (.long keys), .second, .val (.int (0 : Int32)), .unset] [(.int (0 : Int32)), (.ref t)])) rfl rfl (hb hby d1_6)
  have E2_t := E_t.wr W2
  have F2_t_pageShift := F_pageShift.other W2 (Or.inr (slot_ne (Or.inr (hw _ (List.mem_of_getElem? (i := 37) rfl))) (Or.inr (hw _ (List.mem_of_getElem? (i := 15) rfl))) (by decide) (t := .int) (t' := .boolean) (by decide) (by decide)))
  have F2_t_pageKeys := F_pageKeys.other W2 (Or.inr (slot_ne (Or.inr (hw _ (List.mem_of_getElem? (i := 39) rfl))) (Or.inr (hw _ (List.mem_of_getElem? (i := 15) rfl))) (by decide) (t := .int) (t' := .boolean) (by decide) (by decide)))
  have F2_t_pageWords := F_pageWords.other W2 (Or.inr (slot_ne (Or.inr (hw _ (List.mem_of_getElem? (i := 47) rfl))) (Or.inr (hw _ (List.mem_of_getElem? (i := 15) rfl))) (by decide) (t := .int) (t' := .boolean) (by decide) (by decide)))
  have F2_t_bits := F_bits.other W2 (Or.inr (slot_ne (Or.inr (hw _ (List.mem_of_getElem? (i := 54) rfl))) (Or.inr (hw _ (List.mem_of_getElem? (i := 15) rfl))) (by decide) (t := (.array (.array .long))) (t' := .boolean) (by decide) (by decide)))
  have F2_t_numbers := F_numbers.other W2 (Or.inr (slot_ne (Or.inr (hw _ (List.mem_of_getElem? (i := 56) rfl))) (Or.inr (hw _ (List.mem_of_getElem? (i := 15) rfl))) (by decide) (t := (.array (.array .int))) (t' := .boolean) (by decide) (by decide)))
  have F2_t_madePages := F_madePages.other W2 (Or.inr (slot_ne (Or.inl (hw _ (List.mem_of_getElem? (i := 65) rfl))) (Or.inr (hw _ (List.mem_of_getElem? (i := 15) rfl))) (by decide) (t := .int) (t' := .boolean) (by decide) (by decide)))
  have Z2 := Nat.le_trans Z0 (Keep.of_wr W2).1
  have KP2 := (Keep.refl h0 [t]).wr W2 (Or.inl (List.mem_of_getElem? (i := 0) rfl))
  have N2 := Fr.snoc X2 N0 g_t
  have F2_t_numbered := F_numbered.same W2
  obtain ⟨_, _, ⟨T3, L3, k3, n3⟩, -, X3, ⟨Lc3, hQ3, l3, y3, z3⟩, st3⟩ := Jvm.LawKit.callS X2 hx (y := (⟨"com/example/parley/parley/core/KeyTable", "pageShift", "(JZ)I"⟩ : MethodName)) hown (mvT hZ (hw _ (List.mem_of_getElem? (i := 16) rfl))) (mvT hZ (hw _ (List.mem_of_getElem? (i := 17) rfl))) (mvT hZ (hw _ (List.mem_of_getElem? (i := 7) rfl))) (mvT hZ (hw _ (List.mem_of_getElem? (i := 18) rfl))) (by decide) (backOf (W := 1) (rmShiftb l Z a0 hw [] keys KK h2 n0 hk qk1 qk2) hZ (hw _ (List.mem_of_getElem? (i := 18) rfl)) (hw _ (List.mem_of_getElem? (i := 7) rfl)) (by decide) (by decide)) (g := (mkF m 12 #[.val (.ref t), .val (.long keys), .second, .val (.int (0 : Int32)), .unset] [(.int (0 : Int32)), (.long keys), (.ref t)])) rfl (by rw [hml]; rfl) (argsL := [(.long keys), (.int (0 : Int32))]) (rest := [(.ref t)]) (lenOf pd_4 rfl) rfl (by show 2 * 0 + _ ≤ _; exact Nat.le_of_eq rfl) (hb hby d1_12) (fun _ _ => ⟨rfl, e2, (by decide : 0 + 0 ≤ _), (by decide : 0 + 0 ≤ _)⟩)
  dsimp only [Pt.U, Pt.locs, Pt.cells, Pt.slots] at X3 l3 y3 z3 st3 hQ3
  subst l3 y3 z3
  obtain ⟨rfl, N3q, e3⟩ := hQ3
  have N3 := Fr.app N2 N3q
  obtain ⟨T4, h4, X4, e4, W4, st4⟩ := putF X3 hx hZ hown (host := "") (Or.inl (hw _ (List.mem_of_getElem? (i := 36) rfl))) Via.refl e3 F2_t_pageShift E2_t (Or.inr ⟨(hw _ (List.mem_of_getElem? (i := 37) rfl)), rfl, hnm⟩) (hw _ (List.mem_of_getElem? (i := 6) rfl)) (ty := .int) (by decide) rfl rfl (g := (mkF m 15 #[.val (.ref t), .val (.long keys), .second, .val (.int (0 : Int32)), .unset] [(.int (Int32.ofNat (shN 15 KK))), (.ref t)])) rfl rfl (hb hby d1_15)
  have E4_t := E2_t.wr W4
  have F4_t_numbered := F2_t_numbered.other W4 (Or.inr (slot_ne (Or.inr (hw _ (List.mem_of_getElem? (i := 15) rfl))) (Or.inr (hw _ (List.mem_of_getElem? (i := 37) rfl))) (by decide) (t := .boolean) (t' := .int) (by decide) (by decide)))
  have F4_t_pageKeys := F2_t_pageKeys.other W4 (Or.inr (slot_ne (Or.inr (hw _ (List.mem_of_getElem? (i := 39) rfl))) (Or.inr (hw _ (List.mem_of_getElem? (i := 37) rfl))) (by decide) (t := .int) (t' := .int) (by decide) (by decide)))
  have F4_t_pageWords := F2_t_pageWords.other W4 (Or.inr (slot_ne (Or.inr (hw _ (List.mem_of_getElem? (i := 47) rfl))) (Or.inr (hw _ (List.mem_of_getElem? (i := 37) rfl))) (by decide) (t := .int) (t' := .int) (by decide) (by decide)))
  have F4_t_bits := F2_t_bits.other W4 (Or.inr (slot_ne (Or.inr (hw _ (List.mem_of_getElem? (i := 54) rfl))) (Or.inr (hw _ (List.mem_of_getElem? (i := 37) rfl))) (by decide) (t := (.array (.array .long))) (t' := .int) (by decide) (by decide)))
  have F4_t_numbers := F2_t_numbers.other W4 (Or.inr (slot_ne (Or.inr (hw _ (List.mem_of_getElem? (i := 56) rfl))) (Or.inr (hw _ (List.mem_of_getElem? (i := 37) rfl))) (by decide) (t := (.array (.array .int))) (t' := .int) (by decide) (by decide)))
  have F4_t_madePages := F2_t_madePages.other W4 (Or.inr (slot_ne (Or.inl (hw _ (List.mem_of_getElem? (i := 65) rfl))) (Or.inr (hw _ (List.mem_of_getElem? (i := 37) rfl))) (by decide) (t := .int) (t' := .int) (by decide) (by decide)))
  have Z4 := Nat.le_trans Z2 (Keep.of_wr W4).1
  have KP4 := KP2.wr W4 (Or.inl (List.mem_of_getElem? (i := 0) rfl))
  have N4 := Fr.snoc X4 N3 g_t
  have F4_t_pageShift := F2_t_pageShift.same W4
  obtain ⟨T5, X5, e5, st5⟩ := getF X4 hx hZ hown (host := "") (Or.inl (hw _ (List.mem_of_getElem? (i := 36) rfl))) Via.refl e4 F4_t_pageShift (g := (mkF m 21 #[.val (.ref t), .val (.long keys), .second, .val (.int (0 : Int32)), .unset] [(.ref t), (.int (1 : Int32)), (.ref t)])) rfl rfl (hb hby d1_21)
  obtain ⟨T6, h6, X6, e6, W6, st6⟩ := putF X5 hx hZ hown (host := "") (Or.inl (hw _ (List.mem_of_getElem? (i := 38) rfl))) Via.refl e5 F4_t_pageKeys E4_t (Or.inr ⟨(hw _ (List.mem_of_getElem? (i := 39) rfl)), rfl, hnm⟩) (hw _ (List.mem_of_getElem? (i := 6) rfl)) (ty := .int) (by decide) rfl rfl (g := (mkF m 25 #[.val (.ref t), .val (.long keys), .second, .val (.int (0 : Int32)), .unset] [(.int (Int32.ofNat (2 ^ shN 15 KK))), (.ref t)])) rfl rfl (hb hby d1_25)
  have E6_t := E4_t.wr W6
  have F6_t_numbered := F4_t_numbered.other W6 (Or.inr (slot_ne (Or.inr (hw _ (List.mem_of_getElem? (i := 15) rfl))) (Or.inr (hw _ (List.mem_of_getElem? (i := 39) rfl))) (by decide) (t := .boolean) (t' := .int) (by decide) (by decide)))
  have F6_t_pageShift := F4_t_pageShift.other W6 (Or.inr (slot_ne (Or.inr (hw _ (List.mem_of_getElem? (i := 37) rfl))) (Or.inr (hw _ (List.mem_of_getElem? (i := 39) rfl))) (by decide) (t := .int) (t' := .int) (by decide) (by decide)))
  have F6_t_pageWords := F4_t_pageWords.other W6 (Or.inr (slot_ne (Or.inr (hw _ (List.mem_of_getElem? (i := 47) rfl))) (Or.inr (hw _ (List.mem_of_getElem? (i := 39) rfl))) (by decide) (t := .int) (t' := .int) (by decide) (by decide)))
  have F6_t_bits := F4_t_bits.other W6 (Or.inr (slot_ne (Or.inr (hw _ (List.mem_of_getElem? (i := 54) rfl))) (Or.inr (hw _ (List.mem_of_getElem? (i := 39) rfl))) (by decide) (t := (.array (.array .long))) (t' := .int) (by decide) (by decide)))
  have F6_t_numbers := F4_t_numbers.other W6 (Or.inr (slot_ne (Or.inr (hw _ (List.mem_of_getElem? (i := 56) rfl))) (Or.inr (hw _ (List.mem_of_getElem? (i := 39) rfl))) (by decide) (t := (.array (.array .int))) (t' := .int) (by decide) (by decide)))
  have F6_t_madePages := F4_t_madePages.other W6 (Or.inr (slot_ne (Or.inl (hw _ (List.mem_of_getElem? (i := 65) rfl))) (Or.inr (hw _ (List.mem_of_getElem? (i := 39) rfl))) (by decide) (t := .int) (t' := .int) (by decide) (by decide)))
  have Z6 := Nat.le_trans Z4 (Keep.of_wr W6).1
  have KP6 := KP4.wr W6 (Or.inl (List.mem_of_getElem? (i := 0) rfl))
  have N6 := Fr.snoc X6 N4 g_t
  have F6_t_pageKeys := F4_t_pageKeys.same W6
  obtain ⟨T7, X7, e7, st7⟩ := getF X6 hx hZ hown (host := "") (Or.inl (hw _ (List.mem_of_getElem? (i := 38) rfl))) Via.refl e6 F6_t_pageKeys (g := (mkF m 30 #[.val (.ref t), .val (.long keys), .second, .val (.int (0 : Int32)), .unset] [(.ref t), (.ref t)])) rfl rfl (hb hby d1_30)
  obtain ⟨_, _, ⟨T8, L8, k8, n8⟩, -, X8, ⟨Lc8, hQ8, l8, y8, z8⟩, st8⟩ := Jvm.LawKit.callS X7 hx (y := (⟨"com/example/parley/parley/core/KeyTable", "wordsOf", "(J)I"⟩ : MethodName)) hown (mvT hZ (hw _ (List.mem_of_getElem? (i := 40) rfl))) (mvT hZ (hw _ (List.mem_of_getElem? (i := 41) rfl))) (mvT hZ (hw _ (List.mem_of_getElem? (i := 7) rfl))) (mvT hZ (hw _ (List.mem_of_getElem? (i := 42) rfl))) (by decide) (backOf (W := 1) (rmWords l Z a0 hw [] ((Int32.ofNat (2 ^ shN 15 KK)).toInt64) (shN 15 KK) h6 n0 rfl (Nat.le_trans (own_sh_lt 15 KK) (by decide))) hZ (hw _ (List.mem_of_getElem? (i := 42) rfl)) (hw _ (List.mem_of_getElem? (i := 7) rfl)) (by decide) (by decide)) (g := (mkF m 34 #[.val (.ref t), .val (.long keys), .second, .val (.int (0 : Int32)), .unset] [(.long ((Int32.ofNat (2 ^ shN 15 KK)).toInt64)), (.ref t)])) rfl (by rw [hml]; rfl) (argsL := [(.long ((Int32.ofNat (2 ^ shN 15 KK)).toInt64))]) (rest := [(.ref t)]) (lenOf pd_1 rfl) rfl (by show 2 * 0 + _ ≤ _; exact Nat.le_of_eq rfl) (hb hby d1_34) (fun _ _ => ⟨rfl, e7, (by decide : 0 + 0 ≤ _), (by decide : 0 + 0 ≤ _)⟩)
  dsimp only [Pt.U, Pt.locs, Pt.cells, Pt.slots] at X8 l8 y8 z8 st8 hQ8
  subst l8 y8 z8
  obtain ⟨rfl, N8q, e8⟩ := hQ8
  have N8 := Fr.app N6 N8q
  obtain ⟨T9, h9, X9, e9, W9, st9⟩ := putF X8 hx hZ hown (host := "") (Or.inl (hw _ (List.mem_of_getElem? (i := 46) rfl))) Via.refl e8 F6_t_pageWords E6_t (Or.inr ⟨(hw _ (List.mem_of_getElem? (i := 47) rfl)), rfl, hnm⟩) (hw _ (List.mem_of_getElem? (i := 6) rfl)) (ty := .int) (by decide) rfl rfl (g := (mkF m 37 #[.val (.ref t), .val (.long keys), .second, .val (.int (0 : Int32)), .unset] [(.int (Int32.ofNat (max 1 (2 ^ (shN 15 KK) / 64)))), (.ref t)])) rfl rfl (hb hby d1_37)
  have E9_t := E6_t.wr W9
  have F9_t_numbered := F6_t_numbered.other W9 (Or.inr (slot_ne (Or.inr (hw _ (List.mem_of_getElem? (i := 15) rfl))) (Or.inr (hw _ (List.mem_of_getElem? (i := 47) rfl))) (by decide) (t := .boolean) (t' := .int) (by decide) (by decide)))
  have F9_t_pageShift := F6_t_pageShift.other W9 (Or.inr (slot_ne (Or.inr (hw _ (List.mem_of_getElem? (i := 37) rfl))) (Or.inr (hw _ (List.mem_of_getElem? (i := 47) rfl))) (by decide) (t := .int) (t' := .int) (by decide) (by decide)))
  have F9_t_pageKeys := F6_t_pageKeys.other W9 (Or.inr (slot_ne (Or.inr (hw _ (List.mem_of_getElem? (i := 39) rfl))) (Or.inr (hw _ (List.mem_of_getElem? (i := 47) rfl))) (by decide) (t := .int) (t' := .int) (by decide) (by decide)))
  have F9_t_bits := F6_t_bits.other W9 (Or.inr (slot_ne (Or.inr (hw _ (List.mem_of_getElem? (i := 54) rfl))) (Or.inr (hw _ (List.mem_of_getElem? (i := 47) rfl))) (by decide) (t := (.array (.array .long))) (t' := .int) (by decide) (by decide)))
  have F9_t_numbers := F6_t_numbers.other W9 (Or.inr (slot_ne (Or.inr (hw _ (List.mem_of_getElem? (i := 56) rfl))) (Or.inr (hw _ (List.mem_of_getElem? (i := 47) rfl))) (by decide) (t := (.array (.array .int))) (t' := .int) (by decide) (by decide)))
  have F9_t_madePages := F6_t_madePages.other W9 (Or.inr (slot_ne (Or.inl (hw _ (List.mem_of_getElem? (i := 65) rfl))) (Or.inr (hw _ (List.mem_of_getElem? (i := 47) rfl))) (by decide) (t := .int) (t' := .int) (by decide) (by decide)))
  have Z9 := Nat.le_trans Z6 (Keep.of_wr W9).1
  have KP9 := KP6.wr W9 (Or.inl (List.mem_of_getElem? (i := 0) rfl))
  have N9 := Fr.snoc X9 N8 g_t
  have F9_t_pageWords := F6_t_pageWords.same W9
  obtain ⟨_, _, ⟨T10, L10, k10, n10⟩, -, X10, ⟨Lc10, hQ10, l10, y10, z10⟩, st10⟩ := Jvm.LawKit.callS X9 hx (y := (⟨"com/example/parley/parley/core/KeyTable", "pageCount", "(JZ)I"⟩ : MethodName)) hown (mvT hZ (hw _ (List.mem_of_getElem? (i := 48) rfl))) (mvT hZ (hw _ (List.mem_of_getElem? (i := 49) rfl))) (mvT hZ (hw _ (List.mem_of_getElem? (i := 7) rfl))) (mvT hZ (hw _ (List.mem_of_getElem? (i := 50) rfl))) (by decide) (backOf (W := 0) (rmCountb l Z a0 hw [] keys KK h9 n0 hk qk1 qk2) hZ (hw _ (List.mem_of_getElem? (i := 50) rfl)) (hw _ (List.mem_of_getElem? (i := 7) rfl)) (by decide) (by decide)) (g := (mkF m 42 #[.val (.ref t), .val (.long keys), .second, .val (.int (0 : Int32)), .unset] [(.int (0 : Int32)), (.long keys)])) rfl (by rw [hml]; rfl) (argsL := [(.long keys), (.int (0 : Int32))]) (rest := []) (lenOf pd_4 rfl) rfl (by show 2 * 0 + _ ≤ _; exact Nat.le_of_eq rfl) (hb hby d1_42) (fun _ _ => ⟨rfl, e9, (by decide : 0 + 0 ≤ _), (by decide : 0 + 0 ≤ _)⟩)
  dsimp only [Pt.U, Pt.locs, Pt.cells, Pt.slots] at X10 l10 y10 z10 st10 hQ10
  subst l10 y10 z10
  obtain ⟨rfl, N10q, e10⟩ := hQ10
  have N10 := Fr.app N9 N10q
  have hd11 : (0 : Int32) = (0 : Int32) := rfl
  obtain ⟨T12, h12, c12, X12, e12, E12, A12, Ex12, O12, st12⟩ := newRA X10 hx hZ hown (ty := .long) (C := "[J") (by decide) (hw _ (List.mem_of_getElem? (i := 51) rfl)) (hw _ (List.mem_of_getElem? (i := 52) rfl)) e10 (g := (mkF m 58 #[.val (.ref t), .val (.long keys), .second, .val (.int (0 : Int32)), .val (.int (Int32.ofNat (npN 15 KK)))] [(.int (Int32.ofNat (npN 15 KK))), (.ref t)])) rfl (hb hby d1_58) rfl (own_nn _ hnp31) (cap := 128) (by rw [own_clamp _ hnp31]; exact hnp.1) (by decide) (by decide) (by decide) (ad := "[[J") (by decide)
  obtain ⟨D, g12⟩ : ∃ z, z = h9.size := ⟨_, rfl⟩
  have ne_t_D : t ≠ D := Nat.ne_of_lt (Nat.lt_of_lt_of_le E9_t.lt (Nat.le_of_eq g12.symm))
  have g_D : n0 ≤ D := Nat.le_trans Z9 (Nat.le_of_eq g12.symm)
  have sz_D : h0.size ≤ D := Nat.le_trans KP9.1 (Nat.le_of_eq g12.symm)
  rw [← g12] at A12 st12
  have E12_t := E9_t.ext E12
  have F12_t_numbered := F9_t_numbered.ext E12
  have F12_t_pageShift := F9_t_pageShift.ext E12
  have F12_t_pageKeys := F9_t_pageKeys.ext E12
  have F12_t_pageWords := F9_t_pageWords.ext E12
  have F12_t_bits := F9_t_bits.ext E12
  have F12_t_numbers := F9_t_numbers.ext E12
  have F12_t_madePages := F9_t_madePages.ext E12
  have Z12 := Nat.le_trans Z9 E12.1
  have KP12 := KP9.ext E12
  have V_D : Af Z h12 D c12 (.array .long) (npN 15 KK) (fun _ => .null) := Af.new A12 (own_clamp _ hnp31)
  obtain ⟨T13, h13, X13, e13, W13, st13⟩ := putF X12 hx hZ hown (host := "") (Or.inl (hw _ (List.mem_of_getElem? (i := 53) rfl))) Via.refl e12 F12_t_bits E12_t (Or.inr ⟨(hw _ (List.mem_of_getElem? (i := 54) rfl)), rfl, hnm⟩) (hw _ (List.mem_of_getElem? (i := 6) rfl)) (ty := (.array (.array .long))) (by decide) rfl rfl (g := (mkF m 61 #[.val (.ref t), .val (.long keys), .second, .val (.int (0 : Int32)), .val (.int (Int32.ofNat (npN 15 KK)))] [(.ref D), (.ref t)])) rfl rfl (hb hby d1_61)
  have E13_t := E12_t.wr W13
  have F13_t_numbered := F12_t_numbered.other W13 (Or.inr (slot_ne (Or.inr (hw _ (List.mem_of_getElem? (i := 15) rfl))) (Or.inr (hw _ (List.mem_of_getElem? (i := 54) rfl))) (by decide) (t := .boolean) (t' := (.array (.array .long))) (by decide) (by decide)))
  have F13_t_pageShift := F12_t_pageShift.other W13 (Or.inr (slot_ne (Or.inr (hw _ (List.mem_of_getElem? (i := 37) rfl))) (Or.inr (hw _ (List.mem_of_getElem? (i := 54) rfl))) (by decide) (t := .int) (t' := (.array (.array .long))) (by decide) (by decide)))
  have F13_t_pageKeys := F12_t_pageKeys.other W13 (Or.inr (slot_ne (Or.inr (hw _ (List.mem_of_getElem? (i := 39) rfl))) (Or.inr (hw _ (List.mem_of_getElem? (i := 54) rfl))) (by decide) (t := .int) (t' := (.array (.array .long))) (by decide) (by decide)))
  have F13_t_pageWords := F12_t_pageWords.other W13 (Or.inr (slot_ne (Or.inr (hw _ (List.mem_of_getElem? (i := 47) rfl))) (Or.inr (hw _ (List.mem_of_getElem? (i := 54) rfl))) (by decide) (t := .int) (t' := (.array (.array .long))) (by decide) (by decide)))
  have F13_t_numbers := F12_t_numbers.other W13 (Or.inr (slot_ne (Or.inr (hw _ (List.mem_of_getElem? (i := 56) rfl))) (Or.inr (hw _ (List.mem_of_getElem? (i := 54) rfl))) (by decide) (t := (.array (.array .int))) (t' := (.array (.array .long))) (by decide) (by decide)))
  have F13_t_madePages := F12_t_madePages.other W13 (Or.inr (slot_ne (Or.inl (hw _ (List.mem_of_getElem? (i := 65) rfl))) (Or.inr (hw _ (List.mem_of_getElem? (i := 54) rfl))) (by decide) (t := .int) (t' := (.array (.array .long))) (by decide) (by decide)))
  have A13_D := V_D.other W13 (Ne.symm ne_t_D)
  have Z13 := Nat.le_trans Z12 (Keep.of_wr W13).1
  have KP13 := KP12.wr W13 (Or.inl (List.mem_of_getElem? (i := 0) rfl))
  have N13 := Fr.snoc X13 N10 g_t
  have F13_t_bits := F12_t_bits.same W13
  have hd14 : (0 : Int32) = (0 : Int32) := rfl
  obtain ⟨T15, h15, X15, e15, W15, st15⟩ := putF X13 hx hZ hown (host := "") (Or.inl (hw _ (List.mem_of_getElem? (i := 55) rfl))) Via.refl e13 F13_t_numbers E13_t (Or.inr ⟨(hw _ (List.mem_of_getElem? (i := 56) rfl)), rfl, hnm⟩) (hw _ (List.mem_of_getElem? (i := 6) rfl)) (ty := (.array (.array .int))) (by decide) rfl rfl (g := (mkF m 78 #[.val (.ref t), .val (.long keys), .second, .val (.int (0 : Int32)), .val (.int (Int32.ofNat (npN 15 KK)))] [.null, (.ref t)])) rfl rfl (hb hby d1_78)
  have E15_t := E13_t.wr W15
  have F15_t_numbered := F13_t_numbered.other W15 (Or.inr (slot_ne (Or.inr (hw _ (List.mem_of_getElem? (i := 15) rfl))) (Or.inr (hw _ (List.mem_of_getElem? (i := 56) rfl))) (by decide) (t := .boolean) (t' := (.array (.array .int))) (by decide) (by decide)))
  have F15_t_pageShift := F13_t_pageShift.other W15 (Or.inr (slot_ne (Or.inr (hw _ (List.mem_of_getElem? (i := 37) rfl))) (Or.inr (hw _ (List.mem_of_getElem? (i := 56) rfl))) (by decide) (t := .int) (t' := (.array (.array .int))) (by decide) (by decide)))
  have F15_t_pageKeys := F13_t_pageKeys.other W15 (Or.inr (slot_ne (Or.inr (hw _ (List.mem_of_getElem? (i := 39) rfl))) (Or.inr (hw _ (List.mem_of_getElem? (i := 56) rfl))) (by decide) (t := .int) (t' := (.array (.array .int))) (by decide) (by decide)))
  have F15_t_pageWords := F13_t_pageWords.other W15 (Or.inr (slot_ne (Or.inr (hw _ (List.mem_of_getElem? (i := 47) rfl))) (Or.inr (hw _ (List.mem_of_getElem? (i := 56) rfl))) (by decide) (t := .int) (t' := (.array (.array .int))) (by decide) (by decide)))
  have F15_t_bits := F13_t_bits.other W15 (Or.inr (slot_ne (Or.inr (hw _ (List.mem_of_getElem? (i := 54) rfl))) (Or.inr (hw _ (List.mem_of_getElem? (i := 56) rfl))) (by decide) (t := (.array (.array .long))) (t' := (.array (.array .int))) (by decide) (by decide)))
  have F15_t_madePages := F13_t_madePages.other W15 (Or.inr (slot_ne (Or.inl (hw _ (List.mem_of_getElem? (i := 65) rfl))) (Or.inr (hw _ (List.mem_of_getElem? (i := 56) rfl))) (by decide) (t := .int) (t' := (.array (.array .int))) (by decide) (by decide)))
  have A15_D := A13_D.other W15 (Ne.symm ne_t_D)
  have Z15 := Nat.le_trans Z13 (Keep.of_wr W15).1
  have KP15 := KP13.wr W15 (Or.inl (List.mem_of_getElem? (i := 0) rfl))
  have N15 := Fr.snoc X15 N13 g_t
  have F15_t_numbers := F13_t_numbers.same W15
  have k16 : ∀ tg, Steps p.tables e below (T15.setTop (mkF m 81 #[.val (.ref t), .val (.long keys), .second, .val (.int (0 : Int32)), .val (.int (Int32.ofNat (npN 15 KK)))] [])) tg → Steps p.tables e below (s₁.setTop (entryFrame m #[(.ref t), (.long keys), (.int (0 : Int32))] 5)) tg := by
    intro tg kt
    refine k0 tg ?_
    show Steps p.tables e below (s₁.setTop (mkF m 0 #[.val (.ref t), .val (.long keys), .second, .val (.int (0 : Int32)), .unset] [])) _
    refine XS.aloadN X0.here hx rfl (hb hby d1_0) rfl rfl ?_
    show Steps p.tables e below (s₁.setTop (mkF m 1 #[.val (.ref t), .val (.long keys), .second, .val (.int (0 : Int32)), .unset] [(.ref t)])) _
    refine st1 _ ?_
    show Steps p.tables e below (T1.setTop (mkF m 4 #[.val (.ref t), .val (.long keys), .second, .val (.int (0 : Int32)), .unset] [])) _
    refine XS.aloadN X1.here hx rfl (hb hby d1_4) rfl rfl ?_
    show Steps p.tables e below (T1.setTop (mkF m 5 #[.val (.ref t), .val (.long keys), .second, .val (.int (0 : Int32)), .unset] [(.ref t)])) _
    refine XS.iloadN X1.here hx rfl (hb hby d1_5) rfl ?_
    show Steps p.tables e below (T1.setTop (mkF m 6 #[.val (.ref t), .val (.long keys), .second, .val (.int (0 : Int32)), .unset] [(.int (0 : Int32)), (.ref t)])) _
    refine st2 _ ?_
    show Steps p.tables e below (T2.setTop (mkF m 9 #[.val (.ref t), .val (.long keys), .second, .val (.int (0 : Int32)), .unset] [])) _
    refine XS.aloadN X2.here hx rfl (hb hby d1_9) rfl rfl ?_
    show Steps p.tables e below (T2.setTop (mkF m 10 #[.val (.ref t), .val (.long keys), .second, .val (.int (0 : Int32)), .unset] [(.ref t)])) _
    refine XS.lloadN X2.here hx rfl (hb hby d1_10) rfl ?_
    show Steps p.tables e below (T2.setTop (mkF m 11 #[.val (.ref t), .val (.long keys), .second, .val (.int (0 : Int32)), .unset] [(.long keys), (.ref t)])) _
    refine XS.iloadN X2.here hx rfl (hb hby d1_11) rfl ?_
    show Steps p.tables e below (T2.setTop (mkF m 12 #[.val (.ref t), .val (.long keys), .second, .val (.int (0 : Int32)), .unset] [(.int (0 : Int32)), (.long keys), (.ref t)])) _
    refine st3 _ ?_
    show Steps p.tables e below (T3.setTop (mkF m 15 #[.val (.ref t), .val (.long keys), .second, .val (.int (0 : Int32)), .unset] [(.int (Int32.ofNat (shN 15 KK))), (.ref t)])) _
    refine st4 _ ?_
    show Steps p.tables e below (T4.setTop (mkF m 18 #[.val (.ref t), .val (.long keys), .second, .val (.int (0 : Int32)), .unset] [])) _
    refine XS.aloadN X4.here hx rfl (hb hby d1_18) rfl rfl ?_
    show Steps p.tables e below (T4.setTop (mkF m 19 #[.val (.ref t), .val (.long keys), .second, .val (.int (0 : Int32)), .unset] [(.ref t)])) _
    refine XS.iconst X4.here hx rfl (hb hby d1_19) ?_
    show Steps p.tables e below (T4.setTop (mkF m 20 #[.val (.ref t), .val (.long keys), .second, .val (.int (0 : Int32)), .unset] [(.int (1 : Int32)), (.ref t)])) _
    refine XS.aloadN X4.here hx rfl (hb hby d1_20) rfl rfl ?_
    show Steps p.tables e below (T4.setTop (mkF m 21 #[.val (.ref t), .val (.long keys), .second, .val (.int (0 : Int32)), .unset] [(.ref t), (.int (1 : Int32)), (.ref t)])) _
    refine st5 _ ?_
    show Steps p.tables e below (T5.setTop (mkF m 24 #[.val (.ref t), .val (.long keys), .second, .val (.int (0 : Int32)), .unset] [(.int (Int32.ofNat (shN 15 KK))), (.int (1 : Int32)), (.ref t)])) _
    refine XS.ishl X5.here hx rfl (hb hby d1_24) rfl ?_
    show Steps p.tables e below (T5.setTop (mkF m 25 #[.val (.ref t), .val (.long keys), .second, .val (.int (0 : Int32)), .unset] [(.int ((1 : Int32) <<< ((Int32.ofNat (shN 15 KK)) &&& 31))), (.ref t)])) _
    rw [(own_one_shl (shN 15 KK) (by have := own_sh_lt 15 KK; omega))]
    show Steps p.tables e below (T5.setTop (mkF m 25 #[.val (.ref t), .val (.long keys), .second, .val (.int (0 : Int32)), .unset] [(.int (Int32.ofNat (2 ^ shN 15 KK))), (.ref t)])) _
    refine st6 _ ?_
    show Steps p.tables e below (T6.setTop (mkF m 28 #[.val (.ref t), .val (.long keys), .second, .val (.int (0 : Int32)), .unset] [])) _
    refine XS.aloadN X6.here hx rfl (hb hby d1_28) rfl rfl ?_
    show Steps p.tables e below (T6.setTop (mkF m 29 #[.val (.ref t), .val (.long keys), .second, .val (.int (0 : Int32)), .unset] [(.ref t)])) _
    refine XS.aloadN X6.here hx rfl (hb hby d1_29) rfl rfl ?_
    show Steps p.tables e below (T6.setTop (mkF m 30 #[.val (.ref t), .val (.long keys), .second, .val (.int (0 : Int32)), .unset] [(.ref t), (.ref t)])) _
    refine st7 _ ?_
    show Steps p.tables e below (T7.setTop (mkF m 33 #[.val (.ref t), .val (.long keys), .second, .val (.int (0 : Int32)), .unset] [(.int (Int32.ofNat (2 ^ shN 15 KK))), (.ref t)])) _
    refine XS.i2l X7.here hx rfl (hb hby d1_33) rfl ?_
    show Steps p.tables e below (T7.setTop (mkF m 34 #[.val (.ref t), .val (.long keys), .second, .val (.int (0 : Int32)), .unset] [(.long ((Int32.ofNat (2 ^ shN 15 KK)).toInt64)), (.ref t)])) _
    refine st8 _ ?_
    show Steps p.tables e below (T8.setTop (mkF m 37 #[.val (.ref t), .val (.long keys), .second, .val (.int (0 : Int32)), .unset] [(.int (Int32.ofNat (max 1 (2 ^ (shN 15 KK) / 64)))), (.ref t)])) _
    refine st9 _ ?_
    show Steps p.tables e below (T9.setTop (mkF m 40 #[.val (.ref t), .val (.long keys), .second, .val (.int (0 : Int32)), .unset] [])) _
    refine XS.lloadN X9.here hx rfl (hb hby d1_40) rfl ?_
    show Steps p.tables e below (T9.setTop (mkF m 41 #[.val (.ref t), .val (.long keys), .second, .val (.int (0 : Int32)), .unset] [(.long keys)])) _
    refine XS.iloadN X9.here hx rfl (hb hby d1_41) rfl ?_
    show Steps p.tables e below (T9.setTop (mkF m 42 #[.val (.ref t), .val (.long keys), .second, .val (.int (0 : Int32)), .unset] [(.int (0 : Int32)), (.long keys)])) _
    refine st10 _ ?_
    show Steps p.tables e below (T10.setTop (mkF m 45 #[.val (.ref t), .val (.long keys), .second, .val (.int (0 : Int32)), .unset] [(.int (Int32.ofNat (npN 15 KK)))])) _
    refine XS.istore X10.here hx rfl (hb hby d1_45) rfl (l' := #[.val (.ref t), .val (.long keys), .second, .val (.int (0 : Int32)), .val (.int (Int32.ofNat (npN 15 KK)))]) rfl ?_
    show Steps p.tables e below (T10.setTop (mkF m 47 #[.val (.ref t), .val (.long keys), .second, .val (.int (0 : Int32)), .val (.int (Int32.ofNat (npN 15 KK)))] [])) _
    refine XS.aloadN X10.here hx rfl (hb hby d1_47) rfl rfl ?_
    show Steps p.tables e below (T10.setTop (mkF m 48 #[.val (.ref t), .val (.long keys), .second, .val (.int (0 : Int32)), .val (.int (Int32.ofNat (npN 15 KK)))] [(.ref t)])) _
    refine XS.iloadN X10.here hx rfl (hb hby d1_48) rfl ?_
    show Steps p.tables e below (T10.setTop (mkF m 49 #[.val (.ref t), .val (.long keys), .second, .val (.int (0 : Int32)), .val (.int (Int32.ofNat (npN 15 KK)))] [(.int (0 : Int32)), (.ref t)])) _
    refine XS.ifYes X10.here hx rfl (pc0 := 49) (pc' := 56) rfl (hb hby d1_49) rfl ((if0 _ _).trans (teq hd11).1) (by decide) (by decide) ?_
    show Steps p.tables e below (T10.setTop (mkF m 56 #[.val (.ref t), .val (.long keys), .second, .val (.int (0 : Int32)), .val (.int (Int32.ofNat (npN 15 KK)))] [(.ref t)])) _
    refine XS.iload X10.here hx rfl (hb hby d1_56) rfl ?_
    show Steps p.tables e below (T10.setTop (mkF m 58 #[.val (.ref t), .val (.long keys), .second, .val (.int (0 : Int32)), .val (.int (Int32.ofNat (npN 15 KK)))] [(.int (Int32.ofNat (npN 15 KK))), (.ref t)])) _
    refine st12 _ ?_
    show Steps p.tables e below (T12.setTop (mkF m 61 #[.val (.ref t), .val (.long keys), .second, .val (.int (0 : Int32)), .val (.int (Int32.ofNat (npN 15 KK)))] [(.ref D), (.ref t)])) _
    refine st13 _ ?_
    show Steps p.tables e below (T13.setTop (mkF m 64 #[.val (.ref t), .val (.long keys), .second, .val (.int (0 : Int32)), .val (.int (Int32.ofNat (npN 15 KK)))] [])) _
    refine XS.aloadN X13.here hx rfl (hb hby d1_64) rfl rfl ?_
    show Steps p.tables e below (T13.setTop (mkF m 65 #[.val (.ref t), .val (.long keys), .second, .val (.int (0 : Int32)), .val (.int (Int32.ofNat (npN 15 KK)))] [(.ref t)])) _
    refine XS.iloadN X13.here hx rfl (hb hby d1_65) rfl ?_
    show Steps p.tables e below (T13.setTop (mkF m 66 #[.val (.ref t), .val (.long keys), .second, .val (.int (0 : Int32)), .val (.int (Int32.ofNat (npN 15 KK)))] [(.int (0 : Int32)), (.ref t)])) _
    refine XS.ifYes X13.here hx rfl (pc0 := 66) (pc' := 77) rfl (hb hby d1_66) rfl ((if0 _ _).trans (teq hd14).1) (by decide) (by decide) ?_
    show Steps p.tables e below (T13.setTop (mkF m 77 #[.val (.ref t), .val (.long keys), .second, .val (.int (0 : Int32)), .val (.int (Int32.ofNat (npN 15 KK)))] [(.ref t)])) _
    refine XS.aconstNull X13.here hx rfl (hb hby d1_77) ?_
    show Steps p.tables e below (T13.setTop (mkF m 78 #[.val (.ref t), .val (.long keys), .second, .val (.int (0 : Int32)), .val (.int (Int32.ofNat (npN 15 KK)))] [.null, (.ref t)])) _
    refine st15 _ ?_
    show Steps p.tables e below (T15.setTop (mkF m 81 #[.val (.ref t), .val (.long keys), .second, .val (.int (0 : Int32)), .val (.int (Int32.ofNat (npN 15 KK)))] [])) _
    exact kt
  obtain ⟨fs, hr, hrun, hended, hW, hsame⟩ := X15.leave (v := none) (fun _ => rfl)
  refine ⟨_, _, k16 _ ?_, hrun, hended, _, _, rfl, ?_, ⟨_, rfl⟩, hW, hsame.mono (by decide) (by decide)⟩
  · exact X15.returnOut hx Bd.returns (hb hby d1_81) hr
  · show QK Z t (0 : Int32) "bits" "[[J" .long "[J" (shN 15 KK) (npN 15 KK) (max 1 (2 ^ (shN 15 KK) / 64)) (.long (0 : Int64)) (fun _ => false) (fun _ _ => (.long (0 : Int64))) (0 : Int32) h0 n0 _ T15.heap _
    rw [e15]
    exact ⟨rfl, N15, KP15.1, E15_t, F15_t_numbered, F15_t_pageShift, F15_t_pageKeys, F15_t_pageWords, F15_t_madePages, g_t, D, c12, fun _ => none, F15_t_bits, A15_D, O12, g_D, ne_t_D, fun _ => rfl, fun _ _ q => (by cases q), fun _ _ _ q => (by cases q), fun _ _ _ => rfl⟩
theorem d11_0 : decode prog_121_method_11_code 0 = .ok (.lload_n 1, 1) := by decide +kernel
theorem d11_1 : decode prog_121_method_11_code 1 = .ok (.aload_n 0, 1) := by decide +kernel
theorem d11_2 : decode prog_121_method_11_code 2 = .ok (.getfield 17, 3) := by decide +kernel
theorem d11_5 : decode prog_121_method_11_code 5 = .ok (.lushr, 1) := by decide +kernel
theorem d11_6 : decode prog_121_method_11_code 6 = .ok (.l2i, 1) := by decide +kernel
theorem d11_7 : decode prog_121_method_11_code 7 = .ok (.istore 4, 2) := by decide +kernel
theorem d11_9 : decode prog_121_method_11_code 9 = .ok (.lload_n 1, 1) := by decide +kernel
theorem d11_10 : decode prog_121_method_11_code 10 = .ok (.l2i, 1) := by decide +kernel
theorem d11_11 : decode prog_121_method_11_code 11 = .ok (.aload_n 0, 1) := by decide +kernel
theorem d11_12 : decode prog_121_method_11_code 12 = .ok (.getfield 20, 3) := by decide +kernel
theorem d11_15 : decode prog_121_method_11_code 15 = .ok (.iconst 1, 1) := by decide +kernel
theorem d11_16 : decode prog_121_method_11_code 16 = .ok (.isub, 1) := by decide +kernel
theorem d11_17 : decode prog_121_method_11_code 17 = .ok (.iand, 1) := by decide +kernel
theorem d11_18 : decode prog_121_method_11_code 18 = .ok (.istore 5, 2) := by decide +kernel
theorem d11_20 : decode prog_121_method_11_code 20 = .ok (.aload_n 0, 1) := by decide +kernel
theorem d11_21 : decode prog_121_method_11_code 21 = .ok (.getfield 7, 3) := by decide +kernel
theorem d11_24 : decode prog_121_method_11_code 24 = .ok (.ifCond .eq 52, 3) := by decide +kernel
theorem d11_27 : decode prog_121_method_11_code 27 = .ok (.aload_n 0, 1) := by decide +kernel
theorem d11_28 : decode prog_121_method_11_code 28 = .ok (.getfield 41, 3) := by decide +kernel
theorem d11_31 : decode prog_121_method_11_code 31 = .ok (.iload 4, 2) := by decide +kernel
theorem d11_33 : decode prog_121_method_11_code 33 = .ok (.aaload, 1) := by decide +kernel
theorem d11_34 : decode prog_121_method_11_code 34 = .ok (.ifnonnull 26, 3) := by decide +kernel
theorem d11_60 : decode prog_121_method_11_code 60 = .ok (.aload_n 0, 1) := by decide +kernel
theorem d11_61 : decode prog_121_method_11_code 61 = .ok (.getfield 41, 3) := by decide +kernel
theorem d11_64 : decode prog_121_method_11_code 64 = .ok (.iload 4, 2) := by decide +kernel
theorem d11_66 : decode prog_121_method_11_code 66 = .ok (.aaload, 1) := by decide +kernel
theorem d11_67 : decode prog_121_method_11_code 67 = .ok (.iload 5, 2) := by decide +kernel
theorem d11_69 : decode prog_121_method_11_code 69 = .ok (.iload_n 3, 1) := by decide +kernel
theorem d11_70 : decode prog_121_method_11_code 70 = .ok (.iconst 1, 1) := by decide +kernel
theorem d11_71 : decode prog_121_method_11_code 71 = .ok (.iadd, 1) := by decide +kernel
theorem d11_72 : decode prog_121_method_11_code 72 = .ok (.iastore, 1) := by decide +kernel
theorem d11_73 : decode prog_121_method_11_code 73 = .ok (.goto 56, 3) := by decide +kernel
theorem d11_129 : decode prog_121_method_11_code 129 = .ok (.return_, 1) := by decide +kernel
theorem pn_11 : plainName "com/example/parley/parley/core/KeyTable" = true := by first | (simp [plainName, overriddenIn]; done) | decide +kernel
theorem ef_rmMarkno (m : MethodId) (t : Addr) (key : Int64) (number : Int32) : entryFrame m #[(.ref t), (.long key), (.int number)] 6 = mkF m 0 #[.val (.ref t), .val (.long key), .second, .val (.int number), .unset, .unset] [] := by first | (simp [entryFrame, mkF, argsToLocals, Value.category]; done) | rfl
set_option maxRecDepth 65536 in
set_option maxHeartbeats 40000000 in
theorem rmMarkno (l : Launch) (Z : State) (a0 : Array Value) (hw : ∀ d ∈ tables_1, d.before a0 Z = true) (ws : List Jvm.Cond) (t : Addr) (key : Int64) (number : Int32) (S np P Ix X : Nat) (md : Nat → Bool) (g : Nat → Nat → Value) (cnt : Int32) (h0 : Heap) (n0 : Nat) (Z0 : n0 ≤ h0.size) (hS : S ≤ 15) (hX : key.toInt = X) (hX2 : X < 2 ^ 30) (hP : P = X / 2 ^ S) (hI : Ix = X % 2 ^ S) (hPn : P < np) (hn31 : np < 2 ^ 31) (HK : KT Z h0 n0 t (1 : Int32) "numbers" "[[I" .int "[I" S np (2 ^ S) (.int (0 : Int32)) md g cnt) (hcap : 2 ^ S ≤ 1024) (hm : md P = true) :
    MetFree l (⟨"com/example/parley/parley/core/KeyTable", "mark", "(JI)V"⟩ : MethodName) (head1 (Jvm.Cond.code (⟨"com/example/parley/parley/core/KeyTable", "mark", "(JI)V"⟩ : MethodName) prog_121_method_11_code 6 none :: ws) ({ frames := 0, cells := 1, slots := 1024, locals := 0 } : Room)) (fun a_ U_ => a_ = #[(.ref t), (.long key), (.int number)] ∧ Z.Warmed39 U_.vm ∧ U_.heap = h0) (fun _ _ _ _ _ => True) (fun _ U_ o_ U'_ => ∃ v_ L_, o_ = .returned v_ ∧ QK Z t (1 : Int32) "numbers" "[[I" .int "[I" S np (2 ^ S) (.int (0 : Int32)) (updM md P) (updG g P Ix (.int (number + (1 : Int32)))) cnt h0 n0 v_ U'_.heap L_ ∧ FrameEnd U_ o_ U'_ L_ ({ frames := 0, cells := 1, slots := 1024, locals := 0 } : Room).cells ({ frames := 0, cells := 1, slots := 1024, locals := 0 } : Room).slots) := by
  refine MetFree.of_bodySF (plainFor_of_name pn_11) hisR ?_
  intro p e s m args below meth c s₁ Bd hml0 hP hK
  obtain ⟨rfl, hZ, hh⟩ := hP
  have hx := Bd.exec
  have hby := Bd.bytes
  have hml : c.maxLocals = 6 := hml0
  have hown : s.vm.findClass "com/example/parley/parley/core/KeyTable" = some m.cls := findClass_of_methodNamed Bd.named
  have hnm := (name_of_methodNamed Bd.named Bd.method).1
  have X0 : Stand p l e ({ frames := 0, cells := 1, slots := 1024, locals := 0 } : Room) s m #[(.ref t), (.long key), (.int number)] below meth c s₁ [] 0 0 := Stand.of_body Bd
  have e0 : s₁.heap = h0 := by rw [← hh, Bd.state]; rfl
  have N0 := Fr.nil n0
  have k0 : ∀ tg, Steps p.tables e below (s₁.setTop (mkF m 0 #[.val (.ref t), .val (.long key), .second, .val (.int number), .unset, .unset] [])) tg → Steps p.tables e below (s₁.setTop (entryFrame m #[(.ref t), (.long key), (.int number)] 6)) tg := fun tg kq_ => castTop (ef_rmMarkno m t key number) kq_
  obtain ⟨E_t, F_numbered, F_pageShift, F_pageKeys, F_pageWords, F_madePages, g_t, D, kD, dir, F_dir, V_D, OD, g_D, ne_t_D, hmd, hpg, hinj, hun⟩ := HK
  have hP31 : P < 2 ^ 31 := Nat.lt_trans hPn hn31
  have h2S : 2 ^ S ≤ 2 ^ 15 := Nat.pow_le_pow_right (by decide) hS
  have hIl : Ix < 2 ^ S := by rw [hI]; exact Nat.mod_lt _ (Nat.pow_pos (by decide))
  have hI31 : Ix < 2 ^ 31 := by omega
  have hWl : Ix / 64 < max 1 (2 ^ S / 64) := own_wix Ix S hIl
  have hW31 : Ix / 64 < 2 ^ 31 := by omega
  have hpl1 : 2 ^ S < 2 ^ 31 := by omega
  have hpl2 : max 1 (2 ^ S / 64) < 2 ^ 31 := by omega
  have hpl3 : max 1 (2 ^ S / 64) ≤ 512 := by omega
  obtain ⟨pa, ha⟩ : ∃ pa, dir P = some pa := Option.isSome_iff_exists.mp ((hmd P).trans hm)
  obtain ⟨ne_pa_t, ne_pa_D, g_pa, ka, V_pa⟩ := hpg P pa ha
  obtain ⟨T1, X1, e1, st1⟩ := getF X0 hx hZ hown (host := "") (Or.inl (hw _ (List.mem_of_getElem? (i := 36) rfl))) Via.refl e0 F_pageShift (g := (mkF m 2 #[.val (.ref t), .val (.long key), .second, .val (.int number), .unset, .unset] [(.ref t), (.long key)])) rfl rfl (hb hby d11_2)
  obtain ⟨T2, X2, e2, st2⟩ := getF X1 hx hZ hown (host := "") (Or.inl (hw _ (List.mem_of_getElem? (i := 38) rfl))) Via.refl e1 F_pageKeys (g := (mkF m 12 #[.val (.ref t), .val (.long key), .second, .val (.int number), .val (.int (Int32.ofNat P)), .unset] [(.ref t), (.int (key.toInt32))])) rfl rfl (hb hby d11_12)
  obtain ⟨T3, X3, e3, st3⟩ := getF X2 hx hZ hown (host := "") (Or.inl (hw _ (List.mem_of_getElem? (i := 14) rfl))) Via.refl e2 F_numbered (g := (mkF m 21 #[.val (.ref t), .val (.long key), .second, .val (.int number), .val (.int (Int32.ofNat P)), .val (.int (Int32.ofNat Ix))] [(.ref t)])) rfl rfl (hb hby d11_21)
  have hd4 : ¬ ((1 : Int32) = (0 : Int32)) := by decide
  obtain ⟨T5, X5, e5, st5⟩ := getF X3 hx hZ hown (host := "") (Or.inl (hw _ (List.mem_of_getElem? (i := 55) rfl))) Via.refl e3 F_dir (g := (mkF m 28 #[.val (.ref t), .val (.long key), .second, .val (.int number), .val (.int (Int32.ofNat P)), .val (.int (Int32.ofNat Ix))] [(.ref t)])) rfl rfl (hb hby d11_28)
  obtain ⟨cl33_6, Ar33_6, q33_6, S33_6, H33_6⟩ := id V_D
  have hin33_6 : ¬ ((Int32.ofNat P) < 0 ∨ cl33_6.slots.size ≤ ((Int32.ofNat P)).toNatClampNeg) := own_inb S33_6 (own_nn _ hP31) (by rw [own_clamp _ hP31]; exact hPn)
  have hat33_6 : cl33_6.slots[((Int32.ofNat P)).toNatClampNeg]? = some (.ref pa) := by rw [own_clamp _ hP31]; exact (H33_6 _ hPn).trans (congrArg some (by show dirV (dir P) = _; rw [ha]; rfl))
  obtain ⟨T7, X7, e7, st7⟩ := getF X5 hx hZ hown (host := "") (Or.inl (hw _ (List.mem_of_getElem? (i := 55) rfl))) Via.refl e5 F_dir (g := (mkF m 61 #[.val (.ref t), .val (.long key), .second, .val (.int number), .val (.int (Int32.ofNat P)), .val (.int (Int32.ofNat Ix))] [(.ref t)])) rfl rfl (hb hby d11_61)
  obtain ⟨cl66_8, Ar66_8, q66_8, S66_8, H66_8⟩ := id V_D
  have hin66_8 : ¬ ((Int32.ofNat P) < 0 ∨ cl66_8.slots.size ≤ ((Int32.ofNat P)).toNatClampNeg) := own_inb S66_8 (own_nn _ hP31) (by rw [own_clamp _ hP31]; exact hPn)
  have hat66_8 : cl66_8.slots[((Int32.ofNat P)).toNatClampNeg]? = some (.ref pa) := by rw [own_clamp _ hP31]; exact (H66_8 _ hPn).trans (congrArg some (by show dirV (dir P) = _; rw [ha]; rfl))
  obtain ⟨cl72_9, Ar72_9, q72_9, S72_9, H72_9⟩ := id V_pa
  have hin72_9 : ¬ ((Int32.ofNat Ix) < 0 ∨ cl72_9.slots.size ≤ ((Int32.ofNat Ix)).toNatClampNeg) := own_inb S72_9 (own_nn _ hI31) (by rw [own_clamp _ hI31]; exact hIl)
  obtain ⟨T10, h10, X10, e10, W10, st10⟩ := stI X7 hx hZ e7 Ar72_9 (j := (Int32.ofNat Ix)) hin72_9 (g := (mkF m 72 #[.val (.ref t), .val (.long key), .second, .val (.int number), .val (.int (Int32.ofNat P)), .val (.int (Int32.ofNat Ix))] [(.int (number + (1 : Int32))), (.int (Int32.ofNat Ix)), (.ref pa)])) rfl rfl (hb hby d11_72)
  have E10_t := E_t.wr W10
  have F10_t_numbered := F_numbered.other W10 (Or.inl (Ne.symm ne_pa_t))
  have F10_t_pageShift := F_pageShift.other W10 (Or.inl (Ne.symm ne_pa_t))
  have F10_t_pageKeys := F_pageKeys.other W10 (Or.inl (Ne.symm ne_pa_t))
  have F10_t_pageWords := F_pageWords.other W10 (Or.inl (Ne.symm ne_pa_t))
  have F10_t_madePages := F_madePages.other W10 (Or.inl (Ne.symm ne_pa_t))
  have F10_t_numbers := F_dir.other W10 (Or.inl (Ne.symm ne_pa_t))
  have A10_D := V_D.other W10 (Ne.symm ne_pa_D)
  have Z10 := Nat.le_trans Z0 (Keep.of_wr W10).1
  have KP10 := (Keep.refl h0 [t, D, pa]).wr W10 (Or.inl (List.mem_of_getElem? (i := 2) rfl))
  have N10 := Fr.snoc X10 N0 g_pa
  have A10_pa : Af Z h10 pa ka .int (2 ^ S) (fun i => if i = Ix then (.int (number + (1 : Int32))) else (g P) i) := by have q := Af.set Ar72_9 q72_9 S72_9 H72_9 W10; rw [own_clamp _ hI31] at q; exact q
  have k11 : ∀ tg, Steps p.tables e below (T10.setTop (mkF m 129 #[.val (.ref t), .val (.long key), .second, .val (.int number), .val (.int (Int32.ofNat P)), .val (.int (Int32.ofNat Ix))] [])) tg → Steps p.tables e below (s₁.setTop (entryFrame m #[(.ref t), (.long key), (.int number)] 6)) tg := by
    intro tg kt
    refine k0 tg ?_
    show Steps p.tables e below (s₁.setTop (mkF m 0 #[.val (.ref t), .val (.long key), .second, .val (.int number), .unset, .unset] [])) _
    refine XS.lloadN X0.here hx rfl (hb hby d11_0) rfl ?_
    show Steps p.tables e below (s₁.setTop (mkF m 1 #[.val (.ref t), .val (.long key), .second, .val (.int number), .unset, .unset] [(.long key)])) _
    refine XS.aloadN X0.here hx rfl (hb hby d11_1) rfl rfl ?_
    show Steps p.tables e below (s₁.setTop (mkF m 2 #[.val (.ref t), .val (.long key), .second, .val (.int number), .unset, .unset] [(.ref t), (.long key)])) _
    refine st1 _ ?_
    show Steps p.tables e below (T1.setTop (mkF m 5 #[.val (.ref t), .val (.long key), .second, .val (.int number), .unset, .unset] [(.int (Int32.ofNat S)), (.long key)])) _
    refine XS.lushr X1.here hx rfl (hb hby d11_5) rfl ?_
    show Steps p.tables e below (T1.setTop (mkF m 6 #[.val (.ref t), .val (.long key), .second, .val (.int number), .unset, .unset] [(.long ((key.toUInt64 >>> ((Int32.ofNat S) &&& 0x3f).toInt64.toUInt64).toInt64))])) _
    refine XS.l2i X1.here hx rfl (hb hby d11_6) rfl ?_
    show Steps p.tables e below (T1.setTop (mkF m 7 #[.val (.ref t), .val (.long key), .second, .val (.int number), .unset, .unset] [(.int (((key.toUInt64 >>> ((Int32.ofNat S) &&& 0x3f).toInt64.toUInt64).toInt64).toInt32))])) _
    rw [(own_pageI key X S P hX hX2 hS hP)]
    show Steps p.tables e below (T1.setTop (mkF m 7 #[.val (.ref t), .val (.long key), .second, .val (.int number), .unset, .unset] [(.int (Int32.ofNat P))])) _
    refine XS.istore X1.here hx rfl (hb hby d11_7) rfl (l' := #[.val (.ref t), .val (.long key), .second, .val (.int number), .val (.int (Int32.ofNat P)), .unset]) rfl ?_
    show Steps p.tables e below (T1.setTop (mkF m 9 #[.val (.ref t), .val (.long key), .second, .val (.int number), .val (.int (Int32.ofNat P)), .unset] [])) _
    refine XS.lloadN X1.here hx rfl (hb hby d11_9) rfl ?_
    show Steps p.tables e below (T1.setTop (mkF m 10 #[.val (.ref t), .val (.long key), .second, .val (.int number), .val (.int (Int32.ofNat P)), .unset] [(.long key)])) _
    refine XS.l2i X1.here hx rfl (hb hby d11_10) rfl ?_
    show Steps p.tables e below (T1.setTop (mkF m 11 #[.val (.ref t), .val (.long key), .second, .val (.int number), .val (.int (Int32.ofNat P)), .unset] [(.int (key.toInt32))])) _
    refine XS.aloadN X1.here hx rfl (hb hby d11_11) rfl rfl ?_
    show Steps p.tables e below (T1.setTop (mkF m 12 #[.val (.ref t), .val (.long key), .second, .val (.int number), .val (.int (Int32.ofNat P)), .unset] [(.ref t), (.int (key.toInt32))])) _
    refine st2 _ ?_
    show Steps p.tables e below (T2.setTop (mkF m 15 #[.val (.ref t), .val (.long key), .second, .val (.int number), .val (.int (Int32.ofNat P)), .unset] [(.int (Int32.ofNat (2 ^ S))), (.int (key.toInt32))])) _
    refine XS.iconst X2.here hx rfl (hb hby d11_15) ?_
    show Steps p.tables e below (T2.setTop (mkF m 16 #[.val (.ref t), .val (.long key), .second, .val (.int number), .val (.int (Int32.ofNat P)), .unset] [(.int (1 : Int32)), (.int (Int32.ofNat (2 ^ S))), (.int (key.toInt32))])) _
    refine XS.isub X2.here hx rfl (hb hby d11_16) rfl ?_
    show Steps p.tables e below (T2.setTop (mkF m 17 #[.val (.ref t), .val (.long key), .second, .val (.int number), .val (.int (Int32.ofNat P)), .unset] [(.int ((Int32.ofNat (2 ^ S)) - (1 : Int32))), (.int (key.toInt32))])) _
    refine XS.iand X2.here hx rfl (hb hby d11_17) rfl ?_
    show Steps p.tables e below (T2.setTop (mkF m 18 #[.val (.ref t), .val (.long key), .second, .val (.int number), .val (.int (Int32.ofNat P)), .unset] [(.int ((key.toInt32) &&& ((Int32.ofNat (2 ^ S)) - (1 : Int32))))])) _
    rw [(own_ixI key X S Ix hX hX2 hS hI)]
    show Steps p.tables e below (T2.setTop (mkF m 18 #[.val (.ref t), .val (.long key), .second, .val (.int number), .val (.int (Int32.ofNat P)), .unset] [(.int (Int32.ofNat Ix))])) _
    refine XS.istore X2.here hx rfl (hb hby d11_18) rfl (l' := #[.val (.ref t), .val (.long key), .second, .val (.int number), .val (.int (Int32.ofNat P)), .val (.int (Int32.ofNat Ix))]) rfl ?_
    show Steps p.tables e below (T2.setTop (mkF m 20 #[.val (.ref t), .val (.long key), .second, .val (.int number), .val (.int (Int32.ofNat P)), .val (.int (Int32.ofNat Ix))] [])) _
    refine XS.aloadN X2.here hx rfl (hb hby d11_20) rfl rfl ?_
    show Steps p.tables e below (T2.setTop (mkF m 21 #[.val (.ref t), .val (.long key), .second, .val (.int number), .val (.int (Int32.ofNat P)), .val (.int (Int32.ofNat Ix))] [(.ref t)])) _
    refine st3 _ ?_
    show Steps p.tables e below (T3.setTop (mkF m 24 #[.val (.ref t), .val (.long key), .second, .val (.int number), .val (.int (Int32.ofNat P)), .val (.int (Int32.ofNat Ix))] [(.int (1 : Int32))])) _
    refine XS.ifNo X3.here hx rfl (hb hby d11_24) rfl ((if0 _ _).trans (feq hd4).1) ?_
    show Steps p.tables e below (T3.setTop (mkF m 27 #[.val (.ref t), .val (.long key), .second, .val (.int number), .val (.int (Int32.ofNat P)), .val (.int (Int32.ofNat Ix))] [])) _
    refine XS.aloadN X3.here hx rfl (hb hby d11_27) rfl rfl ?_
    show Steps p.tables e below (T3.setTop (mkF m 28 #[.val (.ref t), .val (.long key), .second, .val (.int number), .val (.int (Int32.ofNat P)), .val (.int (Int32.ofNat Ix))] [(.ref t)])) _
    refine st5 _ ?_
    show Steps p.tables e below (T5.setTop (mkF m 31 #[.val (.ref t), .val (.long key), .second, .val (.int number), .val (.int (Int32.ofNat P)), .val (.int (Int32.ofNat Ix))] [(.ref D)])) _
    refine XS.iload X5.here hx rfl (hb hby d11_31) rfl ?_
    show Steps p.tables e below (T5.setTop (mkF m 33 #[.val (.ref t), .val (.long key), .second, .val (.int number), .val (.int (Int32.ofNat P)), .val (.int (Int32.ofNat Ix))] [(.int (Int32.ofNat P)), (.ref D)])) _
    refine X5.aaload hx (j := (Int32.ofNat P)) (v := (.ref pa)) (by rw [e5]; exact Ar33_6.1) (State.isArrayOf_alike hZ.alike Ar33_6.2.1) rfl Ar33_6.2.2 hin33_6 hat33_6 (g := (mkF m 33 #[.val (.ref t), .val (.long key), .second, .val (.int number), .val (.int (Int32.ofNat P)), .val (.int (Int32.ofNat Ix))] [(.int (Int32.ofNat P)), (.ref D)])) rfl rfl (hb hby d11_33) _ ?_
    show Steps p.tables e below (T5.setTop (mkF m 34 #[.val (.ref t), .val (.long key), .second, .val (.int number), .val (.int (Int32.ofNat P)), .val (.int (Int32.ofNat Ix))] [(.ref pa)])) _
    refine XS.ifnonnullYes X5.here hx rfl (pc0 := 34) (pc' := 60) rfl (hb hby d11_34) rfl (by decide) (by decide) ?_
    show Steps p.tables e below (T5.setTop (mkF m 60 #[.val (.ref t), .val (.long key), .second, .val (.int number), .val (.int (Int32.ofNat P)), .val (.int (Int32.ofNat Ix))] [])) _
    refine XS.aloadN X5.here hx rfl (hb hby d11_60) rfl rfl ?_
    show Steps p.tables e below (T5.setTop (mkF m 61 #[.val (.ref t), .val (.long key), .second, .val (.int number), .val (.int (Int32.ofNat P)), .val (.int (Int32.ofNat Ix))] [(.ref t)])) _
    refine st7 _ ?_
    show Steps p.tables e below (T7.setTop (mkF m 64 #[.val (.ref t), .val (.long key), .second, .val (.int number), .val (.int (Int32.ofNat P)), .val (.int (Int32.ofNat Ix))] [(.ref D)])) _
    refine XS.iload X7.here hx rfl (hb hby d11_64) rfl ?_
    show Steps p.tables e below (T7.setTop (mkF m 66 #[.val (.ref t), .val (.long key), .second, .val (.int number), .val (.int (Int32.ofNat P)), .val (.int (Int32.ofNat Ix))] [(.int (Int32.ofNat P)), (.ref D)])) _
    refine X7.aaload hx (j := (Int32.ofNat P)) (v := (.ref pa)) (by rw [e7]; exact Ar66_8.1) (State.isArrayOf_alike hZ.alike Ar66_8.2.1) rfl Ar66_8.2.2 hin66_8 hat66_8 (g := (mkF m 66 #[.val (.ref t), .val (.long key), .second, .val (.int number), .val (.int (Int32.ofNat P)), .val (.int (Int32.ofNat Ix))] [(.int (Int32.ofNat P)), (.ref D)])) rfl rfl (hb hby d11_66) _ ?_
    show Steps p.tables e below (T7.setTop (mkF m 67 #[.val (.ref t), .val (.long key), .second, .val (.int number), .val (.int (Int32.ofNat P)), .val (.int (Int32.ofNat Ix))] [(.ref pa)])) _
    refine XS.iload X7.here hx rfl (hb hby d11_67) rfl ?_
    show Steps p.tables e below (T7.setTop (mkF m 69 #[.val (.ref t), .val (.long key), .second, .val (.int number), .val (.int (Int32.ofNat P)), .val (.int (Int32.ofNat Ix))] [(.int (Int32.ofNat Ix)), (.ref pa)])) _
    refine XS.iloadN X7.here hx rfl (hb hby d11_69) rfl ?_
    show Steps p.tables e below (T7.setTop (mkF m 70 #[.val (.ref t), .val (.long key), .second, .val (.int number), .val (.int (Int32.ofNat P)), .val (.int (Int32.ofNat Ix))] [(.int number), (.int (Int32.ofNat Ix)), (.ref pa)])) _
    refine XS.iconst X7.here hx rfl (hb hby d11_70) ?_
    show Steps p.tables e below (T7.setTop (mkF m 71 #[.val (.ref t), .val (.long key), .second, .val (.int number), .val (.int (Int32.ofNat P)), .val (.int (Int32.ofNat Ix))] [(.int (1 : Int32)), (.int number), (.int (Int32.ofNat Ix)), (.ref pa)])) _
    refine XS.iadd X7.here hx rfl (hb hby d11_71) rfl ?_
    show Steps p.tables e below (T7.setTop (mkF m 72 #[.val (.ref t), .val (.long key), .second, .val (.int number), .val (.int (Int32.ofNat P)), .val (.int (Int32.ofNat Ix))] [(.int (number + (1 : Int32))), (.int (Int32.ofNat Ix)), (.ref pa)])) _
    refine st10 _ ?_
    show Steps p.tables e below (T10.setTop (mkF m 73 #[.val (.ref t), .val (.long key), .second, .val (.int number), .val (.int (Int32.ofNat P)), .val (.int (Int32.ofNat Ix))] [])) _
    refine XS.goto X10.here hx rfl (pc0 := 73) (pc' := 129) rfl (hb hby d11_73) (by decide) (by decide) ?_
    show Steps p.tables e below (T10.setTop (mkF m 129 #[.val (.ref t), .val (.long key), .second, .val (.int number), .val (.int (Int32.ofNat P)), .val (.int (Int32.ofNat Ix))] [])) _
    exact kt
  obtain ⟨fs, hr, hrun, hended, hW, hsame⟩ := X10.leave (v := none) (fun _ => rfl)
  refine ⟨_, _, k11 _ ?_, hrun, hended, _, _, rfl, ?_, ⟨_, rfl⟩, hW, hsame.mono (by decide) (by decide)⟩
  · exact X10.returnOut hx Bd.returns (hb hby d11_129) hr
  · show QK Z t (1 : Int32) "numbers" "[[I" .int "[I" S np (2 ^ S) (.int (0 : Int32)) (updM md P) (updG g P Ix (.int (number + (1 : Int32)))) cnt h0 n0 _ T10.heap _
    rw [e10]
    refine ⟨rfl, N10, KP10.1, E10_t, F10_t_numbered, F10_t_pageShift, F10_t_pageKeys, F10_t_pageWords, F10_t_madePages, g_t, D, kD, dir, F10_t_numbers, A10_D, OD, g_D, ne_t_D, fun i => ?_, fun i b hb_ => ?_, hinj, fun i j hi => ?_⟩
    · rw [hmd i]; unfold updM; by_cases q : i = P
      · subst q; simp [hm]
      · simp [q]
    · by_cases q : i = P
      · subst q; cases Option.some.inj (ha.symm.trans hb_)
        exact ⟨ne_pa_t, ne_pa_D, g_pa, ka, A10_pa.congr (fun j _ => by unfold updG; by_cases r : j = Ix <;> simp [r])⟩
      · obtain ⟨a1, a2, a3, k, V⟩ := hpg i b hb_
        have a4 : b ≠ pa := fun e_ => q (hinj i P b hb_ (e_ ▸ ha))
        exact ⟨a1, a2, a3, k, (V.keep KP10 (ninS a1 (ninS a2 (ninS a4 nin0)))).congr (fun j _ => by unfold updG; simp [q])⟩
    · unfold updM at hi; simp at hi; unfold updG; rw [if_neg (fun q => hi.1 q.1)]; exact hun i j hi.2
theorem d11_37 : decode prog_121_method_11_code 37 = .ok (.aload_n 0, 1) := by decide +kernel
theorem d11_38 : decode prog_121_method_11_code 38 = .ok (.getfield 41, 3) := by decide +kernel
theorem d11_41 : decode prog_121_method_11_code 41 = .ok (.iload 4, 2) := by decide +kernel
theorem d11_43 : decode prog_121_method_11_code 43 = .ok (.aload_n 0, 1) := by decide +kernel
theorem d11_44 : decode prog_121_method_11_code 44 = .ok (.getfield 20, 3) := by decide +kernel
theorem d11_47 : decode prog_121_method_11_code 47 = .ok (.newarray .int, 2) := by decide +kernel
theorem d11_49 : decode prog_121_method_11_code 49 = .ok (.aastore, 1) := by decide +kernel
theorem d11_50 : decode prog_121_method_11_code 50 = .ok (.aload_n 0, 1) := by decide +kernel
theorem d11_51 : decode prog_121_method_11_code 51 = .ok (.dup, 1) := by decide +kernel
theorem d11_52 : decode prog_121_method_11_code 52 = .ok (.getfield 77, 3) := by decide +kernel
theorem d11_55 : decode prog_121_method_11_code 55 = .ok (.iconst 1, 1) := by decide +kernel
theorem d11_56 : decode prog_121_method_11_code 56 = .ok (.iadd, 1) := by decide +kernel
theorem d11_57 : decode prog_121_method_11_code 57 = .ok (.putfield 77, 3) := by decide +kernel
theorem ef_rmMarknw (m : MethodId) (t : Addr) (key : Int64) (number : Int32) : entryFrame m #[(.ref t), (.long key), (.int number)] 6 = mkF m 0 #[.val (.ref t), .val (.long key), .second, .val (.int number), .unset, .unset] [] := by first | (simp [entryFrame, mkF, argsToLocals, Value.category]; done) | rfl
set_option maxRecDepth 65536 in
set_option maxHeartbeats 40000000 in
theorem rmMarknw (l : Launch) (Z : State) (a0 : Array Value) (hw : ∀ d ∈ tables_1, d.before a0 Z = true) (ws : List Jvm.Cond) (t : Addr) (key : Int64) (number : Int32) (S np P Ix X : Nat) (md : Nat → Bool) (g : Nat → Nat → Value) (cnt : Int32) (h0 : Heap) (n0 : Nat) (Z0 : n0 ≤ h0.size) (hS : S ≤ 15) (hX : key.toInt = X) (hX2 : X < 2 ^ 30) (hP : P = X / 2 ^ S) (hI : Ix = X % 2 ^ S) (hPn : P < np) (hn31 : np < 2 ^ 31) (HK : KT Z h0 n0 t (1 : Int32) "numbers" "[[I" .int "[I" S np (2 ^ S) (.int (0 : Int32)) md g cnt) (hcap : 2 ^ S ≤ 1024) (hm : md P = false) :
    MetFree l (⟨"com/example/parley/parley/core/KeyTable", "mark", "(JI)V"⟩ : MethodName) (head1 (Jvm.Cond.code (⟨"com/example/parley/parley/core/KeyTable", "mark", "(JI)V"⟩ : MethodName) prog_121_method_11_code 6 none :: ws) ({ frames := 0, cells := 1, slots := 1024, locals := 0 } : Room)) (fun a_ U_ => a_ = #[(.ref t), (.long key), (.int number)] ∧ Z.Warmed39 U_.vm ∧ U_.heap = h0) (fun _ _ _ _ _ => True) (fun _ U_ o_ U'_ => ∃ v_ L_, o_ = .returned v_ ∧ QK Z t (1 : Int32) "numbers" "[[I" .int "[I" S np (2 ^ S) (.int (0 : Int32)) (updM md P) (updG g P Ix (.int (number + (1 : Int32)))) (cnt + (1 : Int32)) h0 n0 v_ U'_.heap L_ ∧ FrameEnd U_ o_ U'_ L_ ({ frames := 0, cells := 1, slots := 1024, locals := 0 } : Room).cells ({ frames := 0, cells := 1, slots := 1024, locals := 0 } : Room).slots) := by
  refine MetFree.of_bodySF (plainFor_of_name pn_11) hisR ?_
  intro p e s m args below meth c s₁ Bd hml0 hP hK
  obtain ⟨rfl, hZ, hh⟩ := hP
  have hx := Bd.exec
  have hby := Bd.bytes
  have hml : c.maxLocals = 6 := hml0
  have hown : s.vm.findClass "com/example/parley/parley/core/KeyTable" = some m.cls := findClass_of_methodNamed Bd.named
  have hnm := (name_of_methodNamed Bd.named Bd.method).1
  have X0 : Stand p l e ({ frames := 0, cells := 1, slots := 1024, locals := 0 } : Room) s m #[(.ref t), (.long key), (.int number)] below meth c s₁ [] 0 0 := Stand.of_body Bd
  have e0 : s₁.heap = h0 := by rw [← hh, Bd.state]; rfl
  have N0 := Fr.nil n0
  have k0 : ∀ tg, Steps p.tables e below (s₁.setTop (mkF m 0 #[.val (.ref t), .val (.long key), .second, .val (.int number), .unset, .unset] [])) tg → Steps p.tables e below (s₁.setTop (entryFrame m #[(.ref t), (.long key), (.int number)] 6)) tg := fun tg kq_ => castTop (ef_rmMarknw m t key number) kq_
  obtain ⟨E_t, F_numbered, F_pageShift, F_pageKeys, F_pageWords, F_madePages, g_t, D, kD, dir, F_dir, V_D, OD, g_D, ne_t_D, hmd, hpg, hinj, hun⟩ := HK
  have hP31 : P < 2 ^ 31 := Nat.lt_trans hPn hn31
  have h2S : 2 ^ S ≤ 2 ^ 15 := Nat.pow_le_pow_right (by decide) hS
  have hIl : Ix < 2 ^ S := by rw [hI]; exact Nat.mod_lt _ (Nat.pow_pos (by decide))
  have hI31 : Ix < 2 ^ 31 := by omega
  have hWl : Ix / 64 < max 1 (2 ^ S / 64) := own_wix Ix S hIl
  have hW31 : Ix / 64 < 2 ^ 31 := by omega
  have hpl1 : 2 ^ S < 2 ^ 31 := by omega
  have hpl2 : max 1 (2 ^ S / 64) < 2 ^ 31 := by omega
  have hpl3 : max 1 (2 ^ S / 64) ≤ 512 := by omega
  have ha : dir P = none := by have q := hmd P; rw [hm] at q; exact Option.not_isSome_iff_eq_none.mp (by rw [q]; exact Bool.false_ne_true)
  obtain ⟨T1, X1, e1, st1⟩ := getF X0 hx hZ hown (host := "") (Or.inl (hw _ (List.mem_of_getElem? (i := 36) rfl))) Via.refl e0 F_pageShift (g := (mkF m 2 #[.val (.ref t), .val (.long key), .second, .val (.int number), .unset, .unset] [(.ref t), (.long key)])) rfl rfl (hb hby d11_2)
  obtain ⟨T2, X2, e2, st2⟩ := getF X1 hx hZ hown (host := "") (Or.inl (hw _ (List.mem_of_getElem? (i := 38) rfl))) Via.refl e1 F_pageKeys (g := (mkF m 12 #[.val (.ref t), .val (.long key), .second, .val (.int number), .val (.int (Int32.ofNat P)), .unset] [(.ref t), (.int (key.toInt32))])) rfl rfl (hb hby d11_12)
  obtain ⟨T3, X3, e3, st3⟩ := getF X2 hx hZ hown (host := "") (Or.inl (hw _ (List.mem_of_getElem? (i := 14) rfl))) Via.refl e2 F_numbered (g := (mkF m 21 #[.val (.ref t), .val (.long key), .second, .val (.int number), .val (.int (Int32.ofNat P)), .val (.int (Int32.ofNat Ix))] [(.ref t)])) rfl rfl (hb hby d11_21)
  have hd4 : ¬ ((1 : Int32) = (0 : Int32)) := by decide
  obtain ⟨T5, X5, e5, st5⟩ := getF X3 hx hZ hown (host := "") (Or.inl (hw _ (List.mem_of_getElem? (i := 55) rfl))) Via.refl e3 F_dir (g := (mkF m 28 #[.val (.ref t), .val (.long key), .second, .val (.int number), .val (.int (Int32.ofNat P)), .val (.int (Int32.ofNat Ix))] [(.ref t)])) rfl rfl (hb hby d11_28)
  obtain ⟨cl33_6, Ar33_6, q33_6, S33_6, H33_6⟩ := id V_D
  have hin33_6 : ¬ ((Int32.ofNat P) < 0 ∨ cl33_6.slots.size ≤ ((Int32.ofNat P)).toNatClampNeg) := own_inb S33_6 (own_nn _ hP31) (by rw [own_clamp _ hP31]; exact hPn)
  have hat33_6 : cl33_6.slots[((Int32.ofNat P)).toNatClampNeg]? = some .null := by rw [own_clamp _ hP31]; exact (H33_6 _ hPn).trans (congrArg some (by show dirV (dir P) = _; rw [ha]; rfl))
  obtain ⟨T7, X7, e7, st7⟩ := getF X5 hx hZ hown (host := "") (Or.inl (hw _ (List.mem_of_getElem? (i := 55) rfl))) Via.refl e5 F_dir (g := (mkF m 38 #[.val (.ref t), .val (.long key), .second, .val (.int number), .val (.int (Int32.ofNat P)), .val (.int (Int32.ofNat Ix))] [(.ref t)])) rfl rfl (hb hby d11_38)
  obtain ⟨T8, X8, e8, st8⟩ := getF X7 hx hZ hown (host := "") (Or.inl (hw _ (List.mem_of_getElem? (i := 38) rfl))) Via.refl e7 F_pageKeys (g := (mkF m 44 #[.val (.ref t), .val (.long key), .second, .val (.int number), .val (.int (Int32.ofNat P)), .val (.int (Int32.ofNat Ix))] [(.ref t), (.int (Int32.ofNat P)), (.ref D)])) rfl rfl (hb hby d11_44)
  obtain ⟨T9, h9, c9, X9, e9, E9, A9, Ex9, st9⟩ := newPE X8 hx hZ (hw _ (List.mem_of_getElem? (i := 80) rfl)) e8 (g := (mkF m 47 #[.val (.ref t), .val (.long key), .second, .val (.int number), .val (.int (Int32.ofNat P)), .val (.int (Int32.ofNat Ix))] [(.int (Int32.ofNat (2 ^ S))), (.int (Int32.ofNat P)), (.ref D)])) rfl (hb hby d11_47) rfl (own_nn _ hpl1) (cap := 1024) (by rw [own_clamp _ hpl1]; exact hcap) (by decide) (by decide) (by decide) (ad := "[I") (by decide)
  obtain ⟨pg, g9⟩ : ∃ z, z = h0.size := ⟨_, rfl⟩
  have ne_t_pg : t ≠ pg := Nat.ne_of_lt (Nat.lt_of_lt_of_le E_t.lt (Nat.le_of_eq g9.symm))
  have ne_D_pg : D ≠ pg := Nat.ne_of_lt (Nat.lt_of_lt_of_le V_D.lt (Nat.le_of_eq g9.symm))
  have g_pg : n0 ≤ pg := Nat.le_trans Z0 (Nat.le_of_eq g9.symm)
  have sz_pg : h0.size ≤ pg := Nat.le_trans (Keep.refl h0 [t, D]).1 (Nat.le_of_eq g9.symm)
  rw [← g9] at A9 Ex9 st9
  have E9_t := E_t.ext E9
  have F9_t_numbered := F_numbered.ext E9
  have F9_t_pageShift := F_pageShift.ext E9
  have F9_t_pageKeys := F_pageKeys.ext E9
  have F9_t_pageWords := F_pageWords.ext E9
  have F9_t_madePages := F_madePages.ext E9
  have F9_t_numbers := F_dir.ext E9
  have A9_D := V_D.ext E9
  have Z9 := Nat.le_trans Z0 E9.1
  have KP9 := (Keep.refl h0 [t, D]).ext E9
  have V_pg : Af Z h9 pg c9 .int (2 ^ S) (fun _ => (.int (0 : Int32))) := Af.new A9 (own_clamp _ hpl1)
  have I_pg : Ins Z h9 pg "[I" true := Ins.of_exa Ex9 (hw _ (List.mem_of_getElem? (i := 81) rfl))
  obtain ⟨cl49_10, Ar49_10, q49_10, S49_10, H49_10⟩ := id A9_D
  have hin49_10 : ¬ ((Int32.ofNat P) < 0 ∨ cl49_10.slots.size ≤ ((Int32.ofNat P)).toNatClampNeg) := own_inb S49_10 (own_nn _ hP31) (by rw [own_clamp _ hP31]; exact hPn)
  obtain ⟨T11, h11, X11, e11, W11, st11⟩ := stR X9 hx hZ e9 Ar49_10 (j := (Int32.ofNat P)) hin49_10 rfl (Sto.ofVA Ar49_10 q49_10 OD I_pg) (g := (mkF m 49 #[.val (.ref t), .val (.long key), .second, .val (.int number), .val (.int (Int32.ofNat P)), .val (.int (Int32.ofNat Ix))] [(.ref pg), (.int (Int32.ofNat P)), (.ref D)])) rfl rfl (hb hby d11_49)
  have E11_t := E9_t.wr W11
  have F11_t_numbered := F9_t_numbered.other W11 (Or.inl ne_t_D)
  have F11_t_pageShift := F9_t_pageShift.other W11 (Or.inl ne_t_D)
  have F11_t_pageKeys := F9_t_pageKeys.other W11 (Or.inl ne_t_D)
  have F11_t_pageWords := F9_t_pageWords.other W11 (Or.inl ne_t_D)
  have F11_t_madePages := F9_t_madePages.other W11 (Or.inl ne_t_D)
  have F11_t_numbers := F9_t_numbers.other W11 (Or.inl ne_t_D)
  have A11_pg := V_pg.other W11 (Ne.symm ne_D_pg)
  have Z11 := Nat.le_trans Z9 (Keep.of_wr W11).1
  have KP11 := KP9.wr W11 (Or.inl (List.mem_of_getElem? (i := 1) rfl))
  have N11 := Fr.snoc X11 N0 g_D
  have A11_D : Af Z h11 D kD (.array .int) np (fun i => if i = P then (.ref pg) else (fun i => dirV (dir i)) i) := by have q := Af.set Ar49_10 q49_10 S49_10 H49_10 W11; rw [own_clamp _ hP31] at q; exact q
  obtain ⟨T12, X12, e12, st12⟩ := getF X11 hx hZ hown (host := "") (Or.inl (hw _ (List.mem_of_getElem? (i := 64) rfl))) Via.refl e11 F11_t_madePages (g := (mkF m 52 #[.val (.ref t), .val (.long key), .second, .val (.int number), .val (.int (Int32.ofNat P)), .val (.int (Int32.ofNat Ix))] [(.ref t), (.ref t)])) rfl rfl (hb hby d11_52)
  obtain ⟨T13, h13, X13, e13, W13, st13⟩ := putF X12 hx hZ hown (host := "") (Or.inl (hw _ (List.mem_of_getElem? (i := 64) rfl))) Via.refl e12 F11_t_madePages E11_t (Or.inl (hw _ (List.mem_of_getElem? (i := 65) rfl))) (hw _ (List.mem_of_getElem? (i := 6) rfl)) (ty := .int) (by decide) rfl rfl (g := (mkF m 57 #[.val (.ref t), .val (.long key), .second, .val (.int number), .val (.int (Int32.ofNat P)), .val (.int (Int32.ofNat Ix))] [(.int (cnt + (1 : Int32))), (.ref t)])) rfl rfl (hb hby d11_57)
  have E13_t := E11_t.wr W13
  have F13_t_numbered := F11_t_numbered.other W13 (Or.inr (slot_ne (Or.inr (hw _ (List.mem_of_getElem? (i := 15) rfl))) (Or.inl (hw _ (List.mem_of_getElem? (i := 65) rfl))) (by decide) (t := .boolean) (t' := .int) (by decide) (by decide)))
  have F13_t_pageShift := F11_t_pageShift.other W13 (Or.inr (slot_ne (Or.inr (hw _ (List.mem_of_getElem? (i := 37) rfl))) (Or.inl (hw _ (List.mem_of_getElem? (i := 65) rfl))) (by decide) (t := .int) (t' := .int) (by decide) (by decide)))
  have F13_t_pageKeys := F11_t_pageKeys.other W13 (Or.inr (slot_ne (Or.inr (hw _ (List.mem_of_getElem? (i := 39) rfl))) (Or.inl (hw _ (List.mem_of_getElem? (i := 65) rfl))) (by decide) (t := .int) (t' := .int) (by decide) (by decide)))
  have F13_t_pageWords := F11_t_pageWords.other W13 (Or.inr (slot_ne (Or.inr (hw _ (List.mem_of_getElem? (i := 47) rfl))) (Or.inl (hw _ (List.mem_of_getElem? (i := 65) rfl))) (by decide) (t := .int) (t' := .int) (by decide) (by decide)))
  have F13_t_numbers := F11_t_numbers.other W13 (Or.inr (slot_ne (Or.inr (hw _ (List.mem_of_getElem? (i := 56) rfl))) (Or.inl (hw _ (List.mem_of_getElem? (i := 65) rfl))) (by decide) (t := (.array (.array .int))) (t' := .int) (by decide) (by decide)))
  have A13_D := A11_D.other W13 (Ne.symm ne_t_D)
  have A13_pg := A11_pg.other W13 (Ne.symm ne_t_pg)
  have Z13 := Nat.le_trans Z11 (Keep.of_wr W13).1
  have KP13 := KP11.wr W13 (Or.inl (List.mem_of_getElem? (i := 0) rfl))
  have N13 := Fr.snoc X13 N11 g_t
  have F13_t_madePages := F11_t_madePages.same W13
  obtain ⟨T14, X14, e14, st14⟩ := getF X13 hx hZ hown (host := "") (Or.inl (hw _ (List.mem_of_getElem? (i := 55) rfl))) Via.refl e13 F13_t_numbers (g := (mkF m 61 #[.val (.ref t), .val (.long key), .second, .val (.int number), .val (.int (Int32.ofNat P)), .val (.int (Int32.ofNat Ix))] [(.ref t)])) rfl rfl (hb hby d11_61)
  obtain ⟨cl66_15, Ar66_15, q66_15, S66_15, H66_15⟩ := id A13_D
  have hin66_15 : ¬ ((Int32.ofNat P) < 0 ∨ cl66_15.slots.size ≤ ((Int32.ofNat P)).toNatClampNeg) := own_inb S66_15 (own_nn _ hP31) (by rw [own_clamp _ hP31]; exact hPn)
  have hat66_15 : cl66_15.slots[((Int32.ofNat P)).toNatClampNeg]? = some (.ref pg) := by rw [own_clamp _ hP31]; exact (H66_15 _ hPn).trans (congrArg some (by simp))
  obtain ⟨cl72_16, Ar72_16, q72_16, S72_16, H72_16⟩ := id A13_pg
  have hin72_16 : ¬ ((Int32.ofNat Ix) < 0 ∨ cl72_16.slots.size ≤ ((Int32.ofNat Ix)).toNatClampNeg) := own_inb S72_16 (own_nn _ hI31) (by rw [own_clamp _ hI31]; exact hIl)
  obtain ⟨T17, h17, X17, e17, W17, st17⟩ := stI X14 hx hZ e14 Ar72_16 (j := (Int32.ofNat Ix)) hin72_16 (g := (mkF m 72 #[.val (.ref t), .val (.long key), .second, .val (.int number), .val (.int (Int32.ofNat P)), .val (.int (Int32.ofNat Ix))] [(.int (number + (1 : Int32))), (.int (Int32.ofNat Ix)), (.ref pg)])) rfl rfl (hb hby d11_72)
  have E17_t := E13_t.wr W17
  have F17_t_numbered := F13_t_numbered.other W17 (Or.inl ne_t_pg)
  have F17_t_pageShift := F13_t_pageShift.other W17 (Or.inl ne_t_pg)
  have F17_t_pageKeys := F13_t_pageKeys.other W17 (Or.inl ne_t_pg)
  have F17_t_pageWords := F13_t_pageWords.other W17 (Or.inl ne_t_pg)
  have F17_t_madePages := F13_t_madePages.other W17 (Or.inl ne_t_pg)
  have F17_t_numbers := F13_t_numbers.other W17 (Or.inl ne_t_pg)
  have A17_D := A13_D.other W17 ne_D_pg
  have Z17 := Nat.le_trans Z13 (Keep.of_wr W17).1
  have KP17 := KP13.wr W17 (Or.inr sz_pg)
  have N17 := Fr.snoc X17 N13 g_pg
  have A17_pg : Af Z h17 pg c9 .int (2 ^ S) (fun i => if i = Ix then (.int (number + (1 : Int32))) else (fun _ => (.int (0 : Int32))) i) := by have q := Af.set Ar72_16 q72_16 S72_16 H72_16 W17; rw [own_clamp _ hI31] at q; exact q
  have k18 : ∀ tg, Steps p.tables e below (T17.setTop (mkF m 129 #[.val (.ref t), .val (.long key), .second, .val (.int number), .val (.int (Int32.ofNat P)), .val (.int (Int32.ofNat Ix))] [])) tg → Steps p.tables e below (s₁.setTop (entryFrame m #[(.ref t), (.long key), (.int number)] 6)) tg := by
    intro tg kt
    refine k0 tg ?_
    show Steps p.tables e below (s₁.setTop (mkF m 0 #[.val (.ref t), .val (.long key), .second, .val (.int number), .unset, .unset] [])) _
    refine XS.lloadN X0.here hx rfl (hb hby d11_0) rfl ?_
    show Steps p.tables e below (s₁.setTop (mkF m 1 #[.val (.ref t), .val (.long key), .second, .val (.int number), .unset, .unset] [(.long key)])) _
    refine XS.aloadN X0.here hx rfl (hb hby d11_1) rfl rfl ?_
    show Steps p.tables e below (s₁.setTop (mkF m 2 #[.val (.ref t), .val (.long key), .second, .val (.int number), .unset, .unset] [(.ref t), (.long key)])) _
    refine st1 _ ?_
    show Steps p.tables e below (T1.setTop (mkF m 5 #[.val (.ref t), .val (.long key), .second, .val (.int number), .unset, .unset] [(.int (Int32.ofNat S)), (.long key)])) _
    refine XS.lushr X1.here hx rfl (hb hby d11_5) rfl ?_
    show Steps p.tables e below (T1.setTop (mkF m 6 #[.val (.ref t), .val (.long key), .second, .val (.int number), .unset, .unset] [(.long ((key.toUInt64 >>> ((Int32.ofNat S) &&& 0x3f).toInt64.toUInt64).toInt64))])) _
    refine XS.l2i X1.here hx rfl (hb hby d11_6) rfl ?_
    show Steps p.tables e below (T1.setTop (mkF m 7 #[.val (.ref t), .val (.long key), .second, .val (.int number), .unset, .unset] [(.int (((key.toUInt64 >>> ((Int32.ofNat S) &&& 0x3f).toInt64.toUInt64).toInt64).toInt32))])) _
    rw [(own_pageI key X S P hX hX2 hS hP)]
    show Steps p.tables e below (T1.setTop (mkF m 7 #[.val (.ref t), .val (.long key), .second, .val (.int number), .unset, .unset] [(.int (Int32.ofNat P))])) _
    refine XS.istore X1.here hx rfl (hb hby d11_7) rfl (l' := #[.val (.ref t), .val (.long key), .second, .val (.int number), .val (.int (Int32.ofNat P)), .unset]) rfl ?_
    show Steps p.tables e below (T1.setTop (mkF m 9 #[.val (.ref t), .val (.long key), .second, .val (.int number), .val (.int (Int32.ofNat P)), .unset] [])) _
    refine XS.lloadN X1.here hx rfl (hb hby d11_9) rfl ?_
    show Steps p.tables e below (T1.setTop (mkF m 10 #[.val (.ref t), .val (.long key), .second, .val (.int number), .val (.int (Int32.ofNat P)), .unset] [(.long key)])) _
    refine XS.l2i X1.here hx rfl (hb hby d11_10) rfl ?_
    show Steps p.tables e below (T1.setTop (mkF m 11 #[.val (.ref t), .val (.long key), .second, .val (.int number), .val (.int (Int32.ofNat P)), .unset] [(.int (key.toInt32))])) _
    refine XS.aloadN X1.here hx rfl (hb hby d11_11) rfl rfl ?_
    show Steps p.tables e below (T1.setTop (mkF m 12 #[.val (.ref t), .val (.long key), .second, .val (.int number), .val (.int (Int32.ofNat P)), .unset] [(.ref t), (.int (key.toInt32))])) _
    refine st2 _ ?_
    show Steps p.tables e below (T2.setTop (mkF m 15 #[.val (.ref t), .val (.long key), .second, .val (.int number), .val (.int (Int32.ofNat P)), .unset] [(.int (Int32.ofNat (2 ^ S))), (.int (key.toInt32))])) _
    refine XS.iconst X2.here hx rfl (hb hby d11_15) ?_
    show Steps p.tables e below (T2.setTop (mkF m 16 #[.val (.ref t), .val (.long key), .second, .val (.int number), .val (.int (Int32.ofNat P)), .unset] [(.int (1 : Int32)), (.int (Int32.ofNat (2 ^ S))), (.int (key.toInt32))])) _
    refine XS.isub X2.here hx rfl (hb hby d11_16) rfl ?_
    show Steps p.tables e below (T2.setTop (mkF m 17 #[.val (.ref t), .val (.long key), .second, .val (.int number), .val (.int (Int32.ofNat P)), .unset] [(.int ((Int32.ofNat (2 ^ S)) - (1 : Int32))), (.int (key.toInt32))])) _
    refine XS.iand X2.here hx rfl (hb hby d11_17) rfl ?_
    show Steps p.tables e below (T2.setTop (mkF m 18 #[.val (.ref t), .val (.long key), .second, .val (.int number), .val (.int (Int32.ofNat P)), .unset] [(.int ((key.toInt32) &&& ((Int32.ofNat (2 ^ S)) - (1 : Int32))))])) _
    rw [(own_ixI key X S Ix hX hX2 hS hI)]
    show Steps p.tables e below (T2.setTop (mkF m 18 #[.val (.ref t), .val (.long key), .second, .val (.int number), .val (.int (Int32.ofNat P)), .unset] [(.int (Int32.ofNat Ix))])) _
    refine XS.istore X2.here hx rfl (hb hby d11_18) rfl (l' := #[.val (.ref t), .val (.long key), .second, .val (.int number), .val (.int (Int32.ofNat P)), .val (.int (Int32.ofNat Ix))]) rfl ?_
    show Steps p.tables e below (T2.setTop (mkF m 20 #[.val (.ref t), .val (.long key), .second, .val (.int number), .val (.int (Int32.ofNat P)), .val (.int (Int32.ofNat Ix))] [])) _
    refine XS.aloadN X2.here hx rfl (hb hby d11_20) rfl rfl ?_
    show Steps p.tables e below (T2.setTop (mkF m 21 #[.val (.ref t), .val (.long key), .second, .val (.int number), .val (.int (Int32.ofNat P)), .val (.int (Int32.ofNat Ix))] [(.ref t)])) _
    refine st3 _ ?_
    show Steps p.tables e below (T3.setTop (mkF m 24 #[.val (.ref t), .val (.long key), .second, .val (.int number), .val (.int (Int32.ofNat P)), .val (.int (Int32.ofNat Ix))] [(.int (1 : Int32))])) _
    refine XS.ifNo X3.here hx rfl (hb hby d11_24) rfl ((if0 _ _).trans (feq hd4).1) ?_
    show Steps p.tables e below (T3.setTop (mkF m 27 #[.val (.ref t), .val (.long key), .second, .val (.int number), .val (.int (Int32.ofNat P)), .val (.int (Int32.ofNat Ix))] [])) _
    refine XS.aloadN X3.here hx rfl (hb hby d11_27) rfl rfl ?_
    show Steps p.tables e below (T3.setTop (mkF m 28 #[.val (.ref t), .val (.long key), .second, .val (.int number), .val (.int (Int32.ofNat P)), .val (.int (Int32.ofNat Ix))] [(.ref t)])) _
    refine st5 _ ?_
    show Steps p.tables e below (T5.setTop (mkF m 31 #[.val (.ref t), .val (.long key), .second, .val (.int number), .val (.int (Int32.ofNat P)), .val (.int (Int32.ofNat Ix))] [(.ref D)])) _
    refine XS.iload X5.here hx rfl (hb hby d11_31) rfl ?_
    show Steps p.tables e below (T5.setTop (mkF m 33 #[.val (.ref t), .val (.long key), .second, .val (.int number), .val (.int (Int32.ofNat P)), .val (.int (Int32.ofNat Ix))] [(.int (Int32.ofNat P)), (.ref D)])) _
    refine X5.aaload hx (j := (Int32.ofNat P)) (v := .null) (by rw [e5]; exact Ar33_6.1) (State.isArrayOf_alike hZ.alike Ar33_6.2.1) rfl Ar33_6.2.2 hin33_6 hat33_6 (g := (mkF m 33 #[.val (.ref t), .val (.long key), .second, .val (.int number), .val (.int (Int32.ofNat P)), .val (.int (Int32.ofNat Ix))] [(.int (Int32.ofNat P)), (.ref D)])) rfl rfl (hb hby d11_33) _ ?_
    show Steps p.tables e below (T5.setTop (mkF m 34 #[.val (.ref t), .val (.long key), .second, .val (.int number), .val (.int (Int32.ofNat P)), .val (.int (Int32.ofNat Ix))] [.null])) _
    refine XS.ifnonnullNo X5.here hx rfl (hb hby d11_34) rfl ?_
    show Steps p.tables e below (T5.setTop (mkF m 37 #[.val (.ref t), .val (.long key), .second, .val (.int number), .val (.int (Int32.ofNat P)), .val (.int (Int32.ofNat Ix))] [])) _
    refine XS.aloadN X5.here hx rfl (hb hby d11_37) rfl rfl ?_
    show Steps p.tables e below (T5.setTop (mkF m 38 #[.val (.ref t), .val (.long key), .second, .val (.int number), .val (.int (Int32.ofNat P)), .val (.int (Int32.ofNat Ix))] [(.ref t)])) _
    refine st7 _ ?_
    show Steps p.tables e below (T7.setTop (mkF m 41 #[.val (.ref t), .val (.long key), .second, .val (.int number), .val (.int (Int32.ofNat P)), .val (.int (Int32.ofNat Ix))] [(.ref D)])) _
    refine XS.iload X7.here hx rfl (hb hby d11_41) rfl ?_
    show Steps p.tables e below (T7.setTop (mkF m 43 #[.val (.ref t), .val (.long key), .second, .val (.int number), .val (.int (Int32.ofNat P)), .val (.int (Int32.ofNat Ix))] [(.int (Int32.ofNat P)), (.ref D)])) _
    refine XS.aloadN X7.here hx rfl (hb hby d11_43) rfl rfl ?_
    show Steps p.tables e below (T7.setTop (mkF m 44 #[.val (.ref t), .val (.long key), .second, .val (.int number), .val (.int (Int32.ofNat P)), .val (.int (Int32.ofNat Ix))] [(.ref t), (.int (Int32.ofNat P)), (.ref D)])) _
    refine st8 _ ?_
    show Steps p.tables e below (T8.setTop (mkF m 47 #[.val (.ref t), .val (.long key), .second, .val (.int number), .val (.int (Int32.ofNat P)), .val (.int (Int32.ofNat Ix))] [(.int (Int32.ofNat (2 ^ S))), (.int (Int32.ofNat P)), (.ref D)])) _
    refine st9 _ ?_
    show Steps p.tables e below (T9.setTop (mkF m 49 #[.val (.ref t), .val (.long key), .second, .val (.int number), .val (.int (Int32.ofNat P)), .val (.int (Int32.ofNat Ix))] [(.ref pg), (.int (Int32.ofNat P)), (.ref D)])) _
    refine st11 _ ?_
    show Steps p.tables e below (T11.setTop (mkF m 50 #[.val (.ref t), .val (.long key), .second, .val (.int number), .val (.int (Int32.ofNat P)), .val (.int (Int32.ofNat Ix))] [])) _
    refine XS.aloadN X11.here hx rfl (hb hby d11_50) rfl rfl ?_
    show Steps p.tables e below (T11.setTop (mkF m 51 #[.val (.ref t), .val (.long key), .second, .val (.int number), .val (.int (Int32.ofNat P)), .val (.int (Int32.ofNat Ix))] [(.ref t)])) _
    refine XS.dup X11.here hx rfl (hb hby d11_51) rfl rfl ?_
    show Steps p.tables e below (T11.setTop (mkF m 52 #[.val (.ref t), .val (.long key), .second, .val (.int number), .val (.int (Int32.ofNat P)), .val (.int (Int32.ofNat Ix))] [(.ref t), (.ref t)])) _
    refine st12 _ ?_
    show Steps p.tables e below (T12.setTop (mkF m 55 #[.val (.ref t), .val (.long key), .second, .val (.int number), .val (.int (Int32.ofNat P)), .val (.int (Int32.ofNat Ix))] [(.int cnt), (.ref t)])) _
    refine XS.iconst X12.here hx rfl (hb hby d11_55) ?_
    show Steps p.tables e below (T12.setTop (mkF m 56 #[.val (.ref t), .val (.long key), .second, .val (.int number), .val (.int (Int32.ofNat P)), .val (.int (Int32.ofNat Ix))] [(.int (1 : Int32)), (.int cnt), (.ref t)])) _
    refine XS.iadd X12.here hx rfl (hb hby d11_56) rfl ?_
    show Steps p.tables e below (T12.setTop (mkF m 57 #[.val (.ref t), .val (.long key), .second, .val (.int number), .val (.int (Int32.ofNat P)), .val (.int (Int32.ofNat Ix))] [(.int (cnt + (1 : Int32))), (.ref t)])) _
    refine st13 _ ?_
    show Steps p.tables e below (T13.setTop (mkF m 60 #[.val (.ref t), .val (.long key), .second, .val (.int number), .val (.int (Int32.ofNat P)), .val (.int (Int32.ofNat Ix))] [])) _
    refine XS.aloadN X13.here hx rfl (hb hby d11_60) rfl rfl ?_
    show Steps p.tables e below (T13.setTop (mkF m 61 #[.val (.ref t), .val (.long key), .second, .val (.int number), .val (.int (Int32.ofNat P)), .val (.int (Int32.ofNat Ix))] [(.ref t)])) _
    refine st14 _ ?_
    show Steps p.tables e below (T14.setTop (mkF m 64 #[.val (.ref t), .val (.long key), .second, .val (.int number), .val (.int (Int32.ofNat P)), .val (.int (Int32.ofNat Ix))] [(.ref D)])) _
    refine XS.iload X14.here hx rfl (hb hby d11_64) rfl ?_
    show Steps p.tables e below (T14.setTop (mkF m 66 #[.val (.ref t), .val (.long key), .second, .val (.int number), .val (.int (Int32.ofNat P)), .val (.int (Int32.ofNat Ix))] [(.int (Int32.ofNat P)), (.ref D)])) _
    refine X14.aaload hx (j := (Int32.ofNat P)) (v := (.ref pg)) (by rw [e14]; exact Ar66_15.1) (State.isArrayOf_alike hZ.alike Ar66_15.2.1) rfl Ar66_15.2.2 hin66_15 hat66_15 (g := (mkF m 66 #[.val (.ref t), .val (.long key), .second, .val (.int number), .val (.int (Int32.ofNat P)), .val (.int (Int32.ofNat Ix))] [(.int (Int32.ofNat P)), (.ref D)])) rfl rfl (hb hby d11_66) _ ?_
    show Steps p.tables e below (T14.setTop (mkF m 67 #[.val (.ref t), .val (.long key), .second, .val (.int number), .val (.int (Int32.ofNat P)), .val (.int (Int32.ofNat Ix))] [(.ref pg)])) _
    refine XS.iload X14.here hx rfl (hb hby d11_67) rfl ?_
    show Steps p.tables e below (T14.setTop (mkF m 69 #[.val (.ref t), .val (.long key), .second, .val (.int number), .val (.int (Int32.ofNat P)), .val (.int (Int32.ofNat Ix))] [(.int (Int32.ofNat Ix)), (.ref pg)])) _
    refine XS.iloadN X14.here hx rfl (hb hby d11_69) rfl ?_
    show Steps p.tables e below (T14.setTop (mkF m 70 #[.val (.ref t), .val (.long key), .second, .val (.int number), .val (.int (Int32.ofNat P)), .val (.int (Int32.ofNat Ix))] [(.int number), (.int (Int32.ofNat Ix)), (.ref pg)])) _
    refine XS.iconst X14.here hx rfl (hb hby d11_70) ?_
    show Steps p.tables e below (T14.setTop (mkF m 71 #[.val (.ref t), .val (.long key), .second, .val (.int number), .val (.int (Int32.ofNat P)), .val (.int (Int32.ofNat Ix))] [(.int (1 : Int32)), (.int number), (.int (Int32.ofNat Ix)), (.ref pg)])) _
    refine XS.iadd X14.here hx rfl (hb hby d11_71) rfl ?_
    show Steps p.tables e below (T14.setTop (mkF m 72 #[.val (.ref t), .val (.long key), .second, .val (.int number), .val (.int (Int32.ofNat P)), .val (.int (Int32.ofNat Ix))] [(.int (number + (1 : Int32))), (.int (Int32.ofNat Ix)), (.ref pg)])) _
    refine st17 _ ?_
    show Steps p.tables e below (T17.setTop (mkF m 73 #[.val (.ref t), .val (.long key), .second, .val (.int number), .val (.int (Int32.ofNat P)), .val (.int (Int32.ofNat Ix))] [])) _
    refine XS.goto X17.here hx rfl (pc0 := 73) (pc' := 129) rfl (hb hby d11_73) (by decide) (by decide) ?_
    show Steps p.tables e below (T17.setTop (mkF m 129 #[.val (.ref t), .val (.long key), .second, .val (.int number), .val (.int (Int32.ofNat P)), .val (.int (Int32.ofNat Ix))] [])) _
    exact kt
  obtain ⟨fs, hr, hrun, hended, hW, hsame⟩ := X17.leave (v := none) (fun _ => rfl)
  refine ⟨_, _, k18 _ ?_, hrun, hended, _, _, rfl, ?_, ⟨_, rfl⟩, hW, hsame.mono (by decide) (by decide)⟩
  · exact X17.returnOut hx Bd.returns (hb hby d11_129) hr
  · show QK Z t (1 : Int32) "numbers" "[[I" .int "[I" S np (2 ^ S) (.int (0 : Int32)) (updM md P) (updG g P Ix (.int (number + (1 : Int32)))) (cnt + (1 : Int32)) h0 n0 _ T17.heap _
    rw [e17]
    refine ⟨rfl, N17, KP17.1, E17_t, F17_t_numbered, F17_t_pageShift, F17_t_pageKeys, F17_t_pageWords, F17_t_madePages, g_t, D, kD, fun i => if i = P then some pg else dir i, F17_t_numbers, A17_D.congr (fun i _ => ?_), OD, g_D, ne_t_D, fun i => ?_, fun i b hb_ => ?_, fun i j b hi_ hj_ => ?_, fun i j hi => ?_⟩
    · show (if i = P then Value.ref pg else dirV (dir i)) = dirV (if i = P then some pg else dir i)
      by_cases q : i = P
      · rw [if_pos q, if_pos q]; rfl
      · rw [if_neg q, if_neg q]
    · show (if i = P then some pg else dir i).isSome = _
      unfold updM; by_cases q : i = P
      · rw [if_pos q]; simp [q]
      · rw [if_neg q, hmd i]; simp [q]
    · by_cases q : i = P
      · have hb2 : some pg = some b := by rw [← hb_]; exact (if_pos q).symm
        cases Option.some.inj hb2; subst q
        exact ⟨Ne.symm ne_t_pg, Ne.symm ne_D_pg, g_pg, c9, A17_pg.congr (fun j _ => by unfold updG; by_cases r : j = Ix <;> simp [r, hun i j hm])⟩
      · have hb2 : dir i = some b := by rw [← hb_]; exact (if_neg q).symm
        obtain ⟨a1, a2, a3, k, V⟩ := hpg i b hb2
        exact ⟨a1, a2, a3, k, (V.keep KP17 (ninS a1 (ninS a2 nin0))).congr (fun j _ => by unfold updG; simp [q])⟩
    · have hi2 : (if i = P then some pg else dir i) = some b := hi_
      have hj2 : (if j = P then some pg else dir j) = some b := hj_
      have nw : ∀ z, dir z ≠ some pg := fun z hz => by obtain ⟨-, -, -, k, V⟩ := hpg z pg hz; exact absurd V.lt (Nat.not_lt.mpr sz_pg)
      by_cases q : i = P <;> by_cases r : j = P
      · rw [q, r]
      · rw [if_pos q] at hi2; rw [if_neg r] at hj2; cases Option.some.inj hi2; exact absurd hj2 (nw j)
      · rw [if_neg q] at hi2; rw [if_pos r] at hj2; cases Option.some.inj hj2; exact absurd hi2 (nw i)
      · rw [if_neg q] at hi2; rw [if_neg r] at hj2; exact hinj i j b hi2 hj2
    · unfold updM at hi; simp at hi; unfold updG; rw [if_neg (fun q => hi.1 q.1)]; exact hun i j hi.2
theorem rmMarkn (l : Launch) (Z : State) (a0 : Array Value) (hw : ∀ d ∈ tables_1, d.before a0 Z = true) (ws : List Jvm.Cond) (t : Addr) (key : Int64) (number : Int32) (S np P Ix X : Nat) (md : Nat → Bool) (g : Nat → Nat → Value) (cnt : Int32) (h0 : Heap) (n0 : Nat) (Z0 : n0 ≤ h0.size) (hS : S ≤ 15) (hX : key.toInt = X) (hX2 : X < 2 ^ 30) (hP : P = X / 2 ^ S) (hI : Ix = X % 2 ^ S) (hPn : P < np) (hn31 : np < 2 ^ 31) (HK : KT Z h0 n0 t (1 : Int32) "numbers" "[[I" .int "[I" S np (2 ^ S) (.int (0 : Int32)) md g cnt) (hcap : 2 ^ S ≤ 1024) :
    MetFree l (⟨"com/example/parley/parley/core/KeyTable", "mark", "(JI)V"⟩ : MethodName) (head1 (Jvm.Cond.code (⟨"com/example/parley/parley/core/KeyTable", "mark", "(JI)V"⟩ : MethodName) prog_121_method_11_code 6 none :: ws) ({ frames := 0, cells := 1, slots := 1024, locals := 0 } : Room)) (fun a_ U_ => a_ = #[(.ref t), (.long key), (.int number)] ∧ Z.Warmed39 U_.vm ∧ U_.heap = h0) (fun _ _ _ _ _ => True) (fun _ U_ o_ U'_ => ∃ v_ L_, o_ = .returned v_ ∧ QK Z t (1 : Int32) "numbers" "[[I" .int "[I" S np (2 ^ S) (.int (0 : Int32)) (updM md P) (updG g P Ix (.int (number + (1 : Int32)))) (if md P = true then cnt else cnt + (1 : Int32)) h0 n0 v_ U'_.heap L_ ∧ FrameEnd U_ o_ U'_ L_ ({ frames := 0, cells := 1, slots := 1024, locals := 0 } : Room).cells ({ frames := 0, cells := 1, slots := 1024, locals := 0 } : Room).slots) := by
  by_cases hm : md P = true
  · rw [if_pos hm]; exact rmMarkno l Z a0 hw ws t key number S np P Ix X md g cnt h0 n0 Z0 hS hX hX2 hP hI hPn hn31 HK hcap hm
  · rw [if_neg hm]; exact rmMarknw l Z a0 hw ws t key number S np P Ix X md g cnt h0 n0 Z0 hS hX hX2 hP hI hPn hn31 HK hcap (by simpa using hm)
theorem d11_76 : decode prog_121_method_11_code 76 = .ok (.aload_n 0, 1) := by decide +kernel
theorem d11_77 : decode prog_121_method_11_code 77 = .ok (.getfield 35, 3) := by decide +kernel
theorem d11_80 : decode prog_121_method_11_code 80 = .ok (.iload 4, 2) := by decide +kernel
theorem d11_82 : decode prog_121_method_11_code 82 = .ok (.aaload, 1) := by decide +kernel
theorem d11_83 : decode prog_121_method_11_code 83 = .ok (.ifnonnull 26, 3) := by decide +kernel
theorem d11_109 : decode prog_121_method_11_code 109 = .ok (.aload_n 0, 1) := by decide +kernel
theorem d11_110 : decode prog_121_method_11_code 110 = .ok (.getfield 35, 3) := by decide +kernel
theorem d11_113 : decode prog_121_method_11_code 113 = .ok (.iload 4, 2) := by decide +kernel
theorem d11_115 : decode prog_121_method_11_code 115 = .ok (.aaload, 1) := by decide +kernel
theorem d11_116 : decode prog_121_method_11_code 116 = .ok (.iload 5, 2) := by decide +kernel
theorem d11_118 : decode prog_121_method_11_code 118 = .ok (.bipush 6, 2) := by decide +kernel
theorem d11_120 : decode prog_121_method_11_code 120 = .ok (.iushr, 1) := by decide +kernel
theorem d11_121 : decode prog_121_method_11_code 121 = .ok (.dup2, 1) := by decide +kernel
theorem d11_122 : decode prog_121_method_11_code 122 = .ok (.laload, 1) := by decide +kernel
theorem d11_123 : decode prog_121_method_11_code 123 = .ok (.lconst 1, 1) := by decide +kernel
theorem d11_124 : decode prog_121_method_11_code 124 = .ok (.iload 5, 2) := by decide +kernel
theorem d11_126 : decode prog_121_method_11_code 126 = .ok (.lshl, 1) := by decide +kernel
theorem d11_127 : decode prog_121_method_11_code 127 = .ok (.lor, 1) := by decide +kernel
theorem d11_128 : decode prog_121_method_11_code 128 = .ok (.lastore, 1) := by decide +kernel
theorem ef_rmMarkbo (m : MethodId) (t : Addr) (key : Int64) (number : Int32) : entryFrame m #[(.ref t), (.long key), (.int number)] 6 = mkF m 0 #[.val (.ref t), .val (.long key), .second, .val (.int number), .unset, .unset] [] := by first | (simp [entryFrame, mkF, argsToLocals, Value.category]; done) | rfl
set_option maxRecDepth 65536 in
set_option maxHeartbeats 40000000 in
theorem rmMarkbo (l : Launch) (Z : State) (a0 : Array Value) (hw : ∀ d ∈ tables_1, d.before a0 Z = true) (ws : List Jvm.Cond) (t : Addr) (key : Int64) (number : Int32) (S np P Ix X : Nat) (md : Nat → Bool) (g : Nat → Nat → Value) (cnt : Int32) (wx : Int64) (h0 : Heap) (n0 : Nat) (Z0 : n0 ≤ h0.size) (hS : S ≤ 15) (hX : key.toInt = X) (hX2 : X < 2 ^ 30) (hP : P = X / 2 ^ S) (hI : Ix = X % 2 ^ S) (hPn : P < np) (hn31 : np < 2 ^ 31) (HK : KT Z h0 n0 t (0 : Int32) "bits" "[[J" .long "[J" S np (max 1 (2 ^ S / 64)) (.long (0 : Int64)) md g cnt) (hgx : g P (Ix / 64) = .long wx) (hm : md P = true) :
    MetFree l (⟨"com/example/parley/parley/core/KeyTable", "mark", "(JI)V"⟩ : MethodName) (head1 (Jvm.Cond.code (⟨"com/example/parley/parley/core/KeyTable", "mark", "(JI)V"⟩ : MethodName) prog_121_method_11_code 6 none :: ws) ({ frames := 0, cells := 1, slots := 512, locals := 0 } : Room)) (fun a_ U_ => a_ = #[(.ref t), (.long key), (.int number)] ∧ Z.Warmed39 U_.vm ∧ U_.heap = h0) (fun _ _ _ _ _ => True) (fun _ U_ o_ U'_ => ∃ v_ L_, o_ = .returned v_ ∧ QK Z t (0 : Int32) "bits" "[[J" .long "[J" S np (max 1 (2 ^ S / 64)) (.long (0 : Int64)) (updM md P) (updG g P (Ix / 64) (.long (wx ||| ((1 : Int64) <<< ((Int32.ofNat Ix) &&& 0x3f).toInt64)))) cnt h0 n0 v_ U'_.heap L_ ∧ FrameEnd U_ o_ U'_ L_ ({ frames := 0, cells := 1, slots := 512, locals := 0 } : Room).cells ({ frames := 0, cells := 1, slots := 512, locals := 0 } : Room).slots) := by
  refine MetFree.of_bodySF (plainFor_of_name pn_11) hisR ?_
  intro p e s m args below meth c s₁ Bd hml0 hP hK
  obtain ⟨rfl, hZ, hh⟩ := hP
  have hx := Bd.exec
  have hby := Bd.bytes
  have hml : c.maxLocals = 6 := hml0
  have hown : s.vm.findClass "com/example/parley/parley/core/KeyTable" = some m.cls := findClass_of_methodNamed Bd.named
  have hnm := (name_of_methodNamed Bd.named Bd.method).1
  have X0 : Stand p l e ({ frames := 0, cells := 1, slots := 512, locals := 0 } : Room) s m #[(.ref t), (.long key), (.int number)] below meth c s₁ [] 0 0 := Stand.of_body Bd
  have e0 : s₁.heap = h0 := by rw [← hh, Bd.state]; rfl
  have N0 := Fr.nil n0
  have k0 : ∀ tg, Steps p.tables e below (s₁.setTop (mkF m 0 #[.val (.ref t), .val (.long key), .second, .val (.int number), .unset, .unset] [])) tg → Steps p.tables e below (s₁.setTop (entryFrame m #[(.ref t), (.long key), (.int number)] 6)) tg := fun tg kq_ => castTop (ef_rmMarkbo m t key number) kq_
  obtain ⟨E_t, F_numbered, F_pageShift, F_pageKeys, F_pageWords, F_madePages, g_t, D, kD, dir, F_dir, V_D, OD, g_D, ne_t_D, hmd, hpg, hinj, hun⟩ := HK
  have hP31 : P < 2 ^ 31 := Nat.lt_trans hPn hn31
  have h2S : 2 ^ S ≤ 2 ^ 15 := Nat.pow_le_pow_right (by decide) hS
  have hIl : Ix < 2 ^ S := by rw [hI]; exact Nat.mod_lt _ (Nat.pow_pos (by decide))
  have hI31 : Ix < 2 ^ 31 := by omega
  have hWl : Ix / 64 < max 1 (2 ^ S / 64) := own_wix Ix S hIl
  have hW31 : Ix / 64 < 2 ^ 31 := by omega
  have hpl1 : 2 ^ S < 2 ^ 31 := by omega
  have hpl2 : max 1 (2 ^ S / 64) < 2 ^ 31 := by omega
  have hpl3 : max 1 (2 ^ S / 64) ≤ 512 := by omega
  obtain ⟨pa, ha⟩ : ∃ pa, dir P = some pa := Option.isSome_iff_exists.mp ((hmd P).trans hm)
  obtain ⟨ne_pa_t, ne_pa_D, g_pa, ka, V_pa⟩ := hpg P pa ha
  obtain ⟨T1, X1, e1, st1⟩ := getF X0 hx hZ hown (host := "") (Or.inl (hw _ (List.mem_of_getElem? (i := 36) rfl))) Via.refl e0 F_pageShift (g := (mkF m 2 #[.val (.ref t), .val (.long key), .second, .val (.int number), .unset, .unset] [(.ref t), (.long key)])) rfl rfl (hb hby d11_2)
  obtain ⟨T2, X2, e2, st2⟩ := getF X1 hx hZ hown (host := "") (Or.inl (hw _ (List.mem_of_getElem? (i := 38) rfl))) Via.refl e1 F_pageKeys (g := (mkF m 12 #[.val (.ref t), .val (.long key), .second, .val (.int number), .val (.int (Int32.ofNat P)), .unset] [(.ref t), (.int (key.toInt32))])) rfl rfl (hb hby d11_12)
  obtain ⟨T3, X3, e3, st3⟩ := getF X2 hx hZ hown (host := "") (Or.inl (hw _ (List.mem_of_getElem? (i := 14) rfl))) Via.refl e2 F_numbered (g := (mkF m 21 #[.val (.ref t), .val (.long key), .second, .val (.int number), .val (.int (Int32.ofNat P)), .val (.int (Int32.ofNat Ix))] [(.ref t)])) rfl rfl (hb hby d11_21)
  have hd4 : (0 : Int32) = (0 : Int32) := rfl
  obtain ⟨T5, X5, e5, st5⟩ := getF X3 hx hZ hown (host := "") (Or.inl (hw _ (List.mem_of_getElem? (i := 53) rfl))) Via.refl e3 F_dir (g := (mkF m 77 #[.val (.ref t), .val (.long key), .second, .val (.int number), .val (.int (Int32.ofNat P)), .val (.int (Int32.ofNat Ix))] [(.ref t)])) rfl rfl (hb hby d11_77)
  obtain ⟨cl82_6, Ar82_6, q82_6, S82_6, H82_6⟩ := id V_D
  have hin82_6 : ¬ ((Int32.ofNat P) < 0 ∨ cl82_6.slots.size ≤ ((Int32.ofNat P)).toNatClampNeg) := own_inb S82_6 (own_nn _ hP31) (by rw [own_clamp _ hP31]; exact hPn)
  have hat82_6 : cl82_6.slots[((Int32.ofNat P)).toNatClampNeg]? = some (.ref pa) := by rw [own_clamp _ hP31]; exact (H82_6 _ hPn).trans (congrArg some (by show dirV (dir P) = _; rw [ha]; rfl))
  obtain ⟨T7, X7, e7, st7⟩ := getF X5 hx hZ hown (host := "") (Or.inl (hw _ (List.mem_of_getElem? (i := 53) rfl))) Via.refl e5 F_dir (g := (mkF m 110 #[.val (.ref t), .val (.long key), .second, .val (.int number), .val (.int (Int32.ofNat P)), .val (.int (Int32.ofNat Ix))] [(.ref t)])) rfl rfl (hb hby d11_110)
  obtain ⟨cl115_8, Ar115_8, q115_8, S115_8, H115_8⟩ := id V_D
  have hin115_8 : ¬ ((Int32.ofNat P) < 0 ∨ cl115_8.slots.size ≤ ((Int32.ofNat P)).toNatClampNeg) := own_inb S115_8 (own_nn _ hP31) (by rw [own_clamp _ hP31]; exact hPn)
  have hat115_8 : cl115_8.slots[((Int32.ofNat P)).toNatClampNeg]? = some (.ref pa) := by rw [own_clamp _ hP31]; exact (H115_8 _ hPn).trans (congrArg some (by show dirV (dir P) = _; rw [ha]; rfl))
  obtain ⟨cl122_9, Ar122_9, q122_9, S122_9, H122_9⟩ := id V_pa
  have hin122_9 : ¬ ((Int32.ofNat (Ix / 64)) < 0 ∨ cl122_9.slots.size ≤ ((Int32.ofNat (Ix / 64))).toNatClampNeg) := own_inb S122_9 (own_nn _ hW31) (by rw [own_clamp _ hW31]; exact hWl)
  have hat122_9 : cl122_9.slots[((Int32.ofNat (Ix / 64))).toNatClampNeg]? = some (.long wx) := by rw [own_clamp _ hW31]; exact (H122_9 _ hWl).trans (congrArg some hgx)
  obtain ⟨cl128_10, Ar128_10, q128_10, S128_10, H128_10⟩ := id V_pa
  have hin128_10 : ¬ ((Int32.ofNat (Ix / 64)) < 0 ∨ cl128_10.slots.size ≤ ((Int32.ofNat (Ix / 64))).toNatClampNeg) := own_inb S128_10 (own_nn _ hW31) (by rw [own_clamp _ hW31]; exact hWl)
  obtain ⟨T11, h11, X11, e11, W11, st11⟩ := stJ X7 hx hZ e7 Ar128_10 (j := (Int32.ofNat (Ix / 64))) hin128_10 (g := (mkF m 128 #[.val (.ref t), .val (.long key), .second, .val (.int number), .val (.int (Int32.ofNat P)), .val (.int (Int32.ofNat Ix))] [(.long (wx ||| ((1 : Int64) <<< ((Int32.ofNat Ix) &&& 0x3f).toInt64))), (.int (Int32.ofNat (Ix / 64))), (.ref pa)])) rfl rfl (hb hby d11_128)
  have E11_t := E_t.wr W11
  have F11_t_numbered := F_numbered.other W11 (Or.inl (Ne.symm ne_pa_t))
  have F11_t_pageShift := F_pageShift.other W11 (Or.inl (Ne.symm ne_pa_t))
  have F11_t_pageKeys := F_pageKeys.other W11 (Or.inl (Ne.symm ne_pa_t))
  have F11_t_pageWords := F_pageWords.other W11 (Or.inl (Ne.symm ne_pa_t))
  have F11_t_madePages := F_madePages.other W11 (Or.inl (Ne.symm ne_pa_t))
  have F11_t_bits := F_dir.other W11 (Or.inl (Ne.symm ne_pa_t))
  have A11_D := V_D.other W11 (Ne.symm ne_pa_D)
  have Z11 := Nat.le_trans Z0 (Keep.of_wr W11).1
  have KP11 := (Keep.refl h0 [t, D, pa]).wr W11 (Or.inl (List.mem_of_getElem? (i := 2) rfl))
  have N11 := Fr.snoc X11 N0 g_pa
  have A11_pa : Af Z h11 pa ka .long (max 1 (2 ^ S / 64)) (fun i => if i = (Ix / 64) then (.long (wx ||| ((1 : Int64) <<< ((Int32.ofNat Ix) &&& 0x3f).toInt64))) else (g P) i) := by have q := Af.set Ar128_10 q128_10 S128_10 H128_10 W11; rw [own_clamp _ hW31] at q; exact q
  have k12 : ∀ tg, Steps p.tables e below (T11.setTop (mkF m 129 #[.val (.ref t), .val (.long key), .second, .val (.int number), .val (.int (Int32.ofNat P)), .val (.int (Int32.ofNat Ix))] [])) tg → Steps p.tables e below (s₁.setTop (entryFrame m #[(.ref t), (.long key), (.int number)] 6)) tg := by
    intro tg kt
    refine k0 tg ?_
    show Steps p.tables e below (s₁.setTop (mkF m 0 #[.val (.ref t), .val (.long key), .second, .val (.int number), .unset, .unset] [])) _
    refine XS.lloadN X0.here hx rfl (hb hby d11_0) rfl ?_
    show Steps p.tables e below (s₁.setTop (mkF m 1 #[.val (.ref t), .val (.long key), .second, .val (.int number), .unset, .unset] [(.long key)])) _
    refine XS.aloadN X0.here hx rfl (hb hby d11_1) rfl rfl ?_
    show Steps p.tables e below (s₁.setTop (mkF m 2 #[.val (.ref t), .val (.long key), .second, .val (.int number), .unset, .unset] [(.ref t), (.long key)])) _
    refine st1 _ ?_
    show Steps p.tables e below (T1.setTop (mkF m 5 #[.val (.ref t), .val (.long key), .second, .val (.int number), .unset, .unset] [(.int (Int32.ofNat S)), (.long key)])) _
    refine XS.lushr X1.here hx rfl (hb hby d11_5) rfl ?_
    show Steps p.tables e below (T1.setTop (mkF m 6 #[.val (.ref t), .val (.long key), .second, .val (.int number), .unset, .unset] [(.long ((key.toUInt64 >>> ((Int32.ofNat S) &&& 0x3f).toInt64.toUInt64).toInt64))])) _
    refine XS.l2i X1.here hx rfl (hb hby d11_6) rfl ?_
    show Steps p.tables e below (T1.setTop (mkF m 7 #[.val (.ref t), .val (.long key), .second, .val (.int number), .unset, .unset] [(.int (((key.toUInt64 >>> ((Int32.ofNat S) &&& 0x3f).toInt64.toUInt64).toInt64).toInt32))])) _
    rw [(own_pageI key X S P hX hX2 hS hP)]
    show Steps p.tables e below (T1.setTop (mkF m 7 #[.val (.ref t), .val (.long key), .second, .val (.int number), .unset, .unset] [(.int (Int32.ofNat P))])) _
    refine XS.istore X1.here hx rfl (hb hby d11_7) rfl (l' := #[.val (.ref t), .val (.long key), .second, .val (.int number), .val (.int (Int32.ofNat P)), .unset]) rfl ?_
    show Steps p.tables e below (T1.setTop (mkF m 9 #[.val (.ref t), .val (.long key), .second, .val (.int number), .val (.int (Int32.ofNat P)), .unset] [])) _
    refine XS.lloadN X1.here hx rfl (hb hby d11_9) rfl ?_
    show Steps p.tables e below (T1.setTop (mkF m 10 #[.val (.ref t), .val (.long key), .second, .val (.int number), .val (.int (Int32.ofNat P)), .unset] [(.long key)])) _
    refine XS.l2i X1.here hx rfl (hb hby d11_10) rfl ?_
    show Steps p.tables e below (T1.setTop (mkF m 11 #[.val (.ref t), .val (.long key), .second, .val (.int number), .val (.int (Int32.ofNat P)), .unset] [(.int (key.toInt32))])) _
    refine XS.aloadN X1.here hx rfl (hb hby d11_11) rfl rfl ?_
    show Steps p.tables e below (T1.setTop (mkF m 12 #[.val (.ref t), .val (.long key), .second, .val (.int number), .val (.int (Int32.ofNat P)), .unset] [(.ref t), (.int (key.toInt32))])) _
    refine st2 _ ?_
    show Steps p.tables e below (T2.setTop (mkF m 15 #[.val (.ref t), .val (.long key), .second, .val (.int number), .val (.int (Int32.ofNat P)), .unset] [(.int (Int32.ofNat (2 ^ S))), (.int (key.toInt32))])) _
    refine XS.iconst X2.here hx rfl (hb hby d11_15) ?_
    show Steps p.tables e below (T2.setTop (mkF m 16 #[.val (.ref t), .val (.long key), .second, .val (.int number), .val (.int (Int32.ofNat P)), .unset] [(.int (1 : Int32)), (.int (Int32.ofNat (2 ^ S))), (.int (key.toInt32))])) _
    refine XS.isub X2.here hx rfl (hb hby d11_16) rfl ?_
    show Steps p.tables e below (T2.setTop (mkF m 17 #[.val (.ref t), .val (.long key), .second, .val (.int number), .val (.int (Int32.ofNat P)), .unset] [(.int ((Int32.ofNat (2 ^ S)) - (1 : Int32))), (.int (key.toInt32))])) _
    refine XS.iand X2.here hx rfl (hb hby d11_17) rfl ?_
    show Steps p.tables e below (T2.setTop (mkF m 18 #[.val (.ref t), .val (.long key), .second, .val (.int number), .val (.int (Int32.ofNat P)), .unset] [(.int ((key.toInt32) &&& ((Int32.ofNat (2 ^ S)) - (1 : Int32))))])) _
    rw [(own_ixI key X S Ix hX hX2 hS hI)]
    show Steps p.tables e below (T2.setTop (mkF m 18 #[.val (.ref t), .val (.long key), .second, .val (.int number), .val (.int (Int32.ofNat P)), .unset] [(.int (Int32.ofNat Ix))])) _
    refine XS.istore X2.here hx rfl (hb hby d11_18) rfl (l' := #[.val (.ref t), .val (.long key), .second, .val (.int number), .val (.int (Int32.ofNat P)), .val (.int (Int32.ofNat Ix))]) rfl ?_
    show Steps p.tables e below (T2.setTop (mkF m 20 #[.val (.ref t), .val (.long key), .second, .val (.int number), .val (.int (Int32.ofNat P)), .val (.int (Int32.ofNat Ix))] [])) _
    refine XS.aloadN X2.here hx rfl (hb hby d11_20) rfl rfl ?_
    show Steps p.tables e below (T2.setTop (mkF m 21 #[.val (.ref t), .val (.long key), .second, .val (.int number), .val (.int (Int32.ofNat P)), .val (.int (Int32.ofNat Ix))] [(.ref t)])) _
    refine st3 _ ?_
    show Steps p.tables e below (T3.setTop (mkF m 24 #[.val (.ref t), .val (.long key), .second, .val (.int number), .val (.int (Int32.ofNat P)), .val (.int (Int32.ofNat Ix))] [(.int (0 : Int32))])) _
    refine XS.ifYes X3.here hx rfl (pc0 := 24) (pc' := 76) rfl (hb hby d11_24) rfl ((if0 _ _).trans (teq hd4).1) (by decide) (by decide) ?_
    show Steps p.tables e below (T3.setTop (mkF m 76 #[.val (.ref t), .val (.long key), .second, .val (.int number), .val (.int (Int32.ofNat P)), .val (.int (Int32.ofNat Ix))] [])) _
    refine XS.aloadN X3.here hx rfl (hb hby d11_76) rfl rfl ?_
    show Steps p.tables e below (T3.setTop (mkF m 77 #[.val (.ref t), .val (.long key), .second, .val (.int number), .val (.int (Int32.ofNat P)), .val (.int (Int32.ofNat Ix))] [(.ref t)])) _
    refine st5 _ ?_
    show Steps p.tables e below (T5.setTop (mkF m 80 #[.val (.ref t), .val (.long key), .second, .val (.int number), .val (.int (Int32.ofNat P)), .val (.int (Int32.ofNat Ix))] [(.ref D)])) _
    refine XS.iload X5.here hx rfl (hb hby d11_80) rfl ?_
    show Steps p.tables e below (T5.setTop (mkF m 82 #[.val (.ref t), .val (.long key), .second, .val (.int number), .val (.int (Int32.ofNat P)), .val (.int (Int32.ofNat Ix))] [(.int (Int32.ofNat P)), (.ref D)])) _
    refine X5.aaload hx (j := (Int32.ofNat P)) (v := (.ref pa)) (by rw [e5]; exact Ar82_6.1) (State.isArrayOf_alike hZ.alike Ar82_6.2.1) rfl Ar82_6.2.2 hin82_6 hat82_6 (g := (mkF m 82 #[.val (.ref t), .val (.long key), .second, .val (.int number), .val (.int (Int32.ofNat P)), .val (.int (Int32.ofNat Ix))] [(.int (Int32.ofNat P)), (.ref D)])) rfl rfl (hb hby d11_82) _ ?_
    show Steps p.tables e below (T5.setTop (mkF m 83 #[.val (.ref t), .val (.long key), .second, .val (.int number), .val (.int (Int32.ofNat P)), .val (.int (Int32.ofNat Ix))] [(.ref pa)])) _
    refine XS.ifnonnullYes X5.here hx rfl (pc0 := 83) (pc' := 109) rfl (hb hby d11_83) rfl (by decide) (by decide) ?_
    show Steps p.tables e below (T5.setTop (mkF m 109 #[.val (.ref t), .val (.long key), .second, .val (.int number), .val (.int (Int32.ofNat P)), .val (.int (Int32.ofNat Ix))] [])) _
    refine XS.aloadN X5.here hx rfl (hb hby d11_109) rfl rfl ?_
    show Steps p.tables e below (T5.setTop (mkF m 110 #[.val (.ref t), .val (.long key), .second, .val (.int number), .val (.int (Int32.ofNat P)), .val (.int (Int32.ofNat Ix))] [(.ref t)])) _
    refine st7 _ ?_
    show Steps p.tables e below (T7.setTop (mkF m 113 #[.val (.ref t), .val (.long key), .second, .val (.int number), .val (.int (Int32.ofNat P)), .val (.int (Int32.ofNat Ix))] [(.ref D)])) _
    refine XS.iload X7.here hx rfl (hb hby d11_113) rfl ?_
    show Steps p.tables e below (T7.setTop (mkF m 115 #[.val (.ref t), .val (.long key), .second, .val (.int number), .val (.int (Int32.ofNat P)), .val (.int (Int32.ofNat Ix))] [(.int (Int32.ofNat P)), (.ref D)])) _
    refine X7.aaload hx (j := (Int32.ofNat P)) (v := (.ref pa)) (by rw [e7]; exact Ar115_8.1) (State.isArrayOf_alike hZ.alike Ar115_8.2.1) rfl Ar115_8.2.2 hin115_8 hat115_8 (g := (mkF m 115 #[.val (.ref t), .val (.long key), .second, .val (.int number), .val (.int (Int32.ofNat P)), .val (.int (Int32.ofNat Ix))] [(.int (Int32.ofNat P)), (.ref D)])) rfl rfl (hb hby d11_115) _ ?_
    show Steps p.tables e below (T7.setTop (mkF m 116 #[.val (.ref t), .val (.long key), .second, .val (.int number), .val (.int (Int32.ofNat P)), .val (.int (Int32.ofNat Ix))] [(.ref pa)])) _
    refine XS.iload X7.here hx rfl (hb hby d11_116) rfl ?_
    show Steps p.tables e below (T7.setTop (mkF m 118 #[.val (.ref t), .val (.long key), .second, .val (.int number), .val (.int (Int32.ofNat P)), .val (.int (Int32.ofNat Ix))] [(.int (Int32.ofNat Ix)), (.ref pa)])) _
    refine XS.bipush X7.here hx rfl (hb hby d11_118) ?_
    show Steps p.tables e below (T7.setTop (mkF m 120 #[.val (.ref t), .val (.long key), .second, .val (.int number), .val (.int (Int32.ofNat P)), .val (.int (Int32.ofNat Ix))] [(.int (6 : Int32)), (.int (Int32.ofNat Ix)), (.ref pa)])) _
    refine XS.iushr X7.here hx rfl (hb hby d11_120) rfl ?_
    show Steps p.tables e below (T7.setTop (mkF m 121 #[.val (.ref t), .val (.long key), .second, .val (.int number), .val (.int (Int32.ofNat P)), .val (.int (Int32.ofNat Ix))] [(.int (((Int32.ofNat Ix).toUInt32 >>> ((6 : Int32) &&& 31).toUInt32).toInt32)), (.ref pa)])) _
    rw [(own_ixw Ix (Nat.lt_of_lt_of_le hIl h2S))]
    show Steps p.tables e below (T7.setTop (mkF m 121 #[.val (.ref t), .val (.long key), .second, .val (.int number), .val (.int (Int32.ofNat P)), .val (.int (Int32.ofNat Ix))] [(.int (Int32.ofNat (Ix / 64))), (.ref pa)])) _
    jvm_step X7.here [X7.here.top, hx, (hb hby d11_121), Value.category]
    show Steps p.tables e below (T7.setTop (mkF m 122 #[.val (.ref t), .val (.long key), .second, .val (.int number), .val (.int (Int32.ofNat P)), .val (.int (Int32.ofNat Ix))] [(.int (Int32.ofNat (Ix / 64))), (.ref pa), (.int (Int32.ofNat (Ix / 64))), (.ref pa)])) _
    refine X7.laload hx (j := (Int32.ofNat (Ix / 64))) (v := (.long wx)) (by rw [e7]; exact Ar122_9.1) (State.isArrayOf_alike hZ.alike Ar122_9.2.1) Ar122_9.2.2 hin122_9 hat122_9 (g := (mkF m 122 #[.val (.ref t), .val (.long key), .second, .val (.int number), .val (.int (Int32.ofNat P)), .val (.int (Int32.ofNat Ix))] [(.int (Int32.ofNat (Ix / 64))), (.ref pa), (.int (Int32.ofNat (Ix / 64))), (.ref pa)])) rfl rfl (hb hby d11_122) _ ?_
    show Steps p.tables e below (T7.setTop (mkF m 123 #[.val (.ref t), .val (.long key), .second, .val (.int number), .val (.int (Int32.ofNat P)), .val (.int (Int32.ofNat Ix))] [(.long wx), (.int (Int32.ofNat (Ix / 64))), (.ref pa)])) _
    refine XS.lconst X7.here hx rfl (hb hby d11_123) ?_
    show Steps p.tables e below (T7.setTop (mkF m 124 #[.val (.ref t), .val (.long key), .second, .val (.int number), .val (.int (Int32.ofNat P)), .val (.int (Int32.ofNat Ix))] [(.long (1 : Int64)), (.long wx), (.int (Int32.ofNat (Ix / 64))), (.ref pa)])) _
    refine XS.iload X7.here hx rfl (hb hby d11_124) rfl ?_
    show Steps p.tables e below (T7.setTop (mkF m 126 #[.val (.ref t), .val (.long key), .second, .val (.int number), .val (.int (Int32.ofNat P)), .val (.int (Int32.ofNat Ix))] [(.int (Int32.ofNat Ix)), (.long (1 : Int64)), (.long wx), (.int (Int32.ofNat (Ix / 64))), (.ref pa)])) _
    refine XS.lshl X7.here hx rfl (hb hby d11_126) rfl ?_
    show Steps p.tables e below (T7.setTop (mkF m 127 #[.val (.ref t), .val (.long key), .second, .val (.int number), .val (.int (Int32.ofNat P)), .val (.int (Int32.ofNat Ix))] [(.long ((1 : Int64) <<< ((Int32.ofNat Ix) &&& 0x3f).toInt64)), (.long wx), (.int (Int32.ofNat (Ix / 64))), (.ref pa)])) _
    refine XS.lor X7.here hx rfl (hb hby d11_127) rfl ?_
    show Steps p.tables e below (T7.setTop (mkF m 128 #[.val (.ref t), .val (.long key), .second, .val (.int number), .val (.int (Int32.ofNat P)), .val (.int (Int32.ofNat Ix))] [(.long (wx ||| ((1 : Int64) <<< ((Int32.ofNat Ix) &&& 0x3f).toInt64))), (.int (Int32.ofNat (Ix / 64))), (.ref pa)])) _
    refine st11 _ ?_
    show Steps p.tables e below (T11.setTop (mkF m 129 #[.val (.ref t), .val (.long key), .second, .val (.int number), .val (.int (Int32.ofNat P)), .val (.int (Int32.ofNat Ix))] [])) _
    exact kt
  obtain ⟨fs, hr, hrun, hended, hW, hsame⟩ := X11.leave (v := none) (fun _ => rfl)
  refine ⟨_, _, k12 _ ?_, hrun, hended, _, _, rfl, ?_, ⟨_, rfl⟩, hW, hsame.mono (by decide) (by decide)⟩
  · exact X11.returnOut hx Bd.returns (hb hby d11_129) hr
  · show QK Z t (0 : Int32) "bits" "[[J" .long "[J" S np (max 1 (2 ^ S / 64)) (.long (0 : Int64)) (updM md P) (updG g P (Ix / 64) (.long (wx ||| ((1 : Int64) <<< ((Int32.ofNat Ix) &&& 0x3f).toInt64)))) cnt h0 n0 _ T11.heap _
    rw [e11]
    refine ⟨rfl, N11, KP11.1, E11_t, F11_t_numbered, F11_t_pageShift, F11_t_pageKeys, F11_t_pageWords, F11_t_madePages, g_t, D, kD, dir, F11_t_bits, A11_D, OD, g_D, ne_t_D, fun i => ?_, fun i b hb_ => ?_, hinj, fun i j hi => ?_⟩
    · rw [hmd i]; unfold updM; by_cases q : i = P
      · subst q; simp [hm]
      · simp [q]
    · by_cases q : i = P
      · subst q; cases Option.some.inj (ha.symm.trans hb_)
        exact ⟨ne_pa_t, ne_pa_D, g_pa, ka, A11_pa.congr (fun j _ => by unfold updG; by_cases r : j = (Ix / 64) <;> simp [r])⟩
      · obtain ⟨a1, a2, a3, k, V⟩ := hpg i b hb_
        have a4 : b ≠ pa := fun e_ => q (hinj i P b hb_ (e_ ▸ ha))
        exact ⟨a1, a2, a3, k, (V.keep KP11 (ninS a1 (ninS a2 (ninS a4 nin0)))).congr (fun j _ => by unfold updG; simp [q])⟩
    · unfold updM at hi; simp at hi; unfold updG; rw [if_neg (fun q => hi.1 q.1)]; exact hun i j hi.2
theorem d11_86 : decode prog_121_method_11_code 86 = .ok (.aload_n 0, 1) := by decide +kernel
theorem d11_87 : decode prog_121_method_11_code 87 = .ok (.getfield 35, 3) := by decide +kernel
theorem d11_90 : decode prog_121_method_11_code 90 = .ok (.iload 4, 2) := by decide +kernel
theorem d11_92 : decode prog_121_method_11_code 92 = .ok (.aload_n 0, 1) := by decide +kernel
theorem d11_93 : decode prog_121_method_11_code 93 = .ok (.getfield 27, 3) := by decide +kernel
theorem d11_96 : decode prog_121_method_11_code 96 = .ok (.newarray .long, 2) := by decide +kernel
theorem d11_98 : decode prog_121_method_11_code 98 = .ok (.aastore, 1) := by decide +kernel
theorem d11_99 : decode prog_121_method_11_code 99 = .ok (.aload_n 0, 1) := by decide +kernel
theorem d11_100 : decode prog_121_method_11_code 100 = .ok (.dup, 1) := by decide +kernel
theorem d11_101 : decode prog_121_method_11_code 101 = .ok (.getfield 77, 3) := by decide +kernel
theorem d11_104 : decode prog_121_method_11_code 104 = .ok (.iconst 1, 1) := by decide +kernel
theorem d11_105 : decode prog_121_method_11_code 105 = .ok (.iadd, 1) := by decide +kernel
theorem d11_106 : decode prog_121_method_11_code 106 = .ok (.putfield 77, 3) := by decide +kernel
theorem ef_rmMarkbw (m : MethodId) (t : Addr) (key : Int64) (number : Int32) : entryFrame m #[(.ref t), (.long key), (.int number)] 6 = mkF m 0 #[.val (.ref t), .val (.long key), .second, .val (.int number), .unset, .unset] [] := by first | (simp [entryFrame, mkF, argsToLocals, Value.category]; done) | rfl
set_option maxRecDepth 65536 in
set_option maxHeartbeats 40000000 in
theorem rmMarkbw (l : Launch) (Z : State) (a0 : Array Value) (hw : ∀ d ∈ tables_1, d.before a0 Z = true) (ws : List Jvm.Cond) (t : Addr) (key : Int64) (number : Int32) (S np P Ix X : Nat) (md : Nat → Bool) (g : Nat → Nat → Value) (cnt : Int32) (wx : Int64) (h0 : Heap) (n0 : Nat) (Z0 : n0 ≤ h0.size) (hS : S ≤ 15) (hX : key.toInt = X) (hX2 : X < 2 ^ 30) (hP : P = X / 2 ^ S) (hI : Ix = X % 2 ^ S) (hPn : P < np) (hn31 : np < 2 ^ 31) (HK : KT Z h0 n0 t (0 : Int32) "bits" "[[J" .long "[J" S np (max 1 (2 ^ S / 64)) (.long (0 : Int64)) md g cnt) (hgx : g P (Ix / 64) = .long wx) (hm : md P = false) :
    MetFree l (⟨"com/example/parley/parley/core/KeyTable", "mark", "(JI)V"⟩ : MethodName) (head1 (Jvm.Cond.code (⟨"com/example/parley/parley/core/KeyTable", "mark", "(JI)V"⟩ : MethodName) prog_121_method_11_code 6 none :: ws) ({ frames := 0, cells := 1, slots := 512, locals := 0 } : Room)) (fun a_ U_ => a_ = #[(.ref t), (.long key), (.int number)] ∧ Z.Warmed39 U_.vm ∧ U_.heap = h0) (fun _ _ _ _ _ => True) (fun _ U_ o_ U'_ => ∃ v_ L_, o_ = .returned v_ ∧ QK Z t (0 : Int32) "bits" "[[J" .long "[J" S np (max 1 (2 ^ S / 64)) (.long (0 : Int64)) (updM md P) (updG g P (Ix / 64) (.long (wx ||| ((1 : Int64) <<< ((Int32.ofNat Ix) &&& 0x3f).toInt64)))) (cnt + (1 : Int32)) h0 n0 v_ U'_.heap L_ ∧ FrameEnd U_ o_ U'_ L_ ({ frames := 0, cells := 1, slots := 512, locals := 0 } : Room).cells ({ frames := 0, cells := 1, slots := 512, locals := 0 } : Room).slots) := by
  refine MetFree.of_bodySF (plainFor_of_name pn_11) hisR ?_
  intro p e s m args below meth c s₁ Bd hml0 hP hK
  obtain ⟨rfl, hZ, hh⟩ := hP
  have hx := Bd.exec
  have hby := Bd.bytes
  have hml : c.maxLocals = 6 := hml0
  have hown : s.vm.findClass "com/example/parley/parley/core/KeyTable" = some m.cls := findClass_of_methodNamed Bd.named
  have hnm := (name_of_methodNamed Bd.named Bd.method).1
  have X0 : Stand p l e ({ frames := 0, cells := 1, slots := 512, locals := 0 } : Room) s m #[(.ref t), (.long key), (.int number)] below meth c s₁ [] 0 0 := Stand.of_body Bd
  have e0 : s₁.heap = h0 := by rw [← hh, Bd.state]; rfl
  have N0 := Fr.nil n0
  have k0 : ∀ tg, Steps p.tables e below (s₁.setTop (mkF m 0 #[.val (.ref t), .val (.long key), .second, .val (.int number), .unset, .unset] [])) tg → Steps p.tables e below (s₁.setTop (entryFrame m #[(.ref t), (.long key), (.int number)] 6)) tg := fun tg kq_ => castTop (ef_rmMarkbw m t key number) kq_
  obtain ⟨E_t, F_numbered, F_pageShift, F_pageKeys, F_pageWords, F_madePages, g_t, D, kD, dir, F_dir, V_D, OD, g_D, ne_t_D, hmd, hpg, hinj, hun⟩ := HK
  have hP31 : P < 2 ^ 31 := Nat.lt_trans hPn hn31
  have h2S : 2 ^ S ≤ 2 ^ 15 := Nat.pow_le_pow_right (by decide) hS
  have hIl : Ix < 2 ^ S := by rw [hI]; exact Nat.mod_lt _ (Nat.pow_pos (by decide))
  have hI31 : Ix < 2 ^ 31 := by omega
  have hWl : Ix / 64 < max 1 (2 ^ S / 64) := own_wix Ix S hIl
  have hW31 : Ix / 64 < 2 ^ 31 := by omega
  have hpl1 : 2 ^ S < 2 ^ 31 := by omega
  have hpl2 : max 1 (2 ^ S / 64) < 2 ^ 31 := by omega
  have hpl3 : max 1 (2 ^ S / 64) ≤ 512 := by omega
  have ha : dir P = none := by have q := hmd P; rw [hm] at q; exact Option.not_isSome_iff_eq_none.mp (by rw [q]; exact Bool.false_ne_true)
  have hx0 : wx = 0 := by have q := hun P (Ix / 64) hm; rw [hgx] at q; exact Value.long.inj q
  obtain ⟨T1, X1, e1, st1⟩ := getF X0 hx hZ hown (host := "") (Or.inl (hw _ (List.mem_of_getElem? (i := 36) rfl))) Via.refl e0 F_pageShift (g := (mkF m 2 #[.val (.ref t), .val (.long key), .second, .val (.int number), .unset, .unset] [(.ref t), (.long key)])) rfl rfl (hb hby d11_2)
  obtain ⟨T2, X2, e2, st2⟩ := getF X1 hx hZ hown (host := "") (Or.inl (hw _ (List.mem_of_getElem? (i := 38) rfl))) Via.refl e1 F_pageKeys (g := (mkF m 12 #[.val (.ref t), .val (.long key), .second, .val (.int number), .val (.int (Int32.ofNat P)), .unset] [(.ref t), (.int (key.toInt32))])) rfl rfl (hb hby d11_12)
  obtain ⟨T3, X3, e3, st3⟩ := getF X2 hx hZ hown (host := "") (Or.inl (hw _ (List.mem_of_getElem? (i := 14) rfl))) Via.refl e2 F_numbered (g := (mkF m 21 #[.val (.ref t), .val (.long key), .second, .val (.int number), .val (.int (Int32.ofNat P)), .val (.int (Int32.ofNat Ix))] [(.ref t)])) rfl rfl (hb hby d11_21)
  have hd4 : (0 : Int32) = (0 : Int32) := rfl
  obtain ⟨T5, X5, e5, st5⟩ := getF X3 hx hZ hown (host := "") (Or.inl (hw _ (List.mem_of_getElem? (i := 53) rfl))) Via.refl e3 F_dir (g := (mkF m 77 #[.val (.ref t), .val (.long key), .second, .val (.int number), .val (.int (Int32.ofNat P)), .val (.int (Int32.ofNat Ix))] [(.ref t)])) rfl rfl (hb hby d11_77)
  obtain ⟨cl82_6, Ar82_6, q82_6, S82_6, H82_6⟩ := id V_D
  have hin82_6 : ¬ ((Int32.ofNat P) < 0 ∨ cl82_6.slots.size ≤ ((Int32.ofNat P)).toNatClampNeg) := own_inb S82_6 (own_nn _ hP31) (by rw [own_clamp _ hP31]; exact hPn)
  have hat82_6 : cl82_6.slots[((Int32.ofNat P)).toNatClampNeg]? = some .null := by rw [own_clamp _ hP31]; exact (H82_6 _ hPn).trans (congrArg some (by show dirV (dir P) = _; rw [ha]; rfl))
  obtain ⟨T7, X7, e7, st7⟩ := getF X5 hx hZ hown (host := "") (Or.inl (hw _ (List.mem_of_getElem? (i := 53) rfl))) Via.refl e5 F_dir (g := (mkF m 87 #[.val (.ref t), .val (.long key), .second, .val (.int number), .val (.int (Int32.ofNat P)), .val (.int (Int32.ofNat Ix))] [(.ref t)])) rfl rfl (hb hby d11_87)
  obtain ⟨T8, X8, e8, st8⟩ := getF X7 hx hZ hown (host := "") (Or.inl (hw _ (List.mem_of_getElem? (i := 46) rfl))) Via.refl e7 F_pageWords (g := (mkF m 93 #[.val (.ref t), .val (.long key), .second, .val (.int number), .val (.int (Int32.ofNat P)), .val (.int (Int32.ofNat Ix))] [(.ref t), (.int (Int32.ofNat P)), (.ref D)])) rfl rfl (hb hby d11_93)
  obtain ⟨T9, h9, c9, X9, e9, E9, A9, Ex9, st9⟩ := newPE X8 hx hZ (hw _ (List.mem_of_getElem? (i := 62) rfl)) e8 (g := (mkF m 96 #[.val (.ref t), .val (.long key), .second, .val (.int number), .val (.int (Int32.ofNat P)), .val (.int (Int32.ofNat Ix))] [(.int (Int32.ofNat (max 1 (2 ^ S / 64)))), (.int (Int32.ofNat P)), (.ref D)])) rfl (hb hby d11_96) rfl (own_nn _ hpl2) (cap := 512) (by rw [own_clamp _ hpl2]; exact hpl3) (by decide) (by decide) (by decide) (ad := "[J") (by decide)
  obtain ⟨pg, g9⟩ : ∃ z, z = h0.size := ⟨_, rfl⟩
  have ne_t_pg : t ≠ pg := Nat.ne_of_lt (Nat.lt_of_lt_of_le E_t.lt (Nat.le_of_eq g9.symm))
  have ne_D_pg : D ≠ pg := Nat.ne_of_lt (Nat.lt_of_lt_of_le V_D.lt (Nat.le_of_eq g9.symm))
  have g_pg : n0 ≤ pg := Nat.le_trans Z0 (Nat.le_of_eq g9.symm)
  have sz_pg : h0.size ≤ pg := Nat.le_trans (Keep.refl h0 [t, D]).1 (Nat.le_of_eq g9.symm)
  rw [← g9] at A9 Ex9 st9
  have E9_t := E_t.ext E9
  have F9_t_numbered := F_numbered.ext E9
  have F9_t_pageShift := F_pageShift.ext E9
  have F9_t_pageKeys := F_pageKeys.ext E9
  have F9_t_pageWords := F_pageWords.ext E9
  have F9_t_madePages := F_madePages.ext E9
  have F9_t_bits := F_dir.ext E9
  have A9_D := V_D.ext E9
  have Z9 := Nat.le_trans Z0 E9.1
  have KP9 := (Keep.refl h0 [t, D]).ext E9
  have V_pg : Af Z h9 pg c9 .long (max 1 (2 ^ S / 64)) (fun _ => (.long (0 : Int64))) := Af.new A9 (own_clamp _ hpl2)
  have I_pg : Ins Z h9 pg "[J" true := Ins.of_exa Ex9 (hw _ (List.mem_of_getElem? (i := 63) rfl))
  obtain ⟨cl98_10, Ar98_10, q98_10, S98_10, H98_10⟩ := id A9_D
  have hin98_10 : ¬ ((Int32.ofNat P) < 0 ∨ cl98_10.slots.size ≤ ((Int32.ofNat P)).toNatClampNeg) := own_inb S98_10 (own_nn _ hP31) (by rw [own_clamp _ hP31]; exact hPn)
  obtain ⟨T11, h11, X11, e11, W11, st11⟩ := stR X9 hx hZ e9 Ar98_10 (j := (Int32.ofNat P)) hin98_10 rfl (Sto.ofVA Ar98_10 q98_10 OD I_pg) (g := (mkF m 98 #[.val (.ref t), .val (.long key), .second, .val (.int number), .val (.int (Int32.ofNat P)), .val (.int (Int32.ofNat Ix))] [(.ref pg), (.int (Int32.ofNat P)), (.ref D)])) rfl rfl (hb hby d11_98)
  have E11_t := E9_t.wr W11
  have F11_t_numbered := F9_t_numbered.other W11 (Or.inl ne_t_D)
  have F11_t_pageShift := F9_t_pageShift.other W11 (Or.inl ne_t_D)
  have F11_t_pageKeys := F9_t_pageKeys.other W11 (Or.inl ne_t_D)
  have F11_t_pageWords := F9_t_pageWords.other W11 (Or.inl ne_t_D)
  have F11_t_madePages := F9_t_madePages.other W11 (Or.inl ne_t_D)
  have F11_t_bits := F9_t_bits.other W11 (Or.inl ne_t_D)
  have A11_pg := V_pg.other W11 (Ne.symm ne_D_pg)
  have Z11 := Nat.le_trans Z9 (Keep.of_wr W11).1
  have KP11 := KP9.wr W11 (Or.inl (List.mem_of_getElem? (i := 1) rfl))
  have N11 := Fr.snoc X11 N0 g_D
  have A11_D : Af Z h11 D kD (.array .long) np (fun i => if i = P then (.ref pg) else (fun i => dirV (dir i)) i) := by have q := Af.set Ar98_10 q98_10 S98_10 H98_10 W11; rw [own_clamp _ hP31] at q; exact q
  obtain ⟨T12, X12, e12, st12⟩ := getF X11 hx hZ hown (host := "") (Or.inl (hw _ (List.mem_of_getElem? (i := 64) rfl))) Via.refl e11 F11_t_madePages (g := (mkF m 101 #[.val (.ref t), .val (.long key), .second, .val (.int number), .val (.int (Int32.ofNat P)), .val (.int (Int32.ofNat Ix))] [(.ref t), (.ref t)])) rfl rfl (hb hby d11_101)
  obtain ⟨T13, h13, X13, e13, W13, st13⟩ := putF X12 hx hZ hown (host := "") (Or.inl (hw _ (List.mem_of_getElem? (i := 64) rfl))) Via.refl e12 F11_t_madePages E11_t (Or.inl (hw _ (List.mem_of_getElem? (i := 65) rfl))) (hw _ (List.mem_of_getElem? (i := 6) rfl)) (ty := .int) (by decide) rfl rfl (g := (mkF m 106 #[.val (.ref t), .val (.long key), .second, .val (.int number), .val (.int (Int32.ofNat P)), .val (.int (Int32.ofNat Ix))] [(.int (cnt + (1 : Int32))), (.ref t)])) rfl rfl (hb hby d11_106)
  have E13_t := E11_t.wr W13
  have F13_t_numbered := F11_t_numbered.other W13 (Or.inr (slot_ne (Or.inr (hw _ (List.mem_of_getElem? (i := 15) rfl))) (Or.inl (hw _ (List.mem_of_getElem? (i := 65) rfl))) (by decide) (t := .boolean) (t' := .int) (by decide) (by decide)))
  have F13_t_pageShift := F11_t_pageShift.other W13 (Or.inr (slot_ne (Or.inr (hw _ (List.mem_of_getElem? (i := 37) rfl))) (Or.inl (hw _ (List.mem_of_getElem? (i := 65) rfl))) (by decide) (t := .int) (t' := .int) (by decide) (by decide)))
  have F13_t_pageKeys := F11_t_pageKeys.other W13 (Or.inr (slot_ne (Or.inr (hw _ (List.mem_of_getElem? (i := 39) rfl))) (Or.inl (hw _ (List.mem_of_getElem? (i := 65) rfl))) (by decide) (t := .int) (t' := .int) (by decide) (by decide)))
  have F13_t_pageWords := F11_t_pageWords.other W13 (Or.inr (slot_ne (Or.inr (hw _ (List.mem_of_getElem? (i := 47) rfl))) (Or.inl (hw _ (List.mem_of_getElem? (i := 65) rfl))) (by decide) (t := .int) (t' := .int) (by decide) (by decide)))
  have F13_t_bits := F11_t_bits.other W13 (Or.inr (slot_ne (Or.inr (hw _ (List.mem_of_getElem? (i := 54) rfl))) (Or.inl (hw _ (List.mem_of_getElem? (i := 65) rfl))) (by decide) (t := (.array (.array .long))) (t' := .int) (by decide) (by decide)))
  have A13_D := A11_D.other W13 (Ne.symm ne_t_D)
  have A13_pg := A11_pg.other W13 (Ne.symm ne_t_pg)
  have Z13 := Nat.le_trans Z11 (Keep.of_wr W13).1
  have KP13 := KP11.wr W13 (Or.inl (List.mem_of_getElem? (i := 0) rfl))
  have N13 := Fr.snoc X13 N11 g_t
  have F13_t_madePages := F11_t_madePages.same W13
  obtain ⟨T14, X14, e14, st14⟩ := getF X13 hx hZ hown (host := "") (Or.inl (hw _ (List.mem_of_getElem? (i := 53) rfl))) Via.refl e13 F13_t_bits (g := (mkF m 110 #[.val (.ref t), .val (.long key), .second, .val (.int number), .val (.int (Int32.ofNat P)), .val (.int (Int32.ofNat Ix))] [(.ref t)])) rfl rfl (hb hby d11_110)
  obtain ⟨cl115_15, Ar115_15, q115_15, S115_15, H115_15⟩ := id A13_D
  have hin115_15 : ¬ ((Int32.ofNat P) < 0 ∨ cl115_15.slots.size ≤ ((Int32.ofNat P)).toNatClampNeg) := own_inb S115_15 (own_nn _ hP31) (by rw [own_clamp _ hP31]; exact hPn)
  have hat115_15 : cl115_15.slots[((Int32.ofNat P)).toNatClampNeg]? = some (.ref pg) := by rw [own_clamp _ hP31]; exact (H115_15 _ hPn).trans (congrArg some (by simp))
  obtain ⟨cl122_16, Ar122_16, q122_16, S122_16, H122_16⟩ := id A13_pg
  have hin122_16 : ¬ ((Int32.ofNat (Ix / 64)) < 0 ∨ cl122_16.slots.size ≤ ((Int32.ofNat (Ix / 64))).toNatClampNeg) := own_inb S122_16 (own_nn _ hW31) (by rw [own_clamp _ hW31]; exact hWl)
  have hat122_16 : cl122_16.slots[((Int32.ofNat (Ix / 64))).toNatClampNeg]? = some (.long (0 : Int64)) := by rw [own_clamp _ hW31]; exact (H122_16 _ hWl).trans (congrArg some rfl)
  obtain ⟨cl128_17, Ar128_17, q128_17, S128_17, H128_17⟩ := id A13_pg
  have hin128_17 : ¬ ((Int32.ofNat (Ix / 64)) < 0 ∨ cl128_17.slots.size ≤ ((Int32.ofNat (Ix / 64))).toNatClampNeg) := own_inb S128_17 (own_nn _ hW31) (by rw [own_clamp _ hW31]; exact hWl)
  obtain ⟨T18, h18, X18, e18, W18, st18⟩ := stJ X14 hx hZ e14 Ar128_17 (j := (Int32.ofNat (Ix / 64))) hin128_17 (g := (mkF m 128 #[.val (.ref t), .val (.long key), .second, .val (.int number), .val (.int (Int32.ofNat P)), .val (.int (Int32.ofNat Ix))] [(.long ((0 : Int64) ||| ((1 : Int64) <<< ((Int32.ofNat Ix) &&& 0x3f).toInt64))), (.int (Int32.ofNat (Ix / 64))), (.ref pg)])) rfl rfl (hb hby d11_128)
  have E18_t := E13_t.wr W18
  have F18_t_numbered := F13_t_numbered.other W18 (Or.inl ne_t_pg)
  have F18_t_pageShift := F13_t_pageShift.other W18 (Or.inl ne_t_pg)
  have F18_t_pageKeys := F13_t_pageKeys.other W18 (Or.inl ne_t_pg)
  have F18_t_pageWords := F13_t_pageWords.other W18 (Or.inl ne_t_pg)
  have F18_t_madePages := F13_t_madePages.other W18 (Or.inl ne_t_pg)
  have F18_t_bits := F13_t_bits.other W18 (Or.inl ne_t_pg)
  have A18_D := A13_D.other W18 ne_D_pg
  have Z18 := Nat.le_trans Z13 (Keep.of_wr W18).1
  have KP18 := KP13.wr W18 (Or.inr sz_pg)
  have N18 := Fr.snoc X18 N13 g_pg
  have A18_pg : Af Z h18 pg c9 .long (max 1 (2 ^ S / 64)) (fun i => if i = (Ix / 64) then (.long ((0 : Int64) ||| ((1 : Int64) <<< ((Int32.ofNat Ix) &&& 0x3f).toInt64))) else (fun _ => (.long (0 : Int64))) i) := by have q := Af.set Ar128_17 q128_17 S128_17 H128_17 W18; rw [own_clamp _ hW31] at q; exact q
  have k19 : ∀ tg, Steps p.tables e below (T18.setTop (mkF m 129 #[.val (.ref t), .val (.long key), .second, .val (.int number), .val (.int (Int32.ofNat P)), .val (.int (Int32.ofNat Ix))] [])) tg → Steps p.tables e below (s₁.setTop (entryFrame m #[(.ref t), (.long key), (.int number)] 6)) tg := by
    intro tg kt
    refine k0 tg ?_
    show Steps p.tables e below (s₁.setTop (mkF m 0 #[.val (.ref t), .val (.long key), .second, .val (.int number), .unset, .unset] [])) _
    refine XS.lloadN X0.here hx rfl (hb hby d11_0) rfl ?_
    show Steps p.tables e below (s₁.setTop (mkF m 1 #[.val (.ref t), .val (.long key), .second, .val (.int number), .unset, .unset] [(.long key)])) _
    refine XS.aloadN X0.here hx rfl (hb hby d11_1) rfl rfl ?_
    show Steps p.tables e below (s₁.setTop (mkF m 2 #[.val (.ref t), .val (.long key), .second, .val (.int number), .unset, .unset] [(.ref t), (.long key)])) _
    refine st1 _ ?_
    show Steps p.tables e below (T1.setTop (mkF m 5 #[.val (.ref t), .val (.long key), .second, .val (.int number), .unset, .unset] [(.int (Int32.ofNat S)), (.long key)])) _
    refine XS.lushr X1.here hx rfl (hb hby d11_5) rfl ?_
    show Steps p.tables e below (T1.setTop (mkF m 6 #[.val (.ref t), .val (.long key), .second, .val (.int number), .unset, .unset] [(.long ((key.toUInt64 >>> ((Int32.ofNat S) &&& 0x3f).toInt64.toUInt64).toInt64))])) _
    refine XS.l2i X1.here hx rfl (hb hby d11_6) rfl ?_
    show Steps p.tables e below (T1.setTop (mkF m 7 #[.val (.ref t), .val (.long key), .second, .val (.int number), .unset, .unset] [(.int (((key.toUInt64 >>> ((Int32.ofNat S) &&& 0x3f).toInt64.toUInt64).toInt64).toInt32))])) _
    rw [(own_pageI key X S P hX hX2 hS hP)]
    show Steps p.tables e below (T1.setTop (mkF m 7 #[.val (.ref t), .val (.long key), .second, .val (.int number), .unset, .unset] [(.int (Int32.ofNat P))])) _
    refine XS.istore X1.here hx rfl (hb hby d11_7) rfl (l' := #[.val (.ref t), .val (.long key), .second, .val (.int number), .val (.int (Int32.ofNat P)), .unset]) rfl ?_
    show Steps p.tables e below (T1.setTop (mkF m 9 #[.val (.ref t), .val (.long key), .second, .val (.int number), .val (.int (Int32.ofNat P)), .unset] [])) _
    refine XS.lloadN X1.here hx rfl (hb hby d11_9) rfl ?_
    show Steps p.tables e below (T1.setTop (mkF m 10 #[.val (.ref t), .val (.long key), .second, .val (.int number), .val (.int (Int32.ofNat P)), .unset] [(.long key)])) _
    refine XS.l2i X1.here hx rfl (hb hby d11_10) rfl ?_
    show Steps p.tables e below (T1.setTop (mkF m 11 #[.val (.ref t), .val (.long key), .second, .val (.int number), .val (.int (Int32.ofNat P)), .unset] [(.int (key.toInt32))])) _
    refine XS.aloadN X1.here hx rfl (hb hby d11_11) rfl rfl ?_
    show Steps p.tables e below (T1.setTop (mkF m 12 #[.val (.ref t), .val (.long key), .second, .val (.int number), .val (.int (Int32.ofNat P)), .unset] [(.ref t), (.int (key.toInt32))])) _
    refine st2 _ ?_
    show Steps p.tables e below (T2.setTop (mkF m 15 #[.val (.ref t), .val (.long key), .second, .val (.int number), .val (.int (Int32.ofNat P)), .unset] [(.int (Int32.ofNat (2 ^ S))), (.int (key.toInt32))])) _
    refine XS.iconst X2.here hx rfl (hb hby d11_15) ?_
    show Steps p.tables e below (T2.setTop (mkF m 16 #[.val (.ref t), .val (.long key), .second, .val (.int number), .val (.int (Int32.ofNat P)), .unset] [(.int (1 : Int32)), (.int (Int32.ofNat (2 ^ S))), (.int (key.toInt32))])) _
    refine XS.isub X2.here hx rfl (hb hby d11_16) rfl ?_
    show Steps p.tables e below (T2.setTop (mkF m 17 #[.val (.ref t), .val (.long key), .second, .val (.int number), .val (.int (Int32.ofNat P)), .unset] [(.int ((Int32.ofNat (2 ^ S)) - (1 : Int32))), (.int (key.toInt32))])) _
    refine XS.iand X2.here hx rfl (hb hby d11_17) rfl ?_
    show Steps p.tables e below (T2.setTop (mkF m 18 #[.val (.ref t), .val (.long key), .second, .val (.int number), .val (.int (Int32.ofNat P)), .unset] [(.int ((key.toInt32) &&& ((Int32.ofNat (2 ^ S)) - (1 : Int32))))])) _
    rw [(own_ixI key X S Ix hX hX2 hS hI)]
    show Steps p.tables e below (T2.setTop (mkF m 18 #[.val (.ref t), .val (.long key), .second, .val (.int number), .val (.int (Int32.ofNat P)), .unset] [(.int (Int32.ofNat Ix))])) _
    refine XS.istore X2.here hx rfl (hb hby d11_18) rfl (l' := #[.val (.ref t), .val (.long key), .second, .val (.int number), .val (.int (Int32.ofNat P)), .val (.int (Int32.ofNat Ix))]) rfl ?_
    show Steps p.tables e below (T2.setTop (mkF m 20 #[.val (.ref t), .val (.long key), .second, .val (.int number), .val (.int (Int32.ofNat P)), .val (.int (Int32.ofNat Ix))] [])) _
    refine XS.aloadN X2.here hx rfl (hb hby d11_20) rfl rfl ?_
    show Steps p.tables e below (T2.setTop (mkF m 21 #[.val (.ref t), .val (.long key), .second, .val (.int number), .val (.int (Int32.ofNat P)), .val (.int (Int32.ofNat Ix))] [(.ref t)])) _
    refine st3 _ ?_
    show Steps p.tables e below (T3.setTop (mkF m 24 #[.val (.ref t), .val (.long key), .second, .val (.int number), .val (.int (Int32.ofNat P)), .val (.int (Int32.ofNat Ix))] [(.int (0 : Int32))])) _
    refine XS.ifYes X3.here hx rfl (pc0 := 24) (pc' := 76) rfl (hb hby d11_24) rfl ((if0 _ _).trans (teq hd4).1) (by decide) (by decide) ?_
    show Steps p.tables e below (T3.setTop (mkF m 76 #[.val (.ref t), .val (.long key), .second, .val (.int number), .val (.int (Int32.ofNat P)), .val (.int (Int32.ofNat Ix))] [])) _
    refine XS.aloadN X3.here hx rfl (hb hby d11_76) rfl rfl ?_
    show Steps p.tables e below (T3.setTop (mkF m 77 #[.val (.ref t), .val (.long key), .second, .val (.int number), .val (.int (Int32.ofNat P)), .val (.int (Int32.ofNat Ix))] [(.ref t)])) _
    refine st5 _ ?_
    show Steps p.tables e below (T5.setTop (mkF m 80 #[.val (.ref t), .val (.long key), .second, .val (.int number), .val (.int (Int32.ofNat P)), .val (.int (Int32.ofNat Ix))] [(.ref D)])) _
    refine XS.iload X5.here hx rfl (hb hby d11_80) rfl ?_
    show Steps p.tables e below (T5.setTop (mkF m 82 #[.val (.ref t), .val (.long key), .second, .val (.int number), .val (.int (Int32.ofNat P)), .val (.int (Int32.ofNat Ix))] [(.int (Int32.ofNat P)), (.ref D)])) _
    refine X5.aaload hx (j := (Int32.ofNat P)) (v := .null) (by rw [e5]; exact Ar82_6.1) (State.isArrayOf_alike hZ.alike Ar82_6.2.1) rfl Ar82_6.2.2 hin82_6 hat82_6 (g := (mkF m 82 #[.val (.ref t), .val (.long key), .second, .val (.int number), .val (.int (Int32.ofNat P)), .val (.int (Int32.ofNat Ix))] [(.int (Int32.ofNat P)), (.ref D)])) rfl rfl (hb hby d11_82) _ ?_
    show Steps p.tables e below (T5.setTop (mkF m 83 #[.val (.ref t), .val (.long key), .second, .val (.int number), .val (.int (Int32.ofNat P)), .val (.int (Int32.ofNat Ix))] [.null])) _
    refine XS.ifnonnullNo X5.here hx rfl (hb hby d11_83) rfl ?_
    show Steps p.tables e below (T5.setTop (mkF m 86 #[.val (.ref t), .val (.long key), .second, .val (.int number), .val (.int (Int32.ofNat P)), .val (.int (Int32.ofNat Ix))] [])) _
    refine XS.aloadN X5.here hx rfl (hb hby d11_86) rfl rfl ?_
    show Steps p.tables e below (T5.setTop (mkF m 87 #[.val (.ref t), .val (.long key), .second, .val (.int number), .val (.int (Int32.ofNat P)), .val (.int (Int32.ofNat Ix))] [(.ref t)])) _
    refine st7 _ ?_
    show Steps p.tables e below (T7.setTop (mkF m 90 #[.val (.ref t), .val (.long key), .second, .val (.int number), .val (.int (Int32.ofNat P)), .val (.int (Int32.ofNat Ix))] [(.ref D)])) _
    refine XS.iload X7.here hx rfl (hb hby d11_90) rfl ?_
    show Steps p.tables e below (T7.setTop (mkF m 92 #[.val (.ref t), .val (.long key), .second, .val (.int number), .val (.int (Int32.ofNat P)), .val (.int (Int32.ofNat Ix))] [(.int (Int32.ofNat P)), (.ref D)])) _
    refine XS.aloadN X7.here hx rfl (hb hby d11_92) rfl rfl ?_
    show Steps p.tables e below (T7.setTop (mkF m 93 #[.val (.ref t), .val (.long key), .second, .val (.int number), .val (.int (Int32.ofNat P)), .val (.int (Int32.ofNat Ix))] [(.ref t), (.int (Int32.ofNat P)), (.ref D)])) _
    refine st8 _ ?_
    show Steps p.tables e below (T8.setTop (mkF m 96 #[.val (.ref t), .val (.long key), .second, .val (.int number), .val (.int (Int32.ofNat P)), .val (.int (Int32.ofNat Ix))] [(.int (Int32.ofNat (max 1 (2 ^ S / 64)))), (.int (Int32.ofNat P)), (.ref D)])) _
    refine st9 _ ?_
    show Steps p.tables e below (T9.setTop (mkF m 98 #[.val (.ref t), .val (.long key), .second, .val (.int number), .val (.int (Int32.ofNat P)), .val (.int (Int32.ofNat Ix))] [(.ref pg), (.int (Int32.ofNat P)), (.ref D)])) _
    refine st11 _ ?_
    show Steps p.tables e below (T11.setTop (mkF m 99 #[.val (.ref t), .val (.long key), .second, .val (.int number), .val (.int (Int32.ofNat P)), .val (.int (Int32.ofNat Ix))] [])) _
    refine XS.aloadN X11.here hx rfl (hb hby d11_99) rfl rfl ?_
    show Steps p.tables e below (T11.setTop (mkF m 100 #[.val (.ref t), .val (.long key), .second, .val (.int number), .val (.int (Int32.ofNat P)), .val (.int (Int32.ofNat Ix))] [(.ref t)])) _
    refine XS.dup X11.here hx rfl (hb hby d11_100) rfl rfl ?_
    show Steps p.tables e below (T11.setTop (mkF m 101 #[.val (.ref t), .val (.long key), .second, .val (.int number), .val (.int (Int32.ofNat P)), .val (.int (Int32.ofNat Ix))] [(.ref t), (.ref t)])) _
    refine st12 _ ?_
    show Steps p.tables e below (T12.setTop (mkF m 104 #[.val (.ref t), .val (.long key), .second, .val (.int number), .val (.int (Int32.ofNat P)), .val (.int (Int32.ofNat Ix))] [(.int cnt), (.ref t)])) _
    refine XS.iconst X12.here hx rfl (hb hby d11_104) ?_
    show Steps p.tables e below (T12.setTop (mkF m 105 #[.val (.ref t), .val (.long key), .second, .val (.int number), .val (.int (Int32.ofNat P)), .val (.int (Int32.ofNat Ix))] [(.int (1 : Int32)), (.int cnt), (.ref t)])) _
    refine XS.iadd X12.here hx rfl (hb hby d11_105) rfl ?_
    show Steps p.tables e below (T12.setTop (mkF m 106 #[.val (.ref t), .val (.long key), .second, .val (.int number), .val (.int (Int32.ofNat P)), .val (.int (Int32.ofNat Ix))] [(.int (cnt + (1 : Int32))), (.ref t)])) _
    refine st13 _ ?_
    show Steps p.tables e below (T13.setTop (mkF m 109 #[.val (.ref t), .val (.long key), .second, .val (.int number), .val (.int (Int32.ofNat P)), .val (.int (Int32.ofNat Ix))] [])) _
    refine XS.aloadN X13.here hx rfl (hb hby d11_109) rfl rfl ?_
    show Steps p.tables e below (T13.setTop (mkF m 110 #[.val (.ref t), .val (.long key), .second, .val (.int number), .val (.int (Int32.ofNat P)), .val (.int (Int32.ofNat Ix))] [(.ref t)])) _
    refine st14 _ ?_
    show Steps p.tables e below (T14.setTop (mkF m 113 #[.val (.ref t), .val (.long key), .second, .val (.int number), .val (.int (Int32.ofNat P)), .val (.int (Int32.ofNat Ix))] [(.ref D)])) _
    refine XS.iload X14.here hx rfl (hb hby d11_113) rfl ?_
    show Steps p.tables e below (T14.setTop (mkF m 115 #[.val (.ref t), .val (.long key), .second, .val (.int number), .val (.int (Int32.ofNat P)), .val (.int (Int32.ofNat Ix))] [(.int (Int32.ofNat P)), (.ref D)])) _
    refine X14.aaload hx (j := (Int32.ofNat P)) (v := (.ref pg)) (by rw [e14]; exact Ar115_15.1) (State.isArrayOf_alike hZ.alike Ar115_15.2.1) rfl Ar115_15.2.2 hin115_15 hat115_15 (g := (mkF m 115 #[.val (.ref t), .val (.long key), .second, .val (.int number), .val (.int (Int32.ofNat P)), .val (.int (Int32.ofNat Ix))] [(.int (Int32.ofNat P)), (.ref D)])) rfl rfl (hb hby d11_115) _ ?_
    show Steps p.tables e below (T14.setTop (mkF m 116 #[.val (.ref t), .val (.long key), .second, .val (.int number), .val (.int (Int32.ofNat P)), .val (.int (Int32.ofNat Ix))] [(.ref pg)])) _
    refine XS.iload X14.here hx rfl (hb hby d11_116) rfl ?_
    show Steps p.tables e below (T14.setTop (mkF m 118 #[.val (.ref t), .val (.long key), .second, .val (.int number), .val (.int (Int32.ofNat P)), .val (.int (Int32.ofNat Ix))] [(.int (Int32.ofNat Ix)), (.ref pg)])) _
    refine XS.bipush X14.here hx rfl (hb hby d11_118) ?_
    show Steps p.tables e below (T14.setTop (mkF m 120 #[.val (.ref t), .val (.long key), .second, .val (.int number), .val (.int (Int32.ofNat P)), .val (.int (Int32.ofNat Ix))] [(.int (6 : Int32)), (.int (Int32.ofNat Ix)), (.ref pg)])) _
    refine XS.iushr X14.here hx rfl (hb hby d11_120) rfl ?_
    show Steps p.tables e below (T14.setTop (mkF m 121 #[.val (.ref t), .val (.long key), .second, .val (.int number), .val (.int (Int32.ofNat P)), .val (.int (Int32.ofNat Ix))] [(.int (((Int32.ofNat Ix).toUInt32 >>> ((6 : Int32) &&& 31).toUInt32).toInt32)), (.ref pg)])) _
    rw [(own_ixw Ix (Nat.lt_of_lt_of_le hIl h2S))]
    show Steps p.tables e below (T14.setTop (mkF m 121 #[.val (.ref t), .val (.long key), .second, .val (.int number), .val (.int (Int32.ofNat P)), .val (.int (Int32.ofNat Ix))] [(.int (Int32.ofNat (Ix / 64))), (.ref pg)])) _
    jvm_step X14.here [X14.here.top, hx, (hb hby d11_121), Value.category]
    show Steps p.tables e below (T14.setTop (mkF m 122 #[.val (.ref t), .val (.long key), .second, .val (.int number), .val (.int (Int32.ofNat P)), .val (.int (Int32.ofNat Ix))] [(.int (Int32.ofNat (Ix / 64))), (.ref pg), (.int (Int32.ofNat (Ix / 64))), (.ref pg)])) _
    refine X14.laload hx (j := (Int32.ofNat (Ix / 64))) (v := (.long (0 : Int64))) (by rw [e14]; exact Ar122_16.1) (State.isArrayOf_alike hZ.alike Ar122_16.2.1) Ar122_16.2.2 hin122_16 hat122_16 (g := (mkF m 122 #[.val (.ref t), .val (.long key), .second, .val (.int number), .val (.int (Int32.ofNat P)), .val (.int (Int32.ofNat Ix))] [(.int (Int32.ofNat (Ix / 64))), (.ref pg), (.int (Int32.ofNat (Ix / 64))), (.ref pg)])) rfl rfl (hb hby d11_122) _ ?_
    show Steps p.tables e below (T14.setTop (mkF m 123 #[.val (.ref t), .val (.long key), .second, .val (.int number), .val (.int (Int32.ofNat P)), .val (.int (Int32.ofNat Ix))] [(.long (0 : Int64)), (.int (Int32.ofNat (Ix / 64))), (.ref pg)])) _
    refine XS.lconst X14.here hx rfl (hb hby d11_123) ?_
    show Steps p.tables e below (T14.setTop (mkF m 124 #[.val (.ref t), .val (.long key), .second, .val (.int number), .val (.int (Int32.ofNat P)), .val (.int (Int32.ofNat Ix))] [(.long (1 : Int64)), (.long (0 : Int64)), (.int (Int32.ofNat (Ix / 64))), (.ref pg)])) _
    refine XS.iload X14.here hx rfl (hb hby d11_124) rfl ?_
    show Steps p.tables e below (T14.setTop (mkF m 126 #[.val (.ref t), .val (.long key), .second, .val (.int number), .val (.int (Int32.ofNat P)), .val (.int (Int32.ofNat Ix))] [(.int (Int32.ofNat Ix)), (.long (1 : Int64)), (.long (0 : Int64)), (.int (Int32.ofNat (Ix / 64))), (.ref pg)])) _
    refine XS.lshl X14.here hx rfl (hb hby d11_126) rfl ?_
    show Steps p.tables e below (T14.setTop (mkF m 127 #[.val (.ref t), .val (.long key), .second, .val (.int number), .val (.int (Int32.ofNat P)), .val (.int (Int32.ofNat Ix))] [(.long ((1 : Int64) <<< ((Int32.ofNat Ix) &&& 0x3f).toInt64)), (.long (0 : Int64)), (.int (Int32.ofNat (Ix / 64))), (.ref pg)])) _
    refine XS.lor X14.here hx rfl (hb hby d11_127) rfl ?_
    show Steps p.tables e below (T14.setTop (mkF m 128 #[.val (.ref t), .val (.long key), .second, .val (.int number), .val (.int (Int32.ofNat P)), .val (.int (Int32.ofNat Ix))] [(.long ((0 : Int64) ||| ((1 : Int64) <<< ((Int32.ofNat Ix) &&& 0x3f).toInt64))), (.int (Int32.ofNat (Ix / 64))), (.ref pg)])) _
    refine st18 _ ?_
    show Steps p.tables e below (T18.setTop (mkF m 129 #[.val (.ref t), .val (.long key), .second, .val (.int number), .val (.int (Int32.ofNat P)), .val (.int (Int32.ofNat Ix))] [])) _
    exact kt
  obtain ⟨fs, hr, hrun, hended, hW, hsame⟩ := X18.leave (v := none) (fun _ => rfl)
  refine ⟨_, _, k19 _ ?_, hrun, hended, _, _, rfl, ?_, ⟨_, rfl⟩, hW, hsame.mono (by decide) (by decide)⟩
  · exact X18.returnOut hx Bd.returns (hb hby d11_129) hr
  · show QK Z t (0 : Int32) "bits" "[[J" .long "[J" S np (max 1 (2 ^ S / 64)) (.long (0 : Int64)) (updM md P) (updG g P (Ix / 64) (.long (wx ||| ((1 : Int64) <<< ((Int32.ofNat Ix) &&& 0x3f).toInt64)))) (cnt + (1 : Int32)) h0 n0 _ T18.heap _
    rw [e18]
    rw [hx0]
    refine ⟨rfl, N18, KP18.1, E18_t, F18_t_numbered, F18_t_pageShift, F18_t_pageKeys, F18_t_pageWords, F18_t_madePages, g_t, D, kD, fun i => if i = P then some pg else dir i, F18_t_bits, A18_D.congr (fun i _ => ?_), OD, g_D, ne_t_D, fun i => ?_, fun i b hb_ => ?_, fun i j b hi_ hj_ => ?_, fun i j hi => ?_⟩
    · show (if i = P then Value.ref pg else dirV (dir i)) = dirV (if i = P then some pg else dir i)
      by_cases q : i = P
      · rw [if_pos q, if_pos q]; rfl
      · rw [if_neg q, if_neg q]
    · show (if i = P then some pg else dir i).isSome = _
      unfold updM; by_cases q : i = P
      · rw [if_pos q]; simp [q]
      · rw [if_neg q, hmd i]; simp [q]
    · by_cases q : i = P
      · have hb2 : some pg = some b := by rw [← hb_]; exact (if_pos q).symm
        cases Option.some.inj hb2; subst q
        exact ⟨Ne.symm ne_t_pg, Ne.symm ne_D_pg, g_pg, c9, A18_pg.congr (fun j _ => by unfold updG; by_cases r : j = (Ix / 64) <;> simp [r, hun i j hm])⟩
      · have hb2 : dir i = some b := by rw [← hb_]; exact (if_neg q).symm
        obtain ⟨a1, a2, a3, k, V⟩ := hpg i b hb2
        exact ⟨a1, a2, a3, k, (V.keep KP18 (ninS a1 (ninS a2 nin0))).congr (fun j _ => by unfold updG; simp [q])⟩
    · have hi2 : (if i = P then some pg else dir i) = some b := hi_
      have hj2 : (if j = P then some pg else dir j) = some b := hj_
      have nw : ∀ z, dir z ≠ some pg := fun z hz => by obtain ⟨-, -, -, k, V⟩ := hpg z pg hz; exact absurd V.lt (Nat.not_lt.mpr sz_pg)
      by_cases q : i = P <;> by_cases r : j = P
      · rw [q, r]
      · rw [if_pos q] at hi2; rw [if_neg r] at hj2; cases Option.some.inj hi2; exact absurd hj2 (nw j)
      · rw [if_neg q] at hi2; rw [if_pos r] at hj2; cases Option.some.inj hj2; exact absurd hi2 (nw i)
      · rw [if_neg q] at hi2; rw [if_neg r] at hj2; exact hinj i j b hi2 hj2
    · unfold updM at hi; simp at hi; unfold updG; rw [if_neg (fun q => hi.1 q.1)]; exact hun i j hi.2
theorem rmMarkb (l : Launch) (Z : State) (a0 : Array Value) (hw : ∀ d ∈ tables_1, d.before a0 Z = true) (ws : List Jvm.Cond) (t : Addr) (key : Int64) (number : Int32) (S np P Ix X : Nat) (md : Nat → Bool) (g : Nat → Nat → Value) (cnt : Int32) (wx : Int64) (h0 : Heap) (n0 : Nat) (Z0 : n0 ≤ h0.size) (hS : S ≤ 15) (hX : key.toInt = X) (hX2 : X < 2 ^ 30) (hP : P = X / 2 ^ S) (hI : Ix = X % 2 ^ S) (hPn : P < np) (hn31 : np < 2 ^ 31) (HK : KT Z h0 n0 t (0 : Int32) "bits" "[[J" .long "[J" S np (max 1 (2 ^ S / 64)) (.long (0 : Int64)) md g cnt) (hgx : g P (Ix / 64) = .long wx) :
    MetFree l (⟨"com/example/parley/parley/core/KeyTable", "mark", "(JI)V"⟩ : MethodName) (head1 (Jvm.Cond.code (⟨"com/example/parley/parley/core/KeyTable", "mark", "(JI)V"⟩ : MethodName) prog_121_method_11_code 6 none :: ws) ({ frames := 0, cells := 1, slots := 512, locals := 0 } : Room)) (fun a_ U_ => a_ = #[(.ref t), (.long key), (.int number)] ∧ Z.Warmed39 U_.vm ∧ U_.heap = h0) (fun _ _ _ _ _ => True) (fun _ U_ o_ U'_ => ∃ v_ L_, o_ = .returned v_ ∧ QK Z t (0 : Int32) "bits" "[[J" .long "[J" S np (max 1 (2 ^ S / 64)) (.long (0 : Int64)) (updM md P) (updG g P (Ix / 64) (.long (wx ||| ((1 : Int64) <<< ((Int32.ofNat Ix) &&& 0x3f).toInt64)))) (if md P = true then cnt else cnt + (1 : Int32)) h0 n0 v_ U'_.heap L_ ∧ FrameEnd U_ o_ U'_ L_ ({ frames := 0, cells := 1, slots := 512, locals := 0 } : Room).cells ({ frames := 0, cells := 1, slots := 512, locals := 0 } : Room).slots) := by
  by_cases hm : md P = true
  · rw [if_pos hm]; exact rmMarkbo l Z a0 hw ws t key number S np P Ix X md g cnt wx h0 n0 Z0 hS hX hX2 hP hI hPn hn31 HK hgx hm
  · rw [if_neg hm]; exact rmMarkbw l Z a0 hw ws t key number S np P Ix X md g cnt wx h0 n0 Z0 hS hX hX2 hP hI hPn hn31 HK hgx (by simpa using hm)
theorem d13_0 : decode prog_121_method_7_code 0 = .ok (.lload_n 1, 1) := by decide +kernel
theorem d13_1 : decode prog_121_method_7_code 1 = .ok (.aload_n 0, 1) := by decide +kernel
theorem d13_2 : decode prog_121_method_7_code 2 = .ok (.getfield 17, 3) := by decide +kernel
theorem d13_5 : decode prog_121_method_7_code 5 = .ok (.lushr, 1) := by decide +kernel
theorem d13_6 : decode prog_121_method_7_code 6 = .ok (.l2i, 1) := by decide +kernel
theorem d13_7 : decode prog_121_method_7_code 7 = .ok (.istore_n 3, 1) := by decide +kernel
theorem d13_8 : decode prog_121_method_7_code 8 = .ok (.lload_n 1, 1) := by decide +kernel
theorem d13_9 : decode prog_121_method_7_code 9 = .ok (.l2i, 1) := by decide +kernel
theorem d13_10 : decode prog_121_method_7_code 10 = .ok (.aload_n 0, 1) := by decide +kernel
theorem d13_11 : decode prog_121_method_7_code 11 = .ok (.getfield 20, 3) := by decide +kernel
theorem d13_14 : decode prog_121_method_7_code 14 = .ok (.iconst 1, 1) := by decide +kernel
theorem d13_15 : decode prog_121_method_7_code 15 = .ok (.isub, 1) := by decide +kernel
theorem d13_16 : decode prog_121_method_7_code 16 = .ok (.iand, 1) := by decide +kernel
theorem d13_17 : decode prog_121_method_7_code 17 = .ok (.istore 4, 2) := by decide +kernel
theorem d13_19 : decode prog_121_method_7_code 19 = .ok (.aload_n 0, 1) := by decide +kernel
theorem d13_20 : decode prog_121_method_7_code 20 = .ok (.getfield 7, 3) := by decide +kernel
theorem d13_23 : decode prog_121_method_7_code 23 = .ok (.ifCond .eq 30, 3) := by decide +kernel
theorem d13_26 : decode prog_121_method_7_code 26 = .ok (.aload_n 0, 1) := by decide +kernel
theorem d13_27 : decode prog_121_method_7_code 27 = .ok (.getfield 41, 3) := by decide +kernel
theorem d13_30 : decode prog_121_method_7_code 30 = .ok (.iload_n 3, 1) := by decide +kernel
theorem d13_31 : decode prog_121_method_7_code 31 = .ok (.aaload, 1) := by decide +kernel
theorem d13_32 : decode prog_121_method_7_code 32 = .ok (.astore 5, 2) := by decide +kernel
theorem d13_34 : decode prog_121_method_7_code 34 = .ok (.aload 5, 2) := by decide +kernel
theorem d13_36 : decode prog_121_method_7_code 36 = .ok (.ifnull 15, 3) := by decide +kernel
theorem d13_39 : decode prog_121_method_7_code 39 = .ok (.aload 5, 2) := by decide +kernel
theorem d13_41 : decode prog_121_method_7_code 41 = .ok (.iload 4, 2) := by decide +kernel
theorem d13_43 : decode prog_121_method_7_code 43 = .ok (.iaload, 1) := by decide +kernel
theorem d13_44 : decode prog_121_method_7_code 44 = .ok (.ifCond .eq 7, 3) := by decide +kernel
theorem d13_47 : decode prog_121_method_7_code 47 = .ok (.iconst 1, 1) := by decide +kernel
theorem d13_48 : decode prog_121_method_7_code 48 = .ok (.goto 4, 3) := by decide +kernel
theorem d13_51 : decode prog_121_method_7_code 51 = .ok (.iconst 0, 1) := by decide +kernel
theorem d13_52 : decode prog_121_method_7_code 52 = .ok (.ireturn, 1) := by decide +kernel
theorem pn_13 : plainName "com/example/parley/parley/core/KeyTable" = true := by first | (simp [plainName, overriddenIn]; done) | decide +kernel
theorem ef_rmHoldsno (m : MethodId) (t : Addr) (key : Int64) : entryFrame m #[(.ref t), (.long key)] 6 = mkF m 0 #[.val (.ref t), .val (.long key), .second, .unset, .unset, .unset] [] := by first | (simp [entryFrame, mkF, argsToLocals, Value.category]; done) | rfl
set_option maxRecDepth 65536 in
set_option maxHeartbeats 40000000 in
theorem rmHoldsno (l : Launch) (Z : State) (a0 : Array Value) (hw : ∀ d ∈ tables_1, d.before a0 Z = true) (ws : List Jvm.Cond) (t : Addr) (key : Int64) (S np P Ix X : Nat) (md : Nat → Bool) (g : Nat → Nat → Value) (cnt : Int32) (wx : Int32) (h0 : Heap) (n0 : Nat) (hS : S ≤ 15) (hX : key.toInt = X) (hX2 : X < 2 ^ 30) (hP : P = X / 2 ^ S) (hI : Ix = X % 2 ^ S) (hPn : P < np) (hn31 : np < 2 ^ 31) (HK : KT Z h0 n0 t (1 : Int32) "numbers" "[[I" .int "[I" S np (2 ^ S) (.int (0 : Int32)) md g cnt) (hgx : g P Ix = .int wx) (hm : md P = true) :
    MetFree l (⟨"com/example/parley/parley/core/KeyTable", "holds", "(J)Z"⟩ : MethodName) (head1 (Jvm.Cond.code (⟨"com/example/parley/parley/core/KeyTable", "holds", "(J)Z"⟩ : MethodName) prog_121_method_7_code 6 (some .boolean) :: ws) ({ frames := 0, cells := 0, slots := 0, locals := 0 } : Room)) (fun a_ U_ => a_ = #[(.ref t), (.long key)] ∧ Z.Warmed39 U_.vm ∧ U_.heap = h0) (fun _ _ _ _ _ => True) (fun _ U_ o_ U'_ => ∃ v_ L_, o_ = .returned v_ ∧ QV (.int (if wx = (0 : Int32) then (0 : Int32) else (1 : Int32))) h0 n0 v_ U'_.heap L_ ∧ FrameEnd U_ o_ U'_ L_ ({ frames := 0, cells := 0, slots := 0, locals := 0 } : Room).cells ({ frames := 0, cells := 0, slots := 0, locals := 0 } : Room).slots) := by
  refine MetFree.of_bodySF (plainFor_of_name pn_13) hisR ?_
  intro p e s m args below meth c s₁ Bd hml0 hP hK
  obtain ⟨rfl, hZ, hh⟩ := hP
  have hx := Bd.exec
  have hby := Bd.bytes
  have hml : c.maxLocals = 6 := hml0
  have hown : s.vm.findClass "com/example/parley/parley/core/KeyTable" = some m.cls := findClass_of_methodNamed Bd.named
  have hnm := (name_of_methodNamed Bd.named Bd.method).1
  have X0 : Stand p l e ({ frames := 0, cells := 0, slots := 0, locals := 0 } : Room) s m #[(.ref t), (.long key)] below meth c s₁ [] 0 0 := Stand.of_body Bd
  have e0 : s₁.heap = h0 := by rw [← hh, Bd.state]; rfl
  have N0 := Fr.nil n0
  have k0 : ∀ tg, Steps p.tables e below (s₁.setTop (mkF m 0 #[.val (.ref t), .val (.long key), .second, .unset, .unset, .unset] [])) tg → Steps p.tables e below (s₁.setTop (entryFrame m #[(.ref t), (.long key)] 6)) tg := fun tg kq_ => castTop (ef_rmHoldsno m t key) kq_
  obtain ⟨E_t, F_numbered, F_pageShift, F_pageKeys, F_pageWords, F_madePages, g_t, D, kD, dir, F_dir, V_D, OD, g_D, ne_t_D, hmd, hpg, hinj, hun⟩ := HK
  have hP31 : P < 2 ^ 31 := Nat.lt_trans hPn hn31
  have h2S : 2 ^ S ≤ 2 ^ 15 := Nat.pow_le_pow_right (by decide) hS
  have hIl : Ix < 2 ^ S := by rw [hI]; exact Nat.mod_lt _ (Nat.pow_pos (by decide))
  have hI31 : Ix < 2 ^ 31 := by omega
  have hWl : Ix / 64 < max 1 (2 ^ S / 64) := own_wix Ix S hIl
  have hW31 : Ix / 64 < 2 ^ 31 := by omega
  have hpl1 : 2 ^ S < 2 ^ 31 := by omega
  have hpl2 : max 1 (2 ^ S / 64) < 2 ^ 31 := by omega
  have hpl3 : max 1 (2 ^ S / 64) ≤ 512 := by omega
  obtain ⟨pa, ha⟩ : ∃ pa, dir P = some pa := Option.isSome_iff_exists.mp ((hmd P).trans hm)
  obtain ⟨ne_pa_t, ne_pa_D, g_pa, ka, V_pa⟩ := hpg P pa ha
  obtain ⟨T1, X1, e1, st1⟩ := getF X0 hx hZ hown (host := "") (Or.inl (hw _ (List.mem_of_getElem? (i := 36) rfl))) Via.refl e0 F_pageShift (g := (mkF m 2 #[.val (.ref t), .val (.long key), .second, .unset, .unset, .unset] [(.ref t), (.long key)])) rfl rfl (hb hby d13_2)
  obtain ⟨T2, X2, e2, st2⟩ := getF X1 hx hZ hown (host := "") (Or.inl (hw _ (List.mem_of_getElem? (i := 38) rfl))) Via.refl e1 F_pageKeys (g := (mkF m 11 #[.val (.ref t), .val (.long key), .second, .val (.int (Int32.ofNat P)), .unset, .unset] [(.ref t), (.int (key.toInt32))])) rfl rfl (hb hby d13_11)
  obtain ⟨T3, X3, e3, st3⟩ := getF X2 hx hZ hown (host := "") (Or.inl (hw _ (List.mem_of_getElem? (i := 14) rfl))) Via.refl e2 F_numbered (g := (mkF m 20 #[.val (.ref t), .val (.long key), .second, .val (.int (Int32.ofNat P)), .val (.int (Int32.ofNat Ix)), .unset] [(.ref t)])) rfl rfl (hb hby d13_20)
  have hd4 : ¬ ((1 : Int32) = (0 : Int32)) := by decide
  obtain ⟨T5, X5, e5, st5⟩ := getF X3 hx hZ hown (host := "") (Or.inl (hw _ (List.mem_of_getElem? (i := 55) rfl))) Via.refl e3 F_dir (g := (mkF m 27 #[.val (.ref t), .val (.long key), .second, .val (.int (Int32.ofNat P)), .val (.int (Int32.ofNat Ix)), .unset] [(.ref t)])) rfl rfl (hb hby d13_27)
  obtain ⟨cl31_6, Ar31_6, q31_6, S31_6, H31_6⟩ := id V_D
  have hin31_6 : ¬ ((Int32.ofNat P) < 0 ∨ cl31_6.slots.size ≤ ((Int32.ofNat P)).toNatClampNeg) := own_inb S31_6 (own_nn _ hP31) (by rw [own_clamp _ hP31]; exact hPn)
  have hat31_6 : cl31_6.slots[((Int32.ofNat P)).toNatClampNeg]? = some (.ref pa) := by rw [own_clamp _ hP31]; exact (H31_6 _ hPn).trans (congrArg some (by show dirV (dir P) = _; rw [ha]; rfl))
  obtain ⟨cl43_7, Ar43_7, q43_7, S43_7, H43_7⟩ := id V_pa
  have hin43_7 : ¬ ((Int32.ofNat Ix) < 0 ∨ cl43_7.slots.size ≤ ((Int32.ofNat Ix)).toNatClampNeg) := own_inb S43_7 (own_nn _ hI31) (by rw [own_clamp _ hI31]; exact hIl)
  have hat43_7 : cl43_7.slots[((Int32.ofNat Ix)).toNatClampNeg]? = some (.int wx) := by rw [own_clamp _ hI31]; exact (H43_7 _ hIl).trans (congrArg some hgx)
  have k8 : ∀ tg, Steps p.tables e below (T5.setTop (mkF m 44 #[.val (.ref t), .val (.long key), .second, .val (.int (Int32.ofNat P)), .val (.int (Int32.ofNat Ix)), .val (.ref pa)] [(.int wx)])) tg → Steps p.tables e below (s₁.setTop (entryFrame m #[(.ref t), (.long key)] 6)) tg := by
    intro tg kt
    refine k0 tg ?_
    show Steps p.tables e below (s₁.setTop (mkF m 0 #[.val (.ref t), .val (.long key), .second, .unset, .unset, .unset] [])) _
    refine XS.lloadN X0.here hx rfl (hb hby d13_0) rfl ?_
    show Steps p.tables e below (s₁.setTop (mkF m 1 #[.val (.ref t), .val (.long key), .second, .unset, .unset, .unset] [(.long key)])) _
    refine XS.aloadN X0.here hx rfl (hb hby d13_1) rfl rfl ?_
    show Steps p.tables e below (s₁.setTop (mkF m 2 #[.val (.ref t), .val (.long key), .second, .unset, .unset, .unset] [(.ref t), (.long key)])) _
    refine st1 _ ?_
    show Steps p.tables e below (T1.setTop (mkF m 5 #[.val (.ref t), .val (.long key), .second, .unset, .unset, .unset] [(.int (Int32.ofNat S)), (.long key)])) _
    refine XS.lushr X1.here hx rfl (hb hby d13_5) rfl ?_
    show Steps p.tables e below (T1.setTop (mkF m 6 #[.val (.ref t), .val (.long key), .second, .unset, .unset, .unset] [(.long ((key.toUInt64 >>> ((Int32.ofNat S) &&& 0x3f).toInt64.toUInt64).toInt64))])) _
    refine XS.l2i X1.here hx rfl (hb hby d13_6) rfl ?_
    show Steps p.tables e below (T1.setTop (mkF m 7 #[.val (.ref t), .val (.long key), .second, .unset, .unset, .unset] [(.int (((key.toUInt64 >>> ((Int32.ofNat S) &&& 0x3f).toInt64.toUInt64).toInt64).toInt32))])) _
    rw [(own_pageI key X S P hX hX2 hS hP)]
    show Steps p.tables e below (T1.setTop (mkF m 7 #[.val (.ref t), .val (.long key), .second, .unset, .unset, .unset] [(.int (Int32.ofNat P))])) _
    refine XS.istoreN X1.here hx rfl (hb hby d13_7) rfl (l' := #[.val (.ref t), .val (.long key), .second, .val (.int (Int32.ofNat P)), .unset, .unset]) rfl ?_
    show Steps p.tables e below (T1.setTop (mkF m 8 #[.val (.ref t), .val (.long key), .second, .val (.int (Int32.ofNat P)), .unset, .unset] [])) _
    refine XS.lloadN X1.here hx rfl (hb hby d13_8) rfl ?_
    show Steps p.tables e below (T1.setTop (mkF m 9 #[.val (.ref t), .val (.long key), .second, .val (.int (Int32.ofNat P)), .unset, .unset] [(.long key)])) _
    refine XS.l2i X1.here hx rfl (hb hby d13_9) rfl ?_
    show Steps p.tables e below (T1.setTop (mkF m 10 #[.val (.ref t), .val (.long key), .second, .val (.int (Int32.ofNat P)), .unset, .unset] [(.int (key.toInt32))])) _
    refine XS.aloadN X1.here hx rfl (hb hby d13_10) rfl rfl ?_
    show Steps p.tables e below (T1.setTop (mkF m 11 #[.val (.ref t), .val (.long key), .second, .val (.int (Int32.ofNat P)), .unset, .unset] [(.ref t), (.int (key.toInt32))])) _
    refine st2 _ ?_
    show Steps p.tables e below (T2.setTop (mkF m 14 #[.val (.ref t), .val (.long key), .second, .val (.int (Int32.ofNat P)), .unset, .unset] [(.int (Int32.ofNat (2 ^ S))), (.int (key.toInt32))])) _
    refine XS.iconst X2.here hx rfl (hb hby d13_14) ?_
    show Steps p.tables e below (T2.setTop (mkF m 15 #[.val (.ref t), .val (.long key), .second, .val (.int (Int32.ofNat P)), .unset, .unset] [(.int (1 : Int32)), (.int (Int32.ofNat (2 ^ S))), (.int (key.toInt32))])) _
    refine XS.isub X2.here hx rfl (hb hby d13_15) rfl ?_
    show Steps p.tables e below (T2.setTop (mkF m 16 #[.val (.ref t), .val (.long key), .second, .val (.int (Int32.ofNat P)), .unset, .unset] [(.int ((Int32.ofNat (2 ^ S)) - (1 : Int32))), (.int (key.toInt32))])) _
    refine XS.iand X2.here hx rfl (hb hby d13_16) rfl ?_
    show Steps p.tables e below (T2.setTop (mkF m 17 #[.val (.ref t), .val (.long key), .second, .val (.int (Int32.ofNat P)), .unset, .unset] [(.int ((key.toInt32) &&& ((Int32.ofNat (2 ^ S)) - (1 : Int32))))])) _
    rw [(own_ixI key X S Ix hX hX2 hS hI)]
    show Steps p.tables e below (T2.setTop (mkF m 17 #[.val (.ref t), .val (.long key), .second, .val (.int (Int32.ofNat P)), .unset, .unset] [(.int (Int32.ofNat Ix))])) _
    refine XS.istore X2.here hx rfl (hb hby d13_17) rfl (l' := #[.val (.ref t), .val (.long key), .second, .val (.int (Int32.ofNat P)), .val (.int (Int32.ofNat Ix)), .unset]) rfl ?_
    show Steps p.tables e below (T2.setTop (mkF m 19 #[.val (.ref t), .val (.long key), .second, .val (.int (Int32.ofNat P)), .val (.int (Int32.ofNat Ix)), .unset] [])) _
    refine XS.aloadN X2.here hx rfl (hb hby d13_19) rfl rfl ?_
    show Steps p.tables e below (T2.setTop (mkF m 20 #[.val (.ref t), .val (.long key), .second, .val (.int (Int32.ofNat P)), .val (.int (Int32.ofNat Ix)), .unset] [(.ref t)])) _
    refine st3 _ ?_
    show Steps p.tables e below (T3.setTop (mkF m 23 #[.val (.ref t), .val (.long key), .second, .val (.int (Int32.ofNat P)), .val (.int (Int32.ofNat Ix)), .unset] [(.int (1 : Int32))])) _
    refine XS.ifNo X3.here hx rfl (hb hby d13_23) rfl ((if0 _ _).trans (feq hd4).1) ?_
    show Steps p.tables e below (T3.setTop (mkF m 26 #[.val (.ref t), .val (.long key), .second, .val (.int (Int32.ofNat P)), .val (.int (Int32.ofNat Ix)), .unset] [])) _
    refine XS.aloadN X3.here hx rfl (hb hby d13_26) rfl rfl ?_
    show Steps p.tables e below (T3.setTop (mkF m 27 #[.val (.ref t), .val (.long key), .second, .val (.int (Int32.ofNat P)), .val (.int (Int32.ofNat Ix)), .unset] [(.ref t)])) _
    refine st5 _ ?_
    show Steps p.tables e below (T5.setTop (mkF m 30 #[.val (.ref t), .val (.long key), .second, .val (.int (Int32.ofNat P)), .val (.int (Int32.ofNat Ix)), .unset] [(.ref D)])) _
    refine XS.iloadN X5.here hx rfl (hb hby d13_30) rfl ?_
    show Steps p.tables e below (T5.setTop (mkF m 31 #[.val (.ref t), .val (.long key), .second, .val (.int (Int32.ofNat P)), .val (.int (Int32.ofNat Ix)), .unset] [(.int (Int32.ofNat P)), (.ref D)])) _
    refine X5.aaload hx (j := (Int32.ofNat P)) (v := (.ref pa)) (by rw [e5]; exact Ar31_6.1) (State.isArrayOf_alike hZ.alike Ar31_6.2.1) rfl Ar31_6.2.2 hin31_6 hat31_6 (g := (mkF m 31 #[.val (.ref t), .val (.long key), .second, .val (.int (Int32.ofNat P)), .val (.int (Int32.ofNat Ix)), .unset] [(.int (Int32.ofNat P)), (.ref D)])) rfl rfl (hb hby d13_31) _ ?_
    show Steps p.tables e below (T5.setTop (mkF m 32 #[.val (.ref t), .val (.long key), .second, .val (.int (Int32.ofNat P)), .val (.int (Int32.ofNat Ix)), .unset] [(.ref pa)])) _
    refine XS.astore X5.here hx rfl (hb hby d13_32) rfl rfl (l' := #[.val (.ref t), .val (.long key), .second, .val (.int (Int32.ofNat P)), .val (.int (Int32.ofNat Ix)), .val (.ref pa)]) rfl ?_
    show Steps p.tables e below (T5.setTop (mkF m 34 #[.val (.ref t), .val (.long key), .second, .val (.int (Int32.ofNat P)), .val (.int (Int32.ofNat Ix)), .val (.ref pa)] [])) _
    refine XS.aload X5.here hx rfl (hb hby d13_34) rfl rfl ?_
    show Steps p.tables e below (T5.setTop (mkF m 36 #[.val (.ref t), .val (.long key), .second, .val (.int (Int32.ofNat P)), .val (.int (Int32.ofNat Ix)), .val (.ref pa)] [(.ref pa)])) _
    refine XS.ifnullNo X5.here hx rfl (hb hby d13_36) rfl ?_
    show Steps p.tables e below (T5.setTop (mkF m 39 #[.val (.ref t), .val (.long key), .second, .val (.int (Int32.ofNat P)), .val (.int (Int32.ofNat Ix)), .val (.ref pa)] [])) _
    refine XS.aload X5.here hx rfl (hb hby d13_39) rfl rfl ?_
    show Steps p.tables e below (T5.setTop (mkF m 41 #[.val (.ref t), .val (.long key), .second, .val (.int (Int32.ofNat P)), .val (.int (Int32.ofNat Ix)), .val (.ref pa)] [(.ref pa)])) _
    refine XS.iload X5.here hx rfl (hb hby d13_41) rfl ?_
    show Steps p.tables e below (T5.setTop (mkF m 43 #[.val (.ref t), .val (.long key), .second, .val (.int (Int32.ofNat P)), .val (.int (Int32.ofNat Ix)), .val (.ref pa)] [(.int (Int32.ofNat Ix)), (.ref pa)])) _
    refine X5.iaload hx (j := (Int32.ofNat Ix)) (v := (.int wx)) (by rw [e5]; exact Ar43_7.1) (State.isArrayOf_alike hZ.alike Ar43_7.2.1) Ar43_7.2.2 hin43_7 hat43_7 (g := (mkF m 43 #[.val (.ref t), .val (.long key), .second, .val (.int (Int32.ofNat P)), .val (.int (Int32.ofNat Ix)), .val (.ref pa)] [(.int (Int32.ofNat Ix)), (.ref pa)])) rfl rfl (hb hby d13_43) _ ?_
    show Steps p.tables e below (T5.setTop (mkF m 44 #[.val (.ref t), .val (.long key), .second, .val (.int (Int32.ofNat P)), .val (.int (Int32.ofNat Ix)), .val (.ref pa)] [(.int wx)])) _
    exact kt
  have k12 : ∀ tg, Steps p.tables e below (T5.setTop (mkF m 52 #[.val (.ref t), .val (.long key), .second, .val (.int (Int32.ofNat P)), .val (.int (Int32.ofNat Ix)), .val (.ref pa)] [(.int (if wx = (0 : Int32) then (0 : Int32) else (1 : Int32)))])) tg → Steps p.tables e below (s₁.setTop (entryFrame m #[(.ref t), (.long key)] 6)) tg := by
    intro tg kt
    refine k8 tg ?_
    show Steps p.tables e below (T5.setTop (mkF m 44 #[.val (.ref t), .val (.long key), .second, .val (.int (Int32.ofNat P)), .val (.int (Int32.ofNat Ix)), .val (.ref pa)] [(.int wx)])) _
    by_cases hc9 : wx = (0 : Int32)
    · refine XS.ifYes X5.here hx rfl (pc0 := 44) (pc' := 51) rfl (hb hby d13_44) rfl ((if0 _ _).trans (teq hc9).1) (by decide) (by decide) ?_
      show Steps p.tables e below (T5.setTop (mkF m 51 #[.val (.ref t), .val (.long key), .second, .val (.int (Int32.ofNat P)), .val (.int (Int32.ofNat Ix)), .val (.ref pa)] [])) _
      refine XS.iconst X5.here hx rfl (hb hby d13_51) ?_
      show Steps p.tables e below (T5.setTop (mkF m 52 #[.val (.ref t), .val (.long key), .second, .val (.int (Int32.ofNat P)), .val (.int (Int32.ofNat Ix)), .val (.ref pa)] [(.int (0 : Int32))])) _
      repeat rw [if_pos hc9] at kt
      exact kt
    · refine XS.ifNo X5.here hx rfl (hb hby d13_44) rfl ((if0 _ _).trans (feq hc9).1) ?_
      show Steps p.tables e below (T5.setTop (mkF m 47 #[.val (.ref t), .val (.long key), .second, .val (.int (Int32.ofNat P)), .val (.int (Int32.ofNat Ix)), .val (.ref pa)] [])) _
      refine XS.iconst X5.here hx rfl (hb hby d13_47) ?_
      show Steps p.tables e below (T5.setTop (mkF m 48 #[.val (.ref t), .val (.long key), .second, .val (.int (Int32.ofNat P)), .val (.int (Int32.ofNat Ix)), .val (.ref pa)] [(.int (1 : Int32))])) _
      refine XS.goto X5.here hx rfl (pc0 := 48) (pc' := 52) rfl (hb hby d13_48) (by decide) (by decide) ?_
      show Steps p.tables e below (T5.setTop (mkF m 52 #[.val (.ref t), .val (.long key), .second, .val (.int (Int32.ofNat P)), .val (.int (Int32.ofNat Ix)), .val (.ref pa)] [(.int (1 : Int32))])) _
      repeat rw [if_neg hc9] at kt
      exact kt
  obtain ⟨z13, ez13⟩ : ∃ z : Int32, z = (if wx = (0 : Int32) then (0 : Int32) else (1 : Int32)) := ⟨_, rfl⟩
  have k14 : ∀ tg, Steps p.tables e below (T5.setTop (mkF m 52 #[.val (.ref t), .val (.long key), .second, .val (.int (Int32.ofNat P)), .val (.int (Int32.ofNat Ix)), .val (.ref pa)] [(.int z13)])) tg → Steps p.tables e below (s₁.setTop (entryFrame m #[(.ref t), (.long key)] 6)) tg := by
    intro tg kt
    refine k12 tg ?_
    show Steps p.tables e below (T5.setTop (mkF m 52 #[.val (.ref t), .val (.long key), .second, .val (.int (Int32.ofNat P)), .val (.int (Int32.ofNat Ix)), .val (.ref pa)] [(.int (if wx = (0 : Int32) then (0 : Int32) else (1 : Int32)))])) _
    rw [← ez13]
    show Steps p.tables e below (T5.setTop (mkF m 52 #[.val (.ref t), .val (.long key), .second, .val (.int (Int32.ofNat P)), .val (.int (Int32.ofNat Ix)), .val (.ref pa)] [(.int z13)])) _
    exact kt
  obtain ⟨fs, hr, hrun, hended, hW, hsame⟩ := X5.leave (v := some (.int z13)) (fun h => by rw [Bd.returns] at h; cases h)
  refine ⟨_, _, k14 _ ?_, hrun, hended, _, _, rfl, ?_, ⟨_, rfl⟩, hW, hsame.mono (by decide) (by decide)⟩
  · exact retN X5 hx (t := .boolean) Bd.returns (by simp) (hb hby d13_52) (by rw [show nar .boolean z13 = z13 from (by rw [ez13]; (repeat' split) <;> decide)]; exact hr)
  · show QV _ h0 n0 _ T5.heap _
    exact ⟨congrArg (fun z => some (Value.int z)) (ez13), N0, e5⟩
theorem ef_rmHoldsnw (m : MethodId) (t : Addr) (key : Int64) : entryFrame m #[(.ref t), (.long key)] 6 = mkF m 0 #[.val (.ref t), .val (.long key), .second, .unset, .unset, .unset] [] := by first | (simp [entryFrame, mkF, argsToLocals, Value.category]; done) | rfl
set_option maxRecDepth 65536 in
set_option maxHeartbeats 40000000 in
theorem rmHoldsnw (l : Launch) (Z : State) (a0 : Array Value) (hw : ∀ d ∈ tables_1, d.before a0 Z = true) (ws : List Jvm.Cond) (t : Addr) (key : Int64) (S np P Ix X : Nat) (md : Nat → Bool) (g : Nat → Nat → Value) (cnt : Int32) (wx : Int32) (h0 : Heap) (n0 : Nat) (hS : S ≤ 15) (hX : key.toInt = X) (hX2 : X < 2 ^ 30) (hP : P = X / 2 ^ S) (hI : Ix = X % 2 ^ S) (hPn : P < np) (hn31 : np < 2 ^ 31) (HK : KT Z h0 n0 t (1 : Int32) "numbers" "[[I" .int "[I" S np (2 ^ S) (.int (0 : Int32)) md g cnt) (hgx : g P Ix = .int wx) (hm : md P = false) :
    MetFree l (⟨"com/example/parley/parley/core/KeyTable", "holds", "(J)Z"⟩ : MethodName) (head1 (Jvm.Cond.code (⟨"com/example/parley/parley/core/KeyTable", "holds", "(J)Z"⟩ : MethodName) prog_121_method_7_code 6 (some .boolean) :: ws) ({ frames := 0, cells := 0, slots := 0, locals := 0 } : Room)) (fun a_ U_ => a_ = #[(.ref t), (.long key)] ∧ Z.Warmed39 U_.vm ∧ U_.heap = h0) (fun _ _ _ _ _ => True) (fun _ U_ o_ U'_ => ∃ v_ L_, o_ = .returned v_ ∧ QV (.int (if wx = (0 : Int32) then (0 : Int32) else (1 : Int32))) h0 n0 v_ U'_.heap L_ ∧ FrameEnd U_ o_ U'_ L_ ({ frames := 0, cells := 0, slots := 0, locals := 0 } : Room).cells ({ frames := 0, cells := 0, slots := 0, locals := 0 } : Room).slots) := by
  refine MetFree.of_bodySF (plainFor_of_name pn_13) hisR ?_
  intro p e s m args below meth c s₁ Bd hml0 hP hK
  obtain ⟨rfl, hZ, hh⟩ := hP
  have hx := Bd.exec
  have hby := Bd.bytes
  have hml : c.maxLocals = 6 := hml0
  have hown : s.vm.findClass "com/example/parley/parley/core/KeyTable" = some m.cls := findClass_of_methodNamed Bd.named
  have hnm := (name_of_methodNamed Bd.named Bd.method).1
  have X0 : Stand p l e ({ frames := 0, cells := 0, slots := 0, locals := 0 } : Room) s m #[(.ref t), (.long key)] below meth c s₁ [] 0 0 := Stand.of_body Bd
  have e0 : s₁.heap = h0 := by rw [← hh, Bd.state]; rfl
  have N0 := Fr.nil n0
  have k0 : ∀ tg, Steps p.tables e below (s₁.setTop (mkF m 0 #[.val (.ref t), .val (.long key), .second, .unset, .unset, .unset] [])) tg → Steps p.tables e below (s₁.setTop (entryFrame m #[(.ref t), (.long key)] 6)) tg := fun tg kq_ => castTop (ef_rmHoldsnw m t key) kq_
  obtain ⟨E_t, F_numbered, F_pageShift, F_pageKeys, F_pageWords, F_madePages, g_t, D, kD, dir, F_dir, V_D, OD, g_D, ne_t_D, hmd, hpg, hinj, hun⟩ := HK
  have hP31 : P < 2 ^ 31 := Nat.lt_trans hPn hn31
  have h2S : 2 ^ S ≤ 2 ^ 15 := Nat.pow_le_pow_right (by decide) hS
  have hIl : Ix < 2 ^ S := by rw [hI]; exact Nat.mod_lt _ (Nat.pow_pos (by decide))
  have hI31 : Ix < 2 ^ 31 := by omega
  have hWl : Ix / 64 < max 1 (2 ^ S / 64) := own_wix Ix S hIl
  have hW31 : Ix / 64 < 2 ^ 31 := by omega
  have hpl1 : 2 ^ S < 2 ^ 31 := by omega
  have hpl2 : max 1 (2 ^ S / 64) < 2 ^ 31 := by omega
  have hpl3 : max 1 (2 ^ S / 64) ≤ 512 := by omega
  have ha : dir P = none := by have q := hmd P; rw [hm] at q; exact Option.not_isSome_iff_eq_none.mp (by rw [q]; exact Bool.false_ne_true)
  have hx0 : wx = 0 := by have q := hun P Ix hm; rw [hgx] at q; exact Value.int.inj q
  obtain ⟨T1, X1, e1, st1⟩ := getF X0 hx hZ hown (host := "") (Or.inl (hw _ (List.mem_of_getElem? (i := 36) rfl))) Via.refl e0 F_pageShift (g := (mkF m 2 #[.val (.ref t), .val (.long key), .second, .unset, .unset, .unset] [(.ref t), (.long key)])) rfl rfl (hb hby d13_2)
  obtain ⟨T2, X2, e2, st2⟩ := getF X1 hx hZ hown (host := "") (Or.inl (hw _ (List.mem_of_getElem? (i := 38) rfl))) Via.refl e1 F_pageKeys (g := (mkF m 11 #[.val (.ref t), .val (.long key), .second, .val (.int (Int32.ofNat P)), .unset, .unset] [(.ref t), (.int (key.toInt32))])) rfl rfl (hb hby d13_11)
  obtain ⟨T3, X3, e3, st3⟩ := getF X2 hx hZ hown (host := "") (Or.inl (hw _ (List.mem_of_getElem? (i := 14) rfl))) Via.refl e2 F_numbered (g := (mkF m 20 #[.val (.ref t), .val (.long key), .second, .val (.int (Int32.ofNat P)), .val (.int (Int32.ofNat Ix)), .unset] [(.ref t)])) rfl rfl (hb hby d13_20)
  have hd4 : ¬ ((1 : Int32) = (0 : Int32)) := by decide
  obtain ⟨T5, X5, e5, st5⟩ := getF X3 hx hZ hown (host := "") (Or.inl (hw _ (List.mem_of_getElem? (i := 55) rfl))) Via.refl e3 F_dir (g := (mkF m 27 #[.val (.ref t), .val (.long key), .second, .val (.int (Int32.ofNat P)), .val (.int (Int32.ofNat Ix)), .unset] [(.ref t)])) rfl rfl (hb hby d13_27)
  obtain ⟨cl31_6, Ar31_6, q31_6, S31_6, H31_6⟩ := id V_D
  have hin31_6 : ¬ ((Int32.ofNat P) < 0 ∨ cl31_6.slots.size ≤ ((Int32.ofNat P)).toNatClampNeg) := own_inb S31_6 (own_nn _ hP31) (by rw [own_clamp _ hP31]; exact hPn)
  have hat31_6 : cl31_6.slots[((Int32.ofNat P)).toNatClampNeg]? = some .null := by rw [own_clamp _ hP31]; exact (H31_6 _ hPn).trans (congrArg some (by show dirV (dir P) = _; rw [ha]; rfl))
  have k7 : ∀ tg, Steps p.tables e below (T5.setTop (mkF m 52 #[.val (.ref t), .val (.long key), .second, .val (.int (Int32.ofNat P)), .val (.int (Int32.ofNat Ix)), .val .null] [(.int (0 : Int32))])) tg → Steps p.tables e below (s₁.setTop (entryFrame m #[(.ref t), (.long key)] 6)) tg := by
    intro tg kt
    refine k0 tg ?_
    show Steps p.tables e below (s₁.setTop (mkF m 0 #[.val (.ref t), .val (.long key), .second, .unset, .unset, .unset] [])) _
    refine XS.lloadN X0.here hx rfl (hb hby d13_0) rfl ?_
    show Steps p.tables e below (s₁.setTop (mkF m 1 #[.val (.ref t), .val (.long key), .second, .unset, .unset, .unset] [(.long key)])) _
    refine XS.aloadN X0.here hx rfl (hb hby d13_1) rfl rfl ?_
    show Steps p.tables e below (s₁.setTop (mkF m 2 #[.val (.ref t), .val (.long key), .second, .unset, .unset, .unset] [(.ref t), (.long key)])) _
    refine st1 _ ?_
    show Steps p.tables e below (T1.setTop (mkF m 5 #[.val (.ref t), .val (.long key), .second, .unset, .unset, .unset] [(.int (Int32.ofNat S)), (.long key)])) _
    refine XS.lushr X1.here hx rfl (hb hby d13_5) rfl ?_
    show Steps p.tables e below (T1.setTop (mkF m 6 #[.val (.ref t), .val (.long key), .second, .unset, .unset, .unset] [(.long ((key.toUInt64 >>> ((Int32.ofNat S) &&& 0x3f).toInt64.toUInt64).toInt64))])) _
    refine XS.l2i X1.here hx rfl (hb hby d13_6) rfl ?_
    show Steps p.tables e below (T1.setTop (mkF m 7 #[.val (.ref t), .val (.long key), .second, .unset, .unset, .unset] [(.int (((key.toUInt64 >>> ((Int32.ofNat S) &&& 0x3f).toInt64.toUInt64).toInt64).toInt32))])) _
    rw [(own_pageI key X S P hX hX2 hS hP)]
    show Steps p.tables e below (T1.setTop (mkF m 7 #[.val (.ref t), .val (.long key), .second, .unset, .unset, .unset] [(.int (Int32.ofNat P))])) _
    refine XS.istoreN X1.here hx rfl (hb hby d13_7) rfl (l' := #[.val (.ref t), .val (.long key), .second, .val (.int (Int32.ofNat P)), .unset, .unset]) rfl ?_
    show Steps p.tables e below (T1.setTop (mkF m 8 #[.val (.ref t), .val (.long key), .second, .val (.int (Int32.ofNat P)), .unset, .unset] [])) _
    refine XS.lloadN X1.here hx rfl (hb hby d13_8) rfl ?_
    show Steps p.tables e below (T1.setTop (mkF m 9 #[.val (.ref t), .val (.long key), .second, .val (.int (Int32.ofNat P)), .unset, .unset] [(.long key)])) _
    refine XS.l2i X1.here hx rfl (hb hby d13_9) rfl ?_
    show Steps p.tables e below (T1.setTop (mkF m 10 #[.val (.ref t), .val (.long key), .second, .val (.int (Int32.ofNat P)), .unset, .unset] [(.int (key.toInt32))])) _
    refine XS.aloadN X1.here hx rfl (hb hby d13_10) rfl rfl ?_
    show Steps p.tables e below (T1.setTop (mkF m 11 #[.val (.ref t), .val (.long key), .second, .val (.int (Int32.ofNat P)), .unset, .unset] [(.ref t), (.int (key.toInt32))])) _
    refine st2 _ ?_
    show Steps p.tables e below (T2.setTop (mkF m 14 #[.val (.ref t), .val (.long key), .second, .val (.int (Int32.ofNat P)), .unset, .unset] [(.int (Int32.ofNat (2 ^ S))), (.int (key.toInt32))])) _
    refine XS.iconst X2.here hx rfl (hb hby d13_14) ?_
    show Steps p.tables e below (T2.setTop (mkF m 15 #[.val (.ref t), .val (.long key), .second, .val (.int (Int32.ofNat P)), .unset, .unset] [(.int (1 : Int32)), (.int (Int32.ofNat (2 ^ S))), (.int (key.toInt32))])) _
    refine XS.isub X2.here hx rfl (hb hby d13_15) rfl ?_
    show Steps p.tables e below (T2.setTop (mkF m 16 #[.val (.ref t), .val (.long key), .second, .val (.int (Int32.ofNat P)), .unset, .unset] [(.int ((Int32.ofNat (2 ^ S)) - (1 : Int32))), (.int (key.toInt32))])) _
    refine XS.iand X2.here hx rfl (hb hby d13_16) rfl ?_
    show Steps p.tables e below (T2.setTop (mkF m 17 #[.val (.ref t), .val (.long key), .second, .val (.int (Int32.ofNat P)), .unset, .unset] [(.int ((key.toInt32) &&& ((Int32.ofNat (2 ^ S)) - (1 : Int32))))])) _
    rw [(own_ixI key X S Ix hX hX2 hS hI)]
    show Steps p.tables e below (T2.setTop (mkF m 17 #[.val (.ref t), .val (.long key), .second, .val (.int (Int32.ofNat P)), .unset, .unset] [(.int (Int32.ofNat Ix))])) _
    refine XS.istore X2.here hx rfl (hb hby d13_17) rfl (l' := #[.val (.ref t), .val (.long key), .second, .val (.int (Int32.ofNat P)), .val (.int (Int32.ofNat Ix)), .unset]) rfl ?_
    show Steps p.tables e below (T2.setTop (mkF m 19 #[.val (.ref t), .val (.long key), .second, .val (.int (Int32.ofNat P)), .val (.int (Int32.ofNat Ix)), .unset] [])) _
    refine XS.aloadN X2.here hx rfl (hb hby d13_19) rfl rfl ?_
    show Steps p.tables e below (T2.setTop (mkF m 20 #[.val (.ref t), .val (.long key), .second, .val (.int (Int32.ofNat P)), .val (.int (Int32.ofNat Ix)), .unset] [(.ref t)])) _
    refine st3 _ ?_
    show Steps p.tables e below (T3.setTop (mkF m 23 #[.val (.ref t), .val (.long key), .second, .val (.int (Int32.ofNat P)), .val (.int (Int32.ofNat Ix)), .unset] [(.int (1 : Int32))])) _
    refine XS.ifNo X3.here hx rfl (hb hby d13_23) rfl ((if0 _ _).trans (feq hd4).1) ?_
    show Steps p.tables e below (T3.setTop (mkF m 26 #[.val (.ref t), .val (.long key), .second, .val (.int (Int32.ofNat P)), .val (.int (Int32.ofNat Ix)), .unset] [])) _
    refine XS.aloadN X3.here hx rfl (hb hby d13_26) rfl rfl ?_
    show Steps p.tables e below (T3.setTop (mkF m 27 #[.val (.ref t), .val (.long key), .second, .val (.int (Int32.ofNat P)), .val (.int (Int32.ofNat Ix)), .unset] [(.ref t)])) _
    refine st5 _ ?_
    show Steps p.tables e below (T5.setTop (mkF m 30 #[.val (.ref t), .val (.long key), .second, .val (.int (Int32.ofNat P)), .val (.int (Int32.ofNat Ix)), .unset] [(.ref D)])) _
    refine XS.iloadN X5.here hx rfl (hb hby d13_30) rfl ?_
    show Steps p.tables e below (T5.setTop (mkF m 31 #[.val (.ref t), .val (.long key), .second, .val (.int (Int32.ofNat P)), .val (.int (Int32.ofNat Ix)), .unset] [(.int (Int32.ofNat P)), (.ref D)])) _
    refine X5.aaload hx (j := (Int32.ofNat P)) (v := .null) (by rw [e5]; exact Ar31_6.1) (State.isArrayOf_alike hZ.alike Ar31_6.2.1) rfl Ar31_6.2.2 hin31_6 hat31_6 (g := (mkF m 31 #[.val (.ref t), .val (.long key), .second, .val (.int (Int32.ofNat P)), .val (.int (Int32.ofNat Ix)), .unset] [(.int (Int32.ofNat P)), (.ref D)])) rfl rfl (hb hby d13_31) _ ?_
    show Steps p.tables e below (T5.setTop (mkF m 32 #[.val (.ref t), .val (.long key), .second, .val (.int (Int32.ofNat P)), .val (.int (Int32.ofNat Ix)), .unset] [.null])) _
    refine XS.astore X5.here hx rfl (hb hby d13_32) rfl rfl (l' := #[.val (.ref t), .val (.long key), .second, .val (.int (Int32.ofNat P)), .val (.int (Int32.ofNat Ix)), .val .null]) rfl ?_
    show Steps p.tables e below (T5.setTop (mkF m 34 #[.val (.ref t), .val (.long key), .second, .val (.int (Int32.ofNat P)), .val (.int (Int32.ofNat Ix)), .val .null] [])) _
    refine XS.aload X5.here hx rfl (hb hby d13_34) rfl rfl ?_
    show Steps p.tables e below (T5.setTop (mkF m 36 #[.val (.ref t), .val (.long key), .second, .val (.int (Int32.ofNat P)), .val (.int (Int32.ofNat Ix)), .val .null] [.null])) _
    refine XS.ifnullYes X5.here hx rfl (pc0 := 36) (pc' := 51) rfl (hb hby d13_36) rfl (by decide) (by decide) ?_
    show Steps p.tables e below (T5.setTop (mkF m 51 #[.val (.ref t), .val (.long key), .second, .val (.int (Int32.ofNat P)), .val (.int (Int32.ofNat Ix)), .val .null] [])) _
    refine XS.iconst X5.here hx rfl (hb hby d13_51) ?_
    show Steps p.tables e below (T5.setTop (mkF m 52 #[.val (.ref t), .val (.long key), .second, .val (.int (Int32.ofNat P)), .val (.int (Int32.ofNat Ix)), .val .null] [(.int (0 : Int32))])) _
    exact kt
  obtain ⟨fs, hr, hrun, hended, hW, hsame⟩ := X5.leave (v := some (.int (0 : Int32))) (fun h => by rw [Bd.returns] at h; cases h)
  refine ⟨_, _, k7 _ ?_, hrun, hended, _, _, rfl, ?_, ⟨_, rfl⟩, hW, hsame.mono (by decide) (by decide)⟩
  · exact retN X5 hx (t := .boolean) Bd.returns (by simp) (hb hby d13_52) hr
  · show QV _ h0 n0 _ T5.heap _
    exact ⟨congrArg (fun z => some (Value.int z)) ((if_pos hx0).symm), N0, e5⟩
theorem rmHoldsn (l : Launch) (Z : State) (a0 : Array Value) (hw : ∀ d ∈ tables_1, d.before a0 Z = true) (ws : List Jvm.Cond) (t : Addr) (key : Int64) (S np P Ix X : Nat) (md : Nat → Bool) (g : Nat → Nat → Value) (cnt : Int32) (wx : Int32) (h0 : Heap) (n0 : Nat) (hS : S ≤ 15) (hX : key.toInt = X) (hX2 : X < 2 ^ 30) (hP : P = X / 2 ^ S) (hI : Ix = X % 2 ^ S) (hPn : P < np) (hn31 : np < 2 ^ 31) (HK : KT Z h0 n0 t (1 : Int32) "numbers" "[[I" .int "[I" S np (2 ^ S) (.int (0 : Int32)) md g cnt) (hgx : g P Ix = .int wx) :
    MetFree l (⟨"com/example/parley/parley/core/KeyTable", "holds", "(J)Z"⟩ : MethodName) (head1 (Jvm.Cond.code (⟨"com/example/parley/parley/core/KeyTable", "holds", "(J)Z"⟩ : MethodName) prog_121_method_7_code 6 (some .boolean) :: ws) ({ frames := 0, cells := 0, slots := 0, locals := 0 } : Room)) (fun a_ U_ => a_ = #[(.ref t), (.long key)] ∧ Z.Warmed39 U_.vm ∧ U_.heap = h0) (fun _ _ _ _ _ => True) (fun _ U_ o_ U'_ => ∃ v_ L_, o_ = .returned v_ ∧ QV (.int (if wx = (0 : Int32) then (0 : Int32) else (1 : Int32))) h0 n0 v_ U'_.heap L_ ∧ FrameEnd U_ o_ U'_ L_ ({ frames := 0, cells := 0, slots := 0, locals := 0 } : Room).cells ({ frames := 0, cells := 0, slots := 0, locals := 0 } : Room).slots) := by
  by_cases hm : md P = true
  · exact rmHoldsno l Z a0 hw ws t key S np P Ix X md g cnt wx h0 n0 hS hX hX2 hP hI hPn hn31 HK hgx hm
  · exact rmHoldsnw l Z a0 hw ws t key S np P Ix X md g cnt wx h0 n0 hS hX hX2 hP hI hPn hn31 HK hgx (by simpa using hm)
theorem d13_53 : decode prog_121_method_7_code 53 = .ok (.aload_n 0, 1) := by decide +kernel
theorem d13_54 : decode prog_121_method_7_code 54 = .ok (.getfield 35, 3) := by decide +kernel
theorem d13_57 : decode prog_121_method_7_code 57 = .ok (.iload_n 3, 1) := by decide +kernel
theorem d13_58 : decode prog_121_method_7_code 58 = .ok (.aaload, 1) := by decide +kernel
theorem d13_59 : decode prog_121_method_7_code 59 = .ok (.astore 5, 2) := by decide +kernel
theorem d13_61 : decode prog_121_method_7_code 61 = .ok (.aload 5, 2) := by decide +kernel
theorem d13_63 : decode prog_121_method_7_code 63 = .ok (.ifnull 25, 3) := by decide +kernel
theorem d13_66 : decode prog_121_method_7_code 66 = .ok (.aload 5, 2) := by decide +kernel
theorem d13_68 : decode prog_121_method_7_code 68 = .ok (.iload 4, 2) := by decide +kernel
theorem d13_70 : decode prog_121_method_7_code 70 = .ok (.bipush 6, 2) := by decide +kernel
theorem d13_72 : decode prog_121_method_7_code 72 = .ok (.iushr, 1) := by decide +kernel
theorem d13_73 : decode prog_121_method_7_code 73 = .ok (.laload, 1) := by decide +kernel
theorem d13_74 : decode prog_121_method_7_code 74 = .ok (.lconst 1, 1) := by decide +kernel
theorem d13_75 : decode prog_121_method_7_code 75 = .ok (.iload 4, 2) := by decide +kernel
theorem d13_77 : decode prog_121_method_7_code 77 = .ok (.lshl, 1) := by decide +kernel
theorem d13_78 : decode prog_121_method_7_code 78 = .ok (.land, 1) := by decide +kernel
theorem d13_79 : decode prog_121_method_7_code 79 = .ok (.lconst 0, 1) := by decide +kernel
theorem d13_80 : decode prog_121_method_7_code 80 = .ok (.lcmp, 1) := by decide +kernel
theorem d13_81 : decode prog_121_method_7_code 81 = .ok (.ifCond .eq 7, 3) := by decide +kernel
theorem d13_84 : decode prog_121_method_7_code 84 = .ok (.iconst 1, 1) := by decide +kernel
theorem d13_85 : decode prog_121_method_7_code 85 = .ok (.goto 4, 3) := by decide +kernel
theorem d13_88 : decode prog_121_method_7_code 88 = .ok (.iconst 0, 1) := by decide +kernel
theorem d13_89 : decode prog_121_method_7_code 89 = .ok (.ireturn, 1) := by decide +kernel
theorem ef_rmHoldsbo (m : MethodId) (t : Addr) (key : Int64) : entryFrame m #[(.ref t), (.long key)] 6 = mkF m 0 #[.val (.ref t), .val (.long key), .second, .unset, .unset, .unset] [] := by first | (simp [entryFrame, mkF, argsToLocals, Value.category]; done) | rfl
set_option maxRecDepth 65536 in
set_option maxHeartbeats 40000000 in
theorem rmHoldsbo (l : Launch) (Z : State) (a0 : Array Value) (hw : ∀ d ∈ tables_1, d.before a0 Z = true) (ws : List Jvm.Cond) (t : Addr) (key : Int64) (S np P Ix X : Nat) (md : Nat → Bool) (g : Nat → Nat → Value) (cnt : Int32) (wx : Int64) (h0 : Heap) (n0 : Nat) (hS : S ≤ 15) (hX : key.toInt = X) (hX2 : X < 2 ^ 30) (hP : P = X / 2 ^ S) (hI : Ix = X % 2 ^ S) (hPn : P < np) (hn31 : np < 2 ^ 31) (HK : KT Z h0 n0 t (0 : Int32) "bits" "[[J" .long "[J" S np (max 1 (2 ^ S / 64)) (.long (0 : Int64)) md g cnt) (hgx : g P (Ix / 64) = .long wx) (hm : md P = true) :
    MetFree l (⟨"com/example/parley/parley/core/KeyTable", "holds", "(J)Z"⟩ : MethodName) (head1 (Jvm.Cond.code (⟨"com/example/parley/parley/core/KeyTable", "holds", "(J)Z"⟩ : MethodName) prog_121_method_7_code 6 (some .boolean) :: ws) ({ frames := 0, cells := 0, slots := 0, locals := 0 } : Room)) (fun a_ U_ => a_ = #[(.ref t), (.long key)] ∧ Z.Warmed39 U_.vm ∧ U_.heap = h0) (fun _ _ _ _ _ => True) (fun _ U_ o_ U'_ => ∃ v_ L_, o_ = .returned v_ ∧ QV (.int (if (wx &&& ((1 : Int64) <<< ((Int32.ofNat Ix) &&& 0x3f).toInt64)) = (0 : Int64) then (0 : Int32) else (1 : Int32))) h0 n0 v_ U'_.heap L_ ∧ FrameEnd U_ o_ U'_ L_ ({ frames := 0, cells := 0, slots := 0, locals := 0 } : Room).cells ({ frames := 0, cells := 0, slots := 0, locals := 0 } : Room).slots) := by
  refine MetFree.of_bodySF (plainFor_of_name pn_13) hisR ?_
  intro p e s m args below meth c s₁ Bd hml0 hP hK
  obtain ⟨rfl, hZ, hh⟩ := hP
  have hx := Bd.exec
  have hby := Bd.bytes
  have hml : c.maxLocals = 6 := hml0
  have hown : s.vm.findClass "com/example/parley/parley/core/KeyTable" = some m.cls := findClass_of_methodNamed Bd.named
  have hnm := (name_of_methodNamed Bd.named Bd.method).1
  have X0 : Stand p l e ({ frames := 0, cells := 0, slots := 0, locals := 0 } : Room) s m #[(.ref t), (.long key)] below meth c s₁ [] 0 0 := Stand.of_body Bd
  have e0 : s₁.heap = h0 := by rw [← hh, Bd.state]; rfl
  have N0 := Fr.nil n0
  have k0 : ∀ tg, Steps p.tables e below (s₁.setTop (mkF m 0 #[.val (.ref t), .val (.long key), .second, .unset, .unset, .unset] [])) tg → Steps p.tables e below (s₁.setTop (entryFrame m #[(.ref t), (.long key)] 6)) tg := fun tg kq_ => castTop (ef_rmHoldsbo m t key) kq_
  obtain ⟨E_t, F_numbered, F_pageShift, F_pageKeys, F_pageWords, F_madePages, g_t, D, kD, dir, F_dir, V_D, OD, g_D, ne_t_D, hmd, hpg, hinj, hun⟩ := HK
  have hP31 : P < 2 ^ 31 := Nat.lt_trans hPn hn31
  have h2S : 2 ^ S ≤ 2 ^ 15 := Nat.pow_le_pow_right (by decide) hS
  have hIl : Ix < 2 ^ S := by rw [hI]; exact Nat.mod_lt _ (Nat.pow_pos (by decide))
  have hI31 : Ix < 2 ^ 31 := by omega
  have hWl : Ix / 64 < max 1 (2 ^ S / 64) := own_wix Ix S hIl
  have hW31 : Ix / 64 < 2 ^ 31 := by omega
  have hpl1 : 2 ^ S < 2 ^ 31 := by omega
  have hpl2 : max 1 (2 ^ S / 64) < 2 ^ 31 := by omega
  have hpl3 : max 1 (2 ^ S / 64) ≤ 512 := by omega
  obtain ⟨pa, ha⟩ : ∃ pa, dir P = some pa := Option.isSome_iff_exists.mp ((hmd P).trans hm)
  obtain ⟨ne_pa_t, ne_pa_D, g_pa, ka, V_pa⟩ := hpg P pa ha
  obtain ⟨T1, X1, e1, st1⟩ := getF X0 hx hZ hown (host := "") (Or.inl (hw _ (List.mem_of_getElem? (i := 36) rfl))) Via.refl e0 F_pageShift (g := (mkF m 2 #[.val (.ref t), .val (.long key), .second, .unset, .unset, .unset] [(.ref t), (.long key)])) rfl rfl (hb hby d13_2)
  obtain ⟨T2, X2, e2, st2⟩ := getF X1 hx hZ hown (host := "") (Or.inl (hw _ (List.mem_of_getElem? (i := 38) rfl))) Via.refl e1 F_pageKeys (g := (mkF m 11 #[.val (.ref t), .val (.long key), .second, .val (.int (Int32.ofNat P)), .unset, .unset] [(.ref t), (.int (key.toInt32))])) rfl rfl (hb hby d13_11)
  obtain ⟨T3, X3, e3, st3⟩ := getF X2 hx hZ hown (host := "") (Or.inl (hw _ (List.mem_of_getElem? (i := 14) rfl))) Via.refl e2 F_numbered (g := (mkF m 20 #[.val (.ref t), .val (.long key), .second, .val (.int (Int32.ofNat P)), .val (.int (Int32.ofNat Ix)), .unset] [(.ref t)])) rfl rfl (hb hby d13_20)
  have hd4 : (0 : Int32) = (0 : Int32) := rfl
  obtain ⟨T5, X5, e5, st5⟩ := getF X3 hx hZ hown (host := "") (Or.inl (hw _ (List.mem_of_getElem? (i := 53) rfl))) Via.refl e3 F_dir (g := (mkF m 54 #[.val (.ref t), .val (.long key), .second, .val (.int (Int32.ofNat P)), .val (.int (Int32.ofNat Ix)), .unset] [(.ref t)])) rfl rfl (hb hby d13_54)
  obtain ⟨cl58_6, Ar58_6, q58_6, S58_6, H58_6⟩ := id V_D
  have hin58_6 : ¬ ((Int32.ofNat P) < 0 ∨ cl58_6.slots.size ≤ ((Int32.ofNat P)).toNatClampNeg) := own_inb S58_6 (own_nn _ hP31) (by rw [own_clamp _ hP31]; exact hPn)
  have hat58_6 : cl58_6.slots[((Int32.ofNat P)).toNatClampNeg]? = some (.ref pa) := by rw [own_clamp _ hP31]; exact (H58_6 _ hPn).trans (congrArg some (by show dirV (dir P) = _; rw [ha]; rfl))
  obtain ⟨cl73_7, Ar73_7, q73_7, S73_7, H73_7⟩ := id V_pa
  have hin73_7 : ¬ ((Int32.ofNat (Ix / 64)) < 0 ∨ cl73_7.slots.size ≤ ((Int32.ofNat (Ix / 64))).toNatClampNeg) := own_inb S73_7 (own_nn _ hW31) (by rw [own_clamp _ hW31]; exact hWl)
  have hat73_7 : cl73_7.slots[((Int32.ofNat (Ix / 64))).toNatClampNeg]? = some (.long wx) := by rw [own_clamp _ hW31]; exact (H73_7 _ hWl).trans (congrArg some hgx)
  have k8 : ∀ tg, Steps p.tables e below (T5.setTop (mkF m 81 #[.val (.ref t), .val (.long key), .second, .val (.int (Int32.ofNat P)), .val (.int (Int32.ofNat Ix)), .val (.ref pa)] [(.int (lcmpW (wx &&& ((1 : Int64) <<< ((Int32.ofNat Ix) &&& 0x3f).toInt64)) (0 : Int64)))])) tg → Steps p.tables e below (s₁.setTop (entryFrame m #[(.ref t), (.long key)] 6)) tg := by
    intro tg kt
    refine k0 tg ?_
    show Steps p.tables e below (s₁.setTop (mkF m 0 #[.val (.ref t), .val (.long key), .second, .unset, .unset, .unset] [])) _
    refine XS.lloadN X0.here hx rfl (hb hby d13_0) rfl ?_
    show Steps p.tables e below (s₁.setTop (mkF m 1 #[.val (.ref t), .val (.long key), .second, .unset, .unset, .unset] [(.long key)])) _
    refine XS.aloadN X0.here hx rfl (hb hby d13_1) rfl rfl ?_
    show Steps p.tables e below (s₁.setTop (mkF m 2 #[.val (.ref t), .val (.long key), .second, .unset, .unset, .unset] [(.ref t), (.long key)])) _
    refine st1 _ ?_
    show Steps p.tables e below (T1.setTop (mkF m 5 #[.val (.ref t), .val (.long key), .second, .unset, .unset, .unset] [(.int (Int32.ofNat S)), (.long key)])) _
    refine XS.lushr X1.here hx rfl (hb hby d13_5) rfl ?_
    show Steps p.tables e below (T1.setTop (mkF m 6 #[.val (.ref t), .val (.long key), .second, .unset, .unset, .unset] [(.long ((key.toUInt64 >>> ((Int32.ofNat S) &&& 0x3f).toInt64.toUInt64).toInt64))])) _
    refine XS.l2i X1.here hx rfl (hb hby d13_6) rfl ?_
    show Steps p.tables e below (T1.setTop (mkF m 7 #[.val (.ref t), .val (.long key), .second, .unset, .unset, .unset] [(.int (((key.toUInt64 >>> ((Int32.ofNat S) &&& 0x3f).toInt64.toUInt64).toInt64).toInt32))])) _
    rw [(own_pageI key X S P hX hX2 hS hP)]
    show Steps p.tables e below (T1.setTop (mkF m 7 #[.val (.ref t), .val (.long key), .second, .unset, .unset, .unset] [(.int (Int32.ofNat P))])) _
    refine XS.istoreN X1.here hx rfl (hb hby d13_7) rfl (l' := #[.val (.ref t), .val (.long key), .second, .val (.int (Int32.ofNat P)), .unset, .unset]) rfl ?_
    show Steps p.tables e below (T1.setTop (mkF m 8 #[.val (.ref t), .val (.long key), .second, .val (.int (Int32.ofNat P)), .unset, .unset] [])) _
    refine XS.lloadN X1.here hx rfl (hb hby d13_8) rfl ?_
    show Steps p.tables e below (T1.setTop (mkF m 9 #[.val (.ref t), .val (.long key), .second, .val (.int (Int32.ofNat P)), .unset, .unset] [(.long key)])) _
    refine XS.l2i X1.here hx rfl (hb hby d13_9) rfl ?_
    show Steps p.tables e below (T1.setTop (mkF m 10 #[.val (.ref t), .val (.long key), .second, .val (.int (Int32.ofNat P)), .unset, .unset] [(.int (key.toInt32))])) _
    refine XS.aloadN X1.here hx rfl (hb hby d13_10) rfl rfl ?_
    show Steps p.tables e below (T1.setTop (mkF m 11 #[.val (.ref t), .val (.long key), .second, .val (.int (Int32.ofNat P)), .unset, .unset] [(.ref t), (.int (key.toInt32))])) _
    refine st2 _ ?_
    show Steps p.tables e below (T2.setTop (mkF m 14 #[.val (.ref t), .val (.long key), .second, .val (.int (Int32.ofNat P)), .unset, .unset] [(.int (Int32.ofNat (2 ^ S))), (.int (key.toInt32))])) _
    refine XS.iconst X2.here hx rfl (hb hby d13_14) ?_
    show Steps p.tables e below (T2.setTop (mkF m 15 #[.val (.ref t), .val (.long key), .second, .val (.int (Int32.ofNat P)), .unset, .unset] [(.int (1 : Int32)), (.int (Int32.ofNat (2 ^ S))), (.int (key.toInt32))])) _
    refine XS.isub X2.here hx rfl (hb hby d13_15) rfl ?_
    show Steps p.tables e below (T2.setTop (mkF m 16 #[.val (.ref t), .val (.long key), .second, .val (.int (Int32.ofNat P)), .unset, .unset] [(.int ((Int32.ofNat (2 ^ S)) - (1 : Int32))), (.int (key.toInt32))])) _
    refine XS.iand X2.here hx rfl (hb hby d13_16) rfl ?_
    show Steps p.tables e below (T2.setTop (mkF m 17 #[.val (.ref t), .val (.long key), .second, .val (.int (Int32.ofNat P)), .unset, .unset] [(.int ((key.toInt32) &&& ((Int32.ofNat (2 ^ S)) - (1 : Int32))))])) _
    rw [(own_ixI key X S Ix hX hX2 hS hI)]
    show Steps p.tables e below (T2.setTop (mkF m 17 #[.val (.ref t), .val (.long key), .second, .val (.int (Int32.ofNat P)), .unset, .unset] [(.int (Int32.ofNat Ix))])) _
    refine XS.istore X2.here hx rfl (hb hby d13_17) rfl (l' := #[.val (.ref t), .val (.long key), .second, .val (.int (Int32.ofNat P)), .val (.int (Int32.ofNat Ix)), .unset]) rfl ?_
    show Steps p.tables e below (T2.setTop (mkF m 19 #[.val (.ref t), .val (.long key), .second, .val (.int (Int32.ofNat P)), .val (.int (Int32.ofNat Ix)), .unset] [])) _
    refine XS.aloadN X2.here hx rfl (hb hby d13_19) rfl rfl ?_
    show Steps p.tables e below (T2.setTop (mkF m 20 #[.val (.ref t), .val (.long key), .second, .val (.int (Int32.ofNat P)), .val (.int (Int32.ofNat Ix)), .unset] [(.ref t)])) _
    refine st3 _ ?_
    show Steps p.tables e below (T3.setTop (mkF m 23 #[.val (.ref t), .val (.long key), .second, .val (.int (Int32.ofNat P)), .val (.int (Int32.ofNat Ix)), .unset] [(.int (0 : Int32))])) _
    refine XS.ifYes X3.here hx rfl (pc0 := 23) (pc' := 53) rfl (hb hby d13_23) rfl ((if0 _ _).trans (teq hd4).1) (by decide) (by decide) ?_
    show Steps p.tables e below (T3.setTop (mkF m 53 #[.val (.ref t), .val (.long key), .second, .val (.int (Int32.ofNat P)), .val (.int (Int32.ofNat Ix)), .unset] [])) _
    refine XS.aloadN X3.here hx rfl (hb hby d13_53) rfl rfl ?_
    show Steps p.tables e below (T3.setTop (mkF m 54 #[.val (.ref t), .val (.long key), .second, .val (.int (Int32.ofNat P)), .val (.int (Int32.ofNat Ix)), .unset] [(.ref t)])) _
    refine st5 _ ?_
    show Steps p.tables e below (T5.setTop (mkF m 57 #[.val (.ref t), .val (.long key), .second, .val (.int (Int32.ofNat P)), .val (.int (Int32.ofNat Ix)), .unset] [(.ref D)])) _
    refine XS.iloadN X5.here hx rfl (hb hby d13_57) rfl ?_
    show Steps p.tables e below (T5.setTop (mkF m 58 #[.val (.ref t), .val (.long key), .second, .val (.int (Int32.ofNat P)), .val (.int (Int32.ofNat Ix)), .unset] [(.int (Int32.ofNat P)), (.ref D)])) _
    refine X5.aaload hx (j := (Int32.ofNat P)) (v := (.ref pa)) (by rw [e5]; exact Ar58_6.1) (State.isArrayOf_alike hZ.alike Ar58_6.2.1) rfl Ar58_6.2.2 hin58_6 hat58_6 (g := (mkF m 58 #[.val (.ref t), .val (.long key), .second, .val (.int (Int32.ofNat P)), .val (.int (Int32.ofNat Ix)), .unset] [(.int (Int32.ofNat P)), (.ref D)])) rfl rfl (hb hby d13_58) _ ?_
    show Steps p.tables e below (T5.setTop (mkF m 59 #[.val (.ref t), .val (.long key), .second, .val (.int (Int32.ofNat P)), .val (.int (Int32.ofNat Ix)), .unset] [(.ref pa)])) _
    refine XS.astore X5.here hx rfl (hb hby d13_59) rfl rfl (l' := #[.val (.ref t), .val (.long key), .second, .val (.int (Int32.ofNat P)), .val (.int (Int32.ofNat Ix)), .val (.ref pa)]) rfl ?_
    show Steps p.tables e below (T5.setTop (mkF m 61 #[.val (.ref t), .val (.long key), .second, .val (.int (Int32.ofNat P)), .val (.int (Int32.ofNat Ix)), .val (.ref pa)] [])) _
    refine XS.aload X5.here hx rfl (hb hby d13_61) rfl rfl ?_
    show Steps p.tables e below (T5.setTop (mkF m 63 #[.val (.ref t), .val (.long key), .second, .val (.int (Int32.ofNat P)), .val (.int (Int32.ofNat Ix)), .val (.ref pa)] [(.ref pa)])) _
    refine XS.ifnullNo X5.here hx rfl (hb hby d13_63) rfl ?_
    show Steps p.tables e below (T5.setTop (mkF m 66 #[.val (.ref t), .val (.long key), .second, .val (.int (Int32.ofNat P)), .val (.int (Int32.ofNat Ix)), .val (.ref pa)] [])) _
    refine XS.aload X5.here hx rfl (hb hby d13_66) rfl rfl ?_
    show Steps p.tables e below (T5.setTop (mkF m 68 #[.val (.ref t), .val (.long key), .second, .val (.int (Int32.ofNat P)), .val (.int (Int32.ofNat Ix)), .val (.ref pa)] [(.ref pa)])) _
    refine XS.iload X5.here hx rfl (hb hby d13_68) rfl ?_
    show Steps p.tables e below (T5.setTop (mkF m 70 #[.val (.ref t), .val (.long key), .second, .val (.int (Int32.ofNat P)), .val (.int (Int32.ofNat Ix)), .val (.ref pa)] [(.int (Int32.ofNat Ix)), (.ref pa)])) _
    refine XS.bipush X5.here hx rfl (hb hby d13_70) ?_
    show Steps p.tables e below (T5.setTop (mkF m 72 #[.val (.ref t), .val (.long key), .second, .val (.int (Int32.ofNat P)), .val (.int (Int32.ofNat Ix)), .val (.ref pa)] [(.int (6 : Int32)), (.int (Int32.ofNat Ix)), (.ref pa)])) _
    refine XS.iushr X5.here hx rfl (hb hby d13_72) rfl ?_
    show Steps p.tables e below (T5.setTop (mkF m 73 #[.val (.ref t), .val (.long key), .second, .val (.int (Int32.ofNat P)), .val (.int (Int32.ofNat Ix)), .val (.ref pa)] [(.int (((Int32.ofNat Ix).toUInt32 >>> ((6 : Int32) &&& 31).toUInt32).toInt32)), (.ref pa)])) _
    rw [(own_ixw Ix (Nat.lt_of_lt_of_le hIl h2S))]
    show Steps p.tables e below (T5.setTop (mkF m 73 #[.val (.ref t), .val (.long key), .second, .val (.int (Int32.ofNat P)), .val (.int (Int32.ofNat Ix)), .val (.ref pa)] [(.int (Int32.ofNat (Ix / 64))), (.ref pa)])) _
    refine X5.laload hx (j := (Int32.ofNat (Ix / 64))) (v := (.long wx)) (by rw [e5]; exact Ar73_7.1) (State.isArrayOf_alike hZ.alike Ar73_7.2.1) Ar73_7.2.2 hin73_7 hat73_7 (g := (mkF m 73 #[.val (.ref t), .val (.long key), .second, .val (.int (Int32.ofNat P)), .val (.int (Int32.ofNat Ix)), .val (.ref pa)] [(.int (Int32.ofNat (Ix / 64))), (.ref pa)])) rfl rfl (hb hby d13_73) _ ?_
    show Steps p.tables e below (T5.setTop (mkF m 74 #[.val (.ref t), .val (.long key), .second, .val (.int (Int32.ofNat P)), .val (.int (Int32.ofNat Ix)), .val (.ref pa)] [(.long wx)])) _
    refine XS.lconst X5.here hx rfl (hb hby d13_74) ?_
    show Steps p.tables e below (T5.setTop (mkF m 75 #[.val (.ref t), .val (.long key), .second, .val (.int (Int32.ofNat P)), .val (.int (Int32.ofNat Ix)), .val (.ref pa)] [(.long (1 : Int64)), (.long wx)])) _
    refine XS.iload X5.here hx rfl (hb hby d13_75) rfl ?_
    show Steps p.tables e below (T5.setTop (mkF m 77 #[.val (.ref t), .val (.long key), .second, .val (.int (Int32.ofNat P)), .val (.int (Int32.ofNat Ix)), .val (.ref pa)] [(.int (Int32.ofNat Ix)), (.long (1 : Int64)), (.long wx)])) _
    refine XS.lshl X5.here hx rfl (hb hby d13_77) rfl ?_
    show Steps p.tables e below (T5.setTop (mkF m 78 #[.val (.ref t), .val (.long key), .second, .val (.int (Int32.ofNat P)), .val (.int (Int32.ofNat Ix)), .val (.ref pa)] [(.long ((1 : Int64) <<< ((Int32.ofNat Ix) &&& 0x3f).toInt64)), (.long wx)])) _
    refine XS.land X5.here hx rfl (hb hby d13_78) rfl ?_
    show Steps p.tables e below (T5.setTop (mkF m 79 #[.val (.ref t), .val (.long key), .second, .val (.int (Int32.ofNat P)), .val (.int (Int32.ofNat Ix)), .val (.ref pa)] [(.long (wx &&& ((1 : Int64) <<< ((Int32.ofNat Ix) &&& 0x3f).toInt64)))])) _
    refine XS.lconst X5.here hx rfl (hb hby d13_79) ?_
    show Steps p.tables e below (T5.setTop (mkF m 80 #[.val (.ref t), .val (.long key), .second, .val (.int (Int32.ofNat P)), .val (.int (Int32.ofNat Ix)), .val (.ref pa)] [(.long (0 : Int64)), (.long (wx &&& ((1 : Int64) <<< ((Int32.ofNat Ix) &&& 0x3f).toInt64)))])) _
    refine XS.lcmp X5.here hx rfl (hb hby d13_80) rfl ?_
    show Steps p.tables e below (T5.setTop (mkF m 81 #[.val (.ref t), .val (.long key), .second, .val (.int (Int32.ofNat P)), .val (.int (Int32.ofNat Ix)), .val (.ref pa)] [(.int (lcmpW (wx &&& ((1 : Int64) <<< ((Int32.ofNat Ix) &&& 0x3f).toInt64)) (0 : Int64)))])) _
    exact kt
  have k12 : ∀ tg, Steps p.tables e below (T5.setTop (mkF m 89 #[.val (.ref t), .val (.long key), .second, .val (.int (Int32.ofNat P)), .val (.int (Int32.ofNat Ix)), .val (.ref pa)] [(.int (if (wx &&& ((1 : Int64) <<< ((Int32.ofNat Ix) &&& 0x3f).toInt64)) = (0 : Int64) then (0 : Int32) else (1 : Int32)))])) tg → Steps p.tables e below (s₁.setTop (entryFrame m #[(.ref t), (.long key)] 6)) tg := by
    intro tg kt
    refine k8 tg ?_
    show Steps p.tables e below (T5.setTop (mkF m 81 #[.val (.ref t), .val (.long key), .second, .val (.int (Int32.ofNat P)), .val (.int (Int32.ofNat Ix)), .val (.ref pa)] [(.int (lcmpW (wx &&& ((1 : Int64) <<< ((Int32.ofNat Ix) &&& 0x3f).toInt64)) (0 : Int64)))])) _
    by_cases hc9 : (wx &&& ((1 : Int64) <<< ((Int32.ofNat Ix) &&& 0x3f).toInt64)) = (0 : Int64)
    · refine XS.ifYes X5.here hx rfl (pc0 := 81) (pc' := 88) rfl (hb hby d13_81) rfl ((if0 _ _).trans (teq ((lw_eq _ _).mpr hc9)).1) (by decide) (by decide) ?_
      show Steps p.tables e below (T5.setTop (mkF m 88 #[.val (.ref t), .val (.long key), .second, .val (.int (Int32.ofNat P)), .val (.int (Int32.ofNat Ix)), .val (.ref pa)] [])) _
      refine XS.iconst X5.here hx rfl (hb hby d13_88) ?_
      show Steps p.tables e below (T5.setTop (mkF m 89 #[.val (.ref t), .val (.long key), .second, .val (.int (Int32.ofNat P)), .val (.int (Int32.ofNat Ix)), .val (.ref pa)] [(.int (0 : Int32))])) _
      repeat rw [if_pos hc9] at kt
      exact kt
    · refine XS.ifNo X5.here hx rfl (hb hby d13_81) rfl ((if0 _ _).trans (feq (fun q => hc9 ((lw_eq _ _).mp q))).1) ?_
      show Steps p.tables e below (T5.setTop (mkF m 84 #[.val (.ref t), .val (.long key), .second, .val (.int (Int32.ofNat P)), .val (.int (Int32.ofNat Ix)), .val (.ref pa)] [])) _
      refine XS.iconst X5.here hx rfl (hb hby d13_84) ?_
      show Steps p.tables e below (T5.setTop (mkF m 85 #[.val (.ref t), .val (.long key), .second, .val (.int (Int32.ofNat P)), .val (.int (Int32.ofNat Ix)), .val (.ref pa)] [(.int (1 : Int32))])) _
      refine XS.goto X5.here hx rfl (pc0 := 85) (pc' := 89) rfl (hb hby d13_85) (by decide) (by decide) ?_
      show Steps p.tables e below (T5.setTop (mkF m 89 #[.val (.ref t), .val (.long key), .second, .val (.int (Int32.ofNat P)), .val (.int (Int32.ofNat Ix)), .val (.ref pa)] [(.int (1 : Int32))])) _
      repeat rw [if_neg hc9] at kt
      exact kt
  obtain ⟨z13, ez13⟩ : ∃ z : Int32, z = (if (wx &&& ((1 : Int64) <<< ((Int32.ofNat Ix) &&& 0x3f).toInt64)) = (0 : Int64) then (0 : Int32) else (1 : Int32)) := ⟨_, rfl⟩
  have k14 : ∀ tg, Steps p.tables e below (T5.setTop (mkF m 89 #[.val (.ref t), .val (.long key), .second, .val (.int (Int32.ofNat P)), .val (.int (Int32.ofNat Ix)), .val (.ref pa)] [(.int z13)])) tg → Steps p.tables e below (s₁.setTop (entryFrame m #[(.ref t), (.long key)] 6)) tg := by
    intro tg kt
    refine k12 tg ?_
    show Steps p.tables e below (T5.setTop (mkF m 89 #[.val (.ref t), .val (.long key), .second, .val (.int (Int32.ofNat P)), .val (.int (Int32.ofNat Ix)), .val (.ref pa)] [(.int (if (wx &&& ((1 : Int64) <<< ((Int32.ofNat Ix) &&& 0x3f).toInt64)) = (0 : Int64) then (0 : Int32) else (1 : Int32)))])) _
    rw [← ez13]
    show Steps p.tables e below (T5.setTop (mkF m 89 #[.val (.ref t), .val (.long key), .second, .val (.int (Int32.ofNat P)), .val (.int (Int32.ofNat Ix)), .val (.ref pa)] [(.int z13)])) _
    exact kt
  obtain ⟨fs, hr, hrun, hended, hW, hsame⟩ := X5.leave (v := some (.int z13)) (fun h => by rw [Bd.returns] at h; cases h)
  refine ⟨_, _, k14 _ ?_, hrun, hended, _, _, rfl, ?_, ⟨_, rfl⟩, hW, hsame.mono (by decide) (by decide)⟩
  · exact retN X5 hx (t := .boolean) Bd.returns (by simp) (hb hby d13_89) (by rw [show nar .boolean z13 = z13 from (by rw [ez13]; (repeat' split) <;> decide)]; exact hr)
  · show QV _ h0 n0 _ T5.heap _
    exact ⟨congrArg (fun z => some (Value.int z)) (ez13), N0, e5⟩
theorem ef_rmHoldsbw (m : MethodId) (t : Addr) (key : Int64) : entryFrame m #[(.ref t), (.long key)] 6 = mkF m 0 #[.val (.ref t), .val (.long key), .second, .unset, .unset, .unset] [] := by first | (simp [entryFrame, mkF, argsToLocals, Value.category]; done) | rfl
set_option maxRecDepth 65536 in
set_option maxHeartbeats 40000000 in
theorem rmHoldsbw (l : Launch) (Z : State) (a0 : Array Value) (hw : ∀ d ∈ tables_1, d.before a0 Z = true) (ws : List Jvm.Cond) (t : Addr) (key : Int64) (S np P Ix X : Nat) (md : Nat → Bool) (g : Nat → Nat → Value) (cnt : Int32) (wx : Int64) (h0 : Heap) (n0 : Nat) (hS : S ≤ 15) (hX : key.toInt = X) (hX2 : X < 2 ^ 30) (hP : P = X / 2 ^ S) (hI : Ix = X % 2 ^ S) (hPn : P < np) (hn31 : np < 2 ^ 31) (HK : KT Z h0 n0 t (0 : Int32) "bits" "[[J" .long "[J" S np (max 1 (2 ^ S / 64)) (.long (0 : Int64)) md g cnt) (hgx : g P (Ix / 64) = .long wx) (hm : md P = false) :
    MetFree l (⟨"com/example/parley/parley/core/KeyTable", "holds", "(J)Z"⟩ : MethodName) (head1 (Jvm.Cond.code (⟨"com/example/parley/parley/core/KeyTable", "holds", "(J)Z"⟩ : MethodName) prog_121_method_7_code 6 (some .boolean) :: ws) ({ frames := 0, cells := 0, slots := 0, locals := 0 } : Room)) (fun a_ U_ => a_ = #[(.ref t), (.long key)] ∧ Z.Warmed39 U_.vm ∧ U_.heap = h0) (fun _ _ _ _ _ => True) (fun _ U_ o_ U'_ => ∃ v_ L_, o_ = .returned v_ ∧ QV (.int (if (wx &&& ((1 : Int64) <<< ((Int32.ofNat Ix) &&& 0x3f).toInt64)) = (0 : Int64) then (0 : Int32) else (1 : Int32))) h0 n0 v_ U'_.heap L_ ∧ FrameEnd U_ o_ U'_ L_ ({ frames := 0, cells := 0, slots := 0, locals := 0 } : Room).cells ({ frames := 0, cells := 0, slots := 0, locals := 0 } : Room).slots) := by
  refine MetFree.of_bodySF (plainFor_of_name pn_13) hisR ?_
  intro p e s m args below meth c s₁ Bd hml0 hP hK
  obtain ⟨rfl, hZ, hh⟩ := hP
  have hx := Bd.exec
  have hby := Bd.bytes
  have hml : c.maxLocals = 6 := hml0
  have hown : s.vm.findClass "com/example/parley/parley/core/KeyTable" = some m.cls := findClass_of_methodNamed Bd.named
  have hnm := (name_of_methodNamed Bd.named Bd.method).1
  have X0 : Stand p l e ({ frames := 0, cells := 0, slots := 0, locals := 0 } : Room) s m #[(.ref t), (.long key)] below meth c s₁ [] 0 0 := Stand.of_body Bd
  have e0 : s₁.heap = h0 := by rw [← hh, Bd.state]; rfl
  have N0 := Fr.nil n0
  have k0 : ∀ tg, Steps p.tables e below (s₁.setTop (mkF m 0 #[.val (.ref t), .val (.long key), .second, .unset, .unset, .unset] [])) tg → Steps p.tables e below (s₁.setTop (entryFrame m #[(.ref t), (.long key)] 6)) tg := fun tg kq_ => castTop (ef_rmHoldsbw m t key) kq_
  obtain ⟨E_t, F_numbered, F_pageShift, F_pageKeys, F_pageWords, F_madePages, g_t, D, kD, dir, F_dir, V_D, OD, g_D, ne_t_D, hmd, hpg, hinj, hun⟩ := HK
  have hP31 : P < 2 ^ 31 := Nat.lt_trans hPn hn31
  have h2S : 2 ^ S ≤ 2 ^ 15 := Nat.pow_le_pow_right (by decide) hS
  have hIl : Ix < 2 ^ S := by rw [hI]; exact Nat.mod_lt _ (Nat.pow_pos (by decide))
  have hI31 : Ix < 2 ^ 31 := by omega
  have hWl : Ix / 64 < max 1 (2 ^ S / 64) := own_wix Ix S hIl
  have hW31 : Ix / 64 < 2 ^ 31 := by omega
  have hpl1 : 2 ^ S < 2 ^ 31 := by omega
  have hpl2 : max 1 (2 ^ S / 64) < 2 ^ 31 := by omega
  have hpl3 : max 1 (2 ^ S / 64) ≤ 512 := by omega
  have ha : dir P = none := by have q := hmd P; rw [hm] at q; exact Option.not_isSome_iff_eq_none.mp (by rw [q]; exact Bool.false_ne_true)
  have hx0 : wx = 0 := by have q := hun P (Ix / 64) hm; rw [hgx] at q; exact Value.long.inj q
  obtain ⟨T1, X1, e1, st1⟩ := getF X0 hx hZ hown (host := "") (Or.inl (hw _ (List.mem_of_getElem? (i := 36) rfl))) Via.refl e0 F_pageShift (g := (mkF m 2 #[.val (.ref t), .val (.long key), .second, .unset, .unset, .unset] [(.ref t), (.long key)])) rfl rfl (hb hby d13_2)
  obtain ⟨T2, X2, e2, st2⟩ := getF X1 hx hZ hown (host := "") (Or.inl (hw _ (List.mem_of_getElem? (i := 38) rfl))) Via.refl e1 F_pageKeys (g := (mkF m 11 #[.val (.ref t), .val (.long key), .second, .val (.int (Int32.ofNat P)), .unset, .unset] [(.ref t), (.int (key.toInt32))])) rfl rfl (hb hby d13_11)
  obtain ⟨T3, X3, e3, st3⟩ := getF X2 hx hZ hown (host := "") (Or.inl (hw _ (List.mem_of_getElem? (i := 14) rfl))) Via.refl e2 F_numbered (g := (mkF m 20 #[.val (.ref t), .val (.long key), .second, .val (.int (Int32.ofNat P)), .val (.int (Int32.ofNat Ix)), .unset] [(.ref t)])) rfl rfl (hb hby d13_20)
  have hd4 : (0 : Int32) = (0 : Int32) := rfl
  obtain ⟨T5, X5, e5, st5⟩ := getF X3 hx hZ hown (host := "") (Or.inl (hw _ (List.mem_of_getElem? (i := 53) rfl))) Via.refl e3 F_dir (g := (mkF m 54 #[.val (.ref t), .val (.long key), .second, .val (.int (Int32.ofNat P)), .val (.int (Int32.ofNat Ix)), .unset] [(.ref t)])) rfl rfl (hb hby d13_54)
  obtain ⟨cl58_6, Ar58_6, q58_6, S58_6, H58_6⟩ := id V_D
  have hin58_6 : ¬ ((Int32.ofNat P) < 0 ∨ cl58_6.slots.size ≤ ((Int32.ofNat P)).toNatClampNeg) := own_inb S58_6 (own_nn _ hP31) (by rw [own_clamp _ hP31]; exact hPn)
  have hat58_6 : cl58_6.slots[((Int32.ofNat P)).toNatClampNeg]? = some .null := by rw [own_clamp _ hP31]; exact (H58_6 _ hPn).trans (congrArg some (by show dirV (dir P) = _; rw [ha]; rfl))
  have k7 : ∀ tg, Steps p.tables e below (T5.setTop (mkF m 89 #[.val (.ref t), .val (.long key), .second, .val (.int (Int32.ofNat P)), .val (.int (Int32.ofNat Ix)), .val .null] [(.int (0 : Int32))])) tg → Steps p.tables e below (s₁.setTop (entryFrame m #[(.ref t), (.long key)] 6)) tg := by
    intro tg kt
    refine k0 tg ?_
    show Steps p.tables e below (s₁.setTop (mkF m 0 #[.val (.ref t), .val (.long key), .second, .unset, .unset, .unset] [])) _
    refine XS.lloadN X0.here hx rfl (hb hby d13_0) rfl ?_
    show Steps p.tables e below (s₁.setTop (mkF m 1 #[.val (.ref t), .val (.long key), .second, .unset, .unset, .unset] [(.long key)])) _
    refine XS.aloadN X0.here hx rfl (hb hby d13_1) rfl rfl ?_
    show Steps p.tables e below (s₁.setTop (mkF m 2 #[.val (.ref t), .val (.long key), .second, .unset, .unset, .unset] [(.ref t), (.long key)])) _
    refine st1 _ ?_
    show Steps p.tables e below (T1.setTop (mkF m 5 #[.val (.ref t), .val (.long key), .second, .unset, .unset, .unset] [(.int (Int32.ofNat S)), (.long key)])) _
    refine XS.lushr X1.here hx rfl (hb hby d13_5) rfl ?_
    show Steps p.tables e below (T1.setTop (mkF m 6 #[.val (.ref t), .val (.long key), .second, .unset, .unset, .unset] [(.long ((key.toUInt64 >>> ((Int32.ofNat S) &&& 0x3f).toInt64.toUInt64).toInt64))])) _
    refine XS.l2i X1.here hx rfl (hb hby d13_6) rfl ?_
    show Steps p.tables e below (T1.setTop (mkF m 7 #[.val (.ref t), .val (.long key), .second, .unset, .unset, .unset] [(.int (((key.toUInt64 >>> ((Int32.ofNat S) &&& 0x3f).toInt64.toUInt64).toInt64).toInt32))])) _
    rw [(own_pageI key X S P hX hX2 hS hP)]
    show Steps p.tables e below (T1.setTop (mkF m 7 #[.val (.ref t), .val (.long key), .second, .unset, .unset, .unset] [(.int (Int32.ofNat P))])) _
    refine XS.istoreN X1.here hx rfl (hb hby d13_7) rfl (l' := #[.val (.ref t), .val (.long key), .second, .val (.int (Int32.ofNat P)), .unset, .unset]) rfl ?_
    show Steps p.tables e below (T1.setTop (mkF m 8 #[.val (.ref t), .val (.long key), .second, .val (.int (Int32.ofNat P)), .unset, .unset] [])) _
    refine XS.lloadN X1.here hx rfl (hb hby d13_8) rfl ?_
    show Steps p.tables e below (T1.setTop (mkF m 9 #[.val (.ref t), .val (.long key), .second, .val (.int (Int32.ofNat P)), .unset, .unset] [(.long key)])) _
    refine XS.l2i X1.here hx rfl (hb hby d13_9) rfl ?_
    show Steps p.tables e below (T1.setTop (mkF m 10 #[.val (.ref t), .val (.long key), .second, .val (.int (Int32.ofNat P)), .unset, .unset] [(.int (key.toInt32))])) _
    refine XS.aloadN X1.here hx rfl (hb hby d13_10) rfl rfl ?_
    show Steps p.tables e below (T1.setTop (mkF m 11 #[.val (.ref t), .val (.long key), .second, .val (.int (Int32.ofNat P)), .unset, .unset] [(.ref t), (.int (key.toInt32))])) _
    refine st2 _ ?_
    show Steps p.tables e below (T2.setTop (mkF m 14 #[.val (.ref t), .val (.long key), .second, .val (.int (Int32.ofNat P)), .unset, .unset] [(.int (Int32.ofNat (2 ^ S))), (.int (key.toInt32))])) _
    refine XS.iconst X2.here hx rfl (hb hby d13_14) ?_
    show Steps p.tables e below (T2.setTop (mkF m 15 #[.val (.ref t), .val (.long key), .second, .val (.int (Int32.ofNat P)), .unset, .unset] [(.int (1 : Int32)), (.int (Int32.ofNat (2 ^ S))), (.int (key.toInt32))])) _
    refine XS.isub X2.here hx rfl (hb hby d13_15) rfl ?_
    show Steps p.tables e below (T2.setTop (mkF m 16 #[.val (.ref t), .val (.long key), .second, .val (.int (Int32.ofNat P)), .unset, .unset] [(.int ((Int32.ofNat (2 ^ S)) - (1 : Int32))), (.int (key.toInt32))])) _
    refine XS.iand X2.here hx rfl (hb hby d13_16) rfl ?_
    show Steps p.tables e below (T2.setTop (mkF m 17 #[.val (.ref t), .val (.long key), .second, .val (.int (Int32.ofNat P)), .unset, .unset] [(.int ((key.toInt32) &&& ((Int32.ofNat (2 ^ S)) - (1 : Int32))))])) _
    rw [(own_ixI key X S Ix hX hX2 hS hI)]
    show Steps p.tables e below (T2.setTop (mkF m 17 #[.val (.ref t), .val (.long key), .second, .val (.int (Int32.ofNat P)), .unset, .unset] [(.int (Int32.ofNat Ix))])) _
    refine XS.istore X2.here hx rfl (hb hby d13_17) rfl (l' := #[.val (.ref t), .val (.long key), .second, .val (.int (Int32.ofNat P)), .val (.int (Int32.ofNat Ix)), .unset]) rfl ?_
    show Steps p.tables e below (T2.setTop (mkF m 19 #[.val (.ref t), .val (.long key), .second, .val (.int (Int32.ofNat P)), .val (.int (Int32.ofNat Ix)), .unset] [])) _
    refine XS.aloadN X2.here hx rfl (hb hby d13_19) rfl rfl ?_
    show Steps p.tables e below (T2.setTop (mkF m 20 #[.val (.ref t), .val (.long key), .second, .val (.int (Int32.ofNat P)), .val (.int (Int32.ofNat Ix)), .unset] [(.ref t)])) _
    refine st3 _ ?_
    show Steps p.tables e below (T3.setTop (mkF m 23 #[.val (.ref t), .val (.long key), .second, .val (.int (Int32.ofNat P)), .val (.int (Int32.ofNat Ix)), .unset] [(.int (0 : Int32))])) _
    refine XS.ifYes X3.here hx rfl (pc0 := 23) (pc' := 53) rfl (hb hby d13_23) rfl ((if0 _ _).trans (teq hd4).1) (by decide) (by decide) ?_
    show Steps p.tables e below (T3.setTop (mkF m 53 #[.val (.ref t), .val (.long key), .second, .val (.int (Int32.ofNat P)), .val (.int (Int32.ofNat Ix)), .unset] [])) _
    refine XS.aloadN X3.here hx rfl (hb hby d13_53) rfl rfl ?_
    show Steps p.tables e below (T3.setTop (mkF m 54 #[.val (.ref t), .val (.long key), .second, .val (.int (Int32.ofNat P)), .val (.int (Int32.ofNat Ix)), .unset] [(.ref t)])) _
    refine st5 _ ?_
    show Steps p.tables e below (T5.setTop (mkF m 57 #[.val (.ref t), .val (.long key), .second, .val (.int (Int32.ofNat P)), .val (.int (Int32.ofNat Ix)), .unset] [(.ref D)])) _
    refine XS.iloadN X5.here hx rfl (hb hby d13_57) rfl ?_
    show Steps p.tables e below (T5.setTop (mkF m 58 #[.val (.ref t), .val (.long key), .second, .val (.int (Int32.ofNat P)), .val (.int (Int32.ofNat Ix)), .unset] [(.int (Int32.ofNat P)), (.ref D)])) _
    refine X5.aaload hx (j := (Int32.ofNat P)) (v := .null) (by rw [e5]; exact Ar58_6.1) (State.isArrayOf_alike hZ.alike Ar58_6.2.1) rfl Ar58_6.2.2 hin58_6 hat58_6 (g := (mkF m 58 #[.val (.ref t), .val (.long key), .second, .val (.int (Int32.ofNat P)), .val (.int (Int32.ofNat Ix)), .unset] [(.int (Int32.ofNat P)), (.ref D)])) rfl rfl (hb hby d13_58) _ ?_
    show Steps p.tables e below (T5.setTop (mkF m 59 #[.val (.ref t), .val (.long key), .second, .val (.int (Int32.ofNat P)), .val (.int (Int32.ofNat Ix)), .unset] [.null])) _
    refine XS.astore X5.here hx rfl (hb hby d13_59) rfl rfl (l' := #[.val (.ref t), .val (.long key), .second, .val (.int (Int32.ofNat P)), .val (.int (Int32.ofNat Ix)), .val .null]) rfl ?_
    show Steps p.tables e below (T5.setTop (mkF m 61 #[.val (.ref t), .val (.long key), .second, .val (.int (Int32.ofNat P)), .val (.int (Int32.ofNat Ix)), .val .null] [])) _
    refine XS.aload X5.here hx rfl (hb hby d13_61) rfl rfl ?_
    show Steps p.tables e below (T5.setTop (mkF m 63 #[.val (.ref t), .val (.long key), .second, .val (.int (Int32.ofNat P)), .val (.int (Int32.ofNat Ix)), .val .null] [.null])) _
    refine XS.ifnullYes X5.here hx rfl (pc0 := 63) (pc' := 88) rfl (hb hby d13_63) rfl (by decide) (by decide) ?_
    show Steps p.tables e below (T5.setTop (mkF m 88 #[.val (.ref t), .val (.long key), .second, .val (.int (Int32.ofNat P)), .val (.int (Int32.ofNat Ix)), .val .null] [])) _
    refine XS.iconst X5.here hx rfl (hb hby d13_88) ?_
    show Steps p.tables e below (T5.setTop (mkF m 89 #[.val (.ref t), .val (.long key), .second, .val (.int (Int32.ofNat P)), .val (.int (Int32.ofNat Ix)), .val .null] [(.int (0 : Int32))])) _
    exact kt
  obtain ⟨fs, hr, hrun, hended, hW, hsame⟩ := X5.leave (v := some (.int (0 : Int32))) (fun h => by rw [Bd.returns] at h; cases h)
  refine ⟨_, _, k7 _ ?_, hrun, hended, _, _, rfl, ?_, ⟨_, rfl⟩, hW, hsame.mono (by decide) (by decide)⟩
  · exact retN X5 hx (t := .boolean) Bd.returns (by simp) (hb hby d13_89) hr
  · show QV _ h0 n0 _ T5.heap _
    exact ⟨congrArg (fun z => some (Value.int z)) ((if_pos (by rw [hx0]; exact Int64.zero_and)).symm), N0, e5⟩
theorem rmHoldsb (l : Launch) (Z : State) (a0 : Array Value) (hw : ∀ d ∈ tables_1, d.before a0 Z = true) (ws : List Jvm.Cond) (t : Addr) (key : Int64) (S np P Ix X : Nat) (md : Nat → Bool) (g : Nat → Nat → Value) (cnt : Int32) (wx : Int64) (h0 : Heap) (n0 : Nat) (hS : S ≤ 15) (hX : key.toInt = X) (hX2 : X < 2 ^ 30) (hP : P = X / 2 ^ S) (hI : Ix = X % 2 ^ S) (hPn : P < np) (hn31 : np < 2 ^ 31) (HK : KT Z h0 n0 t (0 : Int32) "bits" "[[J" .long "[J" S np (max 1 (2 ^ S / 64)) (.long (0 : Int64)) md g cnt) (hgx : g P (Ix / 64) = .long wx) :
    MetFree l (⟨"com/example/parley/parley/core/KeyTable", "holds", "(J)Z"⟩ : MethodName) (head1 (Jvm.Cond.code (⟨"com/example/parley/parley/core/KeyTable", "holds", "(J)Z"⟩ : MethodName) prog_121_method_7_code 6 (some .boolean) :: ws) ({ frames := 0, cells := 0, slots := 0, locals := 0 } : Room)) (fun a_ U_ => a_ = #[(.ref t), (.long key)] ∧ Z.Warmed39 U_.vm ∧ U_.heap = h0) (fun _ _ _ _ _ => True) (fun _ U_ o_ U'_ => ∃ v_ L_, o_ = .returned v_ ∧ QV (.int (if (wx &&& ((1 : Int64) <<< ((Int32.ofNat Ix) &&& 0x3f).toInt64)) = (0 : Int64) then (0 : Int32) else (1 : Int32))) h0 n0 v_ U'_.heap L_ ∧ FrameEnd U_ o_ U'_ L_ ({ frames := 0, cells := 0, slots := 0, locals := 0 } : Room).cells ({ frames := 0, cells := 0, slots := 0, locals := 0 } : Room).slots) := by
  by_cases hm : md P = true
  · exact rmHoldsbo l Z a0 hw ws t key S np P Ix X md g cnt wx h0 n0 hS hX hX2 hP hI hPn hn31 HK hgx hm
  · exact rmHoldsbw l Z a0 hw ws t key S np P Ix X md g cnt wx h0 n0 hS hX hX2 hP hI hPn hn31 HK hgx (by simpa using hm)
theorem own_mbit (I : Nat) (hI : I < 2 ^ 15) (j : Nat) (hj : j < 64) : ((1 : Int64) <<< ((Int32.ofNat I) &&& 0x3f).toInt64).toBitVec.getLsbD j = decide (j = I % 64) := by
  obtain ⟨h1, h2⟩ := sm64 (Int32.ofNat I) (I % 64) (by rw [own_ofnatB I (by omega)])
  rw [Int64.toBitVec_shiftLeft, h1]
  have h3 := smod64 (I % 64) h2
  show (Int64.toBitVec 1 <<< ((BitVec.ofNat 64 (I % 64)).smod 64).toNat).getLsbD j = _
  rw [h3]
  have h4 : Int64.toBitVec 1 = 1#64 := rfl
  rw [h4, BitVec.getLsbD_shiftLeft, BitVec.getLsbD_one]
  by_cases c : j < I % 64
  · have : ¬ j = I % 64 := by omega
    simp [c, this]
  · by_cases d : j = I % 64
    · subst d; simp [hj]
    · have : ¬ j - I % 64 = 0 := by omega
      simp [c, d, this]
theorem own_mz (w : Int64) (J : Nat) (hJ : J < 2 ^ 15) : (w &&& ((1 : Int64) <<< ((Int32.ofNat J) &&& 0x3f).toInt64)) = (0 : Int64) ↔ w.toBitVec.getLsbD (J % 64) = false := by
  have h64 : J % 64 < 64 := Nat.mod_lt _ (by decide)
  constructor
  · intro h
    have h1 : (w &&& ((1 : Int64) <<< ((Int32.ofNat J) &&& 0x3f).toInt64)).toBitVec.getLsbD (J % 64) = false := by rw [h]; show (0#64).getLsbD _ = false; simp
    rw [Int64.toBitVec_and, BitVec.getLsbD_and, own_mbit J hJ _ h64] at h1
    simpa using h1
  · intro h
    apply Int64.toBitVec_inj.mp
    apply BitVec.eq_of_getLsbD_eq
    intro i hi
    rw [Int64.toBitVec_and, BitVec.getLsbD_and, own_mbit J hJ i hi]
    have h0 : (Int64.toBitVec 0).getLsbD i = false := by show (0#64).getLsbD i = false; simp
    rw [h0]
    by_cases c : i = J % 64
    · subst c; rw [h]; rfl
    · simp [c]
theorem own_om (w : Int64) (I J : Nat) (hI : I < 2 ^ 15) (hJ : J < 2 ^ 15) : ((w ||| ((1 : Int64) <<< ((Int32.ofNat I) &&& 0x3f).toInt64)) &&& ((1 : Int64) <<< ((Int32.ofNat J) &&& 0x3f).toInt64)) = (0 : Int64) ↔ ((w &&& ((1 : Int64) <<< ((Int32.ofNat J) &&& 0x3f).toInt64)) = (0 : Int64) ∧ ¬ J % 64 = I % 64) := by
  rw [own_mz _ J hJ, own_mz _ J hJ, Int64.toBitVec_or, BitVec.getLsbD_or, own_mbit I hI _ (Nat.mod_lt _ (by decide))]
  simp
theorem own_kne (keys : Int64) (KK : Nat) (hk : keys.toInt = KK) (h1 : 1 ≤ KK) : keys ≠ (0 : Int64) := fun q => by
  subst q; have : (0 : Int64).toInt = 0 := rfl; omega
theorem own_rem (z keys : Int64) (KK : Nat) (hk : keys.toInt = KK) (h1 : 1 ≤ KK) : ∃ A : Nat, ((z &&& (9223372036854775807 : Int64)) - ((z &&& (9223372036854775807 : Int64)) / keys) * keys).toInt = A ∧ A < KK := by
  have h2 := c_maskL z 9223372036854775807 63 (by decide) (by decide +kernel)
  have h3 : 0 ≤ (z &&& (9223372036854775807 : Int64)).toInt := by rw [h2]; exact Int.emod_nonneg _ (by decide)
  have h4 := (c_lrem (z &&& (9223372036854775807 : Int64)) keys KK hk).1 h3
  have h5 := Int.emod_nonneg (z &&& (9223372036854775807 : Int64)).toInt (b := (KK : Int)) (by omega)
  have h6 := Int.emod_lt_of_pos (z &&& (9223372036854775807 : Int64)).toInt (b := (KK : Int)) (by omega)
  exact ⟨((z &&& (9223372036854775807 : Int64)).toInt % KK).toNat, by rw [h4]; omega, by omega⟩
theorem own_keyeq (a b : Int64) (A B S P Q I J : Nat) (ha : a.toInt = A) (hb : b.toInt = B) (hP : P = A / 2 ^ S) (hI : I = A % 2 ^ S) (hQ : Q = B / 2 ^ S) (hJ : J = B % 2 ^ S) : a = b ↔ (P = Q ∧ I = J) := by
  constructor
  · intro h; subst h; have : A = B := by omega
    subst this; exact ⟨by rw [hP, hQ], by rw [hI, hJ]⟩
  · intro ⟨h1, h2⟩
    have e1 := Nat.div_add_mod A (2 ^ S); have e2 := Nat.div_add_mod B (2 ^ S)
    rw [← hP, ← hI] at e1; rw [← hQ, ← hJ, ← h1, ← h2] at e2
    exact Int64.toInt_inj.mp (by rw [ha, hb]; omega)
theorem own_keyeqb (a b : Int64) (A B S P Q I J : Nat) (ha : a.toInt = A) (hb : b.toInt = B) (hP : P = A / 2 ^ S) (hI : I = A % 2 ^ S) (hQ : Q = B / 2 ^ S) (hJ : J = B % 2 ^ S) : a = b ↔ (P = Q ∧ I / 64 = J / 64 ∧ I % 64 = J % 64) := by
  rw [own_keyeq a b A B S P Q I J ha hb hP hI hQ hJ]; omega
theorem d14_0 : decode prog_121_method_8_code 0 = .ok (.aload_n 0, 1) := by decide +kernel
theorem d14_1 : decode prog_121_method_8_code 1 = .ok (.getfield 41, 3) := by decide +kernel
theorem d14_4 : decode prog_121_method_8_code 4 = .ok (.lload_n 1, 1) := by decide +kernel
theorem d14_5 : decode prog_121_method_8_code 5 = .ok (.aload_n 0, 1) := by decide +kernel
theorem d14_6 : decode prog_121_method_8_code 6 = .ok (.getfield 17, 3) := by decide +kernel
theorem d14_9 : decode prog_121_method_8_code 9 = .ok (.lushr, 1) := by decide +kernel
theorem d14_10 : decode prog_121_method_8_code 10 = .ok (.l2i, 1) := by decide +kernel
theorem d14_11 : decode prog_121_method_8_code 11 = .ok (.aaload, 1) := by decide +kernel
theorem d14_12 : decode prog_121_method_8_code 12 = .ok (.lload_n 1, 1) := by decide +kernel
theorem d14_13 : decode prog_121_method_8_code 13 = .ok (.l2i, 1) := by decide +kernel
theorem d14_14 : decode prog_121_method_8_code 14 = .ok (.aload_n 0, 1) := by decide +kernel
theorem d14_15 : decode prog_121_method_8_code 15 = .ok (.getfield 20, 3) := by decide +kernel
theorem d14_18 : decode prog_121_method_8_code 18 = .ok (.iconst 1, 1) := by decide +kernel
theorem d14_19 : decode prog_121_method_8_code 19 = .ok (.isub, 1) := by decide +kernel
theorem d14_20 : decode prog_121_method_8_code 20 = .ok (.iand, 1) := by decide +kernel
theorem d14_21 : decode prog_121_method_8_code 21 = .ok (.iaload, 1) := by decide +kernel
theorem d14_22 : decode prog_121_method_8_code 22 = .ok (.iconst 1, 1) := by decide +kernel
theorem d14_23 : decode prog_121_method_8_code 23 = .ok (.isub, 1) := by decide +kernel
theorem d14_24 : decode prog_121_method_8_code 24 = .ok (.ireturn, 1) := by decide +kernel
theorem pn_14 : plainName "com/example/parley/parley/core/KeyTable" = true := by first | (simp [plainName, overriddenIn]; done) | decide +kernel
theorem ef_rmNumber (m : MethodId) (t : Addr) (key : Int64) : entryFrame m #[(.ref t), (.long key)] 3 = mkF m 0 #[.val (.ref t), .val (.long key), .second] [] := by first | (simp [entryFrame, mkF, argsToLocals, Value.category]; done) | rfl
set_option maxRecDepth 65536 in
set_option maxHeartbeats 40000000 in
theorem rmNumber (l : Launch) (Z : State) (a0 : Array Value) (hw : ∀ d ∈ tables_1, d.before a0 Z = true) (ws : List Jvm.Cond) (t : Addr) (key : Int64) (S np P Ix X : Nat) (md : Nat → Bool) (g : Nat → Nat → Value) (cnt wx : Int32) (h0 : Heap) (n0 : Nat) (hS : S ≤ 15) (hX : key.toInt = X) (hX2 : X < 2 ^ 30) (hP : P = X / 2 ^ S) (hI : Ix = X % 2 ^ S) (hPn : P < np) (hn31 : np < 2 ^ 31) (HK : KT Z h0 n0 t (1 : Int32) "numbers" "[[I" .int "[I" S np (2 ^ S) (.int (0 : Int32)) md g cnt) (hgx : g P Ix = .int wx) (hm : md P = true) :
    MetFree l (⟨"com/example/parley/parley/core/KeyTable", "number", "(J)I"⟩ : MethodName) (head1 (Jvm.Cond.code (⟨"com/example/parley/parley/core/KeyTable", "number", "(J)I"⟩ : MethodName) prog_121_method_8_code 3 (some .int) :: ws) ({ frames := 0, cells := 0, slots := 0, locals := 0 } : Room)) (fun a_ U_ => a_ = #[(.ref t), (.long key)] ∧ Z.Warmed39 U_.vm ∧ U_.heap = h0) (fun _ _ _ _ _ => True) (fun _ U_ o_ U'_ => ∃ v_ L_, o_ = .returned v_ ∧ QV (.int (wx - (1 : Int32))) h0 n0 v_ U'_.heap L_ ∧ FrameEnd U_ o_ U'_ L_ ({ frames := 0, cells := 0, slots := 0, locals := 0 } : Room).cells ({ frames := 0, cells := 0, slots := 0, locals := 0 } : Room).slots) := by
  refine MetFree.of_bodySF (plainFor_of_name pn_14) hisR ?_
  intro p e s m args below meth c s₁ Bd hml0 hP hK
  obtain ⟨rfl, hZ, hh⟩ := hP
  have hx := Bd.exec
  have hby := Bd.bytes
  have hml : c.maxLocals = 3 := hml0
  have hown : s.vm.findClass "com/example/parley/parley/core/KeyTable" = some m.cls := findClass_of_methodNamed Bd.named
  have hnm := (name_of_methodNamed Bd.named Bd.method).1
  have X0 : Stand p l e ({ frames := 0, cells := 0, slots := 0, locals := 0 } : Room) s m #[(.ref t), (.long key)] below meth c s₁ [] 0 0 := Stand.of_body Bd
  have e0 : s₁.heap = h0 := by rw [← hh, Bd.state]; rfl
  have N0 := Fr.nil n0
  have k0 : ∀ tg, Steps p.tables e below (s₁.setTop (mkF m 0 #[.val (.ref t), .val (.long key), .second] [])) tg → Steps p.tables e below (s₁.setTop (entryFrame m #[(.ref t), (.long key)] 3)) tg := fun tg kq_ => castTop (ef_rmNumber m t key) kq_
  obtain ⟨E_t, F_numbered, F_pageShift, F_pageKeys, F_pageWords, F_madePages, g_t, D, kD, dir, F_dir, V_D, OD, g_D, ne_t_D, hmd, hpg, hinj, hun⟩ := HK
  have hP31 : P < 2 ^ 31 := Nat.lt_trans hPn hn31
  have h2S : 2 ^ S ≤ 2 ^ 15 := Nat.pow_le_pow_right (by decide) hS
  have hIl : Ix < 2 ^ S := by rw [hI]; exact Nat.mod_lt _ (Nat.pow_pos (by decide))
  have hI31 : Ix < 2 ^ 31 := by omega
  have hWl : Ix / 64 < max 1 (2 ^ S / 64) := own_wix Ix S hIl
  have hW31 : Ix / 64 < 2 ^ 31 := by omega
  have hpl1 : 2 ^ S < 2 ^ 31 := by omega
  have hpl2 : max 1 (2 ^ S / 64) < 2 ^ 31 := by omega
  have hpl3 : max 1 (2 ^ S / 64) ≤ 512 := by omega
  obtain ⟨pa, ha⟩ : ∃ pa, dir P = some pa := Option.isSome_iff_exists.mp ((hmd P).trans hm)
  obtain ⟨ne_pa_t, ne_pa_D, g_pa, ka, V_pa⟩ := hpg P pa ha
  obtain ⟨T1, X1, e1, st1⟩ := getF X0 hx hZ hown (host := "") (Or.inl (hw _ (List.mem_of_getElem? (i := 55) rfl))) Via.refl e0 F_dir (g := (mkF m 1 #[.val (.ref t), .val (.long key), .second] [(.ref t)])) rfl rfl (hb hby d14_1)
  obtain ⟨T2, X2, e2, st2⟩ := getF X1 hx hZ hown (host := "") (Or.inl (hw _ (List.mem_of_getElem? (i := 36) rfl))) Via.refl e1 F_pageShift (g := (mkF m 6 #[.val (.ref t), .val (.long key), .second] [(.ref t), (.long key), (.ref D)])) rfl rfl (hb hby d14_6)
  obtain ⟨cl11_3, Ar11_3, q11_3, S11_3, H11_3⟩ := id V_D
  have hin11_3 : ¬ ((Int32.ofNat P) < 0 ∨ cl11_3.slots.size ≤ ((Int32.ofNat P)).toNatClampNeg) := own_inb S11_3 (own_nn _ hP31) (by rw [own_clamp _ hP31]; exact hPn)
  have hat11_3 : cl11_3.slots[((Int32.ofNat P)).toNatClampNeg]? = some (.ref pa) := by rw [own_clamp _ hP31]; exact (H11_3 _ hPn).trans (congrArg some (by show dirV (dir P) = _; rw [ha]; rfl))
  obtain ⟨T4, X4, e4, st4⟩ := getF X2 hx hZ hown (host := "") (Or.inl (hw _ (List.mem_of_getElem? (i := 38) rfl))) Via.refl e2 F_pageKeys (g := (mkF m 15 #[.val (.ref t), .val (.long key), .second] [(.ref t), (.int (key.toInt32)), (.ref pa)])) rfl rfl (hb hby d14_15)
  obtain ⟨cl21_5, Ar21_5, q21_5, S21_5, H21_5⟩ := id V_pa
  have hin21_5 : ¬ ((Int32.ofNat Ix) < 0 ∨ cl21_5.slots.size ≤ ((Int32.ofNat Ix)).toNatClampNeg) := own_inb S21_5 (own_nn _ hI31) (by rw [own_clamp _ hI31]; exact hIl)
  have hat21_5 : cl21_5.slots[((Int32.ofNat Ix)).toNatClampNeg]? = some (.int wx) := by rw [own_clamp _ hI31]; exact (H21_5 _ hIl).trans (congrArg some hgx)
  have k6 : ∀ tg, Steps p.tables e below (T4.setTop (mkF m 24 #[.val (.ref t), .val (.long key), .second] [(.int (wx - (1 : Int32)))])) tg → Steps p.tables e below (s₁.setTop (entryFrame m #[(.ref t), (.long key)] 3)) tg := by
    intro tg kt
    refine k0 tg ?_
    show Steps p.tables e below (s₁.setTop (mkF m 0 #[.val (.ref t), .val (.long key), .second] [])) _
    refine XS.aloadN X0.here hx rfl (hb hby d14_0) rfl rfl ?_
    show Steps p.tables e below (s₁.setTop (mkF m 1 #[.val (.ref t), .val (.long key), .second] [(.ref t)])) _
    refine st1 _ ?_
    show Steps p.tables e below (T1.setTop (mkF m 4 #[.val (.ref t), .val (.long key), .second] [(.ref D)])) _
    refine XS.lloadN X1.here hx rfl (hb hby d14_4) rfl ?_
    show Steps p.tables e below (T1.setTop (mkF m 5 #[.val (.ref t), .val (.long key), .second] [(.long key), (.ref D)])) _
    refine XS.aloadN X1.here hx rfl (hb hby d14_5) rfl rfl ?_
    show Steps p.tables e below (T1.setTop (mkF m 6 #[.val (.ref t), .val (.long key), .second] [(.ref t), (.long key), (.ref D)])) _
    refine st2 _ ?_
    show Steps p.tables e below (T2.setTop (mkF m 9 #[.val (.ref t), .val (.long key), .second] [(.int (Int32.ofNat S)), (.long key), (.ref D)])) _
    refine XS.lushr X2.here hx rfl (hb hby d14_9) rfl ?_
    show Steps p.tables e below (T2.setTop (mkF m 10 #[.val (.ref t), .val (.long key), .second] [(.long ((key.toUInt64 >>> ((Int32.ofNat S) &&& 0x3f).toInt64.toUInt64).toInt64)), (.ref D)])) _
    refine XS.l2i X2.here hx rfl (hb hby d14_10) rfl ?_
    show Steps p.tables e below (T2.setTop (mkF m 11 #[.val (.ref t), .val (.long key), .second] [(.int (((key.toUInt64 >>> ((Int32.ofNat S) &&& 0x3f).toInt64.toUInt64).toInt64).toInt32)), (.ref D)])) _
    rw [(own_pageI key X S P hX hX2 hS hP)]
    show Steps p.tables e below (T2.setTop (mkF m 11 #[.val (.ref t), .val (.long key), .second] [(.int (Int32.ofNat P)), (.ref D)])) _
    refine X2.aaload hx (j := (Int32.ofNat P)) (v := (.ref pa)) (by rw [e2]; exact Ar11_3.1) (State.isArrayOf_alike hZ.alike Ar11_3.2.1) rfl Ar11_3.2.2 hin11_3 hat11_3 (g := (mkF m 11 #[.val (.ref t), .val (.long key), .second] [(.int (Int32.ofNat P)), (.ref D)])) rfl rfl (hb hby d14_11) _ ?_
    show Steps p.tables e below (T2.setTop (mkF m 12 #[.val (.ref t), .val (.long key), .second] [(.ref pa)])) _
    refine XS.lloadN X2.here hx rfl (hb hby d14_12) rfl ?_
    show Steps p.tables e below (T2.setTop (mkF m 13 #[.val (.ref t), .val (.long key), .second] [(.long key), (.ref pa)])) _
    refine XS.l2i X2.here hx rfl (hb hby d14_13) rfl ?_
    show Steps p.tables e below (T2.setTop (mkF m 14 #[.val (.ref t), .val (.long key), .second] [(.int (key.toInt32)), (.ref pa)])) _
    refine XS.aloadN X2.here hx rfl (hb hby d14_14) rfl rfl ?_
    show Steps p.tables e below (T2.setTop (mkF m 15 #[.val (.ref t), .val (.long key), .second] [(.ref t), (.int (key.toInt32)), (.ref pa)])) _
    refine st4 _ ?_
    show Steps p.tables e below (T4.setTop (mkF m 18 #[.val (.ref t), .val (.long key), .second] [(.int (Int32.ofNat (2 ^ S))), (.int (key.toInt32)), (.ref pa)])) _
    refine XS.iconst X4.here hx rfl (hb hby d14_18) ?_
    show Steps p.tables e below (T4.setTop (mkF m 19 #[.val (.ref t), .val (.long key), .second] [(.int (1 : Int32)), (.int (Int32.ofNat (2 ^ S))), (.int (key.toInt32)), (.ref pa)])) _
    refine XS.isub X4.here hx rfl (hb hby d14_19) rfl ?_
    show Steps p.tables e below (T4.setTop (mkF m 20 #[.val (.ref t), .val (.long key), .second] [(.int ((Int32.ofNat (2 ^ S)) - (1 : Int32))), (.int (key.toInt32)), (.ref pa)])) _
    refine XS.iand X4.here hx rfl (hb hby d14_20) rfl ?_
    show Steps p.tables e below (T4.setTop (mkF m 21 #[.val (.ref t), .val (.long key), .second] [(.int ((key.toInt32) &&& ((Int32.ofNat (2 ^ S)) - (1 : Int32)))), (.ref pa)])) _
    rw [(own_ixI key X S Ix hX hX2 hS hI)]
    show Steps p.tables e below (T4.setTop (mkF m 21 #[.val (.ref t), .val (.long key), .second] [(.int (Int32.ofNat Ix)), (.ref pa)])) _
    refine X4.iaload hx (j := (Int32.ofNat Ix)) (v := (.int wx)) (by rw [e4]; exact Ar21_5.1) (State.isArrayOf_alike hZ.alike Ar21_5.2.1) Ar21_5.2.2 hin21_5 hat21_5 (g := (mkF m 21 #[.val (.ref t), .val (.long key), .second] [(.int (Int32.ofNat Ix)), (.ref pa)])) rfl rfl (hb hby d14_21) _ ?_
    show Steps p.tables e below (T4.setTop (mkF m 22 #[.val (.ref t), .val (.long key), .second] [(.int wx)])) _
    refine XS.iconst X4.here hx rfl (hb hby d14_22) ?_
    show Steps p.tables e below (T4.setTop (mkF m 23 #[.val (.ref t), .val (.long key), .second] [(.int (1 : Int32)), (.int wx)])) _
    refine XS.isub X4.here hx rfl (hb hby d14_23) rfl ?_
    show Steps p.tables e below (T4.setTop (mkF m 24 #[.val (.ref t), .val (.long key), .second] [(.int (wx - (1 : Int32)))])) _
    exact kt
  obtain ⟨fs, hr, hrun, hended, hW, hsame⟩ := X4.leave (v := some (.int (wx - (1 : Int32)))) (fun h => by rw [Bd.returns] at h; cases h)
  refine ⟨_, _, k6 _ ?_, hrun, hended, _, _, rfl, ?_, ⟨_, rfl⟩, hW, hsame.mono (by decide) (by decide)⟩
  · exact retI X4 hx Bd.returns (hb hby d14_24) hr
  · show QV _ h0 n0 _ T4.heap _
    exact ⟨rfl, N0, e4⟩
theorem d12_0 : decode prog_121_method_9_code 0 = .ok (.aload_n 0, 1) := by decide +kernel
theorem d12_1 : decode prog_121_method_9_code 1 = .ok (.getfield 77, 3) := by decide +kernel
theorem d12_4 : decode prog_121_method_9_code 4 = .ok (.ireturn, 1) := by decide +kernel
theorem pn_12 : plainName "com/example/parley/parley/core/KeyTable" = true := by first | (simp [plainName, overriddenIn]; done) | decide +kernel
theorem ef_rmPages (m : MethodId) (t : Addr) : entryFrame m #[(.ref t)] 1 = mkF m 0 #[.val (.ref t)] [] := by first | (simp [entryFrame, mkF, argsToLocals, Value.category]; done) | rfl
set_option maxRecDepth 65536 in
set_option maxHeartbeats 40000000 in
theorem rmPages (l : Launch) (Z : State) (a0 : Array Value) (hw : ∀ d ∈ tables_1, d.before a0 Z = true) (ws : List Jvm.Cond) (t : Addr) (cnt : Int32) (h0 : Heap) (n0 : Nat) (F_m : Fld Z h0 t "com/example/parley/parley/core/KeyTable" "madePages" "I" (.int cnt)) :
    MetFree l (⟨"com/example/parley/parley/core/KeyTable", "pages", "()I"⟩ : MethodName) (head1 (Jvm.Cond.code (⟨"com/example/parley/parley/core/KeyTable", "pages", "()I"⟩ : MethodName) prog_121_method_9_code 1 (some .int) :: ws) ({ frames := 0, cells := 0, slots := 0, locals := 0 } : Room)) (fun a_ U_ => a_ = #[(.ref t)] ∧ Z.Warmed39 U_.vm ∧ U_.heap = h0) (fun _ _ _ _ _ => True) (fun _ U_ o_ U'_ => ∃ v_ L_, o_ = .returned v_ ∧ QV (.int cnt) h0 n0 v_ U'_.heap L_ ∧ FrameEnd U_ o_ U'_ L_ ({ frames := 0, cells := 0, slots := 0, locals := 0 } : Room).cells ({ frames := 0, cells := 0, slots := 0, locals := 0 } : Room).slots) := by
  refine MetFree.of_bodySF (plainFor_of_name pn_12) hisR ?_
  intro p e s m args below meth c s₁ Bd hml0 hP hK
  obtain ⟨rfl, hZ, hh⟩ := hP
  have hx := Bd.exec
  have hby := Bd.bytes
  have hml : c.maxLocals = 1 := hml0
  have hown : s.vm.findClass "com/example/parley/parley/core/KeyTable" = some m.cls := findClass_of_methodNamed Bd.named
  have hnm := (name_of_methodNamed Bd.named Bd.method).1
  have X0 : Stand p l e ({ frames := 0, cells := 0, slots := 0, locals := 0 } : Room) s m #[(.ref t)] below meth c s₁ [] 0 0 := Stand.of_body Bd
  have e0 : s₁.heap = h0 := by rw [← hh, Bd.state]; rfl
  have N0 := Fr.nil n0
  have k0 : ∀ tg, Steps p.tables e below (s₁.setTop (mkF m 0 #[.val (.ref t)] [])) tg → Steps p.tables e below (s₁.setTop (entryFrame m #[(.ref t)] 1)) tg := fun tg kq_ => castTop (ef_rmPages m t) kq_
  obtain ⟨T1, X1, e1, st1⟩ := getF X0 hx hZ hown (host := "") (Or.inl (hw _ (List.mem_of_getElem? (i := 64) rfl))) Via.refl e0 F_m (g := (mkF m 1 #[.val (.ref t)] [(.ref t)])) rfl rfl (hb hby d12_1)
  have k2 : ∀ tg, Steps p.tables e below (T1.setTop (mkF m 4 #[.val (.ref t)] [(.int cnt)])) tg → Steps p.tables e below (s₁.setTop (entryFrame m #[(.ref t)] 1)) tg := by
    intro tg kt
    refine k0 tg ?_
    show Steps p.tables e below (s₁.setTop (mkF m 0 #[.val (.ref t)] [])) _
    refine XS.aloadN X0.here hx rfl (hb hby d12_0) rfl rfl ?_
    show Steps p.tables e below (s₁.setTop (mkF m 1 #[.val (.ref t)] [(.ref t)])) _
    refine st1 _ ?_
    show Steps p.tables e below (T1.setTop (mkF m 4 #[.val (.ref t)] [(.int cnt)])) _
    exact kt
  obtain ⟨fs, hr, hrun, hended, hW, hsame⟩ := X1.leave (v := some (.int cnt)) (fun h => by rw [Bd.returns] at h; cases h)
  refine ⟨_, _, k2 _ ?_, hrun, hended, _, _, rfl, ?_, ⟨_, rfl⟩, hW, hsame.mono (by decide) (by decide)⟩
  · exact retI X1 hx Bd.returns (hb hby d12_4) hr
  · show QV _ h0 n0 _ T1.heap _
    exact ⟨rfl, N0, e1⟩
theorem own_01 (z : Int32) (P : Prop) [Decidable P] (h : z = (if P then (0 : Int32) else (1 : Int32))) : z = (0 : Int32) ∨ z = (1 : Int32) := by
  rw [h]; split
  · exact Or.inl rfl
  · exact Or.inr rfl
theorem own_keys1 (pp keys : Int64) (sml : Int32) (h : keys = (if sml = (0 : Int32) then ((32768 : Int64) + (pp &&& (1048575 : Int64))) else ((1 : Int64) + (pp &&& (1023 : Int64))))) : ∃ KK : Nat, keys.toInt = KK ∧ 1 ≤ KK ∧ KK ≤ 1081343 ∧ (sml = 0 → 32768 ≤ KK) ∧ (¬ sml = 0 → KK ≤ 1024) := by
  have a1 := c_maskL pp 1048575 20 (by decide) (by decide +kernel); have a2 := c_maskL pp 1023 10 (by decide) (by decide +kernel)
  have b1 := c_ladd 32768 (pp &&& (1048575 : Int64)); have b2 := rng64 ((32768 : Int64) + (pp &&& (1048575 : Int64))); have l1 : (32768 : Int64).toInt = 32768 := rfl
  have c1 := c_ladd 1 (pp &&& (1023 : Int64)); have c2 := rng64 ((1 : Int64) + (pp &&& (1023 : Int64))); have l2 : (1 : Int64).toInt = 1 := rfl
  rw [h]
  by_cases q : sml = 0
  · rw [if_pos q]; exact ⟨((32768 : Int64) + (pp &&& (1048575 : Int64))).toInt.toNat, by omega, by omega, by omega, fun _ => by omega, fun r => absurd q r⟩
  · rw [if_neg q]; exact ⟨((1 : Int64) + (pp &&& (1023 : Int64))).toInt.toNat, by omega, by omega, by omega, fun r => absurd r q, fun _ => by omega⟩
theorem own_remG (z keys : Int64) (KK : Nat) (hk : keys.toInt = KK) (h1 : 1 ≤ KK) (h3 : 0 ≤ z.toInt) : ∃ A : Nat, (z - (z / keys) * keys).toInt = A ∧ A < KK := by
  have h4 := (c_lrem z keys KK hk).1 h3
  have h5 := Int.emod_nonneg z.toInt (b := (KK : Int)) (by omega)
  have h6 := Int.emod_lt_of_pos z.toInt (b := (KK : Int)) (by omega)
  exact ⟨(z.toInt % KK).toNat, by rw [h4]; omega, by omega⟩
theorem own_remB (a yy keys : Int64) (A KK : Nat) (ha : a.toInt = A) (hA : A < KK) (hk : keys.toInt = KK) (h1 : 1 ≤ KK) (h2 : KK ≤ 1081343) : ∃ B : Nat, ((a + (yy &&& (127 : Int64))) - ((a + (yy &&& (127 : Int64))) / keys) * keys).toInt = B ∧ B < KK := by
  have a1 := c_maskL yy 127 7 (by decide) (by decide +kernel); have a2 := c_ladd a (yy &&& (127 : Int64)); have a3 := rng64 (a + (yy &&& (127 : Int64)))
  exact own_remG _ keys KK hk h1 (by omega)
theorem own_remC (z keys : Int64) (KK : Nat) (hk : keys.toInt = KK) (h1 : 1 ≤ KK) (h2 : KK ≤ 1081343) : ∃ C : Nat, (((z - (z / keys) * keys) + keys) - (((z - (z / keys) * keys) + keys) / keys) * keys).toInt = C ∧ C < KK := by
  have a1 := c_lrem z keys KK hk; have a2 := c_ladd (z - (z / keys) * keys) keys; have a3 := rng64 ((z - (z / keys) * keys) + keys)
  have h5 := Int.emod_nonneg z.toInt (b := (KK : Int)) (by omega); have h6 := Int.emod_lt_of_pos z.toInt (b := (KK : Int)) (by omega)
  have h7 := Int.emod_nonneg (-z.toInt) (b := (KK : Int)) (by omega); have h8 := Int.emod_lt_of_pos (-z.toInt) (b := (KK : Int)) (by omega)
  refine own_remG _ keys KK hk h1 ?_
  by_cases q : 0 ≤ z.toInt
  · have := a1.1 q; omega
  · have := a1.2 (by omega); omega
theorem own_nbr (n : Int32) : ¬ ((n &&& (2147483647 : Int32)) + (1 : Int32)) = (0 : Int32) := fun q => by
  have h1 := c_mask n 2147483647 31 (by decide) (by decide +kernel)
  have h2 := c_iadd (n &&& (2147483647 : Int32)) 1; have h3 := rng32 ((n &&& (2147483647 : Int32)) + 1); have h4 : (1 : Int32).toInt = 1 := rfl; have h5 : (0 : Int32).toInt = 0 := rfl
  rw [q] at h2; omega
theorem own_back (z : Int32) : (z + (1 : Int32)) - (1 : Int32) = z := by
  apply Int32.toInt_inj.mp
  have h2 := c_iadd z 1; have h3 := c_isub (z + 1) 1; have r1 := rng32 z; have r2 := rng32 (z + 1); have r3 := rng32 (z + 1 - 1); have h4 : (1 : Int32).toInt = 1 := rfl; omega
/-- the same page, as the law reckons it -/
theorem own_same (base KK A B Pa Pb : Nat) (a b : Int64) (sml sp : Int32) (q : Int32) (hq : q = Int32.ofNat base) (hb : base = 10 ∨ base = 15) (ha : a.toInt = A) (hB : b.toInt = B) (lA : A < KK) (lB : B < KK) (hPa : Pa = A / 2 ^ shN base KK) (hPb : Pb = B / 2 ^ shN base KK) (h0 : sml = 0 → 32768 ≤ KK) (h1 : ¬ sml = 0 → KK ≤ 1024)
    (e : sp = (if sml = (0 : Int32) then (if ((a.toUInt64 >>> (q &&& 0x3f).toInt64.toUInt64).toInt64) = ((b.toUInt64 >>> (q &&& 0x3f).toInt64.toUInt64).toInt64) then (1 : Int32) else (0 : Int32)) else (1 : Int32))) : sp = (if Pb = Pa then (1 : Int32) else (0 : Int32)) := by
  subst hq
  by_cases c : sml = 0
  · rw [if_pos c] at e
    have hS : shN base KK = base := Nat.min_eq_left (Nat.le_trans (by omega) (own_le_bl (KK - 1) 14 (by have := h0 c; omega)))
    have e1 := own_lushr a A base ha (by omega); have e2 := own_lushr b B base hB (by omega)
    rw [hS] at hPa hPb
    have i : ((a.toUInt64 >>> (Int32.ofNat base &&& 0x3f).toInt64.toUInt64).toInt64) = ((b.toUInt64 >>> (Int32.ofNat base &&& 0x3f).toInt64.toUInt64).toInt64) ↔ Pb = Pa := by
      rw [← Int64.toInt_inj, e1, e2, ← hPa, ← hPb]; omega
    rw [e]; by_cases d : Pb = Pa
    · rw [if_pos d, if_pos (i.mpr d)]
    · rw [if_neg d, if_neg (fun r => d (i.mp r))]
  · rw [if_neg c] at e
    have hK := h1 c
    have hS : shN base KK = bl (KK - 1) := Nat.min_eq_right (Nat.le_trans (own_bl_le (KK - 1) 10 (by omega)) (by omega))
    have hlt := own_bl_lt (KK - 1)
    rw [hS] at hPa hPb
    have z1 : Pa = 0 := by rw [hPa]; exact Nat.div_eq_of_lt (by omega)
    have z2 : Pb = 0 := by rw [hPb]; exact Nat.div_eq_of_lt (by omega)
    rw [e, if_pos (by rw [z1, z2])]
/-- the made pages behind two marks -/
theorem own_cnt (Pa Pb : Nat) : (if updM (fun _ => false) Pa Pb = true then (if (fun _ => false) Pa = true then (0 : Int32) else (0 : Int32) + (1 : Int32)) else (if (fun _ => false) Pa = true then (0 : Int32) else (0 : Int32) + (1 : Int32)) + (1 : Int32)) = (if Pb = Pa then (1 : Int32) else (2 : Int32)) := by
  unfold updM
  by_cases d : Pb = Pa
  · simp [d]
  · simp [d]
theorem pn_0 : plainName "com/example/parley/parley/core/KeyTableMarkPinLaw" = true := by first | (simp [plainName, overriddenIn]; done) | decide +kernel
theorem pd_5 : parseMethodDescriptor "(JZ)V" = some ⟨[.long, .boolean], none⟩ := by decide +kernel
theorem pd_6 : parseMethodDescriptor "(JI)V" = some ⟨[.long, .int], none⟩ := by decide +kernel
theorem pd_7 : parseMethodDescriptor "()I" = some ⟨[], some .int⟩ := by decide +kernel
theorem pd_8 : parseMethodDescriptor "(J)Z" = some ⟨[.long], some .boolean⟩ := by decide +kernel
theorem ef_rm0 (m : MethodId) (pp : Int64) (xx : Int64) (yy : Int64) (nn : Int32) (mm : Int32) (flags : Int32) : entryFrame m #[(.long pp), (.long xx), (.long yy), (.int nn), (.int mm), (.int flags)] maxLocals = mkF m 0 #[.val (.long pp), .second, .val (.long xx), .second, .val (.long yy), .second, .val (.int nn), .val (.int mm), .val (.int flags), .unset, .unset, .unset, .unset, .unset, .unset, .unset, .unset, .unset, .unset, .unset, .unset, .unset, .unset, .unset, .unset, .unset] [] := by first | (simp [entryFrame, mkF, argsToLocals, Value.category, maxLocals]; done) | rfl
set_option maxRecDepth 65536 in
set_option maxHeartbeats 40000000 in
theorem rm0 (l : Launch) (Z : State) (a0 : Array Value) (hw : ∀ d ∈ tables_1, d.before a0 Z = true) (ws : List Jvm.Cond) (pp : Int64) (xx : Int64) (yy : Int64) (nn : Int32) (mm : Int32) (flags : Int32)  (h0 : Heap) (n0 : Nat) (Z0 : n0 ≤ h0.size)  :
    MetFree l x (head1 (Jvm.Cond.code x code maxLocals ret :: ws) room_1) (fun a_ U_ => a_ = #[(.long pp), (.long xx), (.long yy), (.int nn), (.int mm), (.int flags)] ∧ Z.Warmed39 U_.vm ∧ U_.heap = h0) (fun _ _ _ _ _ => True) (fun _ U_ o_ U'_ => ∃ v_ L_, o_ = .returned v_ ∧ QL n0 v_ U'_.heap L_ ∧ FrameEnd U_ o_ U'_ L_ room_1.cells room_1.slots) := by
  refine MetFree.of_bodySF (plainFor_of_name pn_0) hisR ?_
  intro p e s m args below meth c s₁ Bd hml0 hP hK
  obtain ⟨rfl, hZ, hh⟩ := hP
  have hx := Bd.exec
  have hby := Bd.bytes
  have hml : c.maxLocals = 26 := hml0
  have hown : s.vm.findClass "com/example/parley/parley/core/KeyTableMarkPinLaw" = some m.cls := findClass_of_methodNamed Bd.named
  have hnm := (name_of_methodNamed Bd.named Bd.method).1
  have X0 : Stand p l e room_1 s m #[(.long pp), (.long xx), (.long yy), (.int nn), (.int mm), (.int flags)] below meth c s₁ [] 0 0 := Stand.of_body Bd
  have e0 : s₁.heap = h0 := by rw [← hh, Bd.state]; rfl
  have N0 := Fr.nil n0
  have k0 : ∀ tg, Steps p.tables e below (s₁.setTop (mkF m 0 #[.val (.long pp), .second, .val (.long xx), .second, .val (.long yy), .second, .val (.int nn), .val (.int mm), .val (.int flags), .unset, .unset, .unset, .unset, .unset, .unset, .unset, .unset, .unset, .unset, .unset, .unset, .unset, .unset, .unset, .unset, .unset] [])) tg → Steps p.tables e below (s₁.setTop (entryFrame m #[(.long pp), (.long xx), (.long yy), (.int nn), (.int mm), (.int flags)] maxLocals)) tg := fun tg kq_ => castTop (ef_rm0 m pp xx yy nn mm flags) kq_
  have k1 : ∀ tg, Steps p.tables e below (s₁.setTop (mkF m 4 #[.val (.long pp), .second, .val (.long xx), .second, .val (.long yy), .second, .val (.int nn), .val (.int mm), .val (.int flags), .unset, .unset, .unset, .unset, .unset, .unset, .unset, .unset, .unset, .unset, .unset, .unset, .unset, .unset, .unset, .unset, .unset] [(.int (flags &&& (4 : Int32)))])) tg → Steps p.tables e below (s₁.setTop (entryFrame m #[(.long pp), (.long xx), (.long yy), (.int nn), (.int mm), (.int flags)] maxLocals)) tg := by
    intro tg kt
    refine k0 tg ?_
    show Steps p.tables e below (s₁.setTop (mkF m 0 #[.val (.long pp), .second, .val (.long xx), .second, .val (.long yy), .second, .val (.int nn), .val (.int mm), .val (.int flags), .unset, .unset, .unset, .unset, .unset, .unset, .unset, .unset, .unset, .unset, .unset, .unset, .unset, .unset, .unset, .unset, .unset] [])) _
    refine XS.iload X0.here hx rfl (hb hby at_0) rfl ?_
    show Steps p.tables e below (s₁.setTop (mkF m 2 #[.val (.long pp), .second, .val (.long xx), .second, .val (.long yy), .second, .val (.int nn), .val (.int mm), .val (.int flags), .unset, .unset, .unset, .unset, .unset, .unset, .unset, .unset, .unset, .unset, .unset, .unset, .unset, .unset, .unset, .unset, .unset] [(.int flags)])) _
    refine XS.iconst X0.here hx rfl (hb hby at_2) ?_
    show Steps p.tables e below (s₁.setTop (mkF m 3 #[.val (.long pp), .second, .val (.long xx), .second, .val (.long yy), .second, .val (.int nn), .val (.int mm), .val (.int flags), .unset, .unset, .unset, .unset, .unset, .unset, .unset, .unset, .unset, .unset, .unset, .unset, .unset, .unset, .unset, .unset, .unset] [(.int (4 : Int32)), (.int flags)])) _
    refine XS.iand X0.here hx rfl (hb hby at_3) rfl ?_
    show Steps p.tables e below (s₁.setTop (mkF m 4 #[.val (.long pp), .second, .val (.long xx), .second, .val (.long yy), .second, .val (.int nn), .val (.int mm), .val (.int flags), .unset, .unset, .unset, .unset, .unset, .unset, .unset, .unset, .unset, .unset, .unset, .unset, .unset, .unset, .unset, .unset, .unset] [(.int (flags &&& (4 : Int32)))])) _
    exact kt
  have k5 : ∀ tg, Steps p.tables e below (s₁.setTop (mkF m 12 #[.val (.long pp), .second, .val (.long xx), .second, .val (.long yy), .second, .val (.int nn), .val (.int mm), .val (.int flags), .unset, .unset, .unset, .unset, .unset, .unset, .unset, .unset, .unset, .unset, .unset, .unset, .unset, .unset, .unset, .unset, .unset] [(.int (if (flags &&& (4 : Int32)) = (0 : Int32) then (0 : Int32) else (1 : Int32)))])) tg → Steps p.tables e below (s₁.setTop (entryFrame m #[(.long pp), (.long xx), (.long yy), (.int nn), (.int mm), (.int flags)] maxLocals)) tg := by
    intro tg kt
    refine k1 tg ?_
    show Steps p.tables e below (s₁.setTop (mkF m 4 #[.val (.long pp), .second, .val (.long xx), .second, .val (.long yy), .second, .val (.int nn), .val (.int mm), .val (.int flags), .unset, .unset, .unset, .unset, .unset, .unset, .unset, .unset, .unset, .unset, .unset, .unset, .unset, .unset, .unset, .unset, .unset] [(.int (flags &&& (4 : Int32)))])) _
    by_cases hc2 : (flags &&& (4 : Int32)) = (0 : Int32)
    · refine XS.ifYes X0.here hx rfl (pc0 := 4) (pc' := 11) rfl (hb hby at_4) rfl ((if0 _ _).trans (teq hc2).1) (by decide) (by decide) ?_
      show Steps p.tables e below (s₁.setTop (mkF m 11 #[.val (.long pp), .second, .val (.long xx), .second, .val (.long yy), .second, .val (.int nn), .val (.int mm), .val (.int flags), .unset, .unset, .unset, .unset, .unset, .unset, .unset, .unset, .unset, .unset, .unset, .unset, .unset, .unset, .unset, .unset, .unset] [])) _
      refine XS.iconst X0.here hx rfl (hb hby at_11) ?_
      show Steps p.tables e below (s₁.setTop (mkF m 12 #[.val (.long pp), .second, .val (.long xx), .second, .val (.long yy), .second, .val (.int nn), .val (.int mm), .val (.int flags), .unset, .unset, .unset, .unset, .unset, .unset, .unset, .unset, .unset, .unset, .unset, .unset, .unset, .unset, .unset, .unset, .unset] [(.int (0 : Int32))])) _
      repeat rw [if_pos hc2] at kt
      exact kt
    · refine XS.ifNo X0.here hx rfl (hb hby at_4) rfl ((if0 _ _).trans (feq hc2).1) ?_
      show Steps p.tables e below (s₁.setTop (mkF m 7 #[.val (.long pp), .second, .val (.long xx), .second, .val (.long yy), .second, .val (.int nn), .val (.int mm), .val (.int flags), .unset, .unset, .unset, .unset, .unset, .unset, .unset, .unset, .unset, .unset, .unset, .unset, .unset, .unset, .unset, .unset, .unset] [])) _
      refine XS.iconst X0.here hx rfl (hb hby at_7) ?_
      show Steps p.tables e below (s₁.setTop (mkF m 8 #[.val (.long pp), .second, .val (.long xx), .second, .val (.long yy), .second, .val (.int nn), .val (.int mm), .val (.int flags), .unset, .unset, .unset, .unset, .unset, .unset, .unset, .unset, .unset, .unset, .unset, .unset, .unset, .unset, .unset, .unset, .unset] [(.int (1 : Int32))])) _
      refine XS.goto X0.here hx rfl (pc0 := 8) (pc' := 12) rfl (hb hby at_8) (by decide) (by decide) ?_
      show Steps p.tables e below (s₁.setTop (mkF m 12 #[.val (.long pp), .second, .val (.long xx), .second, .val (.long yy), .second, .val (.int nn), .val (.int mm), .val (.int flags), .unset, .unset, .unset, .unset, .unset, .unset, .unset, .unset, .unset, .unset, .unset, .unset, .unset, .unset, .unset, .unset, .unset] [(.int (1 : Int32))])) _
      repeat rw [if_neg hc2] at kt
      exact kt
  obtain ⟨num, enum⟩ : ∃ z : Int32, z = (if (flags &&& (4 : Int32)) = (0 : Int32) then (0 : Int32) else (1 : Int32)) := ⟨_, rfl⟩
  have k6 : ∀ tg, Steps p.tables e below (s₁.setTop (mkF m 19 #[.val (.long pp), .second, .val (.long xx), .second, .val (.long yy), .second, .val (.int nn), .val (.int mm), .val (.int flags), .val (.int num), .unset, .unset, .unset, .unset, .unset, .unset, .unset, .unset, .unset, .unset, .unset, .unset, .unset, .unset, .unset, .unset] [(.int (flags &&& (8 : Int32)))])) tg → Steps p.tables e below (s₁.setTop (entryFrame m #[(.long pp), (.long xx), (.long yy), (.int nn), (.int mm), (.int flags)] maxLocals)) tg := by
    intro tg kt
    refine k5 tg ?_
    show Steps p.tables e below (s₁.setTop (mkF m 12 #[.val (.long pp), .second, .val (.long xx), .second, .val (.long yy), .second, .val (.int nn), .val (.int mm), .val (.int flags), .unset, .unset, .unset, .unset, .unset, .unset, .unset, .unset, .unset, .unset, .unset, .unset, .unset, .unset, .unset, .unset, .unset] [(.int (if (flags &&& (4 : Int32)) = (0 : Int32) then (0 : Int32) else (1 : Int32)))])) _
    rw [← enum]
    show Steps p.tables e below (s₁.setTop (mkF m 12 #[.val (.long pp), .second, .val (.long xx), .second, .val (.long yy), .second, .val (.int nn), .val (.int mm), .val (.int flags), .unset, .unset, .unset, .unset, .unset, .unset, .unset, .unset, .unset, .unset, .unset, .unset, .unset, .unset, .unset, .unset, .unset] [(.int num)])) _
    refine XS.istore X0.here hx rfl (hb hby at_12) rfl (l' := #[.val (.long pp), .second, .val (.long xx), .second, .val (.long yy), .second, .val (.int nn), .val (.int mm), .val (.int flags), .val (.int num), .unset, .unset, .unset, .unset, .unset, .unset, .unset, .unset, .unset, .unset, .unset, .unset, .unset, .unset, .unset, .unset]) rfl ?_
    show Steps p.tables e below (s₁.setTop (mkF m 14 #[.val (.long pp), .second, .val (.long xx), .second, .val (.long yy), .second, .val (.int nn), .val (.int mm), .val (.int flags), .val (.int num), .unset, .unset, .unset, .unset, .unset, .unset, .unset, .unset, .unset, .unset, .unset, .unset, .unset, .unset, .unset, .unset] [])) _
    refine XS.iload X0.here hx rfl (hb hby at_14) rfl ?_
    show Steps p.tables e below (s₁.setTop (mkF m 16 #[.val (.long pp), .second, .val (.long xx), .second, .val (.long yy), .second, .val (.int nn), .val (.int mm), .val (.int flags), .val (.int num), .unset, .unset, .unset, .unset, .unset, .unset, .unset, .unset, .unset, .unset, .unset, .unset, .unset, .unset, .unset, .unset] [(.int flags)])) _
    refine XS.bipush X0.here hx rfl (hb hby at_16) ?_
    show Steps p.tables e below (s₁.setTop (mkF m 18 #[.val (.long pp), .second, .val (.long xx), .second, .val (.long yy), .second, .val (.int nn), .val (.int mm), .val (.int flags), .val (.int num), .unset, .unset, .unset, .unset, .unset, .unset, .unset, .unset, .unset, .unset, .unset, .unset, .unset, .unset, .unset, .unset] [(.int (8 : Int32)), (.int flags)])) _
    refine XS.iand X0.here hx rfl (hb hby at_18) rfl ?_
    show Steps p.tables e below (s₁.setTop (mkF m 19 #[.val (.long pp), .second, .val (.long xx), .second, .val (.long yy), .second, .val (.int nn), .val (.int mm), .val (.int flags), .val (.int num), .unset, .unset, .unset, .unset, .unset, .unset, .unset, .unset, .unset, .unset, .unset, .unset, .unset, .unset, .unset, .unset] [(.int (flags &&& (8 : Int32)))])) _
    exact kt
  have k10 : ∀ tg, Steps p.tables e below (s₁.setTop (mkF m 27 #[.val (.long pp), .second, .val (.long xx), .second, .val (.long yy), .second, .val (.int nn), .val (.int mm), .val (.int flags), .val (.int num), .unset, .unset, .unset, .unset, .unset, .unset, .unset, .unset, .unset, .unset, .unset, .unset, .unset, .unset, .unset, .unset] [(.int (if (flags &&& (8 : Int32)) = (0 : Int32) then (0 : Int32) else (1 : Int32)))])) tg → Steps p.tables e below (s₁.setTop (entryFrame m #[(.long pp), (.long xx), (.long yy), (.int nn), (.int mm), (.int flags)] maxLocals)) tg := by
    intro tg kt
    refine k6 tg ?_
    show Steps p.tables e below (s₁.setTop (mkF m 19 #[.val (.long pp), .second, .val (.long xx), .second, .val (.long yy), .second, .val (.int nn), .val (.int mm), .val (.int flags), .val (.int num), .unset, .unset, .unset, .unset, .unset, .unset, .unset, .unset, .unset, .unset, .unset, .unset, .unset, .unset, .unset, .unset] [(.int (flags &&& (8 : Int32)))])) _
    by_cases hc7 : (flags &&& (8 : Int32)) = (0 : Int32)
    · refine XS.ifYes X0.here hx rfl (pc0 := 19) (pc' := 26) rfl (hb hby at_19) rfl ((if0 _ _).trans (teq hc7).1) (by decide) (by decide) ?_
      show Steps p.tables e below (s₁.setTop (mkF m 26 #[.val (.long pp), .second, .val (.long xx), .second, .val (.long yy), .second, .val (.int nn), .val (.int mm), .val (.int flags), .val (.int num), .unset, .unset, .unset, .unset, .unset, .unset, .unset, .unset, .unset, .unset, .unset, .unset, .unset, .unset, .unset, .unset] [])) _
      refine XS.iconst X0.here hx rfl (hb hby at_26) ?_
      show Steps p.tables e below (s₁.setTop (mkF m 27 #[.val (.long pp), .second, .val (.long xx), .second, .val (.long yy), .second, .val (.int nn), .val (.int mm), .val (.int flags), .val (.int num), .unset, .unset, .unset, .unset, .unset, .unset, .unset, .unset, .unset, .unset, .unset, .unset, .unset, .unset, .unset, .unset] [(.int (0 : Int32))])) _
      repeat rw [if_pos hc7] at kt
      exact kt
    · refine XS.ifNo X0.here hx rfl (hb hby at_19) rfl ((if0 _ _).trans (feq hc7).1) ?_
      show Steps p.tables e below (s₁.setTop (mkF m 22 #[.val (.long pp), .second, .val (.long xx), .second, .val (.long yy), .second, .val (.int nn), .val (.int mm), .val (.int flags), .val (.int num), .unset, .unset, .unset, .unset, .unset, .unset, .unset, .unset, .unset, .unset, .unset, .unset, .unset, .unset, .unset, .unset] [])) _
      refine XS.iconst X0.here hx rfl (hb hby at_22) ?_
      show Steps p.tables e below (s₁.setTop (mkF m 23 #[.val (.long pp), .second, .val (.long xx), .second, .val (.long yy), .second, .val (.int nn), .val (.int mm), .val (.int flags), .val (.int num), .unset, .unset, .unset, .unset, .unset, .unset, .unset, .unset, .unset, .unset, .unset, .unset, .unset, .unset, .unset, .unset] [(.int (1 : Int32))])) _
      refine XS.goto X0.here hx rfl (pc0 := 23) (pc' := 27) rfl (hb hby at_23) (by decide) (by decide) ?_
      show Steps p.tables e below (s₁.setTop (mkF m 27 #[.val (.long pp), .second, .val (.long xx), .second, .val (.long yy), .second, .val (.int nn), .val (.int mm), .val (.int flags), .val (.int num), .unset, .unset, .unset, .unset, .unset, .unset, .unset, .unset, .unset, .unset, .unset, .unset, .unset, .unset, .unset, .unset] [(.int (1 : Int32))])) _
      repeat rw [if_neg hc7] at kt
      exact kt
  obtain ⟨sml, esml⟩ : ∃ z : Int32, z = (if (flags &&& (8 : Int32)) = (0 : Int32) then (0 : Int32) else (1 : Int32)) := ⟨_, rfl⟩
  have k11 : ∀ tg, Steps p.tables e below (s₁.setTop (mkF m 31 #[.val (.long pp), .second, .val (.long xx), .second, .val (.long yy), .second, .val (.int nn), .val (.int mm), .val (.int flags), .val (.int num), .val (.int sml), .unset, .unset, .unset, .unset, .unset, .unset, .unset, .unset, .unset, .unset, .unset, .unset, .unset, .unset, .unset] [(.int sml)])) tg → Steps p.tables e below (s₁.setTop (entryFrame m #[(.long pp), (.long xx), (.long yy), (.int nn), (.int mm), (.int flags)] maxLocals)) tg := by
    intro tg kt
    refine k10 tg ?_
    show Steps p.tables e below (s₁.setTop (mkF m 27 #[.val (.long pp), .second, .val (.long xx), .second, .val (.long yy), .second, .val (.int nn), .val (.int mm), .val (.int flags), .val (.int num), .unset, .unset, .unset, .unset, .unset, .unset, .unset, .unset, .unset, .unset, .unset, .unset, .unset, .unset, .unset, .unset] [(.int (if (flags &&& (8 : Int32)) = (0 : Int32) then (0 : Int32) else (1 : Int32)))])) _
    rw [← esml]
    show Steps p.tables e below (s₁.setTop (mkF m 27 #[.val (.long pp), .second, .val (.long xx), .second, .val (.long yy), .second, .val (.int nn), .val (.int mm), .val (.int flags), .val (.int num), .unset, .unset, .unset, .unset, .unset, .unset, .unset, .unset, .unset, .unset, .unset, .unset, .unset, .unset, .unset, .unset] [(.int sml)])) _
    refine XS.istore X0.here hx rfl (hb hby at_27) rfl (l' := #[.val (.long pp), .second, .val (.long xx), .second, .val (.long yy), .second, .val (.int nn), .val (.int mm), .val (.int flags), .val (.int num), .val (.int sml), .unset, .unset, .unset, .unset, .unset, .unset, .unset, .unset, .unset, .unset, .unset, .unset, .unset, .unset, .unset]) rfl ?_
    show Steps p.tables e below (s₁.setTop (mkF m 29 #[.val (.long pp), .second, .val (.long xx), .second, .val (.long yy), .second, .val (.int nn), .val (.int mm), .val (.int flags), .val (.int num), .val (.int sml), .unset, .unset, .unset, .unset, .unset, .unset, .unset, .unset, .unset, .unset, .unset, .unset, .unset, .unset, .unset] [])) _
    refine XS.iload X0.here hx rfl (hb hby at_29) rfl ?_
    show Steps p.tables e below (s₁.setTop (mkF m 31 #[.val (.long pp), .second, .val (.long xx), .second, .val (.long yy), .second, .val (.int nn), .val (.int mm), .val (.int flags), .val (.int num), .val (.int sml), .unset, .unset, .unset, .unset, .unset, .unset, .unset, .unset, .unset, .unset, .unset, .unset, .unset, .unset, .unset] [(.int sml)])) _
    exact kt
  have k15 : ∀ tg, Steps p.tables e below (s₁.setTop (mkF m 53 #[.val (.long pp), .second, .val (.long xx), .second, .val (.long yy), .second, .val (.int nn), .val (.int mm), .val (.int flags), .val (.int num), .val (.int sml), .unset, .unset, .unset, .unset, .unset, .unset, .unset, .unset, .unset, .unset, .unset, .unset, .unset, .unset, .unset] [(.long (if sml = (0 : Int32) then ((32768 : Int64) + (pp &&& (1048575 : Int64))) else ((1 : Int64) + (pp &&& (1023 : Int64)))))])) tg → Steps p.tables e below (s₁.setTop (entryFrame m #[(.long pp), (.long xx), (.long yy), (.int nn), (.int mm), (.int flags)] maxLocals)) tg := by
    intro tg kt
    refine k11 tg ?_
    show Steps p.tables e below (s₁.setTop (mkF m 31 #[.val (.long pp), .second, .val (.long xx), .second, .val (.long yy), .second, .val (.int nn), .val (.int mm), .val (.int flags), .val (.int num), .val (.int sml), .unset, .unset, .unset, .unset, .unset, .unset, .unset, .unset, .unset, .unset, .unset, .unset, .unset, .unset, .unset] [(.int sml)])) _
    by_cases hc12 : sml = (0 : Int32)
    · refine XS.ifYes X0.here hx rfl (pc0 := 31) (pc' := 44) rfl (hb hby at_31) rfl ((if0 _ _).trans (teq hc12).1) (by decide) (by decide) ?_
      show Steps p.tables e below (s₁.setTop (mkF m 44 #[.val (.long pp), .second, .val (.long xx), .second, .val (.long yy), .second, .val (.int nn), .val (.int mm), .val (.int flags), .val (.int num), .val (.int sml), .unset, .unset, .unset, .unset, .unset, .unset, .unset, .unset, .unset, .unset, .unset, .unset, .unset, .unset, .unset] [])) _
      refine X0.ldc2Long hx hown (mvT hZ (hw _ (List.mem_of_getElem? (i := 0) rfl))) (g := (mkF m 44 #[.val (.long pp), .second, .val (.long xx), .second, .val (.long yy), .second, .val (.int nn), .val (.int mm), .val (.int flags), .val (.int num), .val (.int sml), .unset, .unset, .unset, .unset, .unset, .unset, .unset, .unset, .unset, .unset, .unset, .unset, .unset, .unset, .unset] [])) rfl (hb hby at_44) _ ?_
      show Steps p.tables e below (s₁.setTop (mkF m 47 #[.val (.long pp), .second, .val (.long xx), .second, .val (.long yy), .second, .val (.int nn), .val (.int mm), .val (.int flags), .val (.int num), .val (.int sml), .unset, .unset, .unset, .unset, .unset, .unset, .unset, .unset, .unset, .unset, .unset, .unset, .unset, .unset, .unset] [(.long (32768 : Int64))])) _
      refine XS.lloadN X0.here hx rfl (hb hby at_47) rfl ?_
      show Steps p.tables e below (s₁.setTop (mkF m 48 #[.val (.long pp), .second, .val (.long xx), .second, .val (.long yy), .second, .val (.int nn), .val (.int mm), .val (.int flags), .val (.int num), .val (.int sml), .unset, .unset, .unset, .unset, .unset, .unset, .unset, .unset, .unset, .unset, .unset, .unset, .unset, .unset, .unset] [(.long pp), (.long (32768 : Int64))])) _
      refine X0.ldc2Long hx hown (mvT hZ (hw _ (List.mem_of_getElem? (i := 1) rfl))) (g := (mkF m 48 #[.val (.long pp), .second, .val (.long xx), .second, .val (.long yy), .second, .val (.int nn), .val (.int mm), .val (.int flags), .val (.int num), .val (.int sml), .unset, .unset, .unset, .unset, .unset, .unset, .unset, .unset, .unset, .unset, .unset, .unset, .unset, .unset, .unset] [(.long pp), (.long (32768 : Int64))])) rfl (hb hby at_48) _ ?_
      show Steps p.tables e below (s₁.setTop (mkF m 51 #[.val (.long pp), .second, .val (.long xx), .second, .val (.long yy), .second, .val (.int nn), .val (.int mm), .val (.int flags), .val (.int num), .val (.int sml), .unset, .unset, .unset, .unset, .unset, .unset, .unset, .unset, .unset, .unset, .unset, .unset, .unset, .unset, .unset] [(.long (1048575 : Int64)), (.long pp), (.long (32768 : Int64))])) _
      refine XS.land X0.here hx rfl (hb hby at_51) rfl ?_
      show Steps p.tables e below (s₁.setTop (mkF m 52 #[.val (.long pp), .second, .val (.long xx), .second, .val (.long yy), .second, .val (.int nn), .val (.int mm), .val (.int flags), .val (.int num), .val (.int sml), .unset, .unset, .unset, .unset, .unset, .unset, .unset, .unset, .unset, .unset, .unset, .unset, .unset, .unset, .unset] [(.long (pp &&& (1048575 : Int64))), (.long (32768 : Int64))])) _
      refine XS.ladd X0.here hx rfl (hb hby at_52) rfl ?_
      show Steps p.tables e below (s₁.setTop (mkF m 53 #[.val (.long pp), .second, .val (.long xx), .second, .val (.long yy), .second, .val (.int nn), .val (.int mm), .val (.int flags), .val (.int num), .val (.int sml), .unset, .unset, .unset, .unset, .unset, .unset, .unset, .unset, .unset, .unset, .unset, .unset, .unset, .unset, .unset] [(.long ((32768 : Int64) + (pp &&& (1048575 : Int64))))])) _
      repeat rw [if_pos hc12] at kt
      exact kt
    · refine XS.ifNo X0.here hx rfl (hb hby at_31) rfl ((if0 _ _).trans (feq hc12).1) ?_
      show Steps p.tables e below (s₁.setTop (mkF m 34 #[.val (.long pp), .second, .val (.long xx), .second, .val (.long yy), .second, .val (.int nn), .val (.int mm), .val (.int flags), .val (.int num), .val (.int sml), .unset, .unset, .unset, .unset, .unset, .unset, .unset, .unset, .unset, .unset, .unset, .unset, .unset, .unset, .unset] [])) _
      refine XS.lconst X0.here hx rfl (hb hby at_34) ?_
      show Steps p.tables e below (s₁.setTop (mkF m 35 #[.val (.long pp), .second, .val (.long xx), .second, .val (.long yy), .second, .val (.int nn), .val (.int mm), .val (.int flags), .val (.int num), .val (.int sml), .unset, .unset, .unset, .unset, .unset, .unset, .unset, .unset, .unset, .unset, .unset, .unset, .unset, .unset, .unset] [(.long (1 : Int64))])) _
      refine XS.lloadN X0.here hx rfl (hb hby at_35) rfl ?_
      show Steps p.tables e below (s₁.setTop (mkF m 36 #[.val (.long pp), .second, .val (.long xx), .second, .val (.long yy), .second, .val (.int nn), .val (.int mm), .val (.int flags), .val (.int num), .val (.int sml), .unset, .unset, .unset, .unset, .unset, .unset, .unset, .unset, .unset, .unset, .unset, .unset, .unset, .unset, .unset] [(.long pp), (.long (1 : Int64))])) _
      refine X0.ldc2Long hx hown (mvT hZ (hw _ (List.mem_of_getElem? (i := 76) rfl))) (g := (mkF m 36 #[.val (.long pp), .second, .val (.long xx), .second, .val (.long yy), .second, .val (.int nn), .val (.int mm), .val (.int flags), .val (.int num), .val (.int sml), .unset, .unset, .unset, .unset, .unset, .unset, .unset, .unset, .unset, .unset, .unset, .unset, .unset, .unset, .unset] [(.long pp), (.long (1 : Int64))])) rfl (hb hby at_36) _ ?_
      show Steps p.tables e below (s₁.setTop (mkF m 39 #[.val (.long pp), .second, .val (.long xx), .second, .val (.long yy), .second, .val (.int nn), .val (.int mm), .val (.int flags), .val (.int num), .val (.int sml), .unset, .unset, .unset, .unset, .unset, .unset, .unset, .unset, .unset, .unset, .unset, .unset, .unset, .unset, .unset] [(.long (1023 : Int64)), (.long pp), (.long (1 : Int64))])) _
      refine XS.land X0.here hx rfl (hb hby at_39) rfl ?_
      show Steps p.tables e below (s₁.setTop (mkF m 40 #[.val (.long pp), .second, .val (.long xx), .second, .val (.long yy), .second, .val (.int nn), .val (.int mm), .val (.int flags), .val (.int num), .val (.int sml), .unset, .unset, .unset, .unset, .unset, .unset, .unset, .unset, .unset, .unset, .unset, .unset, .unset, .unset, .unset] [(.long (pp &&& (1023 : Int64))), (.long (1 : Int64))])) _
      refine XS.ladd X0.here hx rfl (hb hby at_40) rfl ?_
      show Steps p.tables e below (s₁.setTop (mkF m 41 #[.val (.long pp), .second, .val (.long xx), .second, .val (.long yy), .second, .val (.int nn), .val (.int mm), .val (.int flags), .val (.int num), .val (.int sml), .unset, .unset, .unset, .unset, .unset, .unset, .unset, .unset, .unset, .unset, .unset, .unset, .unset, .unset, .unset] [(.long ((1 : Int64) + (pp &&& (1023 : Int64))))])) _
      refine XS.goto X0.here hx rfl (pc0 := 41) (pc' := 53) rfl (hb hby at_41) (by decide) (by decide) ?_
      show Steps p.tables e below (s₁.setTop (mkF m 53 #[.val (.long pp), .second, .val (.long xx), .second, .val (.long yy), .second, .val (.int nn), .val (.int mm), .val (.int flags), .val (.int num), .val (.int sml), .unset, .unset, .unset, .unset, .unset, .unset, .unset, .unset, .unset, .unset, .unset, .unset, .unset, .unset, .unset] [(.long ((1 : Int64) + (pp &&& (1023 : Int64))))])) _
      repeat rw [if_neg hc12] at kt
      exact kt
  obtain ⟨keys, ekeys⟩ : ∃ z : Int64, z = (if sml = (0 : Int32) then ((32768 : Int64) + (pp &&& (1048575 : Int64))) else ((1 : Int64) + (pp &&& (1023 : Int64)))) := ⟨_, rfl⟩
  obtain ⟨KK, hKK, qk1, qk2, qs0, qs1⟩ := own_keys1 pp keys sml ekeys
  obtain ⟨ka, eka⟩ : ∃ z : Int64, z = ((xx &&& (9223372036854775807 : Int64)) - ((xx &&& (9223372036854775807 : Int64)) / keys) * keys) := ⟨_, rfl⟩
  obtain ⟨A0, hA0, lA0⟩ : ∃ A : Nat, ka.toInt = A ∧ A < KK := by rw [eka]; exact own_rem _ _ KK hKK qk1
  have k16 : ∀ tg, Steps p.tables e below (s₁.setTop (mkF m 73 #[.val (.long pp), .second, .val (.long xx), .second, .val (.long yy), .second, .val (.int nn), .val (.int mm), .val (.int flags), .val (.int num), .val (.int sml), .val (.long keys), .second, .val (.long ka), .second, .val (.int (flags &&& (3 : Int32))), .unset, .unset, .unset, .unset, .unset, .unset, .unset, .unset, .unset, .unset] [(.int (flags &&& (3 : Int32)))])) tg → Steps p.tables e below (s₁.setTop (entryFrame m #[(.long pp), (.long xx), (.long yy), (.int nn), (.int mm), (.int flags)] maxLocals)) tg := by
    intro tg kt
    refine k15 tg ?_
    show Steps p.tables e below (s₁.setTop (mkF m 53 #[.val (.long pp), .second, .val (.long xx), .second, .val (.long yy), .second, .val (.int nn), .val (.int mm), .val (.int flags), .val (.int num), .val (.int sml), .unset, .unset, .unset, .unset, .unset, .unset, .unset, .unset, .unset, .unset, .unset, .unset, .unset, .unset, .unset] [(.long (if sml = (0 : Int32) then ((32768 : Int64) + (pp &&& (1048575 : Int64))) else ((1 : Int64) + (pp &&& (1023 : Int64)))))])) _
    rw [← ekeys]
    show Steps p.tables e below (s₁.setTop (mkF m 53 #[.val (.long pp), .second, .val (.long xx), .second, .val (.long yy), .second, .val (.int nn), .val (.int mm), .val (.int flags), .val (.int num), .val (.int sml), .unset, .unset, .unset, .unset, .unset, .unset, .unset, .unset, .unset, .unset, .unset, .unset, .unset, .unset, .unset] [(.long keys)])) _
    refine XS.lstore X0.here hx rfl (hb hby at_53) rfl (l' := #[.val (.long pp), .second, .val (.long xx), .second, .val (.long yy), .second, .val (.int nn), .val (.int mm), .val (.int flags), .val (.int num), .val (.int sml), .val (.long keys), .second, .unset, .unset, .unset, .unset, .unset, .unset, .unset, .unset, .unset, .unset, .unset, .unset, .unset]) rfl ?_
    show Steps p.tables e below (s₁.setTop (mkF m 55 #[.val (.long pp), .second, .val (.long xx), .second, .val (.long yy), .second, .val (.int nn), .val (.int mm), .val (.int flags), .val (.int num), .val (.int sml), .val (.long keys), .second, .unset, .unset, .unset, .unset, .unset, .unset, .unset, .unset, .unset, .unset, .unset, .unset, .unset] [])) _
    refine XS.lloadN X0.here hx rfl (hb hby at_55) rfl ?_
    show Steps p.tables e below (s₁.setTop (mkF m 56 #[.val (.long pp), .second, .val (.long xx), .second, .val (.long yy), .second, .val (.int nn), .val (.int mm), .val (.int flags), .val (.int num), .val (.int sml), .val (.long keys), .second, .unset, .unset, .unset, .unset, .unset, .unset, .unset, .unset, .unset, .unset, .unset, .unset, .unset] [(.long xx)])) _
    refine X0.ldc2Long hx hown (mvT hZ (hw _ (List.mem_of_getElem? (i := 2) rfl))) (g := (mkF m 56 #[.val (.long pp), .second, .val (.long xx), .second, .val (.long yy), .second, .val (.int nn), .val (.int mm), .val (.int flags), .val (.int num), .val (.int sml), .val (.long keys), .second, .unset, .unset, .unset, .unset, .unset, .unset, .unset, .unset, .unset, .unset, .unset, .unset, .unset] [(.long xx)])) rfl (hb hby at_56) _ ?_
    show Steps p.tables e below (s₁.setTop (mkF m 59 #[.val (.long pp), .second, .val (.long xx), .second, .val (.long yy), .second, .val (.int nn), .val (.int mm), .val (.int flags), .val (.int num), .val (.int sml), .val (.long keys), .second, .unset, .unset, .unset, .unset, .unset, .unset, .unset, .unset, .unset, .unset, .unset, .unset, .unset] [(.long (9223372036854775807 : Int64)), (.long xx)])) _
    refine XS.land X0.here hx rfl (hb hby at_59) rfl ?_
    show Steps p.tables e below (s₁.setTop (mkF m 60 #[.val (.long pp), .second, .val (.long xx), .second, .val (.long yy), .second, .val (.int nn), .val (.int mm), .val (.int flags), .val (.int num), .val (.int sml), .val (.long keys), .second, .unset, .unset, .unset, .unset, .unset, .unset, .unset, .unset, .unset, .unset, .unset, .unset, .unset] [(.long (xx &&& (9223372036854775807 : Int64)))])) _
    refine XS.lload X0.here hx rfl (hb hby at_60) rfl ?_
    show Steps p.tables e below (s₁.setTop (mkF m 62 #[.val (.long pp), .second, .val (.long xx), .second, .val (.long yy), .second, .val (.int nn), .val (.int mm), .val (.int flags), .val (.int num), .val (.int sml), .val (.long keys), .second, .unset, .unset, .unset, .unset, .unset, .unset, .unset, .unset, .unset, .unset, .unset, .unset, .unset] [(.long keys), (.long (xx &&& (9223372036854775807 : Int64)))])) _
    refine XS.lrem X0.here hx rfl (hb hby at_62) rfl (own_kne keys KK hKK qk1) ?_
    show Steps p.tables e below (s₁.setTop (mkF m 63 #[.val (.long pp), .second, .val (.long xx), .second, .val (.long yy), .second, .val (.int nn), .val (.int mm), .val (.int flags), .val (.int num), .val (.int sml), .val (.long keys), .second, .unset, .unset, .unset, .unset, .unset, .unset, .unset, .unset, .unset, .unset, .unset, .unset, .unset] [(.long ((xx &&& (9223372036854775807 : Int64)) - ((xx &&& (9223372036854775807 : Int64)) / keys) * keys))])) _
    refine XS.lstore X0.here hx rfl (hb hby at_63) rfl (l' := #[.val (.long pp), .second, .val (.long xx), .second, .val (.long yy), .second, .val (.int nn), .val (.int mm), .val (.int flags), .val (.int num), .val (.int sml), .val (.long keys), .second, .val (.long ((xx &&& (9223372036854775807 : Int64)) - ((xx &&& (9223372036854775807 : Int64)) / keys) * keys)), .second, .unset, .unset, .unset, .unset, .unset, .unset, .unset, .unset, .unset, .unset, .unset]) rfl ?_
    show Steps p.tables e below (s₁.setTop (mkF m 65 #[.val (.long pp), .second, .val (.long xx), .second, .val (.long yy), .second, .val (.int nn), .val (.int mm), .val (.int flags), .val (.int num), .val (.int sml), .val (.long keys), .second, .val (.long ((xx &&& (9223372036854775807 : Int64)) - ((xx &&& (9223372036854775807 : Int64)) / keys) * keys)), .second, .unset, .unset, .unset, .unset, .unset, .unset, .unset, .unset, .unset, .unset, .unset] [])) _
    rw [← eka]
    show Steps p.tables e below (s₁.setTop (mkF m 65 #[.val (.long pp), .second, .val (.long xx), .second, .val (.long yy), .second, .val (.int nn), .val (.int mm), .val (.int flags), .val (.int num), .val (.int sml), .val (.long keys), .second, .val (.long ka), .second, .unset, .unset, .unset, .unset, .unset, .unset, .unset, .unset, .unset, .unset, .unset] [])) _
    refine XS.iload X0.here hx rfl (hb hby at_65) rfl ?_
    show Steps p.tables e below (s₁.setTop (mkF m 67 #[.val (.long pp), .second, .val (.long xx), .second, .val (.long yy), .second, .val (.int nn), .val (.int mm), .val (.int flags), .val (.int num), .val (.int sml), .val (.long keys), .second, .val (.long ka), .second, .unset, .unset, .unset, .unset, .unset, .unset, .unset, .unset, .unset, .unset, .unset] [(.int flags)])) _
    refine XS.iconst X0.here hx rfl (hb hby at_67) ?_
    show Steps p.tables e below (s₁.setTop (mkF m 68 #[.val (.long pp), .second, .val (.long xx), .second, .val (.long yy), .second, .val (.int nn), .val (.int mm), .val (.int flags), .val (.int num), .val (.int sml), .val (.long keys), .second, .val (.long ka), .second, .unset, .unset, .unset, .unset, .unset, .unset, .unset, .unset, .unset, .unset, .unset] [(.int (3 : Int32)), (.int flags)])) _
    refine XS.iand X0.here hx rfl (hb hby at_68) rfl ?_
    show Steps p.tables e below (s₁.setTop (mkF m 69 #[.val (.long pp), .second, .val (.long xx), .second, .val (.long yy), .second, .val (.int nn), .val (.int mm), .val (.int flags), .val (.int num), .val (.int sml), .val (.long keys), .second, .val (.long ka), .second, .unset, .unset, .unset, .unset, .unset, .unset, .unset, .unset, .unset, .unset, .unset] [(.int (flags &&& (3 : Int32)))])) _
    refine XS.istore X0.here hx rfl (hb hby at_69) rfl (l' := #[.val (.long pp), .second, .val (.long xx), .second, .val (.long yy), .second, .val (.int nn), .val (.int mm), .val (.int flags), .val (.int num), .val (.int sml), .val (.long keys), .second, .val (.long ka), .second, .val (.int (flags &&& (3 : Int32))), .unset, .unset, .unset, .unset, .unset, .unset, .unset, .unset, .unset, .unset]) rfl ?_
    show Steps p.tables e below (s₁.setTop (mkF m 71 #[.val (.long pp), .second, .val (.long xx), .second, .val (.long yy), .second, .val (.int nn), .val (.int mm), .val (.int flags), .val (.int num), .val (.int sml), .val (.long keys), .second, .val (.long ka), .second, .val (.int (flags &&& (3 : Int32))), .unset, .unset, .unset, .unset, .unset, .unset, .unset, .unset, .unset, .unset] [])) _
    refine XS.iload X0.here hx rfl (hb hby at_71) rfl ?_
    show Steps p.tables e below (s₁.setTop (mkF m 73 #[.val (.long pp), .second, .val (.long xx), .second, .val (.long yy), .second, .val (.int nn), .val (.int mm), .val (.int flags), .val (.int num), .val (.int sml), .val (.long keys), .second, .val (.long ka), .second, .val (.int (flags &&& (3 : Int32))), .unset, .unset, .unset, .unset, .unset, .unset, .unset, .unset, .unset, .unset] [(.int (flags &&& (3 : Int32)))])) _
    exact kt
  have k22 : ∀ tg, Steps p.tables e below (s₁.setTop (mkF m 117 #[.val (.long pp), .second, .val (.long xx), .second, .val (.long yy), .second, .val (.int nn), .val (.int mm), .val (.int flags), .val (.int num), .val (.int sml), .val (.long keys), .second, .val (.long ka), .second, .val (.int (flags &&& (3 : Int32))), .val (.long (if (flags &&& (3 : Int32)) = (0 : Int32) then ka else (if (flags &&& (3 : Int32)) = (1 : Int32) then ((ka + (yy &&& (127 : Int64))) - ((ka + (yy &&& (127 : Int64))) / keys) * keys) else ((yy &&& (9223372036854775807 : Int64)) - ((yy &&& (9223372036854775807 : Int64)) / keys) * keys)))), .second, .unset, .unset, .unset, .unset, .unset, .unset, .unset, .unset] [])) tg → Steps p.tables e below (s₁.setTop (entryFrame m #[(.long pp), (.long xx), (.long yy), (.int nn), (.int mm), (.int flags)] maxLocals)) tg := by
    intro tg kt
    refine k16 tg ?_
    show Steps p.tables e below (s₁.setTop (mkF m 73 #[.val (.long pp), .second, .val (.long xx), .second, .val (.long yy), .second, .val (.int nn), .val (.int mm), .val (.int flags), .val (.int num), .val (.int sml), .val (.long keys), .second, .val (.long ka), .second, .val (.int (flags &&& (3 : Int32))), .unset, .unset, .unset, .unset, .unset, .unset, .unset, .unset, .unset, .unset] [(.int (flags &&& (3 : Int32)))])) _
    by_cases hc17 : (flags &&& (3 : Int32)) = (0 : Int32)
    · refine XS.ifNo X0.here hx rfl (hb hby at_73) rfl ((if0 _ _).trans (teq hc17).2) ?_
      show Steps p.tables e below (s₁.setTop (mkF m 76 #[.val (.long pp), .second, .val (.long xx), .second, .val (.long yy), .second, .val (.int nn), .val (.int mm), .val (.int flags), .val (.int num), .val (.int sml), .val (.long keys), .second, .val (.long ka), .second, .val (.int (flags &&& (3 : Int32))), .unset, .unset, .unset, .unset, .unset, .unset, .unset, .unset, .unset, .unset] [])) _
      refine XS.lload X0.here hx rfl (hb hby at_76) rfl ?_
      show Steps p.tables e below (s₁.setTop (mkF m 78 #[.val (.long pp), .second, .val (.long xx), .second, .val (.long yy), .second, .val (.int nn), .val (.int mm), .val (.int flags), .val (.int num), .val (.int sml), .val (.long keys), .second, .val (.long ka), .second, .val (.int (flags &&& (3 : Int32))), .unset, .unset, .unset, .unset, .unset, .unset, .unset, .unset, .unset, .unset] [(.long ka)])) _
      refine XS.lstore X0.here hx rfl (hb hby at_78) rfl (l' := #[.val (.long pp), .second, .val (.long xx), .second, .val (.long yy), .second, .val (.int nn), .val (.int mm), .val (.int flags), .val (.int num), .val (.int sml), .val (.long keys), .second, .val (.long ka), .second, .val (.int (flags &&& (3 : Int32))), .val (.long ka), .second, .unset, .unset, .unset, .unset, .unset, .unset, .unset, .unset]) rfl ?_
      show Steps p.tables e below (s₁.setTop (mkF m 80 #[.val (.long pp), .second, .val (.long xx), .second, .val (.long yy), .second, .val (.int nn), .val (.int mm), .val (.int flags), .val (.int num), .val (.int sml), .val (.long keys), .second, .val (.long ka), .second, .val (.int (flags &&& (3 : Int32))), .val (.long ka), .second, .unset, .unset, .unset, .unset, .unset, .unset, .unset, .unset] [])) _
      refine XS.goto X0.here hx rfl (pc0 := 80) (pc' := 117) rfl (hb hby at_80) (by decide) (by decide) ?_
      show Steps p.tables e below (s₁.setTop (mkF m 117 #[.val (.long pp), .second, .val (.long xx), .second, .val (.long yy), .second, .val (.int nn), .val (.int mm), .val (.int flags), .val (.int num), .val (.int sml), .val (.long keys), .second, .val (.long ka), .second, .val (.int (flags &&& (3 : Int32))), .val (.long ka), .second, .unset, .unset, .unset, .unset, .unset, .unset, .unset, .unset] [])) _
      repeat rw [if_pos hc17] at kt
      exact kt
    · refine XS.ifYes X0.here hx rfl (pc0 := 73) (pc' := 83) rfl (hb hby at_73) rfl ((if0 _ _).trans (feq hc17).2) (by decide) (by decide) ?_
      show Steps p.tables e below (s₁.setTop (mkF m 83 #[.val (.long pp), .second, .val (.long xx), .second, .val (.long yy), .second, .val (.int nn), .val (.int mm), .val (.int flags), .val (.int num), .val (.int sml), .val (.long keys), .second, .val (.long ka), .second, .val (.int (flags &&& (3 : Int32))), .unset, .unset, .unset, .unset, .unset, .unset, .unset, .unset, .unset, .unset] [])) _
      refine XS.iload X0.here hx rfl (hb hby at_83) rfl ?_
      show Steps p.tables e below (s₁.setTop (mkF m 85 #[.val (.long pp), .second, .val (.long xx), .second, .val (.long yy), .second, .val (.int nn), .val (.int mm), .val (.int flags), .val (.int num), .val (.int sml), .val (.long keys), .second, .val (.long ka), .second, .val (.int (flags &&& (3 : Int32))), .unset, .unset, .unset, .unset, .unset, .unset, .unset, .unset, .unset, .unset] [(.int (flags &&& (3 : Int32)))])) _
      refine XS.iconst X0.here hx rfl (hb hby at_85) ?_
      show Steps p.tables e below (s₁.setTop (mkF m 86 #[.val (.long pp), .second, .val (.long xx), .second, .val (.long yy), .second, .val (.int nn), .val (.int mm), .val (.int flags), .val (.int num), .val (.int sml), .val (.long keys), .second, .val (.long ka), .second, .val (.int (flags &&& (3 : Int32))), .unset, .unset, .unset, .unset, .unset, .unset, .unset, .unset, .unset, .unset] [(.int (1 : Int32)), (.int (flags &&& (3 : Int32)))])) _
      by_cases hc19 : (flags &&& (3 : Int32)) = (1 : Int32)
      · refine XS.icmpNo X0.here hx rfl (hb hby at_86) rfl (teq hc19).2 ?_
        show Steps p.tables e below (s₁.setTop (mkF m 89 #[.val (.long pp), .second, .val (.long xx), .second, .val (.long yy), .second, .val (.int nn), .val (.int mm), .val (.int flags), .val (.int num), .val (.int sml), .val (.long keys), .second, .val (.long ka), .second, .val (.int (flags &&& (3 : Int32))), .unset, .unset, .unset, .unset, .unset, .unset, .unset, .unset, .unset, .unset] [])) _
        refine XS.lload X0.here hx rfl (hb hby at_89) rfl ?_
        show Steps p.tables e below (s₁.setTop (mkF m 91 #[.val (.long pp), .second, .val (.long xx), .second, .val (.long yy), .second, .val (.int nn), .val (.int mm), .val (.int flags), .val (.int num), .val (.int sml), .val (.long keys), .second, .val (.long ka), .second, .val (.int (flags &&& (3 : Int32))), .unset, .unset, .unset, .unset, .unset, .unset, .unset, .unset, .unset, .unset] [(.long ka)])) _
        refine XS.lload X0.here hx rfl (hb hby at_91) rfl ?_
        show Steps p.tables e below (s₁.setTop (mkF m 93 #[.val (.long pp), .second, .val (.long xx), .second, .val (.long yy), .second, .val (.int nn), .val (.int mm), .val (.int flags), .val (.int num), .val (.int sml), .val (.long keys), .second, .val (.long ka), .second, .val (.int (flags &&& (3 : Int32))), .unset, .unset, .unset, .unset, .unset, .unset, .unset, .unset, .unset, .unset] [(.long yy), (.long ka)])) _
        refine X0.ldc2Long hx hown (mvT hZ (hw _ (List.mem_of_getElem? (i := 77) rfl))) (g := (mkF m 93 #[.val (.long pp), .second, .val (.long xx), .second, .val (.long yy), .second, .val (.int nn), .val (.int mm), .val (.int flags), .val (.int num), .val (.int sml), .val (.long keys), .second, .val (.long ka), .second, .val (.int (flags &&& (3 : Int32))), .unset, .unset, .unset, .unset, .unset, .unset, .unset, .unset, .unset, .unset] [(.long yy), (.long ka)])) rfl (hb hby at_93) _ ?_
        show Steps p.tables e below (s₁.setTop (mkF m 96 #[.val (.long pp), .second, .val (.long xx), .second, .val (.long yy), .second, .val (.int nn), .val (.int mm), .val (.int flags), .val (.int num), .val (.int sml), .val (.long keys), .second, .val (.long ka), .second, .val (.int (flags &&& (3 : Int32))), .unset, .unset, .unset, .unset, .unset, .unset, .unset, .unset, .unset, .unset] [(.long (127 : Int64)), (.long yy), (.long ka)])) _
        refine XS.land X0.here hx rfl (hb hby at_96) rfl ?_
        show Steps p.tables e below (s₁.setTop (mkF m 97 #[.val (.long pp), .second, .val (.long xx), .second, .val (.long yy), .second, .val (.int nn), .val (.int mm), .val (.int flags), .val (.int num), .val (.int sml), .val (.long keys), .second, .val (.long ka), .second, .val (.int (flags &&& (3 : Int32))), .unset, .unset, .unset, .unset, .unset, .unset, .unset, .unset, .unset, .unset] [(.long (yy &&& (127 : Int64))), (.long ka)])) _
        refine XS.ladd X0.here hx rfl (hb hby at_97) rfl ?_
        show Steps p.tables e below (s₁.setTop (mkF m 98 #[.val (.long pp), .second, .val (.long xx), .second, .val (.long yy), .second, .val (.int nn), .val (.int mm), .val (.int flags), .val (.int num), .val (.int sml), .val (.long keys), .second, .val (.long ka), .second, .val (.int (flags &&& (3 : Int32))), .unset, .unset, .unset, .unset, .unset, .unset, .unset, .unset, .unset, .unset] [(.long (ka + (yy &&& (127 : Int64))))])) _
        refine XS.lload X0.here hx rfl (hb hby at_98) rfl ?_
        show Steps p.tables e below (s₁.setTop (mkF m 100 #[.val (.long pp), .second, .val (.long xx), .second, .val (.long yy), .second, .val (.int nn), .val (.int mm), .val (.int flags), .val (.int num), .val (.int sml), .val (.long keys), .second, .val (.long ka), .second, .val (.int (flags &&& (3 : Int32))), .unset, .unset, .unset, .unset, .unset, .unset, .unset, .unset, .unset, .unset] [(.long keys), (.long (ka + (yy &&& (127 : Int64))))])) _
        refine XS.lrem X0.here hx rfl (hb hby at_100) rfl (own_kne keys KK hKK qk1) ?_
        show Steps p.tables e below (s₁.setTop (mkF m 101 #[.val (.long pp), .second, .val (.long xx), .second, .val (.long yy), .second, .val (.int nn), .val (.int mm), .val (.int flags), .val (.int num), .val (.int sml), .val (.long keys), .second, .val (.long ka), .second, .val (.int (flags &&& (3 : Int32))), .unset, .unset, .unset, .unset, .unset, .unset, .unset, .unset, .unset, .unset] [(.long ((ka + (yy &&& (127 : Int64))) - ((ka + (yy &&& (127 : Int64))) / keys) * keys))])) _
        refine XS.lstore X0.here hx rfl (hb hby at_101) rfl (l' := #[.val (.long pp), .second, .val (.long xx), .second, .val (.long yy), .second, .val (.int nn), .val (.int mm), .val (.int flags), .val (.int num), .val (.int sml), .val (.long keys), .second, .val (.long ka), .second, .val (.int (flags &&& (3 : Int32))), .val (.long ((ka + (yy &&& (127 : Int64))) - ((ka + (yy &&& (127 : Int64))) / keys) * keys)), .second, .unset, .unset, .unset, .unset, .unset, .unset, .unset, .unset]) rfl ?_
        show Steps p.tables e below (s₁.setTop (mkF m 103 #[.val (.long pp), .second, .val (.long xx), .second, .val (.long yy), .second, .val (.int nn), .val (.int mm), .val (.int flags), .val (.int num), .val (.int sml), .val (.long keys), .second, .val (.long ka), .second, .val (.int (flags &&& (3 : Int32))), .val (.long ((ka + (yy &&& (127 : Int64))) - ((ka + (yy &&& (127 : Int64))) / keys) * keys)), .second, .unset, .unset, .unset, .unset, .unset, .unset, .unset, .unset] [])) _
        refine XS.goto X0.here hx rfl (pc0 := 103) (pc' := 117) rfl (hb hby at_103) (by decide) (by decide) ?_
        show Steps p.tables e below (s₁.setTop (mkF m 117 #[.val (.long pp), .second, .val (.long xx), .second, .val (.long yy), .second, .val (.int nn), .val (.int mm), .val (.int flags), .val (.int num), .val (.int sml), .val (.long keys), .second, .val (.long ka), .second, .val (.int (flags &&& (3 : Int32))), .val (.long ((ka + (yy &&& (127 : Int64))) - ((ka + (yy &&& (127 : Int64))) / keys) * keys)), .second, .unset, .unset, .unset, .unset, .unset, .unset, .unset, .unset] [])) _
        repeat rw [if_neg hc17] at kt
        repeat rw [if_pos hc19] at kt
        exact kt
      · refine XS.icmpYes X0.here hx rfl (pc0 := 86) (pc' := 106) rfl (hb hby at_86) rfl (feq hc19).2 (by decide) (by decide) ?_
        show Steps p.tables e below (s₁.setTop (mkF m 106 #[.val (.long pp), .second, .val (.long xx), .second, .val (.long yy), .second, .val (.int nn), .val (.int mm), .val (.int flags), .val (.int num), .val (.int sml), .val (.long keys), .second, .val (.long ka), .second, .val (.int (flags &&& (3 : Int32))), .unset, .unset, .unset, .unset, .unset, .unset, .unset, .unset, .unset, .unset] [])) _
        refine XS.lload X0.here hx rfl (hb hby at_106) rfl ?_
        show Steps p.tables e below (s₁.setTop (mkF m 108 #[.val (.long pp), .second, .val (.long xx), .second, .val (.long yy), .second, .val (.int nn), .val (.int mm), .val (.int flags), .val (.int num), .val (.int sml), .val (.long keys), .second, .val (.long ka), .second, .val (.int (flags &&& (3 : Int32))), .unset, .unset, .unset, .unset, .unset, .unset, .unset, .unset, .unset, .unset] [(.long yy)])) _
        refine X0.ldc2Long hx hown (mvT hZ (hw _ (List.mem_of_getElem? (i := 2) rfl))) (g := (mkF m 108 #[.val (.long pp), .second, .val (.long xx), .second, .val (.long yy), .second, .val (.int nn), .val (.int mm), .val (.int flags), .val (.int num), .val (.int sml), .val (.long keys), .second, .val (.long ka), .second, .val (.int (flags &&& (3 : Int32))), .unset, .unset, .unset, .unset, .unset, .unset, .unset, .unset, .unset, .unset] [(.long yy)])) rfl (hb hby at_108) _ ?_
        show Steps p.tables e below (s₁.setTop (mkF m 111 #[.val (.long pp), .second, .val (.long xx), .second, .val (.long yy), .second, .val (.int nn), .val (.int mm), .val (.int flags), .val (.int num), .val (.int sml), .val (.long keys), .second, .val (.long ka), .second, .val (.int (flags &&& (3 : Int32))), .unset, .unset, .unset, .unset, .unset, .unset, .unset, .unset, .unset, .unset] [(.long (9223372036854775807 : Int64)), (.long yy)])) _
        refine XS.land X0.here hx rfl (hb hby at_111) rfl ?_
        show Steps p.tables e below (s₁.setTop (mkF m 112 #[.val (.long pp), .second, .val (.long xx), .second, .val (.long yy), .second, .val (.int nn), .val (.int mm), .val (.int flags), .val (.int num), .val (.int sml), .val (.long keys), .second, .val (.long ka), .second, .val (.int (flags &&& (3 : Int32))), .unset, .unset, .unset, .unset, .unset, .unset, .unset, .unset, .unset, .unset] [(.long (yy &&& (9223372036854775807 : Int64)))])) _
        refine XS.lload X0.here hx rfl (hb hby at_112) rfl ?_
        show Steps p.tables e below (s₁.setTop (mkF m 114 #[.val (.long pp), .second, .val (.long xx), .second, .val (.long yy), .second, .val (.int nn), .val (.int mm), .val (.int flags), .val (.int num), .val (.int sml), .val (.long keys), .second, .val (.long ka), .second, .val (.int (flags &&& (3 : Int32))), .unset, .unset, .unset, .unset, .unset, .unset, .unset, .unset, .unset, .unset] [(.long keys), (.long (yy &&& (9223372036854775807 : Int64)))])) _
        refine XS.lrem X0.here hx rfl (hb hby at_114) rfl (own_kne keys KK hKK qk1) ?_
        show Steps p.tables e below (s₁.setTop (mkF m 115 #[.val (.long pp), .second, .val (.long xx), .second, .val (.long yy), .second, .val (.int nn), .val (.int mm), .val (.int flags), .val (.int num), .val (.int sml), .val (.long keys), .second, .val (.long ka), .second, .val (.int (flags &&& (3 : Int32))), .unset, .unset, .unset, .unset, .unset, .unset, .unset, .unset, .unset, .unset] [(.long ((yy &&& (9223372036854775807 : Int64)) - ((yy &&& (9223372036854775807 : Int64)) / keys) * keys))])) _
        refine XS.lstore X0.here hx rfl (hb hby at_115) rfl (l' := #[.val (.long pp), .second, .val (.long xx), .second, .val (.long yy), .second, .val (.int nn), .val (.int mm), .val (.int flags), .val (.int num), .val (.int sml), .val (.long keys), .second, .val (.long ka), .second, .val (.int (flags &&& (3 : Int32))), .val (.long ((yy &&& (9223372036854775807 : Int64)) - ((yy &&& (9223372036854775807 : Int64)) / keys) * keys)), .second, .unset, .unset, .unset, .unset, .unset, .unset, .unset, .unset]) rfl ?_
        show Steps p.tables e below (s₁.setTop (mkF m 117 #[.val (.long pp), .second, .val (.long xx), .second, .val (.long yy), .second, .val (.int nn), .val (.int mm), .val (.int flags), .val (.int num), .val (.int sml), .val (.long keys), .second, .val (.long ka), .second, .val (.int (flags &&& (3 : Int32))), .val (.long ((yy &&& (9223372036854775807 : Int64)) - ((yy &&& (9223372036854775807 : Int64)) / keys) * keys)), .second, .unset, .unset, .unset, .unset, .unset, .unset, .unset, .unset] [])) _
        repeat rw [if_neg hc17] at kt
        repeat rw [if_neg hc19] at kt
        exact kt
  obtain ⟨kb, ekb⟩ : ∃ z : Int64, z = (if (flags &&& (3 : Int32)) = (0 : Int32) then ka else (if (flags &&& (3 : Int32)) = (1 : Int32) then ((ka + (yy &&& (127 : Int64))) - ((ka + (yy &&& (127 : Int64))) / keys) * keys) else ((yy &&& (9223372036854775807 : Int64)) - ((yy &&& (9223372036854775807 : Int64)) / keys) * keys))) := ⟨_, rfl⟩
  obtain ⟨B0, hB0, lB0⟩ : ∃ A : Nat, kb.toInt = A ∧ A < KK := by
    rw [ekb]; split
    · exact ⟨A0, hA0, lA0⟩
    · split
      · exact own_remB ka yy keys A0 KK hA0 lA0 hKK qk1 qk2
      · exact own_rem _ _ KK hKK qk1
  obtain ⟨c0, ec0⟩ : ∃ z : Int64, z = ((ka + ((((flags.toUInt32 >>> ((4 : Int32) &&& 31).toUInt32).toInt32) &&& (255 : Int32)).toInt64)) - (128 : Int64)) := ⟨_, rfl⟩
  obtain ⟨kc, ekc⟩ : ∃ z : Int64, z = (((c0 - (c0 / keys) * keys) + keys) - (((c0 - (c0 / keys) * keys) + keys) / keys) * keys) := ⟨_, rfl⟩
  obtain ⟨C0, hC0, lC0⟩ : ∃ A : Nat, kc.toInt = A ∧ A < KK := by rw [ekc]; exact own_remC _ keys KK hKK qk1 qk2
  obtain ⟨na, ena⟩ : ∃ z : Int32, z = (nn &&& (2147483647 : Int32)) := ⟨_, rfl⟩
  obtain ⟨nb, enb⟩ : ∃ z : Int32, z = (mm &&& (2147483647 : Int32)) := ⟨_, rfl⟩
  have k23 : ∀ tg, Steps p.tables e below (s₁.setTop (mkF m 162 #[.val (.long pp), .second, .val (.long xx), .second, .val (.long yy), .second, .val (.int nn), .val (.int mm), .val (.int flags), .val (.int num), .val (.int sml), .val (.long keys), .second, .val (.long ka), .second, .val (.int (flags &&& (3 : Int32))), .val (.long kb), .second, .val (.long kc), .second, .val (.int na), .val (.int nb), .unset, .unset, .unset, .unset] [])) tg → Steps p.tables e below (s₁.setTop (entryFrame m #[(.long pp), (.long xx), (.long yy), (.int nn), (.int mm), (.int flags)] maxLocals)) tg := by
    intro tg kt
    refine k22 tg ?_
    show Steps p.tables e below (s₁.setTop (mkF m 117 #[.val (.long pp), .second, .val (.long xx), .second, .val (.long yy), .second, .val (.int nn), .val (.int mm), .val (.int flags), .val (.int num), .val (.int sml), .val (.long keys), .second, .val (.long ka), .second, .val (.int (flags &&& (3 : Int32))), .val (.long (if (flags &&& (3 : Int32)) = (0 : Int32) then ka else (if (flags &&& (3 : Int32)) = (1 : Int32) then ((ka + (yy &&& (127 : Int64))) - ((ka + (yy &&& (127 : Int64))) / keys) * keys) else ((yy &&& (9223372036854775807 : Int64)) - ((yy &&& (9223372036854775807 : Int64)) / keys) * keys)))), .second, .unset, .unset, .unset, .unset, .unset, .unset, .unset, .unset] [])) _
    rw [← ekb]
    show Steps p.tables e below (s₁.setTop (mkF m 117 #[.val (.long pp), .second, .val (.long xx), .second, .val (.long yy), .second, .val (.int nn), .val (.int mm), .val (.int flags), .val (.int num), .val (.int sml), .val (.long keys), .second, .val (.long ka), .second, .val (.int (flags &&& (3 : Int32))), .val (.long kb), .second, .unset, .unset, .unset, .unset, .unset, .unset, .unset, .unset] [])) _
    refine XS.lload X0.here hx rfl (hb hby at_117) rfl ?_
    show Steps p.tables e below (s₁.setTop (mkF m 119 #[.val (.long pp), .second, .val (.long xx), .second, .val (.long yy), .second, .val (.int nn), .val (.int mm), .val (.int flags), .val (.int num), .val (.int sml), .val (.long keys), .second, .val (.long ka), .second, .val (.int (flags &&& (3 : Int32))), .val (.long kb), .second, .unset, .unset, .unset, .unset, .unset, .unset, .unset, .unset] [(.long ka)])) _
    refine XS.iload X0.here hx rfl (hb hby at_119) rfl ?_
    show Steps p.tables e below (s₁.setTop (mkF m 121 #[.val (.long pp), .second, .val (.long xx), .second, .val (.long yy), .second, .val (.int nn), .val (.int mm), .val (.int flags), .val (.int num), .val (.int sml), .val (.long keys), .second, .val (.long ka), .second, .val (.int (flags &&& (3 : Int32))), .val (.long kb), .second, .unset, .unset, .unset, .unset, .unset, .unset, .unset, .unset] [(.int flags), (.long ka)])) _
    refine XS.iconst X0.here hx rfl (hb hby at_121) ?_
    show Steps p.tables e below (s₁.setTop (mkF m 122 #[.val (.long pp), .second, .val (.long xx), .second, .val (.long yy), .second, .val (.int nn), .val (.int mm), .val (.int flags), .val (.int num), .val (.int sml), .val (.long keys), .second, .val (.long ka), .second, .val (.int (flags &&& (3 : Int32))), .val (.long kb), .second, .unset, .unset, .unset, .unset, .unset, .unset, .unset, .unset] [(.int (4 : Int32)), (.int flags), (.long ka)])) _
    refine XS.iushr X0.here hx rfl (hb hby at_122) rfl ?_
    show Steps p.tables e below (s₁.setTop (mkF m 123 #[.val (.long pp), .second, .val (.long xx), .second, .val (.long yy), .second, .val (.int nn), .val (.int mm), .val (.int flags), .val (.int num), .val (.int sml), .val (.long keys), .second, .val (.long ka), .second, .val (.int (flags &&& (3 : Int32))), .val (.long kb), .second, .unset, .unset, .unset, .unset, .unset, .unset, .unset, .unset] [(.int ((flags.toUInt32 >>> ((4 : Int32) &&& 31).toUInt32).toInt32)), (.long ka)])) _
    refine XS.sipush X0.here hx rfl (hb hby at_123) ?_
    show Steps p.tables e below (s₁.setTop (mkF m 126 #[.val (.long pp), .second, .val (.long xx), .second, .val (.long yy), .second, .val (.int nn), .val (.int mm), .val (.int flags), .val (.int num), .val (.int sml), .val (.long keys), .second, .val (.long ka), .second, .val (.int (flags &&& (3 : Int32))), .val (.long kb), .second, .unset, .unset, .unset, .unset, .unset, .unset, .unset, .unset] [(.int (255 : Int32)), (.int ((flags.toUInt32 >>> ((4 : Int32) &&& 31).toUInt32).toInt32)), (.long ka)])) _
    refine XS.iand X0.here hx rfl (hb hby at_126) rfl ?_
    show Steps p.tables e below (s₁.setTop (mkF m 127 #[.val (.long pp), .second, .val (.long xx), .second, .val (.long yy), .second, .val (.int nn), .val (.int mm), .val (.int flags), .val (.int num), .val (.int sml), .val (.long keys), .second, .val (.long ka), .second, .val (.int (flags &&& (3 : Int32))), .val (.long kb), .second, .unset, .unset, .unset, .unset, .unset, .unset, .unset, .unset] [(.int (((flags.toUInt32 >>> ((4 : Int32) &&& 31).toUInt32).toInt32) &&& (255 : Int32))), (.long ka)])) _
    refine XS.i2l X0.here hx rfl (hb hby at_127) rfl ?_
    show Steps p.tables e below (s₁.setTop (mkF m 128 #[.val (.long pp), .second, .val (.long xx), .second, .val (.long yy), .second, .val (.int nn), .val (.int mm), .val (.int flags), .val (.int num), .val (.int sml), .val (.long keys), .second, .val (.long ka), .second, .val (.int (flags &&& (3 : Int32))), .val (.long kb), .second, .unset, .unset, .unset, .unset, .unset, .unset, .unset, .unset] [(.long ((((flags.toUInt32 >>> ((4 : Int32) &&& 31).toUInt32).toInt32) &&& (255 : Int32)).toInt64)), (.long ka)])) _
    refine XS.ladd X0.here hx rfl (hb hby at_128) rfl ?_
    show Steps p.tables e below (s₁.setTop (mkF m 129 #[.val (.long pp), .second, .val (.long xx), .second, .val (.long yy), .second, .val (.int nn), .val (.int mm), .val (.int flags), .val (.int num), .val (.int sml), .val (.long keys), .second, .val (.long ka), .second, .val (.int (flags &&& (3 : Int32))), .val (.long kb), .second, .unset, .unset, .unset, .unset, .unset, .unset, .unset, .unset] [(.long (ka + ((((flags.toUInt32 >>> ((4 : Int32) &&& 31).toUInt32).toInt32) &&& (255 : Int32)).toInt64)))])) _
    refine X0.ldc2Long hx hown (mvT hZ (hw _ (List.mem_of_getElem? (i := 3) rfl))) (g := (mkF m 129 #[.val (.long pp), .second, .val (.long xx), .second, .val (.long yy), .second, .val (.int nn), .val (.int mm), .val (.int flags), .val (.int num), .val (.int sml), .val (.long keys), .second, .val (.long ka), .second, .val (.int (flags &&& (3 : Int32))), .val (.long kb), .second, .unset, .unset, .unset, .unset, .unset, .unset, .unset, .unset] [(.long (ka + ((((flags.toUInt32 >>> ((4 : Int32) &&& 31).toUInt32).toInt32) &&& (255 : Int32)).toInt64)))])) rfl (hb hby at_129) _ ?_
    show Steps p.tables e below (s₁.setTop (mkF m 132 #[.val (.long pp), .second, .val (.long xx), .second, .val (.long yy), .second, .val (.int nn), .val (.int mm), .val (.int flags), .val (.int num), .val (.int sml), .val (.long keys), .second, .val (.long ka), .second, .val (.int (flags &&& (3 : Int32))), .val (.long kb), .second, .unset, .unset, .unset, .unset, .unset, .unset, .unset, .unset] [(.long (128 : Int64)), (.long (ka + ((((flags.toUInt32 >>> ((4 : Int32) &&& 31).toUInt32).toInt32) &&& (255 : Int32)).toInt64)))])) _
    refine XS.lsub X0.here hx rfl (hb hby at_132) rfl ?_
    show Steps p.tables e below (s₁.setTop (mkF m 133 #[.val (.long pp), .second, .val (.long xx), .second, .val (.long yy), .second, .val (.int nn), .val (.int mm), .val (.int flags), .val (.int num), .val (.int sml), .val (.long keys), .second, .val (.long ka), .second, .val (.int (flags &&& (3 : Int32))), .val (.long kb), .second, .unset, .unset, .unset, .unset, .unset, .unset, .unset, .unset] [(.long ((ka + ((((flags.toUInt32 >>> ((4 : Int32) &&& 31).toUInt32).toInt32) &&& (255 : Int32)).toInt64)) - (128 : Int64)))])) _
    refine XS.lstore X0.here hx rfl (hb hby at_133) rfl (l' := #[.val (.long pp), .second, .val (.long xx), .second, .val (.long yy), .second, .val (.int nn), .val (.int mm), .val (.int flags), .val (.int num), .val (.int sml), .val (.long keys), .second, .val (.long ka), .second, .val (.int (flags &&& (3 : Int32))), .val (.long kb), .second, .val (.long ((ka + ((((flags.toUInt32 >>> ((4 : Int32) &&& 31).toUInt32).toInt32) &&& (255 : Int32)).toInt64)) - (128 : Int64))), .second, .unset, .unset, .unset, .unset, .unset, .unset]) rfl ?_
    show Steps p.tables e below (s₁.setTop (mkF m 135 #[.val (.long pp), .second, .val (.long xx), .second, .val (.long yy), .second, .val (.int nn), .val (.int mm), .val (.int flags), .val (.int num), .val (.int sml), .val (.long keys), .second, .val (.long ka), .second, .val (.int (flags &&& (3 : Int32))), .val (.long kb), .second, .val (.long ((ka + ((((flags.toUInt32 >>> ((4 : Int32) &&& 31).toUInt32).toInt32) &&& (255 : Int32)).toInt64)) - (128 : Int64))), .second, .unset, .unset, .unset, .unset, .unset, .unset] [])) _
    rw [← ec0]
    show Steps p.tables e below (s₁.setTop (mkF m 135 #[.val (.long pp), .second, .val (.long xx), .second, .val (.long yy), .second, .val (.int nn), .val (.int mm), .val (.int flags), .val (.int num), .val (.int sml), .val (.long keys), .second, .val (.long ka), .second, .val (.int (flags &&& (3 : Int32))), .val (.long kb), .second, .val (.long c0), .second, .unset, .unset, .unset, .unset, .unset, .unset] [])) _
    refine XS.lload X0.here hx rfl (hb hby at_135) rfl ?_
    show Steps p.tables e below (s₁.setTop (mkF m 137 #[.val (.long pp), .second, .val (.long xx), .second, .val (.long yy), .second, .val (.int nn), .val (.int mm), .val (.int flags), .val (.int num), .val (.int sml), .val (.long keys), .second, .val (.long ka), .second, .val (.int (flags &&& (3 : Int32))), .val (.long kb), .second, .val (.long c0), .second, .unset, .unset, .unset, .unset, .unset, .unset] [(.long c0)])) _
    refine XS.lload X0.here hx rfl (hb hby at_137) rfl ?_
    show Steps p.tables e below (s₁.setTop (mkF m 139 #[.val (.long pp), .second, .val (.long xx), .second, .val (.long yy), .second, .val (.int nn), .val (.int mm), .val (.int flags), .val (.int num), .val (.int sml), .val (.long keys), .second, .val (.long ka), .second, .val (.int (flags &&& (3 : Int32))), .val (.long kb), .second, .val (.long c0), .second, .unset, .unset, .unset, .unset, .unset, .unset] [(.long keys), (.long c0)])) _
    refine XS.lrem X0.here hx rfl (hb hby at_139) rfl (own_kne keys KK hKK qk1) ?_
    show Steps p.tables e below (s₁.setTop (mkF m 140 #[.val (.long pp), .second, .val (.long xx), .second, .val (.long yy), .second, .val (.int nn), .val (.int mm), .val (.int flags), .val (.int num), .val (.int sml), .val (.long keys), .second, .val (.long ka), .second, .val (.int (flags &&& (3 : Int32))), .val (.long kb), .second, .val (.long c0), .second, .unset, .unset, .unset, .unset, .unset, .unset] [(.long (c0 - (c0 / keys) * keys))])) _
    refine XS.lload X0.here hx rfl (hb hby at_140) rfl ?_
    show Steps p.tables e below (s₁.setTop (mkF m 142 #[.val (.long pp), .second, .val (.long xx), .second, .val (.long yy), .second, .val (.int nn), .val (.int mm), .val (.int flags), .val (.int num), .val (.int sml), .val (.long keys), .second, .val (.long ka), .second, .val (.int (flags &&& (3 : Int32))), .val (.long kb), .second, .val (.long c0), .second, .unset, .unset, .unset, .unset, .unset, .unset] [(.long keys), (.long (c0 - (c0 / keys) * keys))])) _
    refine XS.ladd X0.here hx rfl (hb hby at_142) rfl ?_
    show Steps p.tables e below (s₁.setTop (mkF m 143 #[.val (.long pp), .second, .val (.long xx), .second, .val (.long yy), .second, .val (.int nn), .val (.int mm), .val (.int flags), .val (.int num), .val (.int sml), .val (.long keys), .second, .val (.long ka), .second, .val (.int (flags &&& (3 : Int32))), .val (.long kb), .second, .val (.long c0), .second, .unset, .unset, .unset, .unset, .unset, .unset] [(.long ((c0 - (c0 / keys) * keys) + keys))])) _
    refine XS.lload X0.here hx rfl (hb hby at_143) rfl ?_
    show Steps p.tables e below (s₁.setTop (mkF m 145 #[.val (.long pp), .second, .val (.long xx), .second, .val (.long yy), .second, .val (.int nn), .val (.int mm), .val (.int flags), .val (.int num), .val (.int sml), .val (.long keys), .second, .val (.long ka), .second, .val (.int (flags &&& (3 : Int32))), .val (.long kb), .second, .val (.long c0), .second, .unset, .unset, .unset, .unset, .unset, .unset] [(.long keys), (.long ((c0 - (c0 / keys) * keys) + keys))])) _
    refine XS.lrem X0.here hx rfl (hb hby at_145) rfl (own_kne keys KK hKK qk1) ?_
    show Steps p.tables e below (s₁.setTop (mkF m 146 #[.val (.long pp), .second, .val (.long xx), .second, .val (.long yy), .second, .val (.int nn), .val (.int mm), .val (.int flags), .val (.int num), .val (.int sml), .val (.long keys), .second, .val (.long ka), .second, .val (.int (flags &&& (3 : Int32))), .val (.long kb), .second, .val (.long c0), .second, .unset, .unset, .unset, .unset, .unset, .unset] [(.long (((c0 - (c0 / keys) * keys) + keys) - (((c0 - (c0 / keys) * keys) + keys) / keys) * keys))])) _
    refine XS.lstore X0.here hx rfl (hb hby at_146) rfl (l' := #[.val (.long pp), .second, .val (.long xx), .second, .val (.long yy), .second, .val (.int nn), .val (.int mm), .val (.int flags), .val (.int num), .val (.int sml), .val (.long keys), .second, .val (.long ka), .second, .val (.int (flags &&& (3 : Int32))), .val (.long kb), .second, .val (.long (((c0 - (c0 / keys) * keys) + keys) - (((c0 - (c0 / keys) * keys) + keys) / keys) * keys)), .second, .unset, .unset, .unset, .unset, .unset, .unset]) rfl ?_
    show Steps p.tables e below (s₁.setTop (mkF m 148 #[.val (.long pp), .second, .val (.long xx), .second, .val (.long yy), .second, .val (.int nn), .val (.int mm), .val (.int flags), .val (.int num), .val (.int sml), .val (.long keys), .second, .val (.long ka), .second, .val (.int (flags &&& (3 : Int32))), .val (.long kb), .second, .val (.long (((c0 - (c0 / keys) * keys) + keys) - (((c0 - (c0 / keys) * keys) + keys) / keys) * keys)), .second, .unset, .unset, .unset, .unset, .unset, .unset] [])) _
    rw [← ekc]
    show Steps p.tables e below (s₁.setTop (mkF m 148 #[.val (.long pp), .second, .val (.long xx), .second, .val (.long yy), .second, .val (.int nn), .val (.int mm), .val (.int flags), .val (.int num), .val (.int sml), .val (.long keys), .second, .val (.long ka), .second, .val (.int (flags &&& (3 : Int32))), .val (.long kb), .second, .val (.long kc), .second, .unset, .unset, .unset, .unset, .unset, .unset] [])) _
    refine XS.iload X0.here hx rfl (hb hby at_148) rfl ?_
    show Steps p.tables e below (s₁.setTop (mkF m 150 #[.val (.long pp), .second, .val (.long xx), .second, .val (.long yy), .second, .val (.int nn), .val (.int mm), .val (.int flags), .val (.int num), .val (.int sml), .val (.long keys), .second, .val (.long ka), .second, .val (.int (flags &&& (3 : Int32))), .val (.long kb), .second, .val (.long kc), .second, .unset, .unset, .unset, .unset, .unset, .unset] [(.int nn)])) _
    refine X0.ldcInt hx hown (mvT hZ (hw _ (List.mem_of_getElem? (i := 4) rfl))) (g := (mkF m 150 #[.val (.long pp), .second, .val (.long xx), .second, .val (.long yy), .second, .val (.int nn), .val (.int mm), .val (.int flags), .val (.int num), .val (.int sml), .val (.long keys), .second, .val (.long ka), .second, .val (.int (flags &&& (3 : Int32))), .val (.long kb), .second, .val (.long kc), .second, .unset, .unset, .unset, .unset, .unset, .unset] [(.int nn)])) rfl (hb hby at_150) _ ?_
    show Steps p.tables e below (s₁.setTop (mkF m 152 #[.val (.long pp), .second, .val (.long xx), .second, .val (.long yy), .second, .val (.int nn), .val (.int mm), .val (.int flags), .val (.int num), .val (.int sml), .val (.long keys), .second, .val (.long ka), .second, .val (.int (flags &&& (3 : Int32))), .val (.long kb), .second, .val (.long kc), .second, .unset, .unset, .unset, .unset, .unset, .unset] [(.int (2147483647 : Int32)), (.int nn)])) _
    refine XS.iand X0.here hx rfl (hb hby at_152) rfl ?_
    show Steps p.tables e below (s₁.setTop (mkF m 153 #[.val (.long pp), .second, .val (.long xx), .second, .val (.long yy), .second, .val (.int nn), .val (.int mm), .val (.int flags), .val (.int num), .val (.int sml), .val (.long keys), .second, .val (.long ka), .second, .val (.int (flags &&& (3 : Int32))), .val (.long kb), .second, .val (.long kc), .second, .unset, .unset, .unset, .unset, .unset, .unset] [(.int (nn &&& (2147483647 : Int32)))])) _
    refine XS.istore X0.here hx rfl (hb hby at_153) rfl (l' := #[.val (.long pp), .second, .val (.long xx), .second, .val (.long yy), .second, .val (.int nn), .val (.int mm), .val (.int flags), .val (.int num), .val (.int sml), .val (.long keys), .second, .val (.long ka), .second, .val (.int (flags &&& (3 : Int32))), .val (.long kb), .second, .val (.long kc), .second, .val (.int (nn &&& (2147483647 : Int32))), .unset, .unset, .unset, .unset, .unset]) rfl ?_
    show Steps p.tables e below (s₁.setTop (mkF m 155 #[.val (.long pp), .second, .val (.long xx), .second, .val (.long yy), .second, .val (.int nn), .val (.int mm), .val (.int flags), .val (.int num), .val (.int sml), .val (.long keys), .second, .val (.long ka), .second, .val (.int (flags &&& (3 : Int32))), .val (.long kb), .second, .val (.long kc), .second, .val (.int (nn &&& (2147483647 : Int32))), .unset, .unset, .unset, .unset, .unset] [])) _
    rw [← ena]
    show Steps p.tables e below (s₁.setTop (mkF m 155 #[.val (.long pp), .second, .val (.long xx), .second, .val (.long yy), .second, .val (.int nn), .val (.int mm), .val (.int flags), .val (.int num), .val (.int sml), .val (.long keys), .second, .val (.long ka), .second, .val (.int (flags &&& (3 : Int32))), .val (.long kb), .second, .val (.long kc), .second, .val (.int na), .unset, .unset, .unset, .unset, .unset] [])) _
    refine XS.iload X0.here hx rfl (hb hby at_155) rfl ?_
    show Steps p.tables e below (s₁.setTop (mkF m 157 #[.val (.long pp), .second, .val (.long xx), .second, .val (.long yy), .second, .val (.int nn), .val (.int mm), .val (.int flags), .val (.int num), .val (.int sml), .val (.long keys), .second, .val (.long ka), .second, .val (.int (flags &&& (3 : Int32))), .val (.long kb), .second, .val (.long kc), .second, .val (.int na), .unset, .unset, .unset, .unset, .unset] [(.int mm)])) _
    refine X0.ldcInt hx hown (mvT hZ (hw _ (List.mem_of_getElem? (i := 4) rfl))) (g := (mkF m 157 #[.val (.long pp), .second, .val (.long xx), .second, .val (.long yy), .second, .val (.int nn), .val (.int mm), .val (.int flags), .val (.int num), .val (.int sml), .val (.long keys), .second, .val (.long ka), .second, .val (.int (flags &&& (3 : Int32))), .val (.long kb), .second, .val (.long kc), .second, .val (.int na), .unset, .unset, .unset, .unset, .unset] [(.int mm)])) rfl (hb hby at_157) _ ?_
    show Steps p.tables e below (s₁.setTop (mkF m 159 #[.val (.long pp), .second, .val (.long xx), .second, .val (.long yy), .second, .val (.int nn), .val (.int mm), .val (.int flags), .val (.int num), .val (.int sml), .val (.long keys), .second, .val (.long ka), .second, .val (.int (flags &&& (3 : Int32))), .val (.long kb), .second, .val (.long kc), .second, .val (.int na), .unset, .unset, .unset, .unset, .unset] [(.int (2147483647 : Int32)), (.int mm)])) _
    refine XS.iand X0.here hx rfl (hb hby at_159) rfl ?_
    show Steps p.tables e below (s₁.setTop (mkF m 160 #[.val (.long pp), .second, .val (.long xx), .second, .val (.long yy), .second, .val (.int nn), .val (.int mm), .val (.int flags), .val (.int num), .val (.int sml), .val (.long keys), .second, .val (.long ka), .second, .val (.int (flags &&& (3 : Int32))), .val (.long kb), .second, .val (.long kc), .second, .val (.int na), .unset, .unset, .unset, .unset, .unset] [(.int (mm &&& (2147483647 : Int32)))])) _
    refine XS.istore X0.here hx rfl (hb hby at_160) rfl (l' := #[.val (.long pp), .second, .val (.long xx), .second, .val (.long yy), .second, .val (.int nn), .val (.int mm), .val (.int flags), .val (.int num), .val (.int sml), .val (.long keys), .second, .val (.long ka), .second, .val (.int (flags &&& (3 : Int32))), .val (.long kb), .second, .val (.long kc), .second, .val (.int na), .val (.int (mm &&& (2147483647 : Int32))), .unset, .unset, .unset, .unset]) rfl ?_
    show Steps p.tables e below (s₁.setTop (mkF m 162 #[.val (.long pp), .second, .val (.long xx), .second, .val (.long yy), .second, .val (.int nn), .val (.int mm), .val (.int flags), .val (.int num), .val (.int sml), .val (.long keys), .second, .val (.long ka), .second, .val (.int (flags &&& (3 : Int32))), .val (.long kb), .second, .val (.long kc), .second, .val (.int na), .val (.int (mm &&& (2147483647 : Int32))), .unset, .unset, .unset, .unset] [])) _
    rw [← enb]
    show Steps p.tables e below (s₁.setTop (mkF m 162 #[.val (.long pp), .second, .val (.long xx), .second, .val (.long yy), .second, .val (.int nn), .val (.int mm), .val (.int flags), .val (.int num), .val (.int sml), .val (.long keys), .second, .val (.long ka), .second, .val (.int (flags &&& (3 : Int32))), .val (.long kb), .second, .val (.long kc), .second, .val (.int na), .val (.int nb), .unset, .unset, .unset, .unset] [])) _
    exact kt
  rcases own_01 _ _ enum with is_num | is_num
  · have hS15 : (shN 15 KK) ≤ 15 := Nat.le_trans (own_sh_lt 15 KK) (by decide)
    have h2S : 2 ^ (shN 15 KK) ≤ 2 ^ 15 := Nat.pow_le_pow_right (by decide) hS15
    have hlim : KK ≤ 128 * 2 ^ 15 := by omega
    have hnp := own_np 15 KK 128 hlim (by decide) qk1
    have hn31 : (npN 15 KK) < 2 ^ 31 := Nat.lt_of_le_of_lt hnp.1 (by decide)
    obtain ⟨Pa, hPa⟩ : ∃ z, z = A0 / 2 ^ (shN 15 KK) := ⟨_, rfl⟩
    obtain ⟨Ia, hIa⟩ : ∃ z, z = A0 % 2 ^ (shN 15 KK) := ⟨_, rfl⟩
    have lPa : Pa < (npN 15 KK) := by rw [hPa]; exact own_page 15 KK A0 lA0
    have sA0 : A0 < 2 ^ 30 := by omega
    have lIa : Ia < 2 ^ 15 := Nat.lt_of_lt_of_le (by rw [hIa]; exact Nat.mod_lt _ (Nat.pow_pos (by decide))) h2S
    obtain ⟨Pb, hPb⟩ : ∃ z, z = B0 / 2 ^ (shN 15 KK) := ⟨_, rfl⟩
    obtain ⟨Ib, hIb⟩ : ∃ z, z = B0 % 2 ^ (shN 15 KK) := ⟨_, rfl⟩
    have lPb : Pb < (npN 15 KK) := by rw [hPb]; exact own_page 15 KK B0 lB0
    have sB0 : B0 < 2 ^ 30 := by omega
    have lIb : Ib < 2 ^ 15 := Nat.lt_of_lt_of_le (by rw [hIb]; exact Nat.mod_lt _ (Nat.pow_pos (by decide))) h2S
    obtain ⟨Pc, hPc⟩ : ∃ z, z = C0 / 2 ^ (shN 15 KK) := ⟨_, rfl⟩
    obtain ⟨Ic, hIc⟩ : ∃ z, z = C0 % 2 ^ (shN 15 KK) := ⟨_, rfl⟩
    have lPc : Pc < (npN 15 KK) := by rw [hPc]; exact own_page 15 KK C0 lC0
    have sC0 : C0 < 2 ^ 30 := by omega
    have lIc : Ic < 2 ^ 15 := Nat.lt_of_lt_of_le (by rw [hIc]; exact Nat.mod_lt _ (Nat.pow_pos (by decide))) h2S
    have q_kc_ka : kc = ka ↔ _ := own_keyeqb _ _ C0 A0 (shN 15 KK) Pc Pa Ic Ia hC0 hA0 hPc hIc hPa hIa
    have q_kc_kb : kc = kb ↔ _ := own_keyeqb _ _ C0 B0 (shN 15 KK) Pc Pb Ic Ib hC0 hB0 hPc hIc hPb hIb
    have q_ka_kb : ka = kb ↔ _ := own_keyeqb _ _ A0 B0 (shN 15 KK) Pa Pb Ia Ib hA0 hB0 hPa hIa hPb hIb
    obtain ⟨T24, h24, X24, e24, E24, A24, D24, -, st24⟩ := newO X0 hx hZ hown (hw _ (List.mem_of_getElem? (i := 5) rfl)) (hw _ (List.mem_of_getElem? (i := 6) rfl)) (hw _ (List.mem_of_getElem? (i := 7) rfl)) e0 (g := (mkF m 162 #[.val (.long pp), .second, .val (.long xx), .second, .val (.long yy), .second, .val (.int nn), .val (.int mm), .val (.int flags), .val (.int (0 : Int32)), .val (.int sml), .val (.long keys), .second, .val (.long ka), .second, .val (.int (flags &&& (3 : Int32))), .val (.long kb), .second, .val (.long kc), .second, .val (.int na), .val (.int nb), .unset, .unset, .unset, .unset] [])) rfl (hb hby at_162) (by decide) (by decide)
    obtain ⟨tb, g24⟩ : ∃ z, z = h0.size := ⟨_, rfl⟩
    have g_tb : n0 ≤ tb := Nat.le_trans Z0 (Nat.le_of_eq g24.symm)
    have sz_tb : h0.size ≤ tb := Nat.le_trans (Keep.refl h0 []).1 (Nat.le_of_eq g24.symm)
    rw [← g24] at A24 D24 st24
    have Z24 := Nat.le_trans Z0 E24.1
    have KP24 := (Keep.refl h0 []).ext E24
    have F_numbered_tb : Fld Z h24 tb "com/example/parley/parley/core/KeyTable" "numbered" "Z" (.int (0 : Int32)) := D24 (Or.inr (hw _ (List.mem_of_getElem? (i := 15) rfl))) (ty := .boolean) (by decide)
    have F_pageShift_tb : Fld Z h24 tb "com/example/parley/parley/core/KeyTable" "pageShift" "I" (.int (0 : Int32)) := D24 (Or.inr (hw _ (List.mem_of_getElem? (i := 37) rfl))) (ty := .int) (by decide)
    have F_pageKeys_tb : Fld Z h24 tb "com/example/parley/parley/core/KeyTable" "pageKeys" "I" (.int (0 : Int32)) := D24 (Or.inr (hw _ (List.mem_of_getElem? (i := 39) rfl))) (ty := .int) (by decide)
    have F_pageWords_tb : Fld Z h24 tb "com/example/parley/parley/core/KeyTable" "pageWords" "I" (.int (0 : Int32)) := D24 (Or.inr (hw _ (List.mem_of_getElem? (i := 47) rfl))) (ty := .int) (by decide)
    have F_bits_tb : Fld Z h24 tb "com/example/parley/parley/core/KeyTable" "bits" "[[J" .null := D24 (Or.inr (hw _ (List.mem_of_getElem? (i := 54) rfl))) (ty := (.array (.array .long))) (by decide)
    have F_numbers_tb : Fld Z h24 tb "com/example/parley/parley/core/KeyTable" "numbers" "[[I" .null := D24 (Or.inr (hw _ (List.mem_of_getElem? (i := 56) rfl))) (ty := (.array (.array .int))) (by decide)
    have F_madePages_tb : Fld Z h24 tb "com/example/parley/parley/core/KeyTable" "madePages" "I" (.int (0 : Int32)) := D24 (Or.inl (hw _ (List.mem_of_getElem? (i := 65) rfl))) (ty := .int) (by decide)
    obtain ⟨_, _, ⟨T25, L25, k25, n25⟩, -, X25, ⟨Lc25, hQ25, l25, y25, z25⟩, st25⟩ := X24.specialBack hx (y := (⟨"com/example/parley/parley/core/KeyTable", "<init>", "(JZ)V"⟩ : MethodName)) rfl hown (mvT hZ (hw _ (List.mem_of_getElem? (i := 8) rfl))) (mvT hZ (hw _ (List.mem_of_getElem? (i := 9) rfl))) (mvT hZ (hw _ (List.mem_of_getElem? (i := 10) rfl))) (by decide) (backOf (W := 1) (rmCtorb l Z a0 hw [] tb keys KK h24 n0 Z24 hKK qk1 (by omega) hlim A24 F_numbered_tb F_pageShift_tb F_pageKeys_tb F_pageWords_tb F_bits_tb F_numbers_tb F_madePages_tb g_tb) hZ (hw _ (List.mem_of_getElem? (i := 10) rfl)) (hw _ (List.mem_of_getElem? (i := 7) rfl)) (by decide) (by decide)) (g := (mkF m 170 #[.val (.long pp), .second, .val (.long xx), .second, .val (.long yy), .second, .val (.int nn), .val (.int mm), .val (.int flags), .val (.int (0 : Int32)), .val (.int sml), .val (.long keys), .second, .val (.long ka), .second, .val (.int (flags &&& (3 : Int32))), .val (.long kb), .second, .val (.long kc), .second, .val (.int na), .val (.int nb), .unset, .unset, .unset, .unset] [(.int (0 : Int32)), (.long keys), (.ref tb), (.ref tb)])) rfl (by rw [hml]; rfl) (Steps.refl _) (a := tb) (argsL := [(.long keys), (.int (0 : Int32))]) (rest := [(.ref tb)]) (lenOf pd_5 rfl) rfl (by show 2 * 0 + _ ≤ _; exact Nat.le_of_eq rfl) (hb hby at_170) (fun _ _ => ⟨rfl, e24, (by decide : 1 + 1 ≤ _), (by decide : 7 + 128 ≤ _)⟩)
    dsimp only [Pt.U, Pt.locs, Pt.cells, Pt.slots] at X25 l25 y25 z25 st25 hQ25
    subst l25 y25 z25
    obtain ⟨rfl, N25q, le25, HK25⟩ := hQ25
    have N25 := Fr.app N0 N25q
    have Z25 := Nat.le_trans Z24 le25
    obtain ⟨yw26, eyw26⟩ : ∃ z : Int64, z = (0 : Int64) := ⟨_, rfl⟩
    have hgyw26 : (fun _ _ => (Value.long (0 : Int64))) Pa (Ia / 64) = Value.long yw26 := Eq.trans (show (fun _ _ => (Value.long (0 : Int64))) Pa (Ia / 64) = Value.long (0 : Int64) from rfl) (congrArg Value.long eyw26.symm)
    obtain ⟨cq27, kq27, q27a, q27b, q27c⟩ := isOf hZ rfl HK25.1
    obtain ⟨_, _, ⟨T27, L27, k27, n27⟩, -, X27, ⟨Lc27, hQ27, l27, y27, z27⟩, st27⟩ := X25.virtualBack hx (y := (⟨"com/example/parley/parley/core/KeyTable", "mark", "(JI)V"⟩ : MethodName)) (z := (⟨"com/example/parley/parley/core/KeyTable", "mark", "(JI)V"⟩ : MethodName)) hown (mvT hZ (hw _ (List.mem_of_getElem? (i := 57) rfl))) (mvT hZ (hw _ (List.mem_of_getElem? (i := 58) rfl))) (notFace_of_selects (args := #[]) (mvT hZ (hw _ (List.mem_of_getElem? (i := 60) rfl)))) (mvT hZ (hw _ (List.mem_of_getElem? (i := 60) rfl))) (mvT hZ (hw _ (List.mem_of_getElem? (i := 59) rfl))) (by decide) (backOf (W := 0) (rmMarkb l Z a0 hw [] tb ka na (shN 15 KK) (npN 15 KK) Pa Ia A0 (fun _ => false) (fun _ _ => (Value.long (0 : Int64))) (0 : Int32) yw26 T25.heap n0 Z25 hS15 hA0 sA0 hPa hIa lPa hn31 HK25 hgyw26) hZ (hw _ (List.mem_of_getElem? (i := 61) rfl)) (hw _ (List.mem_of_getElem? (i := 7) rfl)) (by decide) (by decide)) q27a q27c (g := (mkF m 181 #[.val (.long pp), .second, .val (.long xx), .second, .val (.long yy), .second, .val (.int nn), .val (.int mm), .val (.int flags), .val (.int (0 : Int32)), .val (.int sml), .val (.long keys), .second, .val (.long ka), .second, .val (.int (flags &&& (3 : Int32))), .val (.long kb), .second, .val (.long kc), .second, .val (.int na), .val (.int nb), .val (.ref tb), .unset, .unset, .unset] [(.int na), (.long ka), (.ref tb)])) rfl (by rw [hml]; rfl) (Steps.refl _) (argsL := [(.long ka), (.int na)]) (rest := []) (lenOf pd_6 rfl) rfl (by show 2 * 0 + _ ≤ _; exact Nat.le_of_eq rfl) (hb hby at_181) (fun _ _ => ⟨rfl, rfl, (by decide : 2 + 1 ≤ _), (by decide : 135 + 512 ≤ _)⟩)
    dsimp only [Pt.U, Pt.locs, Pt.cells, Pt.slots] at X27 l27 y27 z27 st27 hQ27
    subst l27 y27 z27
    obtain ⟨rfl, N27q, le27, HK27⟩ := hQ27
    have N27 := Fr.app N25 N27q
    have Z27 := Nat.le_trans Z25 le27
    obtain ⟨cq28, kq28, q28a, q28b, q28c⟩ := isOf hZ rfl HK27.1
    obtain ⟨_, _, ⟨T28, L28, k28, n28⟩, -, X28, ⟨Lc28, hQ28, l28, y28, z28⟩, st28⟩ := X27.virtualBack hx (y := (⟨"com/example/parley/parley/core/KeyTable", "pages", "()I"⟩ : MethodName)) (z := (⟨"com/example/parley/parley/core/KeyTable", "pages", "()I"⟩ : MethodName)) hown (mvT hZ (hw _ (List.mem_of_getElem? (i := 66) rfl))) (mvT hZ (hw _ (List.mem_of_getElem? (i := 67) rfl))) (notFace_of_selects (args := #[]) (mvT hZ (hw _ (List.mem_of_getElem? (i := 69) rfl)))) (mvT hZ (hw _ (List.mem_of_getElem? (i := 69) rfl))) (mvT hZ (hw _ (List.mem_of_getElem? (i := 68) rfl))) (by decide) (backOf (W := 0) (rmPages l Z a0 hw [] tb (if (fun _ => false) Pa = true then (0 : Int32) else (0 : Int32) + (1 : Int32)) T27.heap n0 HK27.2.2.2.2.2.1) hZ (hw _ (List.mem_of_getElem? (i := 70) rfl)) (hw _ (List.mem_of_getElem? (i := 7) rfl)) (by decide) (by decide)) q28a q28c (g := (mkF m 186 #[.val (.long pp), .second, .val (.long xx), .second, .val (.long yy), .second, .val (.int nn), .val (.int mm), .val (.int flags), .val (.int (0 : Int32)), .val (.int sml), .val (.long keys), .second, .val (.long ka), .second, .val (.int (flags &&& (3 : Int32))), .val (.long kb), .second, .val (.long kc), .second, .val (.int na), .val (.int nb), .val (.ref tb), .unset, .unset, .unset] [(.ref tb)])) rfl (by rw [hml]; rfl) (Steps.refl _) (argsL := []) (rest := []) (lenOf pd_7 rfl) rfl (by show 2 * 0 + _ ≤ _; exact Nat.le_of_eq rfl) (hb hby at_186) (fun _ _ => ⟨rfl, rfl, (by decide : 3 + 0 ≤ _), (by decide : 647 + 0 ≤ _)⟩)
    dsimp only [Pt.U, Pt.locs, Pt.cells, Pt.slots] at X28 l28 y28 z28 st28 hQ28
    subst l28 y28 z28
    obtain ⟨rfl, N28q, e28⟩ := hQ28
    have N28 := Fr.app N27 N28q
    obtain ⟨c1, ec1⟩ : ∃ z : Int32, z = (if (fun _ => false) Pa = true then (0 : Int32) else (0 : Int32) + (1 : Int32)) := ⟨_, rfl⟩
    have hd29 : c1 = (1 : Int32) := by first | rfl | (rw [ec1]; simp) | simp
    obtain ⟨yw30, eyw30⟩ : ∃ z : Int64, z = (if Pb = Pa ∧ (Ib / 64) = (Ia / 64) then (yw26 ||| ((1 : Int64) <<< ((Int32.ofNat Ia) &&& 0x3f).toInt64)) else (0 : Int64)) := ⟨_, rfl⟩
    have hgyw30 : (updG (fun _ _ => (Value.long (0 : Int64))) Pa (Ia / 64) (Value.long (yw26 ||| ((1 : Int64) <<< ((Int32.ofNat Ia) &&& 0x3f).toInt64)))) Pb (Ib / 64) = Value.long yw30 := Eq.trans (show (updG (fun _ _ => (Value.long (0 : Int64))) Pa (Ia / 64) (Value.long (yw26 ||| ((1 : Int64) <<< ((Int32.ofNat Ia) &&& 0x3f).toInt64)))) Pb (Ib / 64) = Value.long (if Pb = Pa ∧ (Ib / 64) = (Ia / 64) then (yw26 ||| ((1 : Int64) <<< ((Int32.ofNat Ia) &&& 0x3f).toInt64)) else (0 : Int64)) from (own_upd_long rfl)) (congrArg Value.long eyw30.symm)
    obtain ⟨cq31, kq31, q31a, q31b, q31c⟩ := isOf hZ e28 HK27.1
    obtain ⟨_, _, ⟨T31, L31, k31, n31⟩, -, X31, ⟨Lc31, hQ31, l31, y31, z31⟩, st31⟩ := X28.virtualBack hx (y := (⟨"com/example/parley/parley/core/KeyTable", "mark", "(JI)V"⟩ : MethodName)) (z := (⟨"com/example/parley/parley/core/KeyTable", "mark", "(JI)V"⟩ : MethodName)) hown (mvT hZ (hw _ (List.mem_of_getElem? (i := 57) rfl))) (mvT hZ (hw _ (List.mem_of_getElem? (i := 58) rfl))) (notFace_of_selects (args := #[]) (mvT hZ (hw _ (List.mem_of_getElem? (i := 60) rfl)))) (mvT hZ (hw _ (List.mem_of_getElem? (i := 60) rfl))) (mvT hZ (hw _ (List.mem_of_getElem? (i := 59) rfl))) (by decide) (backOf (W := 0) (rmMarkb l Z a0 hw [] tb kb nb (shN 15 KK) (npN 15 KK) Pb Ib B0 (updM (fun _ => false) Pa) (updG (fun _ _ => (Value.long (0 : Int64))) Pa (Ia / 64) (Value.long (yw26 ||| ((1 : Int64) <<< ((Int32.ofNat Ia) &&& 0x3f).toInt64)))) (if (fun _ => false) Pa = true then (0 : Int32) else (0 : Int32) + (1 : Int32)) yw30 T27.heap n0 Z27 hS15 hB0 sB0 hPb hIb lPb hn31 HK27 hgyw30) hZ (hw _ (List.mem_of_getElem? (i := 61) rfl)) (hw _ (List.mem_of_getElem? (i := 7) rfl)) (by decide) (by decide)) q31a q31c (g := (mkF m 206 #[.val (.long pp), .second, .val (.long xx), .second, .val (.long yy), .second, .val (.int nn), .val (.int mm), .val (.int flags), .val (.int (0 : Int32)), .val (.int sml), .val (.long keys), .second, .val (.long ka), .second, .val (.int (flags &&& (3 : Int32))), .val (.long kb), .second, .val (.long kc), .second, .val (.int na), .val (.int nb), .val (.ref tb), .val (.int (1 : Int32)), .unset, .unset] [(.int nb), (.long kb), (.ref tb)])) rfl (by rw [hml]; rfl) (Steps.refl _) (argsL := [(.long kb), (.int nb)]) (rest := []) (lenOf pd_6 rfl) rfl (by show 2 * 0 + _ ≤ _; exact Nat.le_of_eq rfl) (hb hby at_206) (fun _ _ => ⟨rfl, e28, (by decide : 3 + 1 ≤ _), (by decide : 647 + 512 ≤ _)⟩)
    dsimp only [Pt.U, Pt.locs, Pt.cells, Pt.slots] at X31 l31 y31 z31 st31 hQ31
    subst l31 y31 z31
    obtain ⟨rfl, N31q, le31, HK31⟩ := hQ31
    have N31 := Fr.app N28 N31q
    have Z31 := Nat.le_trans Z27 le31
    have hd32 : ¬ ((1 : Int32) = (0 : Int32)) := by decide
    obtain ⟨yv33, eyv33⟩ : ∃ z : Int64, z = (if Pa = Pb ∧ (Ia / 64) = (Ib / 64) then (yw30 ||| ((1 : Int64) <<< ((Int32.ofNat Ib) &&& 0x3f).toInt64)) else (if Pa = Pa ∧ (Ia / 64) = (Ia / 64) then (yw26 ||| ((1 : Int64) <<< ((Int32.ofNat Ia) &&& 0x3f).toInt64)) else (0 : Int64))) := ⟨_, rfl⟩
    have hgyv33 : (updG (updG (fun _ _ => (Value.long (0 : Int64))) Pa (Ia / 64) (Value.long (yw26 ||| ((1 : Int64) <<< ((Int32.ofNat Ia) &&& 0x3f).toInt64)))) Pb (Ib / 64) (Value.long (yw30 ||| ((1 : Int64) <<< ((Int32.ofNat Ib) &&& 0x3f).toInt64)))) Pa (Ia / 64) = Value.long yv33 := Eq.trans (show (updG (updG (fun _ _ => (Value.long (0 : Int64))) Pa (Ia / 64) (Value.long (yw26 ||| ((1 : Int64) <<< ((Int32.ofNat Ia) &&& 0x3f).toInt64)))) Pb (Ib / 64) (Value.long (yw30 ||| ((1 : Int64) <<< ((Int32.ofNat Ib) &&& 0x3f).toInt64)))) Pa (Ia / 64) = Value.long (if Pa = Pb ∧ (Ia / 64) = (Ib / 64) then (yw30 ||| ((1 : Int64) <<< ((Int32.ofNat Ib) &&& 0x3f).toInt64)) else (if Pa = Pa ∧ (Ia / 64) = (Ia / 64) then (yw26 ||| ((1 : Int64) <<< ((Int32.ofNat Ia) &&& 0x3f).toInt64)) else (0 : Int64))) from (own_upd_long (own_upd_long rfl))) (congrArg Value.long eyv33.symm)
    obtain ⟨cq34, kq34, q34a, q34b, q34c⟩ := isOf hZ rfl HK31.1
    obtain ⟨_, _, ⟨T34, L34, k34, n34⟩, -, X34, ⟨Lc34, hQ34, l34, y34, z34⟩, st34⟩ := X31.virtualBack hx (y := (⟨"com/example/parley/parley/core/KeyTable", "holds", "(J)Z"⟩ : MethodName)) (z := (⟨"com/example/parley/parley/core/KeyTable", "holds", "(J)Z"⟩ : MethodName)) hown (mvT hZ (hw _ (List.mem_of_getElem? (i := 71) rfl))) (mvT hZ (hw _ (List.mem_of_getElem? (i := 72) rfl))) (notFace_of_selects (args := #[]) (mvT hZ (hw _ (List.mem_of_getElem? (i := 74) rfl)))) (mvT hZ (hw _ (List.mem_of_getElem? (i := 74) rfl))) (mvT hZ (hw _ (List.mem_of_getElem? (i := 73) rfl))) (by decide) (backOf (W := 0) (rmHoldsb l Z a0 hw [] tb ka (shN 15 KK) (npN 15 KK) Pa Ia A0 (updM (updM (fun _ => false) Pa) Pb) (updG (updG (fun _ _ => (Value.long (0 : Int64))) Pa (Ia / 64) (Value.long (yw26 ||| ((1 : Int64) <<< ((Int32.ofNat Ia) &&& 0x3f).toInt64)))) Pb (Ib / 64) (Value.long (yw30 ||| ((1 : Int64) <<< ((Int32.ofNat Ib) &&& 0x3f).toInt64)))) (if (updM (fun _ => false) Pa) Pb = true then (if (fun _ => false) Pa = true then (0 : Int32) else (0 : Int32) + (1 : Int32)) else (if (fun _ => false) Pa = true then (0 : Int32) else (0 : Int32) + (1 : Int32)) + (1 : Int32)) yv33 T31.heap n0 hS15 hA0 sA0 hPa hIa lPa hn31 HK31 hgyv33) hZ (hw _ (List.mem_of_getElem? (i := 75) rfl)) (hw _ (List.mem_of_getElem? (i := 7) rfl)) (by decide) (by decide)) q34a q34c (g := (mkF m 218 #[.val (.long pp), .second, .val (.long xx), .second, .val (.long yy), .second, .val (.int nn), .val (.int mm), .val (.int flags), .val (.int (0 : Int32)), .val (.int sml), .val (.long keys), .second, .val (.long ka), .second, .val (.int (flags &&& (3 : Int32))), .val (.long kb), .second, .val (.long kc), .second, .val (.int na), .val (.int nb), .val (.ref tb), .val (.int (1 : Int32)), .unset, .unset] [(.long ka), (.ref tb)])) rfl (by rw [hml]; rfl) (Steps.refl _) (argsL := [(.long ka)]) (rest := []) (lenOf pd_8 rfl) rfl (by show 2 * 0 + _ ≤ _; exact Nat.le_of_eq rfl) (hb hby at_218) (fun _ _ => ⟨rfl, rfl, (by decide : 4 + 0 ≤ _), (by decide : 1159 + 0 ≤ _)⟩)
    dsimp only [Pt.U, Pt.locs, Pt.cells, Pt.slots] at X34 l34 y34 z34 st34 hQ34
    subst l34 y34 z34
    obtain ⟨rfl, N34q, e34⟩ := hQ34
    have N34 := Fr.app N31 N34q
    obtain ⟨ra, era⟩ : ∃ z : Int32, z = (if (yv33 &&& ((1 : Int64) <<< ((Int32.ofNat Ia) &&& 0x3f).toInt64)) = (0 : Int64) then (0 : Int32) else (1 : Int32)) := ⟨_, rfl⟩
    have hWra : (yv33 &&& ((1 : Int64) <<< ((Int32.ofNat Ia) &&& 0x3f).toInt64)) = (0 : Int64) ↔ ¬ ((Pa = Pa ∧ Ia / 64 = Ia / 64 ∧ Ia % 64 = Ia % 64) ∨ (Pa = Pb ∧ Ia / 64 = Ib / 64 ∧ Ia % 64 = Ib % 64)) := by
      rw [eyv33]
      subst eyw26 eyw30
      by_cases ca : (Pa = Pa ∧ Ia / 64 = Ia / 64)
      · by_cases cb : (Pa = Pb ∧ Ia / 64 = Ib / 64)
        · by_cases d21 : (Pb = Pa ∧ Ib / 64 = Ia / 64)
          · rw [if_pos cb, if_pos d21, own_om _ Ib Ia lIb lIa, own_om _ Ia Ia lIa lIa]
            simp only [Int64.zero_and, true_and, and_true, not_false_eq_true, iff_true, true_iff, eq_self]
            first | done | omega | (simp; done) | (simp; omega)
          · rw [if_pos cb, if_neg d21, own_om _ Ib Ia lIb lIa]
            simp only [Int64.zero_and, true_and, and_true, not_false_eq_true, iff_true, true_iff, eq_self]
            first | done | omega | (simp; done) | (simp; omega)
        · by_cases d21 : (Pb = Pa ∧ Ib / 64 = Ia / 64)
          · rw [if_neg cb, if_pos ca, own_om _ Ia Ia lIa lIa]
            simp only [Int64.zero_and, true_and, and_true, not_false_eq_true, iff_true, true_iff, eq_self]
            first | done | omega | (simp; done) | (simp; omega)
          · rw [if_neg cb, if_pos ca, own_om _ Ia Ia lIa lIa]
            simp only [Int64.zero_and, true_and, and_true, not_false_eq_true, iff_true, true_iff, eq_self]
            first | done | omega | (simp; done) | (simp; omega)
      · by_cases cb : (Pa = Pb ∧ Ia / 64 = Ib / 64)
        · by_cases d21 : (Pb = Pa ∧ Ib / 64 = Ia / 64)
          · rw [if_pos cb, if_pos d21, own_om _ Ib Ia lIb lIa, own_om _ Ia Ia lIa lIa]
            simp only [Int64.zero_and, true_and, and_true, not_false_eq_true, iff_true, true_iff, eq_self]
            first | done | omega | (simp; done) | (simp; omega)
          · rw [if_pos cb, if_neg d21, own_om _ Ib Ia lIb lIa]
            simp only [Int64.zero_and, true_and, and_true, not_false_eq_true, iff_true, true_iff, eq_self]
            first | done | omega | (simp; done) | (simp; omega)
        · by_cases d21 : (Pb = Pa ∧ Ib / 64 = Ia / 64)
          · rw [if_neg cb, if_neg ca]
            simp only [Int64.zero_and, true_and, and_true, not_false_eq_true, iff_true, true_iff, eq_self]
            first | done | omega | (simp; done) | (simp; omega)
          · rw [if_neg cb, if_neg ca]
            simp only [Int64.zero_and, true_and, and_true, not_false_eq_true, iff_true, true_iff, eq_self]
            first | done | omega | (simp; done) | (simp; omega)
    have hd35 : ¬ (ra = (0 : Int32)) := by rw [era, if_neg (fun q => hWra.mp q (Or.inl ⟨rfl, rfl, rfl⟩))]; decide
    obtain ⟨yv36, eyv36⟩ : ∃ z : Int64, z = (if Pb = Pb ∧ (Ib / 64) = (Ib / 64) then (yw30 ||| ((1 : Int64) <<< ((Int32.ofNat Ib) &&& 0x3f).toInt64)) else (if Pb = Pa ∧ (Ib / 64) = (Ia / 64) then (yw26 ||| ((1 : Int64) <<< ((Int32.ofNat Ia) &&& 0x3f).toInt64)) else (0 : Int64))) := ⟨_, rfl⟩
    have hgyv36 : (updG (updG (fun _ _ => (Value.long (0 : Int64))) Pa (Ia / 64) (Value.long (yw26 ||| ((1 : Int64) <<< ((Int32.ofNat Ia) &&& 0x3f).toInt64)))) Pb (Ib / 64) (Value.long (yw30 ||| ((1 : Int64) <<< ((Int32.ofNat Ib) &&& 0x3f).toInt64)))) Pb (Ib / 64) = Value.long yv36 := Eq.trans (show (updG (updG (fun _ _ => (Value.long (0 : Int64))) Pa (Ia / 64) (Value.long (yw26 ||| ((1 : Int64) <<< ((Int32.ofNat Ia) &&& 0x3f).toInt64)))) Pb (Ib / 64) (Value.long (yw30 ||| ((1 : Int64) <<< ((Int32.ofNat Ib) &&& 0x3f).toInt64)))) Pb (Ib / 64) = Value.long (if Pb = Pb ∧ (Ib / 64) = (Ib / 64) then (yw30 ||| ((1 : Int64) <<< ((Int32.ofNat Ib) &&& 0x3f).toInt64)) else (if Pb = Pa ∧ (Ib / 64) = (Ia / 64) then (yw26 ||| ((1 : Int64) <<< ((Int32.ofNat Ia) &&& 0x3f).toInt64)) else (0 : Int64))) from (own_upd_long (own_upd_long rfl))) (congrArg Value.long eyv36.symm)
    obtain ⟨cq37, kq37, q37a, q37b, q37c⟩ := isOf hZ e34 HK31.1
    obtain ⟨_, _, ⟨T37, L37, k37, n37⟩, -, X37, ⟨Lc37, hQ37, l37, y37, z37⟩, st37⟩ := X34.virtualBack hx (y := (⟨"com/example/parley/parley/core/KeyTable", "holds", "(J)Z"⟩ : MethodName)) (z := (⟨"com/example/parley/parley/core/KeyTable", "holds", "(J)Z"⟩ : MethodName)) hown (mvT hZ (hw _ (List.mem_of_getElem? (i := 71) rfl))) (mvT hZ (hw _ (List.mem_of_getElem? (i := 72) rfl))) (notFace_of_selects (args := #[]) (mvT hZ (hw _ (List.mem_of_getElem? (i := 74) rfl)))) (mvT hZ (hw _ (List.mem_of_getElem? (i := 74) rfl))) (mvT hZ (hw _ (List.mem_of_getElem? (i := 73) rfl))) (by decide) (backOf (W := 0) (rmHoldsb l Z a0 hw [] tb kb (shN 15 KK) (npN 15 KK) Pb Ib B0 (updM (updM (fun _ => false) Pa) Pb) (updG (updG (fun _ _ => (Value.long (0 : Int64))) Pa (Ia / 64) (Value.long (yw26 ||| ((1 : Int64) <<< ((Int32.ofNat Ia) &&& 0x3f).toInt64)))) Pb (Ib / 64) (Value.long (yw30 ||| ((1 : Int64) <<< ((Int32.ofNat Ib) &&& 0x3f).toInt64)))) (if (updM (fun _ => false) Pa) Pb = true then (if (fun _ => false) Pa = true then (0 : Int32) else (0 : Int32) + (1 : Int32)) else (if (fun _ => false) Pa = true then (0 : Int32) else (0 : Int32) + (1 : Int32)) + (1 : Int32)) yv36 T31.heap n0 hS15 hB0 sB0 hPb hIb lPb hn31 HK31 hgyv36) hZ (hw _ (List.mem_of_getElem? (i := 75) rfl)) (hw _ (List.mem_of_getElem? (i := 7) rfl)) (by decide) (by decide)) q37a q37c (g := (mkF m 228 #[.val (.long pp), .second, .val (.long xx), .second, .val (.long yy), .second, .val (.int nn), .val (.int mm), .val (.int flags), .val (.int (0 : Int32)), .val (.int sml), .val (.long keys), .second, .val (.long ka), .second, .val (.int (flags &&& (3 : Int32))), .val (.long kb), .second, .val (.long kc), .second, .val (.int na), .val (.int nb), .val (.ref tb), .val (.int (1 : Int32)), .unset, .unset] [(.long kb), (.ref tb)])) rfl (by rw [hml]; rfl) (Steps.refl _) (argsL := [(.long kb)]) (rest := []) (lenOf pd_8 rfl) rfl (by show 2 * 0 + _ ≤ _; exact Nat.le_of_eq rfl) (hb hby at_228) (fun _ _ => ⟨rfl, e34, (by decide : 4 + 0 ≤ _), (by decide : 1159 + 0 ≤ _)⟩)
    dsimp only [Pt.U, Pt.locs, Pt.cells, Pt.slots] at X37 l37 y37 z37 st37 hQ37
    subst l37 y37 z37
    obtain ⟨rfl, N37q, e37⟩ := hQ37
    have N37 := Fr.app N34 N37q
    obtain ⟨rb, erb⟩ : ∃ z : Int32, z = (if (yv36 &&& ((1 : Int64) <<< ((Int32.ofNat Ib) &&& 0x3f).toInt64)) = (0 : Int64) then (0 : Int32) else (1 : Int32)) := ⟨_, rfl⟩
    have hWrb : (yv36 &&& ((1 : Int64) <<< ((Int32.ofNat Ib) &&& 0x3f).toInt64)) = (0 : Int64) ↔ ¬ ((Pb = Pa ∧ Ib / 64 = Ia / 64 ∧ Ib % 64 = Ia % 64) ∨ (Pb = Pb ∧ Ib / 64 = Ib / 64 ∧ Ib % 64 = Ib % 64)) := by
      rw [eyv36]
      subst eyw26 eyw30
      by_cases ca : (Pb = Pa ∧ Ib / 64 = Ia / 64)
      · by_cases cb : (Pb = Pb ∧ Ib / 64 = Ib / 64)
        · by_cases d21 : (Pb = Pa ∧ Ib / 64 = Ia / 64)
          · rw [if_pos cb, if_pos d21, own_om _ Ib Ib lIb lIb, own_om _ Ia Ib lIa lIb]
            simp only [Int64.zero_and, true_and, and_true, not_false_eq_true, iff_true, true_iff, eq_self]
            first | done | omega | (simp; done) | (simp; omega)
          · rw [if_pos cb, if_neg d21, own_om _ Ib Ib lIb lIb]
            simp only [Int64.zero_and, true_and, and_true, not_false_eq_true, iff_true, true_iff, eq_self]
            first | done | omega | (simp; done) | (simp; omega)
        · by_cases d21 : (Pb = Pa ∧ Ib / 64 = Ia / 64)
          · rw [if_neg cb, if_pos ca, own_om _ Ia Ib lIa lIb]
            simp only [Int64.zero_and, true_and, and_true, not_false_eq_true, iff_true, true_iff, eq_self]
            first | done | omega | (simp; done) | (simp; omega)
          · rw [if_neg cb, if_pos ca, own_om _ Ia Ib lIa lIb]
            simp only [Int64.zero_and, true_and, and_true, not_false_eq_true, iff_true, true_iff, eq_self]
            first | done | omega | (simp; done) | (simp; omega)
      · by_cases cb : (Pb = Pb ∧ Ib / 64 = Ib / 64)
        · by_cases d21 : (Pb = Pa ∧ Ib / 64 = Ia / 64)
          · rw [if_pos cb, if_pos d21, own_om _ Ib Ib lIb lIb, own_om _ Ia Ib lIa lIb]
            simp only [Int64.zero_and, true_and, and_true, not_false_eq_true, iff_true, true_iff, eq_self]
            first | done | omega | (simp; done) | (simp; omega)
          · rw [if_pos cb, if_neg d21, own_om _ Ib Ib lIb lIb]
            simp only [Int64.zero_and, true_and, and_true, not_false_eq_true, iff_true, true_iff, eq_self]
            first | done | omega | (simp; done) | (simp; omega)
        · by_cases d21 : (Pb = Pa ∧ Ib / 64 = Ia / 64)
          · rw [if_neg cb, if_neg ca]
            simp only [Int64.zero_and, true_and, and_true, not_false_eq_true, iff_true, true_iff, eq_self]
            first | done | omega | (simp; done) | (simp; omega)
          · rw [if_neg cb, if_neg ca]
            simp only [Int64.zero_and, true_and, and_true, not_false_eq_true, iff_true, true_iff, eq_self]
            first | done | omega | (simp; done) | (simp; omega)
    have hd38 : ¬ (rb = (0 : Int32)) := by rw [erb, if_neg (fun q => hWrb.mp q (Or.inr ⟨rfl, rfl, rfl⟩))]; decide
    obtain ⟨yv39, eyv39⟩ : ∃ z : Int64, z = (if Pc = Pb ∧ (Ic / 64) = (Ib / 64) then (yw30 ||| ((1 : Int64) <<< ((Int32.ofNat Ib) &&& 0x3f).toInt64)) else (if Pc = Pa ∧ (Ic / 64) = (Ia / 64) then (yw26 ||| ((1 : Int64) <<< ((Int32.ofNat Ia) &&& 0x3f).toInt64)) else (0 : Int64))) := ⟨_, rfl⟩
    have hgyv39 : (updG (updG (fun _ _ => (Value.long (0 : Int64))) Pa (Ia / 64) (Value.long (yw26 ||| ((1 : Int64) <<< ((Int32.ofNat Ia) &&& 0x3f).toInt64)))) Pb (Ib / 64) (Value.long (yw30 ||| ((1 : Int64) <<< ((Int32.ofNat Ib) &&& 0x3f).toInt64)))) Pc (Ic / 64) = Value.long yv39 := Eq.trans (show (updG (updG (fun _ _ => (Value.long (0 : Int64))) Pa (Ia / 64) (Value.long (yw26 ||| ((1 : Int64) <<< ((Int32.ofNat Ia) &&& 0x3f).toInt64)))) Pb (Ib / 64) (Value.long (yw30 ||| ((1 : Int64) <<< ((Int32.ofNat Ib) &&& 0x3f).toInt64)))) Pc (Ic / 64) = Value.long (if Pc = Pb ∧ (Ic / 64) = (Ib / 64) then (yw30 ||| ((1 : Int64) <<< ((Int32.ofNat Ib) &&& 0x3f).toInt64)) else (if Pc = Pa ∧ (Ic / 64) = (Ia / 64) then (yw26 ||| ((1 : Int64) <<< ((Int32.ofNat Ia) &&& 0x3f).toInt64)) else (0 : Int64))) from (own_upd_long (own_upd_long rfl))) (congrArg Value.long eyv39.symm)
    obtain ⟨cq40, kq40, q40a, q40b, q40c⟩ := isOf hZ e37 HK31.1
    obtain ⟨_, _, ⟨T40, L40, k40, n40⟩, -, X40, ⟨Lc40, hQ40, l40, y40, z40⟩, st40⟩ := X37.virtualBack hx (y := (⟨"com/example/parley/parley/core/KeyTable", "holds", "(J)Z"⟩ : MethodName)) (z := (⟨"com/example/parley/parley/core/KeyTable", "holds", "(J)Z"⟩ : MethodName)) hown (mvT hZ (hw _ (List.mem_of_getElem? (i := 71) rfl))) (mvT hZ (hw _ (List.mem_of_getElem? (i := 72) rfl))) (notFace_of_selects (args := #[]) (mvT hZ (hw _ (List.mem_of_getElem? (i := 74) rfl)))) (mvT hZ (hw _ (List.mem_of_getElem? (i := 74) rfl))) (mvT hZ (hw _ (List.mem_of_getElem? (i := 73) rfl))) (by decide) (backOf (W := 0) (rmHoldsb l Z a0 hw [] tb kc (shN 15 KK) (npN 15 KK) Pc Ic C0 (updM (updM (fun _ => false) Pa) Pb) (updG (updG (fun _ _ => (Value.long (0 : Int64))) Pa (Ia / 64) (Value.long (yw26 ||| ((1 : Int64) <<< ((Int32.ofNat Ia) &&& 0x3f).toInt64)))) Pb (Ib / 64) (Value.long (yw30 ||| ((1 : Int64) <<< ((Int32.ofNat Ib) &&& 0x3f).toInt64)))) (if (updM (fun _ => false) Pa) Pb = true then (if (fun _ => false) Pa = true then (0 : Int32) else (0 : Int32) + (1 : Int32)) else (if (fun _ => false) Pa = true then (0 : Int32) else (0 : Int32) + (1 : Int32)) + (1 : Int32)) yv39 T31.heap n0 hS15 hC0 sC0 hPc hIc lPc hn31 HK31 hgyv39) hZ (hw _ (List.mem_of_getElem? (i := 75) rfl)) (hw _ (List.mem_of_getElem? (i := 7) rfl)) (by decide) (by decide)) q40a q40c (g := (mkF m 238 #[.val (.long pp), .second, .val (.long xx), .second, .val (.long yy), .second, .val (.int nn), .val (.int mm), .val (.int flags), .val (.int (0 : Int32)), .val (.int sml), .val (.long keys), .second, .val (.long ka), .second, .val (.int (flags &&& (3 : Int32))), .val (.long kb), .second, .val (.long kc), .second, .val (.int na), .val (.int nb), .val (.ref tb), .val (.int (1 : Int32)), .unset, .unset] [(.long kc), (.ref tb)])) rfl (by rw [hml]; rfl) (Steps.refl _) (argsL := [(.long kc)]) (rest := []) (lenOf pd_8 rfl) rfl (by show 2 * 0 + _ ≤ _; exact Nat.le_of_eq rfl) (hb hby at_238) (fun _ _ => ⟨rfl, e37, (by decide : 4 + 0 ≤ _), (by decide : 1159 + 0 ≤ _)⟩)
    dsimp only [Pt.U, Pt.locs, Pt.cells, Pt.slots] at X40 l40 y40 z40 st40 hQ40
    subst l40 y40 z40
    obtain ⟨rfl, N40q, e40⟩ := hQ40
    have N40 := Fr.app N37 N40q
    obtain ⟨rc, erc⟩ : ∃ z : Int32, z = (if (yv39 &&& ((1 : Int64) <<< ((Int32.ofNat Ic) &&& 0x3f).toInt64)) = (0 : Int64) then (0 : Int32) else (1 : Int32)) := ⟨_, rfl⟩
    have k41 : ∀ tg, Steps p.tables e below (T40.setTop (mkF m 246 #[.val (.long pp), .second, .val (.long xx), .second, .val (.long yy), .second, .val (.int nn), .val (.int mm), .val (.int flags), .val (.int (0 : Int32)), .val (.int sml), .val (.long keys), .second, .val (.long ka), .second, .val (.int (flags &&& (3 : Int32))), .val (.long kb), .second, .val (.long kc), .second, .val (.int na), .val (.int nb), .val (.ref tb), .val (.int (1 : Int32)), .unset, .unset] [(.int (lcmpW kc ka)), (.int rc)])) tg → Steps p.tables e below (s₁.setTop (entryFrame m #[(.long pp), (.long xx), (.long yy), (.int nn), (.int mm), (.int flags)] maxLocals)) tg := by
      intro tg kt
      refine k23 tg ?_
      show Steps p.tables e below (s₁.setTop (mkF m 162 #[.val (.long pp), .second, .val (.long xx), .second, .val (.long yy), .second, .val (.int nn), .val (.int mm), .val (.int flags), .val (.int num), .val (.int sml), .val (.long keys), .second, .val (.long ka), .second, .val (.int (flags &&& (3 : Int32))), .val (.long kb), .second, .val (.long kc), .second, .val (.int na), .val (.int nb), .unset, .unset, .unset, .unset] [])) _
      rw [is_num]
      show Steps p.tables e below (s₁.setTop (mkF m 162 #[.val (.long pp), .second, .val (.long xx), .second, .val (.long yy), .second, .val (.int nn), .val (.int mm), .val (.int flags), .val (.int (0 : Int32)), .val (.int sml), .val (.long keys), .second, .val (.long ka), .second, .val (.int (flags &&& (3 : Int32))), .val (.long kb), .second, .val (.long kc), .second, .val (.int na), .val (.int nb), .unset, .unset, .unset, .unset] [])) _
      refine st24 _ ?_
      show Steps p.tables e below (T24.setTop (mkF m 165 #[.val (.long pp), .second, .val (.long xx), .second, .val (.long yy), .second, .val (.int nn), .val (.int mm), .val (.int flags), .val (.int (0 : Int32)), .val (.int sml), .val (.long keys), .second, .val (.long ka), .second, .val (.int (flags &&& (3 : Int32))), .val (.long kb), .second, .val (.long kc), .second, .val (.int na), .val (.int nb), .unset, .unset, .unset, .unset] [(.ref tb)])) _
      refine XS.dup X24.here hx rfl (hb hby at_165) rfl rfl ?_
      show Steps p.tables e below (T24.setTop (mkF m 166 #[.val (.long pp), .second, .val (.long xx), .second, .val (.long yy), .second, .val (.int nn), .val (.int mm), .val (.int flags), .val (.int (0 : Int32)), .val (.int sml), .val (.long keys), .second, .val (.long ka), .second, .val (.int (flags &&& (3 : Int32))), .val (.long kb), .second, .val (.long kc), .second, .val (.int na), .val (.int nb), .unset, .unset, .unset, .unset] [(.ref tb), (.ref tb)])) _
      refine XS.lload X24.here hx rfl (hb hby at_166) rfl ?_
      show Steps p.tables e below (T24.setTop (mkF m 168 #[.val (.long pp), .second, .val (.long xx), .second, .val (.long yy), .second, .val (.int nn), .val (.int mm), .val (.int flags), .val (.int (0 : Int32)), .val (.int sml), .val (.long keys), .second, .val (.long ka), .second, .val (.int (flags &&& (3 : Int32))), .val (.long kb), .second, .val (.long kc), .second, .val (.int na), .val (.int nb), .unset, .unset, .unset, .unset] [(.long keys), (.ref tb), (.ref tb)])) _
      refine XS.iload X24.here hx rfl (hb hby at_168) rfl ?_
      show Steps p.tables e below (T24.setTop (mkF m 170 #[.val (.long pp), .second, .val (.long xx), .second, .val (.long yy), .second, .val (.int nn), .val (.int mm), .val (.int flags), .val (.int (0 : Int32)), .val (.int sml), .val (.long keys), .second, .val (.long ka), .second, .val (.int (flags &&& (3 : Int32))), .val (.long kb), .second, .val (.long kc), .second, .val (.int na), .val (.int nb), .unset, .unset, .unset, .unset] [(.int (0 : Int32)), (.long keys), (.ref tb), (.ref tb)])) _
      refine st25.trans ?_
      show Steps p.tables e below (T25.setTop (mkF m 173 #[.val (.long pp), .second, .val (.long xx), .second, .val (.long yy), .second, .val (.int nn), .val (.int mm), .val (.int flags), .val (.int (0 : Int32)), .val (.int sml), .val (.long keys), .second, .val (.long ka), .second, .val (.int (flags &&& (3 : Int32))), .val (.long kb), .second, .val (.long kc), .second, .val (.int na), .val (.int nb), .unset, .unset, .unset, .unset] [(.ref tb)])) _
      refine XS.astore X25.here hx rfl (hb hby at_173) rfl rfl (l' := #[.val (.long pp), .second, .val (.long xx), .second, .val (.long yy), .second, .val (.int nn), .val (.int mm), .val (.int flags), .val (.int (0 : Int32)), .val (.int sml), .val (.long keys), .second, .val (.long ka), .second, .val (.int (flags &&& (3 : Int32))), .val (.long kb), .second, .val (.long kc), .second, .val (.int na), .val (.int nb), .val (.ref tb), .unset, .unset, .unset]) rfl ?_
      show Steps p.tables e below (T25.setTop (mkF m 175 #[.val (.long pp), .second, .val (.long xx), .second, .val (.long yy), .second, .val (.int nn), .val (.int mm), .val (.int flags), .val (.int (0 : Int32)), .val (.int sml), .val (.long keys), .second, .val (.long ka), .second, .val (.int (flags &&& (3 : Int32))), .val (.long kb), .second, .val (.long kc), .second, .val (.int na), .val (.int nb), .val (.ref tb), .unset, .unset, .unset] [])) _
      refine XS.aload X25.here hx rfl (hb hby at_175) rfl rfl ?_
      show Steps p.tables e below (T25.setTop (mkF m 177 #[.val (.long pp), .second, .val (.long xx), .second, .val (.long yy), .second, .val (.int nn), .val (.int mm), .val (.int flags), .val (.int (0 : Int32)), .val (.int sml), .val (.long keys), .second, .val (.long ka), .second, .val (.int (flags &&& (3 : Int32))), .val (.long kb), .second, .val (.long kc), .second, .val (.int na), .val (.int nb), .val (.ref tb), .unset, .unset, .unset] [(.ref tb)])) _
      refine XS.lload X25.here hx rfl (hb hby at_177) rfl ?_
      show Steps p.tables e below (T25.setTop (mkF m 179 #[.val (.long pp), .second, .val (.long xx), .second, .val (.long yy), .second, .val (.int nn), .val (.int mm), .val (.int flags), .val (.int (0 : Int32)), .val (.int sml), .val (.long keys), .second, .val (.long ka), .second, .val (.int (flags &&& (3 : Int32))), .val (.long kb), .second, .val (.long kc), .second, .val (.int na), .val (.int nb), .val (.ref tb), .unset, .unset, .unset] [(.long ka), (.ref tb)])) _
      refine XS.iload X25.here hx rfl (hb hby at_179) rfl ?_
      show Steps p.tables e below (T25.setTop (mkF m 181 #[.val (.long pp), .second, .val (.long xx), .second, .val (.long yy), .second, .val (.int nn), .val (.int mm), .val (.int flags), .val (.int (0 : Int32)), .val (.int sml), .val (.long keys), .second, .val (.long ka), .second, .val (.int (flags &&& (3 : Int32))), .val (.long kb), .second, .val (.long kc), .second, .val (.int na), .val (.int nb), .val (.ref tb), .unset, .unset, .unset] [(.int na), (.long ka), (.ref tb)])) _
      refine st27.trans ?_
      show Steps p.tables e below (T27.setTop (mkF m 184 #[.val (.long pp), .second, .val (.long xx), .second, .val (.long yy), .second, .val (.int nn), .val (.int mm), .val (.int flags), .val (.int (0 : Int32)), .val (.int sml), .val (.long keys), .second, .val (.long ka), .second, .val (.int (flags &&& (3 : Int32))), .val (.long kb), .second, .val (.long kc), .second, .val (.int na), .val (.int nb), .val (.ref tb), .unset, .unset, .unset] [])) _
      refine XS.aload X27.here hx rfl (hb hby at_184) rfl rfl ?_
      show Steps p.tables e below (T27.setTop (mkF m 186 #[.val (.long pp), .second, .val (.long xx), .second, .val (.long yy), .second, .val (.int nn), .val (.int mm), .val (.int flags), .val (.int (0 : Int32)), .val (.int sml), .val (.long keys), .second, .val (.long ka), .second, .val (.int (flags &&& (3 : Int32))), .val (.long kb), .second, .val (.long kc), .second, .val (.int na), .val (.int nb), .val (.ref tb), .unset, .unset, .unset] [(.ref tb)])) _
      refine st28.trans ?_
      show Steps p.tables e below (T28.setTop (mkF m 189 #[.val (.long pp), .second, .val (.long xx), .second, .val (.long yy), .second, .val (.int nn), .val (.int mm), .val (.int flags), .val (.int (0 : Int32)), .val (.int sml), .val (.long keys), .second, .val (.long ka), .second, .val (.int (flags &&& (3 : Int32))), .val (.long kb), .second, .val (.long kc), .second, .val (.int na), .val (.int nb), .val (.ref tb), .unset, .unset, .unset] [(.int (if (fun _ => false) Pa = true then (0 : Int32) else (0 : Int32) + (1 : Int32)))])) _
      rw [← ec1]
      show Steps p.tables e below (T28.setTop (mkF m 189 #[.val (.long pp), .second, .val (.long xx), .second, .val (.long yy), .second, .val (.int nn), .val (.int mm), .val (.int flags), .val (.int (0 : Int32)), .val (.int sml), .val (.long keys), .second, .val (.long ka), .second, .val (.int (flags &&& (3 : Int32))), .val (.long kb), .second, .val (.long kc), .second, .val (.int na), .val (.int nb), .val (.ref tb), .unset, .unset, .unset] [(.int c1)])) _
      refine XS.iconst X28.here hx rfl (hb hby at_189) ?_
      show Steps p.tables e below (T28.setTop (mkF m 190 #[.val (.long pp), .second, .val (.long xx), .second, .val (.long yy), .second, .val (.int nn), .val (.int mm), .val (.int flags), .val (.int (0 : Int32)), .val (.int sml), .val (.long keys), .second, .val (.long ka), .second, .val (.int (flags &&& (3 : Int32))), .val (.long kb), .second, .val (.long kc), .second, .val (.int na), .val (.int nb), .val (.ref tb), .unset, .unset, .unset] [(.int (1 : Int32)), (.int c1)])) _
      refine XS.icmpNo X28.here hx rfl (hb hby at_190) rfl (teq hd29).2 ?_
      show Steps p.tables e below (T28.setTop (mkF m 193 #[.val (.long pp), .second, .val (.long xx), .second, .val (.long yy), .second, .val (.int nn), .val (.int mm), .val (.int flags), .val (.int (0 : Int32)), .val (.int sml), .val (.long keys), .second, .val (.long ka), .second, .val (.int (flags &&& (3 : Int32))), .val (.long kb), .second, .val (.long kc), .second, .val (.int na), .val (.int nb), .val (.ref tb), .unset, .unset, .unset] [])) _
      refine XS.iconst X28.here hx rfl (hb hby at_193) ?_
      show Steps p.tables e below (T28.setTop (mkF m 194 #[.val (.long pp), .second, .val (.long xx), .second, .val (.long yy), .second, .val (.int nn), .val (.int mm), .val (.int flags), .val (.int (0 : Int32)), .val (.int sml), .val (.long keys), .second, .val (.long ka), .second, .val (.int (flags &&& (3 : Int32))), .val (.long kb), .second, .val (.long kc), .second, .val (.int na), .val (.int nb), .val (.ref tb), .unset, .unset, .unset] [(.int (1 : Int32))])) _
      refine XS.goto X28.here hx rfl (pc0 := 194) (pc' := 198) rfl (hb hby at_194) (by decide) (by decide) ?_
      show Steps p.tables e below (T28.setTop (mkF m 198 #[.val (.long pp), .second, .val (.long xx), .second, .val (.long yy), .second, .val (.int nn), .val (.int mm), .val (.int flags), .val (.int (0 : Int32)), .val (.int sml), .val (.long keys), .second, .val (.long ka), .second, .val (.int (flags &&& (3 : Int32))), .val (.long kb), .second, .val (.long kc), .second, .val (.int na), .val (.int nb), .val (.ref tb), .unset, .unset, .unset] [(.int (1 : Int32))])) _
      refine XS.istore X28.here hx rfl (hb hby at_198) rfl (l' := #[.val (.long pp), .second, .val (.long xx), .second, .val (.long yy), .second, .val (.int nn), .val (.int mm), .val (.int flags), .val (.int (0 : Int32)), .val (.int sml), .val (.long keys), .second, .val (.long ka), .second, .val (.int (flags &&& (3 : Int32))), .val (.long kb), .second, .val (.long kc), .second, .val (.int na), .val (.int nb), .val (.ref tb), .val (.int (1 : Int32)), .unset, .unset]) rfl ?_
      show Steps p.tables e below (T28.setTop (mkF m 200 #[.val (.long pp), .second, .val (.long xx), .second, .val (.long yy), .second, .val (.int nn), .val (.int mm), .val (.int flags), .val (.int (0 : Int32)), .val (.int sml), .val (.long keys), .second, .val (.long ka), .second, .val (.int (flags &&& (3 : Int32))), .val (.long kb), .second, .val (.long kc), .second, .val (.int na), .val (.int nb), .val (.ref tb), .val (.int (1 : Int32)), .unset, .unset] [])) _
      refine XS.aload X28.here hx rfl (hb hby at_200) rfl rfl ?_
      show Steps p.tables e below (T28.setTop (mkF m 202 #[.val (.long pp), .second, .val (.long xx), .second, .val (.long yy), .second, .val (.int nn), .val (.int mm), .val (.int flags), .val (.int (0 : Int32)), .val (.int sml), .val (.long keys), .second, .val (.long ka), .second, .val (.int (flags &&& (3 : Int32))), .val (.long kb), .second, .val (.long kc), .second, .val (.int na), .val (.int nb), .val (.ref tb), .val (.int (1 : Int32)), .unset, .unset] [(.ref tb)])) _
      refine XS.lload X28.here hx rfl (hb hby at_202) rfl ?_
      show Steps p.tables e below (T28.setTop (mkF m 204 #[.val (.long pp), .second, .val (.long xx), .second, .val (.long yy), .second, .val (.int nn), .val (.int mm), .val (.int flags), .val (.int (0 : Int32)), .val (.int sml), .val (.long keys), .second, .val (.long ka), .second, .val (.int (flags &&& (3 : Int32))), .val (.long kb), .second, .val (.long kc), .second, .val (.int na), .val (.int nb), .val (.ref tb), .val (.int (1 : Int32)), .unset, .unset] [(.long kb), (.ref tb)])) _
      refine XS.iload X28.here hx rfl (hb hby at_204) rfl ?_
      show Steps p.tables e below (T28.setTop (mkF m 206 #[.val (.long pp), .second, .val (.long xx), .second, .val (.long yy), .second, .val (.int nn), .val (.int mm), .val (.int flags), .val (.int (0 : Int32)), .val (.int sml), .val (.long keys), .second, .val (.long ka), .second, .val (.int (flags &&& (3 : Int32))), .val (.long kb), .second, .val (.long kc), .second, .val (.int na), .val (.int nb), .val (.ref tb), .val (.int (1 : Int32)), .unset, .unset] [(.int nb), (.long kb), (.ref tb)])) _
      refine st31.trans ?_
      show Steps p.tables e below (T31.setTop (mkF m 209 #[.val (.long pp), .second, .val (.long xx), .second, .val (.long yy), .second, .val (.int nn), .val (.int mm), .val (.int flags), .val (.int (0 : Int32)), .val (.int sml), .val (.long keys), .second, .val (.long ka), .second, .val (.int (flags &&& (3 : Int32))), .val (.long kb), .second, .val (.long kc), .second, .val (.int na), .val (.int nb), .val (.ref tb), .val (.int (1 : Int32)), .unset, .unset] [])) _
      refine XS.iload X31.here hx rfl (hb hby at_209) rfl ?_
      show Steps p.tables e below (T31.setTop (mkF m 211 #[.val (.long pp), .second, .val (.long xx), .second, .val (.long yy), .second, .val (.int nn), .val (.int mm), .val (.int flags), .val (.int (0 : Int32)), .val (.int sml), .val (.long keys), .second, .val (.long ka), .second, .val (.int (flags &&& (3 : Int32))), .val (.long kb), .second, .val (.long kc), .second, .val (.int na), .val (.int nb), .val (.ref tb), .val (.int (1 : Int32)), .unset, .unset] [(.int (1 : Int32))])) _
      refine XS.ifNo X31.here hx rfl (hb hby at_211) rfl ((if0 _ _).trans (feq hd32).1) ?_
      show Steps p.tables e below (T31.setTop (mkF m 214 #[.val (.long pp), .second, .val (.long xx), .second, .val (.long yy), .second, .val (.int nn), .val (.int mm), .val (.int flags), .val (.int (0 : Int32)), .val (.int sml), .val (.long keys), .second, .val (.long ka), .second, .val (.int (flags &&& (3 : Int32))), .val (.long kb), .second, .val (.long kc), .second, .val (.int na), .val (.int nb), .val (.ref tb), .val (.int (1 : Int32)), .unset, .unset] [])) _
      refine XS.aload X31.here hx rfl (hb hby at_214) rfl rfl ?_
      show Steps p.tables e below (T31.setTop (mkF m 216 #[.val (.long pp), .second, .val (.long xx), .second, .val (.long yy), .second, .val (.int nn), .val (.int mm), .val (.int flags), .val (.int (0 : Int32)), .val (.int sml), .val (.long keys), .second, .val (.long ka), .second, .val (.int (flags &&& (3 : Int32))), .val (.long kb), .second, .val (.long kc), .second, .val (.int na), .val (.int nb), .val (.ref tb), .val (.int (1 : Int32)), .unset, .unset] [(.ref tb)])) _
      refine XS.lload X31.here hx rfl (hb hby at_216) rfl ?_
      show Steps p.tables e below (T31.setTop (mkF m 218 #[.val (.long pp), .second, .val (.long xx), .second, .val (.long yy), .second, .val (.int nn), .val (.int mm), .val (.int flags), .val (.int (0 : Int32)), .val (.int sml), .val (.long keys), .second, .val (.long ka), .second, .val (.int (flags &&& (3 : Int32))), .val (.long kb), .second, .val (.long kc), .second, .val (.int na), .val (.int nb), .val (.ref tb), .val (.int (1 : Int32)), .unset, .unset] [(.long ka), (.ref tb)])) _
      refine st34.trans ?_
      show Steps p.tables e below (T34.setTop (mkF m 221 #[.val (.long pp), .second, .val (.long xx), .second, .val (.long yy), .second, .val (.int nn), .val (.int mm), .val (.int flags), .val (.int (0 : Int32)), .val (.int sml), .val (.long keys), .second, .val (.long ka), .second, .val (.int (flags &&& (3 : Int32))), .val (.long kb), .second, .val (.long kc), .second, .val (.int na), .val (.int nb), .val (.ref tb), .val (.int (1 : Int32)), .unset, .unset] [(.int (if (yv33 &&& ((1 : Int64) <<< ((Int32.ofNat Ia) &&& 0x3f).toInt64)) = (0 : Int64) then (0 : Int32) else (1 : Int32)))])) _
      rw [← era]
      show Steps p.tables e below (T34.setTop (mkF m 221 #[.val (.long pp), .second, .val (.long xx), .second, .val (.long yy), .second, .val (.int nn), .val (.int mm), .val (.int flags), .val (.int (0 : Int32)), .val (.int sml), .val (.long keys), .second, .val (.long ka), .second, .val (.int (flags &&& (3 : Int32))), .val (.long kb), .second, .val (.long kc), .second, .val (.int na), .val (.int nb), .val (.ref tb), .val (.int (1 : Int32)), .unset, .unset] [(.int ra)])) _
      refine XS.ifNo X34.here hx rfl (hb hby at_221) rfl ((if0 _ _).trans (feq hd35).1) ?_
      show Steps p.tables e below (T34.setTop (mkF m 224 #[.val (.long pp), .second, .val (.long xx), .second, .val (.long yy), .second, .val (.int nn), .val (.int mm), .val (.int flags), .val (.int (0 : Int32)), .val (.int sml), .val (.long keys), .second, .val (.long ka), .second, .val (.int (flags &&& (3 : Int32))), .val (.long kb), .second, .val (.long kc), .second, .val (.int na), .val (.int nb), .val (.ref tb), .val (.int (1 : Int32)), .unset, .unset] [])) _
      refine XS.aload X34.here hx rfl (hb hby at_224) rfl rfl ?_
      show Steps p.tables e below (T34.setTop (mkF m 226 #[.val (.long pp), .second, .val (.long xx), .second, .val (.long yy), .second, .val (.int nn), .val (.int mm), .val (.int flags), .val (.int (0 : Int32)), .val (.int sml), .val (.long keys), .second, .val (.long ka), .second, .val (.int (flags &&& (3 : Int32))), .val (.long kb), .second, .val (.long kc), .second, .val (.int na), .val (.int nb), .val (.ref tb), .val (.int (1 : Int32)), .unset, .unset] [(.ref tb)])) _
      refine XS.lload X34.here hx rfl (hb hby at_226) rfl ?_
      show Steps p.tables e below (T34.setTop (mkF m 228 #[.val (.long pp), .second, .val (.long xx), .second, .val (.long yy), .second, .val (.int nn), .val (.int mm), .val (.int flags), .val (.int (0 : Int32)), .val (.int sml), .val (.long keys), .second, .val (.long ka), .second, .val (.int (flags &&& (3 : Int32))), .val (.long kb), .second, .val (.long kc), .second, .val (.int na), .val (.int nb), .val (.ref tb), .val (.int (1 : Int32)), .unset, .unset] [(.long kb), (.ref tb)])) _
      refine st37.trans ?_
      show Steps p.tables e below (T37.setTop (mkF m 231 #[.val (.long pp), .second, .val (.long xx), .second, .val (.long yy), .second, .val (.int nn), .val (.int mm), .val (.int flags), .val (.int (0 : Int32)), .val (.int sml), .val (.long keys), .second, .val (.long ka), .second, .val (.int (flags &&& (3 : Int32))), .val (.long kb), .second, .val (.long kc), .second, .val (.int na), .val (.int nb), .val (.ref tb), .val (.int (1 : Int32)), .unset, .unset] [(.int (if (yv36 &&& ((1 : Int64) <<< ((Int32.ofNat Ib) &&& 0x3f).toInt64)) = (0 : Int64) then (0 : Int32) else (1 : Int32)))])) _
      rw [← erb]
      show Steps p.tables e below (T37.setTop (mkF m 231 #[.val (.long pp), .second, .val (.long xx), .second, .val (.long yy), .second, .val (.int nn), .val (.int mm), .val (.int flags), .val (.int (0 : Int32)), .val (.int sml), .val (.long keys), .second, .val (.long ka), .second, .val (.int (flags &&& (3 : Int32))), .val (.long kb), .second, .val (.long kc), .second, .val (.int na), .val (.int nb), .val (.ref tb), .val (.int (1 : Int32)), .unset, .unset] [(.int rb)])) _
      refine XS.ifNo X37.here hx rfl (hb hby at_231) rfl ((if0 _ _).trans (feq hd38).1) ?_
      show Steps p.tables e below (T37.setTop (mkF m 234 #[.val (.long pp), .second, .val (.long xx), .second, .val (.long yy), .second, .val (.int nn), .val (.int mm), .val (.int flags), .val (.int (0 : Int32)), .val (.int sml), .val (.long keys), .second, .val (.long ka), .second, .val (.int (flags &&& (3 : Int32))), .val (.long kb), .second, .val (.long kc), .second, .val (.int na), .val (.int nb), .val (.ref tb), .val (.int (1 : Int32)), .unset, .unset] [])) _
      refine XS.aload X37.here hx rfl (hb hby at_234) rfl rfl ?_
      show Steps p.tables e below (T37.setTop (mkF m 236 #[.val (.long pp), .second, .val (.long xx), .second, .val (.long yy), .second, .val (.int nn), .val (.int mm), .val (.int flags), .val (.int (0 : Int32)), .val (.int sml), .val (.long keys), .second, .val (.long ka), .second, .val (.int (flags &&& (3 : Int32))), .val (.long kb), .second, .val (.long kc), .second, .val (.int na), .val (.int nb), .val (.ref tb), .val (.int (1 : Int32)), .unset, .unset] [(.ref tb)])) _
      refine XS.lload X37.here hx rfl (hb hby at_236) rfl ?_
      show Steps p.tables e below (T37.setTop (mkF m 238 #[.val (.long pp), .second, .val (.long xx), .second, .val (.long yy), .second, .val (.int nn), .val (.int mm), .val (.int flags), .val (.int (0 : Int32)), .val (.int sml), .val (.long keys), .second, .val (.long ka), .second, .val (.int (flags &&& (3 : Int32))), .val (.long kb), .second, .val (.long kc), .second, .val (.int na), .val (.int nb), .val (.ref tb), .val (.int (1 : Int32)), .unset, .unset] [(.long kc), (.ref tb)])) _
      refine st40.trans ?_
      show Steps p.tables e below (T40.setTop (mkF m 241 #[.val (.long pp), .second, .val (.long xx), .second, .val (.long yy), .second, .val (.int nn), .val (.int mm), .val (.int flags), .val (.int (0 : Int32)), .val (.int sml), .val (.long keys), .second, .val (.long ka), .second, .val (.int (flags &&& (3 : Int32))), .val (.long kb), .second, .val (.long kc), .second, .val (.int na), .val (.int nb), .val (.ref tb), .val (.int (1 : Int32)), .unset, .unset] [(.int (if (yv39 &&& ((1 : Int64) <<< ((Int32.ofNat Ic) &&& 0x3f).toInt64)) = (0 : Int64) then (0 : Int32) else (1 : Int32)))])) _
      rw [← erc]
      show Steps p.tables e below (T40.setTop (mkF m 241 #[.val (.long pp), .second, .val (.long xx), .second, .val (.long yy), .second, .val (.int nn), .val (.int mm), .val (.int flags), .val (.int (0 : Int32)), .val (.int sml), .val (.long keys), .second, .val (.long ka), .second, .val (.int (flags &&& (3 : Int32))), .val (.long kb), .second, .val (.long kc), .second, .val (.int na), .val (.int nb), .val (.ref tb), .val (.int (1 : Int32)), .unset, .unset] [(.int rc)])) _
      refine XS.lload X40.here hx rfl (hb hby at_241) rfl ?_
      show Steps p.tables e below (T40.setTop (mkF m 243 #[.val (.long pp), .second, .val (.long xx), .second, .val (.long yy), .second, .val (.int nn), .val (.int mm), .val (.int flags), .val (.int (0 : Int32)), .val (.int sml), .val (.long keys), .second, .val (.long ka), .second, .val (.int (flags &&& (3 : Int32))), .val (.long kb), .second, .val (.long kc), .second, .val (.int na), .val (.int nb), .val (.ref tb), .val (.int (1 : Int32)), .unset, .unset] [(.long kc), (.int rc)])) _
      refine XS.lload X40.here hx rfl (hb hby at_243) rfl ?_
      show Steps p.tables e below (T40.setTop (mkF m 245 #[.val (.long pp), .second, .val (.long xx), .second, .val (.long yy), .second, .val (.int nn), .val (.int mm), .val (.int flags), .val (.int (0 : Int32)), .val (.int sml), .val (.long keys), .second, .val (.long ka), .second, .val (.int (flags &&& (3 : Int32))), .val (.long kb), .second, .val (.long kc), .second, .val (.int na), .val (.int nb), .val (.ref tb), .val (.int (1 : Int32)), .unset, .unset] [(.long ka), (.long kc), (.int rc)])) _
      refine XS.lcmp X40.here hx rfl (hb hby at_245) rfl ?_
      show Steps p.tables e below (T40.setTop (mkF m 246 #[.val (.long pp), .second, .val (.long xx), .second, .val (.long yy), .second, .val (.int nn), .val (.int mm), .val (.int flags), .val (.int (0 : Int32)), .val (.int sml), .val (.long keys), .second, .val (.long ka), .second, .val (.int (flags &&& (3 : Int32))), .val (.long kb), .second, .val (.long kc), .second, .val (.int na), .val (.int nb), .val (.ref tb), .val (.int (1 : Int32)), .unset, .unset] [(.int (lcmpW kc ka)), (.int rc)])) _
      exact kt
    have k47 : ∀ tg, Steps p.tables e below (T40.setTop (mkF m 262 #[.val (.long pp), .second, .val (.long xx), .second, .val (.long yy), .second, .val (.int nn), .val (.int mm), .val (.int flags), .val (.int (0 : Int32)), .val (.int sml), .val (.long keys), .second, .val (.long ka), .second, .val (.int (flags &&& (3 : Int32))), .val (.long kb), .second, .val (.long kc), .second, .val (.int na), .val (.int nb), .val (.ref tb), .val (.int (1 : Int32)), .unset, .unset] [(.int (if kc = ka then (1 : Int32) else (if kc = kb then (1 : Int32) else (0 : Int32)))), (.int rc)])) tg → Steps p.tables e below (s₁.setTop (entryFrame m #[(.long pp), (.long xx), (.long yy), (.int nn), (.int mm), (.int flags)] maxLocals)) tg := by
      intro tg kt
      refine k41 tg ?_
      show Steps p.tables e below (T40.setTop (mkF m 246 #[.val (.long pp), .second, .val (.long xx), .second, .val (.long yy), .second, .val (.int nn), .val (.int mm), .val (.int flags), .val (.int (0 : Int32)), .val (.int sml), .val (.long keys), .second, .val (.long ka), .second, .val (.int (flags &&& (3 : Int32))), .val (.long kb), .second, .val (.long kc), .second, .val (.int na), .val (.int nb), .val (.ref tb), .val (.int (1 : Int32)), .unset, .unset] [(.int (lcmpW kc ka)), (.int rc)])) _
      by_cases hc42 : kc = ka
      · refine XS.ifYes X40.here hx rfl (pc0 := 246) (pc' := 257) rfl (hb hby at_246) rfl ((if0 _ _).trans (teq ((lw_eq _ _).mpr hc42)).1) (by decide) (by decide) ?_
        show Steps p.tables e below (T40.setTop (mkF m 257 #[.val (.long pp), .second, .val (.long xx), .second, .val (.long yy), .second, .val (.int nn), .val (.int mm), .val (.int flags), .val (.int (0 : Int32)), .val (.int sml), .val (.long keys), .second, .val (.long ka), .second, .val (.int (flags &&& (3 : Int32))), .val (.long kb), .second, .val (.long kc), .second, .val (.int na), .val (.int nb), .val (.ref tb), .val (.int (1 : Int32)), .unset, .unset] [(.int rc)])) _
        refine XS.iconst X40.here hx rfl (hb hby at_257) ?_
        show Steps p.tables e below (T40.setTop (mkF m 258 #[.val (.long pp), .second, .val (.long xx), .second, .val (.long yy), .second, .val (.int nn), .val (.int mm), .val (.int flags), .val (.int (0 : Int32)), .val (.int sml), .val (.long keys), .second, .val (.long ka), .second, .val (.int (flags &&& (3 : Int32))), .val (.long kb), .second, .val (.long kc), .second, .val (.int na), .val (.int nb), .val (.ref tb), .val (.int (1 : Int32)), .unset, .unset] [(.int (1 : Int32)), (.int rc)])) _
        refine XS.goto X40.here hx rfl (pc0 := 258) (pc' := 262) rfl (hb hby at_258) (by decide) (by decide) ?_
        show Steps p.tables e below (T40.setTop (mkF m 262 #[.val (.long pp), .second, .val (.long xx), .second, .val (.long yy), .second, .val (.int nn), .val (.int mm), .val (.int flags), .val (.int (0 : Int32)), .val (.int sml), .val (.long keys), .second, .val (.long ka), .second, .val (.int (flags &&& (3 : Int32))), .val (.long kb), .second, .val (.long kc), .second, .val (.int na), .val (.int nb), .val (.ref tb), .val (.int (1 : Int32)), .unset, .unset] [(.int (1 : Int32)), (.int rc)])) _
        repeat rw [if_pos hc42] at kt
        exact kt
      · refine XS.ifNo X40.here hx rfl (hb hby at_246) rfl ((if0 _ _).trans (feq (fun q => hc42 ((lw_eq _ _).mp q))).1) ?_
        show Steps p.tables e below (T40.setTop (mkF m 249 #[.val (.long pp), .second, .val (.long xx), .second, .val (.long yy), .second, .val (.int nn), .val (.int mm), .val (.int flags), .val (.int (0 : Int32)), .val (.int sml), .val (.long keys), .second, .val (.long ka), .second, .val (.int (flags &&& (3 : Int32))), .val (.long kb), .second, .val (.long kc), .second, .val (.int na), .val (.int nb), .val (.ref tb), .val (.int (1 : Int32)), .unset, .unset] [(.int rc)])) _
        refine XS.lload X40.here hx rfl (hb hby at_249) rfl ?_
        show Steps p.tables e below (T40.setTop (mkF m 251 #[.val (.long pp), .second, .val (.long xx), .second, .val (.long yy), .second, .val (.int nn), .val (.int mm), .val (.int flags), .val (.int (0 : Int32)), .val (.int sml), .val (.long keys), .second, .val (.long ka), .second, .val (.int (flags &&& (3 : Int32))), .val (.long kb), .second, .val (.long kc), .second, .val (.int na), .val (.int nb), .val (.ref tb), .val (.int (1 : Int32)), .unset, .unset] [(.long kc), (.int rc)])) _
        refine XS.lload X40.here hx rfl (hb hby at_251) rfl ?_
        show Steps p.tables e below (T40.setTop (mkF m 253 #[.val (.long pp), .second, .val (.long xx), .second, .val (.long yy), .second, .val (.int nn), .val (.int mm), .val (.int flags), .val (.int (0 : Int32)), .val (.int sml), .val (.long keys), .second, .val (.long ka), .second, .val (.int (flags &&& (3 : Int32))), .val (.long kb), .second, .val (.long kc), .second, .val (.int na), .val (.int nb), .val (.ref tb), .val (.int (1 : Int32)), .unset, .unset] [(.long kb), (.long kc), (.int rc)])) _
        refine XS.lcmp X40.here hx rfl (hb hby at_253) rfl ?_
        show Steps p.tables e below (T40.setTop (mkF m 254 #[.val (.long pp), .second, .val (.long xx), .second, .val (.long yy), .second, .val (.int nn), .val (.int mm), .val (.int flags), .val (.int (0 : Int32)), .val (.int sml), .val (.long keys), .second, .val (.long ka), .second, .val (.int (flags &&& (3 : Int32))), .val (.long kb), .second, .val (.long kc), .second, .val (.int na), .val (.int nb), .val (.ref tb), .val (.int (1 : Int32)), .unset, .unset] [(.int (lcmpW kc kb)), (.int rc)])) _
        by_cases hc44 : kc = kb
        · refine XS.ifNo X40.here hx rfl (hb hby at_254) rfl ((if0 _ _).trans (teq ((lw_eq _ _).mpr hc44)).2) ?_
          show Steps p.tables e below (T40.setTop (mkF m 257 #[.val (.long pp), .second, .val (.long xx), .second, .val (.long yy), .second, .val (.int nn), .val (.int mm), .val (.int flags), .val (.int (0 : Int32)), .val (.int sml), .val (.long keys), .second, .val (.long ka), .second, .val (.int (flags &&& (3 : Int32))), .val (.long kb), .second, .val (.long kc), .second, .val (.int na), .val (.int nb), .val (.ref tb), .val (.int (1 : Int32)), .unset, .unset] [(.int rc)])) _
          refine XS.iconst X40.here hx rfl (hb hby at_257) ?_
          show Steps p.tables e below (T40.setTop (mkF m 258 #[.val (.long pp), .second, .val (.long xx), .second, .val (.long yy), .second, .val (.int nn), .val (.int mm), .val (.int flags), .val (.int (0 : Int32)), .val (.int sml), .val (.long keys), .second, .val (.long ka), .second, .val (.int (flags &&& (3 : Int32))), .val (.long kb), .second, .val (.long kc), .second, .val (.int na), .val (.int nb), .val (.ref tb), .val (.int (1 : Int32)), .unset, .unset] [(.int (1 : Int32)), (.int rc)])) _
          refine XS.goto X40.here hx rfl (pc0 := 258) (pc' := 262) rfl (hb hby at_258) (by decide) (by decide) ?_
          show Steps p.tables e below (T40.setTop (mkF m 262 #[.val (.long pp), .second, .val (.long xx), .second, .val (.long yy), .second, .val (.int nn), .val (.int mm), .val (.int flags), .val (.int (0 : Int32)), .val (.int sml), .val (.long keys), .second, .val (.long ka), .second, .val (.int (flags &&& (3 : Int32))), .val (.long kb), .second, .val (.long kc), .second, .val (.int na), .val (.int nb), .val (.ref tb), .val (.int (1 : Int32)), .unset, .unset] [(.int (1 : Int32)), (.int rc)])) _
          repeat rw [if_neg hc42] at kt
          repeat rw [if_pos hc44] at kt
          exact kt
        · refine XS.ifYes X40.here hx rfl (pc0 := 254) (pc' := 261) rfl (hb hby at_254) rfl ((if0 _ _).trans (feq (fun q => hc44 ((lw_eq _ _).mp q))).2) (by decide) (by decide) ?_
          show Steps p.tables e below (T40.setTop (mkF m 261 #[.val (.long pp), .second, .val (.long xx), .second, .val (.long yy), .second, .val (.int nn), .val (.int mm), .val (.int flags), .val (.int (0 : Int32)), .val (.int sml), .val (.long keys), .second, .val (.long ka), .second, .val (.int (flags &&& (3 : Int32))), .val (.long kb), .second, .val (.long kc), .second, .val (.int na), .val (.int nb), .val (.ref tb), .val (.int (1 : Int32)), .unset, .unset] [(.int rc)])) _
          refine XS.iconst X40.here hx rfl (hb hby at_261) ?_
          show Steps p.tables e below (T40.setTop (mkF m 262 #[.val (.long pp), .second, .val (.long xx), .second, .val (.long yy), .second, .val (.int nn), .val (.int mm), .val (.int flags), .val (.int (0 : Int32)), .val (.int sml), .val (.long keys), .second, .val (.long ka), .second, .val (.int (flags &&& (3 : Int32))), .val (.long kb), .second, .val (.long kc), .second, .val (.int na), .val (.int nb), .val (.ref tb), .val (.int (1 : Int32)), .unset, .unset] [(.int (0 : Int32)), (.int rc)])) _
          repeat rw [if_neg hc42] at kt
          repeat rw [if_neg hc44] at kt
          exact kt
    obtain ⟨z48, ez48⟩ : ∃ z : Int32, z = (if kc = ka then (1 : Int32) else (if kc = kb then (1 : Int32) else (0 : Int32))) := ⟨_, rfl⟩
    have hWrc : (yv39 &&& ((1 : Int64) <<< ((Int32.ofNat Ic) &&& 0x3f).toInt64)) = (0 : Int64) ↔ ¬ ((Pc = Pa ∧ Ic / 64 = Ia / 64 ∧ Ic % 64 = Ia % 64) ∨ (Pc = Pb ∧ Ic / 64 = Ib / 64 ∧ Ic % 64 = Ib % 64)) := by
      rw [eyv39]
      subst eyw26 eyw30
      by_cases ca : (Pc = Pa ∧ Ic / 64 = Ia / 64)
      · by_cases cb : (Pc = Pb ∧ Ic / 64 = Ib / 64)
        · by_cases d21 : (Pb = Pa ∧ Ib / 64 = Ia / 64)
          · rw [if_pos cb, if_pos d21, own_om _ Ib Ic lIb lIc, own_om _ Ia Ic lIa lIc]
            simp only [Int64.zero_and, true_and, and_true, not_false_eq_true, iff_true, true_iff, eq_self]
            first | done | omega | (simp; done) | (simp; omega)
          · rw [if_pos cb, if_neg d21, own_om _ Ib Ic lIb lIc]
            simp only [Int64.zero_and, true_and, and_true, not_false_eq_true, iff_true, true_iff, eq_self]
            first | done | omega | (simp; done) | (simp; omega)
        · by_cases d21 : (Pb = Pa ∧ Ib / 64 = Ia / 64)
          · rw [if_neg cb, if_pos ca, own_om _ Ia Ic lIa lIc]
            simp only [Int64.zero_and, true_and, and_true, not_false_eq_true, iff_true, true_iff, eq_self]
            first | done | omega | (simp; done) | (simp; omega)
          · rw [if_neg cb, if_pos ca, own_om _ Ia Ic lIa lIc]
            simp only [Int64.zero_and, true_and, and_true, not_false_eq_true, iff_true, true_iff, eq_self]
            first | done | omega | (simp; done) | (simp; omega)
      · by_cases cb : (Pc = Pb ∧ Ic / 64 = Ib / 64)
        · by_cases d21 : (Pb = Pa ∧ Ib / 64 = Ia / 64)
          · rw [if_pos cb, if_pos d21, own_om _ Ib Ic lIb lIc, own_om _ Ia Ic lIa lIc]
            simp only [Int64.zero_and, true_and, and_true, not_false_eq_true, iff_true, true_iff, eq_self]
            first | done | omega | (simp; done) | (simp; omega)
          · rw [if_pos cb, if_neg d21, own_om _ Ib Ic lIb lIc]
            simp only [Int64.zero_and, true_and, and_true, not_false_eq_true, iff_true, true_iff, eq_self]
            first | done | omega | (simp; done) | (simp; omega)
        · by_cases d21 : (Pb = Pa ∧ Ib / 64 = Ia / 64)
          · rw [if_neg cb, if_neg ca]
            simp only [Int64.zero_and, true_and, and_true, not_false_eq_true, iff_true, true_iff, eq_self]
            first | done | omega | (simp; done) | (simp; omega)
          · rw [if_neg cb, if_neg ca]
            simp only [Int64.zero_and, true_and, and_true, not_false_eq_true, iff_true, true_iff, eq_self]
            first | done | omega | (simp; done) | (simp; omega)
    have hd49 : rc = z48 := by
      rw [erc, ez48]
      by_cases da : kc = ka
      · rw [if_pos da, if_neg (fun q => hWrc.mp q (Or.inl (q_kc_ka.mp da)))]
      · rw [if_neg da]
        by_cases db : kc = kb
        · rw [if_pos db, if_neg (fun q => hWrc.mp q (Or.inr (q_kc_kb.mp db)))]
        · rw [if_neg db, if_pos (hWrc.mpr (fun q => q.elim (fun r => da (q_kc_ka.mpr r)) (fun r => db (q_kc_kb.mpr r))))]
    have hd50 : (0 : Int32) = (0 : Int32) := rfl
    have k51 : ∀ tg, Steps p.tables e below (T40.setTop (mkF m 288 #[.val (.long pp), .second, .val (.long xx), .second, .val (.long yy), .second, .val (.int nn), .val (.int mm), .val (.int flags), .val (.int (0 : Int32)), .val (.int sml), .val (.long keys), .second, .val (.long ka), .second, .val (.int (flags &&& (3 : Int32))), .val (.long kb), .second, .val (.long kc), .second, .val (.int na), .val (.int nb), .val (.ref tb), .val (.int (1 : Int32)), .val (.int (15 : Int32)), .unset] [(.int sml)])) tg → Steps p.tables e below (s₁.setTop (entryFrame m #[(.long pp), (.long xx), (.long yy), (.int nn), (.int mm), (.int flags)] maxLocals)) tg := by
      intro tg kt
      refine k47 tg ?_
      show Steps p.tables e below (T40.setTop (mkF m 262 #[.val (.long pp), .second, .val (.long xx), .second, .val (.long yy), .second, .val (.int nn), .val (.int mm), .val (.int flags), .val (.int (0 : Int32)), .val (.int sml), .val (.long keys), .second, .val (.long ka), .second, .val (.int (flags &&& (3 : Int32))), .val (.long kb), .second, .val (.long kc), .second, .val (.int na), .val (.int nb), .val (.ref tb), .val (.int (1 : Int32)), .unset, .unset] [(.int (if kc = ka then (1 : Int32) else (if kc = kb then (1 : Int32) else (0 : Int32)))), (.int rc)])) _
      rw [← ez48]
      show Steps p.tables e below (T40.setTop (mkF m 262 #[.val (.long pp), .second, .val (.long xx), .second, .val (.long yy), .second, .val (.int nn), .val (.int mm), .val (.int flags), .val (.int (0 : Int32)), .val (.int sml), .val (.long keys), .second, .val (.long ka), .second, .val (.int (flags &&& (3 : Int32))), .val (.long kb), .second, .val (.long kc), .second, .val (.int na), .val (.int nb), .val (.ref tb), .val (.int (1 : Int32)), .unset, .unset] [(.int z48), (.int rc)])) _
      refine XS.icmpNo X40.here hx rfl (hb hby at_262) rfl (teq hd49).2 ?_
      show Steps p.tables e below (T40.setTop (mkF m 265 #[.val (.long pp), .second, .val (.long xx), .second, .val (.long yy), .second, .val (.int nn), .val (.int mm), .val (.int flags), .val (.int (0 : Int32)), .val (.int sml), .val (.long keys), .second, .val (.long ka), .second, .val (.int (flags &&& (3 : Int32))), .val (.long kb), .second, .val (.long kc), .second, .val (.int na), .val (.int nb), .val (.ref tb), .val (.int (1 : Int32)), .unset, .unset] [])) _
      refine XS.iconst X40.here hx rfl (hb hby at_265) ?_
      show Steps p.tables e below (T40.setTop (mkF m 266 #[.val (.long pp), .second, .val (.long xx), .second, .val (.long yy), .second, .val (.int nn), .val (.int mm), .val (.int flags), .val (.int (0 : Int32)), .val (.int sml), .val (.long keys), .second, .val (.long ka), .second, .val (.int (flags &&& (3 : Int32))), .val (.long kb), .second, .val (.long kc), .second, .val (.int na), .val (.int nb), .val (.ref tb), .val (.int (1 : Int32)), .unset, .unset] [(.int (1 : Int32))])) _
      refine XS.goto X40.here hx rfl (pc0 := 266) (pc' := 270) rfl (hb hby at_266) (by decide) (by decide) ?_
      show Steps p.tables e below (T40.setTop (mkF m 270 #[.val (.long pp), .second, .val (.long xx), .second, .val (.long yy), .second, .val (.int nn), .val (.int mm), .val (.int flags), .val (.int (0 : Int32)), .val (.int sml), .val (.long keys), .second, .val (.long ka), .second, .val (.int (flags &&& (3 : Int32))), .val (.long kb), .second, .val (.long kc), .second, .val (.int na), .val (.int nb), .val (.ref tb), .val (.int (1 : Int32)), .unset, .unset] [(.int (1 : Int32))])) _
      refine XS.istore X40.here hx rfl (hb hby at_270) rfl (l' := #[.val (.long pp), .second, .val (.long xx), .second, .val (.long yy), .second, .val (.int nn), .val (.int mm), .val (.int flags), .val (.int (0 : Int32)), .val (.int sml), .val (.long keys), .second, .val (.long ka), .second, .val (.int (flags &&& (3 : Int32))), .val (.long kb), .second, .val (.long kc), .second, .val (.int na), .val (.int nb), .val (.ref tb), .val (.int (1 : Int32)), .unset, .unset]) rfl ?_
      show Steps p.tables e below (T40.setTop (mkF m 272 #[.val (.long pp), .second, .val (.long xx), .second, .val (.long yy), .second, .val (.int nn), .val (.int mm), .val (.int flags), .val (.int (0 : Int32)), .val (.int sml), .val (.long keys), .second, .val (.long ka), .second, .val (.int (flags &&& (3 : Int32))), .val (.long kb), .second, .val (.long kc), .second, .val (.int na), .val (.int nb), .val (.ref tb), .val (.int (1 : Int32)), .unset, .unset] [])) _
      refine XS.iload X40.here hx rfl (hb hby at_272) rfl ?_
      show Steps p.tables e below (T40.setTop (mkF m 274 #[.val (.long pp), .second, .val (.long xx), .second, .val (.long yy), .second, .val (.int nn), .val (.int mm), .val (.int flags), .val (.int (0 : Int32)), .val (.int sml), .val (.long keys), .second, .val (.long ka), .second, .val (.int (flags &&& (3 : Int32))), .val (.long kb), .second, .val (.long kc), .second, .val (.int na), .val (.int nb), .val (.ref tb), .val (.int (1 : Int32)), .unset, .unset] [(.int (0 : Int32))])) _
      refine XS.ifYes X40.here hx rfl (pc0 := 274) (pc' := 282) rfl (hb hby at_274) rfl ((if0 _ _).trans (teq hd50).1) (by decide) (by decide) ?_
      show Steps p.tables e below (T40.setTop (mkF m 282 #[.val (.long pp), .second, .val (.long xx), .second, .val (.long yy), .second, .val (.int nn), .val (.int mm), .val (.int flags), .val (.int (0 : Int32)), .val (.int sml), .val (.long keys), .second, .val (.long ka), .second, .val (.int (flags &&& (3 : Int32))), .val (.long kb), .second, .val (.long kc), .second, .val (.int na), .val (.int nb), .val (.ref tb), .val (.int (1 : Int32)), .unset, .unset] [])) _
      refine XS.bipush X40.here hx rfl (hb hby at_282) ?_
      show Steps p.tables e below (T40.setTop (mkF m 284 #[.val (.long pp), .second, .val (.long xx), .second, .val (.long yy), .second, .val (.int nn), .val (.int mm), .val (.int flags), .val (.int (0 : Int32)), .val (.int sml), .val (.long keys), .second, .val (.long ka), .second, .val (.int (flags &&& (3 : Int32))), .val (.long kb), .second, .val (.long kc), .second, .val (.int na), .val (.int nb), .val (.ref tb), .val (.int (1 : Int32)), .unset, .unset] [(.int (15 : Int32))])) _
      refine XS.istore X40.here hx rfl (hb hby at_284) rfl (l' := #[.val (.long pp), .second, .val (.long xx), .second, .val (.long yy), .second, .val (.int nn), .val (.int mm), .val (.int flags), .val (.int (0 : Int32)), .val (.int sml), .val (.long keys), .second, .val (.long ka), .second, .val (.int (flags &&& (3 : Int32))), .val (.long kb), .second, .val (.long kc), .second, .val (.int na), .val (.int nb), .val (.ref tb), .val (.int (1 : Int32)), .val (.int (15 : Int32)), .unset]) rfl ?_
      show Steps p.tables e below (T40.setTop (mkF m 286 #[.val (.long pp), .second, .val (.long xx), .second, .val (.long yy), .second, .val (.int nn), .val (.int mm), .val (.int flags), .val (.int (0 : Int32)), .val (.int sml), .val (.long keys), .second, .val (.long ka), .second, .val (.int (flags &&& (3 : Int32))), .val (.long kb), .second, .val (.long kc), .second, .val (.int na), .val (.int nb), .val (.ref tb), .val (.int (1 : Int32)), .val (.int (15 : Int32)), .unset] [])) _
      refine XS.iload X40.here hx rfl (hb hby at_286) rfl ?_
      show Steps p.tables e below (T40.setTop (mkF m 288 #[.val (.long pp), .second, .val (.long xx), .second, .val (.long yy), .second, .val (.int nn), .val (.int mm), .val (.int flags), .val (.int (0 : Int32)), .val (.int sml), .val (.long keys), .second, .val (.long ka), .second, .val (.int (flags &&& (3 : Int32))), .val (.long kb), .second, .val (.long kc), .second, .val (.int na), .val (.int nb), .val (.ref tb), .val (.int (1 : Int32)), .val (.int (15 : Int32)), .unset] [(.int sml)])) _
      exact kt
    have k57 : ∀ tg, Steps p.tables e below (T40.setTop (mkF m 310 #[.val (.long pp), .second, .val (.long xx), .second, .val (.long yy), .second, .val (.int nn), .val (.int mm), .val (.int flags), .val (.int (0 : Int32)), .val (.int sml), .val (.long keys), .second, .val (.long ka), .second, .val (.int (flags &&& (3 : Int32))), .val (.long kb), .second, .val (.long kc), .second, .val (.int na), .val (.int nb), .val (.ref tb), .val (.int (1 : Int32)), .val (.int (15 : Int32)), .unset] [(.int (if sml = (0 : Int32) then (if ((ka.toUInt64 >>> ((15 : Int32) &&& 0x3f).toInt64.toUInt64).toInt64) = ((kb.toUInt64 >>> ((15 : Int32) &&& 0x3f).toInt64.toUInt64).toInt64) then (1 : Int32) else (0 : Int32)) else (1 : Int32)))])) tg → Steps p.tables e below (s₁.setTop (entryFrame m #[(.long pp), (.long xx), (.long yy), (.int nn), (.int mm), (.int flags)] maxLocals)) tg := by
      intro tg kt
      refine k51 tg ?_
      show Steps p.tables e below (T40.setTop (mkF m 288 #[.val (.long pp), .second, .val (.long xx), .second, .val (.long yy), .second, .val (.int nn), .val (.int mm), .val (.int flags), .val (.int (0 : Int32)), .val (.int sml), .val (.long keys), .second, .val (.long ka), .second, .val (.int (flags &&& (3 : Int32))), .val (.long kb), .second, .val (.long kc), .second, .val (.int na), .val (.int nb), .val (.ref tb), .val (.int (1 : Int32)), .val (.int (15 : Int32)), .unset] [(.int sml)])) _
      by_cases hc52 : sml = (0 : Int32)
      · refine XS.ifNo X40.here hx rfl (hb hby at_288) rfl ((if0 _ _).trans (teq hc52).2) ?_
        show Steps p.tables e below (T40.setTop (mkF m 291 #[.val (.long pp), .second, .val (.long xx), .second, .val (.long yy), .second, .val (.int nn), .val (.int mm), .val (.int flags), .val (.int (0 : Int32)), .val (.int sml), .val (.long keys), .second, .val (.long ka), .second, .val (.int (flags &&& (3 : Int32))), .val (.long kb), .second, .val (.long kc), .second, .val (.int na), .val (.int nb), .val (.ref tb), .val (.int (1 : Int32)), .val (.int (15 : Int32)), .unset] [])) _
        refine XS.lload X40.here hx rfl (hb hby at_291) rfl ?_
        show Steps p.tables e below (T40.setTop (mkF m 293 #[.val (.long pp), .second, .val (.long xx), .second, .val (.long yy), .second, .val (.int nn), .val (.int mm), .val (.int flags), .val (.int (0 : Int32)), .val (.int sml), .val (.long keys), .second, .val (.long ka), .second, .val (.int (flags &&& (3 : Int32))), .val (.long kb), .second, .val (.long kc), .second, .val (.int na), .val (.int nb), .val (.ref tb), .val (.int (1 : Int32)), .val (.int (15 : Int32)), .unset] [(.long ka)])) _
        refine XS.iload X40.here hx rfl (hb hby at_293) rfl ?_
        show Steps p.tables e below (T40.setTop (mkF m 295 #[.val (.long pp), .second, .val (.long xx), .second, .val (.long yy), .second, .val (.int nn), .val (.int mm), .val (.int flags), .val (.int (0 : Int32)), .val (.int sml), .val (.long keys), .second, .val (.long ka), .second, .val (.int (flags &&& (3 : Int32))), .val (.long kb), .second, .val (.long kc), .second, .val (.int na), .val (.int nb), .val (.ref tb), .val (.int (1 : Int32)), .val (.int (15 : Int32)), .unset] [(.int (15 : Int32)), (.long ka)])) _
        refine XS.lushr X40.here hx rfl (hb hby at_295) rfl ?_
        show Steps p.tables e below (T40.setTop (mkF m 296 #[.val (.long pp), .second, .val (.long xx), .second, .val (.long yy), .second, .val (.int nn), .val (.int mm), .val (.int flags), .val (.int (0 : Int32)), .val (.int sml), .val (.long keys), .second, .val (.long ka), .second, .val (.int (flags &&& (3 : Int32))), .val (.long kb), .second, .val (.long kc), .second, .val (.int na), .val (.int nb), .val (.ref tb), .val (.int (1 : Int32)), .val (.int (15 : Int32)), .unset] [(.long ((ka.toUInt64 >>> ((15 : Int32) &&& 0x3f).toInt64.toUInt64).toInt64))])) _
        refine XS.lload X40.here hx rfl (hb hby at_296) rfl ?_
        show Steps p.tables e below (T40.setTop (mkF m 298 #[.val (.long pp), .second, .val (.long xx), .second, .val (.long yy), .second, .val (.int nn), .val (.int mm), .val (.int flags), .val (.int (0 : Int32)), .val (.int sml), .val (.long keys), .second, .val (.long ka), .second, .val (.int (flags &&& (3 : Int32))), .val (.long kb), .second, .val (.long kc), .second, .val (.int na), .val (.int nb), .val (.ref tb), .val (.int (1 : Int32)), .val (.int (15 : Int32)), .unset] [(.long kb), (.long ((ka.toUInt64 >>> ((15 : Int32) &&& 0x3f).toInt64.toUInt64).toInt64))])) _
        refine XS.iload X40.here hx rfl (hb hby at_298) rfl ?_
        show Steps p.tables e below (T40.setTop (mkF m 300 #[.val (.long pp), .second, .val (.long xx), .second, .val (.long yy), .second, .val (.int nn), .val (.int mm), .val (.int flags), .val (.int (0 : Int32)), .val (.int sml), .val (.long keys), .second, .val (.long ka), .second, .val (.int (flags &&& (3 : Int32))), .val (.long kb), .second, .val (.long kc), .second, .val (.int na), .val (.int nb), .val (.ref tb), .val (.int (1 : Int32)), .val (.int (15 : Int32)), .unset] [(.int (15 : Int32)), (.long kb), (.long ((ka.toUInt64 >>> ((15 : Int32) &&& 0x3f).toInt64.toUInt64).toInt64))])) _
        refine XS.lushr X40.here hx rfl (hb hby at_300) rfl ?_
        show Steps p.tables e below (T40.setTop (mkF m 301 #[.val (.long pp), .second, .val (.long xx), .second, .val (.long yy), .second, .val (.int nn), .val (.int mm), .val (.int flags), .val (.int (0 : Int32)), .val (.int sml), .val (.long keys), .second, .val (.long ka), .second, .val (.int (flags &&& (3 : Int32))), .val (.long kb), .second, .val (.long kc), .second, .val (.int na), .val (.int nb), .val (.ref tb), .val (.int (1 : Int32)), .val (.int (15 : Int32)), .unset] [(.long ((kb.toUInt64 >>> ((15 : Int32) &&& 0x3f).toInt64.toUInt64).toInt64)), (.long ((ka.toUInt64 >>> ((15 : Int32) &&& 0x3f).toInt64.toUInt64).toInt64))])) _
        refine XS.lcmp X40.here hx rfl (hb hby at_301) rfl ?_
        show Steps p.tables e below (T40.setTop (mkF m 302 #[.val (.long pp), .second, .val (.long xx), .second, .val (.long yy), .second, .val (.int nn), .val (.int mm), .val (.int flags), .val (.int (0 : Int32)), .val (.int sml), .val (.long keys), .second, .val (.long ka), .second, .val (.int (flags &&& (3 : Int32))), .val (.long kb), .second, .val (.long kc), .second, .val (.int na), .val (.int nb), .val (.ref tb), .val (.int (1 : Int32)), .val (.int (15 : Int32)), .unset] [(.int (lcmpW ((ka.toUInt64 >>> ((15 : Int32) &&& 0x3f).toInt64.toUInt64).toInt64) ((kb.toUInt64 >>> ((15 : Int32) &&& 0x3f).toInt64.toUInt64).toInt64)))])) _
        by_cases hc53 : ((ka.toUInt64 >>> ((15 : Int32) &&& 0x3f).toInt64.toUInt64).toInt64) = ((kb.toUInt64 >>> ((15 : Int32) &&& 0x3f).toInt64.toUInt64).toInt64)
        · refine XS.ifNo X40.here hx rfl (hb hby at_302) rfl ((if0 _ _).trans (teq ((lw_eq _ _).mpr hc53)).2) ?_
          show Steps p.tables e below (T40.setTop (mkF m 305 #[.val (.long pp), .second, .val (.long xx), .second, .val (.long yy), .second, .val (.int nn), .val (.int mm), .val (.int flags), .val (.int (0 : Int32)), .val (.int sml), .val (.long keys), .second, .val (.long ka), .second, .val (.int (flags &&& (3 : Int32))), .val (.long kb), .second, .val (.long kc), .second, .val (.int na), .val (.int nb), .val (.ref tb), .val (.int (1 : Int32)), .val (.int (15 : Int32)), .unset] [])) _
          refine XS.iconst X40.here hx rfl (hb hby at_305) ?_
          show Steps p.tables e below (T40.setTop (mkF m 306 #[.val (.long pp), .second, .val (.long xx), .second, .val (.long yy), .second, .val (.int nn), .val (.int mm), .val (.int flags), .val (.int (0 : Int32)), .val (.int sml), .val (.long keys), .second, .val (.long ka), .second, .val (.int (flags &&& (3 : Int32))), .val (.long kb), .second, .val (.long kc), .second, .val (.int na), .val (.int nb), .val (.ref tb), .val (.int (1 : Int32)), .val (.int (15 : Int32)), .unset] [(.int (1 : Int32))])) _
          refine XS.goto X40.here hx rfl (pc0 := 306) (pc' := 310) rfl (hb hby at_306) (by decide) (by decide) ?_
          show Steps p.tables e below (T40.setTop (mkF m 310 #[.val (.long pp), .second, .val (.long xx), .second, .val (.long yy), .second, .val (.int nn), .val (.int mm), .val (.int flags), .val (.int (0 : Int32)), .val (.int sml), .val (.long keys), .second, .val (.long ka), .second, .val (.int (flags &&& (3 : Int32))), .val (.long kb), .second, .val (.long kc), .second, .val (.int na), .val (.int nb), .val (.ref tb), .val (.int (1 : Int32)), .val (.int (15 : Int32)), .unset] [(.int (1 : Int32))])) _
          repeat rw [if_pos hc52] at kt
          repeat rw [if_pos hc53] at kt
          exact kt
        · refine XS.ifYes X40.here hx rfl (pc0 := 302) (pc' := 309) rfl (hb hby at_302) rfl ((if0 _ _).trans (feq (fun q => hc53 ((lw_eq _ _).mp q))).2) (by decide) (by decide) ?_
          show Steps p.tables e below (T40.setTop (mkF m 309 #[.val (.long pp), .second, .val (.long xx), .second, .val (.long yy), .second, .val (.int nn), .val (.int mm), .val (.int flags), .val (.int (0 : Int32)), .val (.int sml), .val (.long keys), .second, .val (.long ka), .second, .val (.int (flags &&& (3 : Int32))), .val (.long kb), .second, .val (.long kc), .second, .val (.int na), .val (.int nb), .val (.ref tb), .val (.int (1 : Int32)), .val (.int (15 : Int32)), .unset] [])) _
          refine XS.iconst X40.here hx rfl (hb hby at_309) ?_
          show Steps p.tables e below (T40.setTop (mkF m 310 #[.val (.long pp), .second, .val (.long xx), .second, .val (.long yy), .second, .val (.int nn), .val (.int mm), .val (.int flags), .val (.int (0 : Int32)), .val (.int sml), .val (.long keys), .second, .val (.long ka), .second, .val (.int (flags &&& (3 : Int32))), .val (.long kb), .second, .val (.long kc), .second, .val (.int na), .val (.int nb), .val (.ref tb), .val (.int (1 : Int32)), .val (.int (15 : Int32)), .unset] [(.int (0 : Int32))])) _
          repeat rw [if_pos hc52] at kt
          repeat rw [if_neg hc53] at kt
          exact kt
      · refine XS.ifYes X40.here hx rfl (pc0 := 288) (pc' := 305) rfl (hb hby at_288) rfl ((if0 _ _).trans (feq hc52).2) (by decide) (by decide) ?_
        show Steps p.tables e below (T40.setTop (mkF m 305 #[.val (.long pp), .second, .val (.long xx), .second, .val (.long yy), .second, .val (.int nn), .val (.int mm), .val (.int flags), .val (.int (0 : Int32)), .val (.int sml), .val (.long keys), .second, .val (.long ka), .second, .val (.int (flags &&& (3 : Int32))), .val (.long kb), .second, .val (.long kc), .second, .val (.int na), .val (.int nb), .val (.ref tb), .val (.int (1 : Int32)), .val (.int (15 : Int32)), .unset] [])) _
        refine XS.iconst X40.here hx rfl (hb hby at_305) ?_
        show Steps p.tables e below (T40.setTop (mkF m 306 #[.val (.long pp), .second, .val (.long xx), .second, .val (.long yy), .second, .val (.int nn), .val (.int mm), .val (.int flags), .val (.int (0 : Int32)), .val (.int sml), .val (.long keys), .second, .val (.long ka), .second, .val (.int (flags &&& (3 : Int32))), .val (.long kb), .second, .val (.long kc), .second, .val (.int na), .val (.int nb), .val (.ref tb), .val (.int (1 : Int32)), .val (.int (15 : Int32)), .unset] [(.int (1 : Int32))])) _
        refine XS.goto X40.here hx rfl (pc0 := 306) (pc' := 310) rfl (hb hby at_306) (by decide) (by decide) ?_
        show Steps p.tables e below (T40.setTop (mkF m 310 #[.val (.long pp), .second, .val (.long xx), .second, .val (.long yy), .second, .val (.int nn), .val (.int mm), .val (.int flags), .val (.int (0 : Int32)), .val (.int sml), .val (.long keys), .second, .val (.long ka), .second, .val (.int (flags &&& (3 : Int32))), .val (.long kb), .second, .val (.long kc), .second, .val (.int na), .val (.int nb), .val (.ref tb), .val (.int (1 : Int32)), .val (.int (15 : Int32)), .unset] [(.int (1 : Int32))])) _
        repeat rw [if_neg hc52] at kt
        exact kt
    obtain ⟨sp, esp⟩ : ∃ z : Int32, z = (if sml = (0 : Int32) then (if ((ka.toUInt64 >>> ((15 : Int32) &&& 0x3f).toInt64.toUInt64).toInt64) = ((kb.toUInt64 >>> ((15 : Int32) &&& 0x3f).toInt64.toUInt64).toInt64) then (1 : Int32) else (0 : Int32)) else (1 : Int32)) := ⟨_, rfl⟩
    have hd58 : ¬ ((1 : Int32) = (0 : Int32)) := by decide
    obtain ⟨cq59, kq59, q59a, q59b, q59c⟩ := isOf hZ e40 HK31.1
    obtain ⟨_, _, ⟨T59, L59, k59, n59⟩, -, X59, ⟨Lc59, hQ59, l59, y59, z59⟩, st59⟩ := X40.virtualBack hx (y := (⟨"com/example/parley/parley/core/KeyTable", "pages", "()I"⟩ : MethodName)) (z := (⟨"com/example/parley/parley/core/KeyTable", "pages", "()I"⟩ : MethodName)) hown (mvT hZ (hw _ (List.mem_of_getElem? (i := 66) rfl))) (mvT hZ (hw _ (List.mem_of_getElem? (i := 67) rfl))) (notFace_of_selects (args := #[]) (mvT hZ (hw _ (List.mem_of_getElem? (i := 69) rfl)))) (mvT hZ (hw _ (List.mem_of_getElem? (i := 69) rfl))) (mvT hZ (hw _ (List.mem_of_getElem? (i := 68) rfl))) (by decide) (backOf (W := 0) (rmPages l Z a0 hw [] tb (if (updM (fun _ => false) Pa) Pb = true then (if (fun _ => false) Pa = true then (0 : Int32) else (0 : Int32) + (1 : Int32)) else (if (fun _ => false) Pa = true then (0 : Int32) else (0 : Int32) + (1 : Int32)) + (1 : Int32)) T31.heap n0 HK31.2.2.2.2.2.1) hZ (hw _ (List.mem_of_getElem? (i := 70) rfl)) (hw _ (List.mem_of_getElem? (i := 7) rfl)) (by decide) (by decide)) q59a q59c (g := (mkF m 319 #[.val (.long pp), .second, .val (.long xx), .second, .val (.long yy), .second, .val (.int nn), .val (.int mm), .val (.int flags), .val (.int (0 : Int32)), .val (.int sml), .val (.long keys), .second, .val (.long ka), .second, .val (.int (flags &&& (3 : Int32))), .val (.long kb), .second, .val (.long kc), .second, .val (.int na), .val (.int nb), .val (.ref tb), .val (.int (1 : Int32)), .val (.int (15 : Int32)), .val (.int sp)] [(.ref tb)])) rfl (by rw [hml]; rfl) (Steps.refl _) (argsL := []) (rest := []) (lenOf pd_7 rfl) rfl (by show 2 * 0 + _ ≤ _; exact Nat.le_of_eq rfl) (hb hby at_319) (fun _ _ => ⟨rfl, e40, (by decide : 4 + 0 ≤ _), (by decide : 1159 + 0 ≤ _)⟩)
    dsimp only [Pt.U, Pt.locs, Pt.cells, Pt.slots] at X59 l59 y59 z59 st59 hQ59
    subst l59 y59 z59
    obtain ⟨rfl, N59q, e59⟩ := hQ59
    have N59 := Fr.app N40 N59q
    obtain ⟨c2, ec2⟩ : ∃ z : Int32, z = (if (updM (fun _ => false) Pa) Pb = true then (if (fun _ => false) Pa = true then (0 : Int32) else (0 : Int32) + (1 : Int32)) else (if (fun _ => false) Pa = true then (0 : Int32) else (0 : Int32) + (1 : Int32)) + (1 : Int32)) := ⟨_, rfl⟩
    have k60 : ∀ tg, Steps p.tables e below (T59.setTop (mkF m 324 #[.val (.long pp), .second, .val (.long xx), .second, .val (.long yy), .second, .val (.int nn), .val (.int mm), .val (.int flags), .val (.int (0 : Int32)), .val (.int sml), .val (.long keys), .second, .val (.long ka), .second, .val (.int (flags &&& (3 : Int32))), .val (.long kb), .second, .val (.long kc), .second, .val (.int na), .val (.int nb), .val (.ref tb), .val (.int (1 : Int32)), .val (.int (15 : Int32)), .val (.int sp)] [(.int sp), (.int c2)])) tg → Steps p.tables e below (s₁.setTop (entryFrame m #[(.long pp), (.long xx), (.long yy), (.int nn), (.int mm), (.int flags)] maxLocals)) tg := by
      intro tg kt
      refine k57 tg ?_
      show Steps p.tables e below (T40.setTop (mkF m 310 #[.val (.long pp), .second, .val (.long xx), .second, .val (.long yy), .second, .val (.int nn), .val (.int mm), .val (.int flags), .val (.int (0 : Int32)), .val (.int sml), .val (.long keys), .second, .val (.long ka), .second, .val (.int (flags &&& (3 : Int32))), .val (.long kb), .second, .val (.long kc), .second, .val (.int na), .val (.int nb), .val (.ref tb), .val (.int (1 : Int32)), .val (.int (15 : Int32)), .unset] [(.int (if sml = (0 : Int32) then (if ((ka.toUInt64 >>> ((15 : Int32) &&& 0x3f).toInt64.toUInt64).toInt64) = ((kb.toUInt64 >>> ((15 : Int32) &&& 0x3f).toInt64.toUInt64).toInt64) then (1 : Int32) else (0 : Int32)) else (1 : Int32)))])) _
      rw [← esp]
      show Steps p.tables e below (T40.setTop (mkF m 310 #[.val (.long pp), .second, .val (.long xx), .second, .val (.long yy), .second, .val (.int nn), .val (.int mm), .val (.int flags), .val (.int (0 : Int32)), .val (.int sml), .val (.long keys), .second, .val (.long ka), .second, .val (.int (flags &&& (3 : Int32))), .val (.long kb), .second, .val (.long kc), .second, .val (.int na), .val (.int nb), .val (.ref tb), .val (.int (1 : Int32)), .val (.int (15 : Int32)), .unset] [(.int sp)])) _
      refine XS.istore X40.here hx rfl (hb hby at_310) rfl (l' := #[.val (.long pp), .second, .val (.long xx), .second, .val (.long yy), .second, .val (.int nn), .val (.int mm), .val (.int flags), .val (.int (0 : Int32)), .val (.int sml), .val (.long keys), .second, .val (.long ka), .second, .val (.int (flags &&& (3 : Int32))), .val (.long kb), .second, .val (.long kc), .second, .val (.int na), .val (.int nb), .val (.ref tb), .val (.int (1 : Int32)), .val (.int (15 : Int32)), .val (.int sp)]) rfl ?_
      show Steps p.tables e below (T40.setTop (mkF m 312 #[.val (.long pp), .second, .val (.long xx), .second, .val (.long yy), .second, .val (.int nn), .val (.int mm), .val (.int flags), .val (.int (0 : Int32)), .val (.int sml), .val (.long keys), .second, .val (.long ka), .second, .val (.int (flags &&& (3 : Int32))), .val (.long kb), .second, .val (.long kc), .second, .val (.int na), .val (.int nb), .val (.ref tb), .val (.int (1 : Int32)), .val (.int (15 : Int32)), .val (.int sp)] [])) _
      refine XS.iload X40.here hx rfl (hb hby at_312) rfl ?_
      show Steps p.tables e below (T40.setTop (mkF m 314 #[.val (.long pp), .second, .val (.long xx), .second, .val (.long yy), .second, .val (.int nn), .val (.int mm), .val (.int flags), .val (.int (0 : Int32)), .val (.int sml), .val (.long keys), .second, .val (.long ka), .second, .val (.int (flags &&& (3 : Int32))), .val (.long kb), .second, .val (.long kc), .second, .val (.int na), .val (.int nb), .val (.ref tb), .val (.int (1 : Int32)), .val (.int (15 : Int32)), .val (.int sp)] [(.int (1 : Int32))])) _
      refine XS.ifNo X40.here hx rfl (hb hby at_314) rfl ((if0 _ _).trans (feq hd58).1) ?_
      show Steps p.tables e below (T40.setTop (mkF m 317 #[.val (.long pp), .second, .val (.long xx), .second, .val (.long yy), .second, .val (.int nn), .val (.int mm), .val (.int flags), .val (.int (0 : Int32)), .val (.int sml), .val (.long keys), .second, .val (.long ka), .second, .val (.int (flags &&& (3 : Int32))), .val (.long kb), .second, .val (.long kc), .second, .val (.int na), .val (.int nb), .val (.ref tb), .val (.int (1 : Int32)), .val (.int (15 : Int32)), .val (.int sp)] [])) _
      refine XS.aload X40.here hx rfl (hb hby at_317) rfl rfl ?_
      show Steps p.tables e below (T40.setTop (mkF m 319 #[.val (.long pp), .second, .val (.long xx), .second, .val (.long yy), .second, .val (.int nn), .val (.int mm), .val (.int flags), .val (.int (0 : Int32)), .val (.int sml), .val (.long keys), .second, .val (.long ka), .second, .val (.int (flags &&& (3 : Int32))), .val (.long kb), .second, .val (.long kc), .second, .val (.int na), .val (.int nb), .val (.ref tb), .val (.int (1 : Int32)), .val (.int (15 : Int32)), .val (.int sp)] [(.ref tb)])) _
      refine st59.trans ?_
      show Steps p.tables e below (T59.setTop (mkF m 322 #[.val (.long pp), .second, .val (.long xx), .second, .val (.long yy), .second, .val (.int nn), .val (.int mm), .val (.int flags), .val (.int (0 : Int32)), .val (.int sml), .val (.long keys), .second, .val (.long ka), .second, .val (.int (flags &&& (3 : Int32))), .val (.long kb), .second, .val (.long kc), .second, .val (.int na), .val (.int nb), .val (.ref tb), .val (.int (1 : Int32)), .val (.int (15 : Int32)), .val (.int sp)] [(.int (if (updM (fun _ => false) Pa) Pb = true then (if (fun _ => false) Pa = true then (0 : Int32) else (0 : Int32) + (1 : Int32)) else (if (fun _ => false) Pa = true then (0 : Int32) else (0 : Int32) + (1 : Int32)) + (1 : Int32)))])) _
      rw [← ec2]
      show Steps p.tables e below (T59.setTop (mkF m 322 #[.val (.long pp), .second, .val (.long xx), .second, .val (.long yy), .second, .val (.int nn), .val (.int mm), .val (.int flags), .val (.int (0 : Int32)), .val (.int sml), .val (.long keys), .second, .val (.long ka), .second, .val (.int (flags &&& (3 : Int32))), .val (.long kb), .second, .val (.long kc), .second, .val (.int na), .val (.int nb), .val (.ref tb), .val (.int (1 : Int32)), .val (.int (15 : Int32)), .val (.int sp)] [(.int c2)])) _
      refine XS.iload X59.here hx rfl (hb hby at_322) rfl ?_
      show Steps p.tables e below (T59.setTop (mkF m 324 #[.val (.long pp), .second, .val (.long xx), .second, .val (.long yy), .second, .val (.int nn), .val (.int mm), .val (.int flags), .val (.int (0 : Int32)), .val (.int sml), .val (.long keys), .second, .val (.long ka), .second, .val (.int (flags &&& (3 : Int32))), .val (.long kb), .second, .val (.long kc), .second, .val (.int na), .val (.int nb), .val (.ref tb), .val (.int (1 : Int32)), .val (.int (15 : Int32)), .val (.int sp)] [(.int sp), (.int c2)])) _
      exact kt
    have k64 : ∀ tg, Steps p.tables e below (T59.setTop (mkF m 332 #[.val (.long pp), .second, .val (.long xx), .second, .val (.long yy), .second, .val (.int nn), .val (.int mm), .val (.int flags), .val (.int (0 : Int32)), .val (.int sml), .val (.long keys), .second, .val (.long ka), .second, .val (.int (flags &&& (3 : Int32))), .val (.long kb), .second, .val (.long kc), .second, .val (.int na), .val (.int nb), .val (.ref tb), .val (.int (1 : Int32)), .val (.int (15 : Int32)), .val (.int sp)] [(.int (if sp = (0 : Int32) then (2 : Int32) else (1 : Int32))), (.int c2)])) tg → Steps p.tables e below (s₁.setTop (entryFrame m #[(.long pp), (.long xx), (.long yy), (.int nn), (.int mm), (.int flags)] maxLocals)) tg := by
      intro tg kt
      refine k60 tg ?_
      show Steps p.tables e below (T59.setTop (mkF m 324 #[.val (.long pp), .second, .val (.long xx), .second, .val (.long yy), .second, .val (.int nn), .val (.int mm), .val (.int flags), .val (.int (0 : Int32)), .val (.int sml), .val (.long keys), .second, .val (.long ka), .second, .val (.int (flags &&& (3 : Int32))), .val (.long kb), .second, .val (.long kc), .second, .val (.int na), .val (.int nb), .val (.ref tb), .val (.int (1 : Int32)), .val (.int (15 : Int32)), .val (.int sp)] [(.int sp), (.int c2)])) _
      by_cases hc61 : sp = (0 : Int32)
      · refine XS.ifYes X59.here hx rfl (pc0 := 324) (pc' := 331) rfl (hb hby at_324) rfl ((if0 _ _).trans (teq hc61).1) (by decide) (by decide) ?_
        show Steps p.tables e below (T59.setTop (mkF m 331 #[.val (.long pp), .second, .val (.long xx), .second, .val (.long yy), .second, .val (.int nn), .val (.int mm), .val (.int flags), .val (.int (0 : Int32)), .val (.int sml), .val (.long keys), .second, .val (.long ka), .second, .val (.int (flags &&& (3 : Int32))), .val (.long kb), .second, .val (.long kc), .second, .val (.int na), .val (.int nb), .val (.ref tb), .val (.int (1 : Int32)), .val (.int (15 : Int32)), .val (.int sp)] [(.int c2)])) _
        refine XS.iconst X59.here hx rfl (hb hby at_331) ?_
        show Steps p.tables e below (T59.setTop (mkF m 332 #[.val (.long pp), .second, .val (.long xx), .second, .val (.long yy), .second, .val (.int nn), .val (.int mm), .val (.int flags), .val (.int (0 : Int32)), .val (.int sml), .val (.long keys), .second, .val (.long ka), .second, .val (.int (flags &&& (3 : Int32))), .val (.long kb), .second, .val (.long kc), .second, .val (.int na), .val (.int nb), .val (.ref tb), .val (.int (1 : Int32)), .val (.int (15 : Int32)), .val (.int sp)] [(.int (2 : Int32)), (.int c2)])) _
        repeat rw [if_pos hc61] at kt
        exact kt
      · refine XS.ifNo X59.here hx rfl (hb hby at_324) rfl ((if0 _ _).trans (feq hc61).1) ?_
        show Steps p.tables e below (T59.setTop (mkF m 327 #[.val (.long pp), .second, .val (.long xx), .second, .val (.long yy), .second, .val (.int nn), .val (.int mm), .val (.int flags), .val (.int (0 : Int32)), .val (.int sml), .val (.long keys), .second, .val (.long ka), .second, .val (.int (flags &&& (3 : Int32))), .val (.long kb), .second, .val (.long kc), .second, .val (.int na), .val (.int nb), .val (.ref tb), .val (.int (1 : Int32)), .val (.int (15 : Int32)), .val (.int sp)] [(.int c2)])) _
        refine XS.iconst X59.here hx rfl (hb hby at_327) ?_
        show Steps p.tables e below (T59.setTop (mkF m 328 #[.val (.long pp), .second, .val (.long xx), .second, .val (.long yy), .second, .val (.int nn), .val (.int mm), .val (.int flags), .val (.int (0 : Int32)), .val (.int sml), .val (.long keys), .second, .val (.long ka), .second, .val (.int (flags &&& (3 : Int32))), .val (.long kb), .second, .val (.long kc), .second, .val (.int na), .val (.int nb), .val (.ref tb), .val (.int (1 : Int32)), .val (.int (15 : Int32)), .val (.int sp)] [(.int (1 : Int32)), (.int c2)])) _
        refine XS.goto X59.here hx rfl (pc0 := 328) (pc' := 332) rfl (hb hby at_328) (by decide) (by decide) ?_
        show Steps p.tables e below (T59.setTop (mkF m 332 #[.val (.long pp), .second, .val (.long xx), .second, .val (.long yy), .second, .val (.int nn), .val (.int mm), .val (.int flags), .val (.int (0 : Int32)), .val (.int sml), .val (.long keys), .second, .val (.long ka), .second, .val (.int (flags &&& (3 : Int32))), .val (.long kb), .second, .val (.long kc), .second, .val (.int na), .val (.int nb), .val (.ref tb), .val (.int (1 : Int32)), .val (.int (15 : Int32)), .val (.int sp)] [(.int (1 : Int32)), (.int c2)])) _
        repeat rw [if_neg hc61] at kt
        exact kt
    obtain ⟨z65, ez65⟩ : ∃ z : Int32, z = (if sp = (0 : Int32) then (2 : Int32) else (1 : Int32)) := ⟨_, rfl⟩
    have hd66 : c2 = z65 := by
      have hs := own_same 15 KK A0 B0 Pa Pb ka kb sml sp (15 : Int32) (by decide) (by decide) hA0 hB0 lA0 lB0 hPa hPb qs0 qs1 esp
      rw [ec2, own_cnt, ez65, hs]
      by_cases d : Pb = Pa
      · rw [if_pos d, if_pos d]; decide
      · rw [if_neg d, if_neg d]; decide
    have hd67 : (0 : Int32) = (0 : Int32) := rfl
    have k68 : ∀ tg, Steps p.tables e below (T59.setTop (mkF m 398 #[.val (.long pp), .second, .val (.long xx), .second, .val (.long yy), .second, .val (.int nn), .val (.int mm), .val (.int flags), .val (.int (0 : Int32)), .val (.int sml), .val (.long keys), .second, .val (.long ka), .second, .val (.int (flags &&& (3 : Int32))), .val (.long kb), .second, .val (.long kc), .second, .val (.int na), .val (.int nb), .val (.ref tb), .val (.int (1 : Int32)), .val (.int (15 : Int32)), .val (.int sp)] [(.int (1 : Int32))])) tg → Steps p.tables e below (s₁.setTop (entryFrame m #[(.long pp), (.long xx), (.long yy), (.int nn), (.int mm), (.int flags)] maxLocals)) tg := by
      intro tg kt
      refine k64 tg ?_
      show Steps p.tables e below (T59.setTop (mkF m 332 #[.val (.long pp), .second, .val (.long xx), .second, .val (.long yy), .second, .val (.int nn), .val (.int mm), .val (.int flags), .val (.int (0 : Int32)), .val (.int sml), .val (.long keys), .second, .val (.long ka), .second, .val (.int (flags &&& (3 : Int32))), .val (.long kb), .second, .val (.long kc), .second, .val (.int na), .val (.int nb), .val (.ref tb), .val (.int (1 : Int32)), .val (.int (15 : Int32)), .val (.int sp)] [(.int (if sp = (0 : Int32) then (2 : Int32) else (1 : Int32))), (.int c2)])) _
      rw [← ez65]
      show Steps p.tables e below (T59.setTop (mkF m 332 #[.val (.long pp), .second, .val (.long xx), .second, .val (.long yy), .second, .val (.int nn), .val (.int mm), .val (.int flags), .val (.int (0 : Int32)), .val (.int sml), .val (.long keys), .second, .val (.long ka), .second, .val (.int (flags &&& (3 : Int32))), .val (.long kb), .second, .val (.long kc), .second, .val (.int na), .val (.int nb), .val (.ref tb), .val (.int (1 : Int32)), .val (.int (15 : Int32)), .val (.int sp)] [(.int z65), (.int c2)])) _
      refine XS.icmpNo X59.here hx rfl (hb hby at_332) rfl (teq hd66).2 ?_
      show Steps p.tables e below (T59.setTop (mkF m 335 #[.val (.long pp), .second, .val (.long xx), .second, .val (.long yy), .second, .val (.int nn), .val (.int mm), .val (.int flags), .val (.int (0 : Int32)), .val (.int sml), .val (.long keys), .second, .val (.long ka), .second, .val (.int (flags &&& (3 : Int32))), .val (.long kb), .second, .val (.long kc), .second, .val (.int na), .val (.int nb), .val (.ref tb), .val (.int (1 : Int32)), .val (.int (15 : Int32)), .val (.int sp)] [])) _
      refine XS.iconst X59.here hx rfl (hb hby at_335) ?_
      show Steps p.tables e below (T59.setTop (mkF m 336 #[.val (.long pp), .second, .val (.long xx), .second, .val (.long yy), .second, .val (.int nn), .val (.int mm), .val (.int flags), .val (.int (0 : Int32)), .val (.int sml), .val (.long keys), .second, .val (.long ka), .second, .val (.int (flags &&& (3 : Int32))), .val (.long kb), .second, .val (.long kc), .second, .val (.int na), .val (.int nb), .val (.ref tb), .val (.int (1 : Int32)), .val (.int (15 : Int32)), .val (.int sp)] [(.int (1 : Int32))])) _
      refine XS.goto X59.here hx rfl (pc0 := 336) (pc' := 340) rfl (hb hby at_336) (by decide) (by decide) ?_
      show Steps p.tables e below (T59.setTop (mkF m 340 #[.val (.long pp), .second, .val (.long xx), .second, .val (.long yy), .second, .val (.int nn), .val (.int mm), .val (.int flags), .val (.int (0 : Int32)), .val (.int sml), .val (.long keys), .second, .val (.long ka), .second, .val (.int (flags &&& (3 : Int32))), .val (.long kb), .second, .val (.long kc), .second, .val (.int na), .val (.int nb), .val (.ref tb), .val (.int (1 : Int32)), .val (.int (15 : Int32)), .val (.int sp)] [(.int (1 : Int32))])) _
      refine XS.istore X59.here hx rfl (hb hby at_340) rfl (l' := #[.val (.long pp), .second, .val (.long xx), .second, .val (.long yy), .second, .val (.int nn), .val (.int mm), .val (.int flags), .val (.int (0 : Int32)), .val (.int sml), .val (.long keys), .second, .val (.long ka), .second, .val (.int (flags &&& (3 : Int32))), .val (.long kb), .second, .val (.long kc), .second, .val (.int na), .val (.int nb), .val (.ref tb), .val (.int (1 : Int32)), .val (.int (15 : Int32)), .val (.int sp)]) rfl ?_
      show Steps p.tables e below (T59.setTop (mkF m 342 #[.val (.long pp), .second, .val (.long xx), .second, .val (.long yy), .second, .val (.int nn), .val (.int mm), .val (.int flags), .val (.int (0 : Int32)), .val (.int sml), .val (.long keys), .second, .val (.long ka), .second, .val (.int (flags &&& (3 : Int32))), .val (.long kb), .second, .val (.long kc), .second, .val (.int na), .val (.int nb), .val (.ref tb), .val (.int (1 : Int32)), .val (.int (15 : Int32)), .val (.int sp)] [])) _
      refine XS.iload X59.here hx rfl (hb hby at_342) rfl ?_
      show Steps p.tables e below (T59.setTop (mkF m 344 #[.val (.long pp), .second, .val (.long xx), .second, .val (.long yy), .second, .val (.int nn), .val (.int mm), .val (.int flags), .val (.int (0 : Int32)), .val (.int sml), .val (.long keys), .second, .val (.long ka), .second, .val (.int (flags &&& (3 : Int32))), .val (.long kb), .second, .val (.long kc), .second, .val (.int na), .val (.int nb), .val (.ref tb), .val (.int (1 : Int32)), .val (.int (15 : Int32)), .val (.int sp)] [(.int (0 : Int32))])) _
      refine XS.ifYes X59.here hx rfl (pc0 := 344) (pc' := 396) rfl (hb hby at_344) rfl ((if0 _ _).trans (teq hd67).1) (by decide) (by decide) ?_
      show Steps p.tables e below (T59.setTop (mkF m 396 #[.val (.long pp), .second, .val (.long xx), .second, .val (.long yy), .second, .val (.int nn), .val (.int mm), .val (.int flags), .val (.int (0 : Int32)), .val (.int sml), .val (.long keys), .second, .val (.long ka), .second, .val (.int (flags &&& (3 : Int32))), .val (.long kb), .second, .val (.long kc), .second, .val (.int na), .val (.int nb), .val (.ref tb), .val (.int (1 : Int32)), .val (.int (15 : Int32)), .val (.int sp)] [])) _
      refine XS.iload X59.here hx rfl (hb hby at_396) rfl ?_
      show Steps p.tables e below (T59.setTop (mkF m 398 #[.val (.long pp), .second, .val (.long xx), .second, .val (.long yy), .second, .val (.int nn), .val (.int mm), .val (.int flags), .val (.int (0 : Int32)), .val (.int sml), .val (.long keys), .second, .val (.long ka), .second, .val (.int (flags &&& (3 : Int32))), .val (.long kb), .second, .val (.long kc), .second, .val (.int na), .val (.int nb), .val (.ref tb), .val (.int (1 : Int32)), .val (.int (15 : Int32)), .val (.int sp)] [(.int (1 : Int32))])) _
      exact kt
    obtain ⟨fs, hr, hrun, hended, hW, hsame⟩ := X59.leave (v := some (.int (1 : Int32))) (fun h => by rw [Bd.returns] at h; cases h)
    refine ⟨_, _, k68 _ ?_, hrun, hended, _, _, rfl, ?_, ⟨_, rfl⟩, hW, hsame.mono (by decide) (by decide)⟩
    · exact retN X59 hx (t := .boolean) Bd.returns (by simp) (hb hby at_398) hr
    · show QL n0 _ T59.heap _
      exact ⟨rfl, N59⟩
  · have hS15 : (shN 10 KK) ≤ 15 := Nat.le_trans (own_sh_lt 10 KK) (by decide)
    have h2S : 2 ^ (shN 10 KK) ≤ 2 ^ 15 := Nat.pow_le_pow_right (by decide) hS15
    have hlim : KK ≤ 4096 * 2 ^ 10 := by omega
    have hnp := own_np 10 KK 4096 hlim (by decide) qk1
    have hn31 : (npN 10 KK) < 2 ^ 31 := Nat.lt_of_le_of_lt hnp.1 (by decide)
    have hcap : 2 ^ (shN 10 KK) ≤ 1024 := Nat.le_trans (Nat.pow_le_pow_right (by decide) (own_sh_lt 10 KK)) (by decide)
    obtain ⟨Pa, hPa⟩ : ∃ z, z = A0 / 2 ^ (shN 10 KK) := ⟨_, rfl⟩
    obtain ⟨Ia, hIa⟩ : ∃ z, z = A0 % 2 ^ (shN 10 KK) := ⟨_, rfl⟩
    have lPa : Pa < (npN 10 KK) := by rw [hPa]; exact own_page 10 KK A0 lA0
    have sA0 : A0 < 2 ^ 30 := by omega
    have lIa : Ia < 2 ^ 15 := Nat.lt_of_lt_of_le (by rw [hIa]; exact Nat.mod_lt _ (Nat.pow_pos (by decide))) h2S
    obtain ⟨Pb, hPb⟩ : ∃ z, z = B0 / 2 ^ (shN 10 KK) := ⟨_, rfl⟩
    obtain ⟨Ib, hIb⟩ : ∃ z, z = B0 % 2 ^ (shN 10 KK) := ⟨_, rfl⟩
    have lPb : Pb < (npN 10 KK) := by rw [hPb]; exact own_page 10 KK B0 lB0
    have sB0 : B0 < 2 ^ 30 := by omega
    have lIb : Ib < 2 ^ 15 := Nat.lt_of_lt_of_le (by rw [hIb]; exact Nat.mod_lt _ (Nat.pow_pos (by decide))) h2S
    obtain ⟨Pc, hPc⟩ : ∃ z, z = C0 / 2 ^ (shN 10 KK) := ⟨_, rfl⟩
    obtain ⟨Ic, hIc⟩ : ∃ z, z = C0 % 2 ^ (shN 10 KK) := ⟨_, rfl⟩
    have lPc : Pc < (npN 10 KK) := by rw [hPc]; exact own_page 10 KK C0 lC0
    have sC0 : C0 < 2 ^ 30 := by omega
    have lIc : Ic < 2 ^ 15 := Nat.lt_of_lt_of_le (by rw [hIc]; exact Nat.mod_lt _ (Nat.pow_pos (by decide))) h2S
    have q_kc_ka : kc = ka ↔ _ := own_keyeq _ _ C0 A0 (shN 10 KK) Pc Pa Ic Ia hC0 hA0 hPc hIc hPa hIa
    have q_kc_kb : kc = kb ↔ _ := own_keyeq _ _ C0 B0 (shN 10 KK) Pc Pb Ic Ib hC0 hB0 hPc hIc hPb hIb
    have q_ka_kb : ka = kb ↔ _ := own_keyeq _ _ A0 B0 (shN 10 KK) Pa Pb Ia Ib hA0 hB0 hPa hIa hPb hIb
    have hva : ¬ (na + (1 : Int32)) = (0 : Int32) := by rw [ena]; exact own_nbr _
    have hvb : ¬ (nb + (1 : Int32)) = (0 : Int32) := by rw [enb]; exact own_nbr _
    obtain ⟨T69, h69, X69, e69, E69, A69, D69, -, st69⟩ := newO X0 hx hZ hown (hw _ (List.mem_of_getElem? (i := 5) rfl)) (hw _ (List.mem_of_getElem? (i := 6) rfl)) (hw _ (List.mem_of_getElem? (i := 7) rfl)) e0 (g := (mkF m 162 #[.val (.long pp), .second, .val (.long xx), .second, .val (.long yy), .second, .val (.int nn), .val (.int mm), .val (.int flags), .val (.int (1 : Int32)), .val (.int sml), .val (.long keys), .second, .val (.long ka), .second, .val (.int (flags &&& (3 : Int32))), .val (.long kb), .second, .val (.long kc), .second, .val (.int na), .val (.int nb), .unset, .unset, .unset, .unset] [])) rfl (hb hby at_162) (by decide) (by decide)
    obtain ⟨tb, g69⟩ : ∃ z, z = h0.size := ⟨_, rfl⟩
    have g_tb : n0 ≤ tb := Nat.le_trans Z0 (Nat.le_of_eq g69.symm)
    have sz_tb : h0.size ≤ tb := Nat.le_trans (Keep.refl h0 []).1 (Nat.le_of_eq g69.symm)
    rw [← g69] at A69 D69 st69
    have Z69 := Nat.le_trans Z0 E69.1
    have KP69 := (Keep.refl h0 []).ext E69
    have F_numbered_tb : Fld Z h69 tb "com/example/parley/parley/core/KeyTable" "numbered" "Z" (.int (0 : Int32)) := D69 (Or.inr (hw _ (List.mem_of_getElem? (i := 15) rfl))) (ty := .boolean) (by decide)
    have F_pageShift_tb : Fld Z h69 tb "com/example/parley/parley/core/KeyTable" "pageShift" "I" (.int (0 : Int32)) := D69 (Or.inr (hw _ (List.mem_of_getElem? (i := 37) rfl))) (ty := .int) (by decide)
    have F_pageKeys_tb : Fld Z h69 tb "com/example/parley/parley/core/KeyTable" "pageKeys" "I" (.int (0 : Int32)) := D69 (Or.inr (hw _ (List.mem_of_getElem? (i := 39) rfl))) (ty := .int) (by decide)
    have F_pageWords_tb : Fld Z h69 tb "com/example/parley/parley/core/KeyTable" "pageWords" "I" (.int (0 : Int32)) := D69 (Or.inr (hw _ (List.mem_of_getElem? (i := 47) rfl))) (ty := .int) (by decide)
    have F_bits_tb : Fld Z h69 tb "com/example/parley/parley/core/KeyTable" "bits" "[[J" .null := D69 (Or.inr (hw _ (List.mem_of_getElem? (i := 54) rfl))) (ty := (.array (.array .long))) (by decide)
    have F_numbers_tb : Fld Z h69 tb "com/example/parley/parley/core/KeyTable" "numbers" "[[I" .null := D69 (Or.inr (hw _ (List.mem_of_getElem? (i := 56) rfl))) (ty := (.array (.array .int))) (by decide)
    have F_madePages_tb : Fld Z h69 tb "com/example/parley/parley/core/KeyTable" "madePages" "I" (.int (0 : Int32)) := D69 (Or.inl (hw _ (List.mem_of_getElem? (i := 65) rfl))) (ty := .int) (by decide)
    obtain ⟨_, _, ⟨T70, L70, k70, n70⟩, -, X70, ⟨Lc70, hQ70, l70, y70, z70⟩, st70⟩ := X69.specialBack hx (y := (⟨"com/example/parley/parley/core/KeyTable", "<init>", "(JZ)V"⟩ : MethodName)) rfl hown (mvT hZ (hw _ (List.mem_of_getElem? (i := 8) rfl))) (mvT hZ (hw _ (List.mem_of_getElem? (i := 9) rfl))) (mvT hZ (hw _ (List.mem_of_getElem? (i := 10) rfl))) (by decide) (backOf (W := 1) (rmCtorn l Z a0 hw [] tb keys KK h69 n0 Z69 hKK qk1 (by omega) hlim A69 F_numbered_tb F_pageShift_tb F_pageKeys_tb F_pageWords_tb F_bits_tb F_numbers_tb F_madePages_tb g_tb) hZ (hw _ (List.mem_of_getElem? (i := 10) rfl)) (hw _ (List.mem_of_getElem? (i := 7) rfl)) (by decide) (by decide)) (g := (mkF m 170 #[.val (.long pp), .second, .val (.long xx), .second, .val (.long yy), .second, .val (.int nn), .val (.int mm), .val (.int flags), .val (.int (1 : Int32)), .val (.int sml), .val (.long keys), .second, .val (.long ka), .second, .val (.int (flags &&& (3 : Int32))), .val (.long kb), .second, .val (.long kc), .second, .val (.int na), .val (.int nb), .unset, .unset, .unset, .unset] [(.int (1 : Int32)), (.long keys), (.ref tb), (.ref tb)])) rfl (by rw [hml]; rfl) (Steps.refl _) (a := tb) (argsL := [(.long keys), (.int (1 : Int32))]) (rest := [(.ref tb)]) (lenOf pd_5 rfl) rfl (by show 2 * 0 + _ ≤ _; exact Nat.le_of_eq rfl) (hb hby at_170) (fun _ _ => ⟨rfl, e69, (by decide : 1 + 1 ≤ _), (by decide : 7 + 4096 ≤ _)⟩)
    dsimp only [Pt.U, Pt.locs, Pt.cells, Pt.slots] at X70 l70 y70 z70 st70 hQ70
    subst l70 y70 z70
    obtain ⟨rfl, N70q, le70, HK70⟩ := hQ70
    have N70 := Fr.app N0 N70q
    have Z70 := Nat.le_trans Z69 le70
    obtain ⟨cq71, kq71, q71a, q71b, q71c⟩ := isOf hZ rfl HK70.1
    obtain ⟨_, _, ⟨T71, L71, k71, n71⟩, -, X71, ⟨Lc71, hQ71, l71, y71, z71⟩, st71⟩ := X70.virtualBack hx (y := (⟨"com/example/parley/parley/core/KeyTable", "mark", "(JI)V"⟩ : MethodName)) (z := (⟨"com/example/parley/parley/core/KeyTable", "mark", "(JI)V"⟩ : MethodName)) hown (mvT hZ (hw _ (List.mem_of_getElem? (i := 57) rfl))) (mvT hZ (hw _ (List.mem_of_getElem? (i := 58) rfl))) (notFace_of_selects (args := #[]) (mvT hZ (hw _ (List.mem_of_getElem? (i := 60) rfl)))) (mvT hZ (hw _ (List.mem_of_getElem? (i := 60) rfl))) (mvT hZ (hw _ (List.mem_of_getElem? (i := 59) rfl))) (by decide) (backOf (W := 0) (rmMarkn l Z a0 hw [] tb ka na (shN 10 KK) (npN 10 KK) Pa Ia A0 (fun _ => false) (fun _ _ => (Value.int (0 : Int32))) (0 : Int32) T70.heap n0 Z70 hS15 hA0 sA0 hPa hIa lPa hn31 HK70 hcap) hZ (hw _ (List.mem_of_getElem? (i := 61) rfl)) (hw _ (List.mem_of_getElem? (i := 7) rfl)) (by decide) (by decide)) q71a q71c (g := (mkF m 181 #[.val (.long pp), .second, .val (.long xx), .second, .val (.long yy), .second, .val (.int nn), .val (.int mm), .val (.int flags), .val (.int (1 : Int32)), .val (.int sml), .val (.long keys), .second, .val (.long ka), .second, .val (.int (flags &&& (3 : Int32))), .val (.long kb), .second, .val (.long kc), .second, .val (.int na), .val (.int nb), .val (.ref tb), .unset, .unset, .unset] [(.int na), (.long ka), (.ref tb)])) rfl (by rw [hml]; rfl) (Steps.refl _) (argsL := [(.long ka), (.int na)]) (rest := []) (lenOf pd_6 rfl) rfl (by show 2 * 0 + _ ≤ _; exact Nat.le_of_eq rfl) (hb hby at_181) (fun _ _ => ⟨rfl, rfl, (by decide : 2 + 1 ≤ _), (by decide : 4103 + 1024 ≤ _)⟩)
    dsimp only [Pt.U, Pt.locs, Pt.cells, Pt.slots] at X71 l71 y71 z71 st71 hQ71
    subst l71 y71 z71
    obtain ⟨rfl, N71q, le71, HK71⟩ := hQ71
    have N71 := Fr.app N70 N71q
    have Z71 := Nat.le_trans Z70 le71
    obtain ⟨cq72, kq72, q72a, q72b, q72c⟩ := isOf hZ rfl HK71.1
    obtain ⟨_, _, ⟨T72, L72, k72, n72⟩, -, X72, ⟨Lc72, hQ72, l72, y72, z72⟩, st72⟩ := X71.virtualBack hx (y := (⟨"com/example/parley/parley/core/KeyTable", "pages", "()I"⟩ : MethodName)) (z := (⟨"com/example/parley/parley/core/KeyTable", "pages", "()I"⟩ : MethodName)) hown (mvT hZ (hw _ (List.mem_of_getElem? (i := 66) rfl))) (mvT hZ (hw _ (List.mem_of_getElem? (i := 67) rfl))) (notFace_of_selects (args := #[]) (mvT hZ (hw _ (List.mem_of_getElem? (i := 69) rfl)))) (mvT hZ (hw _ (List.mem_of_getElem? (i := 69) rfl))) (mvT hZ (hw _ (List.mem_of_getElem? (i := 68) rfl))) (by decide) (backOf (W := 0) (rmPages l Z a0 hw [] tb (if (fun _ => false) Pa = true then (0 : Int32) else (0 : Int32) + (1 : Int32)) T71.heap n0 HK71.2.2.2.2.2.1) hZ (hw _ (List.mem_of_getElem? (i := 70) rfl)) (hw _ (List.mem_of_getElem? (i := 7) rfl)) (by decide) (by decide)) q72a q72c (g := (mkF m 186 #[.val (.long pp), .second, .val (.long xx), .second, .val (.long yy), .second, .val (.int nn), .val (.int mm), .val (.int flags), .val (.int (1 : Int32)), .val (.int sml), .val (.long keys), .second, .val (.long ka), .second, .val (.int (flags &&& (3 : Int32))), .val (.long kb), .second, .val (.long kc), .second, .val (.int na), .val (.int nb), .val (.ref tb), .unset, .unset, .unset] [(.ref tb)])) rfl (by rw [hml]; rfl) (Steps.refl _) (argsL := []) (rest := []) (lenOf pd_7 rfl) rfl (by show 2 * 0 + _ ≤ _; exact Nat.le_of_eq rfl) (hb hby at_186) (fun _ _ => ⟨rfl, rfl, (by decide : 3 + 0 ≤ _), (by decide : 5127 + 0 ≤ _)⟩)
    dsimp only [Pt.U, Pt.locs, Pt.cells, Pt.slots] at X72 l72 y72 z72 st72 hQ72
    subst l72 y72 z72
    obtain ⟨rfl, N72q, e72⟩ := hQ72
    have N72 := Fr.app N71 N72q
    obtain ⟨c1, ec1⟩ : ∃ z : Int32, z = (if (fun _ => false) Pa = true then (0 : Int32) else (0 : Int32) + (1 : Int32)) := ⟨_, rfl⟩
    have hd73 : c1 = (1 : Int32) := by first | rfl | (rw [ec1]; simp) | simp
    obtain ⟨cq74, kq74, q74a, q74b, q74c⟩ := isOf hZ e72 HK71.1
    obtain ⟨_, _, ⟨T74, L74, k74, n74⟩, -, X74, ⟨Lc74, hQ74, l74, y74, z74⟩, st74⟩ := X72.virtualBack hx (y := (⟨"com/example/parley/parley/core/KeyTable", "mark", "(JI)V"⟩ : MethodName)) (z := (⟨"com/example/parley/parley/core/KeyTable", "mark", "(JI)V"⟩ : MethodName)) hown (mvT hZ (hw _ (List.mem_of_getElem? (i := 57) rfl))) (mvT hZ (hw _ (List.mem_of_getElem? (i := 58) rfl))) (notFace_of_selects (args := #[]) (mvT hZ (hw _ (List.mem_of_getElem? (i := 60) rfl)))) (mvT hZ (hw _ (List.mem_of_getElem? (i := 60) rfl))) (mvT hZ (hw _ (List.mem_of_getElem? (i := 59) rfl))) (by decide) (backOf (W := 0) (rmMarkn l Z a0 hw [] tb kb nb (shN 10 KK) (npN 10 KK) Pb Ib B0 (updM (fun _ => false) Pa) (updG (fun _ _ => (Value.int (0 : Int32))) Pa Ia (Value.int (na + (1 : Int32)))) (if (fun _ => false) Pa = true then (0 : Int32) else (0 : Int32) + (1 : Int32)) T71.heap n0 Z71 hS15 hB0 sB0 hPb hIb lPb hn31 HK71 hcap) hZ (hw _ (List.mem_of_getElem? (i := 61) rfl)) (hw _ (List.mem_of_getElem? (i := 7) rfl)) (by decide) (by decide)) q74a q74c (g := (mkF m 206 #[.val (.long pp), .second, .val (.long xx), .second, .val (.long yy), .second, .val (.int nn), .val (.int mm), .val (.int flags), .val (.int (1 : Int32)), .val (.int sml), .val (.long keys), .second, .val (.long ka), .second, .val (.int (flags &&& (3 : Int32))), .val (.long kb), .second, .val (.long kc), .second, .val (.int na), .val (.int nb), .val (.ref tb), .val (.int (1 : Int32)), .unset, .unset] [(.int nb), (.long kb), (.ref tb)])) rfl (by rw [hml]; rfl) (Steps.refl _) (argsL := [(.long kb), (.int nb)]) (rest := []) (lenOf pd_6 rfl) rfl (by show 2 * 0 + _ ≤ _; exact Nat.le_of_eq rfl) (hb hby at_206) (fun _ _ => ⟨rfl, e72, (by decide : 3 + 1 ≤ _), (by decide : 5127 + 1024 ≤ _)⟩)
    dsimp only [Pt.U, Pt.locs, Pt.cells, Pt.slots] at X74 l74 y74 z74 st74 hQ74
    subst l74 y74 z74
    obtain ⟨rfl, N74q, le74, HK74⟩ := hQ74
    have N74 := Fr.app N72 N74q
    have Z74 := Nat.le_trans Z71 le74
    have hd75 : ¬ ((1 : Int32) = (0 : Int32)) := by decide
    obtain ⟨yv76, eyv76⟩ : ∃ z : Int32, z = (if Pa = Pb ∧ Ia = Ib then (nb + (1 : Int32)) else (if Pa = Pa ∧ Ia = Ia then (na + (1 : Int32)) else (0 : Int32))) := ⟨_, rfl⟩
    have hgyv76 : (updG (updG (fun _ _ => (Value.int (0 : Int32))) Pa Ia (Value.int (na + (1 : Int32)))) Pb Ib (Value.int (nb + (1 : Int32)))) Pa Ia = Value.int yv76 := Eq.trans (show (updG (updG (fun _ _ => (Value.int (0 : Int32))) Pa Ia (Value.int (na + (1 : Int32)))) Pb Ib (Value.int (nb + (1 : Int32)))) Pa Ia = Value.int (if Pa = Pb ∧ Ia = Ib then (nb + (1 : Int32)) else (if Pa = Pa ∧ Ia = Ia then (na + (1 : Int32)) else (0 : Int32))) from (own_upd_int (own_upd_int rfl))) (congrArg Value.int eyv76.symm)
    obtain ⟨cq77, kq77, q77a, q77b, q77c⟩ := isOf hZ rfl HK74.1
    obtain ⟨_, _, ⟨T77, L77, k77, n77⟩, -, X77, ⟨Lc77, hQ77, l77, y77, z77⟩, st77⟩ := X74.virtualBack hx (y := (⟨"com/example/parley/parley/core/KeyTable", "holds", "(J)Z"⟩ : MethodName)) (z := (⟨"com/example/parley/parley/core/KeyTable", "holds", "(J)Z"⟩ : MethodName)) hown (mvT hZ (hw _ (List.mem_of_getElem? (i := 71) rfl))) (mvT hZ (hw _ (List.mem_of_getElem? (i := 72) rfl))) (notFace_of_selects (args := #[]) (mvT hZ (hw _ (List.mem_of_getElem? (i := 74) rfl)))) (mvT hZ (hw _ (List.mem_of_getElem? (i := 74) rfl))) (mvT hZ (hw _ (List.mem_of_getElem? (i := 73) rfl))) (by decide) (backOf (W := 0) (rmHoldsn l Z a0 hw [] tb ka (shN 10 KK) (npN 10 KK) Pa Ia A0 (updM (updM (fun _ => false) Pa) Pb) (updG (updG (fun _ _ => (Value.int (0 : Int32))) Pa Ia (Value.int (na + (1 : Int32)))) Pb Ib (Value.int (nb + (1 : Int32)))) (if (updM (fun _ => false) Pa) Pb = true then (if (fun _ => false) Pa = true then (0 : Int32) else (0 : Int32) + (1 : Int32)) else (if (fun _ => false) Pa = true then (0 : Int32) else (0 : Int32) + (1 : Int32)) + (1 : Int32)) yv76 T74.heap n0 hS15 hA0 sA0 hPa hIa lPa hn31 HK74 hgyv76) hZ (hw _ (List.mem_of_getElem? (i := 75) rfl)) (hw _ (List.mem_of_getElem? (i := 7) rfl)) (by decide) (by decide)) q77a q77c (g := (mkF m 218 #[.val (.long pp), .second, .val (.long xx), .second, .val (.long yy), .second, .val (.int nn), .val (.int mm), .val (.int flags), .val (.int (1 : Int32)), .val (.int sml), .val (.long keys), .second, .val (.long ka), .second, .val (.int (flags &&& (3 : Int32))), .val (.long kb), .second, .val (.long kc), .second, .val (.int na), .val (.int nb), .val (.ref tb), .val (.int (1 : Int32)), .unset, .unset] [(.long ka), (.ref tb)])) rfl (by rw [hml]; rfl) (Steps.refl _) (argsL := [(.long ka)]) (rest := []) (lenOf pd_8 rfl) rfl (by show 2 * 0 + _ ≤ _; exact Nat.le_of_eq rfl) (hb hby at_218) (fun _ _ => ⟨rfl, rfl, (by decide : 4 + 0 ≤ _), (by decide : 6151 + 0 ≤ _)⟩)
    dsimp only [Pt.U, Pt.locs, Pt.cells, Pt.slots] at X77 l77 y77 z77 st77 hQ77
    subst l77 y77 z77
    obtain ⟨rfl, N77q, e77⟩ := hQ77
    have N77 := Fr.app N74 N77q
    obtain ⟨ra, era⟩ : ∃ z : Int32, z = (if yv76 = (0 : Int32) then (0 : Int32) else (1 : Int32)) := ⟨_, rfl⟩
    have hWra : yv76 = (0 : Int32) ↔ ¬ ((Pa = Pa ∧ Ia = Ia) ∨ (Pa = Pb ∧ Ia = Ib)) := by
      rw [eyv76]
      by_cases ca : (Pa = Pa ∧ Ia = Ia)
      · by_cases cb : (Pa = Pb ∧ Ia = Ib)
        · rw [if_pos cb]
          exact ⟨fun q => absurd q hvb, fun q => absurd (by first | exact ca | exact Or.inl ca | exact Or.inr ca) q⟩
        · rw [if_neg cb, if_pos ca]
          exact ⟨fun q => absurd q hva, fun q => absurd (by first | exact ca | exact Or.inl ca | exact Or.inr ca) q⟩
      · by_cases cb : (Pa = Pb ∧ Ia = Ib)
        · rw [if_pos cb]
          exact ⟨fun q => absurd q hvb, fun q => absurd (by first | exact cb | exact Or.inl cb | exact Or.inr cb) q⟩
        · rw [if_neg cb, if_neg ca]
          exact ⟨fun _ q => by first | exact q | exact ca q | (rcases q with q | q <;> first | exact ca q | exact cb q), fun _ => rfl⟩
    have hd78 : ¬ (ra = (0 : Int32)) := by rw [era, if_neg (fun q => hWra.mp q (Or.inl ⟨rfl, rfl⟩))]; decide
    obtain ⟨yv79, eyv79⟩ : ∃ z : Int32, z = (if Pb = Pb ∧ Ib = Ib then (nb + (1 : Int32)) else (if Pb = Pa ∧ Ib = Ia then (na + (1 : Int32)) else (0 : Int32))) := ⟨_, rfl⟩
    have hgyv79 : (updG (updG (fun _ _ => (Value.int (0 : Int32))) Pa Ia (Value.int (na + (1 : Int32)))) Pb Ib (Value.int (nb + (1 : Int32)))) Pb Ib = Value.int yv79 := Eq.trans (show (updG (updG (fun _ _ => (Value.int (0 : Int32))) Pa Ia (Value.int (na + (1 : Int32)))) Pb Ib (Value.int (nb + (1 : Int32)))) Pb Ib = Value.int (if Pb = Pb ∧ Ib = Ib then (nb + (1 : Int32)) else (if Pb = Pa ∧ Ib = Ia then (na + (1 : Int32)) else (0 : Int32))) from (own_upd_int (own_upd_int rfl))) (congrArg Value.int eyv79.symm)
    obtain ⟨cq80, kq80, q80a, q80b, q80c⟩ := isOf hZ e77 HK74.1
    obtain ⟨_, _, ⟨T80, L80, k80, n80⟩, -, X80, ⟨Lc80, hQ80, l80, y80, z80⟩, st80⟩ := X77.virtualBack hx (y := (⟨"com/example/parley/parley/core/KeyTable", "holds", "(J)Z"⟩ : MethodName)) (z := (⟨"com/example/parley/parley/core/KeyTable", "holds", "(J)Z"⟩ : MethodName)) hown (mvT hZ (hw _ (List.mem_of_getElem? (i := 71) rfl))) (mvT hZ (hw _ (List.mem_of_getElem? (i := 72) rfl))) (notFace_of_selects (args := #[]) (mvT hZ (hw _ (List.mem_of_getElem? (i := 74) rfl)))) (mvT hZ (hw _ (List.mem_of_getElem? (i := 74) rfl))) (mvT hZ (hw _ (List.mem_of_getElem? (i := 73) rfl))) (by decide) (backOf (W := 0) (rmHoldsn l Z a0 hw [] tb kb (shN 10 KK) (npN 10 KK) Pb Ib B0 (updM (updM (fun _ => false) Pa) Pb) (updG (updG (fun _ _ => (Value.int (0 : Int32))) Pa Ia (Value.int (na + (1 : Int32)))) Pb Ib (Value.int (nb + (1 : Int32)))) (if (updM (fun _ => false) Pa) Pb = true then (if (fun _ => false) Pa = true then (0 : Int32) else (0 : Int32) + (1 : Int32)) else (if (fun _ => false) Pa = true then (0 : Int32) else (0 : Int32) + (1 : Int32)) + (1 : Int32)) yv79 T74.heap n0 hS15 hB0 sB0 hPb hIb lPb hn31 HK74 hgyv79) hZ (hw _ (List.mem_of_getElem? (i := 75) rfl)) (hw _ (List.mem_of_getElem? (i := 7) rfl)) (by decide) (by decide)) q80a q80c (g := (mkF m 228 #[.val (.long pp), .second, .val (.long xx), .second, .val (.long yy), .second, .val (.int nn), .val (.int mm), .val (.int flags), .val (.int (1 : Int32)), .val (.int sml), .val (.long keys), .second, .val (.long ka), .second, .val (.int (flags &&& (3 : Int32))), .val (.long kb), .second, .val (.long kc), .second, .val (.int na), .val (.int nb), .val (.ref tb), .val (.int (1 : Int32)), .unset, .unset] [(.long kb), (.ref tb)])) rfl (by rw [hml]; rfl) (Steps.refl _) (argsL := [(.long kb)]) (rest := []) (lenOf pd_8 rfl) rfl (by show 2 * 0 + _ ≤ _; exact Nat.le_of_eq rfl) (hb hby at_228) (fun _ _ => ⟨rfl, e77, (by decide : 4 + 0 ≤ _), (by decide : 6151 + 0 ≤ _)⟩)
    dsimp only [Pt.U, Pt.locs, Pt.cells, Pt.slots] at X80 l80 y80 z80 st80 hQ80
    subst l80 y80 z80
    obtain ⟨rfl, N80q, e80⟩ := hQ80
    have N80 := Fr.app N77 N80q
    obtain ⟨rb, erb⟩ : ∃ z : Int32, z = (if yv79 = (0 : Int32) then (0 : Int32) else (1 : Int32)) := ⟨_, rfl⟩
    have hWrb : yv79 = (0 : Int32) ↔ ¬ ((Pb = Pa ∧ Ib = Ia) ∨ (Pb = Pb ∧ Ib = Ib)) := by
      rw [eyv79]
      by_cases ca : (Pb = Pa ∧ Ib = Ia)
      · by_cases cb : (Pb = Pb ∧ Ib = Ib)
        · rw [if_pos cb]
          exact ⟨fun q => absurd q hvb, fun q => absurd (by first | exact ca | exact Or.inl ca | exact Or.inr ca) q⟩
        · rw [if_neg cb, if_pos ca]
          exact ⟨fun q => absurd q hva, fun q => absurd (by first | exact ca | exact Or.inl ca | exact Or.inr ca) q⟩
      · by_cases cb : (Pb = Pb ∧ Ib = Ib)
        · rw [if_pos cb]
          exact ⟨fun q => absurd q hvb, fun q => absurd (by first | exact cb | exact Or.inl cb | exact Or.inr cb) q⟩
        · rw [if_neg cb, if_neg ca]
          exact ⟨fun _ q => by first | exact q | exact ca q | (rcases q with q | q <;> first | exact ca q | exact cb q), fun _ => rfl⟩
    have hd81 : ¬ (rb = (0 : Int32)) := by rw [erb, if_neg (fun q => hWrb.mp q (Or.inr ⟨rfl, rfl⟩))]; decide
    obtain ⟨yv82, eyv82⟩ : ∃ z : Int32, z = (if Pc = Pb ∧ Ic = Ib then (nb + (1 : Int32)) else (if Pc = Pa ∧ Ic = Ia then (na + (1 : Int32)) else (0 : Int32))) := ⟨_, rfl⟩
    have hgyv82 : (updG (updG (fun _ _ => (Value.int (0 : Int32))) Pa Ia (Value.int (na + (1 : Int32)))) Pb Ib (Value.int (nb + (1 : Int32)))) Pc Ic = Value.int yv82 := Eq.trans (show (updG (updG (fun _ _ => (Value.int (0 : Int32))) Pa Ia (Value.int (na + (1 : Int32)))) Pb Ib (Value.int (nb + (1 : Int32)))) Pc Ic = Value.int (if Pc = Pb ∧ Ic = Ib then (nb + (1 : Int32)) else (if Pc = Pa ∧ Ic = Ia then (na + (1 : Int32)) else (0 : Int32))) from (own_upd_int (own_upd_int rfl))) (congrArg Value.int eyv82.symm)
    obtain ⟨cq83, kq83, q83a, q83b, q83c⟩ := isOf hZ e80 HK74.1
    obtain ⟨_, _, ⟨T83, L83, k83, n83⟩, -, X83, ⟨Lc83, hQ83, l83, y83, z83⟩, st83⟩ := X80.virtualBack hx (y := (⟨"com/example/parley/parley/core/KeyTable", "holds", "(J)Z"⟩ : MethodName)) (z := (⟨"com/example/parley/parley/core/KeyTable", "holds", "(J)Z"⟩ : MethodName)) hown (mvT hZ (hw _ (List.mem_of_getElem? (i := 71) rfl))) (mvT hZ (hw _ (List.mem_of_getElem? (i := 72) rfl))) (notFace_of_selects (args := #[]) (mvT hZ (hw _ (List.mem_of_getElem? (i := 74) rfl)))) (mvT hZ (hw _ (List.mem_of_getElem? (i := 74) rfl))) (mvT hZ (hw _ (List.mem_of_getElem? (i := 73) rfl))) (by decide) (backOf (W := 0) (rmHoldsn l Z a0 hw [] tb kc (shN 10 KK) (npN 10 KK) Pc Ic C0 (updM (updM (fun _ => false) Pa) Pb) (updG (updG (fun _ _ => (Value.int (0 : Int32))) Pa Ia (Value.int (na + (1 : Int32)))) Pb Ib (Value.int (nb + (1 : Int32)))) (if (updM (fun _ => false) Pa) Pb = true then (if (fun _ => false) Pa = true then (0 : Int32) else (0 : Int32) + (1 : Int32)) else (if (fun _ => false) Pa = true then (0 : Int32) else (0 : Int32) + (1 : Int32)) + (1 : Int32)) yv82 T74.heap n0 hS15 hC0 sC0 hPc hIc lPc hn31 HK74 hgyv82) hZ (hw _ (List.mem_of_getElem? (i := 75) rfl)) (hw _ (List.mem_of_getElem? (i := 7) rfl)) (by decide) (by decide)) q83a q83c (g := (mkF m 238 #[.val (.long pp), .second, .val (.long xx), .second, .val (.long yy), .second, .val (.int nn), .val (.int mm), .val (.int flags), .val (.int (1 : Int32)), .val (.int sml), .val (.long keys), .second, .val (.long ka), .second, .val (.int (flags &&& (3 : Int32))), .val (.long kb), .second, .val (.long kc), .second, .val (.int na), .val (.int nb), .val (.ref tb), .val (.int (1 : Int32)), .unset, .unset] [(.long kc), (.ref tb)])) rfl (by rw [hml]; rfl) (Steps.refl _) (argsL := [(.long kc)]) (rest := []) (lenOf pd_8 rfl) rfl (by show 2 * 0 + _ ≤ _; exact Nat.le_of_eq rfl) (hb hby at_238) (fun _ _ => ⟨rfl, e80, (by decide : 4 + 0 ≤ _), (by decide : 6151 + 0 ≤ _)⟩)
    dsimp only [Pt.U, Pt.locs, Pt.cells, Pt.slots] at X83 l83 y83 z83 st83 hQ83
    subst l83 y83 z83
    obtain ⟨rfl, N83q, e83⟩ := hQ83
    have N83 := Fr.app N80 N83q
    obtain ⟨rc, erc⟩ : ∃ z : Int32, z = (if yv82 = (0 : Int32) then (0 : Int32) else (1 : Int32)) := ⟨_, rfl⟩
    have k84 : ∀ tg, Steps p.tables e below (T83.setTop (mkF m 246 #[.val (.long pp), .second, .val (.long xx), .second, .val (.long yy), .second, .val (.int nn), .val (.int mm), .val (.int flags), .val (.int (1 : Int32)), .val (.int sml), .val (.long keys), .second, .val (.long ka), .second, .val (.int (flags &&& (3 : Int32))), .val (.long kb), .second, .val (.long kc), .second, .val (.int na), .val (.int nb), .val (.ref tb), .val (.int (1 : Int32)), .unset, .unset] [(.int (lcmpW kc ka)), (.int rc)])) tg → Steps p.tables e below (s₁.setTop (entryFrame m #[(.long pp), (.long xx), (.long yy), (.int nn), (.int mm), (.int flags)] maxLocals)) tg := by
      intro tg kt
      refine k23 tg ?_
      show Steps p.tables e below (s₁.setTop (mkF m 162 #[.val (.long pp), .second, .val (.long xx), .second, .val (.long yy), .second, .val (.int nn), .val (.int mm), .val (.int flags), .val (.int num), .val (.int sml), .val (.long keys), .second, .val (.long ka), .second, .val (.int (flags &&& (3 : Int32))), .val (.long kb), .second, .val (.long kc), .second, .val (.int na), .val (.int nb), .unset, .unset, .unset, .unset] [])) _
      rw [is_num]
      show Steps p.tables e below (s₁.setTop (mkF m 162 #[.val (.long pp), .second, .val (.long xx), .second, .val (.long yy), .second, .val (.int nn), .val (.int mm), .val (.int flags), .val (.int (1 : Int32)), .val (.int sml), .val (.long keys), .second, .val (.long ka), .second, .val (.int (flags &&& (3 : Int32))), .val (.long kb), .second, .val (.long kc), .second, .val (.int na), .val (.int nb), .unset, .unset, .unset, .unset] [])) _
      refine st69 _ ?_
      show Steps p.tables e below (T69.setTop (mkF m 165 #[.val (.long pp), .second, .val (.long xx), .second, .val (.long yy), .second, .val (.int nn), .val (.int mm), .val (.int flags), .val (.int (1 : Int32)), .val (.int sml), .val (.long keys), .second, .val (.long ka), .second, .val (.int (flags &&& (3 : Int32))), .val (.long kb), .second, .val (.long kc), .second, .val (.int na), .val (.int nb), .unset, .unset, .unset, .unset] [(.ref tb)])) _
      refine XS.dup X69.here hx rfl (hb hby at_165) rfl rfl ?_
      show Steps p.tables e below (T69.setTop (mkF m 166 #[.val (.long pp), .second, .val (.long xx), .second, .val (.long yy), .second, .val (.int nn), .val (.int mm), .val (.int flags), .val (.int (1 : Int32)), .val (.int sml), .val (.long keys), .second, .val (.long ka), .second, .val (.int (flags &&& (3 : Int32))), .val (.long kb), .second, .val (.long kc), .second, .val (.int na), .val (.int nb), .unset, .unset, .unset, .unset] [(.ref tb), (.ref tb)])) _
      refine XS.lload X69.here hx rfl (hb hby at_166) rfl ?_
      show Steps p.tables e below (T69.setTop (mkF m 168 #[.val (.long pp), .second, .val (.long xx), .second, .val (.long yy), .second, .val (.int nn), .val (.int mm), .val (.int flags), .val (.int (1 : Int32)), .val (.int sml), .val (.long keys), .second, .val (.long ka), .second, .val (.int (flags &&& (3 : Int32))), .val (.long kb), .second, .val (.long kc), .second, .val (.int na), .val (.int nb), .unset, .unset, .unset, .unset] [(.long keys), (.ref tb), (.ref tb)])) _
      refine XS.iload X69.here hx rfl (hb hby at_168) rfl ?_
      show Steps p.tables e below (T69.setTop (mkF m 170 #[.val (.long pp), .second, .val (.long xx), .second, .val (.long yy), .second, .val (.int nn), .val (.int mm), .val (.int flags), .val (.int (1 : Int32)), .val (.int sml), .val (.long keys), .second, .val (.long ka), .second, .val (.int (flags &&& (3 : Int32))), .val (.long kb), .second, .val (.long kc), .second, .val (.int na), .val (.int nb), .unset, .unset, .unset, .unset] [(.int (1 : Int32)), (.long keys), (.ref tb), (.ref tb)])) _
      refine st70.trans ?_
      show Steps p.tables e below (T70.setTop (mkF m 173 #[.val (.long pp), .second, .val (.long xx), .second, .val (.long yy), .second, .val (.int nn), .val (.int mm), .val (.int flags), .val (.int (1 : Int32)), .val (.int sml), .val (.long keys), .second, .val (.long ka), .second, .val (.int (flags &&& (3 : Int32))), .val (.long kb), .second, .val (.long kc), .second, .val (.int na), .val (.int nb), .unset, .unset, .unset, .unset] [(.ref tb)])) _
      refine XS.astore X70.here hx rfl (hb hby at_173) rfl rfl (l' := #[.val (.long pp), .second, .val (.long xx), .second, .val (.long yy), .second, .val (.int nn), .val (.int mm), .val (.int flags), .val (.int (1 : Int32)), .val (.int sml), .val (.long keys), .second, .val (.long ka), .second, .val (.int (flags &&& (3 : Int32))), .val (.long kb), .second, .val (.long kc), .second, .val (.int na), .val (.int nb), .val (.ref tb), .unset, .unset, .unset]) rfl ?_
      show Steps p.tables e below (T70.setTop (mkF m 175 #[.val (.long pp), .second, .val (.long xx), .second, .val (.long yy), .second, .val (.int nn), .val (.int mm), .val (.int flags), .val (.int (1 : Int32)), .val (.int sml), .val (.long keys), .second, .val (.long ka), .second, .val (.int (flags &&& (3 : Int32))), .val (.long kb), .second, .val (.long kc), .second, .val (.int na), .val (.int nb), .val (.ref tb), .unset, .unset, .unset] [])) _
      refine XS.aload X70.here hx rfl (hb hby at_175) rfl rfl ?_
      show Steps p.tables e below (T70.setTop (mkF m 177 #[.val (.long pp), .second, .val (.long xx), .second, .val (.long yy), .second, .val (.int nn), .val (.int mm), .val (.int flags), .val (.int (1 : Int32)), .val (.int sml), .val (.long keys), .second, .val (.long ka), .second, .val (.int (flags &&& (3 : Int32))), .val (.long kb), .second, .val (.long kc), .second, .val (.int na), .val (.int nb), .val (.ref tb), .unset, .unset, .unset] [(.ref tb)])) _
      refine XS.lload X70.here hx rfl (hb hby at_177) rfl ?_
      show Steps p.tables e below (T70.setTop (mkF m 179 #[.val (.long pp), .second, .val (.long xx), .second, .val (.long yy), .second, .val (.int nn), .val (.int mm), .val (.int flags), .val (.int (1 : Int32)), .val (.int sml), .val (.long keys), .second, .val (.long ka), .second, .val (.int (flags &&& (3 : Int32))), .val (.long kb), .second, .val (.long kc), .second, .val (.int na), .val (.int nb), .val (.ref tb), .unset, .unset, .unset] [(.long ka), (.ref tb)])) _
      refine XS.iload X70.here hx rfl (hb hby at_179) rfl ?_
      show Steps p.tables e below (T70.setTop (mkF m 181 #[.val (.long pp), .second, .val (.long xx), .second, .val (.long yy), .second, .val (.int nn), .val (.int mm), .val (.int flags), .val (.int (1 : Int32)), .val (.int sml), .val (.long keys), .second, .val (.long ka), .second, .val (.int (flags &&& (3 : Int32))), .val (.long kb), .second, .val (.long kc), .second, .val (.int na), .val (.int nb), .val (.ref tb), .unset, .unset, .unset] [(.int na), (.long ka), (.ref tb)])) _
      refine st71.trans ?_
      show Steps p.tables e below (T71.setTop (mkF m 184 #[.val (.long pp), .second, .val (.long xx), .second, .val (.long yy), .second, .val (.int nn), .val (.int mm), .val (.int flags), .val (.int (1 : Int32)), .val (.int sml), .val (.long keys), .second, .val (.long ka), .second, .val (.int (flags &&& (3 : Int32))), .val (.long kb), .second, .val (.long kc), .second, .val (.int na), .val (.int nb), .val (.ref tb), .unset, .unset, .unset] [])) _
      refine XS.aload X71.here hx rfl (hb hby at_184) rfl rfl ?_
      show Steps p.tables e below (T71.setTop (mkF m 186 #[.val (.long pp), .second, .val (.long xx), .second, .val (.long yy), .second, .val (.int nn), .val (.int mm), .val (.int flags), .val (.int (1 : Int32)), .val (.int sml), .val (.long keys), .second, .val (.long ka), .second, .val (.int (flags &&& (3 : Int32))), .val (.long kb), .second, .val (.long kc), .second, .val (.int na), .val (.int nb), .val (.ref tb), .unset, .unset, .unset] [(.ref tb)])) _
      refine st72.trans ?_
      show Steps p.tables e below (T72.setTop (mkF m 189 #[.val (.long pp), .second, .val (.long xx), .second, .val (.long yy), .second, .val (.int nn), .val (.int mm), .val (.int flags), .val (.int (1 : Int32)), .val (.int sml), .val (.long keys), .second, .val (.long ka), .second, .val (.int (flags &&& (3 : Int32))), .val (.long kb), .second, .val (.long kc), .second, .val (.int na), .val (.int nb), .val (.ref tb), .unset, .unset, .unset] [(.int (if (fun _ => false) Pa = true then (0 : Int32) else (0 : Int32) + (1 : Int32)))])) _
      rw [← ec1]
      show Steps p.tables e below (T72.setTop (mkF m 189 #[.val (.long pp), .second, .val (.long xx), .second, .val (.long yy), .second, .val (.int nn), .val (.int mm), .val (.int flags), .val (.int (1 : Int32)), .val (.int sml), .val (.long keys), .second, .val (.long ka), .second, .val (.int (flags &&& (3 : Int32))), .val (.long kb), .second, .val (.long kc), .second, .val (.int na), .val (.int nb), .val (.ref tb), .unset, .unset, .unset] [(.int c1)])) _
      refine XS.iconst X72.here hx rfl (hb hby at_189) ?_
      show Steps p.tables e below (T72.setTop (mkF m 190 #[.val (.long pp), .second, .val (.long xx), .second, .val (.long yy), .second, .val (.int nn), .val (.int mm), .val (.int flags), .val (.int (1 : Int32)), .val (.int sml), .val (.long keys), .second, .val (.long ka), .second, .val (.int (flags &&& (3 : Int32))), .val (.long kb), .second, .val (.long kc), .second, .val (.int na), .val (.int nb), .val (.ref tb), .unset, .unset, .unset] [(.int (1 : Int32)), (.int c1)])) _
      refine XS.icmpNo X72.here hx rfl (hb hby at_190) rfl (teq hd73).2 ?_
      show Steps p.tables e below (T72.setTop (mkF m 193 #[.val (.long pp), .second, .val (.long xx), .second, .val (.long yy), .second, .val (.int nn), .val (.int mm), .val (.int flags), .val (.int (1 : Int32)), .val (.int sml), .val (.long keys), .second, .val (.long ka), .second, .val (.int (flags &&& (3 : Int32))), .val (.long kb), .second, .val (.long kc), .second, .val (.int na), .val (.int nb), .val (.ref tb), .unset, .unset, .unset] [])) _
      refine XS.iconst X72.here hx rfl (hb hby at_193) ?_
      show Steps p.tables e below (T72.setTop (mkF m 194 #[.val (.long pp), .second, .val (.long xx), .second, .val (.long yy), .second, .val (.int nn), .val (.int mm), .val (.int flags), .val (.int (1 : Int32)), .val (.int sml), .val (.long keys), .second, .val (.long ka), .second, .val (.int (flags &&& (3 : Int32))), .val (.long kb), .second, .val (.long kc), .second, .val (.int na), .val (.int nb), .val (.ref tb), .unset, .unset, .unset] [(.int (1 : Int32))])) _
      refine XS.goto X72.here hx rfl (pc0 := 194) (pc' := 198) rfl (hb hby at_194) (by decide) (by decide) ?_
      show Steps p.tables e below (T72.setTop (mkF m 198 #[.val (.long pp), .second, .val (.long xx), .second, .val (.long yy), .second, .val (.int nn), .val (.int mm), .val (.int flags), .val (.int (1 : Int32)), .val (.int sml), .val (.long keys), .second, .val (.long ka), .second, .val (.int (flags &&& (3 : Int32))), .val (.long kb), .second, .val (.long kc), .second, .val (.int na), .val (.int nb), .val (.ref tb), .unset, .unset, .unset] [(.int (1 : Int32))])) _
      refine XS.istore X72.here hx rfl (hb hby at_198) rfl (l' := #[.val (.long pp), .second, .val (.long xx), .second, .val (.long yy), .second, .val (.int nn), .val (.int mm), .val (.int flags), .val (.int (1 : Int32)), .val (.int sml), .val (.long keys), .second, .val (.long ka), .second, .val (.int (flags &&& (3 : Int32))), .val (.long kb), .second, .val (.long kc), .second, .val (.int na), .val (.int nb), .val (.ref tb), .val (.int (1 : Int32)), .unset, .unset]) rfl ?_
      show Steps p.tables e below (T72.setTop (mkF m 200 #[.val (.long pp), .second, .val (.long xx), .second, .val (.long yy), .second, .val (.int nn), .val (.int mm), .val (.int flags), .val (.int (1 : Int32)), .val (.int sml), .val (.long keys), .second, .val (.long ka), .second, .val (.int (flags &&& (3 : Int32))), .val (.long kb), .second, .val (.long kc), .second, .val (.int na), .val (.int nb), .val (.ref tb), .val (.int (1 : Int32)), .unset, .unset] [])) _
      refine XS.aload X72.here hx rfl (hb hby at_200) rfl rfl ?_
      show Steps p.tables e below (T72.setTop (mkF m 202 #[.val (.long pp), .second, .val (.long xx), .second, .val (.long yy), .second, .val (.int nn), .val (.int mm), .val (.int flags), .val (.int (1 : Int32)), .val (.int sml), .val (.long keys), .second, .val (.long ka), .second, .val (.int (flags &&& (3 : Int32))), .val (.long kb), .second, .val (.long kc), .second, .val (.int na), .val (.int nb), .val (.ref tb), .val (.int (1 : Int32)), .unset, .unset] [(.ref tb)])) _
      refine XS.lload X72.here hx rfl (hb hby at_202) rfl ?_
      show Steps p.tables e below (T72.setTop (mkF m 204 #[.val (.long pp), .second, .val (.long xx), .second, .val (.long yy), .second, .val (.int nn), .val (.int mm), .val (.int flags), .val (.int (1 : Int32)), .val (.int sml), .val (.long keys), .second, .val (.long ka), .second, .val (.int (flags &&& (3 : Int32))), .val (.long kb), .second, .val (.long kc), .second, .val (.int na), .val (.int nb), .val (.ref tb), .val (.int (1 : Int32)), .unset, .unset] [(.long kb), (.ref tb)])) _
      refine XS.iload X72.here hx rfl (hb hby at_204) rfl ?_
      show Steps p.tables e below (T72.setTop (mkF m 206 #[.val (.long pp), .second, .val (.long xx), .second, .val (.long yy), .second, .val (.int nn), .val (.int mm), .val (.int flags), .val (.int (1 : Int32)), .val (.int sml), .val (.long keys), .second, .val (.long ka), .second, .val (.int (flags &&& (3 : Int32))), .val (.long kb), .second, .val (.long kc), .second, .val (.int na), .val (.int nb), .val (.ref tb), .val (.int (1 : Int32)), .unset, .unset] [(.int nb), (.long kb), (.ref tb)])) _
      refine st74.trans ?_
      show Steps p.tables e below (T74.setTop (mkF m 209 #[.val (.long pp), .second, .val (.long xx), .second, .val (.long yy), .second, .val (.int nn), .val (.int mm), .val (.int flags), .val (.int (1 : Int32)), .val (.int sml), .val (.long keys), .second, .val (.long ka), .second, .val (.int (flags &&& (3 : Int32))), .val (.long kb), .second, .val (.long kc), .second, .val (.int na), .val (.int nb), .val (.ref tb), .val (.int (1 : Int32)), .unset, .unset] [])) _
      refine XS.iload X74.here hx rfl (hb hby at_209) rfl ?_
      show Steps p.tables e below (T74.setTop (mkF m 211 #[.val (.long pp), .second, .val (.long xx), .second, .val (.long yy), .second, .val (.int nn), .val (.int mm), .val (.int flags), .val (.int (1 : Int32)), .val (.int sml), .val (.long keys), .second, .val (.long ka), .second, .val (.int (flags &&& (3 : Int32))), .val (.long kb), .second, .val (.long kc), .second, .val (.int na), .val (.int nb), .val (.ref tb), .val (.int (1 : Int32)), .unset, .unset] [(.int (1 : Int32))])) _
      refine XS.ifNo X74.here hx rfl (hb hby at_211) rfl ((if0 _ _).trans (feq hd75).1) ?_
      show Steps p.tables e below (T74.setTop (mkF m 214 #[.val (.long pp), .second, .val (.long xx), .second, .val (.long yy), .second, .val (.int nn), .val (.int mm), .val (.int flags), .val (.int (1 : Int32)), .val (.int sml), .val (.long keys), .second, .val (.long ka), .second, .val (.int (flags &&& (3 : Int32))), .val (.long kb), .second, .val (.long kc), .second, .val (.int na), .val (.int nb), .val (.ref tb), .val (.int (1 : Int32)), .unset, .unset] [])) _
      refine XS.aload X74.here hx rfl (hb hby at_214) rfl rfl ?_
      show Steps p.tables e below (T74.setTop (mkF m 216 #[.val (.long pp), .second, .val (.long xx), .second, .val (.long yy), .second, .val (.int nn), .val (.int mm), .val (.int flags), .val (.int (1 : Int32)), .val (.int sml), .val (.long keys), .second, .val (.long ka), .second, .val (.int (flags &&& (3 : Int32))), .val (.long kb), .second, .val (.long kc), .second, .val (.int na), .val (.int nb), .val (.ref tb), .val (.int (1 : Int32)), .unset, .unset] [(.ref tb)])) _
      refine XS.lload X74.here hx rfl (hb hby at_216) rfl ?_
      show Steps p.tables e below (T74.setTop (mkF m 218 #[.val (.long pp), .second, .val (.long xx), .second, .val (.long yy), .second, .val (.int nn), .val (.int mm), .val (.int flags), .val (.int (1 : Int32)), .val (.int sml), .val (.long keys), .second, .val (.long ka), .second, .val (.int (flags &&& (3 : Int32))), .val (.long kb), .second, .val (.long kc), .second, .val (.int na), .val (.int nb), .val (.ref tb), .val (.int (1 : Int32)), .unset, .unset] [(.long ka), (.ref tb)])) _
      refine st77.trans ?_
      show Steps p.tables e below (T77.setTop (mkF m 221 #[.val (.long pp), .second, .val (.long xx), .second, .val (.long yy), .second, .val (.int nn), .val (.int mm), .val (.int flags), .val (.int (1 : Int32)), .val (.int sml), .val (.long keys), .second, .val (.long ka), .second, .val (.int (flags &&& (3 : Int32))), .val (.long kb), .second, .val (.long kc), .second, .val (.int na), .val (.int nb), .val (.ref tb), .val (.int (1 : Int32)), .unset, .unset] [(.int (if yv76 = (0 : Int32) then (0 : Int32) else (1 : Int32)))])) _
      rw [← era]
      show Steps p.tables e below (T77.setTop (mkF m 221 #[.val (.long pp), .second, .val (.long xx), .second, .val (.long yy), .second, .val (.int nn), .val (.int mm), .val (.int flags), .val (.int (1 : Int32)), .val (.int sml), .val (.long keys), .second, .val (.long ka), .second, .val (.int (flags &&& (3 : Int32))), .val (.long kb), .second, .val (.long kc), .second, .val (.int na), .val (.int nb), .val (.ref tb), .val (.int (1 : Int32)), .unset, .unset] [(.int ra)])) _
      refine XS.ifNo X77.here hx rfl (hb hby at_221) rfl ((if0 _ _).trans (feq hd78).1) ?_
      show Steps p.tables e below (T77.setTop (mkF m 224 #[.val (.long pp), .second, .val (.long xx), .second, .val (.long yy), .second, .val (.int nn), .val (.int mm), .val (.int flags), .val (.int (1 : Int32)), .val (.int sml), .val (.long keys), .second, .val (.long ka), .second, .val (.int (flags &&& (3 : Int32))), .val (.long kb), .second, .val (.long kc), .second, .val (.int na), .val (.int nb), .val (.ref tb), .val (.int (1 : Int32)), .unset, .unset] [])) _
      refine XS.aload X77.here hx rfl (hb hby at_224) rfl rfl ?_
      show Steps p.tables e below (T77.setTop (mkF m 226 #[.val (.long pp), .second, .val (.long xx), .second, .val (.long yy), .second, .val (.int nn), .val (.int mm), .val (.int flags), .val (.int (1 : Int32)), .val (.int sml), .val (.long keys), .second, .val (.long ka), .second, .val (.int (flags &&& (3 : Int32))), .val (.long kb), .second, .val (.long kc), .second, .val (.int na), .val (.int nb), .val (.ref tb), .val (.int (1 : Int32)), .unset, .unset] [(.ref tb)])) _
      refine XS.lload X77.here hx rfl (hb hby at_226) rfl ?_
      show Steps p.tables e below (T77.setTop (mkF m 228 #[.val (.long pp), .second, .val (.long xx), .second, .val (.long yy), .second, .val (.int nn), .val (.int mm), .val (.int flags), .val (.int (1 : Int32)), .val (.int sml), .val (.long keys), .second, .val (.long ka), .second, .val (.int (flags &&& (3 : Int32))), .val (.long kb), .second, .val (.long kc), .second, .val (.int na), .val (.int nb), .val (.ref tb), .val (.int (1 : Int32)), .unset, .unset] [(.long kb), (.ref tb)])) _
      refine st80.trans ?_
      show Steps p.tables e below (T80.setTop (mkF m 231 #[.val (.long pp), .second, .val (.long xx), .second, .val (.long yy), .second, .val (.int nn), .val (.int mm), .val (.int flags), .val (.int (1 : Int32)), .val (.int sml), .val (.long keys), .second, .val (.long ka), .second, .val (.int (flags &&& (3 : Int32))), .val (.long kb), .second, .val (.long kc), .second, .val (.int na), .val (.int nb), .val (.ref tb), .val (.int (1 : Int32)), .unset, .unset] [(.int (if yv79 = (0 : Int32) then (0 : Int32) else (1 : Int32)))])) _
      rw [← erb]
      show Steps p.tables e below (T80.setTop (mkF m 231 #[.val (.long pp), .second, .val (.long xx), .second, .val (.long yy), .second, .val (.int nn), .val (.int mm), .val (.int flags), .val (.int (1 : Int32)), .val (.int sml), .val (.long keys), .second, .val (.long ka), .second, .val (.int (flags &&& (3 : Int32))), .val (.long kb), .second, .val (.long kc), .second, .val (.int na), .val (.int nb), .val (.ref tb), .val (.int (1 : Int32)), .unset, .unset] [(.int rb)])) _
      refine XS.ifNo X80.here hx rfl (hb hby at_231) rfl ((if0 _ _).trans (feq hd81).1) ?_
      show Steps p.tables e below (T80.setTop (mkF m 234 #[.val (.long pp), .second, .val (.long xx), .second, .val (.long yy), .second, .val (.int nn), .val (.int mm), .val (.int flags), .val (.int (1 : Int32)), .val (.int sml), .val (.long keys), .second, .val (.long ka), .second, .val (.int (flags &&& (3 : Int32))), .val (.long kb), .second, .val (.long kc), .second, .val (.int na), .val (.int nb), .val (.ref tb), .val (.int (1 : Int32)), .unset, .unset] [])) _
      refine XS.aload X80.here hx rfl (hb hby at_234) rfl rfl ?_
      show Steps p.tables e below (T80.setTop (mkF m 236 #[.val (.long pp), .second, .val (.long xx), .second, .val (.long yy), .second, .val (.int nn), .val (.int mm), .val (.int flags), .val (.int (1 : Int32)), .val (.int sml), .val (.long keys), .second, .val (.long ka), .second, .val (.int (flags &&& (3 : Int32))), .val (.long kb), .second, .val (.long kc), .second, .val (.int na), .val (.int nb), .val (.ref tb), .val (.int (1 : Int32)), .unset, .unset] [(.ref tb)])) _
      refine XS.lload X80.here hx rfl (hb hby at_236) rfl ?_
      show Steps p.tables e below (T80.setTop (mkF m 238 #[.val (.long pp), .second, .val (.long xx), .second, .val (.long yy), .second, .val (.int nn), .val (.int mm), .val (.int flags), .val (.int (1 : Int32)), .val (.int sml), .val (.long keys), .second, .val (.long ka), .second, .val (.int (flags &&& (3 : Int32))), .val (.long kb), .second, .val (.long kc), .second, .val (.int na), .val (.int nb), .val (.ref tb), .val (.int (1 : Int32)), .unset, .unset] [(.long kc), (.ref tb)])) _
      refine st83.trans ?_
      show Steps p.tables e below (T83.setTop (mkF m 241 #[.val (.long pp), .second, .val (.long xx), .second, .val (.long yy), .second, .val (.int nn), .val (.int mm), .val (.int flags), .val (.int (1 : Int32)), .val (.int sml), .val (.long keys), .second, .val (.long ka), .second, .val (.int (flags &&& (3 : Int32))), .val (.long kb), .second, .val (.long kc), .second, .val (.int na), .val (.int nb), .val (.ref tb), .val (.int (1 : Int32)), .unset, .unset] [(.int (if yv82 = (0 : Int32) then (0 : Int32) else (1 : Int32)))])) _
      rw [← erc]
      show Steps p.tables e below (T83.setTop (mkF m 241 #[.val (.long pp), .second, .val (.long xx), .second, .val (.long yy), .second, .val (.int nn), .val (.int mm), .val (.int flags), .val (.int (1 : Int32)), .val (.int sml), .val (.long keys), .second, .val (.long ka), .second, .val (.int (flags &&& (3 : Int32))), .val (.long kb), .second, .val (.long kc), .second, .val (.int na), .val (.int nb), .val (.ref tb), .val (.int (1 : Int32)), .unset, .unset] [(.int rc)])) _
      refine XS.lload X83.here hx rfl (hb hby at_241) rfl ?_
      show Steps p.tables e below (T83.setTop (mkF m 243 #[.val (.long pp), .second, .val (.long xx), .second, .val (.long yy), .second, .val (.int nn), .val (.int mm), .val (.int flags), .val (.int (1 : Int32)), .val (.int sml), .val (.long keys), .second, .val (.long ka), .second, .val (.int (flags &&& (3 : Int32))), .val (.long kb), .second, .val (.long kc), .second, .val (.int na), .val (.int nb), .val (.ref tb), .val (.int (1 : Int32)), .unset, .unset] [(.long kc), (.int rc)])) _
      refine XS.lload X83.here hx rfl (hb hby at_243) rfl ?_
      show Steps p.tables e below (T83.setTop (mkF m 245 #[.val (.long pp), .second, .val (.long xx), .second, .val (.long yy), .second, .val (.int nn), .val (.int mm), .val (.int flags), .val (.int (1 : Int32)), .val (.int sml), .val (.long keys), .second, .val (.long ka), .second, .val (.int (flags &&& (3 : Int32))), .val (.long kb), .second, .val (.long kc), .second, .val (.int na), .val (.int nb), .val (.ref tb), .val (.int (1 : Int32)), .unset, .unset] [(.long ka), (.long kc), (.int rc)])) _
      refine XS.lcmp X83.here hx rfl (hb hby at_245) rfl ?_
      show Steps p.tables e below (T83.setTop (mkF m 246 #[.val (.long pp), .second, .val (.long xx), .second, .val (.long yy), .second, .val (.int nn), .val (.int mm), .val (.int flags), .val (.int (1 : Int32)), .val (.int sml), .val (.long keys), .second, .val (.long ka), .second, .val (.int (flags &&& (3 : Int32))), .val (.long kb), .second, .val (.long kc), .second, .val (.int na), .val (.int nb), .val (.ref tb), .val (.int (1 : Int32)), .unset, .unset] [(.int (lcmpW kc ka)), (.int rc)])) _
      exact kt
    have k90 : ∀ tg, Steps p.tables e below (T83.setTop (mkF m 262 #[.val (.long pp), .second, .val (.long xx), .second, .val (.long yy), .second, .val (.int nn), .val (.int mm), .val (.int flags), .val (.int (1 : Int32)), .val (.int sml), .val (.long keys), .second, .val (.long ka), .second, .val (.int (flags &&& (3 : Int32))), .val (.long kb), .second, .val (.long kc), .second, .val (.int na), .val (.int nb), .val (.ref tb), .val (.int (1 : Int32)), .unset, .unset] [(.int (if kc = ka then (1 : Int32) else (if kc = kb then (1 : Int32) else (0 : Int32)))), (.int rc)])) tg → Steps p.tables e below (s₁.setTop (entryFrame m #[(.long pp), (.long xx), (.long yy), (.int nn), (.int mm), (.int flags)] maxLocals)) tg := by
      intro tg kt
      refine k84 tg ?_
      show Steps p.tables e below (T83.setTop (mkF m 246 #[.val (.long pp), .second, .val (.long xx), .second, .val (.long yy), .second, .val (.int nn), .val (.int mm), .val (.int flags), .val (.int (1 : Int32)), .val (.int sml), .val (.long keys), .second, .val (.long ka), .second, .val (.int (flags &&& (3 : Int32))), .val (.long kb), .second, .val (.long kc), .second, .val (.int na), .val (.int nb), .val (.ref tb), .val (.int (1 : Int32)), .unset, .unset] [(.int (lcmpW kc ka)), (.int rc)])) _
      by_cases hc85 : kc = ka
      · refine XS.ifYes X83.here hx rfl (pc0 := 246) (pc' := 257) rfl (hb hby at_246) rfl ((if0 _ _).trans (teq ((lw_eq _ _).mpr hc85)).1) (by decide) (by decide) ?_
        show Steps p.tables e below (T83.setTop (mkF m 257 #[.val (.long pp), .second, .val (.long xx), .second, .val (.long yy), .second, .val (.int nn), .val (.int mm), .val (.int flags), .val (.int (1 : Int32)), .val (.int sml), .val (.long keys), .second, .val (.long ka), .second, .val (.int (flags &&& (3 : Int32))), .val (.long kb), .second, .val (.long kc), .second, .val (.int na), .val (.int nb), .val (.ref tb), .val (.int (1 : Int32)), .unset, .unset] [(.int rc)])) _
        refine XS.iconst X83.here hx rfl (hb hby at_257) ?_
        show Steps p.tables e below (T83.setTop (mkF m 258 #[.val (.long pp), .second, .val (.long xx), .second, .val (.long yy), .second, .val (.int nn), .val (.int mm), .val (.int flags), .val (.int (1 : Int32)), .val (.int sml), .val (.long keys), .second, .val (.long ka), .second, .val (.int (flags &&& (3 : Int32))), .val (.long kb), .second, .val (.long kc), .second, .val (.int na), .val (.int nb), .val (.ref tb), .val (.int (1 : Int32)), .unset, .unset] [(.int (1 : Int32)), (.int rc)])) _
        refine XS.goto X83.here hx rfl (pc0 := 258) (pc' := 262) rfl (hb hby at_258) (by decide) (by decide) ?_
        show Steps p.tables e below (T83.setTop (mkF m 262 #[.val (.long pp), .second, .val (.long xx), .second, .val (.long yy), .second, .val (.int nn), .val (.int mm), .val (.int flags), .val (.int (1 : Int32)), .val (.int sml), .val (.long keys), .second, .val (.long ka), .second, .val (.int (flags &&& (3 : Int32))), .val (.long kb), .second, .val (.long kc), .second, .val (.int na), .val (.int nb), .val (.ref tb), .val (.int (1 : Int32)), .unset, .unset] [(.int (1 : Int32)), (.int rc)])) _
        repeat rw [if_pos hc85] at kt
        exact kt
      · refine XS.ifNo X83.here hx rfl (hb hby at_246) rfl ((if0 _ _).trans (feq (fun q => hc85 ((lw_eq _ _).mp q))).1) ?_
        show Steps p.tables e below (T83.setTop (mkF m 249 #[.val (.long pp), .second, .val (.long xx), .second, .val (.long yy), .second, .val (.int nn), .val (.int mm), .val (.int flags), .val (.int (1 : Int32)), .val (.int sml), .val (.long keys), .second, .val (.long ka), .second, .val (.int (flags &&& (3 : Int32))), .val (.long kb), .second, .val (.long kc), .second, .val (.int na), .val (.int nb), .val (.ref tb), .val (.int (1 : Int32)), .unset, .unset] [(.int rc)])) _
        refine XS.lload X83.here hx rfl (hb hby at_249) rfl ?_
        show Steps p.tables e below (T83.setTop (mkF m 251 #[.val (.long pp), .second, .val (.long xx), .second, .val (.long yy), .second, .val (.int nn), .val (.int mm), .val (.int flags), .val (.int (1 : Int32)), .val (.int sml), .val (.long keys), .second, .val (.long ka), .second, .val (.int (flags &&& (3 : Int32))), .val (.long kb), .second, .val (.long kc), .second, .val (.int na), .val (.int nb), .val (.ref tb), .val (.int (1 : Int32)), .unset, .unset] [(.long kc), (.int rc)])) _
        refine XS.lload X83.here hx rfl (hb hby at_251) rfl ?_
        show Steps p.tables e below (T83.setTop (mkF m 253 #[.val (.long pp), .second, .val (.long xx), .second, .val (.long yy), .second, .val (.int nn), .val (.int mm), .val (.int flags), .val (.int (1 : Int32)), .val (.int sml), .val (.long keys), .second, .val (.long ka), .second, .val (.int (flags &&& (3 : Int32))), .val (.long kb), .second, .val (.long kc), .second, .val (.int na), .val (.int nb), .val (.ref tb), .val (.int (1 : Int32)), .unset, .unset] [(.long kb), (.long kc), (.int rc)])) _
        refine XS.lcmp X83.here hx rfl (hb hby at_253) rfl ?_
        show Steps p.tables e below (T83.setTop (mkF m 254 #[.val (.long pp), .second, .val (.long xx), .second, .val (.long yy), .second, .val (.int nn), .val (.int mm), .val (.int flags), .val (.int (1 : Int32)), .val (.int sml), .val (.long keys), .second, .val (.long ka), .second, .val (.int (flags &&& (3 : Int32))), .val (.long kb), .second, .val (.long kc), .second, .val (.int na), .val (.int nb), .val (.ref tb), .val (.int (1 : Int32)), .unset, .unset] [(.int (lcmpW kc kb)), (.int rc)])) _
        by_cases hc87 : kc = kb
        · refine XS.ifNo X83.here hx rfl (hb hby at_254) rfl ((if0 _ _).trans (teq ((lw_eq _ _).mpr hc87)).2) ?_
          show Steps p.tables e below (T83.setTop (mkF m 257 #[.val (.long pp), .second, .val (.long xx), .second, .val (.long yy), .second, .val (.int nn), .val (.int mm), .val (.int flags), .val (.int (1 : Int32)), .val (.int sml), .val (.long keys), .second, .val (.long ka), .second, .val (.int (flags &&& (3 : Int32))), .val (.long kb), .second, .val (.long kc), .second, .val (.int na), .val (.int nb), .val (.ref tb), .val (.int (1 : Int32)), .unset, .unset] [(.int rc)])) _
          refine XS.iconst X83.here hx rfl (hb hby at_257) ?_
          show Steps p.tables e below (T83.setTop (mkF m 258 #[.val (.long pp), .second, .val (.long xx), .second, .val (.long yy), .second, .val (.int nn), .val (.int mm), .val (.int flags), .val (.int (1 : Int32)), .val (.int sml), .val (.long keys), .second, .val (.long ka), .second, .val (.int (flags &&& (3 : Int32))), .val (.long kb), .second, .val (.long kc), .second, .val (.int na), .val (.int nb), .val (.ref tb), .val (.int (1 : Int32)), .unset, .unset] [(.int (1 : Int32)), (.int rc)])) _
          refine XS.goto X83.here hx rfl (pc0 := 258) (pc' := 262) rfl (hb hby at_258) (by decide) (by decide) ?_
          show Steps p.tables e below (T83.setTop (mkF m 262 #[.val (.long pp), .second, .val (.long xx), .second, .val (.long yy), .second, .val (.int nn), .val (.int mm), .val (.int flags), .val (.int (1 : Int32)), .val (.int sml), .val (.long keys), .second, .val (.long ka), .second, .val (.int (flags &&& (3 : Int32))), .val (.long kb), .second, .val (.long kc), .second, .val (.int na), .val (.int nb), .val (.ref tb), .val (.int (1 : Int32)), .unset, .unset] [(.int (1 : Int32)), (.int rc)])) _
          repeat rw [if_neg hc85] at kt
          repeat rw [if_pos hc87] at kt
          exact kt
        · refine XS.ifYes X83.here hx rfl (pc0 := 254) (pc' := 261) rfl (hb hby at_254) rfl ((if0 _ _).trans (feq (fun q => hc87 ((lw_eq _ _).mp q))).2) (by decide) (by decide) ?_
          show Steps p.tables e below (T83.setTop (mkF m 261 #[.val (.long pp), .second, .val (.long xx), .second, .val (.long yy), .second, .val (.int nn), .val (.int mm), .val (.int flags), .val (.int (1 : Int32)), .val (.int sml), .val (.long keys), .second, .val (.long ka), .second, .val (.int (flags &&& (3 : Int32))), .val (.long kb), .second, .val (.long kc), .second, .val (.int na), .val (.int nb), .val (.ref tb), .val (.int (1 : Int32)), .unset, .unset] [(.int rc)])) _
          refine XS.iconst X83.here hx rfl (hb hby at_261) ?_
          show Steps p.tables e below (T83.setTop (mkF m 262 #[.val (.long pp), .second, .val (.long xx), .second, .val (.long yy), .second, .val (.int nn), .val (.int mm), .val (.int flags), .val (.int (1 : Int32)), .val (.int sml), .val (.long keys), .second, .val (.long ka), .second, .val (.int (flags &&& (3 : Int32))), .val (.long kb), .second, .val (.long kc), .second, .val (.int na), .val (.int nb), .val (.ref tb), .val (.int (1 : Int32)), .unset, .unset] [(.int (0 : Int32)), (.int rc)])) _
          repeat rw [if_neg hc85] at kt
          repeat rw [if_neg hc87] at kt
          exact kt
    obtain ⟨z91, ez91⟩ : ∃ z : Int32, z = (if kc = ka then (1 : Int32) else (if kc = kb then (1 : Int32) else (0 : Int32))) := ⟨_, rfl⟩
    have hWrc : yv82 = (0 : Int32) ↔ ¬ ((Pc = Pa ∧ Ic = Ia) ∨ (Pc = Pb ∧ Ic = Ib)) := by
      rw [eyv82]
      by_cases ca : (Pc = Pa ∧ Ic = Ia)
      · by_cases cb : (Pc = Pb ∧ Ic = Ib)
        · rw [if_pos cb]
          exact ⟨fun q => absurd q hvb, fun q => absurd (by first | exact ca | exact Or.inl ca | exact Or.inr ca) q⟩
        · rw [if_neg cb, if_pos ca]
          exact ⟨fun q => absurd q hva, fun q => absurd (by first | exact ca | exact Or.inl ca | exact Or.inr ca) q⟩
      · by_cases cb : (Pc = Pb ∧ Ic = Ib)
        · rw [if_pos cb]
          exact ⟨fun q => absurd q hvb, fun q => absurd (by first | exact cb | exact Or.inl cb | exact Or.inr cb) q⟩
        · rw [if_neg cb, if_neg ca]
          exact ⟨fun _ q => by first | exact q | exact ca q | (rcases q with q | q <;> first | exact ca q | exact cb q), fun _ => rfl⟩
    have hd92 : rc = z91 := by
      rw [erc, ez91]
      by_cases da : kc = ka
      · rw [if_pos da, if_neg (fun q => hWrc.mp q (Or.inl (q_kc_ka.mp da)))]
      · rw [if_neg da]
        by_cases db : kc = kb
        · rw [if_pos db, if_neg (fun q => hWrc.mp q (Or.inr (q_kc_kb.mp db)))]
        · rw [if_neg db, if_pos (hWrc.mpr (fun q => q.elim (fun r => da (q_kc_ka.mpr r)) (fun r => db (q_kc_kb.mpr r))))]
    have hd93 : ¬ ((1 : Int32) = (0 : Int32)) := by decide
    have k94 : ∀ tg, Steps p.tables e below (T83.setTop (mkF m 288 #[.val (.long pp), .second, .val (.long xx), .second, .val (.long yy), .second, .val (.int nn), .val (.int mm), .val (.int flags), .val (.int (1 : Int32)), .val (.int sml), .val (.long keys), .second, .val (.long ka), .second, .val (.int (flags &&& (3 : Int32))), .val (.long kb), .second, .val (.long kc), .second, .val (.int na), .val (.int nb), .val (.ref tb), .val (.int (1 : Int32)), .val (.int (10 : Int32)), .unset] [(.int sml)])) tg → Steps p.tables e below (s₁.setTop (entryFrame m #[(.long pp), (.long xx), (.long yy), (.int nn), (.int mm), (.int flags)] maxLocals)) tg := by
      intro tg kt
      refine k90 tg ?_
      show Steps p.tables e below (T83.setTop (mkF m 262 #[.val (.long pp), .second, .val (.long xx), .second, .val (.long yy), .second, .val (.int nn), .val (.int mm), .val (.int flags), .val (.int (1 : Int32)), .val (.int sml), .val (.long keys), .second, .val (.long ka), .second, .val (.int (flags &&& (3 : Int32))), .val (.long kb), .second, .val (.long kc), .second, .val (.int na), .val (.int nb), .val (.ref tb), .val (.int (1 : Int32)), .unset, .unset] [(.int (if kc = ka then (1 : Int32) else (if kc = kb then (1 : Int32) else (0 : Int32)))), (.int rc)])) _
      rw [← ez91]
      show Steps p.tables e below (T83.setTop (mkF m 262 #[.val (.long pp), .second, .val (.long xx), .second, .val (.long yy), .second, .val (.int nn), .val (.int mm), .val (.int flags), .val (.int (1 : Int32)), .val (.int sml), .val (.long keys), .second, .val (.long ka), .second, .val (.int (flags &&& (3 : Int32))), .val (.long kb), .second, .val (.long kc), .second, .val (.int na), .val (.int nb), .val (.ref tb), .val (.int (1 : Int32)), .unset, .unset] [(.int z91), (.int rc)])) _
      refine XS.icmpNo X83.here hx rfl (hb hby at_262) rfl (teq hd92).2 ?_
      show Steps p.tables e below (T83.setTop (mkF m 265 #[.val (.long pp), .second, .val (.long xx), .second, .val (.long yy), .second, .val (.int nn), .val (.int mm), .val (.int flags), .val (.int (1 : Int32)), .val (.int sml), .val (.long keys), .second, .val (.long ka), .second, .val (.int (flags &&& (3 : Int32))), .val (.long kb), .second, .val (.long kc), .second, .val (.int na), .val (.int nb), .val (.ref tb), .val (.int (1 : Int32)), .unset, .unset] [])) _
      refine XS.iconst X83.here hx rfl (hb hby at_265) ?_
      show Steps p.tables e below (T83.setTop (mkF m 266 #[.val (.long pp), .second, .val (.long xx), .second, .val (.long yy), .second, .val (.int nn), .val (.int mm), .val (.int flags), .val (.int (1 : Int32)), .val (.int sml), .val (.long keys), .second, .val (.long ka), .second, .val (.int (flags &&& (3 : Int32))), .val (.long kb), .second, .val (.long kc), .second, .val (.int na), .val (.int nb), .val (.ref tb), .val (.int (1 : Int32)), .unset, .unset] [(.int (1 : Int32))])) _
      refine XS.goto X83.here hx rfl (pc0 := 266) (pc' := 270) rfl (hb hby at_266) (by decide) (by decide) ?_
      show Steps p.tables e below (T83.setTop (mkF m 270 #[.val (.long pp), .second, .val (.long xx), .second, .val (.long yy), .second, .val (.int nn), .val (.int mm), .val (.int flags), .val (.int (1 : Int32)), .val (.int sml), .val (.long keys), .second, .val (.long ka), .second, .val (.int (flags &&& (3 : Int32))), .val (.long kb), .second, .val (.long kc), .second, .val (.int na), .val (.int nb), .val (.ref tb), .val (.int (1 : Int32)), .unset, .unset] [(.int (1 : Int32))])) _
      refine XS.istore X83.here hx rfl (hb hby at_270) rfl (l' := #[.val (.long pp), .second, .val (.long xx), .second, .val (.long yy), .second, .val (.int nn), .val (.int mm), .val (.int flags), .val (.int (1 : Int32)), .val (.int sml), .val (.long keys), .second, .val (.long ka), .second, .val (.int (flags &&& (3 : Int32))), .val (.long kb), .second, .val (.long kc), .second, .val (.int na), .val (.int nb), .val (.ref tb), .val (.int (1 : Int32)), .unset, .unset]) rfl ?_
      show Steps p.tables e below (T83.setTop (mkF m 272 #[.val (.long pp), .second, .val (.long xx), .second, .val (.long yy), .second, .val (.int nn), .val (.int mm), .val (.int flags), .val (.int (1 : Int32)), .val (.int sml), .val (.long keys), .second, .val (.long ka), .second, .val (.int (flags &&& (3 : Int32))), .val (.long kb), .second, .val (.long kc), .second, .val (.int na), .val (.int nb), .val (.ref tb), .val (.int (1 : Int32)), .unset, .unset] [])) _
      refine XS.iload X83.here hx rfl (hb hby at_272) rfl ?_
      show Steps p.tables e below (T83.setTop (mkF m 274 #[.val (.long pp), .second, .val (.long xx), .second, .val (.long yy), .second, .val (.int nn), .val (.int mm), .val (.int flags), .val (.int (1 : Int32)), .val (.int sml), .val (.long keys), .second, .val (.long ka), .second, .val (.int (flags &&& (3 : Int32))), .val (.long kb), .second, .val (.long kc), .second, .val (.int na), .val (.int nb), .val (.ref tb), .val (.int (1 : Int32)), .unset, .unset] [(.int (1 : Int32))])) _
      refine XS.ifNo X83.here hx rfl (hb hby at_274) rfl ((if0 _ _).trans (feq hd93).1) ?_
      show Steps p.tables e below (T83.setTop (mkF m 277 #[.val (.long pp), .second, .val (.long xx), .second, .val (.long yy), .second, .val (.int nn), .val (.int mm), .val (.int flags), .val (.int (1 : Int32)), .val (.int sml), .val (.long keys), .second, .val (.long ka), .second, .val (.int (flags &&& (3 : Int32))), .val (.long kb), .second, .val (.long kc), .second, .val (.int na), .val (.int nb), .val (.ref tb), .val (.int (1 : Int32)), .unset, .unset] [])) _
      refine XS.bipush X83.here hx rfl (hb hby at_277) ?_
      show Steps p.tables e below (T83.setTop (mkF m 279 #[.val (.long pp), .second, .val (.long xx), .second, .val (.long yy), .second, .val (.int nn), .val (.int mm), .val (.int flags), .val (.int (1 : Int32)), .val (.int sml), .val (.long keys), .second, .val (.long ka), .second, .val (.int (flags &&& (3 : Int32))), .val (.long kb), .second, .val (.long kc), .second, .val (.int na), .val (.int nb), .val (.ref tb), .val (.int (1 : Int32)), .unset, .unset] [(.int (10 : Int32))])) _
      refine XS.goto X83.here hx rfl (pc0 := 279) (pc' := 284) rfl (hb hby at_279) (by decide) (by decide) ?_
      show Steps p.tables e below (T83.setTop (mkF m 284 #[.val (.long pp), .second, .val (.long xx), .second, .val (.long yy), .second, .val (.int nn), .val (.int mm), .val (.int flags), .val (.int (1 : Int32)), .val (.int sml), .val (.long keys), .second, .val (.long ka), .second, .val (.int (flags &&& (3 : Int32))), .val (.long kb), .second, .val (.long kc), .second, .val (.int na), .val (.int nb), .val (.ref tb), .val (.int (1 : Int32)), .unset, .unset] [(.int (10 : Int32))])) _
      refine XS.istore X83.here hx rfl (hb hby at_284) rfl (l' := #[.val (.long pp), .second, .val (.long xx), .second, .val (.long yy), .second, .val (.int nn), .val (.int mm), .val (.int flags), .val (.int (1 : Int32)), .val (.int sml), .val (.long keys), .second, .val (.long ka), .second, .val (.int (flags &&& (3 : Int32))), .val (.long kb), .second, .val (.long kc), .second, .val (.int na), .val (.int nb), .val (.ref tb), .val (.int (1 : Int32)), .val (.int (10 : Int32)), .unset]) rfl ?_
      show Steps p.tables e below (T83.setTop (mkF m 286 #[.val (.long pp), .second, .val (.long xx), .second, .val (.long yy), .second, .val (.int nn), .val (.int mm), .val (.int flags), .val (.int (1 : Int32)), .val (.int sml), .val (.long keys), .second, .val (.long ka), .second, .val (.int (flags &&& (3 : Int32))), .val (.long kb), .second, .val (.long kc), .second, .val (.int na), .val (.int nb), .val (.ref tb), .val (.int (1 : Int32)), .val (.int (10 : Int32)), .unset] [])) _
      refine XS.iload X83.here hx rfl (hb hby at_286) rfl ?_
      show Steps p.tables e below (T83.setTop (mkF m 288 #[.val (.long pp), .second, .val (.long xx), .second, .val (.long yy), .second, .val (.int nn), .val (.int mm), .val (.int flags), .val (.int (1 : Int32)), .val (.int sml), .val (.long keys), .second, .val (.long ka), .second, .val (.int (flags &&& (3 : Int32))), .val (.long kb), .second, .val (.long kc), .second, .val (.int na), .val (.int nb), .val (.ref tb), .val (.int (1 : Int32)), .val (.int (10 : Int32)), .unset] [(.int sml)])) _
      exact kt
    have k100 : ∀ tg, Steps p.tables e below (T83.setTop (mkF m 310 #[.val (.long pp), .second, .val (.long xx), .second, .val (.long yy), .second, .val (.int nn), .val (.int mm), .val (.int flags), .val (.int (1 : Int32)), .val (.int sml), .val (.long keys), .second, .val (.long ka), .second, .val (.int (flags &&& (3 : Int32))), .val (.long kb), .second, .val (.long kc), .second, .val (.int na), .val (.int nb), .val (.ref tb), .val (.int (1 : Int32)), .val (.int (10 : Int32)), .unset] [(.int (if sml = (0 : Int32) then (if ((ka.toUInt64 >>> ((10 : Int32) &&& 0x3f).toInt64.toUInt64).toInt64) = ((kb.toUInt64 >>> ((10 : Int32) &&& 0x3f).toInt64.toUInt64).toInt64) then (1 : Int32) else (0 : Int32)) else (1 : Int32)))])) tg → Steps p.tables e below (s₁.setTop (entryFrame m #[(.long pp), (.long xx), (.long yy), (.int nn), (.int mm), (.int flags)] maxLocals)) tg := by
      intro tg kt
      refine k94 tg ?_
      show Steps p.tables e below (T83.setTop (mkF m 288 #[.val (.long pp), .second, .val (.long xx), .second, .val (.long yy), .second, .val (.int nn), .val (.int mm), .val (.int flags), .val (.int (1 : Int32)), .val (.int sml), .val (.long keys), .second, .val (.long ka), .second, .val (.int (flags &&& (3 : Int32))), .val (.long kb), .second, .val (.long kc), .second, .val (.int na), .val (.int nb), .val (.ref tb), .val (.int (1 : Int32)), .val (.int (10 : Int32)), .unset] [(.int sml)])) _
      by_cases hc95 : sml = (0 : Int32)
      · refine XS.ifNo X83.here hx rfl (hb hby at_288) rfl ((if0 _ _).trans (teq hc95).2) ?_
        show Steps p.tables e below (T83.setTop (mkF m 291 #[.val (.long pp), .second, .val (.long xx), .second, .val (.long yy), .second, .val (.int nn), .val (.int mm), .val (.int flags), .val (.int (1 : Int32)), .val (.int sml), .val (.long keys), .second, .val (.long ka), .second, .val (.int (flags &&& (3 : Int32))), .val (.long kb), .second, .val (.long kc), .second, .val (.int na), .val (.int nb), .val (.ref tb), .val (.int (1 : Int32)), .val (.int (10 : Int32)), .unset] [])) _
        refine XS.lload X83.here hx rfl (hb hby at_291) rfl ?_
        show Steps p.tables e below (T83.setTop (mkF m 293 #[.val (.long pp), .second, .val (.long xx), .second, .val (.long yy), .second, .val (.int nn), .val (.int mm), .val (.int flags), .val (.int (1 : Int32)), .val (.int sml), .val (.long keys), .second, .val (.long ka), .second, .val (.int (flags &&& (3 : Int32))), .val (.long kb), .second, .val (.long kc), .second, .val (.int na), .val (.int nb), .val (.ref tb), .val (.int (1 : Int32)), .val (.int (10 : Int32)), .unset] [(.long ka)])) _
        refine XS.iload X83.here hx rfl (hb hby at_293) rfl ?_
        show Steps p.tables e below (T83.setTop (mkF m 295 #[.val (.long pp), .second, .val (.long xx), .second, .val (.long yy), .second, .val (.int nn), .val (.int mm), .val (.int flags), .val (.int (1 : Int32)), .val (.int sml), .val (.long keys), .second, .val (.long ka), .second, .val (.int (flags &&& (3 : Int32))), .val (.long kb), .second, .val (.long kc), .second, .val (.int na), .val (.int nb), .val (.ref tb), .val (.int (1 : Int32)), .val (.int (10 : Int32)), .unset] [(.int (10 : Int32)), (.long ka)])) _
        refine XS.lushr X83.here hx rfl (hb hby at_295) rfl ?_
        show Steps p.tables e below (T83.setTop (mkF m 296 #[.val (.long pp), .second, .val (.long xx), .second, .val (.long yy), .second, .val (.int nn), .val (.int mm), .val (.int flags), .val (.int (1 : Int32)), .val (.int sml), .val (.long keys), .second, .val (.long ka), .second, .val (.int (flags &&& (3 : Int32))), .val (.long kb), .second, .val (.long kc), .second, .val (.int na), .val (.int nb), .val (.ref tb), .val (.int (1 : Int32)), .val (.int (10 : Int32)), .unset] [(.long ((ka.toUInt64 >>> ((10 : Int32) &&& 0x3f).toInt64.toUInt64).toInt64))])) _
        refine XS.lload X83.here hx rfl (hb hby at_296) rfl ?_
        show Steps p.tables e below (T83.setTop (mkF m 298 #[.val (.long pp), .second, .val (.long xx), .second, .val (.long yy), .second, .val (.int nn), .val (.int mm), .val (.int flags), .val (.int (1 : Int32)), .val (.int sml), .val (.long keys), .second, .val (.long ka), .second, .val (.int (flags &&& (3 : Int32))), .val (.long kb), .second, .val (.long kc), .second, .val (.int na), .val (.int nb), .val (.ref tb), .val (.int (1 : Int32)), .val (.int (10 : Int32)), .unset] [(.long kb), (.long ((ka.toUInt64 >>> ((10 : Int32) &&& 0x3f).toInt64.toUInt64).toInt64))])) _
        refine XS.iload X83.here hx rfl (hb hby at_298) rfl ?_
        show Steps p.tables e below (T83.setTop (mkF m 300 #[.val (.long pp), .second, .val (.long xx), .second, .val (.long yy), .second, .val (.int nn), .val (.int mm), .val (.int flags), .val (.int (1 : Int32)), .val (.int sml), .val (.long keys), .second, .val (.long ka), .second, .val (.int (flags &&& (3 : Int32))), .val (.long kb), .second, .val (.long kc), .second, .val (.int na), .val (.int nb), .val (.ref tb), .val (.int (1 : Int32)), .val (.int (10 : Int32)), .unset] [(.int (10 : Int32)), (.long kb), (.long ((ka.toUInt64 >>> ((10 : Int32) &&& 0x3f).toInt64.toUInt64).toInt64))])) _
        refine XS.lushr X83.here hx rfl (hb hby at_300) rfl ?_
        show Steps p.tables e below (T83.setTop (mkF m 301 #[.val (.long pp), .second, .val (.long xx), .second, .val (.long yy), .second, .val (.int nn), .val (.int mm), .val (.int flags), .val (.int (1 : Int32)), .val (.int sml), .val (.long keys), .second, .val (.long ka), .second, .val (.int (flags &&& (3 : Int32))), .val (.long kb), .second, .val (.long kc), .second, .val (.int na), .val (.int nb), .val (.ref tb), .val (.int (1 : Int32)), .val (.int (10 : Int32)), .unset] [(.long ((kb.toUInt64 >>> ((10 : Int32) &&& 0x3f).toInt64.toUInt64).toInt64)), (.long ((ka.toUInt64 >>> ((10 : Int32) &&& 0x3f).toInt64.toUInt64).toInt64))])) _
        refine XS.lcmp X83.here hx rfl (hb hby at_301) rfl ?_
        show Steps p.tables e below (T83.setTop (mkF m 302 #[.val (.long pp), .second, .val (.long xx), .second, .val (.long yy), .second, .val (.int nn), .val (.int mm), .val (.int flags), .val (.int (1 : Int32)), .val (.int sml), .val (.long keys), .second, .val (.long ka), .second, .val (.int (flags &&& (3 : Int32))), .val (.long kb), .second, .val (.long kc), .second, .val (.int na), .val (.int nb), .val (.ref tb), .val (.int (1 : Int32)), .val (.int (10 : Int32)), .unset] [(.int (lcmpW ((ka.toUInt64 >>> ((10 : Int32) &&& 0x3f).toInt64.toUInt64).toInt64) ((kb.toUInt64 >>> ((10 : Int32) &&& 0x3f).toInt64.toUInt64).toInt64)))])) _
        by_cases hc96 : ((ka.toUInt64 >>> ((10 : Int32) &&& 0x3f).toInt64.toUInt64).toInt64) = ((kb.toUInt64 >>> ((10 : Int32) &&& 0x3f).toInt64.toUInt64).toInt64)
        · refine XS.ifNo X83.here hx rfl (hb hby at_302) rfl ((if0 _ _).trans (teq ((lw_eq _ _).mpr hc96)).2) ?_
          show Steps p.tables e below (T83.setTop (mkF m 305 #[.val (.long pp), .second, .val (.long xx), .second, .val (.long yy), .second, .val (.int nn), .val (.int mm), .val (.int flags), .val (.int (1 : Int32)), .val (.int sml), .val (.long keys), .second, .val (.long ka), .second, .val (.int (flags &&& (3 : Int32))), .val (.long kb), .second, .val (.long kc), .second, .val (.int na), .val (.int nb), .val (.ref tb), .val (.int (1 : Int32)), .val (.int (10 : Int32)), .unset] [])) _
          refine XS.iconst X83.here hx rfl (hb hby at_305) ?_
          show Steps p.tables e below (T83.setTop (mkF m 306 #[.val (.long pp), .second, .val (.long xx), .second, .val (.long yy), .second, .val (.int nn), .val (.int mm), .val (.int flags), .val (.int (1 : Int32)), .val (.int sml), .val (.long keys), .second, .val (.long ka), .second, .val (.int (flags &&& (3 : Int32))), .val (.long kb), .second, .val (.long kc), .second, .val (.int na), .val (.int nb), .val (.ref tb), .val (.int (1 : Int32)), .val (.int (10 : Int32)), .unset] [(.int (1 : Int32))])) _
          refine XS.goto X83.here hx rfl (pc0 := 306) (pc' := 310) rfl (hb hby at_306) (by decide) (by decide) ?_
          show Steps p.tables e below (T83.setTop (mkF m 310 #[.val (.long pp), .second, .val (.long xx), .second, .val (.long yy), .second, .val (.int nn), .val (.int mm), .val (.int flags), .val (.int (1 : Int32)), .val (.int sml), .val (.long keys), .second, .val (.long ka), .second, .val (.int (flags &&& (3 : Int32))), .val (.long kb), .second, .val (.long kc), .second, .val (.int na), .val (.int nb), .val (.ref tb), .val (.int (1 : Int32)), .val (.int (10 : Int32)), .unset] [(.int (1 : Int32))])) _
          repeat rw [if_pos hc95] at kt
          repeat rw [if_pos hc96] at kt
          exact kt
        · refine XS.ifYes X83.here hx rfl (pc0 := 302) (pc' := 309) rfl (hb hby at_302) rfl ((if0 _ _).trans (feq (fun q => hc96 ((lw_eq _ _).mp q))).2) (by decide) (by decide) ?_
          show Steps p.tables e below (T83.setTop (mkF m 309 #[.val (.long pp), .second, .val (.long xx), .second, .val (.long yy), .second, .val (.int nn), .val (.int mm), .val (.int flags), .val (.int (1 : Int32)), .val (.int sml), .val (.long keys), .second, .val (.long ka), .second, .val (.int (flags &&& (3 : Int32))), .val (.long kb), .second, .val (.long kc), .second, .val (.int na), .val (.int nb), .val (.ref tb), .val (.int (1 : Int32)), .val (.int (10 : Int32)), .unset] [])) _
          refine XS.iconst X83.here hx rfl (hb hby at_309) ?_
          show Steps p.tables e below (T83.setTop (mkF m 310 #[.val (.long pp), .second, .val (.long xx), .second, .val (.long yy), .second, .val (.int nn), .val (.int mm), .val (.int flags), .val (.int (1 : Int32)), .val (.int sml), .val (.long keys), .second, .val (.long ka), .second, .val (.int (flags &&& (3 : Int32))), .val (.long kb), .second, .val (.long kc), .second, .val (.int na), .val (.int nb), .val (.ref tb), .val (.int (1 : Int32)), .val (.int (10 : Int32)), .unset] [(.int (0 : Int32))])) _
          repeat rw [if_pos hc95] at kt
          repeat rw [if_neg hc96] at kt
          exact kt
      · refine XS.ifYes X83.here hx rfl (pc0 := 288) (pc' := 305) rfl (hb hby at_288) rfl ((if0 _ _).trans (feq hc95).2) (by decide) (by decide) ?_
        show Steps p.tables e below (T83.setTop (mkF m 305 #[.val (.long pp), .second, .val (.long xx), .second, .val (.long yy), .second, .val (.int nn), .val (.int mm), .val (.int flags), .val (.int (1 : Int32)), .val (.int sml), .val (.long keys), .second, .val (.long ka), .second, .val (.int (flags &&& (3 : Int32))), .val (.long kb), .second, .val (.long kc), .second, .val (.int na), .val (.int nb), .val (.ref tb), .val (.int (1 : Int32)), .val (.int (10 : Int32)), .unset] [])) _
        refine XS.iconst X83.here hx rfl (hb hby at_305) ?_
        show Steps p.tables e below (T83.setTop (mkF m 306 #[.val (.long pp), .second, .val (.long xx), .second, .val (.long yy), .second, .val (.int nn), .val (.int mm), .val (.int flags), .val (.int (1 : Int32)), .val (.int sml), .val (.long keys), .second, .val (.long ka), .second, .val (.int (flags &&& (3 : Int32))), .val (.long kb), .second, .val (.long kc), .second, .val (.int na), .val (.int nb), .val (.ref tb), .val (.int (1 : Int32)), .val (.int (10 : Int32)), .unset] [(.int (1 : Int32))])) _
        refine XS.goto X83.here hx rfl (pc0 := 306) (pc' := 310) rfl (hb hby at_306) (by decide) (by decide) ?_
        show Steps p.tables e below (T83.setTop (mkF m 310 #[.val (.long pp), .second, .val (.long xx), .second, .val (.long yy), .second, .val (.int nn), .val (.int mm), .val (.int flags), .val (.int (1 : Int32)), .val (.int sml), .val (.long keys), .second, .val (.long ka), .second, .val (.int (flags &&& (3 : Int32))), .val (.long kb), .second, .val (.long kc), .second, .val (.int na), .val (.int nb), .val (.ref tb), .val (.int (1 : Int32)), .val (.int (10 : Int32)), .unset] [(.int (1 : Int32))])) _
        repeat rw [if_neg hc95] at kt
        exact kt
    obtain ⟨sp, esp⟩ : ∃ z : Int32, z = (if sml = (0 : Int32) then (if ((ka.toUInt64 >>> ((10 : Int32) &&& 0x3f).toInt64.toUInt64).toInt64) = ((kb.toUInt64 >>> ((10 : Int32) &&& 0x3f).toInt64.toUInt64).toInt64) then (1 : Int32) else (0 : Int32)) else (1 : Int32)) := ⟨_, rfl⟩
    have hd101 : ¬ ((1 : Int32) = (0 : Int32)) := by decide
    obtain ⟨cq102, kq102, q102a, q102b, q102c⟩ := isOf hZ e83 HK74.1
    obtain ⟨_, _, ⟨T102, L102, k102, n102⟩, -, X102, ⟨Lc102, hQ102, l102, y102, z102⟩, st102⟩ := X83.virtualBack hx (y := (⟨"com/example/parley/parley/core/KeyTable", "pages", "()I"⟩ : MethodName)) (z := (⟨"com/example/parley/parley/core/KeyTable", "pages", "()I"⟩ : MethodName)) hown (mvT hZ (hw _ (List.mem_of_getElem? (i := 66) rfl))) (mvT hZ (hw _ (List.mem_of_getElem? (i := 67) rfl))) (notFace_of_selects (args := #[]) (mvT hZ (hw _ (List.mem_of_getElem? (i := 69) rfl)))) (mvT hZ (hw _ (List.mem_of_getElem? (i := 69) rfl))) (mvT hZ (hw _ (List.mem_of_getElem? (i := 68) rfl))) (by decide) (backOf (W := 0) (rmPages l Z a0 hw [] tb (if (updM (fun _ => false) Pa) Pb = true then (if (fun _ => false) Pa = true then (0 : Int32) else (0 : Int32) + (1 : Int32)) else (if (fun _ => false) Pa = true then (0 : Int32) else (0 : Int32) + (1 : Int32)) + (1 : Int32)) T74.heap n0 HK74.2.2.2.2.2.1) hZ (hw _ (List.mem_of_getElem? (i := 70) rfl)) (hw _ (List.mem_of_getElem? (i := 7) rfl)) (by decide) (by decide)) q102a q102c (g := (mkF m 319 #[.val (.long pp), .second, .val (.long xx), .second, .val (.long yy), .second, .val (.int nn), .val (.int mm), .val (.int flags), .val (.int (1 : Int32)), .val (.int sml), .val (.long keys), .second, .val (.long ka), .second, .val (.int (flags &&& (3 : Int32))), .val (.long kb), .second, .val (.long kc), .second, .val (.int na), .val (.int nb), .val (.ref tb), .val (.int (1 : Int32)), .val (.int (10 : Int32)), .val (.int sp)] [(.ref tb)])) rfl (by rw [hml]; rfl) (Steps.refl _) (argsL := []) (rest := []) (lenOf pd_7 rfl) rfl (by show 2 * 0 + _ ≤ _; exact Nat.le_of_eq rfl) (hb hby at_319) (fun _ _ => ⟨rfl, e83, (by decide : 4 + 0 ≤ _), (by decide : 6151 + 0 ≤ _)⟩)
    dsimp only [Pt.U, Pt.locs, Pt.cells, Pt.slots] at X102 l102 y102 z102 st102 hQ102
    subst l102 y102 z102
    obtain ⟨rfl, N102q, e102⟩ := hQ102
    have N102 := Fr.app N83 N102q
    obtain ⟨c2, ec2⟩ : ∃ z : Int32, z = (if (updM (fun _ => false) Pa) Pb = true then (if (fun _ => false) Pa = true then (0 : Int32) else (0 : Int32) + (1 : Int32)) else (if (fun _ => false) Pa = true then (0 : Int32) else (0 : Int32) + (1 : Int32)) + (1 : Int32)) := ⟨_, rfl⟩
    have k103 : ∀ tg, Steps p.tables e below (T102.setTop (mkF m 324 #[.val (.long pp), .second, .val (.long xx), .second, .val (.long yy), .second, .val (.int nn), .val (.int mm), .val (.int flags), .val (.int (1 : Int32)), .val (.int sml), .val (.long keys), .second, .val (.long ka), .second, .val (.int (flags &&& (3 : Int32))), .val (.long kb), .second, .val (.long kc), .second, .val (.int na), .val (.int nb), .val (.ref tb), .val (.int (1 : Int32)), .val (.int (10 : Int32)), .val (.int sp)] [(.int sp), (.int c2)])) tg → Steps p.tables e below (s₁.setTop (entryFrame m #[(.long pp), (.long xx), (.long yy), (.int nn), (.int mm), (.int flags)] maxLocals)) tg := by
      intro tg kt
      refine k100 tg ?_
      show Steps p.tables e below (T83.setTop (mkF m 310 #[.val (.long pp), .second, .val (.long xx), .second, .val (.long yy), .second, .val (.int nn), .val (.int mm), .val (.int flags), .val (.int (1 : Int32)), .val (.int sml), .val (.long keys), .second, .val (.long ka), .second, .val (.int (flags &&& (3 : Int32))), .val (.long kb), .second, .val (.long kc), .second, .val (.int na), .val (.int nb), .val (.ref tb), .val (.int (1 : Int32)), .val (.int (10 : Int32)), .unset] [(.int (if sml = (0 : Int32) then (if ((ka.toUInt64 >>> ((10 : Int32) &&& 0x3f).toInt64.toUInt64).toInt64) = ((kb.toUInt64 >>> ((10 : Int32) &&& 0x3f).toInt64.toUInt64).toInt64) then (1 : Int32) else (0 : Int32)) else (1 : Int32)))])) _
      rw [← esp]
      show Steps p.tables e below (T83.setTop (mkF m 310 #[.val (.long pp), .second, .val (.long xx), .second, .val (.long yy), .second, .val (.int nn), .val (.int mm), .val (.int flags), .val (.int (1 : Int32)), .val (.int sml), .val (.long keys), .second, .val (.long ka), .second, .val (.int (flags &&& (3 : Int32))), .val (.long kb), .second, .val (.long kc), .second, .val (.int na), .val (.int nb), .val (.ref tb), .val (.int (1 : Int32)), .val (.int (10 : Int32)), .unset] [(.int sp)])) _
      refine XS.istore X83.here hx rfl (hb hby at_310) rfl (l' := #[.val (.long pp), .second, .val (.long xx), .second, .val (.long yy), .second, .val (.int nn), .val (.int mm), .val (.int flags), .val (.int (1 : Int32)), .val (.int sml), .val (.long keys), .second, .val (.long ka), .second, .val (.int (flags &&& (3 : Int32))), .val (.long kb), .second, .val (.long kc), .second, .val (.int na), .val (.int nb), .val (.ref tb), .val (.int (1 : Int32)), .val (.int (10 : Int32)), .val (.int sp)]) rfl ?_
      show Steps p.tables e below (T83.setTop (mkF m 312 #[.val (.long pp), .second, .val (.long xx), .second, .val (.long yy), .second, .val (.int nn), .val (.int mm), .val (.int flags), .val (.int (1 : Int32)), .val (.int sml), .val (.long keys), .second, .val (.long ka), .second, .val (.int (flags &&& (3 : Int32))), .val (.long kb), .second, .val (.long kc), .second, .val (.int na), .val (.int nb), .val (.ref tb), .val (.int (1 : Int32)), .val (.int (10 : Int32)), .val (.int sp)] [])) _
      refine XS.iload X83.here hx rfl (hb hby at_312) rfl ?_
      show Steps p.tables e below (T83.setTop (mkF m 314 #[.val (.long pp), .second, .val (.long xx), .second, .val (.long yy), .second, .val (.int nn), .val (.int mm), .val (.int flags), .val (.int (1 : Int32)), .val (.int sml), .val (.long keys), .second, .val (.long ka), .second, .val (.int (flags &&& (3 : Int32))), .val (.long kb), .second, .val (.long kc), .second, .val (.int na), .val (.int nb), .val (.ref tb), .val (.int (1 : Int32)), .val (.int (10 : Int32)), .val (.int sp)] [(.int (1 : Int32))])) _
      refine XS.ifNo X83.here hx rfl (hb hby at_314) rfl ((if0 _ _).trans (feq hd101).1) ?_
      show Steps p.tables e below (T83.setTop (mkF m 317 #[.val (.long pp), .second, .val (.long xx), .second, .val (.long yy), .second, .val (.int nn), .val (.int mm), .val (.int flags), .val (.int (1 : Int32)), .val (.int sml), .val (.long keys), .second, .val (.long ka), .second, .val (.int (flags &&& (3 : Int32))), .val (.long kb), .second, .val (.long kc), .second, .val (.int na), .val (.int nb), .val (.ref tb), .val (.int (1 : Int32)), .val (.int (10 : Int32)), .val (.int sp)] [])) _
      refine XS.aload X83.here hx rfl (hb hby at_317) rfl rfl ?_
      show Steps p.tables e below (T83.setTop (mkF m 319 #[.val (.long pp), .second, .val (.long xx), .second, .val (.long yy), .second, .val (.int nn), .val (.int mm), .val (.int flags), .val (.int (1 : Int32)), .val (.int sml), .val (.long keys), .second, .val (.long ka), .second, .val (.int (flags &&& (3 : Int32))), .val (.long kb), .second, .val (.long kc), .second, .val (.int na), .val (.int nb), .val (.ref tb), .val (.int (1 : Int32)), .val (.int (10 : Int32)), .val (.int sp)] [(.ref tb)])) _
      refine st102.trans ?_
      show Steps p.tables e below (T102.setTop (mkF m 322 #[.val (.long pp), .second, .val (.long xx), .second, .val (.long yy), .second, .val (.int nn), .val (.int mm), .val (.int flags), .val (.int (1 : Int32)), .val (.int sml), .val (.long keys), .second, .val (.long ka), .second, .val (.int (flags &&& (3 : Int32))), .val (.long kb), .second, .val (.long kc), .second, .val (.int na), .val (.int nb), .val (.ref tb), .val (.int (1 : Int32)), .val (.int (10 : Int32)), .val (.int sp)] [(.int (if (updM (fun _ => false) Pa) Pb = true then (if (fun _ => false) Pa = true then (0 : Int32) else (0 : Int32) + (1 : Int32)) else (if (fun _ => false) Pa = true then (0 : Int32) else (0 : Int32) + (1 : Int32)) + (1 : Int32)))])) _
      rw [← ec2]
      show Steps p.tables e below (T102.setTop (mkF m 322 #[.val (.long pp), .second, .val (.long xx), .second, .val (.long yy), .second, .val (.int nn), .val (.int mm), .val (.int flags), .val (.int (1 : Int32)), .val (.int sml), .val (.long keys), .second, .val (.long ka), .second, .val (.int (flags &&& (3 : Int32))), .val (.long kb), .second, .val (.long kc), .second, .val (.int na), .val (.int nb), .val (.ref tb), .val (.int (1 : Int32)), .val (.int (10 : Int32)), .val (.int sp)] [(.int c2)])) _
      refine XS.iload X102.here hx rfl (hb hby at_322) rfl ?_
      show Steps p.tables e below (T102.setTop (mkF m 324 #[.val (.long pp), .second, .val (.long xx), .second, .val (.long yy), .second, .val (.int nn), .val (.int mm), .val (.int flags), .val (.int (1 : Int32)), .val (.int sml), .val (.long keys), .second, .val (.long ka), .second, .val (.int (flags &&& (3 : Int32))), .val (.long kb), .second, .val (.long kc), .second, .val (.int na), .val (.int nb), .val (.ref tb), .val (.int (1 : Int32)), .val (.int (10 : Int32)), .val (.int sp)] [(.int sp), (.int c2)])) _
      exact kt
    have k107 : ∀ tg, Steps p.tables e below (T102.setTop (mkF m 332 #[.val (.long pp), .second, .val (.long xx), .second, .val (.long yy), .second, .val (.int nn), .val (.int mm), .val (.int flags), .val (.int (1 : Int32)), .val (.int sml), .val (.long keys), .second, .val (.long ka), .second, .val (.int (flags &&& (3 : Int32))), .val (.long kb), .second, .val (.long kc), .second, .val (.int na), .val (.int nb), .val (.ref tb), .val (.int (1 : Int32)), .val (.int (10 : Int32)), .val (.int sp)] [(.int (if sp = (0 : Int32) then (2 : Int32) else (1 : Int32))), (.int c2)])) tg → Steps p.tables e below (s₁.setTop (entryFrame m #[(.long pp), (.long xx), (.long yy), (.int nn), (.int mm), (.int flags)] maxLocals)) tg := by
      intro tg kt
      refine k103 tg ?_
      show Steps p.tables e below (T102.setTop (mkF m 324 #[.val (.long pp), .second, .val (.long xx), .second, .val (.long yy), .second, .val (.int nn), .val (.int mm), .val (.int flags), .val (.int (1 : Int32)), .val (.int sml), .val (.long keys), .second, .val (.long ka), .second, .val (.int (flags &&& (3 : Int32))), .val (.long kb), .second, .val (.long kc), .second, .val (.int na), .val (.int nb), .val (.ref tb), .val (.int (1 : Int32)), .val (.int (10 : Int32)), .val (.int sp)] [(.int sp), (.int c2)])) _
      by_cases hc104 : sp = (0 : Int32)
      · refine XS.ifYes X102.here hx rfl (pc0 := 324) (pc' := 331) rfl (hb hby at_324) rfl ((if0 _ _).trans (teq hc104).1) (by decide) (by decide) ?_
        show Steps p.tables e below (T102.setTop (mkF m 331 #[.val (.long pp), .second, .val (.long xx), .second, .val (.long yy), .second, .val (.int nn), .val (.int mm), .val (.int flags), .val (.int (1 : Int32)), .val (.int sml), .val (.long keys), .second, .val (.long ka), .second, .val (.int (flags &&& (3 : Int32))), .val (.long kb), .second, .val (.long kc), .second, .val (.int na), .val (.int nb), .val (.ref tb), .val (.int (1 : Int32)), .val (.int (10 : Int32)), .val (.int sp)] [(.int c2)])) _
        refine XS.iconst X102.here hx rfl (hb hby at_331) ?_
        show Steps p.tables e below (T102.setTop (mkF m 332 #[.val (.long pp), .second, .val (.long xx), .second, .val (.long yy), .second, .val (.int nn), .val (.int mm), .val (.int flags), .val (.int (1 : Int32)), .val (.int sml), .val (.long keys), .second, .val (.long ka), .second, .val (.int (flags &&& (3 : Int32))), .val (.long kb), .second, .val (.long kc), .second, .val (.int na), .val (.int nb), .val (.ref tb), .val (.int (1 : Int32)), .val (.int (10 : Int32)), .val (.int sp)] [(.int (2 : Int32)), (.int c2)])) _
        repeat rw [if_pos hc104] at kt
        exact kt
      · refine XS.ifNo X102.here hx rfl (hb hby at_324) rfl ((if0 _ _).trans (feq hc104).1) ?_
        show Steps p.tables e below (T102.setTop (mkF m 327 #[.val (.long pp), .second, .val (.long xx), .second, .val (.long yy), .second, .val (.int nn), .val (.int mm), .val (.int flags), .val (.int (1 : Int32)), .val (.int sml), .val (.long keys), .second, .val (.long ka), .second, .val (.int (flags &&& (3 : Int32))), .val (.long kb), .second, .val (.long kc), .second, .val (.int na), .val (.int nb), .val (.ref tb), .val (.int (1 : Int32)), .val (.int (10 : Int32)), .val (.int sp)] [(.int c2)])) _
        refine XS.iconst X102.here hx rfl (hb hby at_327) ?_
        show Steps p.tables e below (T102.setTop (mkF m 328 #[.val (.long pp), .second, .val (.long xx), .second, .val (.long yy), .second, .val (.int nn), .val (.int mm), .val (.int flags), .val (.int (1 : Int32)), .val (.int sml), .val (.long keys), .second, .val (.long ka), .second, .val (.int (flags &&& (3 : Int32))), .val (.long kb), .second, .val (.long kc), .second, .val (.int na), .val (.int nb), .val (.ref tb), .val (.int (1 : Int32)), .val (.int (10 : Int32)), .val (.int sp)] [(.int (1 : Int32)), (.int c2)])) _
        refine XS.goto X102.here hx rfl (pc0 := 328) (pc' := 332) rfl (hb hby at_328) (by decide) (by decide) ?_
        show Steps p.tables e below (T102.setTop (mkF m 332 #[.val (.long pp), .second, .val (.long xx), .second, .val (.long yy), .second, .val (.int nn), .val (.int mm), .val (.int flags), .val (.int (1 : Int32)), .val (.int sml), .val (.long keys), .second, .val (.long ka), .second, .val (.int (flags &&& (3 : Int32))), .val (.long kb), .second, .val (.long kc), .second, .val (.int na), .val (.int nb), .val (.ref tb), .val (.int (1 : Int32)), .val (.int (10 : Int32)), .val (.int sp)] [(.int (1 : Int32)), (.int c2)])) _
        repeat rw [if_neg hc104] at kt
        exact kt
    obtain ⟨z108, ez108⟩ : ∃ z : Int32, z = (if sp = (0 : Int32) then (2 : Int32) else (1 : Int32)) := ⟨_, rfl⟩
    have hd109 : c2 = z108 := by
      have hs := own_same 10 KK A0 B0 Pa Pb ka kb sml sp (10 : Int32) (by decide) (by decide) hA0 hB0 lA0 lB0 hPa hPb qs0 qs1 esp
      rw [ec2, own_cnt, ez108, hs]
      by_cases d : Pb = Pa
      · rw [if_pos d, if_pos d]; decide
      · rw [if_neg d, if_neg d]; decide
    have hd110 : ¬ ((1 : Int32) = (0 : Int32)) := by decide
    have hd111 : ¬ ((1 : Int32) = (0 : Int32)) := by decide
    obtain ⟨yn112, eyn112⟩ : ∃ z : Int32, z = (if Pb = Pb ∧ Ib = Ib then (nb + (1 : Int32)) else (if Pb = Pa ∧ Ib = Ia then (na + (1 : Int32)) else (0 : Int32))) := ⟨_, rfl⟩
    have hgyn112 : (updG (updG (fun _ _ => (Value.int (0 : Int32))) Pa Ia (Value.int (na + (1 : Int32)))) Pb Ib (Value.int (nb + (1 : Int32)))) Pb Ib = Value.int yn112 := Eq.trans (show (updG (updG (fun _ _ => (Value.int (0 : Int32))) Pa Ia (Value.int (na + (1 : Int32)))) Pb Ib (Value.int (nb + (1 : Int32)))) Pb Ib = Value.int (if Pb = Pb ∧ Ib = Ib then (nb + (1 : Int32)) else (if Pb = Pa ∧ Ib = Ia then (na + (1 : Int32)) else (0 : Int32))) from (own_upd_int (own_upd_int rfl))) (congrArg Value.int eyn112.symm)
    obtain ⟨cq113, kq113, q113a, q113b, q113c⟩ := isOf hZ e102 HK74.1
    obtain ⟨_, _, ⟨T113, L113, k113, n113⟩, -, X113, ⟨Lc113, hQ113, l113, y113, z113⟩, st113⟩ := X102.virtualBack hx (y := (⟨"com/example/parley/parley/core/KeyTable", "number", "(J)I"⟩ : MethodName)) (z := (⟨"com/example/parley/parley/core/KeyTable", "number", "(J)I"⟩ : MethodName)) hown (mvT hZ (hw _ (List.mem_of_getElem? (i := 82) rfl))) (mvT hZ (hw _ (List.mem_of_getElem? (i := 83) rfl))) (notFace_of_selects (args := #[]) (mvT hZ (hw _ (List.mem_of_getElem? (i := 85) rfl)))) (mvT hZ (hw _ (List.mem_of_getElem? (i := 85) rfl))) (mvT hZ (hw _ (List.mem_of_getElem? (i := 84) rfl))) (by decide) (backOf (W := 0) (rmNumber l Z a0 hw [] tb kb (shN 10 KK) (npN 10 KK) Pb Ib B0 (updM (updM (fun _ => false) Pa) Pb) (updG (updG (fun _ _ => (Value.int (0 : Int32))) Pa Ia (Value.int (na + (1 : Int32)))) Pb Ib (Value.int (nb + (1 : Int32)))) (if (updM (fun _ => false) Pa) Pb = true then (if (fun _ => false) Pa = true then (0 : Int32) else (0 : Int32) + (1 : Int32)) else (if (fun _ => false) Pa = true then (0 : Int32) else (0 : Int32) + (1 : Int32)) + (1 : Int32)) yn112 T74.heap n0 hS15 hB0 sB0 hPb hIb lPb hn31 HK74 hgyn112 (by simp [updM])) hZ (hw _ (List.mem_of_getElem? (i := 86) rfl)) (hw _ (List.mem_of_getElem? (i := 7) rfl)) (by decide) (by decide)) q113a q113c (g := (mkF m 356 #[.val (.long pp), .second, .val (.long xx), .second, .val (.long yy), .second, .val (.int nn), .val (.int mm), .val (.int flags), .val (.int (1 : Int32)), .val (.int sml), .val (.long keys), .second, .val (.long ka), .second, .val (.int (flags &&& (3 : Int32))), .val (.long kb), .second, .val (.long kc), .second, .val (.int na), .val (.int nb), .val (.ref tb), .val (.int (1 : Int32)), .val (.int (10 : Int32)), .val (.int sp)] [(.long kb), (.ref tb)])) rfl (by rw [hml]; rfl) (Steps.refl _) (argsL := [(.long kb)]) (rest := []) (lenOf pd_1 rfl) rfl (by show 2 * 0 + _ ≤ _; exact Nat.le_of_eq rfl) (hb hby at_356) (fun _ _ => ⟨rfl, e102, (by decide : 4 + 0 ≤ _), (by decide : 6151 + 0 ≤ _)⟩)
    dsimp only [Pt.U, Pt.locs, Pt.cells, Pt.slots] at X113 l113 y113 z113 st113 hQ113
    subst l113 y113 z113
    obtain ⟨rfl, N113q, e113⟩ := hQ113
    have N113 := Fr.app N102 N113q
    have hd114 : (yn112 - (1 : Int32)) = nb := by rw [eyn112, if_pos ⟨rfl, rfl⟩]; exact own_back _
    obtain ⟨yn115, eyn115⟩ : ∃ z : Int32, z = (if Pa = Pb ∧ Ia = Ib then (nb + (1 : Int32)) else (if Pa = Pa ∧ Ia = Ia then (na + (1 : Int32)) else (0 : Int32))) := ⟨_, rfl⟩
    have hgyn115 : (updG (updG (fun _ _ => (Value.int (0 : Int32))) Pa Ia (Value.int (na + (1 : Int32)))) Pb Ib (Value.int (nb + (1 : Int32)))) Pa Ia = Value.int yn115 := Eq.trans (show (updG (updG (fun _ _ => (Value.int (0 : Int32))) Pa Ia (Value.int (na + (1 : Int32)))) Pb Ib (Value.int (nb + (1 : Int32)))) Pa Ia = Value.int (if Pa = Pb ∧ Ia = Ib then (nb + (1 : Int32)) else (if Pa = Pa ∧ Ia = Ia then (na + (1 : Int32)) else (0 : Int32))) from (own_upd_int (own_upd_int rfl))) (congrArg Value.int eyn115.symm)
    obtain ⟨cq116, kq116, q116a, q116b, q116c⟩ := isOf hZ e113 HK74.1
    obtain ⟨_, _, ⟨T116, L116, k116, n116⟩, -, X116, ⟨Lc116, hQ116, l116, y116, z116⟩, st116⟩ := X113.virtualBack hx (y := (⟨"com/example/parley/parley/core/KeyTable", "number", "(J)I"⟩ : MethodName)) (z := (⟨"com/example/parley/parley/core/KeyTable", "number", "(J)I"⟩ : MethodName)) hown (mvT hZ (hw _ (List.mem_of_getElem? (i := 82) rfl))) (mvT hZ (hw _ (List.mem_of_getElem? (i := 83) rfl))) (notFace_of_selects (args := #[]) (mvT hZ (hw _ (List.mem_of_getElem? (i := 85) rfl)))) (mvT hZ (hw _ (List.mem_of_getElem? (i := 85) rfl))) (mvT hZ (hw _ (List.mem_of_getElem? (i := 84) rfl))) (by decide) (backOf (W := 0) (rmNumber l Z a0 hw [] tb ka (shN 10 KK) (npN 10 KK) Pa Ia A0 (updM (updM (fun _ => false) Pa) Pb) (updG (updG (fun _ _ => (Value.int (0 : Int32))) Pa Ia (Value.int (na + (1 : Int32)))) Pb Ib (Value.int (nb + (1 : Int32)))) (if (updM (fun _ => false) Pa) Pb = true then (if (fun _ => false) Pa = true then (0 : Int32) else (0 : Int32) + (1 : Int32)) else (if (fun _ => false) Pa = true then (0 : Int32) else (0 : Int32) + (1 : Int32)) + (1 : Int32)) yn115 T74.heap n0 hS15 hA0 sA0 hPa hIa lPa hn31 HK74 hgyn115 (by simp [updM])) hZ (hw _ (List.mem_of_getElem? (i := 86) rfl)) (hw _ (List.mem_of_getElem? (i := 7) rfl)) (by decide) (by decide)) q116a q116c (g := (mkF m 368 #[.val (.long pp), .second, .val (.long xx), .second, .val (.long yy), .second, .val (.int nn), .val (.int mm), .val (.int flags), .val (.int (1 : Int32)), .val (.int sml), .val (.long keys), .second, .val (.long ka), .second, .val (.int (flags &&& (3 : Int32))), .val (.long kb), .second, .val (.long kc), .second, .val (.int na), .val (.int nb), .val (.ref tb), .val (.int (1 : Int32)), .val (.int (10 : Int32)), .val (.int sp)] [(.long ka), (.ref tb)])) rfl (by rw [hml]; rfl) (Steps.refl _) (argsL := [(.long ka)]) (rest := []) (lenOf pd_1 rfl) rfl (by show 2 * 0 + _ ≤ _; exact Nat.le_of_eq rfl) (hb hby at_368) (fun _ _ => ⟨rfl, e113, (by decide : 4 + 0 ≤ _), (by decide : 6151 + 0 ≤ _)⟩)
    dsimp only [Pt.U, Pt.locs, Pt.cells, Pt.slots] at X116 l116 y116 z116 st116 hQ116
    subst l116 y116 z116
    obtain ⟨rfl, N116q, e116⟩ := hQ116
    have N116 := Fr.app N113 N116q
    have k117 : ∀ tg, Steps p.tables e below (T116.setTop (mkF m 376 #[.val (.long pp), .second, .val (.long xx), .second, .val (.long yy), .second, .val (.int nn), .val (.int mm), .val (.int flags), .val (.int (1 : Int32)), .val (.int sml), .val (.long keys), .second, .val (.long ka), .second, .val (.int (flags &&& (3 : Int32))), .val (.long kb), .second, .val (.long kc), .second, .val (.int na), .val (.int nb), .val (.ref tb), .val (.int (1 : Int32)), .val (.int (10 : Int32)), .val (.int sp)] [(.int (lcmpW ka kb)), (.int (yn115 - (1 : Int32)))])) tg → Steps p.tables e below (s₁.setTop (entryFrame m #[(.long pp), (.long xx), (.long yy), (.int nn), (.int mm), (.int flags)] maxLocals)) tg := by
      intro tg kt
      refine k107 tg ?_
      show Steps p.tables e below (T102.setTop (mkF m 332 #[.val (.long pp), .second, .val (.long xx), .second, .val (.long yy), .second, .val (.int nn), .val (.int mm), .val (.int flags), .val (.int (1 : Int32)), .val (.int sml), .val (.long keys), .second, .val (.long ka), .second, .val (.int (flags &&& (3 : Int32))), .val (.long kb), .second, .val (.long kc), .second, .val (.int na), .val (.int nb), .val (.ref tb), .val (.int (1 : Int32)), .val (.int (10 : Int32)), .val (.int sp)] [(.int (if sp = (0 : Int32) then (2 : Int32) else (1 : Int32))), (.int c2)])) _
      rw [← ez108]
      show Steps p.tables e below (T102.setTop (mkF m 332 #[.val (.long pp), .second, .val (.long xx), .second, .val (.long yy), .second, .val (.int nn), .val (.int mm), .val (.int flags), .val (.int (1 : Int32)), .val (.int sml), .val (.long keys), .second, .val (.long ka), .second, .val (.int (flags &&& (3 : Int32))), .val (.long kb), .second, .val (.long kc), .second, .val (.int na), .val (.int nb), .val (.ref tb), .val (.int (1 : Int32)), .val (.int (10 : Int32)), .val (.int sp)] [(.int z108), (.int c2)])) _
      refine XS.icmpNo X102.here hx rfl (hb hby at_332) rfl (teq hd109).2 ?_
      show Steps p.tables e below (T102.setTop (mkF m 335 #[.val (.long pp), .second, .val (.long xx), .second, .val (.long yy), .second, .val (.int nn), .val (.int mm), .val (.int flags), .val (.int (1 : Int32)), .val (.int sml), .val (.long keys), .second, .val (.long ka), .second, .val (.int (flags &&& (3 : Int32))), .val (.long kb), .second, .val (.long kc), .second, .val (.int na), .val (.int nb), .val (.ref tb), .val (.int (1 : Int32)), .val (.int (10 : Int32)), .val (.int sp)] [])) _
      refine XS.iconst X102.here hx rfl (hb hby at_335) ?_
      show Steps p.tables e below (T102.setTop (mkF m 336 #[.val (.long pp), .second, .val (.long xx), .second, .val (.long yy), .second, .val (.int nn), .val (.int mm), .val (.int flags), .val (.int (1 : Int32)), .val (.int sml), .val (.long keys), .second, .val (.long ka), .second, .val (.int (flags &&& (3 : Int32))), .val (.long kb), .second, .val (.long kc), .second, .val (.int na), .val (.int nb), .val (.ref tb), .val (.int (1 : Int32)), .val (.int (10 : Int32)), .val (.int sp)] [(.int (1 : Int32))])) _
      refine XS.goto X102.here hx rfl (pc0 := 336) (pc' := 340) rfl (hb hby at_336) (by decide) (by decide) ?_
      show Steps p.tables e below (T102.setTop (mkF m 340 #[.val (.long pp), .second, .val (.long xx), .second, .val (.long yy), .second, .val (.int nn), .val (.int mm), .val (.int flags), .val (.int (1 : Int32)), .val (.int sml), .val (.long keys), .second, .val (.long ka), .second, .val (.int (flags &&& (3 : Int32))), .val (.long kb), .second, .val (.long kc), .second, .val (.int na), .val (.int nb), .val (.ref tb), .val (.int (1 : Int32)), .val (.int (10 : Int32)), .val (.int sp)] [(.int (1 : Int32))])) _
      refine XS.istore X102.here hx rfl (hb hby at_340) rfl (l' := #[.val (.long pp), .second, .val (.long xx), .second, .val (.long yy), .second, .val (.int nn), .val (.int mm), .val (.int flags), .val (.int (1 : Int32)), .val (.int sml), .val (.long keys), .second, .val (.long ka), .second, .val (.int (flags &&& (3 : Int32))), .val (.long kb), .second, .val (.long kc), .second, .val (.int na), .val (.int nb), .val (.ref tb), .val (.int (1 : Int32)), .val (.int (10 : Int32)), .val (.int sp)]) rfl ?_
      show Steps p.tables e below (T102.setTop (mkF m 342 #[.val (.long pp), .second, .val (.long xx), .second, .val (.long yy), .second, .val (.int nn), .val (.int mm), .val (.int flags), .val (.int (1 : Int32)), .val (.int sml), .val (.long keys), .second, .val (.long ka), .second, .val (.int (flags &&& (3 : Int32))), .val (.long kb), .second, .val (.long kc), .second, .val (.int na), .val (.int nb), .val (.ref tb), .val (.int (1 : Int32)), .val (.int (10 : Int32)), .val (.int sp)] [])) _
      refine XS.iload X102.here hx rfl (hb hby at_342) rfl ?_
      show Steps p.tables e below (T102.setTop (mkF m 344 #[.val (.long pp), .second, .val (.long xx), .second, .val (.long yy), .second, .val (.int nn), .val (.int mm), .val (.int flags), .val (.int (1 : Int32)), .val (.int sml), .val (.long keys), .second, .val (.long ka), .second, .val (.int (flags &&& (3 : Int32))), .val (.long kb), .second, .val (.long kc), .second, .val (.int na), .val (.int nb), .val (.ref tb), .val (.int (1 : Int32)), .val (.int (10 : Int32)), .val (.int sp)] [(.int (1 : Int32))])) _
      refine XS.ifNo X102.here hx rfl (hb hby at_344) rfl ((if0 _ _).trans (feq hd110).1) ?_
      show Steps p.tables e below (T102.setTop (mkF m 347 #[.val (.long pp), .second, .val (.long xx), .second, .val (.long yy), .second, .val (.int nn), .val (.int mm), .val (.int flags), .val (.int (1 : Int32)), .val (.int sml), .val (.long keys), .second, .val (.long ka), .second, .val (.int (flags &&& (3 : Int32))), .val (.long kb), .second, .val (.long kc), .second, .val (.int na), .val (.int nb), .val (.ref tb), .val (.int (1 : Int32)), .val (.int (10 : Int32)), .val (.int sp)] [])) _
      refine XS.iload X102.here hx rfl (hb hby at_347) rfl ?_
      show Steps p.tables e below (T102.setTop (mkF m 349 #[.val (.long pp), .second, .val (.long xx), .second, .val (.long yy), .second, .val (.int nn), .val (.int mm), .val (.int flags), .val (.int (1 : Int32)), .val (.int sml), .val (.long keys), .second, .val (.long ka), .second, .val (.int (flags &&& (3 : Int32))), .val (.long kb), .second, .val (.long kc), .second, .val (.int na), .val (.int nb), .val (.ref tb), .val (.int (1 : Int32)), .val (.int (10 : Int32)), .val (.int sp)] [(.int (1 : Int32))])) _
      refine XS.ifNo X102.here hx rfl (hb hby at_349) rfl ((if0 _ _).trans (feq hd111).1) ?_
      show Steps p.tables e below (T102.setTop (mkF m 352 #[.val (.long pp), .second, .val (.long xx), .second, .val (.long yy), .second, .val (.int nn), .val (.int mm), .val (.int flags), .val (.int (1 : Int32)), .val (.int sml), .val (.long keys), .second, .val (.long ka), .second, .val (.int (flags &&& (3 : Int32))), .val (.long kb), .second, .val (.long kc), .second, .val (.int na), .val (.int nb), .val (.ref tb), .val (.int (1 : Int32)), .val (.int (10 : Int32)), .val (.int sp)] [])) _
      refine XS.aload X102.here hx rfl (hb hby at_352) rfl rfl ?_
      show Steps p.tables e below (T102.setTop (mkF m 354 #[.val (.long pp), .second, .val (.long xx), .second, .val (.long yy), .second, .val (.int nn), .val (.int mm), .val (.int flags), .val (.int (1 : Int32)), .val (.int sml), .val (.long keys), .second, .val (.long ka), .second, .val (.int (flags &&& (3 : Int32))), .val (.long kb), .second, .val (.long kc), .second, .val (.int na), .val (.int nb), .val (.ref tb), .val (.int (1 : Int32)), .val (.int (10 : Int32)), .val (.int sp)] [(.ref tb)])) _
      refine XS.lload X102.here hx rfl (hb hby at_354) rfl ?_
      show Steps p.tables e below (T102.setTop (mkF m 356 #[.val (.long pp), .second, .val (.long xx), .second, .val (.long yy), .second, .val (.int nn), .val (.int mm), .val (.int flags), .val (.int (1 : Int32)), .val (.int sml), .val (.long keys), .second, .val (.long ka), .second, .val (.int (flags &&& (3 : Int32))), .val (.long kb), .second, .val (.long kc), .second, .val (.int na), .val (.int nb), .val (.ref tb), .val (.int (1 : Int32)), .val (.int (10 : Int32)), .val (.int sp)] [(.long kb), (.ref tb)])) _
      refine st113.trans ?_
      show Steps p.tables e below (T113.setTop (mkF m 359 #[.val (.long pp), .second, .val (.long xx), .second, .val (.long yy), .second, .val (.int nn), .val (.int mm), .val (.int flags), .val (.int (1 : Int32)), .val (.int sml), .val (.long keys), .second, .val (.long ka), .second, .val (.int (flags &&& (3 : Int32))), .val (.long kb), .second, .val (.long kc), .second, .val (.int na), .val (.int nb), .val (.ref tb), .val (.int (1 : Int32)), .val (.int (10 : Int32)), .val (.int sp)] [(.int (yn112 - (1 : Int32)))])) _
      refine XS.iload X113.here hx rfl (hb hby at_359) rfl ?_
      show Steps p.tables e below (T113.setTop (mkF m 361 #[.val (.long pp), .second, .val (.long xx), .second, .val (.long yy), .second, .val (.int nn), .val (.int mm), .val (.int flags), .val (.int (1 : Int32)), .val (.int sml), .val (.long keys), .second, .val (.long ka), .second, .val (.int (flags &&& (3 : Int32))), .val (.long kb), .second, .val (.long kc), .second, .val (.int na), .val (.int nb), .val (.ref tb), .val (.int (1 : Int32)), .val (.int (10 : Int32)), .val (.int sp)] [(.int nb), (.int (yn112 - (1 : Int32)))])) _
      refine XS.icmpNo X113.here hx rfl (hb hby at_361) rfl (teq hd114).2 ?_
      show Steps p.tables e below (T113.setTop (mkF m 364 #[.val (.long pp), .second, .val (.long xx), .second, .val (.long yy), .second, .val (.int nn), .val (.int mm), .val (.int flags), .val (.int (1 : Int32)), .val (.int sml), .val (.long keys), .second, .val (.long ka), .second, .val (.int (flags &&& (3 : Int32))), .val (.long kb), .second, .val (.long kc), .second, .val (.int na), .val (.int nb), .val (.ref tb), .val (.int (1 : Int32)), .val (.int (10 : Int32)), .val (.int sp)] [])) _
      refine XS.aload X113.here hx rfl (hb hby at_364) rfl rfl ?_
      show Steps p.tables e below (T113.setTop (mkF m 366 #[.val (.long pp), .second, .val (.long xx), .second, .val (.long yy), .second, .val (.int nn), .val (.int mm), .val (.int flags), .val (.int (1 : Int32)), .val (.int sml), .val (.long keys), .second, .val (.long ka), .second, .val (.int (flags &&& (3 : Int32))), .val (.long kb), .second, .val (.long kc), .second, .val (.int na), .val (.int nb), .val (.ref tb), .val (.int (1 : Int32)), .val (.int (10 : Int32)), .val (.int sp)] [(.ref tb)])) _
      refine XS.lload X113.here hx rfl (hb hby at_366) rfl ?_
      show Steps p.tables e below (T113.setTop (mkF m 368 #[.val (.long pp), .second, .val (.long xx), .second, .val (.long yy), .second, .val (.int nn), .val (.int mm), .val (.int flags), .val (.int (1 : Int32)), .val (.int sml), .val (.long keys), .second, .val (.long ka), .second, .val (.int (flags &&& (3 : Int32))), .val (.long kb), .second, .val (.long kc), .second, .val (.int na), .val (.int nb), .val (.ref tb), .val (.int (1 : Int32)), .val (.int (10 : Int32)), .val (.int sp)] [(.long ka), (.ref tb)])) _
      refine st116.trans ?_
      show Steps p.tables e below (T116.setTop (mkF m 371 #[.val (.long pp), .second, .val (.long xx), .second, .val (.long yy), .second, .val (.int nn), .val (.int mm), .val (.int flags), .val (.int (1 : Int32)), .val (.int sml), .val (.long keys), .second, .val (.long ka), .second, .val (.int (flags &&& (3 : Int32))), .val (.long kb), .second, .val (.long kc), .second, .val (.int na), .val (.int nb), .val (.ref tb), .val (.int (1 : Int32)), .val (.int (10 : Int32)), .val (.int sp)] [(.int (yn115 - (1 : Int32)))])) _
      refine XS.lload X116.here hx rfl (hb hby at_371) rfl ?_
      show Steps p.tables e below (T116.setTop (mkF m 373 #[.val (.long pp), .second, .val (.long xx), .second, .val (.long yy), .second, .val (.int nn), .val (.int mm), .val (.int flags), .val (.int (1 : Int32)), .val (.int sml), .val (.long keys), .second, .val (.long ka), .second, .val (.int (flags &&& (3 : Int32))), .val (.long kb), .second, .val (.long kc), .second, .val (.int na), .val (.int nb), .val (.ref tb), .val (.int (1 : Int32)), .val (.int (10 : Int32)), .val (.int sp)] [(.long ka), (.int (yn115 - (1 : Int32)))])) _
      refine XS.lload X116.here hx rfl (hb hby at_373) rfl ?_
      show Steps p.tables e below (T116.setTop (mkF m 375 #[.val (.long pp), .second, .val (.long xx), .second, .val (.long yy), .second, .val (.int nn), .val (.int mm), .val (.int flags), .val (.int (1 : Int32)), .val (.int sml), .val (.long keys), .second, .val (.long ka), .second, .val (.int (flags &&& (3 : Int32))), .val (.long kb), .second, .val (.long kc), .second, .val (.int na), .val (.int nb), .val (.ref tb), .val (.int (1 : Int32)), .val (.int (10 : Int32)), .val (.int sp)] [(.long kb), (.long ka), (.int (yn115 - (1 : Int32)))])) _
      refine XS.lcmp X116.here hx rfl (hb hby at_375) rfl ?_
      show Steps p.tables e below (T116.setTop (mkF m 376 #[.val (.long pp), .second, .val (.long xx), .second, .val (.long yy), .second, .val (.int nn), .val (.int mm), .val (.int flags), .val (.int (1 : Int32)), .val (.int sml), .val (.long keys), .second, .val (.long ka), .second, .val (.int (flags &&& (3 : Int32))), .val (.long kb), .second, .val (.long kc), .second, .val (.int na), .val (.int nb), .val (.ref tb), .val (.int (1 : Int32)), .val (.int (10 : Int32)), .val (.int sp)] [(.int (lcmpW ka kb)), (.int (yn115 - (1 : Int32)))])) _
      exact kt
    have k121 : ∀ tg, Steps p.tables e below (T116.setTop (mkF m 386 #[.val (.long pp), .second, .val (.long xx), .second, .val (.long yy), .second, .val (.int nn), .val (.int mm), .val (.int flags), .val (.int (1 : Int32)), .val (.int sml), .val (.long keys), .second, .val (.long ka), .second, .val (.int (flags &&& (3 : Int32))), .val (.long kb), .second, .val (.long kc), .second, .val (.int na), .val (.int nb), .val (.ref tb), .val (.int (1 : Int32)), .val (.int (10 : Int32)), .val (.int sp)] [(.int (if ka = kb then nb else na)), (.int (yn115 - (1 : Int32)))])) tg → Steps p.tables e below (s₁.setTop (entryFrame m #[(.long pp), (.long xx), (.long yy), (.int nn), (.int mm), (.int flags)] maxLocals)) tg := by
      intro tg kt
      refine k117 tg ?_
      show Steps p.tables e below (T116.setTop (mkF m 376 #[.val (.long pp), .second, .val (.long xx), .second, .val (.long yy), .second, .val (.int nn), .val (.int mm), .val (.int flags), .val (.int (1 : Int32)), .val (.int sml), .val (.long keys), .second, .val (.long ka), .second, .val (.int (flags &&& (3 : Int32))), .val (.long kb), .second, .val (.long kc), .second, .val (.int na), .val (.int nb), .val (.ref tb), .val (.int (1 : Int32)), .val (.int (10 : Int32)), .val (.int sp)] [(.int (lcmpW ka kb)), (.int (yn115 - (1 : Int32)))])) _
      by_cases hc118 : ka = kb
      · refine XS.ifNo X116.here hx rfl (hb hby at_376) rfl ((if0 _ _).trans (teq ((lw_eq _ _).mpr hc118)).2) ?_
        show Steps p.tables e below (T116.setTop (mkF m 379 #[.val (.long pp), .second, .val (.long xx), .second, .val (.long yy), .second, .val (.int nn), .val (.int mm), .val (.int flags), .val (.int (1 : Int32)), .val (.int sml), .val (.long keys), .second, .val (.long ka), .second, .val (.int (flags &&& (3 : Int32))), .val (.long kb), .second, .val (.long kc), .second, .val (.int na), .val (.int nb), .val (.ref tb), .val (.int (1 : Int32)), .val (.int (10 : Int32)), .val (.int sp)] [(.int (yn115 - (1 : Int32)))])) _
        refine XS.iload X116.here hx rfl (hb hby at_379) rfl ?_
        show Steps p.tables e below (T116.setTop (mkF m 381 #[.val (.long pp), .second, .val (.long xx), .second, .val (.long yy), .second, .val (.int nn), .val (.int mm), .val (.int flags), .val (.int (1 : Int32)), .val (.int sml), .val (.long keys), .second, .val (.long ka), .second, .val (.int (flags &&& (3 : Int32))), .val (.long kb), .second, .val (.long kc), .second, .val (.int na), .val (.int nb), .val (.ref tb), .val (.int (1 : Int32)), .val (.int (10 : Int32)), .val (.int sp)] [(.int nb), (.int (yn115 - (1 : Int32)))])) _
        refine XS.goto X116.here hx rfl (pc0 := 381) (pc' := 386) rfl (hb hby at_381) (by decide) (by decide) ?_
        show Steps p.tables e below (T116.setTop (mkF m 386 #[.val (.long pp), .second, .val (.long xx), .second, .val (.long yy), .second, .val (.int nn), .val (.int mm), .val (.int flags), .val (.int (1 : Int32)), .val (.int sml), .val (.long keys), .second, .val (.long ka), .second, .val (.int (flags &&& (3 : Int32))), .val (.long kb), .second, .val (.long kc), .second, .val (.int na), .val (.int nb), .val (.ref tb), .val (.int (1 : Int32)), .val (.int (10 : Int32)), .val (.int sp)] [(.int nb), (.int (yn115 - (1 : Int32)))])) _
        repeat rw [if_pos hc118] at kt
        exact kt
      · refine XS.ifYes X116.here hx rfl (pc0 := 376) (pc' := 384) rfl (hb hby at_376) rfl ((if0 _ _).trans (feq (fun q => hc118 ((lw_eq _ _).mp q))).2) (by decide) (by decide) ?_
        show Steps p.tables e below (T116.setTop (mkF m 384 #[.val (.long pp), .second, .val (.long xx), .second, .val (.long yy), .second, .val (.int nn), .val (.int mm), .val (.int flags), .val (.int (1 : Int32)), .val (.int sml), .val (.long keys), .second, .val (.long ka), .second, .val (.int (flags &&& (3 : Int32))), .val (.long kb), .second, .val (.long kc), .second, .val (.int na), .val (.int nb), .val (.ref tb), .val (.int (1 : Int32)), .val (.int (10 : Int32)), .val (.int sp)] [(.int (yn115 - (1 : Int32)))])) _
        refine XS.iload X116.here hx rfl (hb hby at_384) rfl ?_
        show Steps p.tables e below (T116.setTop (mkF m 386 #[.val (.long pp), .second, .val (.long xx), .second, .val (.long yy), .second, .val (.int nn), .val (.int mm), .val (.int flags), .val (.int (1 : Int32)), .val (.int sml), .val (.long keys), .second, .val (.long ka), .second, .val (.int (flags &&& (3 : Int32))), .val (.long kb), .second, .val (.long kc), .second, .val (.int na), .val (.int nb), .val (.ref tb), .val (.int (1 : Int32)), .val (.int (10 : Int32)), .val (.int sp)] [(.int na), (.int (yn115 - (1 : Int32)))])) _
        repeat rw [if_neg hc118] at kt
        exact kt
    obtain ⟨z122, ez122⟩ : ∃ z : Int32, z = (if ka = kb then nb else na) := ⟨_, rfl⟩
    have hd123 : (yn115 - (1 : Int32)) = z122 := by
      rw [eyn115, ez122]
      by_cases d : ka = kb
      · rw [if_pos d, if_pos (q_ka_kb.mp d)]; exact own_back _
      · rw [if_neg d, if_neg (fun r => d (q_ka_kb.mpr r)), if_pos ⟨rfl, rfl⟩]; exact own_back _
    have k124 : ∀ tg, Steps p.tables e below (T116.setTop (mkF m 398 #[.val (.long pp), .second, .val (.long xx), .second, .val (.long yy), .second, .val (.int nn), .val (.int mm), .val (.int flags), .val (.int (1 : Int32)), .val (.int sml), .val (.long keys), .second, .val (.long ka), .second, .val (.int (flags &&& (3 : Int32))), .val (.long kb), .second, .val (.long kc), .second, .val (.int na), .val (.int nb), .val (.ref tb), .val (.int (1 : Int32)), .val (.int (10 : Int32)), .val (.int sp)] [(.int (1 : Int32))])) tg → Steps p.tables e below (s₁.setTop (entryFrame m #[(.long pp), (.long xx), (.long yy), (.int nn), (.int mm), (.int flags)] maxLocals)) tg := by
      intro tg kt
      refine k121 tg ?_
      show Steps p.tables e below (T116.setTop (mkF m 386 #[.val (.long pp), .second, .val (.long xx), .second, .val (.long yy), .second, .val (.int nn), .val (.int mm), .val (.int flags), .val (.int (1 : Int32)), .val (.int sml), .val (.long keys), .second, .val (.long ka), .second, .val (.int (flags &&& (3 : Int32))), .val (.long kb), .second, .val (.long kc), .second, .val (.int na), .val (.int nb), .val (.ref tb), .val (.int (1 : Int32)), .val (.int (10 : Int32)), .val (.int sp)] [(.int (if ka = kb then nb else na)), (.int (yn115 - (1 : Int32)))])) _
      rw [← ez122]
      show Steps p.tables e below (T116.setTop (mkF m 386 #[.val (.long pp), .second, .val (.long xx), .second, .val (.long yy), .second, .val (.int nn), .val (.int mm), .val (.int flags), .val (.int (1 : Int32)), .val (.int sml), .val (.long keys), .second, .val (.long ka), .second, .val (.int (flags &&& (3 : Int32))), .val (.long kb), .second, .val (.long kc), .second, .val (.int na), .val (.int nb), .val (.ref tb), .val (.int (1 : Int32)), .val (.int (10 : Int32)), .val (.int sp)] [(.int z122), (.int (yn115 - (1 : Int32)))])) _
      refine XS.icmpNo X116.here hx rfl (hb hby at_386) rfl (teq hd123).2 ?_
      show Steps p.tables e below (T116.setTop (mkF m 389 #[.val (.long pp), .second, .val (.long xx), .second, .val (.long yy), .second, .val (.int nn), .val (.int mm), .val (.int flags), .val (.int (1 : Int32)), .val (.int sml), .val (.long keys), .second, .val (.long ka), .second, .val (.int (flags &&& (3 : Int32))), .val (.long kb), .second, .val (.long kc), .second, .val (.int na), .val (.int nb), .val (.ref tb), .val (.int (1 : Int32)), .val (.int (10 : Int32)), .val (.int sp)] [])) _
      refine XS.iconst X116.here hx rfl (hb hby at_389) ?_
      show Steps p.tables e below (T116.setTop (mkF m 390 #[.val (.long pp), .second, .val (.long xx), .second, .val (.long yy), .second, .val (.int nn), .val (.int mm), .val (.int flags), .val (.int (1 : Int32)), .val (.int sml), .val (.long keys), .second, .val (.long ka), .second, .val (.int (flags &&& (3 : Int32))), .val (.long kb), .second, .val (.long kc), .second, .val (.int na), .val (.int nb), .val (.ref tb), .val (.int (1 : Int32)), .val (.int (10 : Int32)), .val (.int sp)] [(.int (1 : Int32))])) _
      refine XS.goto X116.here hx rfl (pc0 := 390) (pc' := 394) rfl (hb hby at_390) (by decide) (by decide) ?_
      show Steps p.tables e below (T116.setTop (mkF m 394 #[.val (.long pp), .second, .val (.long xx), .second, .val (.long yy), .second, .val (.int nn), .val (.int mm), .val (.int flags), .val (.int (1 : Int32)), .val (.int sml), .val (.long keys), .second, .val (.long ka), .second, .val (.int (flags &&& (3 : Int32))), .val (.long kb), .second, .val (.long kc), .second, .val (.int na), .val (.int nb), .val (.ref tb), .val (.int (1 : Int32)), .val (.int (10 : Int32)), .val (.int sp)] [(.int (1 : Int32))])) _
      refine XS.istore X116.here hx rfl (hb hby at_394) rfl (l' := #[.val (.long pp), .second, .val (.long xx), .second, .val (.long yy), .second, .val (.int nn), .val (.int mm), .val (.int flags), .val (.int (1 : Int32)), .val (.int sml), .val (.long keys), .second, .val (.long ka), .second, .val (.int (flags &&& (3 : Int32))), .val (.long kb), .second, .val (.long kc), .second, .val (.int na), .val (.int nb), .val (.ref tb), .val (.int (1 : Int32)), .val (.int (10 : Int32)), .val (.int sp)]) rfl ?_
      show Steps p.tables e below (T116.setTop (mkF m 396 #[.val (.long pp), .second, .val (.long xx), .second, .val (.long yy), .second, .val (.int nn), .val (.int mm), .val (.int flags), .val (.int (1 : Int32)), .val (.int sml), .val (.long keys), .second, .val (.long ka), .second, .val (.int (flags &&& (3 : Int32))), .val (.long kb), .second, .val (.long kc), .second, .val (.int na), .val (.int nb), .val (.ref tb), .val (.int (1 : Int32)), .val (.int (10 : Int32)), .val (.int sp)] [])) _
      refine XS.iload X116.here hx rfl (hb hby at_396) rfl ?_
      show Steps p.tables e below (T116.setTop (mkF m 398 #[.val (.long pp), .second, .val (.long xx), .second, .val (.long yy), .second, .val (.int nn), .val (.int mm), .val (.int flags), .val (.int (1 : Int32)), .val (.int sml), .val (.long keys), .second, .val (.long ka), .second, .val (.int (flags &&& (3 : Int32))), .val (.long kb), .second, .val (.long kc), .second, .val (.int na), .val (.int nb), .val (.ref tb), .val (.int (1 : Int32)), .val (.int (10 : Int32)), .val (.int sp)] [(.int (1 : Int32))])) _
      exact kt
    obtain ⟨fs, hr, hrun, hended, hW, hsame⟩ := X116.leave (v := some (.int (1 : Int32))) (fun h => by rw [Bd.returns] at h; cases h)
    refine ⟨_, _, k124 _ ?_, hrun, hended, _, _, rfl, ?_, ⟨_, rfl⟩, hW, hsame.mono (by decide) (by decide)⟩
    · exact retN X116 hx (t := .boolean) Bd.returns (by simp) (hb hby at_398) hr
    · show QL n0 _ T116.heap _
      exact ⟨rfl, N116⟩
set_option maxRecDepth 65536 in
set_option maxHeartbeats 40000000 in
theorem comes_1 {Post : Tables → Env → Array Value → State → Outcome → State → Prop} (hpost : ∀ tb e args s v u, (limb_1_1.after args s (.returned v) u = true ∧ limb_1_2.after args s (.returned v) u = true ∧ True) → FrameEnd s (.returned v) u (Jvm.fieldLocs frame_1_writes args s ++ Jvm.arrayLocs frame_1_arrays args s ++ Jvm.staticLocs frame_1_statics s) 16 6336 → Post tb e args s (.returned v) u) :
    ArmFor flags0 classFile x code maxLocals ret World_1 tables_1 room_1 Calls_1 rest_1 Pre_1 Post := by
  intro l hfl _ _ p e ha hc hk s m args below hf hA hF happ hP
  obtain ⟨hcalls, hrest, hpre⟩ := hP
  obtain ⟨-, -, -, hnamed, -, -, -, hat⟩ := (Spec.applies_iff hf).mp happ
  obtain ⟨hg, hn⟩ := and_e (Cond.before_iff.mp (show (Jvm.Cond.and given_1 narrow_1).before args s = true from hpre))
  obtain ⟨g1, g2⟩ := and_e hg
  obtain ⟨g3, g4⟩ := and_e g2
  obtain ⟨g5, g6⟩ := and_e g4
  obtain ⟨g7, g8⟩ := and_e g6
  obtain ⟨g9, g10⟩ := and_e g8
  obtain ⟨g11, g12⟩ := and_e g10
  obtain ⟨w0, w1, w2, w3, w4, w5, rfl⟩ : ∃ w0 w1 w2 w3 w4 w5 : Value, args = #[w0, w1, w2, w3, w4, w5] := by
    have hs : args.size = 6 := by simpa [Cond.value, given_1] using g1
    obtain ⟨L⟩ := args
    match L, hs with
    | [w0, w1, w2, w3, w4, w5], _ => exact ⟨w0, w1, w2, w3, w4, w5, rfl⟩
  have hw := fun d (hd : d ∈ tables_1) => atoms_spec (ws := Jvm.Cond.code x code maxLocals ret :: tables_1) hat d (List.mem_cons_of_mem _ hd)
  have hfit : Fit s := fun {y c} hc i hi => by
    obtain ⟨ha, rfl⟩ := Array.getElem?_eq_some_iff.mp hc
    have q := List.all_eq_true.mp ((Array.all_eq_true_iff_forall_mem.mp hF) _ (Array.getElem_mem ha)) i (List.mem_range.mpr hi)
    simpa [Array.getElem?_eq_getElem hi] using q
  obtain ⟨i0, ei0⟩ := isL_v g3
  obtain rfl : w0 = (.long i0) := Option.some.inj ei0
  obtain ⟨i1, ei1⟩ := isL_v g5
  obtain rfl : w1 = (.long i1) := Option.some.inj ei1
  obtain ⟨i2, ei2⟩ := isL_v g7
  obtain rfl : w2 = (.long i2) := Option.some.inj ei2
  obtain ⟨i3, ei3⟩ := is_v g9
  obtain rfl : w3 = (.int i3) := Option.some.inj ei3
  obtain ⟨i4, ei4⟩ := is_v g11
  obtain rfl : w4 = (.int i4) := Option.some.inj ei4
  obtain ⟨i5, ei5⟩ := is_v g12
  obtain rfl : w5 = (.int i5) := Option.some.inj ei5
  obtain ⟨n, o, h1, h2, h3, _, L, rfl, ⟨rfl, N⟩, hq⟩ := rm0 l s _ hw tables_1 i0 i1 i2 i3 i4 i5  s.heap s.heap.size (Nat.le_refl _) p e ha hc hk s m _ below hf ((Spec.applies_iff_loose hf).mp happ).1 ⟨rfl, State.Warmed39.refl s, rfl⟩ trivial
  refine ⟨n, _, h1, h2, h3, hpost _ _ _ _ _ _ ⟨Cond.after_iff.mpr rfl, Cond.after_iff.mpr (eq_i res_at (Term.int_eval (1)) rfl), trivial⟩ ⟨hq.1, hq.2.1, (hq.2.2.sift fun y hy => Or.inr (N y hy)).mono (by decide) (by decide)⟩⟩
theorem main_1_1 : Claimed_1_1 := comes_1 fun _ _ _ _ _ _ h hF => ⟨h.1, hF⟩
theorem main_1_2 : Claimed_1_2 := comes_1 fun _ _ _ _ _ _ h hF => ⟨h.2.1, hF⟩
end Jvm.Pilot.@@N@@
namespace Jvm.Pilot.@@N@@
open Jvm Jvm.ClassFile Sem Op Lib Jvm.Free Jvm.Stand Jvm.Pilot.@@N@@.Jvm.D
/-! MADE BY PROGRAM (witnessworld.py) out of the Statement's table words and the real class files: 18 classes; the members and pool entries that the words name. The judged class is class 1, her method 1. -/
namespace start1
open Jvm.ClassFile
def u (s : String) : CpInfo := .utf8 (stringToUtf16 s)
/-- a pool by its gaps: so many unusable entries, then the entry; so many at the end -/
def gap : Nat → List CpInfo → List CpInfo
  | 0, r => r
  | n + 1, r => .unusable :: gap n r
def poolList (es : List (Nat × CpInfo)) (last : Nat) : List CpInfo := es.foldr (fun e r => gap e.1 (e.2 :: r)) (gap last [])
def pool (es : List (Nat × CpInfo)) (last : Nat) : Array CpInfo := ⟨poolList es last⟩
def fileOf (pool : Array CpInfo) (this : Nat) (attrs : Array Attribute := #[]) (ms : Array MethodInfo := #[]) (fl : Nat := 33) (sup : Nat := 0) (ifs : Array Nat := #[]) (fds : Array FieldInfo := #[]) : ClassFile where
  minorVersion := 0
  majorVersion := 65
  constantPool := pool
  accessFlags := fl
  thisClass := this
  superClass := sup
  interfaces := ifs
  fields := fds
  methods := ms
  attributes := attrs
def plain (name : String) (sup : Option ClassId) : Class where
  name := name
  kind := .ordinary
  loader := none
  accessFlags := 33
  super := sup
  interfaces := #[]
  cf := none
  fields := #[]
  methods := #[]
  instanceTypes := #[]
  staticTypes := #[]
  resolved := #[]
  callSites := []
  init := .initialized
  statics := none
  mirror := none

def pool0 : Array CpInfo := pool [(5, u "<init>"), (0, u "()V"), (1, .class_ 10), (1, u "java/lang/Object")] 113

def k0c0 : Code := { maxStack := 0, maxLocals := 1, code := object_method_1_code, exceptionTable := #[], attributes := #[] }
def k0m0 : Method := { name := "<init>", desc := "()V", sig := { parameters := [], returnType := none }, accessFlags := 1, code := some k0c0 }
/-- java/lang/Object -/
def k0 : Class := { plain "java/lang/Object" none with
  accessFlags := 33
  interfaces := #[]
  cf := some (fileOf pool0 8 #[] #[{ accessFlags := 1, nameIndex := 5, descriptorIndex := 6, attributes := #[] }] 33 0 #[] #[])
  fields := #[]
  methods := #[k0m0]
  instanceTypes := #[]
  staticTypes := #[]
  resolved := Array.replicate 124 none
  statics := none }

def pool1 : Array CpInfo := pool [(2, .class_ 4), (1, u "java/lang/Object"), (0, u "<init>"), (0, u "()V"), (0, .long 1023), (1, .long 32768), (1, .long 1048575), (1, .long 9223372036854775807), (1, .long 127), (1, .long 128), (1, .integer 2147483647), (0, .class_ 21), (0, u "com/example/parley/parley/core/KeyTable"), (0, .methodref 20 23), (0, .nameAndType 5 24), (0, u "(JZ)V"), (0, .methodref 20 26), (0, .nameAndType 27 28), (0, u "mark"), (0, u "(JI)V"), (0, .methodref 20 30), (0, .nameAndType 31 32), (0, u "pages"), (0, u "()I"), (0, .methodref 20 34), (0, .nameAndType 35 36), (0, u "holds"), (0, u "(J)Z"), (0, .methodref 20 38), (0, .nameAndType 39 40), (0, u "number"), (0, u "(J)I"), (0, .class_ 42), (0, u "com/example/parley/parley/core/KeyTableMarkPinLaw"), (2, u "law"), (0, u "(JJJIII)Z")] 3

def k1m0 : Method := { name := "<init>", desc := "()V", sig := { parameters := [], returnType := none }, accessFlags := 1, code := none }
def k1c1 : Code := { maxStack := 6, maxLocals := 26, code := code, exceptionTable := #[], attributes := #[] }
def k1m1 : Method := { name := "law", desc := "(JJJIII)Z", sig := { parameters := [.long, .long, .long, .int, .int, .int], returnType := some .boolean }, accessFlags := 9, code := some k1c1 }
/-- com/example/parley/parley/core/KeyTableMarkPinLaw -/
def k1 : Class := { plain "com/example/parley/parley/core/KeyTableMarkPinLaw" (some 0) with
  accessFlags := 49
  interfaces := #[]
  cf := some (fileOf pool1 41 #[] #[{ accessFlags := 1, nameIndex := 5, descriptorIndex := 6, attributes := #[] }, { accessFlags := 9, nameIndex := 45, descriptorIndex := 46, attributes := #[] }] 49 2 #[] #[])
  fields := #[]
  methods := #[k1m0, k1m1]
  instanceTypes := #[]
  staticTypes := #[]
  resolved := Array.replicate 50 none
  statics := none }

def pool2 : Array CpInfo := pool [(1, .methodref 2 3), (0, .class_ 4), (0, .nameAndType 5 6), (0, u "java/lang/Object"), (0, u "<init>"), (0, u "()V"), (0, .fieldref 8 9), (0, .class_ 10), (0, .nameAndType 11 12), (0, u "com/example/parley/parley/core/KeyTable"), (0, u "numbered"), (0, u "Z"), (0, .methodref 8 14), (0, .nameAndType 15 16), (0, u "pageShift"), (0, u "(JZ)I"), (0, .fieldref 8 18), (0, .nameAndType 15 19), (0, u "I"), (0, .fieldref 8 21), (0, .nameAndType 22 19), (0, u "pageKeys"), (0, .methodref 8 24), (0, .nameAndType 25 26), (0, u "wordsOf"), (0, u "(J)I"), (0, .fieldref 8 28), (0, .nameAndType 29 19), (0, u "pageWords"), (0, .methodref 8 31), (0, .nameAndType 32 16), (0, u "pageCount"), (0, .class_ 34), (0, u "[J"), (0, .fieldref 8 36), (0, .nameAndType 37 38), (0, u "bits"), (0, u "[[J"), (0, .class_ 40), (0, u "[I"), (0, .fieldref 8 42), (0, .nameAndType 43 44), (0, u "numbers"), (0, u "[[I"), (2, .class_ 48), (0, u "java/lang/Integer"), (2, .integer 32768), (0, .class_ 53), (0, u "java/lang/Long"), (0, .methodref 52 55), (0, .nameAndType 56 26), (0, u "numberOfLeadingZeros"), (0, .methodref 47 58), (0, .nameAndType 59 60), (0, u "numberOfTrailingZeros"), (0, u "(I)I"), (0, .methodref 62 63), (0, .class_ 64), (0, .nameAndType 65 66), (0, u "java/lang/Math"), (0, u "min"), (0, u "(II)I"), (6, .methodref 62 74), (0, .nameAndType 75 76), (0, u "max"), (0, u "(JJ)J"), (0, .fieldref 8 78), (0, .nameAndType 79 19), (0, u "madePages"), (4, u "PAGE_BYTES"), (2, u "MOST_PAGES"), (1, u "HEADER_BYTES"), (1, u "REFERENCE_BYTES"), (1, u "(JZ)V"), (9, u "holds"), (0, u "(J)Z"), (0, u "number"), (0, u "pages"), (0, u "()I"), (2, u "mark"), (0, u "(JI)V"), (3, .class_ 116), (0, u "com/example/parley/parley/core/KeyTable$Tally")] 2

def k2c0 : Code := { maxStack := 4, maxLocals := 5, code := prog_121_method_1_code, exceptionTable := #[], attributes := #[] }
def k2m0 : Method := { name := "<init>", desc := "(JZ)V", sig := { parameters := [.long, .boolean], returnType := none }, accessFlags := 0, code := some k2c0 }
def k2c1 : Code := { maxStack := 5, maxLocals := 5, code := prog_121_method_3_code, exceptionTable := #[], attributes := #[] }
def k2m1 : Method := { name := "pageShift", desc := "(JZ)I", sig := { parameters := [.long, .boolean], returnType := some .int }, accessFlags := 10, code := some k2c1 }
def k2c2 : Code := { maxStack := 5, maxLocals := 4, code := prog_121_method_4_code, exceptionTable := #[], attributes := #[] }
def k2m2 : Method := { name := "pageCount", desc := "(JZ)I", sig := { parameters := [.long, .boolean], returnType := some .int }, accessFlags := 10, code := some k2c2 }
def k2c3 : Code := { maxStack := 5, maxLocals := 2, code := prog_121_method_6_code, exceptionTable := #[], attributes := #[] }
def k2m3 : Method := { name := "wordsOf", desc := "(J)I", sig := { parameters := [.long], returnType := some .int }, accessFlags := 10, code := some k2c3 }
def k2c4 : Code := { maxStack := 5, maxLocals := 6, code := prog_121_method_7_code, exceptionTable := #[], attributes := #[] }
def k2m4 : Method := { name := "holds", desc := "(J)Z", sig := { parameters := [.long], returnType := some .boolean }, accessFlags := 0, code := some k2c4 }
def k2c5 : Code := { maxStack := 4, maxLocals := 3, code := prog_121_method_8_code, exceptionTable := #[], attributes := #[] }
def k2m5 : Method := { name := "number", desc := "(J)I", sig := { parameters := [.long], returnType := some .int }, accessFlags := 0, code := some k2c5 }
def k2c6 : Code := { maxStack := 1, maxLocals := 1, code := prog_121_method_9_code, exceptionTable := #[], attributes := #[] }
def k2m6 : Method := { name := "pages", desc := "()I", sig := { parameters := [], returnType := some .int }, accessFlags := 0, code := some k2c6 }
def k2c7 : Code := { maxStack := 7, maxLocals := 6, code := prog_121_method_11_code, exceptionTable := #[], attributes := #[] }
def k2m7 : Method := { name := "mark", desc := "(JI)V", sig := { parameters := [.long, .int], returnType := none }, accessFlags := 0, code := some k2c7 }
/-- com/example/parley/parley/core/KeyTable -/
def k2 : Class := { plain "com/example/parley/parley/core/KeyTable" (some 0) with
  accessFlags := 48
  interfaces := #[]
  cf := some (fileOf pool2 8 #[.nestMembers #[115]] #[{ accessFlags := 0, nameIndex := 5, descriptorIndex := 93, attributes := #[] }, { accessFlags := 10, nameIndex := 15, descriptorIndex := 16, attributes := #[] }, { accessFlags := 10, nameIndex := 32, descriptorIndex := 16, attributes := #[] }, { accessFlags := 10, nameIndex := 25, descriptorIndex := 26, attributes := #[] }, { accessFlags := 0, nameIndex := 103, descriptorIndex := 104, attributes := #[] }, { accessFlags := 0, nameIndex := 105, descriptorIndex := 26, attributes := #[] }, { accessFlags := 0, nameIndex := 106, descriptorIndex := 107, attributes := #[] }, { accessFlags := 0, nameIndex := 110, descriptorIndex := 111, attributes := #[] }] 48 2 #[] #[{ accessFlags := 26, nameIndex := 84, descriptorIndex := 19, attributes := #[] }, { accessFlags := 26, nameIndex := 87, descriptorIndex := 19, attributes := #[] }, { accessFlags := 26, nameIndex := 89, descriptorIndex := 19, attributes := #[] }, { accessFlags := 26, nameIndex := 91, descriptorIndex := 19, attributes := #[] }, { accessFlags := 18, nameIndex := 11, descriptorIndex := 12, attributes := #[] }, { accessFlags := 18, nameIndex := 22, descriptorIndex := 19, attributes := #[] }, { accessFlags := 18, nameIndex := 15, descriptorIndex := 19, attributes := #[] }, { accessFlags := 18, nameIndex := 29, descriptorIndex := 19, attributes := #[] }, { accessFlags := 18, nameIndex := 37, descriptorIndex := 38, attributes := #[] }, { accessFlags := 18, nameIndex := 43, descriptorIndex := 44, attributes := #[] }, { accessFlags := 2, nameIndex := 79, descriptorIndex := 19, attributes := #[] }])
  fields := #[{ name := "PAGE_BYTES", type := .int, accessFlags := 26, slot := 0, constantValue := 0 }, { name := "MOST_PAGES", type := .int, accessFlags := 26, slot := 1, constantValue := 0 }, { name := "HEADER_BYTES", type := .int, accessFlags := 26, slot := 2, constantValue := 0 }, { name := "REFERENCE_BYTES", type := .int, accessFlags := 26, slot := 3, constantValue := 0 }, { name := "numbered", type := .boolean, accessFlags := 18, slot := 0, constantValue := 0 }, { name := "pageKeys", type := .int, accessFlags := 18, slot := 1, constantValue := 0 }, { name := "pageShift", type := .int, accessFlags := 18, slot := 2, constantValue := 0 }, { name := "pageWords", type := .int, accessFlags := 18, slot := 3, constantValue := 0 }, { name := "bits", type := (.array (.array .long)), accessFlags := 18, slot := 4, constantValue := 0 }, { name := "numbers", type := (.array (.array .int)), accessFlags := 18, slot := 5, constantValue := 0 }, { name := "madePages", type := .int, accessFlags := 2, slot := 6, constantValue := 0 }]
  methods := #[k2m0, k2m1, k2m2, k2m3, k2m4, k2m5, k2m6, k2m7]
  instanceTypes := #[.boolean, .int, .int, .int, (.array (.array .long)), (.array (.array .int)), .int]
  staticTypes := #[.int, .int, .int, .int]
  resolved := Array.replicate 119 none
  statics := none }

def pool3 : Array CpInfo := pool [(1, .class_ 2), (0, u "java/io/Serializable"), (0, .class_ 4), (0, u "java/lang/Object")] 2

/-- java/io/Serializable -/
def k3 : Class := { plain "java/io/Serializable" (some 0) with
  accessFlags := 1537
  interfaces := #[]
  cf := some (fileOf pool3 1 #[] #[] 1537 3 #[] #[])
  fields := #[]
  methods := #[]
  instanceTypes := #[]
  staticTypes := #[]
  resolved := Array.replicate 7 none
  statics := none }

def pool4 : Array CpInfo := pool [(2, .class_ 4), (1, u "java/lang/Object"), (0, u "<init>"), (0, u "()V"), (1, .class_ 10), (1, u "java/lang/Number"), (2, .class_ 14), (0, u "java/io/Serializable"), (0, u "serialVersionUID"), (0, u "J")] 20

def k4m0 : Method := { name := "<init>", desc := "()V", sig := { parameters := [], returnType := none }, accessFlags := 1, code := none }
/-- java/lang/Number -/
def k4 : Class := { plain "java/lang/Number" (some 0) with
  accessFlags := 1057
  interfaces := #[3]
  cf := some (fileOf pool4 8 #[] #[{ accessFlags := 1, nameIndex := 5, descriptorIndex := 6, attributes := #[] }] 1057 2 #[13] #[{ accessFlags := 26, nameIndex := 15, descriptorIndex := 16, attributes := #[] }])
  fields := #[{ name := "serialVersionUID", type := .long, accessFlags := 26, slot := 0, constantValue := 0 }]
  methods := #[k4m0]
  instanceTypes := #[]
  staticTypes := #[.long]
  resolved := Array.replicate 37 none
  statics := none }

def pool5 : Array CpInfo := pool [(1, .class_ 2), (0, u "java/lang/Comparable"), (0, .class_ 4), (0, u "java/lang/Object")] 7

/-- java/lang/Comparable -/
def k5 : Class := { plain "java/lang/Comparable" (some 0) with
  accessFlags := 1537
  interfaces := #[]
  cf := some (fileOf pool5 1 #[] #[] 1537 3 #[] #[])
  fields := #[]
  methods := #[]
  instanceTypes := #[]
  staticTypes := #[]
  resolved := Array.replicate 12 none
  statics := none }

def pool6 : Array CpInfo := pool [(1, .class_ 2), (0, u "java/lang/constant/Constable"), (0, .class_ 4), (0, u "java/lang/Object")] 6

/-- java/lang/constant/Constable -/
def k6 : Class := { plain "java/lang/constant/Constable" (some 0) with
  accessFlags := 1537
  interfaces := #[]
  cf := some (fileOf pool6 1 #[] #[] 1537 3 #[] #[])
  fields := #[]
  methods := #[]
  instanceTypes := #[]
  staticTypes := #[]
  resolved := Array.replicate 11 none
  statics := none }

def pool7 : Array CpInfo := pool [(1, .class_ 2), (0, u "java/lang/constant/ConstantDesc"), (0, .class_ 4), (0, u "java/lang/Object")] 32

/-- java/lang/constant/ConstantDesc -/
def k7 : Class := { plain "java/lang/constant/ConstantDesc" (some 0) with
  accessFlags := 1537
  interfaces := #[]
  cf := some (fileOf pool7 1 #[] #[] 1537 3 #[] #[])
  fields := #[]
  methods := #[]
  instanceTypes := #[]
  staticTypes := #[]
  resolved := Array.replicate 37 none
  statics := none }

def pool8 : Array CpInfo := pool [(1, .class_ 2), (0, u "java/lang/Long"), (15, .class_ 20), (1, u "java/lang/Integer"), (79, u "numberOfLeadingZeros"), (0, u "(J)I"), (133, .class_ 237), (1, u "java/lang/Long$LongCache"), (33, .class_ 272), (0, u "java/lang/Number"), (2, u "value"), (0, u "J"), (31, .methodref 18 309), (0, .nameAndType 100 310), (0, u "(I)I"), (50, u "TYPE"), (0, u "Ljava/lang/Class;"), (0, .class_ 364), (0, u "java/lang/Comparable"), (0, .class_ 366), (0, u "java/lang/constant/Constable"), (0, .class_ 368), (0, u "java/lang/constant/ConstantDesc"), (0, u "MIN_VALUE"), (1, u "MAX_VALUE"), (4, u "SIZE"), (0, u "I"), (1, u "BYTES"), (1, u "serialVersionUID")] 142

def k8c0 : Code := { maxStack := 3, maxLocals := 3, code := jdk_35_method_48_code, exceptionTable := #[], attributes := #[] }
def k8m0 : Method := { name := "numberOfLeadingZeros", desc := "(J)I", sig := { parameters := [.long], returnType := some .int }, accessFlags := 9, code := some k8c0 }
/-- java/lang/Long -/
def k8 : Class := { plain "java/lang/Long" (some 4) with
  accessFlags := 49
  interfaces := #[5, 6, 7]
  cf := some (fileOf pool8 1 #[.nestMembers #[235]] #[{ accessFlags := 9, nameIndex := 100, descriptorIndex := 101, attributes := #[] }] 49 271 #[363, 365, 367] #[{ accessFlags := 25, nameIndex := 369, descriptorIndex := 276, attributes := #[] }, { accessFlags := 25, nameIndex := 371, descriptorIndex := 276, attributes := #[] }, { accessFlags := 25, nameIndex := 361, descriptorIndex := 362, attributes := #[] }, { accessFlags := 18, nameIndex := 275, descriptorIndex := 276, attributes := #[] }, { accessFlags := 25, nameIndex := 376, descriptorIndex := 377, attributes := #[] }, { accessFlags := 25, nameIndex := 379, descriptorIndex := 377, attributes := #[] }, { accessFlags := 26, nameIndex := 381, descriptorIndex := 276, attributes := #[] }])
  fields := #[{ name := "MIN_VALUE", type := .long, accessFlags := 25, slot := 0, constantValue := 0 }, { name := "MAX_VALUE", type := .long, accessFlags := 25, slot := 1, constantValue := 0 }, { name := "TYPE", type := (.object "java/lang/Class"), accessFlags := 25, slot := 2, constantValue := 0 }, { name := "value", type := .long, accessFlags := 18, slot := 0, constantValue := 0 }, { name := "SIZE", type := .int, accessFlags := 25, slot := 3, constantValue := 0 }, { name := "BYTES", type := .int, accessFlags := 25, slot := 4, constantValue := 0 }, { name := "serialVersionUID", type := .long, accessFlags := 26, slot := 5, constantValue := 0 }]
  methods := #[k8m0]
  instanceTypes := #[.long]
  staticTypes := #[.long, .long, (.object "java/lang/Class"), .int, .int, .long]
  resolved := Array.replicate 524 none
  statics := none }

def pool9 : Array CpInfo := pool [(1, .class_ 2), (0, u "java/lang/Integer"), (16, u "digits"), (0, u "[C"), (32, u "numberOfLeadingZeros"), (0, u "(I)I"), (30, u "DigitOnes"), (0, u "[B"), (2, u "DigitTens"), (99, .class_ 190), (0, u "java/lang/Integer$IntegerCache"), (3, u "I"), (8, .class_ 204), (0, u "java/lang/Number"), (2, u "value"), (56, .integer 65536), (37, u "TYPE"), (0, u "Ljava/lang/Class;"), (0, .class_ 305), (0, u "java/lang/Comparable"), (0, .class_ 307), (0, u "java/lang/constant/Constable"), (0, .class_ 309), (0, u "java/lang/constant/ConstantDesc"), (0, u "MIN_VALUE"), (1, u "MAX_VALUE"), (3, u "SIZE"), (1, u "BYTES"), (1, u "serialVersionUID"), (0, u "J"), (84, u "numberOfTrailingZeros")] 46

def k9c0 : Code := { maxStack := 3, maxLocals := 2, code := jdk_33_method_47_code, exceptionTable := #[], attributes := #[] }
def k9m0 : Method := { name := "numberOfLeadingZeros", desc := "(I)I", sig := { parameters := [.int], returnType := some .int }, accessFlags := 9, code := some k9c0 }
def k9c1 : Code := { maxStack := 3, maxLocals := 2, code := jdk_33_method_48_code, exceptionTable := #[], attributes := #[] }
def k9m1 : Method := { name := "numberOfTrailingZeros", desc := "(I)I", sig := { parameters := [.int], returnType := some .int }, accessFlags := 9, code := some k9c1 }
/-- java/lang/Integer -/
def k9 : Class := { plain "java/lang/Integer" (some 4) with
  accessFlags := 49
  interfaces := #[5, 6, 7]
  cf := some (fileOf pool9 1 #[.nestMembers #[189]] #[{ accessFlags := 9, nameIndex := 53, descriptorIndex := 54, attributes := #[] }, { accessFlags := 9, nameIndex := 406, descriptorIndex := 54, attributes := #[] }] 49 203 #[304, 306, 308] #[{ accessFlags := 25, nameIndex := 310, descriptorIndex := 194, attributes := #[] }, { accessFlags := 25, nameIndex := 312, descriptorIndex := 194, attributes := #[] }, { accessFlags := 25, nameIndex := 302, descriptorIndex := 303, attributes := #[] }, { accessFlags := 24, nameIndex := 19, descriptorIndex := 20, attributes := #[] }, { accessFlags := 24, nameIndex := 89, descriptorIndex := 86, attributes := #[] }, { accessFlags := 24, nameIndex := 85, descriptorIndex := 86, attributes := #[] }, { accessFlags := 18, nameIndex := 207, descriptorIndex := 194, attributes := #[] }, { accessFlags := 25, nameIndex := 316, descriptorIndex := 194, attributes := #[] }, { accessFlags := 25, nameIndex := 318, descriptorIndex := 194, attributes := #[] }, { accessFlags := 26, nameIndex := 320, descriptorIndex := 321, attributes := #[] }])
  fields := #[{ name := "MIN_VALUE", type := .int, accessFlags := 25, slot := 0, constantValue := 0 }, { name := "MAX_VALUE", type := .int, accessFlags := 25, slot := 1, constantValue := 0 }, { name := "TYPE", type := (.object "java/lang/Class"), accessFlags := 25, slot := 2, constantValue := 0 }, { name := "digits", type := (.array .char), accessFlags := 24, slot := 3, constantValue := 0 }, { name := "DigitTens", type := (.array .byte), accessFlags := 24, slot := 4, constantValue := 0 }, { name := "DigitOnes", type := (.array .byte), accessFlags := 24, slot := 5, constantValue := 0 }, { name := "value", type := .int, accessFlags := 18, slot := 0, constantValue := 0 }, { name := "SIZE", type := .int, accessFlags := 25, slot := 6, constantValue := 0 }, { name := "BYTES", type := .int, accessFlags := 25, slot := 7, constantValue := 0 }, { name := "serialVersionUID", type := .long, accessFlags := 26, slot := 8, constantValue := 0 }]
  methods := #[k9m0, k9m1]
  instanceTypes := #[.int]
  staticTypes := #[.int, .int, (.object "java/lang/Class"), (.array .char), (.array .byte), (.array .byte), .int, .int, .long]
  resolved := Array.replicate 453 none
  statics := none }

def pool10 : Array CpInfo := pool [(1, .class_ 2), (0, u "java/lang/Math"), (1, .class_ 6), (1, u "java/lang/Object"), (0, u "<init>"), (0, u "()V"), (89, .class_ 100), (1, u "java/lang/Math$RandomNumberGeneratorHolder"), (20, u "(JJ)J"), (50, u "negativeZeroFloatBits"), (0, u "J"), (2, u "negativeZeroDoubleBits"), (21, u "max"), (2, u "min"), (43, u "$assertionsDisabled"), (0, u "Z"), (88, u "(II)I"), (2, u "twoToTheDoubleScaleDown"), (0, u "D"), (4, u "twoToTheDoubleScaleUp"), (9, u "E"), (3, u "PI"), (2, u "TAU"), (2, u "DEGREES_TO_RADIANS"), (0, u "RADIANS_TO_DEGREES")] 94

def k10m0 : Method := { name := "<init>", desc := "()V", sig := { parameters := [], returnType := none }, accessFlags := 2, code := none }
def k10c1 : Code := { maxStack := 4, maxLocals := 4, code := jdk_29_method_66_code, exceptionTable := #[], attributes := #[] }
def k10m1 : Method := { name := "max", desc := "(JJ)J", sig := { parameters := [.long, .long], returnType := some .long }, accessFlags := 9, code := some k10c1 }
def k10c2 : Code := { maxStack := 2, maxLocals := 2, code := jdk_29_method_69_code, exceptionTable := #[], attributes := #[] }
def k10m2 : Method := { name := "min", desc := "(II)I", sig := { parameters := [.int, .int], returnType := some .int }, accessFlags := 9, code := some k10c2 }
/-- java/lang/Math -/
def k10 : Class := { plain "java/lang/Math" (some 0) with
  accessFlags := 49
  interfaces := #[]
  cf := some (fileOf pool10 1 #[.nestMembers #[98]] #[{ accessFlags := 2, nameIndex := 7, descriptorIndex := 8, attributes := #[] }, { accessFlags := 9, nameIndex := 198, descriptorIndex := 121, attributes := #[] }, { accessFlags := 9, nameIndex := 201, descriptorIndex := 335, attributes := #[] }] 49 4 #[] #[{ accessFlags := 25, nameIndex := 354, descriptorIndex := 339, attributes := #[] }, { accessFlags := 25, nameIndex := 358, descriptorIndex := 339, attributes := #[] }, { accessFlags := 25, nameIndex := 361, descriptorIndex := 339, attributes := #[] }, { accessFlags := 26, nameIndex := 364, descriptorIndex := 339, attributes := #[] }, { accessFlags := 26, nameIndex := 365, descriptorIndex := 339, attributes := #[] }, { accessFlags := 26, nameIndex := 172, descriptorIndex := 173, attributes := #[] }, { accessFlags := 26, nameIndex := 176, descriptorIndex := 173, attributes := #[] }, { accessFlags := 8, nameIndex := 344, descriptorIndex := 339, attributes := #[] }, { accessFlags := 8, nameIndex := 338, descriptorIndex := 339, attributes := #[] }, { accessFlags := 4120, nameIndex := 245, descriptorIndex := 246, attributes := #[] }])
  fields := #[{ name := "E", type := .double, accessFlags := 25, slot := 0, constantValue := 0 }, { name := "PI", type := .double, accessFlags := 25, slot := 1, constantValue := 0 }, { name := "TAU", type := .double, accessFlags := 25, slot := 2, constantValue := 0 }, { name := "DEGREES_TO_RADIANS", type := .double, accessFlags := 26, slot := 3, constantValue := 0 }, { name := "RADIANS_TO_DEGREES", type := .double, accessFlags := 26, slot := 4, constantValue := 0 }, { name := "negativeZeroFloatBits", type := .long, accessFlags := 26, slot := 5, constantValue := 0 }, { name := "negativeZeroDoubleBits", type := .long, accessFlags := 26, slot := 6, constantValue := 0 }, { name := "twoToTheDoubleScaleUp", type := .double, accessFlags := 8, slot := 7, constantValue := 0 }, { name := "twoToTheDoubleScaleDown", type := .double, accessFlags := 8, slot := 8, constantValue := 0 }, { name := "$assertionsDisabled", type := .boolean, accessFlags := 4120, slot := 9, constantValue := 0 }]
  methods := #[k10m0, k10m1, k10m2]
  instanceTypes := #[]
  staticTypes := #[.double, .double, .double, .double, .double, .long, .long, .double, .double, .boolean]
  resolved := Array.replicate 460 none
  statics := none }

def pool11 : Array CpInfo := pool [(1, u "java/lang/Cloneable"), (0, .class_ 1), (0, u "java/lang/Object"), (0, .class_ 3)] 3

/-- java/lang/Cloneable -/
def k11 : Class := { plain "java/lang/Cloneable" (some 0) with
  accessFlags := 1537
  interfaces := #[]
  cf := some (fileOf pool11 2 #[] #[] 1537 4 #[] #[])
  fields := #[]
  methods := #[]
  instanceTypes := #[]
  staticTypes := #[]
  resolved := Array.replicate 8 none
  statics := none }

/-- the primitive byte -/
def k12 : Class := { plain "byte" none with kind := .primitive 'B', accessFlags := 0x411 }
/-- [B -/
def k13 : Class := { plain "[B" (some 0) with kind := .array 12 .byte, interfaces := #[11, 3], accessFlags := 1041 }

/-- the primitive int -/
def k14 : Class := { plain "int" none with kind := .primitive 'I', accessFlags := 0x411 }
/-- [I -/
def k15 : Class := { plain "[I" (some 0) with kind := .array 14 .int, interfaces := #[11, 3], accessFlags := 1041 }

/-- the primitive long -/
def k16 : Class := { plain "long" none with kind := .primitive 'J', accessFlags := 0x411 }
/-- [J -/
def k17 : Class := { plain "[J" (some 0) with kind := .array 16 .long, interfaces := #[11, 3], accessFlags := 1041 }

def heap : Heap := #[]
/-- [[I -/
def kII : Class := { plain "[[I" (some 0) with kind := .array 15 (.array .int), interfaces := #[11, 3], accessFlags := 1041 }
/-- [[J -/
def kJJ : Class := { plain "[[J" (some 0) with kind := .array 17 (.array .long), interfaces := #[11, 3], accessFlags := 1041 }
def classes : Array Class := #[k0, k1, k2, k3, k4, k5, k6, k7, k8, k9, k10, k11, k12, k13, k14, k15, k16, k17, kII, kJJ]
def interned : List (Array UInt16 × Addr) := []
def slotsUsed : Nat := 0
def theMethod : MethodId := ⟨1, 1⟩
def args0 : Array Value := #[.long 5, .long 6, .long 7, .int 8, .int 9, .int 7]
def aboutOver (below : List Frame) : State where
  vm := { classes := classes, interned := interned.toArray }
  heap := heap
  slotsUsed := slotsUsed
  threads := #[{ frames := .invoking theMethod args0 :: below }]
def below0 : List Frame := [.native { method := ⟨0, 0⟩, args := #[] }]
def about1 : State := aboutOver below0
def p0 : Program := .bare "" "" ""
def e0 : Env := launch0.env 0 0 0
theorem w_frames : about1.frames = Frame.invoking theMethod args0 :: below0 := rfl
set_option maxRecDepth 65536 in
theorem w_args : argsFit about1.vm theMethod args0 = true := by decide +kernel
set_option maxRecDepth 65536 in
theorem w_heap : heapFits about1 = true := by decide +kernel
set_option maxRecDepth 65536 in
theorem w_runnable : about1.curStatus? = some .runnable := by decide +kernel
set_option maxRecDepth 65536 in
theorem w_alone : about1.alone = true := by decide +kernel
set_option maxRecDepth 65536 in
theorem w_named : about1.methodNamed? x = some theMethod := by decide +kernel
set_option maxRecDepth 65536 in
theorem w_hears : about1.hears theMethod below0 = true := by decide +kernel
set_option maxRecDepth 65536 in
theorem w_ripe : about1.ripe theMethod args0 below0 = true := by decide +kernel
theorem w_running : about1.status = .running := rfl
set_option maxRecDepth 65536 in
theorem w_room : about1.hasRoom e0.platform room_1 = true :=
  launch0.hasRoom_least _ room_1 (by decide +kernel) (by decide +kernel) (by decide +kernel) (by decide +kernel) (by decide +kernel) (by decide +kernel)
theorem allAtoms_all (ts : List Jvm.Cond) (a : Array Jvm.Value) (st : Jvm.State) : (allAtoms ts).before a st = ts.all (fun c => c.before a st) := by
  induction ts with
  | nil => rfl
  | cons c t ih =>
    show (Jvm.Cond.and c (allAtoms t)).before a st = _
    rw [Jvm.Cond.before_and, ih, List.all_cons]
def words1 : List Jvm.Cond := Jvm.Cond.code x code maxLocals ret :: tables_1
/-- a 'code' word, met by the world's own term for the bytes: nothing is compared byte by byte -/
theorem code_word {y : MethodName} {bytes : ByteArray} {mx : Nat} {rt : Option FieldType} {a : Array Value} {s : State} {m : MethodId} {meth : Method} {c : Code} (h1 : s.methodNamed? y = some m) (h2 : s.vm.method? m = some meth) (h3 : meth.code = some c) (h4 : c.code = bytes)
    (h5 : (c.maxLocals == mx && c.exceptionTable.isEmpty && decide (c.maxStack ≤ mostOperands) && decide (meth.sig.returnType = rt) && !meth.locks && decide (parseMethodDescriptor y.desc = some meth.sig)) = true) : (Jvm.Cond.code y bytes mx rt).before a s = true := by
  simp only [Bool.and_eq_true, beq_iff_eq, Bool.not_eq_true', decide_eq_true_eq] at h5
  obtain ⟨⟨⟨⟨⟨g1, g2⟩, g3⟩, g4⟩, g5⟩, g6⟩ := h5
  simp [Cond.before, Cond.holds, Cond.value, h1, h2, h3, h4, g1, g2, g3, g4, g5, g6]
def isCode : Jvm.Cond → Bool
  | .code _ _ _ _ => true
  | _ => false
theorem all_split {L : List Jvm.Cond} {P : Jvm.Cond → Bool} (h1 : L.all (fun c => isCode c || P c) = true) (h2 : ∀ c ∈ L.filter isCode, P c = true) : L.all P = true := by
  refine List.all_eq_true.mpr fun c hc => ?_
  have h := List.all_eq_true.mp h1 c hc
  rcases Bool.eq_false_or_eq_true (isCode c) with hi | hi
  · exact h2 c (List.mem_filter.mpr ⟨hc, hi⟩)
  · simpa [hi] using h
set_option maxRecDepth 65536 in
theorem w_c0 : (Jvm.Cond.code x code maxLocals ret).before args0 about1 = true := code_word (m := ⟨1, 1⟩) (meth := k1m1) (c := k1c1) (by decide +kernel) rfl rfl rfl (by decide +kernel)
set_option maxRecDepth 65536 in
theorem w_c1 : (Jvm.Cond.code ({ cls := "com/example/parley/parley/core/KeyTable", name := "<init>", desc := "(JZ)V" } : Jvm.MethodName) prog_121_method_1_code (5 : Nat) (Option.none : Option Jvm.ClassFile.FieldType)).before args0 about1 = true := code_word (m := ⟨2, 0⟩) (meth := k2m0) (c := k2c0) (by decide +kernel) rfl rfl rfl (by decide +kernel)
set_option maxRecDepth 65536 in
theorem w_c2 : (Jvm.Cond.code ({ cls := "java/lang/Object", name := "<init>", desc := "()V" } : Jvm.MethodName) object_method_1_code (1 : Nat) (Option.none : Option Jvm.ClassFile.FieldType)).before args0 about1 = true := code_word (m := ⟨0, 0⟩) (meth := k0m0) (c := k0c0) (by decide +kernel) rfl rfl rfl (by decide +kernel)
set_option maxRecDepth 65536 in
theorem w_c3 : (Jvm.Cond.code ({ cls := "com/example/parley/parley/core/KeyTable", name := "pageShift", desc := "(JZ)I" } : Jvm.MethodName) prog_121_method_3_code (5 : Nat) (Option.some Jvm.ClassFile.FieldType.int)).before args0 about1 = true := code_word (m := ⟨2, 1⟩) (meth := k2m1) (c := k2c1) (by decide +kernel) rfl rfl rfl (by decide +kernel)
set_option maxRecDepth 65536 in
theorem w_c4 : (Jvm.Cond.code ({ cls := "java/lang/Long", name := "numberOfLeadingZeros", desc := "(J)I" } : Jvm.MethodName) jdk_35_method_48_code (3 : Nat) (Option.some Jvm.ClassFile.FieldType.int)).before args0 about1 = true := code_word (m := ⟨8, 0⟩) (meth := k8m0) (c := k8c0) (by decide +kernel) rfl rfl rfl (by decide +kernel)
set_option maxRecDepth 65536 in
theorem w_c5 : (Jvm.Cond.code ({ cls := "java/lang/Integer", name := "numberOfLeadingZeros", desc := "(I)I" } : Jvm.MethodName) jdk_33_method_47_code (2 : Nat) (Option.some Jvm.ClassFile.FieldType.int)).before args0 about1 = true := code_word (m := ⟨9, 0⟩) (meth := k9m0) (c := k9c0) (by decide +kernel) rfl rfl rfl (by decide +kernel)
set_option maxRecDepth 65536 in
theorem w_c6 : (Jvm.Cond.code ({ cls := "java/lang/Integer", name := "numberOfTrailingZeros", desc := "(I)I" } : Jvm.MethodName) jdk_33_method_48_code (2 : Nat) (Option.some Jvm.ClassFile.FieldType.int)).before args0 about1 = true := code_word (m := ⟨9, 1⟩) (meth := k9m1) (c := k9c1) (by decide +kernel) rfl rfl rfl (by decide +kernel)
set_option maxRecDepth 65536 in
theorem w_c7 : (Jvm.Cond.code ({ cls := "java/lang/Math", name := "min", desc := "(II)I" } : Jvm.MethodName) jdk_29_method_69_code (2 : Nat) (Option.some Jvm.ClassFile.FieldType.int)).before args0 about1 = true := code_word (m := ⟨10, 2⟩) (meth := k10m2) (c := k10c2) (by decide +kernel) rfl rfl rfl (by decide +kernel)
set_option maxRecDepth 65536 in
theorem w_c8 : (Jvm.Cond.code ({ cls := "com/example/parley/parley/core/KeyTable", name := "wordsOf", desc := "(J)I" } : Jvm.MethodName) prog_121_method_6_code (2 : Nat) (Option.some Jvm.ClassFile.FieldType.int)).before args0 about1 = true := code_word (m := ⟨2, 3⟩) (meth := k2m3) (c := k2c3) (by decide +kernel) rfl rfl rfl (by decide +kernel)
set_option maxRecDepth 65536 in
theorem w_c9 : (Jvm.Cond.code ({ cls := "java/lang/Math", name := "max", desc := "(JJ)J" } : Jvm.MethodName) jdk_29_method_66_code (4 : Nat) (Option.some Jvm.ClassFile.FieldType.long)).before args0 about1 = true := code_word (m := ⟨10, 1⟩) (meth := k10m1) (c := k10c1) (by decide +kernel) rfl rfl rfl (by decide +kernel)
set_option maxRecDepth 65536 in
theorem w_c10 : (Jvm.Cond.code ({ cls := "com/example/parley/parley/core/KeyTable", name := "pageCount", desc := "(JZ)I" } : Jvm.MethodName) prog_121_method_4_code (4 : Nat) (Option.some Jvm.ClassFile.FieldType.int)).before args0 about1 = true := code_word (m := ⟨2, 2⟩) (meth := k2m2) (c := k2c2) (by decide +kernel) rfl rfl rfl (by decide +kernel)
set_option maxRecDepth 65536 in
theorem w_c11 : (Jvm.Cond.code ({ cls := "com/example/parley/parley/core/KeyTable", name := "mark", desc := "(JI)V" } : Jvm.MethodName) prog_121_method_11_code (6 : Nat) (Option.none : Option Jvm.ClassFile.FieldType)).before args0 about1 = true := code_word (m := ⟨2, 7⟩) (meth := k2m7) (c := k2c7) (by decide +kernel) rfl rfl rfl (by decide +kernel)
set_option maxRecDepth 65536 in
theorem w_c12 : (Jvm.Cond.code ({ cls := "com/example/parley/parley/core/KeyTable", name := "pages", desc := "()I" } : Jvm.MethodName) prog_121_method_9_code (1 : Nat) (Option.some Jvm.ClassFile.FieldType.int)).before args0 about1 = true := code_word (m := ⟨2, 6⟩) (meth := k2m6) (c := k2c6) (by decide +kernel) rfl rfl rfl (by decide +kernel)
set_option maxRecDepth 65536 in
theorem w_c13 : (Jvm.Cond.code ({ cls := "com/example/parley/parley/core/KeyTable", name := "holds", desc := "(J)Z" } : Jvm.MethodName) prog_121_method_7_code (6 : Nat) (Option.some Jvm.ClassFile.FieldType.boolean)).before args0 about1 = true := code_word (m := ⟨2, 4⟩) (meth := k2m4) (c := k2c4) (by decide +kernel) rfl rfl rfl (by decide +kernel)
set_option maxRecDepth 65536 in
theorem w_c14 : (Jvm.Cond.code ({ cls := "com/example/parley/parley/core/KeyTable", name := "number", desc := "(J)I" } : Jvm.MethodName) prog_121_method_8_code (3 : Nat) (Option.some Jvm.ClassFile.FieldType.int)).before args0 about1 = true := code_word (m := ⟨2, 5⟩) (meth := k2m5) (c := k2c5) (by decide +kernel) rfl rfl rfl (by decide +kernel)
def codes1 : List Jvm.Cond := [Jvm.Cond.code x code maxLocals ret, Jvm.Cond.code ({ cls := "com/example/parley/parley/core/KeyTable", name := "<init>", desc := "(JZ)V" } : Jvm.MethodName) prog_121_method_1_code (5 : Nat) (Option.none : Option Jvm.ClassFile.FieldType), Jvm.Cond.code ({ cls := "java/lang/Object", name := "<init>", desc := "()V" } : Jvm.MethodName) object_method_1_code (1 : Nat) (Option.none : Option Jvm.ClassFile.FieldType), Jvm.Cond.code ({ cls := "com/example/parley/parley/core/KeyTable", name := "pageShift", desc := "(JZ)I" } : Jvm.MethodName) prog_121_method_3_code (5 : Nat) (Option.some Jvm.ClassFile.FieldType.int), Jvm.Cond.code ({ cls := "java/lang/Long", name := "numberOfLeadingZeros", desc := "(J)I" } : Jvm.MethodName) jdk_35_method_48_code (3 : Nat) (Option.some Jvm.ClassFile.FieldType.int), Jvm.Cond.code ({ cls := "java/lang/Integer", name := "numberOfLeadingZeros", desc := "(I)I" } : Jvm.MethodName) jdk_33_method_47_code (2 : Nat) (Option.some Jvm.ClassFile.FieldType.int), Jvm.Cond.code ({ cls := "java/lang/Integer", name := "numberOfTrailingZeros", desc := "(I)I" } : Jvm.MethodName) jdk_33_method_48_code (2 : Nat) (Option.some Jvm.ClassFile.FieldType.int), Jvm.Cond.code ({ cls := "java/lang/Math", name := "min", desc := "(II)I" } : Jvm.MethodName) jdk_29_method_69_code (2 : Nat) (Option.some Jvm.ClassFile.FieldType.int), Jvm.Cond.code ({ cls := "com/example/parley/parley/core/KeyTable", name := "wordsOf", desc := "(J)I" } : Jvm.MethodName) prog_121_method_6_code (2 : Nat) (Option.some Jvm.ClassFile.FieldType.int), Jvm.Cond.code ({ cls := "java/lang/Math", name := "max", desc := "(JJ)J" } : Jvm.MethodName) jdk_29_method_66_code (4 : Nat) (Option.some Jvm.ClassFile.FieldType.long), Jvm.Cond.code ({ cls := "com/example/parley/parley/core/KeyTable", name := "pageCount", desc := "(JZ)I" } : Jvm.MethodName) prog_121_method_4_code (4 : Nat) (Option.some Jvm.ClassFile.FieldType.int), Jvm.Cond.code ({ cls := "com/example/parley/parley/core/KeyTable", name := "mark", desc := "(JI)V" } : Jvm.MethodName) prog_121_method_11_code (6 : Nat) (Option.none : Option Jvm.ClassFile.FieldType), Jvm.Cond.code ({ cls := "com/example/parley/parley/core/KeyTable", name := "pages", desc := "()I" } : Jvm.MethodName) prog_121_method_9_code (1 : Nat) (Option.some Jvm.ClassFile.FieldType.int), Jvm.Cond.code ({ cls := "com/example/parley/parley/core/KeyTable", name := "holds", desc := "(J)Z" } : Jvm.MethodName) prog_121_method_7_code (6 : Nat) (Option.some Jvm.ClassFile.FieldType.boolean), Jvm.Cond.code ({ cls := "com/example/parley/parley/core/KeyTable", name := "number", desc := "(J)I" } : Jvm.MethodName) prog_121_method_8_code (3 : Nat) (Option.some Jvm.ClassFile.FieldType.int)]
set_option maxRecDepth 65536 in
theorem codes_eq : words1.filter isCode = codes1 := rfl
theorem w_codes : ∀ c ∈ words1.filter isCode, c.before args0 about1 = true := by
  rw [codes_eq]
  intro c hc
  simp only [codes1, List.mem_cons, List.not_mem_nil, or_false] at hc
  rcases hc with rfl | rfl | rfl | rfl | rfl | rfl | rfl | rfl | rfl | rfl | rfl | rfl | rfl | rfl | rfl
  · exact w_c0
  · exact w_c1
  · exact w_c2
  · exact w_c3
  · exact w_c4
  · exact w_c5
  · exact w_c6
  · exact w_c7
  · exact w_c8
  · exact w_c9
  · exact w_c10
  · exact w_c11
  · exact w_c12
  · exact w_c13
  · exact w_c14
set_option maxRecDepth 65536 in
theorem w_t1 : (words1.take 24).all (fun c => isCode c || c.before args0 about1) = true := by decide +kernel
set_option maxRecDepth 65536 in
theorem w_t2 : ((words1.drop 24).take 24).all (fun c => isCode c || c.before args0 about1) = true := by decide +kernel
set_option maxRecDepth 65536 in
theorem w_t3 : (((words1.drop 24).drop 24).take 24).all (fun c => isCode c || c.before args0 about1) = true := by decide +kernel
set_option maxRecDepth 65536 in
theorem w_t4 : (((words1.drop 24).drop 24).drop 24).all (fun c => isCode c || c.before args0 about1) = true := by decide +kernel
theorem w_tables : (allAtoms (Jvm.Cond.code x code maxLocals ret :: tables_1)).before args0 about1 = true := by
  rw [allAtoms_all]
  show words1.all (fun c => c.before args0 about1) = true
  refine all_split ?_ w_codes
  rw [← List.take_append_drop 24 words1, List.all_append, w_t1, ← List.take_append_drop 24 (words1.drop 24), List.all_append, w_t2, ← List.take_append_drop 24 ((words1.drop 24).drop 24), List.all_append, w_t3, w_t4]
  rfl
set_option maxRecDepth 65536 in
theorem w_case : (Jvm.Cond.and given_1 narrow_1).before args0 about1 = true := by decide +kernel
theorem w_applies : (headSpec (Jvm.Cond.code x code maxLocals ret :: tables_1) room_1).applies x e0.platform about1 = true :=
  (Spec.applies_iff w_frames).mpr ⟨w_running, w_runnable, w_alone, w_named, w_hears, w_ripe, w_room, w_tables⟩
theorem atStart : AtStart classFile x code maxLocals ret World_1 tables_1 room_1 Calls_1 rest_1 Pre_1 launch0 p0 e0 about1 theMethod args0 below0 :=
  ⟨lists_1, trivial, launch0.admits_env _ _ _, launch0.least_env, fairChoices_fair.cas, fairChoices_fair.clock, w_frames, w_args, w_heap, w_applies, trivial, trivial, w_case⟩
end start1
theorem witness_1 : WitnessClaimed_1 := ⟨start1.p0, start1.e0, start1.about1, start1.theMethod, start1.args0, start1.below0, start1.atStart⟩
end Jvm.Pilot.@@N@@
