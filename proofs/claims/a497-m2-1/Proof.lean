import JvmDerived
import JvmDerived.Pilot.@@N@@Statement
import JvmDerived.Pilot.@@N@@Code
set_option linter.unusedVariables false
set_option linter.unusedSimpArgs false
@@BLOCK:NumsL.lean.txt@@
namespace Jvm.RoadKit
open Sem ClassFile Op Lib Jvm.Stand Jvm.Free Jvm.LawKit
section New
variable {p : Program} {l : Launch} {e : Env} {R : Room} {s : State} {m : MethodId} {args : Array Value} {below : List Frame} {meth : Method} {c : Code} {T : State} {locs : List Loc} {cells slots : Nat}
theorem retI (X : Stand p l e R s m args below meth c T locs cells slots) (hx : p.tables.exec = Jvm.exec) {pc : Nat} {Ls : Array Slot} {z : Int32} {rest : List Value} (hret : meth.sig.returnType = some .int) (hd : decode c.code pc = .ok (.ireturn, 1)) {fs : List Frame}
    (hl : ∀ (f : JFrame) (acts : List Action), f.method = m → f.locked = none → f.entered = [] → (doReturn e (T.setTop f) acts (some (.int z))).1 = T.setFrames fs) : Steps p.tables e below (T.setTop (mkF m pc Ls (.int z :: rest))) (T.setFrames fs) :=
  retOut X hx hret rfl (Or.inl ⟨rfl, Or.inl rfl, _, rfl⟩) hd hl
theorem retL (X : Stand p l e R s m args below meth c T locs cells slots) (hx : p.tables.exec = Jvm.exec) {pc : Nat} {Ls : Array Slot} {z : Int64} {rest : List Value} (hret : meth.sig.returnType = some .long) (hd : decode c.code pc = .ok (.lreturn, 1)) {fs : List Frame}
    (hl : ∀ (f : JFrame) (acts : List Action), f.method = m → f.locked = none → f.entered = [] → (doReturn e (T.setTop f) acts (some (.long z))).1 = T.setFrames fs) : Steps p.tables e below (T.setTop (mkF m pc Ls (.long z :: rest))) (T.setFrames fs) :=
  retOut X hx hret rfl (Or.inr (Or.inl ⟨rfl, rfl, _, rfl⟩)) hd hl
theorem retA (X : Stand p l e R s m args below meth c T locs cells slots) (hx : p.tables.exec = Jvm.exec) {pc : Nat} {Ls : Array Slot} {z : Addr} {t : FieldType} {rest : List Value} (hret : meth.sig.returnType = some t) (ht : t.isReference = true) (hd : decode c.code pc = .ok (.areturn, 1)) {fs : List Frame}
    (hn : narrow t (.ref z) = .ref z) (hl : ∀ (f : JFrame) (acts : List Action), f.method = m → f.locked = none → f.entered = [] → (doReturn e (T.setTop f) acts (some (.ref z))).1 = T.setFrames fs) : Steps p.tables e below (T.setTop (mkF m pc Ls (.ref z :: rest))) (T.setFrames fs) :=
  retOut X hx hret hn (Or.inr (Or.inr (Or.inr (Or.inr ⟨rfl, ht, rfl⟩)))) hd hl
end New
end Jvm.RoadKit
namespace Jvm.Pilot.@@N@@
open Jvm Jvm.ClassFile Sem Op Lib Jvm.Free Jvm.Stand Jvm.LawKit Jvm.RoadKit Bundle Jvm.Pilot.@@N@@.Jvm.D
/-- the walk moves on: what runs from S' runs from S -/
theorem own_go {tb : Tables} {e : Env} {below : List Frame} {S S' : State} {P : State → Outcome → Prop} (h : ∀ t, Steps tb e below S' t → Steps tb e below S t)
    (k : ∃ s₂ o, Steps tb e below S' s₂ ∧ s₂.status = .running ∧ Ended s₂ below o ∧ P s₂ o) : ∃ s₂ o, Steps tb e below S s₂ ∧ s₂.status = .running ∧ Ended s₂ below o ∧ P s₂ o := by
  obtain ⟨s₂, o, h1, h2⟩ := k
  exact ⟨s₂, o, h _ h1, h2⟩
/-- Java's x >>> y on ints and on longs -/
def own_ushr (x y : Int32) : Int32 := (x.toUInt32 >>> (y &&& 31).toUInt32).toInt32
def own_ushrL (x : Int64) (y : Int32) : Int64 := (x.toUInt64 >>> (y &&& 0x3f).toInt64.toUInt64).toInt64
def own_shlL (x : Int64) (y : Int32) : Int64 := x <<< (y &&& 0x3f).toInt64
def own_shrL (x : Int64) (y : Int32) : Int64 := x >>> (y &&& 0x3f).toInt64
def own_shl (x y : Int32) : Int32 := x <<< (y &&& 31)
def own_shr (x y : Int32) : Int32 := x >>> (y &&& 31)
/-- an array by its places: ints (byte, char, short, boolean too), longs -/
def own_AI (Z : State) (h : Heap) (a : Addr) (ty : FieldType) (n : Nat) (g : Nat → Int32) : Prop := ∃ c : Cell, Arr Z h a c ty ∧ c.slots.size = n ∧ n < 2 ^ 31 ∧ ∀ i, i < n → c.slots[i]? = some (.int (g i))
def own_AJ (Z : State) (h : Heap) (a : Addr) (ty : FieldType) (n : Nat) (g : Nat → Int64) : Prop := ∃ c : Cell, Arr Z h a c ty ∧ c.slots.size = n ∧ n < 2 ^ 31 ∧ ∀ i, i < n → c.slots[i]? = some (.long (g i))
def own_AD (Z : State) (h : Heap) (a : Addr) (ty : FieldType) (n : Nat) (g : Nat → UInt64) : Prop := ∃ c : Cell, Arr Z h a c ty ∧ c.slots.size = n ∧ n < 2 ^ 31 ∧ ∀ i, i < n → c.slots[i]? = some (.double (g i))
def own_upd {α : Type} (g : Nat → α) (j : Nat) (v : α) : Nat → α := fun i => if i = j then v else g i
theorem own_upd_same {α : Type} (g : Nat → α) (j : Nat) (v : α) : own_upd g j v j = v := if_pos rfl
theorem own_upd_ne {α : Type} (g : Nat → α) {i j : Nat} (v : α) (h : i ≠ j) : own_upd g j v i = g i := if_neg h
section OwnArrays
variable {Z : State} {h h' : Heap} {a b : Addr} {ty : FieldType} {n sl : Nat} {v : Value} {ws : List Addr}
theorem own_AI.lt {g : Nat → Int32} (F : own_AI Z h a ty n g) : a < h.size := by obtain ⟨c, A, -⟩ := F; exact A.lt
theorem own_AI.ext {g : Nat → Int32} (F : own_AI Z h a ty n g) (E : Ext h h') : own_AI Z h' a ty n g := by obtain ⟨c, A, r⟩ := F; exact ⟨c, A.ext E, r⟩
theorem own_AI.other {g : Nat → Int32} (F : own_AI Z h b ty n g) (W : Wr h h' a sl v) (q : b ≠ a) : own_AI Z h' b ty n g := by obtain ⟨c, A, r⟩ := F; exact ⟨c, A.other W q, r⟩
theorem own_AI.keep {g : Nat → Int32} (F : own_AI Z h a ty n g) (K : Keep h h' ws) (q : a ∉ ws) : own_AI Z h' a ty n g := by obtain ⟨c, A, r⟩ := F; exact ⟨c, ⟨K.2.1 a c A.1 q, A.2⟩, r⟩
theorem own_AJ.lt {g : Nat → Int64} (F : own_AJ Z h a ty n g) : a < h.size := by obtain ⟨c, A, -⟩ := F; exact A.lt
theorem own_AJ.ext {g : Nat → Int64} (F : own_AJ Z h a ty n g) (E : Ext h h') : own_AJ Z h' a ty n g := by obtain ⟨c, A, r⟩ := F; exact ⟨c, A.ext E, r⟩
theorem own_AJ.other {g : Nat → Int64} (F : own_AJ Z h b ty n g) (W : Wr h h' a sl v) (q : b ≠ a) : own_AJ Z h' b ty n g := by obtain ⟨c, A, r⟩ := F; exact ⟨c, A.other W q, r⟩
theorem own_AJ.keep {g : Nat → Int64} (F : own_AJ Z h a ty n g) (K : Keep h h' ws) (q : a ∉ ws) : own_AJ Z h' a ty n g := by obtain ⟨c, A, r⟩ := F; exact ⟨c, ⟨K.2.1 a c A.1 q, A.2⟩, r⟩
theorem own_AD.lt {g : Nat → UInt64} (F : own_AD Z h a ty n g) : a < h.size := by obtain ⟨c, A, -⟩ := F; exact A.lt
theorem own_AD.ext {g : Nat → UInt64} (F : own_AD Z h a ty n g) (E : Ext h h') : own_AD Z h' a ty n g := by obtain ⟨c, A, r⟩ := F; exact ⟨c, A.ext E, r⟩
theorem own_AD.other {g : Nat → UInt64} (F : own_AD Z h b ty n g) (W : Wr h h' a sl v) (q : b ≠ a) : own_AD Z h' b ty n g := by obtain ⟨c, A, r⟩ := F; exact ⟨c, A.other W q, r⟩
theorem own_AD.keep {g : Nat → UInt64} (F : own_AD Z h a ty n g) (K : Keep h h' ws) (q : a ∉ ws) : own_AD Z h' a ty n g := by obtain ⟨c, A, r⟩ := F; exact ⟨c, ⟨K.2.1 a c A.1 q, A.2⟩, r⟩
theorem own_AI.set {g : Nat → Int32} {c : Cell} {x : Int32} {j : Nat} (A : Arr Z h a c ty) (S : c.slots.size = n) (M : n < 2 ^ 31) (H : ∀ i, i < n → c.slots[i]? = some (.int (g i))) (W : Wr h h' a j (.int x)) : own_AI Z h' a ty n (own_upd g j x) := by
  refine ⟨_, A.same W, (sz_set _ _ _).trans S, M, fun i hi => ?_⟩
  simp only [Cell.setSlot, Array.getElem?_setIfInBounds, own_upd]
  by_cases q : j = i
  · subst q; simp [S, hi]
  · rw [if_neg q, if_neg (fun z => q z.symm)]; exact H i hi
theorem own_AJ.set {g : Nat → Int64} {c : Cell} {x : Int64} {j : Nat} (A : Arr Z h a c ty) (S : c.slots.size = n) (M : n < 2 ^ 31) (H : ∀ i, i < n → c.slots[i]? = some (.long (g i))) (W : Wr h h' a j (.long x)) : own_AJ Z h' a ty n (own_upd g j x) := by
  refine ⟨_, A.same W, (sz_set _ _ _).trans S, M, fun i hi => ?_⟩
  simp only [Cell.setSlot, Array.getElem?_setIfInBounds, own_upd]
  by_cases q : j = i
  · subst q; simp [S, hi]
  · rw [if_neg q, if_neg (fun z => q z.symm)]; exact H i hi
theorem own_AD.set {g : Nat → UInt64} {c : Cell} {x : UInt64} {j : Nat} (A : Arr Z h a c ty) (S : c.slots.size = n) (M : n < 2 ^ 31) (H : ∀ i, i < n → c.slots[i]? = some (.double (g i))) (W : Wr h h' a j (.double x)) : own_AD Z h' a ty n (own_upd g j x) := by
  refine ⟨_, A.same W, (sz_set _ _ _).trans S, M, fun i hi => ?_⟩
  simp only [Cell.setSlot, Array.getElem?_setIfInBounds, own_upd]
  by_cases q : j = i
  · subst q; simp [S, hi]
  · rw [if_neg q, if_neg (fun z => q z.symm)]; exact H i hi
theorem own_clamp_lt (z : Int32) : z.toNatClampNeg < 2 ^ 31 := by have := z.toInt_lt; simp only [Int32.toNatClampNeg]; omega
theorem own_AI.fresh {k : ClassId} {z : Int32} (A : Arr Z h a (newA k ty z) ty) (hd : defaultValue ty = .int 0) : own_AI Z h a ty z.toNatClampNeg (fun _ => 0) :=
  ⟨_, A, sz_new _ _ _, own_clamp_lt z, fun i hi => by simp [newA, hi, hd]⟩
theorem own_AJ.fresh {k : ClassId} {z : Int32} (A : Arr Z h a (newA k ty z) ty) (hd : defaultValue ty = .long 0) : own_AJ Z h a ty z.toNatClampNeg (fun _ => 0) :=
  ⟨_, A, sz_new _ _ _, own_clamp_lt z, fun i hi => by simp [newA, hi, hd]⟩
theorem own_AD.fresh {k : ClassId} {z : Int32} (A : Arr Z h a (newA k ty z) ty) (hd : defaultValue ty = .double 0) : own_AD Z h a ty z.toNatClampNeg (fun _ => 0) :=
  ⟨_, A, sz_new _ _ _, own_clamp_lt z, fun i hi => by simp [newA, hi, hd]⟩
theorem own_in {c : Cell} {j : Int32} (S : c.slots.size = n) (q : ¬ j < 0 ∧ j.toNatClampNeg < n) : ¬ (j < 0 ∨ c.slots.size ≤ j.toNatClampNeg) := by
  rw [S]; exact fun z => z.elim q.1 (fun y => by have := q.2; omega)
theorem own_len {c : Cell} (S : c.slots.size = n) : c.slots.size.toInt32 = Int32.ofNat n := by rw [S]
theorem own_fitI {g : Nat → Int32} {c : Cell} (A : Arr Z h a c .int) (S : c.slots.size = n) (H : ∀ i, i < n → c.slots[i]? = some (.int (g i))) : FitC Z c :=
  fitC_of A fun i hi v hv => by rw [H i (S ▸ hi)] at hv; cases hv; rfl
theorem own_nst {C : String} (E : Exa Z h a C) : ∃ c : Cell, h[a]? = some c ∧ c.vm.isStatics = false := by obtain ⟨c, k, h1, -, -, h4, -⟩ := E; exact ⟨c, h1, h4⟩
theorem own_Sta_keep {C f d : String} (F : Sta Z h C f d v) (K : Keep h h' ws) (q : ∀ x ∈ ws, ∃ c : Cell, h[x]? = some c ∧ c.vm.isStatics = false) : Sta Z h' C f d v := by
  obtain ⟨cf, i, k, f, st, cell, h1, h2, h3, h4, h5, h6, h7⟩ := F
  refine ⟨cf, i, k, f, st, cell, h1, h2, h3, h4, K.2.1 st cell h5 (fun z => ?_), h6, h7⟩
  obtain ⟨c, g1, g2⟩ := q st z
  cases h5.symm.trans g1
  rw [h6] at g2
  cases g2
end OwnArrays
theorem own_lremq (x y : Int64) : x - (x / y) * y = x % y := by
  apply Int64.toInt_inj.mp
  rw [Int64.toInt_sub, Int64.toInt_mul, Int64.toInt_div, Int64.toInt_mod]
  have h := Int.mul_tdiv_add_tmod x.toInt y.toInt
  have hl := x.toInt_lt; have hg := x.le_toInt
  simp only [Int.bmod_sub_bmod, Int.sub_bmod_bmod, Int.bmod_mul_bmod, Int.mul_bmod_bmod]
  have e : x.toInt - x.toInt.tdiv y.toInt * y.toInt = x.toInt.tmod y.toInt := by rw [Int.mul_comm]; omega
  rw [e]
  have h1 := (x % y).toInt_lt; have h2 := (x % y).le_toInt
  rw [Int64.toInt_mod] at h1 h2
  exact Int.bmod_eq_of_le (by omega) (by omega)
theorem d3_0 : decode jdk_22_method_1_code 0 = .ok (.aload_n 0, 1) := by decide +kernel
theorem d3_1 : decode jdk_22_method_1_code 1 = .ok (.invokespecial 1, 3) := by decide +kernel
theorem d3_4 : decode jdk_22_method_1_code 4 = .ok (.return_, 1) := by decide +kernel
theorem own_pd0 : parseMethodDescriptor "()V" = some ⟨[], none⟩ := by decide +kernel
theorem own_pn0 : plainName "java/util/AbstractCollection" = true := by first | (simp [plainName, overriddenIn]; done) | decide +kernel
set_option maxHeartbeats 40000000 in
theorem own_ef_rm3 (m : MethodId) (x0 : Addr) : entryFrame m #[(.ref x0)] 1 = mkF m 0 #[.val (.ref x0)] [] := by first | (simp [entryFrame, mkF, argsToLocals, Value.category]; done) | rfl
def Q3 (Z : State) (a0 : Addr) (h0 : Heap) (n0 : Nat) (v : Option Value) (h : Heap) (L : List Loc) : Prop := v = none ∧ Fr n0 L ∧ h = h0
set_option maxRecDepth 65536 in
set_option maxHeartbeats 40000000 in
theorem rm3 (l : Launch) (Z : State) (aZ : Array Value) (hw : ∀ d ∈ tables_1, d.before aZ Z = true) (ws : List Jvm.Cond) (a0 : Addr) (h0 : Heap) (n0 : Nat) (Z0 : n0 ≤ h0.size) :
    MetFree l (⟨"java/util/AbstractCollection", "<init>", "()V"⟩ : MethodName) (head1 (Jvm.Cond.code (⟨"java/util/AbstractCollection", "<init>", "()V"⟩ : MethodName) jdk_22_method_1_code 1 none :: ws) ({ frames := 1, cells := 0, slots := 0, locals := 12 } : Room)) (fun a U => a = #[(.ref a0)] ∧ Z.Warmed39 U.vm ∧ U.heap = h0) (fun _ _ _ _ _ => True) (fun _ U o U' => ∃ v L, o = .returned v ∧ Q3 Z a0 h0 n0 v U'.heap L ∧ FrameEnd U o U' L ({ frames := 1, cells := 0, slots := 0, locals := 12 } : Room).cells ({ frames := 1, cells := 0, slots := 0, locals := 12 } : Room).slots) := by
  refine MetFree.of_bodySF (plainFor_of_name own_pn0) hisR ?_
  intro p e s m args below meth c s₁ Bd hml0 hP hK
  obtain ⟨rfl, hZ, hh⟩ := hP
  have hx := Bd.exec
  have hby := Bd.bytes
  have hml : c.maxLocals = 1 := hml0
  have hown : s.vm.findClass "java/util/AbstractCollection" = some m.cls := findClass_of_methodNamed Bd.named
  have hnm := (name_of_methodNamed Bd.named Bd.method).1
  have X0 : Stand p l e ({ frames := 1, cells := 0, slots := 0, locals := 12 } : Room) s m #[(.ref a0)] below meth c s₁ [] 0 0 := Stand.of_body Bd
  have e0 : s₁.heap = h0 := by rw [← hh, Bd.state]; rfl
  have N0 := Fr.nil n0
  refine own_go (S' := s₁.setTop (mkF m 0 #[.val (.ref a0)] [])) (fun t k => castTop (own_ef_rm3 m a0) k) ?_
  refine own_go (S' := s₁.setTop (mkF m 1 #[.val (.ref a0)] [(.ref a0)])) (fun target kt => ?_) ?_
  · skip
    show Steps p.tables e below (s₁.setTop (mkF m 0 #[.val (.ref a0)] [])) _
    refine XS.aloadN X0.here hx rfl (hb hby d3_0) rfl rfl ?_
    exact kt
  obtain ⟨T1, X1, e1, st1⟩ := initO X0 hx hZ hown (hw _ (List.mem_of_getElem? (i := 19) rfl)) (hw _ (List.mem_of_getElem? (i := 20) rfl)) (hw _ (List.mem_of_getElem? (i := 21) rfl)) e0 (g := (mkF m 1 #[.val (.ref a0)] [(.ref a0)])) rfl (by rw [hml]; rfl) rfl (hb hby d3_1) (by decide) (W := 0) (by show 2 * 0 + _ ≤ _; exact Nat.le_of_eq rfl) (by decide)
  refine own_go (S' := T1.setTop (mkF m 4 #[.val (.ref a0)] [])) st1 ?_
  obtain ⟨fs, hr, hrun, hended, hW, hsame⟩ := X1.leave (v := none) (fun _ => rfl)
  refine ⟨_, _, ?_, hrun, hended, _, _, rfl, ?_, ⟨_, rfl⟩, hW, hsame.mono (by decide) (by decide)⟩
  · exact X1.returnOut hx Bd.returns (hb hby d3_4) hr
  · show Q3 Z a0 h0 n0 _ T1.heap _
    rw [e1]
    exact ⟨rfl, N0, rfl⟩
theorem d2_0 : decode jdk_39_method_1_code 0 = .ok (.aload_n 0, 1) := by decide +kernel
theorem d2_1 : decode jdk_39_method_1_code 1 = .ok (.invokespecial 1, 3) := by decide +kernel
theorem d2_4 : decode jdk_39_method_1_code 4 = .ok (.aload_n 0, 1) := by decide +kernel
theorem d2_5 : decode jdk_39_method_1_code 5 = .ok (.iconst 0, 1) := by decide +kernel
theorem d2_6 : decode jdk_39_method_1_code 6 = .ok (.putfield 7, 3) := by decide +kernel
theorem d2_9 : decode jdk_39_method_1_code 9 = .ok (.return_, 1) := by decide +kernel
theorem own_pn1 : plainName "java/util/AbstractList" = true := by first | (simp [plainName, overriddenIn]; done) | decide +kernel
set_option maxHeartbeats 40000000 in
theorem own_ef_rm2 (m : MethodId) (x0 : Addr) : entryFrame m #[(.ref x0)] 1 = mkF m 0 #[.val (.ref x0)] [] := by first | (simp [entryFrame, mkF, argsToLocals, Value.category]; done) | rfl
def Q2 (Z : State) (a0 : Addr) (h0 : Heap) (n0 : Nat) (v : Option Value) (h : Heap) (L : List Loc) : Prop := v = none ∧ Fr n0 L ∧ Keep h0 h [a0] ∧ Exa Z h a0 "java/util/ArrayList" ∧ Fld Z h a0 "java/util/AbstractList" "modCount" "I" (.int (0 : Int32)) ∧ Fld Z h a0 "java/util/ArrayList" "elementData" "[Ljava/lang/Object;" .null
set_option maxRecDepth 65536 in
set_option maxHeartbeats 40000000 in
theorem rm2 (l : Launch) (Z : State) (aZ : Array Value) (hw : ∀ d ∈ tables_1, d.before aZ Z = true) (ws : List Jvm.Cond) (a0 : Addr) (h0 : Heap) (n0 : Nat) (Z0 : n0 ≤ h0.size) (pf0 : Exa Z h0 a0 "java/util/ArrayList") (pf1 : Fld Z h0 a0 "java/util/AbstractList" "modCount" "I" (.int (0 : Int32))) (pf2 : Fld Z h0 a0 "java/util/ArrayList" "elementData" "[Ljava/lang/Object;" .null) (g_a0 : n0 ≤ a0) :
    MetFree l (⟨"java/util/AbstractList", "<init>", "()V"⟩ : MethodName) (head1 (Jvm.Cond.code (⟨"java/util/AbstractList", "<init>", "()V"⟩ : MethodName) jdk_39_method_1_code 1 none :: ws) ({ frames := 2, cells := 0, slots := 0, locals := 24 } : Room)) (fun a U => a = #[(.ref a0)] ∧ Z.Warmed39 U.vm ∧ U.heap = h0) (fun _ _ _ _ _ => True) (fun _ U o U' => ∃ v L, o = .returned v ∧ Q2 Z a0 h0 n0 v U'.heap L ∧ FrameEnd U o U' L ({ frames := 2, cells := 0, slots := 0, locals := 24 } : Room).cells ({ frames := 2, cells := 0, slots := 0, locals := 24 } : Room).slots) := by
  refine MetFree.of_bodySF (plainFor_of_name own_pn1) hisR ?_
  intro p e s m args below meth c s₁ Bd hml0 hP hK
  obtain ⟨rfl, hZ, hh⟩ := hP
  have hx := Bd.exec
  have hby := Bd.bytes
  have hml : c.maxLocals = 1 := hml0
  have hown : s.vm.findClass "java/util/AbstractList" = some m.cls := findClass_of_methodNamed Bd.named
  have hnm := (name_of_methodNamed Bd.named Bd.method).1
  have X0 : Stand p l e ({ frames := 2, cells := 0, slots := 0, locals := 24 } : Room) s m #[(.ref a0)] below meth c s₁ [] 0 0 := Stand.of_body Bd
  have e0 : s₁.heap = h0 := by rw [← hh, Bd.state]; rfl
  have N0 := Fr.nil n0
  have K0 : Keep h0 h0 [a0] := Keep.refl h0 _
  refine own_go (S' := s₁.setTop (mkF m 0 #[.val (.ref a0)] [])) (fun t k => castTop (own_ef_rm2 m a0) k) ?_
  refine own_go (S' := s₁.setTop (mkF m 1 #[.val (.ref a0)] [(.ref a0)])) (fun target kt => ?_) ?_
  · skip
    show Steps p.tables e below (s₁.setTop (mkF m 0 #[.val (.ref a0)] [])) _
    refine XS.aloadN X0.here hx rfl (hb hby d2_0) rfl rfl ?_
    exact kt
  obtain ⟨_, _, ⟨T2, L2, k2, n2⟩, -, X2, ⟨Lc2, hQ2, l2, y2, z2⟩, st2⟩ := X0.specialBack hx (y := (⟨"java/util/AbstractCollection", "<init>", "()V"⟩ : MethodName)) rfl hown (mvT hZ (hw _ (List.mem_of_getElem? (i := 13) rfl))) (mvT hZ (hw _ (List.mem_of_getElem? (i := 14) rfl))) (mvT hZ (hw _ (List.mem_of_getElem? (i := 18) rfl))) (by decide) (backOf (W := 0) (rm3 l Z aZ hw [] a0 h0 n0 Z0 ) hZ (hw _ (List.mem_of_getElem? (i := 18) rfl)) (hw _ (List.mem_of_getElem? (i := 17) rfl)) (by decide) (by decide)) (g := (mkF m 1 #[.val (.ref a0)] [(.ref a0)])) rfl (by rw [hml]; rfl) (Steps.refl _) (a := a0) (argsL := []) (rest := []) (lenOf own_pd0 rfl) rfl (by show 2 * 0 + _ ≤ _; exact Nat.le_of_eq rfl) (hb hby d2_1) (fun _ _ => ⟨rfl, e0, (by decide : 0 + 0 ≤ _), (by decide : 0 + 0 ≤ _)⟩)
  dsimp only [Pt.U, Pt.locs, Pt.cells, Pt.slots] at X2 l2 y2 z2 st2 hQ2
  subst l2 y2 z2
  obtain ⟨rfl, N2q, e2⟩ := hQ2
  have N2 := Fr.app N0 N2q
  refine own_go (S' := T2.setTop (mkF m 4 #[.val (.ref a0)] [])) (fun _ k => st2.trans k) ?_
  refine own_go (S' := T2.setTop (mkF m 6 #[.val (.ref a0)] [(.int (0 : Int32)), (.ref a0)])) (fun target kt => ?_) ?_
  · skip
    show Steps p.tables e below (T2.setTop (mkF m 4 #[.val (.ref a0)] [])) _
    refine XS.aloadN X2.here hx rfl (hb hby d2_4) rfl rfl ?_
    show Steps p.tables e below (T2.setTop (mkF m 5 #[.val (.ref a0)] [(.ref a0)])) _
    refine XS.iconst X2.here hx rfl (hb hby d2_5) ?_
    exact kt
  obtain ⟨T3, h3, X3, e3, W3, st3⟩ := putF X2 hx hZ hown (host := "") (Or.inl (hw _ (List.mem_of_getElem? (i := 22) rfl))) Via.refl e2 pf1 pf0 (Or.inl (hw _ (List.mem_of_getElem? (i := 23) rfl))) (hw _ (List.mem_of_getElem? (i := 2) rfl)) (ty := .int) (by decide) rfl rfl (g := (mkF m 6 #[.val (.ref a0)] [(.int (0 : Int32)), (.ref a0)])) rfl rfl (hb hby d2_6)
  have f4 : Exa Z h3 a0 "java/util/ArrayList" := pf0.wr W3
  have f5 : Fld Z h3 a0 "java/util/ArrayList" "elementData" "[Ljava/lang/Object;" .null := pf2.other W3 (Or.inr (slot_ne (Or.inl (hw _ (List.mem_of_getElem? (i := 26) rfl))) (Or.inl (hw _ (List.mem_of_getElem? (i := 23) rfl))) (by decide) (t := (.array (.object "java/lang/Object"))) (t' := .int) (by decide) (by decide)))
  have f6 : Fld Z h3 a0 "java/util/AbstractList" "modCount" "I" (.int (0 : Int32)) := pf1.same W3
  have Z3 : n0 ≤ h3.size := Nat.le_trans Z0 (Keep.of_wr W3).1
  have K3 : Keep h0 h3 [a0] := K0.wr W3 (Or.inl (List.mem_of_getElem? (i := 0) rfl))
  have N3 := Fr.snoc X3 N2 g_a0
  refine own_go (S' := T3.setTop (mkF m 9 #[.val (.ref a0)] [])) st3 ?_
  obtain ⟨fs, hr, hrun, hended, hW, hsame⟩ := X3.leave (v := none) (fun _ => rfl)
  refine ⟨_, _, ?_, hrun, hended, _, _, rfl, ?_, ⟨_, rfl⟩, hW, hsame.mono (by decide) (by decide)⟩
  · exact X3.returnOut hx Bd.returns (hb hby d2_9) hr
  · show Q2 Z a0 h0 n0 _ T3.heap _
    rw [e3]
    exact ⟨rfl, N3, K3, f4, f6, f5⟩
theorem d1_0 : decode jdk_38_method_2_code 0 = .ok (.aload_n 0, 1) := by decide +kernel
theorem d1_1 : decode jdk_38_method_2_code 1 = .ok (.invokespecial 1, 3) := by decide +kernel
theorem d1_4 : decode jdk_38_method_2_code 4 = .ok (.aload_n 0, 1) := by decide +kernel
theorem d1_5 : decode jdk_38_method_2_code 5 = .ok (.getstatic 39, 3) := by decide +kernel
theorem d1_8 : decode jdk_38_method_2_code 8 = .ok (.putfield 9, 3) := by decide +kernel
theorem d1_11 : decode jdk_38_method_2_code 11 = .ok (.return_, 1) := by decide +kernel
theorem own_pn2 : plainName "java/util/ArrayList" = true := by first | (simp [plainName, overriddenIn]; done) | decide +kernel
set_option maxHeartbeats 40000000 in
theorem own_ef_rm1 (m : MethodId) (x0 : Addr) : entryFrame m #[(.ref x0)] 1 = mkF m 0 #[.val (.ref x0)] [] := by first | (simp [entryFrame, mkF, argsToLocals, Value.category]; done) | rfl
def Q1 (Z : State) (a0 : Addr) (dz : Addr) (h0 : Heap) (n0 : Nat) (v : Option Value) (h : Heap) (L : List Loc) : Prop := v = none ∧ Fr n0 L ∧ Keep h0 h [a0] ∧ Exa Z h a0 "java/util/ArrayList"
set_option maxRecDepth 65536 in
set_option maxHeartbeats 40000000 in
theorem rm1 (l : Launch) (Z : State) (aZ : Array Value) (hw : ∀ d ∈ tables_1, d.before aZ Z = true) (ws : List Jvm.Cond) (a0 : Addr) (dz : Addr) (h0 : Heap) (n0 : Nat) (Z0 : n0 ≤ h0.size) (pf0 : Exa Z h0 a0 "java/util/ArrayList") (pf1 : Fld Z h0 a0 "java/util/AbstractList" "modCount" "I" (.int (0 : Int32))) (pf2 : Fld Z h0 a0 "java/util/ArrayList" "elementData" "[Ljava/lang/Object;" .null) (pf3 : Sta Z h0 "java/util/ArrayList" "DEFAULTCAPACITY_EMPTY_ELEMENTDATA" "[Ljava/lang/Object;" (.ref dz)) (g_a0 : n0 ≤ a0) :
    MetFree l (⟨"java/util/ArrayList", "<init>", "()V"⟩ : MethodName) (head1 (Jvm.Cond.code (⟨"java/util/ArrayList", "<init>", "()V"⟩ : MethodName) jdk_38_method_2_code 1 none :: ws) ({ frames := 3, cells := 0, slots := 0, locals := 36 } : Room)) (fun a U => a = #[(.ref a0)] ∧ Z.Warmed39 U.vm ∧ U.heap = h0) (fun _ _ _ _ _ => True) (fun _ U o U' => ∃ v L, o = .returned v ∧ Q1 Z a0 dz h0 n0 v U'.heap L ∧ FrameEnd U o U' L ({ frames := 3, cells := 0, slots := 0, locals := 36 } : Room).cells ({ frames := 3, cells := 0, slots := 0, locals := 36 } : Room).slots) := by
  refine MetFree.of_bodySF (plainFor_of_name own_pn2) hisR ?_
  intro p e s m args below meth c s₁ Bd hml0 hP hK
  obtain ⟨rfl, hZ, hh⟩ := hP
  have hx := Bd.exec
  have hby := Bd.bytes
  have hml : c.maxLocals = 1 := hml0
  have hown : s.vm.findClass "java/util/ArrayList" = some m.cls := findClass_of_methodNamed Bd.named
  have hnm := (name_of_methodNamed Bd.named Bd.method).1
  have X0 : Stand p l e ({ frames := 3, cells := 0, slots := 0, locals := 36 } : Room) s m #[(.ref a0)] below meth c s₁ [] 0 0 := Stand.of_body Bd
  have e0 : s₁.heap = h0 := by rw [← hh, Bd.state]; rfl
  have N0 := Fr.nil n0
  have K0 : Keep h0 h0 [a0] := Keep.refl h0 _
  refine own_go (S' := s₁.setTop (mkF m 0 #[.val (.ref a0)] [])) (fun t k => castTop (own_ef_rm1 m a0) k) ?_
  refine own_go (S' := s₁.setTop (mkF m 1 #[.val (.ref a0)] [(.ref a0)])) (fun target kt => ?_) ?_
  · skip
    show Steps p.tables e below (s₁.setTop (mkF m 0 #[.val (.ref a0)] [])) _
    refine XS.aloadN X0.here hx rfl (hb hby d1_0) rfl rfl ?_
    exact kt
  obtain ⟨_, _, ⟨T7, L7, k7, n7⟩, -, X7, ⟨Lc7, hQ7, l7, y7, z7⟩, st7⟩ := X0.specialBack hx (y := (⟨"java/util/AbstractList", "<init>", "()V"⟩ : MethodName)) rfl hown (mvT hZ (hw _ (List.mem_of_getElem? (i := 7) rfl))) (mvT hZ (hw _ (List.mem_of_getElem? (i := 8) rfl))) (mvT hZ (hw _ (List.mem_of_getElem? (i := 12) rfl))) (by decide) (backOf (W := 0) (rm2 l Z aZ hw [] a0 h0 n0 Z0 pf0 pf1 pf2 g_a0) hZ (hw _ (List.mem_of_getElem? (i := 12) rfl)) (hw _ (List.mem_of_getElem? (i := 11) rfl)) (by decide) (by decide)) (g := (mkF m 1 #[.val (.ref a0)] [(.ref a0)])) rfl (by rw [hml]; rfl) (Steps.refl _) (a := a0) (argsL := []) (rest := []) (lenOf own_pd0 rfl) rfl (by show 2 * 0 + _ ≤ _; exact Nat.le_of_eq rfl) (hb hby d1_1) (fun _ _ => ⟨rfl, e0, (by decide : 0 + 0 ≤ _), (by decide : 0 + 0 ≤ _)⟩)
  dsimp only [Pt.U, Pt.locs, Pt.cells, Pt.slots] at X7 l7 y7 z7 st7 hQ7
  subst l7 y7 z7
  obtain ⟨rfl, N7q, K7q, f7_0, f7_1, f7_2⟩ := hQ7
  have N7 := Fr.app N0 N7q
  have f8 : Exa Z T7.heap a0 "java/util/ArrayList" := pf0.keep K7q
  have f9 : Sta Z T7.heap "java/util/ArrayList" "DEFAULTCAPACITY_EMPTY_ELEMENTDATA" "[Ljava/lang/Object;" (.ref dz) := own_Sta_keep pf3 K7q (allS (own_nst pf0) all0)
  have Z7 : n0 ≤ T7.heap.size := Nat.le_trans Z0 K7q.1
  have K7 : Keep h0 T7.heap [a0] := K0.trans K7q (allS (Or.inl (List.mem_of_getElem? (i := 0) rfl)) all0)
  refine own_go (S' := T7.setTop (mkF m 4 #[.val (.ref a0)] [])) (fun _ k => st7.trans k) ?_
  refine own_go (S' := T7.setTop (mkF m 5 #[.val (.ref a0)] [(.ref a0)])) (fun target kt => ?_) ?_
  · skip
    show Steps p.tables e below (T7.setTop (mkF m 4 #[.val (.ref a0)] [])) _
    refine XS.aloadN X7.here hx rfl (hb hby d1_4) rfl rfl ?_
    exact kt
  obtain ⟨T10, X10, e10, st10⟩ := getS2 X7 hx hZ hown (host := "") (Or.inl (hw _ (List.mem_of_getElem? (i := 24) rfl))) Via.refl rfl f9 (g := (mkF m 5 #[.val (.ref a0)] [(.ref a0)])) rfl (hb hby d1_5)
  refine own_go (S' := T10.setTop (mkF m 8 #[.val (.ref a0)] [(.ref dz), (.ref a0)])) st10 ?_
  obtain ⟨T11, h11, X11, e11, W11, st11⟩ := putF X10 hx hZ hown (host := "") (Or.inl (hw _ (List.mem_of_getElem? (i := 25) rfl))) Via.refl e10 f7_2 f7_0 (Or.inl (hw _ (List.mem_of_getElem? (i := 26) rfl))) (hw _ (List.mem_of_getElem? (i := 2) rfl)) (ty := (.array (.object "java/lang/Object"))) (by decide) rfl rfl (g := (mkF m 8 #[.val (.ref a0)] [(.ref dz), (.ref a0)])) rfl rfl (hb hby d1_8)
  have f12 : Exa Z h11 a0 "java/util/ArrayList" := f7_0.wr W11
  have f13 : Sta Z h11 "java/util/ArrayList" "DEFAULTCAPACITY_EMPTY_ELEMENTDATA" "[Ljava/lang/Object;" (.ref dz) := f9.wr W11
  have f14 : Fld Z h11 a0 "java/util/AbstractList" "modCount" "I" (.int (0 : Int32)) := f7_1.other W11 (Or.inr (slot_ne (Or.inl (hw _ (List.mem_of_getElem? (i := 23) rfl))) (Or.inl (hw _ (List.mem_of_getElem? (i := 26) rfl))) (by decide) (t := .int) (t' := (.array (.object "java/lang/Object"))) (by decide) (by decide)))
  have f15 : Fld Z h11 a0 "java/util/ArrayList" "elementData" "[Ljava/lang/Object;" (.ref dz) := f7_2.same W11
  have Z11 : n0 ≤ h11.size := Nat.le_trans Z7 (Keep.of_wr W11).1
  have K11 : Keep h0 h11 [a0] := K7.wr W11 (Or.inl (List.mem_of_getElem? (i := 0) rfl))
  have N11 := Fr.snoc X11 N7 g_a0
  refine own_go (S' := T11.setTop (mkF m 11 #[.val (.ref a0)] [])) st11 ?_
  obtain ⟨fs, hr, hrun, hended, hW, hsame⟩ := X11.leave (v := none) (fun _ => rfl)
  refine ⟨_, _, ?_, hrun, hended, _, _, rfl, ?_, ⟨_, rfl⟩, hW, hsame.mono (by decide) (by decide)⟩
  · exact X11.returnOut hx Bd.returns (hb hby d1_11) hr
  · show Q1 Z a0 dz h0 n0 _ T11.heap _
    rw [e11]
    exact ⟨rfl, N11, K11, f12⟩
theorem d6_0 : decode jdk_30_method_1_code 0 = .ok (.aload_n 0, 1) := by decide +kernel
theorem d6_1 : decode jdk_30_method_1_code 1 = .ok (.invokespecial 1, 3) := by decide +kernel
theorem d6_4 : decode jdk_30_method_1_code 4 = .ok (.return_, 1) := by decide +kernel
theorem own_pn3 : plainName "java/lang/Record" = true := by first | (simp [plainName, overriddenIn]; done) | decide +kernel
set_option maxHeartbeats 40000000 in
theorem own_ef_rm6 (m : MethodId) (x0 : Addr) : entryFrame m #[(.ref x0)] 1 = mkF m 0 #[.val (.ref x0)] [] := by first | (simp [entryFrame, mkF, argsToLocals, Value.category]; done) | rfl
def Q6 (Z : State) (a0 : Addr) (h0 : Heap) (n0 : Nat) (v : Option Value) (h : Heap) (L : List Loc) : Prop := v = none ∧ Fr n0 L ∧ h = h0
set_option maxRecDepth 65536 in
set_option maxHeartbeats 40000000 in
theorem rm6 (l : Launch) (Z : State) (aZ : Array Value) (hw : ∀ d ∈ tables_1, d.before aZ Z = true) (ws : List Jvm.Cond) (a0 : Addr) (h0 : Heap) (n0 : Nat) (Z0 : n0 ≤ h0.size) :
    MetFree l (⟨"java/lang/Record", "<init>", "()V"⟩ : MethodName) (head1 (Jvm.Cond.code (⟨"java/lang/Record", "<init>", "()V"⟩ : MethodName) jdk_30_method_1_code 1 none :: ws) ({ frames := 1, cells := 0, slots := 0, locals := 12 } : Room)) (fun a U => a = #[(.ref a0)] ∧ Z.Warmed39 U.vm ∧ U.heap = h0) (fun _ _ _ _ _ => True) (fun _ U o U' => ∃ v L, o = .returned v ∧ Q6 Z a0 h0 n0 v U'.heap L ∧ FrameEnd U o U' L ({ frames := 1, cells := 0, slots := 0, locals := 12 } : Room).cells ({ frames := 1, cells := 0, slots := 0, locals := 12 } : Room).slots) := by
  refine MetFree.of_bodySF (plainFor_of_name own_pn3) hisR ?_
  intro p e s m args below meth c s₁ Bd hml0 hP hK
  obtain ⟨rfl, hZ, hh⟩ := hP
  have hx := Bd.exec
  have hby := Bd.bytes
  have hml : c.maxLocals = 1 := hml0
  have hown : s.vm.findClass "java/lang/Record" = some m.cls := findClass_of_methodNamed Bd.named
  have hnm := (name_of_methodNamed Bd.named Bd.method).1
  have X0 : Stand p l e ({ frames := 1, cells := 0, slots := 0, locals := 12 } : Room) s m #[(.ref a0)] below meth c s₁ [] 0 0 := Stand.of_body Bd
  have e0 : s₁.heap = h0 := by rw [← hh, Bd.state]; rfl
  have N0 := Fr.nil n0
  refine own_go (S' := s₁.setTop (mkF m 0 #[.val (.ref a0)] [])) (fun t k => castTop (own_ef_rm6 m a0) k) ?_
  refine own_go (S' := s₁.setTop (mkF m 1 #[.val (.ref a0)] [(.ref a0)])) (fun target kt => ?_) ?_
  · skip
    show Steps p.tables e below (s₁.setTop (mkF m 0 #[.val (.ref a0)] [])) _
    refine XS.aloadN X0.here hx rfl (hb hby d6_0) rfl rfl ?_
    exact kt
  obtain ⟨T16, X16, e16, st16⟩ := initO X0 hx hZ hown (hw _ (List.mem_of_getElem? (i := 38) rfl)) (hw _ (List.mem_of_getElem? (i := 20) rfl)) (hw _ (List.mem_of_getElem? (i := 21) rfl)) e0 (g := (mkF m 1 #[.val (.ref a0)] [(.ref a0)])) rfl (by rw [hml]; rfl) rfl (hb hby d6_1) (by decide) (W := 0) (by show 2 * 0 + _ ≤ _; exact Nat.le_of_eq rfl) (by decide)
  refine own_go (S' := T16.setTop (mkF m 4 #[.val (.ref a0)] [])) st16 ?_
  obtain ⟨fs, hr, hrun, hended, hW, hsame⟩ := X16.leave (v := none) (fun _ => rfl)
  refine ⟨_, _, ?_, hrun, hended, _, _, rfl, ?_, ⟨_, rfl⟩, hW, hsame.mono (by decide) (by decide)⟩
  · exact X16.returnOut hx Bd.returns (hb hby d6_4) hr
  · show Q6 Z a0 h0 n0 _ T16.heap _
    rw [e16]
    exact ⟨rfl, N0, rfl⟩
theorem d5_0 : decode prog_33_method_1_code 0 = .ok (.aload_n 0, 1) := by decide +kernel
theorem d5_1 : decode prog_33_method_1_code 1 = .ok (.invokespecial 1, 3) := by decide +kernel
theorem d5_4 : decode prog_33_method_1_code 4 = .ok (.aload_n 0, 1) := by decide +kernel
theorem d5_5 : decode prog_33_method_1_code 5 = .ok (.lload_n 1, 1) := by decide +kernel
theorem d5_6 : decode prog_33_method_1_code 6 = .ok (.putfield 7, 3) := by decide +kernel
theorem d5_9 : decode prog_33_method_1_code 9 = .ok (.aload_n 0, 1) := by decide +kernel
theorem d5_10 : decode prog_33_method_1_code 10 = .ok (.aload_n 3, 1) := by decide +kernel
theorem d5_11 : decode prog_33_method_1_code 11 = .ok (.putfield 13, 3) := by decide +kernel
theorem d5_14 : decode prog_33_method_1_code 14 = .ok (.aload_n 0, 1) := by decide +kernel
theorem d5_15 : decode prog_33_method_1_code 15 = .ok (.aload 4, 2) := by decide +kernel
theorem d5_17 : decode prog_33_method_1_code 17 = .ok (.putfield 17, 3) := by decide +kernel
theorem d5_20 : decode prog_33_method_1_code 20 = .ok (.return_, 1) := by decide +kernel
theorem own_pn4 : plainName "com/example/access_bindings/accessbindings/benchmark/Exchanged" = true := by first | (simp [plainName, overriddenIn]; done) | decide +kernel
set_option maxHeartbeats 40000000 in
theorem own_ef_rm5 (m : MethodId) (x0 : Addr) (x1 : Int64) (x2 : Addr) (x3 : Addr) : entryFrame m #[(.ref x0), (.long x1), (.ref x2), (.ref x3)] 5 = mkF m 0 #[.val (.ref x0), .val (.long x1), .second, .val (.ref x2), .val (.ref x3)] [] := by first | (simp [entryFrame, mkF, argsToLocals, Value.category]; done) | rfl
def Q5 (Z : State) (a0 : Addr) (q1 : Int64) (a2 : Addr) (a3 : Addr) (h0 : Heap) (n0 : Nat) (v : Option Value) (h : Heap) (L : List Loc) : Prop := v = none ∧ Fr n0 L ∧ Keep h0 h [a0] ∧ Exa Z h a0 "com/example/access_bindings/accessbindings/benchmark/Exchanged" ∧ Fld Z h a0 "com/example/access_bindings/accessbindings/benchmark/Exchanged" "firstSent" "J" (.long q1) ∧ Fld Z h a0 "com/example/access_bindings/accessbindings/benchmark/Exchanged" "answeredAt" "[J" (.ref a2) ∧ Fld Z h a0 "com/example/access_bindings/accessbindings/benchmark/Exchanged" "answers" "Ljava/util/List;" (.ref a3)
set_option maxRecDepth 65536 in
set_option maxHeartbeats 40000000 in
theorem rm5 (l : Launch) (Z : State) (aZ : Array Value) (hw : ∀ d ∈ tables_1, d.before aZ Z = true) (ws : List Jvm.Cond) (a0 : Addr) (q1 : Int64) (a2 : Addr) (a3 : Addr) (h0 : Heap) (n0 : Nat) (Z0 : n0 ≤ h0.size) (pf0 : Exa Z h0 a0 "com/example/access_bindings/accessbindings/benchmark/Exchanged") (pf1 : Fld Z h0 a0 "com/example/access_bindings/accessbindings/benchmark/Exchanged" "firstSent" "J" (.long (0 : Int64))) (pf2 : Fld Z h0 a0 "com/example/access_bindings/accessbindings/benchmark/Exchanged" "answeredAt" "[J" .null) (pf3 : Fld Z h0 a0 "com/example/access_bindings/accessbindings/benchmark/Exchanged" "answers" "Ljava/util/List;" .null) (g_a0 : n0 ≤ a0) :
    MetFree l (⟨"com/example/access_bindings/accessbindings/benchmark/Exchanged", "<init>", "(J[JLjava/util/List;)V"⟩ : MethodName) (head1 (Jvm.Cond.code (⟨"com/example/access_bindings/accessbindings/benchmark/Exchanged", "<init>", "(J[JLjava/util/List;)V"⟩ : MethodName) prog_33_method_1_code 5 none :: ws) ({ frames := 2, cells := 0, slots := 0, locals := 24 } : Room)) (fun a U => a = #[(.ref a0), (.long q1), (.ref a2), (.ref a3)] ∧ Z.Warmed39 U.vm ∧ U.heap = h0) (fun _ _ _ _ _ => True) (fun _ U o U' => ∃ v L, o = .returned v ∧ Q5 Z a0 q1 a2 a3 h0 n0 v U'.heap L ∧ FrameEnd U o U' L ({ frames := 2, cells := 0, slots := 0, locals := 24 } : Room).cells ({ frames := 2, cells := 0, slots := 0, locals := 24 } : Room).slots) := by
  refine MetFree.of_bodySF (plainFor_of_name own_pn4) hisR ?_
  intro p e s m args below meth c s₁ Bd hml0 hP hK
  obtain ⟨rfl, hZ, hh⟩ := hP
  have hx := Bd.exec
  have hby := Bd.bytes
  have hml : c.maxLocals = 5 := hml0
  have hown : s.vm.findClass "com/example/access_bindings/accessbindings/benchmark/Exchanged" = some m.cls := findClass_of_methodNamed Bd.named
  have hnm := (name_of_methodNamed Bd.named Bd.method).1
  have X0 : Stand p l e ({ frames := 2, cells := 0, slots := 0, locals := 24 } : Room) s m #[(.ref a0), (.long q1), (.ref a2), (.ref a3)] below meth c s₁ [] 0 0 := Stand.of_body Bd
  have e0 : s₁.heap = h0 := by rw [← hh, Bd.state]; rfl
  have N0 := Fr.nil n0
  have K0 : Keep h0 h0 [a0] := Keep.refl h0 _
  refine own_go (S' := s₁.setTop (mkF m 0 #[.val (.ref a0), .val (.long q1), .second, .val (.ref a2), .val (.ref a3)] [])) (fun t k => castTop (own_ef_rm5 m a0 q1 a2 a3) k) ?_
  refine own_go (S' := s₁.setTop (mkF m 1 #[.val (.ref a0), .val (.long q1), .second, .val (.ref a2), .val (.ref a3)] [(.ref a0)])) (fun target kt => ?_) ?_
  · skip
    show Steps p.tables e below (s₁.setTop (mkF m 0 #[.val (.ref a0), .val (.long q1), .second, .val (.ref a2), .val (.ref a3)] [])) _
    refine XS.aloadN X0.here hx rfl (hb hby d5_0) rfl rfl ?_
    exact kt
  obtain ⟨_, _, ⟨T17, L17, k17, n17⟩, -, X17, ⟨Lc17, hQ17, l17, y17, z17⟩, st17⟩ := X0.specialBack hx (y := (⟨"java/lang/Record", "<init>", "()V"⟩ : MethodName)) rfl hown (mvT hZ (hw _ (List.mem_of_getElem? (i := 33) rfl))) (mvT hZ (hw _ (List.mem_of_getElem? (i := 34) rfl))) (mvT hZ (hw _ (List.mem_of_getElem? (i := 37) rfl))) (by decide) (backOf (W := 0) (rm6 l Z aZ hw [] a0 h0 n0 Z0 ) hZ (hw _ (List.mem_of_getElem? (i := 37) rfl)) (hw _ (List.mem_of_getElem? (i := 36) rfl)) (by decide) (by decide)) (g := (mkF m 1 #[.val (.ref a0), .val (.long q1), .second, .val (.ref a2), .val (.ref a3)] [(.ref a0)])) rfl (by rw [hml]; rfl) (Steps.refl _) (a := a0) (argsL := []) (rest := []) (lenOf own_pd0 rfl) rfl (by show 2 * 0 + _ ≤ _; exact Nat.le_of_eq rfl) (hb hby d5_1) (fun _ _ => ⟨rfl, e0, (by decide : 0 + 0 ≤ _), (by decide : 0 + 0 ≤ _)⟩)
  dsimp only [Pt.U, Pt.locs, Pt.cells, Pt.slots] at X17 l17 y17 z17 st17 hQ17
  subst l17 y17 z17
  obtain ⟨rfl, N17q, e17⟩ := hQ17
  have N17 := Fr.app N0 N17q
  refine own_go (S' := T17.setTop (mkF m 4 #[.val (.ref a0), .val (.long q1), .second, .val (.ref a2), .val (.ref a3)] [])) (fun _ k => st17.trans k) ?_
  refine own_go (S' := T17.setTop (mkF m 6 #[.val (.ref a0), .val (.long q1), .second, .val (.ref a2), .val (.ref a3)] [(.long q1), (.ref a0)])) (fun target kt => ?_) ?_
  · skip
    show Steps p.tables e below (T17.setTop (mkF m 4 #[.val (.ref a0), .val (.long q1), .second, .val (.ref a2), .val (.ref a3)] [])) _
    refine XS.aloadN X17.here hx rfl (hb hby d5_4) rfl rfl ?_
    show Steps p.tables e below (T17.setTop (mkF m 5 #[.val (.ref a0), .val (.long q1), .second, .val (.ref a2), .val (.ref a3)] [(.ref a0)])) _
    refine XS.lloadN X17.here hx rfl (hb hby d5_5) rfl ?_
    exact kt
  obtain ⟨T18, h18, X18, e18, W18, st18⟩ := putF X17 hx hZ hown (host := "") (Or.inl (hw _ (List.mem_of_getElem? (i := 39) rfl))) Via.refl e17 pf1 pf0 (Or.inr ⟨(hw _ (List.mem_of_getElem? (i := 40) rfl)), rfl, hnm⟩) (hw _ (List.mem_of_getElem? (i := 28) rfl)) (ty := .long) (by decide) rfl rfl (g := (mkF m 6 #[.val (.ref a0), .val (.long q1), .second, .val (.ref a2), .val (.ref a3)] [(.long q1), (.ref a0)])) rfl rfl (hb hby d5_6)
  have f19 : Exa Z h18 a0 "com/example/access_bindings/accessbindings/benchmark/Exchanged" := pf0.wr W18
  have f20 : Fld Z h18 a0 "com/example/access_bindings/accessbindings/benchmark/Exchanged" "answeredAt" "[J" .null := pf2.other W18 (Or.inr (slot_ne (Or.inr (hw _ (List.mem_of_getElem? (i := 42) rfl))) (Or.inr (hw _ (List.mem_of_getElem? (i := 40) rfl))) (by decide) (t := (.array .long)) (t' := .long) (by decide) (by decide)))
  have f21 : Fld Z h18 a0 "com/example/access_bindings/accessbindings/benchmark/Exchanged" "answers" "Ljava/util/List;" .null := pf3.other W18 (Or.inr (slot_ne (Or.inr (hw _ (List.mem_of_getElem? (i := 44) rfl))) (Or.inr (hw _ (List.mem_of_getElem? (i := 40) rfl))) (by decide) (t := (.object "java/util/List")) (t' := .long) (by decide) (by decide)))
  have f22 : Fld Z h18 a0 "com/example/access_bindings/accessbindings/benchmark/Exchanged" "firstSent" "J" (.long q1) := pf1.same W18
  have Z18 : n0 ≤ h18.size := Nat.le_trans Z0 (Keep.of_wr W18).1
  have K18 : Keep h0 h18 [a0] := K0.wr W18 (Or.inl (List.mem_of_getElem? (i := 0) rfl))
  have N18 := Fr.snoc X18 N17 g_a0
  refine own_go (S' := T18.setTop (mkF m 9 #[.val (.ref a0), .val (.long q1), .second, .val (.ref a2), .val (.ref a3)] [])) st18 ?_
  refine own_go (S' := T18.setTop (mkF m 11 #[.val (.ref a0), .val (.long q1), .second, .val (.ref a2), .val (.ref a3)] [(.ref a2), (.ref a0)])) (fun target kt => ?_) ?_
  · skip
    show Steps p.tables e below (T18.setTop (mkF m 9 #[.val (.ref a0), .val (.long q1), .second, .val (.ref a2), .val (.ref a3)] [])) _
    refine XS.aloadN X18.here hx rfl (hb hby d5_9) rfl rfl ?_
    show Steps p.tables e below (T18.setTop (mkF m 10 #[.val (.ref a0), .val (.long q1), .second, .val (.ref a2), .val (.ref a3)] [(.ref a0)])) _
    refine XS.aloadN X18.here hx rfl (hb hby d5_10) rfl rfl ?_
    exact kt
  obtain ⟨T23, h23, X23, e23, W23, st23⟩ := putF X18 hx hZ hown (host := "") (Or.inl (hw _ (List.mem_of_getElem? (i := 41) rfl))) Via.refl e18 f20 f19 (Or.inr ⟨(hw _ (List.mem_of_getElem? (i := 42) rfl)), rfl, hnm⟩) (hw _ (List.mem_of_getElem? (i := 28) rfl)) (ty := (.array .long)) (by decide) rfl rfl (g := (mkF m 11 #[.val (.ref a0), .val (.long q1), .second, .val (.ref a2), .val (.ref a3)] [(.ref a2), (.ref a0)])) rfl rfl (hb hby d5_11)
  have f24 : Exa Z h23 a0 "com/example/access_bindings/accessbindings/benchmark/Exchanged" := f19.wr W23
  have f25 : Fld Z h23 a0 "com/example/access_bindings/accessbindings/benchmark/Exchanged" "answers" "Ljava/util/List;" .null := f21.other W23 (Or.inr (slot_ne (Or.inr (hw _ (List.mem_of_getElem? (i := 44) rfl))) (Or.inr (hw _ (List.mem_of_getElem? (i := 42) rfl))) (by decide) (t := (.object "java/util/List")) (t' := (.array .long)) (by decide) (by decide)))
  have f26 : Fld Z h23 a0 "com/example/access_bindings/accessbindings/benchmark/Exchanged" "firstSent" "J" (.long q1) := f22.other W23 (Or.inr (slot_ne (Or.inr (hw _ (List.mem_of_getElem? (i := 40) rfl))) (Or.inr (hw _ (List.mem_of_getElem? (i := 42) rfl))) (by decide) (t := .long) (t' := (.array .long)) (by decide) (by decide)))
  have f27 : Fld Z h23 a0 "com/example/access_bindings/accessbindings/benchmark/Exchanged" "answeredAt" "[J" (.ref a2) := f20.same W23
  have Z23 : n0 ≤ h23.size := Nat.le_trans Z18 (Keep.of_wr W23).1
  have K23 : Keep h0 h23 [a0] := K18.wr W23 (Or.inl (List.mem_of_getElem? (i := 0) rfl))
  have N23 := Fr.snoc X23 N18 g_a0
  refine own_go (S' := T23.setTop (mkF m 14 #[.val (.ref a0), .val (.long q1), .second, .val (.ref a2), .val (.ref a3)] [])) st23 ?_
  refine own_go (S' := T23.setTop (mkF m 17 #[.val (.ref a0), .val (.long q1), .second, .val (.ref a2), .val (.ref a3)] [(.ref a3), (.ref a0)])) (fun target kt => ?_) ?_
  · skip
    show Steps p.tables e below (T23.setTop (mkF m 14 #[.val (.ref a0), .val (.long q1), .second, .val (.ref a2), .val (.ref a3)] [])) _
    refine XS.aloadN X23.here hx rfl (hb hby d5_14) rfl rfl ?_
    show Steps p.tables e below (T23.setTop (mkF m 15 #[.val (.ref a0), .val (.long q1), .second, .val (.ref a2), .val (.ref a3)] [(.ref a0)])) _
    refine XS.aload X23.here hx rfl (hb hby d5_15) rfl rfl ?_
    exact kt
  obtain ⟨T28, h28, X28, e28, W28, st28⟩ := putF X23 hx hZ hown (host := "") (Or.inl (hw _ (List.mem_of_getElem? (i := 43) rfl))) Via.refl e23 f25 f24 (Or.inr ⟨(hw _ (List.mem_of_getElem? (i := 44) rfl)), rfl, hnm⟩) (hw _ (List.mem_of_getElem? (i := 28) rfl)) (ty := (.object "java/util/List")) (by decide) rfl rfl (g := (mkF m 17 #[.val (.ref a0), .val (.long q1), .second, .val (.ref a2), .val (.ref a3)] [(.ref a3), (.ref a0)])) rfl rfl (hb hby d5_17)
  have f29 : Exa Z h28 a0 "com/example/access_bindings/accessbindings/benchmark/Exchanged" := f24.wr W28
  have f30 : Fld Z h28 a0 "com/example/access_bindings/accessbindings/benchmark/Exchanged" "firstSent" "J" (.long q1) := f26.other W28 (Or.inr (slot_ne (Or.inr (hw _ (List.mem_of_getElem? (i := 40) rfl))) (Or.inr (hw _ (List.mem_of_getElem? (i := 44) rfl))) (by decide) (t := .long) (t' := (.object "java/util/List")) (by decide) (by decide)))
  have f31 : Fld Z h28 a0 "com/example/access_bindings/accessbindings/benchmark/Exchanged" "answeredAt" "[J" (.ref a2) := f27.other W28 (Or.inr (slot_ne (Or.inr (hw _ (List.mem_of_getElem? (i := 42) rfl))) (Or.inr (hw _ (List.mem_of_getElem? (i := 44) rfl))) (by decide) (t := (.array .long)) (t' := (.object "java/util/List")) (by decide) (by decide)))
  have f32 : Fld Z h28 a0 "com/example/access_bindings/accessbindings/benchmark/Exchanged" "answers" "Ljava/util/List;" (.ref a3) := f25.same W28
  have Z28 : n0 ≤ h28.size := Nat.le_trans Z23 (Keep.of_wr W28).1
  have K28 : Keep h0 h28 [a0] := K23.wr W28 (Or.inl (List.mem_of_getElem? (i := 0) rfl))
  have N28 := Fr.snoc X28 N23 g_a0
  refine own_go (S' := T28.setTop (mkF m 20 #[.val (.ref a0), .val (.long q1), .second, .val (.ref a2), .val (.ref a3)] [])) st28 ?_
  obtain ⟨fs, hr, hrun, hended, hW, hsame⟩ := X28.leave (v := none) (fun _ => rfl)
  refine ⟨_, _, ?_, hrun, hended, _, _, rfl, ?_, ⟨_, rfl⟩, hW, hsame.mono (by decide) (by decide)⟩
  · exact X28.returnOut hx Bd.returns (hb hby d5_20) hr
  · show Q5 Z a0 q1 a2 a3 h0 n0 _ T28.heap _
    rw [e28]
    exact ⟨rfl, N28, K28, f29, f30, f31, f32⟩
theorem d7_0 : decode prog_33_method_2_code 0 = .ok (.aload_n 0, 1) := by decide +kernel
theorem d7_1 : decode prog_33_method_2_code 1 = .ok (.getfield 13, 3) := by decide +kernel
theorem d7_4 : decode prog_33_method_2_code 4 = .ok (.aload_n 0, 1) := by decide +kernel
theorem d7_5 : decode prog_33_method_2_code 5 = .ok (.getfield 13, 3) := by decide +kernel
theorem d7_8 : decode prog_33_method_2_code 8 = .ok (.arraylength, 1) := by decide +kernel
theorem d7_9 : decode prog_33_method_2_code 9 = .ok (.iconst 1, 1) := by decide +kernel
theorem d7_10 : decode prog_33_method_2_code 10 = .ok (.isub, 1) := by decide +kernel
theorem d7_11 : decode prog_33_method_2_code 11 = .ok (.laload, 1) := by decide +kernel
theorem d7_12 : decode prog_33_method_2_code 12 = .ok (.lreturn, 1) := by decide +kernel
set_option maxHeartbeats 40000000 in
theorem own_ef_rm7_1 (m : MethodId) (x0 : Addr) : entryFrame m #[(.ref x0)] 1 = mkF m 0 #[.val (.ref x0)] [] := by first | (simp [entryFrame, mkF, argsToLocals, Value.category]; done) | rfl
def Q7_1 (Z : State) (a0 : Addr) (w1 : Int64) (b1 : Addr) (g : Nat → Int64) (h0 : Heap) (n0 : Nat) (v : Option Value) (h : Heap) (L : List Loc) : Prop := v = some (.long (g 0)) ∧ Fr n0 L ∧ h = h0
set_option maxRecDepth 65536 in
set_option maxHeartbeats 40000000 in
theorem rm7_1 (l : Launch) (Z : State) (aZ : Array Value) (hw : ∀ d ∈ tables_1, d.before aZ Z = true) (ws : List Jvm.Cond) (a0 : Addr) (w1 : Int64) (b1 : Addr) (g : Nat → Int64) (h0 : Heap) (n0 : Nat) (Z0 : n0 ≤ h0.size) (pf0 : Fld Z h0 a0 "com/example/access_bindings/accessbindings/benchmark/Exchanged" "firstSent" "J" (.long w1)) (pf1 : Fld Z h0 a0 "com/example/access_bindings/accessbindings/benchmark/Exchanged" "answeredAt" "[J" (.ref b1)) (pf2 : own_AJ Z h0 b1 .long 1 g) :
    MetFree l (⟨"com/example/access_bindings/accessbindings/benchmark/Exchanged", "lastAnswered", "()J"⟩ : MethodName) (head1 (Jvm.Cond.code (⟨"com/example/access_bindings/accessbindings/benchmark/Exchanged", "lastAnswered", "()J"⟩ : MethodName) prog_33_method_2_code 1 (some .long) :: ws) ({ frames := 0, cells := 0, slots := 0, locals := 0 } : Room)) (fun a U => a = #[(.ref a0)] ∧ Z.Warmed39 U.vm ∧ U.heap = h0) (fun _ _ _ _ _ => True) (fun _ U o U' => ∃ v L, o = .returned v ∧ Q7_1 Z a0 w1 b1 g h0 n0 v U'.heap L ∧ FrameEnd U o U' L ({ frames := 0, cells := 0, slots := 0, locals := 0 } : Room).cells ({ frames := 0, cells := 0, slots := 0, locals := 0 } : Room).slots) := by
  refine MetFree.of_bodySF (plainFor_of_name own_pn4) hisR ?_
  intro p e s m args below meth c s₁ Bd hml0 hP hK
  obtain ⟨rfl, hZ, hh⟩ := hP
  have hx := Bd.exec
  have hby := Bd.bytes
  have hml : c.maxLocals = 1 := hml0
  have hown : s.vm.findClass "com/example/access_bindings/accessbindings/benchmark/Exchanged" = some m.cls := findClass_of_methodNamed Bd.named
  have hnm := (name_of_methodNamed Bd.named Bd.method).1
  have X0 : Stand p l e ({ frames := 0, cells := 0, slots := 0, locals := 0 } : Room) s m #[(.ref a0)] below meth c s₁ [] 0 0 := Stand.of_body Bd
  have e0 : s₁.heap = h0 := by rw [← hh, Bd.state]; rfl
  have N0 := Fr.nil n0
  refine own_go (S' := s₁.setTop (mkF m 0 #[.val (.ref a0)] [])) (fun t k => castTop (own_ef_rm7_1 m a0) k) ?_
  refine own_go (S' := s₁.setTop (mkF m 1 #[.val (.ref a0)] [(.ref a0)])) (fun target kt => ?_) ?_
  · skip
    show Steps p.tables e below (s₁.setTop (mkF m 0 #[.val (.ref a0)] [])) _
    refine XS.aloadN X0.here hx rfl (hb hby d7_0) rfl rfl ?_
    exact kt
  obtain ⟨T33, X33, e33, st33⟩ := getF X0 hx hZ hown (host := "") (Or.inl (hw _ (List.mem_of_getElem? (i := 41) rfl))) Via.refl e0 pf1 (g := (mkF m 1 #[.val (.ref a0)] [(.ref a0)])) rfl rfl (hb hby d7_1)
  refine own_go (S' := T33.setTop (mkF m 4 #[.val (.ref a0)] [(.ref b1)])) st33 ?_
  refine own_go (S' := T33.setTop (mkF m 5 #[.val (.ref a0)] [(.ref a0), (.ref b1)])) (fun target kt => ?_) ?_
  · skip
    show Steps p.tables e below (T33.setTop (mkF m 4 #[.val (.ref a0)] [(.ref b1)])) _
    refine XS.aloadN X33.here hx rfl (hb hby d7_4) rfl rfl ?_
    exact kt
  obtain ⟨T34, X34, e34, st34⟩ := getF X33 hx hZ hown (host := "") (Or.inl (hw _ (List.mem_of_getElem? (i := 41) rfl))) Via.refl e33 pf1 (g := (mkF m 5 #[.val (.ref a0)] [(.ref a0), (.ref b1)])) rfl rfl (hb hby d7_5)
  refine own_go (S' := T34.setTop (mkF m 8 #[.val (.ref a0)] [(.ref b1), (.ref b1)])) st34 ?_
  obtain ⟨c35, Ar35, S35, M35, H35⟩ := id pf2
  have st35 : ∀ target, Steps p.tables e below (T34.setTop (mkF m 9 #[.val (.ref a0)] [(.int (1 : Int32)), (.ref b1)])) target → Steps p.tables e below (T34.setTop (mkF m 8 #[.val (.ref a0)] [(.ref b1), (.ref b1)])) target := fun target kt => X34.arraylength hx (cell := c35) (by rw [e34]; exact Ar35.1) (State.isArrayOf_alike hZ.alike Ar35.2.1) (g := (mkF m 8 #[.val (.ref a0)] [(.ref b1), (.ref b1)])) rfl rfl (hb hby d7_8) _ (by rw [own_len S35]; exact kt)
  refine own_go (S' := T34.setTop (mkF m 9 #[.val (.ref a0)] [(.int (1 : Int32)), (.ref b1)])) st35 ?_
  refine own_go (S' := T34.setTop (mkF m 11 #[.val (.ref a0)] [(.int (0 : Int32)), (.ref b1)])) (fun target kt => ?_) ?_
  · skip
    show Steps p.tables e below (T34.setTop (mkF m 9 #[.val (.ref a0)] [(.int (1 : Int32)), (.ref b1)])) _
    refine XS.iconst X34.here hx rfl (hb hby d7_9) ?_
    show Steps p.tables e below (T34.setTop (mkF m 10 #[.val (.ref a0)] [(.int (1 : Int32)), (.int (1 : Int32)), (.ref b1)])) _
    refine XS.isub X34.here hx rfl (hb hby d7_10) rfl ?_
    rw [show ((1 : Int32) - (1 : Int32)) = (0 : Int32) from by decide]
    exact kt
  obtain ⟨c36, Ar36, S36, M36, H36⟩ := id pf2
  have hj36 : ¬ (0 : Int32) < 0 ∧ ((0 : Int32)).toNatClampNeg < 1 := ⟨by decide, by decide⟩
  have st36 : ∀ target, Steps p.tables e below (T34.setTop (mkF m 12 #[.val (.ref a0)] [(.long (g 0))])) target → Steps p.tables e below (T34.setTop (mkF m 11 #[.val (.ref a0)] [(.int (0 : Int32)), (.ref b1)])) target := fun target kt => X34.laload hx (j := (0 : Int32)) (v := (.long (g 0))) (by rw [e34]; exact Ar36.1) (State.isArrayOf_alike hZ.alike Ar36.2.1) Ar36.2.2 (own_in S36 hj36) (H36 _ hj36.2) (g := (mkF m 11 #[.val (.ref a0)] [(.int (0 : Int32)), (.ref b1)])) rfl rfl (hb hby d7_11) _ kt
  refine own_go (S' := T34.setTop (mkF m 12 #[.val (.ref a0)] [(.long (g 0))])) st36 ?_
  obtain ⟨fs, hr, hrun, hended, hW, hsame⟩ := X34.leave (v := some (.long (g 0))) (fun h => by rw [Bd.returns] at h; cases h)
  refine ⟨_, _, ?_, hrun, hended, _, _, rfl, ?_, ⟨_, rfl⟩, hW, hsame.mono (by decide) (by decide)⟩
  · exact retL X34 hx Bd.returns (hb hby d7_12) hr
  · show Q7_1 Z a0 w1 b1 g h0 n0 _ T34.heap _
    rw [e34]
    exact ⟨rfl, N0, rfl⟩
set_option maxHeartbeats 40000000 in
theorem own_ef_rm7_2 (m : MethodId) (x0 : Addr) : entryFrame m #[(.ref x0)] 1 = mkF m 0 #[.val (.ref x0)] [] := by first | (simp [entryFrame, mkF, argsToLocals, Value.category]; done) | rfl
def Q7_2 (Z : State) (a0 : Addr) (w1 : Int64) (b1 : Addr) (g : Nat → Int64) (h0 : Heap) (n0 : Nat) (v : Option Value) (h : Heap) (L : List Loc) : Prop := v = some (.long (g 1)) ∧ Fr n0 L ∧ h = h0
set_option maxRecDepth 65536 in
set_option maxHeartbeats 40000000 in
theorem rm7_2 (l : Launch) (Z : State) (aZ : Array Value) (hw : ∀ d ∈ tables_1, d.before aZ Z = true) (ws : List Jvm.Cond) (a0 : Addr) (w1 : Int64) (b1 : Addr) (g : Nat → Int64) (h0 : Heap) (n0 : Nat) (Z0 : n0 ≤ h0.size) (pf0 : Fld Z h0 a0 "com/example/access_bindings/accessbindings/benchmark/Exchanged" "firstSent" "J" (.long w1)) (pf1 : Fld Z h0 a0 "com/example/access_bindings/accessbindings/benchmark/Exchanged" "answeredAt" "[J" (.ref b1)) (pf2 : own_AJ Z h0 b1 .long 2 g) :
    MetFree l (⟨"com/example/access_bindings/accessbindings/benchmark/Exchanged", "lastAnswered", "()J"⟩ : MethodName) (head1 (Jvm.Cond.code (⟨"com/example/access_bindings/accessbindings/benchmark/Exchanged", "lastAnswered", "()J"⟩ : MethodName) prog_33_method_2_code 1 (some .long) :: ws) ({ frames := 0, cells := 0, slots := 0, locals := 0 } : Room)) (fun a U => a = #[(.ref a0)] ∧ Z.Warmed39 U.vm ∧ U.heap = h0) (fun _ _ _ _ _ => True) (fun _ U o U' => ∃ v L, o = .returned v ∧ Q7_2 Z a0 w1 b1 g h0 n0 v U'.heap L ∧ FrameEnd U o U' L ({ frames := 0, cells := 0, slots := 0, locals := 0 } : Room).cells ({ frames := 0, cells := 0, slots := 0, locals := 0 } : Room).slots) := by
  refine MetFree.of_bodySF (plainFor_of_name own_pn4) hisR ?_
  intro p e s m args below meth c s₁ Bd hml0 hP hK
  obtain ⟨rfl, hZ, hh⟩ := hP
  have hx := Bd.exec
  have hby := Bd.bytes
  have hml : c.maxLocals = 1 := hml0
  have hown : s.vm.findClass "com/example/access_bindings/accessbindings/benchmark/Exchanged" = some m.cls := findClass_of_methodNamed Bd.named
  have hnm := (name_of_methodNamed Bd.named Bd.method).1
  have X0 : Stand p l e ({ frames := 0, cells := 0, slots := 0, locals := 0 } : Room) s m #[(.ref a0)] below meth c s₁ [] 0 0 := Stand.of_body Bd
  have e0 : s₁.heap = h0 := by rw [← hh, Bd.state]; rfl
  have N0 := Fr.nil n0
  refine own_go (S' := s₁.setTop (mkF m 0 #[.val (.ref a0)] [])) (fun t k => castTop (own_ef_rm7_2 m a0) k) ?_
  refine own_go (S' := s₁.setTop (mkF m 1 #[.val (.ref a0)] [(.ref a0)])) (fun target kt => ?_) ?_
  · skip
    show Steps p.tables e below (s₁.setTop (mkF m 0 #[.val (.ref a0)] [])) _
    refine XS.aloadN X0.here hx rfl (hb hby d7_0) rfl rfl ?_
    exact kt
  obtain ⟨T37, X37, e37, st37⟩ := getF X0 hx hZ hown (host := "") (Or.inl (hw _ (List.mem_of_getElem? (i := 41) rfl))) Via.refl e0 pf1 (g := (mkF m 1 #[.val (.ref a0)] [(.ref a0)])) rfl rfl (hb hby d7_1)
  refine own_go (S' := T37.setTop (mkF m 4 #[.val (.ref a0)] [(.ref b1)])) st37 ?_
  refine own_go (S' := T37.setTop (mkF m 5 #[.val (.ref a0)] [(.ref a0), (.ref b1)])) (fun target kt => ?_) ?_
  · skip
    show Steps p.tables e below (T37.setTop (mkF m 4 #[.val (.ref a0)] [(.ref b1)])) _
    refine XS.aloadN X37.here hx rfl (hb hby d7_4) rfl rfl ?_
    exact kt
  obtain ⟨T38, X38, e38, st38⟩ := getF X37 hx hZ hown (host := "") (Or.inl (hw _ (List.mem_of_getElem? (i := 41) rfl))) Via.refl e37 pf1 (g := (mkF m 5 #[.val (.ref a0)] [(.ref a0), (.ref b1)])) rfl rfl (hb hby d7_5)
  refine own_go (S' := T38.setTop (mkF m 8 #[.val (.ref a0)] [(.ref b1), (.ref b1)])) st38 ?_
  obtain ⟨c39, Ar39, S39, M39, H39⟩ := id pf2
  have st39 : ∀ target, Steps p.tables e below (T38.setTop (mkF m 9 #[.val (.ref a0)] [(.int (2 : Int32)), (.ref b1)])) target → Steps p.tables e below (T38.setTop (mkF m 8 #[.val (.ref a0)] [(.ref b1), (.ref b1)])) target := fun target kt => X38.arraylength hx (cell := c39) (by rw [e38]; exact Ar39.1) (State.isArrayOf_alike hZ.alike Ar39.2.1) (g := (mkF m 8 #[.val (.ref a0)] [(.ref b1), (.ref b1)])) rfl rfl (hb hby d7_8) _ (by rw [own_len S39]; exact kt)
  refine own_go (S' := T38.setTop (mkF m 9 #[.val (.ref a0)] [(.int (2 : Int32)), (.ref b1)])) st39 ?_
  refine own_go (S' := T38.setTop (mkF m 11 #[.val (.ref a0)] [(.int (1 : Int32)), (.ref b1)])) (fun target kt => ?_) ?_
  · skip
    show Steps p.tables e below (T38.setTop (mkF m 9 #[.val (.ref a0)] [(.int (2 : Int32)), (.ref b1)])) _
    refine XS.iconst X38.here hx rfl (hb hby d7_9) ?_
    show Steps p.tables e below (T38.setTop (mkF m 10 #[.val (.ref a0)] [(.int (1 : Int32)), (.int (2 : Int32)), (.ref b1)])) _
    refine XS.isub X38.here hx rfl (hb hby d7_10) rfl ?_
    rw [show ((2 : Int32) - (1 : Int32)) = (1 : Int32) from by decide]
    exact kt
  obtain ⟨c40, Ar40, S40, M40, H40⟩ := id pf2
  have hj40 : ¬ (1 : Int32) < 0 ∧ ((1 : Int32)).toNatClampNeg < 2 := ⟨by decide, by decide⟩
  have st40 : ∀ target, Steps p.tables e below (T38.setTop (mkF m 12 #[.val (.ref a0)] [(.long (g 1))])) target → Steps p.tables e below (T38.setTop (mkF m 11 #[.val (.ref a0)] [(.int (1 : Int32)), (.ref b1)])) target := fun target kt => X38.laload hx (j := (1 : Int32)) (v := (.long (g 1))) (by rw [e38]; exact Ar40.1) (State.isArrayOf_alike hZ.alike Ar40.2.1) Ar40.2.2 (own_in S40 hj40) (H40 _ hj40.2) (g := (mkF m 11 #[.val (.ref a0)] [(.int (1 : Int32)), (.ref b1)])) rfl rfl (hb hby d7_11) _ kt
  refine own_go (S' := T38.setTop (mkF m 12 #[.val (.ref a0)] [(.long (g 1))])) st40 ?_
  obtain ⟨fs, hr, hrun, hended, hW, hsame⟩ := X38.leave (v := some (.long (g 1))) (fun h => by rw [Bd.returns] at h; cases h)
  refine ⟨_, _, ?_, hrun, hended, _, _, rfl, ?_, ⟨_, rfl⟩, hW, hsame.mono (by decide) (by decide)⟩
  · exact retL X38 hx Bd.returns (hb hby d7_12) hr
  · show Q7_2 Z a0 w1 b1 g h0 n0 _ T38.heap _
    rw [e38]
    exact ⟨rfl, N0, rfl⟩
set_option maxHeartbeats 40000000 in
theorem own_ef_rm7_3 (m : MethodId) (x0 : Addr) : entryFrame m #[(.ref x0)] 1 = mkF m 0 #[.val (.ref x0)] [] := by first | (simp [entryFrame, mkF, argsToLocals, Value.category]; done) | rfl
def Q7_3 (Z : State) (a0 : Addr) (w1 : Int64) (b1 : Addr) (g : Nat → Int64) (h0 : Heap) (n0 : Nat) (v : Option Value) (h : Heap) (L : List Loc) : Prop := v = some (.long (g 2)) ∧ Fr n0 L ∧ h = h0
set_option maxRecDepth 65536 in
set_option maxHeartbeats 40000000 in
theorem rm7_3 (l : Launch) (Z : State) (aZ : Array Value) (hw : ∀ d ∈ tables_1, d.before aZ Z = true) (ws : List Jvm.Cond) (a0 : Addr) (w1 : Int64) (b1 : Addr) (g : Nat → Int64) (h0 : Heap) (n0 : Nat) (Z0 : n0 ≤ h0.size) (pf0 : Fld Z h0 a0 "com/example/access_bindings/accessbindings/benchmark/Exchanged" "firstSent" "J" (.long w1)) (pf1 : Fld Z h0 a0 "com/example/access_bindings/accessbindings/benchmark/Exchanged" "answeredAt" "[J" (.ref b1)) (pf2 : own_AJ Z h0 b1 .long 3 g) :
    MetFree l (⟨"com/example/access_bindings/accessbindings/benchmark/Exchanged", "lastAnswered", "()J"⟩ : MethodName) (head1 (Jvm.Cond.code (⟨"com/example/access_bindings/accessbindings/benchmark/Exchanged", "lastAnswered", "()J"⟩ : MethodName) prog_33_method_2_code 1 (some .long) :: ws) ({ frames := 0, cells := 0, slots := 0, locals := 0 } : Room)) (fun a U => a = #[(.ref a0)] ∧ Z.Warmed39 U.vm ∧ U.heap = h0) (fun _ _ _ _ _ => True) (fun _ U o U' => ∃ v L, o = .returned v ∧ Q7_3 Z a0 w1 b1 g h0 n0 v U'.heap L ∧ FrameEnd U o U' L ({ frames := 0, cells := 0, slots := 0, locals := 0 } : Room).cells ({ frames := 0, cells := 0, slots := 0, locals := 0 } : Room).slots) := by
  refine MetFree.of_bodySF (plainFor_of_name own_pn4) hisR ?_
  intro p e s m args below meth c s₁ Bd hml0 hP hK
  obtain ⟨rfl, hZ, hh⟩ := hP
  have hx := Bd.exec
  have hby := Bd.bytes
  have hml : c.maxLocals = 1 := hml0
  have hown : s.vm.findClass "com/example/access_bindings/accessbindings/benchmark/Exchanged" = some m.cls := findClass_of_methodNamed Bd.named
  have hnm := (name_of_methodNamed Bd.named Bd.method).1
  have X0 : Stand p l e ({ frames := 0, cells := 0, slots := 0, locals := 0 } : Room) s m #[(.ref a0)] below meth c s₁ [] 0 0 := Stand.of_body Bd
  have e0 : s₁.heap = h0 := by rw [← hh, Bd.state]; rfl
  have N0 := Fr.nil n0
  refine own_go (S' := s₁.setTop (mkF m 0 #[.val (.ref a0)] [])) (fun t k => castTop (own_ef_rm7_3 m a0) k) ?_
  refine own_go (S' := s₁.setTop (mkF m 1 #[.val (.ref a0)] [(.ref a0)])) (fun target kt => ?_) ?_
  · skip
    show Steps p.tables e below (s₁.setTop (mkF m 0 #[.val (.ref a0)] [])) _
    refine XS.aloadN X0.here hx rfl (hb hby d7_0) rfl rfl ?_
    exact kt
  obtain ⟨T41, X41, e41, st41⟩ := getF X0 hx hZ hown (host := "") (Or.inl (hw _ (List.mem_of_getElem? (i := 41) rfl))) Via.refl e0 pf1 (g := (mkF m 1 #[.val (.ref a0)] [(.ref a0)])) rfl rfl (hb hby d7_1)
  refine own_go (S' := T41.setTop (mkF m 4 #[.val (.ref a0)] [(.ref b1)])) st41 ?_
  refine own_go (S' := T41.setTop (mkF m 5 #[.val (.ref a0)] [(.ref a0), (.ref b1)])) (fun target kt => ?_) ?_
  · skip
    show Steps p.tables e below (T41.setTop (mkF m 4 #[.val (.ref a0)] [(.ref b1)])) _
    refine XS.aloadN X41.here hx rfl (hb hby d7_4) rfl rfl ?_
    exact kt
  obtain ⟨T42, X42, e42, st42⟩ := getF X41 hx hZ hown (host := "") (Or.inl (hw _ (List.mem_of_getElem? (i := 41) rfl))) Via.refl e41 pf1 (g := (mkF m 5 #[.val (.ref a0)] [(.ref a0), (.ref b1)])) rfl rfl (hb hby d7_5)
  refine own_go (S' := T42.setTop (mkF m 8 #[.val (.ref a0)] [(.ref b1), (.ref b1)])) st42 ?_
  obtain ⟨c43, Ar43, S43, M43, H43⟩ := id pf2
  have st43 : ∀ target, Steps p.tables e below (T42.setTop (mkF m 9 #[.val (.ref a0)] [(.int (3 : Int32)), (.ref b1)])) target → Steps p.tables e below (T42.setTop (mkF m 8 #[.val (.ref a0)] [(.ref b1), (.ref b1)])) target := fun target kt => X42.arraylength hx (cell := c43) (by rw [e42]; exact Ar43.1) (State.isArrayOf_alike hZ.alike Ar43.2.1) (g := (mkF m 8 #[.val (.ref a0)] [(.ref b1), (.ref b1)])) rfl rfl (hb hby d7_8) _ (by rw [own_len S43]; exact kt)
  refine own_go (S' := T42.setTop (mkF m 9 #[.val (.ref a0)] [(.int (3 : Int32)), (.ref b1)])) st43 ?_
  refine own_go (S' := T42.setTop (mkF m 11 #[.val (.ref a0)] [(.int (2 : Int32)), (.ref b1)])) (fun target kt => ?_) ?_
  · skip
    show Steps p.tables e below (T42.setTop (mkF m 9 #[.val (.ref a0)] [(.int (3 : Int32)), (.ref b1)])) _
    refine XS.iconst X42.here hx rfl (hb hby d7_9) ?_
    show Steps p.tables e below (T42.setTop (mkF m 10 #[.val (.ref a0)] [(.int (1 : Int32)), (.int (3 : Int32)), (.ref b1)])) _
    refine XS.isub X42.here hx rfl (hb hby d7_10) rfl ?_
    rw [show ((3 : Int32) - (1 : Int32)) = (2 : Int32) from by decide]
    exact kt
  obtain ⟨c44, Ar44, S44, M44, H44⟩ := id pf2
  have hj44 : ¬ (2 : Int32) < 0 ∧ ((2 : Int32)).toNatClampNeg < 3 := ⟨by decide, by decide⟩
  have st44 : ∀ target, Steps p.tables e below (T42.setTop (mkF m 12 #[.val (.ref a0)] [(.long (g 2))])) target → Steps p.tables e below (T42.setTop (mkF m 11 #[.val (.ref a0)] [(.int (2 : Int32)), (.ref b1)])) target := fun target kt => X42.laload hx (j := (2 : Int32)) (v := (.long (g 2))) (by rw [e42]; exact Ar44.1) (State.isArrayOf_alike hZ.alike Ar44.2.1) Ar44.2.2 (own_in S44 hj44) (H44 _ hj44.2) (g := (mkF m 11 #[.val (.ref a0)] [(.int (2 : Int32)), (.ref b1)])) rfl rfl (hb hby d7_11) _ kt
  refine own_go (S' := T42.setTop (mkF m 12 #[.val (.ref a0)] [(.long (g 2))])) st44 ?_
  obtain ⟨fs, hr, hrun, hended, hW, hsame⟩ := X42.leave (v := some (.long (g 2))) (fun h => by rw [Bd.returns] at h; cases h)
  refine ⟨_, _, ?_, hrun, hended, _, _, rfl, ?_, ⟨_, rfl⟩, hW, hsame.mono (by decide) (by decide)⟩
  · exact retL X42 hx Bd.returns (hb hby d7_12) hr
  · show Q7_3 Z a0 w1 b1 g h0 n0 _ T42.heap _
    rw [e42]
    exact ⟨rfl, N0, rfl⟩
set_option maxHeartbeats 40000000 in
theorem own_ef_rm7_4 (m : MethodId) (x0 : Addr) : entryFrame m #[(.ref x0)] 1 = mkF m 0 #[.val (.ref x0)] [] := by first | (simp [entryFrame, mkF, argsToLocals, Value.category]; done) | rfl
def Q7_4 (Z : State) (a0 : Addr) (w1 : Int64) (b1 : Addr) (g : Nat → Int64) (h0 : Heap) (n0 : Nat) (v : Option Value) (h : Heap) (L : List Loc) : Prop := v = some (.long (g 3)) ∧ Fr n0 L ∧ h = h0
set_option maxRecDepth 65536 in
set_option maxHeartbeats 40000000 in
theorem rm7_4 (l : Launch) (Z : State) (aZ : Array Value) (hw : ∀ d ∈ tables_1, d.before aZ Z = true) (ws : List Jvm.Cond) (a0 : Addr) (w1 : Int64) (b1 : Addr) (g : Nat → Int64) (h0 : Heap) (n0 : Nat) (Z0 : n0 ≤ h0.size) (pf0 : Fld Z h0 a0 "com/example/access_bindings/accessbindings/benchmark/Exchanged" "firstSent" "J" (.long w1)) (pf1 : Fld Z h0 a0 "com/example/access_bindings/accessbindings/benchmark/Exchanged" "answeredAt" "[J" (.ref b1)) (pf2 : own_AJ Z h0 b1 .long 4 g) :
    MetFree l (⟨"com/example/access_bindings/accessbindings/benchmark/Exchanged", "lastAnswered", "()J"⟩ : MethodName) (head1 (Jvm.Cond.code (⟨"com/example/access_bindings/accessbindings/benchmark/Exchanged", "lastAnswered", "()J"⟩ : MethodName) prog_33_method_2_code 1 (some .long) :: ws) ({ frames := 0, cells := 0, slots := 0, locals := 0 } : Room)) (fun a U => a = #[(.ref a0)] ∧ Z.Warmed39 U.vm ∧ U.heap = h0) (fun _ _ _ _ _ => True) (fun _ U o U' => ∃ v L, o = .returned v ∧ Q7_4 Z a0 w1 b1 g h0 n0 v U'.heap L ∧ FrameEnd U o U' L ({ frames := 0, cells := 0, slots := 0, locals := 0 } : Room).cells ({ frames := 0, cells := 0, slots := 0, locals := 0 } : Room).slots) := by
  refine MetFree.of_bodySF (plainFor_of_name own_pn4) hisR ?_
  intro p e s m args below meth c s₁ Bd hml0 hP hK
  obtain ⟨rfl, hZ, hh⟩ := hP
  have hx := Bd.exec
  have hby := Bd.bytes
  have hml : c.maxLocals = 1 := hml0
  have hown : s.vm.findClass "com/example/access_bindings/accessbindings/benchmark/Exchanged" = some m.cls := findClass_of_methodNamed Bd.named
  have hnm := (name_of_methodNamed Bd.named Bd.method).1
  have X0 : Stand p l e ({ frames := 0, cells := 0, slots := 0, locals := 0 } : Room) s m #[(.ref a0)] below meth c s₁ [] 0 0 := Stand.of_body Bd
  have e0 : s₁.heap = h0 := by rw [← hh, Bd.state]; rfl
  have N0 := Fr.nil n0
  refine own_go (S' := s₁.setTop (mkF m 0 #[.val (.ref a0)] [])) (fun t k => castTop (own_ef_rm7_4 m a0) k) ?_
  refine own_go (S' := s₁.setTop (mkF m 1 #[.val (.ref a0)] [(.ref a0)])) (fun target kt => ?_) ?_
  · skip
    show Steps p.tables e below (s₁.setTop (mkF m 0 #[.val (.ref a0)] [])) _
    refine XS.aloadN X0.here hx rfl (hb hby d7_0) rfl rfl ?_
    exact kt
  obtain ⟨T45, X45, e45, st45⟩ := getF X0 hx hZ hown (host := "") (Or.inl (hw _ (List.mem_of_getElem? (i := 41) rfl))) Via.refl e0 pf1 (g := (mkF m 1 #[.val (.ref a0)] [(.ref a0)])) rfl rfl (hb hby d7_1)
  refine own_go (S' := T45.setTop (mkF m 4 #[.val (.ref a0)] [(.ref b1)])) st45 ?_
  refine own_go (S' := T45.setTop (mkF m 5 #[.val (.ref a0)] [(.ref a0), (.ref b1)])) (fun target kt => ?_) ?_
  · skip
    show Steps p.tables e below (T45.setTop (mkF m 4 #[.val (.ref a0)] [(.ref b1)])) _
    refine XS.aloadN X45.here hx rfl (hb hby d7_4) rfl rfl ?_
    exact kt
  obtain ⟨T46, X46, e46, st46⟩ := getF X45 hx hZ hown (host := "") (Or.inl (hw _ (List.mem_of_getElem? (i := 41) rfl))) Via.refl e45 pf1 (g := (mkF m 5 #[.val (.ref a0)] [(.ref a0), (.ref b1)])) rfl rfl (hb hby d7_5)
  refine own_go (S' := T46.setTop (mkF m 8 #[.val (.ref a0)] [(.ref b1), (.ref b1)])) st46 ?_
  obtain ⟨c47, Ar47, S47, M47, H47⟩ := id pf2
  have st47 : ∀ target, Steps p.tables e below (T46.setTop (mkF m 9 #[.val (.ref a0)] [(.int (4 : Int32)), (.ref b1)])) target → Steps p.tables e below (T46.setTop (mkF m 8 #[.val (.ref a0)] [(.ref b1), (.ref b1)])) target := fun target kt => X46.arraylength hx (cell := c47) (by rw [e46]; exact Ar47.1) (State.isArrayOf_alike hZ.alike Ar47.2.1) (g := (mkF m 8 #[.val (.ref a0)] [(.ref b1), (.ref b1)])) rfl rfl (hb hby d7_8) _ (by rw [own_len S47]; exact kt)
  refine own_go (S' := T46.setTop (mkF m 9 #[.val (.ref a0)] [(.int (4 : Int32)), (.ref b1)])) st47 ?_
  refine own_go (S' := T46.setTop (mkF m 11 #[.val (.ref a0)] [(.int (3 : Int32)), (.ref b1)])) (fun target kt => ?_) ?_
  · skip
    show Steps p.tables e below (T46.setTop (mkF m 9 #[.val (.ref a0)] [(.int (4 : Int32)), (.ref b1)])) _
    refine XS.iconst X46.here hx rfl (hb hby d7_9) ?_
    show Steps p.tables e below (T46.setTop (mkF m 10 #[.val (.ref a0)] [(.int (1 : Int32)), (.int (4 : Int32)), (.ref b1)])) _
    refine XS.isub X46.here hx rfl (hb hby d7_10) rfl ?_
    rw [show ((4 : Int32) - (1 : Int32)) = (3 : Int32) from by decide]
    exact kt
  obtain ⟨c48, Ar48, S48, M48, H48⟩ := id pf2
  have hj48 : ¬ (3 : Int32) < 0 ∧ ((3 : Int32)).toNatClampNeg < 4 := ⟨by decide, by decide⟩
  have st48 : ∀ target, Steps p.tables e below (T46.setTop (mkF m 12 #[.val (.ref a0)] [(.long (g 3))])) target → Steps p.tables e below (T46.setTop (mkF m 11 #[.val (.ref a0)] [(.int (3 : Int32)), (.ref b1)])) target := fun target kt => X46.laload hx (j := (3 : Int32)) (v := (.long (g 3))) (by rw [e46]; exact Ar48.1) (State.isArrayOf_alike hZ.alike Ar48.2.1) Ar48.2.2 (own_in S48 hj48) (H48 _ hj48.2) (g := (mkF m 11 #[.val (.ref a0)] [(.int (3 : Int32)), (.ref b1)])) rfl rfl (hb hby d7_11) _ kt
  refine own_go (S' := T46.setTop (mkF m 12 #[.val (.ref a0)] [(.long (g 3))])) st48 ?_
  obtain ⟨fs, hr, hrun, hended, hW, hsame⟩ := X46.leave (v := some (.long (g 3))) (fun h => by rw [Bd.returns] at h; cases h)
  refine ⟨_, _, ?_, hrun, hended, _, _, rfl, ?_, ⟨_, rfl⟩, hW, hsame.mono (by decide) (by decide)⟩
  · exact retL X46 hx Bd.returns (hb hby d7_12) hr
  · show Q7_4 Z a0 w1 b1 g h0 n0 _ T46.heap _
    rw [e46]
    exact ⟨rfl, N0, rfl⟩
theorem own_cases {k n : Int32} (h : n = ((1 : Int32) + (k &&& (3 : Int32)))) : n = 1 ∨ n = 2 ∨ n = 3 ∨ n = 4 := by
  have e := Jvm.Kit.i32_mask k 3 (k := 2) (by decide) (by decide)
  have k1 : (1 : Int32).toInt = 1 := by decide
  have hn : n.toInt = 1 + (k &&& 3).toInt := by rw [h, Jvm.Kit.i32_add (by omega) (by omega), k1]
  have c : n.toInt = 1 ∨ n.toInt = 2 ∨ n.toInt = 3 ∨ n.toInt = 4 := by omega
  rcases c with c | c | c | c
  · exact Or.inl (Int32.toInt_inj.mp c)
  · exact Or.inr (Or.inl (Int32.toInt_inj.mp c))
  · exact Or.inr (Or.inr (Or.inl (Int32.toInt_inj.mp c)))
  · exact Or.inr (Or.inr (Or.inr (Int32.toInt_inj.mp c)))

theorem own_pd1 : parseMethodDescriptor "(J[JLjava/util/List;)V" = some ⟨[.long, (.array .long), (.object "java/util/List")], none⟩ := by decide +kernel
theorem own_pd2 : parseMethodDescriptor "()J" = some ⟨[], some .long⟩ := by decide +kernel
theorem own_pn5 : plainName "com/example/access_bindings/accessbindings/benchmark/ExchangedLastAnsweredPinLaw" = true := by first | (simp [plainName, overriddenIn]; done) | decide +kernel
set_option maxHeartbeats 40000000 in
theorem own_ef_rm0 (m : MethodId) (x0 : Int64) (x1 : Int64) (x2 : Int64) (x3 : Int64) (x4 : Int64) (x5 : Int32) : entryFrame m #[(.long x0), (.long x1), (.long x2), (.long x3), (.long x4), (.int x5)] maxLocals = mkF m 0 #[.val (.long x0), .second, .val (.long x1), .second, .val (.long x2), .second, .val (.long x3), .second, .val (.long x4), .second, .val (.int x5), .unset, .unset, .unset, .unset, .unset, .unset] [] := by first | (simp [entryFrame, mkF, argsToLocals, Value.category, maxLocals]; done) | rfl
def Q0 (Z : State) (q0 : Int64) (q1 : Int64) (q2 : Int64) (q3 : Int64) (q4 : Int64) (p5 : Int32) (dz : Addr) (h0 : Heap) (n0 : Nat) (v : Option Value) (h : Heap) (L : List Loc) : Prop := v = some (.int 1) ∧ Fr n0 L
set_option maxRecDepth 65536 in
set_option maxHeartbeats 40000000 in
theorem rm0 (l : Launch) (Z : State) (aZ : Array Value) (hw : ∀ d ∈ tables_1, d.before aZ Z = true) (ws : List Jvm.Cond) (q0 : Int64) (q1 : Int64) (q2 : Int64) (q3 : Int64) (q4 : Int64) (p5 : Int32) (dz : Addr) (h0 : Heap) (n0 : Nat) (Z0 : n0 ≤ h0.size) (pf0 : Sta Z h0 "java/util/ArrayList" "DEFAULTCAPACITY_EMPTY_ELEMENTDATA" "[Ljava/lang/Object;" (.ref dz)) :
    MetFree l x (head1 (Jvm.Cond.code x code maxLocals ret :: ws) room_1) (fun a U => a = #[(.long q0), (.long q1), (.long q2), (.long q3), (.long q4), (.int p5)] ∧ Z.Warmed39 U.vm ∧ U.heap = h0) (fun _ _ _ _ _ => True) (fun _ U o U' => ∃ v L, o = .returned v ∧ Q0 Z q0 q1 q2 q3 q4 p5 dz h0 n0 v U'.heap L ∧ FrameEnd U o U' L room_1.cells room_1.slots) := by
  refine MetFree.of_bodySF (plainFor_of_name own_pn5) hisR ?_
  intro p e s m args below meth c s₁ Bd hml0 hP hK
  obtain ⟨rfl, hZ, hh⟩ := hP
  have hx := Bd.exec
  have hby := Bd.bytes
  have hml : c.maxLocals = 17 := hml0
  have hown : s.vm.findClass "com/example/access_bindings/accessbindings/benchmark/ExchangedLastAnsweredPinLaw" = some m.cls := findClass_of_methodNamed Bd.named
  have hnm := (name_of_methodNamed Bd.named Bd.method).1
  have X0 : Stand p l e room_1 s m #[(.long q0), (.long q1), (.long q2), (.long q3), (.long q4), (.int p5)] below meth c s₁ [] 0 0 := Stand.of_body Bd
  have e0 : s₁.heap = h0 := by rw [← hh, Bd.state]; rfl
  have N0 := Fr.nil n0
  refine own_go (S' := s₁.setTop (mkF m 0 #[.val (.long q0), .second, .val (.long q1), .second, .val (.long q2), .second, .val (.long q3), .second, .val (.long q4), .second, .val (.int p5), .unset, .unset, .unset, .unset, .unset, .unset] [])) (fun t k => castTop (own_ef_rm0 m q0 q1 q2 q3 q4 p5) k) ?_
  obtain ⟨n, h_n⟩ : ∃ z : Int32, z = ((1 : Int32) + (p5 &&& (3 : Int32))) := ⟨_, rfl⟩
  refine own_go (S' := s₁.setTop (mkF m 8 #[.val (.long q0), .second, .val (.long q1), .second, .val (.long q2), .second, .val (.long q3), .second, .val (.long q4), .second, .val (.int p5), .val (.int n), .unset, .unset, .unset, .unset, .unset] [])) (fun target kt => ?_) ?_
  · subst h_n
    show Steps p.tables e below (s₁.setTop (mkF m 0 #[.val (.long q0), .second, .val (.long q1), .second, .val (.long q2), .second, .val (.long q3), .second, .val (.long q4), .second, .val (.int p5), .unset, .unset, .unset, .unset, .unset, .unset] [])) _
    refine XS.iconst X0.here hx rfl (hb hby at_0) ?_
    show Steps p.tables e below (s₁.setTop (mkF m 1 #[.val (.long q0), .second, .val (.long q1), .second, .val (.long q2), .second, .val (.long q3), .second, .val (.long q4), .second, .val (.int p5), .unset, .unset, .unset, .unset, .unset, .unset] [(.int (1 : Int32))])) _
    refine XS.iload X0.here hx rfl (hb hby at_1) rfl ?_
    show Steps p.tables e below (s₁.setTop (mkF m 3 #[.val (.long q0), .second, .val (.long q1), .second, .val (.long q2), .second, .val (.long q3), .second, .val (.long q4), .second, .val (.int p5), .unset, .unset, .unset, .unset, .unset, .unset] [(.int p5), (.int (1 : Int32))])) _
    refine XS.iconst X0.here hx rfl (hb hby at_3) ?_
    show Steps p.tables e below (s₁.setTop (mkF m 4 #[.val (.long q0), .second, .val (.long q1), .second, .val (.long q2), .second, .val (.long q3), .second, .val (.long q4), .second, .val (.int p5), .unset, .unset, .unset, .unset, .unset, .unset] [(.int (3 : Int32)), (.int p5), (.int (1 : Int32))])) _
    refine XS.iand X0.here hx rfl (hb hby at_4) rfl ?_
    show Steps p.tables e below (s₁.setTop (mkF m 5 #[.val (.long q0), .second, .val (.long q1), .second, .val (.long q2), .second, .val (.long q3), .second, .val (.long q4), .second, .val (.int p5), .unset, .unset, .unset, .unset, .unset, .unset] [(.int (p5 &&& (3 : Int32))), (.int (1 : Int32))])) _
    refine XS.iadd X0.here hx rfl (hb hby at_5) rfl ?_
    show Steps p.tables e below (s₁.setTop (mkF m 6 #[.val (.long q0), .second, .val (.long q1), .second, .val (.long q2), .second, .val (.long q3), .second, .val (.long q4), .second, .val (.int p5), .unset, .unset, .unset, .unset, .unset, .unset] [(.int ((1 : Int32) + (p5 &&& (3 : Int32))))])) _
    refine XS.istore X0.here hx rfl (hb hby at_6) rfl (l' := #[.val (.long q0), .second, .val (.long q1), .second, .val (.long q2), .second, .val (.long q3), .second, .val (.long q4), .second, .val (.int p5), .val (.int ((1 : Int32) + (p5 &&& (3 : Int32)))), .unset, .unset, .unset, .unset, .unset]) rfl ?_
    exact kt
  rcases own_cases h_n with hs_n | hs_n | hs_n | hs_n
  · subst hs_n
    refine own_go (S' := s₁.setTop (mkF m 10 #[.val (.long q0), .second, .val (.long q1), .second, .val (.long q2), .second, .val (.long q3), .second, .val (.long q4), .second, .val (.int p5), .val (.int (1 : Int32)), .unset, .unset, .unset, .unset, .unset] [(.int (1 : Int32))])) (fun target kt => ?_) ?_
    · skip
      show Steps p.tables e below (s₁.setTop (mkF m 8 #[.val (.long q0), .second, .val (.long q1), .second, .val (.long q2), .second, .val (.long q3), .second, .val (.long q4), .second, .val (.int p5), .val (.int (1 : Int32)), .unset, .unset, .unset, .unset, .unset] [])) _
      refine XS.iload X0.here hx rfl (hb hby at_8) rfl ?_
      exact kt
    obtain ⟨T49, h49, k49, X49, e49, E49, A49, B49, st49⟩ := newPE X0 hx hZ (hw _ (List.mem_of_getElem? (i := 0) rfl)) e0 (g := (mkF m 10 #[.val (.long q0), .second, .val (.long q1), .second, .val (.long q2), .second, .val (.long q3), .second, .val (.long q4), .second, .val (.int p5), .val (.int (1 : Int32)), .unset, .unset, .unset, .unset, .unset] [(.int (1 : Int32))])) rfl (hb hby at_10) rfl (by decide) (cap := 1) (by decide) (by decide) (by decide) (by decide) (ad := "[J") (by decide)
    obtain ⟨b49, g49⟩ : ∃ z, z = h0.size := ⟨_, rfl⟩
    rw [← g49] at A49 B49 st49
    have f50 : Sta Z h49 "java/util/ArrayList" "DEFAULTCAPACITY_EMPTY_ELEMENTDATA" "[Ljava/lang/Object;" (.ref dz) := pf0.ext E49
    have g_b49 : n0 ≤ b49 := Nat.le_trans Z0 (Nat.le_of_eq g49.symm)
    have Z49 : n0 ≤ h49.size := Nat.le_trans Z0 E49.1
    have f51 : own_AJ Z h49 b49 .long 1 (fun _ => 0) := own_AJ.fresh A49 rfl
    refine own_go (S' := T49.setTop (mkF m 12 #[.val (.long q0), .second, .val (.long q1), .second, .val (.long q2), .second, .val (.long q3), .second, .val (.long q4), .second, .val (.int p5), .val (.int (1 : Int32)), .unset, .unset, .unset, .unset, .unset] [(.ref b49)])) st49 ?_
    refine own_go (S' := T49.setTop (mkF m 18 #[.val (.long q0), .second, .val (.long q1), .second, .val (.long q2), .second, .val (.long q3), .second, .val (.long q4), .second, .val (.int p5), .val (.int (1 : Int32)), .val (.ref b49), .unset, .unset, .unset, .unset] [(.long q1), (.int (0 : Int32)), (.ref b49)])) (fun target kt => ?_) ?_
    · skip
      show Steps p.tables e below (T49.setTop (mkF m 12 #[.val (.long q0), .second, .val (.long q1), .second, .val (.long q2), .second, .val (.long q3), .second, .val (.long q4), .second, .val (.int p5), .val (.int (1 : Int32)), .unset, .unset, .unset, .unset, .unset] [(.ref b49)])) _
      refine XS.astore X49.here hx rfl (hb hby at_12) rfl rfl (l' := #[.val (.long q0), .second, .val (.long q1), .second, .val (.long q2), .second, .val (.long q3), .second, .val (.long q4), .second, .val (.int p5), .val (.int (1 : Int32)), .val (.ref b49), .unset, .unset, .unset, .unset]) rfl ?_
      show Steps p.tables e below (T49.setTop (mkF m 14 #[.val (.long q0), .second, .val (.long q1), .second, .val (.long q2), .second, .val (.long q3), .second, .val (.long q4), .second, .val (.int p5), .val (.int (1 : Int32)), .val (.ref b49), .unset, .unset, .unset, .unset] [])) _
      refine XS.aload X49.here hx rfl (hb hby at_14) rfl rfl ?_
      show Steps p.tables e below (T49.setTop (mkF m 16 #[.val (.long q0), .second, .val (.long q1), .second, .val (.long q2), .second, .val (.long q3), .second, .val (.long q4), .second, .val (.int p5), .val (.int (1 : Int32)), .val (.ref b49), .unset, .unset, .unset, .unset] [(.ref b49)])) _
      refine XS.iconst X49.here hx rfl (hb hby at_16) ?_
      show Steps p.tables e below (T49.setTop (mkF m 17 #[.val (.long q0), .second, .val (.long q1), .second, .val (.long q2), .second, .val (.long q3), .second, .val (.long q4), .second, .val (.int p5), .val (.int (1 : Int32)), .val (.ref b49), .unset, .unset, .unset, .unset] [(.int (0 : Int32)), (.ref b49)])) _
      refine XS.lloadN X49.here hx rfl (hb hby at_17) rfl ?_
      exact kt
    obtain ⟨c52, Ar52, S52, M52, H52⟩ := id f51
    have hin52 : ¬ ((0 : Int32) < 0 ∨ c52.slots.size ≤ ((0 : Int32)).toNatClampNeg) := own_in S52 ⟨by decide, by decide⟩
    obtain ⟨T53, h53, X53, e53, W53, st53⟩ := stJ X49 hx hZ e49 Ar52 (j := (0 : Int32)) hin52 (g := (mkF m 18 #[.val (.long q0), .second, .val (.long q1), .second, .val (.long q2), .second, .val (.long q3), .second, .val (.long q4), .second, .val (.int p5), .val (.int (1 : Int32)), .val (.ref b49), .unset, .unset, .unset, .unset] [(.long q1), (.int (0 : Int32)), (.ref b49)])) rfl rfl (hb hby at_18)
    have f55 : Sta Z h53 "java/util/ArrayList" "DEFAULTCAPACITY_EMPTY_ELEMENTDATA" "[Ljava/lang/Object;" (.ref dz) := f50.wr W53
    have f56 : Exa Z h53 b49 "[J" := B49.wr W53
    have f54 : own_AJ Z h53 b49 .long 1 (own_upd (fun _ => 0) 0 q1) := own_AJ.set Ar52 S52 M52 H52 W53
    have Z53 : n0 ≤ h53.size := Nat.le_trans Z49 (Keep.of_wr W53).1
    have N53 := Fr.snoc X53 N0 g_b49
    refine own_go (S' := T53.setTop (mkF m 19 #[.val (.long q0), .second, .val (.long q1), .second, .val (.long q2), .second, .val (.long q3), .second, .val (.long q4), .second, .val (.int p5), .val (.int (1 : Int32)), .val (.ref b49), .unset, .unset, .unset, .unset] [])) st53 ?_
    refine own_go (S' := T53.setTop (mkF m 97 #[.val (.long q0), .second, .val (.long q1), .second, .val (.long q2), .second, .val (.long q3), .second, .val (.long q4), .second, .val (.int p5), .val (.int (1 : Int32)), .val (.ref b49), .val (.long q1), .second, .unset, .unset] [])) (fun target kt => ?_) ?_
    · skip
      show Steps p.tables e below (T53.setTop (mkF m 19 #[.val (.long q0), .second, .val (.long q1), .second, .val (.long q2), .second, .val (.long q3), .second, .val (.long q4), .second, .val (.int p5), .val (.int (1 : Int32)), .val (.ref b49), .unset, .unset, .unset, .unset] [])) _
      refine XS.iload X53.here hx rfl (hb hby at_19) rfl ?_
      show Steps p.tables e below (T53.setTop (mkF m 21 #[.val (.long q0), .second, .val (.long q1), .second, .val (.long q2), .second, .val (.long q3), .second, .val (.long q4), .second, .val (.int p5), .val (.int (1 : Int32)), .val (.ref b49), .unset, .unset, .unset, .unset] [(.int (1 : Int32))])) _
      refine XS.iconst X53.here hx rfl (hb hby at_21) ?_
      show Steps p.tables e below (T53.setTop (mkF m 22 #[.val (.long q0), .second, .val (.long q1), .second, .val (.long q2), .second, .val (.long q3), .second, .val (.long q4), .second, .val (.int p5), .val (.int (1 : Int32)), .val (.ref b49), .unset, .unset, .unset, .unset] [(.int (1 : Int32)), (.int (1 : Int32))])) _
      refine XS.icmpYes X53.here hx rfl (pc0 := 22) (pc' := 31) rfl (hb hby at_22) rfl (flt (by decide : ¬ (1 : Int32) < (1 : Int32))).2.2.2 (by decide) (by decide) ?_
      show Steps p.tables e below (T53.setTop (mkF m 31 #[.val (.long q0), .second, .val (.long q1), .second, .val (.long q2), .second, .val (.long q3), .second, .val (.long q4), .second, .val (.int p5), .val (.int (1 : Int32)), .val (.ref b49), .unset, .unset, .unset, .unset] [])) _
      refine XS.iload X53.here hx rfl (hb hby at_31) rfl ?_
      show Steps p.tables e below (T53.setTop (mkF m 33 #[.val (.long q0), .second, .val (.long q1), .second, .val (.long q2), .second, .val (.long q3), .second, .val (.long q4), .second, .val (.int p5), .val (.int (1 : Int32)), .val (.ref b49), .unset, .unset, .unset, .unset] [(.int (1 : Int32))])) _
      refine XS.iconst X53.here hx rfl (hb hby at_33) ?_
      show Steps p.tables e below (T53.setTop (mkF m 34 #[.val (.long q0), .second, .val (.long q1), .second, .val (.long q2), .second, .val (.long q3), .second, .val (.long q4), .second, .val (.int p5), .val (.int (1 : Int32)), .val (.ref b49), .unset, .unset, .unset, .unset] [(.int (2 : Int32)), (.int (1 : Int32))])) _
      refine XS.icmpYes X53.here hx rfl (pc0 := 34) (pc' := 43) rfl (hb hby at_34) rfl (flt (by decide : ¬ (2 : Int32) < (1 : Int32))).2.2.2 (by decide) (by decide) ?_
      show Steps p.tables e below (T53.setTop (mkF m 43 #[.val (.long q0), .second, .val (.long q1), .second, .val (.long q2), .second, .val (.long q3), .second, .val (.long q4), .second, .val (.int p5), .val (.int (1 : Int32)), .val (.ref b49), .unset, .unset, .unset, .unset] [])) _
      refine XS.iload X53.here hx rfl (hb hby at_43) rfl ?_
      show Steps p.tables e below (T53.setTop (mkF m 45 #[.val (.long q0), .second, .val (.long q1), .second, .val (.long q2), .second, .val (.long q3), .second, .val (.long q4), .second, .val (.int p5), .val (.int (1 : Int32)), .val (.ref b49), .unset, .unset, .unset, .unset] [(.int (1 : Int32))])) _
      refine XS.iconst X53.here hx rfl (hb hby at_45) ?_
      show Steps p.tables e below (T53.setTop (mkF m 46 #[.val (.long q0), .second, .val (.long q1), .second, .val (.long q2), .second, .val (.long q3), .second, .val (.long q4), .second, .val (.int p5), .val (.int (1 : Int32)), .val (.ref b49), .unset, .unset, .unset, .unset] [(.int (3 : Int32)), (.int (1 : Int32))])) _
      refine XS.icmpYes X53.here hx rfl (pc0 := 46) (pc' := 55) rfl (hb hby at_46) rfl (flt (by decide : ¬ (3 : Int32) < (1 : Int32))).2.2.2 (by decide) (by decide) ?_
      show Steps p.tables e below (T53.setTop (mkF m 55 #[.val (.long q0), .second, .val (.long q1), .second, .val (.long q2), .second, .val (.long q3), .second, .val (.long q4), .second, .val (.int p5), .val (.int (1 : Int32)), .val (.ref b49), .unset, .unset, .unset, .unset] [])) _
      refine XS.iload X53.here hx rfl (hb hby at_55) rfl ?_
      show Steps p.tables e below (T53.setTop (mkF m 57 #[.val (.long q0), .second, .val (.long q1), .second, .val (.long q2), .second, .val (.long q3), .second, .val (.long q4), .second, .val (.int p5), .val (.int (1 : Int32)), .val (.ref b49), .unset, .unset, .unset, .unset] [(.int (1 : Int32))])) _
      refine XS.iconst X53.here hx rfl (hb hby at_57) ?_
      show Steps p.tables e below (T53.setTop (mkF m 58 #[.val (.long q0), .second, .val (.long q1), .second, .val (.long q2), .second, .val (.long q3), .second, .val (.long q4), .second, .val (.int p5), .val (.int (1 : Int32)), .val (.ref b49), .unset, .unset, .unset, .unset] [(.int (1 : Int32)), (.int (1 : Int32))])) _
      refine XS.icmpNo X53.here hx rfl (hb hby at_58) rfl (teq (by decide : (1 : Int32) = (1 : Int32))).2 ?_
      show Steps p.tables e below (T53.setTop (mkF m 61 #[.val (.long q0), .second, .val (.long q1), .second, .val (.long q2), .second, .val (.long q3), .second, .val (.long q4), .second, .val (.int p5), .val (.int (1 : Int32)), .val (.ref b49), .unset, .unset, .unset, .unset] [])) _
      refine XS.lloadN X53.here hx rfl (hb hby at_61) rfl ?_
      show Steps p.tables e below (T53.setTop (mkF m 62 #[.val (.long q0), .second, .val (.long q1), .second, .val (.long q2), .second, .val (.long q3), .second, .val (.long q4), .second, .val (.int p5), .val (.int (1 : Int32)), .val (.ref b49), .unset, .unset, .unset, .unset] [(.long q1)])) _
      refine XS.lstore X53.here hx rfl (hb hby at_62) rfl (l' := #[.val (.long q0), .second, .val (.long q1), .second, .val (.long q2), .second, .val (.long q3), .second, .val (.long q4), .second, .val (.int p5), .val (.int (1 : Int32)), .val (.ref b49), .val (.long q1), .second, .unset, .unset]) rfl ?_
      show Steps p.tables e below (T53.setTop (mkF m 64 #[.val (.long q0), .second, .val (.long q1), .second, .val (.long q2), .second, .val (.long q3), .second, .val (.long q4), .second, .val (.int p5), .val (.int (1 : Int32)), .val (.ref b49), .val (.long q1), .second, .unset, .unset] [])) _
      refine XS.goto X53.here hx rfl (pc0 := 64) (pc' := 97) rfl (hb hby at_64) (by decide) (by decide) ?_
      exact kt
    obtain ⟨T57, h57, X57, e57, E57, A57, D57, -, st57⟩ := newO X53 hx hZ hown (hw _ (List.mem_of_getElem? (i := 1) rfl)) (hw _ (List.mem_of_getElem? (i := 2) rfl)) (hw _ (List.mem_of_getElem? (i := 3) rfl)) e53 (g := (mkF m 97 #[.val (.long q0), .second, .val (.long q1), .second, .val (.long q2), .second, .val (.long q3), .second, .val (.long q4), .second, .val (.int p5), .val (.int (1 : Int32)), .val (.ref b49), .val (.long q1), .second, .unset, .unset] [])) rfl (hb hby at_97) (by decide) (by decide)
    obtain ⟨b57, g57⟩ : ∃ z, z = h53.size := ⟨_, rfl⟩
    rw [← g57] at A57 D57 st57
    have f58 : Sta Z h57 "java/util/ArrayList" "DEFAULTCAPACITY_EMPTY_ELEMENTDATA" "[Ljava/lang/Object;" (.ref dz) := f55.ext E57
    have f59 : Exa Z h57 b49 "[J" := f56.ext E57
    have f60 : own_AJ Z h57 b49 .long 1 (own_upd (fun _ => 0) 0 q1) := f54.ext E57
    have g_b57 : n0 ≤ b57 := Nat.le_trans Z53 (Nat.le_of_eq g57.symm)
    have ne_b49_b57 : b49 ≠ b57 := Nat.ne_of_lt (Nat.lt_of_lt_of_le f56.lt (Nat.le_of_eq g57.symm))
    have Z57 : n0 ≤ h57.size := Nat.le_trans Z53 E57.1
    have f61 : Fld Z h57 b57 "java/util/AbstractList" "modCount" "I" (.int (0 : Int32)) := D57 (Or.inl (hw _ (List.mem_of_getElem? (i := 23) rfl))) (ty := .int) (by decide)
    have f62 : Fld Z h57 b57 "java/util/ArrayList" "elementData" "[Ljava/lang/Object;" .null := D57 (Or.inl (hw _ (List.mem_of_getElem? (i := 26) rfl))) (ty := (.array (.object "java/lang/Object"))) (by decide)
    refine own_go (S' := T57.setTop (mkF m 100 #[.val (.long q0), .second, .val (.long q1), .second, .val (.long q2), .second, .val (.long q3), .second, .val (.long q4), .second, .val (.int p5), .val (.int (1 : Int32)), .val (.ref b49), .val (.long q1), .second, .unset, .unset] [(.ref b57)])) st57 ?_
    refine own_go (S' := T57.setTop (mkF m 101 #[.val (.long q0), .second, .val (.long q1), .second, .val (.long q2), .second, .val (.long q3), .second, .val (.long q4), .second, .val (.int p5), .val (.int (1 : Int32)), .val (.ref b49), .val (.long q1), .second, .unset, .unset] [(.ref b57), (.ref b57)])) (fun target kt => ?_) ?_
    · skip
      show Steps p.tables e below (T57.setTop (mkF m 100 #[.val (.long q0), .second, .val (.long q1), .second, .val (.long q2), .second, .val (.long q3), .second, .val (.long q4), .second, .val (.int p5), .val (.int (1 : Int32)), .val (.ref b49), .val (.long q1), .second, .unset, .unset] [(.ref b57)])) _
      refine XS.dup X57.here hx rfl (hb hby at_100) rfl rfl ?_
      exact kt
    obtain ⟨_, _, ⟨T63, L63, k63, n63⟩, -, X63, ⟨Lc63, hQ63, l63, y63, z63⟩, st63⟩ := X57.specialBack hx (y := (⟨"java/util/ArrayList", "<init>", "()V"⟩ : MethodName)) rfl hown (mvT hZ (hw _ (List.mem_of_getElem? (i := 4) rfl))) (mvT hZ (hw _ (List.mem_of_getElem? (i := 5) rfl))) (mvT hZ (hw _ (List.mem_of_getElem? (i := 6) rfl))) (by decide) (backOf (W := 1) (rm1 l Z aZ hw [] b57 dz h57 n0 Z57 A57 f61 f62 f58 g_b57) hZ (hw _ (List.mem_of_getElem? (i := 6) rfl)) (hw _ (List.mem_of_getElem? (i := 3) rfl)) (by decide) (by decide)) (g := (mkF m 101 #[.val (.long q0), .second, .val (.long q1), .second, .val (.long q2), .second, .val (.long q3), .second, .val (.long q4), .second, .val (.int p5), .val (.int (1 : Int32)), .val (.ref b49), .val (.long q1), .second, .unset, .unset] [(.ref b57), (.ref b57)])) rfl (by rw [hml]; rfl) (Steps.refl _) (a := b57) (argsL := []) (rest := [(.ref b57)]) (lenOf own_pd0 rfl) rfl (by show 2 * 0 + _ ≤ _; exact Nat.le_of_eq rfl) (hb hby at_101) (fun _ _ => ⟨rfl, e57, (by decide : 2 + 0 ≤ _), (by decide : 4 + 0 ≤ _)⟩)
    dsimp only [Pt.U, Pt.locs, Pt.cells, Pt.slots] at X63 l63 y63 z63 st63 hQ63
    subst l63 y63 z63
    obtain ⟨rfl, N63q, K63q, f63_0⟩ := hQ63
    have N63 := Fr.app N53 N63q
    have f64 : Sta Z T63.heap "java/util/ArrayList" "DEFAULTCAPACITY_EMPTY_ELEMENTDATA" "[Ljava/lang/Object;" (.ref dz) := own_Sta_keep f58 K63q (allS (own_nst A57) all0)
    have f65 : Exa Z T63.heap b49 "[J" := f59.keep K63q
    have f66 : own_AJ Z T63.heap b49 .long 1 (own_upd (fun _ => 0) 0 q1) := f60.keep K63q (ninS ne_b49_b57 nin0)
    have f67 : Exa Z T63.heap b57 "java/util/ArrayList" := A57.keep K63q
    have Z63 : n0 ≤ T63.heap.size := Nat.le_trans Z57 K63q.1
    refine own_go (S' := T63.setTop (mkF m 104 #[.val (.long q0), .second, .val (.long q1), .second, .val (.long q2), .second, .val (.long q3), .second, .val (.long q4), .second, .val (.int p5), .val (.int (1 : Int32)), .val (.ref b49), .val (.long q1), .second, .unset, .unset] [(.ref b57)])) (fun _ k => st63.trans k) ?_
    refine own_go (S' := T63.setTop (mkF m 106 #[.val (.long q0), .second, .val (.long q1), .second, .val (.long q2), .second, .val (.long q3), .second, .val (.long q4), .second, .val (.int p5), .val (.int (1 : Int32)), .val (.ref b49), .val (.long q1), .second, .val (.ref b57), .unset] [])) (fun target kt => ?_) ?_
    · skip
      show Steps p.tables e below (T63.setTop (mkF m 104 #[.val (.long q0), .second, .val (.long q1), .second, .val (.long q2), .second, .val (.long q3), .second, .val (.long q4), .second, .val (.int p5), .val (.int (1 : Int32)), .val (.ref b49), .val (.long q1), .second, .unset, .unset] [(.ref b57)])) _
      refine XS.astore X63.here hx rfl (hb hby at_104) rfl rfl (l' := #[.val (.long q0), .second, .val (.long q1), .second, .val (.long q2), .second, .val (.long q3), .second, .val (.long q4), .second, .val (.int p5), .val (.int (1 : Int32)), .val (.ref b49), .val (.long q1), .second, .val (.ref b57), .unset]) rfl ?_
      exact kt
    obtain ⟨T70, h70, X70, e70, E70, A70, D70, -, st70⟩ := newO X63 hx hZ hown (hw _ (List.mem_of_getElem? (i := 27) rfl)) (hw _ (List.mem_of_getElem? (i := 28) rfl)) (hw _ (List.mem_of_getElem? (i := 29) rfl)) rfl (g := (mkF m 106 #[.val (.long q0), .second, .val (.long q1), .second, .val (.long q2), .second, .val (.long q3), .second, .val (.long q4), .second, .val (.int p5), .val (.int (1 : Int32)), .val (.ref b49), .val (.long q1), .second, .val (.ref b57), .unset] [])) rfl (hb hby at_106) (by decide) (by decide)
    obtain ⟨b70, g70⟩ : ∃ z, z = T63.heap.size := ⟨_, rfl⟩
    rw [← g70] at A70 D70 st70
    have f71 : Sta Z h70 "java/util/ArrayList" "DEFAULTCAPACITY_EMPTY_ELEMENTDATA" "[Ljava/lang/Object;" (.ref dz) := f64.ext E70
    have f72 : Exa Z h70 b49 "[J" := f65.ext E70
    have f73 : own_AJ Z h70 b49 .long 1 (own_upd (fun _ => 0) 0 q1) := f66.ext E70
    have f74 : Exa Z h70 b57 "java/util/ArrayList" := f63_0.ext E70
    have g_b70 : n0 ≤ b70 := Nat.le_trans Z63 (Nat.le_of_eq g70.symm)
    have ne_b49_b70 : b49 ≠ b70 := Nat.ne_of_lt (Nat.lt_of_lt_of_le f65.lt (Nat.le_of_eq g70.symm))
    have ne_b57_b70 : b57 ≠ b70 := Nat.ne_of_lt (Nat.lt_of_lt_of_le f63_0.lt (Nat.le_of_eq g70.symm))
    have Z70 : n0 ≤ h70.size := Nat.le_trans Z63 E70.1
    have f75 : Fld Z h70 b70 "com/example/access_bindings/accessbindings/benchmark/Exchanged" "firstSent" "J" (.long (0 : Int64)) := D70 (Or.inr (hw _ (List.mem_of_getElem? (i := 40) rfl))) (ty := .long) (by decide)
    have f76 : Fld Z h70 b70 "com/example/access_bindings/accessbindings/benchmark/Exchanged" "answeredAt" "[J" .null := D70 (Or.inr (hw _ (List.mem_of_getElem? (i := 42) rfl))) (ty := (.array .long)) (by decide)
    have f77 : Fld Z h70 b70 "com/example/access_bindings/accessbindings/benchmark/Exchanged" "answers" "Ljava/util/List;" .null := D70 (Or.inr (hw _ (List.mem_of_getElem? (i := 44) rfl))) (ty := (.object "java/util/List")) (by decide)
    refine own_go (S' := T70.setTop (mkF m 109 #[.val (.long q0), .second, .val (.long q1), .second, .val (.long q2), .second, .val (.long q3), .second, .val (.long q4), .second, .val (.int p5), .val (.int (1 : Int32)), .val (.ref b49), .val (.long q1), .second, .val (.ref b57), .unset] [(.ref b70)])) st70 ?_
    refine own_go (S' := T70.setTop (mkF m 115 #[.val (.long q0), .second, .val (.long q1), .second, .val (.long q2), .second, .val (.long q3), .second, .val (.long q4), .second, .val (.int p5), .val (.int (1 : Int32)), .val (.ref b49), .val (.long q1), .second, .val (.ref b57), .unset] [(.ref b57), (.ref b49), (.long q0), (.ref b70), (.ref b70)])) (fun target kt => ?_) ?_
    · skip
      show Steps p.tables e below (T70.setTop (mkF m 109 #[.val (.long q0), .second, .val (.long q1), .second, .val (.long q2), .second, .val (.long q3), .second, .val (.long q4), .second, .val (.int p5), .val (.int (1 : Int32)), .val (.ref b49), .val (.long q1), .second, .val (.ref b57), .unset] [(.ref b70)])) _
      refine XS.dup X70.here hx rfl (hb hby at_109) rfl rfl ?_
      show Steps p.tables e below (T70.setTop (mkF m 110 #[.val (.long q0), .second, .val (.long q1), .second, .val (.long q2), .second, .val (.long q3), .second, .val (.long q4), .second, .val (.int p5), .val (.int (1 : Int32)), .val (.ref b49), .val (.long q1), .second, .val (.ref b57), .unset] [(.ref b70), (.ref b70)])) _
      refine XS.lloadN X70.here hx rfl (hb hby at_110) rfl ?_
      show Steps p.tables e below (T70.setTop (mkF m 111 #[.val (.long q0), .second, .val (.long q1), .second, .val (.long q2), .second, .val (.long q3), .second, .val (.long q4), .second, .val (.int p5), .val (.int (1 : Int32)), .val (.ref b49), .val (.long q1), .second, .val (.ref b57), .unset] [(.long q0), (.ref b70), (.ref b70)])) _
      refine XS.aload X70.here hx rfl (hb hby at_111) rfl rfl ?_
      show Steps p.tables e below (T70.setTop (mkF m 113 #[.val (.long q0), .second, .val (.long q1), .second, .val (.long q2), .second, .val (.long q3), .second, .val (.long q4), .second, .val (.int p5), .val (.int (1 : Int32)), .val (.ref b49), .val (.long q1), .second, .val (.ref b57), .unset] [(.ref b49), (.long q0), (.ref b70), (.ref b70)])) _
      refine XS.aload X70.here hx rfl (hb hby at_113) rfl rfl ?_
      exact kt
    obtain ⟨_, _, ⟨T78, L78, k78, n78⟩, -, X78, ⟨Lc78, hQ78, l78, y78, z78⟩, st78⟩ := X70.specialBack hx (y := (⟨"com/example/access_bindings/accessbindings/benchmark/Exchanged", "<init>", "(J[JLjava/util/List;)V"⟩ : MethodName)) rfl hown (mvT hZ (hw _ (List.mem_of_getElem? (i := 30) rfl))) (mvT hZ (hw _ (List.mem_of_getElem? (i := 31) rfl))) (mvT hZ (hw _ (List.mem_of_getElem? (i := 32) rfl))) (by decide) (backOf (W := 1) (rm5 l Z aZ hw [] b70 q0 b49 b57 h70 n0 Z70 A70 f75 f76 f77 g_b70) hZ (hw _ (List.mem_of_getElem? (i := 32) rfl)) (hw _ (List.mem_of_getElem? (i := 29) rfl)) (by decide) (by decide)) (g := (mkF m 115 #[.val (.long q0), .second, .val (.long q1), .second, .val (.long q2), .second, .val (.long q3), .second, .val (.long q4), .second, .val (.int p5), .val (.int (1 : Int32)), .val (.ref b49), .val (.long q1), .second, .val (.ref b57), .unset] [(.ref b57), (.ref b49), (.long q0), (.ref b70), (.ref b70)])) rfl (by rw [hml]; rfl) (Steps.refl _) (a := b70) (argsL := [(.long q0), (.ref b49), (.ref b57)]) (rest := [(.ref b70)]) (lenOf own_pd1 rfl) rfl (by show 2 * 0 + _ ≤ _; exact Nat.le_of_eq rfl) (hb hby at_115) (fun _ _ => ⟨rfl, e70, (by decide : 3 + 0 ≤ _), (by decide : 7 + 0 ≤ _)⟩)
    dsimp only [Pt.U, Pt.locs, Pt.cells, Pt.slots] at X78 l78 y78 z78 st78 hQ78
    subst l78 y78 z78
    obtain ⟨rfl, N78q, K78q, f78_0, f78_1, f78_2, f78_3⟩ := hQ78
    have N78 := Fr.app N63 N78q
    have f79 : Sta Z T78.heap "java/util/ArrayList" "DEFAULTCAPACITY_EMPTY_ELEMENTDATA" "[Ljava/lang/Object;" (.ref dz) := own_Sta_keep f71 K78q (allS (own_nst A70) all0)
    have f80 : Exa Z T78.heap b49 "[J" := f72.keep K78q
    have f81 : own_AJ Z T78.heap b49 .long 1 (own_upd (fun _ => 0) 0 q1) := f73.keep K78q (ninS ne_b49_b70 nin0)
    have f82 : Exa Z T78.heap b57 "java/util/ArrayList" := f74.keep K78q
    have f83 : Exa Z T78.heap b70 "com/example/access_bindings/accessbindings/benchmark/Exchanged" := A70.keep K78q
    have Z78 : n0 ≤ T78.heap.size := Nat.le_trans Z70 K78q.1
    refine own_go (S' := T78.setTop (mkF m 118 #[.val (.long q0), .second, .val (.long q1), .second, .val (.long q2), .second, .val (.long q3), .second, .val (.long q4), .second, .val (.int p5), .val (.int (1 : Int32)), .val (.ref b49), .val (.long q1), .second, .val (.ref b57), .unset] [(.ref b70)])) (fun _ k => st78.trans k) ?_
    refine own_go (S' := T78.setTop (mkF m 122 #[.val (.long q0), .second, .val (.long q1), .second, .val (.long q2), .second, .val (.long q3), .second, .val (.long q4), .second, .val (.int p5), .val (.int (1 : Int32)), .val (.ref b49), .val (.long q1), .second, .val (.ref b57), .val (.ref b70)] [(.ref b70)])) (fun target kt => ?_) ?_
    · skip
      show Steps p.tables e below (T78.setTop (mkF m 118 #[.val (.long q0), .second, .val (.long q1), .second, .val (.long q2), .second, .val (.long q3), .second, .val (.long q4), .second, .val (.int p5), .val (.int (1 : Int32)), .val (.ref b49), .val (.long q1), .second, .val (.ref b57), .unset] [(.ref b70)])) _
      refine XS.astore X78.here hx rfl (hb hby at_118) rfl rfl (l' := #[.val (.long q0), .second, .val (.long q1), .second, .val (.long q2), .second, .val (.long q3), .second, .val (.long q4), .second, .val (.int p5), .val (.int (1 : Int32)), .val (.ref b49), .val (.long q1), .second, .val (.ref b57), .val (.ref b70)]) rfl ?_
      show Steps p.tables e below (T78.setTop (mkF m 120 #[.val (.long q0), .second, .val (.long q1), .second, .val (.long q2), .second, .val (.long q3), .second, .val (.long q4), .second, .val (.int p5), .val (.int (1 : Int32)), .val (.ref b49), .val (.long q1), .second, .val (.ref b57), .val (.ref b70)] [])) _
      refine XS.aload X78.here hx rfl (hb hby at_120) rfl rfl ?_
      exact kt
    obtain ⟨cq84, kq84, q84a, q84b, q84c⟩ := isOf hZ rfl f78_0
    obtain ⟨_, _, ⟨T84, L84, k84, n84⟩, -, X84, ⟨Lc84, hQ84, l84, y84, z84⟩, st84⟩ := X78.virtualBack hx (y := (⟨"com/example/access_bindings/accessbindings/benchmark/Exchanged", "lastAnswered", "()J"⟩ : MethodName)) (z := (⟨"com/example/access_bindings/accessbindings/benchmark/Exchanged", "lastAnswered", "()J"⟩ : MethodName)) hown (mvT hZ (hw _ (List.mem_of_getElem? (i := 45) rfl))) (mvT hZ (hw _ (List.mem_of_getElem? (i := 46) rfl))) (notFace_of_selects (args := #[]) (mvT hZ (hw _ (List.mem_of_getElem? (i := 48) rfl)))) (mvT hZ (hw _ (List.mem_of_getElem? (i := 48) rfl))) (mvT hZ (hw _ (List.mem_of_getElem? (i := 47) rfl))) (by decide) (backOf (W := 0) (rm7_1 l Z aZ hw [] b70 q0 b49 (own_upd (fun _ => 0) 0 q1) T78.heap n0 Z78 f78_1 f78_2 f81) hZ (hw _ (List.mem_of_getElem? (i := 49) rfl)) (hw _ (List.mem_of_getElem? (i := 29) rfl)) (by decide) (by decide)) q84a q84c (g := (mkF m 122 #[.val (.long q0), .second, .val (.long q1), .second, .val (.long q2), .second, .val (.long q3), .second, .val (.long q4), .second, .val (.int p5), .val (.int (1 : Int32)), .val (.ref b49), .val (.long q1), .second, .val (.ref b57), .val (.ref b70)] [(.ref b70)])) rfl (by rw [hml]; rfl) (Steps.refl _) (argsL := []) (rest := []) (lenOf own_pd2 rfl) rfl (by show 2 * 0 + _ ≤ _; exact Nat.le_of_eq rfl) (hb hby at_122) (fun _ _ => ⟨rfl, rfl, (by decide : 3 + 0 ≤ _), (by decide : 7 + 0 ≤ _)⟩)
    dsimp only [Pt.U, Pt.locs, Pt.cells, Pt.slots] at X84 l84 y84 z84 st84 hQ84
    subst l84 y84 z84
    obtain ⟨rfl, N84q, e84⟩ := hQ84
    have N84 := Fr.app N78 N84q
    refine own_go (S' := T84.setTop (mkF m 125 #[.val (.long q0), .second, .val (.long q1), .second, .val (.long q2), .second, .val (.long q3), .second, .val (.long q4), .second, .val (.int p5), .val (.int (1 : Int32)), .val (.ref b49), .val (.long q1), .second, .val (.ref b57), .val (.ref b70)] [(.long ((own_upd (fun _ => 0) 0 q1) 0))])) (fun _ k => st84.trans k) ?_
    refine own_go (S' := T84.setTop (mkF m 136 #[.val (.long q0), .second, .val (.long q1), .second, .val (.long q2), .second, .val (.long q3), .second, .val (.long q4), .second, .val (.int p5), .val (.int (1 : Int32)), .val (.ref b49), .val (.long q1), .second, .val (.ref b57), .val (.ref b70)] [(.int (1 : Int32))])) (fun target kt => ?_) ?_
    · skip
      show Steps p.tables e below (T84.setTop (mkF m 125 #[.val (.long q0), .second, .val (.long q1), .second, .val (.long q2), .second, .val (.long q3), .second, .val (.long q4), .second, .val (.int p5), .val (.int (1 : Int32)), .val (.ref b49), .val (.long q1), .second, .val (.ref b57), .val (.ref b70)] [(.long ((own_upd (fun _ => 0) 0 q1) 0))])) _
      refine XS.lload X84.here hx rfl (hb hby at_125) rfl ?_
      show Steps p.tables e below (T84.setTop (mkF m 127 #[.val (.long q0), .second, .val (.long q1), .second, .val (.long q2), .second, .val (.long q3), .second, .val (.long q4), .second, .val (.int p5), .val (.int (1 : Int32)), .val (.ref b49), .val (.long q1), .second, .val (.ref b57), .val (.ref b70)] [(.long q1), (.long ((own_upd (fun _ => 0) 0 q1) 0))])) _
      refine XS.lcmp X84.here hx rfl (hb hby at_127) rfl ?_
      show Steps p.tables e below (T84.setTop (mkF m 128 #[.val (.long q0), .second, .val (.long q1), .second, .val (.long q2), .second, .val (.long q3), .second, .val (.long q4), .second, .val (.int p5), .val (.int (1 : Int32)), .val (.ref b49), .val (.long q1), .second, .val (.ref b57), .val (.ref b70)] [(.int (lcmpW ((own_upd (fun _ => 0) 0 q1) 0) q1))])) _
      refine XS.ifNo X84.here hx rfl (hb hby at_128) rfl (show ifCond.holds .ne (lcmpW ((own_upd (fun _ => 0) 0 q1) 0) q1) = false from Jvm.Free.XT.ll_ne_f (rfl : ((own_upd (fun _ => 0) 0 q1) 0) = q1)) ?_
      show Steps p.tables e below (T84.setTop (mkF m 131 #[.val (.long q0), .second, .val (.long q1), .second, .val (.long q2), .second, .val (.long q3), .second, .val (.long q4), .second, .val (.int p5), .val (.int (1 : Int32)), .val (.ref b49), .val (.long q1), .second, .val (.ref b57), .val (.ref b70)] [])) _
      refine XS.iconst X84.here hx rfl (hb hby at_131) ?_
      show Steps p.tables e below (T84.setTop (mkF m 132 #[.val (.long q0), .second, .val (.long q1), .second, .val (.long q2), .second, .val (.long q3), .second, .val (.long q4), .second, .val (.int p5), .val (.int (1 : Int32)), .val (.ref b49), .val (.long q1), .second, .val (.ref b57), .val (.ref b70)] [(.int (1 : Int32))])) _
      refine XS.goto X84.here hx rfl (pc0 := 132) (pc' := 136) rfl (hb hby at_132) (by decide) (by decide) ?_
      exact kt
    obtain ⟨fs, hr, hrun, hended, hW, hsame⟩ := X84.leave (v := some (.int (1 : Int32))) (fun h => by rw [Bd.returns] at h; cases h)
    refine ⟨_, _, ?_, hrun, hended, _, _, rfl, ?_, ⟨_, rfl⟩, hW, hsame.mono (by decide) (by decide)⟩
    · exact retN X84 hx (t := .boolean) Bd.returns (by simp) (hb hby at_136) hr
    · show Q0 Z q0 q1 q2 q3 q4 p5 dz h0 n0 _ T84.heap _
      rw [e84]
      exact ⟨rfl, N84⟩
  · subst hs_n
    refine own_go (S' := s₁.setTop (mkF m 10 #[.val (.long q0), .second, .val (.long q1), .second, .val (.long q2), .second, .val (.long q3), .second, .val (.long q4), .second, .val (.int p5), .val (.int (2 : Int32)), .unset, .unset, .unset, .unset, .unset] [(.int (2 : Int32))])) (fun target kt => ?_) ?_
    · skip
      show Steps p.tables e below (s₁.setTop (mkF m 8 #[.val (.long q0), .second, .val (.long q1), .second, .val (.long q2), .second, .val (.long q3), .second, .val (.long q4), .second, .val (.int p5), .val (.int (2 : Int32)), .unset, .unset, .unset, .unset, .unset] [])) _
      refine XS.iload X0.here hx rfl (hb hby at_8) rfl ?_
      exact kt
    obtain ⟨T85, h85, k85, X85, e85, E85, A85, B85, st85⟩ := newPE X0 hx hZ (hw _ (List.mem_of_getElem? (i := 0) rfl)) e0 (g := (mkF m 10 #[.val (.long q0), .second, .val (.long q1), .second, .val (.long q2), .second, .val (.long q3), .second, .val (.long q4), .second, .val (.int p5), .val (.int (2 : Int32)), .unset, .unset, .unset, .unset, .unset] [(.int (2 : Int32))])) rfl (hb hby at_10) rfl (by decide) (cap := 2) (by decide) (by decide) (by decide) (by decide) (ad := "[J") (by decide)
    obtain ⟨b85, g85⟩ : ∃ z, z = h0.size := ⟨_, rfl⟩
    rw [← g85] at A85 B85 st85
    have f86 : Sta Z h85 "java/util/ArrayList" "DEFAULTCAPACITY_EMPTY_ELEMENTDATA" "[Ljava/lang/Object;" (.ref dz) := pf0.ext E85
    have g_b85 : n0 ≤ b85 := Nat.le_trans Z0 (Nat.le_of_eq g85.symm)
    have Z85 : n0 ≤ h85.size := Nat.le_trans Z0 E85.1
    have f87 : own_AJ Z h85 b85 .long 2 (fun _ => 0) := own_AJ.fresh A85 rfl
    refine own_go (S' := T85.setTop (mkF m 12 #[.val (.long q0), .second, .val (.long q1), .second, .val (.long q2), .second, .val (.long q3), .second, .val (.long q4), .second, .val (.int p5), .val (.int (2 : Int32)), .unset, .unset, .unset, .unset, .unset] [(.ref b85)])) st85 ?_
    refine own_go (S' := T85.setTop (mkF m 18 #[.val (.long q0), .second, .val (.long q1), .second, .val (.long q2), .second, .val (.long q3), .second, .val (.long q4), .second, .val (.int p5), .val (.int (2 : Int32)), .val (.ref b85), .unset, .unset, .unset, .unset] [(.long q1), (.int (0 : Int32)), (.ref b85)])) (fun target kt => ?_) ?_
    · skip
      show Steps p.tables e below (T85.setTop (mkF m 12 #[.val (.long q0), .second, .val (.long q1), .second, .val (.long q2), .second, .val (.long q3), .second, .val (.long q4), .second, .val (.int p5), .val (.int (2 : Int32)), .unset, .unset, .unset, .unset, .unset] [(.ref b85)])) _
      refine XS.astore X85.here hx rfl (hb hby at_12) rfl rfl (l' := #[.val (.long q0), .second, .val (.long q1), .second, .val (.long q2), .second, .val (.long q3), .second, .val (.long q4), .second, .val (.int p5), .val (.int (2 : Int32)), .val (.ref b85), .unset, .unset, .unset, .unset]) rfl ?_
      show Steps p.tables e below (T85.setTop (mkF m 14 #[.val (.long q0), .second, .val (.long q1), .second, .val (.long q2), .second, .val (.long q3), .second, .val (.long q4), .second, .val (.int p5), .val (.int (2 : Int32)), .val (.ref b85), .unset, .unset, .unset, .unset] [])) _
      refine XS.aload X85.here hx rfl (hb hby at_14) rfl rfl ?_
      show Steps p.tables e below (T85.setTop (mkF m 16 #[.val (.long q0), .second, .val (.long q1), .second, .val (.long q2), .second, .val (.long q3), .second, .val (.long q4), .second, .val (.int p5), .val (.int (2 : Int32)), .val (.ref b85), .unset, .unset, .unset, .unset] [(.ref b85)])) _
      refine XS.iconst X85.here hx rfl (hb hby at_16) ?_
      show Steps p.tables e below (T85.setTop (mkF m 17 #[.val (.long q0), .second, .val (.long q1), .second, .val (.long q2), .second, .val (.long q3), .second, .val (.long q4), .second, .val (.int p5), .val (.int (2 : Int32)), .val (.ref b85), .unset, .unset, .unset, .unset] [(.int (0 : Int32)), (.ref b85)])) _
      refine XS.lloadN X85.here hx rfl (hb hby at_17) rfl ?_
      exact kt
    obtain ⟨c88, Ar88, S88, M88, H88⟩ := id f87
    have hin88 : ¬ ((0 : Int32) < 0 ∨ c88.slots.size ≤ ((0 : Int32)).toNatClampNeg) := own_in S88 ⟨by decide, by decide⟩
    obtain ⟨T89, h89, X89, e89, W89, st89⟩ := stJ X85 hx hZ e85 Ar88 (j := (0 : Int32)) hin88 (g := (mkF m 18 #[.val (.long q0), .second, .val (.long q1), .second, .val (.long q2), .second, .val (.long q3), .second, .val (.long q4), .second, .val (.int p5), .val (.int (2 : Int32)), .val (.ref b85), .unset, .unset, .unset, .unset] [(.long q1), (.int (0 : Int32)), (.ref b85)])) rfl rfl (hb hby at_18)
    have f91 : Sta Z h89 "java/util/ArrayList" "DEFAULTCAPACITY_EMPTY_ELEMENTDATA" "[Ljava/lang/Object;" (.ref dz) := f86.wr W89
    have f92 : Exa Z h89 b85 "[J" := B85.wr W89
    have f90 : own_AJ Z h89 b85 .long 2 (own_upd (fun _ => 0) 0 q1) := own_AJ.set Ar88 S88 M88 H88 W89
    have Z89 : n0 ≤ h89.size := Nat.le_trans Z85 (Keep.of_wr W89).1
    have N89 := Fr.snoc X89 N0 g_b85
    refine own_go (S' := T89.setTop (mkF m 19 #[.val (.long q0), .second, .val (.long q1), .second, .val (.long q2), .second, .val (.long q3), .second, .val (.long q4), .second, .val (.int p5), .val (.int (2 : Int32)), .val (.ref b85), .unset, .unset, .unset, .unset] [])) st89 ?_
    refine own_go (S' := T89.setTop (mkF m 30 #[.val (.long q0), .second, .val (.long q1), .second, .val (.long q2), .second, .val (.long q3), .second, .val (.long q4), .second, .val (.int p5), .val (.int (2 : Int32)), .val (.ref b85), .unset, .unset, .unset, .unset] [(.long q2), (.int (1 : Int32)), (.ref b85)])) (fun target kt => ?_) ?_
    · skip
      show Steps p.tables e below (T89.setTop (mkF m 19 #[.val (.long q0), .second, .val (.long q1), .second, .val (.long q2), .second, .val (.long q3), .second, .val (.long q4), .second, .val (.int p5), .val (.int (2 : Int32)), .val (.ref b85), .unset, .unset, .unset, .unset] [])) _
      refine XS.iload X89.here hx rfl (hb hby at_19) rfl ?_
      show Steps p.tables e below (T89.setTop (mkF m 21 #[.val (.long q0), .second, .val (.long q1), .second, .val (.long q2), .second, .val (.long q3), .second, .val (.long q4), .second, .val (.int p5), .val (.int (2 : Int32)), .val (.ref b85), .unset, .unset, .unset, .unset] [(.int (2 : Int32))])) _
      refine XS.iconst X89.here hx rfl (hb hby at_21) ?_
      show Steps p.tables e below (T89.setTop (mkF m 22 #[.val (.long q0), .second, .val (.long q1), .second, .val (.long q2), .second, .val (.long q3), .second, .val (.long q4), .second, .val (.int p5), .val (.int (2 : Int32)), .val (.ref b85), .unset, .unset, .unset, .unset] [(.int (1 : Int32)), (.int (2 : Int32))])) _
      refine XS.icmpNo X89.here hx rfl (hb hby at_22) rfl (tlt (by decide : (1 : Int32) < (2 : Int32))).2.2.2 ?_
      show Steps p.tables e below (T89.setTop (mkF m 25 #[.val (.long q0), .second, .val (.long q1), .second, .val (.long q2), .second, .val (.long q3), .second, .val (.long q4), .second, .val (.int p5), .val (.int (2 : Int32)), .val (.ref b85), .unset, .unset, .unset, .unset] [])) _
      refine XS.aload X89.here hx rfl (hb hby at_25) rfl rfl ?_
      show Steps p.tables e below (T89.setTop (mkF m 27 #[.val (.long q0), .second, .val (.long q1), .second, .val (.long q2), .second, .val (.long q3), .second, .val (.long q4), .second, .val (.int p5), .val (.int (2 : Int32)), .val (.ref b85), .unset, .unset, .unset, .unset] [(.ref b85)])) _
      refine XS.iconst X89.here hx rfl (hb hby at_27) ?_
      show Steps p.tables e below (T89.setTop (mkF m 28 #[.val (.long q0), .second, .val (.long q1), .second, .val (.long q2), .second, .val (.long q3), .second, .val (.long q4), .second, .val (.int p5), .val (.int (2 : Int32)), .val (.ref b85), .unset, .unset, .unset, .unset] [(.int (1 : Int32)), (.ref b85)])) _
      refine XS.lload X89.here hx rfl (hb hby at_28) rfl ?_
      exact kt
    obtain ⟨c93, Ar93, S93, M93, H93⟩ := id f90
    have hin93 : ¬ ((1 : Int32) < 0 ∨ c93.slots.size ≤ ((1 : Int32)).toNatClampNeg) := own_in S93 ⟨by decide, by decide⟩
    obtain ⟨T94, h94, X94, e94, W94, st94⟩ := stJ X89 hx hZ e89 Ar93 (j := (1 : Int32)) hin93 (g := (mkF m 30 #[.val (.long q0), .second, .val (.long q1), .second, .val (.long q2), .second, .val (.long q3), .second, .val (.long q4), .second, .val (.int p5), .val (.int (2 : Int32)), .val (.ref b85), .unset, .unset, .unset, .unset] [(.long q2), (.int (1 : Int32)), (.ref b85)])) rfl rfl (hb hby at_30)
    have f96 : Sta Z h94 "java/util/ArrayList" "DEFAULTCAPACITY_EMPTY_ELEMENTDATA" "[Ljava/lang/Object;" (.ref dz) := f91.wr W94
    have f97 : Exa Z h94 b85 "[J" := f92.wr W94
    have f95 : own_AJ Z h94 b85 .long 2 (own_upd (own_upd (fun _ => 0) 0 q1) 1 q2) := own_AJ.set Ar93 S93 M93 H93 W94
    have Z94 : n0 ≤ h94.size := Nat.le_trans Z89 (Keep.of_wr W94).1
    have N94 := Fr.snoc X94 N89 g_b85
    refine own_go (S' := T94.setTop (mkF m 31 #[.val (.long q0), .second, .val (.long q1), .second, .val (.long q2), .second, .val (.long q3), .second, .val (.long q4), .second, .val (.int p5), .val (.int (2 : Int32)), .val (.ref b85), .unset, .unset, .unset, .unset] [])) st94 ?_
    refine own_go (S' := T94.setTop (mkF m 97 #[.val (.long q0), .second, .val (.long q1), .second, .val (.long q2), .second, .val (.long q3), .second, .val (.long q4), .second, .val (.int p5), .val (.int (2 : Int32)), .val (.ref b85), .val (.long q2), .second, .unset, .unset] [])) (fun target kt => ?_) ?_
    · skip
      show Steps p.tables e below (T94.setTop (mkF m 31 #[.val (.long q0), .second, .val (.long q1), .second, .val (.long q2), .second, .val (.long q3), .second, .val (.long q4), .second, .val (.int p5), .val (.int (2 : Int32)), .val (.ref b85), .unset, .unset, .unset, .unset] [])) _
      refine XS.iload X94.here hx rfl (hb hby at_31) rfl ?_
      show Steps p.tables e below (T94.setTop (mkF m 33 #[.val (.long q0), .second, .val (.long q1), .second, .val (.long q2), .second, .val (.long q3), .second, .val (.long q4), .second, .val (.int p5), .val (.int (2 : Int32)), .val (.ref b85), .unset, .unset, .unset, .unset] [(.int (2 : Int32))])) _
      refine XS.iconst X94.here hx rfl (hb hby at_33) ?_
      show Steps p.tables e below (T94.setTop (mkF m 34 #[.val (.long q0), .second, .val (.long q1), .second, .val (.long q2), .second, .val (.long q3), .second, .val (.long q4), .second, .val (.int p5), .val (.int (2 : Int32)), .val (.ref b85), .unset, .unset, .unset, .unset] [(.int (2 : Int32)), (.int (2 : Int32))])) _
      refine XS.icmpYes X94.here hx rfl (pc0 := 34) (pc' := 43) rfl (hb hby at_34) rfl (flt (by decide : ¬ (2 : Int32) < (2 : Int32))).2.2.2 (by decide) (by decide) ?_
      show Steps p.tables e below (T94.setTop (mkF m 43 #[.val (.long q0), .second, .val (.long q1), .second, .val (.long q2), .second, .val (.long q3), .second, .val (.long q4), .second, .val (.int p5), .val (.int (2 : Int32)), .val (.ref b85), .unset, .unset, .unset, .unset] [])) _
      refine XS.iload X94.here hx rfl (hb hby at_43) rfl ?_
      show Steps p.tables e below (T94.setTop (mkF m 45 #[.val (.long q0), .second, .val (.long q1), .second, .val (.long q2), .second, .val (.long q3), .second, .val (.long q4), .second, .val (.int p5), .val (.int (2 : Int32)), .val (.ref b85), .unset, .unset, .unset, .unset] [(.int (2 : Int32))])) _
      refine XS.iconst X94.here hx rfl (hb hby at_45) ?_
      show Steps p.tables e below (T94.setTop (mkF m 46 #[.val (.long q0), .second, .val (.long q1), .second, .val (.long q2), .second, .val (.long q3), .second, .val (.long q4), .second, .val (.int p5), .val (.int (2 : Int32)), .val (.ref b85), .unset, .unset, .unset, .unset] [(.int (3 : Int32)), (.int (2 : Int32))])) _
      refine XS.icmpYes X94.here hx rfl (pc0 := 46) (pc' := 55) rfl (hb hby at_46) rfl (flt (by decide : ¬ (3 : Int32) < (2 : Int32))).2.2.2 (by decide) (by decide) ?_
      show Steps p.tables e below (T94.setTop (mkF m 55 #[.val (.long q0), .second, .val (.long q1), .second, .val (.long q2), .second, .val (.long q3), .second, .val (.long q4), .second, .val (.int p5), .val (.int (2 : Int32)), .val (.ref b85), .unset, .unset, .unset, .unset] [])) _
      refine XS.iload X94.here hx rfl (hb hby at_55) rfl ?_
      show Steps p.tables e below (T94.setTop (mkF m 57 #[.val (.long q0), .second, .val (.long q1), .second, .val (.long q2), .second, .val (.long q3), .second, .val (.long q4), .second, .val (.int p5), .val (.int (2 : Int32)), .val (.ref b85), .unset, .unset, .unset, .unset] [(.int (2 : Int32))])) _
      refine XS.iconst X94.here hx rfl (hb hby at_57) ?_
      show Steps p.tables e below (T94.setTop (mkF m 58 #[.val (.long q0), .second, .val (.long q1), .second, .val (.long q2), .second, .val (.long q3), .second, .val (.long q4), .second, .val (.int p5), .val (.int (2 : Int32)), .val (.ref b85), .unset, .unset, .unset, .unset] [(.int (1 : Int32)), (.int (2 : Int32))])) _
      refine XS.icmpYes X94.here hx rfl (pc0 := 58) (pc' := 67) rfl (hb hby at_58) rfl (feq (by decide : ¬ ((2 : Int32) = (1 : Int32)))).2 (by decide) (by decide) ?_
      show Steps p.tables e below (T94.setTop (mkF m 67 #[.val (.long q0), .second, .val (.long q1), .second, .val (.long q2), .second, .val (.long q3), .second, .val (.long q4), .second, .val (.int p5), .val (.int (2 : Int32)), .val (.ref b85), .unset, .unset, .unset, .unset] [])) _
      refine XS.iload X94.here hx rfl (hb hby at_67) rfl ?_
      show Steps p.tables e below (T94.setTop (mkF m 69 #[.val (.long q0), .second, .val (.long q1), .second, .val (.long q2), .second, .val (.long q3), .second, .val (.long q4), .second, .val (.int p5), .val (.int (2 : Int32)), .val (.ref b85), .unset, .unset, .unset, .unset] [(.int (2 : Int32))])) _
      refine XS.iconst X94.here hx rfl (hb hby at_69) ?_
      show Steps p.tables e below (T94.setTop (mkF m 70 #[.val (.long q0), .second, .val (.long q1), .second, .val (.long q2), .second, .val (.long q3), .second, .val (.long q4), .second, .val (.int p5), .val (.int (2 : Int32)), .val (.ref b85), .unset, .unset, .unset, .unset] [(.int (2 : Int32)), (.int (2 : Int32))])) _
      refine XS.icmpNo X94.here hx rfl (hb hby at_70) rfl (teq (by decide : (2 : Int32) = (2 : Int32))).2 ?_
      show Steps p.tables e below (T94.setTop (mkF m 73 #[.val (.long q0), .second, .val (.long q1), .second, .val (.long q2), .second, .val (.long q3), .second, .val (.long q4), .second, .val (.int p5), .val (.int (2 : Int32)), .val (.ref b85), .unset, .unset, .unset, .unset] [])) _
      refine XS.lload X94.here hx rfl (hb hby at_73) rfl ?_
      show Steps p.tables e below (T94.setTop (mkF m 75 #[.val (.long q0), .second, .val (.long q1), .second, .val (.long q2), .second, .val (.long q3), .second, .val (.long q4), .second, .val (.int p5), .val (.int (2 : Int32)), .val (.ref b85), .unset, .unset, .unset, .unset] [(.long q2)])) _
      refine XS.lstore X94.here hx rfl (hb hby at_75) rfl (l' := #[.val (.long q0), .second, .val (.long q1), .second, .val (.long q2), .second, .val (.long q3), .second, .val (.long q4), .second, .val (.int p5), .val (.int (2 : Int32)), .val (.ref b85), .val (.long q2), .second, .unset, .unset]) rfl ?_
      show Steps p.tables e below (T94.setTop (mkF m 77 #[.val (.long q0), .second, .val (.long q1), .second, .val (.long q2), .second, .val (.long q3), .second, .val (.long q4), .second, .val (.int p5), .val (.int (2 : Int32)), .val (.ref b85), .val (.long q2), .second, .unset, .unset] [])) _
      refine XS.goto X94.here hx rfl (pc0 := 77) (pc' := 97) rfl (hb hby at_77) (by decide) (by decide) ?_
      exact kt
    obtain ⟨T98, h98, X98, e98, E98, A98, D98, -, st98⟩ := newO X94 hx hZ hown (hw _ (List.mem_of_getElem? (i := 1) rfl)) (hw _ (List.mem_of_getElem? (i := 2) rfl)) (hw _ (List.mem_of_getElem? (i := 3) rfl)) e94 (g := (mkF m 97 #[.val (.long q0), .second, .val (.long q1), .second, .val (.long q2), .second, .val (.long q3), .second, .val (.long q4), .second, .val (.int p5), .val (.int (2 : Int32)), .val (.ref b85), .val (.long q2), .second, .unset, .unset] [])) rfl (hb hby at_97) (by decide) (by decide)
    obtain ⟨b98, g98⟩ : ∃ z, z = h94.size := ⟨_, rfl⟩
    rw [← g98] at A98 D98 st98
    have f99 : Sta Z h98 "java/util/ArrayList" "DEFAULTCAPACITY_EMPTY_ELEMENTDATA" "[Ljava/lang/Object;" (.ref dz) := f96.ext E98
    have f100 : Exa Z h98 b85 "[J" := f97.ext E98
    have f101 : own_AJ Z h98 b85 .long 2 (own_upd (own_upd (fun _ => 0) 0 q1) 1 q2) := f95.ext E98
    have g_b98 : n0 ≤ b98 := Nat.le_trans Z94 (Nat.le_of_eq g98.symm)
    have ne_b85_b98 : b85 ≠ b98 := Nat.ne_of_lt (Nat.lt_of_lt_of_le f97.lt (Nat.le_of_eq g98.symm))
    have Z98 : n0 ≤ h98.size := Nat.le_trans Z94 E98.1
    have f102 : Fld Z h98 b98 "java/util/AbstractList" "modCount" "I" (.int (0 : Int32)) := D98 (Or.inl (hw _ (List.mem_of_getElem? (i := 23) rfl))) (ty := .int) (by decide)
    have f103 : Fld Z h98 b98 "java/util/ArrayList" "elementData" "[Ljava/lang/Object;" .null := D98 (Or.inl (hw _ (List.mem_of_getElem? (i := 26) rfl))) (ty := (.array (.object "java/lang/Object"))) (by decide)
    refine own_go (S' := T98.setTop (mkF m 100 #[.val (.long q0), .second, .val (.long q1), .second, .val (.long q2), .second, .val (.long q3), .second, .val (.long q4), .second, .val (.int p5), .val (.int (2 : Int32)), .val (.ref b85), .val (.long q2), .second, .unset, .unset] [(.ref b98)])) st98 ?_
    refine own_go (S' := T98.setTop (mkF m 101 #[.val (.long q0), .second, .val (.long q1), .second, .val (.long q2), .second, .val (.long q3), .second, .val (.long q4), .second, .val (.int p5), .val (.int (2 : Int32)), .val (.ref b85), .val (.long q2), .second, .unset, .unset] [(.ref b98), (.ref b98)])) (fun target kt => ?_) ?_
    · skip
      show Steps p.tables e below (T98.setTop (mkF m 100 #[.val (.long q0), .second, .val (.long q1), .second, .val (.long q2), .second, .val (.long q3), .second, .val (.long q4), .second, .val (.int p5), .val (.int (2 : Int32)), .val (.ref b85), .val (.long q2), .second, .unset, .unset] [(.ref b98)])) _
      refine XS.dup X98.here hx rfl (hb hby at_100) rfl rfl ?_
      exact kt
    obtain ⟨_, _, ⟨T104, L104, k104, n104⟩, -, X104, ⟨Lc104, hQ104, l104, y104, z104⟩, st104⟩ := X98.specialBack hx (y := (⟨"java/util/ArrayList", "<init>", "()V"⟩ : MethodName)) rfl hown (mvT hZ (hw _ (List.mem_of_getElem? (i := 4) rfl))) (mvT hZ (hw _ (List.mem_of_getElem? (i := 5) rfl))) (mvT hZ (hw _ (List.mem_of_getElem? (i := 6) rfl))) (by decide) (backOf (W := 1) (rm1 l Z aZ hw [] b98 dz h98 n0 Z98 A98 f102 f103 f99 g_b98) hZ (hw _ (List.mem_of_getElem? (i := 6) rfl)) (hw _ (List.mem_of_getElem? (i := 3) rfl)) (by decide) (by decide)) (g := (mkF m 101 #[.val (.long q0), .second, .val (.long q1), .second, .val (.long q2), .second, .val (.long q3), .second, .val (.long q4), .second, .val (.int p5), .val (.int (2 : Int32)), .val (.ref b85), .val (.long q2), .second, .unset, .unset] [(.ref b98), (.ref b98)])) rfl (by rw [hml]; rfl) (Steps.refl _) (a := b98) (argsL := []) (rest := [(.ref b98)]) (lenOf own_pd0 rfl) rfl (by show 2 * 0 + _ ≤ _; exact Nat.le_of_eq rfl) (hb hby at_101) (fun _ _ => ⟨rfl, e98, (by decide : 2 + 0 ≤ _), (by decide : 5 + 0 ≤ _)⟩)
    dsimp only [Pt.U, Pt.locs, Pt.cells, Pt.slots] at X104 l104 y104 z104 st104 hQ104
    subst l104 y104 z104
    obtain ⟨rfl, N104q, K104q, f104_0⟩ := hQ104
    have N104 := Fr.app N94 N104q
    have f105 : Sta Z T104.heap "java/util/ArrayList" "DEFAULTCAPACITY_EMPTY_ELEMENTDATA" "[Ljava/lang/Object;" (.ref dz) := own_Sta_keep f99 K104q (allS (own_nst A98) all0)
    have f106 : Exa Z T104.heap b85 "[J" := f100.keep K104q
    have f107 : own_AJ Z T104.heap b85 .long 2 (own_upd (own_upd (fun _ => 0) 0 q1) 1 q2) := f101.keep K104q (ninS ne_b85_b98 nin0)
    have f108 : Exa Z T104.heap b98 "java/util/ArrayList" := A98.keep K104q
    have Z104 : n0 ≤ T104.heap.size := Nat.le_trans Z98 K104q.1
    refine own_go (S' := T104.setTop (mkF m 104 #[.val (.long q0), .second, .val (.long q1), .second, .val (.long q2), .second, .val (.long q3), .second, .val (.long q4), .second, .val (.int p5), .val (.int (2 : Int32)), .val (.ref b85), .val (.long q2), .second, .unset, .unset] [(.ref b98)])) (fun _ k => st104.trans k) ?_
    refine own_go (S' := T104.setTop (mkF m 106 #[.val (.long q0), .second, .val (.long q1), .second, .val (.long q2), .second, .val (.long q3), .second, .val (.long q4), .second, .val (.int p5), .val (.int (2 : Int32)), .val (.ref b85), .val (.long q2), .second, .val (.ref b98), .unset] [])) (fun target kt => ?_) ?_
    · skip
      show Steps p.tables e below (T104.setTop (mkF m 104 #[.val (.long q0), .second, .val (.long q1), .second, .val (.long q2), .second, .val (.long q3), .second, .val (.long q4), .second, .val (.int p5), .val (.int (2 : Int32)), .val (.ref b85), .val (.long q2), .second, .unset, .unset] [(.ref b98)])) _
      refine XS.astore X104.here hx rfl (hb hby at_104) rfl rfl (l' := #[.val (.long q0), .second, .val (.long q1), .second, .val (.long q2), .second, .val (.long q3), .second, .val (.long q4), .second, .val (.int p5), .val (.int (2 : Int32)), .val (.ref b85), .val (.long q2), .second, .val (.ref b98), .unset]) rfl ?_
      exact kt
    obtain ⟨T111, h111, X111, e111, E111, A111, D111, -, st111⟩ := newO X104 hx hZ hown (hw _ (List.mem_of_getElem? (i := 27) rfl)) (hw _ (List.mem_of_getElem? (i := 28) rfl)) (hw _ (List.mem_of_getElem? (i := 29) rfl)) rfl (g := (mkF m 106 #[.val (.long q0), .second, .val (.long q1), .second, .val (.long q2), .second, .val (.long q3), .second, .val (.long q4), .second, .val (.int p5), .val (.int (2 : Int32)), .val (.ref b85), .val (.long q2), .second, .val (.ref b98), .unset] [])) rfl (hb hby at_106) (by decide) (by decide)
    obtain ⟨b111, g111⟩ : ∃ z, z = T104.heap.size := ⟨_, rfl⟩
    rw [← g111] at A111 D111 st111
    have f112 : Sta Z h111 "java/util/ArrayList" "DEFAULTCAPACITY_EMPTY_ELEMENTDATA" "[Ljava/lang/Object;" (.ref dz) := f105.ext E111
    have f113 : Exa Z h111 b85 "[J" := f106.ext E111
    have f114 : own_AJ Z h111 b85 .long 2 (own_upd (own_upd (fun _ => 0) 0 q1) 1 q2) := f107.ext E111
    have f115 : Exa Z h111 b98 "java/util/ArrayList" := f104_0.ext E111
    have g_b111 : n0 ≤ b111 := Nat.le_trans Z104 (Nat.le_of_eq g111.symm)
    have ne_b85_b111 : b85 ≠ b111 := Nat.ne_of_lt (Nat.lt_of_lt_of_le f106.lt (Nat.le_of_eq g111.symm))
    have ne_b98_b111 : b98 ≠ b111 := Nat.ne_of_lt (Nat.lt_of_lt_of_le f104_0.lt (Nat.le_of_eq g111.symm))
    have Z111 : n0 ≤ h111.size := Nat.le_trans Z104 E111.1
    have f116 : Fld Z h111 b111 "com/example/access_bindings/accessbindings/benchmark/Exchanged" "firstSent" "J" (.long (0 : Int64)) := D111 (Or.inr (hw _ (List.mem_of_getElem? (i := 40) rfl))) (ty := .long) (by decide)
    have f117 : Fld Z h111 b111 "com/example/access_bindings/accessbindings/benchmark/Exchanged" "answeredAt" "[J" .null := D111 (Or.inr (hw _ (List.mem_of_getElem? (i := 42) rfl))) (ty := (.array .long)) (by decide)
    have f118 : Fld Z h111 b111 "com/example/access_bindings/accessbindings/benchmark/Exchanged" "answers" "Ljava/util/List;" .null := D111 (Or.inr (hw _ (List.mem_of_getElem? (i := 44) rfl))) (ty := (.object "java/util/List")) (by decide)
    refine own_go (S' := T111.setTop (mkF m 109 #[.val (.long q0), .second, .val (.long q1), .second, .val (.long q2), .second, .val (.long q3), .second, .val (.long q4), .second, .val (.int p5), .val (.int (2 : Int32)), .val (.ref b85), .val (.long q2), .second, .val (.ref b98), .unset] [(.ref b111)])) st111 ?_
    refine own_go (S' := T111.setTop (mkF m 115 #[.val (.long q0), .second, .val (.long q1), .second, .val (.long q2), .second, .val (.long q3), .second, .val (.long q4), .second, .val (.int p5), .val (.int (2 : Int32)), .val (.ref b85), .val (.long q2), .second, .val (.ref b98), .unset] [(.ref b98), (.ref b85), (.long q0), (.ref b111), (.ref b111)])) (fun target kt => ?_) ?_
    · skip
      show Steps p.tables e below (T111.setTop (mkF m 109 #[.val (.long q0), .second, .val (.long q1), .second, .val (.long q2), .second, .val (.long q3), .second, .val (.long q4), .second, .val (.int p5), .val (.int (2 : Int32)), .val (.ref b85), .val (.long q2), .second, .val (.ref b98), .unset] [(.ref b111)])) _
      refine XS.dup X111.here hx rfl (hb hby at_109) rfl rfl ?_
      show Steps p.tables e below (T111.setTop (mkF m 110 #[.val (.long q0), .second, .val (.long q1), .second, .val (.long q2), .second, .val (.long q3), .second, .val (.long q4), .second, .val (.int p5), .val (.int (2 : Int32)), .val (.ref b85), .val (.long q2), .second, .val (.ref b98), .unset] [(.ref b111), (.ref b111)])) _
      refine XS.lloadN X111.here hx rfl (hb hby at_110) rfl ?_
      show Steps p.tables e below (T111.setTop (mkF m 111 #[.val (.long q0), .second, .val (.long q1), .second, .val (.long q2), .second, .val (.long q3), .second, .val (.long q4), .second, .val (.int p5), .val (.int (2 : Int32)), .val (.ref b85), .val (.long q2), .second, .val (.ref b98), .unset] [(.long q0), (.ref b111), (.ref b111)])) _
      refine XS.aload X111.here hx rfl (hb hby at_111) rfl rfl ?_
      show Steps p.tables e below (T111.setTop (mkF m 113 #[.val (.long q0), .second, .val (.long q1), .second, .val (.long q2), .second, .val (.long q3), .second, .val (.long q4), .second, .val (.int p5), .val (.int (2 : Int32)), .val (.ref b85), .val (.long q2), .second, .val (.ref b98), .unset] [(.ref b85), (.long q0), (.ref b111), (.ref b111)])) _
      refine XS.aload X111.here hx rfl (hb hby at_113) rfl rfl ?_
      exact kt
    obtain ⟨_, _, ⟨T119, L119, k119, n119⟩, -, X119, ⟨Lc119, hQ119, l119, y119, z119⟩, st119⟩ := X111.specialBack hx (y := (⟨"com/example/access_bindings/accessbindings/benchmark/Exchanged", "<init>", "(J[JLjava/util/List;)V"⟩ : MethodName)) rfl hown (mvT hZ (hw _ (List.mem_of_getElem? (i := 30) rfl))) (mvT hZ (hw _ (List.mem_of_getElem? (i := 31) rfl))) (mvT hZ (hw _ (List.mem_of_getElem? (i := 32) rfl))) (by decide) (backOf (W := 1) (rm5 l Z aZ hw [] b111 q0 b85 b98 h111 n0 Z111 A111 f116 f117 f118 g_b111) hZ (hw _ (List.mem_of_getElem? (i := 32) rfl)) (hw _ (List.mem_of_getElem? (i := 29) rfl)) (by decide) (by decide)) (g := (mkF m 115 #[.val (.long q0), .second, .val (.long q1), .second, .val (.long q2), .second, .val (.long q3), .second, .val (.long q4), .second, .val (.int p5), .val (.int (2 : Int32)), .val (.ref b85), .val (.long q2), .second, .val (.ref b98), .unset] [(.ref b98), (.ref b85), (.long q0), (.ref b111), (.ref b111)])) rfl (by rw [hml]; rfl) (Steps.refl _) (a := b111) (argsL := [(.long q0), (.ref b85), (.ref b98)]) (rest := [(.ref b111)]) (lenOf own_pd1 rfl) rfl (by show 2 * 0 + _ ≤ _; exact Nat.le_of_eq rfl) (hb hby at_115) (fun _ _ => ⟨rfl, e111, (by decide : 3 + 0 ≤ _), (by decide : 8 + 0 ≤ _)⟩)
    dsimp only [Pt.U, Pt.locs, Pt.cells, Pt.slots] at X119 l119 y119 z119 st119 hQ119
    subst l119 y119 z119
    obtain ⟨rfl, N119q, K119q, f119_0, f119_1, f119_2, f119_3⟩ := hQ119
    have N119 := Fr.app N104 N119q
    have f120 : Sta Z T119.heap "java/util/ArrayList" "DEFAULTCAPACITY_EMPTY_ELEMENTDATA" "[Ljava/lang/Object;" (.ref dz) := own_Sta_keep f112 K119q (allS (own_nst A111) all0)
    have f121 : Exa Z T119.heap b85 "[J" := f113.keep K119q
    have f122 : own_AJ Z T119.heap b85 .long 2 (own_upd (own_upd (fun _ => 0) 0 q1) 1 q2) := f114.keep K119q (ninS ne_b85_b111 nin0)
    have f123 : Exa Z T119.heap b98 "java/util/ArrayList" := f115.keep K119q
    have f124 : Exa Z T119.heap b111 "com/example/access_bindings/accessbindings/benchmark/Exchanged" := A111.keep K119q
    have Z119 : n0 ≤ T119.heap.size := Nat.le_trans Z111 K119q.1
    refine own_go (S' := T119.setTop (mkF m 118 #[.val (.long q0), .second, .val (.long q1), .second, .val (.long q2), .second, .val (.long q3), .second, .val (.long q4), .second, .val (.int p5), .val (.int (2 : Int32)), .val (.ref b85), .val (.long q2), .second, .val (.ref b98), .unset] [(.ref b111)])) (fun _ k => st119.trans k) ?_
    refine own_go (S' := T119.setTop (mkF m 122 #[.val (.long q0), .second, .val (.long q1), .second, .val (.long q2), .second, .val (.long q3), .second, .val (.long q4), .second, .val (.int p5), .val (.int (2 : Int32)), .val (.ref b85), .val (.long q2), .second, .val (.ref b98), .val (.ref b111)] [(.ref b111)])) (fun target kt => ?_) ?_
    · skip
      show Steps p.tables e below (T119.setTop (mkF m 118 #[.val (.long q0), .second, .val (.long q1), .second, .val (.long q2), .second, .val (.long q3), .second, .val (.long q4), .second, .val (.int p5), .val (.int (2 : Int32)), .val (.ref b85), .val (.long q2), .second, .val (.ref b98), .unset] [(.ref b111)])) _
      refine XS.astore X119.here hx rfl (hb hby at_118) rfl rfl (l' := #[.val (.long q0), .second, .val (.long q1), .second, .val (.long q2), .second, .val (.long q3), .second, .val (.long q4), .second, .val (.int p5), .val (.int (2 : Int32)), .val (.ref b85), .val (.long q2), .second, .val (.ref b98), .val (.ref b111)]) rfl ?_
      show Steps p.tables e below (T119.setTop (mkF m 120 #[.val (.long q0), .second, .val (.long q1), .second, .val (.long q2), .second, .val (.long q3), .second, .val (.long q4), .second, .val (.int p5), .val (.int (2 : Int32)), .val (.ref b85), .val (.long q2), .second, .val (.ref b98), .val (.ref b111)] [])) _
      refine XS.aload X119.here hx rfl (hb hby at_120) rfl rfl ?_
      exact kt
    obtain ⟨cq125, kq125, q125a, q125b, q125c⟩ := isOf hZ rfl f119_0
    obtain ⟨_, _, ⟨T125, L125, k125, n125⟩, -, X125, ⟨Lc125, hQ125, l125, y125, z125⟩, st125⟩ := X119.virtualBack hx (y := (⟨"com/example/access_bindings/accessbindings/benchmark/Exchanged", "lastAnswered", "()J"⟩ : MethodName)) (z := (⟨"com/example/access_bindings/accessbindings/benchmark/Exchanged", "lastAnswered", "()J"⟩ : MethodName)) hown (mvT hZ (hw _ (List.mem_of_getElem? (i := 45) rfl))) (mvT hZ (hw _ (List.mem_of_getElem? (i := 46) rfl))) (notFace_of_selects (args := #[]) (mvT hZ (hw _ (List.mem_of_getElem? (i := 48) rfl)))) (mvT hZ (hw _ (List.mem_of_getElem? (i := 48) rfl))) (mvT hZ (hw _ (List.mem_of_getElem? (i := 47) rfl))) (by decide) (backOf (W := 0) (rm7_2 l Z aZ hw [] b111 q0 b85 (own_upd (own_upd (fun _ => 0) 0 q1) 1 q2) T119.heap n0 Z119 f119_1 f119_2 f122) hZ (hw _ (List.mem_of_getElem? (i := 49) rfl)) (hw _ (List.mem_of_getElem? (i := 29) rfl)) (by decide) (by decide)) q125a q125c (g := (mkF m 122 #[.val (.long q0), .second, .val (.long q1), .second, .val (.long q2), .second, .val (.long q3), .second, .val (.long q4), .second, .val (.int p5), .val (.int (2 : Int32)), .val (.ref b85), .val (.long q2), .second, .val (.ref b98), .val (.ref b111)] [(.ref b111)])) rfl (by rw [hml]; rfl) (Steps.refl _) (argsL := []) (rest := []) (lenOf own_pd2 rfl) rfl (by show 2 * 0 + _ ≤ _; exact Nat.le_of_eq rfl) (hb hby at_122) (fun _ _ => ⟨rfl, rfl, (by decide : 3 + 0 ≤ _), (by decide : 8 + 0 ≤ _)⟩)
    dsimp only [Pt.U, Pt.locs, Pt.cells, Pt.slots] at X125 l125 y125 z125 st125 hQ125
    subst l125 y125 z125
    obtain ⟨rfl, N125q, e125⟩ := hQ125
    have N125 := Fr.app N119 N125q
    refine own_go (S' := T125.setTop (mkF m 125 #[.val (.long q0), .second, .val (.long q1), .second, .val (.long q2), .second, .val (.long q3), .second, .val (.long q4), .second, .val (.int p5), .val (.int (2 : Int32)), .val (.ref b85), .val (.long q2), .second, .val (.ref b98), .val (.ref b111)] [(.long ((own_upd (own_upd (fun _ => 0) 0 q1) 1 q2) 1))])) (fun _ k => st125.trans k) ?_
    refine own_go (S' := T125.setTop (mkF m 136 #[.val (.long q0), .second, .val (.long q1), .second, .val (.long q2), .second, .val (.long q3), .second, .val (.long q4), .second, .val (.int p5), .val (.int (2 : Int32)), .val (.ref b85), .val (.long q2), .second, .val (.ref b98), .val (.ref b111)] [(.int (1 : Int32))])) (fun target kt => ?_) ?_
    · skip
      show Steps p.tables e below (T125.setTop (mkF m 125 #[.val (.long q0), .second, .val (.long q1), .second, .val (.long q2), .second, .val (.long q3), .second, .val (.long q4), .second, .val (.int p5), .val (.int (2 : Int32)), .val (.ref b85), .val (.long q2), .second, .val (.ref b98), .val (.ref b111)] [(.long ((own_upd (own_upd (fun _ => 0) 0 q1) 1 q2) 1))])) _
      refine XS.lload X125.here hx rfl (hb hby at_125) rfl ?_
      show Steps p.tables e below (T125.setTop (mkF m 127 #[.val (.long q0), .second, .val (.long q1), .second, .val (.long q2), .second, .val (.long q3), .second, .val (.long q4), .second, .val (.int p5), .val (.int (2 : Int32)), .val (.ref b85), .val (.long q2), .second, .val (.ref b98), .val (.ref b111)] [(.long q2), (.long ((own_upd (own_upd (fun _ => 0) 0 q1) 1 q2) 1))])) _
      refine XS.lcmp X125.here hx rfl (hb hby at_127) rfl ?_
      show Steps p.tables e below (T125.setTop (mkF m 128 #[.val (.long q0), .second, .val (.long q1), .second, .val (.long q2), .second, .val (.long q3), .second, .val (.long q4), .second, .val (.int p5), .val (.int (2 : Int32)), .val (.ref b85), .val (.long q2), .second, .val (.ref b98), .val (.ref b111)] [(.int (lcmpW ((own_upd (own_upd (fun _ => 0) 0 q1) 1 q2) 1) q2))])) _
      refine XS.ifNo X125.here hx rfl (hb hby at_128) rfl (show ifCond.holds .ne (lcmpW ((own_upd (own_upd (fun _ => 0) 0 q1) 1 q2) 1) q2) = false from Jvm.Free.XT.ll_ne_f (rfl : ((own_upd (own_upd (fun _ => 0) 0 q1) 1 q2) 1) = q2)) ?_
      show Steps p.tables e below (T125.setTop (mkF m 131 #[.val (.long q0), .second, .val (.long q1), .second, .val (.long q2), .second, .val (.long q3), .second, .val (.long q4), .second, .val (.int p5), .val (.int (2 : Int32)), .val (.ref b85), .val (.long q2), .second, .val (.ref b98), .val (.ref b111)] [])) _
      refine XS.iconst X125.here hx rfl (hb hby at_131) ?_
      show Steps p.tables e below (T125.setTop (mkF m 132 #[.val (.long q0), .second, .val (.long q1), .second, .val (.long q2), .second, .val (.long q3), .second, .val (.long q4), .second, .val (.int p5), .val (.int (2 : Int32)), .val (.ref b85), .val (.long q2), .second, .val (.ref b98), .val (.ref b111)] [(.int (1 : Int32))])) _
      refine XS.goto X125.here hx rfl (pc0 := 132) (pc' := 136) rfl (hb hby at_132) (by decide) (by decide) ?_
      exact kt
    obtain ⟨fs, hr, hrun, hended, hW, hsame⟩ := X125.leave (v := some (.int (1 : Int32))) (fun h => by rw [Bd.returns] at h; cases h)
    refine ⟨_, _, ?_, hrun, hended, _, _, rfl, ?_, ⟨_, rfl⟩, hW, hsame.mono (by decide) (by decide)⟩
    · exact retN X125 hx (t := .boolean) Bd.returns (by simp) (hb hby at_136) hr
    · show Q0 Z q0 q1 q2 q3 q4 p5 dz h0 n0 _ T125.heap _
      rw [e125]
      exact ⟨rfl, N125⟩
  · subst hs_n
    refine own_go (S' := s₁.setTop (mkF m 10 #[.val (.long q0), .second, .val (.long q1), .second, .val (.long q2), .second, .val (.long q3), .second, .val (.long q4), .second, .val (.int p5), .val (.int (3 : Int32)), .unset, .unset, .unset, .unset, .unset] [(.int (3 : Int32))])) (fun target kt => ?_) ?_
    · skip
      show Steps p.tables e below (s₁.setTop (mkF m 8 #[.val (.long q0), .second, .val (.long q1), .second, .val (.long q2), .second, .val (.long q3), .second, .val (.long q4), .second, .val (.int p5), .val (.int (3 : Int32)), .unset, .unset, .unset, .unset, .unset] [])) _
      refine XS.iload X0.here hx rfl (hb hby at_8) rfl ?_
      exact kt
    obtain ⟨T126, h126, k126, X126, e126, E126, A126, B126, st126⟩ := newPE X0 hx hZ (hw _ (List.mem_of_getElem? (i := 0) rfl)) e0 (g := (mkF m 10 #[.val (.long q0), .second, .val (.long q1), .second, .val (.long q2), .second, .val (.long q3), .second, .val (.long q4), .second, .val (.int p5), .val (.int (3 : Int32)), .unset, .unset, .unset, .unset, .unset] [(.int (3 : Int32))])) rfl (hb hby at_10) rfl (by decide) (cap := 3) (by decide) (by decide) (by decide) (by decide) (ad := "[J") (by decide)
    obtain ⟨b126, g126⟩ : ∃ z, z = h0.size := ⟨_, rfl⟩
    rw [← g126] at A126 B126 st126
    have f127 : Sta Z h126 "java/util/ArrayList" "DEFAULTCAPACITY_EMPTY_ELEMENTDATA" "[Ljava/lang/Object;" (.ref dz) := pf0.ext E126
    have g_b126 : n0 ≤ b126 := Nat.le_trans Z0 (Nat.le_of_eq g126.symm)
    have Z126 : n0 ≤ h126.size := Nat.le_trans Z0 E126.1
    have f128 : own_AJ Z h126 b126 .long 3 (fun _ => 0) := own_AJ.fresh A126 rfl
    refine own_go (S' := T126.setTop (mkF m 12 #[.val (.long q0), .second, .val (.long q1), .second, .val (.long q2), .second, .val (.long q3), .second, .val (.long q4), .second, .val (.int p5), .val (.int (3 : Int32)), .unset, .unset, .unset, .unset, .unset] [(.ref b126)])) st126 ?_
    refine own_go (S' := T126.setTop (mkF m 18 #[.val (.long q0), .second, .val (.long q1), .second, .val (.long q2), .second, .val (.long q3), .second, .val (.long q4), .second, .val (.int p5), .val (.int (3 : Int32)), .val (.ref b126), .unset, .unset, .unset, .unset] [(.long q1), (.int (0 : Int32)), (.ref b126)])) (fun target kt => ?_) ?_
    · skip
      show Steps p.tables e below (T126.setTop (mkF m 12 #[.val (.long q0), .second, .val (.long q1), .second, .val (.long q2), .second, .val (.long q3), .second, .val (.long q4), .second, .val (.int p5), .val (.int (3 : Int32)), .unset, .unset, .unset, .unset, .unset] [(.ref b126)])) _
      refine XS.astore X126.here hx rfl (hb hby at_12) rfl rfl (l' := #[.val (.long q0), .second, .val (.long q1), .second, .val (.long q2), .second, .val (.long q3), .second, .val (.long q4), .second, .val (.int p5), .val (.int (3 : Int32)), .val (.ref b126), .unset, .unset, .unset, .unset]) rfl ?_
      show Steps p.tables e below (T126.setTop (mkF m 14 #[.val (.long q0), .second, .val (.long q1), .second, .val (.long q2), .second, .val (.long q3), .second, .val (.long q4), .second, .val (.int p5), .val (.int (3 : Int32)), .val (.ref b126), .unset, .unset, .unset, .unset] [])) _
      refine XS.aload X126.here hx rfl (hb hby at_14) rfl rfl ?_
      show Steps p.tables e below (T126.setTop (mkF m 16 #[.val (.long q0), .second, .val (.long q1), .second, .val (.long q2), .second, .val (.long q3), .second, .val (.long q4), .second, .val (.int p5), .val (.int (3 : Int32)), .val (.ref b126), .unset, .unset, .unset, .unset] [(.ref b126)])) _
      refine XS.iconst X126.here hx rfl (hb hby at_16) ?_
      show Steps p.tables e below (T126.setTop (mkF m 17 #[.val (.long q0), .second, .val (.long q1), .second, .val (.long q2), .second, .val (.long q3), .second, .val (.long q4), .second, .val (.int p5), .val (.int (3 : Int32)), .val (.ref b126), .unset, .unset, .unset, .unset] [(.int (0 : Int32)), (.ref b126)])) _
      refine XS.lloadN X126.here hx rfl (hb hby at_17) rfl ?_
      exact kt
    obtain ⟨c129, Ar129, S129, M129, H129⟩ := id f128
    have hin129 : ¬ ((0 : Int32) < 0 ∨ c129.slots.size ≤ ((0 : Int32)).toNatClampNeg) := own_in S129 ⟨by decide, by decide⟩
    obtain ⟨T130, h130, X130, e130, W130, st130⟩ := stJ X126 hx hZ e126 Ar129 (j := (0 : Int32)) hin129 (g := (mkF m 18 #[.val (.long q0), .second, .val (.long q1), .second, .val (.long q2), .second, .val (.long q3), .second, .val (.long q4), .second, .val (.int p5), .val (.int (3 : Int32)), .val (.ref b126), .unset, .unset, .unset, .unset] [(.long q1), (.int (0 : Int32)), (.ref b126)])) rfl rfl (hb hby at_18)
    have f132 : Sta Z h130 "java/util/ArrayList" "DEFAULTCAPACITY_EMPTY_ELEMENTDATA" "[Ljava/lang/Object;" (.ref dz) := f127.wr W130
    have f133 : Exa Z h130 b126 "[J" := B126.wr W130
    have f131 : own_AJ Z h130 b126 .long 3 (own_upd (fun _ => 0) 0 q1) := own_AJ.set Ar129 S129 M129 H129 W130
    have Z130 : n0 ≤ h130.size := Nat.le_trans Z126 (Keep.of_wr W130).1
    have N130 := Fr.snoc X130 N0 g_b126
    refine own_go (S' := T130.setTop (mkF m 19 #[.val (.long q0), .second, .val (.long q1), .second, .val (.long q2), .second, .val (.long q3), .second, .val (.long q4), .second, .val (.int p5), .val (.int (3 : Int32)), .val (.ref b126), .unset, .unset, .unset, .unset] [])) st130 ?_
    refine own_go (S' := T130.setTop (mkF m 30 #[.val (.long q0), .second, .val (.long q1), .second, .val (.long q2), .second, .val (.long q3), .second, .val (.long q4), .second, .val (.int p5), .val (.int (3 : Int32)), .val (.ref b126), .unset, .unset, .unset, .unset] [(.long q2), (.int (1 : Int32)), (.ref b126)])) (fun target kt => ?_) ?_
    · skip
      show Steps p.tables e below (T130.setTop (mkF m 19 #[.val (.long q0), .second, .val (.long q1), .second, .val (.long q2), .second, .val (.long q3), .second, .val (.long q4), .second, .val (.int p5), .val (.int (3 : Int32)), .val (.ref b126), .unset, .unset, .unset, .unset] [])) _
      refine XS.iload X130.here hx rfl (hb hby at_19) rfl ?_
      show Steps p.tables e below (T130.setTop (mkF m 21 #[.val (.long q0), .second, .val (.long q1), .second, .val (.long q2), .second, .val (.long q3), .second, .val (.long q4), .second, .val (.int p5), .val (.int (3 : Int32)), .val (.ref b126), .unset, .unset, .unset, .unset] [(.int (3 : Int32))])) _
      refine XS.iconst X130.here hx rfl (hb hby at_21) ?_
      show Steps p.tables e below (T130.setTop (mkF m 22 #[.val (.long q0), .second, .val (.long q1), .second, .val (.long q2), .second, .val (.long q3), .second, .val (.long q4), .second, .val (.int p5), .val (.int (3 : Int32)), .val (.ref b126), .unset, .unset, .unset, .unset] [(.int (1 : Int32)), (.int (3 : Int32))])) _
      refine XS.icmpNo X130.here hx rfl (hb hby at_22) rfl (tlt (by decide : (1 : Int32) < (3 : Int32))).2.2.2 ?_
      show Steps p.tables e below (T130.setTop (mkF m 25 #[.val (.long q0), .second, .val (.long q1), .second, .val (.long q2), .second, .val (.long q3), .second, .val (.long q4), .second, .val (.int p5), .val (.int (3 : Int32)), .val (.ref b126), .unset, .unset, .unset, .unset] [])) _
      refine XS.aload X130.here hx rfl (hb hby at_25) rfl rfl ?_
      show Steps p.tables e below (T130.setTop (mkF m 27 #[.val (.long q0), .second, .val (.long q1), .second, .val (.long q2), .second, .val (.long q3), .second, .val (.long q4), .second, .val (.int p5), .val (.int (3 : Int32)), .val (.ref b126), .unset, .unset, .unset, .unset] [(.ref b126)])) _
      refine XS.iconst X130.here hx rfl (hb hby at_27) ?_
      show Steps p.tables e below (T130.setTop (mkF m 28 #[.val (.long q0), .second, .val (.long q1), .second, .val (.long q2), .second, .val (.long q3), .second, .val (.long q4), .second, .val (.int p5), .val (.int (3 : Int32)), .val (.ref b126), .unset, .unset, .unset, .unset] [(.int (1 : Int32)), (.ref b126)])) _
      refine XS.lload X130.here hx rfl (hb hby at_28) rfl ?_
      exact kt
    obtain ⟨c134, Ar134, S134, M134, H134⟩ := id f131
    have hin134 : ¬ ((1 : Int32) < 0 ∨ c134.slots.size ≤ ((1 : Int32)).toNatClampNeg) := own_in S134 ⟨by decide, by decide⟩
    obtain ⟨T135, h135, X135, e135, W135, st135⟩ := stJ X130 hx hZ e130 Ar134 (j := (1 : Int32)) hin134 (g := (mkF m 30 #[.val (.long q0), .second, .val (.long q1), .second, .val (.long q2), .second, .val (.long q3), .second, .val (.long q4), .second, .val (.int p5), .val (.int (3 : Int32)), .val (.ref b126), .unset, .unset, .unset, .unset] [(.long q2), (.int (1 : Int32)), (.ref b126)])) rfl rfl (hb hby at_30)
    have f137 : Sta Z h135 "java/util/ArrayList" "DEFAULTCAPACITY_EMPTY_ELEMENTDATA" "[Ljava/lang/Object;" (.ref dz) := f132.wr W135
    have f138 : Exa Z h135 b126 "[J" := f133.wr W135
    have f136 : own_AJ Z h135 b126 .long 3 (own_upd (own_upd (fun _ => 0) 0 q1) 1 q2) := own_AJ.set Ar134 S134 M134 H134 W135
    have Z135 : n0 ≤ h135.size := Nat.le_trans Z130 (Keep.of_wr W135).1
    have N135 := Fr.snoc X135 N130 g_b126
    refine own_go (S' := T135.setTop (mkF m 31 #[.val (.long q0), .second, .val (.long q1), .second, .val (.long q2), .second, .val (.long q3), .second, .val (.long q4), .second, .val (.int p5), .val (.int (3 : Int32)), .val (.ref b126), .unset, .unset, .unset, .unset] [])) st135 ?_
    refine own_go (S' := T135.setTop (mkF m 42 #[.val (.long q0), .second, .val (.long q1), .second, .val (.long q2), .second, .val (.long q3), .second, .val (.long q4), .second, .val (.int p5), .val (.int (3 : Int32)), .val (.ref b126), .unset, .unset, .unset, .unset] [(.long q3), (.int (2 : Int32)), (.ref b126)])) (fun target kt => ?_) ?_
    · skip
      show Steps p.tables e below (T135.setTop (mkF m 31 #[.val (.long q0), .second, .val (.long q1), .second, .val (.long q2), .second, .val (.long q3), .second, .val (.long q4), .second, .val (.int p5), .val (.int (3 : Int32)), .val (.ref b126), .unset, .unset, .unset, .unset] [])) _
      refine XS.iload X135.here hx rfl (hb hby at_31) rfl ?_
      show Steps p.tables e below (T135.setTop (mkF m 33 #[.val (.long q0), .second, .val (.long q1), .second, .val (.long q2), .second, .val (.long q3), .second, .val (.long q4), .second, .val (.int p5), .val (.int (3 : Int32)), .val (.ref b126), .unset, .unset, .unset, .unset] [(.int (3 : Int32))])) _
      refine XS.iconst X135.here hx rfl (hb hby at_33) ?_
      show Steps p.tables e below (T135.setTop (mkF m 34 #[.val (.long q0), .second, .val (.long q1), .second, .val (.long q2), .second, .val (.long q3), .second, .val (.long q4), .second, .val (.int p5), .val (.int (3 : Int32)), .val (.ref b126), .unset, .unset, .unset, .unset] [(.int (2 : Int32)), (.int (3 : Int32))])) _
      refine XS.icmpNo X135.here hx rfl (hb hby at_34) rfl (tlt (by decide : (2 : Int32) < (3 : Int32))).2.2.2 ?_
      show Steps p.tables e below (T135.setTop (mkF m 37 #[.val (.long q0), .second, .val (.long q1), .second, .val (.long q2), .second, .val (.long q3), .second, .val (.long q4), .second, .val (.int p5), .val (.int (3 : Int32)), .val (.ref b126), .unset, .unset, .unset, .unset] [])) _
      refine XS.aload X135.here hx rfl (hb hby at_37) rfl rfl ?_
      show Steps p.tables e below (T135.setTop (mkF m 39 #[.val (.long q0), .second, .val (.long q1), .second, .val (.long q2), .second, .val (.long q3), .second, .val (.long q4), .second, .val (.int p5), .val (.int (3 : Int32)), .val (.ref b126), .unset, .unset, .unset, .unset] [(.ref b126)])) _
      refine XS.iconst X135.here hx rfl (hb hby at_39) ?_
      show Steps p.tables e below (T135.setTop (mkF m 40 #[.val (.long q0), .second, .val (.long q1), .second, .val (.long q2), .second, .val (.long q3), .second, .val (.long q4), .second, .val (.int p5), .val (.int (3 : Int32)), .val (.ref b126), .unset, .unset, .unset, .unset] [(.int (2 : Int32)), (.ref b126)])) _
      refine XS.lload X135.here hx rfl (hb hby at_40) rfl ?_
      exact kt
    obtain ⟨c139, Ar139, S139, M139, H139⟩ := id f136
    have hin139 : ¬ ((2 : Int32) < 0 ∨ c139.slots.size ≤ ((2 : Int32)).toNatClampNeg) := own_in S139 ⟨by decide, by decide⟩
    obtain ⟨T140, h140, X140, e140, W140, st140⟩ := stJ X135 hx hZ e135 Ar139 (j := (2 : Int32)) hin139 (g := (mkF m 42 #[.val (.long q0), .second, .val (.long q1), .second, .val (.long q2), .second, .val (.long q3), .second, .val (.long q4), .second, .val (.int p5), .val (.int (3 : Int32)), .val (.ref b126), .unset, .unset, .unset, .unset] [(.long q3), (.int (2 : Int32)), (.ref b126)])) rfl rfl (hb hby at_42)
    have f142 : Sta Z h140 "java/util/ArrayList" "DEFAULTCAPACITY_EMPTY_ELEMENTDATA" "[Ljava/lang/Object;" (.ref dz) := f137.wr W140
    have f143 : Exa Z h140 b126 "[J" := f138.wr W140
    have f141 : own_AJ Z h140 b126 .long 3 (own_upd (own_upd (own_upd (fun _ => 0) 0 q1) 1 q2) 2 q3) := own_AJ.set Ar139 S139 M139 H139 W140
    have Z140 : n0 ≤ h140.size := Nat.le_trans Z135 (Keep.of_wr W140).1
    have N140 := Fr.snoc X140 N135 g_b126
    refine own_go (S' := T140.setTop (mkF m 43 #[.val (.long q0), .second, .val (.long q1), .second, .val (.long q2), .second, .val (.long q3), .second, .val (.long q4), .second, .val (.int p5), .val (.int (3 : Int32)), .val (.ref b126), .unset, .unset, .unset, .unset] [])) st140 ?_
    refine own_go (S' := T140.setTop (mkF m 97 #[.val (.long q0), .second, .val (.long q1), .second, .val (.long q2), .second, .val (.long q3), .second, .val (.long q4), .second, .val (.int p5), .val (.int (3 : Int32)), .val (.ref b126), .val (.long q3), .second, .unset, .unset] [])) (fun target kt => ?_) ?_
    · skip
      show Steps p.tables e below (T140.setTop (mkF m 43 #[.val (.long q0), .second, .val (.long q1), .second, .val (.long q2), .second, .val (.long q3), .second, .val (.long q4), .second, .val (.int p5), .val (.int (3 : Int32)), .val (.ref b126), .unset, .unset, .unset, .unset] [])) _
      refine XS.iload X140.here hx rfl (hb hby at_43) rfl ?_
      show Steps p.tables e below (T140.setTop (mkF m 45 #[.val (.long q0), .second, .val (.long q1), .second, .val (.long q2), .second, .val (.long q3), .second, .val (.long q4), .second, .val (.int p5), .val (.int (3 : Int32)), .val (.ref b126), .unset, .unset, .unset, .unset] [(.int (3 : Int32))])) _
      refine XS.iconst X140.here hx rfl (hb hby at_45) ?_
      show Steps p.tables e below (T140.setTop (mkF m 46 #[.val (.long q0), .second, .val (.long q1), .second, .val (.long q2), .second, .val (.long q3), .second, .val (.long q4), .second, .val (.int p5), .val (.int (3 : Int32)), .val (.ref b126), .unset, .unset, .unset, .unset] [(.int (3 : Int32)), (.int (3 : Int32))])) _
      refine XS.icmpYes X140.here hx rfl (pc0 := 46) (pc' := 55) rfl (hb hby at_46) rfl (flt (by decide : ¬ (3 : Int32) < (3 : Int32))).2.2.2 (by decide) (by decide) ?_
      show Steps p.tables e below (T140.setTop (mkF m 55 #[.val (.long q0), .second, .val (.long q1), .second, .val (.long q2), .second, .val (.long q3), .second, .val (.long q4), .second, .val (.int p5), .val (.int (3 : Int32)), .val (.ref b126), .unset, .unset, .unset, .unset] [])) _
      refine XS.iload X140.here hx rfl (hb hby at_55) rfl ?_
      show Steps p.tables e below (T140.setTop (mkF m 57 #[.val (.long q0), .second, .val (.long q1), .second, .val (.long q2), .second, .val (.long q3), .second, .val (.long q4), .second, .val (.int p5), .val (.int (3 : Int32)), .val (.ref b126), .unset, .unset, .unset, .unset] [(.int (3 : Int32))])) _
      refine XS.iconst X140.here hx rfl (hb hby at_57) ?_
      show Steps p.tables e below (T140.setTop (mkF m 58 #[.val (.long q0), .second, .val (.long q1), .second, .val (.long q2), .second, .val (.long q3), .second, .val (.long q4), .second, .val (.int p5), .val (.int (3 : Int32)), .val (.ref b126), .unset, .unset, .unset, .unset] [(.int (1 : Int32)), (.int (3 : Int32))])) _
      refine XS.icmpYes X140.here hx rfl (pc0 := 58) (pc' := 67) rfl (hb hby at_58) rfl (feq (by decide : ¬ ((3 : Int32) = (1 : Int32)))).2 (by decide) (by decide) ?_
      show Steps p.tables e below (T140.setTop (mkF m 67 #[.val (.long q0), .second, .val (.long q1), .second, .val (.long q2), .second, .val (.long q3), .second, .val (.long q4), .second, .val (.int p5), .val (.int (3 : Int32)), .val (.ref b126), .unset, .unset, .unset, .unset] [])) _
      refine XS.iload X140.here hx rfl (hb hby at_67) rfl ?_
      show Steps p.tables e below (T140.setTop (mkF m 69 #[.val (.long q0), .second, .val (.long q1), .second, .val (.long q2), .second, .val (.long q3), .second, .val (.long q4), .second, .val (.int p5), .val (.int (3 : Int32)), .val (.ref b126), .unset, .unset, .unset, .unset] [(.int (3 : Int32))])) _
      refine XS.iconst X140.here hx rfl (hb hby at_69) ?_
      show Steps p.tables e below (T140.setTop (mkF m 70 #[.val (.long q0), .second, .val (.long q1), .second, .val (.long q2), .second, .val (.long q3), .second, .val (.long q4), .second, .val (.int p5), .val (.int (3 : Int32)), .val (.ref b126), .unset, .unset, .unset, .unset] [(.int (2 : Int32)), (.int (3 : Int32))])) _
      refine XS.icmpYes X140.here hx rfl (pc0 := 70) (pc' := 80) rfl (hb hby at_70) rfl (feq (by decide : ¬ ((3 : Int32) = (2 : Int32)))).2 (by decide) (by decide) ?_
      show Steps p.tables e below (T140.setTop (mkF m 80 #[.val (.long q0), .second, .val (.long q1), .second, .val (.long q2), .second, .val (.long q3), .second, .val (.long q4), .second, .val (.int p5), .val (.int (3 : Int32)), .val (.ref b126), .unset, .unset, .unset, .unset] [])) _
      refine XS.iload X140.here hx rfl (hb hby at_80) rfl ?_
      show Steps p.tables e below (T140.setTop (mkF m 82 #[.val (.long q0), .second, .val (.long q1), .second, .val (.long q2), .second, .val (.long q3), .second, .val (.long q4), .second, .val (.int p5), .val (.int (3 : Int32)), .val (.ref b126), .unset, .unset, .unset, .unset] [(.int (3 : Int32))])) _
      refine XS.iconst X140.here hx rfl (hb hby at_82) ?_
      show Steps p.tables e below (T140.setTop (mkF m 83 #[.val (.long q0), .second, .val (.long q1), .second, .val (.long q2), .second, .val (.long q3), .second, .val (.long q4), .second, .val (.int p5), .val (.int (3 : Int32)), .val (.ref b126), .unset, .unset, .unset, .unset] [(.int (3 : Int32)), (.int (3 : Int32))])) _
      refine XS.icmpNo X140.here hx rfl (hb hby at_83) rfl (teq (by decide : (3 : Int32) = (3 : Int32))).2 ?_
      show Steps p.tables e below (T140.setTop (mkF m 86 #[.val (.long q0), .second, .val (.long q1), .second, .val (.long q2), .second, .val (.long q3), .second, .val (.long q4), .second, .val (.int p5), .val (.int (3 : Int32)), .val (.ref b126), .unset, .unset, .unset, .unset] [])) _
      refine XS.lload X140.here hx rfl (hb hby at_86) rfl ?_
      show Steps p.tables e below (T140.setTop (mkF m 88 #[.val (.long q0), .second, .val (.long q1), .second, .val (.long q2), .second, .val (.long q3), .second, .val (.long q4), .second, .val (.int p5), .val (.int (3 : Int32)), .val (.ref b126), .unset, .unset, .unset, .unset] [(.long q3)])) _
      refine XS.lstore X140.here hx rfl (hb hby at_88) rfl (l' := #[.val (.long q0), .second, .val (.long q1), .second, .val (.long q2), .second, .val (.long q3), .second, .val (.long q4), .second, .val (.int p5), .val (.int (3 : Int32)), .val (.ref b126), .val (.long q3), .second, .unset, .unset]) rfl ?_
      show Steps p.tables e below (T140.setTop (mkF m 90 #[.val (.long q0), .second, .val (.long q1), .second, .val (.long q2), .second, .val (.long q3), .second, .val (.long q4), .second, .val (.int p5), .val (.int (3 : Int32)), .val (.ref b126), .val (.long q3), .second, .unset, .unset] [])) _
      refine XS.goto X140.here hx rfl (pc0 := 90) (pc' := 97) rfl (hb hby at_90) (by decide) (by decide) ?_
      exact kt
    obtain ⟨T144, h144, X144, e144, E144, A144, D144, -, st144⟩ := newO X140 hx hZ hown (hw _ (List.mem_of_getElem? (i := 1) rfl)) (hw _ (List.mem_of_getElem? (i := 2) rfl)) (hw _ (List.mem_of_getElem? (i := 3) rfl)) e140 (g := (mkF m 97 #[.val (.long q0), .second, .val (.long q1), .second, .val (.long q2), .second, .val (.long q3), .second, .val (.long q4), .second, .val (.int p5), .val (.int (3 : Int32)), .val (.ref b126), .val (.long q3), .second, .unset, .unset] [])) rfl (hb hby at_97) (by decide) (by decide)
    obtain ⟨b144, g144⟩ : ∃ z, z = h140.size := ⟨_, rfl⟩
    rw [← g144] at A144 D144 st144
    have f145 : Sta Z h144 "java/util/ArrayList" "DEFAULTCAPACITY_EMPTY_ELEMENTDATA" "[Ljava/lang/Object;" (.ref dz) := f142.ext E144
    have f146 : Exa Z h144 b126 "[J" := f143.ext E144
    have f147 : own_AJ Z h144 b126 .long 3 (own_upd (own_upd (own_upd (fun _ => 0) 0 q1) 1 q2) 2 q3) := f141.ext E144
    have g_b144 : n0 ≤ b144 := Nat.le_trans Z140 (Nat.le_of_eq g144.symm)
    have ne_b126_b144 : b126 ≠ b144 := Nat.ne_of_lt (Nat.lt_of_lt_of_le f143.lt (Nat.le_of_eq g144.symm))
    have Z144 : n0 ≤ h144.size := Nat.le_trans Z140 E144.1
    have f148 : Fld Z h144 b144 "java/util/AbstractList" "modCount" "I" (.int (0 : Int32)) := D144 (Or.inl (hw _ (List.mem_of_getElem? (i := 23) rfl))) (ty := .int) (by decide)
    have f149 : Fld Z h144 b144 "java/util/ArrayList" "elementData" "[Ljava/lang/Object;" .null := D144 (Or.inl (hw _ (List.mem_of_getElem? (i := 26) rfl))) (ty := (.array (.object "java/lang/Object"))) (by decide)
    refine own_go (S' := T144.setTop (mkF m 100 #[.val (.long q0), .second, .val (.long q1), .second, .val (.long q2), .second, .val (.long q3), .second, .val (.long q4), .second, .val (.int p5), .val (.int (3 : Int32)), .val (.ref b126), .val (.long q3), .second, .unset, .unset] [(.ref b144)])) st144 ?_
    refine own_go (S' := T144.setTop (mkF m 101 #[.val (.long q0), .second, .val (.long q1), .second, .val (.long q2), .second, .val (.long q3), .second, .val (.long q4), .second, .val (.int p5), .val (.int (3 : Int32)), .val (.ref b126), .val (.long q3), .second, .unset, .unset] [(.ref b144), (.ref b144)])) (fun target kt => ?_) ?_
    · skip
      show Steps p.tables e below (T144.setTop (mkF m 100 #[.val (.long q0), .second, .val (.long q1), .second, .val (.long q2), .second, .val (.long q3), .second, .val (.long q4), .second, .val (.int p5), .val (.int (3 : Int32)), .val (.ref b126), .val (.long q3), .second, .unset, .unset] [(.ref b144)])) _
      refine XS.dup X144.here hx rfl (hb hby at_100) rfl rfl ?_
      exact kt
    obtain ⟨_, _, ⟨T150, L150, k150, n150⟩, -, X150, ⟨Lc150, hQ150, l150, y150, z150⟩, st150⟩ := X144.specialBack hx (y := (⟨"java/util/ArrayList", "<init>", "()V"⟩ : MethodName)) rfl hown (mvT hZ (hw _ (List.mem_of_getElem? (i := 4) rfl))) (mvT hZ (hw _ (List.mem_of_getElem? (i := 5) rfl))) (mvT hZ (hw _ (List.mem_of_getElem? (i := 6) rfl))) (by decide) (backOf (W := 1) (rm1 l Z aZ hw [] b144 dz h144 n0 Z144 A144 f148 f149 f145 g_b144) hZ (hw _ (List.mem_of_getElem? (i := 6) rfl)) (hw _ (List.mem_of_getElem? (i := 3) rfl)) (by decide) (by decide)) (g := (mkF m 101 #[.val (.long q0), .second, .val (.long q1), .second, .val (.long q2), .second, .val (.long q3), .second, .val (.long q4), .second, .val (.int p5), .val (.int (3 : Int32)), .val (.ref b126), .val (.long q3), .second, .unset, .unset] [(.ref b144), (.ref b144)])) rfl (by rw [hml]; rfl) (Steps.refl _) (a := b144) (argsL := []) (rest := [(.ref b144)]) (lenOf own_pd0 rfl) rfl (by show 2 * 0 + _ ≤ _; exact Nat.le_of_eq rfl) (hb hby at_101) (fun _ _ => ⟨rfl, e144, (by decide : 2 + 0 ≤ _), (by decide : 6 + 0 ≤ _)⟩)
    dsimp only [Pt.U, Pt.locs, Pt.cells, Pt.slots] at X150 l150 y150 z150 st150 hQ150
    subst l150 y150 z150
    obtain ⟨rfl, N150q, K150q, f150_0⟩ := hQ150
    have N150 := Fr.app N140 N150q
    have f151 : Sta Z T150.heap "java/util/ArrayList" "DEFAULTCAPACITY_EMPTY_ELEMENTDATA" "[Ljava/lang/Object;" (.ref dz) := own_Sta_keep f145 K150q (allS (own_nst A144) all0)
    have f152 : Exa Z T150.heap b126 "[J" := f146.keep K150q
    have f153 : own_AJ Z T150.heap b126 .long 3 (own_upd (own_upd (own_upd (fun _ => 0) 0 q1) 1 q2) 2 q3) := f147.keep K150q (ninS ne_b126_b144 nin0)
    have f154 : Exa Z T150.heap b144 "java/util/ArrayList" := A144.keep K150q
    have Z150 : n0 ≤ T150.heap.size := Nat.le_trans Z144 K150q.1
    refine own_go (S' := T150.setTop (mkF m 104 #[.val (.long q0), .second, .val (.long q1), .second, .val (.long q2), .second, .val (.long q3), .second, .val (.long q4), .second, .val (.int p5), .val (.int (3 : Int32)), .val (.ref b126), .val (.long q3), .second, .unset, .unset] [(.ref b144)])) (fun _ k => st150.trans k) ?_
    refine own_go (S' := T150.setTop (mkF m 106 #[.val (.long q0), .second, .val (.long q1), .second, .val (.long q2), .second, .val (.long q3), .second, .val (.long q4), .second, .val (.int p5), .val (.int (3 : Int32)), .val (.ref b126), .val (.long q3), .second, .val (.ref b144), .unset] [])) (fun target kt => ?_) ?_
    · skip
      show Steps p.tables e below (T150.setTop (mkF m 104 #[.val (.long q0), .second, .val (.long q1), .second, .val (.long q2), .second, .val (.long q3), .second, .val (.long q4), .second, .val (.int p5), .val (.int (3 : Int32)), .val (.ref b126), .val (.long q3), .second, .unset, .unset] [(.ref b144)])) _
      refine XS.astore X150.here hx rfl (hb hby at_104) rfl rfl (l' := #[.val (.long q0), .second, .val (.long q1), .second, .val (.long q2), .second, .val (.long q3), .second, .val (.long q4), .second, .val (.int p5), .val (.int (3 : Int32)), .val (.ref b126), .val (.long q3), .second, .val (.ref b144), .unset]) rfl ?_
      exact kt
    obtain ⟨T157, h157, X157, e157, E157, A157, D157, -, st157⟩ := newO X150 hx hZ hown (hw _ (List.mem_of_getElem? (i := 27) rfl)) (hw _ (List.mem_of_getElem? (i := 28) rfl)) (hw _ (List.mem_of_getElem? (i := 29) rfl)) rfl (g := (mkF m 106 #[.val (.long q0), .second, .val (.long q1), .second, .val (.long q2), .second, .val (.long q3), .second, .val (.long q4), .second, .val (.int p5), .val (.int (3 : Int32)), .val (.ref b126), .val (.long q3), .second, .val (.ref b144), .unset] [])) rfl (hb hby at_106) (by decide) (by decide)
    obtain ⟨b157, g157⟩ : ∃ z, z = T150.heap.size := ⟨_, rfl⟩
    rw [← g157] at A157 D157 st157
    have f158 : Sta Z h157 "java/util/ArrayList" "DEFAULTCAPACITY_EMPTY_ELEMENTDATA" "[Ljava/lang/Object;" (.ref dz) := f151.ext E157
    have f159 : Exa Z h157 b126 "[J" := f152.ext E157
    have f160 : own_AJ Z h157 b126 .long 3 (own_upd (own_upd (own_upd (fun _ => 0) 0 q1) 1 q2) 2 q3) := f153.ext E157
    have f161 : Exa Z h157 b144 "java/util/ArrayList" := f150_0.ext E157
    have g_b157 : n0 ≤ b157 := Nat.le_trans Z150 (Nat.le_of_eq g157.symm)
    have ne_b126_b157 : b126 ≠ b157 := Nat.ne_of_lt (Nat.lt_of_lt_of_le f152.lt (Nat.le_of_eq g157.symm))
    have ne_b144_b157 : b144 ≠ b157 := Nat.ne_of_lt (Nat.lt_of_lt_of_le f150_0.lt (Nat.le_of_eq g157.symm))
    have Z157 : n0 ≤ h157.size := Nat.le_trans Z150 E157.1
    have f162 : Fld Z h157 b157 "com/example/access_bindings/accessbindings/benchmark/Exchanged" "firstSent" "J" (.long (0 : Int64)) := D157 (Or.inr (hw _ (List.mem_of_getElem? (i := 40) rfl))) (ty := .long) (by decide)
    have f163 : Fld Z h157 b157 "com/example/access_bindings/accessbindings/benchmark/Exchanged" "answeredAt" "[J" .null := D157 (Or.inr (hw _ (List.mem_of_getElem? (i := 42) rfl))) (ty := (.array .long)) (by decide)
    have f164 : Fld Z h157 b157 "com/example/access_bindings/accessbindings/benchmark/Exchanged" "answers" "Ljava/util/List;" .null := D157 (Or.inr (hw _ (List.mem_of_getElem? (i := 44) rfl))) (ty := (.object "java/util/List")) (by decide)
    refine own_go (S' := T157.setTop (mkF m 109 #[.val (.long q0), .second, .val (.long q1), .second, .val (.long q2), .second, .val (.long q3), .second, .val (.long q4), .second, .val (.int p5), .val (.int (3 : Int32)), .val (.ref b126), .val (.long q3), .second, .val (.ref b144), .unset] [(.ref b157)])) st157 ?_
    refine own_go (S' := T157.setTop (mkF m 115 #[.val (.long q0), .second, .val (.long q1), .second, .val (.long q2), .second, .val (.long q3), .second, .val (.long q4), .second, .val (.int p5), .val (.int (3 : Int32)), .val (.ref b126), .val (.long q3), .second, .val (.ref b144), .unset] [(.ref b144), (.ref b126), (.long q0), (.ref b157), (.ref b157)])) (fun target kt => ?_) ?_
    · skip
      show Steps p.tables e below (T157.setTop (mkF m 109 #[.val (.long q0), .second, .val (.long q1), .second, .val (.long q2), .second, .val (.long q3), .second, .val (.long q4), .second, .val (.int p5), .val (.int (3 : Int32)), .val (.ref b126), .val (.long q3), .second, .val (.ref b144), .unset] [(.ref b157)])) _
      refine XS.dup X157.here hx rfl (hb hby at_109) rfl rfl ?_
      show Steps p.tables e below (T157.setTop (mkF m 110 #[.val (.long q0), .second, .val (.long q1), .second, .val (.long q2), .second, .val (.long q3), .second, .val (.long q4), .second, .val (.int p5), .val (.int (3 : Int32)), .val (.ref b126), .val (.long q3), .second, .val (.ref b144), .unset] [(.ref b157), (.ref b157)])) _
      refine XS.lloadN X157.here hx rfl (hb hby at_110) rfl ?_
      show Steps p.tables e below (T157.setTop (mkF m 111 #[.val (.long q0), .second, .val (.long q1), .second, .val (.long q2), .second, .val (.long q3), .second, .val (.long q4), .second, .val (.int p5), .val (.int (3 : Int32)), .val (.ref b126), .val (.long q3), .second, .val (.ref b144), .unset] [(.long q0), (.ref b157), (.ref b157)])) _
      refine XS.aload X157.here hx rfl (hb hby at_111) rfl rfl ?_
      show Steps p.tables e below (T157.setTop (mkF m 113 #[.val (.long q0), .second, .val (.long q1), .second, .val (.long q2), .second, .val (.long q3), .second, .val (.long q4), .second, .val (.int p5), .val (.int (3 : Int32)), .val (.ref b126), .val (.long q3), .second, .val (.ref b144), .unset] [(.ref b126), (.long q0), (.ref b157), (.ref b157)])) _
      refine XS.aload X157.here hx rfl (hb hby at_113) rfl rfl ?_
      exact kt
    obtain ⟨_, _, ⟨T165, L165, k165, n165⟩, -, X165, ⟨Lc165, hQ165, l165, y165, z165⟩, st165⟩ := X157.specialBack hx (y := (⟨"com/example/access_bindings/accessbindings/benchmark/Exchanged", "<init>", "(J[JLjava/util/List;)V"⟩ : MethodName)) rfl hown (mvT hZ (hw _ (List.mem_of_getElem? (i := 30) rfl))) (mvT hZ (hw _ (List.mem_of_getElem? (i := 31) rfl))) (mvT hZ (hw _ (List.mem_of_getElem? (i := 32) rfl))) (by decide) (backOf (W := 1) (rm5 l Z aZ hw [] b157 q0 b126 b144 h157 n0 Z157 A157 f162 f163 f164 g_b157) hZ (hw _ (List.mem_of_getElem? (i := 32) rfl)) (hw _ (List.mem_of_getElem? (i := 29) rfl)) (by decide) (by decide)) (g := (mkF m 115 #[.val (.long q0), .second, .val (.long q1), .second, .val (.long q2), .second, .val (.long q3), .second, .val (.long q4), .second, .val (.int p5), .val (.int (3 : Int32)), .val (.ref b126), .val (.long q3), .second, .val (.ref b144), .unset] [(.ref b144), (.ref b126), (.long q0), (.ref b157), (.ref b157)])) rfl (by rw [hml]; rfl) (Steps.refl _) (a := b157) (argsL := [(.long q0), (.ref b126), (.ref b144)]) (rest := [(.ref b157)]) (lenOf own_pd1 rfl) rfl (by show 2 * 0 + _ ≤ _; exact Nat.le_of_eq rfl) (hb hby at_115) (fun _ _ => ⟨rfl, e157, (by decide : 3 + 0 ≤ _), (by decide : 9 + 0 ≤ _)⟩)
    dsimp only [Pt.U, Pt.locs, Pt.cells, Pt.slots] at X165 l165 y165 z165 st165 hQ165
    subst l165 y165 z165
    obtain ⟨rfl, N165q, K165q, f165_0, f165_1, f165_2, f165_3⟩ := hQ165
    have N165 := Fr.app N150 N165q
    have f166 : Sta Z T165.heap "java/util/ArrayList" "DEFAULTCAPACITY_EMPTY_ELEMENTDATA" "[Ljava/lang/Object;" (.ref dz) := own_Sta_keep f158 K165q (allS (own_nst A157) all0)
    have f167 : Exa Z T165.heap b126 "[J" := f159.keep K165q
    have f168 : own_AJ Z T165.heap b126 .long 3 (own_upd (own_upd (own_upd (fun _ => 0) 0 q1) 1 q2) 2 q3) := f160.keep K165q (ninS ne_b126_b157 nin0)
    have f169 : Exa Z T165.heap b144 "java/util/ArrayList" := f161.keep K165q
    have f170 : Exa Z T165.heap b157 "com/example/access_bindings/accessbindings/benchmark/Exchanged" := A157.keep K165q
    have Z165 : n0 ≤ T165.heap.size := Nat.le_trans Z157 K165q.1
    refine own_go (S' := T165.setTop (mkF m 118 #[.val (.long q0), .second, .val (.long q1), .second, .val (.long q2), .second, .val (.long q3), .second, .val (.long q4), .second, .val (.int p5), .val (.int (3 : Int32)), .val (.ref b126), .val (.long q3), .second, .val (.ref b144), .unset] [(.ref b157)])) (fun _ k => st165.trans k) ?_
    refine own_go (S' := T165.setTop (mkF m 122 #[.val (.long q0), .second, .val (.long q1), .second, .val (.long q2), .second, .val (.long q3), .second, .val (.long q4), .second, .val (.int p5), .val (.int (3 : Int32)), .val (.ref b126), .val (.long q3), .second, .val (.ref b144), .val (.ref b157)] [(.ref b157)])) (fun target kt => ?_) ?_
    · skip
      show Steps p.tables e below (T165.setTop (mkF m 118 #[.val (.long q0), .second, .val (.long q1), .second, .val (.long q2), .second, .val (.long q3), .second, .val (.long q4), .second, .val (.int p5), .val (.int (3 : Int32)), .val (.ref b126), .val (.long q3), .second, .val (.ref b144), .unset] [(.ref b157)])) _
      refine XS.astore X165.here hx rfl (hb hby at_118) rfl rfl (l' := #[.val (.long q0), .second, .val (.long q1), .second, .val (.long q2), .second, .val (.long q3), .second, .val (.long q4), .second, .val (.int p5), .val (.int (3 : Int32)), .val (.ref b126), .val (.long q3), .second, .val (.ref b144), .val (.ref b157)]) rfl ?_
      show Steps p.tables e below (T165.setTop (mkF m 120 #[.val (.long q0), .second, .val (.long q1), .second, .val (.long q2), .second, .val (.long q3), .second, .val (.long q4), .second, .val (.int p5), .val (.int (3 : Int32)), .val (.ref b126), .val (.long q3), .second, .val (.ref b144), .val (.ref b157)] [])) _
      refine XS.aload X165.here hx rfl (hb hby at_120) rfl rfl ?_
      exact kt
    obtain ⟨cq171, kq171, q171a, q171b, q171c⟩ := isOf hZ rfl f165_0
    obtain ⟨_, _, ⟨T171, L171, k171, n171⟩, -, X171, ⟨Lc171, hQ171, l171, y171, z171⟩, st171⟩ := X165.virtualBack hx (y := (⟨"com/example/access_bindings/accessbindings/benchmark/Exchanged", "lastAnswered", "()J"⟩ : MethodName)) (z := (⟨"com/example/access_bindings/accessbindings/benchmark/Exchanged", "lastAnswered", "()J"⟩ : MethodName)) hown (mvT hZ (hw _ (List.mem_of_getElem? (i := 45) rfl))) (mvT hZ (hw _ (List.mem_of_getElem? (i := 46) rfl))) (notFace_of_selects (args := #[]) (mvT hZ (hw _ (List.mem_of_getElem? (i := 48) rfl)))) (mvT hZ (hw _ (List.mem_of_getElem? (i := 48) rfl))) (mvT hZ (hw _ (List.mem_of_getElem? (i := 47) rfl))) (by decide) (backOf (W := 0) (rm7_3 l Z aZ hw [] b157 q0 b126 (own_upd (own_upd (own_upd (fun _ => 0) 0 q1) 1 q2) 2 q3) T165.heap n0 Z165 f165_1 f165_2 f168) hZ (hw _ (List.mem_of_getElem? (i := 49) rfl)) (hw _ (List.mem_of_getElem? (i := 29) rfl)) (by decide) (by decide)) q171a q171c (g := (mkF m 122 #[.val (.long q0), .second, .val (.long q1), .second, .val (.long q2), .second, .val (.long q3), .second, .val (.long q4), .second, .val (.int p5), .val (.int (3 : Int32)), .val (.ref b126), .val (.long q3), .second, .val (.ref b144), .val (.ref b157)] [(.ref b157)])) rfl (by rw [hml]; rfl) (Steps.refl _) (argsL := []) (rest := []) (lenOf own_pd2 rfl) rfl (by show 2 * 0 + _ ≤ _; exact Nat.le_of_eq rfl) (hb hby at_122) (fun _ _ => ⟨rfl, rfl, (by decide : 3 + 0 ≤ _), (by decide : 9 + 0 ≤ _)⟩)
    dsimp only [Pt.U, Pt.locs, Pt.cells, Pt.slots] at X171 l171 y171 z171 st171 hQ171
    subst l171 y171 z171
    obtain ⟨rfl, N171q, e171⟩ := hQ171
    have N171 := Fr.app N165 N171q
    refine own_go (S' := T171.setTop (mkF m 125 #[.val (.long q0), .second, .val (.long q1), .second, .val (.long q2), .second, .val (.long q3), .second, .val (.long q4), .second, .val (.int p5), .val (.int (3 : Int32)), .val (.ref b126), .val (.long q3), .second, .val (.ref b144), .val (.ref b157)] [(.long ((own_upd (own_upd (own_upd (fun _ => 0) 0 q1) 1 q2) 2 q3) 2))])) (fun _ k => st171.trans k) ?_
    refine own_go (S' := T171.setTop (mkF m 136 #[.val (.long q0), .second, .val (.long q1), .second, .val (.long q2), .second, .val (.long q3), .second, .val (.long q4), .second, .val (.int p5), .val (.int (3 : Int32)), .val (.ref b126), .val (.long q3), .second, .val (.ref b144), .val (.ref b157)] [(.int (1 : Int32))])) (fun target kt => ?_) ?_
    · skip
      show Steps p.tables e below (T171.setTop (mkF m 125 #[.val (.long q0), .second, .val (.long q1), .second, .val (.long q2), .second, .val (.long q3), .second, .val (.long q4), .second, .val (.int p5), .val (.int (3 : Int32)), .val (.ref b126), .val (.long q3), .second, .val (.ref b144), .val (.ref b157)] [(.long ((own_upd (own_upd (own_upd (fun _ => 0) 0 q1) 1 q2) 2 q3) 2))])) _
      refine XS.lload X171.here hx rfl (hb hby at_125) rfl ?_
      show Steps p.tables e below (T171.setTop (mkF m 127 #[.val (.long q0), .second, .val (.long q1), .second, .val (.long q2), .second, .val (.long q3), .second, .val (.long q4), .second, .val (.int p5), .val (.int (3 : Int32)), .val (.ref b126), .val (.long q3), .second, .val (.ref b144), .val (.ref b157)] [(.long q3), (.long ((own_upd (own_upd (own_upd (fun _ => 0) 0 q1) 1 q2) 2 q3) 2))])) _
      refine XS.lcmp X171.here hx rfl (hb hby at_127) rfl ?_
      show Steps p.tables e below (T171.setTop (mkF m 128 #[.val (.long q0), .second, .val (.long q1), .second, .val (.long q2), .second, .val (.long q3), .second, .val (.long q4), .second, .val (.int p5), .val (.int (3 : Int32)), .val (.ref b126), .val (.long q3), .second, .val (.ref b144), .val (.ref b157)] [(.int (lcmpW ((own_upd (own_upd (own_upd (fun _ => 0) 0 q1) 1 q2) 2 q3) 2) q3))])) _
      refine XS.ifNo X171.here hx rfl (hb hby at_128) rfl (show ifCond.holds .ne (lcmpW ((own_upd (own_upd (own_upd (fun _ => 0) 0 q1) 1 q2) 2 q3) 2) q3) = false from Jvm.Free.XT.ll_ne_f (rfl : ((own_upd (own_upd (own_upd (fun _ => 0) 0 q1) 1 q2) 2 q3) 2) = q3)) ?_
      show Steps p.tables e below (T171.setTop (mkF m 131 #[.val (.long q0), .second, .val (.long q1), .second, .val (.long q2), .second, .val (.long q3), .second, .val (.long q4), .second, .val (.int p5), .val (.int (3 : Int32)), .val (.ref b126), .val (.long q3), .second, .val (.ref b144), .val (.ref b157)] [])) _
      refine XS.iconst X171.here hx rfl (hb hby at_131) ?_
      show Steps p.tables e below (T171.setTop (mkF m 132 #[.val (.long q0), .second, .val (.long q1), .second, .val (.long q2), .second, .val (.long q3), .second, .val (.long q4), .second, .val (.int p5), .val (.int (3 : Int32)), .val (.ref b126), .val (.long q3), .second, .val (.ref b144), .val (.ref b157)] [(.int (1 : Int32))])) _
      refine XS.goto X171.here hx rfl (pc0 := 132) (pc' := 136) rfl (hb hby at_132) (by decide) (by decide) ?_
      exact kt
    obtain ⟨fs, hr, hrun, hended, hW, hsame⟩ := X171.leave (v := some (.int (1 : Int32))) (fun h => by rw [Bd.returns] at h; cases h)
    refine ⟨_, _, ?_, hrun, hended, _, _, rfl, ?_, ⟨_, rfl⟩, hW, hsame.mono (by decide) (by decide)⟩
    · exact retN X171 hx (t := .boolean) Bd.returns (by simp) (hb hby at_136) hr
    · show Q0 Z q0 q1 q2 q3 q4 p5 dz h0 n0 _ T171.heap _
      rw [e171]
      exact ⟨rfl, N171⟩
  · subst hs_n
    refine own_go (S' := s₁.setTop (mkF m 10 #[.val (.long q0), .second, .val (.long q1), .second, .val (.long q2), .second, .val (.long q3), .second, .val (.long q4), .second, .val (.int p5), .val (.int (4 : Int32)), .unset, .unset, .unset, .unset, .unset] [(.int (4 : Int32))])) (fun target kt => ?_) ?_
    · skip
      show Steps p.tables e below (s₁.setTop (mkF m 8 #[.val (.long q0), .second, .val (.long q1), .second, .val (.long q2), .second, .val (.long q3), .second, .val (.long q4), .second, .val (.int p5), .val (.int (4 : Int32)), .unset, .unset, .unset, .unset, .unset] [])) _
      refine XS.iload X0.here hx rfl (hb hby at_8) rfl ?_
      exact kt
    obtain ⟨T172, h172, k172, X172, e172, E172, A172, B172, st172⟩ := newPE X0 hx hZ (hw _ (List.mem_of_getElem? (i := 0) rfl)) e0 (g := (mkF m 10 #[.val (.long q0), .second, .val (.long q1), .second, .val (.long q2), .second, .val (.long q3), .second, .val (.long q4), .second, .val (.int p5), .val (.int (4 : Int32)), .unset, .unset, .unset, .unset, .unset] [(.int (4 : Int32))])) rfl (hb hby at_10) rfl (by decide) (cap := 4) (by decide) (by decide) (by decide) (by decide) (ad := "[J") (by decide)
    obtain ⟨b172, g172⟩ : ∃ z, z = h0.size := ⟨_, rfl⟩
    rw [← g172] at A172 B172 st172
    have f173 : Sta Z h172 "java/util/ArrayList" "DEFAULTCAPACITY_EMPTY_ELEMENTDATA" "[Ljava/lang/Object;" (.ref dz) := pf0.ext E172
    have g_b172 : n0 ≤ b172 := Nat.le_trans Z0 (Nat.le_of_eq g172.symm)
    have Z172 : n0 ≤ h172.size := Nat.le_trans Z0 E172.1
    have f174 : own_AJ Z h172 b172 .long 4 (fun _ => 0) := own_AJ.fresh A172 rfl
    refine own_go (S' := T172.setTop (mkF m 12 #[.val (.long q0), .second, .val (.long q1), .second, .val (.long q2), .second, .val (.long q3), .second, .val (.long q4), .second, .val (.int p5), .val (.int (4 : Int32)), .unset, .unset, .unset, .unset, .unset] [(.ref b172)])) st172 ?_
    refine own_go (S' := T172.setTop (mkF m 18 #[.val (.long q0), .second, .val (.long q1), .second, .val (.long q2), .second, .val (.long q3), .second, .val (.long q4), .second, .val (.int p5), .val (.int (4 : Int32)), .val (.ref b172), .unset, .unset, .unset, .unset] [(.long q1), (.int (0 : Int32)), (.ref b172)])) (fun target kt => ?_) ?_
    · skip
      show Steps p.tables e below (T172.setTop (mkF m 12 #[.val (.long q0), .second, .val (.long q1), .second, .val (.long q2), .second, .val (.long q3), .second, .val (.long q4), .second, .val (.int p5), .val (.int (4 : Int32)), .unset, .unset, .unset, .unset, .unset] [(.ref b172)])) _
      refine XS.astore X172.here hx rfl (hb hby at_12) rfl rfl (l' := #[.val (.long q0), .second, .val (.long q1), .second, .val (.long q2), .second, .val (.long q3), .second, .val (.long q4), .second, .val (.int p5), .val (.int (4 : Int32)), .val (.ref b172), .unset, .unset, .unset, .unset]) rfl ?_
      show Steps p.tables e below (T172.setTop (mkF m 14 #[.val (.long q0), .second, .val (.long q1), .second, .val (.long q2), .second, .val (.long q3), .second, .val (.long q4), .second, .val (.int p5), .val (.int (4 : Int32)), .val (.ref b172), .unset, .unset, .unset, .unset] [])) _
      refine XS.aload X172.here hx rfl (hb hby at_14) rfl rfl ?_
      show Steps p.tables e below (T172.setTop (mkF m 16 #[.val (.long q0), .second, .val (.long q1), .second, .val (.long q2), .second, .val (.long q3), .second, .val (.long q4), .second, .val (.int p5), .val (.int (4 : Int32)), .val (.ref b172), .unset, .unset, .unset, .unset] [(.ref b172)])) _
      refine XS.iconst X172.here hx rfl (hb hby at_16) ?_
      show Steps p.tables e below (T172.setTop (mkF m 17 #[.val (.long q0), .second, .val (.long q1), .second, .val (.long q2), .second, .val (.long q3), .second, .val (.long q4), .second, .val (.int p5), .val (.int (4 : Int32)), .val (.ref b172), .unset, .unset, .unset, .unset] [(.int (0 : Int32)), (.ref b172)])) _
      refine XS.lloadN X172.here hx rfl (hb hby at_17) rfl ?_
      exact kt
    obtain ⟨c175, Ar175, S175, M175, H175⟩ := id f174
    have hin175 : ¬ ((0 : Int32) < 0 ∨ c175.slots.size ≤ ((0 : Int32)).toNatClampNeg) := own_in S175 ⟨by decide, by decide⟩
    obtain ⟨T176, h176, X176, e176, W176, st176⟩ := stJ X172 hx hZ e172 Ar175 (j := (0 : Int32)) hin175 (g := (mkF m 18 #[.val (.long q0), .second, .val (.long q1), .second, .val (.long q2), .second, .val (.long q3), .second, .val (.long q4), .second, .val (.int p5), .val (.int (4 : Int32)), .val (.ref b172), .unset, .unset, .unset, .unset] [(.long q1), (.int (0 : Int32)), (.ref b172)])) rfl rfl (hb hby at_18)
    have f178 : Sta Z h176 "java/util/ArrayList" "DEFAULTCAPACITY_EMPTY_ELEMENTDATA" "[Ljava/lang/Object;" (.ref dz) := f173.wr W176
    have f179 : Exa Z h176 b172 "[J" := B172.wr W176
    have f177 : own_AJ Z h176 b172 .long 4 (own_upd (fun _ => 0) 0 q1) := own_AJ.set Ar175 S175 M175 H175 W176
    have Z176 : n0 ≤ h176.size := Nat.le_trans Z172 (Keep.of_wr W176).1
    have N176 := Fr.snoc X176 N0 g_b172
    refine own_go (S' := T176.setTop (mkF m 19 #[.val (.long q0), .second, .val (.long q1), .second, .val (.long q2), .second, .val (.long q3), .second, .val (.long q4), .second, .val (.int p5), .val (.int (4 : Int32)), .val (.ref b172), .unset, .unset, .unset, .unset] [])) st176 ?_
    refine own_go (S' := T176.setTop (mkF m 30 #[.val (.long q0), .second, .val (.long q1), .second, .val (.long q2), .second, .val (.long q3), .second, .val (.long q4), .second, .val (.int p5), .val (.int (4 : Int32)), .val (.ref b172), .unset, .unset, .unset, .unset] [(.long q2), (.int (1 : Int32)), (.ref b172)])) (fun target kt => ?_) ?_
    · skip
      show Steps p.tables e below (T176.setTop (mkF m 19 #[.val (.long q0), .second, .val (.long q1), .second, .val (.long q2), .second, .val (.long q3), .second, .val (.long q4), .second, .val (.int p5), .val (.int (4 : Int32)), .val (.ref b172), .unset, .unset, .unset, .unset] [])) _
      refine XS.iload X176.here hx rfl (hb hby at_19) rfl ?_
      show Steps p.tables e below (T176.setTop (mkF m 21 #[.val (.long q0), .second, .val (.long q1), .second, .val (.long q2), .second, .val (.long q3), .second, .val (.long q4), .second, .val (.int p5), .val (.int (4 : Int32)), .val (.ref b172), .unset, .unset, .unset, .unset] [(.int (4 : Int32))])) _
      refine XS.iconst X176.here hx rfl (hb hby at_21) ?_
      show Steps p.tables e below (T176.setTop (mkF m 22 #[.val (.long q0), .second, .val (.long q1), .second, .val (.long q2), .second, .val (.long q3), .second, .val (.long q4), .second, .val (.int p5), .val (.int (4 : Int32)), .val (.ref b172), .unset, .unset, .unset, .unset] [(.int (1 : Int32)), (.int (4 : Int32))])) _
      refine XS.icmpNo X176.here hx rfl (hb hby at_22) rfl (tlt (by decide : (1 : Int32) < (4 : Int32))).2.2.2 ?_
      show Steps p.tables e below (T176.setTop (mkF m 25 #[.val (.long q0), .second, .val (.long q1), .second, .val (.long q2), .second, .val (.long q3), .second, .val (.long q4), .second, .val (.int p5), .val (.int (4 : Int32)), .val (.ref b172), .unset, .unset, .unset, .unset] [])) _
      refine XS.aload X176.here hx rfl (hb hby at_25) rfl rfl ?_
      show Steps p.tables e below (T176.setTop (mkF m 27 #[.val (.long q0), .second, .val (.long q1), .second, .val (.long q2), .second, .val (.long q3), .second, .val (.long q4), .second, .val (.int p5), .val (.int (4 : Int32)), .val (.ref b172), .unset, .unset, .unset, .unset] [(.ref b172)])) _
      refine XS.iconst X176.here hx rfl (hb hby at_27) ?_
      show Steps p.tables e below (T176.setTop (mkF m 28 #[.val (.long q0), .second, .val (.long q1), .second, .val (.long q2), .second, .val (.long q3), .second, .val (.long q4), .second, .val (.int p5), .val (.int (4 : Int32)), .val (.ref b172), .unset, .unset, .unset, .unset] [(.int (1 : Int32)), (.ref b172)])) _
      refine XS.lload X176.here hx rfl (hb hby at_28) rfl ?_
      exact kt
    obtain ⟨c180, Ar180, S180, M180, H180⟩ := id f177
    have hin180 : ¬ ((1 : Int32) < 0 ∨ c180.slots.size ≤ ((1 : Int32)).toNatClampNeg) := own_in S180 ⟨by decide, by decide⟩
    obtain ⟨T181, h181, X181, e181, W181, st181⟩ := stJ X176 hx hZ e176 Ar180 (j := (1 : Int32)) hin180 (g := (mkF m 30 #[.val (.long q0), .second, .val (.long q1), .second, .val (.long q2), .second, .val (.long q3), .second, .val (.long q4), .second, .val (.int p5), .val (.int (4 : Int32)), .val (.ref b172), .unset, .unset, .unset, .unset] [(.long q2), (.int (1 : Int32)), (.ref b172)])) rfl rfl (hb hby at_30)
    have f183 : Sta Z h181 "java/util/ArrayList" "DEFAULTCAPACITY_EMPTY_ELEMENTDATA" "[Ljava/lang/Object;" (.ref dz) := f178.wr W181
    have f184 : Exa Z h181 b172 "[J" := f179.wr W181
    have f182 : own_AJ Z h181 b172 .long 4 (own_upd (own_upd (fun _ => 0) 0 q1) 1 q2) := own_AJ.set Ar180 S180 M180 H180 W181
    have Z181 : n0 ≤ h181.size := Nat.le_trans Z176 (Keep.of_wr W181).1
    have N181 := Fr.snoc X181 N176 g_b172
    refine own_go (S' := T181.setTop (mkF m 31 #[.val (.long q0), .second, .val (.long q1), .second, .val (.long q2), .second, .val (.long q3), .second, .val (.long q4), .second, .val (.int p5), .val (.int (4 : Int32)), .val (.ref b172), .unset, .unset, .unset, .unset] [])) st181 ?_
    refine own_go (S' := T181.setTop (mkF m 42 #[.val (.long q0), .second, .val (.long q1), .second, .val (.long q2), .second, .val (.long q3), .second, .val (.long q4), .second, .val (.int p5), .val (.int (4 : Int32)), .val (.ref b172), .unset, .unset, .unset, .unset] [(.long q3), (.int (2 : Int32)), (.ref b172)])) (fun target kt => ?_) ?_
    · skip
      show Steps p.tables e below (T181.setTop (mkF m 31 #[.val (.long q0), .second, .val (.long q1), .second, .val (.long q2), .second, .val (.long q3), .second, .val (.long q4), .second, .val (.int p5), .val (.int (4 : Int32)), .val (.ref b172), .unset, .unset, .unset, .unset] [])) _
      refine XS.iload X181.here hx rfl (hb hby at_31) rfl ?_
      show Steps p.tables e below (T181.setTop (mkF m 33 #[.val (.long q0), .second, .val (.long q1), .second, .val (.long q2), .second, .val (.long q3), .second, .val (.long q4), .second, .val (.int p5), .val (.int (4 : Int32)), .val (.ref b172), .unset, .unset, .unset, .unset] [(.int (4 : Int32))])) _
      refine XS.iconst X181.here hx rfl (hb hby at_33) ?_
      show Steps p.tables e below (T181.setTop (mkF m 34 #[.val (.long q0), .second, .val (.long q1), .second, .val (.long q2), .second, .val (.long q3), .second, .val (.long q4), .second, .val (.int p5), .val (.int (4 : Int32)), .val (.ref b172), .unset, .unset, .unset, .unset] [(.int (2 : Int32)), (.int (4 : Int32))])) _
      refine XS.icmpNo X181.here hx rfl (hb hby at_34) rfl (tlt (by decide : (2 : Int32) < (4 : Int32))).2.2.2 ?_
      show Steps p.tables e below (T181.setTop (mkF m 37 #[.val (.long q0), .second, .val (.long q1), .second, .val (.long q2), .second, .val (.long q3), .second, .val (.long q4), .second, .val (.int p5), .val (.int (4 : Int32)), .val (.ref b172), .unset, .unset, .unset, .unset] [])) _
      refine XS.aload X181.here hx rfl (hb hby at_37) rfl rfl ?_
      show Steps p.tables e below (T181.setTop (mkF m 39 #[.val (.long q0), .second, .val (.long q1), .second, .val (.long q2), .second, .val (.long q3), .second, .val (.long q4), .second, .val (.int p5), .val (.int (4 : Int32)), .val (.ref b172), .unset, .unset, .unset, .unset] [(.ref b172)])) _
      refine XS.iconst X181.here hx rfl (hb hby at_39) ?_
      show Steps p.tables e below (T181.setTop (mkF m 40 #[.val (.long q0), .second, .val (.long q1), .second, .val (.long q2), .second, .val (.long q3), .second, .val (.long q4), .second, .val (.int p5), .val (.int (4 : Int32)), .val (.ref b172), .unset, .unset, .unset, .unset] [(.int (2 : Int32)), (.ref b172)])) _
      refine XS.lload X181.here hx rfl (hb hby at_40) rfl ?_
      exact kt
    obtain ⟨c185, Ar185, S185, M185, H185⟩ := id f182
    have hin185 : ¬ ((2 : Int32) < 0 ∨ c185.slots.size ≤ ((2 : Int32)).toNatClampNeg) := own_in S185 ⟨by decide, by decide⟩
    obtain ⟨T186, h186, X186, e186, W186, st186⟩ := stJ X181 hx hZ e181 Ar185 (j := (2 : Int32)) hin185 (g := (mkF m 42 #[.val (.long q0), .second, .val (.long q1), .second, .val (.long q2), .second, .val (.long q3), .second, .val (.long q4), .second, .val (.int p5), .val (.int (4 : Int32)), .val (.ref b172), .unset, .unset, .unset, .unset] [(.long q3), (.int (2 : Int32)), (.ref b172)])) rfl rfl (hb hby at_42)
    have f188 : Sta Z h186 "java/util/ArrayList" "DEFAULTCAPACITY_EMPTY_ELEMENTDATA" "[Ljava/lang/Object;" (.ref dz) := f183.wr W186
    have f189 : Exa Z h186 b172 "[J" := f184.wr W186
    have f187 : own_AJ Z h186 b172 .long 4 (own_upd (own_upd (own_upd (fun _ => 0) 0 q1) 1 q2) 2 q3) := own_AJ.set Ar185 S185 M185 H185 W186
    have Z186 : n0 ≤ h186.size := Nat.le_trans Z181 (Keep.of_wr W186).1
    have N186 := Fr.snoc X186 N181 g_b172
    refine own_go (S' := T186.setTop (mkF m 43 #[.val (.long q0), .second, .val (.long q1), .second, .val (.long q2), .second, .val (.long q3), .second, .val (.long q4), .second, .val (.int p5), .val (.int (4 : Int32)), .val (.ref b172), .unset, .unset, .unset, .unset] [])) st186 ?_
    refine own_go (S' := T186.setTop (mkF m 54 #[.val (.long q0), .second, .val (.long q1), .second, .val (.long q2), .second, .val (.long q3), .second, .val (.long q4), .second, .val (.int p5), .val (.int (4 : Int32)), .val (.ref b172), .unset, .unset, .unset, .unset] [(.long q4), (.int (3 : Int32)), (.ref b172)])) (fun target kt => ?_) ?_
    · skip
      show Steps p.tables e below (T186.setTop (mkF m 43 #[.val (.long q0), .second, .val (.long q1), .second, .val (.long q2), .second, .val (.long q3), .second, .val (.long q4), .second, .val (.int p5), .val (.int (4 : Int32)), .val (.ref b172), .unset, .unset, .unset, .unset] [])) _
      refine XS.iload X186.here hx rfl (hb hby at_43) rfl ?_
      show Steps p.tables e below (T186.setTop (mkF m 45 #[.val (.long q0), .second, .val (.long q1), .second, .val (.long q2), .second, .val (.long q3), .second, .val (.long q4), .second, .val (.int p5), .val (.int (4 : Int32)), .val (.ref b172), .unset, .unset, .unset, .unset] [(.int (4 : Int32))])) _
      refine XS.iconst X186.here hx rfl (hb hby at_45) ?_
      show Steps p.tables e below (T186.setTop (mkF m 46 #[.val (.long q0), .second, .val (.long q1), .second, .val (.long q2), .second, .val (.long q3), .second, .val (.long q4), .second, .val (.int p5), .val (.int (4 : Int32)), .val (.ref b172), .unset, .unset, .unset, .unset] [(.int (3 : Int32)), (.int (4 : Int32))])) _
      refine XS.icmpNo X186.here hx rfl (hb hby at_46) rfl (tlt (by decide : (3 : Int32) < (4 : Int32))).2.2.2 ?_
      show Steps p.tables e below (T186.setTop (mkF m 49 #[.val (.long q0), .second, .val (.long q1), .second, .val (.long q2), .second, .val (.long q3), .second, .val (.long q4), .second, .val (.int p5), .val (.int (4 : Int32)), .val (.ref b172), .unset, .unset, .unset, .unset] [])) _
      refine XS.aload X186.here hx rfl (hb hby at_49) rfl rfl ?_
      show Steps p.tables e below (T186.setTop (mkF m 51 #[.val (.long q0), .second, .val (.long q1), .second, .val (.long q2), .second, .val (.long q3), .second, .val (.long q4), .second, .val (.int p5), .val (.int (4 : Int32)), .val (.ref b172), .unset, .unset, .unset, .unset] [(.ref b172)])) _
      refine XS.iconst X186.here hx rfl (hb hby at_51) ?_
      show Steps p.tables e below (T186.setTop (mkF m 52 #[.val (.long q0), .second, .val (.long q1), .second, .val (.long q2), .second, .val (.long q3), .second, .val (.long q4), .second, .val (.int p5), .val (.int (4 : Int32)), .val (.ref b172), .unset, .unset, .unset, .unset] [(.int (3 : Int32)), (.ref b172)])) _
      refine XS.lload X186.here hx rfl (hb hby at_52) rfl ?_
      exact kt
    obtain ⟨c190, Ar190, S190, M190, H190⟩ := id f187
    have hin190 : ¬ ((3 : Int32) < 0 ∨ c190.slots.size ≤ ((3 : Int32)).toNatClampNeg) := own_in S190 ⟨by decide, by decide⟩
    obtain ⟨T191, h191, X191, e191, W191, st191⟩ := stJ X186 hx hZ e186 Ar190 (j := (3 : Int32)) hin190 (g := (mkF m 54 #[.val (.long q0), .second, .val (.long q1), .second, .val (.long q2), .second, .val (.long q3), .second, .val (.long q4), .second, .val (.int p5), .val (.int (4 : Int32)), .val (.ref b172), .unset, .unset, .unset, .unset] [(.long q4), (.int (3 : Int32)), (.ref b172)])) rfl rfl (hb hby at_54)
    have f193 : Sta Z h191 "java/util/ArrayList" "DEFAULTCAPACITY_EMPTY_ELEMENTDATA" "[Ljava/lang/Object;" (.ref dz) := f188.wr W191
    have f194 : Exa Z h191 b172 "[J" := f189.wr W191
    have f192 : own_AJ Z h191 b172 .long 4 (own_upd (own_upd (own_upd (own_upd (fun _ => 0) 0 q1) 1 q2) 2 q3) 3 q4) := own_AJ.set Ar190 S190 M190 H190 W191
    have Z191 : n0 ≤ h191.size := Nat.le_trans Z186 (Keep.of_wr W191).1
    have N191 := Fr.snoc X191 N186 g_b172
    refine own_go (S' := T191.setTop (mkF m 55 #[.val (.long q0), .second, .val (.long q1), .second, .val (.long q2), .second, .val (.long q3), .second, .val (.long q4), .second, .val (.int p5), .val (.int (4 : Int32)), .val (.ref b172), .unset, .unset, .unset, .unset] [])) st191 ?_
    refine own_go (S' := T191.setTop (mkF m 97 #[.val (.long q0), .second, .val (.long q1), .second, .val (.long q2), .second, .val (.long q3), .second, .val (.long q4), .second, .val (.int p5), .val (.int (4 : Int32)), .val (.ref b172), .val (.long q4), .second, .unset, .unset] [])) (fun target kt => ?_) ?_
    · skip
      show Steps p.tables e below (T191.setTop (mkF m 55 #[.val (.long q0), .second, .val (.long q1), .second, .val (.long q2), .second, .val (.long q3), .second, .val (.long q4), .second, .val (.int p5), .val (.int (4 : Int32)), .val (.ref b172), .unset, .unset, .unset, .unset] [])) _
      refine XS.iload X191.here hx rfl (hb hby at_55) rfl ?_
      show Steps p.tables e below (T191.setTop (mkF m 57 #[.val (.long q0), .second, .val (.long q1), .second, .val (.long q2), .second, .val (.long q3), .second, .val (.long q4), .second, .val (.int p5), .val (.int (4 : Int32)), .val (.ref b172), .unset, .unset, .unset, .unset] [(.int (4 : Int32))])) _
      refine XS.iconst X191.here hx rfl (hb hby at_57) ?_
      show Steps p.tables e below (T191.setTop (mkF m 58 #[.val (.long q0), .second, .val (.long q1), .second, .val (.long q2), .second, .val (.long q3), .second, .val (.long q4), .second, .val (.int p5), .val (.int (4 : Int32)), .val (.ref b172), .unset, .unset, .unset, .unset] [(.int (1 : Int32)), (.int (4 : Int32))])) _
      refine XS.icmpYes X191.here hx rfl (pc0 := 58) (pc' := 67) rfl (hb hby at_58) rfl (feq (by decide : ¬ ((4 : Int32) = (1 : Int32)))).2 (by decide) (by decide) ?_
      show Steps p.tables e below (T191.setTop (mkF m 67 #[.val (.long q0), .second, .val (.long q1), .second, .val (.long q2), .second, .val (.long q3), .second, .val (.long q4), .second, .val (.int p5), .val (.int (4 : Int32)), .val (.ref b172), .unset, .unset, .unset, .unset] [])) _
      refine XS.iload X191.here hx rfl (hb hby at_67) rfl ?_
      show Steps p.tables e below (T191.setTop (mkF m 69 #[.val (.long q0), .second, .val (.long q1), .second, .val (.long q2), .second, .val (.long q3), .second, .val (.long q4), .second, .val (.int p5), .val (.int (4 : Int32)), .val (.ref b172), .unset, .unset, .unset, .unset] [(.int (4 : Int32))])) _
      refine XS.iconst X191.here hx rfl (hb hby at_69) ?_
      show Steps p.tables e below (T191.setTop (mkF m 70 #[.val (.long q0), .second, .val (.long q1), .second, .val (.long q2), .second, .val (.long q3), .second, .val (.long q4), .second, .val (.int p5), .val (.int (4 : Int32)), .val (.ref b172), .unset, .unset, .unset, .unset] [(.int (2 : Int32)), (.int (4 : Int32))])) _
      refine XS.icmpYes X191.here hx rfl (pc0 := 70) (pc' := 80) rfl (hb hby at_70) rfl (feq (by decide : ¬ ((4 : Int32) = (2 : Int32)))).2 (by decide) (by decide) ?_
      show Steps p.tables e below (T191.setTop (mkF m 80 #[.val (.long q0), .second, .val (.long q1), .second, .val (.long q2), .second, .val (.long q3), .second, .val (.long q4), .second, .val (.int p5), .val (.int (4 : Int32)), .val (.ref b172), .unset, .unset, .unset, .unset] [])) _
      refine XS.iload X191.here hx rfl (hb hby at_80) rfl ?_
      show Steps p.tables e below (T191.setTop (mkF m 82 #[.val (.long q0), .second, .val (.long q1), .second, .val (.long q2), .second, .val (.long q3), .second, .val (.long q4), .second, .val (.int p5), .val (.int (4 : Int32)), .val (.ref b172), .unset, .unset, .unset, .unset] [(.int (4 : Int32))])) _
      refine XS.iconst X191.here hx rfl (hb hby at_82) ?_
      show Steps p.tables e below (T191.setTop (mkF m 83 #[.val (.long q0), .second, .val (.long q1), .second, .val (.long q2), .second, .val (.long q3), .second, .val (.long q4), .second, .val (.int p5), .val (.int (4 : Int32)), .val (.ref b172), .unset, .unset, .unset, .unset] [(.int (3 : Int32)), (.int (4 : Int32))])) _
      refine XS.icmpYes X191.here hx rfl (pc0 := 83) (pc' := 93) rfl (hb hby at_83) rfl (feq (by decide : ¬ ((4 : Int32) = (3 : Int32)))).2 (by decide) (by decide) ?_
      show Steps p.tables e below (T191.setTop (mkF m 93 #[.val (.long q0), .second, .val (.long q1), .second, .val (.long q2), .second, .val (.long q3), .second, .val (.long q4), .second, .val (.int p5), .val (.int (4 : Int32)), .val (.ref b172), .unset, .unset, .unset, .unset] [])) _
      refine XS.lload X191.here hx rfl (hb hby at_93) rfl ?_
      show Steps p.tables e below (T191.setTop (mkF m 95 #[.val (.long q0), .second, .val (.long q1), .second, .val (.long q2), .second, .val (.long q3), .second, .val (.long q4), .second, .val (.int p5), .val (.int (4 : Int32)), .val (.ref b172), .unset, .unset, .unset, .unset] [(.long q4)])) _
      refine XS.lstore X191.here hx rfl (hb hby at_95) rfl (l' := #[.val (.long q0), .second, .val (.long q1), .second, .val (.long q2), .second, .val (.long q3), .second, .val (.long q4), .second, .val (.int p5), .val (.int (4 : Int32)), .val (.ref b172), .val (.long q4), .second, .unset, .unset]) rfl ?_
      exact kt
    obtain ⟨T195, h195, X195, e195, E195, A195, D195, -, st195⟩ := newO X191 hx hZ hown (hw _ (List.mem_of_getElem? (i := 1) rfl)) (hw _ (List.mem_of_getElem? (i := 2) rfl)) (hw _ (List.mem_of_getElem? (i := 3) rfl)) e191 (g := (mkF m 97 #[.val (.long q0), .second, .val (.long q1), .second, .val (.long q2), .second, .val (.long q3), .second, .val (.long q4), .second, .val (.int p5), .val (.int (4 : Int32)), .val (.ref b172), .val (.long q4), .second, .unset, .unset] [])) rfl (hb hby at_97) (by decide) (by decide)
    obtain ⟨b195, g195⟩ : ∃ z, z = h191.size := ⟨_, rfl⟩
    rw [← g195] at A195 D195 st195
    have f196 : Sta Z h195 "java/util/ArrayList" "DEFAULTCAPACITY_EMPTY_ELEMENTDATA" "[Ljava/lang/Object;" (.ref dz) := f193.ext E195
    have f197 : Exa Z h195 b172 "[J" := f194.ext E195
    have f198 : own_AJ Z h195 b172 .long 4 (own_upd (own_upd (own_upd (own_upd (fun _ => 0) 0 q1) 1 q2) 2 q3) 3 q4) := f192.ext E195
    have g_b195 : n0 ≤ b195 := Nat.le_trans Z191 (Nat.le_of_eq g195.symm)
    have ne_b172_b195 : b172 ≠ b195 := Nat.ne_of_lt (Nat.lt_of_lt_of_le f194.lt (Nat.le_of_eq g195.symm))
    have Z195 : n0 ≤ h195.size := Nat.le_trans Z191 E195.1
    have f199 : Fld Z h195 b195 "java/util/AbstractList" "modCount" "I" (.int (0 : Int32)) := D195 (Or.inl (hw _ (List.mem_of_getElem? (i := 23) rfl))) (ty := .int) (by decide)
    have f200 : Fld Z h195 b195 "java/util/ArrayList" "elementData" "[Ljava/lang/Object;" .null := D195 (Or.inl (hw _ (List.mem_of_getElem? (i := 26) rfl))) (ty := (.array (.object "java/lang/Object"))) (by decide)
    refine own_go (S' := T195.setTop (mkF m 100 #[.val (.long q0), .second, .val (.long q1), .second, .val (.long q2), .second, .val (.long q3), .second, .val (.long q4), .second, .val (.int p5), .val (.int (4 : Int32)), .val (.ref b172), .val (.long q4), .second, .unset, .unset] [(.ref b195)])) st195 ?_
    refine own_go (S' := T195.setTop (mkF m 101 #[.val (.long q0), .second, .val (.long q1), .second, .val (.long q2), .second, .val (.long q3), .second, .val (.long q4), .second, .val (.int p5), .val (.int (4 : Int32)), .val (.ref b172), .val (.long q4), .second, .unset, .unset] [(.ref b195), (.ref b195)])) (fun target kt => ?_) ?_
    · skip
      show Steps p.tables e below (T195.setTop (mkF m 100 #[.val (.long q0), .second, .val (.long q1), .second, .val (.long q2), .second, .val (.long q3), .second, .val (.long q4), .second, .val (.int p5), .val (.int (4 : Int32)), .val (.ref b172), .val (.long q4), .second, .unset, .unset] [(.ref b195)])) _
      refine XS.dup X195.here hx rfl (hb hby at_100) rfl rfl ?_
      exact kt
    obtain ⟨_, _, ⟨T201, L201, k201, n201⟩, -, X201, ⟨Lc201, hQ201, l201, y201, z201⟩, st201⟩ := X195.specialBack hx (y := (⟨"java/util/ArrayList", "<init>", "()V"⟩ : MethodName)) rfl hown (mvT hZ (hw _ (List.mem_of_getElem? (i := 4) rfl))) (mvT hZ (hw _ (List.mem_of_getElem? (i := 5) rfl))) (mvT hZ (hw _ (List.mem_of_getElem? (i := 6) rfl))) (by decide) (backOf (W := 1) (rm1 l Z aZ hw [] b195 dz h195 n0 Z195 A195 f199 f200 f196 g_b195) hZ (hw _ (List.mem_of_getElem? (i := 6) rfl)) (hw _ (List.mem_of_getElem? (i := 3) rfl)) (by decide) (by decide)) (g := (mkF m 101 #[.val (.long q0), .second, .val (.long q1), .second, .val (.long q2), .second, .val (.long q3), .second, .val (.long q4), .second, .val (.int p5), .val (.int (4 : Int32)), .val (.ref b172), .val (.long q4), .second, .unset, .unset] [(.ref b195), (.ref b195)])) rfl (by rw [hml]; rfl) (Steps.refl _) (a := b195) (argsL := []) (rest := [(.ref b195)]) (lenOf own_pd0 rfl) rfl (by show 2 * 0 + _ ≤ _; exact Nat.le_of_eq rfl) (hb hby at_101) (fun _ _ => ⟨rfl, e195, (by decide : 2 + 0 ≤ _), (by decide : 7 + 0 ≤ _)⟩)
    dsimp only [Pt.U, Pt.locs, Pt.cells, Pt.slots] at X201 l201 y201 z201 st201 hQ201
    subst l201 y201 z201
    obtain ⟨rfl, N201q, K201q, f201_0⟩ := hQ201
    have N201 := Fr.app N191 N201q
    have f202 : Sta Z T201.heap "java/util/ArrayList" "DEFAULTCAPACITY_EMPTY_ELEMENTDATA" "[Ljava/lang/Object;" (.ref dz) := own_Sta_keep f196 K201q (allS (own_nst A195) all0)
    have f203 : Exa Z T201.heap b172 "[J" := f197.keep K201q
    have f204 : own_AJ Z T201.heap b172 .long 4 (own_upd (own_upd (own_upd (own_upd (fun _ => 0) 0 q1) 1 q2) 2 q3) 3 q4) := f198.keep K201q (ninS ne_b172_b195 nin0)
    have f205 : Exa Z T201.heap b195 "java/util/ArrayList" := A195.keep K201q
    have Z201 : n0 ≤ T201.heap.size := Nat.le_trans Z195 K201q.1
    refine own_go (S' := T201.setTop (mkF m 104 #[.val (.long q0), .second, .val (.long q1), .second, .val (.long q2), .second, .val (.long q3), .second, .val (.long q4), .second, .val (.int p5), .val (.int (4 : Int32)), .val (.ref b172), .val (.long q4), .second, .unset, .unset] [(.ref b195)])) (fun _ k => st201.trans k) ?_
    refine own_go (S' := T201.setTop (mkF m 106 #[.val (.long q0), .second, .val (.long q1), .second, .val (.long q2), .second, .val (.long q3), .second, .val (.long q4), .second, .val (.int p5), .val (.int (4 : Int32)), .val (.ref b172), .val (.long q4), .second, .val (.ref b195), .unset] [])) (fun target kt => ?_) ?_
    · skip
      show Steps p.tables e below (T201.setTop (mkF m 104 #[.val (.long q0), .second, .val (.long q1), .second, .val (.long q2), .second, .val (.long q3), .second, .val (.long q4), .second, .val (.int p5), .val (.int (4 : Int32)), .val (.ref b172), .val (.long q4), .second, .unset, .unset] [(.ref b195)])) _
      refine XS.astore X201.here hx rfl (hb hby at_104) rfl rfl (l' := #[.val (.long q0), .second, .val (.long q1), .second, .val (.long q2), .second, .val (.long q3), .second, .val (.long q4), .second, .val (.int p5), .val (.int (4 : Int32)), .val (.ref b172), .val (.long q4), .second, .val (.ref b195), .unset]) rfl ?_
      exact kt
    obtain ⟨T208, h208, X208, e208, E208, A208, D208, -, st208⟩ := newO X201 hx hZ hown (hw _ (List.mem_of_getElem? (i := 27) rfl)) (hw _ (List.mem_of_getElem? (i := 28) rfl)) (hw _ (List.mem_of_getElem? (i := 29) rfl)) rfl (g := (mkF m 106 #[.val (.long q0), .second, .val (.long q1), .second, .val (.long q2), .second, .val (.long q3), .second, .val (.long q4), .second, .val (.int p5), .val (.int (4 : Int32)), .val (.ref b172), .val (.long q4), .second, .val (.ref b195), .unset] [])) rfl (hb hby at_106) (by decide) (by decide)
    obtain ⟨b208, g208⟩ : ∃ z, z = T201.heap.size := ⟨_, rfl⟩
    rw [← g208] at A208 D208 st208
    have f209 : Sta Z h208 "java/util/ArrayList" "DEFAULTCAPACITY_EMPTY_ELEMENTDATA" "[Ljava/lang/Object;" (.ref dz) := f202.ext E208
    have f210 : Exa Z h208 b172 "[J" := f203.ext E208
    have f211 : own_AJ Z h208 b172 .long 4 (own_upd (own_upd (own_upd (own_upd (fun _ => 0) 0 q1) 1 q2) 2 q3) 3 q4) := f204.ext E208
    have f212 : Exa Z h208 b195 "java/util/ArrayList" := f201_0.ext E208
    have g_b208 : n0 ≤ b208 := Nat.le_trans Z201 (Nat.le_of_eq g208.symm)
    have ne_b172_b208 : b172 ≠ b208 := Nat.ne_of_lt (Nat.lt_of_lt_of_le f203.lt (Nat.le_of_eq g208.symm))
    have ne_b195_b208 : b195 ≠ b208 := Nat.ne_of_lt (Nat.lt_of_lt_of_le f201_0.lt (Nat.le_of_eq g208.symm))
    have Z208 : n0 ≤ h208.size := Nat.le_trans Z201 E208.1
    have f213 : Fld Z h208 b208 "com/example/access_bindings/accessbindings/benchmark/Exchanged" "firstSent" "J" (.long (0 : Int64)) := D208 (Or.inr (hw _ (List.mem_of_getElem? (i := 40) rfl))) (ty := .long) (by decide)
    have f214 : Fld Z h208 b208 "com/example/access_bindings/accessbindings/benchmark/Exchanged" "answeredAt" "[J" .null := D208 (Or.inr (hw _ (List.mem_of_getElem? (i := 42) rfl))) (ty := (.array .long)) (by decide)
    have f215 : Fld Z h208 b208 "com/example/access_bindings/accessbindings/benchmark/Exchanged" "answers" "Ljava/util/List;" .null := D208 (Or.inr (hw _ (List.mem_of_getElem? (i := 44) rfl))) (ty := (.object "java/util/List")) (by decide)
    refine own_go (S' := T208.setTop (mkF m 109 #[.val (.long q0), .second, .val (.long q1), .second, .val (.long q2), .second, .val (.long q3), .second, .val (.long q4), .second, .val (.int p5), .val (.int (4 : Int32)), .val (.ref b172), .val (.long q4), .second, .val (.ref b195), .unset] [(.ref b208)])) st208 ?_
    refine own_go (S' := T208.setTop (mkF m 115 #[.val (.long q0), .second, .val (.long q1), .second, .val (.long q2), .second, .val (.long q3), .second, .val (.long q4), .second, .val (.int p5), .val (.int (4 : Int32)), .val (.ref b172), .val (.long q4), .second, .val (.ref b195), .unset] [(.ref b195), (.ref b172), (.long q0), (.ref b208), (.ref b208)])) (fun target kt => ?_) ?_
    · skip
      show Steps p.tables e below (T208.setTop (mkF m 109 #[.val (.long q0), .second, .val (.long q1), .second, .val (.long q2), .second, .val (.long q3), .second, .val (.long q4), .second, .val (.int p5), .val (.int (4 : Int32)), .val (.ref b172), .val (.long q4), .second, .val (.ref b195), .unset] [(.ref b208)])) _
      refine XS.dup X208.here hx rfl (hb hby at_109) rfl rfl ?_
      show Steps p.tables e below (T208.setTop (mkF m 110 #[.val (.long q0), .second, .val (.long q1), .second, .val (.long q2), .second, .val (.long q3), .second, .val (.long q4), .second, .val (.int p5), .val (.int (4 : Int32)), .val (.ref b172), .val (.long q4), .second, .val (.ref b195), .unset] [(.ref b208), (.ref b208)])) _
      refine XS.lloadN X208.here hx rfl (hb hby at_110) rfl ?_
      show Steps p.tables e below (T208.setTop (mkF m 111 #[.val (.long q0), .second, .val (.long q1), .second, .val (.long q2), .second, .val (.long q3), .second, .val (.long q4), .second, .val (.int p5), .val (.int (4 : Int32)), .val (.ref b172), .val (.long q4), .second, .val (.ref b195), .unset] [(.long q0), (.ref b208), (.ref b208)])) _
      refine XS.aload X208.here hx rfl (hb hby at_111) rfl rfl ?_
      show Steps p.tables e below (T208.setTop (mkF m 113 #[.val (.long q0), .second, .val (.long q1), .second, .val (.long q2), .second, .val (.long q3), .second, .val (.long q4), .second, .val (.int p5), .val (.int (4 : Int32)), .val (.ref b172), .val (.long q4), .second, .val (.ref b195), .unset] [(.ref b172), (.long q0), (.ref b208), (.ref b208)])) _
      refine XS.aload X208.here hx rfl (hb hby at_113) rfl rfl ?_
      exact kt
    obtain ⟨_, _, ⟨T216, L216, k216, n216⟩, -, X216, ⟨Lc216, hQ216, l216, y216, z216⟩, st216⟩ := X208.specialBack hx (y := (⟨"com/example/access_bindings/accessbindings/benchmark/Exchanged", "<init>", "(J[JLjava/util/List;)V"⟩ : MethodName)) rfl hown (mvT hZ (hw _ (List.mem_of_getElem? (i := 30) rfl))) (mvT hZ (hw _ (List.mem_of_getElem? (i := 31) rfl))) (mvT hZ (hw _ (List.mem_of_getElem? (i := 32) rfl))) (by decide) (backOf (W := 1) (rm5 l Z aZ hw [] b208 q0 b172 b195 h208 n0 Z208 A208 f213 f214 f215 g_b208) hZ (hw _ (List.mem_of_getElem? (i := 32) rfl)) (hw _ (List.mem_of_getElem? (i := 29) rfl)) (by decide) (by decide)) (g := (mkF m 115 #[.val (.long q0), .second, .val (.long q1), .second, .val (.long q2), .second, .val (.long q3), .second, .val (.long q4), .second, .val (.int p5), .val (.int (4 : Int32)), .val (.ref b172), .val (.long q4), .second, .val (.ref b195), .unset] [(.ref b195), (.ref b172), (.long q0), (.ref b208), (.ref b208)])) rfl (by rw [hml]; rfl) (Steps.refl _) (a := b208) (argsL := [(.long q0), (.ref b172), (.ref b195)]) (rest := [(.ref b208)]) (lenOf own_pd1 rfl) rfl (by show 2 * 0 + _ ≤ _; exact Nat.le_of_eq rfl) (hb hby at_115) (fun _ _ => ⟨rfl, e208, (by decide : 3 + 0 ≤ _), (by decide : 10 + 0 ≤ _)⟩)
    dsimp only [Pt.U, Pt.locs, Pt.cells, Pt.slots] at X216 l216 y216 z216 st216 hQ216
    subst l216 y216 z216
    obtain ⟨rfl, N216q, K216q, f216_0, f216_1, f216_2, f216_3⟩ := hQ216
    have N216 := Fr.app N201 N216q
    have f217 : Sta Z T216.heap "java/util/ArrayList" "DEFAULTCAPACITY_EMPTY_ELEMENTDATA" "[Ljava/lang/Object;" (.ref dz) := own_Sta_keep f209 K216q (allS (own_nst A208) all0)
    have f218 : Exa Z T216.heap b172 "[J" := f210.keep K216q
    have f219 : own_AJ Z T216.heap b172 .long 4 (own_upd (own_upd (own_upd (own_upd (fun _ => 0) 0 q1) 1 q2) 2 q3) 3 q4) := f211.keep K216q (ninS ne_b172_b208 nin0)
    have f220 : Exa Z T216.heap b195 "java/util/ArrayList" := f212.keep K216q
    have f221 : Exa Z T216.heap b208 "com/example/access_bindings/accessbindings/benchmark/Exchanged" := A208.keep K216q
    have Z216 : n0 ≤ T216.heap.size := Nat.le_trans Z208 K216q.1
    refine own_go (S' := T216.setTop (mkF m 118 #[.val (.long q0), .second, .val (.long q1), .second, .val (.long q2), .second, .val (.long q3), .second, .val (.long q4), .second, .val (.int p5), .val (.int (4 : Int32)), .val (.ref b172), .val (.long q4), .second, .val (.ref b195), .unset] [(.ref b208)])) (fun _ k => st216.trans k) ?_
    refine own_go (S' := T216.setTop (mkF m 122 #[.val (.long q0), .second, .val (.long q1), .second, .val (.long q2), .second, .val (.long q3), .second, .val (.long q4), .second, .val (.int p5), .val (.int (4 : Int32)), .val (.ref b172), .val (.long q4), .second, .val (.ref b195), .val (.ref b208)] [(.ref b208)])) (fun target kt => ?_) ?_
    · skip
      show Steps p.tables e below (T216.setTop (mkF m 118 #[.val (.long q0), .second, .val (.long q1), .second, .val (.long q2), .second, .val (.long q3), .second, .val (.long q4), .second, .val (.int p5), .val (.int (4 : Int32)), .val (.ref b172), .val (.long q4), .second, .val (.ref b195), .unset] [(.ref b208)])) _
      refine XS.astore X216.here hx rfl (hb hby at_118) rfl rfl (l' := #[.val (.long q0), .second, .val (.long q1), .second, .val (.long q2), .second, .val (.long q3), .second, .val (.long q4), .second, .val (.int p5), .val (.int (4 : Int32)), .val (.ref b172), .val (.long q4), .second, .val (.ref b195), .val (.ref b208)]) rfl ?_
      show Steps p.tables e below (T216.setTop (mkF m 120 #[.val (.long q0), .second, .val (.long q1), .second, .val (.long q2), .second, .val (.long q3), .second, .val (.long q4), .second, .val (.int p5), .val (.int (4 : Int32)), .val (.ref b172), .val (.long q4), .second, .val (.ref b195), .val (.ref b208)] [])) _
      refine XS.aload X216.here hx rfl (hb hby at_120) rfl rfl ?_
      exact kt
    obtain ⟨cq222, kq222, q222a, q222b, q222c⟩ := isOf hZ rfl f216_0
    obtain ⟨_, _, ⟨T222, L222, k222, n222⟩, -, X222, ⟨Lc222, hQ222, l222, y222, z222⟩, st222⟩ := X216.virtualBack hx (y := (⟨"com/example/access_bindings/accessbindings/benchmark/Exchanged", "lastAnswered", "()J"⟩ : MethodName)) (z := (⟨"com/example/access_bindings/accessbindings/benchmark/Exchanged", "lastAnswered", "()J"⟩ : MethodName)) hown (mvT hZ (hw _ (List.mem_of_getElem? (i := 45) rfl))) (mvT hZ (hw _ (List.mem_of_getElem? (i := 46) rfl))) (notFace_of_selects (args := #[]) (mvT hZ (hw _ (List.mem_of_getElem? (i := 48) rfl)))) (mvT hZ (hw _ (List.mem_of_getElem? (i := 48) rfl))) (mvT hZ (hw _ (List.mem_of_getElem? (i := 47) rfl))) (by decide) (backOf (W := 0) (rm7_4 l Z aZ hw [] b208 q0 b172 (own_upd (own_upd (own_upd (own_upd (fun _ => 0) 0 q1) 1 q2) 2 q3) 3 q4) T216.heap n0 Z216 f216_1 f216_2 f219) hZ (hw _ (List.mem_of_getElem? (i := 49) rfl)) (hw _ (List.mem_of_getElem? (i := 29) rfl)) (by decide) (by decide)) q222a q222c (g := (mkF m 122 #[.val (.long q0), .second, .val (.long q1), .second, .val (.long q2), .second, .val (.long q3), .second, .val (.long q4), .second, .val (.int p5), .val (.int (4 : Int32)), .val (.ref b172), .val (.long q4), .second, .val (.ref b195), .val (.ref b208)] [(.ref b208)])) rfl (by rw [hml]; rfl) (Steps.refl _) (argsL := []) (rest := []) (lenOf own_pd2 rfl) rfl (by show 2 * 0 + _ ≤ _; exact Nat.le_of_eq rfl) (hb hby at_122) (fun _ _ => ⟨rfl, rfl, (by decide : 3 + 0 ≤ _), (by decide : 10 + 0 ≤ _)⟩)
    dsimp only [Pt.U, Pt.locs, Pt.cells, Pt.slots] at X222 l222 y222 z222 st222 hQ222
    subst l222 y222 z222
    obtain ⟨rfl, N222q, e222⟩ := hQ222
    have N222 := Fr.app N216 N222q
    refine own_go (S' := T222.setTop (mkF m 125 #[.val (.long q0), .second, .val (.long q1), .second, .val (.long q2), .second, .val (.long q3), .second, .val (.long q4), .second, .val (.int p5), .val (.int (4 : Int32)), .val (.ref b172), .val (.long q4), .second, .val (.ref b195), .val (.ref b208)] [(.long ((own_upd (own_upd (own_upd (own_upd (fun _ => 0) 0 q1) 1 q2) 2 q3) 3 q4) 3))])) (fun _ k => st222.trans k) ?_
    refine own_go (S' := T222.setTop (mkF m 136 #[.val (.long q0), .second, .val (.long q1), .second, .val (.long q2), .second, .val (.long q3), .second, .val (.long q4), .second, .val (.int p5), .val (.int (4 : Int32)), .val (.ref b172), .val (.long q4), .second, .val (.ref b195), .val (.ref b208)] [(.int (1 : Int32))])) (fun target kt => ?_) ?_
    · skip
      show Steps p.tables e below (T222.setTop (mkF m 125 #[.val (.long q0), .second, .val (.long q1), .second, .val (.long q2), .second, .val (.long q3), .second, .val (.long q4), .second, .val (.int p5), .val (.int (4 : Int32)), .val (.ref b172), .val (.long q4), .second, .val (.ref b195), .val (.ref b208)] [(.long ((own_upd (own_upd (own_upd (own_upd (fun _ => 0) 0 q1) 1 q2) 2 q3) 3 q4) 3))])) _
      refine XS.lload X222.here hx rfl (hb hby at_125) rfl ?_
      show Steps p.tables e below (T222.setTop (mkF m 127 #[.val (.long q0), .second, .val (.long q1), .second, .val (.long q2), .second, .val (.long q3), .second, .val (.long q4), .second, .val (.int p5), .val (.int (4 : Int32)), .val (.ref b172), .val (.long q4), .second, .val (.ref b195), .val (.ref b208)] [(.long q4), (.long ((own_upd (own_upd (own_upd (own_upd (fun _ => 0) 0 q1) 1 q2) 2 q3) 3 q4) 3))])) _
      refine XS.lcmp X222.here hx rfl (hb hby at_127) rfl ?_
      show Steps p.tables e below (T222.setTop (mkF m 128 #[.val (.long q0), .second, .val (.long q1), .second, .val (.long q2), .second, .val (.long q3), .second, .val (.long q4), .second, .val (.int p5), .val (.int (4 : Int32)), .val (.ref b172), .val (.long q4), .second, .val (.ref b195), .val (.ref b208)] [(.int (lcmpW ((own_upd (own_upd (own_upd (own_upd (fun _ => 0) 0 q1) 1 q2) 2 q3) 3 q4) 3) q4))])) _
      refine XS.ifNo X222.here hx rfl (hb hby at_128) rfl (show ifCond.holds .ne (lcmpW ((own_upd (own_upd (own_upd (own_upd (fun _ => 0) 0 q1) 1 q2) 2 q3) 3 q4) 3) q4) = false from Jvm.Free.XT.ll_ne_f (rfl : ((own_upd (own_upd (own_upd (own_upd (fun _ => 0) 0 q1) 1 q2) 2 q3) 3 q4) 3) = q4)) ?_
      show Steps p.tables e below (T222.setTop (mkF m 131 #[.val (.long q0), .second, .val (.long q1), .second, .val (.long q2), .second, .val (.long q3), .second, .val (.long q4), .second, .val (.int p5), .val (.int (4 : Int32)), .val (.ref b172), .val (.long q4), .second, .val (.ref b195), .val (.ref b208)] [])) _
      refine XS.iconst X222.here hx rfl (hb hby at_131) ?_
      show Steps p.tables e below (T222.setTop (mkF m 132 #[.val (.long q0), .second, .val (.long q1), .second, .val (.long q2), .second, .val (.long q3), .second, .val (.long q4), .second, .val (.int p5), .val (.int (4 : Int32)), .val (.ref b172), .val (.long q4), .second, .val (.ref b195), .val (.ref b208)] [(.int (1 : Int32))])) _
      refine XS.goto X222.here hx rfl (pc0 := 132) (pc' := 136) rfl (hb hby at_132) (by decide) (by decide) ?_
      exact kt
    obtain ⟨fs, hr, hrun, hended, hW, hsame⟩ := X222.leave (v := some (.int (1 : Int32))) (fun h => by rw [Bd.returns] at h; cases h)
    refine ⟨_, _, ?_, hrun, hended, _, _, rfl, ?_, ⟨_, rfl⟩, hW, hsame.mono (by decide) (by decide)⟩
    · exact retN X222 hx (t := .boolean) Bd.returns (by simp) (hb hby at_136) hr
    · show Q0 Z q0 q1 q2 q3 q4 p5 dz h0 n0 _ T222.heap _
      rw [e222]
      exact ⟨rfl, N222⟩
set_option maxRecDepth 65536 in
set_option maxHeartbeats 40000000 in
theorem comes_1 {Post : Tables → Env → Array Value → State → Outcome → State → Prop} (hpost : ∀ tb e args s v u, (limb_1_1.after args s (.returned v) u = true ∧ limb_1_2.after args s (.returned v) u = true) → FrameEnd s (.returned v) u (Jvm.fieldLocs frame_1_writes args s ++ Jvm.arrayLocs frame_1_arrays args s ++ Jvm.staticLocs frame_1_statics s) 16 128 → Post tb e args s (.returned v) u) :
    ArmFor flags0 classFile x code maxLocals ret World_1 tables_1 room_1 Calls_1 rest_1 Pre_1 Post := by
  intro l hfl _ _ p e ha hc hk s m args below hf hA hF happ hP
  obtain ⟨hcalls, hrest, hpre⟩ := hP
  obtain ⟨-, -, -, hnamed, -, -, -, hat⟩ := (Spec.applies_iff hf).mp happ
  obtain ⟨hg, hn⟩ := and_e (Cond.before_iff.mp (show (Jvm.Cond.and given_1 narrow_1).before args s = true from hpre))
  obtain ⟨hg1, hg2⟩ := and_e hg
  obtain ⟨hg3, hg4⟩ := and_e hg2
  obtain ⟨hg5, hg6⟩ := and_e hg4
  obtain ⟨hg7, hg8⟩ := and_e hg6
  obtain ⟨hg9, hg10⟩ := and_e hg8
  obtain ⟨hg11, hg12⟩ := and_e hg10
  obtain ⟨w0, w1, w2, w3, w4, w5, rfl⟩ : ∃ w0 w1 w2 w3 w4 w5 : Value, args = #[w0, w1, w2, w3, w4, w5] := by
    have hs : args.size = 6 := by simpa [Cond.value, given_1] using hg1
    obtain ⟨L⟩ := args
    match L, hs with
    | [w0, w1, w2, w3, w4, w5], _ => exact ⟨w0, w1, w2, w3, w4, w5, rfl⟩
  have hw := fun d (hd : d ∈ tables_1) => atoms_spec (ws := Jvm.Cond.code x code maxLocals ret :: tables_1) hat d (List.mem_cons_of_mem _ hd)
  obtain ⟨i0, ei0⟩ := isL_v hg3
  obtain rfl : w0 = (.long i0) := Option.some.inj ei0
  obtain ⟨i1, ei1⟩ := isL_v hg5
  obtain rfl : w1 = (.long i1) := Option.some.inj ei1
  obtain ⟨i2, ei2⟩ := isL_v hg7
  obtain rfl : w2 = (.long i2) := Option.some.inj ei2
  obtain ⟨i3, ei3⟩ := isL_v hg9
  obtain rfl : w3 = (.long i3) := Option.some.inj ei3
  obtain ⟨i4, ei4⟩ := isL_v hg11
  obtain rfl : w4 = (.long i4) := Option.some.inj ei4
  obtain ⟨i5, ei5⟩ := is_v hg12
  obtain rfl : w5 = (.int i5) := Option.some.inj ei5
  obtain ⟨hsets, hown0⟩ := atoms_of _ (rest_1_c_eq ▸ (show rest_1_c.before _ s = true from hrest))
  obtain ⟨dz, edz⟩ := arr_v (Cond.before_iff.mp (hsets _ (List.mem_of_getElem? (i := 6) rfl)))
  have S0 := Sta.start edz (Or.inr ⟨hw _ (List.mem_of_getElem? (i := 3) rfl), hsets _ (List.mem_of_getElem? (i := 2) rfl)⟩)
  obtain ⟨n, o, h1, h2, h3, _, L, rfl, ⟨rfl, N⟩, hq⟩ := rm0 l s _ hw tables_1 i0 i1 i2 i3 i4 i5 dz s.heap s.heap.size (Nat.le_refl _) S0 p e ha hc hk s m _ below hf ((Spec.applies_iff_loose hf).mp happ).1 ⟨rfl, State.Warmed39.refl s, rfl⟩ trivial
  refine ⟨n, _, h1, h2, h3, hpost _ _ _ _ _ _ ⟨Cond.after_iff.mpr rfl, Cond.after_iff.mpr (eq_i res_at (Term.int_eval (1)) rfl)⟩ ⟨hq.1, hq.2.1, (hq.2.2.sift fun y hy => Or.inr (N y hy)).mono (by decide) (by decide)⟩⟩
theorem main_1_1 : Claimed_1_1 := comes_1 fun _ _ _ _ _ _ h hF => ⟨h.1, hF⟩
theorem main_1_2 : Claimed_1_2 := comes_1 fun _ _ _ _ _ _ h hF => ⟨h.2, hF⟩
end Jvm.Pilot.@@N@@
namespace Jvm.Pilot.@@N@@
open Jvm Jvm.ClassFile Sem Op Lib Jvm.Free Jvm.Stand Jvm.Pilot.@@N@@.Jvm.D
/-! MADE BY PROGRAM (witnessworld.py) out of the Statement's table words and the real class files: 21 classes; the members and pool entries that the words name. The judged class is class 1, her method 1. -/
namespace start1
open Jvm.ClassFile
def u (s : String) : CpInfo := .utf8 (stringToUtf16 s)
/-- a pool by its gaps: so many unusable entries, then the entry; so many at the end -/
def gap : Nat → List CpInfo → List CpInfo
  | 0, r => r
  | n + 1, r => .unusable :: gap n r
def poolList (es : List (Nat × CpInfo)) (last : Nat) : List CpInfo := es.foldr (fun e r => gap e.1 (e.2 :: r)) (gap last [])
def pool (es : List (Nat × CpInfo)) (last : Nat) : Array CpInfo := ⟨poolList es last⟩
def fileOf (pool : Array CpInfo) (this : Nat) (attrs : Array Attribute := #[]) (ms : Array MethodInfo := #[]) (fl : Nat := 33) (sup : Nat := 0) (ifs : Array Nat := #[]) (fds : Array FieldInfo := #[]) : ClassFile where
  minorVersion := 0
  majorVersion := 65
  constantPool := pool
  accessFlags := fl
  thisClass := this
  superClass := sup
  interfaces := ifs
  fields := fds
  methods := ms
  attributes := attrs
def plain (name : String) (sup : Option ClassId) : Class where
  name := name
  kind := .ordinary
  loader := none
  accessFlags := 33
  super := sup
  interfaces := #[]
  cf := none
  fields := #[]
  methods := #[]
  instanceTypes := #[]
  staticTypes := #[]
  resolved := #[]
  callSites := []
  init := .initialized
  statics := none
  mirror := none

def pool0 : Array CpInfo := pool [(5, u "<init>"), (0, u "()V"), (1, .class_ 10), (1, u "java/lang/Object")] 113

def k0c0 : Code := { maxStack := 0, maxLocals := 1, code := object_method_1_code, exceptionTable := #[], attributes := #[] }
def k0m0 : Method := { name := "<init>", desc := "()V", sig := { parameters := [], returnType := none }, accessFlags := 1, code := some k0c0 }
/-- java/lang/Object -/
def k0 : Class := { plain "java/lang/Object" none with
  accessFlags := 33
  interfaces := #[]
  cf := some (fileOf pool0 8 #[] #[{ accessFlags := 1, nameIndex := 5, descriptorIndex := 6, attributes := #[] }] 33 0 #[] #[])
  fields := #[]
  methods := #[k0m0]
  instanceTypes := #[]
  staticTypes := #[]
  resolved := Array.replicate 124 none
  statics := none }

def pool1 : Array CpInfo := pool [(2, .class_ 4), (0, .nameAndType 5 6), (0, u "java/lang/Object"), (0, u "<init>"), (0, u "()V"), (0, .class_ 8), (0, u "java/util/ArrayList"), (0, .methodref 7 3), (0, .class_ 11), (0, u "com/example/access_bindings/accessbindings/benchmark/Exchanged"), (0, .methodref 10 13), (0, .nameAndType 5 14), (0, u "(J[JLjava/util/List;)V"), (0, .methodref 10 16), (0, .nameAndType 17 18), (0, u "lastAnswered"), (0, u "()J"), (0, .class_ 20), (0, u "com/example/access_bindings/accessbindings/benchmark/ExchangedLastAnsweredPinLaw"), (2, u "law"), (0, u "(JJJJJI)Z")] 5

def k1m0 : Method := { name := "<init>", desc := "()V", sig := { parameters := [], returnType := none }, accessFlags := 2, code := none }
def k1c1 : Code := { maxStack := 6, maxLocals := 17, code := code, exceptionTable := #[], attributes := #[] }
def k1m1 : Method := { name := "law", desc := "(JJJJJI)Z", sig := { parameters := [.long, .long, .long, .long, .long, .int], returnType := some .boolean }, accessFlags := 9, code := some k1c1 }
/-- com/example/access_bindings/accessbindings/benchmark/ExchangedLastAnsweredPinLaw -/
def k1 : Class := { plain "com/example/access_bindings/accessbindings/benchmark/ExchangedLastAnsweredPinLaw" (some 0) with
  accessFlags := 49
  interfaces := #[]
  cf := some (fileOf pool1 19 #[] #[{ accessFlags := 2, nameIndex := 5, descriptorIndex := 6, attributes := #[] }, { accessFlags := 9, nameIndex := 23, descriptorIndex := 24, attributes := #[] }] 49 2 #[] #[])
  fields := #[]
  methods := #[k1m0, k1m1]
  instanceTypes := #[]
  staticTypes := #[]
  resolved := Array.replicate 30 none
  statics := none }

def pool2 : Array CpInfo := pool [(8, .class_ 10), (1, u "java/lang/Iterable"), (24, .class_ 36), (0, u "java/lang/Object")] 25

/-- java/lang/Iterable -/
def k2 : Class := { plain "java/lang/Iterable" (some 0) with
  accessFlags := 1537
  interfaces := #[]
  cf := some (fileOf pool2 8 #[] #[] 1537 35 #[] #[])
  fields := #[]
  methods := #[]
  instanceTypes := #[]
  staticTypes := #[]
  resolved := Array.replicate 62 none
  statics := none }

def pool3 : Array CpInfo := pool [(10, .class_ 12), (1, u "java/util/Collection"), (47, .class_ 61), (0, u "java/lang/Object"), (0, .class_ 63), (0, u "java/lang/Iterable")] 51

/-- java/util/Collection -/
def k3 : Class := { plain "java/util/Collection" (some 0) with
  accessFlags := 1537
  interfaces := #[2]
  cf := some (fileOf pool3 10 #[] #[] 1537 60 #[62] #[])
  fields := #[]
  methods := #[]
  instanceTypes := #[]
  staticTypes := #[]
  resolved := Array.replicate 115 none
  statics := none }

def pool4 : Array CpInfo := pool [(1, .methodref 2 3), (0, .class_ 4), (0, .nameAndType 5 6), (0, u "java/lang/Object"), (0, u "<init>"), (0, u "()V"), (1, .class_ 10), (1, u "java/util/AbstractCollection"), (66, .class_ 78), (0, u "java/util/Collection")] 81

def k4c0 : Code := { maxStack := 1, maxLocals := 1, code := jdk_22_method_1_code, exceptionTable := #[], attributes := #[] }
def k4m0 : Method := { name := "<init>", desc := "()V", sig := { parameters := [], returnType := none }, accessFlags := 4, code := some k4c0 }
/-- java/util/AbstractCollection -/
def k4 : Class := { plain "java/util/AbstractCollection" (some 0) with
  accessFlags := 1057
  interfaces := #[3]
  cf := some (fileOf pool4 8 #[] #[{ accessFlags := 4, nameIndex := 5, descriptorIndex := 6, attributes := #[] }] 1057 2 #[77] #[])
  fields := #[]
  methods := #[k4m0]
  instanceTypes := #[]
  staticTypes := #[]
  resolved := Array.replicate 160 none
  statics := none }

def pool5 : Array CpInfo := pool [(8, .class_ 10), (1, u "java/util/SequencedCollection"), (15, .class_ 27), (0, u "java/lang/Object"), (0, .class_ 29), (0, u "java/util/Collection")] 27

/-- java/util/SequencedCollection -/
def k5 : Class := { plain "java/util/SequencedCollection" (some 0) with
  accessFlags := 1537
  interfaces := #[3]
  cf := some (fileOf pool5 8 #[] #[] 1537 26 #[28] #[])
  fields := #[]
  methods := #[]
  instanceTypes := #[]
  staticTypes := #[]
  resolved := Array.replicate 57 none
  statics := none }

def pool6 : Array CpInfo := pool [(8, .class_ 10), (1, u "java/util/List"), (92, .class_ 104), (0, u "java/lang/Object"), (15, .class_ 121), (0, u "java/util/SequencedCollection")] 129

/-- java/util/List -/
def k6 : Class := { plain "java/util/List" (some 0) with
  accessFlags := 1537
  interfaces := #[5]
  cf := some (fileOf pool6 8 #[] #[] 1537 103 #[120] #[])
  fields := #[]
  methods := #[]
  instanceTypes := #[]
  staticTypes := #[]
  resolved := Array.replicate 251 none
  statics := none }

def pool7 : Array CpInfo := pool [(1, .methodref 2 3), (0, .class_ 4), (0, .nameAndType 5 6), (0, u "java/util/AbstractCollection"), (0, u "<init>"), (0, u "()V"), (0, .fieldref 8 9), (0, .class_ 10), (0, .nameAndType 11 12), (0, u "java/util/AbstractList"), (0, u "modCount"), (0, u "I"), (64, .class_ 78), (0, u "java/util/AbstractList$Itr"), (3, .class_ 83), (0, u "java/util/AbstractList$ListItr"), (9, .class_ 94), (0, u "java/util/AbstractList$RandomAccessSubList"), (3, .class_ 99), (0, u "java/util/AbstractList$SubList"), (33, .class_ 134), (0, u "java/util/List"), (73, .class_ 209), (0, u "java/util/AbstractList$SubList$1"), (0, .class_ 211), (0, u "java/util/AbstractList$RandomAccessSpliterator")] 6

def k7c0 : Code := { maxStack := 2, maxLocals := 1, code := jdk_39_method_1_code, exceptionTable := #[], attributes := #[] }
def k7m0 : Method := { name := "<init>", desc := "()V", sig := { parameters := [], returnType := none }, accessFlags := 4, code := some k7c0 }
/-- java/util/AbstractList -/
def k7 : Class := { plain "java/util/AbstractList" (some 4) with
  accessFlags := 1057
  interfaces := #[6]
  cf := some (fileOf pool7 8 #[.nestMembers #[93, 98, 208, 210, 82, 77]] #[{ accessFlags := 4, nameIndex := 5, descriptorIndex := 6, attributes := #[] }] 1057 2 #[133] #[{ accessFlags := 132, nameIndex := 11, descriptorIndex := 12, attributes := #[] }])
  fields := #[{ name := "modCount", type := .int, accessFlags := 132, slot := 0, constantValue := 0 }]
  methods := #[k7m0]
  instanceTypes := #[.int]
  staticTypes := #[]
  resolved := Array.replicate 218 none
  statics := none }

def pool8 : Array CpInfo := pool [(1, .class_ 2), (0, u "java/util/RandomAccess"), (0, .class_ 4), (0, u "java/lang/Object")] 2

/-- java/util/RandomAccess -/
def k8 : Class := { plain "java/util/RandomAccess" (some 0) with
  accessFlags := 1537
  interfaces := #[]
  cf := some (fileOf pool8 1 #[] #[] 1537 3 #[] #[])
  fields := #[]
  methods := #[]
  instanceTypes := #[]
  staticTypes := #[]
  resolved := Array.replicate 7 none
  statics := none }

def pool9 : Array CpInfo := pool [(1, .class_ 2), (0, u "java/lang/Cloneable"), (0, .class_ 4), (0, u "java/lang/Object")] 2

/-- java/lang/Cloneable -/
def k9 : Class := { plain "java/lang/Cloneable" (some 0) with
  accessFlags := 1537
  interfaces := #[]
  cf := some (fileOf pool9 1 #[] #[] 1537 3 #[] #[])
  fields := #[]
  methods := #[]
  instanceTypes := #[]
  staticTypes := #[]
  resolved := Array.replicate 7 none
  statics := none }

def pool10 : Array CpInfo := pool [(1, .class_ 2), (0, u "java/io/Serializable"), (0, .class_ 4), (0, u "java/lang/Object")] 2

/-- java/io/Serializable -/
def k10 : Class := { plain "java/io/Serializable" (some 0) with
  accessFlags := 1537
  interfaces := #[]
  cf := some (fileOf pool10 1 #[] #[] 1537 3 #[] #[])
  fields := #[]
  methods := #[]
  instanceTypes := #[]
  staticTypes := #[]
  resolved := Array.replicate 7 none
  statics := none }

def pool11 : Array CpInfo := pool [(1, .methodref 2 3), (0, .class_ 4), (0, .nameAndType 5 6), (0, u "java/util/AbstractList"), (0, u "<init>"), (0, u "()V"), (2, .fieldref 10 11), (0, .class_ 12), (0, .nameAndType 13 14), (0, u "java/util/ArrayList"), (0, u "elementData"), (0, u "[Ljava/lang/Object;"), (2, u "EMPTY_ELEMENTDATA"), (21, .fieldref 10 40), (0, .nameAndType 41 14), (0, u "DEFAULTCAPACITY_EMPTY_ELEMENTDATA"), (8, u "size"), (0, u "I"), (96, .class_ 149), (0, u "java/util/List"), (112, .class_ 263), (0, u "java/util/ArrayList$ListItr"), (3, .class_ 268), (0, u "java/util/ArrayList$Itr"), (7, .class_ 277), (0, u "java/util/ArrayList$SubList"), (12, .class_ 291), (0, u "java/util/ArrayList$ArrayListSpliterator"), (37, .class_ 330), (0, u "java/util/RandomAccess"), (0, .class_ 332), (0, u "java/lang/Cloneable"), (0, .class_ 334), (0, u "java/io/Serializable"), (0, u "serialVersionUID"), (0, u "J"), (3, u "DEFAULT_CAPACITY"), (159, .class_ 501), (0, u "java/util/ArrayList$SubList$2"), (0, .class_ 503), (0, u "java/util/ArrayList$SubList$1")] 5

def k11c0 : Code := { maxStack := 2, maxLocals := 1, code := jdk_38_method_2_code, exceptionTable := #[], attributes := #[] }
def k11m0 : Method := { name := "<init>", desc := "()V", sig := { parameters := [], returnType := none }, accessFlags := 1, code := some k11c0 }
/-- java/util/ArrayList -/
def k11 : Class := { plain "java/util/ArrayList" (some 7) with
  accessFlags := 33
  interfaces := #[6, 8, 9, 10]
  cf := some (fileOf pool11 10 #[.nestMembers #[290, 276, 500, 502, 262, 267]] #[{ accessFlags := 1, nameIndex := 5, descriptorIndex := 6, attributes := #[] }] 33 2 #[148, 329, 331, 333] #[{ accessFlags := 26, nameIndex := 335, descriptorIndex := 336, attributes := #[] }, { accessFlags := 26, nameIndex := 340, descriptorIndex := 51, attributes := #[] }, { accessFlags := 26, nameIndex := 17, descriptorIndex := 14, attributes := #[] }, { accessFlags := 26, nameIndex := 41, descriptorIndex := 14, attributes := #[] }, { accessFlags := 128, nameIndex := 13, descriptorIndex := 14, attributes := #[] }, { accessFlags := 2, nameIndex := 50, descriptorIndex := 51, attributes := #[] }])
  fields := #[{ name := "serialVersionUID", type := .long, accessFlags := 26, slot := 0, constantValue := 0 }, { name := "DEFAULT_CAPACITY", type := .int, accessFlags := 26, slot := 1, constantValue := 0 }, { name := "EMPTY_ELEMENTDATA", type := (.array (.object "java/lang/Object")), accessFlags := 26, slot := 2, constantValue := 0 }, { name := "DEFAULTCAPACITY_EMPTY_ELEMENTDATA", type := (.array (.object "java/lang/Object")), accessFlags := 26, slot := 3, constantValue := 0 }, { name := "elementData", type := (.array (.object "java/lang/Object")), accessFlags := 128, slot := 1, constantValue := 0 }, { name := "size", type := .int, accessFlags := 2, slot := 2, constantValue := 0 }]
  methods := #[k11m0]
  instanceTypes := #[.int, (.array (.object "java/lang/Object")), .int]
  staticTypes := #[.long, .int, (.array (.object "java/lang/Object")), (.array (.object "java/lang/Object"))]
  resolved := Array.replicate 509 none
  statics := some 0 }

def pool12 : Array CpInfo := pool [(1, .methodref 2 3), (0, .class_ 4), (0, .nameAndType 5 6), (0, u "java/lang/Object"), (0, u "<init>"), (0, u "()V"), (0, .class_ 8), (0, u "java/lang/Record")] 13

def k12c0 : Code := { maxStack := 1, maxLocals := 1, code := jdk_30_method_1_code, exceptionTable := #[], attributes := #[] }
def k12m0 : Method := { name := "<init>", desc := "()V", sig := { parameters := [], returnType := none }, accessFlags := 4, code := some k12c0 }
/-- java/lang/Record -/
def k12 : Class := { plain "java/lang/Record" (some 0) with
  accessFlags := 1057
  interfaces := #[]
  cf := some (fileOf pool12 7 #[] #[{ accessFlags := 4, nameIndex := 5, descriptorIndex := 6, attributes := #[] }] 1057 2 #[] #[])
  fields := #[]
  methods := #[k12m0]
  instanceTypes := #[]
  staticTypes := #[]
  resolved := Array.replicate 22 none
  statics := none }

def pool13 : Array CpInfo := pool [(1, .methodref 2 3), (0, .class_ 4), (0, .nameAndType 5 6), (0, u "java/lang/Record"), (0, u "<init>"), (0, u "()V"), (0, .fieldref 8 9), (0, .class_ 10), (0, .nameAndType 11 12), (0, u "com/example/access_bindings/accessbindings/benchmark/Exchanged"), (0, u "firstSent"), (0, u "J"), (0, .fieldref 8 14), (0, .nameAndType 15 16), (0, u "answeredAt"), (0, u "[J"), (0, .fieldref 8 18), (0, .nameAndType 19 20), (0, u "answers"), (0, u "Ljava/util/List;"), (14, u "(J[JLjava/util/List;)V"), (4, u "lastAnswered"), (0, u "()J")] 32

def k13c0 : Code := { maxStack := 3, maxLocals := 5, code := prog_33_method_1_code, exceptionTable := #[], attributes := #[] }
def k13m0 : Method := { name := "<init>", desc := "(J[JLjava/util/List;)V", sig := { parameters := [.long, (.array .long), (.object "java/util/List")], returnType := none }, accessFlags := 0, code := some k13c0 }
def k13c1 : Code := { maxStack := 3, maxLocals := 1, code := prog_33_method_2_code, exceptionTable := #[], attributes := #[] }
def k13m1 : Method := { name := "lastAnswered", desc := "()J", sig := { parameters := [], returnType := some .long }, accessFlags := 0, code := some k13c1 }
/-- com/example/access_bindings/accessbindings/benchmark/Exchanged -/
def k13 : Class := { plain "com/example/access_bindings/accessbindings/benchmark/Exchanged" (some 12) with
  accessFlags := 48
  interfaces := #[]
  cf := some (fileOf pool13 8 #[] #[{ accessFlags := 0, nameIndex := 5, descriptorIndex := 35, attributes := #[] }, { accessFlags := 0, nameIndex := 40, descriptorIndex := 41, attributes := #[] }] 48 2 #[] #[{ accessFlags := 18, nameIndex := 11, descriptorIndex := 12, attributes := #[] }, { accessFlags := 18, nameIndex := 15, descriptorIndex := 16, attributes := #[] }, { accessFlags := 18, nameIndex := 19, descriptorIndex := 20, attributes := #[] }])
  fields := #[{ name := "firstSent", type := .long, accessFlags := 18, slot := 0, constantValue := 0 }, { name := "answeredAt", type := (.array .long), accessFlags := 18, slot := 1, constantValue := 0 }, { name := "answers", type := (.object "java/util/List"), accessFlags := 18, slot := 2, constantValue := 0 }]
  methods := #[k13m0, k13m1]
  instanceTypes := #[.long, (.array .long), (.object "java/util/List")]
  staticTypes := #[]
  resolved := Array.replicate 74 none
  statics := none }

/-- the primitive byte -/
def k14 : Class := { plain "byte" none with kind := .primitive 'B', accessFlags := 0x411 }
/-- [B -/
def k15 : Class := { plain "[B" (some 0) with kind := .array 14 .byte, interfaces := #[9, 10], accessFlags := 1041 }

/-- the primitive int -/
def k16 : Class := { plain "int" none with kind := .primitive 'I', accessFlags := 0x411 }
/-- [I -/
def k17 : Class := { plain "[I" (some 0) with kind := .array 16 .int, interfaces := #[9, 10], accessFlags := 1041 }

/-- the primitive long -/
def k18 : Class := { plain "long" none with kind := .primitive 'J', accessFlags := 0x411 }
/-- [J -/
def k19 : Class := { plain "[J" (some 0) with kind := .array 18 .long, interfaces := #[9, 10], accessFlags := 1041 }

/-- [Ljava/lang/Object; -/
def k20 : Class := { plain "[Ljava/lang/Object;" (some 0) with kind := .array 0 (.object "java/lang/Object"), interfaces := #[9, 10], accessFlags := 1041 }

def heap : Heap := #[{ cls := 11, slots := #[.long 0, .int 0, .ref 1, .ref 2], vm := .statics 11 },
  { cls := 20, slots := #[], vm := .none },
  { cls := 20, slots := #[], vm := .none }]
def classes : Array Class := #[k0, k1, k2, k3, k4, k5, k6, k7, k8, k9, k10, k11, k12, k13, k14, k15, k16, k17, k18, k19, k20]
def interned : List (Array UInt16 × Addr) := []
def slotsUsed : Nat := 4
def theMethod : MethodId := ⟨1, 1⟩
def args0 : Array Value := #[.long 5, .long 7, .long 9, .long 11, .long 13, .int 2]
def aboutOver (below : List Frame) : State where
  vm := { classes := classes, interned := interned.toArray }
  heap := heap
  slotsUsed := slotsUsed
  threads := #[{ frames := .invoking theMethod args0 :: below }]
def below0 : List Frame := [.native { method := ⟨0, 0⟩, args := #[] }]
def about1 : State := aboutOver below0
def p0 : Program := .bare "" "" ""
def e0 : Env := launch0.env 0 0 0
theorem w_frames : about1.frames = Frame.invoking theMethod args0 :: below0 := rfl
set_option maxRecDepth 65536 in
theorem w_args : argsFit about1.vm theMethod args0 = true := by decide +kernel
set_option maxRecDepth 65536 in
theorem w_heap : heapFits about1 = true := by decide +kernel
set_option maxRecDepth 65536 in
theorem w_runnable : about1.curStatus? = some .runnable := by decide +kernel
set_option maxRecDepth 65536 in
theorem w_alone : about1.alone = true := by decide +kernel
set_option maxRecDepth 65536 in
theorem w_named : about1.methodNamed? x = some theMethod := by decide +kernel
set_option maxRecDepth 65536 in
theorem w_hears : about1.hears theMethod below0 = true := by decide +kernel
set_option maxRecDepth 65536 in
theorem w_ripe : about1.ripe theMethod args0 below0 = true := by decide +kernel
theorem w_running : about1.status = .running := rfl
set_option maxRecDepth 65536 in
theorem w_room : about1.hasRoom e0.platform room_1 = true :=
  launch0.hasRoom_least _ room_1 (by decide +kernel) (by decide +kernel) (by decide +kernel) (by decide +kernel) (by decide +kernel) (by decide +kernel)
theorem allAtoms_all (ts : List Jvm.Cond) (a : Array Jvm.Value) (st : Jvm.State) : (allAtoms ts).before a st = ts.all (fun c => c.before a st) := by
  induction ts with
  | nil => rfl
  | cons c t ih =>
    show (Jvm.Cond.and c (allAtoms t)).before a st = _
    rw [Jvm.Cond.before_and, ih, List.all_cons]
def words1 : List Jvm.Cond := Jvm.Cond.code x code maxLocals ret :: tables_1
/-- a 'code' word, met by the world's own term for the bytes: nothing is compared byte by byte -/
theorem code_word {y : MethodName} {bytes : ByteArray} {mx : Nat} {rt : Option FieldType} {a : Array Value} {s : State} {m : MethodId} {meth : Method} {c : Code} (h1 : s.methodNamed? y = some m) (h2 : s.vm.method? m = some meth) (h3 : meth.code = some c) (h4 : c.code = bytes)
    (h5 : (c.maxLocals == mx && c.exceptionTable.isEmpty && decide (c.maxStack ≤ mostOperands) && decide (meth.sig.returnType = rt) && !meth.locks && decide (parseMethodDescriptor y.desc = some meth.sig)) = true) : (Jvm.Cond.code y bytes mx rt).before a s = true := by
  simp only [Bool.and_eq_true, beq_iff_eq, Bool.not_eq_true', decide_eq_true_eq] at h5
  obtain ⟨⟨⟨⟨⟨g1, g2⟩, g3⟩, g4⟩, g5⟩, g6⟩ := h5
  simp [Cond.before, Cond.holds, Cond.value, h1, h2, h3, h4, g1, g2, g3, g4, g5, g6]
def isCode : Jvm.Cond → Bool
  | .code _ _ _ _ => true
  | _ => false
theorem all_split {L : List Jvm.Cond} {P : Jvm.Cond → Bool} (h1 : L.all (fun c => isCode c || P c) = true) (h2 : ∀ c ∈ L.filter isCode, P c = true) : L.all P = true := by
  refine List.all_eq_true.mpr fun c hc => ?_
  have h := List.all_eq_true.mp h1 c hc
  rcases Bool.eq_false_or_eq_true (isCode c) with hi | hi
  · exact h2 c (List.mem_filter.mpr ⟨hc, hi⟩)
  · simpa [hi] using h
set_option maxRecDepth 65536 in
theorem w_c0 : (Jvm.Cond.code x code maxLocals ret).before args0 about1 = true := code_word (m := ⟨1, 1⟩) (meth := k1m1) (c := k1c1) (by decide +kernel) rfl rfl rfl (by decide +kernel)
set_option maxRecDepth 65536 in
theorem w_c1 : (Jvm.Cond.code ({ cls := "java/util/ArrayList", name := "<init>", desc := "()V" } : Jvm.MethodName) jdk_38_method_2_code (1 : Nat) (Option.none : Option Jvm.ClassFile.FieldType)).before args0 about1 = true := code_word (m := ⟨11, 0⟩) (meth := k11m0) (c := k11c0) (by decide +kernel) rfl rfl rfl (by decide +kernel)
set_option maxRecDepth 65536 in
theorem w_c2 : (Jvm.Cond.code ({ cls := "java/util/AbstractList", name := "<init>", desc := "()V" } : Jvm.MethodName) jdk_39_method_1_code (1 : Nat) (Option.none : Option Jvm.ClassFile.FieldType)).before args0 about1 = true := code_word (m := ⟨7, 0⟩) (meth := k7m0) (c := k7c0) (by decide +kernel) rfl rfl rfl (by decide +kernel)
set_option maxRecDepth 65536 in
theorem w_c3 : (Jvm.Cond.code ({ cls := "java/util/AbstractCollection", name := "<init>", desc := "()V" } : Jvm.MethodName) jdk_22_method_1_code (1 : Nat) (Option.none : Option Jvm.ClassFile.FieldType)).before args0 about1 = true := code_word (m := ⟨4, 0⟩) (meth := k4m0) (c := k4c0) (by decide +kernel) rfl rfl rfl (by decide +kernel)
set_option maxRecDepth 65536 in
theorem w_c4 : (Jvm.Cond.code ({ cls := "java/lang/Object", name := "<init>", desc := "()V" } : Jvm.MethodName) object_method_1_code (1 : Nat) (Option.none : Option Jvm.ClassFile.FieldType)).before args0 about1 = true := code_word (m := ⟨0, 0⟩) (meth := k0m0) (c := k0c0) (by decide +kernel) rfl rfl rfl (by decide +kernel)
set_option maxRecDepth 65536 in
theorem w_c5 : (Jvm.Cond.code ({ cls := "com/example/access_bindings/accessbindings/benchmark/Exchanged", name := "<init>", desc := "(J[JLjava/util/List;)V" } : Jvm.MethodName) prog_33_method_1_code (5 : Nat) (Option.none : Option Jvm.ClassFile.FieldType)).before args0 about1 = true := code_word (m := ⟨13, 0⟩) (meth := k13m0) (c := k13c0) (by decide +kernel) rfl rfl rfl (by decide +kernel)
set_option maxRecDepth 65536 in
theorem w_c6 : (Jvm.Cond.code ({ cls := "java/lang/Record", name := "<init>", desc := "()V" } : Jvm.MethodName) jdk_30_method_1_code (1 : Nat) (Option.none : Option Jvm.ClassFile.FieldType)).before args0 about1 = true := code_word (m := ⟨12, 0⟩) (meth := k12m0) (c := k12c0) (by decide +kernel) rfl rfl rfl (by decide +kernel)
set_option maxRecDepth 65536 in
theorem w_c7 : (Jvm.Cond.code ({ cls := "com/example/access_bindings/accessbindings/benchmark/Exchanged", name := "lastAnswered", desc := "()J" } : Jvm.MethodName) prog_33_method_2_code (1 : Nat) (Option.some Jvm.ClassFile.FieldType.long)).before args0 about1 = true := code_word (m := ⟨13, 1⟩) (meth := k13m1) (c := k13c1) (by decide +kernel) rfl rfl rfl (by decide +kernel)
def codes1 : List Jvm.Cond := [Jvm.Cond.code x code maxLocals ret, Jvm.Cond.code ({ cls := "java/util/ArrayList", name := "<init>", desc := "()V" } : Jvm.MethodName) jdk_38_method_2_code (1 : Nat) (Option.none : Option Jvm.ClassFile.FieldType), Jvm.Cond.code ({ cls := "java/util/AbstractList", name := "<init>", desc := "()V" } : Jvm.MethodName) jdk_39_method_1_code (1 : Nat) (Option.none : Option Jvm.ClassFile.FieldType), Jvm.Cond.code ({ cls := "java/util/AbstractCollection", name := "<init>", desc := "()V" } : Jvm.MethodName) jdk_22_method_1_code (1 : Nat) (Option.none : Option Jvm.ClassFile.FieldType), Jvm.Cond.code ({ cls := "java/lang/Object", name := "<init>", desc := "()V" } : Jvm.MethodName) object_method_1_code (1 : Nat) (Option.none : Option Jvm.ClassFile.FieldType), Jvm.Cond.code ({ cls := "com/example/access_bindings/accessbindings/benchmark/Exchanged", name := "<init>", desc := "(J[JLjava/util/List;)V" } : Jvm.MethodName) prog_33_method_1_code (5 : Nat) (Option.none : Option Jvm.ClassFile.FieldType), Jvm.Cond.code ({ cls := "java/lang/Record", name := "<init>", desc := "()V" } : Jvm.MethodName) jdk_30_method_1_code (1 : Nat) (Option.none : Option Jvm.ClassFile.FieldType), Jvm.Cond.code ({ cls := "com/example/access_bindings/accessbindings/benchmark/Exchanged", name := "lastAnswered", desc := "()J" } : Jvm.MethodName) prog_33_method_2_code (1 : Nat) (Option.some Jvm.ClassFile.FieldType.long)]
set_option maxRecDepth 65536 in
theorem codes_eq : words1.filter isCode = codes1 := rfl
theorem w_codes : ∀ c ∈ words1.filter isCode, c.before args0 about1 = true := by
  rw [codes_eq]
  intro c hc
  simp only [codes1, List.mem_cons, List.not_mem_nil, or_false] at hc
  rcases hc with rfl | rfl | rfl | rfl | rfl | rfl | rfl | rfl
  · exact w_c0
  · exact w_c1
  · exact w_c2
  · exact w_c3
  · exact w_c4
  · exact w_c5
  · exact w_c6
  · exact w_c7
set_option maxRecDepth 65536 in
theorem w_t1 : (words1.take 24).all (fun c => isCode c || c.before args0 about1) = true := by decide +kernel
set_option maxRecDepth 65536 in
theorem w_t2 : ((words1.drop 24).take 24).all (fun c => isCode c || c.before args0 about1) = true := by decide +kernel
set_option maxRecDepth 65536 in
theorem w_t3 : ((words1.drop 24).drop 24).all (fun c => isCode c || c.before args0 about1) = true := by decide +kernel
theorem w_tables : (allAtoms (Jvm.Cond.code x code maxLocals ret :: tables_1)).before args0 about1 = true := by
  rw [allAtoms_all]
  show words1.all (fun c => c.before args0 about1) = true
  refine all_split ?_ w_codes
  rw [← List.take_append_drop 24 words1, List.all_append, w_t1, ← List.take_append_drop 24 (words1.drop 24), List.all_append, w_t2, w_t3]
  rfl
set_option maxRecDepth 65536 in
theorem w_rest : rest_1_c.before args0 about1 = true := by decide +kernel
set_option maxRecDepth 65536 in
theorem w_case : (Jvm.Cond.and given_1 narrow_1).before args0 about1 = true := by decide +kernel
theorem w_applies : (headSpec (Jvm.Cond.code x code maxLocals ret :: tables_1) room_1).applies x e0.platform about1 = true :=
  (Spec.applies_iff w_frames).mpr ⟨w_running, w_runnable, w_alone, w_named, w_hears, w_ripe, w_room, w_tables⟩
theorem atStart : AtStart classFile x code maxLocals ret World_1 tables_1 room_1 Calls_1 rest_1 Pre_1 launch0 p0 e0 about1 theMethod args0 below0 :=
  ⟨lists_1, trivial, launch0.admits_env _ _ _, launch0.least_env, fairChoices_fair.cas, fairChoices_fair.clock, w_frames, w_args, w_heap, w_applies, trivial, w_rest, w_case⟩
end start1
theorem witness_1 : WitnessClaimed_1 := ⟨start1.p0, start1.e0, start1.about1, start1.theMethod, start1.args0, start1.below0, start1.atStart⟩
end Jvm.Pilot.@@N@@
