import JvmDerived
import JvmDerived.Pilot.@@N@@Statement
import JvmDerived.Pilot.@@N@@Code
set_option linter.unusedVariables false
set_option linter.unusedSimpArgs false
namespace Jvm.RoadKit
open Sem ClassFile Op Lib Jvm.Stand Jvm.Free Jvm.LawKit
section New
variable {p : Program} {l : Launch} {e : Env} {R : Room} {s : State} {m : MethodId} {args : Array Value} {below : List Frame} {meth : Method} {c : Code} {T : State} {locs : List Loc} {cells slots : Nat}
theorem retI (X : Stand p l e R s m args below meth c T locs cells slots) (hx : p.tables.exec = Jvm.exec) {pc : Nat} {Ls : Array Slot} {z : Int32} {rest : List Value} (hret : meth.sig.returnType = some .int) (hd : decode c.code pc = .ok (.ireturn, 1)) {fs : List Frame}
    (hl : ∀ (f : JFrame) (acts : List Action), f.method = m → f.locked = none → f.entered = [] → (doReturn e (T.setTop f) acts (some (.int z))).1 = T.setFrames fs) : Steps p.tables e below (T.setTop (mkF m pc Ls (.int z :: rest))) (T.setFrames fs) :=
  retOut X hx hret rfl (Or.inl ⟨rfl, Or.inl rfl, _, rfl⟩) hd hl
theorem retL (X : Stand p l e R s m args below meth c T locs cells slots) (hx : p.tables.exec = Jvm.exec) {pc : Nat} {Ls : Array Slot} {z : Int64} {rest : List Value} (hret : meth.sig.returnType = some .long) (hd : decode c.code pc = .ok (.lreturn, 1)) {fs : List Frame}
    (hl : ∀ (f : JFrame) (acts : List Action), f.method = m → f.locked = none → f.entered = [] → (doReturn e (T.setTop f) acts (some (.long z))).1 = T.setFrames fs) : Steps p.tables e below (T.setTop (mkF m pc Ls (.long z :: rest))) (T.setFrames fs) :=
  retOut X hx hret rfl (Or.inr (Or.inl ⟨rfl, rfl, _, rfl⟩)) hd hl
theorem retA (X : Stand p l e R s m args below meth c T locs cells slots) (hx : p.tables.exec = Jvm.exec) {pc : Nat} {Ls : Array Slot} {z : Addr} {t : FieldType} {rest : List Value} (hret : meth.sig.returnType = some t) (ht : t.isReference = true) (hd : decode c.code pc = .ok (.areturn, 1)) {fs : List Frame}
    (hn : narrow t (.ref z) = .ref z) (hl : ∀ (f : JFrame) (acts : List Action), f.method = m → f.locked = none → f.entered = [] → (doReturn e (T.setTop f) acts (some (.ref z))).1 = T.setFrames fs) : Steps p.tables e below (T.setTop (mkF m pc Ls (.ref z :: rest))) (T.setFrames fs) :=
  retOut X hx hret hn (Or.inr (Or.inr (Or.inr (Or.inr ⟨rfl, ht, rfl⟩)))) hd hl
end New
end Jvm.RoadKit
namespace Jvm.Pilot.@@N@@
open Jvm Jvm.ClassFile Sem Op Lib Jvm.Free Jvm.Stand Jvm.LawKit Jvm.RoadKit Bundle Jvm.Pilot.@@N@@.Jvm.D
/-- the walk moves on: what runs from S' runs from S -/
theorem own_go {tb : Tables} {e : Env} {below : List Frame} {S S' : State} {P : State → Outcome → Prop} (h : ∀ t, Steps tb e below S' t → Steps tb e below S t)
    (k : ∃ s₂ o, Steps tb e below S' s₂ ∧ s₂.status = .running ∧ Ended s₂ below o ∧ P s₂ o) : ∃ s₂ o, Steps tb e below S s₂ ∧ s₂.status = .running ∧ Ended s₂ below o ∧ P s₂ o := by
  obtain ⟨s₂, o, h1, h2⟩ := k
  exact ⟨s₂, o, h _ h1, h2⟩
/-- Java's x >>> y on ints and on longs -/
def own_ushr (x y : Int32) : Int32 := (x.toUInt32 >>> (y &&& 31).toUInt32).toInt32
def own_ushrL (x : Int64) (y : Int32) : Int64 := (x.toUInt64 >>> (y &&& 0x3f).toInt64.toUInt64).toInt64
def own_shlL (x : Int64) (y : Int32) : Int64 := x <<< (y &&& 0x3f).toInt64
def own_shrL (x : Int64) (y : Int32) : Int64 := x >>> (y &&& 0x3f).toInt64
def own_shl (x y : Int32) : Int32 := x <<< (y &&& 31)
def own_shr (x y : Int32) : Int32 := x >>> (y &&& 31)
/-- an array by its places: ints (byte, char, short, boolean too), longs -/
def own_AI (Z : State) (h : Heap) (a : Addr) (ty : FieldType) (n : Nat) (g : Nat → Int32) : Prop := ∃ c : Cell, Arr Z h a c ty ∧ c.slots.size = n ∧ n < 2 ^ 31 ∧ ∀ i, i < n → c.slots[i]? = some (.int (g i))
def own_AJ (Z : State) (h : Heap) (a : Addr) (ty : FieldType) (n : Nat) (g : Nat → Int64) : Prop := ∃ c : Cell, Arr Z h a c ty ∧ c.slots.size = n ∧ n < 2 ^ 31 ∧ ∀ i, i < n → c.slots[i]? = some (.long (g i))
def own_AD (Z : State) (h : Heap) (a : Addr) (ty : FieldType) (n : Nat) (g : Nat → UInt64) : Prop := ∃ c : Cell, Arr Z h a c ty ∧ c.slots.size = n ∧ n < 2 ^ 31 ∧ ∀ i, i < n → c.slots[i]? = some (.double (g i))
def own_upd {α : Type} (g : Nat → α) (j : Nat) (v : α) : Nat → α := fun i => if i = j then v else g i
theorem own_upd_same {α : Type} (g : Nat → α) (j : Nat) (v : α) : own_upd g j v j = v := if_pos rfl
theorem own_upd_ne {α : Type} (g : Nat → α) {i j : Nat} (v : α) (h : i ≠ j) : own_upd g j v i = g i := if_neg h
section OwnArrays
variable {Z : State} {h h' : Heap} {a b : Addr} {ty : FieldType} {n sl : Nat} {v : Value} {ws : List Addr}
theorem own_AI.lt {g : Nat → Int32} (F : own_AI Z h a ty n g) : a < h.size := by obtain ⟨c, A, -⟩ := F; exact A.lt
theorem own_AI.ext {g : Nat → Int32} (F : own_AI Z h a ty n g) (E : Ext h h') : own_AI Z h' a ty n g := by obtain ⟨c, A, r⟩ := F; exact ⟨c, A.ext E, r⟩
theorem own_AI.other {g : Nat → Int32} (F : own_AI Z h b ty n g) (W : Wr h h' a sl v) (q : b ≠ a) : own_AI Z h' b ty n g := by obtain ⟨c, A, r⟩ := F; exact ⟨c, A.other W q, r⟩
theorem own_AI.keep {g : Nat → Int32} (F : own_AI Z h a ty n g) (K : Keep h h' ws) (q : a ∉ ws) : own_AI Z h' a ty n g := by obtain ⟨c, A, r⟩ := F; exact ⟨c, ⟨K.2.1 a c A.1 q, A.2⟩, r⟩
theorem own_AJ.lt {g : Nat → Int64} (F : own_AJ Z h a ty n g) : a < h.size := by obtain ⟨c, A, -⟩ := F; exact A.lt
theorem own_AJ.ext {g : Nat → Int64} (F : own_AJ Z h a ty n g) (E : Ext h h') : own_AJ Z h' a ty n g := by obtain ⟨c, A, r⟩ := F; exact ⟨c, A.ext E, r⟩
theorem own_AJ.other {g : Nat → Int64} (F : own_AJ Z h b ty n g) (W : Wr h h' a sl v) (q : b ≠ a) : own_AJ Z h' b ty n g := by obtain ⟨c, A, r⟩ := F; exact ⟨c, A.other W q, r⟩
theorem own_AJ.keep {g : Nat → Int64} (F : own_AJ Z h a ty n g) (K : Keep h h' ws) (q : a ∉ ws) : own_AJ Z h' a ty n g := by obtain ⟨c, A, r⟩ := F; exact ⟨c, ⟨K.2.1 a c A.1 q, A.2⟩, r⟩
theorem own_AD.lt {g : Nat → UInt64} (F : own_AD Z h a ty n g) : a < h.size := by obtain ⟨c, A, -⟩ := F; exact A.lt
theorem own_AD.ext {g : Nat → UInt64} (F : own_AD Z h a ty n g) (E : Ext h h') : own_AD Z h' a ty n g := by obtain ⟨c, A, r⟩ := F; exact ⟨c, A.ext E, r⟩
theorem own_AD.other {g : Nat → UInt64} (F : own_AD Z h b ty n g) (W : Wr h h' a sl v) (q : b ≠ a) : own_AD Z h' b ty n g := by obtain ⟨c, A, r⟩ := F; exact ⟨c, A.other W q, r⟩
theorem own_AD.keep {g : Nat → UInt64} (F : own_AD Z h a ty n g) (K : Keep h h' ws) (q : a ∉ ws) : own_AD Z h' a ty n g := by obtain ⟨c, A, r⟩ := F; exact ⟨c, ⟨K.2.1 a c A.1 q, A.2⟩, r⟩
theorem own_AI.set {g : Nat → Int32} {c : Cell} {x : Int32} {j : Nat} (A : Arr Z h a c ty) (S : c.slots.size = n) (M : n < 2 ^ 31) (H : ∀ i, i < n → c.slots[i]? = some (.int (g i))) (W : Wr h h' a j (.int x)) : own_AI Z h' a ty n (own_upd g j x) := by
  refine ⟨_, A.same W, (sz_set _ _ _).trans S, M, fun i hi => ?_⟩
  simp only [Cell.setSlot, Array.getElem?_setIfInBounds, own_upd]
  by_cases q : j = i
  · subst q; simp [S, hi]
  · rw [if_neg q, if_neg (fun z => q z.symm)]; exact H i hi
theorem own_AJ.set {g : Nat → Int64} {c : Cell} {x : Int64} {j : Nat} (A : Arr Z h a c ty) (S : c.slots.size = n) (M : n < 2 ^ 31) (H : ∀ i, i < n → c.slots[i]? = some (.long (g i))) (W : Wr h h' a j (.long x)) : own_AJ Z h' a ty n (own_upd g j x) := by
  refine ⟨_, A.same W, (sz_set _ _ _).trans S, M, fun i hi => ?_⟩
  simp only [Cell.setSlot, Array.getElem?_setIfInBounds, own_upd]
  by_cases q : j = i
  · subst q; simp [S, hi]
  · rw [if_neg q, if_neg (fun z => q z.symm)]; exact H i hi
theorem own_AD.set {g : Nat → UInt64} {c : Cell} {x : UInt64} {j : Nat} (A : Arr Z h a c ty) (S : c.slots.size = n) (M : n < 2 ^ 31) (H : ∀ i, i < n → c.slots[i]? = some (.double (g i))) (W : Wr h h' a j (.double x)) : own_AD Z h' a ty n (own_upd g j x) := by
  refine ⟨_, A.same W, (sz_set _ _ _).trans S, M, fun i hi => ?_⟩
  simp only [Cell.setSlot, Array.getElem?_setIfInBounds, own_upd]
  by_cases q : j = i
  · subst q; simp [S, hi]
  · rw [if_neg q, if_neg (fun z => q z.symm)]; exact H i hi
theorem own_clamp_lt (z : Int32) : z.toNatClampNeg < 2 ^ 31 := by have := z.toInt_lt; simp only [Int32.toNatClampNeg]; omega
theorem own_AI.fresh {k : ClassId} {z : Int32} (A : Arr Z h a (newA k ty z) ty) (hd : defaultValue ty = .int 0) : own_AI Z h a ty z.toNatClampNeg (fun _ => 0) :=
  ⟨_, A, sz_new _ _ _, own_clamp_lt z, fun i hi => by simp [newA, hi, hd]⟩
theorem own_AJ.fresh {k : ClassId} {z : Int32} (A : Arr Z h a (newA k ty z) ty) (hd : defaultValue ty = .long 0) : own_AJ Z h a ty z.toNatClampNeg (fun _ => 0) :=
  ⟨_, A, sz_new _ _ _, own_clamp_lt z, fun i hi => by simp [newA, hi, hd]⟩
theorem own_AD.fresh {k : ClassId} {z : Int32} (A : Arr Z h a (newA k ty z) ty) (hd : defaultValue ty = .double 0) : own_AD Z h a ty z.toNatClampNeg (fun _ => 0) :=
  ⟨_, A, sz_new _ _ _, own_clamp_lt z, fun i hi => by simp [newA, hi, hd]⟩
theorem own_in {c : Cell} {j : Int32} (S : c.slots.size = n) (q : ¬ j < 0 ∧ j.toNatClampNeg < n) : ¬ (j < 0 ∨ c.slots.size ≤ j.toNatClampNeg) := by
  rw [S]; exact fun z => z.elim q.1 (fun y => by have := q.2; omega)
theorem own_len {c : Cell} (S : c.slots.size = n) : c.slots.size.toInt32 = Int32.ofNat n := by rw [S]
theorem own_fitI {g : Nat → Int32} {c : Cell} (A : Arr Z h a c .int) (S : c.slots.size = n) (H : ∀ i, i < n → c.slots[i]? = some (.int (g i))) : FitC Z c :=
  fitC_of A fun i hi v hv => by rw [H i (S ▸ hi)] at hv; cases hv; rfl
theorem own_nst {C : String} (E : Exa Z h a C) : ∃ c : Cell, h[a]? = some c ∧ c.vm.isStatics = false := by obtain ⟨c, k, h1, -, -, h4, -⟩ := E; exact ⟨c, h1, h4⟩
theorem own_Sta_keep {C f d : String} (F : Sta Z h C f d v) (K : Keep h h' ws) (q : ∀ x ∈ ws, ∃ c : Cell, h[x]? = some c ∧ c.vm.isStatics = false) : Sta Z h' C f d v := by
  obtain ⟨cf, i, k, f, st, cell, h1, h2, h3, h4, h5, h6, h7⟩ := F
  refine ⟨cf, i, k, f, st, cell, h1, h2, h3, h4, K.2.1 st cell h5 (fun z => ?_), h6, h7⟩
  obtain ⟨c, g1, g2⟩ := q st z
  cases h5.symm.trans g1
  rw [h6] at g2
  cases g2
end OwnArrays
theorem own_lremq (x y : Int64) : x - (x / y) * y = x % y := by
  apply Int64.toInt_inj.mp
  rw [Int64.toInt_sub, Int64.toInt_mul, Int64.toInt_div, Int64.toInt_mod]
  have h := Int.mul_tdiv_add_tmod x.toInt y.toInt
  have hl := x.toInt_lt; have hg := x.le_toInt
  simp only [Int.bmod_sub_bmod, Int.sub_bmod_bmod, Int.bmod_mul_bmod, Int.mul_bmod_bmod]
  have e : x.toInt - x.toInt.tdiv y.toInt * y.toInt = x.toInt.tmod y.toInt := by rw [Int.mul_comm]; omega
  rw [e]
  have h1 := (x % y).toInt_lt; have h2 := (x % y).le_toInt
  rw [Int64.toInt_mod] at h1 h2
  exact Int.bmod_eq_of_le (by omega) (by omega)
theorem d3_0 : decode jdk_22_method_1_code 0 = .ok (.aload_n 0, 1) := by decide +kernel
theorem d3_1 : decode jdk_22_method_1_code 1 = .ok (.invokespecial 1, 3) := by decide +kernel
theorem d3_4 : decode jdk_22_method_1_code 4 = .ok (.return_, 1) := by decide +kernel
theorem own_pd0 : parseMethodDescriptor "()V" = some ⟨[], none⟩ := by decide +kernel
theorem own_pn0 : plainName "java/util/AbstractCollection" = true := by first | (simp [plainName, overriddenIn]; done) | decide +kernel
set_option maxHeartbeats 40000000 in
theorem own_ef_rm3 (m : MethodId) (x0 : Addr) : entryFrame m #[(.ref x0)] 1 = mkF m 0 #[.val (.ref x0)] [] := by first | (simp [entryFrame, mkF, argsToLocals, Value.category]; done) | rfl
def Q3 (Z : State) (a0 : Addr) (h0 : Heap) (n0 : Nat) (v : Option Value) (h : Heap) (L : List Loc) : Prop := v = none ∧ Fr n0 L ∧ h = h0
set_option maxRecDepth 65536 in
set_option maxHeartbeats 40000000 in
theorem rm3 (l : Launch) (Z : State) (aZ : Array Value) (hw : ∀ d ∈ tables_1, d.before aZ Z = true) (ws : List Jvm.Cond) (a0 : Addr) (h0 : Heap) (n0 : Nat) (Z0 : n0 ≤ h0.size) :
    MetFree l (⟨"java/util/AbstractCollection", "<init>", "()V"⟩ : MethodName) (head1 (Jvm.Cond.code (⟨"java/util/AbstractCollection", "<init>", "()V"⟩ : MethodName) jdk_22_method_1_code 1 none :: ws) ({ frames := 1, cells := 0, slots := 0, locals := 12 } : Room)) (fun a U => a = #[(.ref a0)] ∧ Z.Warmed39 U.vm ∧ U.heap = h0) (fun _ _ _ _ _ => True) (fun _ U o U' => ∃ v L, o = .returned v ∧ Q3 Z a0 h0 n0 v U'.heap L ∧ FrameEnd U o U' L ({ frames := 1, cells := 0, slots := 0, locals := 12 } : Room).cells ({ frames := 1, cells := 0, slots := 0, locals := 12 } : Room).slots) := by
  refine MetFree.of_bodySF (plainFor_of_name own_pn0) hisR ?_
  intro p e s m args below meth c s₁ Bd hml0 hP hK
  obtain ⟨rfl, hZ, hh⟩ := hP
  have hx := Bd.exec
  have hby := Bd.bytes
  have hml : c.maxLocals = 1 := hml0
  have hown : s.vm.findClass "java/util/AbstractCollection" = some m.cls := findClass_of_methodNamed Bd.named
  have hnm := (name_of_methodNamed Bd.named Bd.method).1
  have X0 : Stand p l e ({ frames := 1, cells := 0, slots := 0, locals := 12 } : Room) s m #[(.ref a0)] below meth c s₁ [] 0 0 := Stand.of_body Bd
  have e0 : s₁.heap = h0 := by rw [← hh, Bd.state]; rfl
  have N0 := Fr.nil n0
  refine own_go (S' := s₁.setTop (mkF m 0 #[.val (.ref a0)] [])) (fun t k => castTop (own_ef_rm3 m a0) k) ?_
  refine own_go (S' := s₁.setTop (mkF m 1 #[.val (.ref a0)] [(.ref a0)])) (fun target kt => ?_) ?_
  · skip
    show Steps p.tables e below (s₁.setTop (mkF m 0 #[.val (.ref a0)] [])) _
    refine XS.aloadN X0.here hx rfl (hb hby d3_0) rfl rfl ?_
    exact kt
  obtain ⟨T1, X1, e1, st1⟩ := initO X0 hx hZ hown (hw _ (List.mem_of_getElem? (i := 19) rfl)) (hw _ (List.mem_of_getElem? (i := 20) rfl)) (hw _ (List.mem_of_getElem? (i := 21) rfl)) e0 (g := (mkF m 1 #[.val (.ref a0)] [(.ref a0)])) rfl (by rw [hml]; rfl) rfl (hb hby d3_1) (by decide) (W := 0) (by show 2 * 0 + _ ≤ _; exact Nat.le_of_eq rfl) (by decide)
  refine own_go (S' := T1.setTop (mkF m 4 #[.val (.ref a0)] [])) st1 ?_
  obtain ⟨fs, hr, hrun, hended, hW, hsame⟩ := X1.leave (v := none) (fun _ => rfl)
  refine ⟨_, _, ?_, hrun, hended, _, _, rfl, ?_, ⟨_, rfl⟩, hW, hsame.mono (by decide) (by decide)⟩
  · exact X1.returnOut hx Bd.returns (hb hby d3_4) hr
  · show Q3 Z a0 h0 n0 _ T1.heap _
    rw [e1]
    exact ⟨rfl, N0, rfl⟩
theorem d2_0 : decode jdk_39_method_1_code 0 = .ok (.aload_n 0, 1) := by decide +kernel
theorem d2_1 : decode jdk_39_method_1_code 1 = .ok (.invokespecial 1, 3) := by decide +kernel
theorem d2_4 : decode jdk_39_method_1_code 4 = .ok (.aload_n 0, 1) := by decide +kernel
theorem d2_5 : decode jdk_39_method_1_code 5 = .ok (.iconst 0, 1) := by decide +kernel
theorem d2_6 : decode jdk_39_method_1_code 6 = .ok (.putfield 7, 3) := by decide +kernel
theorem d2_9 : decode jdk_39_method_1_code 9 = .ok (.return_, 1) := by decide +kernel
theorem own_pn1 : plainName "java/util/AbstractList" = true := by first | (simp [plainName, overriddenIn]; done) | decide +kernel
set_option maxHeartbeats 40000000 in
theorem own_ef_rm2 (m : MethodId) (x0 : Addr) : entryFrame m #[(.ref x0)] 1 = mkF m 0 #[.val (.ref x0)] [] := by first | (simp [entryFrame, mkF, argsToLocals, Value.category]; done) | rfl
def Q2 (Z : State) (a0 : Addr) (h0 : Heap) (n0 : Nat) (v : Option Value) (h : Heap) (L : List Loc) : Prop := v = none ∧ Fr n0 L ∧ Keep h0 h [a0] ∧ Exa Z h a0 "java/util/ArrayList" ∧ Fld Z h a0 "java/util/AbstractList" "modCount" "I" (.int (0 : Int32)) ∧ Fld Z h a0 "java/util/ArrayList" "elementData" "[Ljava/lang/Object;" .null
set_option maxRecDepth 65536 in
set_option maxHeartbeats 40000000 in
theorem rm2 (l : Launch) (Z : State) (aZ : Array Value) (hw : ∀ d ∈ tables_1, d.before aZ Z = true) (ws : List Jvm.Cond) (a0 : Addr) (h0 : Heap) (n0 : Nat) (Z0 : n0 ≤ h0.size) (pf0 : Exa Z h0 a0 "java/util/ArrayList") (pf1 : Fld Z h0 a0 "java/util/AbstractList" "modCount" "I" (.int (0 : Int32))) (pf2 : Fld Z h0 a0 "java/util/ArrayList" "elementData" "[Ljava/lang/Object;" .null) (g_a0 : n0 ≤ a0) :
    MetFree l (⟨"java/util/AbstractList", "<init>", "()V"⟩ : MethodName) (head1 (Jvm.Cond.code (⟨"java/util/AbstractList", "<init>", "()V"⟩ : MethodName) jdk_39_method_1_code 1 none :: ws) ({ frames := 2, cells := 0, slots := 0, locals := 24 } : Room)) (fun a U => a = #[(.ref a0)] ∧ Z.Warmed39 U.vm ∧ U.heap = h0) (fun _ _ _ _ _ => True) (fun _ U o U' => ∃ v L, o = .returned v ∧ Q2 Z a0 h0 n0 v U'.heap L ∧ FrameEnd U o U' L ({ frames := 2, cells := 0, slots := 0, locals := 24 } : Room).cells ({ frames := 2, cells := 0, slots := 0, locals := 24 } : Room).slots) := by
  refine MetFree.of_bodySF (plainFor_of_name own_pn1) hisR ?_
  intro p e s m args below meth c s₁ Bd hml0 hP hK
  obtain ⟨rfl, hZ, hh⟩ := hP
  have hx := Bd.exec
  have hby := Bd.bytes
  have hml : c.maxLocals = 1 := hml0
  have hown : s.vm.findClass "java/util/AbstractList" = some m.cls := findClass_of_methodNamed Bd.named
  have hnm := (name_of_methodNamed Bd.named Bd.method).1
  have X0 : Stand p l e ({ frames := 2, cells := 0, slots := 0, locals := 24 } : Room) s m #[(.ref a0)] below meth c s₁ [] 0 0 := Stand.of_body Bd
  have e0 : s₁.heap = h0 := by rw [← hh, Bd.state]; rfl
  have N0 := Fr.nil n0
  have K0 : Keep h0 h0 [a0] := Keep.refl h0 _
  refine own_go (S' := s₁.setTop (mkF m 0 #[.val (.ref a0)] [])) (fun t k => castTop (own_ef_rm2 m a0) k) ?_
  refine own_go (S' := s₁.setTop (mkF m 1 #[.val (.ref a0)] [(.ref a0)])) (fun target kt => ?_) ?_
  · skip
    show Steps p.tables e below (s₁.setTop (mkF m 0 #[.val (.ref a0)] [])) _
    refine XS.aloadN X0.here hx rfl (hb hby d2_0) rfl rfl ?_
    exact kt
  obtain ⟨_, _, ⟨T2, L2, k2, n2⟩, -, X2, ⟨Lc2, hQ2, l2, y2, z2⟩, st2⟩ := X0.specialBack hx (y := (⟨"java/util/AbstractCollection", "<init>", "()V"⟩ : MethodName)) rfl hown (mvT hZ (hw _ (List.mem_of_getElem? (i := 13) rfl))) (mvT hZ (hw _ (List.mem_of_getElem? (i := 14) rfl))) (mvT hZ (hw _ (List.mem_of_getElem? (i := 18) rfl))) (by decide) (backOf (W := 0) (rm3 l Z aZ hw [] a0 h0 n0 Z0 ) hZ (hw _ (List.mem_of_getElem? (i := 18) rfl)) (hw _ (List.mem_of_getElem? (i := 17) rfl)) (by decide) (by decide)) (g := (mkF m 1 #[.val (.ref a0)] [(.ref a0)])) rfl (by rw [hml]; rfl) (Steps.refl _) (a := a0) (argsL := []) (rest := []) (lenOf own_pd0 rfl) rfl (by show 2 * 0 + _ ≤ _; exact Nat.le_of_eq rfl) (hb hby d2_1) (fun _ _ => ⟨rfl, e0, (by decide : 0 + 0 ≤ _), (by decide : 0 + 0 ≤ _)⟩)
  dsimp only [Pt.U, Pt.locs, Pt.cells, Pt.slots] at X2 l2 y2 z2 st2 hQ2
  subst l2 y2 z2
  obtain ⟨rfl, N2q, e2⟩ := hQ2
  have N2 := Fr.app N0 N2q
  refine own_go (S' := T2.setTop (mkF m 4 #[.val (.ref a0)] [])) (fun _ k => st2.trans k) ?_
  refine own_go (S' := T2.setTop (mkF m 6 #[.val (.ref a0)] [(.int (0 : Int32)), (.ref a0)])) (fun target kt => ?_) ?_
  · skip
    show Steps p.tables e below (T2.setTop (mkF m 4 #[.val (.ref a0)] [])) _
    refine XS.aloadN X2.here hx rfl (hb hby d2_4) rfl rfl ?_
    show Steps p.tables e below (T2.setTop (mkF m 5 #[.val (.ref a0)] [(.ref a0)])) _
    refine XS.iconst X2.here hx rfl (hb hby d2_5) ?_
    exact kt
  obtain ⟨T3, h3, X3, e3, W3, st3⟩ := putF X2 hx hZ hown (host := "") (Or.inl (hw _ (List.mem_of_getElem? (i := 22) rfl))) Via.refl e2 pf1 pf0 (Or.inl (hw _ (List.mem_of_getElem? (i := 23) rfl))) (hw _ (List.mem_of_getElem? (i := 2) rfl)) (ty := .int) (by decide) rfl rfl (g := (mkF m 6 #[.val (.ref a0)] [(.int (0 : Int32)), (.ref a0)])) rfl rfl (hb hby d2_6)
  have f4 : Exa Z h3 a0 "java/util/ArrayList" := pf0.wr W3
  have f5 : Fld Z h3 a0 "java/util/ArrayList" "elementData" "[Ljava/lang/Object;" .null := pf2.other W3 (Or.inr (slot_ne (Or.inl (hw _ (List.mem_of_getElem? (i := 26) rfl))) (Or.inl (hw _ (List.mem_of_getElem? (i := 23) rfl))) (by decide) (t := (.array (.object "java/lang/Object"))) (t' := .int) (by decide) (by decide)))
  have f6 : Fld Z h3 a0 "java/util/AbstractList" "modCount" "I" (.int (0 : Int32)) := pf1.same W3
  have Z3 : n0 ≤ h3.size := Nat.le_trans Z0 (Keep.of_wr W3).1
  have K3 : Keep h0 h3 [a0] := K0.wr W3 (Or.inl (List.mem_of_getElem? (i := 0) rfl))
  have N3 := Fr.snoc X3 N2 g_a0
  refine own_go (S' := T3.setTop (mkF m 9 #[.val (.ref a0)] [])) st3 ?_
  obtain ⟨fs, hr, hrun, hended, hW, hsame⟩ := X3.leave (v := none) (fun _ => rfl)
  refine ⟨_, _, ?_, hrun, hended, _, _, rfl, ?_, ⟨_, rfl⟩, hW, hsame.mono (by decide) (by decide)⟩
  · exact X3.returnOut hx Bd.returns (hb hby d2_9) hr
  · show Q2 Z a0 h0 n0 _ T3.heap _
    rw [e3]
    exact ⟨rfl, N3, K3, f4, f6, f5⟩
theorem d1_0 : decode jdk_38_method_2_code 0 = .ok (.aload_n 0, 1) := by decide +kernel
theorem d1_1 : decode jdk_38_method_2_code 1 = .ok (.invokespecial 1, 3) := by decide +kernel
theorem d1_4 : decode jdk_38_method_2_code 4 = .ok (.aload_n 0, 1) := by decide +kernel
theorem d1_5 : decode jdk_38_method_2_code 5 = .ok (.getstatic 39, 3) := by decide +kernel
theorem d1_8 : decode jdk_38_method_2_code 8 = .ok (.putfield 9, 3) := by decide +kernel
theorem d1_11 : decode jdk_38_method_2_code 11 = .ok (.return_, 1) := by decide +kernel
theorem own_pn2 : plainName "java/util/ArrayList" = true := by first | (simp [plainName, overriddenIn]; done) | decide +kernel
set_option maxHeartbeats 40000000 in
theorem own_ef_rm1 (m : MethodId) (x0 : Addr) : entryFrame m #[(.ref x0)] 1 = mkF m 0 #[.val (.ref x0)] [] := by first | (simp [entryFrame, mkF, argsToLocals, Value.category]; done) | rfl
def Q1 (Z : State) (a0 : Addr) (dz : Addr) (h0 : Heap) (n0 : Nat) (v : Option Value) (h : Heap) (L : List Loc) : Prop := v = none ∧ Fr n0 L ∧ Keep h0 h [a0] ∧ Exa Z h a0 "java/util/ArrayList"
set_option maxRecDepth 65536 in
set_option maxHeartbeats 40000000 in
theorem rm1 (l : Launch) (Z : State) (aZ : Array Value) (hw : ∀ d ∈ tables_1, d.before aZ Z = true) (ws : List Jvm.Cond) (a0 : Addr) (dz : Addr) (h0 : Heap) (n0 : Nat) (Z0 : n0 ≤ h0.size) (pf0 : Exa Z h0 a0 "java/util/ArrayList") (pf1 : Fld Z h0 a0 "java/util/AbstractList" "modCount" "I" (.int (0 : Int32))) (pf2 : Fld Z h0 a0 "java/util/ArrayList" "elementData" "[Ljava/lang/Object;" .null) (pf3 : Sta Z h0 "java/util/ArrayList" "DEFAULTCAPACITY_EMPTY_ELEMENTDATA" "[Ljava/lang/Object;" (.ref dz)) (g_a0 : n0 ≤ a0) :
    MetFree l (⟨"java/util/ArrayList", "<init>", "()V"⟩ : MethodName) (head1 (Jvm.Cond.code (⟨"java/util/ArrayList", "<init>", "()V"⟩ : MethodName) jdk_38_method_2_code 1 none :: ws) ({ frames := 3, cells := 0, slots := 0, locals := 36 } : Room)) (fun a U => a = #[(.ref a0)] ∧ Z.Warmed39 U.vm ∧ U.heap = h0) (fun _ _ _ _ _ => True) (fun _ U o U' => ∃ v L, o = .returned v ∧ Q1 Z a0 dz h0 n0 v U'.heap L ∧ FrameEnd U o U' L ({ frames := 3, cells := 0, slots := 0, locals := 36 } : Room).cells ({ frames := 3, cells := 0, slots := 0, locals := 36 } : Room).slots) := by
  refine MetFree.of_bodySF (plainFor_of_name own_pn2) hisR ?_
  intro p e s m args below meth c s₁ Bd hml0 hP hK
  obtain ⟨rfl, hZ, hh⟩ := hP
  have hx := Bd.exec
  have hby := Bd.bytes
  have hml : c.maxLocals = 1 := hml0
  have hown : s.vm.findClass "java/util/ArrayList" = some m.cls := findClass_of_methodNamed Bd.named
  have hnm := (name_of_methodNamed Bd.named Bd.method).1
  have X0 : Stand p l e ({ frames := 3, cells := 0, slots := 0, locals := 36 } : Room) s m #[(.ref a0)] below meth c s₁ [] 0 0 := Stand.of_body Bd
  have e0 : s₁.heap = h0 := by rw [← hh, Bd.state]; rfl
  have N0 := Fr.nil n0
  have K0 : Keep h0 h0 [a0] := Keep.refl h0 _
  refine own_go (S' := s₁.setTop (mkF m 0 #[.val (.ref a0)] [])) (fun t k => castTop (own_ef_rm1 m a0) k) ?_
  refine own_go (S' := s₁.setTop (mkF m 1 #[.val (.ref a0)] [(.ref a0)])) (fun target kt => ?_) ?_
  · skip
    show Steps p.tables e below (s₁.setTop (mkF m 0 #[.val (.ref a0)] [])) _
    refine XS.aloadN X0.here hx rfl (hb hby d1_0) rfl rfl ?_
    exact kt
  obtain ⟨_, _, ⟨T7, L7, k7, n7⟩, -, X7, ⟨Lc7, hQ7, l7, y7, z7⟩, st7⟩ := X0.specialBack hx (y := (⟨"java/util/AbstractList", "<init>", "()V"⟩ : MethodName)) rfl hown (mvT hZ (hw _ (List.mem_of_getElem? (i := 7) rfl))) (mvT hZ (hw _ (List.mem_of_getElem? (i := 8) rfl))) (mvT hZ (hw _ (List.mem_of_getElem? (i := 12) rfl))) (by decide) (backOf (W := 0) (rm2 l Z aZ hw [] a0 h0 n0 Z0 pf0 pf1 pf2 g_a0) hZ (hw _ (List.mem_of_getElem? (i := 12) rfl)) (hw _ (List.mem_of_getElem? (i := 11) rfl)) (by decide) (by decide)) (g := (mkF m 1 #[.val (.ref a0)] [(.ref a0)])) rfl (by rw [hml]; rfl) (Steps.refl _) (a := a0) (argsL := []) (rest := []) (lenOf own_pd0 rfl) rfl (by show 2 * 0 + _ ≤ _; exact Nat.le_of_eq rfl) (hb hby d1_1) (fun _ _ => ⟨rfl, e0, (by decide : 0 + 0 ≤ _), (by decide : 0 + 0 ≤ _)⟩)
  dsimp only [Pt.U, Pt.locs, Pt.cells, Pt.slots] at X7 l7 y7 z7 st7 hQ7
  subst l7 y7 z7
  obtain ⟨rfl, N7q, K7q, f7_0, f7_1, f7_2⟩ := hQ7
  have N7 := Fr.app N0 N7q
  have f8 : Exa Z T7.heap a0 "java/util/ArrayList" := pf0.keep K7q
  have f9 : Sta Z T7.heap "java/util/ArrayList" "DEFAULTCAPACITY_EMPTY_ELEMENTDATA" "[Ljava/lang/Object;" (.ref dz) := own_Sta_keep pf3 K7q (allS (own_nst pf0) all0)
  have Z7 : n0 ≤ T7.heap.size := Nat.le_trans Z0 K7q.1
  have K7 : Keep h0 T7.heap [a0] := K0.trans K7q (allS (Or.inl (List.mem_of_getElem? (i := 0) rfl)) all0)
  refine own_go (S' := T7.setTop (mkF m 4 #[.val (.ref a0)] [])) (fun _ k => st7.trans k) ?_
  refine own_go (S' := T7.setTop (mkF m 5 #[.val (.ref a0)] [(.ref a0)])) (fun target kt => ?_) ?_
  · skip
    show Steps p.tables e below (T7.setTop (mkF m 4 #[.val (.ref a0)] [])) _
    refine XS.aloadN X7.here hx rfl (hb hby d1_4) rfl rfl ?_
    exact kt
  obtain ⟨T10, X10, e10, st10⟩ := getS2 X7 hx hZ hown (host := "") (Or.inl (hw _ (List.mem_of_getElem? (i := 24) rfl))) Via.refl rfl f9 (g := (mkF m 5 #[.val (.ref a0)] [(.ref a0)])) rfl (hb hby d1_5)
  refine own_go (S' := T10.setTop (mkF m 8 #[.val (.ref a0)] [(.ref dz), (.ref a0)])) st10 ?_
  obtain ⟨T11, h11, X11, e11, W11, st11⟩ := putF X10 hx hZ hown (host := "") (Or.inl (hw _ (List.mem_of_getElem? (i := 25) rfl))) Via.refl e10 f7_2 f7_0 (Or.inl (hw _ (List.mem_of_getElem? (i := 26) rfl))) (hw _ (List.mem_of_getElem? (i := 2) rfl)) (ty := (.array (.object "java/lang/Object"))) (by decide) rfl rfl (g := (mkF m 8 #[.val (.ref a0)] [(.ref dz), (.ref a0)])) rfl rfl (hb hby d1_8)
  have f12 : Exa Z h11 a0 "java/util/ArrayList" := f7_0.wr W11
  have f13 : Sta Z h11 "java/util/ArrayList" "DEFAULTCAPACITY_EMPTY_ELEMENTDATA" "[Ljava/lang/Object;" (.ref dz) := f9.wr W11
  have f14 : Fld Z h11 a0 "java/util/AbstractList" "modCount" "I" (.int (0 : Int32)) := f7_1.other W11 (Or.inr (slot_ne (Or.inl (hw _ (List.mem_of_getElem? (i := 23) rfl))) (Or.inl (hw _ (List.mem_of_getElem? (i := 26) rfl))) (by decide) (t := .int) (t' := (.array (.object "java/lang/Object"))) (by decide) (by decide)))
  have f15 : Fld Z h11 a0 "java/util/ArrayList" "elementData" "[Ljava/lang/Object;" (.ref dz) := f7_2.same W11
  have Z11 : n0 ≤ h11.size := Nat.le_trans Z7 (Keep.of_wr W11).1
  have K11 : Keep h0 h11 [a0] := K7.wr W11 (Or.inl (List.mem_of_getElem? (i := 0) rfl))
  have N11 := Fr.snoc X11 N7 g_a0
  refine own_go (S' := T11.setTop (mkF m 11 #[.val (.ref a0)] [])) st11 ?_
  obtain ⟨fs, hr, hrun, hended, hW, hsame⟩ := X11.leave (v := none) (fun _ => rfl)
  refine ⟨_, _, ?_, hrun, hended, _, _, rfl, ?_, ⟨_, rfl⟩, hW, hsame.mono (by decide) (by decide)⟩
  · exact X11.returnOut hx Bd.returns (hb hby d1_11) hr
  · show Q1 Z a0 dz h0 n0 _ T11.heap _
    rw [e11]
    exact ⟨rfl, N11, K11, f12⟩
theorem d6_0 : decode jdk_30_method_1_code 0 = .ok (.aload_n 0, 1) := by decide +kernel
theorem d6_1 : decode jdk_30_method_1_code 1 = .ok (.invokespecial 1, 3) := by decide +kernel
theorem d6_4 : decode jdk_30_method_1_code 4 = .ok (.return_, 1) := by decide +kernel
theorem own_pn3 : plainName "java/lang/Record" = true := by first | (simp [plainName, overriddenIn]; done) | decide +kernel
set_option maxHeartbeats 40000000 in
theorem own_ef_rm6 (m : MethodId) (x0 : Addr) : entryFrame m #[(.ref x0)] 1 = mkF m 0 #[.val (.ref x0)] [] := by first | (simp [entryFrame, mkF, argsToLocals, Value.category]; done) | rfl
def Q6 (Z : State) (a0 : Addr) (h0 : Heap) (n0 : Nat) (v : Option Value) (h : Heap) (L : List Loc) : Prop := v = none ∧ Fr n0 L ∧ h = h0
set_option maxRecDepth 65536 in
set_option maxHeartbeats 40000000 in
theorem rm6 (l : Launch) (Z : State) (aZ : Array Value) (hw : ∀ d ∈ tables_1, d.before aZ Z = true) (ws : List Jvm.Cond) (a0 : Addr) (h0 : Heap) (n0 : Nat) (Z0 : n0 ≤ h0.size) :
    MetFree l (⟨"java/lang/Record", "<init>", "()V"⟩ : MethodName) (head1 (Jvm.Cond.code (⟨"java/lang/Record", "<init>", "()V"⟩ : MethodName) jdk_30_method_1_code 1 none :: ws) ({ frames := 1, cells := 0, slots := 0, locals := 12 } : Room)) (fun a U => a = #[(.ref a0)] ∧ Z.Warmed39 U.vm ∧ U.heap = h0) (fun _ _ _ _ _ => True) (fun _ U o U' => ∃ v L, o = .returned v ∧ Q6 Z a0 h0 n0 v U'.heap L ∧ FrameEnd U o U' L ({ frames := 1, cells := 0, slots := 0, locals := 12 } : Room).cells ({ frames := 1, cells := 0, slots := 0, locals := 12 } : Room).slots) := by
  refine MetFree.of_bodySF (plainFor_of_name own_pn3) hisR ?_
  intro p e s m args below meth c s₁ Bd hml0 hP hK
  obtain ⟨rfl, hZ, hh⟩ := hP
  have hx := Bd.exec
  have hby := Bd.bytes
  have hml : c.maxLocals = 1 := hml0
  have hown : s.vm.findClass "java/lang/Record" = some m.cls := findClass_of_methodNamed Bd.named
  have hnm := (name_of_methodNamed Bd.named Bd.method).1
  have X0 : Stand p l e ({ frames := 1, cells := 0, slots := 0, locals := 12 } : Room) s m #[(.ref a0)] below meth c s₁ [] 0 0 := Stand.of_body Bd
  have e0 : s₁.heap = h0 := by rw [← hh, Bd.state]; rfl
  have N0 := Fr.nil n0
  refine own_go (S' := s₁.setTop (mkF m 0 #[.val (.ref a0)] [])) (fun t k => castTop (own_ef_rm6 m a0) k) ?_
  refine own_go (S' := s₁.setTop (mkF m 1 #[.val (.ref a0)] [(.ref a0)])) (fun target kt => ?_) ?_
  · skip
    show Steps p.tables e below (s₁.setTop (mkF m 0 #[.val (.ref a0)] [])) _
    refine XS.aloadN X0.here hx rfl (hb hby d6_0) rfl rfl ?_
    exact kt
  obtain ⟨T16, X16, e16, st16⟩ := initO X0 hx hZ hown (hw _ (List.mem_of_getElem? (i := 38) rfl)) (hw _ (List.mem_of_getElem? (i := 20) rfl)) (hw _ (List.mem_of_getElem? (i := 21) rfl)) e0 (g := (mkF m 1 #[.val (.ref a0)] [(.ref a0)])) rfl (by rw [hml]; rfl) rfl (hb hby d6_1) (by decide) (W := 0) (by show 2 * 0 + _ ≤ _; exact Nat.le_of_eq rfl) (by decide)
  refine own_go (S' := T16.setTop (mkF m 4 #[.val (.ref a0)] [])) st16 ?_
  obtain ⟨fs, hr, hrun, hended, hW, hsame⟩ := X16.leave (v := none) (fun _ => rfl)
  refine ⟨_, _, ?_, hrun, hended, _, _, rfl, ?_, ⟨_, rfl⟩, hW, hsame.mono (by decide) (by decide)⟩
  · exact X16.returnOut hx Bd.returns (hb hby d6_4) hr
  · show Q6 Z a0 h0 n0 _ T16.heap _
    rw [e16]
    exact ⟨rfl, N0, rfl⟩
theorem d5_0 : decode prog_33_method_1_code 0 = .ok (.aload_n 0, 1) := by decide +kernel
theorem d5_1 : decode prog_33_method_1_code 1 = .ok (.invokespecial 1, 3) := by decide +kernel
theorem d5_4 : decode prog_33_method_1_code 4 = .ok (.aload_n 0, 1) := by decide +kernel
theorem d5_5 : decode prog_33_method_1_code 5 = .ok (.lload_n 1, 1) := by decide +kernel
theorem d5_6 : decode prog_33_method_1_code 6 = .ok (.putfield 7, 3) := by decide +kernel
theorem d5_9 : decode prog_33_method_1_code 9 = .ok (.aload_n 0, 1) := by decide +kernel
theorem d5_10 : decode prog_33_method_1_code 10 = .ok (.aload_n 3, 1) := by decide +kernel
theorem d5_11 : decode prog_33_method_1_code 11 = .ok (.putfield 13, 3) := by decide +kernel
theorem d5_14 : decode prog_33_method_1_code 14 = .ok (.aload_n 0, 1) := by decide +kernel
theorem d5_15 : decode prog_33_method_1_code 15 = .ok (.aload 4, 2) := by decide +kernel
theorem d5_17 : decode prog_33_method_1_code 17 = .ok (.putfield 17, 3) := by decide +kernel
theorem d5_20 : decode prog_33_method_1_code 20 = .ok (.return_, 1) := by decide +kernel
theorem own_pn4 : plainName "com/example/access_bindings/accessbindings/benchmark/Exchanged" = true := by first | (simp [plainName, overriddenIn]; done) | decide +kernel
set_option maxHeartbeats 40000000 in
theorem own_ef_rm5 (m : MethodId) (x0 : Addr) (x1 : Int64) (x2 : Addr) (x3 : Addr) : entryFrame m #[(.ref x0), (.long x1), (.ref x2), (.ref x3)] 5 = mkF m 0 #[.val (.ref x0), .val (.long x1), .second, .val (.ref x2), .val (.ref x3)] [] := by first | (simp [entryFrame, mkF, argsToLocals, Value.category]; done) | rfl
def Q5 (Z : State) (a0 : Addr) (q1 : Int64) (a2 : Addr) (a3 : Addr) (h0 : Heap) (n0 : Nat) (v : Option Value) (h : Heap) (L : List Loc) : Prop := v = none ∧ Fr n0 L ∧ Keep h0 h [a0] ∧ Exa Z h a0 "com/example/access_bindings/accessbindings/benchmark/Exchanged" ∧ Fld Z h a0 "com/example/access_bindings/accessbindings/benchmark/Exchanged" "firstSent" "J" (.long q1) ∧ Fld Z h a0 "com/example/access_bindings/accessbindings/benchmark/Exchanged" "answeredAt" "[J" (.ref a2) ∧ Fld Z h a0 "com/example/access_bindings/accessbindings/benchmark/Exchanged" "answers" "Ljava/util/List;" (.ref a3)
set_option maxRecDepth 65536 in
set_option maxHeartbeats 40000000 in
theorem rm5 (l : Launch) (Z : State) (aZ : Array Value) (hw : ∀ d ∈ tables_1, d.before aZ Z = true) (ws : List Jvm.Cond) (a0 : Addr) (q1 : Int64) (a2 : Addr) (a3 : Addr) (h0 : Heap) (n0 : Nat) (Z0 : n0 ≤ h0.size) (pf0 : Exa Z h0 a0 "com/example/access_bindings/accessbindings/benchmark/Exchanged") (pf1 : Fld Z h0 a0 "com/example/access_bindings/accessbindings/benchmark/Exchanged" "firstSent" "J" (.long (0 : Int64))) (pf2 : Fld Z h0 a0 "com/example/access_bindings/accessbindings/benchmark/Exchanged" "answeredAt" "[J" .null) (pf3 : Fld Z h0 a0 "com/example/access_bindings/accessbindings/benchmark/Exchanged" "answers" "Ljava/util/List;" .null) (g_a0 : n0 ≤ a0) :
    MetFree l (⟨"com/example/access_bindings/accessbindings/benchmark/Exchanged", "<init>", "(J[JLjava/util/List;)V"⟩ : MethodName) (head1 (Jvm.Cond.code (⟨"com/example/access_bindings/accessbindings/benchmark/Exchanged", "<init>", "(J[JLjava/util/List;)V"⟩ : MethodName) prog_33_method_1_code 5 none :: ws) ({ frames := 2, cells := 0, slots := 0, locals := 24 } : Room)) (fun a U => a = #[(.ref a0), (.long q1), (.ref a2), (.ref a3)] ∧ Z.Warmed39 U.vm ∧ U.heap = h0) (fun _ _ _ _ _ => True) (fun _ U o U' => ∃ v L, o = .returned v ∧ Q5 Z a0 q1 a2 a3 h0 n0 v U'.heap L ∧ FrameEnd U o U' L ({ frames := 2, cells := 0, slots := 0, locals := 24 } : Room).cells ({ frames := 2, cells := 0, slots := 0, locals := 24 } : Room).slots) := by
  refine MetFree.of_bodySF (plainFor_of_name own_pn4) hisR ?_
  intro p e s m args below meth c s₁ Bd hml0 hP hK
  obtain ⟨rfl, hZ, hh⟩ := hP
  have hx := Bd.exec
  have hby := Bd.bytes
  have hml : c.maxLocals = 5 := hml0
  have hown : s.vm.findClass "com/example/access_bindings/accessbindings/benchmark/Exchanged" = some m.cls := findClass_of_methodNamed Bd.named
  have hnm := (name_of_methodNamed Bd.named Bd.method).1
  have X0 : Stand p l e ({ frames := 2, cells := 0, slots := 0, locals := 24 } : Room) s m #[(.ref a0), (.long q1), (.ref a2), (.ref a3)] below meth c s₁ [] 0 0 := Stand.of_body Bd
  have e0 : s₁.heap = h0 := by rw [← hh, Bd.state]; rfl
  have N0 := Fr.nil n0
  have K0 : Keep h0 h0 [a0] := Keep.refl h0 _
  refine own_go (S' := s₁.setTop (mkF m 0 #[.val (.ref a0), .val (.long q1), .second, .val (.ref a2), .val (.ref a3)] [])) (fun t k => castTop (own_ef_rm5 m a0 q1 a2 a3) k) ?_
  refine own_go (S' := s₁.setTop (mkF m 1 #[.val (.ref a0), .val (.long q1), .second, .val (.ref a2), .val (.ref a3)] [(.ref a0)])) (fun target kt => ?_) ?_
  · skip
    show Steps p.tables e below (s₁.setTop (mkF m 0 #[.val (.ref a0), .val (.long q1), .second, .val (.ref a2), .val (.ref a3)] [])) _
    refine XS.aloadN X0.here hx rfl (hb hby d5_0) rfl rfl ?_
    exact kt
  obtain ⟨_, _, ⟨T17, L17, k17, n17⟩, -, X17, ⟨Lc17, hQ17, l17, y17, z17⟩, st17⟩ := X0.specialBack hx (y := (⟨"java/lang/Record", "<init>", "()V"⟩ : MethodName)) rfl hown (mvT hZ (hw _ (List.mem_of_getElem? (i := 33) rfl))) (mvT hZ (hw _ (List.mem_of_getElem? (i := 34) rfl))) (mvT hZ (hw _ (List.mem_of_getElem? (i := 37) rfl))) (by decide) (backOf (W := 0) (rm6 l Z aZ hw [] a0 h0 n0 Z0 ) hZ (hw _ (List.mem_of_getElem? (i := 37) rfl)) (hw _ (List.mem_of_getElem? (i := 36) rfl)) (by decide) (by decide)) (g := (mkF m 1 #[.val (.ref a0), .val (.long q1), .second, .val (.ref a2), .val (.ref a3)] [(.ref a0)])) rfl (by rw [hml]; rfl) (Steps.refl _) (a := a0) (argsL := []) (rest := []) (lenOf own_pd0 rfl) rfl (by show 2 * 0 + _ ≤ _; exact Nat.le_of_eq rfl) (hb hby d5_1) (fun _ _ => ⟨rfl, e0, (by decide : 0 + 0 ≤ _), (by decide : 0 + 0 ≤ _)⟩)
  dsimp only [Pt.U, Pt.locs, Pt.cells, Pt.slots] at X17 l17 y17 z17 st17 hQ17
  subst l17 y17 z17
  obtain ⟨rfl, N17q, e17⟩ := hQ17
  have N17 := Fr.app N0 N17q
  refine own_go (S' := T17.setTop (mkF m 4 #[.val (.ref a0), .val (.long q1), .second, .val (.ref a2), .val (.ref a3)] [])) (fun _ k => st17.trans k) ?_
  refine own_go (S' := T17.setTop (mkF m 6 #[.val (.ref a0), .val (.long q1), .second, .val (.ref a2), .val (.ref a3)] [(.long q1), (.ref a0)])) (fun target kt => ?_) ?_
  · skip
    show Steps p.tables e below (T17.setTop (mkF m 4 #[.val (.ref a0), .val (.long q1), .second, .val (.ref a2), .val (.ref a3)] [])) _
    refine XS.aloadN X17.here hx rfl (hb hby d5_4) rfl rfl ?_
    show Steps p.tables e below (T17.setTop (mkF m 5 #[.val (.ref a0), .val (.long q1), .second, .val (.ref a2), .val (.ref a3)] [(.ref a0)])) _
    refine XS.lloadN X17.here hx rfl (hb hby d5_5) rfl ?_
    exact kt
  obtain ⟨T18, h18, X18, e18, W18, st18⟩ := putF X17 hx hZ hown (host := "") (Or.inl (hw _ (List.mem_of_getElem? (i := 39) rfl))) Via.refl e17 pf1 pf0 (Or.inr ⟨(hw _ (List.mem_of_getElem? (i := 40) rfl)), rfl, hnm⟩) (hw _ (List.mem_of_getElem? (i := 28) rfl)) (ty := .long) (by decide) rfl rfl (g := (mkF m 6 #[.val (.ref a0), .val (.long q1), .second, .val (.ref a2), .val (.ref a3)] [(.long q1), (.ref a0)])) rfl rfl (hb hby d5_6)
  have f19 : Exa Z h18 a0 "com/example/access_bindings/accessbindings/benchmark/Exchanged" := pf0.wr W18
  have f20 : Fld Z h18 a0 "com/example/access_bindings/accessbindings/benchmark/Exchanged" "answeredAt" "[J" .null := pf2.other W18 (Or.inr (slot_ne (Or.inr (hw _ (List.mem_of_getElem? (i := 42) rfl))) (Or.inr (hw _ (List.mem_of_getElem? (i := 40) rfl))) (by decide) (t := (.array .long)) (t' := .long) (by decide) (by decide)))
  have f21 : Fld Z h18 a0 "com/example/access_bindings/accessbindings/benchmark/Exchanged" "answers" "Ljava/util/List;" .null := pf3.other W18 (Or.inr (slot_ne (Or.inr (hw _ (List.mem_of_getElem? (i := 44) rfl))) (Or.inr (hw _ (List.mem_of_getElem? (i := 40) rfl))) (by decide) (t := (.object "java/util/List")) (t' := .long) (by decide) (by decide)))
  have f22 : Fld Z h18 a0 "com/example/access_bindings/accessbindings/benchmark/Exchanged" "firstSent" "J" (.long q1) := pf1.same W18
  have Z18 : n0 ≤ h18.size := Nat.le_trans Z0 (Keep.of_wr W18).1
  have K18 : Keep h0 h18 [a0] := K0.wr W18 (Or.inl (List.mem_of_getElem? (i := 0) rfl))
  have N18 := Fr.snoc X18 N17 g_a0
  refine own_go (S' := T18.setTop (mkF m 9 #[.val (.ref a0), .val (.long q1), .second, .val (.ref a2), .val (.ref a3)] [])) st18 ?_
  refine own_go (S' := T18.setTop (mkF m 11 #[.val (.ref a0), .val (.long q1), .second, .val (.ref a2), .val (.ref a3)] [(.ref a2), (.ref a0)])) (fun target kt => ?_) ?_
  · skip
    show Steps p.tables e below (T18.setTop (mkF m 9 #[.val (.ref a0), .val (.long q1), .second, .val (.ref a2), .val (.ref a3)] [])) _
    refine XS.aloadN X18.here hx rfl (hb hby d5_9) rfl rfl ?_
    show Steps p.tables e below (T18.setTop (mkF m 10 #[.val (.ref a0), .val (.long q1), .second, .val (.ref a2), .val (.ref a3)] [(.ref a0)])) _
    refine XS.aloadN X18.here hx rfl (hb hby d5_10) rfl rfl ?_
    exact kt
  obtain ⟨T23, h23, X23, e23, W23, st23⟩ := putF X18 hx hZ hown (host := "") (Or.inl (hw _ (List.mem_of_getElem? (i := 41) rfl))) Via.refl e18 f20 f19 (Or.inr ⟨(hw _ (List.mem_of_getElem? (i := 42) rfl)), rfl, hnm⟩) (hw _ (List.mem_of_getElem? (i := 28) rfl)) (ty := (.array .long)) (by decide) rfl rfl (g := (mkF m 11 #[.val (.ref a0), .val (.long q1), .second, .val (.ref a2), .val (.ref a3)] [(.ref a2), (.ref a0)])) rfl rfl (hb hby d5_11)
  have f24 : Exa Z h23 a0 "com/example/access_bindings/accessbindings/benchmark/Exchanged" := f19.wr W23
  have f25 : Fld Z h23 a0 "com/example/access_bindings/accessbindings/benchmark/Exchanged" "answers" "Ljava/util/List;" .null := f21.other W23 (Or.inr (slot_ne (Or.inr (hw _ (List.mem_of_getElem? (i := 44) rfl))) (Or.inr (hw _ (List.mem_of_getElem? (i := 42) rfl))) (by decide) (t := (.object "java/util/List")) (t' := (.array .long)) (by decide) (by decide)))
  have f26 : Fld Z h23 a0 "com/example/access_bindings/accessbindings/benchmark/Exchanged" "firstSent" "J" (.long q1) := f22.other W23 (Or.inr (slot_ne (Or.inr (hw _ (List.mem_of_getElem? (i := 40) rfl))) (Or.inr (hw _ (List.mem_of_getElem? (i := 42) rfl))) (by decide) (t := .long) (t' := (.array .long)) (by decide) (by decide)))
  have f27 : Fld Z h23 a0 "com/example/access_bindings/accessbindings/benchmark/Exchanged" "answeredAt" "[J" (.ref a2) := f20.same W23
  have Z23 : n0 ≤ h23.size := Nat.le_trans Z18 (Keep.of_wr W23).1
  have K23 : Keep h0 h23 [a0] := K18.wr W23 (Or.inl (List.mem_of_getElem? (i := 0) rfl))
  have N23 := Fr.snoc X23 N18 g_a0
  refine own_go (S' := T23.setTop (mkF m 14 #[.val (.ref a0), .val (.long q1), .second, .val (.ref a2), .val (.ref a3)] [])) st23 ?_
  refine own_go (S' := T23.setTop (mkF m 17 #[.val (.ref a0), .val (.long q1), .second, .val (.ref a2), .val (.ref a3)] [(.ref a3), (.ref a0)])) (fun target kt => ?_) ?_
  · skip
    show Steps p.tables e below (T23.setTop (mkF m 14 #[.val (.ref a0), .val (.long q1), .second, .val (.ref a2), .val (.ref a3)] [])) _
    refine XS.aloadN X23.here hx rfl (hb hby d5_14) rfl rfl ?_
    show Steps p.tables e below (T23.setTop (mkF m 15 #[.val (.ref a0), .val (.long q1), .second, .val (.ref a2), .val (.ref a3)] [(.ref a0)])) _
    refine XS.aload X23.here hx rfl (hb hby d5_15) rfl rfl ?_
    exact kt
  obtain ⟨T28, h28, X28, e28, W28, st28⟩ := putF X23 hx hZ hown (host := "") (Or.inl (hw _ (List.mem_of_getElem? (i := 43) rfl))) Via.refl e23 f25 f24 (Or.inr ⟨(hw _ (List.mem_of_getElem? (i := 44) rfl)), rfl, hnm⟩) (hw _ (List.mem_of_getElem? (i := 28) rfl)) (ty := (.object "java/util/List")) (by decide) rfl rfl (g := (mkF m 17 #[.val (.ref a0), .val (.long q1), .second, .val (.ref a2), .val (.ref a3)] [(.ref a3), (.ref a0)])) rfl rfl (hb hby d5_17)
  have f29 : Exa Z h28 a0 "com/example/access_bindings/accessbindings/benchmark/Exchanged" := f24.wr W28
  have f30 : Fld Z h28 a0 "com/example/access_bindings/accessbindings/benchmark/Exchanged" "firstSent" "J" (.long q1) := f26.other W28 (Or.inr (slot_ne (Or.inr (hw _ (List.mem_of_getElem? (i := 40) rfl))) (Or.inr (hw _ (List.mem_of_getElem? (i := 44) rfl))) (by decide) (t := .long) (t' := (.object "java/util/List")) (by decide) (by decide)))
  have f31 : Fld Z h28 a0 "com/example/access_bindings/accessbindings/benchmark/Exchanged" "answeredAt" "[J" (.ref a2) := f27.other W28 (Or.inr (slot_ne (Or.inr (hw _ (List.mem_of_getElem? (i := 42) rfl))) (Or.inr (hw _ (List.mem_of_getElem? (i := 44) rfl))) (by decide) (t := (.array .long)) (t' := (.object "java/util/List")) (by decide) (by decide)))
  have f32 : Fld Z h28 a0 "com/example/access_bindings/accessbindings/benchmark/Exchanged" "answers" "Ljava/util/List;" (.ref a3) := f25.same W28
  have Z28 : n0 ≤ h28.size := Nat.le_trans Z23 (Keep.of_wr W28).1
  have K28 : Keep h0 h28 [a0] := K23.wr W28 (Or.inl (List.mem_of_getElem? (i := 0) rfl))
  have N28 := Fr.snoc X28 N23 g_a0
  refine own_go (S' := T28.setTop (mkF m 20 #[.val (.ref a0), .val (.long q1), .second, .val (.ref a2), .val (.ref a3)] [])) st28 ?_
  obtain ⟨fs, hr, hrun, hended, hW, hsame⟩ := X28.leave (v := none) (fun _ => rfl)
  refine ⟨_, _, ?_, hrun, hended, _, _, rfl, ?_, ⟨_, rfl⟩, hW, hsame.mono (by decide) (by decide)⟩
  · exact X28.returnOut hx Bd.returns (hb hby d5_20) hr
  · show Q5 Z a0 q1 a2 a3 h0 n0 _ T28.heap _
    rw [e28]
    exact ⟨rfl, N28, K28, f29, f30, f31, f32⟩
theorem d7_0 : decode prog_33_method_3_code 0 = .ok (.aload_n 0, 1) := by decide +kernel
theorem d7_1 : decode prog_33_method_3_code 1 = .ok (.getfield 7, 3) := by decide +kernel
theorem d7_4 : decode prog_33_method_3_code 4 = .ok (.lstore_n 2, 1) := by decide +kernel
theorem d7_5 : decode prog_33_method_3_code 5 = .ok (.iload_n 1, 1) := by decide +kernel
theorem d7_6 : decode prog_33_method_3_code 6 = .ok (.ifCond .le 12, 3) := by decide +kernel
theorem d7_9 : decode prog_33_method_3_code 9 = .ok (.aload_n 0, 1) := by decide +kernel
theorem d7_10 : decode prog_33_method_3_code 10 = .ok (.getfield 13, 3) := by decide +kernel
theorem d7_13 : decode prog_33_method_3_code 13 = .ok (.iload_n 1, 1) := by decide +kernel
theorem d7_14 : decode prog_33_method_3_code 14 = .ok (.iconst 1, 1) := by decide +kernel
theorem d7_15 : decode prog_33_method_3_code 15 = .ok (.isub, 1) := by decide +kernel
theorem d7_16 : decode prog_33_method_3_code 16 = .ok (.laload, 1) := by decide +kernel
theorem d7_17 : decode prog_33_method_3_code 17 = .ok (.lstore_n 2, 1) := by decide +kernel
theorem d7_18 : decode prog_33_method_3_code 18 = .ok (.aload_n 0, 1) := by decide +kernel
theorem d7_19 : decode prog_33_method_3_code 19 = .ok (.getfield 13, 3) := by decide +kernel
theorem d7_22 : decode prog_33_method_3_code 22 = .ok (.iload_n 1, 1) := by decide +kernel
theorem d7_23 : decode prog_33_method_3_code 23 = .ok (.laload, 1) := by decide +kernel
theorem d7_24 : decode prog_33_method_3_code 24 = .ok (.lload_n 2, 1) := by decide +kernel
theorem d7_25 : decode prog_33_method_3_code 25 = .ok (.lsub, 1) := by decide +kernel
theorem d7_26 : decode prog_33_method_3_code 26 = .ok (.lreturn, 1) := by decide +kernel
set_option maxHeartbeats 40000000 in
theorem own_ef_rm7_0 (m : MethodId) (x0 : Addr) (x1 : Int32) : entryFrame m #[(.ref x0), (.int x1)] 4 = mkF m 0 #[.val (.ref x0), .val (.int x1), .unset, .unset] [] := by first | (simp [entryFrame, mkF, argsToLocals, Value.category]; done) | rfl
def Q7_0 (Z : State) (a0 : Addr) (w1 : Int64) (b1 : Addr) (g : Nat → Int64) (h0 : Heap) (n0 : Nat) (v : Option Value) (h : Heap) (L : List Loc) : Prop := v = some (.long ((g 0) - w1)) ∧ Fr n0 L ∧ h = h0
set_option maxRecDepth 65536 in
set_option maxHeartbeats 40000000 in
theorem rm7_0 (l : Launch) (Z : State) (aZ : Array Value) (hw : ∀ d ∈ tables_1, d.before aZ Z = true) (ws : List Jvm.Cond) (a0 : Addr) (w1 : Int64) (b1 : Addr) (g : Nat → Int64) (h0 : Heap) (n0 : Nat) (Z0 : n0 ≤ h0.size) (pf0 : Fld Z h0 a0 "com/example/access_bindings/accessbindings/benchmark/Exchanged" "firstSent" "J" (.long w1)) (pf1 : Fld Z h0 a0 "com/example/access_bindings/accessbindings/benchmark/Exchanged" "answeredAt" "[J" (.ref b1)) (pf2 : own_AJ Z h0 b1 .long 3 g) :
    MetFree l (⟨"com/example/access_bindings/accessbindings/benchmark/Exchanged", "took", "(I)J"⟩ : MethodName) (head1 (Jvm.Cond.code (⟨"com/example/access_bindings/accessbindings/benchmark/Exchanged", "took", "(I)J"⟩ : MethodName) prog_33_method_3_code 4 (some .long) :: ws) ({ frames := 0, cells := 0, slots := 0, locals := 0 } : Room)) (fun a U => a = #[(.ref a0), (.int (0 : Int32))] ∧ Z.Warmed39 U.vm ∧ U.heap = h0) (fun _ _ _ _ _ => True) (fun _ U o U' => ∃ v L, o = .returned v ∧ Q7_0 Z a0 w1 b1 g h0 n0 v U'.heap L ∧ FrameEnd U o U' L ({ frames := 0, cells := 0, slots := 0, locals := 0 } : Room).cells ({ frames := 0, cells := 0, slots := 0, locals := 0 } : Room).slots) := by
  refine MetFree.of_bodySF (plainFor_of_name own_pn4) hisR ?_
  intro p e s m args below meth c s₁ Bd hml0 hP hK
  obtain ⟨rfl, hZ, hh⟩ := hP
  have hx := Bd.exec
  have hby := Bd.bytes
  have hml : c.maxLocals = 4 := hml0
  have hown : s.vm.findClass "com/example/access_bindings/accessbindings/benchmark/Exchanged" = some m.cls := findClass_of_methodNamed Bd.named
  have hnm := (name_of_methodNamed Bd.named Bd.method).1
  have X0 : Stand p l e ({ frames := 0, cells := 0, slots := 0, locals := 0 } : Room) s m #[(.ref a0), (.int (0 : Int32))] below meth c s₁ [] 0 0 := Stand.of_body Bd
  have e0 : s₁.heap = h0 := by rw [← hh, Bd.state]; rfl
  have N0 := Fr.nil n0
  refine own_go (S' := s₁.setTop (mkF m 0 #[.val (.ref a0), .val (.int (0 : Int32)), .unset, .unset] [])) (fun t k => castTop (own_ef_rm7_0 m a0 (0 : Int32)) k) ?_
  refine own_go (S' := s₁.setTop (mkF m 1 #[.val (.ref a0), .val (.int (0 : Int32)), .unset, .unset] [(.ref a0)])) (fun target kt => ?_) ?_
  · skip
    show Steps p.tables e below (s₁.setTop (mkF m 0 #[.val (.ref a0), .val (.int (0 : Int32)), .unset, .unset] [])) _
    refine XS.aloadN X0.here hx rfl (hb hby d7_0) rfl rfl ?_
    exact kt
  obtain ⟨T33, X33, e33, st33⟩ := getF X0 hx hZ hown (host := "") (Or.inl (hw _ (List.mem_of_getElem? (i := 39) rfl))) Via.refl e0 pf0 (g := (mkF m 1 #[.val (.ref a0), .val (.int (0 : Int32)), .unset, .unset] [(.ref a0)])) rfl rfl (hb hby d7_1)
  refine own_go (S' := T33.setTop (mkF m 4 #[.val (.ref a0), .val (.int (0 : Int32)), .unset, .unset] [(.long w1)])) st33 ?_
  refine own_go (S' := T33.setTop (mkF m 19 #[.val (.ref a0), .val (.int (0 : Int32)), .val (.long w1), .second] [(.ref a0)])) (fun target kt => ?_) ?_
  · skip
    show Steps p.tables e below (T33.setTop (mkF m 4 #[.val (.ref a0), .val (.int (0 : Int32)), .unset, .unset] [(.long w1)])) _
    refine XS.lstoreN X33.here hx rfl (hb hby d7_4) rfl (l' := #[.val (.ref a0), .val (.int (0 : Int32)), .val (.long w1), .second]) rfl ?_
    show Steps p.tables e below (T33.setTop (mkF m 5 #[.val (.ref a0), .val (.int (0 : Int32)), .val (.long w1), .second] [])) _
    refine XS.iloadN X33.here hx rfl (hb hby d7_5) rfl ?_
    show Steps p.tables e below (T33.setTop (mkF m 6 #[.val (.ref a0), .val (.int (0 : Int32)), .val (.long w1), .second] [(.int (0 : Int32))])) _
    refine XS.ifYes X33.here hx rfl (pc0 := 6) (pc' := 18) rfl (hb hby d7_6) rfl ((if0 _ _).trans (flt (by decide : ¬ (0 : Int32) < (0 : Int32))).2.2.2) (by decide) (by decide) ?_
    show Steps p.tables e below (T33.setTop (mkF m 18 #[.val (.ref a0), .val (.int (0 : Int32)), .val (.long w1), .second] [])) _
    refine XS.aloadN X33.here hx rfl (hb hby d7_18) rfl rfl ?_
    exact kt
  obtain ⟨T34, X34, e34, st34⟩ := getF X33 hx hZ hown (host := "") (Or.inl (hw _ (List.mem_of_getElem? (i := 41) rfl))) Via.refl e33 pf1 (g := (mkF m 19 #[.val (.ref a0), .val (.int (0 : Int32)), .val (.long w1), .second] [(.ref a0)])) rfl rfl (hb hby d7_19)
  refine own_go (S' := T34.setTop (mkF m 22 #[.val (.ref a0), .val (.int (0 : Int32)), .val (.long w1), .second] [(.ref b1)])) st34 ?_
  refine own_go (S' := T34.setTop (mkF m 23 #[.val (.ref a0), .val (.int (0 : Int32)), .val (.long w1), .second] [(.int (0 : Int32)), (.ref b1)])) (fun target kt => ?_) ?_
  · skip
    show Steps p.tables e below (T34.setTop (mkF m 22 #[.val (.ref a0), .val (.int (0 : Int32)), .val (.long w1), .second] [(.ref b1)])) _
    refine XS.iloadN X34.here hx rfl (hb hby d7_22) rfl ?_
    exact kt
  obtain ⟨c35, Ar35, S35, M35, H35⟩ := id pf2
  have hj35 : ¬ (0 : Int32) < 0 ∧ ((0 : Int32)).toNatClampNeg < 3 := ⟨by decide, by decide⟩
  have st35 : ∀ target, Steps p.tables e below (T34.setTop (mkF m 24 #[.val (.ref a0), .val (.int (0 : Int32)), .val (.long w1), .second] [(.long (g 0))])) target → Steps p.tables e below (T34.setTop (mkF m 23 #[.val (.ref a0), .val (.int (0 : Int32)), .val (.long w1), .second] [(.int (0 : Int32)), (.ref b1)])) target := fun target kt => X34.laload hx (j := (0 : Int32)) (v := (.long (g 0))) (by rw [e34]; exact Ar35.1) (State.isArrayOf_alike hZ.alike Ar35.2.1) Ar35.2.2 (own_in S35 hj35) (H35 _ hj35.2) (g := (mkF m 23 #[.val (.ref a0), .val (.int (0 : Int32)), .val (.long w1), .second] [(.int (0 : Int32)), (.ref b1)])) rfl rfl (hb hby d7_23) _ kt
  refine own_go (S' := T34.setTop (mkF m 24 #[.val (.ref a0), .val (.int (0 : Int32)), .val (.long w1), .second] [(.long (g 0))])) st35 ?_
  refine own_go (S' := T34.setTop (mkF m 26 #[.val (.ref a0), .val (.int (0 : Int32)), .val (.long w1), .second] [(.long ((g 0) - w1))])) (fun target kt => ?_) ?_
  · skip
    show Steps p.tables e below (T34.setTop (mkF m 24 #[.val (.ref a0), .val (.int (0 : Int32)), .val (.long w1), .second] [(.long (g 0))])) _
    refine XS.lloadN X34.here hx rfl (hb hby d7_24) rfl ?_
    show Steps p.tables e below (T34.setTop (mkF m 25 #[.val (.ref a0), .val (.int (0 : Int32)), .val (.long w1), .second] [(.long w1), (.long (g 0))])) _
    refine XS.lsub X34.here hx rfl (hb hby d7_25) rfl ?_
    exact kt
  obtain ⟨fs, hr, hrun, hended, hW, hsame⟩ := X34.leave (v := some (.long ((g 0) - w1))) (fun h => by rw [Bd.returns] at h; cases h)
  refine ⟨_, _, ?_, hrun, hended, _, _, rfl, ?_, ⟨_, rfl⟩, hW, hsame.mono (by decide) (by decide)⟩
  · exact retL X34 hx Bd.returns (hb hby d7_26) hr
  · show Q7_0 Z a0 w1 b1 g h0 n0 _ T34.heap _
    rw [e34]
    exact ⟨rfl, N0, rfl⟩
set_option maxHeartbeats 40000000 in
theorem own_ef_rm7_1 (m : MethodId) (x0 : Addr) (x1 : Int32) : entryFrame m #[(.ref x0), (.int x1)] 4 = mkF m 0 #[.val (.ref x0), .val (.int x1), .unset, .unset] [] := by first | (simp [entryFrame, mkF, argsToLocals, Value.category]; done) | rfl
def Q7_1 (Z : State) (a0 : Addr) (w1 : Int64) (b1 : Addr) (g : Nat → Int64) (h0 : Heap) (n0 : Nat) (v : Option Value) (h : Heap) (L : List Loc) : Prop := v = some (.long ((g 1) - (g 0))) ∧ Fr n0 L ∧ h = h0
set_option maxRecDepth 65536 in
set_option maxHeartbeats 40000000 in
theorem rm7_1 (l : Launch) (Z : State) (aZ : Array Value) (hw : ∀ d ∈ tables_1, d.before aZ Z = true) (ws : List Jvm.Cond) (a0 : Addr) (w1 : Int64) (b1 : Addr) (g : Nat → Int64) (h0 : Heap) (n0 : Nat) (Z0 : n0 ≤ h0.size) (pf0 : Fld Z h0 a0 "com/example/access_bindings/accessbindings/benchmark/Exchanged" "firstSent" "J" (.long w1)) (pf1 : Fld Z h0 a0 "com/example/access_bindings/accessbindings/benchmark/Exchanged" "answeredAt" "[J" (.ref b1)) (pf2 : own_AJ Z h0 b1 .long 3 g) :
    MetFree l (⟨"com/example/access_bindings/accessbindings/benchmark/Exchanged", "took", "(I)J"⟩ : MethodName) (head1 (Jvm.Cond.code (⟨"com/example/access_bindings/accessbindings/benchmark/Exchanged", "took", "(I)J"⟩ : MethodName) prog_33_method_3_code 4 (some .long) :: ws) ({ frames := 0, cells := 0, slots := 0, locals := 0 } : Room)) (fun a U => a = #[(.ref a0), (.int (1 : Int32))] ∧ Z.Warmed39 U.vm ∧ U.heap = h0) (fun _ _ _ _ _ => True) (fun _ U o U' => ∃ v L, o = .returned v ∧ Q7_1 Z a0 w1 b1 g h0 n0 v U'.heap L ∧ FrameEnd U o U' L ({ frames := 0, cells := 0, slots := 0, locals := 0 } : Room).cells ({ frames := 0, cells := 0, slots := 0, locals := 0 } : Room).slots) := by
  refine MetFree.of_bodySF (plainFor_of_name own_pn4) hisR ?_
  intro p e s m args below meth c s₁ Bd hml0 hP hK
  obtain ⟨rfl, hZ, hh⟩ := hP
  have hx := Bd.exec
  have hby := Bd.bytes
  have hml : c.maxLocals = 4 := hml0
  have hown : s.vm.findClass "com/example/access_bindings/accessbindings/benchmark/Exchanged" = some m.cls := findClass_of_methodNamed Bd.named
  have hnm := (name_of_methodNamed Bd.named Bd.method).1
  have X0 : Stand p l e ({ frames := 0, cells := 0, slots := 0, locals := 0 } : Room) s m #[(.ref a0), (.int (1 : Int32))] below meth c s₁ [] 0 0 := Stand.of_body Bd
  have e0 : s₁.heap = h0 := by rw [← hh, Bd.state]; rfl
  have N0 := Fr.nil n0
  refine own_go (S' := s₁.setTop (mkF m 0 #[.val (.ref a0), .val (.int (1 : Int32)), .unset, .unset] [])) (fun t k => castTop (own_ef_rm7_1 m a0 (1 : Int32)) k) ?_
  refine own_go (S' := s₁.setTop (mkF m 1 #[.val (.ref a0), .val (.int (1 : Int32)), .unset, .unset] [(.ref a0)])) (fun target kt => ?_) ?_
  · skip
    show Steps p.tables e below (s₁.setTop (mkF m 0 #[.val (.ref a0), .val (.int (1 : Int32)), .unset, .unset] [])) _
    refine XS.aloadN X0.here hx rfl (hb hby d7_0) rfl rfl ?_
    exact kt
  obtain ⟨T36, X36, e36, st36⟩ := getF X0 hx hZ hown (host := "") (Or.inl (hw _ (List.mem_of_getElem? (i := 39) rfl))) Via.refl e0 pf0 (g := (mkF m 1 #[.val (.ref a0), .val (.int (1 : Int32)), .unset, .unset] [(.ref a0)])) rfl rfl (hb hby d7_1)
  refine own_go (S' := T36.setTop (mkF m 4 #[.val (.ref a0), .val (.int (1 : Int32)), .unset, .unset] [(.long w1)])) st36 ?_
  refine own_go (S' := T36.setTop (mkF m 10 #[.val (.ref a0), .val (.int (1 : Int32)), .val (.long w1), .second] [(.ref a0)])) (fun target kt => ?_) ?_
  · skip
    show Steps p.tables e below (T36.setTop (mkF m 4 #[.val (.ref a0), .val (.int (1 : Int32)), .unset, .unset] [(.long w1)])) _
    refine XS.lstoreN X36.here hx rfl (hb hby d7_4) rfl (l' := #[.val (.ref a0), .val (.int (1 : Int32)), .val (.long w1), .second]) rfl ?_
    show Steps p.tables e below (T36.setTop (mkF m 5 #[.val (.ref a0), .val (.int (1 : Int32)), .val (.long w1), .second] [])) _
    refine XS.iloadN X36.here hx rfl (hb hby d7_5) rfl ?_
    show Steps p.tables e below (T36.setTop (mkF m 6 #[.val (.ref a0), .val (.int (1 : Int32)), .val (.long w1), .second] [(.int (1 : Int32))])) _
    refine XS.ifNo X36.here hx rfl (hb hby d7_6) rfl ((if0 _ _).trans (tlt (by decide : (0 : Int32) < (1 : Int32))).2.2.2) ?_
    show Steps p.tables e below (T36.setTop (mkF m 9 #[.val (.ref a0), .val (.int (1 : Int32)), .val (.long w1), .second] [])) _
    refine XS.aloadN X36.here hx rfl (hb hby d7_9) rfl rfl ?_
    exact kt
  obtain ⟨T37, X37, e37, st37⟩ := getF X36 hx hZ hown (host := "") (Or.inl (hw _ (List.mem_of_getElem? (i := 41) rfl))) Via.refl e36 pf1 (g := (mkF m 10 #[.val (.ref a0), .val (.int (1 : Int32)), .val (.long w1), .second] [(.ref a0)])) rfl rfl (hb hby d7_10)
  refine own_go (S' := T37.setTop (mkF m 13 #[.val (.ref a0), .val (.int (1 : Int32)), .val (.long w1), .second] [(.ref b1)])) st37 ?_
  refine own_go (S' := T37.setTop (mkF m 16 #[.val (.ref a0), .val (.int (1 : Int32)), .val (.long w1), .second] [(.int (0 : Int32)), (.ref b1)])) (fun target kt => ?_) ?_
  · skip
    show Steps p.tables e below (T37.setTop (mkF m 13 #[.val (.ref a0), .val (.int (1 : Int32)), .val (.long w1), .second] [(.ref b1)])) _
    refine XS.iloadN X37.here hx rfl (hb hby d7_13) rfl ?_
    show Steps p.tables e below (T37.setTop (mkF m 14 #[.val (.ref a0), .val (.int (1 : Int32)), .val (.long w1), .second] [(.int (1 : Int32)), (.ref b1)])) _
    refine XS.iconst X37.here hx rfl (hb hby d7_14) ?_
    show Steps p.tables e below (T37.setTop (mkF m 15 #[.val (.ref a0), .val (.int (1 : Int32)), .val (.long w1), .second] [(.int (1 : Int32)), (.int (1 : Int32)), (.ref b1)])) _
    refine XS.isub X37.here hx rfl (hb hby d7_15) rfl ?_
    rw [show ((1 : Int32) - (1 : Int32)) = (0 : Int32) from by decide]
    exact kt
  obtain ⟨c38, Ar38, S38, M38, H38⟩ := id pf2
  have hj38 : ¬ (0 : Int32) < 0 ∧ ((0 : Int32)).toNatClampNeg < 3 := ⟨by decide, by decide⟩
  have st38 : ∀ target, Steps p.tables e below (T37.setTop (mkF m 17 #[.val (.ref a0), .val (.int (1 : Int32)), .val (.long w1), .second] [(.long (g 0))])) target → Steps p.tables e below (T37.setTop (mkF m 16 #[.val (.ref a0), .val (.int (1 : Int32)), .val (.long w1), .second] [(.int (0 : Int32)), (.ref b1)])) target := fun target kt => X37.laload hx (j := (0 : Int32)) (v := (.long (g 0))) (by rw [e37]; exact Ar38.1) (State.isArrayOf_alike hZ.alike Ar38.2.1) Ar38.2.2 (own_in S38 hj38) (H38 _ hj38.2) (g := (mkF m 16 #[.val (.ref a0), .val (.int (1 : Int32)), .val (.long w1), .second] [(.int (0 : Int32)), (.ref b1)])) rfl rfl (hb hby d7_16) _ kt
  refine own_go (S' := T37.setTop (mkF m 17 #[.val (.ref a0), .val (.int (1 : Int32)), .val (.long w1), .second] [(.long (g 0))])) st38 ?_
  refine own_go (S' := T37.setTop (mkF m 19 #[.val (.ref a0), .val (.int (1 : Int32)), .val (.long (g 0)), .second] [(.ref a0)])) (fun target kt => ?_) ?_
  · skip
    show Steps p.tables e below (T37.setTop (mkF m 17 #[.val (.ref a0), .val (.int (1 : Int32)), .val (.long w1), .second] [(.long (g 0))])) _
    refine XS.lstoreN X37.here hx rfl (hb hby d7_17) rfl (l' := #[.val (.ref a0), .val (.int (1 : Int32)), .val (.long (g 0)), .second]) rfl ?_
    show Steps p.tables e below (T37.setTop (mkF m 18 #[.val (.ref a0), .val (.int (1 : Int32)), .val (.long (g 0)), .second] [])) _
    refine XS.aloadN X37.here hx rfl (hb hby d7_18) rfl rfl ?_
    exact kt
  obtain ⟨T39, X39, e39, st39⟩ := getF X37 hx hZ hown (host := "") (Or.inl (hw _ (List.mem_of_getElem? (i := 41) rfl))) Via.refl e37 pf1 (g := (mkF m 19 #[.val (.ref a0), .val (.int (1 : Int32)), .val (.long (g 0)), .second] [(.ref a0)])) rfl rfl (hb hby d7_19)
  refine own_go (S' := T39.setTop (mkF m 22 #[.val (.ref a0), .val (.int (1 : Int32)), .val (.long (g 0)), .second] [(.ref b1)])) st39 ?_
  refine own_go (S' := T39.setTop (mkF m 23 #[.val (.ref a0), .val (.int (1 : Int32)), .val (.long (g 0)), .second] [(.int (1 : Int32)), (.ref b1)])) (fun target kt => ?_) ?_
  · skip
    show Steps p.tables e below (T39.setTop (mkF m 22 #[.val (.ref a0), .val (.int (1 : Int32)), .val (.long (g 0)), .second] [(.ref b1)])) _
    refine XS.iloadN X39.here hx rfl (hb hby d7_22) rfl ?_
    exact kt
  obtain ⟨c40, Ar40, S40, M40, H40⟩ := id pf2
  have hj40 : ¬ (1 : Int32) < 0 ∧ ((1 : Int32)).toNatClampNeg < 3 := ⟨by decide, by decide⟩
  have st40 : ∀ target, Steps p.tables e below (T39.setTop (mkF m 24 #[.val (.ref a0), .val (.int (1 : Int32)), .val (.long (g 0)), .second] [(.long (g 1))])) target → Steps p.tables e below (T39.setTop (mkF m 23 #[.val (.ref a0), .val (.int (1 : Int32)), .val (.long (g 0)), .second] [(.int (1 : Int32)), (.ref b1)])) target := fun target kt => X39.laload hx (j := (1 : Int32)) (v := (.long (g 1))) (by rw [e39]; exact Ar40.1) (State.isArrayOf_alike hZ.alike Ar40.2.1) Ar40.2.2 (own_in S40 hj40) (H40 _ hj40.2) (g := (mkF m 23 #[.val (.ref a0), .val (.int (1 : Int32)), .val (.long (g 0)), .second] [(.int (1 : Int32)), (.ref b1)])) rfl rfl (hb hby d7_23) _ kt
  refine own_go (S' := T39.setTop (mkF m 24 #[.val (.ref a0), .val (.int (1 : Int32)), .val (.long (g 0)), .second] [(.long (g 1))])) st40 ?_
  refine own_go (S' := T39.setTop (mkF m 26 #[.val (.ref a0), .val (.int (1 : Int32)), .val (.long (g 0)), .second] [(.long ((g 1) - (g 0)))])) (fun target kt => ?_) ?_
  · skip
    show Steps p.tables e below (T39.setTop (mkF m 24 #[.val (.ref a0), .val (.int (1 : Int32)), .val (.long (g 0)), .second] [(.long (g 1))])) _
    refine XS.lloadN X39.here hx rfl (hb hby d7_24) rfl ?_
    show Steps p.tables e below (T39.setTop (mkF m 25 #[.val (.ref a0), .val (.int (1 : Int32)), .val (.long (g 0)), .second] [(.long (g 0)), (.long (g 1))])) _
    refine XS.lsub X39.here hx rfl (hb hby d7_25) rfl ?_
    exact kt
  obtain ⟨fs, hr, hrun, hended, hW, hsame⟩ := X39.leave (v := some (.long ((g 1) - (g 0)))) (fun h => by rw [Bd.returns] at h; cases h)
  refine ⟨_, _, ?_, hrun, hended, _, _, rfl, ?_, ⟨_, rfl⟩, hW, hsame.mono (by decide) (by decide)⟩
  · exact retL X39 hx Bd.returns (hb hby d7_26) hr
  · show Q7_1 Z a0 w1 b1 g h0 n0 _ T39.heap _
    rw [e39]
    exact ⟨rfl, N0, rfl⟩
set_option maxHeartbeats 40000000 in
theorem own_ef_rm7_2 (m : MethodId) (x0 : Addr) (x1 : Int32) : entryFrame m #[(.ref x0), (.int x1)] 4 = mkF m 0 #[.val (.ref x0), .val (.int x1), .unset, .unset] [] := by first | (simp [entryFrame, mkF, argsToLocals, Value.category]; done) | rfl
def Q7_2 (Z : State) (a0 : Addr) (w1 : Int64) (b1 : Addr) (g : Nat → Int64) (h0 : Heap) (n0 : Nat) (v : Option Value) (h : Heap) (L : List Loc) : Prop := v = some (.long ((g 2) - (g 1))) ∧ Fr n0 L ∧ h = h0
set_option maxRecDepth 65536 in
set_option maxHeartbeats 40000000 in
theorem rm7_2 (l : Launch) (Z : State) (aZ : Array Value) (hw : ∀ d ∈ tables_1, d.before aZ Z = true) (ws : List Jvm.Cond) (a0 : Addr) (w1 : Int64) (b1 : Addr) (g : Nat → Int64) (h0 : Heap) (n0 : Nat) (Z0 : n0 ≤ h0.size) (pf0 : Fld Z h0 a0 "com/example/access_bindings/accessbindings/benchmark/Exchanged" "firstSent" "J" (.long w1)) (pf1 : Fld Z h0 a0 "com/example/access_bindings/accessbindings/benchmark/Exchanged" "answeredAt" "[J" (.ref b1)) (pf2 : own_AJ Z h0 b1 .long 3 g) :
    MetFree l (⟨"com/example/access_bindings/accessbindings/benchmark/Exchanged", "took", "(I)J"⟩ : MethodName) (head1 (Jvm.Cond.code (⟨"com/example/access_bindings/accessbindings/benchmark/Exchanged", "took", "(I)J"⟩ : MethodName) prog_33_method_3_code 4 (some .long) :: ws) ({ frames := 0, cells := 0, slots := 0, locals := 0 } : Room)) (fun a U => a = #[(.ref a0), (.int (2 : Int32))] ∧ Z.Warmed39 U.vm ∧ U.heap = h0) (fun _ _ _ _ _ => True) (fun _ U o U' => ∃ v L, o = .returned v ∧ Q7_2 Z a0 w1 b1 g h0 n0 v U'.heap L ∧ FrameEnd U o U' L ({ frames := 0, cells := 0, slots := 0, locals := 0 } : Room).cells ({ frames := 0, cells := 0, slots := 0, locals := 0 } : Room).slots) := by
  refine MetFree.of_bodySF (plainFor_of_name own_pn4) hisR ?_
  intro p e s m args below meth c s₁ Bd hml0 hP hK
  obtain ⟨rfl, hZ, hh⟩ := hP
  have hx := Bd.exec
  have hby := Bd.bytes
  have hml : c.maxLocals = 4 := hml0
  have hown : s.vm.findClass "com/example/access_bindings/accessbindings/benchmark/Exchanged" = some m.cls := findClass_of_methodNamed Bd.named
  have hnm := (name_of_methodNamed Bd.named Bd.method).1
  have X0 : Stand p l e ({ frames := 0, cells := 0, slots := 0, locals := 0 } : Room) s m #[(.ref a0), (.int (2 : Int32))] below meth c s₁ [] 0 0 := Stand.of_body Bd
  have e0 : s₁.heap = h0 := by rw [← hh, Bd.state]; rfl
  have N0 := Fr.nil n0
  refine own_go (S' := s₁.setTop (mkF m 0 #[.val (.ref a0), .val (.int (2 : Int32)), .unset, .unset] [])) (fun t k => castTop (own_ef_rm7_2 m a0 (2 : Int32)) k) ?_
  refine own_go (S' := s₁.setTop (mkF m 1 #[.val (.ref a0), .val (.int (2 : Int32)), .unset, .unset] [(.ref a0)])) (fun target kt => ?_) ?_
  · skip
    show Steps p.tables e below (s₁.setTop (mkF m 0 #[.val (.ref a0), .val (.int (2 : Int32)), .unset, .unset] [])) _
    refine XS.aloadN X0.here hx rfl (hb hby d7_0) rfl rfl ?_
    exact kt
  obtain ⟨T41, X41, e41, st41⟩ := getF X0 hx hZ hown (host := "") (Or.inl (hw _ (List.mem_of_getElem? (i := 39) rfl))) Via.refl e0 pf0 (g := (mkF m 1 #[.val (.ref a0), .val (.int (2 : Int32)), .unset, .unset] [(.ref a0)])) rfl rfl (hb hby d7_1)
  refine own_go (S' := T41.setTop (mkF m 4 #[.val (.ref a0), .val (.int (2 : Int32)), .unset, .unset] [(.long w1)])) st41 ?_
  refine own_go (S' := T41.setTop (mkF m 10 #[.val (.ref a0), .val (.int (2 : Int32)), .val (.long w1), .second] [(.ref a0)])) (fun target kt => ?_) ?_
  · skip
    show Steps p.tables e below (T41.setTop (mkF m 4 #[.val (.ref a0), .val (.int (2 : Int32)), .unset, .unset] [(.long w1)])) _
    refine XS.lstoreN X41.here hx rfl (hb hby d7_4) rfl (l' := #[.val (.ref a0), .val (.int (2 : Int32)), .val (.long w1), .second]) rfl ?_
    show Steps p.tables e below (T41.setTop (mkF m 5 #[.val (.ref a0), .val (.int (2 : Int32)), .val (.long w1), .second] [])) _
    refine XS.iloadN X41.here hx rfl (hb hby d7_5) rfl ?_
    show Steps p.tables e below (T41.setTop (mkF m 6 #[.val (.ref a0), .val (.int (2 : Int32)), .val (.long w1), .second] [(.int (2 : Int32))])) _
    refine XS.ifNo X41.here hx rfl (hb hby d7_6) rfl ((if0 _ _).trans (tlt (by decide : (0 : Int32) < (2 : Int32))).2.2.2) ?_
    show Steps p.tables e below (T41.setTop (mkF m 9 #[.val (.ref a0), .val (.int (2 : Int32)), .val (.long w1), .second] [])) _
    refine XS.aloadN X41.here hx rfl (hb hby d7_9) rfl rfl ?_
    exact kt
  obtain ⟨T42, X42, e42, st42⟩ := getF X41 hx hZ hown (host := "") (Or.inl (hw _ (List.mem_of_getElem? (i := 41) rfl))) Via.refl e41 pf1 (g := (mkF m 10 #[.val (.ref a0), .val (.int (2 : Int32)), .val (.long w1), .second] [(.ref a0)])) rfl rfl (hb hby d7_10)
  refine own_go (S' := T42.setTop (mkF m 13 #[.val (.ref a0), .val (.int (2 : Int32)), .val (.long w1), .second] [(.ref b1)])) st42 ?_
  refine own_go (S' := T42.setTop (mkF m 16 #[.val (.ref a0), .val (.int (2 : Int32)), .val (.long w1), .second] [(.int (1 : Int32)), (.ref b1)])) (fun target kt => ?_) ?_
  · skip
    show Steps p.tables e below (T42.setTop (mkF m 13 #[.val (.ref a0), .val (.int (2 : Int32)), .val (.long w1), .second] [(.ref b1)])) _
    refine XS.iloadN X42.here hx rfl (hb hby d7_13) rfl ?_
    show Steps p.tables e below (T42.setTop (mkF m 14 #[.val (.ref a0), .val (.int (2 : Int32)), .val (.long w1), .second] [(.int (2 : Int32)), (.ref b1)])) _
    refine XS.iconst X42.here hx rfl (hb hby d7_14) ?_
    show Steps p.tables e below (T42.setTop (mkF m 15 #[.val (.ref a0), .val (.int (2 : Int32)), .val (.long w1), .second] [(.int (1 : Int32)), (.int (2 : Int32)), (.ref b1)])) _
    refine XS.isub X42.here hx rfl (hb hby d7_15) rfl ?_
    rw [show ((2 : Int32) - (1 : Int32)) = (1 : Int32) from by decide]
    exact kt
  obtain ⟨c43, Ar43, S43, M43, H43⟩ := id pf2
  have hj43 : ¬ (1 : Int32) < 0 ∧ ((1 : Int32)).toNatClampNeg < 3 := ⟨by decide, by decide⟩
  have st43 : ∀ target, Steps p.tables e below (T42.setTop (mkF m 17 #[.val (.ref a0), .val (.int (2 : Int32)), .val (.long w1), .second] [(.long (g 1))])) target → Steps p.tables e below (T42.setTop (mkF m 16 #[.val (.ref a0), .val (.int (2 : Int32)), .val (.long w1), .second] [(.int (1 : Int32)), (.ref b1)])) target := fun target kt => X42.laload hx (j := (1 : Int32)) (v := (.long (g 1))) (by rw [e42]; exact Ar43.1) (State.isArrayOf_alike hZ.alike Ar43.2.1) Ar43.2.2 (own_in S43 hj43) (H43 _ hj43.2) (g := (mkF m 16 #[.val (.ref a0), .val (.int (2 : Int32)), .val (.long w1), .second] [(.int (1 : Int32)), (.ref b1)])) rfl rfl (hb hby d7_16) _ kt
  refine own_go (S' := T42.setTop (mkF m 17 #[.val (.ref a0), .val (.int (2 : Int32)), .val (.long w1), .second] [(.long (g 1))])) st43 ?_
  refine own_go (S' := T42.setTop (mkF m 19 #[.val (.ref a0), .val (.int (2 : Int32)), .val (.long (g 1)), .second] [(.ref a0)])) (fun target kt => ?_) ?_
  · skip
    show Steps p.tables e below (T42.setTop (mkF m 17 #[.val (.ref a0), .val (.int (2 : Int32)), .val (.long w1), .second] [(.long (g 1))])) _
    refine XS.lstoreN X42.here hx rfl (hb hby d7_17) rfl (l' := #[.val (.ref a0), .val (.int (2 : Int32)), .val (.long (g 1)), .second]) rfl ?_
    show Steps p.tables e below (T42.setTop (mkF m 18 #[.val (.ref a0), .val (.int (2 : Int32)), .val (.long (g 1)), .second] [])) _
    refine XS.aloadN X42.here hx rfl (hb hby d7_18) rfl rfl ?_
    exact kt
  obtain ⟨T44, X44, e44, st44⟩ := getF X42 hx hZ hown (host := "") (Or.inl (hw _ (List.mem_of_getElem? (i := 41) rfl))) Via.refl e42 pf1 (g := (mkF m 19 #[.val (.ref a0), .val (.int (2 : Int32)), .val (.long (g 1)), .second] [(.ref a0)])) rfl rfl (hb hby d7_19)
  refine own_go (S' := T44.setTop (mkF m 22 #[.val (.ref a0), .val (.int (2 : Int32)), .val (.long (g 1)), .second] [(.ref b1)])) st44 ?_
  refine own_go (S' := T44.setTop (mkF m 23 #[.val (.ref a0), .val (.int (2 : Int32)), .val (.long (g 1)), .second] [(.int (2 : Int32)), (.ref b1)])) (fun target kt => ?_) ?_
  · skip
    show Steps p.tables e below (T44.setTop (mkF m 22 #[.val (.ref a0), .val (.int (2 : Int32)), .val (.long (g 1)), .second] [(.ref b1)])) _
    refine XS.iloadN X44.here hx rfl (hb hby d7_22) rfl ?_
    exact kt
  obtain ⟨c45, Ar45, S45, M45, H45⟩ := id pf2
  have hj45 : ¬ (2 : Int32) < 0 ∧ ((2 : Int32)).toNatClampNeg < 3 := ⟨by decide, by decide⟩
  have st45 : ∀ target, Steps p.tables e below (T44.setTop (mkF m 24 #[.val (.ref a0), .val (.int (2 : Int32)), .val (.long (g 1)), .second] [(.long (g 2))])) target → Steps p.tables e below (T44.setTop (mkF m 23 #[.val (.ref a0), .val (.int (2 : Int32)), .val (.long (g 1)), .second] [(.int (2 : Int32)), (.ref b1)])) target := fun target kt => X44.laload hx (j := (2 : Int32)) (v := (.long (g 2))) (by rw [e44]; exact Ar45.1) (State.isArrayOf_alike hZ.alike Ar45.2.1) Ar45.2.2 (own_in S45 hj45) (H45 _ hj45.2) (g := (mkF m 23 #[.val (.ref a0), .val (.int (2 : Int32)), .val (.long (g 1)), .second] [(.int (2 : Int32)), (.ref b1)])) rfl rfl (hb hby d7_23) _ kt
  refine own_go (S' := T44.setTop (mkF m 24 #[.val (.ref a0), .val (.int (2 : Int32)), .val (.long (g 1)), .second] [(.long (g 2))])) st45 ?_
  refine own_go (S' := T44.setTop (mkF m 26 #[.val (.ref a0), .val (.int (2 : Int32)), .val (.long (g 1)), .second] [(.long ((g 2) - (g 1)))])) (fun target kt => ?_) ?_
  · skip
    show Steps p.tables e below (T44.setTop (mkF m 24 #[.val (.ref a0), .val (.int (2 : Int32)), .val (.long (g 1)), .second] [(.long (g 2))])) _
    refine XS.lloadN X44.here hx rfl (hb hby d7_24) rfl ?_
    show Steps p.tables e below (T44.setTop (mkF m 25 #[.val (.ref a0), .val (.int (2 : Int32)), .val (.long (g 1)), .second] [(.long (g 1)), (.long (g 2))])) _
    refine XS.lsub X44.here hx rfl (hb hby d7_25) rfl ?_
    exact kt
  obtain ⟨fs, hr, hrun, hended, hW, hsame⟩ := X44.leave (v := some (.long ((g 2) - (g 1)))) (fun h => by rw [Bd.returns] at h; cases h)
  refine ⟨_, _, ?_, hrun, hended, _, _, rfl, ?_, ⟨_, rfl⟩, hW, hsame.mono (by decide) (by decide)⟩
  · exact retL X44 hx Bd.returns (hb hby d7_26) hr
  · show Q7_2 Z a0 w1 b1 g h0 n0 _ T44.heap _
    rw [e44]
    exact ⟨rfl, N0, rfl⟩
theorem own_l1 (a b f : Int64) : (a - f) + (b - a) = b - f := by grind
theorem own_pd1 : parseMethodDescriptor "(J[JLjava/util/List;)V" = some ⟨[.long, (.array .long), (.object "java/util/List")], none⟩ := by decide +kernel
theorem own_pd2 : parseMethodDescriptor "(I)J" = some ⟨[.int], some .long⟩ := by decide +kernel
theorem own_pn5 : plainName "com/example/access_bindings/accessbindings/benchmark/ExchangedTookPinLaw" = true := by first | (simp [plainName, overriddenIn]; done) | decide +kernel
set_option maxHeartbeats 40000000 in
theorem own_ef_rm0 (m : MethodId) (x0 : Int64) (x1 : Int64) (x2 : Int64) (x3 : Int64) : entryFrame m #[(.long x0), (.long x1), (.long x2), (.long x3)] maxLocals = mkF m 0 #[.val (.long x0), .second, .val (.long x1), .second, .val (.long x2), .second, .val (.long x3), .second, .unset, .unset, .unset, .unset, .unset, .unset, .unset, .unset, .unset] [] := by first | (simp [entryFrame, mkF, argsToLocals, Value.category, maxLocals]; done) | rfl
def Q0 (Z : State) (q0 : Int64) (q1 : Int64) (q2 : Int64) (q3 : Int64) (dz : Addr) (h0 : Heap) (n0 : Nat) (v : Option Value) (h : Heap) (L : List Loc) : Prop := v = some (.int 1) ∧ Fr n0 L
set_option maxRecDepth 65536 in
set_option maxHeartbeats 40000000 in
theorem rm0 (l : Launch) (Z : State) (aZ : Array Value) (hw : ∀ d ∈ tables_1, d.before aZ Z = true) (ws : List Jvm.Cond) (q0 : Int64) (q1 : Int64) (q2 : Int64) (q3 : Int64) (dz : Addr) (h0 : Heap) (n0 : Nat) (Z0 : n0 ≤ h0.size) (pf0 : Sta Z h0 "java/util/ArrayList" "DEFAULTCAPACITY_EMPTY_ELEMENTDATA" "[Ljava/lang/Object;" (.ref dz)) :
    MetFree l x (head1 (Jvm.Cond.code x code maxLocals ret :: ws) room_1) (fun a U => a = #[(.long q0), (.long q1), (.long q2), (.long q3)] ∧ Z.Warmed39 U.vm ∧ U.heap = h0) (fun _ _ _ _ _ => True) (fun _ U o U' => ∃ v L, o = .returned v ∧ Q0 Z q0 q1 q2 q3 dz h0 n0 v U'.heap L ∧ FrameEnd U o U' L room_1.cells room_1.slots) := by
  refine MetFree.of_bodySF (plainFor_of_name own_pn5) hisR ?_
  intro p e s m args below meth c s₁ Bd hml0 hP hK
  obtain ⟨rfl, hZ, hh⟩ := hP
  have hx := Bd.exec
  have hby := Bd.bytes
  have hml : c.maxLocals = 17 := hml0
  have hown : s.vm.findClass "com/example/access_bindings/accessbindings/benchmark/ExchangedTookPinLaw" = some m.cls := findClass_of_methodNamed Bd.named
  have hnm := (name_of_methodNamed Bd.named Bd.method).1
  have X0 : Stand p l e room_1 s m #[(.long q0), (.long q1), (.long q2), (.long q3)] below meth c s₁ [] 0 0 := Stand.of_body Bd
  have e0 : s₁.heap = h0 := by rw [← hh, Bd.state]; rfl
  have N0 := Fr.nil n0
  refine own_go (S' := s₁.setTop (mkF m 0 #[.val (.long q0), .second, .val (.long q1), .second, .val (.long q2), .second, .val (.long q3), .second, .unset, .unset, .unset, .unset, .unset, .unset, .unset, .unset, .unset] [])) (fun t k => castTop (own_ef_rm0 m q0 q1 q2 q3) k) ?_
  refine own_go (S' := s₁.setTop (mkF m 1 #[.val (.long q0), .second, .val (.long q1), .second, .val (.long q2), .second, .val (.long q3), .second, .unset, .unset, .unset, .unset, .unset, .unset, .unset, .unset, .unset] [(.int (3 : Int32))])) (fun target kt => ?_) ?_
  · skip
    show Steps p.tables e below (s₁.setTop (mkF m 0 #[.val (.long q0), .second, .val (.long q1), .second, .val (.long q2), .second, .val (.long q3), .second, .unset, .unset, .unset, .unset, .unset, .unset, .unset, .unset, .unset] [])) _
    refine XS.iconst X0.here hx rfl (hb hby at_0) ?_
    exact kt
  obtain ⟨T46, h46, k46, X46, e46, E46, A46, B46, st46⟩ := newPE X0 hx hZ (hw _ (List.mem_of_getElem? (i := 0) rfl)) e0 (g := (mkF m 1 #[.val (.long q0), .second, .val (.long q1), .second, .val (.long q2), .second, .val (.long q3), .second, .unset, .unset, .unset, .unset, .unset, .unset, .unset, .unset, .unset] [(.int (3 : Int32))])) rfl (hb hby at_1) rfl (by decide) (cap := 3) (by decide) (by decide) (by decide) (by decide) (ad := "[J") (by decide)
  obtain ⟨b46, g46⟩ : ∃ z, z = h0.size := ⟨_, rfl⟩
  rw [← g46] at A46 B46 st46
  have f47 : Sta Z h46 "java/util/ArrayList" "DEFAULTCAPACITY_EMPTY_ELEMENTDATA" "[Ljava/lang/Object;" (.ref dz) := pf0.ext E46
  have g_b46 : n0 ≤ b46 := Nat.le_trans Z0 (Nat.le_of_eq g46.symm)
  have Z46 : n0 ≤ h46.size := Nat.le_trans Z0 E46.1
  have f48 : own_AJ Z h46 b46 .long 3 (fun _ => 0) := own_AJ.fresh A46 rfl
  refine own_go (S' := T46.setTop (mkF m 3 #[.val (.long q0), .second, .val (.long q1), .second, .val (.long q2), .second, .val (.long q3), .second, .unset, .unset, .unset, .unset, .unset, .unset, .unset, .unset, .unset] [(.ref b46)])) st46 ?_
  refine own_go (S' := T46.setTop (mkF m 6 #[.val (.long q0), .second, .val (.long q1), .second, .val (.long q2), .second, .val (.long q3), .second, .unset, .unset, .unset, .unset, .unset, .unset, .unset, .unset, .unset] [(.long q1), (.int (0 : Int32)), (.ref b46), (.ref b46)])) (fun target kt => ?_) ?_
  · skip
    show Steps p.tables e below (T46.setTop (mkF m 3 #[.val (.long q0), .second, .val (.long q1), .second, .val (.long q2), .second, .val (.long q3), .second, .unset, .unset, .unset, .unset, .unset, .unset, .unset, .unset, .unset] [(.ref b46)])) _
    refine XS.dup X46.here hx rfl (hb hby at_3) rfl rfl ?_
    show Steps p.tables e below (T46.setTop (mkF m 4 #[.val (.long q0), .second, .val (.long q1), .second, .val (.long q2), .second, .val (.long q3), .second, .unset, .unset, .unset, .unset, .unset, .unset, .unset, .unset, .unset] [(.ref b46), (.ref b46)])) _
    refine XS.iconst X46.here hx rfl (hb hby at_4) ?_
    show Steps p.tables e below (T46.setTop (mkF m 5 #[.val (.long q0), .second, .val (.long q1), .second, .val (.long q2), .second, .val (.long q3), .second, .unset, .unset, .unset, .unset, .unset, .unset, .unset, .unset, .unset] [(.int (0 : Int32)), (.ref b46), (.ref b46)])) _
    refine XS.lloadN X46.here hx rfl (hb hby at_5) rfl ?_
    exact kt
  obtain ⟨c49, Ar49, S49, M49, H49⟩ := id f48
  have hin49 : ¬ ((0 : Int32) < 0 ∨ c49.slots.size ≤ ((0 : Int32)).toNatClampNeg) := own_in S49 ⟨by decide, by decide⟩
  obtain ⟨T50, h50, X50, e50, W50, st50⟩ := stJ X46 hx hZ e46 Ar49 (j := (0 : Int32)) hin49 (g := (mkF m 6 #[.val (.long q0), .second, .val (.long q1), .second, .val (.long q2), .second, .val (.long q3), .second, .unset, .unset, .unset, .unset, .unset, .unset, .unset, .unset, .unset] [(.long q1), (.int (0 : Int32)), (.ref b46), (.ref b46)])) rfl rfl (hb hby at_6)
  have f52 : Sta Z h50 "java/util/ArrayList" "DEFAULTCAPACITY_EMPTY_ELEMENTDATA" "[Ljava/lang/Object;" (.ref dz) := f47.wr W50
  have f53 : Exa Z h50 b46 "[J" := B46.wr W50
  have f51 : own_AJ Z h50 b46 .long 3 (own_upd (fun _ => 0) 0 q1) := own_AJ.set Ar49 S49 M49 H49 W50
  have Z50 : n0 ≤ h50.size := Nat.le_trans Z46 (Keep.of_wr W50).1
  have N50 := Fr.snoc X50 N0 g_b46
  refine own_go (S' := T50.setTop (mkF m 7 #[.val (.long q0), .second, .val (.long q1), .second, .val (.long q2), .second, .val (.long q3), .second, .unset, .unset, .unset, .unset, .unset, .unset, .unset, .unset, .unset] [(.ref b46)])) st50 ?_
  refine own_go (S' := T50.setTop (mkF m 11 #[.val (.long q0), .second, .val (.long q1), .second, .val (.long q2), .second, .val (.long q3), .second, .unset, .unset, .unset, .unset, .unset, .unset, .unset, .unset, .unset] [(.long q2), (.int (1 : Int32)), (.ref b46), (.ref b46)])) (fun target kt => ?_) ?_
  · skip
    show Steps p.tables e below (T50.setTop (mkF m 7 #[.val (.long q0), .second, .val (.long q1), .second, .val (.long q2), .second, .val (.long q3), .second, .unset, .unset, .unset, .unset, .unset, .unset, .unset, .unset, .unset] [(.ref b46)])) _
    refine XS.dup X50.here hx rfl (hb hby at_7) rfl rfl ?_
    show Steps p.tables e below (T50.setTop (mkF m 8 #[.val (.long q0), .second, .val (.long q1), .second, .val (.long q2), .second, .val (.long q3), .second, .unset, .unset, .unset, .unset, .unset, .unset, .unset, .unset, .unset] [(.ref b46), (.ref b46)])) _
    refine XS.iconst X50.here hx rfl (hb hby at_8) ?_
    show Steps p.tables e below (T50.setTop (mkF m 9 #[.val (.long q0), .second, .val (.long q1), .second, .val (.long q2), .second, .val (.long q3), .second, .unset, .unset, .unset, .unset, .unset, .unset, .unset, .unset, .unset] [(.int (1 : Int32)), (.ref b46), (.ref b46)])) _
    refine XS.lload X50.here hx rfl (hb hby at_9) rfl ?_
    exact kt
  obtain ⟨c54, Ar54, S54, M54, H54⟩ := id f51
  have hin54 : ¬ ((1 : Int32) < 0 ∨ c54.slots.size ≤ ((1 : Int32)).toNatClampNeg) := own_in S54 ⟨by decide, by decide⟩
  obtain ⟨T55, h55, X55, e55, W55, st55⟩ := stJ X50 hx hZ e50 Ar54 (j := (1 : Int32)) hin54 (g := (mkF m 11 #[.val (.long q0), .second, .val (.long q1), .second, .val (.long q2), .second, .val (.long q3), .second, .unset, .unset, .unset, .unset, .unset, .unset, .unset, .unset, .unset] [(.long q2), (.int (1 : Int32)), (.ref b46), (.ref b46)])) rfl rfl (hb hby at_11)
  have f57 : Sta Z h55 "java/util/ArrayList" "DEFAULTCAPACITY_EMPTY_ELEMENTDATA" "[Ljava/lang/Object;" (.ref dz) := f52.wr W55
  have f58 : Exa Z h55 b46 "[J" := f53.wr W55
  have f56 : own_AJ Z h55 b46 .long 3 (own_upd (own_upd (fun _ => 0) 0 q1) 1 q2) := own_AJ.set Ar54 S54 M54 H54 W55
  have Z55 : n0 ≤ h55.size := Nat.le_trans Z50 (Keep.of_wr W55).1
  have N55 := Fr.snoc X55 N50 g_b46
  refine own_go (S' := T55.setTop (mkF m 12 #[.val (.long q0), .second, .val (.long q1), .second, .val (.long q2), .second, .val (.long q3), .second, .unset, .unset, .unset, .unset, .unset, .unset, .unset, .unset, .unset] [(.ref b46)])) st55 ?_
  refine own_go (S' := T55.setTop (mkF m 16 #[.val (.long q0), .second, .val (.long q1), .second, .val (.long q2), .second, .val (.long q3), .second, .unset, .unset, .unset, .unset, .unset, .unset, .unset, .unset, .unset] [(.long q3), (.int (2 : Int32)), (.ref b46), (.ref b46)])) (fun target kt => ?_) ?_
  · skip
    show Steps p.tables e below (T55.setTop (mkF m 12 #[.val (.long q0), .second, .val (.long q1), .second, .val (.long q2), .second, .val (.long q3), .second, .unset, .unset, .unset, .unset, .unset, .unset, .unset, .unset, .unset] [(.ref b46)])) _
    refine XS.dup X55.here hx rfl (hb hby at_12) rfl rfl ?_
    show Steps p.tables e below (T55.setTop (mkF m 13 #[.val (.long q0), .second, .val (.long q1), .second, .val (.long q2), .second, .val (.long q3), .second, .unset, .unset, .unset, .unset, .unset, .unset, .unset, .unset, .unset] [(.ref b46), (.ref b46)])) _
    refine XS.iconst X55.here hx rfl (hb hby at_13) ?_
    show Steps p.tables e below (T55.setTop (mkF m 14 #[.val (.long q0), .second, .val (.long q1), .second, .val (.long q2), .second, .val (.long q3), .second, .unset, .unset, .unset, .unset, .unset, .unset, .unset, .unset, .unset] [(.int (2 : Int32)), (.ref b46), (.ref b46)])) _
    refine XS.lload X55.here hx rfl (hb hby at_14) rfl ?_
    exact kt
  obtain ⟨c59, Ar59, S59, M59, H59⟩ := id f56
  have hin59 : ¬ ((2 : Int32) < 0 ∨ c59.slots.size ≤ ((2 : Int32)).toNatClampNeg) := own_in S59 ⟨by decide, by decide⟩
  obtain ⟨T60, h60, X60, e60, W60, st60⟩ := stJ X55 hx hZ e55 Ar59 (j := (2 : Int32)) hin59 (g := (mkF m 16 #[.val (.long q0), .second, .val (.long q1), .second, .val (.long q2), .second, .val (.long q3), .second, .unset, .unset, .unset, .unset, .unset, .unset, .unset, .unset, .unset] [(.long q3), (.int (2 : Int32)), (.ref b46), (.ref b46)])) rfl rfl (hb hby at_16)
  have f62 : Sta Z h60 "java/util/ArrayList" "DEFAULTCAPACITY_EMPTY_ELEMENTDATA" "[Ljava/lang/Object;" (.ref dz) := f57.wr W60
  have f63 : Exa Z h60 b46 "[J" := f58.wr W60
  have f61 : own_AJ Z h60 b46 .long 3 (own_upd (own_upd (own_upd (fun _ => 0) 0 q1) 1 q2) 2 q3) := own_AJ.set Ar59 S59 M59 H59 W60
  have Z60 : n0 ≤ h60.size := Nat.le_trans Z55 (Keep.of_wr W60).1
  have N60 := Fr.snoc X60 N55 g_b46
  refine own_go (S' := T60.setTop (mkF m 17 #[.val (.long q0), .second, .val (.long q1), .second, .val (.long q2), .second, .val (.long q3), .second, .unset, .unset, .unset, .unset, .unset, .unset, .unset, .unset, .unset] [(.ref b46)])) st60 ?_
  refine own_go (S' := T60.setTop (mkF m 19 #[.val (.long q0), .second, .val (.long q1), .second, .val (.long q2), .second, .val (.long q3), .second, .val (.ref b46), .unset, .unset, .unset, .unset, .unset, .unset, .unset, .unset] [])) (fun target kt => ?_) ?_
  · skip
    show Steps p.tables e below (T60.setTop (mkF m 17 #[.val (.long q0), .second, .val (.long q1), .second, .val (.long q2), .second, .val (.long q3), .second, .unset, .unset, .unset, .unset, .unset, .unset, .unset, .unset, .unset] [(.ref b46)])) _
    refine XS.astore X60.here hx rfl (hb hby at_17) rfl rfl (l' := #[.val (.long q0), .second, .val (.long q1), .second, .val (.long q2), .second, .val (.long q3), .second, .val (.ref b46), .unset, .unset, .unset, .unset, .unset, .unset, .unset, .unset]) rfl ?_
    exact kt
  obtain ⟨T64, h64, X64, e64, E64, A64, D64, -, st64⟩ := newO X60 hx hZ hown (hw _ (List.mem_of_getElem? (i := 1) rfl)) (hw _ (List.mem_of_getElem? (i := 2) rfl)) (hw _ (List.mem_of_getElem? (i := 3) rfl)) e60 (g := (mkF m 19 #[.val (.long q0), .second, .val (.long q1), .second, .val (.long q2), .second, .val (.long q3), .second, .val (.ref b46), .unset, .unset, .unset, .unset, .unset, .unset, .unset, .unset] [])) rfl (hb hby at_19) (by decide) (by decide)
  obtain ⟨b64, g64⟩ : ∃ z, z = h60.size := ⟨_, rfl⟩
  rw [← g64] at A64 D64 st64
  have f65 : Sta Z h64 "java/util/ArrayList" "DEFAULTCAPACITY_EMPTY_ELEMENTDATA" "[Ljava/lang/Object;" (.ref dz) := f62.ext E64
  have f66 : Exa Z h64 b46 "[J" := f63.ext E64
  have f67 : own_AJ Z h64 b46 .long 3 (own_upd (own_upd (own_upd (fun _ => 0) 0 q1) 1 q2) 2 q3) := f61.ext E64
  have g_b64 : n0 ≤ b64 := Nat.le_trans Z60 (Nat.le_of_eq g64.symm)
  have ne_b46_b64 : b46 ≠ b64 := Nat.ne_of_lt (Nat.lt_of_lt_of_le f63.lt (Nat.le_of_eq g64.symm))
  have Z64 : n0 ≤ h64.size := Nat.le_trans Z60 E64.1
  have f68 : Fld Z h64 b64 "java/util/AbstractList" "modCount" "I" (.int (0 : Int32)) := D64 (Or.inl (hw _ (List.mem_of_getElem? (i := 23) rfl))) (ty := .int) (by decide)
  have f69 : Fld Z h64 b64 "java/util/ArrayList" "elementData" "[Ljava/lang/Object;" .null := D64 (Or.inl (hw _ (List.mem_of_getElem? (i := 26) rfl))) (ty := (.array (.object "java/lang/Object"))) (by decide)
  refine own_go (S' := T64.setTop (mkF m 22 #[.val (.long q0), .second, .val (.long q1), .second, .val (.long q2), .second, .val (.long q3), .second, .val (.ref b46), .unset, .unset, .unset, .unset, .unset, .unset, .unset, .unset] [(.ref b64)])) st64 ?_
  refine own_go (S' := T64.setTop (mkF m 23 #[.val (.long q0), .second, .val (.long q1), .second, .val (.long q2), .second, .val (.long q3), .second, .val (.ref b46), .unset, .unset, .unset, .unset, .unset, .unset, .unset, .unset] [(.ref b64), (.ref b64)])) (fun target kt => ?_) ?_
  · skip
    show Steps p.tables e below (T64.setTop (mkF m 22 #[.val (.long q0), .second, .val (.long q1), .second, .val (.long q2), .second, .val (.long q3), .second, .val (.ref b46), .unset, .unset, .unset, .unset, .unset, .unset, .unset, .unset] [(.ref b64)])) _
    refine XS.dup X64.here hx rfl (hb hby at_22) rfl rfl ?_
    exact kt
  obtain ⟨_, _, ⟨T70, L70, k70, n70⟩, -, X70, ⟨Lc70, hQ70, l70, y70, z70⟩, st70⟩ := X64.specialBack hx (y := (⟨"java/util/ArrayList", "<init>", "()V"⟩ : MethodName)) rfl hown (mvT hZ (hw _ (List.mem_of_getElem? (i := 4) rfl))) (mvT hZ (hw _ (List.mem_of_getElem? (i := 5) rfl))) (mvT hZ (hw _ (List.mem_of_getElem? (i := 6) rfl))) (by decide) (backOf (W := 1) (rm1 l Z aZ hw [] b64 dz h64 n0 Z64 A64 f68 f69 f65 g_b64) hZ (hw _ (List.mem_of_getElem? (i := 6) rfl)) (hw _ (List.mem_of_getElem? (i := 3) rfl)) (by decide) (by decide)) (g := (mkF m 23 #[.val (.long q0), .second, .val (.long q1), .second, .val (.long q2), .second, .val (.long q3), .second, .val (.ref b46), .unset, .unset, .unset, .unset, .unset, .unset, .unset, .unset] [(.ref b64), (.ref b64)])) rfl (by rw [hml]; rfl) (Steps.refl _) (a := b64) (argsL := []) (rest := [(.ref b64)]) (lenOf own_pd0 rfl) rfl (by show 2 * 0 + _ ≤ _; exact Nat.le_of_eq rfl) (hb hby at_23) (fun _ _ => ⟨rfl, e64, (by decide : 2 + 0 ≤ _), (by decide : 6 + 0 ≤ _)⟩)
  dsimp only [Pt.U, Pt.locs, Pt.cells, Pt.slots] at X70 l70 y70 z70 st70 hQ70
  subst l70 y70 z70
  obtain ⟨rfl, N70q, K70q, f70_0⟩ := hQ70
  have N70 := Fr.app N60 N70q
  have f71 : Sta Z T70.heap "java/util/ArrayList" "DEFAULTCAPACITY_EMPTY_ELEMENTDATA" "[Ljava/lang/Object;" (.ref dz) := own_Sta_keep f65 K70q (allS (own_nst A64) all0)
  have f72 : Exa Z T70.heap b46 "[J" := f66.keep K70q
  have f73 : own_AJ Z T70.heap b46 .long 3 (own_upd (own_upd (own_upd (fun _ => 0) 0 q1) 1 q2) 2 q3) := f67.keep K70q (ninS ne_b46_b64 nin0)
  have f74 : Exa Z T70.heap b64 "java/util/ArrayList" := A64.keep K70q
  have Z70 : n0 ≤ T70.heap.size := Nat.le_trans Z64 K70q.1
  refine own_go (S' := T70.setTop (mkF m 26 #[.val (.long q0), .second, .val (.long q1), .second, .val (.long q2), .second, .val (.long q3), .second, .val (.ref b46), .unset, .unset, .unset, .unset, .unset, .unset, .unset, .unset] [(.ref b64)])) (fun _ k => st70.trans k) ?_
  refine own_go (S' := T70.setTop (mkF m 28 #[.val (.long q0), .second, .val (.long q1), .second, .val (.long q2), .second, .val (.long q3), .second, .val (.ref b46), .val (.ref b64), .unset, .unset, .unset, .unset, .unset, .unset, .unset] [])) (fun target kt => ?_) ?_
  · skip
    show Steps p.tables e below (T70.setTop (mkF m 26 #[.val (.long q0), .second, .val (.long q1), .second, .val (.long q2), .second, .val (.long q3), .second, .val (.ref b46), .unset, .unset, .unset, .unset, .unset, .unset, .unset, .unset] [(.ref b64)])) _
    refine XS.astore X70.here hx rfl (hb hby at_26) rfl rfl (l' := #[.val (.long q0), .second, .val (.long q1), .second, .val (.long q2), .second, .val (.long q3), .second, .val (.ref b46), .val (.ref b64), .unset, .unset, .unset, .unset, .unset, .unset, .unset]) rfl ?_
    exact kt
  obtain ⟨T77, h77, X77, e77, E77, A77, D77, -, st77⟩ := newO X70 hx hZ hown (hw _ (List.mem_of_getElem? (i := 27) rfl)) (hw _ (List.mem_of_getElem? (i := 28) rfl)) (hw _ (List.mem_of_getElem? (i := 29) rfl)) rfl (g := (mkF m 28 #[.val (.long q0), .second, .val (.long q1), .second, .val (.long q2), .second, .val (.long q3), .second, .val (.ref b46), .val (.ref b64), .unset, .unset, .unset, .unset, .unset, .unset, .unset] [])) rfl (hb hby at_28) (by decide) (by decide)
  obtain ⟨b77, g77⟩ : ∃ z, z = T70.heap.size := ⟨_, rfl⟩
  rw [← g77] at A77 D77 st77
  have f78 : Sta Z h77 "java/util/ArrayList" "DEFAULTCAPACITY_EMPTY_ELEMENTDATA" "[Ljava/lang/Object;" (.ref dz) := f71.ext E77
  have f79 : Exa Z h77 b46 "[J" := f72.ext E77
  have f80 : own_AJ Z h77 b46 .long 3 (own_upd (own_upd (own_upd (fun _ => 0) 0 q1) 1 q2) 2 q3) := f73.ext E77
  have f81 : Exa Z h77 b64 "java/util/ArrayList" := f70_0.ext E77
  have g_b77 : n0 ≤ b77 := Nat.le_trans Z70 (Nat.le_of_eq g77.symm)
  have ne_b46_b77 : b46 ≠ b77 := Nat.ne_of_lt (Nat.lt_of_lt_of_le f72.lt (Nat.le_of_eq g77.symm))
  have ne_b64_b77 : b64 ≠ b77 := Nat.ne_of_lt (Nat.lt_of_lt_of_le f70_0.lt (Nat.le_of_eq g77.symm))
  have Z77 : n0 ≤ h77.size := Nat.le_trans Z70 E77.1
  have f82 : Fld Z h77 b77 "com/example/access_bindings/accessbindings/benchmark/Exchanged" "firstSent" "J" (.long (0 : Int64)) := D77 (Or.inr (hw _ (List.mem_of_getElem? (i := 40) rfl))) (ty := .long) (by decide)
  have f83 : Fld Z h77 b77 "com/example/access_bindings/accessbindings/benchmark/Exchanged" "answeredAt" "[J" .null := D77 (Or.inr (hw _ (List.mem_of_getElem? (i := 42) rfl))) (ty := (.array .long)) (by decide)
  have f84 : Fld Z h77 b77 "com/example/access_bindings/accessbindings/benchmark/Exchanged" "answers" "Ljava/util/List;" .null := D77 (Or.inr (hw _ (List.mem_of_getElem? (i := 44) rfl))) (ty := (.object "java/util/List")) (by decide)
  refine own_go (S' := T77.setTop (mkF m 31 #[.val (.long q0), .second, .val (.long q1), .second, .val (.long q2), .second, .val (.long q3), .second, .val (.ref b46), .val (.ref b64), .unset, .unset, .unset, .unset, .unset, .unset, .unset] [(.ref b77)])) st77 ?_
  refine own_go (S' := T77.setTop (mkF m 37 #[.val (.long q0), .second, .val (.long q1), .second, .val (.long q2), .second, .val (.long q3), .second, .val (.ref b46), .val (.ref b64), .unset, .unset, .unset, .unset, .unset, .unset, .unset] [(.ref b64), (.ref b46), (.long q0), (.ref b77), (.ref b77)])) (fun target kt => ?_) ?_
  · skip
    show Steps p.tables e below (T77.setTop (mkF m 31 #[.val (.long q0), .second, .val (.long q1), .second, .val (.long q2), .second, .val (.long q3), .second, .val (.ref b46), .val (.ref b64), .unset, .unset, .unset, .unset, .unset, .unset, .unset] [(.ref b77)])) _
    refine XS.dup X77.here hx rfl (hb hby at_31) rfl rfl ?_
    show Steps p.tables e below (T77.setTop (mkF m 32 #[.val (.long q0), .second, .val (.long q1), .second, .val (.long q2), .second, .val (.long q3), .second, .val (.ref b46), .val (.ref b64), .unset, .unset, .unset, .unset, .unset, .unset, .unset] [(.ref b77), (.ref b77)])) _
    refine XS.lloadN X77.here hx rfl (hb hby at_32) rfl ?_
    show Steps p.tables e below (T77.setTop (mkF m 33 #[.val (.long q0), .second, .val (.long q1), .second, .val (.long q2), .second, .val (.long q3), .second, .val (.ref b46), .val (.ref b64), .unset, .unset, .unset, .unset, .unset, .unset, .unset] [(.long q0), (.ref b77), (.ref b77)])) _
    refine XS.aload X77.here hx rfl (hb hby at_33) rfl rfl ?_
    show Steps p.tables e below (T77.setTop (mkF m 35 #[.val (.long q0), .second, .val (.long q1), .second, .val (.long q2), .second, .val (.long q3), .second, .val (.ref b46), .val (.ref b64), .unset, .unset, .unset, .unset, .unset, .unset, .unset] [(.ref b46), (.long q0), (.ref b77), (.ref b77)])) _
    refine XS.aload X77.here hx rfl (hb hby at_35) rfl rfl ?_
    exact kt
  obtain ⟨_, _, ⟨T85, L85, k85, n85⟩, -, X85, ⟨Lc85, hQ85, l85, y85, z85⟩, st85⟩ := X77.specialBack hx (y := (⟨"com/example/access_bindings/accessbindings/benchmark/Exchanged", "<init>", "(J[JLjava/util/List;)V"⟩ : MethodName)) rfl hown (mvT hZ (hw _ (List.mem_of_getElem? (i := 30) rfl))) (mvT hZ (hw _ (List.mem_of_getElem? (i := 31) rfl))) (mvT hZ (hw _ (List.mem_of_getElem? (i := 32) rfl))) (by decide) (backOf (W := 1) (rm5 l Z aZ hw [] b77 q0 b46 b64 h77 n0 Z77 A77 f82 f83 f84 g_b77) hZ (hw _ (List.mem_of_getElem? (i := 32) rfl)) (hw _ (List.mem_of_getElem? (i := 29) rfl)) (by decide) (by decide)) (g := (mkF m 37 #[.val (.long q0), .second, .val (.long q1), .second, .val (.long q2), .second, .val (.long q3), .second, .val (.ref b46), .val (.ref b64), .unset, .unset, .unset, .unset, .unset, .unset, .unset] [(.ref b64), (.ref b46), (.long q0), (.ref b77), (.ref b77)])) rfl (by rw [hml]; rfl) (Steps.refl _) (a := b77) (argsL := [(.long q0), (.ref b46), (.ref b64)]) (rest := [(.ref b77)]) (lenOf own_pd1 rfl) rfl (by show 2 * 0 + _ ≤ _; exact Nat.le_of_eq rfl) (hb hby at_37) (fun _ _ => ⟨rfl, e77, (by decide : 3 + 0 ≤ _), (by decide : 9 + 0 ≤ _)⟩)
  dsimp only [Pt.U, Pt.locs, Pt.cells, Pt.slots] at X85 l85 y85 z85 st85 hQ85
  subst l85 y85 z85
  obtain ⟨rfl, N85q, K85q, f85_0, f85_1, f85_2, f85_3⟩ := hQ85
  have N85 := Fr.app N70 N85q
  have f86 : Sta Z T85.heap "java/util/ArrayList" "DEFAULTCAPACITY_EMPTY_ELEMENTDATA" "[Ljava/lang/Object;" (.ref dz) := own_Sta_keep f78 K85q (allS (own_nst A77) all0)
  have f87 : Exa Z T85.heap b46 "[J" := f79.keep K85q
  have f88 : own_AJ Z T85.heap b46 .long 3 (own_upd (own_upd (own_upd (fun _ => 0) 0 q1) 1 q2) 2 q3) := f80.keep K85q (ninS ne_b46_b77 nin0)
  have f89 : Exa Z T85.heap b64 "java/util/ArrayList" := f81.keep K85q
  have f90 : Exa Z T85.heap b77 "com/example/access_bindings/accessbindings/benchmark/Exchanged" := A77.keep K85q
  have Z85 : n0 ≤ T85.heap.size := Nat.le_trans Z77 K85q.1
  refine own_go (S' := T85.setTop (mkF m 40 #[.val (.long q0), .second, .val (.long q1), .second, .val (.long q2), .second, .val (.long q3), .second, .val (.ref b46), .val (.ref b64), .unset, .unset, .unset, .unset, .unset, .unset, .unset] [(.ref b77)])) (fun _ k => st85.trans k) ?_
  refine own_go (S' := T85.setTop (mkF m 45 #[.val (.long q0), .second, .val (.long q1), .second, .val (.long q2), .second, .val (.long q3), .second, .val (.ref b46), .val (.ref b64), .val (.ref b77), .unset, .unset, .unset, .unset, .unset, .unset] [(.int (0 : Int32)), (.ref b77)])) (fun target kt => ?_) ?_
  · skip
    show Steps p.tables e below (T85.setTop (mkF m 40 #[.val (.long q0), .second, .val (.long q1), .second, .val (.long q2), .second, .val (.long q3), .second, .val (.ref b46), .val (.ref b64), .unset, .unset, .unset, .unset, .unset, .unset, .unset] [(.ref b77)])) _
    refine XS.astore X85.here hx rfl (hb hby at_40) rfl rfl (l' := #[.val (.long q0), .second, .val (.long q1), .second, .val (.long q2), .second, .val (.long q3), .second, .val (.ref b46), .val (.ref b64), .val (.ref b77), .unset, .unset, .unset, .unset, .unset, .unset]) rfl ?_
    show Steps p.tables e below (T85.setTop (mkF m 42 #[.val (.long q0), .second, .val (.long q1), .second, .val (.long q2), .second, .val (.long q3), .second, .val (.ref b46), .val (.ref b64), .val (.ref b77), .unset, .unset, .unset, .unset, .unset, .unset] [])) _
    refine XS.aload X85.here hx rfl (hb hby at_42) rfl rfl ?_
    show Steps p.tables e below (T85.setTop (mkF m 44 #[.val (.long q0), .second, .val (.long q1), .second, .val (.long q2), .second, .val (.long q3), .second, .val (.ref b46), .val (.ref b64), .val (.ref b77), .unset, .unset, .unset, .unset, .unset, .unset] [(.ref b77)])) _
    refine XS.iconst X85.here hx rfl (hb hby at_44) ?_
    exact kt
  obtain ⟨cq91, kq91, q91a, q91b, q91c⟩ := isOf hZ rfl f85_0
  obtain ⟨_, _, ⟨T91, L91, k91, n91⟩, -, X91, ⟨Lc91, hQ91, l91, y91, z91⟩, st91⟩ := X85.virtualBack hx (y := (⟨"com/example/access_bindings/accessbindings/benchmark/Exchanged", "took", "(I)J"⟩ : MethodName)) (z := (⟨"com/example/access_bindings/accessbindings/benchmark/Exchanged", "took", "(I)J"⟩ : MethodName)) hown (mvT hZ (hw _ (List.mem_of_getElem? (i := 45) rfl))) (mvT hZ (hw _ (List.mem_of_getElem? (i := 46) rfl))) (notFace_of_selects (args := #[]) (mvT hZ (hw _ (List.mem_of_getElem? (i := 48) rfl)))) (mvT hZ (hw _ (List.mem_of_getElem? (i := 48) rfl))) (mvT hZ (hw _ (List.mem_of_getElem? (i := 47) rfl))) (by decide) (backOf (W := 0) (rm7_0 l Z aZ hw [] b77 q0 b46 (own_upd (own_upd (own_upd (fun _ => 0) 0 q1) 1 q2) 2 q3) T85.heap n0 Z85 f85_1 f85_2 f88) hZ (hw _ (List.mem_of_getElem? (i := 49) rfl)) (hw _ (List.mem_of_getElem? (i := 29) rfl)) (by decide) (by decide)) q91a q91c (g := (mkF m 45 #[.val (.long q0), .second, .val (.long q1), .second, .val (.long q2), .second, .val (.long q3), .second, .val (.ref b46), .val (.ref b64), .val (.ref b77), .unset, .unset, .unset, .unset, .unset, .unset] [(.int (0 : Int32)), (.ref b77)])) rfl (by rw [hml]; rfl) (Steps.refl _) (argsL := [(.int (0 : Int32))]) (rest := []) (lenOf own_pd2 rfl) rfl (by show 2 * 0 + _ ≤ _; exact Nat.le_of_eq rfl) (hb hby at_45) (fun _ _ => ⟨rfl, rfl, (by decide : 3 + 0 ≤ _), (by decide : 9 + 0 ≤ _)⟩)
  dsimp only [Pt.U, Pt.locs, Pt.cells, Pt.slots] at X91 l91 y91 z91 st91 hQ91
  subst l91 y91 z91
  obtain ⟨rfl, N91q, e91⟩ := hQ91
  have N91 := Fr.app N85 N91q
  refine own_go (S' := T91.setTop (mkF m 48 #[.val (.long q0), .second, .val (.long q1), .second, .val (.long q2), .second, .val (.long q3), .second, .val (.ref b46), .val (.ref b64), .val (.ref b77), .unset, .unset, .unset, .unset, .unset, .unset] [(.long (((own_upd (own_upd (own_upd (fun _ => 0) 0 q1) 1 q2) 2 q3) 0) - q0))])) (fun _ k => st91.trans k) ?_
  obtain ⟨t0, h_t0⟩ : ∃ z : Int64, z = (((own_upd (own_upd (own_upd (fun _ => 0) 0 q1) 1 q2) 2 q3) 0) - q0) := ⟨_, rfl⟩
  refine own_go (S' := T91.setTop (mkF m 50 #[.val (.long q0), .second, .val (.long q1), .second, .val (.long q2), .second, .val (.long q3), .second, .val (.ref b46), .val (.ref b64), .val (.ref b77), .val (.long t0), .second, .unset, .unset, .unset, .unset] [])) (fun target kt => ?_) ?_
  · subst h_t0
    show Steps p.tables e below (T91.setTop (mkF m 48 #[.val (.long q0), .second, .val (.long q1), .second, .val (.long q2), .second, .val (.long q3), .second, .val (.ref b46), .val (.ref b64), .val (.ref b77), .unset, .unset, .unset, .unset, .unset, .unset] [(.long (((own_upd (own_upd (own_upd (fun _ => 0) 0 q1) 1 q2) 2 q3) 0) - q0))])) _
    refine XS.lstore X91.here hx rfl (hb hby at_48) rfl (l' := #[.val (.long q0), .second, .val (.long q1), .second, .val (.long q2), .second, .val (.long q3), .second, .val (.ref b46), .val (.ref b64), .val (.ref b77), .val (.long (((own_upd (own_upd (own_upd (fun _ => 0) 0 q1) 1 q2) 2 q3) 0) - q0)), .second, .unset, .unset, .unset, .unset]) rfl ?_
    exact kt
  refine own_go (S' := T91.setTop (mkF m 53 #[.val (.long q0), .second, .val (.long q1), .second, .val (.long q2), .second, .val (.long q3), .second, .val (.ref b46), .val (.ref b64), .val (.ref b77), .val (.long t0), .second, .unset, .unset, .unset, .unset] [(.int (1 : Int32)), (.ref b77)])) (fun target kt => ?_) ?_
  · skip
    show Steps p.tables e below (T91.setTop (mkF m 50 #[.val (.long q0), .second, .val (.long q1), .second, .val (.long q2), .second, .val (.long q3), .second, .val (.ref b46), .val (.ref b64), .val (.ref b77), .val (.long t0), .second, .unset, .unset, .unset, .unset] [])) _
    refine XS.aload X91.here hx rfl (hb hby at_50) rfl rfl ?_
    show Steps p.tables e below (T91.setTop (mkF m 52 #[.val (.long q0), .second, .val (.long q1), .second, .val (.long q2), .second, .val (.long q3), .second, .val (.ref b46), .val (.ref b64), .val (.ref b77), .val (.long t0), .second, .unset, .unset, .unset, .unset] [(.ref b77)])) _
    refine XS.iconst X91.here hx rfl (hb hby at_52) ?_
    exact kt
  obtain ⟨cq92, kq92, q92a, q92b, q92c⟩ := isOf hZ e91 f85_0
  obtain ⟨_, _, ⟨T92, L92, k92, n92⟩, -, X92, ⟨Lc92, hQ92, l92, y92, z92⟩, st92⟩ := X91.virtualBack hx (y := (⟨"com/example/access_bindings/accessbindings/benchmark/Exchanged", "took", "(I)J"⟩ : MethodName)) (z := (⟨"com/example/access_bindings/accessbindings/benchmark/Exchanged", "took", "(I)J"⟩ : MethodName)) hown (mvT hZ (hw _ (List.mem_of_getElem? (i := 45) rfl))) (mvT hZ (hw _ (List.mem_of_getElem? (i := 46) rfl))) (notFace_of_selects (args := #[]) (mvT hZ (hw _ (List.mem_of_getElem? (i := 48) rfl)))) (mvT hZ (hw _ (List.mem_of_getElem? (i := 48) rfl))) (mvT hZ (hw _ (List.mem_of_getElem? (i := 47) rfl))) (by decide) (backOf (W := 0) (rm7_1 l Z aZ hw [] b77 q0 b46 (own_upd (own_upd (own_upd (fun _ => 0) 0 q1) 1 q2) 2 q3) T85.heap n0 Z85 f85_1 f85_2 f88) hZ (hw _ (List.mem_of_getElem? (i := 49) rfl)) (hw _ (List.mem_of_getElem? (i := 29) rfl)) (by decide) (by decide)) q92a q92c (g := (mkF m 53 #[.val (.long q0), .second, .val (.long q1), .second, .val (.long q2), .second, .val (.long q3), .second, .val (.ref b46), .val (.ref b64), .val (.ref b77), .val (.long t0), .second, .unset, .unset, .unset, .unset] [(.int (1 : Int32)), (.ref b77)])) rfl (by rw [hml]; rfl) (Steps.refl _) (argsL := [(.int (1 : Int32))]) (rest := []) (lenOf own_pd2 rfl) rfl (by show 2 * 0 + _ ≤ _; exact Nat.le_of_eq rfl) (hb hby at_53) (fun _ _ => ⟨rfl, e91, (by decide : 3 + 0 ≤ _), (by decide : 9 + 0 ≤ _)⟩)
  dsimp only [Pt.U, Pt.locs, Pt.cells, Pt.slots] at X92 l92 y92 z92 st92 hQ92
  subst l92 y92 z92
  obtain ⟨rfl, N92q, e92⟩ := hQ92
  have N92 := Fr.app N91 N92q
  refine own_go (S' := T92.setTop (mkF m 56 #[.val (.long q0), .second, .val (.long q1), .second, .val (.long q2), .second, .val (.long q3), .second, .val (.ref b46), .val (.ref b64), .val (.ref b77), .val (.long t0), .second, .unset, .unset, .unset, .unset] [(.long (((own_upd (own_upd (own_upd (fun _ => 0) 0 q1) 1 q2) 2 q3) 1) - ((own_upd (own_upd (own_upd (fun _ => 0) 0 q1) 1 q2) 2 q3) 0)))])) (fun _ k => st92.trans k) ?_
  obtain ⟨t1, h_t1⟩ : ∃ z : Int64, z = (((own_upd (own_upd (own_upd (fun _ => 0) 0 q1) 1 q2) 2 q3) 1) - ((own_upd (own_upd (own_upd (fun _ => 0) 0 q1) 1 q2) 2 q3) 0)) := ⟨_, rfl⟩
  refine own_go (S' := T92.setTop (mkF m 58 #[.val (.long q0), .second, .val (.long q1), .second, .val (.long q2), .second, .val (.long q3), .second, .val (.ref b46), .val (.ref b64), .val (.ref b77), .val (.long t0), .second, .val (.long t1), .second, .unset, .unset] [])) (fun target kt => ?_) ?_
  · subst h_t1
    show Steps p.tables e below (T92.setTop (mkF m 56 #[.val (.long q0), .second, .val (.long q1), .second, .val (.long q2), .second, .val (.long q3), .second, .val (.ref b46), .val (.ref b64), .val (.ref b77), .val (.long t0), .second, .unset, .unset, .unset, .unset] [(.long (((own_upd (own_upd (own_upd (fun _ => 0) 0 q1) 1 q2) 2 q3) 1) - ((own_upd (own_upd (own_upd (fun _ => 0) 0 q1) 1 q2) 2 q3) 0)))])) _
    refine XS.lstore X92.here hx rfl (hb hby at_56) rfl (l' := #[.val (.long q0), .second, .val (.long q1), .second, .val (.long q2), .second, .val (.long q3), .second, .val (.ref b46), .val (.ref b64), .val (.ref b77), .val (.long t0), .second, .val (.long (((own_upd (own_upd (own_upd (fun _ => 0) 0 q1) 1 q2) 2 q3) 1) - ((own_upd (own_upd (own_upd (fun _ => 0) 0 q1) 1 q2) 2 q3) 0))), .second, .unset, .unset]) rfl ?_
    exact kt
  refine own_go (S' := T92.setTop (mkF m 61 #[.val (.long q0), .second, .val (.long q1), .second, .val (.long q2), .second, .val (.long q3), .second, .val (.ref b46), .val (.ref b64), .val (.ref b77), .val (.long t0), .second, .val (.long t1), .second, .unset, .unset] [(.int (2 : Int32)), (.ref b77)])) (fun target kt => ?_) ?_
  · skip
    show Steps p.tables e below (T92.setTop (mkF m 58 #[.val (.long q0), .second, .val (.long q1), .second, .val (.long q2), .second, .val (.long q3), .second, .val (.ref b46), .val (.ref b64), .val (.ref b77), .val (.long t0), .second, .val (.long t1), .second, .unset, .unset] [])) _
    refine XS.aload X92.here hx rfl (hb hby at_58) rfl rfl ?_
    show Steps p.tables e below (T92.setTop (mkF m 60 #[.val (.long q0), .second, .val (.long q1), .second, .val (.long q2), .second, .val (.long q3), .second, .val (.ref b46), .val (.ref b64), .val (.ref b77), .val (.long t0), .second, .val (.long t1), .second, .unset, .unset] [(.ref b77)])) _
    refine XS.iconst X92.here hx rfl (hb hby at_60) ?_
    exact kt
  obtain ⟨cq93, kq93, q93a, q93b, q93c⟩ := isOf hZ e92 f85_0
  obtain ⟨_, _, ⟨T93, L93, k93, n93⟩, -, X93, ⟨Lc93, hQ93, l93, y93, z93⟩, st93⟩ := X92.virtualBack hx (y := (⟨"com/example/access_bindings/accessbindings/benchmark/Exchanged", "took", "(I)J"⟩ : MethodName)) (z := (⟨"com/example/access_bindings/accessbindings/benchmark/Exchanged", "took", "(I)J"⟩ : MethodName)) hown (mvT hZ (hw _ (List.mem_of_getElem? (i := 45) rfl))) (mvT hZ (hw _ (List.mem_of_getElem? (i := 46) rfl))) (notFace_of_selects (args := #[]) (mvT hZ (hw _ (List.mem_of_getElem? (i := 48) rfl)))) (mvT hZ (hw _ (List.mem_of_getElem? (i := 48) rfl))) (mvT hZ (hw _ (List.mem_of_getElem? (i := 47) rfl))) (by decide) (backOf (W := 0) (rm7_2 l Z aZ hw [] b77 q0 b46 (own_upd (own_upd (own_upd (fun _ => 0) 0 q1) 1 q2) 2 q3) T85.heap n0 Z85 f85_1 f85_2 f88) hZ (hw _ (List.mem_of_getElem? (i := 49) rfl)) (hw _ (List.mem_of_getElem? (i := 29) rfl)) (by decide) (by decide)) q93a q93c (g := (mkF m 61 #[.val (.long q0), .second, .val (.long q1), .second, .val (.long q2), .second, .val (.long q3), .second, .val (.ref b46), .val (.ref b64), .val (.ref b77), .val (.long t0), .second, .val (.long t1), .second, .unset, .unset] [(.int (2 : Int32)), (.ref b77)])) rfl (by rw [hml]; rfl) (Steps.refl _) (argsL := [(.int (2 : Int32))]) (rest := []) (lenOf own_pd2 rfl) rfl (by show 2 * 0 + _ ≤ _; exact Nat.le_of_eq rfl) (hb hby at_61) (fun _ _ => ⟨rfl, e92, (by decide : 3 + 0 ≤ _), (by decide : 9 + 0 ≤ _)⟩)
  dsimp only [Pt.U, Pt.locs, Pt.cells, Pt.slots] at X93 l93 y93 z93 st93 hQ93
  subst l93 y93 z93
  obtain ⟨rfl, N93q, e93⟩ := hQ93
  have N93 := Fr.app N92 N93q
  refine own_go (S' := T93.setTop (mkF m 64 #[.val (.long q0), .second, .val (.long q1), .second, .val (.long q2), .second, .val (.long q3), .second, .val (.ref b46), .val (.ref b64), .val (.ref b77), .val (.long t0), .second, .val (.long t1), .second, .unset, .unset] [(.long (((own_upd (own_upd (own_upd (fun _ => 0) 0 q1) 1 q2) 2 q3) 2) - ((own_upd (own_upd (own_upd (fun _ => 0) 0 q1) 1 q2) 2 q3) 1)))])) (fun _ k => st93.trans k) ?_
  obtain ⟨t2, h_t2⟩ : ∃ z : Int64, z = (((own_upd (own_upd (own_upd (fun _ => 0) 0 q1) 1 q2) 2 q3) 2) - ((own_upd (own_upd (own_upd (fun _ => 0) 0 q1) 1 q2) 2 q3) 1)) := ⟨_, rfl⟩
  refine own_go (S' := T93.setTop (mkF m 66 #[.val (.long q0), .second, .val (.long q1), .second, .val (.long q2), .second, .val (.long q3), .second, .val (.ref b46), .val (.ref b64), .val (.ref b77), .val (.long t0), .second, .val (.long t1), .second, .val (.long t2), .second] [])) (fun target kt => ?_) ?_
  · subst h_t2
    show Steps p.tables e below (T93.setTop (mkF m 64 #[.val (.long q0), .second, .val (.long q1), .second, .val (.long q2), .second, .val (.long q3), .second, .val (.ref b46), .val (.ref b64), .val (.ref b77), .val (.long t0), .second, .val (.long t1), .second, .unset, .unset] [(.long (((own_upd (own_upd (own_upd (fun _ => 0) 0 q1) 1 q2) 2 q3) 2) - ((own_upd (own_upd (own_upd (fun _ => 0) 0 q1) 1 q2) 2 q3) 1)))])) _
    refine XS.lstore X93.here hx rfl (hb hby at_64) rfl (l' := #[.val (.long q0), .second, .val (.long q1), .second, .val (.long q2), .second, .val (.long q3), .second, .val (.ref b46), .val (.ref b64), .val (.ref b77), .val (.long t0), .second, .val (.long t1), .second, .val (.long (((own_upd (own_upd (own_upd (fun _ => 0) 0 q1) 1 q2) 2 q3) 2) - ((own_upd (own_upd (own_upd (fun _ => 0) 0 q1) 1 q2) 2 q3) 1))), .second]) rfl ?_
    exact kt
  refine own_go (S' := T93.setTop (mkF m 109 #[.val (.long q0), .second, .val (.long q1), .second, .val (.long q2), .second, .val (.long q3), .second, .val (.ref b46), .val (.ref b64), .val (.ref b77), .val (.long t0), .second, .val (.long t1), .second, .val (.long t2), .second] [(.int (1 : Int32))])) (fun target kt => ?_) ?_
  · skip
    show Steps p.tables e below (T93.setTop (mkF m 66 #[.val (.long q0), .second, .val (.long q1), .second, .val (.long q2), .second, .val (.long q3), .second, .val (.ref b46), .val (.ref b64), .val (.ref b77), .val (.long t0), .second, .val (.long t1), .second, .val (.long t2), .second] [])) _
    refine XS.lload X93.here hx rfl (hb hby at_66) rfl ?_
    show Steps p.tables e below (T93.setTop (mkF m 68 #[.val (.long q0), .second, .val (.long q1), .second, .val (.long q2), .second, .val (.long q3), .second, .val (.ref b46), .val (.ref b64), .val (.ref b77), .val (.long t0), .second, .val (.long t1), .second, .val (.long t2), .second] [(.long t0)])) _
    refine XS.lloadN X93.here hx rfl (hb hby at_68) rfl ?_
    show Steps p.tables e below (T93.setTop (mkF m 69 #[.val (.long q0), .second, .val (.long q1), .second, .val (.long q2), .second, .val (.long q3), .second, .val (.ref b46), .val (.ref b64), .val (.ref b77), .val (.long t0), .second, .val (.long t1), .second, .val (.long t2), .second] [(.long q1), (.long t0)])) _
    refine XS.lloadN X93.here hx rfl (hb hby at_69) rfl ?_
    show Steps p.tables e below (T93.setTop (mkF m 70 #[.val (.long q0), .second, .val (.long q1), .second, .val (.long q2), .second, .val (.long q3), .second, .val (.ref b46), .val (.ref b64), .val (.ref b77), .val (.long t0), .second, .val (.long t1), .second, .val (.long t2), .second] [(.long q0), (.long q1), (.long t0)])) _
    refine XS.lsub X93.here hx rfl (hb hby at_70) rfl ?_
    show Steps p.tables e below (T93.setTop (mkF m 71 #[.val (.long q0), .second, .val (.long q1), .second, .val (.long q2), .second, .val (.long q3), .second, .val (.ref b46), .val (.ref b64), .val (.ref b77), .val (.long t0), .second, .val (.long t1), .second, .val (.long t2), .second] [(.long (q1 - q0)), (.long t0)])) _
    refine XS.lcmp X93.here hx rfl (hb hby at_71) rfl ?_
    show Steps p.tables e below (T93.setTop (mkF m 72 #[.val (.long q0), .second, .val (.long q1), .second, .val (.long q2), .second, .val (.long q3), .second, .val (.ref b46), .val (.ref b64), .val (.ref b77), .val (.long t0), .second, .val (.long t1), .second, .val (.long t2), .second] [(.int (lcmpW t0 (q1 - q0)))])) _
    refine XS.ifNo X93.here hx rfl (hb hby at_72) rfl (show ifCond.holds .ne (lcmpW t0 (q1 - q0)) = false from Jvm.Free.XT.ll_ne_f (by rw [h_t0]; rfl : t0 = (q1 - q0))) ?_
    show Steps p.tables e below (T93.setTop (mkF m 75 #[.val (.long q0), .second, .val (.long q1), .second, .val (.long q2), .second, .val (.long q3), .second, .val (.ref b46), .val (.ref b64), .val (.ref b77), .val (.long t0), .second, .val (.long t1), .second, .val (.long t2), .second] [])) _
    refine XS.lload X93.here hx rfl (hb hby at_75) rfl ?_
    show Steps p.tables e below (T93.setTop (mkF m 77 #[.val (.long q0), .second, .val (.long q1), .second, .val (.long q2), .second, .val (.long q3), .second, .val (.ref b46), .val (.ref b64), .val (.ref b77), .val (.long t0), .second, .val (.long t1), .second, .val (.long t2), .second] [(.long t0)])) _
    refine XS.lload X93.here hx rfl (hb hby at_77) rfl ?_
    show Steps p.tables e below (T93.setTop (mkF m 79 #[.val (.long q0), .second, .val (.long q1), .second, .val (.long q2), .second, .val (.long q3), .second, .val (.ref b46), .val (.ref b64), .val (.ref b77), .val (.long t0), .second, .val (.long t1), .second, .val (.long t2), .second] [(.long t1), (.long t0)])) _
    refine XS.ladd X93.here hx rfl (hb hby at_79) rfl ?_
    show Steps p.tables e below (T93.setTop (mkF m 80 #[.val (.long q0), .second, .val (.long q1), .second, .val (.long q2), .second, .val (.long q3), .second, .val (.ref b46), .val (.ref b64), .val (.ref b77), .val (.long t0), .second, .val (.long t1), .second, .val (.long t2), .second] [(.long (t0 + t1))])) _
    refine XS.lload X93.here hx rfl (hb hby at_80) rfl ?_
    show Steps p.tables e below (T93.setTop (mkF m 82 #[.val (.long q0), .second, .val (.long q1), .second, .val (.long q2), .second, .val (.long q3), .second, .val (.ref b46), .val (.ref b64), .val (.ref b77), .val (.long t0), .second, .val (.long t1), .second, .val (.long t2), .second] [(.long q2), (.long (t0 + t1))])) _
    refine XS.lloadN X93.here hx rfl (hb hby at_82) rfl ?_
    show Steps p.tables e below (T93.setTop (mkF m 83 #[.val (.long q0), .second, .val (.long q1), .second, .val (.long q2), .second, .val (.long q3), .second, .val (.ref b46), .val (.ref b64), .val (.ref b77), .val (.long t0), .second, .val (.long t1), .second, .val (.long t2), .second] [(.long q0), (.long q2), (.long (t0 + t1))])) _
    refine XS.lsub X93.here hx rfl (hb hby at_83) rfl ?_
    show Steps p.tables e below (T93.setTop (mkF m 84 #[.val (.long q0), .second, .val (.long q1), .second, .val (.long q2), .second, .val (.long q3), .second, .val (.ref b46), .val (.ref b64), .val (.ref b77), .val (.long t0), .second, .val (.long t1), .second, .val (.long t2), .second] [(.long (q2 - q0)), (.long (t0 + t1))])) _
    refine XS.lcmp X93.here hx rfl (hb hby at_84) rfl ?_
    show Steps p.tables e below (T93.setTop (mkF m 85 #[.val (.long q0), .second, .val (.long q1), .second, .val (.long q2), .second, .val (.long q3), .second, .val (.ref b46), .val (.ref b64), .val (.ref b77), .val (.long t0), .second, .val (.long t1), .second, .val (.long t2), .second] [(.int (lcmpW (t0 + t1) (q2 - q0)))])) _
    refine XS.ifNo X93.here hx rfl (hb hby at_85) rfl (show ifCond.holds .ne (lcmpW (t0 + t1) (q2 - q0)) = false from Jvm.Free.XT.ll_ne_f (by rw [h_t0, h_t1]; exact own_l1 _ _ _ : (t0 + t1) = (q2 - q0))) ?_
    show Steps p.tables e below (T93.setTop (mkF m 88 #[.val (.long q0), .second, .val (.long q1), .second, .val (.long q2), .second, .val (.long q3), .second, .val (.ref b46), .val (.ref b64), .val (.ref b77), .val (.long t0), .second, .val (.long t1), .second, .val (.long t2), .second] [])) _
    refine XS.lload X93.here hx rfl (hb hby at_88) rfl ?_
    show Steps p.tables e below (T93.setTop (mkF m 90 #[.val (.long q0), .second, .val (.long q1), .second, .val (.long q2), .second, .val (.long q3), .second, .val (.ref b46), .val (.ref b64), .val (.ref b77), .val (.long t0), .second, .val (.long t1), .second, .val (.long t2), .second] [(.long t0)])) _
    refine XS.lload X93.here hx rfl (hb hby at_90) rfl ?_
    show Steps p.tables e below (T93.setTop (mkF m 92 #[.val (.long q0), .second, .val (.long q1), .second, .val (.long q2), .second, .val (.long q3), .second, .val (.ref b46), .val (.ref b64), .val (.ref b77), .val (.long t0), .second, .val (.long t1), .second, .val (.long t2), .second] [(.long t1), (.long t0)])) _
    refine XS.ladd X93.here hx rfl (hb hby at_92) rfl ?_
    show Steps p.tables e below (T93.setTop (mkF m 93 #[.val (.long q0), .second, .val (.long q1), .second, .val (.long q2), .second, .val (.long q3), .second, .val (.ref b46), .val (.ref b64), .val (.ref b77), .val (.long t0), .second, .val (.long t1), .second, .val (.long t2), .second] [(.long (t0 + t1))])) _
    refine XS.lload X93.here hx rfl (hb hby at_93) rfl ?_
    show Steps p.tables e below (T93.setTop (mkF m 95 #[.val (.long q0), .second, .val (.long q1), .second, .val (.long q2), .second, .val (.long q3), .second, .val (.ref b46), .val (.ref b64), .val (.ref b77), .val (.long t0), .second, .val (.long t1), .second, .val (.long t2), .second] [(.long t2), (.long (t0 + t1))])) _
    refine XS.ladd X93.here hx rfl (hb hby at_95) rfl ?_
    show Steps p.tables e below (T93.setTop (mkF m 96 #[.val (.long q0), .second, .val (.long q1), .second, .val (.long q2), .second, .val (.long q3), .second, .val (.ref b46), .val (.ref b64), .val (.ref b77), .val (.long t0), .second, .val (.long t1), .second, .val (.long t2), .second] [(.long ((t0 + t1) + t2))])) _
    refine XS.lload X93.here hx rfl (hb hby at_96) rfl ?_
    show Steps p.tables e below (T93.setTop (mkF m 98 #[.val (.long q0), .second, .val (.long q1), .second, .val (.long q2), .second, .val (.long q3), .second, .val (.ref b46), .val (.ref b64), .val (.ref b77), .val (.long t0), .second, .val (.long t1), .second, .val (.long t2), .second] [(.long q3), (.long ((t0 + t1) + t2))])) _
    refine XS.lloadN X93.here hx rfl (hb hby at_98) rfl ?_
    show Steps p.tables e below (T93.setTop (mkF m 99 #[.val (.long q0), .second, .val (.long q1), .second, .val (.long q2), .second, .val (.long q3), .second, .val (.ref b46), .val (.ref b64), .val (.ref b77), .val (.long t0), .second, .val (.long t1), .second, .val (.long t2), .second] [(.long q0), (.long q3), (.long ((t0 + t1) + t2))])) _
    refine XS.lsub X93.here hx rfl (hb hby at_99) rfl ?_
    show Steps p.tables e below (T93.setTop (mkF m 100 #[.val (.long q0), .second, .val (.long q1), .second, .val (.long q2), .second, .val (.long q3), .second, .val (.ref b46), .val (.ref b64), .val (.ref b77), .val (.long t0), .second, .val (.long t1), .second, .val (.long t2), .second] [(.long (q3 - q0)), (.long ((t0 + t1) + t2))])) _
    refine XS.lcmp X93.here hx rfl (hb hby at_100) rfl ?_
    show Steps p.tables e below (T93.setTop (mkF m 101 #[.val (.long q0), .second, .val (.long q1), .second, .val (.long q2), .second, .val (.long q3), .second, .val (.ref b46), .val (.ref b64), .val (.ref b77), .val (.long t0), .second, .val (.long t1), .second, .val (.long t2), .second] [(.int (lcmpW ((t0 + t1) + t2) (q3 - q0)))])) _
    refine XS.ifNo X93.here hx rfl (hb hby at_101) rfl (show ifCond.holds .ne (lcmpW ((t0 + t1) + t2) (q3 - q0)) = false from Jvm.Free.XT.ll_ne_f (by rw [h_t0, h_t1, h_t2]; exact (congrArg (· + _) (own_l1 _ _ _)).trans (own_l1 _ _ _) : ((t0 + t1) + t2) = (q3 - q0))) ?_
    show Steps p.tables e below (T93.setTop (mkF m 104 #[.val (.long q0), .second, .val (.long q1), .second, .val (.long q2), .second, .val (.long q3), .second, .val (.ref b46), .val (.ref b64), .val (.ref b77), .val (.long t0), .second, .val (.long t1), .second, .val (.long t2), .second] [])) _
    refine XS.iconst X93.here hx rfl (hb hby at_104) ?_
    show Steps p.tables e below (T93.setTop (mkF m 105 #[.val (.long q0), .second, .val (.long q1), .second, .val (.long q2), .second, .val (.long q3), .second, .val (.ref b46), .val (.ref b64), .val (.ref b77), .val (.long t0), .second, .val (.long t1), .second, .val (.long t2), .second] [(.int (1 : Int32))])) _
    refine XS.goto X93.here hx rfl (pc0 := 105) (pc' := 109) rfl (hb hby at_105) (by decide) (by decide) ?_
    exact kt
  obtain ⟨fs, hr, hrun, hended, hW, hsame⟩ := X93.leave (v := some (.int (1 : Int32))) (fun h => by rw [Bd.returns] at h; cases h)
  refine ⟨_, _, ?_, hrun, hended, _, _, rfl, ?_, ⟨_, rfl⟩, hW, hsame.mono (by decide) (by decide)⟩
  · exact retN X93 hx (t := .boolean) Bd.returns (by simp) (hb hby at_109) hr
  · show Q0 Z q0 q1 q2 q3 dz h0 n0 _ T93.heap _
    rw [e93]
    exact ⟨rfl, N93⟩
set_option maxRecDepth 65536 in
set_option maxHeartbeats 40000000 in
theorem comes_1 {Post : Tables → Env → Array Value → State → Outcome → State → Prop} (hpost : ∀ tb e args s v u, (limb_1_1.after args s (.returned v) u = true ∧ limb_1_2.after args s (.returned v) u = true) → FrameEnd s (.returned v) u (Jvm.fieldLocs frame_1_writes args s ++ Jvm.arrayLocs frame_1_arrays args s ++ Jvm.staticLocs frame_1_statics s) 16 128 → Post tb e args s (.returned v) u) :
    ArmFor flags0 classFile x code maxLocals ret World_1 tables_1 room_1 Calls_1 rest_1 Pre_1 Post := by
  intro l hfl _ _ p e ha hc hk s m args below hf hA hF happ hP
  obtain ⟨hcalls, hrest, hpre⟩ := hP
  obtain ⟨-, -, -, hnamed, -, -, -, hat⟩ := (Spec.applies_iff hf).mp happ
  obtain ⟨hg, hn⟩ := and_e (Cond.before_iff.mp (show (Jvm.Cond.and given_1 narrow_1).before args s = true from hpre))
  obtain ⟨hg1, hg2⟩ := and_e hg
  obtain ⟨hg3, hg4⟩ := and_e hg2
  obtain ⟨hg5, hg6⟩ := and_e hg4
  obtain ⟨hg7, hg8⟩ := and_e hg6
  obtain ⟨w0, w1, w2, w3, rfl⟩ : ∃ w0 w1 w2 w3 : Value, args = #[w0, w1, w2, w3] := by
    have hs : args.size = 4 := by simpa [Cond.value, given_1] using hg1
    obtain ⟨L⟩ := args
    match L, hs with
    | [w0, w1, w2, w3], _ => exact ⟨w0, w1, w2, w3, rfl⟩
  have hw := fun d (hd : d ∈ tables_1) => atoms_spec (ws := Jvm.Cond.code x code maxLocals ret :: tables_1) hat d (List.mem_cons_of_mem _ hd)
  obtain ⟨i0, ei0⟩ := isL_v hg3
  obtain rfl : w0 = (.long i0) := Option.some.inj ei0
  obtain ⟨i1, ei1⟩ := isL_v hg5
  obtain rfl : w1 = (.long i1) := Option.some.inj ei1
  obtain ⟨i2, ei2⟩ := isL_v hg7
  obtain rfl : w2 = (.long i2) := Option.some.inj ei2
  obtain ⟨i3, ei3⟩ := isL_v hg8
  obtain rfl : w3 = (.long i3) := Option.some.inj ei3
  obtain ⟨hsets, hown0⟩ := atoms_of _ (rest_1_c_eq ▸ (show rest_1_c.before _ s = true from hrest))
  obtain ⟨dz, edz⟩ := arr_v (Cond.before_iff.mp (hsets _ (List.mem_of_getElem? (i := 6) rfl)))
  have S0 := Sta.start edz (Or.inr ⟨hw _ (List.mem_of_getElem? (i := 3) rfl), hsets _ (List.mem_of_getElem? (i := 2) rfl)⟩)
  obtain ⟨n, o, h1, h2, h3, _, L, rfl, ⟨rfl, N⟩, hq⟩ := rm0 l s _ hw tables_1 i0 i1 i2 i3 dz s.heap s.heap.size (Nat.le_refl _) S0 p e ha hc hk s m _ below hf ((Spec.applies_iff_loose hf).mp happ).1 ⟨rfl, State.Warmed39.refl s, rfl⟩ trivial
  refine ⟨n, _, h1, h2, h3, hpost _ _ _ _ _ _ ⟨Cond.after_iff.mpr rfl, Cond.after_iff.mpr (eq_i res_at (Term.int_eval (1)) rfl)⟩ ⟨hq.1, hq.2.1, (hq.2.2.sift fun y hy => Or.inr (N y hy)).mono (by decide) (by decide)⟩⟩
theorem main_1_1 : Claimed_1_1 := comes_1 fun _ _ _ _ _ _ h hF => ⟨h.1, hF⟩
theorem main_1_2 : Claimed_1_2 := comes_1 fun _ _ _ _ _ _ h hF => ⟨h.2, hF⟩
end Jvm.Pilot.@@N@@
namespace Jvm.Pilot.@@N@@
open Jvm Jvm.ClassFile Sem Op Lib Jvm.Free Jvm.Stand Jvm.Pilot.@@N@@.Jvm.D
/-! MADE BY PROGRAM (witnessworld.py) out of the Statement's table words and the real class files: 21 classes; the members and pool entries that the words name. The judged class is class 1, her method 1. -/
namespace start1
open Jvm.ClassFile
def u (s : String) : CpInfo := .utf8 (stringToUtf16 s)
/-- a pool by its gaps: so many unusable entries, then the entry; so many at the end -/
def gap : Nat → List CpInfo → List CpInfo
  | 0, r => r
  | n + 1, r => .unusable :: gap n r
def poolList (es : List (Nat × CpInfo)) (last : Nat) : List CpInfo := es.foldr (fun e r => gap e.1 (e.2 :: r)) (gap last [])
def pool (es : List (Nat × CpInfo)) (last : Nat) : Array CpInfo := ⟨poolList es last⟩
def fileOf (pool : Array CpInfo) (this : Nat) (attrs : Array Attribute := #[]) (ms : Array MethodInfo := #[]) (fl : Nat := 33) (sup : Nat := 0) (ifs : Array Nat := #[]) (fds : Array FieldInfo := #[]) : ClassFile where
  minorVersion := 0
  majorVersion := 65
  constantPool := pool
  accessFlags := fl
  thisClass := this
  superClass := sup
  interfaces := ifs
  fields := fds
  methods := ms
  attributes := attrs
def plain (name : String) (sup : Option ClassId) : Class where
  name := name
  kind := .ordinary
  loader := none
  accessFlags := 33
  super := sup
  interfaces := #[]
  cf := none
  fields := #[]
  methods := #[]
  instanceTypes := #[]
  staticTypes := #[]
  resolved := #[]
  callSites := []
  init := .initialized
  statics := none
  mirror := none

def pool0 : Array CpInfo := pool [(5, u "<init>"), (0, u "()V"), (1, .class_ 10), (1, u "java/lang/Object")] 113

def k0c0 : Code := { maxStack := 0, maxLocals := 1, code := object_method_1_code, exceptionTable := #[], attributes := #[] }
def k0m0 : Method := { name := "<init>", desc := "()V", sig := { parameters := [], returnType := none }, accessFlags := 1, code := some k0c0 }
/-- java/lang/Object -/
def k0 : Class := { plain "java/lang/Object" none with
  accessFlags := 33
  interfaces := #[]
  cf := some (fileOf pool0 8 #[] #[{ accessFlags := 1, nameIndex := 5, descriptorIndex := 6, attributes := #[] }] 33 0 #[] #[])
  fields := #[]
  methods := #[k0m0]
  instanceTypes := #[]
  staticTypes := #[]
  resolved := Array.replicate 124 none
  statics := none }

def pool1 : Array CpInfo := pool [(2, .class_ 4), (0, .nameAndType 5 6), (0, u "java/lang/Object"), (0, u "<init>"), (0, u "()V"), (0, .class_ 8), (0, u "java/util/ArrayList"), (0, .methodref 7 3), (0, .class_ 11), (0, u "com/example/access_bindings/accessbindings/benchmark/Exchanged"), (0, .methodref 10 13), (0, .nameAndType 5 14), (0, u "(J[JLjava/util/List;)V"), (0, .methodref 10 16), (0, .nameAndType 17 18), (0, u "took"), (0, u "(I)J"), (0, .class_ 20), (0, u "com/example/access_bindings/accessbindings/benchmark/ExchangedTookPinLaw"), (2, u "law"), (0, u "(JJJJ)Z")] 5

def k1m0 : Method := { name := "<init>", desc := "()V", sig := { parameters := [], returnType := none }, accessFlags := 1, code := none }
def k1c1 : Code := { maxStack := 6, maxLocals := 17, code := code, exceptionTable := #[], attributes := #[] }
def k1m1 : Method := { name := "law", desc := "(JJJJ)Z", sig := { parameters := [.long, .long, .long, .long], returnType := some .boolean }, accessFlags := 9, code := some k1c1 }
/-- com/example/access_bindings/accessbindings/benchmark/ExchangedTookPinLaw -/
def k1 : Class := { plain "com/example/access_bindings/accessbindings/benchmark/ExchangedTookPinLaw" (some 0) with
  accessFlags := 49
  interfaces := #[]
  cf := some (fileOf pool1 19 #[] #[{ accessFlags := 1, nameIndex := 5, descriptorIndex := 6, attributes := #[] }, { accessFlags := 9, nameIndex := 23, descriptorIndex := 24, attributes := #[] }] 49 2 #[] #[])
  fields := #[]
  methods := #[k1m0, k1m1]
  instanceTypes := #[]
  staticTypes := #[]
  resolved := Array.replicate 30 none
  statics := none }

def pool2 : Array CpInfo := pool [(8, .class_ 10), (1, u "java/lang/Iterable"), (24, .class_ 36), (0, u "java/lang/Object")] 25

/-- java/lang/Iterable -/
def k2 : Class := { plain "java/lang/Iterable" (some 0) with
  accessFlags := 1537
  interfaces := #[]
  cf := some (fileOf pool2 8 #[] #[] 1537 35 #[] #[])
  fields := #[]
  methods := #[]
  instanceTypes := #[]
  staticTypes := #[]
  resolved := Array.replicate 62 none
  statics := none }

def pool3 : Array CpInfo := pool [(10, .class_ 12), (1, u "java/util/Collection"), (47, .class_ 61), (0, u "java/lang/Object"), (0, .class_ 63), (0, u "java/lang/Iterable")] 51

/-- java/util/Collection -/
def k3 : Class := { plain "java/util/Collection" (some 0) with
  accessFlags := 1537
  interfaces := #[2]
  cf := some (fileOf pool3 10 #[] #[] 1537 60 #[62] #[])
  fields := #[]
  methods := #[]
  instanceTypes := #[]
  staticTypes := #[]
  resolved := Array.replicate 115 none
  statics := none }

def pool4 : Array CpInfo := pool [(1, .methodref 2 3), (0, .class_ 4), (0, .nameAndType 5 6), (0, u "java/lang/Object"), (0, u "<init>"), (0, u "()V"), (1, .class_ 10), (1, u "java/util/AbstractCollection"), (66, .class_ 78), (0, u "java/util/Collection")] 81

def k4c0 : Code := { maxStack := 1, maxLocals := 1, code := jdk_22_method_1_code, exceptionTable := #[], attributes := #[] }
def k4m0 : Method := { name := "<init>", desc := "()V", sig := { parameters := [], returnType := none }, accessFlags := 4, code := some k4c0 }
/-- java/util/AbstractCollection -/
def k4 : Class := { plain "java/util/AbstractCollection" (some 0) with
  accessFlags := 1057
  interfaces := #[3]
  cf := some (fileOf pool4 8 #[] #[{ accessFlags := 4, nameIndex := 5, descriptorIndex := 6, attributes := #[] }] 1057 2 #[77] #[])
  fields := #[]
  methods := #[k4m0]
  instanceTypes := #[]
  staticTypes := #[]
  resolved := Array.replicate 160 none
  statics := none }

def pool5 : Array CpInfo := pool [(8, .class_ 10), (1, u "java/util/SequencedCollection"), (15, .class_ 27), (0, u "java/lang/Object"), (0, .class_ 29), (0, u "java/util/Collection")] 27

/-- java/util/SequencedCollection -/
def k5 : Class := { plain "java/util/SequencedCollection" (some 0) with
  accessFlags := 1537
  interfaces := #[3]
  cf := some (fileOf pool5 8 #[] #[] 1537 26 #[28] #[])
  fields := #[]
  methods := #[]
  instanceTypes := #[]
  staticTypes := #[]
  resolved := Array.replicate 57 none
  statics := none }

def pool6 : Array CpInfo := pool [(8, .class_ 10), (1, u "java/util/List"), (92, .class_ 104), (0, u "java/lang/Object"), (15, .class_ 121), (0, u "java/util/SequencedCollection")] 129

/-- java/util/List -/
def k6 : Class := { plain "java/util/List" (some 0) with
  accessFlags := 1537
  interfaces := #[5]
  cf := some (fileOf pool6 8 #[] #[] 1537 103 #[120] #[])
  fields := #[]
  methods := #[]
  instanceTypes := #[]
  staticTypes := #[]
  resolved := Array.replicate 251 none
  statics := none }

def pool7 : Array CpInfo := pool [(1, .methodref 2 3), (0, .class_ 4), (0, .nameAndType 5 6), (0, u "java/util/AbstractCollection"), (0, u "<init>"), (0, u "()V"), (0, .fieldref 8 9), (0, .class_ 10), (0, .nameAndType 11 12), (0, u "java/util/AbstractList"), (0, u "modCount"), (0, u "I"), (64, .class_ 78), (0, u "java/util/AbstractList$Itr"), (3, .class_ 83), (0, u "java/util/AbstractList$ListItr"), (9, .class_ 94), (0, u "java/util/AbstractList$RandomAccessSubList"), (3, .class_ 99), (0, u "java/util/AbstractList$SubList"), (33, .class_ 134), (0, u "java/util/List"), (73, .class_ 209), (0, u "java/util/AbstractList$SubList$1"), (0, .class_ 211), (0, u "java/util/AbstractList$RandomAccessSpliterator")] 6

def k7c0 : Code := { maxStack := 2, maxLocals := 1, code := jdk_39_method_1_code, exceptionTable := #[], attributes := #[] }
def k7m0 : Method := { name := "<init>", desc := "()V", sig := { parameters := [], returnType := none }, accessFlags := 4, code := some k7c0 }
/-- java/util/AbstractList -/
def k7 : Class := { plain "java/util/AbstractList" (some 4) with
  accessFlags := 1057
  interfaces := #[6]
  cf := some (fileOf pool7 8 #[.nestMembers #[93, 98, 208, 210, 82, 77]] #[{ accessFlags := 4, nameIndex := 5, descriptorIndex := 6, attributes := #[] }] 1057 2 #[133] #[{ accessFlags := 132, nameIndex := 11, descriptorIndex := 12, attributes := #[] }])
  fields := #[{ name := "modCount", type := .int, accessFlags := 132, slot := 0, constantValue := 0 }]
  methods := #[k7m0]
  instanceTypes := #[.int]
  staticTypes := #[]
  resolved := Array.replicate 218 none
  statics := none }

def pool8 : Array CpInfo := pool [(1, .class_ 2), (0, u "java/util/RandomAccess"), (0, .class_ 4), (0, u "java/lang/Object")] 2

/-- java/util/RandomAccess -/
def k8 : Class := { plain "java/util/RandomAccess" (some 0) with
  accessFlags := 1537
  interfaces := #[]
  cf := some (fileOf pool8 1 #[] #[] 1537 3 #[] #[])
  fields := #[]
  methods := #[]
  instanceTypes := #[]
  staticTypes := #[]
  resolved := Array.replicate 7 none
  statics := none }

def pool9 : Array CpInfo := pool [(1, .class_ 2), (0, u "java/lang/Cloneable"), (0, .class_ 4), (0, u "java/lang/Object")] 2

/-- java/lang/Cloneable -/
def k9 : Class := { plain "java/lang/Cloneable" (some 0) with
  accessFlags := 1537
  interfaces := #[]
  cf := some (fileOf pool9 1 #[] #[] 1537 3 #[] #[])
  fields := #[]
  methods := #[]
  instanceTypes := #[]
  staticTypes := #[]
  resolved := Array.replicate 7 none
  statics := none }

def pool10 : Array CpInfo := pool [(1, .class_ 2), (0, u "java/io/Serializable"), (0, .class_ 4), (0, u "java/lang/Object")] 2

/-- java/io/Serializable -/
def k10 : Class := { plain "java/io/Serializable" (some 0) with
  accessFlags := 1537
  interfaces := #[]
  cf := some (fileOf pool10 1 #[] #[] 1537 3 #[] #[])
  fields := #[]
  methods := #[]
  instanceTypes := #[]
  staticTypes := #[]
  resolved := Array.replicate 7 none
  statics := none }

def pool11 : Array CpInfo := pool [(1, .methodref 2 3), (0, .class_ 4), (0, .nameAndType 5 6), (0, u "java/util/AbstractList"), (0, u "<init>"), (0, u "()V"), (2, .fieldref 10 11), (0, .class_ 12), (0, .nameAndType 13 14), (0, u "java/util/ArrayList"), (0, u "elementData"), (0, u "[Ljava/lang/Object;"), (2, u "EMPTY_ELEMENTDATA"), (21, .fieldref 10 40), (0, .nameAndType 41 14), (0, u "DEFAULTCAPACITY_EMPTY_ELEMENTDATA"), (8, u "size"), (0, u "I"), (96, .class_ 149), (0, u "java/util/List"), (112, .class_ 263), (0, u "java/util/ArrayList$ListItr"), (3, .class_ 268), (0, u "java/util/ArrayList$Itr"), (7, .class_ 277), (0, u "java/util/ArrayList$SubList"), (12, .class_ 291), (0, u "java/util/ArrayList$ArrayListSpliterator"), (37, .class_ 330), (0, u "java/util/RandomAccess"), (0, .class_ 332), (0, u "java/lang/Cloneable"), (0, .class_ 334), (0, u "java/io/Serializable"), (0, u "serialVersionUID"), (0, u "J"), (3, u "DEFAULT_CAPACITY"), (159, .class_ 501), (0, u "java/util/ArrayList$SubList$2"), (0, .class_ 503), (0, u "java/util/ArrayList$SubList$1")] 5

def k11c0 : Code := { maxStack := 2, maxLocals := 1, code := jdk_38_method_2_code, exceptionTable := #[], attributes := #[] }
def k11m0 : Method := { name := "<init>", desc := "()V", sig := { parameters := [], returnType := none }, accessFlags := 1, code := some k11c0 }
/-- java/util/ArrayList -/
def k11 : Class := { plain "java/util/ArrayList" (some 7) with
  accessFlags := 33
  interfaces := #[6, 8, 9, 10]
  cf := some (fileOf pool11 10 #[.nestMembers #[290, 276, 500, 502, 262, 267]] #[{ accessFlags := 1, nameIndex := 5, descriptorIndex := 6, attributes := #[] }] 33 2 #[148, 329, 331, 333] #[{ accessFlags := 26, nameIndex := 335, descriptorIndex := 336, attributes := #[] }, { accessFlags := 26, nameIndex := 340, descriptorIndex := 51, attributes := #[] }, { accessFlags := 26, nameIndex := 17, descriptorIndex := 14, attributes := #[] }, { accessFlags := 26, nameIndex := 41, descriptorIndex := 14, attributes := #[] }, { accessFlags := 128, nameIndex := 13, descriptorIndex := 14, attributes := #[] }, { accessFlags := 2, nameIndex := 50, descriptorIndex := 51, attributes := #[] }])
  fields := #[{ name := "serialVersionUID", type := .long, accessFlags := 26, slot := 0, constantValue := 0 }, { name := "DEFAULT_CAPACITY", type := .int, accessFlags := 26, slot := 1, constantValue := 0 }, { name := "EMPTY_ELEMENTDATA", type := (.array (.object "java/lang/Object")), accessFlags := 26, slot := 2, constantValue := 0 }, { name := "DEFAULTCAPACITY_EMPTY_ELEMENTDATA", type := (.array (.object "java/lang/Object")), accessFlags := 26, slot := 3, constantValue := 0 }, { name := "elementData", type := (.array (.object "java/lang/Object")), accessFlags := 128, slot := 1, constantValue := 0 }, { name := "size", type := .int, accessFlags := 2, slot := 2, constantValue := 0 }]
  methods := #[k11m0]
  instanceTypes := #[.int, (.array (.object "java/lang/Object")), .int]
  staticTypes := #[.long, .int, (.array (.object "java/lang/Object")), (.array (.object "java/lang/Object"))]
  resolved := Array.replicate 509 none
  statics := some 0 }

def pool12 : Array CpInfo := pool [(1, .methodref 2 3), (0, .class_ 4), (0, .nameAndType 5 6), (0, u "java/lang/Object"), (0, u "<init>"), (0, u "()V"), (0, .class_ 8), (0, u "java/lang/Record")] 13

def k12c0 : Code := { maxStack := 1, maxLocals := 1, code := jdk_30_method_1_code, exceptionTable := #[], attributes := #[] }
def k12m0 : Method := { name := "<init>", desc := "()V", sig := { parameters := [], returnType := none }, accessFlags := 4, code := some k12c0 }
/-- java/lang/Record -/
def k12 : Class := { plain "java/lang/Record" (some 0) with
  accessFlags := 1057
  interfaces := #[]
  cf := some (fileOf pool12 7 #[] #[{ accessFlags := 4, nameIndex := 5, descriptorIndex := 6, attributes := #[] }] 1057 2 #[] #[])
  fields := #[]
  methods := #[k12m0]
  instanceTypes := #[]
  staticTypes := #[]
  resolved := Array.replicate 22 none
  statics := none }

def pool13 : Array CpInfo := pool [(1, .methodref 2 3), (0, .class_ 4), (0, .nameAndType 5 6), (0, u "java/lang/Record"), (0, u "<init>"), (0, u "()V"), (0, .fieldref 8 9), (0, .class_ 10), (0, .nameAndType 11 12), (0, u "com/example/access_bindings/accessbindings/benchmark/Exchanged"), (0, u "firstSent"), (0, u "J"), (0, .fieldref 8 14), (0, .nameAndType 15 16), (0, u "answeredAt"), (0, u "[J"), (0, .fieldref 8 18), (0, .nameAndType 19 20), (0, u "answers"), (0, u "Ljava/util/List;"), (14, u "(J[JLjava/util/List;)V"), (6, u "took"), (0, u "(I)J")] 30

def k13c0 : Code := { maxStack := 3, maxLocals := 5, code := prog_33_method_1_code, exceptionTable := #[], attributes := #[] }
def k13m0 : Method := { name := "<init>", desc := "(J[JLjava/util/List;)V", sig := { parameters := [.long, (.array .long), (.object "java/util/List")], returnType := none }, accessFlags := 0, code := some k13c0 }
def k13c1 : Code := { maxStack := 4, maxLocals := 4, code := prog_33_method_3_code, exceptionTable := #[], attributes := #[] }
def k13m1 : Method := { name := "took", desc := "(I)J", sig := { parameters := [.int], returnType := some .long }, accessFlags := 0, code := some k13c1 }
/-- com/example/access_bindings/accessbindings/benchmark/Exchanged -/
def k13 : Class := { plain "com/example/access_bindings/accessbindings/benchmark/Exchanged" (some 12) with
  accessFlags := 48
  interfaces := #[]
  cf := some (fileOf pool13 8 #[] #[{ accessFlags := 0, nameIndex := 5, descriptorIndex := 35, attributes := #[] }, { accessFlags := 0, nameIndex := 42, descriptorIndex := 43, attributes := #[] }] 48 2 #[] #[{ accessFlags := 18, nameIndex := 11, descriptorIndex := 12, attributes := #[] }, { accessFlags := 18, nameIndex := 15, descriptorIndex := 16, attributes := #[] }, { accessFlags := 18, nameIndex := 19, descriptorIndex := 20, attributes := #[] }])
  fields := #[{ name := "firstSent", type := .long, accessFlags := 18, slot := 0, constantValue := 0 }, { name := "answeredAt", type := (.array .long), accessFlags := 18, slot := 1, constantValue := 0 }, { name := "answers", type := (.object "java/util/List"), accessFlags := 18, slot := 2, constantValue := 0 }]
  methods := #[k13m0, k13m1]
  instanceTypes := #[.long, (.array .long), (.object "java/util/List")]
  staticTypes := #[]
  resolved := Array.replicate 74 none
  statics := none }

/-- the primitive byte -/
def k14 : Class := { plain "byte" none with kind := .primitive 'B', accessFlags := 0x411 }
/-- [B -/
def k15 : Class := { plain "[B" (some 0) with kind := .array 14 .byte, interfaces := #[9, 10], accessFlags := 1041 }

/-- the primitive int -/
def k16 : Class := { plain "int" none with kind := .primitive 'I', accessFlags := 0x411 }
/-- [I -/
def k17 : Class := { plain "[I" (some 0) with kind := .array 16 .int, interfaces := #[9, 10], accessFlags := 1041 }

/-- the primitive long -/
def k18 : Class := { plain "long" none with kind := .primitive 'J', accessFlags := 0x411 }
/-- [J -/
def k19 : Class := { plain "[J" (some 0) with kind := .array 18 .long, interfaces := #[9, 10], accessFlags := 1041 }

/-- [Ljava/lang/Object; -/
def k20 : Class := { plain "[Ljava/lang/Object;" (some 0) with kind := .array 0 (.object "java/lang/Object"), interfaces := #[9, 10], accessFlags := 1041 }

def heap : Heap := #[{ cls := 11, slots := #[.long 0, .int 0, .ref 1, .ref 2], vm := .statics 11 },
  { cls := 20, slots := #[], vm := .none },
  { cls := 20, slots := #[], vm := .none }]
def classes : Array Class := #[k0, k1, k2, k3, k4, k5, k6, k7, k8, k9, k10, k11, k12, k13, k14, k15, k16, k17, k18, k19, k20]
def interned : List (Array UInt16 × Addr) := []
def slotsUsed : Nat := 4
def theMethod : MethodId := ⟨1, 1⟩
def args0 : Array Value := #[.long 5, .long 7, .long 9, .long 11]
def aboutOver (below : List Frame) : State where
  vm := { classes := classes, interned := interned.toArray }
  heap := heap
  slotsUsed := slotsUsed
  threads := #[{ frames := .invoking theMethod args0 :: below }]
def below0 : List Frame := [.native { method := ⟨0, 0⟩, args := #[] }]
def about1 : State := aboutOver below0
def p0 : Program := .bare "" "" ""
def e0 : Env := launch0.env 0 0 0
theorem w_frames : about1.frames = Frame.invoking theMethod args0 :: below0 := rfl
set_option maxRecDepth 65536 in
theorem w_args : argsFit about1.vm theMethod args0 = true := by decide +kernel
set_option maxRecDepth 65536 in
theorem w_heap : heapFits about1 = true := by decide +kernel
set_option maxRecDepth 65536 in
theorem w_runnable : about1.curStatus? = some .runnable := by decide +kernel
set_option maxRecDepth 65536 in
theorem w_alone : about1.alone = true := by decide +kernel
set_option maxRecDepth 65536 in
theorem w_named : about1.methodNamed? x = some theMethod := by decide +kernel
set_option maxRecDepth 65536 in
theorem w_hears : about1.hears theMethod below0 = true := by decide +kernel
set_option maxRecDepth 65536 in
theorem w_ripe : about1.ripe theMethod args0 below0 = true := by decide +kernel
theorem w_running : about1.status = .running := rfl
set_option maxRecDepth 65536 in
theorem w_room : about1.hasRoom e0.platform room_1 = true :=
  launch0.hasRoom_least _ room_1 (by decide +kernel) (by decide +kernel) (by decide +kernel) (by decide +kernel) (by decide +kernel) (by decide +kernel)
theorem allAtoms_all (ts : List Jvm.Cond) (a : Array Jvm.Value) (st : Jvm.State) : (allAtoms ts).before a st = ts.all (fun c => c.before a st) := by
  induction ts with
  | nil => rfl
  | cons c t ih =>
    show (Jvm.Cond.and c (allAtoms t)).before a st = _
    rw [Jvm.Cond.before_and, ih, List.all_cons]
def words1 : List Jvm.Cond := Jvm.Cond.code x code maxLocals ret :: tables_1
/-- a 'code' word, met by the world's own term for the bytes: nothing is compared byte by byte -/
theorem code_word {y : MethodName} {bytes : ByteArray} {mx : Nat} {rt : Option FieldType} {a : Array Value} {s : State} {m : MethodId} {meth : Method} {c : Code} (h1 : s.methodNamed? y = some m) (h2 : s.vm.method? m = some meth) (h3 : meth.code = some c) (h4 : c.code = bytes)
    (h5 : (c.maxLocals == mx && c.exceptionTable.isEmpty && decide (c.maxStack ≤ mostOperands) && decide (meth.sig.returnType = rt) && !meth.locks && decide (parseMethodDescriptor y.desc = some meth.sig)) = true) : (Jvm.Cond.code y bytes mx rt).before a s = true := by
  simp only [Bool.and_eq_true, beq_iff_eq, Bool.not_eq_true', decide_eq_true_eq] at h5
  obtain ⟨⟨⟨⟨⟨g1, g2⟩, g3⟩, g4⟩, g5⟩, g6⟩ := h5
  simp [Cond.before, Cond.holds, Cond.value, h1, h2, h3, h4, g1, g2, g3, g4, g5, g6]
def isCode : Jvm.Cond → Bool
  | .code _ _ _ _ => true
  | _ => false
theorem all_split {L : List Jvm.Cond} {P : Jvm.Cond → Bool} (h1 : L.all (fun c => isCode c || P c) = true) (h2 : ∀ c ∈ L.filter isCode, P c = true) : L.all P = true := by
  refine List.all_eq_true.mpr fun c hc => ?_
  have h := List.all_eq_true.mp h1 c hc
  rcases Bool.eq_false_or_eq_true (isCode c) with hi | hi
  · exact h2 c (List.mem_filter.mpr ⟨hc, hi⟩)
  · simpa [hi] using h
set_option maxRecDepth 65536 in
theorem w_c0 : (Jvm.Cond.code x code maxLocals ret).before args0 about1 = true := code_word (m := ⟨1, 1⟩) (meth := k1m1) (c := k1c1) (by decide +kernel) rfl rfl rfl (by decide +kernel)
set_option maxRecDepth 65536 in
theorem w_c1 : (Jvm.Cond.code ({ cls := "java/util/ArrayList", name := "<init>", desc := "()V" } : Jvm.MethodName) jdk_38_method_2_code (1 : Nat) (Option.none : Option Jvm.ClassFile.FieldType)).before args0 about1 = true := code_word (m := ⟨11, 0⟩) (meth := k11m0) (c := k11c0) (by decide +kernel) rfl rfl rfl (by decide +kernel)
set_option maxRecDepth 65536 in
theorem w_c2 : (Jvm.Cond.code ({ cls := "java/util/AbstractList", name := "<init>", desc := "()V" } : Jvm.MethodName) jdk_39_method_1_code (1 : Nat) (Option.none : Option Jvm.ClassFile.FieldType)).before args0 about1 = true := code_word (m := ⟨7, 0⟩) (meth := k7m0) (c := k7c0) (by decide +kernel) rfl rfl rfl (by decide +kernel)
set_option maxRecDepth 65536 in
theorem w_c3 : (Jvm.Cond.code ({ cls := "java/util/AbstractCollection", name := "<init>", desc := "()V" } : Jvm.MethodName) jdk_22_method_1_code (1 : Nat) (Option.none : Option Jvm.ClassFile.FieldType)).before args0 about1 = true := code_word (m := ⟨4, 0⟩) (meth := k4m0) (c := k4c0) (by decide +kernel) rfl rfl rfl (by decide +kernel)
set_option maxRecDepth 65536 in
theorem w_c4 : (Jvm.Cond.code ({ cls := "java/lang/Object", name := "<init>", desc := "()V" } : Jvm.MethodName) object_method_1_code (1 : Nat) (Option.none : Option Jvm.ClassFile.FieldType)).before args0 about1 = true := code_word (m := ⟨0, 0⟩) (meth := k0m0) (c := k0c0) (by decide +kernel) rfl rfl rfl (by decide +kernel)
set_option maxRecDepth 65536 in
theorem w_c5 : (Jvm.Cond.code ({ cls := "com/example/access_bindings/accessbindings/benchmark/Exchanged", name := "<init>", desc := "(J[JLjava/util/List;)V" } : Jvm.MethodName) prog_33_method_1_code (5 : Nat) (Option.none : Option Jvm.ClassFile.FieldType)).before args0 about1 = true := code_word (m := ⟨13, 0⟩) (meth := k13m0) (c := k13c0) (by decide +kernel) rfl rfl rfl (by decide +kernel)
set_option maxRecDepth 65536 in
theorem w_c6 : (Jvm.Cond.code ({ cls := "java/lang/Record", name := "<init>", desc := "()V" } : Jvm.MethodName) jdk_30_method_1_code (1 : Nat) (Option.none : Option Jvm.ClassFile.FieldType)).before args0 about1 = true := code_word (m := ⟨12, 0⟩) (meth := k12m0) (c := k12c0) (by decide +kernel) rfl rfl rfl (by decide +kernel)
set_option maxRecDepth 65536 in
theorem w_c7 : (Jvm.Cond.code ({ cls := "com/example/access_bindings/accessbindings/benchmark/Exchanged", name := "took", desc := "(I)J" } : Jvm.MethodName) prog_33_method_3_code (4 : Nat) (Option.some Jvm.ClassFile.FieldType.long)).before args0 about1 = true := code_word (m := ⟨13, 1⟩) (meth := k13m1) (c := k13c1) (by decide +kernel) rfl rfl rfl (by decide +kernel)
def codes1 : List Jvm.Cond := [Jvm.Cond.code x code maxLocals ret, Jvm.Cond.code ({ cls := "java/util/ArrayList", name := "<init>", desc := "()V" } : Jvm.MethodName) jdk_38_method_2_code (1 : Nat) (Option.none : Option Jvm.ClassFile.FieldType), Jvm.Cond.code ({ cls := "java/util/AbstractList", name := "<init>", desc := "()V" } : Jvm.MethodName) jdk_39_method_1_code (1 : Nat) (Option.none : Option Jvm.ClassFile.FieldType), Jvm.Cond.code ({ cls := "java/util/AbstractCollection", name := "<init>", desc := "()V" } : Jvm.MethodName) jdk_22_method_1_code (1 : Nat) (Option.none : Option Jvm.ClassFile.FieldType), Jvm.Cond.code ({ cls := "java/lang/Object", name := "<init>", desc := "()V" } : Jvm.MethodName) object_method_1_code (1 : Nat) (Option.none : Option Jvm.ClassFile.FieldType), Jvm.Cond.code ({ cls := "com/example/access_bindings/accessbindings/benchmark/Exchanged", name := "<init>", desc := "(J[JLjava/util/List;)V" } : Jvm.MethodName) prog_33_method_1_code (5 : Nat) (Option.none : Option Jvm.ClassFile.FieldType), Jvm.Cond.code ({ cls := "java/lang/Record", name := "<init>", desc := "()V" } : Jvm.MethodName) jdk_30_method_1_code (1 : Nat) (Option.none : Option Jvm.ClassFile.FieldType), Jvm.Cond.code ({ cls := "com/example/access_bindings/accessbindings/benchmark/Exchanged", name := "took", desc := "(I)J" } : Jvm.MethodName) prog_33_method_3_code (4 : Nat) (Option.some Jvm.ClassFile.FieldType.long)]
set_option maxRecDepth 65536 in
theorem codes_eq : words1.filter isCode = codes1 := rfl
theorem w_codes : ∀ c ∈ words1.filter isCode, c.before args0 about1 = true := by
  rw [codes_eq]
  intro c hc
  simp only [codes1, List.mem_cons, List.not_mem_nil, or_false] at hc
  rcases hc with rfl | rfl | rfl | rfl | rfl | rfl | rfl | rfl
  · exact w_c0
  · exact w_c1
  · exact w_c2
  · exact w_c3
  · exact w_c4
  · exact w_c5
  · exact w_c6
  · exact w_c7
set_option maxRecDepth 65536 in
theorem w_t1 : (words1.take 24).all (fun c => isCode c || c.before args0 about1) = true := by decide +kernel
set_option maxRecDepth 65536 in
theorem w_t2 : ((words1.drop 24).take 24).all (fun c => isCode c || c.before args0 about1) = true := by decide +kernel
set_option maxRecDepth 65536 in
theorem w_t3 : ((words1.drop 24).drop 24).all (fun c => isCode c || c.before args0 about1) = true := by decide +kernel
theorem w_tables : (allAtoms (Jvm.Cond.code x code maxLocals ret :: tables_1)).before args0 about1 = true := by
  rw [allAtoms_all]
  show words1.all (fun c => c.before args0 about1) = true
  refine all_split ?_ w_codes
  rw [← List.take_append_drop 24 words1, List.all_append, w_t1, ← List.take_append_drop 24 (words1.drop 24), List.all_append, w_t2, w_t3]
  rfl
set_option maxRecDepth 65536 in
theorem w_rest : rest_1_c.before args0 about1 = true := by decide +kernel
set_option maxRecDepth 65536 in
theorem w_case : (Jvm.Cond.and given_1 narrow_1).before args0 about1 = true := by decide +kernel
theorem w_applies : (headSpec (Jvm.Cond.code x code maxLocals ret :: tables_1) room_1).applies x e0.platform about1 = true :=
  (Spec.applies_iff w_frames).mpr ⟨w_running, w_runnable, w_alone, w_named, w_hears, w_ripe, w_room, w_tables⟩
theorem atStart : AtStart classFile x code maxLocals ret World_1 tables_1 room_1 Calls_1 rest_1 Pre_1 launch0 p0 e0 about1 theMethod args0 below0 :=
  ⟨lists_1, trivial, launch0.admits_env _ _ _, launch0.least_env, fairChoices_fair.cas, fairChoices_fair.clock, w_frames, w_args, w_heap, w_applies, trivial, w_rest, w_case⟩
end start1
theorem witness_1 : WitnessClaimed_1 := ⟨start1.p0, start1.e0, start1.about1, start1.theMethod, start1.args0, start1.below0, start1.atStart⟩
end Jvm.Pilot.@@N@@
