import JvmDerived
import JvmDerived.Pilot.@@N@@Statement
import JvmDerived.Pilot.@@N@@Code
set_option linter.unusedVariables false
set_option linter.unusedSimpArgs false
namespace Jvm.RoadKit
open Sem ClassFile Op Lib Jvm.Stand Jvm.Free Jvm.LawKit
section New
variable {p : Program} {l : Launch} {e : Env} {R : Room} {s : State} {m : MethodId} {args : Array Value} {below : List Frame} {meth : Method} {c : Code} {T : State} {locs : List Loc} {cells slots : Nat}
theorem retI (X : Stand p l e R s m args below meth c T locs cells slots) (hx : p.tables.exec = Jvm.exec) {pc : Nat} {Ls : Array Slot} {z : Int32} {rest : List Value} (hret : meth.sig.returnType = some .int) (hd : decode c.code pc = .ok (.ireturn, 1)) {fs : List Frame}
    (hl : ∀ (f : JFrame) (acts : List Action), f.method = m → f.locked = none → f.entered = [] → (doReturn e (T.setTop f) acts (some (.int z))).1 = T.setFrames fs) : Steps p.tables e below (T.setTop (mkF m pc Ls (.int z :: rest))) (T.setFrames fs) :=
  retOut X hx hret rfl (Or.inl ⟨rfl, Or.inl rfl, _, rfl⟩) hd hl
theorem retL (X : Stand p l e R s m args below meth c T locs cells slots) (hx : p.tables.exec = Jvm.exec) {pc : Nat} {Ls : Array Slot} {z : Int64} {rest : List Value} (hret : meth.sig.returnType = some .long) (hd : decode c.code pc = .ok (.lreturn, 1)) {fs : List Frame}
    (hl : ∀ (f : JFrame) (acts : List Action), f.method = m → f.locked = none → f.entered = [] → (doReturn e (T.setTop f) acts (some (.long z))).1 = T.setFrames fs) : Steps p.tables e below (T.setTop (mkF m pc Ls (.long z :: rest))) (T.setFrames fs) :=
  retOut X hx hret rfl (Or.inr (Or.inl ⟨rfl, rfl, _, rfl⟩)) hd hl
theorem retA (X : Stand p l e R s m args below meth c T locs cells slots) (hx : p.tables.exec = Jvm.exec) {pc : Nat} {Ls : Array Slot} {z : Addr} {t : FieldType} {rest : List Value} (hret : meth.sig.returnType = some t) (ht : t.isReference = true) (hd : decode c.code pc = .ok (.areturn, 1)) {fs : List Frame}
    (hn : narrow t (.ref z) = .ref z) (hl : ∀ (f : JFrame) (acts : List Action), f.method = m → f.locked = none → f.entered = [] → (doReturn e (T.setTop f) acts (some (.ref z))).1 = T.setFrames fs) : Steps p.tables e below (T.setTop (mkF m pc Ls (.ref z :: rest))) (T.setFrames fs) :=
  retOut X hx hret hn (Or.inr (Or.inr (Or.inr (Or.inr ⟨rfl, ht, rfl⟩)))) hd hl
end New
end Jvm.RoadKit
namespace Jvm.Pilot.@@N@@
open Jvm Jvm.ClassFile Sem Op Lib Jvm.Free Jvm.Stand Jvm.LawKit Jvm.RoadKit Bundle Jvm.Pilot.@@N@@.Jvm.D
/-- the walk moves on: what runs from S' runs from S -/
theorem own_go {tb : Tables} {e : Env} {below : List Frame} {S S' : State} {P : State → Outcome → Prop} (h : ∀ t, Steps tb e below S' t → Steps tb e below S t)
    (k : ∃ s₂ o, Steps tb e below S' s₂ ∧ s₂.status = .running ∧ Ended s₂ below o ∧ P s₂ o) : ∃ s₂ o, Steps tb e below S s₂ ∧ s₂.status = .running ∧ Ended s₂ below o ∧ P s₂ o := by
  obtain ⟨s₂, o, h1, h2⟩ := k
  exact ⟨s₂, o, h _ h1, h2⟩
/-- Java's x >>> y on ints and on longs -/
def own_ushr (x y : Int32) : Int32 := (x.toUInt32 >>> (y &&& 31).toUInt32).toInt32
def own_ushrL (x : Int64) (y : Int32) : Int64 := (x.toUInt64 >>> (y &&& 0x3f).toInt64.toUInt64).toInt64
def own_shlL (x : Int64) (y : Int32) : Int64 := x <<< (y &&& 0x3f).toInt64
def own_shrL (x : Int64) (y : Int32) : Int64 := x >>> (y &&& 0x3f).toInt64
def own_shl (x y : Int32) : Int32 := x <<< (y &&& 31)
def own_shr (x y : Int32) : Int32 := x >>> (y &&& 31)
/-- an array by its places: ints (byte, char, short, boolean too), longs -/
def own_AI (Z : State) (h : Heap) (a : Addr) (ty : FieldType) (n : Nat) (g : Nat → Int32) : Prop := ∃ c : Cell, Arr Z h a c ty ∧ c.slots.size = n ∧ n < 2 ^ 31 ∧ ∀ i, i < n → c.slots[i]? = some (.int (g i))
def own_AJ (Z : State) (h : Heap) (a : Addr) (ty : FieldType) (n : Nat) (g : Nat → Int64) : Prop := ∃ c : Cell, Arr Z h a c ty ∧ c.slots.size = n ∧ n < 2 ^ 31 ∧ ∀ i, i < n → c.slots[i]? = some (.long (g i))
def own_AD (Z : State) (h : Heap) (a : Addr) (ty : FieldType) (n : Nat) (g : Nat → UInt64) : Prop := ∃ c : Cell, Arr Z h a c ty ∧ c.slots.size = n ∧ n < 2 ^ 31 ∧ ∀ i, i < n → c.slots[i]? = some (.double (g i))
def own_upd {α : Type} (g : Nat → α) (j : Nat) (v : α) : Nat → α := fun i => if i = j then v else g i
theorem own_upd_same {α : Type} (g : Nat → α) (j : Nat) (v : α) : own_upd g j v j = v := if_pos rfl
theorem own_upd_ne {α : Type} (g : Nat → α) {i j : Nat} (v : α) (h : i ≠ j) : own_upd g j v i = g i := if_neg h
section OwnArrays
variable {Z : State} {h h' : Heap} {a b : Addr} {ty : FieldType} {n sl : Nat} {v : Value} {ws : List Addr}
theorem own_AI.lt {g : Nat → Int32} (F : own_AI Z h a ty n g) : a < h.size := by obtain ⟨c, A, -⟩ := F; exact A.lt
theorem own_AI.ext {g : Nat → Int32} (F : own_AI Z h a ty n g) (E : Ext h h') : own_AI Z h' a ty n g := by obtain ⟨c, A, r⟩ := F; exact ⟨c, A.ext E, r⟩
theorem own_AI.other {g : Nat → Int32} (F : own_AI Z h b ty n g) (W : Wr h h' a sl v) (q : b ≠ a) : own_AI Z h' b ty n g := by obtain ⟨c, A, r⟩ := F; exact ⟨c, A.other W q, r⟩
theorem own_AI.keep {g : Nat → Int32} (F : own_AI Z h a ty n g) (K : Keep h h' ws) (q : a ∉ ws) : own_AI Z h' a ty n g := by obtain ⟨c, A, r⟩ := F; exact ⟨c, ⟨K.2.1 a c A.1 q, A.2⟩, r⟩
theorem own_AJ.lt {g : Nat → Int64} (F : own_AJ Z h a ty n g) : a < h.size := by obtain ⟨c, A, -⟩ := F; exact A.lt
theorem own_AJ.ext {g : Nat → Int64} (F : own_AJ Z h a ty n g) (E : Ext h h') : own_AJ Z h' a ty n g := by obtain ⟨c, A, r⟩ := F; exact ⟨c, A.ext E, r⟩
theorem own_AJ.other {g : Nat → Int64} (F : own_AJ Z h b ty n g) (W : Wr h h' a sl v) (q : b ≠ a) : own_AJ Z h' b ty n g := by obtain ⟨c, A, r⟩ := F; exact ⟨c, A.other W q, r⟩
theorem own_AJ.keep {g : Nat → Int64} (F : own_AJ Z h a ty n g) (K : Keep h h' ws) (q : a ∉ ws) : own_AJ Z h' a ty n g := by obtain ⟨c, A, r⟩ := F; exact ⟨c, ⟨K.2.1 a c A.1 q, A.2⟩, r⟩
theorem own_AD.lt {g : Nat → UInt64} (F : own_AD Z h a ty n g) : a < h.size := by obtain ⟨c, A, -⟩ := F; exact A.lt
theorem own_AD.ext {g : Nat → UInt64} (F : own_AD Z h a ty n g) (E : Ext h h') : own_AD Z h' a ty n g := by obtain ⟨c, A, r⟩ := F; exact ⟨c, A.ext E, r⟩
theorem own_AD.other {g : Nat → UInt64} (F : own_AD Z h b ty n g) (W : Wr h h' a sl v) (q : b ≠ a) : own_AD Z h' b ty n g := by obtain ⟨c, A, r⟩ := F; exact ⟨c, A.other W q, r⟩
theorem own_AD.keep {g : Nat → UInt64} (F : own_AD Z h a ty n g) (K : Keep h h' ws) (q : a ∉ ws) : own_AD Z h' a ty n g := by obtain ⟨c, A, r⟩ := F; exact ⟨c, ⟨K.2.1 a c A.1 q, A.2⟩, r⟩
theorem own_AI.set {g : Nat → Int32} {c : Cell} {x : Int32} {j : Nat} (A : Arr Z h a c ty) (S : c.slots.size = n) (M : n < 2 ^ 31) (H : ∀ i, i < n → c.slots[i]? = some (.int (g i))) (W : Wr h h' a j (.int x)) : own_AI Z h' a ty n (own_upd g j x) := by
  refine ⟨_, A.same W, (sz_set _ _ _).trans S, M, fun i hi => ?_⟩
  simp only [Cell.setSlot, Array.getElem?_setIfInBounds, own_upd]
  by_cases q : j = i
  · subst q; simp [S, hi]
  · rw [if_neg q, if_neg (fun z => q z.symm)]; exact H i hi
theorem own_AJ.set {g : Nat → Int64} {c : Cell} {x : Int64} {j : Nat} (A : Arr Z h a c ty) (S : c.slots.size = n) (M : n < 2 ^ 31) (H : ∀ i, i < n → c.slots[i]? = some (.long (g i))) (W : Wr h h' a j (.long x)) : own_AJ Z h' a ty n (own_upd g j x) := by
  refine ⟨_, A.same W, (sz_set _ _ _).trans S, M, fun i hi => ?_⟩
  simp only [Cell.setSlot, Array.getElem?_setIfInBounds, own_upd]
  by_cases q : j = i
  · subst q; simp [S, hi]
  · rw [if_neg q, if_neg (fun z => q z.symm)]; exact H i hi
theorem own_AD.set {g : Nat → UInt64} {c : Cell} {x : UInt64} {j : Nat} (A : Arr Z h a c ty) (S : c.slots.size = n) (M : n < 2 ^ 31) (H : ∀ i, i < n → c.slots[i]? = some (.double (g i))) (W : Wr h h' a j (.double x)) : own_AD Z h' a ty n (own_upd g j x) := by
  refine ⟨_, A.same W, (sz_set _ _ _).trans S, M, fun i hi => ?_⟩
  simp only [Cell.setSlot, Array.getElem?_setIfInBounds, own_upd]
  by_cases q : j = i
  · subst q; simp [S, hi]
  · rw [if_neg q, if_neg (fun z => q z.symm)]; exact H i hi
theorem own_clamp_lt (z : Int32) : z.toNatClampNeg < 2 ^ 31 := by have := z.toInt_lt; simp only [Int32.toNatClampNeg]; omega
theorem own_AI.fresh {k : ClassId} {z : Int32} (A : Arr Z h a (newA k ty z) ty) (hd : defaultValue ty = .int 0) : own_AI Z h a ty z.toNatClampNeg (fun _ => 0) :=
  ⟨_, A, sz_new _ _ _, own_clamp_lt z, fun i hi => by simp [newA, hi, hd]⟩
theorem own_AJ.fresh {k : ClassId} {z : Int32} (A : Arr Z h a (newA k ty z) ty) (hd : defaultValue ty = .long 0) : own_AJ Z h a ty z.toNatClampNeg (fun _ => 0) :=
  ⟨_, A, sz_new _ _ _, own_clamp_lt z, fun i hi => by simp [newA, hi, hd]⟩
theorem own_AD.fresh {k : ClassId} {z : Int32} (A : Arr Z h a (newA k ty z) ty) (hd : defaultValue ty = .double 0) : own_AD Z h a ty z.toNatClampNeg (fun _ => 0) :=
  ⟨_, A, sz_new _ _ _, own_clamp_lt z, fun i hi => by simp [newA, hi, hd]⟩
theorem own_in {c : Cell} {j : Int32} (S : c.slots.size = n) (q : ¬ j < 0 ∧ j.toNatClampNeg < n) : ¬ (j < 0 ∨ c.slots.size ≤ j.toNatClampNeg) := by
  rw [S]; exact fun z => z.elim q.1 (fun y => by have := q.2; omega)
theorem own_len {c : Cell} (S : c.slots.size = n) : c.slots.size.toInt32 = Int32.ofNat n := by rw [S]
theorem own_fitI {g : Nat → Int32} {c : Cell} (A : Arr Z h a c .int) (S : c.slots.size = n) (H : ∀ i, i < n → c.slots[i]? = some (.int (g i))) : FitC Z c :=
  fitC_of A fun i hi v hv => by rw [H i (S ▸ hi)] at hv; cases hv; rfl
theorem own_nst {C : String} (E : Exa Z h a C) : ∃ c : Cell, h[a]? = some c ∧ c.vm.isStatics = false := by obtain ⟨c, k, h1, -, -, h4, -⟩ := E; exact ⟨c, h1, h4⟩
theorem own_Sta_keep {C f d : String} (F : Sta Z h C f d v) (K : Keep h h' ws) (q : ∀ x ∈ ws, ∃ c : Cell, h[x]? = some c ∧ c.vm.isStatics = false) : Sta Z h' C f d v := by
  obtain ⟨cf, i, k, f, st, cell, h1, h2, h3, h4, h5, h6, h7⟩ := F
  refine ⟨cf, i, k, f, st, cell, h1, h2, h3, h4, K.2.1 st cell h5 (fun z => ?_), h6, h7⟩
  obtain ⟨c, g1, g2⟩ := q st z
  cases h5.symm.trans g1
  rw [h6] at g2
  cases g2
end OwnArrays
theorem own_lremq (x y : Int64) : x - (x / y) * y = x % y := by
  apply Int64.toInt_inj.mp
  rw [Int64.toInt_sub, Int64.toInt_mul, Int64.toInt_div, Int64.toInt_mod]
  have h := Int.mul_tdiv_add_tmod x.toInt y.toInt
  have hl := x.toInt_lt; have hg := x.le_toInt
  simp only [Int.bmod_sub_bmod, Int.sub_bmod_bmod, Int.bmod_mul_bmod, Int.mul_bmod_bmod]
  have e : x.toInt - x.toInt.tdiv y.toInt * y.toInt = x.toInt.tmod y.toInt := by rw [Int.mul_comm]; omega
  rw [e]
  have h1 := (x % y).toInt_lt; have h2 := (x % y).le_toInt
  rw [Int64.toInt_mod] at h1 h2
  exact Int.bmod_eq_of_le (by omega) (by omega)
theorem d5_0 : decode jdk_22_method_1_code 0 = .ok (.aload_n 0, 1) := by decide +kernel
theorem d5_1 : decode jdk_22_method_1_code 1 = .ok (.invokespecial 1, 3) := by decide +kernel
theorem d5_4 : decode jdk_22_method_1_code 4 = .ok (.return_, 1) := by decide +kernel
theorem own_pd0 : parseMethodDescriptor "()V" = some ⟨[], none⟩ := by decide +kernel
theorem own_pn0 : plainName "java/util/AbstractCollection" = true := by first | (simp [plainName, overriddenIn]; done) | decide +kernel
set_option maxHeartbeats 40000000 in
theorem own_ef_rm5 (m : MethodId) (x0 : Addr) : entryFrame m #[(.ref x0)] 1 = mkF m 0 #[.val (.ref x0)] [] := by first | (simp [entryFrame, mkF, argsToLocals, Value.category]; done) | rfl
def Q5 (Z : State) (a0 : Addr) (h0 : Heap) (n0 : Nat) (v : Option Value) (h : Heap) (L : List Loc) : Prop := v = none ∧ Fr n0 L ∧ h = h0
set_option maxRecDepth 65536 in
set_option maxHeartbeats 40000000 in
theorem rm5 (l : Launch) (Z : State) (aZ : Array Value) (hw : ∀ d ∈ tables_1, d.before aZ Z = true) (ws : List Jvm.Cond) (a0 : Addr) (h0 : Heap) (n0 : Nat) (Z0 : n0 ≤ h0.size) :
    MetFree l (⟨"java/util/AbstractCollection", "<init>", "()V"⟩ : MethodName) (head1 (Jvm.Cond.code (⟨"java/util/AbstractCollection", "<init>", "()V"⟩ : MethodName) jdk_22_method_1_code 1 none :: ws) ({ frames := 1, cells := 0, slots := 0, locals := 12 } : Room)) (fun a U => a = #[(.ref a0)] ∧ Z.Warmed39 U.vm ∧ U.heap = h0) (fun _ _ _ _ _ => True) (fun _ U o U' => ∃ v L, o = .returned v ∧ Q5 Z a0 h0 n0 v U'.heap L ∧ FrameEnd U o U' L ({ frames := 1, cells := 0, slots := 0, locals := 12 } : Room).cells ({ frames := 1, cells := 0, slots := 0, locals := 12 } : Room).slots) := by
  refine MetFree.of_bodySF (plainFor_of_name own_pn0) hisR ?_
  intro p e s m args below meth c s₁ Bd hml0 hP hK
  obtain ⟨rfl, hZ, hh⟩ := hP
  have hx := Bd.exec
  have hby := Bd.bytes
  have hml : c.maxLocals = 1 := hml0
  have hown : s.vm.findClass "java/util/AbstractCollection" = some m.cls := findClass_of_methodNamed Bd.named
  have hnm := (name_of_methodNamed Bd.named Bd.method).1
  have X0 : Stand p l e ({ frames := 1, cells := 0, slots := 0, locals := 12 } : Room) s m #[(.ref a0)] below meth c s₁ [] 0 0 := Stand.of_body Bd
  have e0 : s₁.heap = h0 := by rw [← hh, Bd.state]; rfl
  have N0 := Fr.nil n0
  refine own_go (S' := s₁.setTop (mkF m 0 #[.val (.ref a0)] [])) (fun t k => castTop (own_ef_rm5 m a0) k) ?_
  refine own_go (S' := s₁.setTop (mkF m 1 #[.val (.ref a0)] [(.ref a0)])) (fun target kt => ?_) ?_
  · skip
    show Steps p.tables e below (s₁.setTop (mkF m 0 #[.val (.ref a0)] [])) _
    refine XS.aloadN X0.here hx rfl (hb hby d5_0) rfl rfl ?_
    exact kt
  obtain ⟨T1, X1, e1, st1⟩ := initO X0 hx hZ hown (hw _ (List.mem_of_getElem? (i := 27) rfl)) (hw _ (List.mem_of_getElem? (i := 7) rfl)) (hw _ (List.mem_of_getElem? (i := 8) rfl)) e0 (g := (mkF m 1 #[.val (.ref a0)] [(.ref a0)])) rfl (by rw [hml]; rfl) rfl (hb hby d5_1) (by decide) (W := 0) (by show 2 * 0 + _ ≤ _; exact Nat.le_of_eq rfl) (by decide)
  refine own_go (S' := T1.setTop (mkF m 4 #[.val (.ref a0)] [])) st1 ?_
  obtain ⟨fs, hr, hrun, hended, hW, hsame⟩ := X1.leave (v := none) (fun _ => rfl)
  refine ⟨_, _, ?_, hrun, hended, _, _, rfl, ?_, ⟨_, rfl⟩, hW, hsame.mono (by decide) (by decide)⟩
  · exact X1.returnOut hx Bd.returns (hb hby d5_4) hr
  · show Q5 Z a0 h0 n0 _ T1.heap _
    rw [e1]
    exact ⟨rfl, N0, rfl⟩
theorem d4_0 : decode jdk_39_method_1_code 0 = .ok (.aload_n 0, 1) := by decide +kernel
theorem d4_1 : decode jdk_39_method_1_code 1 = .ok (.invokespecial 1, 3) := by decide +kernel
theorem d4_4 : decode jdk_39_method_1_code 4 = .ok (.aload_n 0, 1) := by decide +kernel
theorem d4_5 : decode jdk_39_method_1_code 5 = .ok (.iconst 0, 1) := by decide +kernel
theorem d4_6 : decode jdk_39_method_1_code 6 = .ok (.putfield 7, 3) := by decide +kernel
theorem d4_9 : decode jdk_39_method_1_code 9 = .ok (.return_, 1) := by decide +kernel
theorem own_pn1 : plainName "java/util/AbstractList" = true := by first | (simp [plainName, overriddenIn]; done) | decide +kernel
set_option maxHeartbeats 40000000 in
theorem own_ef_rm4 (m : MethodId) (x0 : Addr) : entryFrame m #[(.ref x0)] 1 = mkF m 0 #[.val (.ref x0)] [] := by first | (simp [entryFrame, mkF, argsToLocals, Value.category]; done) | rfl
def Q4 (Z : State) (a0 : Addr) (h0 : Heap) (n0 : Nat) (v : Option Value) (h : Heap) (L : List Loc) : Prop := v = none ∧ Fr n0 L ∧ Keep h0 h [a0] ∧ Exa Z h a0 "java/util/ArrayList" ∧ Fld Z h a0 "java/util/AbstractList" "modCount" "I" (.int (0 : Int32)) ∧ Fld Z h a0 "java/util/ArrayList" "elementData" "[Ljava/lang/Object;" .null
set_option maxRecDepth 65536 in
set_option maxHeartbeats 40000000 in
theorem rm4 (l : Launch) (Z : State) (aZ : Array Value) (hw : ∀ d ∈ tables_1, d.before aZ Z = true) (ws : List Jvm.Cond) (a0 : Addr) (h0 : Heap) (n0 : Nat) (Z0 : n0 ≤ h0.size) (pf0 : Exa Z h0 a0 "java/util/ArrayList") (pf1 : Fld Z h0 a0 "java/util/AbstractList" "modCount" "I" (.int (0 : Int32))) (pf2 : Fld Z h0 a0 "java/util/ArrayList" "elementData" "[Ljava/lang/Object;" .null) (g_a0 : n0 ≤ a0) :
    MetFree l (⟨"java/util/AbstractList", "<init>", "()V"⟩ : MethodName) (head1 (Jvm.Cond.code (⟨"java/util/AbstractList", "<init>", "()V"⟩ : MethodName) jdk_39_method_1_code 1 none :: ws) ({ frames := 2, cells := 0, slots := 0, locals := 24 } : Room)) (fun a U => a = #[(.ref a0)] ∧ Z.Warmed39 U.vm ∧ U.heap = h0) (fun _ _ _ _ _ => True) (fun _ U o U' => ∃ v L, o = .returned v ∧ Q4 Z a0 h0 n0 v U'.heap L ∧ FrameEnd U o U' L ({ frames := 2, cells := 0, slots := 0, locals := 24 } : Room).cells ({ frames := 2, cells := 0, slots := 0, locals := 24 } : Room).slots) := by
  refine MetFree.of_bodySF (plainFor_of_name own_pn1) hisR ?_
  intro p e s m args below meth c s₁ Bd hml0 hP hK
  obtain ⟨rfl, hZ, hh⟩ := hP
  have hx := Bd.exec
  have hby := Bd.bytes
  have hml : c.maxLocals = 1 := hml0
  have hown : s.vm.findClass "java/util/AbstractList" = some m.cls := findClass_of_methodNamed Bd.named
  have hnm := (name_of_methodNamed Bd.named Bd.method).1
  have X0 : Stand p l e ({ frames := 2, cells := 0, slots := 0, locals := 24 } : Room) s m #[(.ref a0)] below meth c s₁ [] 0 0 := Stand.of_body Bd
  have e0 : s₁.heap = h0 := by rw [← hh, Bd.state]; rfl
  have N0 := Fr.nil n0
  have K0 : Keep h0 h0 [a0] := Keep.refl h0 _
  refine own_go (S' := s₁.setTop (mkF m 0 #[.val (.ref a0)] [])) (fun t k => castTop (own_ef_rm4 m a0) k) ?_
  refine own_go (S' := s₁.setTop (mkF m 1 #[.val (.ref a0)] [(.ref a0)])) (fun target kt => ?_) ?_
  · skip
    show Steps p.tables e below (s₁.setTop (mkF m 0 #[.val (.ref a0)] [])) _
    refine XS.aloadN X0.here hx rfl (hb hby d4_0) rfl rfl ?_
    exact kt
  obtain ⟨_, _, ⟨T2, L2, k2, n2⟩, -, X2, ⟨Lc2, hQ2, l2, y2, z2⟩, st2⟩ := X0.specialBack hx (y := (⟨"java/util/AbstractCollection", "<init>", "()V"⟩ : MethodName)) rfl hown (mvT hZ (hw _ (List.mem_of_getElem? (i := 21) rfl))) (mvT hZ (hw _ (List.mem_of_getElem? (i := 22) rfl))) (mvT hZ (hw _ (List.mem_of_getElem? (i := 26) rfl))) (by decide) (backOf (W := 0) (rm5 l Z aZ hw [] a0 h0 n0 Z0 ) hZ (hw _ (List.mem_of_getElem? (i := 26) rfl)) (hw _ (List.mem_of_getElem? (i := 25) rfl)) (by decide) (by decide)) (g := (mkF m 1 #[.val (.ref a0)] [(.ref a0)])) rfl (by rw [hml]; rfl) (Steps.refl _) (a := a0) (argsL := []) (rest := []) (lenOf own_pd0 rfl) rfl (by show 2 * 0 + _ ≤ _; exact Nat.le_of_eq rfl) (hb hby d4_1) (fun _ _ => ⟨rfl, e0, (by decide : 0 + 0 ≤ _), (by decide : 0 + 0 ≤ _)⟩)
  dsimp only [Pt.U, Pt.locs, Pt.cells, Pt.slots] at X2 l2 y2 z2 st2 hQ2
  subst l2 y2 z2
  obtain ⟨rfl, N2q, e2⟩ := hQ2
  have N2 := Fr.app N0 N2q
  refine own_go (S' := T2.setTop (mkF m 4 #[.val (.ref a0)] [])) (fun _ k => st2.trans k) ?_
  refine own_go (S' := T2.setTop (mkF m 6 #[.val (.ref a0)] [(.int (0 : Int32)), (.ref a0)])) (fun target kt => ?_) ?_
  · skip
    show Steps p.tables e below (T2.setTop (mkF m 4 #[.val (.ref a0)] [])) _
    refine XS.aloadN X2.here hx rfl (hb hby d4_4) rfl rfl ?_
    show Steps p.tables e below (T2.setTop (mkF m 5 #[.val (.ref a0)] [(.ref a0)])) _
    refine XS.iconst X2.here hx rfl (hb hby d4_5) ?_
    exact kt
  obtain ⟨T3, h3, X3, e3, W3, st3⟩ := putF X2 hx hZ hown (host := "") (Or.inl (hw _ (List.mem_of_getElem? (i := 28) rfl))) Via.refl e2 pf1 pf0 (Or.inl (hw _ (List.mem_of_getElem? (i := 29) rfl))) (hw _ (List.mem_of_getElem? (i := 10) rfl)) (ty := .int) (by decide) rfl rfl (g := (mkF m 6 #[.val (.ref a0)] [(.int (0 : Int32)), (.ref a0)])) rfl rfl (hb hby d4_6)
  have f4 : Exa Z h3 a0 "java/util/ArrayList" := pf0.wr W3
  have f5 : Fld Z h3 a0 "java/util/ArrayList" "elementData" "[Ljava/lang/Object;" .null := pf2.other W3 (Or.inr (slot_ne (Or.inl (hw _ (List.mem_of_getElem? (i := 32) rfl))) (Or.inl (hw _ (List.mem_of_getElem? (i := 29) rfl))) (by decide) (t := (.array (.object "java/lang/Object"))) (t' := .int) (by decide) (by decide)))
  have f6 : Fld Z h3 a0 "java/util/AbstractList" "modCount" "I" (.int (0 : Int32)) := pf1.same W3
  have Z3 : n0 ≤ h3.size := Nat.le_trans Z0 (Keep.of_wr W3).1
  have K3 : Keep h0 h3 [a0] := K0.wr W3 (Or.inl (List.mem_of_getElem? (i := 0) rfl))
  have N3 := Fr.snoc X3 N2 g_a0
  refine own_go (S' := T3.setTop (mkF m 9 #[.val (.ref a0)] [])) st3 ?_
  obtain ⟨fs, hr, hrun, hended, hW, hsame⟩ := X3.leave (v := none) (fun _ => rfl)
  refine ⟨_, _, ?_, hrun, hended, _, _, rfl, ?_, ⟨_, rfl⟩, hW, hsame.mono (by decide) (by decide)⟩
  · exact X3.returnOut hx Bd.returns (hb hby d4_9) hr
  · show Q4 Z a0 h0 n0 _ T3.heap _
    rw [e3]
    exact ⟨rfl, N3, K3, f4, f6, f5⟩
theorem d3_0 : decode jdk_38_method_2_code 0 = .ok (.aload_n 0, 1) := by decide +kernel
theorem d3_1 : decode jdk_38_method_2_code 1 = .ok (.invokespecial 1, 3) := by decide +kernel
theorem d3_4 : decode jdk_38_method_2_code 4 = .ok (.aload_n 0, 1) := by decide +kernel
theorem d3_5 : decode jdk_38_method_2_code 5 = .ok (.getstatic 39, 3) := by decide +kernel
theorem d3_8 : decode jdk_38_method_2_code 8 = .ok (.putfield 9, 3) := by decide +kernel
theorem d3_11 : decode jdk_38_method_2_code 11 = .ok (.return_, 1) := by decide +kernel
theorem own_pn2 : plainName "java/util/ArrayList" = true := by first | (simp [plainName, overriddenIn]; done) | decide +kernel
set_option maxHeartbeats 40000000 in
theorem own_ef_rm3 (m : MethodId) (x0 : Addr) : entryFrame m #[(.ref x0)] 1 = mkF m 0 #[.val (.ref x0)] [] := by first | (simp [entryFrame, mkF, argsToLocals, Value.category]; done) | rfl
def Q3 (Z : State) (a0 : Addr) (dz : Addr) (h0 : Heap) (n0 : Nat) (v : Option Value) (h : Heap) (L : List Loc) : Prop := v = none ∧ Fr n0 L ∧ Keep h0 h [a0] ∧ Exa Z h a0 "java/util/ArrayList"
set_option maxRecDepth 65536 in
set_option maxHeartbeats 40000000 in
theorem rm3 (l : Launch) (Z : State) (aZ : Array Value) (hw : ∀ d ∈ tables_1, d.before aZ Z = true) (ws : List Jvm.Cond) (a0 : Addr) (dz : Addr) (h0 : Heap) (n0 : Nat) (Z0 : n0 ≤ h0.size) (pf0 : Exa Z h0 a0 "java/util/ArrayList") (pf1 : Fld Z h0 a0 "java/util/AbstractList" "modCount" "I" (.int (0 : Int32))) (pf2 : Fld Z h0 a0 "java/util/ArrayList" "elementData" "[Ljava/lang/Object;" .null) (pf3 : Sta Z h0 "java/util/ArrayList" "DEFAULTCAPACITY_EMPTY_ELEMENTDATA" "[Ljava/lang/Object;" (.ref dz)) (g_a0 : n0 ≤ a0) :
    MetFree l (⟨"java/util/ArrayList", "<init>", "()V"⟩ : MethodName) (head1 (Jvm.Cond.code (⟨"java/util/ArrayList", "<init>", "()V"⟩ : MethodName) jdk_38_method_2_code 1 none :: ws) ({ frames := 3, cells := 0, slots := 0, locals := 36 } : Room)) (fun a U => a = #[(.ref a0)] ∧ Z.Warmed39 U.vm ∧ U.heap = h0) (fun _ _ _ _ _ => True) (fun _ U o U' => ∃ v L, o = .returned v ∧ Q3 Z a0 dz h0 n0 v U'.heap L ∧ FrameEnd U o U' L ({ frames := 3, cells := 0, slots := 0, locals := 36 } : Room).cells ({ frames := 3, cells := 0, slots := 0, locals := 36 } : Room).slots) := by
  refine MetFree.of_bodySF (plainFor_of_name own_pn2) hisR ?_
  intro p e s m args below meth c s₁ Bd hml0 hP hK
  obtain ⟨rfl, hZ, hh⟩ := hP
  have hx := Bd.exec
  have hby := Bd.bytes
  have hml : c.maxLocals = 1 := hml0
  have hown : s.vm.findClass "java/util/ArrayList" = some m.cls := findClass_of_methodNamed Bd.named
  have hnm := (name_of_methodNamed Bd.named Bd.method).1
  have X0 : Stand p l e ({ frames := 3, cells := 0, slots := 0, locals := 36 } : Room) s m #[(.ref a0)] below meth c s₁ [] 0 0 := Stand.of_body Bd
  have e0 : s₁.heap = h0 := by rw [← hh, Bd.state]; rfl
  have N0 := Fr.nil n0
  have K0 : Keep h0 h0 [a0] := Keep.refl h0 _
  refine own_go (S' := s₁.setTop (mkF m 0 #[.val (.ref a0)] [])) (fun t k => castTop (own_ef_rm3 m a0) k) ?_
  refine own_go (S' := s₁.setTop (mkF m 1 #[.val (.ref a0)] [(.ref a0)])) (fun target kt => ?_) ?_
  · skip
    show Steps p.tables e below (s₁.setTop (mkF m 0 #[.val (.ref a0)] [])) _
    refine XS.aloadN X0.here hx rfl (hb hby d3_0) rfl rfl ?_
    exact kt
  obtain ⟨_, _, ⟨T7, L7, k7, n7⟩, -, X7, ⟨Lc7, hQ7, l7, y7, z7⟩, st7⟩ := X0.specialBack hx (y := (⟨"java/util/AbstractList", "<init>", "()V"⟩ : MethodName)) rfl hown (mvT hZ (hw _ (List.mem_of_getElem? (i := 15) rfl))) (mvT hZ (hw _ (List.mem_of_getElem? (i := 16) rfl))) (mvT hZ (hw _ (List.mem_of_getElem? (i := 20) rfl))) (by decide) (backOf (W := 0) (rm4 l Z aZ hw [] a0 h0 n0 Z0 pf0 pf1 pf2 g_a0) hZ (hw _ (List.mem_of_getElem? (i := 20) rfl)) (hw _ (List.mem_of_getElem? (i := 19) rfl)) (by decide) (by decide)) (g := (mkF m 1 #[.val (.ref a0)] [(.ref a0)])) rfl (by rw [hml]; rfl) (Steps.refl _) (a := a0) (argsL := []) (rest := []) (lenOf own_pd0 rfl) rfl (by show 2 * 0 + _ ≤ _; exact Nat.le_of_eq rfl) (hb hby d3_1) (fun _ _ => ⟨rfl, e0, (by decide : 0 + 0 ≤ _), (by decide : 0 + 0 ≤ _)⟩)
  dsimp only [Pt.U, Pt.locs, Pt.cells, Pt.slots] at X7 l7 y7 z7 st7 hQ7
  subst l7 y7 z7
  obtain ⟨rfl, N7q, K7q, f7_0, f7_1, f7_2⟩ := hQ7
  have N7 := Fr.app N0 N7q
  have f8 : Exa Z T7.heap a0 "java/util/ArrayList" := pf0.keep K7q
  have f9 : Sta Z T7.heap "java/util/ArrayList" "DEFAULTCAPACITY_EMPTY_ELEMENTDATA" "[Ljava/lang/Object;" (.ref dz) := own_Sta_keep pf3 K7q (allS (own_nst pf0) all0)
  have Z7 : n0 ≤ T7.heap.size := Nat.le_trans Z0 K7q.1
  have K7 : Keep h0 T7.heap [a0] := K0.trans K7q (allS (Or.inl (List.mem_of_getElem? (i := 0) rfl)) all0)
  refine own_go (S' := T7.setTop (mkF m 4 #[.val (.ref a0)] [])) (fun _ k => st7.trans k) ?_
  refine own_go (S' := T7.setTop (mkF m 5 #[.val (.ref a0)] [(.ref a0)])) (fun target kt => ?_) ?_
  · skip
    show Steps p.tables e below (T7.setTop (mkF m 4 #[.val (.ref a0)] [])) _
    refine XS.aloadN X7.here hx rfl (hb hby d3_4) rfl rfl ?_
    exact kt
  obtain ⟨T10, X10, e10, st10⟩ := getS2 X7 hx hZ hown (host := "") (Or.inl (hw _ (List.mem_of_getElem? (i := 30) rfl))) Via.refl rfl f9 (g := (mkF m 5 #[.val (.ref a0)] [(.ref a0)])) rfl (hb hby d3_5)
  refine own_go (S' := T10.setTop (mkF m 8 #[.val (.ref a0)] [(.ref dz), (.ref a0)])) st10 ?_
  obtain ⟨T11, h11, X11, e11, W11, st11⟩ := putF X10 hx hZ hown (host := "") (Or.inl (hw _ (List.mem_of_getElem? (i := 31) rfl))) Via.refl e10 f7_2 f7_0 (Or.inl (hw _ (List.mem_of_getElem? (i := 32) rfl))) (hw _ (List.mem_of_getElem? (i := 10) rfl)) (ty := (.array (.object "java/lang/Object"))) (by decide) rfl rfl (g := (mkF m 8 #[.val (.ref a0)] [(.ref dz), (.ref a0)])) rfl rfl (hb hby d3_8)
  have f12 : Exa Z h11 a0 "java/util/ArrayList" := f7_0.wr W11
  have f13 : Sta Z h11 "java/util/ArrayList" "DEFAULTCAPACITY_EMPTY_ELEMENTDATA" "[Ljava/lang/Object;" (.ref dz) := f9.wr W11
  have f14 : Fld Z h11 a0 "java/util/AbstractList" "modCount" "I" (.int (0 : Int32)) := f7_1.other W11 (Or.inr (slot_ne (Or.inl (hw _ (List.mem_of_getElem? (i := 29) rfl))) (Or.inl (hw _ (List.mem_of_getElem? (i := 32) rfl))) (by decide) (t := .int) (t' := (.array (.object "java/lang/Object"))) (by decide) (by decide)))
  have f15 : Fld Z h11 a0 "java/util/ArrayList" "elementData" "[Ljava/lang/Object;" (.ref dz) := f7_2.same W11
  have Z11 : n0 ≤ h11.size := Nat.le_trans Z7 (Keep.of_wr W11).1
  have K11 : Keep h0 h11 [a0] := K7.wr W11 (Or.inl (List.mem_of_getElem? (i := 0) rfl))
  have N11 := Fr.snoc X11 N7 g_a0
  refine own_go (S' := T11.setTop (mkF m 11 #[.val (.ref a0)] [])) st11 ?_
  obtain ⟨fs, hr, hrun, hended, hW, hsame⟩ := X11.leave (v := none) (fun _ => rfl)
  refine ⟨_, _, ?_, hrun, hended, _, _, rfl, ?_, ⟨_, rfl⟩, hW, hsame.mono (by decide) (by decide)⟩
  · exact X11.returnOut hx Bd.returns (hb hby d3_11) hr
  · show Q3 Z a0 dz h0 n0 _ T11.heap _
    rw [e11]
    exact ⟨rfl, N11, K11, f12⟩
theorem own_z : (0 : Int32) = 0 ∨ (0 : Int32) = 1 := Or.inl rfl
theorem own_or {x y : Int32} (hx : x = 0 ∨ x = 1) (hy : y = 0 ∨ y = 1) : (x ||| y) = 0 ∨ (x ||| y) = 1 := by rcases hx with rfl | rfl <;> rcases hy with rfl | rfl <;> decide
theorem own_nb {x y : Int32} (hx : x = 0 ∨ x = 1) (hy : y = 0 ∨ y = 1) : narrow .boolean (.int (x ||| y)) = .int (x ||| y) := by rcases hx with rfl | rfl <;> rcases hy with rfl | rfl <;> rfl
theorem own_fb {x y : Int32} (hx : x = 0 ∨ x = 1) (hy : y = 0 ∨ y = 1) : fits .boolean (.int (x ||| y)) = true := by rcases hx with rfl | rfl <;> rcases hy with rfl | rfl <;> rfl
theorem own_nz {x : Int32} (hx : x = 0 ∨ x = 1) : nar .boolean x = x := by rcases hx with rfl | rfl <;> rfl
theorem own_bit {P : Prop} [Decidable P] {x : Int32} (h : x = (if P then (0 : Int32) else (1 : Int32))) : x = 0 ∨ x = 1 := by subst h; split <;> simp
theorem own_e1 {x : Int32} (hx : x = 0 ∨ x = 1) : ((0 : Int32) ||| x) = x := by rcases hx with rfl | rfl <;> rfl
theorem own_e2 {x y e : Int32} (hx : x = 0 ∨ x = 1) (hy : y = 0 ∨ y = 1) (h : e = (if x = (0 : Int32) then (if y = (0 : Int32) then (0 : Int32) else (1 : Int32)) else (1 : Int32))) : (((0 : Int32) ||| x) ||| y) = e := by
  subst h; rcases hx with rfl | rfl <;> rcases hy with rfl | rfl <;> decide
theorem own_e3 {x y z e : Int32} (hx : x = 0 ∨ x = 1) (hy : y = 0 ∨ y = 1) (hz : z = 0 ∨ z = 1) (h : e = (if x = (0 : Int32) then (if y = (0 : Int32) then (if z = (0 : Int32) then (0 : Int32) else (1 : Int32)) else (1 : Int32)) else (1 : Int32))) : ((((0 : Int32) ||| x) ||| y) ||| z) = e := by
  subst h; rcases hx with rfl | rfl <;> rcases hy with rfl | rfl <;> rcases hz with rfl | rfl <;> decide

theorem d1_0 : decode prog_34_method_1_code 0 = .ok (.aload_n 0, 1) := by decide +kernel
theorem d1_1 : decode prog_34_method_1_code 1 = .ok (.invokespecial 1, 3) := by decide +kernel
theorem d1_4 : decode prog_34_method_1_code 4 = .ok (.aload_n 0, 1) := by decide +kernel
theorem d1_5 : decode prog_34_method_1_code 5 = .ok (.new 7, 3) := by decide +kernel
theorem d1_8 : decode prog_34_method_1_code 8 = .ok (.dup, 1) := by decide +kernel
theorem d1_9 : decode prog_34_method_1_code 9 = .ok (.invokespecial 9, 3) := by decide +kernel
theorem d1_12 : decode prog_34_method_1_code 12 = .ok (.putfield 10, 3) := by decide +kernel
theorem d1_15 : decode prog_34_method_1_code 15 = .ok (.return_, 1) := by decide +kernel
theorem own_pn3 : plainName "com/example/assertline/assertline/policy/Audit" = true := by first | (simp [plainName, overriddenIn]; done) | decide +kernel
set_option maxHeartbeats 40000000 in
theorem own_ef_rm1 (m : MethodId) (x0 : Addr) : entryFrame m #[(.ref x0)] 1 = mkF m 0 #[.val (.ref x0)] [] := by first | (simp [entryFrame, mkF, argsToLocals, Value.category]; done) | rfl
def Q1 (Z : State) (a0 : Addr) (dz : Addr) (h0 : Heap) (n0 : Nat) (v : Option Value) (h : Heap) (L : List Loc) : Prop := v = none ∧ Fr n0 L ∧ Keep h0 h [a0] ∧ Exa Z h a0 "com/example/assertline/assertline/policy/Audit" ∧ Fld Z h a0 "com/example/assertline/assertline/policy/Audit" "requestBody" "Z" (.int (0 : Int32)) ∧ Fld Z h a0 "com/example/assertline/assertline/policy/Audit" "responseBody" "Z" (.int (0 : Int32))
set_option maxRecDepth 65536 in
set_option maxHeartbeats 40000000 in
theorem rm1 (l : Launch) (Z : State) (aZ : Array Value) (hw : ∀ d ∈ tables_1, d.before aZ Z = true) (ws : List Jvm.Cond) (a0 : Addr) (dz : Addr) (h0 : Heap) (n0 : Nat) (Z0 : n0 ≤ h0.size) (pf0 : Exa Z h0 a0 "com/example/assertline/assertline/policy/Audit") (pf1 : Fld Z h0 a0 "com/example/assertline/assertline/policy/Audit" "requestBody" "Z" (.int (0 : Int32))) (pf2 : Fld Z h0 a0 "com/example/assertline/assertline/policy/Audit" "responseBody" "Z" (.int (0 : Int32))) (pf3 : Fld Z h0 a0 "com/example/assertline/assertline/policy/Audit" "details" "Ljava/util/List;" .null) (pf4 : Sta Z h0 "java/util/ArrayList" "DEFAULTCAPACITY_EMPTY_ELEMENTDATA" "[Ljava/lang/Object;" (.ref dz)) (g_a0 : n0 ≤ a0) :
    MetFree l (⟨"com/example/assertline/assertline/policy/Audit", "<init>", "()V"⟩ : MethodName) (head1 (Jvm.Cond.code (⟨"com/example/assertline/assertline/policy/Audit", "<init>", "()V"⟩ : MethodName) prog_34_method_1_code 1 none :: ws) ({ frames := 4, cells := 1, slots := 3, locals := 50 } : Room)) (fun a U => a = #[(.ref a0)] ∧ Z.Warmed39 U.vm ∧ U.heap = h0) (fun _ _ _ _ _ => True) (fun _ U o U' => ∃ v L, o = .returned v ∧ Q1 Z a0 dz h0 n0 v U'.heap L ∧ FrameEnd U o U' L ({ frames := 4, cells := 1, slots := 3, locals := 50 } : Room).cells ({ frames := 4, cells := 1, slots := 3, locals := 50 } : Room).slots) := by
  refine MetFree.of_bodySF (plainFor_of_name own_pn3) hisR ?_
  intro p e s m args below meth c s₁ Bd hml0 hP hK
  obtain ⟨rfl, hZ, hh⟩ := hP
  have hx := Bd.exec
  have hby := Bd.bytes
  have hml : c.maxLocals = 1 := hml0
  have hown : s.vm.findClass "com/example/assertline/assertline/policy/Audit" = some m.cls := findClass_of_methodNamed Bd.named
  have hnm := (name_of_methodNamed Bd.named Bd.method).1
  have X0 : Stand p l e ({ frames := 4, cells := 1, slots := 3, locals := 50 } : Room) s m #[(.ref a0)] below meth c s₁ [] 0 0 := Stand.of_body Bd
  have e0 : s₁.heap = h0 := by rw [← hh, Bd.state]; rfl
  have N0 := Fr.nil n0
  have K0 : Keep h0 h0 [a0] := Keep.refl h0 _
  refine own_go (S' := s₁.setTop (mkF m 0 #[.val (.ref a0)] [])) (fun t k => castTop (own_ef_rm1 m a0) k) ?_
  refine own_go (S' := s₁.setTop (mkF m 1 #[.val (.ref a0)] [(.ref a0)])) (fun target kt => ?_) ?_
  · skip
    show Steps p.tables e below (s₁.setTop (mkF m 0 #[.val (.ref a0)] [])) _
    refine XS.aloadN X0.here hx rfl (hb hby d1_0) rfl rfl ?_
    exact kt
  obtain ⟨T16, X16, e16, st16⟩ := initO X0 hx hZ hown (hw _ (List.mem_of_getElem? (i := 6) rfl)) (hw _ (List.mem_of_getElem? (i := 7) rfl)) (hw _ (List.mem_of_getElem? (i := 8) rfl)) e0 (g := (mkF m 1 #[.val (.ref a0)] [(.ref a0)])) rfl (by rw [hml]; rfl) rfl (hb hby d1_1) (by decide) (W := 0) (by show 2 * 0 + _ ≤ _; exact Nat.le_of_eq rfl) (by decide)
  refine own_go (S' := T16.setTop (mkF m 4 #[.val (.ref a0)] [])) st16 ?_
  refine own_go (S' := T16.setTop (mkF m 5 #[.val (.ref a0)] [(.ref a0)])) (fun target kt => ?_) ?_
  · skip
    show Steps p.tables e below (T16.setTop (mkF m 4 #[.val (.ref a0)] [])) _
    refine XS.aloadN X16.here hx rfl (hb hby d1_4) rfl rfl ?_
    exact kt
  obtain ⟨T17, h17, X17, e17, E17, A17, D17, -, st17⟩ := newO X16 hx hZ hown (hw _ (List.mem_of_getElem? (i := 9) rfl)) (hw _ (List.mem_of_getElem? (i := 10) rfl)) (hw _ (List.mem_of_getElem? (i := 11) rfl)) e16 (g := (mkF m 5 #[.val (.ref a0)] [(.ref a0)])) rfl (hb hby d1_5) (by decide) (by decide)
  obtain ⟨b17, g17⟩ : ∃ z, z = h0.size := ⟨_, rfl⟩
  rw [← g17] at A17 D17 st17
  have f18 : Exa Z h17 a0 "com/example/assertline/assertline/policy/Audit" := pf0.ext E17
  have f19 : Fld Z h17 a0 "com/example/assertline/assertline/policy/Audit" "requestBody" "Z" (.int (0 : Int32)) := pf1.ext E17
  have f20 : Fld Z h17 a0 "com/example/assertline/assertline/policy/Audit" "responseBody" "Z" (.int (0 : Int32)) := pf2.ext E17
  have f21 : Fld Z h17 a0 "com/example/assertline/assertline/policy/Audit" "details" "Ljava/util/List;" .null := pf3.ext E17
  have f22 : Sta Z h17 "java/util/ArrayList" "DEFAULTCAPACITY_EMPTY_ELEMENTDATA" "[Ljava/lang/Object;" (.ref dz) := pf4.ext E17
  have g_b17 : n0 ≤ b17 := Nat.le_trans Z0 (Nat.le_of_eq g17.symm)
  have sz_b17 : h0.size ≤ b17 := Nat.le_trans K0.1 (Nat.le_of_eq g17.symm)
  have ne_a0_b17 : a0 ≠ b17 := Nat.ne_of_lt (Nat.lt_of_lt_of_le pf0.lt (Nat.le_of_eq g17.symm))
  have Z17 : n0 ≤ h17.size := Nat.le_trans Z0 E17.1
  have K17 : Keep h0 h17 [a0] := K0.ext E17
  have f23 : Fld Z h17 b17 "java/util/AbstractList" "modCount" "I" (.int (0 : Int32)) := D17 (Or.inl (hw _ (List.mem_of_getElem? (i := 29) rfl))) (ty := .int) (by decide)
  have f24 : Fld Z h17 b17 "java/util/ArrayList" "elementData" "[Ljava/lang/Object;" .null := D17 (Or.inl (hw _ (List.mem_of_getElem? (i := 32) rfl))) (ty := (.array (.object "java/lang/Object"))) (by decide)
  refine own_go (S' := T17.setTop (mkF m 8 #[.val (.ref a0)] [(.ref b17), (.ref a0)])) st17 ?_
  refine own_go (S' := T17.setTop (mkF m 9 #[.val (.ref a0)] [(.ref b17), (.ref b17), (.ref a0)])) (fun target kt => ?_) ?_
  · skip
    show Steps p.tables e below (T17.setTop (mkF m 8 #[.val (.ref a0)] [(.ref b17), (.ref a0)])) _
    refine XS.dup X17.here hx rfl (hb hby d1_8) rfl rfl ?_
    exact kt
  obtain ⟨_, _, ⟨T25, L25, k25, n25⟩, -, X25, ⟨Lc25, hQ25, l25, y25, z25⟩, st25⟩ := X17.specialBack hx (y := (⟨"java/util/ArrayList", "<init>", "()V"⟩ : MethodName)) rfl hown (mvT hZ (hw _ (List.mem_of_getElem? (i := 12) rfl))) (mvT hZ (hw _ (List.mem_of_getElem? (i := 13) rfl))) (mvT hZ (hw _ (List.mem_of_getElem? (i := 14) rfl))) (by decide) (backOf (W := 2) (rm3 l Z aZ hw [] b17 dz h17 n0 Z17 A17 f23 f24 f22 g_b17) hZ (hw _ (List.mem_of_getElem? (i := 14) rfl)) (hw _ (List.mem_of_getElem? (i := 11) rfl)) (by decide) (by decide)) (g := (mkF m 9 #[.val (.ref a0)] [(.ref b17), (.ref b17), (.ref a0)])) rfl (by rw [hml]; rfl) (Steps.refl _) (a := b17) (argsL := []) (rest := [(.ref b17), (.ref a0)]) (lenOf own_pd0 rfl) rfl (by show 2 * 0 + _ ≤ _; exact Nat.le_of_eq rfl) (hb hby d1_9) (fun _ _ => ⟨rfl, e17, (by decide : 1 + 0 ≤ _), (by decide : 3 + 0 ≤ _)⟩)
  dsimp only [Pt.U, Pt.locs, Pt.cells, Pt.slots] at X25 l25 y25 z25 st25 hQ25
  subst l25 y25 z25
  obtain ⟨rfl, N25q, K25q, f25_0⟩ := hQ25
  have N25 := Fr.app N0 N25q
  have f26 : Exa Z T25.heap a0 "com/example/assertline/assertline/policy/Audit" := f18.keep K25q
  have f27 : Fld Z T25.heap a0 "com/example/assertline/assertline/policy/Audit" "requestBody" "Z" (.int (0 : Int32)) := f19.keep K25q (ninS ne_a0_b17 nin0)
  have f28 : Fld Z T25.heap a0 "com/example/assertline/assertline/policy/Audit" "responseBody" "Z" (.int (0 : Int32)) := f20.keep K25q (ninS ne_a0_b17 nin0)
  have f29 : Fld Z T25.heap a0 "com/example/assertline/assertline/policy/Audit" "details" "Ljava/util/List;" .null := f21.keep K25q (ninS ne_a0_b17 nin0)
  have f30 : Sta Z T25.heap "java/util/ArrayList" "DEFAULTCAPACITY_EMPTY_ELEMENTDATA" "[Ljava/lang/Object;" (.ref dz) := own_Sta_keep f22 K25q (allS (own_nst A17) all0)
  have f31 : Exa Z T25.heap b17 "java/util/ArrayList" := A17.keep K25q
  have Z25 : n0 ≤ T25.heap.size := Nat.le_trans Z17 K25q.1
  have K25 : Keep h0 T25.heap [a0] := K17.trans K25q (allS (Or.inr sz_b17) all0)
  refine own_go (S' := T25.setTop (mkF m 12 #[.val (.ref a0)] [(.ref b17), (.ref a0)])) (fun _ k => st25.trans k) ?_
  obtain ⟨T34, h34, X34, e34, W34, st34⟩ := putF X25 hx hZ hown (host := "") (Or.inl (hw _ (List.mem_of_getElem? (i := 33) rfl))) Via.refl rfl f29 f26 (Or.inr ⟨(hw _ (List.mem_of_getElem? (i := 34) rfl)), rfl, hnm⟩) (hw _ (List.mem_of_getElem? (i := 1) rfl)) (ty := (.object "java/util/List")) (by decide) rfl rfl (g := (mkF m 12 #[.val (.ref a0)] [(.ref b17), (.ref a0)])) rfl rfl (hb hby d1_12)
  have f35 : Exa Z h34 a0 "com/example/assertline/assertline/policy/Audit" := f26.wr W34
  have f36 : Fld Z h34 a0 "com/example/assertline/assertline/policy/Audit" "requestBody" "Z" (.int (0 : Int32)) := f27.other W34 (Or.inr (slot_ne (Or.inl (hw _ (List.mem_of_getElem? (i := 41) rfl))) (Or.inr (hw _ (List.mem_of_getElem? (i := 34) rfl))) (by decide) (t := .boolean) (t' := (.object "java/util/List")) (by decide) (by decide)))
  have f37 : Fld Z h34 a0 "com/example/assertline/assertline/policy/Audit" "responseBody" "Z" (.int (0 : Int32)) := f28.other W34 (Or.inr (slot_ne (Or.inl (hw _ (List.mem_of_getElem? (i := 43) rfl))) (Or.inr (hw _ (List.mem_of_getElem? (i := 34) rfl))) (by decide) (t := .boolean) (t' := (.object "java/util/List")) (by decide) (by decide)))
  have f38 : Sta Z h34 "java/util/ArrayList" "DEFAULTCAPACITY_EMPTY_ELEMENTDATA" "[Ljava/lang/Object;" (.ref dz) := f30.wr W34
  have f39 : Exa Z h34 b17 "java/util/ArrayList" := f25_0.wr W34
  have f40 : Fld Z h34 a0 "com/example/assertline/assertline/policy/Audit" "details" "Ljava/util/List;" (.ref b17) := f29.same W34
  have Z34 : n0 ≤ h34.size := Nat.le_trans Z25 (Keep.of_wr W34).1
  have K34 : Keep h0 h34 [a0] := K25.wr W34 (Or.inl (List.mem_of_getElem? (i := 0) rfl))
  have N34 := Fr.snoc X34 N25 g_a0
  refine own_go (S' := T34.setTop (mkF m 15 #[.val (.ref a0)] [])) st34 ?_
  obtain ⟨fs, hr, hrun, hended, hW, hsame⟩ := X34.leave (v := none) (fun _ => rfl)
  refine ⟨_, _, ?_, hrun, hended, _, _, rfl, ?_, ⟨_, rfl⟩, hW, hsame.mono (by decide) (by decide)⟩
  · exact X34.returnOut hx Bd.returns (hb hby d1_15) hr
  · show Q1 Z a0 dz h0 n0 _ T34.heap _
    rw [e34]
    exact ⟨rfl, N34, K34, f35, f36, f37⟩
theorem d6_0 : decode prog_34_method_6_code 0 = .ok (.aload_n 0, 1) := by decide +kernel
theorem d6_1 : decode prog_34_method_6_code 1 = .ok (.dup, 1) := by decide +kernel
theorem d6_2 : decode prog_34_method_6_code 2 = .ok (.getfield 22, 3) := by decide +kernel
theorem d6_5 : decode prog_34_method_6_code 5 = .ok (.iload_n 1, 1) := by decide +kernel
theorem d6_6 : decode prog_34_method_6_code 6 = .ok (.ior, 1) := by decide +kernel
theorem d6_7 : decode prog_34_method_6_code 7 = .ok (.putfield 22, 3) := by decide +kernel
theorem d6_10 : decode prog_34_method_6_code 10 = .ok (.aload_n 0, 1) := by decide +kernel
theorem d6_11 : decode prog_34_method_6_code 11 = .ok (.dup, 1) := by decide +kernel
theorem d6_12 : decode prog_34_method_6_code 12 = .ok (.getfield 26, 3) := by decide +kernel
theorem d6_15 : decode prog_34_method_6_code 15 = .ok (.iload_n 2, 1) := by decide +kernel
theorem d6_16 : decode prog_34_method_6_code 16 = .ok (.ior, 1) := by decide +kernel
theorem d6_17 : decode prog_34_method_6_code 17 = .ok (.putfield 26, 3) := by decide +kernel
theorem d6_20 : decode prog_34_method_6_code 20 = .ok (.return_, 1) := by decide +kernel
set_option maxHeartbeats 40000000 in
theorem own_ef_rm6 (m : MethodId) (x0 : Addr) (x1 : Int32) (x2 : Int32) : entryFrame m #[(.ref x0), (.int x1), (.int x2)] 3 = mkF m 0 #[.val (.ref x0), .val (.int x1), .val (.int x2)] [] := by first | (simp [entryFrame, mkF, argsToLocals, Value.category]; done) | rfl
def Q6 (Z : State) (a0 : Addr) (p1 : Int32) (p2 : Int32) (w1 : Int32) (w2 : Int32) (h0 : Heap) (n0 : Nat) (v : Option Value) (h : Heap) (L : List Loc) : Prop := v = none ∧ Fr n0 L ∧ Keep h0 h [a0] ∧ Exa Z h a0 "com/example/assertline/assertline/policy/Audit" ∧ Fld Z h a0 "com/example/assertline/assertline/policy/Audit" "requestBody" "Z" (.int (w1 ||| p1)) ∧ Fld Z h a0 "com/example/assertline/assertline/policy/Audit" "responseBody" "Z" (.int (w2 ||| p2))
set_option maxRecDepth 65536 in
set_option maxHeartbeats 40000000 in
theorem rm6 (l : Launch) (Z : State) (aZ : Array Value) (hw : ∀ d ∈ tables_1, d.before aZ Z = true) (ws : List Jvm.Cond) (a0 : Addr) (p1 : Int32) (p2 : Int32) (w1 : Int32) (w2 : Int32) (h0 : Heap) (n0 : Nat) (Z0 : n0 ≤ h0.size) (pf0 : Exa Z h0 a0 "com/example/assertline/assertline/policy/Audit") (pf1 : Fld Z h0 a0 "com/example/assertline/assertline/policy/Audit" "requestBody" "Z" (.int w1)) (pf2 : Fld Z h0 a0 "com/example/assertline/assertline/policy/Audit" "responseBody" "Z" (.int w2)) (g_a0 : n0 ≤ a0) (w1b : w1 = 0 ∨ w1 = 1) (p1b : p1 = 0 ∨ p1 = 1) (w2b : w2 = 0 ∨ w2 = 1) (p2b : p2 = 0 ∨ p2 = 1) :
    MetFree l (⟨"com/example/assertline/assertline/policy/Audit", "askFor", "(ZZ)V"⟩ : MethodName) (head1 (Jvm.Cond.code (⟨"com/example/assertline/assertline/policy/Audit", "askFor", "(ZZ)V"⟩ : MethodName) prog_34_method_6_code 3 none :: ws) ({ frames := 0, cells := 0, slots := 0, locals := 0 } : Room)) (fun a U => a = #[(.ref a0), (.int p1), (.int p2)] ∧ Z.Warmed39 U.vm ∧ U.heap = h0) (fun _ _ _ _ _ => True) (fun _ U o U' => ∃ v L, o = .returned v ∧ Q6 Z a0 p1 p2 w1 w2 h0 n0 v U'.heap L ∧ FrameEnd U o U' L ({ frames := 0, cells := 0, slots := 0, locals := 0 } : Room).cells ({ frames := 0, cells := 0, slots := 0, locals := 0 } : Room).slots) := by
  refine MetFree.of_bodySF (plainFor_of_name own_pn3) hisR ?_
  intro p e s m args below meth c s₁ Bd hml0 hP hK
  obtain ⟨rfl, hZ, hh⟩ := hP
  have hx := Bd.exec
  have hby := Bd.bytes
  have hml : c.maxLocals = 3 := hml0
  have hown : s.vm.findClass "com/example/assertline/assertline/policy/Audit" = some m.cls := findClass_of_methodNamed Bd.named
  have hnm := (name_of_methodNamed Bd.named Bd.method).1
  have X0 : Stand p l e ({ frames := 0, cells := 0, slots := 0, locals := 0 } : Room) s m #[(.ref a0), (.int p1), (.int p2)] below meth c s₁ [] 0 0 := Stand.of_body Bd
  have e0 : s₁.heap = h0 := by rw [← hh, Bd.state]; rfl
  have N0 := Fr.nil n0
  have K0 : Keep h0 h0 [a0] := Keep.refl h0 _
  refine own_go (S' := s₁.setTop (mkF m 0 #[.val (.ref a0), .val (.int p1), .val (.int p2)] [])) (fun t k => castTop (own_ef_rm6 m a0 p1 p2) k) ?_
  refine own_go (S' := s₁.setTop (mkF m 2 #[.val (.ref a0), .val (.int p1), .val (.int p2)] [(.ref a0), (.ref a0)])) (fun target kt => ?_) ?_
  · skip
    show Steps p.tables e below (s₁.setTop (mkF m 0 #[.val (.ref a0), .val (.int p1), .val (.int p2)] [])) _
    refine XS.aloadN X0.here hx rfl (hb hby d6_0) rfl rfl ?_
    show Steps p.tables e below (s₁.setTop (mkF m 1 #[.val (.ref a0), .val (.int p1), .val (.int p2)] [(.ref a0)])) _
    refine XS.dup X0.here hx rfl (hb hby d6_1) rfl rfl ?_
    exact kt
  obtain ⟨T41, X41, e41, st41⟩ := getF X0 hx hZ hown (host := "") (Or.inl (hw _ (List.mem_of_getElem? (i := 40) rfl))) Via.refl e0 pf1 (g := (mkF m 2 #[.val (.ref a0), .val (.int p1), .val (.int p2)] [(.ref a0), (.ref a0)])) rfl rfl (hb hby d6_2)
  refine own_go (S' := T41.setTop (mkF m 5 #[.val (.ref a0), .val (.int p1), .val (.int p2)] [(.int w1), (.ref a0)])) st41 ?_
  refine own_go (S' := T41.setTop (mkF m 7 #[.val (.ref a0), .val (.int p1), .val (.int p2)] [(.int (w1 ||| p1)), (.ref a0)])) (fun target kt => ?_) ?_
  · skip
    show Steps p.tables e below (T41.setTop (mkF m 5 #[.val (.ref a0), .val (.int p1), .val (.int p2)] [(.int w1), (.ref a0)])) _
    refine XS.iloadN X41.here hx rfl (hb hby d6_5) rfl ?_
    show Steps p.tables e below (T41.setTop (mkF m 6 #[.val (.ref a0), .val (.int p1), .val (.int p2)] [(.int p1), (.int w1), (.ref a0)])) _
    refine XS.ior X41.here hx rfl (hb hby d6_6) rfl ?_
    exact kt
  obtain ⟨T42, h42, X42, e42, W42, st42⟩ := putFN X41 hx hZ hown (hw _ (List.mem_of_getElem? (i := 40) rfl)) Via.refl e41 pf1 pf0 (Or.inl (hw _ (List.mem_of_getElem? (i := 41) rfl))) (hw _ (List.mem_of_getElem? (i := 1) rfl)) (ty := .boolean) (v' := (.int (w1 ||| p1))) (by decide) (own_nb w1b p1b) (own_fb w1b p1b) (g := (mkF m 7 #[.val (.ref a0), .val (.int p1), .val (.int p2)] [(.int (w1 ||| p1)), (.ref a0)])) rfl rfl (hb hby d6_7)
  have f43 : Exa Z h42 a0 "com/example/assertline/assertline/policy/Audit" := pf0.wr W42
  have f44 : Fld Z h42 a0 "com/example/assertline/assertline/policy/Audit" "responseBody" "Z" (.int w2) := pf2.other W42 (Or.inr (slot_ne (Or.inl (hw _ (List.mem_of_getElem? (i := 43) rfl))) (Or.inl (hw _ (List.mem_of_getElem? (i := 41) rfl))) (by decide) (t := .boolean) (t' := .boolean) (by decide) (by decide)))
  have f45 : Fld Z h42 a0 "com/example/assertline/assertline/policy/Audit" "requestBody" "Z" (.int (w1 ||| p1)) := pf1.same W42
  have Z42 : n0 ≤ h42.size := Nat.le_trans Z0 (Keep.of_wr W42).1
  have K42 : Keep h0 h42 [a0] := K0.wr W42 (Or.inl (List.mem_of_getElem? (i := 0) rfl))
  have N42 := Fr.snoc X42 N0 g_a0
  refine own_go (S' := T42.setTop (mkF m 10 #[.val (.ref a0), .val (.int p1), .val (.int p2)] [])) st42 ?_
  refine own_go (S' := T42.setTop (mkF m 12 #[.val (.ref a0), .val (.int p1), .val (.int p2)] [(.ref a0), (.ref a0)])) (fun target kt => ?_) ?_
  · skip
    show Steps p.tables e below (T42.setTop (mkF m 10 #[.val (.ref a0), .val (.int p1), .val (.int p2)] [])) _
    refine XS.aloadN X42.here hx rfl (hb hby d6_10) rfl rfl ?_
    show Steps p.tables e below (T42.setTop (mkF m 11 #[.val (.ref a0), .val (.int p1), .val (.int p2)] [(.ref a0)])) _
    refine XS.dup X42.here hx rfl (hb hby d6_11) rfl rfl ?_
    exact kt
  obtain ⟨T46, X46, e46, st46⟩ := getF X42 hx hZ hown (host := "") (Or.inl (hw _ (List.mem_of_getElem? (i := 42) rfl))) Via.refl e42 f44 (g := (mkF m 12 #[.val (.ref a0), .val (.int p1), .val (.int p2)] [(.ref a0), (.ref a0)])) rfl rfl (hb hby d6_12)
  refine own_go (S' := T46.setTop (mkF m 15 #[.val (.ref a0), .val (.int p1), .val (.int p2)] [(.int w2), (.ref a0)])) st46 ?_
  refine own_go (S' := T46.setTop (mkF m 17 #[.val (.ref a0), .val (.int p1), .val (.int p2)] [(.int (w2 ||| p2)), (.ref a0)])) (fun target kt => ?_) ?_
  · skip
    show Steps p.tables e below (T46.setTop (mkF m 15 #[.val (.ref a0), .val (.int p1), .val (.int p2)] [(.int w2), (.ref a0)])) _
    refine XS.iloadN X46.here hx rfl (hb hby d6_15) rfl ?_
    show Steps p.tables e below (T46.setTop (mkF m 16 #[.val (.ref a0), .val (.int p1), .val (.int p2)] [(.int p2), (.int w2), (.ref a0)])) _
    refine XS.ior X46.here hx rfl (hb hby d6_16) rfl ?_
    exact kt
  obtain ⟨T47, h47, X47, e47, W47, st47⟩ := putFN X46 hx hZ hown (hw _ (List.mem_of_getElem? (i := 42) rfl)) Via.refl e46 f44 f43 (Or.inl (hw _ (List.mem_of_getElem? (i := 43) rfl))) (hw _ (List.mem_of_getElem? (i := 1) rfl)) (ty := .boolean) (v' := (.int (w2 ||| p2))) (by decide) (own_nb w2b p2b) (own_fb w2b p2b) (g := (mkF m 17 #[.val (.ref a0), .val (.int p1), .val (.int p2)] [(.int (w2 ||| p2)), (.ref a0)])) rfl rfl (hb hby d6_17)
  have f48 : Exa Z h47 a0 "com/example/assertline/assertline/policy/Audit" := f43.wr W47
  have f49 : Fld Z h47 a0 "com/example/assertline/assertline/policy/Audit" "requestBody" "Z" (.int (w1 ||| p1)) := f45.other W47 (Or.inr (slot_ne (Or.inl (hw _ (List.mem_of_getElem? (i := 41) rfl))) (Or.inl (hw _ (List.mem_of_getElem? (i := 43) rfl))) (by decide) (t := .boolean) (t' := .boolean) (by decide) (by decide)))
  have f50 : Fld Z h47 a0 "com/example/assertline/assertline/policy/Audit" "responseBody" "Z" (.int (w2 ||| p2)) := f44.same W47
  have Z47 : n0 ≤ h47.size := Nat.le_trans Z42 (Keep.of_wr W47).1
  have K47 : Keep h0 h47 [a0] := K42.wr W47 (Or.inl (List.mem_of_getElem? (i := 0) rfl))
  have N47 := Fr.snoc X47 N42 g_a0
  refine own_go (S' := T47.setTop (mkF m 20 #[.val (.ref a0), .val (.int p1), .val (.int p2)] [])) st47 ?_
  obtain ⟨fs, hr, hrun, hended, hW, hsame⟩ := X47.leave (v := none) (fun _ => rfl)
  refine ⟨_, _, ?_, hrun, hended, _, _, rfl, ?_, ⟨_, rfl⟩, hW, hsame.mono (by decide) (by decide)⟩
  · exact X47.returnOut hx Bd.returns (hb hby d6_20) hr
  · show Q6 Z a0 p1 p2 w1 w2 h0 n0 _ T47.heap _
    rw [e47]
    exact ⟨rfl, N47, K47, f48, f49, f50⟩
theorem d7_0 : decode prog_34_method_3_code 0 = .ok (.aload_n 0, 1) := by decide +kernel
theorem d7_1 : decode prog_34_method_3_code 1 = .ok (.getfield 22, 3) := by decide +kernel
theorem d7_4 : decode prog_34_method_3_code 4 = .ok (.ireturn, 1) := by decide +kernel
set_option maxHeartbeats 40000000 in
theorem own_ef_rm7 (m : MethodId) (x0 : Addr) : entryFrame m #[(.ref x0)] 1 = mkF m 0 #[.val (.ref x0)] [] := by first | (simp [entryFrame, mkF, argsToLocals, Value.category]; done) | rfl
def Q7 (Z : State) (a0 : Addr) (w1 : Int32) (h0 : Heap) (n0 : Nat) (v : Option Value) (h : Heap) (L : List Loc) : Prop := v = some (.int w1) ∧ Fr n0 L ∧ h = h0
set_option maxRecDepth 65536 in
set_option maxHeartbeats 40000000 in
theorem rm7 (l : Launch) (Z : State) (aZ : Array Value) (hw : ∀ d ∈ tables_1, d.before aZ Z = true) (ws : List Jvm.Cond) (a0 : Addr) (w1 : Int32) (h0 : Heap) (n0 : Nat) (Z0 : n0 ≤ h0.size) (pf0 : Fld Z h0 a0 "com/example/assertline/assertline/policy/Audit" "requestBody" "Z" (.int w1)) (w1b : w1 = 0 ∨ w1 = 1) :
    MetFree l (⟨"com/example/assertline/assertline/policy/Audit", "requestBody", "()Z"⟩ : MethodName) (head1 (Jvm.Cond.code (⟨"com/example/assertline/assertline/policy/Audit", "requestBody", "()Z"⟩ : MethodName) prog_34_method_3_code 1 (some .boolean) :: ws) ({ frames := 0, cells := 0, slots := 0, locals := 0 } : Room)) (fun a U => a = #[(.ref a0)] ∧ Z.Warmed39 U.vm ∧ U.heap = h0) (fun _ _ _ _ _ => True) (fun _ U o U' => ∃ v L, o = .returned v ∧ Q7 Z a0 w1 h0 n0 v U'.heap L ∧ FrameEnd U o U' L ({ frames := 0, cells := 0, slots := 0, locals := 0 } : Room).cells ({ frames := 0, cells := 0, slots := 0, locals := 0 } : Room).slots) := by
  refine MetFree.of_bodySF (plainFor_of_name own_pn3) hisR ?_
  intro p e s m args below meth c s₁ Bd hml0 hP hK
  obtain ⟨rfl, hZ, hh⟩ := hP
  have hx := Bd.exec
  have hby := Bd.bytes
  have hml : c.maxLocals = 1 := hml0
  have hown : s.vm.findClass "com/example/assertline/assertline/policy/Audit" = some m.cls := findClass_of_methodNamed Bd.named
  have hnm := (name_of_methodNamed Bd.named Bd.method).1
  have X0 : Stand p l e ({ frames := 0, cells := 0, slots := 0, locals := 0 } : Room) s m #[(.ref a0)] below meth c s₁ [] 0 0 := Stand.of_body Bd
  have e0 : s₁.heap = h0 := by rw [← hh, Bd.state]; rfl
  have N0 := Fr.nil n0
  refine own_go (S' := s₁.setTop (mkF m 0 #[.val (.ref a0)] [])) (fun t k => castTop (own_ef_rm7 m a0) k) ?_
  refine own_go (S' := s₁.setTop (mkF m 1 #[.val (.ref a0)] [(.ref a0)])) (fun target kt => ?_) ?_
  · skip
    show Steps p.tables e below (s₁.setTop (mkF m 0 #[.val (.ref a0)] [])) _
    refine XS.aloadN X0.here hx rfl (hb hby d7_0) rfl rfl ?_
    exact kt
  obtain ⟨T51, X51, e51, st51⟩ := getF X0 hx hZ hown (host := "") (Or.inl (hw _ (List.mem_of_getElem? (i := 40) rfl))) Via.refl e0 pf0 (g := (mkF m 1 #[.val (.ref a0)] [(.ref a0)])) rfl rfl (hb hby d7_1)
  refine own_go (S' := T51.setTop (mkF m 4 #[.val (.ref a0)] [(.int w1)])) st51 ?_
  obtain ⟨fs, hr, hrun, hended, hW, hsame⟩ := X51.leave (v := some (.int (nar .boolean w1))) (fun h => by rw [Bd.returns] at h; cases h)
  refine ⟨_, _, ?_, hrun, hended, _, _, rfl, ?_, ⟨_, rfl⟩, hW, hsame.mono (by decide) (by decide)⟩
  · exact retN X51 hx (t := .boolean) Bd.returns (by simp) (hb hby d7_4) hr
  · show Q7 Z a0 w1 h0 n0 _ T51.heap _
    rw [e51]
    exact ⟨(congrArg (fun z => some (Value.int z)) (own_nz w1b)), N0, rfl⟩
theorem d8_0 : decode prog_34_method_4_code 0 = .ok (.aload_n 0, 1) := by decide +kernel
theorem d8_1 : decode prog_34_method_4_code 1 = .ok (.getfield 26, 3) := by decide +kernel
theorem d8_4 : decode prog_34_method_4_code 4 = .ok (.ireturn, 1) := by decide +kernel
set_option maxHeartbeats 40000000 in
theorem own_ef_rm8 (m : MethodId) (x0 : Addr) : entryFrame m #[(.ref x0)] 1 = mkF m 0 #[.val (.ref x0)] [] := by first | (simp [entryFrame, mkF, argsToLocals, Value.category]; done) | rfl
def Q8 (Z : State) (a0 : Addr) (w1 : Int32) (h0 : Heap) (n0 : Nat) (v : Option Value) (h : Heap) (L : List Loc) : Prop := v = some (.int w1) ∧ Fr n0 L ∧ h = h0
set_option maxRecDepth 65536 in
set_option maxHeartbeats 40000000 in
theorem rm8 (l : Launch) (Z : State) (aZ : Array Value) (hw : ∀ d ∈ tables_1, d.before aZ Z = true) (ws : List Jvm.Cond) (a0 : Addr) (w1 : Int32) (h0 : Heap) (n0 : Nat) (Z0 : n0 ≤ h0.size) (pf0 : Fld Z h0 a0 "com/example/assertline/assertline/policy/Audit" "responseBody" "Z" (.int w1)) (w1b : w1 = 0 ∨ w1 = 1) :
    MetFree l (⟨"com/example/assertline/assertline/policy/Audit", "responseBody", "()Z"⟩ : MethodName) (head1 (Jvm.Cond.code (⟨"com/example/assertline/assertline/policy/Audit", "responseBody", "()Z"⟩ : MethodName) prog_34_method_4_code 1 (some .boolean) :: ws) ({ frames := 0, cells := 0, slots := 0, locals := 0 } : Room)) (fun a U => a = #[(.ref a0)] ∧ Z.Warmed39 U.vm ∧ U.heap = h0) (fun _ _ _ _ _ => True) (fun _ U o U' => ∃ v L, o = .returned v ∧ Q8 Z a0 w1 h0 n0 v U'.heap L ∧ FrameEnd U o U' L ({ frames := 0, cells := 0, slots := 0, locals := 0 } : Room).cells ({ frames := 0, cells := 0, slots := 0, locals := 0 } : Room).slots) := by
  refine MetFree.of_bodySF (plainFor_of_name own_pn3) hisR ?_
  intro p e s m args below meth c s₁ Bd hml0 hP hK
  obtain ⟨rfl, hZ, hh⟩ := hP
  have hx := Bd.exec
  have hby := Bd.bytes
  have hml : c.maxLocals = 1 := hml0
  have hown : s.vm.findClass "com/example/assertline/assertline/policy/Audit" = some m.cls := findClass_of_methodNamed Bd.named
  have hnm := (name_of_methodNamed Bd.named Bd.method).1
  have X0 : Stand p l e ({ frames := 0, cells := 0, slots := 0, locals := 0 } : Room) s m #[(.ref a0)] below meth c s₁ [] 0 0 := Stand.of_body Bd
  have e0 : s₁.heap = h0 := by rw [← hh, Bd.state]; rfl
  have N0 := Fr.nil n0
  refine own_go (S' := s₁.setTop (mkF m 0 #[.val (.ref a0)] [])) (fun t k => castTop (own_ef_rm8 m a0) k) ?_
  refine own_go (S' := s₁.setTop (mkF m 1 #[.val (.ref a0)] [(.ref a0)])) (fun target kt => ?_) ?_
  · skip
    show Steps p.tables e below (s₁.setTop (mkF m 0 #[.val (.ref a0)] [])) _
    refine XS.aloadN X0.here hx rfl (hb hby d8_0) rfl rfl ?_
    exact kt
  obtain ⟨T52, X52, e52, st52⟩ := getF X0 hx hZ hown (host := "") (Or.inl (hw _ (List.mem_of_getElem? (i := 42) rfl))) Via.refl e0 pf0 (g := (mkF m 1 #[.val (.ref a0)] [(.ref a0)])) rfl rfl (hb hby d8_1)
  refine own_go (S' := T52.setTop (mkF m 4 #[.val (.ref a0)] [(.int w1)])) st52 ?_
  obtain ⟨fs, hr, hrun, hended, hW, hsame⟩ := X52.leave (v := some (.int (nar .boolean w1))) (fun h => by rw [Bd.returns] at h; cases h)
  refine ⟨_, _, ?_, hrun, hended, _, _, rfl, ?_, ⟨_, rfl⟩, hW, hsame.mono (by decide) (by decide)⟩
  · exact retN X52 hx (t := .boolean) Bd.returns (by simp) (hb hby d8_4) hr
  · show Q8 Z a0 w1 h0 n0 _ T52.heap _
    rw [e52]
    exact ⟨(congrArg (fun z => some (Value.int z)) (own_nz w1b)), N0, rfl⟩
theorem own_pd1 : parseMethodDescriptor "(ZZ)V" = some ⟨[.boolean, .boolean], none⟩ := by decide +kernel
theorem own_pd2 : parseMethodDescriptor "()Z" = some ⟨[], some .boolean⟩ := by decide +kernel
theorem own_pn4 : plainName "com/example/assertline/assertline/policy/AuditAskForPinLaw" = true := by first | (simp [plainName, overriddenIn]; done) | decide +kernel
set_option maxHeartbeats 40000000 in
theorem own_ef_rm0 (m : MethodId) (x0 : Int32) : entryFrame m #[(.int x0)] maxLocals = mkF m 0 #[.val (.int x0), .unset, .unset, .unset, .unset, .unset, .unset, .unset, .unset, .unset, .unset, .unset, .unset, .unset, .unset, .unset, .unset] [] := by first | (simp [entryFrame, mkF, argsToLocals, Value.category, maxLocals]; done) | rfl
def Q0 (Z : State) (p0 : Int32) (dz : Addr) (h0 : Heap) (n0 : Nat) (v : Option Value) (h : Heap) (L : List Loc) : Prop := v = some (.int 1) ∧ Fr n0 L
set_option maxRecDepth 65536 in
set_option maxHeartbeats 40000000 in
theorem rm0 (l : Launch) (Z : State) (aZ : Array Value) (hw : ∀ d ∈ tables_1, d.before aZ Z = true) (ws : List Jvm.Cond) (p0 : Int32) (dz : Addr) (h0 : Heap) (n0 : Nat) (Z0 : n0 ≤ h0.size) (pf0 : Sta Z h0 "java/util/ArrayList" "DEFAULTCAPACITY_EMPTY_ELEMENTDATA" "[Ljava/lang/Object;" (.ref dz)) :
    MetFree l x (head1 (Jvm.Cond.code x code maxLocals ret :: ws) room_1) (fun a U => a = #[(.int p0)] ∧ Z.Warmed39 U.vm ∧ U.heap = h0) (fun _ _ _ _ _ => True) (fun _ U o U' => ∃ v L, o = .returned v ∧ Q0 Z p0 dz h0 n0 v U'.heap L ∧ FrameEnd U o U' L room_1.cells room_1.slots) := by
  refine MetFree.of_bodySF (plainFor_of_name own_pn4) hisR ?_
  intro p e s m args below meth c s₁ Bd hml0 hP hK
  obtain ⟨rfl, hZ, hh⟩ := hP
  have hx := Bd.exec
  have hby := Bd.bytes
  have hml : c.maxLocals = 17 := hml0
  have hown : s.vm.findClass "com/example/assertline/assertline/policy/AuditAskForPinLaw" = some m.cls := findClass_of_methodNamed Bd.named
  have hnm := (name_of_methodNamed Bd.named Bd.method).1
  have X0 : Stand p l e room_1 s m #[(.int p0)] below meth c s₁ [] 0 0 := Stand.of_body Bd
  have e0 : s₁.heap = h0 := by rw [← hh, Bd.state]; rfl
  have N0 := Fr.nil n0
  refine own_go (S' := s₁.setTop (mkF m 0 #[.val (.int p0), .unset, .unset, .unset, .unset, .unset, .unset, .unset, .unset, .unset, .unset, .unset, .unset, .unset, .unset, .unset, .unset] [])) (fun t k => castTop (own_ef_rm0 m p0) k) ?_
  refine own_go (S' := s₁.setTop (mkF m 3 #[.val (.int p0), .unset, .unset, .unset, .unset, .unset, .unset, .unset, .unset, .unset, .unset, .unset, .unset, .unset, .unset, .unset, .unset] [(.int (p0 &&& (1 : Int32)))])) (fun target kt => ?_) ?_
  · skip
    show Steps p.tables e below (s₁.setTop (mkF m 0 #[.val (.int p0), .unset, .unset, .unset, .unset, .unset, .unset, .unset, .unset, .unset, .unset, .unset, .unset, .unset, .unset, .unset, .unset] [])) _
    refine XS.iloadN X0.here hx rfl (hb hby at_0) rfl ?_
    show Steps p.tables e below (s₁.setTop (mkF m 1 #[.val (.int p0), .unset, .unset, .unset, .unset, .unset, .unset, .unset, .unset, .unset, .unset, .unset, .unset, .unset, .unset, .unset, .unset] [(.int p0)])) _
    refine XS.iconst X0.here hx rfl (hb hby at_1) ?_
    show Steps p.tables e below (s₁.setTop (mkF m 2 #[.val (.int p0), .unset, .unset, .unset, .unset, .unset, .unset, .unset, .unset, .unset, .unset, .unset, .unset, .unset, .unset, .unset, .unset] [(.int (1 : Int32)), (.int p0)])) _
    refine XS.iand X0.here hx rfl (hb hby at_2) rfl ?_
    exact kt
  obtain ⟨r1, h_r1⟩ : ∃ z : Int32, z = (if (p0 &&& (1 : Int32)) = (0 : Int32) then (0 : Int32) else (1 : Int32)) := ⟨_, rfl⟩
  refine own_go (S' := s₁.setTop (mkF m 11 #[.val (.int p0), .unset, .unset, .unset, .unset, .unset, .unset, .unset, .unset, .unset, .unset, .unset, .unset, .unset, .unset, .unset, .unset] [(.int r1)])) (fun target kt => ?_) ?_
  · skip
    by_cases hm3 : (p0 &&& (1 : Int32)) = (0 : Int32)
    · skip
      show Steps p.tables e below (s₁.setTop (mkF m 3 #[.val (.int p0), .unset, .unset, .unset, .unset, .unset, .unset, .unset, .unset, .unset, .unset, .unset, .unset, .unset, .unset, .unset, .unset] [(.int (p0 &&& (1 : Int32)))])) _
      refine XS.ifYes X0.here hx rfl (pc0 := 3) (pc' := 10) rfl (hb hby at_3) rfl ((if0 _ _).trans (teq hm3).1) (by decide) (by decide) ?_
      show Steps p.tables e below (s₁.setTop (mkF m 10 #[.val (.int p0), .unset, .unset, .unset, .unset, .unset, .unset, .unset, .unset, .unset, .unset, .unset, .unset, .unset, .unset, .unset, .unset] [])) _
      refine XS.iconst X0.here hx rfl (hb hby at_10) ?_
      rw [h_r1, if_pos hm3] at kt
      exact kt
    · skip
      show Steps p.tables e below (s₁.setTop (mkF m 3 #[.val (.int p0), .unset, .unset, .unset, .unset, .unset, .unset, .unset, .unset, .unset, .unset, .unset, .unset, .unset, .unset, .unset, .unset] [(.int (p0 &&& (1 : Int32)))])) _
      refine XS.ifNo X0.here hx rfl (hb hby at_3) rfl ((if0 _ _).trans (feq hm3).1) ?_
      show Steps p.tables e below (s₁.setTop (mkF m 6 #[.val (.int p0), .unset, .unset, .unset, .unset, .unset, .unset, .unset, .unset, .unset, .unset, .unset, .unset, .unset, .unset, .unset, .unset] [])) _
      refine XS.iconst X0.here hx rfl (hb hby at_6) ?_
      show Steps p.tables e below (s₁.setTop (mkF m 7 #[.val (.int p0), .unset, .unset, .unset, .unset, .unset, .unset, .unset, .unset, .unset, .unset, .unset, .unset, .unset, .unset, .unset, .unset] [(.int (1 : Int32))])) _
      refine XS.goto X0.here hx rfl (pc0 := 7) (pc' := 11) rfl (hb hby at_7) (by decide) (by decide) ?_
      rw [h_r1, if_neg hm3] at kt
      exact kt
  refine own_go (S' := s₁.setTop (mkF m 15 #[.val (.int p0), .val (.int r1), .unset, .unset, .unset, .unset, .unset, .unset, .unset, .unset, .unset, .unset, .unset, .unset, .unset, .unset, .unset] [(.int (p0 &&& (2 : Int32)))])) (fun target kt => ?_) ?_
  · skip
    show Steps p.tables e below (s₁.setTop (mkF m 11 #[.val (.int p0), .unset, .unset, .unset, .unset, .unset, .unset, .unset, .unset, .unset, .unset, .unset, .unset, .unset, .unset, .unset, .unset] [(.int r1)])) _
    refine XS.istoreN X0.here hx rfl (hb hby at_11) rfl (l' := #[.val (.int p0), .val (.int r1), .unset, .unset, .unset, .unset, .unset, .unset, .unset, .unset, .unset, .unset, .unset, .unset, .unset, .unset, .unset]) rfl ?_
    show Steps p.tables e below (s₁.setTop (mkF m 12 #[.val (.int p0), .val (.int r1), .unset, .unset, .unset, .unset, .unset, .unset, .unset, .unset, .unset, .unset, .unset, .unset, .unset, .unset, .unset] [])) _
    refine XS.iloadN X0.here hx rfl (hb hby at_12) rfl ?_
    show Steps p.tables e below (s₁.setTop (mkF m 13 #[.val (.int p0), .val (.int r1), .unset, .unset, .unset, .unset, .unset, .unset, .unset, .unset, .unset, .unset, .unset, .unset, .unset, .unset, .unset] [(.int p0)])) _
    refine XS.iconst X0.here hx rfl (hb hby at_13) ?_
    show Steps p.tables e below (s₁.setTop (mkF m 14 #[.val (.int p0), .val (.int r1), .unset, .unset, .unset, .unset, .unset, .unset, .unset, .unset, .unset, .unset, .unset, .unset, .unset, .unset, .unset] [(.int (2 : Int32)), (.int p0)])) _
    refine XS.iand X0.here hx rfl (hb hby at_14) rfl ?_
    exact kt
  obtain ⟨s1, h_s1⟩ : ∃ z : Int32, z = (if (p0 &&& (2 : Int32)) = (0 : Int32) then (0 : Int32) else (1 : Int32)) := ⟨_, rfl⟩
  refine own_go (S' := s₁.setTop (mkF m 23 #[.val (.int p0), .val (.int r1), .unset, .unset, .unset, .unset, .unset, .unset, .unset, .unset, .unset, .unset, .unset, .unset, .unset, .unset, .unset] [(.int s1)])) (fun target kt => ?_) ?_
  · skip
    by_cases hm15 : (p0 &&& (2 : Int32)) = (0 : Int32)
    · skip
      show Steps p.tables e below (s₁.setTop (mkF m 15 #[.val (.int p0), .val (.int r1), .unset, .unset, .unset, .unset, .unset, .unset, .unset, .unset, .unset, .unset, .unset, .unset, .unset, .unset, .unset] [(.int (p0 &&& (2 : Int32)))])) _
      refine XS.ifYes X0.here hx rfl (pc0 := 15) (pc' := 22) rfl (hb hby at_15) rfl ((if0 _ _).trans (teq hm15).1) (by decide) (by decide) ?_
      show Steps p.tables e below (s₁.setTop (mkF m 22 #[.val (.int p0), .val (.int r1), .unset, .unset, .unset, .unset, .unset, .unset, .unset, .unset, .unset, .unset, .unset, .unset, .unset, .unset, .unset] [])) _
      refine XS.iconst X0.here hx rfl (hb hby at_22) ?_
      rw [h_s1, if_pos hm15] at kt
      exact kt
    · skip
      show Steps p.tables e below (s₁.setTop (mkF m 15 #[.val (.int p0), .val (.int r1), .unset, .unset, .unset, .unset, .unset, .unset, .unset, .unset, .unset, .unset, .unset, .unset, .unset, .unset, .unset] [(.int (p0 &&& (2 : Int32)))])) _
      refine XS.ifNo X0.here hx rfl (hb hby at_15) rfl ((if0 _ _).trans (feq hm15).1) ?_
      show Steps p.tables e below (s₁.setTop (mkF m 18 #[.val (.int p0), .val (.int r1), .unset, .unset, .unset, .unset, .unset, .unset, .unset, .unset, .unset, .unset, .unset, .unset, .unset, .unset, .unset] [])) _
      refine XS.iconst X0.here hx rfl (hb hby at_18) ?_
      show Steps p.tables e below (s₁.setTop (mkF m 19 #[.val (.int p0), .val (.int r1), .unset, .unset, .unset, .unset, .unset, .unset, .unset, .unset, .unset, .unset, .unset, .unset, .unset, .unset, .unset] [(.int (1 : Int32))])) _
      refine XS.goto X0.here hx rfl (pc0 := 19) (pc' := 23) rfl (hb hby at_19) (by decide) (by decide) ?_
      rw [h_s1, if_neg hm15] at kt
      exact kt
  refine own_go (S' := s₁.setTop (mkF m 27 #[.val (.int p0), .val (.int r1), .val (.int s1), .unset, .unset, .unset, .unset, .unset, .unset, .unset, .unset, .unset, .unset, .unset, .unset, .unset, .unset] [(.int (p0 &&& (4 : Int32)))])) (fun target kt => ?_) ?_
  · skip
    show Steps p.tables e below (s₁.setTop (mkF m 23 #[.val (.int p0), .val (.int r1), .unset, .unset, .unset, .unset, .unset, .unset, .unset, .unset, .unset, .unset, .unset, .unset, .unset, .unset, .unset] [(.int s1)])) _
    refine XS.istoreN X0.here hx rfl (hb hby at_23) rfl (l' := #[.val (.int p0), .val (.int r1), .val (.int s1), .unset, .unset, .unset, .unset, .unset, .unset, .unset, .unset, .unset, .unset, .unset, .unset, .unset, .unset]) rfl ?_
    show Steps p.tables e below (s₁.setTop (mkF m 24 #[.val (.int p0), .val (.int r1), .val (.int s1), .unset, .unset, .unset, .unset, .unset, .unset, .unset, .unset, .unset, .unset, .unset, .unset, .unset, .unset] [])) _
    refine XS.iloadN X0.here hx rfl (hb hby at_24) rfl ?_
    show Steps p.tables e below (s₁.setTop (mkF m 25 #[.val (.int p0), .val (.int r1), .val (.int s1), .unset, .unset, .unset, .unset, .unset, .unset, .unset, .unset, .unset, .unset, .unset, .unset, .unset, .unset] [(.int p0)])) _
    refine XS.iconst X0.here hx rfl (hb hby at_25) ?_
    show Steps p.tables e below (s₁.setTop (mkF m 26 #[.val (.int p0), .val (.int r1), .val (.int s1), .unset, .unset, .unset, .unset, .unset, .unset, .unset, .unset, .unset, .unset, .unset, .unset, .unset, .unset] [(.int (4 : Int32)), (.int p0)])) _
    refine XS.iand X0.here hx rfl (hb hby at_26) rfl ?_
    exact kt
  obtain ⟨r2, h_r2⟩ : ∃ z : Int32, z = (if (p0 &&& (4 : Int32)) = (0 : Int32) then (0 : Int32) else (1 : Int32)) := ⟨_, rfl⟩
  refine own_go (S' := s₁.setTop (mkF m 35 #[.val (.int p0), .val (.int r1), .val (.int s1), .unset, .unset, .unset, .unset, .unset, .unset, .unset, .unset, .unset, .unset, .unset, .unset, .unset, .unset] [(.int r2)])) (fun target kt => ?_) ?_
  · skip
    by_cases hm27 : (p0 &&& (4 : Int32)) = (0 : Int32)
    · skip
      show Steps p.tables e below (s₁.setTop (mkF m 27 #[.val (.int p0), .val (.int r1), .val (.int s1), .unset, .unset, .unset, .unset, .unset, .unset, .unset, .unset, .unset, .unset, .unset, .unset, .unset, .unset] [(.int (p0 &&& (4 : Int32)))])) _
      refine XS.ifYes X0.here hx rfl (pc0 := 27) (pc' := 34) rfl (hb hby at_27) rfl ((if0 _ _).trans (teq hm27).1) (by decide) (by decide) ?_
      show Steps p.tables e below (s₁.setTop (mkF m 34 #[.val (.int p0), .val (.int r1), .val (.int s1), .unset, .unset, .unset, .unset, .unset, .unset, .unset, .unset, .unset, .unset, .unset, .unset, .unset, .unset] [])) _
      refine XS.iconst X0.here hx rfl (hb hby at_34) ?_
      rw [h_r2, if_pos hm27] at kt
      exact kt
    · skip
      show Steps p.tables e below (s₁.setTop (mkF m 27 #[.val (.int p0), .val (.int r1), .val (.int s1), .unset, .unset, .unset, .unset, .unset, .unset, .unset, .unset, .unset, .unset, .unset, .unset, .unset, .unset] [(.int (p0 &&& (4 : Int32)))])) _
      refine XS.ifNo X0.here hx rfl (hb hby at_27) rfl ((if0 _ _).trans (feq hm27).1) ?_
      show Steps p.tables e below (s₁.setTop (mkF m 30 #[.val (.int p0), .val (.int r1), .val (.int s1), .unset, .unset, .unset, .unset, .unset, .unset, .unset, .unset, .unset, .unset, .unset, .unset, .unset, .unset] [])) _
      refine XS.iconst X0.here hx rfl (hb hby at_30) ?_
      show Steps p.tables e below (s₁.setTop (mkF m 31 #[.val (.int p0), .val (.int r1), .val (.int s1), .unset, .unset, .unset, .unset, .unset, .unset, .unset, .unset, .unset, .unset, .unset, .unset, .unset, .unset] [(.int (1 : Int32))])) _
      refine XS.goto X0.here hx rfl (pc0 := 31) (pc' := 35) rfl (hb hby at_31) (by decide) (by decide) ?_
      rw [h_r2, if_neg hm27] at kt
      exact kt
  refine own_go (S' := s₁.setTop (mkF m 40 #[.val (.int p0), .val (.int r1), .val (.int s1), .val (.int r2), .unset, .unset, .unset, .unset, .unset, .unset, .unset, .unset, .unset, .unset, .unset, .unset, .unset] [(.int (p0 &&& (8 : Int32)))])) (fun target kt => ?_) ?_
  · skip
    show Steps p.tables e below (s₁.setTop (mkF m 35 #[.val (.int p0), .val (.int r1), .val (.int s1), .unset, .unset, .unset, .unset, .unset, .unset, .unset, .unset, .unset, .unset, .unset, .unset, .unset, .unset] [(.int r2)])) _
    refine XS.istoreN X0.here hx rfl (hb hby at_35) rfl (l' := #[.val (.int p0), .val (.int r1), .val (.int s1), .val (.int r2), .unset, .unset, .unset, .unset, .unset, .unset, .unset, .unset, .unset, .unset, .unset, .unset, .unset]) rfl ?_
    show Steps p.tables e below (s₁.setTop (mkF m 36 #[.val (.int p0), .val (.int r1), .val (.int s1), .val (.int r2), .unset, .unset, .unset, .unset, .unset, .unset, .unset, .unset, .unset, .unset, .unset, .unset, .unset] [])) _
    refine XS.iloadN X0.here hx rfl (hb hby at_36) rfl ?_
    show Steps p.tables e below (s₁.setTop (mkF m 37 #[.val (.int p0), .val (.int r1), .val (.int s1), .val (.int r2), .unset, .unset, .unset, .unset, .unset, .unset, .unset, .unset, .unset, .unset, .unset, .unset, .unset] [(.int p0)])) _
    refine XS.bipush X0.here hx rfl (hb hby at_37) ?_
    show Steps p.tables e below (s₁.setTop (mkF m 39 #[.val (.int p0), .val (.int r1), .val (.int s1), .val (.int r2), .unset, .unset, .unset, .unset, .unset, .unset, .unset, .unset, .unset, .unset, .unset, .unset, .unset] [(.int (8 : Int32)), (.int p0)])) _
    refine XS.iand X0.here hx rfl (hb hby at_39) rfl ?_
    exact kt
  obtain ⟨s2, h_s2⟩ : ∃ z : Int32, z = (if (p0 &&& (8 : Int32)) = (0 : Int32) then (0 : Int32) else (1 : Int32)) := ⟨_, rfl⟩
  refine own_go (S' := s₁.setTop (mkF m 48 #[.val (.int p0), .val (.int r1), .val (.int s1), .val (.int r2), .unset, .unset, .unset, .unset, .unset, .unset, .unset, .unset, .unset, .unset, .unset, .unset, .unset] [(.int s2)])) (fun target kt => ?_) ?_
  · skip
    by_cases hm40 : (p0 &&& (8 : Int32)) = (0 : Int32)
    · skip
      show Steps p.tables e below (s₁.setTop (mkF m 40 #[.val (.int p0), .val (.int r1), .val (.int s1), .val (.int r2), .unset, .unset, .unset, .unset, .unset, .unset, .unset, .unset, .unset, .unset, .unset, .unset, .unset] [(.int (p0 &&& (8 : Int32)))])) _
      refine XS.ifYes X0.here hx rfl (pc0 := 40) (pc' := 47) rfl (hb hby at_40) rfl ((if0 _ _).trans (teq hm40).1) (by decide) (by decide) ?_
      show Steps p.tables e below (s₁.setTop (mkF m 47 #[.val (.int p0), .val (.int r1), .val (.int s1), .val (.int r2), .unset, .unset, .unset, .unset, .unset, .unset, .unset, .unset, .unset, .unset, .unset, .unset, .unset] [])) _
      refine XS.iconst X0.here hx rfl (hb hby at_47) ?_
      rw [h_s2, if_pos hm40] at kt
      exact kt
    · skip
      show Steps p.tables e below (s₁.setTop (mkF m 40 #[.val (.int p0), .val (.int r1), .val (.int s1), .val (.int r2), .unset, .unset, .unset, .unset, .unset, .unset, .unset, .unset, .unset, .unset, .unset, .unset, .unset] [(.int (p0 &&& (8 : Int32)))])) _
      refine XS.ifNo X0.here hx rfl (hb hby at_40) rfl ((if0 _ _).trans (feq hm40).1) ?_
      show Steps p.tables e below (s₁.setTop (mkF m 43 #[.val (.int p0), .val (.int r1), .val (.int s1), .val (.int r2), .unset, .unset, .unset, .unset, .unset, .unset, .unset, .unset, .unset, .unset, .unset, .unset, .unset] [])) _
      refine XS.iconst X0.here hx rfl (hb hby at_43) ?_
      show Steps p.tables e below (s₁.setTop (mkF m 44 #[.val (.int p0), .val (.int r1), .val (.int s1), .val (.int r2), .unset, .unset, .unset, .unset, .unset, .unset, .unset, .unset, .unset, .unset, .unset, .unset, .unset] [(.int (1 : Int32))])) _
      refine XS.goto X0.here hx rfl (pc0 := 44) (pc' := 48) rfl (hb hby at_44) (by decide) (by decide) ?_
      rw [h_s2, if_neg hm40] at kt
      exact kt
  refine own_go (S' := s₁.setTop (mkF m 54 #[.val (.int p0), .val (.int r1), .val (.int s1), .val (.int r2), .val (.int s2), .unset, .unset, .unset, .unset, .unset, .unset, .unset, .unset, .unset, .unset, .unset, .unset] [(.int (p0 &&& (16 : Int32)))])) (fun target kt => ?_) ?_
  · skip
    show Steps p.tables e below (s₁.setTop (mkF m 48 #[.val (.int p0), .val (.int r1), .val (.int s1), .val (.int r2), .unset, .unset, .unset, .unset, .unset, .unset, .unset, .unset, .unset, .unset, .unset, .unset, .unset] [(.int s2)])) _
    refine XS.istore X0.here hx rfl (hb hby at_48) rfl (l' := #[.val (.int p0), .val (.int r1), .val (.int s1), .val (.int r2), .val (.int s2), .unset, .unset, .unset, .unset, .unset, .unset, .unset, .unset, .unset, .unset, .unset, .unset]) rfl ?_
    show Steps p.tables e below (s₁.setTop (mkF m 50 #[.val (.int p0), .val (.int r1), .val (.int s1), .val (.int r2), .val (.int s2), .unset, .unset, .unset, .unset, .unset, .unset, .unset, .unset, .unset, .unset, .unset, .unset] [])) _
    refine XS.iloadN X0.here hx rfl (hb hby at_50) rfl ?_
    show Steps p.tables e below (s₁.setTop (mkF m 51 #[.val (.int p0), .val (.int r1), .val (.int s1), .val (.int r2), .val (.int s2), .unset, .unset, .unset, .unset, .unset, .unset, .unset, .unset, .unset, .unset, .unset, .unset] [(.int p0)])) _
    refine XS.bipush X0.here hx rfl (hb hby at_51) ?_
    show Steps p.tables e below (s₁.setTop (mkF m 53 #[.val (.int p0), .val (.int r1), .val (.int s1), .val (.int r2), .val (.int s2), .unset, .unset, .unset, .unset, .unset, .unset, .unset, .unset, .unset, .unset, .unset, .unset] [(.int (16 : Int32)), (.int p0)])) _
    refine XS.iand X0.here hx rfl (hb hby at_53) rfl ?_
    exact kt
  obtain ⟨r3, h_r3⟩ : ∃ z : Int32, z = (if (p0 &&& (16 : Int32)) = (0 : Int32) then (0 : Int32) else (1 : Int32)) := ⟨_, rfl⟩
  refine own_go (S' := s₁.setTop (mkF m 62 #[.val (.int p0), .val (.int r1), .val (.int s1), .val (.int r2), .val (.int s2), .unset, .unset, .unset, .unset, .unset, .unset, .unset, .unset, .unset, .unset, .unset, .unset] [(.int r3)])) (fun target kt => ?_) ?_
  · skip
    by_cases hm54 : (p0 &&& (16 : Int32)) = (0 : Int32)
    · skip
      show Steps p.tables e below (s₁.setTop (mkF m 54 #[.val (.int p0), .val (.int r1), .val (.int s1), .val (.int r2), .val (.int s2), .unset, .unset, .unset, .unset, .unset, .unset, .unset, .unset, .unset, .unset, .unset, .unset] [(.int (p0 &&& (16 : Int32)))])) _
      refine XS.ifYes X0.here hx rfl (pc0 := 54) (pc' := 61) rfl (hb hby at_54) rfl ((if0 _ _).trans (teq hm54).1) (by decide) (by decide) ?_
      show Steps p.tables e below (s₁.setTop (mkF m 61 #[.val (.int p0), .val (.int r1), .val (.int s1), .val (.int r2), .val (.int s2), .unset, .unset, .unset, .unset, .unset, .unset, .unset, .unset, .unset, .unset, .unset, .unset] [])) _
      refine XS.iconst X0.here hx rfl (hb hby at_61) ?_
      rw [h_r3, if_pos hm54] at kt
      exact kt
    · skip
      show Steps p.tables e below (s₁.setTop (mkF m 54 #[.val (.int p0), .val (.int r1), .val (.int s1), .val (.int r2), .val (.int s2), .unset, .unset, .unset, .unset, .unset, .unset, .unset, .unset, .unset, .unset, .unset, .unset] [(.int (p0 &&& (16 : Int32)))])) _
      refine XS.ifNo X0.here hx rfl (hb hby at_54) rfl ((if0 _ _).trans (feq hm54).1) ?_
      show Steps p.tables e below (s₁.setTop (mkF m 57 #[.val (.int p0), .val (.int r1), .val (.int s1), .val (.int r2), .val (.int s2), .unset, .unset, .unset, .unset, .unset, .unset, .unset, .unset, .unset, .unset, .unset, .unset] [])) _
      refine XS.iconst X0.here hx rfl (hb hby at_57) ?_
      show Steps p.tables e below (s₁.setTop (mkF m 58 #[.val (.int p0), .val (.int r1), .val (.int s1), .val (.int r2), .val (.int s2), .unset, .unset, .unset, .unset, .unset, .unset, .unset, .unset, .unset, .unset, .unset, .unset] [(.int (1 : Int32))])) _
      refine XS.goto X0.here hx rfl (pc0 := 58) (pc' := 62) rfl (hb hby at_58) (by decide) (by decide) ?_
      rw [h_r3, if_neg hm54] at kt
      exact kt
  refine own_go (S' := s₁.setTop (mkF m 68 #[.val (.int p0), .val (.int r1), .val (.int s1), .val (.int r2), .val (.int s2), .val (.int r3), .unset, .unset, .unset, .unset, .unset, .unset, .unset, .unset, .unset, .unset, .unset] [(.int (p0 &&& (32 : Int32)))])) (fun target kt => ?_) ?_
  · skip
    show Steps p.tables e below (s₁.setTop (mkF m 62 #[.val (.int p0), .val (.int r1), .val (.int s1), .val (.int r2), .val (.int s2), .unset, .unset, .unset, .unset, .unset, .unset, .unset, .unset, .unset, .unset, .unset, .unset] [(.int r3)])) _
    refine XS.istore X0.here hx rfl (hb hby at_62) rfl (l' := #[.val (.int p0), .val (.int r1), .val (.int s1), .val (.int r2), .val (.int s2), .val (.int r3), .unset, .unset, .unset, .unset, .unset, .unset, .unset, .unset, .unset, .unset, .unset]) rfl ?_
    show Steps p.tables e below (s₁.setTop (mkF m 64 #[.val (.int p0), .val (.int r1), .val (.int s1), .val (.int r2), .val (.int s2), .val (.int r3), .unset, .unset, .unset, .unset, .unset, .unset, .unset, .unset, .unset, .unset, .unset] [])) _
    refine XS.iloadN X0.here hx rfl (hb hby at_64) rfl ?_
    show Steps p.tables e below (s₁.setTop (mkF m 65 #[.val (.int p0), .val (.int r1), .val (.int s1), .val (.int r2), .val (.int s2), .val (.int r3), .unset, .unset, .unset, .unset, .unset, .unset, .unset, .unset, .unset, .unset, .unset] [(.int p0)])) _
    refine XS.bipush X0.here hx rfl (hb hby at_65) ?_
    show Steps p.tables e below (s₁.setTop (mkF m 67 #[.val (.int p0), .val (.int r1), .val (.int s1), .val (.int r2), .val (.int s2), .val (.int r3), .unset, .unset, .unset, .unset, .unset, .unset, .unset, .unset, .unset, .unset, .unset] [(.int (32 : Int32)), (.int p0)])) _
    refine XS.iand X0.here hx rfl (hb hby at_67) rfl ?_
    exact kt
  obtain ⟨s3, h_s3⟩ : ∃ z : Int32, z = (if (p0 &&& (32 : Int32)) = (0 : Int32) then (0 : Int32) else (1 : Int32)) := ⟨_, rfl⟩
  refine own_go (S' := s₁.setTop (mkF m 76 #[.val (.int p0), .val (.int r1), .val (.int s1), .val (.int r2), .val (.int s2), .val (.int r3), .unset, .unset, .unset, .unset, .unset, .unset, .unset, .unset, .unset, .unset, .unset] [(.int s3)])) (fun target kt => ?_) ?_
  · skip
    by_cases hm68 : (p0 &&& (32 : Int32)) = (0 : Int32)
    · skip
      show Steps p.tables e below (s₁.setTop (mkF m 68 #[.val (.int p0), .val (.int r1), .val (.int s1), .val (.int r2), .val (.int s2), .val (.int r3), .unset, .unset, .unset, .unset, .unset, .unset, .unset, .unset, .unset, .unset, .unset] [(.int (p0 &&& (32 : Int32)))])) _
      refine XS.ifYes X0.here hx rfl (pc0 := 68) (pc' := 75) rfl (hb hby at_68) rfl ((if0 _ _).trans (teq hm68).1) (by decide) (by decide) ?_
      show Steps p.tables e below (s₁.setTop (mkF m 75 #[.val (.int p0), .val (.int r1), .val (.int s1), .val (.int r2), .val (.int s2), .val (.int r3), .unset, .unset, .unset, .unset, .unset, .unset, .unset, .unset, .unset, .unset, .unset] [])) _
      refine XS.iconst X0.here hx rfl (hb hby at_75) ?_
      rw [h_s3, if_pos hm68] at kt
      exact kt
    · skip
      show Steps p.tables e below (s₁.setTop (mkF m 68 #[.val (.int p0), .val (.int r1), .val (.int s1), .val (.int r2), .val (.int s2), .val (.int r3), .unset, .unset, .unset, .unset, .unset, .unset, .unset, .unset, .unset, .unset, .unset] [(.int (p0 &&& (32 : Int32)))])) _
      refine XS.ifNo X0.here hx rfl (hb hby at_68) rfl ((if0 _ _).trans (feq hm68).1) ?_
      show Steps p.tables e below (s₁.setTop (mkF m 71 #[.val (.int p0), .val (.int r1), .val (.int s1), .val (.int r2), .val (.int s2), .val (.int r3), .unset, .unset, .unset, .unset, .unset, .unset, .unset, .unset, .unset, .unset, .unset] [])) _
      refine XS.iconst X0.here hx rfl (hb hby at_71) ?_
      show Steps p.tables e below (s₁.setTop (mkF m 72 #[.val (.int p0), .val (.int r1), .val (.int s1), .val (.int r2), .val (.int s2), .val (.int r3), .unset, .unset, .unset, .unset, .unset, .unset, .unset, .unset, .unset, .unset, .unset] [(.int (1 : Int32))])) _
      refine XS.goto X0.here hx rfl (pc0 := 72) (pc' := 76) rfl (hb hby at_72) (by decide) (by decide) ?_
      rw [h_s3, if_neg hm68] at kt
      exact kt
  refine own_go (S' := s₁.setTop (mkF m 78 #[.val (.int p0), .val (.int r1), .val (.int s1), .val (.int r2), .val (.int s2), .val (.int r3), .val (.int s3), .unset, .unset, .unset, .unset, .unset, .unset, .unset, .unset, .unset, .unset] [])) (fun target kt => ?_) ?_
  · skip
    show Steps p.tables e below (s₁.setTop (mkF m 76 #[.val (.int p0), .val (.int r1), .val (.int s1), .val (.int r2), .val (.int s2), .val (.int r3), .unset, .unset, .unset, .unset, .unset, .unset, .unset, .unset, .unset, .unset, .unset] [(.int s3)])) _
    refine XS.istore X0.here hx rfl (hb hby at_76) rfl (l' := #[.val (.int p0), .val (.int r1), .val (.int s1), .val (.int r2), .val (.int s2), .val (.int r3), .val (.int s3), .unset, .unset, .unset, .unset, .unset, .unset, .unset, .unset, .unset, .unset]) rfl ?_
    exact kt
  have br1 := own_bit h_r1
  have bs1 := own_bit h_s1
  have br2 := own_bit h_r2
  have bs2 := own_bit h_s2
  have br3 := own_bit h_r3
  have bs3 := own_bit h_s3
  obtain ⟨T53, h53, X53, e53, E53, A53, D53, -, st53⟩ := newO X0 hx hZ hown (hw _ (List.mem_of_getElem? (i := 0) rfl)) (hw _ (List.mem_of_getElem? (i := 1) rfl)) (hw _ (List.mem_of_getElem? (i := 2) rfl)) e0 (g := (mkF m 78 #[.val (.int p0), .val (.int r1), .val (.int s1), .val (.int r2), .val (.int s2), .val (.int r3), .val (.int s3), .unset, .unset, .unset, .unset, .unset, .unset, .unset, .unset, .unset, .unset] [])) rfl (hb hby at_78) (by decide) (by decide)
  obtain ⟨b53, g53⟩ : ∃ z, z = h0.size := ⟨_, rfl⟩
  rw [← g53] at A53 D53 st53
  have f54 : Sta Z h53 "java/util/ArrayList" "DEFAULTCAPACITY_EMPTY_ELEMENTDATA" "[Ljava/lang/Object;" (.ref dz) := pf0.ext E53
  have g_b53 : n0 ≤ b53 := Nat.le_trans Z0 (Nat.le_of_eq g53.symm)
  have Z53 : n0 ≤ h53.size := Nat.le_trans Z0 E53.1
  have f55 : Fld Z h53 b53 "com/example/assertline/assertline/policy/Audit" "details" "Ljava/util/List;" .null := D53 (Or.inr (hw _ (List.mem_of_getElem? (i := 34) rfl))) (ty := (.object "java/util/List")) (by decide)
  have f56 : Fld Z h53 b53 "com/example/assertline/assertline/policy/Audit" "requestBody" "Z" (.int (0 : Int32)) := D53 (Or.inl (hw _ (List.mem_of_getElem? (i := 41) rfl))) (ty := .boolean) (by decide)
  have f57 : Fld Z h53 b53 "com/example/assertline/assertline/policy/Audit" "responseBody" "Z" (.int (0 : Int32)) := D53 (Or.inl (hw _ (List.mem_of_getElem? (i := 43) rfl))) (ty := .boolean) (by decide)
  refine own_go (S' := T53.setTop (mkF m 81 #[.val (.int p0), .val (.int r1), .val (.int s1), .val (.int r2), .val (.int s2), .val (.int r3), .val (.int s3), .unset, .unset, .unset, .unset, .unset, .unset, .unset, .unset, .unset, .unset] [(.ref b53)])) st53 ?_
  refine own_go (S' := T53.setTop (mkF m 82 #[.val (.int p0), .val (.int r1), .val (.int s1), .val (.int r2), .val (.int s2), .val (.int r3), .val (.int s3), .unset, .unset, .unset, .unset, .unset, .unset, .unset, .unset, .unset, .unset] [(.ref b53), (.ref b53)])) (fun target kt => ?_) ?_
  · skip
    show Steps p.tables e below (T53.setTop (mkF m 81 #[.val (.int p0), .val (.int r1), .val (.int s1), .val (.int r2), .val (.int s2), .val (.int r3), .val (.int s3), .unset, .unset, .unset, .unset, .unset, .unset, .unset, .unset, .unset, .unset] [(.ref b53)])) _
    refine XS.dup X53.here hx rfl (hb hby at_81) rfl rfl ?_
    exact kt
  obtain ⟨_, _, ⟨T58, L58, k58, n58⟩, -, X58, ⟨Lc58, hQ58, l58, y58, z58⟩, st58⟩ := X53.specialBack hx (y := (⟨"com/example/assertline/assertline/policy/Audit", "<init>", "()V"⟩ : MethodName)) rfl hown (mvT hZ (hw _ (List.mem_of_getElem? (i := 3) rfl))) (mvT hZ (hw _ (List.mem_of_getElem? (i := 4) rfl))) (mvT hZ (hw _ (List.mem_of_getElem? (i := 5) rfl))) (by decide) (backOf (W := 1) (rm1 l Z aZ hw [] b53 dz h53 n0 Z53 A53 f56 f57 f55 f54 g_b53) hZ (hw _ (List.mem_of_getElem? (i := 5) rfl)) (hw _ (List.mem_of_getElem? (i := 2) rfl)) (by decide) (by decide)) (g := (mkF m 82 #[.val (.int p0), .val (.int r1), .val (.int s1), .val (.int r2), .val (.int s2), .val (.int r3), .val (.int s3), .unset, .unset, .unset, .unset, .unset, .unset, .unset, .unset, .unset, .unset] [(.ref b53), (.ref b53)])) rfl (by rw [hml]; rfl) (Steps.refl _) (a := b53) (argsL := []) (rest := [(.ref b53)]) (lenOf own_pd0 rfl) rfl (by show 2 * 0 + _ ≤ _; exact Nat.le_of_eq rfl) (hb hby at_82) (fun _ _ => ⟨rfl, e53, (by decide : 1 + 1 ≤ _), (by decide : 3 + 3 ≤ _)⟩)
  dsimp only [Pt.U, Pt.locs, Pt.cells, Pt.slots] at X58 l58 y58 z58 st58 hQ58
  subst l58 y58 z58
  obtain ⟨rfl, N58q, K58q, f58_0, f58_1, f58_2⟩ := hQ58
  have N58 := Fr.app N0 N58q
  have f59 : Sta Z T58.heap "java/util/ArrayList" "DEFAULTCAPACITY_EMPTY_ELEMENTDATA" "[Ljava/lang/Object;" (.ref dz) := own_Sta_keep f54 K58q (allS (own_nst A53) all0)
  have f60 : Exa Z T58.heap b53 "com/example/assertline/assertline/policy/Audit" := A53.keep K58q
  have Z58 : n0 ≤ T58.heap.size := Nat.le_trans Z53 K58q.1
  refine own_go (S' := T58.setTop (mkF m 85 #[.val (.int p0), .val (.int r1), .val (.int s1), .val (.int r2), .val (.int s2), .val (.int r3), .val (.int s3), .unset, .unset, .unset, .unset, .unset, .unset, .unset, .unset, .unset, .unset] [(.ref b53)])) (fun _ k => st58.trans k) ?_
  refine own_go (S' := T58.setTop (mkF m 91 #[.val (.int p0), .val (.int r1), .val (.int s1), .val (.int r2), .val (.int s2), .val (.int r3), .val (.int s3), .val (.ref b53), .unset, .unset, .unset, .unset, .unset, .unset, .unset, .unset, .unset] [(.int s1), (.int r1), (.ref b53)])) (fun target kt => ?_) ?_
  · skip
    show Steps p.tables e below (T58.setTop (mkF m 85 #[.val (.int p0), .val (.int r1), .val (.int s1), .val (.int r2), .val (.int s2), .val (.int r3), .val (.int s3), .unset, .unset, .unset, .unset, .unset, .unset, .unset, .unset, .unset, .unset] [(.ref b53)])) _
    refine XS.astore X58.here hx rfl (hb hby at_85) rfl rfl (l' := #[.val (.int p0), .val (.int r1), .val (.int s1), .val (.int r2), .val (.int s2), .val (.int r3), .val (.int s3), .val (.ref b53), .unset, .unset, .unset, .unset, .unset, .unset, .unset, .unset, .unset]) rfl ?_
    show Steps p.tables e below (T58.setTop (mkF m 87 #[.val (.int p0), .val (.int r1), .val (.int s1), .val (.int r2), .val (.int s2), .val (.int r3), .val (.int s3), .val (.ref b53), .unset, .unset, .unset, .unset, .unset, .unset, .unset, .unset, .unset] [])) _
    refine XS.aload X58.here hx rfl (hb hby at_87) rfl rfl ?_
    show Steps p.tables e below (T58.setTop (mkF m 89 #[.val (.int p0), .val (.int r1), .val (.int s1), .val (.int r2), .val (.int s2), .val (.int r3), .val (.int s3), .val (.ref b53), .unset, .unset, .unset, .unset, .unset, .unset, .unset, .unset, .unset] [(.ref b53)])) _
    refine XS.iloadN X58.here hx rfl (hb hby at_89) rfl ?_
    show Steps p.tables e below (T58.setTop (mkF m 90 #[.val (.int p0), .val (.int r1), .val (.int s1), .val (.int r2), .val (.int s2), .val (.int r3), .val (.int s3), .val (.ref b53), .unset, .unset, .unset, .unset, .unset, .unset, .unset, .unset, .unset] [(.int r1), (.ref b53)])) _
    refine XS.iloadN X58.here hx rfl (hb hby at_90) rfl ?_
    exact kt
  obtain ⟨cq62, kq62, q62a, q62b, q62c⟩ := isOf hZ rfl f58_0
  obtain ⟨_, _, ⟨T62, L62, k62, n62⟩, -, X62, ⟨Lc62, hQ62, l62, y62, z62⟩, st62⟩ := X58.virtualBack hx (y := (⟨"com/example/assertline/assertline/policy/Audit", "askFor", "(ZZ)V"⟩ : MethodName)) (z := (⟨"com/example/assertline/assertline/policy/Audit", "askFor", "(ZZ)V"⟩ : MethodName)) hown (mvT hZ (hw _ (List.mem_of_getElem? (i := 35) rfl))) (mvT hZ (hw _ (List.mem_of_getElem? (i := 36) rfl))) (notFace_of_selects (args := #[]) (mvT hZ (hw _ (List.mem_of_getElem? (i := 38) rfl)))) (mvT hZ (hw _ (List.mem_of_getElem? (i := 38) rfl))) (mvT hZ (hw _ (List.mem_of_getElem? (i := 37) rfl))) (by decide) (backOf (W := 0) (rm6 l Z aZ hw [] b53 r1 s1 (0 : Int32) (0 : Int32) T58.heap n0 Z58 f58_0 f58_1 f58_2 g_b53 (own_z : (0 : Int32) = 0 ∨ (0 : Int32) = 1) (br1 : r1 = 0 ∨ r1 = 1) (own_z : (0 : Int32) = 0 ∨ (0 : Int32) = 1) (bs1 : s1 = 0 ∨ s1 = 1)) hZ (hw _ (List.mem_of_getElem? (i := 39) rfl)) (hw _ (List.mem_of_getElem? (i := 2) rfl)) (by decide) (by decide)) q62a q62c (g := (mkF m 91 #[.val (.int p0), .val (.int r1), .val (.int s1), .val (.int r2), .val (.int s2), .val (.int r3), .val (.int s3), .val (.ref b53), .unset, .unset, .unset, .unset, .unset, .unset, .unset, .unset, .unset] [(.int s1), (.int r1), (.ref b53)])) rfl (by rw [hml]; rfl) (Steps.refl _) (argsL := [(.int r1), (.int s1)]) (rest := []) (lenOf own_pd1 rfl) rfl (by show 2 * 0 + _ ≤ _; exact Nat.le_of_eq rfl) (hb hby at_91) (fun _ _ => ⟨rfl, rfl, (by decide : 2 + 0 ≤ _), (by decide : 6 + 0 ≤ _)⟩)
  dsimp only [Pt.U, Pt.locs, Pt.cells, Pt.slots] at X62 l62 y62 z62 st62 hQ62
  subst l62 y62 z62
  obtain ⟨rfl, N62q, K62q, f62_0, f62_1, f62_2⟩ := hQ62
  have N62 := Fr.app N58 N62q
  have f63 : Sta Z T62.heap "java/util/ArrayList" "DEFAULTCAPACITY_EMPTY_ELEMENTDATA" "[Ljava/lang/Object;" (.ref dz) := own_Sta_keep f59 K62q (allS (own_nst f58_0) all0)
  have f64 : Exa Z T62.heap b53 "com/example/assertline/assertline/policy/Audit" := f58_0.keep K62q
  have Z62 : n0 ≤ T62.heap.size := Nat.le_trans Z58 K62q.1
  refine own_go (S' := T62.setTop (mkF m 94 #[.val (.int p0), .val (.int r1), .val (.int s1), .val (.int r2), .val (.int s2), .val (.int r3), .val (.int s3), .val (.ref b53), .unset, .unset, .unset, .unset, .unset, .unset, .unset, .unset, .unset] [])) (fun _ k => st62.trans k) ?_
  refine own_go (S' := T62.setTop (mkF m 96 #[.val (.int p0), .val (.int r1), .val (.int s1), .val (.int r2), .val (.int s2), .val (.int r3), .val (.int s3), .val (.ref b53), .unset, .unset, .unset, .unset, .unset, .unset, .unset, .unset, .unset] [(.ref b53)])) (fun target kt => ?_) ?_
  · skip
    show Steps p.tables e below (T62.setTop (mkF m 94 #[.val (.int p0), .val (.int r1), .val (.int s1), .val (.int r2), .val (.int s2), .val (.int r3), .val (.int s3), .val (.ref b53), .unset, .unset, .unset, .unset, .unset, .unset, .unset, .unset, .unset] [])) _
    refine XS.aload X62.here hx rfl (hb hby at_94) rfl rfl ?_
    exact kt
  obtain ⟨cq65, kq65, q65a, q65b, q65c⟩ := isOf hZ rfl f62_0
  obtain ⟨_, _, ⟨T65, L65, k65, n65⟩, -, X65, ⟨Lc65, hQ65, l65, y65, z65⟩, st65⟩ := X62.virtualBack hx (y := (⟨"com/example/assertline/assertline/policy/Audit", "requestBody", "()Z"⟩ : MethodName)) (z := (⟨"com/example/assertline/assertline/policy/Audit", "requestBody", "()Z"⟩ : MethodName)) hown (mvT hZ (hw _ (List.mem_of_getElem? (i := 44) rfl))) (mvT hZ (hw _ (List.mem_of_getElem? (i := 45) rfl))) (notFace_of_selects (args := #[]) (mvT hZ (hw _ (List.mem_of_getElem? (i := 47) rfl)))) (mvT hZ (hw _ (List.mem_of_getElem? (i := 47) rfl))) (mvT hZ (hw _ (List.mem_of_getElem? (i := 46) rfl))) (by decide) (backOf (W := 0) (rm7 l Z aZ hw [] b53 ((0 : Int32) ||| r1) T62.heap n0 Z62 f62_1 ((own_or own_z br1) : ((0 : Int32) ||| r1) = 0 ∨ ((0 : Int32) ||| r1) = 1)) hZ (hw _ (List.mem_of_getElem? (i := 48) rfl)) (hw _ (List.mem_of_getElem? (i := 2) rfl)) (by decide) (by decide)) q65a q65c (g := (mkF m 96 #[.val (.int p0), .val (.int r1), .val (.int s1), .val (.int r2), .val (.int s2), .val (.int r3), .val (.int s3), .val (.ref b53), .unset, .unset, .unset, .unset, .unset, .unset, .unset, .unset, .unset] [(.ref b53)])) rfl (by rw [hml]; rfl) (Steps.refl _) (argsL := []) (rest := []) (lenOf own_pd2 rfl) rfl (by show 2 * 0 + _ ≤ _; exact Nat.le_of_eq rfl) (hb hby at_96) (fun _ _ => ⟨rfl, rfl, (by decide : 2 + 0 ≤ _), (by decide : 6 + 0 ≤ _)⟩)
  dsimp only [Pt.U, Pt.locs, Pt.cells, Pt.slots] at X65 l65 y65 z65 st65 hQ65
  subst l65 y65 z65
  obtain ⟨rfl, N65q, e65⟩ := hQ65
  have N65 := Fr.app N62 N65q
  refine own_go (S' := T65.setTop (mkF m 99 #[.val (.int p0), .val (.int r1), .val (.int s1), .val (.int r2), .val (.int s2), .val (.int r3), .val (.int s3), .val (.ref b53), .unset, .unset, .unset, .unset, .unset, .unset, .unset, .unset, .unset] [(.int ((0 : Int32) ||| r1))])) (fun _ k => st65.trans k) ?_
  refine own_go (S' := T65.setTop (mkF m 103 #[.val (.int p0), .val (.int r1), .val (.int s1), .val (.int r2), .val (.int s2), .val (.int r3), .val (.int s3), .val (.ref b53), .val (.int ((0 : Int32) ||| r1)), .unset, .unset, .unset, .unset, .unset, .unset, .unset, .unset] [(.ref b53)])) (fun target kt => ?_) ?_
  · skip
    show Steps p.tables e below (T65.setTop (mkF m 99 #[.val (.int p0), .val (.int r1), .val (.int s1), .val (.int r2), .val (.int s2), .val (.int r3), .val (.int s3), .val (.ref b53), .unset, .unset, .unset, .unset, .unset, .unset, .unset, .unset, .unset] [(.int ((0 : Int32) ||| r1))])) _
    refine XS.istore X65.here hx rfl (hb hby at_99) rfl (l' := #[.val (.int p0), .val (.int r1), .val (.int s1), .val (.int r2), .val (.int s2), .val (.int r3), .val (.int s3), .val (.ref b53), .val (.int ((0 : Int32) ||| r1)), .unset, .unset, .unset, .unset, .unset, .unset, .unset, .unset]) rfl ?_
    show Steps p.tables e below (T65.setTop (mkF m 101 #[.val (.int p0), .val (.int r1), .val (.int s1), .val (.int r2), .val (.int s2), .val (.int r3), .val (.int s3), .val (.ref b53), .val (.int ((0 : Int32) ||| r1)), .unset, .unset, .unset, .unset, .unset, .unset, .unset, .unset] [])) _
    refine XS.aload X65.here hx rfl (hb hby at_101) rfl rfl ?_
    exact kt
  obtain ⟨cq66, kq66, q66a, q66b, q66c⟩ := isOf hZ e65 f62_0
  obtain ⟨_, _, ⟨T66, L66, k66, n66⟩, -, X66, ⟨Lc66, hQ66, l66, y66, z66⟩, st66⟩ := X65.virtualBack hx (y := (⟨"com/example/assertline/assertline/policy/Audit", "responseBody", "()Z"⟩ : MethodName)) (z := (⟨"com/example/assertline/assertline/policy/Audit", "responseBody", "()Z"⟩ : MethodName)) hown (mvT hZ (hw _ (List.mem_of_getElem? (i := 49) rfl))) (mvT hZ (hw _ (List.mem_of_getElem? (i := 50) rfl))) (notFace_of_selects (args := #[]) (mvT hZ (hw _ (List.mem_of_getElem? (i := 52) rfl)))) (mvT hZ (hw _ (List.mem_of_getElem? (i := 52) rfl))) (mvT hZ (hw _ (List.mem_of_getElem? (i := 51) rfl))) (by decide) (backOf (W := 0) (rm8 l Z aZ hw [] b53 ((0 : Int32) ||| s1) T62.heap n0 Z62 f62_2 ((own_or own_z bs1) : ((0 : Int32) ||| s1) = 0 ∨ ((0 : Int32) ||| s1) = 1)) hZ (hw _ (List.mem_of_getElem? (i := 53) rfl)) (hw _ (List.mem_of_getElem? (i := 2) rfl)) (by decide) (by decide)) q66a q66c (g := (mkF m 103 #[.val (.int p0), .val (.int r1), .val (.int s1), .val (.int r2), .val (.int s2), .val (.int r3), .val (.int s3), .val (.ref b53), .val (.int ((0 : Int32) ||| r1)), .unset, .unset, .unset, .unset, .unset, .unset, .unset, .unset] [(.ref b53)])) rfl (by rw [hml]; rfl) (Steps.refl _) (argsL := []) (rest := []) (lenOf own_pd2 rfl) rfl (by show 2 * 0 + _ ≤ _; exact Nat.le_of_eq rfl) (hb hby at_103) (fun _ _ => ⟨rfl, e65, (by decide : 2 + 0 ≤ _), (by decide : 6 + 0 ≤ _)⟩)
  dsimp only [Pt.U, Pt.locs, Pt.cells, Pt.slots] at X66 l66 y66 z66 st66 hQ66
  subst l66 y66 z66
  obtain ⟨rfl, N66q, e66⟩ := hQ66
  have N66 := Fr.app N65 N66q
  refine own_go (S' := T66.setTop (mkF m 106 #[.val (.int p0), .val (.int r1), .val (.int s1), .val (.int r2), .val (.int s2), .val (.int r3), .val (.int s3), .val (.ref b53), .val (.int ((0 : Int32) ||| r1)), .unset, .unset, .unset, .unset, .unset, .unset, .unset, .unset] [(.int ((0 : Int32) ||| s1))])) (fun _ k => st66.trans k) ?_
  refine own_go (S' := T66.setTop (mkF m 113 #[.val (.int p0), .val (.int r1), .val (.int s1), .val (.int r2), .val (.int s2), .val (.int r3), .val (.int s3), .val (.ref b53), .val (.int ((0 : Int32) ||| r1)), .val (.int ((0 : Int32) ||| s1)), .unset, .unset, .unset, .unset, .unset, .unset, .unset] [(.int s2), (.int r2), (.ref b53)])) (fun target kt => ?_) ?_
  · skip
    show Steps p.tables e below (T66.setTop (mkF m 106 #[.val (.int p0), .val (.int r1), .val (.int s1), .val (.int r2), .val (.int s2), .val (.int r3), .val (.int s3), .val (.ref b53), .val (.int ((0 : Int32) ||| r1)), .unset, .unset, .unset, .unset, .unset, .unset, .unset, .unset] [(.int ((0 : Int32) ||| s1))])) _
    refine XS.istore X66.here hx rfl (hb hby at_106) rfl (l' := #[.val (.int p0), .val (.int r1), .val (.int s1), .val (.int r2), .val (.int s2), .val (.int r3), .val (.int s3), .val (.ref b53), .val (.int ((0 : Int32) ||| r1)), .val (.int ((0 : Int32) ||| s1)), .unset, .unset, .unset, .unset, .unset, .unset, .unset]) rfl ?_
    show Steps p.tables e below (T66.setTop (mkF m 108 #[.val (.int p0), .val (.int r1), .val (.int s1), .val (.int r2), .val (.int s2), .val (.int r3), .val (.int s3), .val (.ref b53), .val (.int ((0 : Int32) ||| r1)), .val (.int ((0 : Int32) ||| s1)), .unset, .unset, .unset, .unset, .unset, .unset, .unset] [])) _
    refine XS.aload X66.here hx rfl (hb hby at_108) rfl rfl ?_
    show Steps p.tables e below (T66.setTop (mkF m 110 #[.val (.int p0), .val (.int r1), .val (.int s1), .val (.int r2), .val (.int s2), .val (.int r3), .val (.int s3), .val (.ref b53), .val (.int ((0 : Int32) ||| r1)), .val (.int ((0 : Int32) ||| s1)), .unset, .unset, .unset, .unset, .unset, .unset, .unset] [(.ref b53)])) _
    refine XS.iloadN X66.here hx rfl (hb hby at_110) rfl ?_
    show Steps p.tables e below (T66.setTop (mkF m 111 #[.val (.int p0), .val (.int r1), .val (.int s1), .val (.int r2), .val (.int s2), .val (.int r3), .val (.int s3), .val (.ref b53), .val (.int ((0 : Int32) ||| r1)), .val (.int ((0 : Int32) ||| s1)), .unset, .unset, .unset, .unset, .unset, .unset, .unset] [(.int r2), (.ref b53)])) _
    refine XS.iload X66.here hx rfl (hb hby at_111) rfl ?_
    exact kt
  obtain ⟨cq67, kq67, q67a, q67b, q67c⟩ := isOf hZ e66 f62_0
  obtain ⟨_, _, ⟨T67, L67, k67, n67⟩, -, X67, ⟨Lc67, hQ67, l67, y67, z67⟩, st67⟩ := X66.virtualBack hx (y := (⟨"com/example/assertline/assertline/policy/Audit", "askFor", "(ZZ)V"⟩ : MethodName)) (z := (⟨"com/example/assertline/assertline/policy/Audit", "askFor", "(ZZ)V"⟩ : MethodName)) hown (mvT hZ (hw _ (List.mem_of_getElem? (i := 35) rfl))) (mvT hZ (hw _ (List.mem_of_getElem? (i := 36) rfl))) (notFace_of_selects (args := #[]) (mvT hZ (hw _ (List.mem_of_getElem? (i := 38) rfl)))) (mvT hZ (hw _ (List.mem_of_getElem? (i := 38) rfl))) (mvT hZ (hw _ (List.mem_of_getElem? (i := 37) rfl))) (by decide) (backOf (W := 0) (rm6 l Z aZ hw [] b53 r2 s2 ((0 : Int32) ||| r1) ((0 : Int32) ||| s1) T62.heap n0 Z62 f62_0 f62_1 f62_2 g_b53 ((own_or own_z br1) : ((0 : Int32) ||| r1) = 0 ∨ ((0 : Int32) ||| r1) = 1) (br2 : r2 = 0 ∨ r2 = 1) ((own_or own_z bs1) : ((0 : Int32) ||| s1) = 0 ∨ ((0 : Int32) ||| s1) = 1) (bs2 : s2 = 0 ∨ s2 = 1)) hZ (hw _ (List.mem_of_getElem? (i := 39) rfl)) (hw _ (List.mem_of_getElem? (i := 2) rfl)) (by decide) (by decide)) q67a q67c (g := (mkF m 113 #[.val (.int p0), .val (.int r1), .val (.int s1), .val (.int r2), .val (.int s2), .val (.int r3), .val (.int s3), .val (.ref b53), .val (.int ((0 : Int32) ||| r1)), .val (.int ((0 : Int32) ||| s1)), .unset, .unset, .unset, .unset, .unset, .unset, .unset] [(.int s2), (.int r2), (.ref b53)])) rfl (by rw [hml]; rfl) (Steps.refl _) (argsL := [(.int r2), (.int s2)]) (rest := []) (lenOf own_pd1 rfl) rfl (by show 2 * 0 + _ ≤ _; exact Nat.le_of_eq rfl) (hb hby at_113) (fun _ _ => ⟨rfl, e66, (by decide : 2 + 0 ≤ _), (by decide : 6 + 0 ≤ _)⟩)
  dsimp only [Pt.U, Pt.locs, Pt.cells, Pt.slots] at X67 l67 y67 z67 st67 hQ67
  subst l67 y67 z67
  obtain ⟨rfl, N67q, K67q, f67_0, f67_1, f67_2⟩ := hQ67
  have N67 := Fr.app N66 N67q
  have f68 : Sta Z T67.heap "java/util/ArrayList" "DEFAULTCAPACITY_EMPTY_ELEMENTDATA" "[Ljava/lang/Object;" (.ref dz) := own_Sta_keep f63 K67q (allS (own_nst f62_0) all0)
  have f69 : Exa Z T67.heap b53 "com/example/assertline/assertline/policy/Audit" := f62_0.keep K67q
  have Z67 : n0 ≤ T67.heap.size := Nat.le_trans Z62 K67q.1
  refine own_go (S' := T67.setTop (mkF m 116 #[.val (.int p0), .val (.int r1), .val (.int s1), .val (.int r2), .val (.int s2), .val (.int r3), .val (.int s3), .val (.ref b53), .val (.int ((0 : Int32) ||| r1)), .val (.int ((0 : Int32) ||| s1)), .unset, .unset, .unset, .unset, .unset, .unset, .unset] [])) (fun _ k => st67.trans k) ?_
  refine own_go (S' := T67.setTop (mkF m 118 #[.val (.int p0), .val (.int r1), .val (.int s1), .val (.int r2), .val (.int s2), .val (.int r3), .val (.int s3), .val (.ref b53), .val (.int ((0 : Int32) ||| r1)), .val (.int ((0 : Int32) ||| s1)), .unset, .unset, .unset, .unset, .unset, .unset, .unset] [(.ref b53)])) (fun target kt => ?_) ?_
  · skip
    show Steps p.tables e below (T67.setTop (mkF m 116 #[.val (.int p0), .val (.int r1), .val (.int s1), .val (.int r2), .val (.int s2), .val (.int r3), .val (.int s3), .val (.ref b53), .val (.int ((0 : Int32) ||| r1)), .val (.int ((0 : Int32) ||| s1)), .unset, .unset, .unset, .unset, .unset, .unset, .unset] [])) _
    refine XS.aload X67.here hx rfl (hb hby at_116) rfl rfl ?_
    exact kt
  obtain ⟨cq70, kq70, q70a, q70b, q70c⟩ := isOf hZ rfl f67_0
  obtain ⟨_, _, ⟨T70, L70, k70, n70⟩, -, X70, ⟨Lc70, hQ70, l70, y70, z70⟩, st70⟩ := X67.virtualBack hx (y := (⟨"com/example/assertline/assertline/policy/Audit", "requestBody", "()Z"⟩ : MethodName)) (z := (⟨"com/example/assertline/assertline/policy/Audit", "requestBody", "()Z"⟩ : MethodName)) hown (mvT hZ (hw _ (List.mem_of_getElem? (i := 44) rfl))) (mvT hZ (hw _ (List.mem_of_getElem? (i := 45) rfl))) (notFace_of_selects (args := #[]) (mvT hZ (hw _ (List.mem_of_getElem? (i := 47) rfl)))) (mvT hZ (hw _ (List.mem_of_getElem? (i := 47) rfl))) (mvT hZ (hw _ (List.mem_of_getElem? (i := 46) rfl))) (by decide) (backOf (W := 0) (rm7 l Z aZ hw [] b53 (((0 : Int32) ||| r1) ||| r2) T67.heap n0 Z67 f67_1 ((own_or (own_or own_z br1) br2) : (((0 : Int32) ||| r1) ||| r2) = 0 ∨ (((0 : Int32) ||| r1) ||| r2) = 1)) hZ (hw _ (List.mem_of_getElem? (i := 48) rfl)) (hw _ (List.mem_of_getElem? (i := 2) rfl)) (by decide) (by decide)) q70a q70c (g := (mkF m 118 #[.val (.int p0), .val (.int r1), .val (.int s1), .val (.int r2), .val (.int s2), .val (.int r3), .val (.int s3), .val (.ref b53), .val (.int ((0 : Int32) ||| r1)), .val (.int ((0 : Int32) ||| s1)), .unset, .unset, .unset, .unset, .unset, .unset, .unset] [(.ref b53)])) rfl (by rw [hml]; rfl) (Steps.refl _) (argsL := []) (rest := []) (lenOf own_pd2 rfl) rfl (by show 2 * 0 + _ ≤ _; exact Nat.le_of_eq rfl) (hb hby at_118) (fun _ _ => ⟨rfl, rfl, (by decide : 2 + 0 ≤ _), (by decide : 6 + 0 ≤ _)⟩)
  dsimp only [Pt.U, Pt.locs, Pt.cells, Pt.slots] at X70 l70 y70 z70 st70 hQ70
  subst l70 y70 z70
  obtain ⟨rfl, N70q, e70⟩ := hQ70
  have N70 := Fr.app N67 N70q
  refine own_go (S' := T70.setTop (mkF m 121 #[.val (.int p0), .val (.int r1), .val (.int s1), .val (.int r2), .val (.int s2), .val (.int r3), .val (.int s3), .val (.ref b53), .val (.int ((0 : Int32) ||| r1)), .val (.int ((0 : Int32) ||| s1)), .unset, .unset, .unset, .unset, .unset, .unset, .unset] [(.int (((0 : Int32) ||| r1) ||| r2))])) (fun _ k => st70.trans k) ?_
  refine own_go (S' := T70.setTop (mkF m 125 #[.val (.int p0), .val (.int r1), .val (.int s1), .val (.int r2), .val (.int s2), .val (.int r3), .val (.int s3), .val (.ref b53), .val (.int ((0 : Int32) ||| r1)), .val (.int ((0 : Int32) ||| s1)), .val (.int (((0 : Int32) ||| r1) ||| r2)), .unset, .unset, .unset, .unset, .unset, .unset] [(.ref b53)])) (fun target kt => ?_) ?_
  · skip
    show Steps p.tables e below (T70.setTop (mkF m 121 #[.val (.int p0), .val (.int r1), .val (.int s1), .val (.int r2), .val (.int s2), .val (.int r3), .val (.int s3), .val (.ref b53), .val (.int ((0 : Int32) ||| r1)), .val (.int ((0 : Int32) ||| s1)), .unset, .unset, .unset, .unset, .unset, .unset, .unset] [(.int (((0 : Int32) ||| r1) ||| r2))])) _
    refine XS.istore X70.here hx rfl (hb hby at_121) rfl (l' := #[.val (.int p0), .val (.int r1), .val (.int s1), .val (.int r2), .val (.int s2), .val (.int r3), .val (.int s3), .val (.ref b53), .val (.int ((0 : Int32) ||| r1)), .val (.int ((0 : Int32) ||| s1)), .val (.int (((0 : Int32) ||| r1) ||| r2)), .unset, .unset, .unset, .unset, .unset, .unset]) rfl ?_
    show Steps p.tables e below (T70.setTop (mkF m 123 #[.val (.int p0), .val (.int r1), .val (.int s1), .val (.int r2), .val (.int s2), .val (.int r3), .val (.int s3), .val (.ref b53), .val (.int ((0 : Int32) ||| r1)), .val (.int ((0 : Int32) ||| s1)), .val (.int (((0 : Int32) ||| r1) ||| r2)), .unset, .unset, .unset, .unset, .unset, .unset] [])) _
    refine XS.aload X70.here hx rfl (hb hby at_123) rfl rfl ?_
    exact kt
  obtain ⟨cq71, kq71, q71a, q71b, q71c⟩ := isOf hZ e70 f67_0
  obtain ⟨_, _, ⟨T71, L71, k71, n71⟩, -, X71, ⟨Lc71, hQ71, l71, y71, z71⟩, st71⟩ := X70.virtualBack hx (y := (⟨"com/example/assertline/assertline/policy/Audit", "responseBody", "()Z"⟩ : MethodName)) (z := (⟨"com/example/assertline/assertline/policy/Audit", "responseBody", "()Z"⟩ : MethodName)) hown (mvT hZ (hw _ (List.mem_of_getElem? (i := 49) rfl))) (mvT hZ (hw _ (List.mem_of_getElem? (i := 50) rfl))) (notFace_of_selects (args := #[]) (mvT hZ (hw _ (List.mem_of_getElem? (i := 52) rfl)))) (mvT hZ (hw _ (List.mem_of_getElem? (i := 52) rfl))) (mvT hZ (hw _ (List.mem_of_getElem? (i := 51) rfl))) (by decide) (backOf (W := 0) (rm8 l Z aZ hw [] b53 (((0 : Int32) ||| s1) ||| s2) T67.heap n0 Z67 f67_2 ((own_or (own_or own_z bs1) bs2) : (((0 : Int32) ||| s1) ||| s2) = 0 ∨ (((0 : Int32) ||| s1) ||| s2) = 1)) hZ (hw _ (List.mem_of_getElem? (i := 53) rfl)) (hw _ (List.mem_of_getElem? (i := 2) rfl)) (by decide) (by decide)) q71a q71c (g := (mkF m 125 #[.val (.int p0), .val (.int r1), .val (.int s1), .val (.int r2), .val (.int s2), .val (.int r3), .val (.int s3), .val (.ref b53), .val (.int ((0 : Int32) ||| r1)), .val (.int ((0 : Int32) ||| s1)), .val (.int (((0 : Int32) ||| r1) ||| r2)), .unset, .unset, .unset, .unset, .unset, .unset] [(.ref b53)])) rfl (by rw [hml]; rfl) (Steps.refl _) (argsL := []) (rest := []) (lenOf own_pd2 rfl) rfl (by show 2 * 0 + _ ≤ _; exact Nat.le_of_eq rfl) (hb hby at_125) (fun _ _ => ⟨rfl, e70, (by decide : 2 + 0 ≤ _), (by decide : 6 + 0 ≤ _)⟩)
  dsimp only [Pt.U, Pt.locs, Pt.cells, Pt.slots] at X71 l71 y71 z71 st71 hQ71
  subst l71 y71 z71
  obtain ⟨rfl, N71q, e71⟩ := hQ71
  have N71 := Fr.app N70 N71q
  refine own_go (S' := T71.setTop (mkF m 128 #[.val (.int p0), .val (.int r1), .val (.int s1), .val (.int r2), .val (.int s2), .val (.int r3), .val (.int s3), .val (.ref b53), .val (.int ((0 : Int32) ||| r1)), .val (.int ((0 : Int32) ||| s1)), .val (.int (((0 : Int32) ||| r1) ||| r2)), .unset, .unset, .unset, .unset, .unset, .unset] [(.int (((0 : Int32) ||| s1) ||| s2))])) (fun _ k => st71.trans k) ?_
  refine own_go (S' := T71.setTop (mkF m 136 #[.val (.int p0), .val (.int r1), .val (.int s1), .val (.int r2), .val (.int s2), .val (.int r3), .val (.int s3), .val (.ref b53), .val (.int ((0 : Int32) ||| r1)), .val (.int ((0 : Int32) ||| s1)), .val (.int (((0 : Int32) ||| r1) ||| r2)), .val (.int (((0 : Int32) ||| s1) ||| s2)), .unset, .unset, .unset, .unset, .unset] [(.int s3), (.int r3), (.ref b53)])) (fun target kt => ?_) ?_
  · skip
    show Steps p.tables e below (T71.setTop (mkF m 128 #[.val (.int p0), .val (.int r1), .val (.int s1), .val (.int r2), .val (.int s2), .val (.int r3), .val (.int s3), .val (.ref b53), .val (.int ((0 : Int32) ||| r1)), .val (.int ((0 : Int32) ||| s1)), .val (.int (((0 : Int32) ||| r1) ||| r2)), .unset, .unset, .unset, .unset, .unset, .unset] [(.int (((0 : Int32) ||| s1) ||| s2))])) _
    refine XS.istore X71.here hx rfl (hb hby at_128) rfl (l' := #[.val (.int p0), .val (.int r1), .val (.int s1), .val (.int r2), .val (.int s2), .val (.int r3), .val (.int s3), .val (.ref b53), .val (.int ((0 : Int32) ||| r1)), .val (.int ((0 : Int32) ||| s1)), .val (.int (((0 : Int32) ||| r1) ||| r2)), .val (.int (((0 : Int32) ||| s1) ||| s2)), .unset, .unset, .unset, .unset, .unset]) rfl ?_
    show Steps p.tables e below (T71.setTop (mkF m 130 #[.val (.int p0), .val (.int r1), .val (.int s1), .val (.int r2), .val (.int s2), .val (.int r3), .val (.int s3), .val (.ref b53), .val (.int ((0 : Int32) ||| r1)), .val (.int ((0 : Int32) ||| s1)), .val (.int (((0 : Int32) ||| r1) ||| r2)), .val (.int (((0 : Int32) ||| s1) ||| s2)), .unset, .unset, .unset, .unset, .unset] [])) _
    refine XS.aload X71.here hx rfl (hb hby at_130) rfl rfl ?_
    show Steps p.tables e below (T71.setTop (mkF m 132 #[.val (.int p0), .val (.int r1), .val (.int s1), .val (.int r2), .val (.int s2), .val (.int r3), .val (.int s3), .val (.ref b53), .val (.int ((0 : Int32) ||| r1)), .val (.int ((0 : Int32) ||| s1)), .val (.int (((0 : Int32) ||| r1) ||| r2)), .val (.int (((0 : Int32) ||| s1) ||| s2)), .unset, .unset, .unset, .unset, .unset] [(.ref b53)])) _
    refine XS.iload X71.here hx rfl (hb hby at_132) rfl ?_
    show Steps p.tables e below (T71.setTop (mkF m 134 #[.val (.int p0), .val (.int r1), .val (.int s1), .val (.int r2), .val (.int s2), .val (.int r3), .val (.int s3), .val (.ref b53), .val (.int ((0 : Int32) ||| r1)), .val (.int ((0 : Int32) ||| s1)), .val (.int (((0 : Int32) ||| r1) ||| r2)), .val (.int (((0 : Int32) ||| s1) ||| s2)), .unset, .unset, .unset, .unset, .unset] [(.int r3), (.ref b53)])) _
    refine XS.iload X71.here hx rfl (hb hby at_134) rfl ?_
    exact kt
  obtain ⟨cq72, kq72, q72a, q72b, q72c⟩ := isOf hZ e71 f67_0
  obtain ⟨_, _, ⟨T72, L72, k72, n72⟩, -, X72, ⟨Lc72, hQ72, l72, y72, z72⟩, st72⟩ := X71.virtualBack hx (y := (⟨"com/example/assertline/assertline/policy/Audit", "askFor", "(ZZ)V"⟩ : MethodName)) (z := (⟨"com/example/assertline/assertline/policy/Audit", "askFor", "(ZZ)V"⟩ : MethodName)) hown (mvT hZ (hw _ (List.mem_of_getElem? (i := 35) rfl))) (mvT hZ (hw _ (List.mem_of_getElem? (i := 36) rfl))) (notFace_of_selects (args := #[]) (mvT hZ (hw _ (List.mem_of_getElem? (i := 38) rfl)))) (mvT hZ (hw _ (List.mem_of_getElem? (i := 38) rfl))) (mvT hZ (hw _ (List.mem_of_getElem? (i := 37) rfl))) (by decide) (backOf (W := 0) (rm6 l Z aZ hw [] b53 r3 s3 (((0 : Int32) ||| r1) ||| r2) (((0 : Int32) ||| s1) ||| s2) T67.heap n0 Z67 f67_0 f67_1 f67_2 g_b53 ((own_or (own_or own_z br1) br2) : (((0 : Int32) ||| r1) ||| r2) = 0 ∨ (((0 : Int32) ||| r1) ||| r2) = 1) (br3 : r3 = 0 ∨ r3 = 1) ((own_or (own_or own_z bs1) bs2) : (((0 : Int32) ||| s1) ||| s2) = 0 ∨ (((0 : Int32) ||| s1) ||| s2) = 1) (bs3 : s3 = 0 ∨ s3 = 1)) hZ (hw _ (List.mem_of_getElem? (i := 39) rfl)) (hw _ (List.mem_of_getElem? (i := 2) rfl)) (by decide) (by decide)) q72a q72c (g := (mkF m 136 #[.val (.int p0), .val (.int r1), .val (.int s1), .val (.int r2), .val (.int s2), .val (.int r3), .val (.int s3), .val (.ref b53), .val (.int ((0 : Int32) ||| r1)), .val (.int ((0 : Int32) ||| s1)), .val (.int (((0 : Int32) ||| r1) ||| r2)), .val (.int (((0 : Int32) ||| s1) ||| s2)), .unset, .unset, .unset, .unset, .unset] [(.int s3), (.int r3), (.ref b53)])) rfl (by rw [hml]; rfl) (Steps.refl _) (argsL := [(.int r3), (.int s3)]) (rest := []) (lenOf own_pd1 rfl) rfl (by show 2 * 0 + _ ≤ _; exact Nat.le_of_eq rfl) (hb hby at_136) (fun _ _ => ⟨rfl, e71, (by decide : 2 + 0 ≤ _), (by decide : 6 + 0 ≤ _)⟩)
  dsimp only [Pt.U, Pt.locs, Pt.cells, Pt.slots] at X72 l72 y72 z72 st72 hQ72
  subst l72 y72 z72
  obtain ⟨rfl, N72q, K72q, f72_0, f72_1, f72_2⟩ := hQ72
  have N72 := Fr.app N71 N72q
  have f73 : Sta Z T72.heap "java/util/ArrayList" "DEFAULTCAPACITY_EMPTY_ELEMENTDATA" "[Ljava/lang/Object;" (.ref dz) := own_Sta_keep f68 K72q (allS (own_nst f67_0) all0)
  have f74 : Exa Z T72.heap b53 "com/example/assertline/assertline/policy/Audit" := f67_0.keep K72q
  have Z72 : n0 ≤ T72.heap.size := Nat.le_trans Z67 K72q.1
  refine own_go (S' := T72.setTop (mkF m 139 #[.val (.int p0), .val (.int r1), .val (.int s1), .val (.int r2), .val (.int s2), .val (.int r3), .val (.int s3), .val (.ref b53), .val (.int ((0 : Int32) ||| r1)), .val (.int ((0 : Int32) ||| s1)), .val (.int (((0 : Int32) ||| r1) ||| r2)), .val (.int (((0 : Int32) ||| s1) ||| s2)), .unset, .unset, .unset, .unset, .unset] [])) (fun _ k => st72.trans k) ?_
  refine own_go (S' := T72.setTop (mkF m 141 #[.val (.int p0), .val (.int r1), .val (.int s1), .val (.int r2), .val (.int s2), .val (.int r3), .val (.int s3), .val (.ref b53), .val (.int ((0 : Int32) ||| r1)), .val (.int ((0 : Int32) ||| s1)), .val (.int (((0 : Int32) ||| r1) ||| r2)), .val (.int (((0 : Int32) ||| s1) ||| s2)), .unset, .unset, .unset, .unset, .unset] [(.ref b53)])) (fun target kt => ?_) ?_
  · skip
    show Steps p.tables e below (T72.setTop (mkF m 139 #[.val (.int p0), .val (.int r1), .val (.int s1), .val (.int r2), .val (.int s2), .val (.int r3), .val (.int s3), .val (.ref b53), .val (.int ((0 : Int32) ||| r1)), .val (.int ((0 : Int32) ||| s1)), .val (.int (((0 : Int32) ||| r1) ||| r2)), .val (.int (((0 : Int32) ||| s1) ||| s2)), .unset, .unset, .unset, .unset, .unset] [])) _
    refine XS.aload X72.here hx rfl (hb hby at_139) rfl rfl ?_
    exact kt
  obtain ⟨cq75, kq75, q75a, q75b, q75c⟩ := isOf hZ rfl f72_0
  obtain ⟨_, _, ⟨T75, L75, k75, n75⟩, -, X75, ⟨Lc75, hQ75, l75, y75, z75⟩, st75⟩ := X72.virtualBack hx (y := (⟨"com/example/assertline/assertline/policy/Audit", "requestBody", "()Z"⟩ : MethodName)) (z := (⟨"com/example/assertline/assertline/policy/Audit", "requestBody", "()Z"⟩ : MethodName)) hown (mvT hZ (hw _ (List.mem_of_getElem? (i := 44) rfl))) (mvT hZ (hw _ (List.mem_of_getElem? (i := 45) rfl))) (notFace_of_selects (args := #[]) (mvT hZ (hw _ (List.mem_of_getElem? (i := 47) rfl)))) (mvT hZ (hw _ (List.mem_of_getElem? (i := 47) rfl))) (mvT hZ (hw _ (List.mem_of_getElem? (i := 46) rfl))) (by decide) (backOf (W := 0) (rm7 l Z aZ hw [] b53 ((((0 : Int32) ||| r1) ||| r2) ||| r3) T72.heap n0 Z72 f72_1 ((own_or (own_or (own_or own_z br1) br2) br3) : ((((0 : Int32) ||| r1) ||| r2) ||| r3) = 0 ∨ ((((0 : Int32) ||| r1) ||| r2) ||| r3) = 1)) hZ (hw _ (List.mem_of_getElem? (i := 48) rfl)) (hw _ (List.mem_of_getElem? (i := 2) rfl)) (by decide) (by decide)) q75a q75c (g := (mkF m 141 #[.val (.int p0), .val (.int r1), .val (.int s1), .val (.int r2), .val (.int s2), .val (.int r3), .val (.int s3), .val (.ref b53), .val (.int ((0 : Int32) ||| r1)), .val (.int ((0 : Int32) ||| s1)), .val (.int (((0 : Int32) ||| r1) ||| r2)), .val (.int (((0 : Int32) ||| s1) ||| s2)), .unset, .unset, .unset, .unset, .unset] [(.ref b53)])) rfl (by rw [hml]; rfl) (Steps.refl _) (argsL := []) (rest := []) (lenOf own_pd2 rfl) rfl (by show 2 * 0 + _ ≤ _; exact Nat.le_of_eq rfl) (hb hby at_141) (fun _ _ => ⟨rfl, rfl, (by decide : 2 + 0 ≤ _), (by decide : 6 + 0 ≤ _)⟩)
  dsimp only [Pt.U, Pt.locs, Pt.cells, Pt.slots] at X75 l75 y75 z75 st75 hQ75
  subst l75 y75 z75
  obtain ⟨rfl, N75q, e75⟩ := hQ75
  have N75 := Fr.app N72 N75q
  refine own_go (S' := T75.setTop (mkF m 144 #[.val (.int p0), .val (.int r1), .val (.int s1), .val (.int r2), .val (.int s2), .val (.int r3), .val (.int s3), .val (.ref b53), .val (.int ((0 : Int32) ||| r1)), .val (.int ((0 : Int32) ||| s1)), .val (.int (((0 : Int32) ||| r1) ||| r2)), .val (.int (((0 : Int32) ||| s1) ||| s2)), .unset, .unset, .unset, .unset, .unset] [(.int ((((0 : Int32) ||| r1) ||| r2) ||| r3))])) (fun _ k => st75.trans k) ?_
  refine own_go (S' := T75.setTop (mkF m 148 #[.val (.int p0), .val (.int r1), .val (.int s1), .val (.int r2), .val (.int s2), .val (.int r3), .val (.int s3), .val (.ref b53), .val (.int ((0 : Int32) ||| r1)), .val (.int ((0 : Int32) ||| s1)), .val (.int (((0 : Int32) ||| r1) ||| r2)), .val (.int (((0 : Int32) ||| s1) ||| s2)), .val (.int ((((0 : Int32) ||| r1) ||| r2) ||| r3)), .unset, .unset, .unset, .unset] [(.ref b53)])) (fun target kt => ?_) ?_
  · skip
    show Steps p.tables e below (T75.setTop (mkF m 144 #[.val (.int p0), .val (.int r1), .val (.int s1), .val (.int r2), .val (.int s2), .val (.int r3), .val (.int s3), .val (.ref b53), .val (.int ((0 : Int32) ||| r1)), .val (.int ((0 : Int32) ||| s1)), .val (.int (((0 : Int32) ||| r1) ||| r2)), .val (.int (((0 : Int32) ||| s1) ||| s2)), .unset, .unset, .unset, .unset, .unset] [(.int ((((0 : Int32) ||| r1) ||| r2) ||| r3))])) _
    refine XS.istore X75.here hx rfl (hb hby at_144) rfl (l' := #[.val (.int p0), .val (.int r1), .val (.int s1), .val (.int r2), .val (.int s2), .val (.int r3), .val (.int s3), .val (.ref b53), .val (.int ((0 : Int32) ||| r1)), .val (.int ((0 : Int32) ||| s1)), .val (.int (((0 : Int32) ||| r1) ||| r2)), .val (.int (((0 : Int32) ||| s1) ||| s2)), .val (.int ((((0 : Int32) ||| r1) ||| r2) ||| r3)), .unset, .unset, .unset, .unset]) rfl ?_
    show Steps p.tables e below (T75.setTop (mkF m 146 #[.val (.int p0), .val (.int r1), .val (.int s1), .val (.int r2), .val (.int s2), .val (.int r3), .val (.int s3), .val (.ref b53), .val (.int ((0 : Int32) ||| r1)), .val (.int ((0 : Int32) ||| s1)), .val (.int (((0 : Int32) ||| r1) ||| r2)), .val (.int (((0 : Int32) ||| s1) ||| s2)), .val (.int ((((0 : Int32) ||| r1) ||| r2) ||| r3)), .unset, .unset, .unset, .unset] [])) _
    refine XS.aload X75.here hx rfl (hb hby at_146) rfl rfl ?_
    exact kt
  obtain ⟨cq76, kq76, q76a, q76b, q76c⟩ := isOf hZ e75 f72_0
  obtain ⟨_, _, ⟨T76, L76, k76, n76⟩, -, X76, ⟨Lc76, hQ76, l76, y76, z76⟩, st76⟩ := X75.virtualBack hx (y := (⟨"com/example/assertline/assertline/policy/Audit", "responseBody", "()Z"⟩ : MethodName)) (z := (⟨"com/example/assertline/assertline/policy/Audit", "responseBody", "()Z"⟩ : MethodName)) hown (mvT hZ (hw _ (List.mem_of_getElem? (i := 49) rfl))) (mvT hZ (hw _ (List.mem_of_getElem? (i := 50) rfl))) (notFace_of_selects (args := #[]) (mvT hZ (hw _ (List.mem_of_getElem? (i := 52) rfl)))) (mvT hZ (hw _ (List.mem_of_getElem? (i := 52) rfl))) (mvT hZ (hw _ (List.mem_of_getElem? (i := 51) rfl))) (by decide) (backOf (W := 0) (rm8 l Z aZ hw [] b53 ((((0 : Int32) ||| s1) ||| s2) ||| s3) T72.heap n0 Z72 f72_2 ((own_or (own_or (own_or own_z bs1) bs2) bs3) : ((((0 : Int32) ||| s1) ||| s2) ||| s3) = 0 ∨ ((((0 : Int32) ||| s1) ||| s2) ||| s3) = 1)) hZ (hw _ (List.mem_of_getElem? (i := 53) rfl)) (hw _ (List.mem_of_getElem? (i := 2) rfl)) (by decide) (by decide)) q76a q76c (g := (mkF m 148 #[.val (.int p0), .val (.int r1), .val (.int s1), .val (.int r2), .val (.int s2), .val (.int r3), .val (.int s3), .val (.ref b53), .val (.int ((0 : Int32) ||| r1)), .val (.int ((0 : Int32) ||| s1)), .val (.int (((0 : Int32) ||| r1) ||| r2)), .val (.int (((0 : Int32) ||| s1) ||| s2)), .val (.int ((((0 : Int32) ||| r1) ||| r2) ||| r3)), .unset, .unset, .unset, .unset] [(.ref b53)])) rfl (by rw [hml]; rfl) (Steps.refl _) (argsL := []) (rest := []) (lenOf own_pd2 rfl) rfl (by show 2 * 0 + _ ≤ _; exact Nat.le_of_eq rfl) (hb hby at_148) (fun _ _ => ⟨rfl, e75, (by decide : 2 + 0 ≤ _), (by decide : 6 + 0 ≤ _)⟩)
  dsimp only [Pt.U, Pt.locs, Pt.cells, Pt.slots] at X76 l76 y76 z76 st76 hQ76
  subst l76 y76 z76
  obtain ⟨rfl, N76q, e76⟩ := hQ76
  have N76 := Fr.app N75 N76q
  refine own_go (S' := T76.setTop (mkF m 151 #[.val (.int p0), .val (.int r1), .val (.int s1), .val (.int r2), .val (.int s2), .val (.int r3), .val (.int s3), .val (.ref b53), .val (.int ((0 : Int32) ||| r1)), .val (.int ((0 : Int32) ||| s1)), .val (.int (((0 : Int32) ||| r1) ||| r2)), .val (.int (((0 : Int32) ||| s1) ||| s2)), .val (.int ((((0 : Int32) ||| r1) ||| r2) ||| r3)), .unset, .unset, .unset, .unset] [(.int ((((0 : Int32) ||| s1) ||| s2) ||| s3))])) (fun _ k => st76.trans k) ?_
  refine own_go (S' := T76.setTop (mkF m 175 #[.val (.int p0), .val (.int r1), .val (.int s1), .val (.int r2), .val (.int s2), .val (.int r3), .val (.int s3), .val (.ref b53), .val (.int ((0 : Int32) ||| r1)), .val (.int ((0 : Int32) ||| s1)), .val (.int (((0 : Int32) ||| r1) ||| r2)), .val (.int (((0 : Int32) ||| s1) ||| s2)), .val (.int ((((0 : Int32) ||| r1) ||| r2) ||| r3)), .val (.int ((((0 : Int32) ||| s1) ||| s2) ||| s3)), .val (.int (1 : Int32)), .unset, .unset] [(.int r1), (.int (((0 : Int32) ||| r1) ||| r2))])) (fun target kt => ?_) ?_
  · skip
    show Steps p.tables e below (T76.setTop (mkF m 151 #[.val (.int p0), .val (.int r1), .val (.int s1), .val (.int r2), .val (.int s2), .val (.int r3), .val (.int s3), .val (.ref b53), .val (.int ((0 : Int32) ||| r1)), .val (.int ((0 : Int32) ||| s1)), .val (.int (((0 : Int32) ||| r1) ||| r2)), .val (.int (((0 : Int32) ||| s1) ||| s2)), .val (.int ((((0 : Int32) ||| r1) ||| r2) ||| r3)), .unset, .unset, .unset, .unset] [(.int ((((0 : Int32) ||| s1) ||| s2) ||| s3))])) _
    refine XS.istore X76.here hx rfl (hb hby at_151) rfl (l' := #[.val (.int p0), .val (.int r1), .val (.int s1), .val (.int r2), .val (.int s2), .val (.int r3), .val (.int s3), .val (.ref b53), .val (.int ((0 : Int32) ||| r1)), .val (.int ((0 : Int32) ||| s1)), .val (.int (((0 : Int32) ||| r1) ||| r2)), .val (.int (((0 : Int32) ||| s1) ||| s2)), .val (.int ((((0 : Int32) ||| r1) ||| r2) ||| r3)), .val (.int ((((0 : Int32) ||| s1) ||| s2) ||| s3)), .unset, .unset, .unset]) rfl ?_
    show Steps p.tables e below (T76.setTop (mkF m 153 #[.val (.int p0), .val (.int r1), .val (.int s1), .val (.int r2), .val (.int s2), .val (.int r3), .val (.int s3), .val (.ref b53), .val (.int ((0 : Int32) ||| r1)), .val (.int ((0 : Int32) ||| s1)), .val (.int (((0 : Int32) ||| r1) ||| r2)), .val (.int (((0 : Int32) ||| s1) ||| s2)), .val (.int ((((0 : Int32) ||| r1) ||| r2) ||| r3)), .val (.int ((((0 : Int32) ||| s1) ||| s2) ||| s3)), .unset, .unset, .unset] [])) _
    refine XS.iload X76.here hx rfl (hb hby at_153) rfl ?_
    show Steps p.tables e below (T76.setTop (mkF m 155 #[.val (.int p0), .val (.int r1), .val (.int s1), .val (.int r2), .val (.int s2), .val (.int r3), .val (.int s3), .val (.ref b53), .val (.int ((0 : Int32) ||| r1)), .val (.int ((0 : Int32) ||| s1)), .val (.int (((0 : Int32) ||| r1) ||| r2)), .val (.int (((0 : Int32) ||| s1) ||| s2)), .val (.int ((((0 : Int32) ||| r1) ||| r2) ||| r3)), .val (.int ((((0 : Int32) ||| s1) ||| s2) ||| s3)), .unset, .unset, .unset] [(.int ((0 : Int32) ||| r1))])) _
    refine XS.iloadN X76.here hx rfl (hb hby at_155) rfl ?_
    show Steps p.tables e below (T76.setTop (mkF m 156 #[.val (.int p0), .val (.int r1), .val (.int s1), .val (.int r2), .val (.int s2), .val (.int r3), .val (.int s3), .val (.ref b53), .val (.int ((0 : Int32) ||| r1)), .val (.int ((0 : Int32) ||| s1)), .val (.int (((0 : Int32) ||| r1) ||| r2)), .val (.int (((0 : Int32) ||| s1) ||| s2)), .val (.int ((((0 : Int32) ||| r1) ||| r2) ||| r3)), .val (.int ((((0 : Int32) ||| s1) ||| s2) ||| s3)), .unset, .unset, .unset] [(.int r1), (.int ((0 : Int32) ||| r1))])) _
    refine XS.icmpNo X76.here hx rfl (hb hby at_156) rfl (teq (own_e1 br1 : ((0 : Int32) ||| r1) = r1)).2 ?_
    show Steps p.tables e below (T76.setTop (mkF m 159 #[.val (.int p0), .val (.int r1), .val (.int s1), .val (.int r2), .val (.int s2), .val (.int r3), .val (.int s3), .val (.ref b53), .val (.int ((0 : Int32) ||| r1)), .val (.int ((0 : Int32) ||| s1)), .val (.int (((0 : Int32) ||| r1) ||| r2)), .val (.int (((0 : Int32) ||| s1) ||| s2)), .val (.int ((((0 : Int32) ||| r1) ||| r2) ||| r3)), .val (.int ((((0 : Int32) ||| s1) ||| s2) ||| s3)), .unset, .unset, .unset] [])) _
    refine XS.iload X76.here hx rfl (hb hby at_159) rfl ?_
    show Steps p.tables e below (T76.setTop (mkF m 161 #[.val (.int p0), .val (.int r1), .val (.int s1), .val (.int r2), .val (.int s2), .val (.int r3), .val (.int s3), .val (.ref b53), .val (.int ((0 : Int32) ||| r1)), .val (.int ((0 : Int32) ||| s1)), .val (.int (((0 : Int32) ||| r1) ||| r2)), .val (.int (((0 : Int32) ||| s1) ||| s2)), .val (.int ((((0 : Int32) ||| r1) ||| r2) ||| r3)), .val (.int ((((0 : Int32) ||| s1) ||| s2) ||| s3)), .unset, .unset, .unset] [(.int ((0 : Int32) ||| s1))])) _
    refine XS.iloadN X76.here hx rfl (hb hby at_161) rfl ?_
    show Steps p.tables e below (T76.setTop (mkF m 162 #[.val (.int p0), .val (.int r1), .val (.int s1), .val (.int r2), .val (.int s2), .val (.int r3), .val (.int s3), .val (.ref b53), .val (.int ((0 : Int32) ||| r1)), .val (.int ((0 : Int32) ||| s1)), .val (.int (((0 : Int32) ||| r1) ||| r2)), .val (.int (((0 : Int32) ||| s1) ||| s2)), .val (.int ((((0 : Int32) ||| r1) ||| r2) ||| r3)), .val (.int ((((0 : Int32) ||| s1) ||| s2) ||| s3)), .unset, .unset, .unset] [(.int s1), (.int ((0 : Int32) ||| s1))])) _
    refine XS.icmpNo X76.here hx rfl (hb hby at_162) rfl (teq (own_e1 bs1 : ((0 : Int32) ||| s1) = s1)).2 ?_
    show Steps p.tables e below (T76.setTop (mkF m 165 #[.val (.int p0), .val (.int r1), .val (.int s1), .val (.int r2), .val (.int s2), .val (.int r3), .val (.int s3), .val (.ref b53), .val (.int ((0 : Int32) ||| r1)), .val (.int ((0 : Int32) ||| s1)), .val (.int (((0 : Int32) ||| r1) ||| r2)), .val (.int (((0 : Int32) ||| s1) ||| s2)), .val (.int ((((0 : Int32) ||| r1) ||| r2) ||| r3)), .val (.int ((((0 : Int32) ||| s1) ||| s2) ||| s3)), .unset, .unset, .unset] [])) _
    refine XS.iconst X76.here hx rfl (hb hby at_165) ?_
    show Steps p.tables e below (T76.setTop (mkF m 166 #[.val (.int p0), .val (.int r1), .val (.int s1), .val (.int r2), .val (.int s2), .val (.int r3), .val (.int s3), .val (.ref b53), .val (.int ((0 : Int32) ||| r1)), .val (.int ((0 : Int32) ||| s1)), .val (.int (((0 : Int32) ||| r1) ||| r2)), .val (.int (((0 : Int32) ||| s1) ||| s2)), .val (.int ((((0 : Int32) ||| r1) ||| r2) ||| r3)), .val (.int ((((0 : Int32) ||| s1) ||| s2) ||| s3)), .unset, .unset, .unset] [(.int (1 : Int32))])) _
    refine XS.goto X76.here hx rfl (pc0 := 166) (pc' := 170) rfl (hb hby at_166) (by decide) (by decide) ?_
    show Steps p.tables e below (T76.setTop (mkF m 170 #[.val (.int p0), .val (.int r1), .val (.int s1), .val (.int r2), .val (.int s2), .val (.int r3), .val (.int s3), .val (.ref b53), .val (.int ((0 : Int32) ||| r1)), .val (.int ((0 : Int32) ||| s1)), .val (.int (((0 : Int32) ||| r1) ||| r2)), .val (.int (((0 : Int32) ||| s1) ||| s2)), .val (.int ((((0 : Int32) ||| r1) ||| r2) ||| r3)), .val (.int ((((0 : Int32) ||| s1) ||| s2) ||| s3)), .unset, .unset, .unset] [(.int (1 : Int32))])) _
    refine XS.istore X76.here hx rfl (hb hby at_170) rfl (l' := #[.val (.int p0), .val (.int r1), .val (.int s1), .val (.int r2), .val (.int s2), .val (.int r3), .val (.int s3), .val (.ref b53), .val (.int ((0 : Int32) ||| r1)), .val (.int ((0 : Int32) ||| s1)), .val (.int (((0 : Int32) ||| r1) ||| r2)), .val (.int (((0 : Int32) ||| s1) ||| s2)), .val (.int ((((0 : Int32) ||| r1) ||| r2) ||| r3)), .val (.int ((((0 : Int32) ||| s1) ||| s2) ||| s3)), .val (.int (1 : Int32)), .unset, .unset]) rfl ?_
    show Steps p.tables e below (T76.setTop (mkF m 172 #[.val (.int p0), .val (.int r1), .val (.int s1), .val (.int r2), .val (.int s2), .val (.int r3), .val (.int s3), .val (.ref b53), .val (.int ((0 : Int32) ||| r1)), .val (.int ((0 : Int32) ||| s1)), .val (.int (((0 : Int32) ||| r1) ||| r2)), .val (.int (((0 : Int32) ||| s1) ||| s2)), .val (.int ((((0 : Int32) ||| r1) ||| r2) ||| r3)), .val (.int ((((0 : Int32) ||| s1) ||| s2) ||| s3)), .val (.int (1 : Int32)), .unset, .unset] [])) _
    refine XS.iload X76.here hx rfl (hb hby at_172) rfl ?_
    show Steps p.tables e below (T76.setTop (mkF m 174 #[.val (.int p0), .val (.int r1), .val (.int s1), .val (.int r2), .val (.int s2), .val (.int r3), .val (.int s3), .val (.ref b53), .val (.int ((0 : Int32) ||| r1)), .val (.int ((0 : Int32) ||| s1)), .val (.int (((0 : Int32) ||| r1) ||| r2)), .val (.int (((0 : Int32) ||| s1) ||| s2)), .val (.int ((((0 : Int32) ||| r1) ||| r2) ||| r3)), .val (.int ((((0 : Int32) ||| s1) ||| s2) ||| s3)), .val (.int (1 : Int32)), .unset, .unset] [(.int (((0 : Int32) ||| r1) ||| r2))])) _
    refine XS.iloadN X76.here hx rfl (hb hby at_174) rfl ?_
    exact kt
  obtain ⟨e2, h_e2⟩ : ∃ z : Int32, z = (if r1 = (0 : Int32) then (if r2 = (0 : Int32) then (0 : Int32) else (1 : Int32)) else (1 : Int32)) := ⟨_, rfl⟩
  refine own_go (S' := T76.setTop (mkF m 187 #[.val (.int p0), .val (.int r1), .val (.int s1), .val (.int r2), .val (.int s2), .val (.int r3), .val (.int s3), .val (.ref b53), .val (.int ((0 : Int32) ||| r1)), .val (.int ((0 : Int32) ||| s1)), .val (.int (((0 : Int32) ||| r1) ||| r2)), .val (.int (((0 : Int32) ||| s1) ||| s2)), .val (.int ((((0 : Int32) ||| r1) ||| r2) ||| r3)), .val (.int ((((0 : Int32) ||| s1) ||| s2) ||| s3)), .val (.int (1 : Int32)), .unset, .unset] [(.int e2), (.int (((0 : Int32) ||| r1) ||| r2))])) (fun target kt => ?_) ?_
  · skip
    by_cases hm175 : r1 = (0 : Int32)
    · skip
      show Steps p.tables e below (T76.setTop (mkF m 175 #[.val (.int p0), .val (.int r1), .val (.int s1), .val (.int r2), .val (.int s2), .val (.int r3), .val (.int s3), .val (.ref b53), .val (.int ((0 : Int32) ||| r1)), .val (.int ((0 : Int32) ||| s1)), .val (.int (((0 : Int32) ||| r1) ||| r2)), .val (.int (((0 : Int32) ||| s1) ||| s2)), .val (.int ((((0 : Int32) ||| r1) ||| r2) ||| r3)), .val (.int ((((0 : Int32) ||| s1) ||| s2) ||| s3)), .val (.int (1 : Int32)), .unset, .unset] [(.int r1), (.int (((0 : Int32) ||| r1) ||| r2))])) _
      refine XS.ifNo X76.here hx rfl (hb hby at_175) rfl ((if0 _ _).trans (teq hm175).2) ?_
      show Steps p.tables e below (T76.setTop (mkF m 178 #[.val (.int p0), .val (.int r1), .val (.int s1), .val (.int r2), .val (.int s2), .val (.int r3), .val (.int s3), .val (.ref b53), .val (.int ((0 : Int32) ||| r1)), .val (.int ((0 : Int32) ||| s1)), .val (.int (((0 : Int32) ||| r1) ||| r2)), .val (.int (((0 : Int32) ||| s1) ||| s2)), .val (.int ((((0 : Int32) ||| r1) ||| r2) ||| r3)), .val (.int ((((0 : Int32) ||| s1) ||| s2) ||| s3)), .val (.int (1 : Int32)), .unset, .unset] [(.int (((0 : Int32) ||| r1) ||| r2))])) _
      refine XS.iloadN X76.here hx rfl (hb hby at_178) rfl ?_
      by_cases hm179 : r2 = (0 : Int32)
      · skip
        show Steps p.tables e below (T76.setTop (mkF m 179 #[.val (.int p0), .val (.int r1), .val (.int s1), .val (.int r2), .val (.int s2), .val (.int r3), .val (.int s3), .val (.ref b53), .val (.int ((0 : Int32) ||| r1)), .val (.int ((0 : Int32) ||| s1)), .val (.int (((0 : Int32) ||| r1) ||| r2)), .val (.int (((0 : Int32) ||| s1) ||| s2)), .val (.int ((((0 : Int32) ||| r1) ||| r2) ||| r3)), .val (.int ((((0 : Int32) ||| s1) ||| s2) ||| s3)), .val (.int (1 : Int32)), .unset, .unset] [(.int r2), (.int (((0 : Int32) ||| r1) ||| r2))])) _
        refine XS.ifYes X76.here hx rfl (pc0 := 179) (pc' := 186) rfl (hb hby at_179) rfl ((if0 _ _).trans (teq hm179).1) (by decide) (by decide) ?_
        show Steps p.tables e below (T76.setTop (mkF m 186 #[.val (.int p0), .val (.int r1), .val (.int s1), .val (.int r2), .val (.int s2), .val (.int r3), .val (.int s3), .val (.ref b53), .val (.int ((0 : Int32) ||| r1)), .val (.int ((0 : Int32) ||| s1)), .val (.int (((0 : Int32) ||| r1) ||| r2)), .val (.int (((0 : Int32) ||| s1) ||| s2)), .val (.int ((((0 : Int32) ||| r1) ||| r2) ||| r3)), .val (.int ((((0 : Int32) ||| s1) ||| s2) ||| s3)), .val (.int (1 : Int32)), .unset, .unset] [(.int (((0 : Int32) ||| r1) ||| r2))])) _
        refine XS.iconst X76.here hx rfl (hb hby at_186) ?_
        rw [h_e2, if_pos hm175, if_pos hm179] at kt
        exact kt
      · skip
        show Steps p.tables e below (T76.setTop (mkF m 179 #[.val (.int p0), .val (.int r1), .val (.int s1), .val (.int r2), .val (.int s2), .val (.int r3), .val (.int s3), .val (.ref b53), .val (.int ((0 : Int32) ||| r1)), .val (.int ((0 : Int32) ||| s1)), .val (.int (((0 : Int32) ||| r1) ||| r2)), .val (.int (((0 : Int32) ||| s1) ||| s2)), .val (.int ((((0 : Int32) ||| r1) ||| r2) ||| r3)), .val (.int ((((0 : Int32) ||| s1) ||| s2) ||| s3)), .val (.int (1 : Int32)), .unset, .unset] [(.int r2), (.int (((0 : Int32) ||| r1) ||| r2))])) _
        refine XS.ifNo X76.here hx rfl (hb hby at_179) rfl ((if0 _ _).trans (feq hm179).1) ?_
        show Steps p.tables e below (T76.setTop (mkF m 182 #[.val (.int p0), .val (.int r1), .val (.int s1), .val (.int r2), .val (.int s2), .val (.int r3), .val (.int s3), .val (.ref b53), .val (.int ((0 : Int32) ||| r1)), .val (.int ((0 : Int32) ||| s1)), .val (.int (((0 : Int32) ||| r1) ||| r2)), .val (.int (((0 : Int32) ||| s1) ||| s2)), .val (.int ((((0 : Int32) ||| r1) ||| r2) ||| r3)), .val (.int ((((0 : Int32) ||| s1) ||| s2) ||| s3)), .val (.int (1 : Int32)), .unset, .unset] [(.int (((0 : Int32) ||| r1) ||| r2))])) _
        refine XS.iconst X76.here hx rfl (hb hby at_182) ?_
        show Steps p.tables e below (T76.setTop (mkF m 183 #[.val (.int p0), .val (.int r1), .val (.int s1), .val (.int r2), .val (.int s2), .val (.int r3), .val (.int s3), .val (.ref b53), .val (.int ((0 : Int32) ||| r1)), .val (.int ((0 : Int32) ||| s1)), .val (.int (((0 : Int32) ||| r1) ||| r2)), .val (.int (((0 : Int32) ||| s1) ||| s2)), .val (.int ((((0 : Int32) ||| r1) ||| r2) ||| r3)), .val (.int ((((0 : Int32) ||| s1) ||| s2) ||| s3)), .val (.int (1 : Int32)), .unset, .unset] [(.int (1 : Int32)), (.int (((0 : Int32) ||| r1) ||| r2))])) _
        refine XS.goto X76.here hx rfl (pc0 := 183) (pc' := 187) rfl (hb hby at_183) (by decide) (by decide) ?_
        rw [h_e2, if_pos hm175, if_neg hm179] at kt
        exact kt
    · skip
      show Steps p.tables e below (T76.setTop (mkF m 175 #[.val (.int p0), .val (.int r1), .val (.int s1), .val (.int r2), .val (.int s2), .val (.int r3), .val (.int s3), .val (.ref b53), .val (.int ((0 : Int32) ||| r1)), .val (.int ((0 : Int32) ||| s1)), .val (.int (((0 : Int32) ||| r1) ||| r2)), .val (.int (((0 : Int32) ||| s1) ||| s2)), .val (.int ((((0 : Int32) ||| r1) ||| r2) ||| r3)), .val (.int ((((0 : Int32) ||| s1) ||| s2) ||| s3)), .val (.int (1 : Int32)), .unset, .unset] [(.int r1), (.int (((0 : Int32) ||| r1) ||| r2))])) _
      refine XS.ifYes X76.here hx rfl (pc0 := 175) (pc' := 182) rfl (hb hby at_175) rfl ((if0 _ _).trans (feq hm175).2) (by decide) (by decide) ?_
      show Steps p.tables e below (T76.setTop (mkF m 182 #[.val (.int p0), .val (.int r1), .val (.int s1), .val (.int r2), .val (.int s2), .val (.int r3), .val (.int s3), .val (.ref b53), .val (.int ((0 : Int32) ||| r1)), .val (.int ((0 : Int32) ||| s1)), .val (.int (((0 : Int32) ||| r1) ||| r2)), .val (.int (((0 : Int32) ||| s1) ||| s2)), .val (.int ((((0 : Int32) ||| r1) ||| r2) ||| r3)), .val (.int ((((0 : Int32) ||| s1) ||| s2) ||| s3)), .val (.int (1 : Int32)), .unset, .unset] [(.int (((0 : Int32) ||| r1) ||| r2))])) _
      refine XS.iconst X76.here hx rfl (hb hby at_182) ?_
      show Steps p.tables e below (T76.setTop (mkF m 183 #[.val (.int p0), .val (.int r1), .val (.int s1), .val (.int r2), .val (.int s2), .val (.int r3), .val (.int s3), .val (.ref b53), .val (.int ((0 : Int32) ||| r1)), .val (.int ((0 : Int32) ||| s1)), .val (.int (((0 : Int32) ||| r1) ||| r2)), .val (.int (((0 : Int32) ||| s1) ||| s2)), .val (.int ((((0 : Int32) ||| r1) ||| r2) ||| r3)), .val (.int ((((0 : Int32) ||| s1) ||| s2) ||| s3)), .val (.int (1 : Int32)), .unset, .unset] [(.int (1 : Int32)), (.int (((0 : Int32) ||| r1) ||| r2))])) _
      refine XS.goto X76.here hx rfl (pc0 := 183) (pc' := 187) rfl (hb hby at_183) (by decide) (by decide) ?_
      rw [h_e2, if_neg hm175] at kt
      exact kt
  refine own_go (S' := T76.setTop (mkF m 193 #[.val (.int p0), .val (.int r1), .val (.int s1), .val (.int r2), .val (.int s2), .val (.int r3), .val (.int s3), .val (.ref b53), .val (.int ((0 : Int32) ||| r1)), .val (.int ((0 : Int32) ||| s1)), .val (.int (((0 : Int32) ||| r1) ||| r2)), .val (.int (((0 : Int32) ||| s1) ||| s2)), .val (.int ((((0 : Int32) ||| r1) ||| r2) ||| r3)), .val (.int ((((0 : Int32) ||| s1) ||| s2) ||| s3)), .val (.int (1 : Int32)), .unset, .unset] [(.int s1), (.int (((0 : Int32) ||| s1) ||| s2))])) (fun target kt => ?_) ?_
  · skip
    show Steps p.tables e below (T76.setTop (mkF m 187 #[.val (.int p0), .val (.int r1), .val (.int s1), .val (.int r2), .val (.int s2), .val (.int r3), .val (.int s3), .val (.ref b53), .val (.int ((0 : Int32) ||| r1)), .val (.int ((0 : Int32) ||| s1)), .val (.int (((0 : Int32) ||| r1) ||| r2)), .val (.int (((0 : Int32) ||| s1) ||| s2)), .val (.int ((((0 : Int32) ||| r1) ||| r2) ||| r3)), .val (.int ((((0 : Int32) ||| s1) ||| s2) ||| s3)), .val (.int (1 : Int32)), .unset, .unset] [(.int e2), (.int (((0 : Int32) ||| r1) ||| r2))])) _
    refine XS.icmpNo X76.here hx rfl (hb hby at_187) rfl (teq (own_e2 br1 br2 h_e2 : (((0 : Int32) ||| r1) ||| r2) = e2)).2 ?_
    show Steps p.tables e below (T76.setTop (mkF m 190 #[.val (.int p0), .val (.int r1), .val (.int s1), .val (.int r2), .val (.int s2), .val (.int r3), .val (.int s3), .val (.ref b53), .val (.int ((0 : Int32) ||| r1)), .val (.int ((0 : Int32) ||| s1)), .val (.int (((0 : Int32) ||| r1) ||| r2)), .val (.int (((0 : Int32) ||| s1) ||| s2)), .val (.int ((((0 : Int32) ||| r1) ||| r2) ||| r3)), .val (.int ((((0 : Int32) ||| s1) ||| s2) ||| s3)), .val (.int (1 : Int32)), .unset, .unset] [])) _
    refine XS.iload X76.here hx rfl (hb hby at_190) rfl ?_
    show Steps p.tables e below (T76.setTop (mkF m 192 #[.val (.int p0), .val (.int r1), .val (.int s1), .val (.int r2), .val (.int s2), .val (.int r3), .val (.int s3), .val (.ref b53), .val (.int ((0 : Int32) ||| r1)), .val (.int ((0 : Int32) ||| s1)), .val (.int (((0 : Int32) ||| r1) ||| r2)), .val (.int (((0 : Int32) ||| s1) ||| s2)), .val (.int ((((0 : Int32) ||| r1) ||| r2) ||| r3)), .val (.int ((((0 : Int32) ||| s1) ||| s2) ||| s3)), .val (.int (1 : Int32)), .unset, .unset] [(.int (((0 : Int32) ||| s1) ||| s2))])) _
    refine XS.iloadN X76.here hx rfl (hb hby at_192) rfl ?_
    exact kt
  obtain ⟨f2, h_f2⟩ : ∃ z : Int32, z = (if s1 = (0 : Int32) then (if s2 = (0 : Int32) then (0 : Int32) else (1 : Int32)) else (1 : Int32)) := ⟨_, rfl⟩
  refine own_go (S' := T76.setTop (mkF m 206 #[.val (.int p0), .val (.int r1), .val (.int s1), .val (.int r2), .val (.int s2), .val (.int r3), .val (.int s3), .val (.ref b53), .val (.int ((0 : Int32) ||| r1)), .val (.int ((0 : Int32) ||| s1)), .val (.int (((0 : Int32) ||| r1) ||| r2)), .val (.int (((0 : Int32) ||| s1) ||| s2)), .val (.int ((((0 : Int32) ||| r1) ||| r2) ||| r3)), .val (.int ((((0 : Int32) ||| s1) ||| s2) ||| s3)), .val (.int (1 : Int32)), .unset, .unset] [(.int f2), (.int (((0 : Int32) ||| s1) ||| s2))])) (fun target kt => ?_) ?_
  · skip
    by_cases hm193 : s1 = (0 : Int32)
    · skip
      show Steps p.tables e below (T76.setTop (mkF m 193 #[.val (.int p0), .val (.int r1), .val (.int s1), .val (.int r2), .val (.int s2), .val (.int r3), .val (.int s3), .val (.ref b53), .val (.int ((0 : Int32) ||| r1)), .val (.int ((0 : Int32) ||| s1)), .val (.int (((0 : Int32) ||| r1) ||| r2)), .val (.int (((0 : Int32) ||| s1) ||| s2)), .val (.int ((((0 : Int32) ||| r1) ||| r2) ||| r3)), .val (.int ((((0 : Int32) ||| s1) ||| s2) ||| s3)), .val (.int (1 : Int32)), .unset, .unset] [(.int s1), (.int (((0 : Int32) ||| s1) ||| s2))])) _
      refine XS.ifNo X76.here hx rfl (hb hby at_193) rfl ((if0 _ _).trans (teq hm193).2) ?_
      show Steps p.tables e below (T76.setTop (mkF m 196 #[.val (.int p0), .val (.int r1), .val (.int s1), .val (.int r2), .val (.int s2), .val (.int r3), .val (.int s3), .val (.ref b53), .val (.int ((0 : Int32) ||| r1)), .val (.int ((0 : Int32) ||| s1)), .val (.int (((0 : Int32) ||| r1) ||| r2)), .val (.int (((0 : Int32) ||| s1) ||| s2)), .val (.int ((((0 : Int32) ||| r1) ||| r2) ||| r3)), .val (.int ((((0 : Int32) ||| s1) ||| s2) ||| s3)), .val (.int (1 : Int32)), .unset, .unset] [(.int (((0 : Int32) ||| s1) ||| s2))])) _
      refine XS.iload X76.here hx rfl (hb hby at_196) rfl ?_
      by_cases hm198 : s2 = (0 : Int32)
      · skip
        show Steps p.tables e below (T76.setTop (mkF m 198 #[.val (.int p0), .val (.int r1), .val (.int s1), .val (.int r2), .val (.int s2), .val (.int r3), .val (.int s3), .val (.ref b53), .val (.int ((0 : Int32) ||| r1)), .val (.int ((0 : Int32) ||| s1)), .val (.int (((0 : Int32) ||| r1) ||| r2)), .val (.int (((0 : Int32) ||| s1) ||| s2)), .val (.int ((((0 : Int32) ||| r1) ||| r2) ||| r3)), .val (.int ((((0 : Int32) ||| s1) ||| s2) ||| s3)), .val (.int (1 : Int32)), .unset, .unset] [(.int s2), (.int (((0 : Int32) ||| s1) ||| s2))])) _
        refine XS.ifYes X76.here hx rfl (pc0 := 198) (pc' := 205) rfl (hb hby at_198) rfl ((if0 _ _).trans (teq hm198).1) (by decide) (by decide) ?_
        show Steps p.tables e below (T76.setTop (mkF m 205 #[.val (.int p0), .val (.int r1), .val (.int s1), .val (.int r2), .val (.int s2), .val (.int r3), .val (.int s3), .val (.ref b53), .val (.int ((0 : Int32) ||| r1)), .val (.int ((0 : Int32) ||| s1)), .val (.int (((0 : Int32) ||| r1) ||| r2)), .val (.int (((0 : Int32) ||| s1) ||| s2)), .val (.int ((((0 : Int32) ||| r1) ||| r2) ||| r3)), .val (.int ((((0 : Int32) ||| s1) ||| s2) ||| s3)), .val (.int (1 : Int32)), .unset, .unset] [(.int (((0 : Int32) ||| s1) ||| s2))])) _
        refine XS.iconst X76.here hx rfl (hb hby at_205) ?_
        rw [h_f2, if_pos hm193, if_pos hm198] at kt
        exact kt
      · skip
        show Steps p.tables e below (T76.setTop (mkF m 198 #[.val (.int p0), .val (.int r1), .val (.int s1), .val (.int r2), .val (.int s2), .val (.int r3), .val (.int s3), .val (.ref b53), .val (.int ((0 : Int32) ||| r1)), .val (.int ((0 : Int32) ||| s1)), .val (.int (((0 : Int32) ||| r1) ||| r2)), .val (.int (((0 : Int32) ||| s1) ||| s2)), .val (.int ((((0 : Int32) ||| r1) ||| r2) ||| r3)), .val (.int ((((0 : Int32) ||| s1) ||| s2) ||| s3)), .val (.int (1 : Int32)), .unset, .unset] [(.int s2), (.int (((0 : Int32) ||| s1) ||| s2))])) _
        refine XS.ifNo X76.here hx rfl (hb hby at_198) rfl ((if0 _ _).trans (feq hm198).1) ?_
        show Steps p.tables e below (T76.setTop (mkF m 201 #[.val (.int p0), .val (.int r1), .val (.int s1), .val (.int r2), .val (.int s2), .val (.int r3), .val (.int s3), .val (.ref b53), .val (.int ((0 : Int32) ||| r1)), .val (.int ((0 : Int32) ||| s1)), .val (.int (((0 : Int32) ||| r1) ||| r2)), .val (.int (((0 : Int32) ||| s1) ||| s2)), .val (.int ((((0 : Int32) ||| r1) ||| r2) ||| r3)), .val (.int ((((0 : Int32) ||| s1) ||| s2) ||| s3)), .val (.int (1 : Int32)), .unset, .unset] [(.int (((0 : Int32) ||| s1) ||| s2))])) _
        refine XS.iconst X76.here hx rfl (hb hby at_201) ?_
        show Steps p.tables e below (T76.setTop (mkF m 202 #[.val (.int p0), .val (.int r1), .val (.int s1), .val (.int r2), .val (.int s2), .val (.int r3), .val (.int s3), .val (.ref b53), .val (.int ((0 : Int32) ||| r1)), .val (.int ((0 : Int32) ||| s1)), .val (.int (((0 : Int32) ||| r1) ||| r2)), .val (.int (((0 : Int32) ||| s1) ||| s2)), .val (.int ((((0 : Int32) ||| r1) ||| r2) ||| r3)), .val (.int ((((0 : Int32) ||| s1) ||| s2) ||| s3)), .val (.int (1 : Int32)), .unset, .unset] [(.int (1 : Int32)), (.int (((0 : Int32) ||| s1) ||| s2))])) _
        refine XS.goto X76.here hx rfl (pc0 := 202) (pc' := 206) rfl (hb hby at_202) (by decide) (by decide) ?_
        rw [h_f2, if_pos hm193, if_neg hm198] at kt
        exact kt
    · skip
      show Steps p.tables e below (T76.setTop (mkF m 193 #[.val (.int p0), .val (.int r1), .val (.int s1), .val (.int r2), .val (.int s2), .val (.int r3), .val (.int s3), .val (.ref b53), .val (.int ((0 : Int32) ||| r1)), .val (.int ((0 : Int32) ||| s1)), .val (.int (((0 : Int32) ||| r1) ||| r2)), .val (.int (((0 : Int32) ||| s1) ||| s2)), .val (.int ((((0 : Int32) ||| r1) ||| r2) ||| r3)), .val (.int ((((0 : Int32) ||| s1) ||| s2) ||| s3)), .val (.int (1 : Int32)), .unset, .unset] [(.int s1), (.int (((0 : Int32) ||| s1) ||| s2))])) _
      refine XS.ifYes X76.here hx rfl (pc0 := 193) (pc' := 201) rfl (hb hby at_193) rfl ((if0 _ _).trans (feq hm193).2) (by decide) (by decide) ?_
      show Steps p.tables e below (T76.setTop (mkF m 201 #[.val (.int p0), .val (.int r1), .val (.int s1), .val (.int r2), .val (.int s2), .val (.int r3), .val (.int s3), .val (.ref b53), .val (.int ((0 : Int32) ||| r1)), .val (.int ((0 : Int32) ||| s1)), .val (.int (((0 : Int32) ||| r1) ||| r2)), .val (.int (((0 : Int32) ||| s1) ||| s2)), .val (.int ((((0 : Int32) ||| r1) ||| r2) ||| r3)), .val (.int ((((0 : Int32) ||| s1) ||| s2) ||| s3)), .val (.int (1 : Int32)), .unset, .unset] [(.int (((0 : Int32) ||| s1) ||| s2))])) _
      refine XS.iconst X76.here hx rfl (hb hby at_201) ?_
      show Steps p.tables e below (T76.setTop (mkF m 202 #[.val (.int p0), .val (.int r1), .val (.int s1), .val (.int r2), .val (.int s2), .val (.int r3), .val (.int s3), .val (.ref b53), .val (.int ((0 : Int32) ||| r1)), .val (.int ((0 : Int32) ||| s1)), .val (.int (((0 : Int32) ||| r1) ||| r2)), .val (.int (((0 : Int32) ||| s1) ||| s2)), .val (.int ((((0 : Int32) ||| r1) ||| r2) ||| r3)), .val (.int ((((0 : Int32) ||| s1) ||| s2) ||| s3)), .val (.int (1 : Int32)), .unset, .unset] [(.int (1 : Int32)), (.int (((0 : Int32) ||| s1) ||| s2))])) _
      refine XS.goto X76.here hx rfl (pc0 := 202) (pc' := 206) rfl (hb hby at_202) (by decide) (by decide) ?_
      rw [h_f2, if_neg hm193] at kt
      exact kt
  refine own_go (S' := T76.setTop (mkF m 219 #[.val (.int p0), .val (.int r1), .val (.int s1), .val (.int r2), .val (.int s2), .val (.int r3), .val (.int s3), .val (.ref b53), .val (.int ((0 : Int32) ||| r1)), .val (.int ((0 : Int32) ||| s1)), .val (.int (((0 : Int32) ||| r1) ||| r2)), .val (.int (((0 : Int32) ||| s1) ||| s2)), .val (.int ((((0 : Int32) ||| r1) ||| r2) ||| r3)), .val (.int ((((0 : Int32) ||| s1) ||| s2) ||| s3)), .val (.int (1 : Int32)), .val (.int (1 : Int32)), .unset] [(.int r1), (.int ((((0 : Int32) ||| r1) ||| r2) ||| r3))])) (fun target kt => ?_) ?_
  · skip
    show Steps p.tables e below (T76.setTop (mkF m 206 #[.val (.int p0), .val (.int r1), .val (.int s1), .val (.int r2), .val (.int s2), .val (.int r3), .val (.int s3), .val (.ref b53), .val (.int ((0 : Int32) ||| r1)), .val (.int ((0 : Int32) ||| s1)), .val (.int (((0 : Int32) ||| r1) ||| r2)), .val (.int (((0 : Int32) ||| s1) ||| s2)), .val (.int ((((0 : Int32) ||| r1) ||| r2) ||| r3)), .val (.int ((((0 : Int32) ||| s1) ||| s2) ||| s3)), .val (.int (1 : Int32)), .unset, .unset] [(.int f2), (.int (((0 : Int32) ||| s1) ||| s2))])) _
    refine XS.icmpNo X76.here hx rfl (hb hby at_206) rfl (teq (own_e2 bs1 bs2 h_f2 : (((0 : Int32) ||| s1) ||| s2) = f2)).2 ?_
    show Steps p.tables e below (T76.setTop (mkF m 209 #[.val (.int p0), .val (.int r1), .val (.int s1), .val (.int r2), .val (.int s2), .val (.int r3), .val (.int s3), .val (.ref b53), .val (.int ((0 : Int32) ||| r1)), .val (.int ((0 : Int32) ||| s1)), .val (.int (((0 : Int32) ||| r1) ||| r2)), .val (.int (((0 : Int32) ||| s1) ||| s2)), .val (.int ((((0 : Int32) ||| r1) ||| r2) ||| r3)), .val (.int ((((0 : Int32) ||| s1) ||| s2) ||| s3)), .val (.int (1 : Int32)), .unset, .unset] [])) _
    refine XS.iconst X76.here hx rfl (hb hby at_209) ?_
    show Steps p.tables e below (T76.setTop (mkF m 210 #[.val (.int p0), .val (.int r1), .val (.int s1), .val (.int r2), .val (.int s2), .val (.int r3), .val (.int s3), .val (.ref b53), .val (.int ((0 : Int32) ||| r1)), .val (.int ((0 : Int32) ||| s1)), .val (.int (((0 : Int32) ||| r1) ||| r2)), .val (.int (((0 : Int32) ||| s1) ||| s2)), .val (.int ((((0 : Int32) ||| r1) ||| r2) ||| r3)), .val (.int ((((0 : Int32) ||| s1) ||| s2) ||| s3)), .val (.int (1 : Int32)), .unset, .unset] [(.int (1 : Int32))])) _
    refine XS.goto X76.here hx rfl (pc0 := 210) (pc' := 214) rfl (hb hby at_210) (by decide) (by decide) ?_
    show Steps p.tables e below (T76.setTop (mkF m 214 #[.val (.int p0), .val (.int r1), .val (.int s1), .val (.int r2), .val (.int s2), .val (.int r3), .val (.int s3), .val (.ref b53), .val (.int ((0 : Int32) ||| r1)), .val (.int ((0 : Int32) ||| s1)), .val (.int (((0 : Int32) ||| r1) ||| r2)), .val (.int (((0 : Int32) ||| s1) ||| s2)), .val (.int ((((0 : Int32) ||| r1) ||| r2) ||| r3)), .val (.int ((((0 : Int32) ||| s1) ||| s2) ||| s3)), .val (.int (1 : Int32)), .unset, .unset] [(.int (1 : Int32))])) _
    refine XS.istore X76.here hx rfl (hb hby at_214) rfl (l' := #[.val (.int p0), .val (.int r1), .val (.int s1), .val (.int r2), .val (.int s2), .val (.int r3), .val (.int s3), .val (.ref b53), .val (.int ((0 : Int32) ||| r1)), .val (.int ((0 : Int32) ||| s1)), .val (.int (((0 : Int32) ||| r1) ||| r2)), .val (.int (((0 : Int32) ||| s1) ||| s2)), .val (.int ((((0 : Int32) ||| r1) ||| r2) ||| r3)), .val (.int ((((0 : Int32) ||| s1) ||| s2) ||| s3)), .val (.int (1 : Int32)), .val (.int (1 : Int32)), .unset]) rfl ?_
    show Steps p.tables e below (T76.setTop (mkF m 216 #[.val (.int p0), .val (.int r1), .val (.int s1), .val (.int r2), .val (.int s2), .val (.int r3), .val (.int s3), .val (.ref b53), .val (.int ((0 : Int32) ||| r1)), .val (.int ((0 : Int32) ||| s1)), .val (.int (((0 : Int32) ||| r1) ||| r2)), .val (.int (((0 : Int32) ||| s1) ||| s2)), .val (.int ((((0 : Int32) ||| r1) ||| r2) ||| r3)), .val (.int ((((0 : Int32) ||| s1) ||| s2) ||| s3)), .val (.int (1 : Int32)), .val (.int (1 : Int32)), .unset] [])) _
    refine XS.iload X76.here hx rfl (hb hby at_216) rfl ?_
    show Steps p.tables e below (T76.setTop (mkF m 218 #[.val (.int p0), .val (.int r1), .val (.int s1), .val (.int r2), .val (.int s2), .val (.int r3), .val (.int s3), .val (.ref b53), .val (.int ((0 : Int32) ||| r1)), .val (.int ((0 : Int32) ||| s1)), .val (.int (((0 : Int32) ||| r1) ||| r2)), .val (.int (((0 : Int32) ||| s1) ||| s2)), .val (.int ((((0 : Int32) ||| r1) ||| r2) ||| r3)), .val (.int ((((0 : Int32) ||| s1) ||| s2) ||| s3)), .val (.int (1 : Int32)), .val (.int (1 : Int32)), .unset] [(.int ((((0 : Int32) ||| r1) ||| r2) ||| r3))])) _
    refine XS.iloadN X76.here hx rfl (hb hby at_218) rfl ?_
    exact kt
  obtain ⟨e3, h_e3⟩ : ∃ z : Int32, z = (if r1 = (0 : Int32) then (if r2 = (0 : Int32) then (if r3 = (0 : Int32) then (0 : Int32) else (1 : Int32)) else (1 : Int32)) else (1 : Int32)) := ⟨_, rfl⟩
  refine own_go (S' := T76.setTop (mkF m 236 #[.val (.int p0), .val (.int r1), .val (.int s1), .val (.int r2), .val (.int s2), .val (.int r3), .val (.int s3), .val (.ref b53), .val (.int ((0 : Int32) ||| r1)), .val (.int ((0 : Int32) ||| s1)), .val (.int (((0 : Int32) ||| r1) ||| r2)), .val (.int (((0 : Int32) ||| s1) ||| s2)), .val (.int ((((0 : Int32) ||| r1) ||| r2) ||| r3)), .val (.int ((((0 : Int32) ||| s1) ||| s2) ||| s3)), .val (.int (1 : Int32)), .val (.int (1 : Int32)), .unset] [(.int e3), (.int ((((0 : Int32) ||| r1) ||| r2) ||| r3))])) (fun target kt => ?_) ?_
  · skip
    by_cases hm219 : r1 = (0 : Int32)
    · skip
      show Steps p.tables e below (T76.setTop (mkF m 219 #[.val (.int p0), .val (.int r1), .val (.int s1), .val (.int r2), .val (.int s2), .val (.int r3), .val (.int s3), .val (.ref b53), .val (.int ((0 : Int32) ||| r1)), .val (.int ((0 : Int32) ||| s1)), .val (.int (((0 : Int32) ||| r1) ||| r2)), .val (.int (((0 : Int32) ||| s1) ||| s2)), .val (.int ((((0 : Int32) ||| r1) ||| r2) ||| r3)), .val (.int ((((0 : Int32) ||| s1) ||| s2) ||| s3)), .val (.int (1 : Int32)), .val (.int (1 : Int32)), .unset] [(.int r1), (.int ((((0 : Int32) ||| r1) ||| r2) ||| r3))])) _
      refine XS.ifNo X76.here hx rfl (hb hby at_219) rfl ((if0 _ _).trans (teq hm219).2) ?_
      show Steps p.tables e below (T76.setTop (mkF m 222 #[.val (.int p0), .val (.int r1), .val (.int s1), .val (.int r2), .val (.int s2), .val (.int r3), .val (.int s3), .val (.ref b53), .val (.int ((0 : Int32) ||| r1)), .val (.int ((0 : Int32) ||| s1)), .val (.int (((0 : Int32) ||| r1) ||| r2)), .val (.int (((0 : Int32) ||| s1) ||| s2)), .val (.int ((((0 : Int32) ||| r1) ||| r2) ||| r3)), .val (.int ((((0 : Int32) ||| s1) ||| s2) ||| s3)), .val (.int (1 : Int32)), .val (.int (1 : Int32)), .unset] [(.int ((((0 : Int32) ||| r1) ||| r2) ||| r3))])) _
      refine XS.iloadN X76.here hx rfl (hb hby at_222) rfl ?_
      by_cases hm223 : r2 = (0 : Int32)
      · skip
        show Steps p.tables e below (T76.setTop (mkF m 223 #[.val (.int p0), .val (.int r1), .val (.int s1), .val (.int r2), .val (.int s2), .val (.int r3), .val (.int s3), .val (.ref b53), .val (.int ((0 : Int32) ||| r1)), .val (.int ((0 : Int32) ||| s1)), .val (.int (((0 : Int32) ||| r1) ||| r2)), .val (.int (((0 : Int32) ||| s1) ||| s2)), .val (.int ((((0 : Int32) ||| r1) ||| r2) ||| r3)), .val (.int ((((0 : Int32) ||| s1) ||| s2) ||| s3)), .val (.int (1 : Int32)), .val (.int (1 : Int32)), .unset] [(.int r2), (.int ((((0 : Int32) ||| r1) ||| r2) ||| r3))])) _
        refine XS.ifNo X76.here hx rfl (hb hby at_223) rfl ((if0 _ _).trans (teq hm223).2) ?_
        show Steps p.tables e below (T76.setTop (mkF m 226 #[.val (.int p0), .val (.int r1), .val (.int s1), .val (.int r2), .val (.int s2), .val (.int r3), .val (.int s3), .val (.ref b53), .val (.int ((0 : Int32) ||| r1)), .val (.int ((0 : Int32) ||| s1)), .val (.int (((0 : Int32) ||| r1) ||| r2)), .val (.int (((0 : Int32) ||| s1) ||| s2)), .val (.int ((((0 : Int32) ||| r1) ||| r2) ||| r3)), .val (.int ((((0 : Int32) ||| s1) ||| s2) ||| s3)), .val (.int (1 : Int32)), .val (.int (1 : Int32)), .unset] [(.int ((((0 : Int32) ||| r1) ||| r2) ||| r3))])) _
        refine XS.iload X76.here hx rfl (hb hby at_226) rfl ?_
        by_cases hm228 : r3 = (0 : Int32)
        · skip
          show Steps p.tables e below (T76.setTop (mkF m 228 #[.val (.int p0), .val (.int r1), .val (.int s1), .val (.int r2), .val (.int s2), .val (.int r3), .val (.int s3), .val (.ref b53), .val (.int ((0 : Int32) ||| r1)), .val (.int ((0 : Int32) ||| s1)), .val (.int (((0 : Int32) ||| r1) ||| r2)), .val (.int (((0 : Int32) ||| s1) ||| s2)), .val (.int ((((0 : Int32) ||| r1) ||| r2) ||| r3)), .val (.int ((((0 : Int32) ||| s1) ||| s2) ||| s3)), .val (.int (1 : Int32)), .val (.int (1 : Int32)), .unset] [(.int r3), (.int ((((0 : Int32) ||| r1) ||| r2) ||| r3))])) _
          refine XS.ifYes X76.here hx rfl (pc0 := 228) (pc' := 235) rfl (hb hby at_228) rfl ((if0 _ _).trans (teq hm228).1) (by decide) (by decide) ?_
          show Steps p.tables e below (T76.setTop (mkF m 235 #[.val (.int p0), .val (.int r1), .val (.int s1), .val (.int r2), .val (.int s2), .val (.int r3), .val (.int s3), .val (.ref b53), .val (.int ((0 : Int32) ||| r1)), .val (.int ((0 : Int32) ||| s1)), .val (.int (((0 : Int32) ||| r1) ||| r2)), .val (.int (((0 : Int32) ||| s1) ||| s2)), .val (.int ((((0 : Int32) ||| r1) ||| r2) ||| r3)), .val (.int ((((0 : Int32) ||| s1) ||| s2) ||| s3)), .val (.int (1 : Int32)), .val (.int (1 : Int32)), .unset] [(.int ((((0 : Int32) ||| r1) ||| r2) ||| r3))])) _
          refine XS.iconst X76.here hx rfl (hb hby at_235) ?_
          rw [h_e3, if_pos hm219, if_pos hm223, if_pos hm228] at kt
          exact kt
        · skip
          show Steps p.tables e below (T76.setTop (mkF m 228 #[.val (.int p0), .val (.int r1), .val (.int s1), .val (.int r2), .val (.int s2), .val (.int r3), .val (.int s3), .val (.ref b53), .val (.int ((0 : Int32) ||| r1)), .val (.int ((0 : Int32) ||| s1)), .val (.int (((0 : Int32) ||| r1) ||| r2)), .val (.int (((0 : Int32) ||| s1) ||| s2)), .val (.int ((((0 : Int32) ||| r1) ||| r2) ||| r3)), .val (.int ((((0 : Int32) ||| s1) ||| s2) ||| s3)), .val (.int (1 : Int32)), .val (.int (1 : Int32)), .unset] [(.int r3), (.int ((((0 : Int32) ||| r1) ||| r2) ||| r3))])) _
          refine XS.ifNo X76.here hx rfl (hb hby at_228) rfl ((if0 _ _).trans (feq hm228).1) ?_
          show Steps p.tables e below (T76.setTop (mkF m 231 #[.val (.int p0), .val (.int r1), .val (.int s1), .val (.int r2), .val (.int s2), .val (.int r3), .val (.int s3), .val (.ref b53), .val (.int ((0 : Int32) ||| r1)), .val (.int ((0 : Int32) ||| s1)), .val (.int (((0 : Int32) ||| r1) ||| r2)), .val (.int (((0 : Int32) ||| s1) ||| s2)), .val (.int ((((0 : Int32) ||| r1) ||| r2) ||| r3)), .val (.int ((((0 : Int32) ||| s1) ||| s2) ||| s3)), .val (.int (1 : Int32)), .val (.int (1 : Int32)), .unset] [(.int ((((0 : Int32) ||| r1) ||| r2) ||| r3))])) _
          refine XS.iconst X76.here hx rfl (hb hby at_231) ?_
          show Steps p.tables e below (T76.setTop (mkF m 232 #[.val (.int p0), .val (.int r1), .val (.int s1), .val (.int r2), .val (.int s2), .val (.int r3), .val (.int s3), .val (.ref b53), .val (.int ((0 : Int32) ||| r1)), .val (.int ((0 : Int32) ||| s1)), .val (.int (((0 : Int32) ||| r1) ||| r2)), .val (.int (((0 : Int32) ||| s1) ||| s2)), .val (.int ((((0 : Int32) ||| r1) ||| r2) ||| r3)), .val (.int ((((0 : Int32) ||| s1) ||| s2) ||| s3)), .val (.int (1 : Int32)), .val (.int (1 : Int32)), .unset] [(.int (1 : Int32)), (.int ((((0 : Int32) ||| r1) ||| r2) ||| r3))])) _
          refine XS.goto X76.here hx rfl (pc0 := 232) (pc' := 236) rfl (hb hby at_232) (by decide) (by decide) ?_
          rw [h_e3, if_pos hm219, if_pos hm223, if_neg hm228] at kt
          exact kt
      · skip
        show Steps p.tables e below (T76.setTop (mkF m 223 #[.val (.int p0), .val (.int r1), .val (.int s1), .val (.int r2), .val (.int s2), .val (.int r3), .val (.int s3), .val (.ref b53), .val (.int ((0 : Int32) ||| r1)), .val (.int ((0 : Int32) ||| s1)), .val (.int (((0 : Int32) ||| r1) ||| r2)), .val (.int (((0 : Int32) ||| s1) ||| s2)), .val (.int ((((0 : Int32) ||| r1) ||| r2) ||| r3)), .val (.int ((((0 : Int32) ||| s1) ||| s2) ||| s3)), .val (.int (1 : Int32)), .val (.int (1 : Int32)), .unset] [(.int r2), (.int ((((0 : Int32) ||| r1) ||| r2) ||| r3))])) _
        refine XS.ifYes X76.here hx rfl (pc0 := 223) (pc' := 231) rfl (hb hby at_223) rfl ((if0 _ _).trans (feq hm223).2) (by decide) (by decide) ?_
        show Steps p.tables e below (T76.setTop (mkF m 231 #[.val (.int p0), .val (.int r1), .val (.int s1), .val (.int r2), .val (.int s2), .val (.int r3), .val (.int s3), .val (.ref b53), .val (.int ((0 : Int32) ||| r1)), .val (.int ((0 : Int32) ||| s1)), .val (.int (((0 : Int32) ||| r1) ||| r2)), .val (.int (((0 : Int32) ||| s1) ||| s2)), .val (.int ((((0 : Int32) ||| r1) ||| r2) ||| r3)), .val (.int ((((0 : Int32) ||| s1) ||| s2) ||| s3)), .val (.int (1 : Int32)), .val (.int (1 : Int32)), .unset] [(.int ((((0 : Int32) ||| r1) ||| r2) ||| r3))])) _
        refine XS.iconst X76.here hx rfl (hb hby at_231) ?_
        show Steps p.tables e below (T76.setTop (mkF m 232 #[.val (.int p0), .val (.int r1), .val (.int s1), .val (.int r2), .val (.int s2), .val (.int r3), .val (.int s3), .val (.ref b53), .val (.int ((0 : Int32) ||| r1)), .val (.int ((0 : Int32) ||| s1)), .val (.int (((0 : Int32) ||| r1) ||| r2)), .val (.int (((0 : Int32) ||| s1) ||| s2)), .val (.int ((((0 : Int32) ||| r1) ||| r2) ||| r3)), .val (.int ((((0 : Int32) ||| s1) ||| s2) ||| s3)), .val (.int (1 : Int32)), .val (.int (1 : Int32)), .unset] [(.int (1 : Int32)), (.int ((((0 : Int32) ||| r1) ||| r2) ||| r3))])) _
        refine XS.goto X76.here hx rfl (pc0 := 232) (pc' := 236) rfl (hb hby at_232) (by decide) (by decide) ?_
        rw [h_e3, if_pos hm219, if_neg hm223] at kt
        exact kt
    · skip
      show Steps p.tables e below (T76.setTop (mkF m 219 #[.val (.int p0), .val (.int r1), .val (.int s1), .val (.int r2), .val (.int s2), .val (.int r3), .val (.int s3), .val (.ref b53), .val (.int ((0 : Int32) ||| r1)), .val (.int ((0 : Int32) ||| s1)), .val (.int (((0 : Int32) ||| r1) ||| r2)), .val (.int (((0 : Int32) ||| s1) ||| s2)), .val (.int ((((0 : Int32) ||| r1) ||| r2) ||| r3)), .val (.int ((((0 : Int32) ||| s1) ||| s2) ||| s3)), .val (.int (1 : Int32)), .val (.int (1 : Int32)), .unset] [(.int r1), (.int ((((0 : Int32) ||| r1) ||| r2) ||| r3))])) _
      refine XS.ifYes X76.here hx rfl (pc0 := 219) (pc' := 231) rfl (hb hby at_219) rfl ((if0 _ _).trans (feq hm219).2) (by decide) (by decide) ?_
      show Steps p.tables e below (T76.setTop (mkF m 231 #[.val (.int p0), .val (.int r1), .val (.int s1), .val (.int r2), .val (.int s2), .val (.int r3), .val (.int s3), .val (.ref b53), .val (.int ((0 : Int32) ||| r1)), .val (.int ((0 : Int32) ||| s1)), .val (.int (((0 : Int32) ||| r1) ||| r2)), .val (.int (((0 : Int32) ||| s1) ||| s2)), .val (.int ((((0 : Int32) ||| r1) ||| r2) ||| r3)), .val (.int ((((0 : Int32) ||| s1) ||| s2) ||| s3)), .val (.int (1 : Int32)), .val (.int (1 : Int32)), .unset] [(.int ((((0 : Int32) ||| r1) ||| r2) ||| r3))])) _
      refine XS.iconst X76.here hx rfl (hb hby at_231) ?_
      show Steps p.tables e below (T76.setTop (mkF m 232 #[.val (.int p0), .val (.int r1), .val (.int s1), .val (.int r2), .val (.int s2), .val (.int r3), .val (.int s3), .val (.ref b53), .val (.int ((0 : Int32) ||| r1)), .val (.int ((0 : Int32) ||| s1)), .val (.int (((0 : Int32) ||| r1) ||| r2)), .val (.int (((0 : Int32) ||| s1) ||| s2)), .val (.int ((((0 : Int32) ||| r1) ||| r2) ||| r3)), .val (.int ((((0 : Int32) ||| s1) ||| s2) ||| s3)), .val (.int (1 : Int32)), .val (.int (1 : Int32)), .unset] [(.int (1 : Int32)), (.int ((((0 : Int32) ||| r1) ||| r2) ||| r3))])) _
      refine XS.goto X76.here hx rfl (pc0 := 232) (pc' := 236) rfl (hb hby at_232) (by decide) (by decide) ?_
      rw [h_e3, if_neg hm219] at kt
      exact kt
  refine own_go (S' := T76.setTop (mkF m 242 #[.val (.int p0), .val (.int r1), .val (.int s1), .val (.int r2), .val (.int s2), .val (.int r3), .val (.int s3), .val (.ref b53), .val (.int ((0 : Int32) ||| r1)), .val (.int ((0 : Int32) ||| s1)), .val (.int (((0 : Int32) ||| r1) ||| r2)), .val (.int (((0 : Int32) ||| s1) ||| s2)), .val (.int ((((0 : Int32) ||| r1) ||| r2) ||| r3)), .val (.int ((((0 : Int32) ||| s1) ||| s2) ||| s3)), .val (.int (1 : Int32)), .val (.int (1 : Int32)), .unset] [(.int s1), (.int ((((0 : Int32) ||| s1) ||| s2) ||| s3))])) (fun target kt => ?_) ?_
  · skip
    show Steps p.tables e below (T76.setTop (mkF m 236 #[.val (.int p0), .val (.int r1), .val (.int s1), .val (.int r2), .val (.int s2), .val (.int r3), .val (.int s3), .val (.ref b53), .val (.int ((0 : Int32) ||| r1)), .val (.int ((0 : Int32) ||| s1)), .val (.int (((0 : Int32) ||| r1) ||| r2)), .val (.int (((0 : Int32) ||| s1) ||| s2)), .val (.int ((((0 : Int32) ||| r1) ||| r2) ||| r3)), .val (.int ((((0 : Int32) ||| s1) ||| s2) ||| s3)), .val (.int (1 : Int32)), .val (.int (1 : Int32)), .unset] [(.int e3), (.int ((((0 : Int32) ||| r1) ||| r2) ||| r3))])) _
    refine XS.icmpNo X76.here hx rfl (hb hby at_236) rfl (teq (own_e3 br1 br2 br3 h_e3 : ((((0 : Int32) ||| r1) ||| r2) ||| r3) = e3)).2 ?_
    show Steps p.tables e below (T76.setTop (mkF m 239 #[.val (.int p0), .val (.int r1), .val (.int s1), .val (.int r2), .val (.int s2), .val (.int r3), .val (.int s3), .val (.ref b53), .val (.int ((0 : Int32) ||| r1)), .val (.int ((0 : Int32) ||| s1)), .val (.int (((0 : Int32) ||| r1) ||| r2)), .val (.int (((0 : Int32) ||| s1) ||| s2)), .val (.int ((((0 : Int32) ||| r1) ||| r2) ||| r3)), .val (.int ((((0 : Int32) ||| s1) ||| s2) ||| s3)), .val (.int (1 : Int32)), .val (.int (1 : Int32)), .unset] [])) _
    refine XS.iload X76.here hx rfl (hb hby at_239) rfl ?_
    show Steps p.tables e below (T76.setTop (mkF m 241 #[.val (.int p0), .val (.int r1), .val (.int s1), .val (.int r2), .val (.int s2), .val (.int r3), .val (.int s3), .val (.ref b53), .val (.int ((0 : Int32) ||| r1)), .val (.int ((0 : Int32) ||| s1)), .val (.int (((0 : Int32) ||| r1) ||| r2)), .val (.int (((0 : Int32) ||| s1) ||| s2)), .val (.int ((((0 : Int32) ||| r1) ||| r2) ||| r3)), .val (.int ((((0 : Int32) ||| s1) ||| s2) ||| s3)), .val (.int (1 : Int32)), .val (.int (1 : Int32)), .unset] [(.int ((((0 : Int32) ||| s1) ||| s2) ||| s3))])) _
    refine XS.iloadN X76.here hx rfl (hb hby at_241) rfl ?_
    exact kt
  obtain ⟨f3, h_f3⟩ : ∃ z : Int32, z = (if s1 = (0 : Int32) then (if s2 = (0 : Int32) then (if s3 = (0 : Int32) then (0 : Int32) else (1 : Int32)) else (1 : Int32)) else (1 : Int32)) := ⟨_, rfl⟩
  refine own_go (S' := T76.setTop (mkF m 260 #[.val (.int p0), .val (.int r1), .val (.int s1), .val (.int r2), .val (.int s2), .val (.int r3), .val (.int s3), .val (.ref b53), .val (.int ((0 : Int32) ||| r1)), .val (.int ((0 : Int32) ||| s1)), .val (.int (((0 : Int32) ||| r1) ||| r2)), .val (.int (((0 : Int32) ||| s1) ||| s2)), .val (.int ((((0 : Int32) ||| r1) ||| r2) ||| r3)), .val (.int ((((0 : Int32) ||| s1) ||| s2) ||| s3)), .val (.int (1 : Int32)), .val (.int (1 : Int32)), .unset] [(.int f3), (.int ((((0 : Int32) ||| s1) ||| s2) ||| s3))])) (fun target kt => ?_) ?_
  · skip
    by_cases hm242 : s1 = (0 : Int32)
    · skip
      show Steps p.tables e below (T76.setTop (mkF m 242 #[.val (.int p0), .val (.int r1), .val (.int s1), .val (.int r2), .val (.int s2), .val (.int r3), .val (.int s3), .val (.ref b53), .val (.int ((0 : Int32) ||| r1)), .val (.int ((0 : Int32) ||| s1)), .val (.int (((0 : Int32) ||| r1) ||| r2)), .val (.int (((0 : Int32) ||| s1) ||| s2)), .val (.int ((((0 : Int32) ||| r1) ||| r2) ||| r3)), .val (.int ((((0 : Int32) ||| s1) ||| s2) ||| s3)), .val (.int (1 : Int32)), .val (.int (1 : Int32)), .unset] [(.int s1), (.int ((((0 : Int32) ||| s1) ||| s2) ||| s3))])) _
      refine XS.ifNo X76.here hx rfl (hb hby at_242) rfl ((if0 _ _).trans (teq hm242).2) ?_
      show Steps p.tables e below (T76.setTop (mkF m 245 #[.val (.int p0), .val (.int r1), .val (.int s1), .val (.int r2), .val (.int s2), .val (.int r3), .val (.int s3), .val (.ref b53), .val (.int ((0 : Int32) ||| r1)), .val (.int ((0 : Int32) ||| s1)), .val (.int (((0 : Int32) ||| r1) ||| r2)), .val (.int (((0 : Int32) ||| s1) ||| s2)), .val (.int ((((0 : Int32) ||| r1) ||| r2) ||| r3)), .val (.int ((((0 : Int32) ||| s1) ||| s2) ||| s3)), .val (.int (1 : Int32)), .val (.int (1 : Int32)), .unset] [(.int ((((0 : Int32) ||| s1) ||| s2) ||| s3))])) _
      refine XS.iload X76.here hx rfl (hb hby at_245) rfl ?_
      by_cases hm247 : s2 = (0 : Int32)
      · skip
        show Steps p.tables e below (T76.setTop (mkF m 247 #[.val (.int p0), .val (.int r1), .val (.int s1), .val (.int r2), .val (.int s2), .val (.int r3), .val (.int s3), .val (.ref b53), .val (.int ((0 : Int32) ||| r1)), .val (.int ((0 : Int32) ||| s1)), .val (.int (((0 : Int32) ||| r1) ||| r2)), .val (.int (((0 : Int32) ||| s1) ||| s2)), .val (.int ((((0 : Int32) ||| r1) ||| r2) ||| r3)), .val (.int ((((0 : Int32) ||| s1) ||| s2) ||| s3)), .val (.int (1 : Int32)), .val (.int (1 : Int32)), .unset] [(.int s2), (.int ((((0 : Int32) ||| s1) ||| s2) ||| s3))])) _
        refine XS.ifNo X76.here hx rfl (hb hby at_247) rfl ((if0 _ _).trans (teq hm247).2) ?_
        show Steps p.tables e below (T76.setTop (mkF m 250 #[.val (.int p0), .val (.int r1), .val (.int s1), .val (.int r2), .val (.int s2), .val (.int r3), .val (.int s3), .val (.ref b53), .val (.int ((0 : Int32) ||| r1)), .val (.int ((0 : Int32) ||| s1)), .val (.int (((0 : Int32) ||| r1) ||| r2)), .val (.int (((0 : Int32) ||| s1) ||| s2)), .val (.int ((((0 : Int32) ||| r1) ||| r2) ||| r3)), .val (.int ((((0 : Int32) ||| s1) ||| s2) ||| s3)), .val (.int (1 : Int32)), .val (.int (1 : Int32)), .unset] [(.int ((((0 : Int32) ||| s1) ||| s2) ||| s3))])) _
        refine XS.iload X76.here hx rfl (hb hby at_250) rfl ?_
        by_cases hm252 : s3 = (0 : Int32)
        · skip
          show Steps p.tables e below (T76.setTop (mkF m 252 #[.val (.int p0), .val (.int r1), .val (.int s1), .val (.int r2), .val (.int s2), .val (.int r3), .val (.int s3), .val (.ref b53), .val (.int ((0 : Int32) ||| r1)), .val (.int ((0 : Int32) ||| s1)), .val (.int (((0 : Int32) ||| r1) ||| r2)), .val (.int (((0 : Int32) ||| s1) ||| s2)), .val (.int ((((0 : Int32) ||| r1) ||| r2) ||| r3)), .val (.int ((((0 : Int32) ||| s1) ||| s2) ||| s3)), .val (.int (1 : Int32)), .val (.int (1 : Int32)), .unset] [(.int s3), (.int ((((0 : Int32) ||| s1) ||| s2) ||| s3))])) _
          refine XS.ifYes X76.here hx rfl (pc0 := 252) (pc' := 259) rfl (hb hby at_252) rfl ((if0 _ _).trans (teq hm252).1) (by decide) (by decide) ?_
          show Steps p.tables e below (T76.setTop (mkF m 259 #[.val (.int p0), .val (.int r1), .val (.int s1), .val (.int r2), .val (.int s2), .val (.int r3), .val (.int s3), .val (.ref b53), .val (.int ((0 : Int32) ||| r1)), .val (.int ((0 : Int32) ||| s1)), .val (.int (((0 : Int32) ||| r1) ||| r2)), .val (.int (((0 : Int32) ||| s1) ||| s2)), .val (.int ((((0 : Int32) ||| r1) ||| r2) ||| r3)), .val (.int ((((0 : Int32) ||| s1) ||| s2) ||| s3)), .val (.int (1 : Int32)), .val (.int (1 : Int32)), .unset] [(.int ((((0 : Int32) ||| s1) ||| s2) ||| s3))])) _
          refine XS.iconst X76.here hx rfl (hb hby at_259) ?_
          rw [h_f3, if_pos hm242, if_pos hm247, if_pos hm252] at kt
          exact kt
        · skip
          show Steps p.tables e below (T76.setTop (mkF m 252 #[.val (.int p0), .val (.int r1), .val (.int s1), .val (.int r2), .val (.int s2), .val (.int r3), .val (.int s3), .val (.ref b53), .val (.int ((0 : Int32) ||| r1)), .val (.int ((0 : Int32) ||| s1)), .val (.int (((0 : Int32) ||| r1) ||| r2)), .val (.int (((0 : Int32) ||| s1) ||| s2)), .val (.int ((((0 : Int32) ||| r1) ||| r2) ||| r3)), .val (.int ((((0 : Int32) ||| s1) ||| s2) ||| s3)), .val (.int (1 : Int32)), .val (.int (1 : Int32)), .unset] [(.int s3), (.int ((((0 : Int32) ||| s1) ||| s2) ||| s3))])) _
          refine XS.ifNo X76.here hx rfl (hb hby at_252) rfl ((if0 _ _).trans (feq hm252).1) ?_
          show Steps p.tables e below (T76.setTop (mkF m 255 #[.val (.int p0), .val (.int r1), .val (.int s1), .val (.int r2), .val (.int s2), .val (.int r3), .val (.int s3), .val (.ref b53), .val (.int ((0 : Int32) ||| r1)), .val (.int ((0 : Int32) ||| s1)), .val (.int (((0 : Int32) ||| r1) ||| r2)), .val (.int (((0 : Int32) ||| s1) ||| s2)), .val (.int ((((0 : Int32) ||| r1) ||| r2) ||| r3)), .val (.int ((((0 : Int32) ||| s1) ||| s2) ||| s3)), .val (.int (1 : Int32)), .val (.int (1 : Int32)), .unset] [(.int ((((0 : Int32) ||| s1) ||| s2) ||| s3))])) _
          refine XS.iconst X76.here hx rfl (hb hby at_255) ?_
          show Steps p.tables e below (T76.setTop (mkF m 256 #[.val (.int p0), .val (.int r1), .val (.int s1), .val (.int r2), .val (.int s2), .val (.int r3), .val (.int s3), .val (.ref b53), .val (.int ((0 : Int32) ||| r1)), .val (.int ((0 : Int32) ||| s1)), .val (.int (((0 : Int32) ||| r1) ||| r2)), .val (.int (((0 : Int32) ||| s1) ||| s2)), .val (.int ((((0 : Int32) ||| r1) ||| r2) ||| r3)), .val (.int ((((0 : Int32) ||| s1) ||| s2) ||| s3)), .val (.int (1 : Int32)), .val (.int (1 : Int32)), .unset] [(.int (1 : Int32)), (.int ((((0 : Int32) ||| s1) ||| s2) ||| s3))])) _
          refine XS.goto X76.here hx rfl (pc0 := 256) (pc' := 260) rfl (hb hby at_256) (by decide) (by decide) ?_
          rw [h_f3, if_pos hm242, if_pos hm247, if_neg hm252] at kt
          exact kt
      · skip
        show Steps p.tables e below (T76.setTop (mkF m 247 #[.val (.int p0), .val (.int r1), .val (.int s1), .val (.int r2), .val (.int s2), .val (.int r3), .val (.int s3), .val (.ref b53), .val (.int ((0 : Int32) ||| r1)), .val (.int ((0 : Int32) ||| s1)), .val (.int (((0 : Int32) ||| r1) ||| r2)), .val (.int (((0 : Int32) ||| s1) ||| s2)), .val (.int ((((0 : Int32) ||| r1) ||| r2) ||| r3)), .val (.int ((((0 : Int32) ||| s1) ||| s2) ||| s3)), .val (.int (1 : Int32)), .val (.int (1 : Int32)), .unset] [(.int s2), (.int ((((0 : Int32) ||| s1) ||| s2) ||| s3))])) _
        refine XS.ifYes X76.here hx rfl (pc0 := 247) (pc' := 255) rfl (hb hby at_247) rfl ((if0 _ _).trans (feq hm247).2) (by decide) (by decide) ?_
        show Steps p.tables e below (T76.setTop (mkF m 255 #[.val (.int p0), .val (.int r1), .val (.int s1), .val (.int r2), .val (.int s2), .val (.int r3), .val (.int s3), .val (.ref b53), .val (.int ((0 : Int32) ||| r1)), .val (.int ((0 : Int32) ||| s1)), .val (.int (((0 : Int32) ||| r1) ||| r2)), .val (.int (((0 : Int32) ||| s1) ||| s2)), .val (.int ((((0 : Int32) ||| r1) ||| r2) ||| r3)), .val (.int ((((0 : Int32) ||| s1) ||| s2) ||| s3)), .val (.int (1 : Int32)), .val (.int (1 : Int32)), .unset] [(.int ((((0 : Int32) ||| s1) ||| s2) ||| s3))])) _
        refine XS.iconst X76.here hx rfl (hb hby at_255) ?_
        show Steps p.tables e below (T76.setTop (mkF m 256 #[.val (.int p0), .val (.int r1), .val (.int s1), .val (.int r2), .val (.int s2), .val (.int r3), .val (.int s3), .val (.ref b53), .val (.int ((0 : Int32) ||| r1)), .val (.int ((0 : Int32) ||| s1)), .val (.int (((0 : Int32) ||| r1) ||| r2)), .val (.int (((0 : Int32) ||| s1) ||| s2)), .val (.int ((((0 : Int32) ||| r1) ||| r2) ||| r3)), .val (.int ((((0 : Int32) ||| s1) ||| s2) ||| s3)), .val (.int (1 : Int32)), .val (.int (1 : Int32)), .unset] [(.int (1 : Int32)), (.int ((((0 : Int32) ||| s1) ||| s2) ||| s3))])) _
        refine XS.goto X76.here hx rfl (pc0 := 256) (pc' := 260) rfl (hb hby at_256) (by decide) (by decide) ?_
        rw [h_f3, if_pos hm242, if_neg hm247] at kt
        exact kt
    · skip
      show Steps p.tables e below (T76.setTop (mkF m 242 #[.val (.int p0), .val (.int r1), .val (.int s1), .val (.int r2), .val (.int s2), .val (.int r3), .val (.int s3), .val (.ref b53), .val (.int ((0 : Int32) ||| r1)), .val (.int ((0 : Int32) ||| s1)), .val (.int (((0 : Int32) ||| r1) ||| r2)), .val (.int (((0 : Int32) ||| s1) ||| s2)), .val (.int ((((0 : Int32) ||| r1) ||| r2) ||| r3)), .val (.int ((((0 : Int32) ||| s1) ||| s2) ||| s3)), .val (.int (1 : Int32)), .val (.int (1 : Int32)), .unset] [(.int s1), (.int ((((0 : Int32) ||| s1) ||| s2) ||| s3))])) _
      refine XS.ifYes X76.here hx rfl (pc0 := 242) (pc' := 255) rfl (hb hby at_242) rfl ((if0 _ _).trans (feq hm242).2) (by decide) (by decide) ?_
      show Steps p.tables e below (T76.setTop (mkF m 255 #[.val (.int p0), .val (.int r1), .val (.int s1), .val (.int r2), .val (.int s2), .val (.int r3), .val (.int s3), .val (.ref b53), .val (.int ((0 : Int32) ||| r1)), .val (.int ((0 : Int32) ||| s1)), .val (.int (((0 : Int32) ||| r1) ||| r2)), .val (.int (((0 : Int32) ||| s1) ||| s2)), .val (.int ((((0 : Int32) ||| r1) ||| r2) ||| r3)), .val (.int ((((0 : Int32) ||| s1) ||| s2) ||| s3)), .val (.int (1 : Int32)), .val (.int (1 : Int32)), .unset] [(.int ((((0 : Int32) ||| s1) ||| s2) ||| s3))])) _
      refine XS.iconst X76.here hx rfl (hb hby at_255) ?_
      show Steps p.tables e below (T76.setTop (mkF m 256 #[.val (.int p0), .val (.int r1), .val (.int s1), .val (.int r2), .val (.int s2), .val (.int r3), .val (.int s3), .val (.ref b53), .val (.int ((0 : Int32) ||| r1)), .val (.int ((0 : Int32) ||| s1)), .val (.int (((0 : Int32) ||| r1) ||| r2)), .val (.int (((0 : Int32) ||| s1) ||| s2)), .val (.int ((((0 : Int32) ||| r1) ||| r2) ||| r3)), .val (.int ((((0 : Int32) ||| s1) ||| s2) ||| s3)), .val (.int (1 : Int32)), .val (.int (1 : Int32)), .unset] [(.int (1 : Int32)), (.int ((((0 : Int32) ||| s1) ||| s2) ||| s3))])) _
      refine XS.goto X76.here hx rfl (pc0 := 256) (pc' := 260) rfl (hb hby at_256) (by decide) (by decide) ?_
      rw [h_f3, if_neg hm242] at kt
      exact kt
  refine own_go (S' := T76.setTop (mkF m 290 #[.val (.int p0), .val (.int r1), .val (.int s1), .val (.int r2), .val (.int s2), .val (.int r3), .val (.int s3), .val (.ref b53), .val (.int ((0 : Int32) ||| r1)), .val (.int ((0 : Int32) ||| s1)), .val (.int (((0 : Int32) ||| r1) ||| r2)), .val (.int (((0 : Int32) ||| s1) ||| s2)), .val (.int ((((0 : Int32) ||| r1) ||| r2) ||| r3)), .val (.int ((((0 : Int32) ||| s1) ||| s2) ||| s3)), .val (.int (1 : Int32)), .val (.int (1 : Int32)), .val (.int (1 : Int32))] [(.int (1 : Int32))])) (fun target kt => ?_) ?_
  · skip
    show Steps p.tables e below (T76.setTop (mkF m 260 #[.val (.int p0), .val (.int r1), .val (.int s1), .val (.int r2), .val (.int s2), .val (.int r3), .val (.int s3), .val (.ref b53), .val (.int ((0 : Int32) ||| r1)), .val (.int ((0 : Int32) ||| s1)), .val (.int (((0 : Int32) ||| r1) ||| r2)), .val (.int (((0 : Int32) ||| s1) ||| s2)), .val (.int ((((0 : Int32) ||| r1) ||| r2) ||| r3)), .val (.int ((((0 : Int32) ||| s1) ||| s2) ||| s3)), .val (.int (1 : Int32)), .val (.int (1 : Int32)), .unset] [(.int f3), (.int ((((0 : Int32) ||| s1) ||| s2) ||| s3))])) _
    refine XS.icmpNo X76.here hx rfl (hb hby at_260) rfl (teq (own_e3 bs1 bs2 bs3 h_f3 : ((((0 : Int32) ||| s1) ||| s2) ||| s3) = f3)).2 ?_
    show Steps p.tables e below (T76.setTop (mkF m 263 #[.val (.int p0), .val (.int r1), .val (.int s1), .val (.int r2), .val (.int s2), .val (.int r3), .val (.int s3), .val (.ref b53), .val (.int ((0 : Int32) ||| r1)), .val (.int ((0 : Int32) ||| s1)), .val (.int (((0 : Int32) ||| r1) ||| r2)), .val (.int (((0 : Int32) ||| s1) ||| s2)), .val (.int ((((0 : Int32) ||| r1) ||| r2) ||| r3)), .val (.int ((((0 : Int32) ||| s1) ||| s2) ||| s3)), .val (.int (1 : Int32)), .val (.int (1 : Int32)), .unset] [])) _
    refine XS.iconst X76.here hx rfl (hb hby at_263) ?_
    show Steps p.tables e below (T76.setTop (mkF m 264 #[.val (.int p0), .val (.int r1), .val (.int s1), .val (.int r2), .val (.int s2), .val (.int r3), .val (.int s3), .val (.ref b53), .val (.int ((0 : Int32) ||| r1)), .val (.int ((0 : Int32) ||| s1)), .val (.int (((0 : Int32) ||| r1) ||| r2)), .val (.int (((0 : Int32) ||| s1) ||| s2)), .val (.int ((((0 : Int32) ||| r1) ||| r2) ||| r3)), .val (.int ((((0 : Int32) ||| s1) ||| s2) ||| s3)), .val (.int (1 : Int32)), .val (.int (1 : Int32)), .unset] [(.int (1 : Int32))])) _
    refine XS.goto X76.here hx rfl (pc0 := 264) (pc' := 268) rfl (hb hby at_264) (by decide) (by decide) ?_
    show Steps p.tables e below (T76.setTop (mkF m 268 #[.val (.int p0), .val (.int r1), .val (.int s1), .val (.int r2), .val (.int s2), .val (.int r3), .val (.int s3), .val (.ref b53), .val (.int ((0 : Int32) ||| r1)), .val (.int ((0 : Int32) ||| s1)), .val (.int (((0 : Int32) ||| r1) ||| r2)), .val (.int (((0 : Int32) ||| s1) ||| s2)), .val (.int ((((0 : Int32) ||| r1) ||| r2) ||| r3)), .val (.int ((((0 : Int32) ||| s1) ||| s2) ||| s3)), .val (.int (1 : Int32)), .val (.int (1 : Int32)), .unset] [(.int (1 : Int32))])) _
    refine XS.istore X76.here hx rfl (hb hby at_268) rfl (l' := #[.val (.int p0), .val (.int r1), .val (.int s1), .val (.int r2), .val (.int s2), .val (.int r3), .val (.int s3), .val (.ref b53), .val (.int ((0 : Int32) ||| r1)), .val (.int ((0 : Int32) ||| s1)), .val (.int (((0 : Int32) ||| r1) ||| r2)), .val (.int (((0 : Int32) ||| s1) ||| s2)), .val (.int ((((0 : Int32) ||| r1) ||| r2) ||| r3)), .val (.int ((((0 : Int32) ||| s1) ||| s2) ||| s3)), .val (.int (1 : Int32)), .val (.int (1 : Int32)), .val (.int (1 : Int32))]) rfl ?_
    show Steps p.tables e below (T76.setTop (mkF m 270 #[.val (.int p0), .val (.int r1), .val (.int s1), .val (.int r2), .val (.int s2), .val (.int r3), .val (.int s3), .val (.ref b53), .val (.int ((0 : Int32) ||| r1)), .val (.int ((0 : Int32) ||| s1)), .val (.int (((0 : Int32) ||| r1) ||| r2)), .val (.int (((0 : Int32) ||| s1) ||| s2)), .val (.int ((((0 : Int32) ||| r1) ||| r2) ||| r3)), .val (.int ((((0 : Int32) ||| s1) ||| s2) ||| s3)), .val (.int (1 : Int32)), .val (.int (1 : Int32)), .val (.int (1 : Int32))] [])) _
    refine XS.iload X76.here hx rfl (hb hby at_270) rfl ?_
    show Steps p.tables e below (T76.setTop (mkF m 272 #[.val (.int p0), .val (.int r1), .val (.int s1), .val (.int r2), .val (.int s2), .val (.int r3), .val (.int s3), .val (.ref b53), .val (.int ((0 : Int32) ||| r1)), .val (.int ((0 : Int32) ||| s1)), .val (.int (((0 : Int32) ||| r1) ||| r2)), .val (.int (((0 : Int32) ||| s1) ||| s2)), .val (.int ((((0 : Int32) ||| r1) ||| r2) ||| r3)), .val (.int ((((0 : Int32) ||| s1) ||| s2) ||| s3)), .val (.int (1 : Int32)), .val (.int (1 : Int32)), .val (.int (1 : Int32))] [(.int (1 : Int32))])) _
    refine XS.ifNo X76.here hx rfl (hb hby at_272) rfl ((if0 _ _).trans (feq (by decide : ¬ ((1 : Int32) = (0 : Int32)))).1) ?_
    show Steps p.tables e below (T76.setTop (mkF m 275 #[.val (.int p0), .val (.int r1), .val (.int s1), .val (.int r2), .val (.int s2), .val (.int r3), .val (.int s3), .val (.ref b53), .val (.int ((0 : Int32) ||| r1)), .val (.int ((0 : Int32) ||| s1)), .val (.int (((0 : Int32) ||| r1) ||| r2)), .val (.int (((0 : Int32) ||| s1) ||| s2)), .val (.int ((((0 : Int32) ||| r1) ||| r2) ||| r3)), .val (.int ((((0 : Int32) ||| s1) ||| s2) ||| s3)), .val (.int (1 : Int32)), .val (.int (1 : Int32)), .val (.int (1 : Int32))] [])) _
    refine XS.iload X76.here hx rfl (hb hby at_275) rfl ?_
    show Steps p.tables e below (T76.setTop (mkF m 277 #[.val (.int p0), .val (.int r1), .val (.int s1), .val (.int r2), .val (.int s2), .val (.int r3), .val (.int s3), .val (.ref b53), .val (.int ((0 : Int32) ||| r1)), .val (.int ((0 : Int32) ||| s1)), .val (.int (((0 : Int32) ||| r1) ||| r2)), .val (.int (((0 : Int32) ||| s1) ||| s2)), .val (.int ((((0 : Int32) ||| r1) ||| r2) ||| r3)), .val (.int ((((0 : Int32) ||| s1) ||| s2) ||| s3)), .val (.int (1 : Int32)), .val (.int (1 : Int32)), .val (.int (1 : Int32))] [(.int (1 : Int32))])) _
    refine XS.ifNo X76.here hx rfl (hb hby at_277) rfl ((if0 _ _).trans (feq (by decide : ¬ ((1 : Int32) = (0 : Int32)))).1) ?_
    show Steps p.tables e below (T76.setTop (mkF m 280 #[.val (.int p0), .val (.int r1), .val (.int s1), .val (.int r2), .val (.int s2), .val (.int r3), .val (.int s3), .val (.ref b53), .val (.int ((0 : Int32) ||| r1)), .val (.int ((0 : Int32) ||| s1)), .val (.int (((0 : Int32) ||| r1) ||| r2)), .val (.int (((0 : Int32) ||| s1) ||| s2)), .val (.int ((((0 : Int32) ||| r1) ||| r2) ||| r3)), .val (.int ((((0 : Int32) ||| s1) ||| s2) ||| s3)), .val (.int (1 : Int32)), .val (.int (1 : Int32)), .val (.int (1 : Int32))] [])) _
    refine XS.iload X76.here hx rfl (hb hby at_280) rfl ?_
    show Steps p.tables e below (T76.setTop (mkF m 282 #[.val (.int p0), .val (.int r1), .val (.int s1), .val (.int r2), .val (.int s2), .val (.int r3), .val (.int s3), .val (.ref b53), .val (.int ((0 : Int32) ||| r1)), .val (.int ((0 : Int32) ||| s1)), .val (.int (((0 : Int32) ||| r1) ||| r2)), .val (.int (((0 : Int32) ||| s1) ||| s2)), .val (.int ((((0 : Int32) ||| r1) ||| r2) ||| r3)), .val (.int ((((0 : Int32) ||| s1) ||| s2) ||| s3)), .val (.int (1 : Int32)), .val (.int (1 : Int32)), .val (.int (1 : Int32))] [(.int (1 : Int32))])) _
    refine XS.ifNo X76.here hx rfl (hb hby at_282) rfl ((if0 _ _).trans (feq (by decide : ¬ ((1 : Int32) = (0 : Int32)))).1) ?_
    show Steps p.tables e below (T76.setTop (mkF m 285 #[.val (.int p0), .val (.int r1), .val (.int s1), .val (.int r2), .val (.int s2), .val (.int r3), .val (.int s3), .val (.ref b53), .val (.int ((0 : Int32) ||| r1)), .val (.int ((0 : Int32) ||| s1)), .val (.int (((0 : Int32) ||| r1) ||| r2)), .val (.int (((0 : Int32) ||| s1) ||| s2)), .val (.int ((((0 : Int32) ||| r1) ||| r2) ||| r3)), .val (.int ((((0 : Int32) ||| s1) ||| s2) ||| s3)), .val (.int (1 : Int32)), .val (.int (1 : Int32)), .val (.int (1 : Int32))] [])) _
    refine XS.iconst X76.here hx rfl (hb hby at_285) ?_
    show Steps p.tables e below (T76.setTop (mkF m 286 #[.val (.int p0), .val (.int r1), .val (.int s1), .val (.int r2), .val (.int s2), .val (.int r3), .val (.int s3), .val (.ref b53), .val (.int ((0 : Int32) ||| r1)), .val (.int ((0 : Int32) ||| s1)), .val (.int (((0 : Int32) ||| r1) ||| r2)), .val (.int (((0 : Int32) ||| s1) ||| s2)), .val (.int ((((0 : Int32) ||| r1) ||| r2) ||| r3)), .val (.int ((((0 : Int32) ||| s1) ||| s2) ||| s3)), .val (.int (1 : Int32)), .val (.int (1 : Int32)), .val (.int (1 : Int32))] [(.int (1 : Int32))])) _
    refine XS.goto X76.here hx rfl (pc0 := 286) (pc' := 290) rfl (hb hby at_286) (by decide) (by decide) ?_
    exact kt
  obtain ⟨fs, hr, hrun, hended, hW, hsame⟩ := X76.leave (v := some (.int (1 : Int32))) (fun h => by rw [Bd.returns] at h; cases h)
  refine ⟨_, _, ?_, hrun, hended, _, _, rfl, ?_, ⟨_, rfl⟩, hW, hsame.mono (by decide) (by decide)⟩
  · exact retN X76 hx (t := .boolean) Bd.returns (by simp) (hb hby at_290) hr
  · show Q0 Z p0 dz h0 n0 _ T76.heap _
    rw [e76]
    exact ⟨rfl, N76⟩
set_option maxRecDepth 65536 in
set_option maxHeartbeats 40000000 in
theorem comes_1 {Post : Tables → Env → Array Value → State → Outcome → State → Prop} (hpost : ∀ tb e args s v u, (limb_1_1.after args s (.returned v) u = true ∧ limb_1_2.after args s (.returned v) u = true) → FrameEnd s (.returned v) u (Jvm.fieldLocs frame_1_writes args s ++ Jvm.arrayLocs frame_1_arrays args s ++ Jvm.staticLocs frame_1_statics s) 16 128 → Post tb e args s (.returned v) u) :
    ArmFor flags0 classFile x code maxLocals ret World_1 tables_1 room_1 Calls_1 rest_1 Pre_1 Post := by
  intro l hfl _ _ p e ha hc hk s m args below hf hA hF happ hP
  obtain ⟨hcalls, hrest, hpre⟩ := hP
  obtain ⟨-, -, -, hnamed, -, -, -, hat⟩ := (Spec.applies_iff hf).mp happ
  obtain ⟨hg, hn⟩ := and_e (Cond.before_iff.mp (show (Jvm.Cond.and given_1 narrow_1).before args s = true from hpre))
  obtain ⟨hg1, hg2⟩ := and_e hg
  obtain ⟨w0, rfl⟩ : ∃ w0 : Value, args = #[w0] := by
    have hs : args.size = 1 := by simpa [Cond.value, given_1] using hg1
    obtain ⟨L⟩ := args
    match L, hs with
    | [w0], _ => exact ⟨w0, rfl⟩
  have hw := fun d (hd : d ∈ tables_1) => atoms_spec (ws := Jvm.Cond.code x code maxLocals ret :: tables_1) hat d (List.mem_cons_of_mem _ hd)
  obtain ⟨i0, ei0⟩ := is_v hg2
  obtain rfl : w0 = (.int i0) := Option.some.inj ei0
  obtain ⟨hsets, hown0⟩ := atoms_of _ (rest_1_c_eq ▸ (show rest_1_c.before _ s = true from hrest))
  obtain ⟨dz, edz⟩ := arr_v (Cond.before_iff.mp (hsets _ (List.mem_of_getElem? (i := 6) rfl)))
  have S0 := Sta.start edz (Or.inr ⟨hw _ (List.mem_of_getElem? (i := 11) rfl), hsets _ (List.mem_of_getElem? (i := 2) rfl)⟩)
  obtain ⟨n, o, h1, h2, h3, _, L, rfl, ⟨rfl, N⟩, hq⟩ := rm0 l s _ hw tables_1 i0 dz s.heap s.heap.size (Nat.le_refl _) S0 p e ha hc hk s m _ below hf ((Spec.applies_iff_loose hf).mp happ).1 ⟨rfl, State.Warmed39.refl s, rfl⟩ trivial
  refine ⟨n, _, h1, h2, h3, hpost _ _ _ _ _ _ ⟨Cond.after_iff.mpr rfl, Cond.after_iff.mpr (eq_i res_at (Term.int_eval (1)) rfl)⟩ ⟨hq.1, hq.2.1, (hq.2.2.sift fun y hy => Or.inr (N y hy)).mono (by decide) (by decide)⟩⟩
theorem main_1_1 : Claimed_1_1 := comes_1 fun _ _ _ _ _ _ h hF => ⟨h.1, hF⟩
theorem main_1_2 : Claimed_1_2 := comes_1 fun _ _ _ _ _ _ h hF => ⟨h.2, hF⟩
end Jvm.Pilot.@@N@@
namespace Jvm.Pilot.@@N@@
open Jvm Jvm.ClassFile Sem Op Lib Jvm.Free Jvm.Stand Jvm.Pilot.@@N@@.Jvm.D
/-! MADE BY PROGRAM (witnessworld.py) out of the Statement's table words and the real class files: 18 classes; the members and pool entries that the words name. The judged class is class 1, her method 1. -/
namespace start1
open Jvm.ClassFile
def u (s : String) : CpInfo := .utf8 (stringToUtf16 s)
/-- a pool by its gaps: so many unusable entries, then the entry; so many at the end -/
def gap : Nat → List CpInfo → List CpInfo
  | 0, r => r
  | n + 1, r => .unusable :: gap n r
def poolList (es : List (Nat × CpInfo)) (last : Nat) : List CpInfo := es.foldr (fun e r => gap e.1 (e.2 :: r)) (gap last [])
def pool (es : List (Nat × CpInfo)) (last : Nat) : Array CpInfo := ⟨poolList es last⟩
def fileOf (pool : Array CpInfo) (this : Nat) (attrs : Array Attribute := #[]) (ms : Array MethodInfo := #[]) (fl : Nat := 33) (sup : Nat := 0) (ifs : Array Nat := #[]) (fds : Array FieldInfo := #[]) : ClassFile where
  minorVersion := 0
  majorVersion := 65
  constantPool := pool
  accessFlags := fl
  thisClass := this
  superClass := sup
  interfaces := ifs
  fields := fds
  methods := ms
  attributes := attrs
def plain (name : String) (sup : Option ClassId) : Class where
  name := name
  kind := .ordinary
  loader := none
  accessFlags := 33
  super := sup
  interfaces := #[]
  cf := none
  fields := #[]
  methods := #[]
  instanceTypes := #[]
  staticTypes := #[]
  resolved := #[]
  callSites := []
  init := .initialized
  statics := none
  mirror := none

def pool0 : Array CpInfo := pool [(5, u "<init>"), (0, u "()V"), (1, .class_ 10), (1, u "java/lang/Object")] 113

def k0c0 : Code := { maxStack := 0, maxLocals := 1, code := object_method_1_code, exceptionTable := #[], attributes := #[] }
def k0m0 : Method := { name := "<init>", desc := "()V", sig := { parameters := [], returnType := none }, accessFlags := 1, code := some k0c0 }
/-- java/lang/Object -/
def k0 : Class := { plain "java/lang/Object" none with
  accessFlags := 33
  interfaces := #[]
  cf := some (fileOf pool0 8 #[] #[{ accessFlags := 1, nameIndex := 5, descriptorIndex := 6, attributes := #[] }] 33 0 #[] #[])
  fields := #[]
  methods := #[k0m0]
  instanceTypes := #[]
  staticTypes := #[]
  resolved := Array.replicate 124 none
  statics := none }

def pool1 : Array CpInfo := pool [(2, .class_ 4), (0, .nameAndType 5 6), (0, u "java/lang/Object"), (0, u "<init>"), (0, u "()V"), (0, .class_ 8), (0, u "com/example/assertline/assertline/policy/Audit"), (0, .methodref 7 3), (0, .methodref 7 11), (0, .nameAndType 12 13), (0, u "askFor"), (0, u "(ZZ)V"), (0, .methodref 7 15), (0, .nameAndType 16 17), (0, u "requestBody"), (0, u "()Z"), (0, .methodref 7 19), (0, .nameAndType 20 17), (0, u "responseBody"), (0, .class_ 22), (0, u "com/example/assertline/assertline/policy/AuditAskForPinLaw"), (2, u "law"), (0, u "(I)Z")] 3

def k1m0 : Method := { name := "<init>", desc := "()V", sig := { parameters := [], returnType := none }, accessFlags := 1, code := none }
def k1c1 : Code := { maxStack := 3, maxLocals := 17, code := code, exceptionTable := #[], attributes := #[] }
def k1m1 : Method := { name := "law", desc := "(I)Z", sig := { parameters := [.int], returnType := some .boolean }, accessFlags := 9, code := some k1c1 }
/-- com/example/assertline/assertline/policy/AuditAskForPinLaw -/
def k1 : Class := { plain "com/example/assertline/assertline/policy/AuditAskForPinLaw" (some 0) with
  accessFlags := 49
  interfaces := #[]
  cf := some (fileOf pool1 21 #[] #[{ accessFlags := 1, nameIndex := 5, descriptorIndex := 6, attributes := #[] }, { accessFlags := 9, nameIndex := 25, descriptorIndex := 26, attributes := #[] }] 49 2 #[] #[])
  fields := #[]
  methods := #[k1m0, k1m1]
  instanceTypes := #[]
  staticTypes := #[]
  resolved := Array.replicate 30 none
  statics := none }

def pool2 : Array CpInfo := pool [(1, .methodref 2 3), (0, .class_ 4), (0, .nameAndType 5 6), (0, u "java/lang/Object"), (0, u "<init>"), (0, u "()V"), (0, .class_ 8), (0, u "java/util/ArrayList"), (0, .methodref 7 3), (0, .fieldref 11 12), (0, .class_ 13), (0, .nameAndType 14 15), (0, u "com/example/assertline/assertline/policy/Audit"), (0, u "details"), (0, u "Ljava/util/List;"), (6, .fieldref 11 23), (0, .nameAndType 24 25), (0, u "requestBody"), (0, u "Z"), (0, .fieldref 11 27), (0, .nameAndType 28 25), (0, u "responseBody"), (12, u "()Z"), (2, u "askFor"), (0, u "(ZZ)V")] 2

def k2c0 : Code := { maxStack := 3, maxLocals := 1, code := prog_34_method_1_code, exceptionTable := #[], attributes := #[] }
def k2m0 : Method := { name := "<init>", desc := "()V", sig := { parameters := [], returnType := none }, accessFlags := 0, code := some k2c0 }
def k2c1 : Code := { maxStack := 1, maxLocals := 1, code := prog_34_method_3_code, exceptionTable := #[], attributes := #[] }
def k2m1 : Method := { name := "requestBody", desc := "()Z", sig := { parameters := [], returnType := some .boolean }, accessFlags := 1, code := some k2c1 }
def k2c2 : Code := { maxStack := 1, maxLocals := 1, code := prog_34_method_4_code, exceptionTable := #[], attributes := #[] }
def k2m2 : Method := { name := "responseBody", desc := "()Z", sig := { parameters := [], returnType := some .boolean }, accessFlags := 1, code := some k2c2 }
def k2c3 : Code := { maxStack := 3, maxLocals := 3, code := prog_34_method_6_code, exceptionTable := #[], attributes := #[] }
def k2m3 : Method := { name := "askFor", desc := "(ZZ)V", sig := { parameters := [.boolean, .boolean], returnType := none }, accessFlags := 0, code := some k2c3 }
/-- com/example/assertline/assertline/policy/Audit -/
def k2 : Class := { plain "com/example/assertline/assertline/policy/Audit" (some 0) with
  accessFlags := 49
  interfaces := #[]
  cf := some (fileOf pool2 11 #[] #[{ accessFlags := 0, nameIndex := 5, descriptorIndex := 6, attributes := #[] }, { accessFlags := 1, nameIndex := 24, descriptorIndex := 41, attributes := #[] }, { accessFlags := 1, nameIndex := 28, descriptorIndex := 41, attributes := #[] }, { accessFlags := 0, nameIndex := 44, descriptorIndex := 45, attributes := #[] }] 49 2 #[] #[{ accessFlags := 18, nameIndex := 14, descriptorIndex := 15, attributes := #[] }, { accessFlags := 2, nameIndex := 24, descriptorIndex := 25, attributes := #[] }, { accessFlags := 2, nameIndex := 28, descriptorIndex := 25, attributes := #[] }])
  fields := #[{ name := "details", type := (.object "java/util/List"), accessFlags := 18, slot := 0, constantValue := 0 }, { name := "requestBody", type := .boolean, accessFlags := 2, slot := 1, constantValue := 0 }, { name := "responseBody", type := .boolean, accessFlags := 2, slot := 2, constantValue := 0 }]
  methods := #[k2m0, k2m1, k2m2, k2m3]
  instanceTypes := #[(.object "java/util/List"), .boolean, .boolean]
  staticTypes := #[]
  resolved := Array.replicate 48 none
  statics := none }

def pool3 : Array CpInfo := pool [(8, .class_ 10), (1, u "java/lang/Iterable"), (24, .class_ 36), (0, u "java/lang/Object")] 25

/-- java/lang/Iterable -/
def k3 : Class := { plain "java/lang/Iterable" (some 0) with
  accessFlags := 1537
  interfaces := #[]
  cf := some (fileOf pool3 8 #[] #[] 1537 35 #[] #[])
  fields := #[]
  methods := #[]
  instanceTypes := #[]
  staticTypes := #[]
  resolved := Array.replicate 62 none
  statics := none }

def pool4 : Array CpInfo := pool [(10, .class_ 12), (1, u "java/util/Collection"), (47, .class_ 61), (0, u "java/lang/Object"), (0, .class_ 63), (0, u "java/lang/Iterable")] 51

/-- java/util/Collection -/
def k4 : Class := { plain "java/util/Collection" (some 0) with
  accessFlags := 1537
  interfaces := #[3]
  cf := some (fileOf pool4 10 #[] #[] 1537 60 #[62] #[])
  fields := #[]
  methods := #[]
  instanceTypes := #[]
  staticTypes := #[]
  resolved := Array.replicate 115 none
  statics := none }

def pool5 : Array CpInfo := pool [(1, .methodref 2 3), (0, .class_ 4), (0, .nameAndType 5 6), (0, u "java/lang/Object"), (0, u "<init>"), (0, u "()V"), (1, .class_ 10), (1, u "java/util/AbstractCollection"), (66, .class_ 78), (0, u "java/util/Collection")] 81

def k5c0 : Code := { maxStack := 1, maxLocals := 1, code := jdk_22_method_1_code, exceptionTable := #[], attributes := #[] }
def k5m0 : Method := { name := "<init>", desc := "()V", sig := { parameters := [], returnType := none }, accessFlags := 4, code := some k5c0 }
/-- java/util/AbstractCollection -/
def k5 : Class := { plain "java/util/AbstractCollection" (some 0) with
  accessFlags := 1057
  interfaces := #[4]
  cf := some (fileOf pool5 8 #[] #[{ accessFlags := 4, nameIndex := 5, descriptorIndex := 6, attributes := #[] }] 1057 2 #[77] #[])
  fields := #[]
  methods := #[k5m0]
  instanceTypes := #[]
  staticTypes := #[]
  resolved := Array.replicate 160 none
  statics := none }

def pool6 : Array CpInfo := pool [(8, .class_ 10), (1, u "java/util/SequencedCollection"), (15, .class_ 27), (0, u "java/lang/Object"), (0, .class_ 29), (0, u "java/util/Collection")] 27

/-- java/util/SequencedCollection -/
def k6 : Class := { plain "java/util/SequencedCollection" (some 0) with
  accessFlags := 1537
  interfaces := #[4]
  cf := some (fileOf pool6 8 #[] #[] 1537 26 #[28] #[])
  fields := #[]
  methods := #[]
  instanceTypes := #[]
  staticTypes := #[]
  resolved := Array.replicate 57 none
  statics := none }

def pool7 : Array CpInfo := pool [(8, .class_ 10), (1, u "java/util/List"), (92, .class_ 104), (0, u "java/lang/Object"), (15, .class_ 121), (0, u "java/util/SequencedCollection")] 129

/-- java/util/List -/
def k7 : Class := { plain "java/util/List" (some 0) with
  accessFlags := 1537
  interfaces := #[6]
  cf := some (fileOf pool7 8 #[] #[] 1537 103 #[120] #[])
  fields := #[]
  methods := #[]
  instanceTypes := #[]
  staticTypes := #[]
  resolved := Array.replicate 251 none
  statics := none }

def pool8 : Array CpInfo := pool [(1, .methodref 2 3), (0, .class_ 4), (0, .nameAndType 5 6), (0, u "java/util/AbstractCollection"), (0, u "<init>"), (0, u "()V"), (0, .fieldref 8 9), (0, .class_ 10), (0, .nameAndType 11 12), (0, u "java/util/AbstractList"), (0, u "modCount"), (0, u "I"), (64, .class_ 78), (0, u "java/util/AbstractList$Itr"), (3, .class_ 83), (0, u "java/util/AbstractList$ListItr"), (9, .class_ 94), (0, u "java/util/AbstractList$RandomAccessSubList"), (3, .class_ 99), (0, u "java/util/AbstractList$SubList"), (33, .class_ 134), (0, u "java/util/List"), (73, .class_ 209), (0, u "java/util/AbstractList$SubList$1"), (0, .class_ 211), (0, u "java/util/AbstractList$RandomAccessSpliterator")] 6

def k8c0 : Code := { maxStack := 2, maxLocals := 1, code := jdk_39_method_1_code, exceptionTable := #[], attributes := #[] }
def k8m0 : Method := { name := "<init>", desc := "()V", sig := { parameters := [], returnType := none }, accessFlags := 4, code := some k8c0 }
/-- java/util/AbstractList -/
def k8 : Class := { plain "java/util/AbstractList" (some 5) with
  accessFlags := 1057
  interfaces := #[7]
  cf := some (fileOf pool8 8 #[.nestMembers #[93, 98, 208, 210, 82, 77]] #[{ accessFlags := 4, nameIndex := 5, descriptorIndex := 6, attributes := #[] }] 1057 2 #[133] #[{ accessFlags := 132, nameIndex := 11, descriptorIndex := 12, attributes := #[] }])
  fields := #[{ name := "modCount", type := .int, accessFlags := 132, slot := 0, constantValue := 0 }]
  methods := #[k8m0]
  instanceTypes := #[.int]
  staticTypes := #[]
  resolved := Array.replicate 218 none
  statics := none }

def pool9 : Array CpInfo := pool [(1, .class_ 2), (0, u "java/util/RandomAccess"), (0, .class_ 4), (0, u "java/lang/Object")] 2

/-- java/util/RandomAccess -/
def k9 : Class := { plain "java/util/RandomAccess" (some 0) with
  accessFlags := 1537
  interfaces := #[]
  cf := some (fileOf pool9 1 #[] #[] 1537 3 #[] #[])
  fields := #[]
  methods := #[]
  instanceTypes := #[]
  staticTypes := #[]
  resolved := Array.replicate 7 none
  statics := none }

def pool10 : Array CpInfo := pool [(1, .class_ 2), (0, u "java/lang/Cloneable"), (0, .class_ 4), (0, u "java/lang/Object")] 2

/-- java/lang/Cloneable -/
def k10 : Class := { plain "java/lang/Cloneable" (some 0) with
  accessFlags := 1537
  interfaces := #[]
  cf := some (fileOf pool10 1 #[] #[] 1537 3 #[] #[])
  fields := #[]
  methods := #[]
  instanceTypes := #[]
  staticTypes := #[]
  resolved := Array.replicate 7 none
  statics := none }

def pool11 : Array CpInfo := pool [(1, .class_ 2), (0, u "java/io/Serializable"), (0, .class_ 4), (0, u "java/lang/Object")] 2

/-- java/io/Serializable -/
def k11 : Class := { plain "java/io/Serializable" (some 0) with
  accessFlags := 1537
  interfaces := #[]
  cf := some (fileOf pool11 1 #[] #[] 1537 3 #[] #[])
  fields := #[]
  methods := #[]
  instanceTypes := #[]
  staticTypes := #[]
  resolved := Array.replicate 7 none
  statics := none }

def pool12 : Array CpInfo := pool [(1, .methodref 2 3), (0, .class_ 4), (0, .nameAndType 5 6), (0, u "java/util/AbstractList"), (0, u "<init>"), (0, u "()V"), (2, .fieldref 10 11), (0, .class_ 12), (0, .nameAndType 13 14), (0, u "java/util/ArrayList"), (0, u "elementData"), (0, u "[Ljava/lang/Object;"), (2, u "EMPTY_ELEMENTDATA"), (21, .fieldref 10 40), (0, .nameAndType 41 14), (0, u "DEFAULTCAPACITY_EMPTY_ELEMENTDATA"), (8, u "size"), (0, u "I"), (96, .class_ 149), (0, u "java/util/List"), (112, .class_ 263), (0, u "java/util/ArrayList$ListItr"), (3, .class_ 268), (0, u "java/util/ArrayList$Itr"), (7, .class_ 277), (0, u "java/util/ArrayList$SubList"), (12, .class_ 291), (0, u "java/util/ArrayList$ArrayListSpliterator"), (37, .class_ 330), (0, u "java/util/RandomAccess"), (0, .class_ 332), (0, u "java/lang/Cloneable"), (0, .class_ 334), (0, u "java/io/Serializable"), (0, u "serialVersionUID"), (0, u "J"), (3, u "DEFAULT_CAPACITY"), (159, .class_ 501), (0, u "java/util/ArrayList$SubList$2"), (0, .class_ 503), (0, u "java/util/ArrayList$SubList$1")] 5

def k12c0 : Code := { maxStack := 2, maxLocals := 1, code := jdk_38_method_2_code, exceptionTable := #[], attributes := #[] }
def k12m0 : Method := { name := "<init>", desc := "()V", sig := { parameters := [], returnType := none }, accessFlags := 1, code := some k12c0 }
/-- java/util/ArrayList -/
def k12 : Class := { plain "java/util/ArrayList" (some 8) with
  accessFlags := 33
  interfaces := #[7, 9, 10, 11]
  cf := some (fileOf pool12 10 #[.nestMembers #[290, 276, 500, 502, 262, 267]] #[{ accessFlags := 1, nameIndex := 5, descriptorIndex := 6, attributes := #[] }] 33 2 #[148, 329, 331, 333] #[{ accessFlags := 26, nameIndex := 335, descriptorIndex := 336, attributes := #[] }, { accessFlags := 26, nameIndex := 340, descriptorIndex := 51, attributes := #[] }, { accessFlags := 26, nameIndex := 17, descriptorIndex := 14, attributes := #[] }, { accessFlags := 26, nameIndex := 41, descriptorIndex := 14, attributes := #[] }, { accessFlags := 128, nameIndex := 13, descriptorIndex := 14, attributes := #[] }, { accessFlags := 2, nameIndex := 50, descriptorIndex := 51, attributes := #[] }])
  fields := #[{ name := "serialVersionUID", type := .long, accessFlags := 26, slot := 0, constantValue := 0 }, { name := "DEFAULT_CAPACITY", type := .int, accessFlags := 26, slot := 1, constantValue := 0 }, { name := "EMPTY_ELEMENTDATA", type := (.array (.object "java/lang/Object")), accessFlags := 26, slot := 2, constantValue := 0 }, { name := "DEFAULTCAPACITY_EMPTY_ELEMENTDATA", type := (.array (.object "java/lang/Object")), accessFlags := 26, slot := 3, constantValue := 0 }, { name := "elementData", type := (.array (.object "java/lang/Object")), accessFlags := 128, slot := 1, constantValue := 0 }, { name := "size", type := .int, accessFlags := 2, slot := 2, constantValue := 0 }]
  methods := #[k12m0]
  instanceTypes := #[.int, (.array (.object "java/lang/Object")), .int]
  staticTypes := #[.long, .int, (.array (.object "java/lang/Object")), (.array (.object "java/lang/Object"))]
  resolved := Array.replicate 509 none
  statics := some 0 }

/-- the primitive byte -/
def k13 : Class := { plain "byte" none with kind := .primitive 'B', accessFlags := 0x411 }
/-- [B -/
def k14 : Class := { plain "[B" (some 0) with kind := .array 13 .byte, interfaces := #[10, 11], accessFlags := 1041 }

/-- the primitive int -/
def k15 : Class := { plain "int" none with kind := .primitive 'I', accessFlags := 0x411 }
/-- [I -/
def k16 : Class := { plain "[I" (some 0) with kind := .array 15 .int, interfaces := #[10, 11], accessFlags := 1041 }

/-- [Ljava/lang/Object; -/
def k17 : Class := { plain "[Ljava/lang/Object;" (some 0) with kind := .array 0 (.object "java/lang/Object"), interfaces := #[10, 11], accessFlags := 1041 }

def heap : Heap := #[{ cls := 12, slots := #[.long 0, .int 0, .ref 1, .ref 2], vm := .statics 12 },
  { cls := 17, slots := #[], vm := .none },
  { cls := 17, slots := #[], vm := .none }]
def classes : Array Class := #[k0, k1, k2, k3, k4, k5, k6, k7, k8, k9, k10, k11, k12, k13, k14, k15, k16, k17]
def interned : List (Array UInt16 × Addr) := []
def slotsUsed : Nat := 4
def theMethod : MethodId := ⟨1, 1⟩
def args0 : Array Value := #[.int 37]
def aboutOver (below : List Frame) : State where
  vm := { classes := classes, interned := interned.toArray }
  heap := heap
  slotsUsed := slotsUsed
  threads := #[{ frames := .invoking theMethod args0 :: below }]
def below0 : List Frame := [.native { method := ⟨0, 0⟩, args := #[] }]
def about1 : State := aboutOver below0
def p0 : Program := .bare "" "" ""
def e0 : Env := launch0.env 0 0 0
theorem w_frames : about1.frames = Frame.invoking theMethod args0 :: below0 := rfl
set_option maxRecDepth 65536 in
theorem w_args : argsFit about1.vm theMethod args0 = true := by decide +kernel
set_option maxRecDepth 65536 in
theorem w_heap : heapFits about1 = true := by decide +kernel
set_option maxRecDepth 65536 in
theorem w_runnable : about1.curStatus? = some .runnable := by decide +kernel
set_option maxRecDepth 65536 in
theorem w_alone : about1.alone = true := by decide +kernel
set_option maxRecDepth 65536 in
theorem w_named : about1.methodNamed? x = some theMethod := by decide +kernel
set_option maxRecDepth 65536 in
theorem w_hears : about1.hears theMethod below0 = true := by decide +kernel
set_option maxRecDepth 65536 in
theorem w_ripe : about1.ripe theMethod args0 below0 = true := by decide +kernel
theorem w_running : about1.status = .running := rfl
set_option maxRecDepth 65536 in
theorem w_room : about1.hasRoom e0.platform room_1 = true :=
  launch0.hasRoom_least _ room_1 (by decide +kernel) (by decide +kernel) (by decide +kernel) (by decide +kernel) (by decide +kernel) (by decide +kernel)
theorem allAtoms_all (ts : List Jvm.Cond) (a : Array Jvm.Value) (st : Jvm.State) : (allAtoms ts).before a st = ts.all (fun c => c.before a st) := by
  induction ts with
  | nil => rfl
  | cons c t ih =>
    show (Jvm.Cond.and c (allAtoms t)).before a st = _
    rw [Jvm.Cond.before_and, ih, List.all_cons]
def words1 : List Jvm.Cond := Jvm.Cond.code x code maxLocals ret :: tables_1
/-- a 'code' word, met by the world's own term for the bytes: nothing is compared byte by byte -/
theorem code_word {y : MethodName} {bytes : ByteArray} {mx : Nat} {rt : Option FieldType} {a : Array Value} {s : State} {m : MethodId} {meth : Method} {c : Code} (h1 : s.methodNamed? y = some m) (h2 : s.vm.method? m = some meth) (h3 : meth.code = some c) (h4 : c.code = bytes)
    (h5 : (c.maxLocals == mx && c.exceptionTable.isEmpty && decide (c.maxStack ≤ mostOperands) && decide (meth.sig.returnType = rt) && !meth.locks && decide (parseMethodDescriptor y.desc = some meth.sig)) = true) : (Jvm.Cond.code y bytes mx rt).before a s = true := by
  simp only [Bool.and_eq_true, beq_iff_eq, Bool.not_eq_true', decide_eq_true_eq] at h5
  obtain ⟨⟨⟨⟨⟨g1, g2⟩, g3⟩, g4⟩, g5⟩, g6⟩ := h5
  simp [Cond.before, Cond.holds, Cond.value, h1, h2, h3, h4, g1, g2, g3, g4, g5, g6]
def isCode : Jvm.Cond → Bool
  | .code _ _ _ _ => true
  | _ => false
theorem all_split {L : List Jvm.Cond} {P : Jvm.Cond → Bool} (h1 : L.all (fun c => isCode c || P c) = true) (h2 : ∀ c ∈ L.filter isCode, P c = true) : L.all P = true := by
  refine List.all_eq_true.mpr fun c hc => ?_
  have h := List.all_eq_true.mp h1 c hc
  rcases Bool.eq_false_or_eq_true (isCode c) with hi | hi
  · exact h2 c (List.mem_filter.mpr ⟨hc, hi⟩)
  · simpa [hi] using h
set_option maxRecDepth 65536 in
theorem w_c0 : (Jvm.Cond.code x code maxLocals ret).before args0 about1 = true := code_word (m := ⟨1, 1⟩) (meth := k1m1) (c := k1c1) (by decide +kernel) rfl rfl rfl (by decide +kernel)
set_option maxRecDepth 65536 in
theorem w_c1 : (Jvm.Cond.code ({ cls := "com/example/assertline/assertline/policy/Audit", name := "<init>", desc := "()V" } : Jvm.MethodName) prog_34_method_1_code (1 : Nat) (Option.none : Option Jvm.ClassFile.FieldType)).before args0 about1 = true := code_word (m := ⟨2, 0⟩) (meth := k2m0) (c := k2c0) (by decide +kernel) rfl rfl rfl (by decide +kernel)
set_option maxRecDepth 65536 in
theorem w_c2 : (Jvm.Cond.code ({ cls := "java/lang/Object", name := "<init>", desc := "()V" } : Jvm.MethodName) object_method_1_code (1 : Nat) (Option.none : Option Jvm.ClassFile.FieldType)).before args0 about1 = true := code_word (m := ⟨0, 0⟩) (meth := k0m0) (c := k0c0) (by decide +kernel) rfl rfl rfl (by decide +kernel)
set_option maxRecDepth 65536 in
theorem w_c3 : (Jvm.Cond.code ({ cls := "java/util/ArrayList", name := "<init>", desc := "()V" } : Jvm.MethodName) jdk_38_method_2_code (1 : Nat) (Option.none : Option Jvm.ClassFile.FieldType)).before args0 about1 = true := code_word (m := ⟨12, 0⟩) (meth := k12m0) (c := k12c0) (by decide +kernel) rfl rfl rfl (by decide +kernel)
set_option maxRecDepth 65536 in
theorem w_c4 : (Jvm.Cond.code ({ cls := "java/util/AbstractList", name := "<init>", desc := "()V" } : Jvm.MethodName) jdk_39_method_1_code (1 : Nat) (Option.none : Option Jvm.ClassFile.FieldType)).before args0 about1 = true := code_word (m := ⟨8, 0⟩) (meth := k8m0) (c := k8c0) (by decide +kernel) rfl rfl rfl (by decide +kernel)
set_option maxRecDepth 65536 in
theorem w_c5 : (Jvm.Cond.code ({ cls := "java/util/AbstractCollection", name := "<init>", desc := "()V" } : Jvm.MethodName) jdk_22_method_1_code (1 : Nat) (Option.none : Option Jvm.ClassFile.FieldType)).before args0 about1 = true := code_word (m := ⟨5, 0⟩) (meth := k5m0) (c := k5c0) (by decide +kernel) rfl rfl rfl (by decide +kernel)
set_option maxRecDepth 65536 in
theorem w_c6 : (Jvm.Cond.code ({ cls := "com/example/assertline/assertline/policy/Audit", name := "askFor", desc := "(ZZ)V" } : Jvm.MethodName) prog_34_method_6_code (3 : Nat) (Option.none : Option Jvm.ClassFile.FieldType)).before args0 about1 = true := code_word (m := ⟨2, 3⟩) (meth := k2m3) (c := k2c3) (by decide +kernel) rfl rfl rfl (by decide +kernel)
set_option maxRecDepth 65536 in
theorem w_c7 : (Jvm.Cond.code ({ cls := "com/example/assertline/assertline/policy/Audit", name := "requestBody", desc := "()Z" } : Jvm.MethodName) prog_34_method_3_code (1 : Nat) (Option.some Jvm.ClassFile.FieldType.boolean)).before args0 about1 = true := code_word (m := ⟨2, 1⟩) (meth := k2m1) (c := k2c1) (by decide +kernel) rfl rfl rfl (by decide +kernel)
set_option maxRecDepth 65536 in
theorem w_c8 : (Jvm.Cond.code ({ cls := "com/example/assertline/assertline/policy/Audit", name := "responseBody", desc := "()Z" } : Jvm.MethodName) prog_34_method_4_code (1 : Nat) (Option.some Jvm.ClassFile.FieldType.boolean)).before args0 about1 = true := code_word (m := ⟨2, 2⟩) (meth := k2m2) (c := k2c2) (by decide +kernel) rfl rfl rfl (by decide +kernel)
def codes1 : List Jvm.Cond := [Jvm.Cond.code x code maxLocals ret, Jvm.Cond.code ({ cls := "com/example/assertline/assertline/policy/Audit", name := "<init>", desc := "()V" } : Jvm.MethodName) prog_34_method_1_code (1 : Nat) (Option.none : Option Jvm.ClassFile.FieldType), Jvm.Cond.code ({ cls := "java/lang/Object", name := "<init>", desc := "()V" } : Jvm.MethodName) object_method_1_code (1 : Nat) (Option.none : Option Jvm.ClassFile.FieldType), Jvm.Cond.code ({ cls := "java/util/ArrayList", name := "<init>", desc := "()V" } : Jvm.MethodName) jdk_38_method_2_code (1 : Nat) (Option.none : Option Jvm.ClassFile.FieldType), Jvm.Cond.code ({ cls := "java/util/AbstractList", name := "<init>", desc := "()V" } : Jvm.MethodName) jdk_39_method_1_code (1 : Nat) (Option.none : Option Jvm.ClassFile.FieldType), Jvm.Cond.code ({ cls := "java/util/AbstractCollection", name := "<init>", desc := "()V" } : Jvm.MethodName) jdk_22_method_1_code (1 : Nat) (Option.none : Option Jvm.ClassFile.FieldType), Jvm.Cond.code ({ cls := "com/example/assertline/assertline/policy/Audit", name := "askFor", desc := "(ZZ)V" } : Jvm.MethodName) prog_34_method_6_code (3 : Nat) (Option.none : Option Jvm.ClassFile.FieldType), Jvm.Cond.code ({ cls := "com/example/assertline/assertline/policy/Audit", name := "requestBody", desc := "()Z" } : Jvm.MethodName) prog_34_method_3_code (1 : Nat) (Option.some Jvm.ClassFile.FieldType.boolean), Jvm.Cond.code ({ cls := "com/example/assertline/assertline/policy/Audit", name := "responseBody", desc := "()Z" } : Jvm.MethodName) prog_34_method_4_code (1 : Nat) (Option.some Jvm.ClassFile.FieldType.boolean)]
set_option maxRecDepth 65536 in
theorem codes_eq : words1.filter isCode = codes1 := rfl
theorem w_codes : ∀ c ∈ words1.filter isCode, c.before args0 about1 = true := by
  rw [codes_eq]
  intro c hc
  simp only [codes1, List.mem_cons, List.not_mem_nil, or_false] at hc
  rcases hc with rfl | rfl | rfl | rfl | rfl | rfl | rfl | rfl | rfl
  · exact w_c0
  · exact w_c1
  · exact w_c2
  · exact w_c3
  · exact w_c4
  · exact w_c5
  · exact w_c6
  · exact w_c7
  · exact w_c8
set_option maxRecDepth 65536 in
theorem w_t1 : (words1.take 24).all (fun c => isCode c || c.before args0 about1) = true := by decide +kernel
set_option maxRecDepth 65536 in
theorem w_t2 : ((words1.drop 24).take 24).all (fun c => isCode c || c.before args0 about1) = true := by decide +kernel
set_option maxRecDepth 65536 in
theorem w_t3 : ((words1.drop 24).drop 24).all (fun c => isCode c || c.before args0 about1) = true := by decide +kernel
theorem w_tables : (allAtoms (Jvm.Cond.code x code maxLocals ret :: tables_1)).before args0 about1 = true := by
  rw [allAtoms_all]
  show words1.all (fun c => c.before args0 about1) = true
  refine all_split ?_ w_codes
  rw [← List.take_append_drop 24 words1, List.all_append, w_t1, ← List.take_append_drop 24 (words1.drop 24), List.all_append, w_t2, w_t3]
  rfl
set_option maxRecDepth 65536 in
theorem w_rest : rest_1_c.before args0 about1 = true := by decide +kernel
set_option maxRecDepth 65536 in
theorem w_case : (Jvm.Cond.and given_1 narrow_1).before args0 about1 = true := by decide +kernel
theorem w_applies : (headSpec (Jvm.Cond.code x code maxLocals ret :: tables_1) room_1).applies x e0.platform about1 = true :=
  (Spec.applies_iff w_frames).mpr ⟨w_running, w_runnable, w_alone, w_named, w_hears, w_ripe, w_room, w_tables⟩
theorem atStart : AtStart classFile x code maxLocals ret World_1 tables_1 room_1 Calls_1 rest_1 Pre_1 launch0 p0 e0 about1 theMethod args0 below0 :=
  ⟨lists_1, trivial, launch0.admits_env _ _ _, launch0.least_env, fairChoices_fair.cas, fairChoices_fair.clock, w_frames, w_args, w_heap, w_applies, trivial, w_rest, w_case⟩
end start1
theorem witness_1 : WitnessClaimed_1 := ⟨start1.p0, start1.e0, start1.about1, start1.theMethod, start1.args0, start1.below0, start1.atStart⟩
end Jvm.Pilot.@@N@@
