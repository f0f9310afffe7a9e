import JvmDerived
import JvmDerived.Pilot.@@N@@Statement
import JvmDerived.Pilot.@@N@@Code
set_option linter.unusedVariables false
set_option linter.unusedSimpArgs false
namespace Jvm.RoadKit
open Sem ClassFile Op Lib Jvm.Stand Jvm.Free Jvm.LawKit
section New
variable {p : Program} {l : Launch} {e : Env} {R : Room} {s : State} {m : MethodId} {args : Array Value} {below : List Frame} {meth : Method} {c : Code} {T : State} {locs : List Loc} {cells slots : Nat}
theorem retI (X : Stand p l e R s m args below meth c T locs cells slots) (hx : p.tables.exec = Jvm.exec) {pc : Nat} {Ls : Array Slot} {z : Int32} {rest : List Value} (hret : meth.sig.returnType = some .int) (hd : decode c.code pc = .ok (.ireturn, 1)) {fs : List Frame}
    (hl : ∀ (f : JFrame) (acts : List Action), f.method = m → f.locked = none → f.entered = [] → (doReturn e (T.setTop f) acts (some (.int z))).1 = T.setFrames fs) : Steps p.tables e below (T.setTop (mkF m pc Ls (.int z :: rest))) (T.setFrames fs) :=
  retOut X hx hret rfl (Or.inl ⟨rfl, Or.inl rfl, _, rfl⟩) hd hl
theorem retL (X : Stand p l e R s m args below meth c T locs cells slots) (hx : p.tables.exec = Jvm.exec) {pc : Nat} {Ls : Array Slot} {z : Int64} {rest : List Value} (hret : meth.sig.returnType = some .long) (hd : decode c.code pc = .ok (.lreturn, 1)) {fs : List Frame}
    (hl : ∀ (f : JFrame) (acts : List Action), f.method = m → f.locked = none → f.entered = [] → (doReturn e (T.setTop f) acts (some (.long z))).1 = T.setFrames fs) : Steps p.tables e below (T.setTop (mkF m pc Ls (.long z :: rest))) (T.setFrames fs) :=
  retOut X hx hret rfl (Or.inr (Or.inl ⟨rfl, rfl, _, rfl⟩)) hd hl
theorem retA (X : Stand p l e R s m args below meth c T locs cells slots) (hx : p.tables.exec = Jvm.exec) {pc : Nat} {Ls : Array Slot} {z : Addr} {t : FieldType} {rest : List Value} (hret : meth.sig.returnType = some t) (ht : t.isReference = true) (hd : decode c.code pc = .ok (.areturn, 1)) {fs : List Frame}
    (hn : narrow t (.ref z) = .ref z) (hl : ∀ (f : JFrame) (acts : List Action), f.method = m → f.locked = none → f.entered = [] → (doReturn e (T.setTop f) acts (some (.ref z))).1 = T.setFrames fs) : Steps p.tables e below (T.setTop (mkF m pc Ls (.ref z :: rest))) (T.setFrames fs) :=
  retOut X hx hret hn (Or.inr (Or.inr (Or.inr (Or.inr ⟨rfl, ht, rfl⟩)))) hd hl
end New
end Jvm.RoadKit
namespace Jvm.Pilot.@@N@@
open Jvm Jvm.ClassFile Sem Op Lib Jvm.Free Jvm.Stand Jvm.LawKit Jvm.RoadKit Bundle Jvm.Pilot.@@N@@.Jvm.D
/-- the walk moves on: what runs from S' runs from S -/
theorem own_go {tb : Tables} {e : Env} {below : List Frame} {S S' : State} {P : State → Outcome → Prop} (h : ∀ t, Steps tb e below S' t → Steps tb e below S t)
    (k : ∃ s₂ o, Steps tb e below S' s₂ ∧ s₂.status = .running ∧ Ended s₂ below o ∧ P s₂ o) : ∃ s₂ o, Steps tb e below S s₂ ∧ s₂.status = .running ∧ Ended s₂ below o ∧ P s₂ o := by
  obtain ⟨s₂, o, h1, h2⟩ := k
  exact ⟨s₂, o, h _ h1, h2⟩
/-- Java's x >>> y on ints and on longs -/
def own_ushr (x y : Int32) : Int32 := (x.toUInt32 >>> (y &&& 31).toUInt32).toInt32
def own_ushrL (x : Int64) (y : Int32) : Int64 := (x.toUInt64 >>> (y &&& 0x3f).toInt64.toUInt64).toInt64
def own_shlL (x : Int64) (y : Int32) : Int64 := x <<< (y &&& 0x3f).toInt64
def own_shrL (x : Int64) (y : Int32) : Int64 := x >>> (y &&& 0x3f).toInt64
def own_shl (x y : Int32) : Int32 := x <<< (y &&& 31)
def own_shr (x y : Int32) : Int32 := x >>> (y &&& 31)
/-- an array by its places: ints (byte, char, short, boolean too), longs -/
def own_AI (Z : State) (h : Heap) (a : Addr) (ty : FieldType) (n : Nat) (g : Nat → Int32) : Prop := ∃ c : Cell, Arr Z h a c ty ∧ c.slots.size = n ∧ n < 2 ^ 31 ∧ ∀ i, i < n → c.slots[i]? = some (.int (g i))
def own_AJ (Z : State) (h : Heap) (a : Addr) (ty : FieldType) (n : Nat) (g : Nat → Int64) : Prop := ∃ c : Cell, Arr Z h a c ty ∧ c.slots.size = n ∧ n < 2 ^ 31 ∧ ∀ i, i < n → c.slots[i]? = some (.long (g i))
def own_AD (Z : State) (h : Heap) (a : Addr) (ty : FieldType) (n : Nat) (g : Nat → UInt64) : Prop := ∃ c : Cell, Arr Z h a c ty ∧ c.slots.size = n ∧ n < 2 ^ 31 ∧ ∀ i, i < n → c.slots[i]? = some (.double (g i))
def own_upd {α : Type} (g : Nat → α) (j : Nat) (v : α) : Nat → α := fun i => if i = j then v else g i
theorem own_upd_same {α : Type} (g : Nat → α) (j : Nat) (v : α) : own_upd g j v j = v := if_pos rfl
theorem own_upd_ne {α : Type} (g : Nat → α) {i j : Nat} (v : α) (h : i ≠ j) : own_upd g j v i = g i := if_neg h
section OwnArrays
variable {Z : State} {h h' : Heap} {a b : Addr} {ty : FieldType} {n sl : Nat} {v : Value} {ws : List Addr}
theorem own_AI.lt {g : Nat → Int32} (F : own_AI Z h a ty n g) : a < h.size := by obtain ⟨c, A, -⟩ := F; exact A.lt
theorem own_AI.ext {g : Nat → Int32} (F : own_AI Z h a ty n g) (E : Ext h h') : own_AI Z h' a ty n g := by obtain ⟨c, A, r⟩ := F; exact ⟨c, A.ext E, r⟩
theorem own_AI.other {g : Nat → Int32} (F : own_AI Z h b ty n g) (W : Wr h h' a sl v) (q : b ≠ a) : own_AI Z h' b ty n g := by obtain ⟨c, A, r⟩ := F; exact ⟨c, A.other W q, r⟩
theorem own_AI.keep {g : Nat → Int32} (F : own_AI Z h a ty n g) (K : Keep h h' ws) (q : a ∉ ws) : own_AI Z h' a ty n g := by obtain ⟨c, A, r⟩ := F; exact ⟨c, ⟨K.2.1 a c A.1 q, A.2⟩, r⟩
theorem own_AJ.lt {g : Nat → Int64} (F : own_AJ Z h a ty n g) : a < h.size := by obtain ⟨c, A, -⟩ := F; exact A.lt
theorem own_AJ.ext {g : Nat → Int64} (F : own_AJ Z h a ty n g) (E : Ext h h') : own_AJ Z h' a ty n g := by obtain ⟨c, A, r⟩ := F; exact ⟨c, A.ext E, r⟩
theorem own_AJ.other {g : Nat → Int64} (F : own_AJ Z h b ty n g) (W : Wr h h' a sl v) (q : b ≠ a) : own_AJ Z h' b ty n g := by obtain ⟨c, A, r⟩ := F; exact ⟨c, A.other W q, r⟩
theorem own_AJ.keep {g : Nat → Int64} (F : own_AJ Z h a ty n g) (K : Keep h h' ws) (q : a ∉ ws) : own_AJ Z h' a ty n g := by obtain ⟨c, A, r⟩ := F; exact ⟨c, ⟨K.2.1 a c A.1 q, A.2⟩, r⟩
theorem own_AD.lt {g : Nat → UInt64} (F : own_AD Z h a ty n g) : a < h.size := by obtain ⟨c, A, -⟩ := F; exact A.lt
theorem own_AD.ext {g : Nat → UInt64} (F : own_AD Z h a ty n g) (E : Ext h h') : own_AD Z h' a ty n g := by obtain ⟨c, A, r⟩ := F; exact ⟨c, A.ext E, r⟩
theorem own_AD.other {g : Nat → UInt64} (F : own_AD Z h b ty n g) (W : Wr h h' a sl v) (q : b ≠ a) : own_AD Z h' b ty n g := by obtain ⟨c, A, r⟩ := F; exact ⟨c, A.other W q, r⟩
theorem own_AD.keep {g : Nat → UInt64} (F : own_AD Z h a ty n g) (K : Keep h h' ws) (q : a ∉ ws) : own_AD Z h' a ty n g := by obtain ⟨c, A, r⟩ := F; exact ⟨c, ⟨K.2.1 a c A.1 q, A.2⟩, r⟩
theorem own_AI.set {g : Nat → Int32} {c : Cell} {x : Int32} {j : Nat} (A : Arr Z h a c ty) (S : c.slots.size = n) (M : n < 2 ^ 31) (H : ∀ i, i < n → c.slots[i]? = some (.int (g i))) (W : Wr h h' a j (.int x)) : own_AI Z h' a ty n (own_upd g j x) := by
  refine ⟨_, A.same W, (sz_set _ _ _).trans S, M, fun i hi => ?_⟩
  simp only [Cell.setSlot, Array.getElem?_setIfInBounds, own_upd]
  by_cases q : j = i
  · subst q; simp [S, hi]
  · rw [if_neg q, if_neg (fun z => q z.symm)]; exact H i hi
theorem own_AJ.set {g : Nat → Int64} {c : Cell} {x : Int64} {j : Nat} (A : Arr Z h a c ty) (S : c.slots.size = n) (M : n < 2 ^ 31) (H : ∀ i, i < n → c.slots[i]? = some (.long (g i))) (W : Wr h h' a j (.long x)) : own_AJ Z h' a ty n (own_upd g j x) := by
  refine ⟨_, A.same W, (sz_set _ _ _).trans S, M, fun i hi => ?_⟩
  simp only [Cell.setSlot, Array.getElem?_setIfInBounds, own_upd]
  by_cases q : j = i
  · subst q; simp [S, hi]
  · rw [if_neg q, if_neg (fun z => q z.symm)]; exact H i hi
theorem own_AD.set {g : Nat → UInt64} {c : Cell} {x : UInt64} {j : Nat} (A : Arr Z h a c ty) (S : c.slots.size = n) (M : n < 2 ^ 31) (H : ∀ i, i < n → c.slots[i]? = some (.double (g i))) (W : Wr h h' a j (.double x)) : own_AD Z h' a ty n (own_upd g j x) := by
  refine ⟨_, A.same W, (sz_set _ _ _).trans S, M, fun i hi => ?_⟩
  simp only [Cell.setSlot, Array.getElem?_setIfInBounds, own_upd]
  by_cases q : j = i
  · subst q; simp [S, hi]
  · rw [if_neg q, if_neg (fun z => q z.symm)]; exact H i hi
theorem own_clamp_lt (z : Int32) : z.toNatClampNeg < 2 ^ 31 := by have := z.toInt_lt; simp only [Int32.toNatClampNeg]; omega
theorem own_AI.fresh {k : ClassId} {z : Int32} (A : Arr Z h a (newA k ty z) ty) (hd : defaultValue ty = .int 0) : own_AI Z h a ty z.toNatClampNeg (fun _ => 0) :=
  ⟨_, A, sz_new _ _ _, own_clamp_lt z, fun i hi => by simp [newA, hi, hd]⟩
theorem own_AJ.fresh {k : ClassId} {z : Int32} (A : Arr Z h a (newA k ty z) ty) (hd : defaultValue ty = .long 0) : own_AJ Z h a ty z.toNatClampNeg (fun _ => 0) :=
  ⟨_, A, sz_new _ _ _, own_clamp_lt z, fun i hi => by simp [newA, hi, hd]⟩
theorem own_AD.fresh {k : ClassId} {z : Int32} (A : Arr Z h a (newA k ty z) ty) (hd : defaultValue ty = .double 0) : own_AD Z h a ty z.toNatClampNeg (fun _ => 0) :=
  ⟨_, A, sz_new _ _ _, own_clamp_lt z, fun i hi => by simp [newA, hi, hd]⟩
theorem own_in {c : Cell} {j : Int32} (S : c.slots.size = n) (q : ¬ j < 0 ∧ j.toNatClampNeg < n) : ¬ (j < 0 ∨ c.slots.size ≤ j.toNatClampNeg) := by
  rw [S]; exact fun z => z.elim q.1 (fun y => by have := q.2; omega)
theorem own_len {c : Cell} (S : c.slots.size = n) : c.slots.size.toInt32 = Int32.ofNat n := by rw [S]
theorem own_fitI {g : Nat → Int32} {c : Cell} (A : Arr Z h a c .int) (S : c.slots.size = n) (H : ∀ i, i < n → c.slots[i]? = some (.int (g i))) : FitC Z c :=
  fitC_of A fun i hi v hv => by rw [H i (S ▸ hi)] at hv; cases hv; rfl
theorem own_nst {C : String} (E : Exa Z h a C) : ∃ c : Cell, h[a]? = some c ∧ c.vm.isStatics = false := by obtain ⟨c, k, h1, -, -, h4, -⟩ := E; exact ⟨c, h1, h4⟩
theorem own_Sta_keep {C f d : String} (F : Sta Z h C f d v) (K : Keep h h' ws) (q : ∀ x ∈ ws, ∃ c : Cell, h[x]? = some c ∧ c.vm.isStatics = false) : Sta Z h' C f d v := by
  obtain ⟨cf, i, k, f, st, cell, h1, h2, h3, h4, h5, h6, h7⟩ := F
  refine ⟨cf, i, k, f, st, cell, h1, h2, h3, h4, K.2.1 st cell h5 (fun z => ?_), h6, h7⟩
  obtain ⟨c, g1, g2⟩ := q st z
  cases h5.symm.trans g1
  rw [h6] at g2
  cases g2
end OwnArrays
theorem own_lremq (x y : Int64) : x - (x / y) * y = x % y := by
  apply Int64.toInt_inj.mp
  rw [Int64.toInt_sub, Int64.toInt_mul, Int64.toInt_div, Int64.toInt_mod]
  have h := Int.mul_tdiv_add_tmod x.toInt y.toInt
  have hl := x.toInt_lt; have hg := x.le_toInt
  simp only [Int.bmod_sub_bmod, Int.sub_bmod_bmod, Int.bmod_mul_bmod, Int.mul_bmod_bmod]
  have e : x.toInt - x.toInt.tdiv y.toInt * y.toInt = x.toInt.tmod y.toInt := by rw [Int.mul_comm]; omega
  rw [e]
  have h1 := (x % y).toInt_lt; have h2 := (x % y).le_toInt
  rw [Int64.toInt_mod] at h1 h2
  exact Int.bmod_eq_of_le (by omega) (by omega)
theorem d1_0 : decode prog_29_method_3_code 0 = .ok (.lload_n 0, 1) := by decide +kernel
theorem d1_1 : decode prog_29_method_3_code 1 = .ok (.lstore_n 2, 1) := by decide +kernel
theorem d1_2 : decode prog_29_method_3_code 2 = .ok (.lload_n 2, 1) := by decide +kernel
theorem d1_3 : decode prog_29_method_3_code 3 = .ok (.lload_n 2, 1) := by decide +kernel
theorem d1_4 : decode prog_29_method_3_code 4 = .ok (.bipush 30, 2) := by decide +kernel
theorem d1_6 : decode prog_29_method_3_code 6 = .ok (.lushr, 1) := by decide +kernel
theorem d1_7 : decode prog_29_method_3_code 7 = .ok (.lxor, 1) := by decide +kernel
theorem d1_8 : decode prog_29_method_3_code 8 = .ok (.ldc2_w 19, 3) := by decide +kernel
theorem d1_11 : decode prog_29_method_3_code 11 = .ok (.lmul, 1) := by decide +kernel
theorem d1_12 : decode prog_29_method_3_code 12 = .ok (.lstore_n 2, 1) := by decide +kernel
theorem d1_13 : decode prog_29_method_3_code 13 = .ok (.lload_n 2, 1) := by decide +kernel
theorem d1_14 : decode prog_29_method_3_code 14 = .ok (.lload_n 2, 1) := by decide +kernel
theorem d1_15 : decode prog_29_method_3_code 15 = .ok (.bipush 27, 2) := by decide +kernel
theorem d1_17 : decode prog_29_method_3_code 17 = .ok (.lushr, 1) := by decide +kernel
theorem d1_18 : decode prog_29_method_3_code 18 = .ok (.lxor, 1) := by decide +kernel
theorem d1_19 : decode prog_29_method_3_code 19 = .ok (.ldc2_w 21, 3) := by decide +kernel
theorem d1_22 : decode prog_29_method_3_code 22 = .ok (.lmul, 1) := by decide +kernel
theorem d1_23 : decode prog_29_method_3_code 23 = .ok (.lstore_n 2, 1) := by decide +kernel
theorem d1_24 : decode prog_29_method_3_code 24 = .ok (.lload_n 2, 1) := by decide +kernel
theorem d1_25 : decode prog_29_method_3_code 25 = .ok (.lload_n 2, 1) := by decide +kernel
theorem d1_26 : decode prog_29_method_3_code 26 = .ok (.bipush 31, 2) := by decide +kernel
theorem d1_28 : decode prog_29_method_3_code 28 = .ok (.lushr, 1) := by decide +kernel
theorem d1_29 : decode prog_29_method_3_code 29 = .ok (.lxor, 1) := by decide +kernel
theorem d1_30 : decode prog_29_method_3_code 30 = .ok (.lreturn, 1) := by decide +kernel
theorem own_pn0 : plainName "com/example/graphcrate/graphcrate/generate/SplitMix64" = true := by first | (simp [plainName, overriddenIn]; done) | decide +kernel
def own_mix (q0 : Int64) : Int64 := let z1 : Int64 := ((q0 ^^^ (own_ushrL q0 (30 : Int32))) * (-4658895280553007687 : Int64)); let z2 : Int64 := ((z1 ^^^ (own_ushrL z1 (27 : Int32))) * (-7723592293110705685 : Int64)); (z2 ^^^ (own_ushrL z2 (31 : Int32)))
theorem own_ef_rm1 (m : MethodId) (x0 : Int64) : entryFrame m #[(.long x0)] 4 = mkF m 0 #[.val (.long x0), .second, .unset, .unset] [] := by first | rfl | (simp [entryFrame, mkF, argsToLocals, Value.category]; done)
def Q1 (Z : State) (q0 : Int64) (h0 : Heap) (n0 : Nat) (v : Option Value) (h : Heap) (L : List Loc) : Prop := v = some (.long (own_mix q0)) ∧ Fr n0 L ∧ h = h0
set_option maxRecDepth 65536 in
set_option maxHeartbeats 40000000 in
theorem rm1 (l : Launch) (Z : State) (aZ : Array Value) (hw : ∀ d ∈ tables_1, d.before aZ Z = true) (ws : List Jvm.Cond) (q0 : Int64) (h0 : Heap) (n0 : Nat) (Z0 : n0 ≤ h0.size) :
    MetFree l (⟨"com/example/graphcrate/graphcrate/generate/SplitMix64", "mix", "(J)J"⟩ : MethodName) (head1 (Jvm.Cond.code (⟨"com/example/graphcrate/graphcrate/generate/SplitMix64", "mix", "(J)J"⟩ : MethodName) prog_29_method_3_code 4 (some .long) :: ws) ({ frames := 0, cells := 0, slots := 0, locals := 0 } : Room)) (fun a U => a = #[(.long q0)] ∧ Z.Warmed39 U.vm ∧ U.heap = h0) (fun _ _ _ _ _ => True) (fun _ U o U' => ∃ v L, o = .returned v ∧ Q1 Z q0 h0 n0 v U'.heap L ∧ FrameEnd U o U' L ({ frames := 0, cells := 0, slots := 0, locals := 0 } : Room).cells ({ frames := 0, cells := 0, slots := 0, locals := 0 } : Room).slots) := by
  refine MetFree.of_bodySF (plainFor_of_name own_pn0) hisR ?_
  intro p e s m args below meth c s₁ Bd hml0 hP hK
  obtain ⟨rfl, hZ, hh⟩ := hP
  have hx := Bd.exec
  have hby := Bd.bytes
  have hml : c.maxLocals = 4 := hml0
  have hown : s.vm.findClass "com/example/graphcrate/graphcrate/generate/SplitMix64" = some m.cls := findClass_of_methodNamed Bd.named
  have hnm := (name_of_methodNamed Bd.named Bd.method).1
  have X0 : Stand p l e ({ frames := 0, cells := 0, slots := 0, locals := 0 } : Room) s m #[(.long q0)] below meth c s₁ [] 0 0 := Stand.of_body Bd
  have e0 : s₁.heap = h0 := by rw [← hh, Bd.state]; rfl
  have N0 := Fr.nil n0
  refine own_go (S' := s₁.setTop (mkF m 0 #[.val (.long q0), .second, .unset, .unset] [])) (fun t k => castTop (own_ef_rm1 m q0) k) ?_
  obtain ⟨z1, h_z1⟩ : ∃ z : Int64, z = ((q0 ^^^ (own_ushrL q0 (30 : Int32))) * (-4658895280553007687 : Int64)) := ⟨_, rfl⟩
  refine own_go (S' := s₁.setTop (mkF m 13 #[.val (.long q0), .second, .val (.long z1), .second] [])) (fun target kt => ?_) ?_
  · subst h_z1
    show Steps p.tables e below (s₁.setTop (mkF m 0 #[.val (.long q0), .second, .unset, .unset] [])) _
    refine XS.lloadN X0.here hx rfl (hb hby d1_0) rfl ?_
    show Steps p.tables e below (s₁.setTop (mkF m 1 #[.val (.long q0), .second, .unset, .unset] [(.long q0)])) _
    refine XS.lstoreN X0.here hx rfl (hb hby d1_1) rfl (l' := #[.val (.long q0), .second, .val (.long q0), .second]) rfl ?_
    show Steps p.tables e below (s₁.setTop (mkF m 2 #[.val (.long q0), .second, .val (.long q0), .second] [])) _
    refine XS.lloadN X0.here hx rfl (hb hby d1_2) rfl ?_
    show Steps p.tables e below (s₁.setTop (mkF m 3 #[.val (.long q0), .second, .val (.long q0), .second] [(.long q0)])) _
    refine XS.lloadN X0.here hx rfl (hb hby d1_3) rfl ?_
    show Steps p.tables e below (s₁.setTop (mkF m 4 #[.val (.long q0), .second, .val (.long q0), .second] [(.long q0), (.long q0)])) _
    refine XS.bipush X0.here hx rfl (hb hby d1_4) ?_
    show Steps p.tables e below (s₁.setTop (mkF m 6 #[.val (.long q0), .second, .val (.long q0), .second] [(.int (30 : Int32)), (.long q0), (.long q0)])) _
    refine XS.lushr X0.here hx rfl (hb hby d1_6) rfl ?_
    show Steps p.tables e below (s₁.setTop (mkF m 7 #[.val (.long q0), .second, .val (.long q0), .second] [(.long (own_ushrL q0 (30 : Int32))), (.long q0)])) _
    refine XS.lxor X0.here hx rfl (hb hby d1_7) rfl ?_
    show Steps p.tables e below (s₁.setTop (mkF m 8 #[.val (.long q0), .second, .val (.long q0), .second] [(.long (q0 ^^^ (own_ushrL q0 (30 : Int32))))])) _
    refine X0.ldc2Long hx hown (mvT hZ (hw _ (List.mem_of_getElem? (i := 4) rfl))) (g := (mkF m 8 #[.val (.long q0), .second, .val (.long q0), .second] [(.long (q0 ^^^ (own_ushrL q0 (30 : Int32))))])) rfl (hb hby d1_8) _ ?_
    show Steps p.tables e below (s₁.setTop (mkF m 11 #[.val (.long q0), .second, .val (.long q0), .second] [(.long (-4658895280553007687 : Int64)), (.long (q0 ^^^ (own_ushrL q0 (30 : Int32))))])) _
    refine XS.lmul X0.here hx rfl (hb hby d1_11) rfl ?_
    show Steps p.tables e below (s₁.setTop (mkF m 12 #[.val (.long q0), .second, .val (.long q0), .second] [(.long ((q0 ^^^ (own_ushrL q0 (30 : Int32))) * (-4658895280553007687 : Int64)))])) _
    refine XS.lstoreN X0.here hx rfl (hb hby d1_12) rfl (l' := #[.val (.long q0), .second, .val (.long ((q0 ^^^ (own_ushrL q0 (30 : Int32))) * (-4658895280553007687 : Int64))), .second]) rfl ?_
    exact kt
  obtain ⟨z2, h_z2⟩ : ∃ z : Int64, z = ((z1 ^^^ (own_ushrL z1 (27 : Int32))) * (-7723592293110705685 : Int64)) := ⟨_, rfl⟩
  refine own_go (S' := s₁.setTop (mkF m 24 #[.val (.long q0), .second, .val (.long z2), .second] [])) (fun target kt => ?_) ?_
  · subst h_z2
    show Steps p.tables e below (s₁.setTop (mkF m 13 #[.val (.long q0), .second, .val (.long z1), .second] [])) _
    refine XS.lloadN X0.here hx rfl (hb hby d1_13) rfl ?_
    show Steps p.tables e below (s₁.setTop (mkF m 14 #[.val (.long q0), .second, .val (.long z1), .second] [(.long z1)])) _
    refine XS.lloadN X0.here hx rfl (hb hby d1_14) rfl ?_
    show Steps p.tables e below (s₁.setTop (mkF m 15 #[.val (.long q0), .second, .val (.long z1), .second] [(.long z1), (.long z1)])) _
    refine XS.bipush X0.here hx rfl (hb hby d1_15) ?_
    show Steps p.tables e below (s₁.setTop (mkF m 17 #[.val (.long q0), .second, .val (.long z1), .second] [(.int (27 : Int32)), (.long z1), (.long z1)])) _
    refine XS.lushr X0.here hx rfl (hb hby d1_17) rfl ?_
    show Steps p.tables e below (s₁.setTop (mkF m 18 #[.val (.long q0), .second, .val (.long z1), .second] [(.long (own_ushrL z1 (27 : Int32))), (.long z1)])) _
    refine XS.lxor X0.here hx rfl (hb hby d1_18) rfl ?_
    show Steps p.tables e below (s₁.setTop (mkF m 19 #[.val (.long q0), .second, .val (.long z1), .second] [(.long (z1 ^^^ (own_ushrL z1 (27 : Int32))))])) _
    refine X0.ldc2Long hx hown (mvT hZ (hw _ (List.mem_of_getElem? (i := 5) rfl))) (g := (mkF m 19 #[.val (.long q0), .second, .val (.long z1), .second] [(.long (z1 ^^^ (own_ushrL z1 (27 : Int32))))])) rfl (hb hby d1_19) _ ?_
    show Steps p.tables e below (s₁.setTop (mkF m 22 #[.val (.long q0), .second, .val (.long z1), .second] [(.long (-7723592293110705685 : Int64)), (.long (z1 ^^^ (own_ushrL z1 (27 : Int32))))])) _
    refine XS.lmul X0.here hx rfl (hb hby d1_22) rfl ?_
    show Steps p.tables e below (s₁.setTop (mkF m 23 #[.val (.long q0), .second, .val (.long z1), .second] [(.long ((z1 ^^^ (own_ushrL z1 (27 : Int32))) * (-7723592293110705685 : Int64)))])) _
    refine XS.lstoreN X0.here hx rfl (hb hby d1_23) rfl (l' := #[.val (.long q0), .second, .val (.long ((z1 ^^^ (own_ushrL z1 (27 : Int32))) * (-7723592293110705685 : Int64))), .second]) rfl ?_
    exact kt
  refine own_go (S' := s₁.setTop (mkF m 30 #[.val (.long q0), .second, .val (.long z2), .second] [(.long (z2 ^^^ (own_ushrL z2 (31 : Int32))))])) (fun target kt => ?_) ?_
  · skip
    show Steps p.tables e below (s₁.setTop (mkF m 24 #[.val (.long q0), .second, .val (.long z2), .second] [])) _
    refine XS.lloadN X0.here hx rfl (hb hby d1_24) rfl ?_
    show Steps p.tables e below (s₁.setTop (mkF m 25 #[.val (.long q0), .second, .val (.long z2), .second] [(.long z2)])) _
    refine XS.lloadN X0.here hx rfl (hb hby d1_25) rfl ?_
    show Steps p.tables e below (s₁.setTop (mkF m 26 #[.val (.long q0), .second, .val (.long z2), .second] [(.long z2), (.long z2)])) _
    refine XS.bipush X0.here hx rfl (hb hby d1_26) ?_
    show Steps p.tables e below (s₁.setTop (mkF m 28 #[.val (.long q0), .second, .val (.long z2), .second] [(.int (31 : Int32)), (.long z2), (.long z2)])) _
    refine XS.lushr X0.here hx rfl (hb hby d1_28) rfl ?_
    show Steps p.tables e below (s₁.setTop (mkF m 29 #[.val (.long q0), .second, .val (.long z2), .second] [(.long (own_ushrL z2 (31 : Int32))), (.long z2)])) _
    refine XS.lxor X0.here hx rfl (hb hby d1_29) rfl ?_
    exact kt
  obtain ⟨fs, hr, hrun, hended, hW, hsame⟩ := X0.leave (v := some (.long (z2 ^^^ (own_ushrL z2 (31 : Int32))))) (fun h => by rw [Bd.returns] at h; cases h)
  refine ⟨_, _, ?_, hrun, hended, _, _, rfl, ?_, ⟨_, rfl⟩, hW, hsame.mono (by decide) (by decide)⟩
  · exact retL X0 hx Bd.returns (hb hby d1_30) hr
  · show Q1 Z q0 h0 n0 _ s₁.heap _
    rw [e0]
    exact ⟨(by subst h_z1 h_z2; (first | rfl | (simp only [own_mix]; done) | (simp [own_mix]; done))), N0, rfl⟩
theorem d2_0 : decode method_2_code 0 = .ok (.lload_n 0, 1) := by decide +kernel
theorem d2_1 : decode method_2_code 1 = .ok (.lstore_n 2, 1) := by decide +kernel
theorem d2_2 : decode method_2_code 2 = .ok (.lload_n 2, 1) := by decide +kernel
theorem d2_3 : decode method_2_code 3 = .ok (.lload_n 2, 1) := by decide +kernel
theorem d2_4 : decode method_2_code 4 = .ok (.bipush 31, 2) := by decide +kernel
theorem d2_6 : decode method_2_code 6 = .ok (.lushr, 1) := by decide +kernel
theorem d2_7 : decode method_2_code 7 = .ok (.lxor, 1) := by decide +kernel
theorem d2_8 : decode method_2_code 8 = .ok (.lload_n 2, 1) := by decide +kernel
theorem d2_9 : decode method_2_code 9 = .ok (.bipush 62, 2) := by decide +kernel
theorem d2_11 : decode method_2_code 11 = .ok (.lushr, 1) := by decide +kernel
theorem d2_12 : decode method_2_code 12 = .ok (.lxor, 1) := by decide +kernel
theorem d2_13 : decode method_2_code 13 = .ok (.lstore_n 2, 1) := by decide +kernel
theorem d2_14 : decode method_2_code 14 = .ok (.lload_n 2, 1) := by decide +kernel
theorem d2_15 : decode method_2_code 15 = .ok (.ldc2_w 7, 3) := by decide +kernel
theorem d2_18 : decode method_2_code 18 = .ok (.lmul, 1) := by decide +kernel
theorem d2_19 : decode method_2_code 19 = .ok (.lstore_n 2, 1) := by decide +kernel
theorem d2_20 : decode method_2_code 20 = .ok (.lload_n 2, 1) := by decide +kernel
theorem d2_21 : decode method_2_code 21 = .ok (.lload_n 2, 1) := by decide +kernel
theorem d2_22 : decode method_2_code 22 = .ok (.bipush 27, 2) := by decide +kernel
theorem d2_24 : decode method_2_code 24 = .ok (.lushr, 1) := by decide +kernel
theorem d2_25 : decode method_2_code 25 = .ok (.lxor, 1) := by decide +kernel
theorem d2_26 : decode method_2_code 26 = .ok (.lload_n 2, 1) := by decide +kernel
theorem d2_27 : decode method_2_code 27 = .ok (.bipush 54, 2) := by decide +kernel
theorem d2_29 : decode method_2_code 29 = .ok (.lushr, 1) := by decide +kernel
theorem d2_30 : decode method_2_code 30 = .ok (.lxor, 1) := by decide +kernel
theorem d2_31 : decode method_2_code 31 = .ok (.lstore_n 2, 1) := by decide +kernel
theorem d2_32 : decode method_2_code 32 = .ok (.lload_n 2, 1) := by decide +kernel
theorem d2_33 : decode method_2_code 33 = .ok (.ldc2_w 9, 3) := by decide +kernel
theorem d2_36 : decode method_2_code 36 = .ok (.lmul, 1) := by decide +kernel
theorem d2_37 : decode method_2_code 37 = .ok (.lstore_n 2, 1) := by decide +kernel
theorem d2_38 : decode method_2_code 38 = .ok (.lload_n 2, 1) := by decide +kernel
theorem d2_39 : decode method_2_code 39 = .ok (.lload_n 2, 1) := by decide +kernel
theorem d2_40 : decode method_2_code 40 = .ok (.bipush 30, 2) := by decide +kernel
theorem d2_42 : decode method_2_code 42 = .ok (.lushr, 1) := by decide +kernel
theorem d2_43 : decode method_2_code 43 = .ok (.lxor, 1) := by decide +kernel
theorem d2_44 : decode method_2_code 44 = .ok (.lload_n 2, 1) := by decide +kernel
theorem d2_45 : decode method_2_code 45 = .ok (.bipush 60, 2) := by decide +kernel
theorem d2_47 : decode method_2_code 47 = .ok (.lushr, 1) := by decide +kernel
theorem d2_48 : decode method_2_code 48 = .ok (.lxor, 1) := by decide +kernel
theorem d2_49 : decode method_2_code 49 = .ok (.lstore_n 2, 1) := by decide +kernel
theorem d2_50 : decode method_2_code 50 = .ok (.lload_n 2, 1) := by decide +kernel
theorem d2_51 : decode method_2_code 51 = .ok (.lreturn, 1) := by decide +kernel
theorem own_pn1 : plainName "com/example/graphcrate/graphcrate/generate/SplitMix64MixPinLaw" = true := by first | (simp [plainName, overriddenIn]; done) | decide +kernel
def own_unmix (q0 : Int64) : Int64 := let z1 : Int64 := ((q0 ^^^ (own_ushrL q0 (31 : Int32))) ^^^ (own_ushrL q0 (62 : Int32))); let z2 : Int64 := (z1 * (3573116690164977347 : Int64)); let z3 : Int64 := ((z2 ^^^ (own_ushrL z2 (27 : Int32))) ^^^ (own_ushrL z2 (54 : Int32))); let z4 : Int64 := (z3 * (-7575587736534282103 : Int64)); let z5 : Int64 := ((z4 ^^^ (own_ushrL z4 (30 : Int32))) ^^^ (own_ushrL z4 (60 : Int32))); z5
theorem own_ef_rm2 (m : MethodId) (x0 : Int64) : entryFrame m #[(.long x0)] 4 = mkF m 0 #[.val (.long x0), .second, .unset, .unset] [] := by first | rfl | (simp [entryFrame, mkF, argsToLocals, Value.category]; done)
def Q2 (Z : State) (q0 : Int64) (h0 : Heap) (n0 : Nat) (v : Option Value) (h : Heap) (L : List Loc) : Prop := v = some (.long (own_unmix q0)) ∧ Fr n0 L ∧ h = h0
set_option maxRecDepth 65536 in
set_option maxHeartbeats 40000000 in
theorem rm2 (l : Launch) (Z : State) (aZ : Array Value) (hw : ∀ d ∈ tables_1, d.before aZ Z = true) (ws : List Jvm.Cond) (q0 : Int64) (h0 : Heap) (n0 : Nat) (Z0 : n0 ≤ h0.size) :
    MetFree l (⟨"com/example/graphcrate/graphcrate/generate/SplitMix64MixPinLaw", "unmix", "(J)J"⟩ : MethodName) (head1 (Jvm.Cond.code (⟨"com/example/graphcrate/graphcrate/generate/SplitMix64MixPinLaw", "unmix", "(J)J"⟩ : MethodName) method_2_code 4 (some .long) :: ws) ({ frames := 0, cells := 0, slots := 0, locals := 0 } : Room)) (fun a U => a = #[(.long q0)] ∧ Z.Warmed39 U.vm ∧ U.heap = h0) (fun _ _ _ _ _ => True) (fun _ U o U' => ∃ v L, o = .returned v ∧ Q2 Z q0 h0 n0 v U'.heap L ∧ FrameEnd U o U' L ({ frames := 0, cells := 0, slots := 0, locals := 0 } : Room).cells ({ frames := 0, cells := 0, slots := 0, locals := 0 } : Room).slots) := by
  refine MetFree.of_bodySF (plainFor_of_name own_pn1) hisR ?_
  intro p e s m args below meth c s₁ Bd hml0 hP hK
  obtain ⟨rfl, hZ, hh⟩ := hP
  have hx := Bd.exec
  have hby := Bd.bytes
  have hml : c.maxLocals = 4 := hml0
  have hown : s.vm.findClass "com/example/graphcrate/graphcrate/generate/SplitMix64MixPinLaw" = some m.cls := findClass_of_methodNamed Bd.named
  have hnm := (name_of_methodNamed Bd.named Bd.method).1
  have X0 : Stand p l e ({ frames := 0, cells := 0, slots := 0, locals := 0 } : Room) s m #[(.long q0)] below meth c s₁ [] 0 0 := Stand.of_body Bd
  have e0 : s₁.heap = h0 := by rw [← hh, Bd.state]; rfl
  have N0 := Fr.nil n0
  refine own_go (S' := s₁.setTop (mkF m 0 #[.val (.long q0), .second, .unset, .unset] [])) (fun t k => castTop (own_ef_rm2 m q0) k) ?_
  obtain ⟨z1, h_z1⟩ : ∃ z : Int64, z = ((q0 ^^^ (own_ushrL q0 (31 : Int32))) ^^^ (own_ushrL q0 (62 : Int32))) := ⟨_, rfl⟩
  refine own_go (S' := s₁.setTop (mkF m 14 #[.val (.long q0), .second, .val (.long z1), .second] [])) (fun target kt => ?_) ?_
  · subst h_z1
    show Steps p.tables e below (s₁.setTop (mkF m 0 #[.val (.long q0), .second, .unset, .unset] [])) _
    refine XS.lloadN X0.here hx rfl (hb hby d2_0) rfl ?_
    show Steps p.tables e below (s₁.setTop (mkF m 1 #[.val (.long q0), .second, .unset, .unset] [(.long q0)])) _
    refine XS.lstoreN X0.here hx rfl (hb hby d2_1) rfl (l' := #[.val (.long q0), .second, .val (.long q0), .second]) rfl ?_
    show Steps p.tables e below (s₁.setTop (mkF m 2 #[.val (.long q0), .second, .val (.long q0), .second] [])) _
    refine XS.lloadN X0.here hx rfl (hb hby d2_2) rfl ?_
    show Steps p.tables e below (s₁.setTop (mkF m 3 #[.val (.long q0), .second, .val (.long q0), .second] [(.long q0)])) _
    refine XS.lloadN X0.here hx rfl (hb hby d2_3) rfl ?_
    show Steps p.tables e below (s₁.setTop (mkF m 4 #[.val (.long q0), .second, .val (.long q0), .second] [(.long q0), (.long q0)])) _
    refine XS.bipush X0.here hx rfl (hb hby d2_4) ?_
    show Steps p.tables e below (s₁.setTop (mkF m 6 #[.val (.long q0), .second, .val (.long q0), .second] [(.int (31 : Int32)), (.long q0), (.long q0)])) _
    refine XS.lushr X0.here hx rfl (hb hby d2_6) rfl ?_
    show Steps p.tables e below (s₁.setTop (mkF m 7 #[.val (.long q0), .second, .val (.long q0), .second] [(.long (own_ushrL q0 (31 : Int32))), (.long q0)])) _
    refine XS.lxor X0.here hx rfl (hb hby d2_7) rfl ?_
    show Steps p.tables e below (s₁.setTop (mkF m 8 #[.val (.long q0), .second, .val (.long q0), .second] [(.long (q0 ^^^ (own_ushrL q0 (31 : Int32))))])) _
    refine XS.lloadN X0.here hx rfl (hb hby d2_8) rfl ?_
    show Steps p.tables e below (s₁.setTop (mkF m 9 #[.val (.long q0), .second, .val (.long q0), .second] [(.long q0), (.long (q0 ^^^ (own_ushrL q0 (31 : Int32))))])) _
    refine XS.bipush X0.here hx rfl (hb hby d2_9) ?_
    show Steps p.tables e below (s₁.setTop (mkF m 11 #[.val (.long q0), .second, .val (.long q0), .second] [(.int (62 : Int32)), (.long q0), (.long (q0 ^^^ (own_ushrL q0 (31 : Int32))))])) _
    refine XS.lushr X0.here hx rfl (hb hby d2_11) rfl ?_
    show Steps p.tables e below (s₁.setTop (mkF m 12 #[.val (.long q0), .second, .val (.long q0), .second] [(.long (own_ushrL q0 (62 : Int32))), (.long (q0 ^^^ (own_ushrL q0 (31 : Int32))))])) _
    refine XS.lxor X0.here hx rfl (hb hby d2_12) rfl ?_
    show Steps p.tables e below (s₁.setTop (mkF m 13 #[.val (.long q0), .second, .val (.long q0), .second] [(.long ((q0 ^^^ (own_ushrL q0 (31 : Int32))) ^^^ (own_ushrL q0 (62 : Int32))))])) _
    refine XS.lstoreN X0.here hx rfl (hb hby d2_13) rfl (l' := #[.val (.long q0), .second, .val (.long ((q0 ^^^ (own_ushrL q0 (31 : Int32))) ^^^ (own_ushrL q0 (62 : Int32)))), .second]) rfl ?_
    exact kt
  obtain ⟨z2, h_z2⟩ : ∃ z : Int64, z = (z1 * (3573116690164977347 : Int64)) := ⟨_, rfl⟩
  refine own_go (S' := s₁.setTop (mkF m 20 #[.val (.long q0), .second, .val (.long z2), .second] [])) (fun target kt => ?_) ?_
  · subst h_z2
    show Steps p.tables e below (s₁.setTop (mkF m 14 #[.val (.long q0), .second, .val (.long z1), .second] [])) _
    refine XS.lloadN X0.here hx rfl (hb hby d2_14) rfl ?_
    show Steps p.tables e below (s₁.setTop (mkF m 15 #[.val (.long q0), .second, .val (.long z1), .second] [(.long z1)])) _
    refine X0.ldc2Long hx hown (mvT hZ (hw _ (List.mem_of_getElem? (i := 10) rfl))) (g := (mkF m 15 #[.val (.long q0), .second, .val (.long z1), .second] [(.long z1)])) rfl (hb hby d2_15) _ ?_
    show Steps p.tables e below (s₁.setTop (mkF m 18 #[.val (.long q0), .second, .val (.long z1), .second] [(.long (3573116690164977347 : Int64)), (.long z1)])) _
    refine XS.lmul X0.here hx rfl (hb hby d2_18) rfl ?_
    show Steps p.tables e below (s₁.setTop (mkF m 19 #[.val (.long q0), .second, .val (.long z1), .second] [(.long (z1 * (3573116690164977347 : Int64)))])) _
    refine XS.lstoreN X0.here hx rfl (hb hby d2_19) rfl (l' := #[.val (.long q0), .second, .val (.long (z1 * (3573116690164977347 : Int64))), .second]) rfl ?_
    exact kt
  obtain ⟨z3, h_z3⟩ : ∃ z : Int64, z = ((z2 ^^^ (own_ushrL z2 (27 : Int32))) ^^^ (own_ushrL z2 (54 : Int32))) := ⟨_, rfl⟩
  refine own_go (S' := s₁.setTop (mkF m 32 #[.val (.long q0), .second, .val (.long z3), .second] [])) (fun target kt => ?_) ?_
  · subst h_z3
    show Steps p.tables e below (s₁.setTop (mkF m 20 #[.val (.long q0), .second, .val (.long z2), .second] [])) _
    refine XS.lloadN X0.here hx rfl (hb hby d2_20) rfl ?_
    show Steps p.tables e below (s₁.setTop (mkF m 21 #[.val (.long q0), .second, .val (.long z2), .second] [(.long z2)])) _
    refine XS.lloadN X0.here hx rfl (hb hby d2_21) rfl ?_
    show Steps p.tables e below (s₁.setTop (mkF m 22 #[.val (.long q0), .second, .val (.long z2), .second] [(.long z2), (.long z2)])) _
    refine XS.bipush X0.here hx rfl (hb hby d2_22) ?_
    show Steps p.tables e below (s₁.setTop (mkF m 24 #[.val (.long q0), .second, .val (.long z2), .second] [(.int (27 : Int32)), (.long z2), (.long z2)])) _
    refine XS.lushr X0.here hx rfl (hb hby d2_24) rfl ?_
    show Steps p.tables e below (s₁.setTop (mkF m 25 #[.val (.long q0), .second, .val (.long z2), .second] [(.long (own_ushrL z2 (27 : Int32))), (.long z2)])) _
    refine XS.lxor X0.here hx rfl (hb hby d2_25) rfl ?_
    show Steps p.tables e below (s₁.setTop (mkF m 26 #[.val (.long q0), .second, .val (.long z2), .second] [(.long (z2 ^^^ (own_ushrL z2 (27 : Int32))))])) _
    refine XS.lloadN X0.here hx rfl (hb hby d2_26) rfl ?_
    show Steps p.tables e below (s₁.setTop (mkF m 27 #[.val (.long q0), .second, .val (.long z2), .second] [(.long z2), (.long (z2 ^^^ (own_ushrL z2 (27 : Int32))))])) _
    refine XS.bipush X0.here hx rfl (hb hby d2_27) ?_
    show Steps p.tables e below (s₁.setTop (mkF m 29 #[.val (.long q0), .second, .val (.long z2), .second] [(.int (54 : Int32)), (.long z2), (.long (z2 ^^^ (own_ushrL z2 (27 : Int32))))])) _
    refine XS.lushr X0.here hx rfl (hb hby d2_29) rfl ?_
    show Steps p.tables e below (s₁.setTop (mkF m 30 #[.val (.long q0), .second, .val (.long z2), .second] [(.long (own_ushrL z2 (54 : Int32))), (.long (z2 ^^^ (own_ushrL z2 (27 : Int32))))])) _
    refine XS.lxor X0.here hx rfl (hb hby d2_30) rfl ?_
    show Steps p.tables e below (s₁.setTop (mkF m 31 #[.val (.long q0), .second, .val (.long z2), .second] [(.long ((z2 ^^^ (own_ushrL z2 (27 : Int32))) ^^^ (own_ushrL z2 (54 : Int32))))])) _
    refine XS.lstoreN X0.here hx rfl (hb hby d2_31) rfl (l' := #[.val (.long q0), .second, .val (.long ((z2 ^^^ (own_ushrL z2 (27 : Int32))) ^^^ (own_ushrL z2 (54 : Int32)))), .second]) rfl ?_
    exact kt
  obtain ⟨z4, h_z4⟩ : ∃ z : Int64, z = (z3 * (-7575587736534282103 : Int64)) := ⟨_, rfl⟩
  refine own_go (S' := s₁.setTop (mkF m 38 #[.val (.long q0), .second, .val (.long z4), .second] [])) (fun target kt => ?_) ?_
  · subst h_z4
    show Steps p.tables e below (s₁.setTop (mkF m 32 #[.val (.long q0), .second, .val (.long z3), .second] [])) _
    refine XS.lloadN X0.here hx rfl (hb hby d2_32) rfl ?_
    show Steps p.tables e below (s₁.setTop (mkF m 33 #[.val (.long q0), .second, .val (.long z3), .second] [(.long z3)])) _
    refine X0.ldc2Long hx hown (mvT hZ (hw _ (List.mem_of_getElem? (i := 11) rfl))) (g := (mkF m 33 #[.val (.long q0), .second, .val (.long z3), .second] [(.long z3)])) rfl (hb hby d2_33) _ ?_
    show Steps p.tables e below (s₁.setTop (mkF m 36 #[.val (.long q0), .second, .val (.long z3), .second] [(.long (-7575587736534282103 : Int64)), (.long z3)])) _
    refine XS.lmul X0.here hx rfl (hb hby d2_36) rfl ?_
    show Steps p.tables e below (s₁.setTop (mkF m 37 #[.val (.long q0), .second, .val (.long z3), .second] [(.long (z3 * (-7575587736534282103 : Int64)))])) _
    refine XS.lstoreN X0.here hx rfl (hb hby d2_37) rfl (l' := #[.val (.long q0), .second, .val (.long (z3 * (-7575587736534282103 : Int64))), .second]) rfl ?_
    exact kt
  obtain ⟨z5, h_z5⟩ : ∃ z : Int64, z = ((z4 ^^^ (own_ushrL z4 (30 : Int32))) ^^^ (own_ushrL z4 (60 : Int32))) := ⟨_, rfl⟩
  refine own_go (S' := s₁.setTop (mkF m 50 #[.val (.long q0), .second, .val (.long z5), .second] [])) (fun target kt => ?_) ?_
  · subst h_z5
    show Steps p.tables e below (s₁.setTop (mkF m 38 #[.val (.long q0), .second, .val (.long z4), .second] [])) _
    refine XS.lloadN X0.here hx rfl (hb hby d2_38) rfl ?_
    show Steps p.tables e below (s₁.setTop (mkF m 39 #[.val (.long q0), .second, .val (.long z4), .second] [(.long z4)])) _
    refine XS.lloadN X0.here hx rfl (hb hby d2_39) rfl ?_
    show Steps p.tables e below (s₁.setTop (mkF m 40 #[.val (.long q0), .second, .val (.long z4), .second] [(.long z4), (.long z4)])) _
    refine XS.bipush X0.here hx rfl (hb hby d2_40) ?_
    show Steps p.tables e below (s₁.setTop (mkF m 42 #[.val (.long q0), .second, .val (.long z4), .second] [(.int (30 : Int32)), (.long z4), (.long z4)])) _
    refine XS.lushr X0.here hx rfl (hb hby d2_42) rfl ?_
    show Steps p.tables e below (s₁.setTop (mkF m 43 #[.val (.long q0), .second, .val (.long z4), .second] [(.long (own_ushrL z4 (30 : Int32))), (.long z4)])) _
    refine XS.lxor X0.here hx rfl (hb hby d2_43) rfl ?_
    show Steps p.tables e below (s₁.setTop (mkF m 44 #[.val (.long q0), .second, .val (.long z4), .second] [(.long (z4 ^^^ (own_ushrL z4 (30 : Int32))))])) _
    refine XS.lloadN X0.here hx rfl (hb hby d2_44) rfl ?_
    show Steps p.tables e below (s₁.setTop (mkF m 45 #[.val (.long q0), .second, .val (.long z4), .second] [(.long z4), (.long (z4 ^^^ (own_ushrL z4 (30 : Int32))))])) _
    refine XS.bipush X0.here hx rfl (hb hby d2_45) ?_
    show Steps p.tables e below (s₁.setTop (mkF m 47 #[.val (.long q0), .second, .val (.long z4), .second] [(.int (60 : Int32)), (.long z4), (.long (z4 ^^^ (own_ushrL z4 (30 : Int32))))])) _
    refine XS.lushr X0.here hx rfl (hb hby d2_47) rfl ?_
    show Steps p.tables e below (s₁.setTop (mkF m 48 #[.val (.long q0), .second, .val (.long z4), .second] [(.long (own_ushrL z4 (60 : Int32))), (.long (z4 ^^^ (own_ushrL z4 (30 : Int32))))])) _
    refine XS.lxor X0.here hx rfl (hb hby d2_48) rfl ?_
    show Steps p.tables e below (s₁.setTop (mkF m 49 #[.val (.long q0), .second, .val (.long z4), .second] [(.long ((z4 ^^^ (own_ushrL z4 (30 : Int32))) ^^^ (own_ushrL z4 (60 : Int32))))])) _
    refine XS.lstoreN X0.here hx rfl (hb hby d2_49) rfl (l' := #[.val (.long q0), .second, .val (.long ((z4 ^^^ (own_ushrL z4 (30 : Int32))) ^^^ (own_ushrL z4 (60 : Int32)))), .second]) rfl ?_
    exact kt
  refine own_go (S' := s₁.setTop (mkF m 51 #[.val (.long q0), .second, .val (.long z5), .second] [(.long z5)])) (fun target kt => ?_) ?_
  · skip
    show Steps p.tables e below (s₁.setTop (mkF m 50 #[.val (.long q0), .second, .val (.long z5), .second] [])) _
    refine XS.lloadN X0.here hx rfl (hb hby d2_50) rfl ?_
    exact kt
  obtain ⟨fs, hr, hrun, hended, hW, hsame⟩ := X0.leave (v := some (.long z5)) (fun h => by rw [Bd.returns] at h; cases h)
  refine ⟨_, _, ?_, hrun, hended, _, _, rfl, ?_, ⟨_, rfl⟩, hW, hsame.mono (by decide) (by decide)⟩
  · exact retL X0 hx Bd.returns (hb hby d2_51) hr
  · show Q2 Z q0 h0 n0 _ s₁.heap _
    rw [e0]
    exact ⟨(by subst h_z1 h_z2 h_z3 h_z4 h_z5; (first | rfl | (simp only [own_unmix]; done) | (simp [own_unmix]; done))), N0, rfl⟩
theorem own_bv (x : Int64) (y : Int32) (k : Nat) (hk : k < 64) (h : ((y &&& 0x3f).toInt64.toUInt64.toBitVec % 64#64).toNat = k) : (own_ushrL x y).toBitVec = x.toBitVec >>> k := by
  show (x.toUInt64 >>> (y &&& 0x3f).toInt64.toUInt64).toBitVec = _
  have h' : ((y &&& 0x3f).toInt64.toUInt64.toBitVec % 64).toNat = k := h
  rw [UInt64.toBitVec_shiftRight, BitVec.ushiftRight_eq', h']
  rfl
theorem own_xs_a (x : BitVec 64) (k : Nat) (hk : 64 ≤ 3 * k) : ((x ^^^ (x >>> k)) ^^^ ((x ^^^ (x >>> k)) >>> k)) ^^^ ((x ^^^ (x >>> k)) >>> (2 * k)) = x := by
  ext i hi
  have h3 : x.getLsbD (k + (2 * k + i)) = false := BitVec.getLsbD_of_ge x _ (by omega)
  simp only [BitVec.getElem_xor, BitVec.getElem_ushiftRight, BitVec.getLsbD_xor, BitVec.getLsbD_ushiftRight, h3]
  rw [show k + (k + i) = 2 * k + i by omega]
  generalize x[i] = a
  generalize x.getLsbD (k + i) = b
  generalize x.getLsbD (2 * k + i) = c
  cases a <;> cases b <;> cases c <;> rfl
theorem own_xs_b (x : BitVec 64) (k : Nat) (hk : 64 ≤ 3 * k) : ((x ^^^ (x >>> k)) ^^^ (x >>> (2 * k))) ^^^ (((x ^^^ (x >>> k)) ^^^ (x >>> (2 * k))) >>> k) = x := by
  ext i hi
  have h3 : x.getLsbD (2 * k + (k + i)) = false := BitVec.getLsbD_of_ge x _ (by omega)
  simp only [BitVec.getElem_xor, BitVec.getElem_ushiftRight, BitVec.getLsbD_xor, BitVec.getLsbD_ushiftRight, h3]
  rw [show k + (k + i) = 2 * k + i by omega]
  generalize x[i] = a
  generalize x.getLsbD (k + i) = b
  generalize x.getLsbD (2 * k + i) = c
  cases a <;> cases b <;> cases c <;> rfl
theorem own_inv_a (x : Int64) (y y2 : Int32) (k : Nat) (hk : k < 64) (hk2 : 2 * k < 64) (hk3 : 64 ≤ 3 * k) (h : ((y &&& 0x3f).toInt64.toUInt64.toBitVec % 64#64).toNat = k) (h2 : ((y2 &&& 0x3f).toInt64.toUInt64.toBitVec % 64#64).toNat = 2 * k) :
    (((x ^^^ own_ushrL x y) ^^^ own_ushrL (x ^^^ own_ushrL x y) y) ^^^ own_ushrL (x ^^^ own_ushrL x y) y2) = x := by
  apply Int64.toBitVec_inj.mp
  simp only [Int64.toBitVec_xor, own_bv _ y k hk h, own_bv _ y2 (2 * k) hk2 h2]
  exact own_xs_a _ _ hk3
theorem own_inv_b (x : Int64) (y y2 : Int32) (k : Nat) (hk : k < 64) (hk2 : 2 * k < 64) (hk3 : 64 ≤ 3 * k) (h : ((y &&& 0x3f).toInt64.toUInt64.toBitVec % 64#64).toNat = k) (h2 : ((y2 &&& 0x3f).toInt64.toUInt64.toBitVec % 64#64).toNat = 2 * k) :
    (((x ^^^ own_ushrL x y) ^^^ own_ushrL x y2) ^^^ own_ushrL ((x ^^^ own_ushrL x y) ^^^ own_ushrL x y2) y) = x := by
  apply Int64.toBitVec_inj.mp
  simp only [Int64.toBitVec_xor, own_bv _ y k hk h, own_bv _ y2 (2 * k) hk2 h2]
  exact own_xs_b _ _ hk3
theorem own_mulinv {c d : Int64} (h : c * d = 1) (x : Int64) : x * c * d = x := by rw [Int64.mul_assoc, h, Int64.mul_one]
theorem own_um (q : Int64) : own_unmix (own_mix q) = q := by
  simp only [own_unmix, own_mix]
  rw [own_inv_a _ 31 62 31 (by decide) (by decide) (by decide) (by decide) (by decide), own_mulinv (by decide), own_inv_a _ 27 54 27 (by decide) (by decide) (by decide) (by decide) (by decide), own_mulinv (by decide), own_inv_a _ 30 60 30 (by decide) (by decide) (by decide) (by decide) (by decide)]
theorem own_mu (q : Int64) : own_mix (own_unmix q) = q := by
  simp only [own_unmix, own_mix]
  rw [own_inv_b _ 30 60 30 (by decide) (by decide) (by decide) (by decide) (by decide), own_mulinv (by decide), own_inv_b _ 27 54 27 (by decide) (by decide) (by decide) (by decide) (by decide), own_mulinv (by decide), own_inv_b _ 31 62 31 (by decide) (by decide) (by decide) (by decide) (by decide)]

theorem own_pd0 : parseMethodDescriptor "(J)J" = some ⟨[.long], some .long⟩ := by decide +kernel
theorem own_ef_rm0 (m : MethodId) (x0 : Int64) : entryFrame m #[(.long x0)] maxLocals = mkF m 0 #[.val (.long x0), .second, .unset, .unset, .unset, .unset] [] := by first | rfl | (simp [entryFrame, mkF, argsToLocals, Value.category, maxLocals]; done)
def Q0 (Z : State) (q0 : Int64) (h0 : Heap) (n0 : Nat) (v : Option Value) (h : Heap) (L : List Loc) : Prop := v = some (.int 1) ∧ Fr n0 L
set_option maxRecDepth 65536 in
set_option maxHeartbeats 40000000 in
theorem rm0 (l : Launch) (Z : State) (aZ : Array Value) (hw : ∀ d ∈ tables_1, d.before aZ Z = true) (ws : List Jvm.Cond) (q0 : Int64) (h0 : Heap) (n0 : Nat) (Z0 : n0 ≤ h0.size) :
    MetFree l x (head1 (Jvm.Cond.code x code maxLocals ret :: ws) room_1) (fun a U => a = #[(.long q0)] ∧ Z.Warmed39 U.vm ∧ U.heap = h0) (fun _ _ _ _ _ => True) (fun _ U o U' => ∃ v L, o = .returned v ∧ Q0 Z q0 h0 n0 v U'.heap L ∧ FrameEnd U o U' L room_1.cells room_1.slots) := by
  refine MetFree.of_bodySF (plainFor_of_name own_pn1) hisR ?_
  intro p e s m args below meth c s₁ Bd hml0 hP hK
  obtain ⟨rfl, hZ, hh⟩ := hP
  have hx := Bd.exec
  have hby := Bd.bytes
  have hml : c.maxLocals = 6 := hml0
  have hown : s.vm.findClass "com/example/graphcrate/graphcrate/generate/SplitMix64MixPinLaw" = some m.cls := findClass_of_methodNamed Bd.named
  have hnm := (name_of_methodNamed Bd.named Bd.method).1
  have X0 : Stand p l e room_1 s m #[(.long q0)] below meth c s₁ [] 0 0 := Stand.of_body Bd
  have e0 : s₁.heap = h0 := by rw [← hh, Bd.state]; rfl
  have N0 := Fr.nil n0
  refine own_go (S' := s₁.setTop (mkF m 0 #[.val (.long q0), .second, .unset, .unset, .unset, .unset] [])) (fun t k => castTop (own_ef_rm0 m q0) k) ?_
  refine own_go (S' := s₁.setTop (mkF m 1 #[.val (.long q0), .second, .unset, .unset, .unset, .unset] [(.long q0)])) (fun target kt => ?_) ?_
  · skip
    show Steps p.tables e below (s₁.setTop (mkF m 0 #[.val (.long q0), .second, .unset, .unset, .unset, .unset] [])) _
    refine XS.lloadN X0.here hx rfl (hb hby at_0) rfl ?_
    exact kt
  obtain ⟨_, _, ⟨T1, L1, k1, n1⟩, -, X1, ⟨Lc1, hQ1, l1, y1, z1⟩, st1⟩ := Jvm.LawKit.callS X0 hx (y := (⟨"com/example/graphcrate/graphcrate/generate/SplitMix64", "mix", "(J)J"⟩ : MethodName)) hown (mvT hZ (hw _ (List.mem_of_getElem? (i := 0) rfl))) (mvT hZ (hw _ (List.mem_of_getElem? (i := 1) rfl))) (mvT hZ (hw _ (List.mem_of_getElem? (i := 2) rfl))) (mvT hZ (hw _ (List.mem_of_getElem? (i := 3) rfl))) (by decide) (backOf (W := 0) (rm1 l Z aZ hw [] q0 h0 n0 Z0 ) hZ (hw _ (List.mem_of_getElem? (i := 3) rfl)) (hw _ (List.mem_of_getElem? (i := 2) rfl)) (by decide) (by decide)) (g := (mkF m 1 #[.val (.long q0), .second, .unset, .unset, .unset, .unset] [(.long q0)])) rfl (by rw [hml]; rfl) (argsL := [(.long q0)]) (rest := []) (lenOf own_pd0 rfl) rfl (by show 2 * 0 + _ ≤ _; exact Nat.le_of_eq rfl) (hb hby at_1) (fun _ _ => ⟨rfl, e0, (by decide : 0 + 0 ≤ _), (by decide : 0 + 0 ≤ _)⟩)
  dsimp only [Pt.U, Pt.locs, Pt.cells, Pt.slots] at X1 l1 y1 z1 st1 hQ1
  subst l1 y1 z1
  obtain ⟨rfl, N1q, e1⟩ := hQ1
  have N1 := Fr.app N0 N1q
  refine own_go (S' := T1.setTop (mkF m 4 #[.val (.long q0), .second, .unset, .unset, .unset, .unset] [(.long (own_mix q0))])) st1 ?_
  refine own_go (S' := T1.setTop (mkF m 6 #[.val (.long q0), .second, .val (.long (own_mix q0)), .second, .unset, .unset] [(.long q0)])) (fun target kt => ?_) ?_
  · skip
    show Steps p.tables e below (T1.setTop (mkF m 4 #[.val (.long q0), .second, .unset, .unset, .unset, .unset] [(.long (own_mix q0))])) _
    refine XS.lstoreN X1.here hx rfl (hb hby at_4) rfl (l' := #[.val (.long q0), .second, .val (.long (own_mix q0)), .second, .unset, .unset]) rfl ?_
    show Steps p.tables e below (T1.setTop (mkF m 5 #[.val (.long q0), .second, .val (.long (own_mix q0)), .second, .unset, .unset] [])) _
    refine XS.lloadN X1.here hx rfl (hb hby at_5) rfl ?_
    exact kt
  obtain ⟨_, _, ⟨T2, L2, k2, n2⟩, -, X2, ⟨Lc2, hQ2, l2, y2, z2⟩, st2⟩ := Jvm.LawKit.callS X1 hx (y := (⟨"com/example/graphcrate/graphcrate/generate/SplitMix64MixPinLaw", "unmix", "(J)J"⟩ : MethodName)) hown (mvT hZ (hw _ (List.mem_of_getElem? (i := 6) rfl))) (mvT hZ (hw _ (List.mem_of_getElem? (i := 7) rfl))) (mvT hZ (hw _ (List.mem_of_getElem? (i := 8) rfl))) (mvT hZ (hw _ (List.mem_of_getElem? (i := 9) rfl))) (by decide) (backOf (W := 0) (rm2 l Z aZ hw [] q0 h0 n0 Z0 ) hZ (hw _ (List.mem_of_getElem? (i := 9) rfl)) (hw _ (List.mem_of_getElem? (i := 8) rfl)) (by decide) (by decide)) (g := (mkF m 6 #[.val (.long q0), .second, .val (.long (own_mix q0)), .second, .unset, .unset] [(.long q0)])) rfl (by rw [hml]; rfl) (argsL := [(.long q0)]) (rest := []) (lenOf own_pd0 rfl) rfl (by show 2 * 0 + _ ≤ _; exact Nat.le_of_eq rfl) (hb hby at_6) (fun _ _ => ⟨rfl, e1, (by decide : 0 + 0 ≤ _), (by decide : 0 + 0 ≤ _)⟩)
  dsimp only [Pt.U, Pt.locs, Pt.cells, Pt.slots] at X2 l2 y2 z2 st2 hQ2
  subst l2 y2 z2
  obtain ⟨rfl, N2q, e2⟩ := hQ2
  have N2 := Fr.app N1 N2q
  refine own_go (S' := T2.setTop (mkF m 9 #[.val (.long q0), .second, .val (.long (own_mix q0)), .second, .unset, .unset] [(.long (own_unmix q0))])) st2 ?_
  obtain ⟨_, _, ⟨T3, L3, k3, n3⟩, -, X3, ⟨Lc3, hQ3, l3, y3, z3⟩, st3⟩ := Jvm.LawKit.callS X2 hx (y := (⟨"com/example/graphcrate/graphcrate/generate/SplitMix64", "mix", "(J)J"⟩ : MethodName)) hown (mvT hZ (hw _ (List.mem_of_getElem? (i := 0) rfl))) (mvT hZ (hw _ (List.mem_of_getElem? (i := 1) rfl))) (mvT hZ (hw _ (List.mem_of_getElem? (i := 2) rfl))) (mvT hZ (hw _ (List.mem_of_getElem? (i := 3) rfl))) (by decide) (backOf (W := 0) (rm1 l Z aZ hw [] (own_unmix q0) h0 n0 Z0 ) hZ (hw _ (List.mem_of_getElem? (i := 3) rfl)) (hw _ (List.mem_of_getElem? (i := 2) rfl)) (by decide) (by decide)) (g := (mkF m 9 #[.val (.long q0), .second, .val (.long (own_mix q0)), .second, .unset, .unset] [(.long (own_unmix q0))])) rfl (by rw [hml]; rfl) (argsL := [(.long (own_unmix q0))]) (rest := []) (lenOf own_pd0 rfl) rfl (by show 2 * 0 + _ ≤ _; exact Nat.le_of_eq rfl) (hb hby at_9) (fun _ _ => ⟨rfl, e2, (by decide : 0 + 0 ≤ _), (by decide : 0 + 0 ≤ _)⟩)
  dsimp only [Pt.U, Pt.locs, Pt.cells, Pt.slots] at X3 l3 y3 z3 st3 hQ3
  subst l3 y3 z3
  obtain ⟨rfl, N3q, e3⟩ := hQ3
  have N3 := Fr.app N2 N3q
  refine own_go (S' := T3.setTop (mkF m 12 #[.val (.long q0), .second, .val (.long (own_mix q0)), .second, .unset, .unset] [(.long (own_mix (own_unmix q0)))])) st3 ?_
  refine own_go (S' := T3.setTop (mkF m 15 #[.val (.long q0), .second, .val (.long (own_mix q0)), .second, .val (.long (own_mix (own_unmix q0))), .second] [(.long (own_mix q0))])) (fun target kt => ?_) ?_
  · skip
    show Steps p.tables e below (T3.setTop (mkF m 12 #[.val (.long q0), .second, .val (.long (own_mix q0)), .second, .unset, .unset] [(.long (own_mix (own_unmix q0)))])) _
    refine XS.lstore X3.here hx rfl (hb hby at_12) rfl (l' := #[.val (.long q0), .second, .val (.long (own_mix q0)), .second, .val (.long (own_mix (own_unmix q0))), .second]) rfl ?_
    show Steps p.tables e below (T3.setTop (mkF m 14 #[.val (.long q0), .second, .val (.long (own_mix q0)), .second, .val (.long (own_mix (own_unmix q0))), .second] [])) _
    refine XS.lloadN X3.here hx rfl (hb hby at_14) rfl ?_
    exact kt
  obtain ⟨_, _, ⟨T4, L4, k4, n4⟩, -, X4, ⟨Lc4, hQ4, l4, y4, z4⟩, st4⟩ := Jvm.LawKit.callS X3 hx (y := (⟨"com/example/graphcrate/graphcrate/generate/SplitMix64MixPinLaw", "unmix", "(J)J"⟩ : MethodName)) hown (mvT hZ (hw _ (List.mem_of_getElem? (i := 6) rfl))) (mvT hZ (hw _ (List.mem_of_getElem? (i := 7) rfl))) (mvT hZ (hw _ (List.mem_of_getElem? (i := 8) rfl))) (mvT hZ (hw _ (List.mem_of_getElem? (i := 9) rfl))) (by decide) (backOf (W := 0) (rm2 l Z aZ hw [] (own_mix q0) h0 n0 Z0 ) hZ (hw _ (List.mem_of_getElem? (i := 9) rfl)) (hw _ (List.mem_of_getElem? (i := 8) rfl)) (by decide) (by decide)) (g := (mkF m 15 #[.val (.long q0), .second, .val (.long (own_mix q0)), .second, .val (.long (own_mix (own_unmix q0))), .second] [(.long (own_mix q0))])) rfl (by rw [hml]; rfl) (argsL := [(.long (own_mix q0))]) (rest := []) (lenOf own_pd0 rfl) rfl (by show 2 * 0 + _ ≤ _; exact Nat.le_of_eq rfl) (hb hby at_15) (fun _ _ => ⟨rfl, e3, (by decide : 0 + 0 ≤ _), (by decide : 0 + 0 ≤ _)⟩)
  dsimp only [Pt.U, Pt.locs, Pt.cells, Pt.slots] at X4 l4 y4 z4 st4 hQ4
  subst l4 y4 z4
  obtain ⟨rfl, N4q, e4⟩ := hQ4
  have N4 := Fr.app N3 N4q
  refine own_go (S' := T4.setTop (mkF m 18 #[.val (.long q0), .second, .val (.long (own_mix q0)), .second, .val (.long (own_mix (own_unmix q0))), .second] [(.long (own_unmix (own_mix q0)))])) st4 ?_
  refine own_go (S' := T4.setTop (mkF m 35 #[.val (.long q0), .second, .val (.long (own_mix q0)), .second, .val (.long (own_mix (own_unmix q0))), .second] [(.int (1 : Int32))])) (fun target kt => ?_) ?_
  · skip
    show Steps p.tables e below (T4.setTop (mkF m 18 #[.val (.long q0), .second, .val (.long (own_mix q0)), .second, .val (.long (own_mix (own_unmix q0))), .second] [(.long (own_unmix (own_mix q0)))])) _
    refine XS.lloadN X4.here hx rfl (hb hby at_18) rfl ?_
    show Steps p.tables e below (T4.setTop (mkF m 19 #[.val (.long q0), .second, .val (.long (own_mix q0)), .second, .val (.long (own_mix (own_unmix q0))), .second] [(.long q0), (.long (own_unmix (own_mix q0)))])) _
    refine XS.lcmp X4.here hx rfl (hb hby at_19) rfl ?_
    show Steps p.tables e below (T4.setTop (mkF m 20 #[.val (.long q0), .second, .val (.long (own_mix q0)), .second, .val (.long (own_mix (own_unmix q0))), .second] [(.int (lcmpW (own_unmix (own_mix q0)) q0))])) _
    refine XS.ifNo X4.here hx rfl (hb hby at_20) rfl (show ifCond.holds .ne (lcmpW (own_unmix (own_mix q0)) q0) = false from Jvm.Free.XT.ll_ne_f (own_um _ : (own_unmix (own_mix q0)) = q0)) ?_
    show Steps p.tables e below (T4.setTop (mkF m 23 #[.val (.long q0), .second, .val (.long (own_mix q0)), .second, .val (.long (own_mix (own_unmix q0))), .second] [])) _
    refine XS.lload X4.here hx rfl (hb hby at_23) rfl ?_
    show Steps p.tables e below (T4.setTop (mkF m 25 #[.val (.long q0), .second, .val (.long (own_mix q0)), .second, .val (.long (own_mix (own_unmix q0))), .second] [(.long (own_mix (own_unmix q0)))])) _
    refine XS.lloadN X4.here hx rfl (hb hby at_25) rfl ?_
    show Steps p.tables e below (T4.setTop (mkF m 26 #[.val (.long q0), .second, .val (.long (own_mix q0)), .second, .val (.long (own_mix (own_unmix q0))), .second] [(.long q0), (.long (own_mix (own_unmix q0)))])) _
    refine XS.lcmp X4.here hx rfl (hb hby at_26) rfl ?_
    show Steps p.tables e below (T4.setTop (mkF m 27 #[.val (.long q0), .second, .val (.long (own_mix q0)), .second, .val (.long (own_mix (own_unmix q0))), .second] [(.int (lcmpW (own_mix (own_unmix q0)) q0))])) _
    refine XS.ifNo X4.here hx rfl (hb hby at_27) rfl (show ifCond.holds .ne (lcmpW (own_mix (own_unmix q0)) q0) = false from Jvm.Free.XT.ll_ne_f (own_mu _ : (own_mix (own_unmix q0)) = q0)) ?_
    show Steps p.tables e below (T4.setTop (mkF m 30 #[.val (.long q0), .second, .val (.long (own_mix q0)), .second, .val (.long (own_mix (own_unmix q0))), .second] [])) _
    refine XS.iconst X4.here hx rfl (hb hby at_30) ?_
    show Steps p.tables e below (T4.setTop (mkF m 31 #[.val (.long q0), .second, .val (.long (own_mix q0)), .second, .val (.long (own_mix (own_unmix q0))), .second] [(.int (1 : Int32))])) _
    refine XS.goto X4.here hx rfl (pc0 := 31) (pc' := 35) rfl (hb hby at_31) (by decide) (by decide) ?_
    exact kt
  obtain ⟨fs, hr, hrun, hended, hW, hsame⟩ := X4.leave (v := some (.int (1 : Int32))) (fun h => by rw [Bd.returns] at h; cases h)
  refine ⟨_, _, ?_, hrun, hended, _, _, rfl, ?_, ⟨_, rfl⟩, hW, hsame.mono (by decide) (by decide)⟩
  · exact retN X4 hx (t := .boolean) Bd.returns (by simp) (hb hby at_35) hr
  · show Q0 Z q0 h0 n0 _ T4.heap _
    rw [e4]
    exact ⟨rfl, N4⟩
set_option maxRecDepth 65536 in
set_option maxHeartbeats 40000000 in
theorem comes_1 {Post : Tables → Env → Array Value → State → Outcome → State → Prop} (hpost : ∀ tb e args s v u, (limb_1_1.after args s (.returned v) u = true ∧ limb_1_2.after args s (.returned v) u = true) → FrameEnd s (.returned v) u (Jvm.fieldLocs frame_1_writes args s ++ Jvm.arrayLocs frame_1_arrays args s ++ Jvm.staticLocs frame_1_statics s) 0 0 → Post tb e args s (.returned v) u) :
    ArmFor flags0 classFile x code maxLocals ret World_1 tables_1 room_1 Calls_1 rest_1 Pre_1 Post := by
  intro l hfl _ _ p e ha hc hk s m args below hf hA hF happ hP
  obtain ⟨hcalls, hrest, hpre⟩ := hP
  obtain ⟨-, -, -, hnamed, -, -, -, hat⟩ := (Spec.applies_iff hf).mp happ
  obtain ⟨hg, hn⟩ := and_e (Cond.before_iff.mp (show (Jvm.Cond.and given_1 narrow_1).before args s = true from hpre))
  obtain ⟨hg1, hg2⟩ := and_e hg
  obtain ⟨w0, rfl⟩ : ∃ w0 : Value, args = #[w0] := by
    have hs : args.size = 1 := by simpa [Cond.value, given_1] using hg1
    obtain ⟨L⟩ := args
    match L, hs with
    | [w0], _ => exact ⟨w0, rfl⟩
  have hw := fun d (hd : d ∈ tables_1) => atoms_spec (ws := Jvm.Cond.code x code maxLocals ret :: tables_1) hat d (List.mem_cons_of_mem _ hd)
  obtain ⟨i0, ei0⟩ := isL_v hg2
  obtain rfl : w0 = (.long i0) := Option.some.inj ei0
  obtain ⟨n, o, h1, h2, h3, _, L, rfl, ⟨rfl, N⟩, hq⟩ := rm0 l s _ hw tables_1 i0 s.heap s.heap.size (Nat.le_refl _)  p e ha hc hk s m _ below hf ((Spec.applies_iff_loose hf).mp happ).1 ⟨rfl, State.Warmed39.refl s, rfl⟩ trivial
  refine ⟨n, _, h1, h2, h3, hpost _ _ _ _ _ _ ⟨Cond.after_iff.mpr rfl, Cond.after_iff.mpr (eq_i res_at (Term.int_eval (1)) rfl)⟩ ⟨hq.1, hq.2.1, (hq.2.2.sift fun y hy => Or.inr (N y hy)).mono (by decide) (by decide)⟩⟩
theorem main_1_1 : Claimed_1_1 := comes_1 fun _ _ _ _ _ _ h hF => ⟨h.1, hF⟩
theorem main_1_2 : Claimed_1_2 := comes_1 fun _ _ _ _ _ _ h hF => ⟨h.2, hF⟩
end Jvm.Pilot.@@N@@
namespace Jvm.Pilot.@@N@@
open Jvm Jvm.ClassFile Sem Op Lib Jvm.Free Jvm.Stand Jvm.Pilot.@@N@@.Jvm.D
/-! MADE BY PROGRAM (witnessworld.py) out of the Statement's table words and the real class files: 9 classes; the members and pool entries that the words name. The judged class is class 1, her method 2. -/
namespace start1
open Jvm.ClassFile
def u (s : String) : CpInfo := .utf8 (stringToUtf16 s)
/-- a pool by its gaps: so many unusable entries, then the entry; so many at the end -/
def gap : Nat → List CpInfo → List CpInfo
  | 0, r => r
  | n + 1, r => .unusable :: gap n r
def poolList (es : List (Nat × CpInfo)) (last : Nat) : List CpInfo := es.foldr (fun e r => gap e.1 (e.2 :: r)) (gap last [])
def pool (es : List (Nat × CpInfo)) (last : Nat) : Array CpInfo := ⟨poolList es last⟩
def fileOf (pool : Array CpInfo) (this : Nat) (attrs : Array Attribute := #[]) (ms : Array MethodInfo := #[]) (fl : Nat := 33) (sup : Nat := 0) (ifs : Array Nat := #[]) (fds : Array FieldInfo := #[]) : ClassFile where
  minorVersion := 0
  majorVersion := 65
  constantPool := pool
  accessFlags := fl
  thisClass := this
  superClass := sup
  interfaces := ifs
  fields := fds
  methods := ms
  attributes := attrs
def plain (name : String) (sup : Option ClassId) : Class where
  name := name
  kind := .ordinary
  loader := none
  accessFlags := 33
  super := sup
  interfaces := #[]
  cf := none
  fields := #[]
  methods := #[]
  instanceTypes := #[]
  staticTypes := #[]
  resolved := #[]
  callSites := []
  init := .initialized
  statics := none
  mirror := none

def pool0 : Array CpInfo := pool [(5, u "<init>"), (0, u "()V"), (1, .class_ 10), (1, u "java/lang/Object")] 113

def k0m0 : Method := { name := "<init>", desc := "()V", sig := { parameters := [], returnType := none }, accessFlags := 1, code := none }
/-- java/lang/Object -/
def k0 : Class := { plain "java/lang/Object" none with
  accessFlags := 33
  interfaces := #[]
  cf := some (fileOf pool0 8 #[] #[{ accessFlags := 1, nameIndex := 5, descriptorIndex := 6, attributes := #[] }] 33 0 #[] #[])
  fields := #[]
  methods := #[k0m0]
  instanceTypes := #[]
  staticTypes := #[]
  resolved := Array.replicate 124 none
  statics := none }

def pool1 : Array CpInfo := pool [(2, .class_ 4), (1, u "java/lang/Object"), (0, u "<init>"), (0, u "()V"), (0, .long 3573116690164977347), (1, .long 10871156337175269513), (1, .methodref 12 13), (0, .class_ 14), (0, .nameAndType 15 16), (0, u "com/example/graphcrate/graphcrate/generate/SplitMix64"), (0, u "mix"), (0, u "(J)J"), (0, .methodref 18 19), (0, .class_ 20), (0, .nameAndType 21 16), (0, u "com/example/graphcrate/graphcrate/generate/SplitMix64MixPinLaw"), (0, u "unmix"), (2, u "law"), (0, u "(J)Z")] 3

def k1m0 : Method := { name := "<init>", desc := "()V", sig := { parameters := [], returnType := none }, accessFlags := 2, code := none }
def k1c1 : Code := { maxStack := 5, maxLocals := 4, code := method_2_code, exceptionTable := #[], attributes := #[] }
def k1m1 : Method := { name := "unmix", desc := "(J)J", sig := { parameters := [.long], returnType := some .long }, accessFlags := 10, code := some k1c1 }
def k1c2 : Code := { maxStack := 4, maxLocals := 6, code := code, exceptionTable := #[], attributes := #[] }
def k1m2 : Method := { name := "law", desc := "(J)Z", sig := { parameters := [.long], returnType := some .boolean }, accessFlags := 9, code := some k1c2 }
/-- com/example/graphcrate/graphcrate/generate/SplitMix64MixPinLaw -/
def k1 : Class := { plain "com/example/graphcrate/graphcrate/generate/SplitMix64MixPinLaw" (some 0) with
  accessFlags := 49
  interfaces := #[]
  cf := some (fileOf pool1 18 #[] #[{ accessFlags := 2, nameIndex := 5, descriptorIndex := 6, attributes := #[] }, { accessFlags := 10, nameIndex := 21, descriptorIndex := 16, attributes := #[] }, { accessFlags := 9, nameIndex := 24, descriptorIndex := 25, attributes := #[] }] 49 2 #[] #[])
  fields := #[]
  methods := #[k1m0, k1m1, k1m2]
  instanceTypes := #[]
  staticTypes := #[]
  resolved := Array.replicate 29 none
  statics := none }

def pool2 : Array CpInfo := pool [(2, .class_ 4), (1, u "java/lang/Object"), (3, .class_ 10), (1, u "com/example/graphcrate/graphcrate/generate/SplitMix64"), (0, u "counter"), (0, u "J"), (4, u "mix"), (0, u "(J)J"), (0, .long 13787848793156543929), (1, .long 10723151780598845931), (1, u "STEP")] 8

def k2c0 : Code := { maxStack := 5, maxLocals := 4, code := prog_29_method_3_code, exceptionTable := #[], attributes := #[] }
def k2m0 : Method := { name := "mix", desc := "(J)J", sig := { parameters := [.long], returnType := some .long }, accessFlags := 9, code := some k2c0 }
/-- com/example/graphcrate/graphcrate/generate/SplitMix64 -/
def k2 : Class := { plain "com/example/graphcrate/graphcrate/generate/SplitMix64" (some 0) with
  accessFlags := 49
  interfaces := #[]
  cf := some (fileOf pool2 8 #[] #[{ accessFlags := 9, nameIndex := 17, descriptorIndex := 18, attributes := #[] }] 49 2 #[] #[{ accessFlags := 26, nameIndex := 23, descriptorIndex := 12, attributes := #[] }, { accessFlags := 2, nameIndex := 11, descriptorIndex := 12, attributes := #[] }])
  fields := #[{ name := "STEP", type := .long, accessFlags := 26, slot := 0, constantValue := 0 }, { name := "counter", type := .long, accessFlags := 2, slot := 0, constantValue := 0 }]
  methods := #[k2m0]
  instanceTypes := #[.long]
  staticTypes := #[.long]
  resolved := Array.replicate 32 none
  statics := none }

def pool3 : Array CpInfo := pool [(1, u "java/lang/Cloneable"), (0, .class_ 1), (0, u "java/lang/Object"), (0, .class_ 3)] 3

/-- java/lang/Cloneable -/
def k3 : Class := { plain "java/lang/Cloneable" (some 0) with
  accessFlags := 1537
  interfaces := #[]
  cf := some (fileOf pool3 2 #[] #[] 1537 4 #[] #[])
  fields := #[]
  methods := #[]
  instanceTypes := #[]
  staticTypes := #[]
  resolved := Array.replicate 8 none
  statics := none }

def pool4 : Array CpInfo := pool [(1, u "java/io/Serializable"), (0, .class_ 1), (0, u "java/lang/Object"), (0, .class_ 3)] 3

/-- java/io/Serializable -/
def k4 : Class := { plain "java/io/Serializable" (some 0) with
  accessFlags := 1537
  interfaces := #[]
  cf := some (fileOf pool4 2 #[] #[] 1537 4 #[] #[])
  fields := #[]
  methods := #[]
  instanceTypes := #[]
  staticTypes := #[]
  resolved := Array.replicate 8 none
  statics := none }

/-- the primitive byte -/
def k5 : Class := { plain "byte" none with kind := .primitive 'B', accessFlags := 0x411 }
/-- [B -/
def k6 : Class := { plain "[B" (some 0) with kind := .array 5 .byte, interfaces := #[3, 4], accessFlags := 1041 }

/-- the primitive int -/
def k7 : Class := { plain "int" none with kind := .primitive 'I', accessFlags := 0x411 }
/-- [I -/
def k8 : Class := { plain "[I" (some 0) with kind := .array 7 .int, interfaces := #[3, 4], accessFlags := 1041 }

def heap : Heap := #[]
def classes : Array Class := #[k0, k1, k2, k3, k4, k5, k6, k7, k8]
def interned : List (Array UInt16 × Addr) := []
def slotsUsed : Nat := 0
def theMethod : MethodId := ⟨1, 2⟩
def args0 : Array Value := #[.long 5]
def aboutOver (below : List Frame) : State where
  vm := { classes := classes, interned := interned.toArray }
  heap := heap
  slotsUsed := slotsUsed
  threads := #[{ frames := .invoking theMethod args0 :: below }]
def below0 : List Frame := [.native { method := ⟨0, 0⟩, args := #[] }]
def about1 : State := aboutOver below0
def p0 : Program := .bare "" "" ""
def e0 : Env := launch0.env 0 0 0
theorem w_frames : about1.frames = Frame.invoking theMethod args0 :: below0 := rfl
set_option maxRecDepth 65536 in
theorem w_args : argsFit about1.vm theMethod args0 = true := by decide +kernel
set_option maxRecDepth 65536 in
theorem w_heap : heapFits about1 = true := by decide +kernel
set_option maxRecDepth 65536 in
theorem w_runnable : about1.curStatus? = some .runnable := by decide +kernel
set_option maxRecDepth 65536 in
theorem w_alone : about1.alone = true := by decide +kernel
set_option maxRecDepth 65536 in
theorem w_named : about1.methodNamed? x = some theMethod := by decide +kernel
set_option maxRecDepth 65536 in
theorem w_hears : about1.hears theMethod below0 = true := by decide +kernel
set_option maxRecDepth 65536 in
theorem w_ripe : about1.ripe theMethod args0 below0 = true := by decide +kernel
theorem w_running : about1.status = .running := rfl
set_option maxRecDepth 65536 in
theorem w_room : about1.hasRoom e0.platform room_1 = true :=
  launch0.hasRoom_least _ room_1 (by decide +kernel) (by decide +kernel) (by decide +kernel) (by decide +kernel) (by decide +kernel) (by decide +kernel)
theorem allAtoms_all (ts : List Jvm.Cond) (a : Array Jvm.Value) (st : Jvm.State) : (allAtoms ts).before a st = ts.all (fun c => c.before a st) := by
  induction ts with
  | nil => rfl
  | cons c t ih =>
    show (Jvm.Cond.and c (allAtoms t)).before a st = _
    rw [Jvm.Cond.before_and, ih, List.all_cons]
def words1 : List Jvm.Cond := Jvm.Cond.code x code maxLocals ret :: tables_1
/-- a 'code' word, met by the world's own term for the bytes: nothing is compared byte by byte -/
theorem code_word {y : MethodName} {bytes : ByteArray} {mx : Nat} {rt : Option FieldType} {a : Array Value} {s : State} {m : MethodId} {meth : Method} {c : Code} (h1 : s.methodNamed? y = some m) (h2 : s.vm.method? m = some meth) (h3 : meth.code = some c) (h4 : c.code = bytes)
    (h5 : (c.maxLocals == mx && c.exceptionTable.isEmpty && decide (c.maxStack ≤ mostOperands) && decide (meth.sig.returnType = rt) && !meth.locks && decide (parseMethodDescriptor y.desc = some meth.sig)) = true) : (Jvm.Cond.code y bytes mx rt).before a s = true := by
  simp only [Bool.and_eq_true, beq_iff_eq, Bool.not_eq_true', decide_eq_true_eq] at h5
  obtain ⟨⟨⟨⟨⟨g1, g2⟩, g3⟩, g4⟩, g5⟩, g6⟩ := h5
  simp [Cond.before, Cond.holds, Cond.value, h1, h2, h3, h4, g1, g2, g3, g4, g5, g6]
def isCode : Jvm.Cond → Bool
  | .code _ _ _ _ => true
  | _ => false
theorem all_split {L : List Jvm.Cond} {P : Jvm.Cond → Bool} (h1 : L.all (fun c => isCode c || P c) = true) (h2 : ∀ c ∈ L.filter isCode, P c = true) : L.all P = true := by
  refine List.all_eq_true.mpr fun c hc => ?_
  have h := List.all_eq_true.mp h1 c hc
  rcases Bool.eq_false_or_eq_true (isCode c) with hi | hi
  · exact h2 c (List.mem_filter.mpr ⟨hc, hi⟩)
  · simpa [hi] using h
set_option maxRecDepth 65536 in
theorem w_c0 : (Jvm.Cond.code x code maxLocals ret).before args0 about1 = true := code_word (m := ⟨1, 2⟩) (meth := k1m2) (c := k1c2) (by decide +kernel) rfl rfl rfl (by decide +kernel)
set_option maxRecDepth 65536 in
theorem w_c1 : (Jvm.Cond.code ({ cls := "com/example/graphcrate/graphcrate/generate/SplitMix64", name := "mix", desc := "(J)J" } : Jvm.MethodName) prog_29_method_3_code (4 : Nat) (Option.some Jvm.ClassFile.FieldType.long)).before args0 about1 = true := code_word (m := ⟨2, 0⟩) (meth := k2m0) (c := k2c0) (by decide +kernel) rfl rfl rfl (by decide +kernel)
set_option maxRecDepth 65536 in
theorem w_c2 : (Jvm.Cond.code ({ cls := "com/example/graphcrate/graphcrate/generate/SplitMix64MixPinLaw", name := "unmix", desc := "(J)J" } : Jvm.MethodName) method_2_code (4 : Nat) (Option.some Jvm.ClassFile.FieldType.long)).before args0 about1 = true := code_word (m := ⟨1, 1⟩) (meth := k1m1) (c := k1c1) (by decide +kernel) rfl rfl rfl (by decide +kernel)
def codes1 : List Jvm.Cond := [Jvm.Cond.code x code maxLocals ret, Jvm.Cond.code ({ cls := "com/example/graphcrate/graphcrate/generate/SplitMix64", name := "mix", desc := "(J)J" } : Jvm.MethodName) prog_29_method_3_code (4 : Nat) (Option.some Jvm.ClassFile.FieldType.long), Jvm.Cond.code ({ cls := "com/example/graphcrate/graphcrate/generate/SplitMix64MixPinLaw", name := "unmix", desc := "(J)J" } : Jvm.MethodName) method_2_code (4 : Nat) (Option.some Jvm.ClassFile.FieldType.long)]
set_option maxRecDepth 65536 in
theorem codes_eq : words1.filter isCode = codes1 := rfl
theorem w_codes : ∀ c ∈ words1.filter isCode, c.before args0 about1 = true := by
  rw [codes_eq]
  intro c hc
  simp only [codes1, List.mem_cons, List.not_mem_nil, or_false] at hc
  rcases hc with rfl | rfl | rfl
  · exact w_c0
  · exact w_c1
  · exact w_c2
set_option maxRecDepth 65536 in
theorem w_t1 : words1.all (fun c => isCode c || c.before args0 about1) = true := by decide +kernel
theorem w_tables : (allAtoms (Jvm.Cond.code x code maxLocals ret :: tables_1)).before args0 about1 = true := by
  rw [allAtoms_all]
  show words1.all (fun c => c.before args0 about1) = true
  refine all_split ?_ w_codes
  rw [w_t1]
set_option maxRecDepth 65536 in
theorem w_case : (Jvm.Cond.and given_1 narrow_1).before args0 about1 = true := by decide +kernel
theorem w_applies : (headSpec (Jvm.Cond.code x code maxLocals ret :: tables_1) room_1).applies x e0.platform about1 = true :=
  (Spec.applies_iff w_frames).mpr ⟨w_running, w_runnable, w_alone, w_named, w_hears, w_ripe, w_room, w_tables⟩
theorem atStart : AtStart classFile x code maxLocals ret World_1 tables_1 room_1 Calls_1 rest_1 Pre_1 launch0 p0 e0 about1 theMethod args0 below0 :=
  ⟨lists_1, trivial, launch0.admits_env _ _ _, launch0.least_env, fairChoices_fair.cas, fairChoices_fair.clock, w_frames, w_args, w_heap, w_applies, trivial, trivial, w_case⟩
end start1
theorem witness_1 : WitnessClaimed_1 := ⟨start1.p0, start1.e0, start1.about1, start1.theMethod, start1.args0, start1.below0, start1.atStart⟩
end Jvm.Pilot.@@N@@
